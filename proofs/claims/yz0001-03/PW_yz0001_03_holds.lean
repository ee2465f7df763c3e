import PyProof.Rows.All
import Wide.All
import OpenK.AllK
import Wide.FinOn
import PyProof.SetKind
import PyProof.SetRoads
import Lean
import PySem.Challenge.RW_yz0001_03
open PySem PySem.W PyProof.Rows
open PySem.Spec PySem.Calls
set_option Elab.async false
set_option maxRecDepth 100000
set_option maxHeartbeats 8000000
namespace Mine
open_top hd for PySem.Challenge.rw_yz0001_03
theorem gen_toks {α : Type} {M : Model} {A : Around} {t : Sem α} {Q : α → Shared → Prop} {E : Value → Shared → Prop} {h : Heap} {g : Array GenState} {d : Drawn} {X : Nat} {o : OsState}
    (H : ∀ tk : Nat, wpAny M A t Q E ⟨h, g, d, tk, o⟩) : wpAny M A t Q E ⟨h, g, d, X, o⟩ := H X
/-- a call of the def at f with these arguments ends, and what comes back is as R says; all that it makes is forgotten -/
abbrev Ctr (prog p : Program) (K : Params → Frag) (f : Addr) (args : List Value) (R : Tok → Value) : Prop :=
  ∀ (w : World) (loose : List PySem.Str) (mean : ExcName → Option Value) (mg mb : PySem.Str → Option Value)
    (dp un : Nat) (gd : Option (List Code)) (cn : PySem.Str) (cs : Scope) (a : Addr) (ccd : Value) (cl : List (PySem.Str × Addr)) (outer : List Env) (A₀ : Around) (base h₀ : Heap) (L : Addr) (m : PySem.Str → Option Value) (news : List (Addr × Obj)) (s : Shared)
    (Q E : Value → Shared → Prop),
    Below A₀ base outer h₀ → Fr h₀ L s.heap m → (K w.params).In h₀ → News h₀ L s.heap news → Top p loose mean mg mb h₀ → cs.kind = .function → dp + 200 < recursionLimit → un + 64 < cLine →
    (∀ t h' tk', Fr h₀ L h' m → News h₀ L h' news → Q (R t) { s with heap := h', toks := tk' }) →
    wpAny (model prog w) (ktrTop dp un gd cn cs L a ccd cl outer) (call (.ref f) args) Q E s

theorem ret1 {h₀ : Heap} {L : Addr} {m : PySem.Str → Option Value} {news news' : List (Addr × Obj)} {s : Shared} {Q : Value → Shared → Prop} {h' : Heap} {tk' : Nat} {x y : Int} {t : Tok}
    (hret : ∀ t h' tk', Fr h₀ L h' m → News h₀ L h' news → Q (.int x t) { s with heap := h', toks := tk' })
    (F : Fr h₀ L h' m) (N : News h₀ L h' news') (hs : ∀ p ∈ news, p ∈ news') (e : y = x) : Q (.int y t) { s with heap := h', toks := tk' } := by
  subst e
  exact hret t h' tk' F (cb_drop N hs)
/-- sizes: products and shifts of numbers within M are within the model's line -/
def SizeOk (M : Nat) : Prop := ∃ k : Nat, k ≤ 60000000 ∧ M < 2 ^ k
theorem intBits_le {a : Int} {k : Nat} (h : a.natAbs < 2 ^ k) : Builtin.Int.intBits a ≤ k := by
  unfold Builtin.Int.intBits
  split
  · exact Nat.zero_le _
  · rename_i h0
    have h0' : a.natAbs ≠ 0 := by
      intro h1
      apply h0
      have : a = 0 := by omega
      subst this
      rfl
    have := (Nat.log2_lt h0').mpr h
    omega
theorem SizeOk.mul {M : Nat} (h : SizeOk M) {a b : Int} (ha : a.natAbs ≤ M) (hb : b.natAbs ≤ M) : IntMulOk a b := by
  obtain ⟨k, hk, hM⟩ := h
  have h1 := intBits_le (Nat.lt_of_le_of_lt ha hM)
  have h2 := intBits_le (Nat.lt_of_le_of_lt hb hM)
  have h3 : Builtin.Int.intTooBig (Builtin.Int.intBits a + Builtin.Int.intBits b) = false := by
    have e : (2 : Nat) ^ 27 = 134217728 := by decide
    unfold Builtin.Int.intTooBig bitsLine
    exact decide_eq_false (by omega)
  unfold IntMulOk
  rw [h3]
  simp
theorem SizeOk.shift {M : Nat} (h : SizeOk M) {a k : Int} (ha : 0 < a) (_hk : 0 ≤ k) (hd : (a * 2 ^ k.toNat).natAbs ≤ M) : (Builtin.Int.intBits a : Int) + k ≤ 2 ^ 27 := by
  obtain ⟨j, hj, hM⟩ := h
  have h1 : a.natAbs * 2 ^ k.toNat < 2 ^ j := by
    have e : (a * 2 ^ k.toNat).natAbs = a.natAbs * 2 ^ k.toNat := by
      rw [Int.natAbs_mul, Int.natAbs_pow]; rfl
    rw [← e]
    exact Nat.lt_of_le_of_lt hd hM
  have h2 : a.natAbs < 2 ^ j := Nat.lt_of_le_of_lt (Nat.le_mul_of_pos_right _ (Nat.two_pow_pos _)) h1
  have h3 : 2 ^ k.toNat < 2 ^ j := Nat.lt_of_le_of_lt (Nat.le_mul_of_pos_left _ (by omega)) h1
  have h4 : k.toNat < j := (Nat.pow_lt_pow_iff_right (by decide)).mp h3
  have h5 := intBits_le h2
  have e : (2 : Int) ^ 27 = 134217728 := by decide
  omega
abbrev tup3 (u v d : Int) (t1 t2 t3 : Tok) : Obj := { cls := .type "tuple", data := .seq #[.int u t1, .int v t2, .int d t3] }
/-- a call of the def at f with these arguments ends, and gives a new tuple of three ints of which P holds -/
abbrev CtrT (prog p : Program) (K : Params → Frag) (f : Addr) (args : List Value) (P : Int → Int → Int → Prop) : Prop :=
  ∀ (w : World) (loose : List PySem.Str) (mean : ExcName → Option Value) (mg mb : PySem.Str → Option Value)
    (dp un : Nat) (gd : Option (List Code)) (cn : PySem.Str) (cs : Scope) (a : Addr) (ccd : Value) (cl : List (PySem.Str × Addr)) (outer : List Env) (A₀ : Around) (base h₀ : Heap) (L : Addr) (m : PySem.Str → Option Value) (news : List (Addr × Obj)) (s : Shared)
    (Q E : Value → Shared → Prop),
    Below A₀ base outer h₀ → Fr h₀ L s.heap m → (K w.params).In h₀ → News h₀ L s.heap news → Top p loose mean mg mb h₀ → cs.kind = .function → dp + 200 < recursionLimit → un + 64 < cLine →
    (∀ (D : Addr) (h' : Heap) (tk' : Nat) (x y z : Int) (t1 t2 t3 : Tok), Fr h₀ L h' m → News h₀ L h' ((D, tup3 x y z t1 t2 t3) :: news) → (∀ p ∈ news, p.1 < D) → P x y z → Q (.ref D) { s with heap := h', toks := tk' }) →
    wpAny (model prog w) (ktrTop dp un gd cn cs L a ccd cl outer) (call (.ref f) args) Q E s
theorem retT {h₀ : Heap} {L : Addr} {m : PySem.Str → Option Value} {news rest : List (Addr × Obj)} {s : Shared} {Q : Value → Shared → Prop} {h' : Heap} {tk' : Nat} {P : Int → Int → Int → Prop} {D : Addr} {x y z : Int} {t1 t2 t3 : Tok}
    (hret : ∀ (D : Addr) (h' : Heap) (tk' : Nat) (x y z : Int) (t1 t2 t3 : Tok), Fr h₀ L h' m → News h₀ L h' ((D, tup3 x y z t1 t2 t3) :: news) → (∀ p ∈ news, p.1 < D) → P x y z → Q (.ref D) { s with heap := h', toks := tk' })
    (F : Fr h₀ L h' m) (N : News h₀ L h' ((D, tup3 x y z t1 t2 t3) :: rest)) (hs : ∀ p ∈ news, p ∈ rest) (hl : ∀ p ∈ news, p.1 < D) (hP : P x y z) : Q (.ref D) { s with heap := h', toks := tk' } :=
  hret D h' tk' x y z t1 t2 t3 F (cb_drop N (fun p hp => by
    rcases List.mem_cons.mp hp with h | h
    · rw [h]; exact .head _
    · exact .tail _ (hs p h))) hl hP
/-- a cut: what stands behind a statement, whatever way led there; a name that ps does not tell is forgotten -/
def CutEnd {σ : Type} (h₀ : Heap) (L : Addr) (s : Shared) (Led : σ → List (Addr × Obj)) (ps : σ → List (PySem.Str × Value)) (P : σ → Prop) (s₂ : Shared) : Prop :=
  ∃ (c' : σ) (h' : Heap) (tk : Nat) (m' : PySem.Str → Option Value) (news' : List (Addr × Obj)), s₂ = { s with heap := h', toks := tk } ∧ Fr h₀ L h' m' ∧ News h₀ L h' news' ∧ (∀ p ∈ Led c', p ∈ news') ∧ (∀ p ∈ ps c', m' p.1 = some p.2) ∧ P c'
def CutPost {σ : Type} (h₀ : Heap) (L : Addr) (s : Shared) (Led : σ → List (Addr × Obj)) (ps : σ → List (PySem.Str × Value)) (P : σ → Prop) (Q : Flow → Shared → Prop) (f : Flow) (s₂ : Shared) : Prop :=
  match f with
  | .next => CutEnd h₀ L s Led ps P s₂
  | f => Q f s₂
theorem cut_end {σ : Type} {h₀ : Heap} {L : Addr} {s : Shared} {Led : σ → List (Addr × Obj)} {ps : σ → List (PySem.Str × Value)} {m' : PySem.Str → Option Value} {P : σ → Prop} {h' : Heap} {tk : Nat} {news' : List (Addr × Obj)} (c' : σ)
    (F : Fr h₀ L h' m') (N : News h₀ L h' news') (hn : ∀ p ∈ Led c', p ∈ news') (hk : ∀ p ∈ ps c', m' p.1 = some p.2) (hp : P c') :
    CutEnd h₀ L s Led ps P { s with heap := h', toks := tk } := ⟨c', h', tk, m', news', rfl, F, N, hn, hk, hp⟩
theorem cut_any {σ : Type} {M : Model} {A : Around} {t : Sem Flow} {Q : Flow → Shared → Prop} {E : Value → Shared → Prop} {h₀ : Heap} {L : Addr} {s : Shared} {m₀ : PySem.Str → Option Value}
    (Led : σ → List (Addr × Obj)) (ps : σ → List (PySem.Str × Value)) (P : σ → Prop) (_F : Fr h₀ L s.heap m₀)
    (h : wpAny M A t (CutPost h₀ L s Led ps P Q) E s)
    (k : ∀ (c : σ) (u : PySem.Str → Option Value) (h' : Heap) (tk : Nat), P c → Fr h₀ L h' (kstB u (ps c)) → News h₀ L h' (Led c) → Q .next { s with heap := h', toks := tk }) :
    wpAny M A t Q E s := by
  refine wpAny_mono h (fun f s₂ h₂ => ?_) fun _ _ x => x
  cases f with
  | next =>
    obtain ⟨c', h', tk, m', news', rfl, F, N, hn, hk, hp⟩ := h₂
    refine k c' m' h' tk hp ?_ fun p hp => N p (hn p hp)
    have em : kstB m' (ps c') = m' := by
      funext y
      exact kstB_eq hk fun _ => rfl
    rw [em]
    exact F
  | cont => exact h₂
  | brk => exact h₂
  | ret v => exact h₂

theorem Ctr.use {prog p : Program} {K : Params → Frag} {f : Addr} {args : List Value} {R : Tok → Value} (C : Ctr prog p K f args R)
    {w : World} {loose : List PySem.Str} {mean : ExcName → Option Value} {mg mb : PySem.Str → Option Value}
    {dp un : Nat} {gd : Option (List Code)} {cn : PySem.Str} {cs : Scope} {a : Addr} {ccd : Value} {cl : List (PySem.Str × Addr)} {outer : List Env} {A₀ : Around} {base h₀ : Heap} {L : Addr} {m : PySem.Str → Option Value} {news : List (Addr × Obj)} {s : Shared}
    {Q E : Value → Shared → Prop} (B : Below A₀ base outer h₀) (F : Fr h₀ L s.heap m) (X : (K w.params).In h₀) (N : News h₀ L s.heap news) (T : Top p loose mean mg mb h₀) (hk : cs.kind = .function) (hd : dp + 200 < recursionLimit) (hu : un + 64 < cLine)
    (ret : ∀ t h' tk', Fr h₀ L h' m → News h₀ L h' news → Q (R t) { s with heap := h', toks := tk' }) :
    wpAny (model prog w) (ktrTop dp un gd cn cs L a ccd cl outer) (call (.ref f) args) Q E s := C _ _ _ _ _ _ _ _ _ _ _ _ _ _ _ _ _ _ _ _ _ _ _ B F X N T hk hd hu ret
theorem CtrT.use {prog p : Program} {K : Params → Frag} {f : Addr} {args : List Value} {P : Int → Int → Int → Prop} (C : CtrT prog p K f args P)
    {w : World} {loose : List PySem.Str} {mean : ExcName → Option Value} {mg mb : PySem.Str → Option Value}
    {dp un : Nat} {gd : Option (List Code)} {cn : PySem.Str} {cs : Scope} {a : Addr} {ccd : Value} {cl : List (PySem.Str × Addr)} {outer : List Env} {A₀ : Around} {base h₀ : Heap} {L : Addr} {m : PySem.Str → Option Value} {news : List (Addr × Obj)} {s : Shared}
    {Q E : Value → Shared → Prop} (B : Below A₀ base outer h₀) (F : Fr h₀ L s.heap m) (X : (K w.params).In h₀) (N : News h₀ L s.heap news) (T : Top p loose mean mg mb h₀) (hk : cs.kind = .function) (hd : dp + 200 < recursionLimit) (hu : un + 64 < cLine)
    (ret : ∀ (D : Addr) (h' : Heap) (tk' : Nat) (x y z : Int) (t1 t2 t3 : Tok), Fr h₀ L h' m → News h₀ L h' ((D, tup3 x y z t1 t2 t3) :: news) → (∀ p ∈ news, p.1 < D) → P x y z → Q (.ref D) { s with heap := h', toks := tk' }) :
    wpAny (model prog w) (ktrTop dp un gd cn cs L a ccd cl outer) (call (.ref f) args) Q E s := C _ _ _ _ _ _ _ _ _ _ _ _ _ _ _ _ _ _ _ _ _ _ _ B F X N T hk hd hu ret
/-- as Ctr, of a def that reads the call's own list of ints -/
abbrev CtrL (prog p : Program) (K : Params → Frag) (f : Addr) (l : Addr) (vs : List Value) (args : List Value) (R : Tok → Value) : Prop :=
  ∀ (w : World) (loose : List PySem.Str) (mean : ExcName → Option Value) (mg mb : PySem.Str → Option Value)
    (dp un : Nat) (gd : Option (List Code)) (cn : PySem.Str) (cs : Scope) (a : Addr) (ccd : Value) (cl : List (PySem.Str × Addr)) (outer : List Env) (A₀ : Around) (base h₀ : Heap) (L : Addr) (m : PySem.Str → Option Value) (news : List (Addr × Obj)) (s : Shared)
    (Q E : Value → Shared → Prop),
    Below A₀ base outer h₀ → Fr h₀ L s.heap m → (K w.params).In h₀ → News h₀ L s.heap news → Top p loose mean mg mb h₀ → cs.kind = .function → dp + 200 < recursionLimit → un + 64 < cLine → base.IsList l vs.toArray →
    (∀ t h' tk', Fr h₀ L h' m → News h₀ L h' news → Q (R t) { s with heap := h', toks := tk' }) →
    wpAny (model prog w) (ktrTop dp un gd cn cs L a ccd cl outer) (call (.ref f) args) Q E s
theorem CtrL.use {prog p : Program} {K : Params → Frag} {f l : Addr} {vs : List Value} {args : List Value} {R : Tok → Value} (C : CtrL prog p K f l vs args R)
    {w : World} {loose : List PySem.Str} {mean : ExcName → Option Value} {mg mb : PySem.Str → Option Value}
    {dp un : Nat} {gd : Option (List Code)} {cn : PySem.Str} {cs : Scope} {a : Addr} {ccd : Value} {cl : List (PySem.Str × Addr)} {outer : List Env} {A₀ : Around} {base h₀ : Heap} {L : Addr} {m : PySem.Str → Option Value} {news : List (Addr × Obj)} {s : Shared}
    {Q E : Value → Shared → Prop} (B : Below A₀ base outer h₀) (F : Fr h₀ L s.heap m) (X : (K w.params).In h₀) (N : News h₀ L s.heap news) (T : Top p loose mean mg mb h₀) (hk : cs.kind = .function) (hd : dp + 200 < recursionLimit) (hu : un + 64 < cLine) (hl : base.IsList l vs.toArray)
    (ret : ∀ t h' tk', Fr h₀ L h' m → News h₀ L h' news → Q (R t) { s with heap := h', toks := tk' }) :
    wpAny (model prog w) (ktrTop dp un gd cn cs L a ccd cl outer) (call (.ref f) args) Q E s := C _ _ _ _ _ _ _ _ _ _ _ _ _ _ _ _ _ _ _ _ _ _ _ B F X N T hk hd hu hl ret

/-- as CtrL, of a def that gives a new object of which P holds -/
abbrev CtrO (prog p : Program) (K : Params → Frag) (f : Addr) (l : Addr) (vs : List Value) (args : List Value) (P : Obj → Prop) : Prop :=
  ∀ (w : World) (loose : List PySem.Str) (mean : ExcName → Option Value) (mg mb : PySem.Str → Option Value)
    (dp un : Nat) (gd : Option (List Code)) (cn : PySem.Str) (cs : Scope) (a : Addr) (ccd : Value) (cl : List (PySem.Str × Addr)) (outer : List Env) (A₀ : Around) (base h₀ : Heap) (L : Addr) (m : PySem.Str → Option Value) (news : List (Addr × Obj)) (s : Shared)
    (Q E : Value → Shared → Prop),
    Below A₀ base outer h₀ → Fr h₀ L s.heap m → (K w.params).In h₀ → News h₀ L s.heap news → Top p loose mean mg mb h₀ → cs.kind = .function → dp + 210 < recursionLimit → un + 100 < cLine → base.IsList l vs.toArray →
    (∀ (D : Addr) (h' : Heap) (tk' : Nat) (o : Obj), Fr h₀ L h' m → News h₀ L h' ((D, o) :: news) → (∀ p ∈ news, p.1 < D) → P o → Q (.ref D) { s with heap := h', toks := tk' }) →
    wpAny (model prog w) (ktrTop dp un gd cn cs L a ccd cl outer) (call (.ref f) args) Q E s
theorem CtrO.use {prog p : Program} {K : Params → Frag} {f l : Addr} {vs : List Value} {args : List Value} {P : Obj → Prop} (C : CtrO prog p K f l vs args P)
    {w : World} {loose : List PySem.Str} {mean : ExcName → Option Value} {mg mb : PySem.Str → Option Value}
    {dp un : Nat} {gd : Option (List Code)} {cn : PySem.Str} {cs : Scope} {a : Addr} {ccd : Value} {cl : List (PySem.Str × Addr)} {outer : List Env} {A₀ : Around} {base h₀ : Heap} {L : Addr} {m : PySem.Str → Option Value} {news : List (Addr × Obj)} {s : Shared}
    {Q E : Value → Shared → Prop} (B : Below A₀ base outer h₀) (F : Fr h₀ L s.heap m) (X : (K w.params).In h₀) (N : News h₀ L s.heap news) (T : Top p loose mean mg mb h₀) (hk : cs.kind = .function) (hd : dp + 210 < recursionLimit) (hu : un + 100 < cLine) (hl : base.IsList l vs.toArray)
    (ret : ∀ (D : Addr) (h' : Heap) (tk' : Nat) (o : Obj), Fr h₀ L h' m → News h₀ L h' ((D, o) :: news) → (∀ p ∈ news, p.1 < D) → P o → Q (.ref D) { s with heap := h', toks := tk' }) :
    wpAny (model prog w) (ktrTop dp un gd cn cs L a ccd cl outer) (call (.ref f) args) Q E s := C _ _ _ _ _ _ _ _ _ _ _ _ _ _ _ _ _ _ _ _ _ _ _ B F X N T hk hd hu hl ret
theorem retO {h₀ : Heap} {L : Addr} {m : PySem.Str → Option Value} {news rest : List (Addr × Obj)} {s : Shared} {Q : Value → Shared → Prop} {h' : Heap} {tk' : Nat} {P : Obj → Prop} {D : Addr} {o : Obj}
    (hret : ∀ (D : Addr) (h' : Heap) (tk' : Nat) (o : Obj), Fr h₀ L h' m → News h₀ L h' ((D, o) :: news) → (∀ p ∈ news, p.1 < D) → P o → Q (.ref D) { s with heap := h', toks := tk' })
    (F : Fr h₀ L h' m) (N : News h₀ L h' ((D, o) :: rest)) (hs : ∀ p ∈ news, p ∈ rest) (hl : ∀ p ∈ news, p.1 < D) (hP : P o) : Q (.ref D) { s with heap := h', toks := tk' } :=
  hret D h' tk' o F (cb_drop N (fun p hp => by
    rcases List.mem_cons.mp hp with h | h
    · rw [h]; exact .head _
    · exact .tail _ (hs p h))) hl hP
/-- a call of the def at f with these arguments ends, and what comes back is as R says; all that it makes is forgotten; with room for a call within -/
abbrev Ctr2 (prog p : Program) (K : Params → Frag) (f : Addr) (args : List Value) (R : Tok → Value) : Prop :=
  ∀ (w : World) (loose : List PySem.Str) (mean : ExcName → Option Value) (mg mb : PySem.Str → Option Value)
    (dp un : Nat) (gd : Option (List Code)) (cn : PySem.Str) (cs : Scope) (a : Addr) (ccd : Value) (cl : List (PySem.Str × Addr)) (outer : List Env) (A₀ : Around) (base h₀ : Heap) (L : Addr) (m : PySem.Str → Option Value) (news : List (Addr × Obj)) (s : Shared)
    (Q E : Value → Shared → Prop),
    Below A₀ base outer h₀ → Fr h₀ L s.heap m → (K w.params).In h₀ → News h₀ L s.heap news → Top p loose mean mg mb h₀ → cs.kind = .function → dp + 210 < recursionLimit → un + 100 < cLine →
    (∀ t h' tk', Fr h₀ L h' m → News h₀ L h' news → Q (R t) { s with heap := h', toks := tk' }) →
    wpAny (model prog w) (ktrTop dp un gd cn cs L a ccd cl outer) (call (.ref f) args) Q E s

theorem Ctr2.use {prog p : Program} {K : Params → Frag} {f : Addr} {args : List Value} {R : Tok → Value} (C : Ctr2 prog p K f args R)
    {w : World} {loose : List PySem.Str} {mean : ExcName → Option Value} {mg mb : PySem.Str → Option Value}
    {dp un : Nat} {gd : Option (List Code)} {cn : PySem.Str} {cs : Scope} {a : Addr} {ccd : Value} {cl : List (PySem.Str × Addr)} {outer : List Env} {A₀ : Around} {base h₀ : Heap} {L : Addr} {m : PySem.Str → Option Value} {news : List (Addr × Obj)} {s : Shared}
    {Q E : Value → Shared → Prop} (B : Below A₀ base outer h₀) (F : Fr h₀ L s.heap m) (X : (K w.params).In h₀) (N : News h₀ L s.heap news) (T : Top p loose mean mg mb h₀) (hk : cs.kind = .function) (hd : dp + 210 < recursionLimit) (hu : un + 100 < cLine)
    (ret : ∀ t h' tk', Fr h₀ L h' m → News h₀ L h' news → Q (R t) { s with heap := h', toks := tk' }) :
    wpAny (model prog w) (ktrTop dp un gd cn cs L a ccd cl outer) (call (.ref f) args) Q E s := C _ _ _ _ _ _ _ _ _ _ _ _ _ _ _ _ _ _ _ _ _ _ _ B F X N T hk hd hu ret
/-- what stands of extgcd's letters when its first turn is over -/
def ERest (y a g u w : Int) : Prop :=
  ∃ σ ε A U G W : Int, (σ = 1 ∧ 0 < y ∨ σ = -1 ∧ y < 0) ∧ (ε = 1 ∨ ε = -1) ∧ a = -(ε * A) ∧ u = ε * U ∧ g = σ * G ∧ w = σ * W ∧
    0 ≤ A ∧ 1 ≤ U ∧ 0 ≤ W ∧ W < G ∧ U * G + A * W = σ * y ∧ (A = 0 → ε = 1) ∧ (W = 0 → 2 * A ≤ U ∧ (2 * A = U → ε = -1))
def EInv (x y a b g u v w : Int) : Prop :=
  a * x + b * y = g ∧ u * x + v * y = w ∧ Int.gcd g w = Int.gcd x y ∧
    ((a = 1 ∧ b = 0 ∧ g = x ∧ u = 0 ∧ v = 1 ∧ w = y) ∨ ERest y a g u w)
theorem eInv_start (x y : Int) : EInv x y 1 0 x 0 1 y := by
  refine ⟨by simp, by simp, rfl, .inl ⟨rfl, rfl, rfl, rfl, rfl, rfl⟩⟩
theorem fdm (g w : Int) : w * Int.fdiv g w + Int.fmod g w = g := Int.mul_fdiv_add_fmod g w
theorem gcd_fmod (g w : Int) : Int.gcd w (Int.fmod g w) = Int.gcd g w := by
  have h := fdm g w
  have e : Int.fmod g w = g - w * Int.fdiv g w := by omega
  rw [e, Int.gcd_sub_mul_left_right, Int.gcd_comm]
theorem fmod_pos {g w : Int} (h : 0 < w) : 0 ≤ Int.fmod g w ∧ Int.fmod g w < w := ⟨Int.fmod_nonneg_of_pos g h, Int.fmod_lt_of_pos g h⟩
theorem fmod_neg {g w : Int} (h : w < 0) : w < Int.fmod g w ∧ Int.fmod g w ≤ 0 := by
  have e : Int.fmod g w = -Int.fmod (-g) (-w) := by
    have := Int.neg_fmod_neg g w
    omega
  have := fmod_pos (g := -g) (w := -w) (by omega)
  omega
theorem mul_ge {a b : Int} (ha : 1 ≤ a) (hb : 0 ≤ b) : b ≤ a * b := by
  have := Int.mul_le_mul_of_nonneg_right ha hb
  omega
theorem eInv_turn {x y a b g u v w : Int} (h : EInv x y a b g u v w) (hw : w ≠ 0) :
    EInv x y u v w (a - Int.fdiv g w * u) (b - Int.fdiv g w * v) (Int.fmod g w) := by
  obtain ⟨h1, h2, h3, h4⟩ := h
  have hq := fdm g w
  have hg := gcd_fmod g w
  have hp := @fmod_pos g w
  have hn := @fmod_neg g w
  generalize Int.fdiv g w = q at *
  generalize Int.fmod g w = t at *
  refine ⟨h2, by grind, by rw [hg, h3], .inr ?_⟩
  rcases h4 with ⟨rfl, rfl, rfl, rfl, rfl, rfl⟩ | ⟨σ, ε, A, U, G, W, hs, he, ha, hu, hgG, hwW, hA, hU, hW, hWG, hsum, hA0, hW0⟩
  · by_cases hy : 0 < w
    · exact ⟨1, 1, 0, 1, w, t, .inl ⟨rfl, hy⟩, .inl rfl, by omega, by omega, by omega, by omega, by omega, by omega, (hp hy).1, (hp hy).2, by omega, fun _ => rfl, fun _ => ⟨by omega, fun h => by omega⟩⟩
    · have hy : w < 0 := by omega
      have := hn hy
      exact ⟨-1, 1, 0, 1, -w, -t, .inr ⟨rfl, hy⟩, .inl rfl, by omega, by omega, by omega, by omega, by omega, by omega, by omega, by omega, by omega, fun _ => rfl, fun _ => ⟨by omega, fun h => by omega⟩⟩
  · -- σ t = G - q W
    have hσ : σ * σ = 1 := by rcases hs with ⟨rfl, _⟩ | ⟨rfl, _⟩ <;> rfl
    have hε : ε * ε = 1 := by rcases he with rfl | rfl <;> rfl
    have hW1 : 0 < W := by
      rcases hs with ⟨rfl, _⟩ | ⟨rfl, _⟩ <;> omega
    have ht : 0 ≤ σ * t ∧ σ * t < W := by
      rcases hs with ⟨rfl, _⟩ | ⟨rfl, _⟩
      · have := hp (by omega); omega
      · have := hn (by omega); omega
    have hGq : σ * t = G - q * W := by grind
    have hq1 : 1 ≤ q := by
      rcases Int.lt_or_le 0 q with h | h
      · omega
      · have : q * W ≤ 0 := Int.mul_nonpos_of_nonpos_of_nonneg h (by omega)
        omega
    have hqU : U ≤ q * U := mul_ge hq1 (by omega)
    refine ⟨σ, -ε, U, A + q * U, W, σ * t, hs, by omega, by grind, by grind, hwW, by grind, by omega, by omega, ht.1, ht.2, by grind, fun h => by omega, fun h0 => ?_⟩
    have hq2 : 2 ≤ q := by
      rcases Int.lt_or_le 1 q with h | h
      · omega
      · have : q = 1 := by omega
        subst this
        omega
    have hq2U : 2 * U ≤ q * U := Int.mul_le_mul_of_nonneg_right hq2 (by omega)
    refine ⟨by omega, fun h => ?_⟩
    have : A = 0 := by omega
    have := hA0 this
    omega
theorem e_less {g w : Int} (hw : w ≠ 0) : (Int.fmod g w).natAbs < w.natAbs := by
  rcases Int.lt_or_le 0 w with h | h
  · have := fmod_pos (g := g) h; omega
  · have := fmod_neg (g := g) (w := w) (by omega); omega
theorem le_of_mul_le {a b c : Int} (ha : 0 < a) (h : a * b ≤ a * c) : b ≤ c := Int.le_of_mul_le_mul_left h ha

/-- the numbers stay small -/
theorem e_small {x y a b g u v w : Int} (h : EInv x y a b g u v w) :
    g.natAbs ≤ x.natAbs + y.natAbs ∧ u.natAbs ≤ y.natAbs ∧ v.natAbs ≤ x.natAbs + 1 := by
  obtain ⟨h1, h2, h3, h4⟩ := h
  rcases h4 with ⟨rfl, rfl, rfl, rfl, rfl, rfl⟩ | ⟨σ, ε, A, U, G, W, hs, he, ha, hu, hgG, hwW, hA, hU, hW, hWG, hsum, hA0, hW0⟩
  · omega
  · have hAW : 0 ≤ A * W := Int.mul_nonneg hA hW
    have hUG : U ≤ G * U := mul_ge (by omega) (by omega)
    have hGU : G ≤ U * G := mul_ge (by omega) (by omega)
    have hc : G * U = U * G := Int.mul_comm ..
    have hu1 : u.natAbs ≤ y.natAbs := by
      rcases hs with ⟨rfl, _⟩ | ⟨rfl, _⟩ <;> rcases he with rfl | rfl <;> omega
    have hg1 : g.natAbs ≤ y.natAbs := by
      rcases hs with ⟨rfl, _⟩ | ⟨rfl, _⟩ <;> omega
    have hw1 : w.natAbs ≤ y.natAbs := by
      rcases hs with ⟨rfl, _⟩ | ⟨rfl, _⟩ <;> omega
    refine ⟨by omega, hu1, ?_⟩
    have hy0 : y ≠ 0 := by omega
    -- |v| |y| ≤ |w| + |u| |x|
    have e : v * y = w - u * x := by omega
    have e1 : v.natAbs * y.natAbs ≤ w.natAbs + u.natAbs * x.natAbs := by
      rw [← Int.natAbs_mul, ← Int.natAbs_mul, e]
      omega
    have e2 : u.natAbs * x.natAbs ≤ y.natAbs * x.natAbs := Nat.mul_le_mul_right _ hu1
    have e3 : v.natAbs * y.natAbs ≤ (x.natAbs + 1) * y.natAbs := by
      rw [Nat.add_mul, Nat.mul_comm x.natAbs]; omega
    exact Nat.le_of_mul_le_mul_right e3 (by omega)
theorem fdiv_small {g w : Int} : (Int.fdiv g w).natAbs ≤ g.natAbs := by
  by_cases hw : w = 0
  · subst hw; simp
  have hq := fdm g w
  have hp := @fmod_pos g w
  have hn := @fmod_neg g w
  generalize Int.fdiv g w = q at *
  generalize Int.fmod g w = t at *
  rcases Int.lt_or_le 0 q with h | h
  · -- q > 0
    rcases Int.lt_or_le 0 w with h' | h'
    · have := mul_ge (a := w) (b := q) (by omega) (by omega); have := hp h'; omega
    · have := mul_ge (a := -w) (b := q) (by omega) (by omega); have := hn (by omega); have e : -w * q = -(w * q) := Int.neg_mul ..; omega
  · rcases Int.lt_or_le 0 w with h' | h'
    · by_cases hq0 : q = 0
      · omega
      have := mul_ge (a := w) (b := -q - 1) (by omega) (by omega); have := hp h'
      have e : w * (-q - 1) = -(w * q) - w := by grind
      omega
    · by_cases hq0 : q = 0
      · omega
      have := mul_ge (a := -w) (b := -q - 1) (by omega) (by omega); have := hn (by omega)
      have e : -w * (-q - 1) = w * q + w := by grind
      omega
/-- what extgcd gives -/
def ExtSpec (x y u v d : Int) : Prop :=
  u * x + v * y = d ∧ d = (Int.gcd x y : Int) ∧ (y = 0 → 0 ≤ x → u = 1 ∧ v = 0) ∧ (y = 0 → x < 0 → u = -1 ∧ v = 0) ∧
    (y ≠ 0 → ∃ n : Int, 0 < d ∧ 0 < n ∧ (0 < y → n * d = y ∧ -n < 2 * u ∧ 2 * u ≤ n) ∧ (y < 0 → n * d = -y ∧ -n ≤ 2 * u ∧ 2 * u < n)) ∧
    u.natAbs ≤ y.natAbs + 1 ∧ v.natAbs ≤ x.natAbs + 1
theorem small_of_mul {a b x y d : Int} (h : a * x + b * y = d) (hy : y ≠ 0) (ha : a.natAbs ≤ y.natAbs) (hd : d.natAbs ≤ y.natAbs) : b.natAbs ≤ x.natAbs + 1 := by
  have e : b * y = d - a * x := by omega
  have e1 : b.natAbs * y.natAbs ≤ d.natAbs + a.natAbs * x.natAbs := by
    rw [← Int.natAbs_mul, ← Int.natAbs_mul, e]
    omega
  have e2 : a.natAbs * x.natAbs ≤ y.natAbs * x.natAbs := Nat.mul_le_mul_right _ ha
  have e3 : b.natAbs * y.natAbs ≤ (x.natAbs + 1) * y.natAbs := by
    rw [Nat.add_mul, Nat.mul_comm x.natAbs]; omega
  exact Nat.le_of_mul_le_mul_right e3 (by omega)
theorem gcd_zero_abs {g x y : Int} (h : Int.gcd g 0 = Int.gcd x y) : (Int.gcd x y : Int) = g.natAbs := by
  rw [← h, Int.gcd_zero_right]
theorem e_end {x y a b g u v w : Int} (h : EInv x y a b g u v w) (hw : w = 0) :
    (0 ≤ g → ExtSpec x y a b g) ∧ (¬ 0 ≤ g → ExtSpec x y (-a) (-b) (-g)) := by
  subst hw
  obtain ⟨h1, h2, h3, h4⟩ := h
  have hgc := gcd_zero_abs h3
  rcases h4 with ⟨rfl, rfl, rfl, rfl, rfl, rfl⟩ | ⟨σ, ε, A, U, G, W, hs, he, ha, hu, hgG, hwW, hA, hU, hW, hWG, hsum, hA0, hW0⟩
  · refine ⟨fun hg => ⟨h1, by omega, fun _ _ => ⟨rfl, rfl⟩, fun _ _ => by omega, fun h => absurd rfl h, by omega, by omega⟩,
      fun hg => ⟨by omega, by omega, fun _ _ => by omega, fun _ _ => ⟨rfl, rfl⟩, fun h => absurd rfl h, by omega, by omega⟩⟩
  · have hWz : W = 0 := by rcases hs with ⟨rfl, _⟩ | ⟨rfl, _⟩ <;> omega
    subst hWz
    obtain ⟨hAU, hAe⟩ := hW0 rfl
    have hUG : U * G = σ * y := by rw [← hsum]; simp
    have hU1 : U ≤ G * U := mul_ge (by omega) (by omega)
    have hG1 : G ≤ U * G := mul_ge (by omega) (by omega)
    have hc : G * U = U * G := Int.mul_comm ..
    have hay : a.natAbs ≤ y.natAbs := by
      rcases hs with ⟨rfl, _⟩ | ⟨rfl, _⟩ <;> rcases he with rfl | rfl <;> omega
    have hgy : g.natAbs ≤ y.natAbs := by
      rcases hs with ⟨rfl, _⟩ | ⟨rfl, _⟩ <;> omega
    have hb := small_of_mul h1 (by omega) hay hgy
    refine ⟨fun hg => ⟨h1, by omega, fun h => by omega, fun h => by omega, fun _ => ⟨U, ?_, by omega, fun hy => ?_, fun hy => ?_⟩, by omega, by omega⟩,
      fun hg => ⟨?_, by omega, fun h => by omega, fun h => by omega, fun _ => ⟨U, ?_, by omega, fun hy => ?_, fun hy => ?_⟩, by omega, by omega⟩⟩
    · rcases hs with ⟨rfl, _⟩ | ⟨rfl, _⟩ <;> omega
    · obtain ⟨rfl, _⟩ | ⟨rfl, _⟩ := hs
      · have e : g = G := by omega
        subst e
        rcases he with rfl | rfl <;> omega
      · omega
    · obtain ⟨rfl, _⟩ | ⟨rfl, _⟩ := hs <;> omega
    · rw [← h1, Int.neg_mul, Int.neg_mul]; omega
    · rcases hs with ⟨rfl, _⟩ | ⟨rfl, _⟩ <;> omega
    · obtain ⟨rfl, _⟩ | ⟨rfl, _⟩ := hs <;> omega
    · obtain ⟨rfl, _⟩ | ⟨rfl, _⟩ := hs
      · omega
      · have e : -g = G := by omega
        rw [e]
        rcases he with rfl | rfl <;> omega
local macro_rules | `(tactic| walk_at "execs cons") => `(tactic| ((with_reducible refine wpAny_execs_cons ?_); (try (with_reducible refine gen_toks ?_; intro tk9)); try dsimp only))
local macro_rules | `(tactic| walk_at "execs nil") => `(tactic| refine wpAny_execs_nil ?_)
local macro_rules | `(tactic| walk_at "my_lt") => `(tactic| first
  | assumption
  | exact ktn_ltOf (by assumption)
  | ((rename _ ∧ AllLt _ _ => hlt9); exact ktn_ltOf hlt9.2)
  | ((rename _ ∧ _ ∧ AllLt _ _ => hlt9); exact ktn_ltOf hlt9.2.2)
  | ((rename _ ∧ _ ∧ _ ∧ AllLt _ _ => hlt9); exact ktn_ltOf hlt9.2.2.2))
local macro_rules | `(tactic| walk_at "my_room") => `(tactic| exact Or.inr (PySem.PylongRoom.of (PySem.Heap.NoLimit.keeps (PyProof.Rows.Top.nolimit (by k_asm)) (PyProof.Rows.Fr.keep (by k_asm))) (by (show _ + 100 < _); ktr_room)))
local macro_rules | `(tactic| walk_at "call builtin:divmod") => `(tactic| (k_here; (with_reducible show wpAny _ _ (call (Value.builtin _) [Value.int _ _, Value.int _ _]) _ _ _); k_dflt (refine' divmod_N ?k1 ?k2 ?k3 ?_ ?k4; (case k1 => k_asm); (case k2 => k_asm); (case k3 => assumption); (case k4 => walk_at "my_room"); k_whole); intro h' F' N'))
local macro_rules | `(tactic| walk_at "CutPost") => `(tactic| (dsimp only [CutPost]))
local macro_rules | `(tactic| walk_at "my_use") => `(tactic| (
  (case k1 => first | k_asm | ktn_no "my_use: the frames below")
  (case k2 => first | k_asm | ktn_no "my_use: the frame")
  (case k3 => first | k_asm | ktn_no "my_use: the written part")
  (case k4 => first | k_asm | ktn_no "my_use: the ledger")
  (case k5 => first | k_asm | ktn_no "my_use: the top's facts")
  (case kK => first | exact rfl | assumption | ktn_no "my_use: the caller is no def")
  (case kd => first | ktr_room | ktn_no "my_use: the frames' room")
  (case ku => first | ktr_units | ktn_no "my_use: the C units")))
theorem gcd_turn {a b A B : Int} (_ha : 0 ≤ a) (hb : 0 ≤ b) (h : Int.gcd a b = Int.gcd A B) (h0 : b ≠ 0) : 0 ≤ b ∧ 0 ≤ Int.fmod a b ∧ Int.gcd b (Int.fmod a b) = Int.gcd A B := by
  refine ⟨hb, Int.fmod_nonneg_of_pos a (by omega), ?_⟩
  rw [← h, gcd_fmod]
theorem gcd_less {a b : Int} (hb : 0 ≤ b) (h0 : b ≠ 0) : (Int.fmod a b).toNat < b.toNat := by
  have := Int.fmod_lt_of_pos a (show 0 < b by omega)
  omega
theorem gcd_end {a b x y : Int} (ha : 0 ≤ a) (h : Int.gcd a b = Int.gcd (if x < 0 then -x else x) (if y < 0 then -y else y)) (h0 : b = 0) : a = (Int.gcd x y : Int) := by
  subst h0
  have e : Int.gcd (if x < 0 then -x else x) (if y < 0 then -y else y) = Int.gcd x y := by split <;> split <;> simp [Int.neg_gcd, Int.gcd_neg]
  rw [← e, ← h, Int.gcd_zero_right]
  omega
theorem gcd_c (x y : Int) (t1 t2 : Tok) : Ctr PySem.Challenge.rw_yz0001_03.row.prog hd.view_39 hd.heap_39 21 [.int x t1, .int y t2] (fun t => .int (Int.gcd x y) t) := by
  have hd0 : PySem.Challenge.rw_yz0001_03 = PySem.Challenge.rw_yz0001_03 ∧ hd.heap_39 = hd.heap_39 := by k_fill; exact ⟨rfl, rfl⟩
  clear hd0
  k_with_none
  w_top off
  k_with "exec While Name cons nil" => k_while_given ["a!", "b!"] (fun a0 b0 _ a b => 0 ≤ a ∧ 0 ≤ b ∧ Int.gcd a b = Int.gcd a0 b0) (fun a0 b0 _ a b => b.toNat) "a" "b"
  k_with "state" => exact gcd_turn (by assumption) (by assumption) (by assumption) (by assumption)
  k_with "measure" => exact gcd_less (by assumption) (by assumption)
  intro w loose mean mg mb dp un gd cn cs a ccd cl outer A₀ base h₀ L m news s Q E B F X N T hk hdp hun hret
  refine wpAny_call ?_
  k_dflt cell_enter
  k_steps
  all_goals (refine ret1 hret (by k_asm) (by k_asm) (by kcj_all) ?_)
  all_goals exact gcd_end (by assumption) (by assumption) (by assumption)
section
theorem eM1 {M : Nat} {x y a b g u v w : Int} (hM : SizeOk M) (hx : x.natAbs + y.natAbs + 1 ≤ M) (h : EInv x y a b g u v w) : IntMulOk (Int.fdiv g w) u := by
  have h1 := e_small h
  have h2 := @fdiv_small g w
  exact hM.mul (by omega) (by omega)
theorem eM2 {M : Nat} {x y a b g u v w : Int} (hM : SizeOk M) (hx : x.natAbs + y.natAbs + 1 ≤ M) (h : EInv x y a b g u v w) : IntMulOk (Int.fdiv g w) v := by
  have h1 := e_small h
  have h2 := @fdiv_small g w
  exact hM.mul (by omega) (by omega)
local macro_rules | `(tactic| walk_at "binaryOp Mult int int") => `(tactic| first | (with_reducible refine mul_int ?_ (eM1 (by assumption) (by assumption) (by assumption))) | (with_reducible refine mul_int ?_ (eM2 (by assumption) (by assumption) (by assumption))))
theorem ext_c (M : Nat) (x y : Int) (t1 t2 : Tok) (hM : SizeOk M) (hxy : x.natAbs + y.natAbs + 1 ≤ M) : CtrT PySem.Challenge.rw_yz0001_03.row.prog hd.view_39 hd.heap_39 28 [.int x t1, .int y t2] (ExtSpec x y) := by
  have hd0 : PySem.Challenge.rw_yz0001_03 = PySem.Challenge.rw_yz0001_03 ∧ hd.heap_39 = hd.heap_39 := by k_fill; exact ⟨rfl, rfl⟩
  clear hd0
  k_with_none
  w_top off
  k_with "exec While Name cons nil" => k_while_given ["g!", "w!"] (fun x0 y0 _ a b g u v w => EInv x0 y0 a b g u v w) (fun x0 y0 _ a b g u v w => w.natAbs) "a" "b" "g" "u" "v" "w"
  k_with "state" => first | exact eInv_start _ _ | exact eInv_turn (by assumption) (by assumption)
  k_with "measure" => exact e_less (by assumption)
  intro w loose mean mg mb dp un gd cn cs a ccd cl outer A₀ base h₀ L m news s Q E B F X N T hk hdp hun hret
  refine wpAny_call ?_
  k_dflt cell_enter
  k_steps
  all_goals (refine retT hret (by k_asm) (by k_asm) (by kcj_all) (by walk_at "my_lt") ?_)
  · exact (e_end (by assumption) (by assumption)).1 (by assumption)
  · exact (e_end (by assumption) (by assumption)).2 (by assumption)
end
/-- what the law's own helper reckons -/
def wholeF (x y s g : Int) : Int × Int × Int :=
  if y = 0 then (if 0 ≤ x then (1, 0, x) else (-1, 0, -x)) else
  let d := if g < 0 then -g else g
  let s' := if g < 0 then -s else s
  let n := Int.fdiv (if y < 0 then -y else y) d
  let u := Int.fmod s' n
  let u1 := if 0 < y ∧ n < 2 * u then u - n else u
  let u2 := if y < 0 ∧ n ≤ 2 * u1 then u1 - n else u1
  (u2, Int.fdiv (d - u2 * x) y, d)
theorem abs_if (g : Int) : (if g < 0 then -g else g) = g.natAbs := by split <;> omega
theorem rest_same {n u s K : Int} (hn : 0 < n) (h : s = u - n * K) : Int.fmod s n = u % n := by
  rw [h, Int.fmod_eq_emod_of_nonneg _ (Int.le_of_lt hn), Int.sub_mul_emod_self_left]
theorem dvd_key {x y u v s t d : Int} (h1 : u * x + v * y = d) (h2 : s * x + t * y = d) : (u - s) * d = y * (s * (t - v) + t * (u - s)) := by
  have e : (u - s) * x = (t - v) * y := by grind
  have : (u - s) * d = (u - s) * (s * x + t * y) := by rw [h2]
  grind
theorem whole_eq {x y s t g u v d : Int} (h : ExtSpec x y u v d) (hs : s * x + t * y = g) (hg : Int.gcd x y = g.natAbs) : wholeF x y s g = (u, v, d) := by
  obtain ⟨h1, h2, h3, h4, h5, _, _⟩ := h
  unfold wholeF
  by_cases hy : y = 0
  · subst hy
    rw [if_pos rfl]
    rw [Int.gcd_zero_right] at h2
    by_cases hx : 0 ≤ x
    · obtain ⟨rfl, rfl⟩ := h3 rfl hx
      rw [if_pos hx]
      have : x = d := by omega
      rw [this]
    · obtain ⟨rfl, rfl⟩ := h4 rfl (by omega)
      rw [if_neg hx]
      have : -x = d := by omega
      rw [this]
  · rw [if_neg hy]
    obtain ⟨n, hd, hn, hp, hm⟩ := h5 hy
    have hdg : (if g < 0 then -g else g) = d := by rw [abs_if, h2, hg]
    have hyd : (if y < 0 then -y else y) = n * d := by
      split
      · rw [(hm (by omega)).1]
      · rw [(hp (by omega)).1]
    -- the other coefficients, with the divisor's sign
    have hs' : (if g < 0 then -s else s) * x + (if g < 0 then -t else t) * y = d := by
      rw [← hdg]
      split
      · rw [← hs, Int.neg_mul, Int.neg_mul]; omega
      · exact hs
    generalize (if g < 0 then -s else s) = s' at *
    generalize (if g < 0 then -t else t) = t' at *
    simp only [hdg, hyd]
    have hnd : Int.fdiv (n * d) d = n := Int.mul_fdiv_cancel _ (by omega)
    simp only [hnd]
    have key := dvd_key h1 hs'
    generalize s' * (t' - v) + t' * (u - s') = K at *
    have hfm : Int.fmod s' n = u % n := by
      rcases Int.lt_or_le y 0 with h0 | h0
      · have e : (u - s') * d = (n * -K) * d := by
          rw [key]
          have := (hm h0).1
          grind
        have e2 : u - s' = n * -K := Int.eq_of_mul_eq_mul_right (by omega) e
        exact rest_same hn (K := -K) (by omega)
      · have e : (u - s') * d = (n * K) * d := by
          rw [key]
          have := (hp (by omega)).1
          grind
        have e2 : u - s' = n * K := Int.eq_of_mul_eq_mul_right (by omega) e
        exact rest_same hn (K := K) (by omega)
    rw [hfm]
    have hu : u % n = u ∨ u % n = u + n := by
      rcases Int.lt_or_le u 0 with h0 | h0
      · right
        have : (u + n * 1) % n = u % n := Int.add_mul_emod_self_left ..
        rw [← this, Int.mul_one]
        refine Int.emod_eq_of_lt ?_ (by omega)
        rcases Int.lt_or_le y 0 with h1 | h1
        · have := hm h1; omega
        · have := hp (by omega); omega
      · left
        refine Int.emod_eq_of_lt h0 ?_
        rcases Int.lt_or_le y 0 with h1 | h1
        · have := hm h1; omega
        · have := hp (by omega); omega
    have hu1 : (if y < 0 ∧ n ≤ 2 * (if 0 < y ∧ n < 2 * (u % n) then u % n - n else u % n) then (if 0 < y ∧ n < 2 * (u % n) then u % n - n else u % n) - n else (if 0 < y ∧ n < 2 * (u % n) then u % n - n else u % n)) = u := by
      generalize u % n = r at *
      rcases Int.lt_or_le y 0 with h0 | h0
      · have := hm h0
        rw [if_neg (show ¬ (0 < y ∧ n < 2 * r) by omega)]
        split <;> omega
      · have := hp (by omega)
        rw [if_neg (show ¬ (y < 0 ∧ _) by omega)]
        split <;> omega
    rw [hu1]
    have hv : d - u * x = v * y := by omega
    rw [hv, Int.mul_fdiv_cancel _ hy]
section
section
theorem gcd_ne {a b : Int} (h : a ≠ 0) : (Int.gcd a b : Int) ≠ 0 := by
  have := Int.gcd_pos_of_ne_zero_left b h
  omega
theorem div_small {a g : Int} : (Int.fdiv a g).natAbs ≤ a.natAbs := fdiv_small
theorem fdiv_of_eq {a G c : Int} (hG : G ≠ 0) (h : a = G * c) : Int.fdiv a G = c := by
  subst h
  rw [Int.mul_comm]
  exact Int.mul_fdiv_cancel _ hG
theorem lcm_val {a b : Int} (h : a ≠ 0) : (if Int.fdiv a (Int.gcd a b) * b < 0 then -(Int.fdiv a (Int.gcd a b) * b) else Int.fdiv a (Int.gcd a b) * b) = (Int.lcm a b : Int) := by
  rw [abs_if]
  congr 1
  have hg := Int.gcd_pos_of_ne_zero_left b h
  obtain ⟨c, hc⟩ := Int.gcd_dvd_left a b
  have e : Int.fdiv a (Int.gcd a b) = c := fdiv_of_eq (gcd_ne h) hc
  rw [e]
  have h2 := Int.gcd_mul_lcm a b
  have h3 : a.natAbs = Int.gcd a b * c.natAbs := by
    conv => lhs; rw [hc]
    rw [Int.natAbs_mul]; rfl
  rw [h3, Nat.mul_assoc] at h2
  have := Nat.eq_of_mul_eq_mul_left hg h2
  rw [this, Int.natAbs_mul]
local macro_rules | `(tactic| walk_at "call ref") => `(tactic| (
  k_here
  (with_reducible show wpAny _ _ (call (Value.ref 21 ) _) _ _ _)
  k_dflt (
    refine' Ctr.use (gcd_c _ _ _ _) ?k1 ?k2 ?k3 ?k4 ?k5 ?kK ?kd ?ku ?_
    walk_at "my_use"
    k_whole)
  intro t9 h9 tk9 F9 N9
  (try dsimp only)
  (try k_fold)))
local macro_rules | `(tactic| walk_at "binaryOp FloorDiv int int") => `(tactic| (k_dflt (refine' floordiv_int ?k1 ?_ ?k2; (case k1 => exact gcd_ne (by assumption)); (case k2 => walk_at "my_room"); k_whole)))
theorem lcm_c (M : Nat) (x y : Int) (t1 t2 : Tok) (hM : SizeOk M) (hx0 : x ≠ 0) (hx : x.natAbs ≤ M) (hy : y.natAbs ≤ M) : Ctr2 PySem.Challenge.rw_yz0001_03.row.prog hd.view_39 hd.heap_39 35 [.int x t1, .int y t2] (fun t => .int (Int.lcm x y) t) := by
  have hmul : IntMulOk (Int.fdiv x (Int.gcd x y)) y := hM.mul (Nat.le_trans div_small hx) hy
  have hd0 : PySem.Challenge.rw_yz0001_03 = PySem.Challenge.rw_yz0001_03 ∧ hd.heap_39 = hd.heap_39 := by k_fill; exact ⟨rfl, rfl⟩
  clear hd0
  k_with_none
  w_top off
  intro w loose mean mg mb dp un gd cn cs a ccd cl outer A₀ base h₀ L m news sh Q E B F X N T hk hdp hun hret
  refine wpAny_call ?_
  k_dflt cell_enter
  k_steps
  all_goals (refine ret1 hret (by k_asm) (by k_asm) (by kcj_all) ?_)
  all_goals exact lcm_val hx0
end
end
/-- strictly rising, place by place -/
def Rise (xs : Array Nat) : Prop := ∀ i j : Nat, i < j → j < xs.size → xs.getD i 0 < xs.getD j 0
theorem below_go {xs : Array Nat} {j : Nat} (hr : Rise xs) : ∀ (fuel lo hi : Nat), lo ≤ hi → hi ≤ xs.size → hi - lo ≤ fuel →
    (∀ i, i < lo → xs.getD i 0 < j) → (∀ i, hi ≤ i → i < xs.size → j ≤ xs.getD i 0) →
    ∃ p, SetTable.below.go xs j fuel lo hi = p ∧ p ≤ xs.size ∧ (∀ i, i < p → xs.getD i 0 < j) ∧ ∀ i, p ≤ i → i < xs.size → j ≤ xs.getD i 0 := by
  intro fuel
  induction fuel with
  | zero =>
    intro lo hi h1 h2 h3 h4 h5
    have : lo = hi := by omega
    subst this
    exact ⟨lo, by rw [SetTable.below.go], h2, h4, h5⟩
  | succ n ih =>
    intro lo hi h1 h2 h3 h4 h5
    rw [SetTable.below.go]
    by_cases hlt : lo < hi
    · rw [if_pos hlt]
      dsimp only
      have hm : (lo + hi) / 2 < hi := by omega
      have hm2 : lo ≤ (lo + hi) / 2 := by omega
      generalize hmid : (lo + hi) / 2 = mid at *
      have hd : xs.getD mid j = xs.getD mid 0 := by
        simp [Array.getD, show mid < xs.size by omega]
      rw [hd]
      by_cases hc : xs.getD mid 0 < j
      · rw [if_pos hc]
        refine ih (mid + 1) hi (by omega) h2 (by omega) (fun i hi' => ?_) h5
        rcases Nat.lt_or_ge i mid with h | h
        · have := hr i mid h (by omega); omega
        · have : i = mid := by omega
          subst this; exact hc
      · rw [if_neg hc]
        refine ih lo mid hm2 (by omega) (by omega) h4 (fun i hi' hi2 => ?_)
        rcases Nat.lt_or_ge mid i with h | h
        · have := hr mid i h hi2; omega
        · have : i = mid := by omega
          subst this; omega
    · rw [if_neg hlt]
      have : lo = hi := by omega
      subst this
      exact ⟨lo, rfl, h2, h4, h5⟩
theorem below_spec {xs : Array Nat} (hr : Rise xs) (j : Nat) :
    SetTable.below xs j ≤ xs.size ∧ (∀ i, i < SetTable.below xs j → xs.getD i 0 < j) ∧ ∀ i, SetTable.below xs j ≤ i → i < xs.size → j ≤ xs.getD i 0 := by
  obtain ⟨p, h1, h2, h3, h4⟩ := below_go (j := j) hr xs.size 0 xs.size (Nat.zero_le _) (Nat.le_refl _) (by omega) (fun i h => by omega) (fun i h h' => by omega)
  have : SetTable.below xs j = p := h1
  rw [this]
  exact ⟨h2, h3, h4⟩
theorem rise_iff {xs : Array Nat} : Rise xs ↔ List.Pairwise (· < ·) xs.toList := by
  rw [List.pairwise_iff_getElem]
  constructor
  · intro h i j hi hj hij
    have hj' : j < xs.size := by simpa using hj
    have hi' : i < xs.size := by omega
    have := h i j hij hj'
    simpa [Array.getD, hi', hj'] using this
  · intro h i j hij hj
    have hi : i < xs.size := by omega
    have := h i j (by simpa using hi) (by simpa using hj) hij
    simpa [Array.getD, hi, hj] using this
theorem rise_insert {xs : Array Nat} (hr : Rise xs) {j : Nat} (hne : xs[SetTable.below xs j]? ≠ some j) : Rise (SetTable.insertAt xs (SetTable.below xs j) j) := by
  obtain ⟨h1, h2, h3⟩ := below_spec hr j
  generalize SetTable.below xs j = p at *
  have hr' := rise_iff.mp hr
  rw [rise_iff, SetTable.toList_insertAt]
  have e : xs.toList = xs.toList.take p ++ xs.toList.drop p := (List.take_append_drop p xs.toList).symm
  rw [e, List.pairwise_append] at hr'
  obtain ⟨ha, hb, hc⟩ := hr'
  rw [List.pairwise_append]
  refine ⟨ha, List.pairwise_cons.mpr ⟨fun y hy => ?_, hb⟩, fun x hx y hy => ?_⟩
  · -- behind the place: greater than j
    obtain ⟨i, hi, rfl⟩ := List.mem_iff_getElem.mp hy
    have hi' : i < xs.toList.length - p := by simpa using hi
    have hlen : xs.toList.length = xs.size := by simp
    rw [List.getElem_drop]
    have h4 := h3 (p + i) (by omega) (by omega)
    have e2 : xs.toList[p + i]'(by omega) = xs.getD (p + i) 0 := by simp [Array.getD, show p + i < xs.size by omega]
    rw [e2]
    rcases Nat.eq_zero_or_pos i with h0 | h0
    · subst h0
      have : xs.getD p 0 ≠ j := by
        intro h
        apply hne
        have hp : p < xs.size := by omega
        rw [Array.getElem?_eq_getElem hp]
        simpa [Array.getD, hp] using h
      rw [Nat.add_zero] at h4 ⊢
      omega
    · have h5 := h3 p (Nat.le_refl _) (by omega)
      have := hr p (p + i) (by omega) (by omega)
      omega
  · obtain ⟨i, hi, rfl⟩ := List.mem_iff_getElem.mp hx
    have hi' : i < p ∧ i < xs.size := by
      have : i < min p xs.size := by simpa using hi
      omega
    have e2 : (xs.toList.take p)[i]'hi = xs.getD i 0 := by simp [Array.getD, hi'.2]
    rw [e2]
    have hxj := h2 i hi'.1
    rcases List.mem_cons.mp hy with h | h
    · omega
    · have h6 := hc _ hx _ h
      rw [e2] at h6
      exact h6
theorem toList_eraseAt {α : Type} (xs : Array α) (p : Nat) : (SetTable.eraseAt xs p).toList = xs.toList.eraseIdx p := by
  unfold SetTable.eraseAt
  rw [Array.toList_append, Array.toList_extract, Array.toList_extract, List.eraseIdx_eq_take_drop_succ]
  simp only [List.extract_eq_take_drop, List.drop_zero, Nat.sub_zero]
  congr 1
  rw [List.take_of_length_le]
  simp
theorem rise_erase {xs : Array Nat} (hr : Rise xs) (p : Nat) : Rise (SetTable.eraseAt xs p) := by
  rw [rise_iff, toList_eraseAt]
  exact (rise_iff.mp hr).sublist (List.eraseIdx_sublist ..)
theorem rise_range (n : Nat) : Rise (Array.range n) := by
  intro i j hij hj
  have hj' : j < n := by simpa using hj
  simp [Array.getD, hj', show i < n by omega]
  exact hij
theorem rise_laid {mask finger moves : Nat} {led plain : Bool} {hashes : Array Int} {t : SetTable} {order : Array Nat}
    (h : SetTable.laid mask finger moves led plain hashes = some (t, order)) : Rise t.place := by
  unfold SetTable.laid at h
  cases hl : SetTable.layClean mask hashes with
  | none => rw [hl] at h; cases h
  | some owner =>
    rw [hl] at h
    simp only [Option.bind_eq_bind, Option.bind_some, Option.pure_def, Option.some.injEq, Prod.mk.injEq] at h
    obtain ⟨h1, _⟩ := h
    rw [← h1, rise_iff]
    dsimp only
    rw [List.map_filterMap]
    have hs : List.Sublist (List.filterMap (fun x => Option.map (fun p => p.1) (Option.map (fun x_1 => (x, x_1)) (owner.getD x none))) (List.range (mask + 1))) (List.range (mask + 1)) := by
      generalize List.range (mask + 1) = l
      induction l with
      | nil => exact List.Sublist.slnil
      | cons a r ih =>
        rw [List.filterMap_cons]
        cases owner.getD a none with
        | none => exact ih.cons _
        | some v => exact ih.cons_cons _
    exact (List.pairwise_lt_range (n := mask + 1)).sublist hs
/-- the places rise, in every table that the set's own steps make -/
theorem rise_orStandIn {t : SetTable} (hr : Rise t.place) (n : Nat) : Rise (t.orStandIn n).place := by
  unfold SetTable.orStandIn
  split
  · exact hr
  · exact rise_range n
theorem led_orStandIn (t : SetTable) (n : Nat) : (t.orStandIn n).led = t.led := by
  unfold SetTable.orStandIn SetTable.standIn
  split <;> rfl
theorem slot_not_live {t : SetTable} {j : Nat} (h : t.slot j = .empty ∨ t.slot j = .dummy) : t.place[SetTable.below t.place j]? ≠ some j := by
  intro e
  unfold SetTable.slot at h
  dsimp only at h
  rw [e] at h
  simp at h
theorem probe_free {t : SetTable} {h : Int} {f : Nat → Int} : ∀ (fuel : Nat) (p : SetTable.Probe) {j : Nat} {d : Option Nat}, (∀ x, p.dummy = some x → t.place[SetTable.below t.place x]? ≠ some x) →
    SetTable.probe.go t f h fuel p = some (.empty j d) → t.place[SetTable.below t.place (d.getD j)]? ≠ some (d.getD j) := by
  intro fuel
  induction fuel with
  | zero => intro p j d _ h; rw [SetTable.probe.go] at h; cases h
  | succ n ih =>
    intro p j d hp hg
    rw [SetTable.probe.go] at hg
    cases hs : t.slot p.j with
    | empty =>
      rw [hs] at hg
      simp only [Option.some.injEq, SetTable.Met.empty.injEq] at hg
      obtain ⟨rfl, rfl⟩ := hg
      cases hd : p.dummy with
      | none => exact slot_not_live (.inl hs)
      | some x => exact hp x hd
    | dummy =>
      rw [hs] at hg
      refine ih _ (fun x hx => ?_) hg
      have hadv : ∀ q : SetTable.Probe, (t.advance q).dummy = q.dummy := by
        intro q; unfold SetTable.advance; split <;> rfl
      rw [hadv] at hx
      simp only [Option.some.injEq] at hx
      subst hx
      exact slot_not_live (.inr hs)
    | live i =>
      rw [hs] at hg
      dsimp only at hg
      have hadv : ∀ q : SetTable.Probe, (t.advance q).dummy = q.dummy := by
        intro q; unfold SetTable.advance; split <;> rfl
      split at hg
      · cases hg
      · exact ih _ (fun x hx => hp x (by rw [hadv] at hx; exact hx)) hg
theorem freeSlot_free {t : SetTable} {h : Int} {slot : Nat} {b : Bool} (e : t.freeSlot h = some (slot, b)) : t.place[SetTable.below t.place slot]? ≠ some slot := by
  unfold SetTable.freeSlot at e
  split at e
  · rename_i j d hp
    simp only [Option.some.injEq, Prod.mk.injEq] at e
    obtain ⟨rfl, _⟩ := e
    exact probe_free _ _ (fun x hx => by cases hx) hp
  · cases e
theorem rise_layNew {t : SetTable} (hr : Rise t.place) (es : Array (Int × Value)) (h : Int) (x : Value) : Rise (layNew t es h x).2.1.place ∧ (layNew t es h x).2.1.led = t.led := by
  unfold layNew
  split
  · rename_i slot wasDummy hf
    dsimp only [SetTable.put]
    refine ⟨rise_orStandIn ?_ _, led_orStandIn _ _⟩
    exact rise_insert hr (freeSlot_free hf)
  · exact ⟨rise_range _, rfl⟩
theorem led_laid {mask finger moves : Nat} {led plain : Bool} {hashes : Array Int} {t : SetTable} {order : Array Nat}
    (h : SetTable.laid mask finger moves led plain hashes = some (t, order)) : t.led = led := by
  unfold SetTable.laid at h
  cases hl : SetTable.layClean mask hashes with
  | none => rw [hl] at h; cases h
  | some owner =>
    rw [hl] at h
    simp only [Option.bind_eq_bind, Option.bind_some, Option.pure_def, Option.some.injEq, Prod.mk.injEq] at h
    rw [← h.1]
theorem rise_relayAll {t : SetTable} (es : Array (Int × Value)) (wanted : Nat) : Rise (relayAll t es wanted).2.1.place ∧ (relayAll t es wanted).2.1.led = t.led := by
  unfold relayAll
  split
  · rename_i t' order hl
    unfold SetTable.relaid at hl
    dsimp only
    split
    · exact ⟨rise_laid hl, led_laid hl⟩
    · exact ⟨rise_range _, rfl⟩
  · exact ⟨rise_range _, rfl⟩
/-- the entries of a set of ints, with the ints told -/
inductive EntsAre : List (Int × Value) → List Int → Prop
  | nil : EntsAre [] []
  | cons (k : Int) (t : Tok) {es : List (Int × Value)} {ks : List Int} (h : EntsAre es ks) : EntsAre ((hashInt k, .int k t) :: es) (k :: ks)
theorem EntsAre.length {es : List (Int × Value)} {ks : List Int} (h : EntsAre es ks) : es.length = ks.length := by
  induction h with
  | nil => rfl
  | cons k t _ ih => rw [List.length_cons, List.length_cons, ih]
theorem EntsAre.get {es : List (Int × Value)} {ks : List Int} (h : EntsAre es ks) : ∀ {i : Nat} (hi : i < ks.length), ∃ t, es[i]? = some (hashInt ks[i], .int ks[i] t) := by
  induction h with
  | nil => intro i hi; exact absurd hi (Nat.not_lt_zero _)
  | cons k t _ ih =>
    intro i hi
    cases i with
    | zero => exact ⟨t, rfl⟩
    | succ j =>
      obtain ⟨t', e⟩ := ih (i := j) (by simpa using hi)
      exact ⟨t', by simpa using e⟩
theorem EntsAre.append {es es' : List (Int × Value)} {ks ks' : List Int} (h : EntsAre es ks) (h' : EntsAre es' ks') : EntsAre (es ++ es') (ks ++ ks') := by
  induction h with
  | nil => exact h'
  | cons k t _ ih => exact .cons k t ih
theorem EntsAre.perm {es es' : List (Int × Value)} (p : es'.Perm es) : ∀ {ks : List Int}, EntsAre es ks → ∃ ks', EntsAre es' ks' ∧ ks'.Perm ks := by
  induction p with
  | nil => intro ks h; exact ⟨ks, h, .refl _⟩
  | cons x _ ih =>
    intro ks h
    cases h with
    | cons k t h =>
      obtain ⟨ks', h1, h2⟩ := ih h
      exact ⟨k :: ks', .cons k t h1, h2.cons k⟩
  | swap x y l =>
    intro ks h
    cases h with
    | cons k t h =>
      cases h with
      | cons k' t' h => exact ⟨k' :: k :: _, .cons k' t' (.cons k t h), .swap ..⟩
  | trans _ _ ih1 ih2 =>
    intro ks h
    obtain ⟨ks1, h1, h2⟩ := ih2 h
    obtain ⟨ks2, h3, h4⟩ := ih1 h1
    exact ⟨ks2, h3, h4.trans h2⟩
theorem EntsAre.elems {prog : Program} {w : World} {es : List (Int × Value)} {ks : List Int} (h : EntsAre es ks) : ElemsOf (intKind prog w) es := by
  induction h with
  | nil => intro e he; cases he
  | cons k t _ ih =>
    intro e he
    rcases List.mem_cons.mp he with rfl | he
    · exact ⟨⟨k, intKind_is _ _ _ _, rfl⟩, rfl⟩
    · exact ih e he
theorem EntsAre.mem_iff {prog : Program} {w : World} {es : List (Int × Value)} {ks : List Int} (h : EntsAre es ks) (k : Int) : k ∈ ks ↔ ∃ e ∈ es, (intKind prog w).is k e.2 = true := by
  induction h with
  | nil => simp
  | cons k' t _ ih =>
    rw [List.mem_cons, ih]
    constructor
    · rintro (rfl | ⟨e, he, hk⟩)
      · exact ⟨_, .head _, intKind_is _ _ _ _⟩
      · exact ⟨e, .tail _ he, hk⟩
    · rintro ⟨e, he, hk⟩
      rcases List.mem_cons.mp he with rfl | he
      · exact .inl ((intKind prog w).inj _ _ _ hk (intKind_is _ _ k' t))
      · exact .inr ⟨e, he, hk⟩
/-- the object is a set of just these ints, in the table's order -/
def SetI (w : World) (o : Obj) (ks : List Int) : Prop :=
  o.ExactSet ∧ ks.Nodup ∧ ks.length < 2000 ∧ ∃ es ep t, o.data = .set es ep t ∧ EntsAre es.toList ks ∧ t.fits es.size = true ∧ Rise t.place ∧ (w.params.followText "set-order" = true ∨ t.led = true)
/-- the object is a set of just these ints -/
def SetM (w : World) (o : Obj) (xs : List Int) : Prop := ∃ ks : List Int, ks.Perm xs ∧ SetI w o ks
theorem SetM.perm {w : World} {o : Obj} {xs ys : List Int} (h : SetM w o xs) (p : xs.Perm ys) : SetM w o ys := let ⟨ks, h1, h2⟩ := h; ⟨ks, h1.trans p, h2⟩
theorem SetM.nodup {w : World} {o : Obj} {xs : List Int} (h : SetM w o xs) : xs.Nodup := let ⟨_, h1, h2⟩ := h; h1.nodup_iff.mp h2.2.1
theorem SetM.small {w : World} {o : Obj} {xs : List Int} (h : SetM w o xs) : xs.length < 2000 := let ⟨_, h1, h2⟩ := h; h1.length_eq ▸ h2.2.2.1
theorem SetM.objOf {prog : Program} {w : World} {o : Obj} {xs : List Int} (h : SetM w o xs) : o.SetObjOf (intKind prog w) (fun k => decide (k ∈ xs)) xs.length := by
  obtain ⟨ks, hp, hex, hnd, hlen, es, ep, t, hd, he, hf, hr, hl⟩ := h
  refine ⟨hex, es, ep, t, hd, he.elems, fun k => ?_, ?_, hf⟩
  · rw [decide_eq_true_eq, ← hp.mem_iff]; exact he.mem_iff k
  · rw [← hp.length_eq, ← he.length]; simp
section
variable {prog : Program} {w : World} {A : Around} {E : Value → Shared → Prop} {s : Shared}
theorem freshSet {led : Bool} (h : w.params.followText "set-order" = true ∨ led = true) : SetM w { cls := .type "set", dict := none, data := .set #[] 0 (.fresh 0 0 led) } [] :=
  ⟨[], .refl _, ⟨rfl, rfl, rfl⟩, List.nodup_nil, by decide, #[], 0, _, rfl, .nil, rfl, (fun i j h hj => absurd hj (Nat.not_lt_zero _)), h⟩
theorem newSetM {Q : Value → Shared → Prop}
    (h : ∀ o : Obj, o.isFreed = false → SetM w o [] → Q (.ref s.heap.objs.size) { s with heap := s.heap.push o }) :
    wpAny (model prog w) A (newSet (.type "set")) Q E s := by
  unfold newSet setsByText
  refine wpAny_bind (wpAny_bind (wpAny_askSetting (wpAny_pure ?_)))
  dsimp only
  simp only [newObj]
  refine wpAny_bind (wpAny_alloc (wpAny_pure (h _ rfl (freshSet ?_))))
  show w.params.followText "set-order" = true ∨ (!w.params.followText "set-order") = true
  cases w.params.followText "set-order" <;> simp
/-- storing entries and table keeps the set a set -/
theorem storeM {a : Addr} {o : Obj} {es : Array (Int × Value)} {ep : Nat} {t : SetTable} (ho : s.heap.get? a = some o) (hex : o.ExactSet) (hd : o.data = .set es ep t)
    {es' : Array (Int × Value)} {t' : SetTable} {ks : List Int} (he : EntsAre es'.toList ks) (hnd : ks.Nodup) (hlen : ks.length < 2000) (hf : t'.fits es'.size = true) (hr : Rise t'.place)
    (hl : w.params.followText "set-order" = true ∨ t'.led = true) {Q : Unit → Shared → Prop}
    (h : ∀ h' o', Heap.SameBut a s.heap h' → h'.get? a = some o' → o'.ExactSet → o'.data = .set es' (ep + 1) t' → SetI w o' ks → Q () { s with heap := h' }) :
    wpAny (model prog w) A (storeSet a es' t') Q E s := by
  have hsz : es'.size < scanBound := by
    have := he.length
    have h2 : scanBound = 4096 := rfl
    rw [Array.length_toList] at this
    omega
  refine wpAny_storeSet_of ho hd ?_ (fits_of_scanBound hsz)
  have hg : (s.heap.update a (Obj.putSet es' t')).get? a = some { o with data := .set es' (ep + 1) t' } := by
    have := Heap.get?_update_self (Obj.putSet es' t') ho (by rw [putSet_of es' t' hd]; rfl)
    rw [putSet_of es' t' hd] at this
    exact this
  exact h _ _ (Heap.SameBut.update ..) hg hex rfl ⟨hex, hnd, hlen, es', ep + 1, t', rfl, he, hf, hr, hl⟩
end
section
variable {prog : Program} {w : World} {A : Around} {E : Value → Shared → Prop} {s : Shared}
theorem toks_eta (s : Shared) : s = { s with heap := s.heap } := by cases s; rfl
/-- what a step that makes the set ks bigger by k leaves -/
theorem grownM {xs ks ks' : List Int} {k : Int} {o' : Obj} (hp : ks.Perm xs) (hk : k ∉ xs) (hp' : ks'.Perm (ks ++ [k])) (hS : SetI w o' ks') : SetM w o' (if k ∈ xs then xs else xs ++ [k]) := by
  rw [if_neg hk]
  exact ⟨ks', hp'.trans (hp.append_right [k]), hS⟩
theorem addHashedM {a : Addr} {o : Obj} {k : Int} {tok : Tok} {xs : List Int} (ho : s.heap.get? a = some o) (hS : SetM w o xs) (hroom : xs.length + 1 < 2000) {Q : Bool → Shared → Prop}
    (h : ∀ h' o', Heap.SameBut a s.heap h' → h'.get? a = some o' → SetM w o' (if k ∈ xs then xs else xs ++ [k]) → Q (decide (k ∉ xs)) { s with heap := h' }) :
    wpAny (model prog w) A (setAddHashed a (.int k tok) (hashInt k)) Q E s := by
  have hSM := hS
  obtain ⟨ks, hp, hex, hnd, hlen, es, ep, t, hd, he, hf, hr, hl⟩ := hS
  have hel : ElemsOf (intKind prog w) es.toList := he.elems
  have hesz : es.size = ks.length := by have := he.length; rwa [Array.length_toList] at this
  have hb : es.size < scanBound := by
    have h2 : scanBound = 4096 := rfl
    omega
  unfold setAddHashed setAddHashedIn
  refine wpAny_holding (wpAny_bind (wpAny_setState_of ho hd hf ?_))
  dsimp only
  rw [byScan_of rfl hb hel]
  simp only [↓reduceIte]
  unfold setAddByScan
  refine wpAny_bind (wpAny_bind (wpAny_rule ?_))
  refine wpAny_bind (wpAny_setScan_of (knd := intKind prog w) (k := k) (intKind_is _ _ _ _) ho hd hf hel ?_)
  cases hfi : List.findIdx? (fun e => (intKind prog w).is k e.2) es.toList with
  | some j =>
    dsimp only
    obtain ⟨hj, hpj, _⟩ := List.findIdx?_eq_some_iff_getElem.mp hfi
    have hk : k ∈ xs := hp.mem_iff.mp ((he.mem_iff k).mpr ⟨es.toList[j], List.getElem_mem hj, hpj⟩)
    refine wpAny_pure (wpAny_pure ?_)
    have := h s.heap o (Heap.SameBut.refl a s.heap) ho (by rw [if_pos hk]; exact hSM)
    rw [decide_eq_false (not_not_intro hk)] at this
    rw [toks_eta s]
    exact this
  | none =>
    dsimp only
    have hk : k ∉ xs := by
      intro hk
      obtain ⟨e, hem, hpe⟩ := (he.mem_iff (prog := prog) (w := w) k).mp (hp.mem_iff.mpr hk)
      have := List.findIdx?_eq_none_iff.mp hfi e hem
      rw [hpe] at this
      cases this
    have hkk : k ∉ ks := fun hh => hk (hp.mem_iff.mp hh)
    have hperm := layNew_perm t es (hashInt k) (.int k tok)
    have hfits := layNew_fits t es (hashInt k) (.int k tok)
    have hrise := rise_layNew hr es (hashInt k) (.int k tok)
    generalize layNew t es (hashInt k) (.int k tok) = Lr at hperm hfits hrise ⊢
    obtain ⟨es1, t1, wasDummy, gave⟩ := Lr
    dsimp only at hperm hfits hrise ⊢
    rw [Array.toList_push] at hperm
    obtain ⟨ks1, he1, hp1⟩ := EntsAre.perm hperm (he.append (.cons k tok .nil))
    have hnd1 : ks1.Nodup := hp1.nodup_iff.mpr (List.nodup_append.mpr ⟨hnd, by simp, by
      intro a ha b hb hab
      rw [List.mem_singleton] at hb
      subst hb; subst hab
      exact hkk ha⟩)
    have hlen1 : ks1.length < 2000 := by
      rw [hp1.length_eq, List.length_append, List.length_singleton, hp.length_eq]; exact hroom
    have hend : ∀ (h' : Heap) (o' : Obj) (ks' : List Int), Heap.SameBut a s.heap h' → h'.get? a = some o' → ks'.Perm ks1 → SetI w o' ks' → Q true { s with heap := h' } := by
      intro h' o' ks' hsb hg hpp hSI
      have := h h' o' hsb hg (grownM hp hk (hpp.trans hp1) hSI)
      rw [decide_eq_true hk] at this
      exact this
    have tail : ∀ (t2 : SetTable), t2.fits es1.size = true → Rise t2.place → t2.led = t.led →
        wpAny (model prog w) A (do
          storeSet a es1 t2
          if (!wasDummy && t2.tooFull) = true then do
              (match (relayAll t2 es1 (SetTable.grown es1.size)).2.2 with | true => rule "set.scan.the-table-gave-way" | false => pure ())
              storeSet a (relayAll t2 es1 (SetTable.grown es1.size)).1 (relayAll t2 es1 (SetTable.grown es1.size)).2.1
              pure (some true)
            else pure (some true)) (fun r s' => r = some true ∧ Q true s') E s := by
      intro t2 hf2 hr2 hl2
      refine wpAny_bind (storeM ho hex hd he1 hnd1 hlen1 hf2 hr2 (hl.imp id fun q => hl2.trans q) fun h1 o1 hsb1 hg1 hex1 hd1 hS1 => ?_)
      split
      · have hp2 := relayAll_perm t2 es1 (SetTable.grown es1.size)
        have hf3 := relayAll_fits t2 es1 (SetTable.grown es1.size)
        have hr3 := rise_relayAll (t := t2) es1 (SetTable.grown es1.size)
        generalize relayAll t2 es1 (SetTable.grown es1.size) = Rl at hp2 hf3 hr3 ⊢
        obtain ⟨es2, t3, gave2⟩ := Rl
        dsimp only at hp2 hf3 hr3 ⊢
        obtain ⟨ks2, he2, hpk2⟩ := EntsAre.perm hp2 he1
        refine wpAny_bind ?_
        have go : wpAny (model prog w) A (do storeSet a es2 t3; pure (some true)) (fun r s' => r = some true ∧ Q true s') E { s with heap := h1 } := by
          refine wpAny_bind (storeM (s := { s with heap := h1 }) hg1 hex1 hd1 he2 (hpk2.nodup_iff.mpr hnd1) (by rw [hpk2.length_eq]; exact hlen1) hf3 hr3.1 (hl.imp id fun q => hr3.2.trans (hl2.trans q)) fun h2 o2 hsb2 hg2 _ _ hS2 => ?_)
          exact wpAny_pure ⟨rfl, hend h2 o2 ks2 (hsb1.trans hsb2) hg2 hpk2 hS2⟩
        cases gave2
        · exact wpAny_pure go
        · exact wpAny_rule go
      · exact wpAny_pure ⟨rfl, hend h1 o1 ks1 hsb1 hg1 (.refl _) hS1⟩
    have fin : ∀ (t2 : SetTable), t2.fits es1.size = true → Rise t2.place → t2.led = t.led → ∀ r s', (r = some true ∧ Q true s') →
        wpAny (model prog w) A (match r with | some added => (pure added : Sem Bool) | none => setAddHashedIn a (.int k tok) (hashInt k) 99999) Q E s' := by
      rintro t2 _ _ _ r s' ⟨rfl, hq⟩
      exact wpAny_pure hq
    have all : ∀ (t2 : SetTable), t2.fits es1.size = true → Rise t2.place → t2.led = t.led →
        wpAny (model prog w) A (do
          storeSet a es1 t2
          if (!wasDummy && t2.tooFull) = true then do
              (match (relayAll t2 es1 (SetTable.grown es1.size)).2.2 with | true => rule "set.scan.the-table-gave-way" | false => pure ())
              storeSet a (relayAll t2 es1 (SetTable.grown es1.size)).1 (relayAll t2 es1 (SetTable.grown es1.size)).2.1
              pure (some true)
            else pure (some true)) (fun r s' => wpAny (model prog w) A (match r with | some added => (pure added : Sem Bool) | none => setAddHashedIn a (.int k tok) (hashInt k) 99999) Q E s') E s :=
      fun t2 h1 h2 h3 => wpAny_mono (tail t2 h1 h2 h3) (fun r s' hq => fin t2 h1 h2 h3 r s' hq) fun _ _ x => x
    have gw : ∀ {X : Unit → Shared → Prop}, X () s → wpAny (model prog w) A (match gave with | true => rule "set.scan.the-table-gave-way" | false => pure ()) X E s := by
      intro X hX
      cases gave
      · exact wpAny_pure hX
      · exact wpAny_rule hX
    refine wpAny_bind (gw ?_)
    split
    · refine wpAny_bind ?_
      rw [hashByValue_scannable 8 (x := .int k tok) rfl]
      refine wpAny_pure ?_
      exact all _ hfits hrise.1 hrise.2
    · refine wpAny_bind (wpAny_pure ?_)
      simp only [↓reduceIte]
      exact all _ hfits hrise.1 hrise.2
theorem addM {a : Addr} {o : Obj} {k : Int} {tok : Tok} {xs : List Int} (ho : s.heap.get? a = some o) (hS : SetM w o xs) (hroom : xs.length + 1 < 2000) {Q : Bool → Shared → Prop}
    (h : ∀ h' o', Heap.SameBut a s.heap h' → h'.get? a = some o' → SetM w o' (if k ∈ xs then xs else xs ++ [k]) → Q (decide (k ∉ xs)) { s with heap := h', toks := s.toks + 1 }) :
    wpAny (model prog w) A (setAdd a (.int k tok)) Q E s := by
  unfold setAdd
  refine wpAny_holding (wpAny_bind ((intKind prog w).pyHash (k := k) (intKind_is _ _ _ _) ?_))
  exact addHashedM (s := { s with toks := s.toks + 1 }) ho hS hroom h
end
theorem slot_setiter_next : Slot "set_iterator" "__next__" "set_iterator.__next__" :=
  .of (owner := "set_iterator") (n := "__next__") (by rw [typeLookup_type, builtinLookup_eq_fast]; kernel_rfl) (by decide +kernel) (by decide +kernel) (by decide +kernel)
    (by first | exact .inl (by decide +kernel) | exact .inr (by decide +kernel)) (by rw [isSubtype_type]; kernel_rfl)
theorem slot_setiter_iter : Slot "set_iterator" "__iter__" "set_iterator.__iter__" :=
  .of (owner := "set_iterator") (n := "__iter__") (by rw [typeLookup_type, builtinLookup_eq_fast]; kernel_rfl) (by decide +kernel) (by decide +kernel) (by decide +kernel)
    (by first | exact .inl (by decide +kernel) | exact .inr (by decide +kernel)) (by rw [isSubtype_type]; kernel_rfl)
theorem entry_setiter_next : entryFor table "set_iterator.__next__" = some Builtin.«set_iterator.__next__» := entryFor_of_tree (by kernel_rfl)
theorem entry_setiter_iter : entryFor table "set_iterator.__iter__" = some Builtin.«dict_keyiterator.__iter__» :=
  entryFor_alias (id' := "dict_keyiterator.__iter__") (by kernel_rfl) rfl (by decide +kernel) (by kernel_rfl)
theorem entry_set_iter : entryFor table "set.__iter__" = some Builtin.«frozenset.__iter__» :=
  entryFor_alias (id' := "frozenset.__iter__") (by kernel_rfl) rfl (by decide +kernel) (by kernel_rfl)
theorem owner_setiter : Manifest.owners.lookup (String.ofList ['r', 'o', 't', 'a', 'r', 'e', 't', 'i', '_', 't', 'e', 's'].reverse) = some Manifest.sig_set_iterator := by kernel_rfl
theorem args_setiter_next (a : Value) : argsOk "set_iterator.__next__" ⟨[a], []⟩ := by
  unfold argsOk; rw [signature?_of (id := "set_iterator.__next__") (n := ['_', '_', 't', 'x', 'e', 'n', '_', '_']) (o := ['r', 'o', 't', 'a', 'r', 'e', 't', 'i', '_', 't', 'e', 's']) (by kernel_rfl) owner_setiter]; kernel_rfl
theorem args_setiter_iter (a : Value) : argsOk "set_iterator.__iter__" ⟨[a], []⟩ := by
  unfold argsOk; rw [signature?_of (id := "set_iterator.__iter__") (n := ['_', '_', 'r', 'e', 't', 'i', '_', '_']) (o := ['r', 'o', 't', 'a', 'r', 'e', 't', 'i', '_', 't', 'e', 's']) (by kernel_rfl) owner_setiter]; kernel_rfl
/-- the iterator of the set at S: where it stands, how many it has given -/
abbrev siObj (first : Value) (i : Nat) (S : Addr) (n ep : Nat) : Obj := { cls := .type "set_iterator", dict := none, data := .fields #[first, .int i 0, .ref S, .int n 0, .int ep 0], slots := #[] }
section
variable {prog : Program} {w : World} {A : Around} {E : Value → Shared → Prop} {s : Shared} {I S : Addr} {first : Value} {i n ep : Nat}
theorem si_type (hit : s.heap.get? I = some (siObj first i S n ep)) : s.TypeIs (.ref I) "set_iterator" := ⟨_, hit, rfl⟩
theorem si_iter {Q : Value → Shared → Prop} (hit : s.heap.get? I = some (siObj first i S n ep)) (h : Q (.ref I) s) : wpAny (model prog w) A (pyIter (.ref I)) Q E s := by
  refine wpAny_pyIter_slot (si_type hit) slot_setiter_iter (wpAny_call_entry slot_setiter_iter (si_type hit) entry_setiter_iter ?_ (args_setiter_iter _))
  show wpAny _ _ (ret (.ref I)) _ _ s
  exact wpAny_pure ⟨_, rfl, "set_iterator", _, si_type hit, slot_setiter_next.lookup, h⟩
/-- one step of an iterator that goes by slots (or by the world's own order) -/
theorem si_itemX {o : Obj} {es : Array (Int × Value)} {t : SetTable} {sl sl' : Nat} {k : Int} {Q : Option Value → Shared → Prop}
    (hit : s.heap.get? I = some (siObj (.int sl 0) i S n ep)) (ho : s.heap.get? S = some o) (hd : o.data = .set es ep t) (hf : t.fits es.size = true) (hn : es.size = n)
    (hx : ∀ (A : Around) (E : Value → Shared → Prop) (Q : Option (Value × Nat) → Shared → Prop), (∀ tk, Q (some (.int k tk, sl')) s) → wpAny (model prog w) A (setNext S sl i ep) Q E s)
    (hQ : ∀ (tk : Tok) h', h'.get? I = some (siObj (.int sl' 0) (i + 1) S n ep) → Heap.SameBut I s.heap h' → Q (some (.int k tk)) { s with heap := h' }) :
    wpAny (model prog w) A (pyNext (.ref I)) Q E s := by
  unfold pyNext
  refine wpAny_bind (wpAny_attempt (wpAny_callSpecial?_slot (name := Str.ofString "__next__") (si_type hit) slot_setiter_next
    (wpAny_call_entry slot_setiter_next (si_type hit) entry_setiter_next ?_ (args_setiter_next _))))
  unfold Builtin.«set_iterator.__next__»
  refine wpAny_bind (wpAny_pure ?_)
  refine wpAny_bind (wpAny_fieldsOf hit rfl ?_)
  show wpAny _ _ (setEntries S >>= _) _ _ s
  refine wpAny_bind (wpAny_setEntries_of ho hd hf ?_)
  have hne : (((es.size : Nat) : Int) != (n : Int)) = false := by rw [hn]; simp
  rw [hne]
  simp only [Bool.false_eq_true, if_false]
  show wpAny _ _ (setNext S sl i ep >>= _) _ _ s
  refine wpAny_bind (hx _ _ _ fun tk => ?_)
  dsimp only
  refine wpAny_bind (wpAny_setField hit rfl (by simp) ?_)
  have h1 : (s.heap.update I (Obj.mapFields (·.setIfInBounds 0 (rawInt sl')))).get? I = some (siObj (.int sl' 0) i S n ep) := Heap.get?_update_self _ hit rfl
  refine wpAny_bind (wpAny_setField (s := { s with heap := s.heap.update I (Obj.mapFields (·.setIfInBounds 0 (rawInt sl'))) }) h1 rfl (by simp) ?_)
  refine wpAny_pure ⟨_, rfl, wpAny_pure (hQ tk _ ?_ ((Heap.SameBut.update ..).trans (Heap.SameBut.update ..)))⟩
  exact Heap.get?_update_self _ h1 rfl
/-- the raise of StopIteration, met by pyNext -/
theorem si_stop {Q : Option Value → Shared → Prop} {h : Heap} {h₀ : Heap} (hh : A.handled = none) (hk : Heap.ExtBut I h₀ h)
    (hQ : ∀ h', Heap.ExtBut I h₀ h' → Q none { s with heap := h' }) :
    wpAny (model prog w) A.in1 (newExc (.type "StopIteration") [] >>= fun x => (raiseNew x : Sem Fin)) (fun fin s' => ∃ v, fin = Fin.done (Flow.ret v) ∧ wpAny (model prog w) A (pure (some v)) Q E s')
      (fun e s' => wpAny (model prog w) A (do if ← isInstance e (.type "StopIteration") then pure none else throw e) Q E s') { s with heap := h } := by
  refine wpAny_bind ?_
  simp only [newExc, newTuple]
  refine wpAny_bind (wpAny_newObj_type ?_ (by size_fits))
  refine wpAny_bind (m := firstArgMember _ _) (wpAny_of_eq (a := Value.none) (by first | rfl | (simp only [firstArgMember]; rfl)) ?_)
  refine wpAny_newObj_type ?_ (by size_fits)
  simp only [raiseNew]
  refine wpAny_bind (wpAny_handled ?_)
  rw [show A.in1.handled = none from hh]
  refine wpAny_bind (wpAny_pure (wpAny_throw ?_))
  refine wpAny_bind (wpAny_isInstance (T := "StopIteration") (b := true) ⟨_, Heap.get?_push_size _ rfl, rfl⟩ isSubtype_stop ?_)
  exact wpAny_pure (hQ _ ((hk.push _).push _))
theorem si_done {o : Obj} {es : Array (Int × Value)} {t : SetTable} {sl : Nat} {Q : Option Value → Shared → Prop} (hh : A.handled = none)
    (hit : s.heap.get? I = some (siObj (.int sl 0) i S n ep)) (ho : s.heap.get? S = some o) (hd : o.data = .set es ep t) (hf : t.fits es.size = true) (hn : es.size = n)
    (hx : ∀ (A : Around) (E : Value → Shared → Prop) (Q : Option (Value × Nat) → Shared → Prop), Q none s → wpAny (model prog w) A (setNext S sl i ep) Q E s)
    (hQ : ∀ h', Heap.ExtBut I s.heap h' → Q none { s with heap := h' }) :
    wpAny (model prog w) A (pyNext (.ref I)) Q E s := by
  unfold pyNext
  refine wpAny_bind (wpAny_attempt (wpAny_callSpecial?_slot (name := Str.ofString "__next__") (si_type hit) slot_setiter_next
    (wpAny_call_entry slot_setiter_next (si_type hit) entry_setiter_next ?_ (args_setiter_next _))))
  unfold Builtin.«set_iterator.__next__»
  refine wpAny_bind (wpAny_pure ?_)
  refine wpAny_bind (wpAny_fieldsOf hit rfl ?_)
  show wpAny _ _ (setEntries S >>= _) _ _ s
  refine wpAny_bind (wpAny_setEntries_of ho hd hf ?_)
  have hne : (((es.size : Nat) : Int) != (n : Int)) = false := by rw [hn]; simp
  rw [hne]
  simp only [Bool.false_eq_true, if_false]
  show wpAny _ _ (setNext S sl i ep >>= _) _ _ s
  refine wpAny_bind (hx _ _ _ ?_)
  dsimp only
  refine wpAny_bind (wpAny_setField hit rfl (by simp) ?_)
  exact si_stop hh (Heap.SameBut.update ..).extBut hQ
end
theorem erase_perm {α : Type} {l : List α} {i : Nat} (hi : i < l.length) : (l[i] :: l.eraseIdx i).Perm l := by
  rw [List.eraseIdx_eq_take_drop_succ]
  have e : l = l.take i ++ l[i] :: l.drop (i + 1) := by
    rw [List.getElem_cons_drop, List.take_append_drop]
  exact (List.perm_middle.symm).trans (by rw [← e])
theorem pick_go {α : Type} (next : Nat → Nat) : ∀ (fuel k : Nat) (left : List α) (out : Array α), left.length ≤ fuel → (pickOrder.go next fuel k left out).toList.Perm (out.toList ++ left) := by
  intro fuel
  induction fuel with
  | zero =>
    intro k left out h
    have : left = [] := List.length_eq_zero_iff.mp (by omega)
    subst this
    rw [pickOrder.go]; simp
  | succ n ih =>
    intro k left out h
    rw [pickOrder.go]
    cases hg : left[next k % left.length]? with
    | none =>
      dsimp only
      have h0 : left.length = 0 := by
        rcases Nat.eq_zero_or_pos left.length with h | h
        · exact h
        · have h1 := List.getElem?_eq_none_iff.mp hg
          have := Nat.mod_lt (next k) h
          omega
      have : left = [] := List.length_eq_zero_iff.mp h0
      subst this
      simp
    | some x =>
      dsimp only
      obtain ⟨hi, hx⟩ := List.getElem?_eq_some_iff.mp hg
      refine (ih _ _ _ (by rw [List.length_eraseIdx_of_lt hi]; omega)).trans ?_
      rw [Array.toList_push, List.append_assoc, List.singleton_append]
      refine List.Perm.append_left _ ?_
      rw [← hx]
      exact erase_perm hi
theorem pickOrder_perm {α : Type} (next : Nat → Nat) (xs : Array α) : (pickOrder next xs).toList.Perm xs.toList := by
  have := pick_go next xs.size 0 xs.toList #[] (by simp)
  unfold pickOrder
  simpa using this
def slotAt (t : SetTable) : Nat → Nat
  | 0 => 0
  | j + 1 => t.place.getD j 0 + 1
theorem below_slotAt {t : SetTable} (hr : Rise t.place) {i : Nat} (hi : i ≤ t.place.size) : SetTable.below t.place (slotAt t i) = i := by
  obtain ⟨h1, h2, h3⟩ := below_spec hr (slotAt t i)
  generalize SetTable.below t.place (slotAt t i) = p at *
  cases i with
  | zero =>
    rcases Nat.eq_zero_or_pos p with h | h
    · exact h
    · have := h2 0 h
      exact absurd this (Nat.not_lt_zero _)
  | succ j =>
    have e : slotAt t (j + 1) = t.place.getD j 0 + 1 := rfl
    rw [e] at h2 h3
    rcases Nat.lt_trichotomy p (j + 1) with h | h | h
    · have h4 := h3 p (Nat.le_refl _) (by omega)
      rcases Nat.lt_or_ge p j with h5 | h5
      · have := hr p j h5 (by omega); omega
      · have : p = j := by omega
        subst this; omega
    · exact h
    · have h4 := h2 (j + 1) h
      have := hr j (j + 1) (by omega) (by omega)
      omega
section
variable {prog : Program} {w : World} {A : Around} {E : Value → Shared → Prop} {s : Shared} {S : Addr} {o : Obj} {es : Array (Int × Value)} {ep : Nat} {t : SetTable}
theorem byTextM {Q : Bool → Shared → Prop} (h : Q (w.params.followText "set-order") s) : wpAny (model prog w) A setsByText Q E s :=
  wpAny_bind (wpAny_askSetting (wpAny_pure h))
theorem setWalk_text {Q : Array (Int × Value) → Shared → Prop} (ho : s.heap.get? S = some o) (hd : o.data = .set es ep t) (hf : t.fits es.size = true) (hT : w.params.followText "set-order" = true)
    (h : Q (pickOrder (w.params.setOrder S ep) es) s) : wpAny (model prog w) A (setWalk S) Q E s := by
  unfold setWalk
  refine wpAny_bind (wpAny_setState_of ho hd hf ?_)
  dsimp only
  refine wpAny_bind (byTextM ?_)
  rw [hT]
  simp only [if_true]
  exact wpAny_bind (wpAny_askSetting (wpAny_pure h))
theorem setNext_text {sl i : Nat} {Q : Option (Value × Nat) → Shared → Prop} (ho : s.heap.get? S = some o) (hd : o.data = .set es ep t) (hf : t.fits es.size = true) (hT : w.params.followText "set-order" = true)
    (h : Q ((pickOrder (w.params.setOrder S ep) es)[i]?.map fun e => (e.2, sl)) s) : wpAny (model prog w) A (setNext S sl i ep) Q E s := by
  unfold setNext
  refine wpAny_bind (wpAny_setState_of ho hd hf ?_)
  dsimp only
  refine wpAny_bind (byTextM ?_)
  rw [hT]
  simp only [if_true]
  rw [if_neg (by simp)]
  exact wpAny_bind (setWalk_text ho hd hf hT (wpAny_pure h))
theorem setNext_plain {i : Nat} {Q : Option (Value × Nat) → Shared → Prop} (ho : s.heap.get? S = some o) (hd : o.data = .set es ep t) (hf : t.fits es.size = true) (hT : w.params.followText "set-order" = false)
    (hp : (!t.plain && decide (es.size > 1)) = false) (hl : t.led = true) (hr : Rise t.place) (hi : i ≤ es.size)
    (h : Q (es[i]?.map fun e => (e.2, slotAt t (i + 1))) s) : wpAny (model prog w) A (setNext S (slotAt t i) i ep) Q E s := by
  have hsz : t.place.size = es.size := by
    simp only [SetTable.fits, Bool.and_eq_true, beq_iff_eq] at hf
    exact hf.1
  unfold setNext
  refine wpAny_bind (wpAny_setState_of ho hd hf ?_)
  dsimp only
  refine wpAny_bind (byTextM ?_)
  rw [hT]
  simp only [Bool.false_eq_true, if_false]
  split
  · rename_i hdr
    have hdr' : (!t.plain && decide (es.size > 1)) = true := hdr
    rw [hp] at hdr'
    cases hdr'
  · refine wpAny_bind ?_
    show wpAny _ _ (if (!t.led && !es.isEmpty) = true then _ else pure ()) _ _ s
    rw [if_neg (by rw [hl]; simp)]
    refine wpAny_pure (wpAny_pure ?_)
    rw [below_slotAt hr (by omega)]
    cases he : es[i]? with
    | none => rw [he] at h; exact h
    | some e =>
      rw [he] at h
      obtain ⟨hlt, _⟩ := Array.getElem?_eq_some_iff.mp he
      have hpl : t.place[i]? = some (t.place.getD i 0) := by
        rw [Array.getElem?_eq_getElem (by omega)]
        simp [Array.getD, show i < t.place.size by omega]
      rw [hpl]
      exact h
end
section
variable {M : Model} {A : Around} {E : Value → Shared → Prop} {s : Shared}
theorem chooseM {src : Source} {n : Nat} {Q : Nat → Shared → Prop} (hn : n ≠ 0) (h : ∀ i d', i < n → Q i { s with drawn := d' }) : wpAny M A (choose src n) Q E s := fun Γ p _ => by
  show Sem.wp M Γ (.choose src n .pure) _ _ p s
  rw [Sem.wp_choose]
  refine ⟨hn, ?_⟩
  show Sem.wp M Γ (.pure _) _ _ p _
  have := h (M.w.draws src (s.drawn.get src) % n) (s.drawn.bump src) (Nat.mod_lt _ (Nat.pos_of_ne_zero hn))
  simpa [Sem.wp] using this
theorem drawM {α : Type} : ∀ (n : Nat) (xs : List α) (s : Shared) (Q : List α → Shared → Prop), xs.length ≤ n → (∀ ys d', ys.Perm xs → Q ys { s with drawn := d' }) → wpAny M A (drawOrder n xs) Q E s := by
  intro n
  induction n with
  | zero =>
    intro xs s Q hl h
    have : xs = [] := List.length_eq_zero_iff.mp (by omega)
    subst this
    exact wpAny_pure (by simpa using h [] s.drawn (.refl _))
  | succ n ih =>
    intro xs s Q hl h
    cases xs with
    | nil => exact wpAny_pure (by simpa using h [] s.drawn (.refl _))
    | cons x r =>
      show wpAny M A (choose .order (x :: r).length >>= _) Q E s
      refine wpAny_bind (chooseM (by simp) fun i d' hi => ?_)
      rw [List.getElem?_eq_getElem hi]
      dsimp only
      refine wpAny_bind (ih _ _ _ (by rw [List.length_eraseIdx_of_lt hi]; simp only [List.length_cons] at hl ⊢; omega) fun ys d'' hp => ?_)
      refine wpAny_pure ?_
      exact h _ d'' ((hp.cons _).trans (erase_perm hi))
end
section
variable {prog : Program} {w : World} {A : Around} {E : Value → Shared → Prop} {s : Shared} {I S T : Addr} {i n ep : Nat}
theorem si_itemD {o : Obj} {es : Array (Int × Value)} {t : SetTable} {places : List Nat} {e : Int × Value} {pl : Nat} {Q : Option Value → Shared → Prop}
    (hit : s.heap.get? I = some (siObj (.ref T) i S n ep)) (ho : s.heap.get? S = some o) (hd : o.data = .set es ep t) (hf : t.fits es.size = true) (hn : es.size = n)
    (hT : s.heap.get? T = some { cls := .type "tuple", dict := none, data := .seq (places.map fun (i : Nat) => rawInt i).toArray, slots := #[] }) (hp : places[i]? = some pl) (he : es[pl]? = some e)
    (hQ : ∀ h', h'.get? I = some (siObj (.ref T) (i + 1) S n ep) → Heap.SameBut I s.heap h' → Q (some e.2) { s with heap := h' }) :
    wpAny (model prog w) A (pyNext (.ref I)) Q E s := by
  unfold pyNext
  refine wpAny_bind (wpAny_attempt (wpAny_callSpecial?_slot (name := Str.ofString "__next__") (si_type hit) slot_setiter_next
    (wpAny_call_entry slot_setiter_next (si_type hit) entry_setiter_next ?_ (args_setiter_next _))))
  unfold Builtin.«set_iterator.__next__»
  refine wpAny_bind (wpAny_pure ?_)
  refine wpAny_bind (wpAny_fieldsOf hit rfl ?_)
  show wpAny _ _ (setEntries S >>= _) _ _ s
  refine wpAny_bind (wpAny_setEntries_of ho hd hf ?_)
  have hne : (((es.size : Nat) : Int) != (n : Int)) = false := by rw [hn]; simp
  rw [hne]
  simp only [Bool.false_eq_true, if_false]
  show wpAny _ _ (seqItems? (.ref T) >>= _) _ _ s
  refine wpAny_bind (wpAny_seqItems hT rfl ?_)
  dsimp only
  have hx : (places.map fun (i : Nat) => rawInt i).toArray[((i : Nat) : Int).toNat]? = some (rawInt pl) := by simp [hp]
  rw [hx]
  show wpAny _ _ (setNextDrawn S pl ep >>= _) _ _ s
  unfold setNextDrawn
  refine wpAny_bind (wpAny_bind (wpAny_setState_of ho hd hf ?_))
  dsimp only
  rw [if_neg (by simp), he]
  refine wpAny_pure ?_
  refine wpAny_bind (wpAny_setField hit rfl (by simp) ?_)
  refine wpAny_pure ⟨e.2, rfl, wpAny_pure (hQ _ ?_ (Heap.SameBut.update ..))⟩
  exact Heap.get?_update_self _ hit rfl
theorem si_doneD {o : Obj} {es : Array (Int × Value)} {t : SetTable} {places : List Nat} {Q : Option Value → Shared → Prop} (hh : A.handled = none)
    (hit : s.heap.get? I = some (siObj (.ref T) i S n ep)) (ho : s.heap.get? S = some o) (hd : o.data = .set es ep t) (hf : t.fits es.size = true) (hn : es.size = n)
    (hT : s.heap.get? T = some { cls := .type "tuple", dict := none, data := .seq (places.map fun (i : Nat) => rawInt i).toArray, slots := #[] }) (hp : places[i]? = none)
    (hQ : ∀ h', Heap.ExtBut I s.heap h' → Q none { s with heap := h' }) :
    wpAny (model prog w) A (pyNext (.ref I)) Q E s := by
  unfold pyNext
  refine wpAny_bind (wpAny_attempt (wpAny_callSpecial?_slot (name := Str.ofString "__next__") (si_type hit) slot_setiter_next
    (wpAny_call_entry slot_setiter_next (si_type hit) entry_setiter_next ?_ (args_setiter_next _))))
  unfold Builtin.«set_iterator.__next__»
  refine wpAny_bind (wpAny_pure ?_)
  refine wpAny_bind (wpAny_fieldsOf hit rfl ?_)
  show wpAny _ _ (setEntries S >>= _) _ _ s
  refine wpAny_bind (wpAny_setEntries_of ho hd hf ?_)
  have hne : (((es.size : Nat) : Int) != (n : Int)) = false := by rw [hn]; simp
  rw [hne]
  simp only [Bool.false_eq_true, if_false]
  show wpAny _ _ (seqItems? (.ref T) >>= _) _ _ s
  refine wpAny_bind (wpAny_seqItems hT rfl ?_)
  dsimp only
  have hx : (places.map fun (i : Nat) => rawInt i).toArray[((i : Nat) : Int).toNat]? = none := by simp at hp ⊢; exact hp
  rw [hx]
  dsimp only
  refine wpAny_bind (wpAny_setField hit rfl (by simp) ?_)
  have h1 : (s.heap.update I (Obj.mapFields (·.setIfInBounds 0 (rawInt 0)))).get? I = some (siObj (.int 0 0) i S n ep) := Heap.get?_update_self _ hit rfl
  refine wpAny_bind (wpAny_setField (s := { s with heap := s.heap.update I (Obj.mapFields (·.setIfInBounds 0 (rawInt 0))) }) h1 rfl (by simp) ?_)
  exact si_stop hh ((Heap.SameBut.update ..).trans (Heap.SameBut.update ..)).extBut hQ
end
theorem EntsAre.getA {es : Array (Int × Value)} {ks : List Int} (h : EntsAre es.toList ks) {i : Nat} (hi : i < ks.length) : ∃ t, es[i]? = some (hashInt (ks.getD i 0), .int (ks.getD i 0) t) := by
  obtain ⟨t, e⟩ := h.get hi
  refine ⟨t, ?_⟩
  rw [Array.getElem?_toList] at e
  rw [e]
  simp [List.getD_eq_getElem?_getD, hi]
theorem EntsAre.noneA {es : Array (Int × Value)} {ks : List Int} (h : EntsAre es.toList ks) : es[ks.length]? = none := by
  have := h.length
  rw [Array.length_toList] at this
  exact Array.getElem?_eq_none (by omega)
section
variable {prog : Program} {w : World} {A : Around} {E : Value → Shared → Prop} {s : Shared} {I S : Addr}
/-- the walk of an iterator that goes by slots, or by the world's own order -/
theorem walkInt {o : Obj} {es : Array (Int × Value)} {ep n : Nat} {t : SetTable} (hh : A.handled = none) (hd : o.data = .set es ep t) (hf : t.fits es.size = true) (hn : es.size = n) (hIS : S ≠ I)
    (sl : Nat → Nat) (zs : List Int)
    (hitem : ∀ (s : Shared) (A : Around) (E : Value → Shared → Prop) (i : Nat), i < n → s.heap.get? S = some o → ∃ t, ∀ Q : Option (Value × Nat) → Shared → Prop, Q (some (.int (zs.getD i 0) t, sl (i + 1))) s → wpAny (model prog w) A (setNext S (sl i) i ep) Q E s)
    (hend : ∀ (s : Shared) (A : Around) (E : Value → Shared → Prop) (Q : Option (Value × Nat) → Shared → Prop), s.heap.get? S = some o → Q none s → wpAny (model prog w) A (setNext S (sl n) n ep) Q E s) :
    Walks prog w A I [I, S] [I] n (fun i v => ∃ t, v = .int (zs.getD i 0) t) (fun i h => h.get? I = some (siObj (.int (sl i) 0) i S n ep) ∧ h.get? S = some o) where
  sub := fun b hb => by simp at hb; simp [hb]
  frame := fun _ _ _ st hk => ⟨hk I (by simp) _ st.1, hk S (by simp) _ st.2⟩
  item := fun i s Q E hi st hQ => by
    have hx : ∀ (A : Around) (E : Value → Shared → Prop), ∃ t, ∀ Q : Option (Value × Nat) → Shared → Prop, Q (some (.int (zs.getD i 0) t, sl (i + 1))) s → wpAny (model prog w) A (setNext S (sl i) i ep) Q E s := fun A E => hitem s A E i hi st.2
    obtain ⟨t0, ht0⟩ := hx A.in1 (fun _ _ => True)
    have key : ∀ (A : Around) (E : Value → Shared → Prop) (Q : Option (Value × Nat) → Shared → Prop), (∀ t, Q (some (.int (zs.getD i 0) t, sl (i + 1))) s) → wpAny (model prog w) A (setNext S (sl i) i ep) Q E s := fun A E Q h => by
      obtain ⟨t, ht⟩ := hx A E
      exact ht Q (h t)
    exact si_itemX st.1 st.2 hd hf hn key fun t h' hit' hs' => hQ _ h' s.toks ⟨t, rfl⟩ ⟨hit', hs'.extBut S o hIS st.2⟩ fun b o hb e => hs'.extBut b o (fun h => hb (by simp [h])) e
  done := fun s Q E st hQ => si_done hh st.1 st.2 hd hf hn (fun A E Q h => hend s A E Q st.2 h) fun h' he' => hQ h' s.toks fun b o hb e => he' b o (fun h => hb (by simp [h])) e
  self := fun _ _ _ _ st hQ => si_iter st.1 hQ
end
section
variable {prog : Program} {w : World} {A : Around} {E : Value → Shared → Prop} {s : Shared} {S : Addr}
/-- what is handed on when a set's iterator is made: how it walks, what stands -/
def IterOf (prog : Program) (w : World) (A : Around) (s : Shared) (S : Addr) (xs : List Int) (Q : Value → Shared → Prop) : Prop :=
  ∀ (I : Addr) (fp wr : List Addr) (St : Nat → Heap → Prop) (zs : List Int) (h' : Heap) (d' : Drawn), zs.Perm xs → s.heap.objs.size ≤ h'.objs.size →
    Walks prog w A I fp wr xs.length (fun i v => ∃ t, v = .int (zs.getD i 0) t) St → St 0 h' → (∀ b ∈ fp, b < h'.objs.size) → (∀ b ∈ wr, s.heap.get? b = none) → (∀ b ∈ fp, b = S ∨ s.heap.get? b = none) →
    (∀ b o, s.heap.get? b = some o → h'.get? b = some o) → Q (.ref I) { s with heap := h', drawn := d' }
theorem setDrawnM {o : Obj} {es : Array (Int × Value)} {ep : Nat} {t : SetTable} {Q : Bool → Shared → Prop} (ho : s.heap.get? S = some o) (hd : o.data = .set es ep t) (hf : t.fits es.size = true)
    (h : Q (!w.params.followText "set-order" && (!t.plain && decide (es.size > 1))) s) : wpAny (model prog w) A (setDrawn S) Q E s := by
  unfold setDrawn
  refine wpAny_bind (wpAny_setState_of ho hd hf ?_)
  dsimp only
  exact wpAny_bind (byTextM (wpAny_pure h))
theorem rangePlaces {es : Array (Int × Value)} {ks : List Int} (he : EntsAre es.toList ks) {places : List Nat} (hp : places.Perm (List.range es.size)) :
    (places.map fun p => ks.getD p 0).Perm ks ∧ places.length = ks.length ∧ ∀ i, i < ks.length → ∃ pl e t, places[i]? = some pl ∧ es[pl]? = some e ∧ e.2 = .int ((places.map fun p => ks.getD p 0).getD i 0) t := by
  have hsz : es.size = ks.length := by have := he.length; rwa [Array.length_toList] at this
  have hlen : places.length = ks.length := by rw [hp.length_eq, List.length_range, hsz]
  refine ⟨?_, hlen, fun i hi => ?_⟩
  · refine (hp.map _).trans ?_
    rw [hsz]
    have e : (List.range ks.length).map (fun p => ks.getD p 0) = ks := by
      apply List.ext_getElem
      · simp
      · intro i h1 h2
        simp [List.getD_eq_getElem?_getD, h2]
    rw [e]
  · have hi' : i < places.length := by omega
    have hmem : places[i] ∈ List.range es.size := hp.mem_iff.mp (List.getElem_mem hi')
    have hlt : places[i] < ks.length := by rw [List.mem_range, hsz] at hmem; exact hmem
    obtain ⟨t, e⟩ := he.getA hlt
    exact ⟨places[i], _, t, List.getElem?_eq_getElem hi', e, by simp [List.getD_eq_getElem?_getD, hi']⟩
theorem iterM {o : Obj} {xs : List Int} {Q : Value → Shared → Prop} (hh : A.handled = none) (ho : s.heap.get? S = some o) (hS : SetM w o xs) (h : IterOf prog w A s S xs Q) :
    wpAny (model prog w) A (pyIter (.ref S)) Q E s := by
  obtain ⟨ks, hp, hex, hnd, hlen, es, ep, t, hd, he, hf, hr, hl⟩ := hS
  have hsz : es.size = ks.length := by have := he.length; rwa [Array.length_toList] at this
  have hlx : ks.length = xs.length := hp.length_eq
  have hT : s.TypeIs (.ref S) "set" := ⟨o, ho, hex.1⟩
  have fresh : ∀ {h : Heap} {b : Addr}, h.objs.size ≤ b → h.get? b = none := fun {h b} hb => by
    cases e : h.get? b with
    | none => rfl
    | some o' => exact absurd (Heap.lt_size e) (Nat.not_lt.mpr hb)
  have hSlt := Heap.lt_size ho
  refine wpAny_pyIter_slot hT F.slot_set_iter (wpAny_call_entry F.slot_set_iter hT entry_set_iter ?_ (F.args_set_iter_1 _))
  unfold Builtin.«frozenset.__iter__» Builtin.Frozenset.slot0 Builtin.Frozenset.sizeOf
  refine wpAny_bind (wpAny_pure ?_)
  refine wpAny_bind (wpAny_bind (wpAny_setEntries_of ho hd hf (wpAny_pure ?_)))
  refine wpAny_bind (setDrawnM ho hd hf ?_)
  by_cases hb : w.params.followText "set-order" = true
  · -- by the world's own order
    rw [hb]
    simp only [Bool.not_true, Bool.false_and, Bool.false_eq_true, if_false]
    refine wpAny_bind (wpAny_pure ?_)
    refine wpAny_bind ?_
    unfold setEpoch
    refine wpAny_bind (wpAny_setState_of ho hd hf (wpAny_pure ?_))
    refine wpAny_bind (wpAny_newObj_type (wpAny_pure ⟨_, rfl, "set_iterator", _, ⟨_, Heap.get?_push_size _ rfl, rfl⟩, slot_setiter_next.lookup, ?_⟩))
    obtain ⟨zs, hz, hzp⟩ := EntsAre.perm (pickOrder_perm (w.params.setOrder S ep) es) he
    have hzl : zs.length = xs.length := hzp.length_eq.trans hlx
    have := h s.heap.objs.size [s.heap.objs.size, S] [s.heap.objs.size] (fun i h => h.get? s.heap.objs.size = some (siObj (.int ((0 : Nat) : Int) 0) i S es.size ep) ∧ h.get? S = some o) zs (s.heap.push (siObj (.int 0 0) 0 S es.size ep)) s.drawn (hzp.trans hp) (by rw [Heap.size_push]; exact Nat.le_succ _)
      (by
        rw [← hlx, ← hsz]
        exact walkInt (n := es.size) hh hd hf rfl (Nat.ne_of_lt hSlt) (fun _ => 0) zs
          (fun s' A' E' i hi hS' => by
            obtain ⟨tk, e⟩ := hz.getA (i := i) (by omega)
            exact ⟨tk, fun Q' hQ' => setNext_text hS' hd hf hb (by rw [e]; exact hQ')⟩)
          (fun s' A' E' Q' hS' hQ' => setNext_text hS' hd hf hb (by
            have e : (pickOrder (w.params.setOrder S ep) es)[es.size]? = none := by
              have := hz.noneA
              rwa [show zs.length = es.size by omega] at this
            rw [e]; exact hQ')))
      ⟨Heap.get?_push_size _ rfl, Heap.get?_push_of_some _ ho⟩ (fun b hb' => by
        show b < (s.heap.push _).objs.size
        rw [Heap.size_push]
        simp at hb'
        rcases hb' with rfl | rfl
        · exact Nat.lt_succ_self _
        · exact Nat.lt_succ_of_lt hSlt) (fun b hb' => by simp at hb'; subst hb'; exact fresh (Nat.le_refl _))
      (fun b hb' => by
        simp at hb'
        rcases hb' with rfl | rfl
        · exact .inr (fresh (Nat.le_refl _))
        · exact .inl rfl) fun b o' e => Heap.get?_push_of_some _ e
    exact this
  · have hb' : w.params.followText "set-order" = false := by simpa using hb
    have hled : t.led = true := hl.resolve_left (by rw [hb']; exact Bool.false_ne_true)
    rw [hb']
    cases hpl : (!t.plain && decide (es.size > 1)) with
    | false =>
      simp only [Bool.not_false, Bool.true_and, Bool.false_eq_true, if_false]
      refine wpAny_bind (wpAny_pure ?_)
      refine wpAny_bind ?_
      unfold setEpoch
      refine wpAny_bind (wpAny_setState_of ho hd hf (wpAny_pure ?_))
      refine wpAny_bind (wpAny_newObj_type (wpAny_pure ⟨_, rfl, "set_iterator", _, ⟨_, Heap.get?_push_size _ rfl, rfl⟩, slot_setiter_next.lookup, ?_⟩))
      have := h s.heap.objs.size [s.heap.objs.size, S] [s.heap.objs.size] (fun i h => h.get? s.heap.objs.size = some (siObj (.int ((slotAt t i : Nat) : Int) 0) i S es.size ep) ∧ h.get? S = some o) ks (s.heap.push (siObj (.int 0 0) 0 S es.size ep)) s.drawn hp (by rw [Heap.size_push]; exact Nat.le_succ _)
        (by
          rw [← hlx, ← hsz]
          exact walkInt (n := es.size) hh hd hf rfl (Nat.ne_of_lt hSlt) (slotAt t) ks
            (fun s' A' E' i hi hS' => by
              obtain ⟨tk, e⟩ := he.getA (i := i) (by omega)
              exact ⟨tk, fun Q' hQ' => setNext_plain hS' hd hf hb' hpl hled hr (by omega) (by rw [e]; exact hQ')⟩)
            (fun s' A' E' Q' hS' hQ' => setNext_plain hS' hd hf hb' hpl hled hr (Nat.le_refl _) (by
              have e : es[es.size]? = none := Array.getElem?_eq_none (Nat.le_refl _)
              rw [e]; exact hQ')))
        ⟨Heap.get?_push_size _ rfl, Heap.get?_push_of_some _ ho⟩ (fun b hb' => by
          show b < (s.heap.push _).objs.size
          rw [Heap.size_push]
          simp at hb'
          rcases hb' with rfl | rfl
          · exact Nat.lt_succ_self _
          · exact Nat.lt_succ_of_lt hSlt) (fun b hb' => by simp at hb'; subst hb'; exact fresh (Nat.le_refl _))
        (fun b hb' => by
          simp at hb'
          rcases hb' with rfl | rfl
          · exact .inr (fresh (Nat.le_refl _))
          · exact .inl rfl) fun b o' e => Heap.get?_push_of_some _ e
      exact this
    | true =>
      simp only [Bool.not_false, Bool.true_and, if_true]
      refine wpAny_bind (drawM _ _ _ _ (by simp) fun places d' hpp => ?_)
      obtain ⟨hz, hpl2, hget⟩ := rangePlaces he hpp
      have hszT : (places.map fun (i : Nat) => rawInt i).length ≤ sizeLine := by
        rw [List.length_map, sizeLine_eq]; omega
      refine wpAny_bind (wpAny_newTuple ?_ hszT)
      refine wpAny_bind ?_
      unfold setEpoch
      have ho1 : (s.heap.push { cls := .type "tuple", dict := none, data := .seq (places.map fun (i : Nat) => rawInt i).toArray, slots := #[] }).get? S = some o := Heap.get?_push_of_some _ ho
      refine wpAny_bind (wpAny_setState_of (s := { s with heap := s.heap.push { cls := .type "tuple", dict := none, data := .seq (places.map fun (i : Nat) => rawInt i).toArray, slots := #[] }, drawn := d' }) ho1 hd hf (wpAny_pure ?_))
      refine wpAny_bind (wpAny_newObj_type (wpAny_pure ⟨_, rfl, "set_iterator", _, ⟨_, Heap.get?_push_size _ rfl, rfl⟩, slot_setiter_next.lookup, ?_⟩))
      generalize hH : s.heap.push { cls := .type "tuple", dict := none, data := .seq (places.map fun (i : Nat) => rawInt i).toArray, slots := #[] } = H at ho1 ⊢
      have hHs : H.objs.size = s.heap.objs.size + 1 := by rw [← hH, Heap.size_push]
      have hTT : H.get? s.heap.objs.size = some { cls := .type "tuple", dict := none, data := .seq (places.map fun (i : Nat) => rawInt i).toArray, slots := #[] } := by rw [← hH]; exact Heap.get?_push_size _ rfl
      have hne : ∀ b, b < H.objs.size → b ≠ H.objs.size := fun b hb => Nat.ne_of_lt hb
      have hSH : S < H.objs.size := by rw [hHs]; exact Nat.lt_succ_of_lt hSlt
      have hTH : s.heap.objs.size < H.objs.size := by rw [hHs]; exact Nat.lt_succ_self _
      have := h H.objs.size [H.objs.size, S, s.heap.objs.size] [H.objs.size]
        (fun i h => h.get? H.objs.size = some (siObj (.ref s.heap.objs.size) i S es.size ep) ∧ h.get? S = some o ∧ h.get? s.heap.objs.size = some { cls := .type "tuple", dict := none, data := .seq (places.map fun (i : Nat) => rawInt i).toArray, slots := #[] })
        (places.map fun p => ks.getD p 0) (H.push (siObj (.ref s.heap.objs.size) 0 S es.size ep)) d' (hz.trans hp) (by rw [Heap.size_push, hHs]; exact Nat.le_succ_of_le (Nat.le_succ _))
        { sub := fun b hb => by simp at hb; simp [hb]
          frame := fun _ _ _ st hk => ⟨hk _ (by simp) _ st.1, hk _ (by simp) _ st.2.1, hk _ (by simp) _ st.2.2⟩
          item := fun i s' Q' E' hi st hQ => by
            obtain ⟨pl, e, tk, e1, e2, e3⟩ := hget i (by omega)
            refine si_itemD st.1 st.2.1 hd hf rfl st.2.2 e1 e2 fun h' hit' hs' => ?_
            exact hQ _ h' s'.toks ⟨tk, e3⟩ ⟨hit', hs'.extBut _ o (hne _ hSH) st.2.1, hs'.extBut _ _ (hne _ hTH) st.2.2⟩ fun b o hb e => hs'.extBut b o (fun h => hb (by simp [h])) e
          done := fun s' Q' E' st hQ => si_doneD hh st.1 st.2.1 hd hf rfl st.2.2 (List.getElem?_eq_none (by omega)) fun h' he' => hQ h' s'.toks fun b o hb e => he' b o (fun h => hb (by simp [h])) e
          self := fun _ _ _ _ st hQ => si_iter st.1 hQ }
        ⟨Heap.get?_push_size _ rfl, Heap.get?_push_of_some _ ho1, Heap.get?_push_of_some _ hTT⟩ (fun b hb' => by
          show b < (H.push _).objs.size
          rw [Heap.size_push]
          simp at hb'
          rcases hb' with rfl | rfl | rfl
          · exact Nat.lt_succ_self _
          · exact Nat.lt_succ_of_lt hSH
          · exact Nat.lt_succ_of_lt hTH)
        (fun b hb' => by simp at hb'; subst hb'; exact fresh (Nat.le_of_lt hTH))
        (fun b hb' => by
          simp at hb'
          rcases hb' with rfl | rfl | rfl
          · exact .inr (fresh (Nat.le_of_lt hTH))
          · exact .inl rfl
          · exact .inr (fresh (Nat.le_refl _))) fun b o' e => Heap.get?_push_of_some _ (by rw [← hH]; exact Heap.get?_push_of_some _ e)
      exact this
end
theorem argBest_min {val : Nat → Int} : ∀ (k : Nat), argBest (fun i j => decide (val i < val j)) k ≤ k ∧ ∀ j, j ≤ k → val (argBest (fun i j => decide (val i < val j)) k) ≤ val j
  | 0 => ⟨Nat.le_refl _, fun j hj => by
      have : j = 0 := by omega
      subst this; exact Int.le_refl _⟩
  | k + 1 => by
    obtain ⟨h1, h2⟩ := argBest_min (val := val) k
    rw [argBest]
    split
    · rename_i h
      have h : val (k + 1) < val (argBest (fun i j => decide (val i < val j)) k) := by simpa using h
      refine ⟨Nat.le_refl _, fun j hj => ?_⟩
      rcases Nat.lt_or_ge j (k + 1) with h3 | h3
      · have := h2 j (by omega); omega
      · have : j = k + 1 := by omega
        subst this; exact Int.le_refl _
    · rename_i h
      have h : ¬ val (k + 1) < val (argBest (fun i j => decide (val i < val j)) k) := by simpa using h
      refine ⟨by omega, fun j hj => ?_⟩
      rcases Nat.lt_or_ge j (k + 1) with h3 | h3
      · exact h2 j (by omega)
      · have : j = k + 1 := by omega
        subst this; omega
section
variable {prog : Program} {w : World} {A : Around} {E : Value → Shared → Prop} {s : Shared} {S : Addr} {o : Obj} {xs : List Int}
theorem minM {Q : Value → Shared → Prop} (hh : A.handled = none) (ho : s.heap.get? S = some o) (hS : SetM w o xs) (hne : xs ≠ [])
    (h : ∀ m tk h' tk' d', m ∈ xs → (∀ y ∈ xs, m ≤ y) → (∀ b o, s.heap.get? b = some o → h'.get? b = some o) → Q (.int m tk) { s with heap := h', toks := tk', drawn := d' }) :
    wpAny (model prog w) A (call (.builtin "min") [.ref S]) Q E s := by
  refine call_min_walk (iterM (A := A.in1) hh ho hS fun I fp wr St zs h' d' hp _ W hst hfp hwr hfr hk => ?_)
  have hlen : zs.length = xs.length := hp.length_eq
  have hpos : 0 < xs.length := List.length_pos_iff.mpr hne
  refine ⟨I, fp, wr, xs.length, _, St, _, rfl, W, hst, hfp, hpos, CmpOf.ints_lt (val := fun i => zs.getD i 0) (fun i v hv => hv), fun v h'' tk hv hk2 => ?_⟩
  obtain ⟨t, rfl⟩ := hv
  obtain ⟨h1, h2⟩ := argBest_min (val := fun i => zs.getD i 0) (xs.length - 1)
  generalize argBest (fun i j => decide (zs.getD i 0 < zs.getD j 0)) (xs.length - 1) = b at *
  have hget : ∀ j, j < zs.length → zs.getD j 0 ∈ xs := fun j hj => hp.mem_iff.mp (by
    simp [List.getD_eq_getElem?_getD, hj])
  refine h _ t h'' tk d' (hget b (by omega)) (fun y hy => ?_) fun a o' e => hk2 a o' (fun hw => by have := hwr a hw; rw [e] at this; cases this) (hk a o' e)
  obtain ⟨j, hj, hjy⟩ := List.mem_iff_getElem.mp (hp.mem_iff.mpr hy)
  have := h2 j (by omega)
  simp only [List.getD_eq_getElem?_getD, hj, List.getElem?_eq_getElem, Option.getD_some] at this
  rw [← hjy]
  simpa [List.getD_eq_getElem?_getD] using this
end
theorem entry_set_eq : entryFor table "set.__eq__" = some Builtin.«frozenset.__eq__» :=
  entryFor_alias (id' := "frozenset.__eq__") (by kernel_rfl) rfl (by decide +kernel) (by kernel_rfl)
theorem EntsAre.erase {es : List (Int × Value)} {ks : List Int} (h : EntsAre es ks) : ∀ i : Nat, EntsAre (es.eraseIdx i) (ks.eraseIdx i) := by
  induction h with
  | nil => intro i; exact .nil
  | cons k t h ih =>
    intro i
    cases i with
    | zero => exact h
    | succ j => exact .cons k t (ih j)
theorem erase_of_perm {ks xs : List Int} (hp : ks.Perm xs) {i : Nat} (hi : i < ks.length) : (ks.eraseIdx i).Perm (xs.erase ks[i]) := by
  have h1 : (ks[i] :: ks.eraseIdx i).Perm xs := (erase_perm hi).trans hp
  have h2 := h1.erase ks[i]
  rw [List.erase_cons_head] at h2
  exact h2
theorem fits_iff (t : SetTable) (n : Nat) : t.fits n = true ↔ t.place.size = n ∧ t.place.size + t.dummies.size ≤ t.mask := by
  show ((t.place.size == n) && decide (t.place.size + t.dummies.size ≤ t.mask)) = true ↔ _
  simp
theorem fits_drop {t : SetTable} {es : Array (Int × Value)} (hf : t.fits es.size = true) {i : Nat} (hi : i < es.size) : (t.drop i).fits (SetTable.eraseAt es i).size = true ∧ (t.drop i).led = t.led ∧ (Rise t.place → Rise (t.drop i).place) := by
  rw [fits_iff] at hf
  have hp : t.place[i]? = some (t.place.getD i 0) := by
    rw [Array.getElem?_eq_getElem (by omega)]
    simp [Array.getD, show i < t.place.size by omega]
  have he : ∀ {α : Type} (xs : Array α), i < xs.size → (SetTable.eraseAt xs i).size = xs.size - 1 := fun xs h => by
    rw [← Array.length_toList, toList_eraseAt, List.length_eraseIdx_of_lt (by simpa using h), Array.length_toList]
  have hin : ∀ (xs : Array Nat) (p j : Nat), (SetTable.insertAt xs p j).size = xs.size + 1 := fun xs p j => by
    have := (SetTable.insertAt_perm xs p j).length_eq
    simpa using this
  unfold SetTable.drop
  rw [hp]
  dsimp only
  refine ⟨?_, rfl, fun hr => rise_erase hr i⟩
  rw [fits_iff]
  dsimp only
  rw [he t.place (by omega), he es hi, hin]
  omega
section
variable {prog : Program} {w : World} {A : Around} {E : Value → Shared → Prop} {s : Shared} {S D : Addr} {o o2 : Obj} {xs : List Int}
/-- one entry out -/
theorem dropM {es : Array (Int × Value)} {ep : Nat} {t t' : SetTable} {ks : List Int} {i : Nat} {Q : Unit → Shared → Prop} (ho : s.heap.get? S = some o) (hp : ks.Perm xs) (hex : o.ExactSet) (hnd : ks.Nodup) (hlen : ks.length < 2000) (hd : o.data = .set es ep t)
    (he : EntsAre es.toList ks) (hi : i < ks.length) (hf : t'.fits (SetTable.eraseAt es i).size = true) (hr : Rise t'.place) (hl : w.params.followText "set-order" = true ∨ t'.led = true)
    (h : ∀ h' o', Heap.SameBut S s.heap h' → h'.get? S = some o' → SetM w o' (xs.erase ks[i]) → Q () { s with heap := h' }) :
    wpAny (model prog w) A (storeSet S (SetTable.eraseAt es i) t') Q E s := by
  have hsub := List.eraseIdx_sublist ks i
  refine storeM ho hex hd (ks := ks.eraseIdx i) (by rw [toList_eraseAt]; exact he.erase i) (hnd.sublist hsub) (Nat.lt_of_le_of_lt hsub.length_le hlen) hf hr hl fun h' o' hsb hg _ _ hS => ?_
  exact h h' o' hsb hg ⟨_, erase_of_perm hp hi, hS⟩
theorem discardM {k : Int} {tk : Tok} {Q : Value → Shared → Prop} (ho : s.heap.get? S = some o) (hS : SetM w o xs)
    (h : ∀ h' o', Heap.SameBut S s.heap h' → h'.get? S = some o' → SetM w o' (xs.erase k) → Q .none { s with heap := h', toks := s.toks + 1 }) :
    wpAny (model prog w) A (call (.builtin "set.discard") [.ref S, .int k tk]) Q E s := by
  have hSM := hS
  obtain ⟨ks, hp, hex, hnd, hlen, es, ep, t, hd, he, hf, hr, hl⟩ := hS
  have hel : ElemsOf (intKind prog w) es.toList := he.elems
  have hesz : es.size = ks.length := by have := he.length; rwa [Array.length_toList] at this
  have hb : es.size < scanBound := by
    have h2 : scanBound = 4096 := rfl
    omega
  have hT : s.TypeIs (.ref S) "set" := ⟨o, ho, hex.1⟩
  refine wpAny_call_entry F.slot_set_discard hT F.entry_set_discard ?_ (F.args_set_discard_2 _ _)
  unfold Builtin.«set.discard» Builtin.Frozenset.oneOther
  simp only [List.isEmpty_nil, bind_assoc]
  unfold Builtin.Frozenset.addrOf Builtin.Frozenset.withSetAsKey setDiscard
  refine wpAny_bind (wpAny_pure ?_)
  try dsimp only
  refine wpAny_bind (wpAny_pure ?_)
  try dsimp only
  refine wpAny_bind (wpAny_tryCatch ?_)
  refine wpAny_holding ?_
  refine wpAny_bind ((intKind prog w).pyHash (k := k) (intKind_is _ _ _ _) ?_)
  unfold setDiscardHashed
  refine wpAny_bind ?_
  unfold setFind setFindIn
  refine wpAny_bind (wpAny_setState_of (s := { s with toks := s.toks + 1 }) ho hd hf ?_)
  dsimp only
  rw [byScan_of (x := .int k tk) rfl hb hel]
  simp only [↓reduceIte]
  refine wpAny_bind (wpAny_rule ?_)
  refine wpAny_bind (wpAny_setScan_of (s := { s with toks := s.toks + 1 }) (knd := intKind prog w) (k := k) (intKind_is _ _ _ _) ho hd hf hel ?_)
  cases hfi : List.findIdx? (fun e => (intKind prog w).is k e.2) es.toList with
  | none =>
    dsimp only
    have hk : k ∉ xs := by
      intro hk
      obtain ⟨e, hem, hpe⟩ := (he.mem_iff (prog := prog) (w := w) k).mp (hp.mem_iff.mpr hk)
      have := List.findIdx?_eq_none_iff.mp hfi e hem
      rw [hpe] at this
      cases this
    refine wpAny_pure (wpAny_pure ?_)
    show wpAny _ _ (ret Value.none) _ _ _
    exact wpAny_pure ⟨_, rfl, h s.heap o (Heap.SameBut.refl S s.heap) ho (by rw [List.erase_of_not_mem hk]; exact hSM)⟩
  | some j =>
    dsimp only
    obtain ⟨hj, hpj, _⟩ := List.findIdx?_eq_some_iff_getElem.mp hfi
    have hjk : j < ks.length := by rw [← he.length]; exact hj
    obtain ⟨tj, ej⟩ := he.get hjk
    have hkj : ks[j] = k := by
      rw [List.getElem?_eq_getElem hj] at ej
      have ej := Option.some.inj ej
      rw [ej] at hpj
      exact ((intKind prog w).inj _ _ _ hpj (intKind_is _ _ _ _)).symm
    refine wpAny_pure ?_
    rw [Nat.zero_add]
    dsimp only
    refine wpAny_bind (wpAny_setState_of (s := { s with toks := s.toks + 1 }) ho hd hf ?_)
    dsimp only
    obtain ⟨f1, f2, f3⟩ := fits_drop hf (i := j) (by omega)
    refine wpAny_bind (dropM (s := { s with toks := s.toks + 1 }) (xs := xs) ho hp hex hnd hlen hd he hjk f1 (f3 hr) (hl.imp id fun q => f2.trans q) fun h' o' hsb hg hS' => ?_)
    refine wpAny_bind (wpAny_point (wpAny_pure ?_))
    show wpAny _ _ (ret Value.none) _ _ _
    rw [hkj] at hS'
    exact wpAny_pure ⟨_, rfl, h h' o' hsb hg hS'⟩
theorem popM {Q : Value → Shared → Prop} (ho : s.heap.get? S = some o) (hS : SetM w o xs) (hne : xs ≠ [])
    (h : ∀ k tk h' o' d', k ∈ xs → Heap.SameBut S s.heap h' → h'.get? S = some o' → SetM w o' (xs.erase k) → Q (.int k tk) { s with heap := h', drawn := d' }) :
    wpAny (model prog w) A (call (.builtin "set.pop") [.ref S]) Q E s := by
  obtain ⟨ks, hp, hex, hnd, hlen, es, ep, t, hd, he, hf, hr, hl⟩ := hS
  have hesz : es.size = ks.length := by have := he.length; rwa [Array.length_toList] at this
  have hpos : 0 < ks.length := by rw [hp.length_eq]; exact List.length_pos_iff.mpr hne
  have hpl : t.place.size = es.size := by
    simp only [SetTable.fits, Bool.and_eq_true, beq_iff_eq] at hf
    exact hf.1
  have hT : s.TypeIs (.ref S) "set" := ⟨o, ho, hex.1⟩
  refine wpAny_call_entry F.slot_set_pop hT F.entry_set_pop ?_ (F.args_set_pop_1 _)
  unfold Builtin.«set.pop» Builtin.Frozenset.noArgs
  simp only [List.isEmpty_nil, bind_assoc]
  unfold Builtin.Frozenset.addrOf
  refine wpAny_bind (wpAny_pure ?_)
  try dsimp only
  refine wpAny_bind ?_
  unfold setPop
  refine wpAny_bind (wpAny_setState_of ho hd hf ?_)
  dsimp only
  have hpp : ∃ i, t.popPlace = some i ∧ i < es.size := by
    unfold SetTable.popPlace
    rw [if_neg (by simp; intro h0; rw [h0] at hpl; simp at hpl; omega)]
    refine ⟨_, rfl, ?_⟩
    split
    · omega
    · omega
  obtain ⟨i0, hi0, hi0lt⟩ := hpp
  rw [hi0]
  dsimp only
  have out : ∀ (i : Nat) (d' : Drawn), i < es.size → wpAny (model prog w) A.in1 (do
      let some (_, x) := es[i]? | unsupported "internal:set.pop"
      storeSet S (SetTable.eraseAt es i) (t.popped i)
      return some x) (fun r s' => ∃ x, r = some x ∧ wpAny (model prog w) A.in1 (ret x) (fun fin s'' => ∃ v, fin = Fin.done (Flow.ret v) ∧ Q v s'') E s') E { s with drawn := d' } := by
    intro i d' hi
    obtain ⟨tj, ej⟩ := he.get (show i < ks.length by omega)
    rw [Array.getElem?_toList] at ej
    rw [ej]
    dsimp only
    obtain ⟨f1, f2, f3⟩ := fits_drop hf (i := i) hi
    refine wpAny_bind (dropM (s := { s with drawn := d' }) (xs := xs) (t' := t.popped i) ho hp hex hnd hlen hd he (by omega) f1 (f3 hr) (hl.imp id fun q => f2.trans q) fun h' o' hsb hg hS' => ?_)
    refine wpAny_pure ⟨_, rfl, ?_⟩
    exact wpAny_pure ⟨_, rfl, h ks[i] tj h' o' d' (hp.mem_iff.mp (List.getElem_mem _)) hsb hg hS'⟩
  refine wpAny_bind (byTextM ?_)
  split
  · refine wpAny_bind (chooseM (by omega) fun i d' hi => ?_)
    exact wpAny_mono (out i d' hi) (fun r s' h' => by obtain ⟨x, rfl, h''⟩ := h'; exact h'') fun _ _ x => x
  · rename_i hnb
    have hnb' : (w.params.followText "set-order" || (!t.plain && decide (es.size > 1))) = false := (Bool.not_eq_true _).mp hnb
    have hbt : w.params.followText "set-order" = false := by
      cases hq : w.params.followText "set-order" with
      | false => rfl
      | true => rw [hq] at hnb'; cases hnb'
    have hled : t.led = true := hl.resolve_left (by rw [hbt]; exact Bool.false_ne_true)
    refine wpAny_bind ?_
    show wpAny _ _ (if (!t.led && decide (es.size > 1)) = true then _ else pure ()) _ _ s
    rw [if_neg (by rw [hled]; simp)]
    refine wpAny_pure (wpAny_bind (wpAny_pure ?_))
    exact wpAny_mono (out i0 s.drawn hi0lt) (fun r s' h' => by obtain ⟨x, rfl, h''⟩ := h'; exact h'') fun _ _ x => x
theorem eqEmptyM {Q : Value → Shared → Prop} (hu : A.units < cLine) (ho : s.heap.get? S = some o) (hS : SetM w o xs) (ho2 : s.heap.get? D = some o2) {ep2 : Nat} {t2 : SetTable} (hex2 : o2.ExactSet) (hd2 : o2.data = .set #[] ep2 t2) (hf2 : t2.fits (#[] : Array (Int × Value)).size = true)
    (h : Q (.bool (decide (xs = []))) s) : wpAny (model prog w) A (compareOp .Eq (.ref S) (.ref D)) Q E s := by
  obtain ⟨ks, hp, hex, hnd, hlen, es, ep, t, hd, he, hf, hr, hl⟩ := hS
  have hesz : es.size = xs.length := by have := he.length; rw [Array.length_toList, hp.length_eq] at this; exact this
  have hT : s.TypeIs (.ref S) "set" := ⟨o, ho, hex.1⟩
  have hT2 : s.TypeIs (.ref D) "set" := ⟨o2, ho2, hex2.1⟩
  show wpAny _ _ (richCompare .Eq (.ref S) (.ref D)) Q E s
  refine wpAny_richCompare_same_or (op := .Eq) (T := "set") hT hT2 F.slot_set_eq (wpAny_call_entry F.slot_set_eq hT entry_set_eq ?_ (F.args_set_eq_2 _ _)) (.inr hu)
  show wpAny _ _ (Builtin.Frozenset.slot1 "__eq__" ⟨[.ref S, .ref D], []⟩ >>= _) _ _ s
  unfold Builtin.Frozenset.slot1
  refine wpAny_bind (wpAny_bind (wpAny_pure (wpAny_pure ?_)))
  dsimp only
  refine wpAny_bind ?_
  unfold Builtin.Frozenset.isAnySet
  refine wpAny_bind (wpAny_isInstance hT2 sub_set_self ?_)
  refine wpAny_pure ?_
  simp only [Bool.not_true, Bool.false_eq_true, if_false]
  unfold Builtin.Frozenset.addrOf Builtin.Frozenset.sizeOf
  refine wpAny_bind (wpAny_pure ?_)
  refine wpAny_bind (wpAny_pure ?_)
  refine wpAny_bind (wpAny_bind (wpAny_setEntries_of ho hd hf (wpAny_pure ?_)))
  refine wpAny_bind (wpAny_bind (wpAny_setEntries_of ho2 hd2 hf2 (wpAny_pure ?_)))
  refine wpAny_bind ?_
  by_cases hx : xs = []
  · subst hx
    have hes : es = #[] := Array.eq_empty_of_size_eq_zero (by simpa using hesz)
    subst hes
    rw [if_neg (by simp)]
    refine wpAny_bind ?_
    refine wpAny_bind (wpAny_isInstance hT F.sub_set_frozenset ?_)
    refine wpAny_pure ?_
    simp only [Bool.false_eq_true, if_false]
    unfold Builtin.Frozenset.subsetOf Builtin.Frozenset.sizeOf
    refine wpAny_bind (wpAny_bind (wpAny_setEntries_of ho hd hf (wpAny_pure ?_)))
    refine wpAny_bind (wpAny_bind (wpAny_setEntries_of ho2 hd2 hf2 (wpAny_pure ?_)))
    rw [if_neg (by simp)]
    refine wpAny_bind (wpAny_setEpoch_of ho hd hf ?_)
    unfold Builtin.Frozenset.walkUnseen
    refine wpAny_bind (wpAny_bind (wpAny_setEntries_of ho hd hf ?_))
    refine wpAny_bind (wpAny_setEntries_of ho2 hd2 hf2 ?_)
    refine wpAny_bind (wpAny_pure (wpAny_pure ?_))
    refine wpAny_bind (wpAny_pure (wpAny_pure ?_))
    show wpAny _ _ (ret _) _ _ _
    exact wpAny_pure ⟨_, rfl, (fun q => by cases q), h⟩
  · have hpos : 0 < xs.length := List.length_pos_iff.mpr hx
    rw [if_pos (by rw [bne_iff_ne]; show es.size ≠ 0; omega)]
    refine wpAny_pure ?_
    show wpAny _ _ (ret _) _ _ _
    refine wpAny_pure ⟨_, rfl, (fun q => by cases q), ?_⟩
    rw [decide_eq_false hx] at h
    exact h
end
theorem compTurn_set (elt target iter : Expr) (ifs : List Expr) (scope : Scope) (pos : Pos) (it acc : Value) (env : Env) :
    compTurn (.SetComp elt [⟨target, iter, ifs, 0⟩] scope pos) 0 it acc env = (do
      standAt iter.pos
      match ← pyNext it with
      | none => pure (.done .next)
      | some v =>
        letOwnedTupleGo target it v
        assign target env v
        let mut ok := true
        for c in ifs do
          if ok then ok ← isTrue c env (eval c env)
        if ok then
          (do
            let v ← eval elt env
            standAt elt.pos
            let _ ← call (.builtin "set.add") [acc, v])
        again (.compLoop (.SetComp elt [⟨target, iter, ifs, 0⟩] scope pos) 0 it acc env)) := by rfl
/-- the ints, each once, in the order in which they came -/
def addTo (acc ks : List Int) : List Int := ks.foldl (fun acc k => if k ∈ acc then acc else acc ++ [k]) acc
def addAll (ks : List Int) : List Int := addTo [] ks
theorem addTo_len (ks : List Int) : ∀ acc : List Int, (addTo acc ks).length ≤ acc.length + ks.length := by
  induction ks with
  | nil => intro acc; exact Nat.le_refl _
  | cons k r ih =>
    intro acc
    refine Nat.le_trans (ih _) ?_
    rw [List.length_cons]
    show (if k ∈ acc then acc else acc ++ [k]).length + r.length ≤ _
    split
    · omega
    · rw [List.length_append, List.length_singleton]; omega
theorem mem_addTo (ks : List Int) (x : Int) : ∀ acc : List Int, x ∈ addTo acc ks ↔ x ∈ acc ∨ x ∈ ks := by
  induction ks with
  | nil => intro acc; simp [addTo]
  | cons k r ih =>
    intro acc
    show x ∈ addTo (if k ∈ acc then acc else acc ++ [k]) r ↔ _
    rw [ih]
    split
    · rename_i h
      constructor
      · rintro (q | q)
        · exact .inl q
        · exact .inr (.tail _ q)
      · rintro (q | q)
        · exact .inl q
        · rcases List.mem_cons.mp q with e | q
          · exact .inl (e ▸ h)
          · exact .inr q
    · rw [List.mem_append, List.mem_singleton, List.mem_cons, or_assoc]
theorem addAll_snoc (ks : List Int) (k : Int) : addAll (ks ++ [k]) = if k ∈ addAll ks then addAll ks else addAll ks ++ [k] := by
  unfold addAll addTo; rw [List.foldl_append]; rfl
theorem addAll_len (ks : List Int) : (addAll ks).length ≤ ks.length := by
  have := addTo_len ks []
  rwa [List.length_nil, Nat.zero_add] at this
theorem mem_addAll (ks : List Int) (k : Int) : k ∈ addAll ks ↔ k ∈ ks := by
  unfold addAll; rw [mem_addTo]; simp
section
variable {prog : Program} {w : World} {A : Around} {E : Value → Shared → Prop} {R : Result → Shared → Prop} {s : Shared}
theorem addCallM {a : Addr} {o : Obj} {k : Int} {tok : Tok} {xs : List Int} {Q : Value → Shared → Prop} (ho : s.heap.get? a = some o) (hS : SetM w o xs) (hroom : xs.length + 1 < 2000)
    (h : ∀ h' o', Heap.SameBut a s.heap h' → h'.get? a = some o' → SetM w o' (if k ∈ xs then xs else xs ++ [k]) → Q .none { s with heap := h', toks := s.toks + 1 }) :
    wpAny (model prog w) A (call (.builtin "set.add") [.ref a, .int k tok]) Q E s := by
  have hT : s.TypeIs (.ref a) "set" := by
    obtain ⟨ks, hp, hex, _⟩ := hS
    exact ⟨o, ho, hex.1⟩
  refine wpAny_call_entry F.slot_set_add hT F.entry_set_add ?_ (F.args_set_add_2 _ _)
  unfold Builtin.«set.add» Builtin.Frozenset.oneOther
  simp only [List.isEmpty_nil, bind_assoc]
  unfold Builtin.Frozenset.addrOf
  refine wpAny_bind (wpAny_pure ?_)
  try dsimp only
  refine wpAny_bind (wpAny_pure ?_)
  try dsimp only
  refine wpAny_bind (addM ho hS hroom fun h' o' hsb hg hS' => ?_)
  show wpAny _ _ (ret Value.none) _ _ _
  exact wpAny_pure ⟨_, rfl, h h' o' hsb hg hS'⟩
theorem compStart_set {elt target iter ifs rest scope pos it acc env}
    (h0 : codeAny (model prog w) A (.compLoop (.SetComp elt (⟨target, iter, ifs, 0⟩ :: rest) scope pos) 0 it acc env) R s)
    (h : wpAny (model prog w) A (pyIter it) (fun it' s' => codeAny (model prog w) A (.compLoop (.SetComp elt (⟨target, iter, ifs, 0⟩ :: rest) scope pos) 0 it' acc env) R s')
      (notedBy (model prog w) A env fun x s' => R (.error x) s') s) :
    codeAny (model prog w) A (.compStart (.SetComp elt (⟨target, iter, ifs, 0⟩ :: rest) scope pos) 0 it acc env) R s := by
  refine codeAny_of_tree ?_
  show wpAny _ A ((compStart (.SetComp elt (⟨target, iter, ifs, 0⟩ :: rest) scope pos) 0 it acc env).onRaise (fun x => do noteFrame x env; standAt theWindowsPlace)) _ _ s
  refine wpAny_notedAt ?_
  unfold compStart
  show wpAny _ A (ask >>= _) _ _ s
  refine wpAny_bind (wpAny_askSetting (wpAny_ite ?_))
  split
  · first
      | exact wpAny_bind (wpAny_pure (wpAny_pure (And.intro rfl h0)))
      | exact wpAny_pure (And.intro rfl h0)
  · first
      | exact wpAny_bind (wpAny_rule (wpAny_bind (wpAny_standAt (wpAny_bind (wpAny_mono h (fun it' s' h' => wpAny_pure (And.intro rfl h')) fun _ _ x => x)))))
      | (refine wpAny_bind (wpAny_rule ?_); show wpAny _ _ (standAt iter.pos >>= _) _ _ s; exact wpAny_bind (wpAny_standAt (wpAny_bind (wpAny_mono h (fun it' s' h' => wpAny_pure (And.intro rfl h')) fun _ _ x => x))))
/-- a step of the filter and of the element, in the comprehension's own frame -/
structure SetQuiet (prog : Program) (w : World) (A : Around) (env : Env) (scope : Scope) (cl : List (Str × Addr)) (x : Str) (ifs : List Expr) (elt : Expr) (zs : List Int) (p : Int → Bool) (f : Int → Int) (h₁ : Heap) : Prop where
  tests : ∀ C i t s₃ m₃ E', i < zs.length → s₃.heap.Ns C m₃ → m₃ x = some (.int (zs.getD i 0) t) → (∀ b o, h₁.get? b = some o → s₃.heap.get? b = some o) → h₁.objs.size ≤ C →
    wpAny (model prog w) A (forIn ifs true fun c r => if r = true then do let ok ← isTrue c (compEnvC scope cl C env) (eval c (compEnvC scope cl C env)); pure (ForInStep.yield ok) else pure (ForInStep.yield r))
      (fun ok s₄ => ok = p (zs.getD i 0) ∧ Keeps s₃ s₄) E' s₃
  elt : ∀ C i t s₃ m₃ E', i < zs.length → p (zs.getD i 0) = true → s₃.heap.Ns C m₃ → m₃ x = some (.int (zs.getD i 0) t) → (∀ b o, h₁.get? b = some o → s₃.heap.get? b = some o) → h₁.objs.size ≤ C →
    wpAny (model prog w) A (eval elt (compEnvC scope cl C env)) (fun y s₄ => (∃ t, y = .int (f (zs.getD i 0)) t) ∧ Keeps s₃ s₄) E' s₃
theorem take_snoc {zs : List Int} {i : Nat} (hi : i < zs.length) : zs.take (i + 1) = zs.take i ++ [zs.getD i 0] := by
  rw [List.take_add_one, List.getElem?_eq_getElem hi]
  simp [List.getD_eq_getElem?_getD, hi]
/-- what the comprehension has made of its first i items -/
def madeOf (p : Int → Bool) (f : Int → Int) (l : List Int) : List Int := addAll ((l.filter p).map f)
theorem madeOf_snoc {p : Int → Bool} {f : Int → Int} {l : List Int} {k : Int} : madeOf p f (l ++ [k]) = if p k = true then (if f k ∈ madeOf p f l then madeOf p f l else madeOf p f l ++ [f k]) else madeOf p f l := by
  unfold madeOf
  rw [List.filter_append]
  cases hp : p k with
  | true => rw [show List.filter p [k] = [k] by simp [hp], List.map_append, List.map_singleton, addAll_snoc]; simp
  | false => rw [show List.filter p [k] = [] by simp [hp], List.append_nil]; simp
theorem madeOf_len (p : Int → Bool) (f : Int → Int) (l : List Int) : (madeOf p f l).length ≤ l.length := by
  unfold madeOf
  refine Nat.le_trans (addAll_len _) ?_
  rw [List.length_map]; exact List.length_filter_le _ _
theorem mem_madeOf {p : Int → Bool} {f : Int → Int} {l : List Int} {y : Int} : y ∈ madeOf p f l ↔ ∃ x ∈ l, p x = true ∧ f x = y := by
  unfold madeOf
  rw [mem_addAll, List.mem_map]
  constructor
  · rintro ⟨x, hx, rfl⟩
    exact ⟨x, (List.mem_filter.mp hx).1, (List.mem_filter.mp hx).2, rfl⟩
  · rintro ⟨x, h1, h2, rfl⟩
    exact ⟨x, List.mem_filter.mpr ⟨h1, h2⟩, rfl⟩
end
section
variable {prog : Program} {w : World} {A : Around} {E : Value → Shared → Prop} {R : Result → Shared → Prop} {s : Shared}
theorem compLoop_set {elt iter : Expr} {x : Str} {px : Pos} {ifs : List Expr} {scope : Scope} {pos : Pos} {I D C : Addr} {fp wr : List Addr} {St : Nat → Heap → Prop} {zs : List Int} {p : Int → Bool} {f : Int → Int}
    {cl : List (Str × Addr)} {env : Env} {m : Str → Option Value} {o : Obj} {h₁ : Heap} (W : Walks prog w A I fp wr zs.length (fun i v => ∃ t, v = .int (zs.getD i 0) t) St)
    (hq : SetQuiet prog w A env scope cl x ifs elt zs p f h₁) (hC1 : h₁.objs.size ≤ C)
    (hx : (compEnvC scope cl C env).kindOf x = some .local) (hkind : scope.kind = .function) (hDC : D ≠ C) (hDf : D ∉ fp) (hCf : C ∉ fp) (hlen : zs.length < 1900)
    (hst : St 0 s.heap) (hD : s.heap.get? D = some o) (hS : SetM w o []) (hn : s.heap.Ns C m) (hold : ∀ b o, h₁.get? b = some o → s.heap.get? b = some o) (hD1 : h₁.get? D = none) (hC2 : h₁.get? C = none) (hw1 : ∀ b ∈ wr, h₁.get? b = none)
    (hR : ∀ h' tk m' o', h'.Ns C m' → h'.get? D = some o' → SetM w o' (madeOf p f zs) → (∀ b o, b ≠ C → b ∉ wr → b ≠ D → s.heap.get? b = some o → h'.get? b = some o) → R (.ok .next) { s with heap := h', toks := tk }) :
    codeAny (model prog w) A (.compLoop (.SetComp elt [⟨.Name x px, iter, ifs, 0⟩] scope pos) 0 (.ref I) (.ref D) (compEnvC scope cl C env)) R s := by
  have hp : ((compEnvC scope cl C env).scope.kind == .class || ((compEnvC scope cl C env).scope.kind == .module && (compEnvC scope cl C env).locals != (compEnvC scope cl C env).globals)) = false := by
    simp [compEnvC, relabel, hkind]
  have hCw : C ∉ wr := fun h => hCf (W.sub _ h)
  have hDw : D ∉ wr := fun h => hDf (W.sub _ h)
  refine codeAny_loop rfl (fun k s' => ∃ i h' tk m' o', i ≤ zs.length ∧ k = zs.length + 1 - i ∧ s' = { s with heap := h', toks := tk } ∧ St i h' ∧ h'.get? D = some o' ∧ SetM w o' (madeOf p f (zs.take i)) ∧ h'.Ns C m' ∧
      ∀ b o, b ≠ C → b ∉ wr → b ≠ D → s.heap.get? b = some o → h'.get? b = some o) (fun k s' hI => ?_) (zs.length + 1)
    ⟨0, s.heap, s.toks, m, o, Nat.zero_le _, rfl, rfl, hst, hD, hS, hn, fun _ _ _ _ _ e => e⟩
  obtain ⟨i, H, tk, m', o', hi, rfl, rfl, hst', hD', hS', hn', hk⟩ := hI
  show wpAny _ A ((compTurn (.SetComp elt [⟨.Name x px, iter, ifs, 0⟩] scope pos) 0 (.ref I) (.ref D) (compEnvC scope cl C env)).onRaise (fun x => do noteFrame x (compEnvC scope cl C env); theTreesLotGoes x)) _ _ _
  refine wpAny_noted ?_
  rw [compTurn_set]
  refine wpAny_bind (wpAny_standAt (wpAny_bind ?_))
  have keep1 : ∀ {h' : Heap}, (∀ b o, b ≠ C → b ∉ wr → b ≠ D → s.heap.get? b = some o → h'.get? b = some o) → ∀ b o, h₁.get? b = some o → h'.get? b = some o := fun {h'} hk' b o e =>
    hk' b o (fun q => by rw [q, hC2] at e; cases e) (fun q => by rw [hw1 b q] at e; cases e) (fun q => by rw [q, hD1] at e; cases e) (hold b o e)
  by_cases hlt : i < zs.length
  · refine W.item i _ _ _ hlt hst' fun v h2 tk2 hv hst2 hk2 => ?_
    obtain ⟨t, rfl⟩ := hv
    refine wpAny_bind (wpAny_of_eq (by rfl) ?_)
    refine wpAny_bind (wpAny_assign_Name (wpAny_storeName_local hx (hn'.at' fun o e => hk2 _ o hCw e) (fun h3 hn3 hs3 => ?_) hp))
    have up3 : ∀ b o, b ≠ C → b ∉ wr → H.get? b = some o → h3.get? b = some o := fun b o hbC hbf e => hs3.extBut b o hbC (hk2 b o hbf e)
    have hk3 : ∀ b o, b ≠ C → b ∉ wr → b ≠ D → s.heap.get? b = some o → h3.get? b = some o := fun b o h1 h2' h3' e => up3 b o h1 h2' (hk b o h1 h2' h3' e)
    have hst3 : St (i + 1) h3 := W.frame _ _ _ hst2 fun b hb o e => hs3.extBut b o (fun h => hCf ((show b = C from h) ▸ hb)) e
    refine wpAny_bind (wpAny_mono (hq.tests C i t _ _ _ hlt hn3 (by simp) (keep1 hk3) hC1) (fun ok s4 h4 => ?_) fun _ _ e => e)
    obtain ⟨rfl, h4, tk4, rfl, hk4⟩ := h4
    have hD4 : h4.get? D = some o' := hk4 D o' (up3 D o' hDC hDw hD')
    have hn4 := hn3.keeps hk4
    have hst4 : St (i + 1) h4 := W.frame _ _ _ hst3 fun b _ o e => hk4 b o e
    have hk4' : ∀ b o, b ≠ C → b ∉ wr → b ≠ D → s.heap.get? b = some o → h4.get? b = some o := fun b o h1 h2' h3' e => hk4 b o (hk3 b o h1 h2' h3' e)
    cases hpz : p (zs.getD i 0) with
    | false =>
      simp only [Bool.false_eq_true, if_false]
      refine wpAny_pure ⟨rfl, zs.length + 1 - (i + 1), by omega, i + 1, h4, tk4, _, o', hlt, rfl, rfl, hst4, hD4, ?_, hn4, hk4'⟩
      rw [take_snoc hlt, madeOf_snoc, hpz]
      simpa using hS'
    | true =>
      simp only [if_true]
      refine wpAny_bind ?_
      refine wpAny_bind (wpAny_mono (hq.elt C i t _ _ _ hlt hpz hn4 (by simp) (keep1 hk4') hC1) (fun y s5 h5 => ?_) fun _ _ e => e)
      obtain ⟨⟨ty, rfl⟩, h5, tk5, rfl, hk5⟩ := h5
      refine wpAny_bind (wpAny_standAt ?_)
      have hroom : (madeOf p f (zs.take i)).length + 1 < 2000 := by
        have := madeOf_len p f (zs.take i)
        rw [List.length_take] at this
        omega
      refine wpAny_bind (addCallM (s := { s with heap := h5, toks := tk5 }) (hk5 D o' hD4) hS' hroom fun h6 o6 hsb6 hg6 hS6 => ?_)
      refine wpAny_pure (wpAny_pure ⟨rfl, zs.length + 1 - (i + 1), by omega, i + 1, h6, _, _, o6, hlt, rfl, rfl, ?_, hg6, ?_, (hn4.keeps hk5).sameBut hsb6 (Ne.symm hDC), fun b o h1 h2' h3' e => hsb6.extBut b o h3' (hk5 b o (hk4' b o h1 h2' h3' e))⟩)
      · exact W.frame _ _ _ hst4 fun b hb o e => hsb6.extBut b o (fun h => hDf (h ▸ hb)) (hk5 b o e)
      · rw [take_snoc hlt, madeOf_snoc, hpz]
        simpa using hS6
  · have hin : i = zs.length := by omega
    subst hin
    refine W.done _ _ _ hst' fun h2 tk2 hk2 => ?_
    rw [List.take_length] at hS'
    exact wpAny_pure (hR h2 tk2 m' o' (hn'.at' fun o e => hk2 _ o hCw e) (hk2 D o' hDw hD') hS' fun b o h1 h2' h3' e => hk2 b o h2' (hk b o h1 h2' h3' e))
theorem block_set {elt iter : Expr} {x : Str} {px : Pos} {ifs : List Expr} {scope : Scope} {cl : List (Str × Addr)} {pos : Pos} {I : Addr} {fp wr : List Addr} {St : Nat → Heap → Prop} {zs : List Int} {p : Int → Bool} {f : Int → Int} {env : Env} {h₁ : Heap}
    (W : Walks prog w A I fp wr zs.length (fun i v => ∃ t, v = .int (zs.getD i 0) t) St) (hq : SetQuiet prog w A env scope cl x ifs elt zs p f h₁) (hsz : h₁.objs.size ≤ s.heap.objs.size)
    (hcell : ∀ y ∈ scope.names, y.2 ≠ .cell) (hkind : scope.kind = .function) (hx : scope.names.lookup x = some .local) (hlen : zs.length < 1900)
    (hst : St 0 s.heap) (hfp : ∀ b ∈ fp, b < s.heap.objs.size) (hold : ∀ b o, h₁.get? b = some o → s.heap.get? b = some o) (hw1 : ∀ b ∈ wr, h₁.get? b = none) {RR : Value → Addr → Result → Shared → Prop}
    (hRR : ∀ D C h' tk m' o', s.heap.objs.size ≤ D → s.heap.get? D = none → s.heap.get? C = none → D ≠ C → h'.Ns C m' → h'.get? D = some o' → SetM w o' (madeOf p f zs) → (∀ b o, b ∉ wr → s.heap.get? b = some o → h'.get? b = some o) → RR (.ref D) C (.ok .next) { s with heap := h', toks := tk }) :
    wpAny (model prog w) A (newSet (.type "set")) (fun acc s₃ => wpAny (model prog w) A (newFunctionEnv scope env.globals cl [] env.qual none .none (some env)) (fun cenv s₄ =>
      codeAny (model prog w) A (.compStart (.SetComp elt [⟨.Name x px, iter, ifs, 0⟩] scope pos) 0 (.ref I) acc { cenv with scope := relabel scope env }) (RR acc cenv.locals) s₄) E s₃) E s := by
  refine newSetM fun o hfree hS => ?_
  refine wpAny_newFunctionEnv hcell (by intro y hy; simp at hy) (fun h2 hns2 hsb2 => ?_) hkind
  dsimp only at hns2 hsb2 ⊢
  generalize hH2 : s.heap.push o = H2 at hns2 hsb2 ⊢
  have hC : H2.objs.size = s.heap.objs.size + 1 := by rw [← hH2, Heap.size_push]
  have hDC : s.heap.objs.size ≠ H2.objs.size := by rw [hC]; exact Nat.ne_of_lt (Nat.lt_succ_self _)
  have below : ∀ b, b < s.heap.objs.size → b ≠ H2.objs.size ∧ b ≠ s.heap.objs.size := fun b hb => ⟨by rw [hC]; exact Nat.ne_of_lt (Nat.lt_succ_of_lt hb), Nat.ne_of_lt hb⟩
  have hDf : s.heap.objs.size ∉ fp := fun hm => Nat.lt_irrefl _ (hfp _ hm)
  have hCf : H2.objs.size ∉ fp := fun hm => by have := hfp _ hm; rw [hC] at this; exact Nat.lt_irrefl _ (Nat.lt_of_succ_lt this)
  have old : ∀ b o, s.heap.get? b = some o → h2.get? b = some o := fun b o e => hsb2.extBut b o (below b (Heap.lt_size e)).1 (Heap.get?_push_of_some _ (hH2 ▸ Heap.get?_push_of_some _ e))
  have hacc : h2.get? s.heap.objs.size = some o := hsb2.extBut _ _ hDC (Heap.get?_push_of_some _ (hH2 ▸ Heap.get?_push_size _ hfree))
  have hst2 : St 0 h2 := W.frame _ _ _ hst fun b _ o e => old b o e
  have fresh : ∀ {h : Heap} (a : Addr), h.objs.size ≤ a → h.get? a = none := fun {h} a ha => by
    cases e : h.get? a with
    | none => rfl
    | some o' => exact absurd (Heap.lt_size e) (Nat.not_lt.mpr ha)
  have loop : ∀ s₃ : Shared, s₃ = { s with heap := h2, toks := s.toks + ([] : List (Str × Value)).length } →
      codeAny (model prog w) A (.compLoop (.SetComp elt [⟨.Name x px, iter, ifs, 0⟩] scope pos) 0 (.ref I) (.ref s.heap.objs.size) (compEnvC scope cl H2.objs.size env))
        (RR (.ref s.heap.objs.size) H2.objs.size) s₃ := by
    rintro s₃ rfl
    refine compLoop_set (h₁ := h₁) W hq (by rw [hC]; omega) (lookup_relabel_local hx) hkind hDC hDf hCf hlen hst2 hacc hS hns2 (fun b o e => old b o (hold b o e)) (fresh _ hsz) (fresh _ (by rw [hC]; omega)) hw1 fun h' tk m' o' hn hg hSm hk => ?_
    exact hRR _ _ h' tk m' o' (Nat.le_refl _) (fresh _ (Nat.le_refl _)) (fresh _ (by rw [hC]; exact Nat.le_succ _)) hDC hn hg hSm fun b o hbf e =>
      hk b o (below b (Heap.lt_size e)).1 hbf (below b (Heap.lt_size e)).2 (old b o e)
  exact compStart_set (loop _ rfl) (W.self 0 _ _ _ hst2 (loop _ rfl))
/-- «y = {elt for x in iter if ..}» -/
theorem assign_SetComp {elt iter : Expr} {x y : Str} {px py : Pos} {ifs : List Expr} {scope : Scope} {cl : List (Str × Addr)} {pos spos : Pos} {env : Env} {Q : Flow → Shared → Prop}
    (hsw : swapsWith (.SetComp elt [⟨.Name x px, iter, ifs, 0⟩] scope pos) (some (.Name y py)) spos.line env = pure true)
    (hclos : closureFor scope env = pure cl) (hcell : ∀ z ∈ scope.names, z.2 ≠ .cell) (hkind : scope.kind = .function)
    (hnames : ∀ z ∈ scope.names, z.2 = .local → scope.names.lookup z.1 = some .local) (hx : scope.names.lookup x = some .local)
    (hy : env.kindOf y = some .local) (hp : (env.scope.kind == .class || (env.scope.kind == .module && env.locals != env.globals)) = false)
    (h : wpAny (model prog w) A (eval iter env) (fun xv s₁ => wpAny (model prog w) A (pyIter xv) (fun it s₂ => ∃ I fp wr St zs p f m h₁, it = .ref I ∧ Walks prog w A I fp wr (List.length zs) (fun i v => ∃ t, v = .int (zs.getD i 0) t) St ∧ zs.length < 1900 ∧ St 0 s₂.heap ∧ (∀ b ∈ fp, b < s₂.heap.objs.size) ∧
      env.locals ∉ wr ∧ s₂.heap.Ns env.locals m ∧ h₁.objs.size ≤ s₂.heap.objs.size ∧ (∀ b o, h₁.get? b = some o → s₂.heap.get? b = some o) ∧ (∀ b ∈ wr, h₁.get? b = none) ∧ SetQuiet prog w A env scope cl x ifs elt zs p f h₁ ∧
      (∀ D h' tk o', s₂.heap.objs.size ≤ D → s₂.heap.get? D = none → h'.get? D = some o' → SetM w o' (madeOf p f zs) → h'.Ns env.locals (fun z => if z = y then some (.ref D) else m z) →
        (∀ b o, b ≠ env.locals → b ∉ wr → s₂.heap.get? b = some o → h'.get? b = some o) → Q .next { s₂ with heap := h', toks := tk })) E s₁) E s)
    (hs : ∀ x, foldedSetIterable iter env x = pure x := by intro _; rfl) :
    wpAny (model prog w) A (exec (.Assign [.Name y py] (.SetComp elt [⟨.Name x px, iter, ifs, 0⟩] scope pos) spos) env) Q E s := by
  rw [exec_Assign_Name_used _ _ _ _ hsw]
  refine wpAny_bind (wpAny_standAt (wpAny_bind ?_))
  show wpAny _ A (do let _ ← comprehension (.SetComp elt [⟨.Name x px, iter, ifs, 0⟩] scope pos) scope env _ (newSet (.type "set")) false (eval iter env) (some (assign (.Name y py) env))) _ _ s
  refine wpAny_bind (wpAny_mono (wpAny_comprehension_free (use := some (assign (.Name y py) env)) (Q := fun _ s' => Q .next s') rfl hs hclos hkind hnames
    (wpAny_mono h (fun xv s₁ h₁ => wpAny_mono h₁ (fun it s₂ h₂ => ?_) fun _ _ e => e) fun _ _ e => e)) (fun _ s' hq => wpAny_pure (wpAny_pure hq)) fun _ _ e => e)
  obtain ⟨I, fp, wr, St, zs, p, f, m, hh1, rfl, W, hlen, hst, hfp, hLf, hn, hsz, hold, hw1, hq, hQ⟩ := h₂
  refine block_set (RR := fun acc C => compPost (model prog w) A E (some (assign (.Name y py) env)) (fun _ s' => Q .next s') acc C) W hq hsz hcell hkind hx hlen hst hfp hold hw1 ?_
  intro D C h' tk m' o' hDs hD hC hDC hnC hgD hSD hk
  have hLC : env.locals ≠ C := by rintro rfl; obtain ⟨o, _, _, ho, _⟩ := hn; rw [hC] at ho; cases ho
  have hLD : env.locals ≠ D := by rintro rfl; obtain ⟨o, _, _, ho, _⟩ := hn; rw [hD] at ho; cases ho
  show wpAny _ A (assign (.Name y py) env (.ref D)) _ _ _
  refine wpAny_assign_Name (wpAny_storeName_local hy (hn.at' fun o e => hk _ o hLf e) (fun h₂ hn₂ hs₂ => ?_) hp)
  refine ⟨m', hnC.sameBut hs₂ (Ne.symm hLC), fun h₃ hs₃ => ?_⟩
  exact hQ D h₃ _ o' hDs hD (hs₃.extBut _ _ hDC (hs₂.extBut _ _ (Ne.symm hLD) hgD)) hSD (hn₂.sameBut hs₃ hLC) fun b o hbL hbf e =>
    hs₃.extBut b o (by rintro rfl; rw [hC] at e; cases e) (hs₂.extBut b o hbL (hk b o hbf e))
end
/-- the end of a turn where orders may have been drawn -/
def DEnd {σ : Type} (h₀ : Heap) (L : Addr) (s : Shared) (Led : σ → List (Addr × Obj)) (ps : σ → List (PySem.Str × Value)) (P : σ → Prop) (s₂ : Shared) : Prop :=
  ∃ (c' : σ) (h' : Heap) (tk : Nat) (d' : Drawn) (m' : PySem.Str → Option Value) (news' : List (Addr × Obj)), s₂ = ⟨h', s.gens, d', tk, s.os⟩ ∧ Fr h₀ L h' m' ∧ News h₀ L h' news' ∧ (∀ p ∈ Led c', p ∈ news') ∧ (∀ p ∈ ps c', m' p.1 = some p.2) ∧ P c'
def DPost {σ : Type} (h₀ : Heap) (L : Addr) (s : Shared) (Led : σ → List (Addr × Obj)) (ps : σ → List (PySem.Str × Value)) (P : σ → Prop) (Q : Flow → Shared → Prop) (f : Flow) (s₂ : Shared) : Prop :=
  match f with
  | .ret v => Q (.ret v) s₂
  | .brk => Q .next s₂
  | _ => DEnd h₀ L s Led ps P s₂
theorem d_end {σ : Type} {h₀ : Heap} {L : Addr} {s : Shared} {Led : σ → List (Addr × Obj)} {ps : σ → List (PySem.Str × Value)} {m' : PySem.Str → Option Value} {P : σ → Prop} {h' : Heap} {tk : Nat} {d' : Drawn} {news' : List (Addr × Obj)} (c' : σ)
    (F : Fr h₀ L h' m') (N : News h₀ L h' news') (hn : ∀ p ∈ Led c', p ∈ news') (hk : ∀ p ∈ ps c', m' p.1 = some p.2) (hp : P c') :
    DEnd h₀ L s Led ps P ⟨h', s.gens, d', tk, s.os⟩ := ⟨c', h', tk, d', m', news', rfl, F, N, hn, hk, hp⟩
theorem fr_kst {h₀ h : Heap} {L : Addr} {m : PySem.Str → Option Value} {ps : List (PySem.Str × Value)} (F : Fr h₀ L h m) (hk : ∀ p ∈ ps, m p.1 = some p.2) : Fr h₀ L h (kstB m ps) := by
  have em : kstB m ps = m := by
    funext y
    exact kstB_eq hk fun _ => rfl
  rw [em]
  exact F
section
variable {prog : Program} {w : World} {A : Around} {E : Value → Shared → Prop} {Q : Flow → Shared → Prop} {s : Shared} {env : Env} {h₀ : Heap}
theorem while_D {σ : Type} {test : Expr} {body : List Stmt} {pos : Pos} {L : Addr} {m₀ : PySem.Str → Option Value} (Led : σ → List (Addr × Obj)) (ps : σ → List (PySem.Str × Value)) (P : σ → Prop) (μ : σ → Nat) (c₀ : σ)
    (F : Fr h₀ L s.heap m₀) (N : News h₀ L s.heap (Led c₀)) (hk : ∀ p ∈ ps c₀, m₀ p.1 = some p.2) (hp : P c₀)
    (turn : ∀ (c : σ) (u : PySem.Str → Option Value) h tk d, P c → Fr h₀ L h (kstB u (ps c)) → News h₀ L h (Led c) →
      wpAny (model prog w) A (isTrue test env (eval test env)) (fun b s₂ =>
        if b = true then wpAny (model prog w) A (execs body env) (DPost h₀ L s Led ps (fun c' => P c' ∧ μ c' < μ c) Q) E s₂ else Q .next s₂) E ⟨h, s.gens, d, tk, s.os⟩)
    (hE : PassesOwn (model prog w) A env E := by passes_own) :
    wpAny (model prog w) A (exec (.While test body [] pos) env) Q E s := by
  refine wpAny_While (codeAny_whileLoop (fun n s' => ∃ (c : σ) (h : Heap) (tk : Nat) (d : Drawn) (m : PySem.Str → Option Value), s' = ⟨h, s.gens, d, tk, s.os⟩ ∧ μ c = n ∧ P c ∧ Fr h₀ L h m ∧ News h₀ L h (Led c) ∧ ∀ p ∈ ps c, m p.1 = some p.2) ?_ (μ c₀) ⟨c₀, s.heap, s.toks, s.drawn, m₀, rfl, rfl, hp, F, N, hk⟩)
  rintro n s' ⟨c, h, tk, d, m, rfl, rfl, hP, F', N', hk'⟩
  refine wpAny_mono (turn c m h tk d hP (fr_kst F' hk') N') (fun b s₂ h₂ => ?_) hE
  cases b with
  | false =>
    simp only [Bool.false_eq_true, if_false] at h₂ ⊢
    exact wpAny_execs_nil h₂
  | true =>
    simp only [if_true] at h₂ ⊢
    refine wpAny_mono h₂ (fun f s₃ h₃ => ?_) hE
    have fin : DEnd h₀ L s Led ps (fun c' => P c' ∧ μ c' < μ c) s₃ → ∃ m, m < μ c ∧ ∃ (c : σ) (h : Heap) (tk : Nat) (d : Drawn) (m' : PySem.Str → Option Value), s₃ = ⟨h, s.gens, d, tk, s.os⟩ ∧ μ c = m ∧ P c ∧ Fr h₀ L h m' ∧ News h₀ L h (Led c) ∧ ∀ p ∈ ps c, m' p.1 = some p.2 := by
      rintro ⟨c', h', tk', d', m', news', rfl, F2, N2, hn2, hk2, hP2, hm2⟩
      exact ⟨μ c', hm2, c', h', tk', d', m', rfl, rfl, hP2, F2, fun p hp => N2 p (hn2 p hp), hk2⟩
    cases f with
    | ret v => exact h₃
    | brk => exact h₃
    | next => exact fin h₃
    | cont => exact fin h₃
theorem for_setM {σ : Type} {x : PySem.Str} {px : Pos} {iter : Expr} {body : List Stmt} {pos : Pos} {S : Addr} {o : Obj} {xs : List Int} {m₀ : PySem.Str → Option Value} {news : List (Addr × Obj)}
    (ps : σ → List (PySem.Str × Value)) (P : List Int → σ → Prop) (c₀ : σ) (hh : A.handled = none)
    (he : ∀ Q' : Value → Shared → Prop, Q' (.ref S) s → wpAny (model prog w) A (eval iter env) Q' E s)
    (F : Fr h₀ env.locals s.heap m₀) (N : News h₀ env.locals s.heap news) (hSn : (S, o) ∈ news) (hS : SetM w o xs) (hk : ∀ p ∈ ps c₀, m₀ p.1 = some p.2) (hP0 : P [] c₀)
    (hx : env.kindOf x = some .local) (hp : (env.scope.kind == .class || (env.scope.kind == .module && env.locals != env.globals)) = false)
    (turn : ∀ (pre post : List Int) (k : Int) (t : Tok) (c : σ) (u : PySem.Str → Option Value) h tk d own, (pre ++ k :: post).Perm xs → P pre c → Fr h₀ env.locals h (fun y => if y = x then some (.int k t) else kstB u (ps c) y) → News h₀ env.locals h (own ++ news) →
      wpAny (model prog w) A (execs body env) (DPost h₀ env.locals s (fun _ => own ++ news) ps (P (pre ++ [k])) Q) E ⟨h, s.gens, d, tk, s.os⟩)
    (done : ∀ (zs : List Int) (c : σ) (u : PySem.Str → Option Value) h tk d, zs.Perm xs → P zs c → Fr h₀ env.locals h (kstB u (ps c)) → News h₀ env.locals h news → Q .next ⟨h, s.gens, d, tk, s.os⟩)
    (hs : ∀ x, foldedSetIterable iter env x = pure x := by intro _; rfl) (hE : PassesOwn (model prog w) A env E := by passes_own) :
    wpAny (model prog w) A (exec (.For (.Name x px) iter body [] pos) env) Q E s := by
  refine wpAny_For (he _ (iterM hh (N _ hSn).1 hS fun I fp wr St zs h1 d1 hzp _ W hst hfp hwr hfr hkeep => ?_)) hs
  have hLnew : s.heap.get? env.locals ≠ none := by
    obtain ⟨oL, _, _, hL, _⟩ := F.ns
    rw [hL]; exact fun q => by cases q
  have hLf : env.locals ∉ fp := fun hm => by
    rcases hfr _ hm with e | e
    · exact (N _ hSn).2.1 e.symm
    · exact hLnew e
  have hLw : env.locals ∉ wr := fun h => hLf (W.sub _ h)
  have old : ∀ b o, h₀.get? b = some o → b ∉ wr := fun b o e hb => by have := hwr b hb; rw [F.keep b o e] at this; cases this
  have hnw : ∀ p ∈ news, p.1 ∉ wr := fun p hp hb => by have := hwr _ hb; rw [(N p hp).1] at this; cases this
  have hlen : zs.length = xs.length := hzp.length_eq
  have hfh : ∀ b ∈ fp, h₀.get? b = none := fun b hb => by
    rcases hfr b hb with e | e
    · rw [e]; exact (N _ hSn).2.2
    · cases q : h₀.get? b with
      | none => rfl
      | some o' => rw [F.keep _ _ q] at e; cases e
  refine codeAny_forLoop (fun k s' => ∃ (i : Nat) (c : σ) (h : Heap) (tk : Nat) (d : Drawn) (m : PySem.Str → Option Value), i ≤ zs.length ∧ k = zs.length + 1 - i ∧ s' = ⟨h, s.gens, d, tk, s.os⟩ ∧ St i h ∧ P (zs.take i) c ∧ Fr h₀ env.locals h m ∧ News h₀ env.locals h news ∧ ∀ p ∈ ps c, m p.1 = some p.2) ?_ (zs.length + 1)
    ⟨0, c₀, h1, s.toks, d1, m₀, Nat.zero_le _, rfl, rfl, hst, hP0, ⟨F.ns.at' fun o e => hkeep _ o e, fun b o e => hkeep b o (F.keep b o e), F.above⟩, fun p hp => ⟨hkeep _ _ (N p hp).1, (N p hp).2⟩, hk⟩
  rintro n s' ⟨i, c, h, tk, d, m, hi, rfl, rfl, hst', hP, F', N', hk'⟩
  have next : ∀ h₁ : Heap, (∀ b o, b ∉ wr → h.get? b = some o → h₁.get? b = some o) → Fr h₀ env.locals h₁ m ∧ News h₀ env.locals h₁ news := fun h₁ hk₁ =>
    ⟨⟨F'.ns.at' fun o e => hk₁ _ o hLw e, fun b o e => hk₁ b o (old b o e) (F'.keep b o e), F'.above⟩, fun p hp => ⟨hk₁ _ _ (hnw p hp) (N' p hp).1, (N' p hp).2⟩⟩
  by_cases hlt : i < zs.length
  · refine W.item i _ _ _ (by omega) hst' fun v h2 tk2 hv hst2 hk2 => ?_
    obtain ⟨t, rfl⟩ := hv
    obtain ⟨F2, N2⟩ := next h2 hk2
    refine wpAny_assign_Name (wpAny_storeName_local hx F2.ns (fun h3 hn3 hs3 => ?_) hp)
    have F3 := (fr_kst F2 hk')
    have hst3 : St (i + 1) h3 := W.frame _ _ _ hst2 fun b hb o e => (hs3.2 b fun q => hLf (q ▸ hb)).trans e
    have F4 : Fr h₀ env.locals h3 (fun y => if y = x then some (.int (zs.getD i 0) t) else kstB m (ps c) y) := by
      have em : kstB m (ps c) = m := by
        funext y
        exact kstB_eq hk' fun _ => rfl
      rw [em]
      exact F2.set hn3 hs3
    have Nown : News h₀ env.locals h3 (ownOf h₀ fp h3) := news_ownOf hLf
    have hget : (zs.take i ++ zs.getD i 0 :: zs.drop (i + 1)).Perm xs := by
      have e : zs.take i ++ zs.getD i 0 :: zs.drop (i + 1) = zs := by
        have e1 : zs.getD i 0 = zs[i] := by simp [List.getD_eq_getElem?_getD, hlt]
        rw [e1, List.getElem_cons_drop, List.take_append_drop]
      rw [e]; exact hzp
    refine wpAny_mono (turn (zs.take i) (zs.drop (i + 1)) (zs.getD i 0) t c m h3 _ d (ownOf h₀ fp h3) hget hP F4 (Nown.append (N2.set hs3))) (fun f s₃ h₃ => ?_) hE
    have fin : DEnd h₀ env.locals s (fun _ => ownOf h₀ fp h3 ++ news) ps (P (zs.take i ++ [zs.getD i 0])) s₃ → ∃ m, m < zs.length + 1 - i ∧ ∃ (i : Nat) (c : σ) (h : Heap) (tk : Nat) (d : Drawn) (m' : PySem.Str → Option Value), i ≤ zs.length ∧ m = zs.length + 1 - i ∧ s₃ = ⟨h, s.gens, d, tk, s.os⟩ ∧ St i h ∧ P (zs.take i) c ∧ Fr h₀ env.locals h m' ∧ News h₀ env.locals h news ∧ ∀ p ∈ ps c, m' p.1 = some p.2 := by
      rintro ⟨c', h', tk', d', m', news', rfl, F5, N5, hn5, hk5, hP5⟩
      refine ⟨zs.length + 1 - (i + 1), by omega, i + 1, c', h', tk', d', m', hlt, rfl, rfl, ?_, (by rw [take_snoc hlt]; exact hP5), F5, fun p hp => N5 p (hn5 p (List.mem_append.mpr (.inr hp))), hk5⟩
      refine W.frame _ _ _ hst3 fun b hb o e => ?_
      exact (N5 _ (hn5 (b, o) (List.mem_append.mpr (.inl (mem_ownOf hb (hfh b hb) e))))).1
    cases f with
    | ret v => exact h₃
    | brk => exact h₃
    | next => exact fin h₃
    | cont => exact fin h₃
  · have hin : i = zs.length := by omega
    subst hin
    rw [List.take_length] at hP
    refine W.done _ _ _ (by rw [← hlen]; exact hst') fun h2 tk2 hk2 => ?_
    obtain ⟨F2, N2⟩ := next h2 hk2
    exact wpAny_execs_nil (done zs c m h2 tk2 d hzp hP (fr_kst F2 hk') N2)
end
/-- a call of the def at f with these arguments, of which the first is a list in the caller's ledger, ends, and what comes back is as R says; orders may be drawn -/
abbrev CtrG (prog p : Program) (K : Params → Frag) (f : Addr) (vs : List Value) (R : Tok → Value) : Prop :=
  ∀ (w : World) (loose : List PySem.Str) (mean : ExcName → Option Value) (mg mb : PySem.Str → Option Value)
    (dp un : Nat) (gd : Option (List Code)) (cn : PySem.Str) (cs : Scope) (a : Addr) (ccd : Value) (cl : List (PySem.Str × Addr)) (outer : List Env) (A₀ : Around) (base h₀ : Heap) (L : Addr) (m : PySem.Str → Option Value) (news : List (Addr × Obj)) (s : Shared) (la : Addr) (n : Nat)
    (Q E : Value → Shared → Prop),
    Below A₀ base outer h₀ → Fr h₀ L s.heap m → (K w.params).In h₀ → News h₀ L s.heap news → Top p loose mean mg mb h₀ → cs.kind = .function → dp + 210 < recursionLimit → un + 100 < cLine → (la, listOf vs.toArray n) ∈ news →
    (∀ t h' tk' d', Fr h₀ L h' m → News h₀ L h' news → Q (R t) ⟨h', s.gens, d', tk', s.os⟩) →
    wpAny (model prog w) (ktrTop dp un gd cn cs L a ccd cl outer) (call (.ref f) [.ref la]) Q E s
theorem CtrG.use {prog p : Program} {K : Params → Frag} {f : Addr} {vs : List Value} {R : Tok → Value} (C : CtrG prog p K f vs R)
    {w : World} {loose : List PySem.Str} {mean : ExcName → Option Value} {mg mb : PySem.Str → Option Value}
    {dp un : Nat} {gd : Option (List Code)} {cn : PySem.Str} {cs : Scope} {a : Addr} {ccd : Value} {cl : List (PySem.Str × Addr)} {outer : List Env} {A₀ : Around} {base h₀ : Heap} {L : Addr} {m : PySem.Str → Option Value} {news : List (Addr × Obj)} {s : Shared} {la : Addr} {n : Nat}
    {Q E : Value → Shared → Prop} (B : Below A₀ base outer h₀) (F : Fr h₀ L s.heap m) (X : (K w.params).In h₀) (N : News h₀ L s.heap news) (T : Top p loose mean mg mb h₀) (hk : cs.kind = .function) (hd : dp + 210 < recursionLimit) (hu : un + 100 < cLine) (hl : (la, listOf vs.toArray n) ∈ news)
    (ret : ∀ t h' tk' d', Fr h₀ L h' m → News h₀ L h' news → Q (R t) ⟨h', s.gens, d', tk', s.os⟩) :
    wpAny (model prog w) (ktrTop dp un gd cn cs L a ccd cl outer) (call (.ref f) [.ref la]) Q E s := C _ _ _ _ _ _ _ _ _ _ _ _ _ _ _ _ _ _ _ _ _ _ _ _ _ B F X N T hk hd hu hl ret
theorem Walks.weaken {prog : Program} {w : World} {A : Around} {I : Addr} {fp wr : List Addr} {n : Nat} {P P' : Nat → Value → Prop} {St : Nat → Heap → Prop} (W : Walks prog w A I fp wr n P St) (hP : ∀ i v, P i v → P' i v) : Walks prog w A I fp wr n P' St where
  sub := W.sub
  frame := W.frame
  item := fun i s Q E hi st hQ => W.item i s Q E hi st fun v h' tk hv => hQ v h' tk (hP i v hv)
  done := W.done
  self := W.self
section
variable {prog : Program} {w : World} {A : Around} {E : Value → Shared → Prop} {s : Shared} {h₀ : Heap} {m : PySem.Str → Option Value} {env : Env} {news : List (Addr × Obj)}
/-- what a comprehension of a set leaves -/
def SetMade (w : World) (h₀ : Heap) (env : Env) (m : PySem.Str → Option Value) (news : List (Addr × Obj)) (s : Shared) (y : PySem.Str) (xs : List Int) (p : Int → Bool) (f : Int → Int) (Q : Flow → Shared → Prop) : Prop :=
  ∀ (D : Addr) (h' : Heap) (tk : Nat) (d' : Drawn) (o' : Obj) (ys : List Int), SetM w o' ys → (∀ y, y ∈ ys ↔ ∃ x ∈ xs, p x = true ∧ f x = y) → ys.length ≤ xs.length →
    Fr h₀ env.locals h' (fun z => if z = y then some (.ref D) else m z) → News h₀ env.locals h' ((D, o') :: news) → (∀ q ∈ news, q.1 < D) → Q .next ⟨h', s.gens, d', tk, s.os⟩
theorem setMade_end {y : PySem.Str} {xs zs : List Int} {p : Int → Bool} {f : Int → Int} {Q : Flow → Shared → Prop} {wr : List Addr} {h1 : Heap} {d1 : Drawn} (hzp : zs.Perm xs) (F : Fr h₀ env.locals s.heap m) (N : News h₀ env.locals s.heap news)
    (hwr : ∀ b ∈ wr, s.heap.get? b = none) (hk : ∀ b o, s.heap.get? b = some o → h1.get? b = some o) (H : SetMade w h₀ env m news s y xs p f Q) {D : Addr} {h' : Heap} {tk : Nat} {o' : Obj} (hDs : h1.objs.size ≤ D) (hD : h1.get? D = none) (hg : h'.get? D = some o') (hS : SetM w o' (madeOf p f zs))
    (hn : h'.Ns env.locals (fun z => if z = y then some (.ref D) else m z)) (hkp : ∀ b o, b ≠ env.locals → b ∉ wr → h1.get? b = some o → h'.get? b = some o) : Q .next ⟨h', s.gens, d1, tk, s.os⟩ := by
  obtain ⟨oL, _, _, hL, _⟩ := F.ns
  refine H D h' tk d1 o' _ hS (fun y => ?_) ?_ ⟨hn, fun b o e => ?_, F.above⟩ (fun q hq => ?_) (fun q hq => ?_)
  · rw [mem_madeOf]
    constructor
    · rintro ⟨x, hx, h⟩; exact ⟨x, hzp.mem_iff.mp hx, h⟩
    · rintro ⟨x, hx, h⟩; exact ⟨x, hzp.mem_iff.mpr hx, h⟩
  · rw [← hzp.length_eq]; exact madeOf_len p f zs
  · refine hkp b o (Nat.ne_of_lt (Nat.lt_of_lt_of_le (Heap.lt_size e) F.above)) (fun hb => ?_) (hk b o (F.keep b o e))
    have := hwr b hb; rw [F.keep b o e] at this; cases this
  · rcases List.mem_cons.mp hq with rfl | hq
    · refine ⟨hg, fun e => ?_, ?_⟩
      · have e : D = env.locals := e
        rw [e, hk _ _ hL] at hD; cases hD
      · cases e : h₀.get? D with
        | none => rfl
        | some o2 => rw [hk _ _ (F.keep _ _ e)] at hD; cases hD
    · refine ⟨hkp _ _ (N q hq).2.1 (fun hb => ?_) (hk _ _ (N q hq).1), (N q hq).2⟩
      have := hwr _ hb; rw [(N q hq).1] at this; cases this
  · exact Nat.lt_of_lt_of_le (Heap.lt_size (hk _ _ (N q hq).1)) hDs
theorem setcomp_set {elt iter : Expr} {x y : PySem.Str} {px py : Pos} {ifs : List Expr} {scope : Scope} {cl : List (PySem.Str × Addr)} {pos spos : Pos} {Q : Flow → Shared → Prop} {S : Addr} {o : Obj} {xs : List Int} {p : Int → Bool} {f : Int → Int}
    (hh : A.handled = none) (F : Fr h₀ env.locals s.heap m) (N : News h₀ env.locals s.heap news) (hS : (S, o) ∈ news) (hM : SetM w o xs) (hlen : xs.length < 1900)
    (hev : ∀ Q' : Value → Shared → Prop, Q' (.ref S) s → wpAny (model prog w) A (eval iter env) Q' E s)
    (hsw : swapsWith (.SetComp elt [⟨.Name x px, iter, ifs, 0⟩] scope pos) (some (.Name y py)) spos.line env = pure true)
    (hclos : closureFor scope env = pure cl) (hcell : ∀ z ∈ scope.names, z.2 ≠ .cell) (hkind : scope.kind = .function)
    (hnames : ∀ z ∈ scope.names, z.2 = .local → scope.names.lookup z.1 = some .local) (hx : scope.names.lookup x = some .local)
    (hy : env.kindOf y = some .local) (hp : (env.scope.kind == .class || (env.scope.kind == .module && env.locals != env.globals)) = false)
    (hs : ∀ x, foldedSetIterable iter env x = pure x)
    (hq : ∀ zs : List Int, zs.Perm xs → SetQuiet prog w A env scope cl x ifs elt zs p f s.heap)
    (hQ : SetMade w h₀ env m news s y xs p f Q) :
    wpAny (model prog w) A (exec (.Assign [.Name y py] (.SetComp elt [⟨.Name x px, iter, ifs, 0⟩] scope pos) spos) env) Q E s := by
  refine assign_SetComp hsw hclos hcell hkind hnames hx hy hp (hev _ (iterM hh (N _ hS).1 hM fun I fp wr St zs h1 d1 hzp hsz W hst hfp hwr hfr hk => ?_)) hs
  obtain ⟨oL, _, _, hL, _⟩ := F.ns
  refine ⟨I, fp, wr, St, zs, p, f, m, s.heap, rfl, (by rw [hzp.length_eq]; exact W), (by rw [hzp.length_eq]; exact hlen), hst, hfp, fun hb => (by have := hwr _ hb; rw [hL] at this; cases this), F.ns.at' fun o e => hk _ o e, hsz, hk, hwr, hq zs hzp, ?_⟩
  intro D h' tk o' hDs hD hg hSM hn hkp
  exact setMade_end hzp F N hwr hk hQ hDs hD hg hSM hn hkp
theorem setcomp_list {elt iter : Expr} {x y : PySem.Str} {px py : Pos} {ifs : List Expr} {scope : Scope} {cl : List (PySem.Str × Addr)} {pos spos : Pos} {Q : Flow → Shared → Prop} {S : Addr} {vs : List Value} {n : Nat} {xs : List Int} {p : Int → Bool} {f : Int → Int}
    (hh : A.handled = none) (F : Fr h₀ env.locals s.heap m) (N : News h₀ env.locals s.heap news) (hS : (S, listOf vs.toArray n) ∈ news) (hM : IntsAre vs xs) (hlen : xs.length < 1900)
    (hev : ∀ Q' : Value → Shared → Prop, Q' (.ref S) s → wpAny (model prog w) A (eval iter env) Q' E s)
    (hsw : swapsWith (.SetComp elt [⟨.Name x px, iter, ifs, 0⟩] scope pos) (some (.Name y py)) spos.line env = pure true)
    (hclos : closureFor scope env = pure cl) (hcell : ∀ z ∈ scope.names, z.2 ≠ .cell) (hkind : scope.kind = .function)
    (hnames : ∀ z ∈ scope.names, z.2 = .local → scope.names.lookup z.1 = some .local) (hx : scope.names.lookup x = some .local)
    (hy : env.kindOf y = some .local) (hp : (env.scope.kind == .class || (env.scope.kind == .module && env.locals != env.globals)) = false)
    (hs : ∀ x, foldedSetIterable iter env x = pure x)
    (hq : ∀ zs : List Int, zs.Perm xs → SetQuiet prog w A env scope cl x ifs elt zs p f s.heap)
    (hQ : SetMade w h₀ env m news s y xs p f Q) :
    wpAny (model prog w) A (exec (.Assign [.Name y py] (.SetComp elt [⟨.Name x px, iter, ifs, 0⟩] scope pos) spos) env) Q E s := by
  have hl : s.heap.IsList S vs.toArray := ⟨_, (N _ hS).1, rfl, n, rfl⟩
  have hSlt := Heap.lt_size (N _ hS).1
  refine assign_SetComp hsw hclos hcell hkind hnames hx hy hp (hev _ (wpAny_pyIter_list hl ?_)) hs
  obtain ⟨oL, _, _, hL, _⟩ := F.ns
  have hI : s.heap.get? s.heap.objs.size = none := by
    cases e : s.heap.get? s.heap.objs.size with
    | none => rfl
    | some o' => exact absurd (Heap.lt_size e) (Nat.lt_irrefl _)
  have hwr : ∀ b ∈ [s.heap.objs.size], s.heap.get? b = none := fun b hb => by
    simp at hb; subst hb; exact hI
  have hsize : vs.toArray.size = xs.length := by simpa using hM.length
  have W := Walks.weaken (P' := fun i v => ∃ t, v = .int (xs.getD i 0) t) (Walks.list (prog := prog) (w := w) (A := A) hh s.heap.objs.size S (Nat.ne_of_lt hSlt) vs.toArray) (fun i v hv => by
    have hlt : i < xs.length := by
      rw [← hsize]
      by_cases hi : i < vs.toArray.size
      · exact hi
      · rw [Array.getElem?_eq_none (by omega)] at hv; cases hv
    obtain ⟨t, e⟩ := IntsAre.get hM i xs[i] (by simp [hlt])
    have hv : vs[i]? = some v := by simpa using hv
    rw [e] at hv
    refine ⟨t, ?_⟩
    rw [← Option.some.inj hv]
    simp [List.getD_eq_getElem?_getD, hlt])
  rw [hsize] at W
  have hk : ∀ b o, s.heap.get? b = some o → (s.heap.push { cls := .type "list_iterator", data := .fields #[.ref S, .int 0 0] }).get? b = some o := fun b o e => Heap.get?_push_of_some _ e
  refine ⟨_, _, [s.heap.objs.size], _, xs, p, f, m, s.heap, rfl, W, hlen, ⟨⟨_, Heap.get?_push_size _ rfl, rfl, rfl⟩, ⟨_, hk _ _ (N _ hS).1, rfl, n, rfl⟩⟩, fun b hb => ?_, fun hb => (by have := hwr _ hb; rw [hL] at this; cases this), F.ns.at' fun o e => hk _ o e, ?_, hk, hwr, hq xs (.refl _), ?_⟩
  · show b < (s.heap.push _).objs.size
    rw [Heap.size_push]
    simp at hb
    rcases hb with rfl | rfl
    · exact Nat.lt_succ_self _
    · exact Nat.lt_succ_of_lt hSlt
  · show _ ≤ (s.heap.push _).objs.size
    rw [Heap.size_push]; exact Nat.le_succ _
  · intro D h' tk o' hDs hD hg hSM hn hkp
    exact setMade_end (d1 := s.drawn) (.refl _) F N hwr hk hQ hDs hD hg hSM hn hkp
theorem min_K {S : Addr} {o : Obj} {xs : List Int} {L : Addr} {Q : Value → Shared → Prop} (hh : A.handled = none) (F : Fr h₀ L s.heap m) (N : News h₀ L s.heap news) (hS : (S, o) ∈ news) (hM : SetM w o xs) (hne : xs ≠ [])
    (h : ∀ k tk h' tk' d', k ∈ xs → (∀ y ∈ xs, k ≤ y) → Fr h₀ L h' m → News h₀ L h' news → Q (.int k tk) ⟨h', s.gens, d', tk', s.os⟩) :
    wpAny (model prog w) A (call (.builtin "min") [.ref S]) Q E s :=
  minM hh (N _ hS).1 hM hne fun k tk h' tk' d' h1 h2 hk => h k tk h' tk' d' h1 h2 (F.keeps hk) (N.grown hk)
theorem discard_K {S : Addr} {o : Obj} {g : Obj → List (Addr × Obj)} {xs : List Int} {L : Addr} {k : Int} {tk : Tok} {Q : Value → Shared → Prop} (F : Fr h₀ L s.heap m) (N : News h₀ L s.heap news) (U : UpdF S o news g) (hM : SetM w o xs)
    (h : ∀ h' o', Fr h₀ L h' m → News h₀ L h' (g o') → SetM w o' (xs.erase k) → Q .none { s with heap := h', toks := s.toks + 1 }) :
    wpAny (model prog w) A (call (.builtin "set.discard") [.ref S, .int k tk]) Q E s := by
  obtain ⟨own, rest, rfl, hg, h1, h2⟩ := U.split
  have hmem := N (S, o) (List.mem_append_right _ (.head _))
  refine discardM hmem.1 hM fun h' o' hsb hgt hM' => ?_
  exact h h' o' (F.change hsb hmem.2.1 hmem.2.2) (hg o' ▸ N.setAt h1 h2 hsb hgt) hM'
theorem pop_K {S : Addr} {o : Obj} {g : Obj → List (Addr × Obj)} {xs : List Int} {L : Addr} {Q : Value → Shared → Prop} (F : Fr h₀ L s.heap m) (N : News h₀ L s.heap news) (U : UpdF S o news g) (hM : SetM w o xs) (hne : xs ≠ [])
    (h : ∀ k tk h' o' d', k ∈ xs → Fr h₀ L h' m → News h₀ L h' (g o') → SetM w o' (xs.erase k) → Q (.int k tk) ⟨h', s.gens, d', s.toks, s.os⟩) :
    wpAny (model prog w) A (call (.builtin "set.pop") [.ref S]) Q E s := by
  obtain ⟨own, rest, rfl, hg, h1, h2⟩ := U.split
  have hmem := N (S, o) (List.mem_append_right _ (.head _))
  refine popM hmem.1 hM hne fun k tk h' o' d' hk hsb hgt hM' => ?_
  exact h k tk h' o' d' hk (F.change hsb hmem.2.1 hmem.2.2) (hg o' ▸ N.setAt h1 h2 hsb hgt) hM'
theorem new_K {L : Addr} {Q : Value → Shared → Prop} (F : Fr h₀ L s.heap m) (N : News h₀ L s.heap news)
    (h : ∀ D h' o, Fr h₀ L h' m → News h₀ L h' ((D, o) :: news) → (∀ p ∈ news, p.1 < D) → SetM w o [] → Q (.ref D) { s with heap := h' }) :
    wpAny (model prog w) A (newSet (.type "set")) Q E s := by
  refine newSetM fun o hf hS => ?_
  have hk : ∀ b o', s.heap.get? b = some o' → (s.heap.push o).get? b = some o' := fun b o' e => Heap.get?_push_of_some _ e
  have hI : s.heap.get? s.heap.objs.size = none := by
    cases e : s.heap.get? s.heap.objs.size with
    | none => rfl
    | some o' => exact absurd (Heap.lt_size e) (Nat.lt_irrefl _)
  obtain ⟨oL, _, _, hL, _⟩ := F.ns
  refine h _ _ o (F.keeps hk) (fun q hq => ?_) (fun q hq => Heap.lt_size (N q hq).1) hS
  rcases List.mem_cons.mp hq with rfl | hq
  · refine ⟨Heap.get?_push_size _ hf, fun e => ?_, ?_⟩
    · have e : s.heap.objs.size = L := e
      rw [e, hL] at hI; cases hI
    · cases e : h₀.get? s.heap.objs.size with
      | none => rfl
      | some o2 => have := F.keep _ _ e; rw [hI] at this; cases this
  · exact N.grown hk q hq
theorem eqEmpty_K {S D : Addr} {o : Obj} {led : Bool} {xs : List Int} {L : Addr} {Q : Value → Shared → Prop} (hu : A.units < cLine) (N : News h₀ L s.heap news) (hS : (S, o) ∈ news) (hM : SetM w o xs) (hD : (D, { cls := .type "set", dict := none, data := .set #[] 0 (.fresh 0 0 led) }) ∈ news)
    (h : Q (.bool (decide (xs = []))) s) : wpAny (model prog w) A (compareOp .Eq (.ref S) (.ref D)) Q E s :=
  eqEmptyM hu (N _ hS).1 hM (N _ hD).1 ⟨rfl, rfl, rfl⟩ rfl rfl h
theorem methDiscard_K {S : Addr} {o : Obj} {xs : List Int} {L : Addr} {pl : Sem Bool} {Q : Value × List Value → Shared → Prop} (N : News h₀ L s.heap news) (hS : (S, o) ∈ news) (hM : SetM w o xs) (h : Q (.builtin "set.discard", [.ref S]) s) :
    wpAny (model prog w) A (getMethod (.ref S) "discard" pl) Q E s := by
  obtain ⟨ks, _, hex, _⟩ := hM
  exact getMethod_builtin ⟨o, (N _ hS).1, hex.1⟩ F.plainAttrs_set F.slot_set_discard F.type_set_discard (fun b e => by injection e with e; subst e; exact ⟨o, (N _ hS).1, hex.2.1⟩) h
theorem methPop_K {S : Addr} {o : Obj} {xs : List Int} {L : Addr} {pl : Sem Bool} {Q : Value × List Value → Shared → Prop} (N : News h₀ L s.heap news) (hS : (S, o) ∈ news) (hM : SetM w o xs) (h : Q (.builtin "set.pop", [.ref S]) s) :
    wpAny (model prog w) A (getMethod (.ref S) "pop" pl) Q E s := by
  obtain ⟨ks, _, hex, _⟩ := hM
  exact getMethod_builtin ⟨o, (N _ hS).1, hex.1⟩ F.plainAttrs_set F.slot_set_pop F.type_set_pop (fun b e => by injection e with e; subst e; exact ⟨o, (N _ hS).1, hex.2.1⟩) h
theorem len_K {S : Addr} {o : Obj} {xs : List Int} {L : Addr} {Q : Value → Shared → Prop} (N : News h₀ L s.heap news) (hS : (S, o) ∈ news) (hM : SetM w o xs) (h : Q (.int xs.length (s.toks + 1)) { s with toks := s.toks + 1 + 1 }) :
    wpAny (model prog w) A (call (.builtin "len") [.ref S]) Q E s := by
  obtain ⟨pre, post, rfl⟩ := List.append_of_mem hS
  exact len_sl1 (knd := PySem.intKind prog w) N hM.objOf (by have := hM.small; omega) h
end
/-- a stop of the walk -/
def StopW (p : Prop) : Prop := p
theorem StopW.on {p : Prop} (h : StopW p) : p := h
theorem StopW.off {p : Prop} (h : p) : StopW p := h
/-- the rest nearest to nought -/
def modlF (a b : Int) : Int := if 2 * (if Int.fmod a b < 0 then -Int.fmod a b else Int.fmod a b) ≤ (if b < 0 then -b else b) then Int.fmod a b else Int.fmod a b - b
/-- the set of gcd_ at the head of its loop: its least number is d, its common divisors are those of G -/
def GInv (G : Int) (xs : List Int) (d : Int) : Prop := (∀ a ∈ xs, 0 < a) ∧ d ∈ xs ∧ (∀ a ∈ xs, d ≤ a) ∧ ∀ c : Int, (∀ a ∈ xs, c ∣ a) ↔ c ∣ G
theorem dvd_abs {c x : Int} : c ∣ (if x < 0 then -x else x) ↔ c ∣ x := by
  split
  · exact Int.dvd_neg
  · exact Iff.rfl
theorem gcd_start_ne {G : Int} {ns ys : List Int} (hG0 : 0 < G) (hG : ∀ c : Int, (∀ a ∈ ns, c ∣ a) ↔ c ∣ G) (hm : ∀ y, y ∈ ys ↔ ∃ x ∈ ns, x ≠ 0 ∧ (if x < 0 then -x else x) = y) : ys ≠ [] := by
  intro h
  subst h
  have h0 : (0 : Int) ∣ G := (hG 0).mp fun a ha => by
    by_cases h0 : a = 0
    · subst h0; exact Int.dvd_refl 0
    · exact absurd ((hm _).mpr ⟨a, ha, h0, rfl⟩) (by simp)
  have := Int.zero_dvd.mp h0
  omega
theorem gcd_start {G d : Int} {ns ys : List Int} (hG : ∀ c : Int, (∀ a ∈ ns, c ∣ a) ↔ c ∣ G) (hm : ∀ y, y ∈ ys ↔ ∃ x ∈ ns, x ≠ 0 ∧ (if x < 0 then -x else x) = y) (hd : d ∈ ys) (hl : ∀ y ∈ ys, d ≤ y) : GInv G ys d := by
  refine ⟨fun a ha => ?_, hd, hl, fun c => ?_⟩
  · obtain ⟨x, _, h0, rfl⟩ := (hm a).mp ha
    split <;> omega
  · rw [← hG]
    constructor
    · intro h a ha
      by_cases h0 : a = 0
      · subst h0; exact Int.dvd_zero c
      · exact dvd_abs.mp (h _ ((hm _).mpr ⟨a, ha, h0, rfl⟩))
    · intro h a ha
      obtain ⟨x, hx, _, rfl⟩ := (hm a).mp ha
      exact dvd_abs.mpr (h x hx)
/-- the loop's step on one element -/
def gcdF (d i : Int) : Int := if i = d then i else if modlF i d < 0 then -modlF i d else modlF i d
theorem modlF_eq (a b : Int) : ∃ q : Int, modlF a b = a - q * b := by
  have h := Int.mul_fdiv_add_fmod a b
  unfold modlF
  generalize Int.fmod a b = r at *
  generalize Int.fdiv a b = q at *
  by_cases c : 2 * (if r < 0 then -r else r) ≤ (if b < 0 then -b else b)
  · rw [if_pos c]; exact ⟨q, by rw [Int.mul_comm q b]; omega⟩
  · rw [if_neg c]
    refine ⟨q + 1, ?_⟩
    rw [Int.add_mul, Int.mul_comm q b]; omega
theorem modlF_half {a b : Int} (hb : 0 < b) : 2 * (if modlF a b < 0 then -modlF a b else modlF a b) ≤ b := by
  have h1 := Int.fmod_nonneg_of_pos a hb
  have h2 := Int.fmod_lt_of_pos a hb
  unfold modlF
  generalize Int.fmod a b = r at *
  have e1 : (if r < 0 then -r else r) = r := if_neg (by omega)
  have e2 : (if b < 0 then -b else b) = b := if_neg (by omega)
  rw [e1, e2]
  by_cases h : 2 * r ≤ b
  · rw [if_pos h, e1]; exact h
  · rw [if_neg h, if_pos (by omega)]; omega
theorem gcdF_dvd {c d i : Int} (hd : c ∣ d) : c ∣ gcdF d i ↔ c ∣ i := by
  unfold gcdF
  split
  · exact Iff.rfl
  · rw [dvd_abs]
    obtain ⟨q, e⟩ := modlF_eq i d
    rw [e]
    obtain ⟨k, rfl⟩ := hd
    constructor
    · rintro ⟨j, h⟩
      refine ⟨j + q * k, ?_⟩
      rw [Int.mul_add, ← h, Int.mul_left_comm]; omega
    · rintro ⟨j, rfl⟩
      refine ⟨j - q * k, ?_⟩
      rw [Int.mul_sub, Int.mul_left_comm]
theorem gcdF_nonneg {d i : Int} (hi : 0 < i) : 0 ≤ gcdF d i := by
  unfold gcdF
  split
  · omega
  · split <;> omega
theorem gcd_step {G d d' : Int} {xs ys : List Int} (h : GInv G xs d) (hn : ys.Nodup) (hm : ∀ y, y ∈ ys ↔ ∃ x ∈ xs, gcdF d x = y) (hd : d' ∈ ys.erase 0) (hl : ∀ y ∈ ys.erase 0, d' ≤ y) :
    GInv G (ys.erase 0) d' ∧ d' ≤ d ∧ (1 < (ys.erase 0).length → d' < d) := by
  obtain ⟨h1, h2, h3, h4⟩ := h
  have hd0 := h1 d h2
  have me : ∀ y, y ∈ ys.erase 0 ↔ y ≠ 0 ∧ ∃ x ∈ xs, gcdF d x = y := fun y => by rw [hn.mem_erase_iff, hm]
  have hdm : d ∈ ys.erase 0 := (me d).mpr ⟨by omega, d, h2, by unfold gcdF; simp⟩
  refine ⟨⟨fun a ha => ?_, hd, hl, fun c => ?_⟩, hl d hdm, fun hlen => ?_⟩
  · obtain ⟨h0, x, hx, rfl⟩ := (me a).mp ha
    have := gcdF_nonneg (d := d) (h1 x hx)
    omega
  · rw [← h4]
    constructor
    · intro h a ha
      have hcd := h d hdm
      by_cases h0 : gcdF d a = 0
      · exact (gcdF_dvd hcd).mp (by rw [h0]; exact Int.dvd_zero c)
      · exact (gcdF_dvd hcd).mp (h _ ((me _).mpr ⟨h0, a, ha, rfl⟩))
    · intro h a ha
      obtain ⟨_, x, hx, rfl⟩ := (me a).mp ha
      exact (gcdF_dvd (h d h2)).mpr (h x hx)
  · -- some element other than d
    have hn2 : (ys.erase 0).Nodup := hn.erase 0
    have : ∃ e ∈ ys.erase 0, e ≠ d := by
      revert hlen hn2
      match ys.erase 0 with
      | [] => intro h; simp at h
      | [_] => intro h; simp at h
      | p :: q :: r =>
        intro _ hn2
        have hpq : p ≠ q := by
          intro e; subst e; simp at hn2
        by_cases hp : p = d
        · exact ⟨q, by simp, fun e => hpq (hp.trans e.symm)⟩
        · exact ⟨p, by simp, hp⟩
    obtain ⟨e, he, hne⟩ := this
    have hle := hl e he
    obtain ⟨h0, x, hx, hxe⟩ := (me e).mp he
    by_cases hxd : x = d
    · subst hxd; unfold gcdF at hxe; simp at hxe; exact absurd hxe.symm hne
    · have := modlF_half (a := x) hd0
      unfold gcdF at hxe
      rw [if_neg hxd] at hxe
      omega
theorem gcd_fin {G d : Int} {xs : List Int} (hG0 : 0 < G) (h : GInv G xs d) (hl : xs.length ≤ 1) : d = G := by
  obtain ⟨h1, h2, h3, h4⟩ := h
  have hx : xs = [d] := by
    match xs, hl, h2 with
    | [a], _, h2 => simp at h2; rw [h2]
  subst hx
  have a1 : d ∣ G := (h4 d).mp fun a ha => by simp at ha; subst ha; exact Int.dvd_refl _
  have a2 : G ∣ d := (h4 G).mpr (Int.dvd_refl G) d (by simp)
  have hd0 := h1 d h2
  exact Int.dvd_antisymm (by omega) (by omega) a1 a2
theorem GInv.ne {G d : Int} {xs : List Int} (h : GInv G xs d) : xs ≠ [] := fun e => by have := h.2.1; rw [e] at this; cases this
theorem GInv.pos {G d : Int} {xs : List Int} (h : GInv G xs d) : 0 < d := h.1 d h.2.1
theorem gcd_step_ne {G d : Int} {xs ys : List Int} (h : GInv G xs d) (hn : ys.Nodup) (hm : ∀ y, y ∈ ys ↔ ∃ x ∈ xs, gcdF d x = y) : ys.erase 0 ≠ [] := by
  intro e
  have hd0 := h.pos
  have : d ∈ ys.erase 0 := by
    rw [hn.mem_erase_iff, hm]
    exact ⟨by omega, d, h.2.1, by unfold gcdF; simp⟩
  rw [e] at this; cases this
abbrev GcdC := Addr × Obj × Obj × List Int × Int × Tok
/-- what stands at the head of gcd_'s loop -/
def GcdP (w : World) (ce : Addr) (news : List (Addr × Obj)) (n : Nat) (G : Int) (c : GcdC) : Prop :=
  SetM w c.2.1 c.2.2.2.1 ∧ c.2.2.1.data = .cell (some (.int c.2.2.2.2.1 c.2.2.2.2.2)) ∧ ce < c.1 ∧ AllLt c.1 news ∧ c.2.2.2.1.length ≤ n ∧ GInv G c.2.2.2.1 c.2.2.2.2.1
def gcdLed (ce : Addr) (news : List (Addr × Obj)) (c : GcdC) : List (Addr × Obj) := (c.1, c.2.1) :: (ce, c.2.2.1) :: news
def gcdMu (c : GcdC) : Nat := c.2.2.2.2.1.toNat + c.2.2.2.1.length
theorem gcdF_v1 {d i : Int} {t : Tok} (h : i = d) : Value.int i t = Value.int (gcdF d i) t := by unfold gcdF; rw [if_pos h]
theorem gcdF_v2 {d i : Int} {t : Tok} (h : i ≠ d) (hc : (2 * if Int.fmod i d < 0 then -Int.fmod i d else Int.fmod i d) ≤ if d < 0 then -d else d) :
    Value.int (if Int.fmod i d < 0 then -Int.fmod i d else Int.fmod i d) t = Value.int (gcdF d i) t := by
  have e : modlF i d = Int.fmod i d := by unfold modlF; rw [if_pos hc]
  unfold gcdF; rw [if_neg h, e]
theorem gcdF_v3 {d i : Int} {t : Tok} (h : i ≠ d) (hc : ¬ (2 * if Int.fmod i d < 0 then -Int.fmod i d else Int.fmod i d) ≤ if d < 0 then -d else d) :
    Value.int (if Int.fmod i d - d < 0 then -(Int.fmod i d - d) else Int.fmod i d - d) t = Value.int (gcdF d i) t := by
  have e : modlF i d = Int.fmod i d - d := by unfold modlF; rw [if_neg hc]
  unfold gcdF; rw [if_neg h, e]
theorem gcd_turn_end {w : World} {ce : Addr} {news : List (Addr × Obj)} {n : Nat} {G : Int} {S D : Addr} {o oc o' oc' : Obj} {xs ys : List Int} {k k' : Int} {t t' : Tok}
    (hI : GInv G xs k) (hS' : SetM w o' (ys.erase 0)) (hnd : ys.Nodup) (hm : ∀ y, y ∈ ys ↔ ∃ x ∈ xs, gcdF k x = y) (hlx : ys.length ≤ xs.length) (hxn : xs.length ≤ n) (hx1 : 1 < (xs.length : Int))
    (hk : k' ∈ ys.erase 0) (hl : ∀ y ∈ ys.erase 0, k' ≤ y) (hc : oc'.data = .cell (some (.int k' t'))) (h1 : ce < D) (h2 : AllLt D news) :
    GcdP w ce news n G (D, o', oc', ys.erase 0, k', t') ∧ gcdMu (D, o', oc', ys.erase 0, k', t') < gcdMu (S, o, oc, xs, k, t) := by
  obtain ⟨g1, g2, g3⟩ := gcd_step hI hnd hm hk hl
  have he : (ys.erase 0).length ≤ ys.length := (List.erase_sublist).length_le
  have hk0 := g1.pos
  refine ⟨⟨hS', hc, h1, h2, (by show (ys.erase 0).length ≤ n; omega), g1⟩, ?_⟩
  show k'.toNat + (ys.erase 0).length < k.toNat + xs.length
  by_cases h : 1 < (ys.erase 0).length
  · have := g3 h; omega
  · omega
section
theorem ne_succ_of {news : List (Addr × Obj)} {L : Addr} (h : ∀ p ∈ news, p.1 < L) : ∀ p ∈ news, p.1 ≠ L + 1 := fun p hp => Nat.ne_of_lt (Nat.lt_succ_of_lt (h p hp))
theorem ne_lt_of {news : List (Addr × Obj)} {D : Addr} (h : AllLt D news) : ∀ p ∈ news, p.1 ≠ D := fun p hp => Nat.ne_of_lt (ktn_ltOf h p hp)
theorem bne_eq (a b : Int) : (a != b) = decide (a ≠ b) := by
  by_cases h : a = b
  · subst h; simp
  · simp [h]
section
local macro_rules | `(tactic| k_room) => `(tactic| ktr_room)
local macro_rules | `(tactic| walk_at "my_enterC") => `(tactic| (
  refine' code_defC ?k1 ?k2 ?k3 ?k4 ?k5 ?kA ?kF ?kK ?k6 ?k7 ?k8 ?k9 ?kB ?kD ?_ ?c2 ?c3 ?c4
  (case kA => exact rfl)
  (case kF => exact rfl)
  (case kK => assumption)
  (case k1 => k_asm)
  (case k2 => k_asm)
  (case k3 => k_asm)
  (case k4 => k_asm)
  (case k5 => k_asm)
  (case k6 => k_is)
  (case k7 => k_is)
  (case k8 => ktr_room)
  (case k9 => exact BindsTo.of_eq rfl)
  (case kB => exact rfl)
  (case kD => decide +kernel)
  (case c2 => exact rfl)
  (case c3 => exact rfl)
  (case c4 => exact rfl)
  k_whole
  intro g' L' h' tk' cells' FG' F' N' Y' B' X' T' l1
  (try k_lt l1)
  k_cells Y'
  (try simp only [List.cons_append, List.nil_append] at N')
  (try dsimp only)
  (try k_lift B')
  (try k_fold)))
local macro_rules | `(tactic| k_all) => `(tactic| first
  | exact ne_succ_of (by assumption)
  | (rename AllLt _ _ => hl9; exact ne_lt_of (by assumption))
  | ((rename _ ∧ AllLt _ _ => hl9); exact ne_lt_of hl9.2)
  | ((rename _ ∧ _ ∧ AllLt _ _ => hl9); exact ne_lt_of hl9.2.2))
local macro_rules | `(tactic| walk_at "compareOp Eq ref ref") => `(tactic| (
  k_here
  k_dflt (
    refine' eqEmpty_K ?u ?N ?S ?M ?D ?_
    (case u => ktr_units)
    (case N => k_asm)
    (case S => k_mem)
    (case M => assumption)
    (case D => k_mem)
    k_whole)
  rw [decide_eq_false (by assumption)]))
local macro_rules | `(tactic| walk_at "call builtin:min") => `(tactic| (
  k_here
  (with_reducible show wpAny _ _ (call (Value.builtin "min") [Value.ref _]) _ _ _)
  k_dflt (
    refine' min_K ?u ?F ?N ?S ?M ?e ?_
    (case u => with_unfolding_all rfl)
    (case F => k_asm)
    (case N => k_asm)
    (case S => k_mem)
    (case M => assumption)
    (case e => assumption)
    k_whole)
  intro k9 t9 h9 tk9 d9 hk9 hl9 F9 N9))
local macro_rules | `(tactic| walk_at "call builtin:len") => `(tactic| (
  k_here
  (with_reducible show wpAny _ _ (call (Value.builtin "len") [Value.ref _]) _ _ _)
  k_dflt (
    refine' len_K ?N ?S ?M ?_
    (case N => k_asm)
    (case S => k_mem)
    (case M => assumption)
    k_whole)))
local macro_rules | `(tactic| walk_at "getMethod ref") => `(tactic| (
  k_here
  (with_reducible show wpAny _ _ (getMethod (Value.ref _) (PySem.Str.ofString "discard") _) _ _ _)
  k_dflt (
    refine' methDiscard_K ?N ?S ?M ?_
    (case N => k_asm)
    (case S => k_mem)
    (case M => assumption)
    k_whole)))
local macro_rules | `(tactic| walk_at "call builtin:set.discard") => `(tactic| (
  k_here
  k_dflt (
    refine' discard_K ?F ?N ?U ?M ?_
    (case F => k_asm)
    (case N => k_asm)
    (case U => k_updF)
    (case M => assumption)
    k_whole)
  intro h9 o9 F9 N9 hS9
  (try dsimp only at N9)))
local macro_rules | `(tactic| walk_at "exec While Compare cons nil") => `(tactic| (refine StopW.on ?_))
local macro_rules | `(tactic| walk_at "eval Name") => `(tactic| (
  k_here
  (with_reducible show wpAny _ _ (eval (Expr.Name (PySem.Str.ofString "d") _) (envOfC _ _ _ _ _)) _ _ _)
  k_dflt (
    refine' nameX_C ?N ?c ?m ?d ?_ ?a ?b
    (case a => rfl)
    (case b => rfl)
    (case N => k_asm)
    (case c => rfl)
    (case m => k_mem)
    (case d => assumption)
    k_whole)))
local macro_rules | `(tactic| walk_at "storeName") => `(tactic| (
  k_here
  (with_reducible show wpAny _ _ (storeName (envOfC _ _ _ _ _) (PySem.Str.ofString "d") _) _ _ _)
  k_dflt (
    refine' storeX_C ?F ?N ?c ?U ?d ?_ ?a ?b
    (case a => rfl)
    (case b => rfl)
    (case F => k_asm)
    (case N => k_asm)
    (case c => rfl)
    (case U => first | k_updF | ktn_no "my store: the ledger")
    (case d => first | assumption | exact rfl)
    k_whole)
  intro h9 o9 F9 N9 d9
  (try dsimp only at N9)))
local macro_rules | `(tactic| walk_at "exec Assign cons SetComp") => `(tactic| (refine StopW.on ?_))
theorem gcdu_c (vs : List Value) (ns : List Int) (G : Int) (hI : IntsAre vs ns) (hlen : ns.length < 1900) (hG0 : 0 < G) (hG : ∀ c : Int, (∀ a ∈ ns, c ∣ a) ↔ c ∣ G) : CtrG PySem.Challenge.rw_yz0001_03.row.prog hd.view_39 hd.heap_39 47 vs (fun t => .int G t) := by
  have hd0 : PySem.Challenge.rw_yz0001_03 = PySem.Challenge.rw_yz0001_03 ∧ hd.heap_39 = hd.heap_39 := by k_fill; exact ⟨rfl, rfl⟩
  clear hd0
  k_with_none
  w_top off
  intro w loose mean mg mb dp un gd cn cs a ccd cl outer A₀ base h₀ L m news s la n Q E B F X N T hk hdp hun hla hret
  refine wpAny_call ?_
  k_dflt walk_at "my_enterC"
  k_steps
  refine StopW.off ?_
  rename Fr _ _ _ _ => F9
  rename News _ _ _ _ => N9
  refine' setcomp_list (xs := ns) (p := fun i => decide (i ≠ 0)) (f := fun i => if i < 0 then -i else i) (vs := vs) (n := n) ?hh ?F ?N ?hS hI hlen ?hev ?hsw ?hclos ?hcell ?hkind ?hnames ?hx ?hy ?hp ?hs ?hq ?hQ
  (case hh => with_unfolding_all rfl)
  (case F => exact F9)
  (case N => exact N9)
  (case hS => exact .tail _ hla)
  (case hsw => with_unfolding_all rfl)
  (case hclos => with_unfolding_all rfl)
  (case hcell => decide)
  (case hkind => with_unfolding_all rfl)
  (case hnames => decide)
  (case hx => with_unfolding_all rfl)
  (case hy => with_unfolding_all rfl)
  (case hp => with_unfolding_all rfl)
  (case hs => intro _; with_unfolding_all rfl)
  (case hev => intro Q9 h9; k_steps; exact h9)
  (case hq =>
    intro zs9 hz9
    refine ⟨?_, ?_⟩
    · intro C9 i9 t9 s9 m9 E9 hi9 hns9 hmx9 hkp9 hC9
      obtain ⟨h9, g9, d9, tk9, os9⟩ := s9
      dsimp only at hns9 hkp9 ⊢
      k_steps
      · exact bne_eq _ _
      · exact ⟨_, _, rfl, by assumption⟩
    · intro C9 i9 t9 s9 m9 E9 hi9 hp9 hns9 hmx9 hkp9 hC9
      obtain ⟨h9, g9, d9, tk9, os9⟩ := s9
      dsimp only at hns9 hkp9 ⊢
      k_steps
      exact ⟨_, _, rfl, by assumption⟩)
  (case hQ =>
    intro D9 h9 tk9 d9 o9 ys9 hS9 hm9 hl9 F9 N9 l9
    k_lt l9
    have hm9 : ∀ y, y ∈ ys9 ↔ ∃ x ∈ ns, x ≠ 0 ∧ (if x < 0 then -x else x) = y := by simpa using hm9
    have hne9 : ys9 ≠ [] := gcd_start_ne hG0 hG hm9
    dsimp only at F9 N9 ⊢
    k_steps
    refine StopW.off ?_
    rename Fr _ _ _ _ => F9
    rename News _ _ _ _ => N9
    rename Obj.data _ = _ => hc9
    rename _ ∧ _ ∧ AllLt _ _ => l9
    rename _ ∧ AllLt _ _ => l8
    have hgi9 : GInv G ys9 _ := gcd_start hG hm9 (by assumption) (by assumption)
    have hN8 := N9
    replace N9 := cb_drop N9 (fun p hp => List.Mem.tail _ hp)
    refine' while_D (σ := GcdC) (gcdLed _ news) (fun c => [(PySem.Str.ofString "a", .ref c.1)]) (GcdP w _ news ns.length G) gcdMu (D9, o9, _, ys9, _, _) F9 N9 ?hk ⟨hS9, hc9, l8.1, l8.2, hl9, hgi9⟩ ?turn
    (case hk => intro p hp; rw [List.mem_singleton] at hp; subst hp; rfl)
    (case turn =>
      intro c9 u9 h9 tk9 d9 hP9 F9 N9
      obtain ⟨S9, o9, oc9, xs9, k9, t9⟩ := c9
      obtain ⟨hS9, hc9, hlt9, hnl9, hlen9, hI9⟩ := hP9
      dsimp only [gcdLed] at hS9 hc9 hlt9 hnl9 hlen9 hI9 F9 N9
      k_lt2 hlt9
      k_steps
      · refine StopW.off ?_
        replace F9 := F9
        refine' setcomp_set (xs := xs9) (p := fun _ => true) (f := gcdF k9) (S := S9) (o := o9) ?hh ?F ?N ?hS hS9 ?hlen ?hev ?hsw ?hclos ?hcell ?hkind ?hnames ?hx ?hy ?hp ?hs ?hq ?hQ
        (case hh => with_unfolding_all rfl)
        (case F => exact F9)
        (case N => exact N9)
        (case hS => exact .head _)
        (case hlen => omega)
        (case hsw => with_unfolding_all rfl)
        (case hclos => with_unfolding_all rfl)
        (case hcell => decide)
        (case hkind => with_unfolding_all rfl)
        (case hnames => decide)
        (case hx => with_unfolding_all rfl)
        (case hy => with_unfolding_all rfl)
        (case hp => with_unfolding_all rfl)
        (case hs => intro _; with_unfolding_all rfl)
        (case hev => intro Q9 h9; k_steps; exact h9)
        (case hq =>
          intro zs9 hz9
          refine ⟨?_, ?_⟩
          · intro C9 i9 t9 s9 m9 E9 hi9 hns9 hmx9 hkp9 hC9
            obtain ⟨h9, g9, d9, tk9, os9⟩ := s9
            dsimp only at hns9 hkp9 ⊢
            k_steps
            all_goals exact ⟨_, _, rfl, fun _ _ e => e⟩
          · intro C9 i9 t9 s9 m9 E9 hi9 hp9 hns9 hmx9 hkp9 hC9
            obtain ⟨h9, g9, d9, tk9, os9⟩ := s9
            dsimp only at hns9 hkp9 ⊢
            k_steps
            all_goals first
              | exact ⟨_, _, rfl, fun _ _ e => e⟩
              | exact ⟨_, _, rfl, by assumption⟩
              | exact gcdF_v1 (by assumption)
              | (refine gcdF_v2 ?_ ?_ <;> assumption)
              | (refine gcdF_v3 ?_ ?_ <;> assumption)
              | (refine gcdF_v2 ?_ ?_ ; assumption; assumption)
              | (exfalso; have hp9 := GInv.pos hI9; omega)
              | fail "gcd_ turn")
        (case hQ =>
          intro D9 h9 tk9 d9 o9 ys9 hS9 hm9 hl9 F9 N9 l9
          k_lt l9
          have hm9 : ∀ y, y ∈ ys9 ↔ ∃ x ∈ xs9, gcdF k9 x = y := by simpa using hm9
          have hne9 : ys9.erase 0 ≠ [] := gcd_step_ne hI9 hS9.nodup hm9
          dsimp only at F9 N9 ⊢
          k_steps
          (show DEnd _ _ _ _ _ _ _)
          rename Fr _ _ _ _ => F8
          rename News _ _ _ _ => N8
          rename Obj.data _ = _ => hc8
          refine d_end (D9, _, _, ys9.erase 0, _, _) F8 N8 ?_ ?_ (gcd_turn_end hI9 (by assumption) hS9.nodup hm9 hl9 hlen9 (by assumption) (by assumption) (by assumption) hc8 l9.2.1 l9.2.2)
          · kcj_all
          · intro p hp; rw [List.mem_singleton] at hp; subst hp; rfl)
      · rename Fr h₀ _ _ _ => F8
        rename News h₀ _ _ _ => N8
        rw [gcd_fin hG0 hI9 (by omega)]
        exact hret _ _ _ _ F8 (cb_drop N8 (by kcj_all))))
end
end
/-- what lcm_ has put together of the popped number and the numbers of pre -/
def LInv (k : Int) (pre : List Int) (l : Int) : Prop := 0 < l ∧ ∀ c : Int, (k ∣ c ∧ ∀ a ∈ pre, a ∣ c) ↔ l ∣ c
theorem lcm_pos_of {L : Int} {ns : List Int} (h0 : ∀ a ∈ ns, a ≠ 0) {ys : List Int} (hm : ∀ y, y ∈ ys ↔ ∃ x ∈ ns, (if x < 0 then -x else x) = y) {y : Int} (hy : y ∈ ys) : 0 < y := by
  obtain ⟨x, hx, rfl⟩ := (hm y).mp hy
  have := h0 x hx
  split <;> omega
theorem lcm_ne {ns ys : List Int} (h : ns ≠ []) (hm : ∀ y, y ∈ ys ↔ ∃ x ∈ ns, (if x < 0 then -x else x) = y) : ys ≠ [] := by
  intro e
  subst e
  cases ns with
  | nil => exact h rfl
  | cons a r => exact absurd ((hm _).mpr ⟨a, .head _, rfl⟩) (by simp)
theorem lInv_start {k : Int} (hk : 0 < k) : LInv k [] k := ⟨hk, fun c => by simp⟩
theorem lcm_dvd_iff {a b c : Int} : (a ∣ c ∧ b ∣ c) ↔ (Int.lcm a b : Int) ∣ c :=
  ⟨fun h => Int.coe_lcm_dvd h.1 h.2, fun h => ⟨Int.dvd_trans (Int.dvd_lcm_left a b) h, Int.dvd_trans (Int.dvd_lcm_right a b) h⟩⟩
theorem fdiv_gcd_mul {l i : Int} (hl : 0 < l) (hi : 0 < i) : Int.fdiv l (Int.gcd l i) * i = (Int.lcm l i : Int) := by
  have e := @lcm_val l i (by omega)
  have h0 : 0 ≤ Int.fdiv l (Int.gcd l i) * i := Int.mul_nonneg (Int.fdiv_nonneg (by omega) (by omega)) (by omega)
  rw [if_neg (by omega)] at e
  exact e
theorem lInv_turn {k l i : Int} {pre : List Int} (h : LInv k pre l) (hi : 0 < i) : LInv k (pre ++ [i]) (Int.fdiv l (Int.gcd l i) * i) := by
  obtain ⟨h1, h2⟩ := h
  rw [fdiv_gcd_mul h1 hi]
  refine ⟨?_, fun c => ?_⟩
  · have := Int.lcm_pos (m := l) (n := i) (by omega) (by omega)
    omega
  · rw [← lcm_dvd_iff, ← h2 c]
    constructor
    · rintro ⟨a, b⟩
      exact ⟨⟨a, fun x hx => b x (List.mem_append_left _ hx)⟩, b i (by simp)⟩
    · rintro ⟨⟨a, b⟩, d⟩
      refine ⟨a, fun x hx => ?_⟩
      rcases List.mem_append.mp hx with hx | hx
      · exact b x hx
      · rw [List.mem_singleton] at hx; subst hx; exact d
theorem lcm_all {ns ys : List Int} (hm : ∀ y, y ∈ ys ↔ ∃ x ∈ ns, (if x < 0 then -x else x) = y) (c : Int) : (∀ y ∈ ys, y ∣ c) ↔ ∀ x ∈ ns, x ∣ c := by
  have abs_dvd : ∀ x : Int, (if x < 0 then -x else x) ∣ c ↔ x ∣ c := fun x => by
    split
    · exact Int.neg_dvd
    · exact Iff.rfl
  constructor
  · intro h x hx
    exact (abs_dvd x).mp (h _ ((hm _).mpr ⟨x, hx, rfl⟩))
  · intro h y hy
    obtain ⟨x, hx, rfl⟩ := (hm y).mp hy
    exact (abs_dvd x).mpr (h x hx)
theorem lInv_dvd {k l L : Int} {pre ns ys : List Int} (hL0 : 0 < L) (hL : ∀ c : Int, (∀ a ∈ ns, a ∣ c) ↔ L ∣ c) (hm : ∀ y, y ∈ ys ↔ ∃ x ∈ ns, (if x < 0 then -x else x) = y) (hk : k ∈ ys) (hp : ∀ a ∈ pre, a ∈ ys)
    (h : LInv k pre l) : l ∣ L := by
  refine (h.2 L).mp ?_
  have := (lcm_all hm L).mpr ((hL L).mpr (Int.dvd_refl L))
  exact ⟨this k hk, fun a ha => this a (hp a ha)⟩
theorem lInv_end {k l L : Int} {zs ns ys : List Int} (hL0 : 0 < L) (hL : ∀ c : Int, (∀ a ∈ ns, a ∣ c) ↔ L ∣ c) (hm : ∀ y, y ∈ ys ↔ ∃ x ∈ ns, (if x < 0 then -x else x) = y) (hk : k ∈ ys) (hp : zs.Perm (ys.erase k))
    (h : LInv k zs l) : l = L := by
  have h1 : l ∣ L := lInv_dvd hL0 hL hm hk (fun a ha => List.mem_of_mem_erase (hp.mem_iff.mp ha)) h
  have h2 : L ∣ l := by
    refine (hL l).mp ((lcm_all hm l).mp fun y hy => ?_)
    obtain ⟨a, b⟩ := (h.2 l).mpr (Int.dvd_refl l)
    by_cases e : y = k
    · subst e; exact a
    · exact b y (hp.mem_iff.mpr ((List.mem_erase_of_ne e).mpr hy))
  exact Int.dvd_antisymm (by have := h.1; omega) (by omega) h1 h2
theorem lcm_mul_ok {M : Nat} {k l i L : Int} {pre post ns ys : List Int} (hM : SizeOk M) (hLM : L.natAbs ≤ M) (hL0 : 0 < L) (hL : ∀ c : Int, (∀ a ∈ ns, a ∣ c) ↔ L ∣ c) (hm : ∀ y, y ∈ ys ↔ ∃ x ∈ ns, (if x < 0 then -x else x) = y) (hk : k ∈ ys)
    (hp : (pre ++ i :: post).Perm (ys.erase k)) (h : LInv k pre l) : IntMulOk (Int.fdiv l (Int.gcd l i)) i := by
  have mem : ∀ a ∈ pre ++ i :: post, a ∈ ys := fun a ha => List.mem_of_mem_erase (hp.mem_iff.mp ha)
  have h1 := lInv_dvd hL0 hL hm hk (fun a ha => mem a (List.mem_append_left _ ha)) h
  have h2 : i ∣ L := (lcm_all hm L).mpr ((hL L).mpr (Int.dvd_refl L)) i (mem i (by simp))
  have b1 : l.natAbs ≤ L.natAbs := Nat.le_of_dvd (by omega) (Int.natAbs_dvd_natAbs.mpr h1)
  have b2 : i.natAbs ≤ L.natAbs := Nat.le_of_dvd (by omega) (Int.natAbs_dvd_natAbs.mpr h2)
  have b3 := @div_small l (Int.gcd l i)
  exact hM.mul (by omega) (by omega)
theorem pair_gcdG {l i : Int} (c : Int) : (∀ a ∈ [l, i], c ∣ a) ↔ c ∣ (Int.gcd l i : Int) := by
  rw [Int.dvd_coe_gcd_iff]
  simp
theorem lInv_gpos {k l i : Int} {pre : List Int} (h : LInv k pre l) : 0 < (Int.gcd l i : Int) := by
  have h1 := h.1
  have := Int.gcd_pos_of_ne_zero_left (a := l) i (by omega)
  omega
/-- as CtrG, with room for a call of such a def within; the state is given in parts -/
abbrev CtrH (prog p : Program) (K : Params → Frag) (f : Addr) (vs : List Value) (R : Tok → Value) : Prop :=
  ∀ (w : World) (loose : List PySem.Str) (mean : ExcName → Option Value) (mg mb : PySem.Str → Option Value)
    (dp un : Nat) (gd : Option (List Code)) (cn : PySem.Str) (cs : Scope) (a : Addr) (ccd : Value) (cl : List (PySem.Str × Addr)) (outer : List Env) (A₀ : Around) (base h₀ : Heap) (L : Addr) (m : PySem.Str → Option Value) (news : List (Addr × Obj)) (s : Shared) (la : Addr) (n : Nat)
    (Q E : Value → Shared → Prop),
    Below A₀ base outer h₀ → Fr h₀ L s.heap m → (K w.params).In h₀ → News h₀ L s.heap news → Top p loose mean mg mb h₀ → cs.kind = .function → dp + 220 < recursionLimit → un + 140 < cLine → (la, listOf vs.toArray n) ∈ news →
    (∀ t h' tk' d', Fr h₀ L h' m → News h₀ L h' news → Q (R t) ⟨h', s.gens, d', tk', s.os⟩) →
    wpAny (model prog w) (ktrTop dp un gd cn cs L a ccd cl outer) (call (.ref f) [.ref la]) Q E s
theorem CtrH.use {prog p : Program} {K : Params → Frag} {f : Addr} {vs : List Value} {R : Tok → Value} (C : CtrH prog p K f vs R)
    {w : World} {loose : List PySem.Str} {mean : ExcName → Option Value} {mg mb : PySem.Str → Option Value}
    {dp un : Nat} {gd : Option (List Code)} {cn : PySem.Str} {cs : Scope} {a : Addr} {ccd : Value} {cl : List (PySem.Str × Addr)} {outer : List Env} {A₀ : Around} {base h₀ : Heap} {L : Addr} {m : PySem.Str → Option Value} {news : List (Addr × Obj)} {s : Shared} {la : Addr} {n : Nat}
    {Q E : Value → Shared → Prop} (B : Below A₀ base outer h₀) (F : Fr h₀ L s.heap m) (X : (K w.params).In h₀) (N : News h₀ L s.heap news) (T : Top p loose mean mg mb h₀) (hk : cs.kind = .function) (hd : dp + 220 < recursionLimit) (hu : un + 140 < cLine) (hl : (la, listOf vs.toArray n) ∈ news)
    (ret : ∀ t h' tk' d', Fr h₀ L h' m → News h₀ L h' news → Q (R t) ⟨h', s.gens, d', tk', s.os⟩) :
    wpAny (model prog w) (ktrTop dp un gd cn cs L a ccd cl outer) (call (.ref f) [.ref la]) Q E s := C _ _ _ _ _ _ _ _ _ _ _ _ _ _ _ _ _ _ _ _ _ _ _ _ _ B F X N T hk hd hu hl ret
section
section
local macro_rules | `(tactic| k_room) => `(tactic| ktr_room)
local macro_rules | `(tactic| walk_at "compareOp Eq ref ref") => `(tactic| (
  k_here
  k_dflt (
    refine' eqEmpty_K ?u ?N ?S ?M ?D ?_
    (case u => ktr_units)
    (case N => k_asm)
    (case S => k_mem)
    (case M => assumption)
    (case D => k_mem)
    k_whole)
  rw [decide_eq_false (by assumption)]))
local macro_rules | `(tactic| walk_at "call builtin:min") => `(tactic| (
  k_here
  (with_reducible show wpAny _ _ (call (Value.builtin "min") [Value.ref _]) _ _ _)
  k_dflt (
    refine' min_K ?u ?F ?N ?S ?M ?e ?_
    (case u => with_unfolding_all rfl)
    (case F => k_asm)
    (case N => k_asm)
    (case S => k_mem)
    (case M => assumption)
    (case e => assumption)
    k_whole)
  intro k9 t9 h9 tk9 d9 hk9 hl9 F9 N9
  (try (have hp9 := hpos9 _ hk9))))
local macro_rules | `(tactic| walk_at "getMethod ref") => `(tactic| (
  k_here
  (with_reducible show wpAny _ _ (getMethod (Value.ref _) (PySem.Str.ofString "pop") _) _ _ _)
  k_dflt (
    refine' methPop_K ?N ?S ?M ?_
    (case N => k_asm)
    (case S => k_mem)
    (case M => assumption)
    k_whole)))
local macro_rules | `(tactic| walk_at "call builtin:set.pop") => `(tactic| (
  k_here
  k_dflt (
    refine' pop_K ?F ?N ?U ?M ?e ?_
    (case F => k_asm)
    (case N => k_asm)
    (case U => k_updF)
    (case M => assumption)
    (case e => assumption)
    k_whole)
  intro k9 t9 h9 o9 d9 hk9 F9 N9 hS9
  (try dsimp only at N9)))
local macro_rules | `(tactic| walk_at "exec Assign cons SetComp") => `(tactic| (refine StopW.on ?_))
local macro_rules | `(tactic| walk_at "exec For Name Name cons nil") => `(tactic| (refine StopW.on ?_))
local macro_rules | `(tactic| walk_at "call ref") => `(tactic| (
  k_here
  (with_reducible show wpAny _ _ (call (Value.ref 47 ) _) _ _ _)
  k_dflt (
    refine' CtrG.use (gcdu_c _ _ _ (.cons _ _ (.cons _ _ .nil)) ?h1 ?h2 pair_gcdG) ?k1 ?k2 ?k3 ?k4 ?k5 ?kK ?kd ?ku ?kl ?_
    walk_at "my_use"
    (case kl => first | k_mem | ktn_no "lcm_: list")
    (case h1 => (show 2 < 1900; decide))
    (case h2 => exact lInv_gpos (by assumption))
    k_whole)
  intro t9 h9 tk9 d9 F9 N9
  (try dsimp only)
  (try k_fold)))
local macro_rules | `(tactic| walk_at "binaryOp FloorDiv int int") => `(tactic| (k_dflt (refine' floordiv_int ?k1 ?_ ?k2; (case k1 => exact Int.ne_of_gt (lInv_gpos (by assumption))); (case k2 => walk_at "my_room"); k_whole)))
local macro_rules | `(tactic| walk_at "binaryOp Mult int int") => `(tactic| with_reducible refine mul_int ?_ (lcm_mul_ok (by assumption) (by assumption) (by assumption) (by assumption) (by assumption) (by assumption) (by assumption) (by assumption)))
theorem lcmu_c (M : Nat) (vs : List Value) (ns : List Int) (L₉ : Int) (hI : IntsAre vs ns) (hlen : ns.length < 1900) (hne : ns ≠ []) (h0 : ∀ a ∈ ns, a ≠ 0) (hM : SizeOk M) (hLM : L₉.natAbs ≤ M) (hL0 : 0 < L₉) (hL : ∀ c : Int, (∀ a ∈ ns, a ∣ c) ↔ L₉ ∣ c) : CtrH PySem.Challenge.rw_yz0001_03.row.prog hd.view_39 hd.heap_39 59 vs (fun t => .int L₉ t) := by
  have hd0 : PySem.Challenge.rw_yz0001_03 = PySem.Challenge.rw_yz0001_03 ∧ hd.heap_39 = hd.heap_39 := by k_fill; exact ⟨rfl, rfl⟩
  clear hd0
  k_with_none
  w_top off
  intro w loose mean mg mb dp un gd cn cs a ccd cl outer A₀ base h₀ L m news s la n Q E B F X N T hk hdp hun hla hret
  refine wpAny_call ?_
  k_dflt cell_enter
  k_steps
  refine StopW.off ?_
  rename Fr _ _ _ _ => F9
  rename News _ _ _ _ => N9
  refine' setcomp_list (xs := ns) (p := fun _ => true) (f := fun i => if i < 0 then -i else i) (vs := vs) (n := n) ?hh ?F ?N ?hS hI hlen ?hev ?hsw ?hclos ?hcell ?hkind ?hnames ?hx ?hy ?hp ?hs ?hq ?hQ
  (case hh => with_unfolding_all rfl)
  (case F => exact F9)
  (case N => exact N9)
  (case hS => exact hla)
  (case hsw => with_unfolding_all rfl)
  (case hclos => with_unfolding_all rfl)
  (case hcell => decide)
  (case hkind => with_unfolding_all rfl)
  (case hnames => decide)
  (case hx => with_unfolding_all rfl)
  (case hy => with_unfolding_all rfl)
  (case hp => with_unfolding_all rfl)
  (case hs => intro _; with_unfolding_all rfl)
  (case hev => intro Q9 h9; k_steps; exact h9)
  (case hq =>
    intro zs9 hz9
    refine ⟨?_, ?_⟩
    · intro C9 i9 t9 s9 m9 E9 hi9 hns9 hmx9 hkp9 hC9
      obtain ⟨h9, g9, d9, tk9, os9⟩ := s9
      dsimp only at hns9 hkp9 ⊢
      k_steps
      all_goals exact ⟨_, _, rfl, fun _ _ e => e⟩
    · intro C9 i9 t9 s9 m9 E9 hi9 hp9 hns9 hmx9 hkp9 hC9
      obtain ⟨h9, g9, d9, tk9, os9⟩ := s9
      dsimp only at hns9 hkp9 ⊢
      k_steps
      all_goals exact ⟨_, _, rfl, by assumption⟩)
  (case hQ =>
    intro D9 h9 tk9 d9 o9 ys9 hS9 hm9 hl9 F9 N9 l9
    replace l9 := allLt_of l9
    have hm9 : ∀ y, y ∈ ys9 ↔ ∃ x ∈ ns, (if x < 0 then -x else x) = y := by simpa using hm9
    have hne9 : ys9 ≠ [] := lcm_ne hne hm9
    have hpos9 : ∀ y ∈ ys9, 0 < y := fun y hy => lcm_pos_of (L := L₉) h0 hm9 hy
    dsimp only at F9 N9 ⊢
    k_steps
    · rename _ ∈ ys9 => hk8
      have hp8 := hpos9 _ hk8
      exfalso; omega
    · refine StopW.off ?_
      rename SetM _ _ (List.erase _ _) => hS8
      rename _ ∈ ys9 => hk8
      rename Fr _ _ _ _ => F8
      rename News _ _ _ _ => N8
      replace N8 := cb_drop N8 (fun p hp => List.Mem.tail _ hp)
      refine' for_setM (σ := Int × Tok) (fun c => [(PySem.Str.ofString "l", .int c.1 c.2)]) (fun pre c => LInv _ pre c.1) (_, _) ?hh ?he F8 N8 (.head _) hS8 ?hk (lInv_start (hpos9 _ hk8)) ?hx ?hp ?turn ?done ?hs
      (case hh => with_unfolding_all rfl)
      (case he => intro Q9 h9; k_steps; exact h9)
      (case hk => intro p hp; rw [List.mem_singleton] at hp; subst hp; rfl)
      (case hx => with_unfolding_all rfl)
      (case hp => with_unfolding_all rfl)
      (case hs => intro _; with_unfolding_all rfl)
      (case turn =>
        intro pre9 post9 i9 ti9 c9 u9 h9 tk9 d9 own9 hperm9 hP9 F9 N9
        obtain ⟨l9, tl9⟩ := c9
        dsimp only at hP9 F9 N9
        k_steps
        (show DEnd _ _ _ _ _ _ _)
        rename Fr _ _ _ _ => F8
        rename News _ _ _ _ => N8
        refine' d_end (_, ?tk8) F8 N8 (fun p hp => List.Mem.tail _ hp) ?hk8 (lInv_turn hP9 (hpos9 _ (List.mem_of_mem_erase (hperm9.mem_iff.mp (by simp)))))
        (case hk8 => intro p hp; rw [List.mem_singleton] at hp; subst hp; rfl))
      (case done =>
        intro zs9 c9 u9 h9 tk9 d9 hperm9 hP9 F9 N9
        obtain ⟨l9, tl9⟩ := c9
        dsimp only at hP9 F9 N9
        k_steps
        rename Fr h₀ _ _ _ => F8
        rename News h₀ _ _ _ => N8
        rw [lInv_end hL0 hL hm9 hk8 hperm9 hP9]
        exact hret _ _ _ _ F8 (cb_drop N8 (by kcj_all))))
end
end
/-- a call of the def at f with a list of the caller's ledger raises a ValueError; orders may be drawn -/
abbrev CtrR (prog p : Program) (K : Params → Frag) (f : Addr) (vs : List Value) : Prop :=
  ∀ (w : World) (loose : List PySem.Str) (mean : ExcName → Option Value) (mg mb : PySem.Str → Option Value)
    (dp un : Nat) (gd : Option (List Code)) (cn : PySem.Str) (cs : Scope) (a : Addr) (ccd : Value) (cl : List (PySem.Str × Addr)) (outer : List Env) (A₀ : Around) (base h₀ : Heap) (L : Addr) (m : PySem.Str → Option Value) (news : List (Addr × Obj)) (s : Shared) (la : Addr) (n : Nat)
    (Q E : Value → Shared → Prop),
    Below A₀ base outer h₀ → Fr h₀ L s.heap m → (K w.params).In h₀ → News h₀ L s.heap news → Top p loose mean mg mb h₀ → cs.kind = .function → dp + 220 < recursionLimit → un + 140 < cLine → (la, listOf vs.toArray n) ∈ news →
    (∀ e g h' tk' d', Fr h₀ L g m → RaisedN base (envX cn cs L a ccd cl :: outer) e (.type "ValueError") news h' → g.UpToSlots h' → E (.ref e) ⟨h', s.gens, d', tk', s.os⟩) →
    wpAny (model prog w) (ktrTop dp un gd cn cs L a ccd cl outer) (call (.ref f) [.ref la]) Q E s
theorem CtrR.use {prog p : Program} {K : Params → Frag} {f : Addr} {vs : List Value} (C : CtrR prog p K f vs)
    {w : World} {loose : List PySem.Str} {mean : ExcName → Option Value} {mg mb : PySem.Str → Option Value}
    {dp un : Nat} {gd : Option (List Code)} {cn : PySem.Str} {cs : Scope} {a : Addr} {ccd : Value} {cl : List (PySem.Str × Addr)} {outer : List Env} {A₀ : Around} {base h₀ : Heap} {L : Addr} {m : PySem.Str → Option Value} {news : List (Addr × Obj)} {s : Shared} {la : Addr} {n : Nat}
    {Q E : Value → Shared → Prop} (B : Below A₀ base outer h₀) (F : Fr h₀ L s.heap m) (X : (K w.params).In h₀) (N : News h₀ L s.heap news) (T : Top p loose mean mg mb h₀) (hk : cs.kind = .function) (hd : dp + 220 < recursionLimit) (hu : un + 140 < cLine) (hl : (la, listOf vs.toArray n) ∈ news)
    (ret : ∀ e g h' tk' d', Fr h₀ L g m → RaisedN base (envX cn cs L a ccd cl :: outer) e (.type "ValueError") news h' → g.UpToSlots h' → E (.ref e) ⟨h', s.gens, d', tk', s.os⟩) :
    wpAny (model prog w) (ktrTop dp un gd cn cs L a ccd cl outer) (call (.ref f) [.ref la]) Q E s := C _ _ _ _ _ _ _ _ _ _ _ _ _ _ _ _ _ _ _ _ _ _ _ _ _ B F X N T hk hd hu hl ret
theorem raisedN_less {base : Heap} {l : List Env} {e : Addr} {cls : Value} {news news' : List (Addr × Obj)} {h : Heap} (R : RaisedN base l e cls news h) (hs : ∀ p ∈ news', p ∈ news) : RaisedN base l e cls news' h := by
  obtain ⟨B, a0, h1, h2, h3⟩ := R
  exact ⟨B, a0, h1, fun q hq => h2 q (hs q hq), h3⟩
section
section
theorem lcmr_min {ns ys : List Int} {k : Int} (h0 : (0 : Int) ∈ ns) (hm : ∀ y, y ∈ ys ↔ ∃ x ∈ ns, (if x < 0 then -x else x) = y) (hk : k ∈ ys) (hl : ∀ y ∈ ys, k ≤ y) : k = 0 := by
  obtain ⟨x, hx, e⟩ := (hm k).mp hk
  have h1 := hl 0 ((hm 0).mpr ⟨0, h0, rfl⟩)
  split at e <;> omega
theorem lcmr_empty {ys : List Int} (hm : ∀ y, y ∈ ys ↔ ∃ x ∈ ([] : List Int), (if x < 0 then -x else x) = y) : ys = [] := by
  cases ys with
  | nil => rfl
  | cons a r => obtain ⟨x, hx, _⟩ := (hm a).mp (.head _); cases hx
local macro_rules | `(tactic| k_room) => `(tactic| ktr_room)
local macro_rules | `(tactic| walk_at "compareOp Eq ref ref") => `(tactic| (
  k_here
  k_dflt (
    refine' eqEmpty_K ?u ?N ?S ?M ?D ?_
    (case u => ktr_units)
    (case N => k_asm)
    (case S => k_mem)
    (case M => assumption)
    (case D => k_mem)
    k_whole)
  (first | rw [decide_eq_false (by assumption)] | rw [decide_eq_true (by assumption)])))
local macro_rules | `(tactic| walk_at "call builtin:min") => `(tactic| (
  k_here
  (with_reducible show wpAny _ _ (call (Value.builtin "min") [Value.ref _]) _ _ _)
  k_dflt (
    refine' min_K ?u ?F ?N ?S ?M ?e ?_
    (case u => with_unfolding_all rfl)
    (case F => k_asm)
    (case N => k_asm)
    (case S => k_mem)
    (case M => assumption)
    (case e => assumption)
    k_whole)
  intro k9 t9 h9 tk9 d9 hk9 hl9 F9 N9
  have e9 := lcmr_min (by assumption) (by assumption) hk9 hl9
  subst e9))
local macro_rules | `(tactic| walk_at "exec Assign cons SetComp") => `(tactic| (refine StopW.on ?_))
theorem lcmr_c (vs : List Value) (ns : List Int) (hI : IntsAre vs ns) (hlen : ns.length < 1900) (h0 : ns = [] ∨ (0 : Int) ∈ ns) : CtrR PySem.Challenge.rw_yz0001_03.row.prog hd.view_39 hd.heap_39 59 vs := by
  have hd0 : PySem.Challenge.rw_yz0001_03 = PySem.Challenge.rw_yz0001_03 ∧ hd.heap_39 = hd.heap_39 := by k_fill; exact ⟨rfl, rfl⟩
  clear hd0
  k_with_none
  w_top off
  intro w loose mean mg mb dp un gd cn cs a ccd cl outer A₀ base h₀ L m news s la n Q E B F X N T hk hdp hun hla hret
  refine wpAny_call ?_
  k_dflt cell_enter
  k_steps
  refine StopW.off ?_
  rename Fr _ _ _ _ => F9
  rename News _ _ _ _ => N9
  refine' setcomp_list (xs := ns) (p := fun _ => true) (f := fun i => if i < 0 then -i else i) (vs := vs) (n := n) ?hh ?F ?N ?hS hI hlen ?hev ?hsw ?hclos ?hcell ?hkind ?hnames ?hx ?hy ?hp ?hs ?hq ?hQ
  (case hh => with_unfolding_all rfl)
  (case F => exact F9)
  (case N => exact N9)
  (case hS => exact hla)
  (case hsw => with_unfolding_all rfl)
  (case hclos => with_unfolding_all rfl)
  (case hcell => decide)
  (case hkind => with_unfolding_all rfl)
  (case hnames => decide)
  (case hx => with_unfolding_all rfl)
  (case hy => with_unfolding_all rfl)
  (case hp => with_unfolding_all rfl)
  (case hs => intro _; with_unfolding_all rfl)
  (case hev => intro Q9 h9; k_steps; exact h9)
  (case hq =>
    intro zs9 hz9
    refine ⟨?_, ?_⟩
    · intro C9 i9 t9 s9 m9 E9 hi9 hns9 hmx9 hkp9 hC9
      obtain ⟨h9, g9, d9, tk9, os9⟩ := s9
      dsimp only at hns9 hkp9 ⊢
      k_steps
      all_goals exact ⟨_, _, rfl, fun _ _ e => e⟩
    · intro C9 i9 t9 s9 m9 E9 hi9 hp9 hns9 hmx9 hkp9 hC9
      obtain ⟨h9, g9, d9, tk9, os9⟩ := s9
      dsimp only at hns9 hkp9 ⊢
      k_steps
      all_goals exact ⟨_, _, rfl, by assumption⟩)
  (case hQ =>
    intro D9 h9 tk9 d9 o9 ys9 hS9 hm9 hl9 F9 N9 l9
    replace l9 := allLt_of l9
    have hm9 : ∀ y, y ∈ ys9 ↔ ∃ x ∈ ns, (if x < 0 then -x else x) = y := by simpa using hm9
    dsimp only at F9 N9 ⊢
    rcases h0 with h0 | h0
    · subst h0
      have he9 : ys9 = [] := lcmr_empty hm9
      k_steps
      rename RaisedN _ _ _ _ _ _ => R8
      exact hret _ _ _ _ _ (by assumption) (raisedN_less R8 (by kcj_all)) (by assumption)
    · have hne9 : ys9 ≠ [] := fun e => by
        have := (hm9 0).mpr ⟨0, h0, rfl⟩
        rw [e] at this; cases this
      k_steps
      rename RaisedN _ _ _ _ _ _ => R8
      exact hret _ _ _ _ _ (by assumption) (raisedN_less R8 (by kcj_all)) (by assumption))
end
end
/-- the sum of the products -/
def dot : List Int → List Int → Int
  | a :: as, b :: bs => a * b + dot as bs
  | _, _ => 0
/-- the first k multiplied -/
def mulTo (u : Int) (k : Nat) (cs : List Int) : List Int := (cs.take k).map (· * u) ++ cs.drop k
/-- what stands between the turns of gcd_of_list -/
def GolInv (B : Nat) (pre : List Int) (g : Int) (cs : List Int) : Prop :=
  0 ≤ g ∧ (∀ c : Int, (∀ q ∈ pre, c ∣ q) ↔ c ∣ g) ∧ cs.length = pre.length ∧ dot cs pre = g ∧ (∀ c ∈ cs, c.natAbs ≤ B ^ pre.length) ∧ g.natAbs + 1 ≤ B
/-- what gcd_of_list gives -/
def GolOk (B : Nat) (qs : List Int) (g : Int) (cs : List Int) : Prop :=
  0 ≤ g ∧ (∀ c : Int, (∀ q ∈ qs, c ∣ q) ↔ c ∣ g) ∧ cs.length = qs.length ∧ dot cs qs = g ∧ ∀ c ∈ cs, c.natAbs ≤ B ^ qs.length
theorem dot_append {cs ds qs rs : List Int} (h : cs.length = qs.length) : dot (cs ++ ds) (qs ++ rs) = dot cs qs + dot ds rs := by
  induction cs generalizing qs with
  | nil => cases qs with
    | nil => simp [dot]
    | cons => simp at h
  | cons a as ih => cases qs with
    | nil => simp at h
    | cons b bs =>
      simp only [List.cons_append, dot]
      rw [ih (by simpa using h)]; omega
theorem dot_mul {cs qs : List Int} {u : Int} : dot (cs.map (· * u)) qs = u * dot cs qs := by
  induction cs generalizing qs with
  | nil => simp [dot]
  | cons a as ih => cases qs with
    | nil => simp [dot]
    | cons b bs =>
      simp only [List.map_cons, dot]
      rw [ih, Int.mul_add, Int.mul_right_comm, Int.mul_comm _ u]
theorem dot_zero {n : Nat} {qs : List Int} : dot (List.replicate n 0) qs = 0 := by
  induction n generalizing qs with
  | zero => simp [dot]
  | succ n ih => cases qs with
    | nil => simp [List.replicate_succ, dot]
    | cons b bs => simp [List.replicate_succ, dot, ih]
theorem mulTo_zero (u : Int) (cs : List Int) : mulTo u 0 cs = cs := by simp [mulTo]
theorem mulTo_all (u : Int) {k : Nat} {cs : List Int} (h : cs.length ≤ k) : mulTo u k cs = cs.map (· * u) := by
  simp [mulTo, List.take_of_length_le h, List.drop_of_length_le h]
theorem mulTo_len (u : Int) (k : Nat) (cs : List Int) : (mulTo u k cs).length = cs.length := by
  simp [mulTo]; omega
theorem mulTo_get (u : Int) {k : Nat} {cs : List Int} (h : k < cs.length) : (mulTo u k cs).getD k 0 = cs.getD k 0 := by
  have hl : ((cs.take k).map (· * u)).length = k := by simp; omega
  simp only [List.getD_eq_getElem?_getD]
  unfold mulTo
  rw [List.getElem?_append_right (by omega), hl]
  simp
theorem mulTo_set (u : Int) {k : Nat} {cs : List Int} (h : k < cs.length) : (mulTo u k cs).set k (cs.getD k 0 * u) = mulTo u (k + 1) cs := by
  have hl : ((cs.take k).map (· * u)).length = k := by simp; omega
  unfold mulTo
  rw [List.set_append_right _ _ (by omega), hl, Nat.sub_self]
  have e : cs.drop k = cs[k] :: cs.drop (k + 1) := List.drop_eq_getElem_cons h
  have e2 : cs.getD k 0 = cs[k] := by simp [List.getD_eq_getElem?_getD, h]
  rw [e, List.set_cons_zero, List.take_add_one, List.getElem?_eq_getElem h, e2, List.map_append, List.append_assoc]
  rfl
theorem gol_start {B : Nat} (hB : 1 ≤ B) : GolInv B [] 0 [] := by
  refine ⟨by omega, fun c => by simp, rfl, rfl, by simp, by simpa using hB⟩
theorem pow_le1 {B n : Nat} (hB : 1 ≤ B) : 1 ≤ B ^ n := Nat.one_le_pow _ _ (by omega)
theorem gol_turn {B : Nat} {pre : List Int} {g q u v d : Int} {cs : List Int} (h : GolInv B pre g cs) (hE : ExtSpec g q u v d) (hq : q.natAbs + 1 ≤ B) :
    GolInv B (pre ++ [q]) d (cs.map (· * u) ++ [v]) := by
  obtain ⟨h1, h2, h3, h4, h5, h6⟩ := h
  obtain ⟨e1, e2, e3, e4, e5, e6, e7⟩ := hE
  have hB : 1 ≤ B := by omega
  have hu : u.natAbs ≤ B := by omega
  refine ⟨by omega, fun c => ?_, by simp [h3], ?_, fun c hc => ?_, ?_⟩
  · rw [e2, Int.dvd_coe_gcd_iff, ← h2 c]
    constructor
    · intro b
      exact ⟨fun x hx => b x (List.mem_append_left _ hx), b q (by simp)⟩
    · rintro ⟨b, d⟩ x hx
      rcases List.mem_append.mp hx with hx | hx
      · exact b x hx
      · rw [List.mem_singleton] at hx; subst hx; exact d
  · rw [dot_append (by simpa using h3), dot_mul, h4]
    simpa [dot] using e1
  · rw [List.length_append, List.length_singleton, Nat.pow_succ]
    rcases List.mem_append.mp hc with hc | hc
    · obtain ⟨x, hx, rfl⟩ := List.mem_map.mp hc
      rw [Int.natAbs_mul]
      exact Nat.mul_le_mul (h5 x hx) hu
    · rw [List.mem_singleton] at hc; subst hc
      have := @pow_le1 B pre.length hB
      exact Nat.le_trans (Nat.le_trans e7 h6) (Nat.le_mul_of_pos_left _ this)
  · by_cases hg : q = 0
    · subst hg
      have : Int.gcd g 0 = g.natAbs := Int.gcd_zero_right ..
      omega
    · have : Int.gcd g q ≤ q.natAbs := Nat.le_of_dvd (Int.natAbs_pos.mpr hg) (Int.natAbs_dvd_natAbs.mpr (Int.gcd_dvd_right g q))
      omega
theorem gol_end {B : Nat} {qs : List Int} {g : Int} {cs : List Int} (h : GolInv B qs g cs) : GolOk B qs g cs := ⟨h.1, h.2.1, h.2.2.1, h.2.2.2.1, h.2.2.2.2.1⟩
theorem gol_break {B : Nat} {pre post : List Int} {g : Int} {cs : List Int} {n : Nat} (hB : 1 ≤ B) (h : GolInv B pre g cs) (hg : g = 1) (hn : n = post.length) : GolOk B (pre ++ post) g (cs ++ List.replicate n 0) := by
  obtain ⟨h1, h2, h3, h4, h5, h6⟩ := h
  refine ⟨h1, fun c => ⟨fun b => (h2 c).mp fun q hq => b q (List.mem_append_left _ hq), fun b q _ => ?_⟩, by simp [h3, hn], ?_, fun c hc => ?_⟩
  · subst hg; exact Int.dvd_trans b (Int.one_dvd q)
  · rw [dot_append h3, dot_zero, h4]; omega
  · rcases List.mem_append.mp hc with hc | hc
    · exact Nat.le_trans (h5 c hc) (Nat.pow_le_pow_right hB (by simp))
    · have := List.eq_of_mem_replicate hc
      subst this; exact Nat.zero_le _
theorem gol_size {B M n : Nat} {pre ns : List Int} {g q : Int} {cs : List Int} (h : GolInv B pre g cs) (hB : ∀ q ∈ ns, q.natAbs + 1 ≤ B) (hq : q ∈ ns) (hBM : 2 * B ^ (n + 1) ≤ M) : g.natAbs + q.natAbs + 1 ≤ M := by
  have h1 := h.2.2.2.2.2
  have h2 := hB q hq
  have h3 : B ≤ B ^ (n + 1) := by
    rw [Nat.pow_succ]; exact Nat.le_mul_of_pos_left _ (pow_le1 (by omega))
  omega
theorem gol_turn1 {B : Nat} {pre : List Int} {g q u v d : Int} {cs : List Int} (h : GolInv B pre g cs) (hE : ExtSpec g q u v d) (hq : q.natAbs + 1 ≤ B) (hu : u = 1) :
    GolInv B (pre ++ [q]) d (cs ++ [v]) := by
  have := gol_turn h hE hq
  subst hu
  have e : cs.map (· * (1 : Int)) = cs := by simp
  rwa [e] at this
theorem gol_turn2 {B k : Nat} {pre : List Int} {g q u v d : Int} {cs c1 : List Int} (h : GolInv B pre g cs) (hE : ExtSpec g q u v d) (hq : q.natAbs + 1 ≤ B) (hc : c1 = mulTo u k cs) (hk : pre.length ≤ k) :
    GolInv B (pre ++ [q]) d (c1 ++ [v]) := by
  have := gol_turn h hE hq
  rw [hc, mulTo_all u (by rw [h.2.2.1]; exact hk)]
  exact this
theorem mul_turn {u kN : Int} {pre cs c0 : List Int} (e : cs = mulTo u pre.length c0) (hk : kN = 0 + (pre.length : Int)) (hlt : pre.length < c0.length) :
    cs.set kN.toNat (cs.getD kN.toNat 0 * u) = mulTo u (pre ++ [kN]).length c0 ∧ (cs.set kN.toNat (cs.getD kN.toNat 0 * u)).length = c0.length := by
  have e2 : kN.toNat = pre.length := by omega
  rw [e2, e, mulTo_get u hlt, mulTo_set u hlt, List.length_append, List.length_singleton, mulTo_len]
  exact ⟨rfl, rfl⟩
theorem gol_mul {B M k : Nat} {pre ns : List Int} {g q u v d kN : Int} {cs c0 : List Int} (h : GolInv B pre g c0) (hE : ExtSpec g q u v d) (hB : ∀ q ∈ ns, q.natAbs + 1 ≤ B) (hq : q ∈ ns) (hM : SizeOk M) (hBM : 2 * B ^ (ns.length + 1) ≤ M)
    (e : cs = mulTo u k c0) (hk : kN.toNat = k) (hlt : k < c0.length) (hpl : pre.length ≤ ns.length) : IntMulOk (cs.getD kN.toNat 0) u := by
  have h1 := hB q hq
  have h2 := hE.2.2.2.2.2.1
  have h3 : B ≤ B ^ (ns.length + 1) := by
    rw [Nat.pow_succ]; exact Nat.le_mul_of_pos_left _ (pow_le1 (by omega))
  have h4 : B ^ pre.length ≤ B ^ (ns.length + 1) := Nat.pow_le_pow_right (by omega) (by omega)
  rw [hk, e, mulTo_get u hlt]
  have h5 : c0.getD k 0 ∈ c0 := by
    rw [List.getD_eq_getElem?_getD, List.getElem?_eq_getElem hlt]; exact List.getElem_mem hlt
  have h6 := h.2.2.2.2.1 _ h5
  exact hM.mul (by omega) (by omega)
theorem flat_rep (n : Nat) : (List.replicate n [(0 : Int)]).flatten = List.replicate n 0 := by
  induction n with
  | zero => rfl
  | succ n ih => rw [List.replicate_succ, List.flatten_cons, ih, List.replicate_succ]; rfl
theorem gol_break' {B n : Nat} {pre post ns : List Int} {g q : Int} {cs : List Int} (hB : 1 ≤ B) (hns : ns = pre ++ q :: post) (h : GolInv B (pre ++ [q]) g cs) (hg : g = 1) (hn : n = post.length) : GolOk B ns g (cs ++ (List.replicate n [(0 : Int)]).flatten) := by
  have e : ns = (pre ++ [q]) ++ post := by rw [hns, List.append_assoc]; rfl
  rw [e, flat_rep]
  exact gol_break hB h hg hn
/-- a call of gcd_of_list: two new objects, the list of the coefficients and the pair -/
abbrev CtrGL (prog p : Program) (K : Params → Frag) (f : Addr) (vs : List Value) (P : Int → List Int → Prop) : Prop :=
  ∀ (w : World) (loose : List PySem.Str) (mean : ExcName → Option Value) (mg mb : PySem.Str → Option Value)
    (dp un : Nat) (gd : Option (List Code)) (cn : PySem.Str) (cs : Scope) (a : Addr) (ccd : Value) (cl : List (PySem.Str × Addr)) (outer : List Env) (A₀ : Around) (base h₀ : Heap) (L : Addr) (m : PySem.Str → Option Value) (news : List (Addr × Obj)) (s : Shared) (la : Addr) (n : Nat)
    (Q E : Value → Shared → Prop),
    Below A₀ base outer h₀ → Fr h₀ L s.heap m → (K w.params).In h₀ → News h₀ L s.heap news → Top p loose mean mg mb h₀ → cs.kind = .function → dp + 210 < recursionLimit → un + 100 < cLine → (la, listOf vs.toArray n) ∈ news →
    (∀ (C D : Addr) (h' : Heap) (tk' : Nat) (g : Int) (t : Tok) (cvs : List Value) (c : List Int) (n1 n2 : Nat), Fr h₀ L h' m → News h₀ L h' ((D, listOf #[.int g t, .ref C] n1) :: (C, listOf cvs.toArray n2) :: news) → @LT.lt Nat _ C D → (∀ p ∈ news, p.1 < C) → IntsAre cvs c → P g c → Q (.ref D) { s with heap := h', toks := tk' }) →
    wpAny (model prog w) (ktrTop dp un gd cn cs L a ccd cl outer) (call (.ref f) [.ref la]) Q E s
theorem CtrGL.use {prog p : Program} {K : Params → Frag} {f : Addr} {vs : List Value} {P : Int → List Int → Prop} (C : CtrGL prog p K f vs P)
    {w : World} {loose : List PySem.Str} {mean : ExcName → Option Value} {mg mb : PySem.Str → Option Value}
    {dp un : Nat} {gd : Option (List Code)} {cn : PySem.Str} {cs : Scope} {a : Addr} {ccd : Value} {cl : List (PySem.Str × Addr)} {outer : List Env} {A₀ : Around} {base h₀ : Heap} {L : Addr} {m : PySem.Str → Option Value} {news : List (Addr × Obj)} {s : Shared} {la : Addr} {n : Nat}
    {Q E : Value → Shared → Prop} (B : Below A₀ base outer h₀) (F : Fr h₀ L s.heap m) (X : (K w.params).In h₀) (N : News h₀ L s.heap news) (T : Top p loose mean mg mb h₀) (hk : cs.kind = .function) (hd : dp + 210 < recursionLimit) (hu : un + 100 < cLine) (hl : (la, listOf vs.toArray n) ∈ news)
    (ret : ∀ (C D : Addr) (h' : Heap) (tk' : Nat) (g : Int) (t : Tok) (cvs : List Value) (c : List Int) (n1 n2 : Nat), Fr h₀ L h' m → News h₀ L h' ((D, listOf #[.int g t, .ref C] n1) :: (C, listOf cvs.toArray n2) :: news) → @LT.lt Nat _ C D → (∀ p ∈ news, p.1 < C) → IntsAre cvs c → P g c → Q (.ref D) { s with heap := h', toks := tk' }) :
    wpAny (model prog w) (ktrTop dp un gd cn cs L a ccd cl outer) (call (.ref f) [.ref la]) Q E s := C _ _ _ _ _ _ _ _ _ _ _ _ _ _ _ _ _ _ _ _ _ _ _ _ _ B F X N T hk hd hu hl ret
theorem news_show {h₀ h : Heap} {L : Addr} {news : List (Addr × Obj)} {q : Addr × Obj} (N : News h₀ L h news) (hq : q ∈ news) : News h₀ L h (q :: news) := fun p hp => by
  rcases List.mem_cons.mp hp with rfl | hp
  · exact N _ hq
  · exact N p hp
theorem upd_of {D : Addr} {o : Obj} {news : List (Addr × Obj)} {g : Obj → List (Addr × Obj)} (U : UpdF D o news g) (o' : Obj) : Upd D o o' news (g o') := by
  induction U with
  | head h => exact .head h
  | tail h _ ih => exact .tail h ih
theorem extend_K {prog : Program} {w : World} {A : Around} {E : Value → Shared → Prop} {s : Shared} {h₀ : Heap} {L D b : Addr} {m : PySem.Str → Option Value} {news : List (Addr × Obj)} {g : Obj → List (Addr × Obj)} {its its2 : Array Value} {n n2 : Nat} {Q : Value → Shared → Prop}
    (F : Fr h₀ L s.heap m) (N : News h₀ L s.heap news) (hb : (b, listOf its2 n2) ∈ news) (U : UpdF D (listOf its n) news g) (hz : its.size + its2.size ≤ 1000)
    (h : ∀ h' n', Fr h₀ L h' m → News h₀ L h' (g (listOf (its.toList ++ its2.toList).toArray n')) → Q .none { s with heap := h' }) : wpAny (model prog w) A (call (.builtin "list.extend") [.ref D, .ref b]) Q E s := by
  have hs : sizeLine = 16777216 := sizeLine_eq
  have hd : ¬(!its.isEmpty && Builtin.List.listTooLong (its.size + its2.size)) = true := by
    have : Builtin.List.listTooLong (its.size + its2.size) = false := by
      unfold Builtin.List.listTooLong
      exact decide_eq_false (by omega)
    rw [this]; simp
  by_cases e0 : its2.toList = []
  · refine kxn_extend F N hb e0 (upd_of U _) hd (by rw [Array.length_toList]; omega) (by omega) fun h' F' N' => h h' n F' ?_
    rw [e0, List.append_nil]
    exact N'
  · exact kl_extend F N hb rfl (by simpa using e0) (upd_of U _) hd (by rw [Array.length_toList]; omega) (by omega) fun h' F' N' => h h' (n + 1) F' N'
theorem ints_push {vs : List Value} {cs : List Int} {v : Int} {t : Tok} (h : IntsAre vs cs) : IntsAre (vs.toArray.push (.int v t)).toList (cs ++ [v]) := by
  have e : (vs.toArray.push (Value.int v t)).toList = vs ++ [.int v t] := by simp
  rw [e]
  exact h.append (.cons _ _ .nil)
section
section
local macro_rules | `(tactic| walk_at "call ref") => `(tactic| (
  k_here
  (with_reducible show wpAny _ _ (call (Value.ref 28 ) _) _ _ _)
  k_dflt (
    refine' CtrT.use (ext_c _ _ _ _ _ ?h1 ?h2) ?k1 ?k2 ?k3 ?k4 ?k5 ?kK ?kd ?ku ?_
    (case h1 => assumption)
    (case h2 => first | exact gol_size (by assumption) (by assumption) (by assumption) (by assumption) | ktn_no "gol: size")
    walk_at "my_use"
    k_whole)
  intro D9 h9 tk9 u9 v9 d9 t1 t2 t3 F9 N9 l9 hE9
  (try k_lt l9)
  (try dsimp only)
  (try k_fold)))
local macro_rules | `(tactic| walk_at "inplaceOp Mult int int") => `(tactic| with_reducible refine imul_int ?_ (gol_mul (by assumption) (by assumption) (by assumption) (by assumption) (by assumption) (by assumption) (by assumption) (by omega) (by omega) (by omega)))
local macro_rules | `(tactic| walk_at "call builtin:list.extend") => `(tactic| (
  k_here
  (with_reducible show wpAny _ _ (call (Value.builtin _) [Value.ref _, Value.ref _]) _ _ _)
  k_dflt (
    refine' extend_K ?F ?N ?b ?U ?z ?_
    (case F => k_asm)
    (case N => k_asm)
    (case b => k_mem)
    (case U => k_updF)
    (case z => (rw [Array.size_push, List.size_toArray]; omega))
    k_whole)
  intro h9 n9 F9 N9
  (try dsimp only at N9)))
theorem gol_c (M Bq : Nat) (vs : List Value) (ns : List Int) (hI : IntsAre vs ns) (hlen : ns.length ≤ 100) (hM : SizeOk M) (hB : ∀ q ∈ ns, q.natAbs + 1 ≤ Bq) (hB1 : 1 ≤ Bq) (hBM : 2 * Bq ^ (ns.length + 1) ≤ M) : CtrGL PySem.Challenge.rw_yz0001_03.row.prog hd.view_39 hd.heap_39 42 vs (GolOk Bq ns) := by
  have hd0 : PySem.Challenge.rw_yz0001_03 = PySem.Challenge.rw_yz0001_03 ∧ hd.heap_39 = hd.heap_39 := by k_fill; exact ⟨rfl, rfl⟩
  clear hd0
  k_with_none
  w_top off
  k_with "pyIter ref" => (k_of "integer" => k_state (fun pre g cs n => GolInv Bq pre g cs ∧ n = (pre.length : Int) ∧ cs.length = pre.length) "the_gcd" "coeffs" "coeffs_length")
  k_with "pyIter ref" => (k_of "i" => k_state_given ["multiplier", "coeffs!"] (fun u c0 pre cs => cs = mulTo u pre.length c0 ∧ cs.length = c0.length) "coeffs")
  k_with "state" => first
    | exact ⟨gol_start hB1, by simp, rfl⟩
    | exact ⟨(mulTo_zero _ _).symm, rfl⟩
    | exact mul_turn (by assumption) (by assumption) (by omega)
    | exact ⟨gol_turn2 (by assumption) (by assumption) (hB _ (by assumption)) (by assumption) (by rw [rangeKs_length]; omega), by simp <;> omega, by simp <;> omega⟩
    | exact ⟨gol_turn1 (by assumption) (by assumption) (hB _ (by assumption)) (by assumption), by simp <;> omega, by simp <;> omega⟩
  intro w loose mean mg mb dp un gd cn cs a ccd cl outer A₀ base h₀ L m news s la n Q E B F X N T hk hdp hun hla hret
  replace N := news_show N hla
  refine wpAny_call ?_
  k_dflt cell_enter
  k_steps
  all_goals (rename _ ∧ AllLt _ news => hC9)
  all_goals (rename Fr h₀ _ _ _ => F8)
  all_goals (rename News _ _ _ (_ :: _) => N8)
  · refine hret _ _ _ _ _ _ _ _ _ _ F8 (cb_drop N8 (by kcj_all)) (by omega) (ktn_ltOf hC9.2) (IntsAre.append (ints_push (by assumption)) (by assumption)) ?_
    exact gol_break' hB1 (by assumption) (gol_turn2 (by assumption) (by assumption) (hB _ (by assumption)) (by assumption) (by rw [rangeKs_length]; omega)) (by assumption) (by omega)
  · refine hret _ _ _ _ _ _ _ _ _ _ F8 (cb_drop N8 (by kcj_all)) (by omega) (ktn_ltOf hC9.2) (IntsAre.append (ints_push (by assumption)) (by assumption)) ?_
    exact gol_break' hB1 (by assumption) (gol_turn1 (by assumption) (by assumption) (hB _ (by assumption)) (by assumption)) (by assumption) (by omega)
  · refine hret _ _ _ _ _ _ _ _ _ _ F8 (cb_drop N8 (by kcj_all)) (by omega) (ktn_ltOf hC9.2) (by assumption) ?_
    exact gol_end (by assumption)
end
end
/-- the law's own number: the script's k-th, cut to sixty figures with its sign kept, or one of its own -/
def atF (ns : List Int) (k : Int) : Int :=
  if k < ns.length then (if ns.getD k.toNat 0 < 0 then -((-(ns.getD k.toNat 0)) % 10 ^ 60) else ns.getD k.toNat 0 % 10 ^ 60) else (k * k * 29 + 17 * k + 3) % 83 - 31
theorem pow60 : (10 : Int) ^ Int.toNat 60 = 10 ^ 60 := rfl
theorem atF_1 {ns : List Int} {k : Int} (h : k < ns.length) (h2 : ns.getD k.toNat 0 < 0) : -(-ns.getD k.toNat 0).fmod (10 ^ Int.toNat 60) = atF ns k := by
  unfold atF
  rw [if_pos h, if_pos h2, pow60, Int.fmod_eq_emod_of_nonneg _ (by decide)]
theorem atF_2 {ns : List Int} {k : Int} (h : k < ns.length) (h2 : ¬ ns.getD k.toNat 0 < 0) : (ns.getD k.toNat 0).fmod (10 ^ Int.toNat 60) = atF ns k := by
  unfold atF
  rw [if_pos h, if_neg h2, pow60, Int.fmod_eq_emod_of_nonneg _ (by decide)]
theorem atF_3 {ns : List Int} {k : Int} (h : ¬ k < ns.length) : (k * k * 29 + 17 * k + 3).fmod 83 - 31 = atF ns k := by
  unfold atF
  rw [if_neg h, Int.fmod_eq_emod_of_nonneg _ (by decide)]
theorem atF_small (ns : List Int) (k : Int) : (atF ns k).natAbs < 10 ^ 60 := by
  have e : (10 : Int) ^ 60 = ((10 ^ 60 : Nat) : Int) := by decide
  have e' : (10 : Nat) ^ 60 = 1000000000000000000000000000000000000000000000000000000000000 := by decide
  unfold atF
  rw [e]
  generalize hN : (10 : Nat) ^ 60 = N at *
  have hN0 : (0 : Int) < N := by omega
  split
  · split
    · have h1 := Int.emod_nonneg (-(ns.getD k.toNat 0)) (Int.ne_of_gt hN0)
      have h2 := Int.emod_lt_of_pos (-(ns.getD k.toNat 0)) hN0
      omega
    · have h1 := Int.emod_nonneg (ns.getD k.toNat 0) (Int.ne_of_gt hN0)
      have h2 := Int.emod_lt_of_pos (ns.getD k.toNat 0) hN0
      omega
  · omega
/-- more than sixty figures hold -/
def Bb : Nat := 10 ^ 60 + 1
def PInv (g : Int) (n : Nat) (p q s t : Int) : Prop :=
  s * p + t * q = g ∧ g ∣ p ∧ g ∣ q ∧ p.natAbs ≤ Bb ^ (n + 1) ∧ q.natAbs ≤ Bb ^ (n + 1) ∧ s.natAbs ≤ Bb ^ (n + 1) ∧ t.natAbs ≤ Bb ^ (n + 1)
theorem Bb_one (n : Nat) : 1 ≤ Bb ^ n := Nat.one_le_pow _ _ (by decide)
theorem Bb_mono {a b : Nat} (h : a ≤ b) : Bb ^ a ≤ Bb ^ b := Nat.pow_le_pow_right (by decide) h
theorem pInv_start {g : Int} (h : g.natAbs < 10 ^ 60) : PInv g 0 g 0 1 0 := by
  have e : Bb ^ (0 + 1) = 10 ^ 60 + 1 := by simp [Bb]
  refine ⟨by simp, Int.dvd_refl _, Int.dvd_zero _, ?_, ?_, ?_, ?_⟩ <;> rw [e] <;> generalize (10 : Nat) ^ 60 = N at * <;> omega
theorem abs_step {z p q : Int} {n : Nat} (hz : z.natAbs < 10 ^ 60) (hp : p.natAbs ≤ Bb ^ n) (hq : q.natAbs ≤ Bb ^ n) : (z * p + q).natAbs ≤ Bb ^ (n + 1) ∧ (q - z * p).natAbs ≤ Bb ^ (n + 1) := by
  have h1 : (z * p).natAbs ≤ 10 ^ 60 * Bb ^ n := by
    rw [Int.natAbs_mul]; exact Nat.mul_le_mul (Nat.le_of_lt hz) hp
  have e : Bb ^ (n + 1) = 10 ^ 60 * Bb ^ n + Bb ^ n := by
    rw [Nat.pow_succ, Nat.mul_comm, Bb, Nat.add_mul, Nat.one_mul]
  rw [e]
  generalize 10 ^ 60 * Bb ^ n = X at *
  omega
theorem pInv_turn {g : Int} {n : Nat} {p q s t z : Int} (h : PInv g n p q s t) (hz : z.natAbs < 10 ^ 60) : PInv g (n + 1) (z * p + q) p t (s - z * t) := by
  obtain ⟨h1, h2, h3, h4, h5, h6, h7⟩ := h
  have m := Bb_mono (show n + 1 ≤ n + 1 + 1 by omega)
  refine ⟨by grind, Int.dvd_add (Int.dvd_mul_of_dvd_right h2) h3, h2, (abs_step hz h4 h5).1, by omega, by omega, (abs_step hz h7 h6).2⟩
/-- the law's line for sizes -/
def M1 : Nat := Bb ^ 80
def PairOk (p q s t g : Int) : Prop := s * p + t * q = g ∧ g ∣ p ∧ g ∣ q ∧ p.natAbs ≤ Bb ^ 70 ∧ q.natAbs ≤ Bb ^ 70 ∧ s.natAbs ≤ Bb ^ 70 ∧ t.natAbs ≤ Bb ^ 70
theorem pInv_end {g : Int} {n : Nat} {p q s t : Int} (h : PInv g n p q s t) (hn : n ≤ 65) : PairOk p q s t g := by
  obtain ⟨h1, h2, h3, h4, h5, h6, h7⟩ := h
  have m := Bb_mono (show n + 1 ≤ 70 by omega)
  exact ⟨h1, h2, h3, by omega, by omega, by omega, by omega⟩
theorem pInv_turn' {ns : List Int} {g : Int} {pre : List Int} {p q s t k : Int} (h : PInv g pre.length p q s t) : PInv g (pre ++ [k]).length (atF ns k * p + q) p t (s - atF ns k * t) := by
  rw [List.length_append]
  exact pInv_turn h (atF_small ns k)
theorem pre_small {n len : Nat} (h : n < ((if (5 : Int) > len then 5 else (len : Int)) - 1).toNat) (hl : len ≤ 63) : n ≤ 65 := by
  split at h <;> omega
theorem pInv_start' (ns : List Int) (k : Int) : PInv (atF ns k) ([] : List Int).length (atF ns k) 0 1 0 := pInv_start (atF_small ns k)
/-- what stands between the turns of the law: the number put together, the modulus, the numbers kept -/
def KInv (hid : Int) (n : Nat) (found m : Int) (kept : List Int) : Prop :=
  0 < m ∧ found = Int.fmod hid m ∧ (∀ c : Int, (∀ a ∈ kept, a ∣ c) ↔ m ∣ c) ∧ (∀ a ∈ kept, a ≠ 0) ∧ kept ≠ [] ∧ m.natAbs ≤ Bb ^ (n + 1)
theorem kInv_start (hid : Int) : KInv hid ([] : List Int).length 0 1 [1] := by
  refine ⟨by omega, ?_, fun c => by simp, by simp, by simp, ?_⟩
  · simp
  · exact Nat.le_trans (by decide) (Bb_one _)
theorem kInv_skip {hid : Int} {pre : List Int} {found m k : Int} {kept : List Int} (h : KInv hid pre.length found m kept) : KInv hid (pre ++ [k]).length found m kept := by
  obtain ⟨h1, h2, h3, h4, h5, h6⟩ := h
  refine ⟨h1, h2, h3, h4, h5, Nat.le_trans h6 (Bb_mono ?_)⟩
  rw [List.length_append]; simp
theorem fmod_of_dvd_sub {a b m : Int} (h : m ∣ a - b) : Int.fmod a m = Int.fmod b m := by
  obtain ⟨k, hk⟩ := h
  have : a = b + m * k := by omega
  rw [this, Int.add_mul_fmod_self_left]
theorem dvd_sub_fmod (a m : Int) : m ∣ a - Int.fmod a m := by
  have := Int.mul_fdiv_add_fmod a m
  exact ⟨Int.fdiv a m, by omega⟩
/-- the step: the two rests agree as far as they must -/
theorem k_dvd {hid m z u v d found : Int} {n : Nat} {kept : List Int} (h : KInv hid n found m kept) (hE : ExtSpec m z u v d) : d ∣ Int.fmod hid z - found := by
  obtain ⟨h1, h2, _⟩ := h
  obtain ⟨_, e2, _⟩ := hE
  have a : d ∣ m := e2 ▸ Int.gcd_dvd_left ..
  have b : d ∣ z := e2 ▸ Int.gcd_dvd_right ..
  have c1 := Int.dvd_trans b (dvd_sub_fmod hid z)
  have c2 := Int.dvd_trans a (dvd_sub_fmod hid m)
  rw [← h2] at c2
  have := Int.dvd_sub c2 c1
  have e : hid - found - (hid - Int.fmod hid z) = Int.fmod hid z - found := by omega
  rwa [e] at this
theorem ext_pos {x y u v d : Int} (h : ExtSpec x y u v d) (hx : 0 < x) : 0 < d ∧ x * u + y * v = d := by
  obtain ⟨e1, e2, _⟩ := h
  refine ⟨?_, by rw [← e1, Int.mul_comm x, Int.mul_comm y]⟩
  have := Int.gcd_pos_of_ne_zero_left (a := x) y (by omega)
  omega
theorem fmod_zero_of_dvd {a d : Int} (h : d ∣ a) : Int.fmod a d = 0 := by
  obtain ⟨k, rfl⟩ := h
  exact Int.mul_fmod_right ..
theorem k_found {hid m z u v d found : Int} {n : Nat} {kept : List Int} (h : KInv hid n found m kept) (hE : ExtSpec m z u v d) :
    Int.fmod (found + m * u * Int.fdiv (Int.fmod hid z - found) d) (Int.lcm m z) = Int.fmod hid (Int.lcm m z) := by
  obtain ⟨hd0, hd1⟩ := ext_pos hE h.1
  obtain ⟨q, hq⟩ := k_dvd h hE
  have e : Int.fdiv (Int.fmod hid z - found) d = q := fdiv_of_eq (by omega) hq
  rw [e]
  refine fmod_of_dvd_sub (lcm_dvd_iff.mp ⟨?_, ?_⟩)
  · have a := dvd_sub_fmod hid m
    rw [← h.2.1] at a
    have e2 : found + m * u * q - hid = m * (u * q) - (hid - found) := by rw [Int.mul_assoc]; omega
    rw [e2]
    exact Int.dvd_sub (Int.dvd_mul_right ..) a
  · have a := dvd_sub_fmod hid z
    have e2 : found + m * u * q - hid = -(z * (v * q)) - (hid - Int.fmod hid z) := by
      have e3 : m * u * q = d * q - z * (v * q) := by rw [← hd1, Int.add_mul, Int.mul_assoc z v q]; omega
      omega
    rw [e2]
    exact Int.dvd_sub (Int.dvd_neg.mpr (Int.dvd_mul_right ..)) a
theorem lcm_small {a b : Int} {A B : Nat} (ha : a.natAbs ≤ A) (hb : b.natAbs ≤ B) : (Int.lcm a b : Int).natAbs ≤ A * B := by
  have h1 := Int.gcd_mul_lcm a b
  have : Int.lcm a b ≤ a.natAbs * b.natAbs := by
    by_cases h : Int.gcd a b = 0
    · have := Int.gcd_eq_zero_iff.mp h
      simp [this.1]
    · rw [← h1]; exact Nat.le_mul_of_pos_left _ (by omega)
  have h2 : a.natAbs * b.natAbs ≤ A * B := Nat.mul_le_mul ha hb
  simp only [Int.natAbs_natCast]
  omega
theorem kInv_turn {ns : List Int} {hid m u v d found k : Int} {pre kept : List Int} (h : KInv hid pre.length found m kept) (hE : ExtSpec m (atF ns k) u v d) (hz : atF ns k ≠ 0) :
    KInv hid (pre ++ [k]).length (Int.fmod (found + m * u * Int.fdiv (Int.fmod hid (atF ns k) - found) d) (Int.lcm m (atF ns k))) (Int.lcm m (atF ns k)) (kept ++ [atF ns k]) := by
  have hf := k_found h hE
  obtain ⟨h1, h2, h3, h4, h5, h6⟩ := h
  refine ⟨?_, hf, fun c => ?_, ?_, by simp, ?_⟩
  · have := Int.lcm_pos (m := m) (n := atF ns k) (by omega) hz
    omega
  · rw [← lcm_dvd_iff, ← h3 c]
    constructor
    · intro b
      exact ⟨fun x hx => b x (List.mem_append_left _ hx), b _ (by simp)⟩
    · rintro ⟨b, d⟩ x hx
      rcases List.mem_append.mp hx with hx | hx
      · exact b x hx
      · rw [List.mem_singleton] at hx; subst hx; exact d
  · intro a ha
    rcases List.mem_append.mp ha with ha | ha
    · exact h4 a ha
    · rw [List.mem_singleton] at ha; subst ha; exact hz
  · rw [List.length_append, List.length_singleton, Nat.pow_succ]
    exact lcm_small h6 (Nat.le_of_lt (Nat.lt_of_lt_of_le (atF_small ns k) (by unfold Bb; exact Nat.le_succ _)))
theorem k_len1 {kept pre : List Int} {k : Int} (h : kept.length ≤ pre.length + 1) : kept.length ≤ (pre ++ [k]).length + 1 := by
  rw [List.length_append]; omega
theorem k_len2 {kept pre : List Int} {k z : Int} (h : kept.length ≤ pre.length + 1) : (kept ++ [z]).length ≤ (pre ++ [k]).length + 1 := by
  simp only [List.length_append, List.length_singleton]; omega
theorem M1_le {n : Nat} (h : n ≤ 79) {x : Nat} (hx : x ≤ Bb ^ n) : x ≤ M1 := Nat.le_trans hx (Bb_mono (by omega))
theorem sizeM1 : SizeOk M1 := by
  refine ⟨16000, by decide, ?_⟩
  have h : Bb < 2 ^ 200 := by decide
  have h2 : Bb ^ 80 < (2 ^ 200) ^ 80 := Nat.pow_lt_pow_left h (by decide)
  rw [← Nat.pow_mul] at h2
  exact h2
theorem z_Bb (ns : List Int) (k : Int) : (atF ns k).natAbs + 1 ≤ Bb := by
  have h := atF_small ns k
  unfold Bb
  omega
theorem z_M1 (ns : List Int) (k : Int) : (atF ns k).natAbs ≤ M1 :=
  M1_le (n := 1) (by omega) (by have := z_Bb ns k; rw [Nat.pow_one]; omega)
section
variable {hid found m k u v d : Int} {n : Nat} {kept ns : List Int}
theorem k_pos (h : KInv hid n found m kept) : 0 < m := h.1
theorem k_ne (h : KInv hid n found m kept) : m ≠ 0 := by have := h.1; omega
theorem k_ml (h : KInv hid n found m kept) (hn : n ≤ 70) : m.natAbs ≤ M1 := M1_le (n := n + 1) (by omega) h.2.2.2.2.2
theorem k_l1 (h : KInv hid n found m kept) : kept ≠ [] := h.2.2.2.2.1
theorem k_l2 (h : KInv hid n found m kept) : ∀ a ∈ kept, a ≠ 0 := h.2.2.2.1
theorem k_l3 (h : KInv hid n found m kept) : ∀ c : Int, (∀ a ∈ kept, a ∣ c) ↔ m ∣ c := h.2.2.1
theorem k_bb (h : KInv hid n found m kept) (ns : List Int) (k : Int) : m.natAbs + (atF ns k).natAbs + 1 ≤ Bb ^ (n + 2) := by
  have h1 := h.2.2.2.2.2
  have h2 := z_Bb ns k
  have e : Bb ^ (n + 2) = Bb ^ (n + 1) * Bb := Nat.pow_succ ..
  have e2 : Bb ^ (n + 1) * 2 ≤ Bb ^ (n + 1) * Bb := Nat.mul_le_mul_left _ (by decide)
  have e3 : Bb ≤ Bb ^ (n + 1) := by
    rw [Nat.pow_succ]; exact Nat.le_mul_of_pos_left _ (Bb_one n)
  omega
theorem k_ext (h : KInv hid n found m kept) (hn : n ≤ 70) : m.natAbs + (atF ns k).natAbs + 1 ≤ M1 := M1_le (n := n + 2) (by omega) (k_bb h ns k)
theorem ext_facts {z : Int} (h : KInv hid n found m kept) (hE : ExtSpec m z u v d) : 0 < d ∧ d ≠ 0 ∧ m * u + z * v = d ∧ Int.fmod (Int.fmod hid z - found) d = 0 := by
  obtain ⟨a, b⟩ := ext_pos hE h.1
  exact ⟨a, by omega, b, fmod_zero_of_dvd (k_dvd h hE)⟩
theorem lcm_facts {z : Int} (h : KInv hid n found m kept) (hE : ExtSpec m z u v d) (hz : z ≠ 0) :
    0 < (Int.lcm m z : Int) ∧ (Int.lcm m z : Int) ≠ 0 ∧ Int.fmod (Int.lcm m z) z = 0 ∧ Int.fmod (found + m * u * Int.fdiv (Int.fmod hid z - found) d) (Int.lcm m z) = Int.fmod hid (Int.lcm m z) := by
  have := Int.lcm_pos (m := m) (n := z) (k_ne h) hz
  exact ⟨by omega, by omega, fmod_zero_of_dvd (Int.dvd_lcm_right ..), k_found h hE⟩
theorem k_m1 (h : KInv hid n found m kept) (hE : ExtSpec m (atF ns k) u v d) (hn : n ≤ 70) : IntMulOk m u := by
  have a := @k_ext _ _ _ k _ _ ns h hn
  have b := hE.2.2.2.2.2.1
  exact sizeM1.mul (by omega) (by have := h.1; omega)
theorem k_m2 (h : KInv hid n found m kept) (hE : ExtSpec m (atF ns k) u v d) (hn : n ≤ 70) : IntMulOk (atF ns k) v := by
  have a := @k_ext _ _ _ k _ _ ns h hn
  have b := hE.2.2.2.2.2.2
  by_cases h0 : (atF ns k).natAbs = 0
  · have : atF ns k = 0 := by omega
    rw [this]
    exact sizeM1.mul (by omega) (by omega)
  · exact sizeM1.mul (by omega) (by omega)
theorem k_m3 (h : KInv hid n found m kept) (hE : ExtSpec m (atF ns k) u v d) (hz : atF ns k ≠ 0) (hn : n ≤ 70) : IntMulOk (m * u) (Int.fdiv (Int.fmod hid (atF ns k) - found) d) := by
  have a := k_bb h ns k
  have b := hE.2.2.2.2.2.1
  have c := z_Bb ns k
  have h6 := h.2.2.2.2.2
  refine sizeM1.mul ?_ ?_
  · rw [Int.natAbs_mul]
    refine M1_le (n := n + 2) (by omega) ?_
    rw [Nat.pow_succ]
    exact Nat.mul_le_mul h6 (by omega)
  · refine Nat.le_trans div_small (M1_le (n := n + 2) (by omega) (Nat.le_trans ?_ a))
    have e1 := @e_less hid _ hz
    have e2 : found.natAbs ≤ m.natAbs := by
      rw [h.2.1]
      have x1 := Int.fmod_lt_of_pos hid h.1
      have x2 := Int.fmod_nonneg_of_pos hid h.1
      omega
    omega
end
theorem ks4_small {len : Nat} (hl : len ≤ 63) : (rangeKs 1 ((if (4 : Int) > len then 4 else (len : Int)) - 1).toNat).length ≤ 70 := by
  rw [rangeKs_length]; split <;> omega
theorem k_short {len : Nat} {kept : List Int} (h : kept.length ≤ (rangeKs 1 ((if (4 : Int) > len then 4 else (len : Int)) - 1).toNat).length + 1) (hl : len ≤ 63) : kept.length < 1900 := by
  have := ks4_small hl
  omega
/-- as Ctr, of a def that reads a list of the caller's ledger -/
abbrev CtrN (prog p : Program) (K : Params → Frag) (f : Addr) (vs : List Value) (rest : List Value) (R : Tok → Value) : Prop :=
  ∀ (w : World) (loose : List PySem.Str) (mean : ExcName → Option Value) (mg mb : PySem.Str → Option Value)
    (dp un : Nat) (gd : Option (List Code)) (cn : PySem.Str) (cs : Scope) (a : Addr) (ccd : Value) (cl : List (PySem.Str × Addr)) (outer : List Env) (A₀ : Around) (base h₀ : Heap) (L : Addr) (m : PySem.Str → Option Value) (news : List (Addr × Obj)) (s : Shared) (la : Addr) (n : Nat)
    (Q E : Value → Shared → Prop),
    Below A₀ base outer h₀ → Fr h₀ L s.heap m → (K w.params).In h₀ → News h₀ L s.heap news → Top p loose mean mg mb h₀ → cs.kind = .function → dp + 200 < recursionLimit → un + 64 < cLine → (la, listOf vs.toArray n) ∈ news →
    (∀ t h' tk', Fr h₀ L h' m → News h₀ L h' news → Q (R t) { s with heap := h', toks := tk' }) →
    wpAny (model prog w) (ktrTop dp un gd cn cs L a ccd cl outer) (call (.ref f) (.ref la :: rest)) Q E s
theorem CtrN.use {prog p : Program} {K : Params → Frag} {f : Addr} {vs rest : List Value} {R : Tok → Value} (C : CtrN prog p K f vs rest R)
    {w : World} {loose : List PySem.Str} {mean : ExcName → Option Value} {mg mb : PySem.Str → Option Value}
    {dp un : Nat} {gd : Option (List Code)} {cn : PySem.Str} {cs : Scope} {a : Addr} {ccd : Value} {cl : List (PySem.Str × Addr)} {outer : List Env} {A₀ : Around} {base h₀ : Heap} {L : Addr} {m : PySem.Str → Option Value} {news : List (Addr × Obj)} {s : Shared} {la : Addr} {n : Nat}
    {Q E : Value → Shared → Prop} (B : Below A₀ base outer h₀) (F : Fr h₀ L s.heap m) (X : (K w.params).In h₀) (N : News h₀ L s.heap news) (T : Top p loose mean mg mb h₀) (hk : cs.kind = .function) (hd : dp + 200 < recursionLimit) (hu : un + 64 < cLine) (hl : (la, listOf vs.toArray n) ∈ news)
    (ret : ∀ t h' tk', Fr h₀ L h' m → News h₀ L h' news → Q (R t) { s with heap := h', toks := tk' }) :
    wpAny (model prog w) (ktrTop dp un gd cn cs L a ccd cl outer) (call (.ref f) (.ref la :: rest)) Q E s := C _ _ _ _ _ _ _ _ _ _ _ _ _ _ _ _ _ _ _ _ _ _ _ _ _ B F X N T hk hd hu hl ret
/-- a call that gives a new list of ints of which P holds, of a def that reads a list of the caller's ledger -/
abbrev CtrRow (prog p : Program) (K : Params → Frag) (f : Addr) (vs : List Value) (P : List Int → Prop) : Prop :=
  ∀ (w : World) (loose : List PySem.Str) (mean : ExcName → Option Value) (mg mb : PySem.Str → Option Value)
    (dp un : Nat) (gd : Option (List Code)) (cn : PySem.Str) (cs : Scope) (a : Addr) (ccd : Value) (cl : List (PySem.Str × Addr)) (outer : List Env) (A₀ : Around) (base h₀ : Heap) (L : Addr) (m : PySem.Str → Option Value) (news : List (Addr × Obj)) (s : Shared) (la : Addr) (n : Nat)
    (Q E : Value → Shared → Prop),
    Below A₀ base outer h₀ → Fr h₀ L s.heap m → (K w.params).In h₀ → News h₀ L s.heap news → Top p loose mean mg mb h₀ → cs.kind = .function → dp + 210 < recursionLimit → un + 100 < cLine → (la, listOf vs.toArray n) ∈ news →
    (∀ (D : Addr) (h' : Heap) (tk' : Nat) (rvs : List Value) (rs : List Int) (n1 : Nat), Fr h₀ L h' m → News h₀ L h' ((D, listOf rvs.toArray n1) :: news) → (∀ p ∈ news, p.1 < D) → IntsAre rvs rs → P rs → Q (.ref D) { s with heap := h', toks := tk' }) →
    wpAny (model prog w) (ktrTop dp un gd cn cs L a ccd cl outer) (call (.ref f) [.ref la]) Q E s
theorem CtrRow.use {prog p : Program} {K : Params → Frag} {f : Addr} {vs : List Value} {P : List Int → Prop} (C : CtrRow prog p K f vs P)
    {w : World} {loose : List PySem.Str} {mean : ExcName → Option Value} {mg mb : PySem.Str → Option Value}
    {dp un : Nat} {gd : Option (List Code)} {cn : PySem.Str} {cs : Scope} {a : Addr} {ccd : Value} {cl : List (PySem.Str × Addr)} {outer : List Env} {A₀ : Around} {base h₀ : Heap} {L : Addr} {m : PySem.Str → Option Value} {news : List (Addr × Obj)} {s : Shared} {la : Addr} {n : Nat}
    {Q E : Value → Shared → Prop} (B : Below A₀ base outer h₀) (F : Fr h₀ L s.heap m) (X : (K w.params).In h₀) (N : News h₀ L s.heap news) (T : Top p loose mean mg mb h₀) (hk : cs.kind = .function) (hd : dp + 210 < recursionLimit) (hu : un + 100 < cLine) (hl : (la, listOf vs.toArray n) ∈ news)
    (ret : ∀ (D : Addr) (h' : Heap) (tk' : Nat) (rvs : List Value) (rs : List Int) (n1 : Nat), Fr h₀ L h' m → News h₀ L h' ((D, listOf rvs.toArray n1) :: news) → (∀ p ∈ news, p.1 < D) → IntsAre rvs rs → P rs → Q (.ref D) { s with heap := h', toks := tk' }) :
    wpAny (model prog w) (ktrTop dp un gd cn cs L a ccd cl outer) (call (.ref f) [.ref la]) Q E s := C _ _ _ _ _ _ _ _ _ _ _ _ _ _ _ _ _ _ _ _ _ _ _ _ _ B F X N T hk hd hu hl ret
theorem at2_c (vs : List Value) (ns : List Int) (k : Int) (t : Tok) (hi : IntsAre vs ns) (hfit : ns.length < 2 ^ 62) (hk0 : 0 ≤ k) (hk1 : k < 1000000) : CtrN PySem.Challenge.rw_yz0001_03.row.prog hd.view_39 hd.heap_39 66 vs [.int k t] (fun t => .int (atF ns k) t) := by
  have hd0 : PySem.Challenge.rw_yz0001_03 = PySem.Challenge.rw_yz0001_03 ∧ hd.heap_39 = hd.heap_39 := by k_fill; exact ⟨rfl, rfl⟩
  clear hd0
  k_with_none
  w_top off
  intro w loose mean mg mb dp un gd cn cs a ccd cl outer A₀ base h₀ L m news s la n Q E B F X N T hk hdp hun hla hret
  replace N := news_show N hla
  refine wpAny_call ?_
  k_dflt cell_enter
  k_steps
  all_goals (refine ret1 hret (by k_asm) (by k_asm) (by kcj_all) ?_)
  · exact atF_1 (by assumption) (by assumption)
  · exact atF_2 (by assumption) (by assumption)
  · exact atF_3 (by assumption)
section
section
/-- what _law_row gives -/
def RowOk (rs : List Int) : Prop := rs.length ≤ 40 ∧ ∀ r ∈ rs, r.natAbs ≤ Bb ^ 2
theorem rowOk_of {ns : List Int} {sc : Int} {ks : List Int} (hs : sc.natAbs ≤ Bb) (hl : ks.length ≤ 40) : RowOk (ks.map fun k => sc * atF ns k) := by
  refine ⟨by simpa using hl, fun r hr => ?_⟩
  obtain ⟨k, _, rfl⟩ := List.mem_map.mp hr
  rw [Int.natAbs_mul, Nat.pow_succ, Nat.pow_one]
  exact Nat.mul_le_mul hs (by have := z_Bb ns k; omega)
theorem mode_half (a : Int) : 0 ≤ Int.fdiv (Int.fmod a 8) 2 ∧ Int.fdiv (Int.fmod a 8) 2 ≤ 3 := by
  have h1 := Int.fmod_nonneg_of_pos a (show (0 : Int) < 8 by decide)
  have h2 := Int.fmod_lt_of_pos a (show (0 : Int) < 8 by decide)
  rw [Int.fdiv_eq_ediv_of_nonneg _ (by decide)]
  omega
theorem row_turn {ns : List Int} {sc k : Int} {pre row : List Int} (h : row = pre.map fun k => sc * atF ns k) : row ++ [sc * atF ns k] = (pre ++ [k]).map fun k => sc * atF ns k := by
  rw [h, List.map_append]; rfl
local macro_rules | `(tactic| walk_at "call ref") => `(tactic| (
  k_here
  (with_reducible show wpAny _ _ (call (Value.ref 66 ) _) _ _ _)
  k_dflt (
    refine' CtrN.use (at2_c _ _ _ _ ?hi ?hf ?h0 ?h1) ?k1 ?k2 ?k3 ?k4 ?k5 ?kK ?kd ?ku ?kl ?_
    walk_at "my_use"
    (case kl => first | k_mem | ktn_no "at: list")
    (case hi => first | assumption | ktn_no "at: ints")
    (case hf => first | assumption | omega | ktn_no "at: fit")
    (case h0 => first | decide | omega | ktn_no "at: nonneg")
    (case h1 => first | decide | omega | ktn_no "at: small")
    k_whole)
  intro t9 h9 tk9 F9 N9
  (try dsimp only)
  (try k_fold)))
local macro_rules | `(tactic| walk_at "binaryOp Mult int int") => `(tactic| first | (with_reducible refine mul_int ?_ (PySem.IntMulOk.of_left (by decide))) | (with_reducible refine mul_int ?_ (sizeM1.mul (z_M1 _ _) (z_M1 _ _))))
theorem row_c (vs : List Value) (ns : List Int) (hi : IntsAre vs ns) (hlen : ns.length ≤ 33) : CtrRow PySem.Challenge.rw_yz0001_03.row.prog hd.view_39 hd.heap_39 73 vs RowOk := by
  have hd0 : PySem.Challenge.rw_yz0001_03 = PySem.Challenge.rw_yz0001_03 ∧ hd.heap_39 = hd.heap_39 := by k_fill; exact ⟨rfl, rfl⟩
  clear hd0
  k_with_none
  w_top off
  k_with "pyIter ref" => k_state_given ["scale"] (fun sc pre row => (row = pre.map fun k => sc * atF ns k) ∧ row.length = pre.length) "row"
  k_with "state" => first | exact ⟨rfl, rfl⟩ | exact ⟨row_turn (by assumption), by simp <;> omega⟩
  intro w loose mean mg mb dp un gd cn cs a ccd cl outer A₀ base h₀ L m news s la n Q E B F X N T hk hdp hun hla hret
  replace N := news_show N hla
  have hm8 := mode_half (atF ns 0)
  refine wpAny_call ?_
  k_dflt cell_enter
  k_steps
  all_goals (rename _ ∧ AllLt _ news => hC9)
  all_goals (rename Fr h₀ _ _ _ => F8)
  all_goals (rename News h₀ _ _ (_ :: _) => N8)
  all_goals (rename _ = List.map _ _ => hr8; subst hr8)
  all_goals (refine hret _ _ _ _ _ _ F8 (cb_drop N8 (by kcj_all)) (ktn_ltOf hC9.2) (by assumption) (rowOk_of ?_ (by rw [rangeKs_length]; omega)))
  · have := z_Bb ns 1; omega
  · decide
end
end
/-- the least common multiple of a row -/
def lcmL (rs : List Int) : Int := rs.foldl (fun l a => (Int.lcm l a : Int)) 1
theorem lcmL_snoc (rs : List Int) (a : Int) : lcmL (rs ++ [a]) = (Int.lcm (lcmL rs) a : Int) := by simp [lcmL]
/-- L is the least common multiple of the row xs, a row without noughts -/
def LcmOf (L : Int) (xs : List Int) : Prop := xs ≠ [] ∧ (∀ a ∈ xs, a ≠ 0) ∧ 0 < L ∧ ∀ c : Int, (∀ a ∈ xs, a ∣ c) ↔ L ∣ c
theorem list_snoc_ind {p : List Int → Prop} (h0 : p []) (h1 : ∀ l a, p l → p (l ++ [a])) : ∀ l, p l := by
  intro l
  have : ∀ k : List Int, p k.reverse := fun k => by
    induction k with
    | nil => exact h0
    | cons a t ih => rw [List.reverse_cons]; exact h1 _ _ ih
  have e := this l.reverse
  rwa [List.reverse_reverse] at e
theorem lcmL_all (xs : List Int) : (∀ a ∈ xs, a ≠ 0) → 0 < lcmL xs ∧ ∀ c : Int, (∀ a ∈ xs, a ∣ c) ↔ lcmL xs ∣ c := by
  refine list_snoc_ind (p := fun xs => (∀ a ∈ xs, a ≠ 0) → 0 < lcmL xs ∧ ∀ c : Int, (∀ a ∈ xs, a ∣ c) ↔ lcmL xs ∣ c) ?_ ?_ xs
  · intro _
    exact ⟨by decide, fun c => by simp [lcmL]⟩
  · intro l a ih h0
    obtain ⟨h1, h2⟩ := ih fun x hx => h0 x (List.mem_append_left _ hx)
    have ha := h0 a (by simp)
    rw [lcmL_snoc]
    refine ⟨?_, fun c => ?_⟩
    · have := Int.lcm_pos (m := lcmL l) (n := a) (by omega) ha
      omega
    · rw [← lcm_dvd_iff, ← h2 c]
      constructor
      · intro b
        exact ⟨fun x hx => b x (List.mem_append_left _ hx), b a (by simp)⟩
      · rintro ⟨b, d⟩ x hx
        rcases List.mem_append.mp hx with hx | hx
        · exact b x hx
        · rw [List.mem_singleton] at hx; subst hx; exact d
theorem lcmL_small {B : Nat} (hB : 1 ≤ B) (xs : List Int) : (∀ a ∈ xs, a.natAbs ≤ B) → (lcmL xs).natAbs ≤ B ^ xs.length := by
  refine list_snoc_ind (p := fun xs => (∀ a ∈ xs, a.natAbs ≤ B) → (lcmL xs).natAbs ≤ B ^ xs.length) ?_ ?_ xs
  · intro _; exact Nat.le_refl 1
  · intro l a ih h
    rw [lcmL_snoc, List.length_append, List.length_singleton, Nat.pow_succ]
    exact lcm_small (ih fun x hx => h x (List.mem_append_left _ hx)) (h a (by simp))
def M3 : Nat := Bb ^ 4000
theorem sizeM3 : SizeOk M3 := by
  refine ⟨200 * 4000, by decide, ?_⟩
  have h : Bb < 2 ^ 200 := by decide
  have h2 : Bb ^ 4000 < (2 ^ 200) ^ 4000 := Nat.pow_lt_pow_left h (by decide)
  rw [← Nat.pow_mul] at h2
  exact h2
theorem M3_le {n : Nat} (h : n ≤ 4000) {x : Nat} (hx : x ≤ Bb ^ n) : x ≤ M3 := Nat.le_trans hx (Bb_mono h)
theorem row_lcm {rs : List Int} (h : ¬ (rs = [] ∨ (0 : Int) ∈ rs)) : LcmOf (lcmL rs) rs := by
  have h0 : ∀ a ∈ rs, a ≠ 0 := fun a ha e => h (.inr (e ▸ ha))
  exact ⟨fun e => h (.inl e), h0, lcmL_all rs h0⟩
theorem lcmL_bb {rs pre : List Int} (hr : RowOk rs) (hp : ∀ a ∈ pre, a ∈ rs) (hl : pre.length ≤ 40) : (lcmL pre).natAbs ≤ Bb ^ 80 := by
  have h1 := lcmL_small (B := Bb ^ 2) (Bb_one 2) pre fun a ha => hr.2 a (hp a ha)
  rw [← Nat.pow_mul] at h1
  exact Nat.le_trans h1 (Bb_mono (by omega))
section
variable {L : Int} {rs : List Int}
theorem LcmOf.ne (h : LcmOf L rs) : rs ≠ [] := h.1
theorem LcmOf.nz (h : LcmOf L rs) : ∀ a ∈ rs, a ≠ 0 := h.2.1
theorem LcmOf.pos (h : LcmOf L rs) : 0 < L := h.2.2.1
theorem LcmOf.all (h : LcmOf L rs) : ∀ c : Int, (∀ a ∈ rs, a ∣ c) ↔ L ∣ c := h.2.2.2
theorem LcmOf.dvd (h : LcmOf L rs) {x : Int} (hx : x ∈ rs) : x ∣ L := (h.all L).mpr (Int.dvd_refl L) x hx
theorem LcmOf.mod (h : LcmOf L rs) {x : Int} (hx : x ∈ rs) : Int.fmod L x = 0 := fmod_zero_of_dvd (h.dvd hx)
theorem LcmOf.self (h : LcmOf L rs) : LcmOf L (L :: rs) := by
  refine ⟨by simp, fun a ha => ?_, h.pos, fun c => ⟨fun b => b L (.head _), fun b a ha => ?_⟩⟩
  · rcases List.mem_cons.mp ha with rfl | ha
    · have := h.pos; omega
    · exact h.nz a ha
  · rcases List.mem_cons.mp ha with rfl | ha
    · exact b
    · exact (h.all c).mpr b a ha
/-- the row turned round, each number with its negative -/
def TurnOf (rs : List Int) (k : Nat) (t : List Int) : Prop := (∀ a ∈ t, a ∈ rs ∨ -a ∈ rs) ∧ ∀ i, i < rs.length → rs.length ≤ i + k → rs.getD i 0 ∈ t
theorem turn_start : TurnOf rs 0 [] := ⟨by simp, fun i h1 h2 => by omega⟩
theorem turn_turn {t : List Int} {k : Nat} {i : Int} (h : TurnOf rs k t) (hk : i + 1 = (rs.length : Int) - (k : Int)) (hi : 0 ≤ i) : TurnOf rs (k + 1) (t ++ [-rs.getD i.toNat 0] ++ [rs.getD i.toNat 0]) := by
  have hlt : i.toNat < rs.length := by omega
  have hm : rs.getD i.toNat 0 ∈ rs := by
    rw [List.getD_eq_getElem?_getD, List.getElem?_eq_getElem hlt]; exact List.getElem_mem hlt
  refine ⟨fun a ha => ?_, fun j h1 h2 => ?_⟩
  · simp only [List.append_assoc, List.mem_append, List.mem_singleton] at ha
    rcases ha with ha | rfl | rfl
    · exact h.1 a ha
    · right; rw [Int.neg_neg]; exact hm
    · left; exact hm
  · by_cases e : j = i.toNat
    · subst e; simp
    · have := h.2 j h1 (by omega)
      simp only [List.append_assoc, List.mem_append]
      exact .inl this
theorem LcmOf.turned (h : LcmOf L rs) {t : List Int} {k : Nat} (ht : TurnOf rs k t) (hk : rs.length ≤ k) : LcmOf L t := by
  have hin : ∀ a ∈ rs, a ∈ t := fun a ha => by
    obtain ⟨i, hi, e⟩ := List.mem_iff_getElem.mp ha
    have := ht.2 i hi (by omega)
    rw [List.getD_eq_getElem?_getD, List.getElem?_eq_getElem hi] at this
    rw [← e]; exact this
  refine ⟨fun e => ?_, fun a ha e => ?_, h.pos, fun c => ⟨fun b => (h.all c).mp fun a ha => b a (hin a ha), fun b a ha => ?_⟩⟩
  · cases hrs : rs with
    | nil => exact h.ne hrs
    | cons x r => have := hin x (by rw [hrs]; exact .head _); rw [e] at this; cases this
  · subst e
    rcases ht.1 0 ha with h1 | h1
    · exact h.nz 0 h1 rfl
    · exact h.nz _ h1 (by simp)
  · rcases ht.1 a ha with h1 | h1
    · exact (h.all c).mpr b a h1
    · exact Int.neg_dvd.mp ((h.all c).mpr b _ h1)
theorem fdiv_mul_of_dvd {L x : Int} (hx : x ≠ 0) (h : x ∣ L) : x * Int.fdiv L x = L := by
  obtain ⟨q, rfl⟩ := h
  rw [fdiv_of_eq hx rfl]
/-- the quotients have no common divisor -/
theorem quot_one {B : Nat} {g : Int} {cs : List Int} (h : LcmOf L rs) (hG : GolOk B (rs.map fun x => Int.fdiv L x) g cs) : g = 1 := by
  obtain ⟨g1, g2, _⟩ := hG
  have hL := h.pos
  have hd : ∀ x ∈ rs, g ∣ Int.fdiv L x := fun x hx => (g2 g).mpr (Int.dvd_refl g) _ (List.mem_map.mpr ⟨x, hx, rfl⟩)
  obtain ⟨x0, hx0⟩ : ∃ x, x ∈ rs := by
    cases hrs : rs with
    | nil => exact absurd hrs h.ne
    | cons x r => exact ⟨x, .head _⟩
  have hgL : g ∣ L := by
    rw [← fdiv_mul_of_dvd (h.nz x0 hx0) (h.dvd hx0)]
    exact Int.dvd_mul_of_dvd_right (hd x0 hx0)
  obtain ⟨K, hK⟩ := hgL
  have hg0 : g ≠ 0 := fun e => by rw [e] at hK; omega
  have hLK : L ∣ K := (h.all K).mp fun x hx => by
    obtain ⟨j, hj⟩ := hd x hx
    have e := fdiv_mul_of_dvd (h.nz x hx) (h.dvd hx)
    rw [hj] at e
    refine ⟨j, ?_⟩
    have : g * K = g * (x * j) := by rw [← hK, ← e, Int.mul_left_comm]
    exact Int.eq_of_mul_eq_mul_left hg0 this
  obtain ⟨q, hq⟩ := hLK
  have e1 : L * 1 = L * (g * q) := by
    rw [Int.mul_one, Int.mul_left_comm, ← hq]; exact hK
  have e2 : 1 = g * q := Int.eq_of_mul_eq_mul_left (by omega) e1
  have : g ∣ 1 := ⟨q, e2⟩
  have := Int.le_of_dvd (by omega) this
  omega
end
theorem dot_take {cs qs : List Int} {k : Nat} (h1 : k < cs.length) (h2 : k < qs.length) : dot (cs.take (k + 1)) (qs.take (k + 1)) = dot (cs.take k) (qs.take k) + cs.getD k 0 * qs.getD k 0 := by
  rw [List.take_add_one, List.take_add_one, List.getElem?_eq_getElem h1, List.getElem?_eq_getElem h2]
  rw [dot_append (by simp; omega)]
  simp [dot, List.getD_eq_getElem?_getD, h1, h2]
theorem dot_all {cs qs : List Int} {k : Nat} (h1 : cs.length ≤ k) (h2 : qs.length ≤ k) : dot (cs.take k) (qs.take k) = dot cs qs := by
  rw [List.take_of_length_le h1, List.take_of_length_le h2]
/-- what the law's first loop has found: an empty row, or a nought -/
def RefInv (rs pre : List Int) (r : Bool) : Prop := r = true ↔ (rs.length = 0 ∨ (0 : Int) ∈ pre)
theorem ref_start (rs : List Int) : RefInv rs [] (decide ((rs.length : Int) = 0)) := by
  unfold RefInv; simp
theorem ref_yes {rs pre : List Int} {x : Int} (h : x = 0) : RefInv rs (pre ++ [x]) true := by
  unfold RefInv; subst h; simp
theorem ref_no {rs pre : List Int} {r : Bool} {x : Int} (h : RefInv rs pre r) (hx : x ≠ 0) : RefInv rs (pre ++ [x]) r := by
  unfold RefInv at h ⊢
  rw [h, List.mem_append, List.mem_singleton]
  constructor
  · rintro (a | a)
    · exact .inl a
    · exact .inr (.inl a)
  · rintro (a | a | a)
    · exact .inl a
    · exact .inr a
    · exact absurd a.symm hx
theorem ref_end {rs : List Int} {r : Bool} (h : RefInv rs rs r) : (r = true ∧ (rs = [] ∨ (0 : Int) ∈ rs)) ∨ (r = false ∧ LcmOf (lcmL rs) rs) := by
  cases r with
  | true =>
    refine .inl ⟨rfl, ?_⟩
    rcases h.mp rfl with a | a
    · exact .inl (List.length_eq_zero_iff.mp a)
    · exact .inr a
  | false =>
    refine .inr ⟨rfl, row_lcm fun a => ?_⟩
    have : ¬ (false = true) := by decide
    exact this (h.mpr (a.imp (fun e => by rw [e]; rfl) id))
section
variable {L a x : Int} {rs pre post : List Int}
theorem lcmL_M3 (h : RowOk rs) : (lcmL rs).natAbs ≤ M3 := M3_le (n := 80) (by omega) (lcmL_bb h (fun _ hx => hx) h.1)
theorem along_ne (h : LcmOf L rs) (hk : rs = pre ++ x :: post) (e : a = lcmL pre) : a ≠ 0 := by
  have := (lcmL_all pre fun y hy => h.nz y (by rw [hk]; exact List.mem_append_left _ hy)).1
  omega
theorem along_small (h : RowOk rs) (hk : rs = pre ++ x :: post) (e : a = lcmL pre) : a.natAbs ≤ M3 := by
  subst e
  have hl : pre.length ≤ rs.length := by rw [hk, List.length_append]; omega
  have := h.1
  exact M3_le (n := 80) (by omega) (lcmL_bb h (fun y hy => by rw [hk]; exact List.mem_append_left _ hy) (by omega))
theorem x_small (h : RowOk rs) (hx : x ∈ rs) : x.natAbs ≤ M3 := M3_le (n := 2) (by omega) (h.2 x hx)
theorem along_turn (e : a = lcmL pre) : (Int.lcm a x : Int) = lcmL (pre ++ [x]) := by rw [e, lcmL_snoc]
theorem quot_turn {qs : List Int} (h : qs = pre.map fun x => Int.fdiv L x) : qs ++ [Int.fdiv L x] = (pre ++ [x]).map fun x => Int.fdiv L x := by rw [h, List.map_append]; rfl
theorem quot_small (h : RowOk rs) : ∀ q ∈ rs.map (fun x => Int.fdiv (lcmL rs) x), q.natAbs + 1 ≤ Bb ^ 81 := by
  intro q hq
  obtain ⟨x, hx, rfl⟩ := List.mem_map.mp hq
  have h1 := @div_small (lcmL rs) x
  have h2 := lcmL_bb h (fun _ hx => hx) h.1
  have h3 : Bb ^ 81 = Bb ^ 80 * Bb := Nat.pow_succ ..
  have h4 : Bb ^ 80 * 2 ≤ Bb ^ 80 * Bb := Nat.mul_le_mul_left _ (by decide)
  have h5 := Bb_one 80
  omega
theorem gol_M3 {n : Nat} (h : n ≤ 40) : 2 * (Bb ^ 81) ^ (n + 1) ≤ M3 := by
  rw [← Nat.pow_mul]
  have h1 : Bb ^ (81 * (n + 1)) ≤ Bb ^ 3321 := Bb_mono (by omega)
  have h3 : Bb ^ 3322 = Bb ^ 3321 * Bb := Nat.pow_succ ..
  have h4 : Bb ^ 3321 * 2 ≤ Bb ^ 3321 * Bb := Nat.mul_le_mul_left _ (by decide)
  have h5 : Bb ^ 3322 ≤ M3 := Bb_mono (by omega)
  omega
theorem one_mul_ok {cs qs : List Int} {g : Int} {k : Nat} (hR : RowOk rs) (hq : qs = rs.map fun x => Int.fdiv (lcmL rs) x) (hG : GolOk (Bb ^ 81) qs g cs) (hk : k < rs.length) : IntMulOk (cs.getD k 0) (qs.getD k 0) := by
  have hl : qs.length = rs.length := by rw [hq]; simp
  have hc : cs.length = qs.length := hG.2.2.1
  have m1 : cs.getD k 0 ∈ cs := by
    rw [List.getD_eq_getElem?_getD, List.getElem?_eq_getElem (show k < cs.length by omega)]; exact List.getElem_mem _
  have m2 : qs.getD k 0 ∈ qs := by
    rw [List.getD_eq_getElem?_getD, List.getElem?_eq_getElem (show k < qs.length by omega)]; exact List.getElem_mem _
  have b1 := hG.2.2.2.2 _ m1
  rw [← Nat.pow_mul] at b1
  have b3 : ∀ q ∈ qs, q.natAbs + 1 ≤ Bb ^ 81 := by rw [hq]; exact quot_small hR
  have b2 := b3 _ m2
  have := hR.1
  exact sizeM3.mul (M3_le (n := 81 * qs.length) (by omega) b1) (M3_le (n := 81) (by omega) (by omega))
theorem one_turn {cs qs : List Int} {one k : Int} {p : List Int} (e : one = dot (cs.take p.length) (qs.take p.length)) (hk : k = 0 + (p.length : Int)) (h1 : p.length < cs.length) (h2 : p.length < qs.length) :
    one + cs.getD k.toNat 0 * qs.getD k.toNat 0 = dot (cs.take (p ++ [k]).length) (qs.take (p ++ [k]).length) := by
  have e2 : k.toNat = p.length := by omega
  rw [e, e2, List.length_append, List.length_singleton, dot_take h1 h2]
end
theorem one_end {one : Int} {c q : List Int} {p : Nat} (e : one = dot (c.take p) (q.take p)) (hd : dot c q = 1) (h1 : c.length ≤ p) (h2 : q.length ≤ p) : one = 1 := by
  rw [e, dot_all h1 h2, hd]
/-- a mark in the context: how far the walk is -/
inductive Phase : Nat → Prop
  | mk (n : Nat) : Phase n
theorem phase (n : Nat) : Phase n := .mk n
theorem turn_turn' {rs t pre : List Int} {i : Int} (h : TurnOf rs pre.length t ∧ t.length = 2 * pre.length) (hk : i = (rs.length : Int) - 1 - (pre.length : Int)) (hi : pre.length < ((rs.length : Int) - 1 - -1).toNat) :
    TurnOf rs (pre ++ [i]).length (t ++ [-rs.getD i.toNat 0] ++ [rs.getD i.toNat 0]) ∧ (t ++ [-rs.getD i.toNat 0] ++ [rs.getD i.toNat 0]).length = 2 * (pre ++ [i]).length := by
  obtain ⟨h1, h2⟩ := h
  refine ⟨?_, ?_⟩
  · rw [List.length_append, List.length_singleton]
    exact turn_turn h1 (by omega) (by omega)
  · simp only [List.length_append, List.length_singleton]; omega
section
section
theorem row_len {rs : List Int} (h : RowOk rs) : rs.length ≤ 40 := h.1
local macro_rules | `(tactic| walk_at "call ref") => `(tactic| (
  k_here
  (with_reducible show wpAny _ _ (call (Value.ref 73 ) _) _ _ _)
  k_dflt (
    refine' CtrRow.use (row_c _ _ ?hi ?hl) ?k1 ?k2 ?k3 ?k4 ?k5 ?kK ?kd ?ku ?kl ?_
    walk_at "my_use"
    (case kl => first | k_mem | ktn_no "row: list")
    (case hi => first | assumption | ktn_no "row: ints")
    (case hl => first | assumption | omega | ktn_no "row: len")
    k_whole)
  intro D9 h9 tk9 v9 r9 n9 F9 N9 l9 hI9 hR9
  have hRl9 := row_len hR9
  (try k_lt l9)
  (try dsimp only)
  (try k_fold)))
local macro_rules | `(tactic| walk_at "exec Try") => `(tactic| ((rename RefInv _ _ _ => hr9); refine StopW.on ?_))
local macro_rules | `(tactic| walk_at "call ref") => `(tactic| (
  k_here
  (with_reducible show wpAny _ _ (call (Value.ref 59 ) _) _ _ _)
  k_dflt (
    refine' CtrR.use (lcmr_c _ _ ?h1 ?h2 ?h3) ?k1 ?k2 ?k3 ?k4 ?k5 ?kK ?kd ?ku ?kl ?_
    walk_at "my_use"
    (case kl => first | k_mem | ktn_no "lcm_: list")
    (case h1 => first | assumption | exact IntsAre.append (by assumption) (.cons _ _ .nil))
    (case h3 => first | assumption | exact .inr (by simp))
    (case h2 => first | omega | (rw [List.length_append, List.length_singleton]; omega) | ktn_no "lcm_: short")
    k_whole)
  intro e9 g9 h9 tk9 d9 F9 R9 U9
  (try dsimp only)))
theorem lcmu_l (vs : List Value) (ns : List Int) (l : Int) (h : LcmOf l ns) (hI : IntsAre vs ns) (hlen : ns.length < 1900) (hLM : l.natAbs ≤ M3) : CtrH PySem.Challenge.rw_yz0001_03.row.prog hd.view_39 hd.heap_39 59 vs (fun t => .int l t) :=
  lcmu_c M3 vs ns l hI hlen h.ne h.nz sizeM3 hLM h.pos h.all
local macro_rules | `(tactic| walk_at "call ref") => `(tactic| (
  k_here
  (with_reducible show wpAny _ _ (call (Value.ref 59 ) _) _ _ _)
  k_dflt (
    refine' CtrH.use (lcmu_l _ _ _ ?h1 ?h2 ?h3 ?h4) ?k1 ?k2 ?k3 ?k4 ?k5 ?kK ?kd ?ku ?kl ?_
    walk_at "my_use"
    (case kl => first | k_mem | ktn_no "lcm_: list")
    (case h2 => first | assumption | exact IntsAre.cons _ _ (by assumption))
    (case h1 => first | assumption | exact LcmOf.turned (by assumption) (by assumption) (by omega) | exact LcmOf.self (by assumption))
    (case h3 => first | omega | (rw [List.length_cons]; omega) | ktn_no "lcm_: short")
    (case h4 => exact lcmL_M3 (by assumption))
    k_whole)
  intro t9 h9 tk9 d9 F9 N9
  (try dsimp only)
  (try k_fold)))
local macro_rules | `(tactic| walk_at "call ref") => `(tactic| (
  k_here
  (with_reducible show wpAny _ _ (call (Value.ref 35 ) _) _ _ _)
  k_dflt (
    refine' Ctr2.use (lcm_c M3 _ _ _ _ ?h1 ?h2 ?h3 ?h4) ?k1 ?k2 ?k3 ?k4 ?k5 ?kK ?kd ?ku ?_
    (case h1 => exact sizeM3)
    (case h2 => exact along_ne (by assumption) (by assumption) (by assumption))
    (case h3 => exact along_small (by assumption) (by assumption) (by assumption))
    (case h4 => exact x_small (by assumption) (by assumption))
    walk_at "my_use"
    k_whole)
  intro t9 h9 tk9 F9 N9
  (try dsimp only)
  (try k_fold)))
local macro_rules | `(tactic| walk_at "call ref") => `(tactic| (
  k_here
  (with_reducible show wpAny _ _ (call (Value.ref 42 ) _) _ _ _)
  refine StopW.on ?_))
local macro_rules | `(tactic| walk_at "binaryOp Mod int int") => `(tactic| (
  (with_reducible refine mod_int' (LcmOf.nz (by assumption) _ (by assumption)) ?_)
  rw [LcmOf.mod (by assumption) (by assumption)]))
local macro_rules | `(tactic| walk_at "binaryOp FloorDiv int int") => `(tactic| (k_dflt (refine' floordiv_int ?k1 ?_ ?k2; (case k1 => exact LcmOf.nz (by assumption) _ (by assumption)); (case k2 => walk_at "my_room"); k_whole)))
local macro_rules | `(tactic| walk_at "binaryOp Mult int int") => `(tactic| with_reducible refine mul_int ?_ (one_mul_ok (by assumption) (by assumption) (by assumption) (by omega)))
local macro_rules | `(tactic| walk_at "compareOp NotEq int int") => `(tactic| (
  (rename _ = dot (List.take (List.length (rangeKs _ _)) _) _ => e9)
  replace e9 := one_end e9 (by assumption) (by rw [rangeKs_length]; omega) (by rw [rangeKs_length]; omega)
  walk_at "compareOp NotEq int int"))
local macro_rules | `(tactic| walk_at "exec If") => `(tactic| ((rename Phase 5 => ph9); refine StopW.on ?_))
local macro_rules | `(tactic| walk_at "exec For Name Name cons nil") => `(tactic| ((rename Phase 2 => ph9); refine StopW.on ?_))
local macro_rules | `(tactic| walk_at "pyIter ref") => `(tactic| ((rename Phase 3 => ph9); refine StopW.on ?_))
local macro_rules | `(tactic| walk_at "exec For Name Call cons nil") => `(tactic| ((rename Phase 4 => ph9); refine StopW.on ?_))
local macro_rules | `(tactic| walk_at "call ref") => `(tactic| ((rename Phase 6 => ph9); refine StopW.on ?_))
theorem law3 : PySem.Challenge.rw_yz0001_03.Holds := hd (by
  k_with_none
  w_top off
  k_with "pyIter ref" => k_state_given ["row"] (fun rs pre r => RefInv rs pre r) "refused"
  k_with "pyIter ref" => k_state_given ["row", "least"] (fun rs l pre qs => (qs = pre.map fun x => Int.fdiv l x) ∧ qs.length = pre.length) "quotients"
  k_with "pyIter ref" => k_state_given ["quotients"] (fun qs pre one => one = dot (c9.take pre.length) (qs.take pre.length)) "one"
  k_with "pyIter ref" => k_state_given ["row"] (fun rs pre t => TurnOf rs pre.length t ∧ t.length = 2 * pre.length) "turned"
  k_with "state" => first | exact ⟨rfl, rfl⟩ | exact rfl | exact ⟨quot_turn (by assumption), by simp <;> omega⟩ | exact one_turn (by assumption) (by assumption) (by omega) (by omega) | exact along_turn (by assumption) | exact ⟨turn_start, rfl⟩ | exact turn_turn' (And.intro (by assumption) (by assumption)) (by assumption) (by assumption) | exact ref_start _ | exact ref_yes (by assumption) | exact ref_no (by assumption) (by assumption)
  k_go0; (all_goals try k_fold)
  k_steps
  refine StopW.off ?_
  rename RefInv _ _ _ => hr9
  rcases ref_end hr9 with ⟨er9, hr8⟩ | ⟨er9, hr8⟩
  · subst er9
    clear hr9
    k_steps
  · subst er9
    clear hr9
    have hp9 := hr8.pos
    k_steps
    refine StopW.off ?_
    rename _ = List.map _ _ => hq9
    k_here
    (with_reducible show wpAny _ _ (call (Value.ref 42 ) _) _ _ _)
    refine' CtrGL.use (gol_c M3 (Bb ^ 81) _ _ ?h1 ?h2 sizeM3 ?h3 (Bb_one 81) ?h4) ?k1 ?k2 ?k3 ?k4 ?k5 ?kK ?kd ?ku ?kl ?_
    walk_at "my_use"
    (case kl => k_mem)
    (case h1 => assumption)
    (case h2 => omega)
    (case h3 => rw [hq9]; exact quot_small (by assumption))
    (case h4 => exact gol_M3 (by omega))
    k_whole
    intro C9 D9 h9 tk9 g9 t9 cv9 c9 n1 n2 F9 N9 lCD lC hI9 hG9
    have lD := fun p hp => Nat.lt_trans (lC p hp) lCD
    k_lt lC
    k_lt lD
    have hg9 : g9 = 1 := by
      have hG8 := hG9
      rw [hq9] at hG8
      exact quot_one hr8 hG8
    subst hg9
    have hl9 := hG9.2.2.1
    have hd9 := hG9.2.2.2.1
    (try dsimp only)
    (try k_fold)
    have ph9 := phase 2
    k_steps
    refine StopW.off ?_
    clear hd9
    rename Phase 2 => ph9
    clear ph9
    have ph9 := phase 3
    k_steps
    refine StopW.off ?_
    rename Phase 3 => ph9
    clear ph9
    k_state (fun pre a => a = lcmL pre) "along"
    · k_steps
    · have ph9 := phase 4
      k_steps
      refine StopW.off ?_
      rename Phase 4 => ph9
      clear ph9
      have ph9 := phase 3
      k_steps
      refine StopW.off ?_
      rename Phase 3 => ph9
      clear ph9
      k_state_given ["row"] (fun rs pre t => TurnOf rs pre.length t ∧ t.length = 2 * pre.length) "turned"
      · k_steps
      · rename TurnOf _ _ _ => hT9
        rename List.length _ = 2 * _ => hl8
        have hT8 := LcmOf.turned hr8 hT9 (by rw [downKs_length]; omega)
        rw [downKs_length] at hl8
        clear hT9
        have ph9 := phase 5
        k_steps
        refine StopW.off ?_
        rename Phase 5 => ph9
        clear ph9
        have ph9 := phase 6
        k_steps
        refine StopW.off ?_
        rename Phase 6 => ph9
        clear ph9
        k_here
        (with_reducible show wpAny _ _ (call (Value.ref 59 ) _) _ _ _)
        refine' CtrH.use (lcmu_l _ _ _ ?h1 ?h2 ?h3 ?h4) ?k1 ?k2 ?k3 ?k4 ?k5 ?kK ?kd ?ku ?kl ?_
        walk_at "my_use"
        (case kl => k_mem)
        (case h2 => assumption)
        (case h1 => assumption)
        (case h3 => omega)
        (case h4 => exact lcmL_M3 (by assumption))
        k_whole
        intro t9 h9 tk9 d9 F9 N9
        have ph9 := phase 6
        (try dsimp only)
        (try k_fold)
        k_steps
        refine StopW.off ?_
        rename Phase 6 => ph8
        clear ph8
        k_here
        (with_reducible show wpAny _ _ (call (Value.ref 59 ) _) _ _ _)
        refine' CtrH.use (lcmu_l _ _ _ ?h1 ?h2 ?h3 ?h4) ?k1 ?k2 ?k3 ?k4 ?k5 ?kK ?kd ?ku ?kl ?_
        walk_at "my_use"
        (case kl => k_mem)
        (case h2 => assumption)
        (case h1 => exact LcmOf.self hr8)
        (case h3 => (rw [List.length_append, List.length_singleton]; omega))
        (case h4 => exact lcmL_M3 (by assumption))
        k_whole
        intro t9 h9 tk9 d9 F9 N9
        (try dsimp only)
        (try k_fold)
        k_steps
        done)
end
end
end Mine

theorem PySem.Challenge.cw_yz0001_03_holds : PySem.Challenge.rw_yz0001_03.Holds :=
  Mine.law3
