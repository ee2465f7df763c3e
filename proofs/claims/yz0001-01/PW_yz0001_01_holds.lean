import PyProof.Rows.All
import Wide.All
import OpenK.AllK
import Wide.FinOn
import Lean
import PySem.Challenge.RW_yz0001_01
open PySem PySem.W PyProof.Rows
open PySem.Spec PySem.Calls
set_option Elab.async false
set_option maxRecDepth 100000
set_option maxHeartbeats 8000000
namespace Mine
open_top hd for PySem.Challenge.rw_yz0001_01
theorem gen_toks {α : Type} {M : Model} {A : Around} {t : Sem α} {Q : α → Shared → Prop} {E : Value → Shared → Prop} {h : Heap} {g : Array GenState} {d : Drawn} {X : Nat} {o : OsState}
    (H : ∀ tk : Nat, wpAny M A t Q E ⟨h, g, d, tk, o⟩) : wpAny M A t Q E ⟨h, g, d, X, o⟩ := H X
/-- a call of the def at f with these arguments ends, and what comes back is as R says; all that it makes is forgotten -/
abbrev Ctr (prog p : Program) (K : Params → Frag) (f : Addr) (args : List Value) (R : Tok → Value) : Prop :=
  ∀ (w : World) (loose : List PySem.Str) (mean : ExcName → Option Value) (mg mb : PySem.Str → Option Value)
    (dp un : Nat) (gd : Option (List Code)) (cn : PySem.Str) (cs : Scope) (a : Addr) (ccd : Value) (cl : List (PySem.Str × Addr)) (outer : List Env) (A₀ : Around) (base h₀ : Heap) (L : Addr) (m : PySem.Str → Option Value) (news : List (Addr × Obj)) (s : Shared)
    (Q E : Value → Shared → Prop),
    Below A₀ base outer h₀ → Fr h₀ L s.heap m → (K w.params).In h₀ → News h₀ L s.heap news → Top p loose mean mg mb h₀ → cs.kind = .function → dp + 200 < recursionLimit → un + 64 < cLine →
    (∀ t h' tk', Fr h₀ L h' m → News h₀ L h' news → Q (R t) { s with heap := h', toks := tk' }) →
    wpAny (model prog w) (ktrTop dp un gd cn cs L a ccd cl outer) (call (.ref f) args) Q E s

theorem ret1 {h₀ : Heap} {L : Addr} {m : PySem.Str → Option Value} {news news' : List (Addr × Obj)} {s : Shared} {Q : Value → Shared → Prop} {h' : Heap} {tk' : Nat} {x y : Int} {t : Tok}
    (hret : ∀ t h' tk', Fr h₀ L h' m → News h₀ L h' news → Q (.int x t) { s with heap := h', toks := tk' })
    (F : Fr h₀ L h' m) (N : News h₀ L h' news') (hs : ∀ p ∈ news, p ∈ news') (e : y = x) : Q (.int y t) { s with heap := h', toks := tk' } := by
  subst e
  exact hret t h' tk' F (cb_drop N hs)
/-- sizes: products and shifts of numbers within M are within the model's line -/
def SizeOk (M : Nat) : Prop := ∃ k : Nat, k ≤ 60000000 ∧ M < 2 ^ k
theorem intBits_le {a : Int} {k : Nat} (h : a.natAbs < 2 ^ k) : Builtin.Int.intBits a ≤ k := by
  unfold Builtin.Int.intBits
  split
  · exact Nat.zero_le _
  · rename_i h0
    have h0' : a.natAbs ≠ 0 := by
      intro h1
      apply h0
      have : a = 0 := by omega
      subst this
      rfl
    have := (Nat.log2_lt h0').mpr h
    omega
theorem SizeOk.mul {M : Nat} (h : SizeOk M) {a b : Int} (ha : a.natAbs ≤ M) (hb : b.natAbs ≤ M) : IntMulOk a b := by
  obtain ⟨k, hk, hM⟩ := h
  have h1 := intBits_le (Nat.lt_of_le_of_lt ha hM)
  have h2 := intBits_le (Nat.lt_of_le_of_lt hb hM)
  have h3 : Builtin.Int.intTooBig (Builtin.Int.intBits a + Builtin.Int.intBits b) = false := by
    have e : (2 : Nat) ^ 27 = 134217728 := by decide
    unfold Builtin.Int.intTooBig bitsLine
    exact decide_eq_false (by omega)
  unfold IntMulOk
  rw [h3]
  simp
theorem SizeOk.shift {M : Nat} (h : SizeOk M) {a k : Int} (ha : 0 < a) (_hk : 0 ≤ k) (hd : (a * 2 ^ k.toNat).natAbs ≤ M) : (Builtin.Int.intBits a : Int) + k ≤ 2 ^ 27 := by
  obtain ⟨j, hj, hM⟩ := h
  have h1 : a.natAbs * 2 ^ k.toNat < 2 ^ j := by
    have e : (a * 2 ^ k.toNat).natAbs = a.natAbs * 2 ^ k.toNat := by
      rw [Int.natAbs_mul, Int.natAbs_pow]; rfl
    rw [← e]
    exact Nat.lt_of_le_of_lt hd hM
  have h2 : a.natAbs < 2 ^ j := Nat.lt_of_le_of_lt (Nat.le_mul_of_pos_right _ (Nat.two_pow_pos _)) h1
  have h3 : 2 ^ k.toNat < 2 ^ j := Nat.lt_of_le_of_lt (Nat.le_mul_of_pos_left _ (by omega)) h1
  have h4 : k.toNat < j := (Nat.pow_lt_pow_iff_right (by decide)).mp h3
  have h5 := intBits_le h2
  have e : (2 : Int) ^ 27 = 134217728 := by decide
  omega
abbrev tup3 (u v d : Int) (t1 t2 t3 : Tok) : Obj := { cls := .type "tuple", data := .seq #[.int u t1, .int v t2, .int d t3] }
/-- a call of the def at f with these arguments ends, and gives a new tuple of three ints of which P holds -/
abbrev CtrT (prog p : Program) (K : Params → Frag) (f : Addr) (args : List Value) (P : Int → Int → Int → Prop) : Prop :=
  ∀ (w : World) (loose : List PySem.Str) (mean : ExcName → Option Value) (mg mb : PySem.Str → Option Value)
    (dp un : Nat) (gd : Option (List Code)) (cn : PySem.Str) (cs : Scope) (a : Addr) (ccd : Value) (cl : List (PySem.Str × Addr)) (outer : List Env) (A₀ : Around) (base h₀ : Heap) (L : Addr) (m : PySem.Str → Option Value) (news : List (Addr × Obj)) (s : Shared)
    (Q E : Value → Shared → Prop),
    Below A₀ base outer h₀ → Fr h₀ L s.heap m → (K w.params).In h₀ → News h₀ L s.heap news → Top p loose mean mg mb h₀ → cs.kind = .function → dp + 200 < recursionLimit → un + 64 < cLine →
    (∀ (D : Addr) (h' : Heap) (tk' : Nat) (x y z : Int) (t1 t2 t3 : Tok), Fr h₀ L h' m → News h₀ L h' ((D, tup3 x y z t1 t2 t3) :: news) → (∀ p ∈ news, p.1 < D) → P x y z → Q (.ref D) { s with heap := h', toks := tk' }) →
    wpAny (model prog w) (ktrTop dp un gd cn cs L a ccd cl outer) (call (.ref f) args) Q E s
theorem retT {h₀ : Heap} {L : Addr} {m : PySem.Str → Option Value} {news rest : List (Addr × Obj)} {s : Shared} {Q : Value → Shared → Prop} {h' : Heap} {tk' : Nat} {P : Int → Int → Int → Prop} {D : Addr} {x y z : Int} {t1 t2 t3 : Tok}
    (hret : ∀ (D : Addr) (h' : Heap) (tk' : Nat) (x y z : Int) (t1 t2 t3 : Tok), Fr h₀ L h' m → News h₀ L h' ((D, tup3 x y z t1 t2 t3) :: news) → (∀ p ∈ news, p.1 < D) → P x y z → Q (.ref D) { s with heap := h', toks := tk' })
    (F : Fr h₀ L h' m) (N : News h₀ L h' ((D, tup3 x y z t1 t2 t3) :: rest)) (hs : ∀ p ∈ news, p ∈ rest) (hl : ∀ p ∈ news, p.1 < D) (hP : P x y z) : Q (.ref D) { s with heap := h', toks := tk' } :=
  hret D h' tk' x y z t1 t2 t3 F (cb_drop N (fun p hp => by
    rcases List.mem_cons.mp hp with h | h
    · rw [h]; exact .head _
    · exact .tail _ (hs p h))) hl hP
/-- a cut: what stands behind a statement, whatever way led there; a name that ps does not tell is forgotten -/
def CutEnd {σ : Type} (h₀ : Heap) (L : Addr) (s : Shared) (Led : σ → List (Addr × Obj)) (ps : σ → List (PySem.Str × Value)) (P : σ → Prop) (s₂ : Shared) : Prop :=
  ∃ (c' : σ) (h' : Heap) (tk : Nat) (m' : PySem.Str → Option Value) (news' : List (Addr × Obj)), s₂ = { s with heap := h', toks := tk } ∧ Fr h₀ L h' m' ∧ News h₀ L h' news' ∧ (∀ p ∈ Led c', p ∈ news') ∧ (∀ p ∈ ps c', m' p.1 = some p.2) ∧ P c'
def CutPost {σ : Type} (h₀ : Heap) (L : Addr) (s : Shared) (Led : σ → List (Addr × Obj)) (ps : σ → List (PySem.Str × Value)) (P : σ → Prop) (Q : Flow → Shared → Prop) (f : Flow) (s₂ : Shared) : Prop :=
  match f with
  | .next => CutEnd h₀ L s Led ps P s₂
  | f => Q f s₂
theorem cut_end {σ : Type} {h₀ : Heap} {L : Addr} {s : Shared} {Led : σ → List (Addr × Obj)} {ps : σ → List (PySem.Str × Value)} {m' : PySem.Str → Option Value} {P : σ → Prop} {h' : Heap} {tk : Nat} {news' : List (Addr × Obj)} (c' : σ)
    (F : Fr h₀ L h' m') (N : News h₀ L h' news') (hn : ∀ p ∈ Led c', p ∈ news') (hk : ∀ p ∈ ps c', m' p.1 = some p.2) (hp : P c') :
    CutEnd h₀ L s Led ps P { s with heap := h', toks := tk } := ⟨c', h', tk, m', news', rfl, F, N, hn, hk, hp⟩
theorem cut_any {σ : Type} {M : Model} {A : Around} {t : Sem Flow} {Q : Flow → Shared → Prop} {E : Value → Shared → Prop} {h₀ : Heap} {L : Addr} {s : Shared} {m₀ : PySem.Str → Option Value}
    (Led : σ → List (Addr × Obj)) (ps : σ → List (PySem.Str × Value)) (P : σ → Prop) (_F : Fr h₀ L s.heap m₀)
    (h : wpAny M A t (CutPost h₀ L s Led ps P Q) E s)
    (k : ∀ (c : σ) (u : PySem.Str → Option Value) (h' : Heap) (tk : Nat), P c → Fr h₀ L h' (kstB u (ps c)) → News h₀ L h' (Led c) → Q .next { s with heap := h', toks := tk }) :
    wpAny M A t Q E s := by
  refine wpAny_mono h (fun f s₂ h₂ => ?_) fun _ _ x => x
  cases f with
  | next =>
    obtain ⟨c', h', tk, m', news', rfl, F, N, hn, hk, hp⟩ := h₂
    refine k c' m' h' tk hp ?_ fun p hp => N p (hn p hp)
    have em : kstB m' (ps c') = m' := by
      funext y
      exact kstB_eq hk fun _ => rfl
    rw [em]
    exact F
  | cont => exact h₂
  | brk => exact h₂
  | ret v => exact h₂

theorem Ctr.use {prog p : Program} {K : Params → Frag} {f : Addr} {args : List Value} {R : Tok → Value} (C : Ctr prog p K f args R)
    {w : World} {loose : List PySem.Str} {mean : ExcName → Option Value} {mg mb : PySem.Str → Option Value}
    {dp un : Nat} {gd : Option (List Code)} {cn : PySem.Str} {cs : Scope} {a : Addr} {ccd : Value} {cl : List (PySem.Str × Addr)} {outer : List Env} {A₀ : Around} {base h₀ : Heap} {L : Addr} {m : PySem.Str → Option Value} {news : List (Addr × Obj)} {s : Shared}
    {Q E : Value → Shared → Prop} (B : Below A₀ base outer h₀) (F : Fr h₀ L s.heap m) (X : (K w.params).In h₀) (N : News h₀ L s.heap news) (T : Top p loose mean mg mb h₀) (hk : cs.kind = .function) (hd : dp + 200 < recursionLimit) (hu : un + 64 < cLine)
    (ret : ∀ t h' tk', Fr h₀ L h' m → News h₀ L h' news → Q (R t) { s with heap := h', toks := tk' }) :
    wpAny (model prog w) (ktrTop dp un gd cn cs L a ccd cl outer) (call (.ref f) args) Q E s := C _ _ _ _ _ _ _ _ _ _ _ _ _ _ _ _ _ _ _ _ _ _ _ B F X N T hk hd hu ret
theorem CtrT.use {prog p : Program} {K : Params → Frag} {f : Addr} {args : List Value} {P : Int → Int → Int → Prop} (C : CtrT prog p K f args P)
    {w : World} {loose : List PySem.Str} {mean : ExcName → Option Value} {mg mb : PySem.Str → Option Value}
    {dp un : Nat} {gd : Option (List Code)} {cn : PySem.Str} {cs : Scope} {a : Addr} {ccd : Value} {cl : List (PySem.Str × Addr)} {outer : List Env} {A₀ : Around} {base h₀ : Heap} {L : Addr} {m : PySem.Str → Option Value} {news : List (Addr × Obj)} {s : Shared}
    {Q E : Value → Shared → Prop} (B : Below A₀ base outer h₀) (F : Fr h₀ L s.heap m) (X : (K w.params).In h₀) (N : News h₀ L s.heap news) (T : Top p loose mean mg mb h₀) (hk : cs.kind = .function) (hd : dp + 200 < recursionLimit) (hu : un + 64 < cLine)
    (ret : ∀ (D : Addr) (h' : Heap) (tk' : Nat) (x y z : Int) (t1 t2 t3 : Tok), Fr h₀ L h' m → News h₀ L h' ((D, tup3 x y z t1 t2 t3) :: news) → (∀ p ∈ news, p.1 < D) → P x y z → Q (.ref D) { s with heap := h', toks := tk' }) :
    wpAny (model prog w) (ktrTop dp un gd cn cs L a ccd cl outer) (call (.ref f) args) Q E s := C _ _ _ _ _ _ _ _ _ _ _ _ _ _ _ _ _ _ _ _ _ _ _ B F X N T hk hd hu ret
/-- as Ctr, of a def that reads the call's own list of ints -/
abbrev CtrL (prog p : Program) (K : Params → Frag) (f : Addr) (l : Addr) (vs : List Value) (args : List Value) (R : Tok → Value) : Prop :=
  ∀ (w : World) (loose : List PySem.Str) (mean : ExcName → Option Value) (mg mb : PySem.Str → Option Value)
    (dp un : Nat) (gd : Option (List Code)) (cn : PySem.Str) (cs : Scope) (a : Addr) (ccd : Value) (cl : List (PySem.Str × Addr)) (outer : List Env) (A₀ : Around) (base h₀ : Heap) (L : Addr) (m : PySem.Str → Option Value) (news : List (Addr × Obj)) (s : Shared)
    (Q E : Value → Shared → Prop),
    Below A₀ base outer h₀ → Fr h₀ L s.heap m → (K w.params).In h₀ → News h₀ L s.heap news → Top p loose mean mg mb h₀ → cs.kind = .function → dp + 200 < recursionLimit → un + 64 < cLine → base.IsList l vs.toArray →
    (∀ t h' tk', Fr h₀ L h' m → News h₀ L h' news → Q (R t) { s with heap := h', toks := tk' }) →
    wpAny (model prog w) (ktrTop dp un gd cn cs L a ccd cl outer) (call (.ref f) args) Q E s
theorem CtrL.use {prog p : Program} {K : Params → Frag} {f l : Addr} {vs : List Value} {args : List Value} {R : Tok → Value} (C : CtrL prog p K f l vs args R)
    {w : World} {loose : List PySem.Str} {mean : ExcName → Option Value} {mg mb : PySem.Str → Option Value}
    {dp un : Nat} {gd : Option (List Code)} {cn : PySem.Str} {cs : Scope} {a : Addr} {ccd : Value} {cl : List (PySem.Str × Addr)} {outer : List Env} {A₀ : Around} {base h₀ : Heap} {L : Addr} {m : PySem.Str → Option Value} {news : List (Addr × Obj)} {s : Shared}
    {Q E : Value → Shared → Prop} (B : Below A₀ base outer h₀) (F : Fr h₀ L s.heap m) (X : (K w.params).In h₀) (N : News h₀ L s.heap news) (T : Top p loose mean mg mb h₀) (hk : cs.kind = .function) (hd : dp + 200 < recursionLimit) (hu : un + 64 < cLine) (hl : base.IsList l vs.toArray)
    (ret : ∀ t h' tk', Fr h₀ L h' m → News h₀ L h' news → Q (R t) { s with heap := h', toks := tk' }) :
    wpAny (model prog w) (ktrTop dp un gd cn cs L a ccd cl outer) (call (.ref f) args) Q E s := C _ _ _ _ _ _ _ _ _ _ _ _ _ _ _ _ _ _ _ _ _ _ _ B F X N T hk hd hu hl ret

/-- as CtrL, of a def that gives a new object of which P holds -/
abbrev CtrO (prog p : Program) (K : Params → Frag) (f : Addr) (l : Addr) (vs : List Value) (args : List Value) (P : Obj → Prop) : Prop :=
  ∀ (w : World) (loose : List PySem.Str) (mean : ExcName → Option Value) (mg mb : PySem.Str → Option Value)
    (dp un : Nat) (gd : Option (List Code)) (cn : PySem.Str) (cs : Scope) (a : Addr) (ccd : Value) (cl : List (PySem.Str × Addr)) (outer : List Env) (A₀ : Around) (base h₀ : Heap) (L : Addr) (m : PySem.Str → Option Value) (news : List (Addr × Obj)) (s : Shared)
    (Q E : Value → Shared → Prop),
    Below A₀ base outer h₀ → Fr h₀ L s.heap m → (K w.params).In h₀ → News h₀ L s.heap news → Top p loose mean mg mb h₀ → cs.kind = .function → dp + 210 < recursionLimit → un + 100 < cLine → base.IsList l vs.toArray →
    (∀ (D : Addr) (h' : Heap) (tk' : Nat) (o : Obj), Fr h₀ L h' m → News h₀ L h' ((D, o) :: news) → (∀ p ∈ news, p.1 < D) → P o → Q (.ref D) { s with heap := h', toks := tk' }) →
    wpAny (model prog w) (ktrTop dp un gd cn cs L a ccd cl outer) (call (.ref f) args) Q E s
theorem CtrO.use {prog p : Program} {K : Params → Frag} {f l : Addr} {vs : List Value} {args : List Value} {P : Obj → Prop} (C : CtrO prog p K f l vs args P)
    {w : World} {loose : List PySem.Str} {mean : ExcName → Option Value} {mg mb : PySem.Str → Option Value}
    {dp un : Nat} {gd : Option (List Code)} {cn : PySem.Str} {cs : Scope} {a : Addr} {ccd : Value} {cl : List (PySem.Str × Addr)} {outer : List Env} {A₀ : Around} {base h₀ : Heap} {L : Addr} {m : PySem.Str → Option Value} {news : List (Addr × Obj)} {s : Shared}
    {Q E : Value → Shared → Prop} (B : Below A₀ base outer h₀) (F : Fr h₀ L s.heap m) (X : (K w.params).In h₀) (N : News h₀ L s.heap news) (T : Top p loose mean mg mb h₀) (hk : cs.kind = .function) (hd : dp + 210 < recursionLimit) (hu : un + 100 < cLine) (hl : base.IsList l vs.toArray)
    (ret : ∀ (D : Addr) (h' : Heap) (tk' : Nat) (o : Obj), Fr h₀ L h' m → News h₀ L h' ((D, o) :: news) → (∀ p ∈ news, p.1 < D) → P o → Q (.ref D) { s with heap := h', toks := tk' }) :
    wpAny (model prog w) (ktrTop dp un gd cn cs L a ccd cl outer) (call (.ref f) args) Q E s := C _ _ _ _ _ _ _ _ _ _ _ _ _ _ _ _ _ _ _ _ _ _ _ B F X N T hk hd hu hl ret
theorem retO {h₀ : Heap} {L : Addr} {m : PySem.Str → Option Value} {news rest : List (Addr × Obj)} {s : Shared} {Q : Value → Shared → Prop} {h' : Heap} {tk' : Nat} {P : Obj → Prop} {D : Addr} {o : Obj}
    (hret : ∀ (D : Addr) (h' : Heap) (tk' : Nat) (o : Obj), Fr h₀ L h' m → News h₀ L h' ((D, o) :: news) → (∀ p ∈ news, p.1 < D) → P o → Q (.ref D) { s with heap := h', toks := tk' })
    (F : Fr h₀ L h' m) (N : News h₀ L h' ((D, o) :: rest)) (hs : ∀ p ∈ news, p ∈ rest) (hl : ∀ p ∈ news, p.1 < D) (hP : P o) : Q (.ref D) { s with heap := h', toks := tk' } :=
  hret D h' tk' o F (cb_drop N (fun p hp => by
    rcases List.mem_cons.mp hp with h | h
    · rw [h]; exact .head _
    · exact .tail _ (hs p h))) hl hP
/-- a call of the def at f with these arguments ends, and what comes back is as R says; all that it makes is forgotten; with room for a call within -/
abbrev Ctr2 (prog p : Program) (K : Params → Frag) (f : Addr) (args : List Value) (R : Tok → Value) : Prop :=
  ∀ (w : World) (loose : List PySem.Str) (mean : ExcName → Option Value) (mg mb : PySem.Str → Option Value)
    (dp un : Nat) (gd : Option (List Code)) (cn : PySem.Str) (cs : Scope) (a : Addr) (ccd : Value) (cl : List (PySem.Str × Addr)) (outer : List Env) (A₀ : Around) (base h₀ : Heap) (L : Addr) (m : PySem.Str → Option Value) (news : List (Addr × Obj)) (s : Shared)
    (Q E : Value → Shared → Prop),
    Below A₀ base outer h₀ → Fr h₀ L s.heap m → (K w.params).In h₀ → News h₀ L s.heap news → Top p loose mean mg mb h₀ → cs.kind = .function → dp + 210 < recursionLimit → un + 100 < cLine →
    (∀ t h' tk', Fr h₀ L h' m → News h₀ L h' news → Q (R t) { s with heap := h', toks := tk' }) →
    wpAny (model prog w) (ktrTop dp un gd cn cs L a ccd cl outer) (call (.ref f) args) Q E s

theorem Ctr2.use {prog p : Program} {K : Params → Frag} {f : Addr} {args : List Value} {R : Tok → Value} (C : Ctr2 prog p K f args R)
    {w : World} {loose : List PySem.Str} {mean : ExcName → Option Value} {mg mb : PySem.Str → Option Value}
    {dp un : Nat} {gd : Option (List Code)} {cn : PySem.Str} {cs : Scope} {a : Addr} {ccd : Value} {cl : List (PySem.Str × Addr)} {outer : List Env} {A₀ : Around} {base h₀ : Heap} {L : Addr} {m : PySem.Str → Option Value} {news : List (Addr × Obj)} {s : Shared}
    {Q E : Value → Shared → Prop} (B : Below A₀ base outer h₀) (F : Fr h₀ L s.heap m) (X : (K w.params).In h₀) (N : News h₀ L s.heap news) (T : Top p loose mean mg mb h₀) (hk : cs.kind = .function) (hd : dp + 210 < recursionLimit) (hu : un + 100 < cLine)
    (ret : ∀ t h' tk', Fr h₀ L h' m → News h₀ L h' news → Q (R t) { s with heap := h', toks := tk' }) :
    wpAny (model prog w) (ktrTop dp un gd cn cs L a ccd cl outer) (call (.ref f) args) Q E s := C _ _ _ _ _ _ _ _ _ _ _ _ _ _ _ _ _ _ _ _ _ _ _ B F X N T hk hd hu ret
/-- what stands of extgcd's letters when its first turn is over -/
def ERest (y a g u w : Int) : Prop :=
  ∃ σ ε A U G W : Int, (σ = 1 ∧ 0 < y ∨ σ = -1 ∧ y < 0) ∧ (ε = 1 ∨ ε = -1) ∧ a = -(ε * A) ∧ u = ε * U ∧ g = σ * G ∧ w = σ * W ∧
    0 ≤ A ∧ 1 ≤ U ∧ 0 ≤ W ∧ W < G ∧ U * G + A * W = σ * y ∧ (A = 0 → ε = 1) ∧ (W = 0 → 2 * A ≤ U ∧ (2 * A = U → ε = -1))
def EInv (x y a b g u v w : Int) : Prop :=
  a * x + b * y = g ∧ u * x + v * y = w ∧ Int.gcd g w = Int.gcd x y ∧
    ((a = 1 ∧ b = 0 ∧ g = x ∧ u = 0 ∧ v = 1 ∧ w = y) ∨ ERest y a g u w)
theorem eInv_start (x y : Int) : EInv x y 1 0 x 0 1 y := by
  refine ⟨by simp, by simp, rfl, .inl ⟨rfl, rfl, rfl, rfl, rfl, rfl⟩⟩
theorem fdm (g w : Int) : w * Int.fdiv g w + Int.fmod g w = g := Int.mul_fdiv_add_fmod g w
theorem gcd_fmod (g w : Int) : Int.gcd w (Int.fmod g w) = Int.gcd g w := by
  have h := fdm g w
  have e : Int.fmod g w = g - w * Int.fdiv g w := by omega
  rw [e, Int.gcd_sub_mul_left_right, Int.gcd_comm]
theorem fmod_pos {g w : Int} (h : 0 < w) : 0 ≤ Int.fmod g w ∧ Int.fmod g w < w := ⟨Int.fmod_nonneg_of_pos g h, Int.fmod_lt_of_pos g h⟩
theorem fmod_neg {g w : Int} (h : w < 0) : w < Int.fmod g w ∧ Int.fmod g w ≤ 0 := by
  have e : Int.fmod g w = -Int.fmod (-g) (-w) := by
    have := Int.neg_fmod_neg g w
    omega
  have := fmod_pos (g := -g) (w := -w) (by omega)
  omega
theorem mul_ge {a b : Int} (ha : 1 ≤ a) (hb : 0 ≤ b) : b ≤ a * b := by
  have := Int.mul_le_mul_of_nonneg_right ha hb
  omega
theorem eInv_turn {x y a b g u v w : Int} (h : EInv x y a b g u v w) (hw : w ≠ 0) :
    EInv x y u v w (a - Int.fdiv g w * u) (b - Int.fdiv g w * v) (Int.fmod g w) := by
  obtain ⟨h1, h2, h3, h4⟩ := h
  have hq := fdm g w
  have hg := gcd_fmod g w
  have hp := @fmod_pos g w
  have hn := @fmod_neg g w
  generalize Int.fdiv g w = q at *
  generalize Int.fmod g w = t at *
  refine ⟨h2, by grind, by rw [hg, h3], .inr ?_⟩
  rcases h4 with ⟨rfl, rfl, rfl, rfl, rfl, rfl⟩ | ⟨σ, ε, A, U, G, W, hs, he, ha, hu, hgG, hwW, hA, hU, hW, hWG, hsum, hA0, hW0⟩
  · by_cases hy : 0 < w
    · exact ⟨1, 1, 0, 1, w, t, .inl ⟨rfl, hy⟩, .inl rfl, by omega, by omega, by omega, by omega, by omega, by omega, (hp hy).1, (hp hy).2, by omega, fun _ => rfl, fun _ => ⟨by omega, fun h => by omega⟩⟩
    · have hy : w < 0 := by omega
      have := hn hy
      exact ⟨-1, 1, 0, 1, -w, -t, .inr ⟨rfl, hy⟩, .inl rfl, by omega, by omega, by omega, by omega, by omega, by omega, by omega, by omega, by omega, fun _ => rfl, fun _ => ⟨by omega, fun h => by omega⟩⟩
  · -- σ t = G - q W
    have hσ : σ * σ = 1 := by rcases hs with ⟨rfl, _⟩ | ⟨rfl, _⟩ <;> rfl
    have hε : ε * ε = 1 := by rcases he with rfl | rfl <;> rfl
    have hW1 : 0 < W := by
      rcases hs with ⟨rfl, _⟩ | ⟨rfl, _⟩ <;> omega
    have ht : 0 ≤ σ * t ∧ σ * t < W := by
      rcases hs with ⟨rfl, _⟩ | ⟨rfl, _⟩
      · have := hp (by omega); omega
      · have := hn (by omega); omega
    have hGq : σ * t = G - q * W := by grind
    have hq1 : 1 ≤ q := by
      rcases Int.lt_or_le 0 q with h | h
      · omega
      · have : q * W ≤ 0 := Int.mul_nonpos_of_nonpos_of_nonneg h (by omega)
        omega
    have hqU : U ≤ q * U := mul_ge hq1 (by omega)
    refine ⟨σ, -ε, U, A + q * U, W, σ * t, hs, by omega, by grind, by grind, hwW, by grind, by omega, by omega, ht.1, ht.2, by grind, fun h => by omega, fun h0 => ?_⟩
    have hq2 : 2 ≤ q := by
      rcases Int.lt_or_le 1 q with h | h
      · omega
      · have : q = 1 := by omega
        subst this
        omega
    have hq2U : 2 * U ≤ q * U := Int.mul_le_mul_of_nonneg_right hq2 (by omega)
    refine ⟨by omega, fun h => ?_⟩
    have : A = 0 := by omega
    have := hA0 this
    omega
theorem e_less {g w : Int} (hw : w ≠ 0) : (Int.fmod g w).natAbs < w.natAbs := by
  rcases Int.lt_or_le 0 w with h | h
  · have := fmod_pos (g := g) h; omega
  · have := fmod_neg (g := g) (w := w) (by omega); omega
theorem le_of_mul_le {a b c : Int} (ha : 0 < a) (h : a * b ≤ a * c) : b ≤ c := Int.le_of_mul_le_mul_left h ha

/-- the numbers stay small -/
theorem e_small {x y a b g u v w : Int} (h : EInv x y a b g u v w) :
    g.natAbs ≤ x.natAbs + y.natAbs ∧ u.natAbs ≤ y.natAbs ∧ v.natAbs ≤ x.natAbs + 1 := by
  obtain ⟨h1, h2, h3, h4⟩ := h
  rcases h4 with ⟨rfl, rfl, rfl, rfl, rfl, rfl⟩ | ⟨σ, ε, A, U, G, W, hs, he, ha, hu, hgG, hwW, hA, hU, hW, hWG, hsum, hA0, hW0⟩
  · omega
  · have hAW : 0 ≤ A * W := Int.mul_nonneg hA hW
    have hUG : U ≤ G * U := mul_ge (by omega) (by omega)
    have hGU : G ≤ U * G := mul_ge (by omega) (by omega)
    have hc : G * U = U * G := Int.mul_comm ..
    have hu1 : u.natAbs ≤ y.natAbs := by
      rcases hs with ⟨rfl, _⟩ | ⟨rfl, _⟩ <;> rcases he with rfl | rfl <;> omega
    have hg1 : g.natAbs ≤ y.natAbs := by
      rcases hs with ⟨rfl, _⟩ | ⟨rfl, _⟩ <;> omega
    have hw1 : w.natAbs ≤ y.natAbs := by
      rcases hs with ⟨rfl, _⟩ | ⟨rfl, _⟩ <;> omega
    refine ⟨by omega, hu1, ?_⟩
    have hy0 : y ≠ 0 := by omega
    -- |v| |y| ≤ |w| + |u| |x|
    have e : v * y = w - u * x := by omega
    have e1 : v.natAbs * y.natAbs ≤ w.natAbs + u.natAbs * x.natAbs := by
      rw [← Int.natAbs_mul, ← Int.natAbs_mul, e]
      omega
    have e2 : u.natAbs * x.natAbs ≤ y.natAbs * x.natAbs := Nat.mul_le_mul_right _ hu1
    have e3 : v.natAbs * y.natAbs ≤ (x.natAbs + 1) * y.natAbs := by
      rw [Nat.add_mul, Nat.mul_comm x.natAbs]; omega
    exact Nat.le_of_mul_le_mul_right e3 (by omega)
theorem fdiv_small {g w : Int} : (Int.fdiv g w).natAbs ≤ g.natAbs := by
  by_cases hw : w = 0
  · subst hw; simp
  have hq := fdm g w
  have hp := @fmod_pos g w
  have hn := @fmod_neg g w
  generalize Int.fdiv g w = q at *
  generalize Int.fmod g w = t at *
  rcases Int.lt_or_le 0 q with h | h
  · -- q > 0
    rcases Int.lt_or_le 0 w with h' | h'
    · have := mul_ge (a := w) (b := q) (by omega) (by omega); have := hp h'; omega
    · have := mul_ge (a := -w) (b := q) (by omega) (by omega); have := hn (by omega); have e : -w * q = -(w * q) := Int.neg_mul ..; omega
  · rcases Int.lt_or_le 0 w with h' | h'
    · by_cases hq0 : q = 0
      · omega
      have := mul_ge (a := w) (b := -q - 1) (by omega) (by omega); have := hp h'
      have e : w * (-q - 1) = -(w * q) - w := by grind
      omega
    · by_cases hq0 : q = 0
      · omega
      have := mul_ge (a := -w) (b := -q - 1) (by omega) (by omega); have := hn (by omega)
      have e : -w * (-q - 1) = w * q + w := by grind
      omega
/-- what extgcd gives -/
def ExtSpec (x y u v d : Int) : Prop :=
  u * x + v * y = d ∧ d = (Int.gcd x y : Int) ∧ (y = 0 → 0 ≤ x → u = 1 ∧ v = 0) ∧ (y = 0 → x < 0 → u = -1 ∧ v = 0) ∧
    (y ≠ 0 → ∃ n : Int, 0 < d ∧ 0 < n ∧ (0 < y → n * d = y ∧ -n < 2 * u ∧ 2 * u ≤ n) ∧ (y < 0 → n * d = -y ∧ -n ≤ 2 * u ∧ 2 * u < n)) ∧
    u.natAbs ≤ y.natAbs + 1 ∧ v.natAbs ≤ x.natAbs + 1
theorem small_of_mul {a b x y d : Int} (h : a * x + b * y = d) (hy : y ≠ 0) (ha : a.natAbs ≤ y.natAbs) (hd : d.natAbs ≤ y.natAbs) : b.natAbs ≤ x.natAbs + 1 := by
  have e : b * y = d - a * x := by omega
  have e1 : b.natAbs * y.natAbs ≤ d.natAbs + a.natAbs * x.natAbs := by
    rw [← Int.natAbs_mul, ← Int.natAbs_mul, e]
    omega
  have e2 : a.natAbs * x.natAbs ≤ y.natAbs * x.natAbs := Nat.mul_le_mul_right _ ha
  have e3 : b.natAbs * y.natAbs ≤ (x.natAbs + 1) * y.natAbs := by
    rw [Nat.add_mul, Nat.mul_comm x.natAbs]; omega
  exact Nat.le_of_mul_le_mul_right e3 (by omega)
theorem gcd_zero_abs {g x y : Int} (h : Int.gcd g 0 = Int.gcd x y) : (Int.gcd x y : Int) = g.natAbs := by
  rw [← h, Int.gcd_zero_right]
theorem e_end {x y a b g u v w : Int} (h : EInv x y a b g u v w) (hw : w = 0) :
    (0 ≤ g → ExtSpec x y a b g) ∧ (¬ 0 ≤ g → ExtSpec x y (-a) (-b) (-g)) := by
  subst hw
  obtain ⟨h1, h2, h3, h4⟩ := h
  have hgc := gcd_zero_abs h3
  rcases h4 with ⟨rfl, rfl, rfl, rfl, rfl, rfl⟩ | ⟨σ, ε, A, U, G, W, hs, he, ha, hu, hgG, hwW, hA, hU, hW, hWG, hsum, hA0, hW0⟩
  · refine ⟨fun hg => ⟨h1, by omega, fun _ _ => ⟨rfl, rfl⟩, fun _ _ => by omega, fun h => absurd rfl h, by omega, by omega⟩,
      fun hg => ⟨by omega, by omega, fun _ _ => by omega, fun _ _ => ⟨rfl, rfl⟩, fun h => absurd rfl h, by omega, by omega⟩⟩
  · have hWz : W = 0 := by rcases hs with ⟨rfl, _⟩ | ⟨rfl, _⟩ <;> omega
    subst hWz
    obtain ⟨hAU, hAe⟩ := hW0 rfl
    have hUG : U * G = σ * y := by rw [← hsum]; simp
    have hU1 : U ≤ G * U := mul_ge (by omega) (by omega)
    have hG1 : G ≤ U * G := mul_ge (by omega) (by omega)
    have hc : G * U = U * G := Int.mul_comm ..
    have hay : a.natAbs ≤ y.natAbs := by
      rcases hs with ⟨rfl, _⟩ | ⟨rfl, _⟩ <;> rcases he with rfl | rfl <;> omega
    have hgy : g.natAbs ≤ y.natAbs := by
      rcases hs with ⟨rfl, _⟩ | ⟨rfl, _⟩ <;> omega
    have hb := small_of_mul h1 (by omega) hay hgy
    refine ⟨fun hg => ⟨h1, by omega, fun h => by omega, fun h => by omega, fun _ => ⟨U, ?_, by omega, fun hy => ?_, fun hy => ?_⟩, by omega, by omega⟩,
      fun hg => ⟨?_, by omega, fun h => by omega, fun h => by omega, fun _ => ⟨U, ?_, by omega, fun hy => ?_, fun hy => ?_⟩, by omega, by omega⟩⟩
    · rcases hs with ⟨rfl, _⟩ | ⟨rfl, _⟩ <;> omega
    · obtain ⟨rfl, _⟩ | ⟨rfl, _⟩ := hs
      · have e : g = G := by omega
        subst e
        rcases he with rfl | rfl <;> omega
      · omega
    · obtain ⟨rfl, _⟩ | ⟨rfl, _⟩ := hs <;> omega
    · rw [← h1, Int.neg_mul, Int.neg_mul]; omega
    · rcases hs with ⟨rfl, _⟩ | ⟨rfl, _⟩ <;> omega
    · obtain ⟨rfl, _⟩ | ⟨rfl, _⟩ := hs <;> omega
    · obtain ⟨rfl, _⟩ | ⟨rfl, _⟩ := hs
      · omega
      · have e : -g = G := by omega
        rw [e]
        rcases he with rfl | rfl <;> omega
local macro_rules | `(tactic| walk_at "execs cons") => `(tactic| ((with_reducible refine wpAny_execs_cons ?_); (try (with_reducible refine gen_toks ?_; intro tk9)); try dsimp only))
local macro_rules | `(tactic| walk_at "execs nil") => `(tactic| refine wpAny_execs_nil ?_)
local macro_rules | `(tactic| walk_at "my_lt") => `(tactic| first
  | assumption
  | exact ktn_ltOf (by assumption)
  | ((rename _ ∧ AllLt _ _ => hlt9); exact ktn_ltOf hlt9.2)
  | ((rename _ ∧ _ ∧ AllLt _ _ => hlt9); exact ktn_ltOf hlt9.2.2)
  | ((rename _ ∧ _ ∧ _ ∧ AllLt _ _ => hlt9); exact ktn_ltOf hlt9.2.2.2))
local macro_rules | `(tactic| walk_at "my_room") => `(tactic| exact Or.inr (PySem.PylongRoom.of (PySem.Heap.NoLimit.keeps (PyProof.Rows.Top.nolimit (by k_asm)) (PyProof.Rows.Fr.keep (by k_asm))) (by (show _ + 100 < _); ktr_room)))
local macro_rules | `(tactic| walk_at "call builtin:divmod") => `(tactic| (k_here; (with_reducible show wpAny _ _ (call (Value.builtin _) [Value.int _ _, Value.int _ _]) _ _ _); k_dflt (refine' divmod_N ?k1 ?k2 ?k3 ?_ ?k4; (case k1 => k_asm); (case k2 => k_asm); (case k3 => assumption); (case k4 => walk_at "my_room"); k_whole); intro h' F' N'))
local macro_rules | `(tactic| walk_at "CutPost") => `(tactic| (dsimp only [CutPost]))
local macro_rules | `(tactic| walk_at "my_use") => `(tactic| (
  (case k1 => first | k_asm | ktn_no "my_use: the frames below")
  (case k2 => first | k_asm | ktn_no "my_use: the frame")
  (case k3 => first | k_asm | ktn_no "my_use: the written part")
  (case k4 => first | k_asm | ktn_no "my_use: the ledger")
  (case k5 => first | k_asm | ktn_no "my_use: the top's facts")
  (case kK => first | exact rfl | assumption | ktn_no "my_use: the caller is no def")
  (case kd => first | ktr_room | ktn_no "my_use: the frames' room")
  (case ku => first | ktr_units | ktn_no "my_use: the C units")))
theorem gcd_turn {a b A B : Int} (_ha : 0 ≤ a) (hb : 0 ≤ b) (h : Int.gcd a b = Int.gcd A B) (h0 : b ≠ 0) : 0 ≤ b ∧ 0 ≤ Int.fmod a b ∧ Int.gcd b (Int.fmod a b) = Int.gcd A B := by
  refine ⟨hb, Int.fmod_nonneg_of_pos a (by omega), ?_⟩
  rw [← h, gcd_fmod]
theorem gcd_less {a b : Int} (hb : 0 ≤ b) (h0 : b ≠ 0) : (Int.fmod a b).toNat < b.toNat := by
  have := Int.fmod_lt_of_pos a (show 0 < b by omega)
  omega
theorem gcd_end {a b x y : Int} (ha : 0 ≤ a) (h : Int.gcd a b = Int.gcd (if x < 0 then -x else x) (if y < 0 then -y else y)) (h0 : b = 0) : a = (Int.gcd x y : Int) := by
  subst h0
  have e : Int.gcd (if x < 0 then -x else x) (if y < 0 then -y else y) = Int.gcd x y := by split <;> split <;> simp [Int.neg_gcd, Int.gcd_neg]
  rw [← e, ← h, Int.gcd_zero_right]
  omega
theorem gcd_c (x y : Int) (t1 t2 : Tok) : Ctr PySem.Challenge.rw_yz0001_01.row.prog hd.view_39 hd.heap_39 28 [.int x t1, .int y t2] (fun t => .int (Int.gcd x y) t) := by
  have hd0 : PySem.Challenge.rw_yz0001_01 = PySem.Challenge.rw_yz0001_01 ∧ hd.heap_39 = hd.heap_39 := by k_fill; exact ⟨rfl, rfl⟩
  clear hd0
  k_with_none
  k_with "exec While Name cons nil" => k_while_given ["a!", "b!"] (fun a0 b0 _ a b => 0 ≤ a ∧ 0 ≤ b ∧ Int.gcd a b = Int.gcd a0 b0) (fun a0 b0 _ a b => b.toNat) "a" "b"
  k_with "state" => exact gcd_turn (by assumption) (by assumption) (by assumption) (by assumption)
  k_with "measure" => exact gcd_less (by assumption) (by assumption)
  intro w loose mean mg mb dp un gd cn cs a ccd cl outer A₀ base h₀ L m news s Q E B F X N T hk hdp hun hret
  refine wpAny_call ?_
  k_dflt cell_enter
  k_steps
  all_goals (refine ret1 hret (by k_asm) (by k_asm) (by kcj_all) ?_)
  all_goals exact gcd_end (by assumption) (by assumption) (by assumption)
section
theorem eM1 {M : Nat} {x y a b g u v w : Int} (hM : SizeOk M) (hx : x.natAbs + y.natAbs + 1 ≤ M) (h : EInv x y a b g u v w) : IntMulOk (Int.fdiv g w) u := by
  have h1 := e_small h
  have h2 := @fdiv_small g w
  exact hM.mul (by omega) (by omega)
theorem eM2 {M : Nat} {x y a b g u v w : Int} (hM : SizeOk M) (hx : x.natAbs + y.natAbs + 1 ≤ M) (h : EInv x y a b g u v w) : IntMulOk (Int.fdiv g w) v := by
  have h1 := e_small h
  have h2 := @fdiv_small g w
  exact hM.mul (by omega) (by omega)
local macro_rules | `(tactic| walk_at "binaryOp Mult int int") => `(tactic| first | (with_reducible refine mul_int ?_ (eM1 (by assumption) (by assumption) (by assumption))) | (with_reducible refine mul_int ?_ (eM2 (by assumption) (by assumption) (by assumption))))
theorem ext_c (M : Nat) (x y : Int) (t1 t2 : Tok) (hM : SizeOk M) (hxy : x.natAbs + y.natAbs + 1 ≤ M) : CtrT PySem.Challenge.rw_yz0001_01.row.prog hd.view_39 hd.heap_39 42 [.int x t1, .int y t2] (ExtSpec x y) := by
  have hd0 : PySem.Challenge.rw_yz0001_01 = PySem.Challenge.rw_yz0001_01 ∧ hd.heap_39 = hd.heap_39 := by k_fill; exact ⟨rfl, rfl⟩
  clear hd0
  k_with_none
  k_with "exec While Name cons nil" => k_while_given ["g!", "w!"] (fun x0 y0 _ a b g u v w => EInv x0 y0 a b g u v w) (fun x0 y0 _ a b g u v w => w.natAbs) "a" "b" "g" "u" "v" "w"
  k_with "state" => first | exact eInv_start _ _ | exact eInv_turn (by assumption) (by assumption)
  k_with "measure" => exact e_less (by assumption)
  intro w loose mean mg mb dp un gd cn cs a ccd cl outer A₀ base h₀ L m news s Q E B F X N T hk hdp hun hret
  refine wpAny_call ?_
  k_dflt cell_enter
  k_steps
  all_goals (refine retT hret (by k_asm) (by k_asm) (by kcj_all) (by walk_at "my_lt") ?_)
  · exact (e_end (by assumption) (by assumption)).1 (by assumption)
  · exact (e_end (by assumption) (by assumption)).2 (by assumption)
end
def BI0 (x y a b : Int) : Prop := 0 ≤ b ∧ b ≤ a ∧ Int.gcd a b = Int.gcd x y
def BI1 (x y a b k : Int) : Prop := 0 < a ∧ 0 < b ∧ 0 ≤ k ∧ (Int.gcd a b : Int) * 2 ^ k.toNat = Int.gcd x y
def BI2 (x y a b k : Int) : Prop := BI1 x y a b k ∧ (a % 2 = 1 ∨ b % 2 = 1)
def BI3 (x y a b k : Int) : Prop := BI1 x y a b k ∧ a % 2 = 1
def BI4 (x y a b k : Int) : Prop := 0 ≤ a ∧ 0 < b ∧ 0 ≤ k ∧ (Int.gcd a b : Int) * 2 ^ k.toNat = Int.gcd x y ∧ b % 2 = 1
def BI5 (x y a₀ a b k : Int) : Prop := BI1 x y a b k ∧ b % 2 = 1 ∧ a ≤ a₀
theorem band1 (a : Int) : Builtin.bitAnd a 1 = a % 2 := bitAnd_m1 a
theorem fdiv2 (a : Int) : Int.fdiv a (2 ^ Int.toNat 1) = a / 2 := by
  show Int.fdiv a 2 = a / 2
  rw [Int.fdiv_eq_ediv_of_nonneg _ (by decide)]
theorem odd_of {a : Int} (h : Builtin.bitAnd a 1 ≠ 0) : a % 2 = 1 := by rw [band1] at h; omega
theorem even_of {a : Int} (h : Builtin.bitAnd a 1 = 0) : a % 2 = 0 := by rw [band1] at h; exact h
theorem gcd2_both {a b : Int} (ha : a % 2 = 0) (hb : b % 2 = 0) : (Int.gcd a b : Int) = Int.gcd (a / 2) (b / 2) * 2 := by
  have e1 : a = 2 * (a / 2) := by omega
  have e2 : b = 2 * (b / 2) := by omega
  have h := Int.gcd_mul_left 2 (a / 2) (b / 2)
  rw [← e1, ← e2] at h
  rw [h]
  show ((2 * Int.gcd (a / 2) (b / 2) : Nat) : Int) = _
  omega
theorem two_odd {b : Int} (hb : b % 2 = 1) : Int.gcd 2 b = 1 := by
  have h1 : (Int.gcd 2 b : Int) ∣ 2 := Int.gcd_dvd_left ..
  have h2 : (Int.gcd 2 b : Int) ∣ b := Int.gcd_dvd_right ..
  have h3 : Int.gcd 2 b ≤ 2 := Int.gcd_le_natAbs_left b (by decide)
  have h4 : 0 < Int.gcd 2 b := Int.gcd_pos_of_ne_zero_left b (by decide)
  rcases (show Int.gcd 2 b = 1 ∨ Int.gcd 2 b = 2 by omega) with h | h
  · exact h
  · rw [h] at h2
    obtain ⟨c, hc⟩ := h2
    omega
theorem gcd2_left {a b : Int} (ha : a % 2 = 0) (hb : b % 2 = 1) : Int.gcd (a / 2) b = Int.gcd a b := by
  have e1 : a = 2 * (a / 2) := by omega
  have h := Int.gcd_mul_right_left_of_gcd_eq_one (n := 2) (m := b) (k := a / 2) (two_odd hb)
  rw [← e1] at h
  exact h.symm
theorem gcd2_right {a b : Int} (hb : b % 2 = 0) (ha : a % 2 = 1) : Int.gcd a (b / 2) = Int.gcd a b := by
  rw [Int.gcd_comm, gcd2_left hb ha, Int.gcd_comm]
-- the start: the two numbers, the greater first
theorem bi0_a {x y : Int} (hx : 0 ≤ x) (hy : 0 ≤ y) (h : ¬ x < y) : BI0 x y x y := ⟨hy, by omega, rfl⟩
theorem bi0_b {x y : Int} (hx : 0 ≤ x) (hy : 0 ≤ y) (h : x < y) : BI0 x y y x := ⟨hx, by omega, Int.gcd_comm ..⟩
theorem bi0_zero {x y a b : Int} (h : BI0 x y a b) (hb : b = 0) : a = (Int.gcd x y : Int) := by
  obtain ⟨h1, h2, h3⟩ := h
  subst hb
  rw [← h3, Int.gcd_zero_right]; omega
theorem bi0_mod {x y a b : Int} (h : BI0 x y a b) (hb : b ≠ 0) (hr : Int.fmod a b = 0) : b = (Int.gcd x y : Int) := by
  obtain ⟨h1, h2, h3⟩ := h
  have := gcd_fmod a b
  rw [hr, Int.gcd_zero_right] at this
  rw [← h3, ← this]; omega
theorem bi1_start {x y a b : Int} (h : BI0 x y a b) (hb : b ≠ 0) (hr : Int.fmod a b ≠ 0) : BI1 x y b (Int.fmod a b) 0 := by
  obtain ⟨h1, h2, h3⟩ := h
  have := fmod_pos (g := a) (w := b) (by omega)
  refine ⟨by omega, by omega, by omega, ?_⟩
  rw [gcd_fmod, h3]; simp
theorem bi1_turn {x y a b k : Int} (h : BI1 x y a b k) (ha : Builtin.bitAnd a 1 = 0) (hb : Builtin.bitAnd b 1 = 0) : BI1 x y (Int.fdiv a (2 ^ Int.toNat 1)) (Int.fdiv b (2 ^ Int.toNat 1)) (k + 1) := by
  have ha := even_of ha
  have hb := even_of hb
  rw [fdiv2, fdiv2]
  obtain ⟨h1, h2, h3, h4⟩ := h
  refine ⟨by omega, by omega, by omega, ?_⟩
  rw [← h4, gcd2_both ha hb]
  have e : (k + 1).toNat = k.toNat + 1 := by omega
  rw [e, Int.pow_succ]
  grind
theorem half_less {a : Int} (h : 0 < a) : (Int.fdiv a (2 ^ Int.toNat 1)).toNat < a.toNat := by
  rw [fdiv2]; omega
theorem bi1_pos {x y a b k : Int} (h : BI1 x y a b k) : 0 < a := h.1
theorem bi2_a {x y a b k : Int} (h : BI1 x y a b k) (ha : Builtin.bitAnd a 1 ≠ 0) : BI2 x y a b k := ⟨h, .inl (odd_of ha)⟩
theorem bi2_b {x y a b k : Int} (h : BI1 x y a b k) (hb : Builtin.bitAnd b 1 ≠ 0) : BI2 x y a b k := ⟨h, .inr (odd_of hb)⟩
theorem bi2_turn {x y a b k : Int} (h : BI2 x y a b k) (ha : Builtin.bitAnd a 1 = 0) : BI2 x y (Int.fdiv a (2 ^ Int.toNat 1)) b k := by
  have ha := even_of ha
  obtain ⟨⟨h1, h2, h3, h4⟩, h5⟩ := h
  have hb : b % 2 = 1 := by omega
  rw [fdiv2]
  exact ⟨⟨by omega, h2, h3, by rw [gcd2_left ha hb]; exact h4⟩, .inr hb⟩
theorem bi3_start {x y a b k : Int} (h : BI2 x y a b k) (ha : Builtin.bitAnd a 1 ≠ 0) : BI3 x y a b k := ⟨h.1, odd_of ha⟩
theorem bi3_turn {x y a b k : Int} (h : BI3 x y a b k) (hb : Builtin.bitAnd b 1 = 0) : BI3 x y a (Int.fdiv b (2 ^ Int.toNat 1)) k := by
  have hb := even_of hb
  obtain ⟨⟨h1, h2, h3, h4⟩, h5⟩ := h
  rw [fdiv2]
  exact ⟨⟨h1, by omega, h3, by rw [gcd2_right hb h5]; exact h4⟩, h5⟩
theorem bi4_start {x y a b k : Int} (h : BI3 x y a b k) (hb : Builtin.bitAnd b 1 ≠ 0) : BI4 x y a b k :=
  ⟨Int.le_of_lt h.1.1, h.1.2.1, h.1.2.2.1, h.1.2.2.2, odd_of hb⟩
theorem bi5_start {x y a b k : Int} (h : BI4 x y a b k) (ha : a ≠ 0) : BI5 x y a a b k := by
  obtain ⟨h1, h2, h3, h4, h5⟩ := h
  exact ⟨⟨by omega, h2, h3, h4⟩, h5, Int.le_refl _⟩
theorem bi5_turn {x y a₀ a b k : Int} (h : BI5 x y a₀ a b k) (ha : Builtin.bitAnd a 1 = 0) : BI5 x y a₀ (Int.fdiv a (2 ^ Int.toNat 1)) b k := by
  have ha := even_of ha
  obtain ⟨⟨h1, h2, h3, h4⟩, h5, h6⟩ := h
  rw [fdiv2]
  exact ⟨⟨by omega, h2, h3, by rw [gcd2_left ha h5]; exact h4⟩, h5, by omega⟩
theorem gcd_half_sub {a b : Int} (ha : a % 2 = 1) (hb : b % 2 = 1) : Int.gcd ((a - b) / 2) b = Int.gcd a b := by
  rw [gcd2_left (a := a - b) (by omega) hb]
  have h := Int.gcd_sub_mul_right_left b a 1
  rw [Int.one_mul] at h
  exact h
theorem bi4_turn1 {x y a₀ a b k : Int} (h : BI5 x y a₀ a b k) (ha : Builtin.bitAnd a 1 ≠ 0) (hab : ¬ a < b) :
    BI4 x y (Int.fdiv (a - b) (2 ^ Int.toNat 1)) b k ∧ (Int.fdiv (a - b) (2 ^ Int.toNat 1) + b).toNat < (a₀ + b).toNat := by
  have ha := odd_of ha
  obtain ⟨⟨h1, h2, h3, h4⟩, h5, h6⟩ := h
  rw [fdiv2]
  exact ⟨⟨by omega, h2, h3, by rw [gcd_half_sub ha h5]; exact h4, h5⟩, by omega⟩
theorem bi4_turn2 {x y a₀ a b k : Int} (h : BI5 x y a₀ a b k) (ha : Builtin.bitAnd a 1 ≠ 0) (hab : a < b) :
    BI4 x y (Int.fdiv (b - a) (2 ^ Int.toNat 1)) a k ∧ (Int.fdiv (b - a) (2 ^ Int.toNat 1) + a).toNat < (a₀ + b).toNat := by
  have ha := odd_of ha
  obtain ⟨⟨h1, h2, h3, h4⟩, h5, h6⟩ := h
  rw [fdiv2]
  exact ⟨⟨by omega, h1, h3, by rw [gcd_half_sub h5 ha, Int.gcd_comm]; exact h4, ha⟩, by omega⟩
theorem bi4_end {x y a b k : Int} (h : BI4 x y a b k) (ha : a = 0) : b * 2 ^ k.toNat = (Int.gcd x y : Int) ∧ 0 < b ∧ 0 ≤ k := by
  obtain ⟨h1, h2, h3, h4, h5⟩ := h
  subst ha
  refine ⟨?_, h2, h3⟩
  rw [← h4, Int.gcd_zero_left]
  have : (b.natAbs : Int) = b := by omega
  rw [this]
theorem bi2_less {x y a b k : Int} (h : BI2 x y a b k) : (Int.fdiv a (2 ^ Int.toNat 1)).toNat < a.toNat := half_less h.1.1
theorem bi1_less {x y a b k : Int} (h : BI1 x y a b k) : (Int.fdiv a (2 ^ Int.toNat 1)).toNat < a.toNat := half_less h.1
theorem bi3_less {x y a b k : Int} (h : BI3 x y a b k) : (Int.fdiv b (2 ^ Int.toNat 1)).toNat < b.toNat := half_less h.1.2.1
theorem bi5_less {x y a₀ a b k : Int} (h : BI5 x y a₀ a b k) : (Int.fdiv a (2 ^ Int.toNat 1)).toNat < a.toNat := half_less h.1.1
theorem abs_lt_iff {x y a₀ a b k : Int} (h : BI5 x y a₀ a b k) : ((if a < 0 then -a else a) < (if b < 0 then -b else b)) ↔ a < b := by
  have h1 := h.1.1
  have h2 := h.1.2.1
  rw [if_neg (by omega), if_neg (by omega)]
theorem bi4_turnA {x y a₀ a b k : Int} (h : BI5 x y a₀ a b k) (ha : Builtin.bitAnd a 1 ≠ 0) (hab : ¬ (if a < 0 then -a else a) < (if b < 0 then -b else b)) : BI4 x y (Int.fdiv (a - b) (2 ^ Int.toNat 1)) b k :=
  (bi4_turn1 h ha (fun q => hab ((abs_lt_iff h).mpr q))).1
theorem bi4_turnB {x y a₀ a b k : Int} (h : BI5 x y a₀ a b k) (ha : Builtin.bitAnd a 1 ≠ 0) (hab : (if a < 0 then -a else a) < (if b < 0 then -b else b)) : BI4 x y (Int.fdiv (b - a) (2 ^ Int.toNat 1)) a k :=
  (bi4_turn2 h ha ((abs_lt_iff h).mp hab)).1
theorem bi4_lessA {x y a₀ a b k : Int} (h : BI5 x y a₀ a b k) (ha : Builtin.bitAnd a 1 ≠ 0) (hab : ¬ (if a < 0 then -a else a) < (if b < 0 then -b else b)) : (Int.fdiv (a - b) (2 ^ Int.toNat 1) + b).toNat < (a₀ + b).toNat :=
  (bi4_turn1 h ha (fun q => hab ((abs_lt_iff h).mpr q))).2
theorem bi4_lessB {x y a₀ a b k : Int} (h : BI5 x y a₀ a b k) (ha : Builtin.bitAnd a 1 ≠ 0) (hab : (if a < 0 then -a else a) < (if b < 0 then -b else b)) : (Int.fdiv (b - a) (2 ^ Int.toNat 1) + a).toNat < (a₀ + b).toNat :=
  (bi4_turn2 h ha ((abs_lt_iff h).mp hab)).2
theorem gcd_le_sum (x y : Int) : Int.gcd x y ≤ x.natAbs + y.natAbs := by
  by_cases hx : x = 0
  · subst hx; simp
  · have := Int.gcd_le_natAbs_left y hx
    omega
theorem bi4_k {x y a b k : Int} (h : BI4 x y a b k) : 0 ≤ k := h.2.2.1
section
theorem bi4_shift {M : Nat} {x y a b k : Int} (hM : SizeOk M) (hxy : x.natAbs + y.natAbs + 1 ≤ M) (h : BI4 x y a b k) (ha : a = 0) : (Builtin.Int.intBits b : Int) + k ≤ 2 ^ 27 := by
  obtain ⟨h1, h2, h3⟩ := bi4_end h ha
  have := gcd_le_sum x y
  exact hM.shift h2 h3 (by rw [h1]; omega)
local macro_rules | `(tactic| walk_at "binaryOp LShift int int") => `(tactic| (with_reducible refine lshift_int (bi4_k (by assumption)) (bi4_shift (by assumption) (by assumption) (by assumption) (by assumption)) ?_))
local macro_rules | `(tactic| walk_at "CutEnd") => `(tactic| ((rename News _ _ _ _ => nE'); first
  | (refine cut_end ⟨_, _, _, _⟩ (by assumption) nE' (by kst_in) (by kst_all) (by kst_p))
  | (refine cut_end ⟨_, _, _, _, _, _⟩ (by assumption) nE' (by kst_in) (by kst_all) (by kst_p))))
theorem bin_c (M : Nat) (x y : Int) (t1 t2 : Tok) (hx : 0 ≤ x) (hy : 0 ≤ y) (hM : SizeOk M) (hxy : x.natAbs + y.natAbs + 1 ≤ M) : Ctr PySem.Challenge.rw_yz0001_01.row.prog hd.view_39 hd.heap_39 21 [.int x t1, .int y t2] (fun t => .int (Int.gcd x y) t) := by
  have hd0 : PySem.Challenge.rw_yz0001_01 = PySem.Challenge.rw_yz0001_01 ∧ hd.heap_39 = hd.heap_39 := by k_fill; exact ⟨rfl, rfl⟩
  clear hd0
  k_with_none
  k_with "exec If" => (
    (with_reducible show wpAny _ _ (exec (Stmt.If _ _ _ { line := 3, col := _, endLine := _, endCol := _ }) _) _ _ _)
    (fail_if_success (with_reducible show wpAny _ _ _ (CutPost _ _ _ _ _ _ _) _ _))
    (rename Fr _ _ _ _ => cF)
    (refine cut_any (σ := Int × Nat × Int × Nat) (fun _ => news) (fun c => [(PySem.Str.ofString "a", .int c.1 c.2.1), (PySem.Str.ofString "b", .int c.2.2.1 c.2.2.2)]) (fun c => BI0 x y c.1 c.2.2.1) cF ?_ ?_)
    rotate_left
    (rintro ⟨a9, ta9, b9, tb9⟩ u9 h9 tk9 kP9 kF9 kN9; clear cF; dsimp only at kP9 kN9 ⊢; dsimp only [kstB] at kF9)
    rotate_left)
  k_with "exec While UnaryOp cons nil" => (first
    | ((with_reducible show wpAny _ _ (exec (Stmt.While _ _ _ { line := 15, col := _, endLine := _, endCol := _ }) _) _ _ _); k_while_given ["b", "k"] (fun b k _ a => BI2 x y a b k) (fun b k _ a => a.toNat) "a")
    | ((with_reducible show wpAny _ _ (exec (Stmt.While _ _ _ { line := 17, col := _, endLine := _, endCol := _ }) _) _ _ _); k_while_given ["a", "k"] (fun a k _ b => BI3 x y a b k) (fun a k _ b => b.toNat) "b")
    | ((with_reducible show wpAny _ _ (exec (Stmt.While _ _ _ { line := 20, col := _, endLine := _, endCol := _ }) _) _ _ _); k_while_given ["b", "k", "a!"] (fun b k a0 _ a => BI5 x y a0 a b k) (fun b k a0 _ a => a.toNat) "a"))
  k_with "exec While BoolOp cons nil" => (first
    | ((fail_if_success (with_reducible show wpAny _ _ _ (CutPost _ _ _ _ _ _ _) _ _))
       (rename Fr _ _ _ _ => cF)
       (refine cut_any (σ := Int × Nat × Int × Nat × Int × Nat) (fun _ => news) (fun c => [(PySem.Str.ofString "a", .int c.1 c.2.1), (PySem.Str.ofString "b", .int c.2.2.1 c.2.2.2.1), (PySem.Str.ofString "k", .int c.2.2.2.2.1 c.2.2.2.2.2)]) (fun c => BI2 x y c.1 c.2.2.1 c.2.2.2.2.1) cF ?_ ?_)
       rotate_left
       (rintro ⟨a9, ta9, b9, tb9, k9, tk9⟩ u9 h9 tk9 kP9 kF9 kN9; clear cF; dsimp only at kP9 kN9 ⊢; dsimp only [kstB] at kF9)
       rotate_left)
    | k_while (fun _ a b k => BI1 x y a b k) (fun _ a b k => a.toNat) "a" "b" "k")
  k_with "exec While Name cons nil" => k_while_given ["k"] (fun k _ a b => BI4 x y a b k) (fun k _ a b => (a + b).toNat) "a" "b"
  k_with "state" => (first
    | exact bi0_a hx hy (by assumption) | exact bi0_b hx hy (by assumption)
    | exact bi1_start (by assumption) (by assumption) (by assumption) | exact bi1_turn (by assumption) (by assumption) (by assumption)
    | exact bi2_a (by assumption) (by assumption) | exact bi2_b (by assumption) (by assumption) | exact bi2_turn (by assumption) (by assumption)
    | assumption
    | exact bi3_start (by assumption) (by assumption) | exact bi3_turn (by assumption) (by assumption)
    | exact bi4_start (by assumption) (by assumption) | exact bi5_start (by assumption) (by assumption) | exact bi5_turn (by assumption) (by assumption)
    | exact bi4_turnA (by assumption) (by assumption) (by assumption) | exact bi4_turnB (by assumption) (by assumption) (by assumption)
    )
  k_with "measure" => (first
    | exact bi1_less (by assumption) | exact bi2_less (by assumption) | exact bi3_less (by assumption) | exact bi5_less (by assumption)
    | exact bi4_lessA (by assumption) (by assumption) (by assumption) | exact bi4_lessB (by assumption) (by assumption) (by assumption)
    )
  intro w loose mean mg mb dp un gd cn cs a ccd cl outer A₀ base h₀ L m news s Q E B F X N T hk hdp hun hret
  refine wpAny_call ?_
  k_dflt cell_enter
  k_steps
  all_goals (refine ret1 hret (by k_asm) (by k_asm) (by kcj_all) ?_)
  all_goals (first
    | exact bi0_zero (by assumption) (by assumption)
    | exact bi0_mod (by assumption) (by assumption) (by assumption)
    | exact (bi4_end (by assumption) (by assumption)).1)
end
/-- the law's own number: the script's k-th, cut to sixty figures with its sign kept, or one of its own -/
def atF (ns : List Int) (k : Int) : Int :=
  if k < ns.length then (if ns.getD k.toNat 0 < 0 then -((-(ns.getD k.toNat 0)) % 10 ^ 60) else ns.getD k.toNat 0 % 10 ^ 60) else (k * k * 29 + 17 * k + 3) % 83 - 31
theorem pow60 : (10 : Int) ^ Int.toNat 60 = 10 ^ 60 := rfl
theorem atF_1 {ns : List Int} {k : Int} (h : k < ns.length) (h2 : ns.getD k.toNat 0 < 0) : -(-ns.getD k.toNat 0).fmod (10 ^ Int.toNat 60) = atF ns k := by
  unfold atF
  rw [if_pos h, if_pos h2, pow60, Int.fmod_eq_emod_of_nonneg _ (by decide)]
theorem atF_2 {ns : List Int} {k : Int} (h : k < ns.length) (h2 : ¬ ns.getD k.toNat 0 < 0) : (ns.getD k.toNat 0).fmod (10 ^ Int.toNat 60) = atF ns k := by
  unfold atF
  rw [if_pos h, if_neg h2, pow60, Int.fmod_eq_emod_of_nonneg _ (by decide)]
theorem atF_3 {ns : List Int} {k : Int} (h : ¬ k < ns.length) : (k * k * 29 + 17 * k + 3).fmod 83 - 31 = atF ns k := by
  unfold atF
  rw [if_neg h, Int.fmod_eq_emod_of_nonneg _ (by decide)]
theorem atF_small (ns : List Int) (k : Int) : (atF ns k).natAbs < 10 ^ 60 := by
  have e : (10 : Int) ^ 60 = ((10 ^ 60 : Nat) : Int) := by decide
  have e' : (10 : Nat) ^ 60 = 1000000000000000000000000000000000000000000000000000000000000 := by decide
  unfold atF
  rw [e]
  generalize hN : (10 : Nat) ^ 60 = N at *
  have hN0 : (0 : Int) < N := by omega
  split
  · split
    · have h1 := Int.emod_nonneg (-(ns.getD k.toNat 0)) (Int.ne_of_gt hN0)
      have h2 := Int.emod_lt_of_pos (-(ns.getD k.toNat 0)) hN0
      omega
    · have h1 := Int.emod_nonneg (ns.getD k.toNat 0) (Int.ne_of_gt hN0)
      have h2 := Int.emod_lt_of_pos (ns.getD k.toNat 0) hN0
      omega
  · omega
theorem at_c (l : Addr) (vs : List Value) (ns : List Int) (k : Int) (t : Tok) (hi : IntsAre vs ns) (hfit : ns.length < 2 ^ 62) (hk0 : 0 ≤ k) (hk1 : k < 1000000) : CtrL PySem.Challenge.rw_yz0001_01.row.prog hd.view_39 hd.heap_39 49 l vs [.ref l, .int k t] (fun t => .int (atF ns k) t) := by
  have hd0 : PySem.Challenge.rw_yz0001_01 = PySem.Challenge.rw_yz0001_01 ∧ hd.heap_39 = hd.heap_39 := by k_fill; exact ⟨rfl, rfl⟩
  clear hd0
  k_with_none
  intro w loose mean mg mb dp un gd cn cs a ccd cl outer A₀ base h₀ L m news s Q E B F X N T hk hdp hun hl hret
  refine wpAny_call ?_
  k_dflt cell_enter
  k_steps
  all_goals (refine ret1 hret (by k_asm) (by k_asm) (by kcj_all) ?_)
  · exact atF_1 (by assumption) (by assumption)
  · exact atF_2 (by assumption) (by assumption)
  · exact atF_3 (by assumption)
/-- more than sixty figures hold -/
def Bb : Nat := 10 ^ 60 + 1
def PInv (g : Int) (n : Nat) (p q s t : Int) : Prop :=
  s * p + t * q = g ∧ g ∣ p ∧ g ∣ q ∧ p.natAbs ≤ Bb ^ (n + 1) ∧ q.natAbs ≤ Bb ^ (n + 1) ∧ s.natAbs ≤ Bb ^ (n + 1) ∧ t.natAbs ≤ Bb ^ (n + 1)
theorem Bb_one (n : Nat) : 1 ≤ Bb ^ n := Nat.one_le_pow _ _ (by decide)
theorem Bb_mono {a b : Nat} (h : a ≤ b) : Bb ^ a ≤ Bb ^ b := Nat.pow_le_pow_right (by decide) h
theorem pInv_start {g : Int} (h : g.natAbs < 10 ^ 60) : PInv g 0 g 0 1 0 := by
  have e : Bb ^ (0 + 1) = 10 ^ 60 + 1 := by simp [Bb]
  refine ⟨by simp, Int.dvd_refl _, Int.dvd_zero _, ?_, ?_, ?_, ?_⟩ <;> rw [e] <;> generalize (10 : Nat) ^ 60 = N at * <;> omega
theorem abs_step {z p q : Int} {n : Nat} (hz : z.natAbs < 10 ^ 60) (hp : p.natAbs ≤ Bb ^ n) (hq : q.natAbs ≤ Bb ^ n) : (z * p + q).natAbs ≤ Bb ^ (n + 1) ∧ (q - z * p).natAbs ≤ Bb ^ (n + 1) := by
  have h1 : (z * p).natAbs ≤ 10 ^ 60 * Bb ^ n := by
    rw [Int.natAbs_mul]; exact Nat.mul_le_mul (Nat.le_of_lt hz) hp
  have e : Bb ^ (n + 1) = 10 ^ 60 * Bb ^ n + Bb ^ n := by
    rw [Nat.pow_succ, Nat.mul_comm, Bb, Nat.add_mul, Nat.one_mul]
  rw [e]
  generalize 10 ^ 60 * Bb ^ n = X at *
  omega
theorem pInv_turn {g : Int} {n : Nat} {p q s t z : Int} (h : PInv g n p q s t) (hz : z.natAbs < 10 ^ 60) : PInv g (n + 1) (z * p + q) p t (s - z * t) := by
  obtain ⟨h1, h2, h3, h4, h5, h6, h7⟩ := h
  have m := Bb_mono (show n + 1 ≤ n + 1 + 1 by omega)
  refine ⟨by grind, Int.dvd_add (Int.dvd_mul_of_dvd_right h2) h3, h2, (abs_step hz h4 h5).1, by omega, by omega, (abs_step hz h7 h6).2⟩
/-- the law's line for sizes -/
def M1 : Nat := Bb ^ 80
def PairOk (p q s t g : Int) : Prop := s * p + t * q = g ∧ g ∣ p ∧ g ∣ q ∧ p.natAbs ≤ Bb ^ 70 ∧ q.natAbs ≤ Bb ^ 70 ∧ s.natAbs ≤ Bb ^ 70 ∧ t.natAbs ≤ Bb ^ 70
theorem pInv_end {g : Int} {n : Nat} {p q s t : Int} (h : PInv g n p q s t) (hn : n ≤ 65) : PairOk p q s t g := by
  obtain ⟨h1, h2, h3, h4, h5, h6, h7⟩ := h
  have m := Bb_mono (show n + 1 ≤ 70 by omega)
  exact ⟨h1, h2, h3, by omega, by omega, by omega, by omega⟩
theorem pInv_turn' {ns : List Int} {g : Int} {pre : List Int} {p q s t k : Int} (h : PInv g pre.length p q s t) : PInv g (pre ++ [k]).length (atF ns k * p + q) p t (s - atF ns k * t) := by
  rw [List.length_append]
  exact pInv_turn h (atF_small ns k)
theorem pre_small {n len : Nat} (h : n < ((if (5 : Int) > len then 5 else (len : Int)) - 1).toNat) (hl : len ≤ 63) : n ≤ 65 := by
  split at h <;> omega
theorem pInv_start' (ns : List Int) (k : Int) : PInv (atF ns k) ([] : List Int).length (atF ns k) 0 1 0 := pInv_start (atF_small ns k)
section
theorem sizeM1 : SizeOk M1 := by
  refine ⟨16000, by decide, ?_⟩
  have h : Bb < 2 ^ 200 := by decide
  have h2 : Bb ^ 80 < (2 ^ 200) ^ 80 := Nat.pow_lt_pow_left h (by decide)
  rw [← Nat.pow_mul] at h2
  exact h2
local macro_rules | `(tactic| walk_at "call ref") => `(tactic| (
  k_here
  (with_reducible show wpAny _ _ (call (Value.ref 49 ) _) _ _ _)
  k_dflt (
    refine' CtrL.use (at_c _ _ _ _ _ ?hi ?hf ?h0 ?h1) ?k1 ?k2 ?k3 ?k4 ?k5 ?kK ?kd ?ku ?kl ?_
    (case hi => first | assumption | ktn_no "at: ints")
    (case hf => first | assumption | ktn_no "at: fit")
    (case h0 => first | decide | omega | ktn_no "at: nonneg")
    (case h1 => first | decide | omega | ktn_no "at: small")
    walk_at "my_use"
    (case kl => first | assumption | ktn_no "at: list")
    k_whole)
  intro t9 h9 tk9 F9 N9
  (try dsimp only)
  (try k_fold)))
theorem ks_small {len : Nat} (hl : len ≤ 63) : (rangeKs 1 ((if (5 : Int) > len then 5 else (len : Int)) - 1).toNat).length ≤ 65 := by
  rw [rangeKs_length]; split <;> omega
theorem M1_big {n : Nat} (h : n ≤ 79) {x : Nat} (hx : x ≤ Bb ^ n) : x ≤ M1 := Nat.le_trans hx (Bb_mono (by omega))
theorem z_M1 (ns : List Int) (k : Int) : (atF ns k).natAbs ≤ M1 := by
  have h := atF_small ns k
  have h2 : 10 ^ 60 ≤ M1 := M1_big (n := 1) (by omega) (by rw [Nat.pow_one]; exact Nat.le_succ _)
  exact Nat.le_trans (Nat.le_of_lt h) h2
theorem pM1 {ns : List Int} {k g : Int} {n : Nat} {p q s t : Int} (hl : ns.length ≤ 63) (hn : n < ((if (5 : Int) > ns.length then 5 else (ns.length : Int)) - 1).toNat) (h : PInv g n p q s t) : IntMulOk (atF ns k) p :=
  sizeM1.mul (z_M1 ns k) (M1_big (n := n + 1) (by have := pre_small hn hl; omega) h.2.2.2.1)
theorem pM2 {ns : List Int} {k g : Int} {n : Nat} {p q s t : Int} (hl : ns.length ≤ 63) (hn : n < ((if (5 : Int) > ns.length then 5 else (ns.length : Int)) - 1).toNat) (h : PInv g n p q s t) : IntMulOk (atF ns k) t :=
  sizeM1.mul (z_M1 ns k) (M1_big (n := n + 1) (by have := pre_small hn hl; omega) h.2.2.2.2.2.2)
local macro_rules | `(tactic| walk_at "binaryOp Mult int int") => `(tactic| first | (with_reducible refine mul_int ?_ (pM1 (by assumption) (by assumption) (by assumption))) | (with_reducible refine mul_int ?_ (pM2 (by assumption) (by assumption) (by assumption))))
theorem pair_c (l : Addr) (vs : List Value) (ns : List Int) (hi : IntsAre vs ns) (hfit : ns.length < 2 ^ 62) (hlen : ns.length ≤ 63) :
    CtrO PySem.Challenge.rw_yz0001_01.row.prog hd.view_39 hd.heap_39 56 l vs [.ref l] (fun o => ∃ p q s t g t1 t2 t3 t4 t5, o = { cls := .type "tuple", data := .seq #[.int p t1, .int q t2, .int s t3, .int t t4, .int g t5] } ∧ PairOk p q s t g) := by
  have hd0 : PySem.Challenge.rw_yz0001_01 = PySem.Challenge.rw_yz0001_01 ∧ hd.heap_39 = hd.heap_39 := by k_fill; exact ⟨rfl, rfl⟩
  clear hd0
  k_with_none
  k_with "pyIter ref" => k_state_given ["g"] (fun g pre p q s t => PInv g pre.length p q s t) "p" "q" "s" "t"
  k_with "state" => first | exact pInv_start' _ _ | exact pInv_turn' (by assumption)
  intro w loose mean mg mb dp un gd cn cs a ccd cl outer A₀ base h₀ L m news s Q E B F X N T hk hdp hun hl hret
  refine wpAny_call ?_
  k_dflt cell_enter
  k_steps
  all_goals (refine retO hret (by k_asm) (by k_asm) (by kcj_all) (by walk_at "my_lt") ?_)
  all_goals exact ⟨_, _, _, _, _, _, _, _, _, _, rfl, pInv_end (by assumption) (ks_small (by assumption))⟩
end
/-- what the law's own helper reckons -/
def wholeF (x y s g : Int) : Int × Int × Int :=
  if y = 0 then (if 0 ≤ x then (1, 0, x) else (-1, 0, -x)) else
  let d := if g < 0 then -g else g
  let s' := if g < 0 then -s else s
  let n := Int.fdiv (if y < 0 then -y else y) d
  let u := Int.fmod s' n
  let u1 := if 0 < y ∧ n < 2 * u then u - n else u
  let u2 := if y < 0 ∧ n ≤ 2 * u1 then u1 - n else u1
  (u2, Int.fdiv (d - u2 * x) y, d)
theorem abs_if (g : Int) : (if g < 0 then -g else g) = g.natAbs := by split <;> omega
theorem rest_same {n u s K : Int} (hn : 0 < n) (h : s = u - n * K) : Int.fmod s n = u % n := by
  rw [h, Int.fmod_eq_emod_of_nonneg _ (Int.le_of_lt hn), Int.sub_mul_emod_self_left]
theorem dvd_key {x y u v s t d : Int} (h1 : u * x + v * y = d) (h2 : s * x + t * y = d) : (u - s) * d = y * (s * (t - v) + t * (u - s)) := by
  have e : (u - s) * x = (t - v) * y := by grind
  have : (u - s) * d = (u - s) * (s * x + t * y) := by rw [h2]
  grind
theorem whole_eq {x y s t g u v d : Int} (h : ExtSpec x y u v d) (hs : s * x + t * y = g) (hg : Int.gcd x y = g.natAbs) : wholeF x y s g = (u, v, d) := by
  obtain ⟨h1, h2, h3, h4, h5, _, _⟩ := h
  unfold wholeF
  by_cases hy : y = 0
  · subst hy
    rw [if_pos rfl]
    rw [Int.gcd_zero_right] at h2
    by_cases hx : 0 ≤ x
    · obtain ⟨rfl, rfl⟩ := h3 rfl hx
      rw [if_pos hx]
      have : x = d := by omega
      rw [this]
    · obtain ⟨rfl, rfl⟩ := h4 rfl (by omega)
      rw [if_neg hx]
      have : -x = d := by omega
      rw [this]
  · rw [if_neg hy]
    obtain ⟨n, hd, hn, hp, hm⟩ := h5 hy
    have hdg : (if g < 0 then -g else g) = d := by rw [abs_if, h2, hg]
    have hyd : (if y < 0 then -y else y) = n * d := by
      split
      · rw [(hm (by omega)).1]
      · rw [(hp (by omega)).1]
    -- the other coefficients, with the divisor's sign
    have hs' : (if g < 0 then -s else s) * x + (if g < 0 then -t else t) * y = d := by
      rw [← hdg]
      split
      · rw [← hs, Int.neg_mul, Int.neg_mul]; omega
      · exact hs
    generalize (if g < 0 then -s else s) = s' at *
    generalize (if g < 0 then -t else t) = t' at *
    simp only [hdg, hyd]
    have hnd : Int.fdiv (n * d) d = n := Int.mul_fdiv_cancel _ (by omega)
    simp only [hnd]
    have key := dvd_key h1 hs'
    generalize s' * (t' - v) + t' * (u - s') = K at *
    have hfm : Int.fmod s' n = u % n := by
      rcases Int.lt_or_le y 0 with h0 | h0
      · have e : (u - s') * d = (n * -K) * d := by
          rw [key]
          have := (hm h0).1
          grind
        have e2 : u - s' = n * -K := Int.eq_of_mul_eq_mul_right (by omega) e
        exact rest_same hn (K := -K) (by omega)
      · have e : (u - s') * d = (n * K) * d := by
          rw [key]
          have := (hp (by omega)).1
          grind
        have e2 : u - s' = n * K := Int.eq_of_mul_eq_mul_right (by omega) e
        exact rest_same hn (K := K) (by omega)
    rw [hfm]
    have hu : u % n = u ∨ u % n = u + n := by
      rcases Int.lt_or_le u 0 with h0 | h0
      · right
        have : (u + n * 1) % n = u % n := Int.add_mul_emod_self_left ..
        rw [← this, Int.mul_one]
        refine Int.emod_eq_of_lt ?_ (by omega)
        rcases Int.lt_or_le y 0 with h1 | h1
        · have := hm h1; omega
        · have := hp (by omega); omega
      · left
        refine Int.emod_eq_of_lt h0 ?_
        rcases Int.lt_or_le y 0 with h1 | h1
        · have := hm h1; omega
        · have := hp (by omega); omega
    have hu1 : (if y < 0 ∧ n ≤ 2 * (if 0 < y ∧ n < 2 * (u % n) then u % n - n else u % n) then (if 0 < y ∧ n < 2 * (u % n) then u % n - n else u % n) - n else (if 0 < y ∧ n < 2 * (u % n) then u % n - n else u % n)) = u := by
      generalize u % n = r at *
      rcases Int.lt_or_le y 0 with h0 | h0
      · have := hm h0
        rw [if_neg (show ¬ (0 < y ∧ n < 2 * r) by omega)]
        split <;> omega
      · have := hp (by omega)
        rw [if_neg (show ¬ (y < 0 ∧ _) by omega)]
        split <;> omega
    rw [hu1]
    have hv : d - u * x = v * y := by omega
    rw [hv, Int.mul_fdiv_cancel _ hy]
section
section
theorem wd1 {y g : Int} (hy : y ≠ 0) (hg : g ∣ y) : (if g < 0 then -g else g) ≠ 0 := by
  have : g ≠ 0 := by rintro rfl; exact hy (Int.zero_dvd.mp hg)
  rw [abs_if]; omega
theorem wn0 {y g : Int} (hy : y ≠ 0) (hg : g ∣ y) : 0 < Int.fdiv (if y < 0 then -y else y) (if g < 0 then -g else g) ∧ Int.fdiv (if y < 0 then -y else y) (if g < 0 then -g else g) ≤ y.natAbs := by
  have h1 := wd1 hy hg
  rw [abs_if] at h1
  rw [abs_if, abs_if, Int.fdiv_eq_ediv_of_nonneg _ (by omega)]
  have hle : g.natAbs ≤ y.natAbs := Nat.le_of_dvd (by omega) (Int.natAbs_dvd_natAbs.mpr hg)
  constructor
  · have := (Int.le_ediv_iff_mul_le (a := 1) (b := (y.natAbs : Int)) (c := (g.natAbs : Int)) (by omega)).mpr (by omega)
    omega
  · exact Int.ediv_le_self _ (by omega)
theorem wn1 {y g : Int} (hy : y ≠ 0) (hg : g ∣ y) : Int.fdiv (if y < 0 then -y else y) (if g < 0 then -g else g) ≠ 0 := by
  have := (wn0 hy hg).1; omega
theorem wM_bound {x y g s : Int} (hy : y ≠ 0) (hg : g ∣ y) (hyb : y.natAbs ≤ Bb ^ 70) (hxb : x.natAbs ≤ Bb ^ 70) {u : Int}
    (hu : u = Int.fmod s (Int.fdiv (if y < 0 then -y else y) (if g < 0 then -g else g)) ∨ u = Int.fmod s (Int.fdiv (if y < 0 then -y else y) (if g < 0 then -g else g)) - Int.fdiv (if y < 0 then -y else y) (if g < 0 then -g else g) ∨ u = Int.fmod s (Int.fdiv (if y < 0 then -y else y) (if g < 0 then -g else g)) - Int.fdiv (if y < 0 then -y else y) (if g < 0 then -g else g) - Int.fdiv (if y < 0 then -y else y) (if g < 0 then -g else g)) : IntMulOk u x := by
  obtain ⟨h1, h2⟩ := wn0 hy hg
  generalize Int.fdiv (if y < 0 then -y else y) (if g < 0 then -g else g) = n at *
  have h3 := fmod_pos (g := s) h1
  have e : Bb ^ 71 = Bb ^ 70 * Bb := Nat.pow_succ ..
  have e3 : Bb ^ 70 * 3 ≤ Bb ^ 70 * Bb := Nat.mul_le_mul_left _ (by decide)
  have hub : u.natAbs ≤ Bb ^ 71 := by
    rw [e]
    omega
  exact sizeM1.mul (M1_big (n := 71) (by omega) hub) (M1_big (n := 70) (by omega) hxb)
local macro_rules | `(tactic| walk_at "binaryOp Mult int int") => `(tactic| first
  | (with_reducible refine mul_int ?_ (wM_bound (by assumption) (by assumption) (by assumption) (by assumption) (.inl rfl)))
  | (with_reducible refine mul_int ?_ (wM_bound (by assumption) (by assumption) (by assumption) (by assumption) (.inr (.inl rfl))))
  | (with_reducible refine mul_int ?_ (wM_bound (by assumption) (by assumption) (by assumption) (by assumption) (.inr (.inr rfl)))))
local macro_rules | `(tactic| walk_at "binaryOp Mult int int") => `(tactic| with_reducible refine mul_int ?_ (PySem.IntMulOk.of_left (by decide)))
local macro_rules | `(tactic| walk_at "binaryOp Mod int int") => `(tactic| with_reducible refine mod_int' (wn1 (by assumption) (by assumption)) ?_)
local macro_rules | `(tactic| walk_at "binaryOp FloorDiv int int") => `(tactic| (k_dflt (refine' floordiv_int ?k1 ?_ ?k2; (case k1 => first | assumption | exact wd1 (by assumption) (by assumption)); (case k2 => walk_at "my_room"); k_whole)))
theorem whole_c (x y s g : Int) (t1 t2 t3 t4 : Tok) (hg : g ∣ y) (hyb : y.natAbs ≤ Bb ^ 70) (hxb : x.natAbs ≤ Bb ^ 70) : CtrT PySem.Challenge.rw_yz0001_01.row.prog hd.view_39 hd.heap_39 63 [.int x t1, .int y t2, .int s t3, .int g t4] (fun u v d => wholeF x y s g = (u, v, d)) := by
  have hd0 : PySem.Challenge.rw_yz0001_01 = PySem.Challenge.rw_yz0001_01 ∧ hd.heap_39 = hd.heap_39 := by k_fill; exact ⟨rfl, rfl⟩
  clear hd0
  k_with_none
  intro w loose mean mg mb dp un gd cn cs a ccd cl outer A₀ base h₀ L m news sh Q E B F X N T hk hdp hun hret
  refine wpAny_call ?_
  k_dflt cell_enter
  k_steps
  all_goals (refine retT hret (by k_asm) (by k_asm) (by kcj_all) (by walk_at "my_lt") ?_)
  all_goals (unfold wholeF; dsimp only; clear hret hyb hxb hg; (try (generalize (if y < 0 then -y else y) = Y9 at *)); (try (generalize (if g < 0 then -g else g) = D9 at *)))
  all_goals ((repeat' split) <;> first | rfl | omega)
end
end
section
section
local macro_rules | `(tactic| walk_at "call ref") => `(tactic| (
  k_here
  (with_reducible show wpAny _ _ (call (Value.ref 21 ) _) _ _ _)
  k_dflt (
    refine' Ctr.use (bin_c _ _ _ _ _ ?h1 ?h2 ?hM ?h3) ?k1 ?k2 ?k3 ?k4 ?k5 ?kK ?kd ?ku ?_
    (case hM => assumption)
    (case h1 => split <;> omega)
    (case h2 => split <;> omega)
    (case h3 => (rw [abs_if, abs_if]; omega))
    walk_at "my_use"
    k_whole)
  intro t9 h9 tk9 F9 N9
  (try dsimp only)
  (try k_fold)))
theorem bing_c (M : Nat) (x y : Int) (t1 t2 : Tok) (hM : SizeOk M) (hxy : x.natAbs + y.natAbs + 1 ≤ M) : Ctr2 PySem.Challenge.rw_yz0001_01.row.prog hd.view_39 hd.heap_39 35 [.int x t1, .int y t2] (fun t => .int (Int.gcd x y) t) := by
  have hd0 : PySem.Challenge.rw_yz0001_01 = PySem.Challenge.rw_yz0001_01 ∧ hd.heap_39 = hd.heap_39 := by k_fill; exact ⟨rfl, rfl⟩
  clear hd0
  k_with_none
  intro w loose mean mg mb dp un gd cn cs a ccd cl outer A₀ base h₀ L m news sh Q E B F X N T hk hdp hun hret
  refine wpAny_call ?_
  k_dflt cell_enter
  k_steps
  all_goals (refine ret1 hret (by k_asm) (by k_asm) (by kcj_all) ?_)
  all_goals (rw [abs_if, abs_if]; simp [Int.gcd, Int.natAbs_natCast])
end
end
theorem pair_gcdN {p q s t g : Int} (h : PairOk p q s t g) : Int.gcd p q = g.natAbs := by
  obtain ⟨h1, h2, h3, _⟩ := h
  refine Nat.dvd_antisymm ?_ ?_
  · have a : (Int.gcd p q : Int) ∣ g := by
      rw [← h1]
      exact Int.dvd_add (Int.dvd_mul_of_dvd_right (Int.gcd_dvd_left ..)) (Int.dvd_mul_of_dvd_right (Int.gcd_dvd_right ..))
    have := Int.natAbs_dvd_natAbs.mpr a
    simpa using this
  · exact Int.dvd_gcd (Int.natAbs_dvd.mpr h2) (Int.natAbs_dvd.mpr h3)
theorem pair_swap {p q s t g : Int} (h : PairOk p q s t g) : PairOk q p t s g := by
  obtain ⟨h1, h2, h3, h4, h5, h6, h7⟩ := h
  exact ⟨by omega, h3, h2, h5, h4, h7, h6⟩
theorem pair_gcd {p q s t g : Int} (h : PairOk p q s t g) : (Int.gcd p q : Int) = (if g < 0 then -g else g) := by
  rw [pair_gcdN h, abs_if]
theorem pair_gcd' {p q s t g : Int} (h : PairOk p q s t g) : (Int.gcd q p : Int) = (if g < 0 then -g else g) := pair_gcd (pair_swap h)
theorem whole_use {p q s t g u v d u' v' d' : Int} (h : PairOk p q s t g) (hE : ExtSpec p q u v d) (hW : wholeF p q s g = (u', v', d')) : u' = u ∧ v' = v ∧ d' = d := by
  rw [whole_eq hE h.1 (pair_gcdN h)] at hW
  simp only [Prod.mk.injEq] at hW
  exact ⟨hW.1.symm, hW.2.1.symm, hW.2.2.symm⟩
theorem pair_size {p q s t g : Int} (h : PairOk p q s t g) : p.natAbs + q.natAbs + 1 ≤ M1 := by
  obtain ⟨h1, h2, h3, h4, h5, h6, h7⟩ := h
  have e : Bb ^ 71 = Bb ^ 70 * Bb := Nat.pow_succ ..
  have e3 : Bb ^ 70 * 3 ≤ Bb ^ 70 * Bb := Nat.mul_le_mul_left _ (by decide)
  have e4 := Bb_one 70
  have e5 : Bb ^ 71 ≤ M1 := Bb_mono (by omega)
  omega
theorem pair_dp {p q s t g : Int} (h : PairOk p q s t g) : g ∣ p := h.2.1
theorem pair_dq {p q s t g : Int} (h : PairOk p q s t g) : g ∣ q := h.2.2.1
theorem pair_bp {p q s t g : Int} (h : PairOk p q s t g) : p.natAbs ≤ Bb ^ 70 := h.2.2.2.1
theorem pair_bq {p q s t g : Int} (h : PairOk p q s t g) : q.natAbs ≤ Bb ^ 70 := h.2.2.2.2.1
theorem whole_use' {p q s t g u v d u' v' d' : Int} (h : PairOk p q s t g) (hE : ExtSpec q p u v d) (hW : wholeF q p t g = (u', v', d')) : u' = u ∧ v' = v ∧ d' = d := whole_use (pair_swap h) hE hW
theorem pair_size' {p q s t g : Int} (h : PairOk p q s t g) : q.natAbs + p.natAbs + 1 ≤ M1 := pair_size (pair_swap h)
section
section
local macro_rules | `(tactic| walk_at "call ref") => `(tactic| (
  k_here
  (with_reducible show wpAny _ _ (call (Value.ref 56 ) _) _ _ _)
  k_dflt (
    refine' CtrO.use (pair_c _ _ _ ?hi ?hf ?hlen) ?k1 ?k2 ?k3 ?k4 ?k5 ?kK ?kd ?ku ?kl ?_
    (case hi => assumption)
    (case hf => omega)
    (case hlen => omega)
    walk_at "my_use"
    (case kl => first | assumption | ktn_no "at: list")
    k_whole)
  intro D9 h9 tk9 o9 F9 N9 l9 hP9
  obtain ⟨p9, q9, s9, t9, g9, u1, u2, u3, u4, u5, ho9, hpair⟩ := hP9
  subst ho9
  (try k_lt l9)
  (try dsimp only)
  (try k_fold)))
local macro_rules | `(tactic| walk_at "call ref") => `(tactic| (
  k_here
  (with_reducible show wpAny _ _ (call (Value.ref 28 ) _) _ _ _)
  k_dflt (
    refine' Ctr.use (gcd_c _ _ _ _) ?k1 ?k2 ?k3 ?k4 ?k5 ?kK ?kd ?ku ?_
    walk_at "my_use"
    k_whole)
  intro t9 h9 tk9 F9 N9
  (try dsimp only)
  (first | rw [pair_gcd (by assumption)] | rw [pair_gcd' (by assumption)])
  (try k_fold)))
local macro_rules | `(tactic| walk_at "call ref") => `(tactic| (
  k_here
  (with_reducible show wpAny _ _ (call (Value.ref 35 ) _) _ _ _)
  k_dflt (
    refine' Ctr2.use (bing_c _ _ _ _ _ ?h1 ?h2) ?k1 ?k2 ?k3 ?k4 ?k5 ?kK ?kd ?ku ?_
    (case h1 => exact sizeM1)
    (case h2 => first | exact pair_size (by assumption) | exact pair_size' (by assumption))
    walk_at "my_use"
    k_whole)
  intro t9 h9 tk9 F9 N9
  (try dsimp only)
  (first | rw [pair_gcd (by assumption)] | rw [pair_gcd' (by assumption)])
  (try k_fold)))
local macro_rules | `(tactic| walk_at "call ref") => `(tactic| (
  k_here
  (with_reducible show wpAny _ _ (call (Value.ref 42 ) _) _ _ _)
  k_dflt (
    refine' CtrT.use (ext_c _ _ _ _ _ ?h1 ?h2) ?k1 ?k2 ?k3 ?k4 ?k5 ?kK ?kd ?ku ?_
    (case h1 => exact sizeM1)
    (case h2 => first | exact pair_size (by assumption) | exact pair_size' (by assumption))
    walk_at "my_use"
    k_whole)
  intro D9 h9 tk9 u9 v9 d9 t1 t2 t3 F9 N9 l9 hE9
  (try k_lt l9)
  (try dsimp only)
  (try k_fold)))
local macro_rules | `(tactic| walk_at "call ref") => `(tactic| (
  k_here
  (with_reducible show wpAny _ _ (call (Value.ref 63 ) _) _ _ _)
  k_dflt (
    refine' CtrT.use (whole_c _ _ _ _ _ _ _ _ ?h1 ?h2 ?h3) ?k1 ?k2 ?k3 ?k4 ?k5 ?kK ?kd ?ku ?_
    (case h1 => first | exact pair_dq (by assumption) | exact pair_dp (by assumption))
    (case h2 => first | exact pair_bq (by assumption) | exact pair_bp (by assumption))
    (case h3 => first | exact pair_bp (by assumption) | exact pair_bq (by assumption))
    walk_at "my_use"
    k_whole)
  intro D9 h9 tk9 u9 v9 d9 t1 t2 t3 F9 N9 l9 hW9
  (first | have hx9 := whole_use (by assumption) (by assumption) hW9 | have hx9 := whole_use' (by assumption) (by assumption) hW9)
  obtain ⟨ex9, ey9, ez9⟩ := hx9
  subst ex9 ey9 ez9
  clear hW9
  (try k_lt l9)
  (try dsimp only)
  (try k_fold)))
theorem law1 : PySem.Challenge.rw_yz0001_01.Holds := hd (by
  k_with_none
  k_go0; (all_goals try k_fold)
  k_steps
  (all_goals (try k_data))
  all_goals w_report)
end
end
end Mine

theorem PySem.Challenge.cw_yz0001_01_holds : PySem.Challenge.rw_yz0001_01.Holds :=
  Mine.law1
