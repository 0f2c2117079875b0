import PyProof.Rows.All
import Wide.All
import OpenK.AllK
import Wide.FinOn
import Lean
import PySem.Challenge.RW_kq0048_01
set_option Elab.async false
set_option maxRecDepth 100000
namespace Mine
open PySem PySem.W PyProof.Rows
set_option maxHeartbeats 8000000 in
open_top hd for PySem.Challenge.rw_kq0048_01
open PySem.Calls PySem.Spec
open Sem (wp)
noncomputable abbrev prg : Program := PySem.Challenge.rw_kq0048_01.row.prog
noncomputable abbrev lse0 : List PySem.Str := looseW hd.view_39 [Str.ofString "filterfalse", Str.ofString "_twin_re_1", Str.ofString "bytes_types", Str.ofString "a2b_base64", Str.ofString "b2a_base64", Str.ofString "_NO_SEP", Str.ofString "b2a_hex", Str.ofString "hexlify", Str.ofString "unhexlify", Str.ofString "b64encode", Str.ofString "b64decode", Str.ofString "_urlsafe_encode_translation", Str.ofString "_urlsafe_decode_translation", Str.ofString "b16decode"]
noncomputable abbrev lse : List PySem.Str := lse0 ++ List.map (fun x => x.name) (recsOf hd.view_39) ++ List.map (fun x => x.fst) (litsOf hd.view_39) ++ List.map (fun x => x.name) (clssOf hd.view_39 lse0)
/-- what a call of a def of the text wants of the place where it is made -/
noncomputable def Here (w : World) (A : Around) (h : Heap) : Prop :=
  ∃ (mean : ExcName → Option Value) (mg mb : PySem.Str → Option Value) (A₀ : Around) (base : Heap) (outer : List Env) (h₀ : Heap) (L : Addr) (m : PySem.Str → Option Value) (env : Env),
    Below A₀ base outer h₀ ∧ Fr h₀ L h m ∧ (hd.heap_39 w.params).In h₀ ∧ Top topProg lse mean mg mb h₀ ∧ A.frames = some (env :: outer) ∧ env.frame = some L ∧ env.scope.kind = .function ∧ A.handled = none
theorem Here.keeps {w : World} {A : Around} {h h' : Heap} (H : Here w A h) (k : h.StaysIn h') : Here w A h' := by
  obtain ⟨mean, mg, mb, A₀, base, outer, h₀, L, m, env, B, F, r⟩ := H
  exact ⟨mean, mg, mb, A₀, base, outer, h₀, L, m, env, B, F.keeps k, r⟩
theorem Here.mk {w : World} {A A₀ : Around} {h base h₀ : Heap} {mean : ExcName → Option Value} {mg mb : PySem.Str → Option Value} {outer : List Env} {L : Addr} {m : PySem.Str → Option Value} {env : Env}
    (B : Below A₀ base outer h₀) (F : Fr h₀ L h m) (X : (hd.heap_39 w.params).In h₀) (T : Top topProg lse mean mg mb h₀) (hA : A.frames = some (env :: outer)) (hf : env.frame = some L) (hk : env.scope.kind = .function) (hh : A.handled = none) : Here w A h :=
  ⟨mean, mg, mb, A₀, base, outer, h₀, L, m, env, B, F, X, T, hA, hf, hk, hh⟩
theorem stays_of {h g h' : Heap} {L : Addr} {m : PySem.Str → Option Value} (G : GSub h g []) (F : Fr g L h' m) : h.StaysIn h' := fun b o e => F.keep b o (G b o e (by simp))
/-- what a body's end hands on -/
noncomputable def SpDone (h g : Heap) (Q : Value → Shared → Prop) (v : Value) (s' : Shared) : Prop := ∃ L m, Fr g L s'.heap m ∧ (h.StaysIn s'.heap → Q v s')
theorem SpDone.intro {h g : Heap} {Q : Value → Shared → Prop} {v : Value} {s' : Shared} {L : Addr} {m : PySem.Str → Option Value} (F : Fr g L s'.heap m) (k : h.StaysIn s'.heap → Q v s') : SpDone h g Q v s' := ⟨L, m, F, k⟩
theorem call_here {k ku : Nat} {w : World} {A : Around} {s : Shared} {E Q : Value → Shared → Prop}
    {name qual : PySem.Str} {params : Arguments} {body : List Stmt} {scope : Scope} {dV kV doc pm cdv ct oc : Value} {an od : Option Addr} {osl : Array (Option Value)} {f : Addr} {args : List Value} {kw : List (PySem.Str × Value)} {binds : List (PySem.Str × Value)}
    (H : Here w A s.heap) (hdp : A.depth + (k + 1) < recursionLimit) (hun : A.units + ku < cLine)
    (ho : (hd.heap_39 w.params).lookup f = some ⟨oc, od, .func (fnOf name qual params body scope dV kV doc pm an cdv ct), osl⟩) (hcd : codeIn (hd.heap_39 w.params) cdv qual = true)
    (hbind : (hd.heap_39 w.params).In s.heap → BindsTo s (fnOf name qual params body scope dV kV doc pm an cdv ct) ⟨args, kw⟩ binds) (hloc : ∀ y ∈ binds, scope.names.lookup y.1 = some .local)
    (h : ∀ (dp un : Nat) (gd : Option (List Code)) (env : Env) (outer : List Env) (mean : ExcName → Option Value) (mg mb : PySem.Str → Option Value) (base : Heap) (g : Heap) (L' : Addr) (h₁ : Heap),
      dp + (k + 1) < recursionLimit → un + ku < cLine → GSub s.heap g [] → Fr g L' h₁ (fun y => binds.reverse.lookup y) → News g L' h₁ [] →
      Below { handled := none, depth := dp, frames := some (env :: outer), guards := gd, units := un } base (env :: outer) g → (hd.heap_39 w.params).In g → Top topProg lse mean mg mb g →
      wpAny (model prg w) (Around.deeper { handled := none, depth := dp, frames := some (env :: outer), guards := gd, units := un } (envOf qual scope L' f cdv)) (execs body (envOf qual scope L' f cdv))
        (fun fl s' => SpDone s.heap g Q (match fl with | .ret v => v | _ => .none) s')
        (fun e s' => wpAny (model prg w) (Around.deeper { handled := none, depth := dp, frames := some (env :: outer), guards := gd, units := un } (envOf qual scope L' f cdv)) (leaving (envOf qual scope L' f cdv) e) (fun _ s'' => E e s'') (fun e' s'' => E e' s'') s')
        { s with heap := h₁, toks := s.toks + binds.length })
    (hco : scope.isCoroutine = false) (hgen : scope.isGenerator = false) (hk : scope.kind = .function)
    (hcell : ∀ x ∈ scope.names, x.2 ≠ .cell) : wpAny (model prg w) A (call (.ref f) args kw) Q E s := by
  obtain ⟨mean, mg, mb, A₀, base, outer, h₀, L, m, env, B, F, X, T, hA, hf, hk', hh⟩ := H
  obtain ⟨hd1, dp, fr, gd, un⟩ := A
  dsimp only at hA hh hdp hun
  subst hA hh
  refine wpAny_call ?_
  have N : News h₀ L s.heap [] := News.nil
  refine code_defG (R := fun r s' => match r with | .ok (.ret v) => Q v s' | .ok _ => False | .error e => E e s') B F X N T rfl hf hk' ho hcd (by show dp < recursionLimit; omega) (hbind (X.keeps F.keep)) hloc ?_ hco hgen hk hcell
  intro g L' h₁ FG F' N' B' X' T' kG
  refine wpAny_mono (h dp un gd env outer mean mg mb base g L' h₁ hdp hun kG F' N' B' X' T') ?_ ?_
  · intro fl s' hd
    obtain ⟨L'', m'', F'', hq⟩ := hd
    refine ⟨L'', m'', [], F'', News.nil, fun _ _ => ?_⟩
    exact hq (fun b o e => F''.keep b o (kG b o e (by simp)))
  · intro e s' h; exact h
theorem bints1 (a : UInt8) : KBw.bInts #[a] = [(a.toNat : Int)] := rfl
theorem bints2 (a b : UInt8) : KBw.bInts #[a, b] = [(a.toNat : Int), (b.toNat : Int)] := rfl
theorem bints3 (a b c : UInt8) : KBw.bInts #[a, b, c] = [(a.toNat : Int), (b.toNat : Int), (c.toNat : Int)] := rfl
theorem bints4 (a b c d : UInt8) : KBw.bInts #[a, b, c, d] = [(a.toNat : Int), (b.toNat : Int), (c.toNat : Int), (d.toNat : Int)] := rfl
theorem bints6 (a b c d e f : UInt8) : KBw.bInts #[a, b, c, d, e, f] = [(a.toNat : Int), (b.toNat : Int), (c.toNat : Int), (d.toNat : Int), (e.toNat : Int), (f.toNat : Int)] := rfl
noncomputable def B64L : List UInt8 := [65, 66, 67, 68, 69, 70, 71, 72, 73, 74, 75, 76, 77, 78, 79, 80, 81, 82, 83, 84, 85, 86, 87, 88, 89, 90, 97, 98, 99, 100, 101, 102, 103, 104, 105, 106, 107, 108, 109, 110, 111, 112, 113, 114, 115, 116, 117, 118, 119, 120, 121, 122, 48, 49, 50, 51, 52, 53, 54, 55, 56, 57, 43, 47]
noncomputable def b64i (i : Int) : Int := ((B64L.getD i.toNat 0).toNat : Int)
theorem b64i_in (i : Int) : 0 ≤ b64i i ∧ b64i i < 256 := by
  unfold b64i
  have := (B64L.getD i.toNat 0).toNat_lt
  omega
theorem and63_in (x : Int) : 0 ≤ Builtin.bitAnd x 63 ∧ Builtin.bitAnd x 63 < 64 := by
  have h := kbt_mask x 6
  have h' : Builtin.bitAnd x 63 = x % 64 := h
  rw [h']; omega
theorem and3_in (x : Int) : 0 ≤ Builtin.bitAnd x 3 * 2 ^ Int.toNat 4 ∧ Builtin.bitAnd x 3 * 2 ^ Int.toNat 4 < 64 := by
  have h := kbt_mask x 2
  have h' : Builtin.bitAnd x 3 = x % 4 := h
  rw [h']
  have : ((2 : Int) ^ Int.toNat 4) = 16 := by decide
  rw [this]; omega
theorem and15_in (x : Int) : 0 ≤ Builtin.bitAnd x 15 * 2 ^ Int.toNat 2 ∧ Builtin.bitAnd x 15 * 2 ^ Int.toNat 2 < 64 := by
  have h := kbt_mask x 4
  have h' : Builtin.bitAnd x 15 = x % 16 := h
  rw [h']
  have : ((2 : Int) ^ Int.toNat 2) = 4 := by decide
  rw [this]; omega
theorem b64_item {prog : Program} {w : World} {A : Around} {E : Value → Shared → Prop} {s : Shared} {i : Int} {t ui : Tok} {value slice : PySem.Expr} {Q : Value → Shared → Prop} (hi : 0 ≤ i ∧ i < 64)
    (h : Q (.int (b64i i) s.toks) { s with toks := s.toks + 1 })
    (hs : subscripted slice false (.bytes #[65, 66, 67, 68, 69, 70, 71, 72, 73, 74, 75, 76, 77, 78, 79, 80, 81, 82, 83, 84, 85, 86, 87, 88, 89, 90, 97, 98, 99, 100, 101, 102, 103, 104, 105, 106, 107, 108, 109, 110, 111, 112, 113, 114, 115, 116, 117, 118, 119, 120, 121, 122, 48, 49, 50, 51, 52, 53, 54, 55, 56, 57, 43, 47] t) (.int i ui) = operate [.bytes #[65, 66, 67, 68, 69, 70, 71, 72, 73, 74, 75, 76, 77, 78, 79, 80, 81, 82, 83, 84, 85, 86, 87, 88, 89, 90, 97, 98, 99, 100, 101, 102, 103, 104, 105, 106, 107, 108, 109, 110, 111, 112, 113, 114, 115, 116, 117, 118, 119, 120, 121, 122, 48, 49, 50, 51, 52, 53, 54, 55, 56, 57, 43, 47] t, .int i ui] (getItem (.bytes #[65, 66, 67, 68, 69, 70, 71, 72, 73, 74, 75, 76, 77, 78, 79, 80, 81, 82, 83, 84, 85, 86, 87, 88, 89, 90, 97, 98, 99, 100, 101, 102, 103, 104, 105, 106, 107, 108, 109, 110, 111, 112, 113, 114, 115, 116, 117, 118, 119, 120, 121, 122, 48, 49, 50, 51, 52, 53, 54, 55, 56, 57, 43, 47] t) (.int i ui)))
    (ht : ∀ r, letTemporaryGo value (.bytes #[65, 66, 67, 68, 69, 70, 71, 72, 73, 74, 75, 76, 77, 78, 79, 80, 81, 82, 83, 84, 85, 86, 87, 88, 89, 90, 97, 98, 99, 100, 101, 102, 103, 104, 105, 106, 107, 108, 109, 110, 111, 112, 113, 114, 115, 116, 117, 118, 119, 120, 121, 122, 48, 49, 50, 51, 52, 53, 54, 55, 56, 57, 43, 47] t) r = pure ()) : wpAny (model prog w) A (subscriptTail value slice (.bytes #[65, 66, 67, 68, 69, 70, 71, 72, 73, 74, 75, 76, 77, 78, 79, 80, 81, 82, 83, 84, 85, 86, 87, 88, 89, 90, 97, 98, 99, 100, 101, 102, 103, 104, 105, 106, 107, 108, 109, 110, 111, 112, 113, 114, 115, 116, 117, 118, 119, 120, 121, 122, 48, 49, 50, 51, 52, 53, 54, 55, 56, 57, 43, 47] t) (.int i ui)) Q E s :=
  bytes_item_K (x := [65, 66, 67, 68, 69, 70, 71, 72, 73, 74, 75, 76, 77, 78, 79, 80, 81, 82, 83, 84, 85, 86, 87, 88, 89, 90, 97, 98, 99, 100, 101, 102, 103, 104, 105, 106, 107, 108, 109, 110, 111, 112, 113, 114, 115, 116, 117, 118, 119, 120, 121, 122, 48, 49, 50, 51, 52, 53, 54, 55, 56, 57, 43, 47]) (by decide) hi.1 hi.2 rfl h hs ht
noncomputable def c64 (i : Int) : UInt8 := (b64i i).toNat.toUInt8
theorem nat3 (x : Int) : (Builtin.bitAnd x 3).natAbs < 2 ^ 64 := by
  have h : Builtin.bitAnd x 3 = x % 4 := kbt_mask x 2
  rw [h]; omega
theorem nat15 (x : Int) : (Builtin.bitAnd x 15).natAbs < 2 ^ 64 := by
  have h : Builtin.bitAnd x 15 = x % 16 := kbt_mask x 4
  rw [h]; omega
theorem nat65535 (x : Int) : (Builtin.bitAnd x 65535).natAbs < 2 ^ 64 := by
  have h : Builtin.bitAnd x 65535 = x % 65536 := kbt_mask x 16
  rw [h]; omega
/-- what b2a_base64 gives for one, two, three octets -/
noncomputable def acc (l : Int) (x : UInt8) : Int := Builtin.bitAnd (Builtin.bitOr (l * 2 ^ Int.toNat 8) (x.toNat : Int)) 65535
noncomputable def six (l k : Int) : UInt8 := c64 (Builtin.bitAnd (l.fdiv (2 ^ k.toNat)) 63)
noncomputable def enc64 : List UInt8 → Array UInt8
  | [] => #[]
  | [x] => #[six (acc 0 x) 2, c64 (Builtin.bitAnd (acc 0 x) 3 * 2 ^ Int.toNat 4), 61, 61]
  | [x, y] => #[six (acc 0 x) 2, six (acc (acc 0 x) y) 4, c64 (Builtin.bitAnd (acc (acc 0 x) y) 15 * 2 ^ Int.toNat 2), 61]
  | x :: y :: z :: _ => #[six (acc 0 x) 2, six (acc (acc 0 x) y) 4, six (acc (acc (acc 0 x) y) z) 6, six (acc (acc (acc 0 x) y) z) 0]
section
theorem room9 {d k j : Nat} (h : d + k < recursionLimit) (hj : j ≤ k) : d + j < recursionLimit := by omega
theorem units9 {d k j : Nat} (h : d + k < cLine) (hj : j ≤ k) : d + j < cLine := by omega
/-- a def is entered; the place is a letter, the state is spelled out -/
theorem call_hereV {k ku : Nat} {w : World} {A : Around} {hp : Heap} {gs : Array GenState} {dr : Drawn} {tk₀ : Nat} {os : OsState} {E Q : Value → Shared → Prop}
    {name qual : PySem.Str} {params : Arguments} {body : List Stmt} {scope : Scope} {dV kV doc pm cdv ct oc : Value} {an od : Option Addr} {osl : Array (Option Value)} {f : Addr} {args : List Value} {kw : List (PySem.Str × Value)} {binds : List (PySem.Str × Value)}
    (H : Here w A hp) (hdp : A.depth + (k + 1) < recursionLimit) (hun : A.units + ku < cLine)
    (ho : (hd.heap_39 w.params).lookup f = some ⟨oc, od, .func (fnOf name qual params body scope dV kV doc pm an cdv ct), osl⟩) (hcd : codeIn (hd.heap_39 w.params) cdv qual = true)
    (hbind : (hd.heap_39 w.params).In hp → BindsTo ⟨hp, gs, dr, tk₀, os⟩ (fnOf name qual params body scope dV kV doc pm an cdv ct) ⟨args, kw⟩ binds) (hloc : ∀ y ∈ binds, scope.names.lookup y.1 = some .local)
    (h : ∀ (A' A₀ : Around) (env : Env) (outer : List Env) (mean : ExcName → Option Value) (mg mb : PySem.Str → Option Value) (base : Heap) (g : Heap) (L' : Addr) (h₁ : Heap) (tk : Nat),
      A'.depth + k < recursionLimit → A'.units + (ku - 3) < cLine → GSub hp g [] → Fr g L' h₁ (fun y => binds.reverse.lookup y) → News g L' h₁ [] →
      Below A₀ base (env :: outer) g → (hd.heap_39 w.params).In g → Top topProg lse mean mg mb g → A'.handled = none → A'.frames = some (envOf qual scope L' f cdv :: env :: outer) →
      wpAny (model prg w) A' (execs body (envOf qual scope L' f cdv))
        (fun fl s' => SpDone hp g Q (match fl with | .ret v => v | _ => .none) s')
        (fun e s' => wpAny (model prg w) A' (leaving (envOf qual scope L' f cdv) e) (fun _ s'' => E e s'') (fun e' s'' => E e' s'') s')
        ⟨h₁, gs, dr, tk, os⟩)
    (hco : scope.isCoroutine = false) (hgen : scope.isGenerator = false) (hk : scope.kind = .function)
    (hcell : ∀ x ∈ scope.names, x.2 ≠ .cell) (h3 : 3 ≤ ku) : wpAny (model prg w) A (call (.ref f) args kw) Q E ⟨hp, gs, dr, tk₀, os⟩ :=
  call_here (k := k) (ku := ku) H hdp hun ho hcd hbind hloc (fun dp un gd env outer mean mg mb base g L' h₁ hdp' hun' G F N B X T =>
    h (Around.deeper { handled := none, depth := dp, frames := some (env :: outer), guards := gd, units := un } (envOf qual scope L' f cdv)) { handled := none, depth := dp, frames := some (env :: outer), guards := gd, units := un } env outer mean mg mb base g L' h₁ _
      (by show dp + 1 + k < recursionLimit; omega) (by show un + 3 + (ku - 3) < cLine; omega) G F N B X T rfl rfl) hco hgen hk hcell
/-- a table of names with one name put in -/
inductive Put (x : PySem.Str) (v : Value) : List (PySem.Str × Value) → List (PySem.Str × Value) → Prop
  | nil : Put x v [] [(x, v)]
  | hit {u : Value} {l : List (PySem.Str × Value)} : Put x v ((x, u) :: l) ((x, v) :: l)
  | skip {a : PySem.Str} {u : Value} {l l' : List (PySem.Str × Value)} (h : (x == a) = false) (r : Put x v l l') : Put x v ((a, u) :: l) ((a, u) :: l')
theorem Put.eq {x : PySem.Str} {v : Value} {l l' : List (PySem.Str × Value)} (p : Put x v l l') : (fun y => if y = x then some v else List.lookup y l) = fun y => List.lookup y l' := by
  funext y
  induction p with
  | nil =>
    by_cases e : y = x
    · subst e; simp [List.lookup]
    · have : (y == x) = false := by simpa using e
      simp [List.lookup, e, this]
  | hit =>
    by_cases e : y = x
    · subst e; simp [List.lookup]
    · have : (y == x) = false := by simpa using e
      simp [List.lookup, e, this]
  | @skip a u l l' h r ih =>
    by_cases e : y = a
    · subst e
      have : y ≠ x := by intro q; subst q; simp at h
      simp [List.lookup, this]
    · have h1 : (y == a) = false := by simpa using e
      simp only [List.lookup, h1]; exact ih
section
variable {M : Model} {A : Around} {E : Value → Shared → Prop} {h₀ : Heap} {L a : Addr} {l l' : List (PySem.Str × Value)} {cn : PySem.Str} {cs : Scope} {ccd : Value} {cl : List (PySem.Str × Addr)} {x : PySem.Str} {news : List (Addr × Obj)}
  {hp : Heap} {gs : Array GenState} {dr : Drawn} {tk₀ : Nat} {os : OsState}
/-- a name is bound: the token and the count are forgotten -/
theorem put_any {v : Value} {Q : Unit → Shared → Prop} (F : Fr h₀ L hp (fun y => List.lookup y l)) (N : News h₀ L hp news) (hk : cs.kind = .function) (hx : (envX cn cs L a ccd cl).kindOf x = some .local) (p : Put x v l l')
    (h : ∀ h' tk, Fr h₀ L h' (fun y => List.lookup y l') → News h₀ L h' news → Q () ⟨h', gs, dr, tk, os⟩)
    : wpAny M A (storeName (envX cn cs L a ccd cl) x v) Q E ⟨hp, gs, dr, tk₀, os⟩ :=
  storeX_L (s := ⟨hp, gs, dr, tk₀, os⟩) F N (fun h' F' N' => h h' _ (p.eq ▸ F') N') hk hx
theorem put_int {i : Int} {t : Tok} {l' : Tok → List (PySem.Str × Value)} {Q : Unit → Shared → Prop} (F : Fr h₀ L hp (fun y => List.lookup y l)) (N : News h₀ L hp news) (hk : cs.kind = .function) (hx : (envX cn cs L a ccd cl).kindOf x = some .local) (p : ∀ t, Put x (.int i t) l (l' t))
    (h : ∀ t h' tk, Fr h₀ L h' (fun y => List.lookup y (l' t)) → News h₀ L h' news → Q () ⟨h', gs, dr, tk, os⟩)
    : wpAny M A (storeName (envX cn cs L a ccd cl) x (.int i t)) Q E ⟨hp, gs, dr, tk₀, os⟩ :=
  put_any F N hk hx (p t) (h t)
theorem put_str {i : PySem.Str} {t : Tok} {l' : Tok → List (PySem.Str × Value)} {Q : Unit → Shared → Prop} (F : Fr h₀ L hp (fun y => List.lookup y l)) (N : News h₀ L hp news) (hk : cs.kind = .function) (hx : (envX cn cs L a ccd cl).kindOf x = some .local) (p : ∀ t, Put x (.str i t) l (l' t))
    (h : ∀ t h' tk, Fr h₀ L h' (fun y => List.lookup y (l' t)) → News h₀ L h' news → Q () ⟨h', gs, dr, tk, os⟩)
    : wpAny M A (storeName (envX cn cs L a ccd cl) x (.str i t)) Q E ⟨hp, gs, dr, tk₀, os⟩ :=
  put_any F N hk hx (p t) (h t)
theorem put_bytes {i : Array UInt8} {t : Tok} {l' : Tok → List (PySem.Str × Value)} {Q : Unit → Shared → Prop} (F : Fr h₀ L hp (fun y => List.lookup y l)) (N : News h₀ L hp news) (hk : cs.kind = .function) (hx : (envX cn cs L a ccd cl).kindOf x = some .local) (p : ∀ t, Put x (.bytes i t) l (l' t))
    (h : ∀ t h' tk, Fr h₀ L h' (fun y => List.lookup y (l' t)) → News h₀ L h' news → Q () ⟨h', gs, dr, tk, os⟩)
    : wpAny M A (storeName (envX cn cs L a ccd cl) x (.bytes i t)) Q E ⟨hp, gs, dr, tk₀, os⟩ :=
  put_any F N hk hx (p t) (h t)
/-- a name is read: the equation stands the other way, so that its proof is small -/
theorem nm_L {m : PySem.Str → Option Value} {s : Shared} {v : Value} {pos : Pos} {Q : Value → Shared → Prop} (F : Fr h₀ L s.heap m)
    (hk : cs.kind = .function) (hx : (envX cn cs L a ccd cl).kindOf x = some .local) (hd : (x == ("__debug__" : PySem.Str)) = false) (hv : some v = m x) (h : Q v s) :
    wpAny M A (PySem.eval (.Name x pos) (envX cn cs L a ccd cl)) Q E s := nameX_L F hv.symm h hk hx hd
theorem bytes_succ {prog : Program} {w : World} {I : Addr} {c : Int} {r : List Int} {l' : Tok → List (PySem.Str × Value)} {body : List Stmt} {Q : Flow → Shared → Prop} (p : ∀ u, Put x (.int c u) l (l' u))
    (h : 0 ≤ c → c < 256 → ∀ (u : Tok) (it : Obj) h tk, Fr h₀ L h (fun y => List.lookup y (l' u)) → News h₀ L h ((I, it) :: news) →
      wpAny (model prog w) A (execs body (envX cn cs L a ccd cl)) (UnrPost h₀ L ⟨h, gs, dr, tk, os⟩ I it (BytesRest prog w A E h₀ (envX cn cs L a ccd cl) x body Q ⟨hp, gs, dr, tk₀, os⟩ I r) Q) E ⟨h, gs, dr, tk, os⟩) :
    BytesRest prog w A E h₀ (envX cn cs L a ccd cl) x body Q ⟨hp, gs, dr, tk₀, os⟩ I (c :: r) (fun y => List.lookup y l) news :=
  fun h0 h1 u it h' tk F N => h h0 h1 u it h' tk ((p u).eq ▸ F) N
theorem bytes_zero {prog : Program} {w : World} {I : Addr} {m : PySem.Str → Option Value} {body : List Stmt} {Q : Flow → Shared → Prop} 
    (h : ∀ h tk, Fr h₀ L h m → News h₀ L h news → Q .next ⟨h, gs, dr, tk, os⟩) :
    BytesRest prog w A E h₀ (envX cn cs L a ccd cl) x body Q ⟨hp, gs, dr, tk₀, os⟩ I [] m news := h
end
theorem in_0 : ∀ n ∈ ([] : List Int), 0 ≤ n ∧ n < 256 := by simp
theorem in_1 {a : Int} (ha : 0 ≤ a ∧ a < 256) : ∀ n ∈ [a], 0 ≤ n ∧ n < 256 := by simpa using ha
theorem in_2 {a b : Int} (ha : 0 ≤ a ∧ a < 256) (hb : 0 ≤ b ∧ b < 256) : ∀ n ∈ [a, b], 0 ≤ n ∧ n < 256 := by simpa using ⟨ha, hb⟩
theorem in_3 {a b c : Int} (ha : 0 ≤ a ∧ a < 256) (hb : 0 ≤ b ∧ b < 256) (hc : 0 ≤ c ∧ c < 256) : ∀ n ∈ [a, b, c], 0 ≤ n ∧ n < 256 := by simpa using ⟨ha, hb, hc⟩
theorem in_4 {a b c d : Int} (ha : 0 ≤ a ∧ a < 256) (hb : 0 ≤ b ∧ b < 256) (hc : 0 ≤ c ∧ c < 256) (hd : 0 ≤ d ∧ d < 256) : ∀ n ∈ [a, b, c, d], 0 ≤ n ∧ n < 256 := by simpa using ⟨ha, hb, hc, hd⟩
theorem ints_0 : IntsAre [] [] := .nil
theorem ints_1 {a : Int} {t : Tok} : IntsAre [.int a t] [a] := .cons _ _ .nil
theorem ints_2 {a b : Int} {t u : Tok} : IntsAre [.int a t, .int b u] [a, b] := .cons _ _ ints_1
theorem ints_3 {a b c : Int} {t u v : Tok} : IntsAre [.int a t, .int b u, .int c v] [a, b, c] := .cons _ _ ints_2
theorem ints_4 {a b c d : Int} {t u v x : Tok} : IntsAre [.int a t, .int b u, .int c v, .int d x] [a, b, c, d] := .cons _ _ ints_3
theorem intsP_0 : IntsAre (#[] : Array Value).toList [] := .nil
theorem intsP_1 {a : Int} {t : Tok} : IntsAre ((#[] : Array Value).toList.concat (Value.int a t)) [a] := ints_1
theorem intsP_2 {a b : Int} {t u : Tok} : IntsAre ((#[].push (Value.int a t)).toList.concat (.int b u)) [a, b] := ints_2
theorem intsP_3 {a b c : Int} {t u v : Tok} : IntsAre (((#[].push (Value.int a t)).push (.int b u)).toList.concat (.int c v)) [a, b, c] := ints_3
theorem intsP_4 {a b c d : Int} {t u v x : Tok} : IntsAre ((((#[].push (Value.int a t)).push (.int b u)).push (.int c v)).toList.concat (.int d x)) [a, b, c, d] := ints_4
theorem no4 {a b c d : UInt8} {l : List UInt8} (h : (a :: b :: c :: d :: l).length ≤ 3) : False := by
  simp only [List.length_cons] at h; omega
theorem bints_l (l : List UInt8) : KBw.bInts l.toArray = l.map fun c => (c.toNat : Int) := rfl
theorem sub_0 {α : Type} (l : List α) : ∀ p ∈ l, p ∈ l := fun _ h => h
theorem sub_1 {α : Type} (a : α) (l : List α) : ∀ p ∈ l, p ∈ a :: l := fun p h => .tail _ (sub_0  l p h)
theorem sub_2 {α : Type} (a b : α) (l : List α) : ∀ p ∈ l, p ∈ a :: b :: l := fun p h => .tail _ (sub_1 b l p h)
theorem sub_3 {α : Type} (a b c : α) (l : List α) : ∀ p ∈ l, p ∈ a :: b :: c :: l := fun p h => .tail _ (sub_2 b c l p h)
theorem sub_4 {α : Type} (a b c d : α) (l : List α) : ∀ p ∈ l, p ∈ a :: b :: c :: d :: l := fun p h => .tail _ (sub_3 b c d l p h)
theorem sub_5 {α : Type} (a b c d e : α) (l : List α) : ∀ p ∈ l, p ∈ a :: b :: c :: d :: e :: l := fun p h => .tail _ (sub_4 b c d e l p h)
end
local macro_rules | `(tactic| k_room) => `(tactic| ktr_room)
local macro_rules | `(tactic| k_units) => `(tactic| ktr_units)
local macro_rules | `(tactic| kba_ints2) => `(tactic| first | exact bints1 _ | exact bints2 _ _ | exact bints3 _ _ _ | exact bints4 _ _ _ _ | exact bints6 _ _ _ _ _ _)
local macro_rules | `(tactic| walk_at $s:str) => `(tactic| k_extra $s)
local macro_rules | `(tactic| k_ne) => `(tactic| (refine neN ?_; (try dsimp only); walk_at "sp and"))
local macro_rules | `(tactic| lcg_sub) => `(tactic| walk_at "sp sub")
section
example : True := by
  k_with_none
  (k_with "sp enter" => ((w_top off; have hfill : PySem.Challenge.rw_kq0048_01 = PySem.Challenge.rw_kq0048_01 ∧ hd.heap_39 = hd.heap_39 := by (k_fill; exact ⟨rfl, rfl⟩)); clear hfill; k_dflt (refine call_here (by assumption) (by assumption) (by assumption) (by k_is) (by k_is) (by (intro X9; first | exact BindsTo.of_eq rfl | exact binds_K (by assumption) rfl (by k_is) rfl rfl rfl)) (by exact locs rfl) ?_ (by exact rfl) (by exact rfl) (by exact rfl) (by decide)); k_whole; intro dp' un' gd' env' outer' mean' mg' mb' base' g' L' h' hdp' hun' kG' F' N' B' X' T'; (try dsimp only); (try k_fold)))
  (k_with "SpDone" => ((refine SpDone.intro (by k_asm) ?_); intro st9))
  (k_with "call type:type" => (k_here; (with_reducible show wpAny _ _ (call _ [Value.bytes _ _]) _ _ _); refine call_type_of (Tx := "bytes") rfl (by decide +kernel) ?_))
  (k_with "sp kept" => (intro t9 h9 tk9 st9; (try dsimp only at st9); rename Fr _ _ _ _ => kF; rename News _ _ _ _ => kN; (k_dflt (have kF' := Fr.keeps kF st9)); (k_dflt (have kN' := News.grown kN st9)); clear kF kN st9))
  (k_with "sp here" => k_dflt (exact Here.mk (by k_asm) (by k_asm) (by k_asm) (by k_asm) rfl rfl rfl rfl))
  (k_with "sp and" => first | with_reducible assumption | with_reducible exact Ne.symm (by assumption) | with_reducible exact Nat.ne_of_gt (by assumption) | with_reducible exact Nat.ne_of_lt (by assumption) | (simp only [ne_eq, not_false_eq_true, *]; done) | (apply Ne.symm; simp only [ne_eq, not_false_eq_true, *]; done))
  (k_with "sp sub" => first | with_reducible exact sub_0 _ | with_reducible exact sub_1 _ _ | with_reducible exact sub_2 _ _ _ | with_reducible exact sub_3 _ _ _ _ | with_reducible exact sub_4 _ _ _ _ _ | with_reducible exact sub_5 _ _ _ _ _ _)
  trivial
set_option maxHeartbeats 4000000 in
theorem buffer_spec {w : World} {A : Around} {s : Shared} {E Q : Value → Shared → Prop} {r : Array UInt8} {u : Tok}
    (H : Here w A s.heap) (hdp : A.depth + (0 + 1) < recursionLimit) (hun : A.units + 20 < cLine)
    (hQ : ∀ t h' tk', s.heap.StaysIn h' → Q (.bytes r t) { s with heap := h', toks := tk' }) :
    wpAny (model prg w) A (call (.ref 122) [.bytes r u]) Q E s := by
  walk_at "sp enter"
  k_steps
  all_goals exact hQ _ _ _ (by assumption)
set_option maxHeartbeats 4000000 in
theorem truth_spec {w : World} {A : Around} {s : Shared} {E Q : Value → Shared → Prop} {b : Bool}
    (H : Here w A s.heap) (hdp : A.depth + (0 + 1) < recursionLimit) (hun : A.units + 20 < cLine)
    (hQ : ∀ (t : Tok) h' tk', s.heap.StaysIn h' → Q (.bool b) { s with heap := h', toks := tk' }) :
    wpAny (model prg w) A (call (.ref 129) [.bool b]) Q E s := by
  cases b
  · walk_at "sp enter"
    k_steps
    all_goals exact hQ 0 _ _ (by assumption)
  · walk_at "sp enter"
    k_steps
    all_goals exact hQ 0 _ _ (by assumption)
set_option maxHeartbeats 4000000 in
theorem ascii_spec {w : World} {A : Around} {s : Shared} {E Q : Value → Shared → Prop} {r : Array UInt8} {u : Tok}
    (H : Here w A s.heap) (hdp : A.depth + (0 + 1) < recursionLimit) (hun : A.units + 20 < cLine)
    (hQ : ∀ t h' tk', s.heap.StaysIn h' → Q (.bytes r t) { s with heap := h', toks := tk' }) :
    wpAny (model prg w) A (call (.ref 115) [.bytes r u]) Q E s := by
  walk_at "sp enter"
  k_steps
  all_goals exact hQ _ _ _ (by assumption)
set_option maxHeartbeats 4000000 in
theorem fromdata_spec {w : World} {A : Around} {s : Shared} {E Q : Value → Shared → Prop} {r : Array UInt8} {u : Tok}
    (H : Here w A s.heap) (hdp : A.depth + (0 + 1) < recursionLimit) (hun : A.units + 20 < cLine)
    (hQ : ∀ t h' tk', s.heap.StaysIn h' → Q (.bytes r t) { s with heap := h', toks := tk' }) :
    wpAny (model prg w) A (call (.ref 95) [.bytes r u]) Q E s := by
  walk_at "sp enter"
  k_steps
  all_goals exact hQ _ _ _ (by assumption)
end
section
example : True := by
  k_with_none
  (k_with "sp enter" => ((w_top off; have hfill : PySem.Challenge.rw_kq0048_01 = PySem.Challenge.rw_kq0048_01 ∧ hd.heap_39 = hd.heap_39 := by (k_fill; exact ⟨rfl, rfl⟩)); clear hfill; k_dflt (refine call_here (by assumption) (by assumption) (by assumption) (by k_is) (by k_is) (by (intro X9; first | exact BindsTo.of_eq rfl | exact binds_K (by assumption) rfl (by k_is) rfl rfl rfl)) (by exact locs rfl) ?_ (by exact rfl) (by exact rfl) (by exact rfl) (by decide)); k_whole; intro dp' un' gd' env' outer' mean' mg' mb' base' g' L' h' hdp' hun' kG' F' N' B' X' T'; (try dsimp only); (try k_fold)))
  (k_with "SpDone" => ((refine SpDone.intro (by k_asm) ?_); intro st9))
  (k_with "call type:type" => (k_here; (with_reducible show wpAny _ _ (call _ [Value.bytes _ _]) _ _ _); refine call_type_of (Tx := "bytes") rfl (by decide +kernel) ?_))
  (k_with "sp kept" => (intro t9 h9 tk9 st9; (try dsimp only at st9); rename Fr _ _ _ _ => kF; rename News _ _ _ _ => kN; (k_dflt (have kF' := Fr.keeps kF st9)); (k_dflt (have kN' := News.grown kN st9)); clear kF kN st9))
  (k_with "sp here" => k_dflt (exact Here.mk (by k_asm) (by k_asm) (by k_asm) (by k_asm) rfl rfl rfl rfl))
  (k_with "sp and" => first | with_reducible assumption | with_reducible exact Ne.symm (by assumption) | with_reducible exact Nat.ne_of_gt (by assumption) | with_reducible exact Nat.ne_of_lt (by assumption) | (simp only [ne_eq, not_false_eq_true, *]; done) | (apply Ne.symm; simp only [ne_eq, not_false_eq_true, *]; done))
  (k_with "sp sub" => first | with_reducible exact sub_0 _ | with_reducible exact sub_1 _ _ | with_reducible exact sub_2 _ _ _ | with_reducible exact sub_3 _ _ _ _ | with_reducible exact sub_4 _ _ _ _ _ | with_reducible exact sub_5 _ _ _ _ _ _)
  (k_with "sp put" => first | exact Put.nil | with_reducible exact Put.hit | (apply Put.skip; (focus decide); walk_at "sp put"))
  (k_with "storeName" => (k_here; k_dflt (refine put_any (by k_asm) (by k_asm) (by rfl) (by rfl) (by walk_at "sp put") ?_); intro h' k' F' N'; (try k_sweep); (try dsimp only)))
  (k_with "storeName" => (k_here; (with_reducible show wpAny _ _ (storeName _ _ (Value.str _ _)) _ _ _); k_dflt (refine put_str (by k_asm) (by k_asm) (by rfl) (by rfl) (by intro tp; walk_at "sp put") ?_); intro t' h' k' F' N'; (try k_sweep); (try dsimp only)))
  (k_with "storeName" => (k_here; (with_reducible show wpAny _ _ (storeName _ _ (Value.bytes _ _)) _ _ _); k_dflt (refine put_bytes (by k_asm) (by k_asm) (by rfl) (by rfl) (by intro tp; walk_at "sp put") ?_); intro t' h' k' F' N'; (try k_sweep); (try dsimp only)))
  (k_with "storeName" => (k_here; (with_reducible show wpAny _ _ (storeName _ _ (Value.int _ _)) _ _ _); k_dflt (refine put_int (by k_asm) (by k_asm) (by rfl) (by rfl) (by intro tp; walk_at "sp put") ?_); intro t' h' k' F' N'; (try k_sweep); (try dsimp only)))
  (k_with "eval Name" => (k_here; k_dflt (refine nm_L (by k_asm) (by rfl) (by rfl) (by decide) (by exact Eq.refl (some _)) ?_)))
  (k_with "pyIter bytes" => (k_here; (with_reducible show wpAny _ _ (pyIter (Value.bytes _ _)) (fun it s₂ => LoopAtV _ _ _ _ _ _ _ _ _ it s₂) _ _); (rename Fr _ _ _ _ => lF'); (rename News _ _ _ _ => lN'); (k_dflt (refine iter_bytesUnr (by assumption) lF' lN' (by first | assumption | kba_ints2) ?_)); clear lF' lN'; intro i' l1; (try k_lt l1)))
  (k_with "BytesRest" => ((first | ((with_reducible show BytesRest _ _ _ _ _ _ _ _ _ _ _ (_ :: _) _ _); k_dflt (refine bytes_succ (by intro tp; walk_at "sp put") ?_); intro b0' b1' u' it' h' tk' F' N') | ((with_reducible show BytesRest _ _ _ _ _ _ _ _ _ _ _ (List.map _ _) _ _); (rename List UInt8 => l9); (rename List.length _ ≤ 3 => h9); cases l9 <;> (first | exact (no4 h9).elim | dsimp only [List.map])) | (k_dflt (refine bytes_zero ?_); intro h' tk' F' N'))))
  (k_with "execs cons" => (k_here; (try k_fold); (with_reducible refine wpAny_execs_cons ?_); (try dsimp only); k_fold))
  (k_with "sp room" => exact room9 (by assumption) (by decide))
  (k_with "sp units" => exact units9 (by assumption) (by decide))
  (k_with "sp here" => k_dflt (exact Here.mk (by k_asm) (by k_asm) (by k_asm) (by k_asm) (by first | assumption | rfl) rfl rfl (by first | assumption | rfl)))
  (k_with "sp enterV" => ((w_top off; have hfill : PySem.Challenge.rw_kq0048_01 = PySem.Challenge.rw_kq0048_01 ∧ hd.heap_39 = hd.heap_39 := by (k_fill; exact ⟨rfl, rfl⟩)); clear hfill; k_dflt (refine call_hereV (by assumption) (by assumption) (by assumption) (by k_is) (by k_is) (by (intro X9; first | exact BindsTo.of_eq rfl | exact binds_K (by assumption) rfl (by k_is) rfl rfl rfl)) (by exact locs rfl) ?_ (by exact rfl) (by exact rfl) (by exact rfl) (by decide) (by decide)); k_whole; intro A' A0' env' outer' mean' mg' mb' base' g' L' h' tk' hdp' hun' kG' F' N' B' X' T' hh' hf'; (try dsimp only)))
  (k_with "sp in1" => first | exact b64i_in _ | decide)
  (k_with "sp in" => first | with_reducible exact in_4 (by walk_at "sp in1") (by walk_at "sp in1") (by walk_at "sp in1") (by walk_at "sp in1") | with_reducible exact in_0)
  (k_with "subscriptTail" => (k_here; (with_reducible show wpAny _ _ (subscriptTail _ _ (Value.bytes #[65, 66, 67, _, _, _, _, _, _, _, _, _, _, _, _, _, _, _, _, _, _, _, _, _, _, _, _, _, _, _, _, _, _, _, _, _, _, _, _, _, _, _, _, _, _, _, _, _, _, _, _, _, _, _, _, _, _, _, _, _, _, _, _, _] _) (Value.int _ _)) _ _ _); k_dflt (refine b64_item (by first | exact and63_in _ | exact and3_in _ | exact and15_in _) ?_ (by with_unfolding_all rfl) (by intro _; with_unfolding_all rfl)); k_whole))
  (k_with "call type:bytes" => (k_here; (with_reducible show wpAny _ _ (call (Value.type _) [Value.ref _]) _ _ _); k_dflt (refine bytes_K (by k_asm) (by k_asm) (by is_list) (by first | with_reducible exact intsP_4 | with_reducible exact intsP_3 | with_reducible exact intsP_2 | with_reducible exact intsP_1 | with_reducible exact intsP_0 | with_reducible exact intsP_4 | l_ints | l_intsW) (by walk_at "sp in") (by exact Nat.le_of_ble_eq_true (by with_unfolding_all rfl)) (by first | assumption | with_unfolding_all rfl) ?_); k_whole; intro h' t' k' F' N' hB'; (clear hB'); (try dsimp only [List.map]); (try k_sweep)))
  (k_with "binaryOp LShift int int" => (k_here; (with_reducible refine lshift_int_small ?kb1 ?kb2 ?kb3 ?_); (case kb1 => decide); (case kb2 => decide); (case kb3 => first | exact nat3 _ | exact nat15 _ | exact nat65535 _ | decide)))
  (k_with "call ref" => (k_here; (with_reducible show wpAny _ _ (call (Value.ref 122) [Value.bytes _ _] _) _ _ _); (refine buffer_spec (by walk_at "sp here") (by first | walk_at "sp room" | k_room) (by first | walk_at "sp units" | k_units) ?_); k_whole; walk_at "sp kept"))
  (k_with "call ref" => (k_here; (with_reducible show wpAny _ _ (call (Value.ref 129) [Value.bool _] _) _ _ _); (refine truth_spec (by walk_at "sp here") (by first | walk_at "sp room" | k_room) (by first | walk_at "sp units" | k_units) ?_); k_whole; walk_at "sp kept"))
  trivial
set_option maxHeartbeats 4000000 in
theorem b2a_gen {w : World} {A : Around} {s : Shared} {E Q : Value → Shared → Prop} {b : Array UInt8} {u : Tok} (l : List UInt8) (hb : KBw.bInts b = l.map fun c => (c.toNat : Int)) (hl : l.length ≤ 3)
    (H : Here w A s.heap) (hdp : A.depth + (1 + 1) < recursionLimit) (hun : A.units + 100 < cLine)
    (hQ : ∀ t h' tk', s.heap.StaysIn h' → Q (.bytes (enc64 l) t) { s with heap := h', toks := tk' }) :
    wpAny (model prg w) A (call (.ref 152) [.bytes b u] [(PySem.Str.ofString "newline", .bool false)]) Q E s := by
  obtain ⟨hp, gs, dr, tk0, os⟩ := s
  dsimp only at H hQ
  walk_at "sp enterV"
  k_fold
  (rename Fr _ _ _ _ => F9; have F8 : Fr _ _ _ (fun y => List.lookup y [(PySem.Str.ofString "newline", .bool false), (PySem.Str.ofString "data", .bytes b u)]) := F9; clear F9)
  k_steps
  all_goals exact hQ _ _ _ (by assumption)
theorem b2a_spec {w : World} {A : Around} {s : Shared} {E Q : Value → Shared → Prop} {l : List UInt8} {u : Tok} (hl : l.length ≤ 3)
    (H : Here w A s.heap) (hdp : A.depth + (1 + 1) < recursionLimit) (hun : A.units + 100 < cLine)
    (hQ : ∀ t h' tk', s.heap.StaysIn h' → Q (.bytes (enc64 l) t) { s with heap := h', toks := tk' }) :
    wpAny (model prg w) A (call (.ref 152) [.bytes l.toArray u] [(PySem.Str.ofString "newline", .bool false)]) Q E s :=
  b2a_gen l (bints_l l) hl H hdp hun hQ
end
section
open PySem PySem.W PySem.Calls PyProof.Rows PySem.Spec Builtin
theorem slot_translate : Slot "bytes" "translate" "bytes.translate" :=
  .of (owner := "bytes") (n := "translate") (by rw [typeLookup_type, builtinLookup_eq_fast]; kernel_rfl) (by decide +kernel) (by decide +kernel) (by decide +kernel)
    (by first | exact .inl (by decide +kernel) | exact .inr (by decide +kernel)) (by rw [isSubtype_type]; kernel_rfl)
theorem type_translate : typeOf (.builtin "bytes.translate") = pure (.type "method_descriptor") := by show builtinType _ = _; rw [builtinType_eq_fast]; kernel_rfl
theorem entry_translate : entryFor table "bytes.translate" = some Builtin.«bytes.translate» := entryFor_of_tree (by kernel_rfl)
theorem args_translate (a b : Value) : argsOk "bytes.translate" ⟨[a, b], []⟩ := by unfold argsOk; kernel_rfl
theorem slot_bupper : Slot "bytes" "upper" "bytes.upper" :=
  .of (owner := "bytes") (n := "upper") (by rw [typeLookup_type, builtinLookup_eq_fast]; kernel_rfl) (by decide +kernel) (by decide +kernel) (by decide +kernel)
    (by first | exact .inl (by decide +kernel) | exact .inr (by decide +kernel)) (by rw [isSubtype_type]; kernel_rfl)
theorem type_bupper : typeOf (.builtin "bytes.upper") = pure (.type "method_descriptor") := by show builtinType _ = _; rw [builtinType_eq_fast]; kernel_rfl
theorem entry_bupper : entryFor table "bytes.upper" = some Builtin.«bytes.upper» := entryFor_of_tree (by kernel_rfl)
theorem args_bupper (a : Value) : argsOk "bytes.upper" ⟨[a], []⟩ := by unfold argsOk; kernel_rfl
theorem slot_blower : Slot "bytes" "lower" "bytes.lower" :=
  .of (owner := "bytes") (n := "lower") (by rw [typeLookup_type, builtinLookup_eq_fast]; kernel_rfl) (by decide +kernel) (by decide +kernel) (by decide +kernel)
    (by first | exact .inl (by decide +kernel) | exact .inr (by decide +kernel)) (by rw [isSubtype_type]; kernel_rfl)
theorem type_blower : typeOf (.builtin "bytes.lower") = pure (.type "method_descriptor") := by show builtinType _ = _; rw [builtinType_eq_fast]; kernel_rfl
theorem entry_blower : entryFor table "bytes.lower" = some Builtin.«bytes.lower» := entryFor_of_tree (by kernel_rfl)
theorem args_blower (a : Value) : argsOk "bytes.lower" ⟨[a], []⟩ := by unfold argsOk; kernel_rfl
theorem slot_encode : Slot "str" "encode" "str.encode" :=
  .of (owner := "str") (n := "encode") (by rw [typeLookup_type, builtinLookup_eq_fast]; kernel_rfl) (by decide +kernel) (by decide +kernel) (by decide +kernel)
    (by first | exact .inl (by decide +kernel) | exact .inr (by decide +kernel)) (by rw [isSubtype_type]; kernel_rfl)
theorem type_encode : typeOf (.builtin "str.encode") = pure (.type "method_descriptor") := by show builtinType _ = _; rw [builtinType_eq_fast]; kernel_rfl
theorem entry_encode : entryFor table "str.encode" = some Builtin.«str.encode» := entryFor_of_tree (by kernel_rfl)
theorem args_encode (a b : Value) : argsOk "str.encode" ⟨[a, b], []⟩ := by unfold argsOk; kernel_rfl
noncomputable def upB (b : Array UInt8) : Array UInt8 := (b.toList.map Bytes.toUpper).toArray
noncomputable def loB (b : Array UInt8) : Array UInt8 := (b.toList.map Bytes.toLower).toArray
noncomputable def hexS (b : Array UInt8) : PySem.Str := ⟨b.toList.zipIdx.foldl (fun (out : Array Nat) (c, _) => (out.push (Bytes.hexDigit (c.toNat / 16))).push (Bytes.hexDigit (c.toNat % 16))) #[]⟩
theorem gives_upper (b : Array UInt8) (t : Tok) : Gives («bytes.upper» ⟨[.bytes b t], []⟩) (.bytes (upB b)) := .of_eq rfl
theorem gives_lower (b : Array UInt8) (t : Tok) : Gives («bytes.lower» ⟨[.bytes b t], []⟩) (.bytes (loB b)) := .of_eq rfl
theorem gives_hex (b : Array UInt8) (t : Tok) : Gives («bytes.hex» ⟨[.bytes b t], []⟩) (.str (hexS b)) := .of_eq (by kernel_rfl)
noncomputable def trB (T : Array UInt8) (b : Array UInt8) : Array UInt8 := b.map fun c => T.getD c.toNat c
theorem translate_eq (b T : Array UInt8) (t u : Tok) (hT : T.size = 256) : («bytes.translate» ⟨[.bytes b t, .bytes T u], []⟩) = if (trB T b == b) = true then (rule "bytes.translate.unchanged" >>= fun _ => ret (.bytes b t)) else (mkBytes (trB T b) >>= fun v => ret v) := by
  have hf : (b.filter fun _ => true) = b := by
    rw [Array.filter_eq_self]
    intro a _; rfl
  have hn : (Value.bytes T u == Value.none) = false := rfl
  have hp : Bytes.payload (Value.bytes b t) = pure b := rfl
  have hs : Bytes.Kind.bytes.same (Value.bytes b t) = pure (.bytes b t) := rfl
  have hb : Bytes.Kind.bytes.new = mkBytes := rfl
  have hk : Bytes.Kind.bytes.name = "bytes" := rfl
  unfold «bytes.translate» Bytes.translateM trB
  simp [KBd.like_eq, hT, hf, hn, hp, hs, hb, hk]
  rfl
theorem forIn_two {β : Type} {n : Nat} {f : Nat → β → Sem (ForInStep β)} {init b1 : β} (h1 : f 0 init = pure (.yield b1)) (h2 : ∀ i, f i b1 = pure (.done b1)) : forIn (List.range' 0 (n + 1) 1) init f = pure b1 := by
  rw [List.range'_succ, List.forIn_cons, h1]
  cases n with
  | zero => simp
  | succ n => rw [List.range'_succ]; simp [h2]
theorem narrow_ascii {id : String} {self : Value} {x : PySem.Str} (h : ∀ c ∈ x.cps, c < 128) (hsz : x.cps.size ≤ sizeLine) : _codecs.encodeNarrow id _codecs.asciiCodec none self x = pure (x.cps.map UInt8.ofNat) := by
  unfold _codecs.encodeNarrow
  dsimp only
  rw [Std.Legacy.Range.forIn_eq_forIn_range']
  have hb : ∀ c ∈ x.cps, _codecs.asciiCodec.bad c = false := fun c hc => by
    have := h c hc
    simp [_codecs.asciiCodec]; omega
  have hl : x.length = x.cps.size := rfl
  have hfi : Array.findIdx? _codecs.asciiCodec.bad x.cps = none := by
    rw [Array.findIdx?_eq_none_iff]; exact hb
  have hby : ∀ y, _codecs.asciiCodec.bytesOf y = [y.toUInt8] := fun _ => rfl
  have e : ∀ n, (Std.Legacy.Range.size { start := 0, stop := n, step := 1, step_pos := by decide }) = n := fun n => by simp [Std.Legacy.Range.size]
  by_cases h0 : x.cps.size = 0
  · have hx : x.cps = #[] := Array.eq_empty_of_size_eq_zero h0
    simp [hl, Std.Legacy.Range.size, hx]
  · obtain ⟨n, hc⟩ : ∃ n, x.cps.size = n + 1 := ⟨x.cps.size - 1, by omega⟩
    have hlt : 0 < x.cps.size := by omega
    have hx : x.cps[0]? = some x.cps[0] := by simp
    have hbad : _codecs.asciiCodec.bad x.cps[0] = false := hb _ (by simp)
    have hz : (Std.Legacy.Range.size { start := 0, stop := x.length, step := 1, step_pos := by decide }) = n + 1 := by rw [e, hl, hc]
    have hz2 : ¬ sizeLine < 0 := by simp
    rw [hz]
    rw [forIn_two (b1 := (x.cps.size, x.cps.map UInt8.ofNat, {}))]
    · rfl
    · simp [hx, hbad, hfi, hby]
    · intro i
      have hsz' : ¬ sizeLine < x.cps.size := by omega
      simp [hsz']
theorem encode_eq {x : PySem.Str} {t u : Tok} : «str.encode» ⟨[.str x t, .str (PySem.Str.ofString "ascii") u], []⟩ = ((_codecs.encodeNarrow "str.encode" _codecs.asciiCodec none (.str x t) x >>= fun b => mkBytes b) >>= fun v => ret v) := by
  kernel_rfl
theorem gives_encode {x : PySem.Str} {t u : Tok} (h : ∀ c ∈ x.cps, c < 128) (hsz : x.cps.size ≤ sizeLine) : Gives («str.encode» ⟨[.str x t, .str (PySem.Str.ofString "ascii") u], []⟩) (.bytes (x.cps.map UInt8.ofNat)) := by
  refine .of_eq ?_
  rw [encode_eq, narrow_ascii h hsz]
  rfl
section
variable {prog : Program} {w : World} {A : Around} {E : Value → Shared → Prop} {s : Shared} {b T : Array UInt8} {t u : Tok} {Q : Value → Shared → Prop}
theorem call_upper (hsz : b.size ≤ sizeLine) (h : ∀ t' k, Q (.bytes (upB b) t') { s with toks := k }) : wpAny (model prog w) A (call (.builtin "bytes.upper") [.bytes b t]) Q E s :=
  call_gives slot_bupper (typeIs_bytes _ _ _) entry_bupper (args_bupper _) (gives_upper b t) ⟨by simpa [upB] using hsz, h _ _⟩
theorem call_lower (hsz : b.size ≤ sizeLine) (h : ∀ t' k, Q (.bytes (loB b) t') { s with toks := k }) : wpAny (model prog w) A (call (.builtin "bytes.lower") [.bytes b t]) Q E s :=
  call_gives slot_blower (typeIs_bytes _ _ _) entry_blower (args_blower _) (gives_lower b t) ⟨by simpa [loB] using hsz, h _ _⟩
theorem call_hex (hsz : (hexS b).length ≤ sizeLine) (h : ∀ t' k, Q (.str (hexS b) t') { s with toks := k }) : wpAny (model prog w) A (call (.builtin "bytes.hex") [.bytes b t]) Q E s :=
  call_gives FB.slot_bytes_hex (typeIs_bytes _ _ _) FB.entry_bytes_hex (FB.args_bytes_hex_1 _) (gives_hex b t) ⟨hsz, h _ _⟩
theorem call_translate (hT : T.size = 256) (hsz : b.size ≤ sizeLine) (h : ∀ t' k, Q (.bytes (trB T b) t') { s with toks := k }) : wpAny (model prog w) A (call (.builtin "bytes.translate") [.bytes b t, .bytes T u]) Q E s := by
  refine wpAny_call (codeAny_call_builtin slot_translate.plain entry_translate (slot_translate.check _ _ _ _ _ _ _ _ (typeIs_bytes _ _ _) (args_translate _ _) ?_))
  rw [translate_eq b T t u hT]
  by_cases e : (trB T b == b) = true
  · rw [if_pos e]
    have e' : trB T b = b := eq_of_beq e
    rw [e'] at h
    exact wpAny_bind (wpAny_rule (wpAny_pure (h _ _)))
  · rw [if_neg e]
    exact wpAny_bind (wpAny_mkBytes (wpAny_pure (h _ _)) (by simpa [trB] using hsz))
theorem call_encode {x : PySem.Str} (hc : ∀ c ∈ x.cps, c < 128) (hsz : x.cps.size ≤ sizeLine) (h : ∀ t' k, Q (.bytes (x.cps.map UInt8.ofNat) t') { s with toks := k }) : wpAny (model prog w) A (call (.builtin "str.encode") [.str x t, .str (PySem.Str.ofString "ascii") u]) Q E s :=
  call_gives slot_encode (typeIs_str _ _ _) entry_encode (args_encode _ _) (gives_encode hc hsz) ⟨by simpa using hsz, h _ _⟩
theorem meth_upper {M : Model} {pl : Sem Bool} {Q : Value × List Value → Shared → Prop} (h : Q (.builtin "bytes.upper", [.bytes b t]) s) : wpAny M A (getMethod (.bytes b t) "upper" pl) Q E s := by
  with_reducible exact KBd.method_of (.bytes b t) (typeIs_bytes _ _ _) slot_bupper type_bupper KBd.noRef h
theorem meth_lower {M : Model} {pl : Sem Bool} {Q : Value × List Value → Shared → Prop} (h : Q (.builtin "bytes.lower", [.bytes b t]) s) : wpAny M A (getMethod (.bytes b t) "lower" pl) Q E s := by
  with_reducible exact KBd.method_of (.bytes b t) (typeIs_bytes _ _ _) slot_blower type_blower KBd.noRef h
theorem meth_hex {M : Model} {pl : Sem Bool} {Q : Value × List Value → Shared → Prop} (h : Q (.builtin "bytes.hex", [.bytes b t]) s) : wpAny M A (getMethod (.bytes b t) "hex" pl) Q E s := by
  with_reducible exact KBd.method_of (.bytes b t) (typeIs_bytes _ _ _) FB.slot_bytes_hex FB.type_bytes_hex KBd.noRef h
theorem meth_translate {M : Model} {pl : Sem Bool} {Q : Value × List Value → Shared → Prop} (h : Q (.builtin "bytes.translate", [.bytes b t]) s) : wpAny M A (getMethod (.bytes b t) "translate" pl) Q E s := by
  with_reducible exact KBd.method_of (.bytes b t) (typeIs_bytes _ _ _) slot_translate type_translate KBd.noRef h
theorem meth_encode {M : Model} {pl : Sem Bool} {Q : Value × List Value → Shared → Prop} {x : PySem.Str} (h : Q (.builtin "str.encode", [.str x t]) s) : wpAny M A (getMethod (.str x t) "encode" pl) Q E s := by
  with_reducible exact getMethod_builtin (v := .str x t) (typeIs_str _ _ _) F.plainAttrs_str slot_encode type_encode (fun _ e => nomatch e) h
end
noncomputable def encT : Array UInt8 := #[0, 1, 2, 3, 4, 5, 6, 7, 8, 9, 10, 11, 12, 13, 14, 15, 16, 17, 18, 19, 20, 21, 22, 23, 24, 25, 26, 27, 28, 29, 30, 31, 32, 33, 34, 35, 36, 37, 38, 39, 40, 41, 42, 45, 44, 45, 46, 95, 48, 49, 50, 51, 52, 53, 54, 55, 56, 57, 58, 59, 60, 61, 62, 63, 64, 65, 66, 67, 68, 69, 70, 71, 72, 73, 74, 75, 76, 77, 78, 79, 80, 81, 82, 83, 84, 85, 86, 87, 88, 89, 90, 91, 92, 93, 94, 95, 96, 97, 98, 99, 100, 101, 102, 103, 104, 105, 106, 107, 108, 109, 110, 111, 112, 113, 114, 115, 116, 117, 118, 119, 120, 121, 122, 123, 124, 125, 126, 127, 128, 129, 130, 131, 132, 133, 134, 135, 136, 137, 138, 139, 140, 141, 142, 143, 144, 145, 146, 147, 148, 149, 150, 151, 152, 153, 154, 155, 156, 157, 158, 159, 160, 161, 162, 163, 164, 165, 166, 167, 168, 169, 170, 171, 172, 173, 174, 175, 176, 177, 178, 179, 180, 181, 182, 183, 184, 185, 186, 187, 188, 189, 190, 191, 192, 193, 194, 195, 196, 197, 198, 199, 200, 201, 202, 203, 204, 205, 206, 207, 208, 209, 210, 211, 212, 213, 214, 215, 216, 217, 218, 219, 220, 221, 222, 223, 224, 225, 226, 227, 228, 229, 230, 231, 232, 233, 234, 235, 236, 237, 238, 239, 240, 241, 242, 243, 244, 245, 246, 247, 248, 249, 250, 251, 252, 253, 254, 255]
noncomputable def decT : Array UInt8 := #[0, 1, 2, 3, 4, 5, 6, 7, 8, 9, 10, 11, 12, 13, 14, 15, 16, 17, 18, 19, 20, 21, 22, 23, 24, 25, 26, 27, 28, 29, 30, 31, 32, 33, 34, 35, 36, 37, 38, 39, 40, 41, 42, 43, 44, 43, 46, 47, 48, 49, 50, 51, 52, 53, 54, 55, 56, 57, 58, 59, 60, 61, 62, 63, 64, 65, 66, 67, 68, 69, 70, 71, 72, 73, 74, 75, 76, 77, 78, 79, 80, 81, 82, 83, 84, 85, 86, 87, 88, 89, 90, 91, 92, 93, 94, 47, 96, 97, 98, 99, 100, 101, 102, 103, 104, 105, 106, 107, 108, 109, 110, 111, 112, 113, 114, 115, 116, 117, 118, 119, 120, 121, 122, 123, 124, 125, 126, 127, 128, 129, 130, 131, 132, 133, 134, 135, 136, 137, 138, 139, 140, 141, 142, 143, 144, 145, 146, 147, 148, 149, 150, 151, 152, 153, 154, 155, 156, 157, 158, 159, 160, 161, 162, 163, 164, 165, 166, 167, 168, 169, 170, 171, 172, 173, 174, 175, 176, 177, 178, 179, 180, 181, 182, 183, 184, 185, 186, 187, 188, 189, 190, 191, 192, 193, 194, 195, 196, 197, 198, 199, 200, 201, 202, 203, 204, 205, 206, 207, 208, 209, 210, 211, 212, 213, 214, 215, 216, 217, 218, 219, 220, 221, 222, 223, 224, 225, 226, 227, 228, 229, 230, 231, 232, 233, 234, 235, 236, 237, 238, 239, 240, 241, 242, 243, 244, 245, 246, 247, 248, 249, 250, 251, 252, 253, 254, 255]
noncomputable def url64 (l : List UInt8) : Array UInt8 := trB encT (enc64 l)
theorem enc64_size : ∀ l : List UInt8, (enc64 l).size ≤ 4
  | [] => by decide
  | [_] => Nat.le_refl 4
  | [_, _] => Nat.le_refl 4
  | _ :: _ :: _ :: _ => Nat.le_refl 4
theorem enc64_fits (l : List UInt8) : (enc64 l).size ≤ sizeLine := Nat.le_trans (enc64_size l) (by decide)
end
section
example : True := by
  k_with_none
  (k_with "sp enter" => ((w_top off; have hfill : PySem.Challenge.rw_kq0048_01 = PySem.Challenge.rw_kq0048_01 ∧ hd.heap_39 = hd.heap_39 := by (k_fill; exact ⟨rfl, rfl⟩)); clear hfill; k_dflt (refine call_here (by assumption) (by assumption) (by assumption) (by k_is) (by k_is) (by (intro X9; first | exact BindsTo.of_eq rfl | exact binds_K (by assumption) rfl (by k_is) rfl rfl rfl)) (by exact locs rfl) ?_ (by exact rfl) (by exact rfl) (by exact rfl) (by decide)); k_whole; intro dp' un' gd' env' outer' mean' mg' mb' base' g' L' h' hdp' hun' kG' F' N' B' X' T'; (try dsimp only); (try k_fold)))
  (k_with "SpDone" => ((refine SpDone.intro (by k_asm) ?_); intro st9))
  (k_with "call type:type" => (k_here; (with_reducible show wpAny _ _ (call _ [Value.bytes _ _]) _ _ _); refine call_type_of (Tx := "bytes") rfl (by decide +kernel) ?_))
  (k_with "sp kept" => (intro t9 h9 tk9 st9; (try dsimp only at st9); rename Fr _ _ _ _ => kF; rename News _ _ _ _ => kN; (k_dflt (have kF' := Fr.keeps kF st9)); (k_dflt (have kN' := News.grown kN st9)); clear kF kN st9))
  (k_with "sp here" => k_dflt (exact Here.mk (by k_asm) (by k_asm) (by k_asm) (by k_asm) rfl rfl rfl rfl))
  (k_with "sp and" => first | with_reducible assumption | with_reducible exact Ne.symm (by assumption) | with_reducible exact Nat.ne_of_gt (by assumption) | with_reducible exact Nat.ne_of_lt (by assumption) | (simp only [ne_eq, not_false_eq_true, *]; done) | (apply Ne.symm; simp only [ne_eq, not_false_eq_true, *]; done))
  (k_with "sp sub" => first | with_reducible exact sub_0 _ | with_reducible exact sub_1 _ _ | with_reducible exact sub_2 _ _ _ | with_reducible exact sub_3 _ _ _ _ | with_reducible exact sub_4 _ _ _ _ _ | with_reducible exact sub_5 _ _ _ _ _ _)
  (k_with "getMethod bytes" => (k_here; (with_reducible refine meth_upper ?_)))
  (k_with "getMethod bytes" => (k_here; (with_reducible refine meth_lower ?_)))
  (k_with "getMethod bytes" => (k_here; (with_reducible refine meth_hex ?_)))
  (k_with "getMethod bytes" => (k_here; (with_reducible refine meth_translate ?_)))
  (k_with "getMethod str" => (k_here; (with_reducible refine meth_encode ?_)))
  (k_with "sp size" => first | assumption | exact enc64_fits _ | exact Nat.le_of_ble_eq_true (by with_unfolding_all rfl))
  (k_with "call builtin:bytes.upper" => (k_here; (with_reducible show wpAny _ _ (call (Value.builtin "bytes.upper") [Value.bytes _ _]) _ _ _); (refine call_upper (by walk_at "sp size") ?_); intro _ _))
  (k_with "call builtin:bytes.lower" => (k_here; (with_reducible show wpAny _ _ (call (Value.builtin "bytes.lower") [Value.bytes _ _]) _ _ _); (refine call_lower (by walk_at "sp size") ?_); intro _ _))
  (k_with "call builtin:bytes.hex" => (k_here; (with_reducible show wpAny _ _ (call (Value.builtin "bytes.hex") [Value.bytes _ _]) _ _ _); (refine call_hex (by walk_at "sp size") ?_); intro _ _))
  (k_with "call builtin:bytes.translate" => (k_here; (with_reducible show wpAny _ _ (call (Value.builtin "bytes.translate") [Value.bytes _ _, Value.bytes _ _]) _ _ _); (refine call_translate (by with_unfolding_all rfl) (by walk_at "sp size") ?_); intro _ _))
  (k_with "call builtin:str.encode" => (k_here; (with_reducible show wpAny _ _ (call (Value.builtin "str.encode") [Value.str _ _, Value.str _ _]) _ _ _); (refine call_encode (by walk_at "sp ascii") (by walk_at "sp size") ?_); intro _ _))
  (k_with "call ref" => (k_here; (with_reducible show wpAny _ _ (call (Value.ref 122) [Value.bytes _ _] _) _ _ _); k_dflt (refine buffer_spec (by walk_at "sp here") (by k_room) (by k_units) ?_); k_whole; walk_at "sp kept"))
  (k_with "call ref" => (k_here; (with_reducible show wpAny _ _ (call (Value.ref 129) [Value.bool _] _) _ _ _); k_dflt (refine truth_spec (by walk_at "sp here") (by k_room) (by k_units) ?_); k_whole; walk_at "sp kept"))
  (k_with "call ref" => (k_here; (with_reducible show wpAny _ _ (call (Value.ref 115) [Value.bytes _ _] _) _ _ _); k_dflt (refine ascii_spec (by walk_at "sp here") (by k_room) (by k_units) ?_); k_whole; walk_at "sp kept"))
  (k_with "call ref" => (k_here; (with_reducible show wpAny _ _ (call (Value.ref 95) [Value.bytes _ _] _) _ _ _); k_dflt (refine fromdata_spec (by walk_at "sp here") (by k_room) (by k_units) ?_); k_whole; walk_at "sp kept"))
  (k_with "call ref" => (k_here; (with_reducible show wpAny _ _ (call (Value.ref 152) [Value.bytes (List.toArray _) _] _) _ _ _); k_dflt (refine b2a_spec (by first | assumption | decide) (by walk_at "sp here") (by k_room) (by k_units) ?_); k_whole; walk_at "sp kept"))
  trivial
set_option maxHeartbeats 4000000 in
theorem b64encode_spec {w : World} {A : Around} {s : Shared} {E Q : Value → Shared → Prop} {l : List UInt8} {u : Tok} (hl : l.length ≤ 3)
    (H : Here w A s.heap) (hdp : A.depth + (2 + 1) < recursionLimit) (hun : A.units + 200 < cLine)
    (hQ : ∀ t h' tk', s.heap.StaysIn h' → Q (.bytes (enc64 l) t) { s with heap := h', toks := tk' }) :
    wpAny (model prg w) A (call (.ref 183) [.bytes l.toArray u]) Q E s := by
  walk_at "sp enter"
  k_steps
  all_goals exact hQ _ _ _ (by assumption)
example : True := by
  (k_with "call ref" => (k_here; (with_reducible show wpAny _ _ (call (Value.ref 183) [Value.bytes (List.toArray _) _] _) _ _ _); k_dflt (refine b64encode_spec (by first | assumption | decide) (by walk_at "sp here") (by k_room) (by k_units) ?_); k_whole; walk_at "sp kept"))
  trivial
set_option maxHeartbeats 4000000 in
theorem urlencode_spec {w : World} {A : Around} {s : Shared} {E Q : Value → Shared → Prop} {l : List UInt8} {u : Tok} (hl : l.length ≤ 3)
    (H : Here w A s.heap) (hdp : A.depth + (3 + 1) < recursionLimit) (hun : A.units + 300 < cLine)
    (hQ : ∀ t h' tk', s.heap.StaysIn h' → Q (.bytes (url64 l) t) { s with heap := h', toks := tk' }) :
    wpAny (model prg w) A (call (.ref 198) [.bytes l.toArray u]) Q E s := by
  walk_at "sp enter"
  k_steps
  all_goals exact hQ _ _ _ (by assumption)
end
section
example : True := by
  k_with_none
  (k_with "sp enter" => ((w_top off; have hfill : PySem.Challenge.rw_kq0048_01 = PySem.Challenge.rw_kq0048_01 ∧ hd.heap_39 = hd.heap_39 := by (k_fill; exact ⟨rfl, rfl⟩)); clear hfill; k_dflt (refine call_here (by assumption) (by assumption) (by assumption) (by k_is) (by k_is) (by (intro X9; first | exact BindsTo.of_eq rfl | exact binds_K (by assumption) rfl (by k_is) rfl rfl rfl)) (by exact locs rfl) ?_ (by exact rfl) (by exact rfl) (by exact rfl) (by decide)); k_whole; intro dp' un' gd' env' outer' mean' mg' mb' base' g' L' h' hdp' hun' kG' F' N' B' X' T'; (try dsimp only); (try k_fold)))
  (k_with "SpDone" => ((refine SpDone.intro (by k_asm) ?_); intro st9))
  (k_with "call type:type" => (k_here; (with_reducible show wpAny _ _ (call _ [Value.bytes _ _]) _ _ _); refine call_type_of (Tx := "bytes") rfl (by decide +kernel) ?_))
  (k_with "sp kept" => (intro t9 h9 tk9 st9; (try dsimp only at st9); rename Fr _ _ _ _ => kF; rename News _ _ _ _ => kN; (k_dflt (have kF' := Fr.keeps kF st9)); (k_dflt (have kN' := News.grown kN st9)); clear kF kN st9))
  (k_with "sp here" => k_dflt (exact Here.mk (by k_asm) (by k_asm) (by k_asm) (by k_asm) rfl rfl rfl rfl))
  (k_with "sp and" => first | with_reducible assumption | with_reducible exact Ne.symm (by assumption) | with_reducible exact Nat.ne_of_gt (by assumption) | with_reducible exact Nat.ne_of_lt (by assumption) | (simp only [ne_eq, not_false_eq_true, *]; done) | (apply Ne.symm; simp only [ne_eq, not_false_eq_true, *]; done))
  (k_with "sp sub" => first | with_reducible exact sub_0 _ | with_reducible exact sub_1 _ _ | with_reducible exact sub_2 _ _ _ | with_reducible exact sub_3 _ _ _ _ | with_reducible exact sub_4 _ _ _ _ _ | with_reducible exact sub_5 _ _ _ _ _ _)
  (k_with "getMethod bytes" => (k_here; (with_reducible refine meth_upper ?_)))
  (k_with "getMethod bytes" => (k_here; (with_reducible refine meth_lower ?_)))
  (k_with "getMethod bytes" => (k_here; (with_reducible refine meth_hex ?_)))
  (k_with "getMethod bytes" => (k_here; (with_reducible refine meth_translate ?_)))
  (k_with "getMethod str" => (k_here; (with_reducible refine meth_encode ?_)))
  (k_with "sp size" => first | assumption | exact enc64_fits _ | exact Nat.le_of_ble_eq_true (by with_unfolding_all rfl))
  (k_with "call builtin:bytes.upper" => (k_here; (with_reducible show wpAny _ _ (call (Value.builtin "bytes.upper") [Value.bytes _ _]) _ _ _); (refine call_upper (by walk_at "sp size") ?_); intro _ _))
  (k_with "call builtin:bytes.lower" => (k_here; (with_reducible show wpAny _ _ (call (Value.builtin "bytes.lower") [Value.bytes _ _]) _ _ _); (refine call_lower (by walk_at "sp size") ?_); intro _ _))
  (k_with "call builtin:bytes.hex" => (k_here; (with_reducible show wpAny _ _ (call (Value.builtin "bytes.hex") [Value.bytes _ _]) _ _ _); (refine call_hex (by walk_at "sp size") ?_); intro _ _))
  (k_with "call builtin:bytes.translate" => (k_here; (with_reducible show wpAny _ _ (call (Value.builtin "bytes.translate") [Value.bytes _ _, Value.bytes _ _]) _ _ _); (refine call_translate (by with_unfolding_all rfl) (by walk_at "sp size") ?_); intro _ _))
  (k_with "call builtin:str.encode" => (k_here; (with_reducible show wpAny _ _ (call (Value.builtin "str.encode") [Value.str _ _, Value.str _ _]) _ _ _); (refine call_encode (by walk_at "sp ascii") (by walk_at "sp size") ?_); intro _ _))
  (k_with "call ref" => (k_here; (with_reducible show wpAny _ _ (call (Value.ref 122) [Value.bytes _ _] _) _ _ _); k_dflt (refine buffer_spec (by walk_at "sp here") (by k_room) (by k_units) ?_); k_whole; walk_at "sp kept"))
  (k_with "call ref" => (k_here; (with_reducible show wpAny _ _ (call (Value.ref 129) [Value.bool _] _) _ _ _); k_dflt (refine truth_spec (by walk_at "sp here") (by k_room) (by k_units) ?_); k_whole; walk_at "sp kept"))
  (k_with "call ref" => (k_here; (with_reducible show wpAny _ _ (call (Value.ref 115) [Value.bytes _ _] _) _ _ _); k_dflt (refine ascii_spec (by walk_at "sp here") (by k_room) (by k_units) ?_); k_whole; walk_at "sp kept"))
  (k_with "call ref" => (k_here; (with_reducible show wpAny _ _ (call (Value.ref 95) [Value.bytes _ _] _) _ _ _); k_dflt (refine fromdata_spec (by walk_at "sp here") (by k_room) (by k_units) ?_); k_whole; walk_at "sp kept"))
  trivial
theorem hexDigit_lt {n : Nat} (h : n < 16) : Builtin.Bytes.hexDigit n < 128 := by
  unfold Builtin.Bytes.hexDigit; split <;> omega
theorem hi_lt (x : UInt8) : Builtin.Bytes.hexDigit (x.toNat / 16) < 128 := hexDigit_lt (by have := x.toNat_lt; omega)
theorem lo_lt (x : UInt8) : Builtin.Bytes.hexDigit (x.toNat % 16) < 128 := hexDigit_lt (by omega)
theorem hexS_ok {l : List UInt8} (hl : l.length ≤ 3) : (∀ c ∈ (hexS l.toArray).cps, c < 128) ∧ (hexS l.toArray).cps.size ≤ sizeLine := by
  match l, hl with
  | [], _ => exact ⟨fun c hc => by cases hc; contradiction, by decide⟩
  | [x], _ =>
    have e : (hexS [x].toArray).cps = #[Builtin.Bytes.hexDigit (x.toNat / 16), Builtin.Bytes.hexDigit (x.toNat % 16)] := rfl
    rw [e]
    refine ⟨fun c hc => ?_, Nat.le_of_ble_eq_true rfl⟩
    simp at hc
    rcases hc with rfl | rfl
    · exact hi_lt _
    · exact lo_lt _
  | [x, y], _ =>
    have e : (hexS [x, y].toArray).cps = #[Builtin.Bytes.hexDigit (x.toNat / 16), Builtin.Bytes.hexDigit (x.toNat % 16), Builtin.Bytes.hexDigit (y.toNat / 16), Builtin.Bytes.hexDigit (y.toNat % 16)] := rfl
    rw [e]
    refine ⟨fun c hc => ?_, Nat.le_of_ble_eq_true rfl⟩
    simp at hc
    rcases hc with rfl | rfl | rfl | rfl <;> first | exact hi_lt _ | exact lo_lt _
  | [x, y, z], _ =>
    have e : (hexS [x, y, z].toArray).cps = #[Builtin.Bytes.hexDigit (x.toNat / 16), Builtin.Bytes.hexDigit (x.toNat % 16), Builtin.Bytes.hexDigit (y.toNat / 16), Builtin.Bytes.hexDigit (y.toNat % 16), Builtin.Bytes.hexDigit (z.toNat / 16), Builtin.Bytes.hexDigit (z.toNat % 16)] := rfl
    rw [e]
    refine ⟨fun c hc => ?_, Nat.le_of_ble_eq_true rfl⟩
    simp at hc
    rcases hc with rfl | rfl | rfl | rfl | rfl | rfl <;> first | exact hi_lt _ | exact lo_lt _
noncomputable def hexB (l : List UInt8) : Array UInt8 := (hexS l.toArray).cps.map UInt8.ofNat
noncomputable def b16 (l : List UInt8) : Array UInt8 := upB (hexB l)
example : True := by
  (k_with "sp ascii" => exact (hexS_ok (by assumption)).1)
  (k_with "sp size" => first | exact (hexS_ok (by assumption)).2 | (unfold hexB; rw [Array.size_map]; exact (hexS_ok (by assumption)).2))
  trivial
set_option maxHeartbeats 4000000 in
theorem b2ahex_spec {w : World} {A : Around} {s : Shared} {E Q : Value → Shared → Prop} {l : List UInt8} {u : Tok} (hl : l.length ≤ 3)
    (H : Here w A s.heap) (hdp : A.depth + (1 + 1) < recursionLimit) (hun : A.units + 100 < cLine)
    (hQ : ∀ t h' tk', s.heap.StaysIn h' → Q (.bytes (hexB l) t) { s with heap := h', toks := tk' }) :
    wpAny (model prg w) A (call (.ref 161) [.bytes l.toArray u]) Q E s := by
  walk_at "sp enter"
  k_steps
  all_goals exact hQ _ _ _ (by assumption)
example : True := by
  (k_with "call ref" => (k_here; (with_reducible show wpAny _ _ (call (Value.ref 161) [Value.bytes (List.toArray _) _] _) _ _ _); k_dflt (refine b2ahex_spec (by first | assumption | decide) (by walk_at "sp here") (by k_room) (by k_units) ?_); k_whole; walk_at "sp kept"))
  trivial
set_option maxHeartbeats 4000000 in
theorem b16encode_spec {w : World} {A : Around} {s : Shared} {E Q : Value → Shared → Prop} {l : List UInt8} {u : Tok} (hl : l.length ≤ 3)
    (H : Here w A s.heap) (hdp : A.depth + (2 + 1) < recursionLimit) (hun : A.units + 200 < cLine)
    (hQ : ∀ t h' tk', s.heap.StaysIn h' → Q (.bytes (b16 l) t) { s with heap := h', toks := tk' }) :
    wpAny (model prg w) A (call (.ref 212) [.bytes l.toArray u]) Q E s := by
  walk_at "sp enter"
  k_steps
  all_goals exact hQ _ _ _ (by assumption)
end
section
example : True := by
  k_with_none
  (k_with "sp enter" => ((w_top off; have hfill : PySem.Challenge.rw_kq0048_01 = PySem.Challenge.rw_kq0048_01 ∧ hd.heap_39 = hd.heap_39 := by (k_fill; exact ⟨rfl, rfl⟩)); clear hfill; k_dflt (refine call_here (by assumption) (by assumption) (by assumption) (by k_is) (by k_is) (by (intro X9; first | exact BindsTo.of_eq rfl | exact binds_K (by assumption) rfl (by k_is) rfl rfl rfl)) (by exact locs rfl) ?_ (by exact rfl) (by exact rfl) (by exact rfl) (by decide)); k_whole; intro dp' un' gd' env' outer' mean' mg' mb' base' g' L' h' hdp' hun' kG' F' N' B' X' T'; (try dsimp only); (try k_fold)))
  (k_with "SpDone" => ((refine SpDone.intro (by k_asm) ?_); intro st9))
  (k_with "call type:type" => (k_here; (with_reducible show wpAny _ _ (call _ [Value.bytes _ _]) _ _ _); refine call_type_of (Tx := "bytes") rfl (by decide +kernel) ?_))
  (k_with "sp kept" => (intro t9 h9 tk9 st9; (try dsimp only at st9); rename Fr _ _ _ _ => kF; rename News _ _ _ _ => kN; (k_dflt (have kF' := Fr.keeps kF st9)); (k_dflt (have kN' := News.grown kN st9)); clear kF kN st9))
  (k_with "sp here" => k_dflt (exact Here.mk (by k_asm) (by k_asm) (by k_asm) (by k_asm) rfl rfl rfl rfl))
  (k_with "sp and" => first | with_reducible assumption | with_reducible exact Ne.symm (by assumption) | with_reducible exact Nat.ne_of_gt (by assumption) | with_reducible exact Nat.ne_of_lt (by assumption) | (simp only [ne_eq, not_false_eq_true, *]; done) | (apply Ne.symm; simp only [ne_eq, not_false_eq_true, *]; done))
  (k_with "sp sub" => first | with_reducible exact sub_0 _ | with_reducible exact sub_1 _ _ | with_reducible exact sub_2 _ _ _ | with_reducible exact sub_3 _ _ _ _ | with_reducible exact sub_4 _ _ _ _ _ | with_reducible exact sub_5 _ _ _ _ _ _)
  (k_with "sp put" => first | exact Put.nil | with_reducible exact Put.hit | (apply Put.skip; (focus decide); walk_at "sp put"))
  (k_with "storeName" => (k_here; k_dflt (refine put_any (by k_asm) (by k_asm) (by rfl) (by rfl) (by walk_at "sp put") ?_); intro h' k' F' N'; (try k_sweep); (try dsimp only)))
  (k_with "storeName" => (k_here; (with_reducible show wpAny _ _ (storeName _ _ (Value.str _ _)) _ _ _); k_dflt (refine put_str (by k_asm) (by k_asm) (by rfl) (by rfl) (by intro tp; walk_at "sp put") ?_); intro t' h' k' F' N'; (try k_sweep); (try dsimp only)))
  (k_with "storeName" => (k_here; (with_reducible show wpAny _ _ (storeName _ _ (Value.bytes _ _)) _ _ _); k_dflt (refine put_bytes (by k_asm) (by k_asm) (by rfl) (by rfl) (by intro tp; walk_at "sp put") ?_); intro t' h' k' F' N'; (try k_sweep); (try dsimp only)))
  (k_with "storeName" => (k_here; (with_reducible show wpAny _ _ (storeName _ _ (Value.int _ _)) _ _ _); k_dflt (refine put_int (by k_asm) (by k_asm) (by rfl) (by rfl) (by intro tp; walk_at "sp put") ?_); intro t' h' k' F' N'; (try k_sweep); (try dsimp only)))
  (k_with "eval Name" => (k_here; k_dflt (refine nm_L (by k_asm) (by rfl) (by rfl) (by decide) (by exact Eq.refl (some _)) ?_)))
  (k_with "pyIter bytes" => (k_here; (with_reducible show wpAny _ _ (pyIter (Value.bytes _ _)) (fun it s₂ => LoopAtV _ _ _ _ _ _ _ _ _ it s₂) _ _); (rename Fr _ _ _ _ => lF'); (rename News _ _ _ _ => lN'); (k_dflt (refine iter_bytesUnr (by assumption) lF' lN' (by first | assumption | kba_ints2) ?_)); clear lF' lN'; intro i' l1; (try k_lt l1)))
  (k_with "BytesRest" => ((first | ((with_reducible show BytesRest _ _ _ _ _ _ _ _ _ _ _ (_ :: _) _ _); k_dflt (refine bytes_succ (by intro tp; walk_at "sp put") ?_); intro b0' b1' u' it' h' tk' F' N') | ((with_reducible show BytesRest _ _ _ _ _ _ _ _ _ _ _ (List.map _ _) _ _); (rename List UInt8 => l9); (rename List.length _ ≤ 3 => h9); cases l9 <;> (first | exact (no4 h9).elim | dsimp only [List.map])) | (k_dflt (refine bytes_zero ?_); intro h' tk' F' N'))))
  (k_with "execs cons" => (k_here; (try k_fold); (with_reducible refine wpAny_execs_cons ?_); (try dsimp only); k_fold))
  (k_with "sp room" => exact room9 (by assumption) (by decide))
  (k_with "sp units" => exact units9 (by assumption) (by decide))
  (k_with "sp here" => k_dflt (exact Here.mk (by k_asm) (by k_asm) (by k_asm) (by k_asm) (by first | assumption | rfl) rfl rfl (by first | assumption | rfl)))
  (k_with "sp enterV" => ((w_top off; have hfill : PySem.Challenge.rw_kq0048_01 = PySem.Challenge.rw_kq0048_01 ∧ hd.heap_39 = hd.heap_39 := by (k_fill; exact ⟨rfl, rfl⟩)); clear hfill; k_dflt (refine call_hereV (by assumption) (by assumption) (by assumption) (by k_is) (by k_is) (by (intro X9; first | exact BindsTo.of_eq rfl | exact binds_K (by assumption) rfl (by k_is) rfl rfl rfl)) (by exact locs rfl) ?_ (by exact rfl) (by exact rfl) (by exact rfl) (by decide) (by decide)); k_whole; intro A' A0' env' outer' mean' mg' mb' base' g' L' h' tk' hdp' hun' kG' F' N' B' X' T' hh' hf'; (try dsimp only)))
  (k_with "getMethod bytes" => (k_here; (with_reducible refine meth_upper ?_)))
  (k_with "getMethod bytes" => (k_here; (with_reducible refine meth_lower ?_)))
  (k_with "getMethod bytes" => (k_here; (with_reducible refine meth_hex ?_)))
  (k_with "getMethod bytes" => (k_here; (with_reducible refine meth_translate ?_)))
  (k_with "getMethod str" => (k_here; (with_reducible refine meth_encode ?_)))
  (k_with "sp size" => first | assumption | exact enc64_fits _ | exact Nat.le_of_ble_eq_true (by with_unfolding_all rfl))
  (k_with "call builtin:bytes.upper" => (k_here; (with_reducible show wpAny _ _ (call (Value.builtin "bytes.upper") [Value.bytes _ _]) _ _ _); (refine call_upper (by walk_at "sp size") ?_); intro _ _))
  (k_with "call builtin:bytes.lower" => (k_here; (with_reducible show wpAny _ _ (call (Value.builtin "bytes.lower") [Value.bytes _ _]) _ _ _); (refine call_lower (by walk_at "sp size") ?_); intro _ _))
  (k_with "call builtin:bytes.hex" => (k_here; (with_reducible show wpAny _ _ (call (Value.builtin "bytes.hex") [Value.bytes _ _]) _ _ _); (refine call_hex (by walk_at "sp size") ?_); intro _ _))
  (k_with "call builtin:bytes.translate" => (k_here; (with_reducible show wpAny _ _ (call (Value.builtin "bytes.translate") [Value.bytes _ _, Value.bytes _ _]) _ _ _); (refine call_translate (by with_unfolding_all rfl) (by walk_at "sp size") ?_); intro _ _))
  (k_with "call builtin:str.encode" => (k_here; (with_reducible show wpAny _ _ (call (Value.builtin "str.encode") [Value.str _ _, Value.str _ _]) _ _ _); (refine call_encode (by walk_at "sp ascii") (by walk_at "sp size") ?_); intro _ _))
  (k_with "call ref" => (k_here; (with_reducible show wpAny _ _ (call (Value.ref 122) [Value.bytes _ _] _) _ _ _); k_dflt (refine buffer_spec (by walk_at "sp here") (by first | walk_at "sp room" | k_room) (by first | walk_at "sp units" | k_units) ?_); k_whole; walk_at "sp kept"))
  (k_with "call ref" => (k_here; (with_reducible show wpAny _ _ (call (Value.ref 129) [Value.bool _] _) _ _ _); k_dflt (refine truth_spec (by walk_at "sp here") (by first | walk_at "sp room" | k_room) (by first | walk_at "sp units" | k_units) ?_); k_whole; walk_at "sp kept"))
  (k_with "call ref" => (k_here; (with_reducible show wpAny _ _ (call (Value.ref 115) [Value.bytes _ _] _) _ _ _); k_dflt (refine ascii_spec (by walk_at "sp here") (by first | walk_at "sp room" | k_room) (by first | walk_at "sp units" | k_units) ?_); k_whole; walk_at "sp kept"))
  (k_with "call ref" => (k_here; (with_reducible show wpAny _ _ (call (Value.ref 95) [Value.bytes _ _] _) _ _ _); k_dflt (refine fromdata_spec (by walk_at "sp here") (by first | walk_at "sp room" | k_room) (by first | walk_at "sp units" | k_units) ?_); k_whole; walk_at "sp kept"))
  trivial
noncomputable def b64v (c : Int) : Int := if 65 ≤ c ∧ c ≤ 90 then c - 65 else if 97 ≤ c ∧ c ≤ 122 then c - 71 else if 48 ≤ c ∧ c ≤ 57 then c + 4 else if c = 43 then 62 else if c = 47 then 63 else 64
noncomputable def In64 (v : Int) : Prop := 0 ≤ v ∧ v < 64
theorem six_nat {v : Int} (h : In64 v) : v.natAbs < 2 ^ 64 := by unfold In64 at h; omega
theorem bor_in {a b : Int} (ha : 0 ≤ a ∧ a < 256) (hb : 0 ≤ b ∧ b < 256) : 0 ≤ Builtin.bitOr a b ∧ Builtin.bitOr a b < 256 := by
  obtain ⟨n, rfl⟩ := Int.eq_ofNat_of_zero_le ha.1
  obtain ⟨m, rfl⟩ := Int.eq_ofNat_of_zero_le hb.1
  have h1 : n < 2 ^ 8 := by omega
  have h2 : m < 2 ^ 8 := by omega
  have h3 := Nat.or_lt_two_pow h1 h2
  have e : Builtin.bitOr (n : Int) (m : Int) = ((n ||| m : Nat) : Int) := by
    have nn : ∀ x : Int, Builtin.bitNot (Builtin.bitNot x) = x := fun x => by unfold Builtin.bitNot; omega
    have ng : ∀ k : Nat, ¬ 0 ≤ Builtin.bitNot (k : Int) := fun k => by unfold Builtin.bitNot; omega
    unfold Builtin.bitOr
    rw [bitAnd_nn (ng n) (ng m), nn, nn, nn]
    rfl
  rw [e]; omega
theorem fd4 {b : Int} (hb : In64 b) : 0 ≤ b.fdiv (2 ^ Int.toNat 4) ∧ b.fdiv (2 ^ Int.toNat 4) < 256 := by
  unfold In64 at hb
  have : ((2 : Int) ^ Int.toNat 4) = 16 := by decide
  rw [this, Int.fdiv_eq_ediv_of_nonneg _ (by decide)]; omega
theorem fd2 {b : Int} (hb : In64 b) : 0 ≤ b.fdiv (2 ^ Int.toNat 2) ∧ b.fdiv (2 ^ Int.toNat 2) < 256 := by
  unfold In64 at hb
  have : ((2 : Int) ^ Int.toNat 2) = 4 := by decide
  rw [this, Int.fdiv_eq_ediv_of_nonneg _ (by decide)]; omega
theorem out1_in {a b : Int} (ha : In64 a) (hb : In64 b) : 0 ≤ Builtin.bitOr (a * 2 ^ Int.toNat 2) (b.fdiv (2 ^ Int.toNat 4)) ∧ Builtin.bitOr (a * 2 ^ Int.toNat 2) (b.fdiv (2 ^ Int.toNat 4)) < 256 := by
  refine bor_in ?_ (fd4 hb)
  unfold In64 at ha
  have : ((2 : Int) ^ Int.toNat 2) = 4 := by decide
  rw [this]; omega
theorem out2_in {a b : Int} (_ha : In64 a) (hb : In64 b) : 0 ≤ Builtin.bitOr (Builtin.bitAnd a 15 * 2 ^ Int.toNat 4) (b.fdiv (2 ^ Int.toNat 2)) ∧ Builtin.bitOr (Builtin.bitAnd a 15 * 2 ^ Int.toNat 4) (b.fdiv (2 ^ Int.toNat 2)) < 256 := by
  refine bor_in ?_ (fd2 hb)
  have h : Builtin.bitAnd a 15 = a % 16 := kbt_mask a 4
  have : ((2 : Int) ^ Int.toNat 4) = 16 := by decide
  rw [h, this]; omega
theorem out3_in {a b : Int} (_ha : In64 a) (hb : In64 b) : 0 ≤ Builtin.bitOr (Builtin.bitAnd a 3 * 2 ^ Int.toNat 6) b ∧ Builtin.bitOr (Builtin.bitAnd a 3 * 2 ^ Int.toNat 6) b < 256 := by
  unfold In64 at hb
  refine bor_in ?_ (by omega)
  have h : Builtin.bitAnd a 3 = a % 4 := kbt_mask a 2
  have : ((2 : Int) ^ Int.toNat 6) = 64 := by decide
  rw [h, this]; omega
example : True := by
  (k_with "sp in" => first | exact List.forall_mem_nil _ | (refine List.forall_mem_cons.mpr ⟨?_, ?_⟩; (first | with_reducible exact out1_in (by assumption) (by assumption) | with_reducible exact out2_in (by assumption) (by assumption) | with_reducible exact out3_in (by assumption) (by assumption)); walk_at "sp in"))
  (k_with "call type:bytes" => (k_here; (with_reducible show wpAny _ _ (call (Value.type _) [Value.ref _]) _ _ _); k_dflt (refine bytes_K (by k_asm) (by k_asm) (by is_list) (by first | with_reducible exact intsP_3 | with_reducible exact intsP_2 | with_reducible exact intsP_1 | with_reducible exact intsP_0 | with_reducible exact intsP_4 | l_ints | l_intsW) (by walk_at "sp in") (by exact Nat.le_of_ble_eq_true (by with_unfolding_all rfl)) (by first | assumption | with_unfolding_all rfl) ?_); k_whole; intro h' t' k' F' N' hB'; (clear hB'); (try dsimp only [List.map]); (try k_sweep)))
  (k_with "binaryOp LShift int int" => (k_here; (with_reducible refine lshift_int_small ?kb1 ?kb2 ?kb3 ?_); (case kb1 => decide); (case kb2 => decide); (case kb3 => first | exact nat3 _ | exact nat15 _ | exact nat65535 _ | decide | exact six_nat (by assumption))))
  trivial
theorem b64v_a {c : Int} (h1 : 65 ≤ c) (h2 : c ≤ 90) : b64v c = c - 65 := by unfold b64v; exact if_pos ⟨h1, h2⟩
theorem b64v_b {c : Int} (h1 : 97 ≤ c) (h2 : c ≤ 122) : b64v c = c - 71 := by
  unfold b64v
  rw [if_neg (by omega)]; exact if_pos ⟨h1, h2⟩
theorem b64v_c {c : Int} (h1 : 48 ≤ c) (h2 : c ≤ 57) : b64v c = c + 4 := by
  unfold b64v
  rw [if_neg (by omega), if_neg (by omega)]; exact if_pos ⟨h1, h2⟩
set_option maxHeartbeats 4000000 in
theorem b64v_spec {w : World} {A : Around} {s : Shared} {E Q : Value → Shared → Prop} {c : Int} {u : Tok} (hc : In64 (b64v c))
    (H : Here w A s.heap) (hdp : A.depth + (0 + 1) < recursionLimit) (hun : A.units + 20 < cLine)
    (hQ : ∀ t h' tk', s.heap.StaysIn h' → Q (.int (b64v c) t) { s with heap := h', toks := tk' }) :
    wpAny (model prg w) A (call (.ref 136) [.int c u]) Q E s := by
  have hQ' : ∀ v t h' tk', b64v c = v → s.heap.StaysIn h' → Q (.int v t) { s with heap := h', toks := tk' } := fun v t h' tk' e => e ▸ hQ t h' tk'
  clear hQ
  have hr : (65 ≤ c ∧ c ≤ 90) ∨ (97 ≤ c ∧ c ≤ 122) ∨ (48 ≤ c ∧ c ≤ 57) ∨ c = 43 ∨ c = 47 := by
    unfold In64 b64v at hc
    revert hc
    (repeat' split) <;> intro hc <;> omega
  clear hc
  obtain ⟨hp, gs, dr, tk0, os⟩ := s
  dsimp only at H hQ'
  rcases hr with ⟨h1, h2⟩ | ⟨h1, h2⟩ | ⟨h1, h2⟩ | rfl | rfl
  all_goals (
    walk_at "sp enterV"
    k_fold
    (rename Fr _ _ _ _ => F9; have F8 : Fr _ _ _ (fun y => List.lookup y [(PySem.Str.ofString "c", .int _ u)]) := F9; clear F9)
    k_steps)
  all_goals first
    | exact hQ' _ _ _ _ (b64v_a (by assumption) (by assumption)) (by assumption)
    | exact hQ' _ _ _ _ (b64v_b (by assumption) (by assumption)) (by assumption)
    | exact hQ' _ _ _ _ (b64v_c (by assumption) (by assumption)) (by assumption)
    | exact hQ' _ _ _ _ rfl (by assumption)
noncomputable def o1 (a b : Int) : UInt8 := (Builtin.bitOr (a * 2 ^ Int.toNat 2) (b.fdiv (2 ^ Int.toNat 4))).toNat.toUInt8
noncomputable def o2 (a b : Int) : UInt8 := (Builtin.bitOr (Builtin.bitAnd a 15 * 2 ^ Int.toNat 4) (b.fdiv (2 ^ Int.toNat 2))).toNat.toUInt8
noncomputable def o3 (a b : Int) : UInt8 := (Builtin.bitOr (Builtin.bitAnd a 3 * 2 ^ Int.toNat 6) b).toNat.toUInt8
theorem c9_ne {a b : Int} (h : a ≠ b) : ¬ (decide (a = b) = true) := by simpa using h
theorem c9_beq {a b : Int} (h : a ≠ b) : ¬ ((a == b) = true) := by simpa using h
theorem c9_ge {a b : Int} (h : a < b) : ¬ (decide (b ≤ a) = true) := by simp; omega
theorem c9_ge' {a b : Int} (h : a < b) : ¬ (decide (a ≥ b) = true) := by simp; omega
end
section
example : True := by
  k_with_none
  (k_with "sp enter" => ((w_top off; have hfill : PySem.Challenge.rw_kq0048_01 = PySem.Challenge.rw_kq0048_01 ∧ hd.heap_39 = hd.heap_39 := by (k_fill; exact ⟨rfl, rfl⟩)); clear hfill; k_dflt (refine call_here (by assumption) (by assumption) (by assumption) (by k_is) (by k_is) (by (intro X9; first | exact BindsTo.of_eq rfl | exact binds_K (by assumption) rfl (by k_is) rfl rfl rfl)) (by exact locs rfl) ?_ (by exact rfl) (by exact rfl) (by exact rfl) (by decide)); k_whole; intro dp' un' gd' env' outer' mean' mg' mb' base' g' L' h' hdp' hun' kG' F' N' B' X' T'; (try dsimp only); (try k_fold)))
  (k_with "SpDone" => ((refine SpDone.intro (by k_asm) ?_); intro st9))
  (k_with "call type:type" => (k_here; (with_reducible show wpAny _ _ (call _ [Value.bytes _ _]) _ _ _); refine call_type_of (Tx := "bytes") rfl (by decide +kernel) ?_))
  (k_with "sp kept" => (intro t9 h9 tk9 st9; (try dsimp only at st9); rename Fr _ _ _ _ => kF; rename News _ _ _ _ => kN; (k_dflt (have kF' := Fr.keeps kF st9)); (k_dflt (have kN' := News.grown kN st9)); clear kF kN st9))
  (k_with "sp here" => k_dflt (exact Here.mk (by k_asm) (by k_asm) (by k_asm) (by k_asm) rfl rfl rfl rfl))
  (k_with "sp and" => first | with_reducible assumption | with_reducible exact Ne.symm (by assumption) | with_reducible exact Nat.ne_of_gt (by assumption) | with_reducible exact Nat.ne_of_lt (by assumption) | (simp only [ne_eq, not_false_eq_true, *]; done) | (apply Ne.symm; simp only [ne_eq, not_false_eq_true, *]; done))
  (k_with "sp sub" => first | with_reducible exact sub_0 _ | with_reducible exact sub_1 _ _ | with_reducible exact sub_2 _ _ _ | with_reducible exact sub_3 _ _ _ _ | with_reducible exact sub_4 _ _ _ _ _ | with_reducible exact sub_5 _ _ _ _ _ _)
  (k_with "ite" => (k_here; k_openite; first | (refine ite_neg (c9_ne (by with_reducible assumption)) ?_; walk_say "MINE") | (refine ite_neg (c9_beq (by with_reducible assumption)) ?_; walk_say "MINE") | (refine ite_neg (c9_ge (by with_reducible assumption)) ?_; walk_say "MINE") | (refine ite_neg (c9_ge' (by with_reducible assumption)) ?_; walk_say "MINE")))
  (k_with "sp put" => first | exact Put.nil | with_reducible exact Put.hit | (apply Put.skip; (focus decide); walk_at "sp put"))
  (k_with "storeName" => (k_here; k_dflt (refine put_any (by k_asm) (by k_asm) (by rfl) (by rfl) (by walk_at "sp put") ?_); intro h' k' F' N'; (try k_sweep); (try dsimp only)))
  (k_with "storeName" => (k_here; (with_reducible show wpAny _ _ (storeName _ _ (Value.str _ _)) _ _ _); k_dflt (refine put_str (by k_asm) (by k_asm) (by rfl) (by rfl) (by intro tp; walk_at "sp put") ?_); intro t' h' k' F' N'; (try k_sweep); (try dsimp only)))
  (k_with "storeName" => (k_here; (with_reducible show wpAny _ _ (storeName _ _ (Value.bytes _ _)) _ _ _); k_dflt (refine put_bytes (by k_asm) (by k_asm) (by rfl) (by rfl) (by intro tp; walk_at "sp put") ?_); intro t' h' k' F' N'; (try k_sweep); (try dsimp only)))
  (k_with "storeName" => (k_here; (with_reducible show wpAny _ _ (storeName _ _ (Value.int _ _)) _ _ _); k_dflt (refine put_int (by k_asm) (by k_asm) (by rfl) (by rfl) (by intro tp; walk_at "sp put") ?_); intro t' h' k' F' N'; (try k_sweep); (try dsimp only)))
  (k_with "eval Name" => (k_here; k_dflt (refine nm_L (by k_asm) (by rfl) (by rfl) (by decide) (by exact Eq.refl (some _)) ?_)))
  (k_with "pyIter bytes" => (k_here; (with_reducible show wpAny _ _ (pyIter (Value.bytes _ _)) (fun it s₂ => LoopAtV _ _ _ _ _ _ _ _ _ it s₂) _ _); (rename Fr _ _ _ _ => lF'); (rename News _ _ _ _ => lN'); (k_dflt (refine iter_bytesUnr (by assumption) lF' lN' (by first | assumption | kba_ints2) ?_)); clear lF' lN'; intro i' l1; (try k_lt l1)))
  (k_with "BytesRest" => ((first | ((with_reducible show BytesRest _ _ _ _ _ _ _ _ _ _ _ (_ :: _) _ _); k_dflt (refine bytes_succ (by intro tp; walk_at "sp put") ?_); intro b0' b1' u' it' h' tk' F' N') | ((with_reducible show BytesRest _ _ _ _ _ _ _ _ _ _ _ (List.map _ _) _ _); (rename List UInt8 => l9); (rename List.length _ ≤ 3 => h9); cases l9 <;> (first | exact (no4 h9).elim | dsimp only [List.map])) | (k_dflt (refine bytes_zero ?_); intro h' tk' F' N'))))
  (k_with "execs cons" => (k_here; (try k_fold); (with_reducible refine wpAny_execs_cons ?_); (try dsimp only); k_fold))
  (k_with "sp room" => exact room9 (by assumption) (by decide))
  (k_with "sp units" => exact units9 (by assumption) (by decide))
  (k_with "sp here" => k_dflt (exact Here.mk (by k_asm) (by k_asm) (by k_asm) (by k_asm) (by first | assumption | rfl) rfl rfl (by first | assumption | rfl)))
  (k_with "sp enterV" => ((w_top off; have hfill : PySem.Challenge.rw_kq0048_01 = PySem.Challenge.rw_kq0048_01 ∧ hd.heap_39 = hd.heap_39 := by (k_fill; exact ⟨rfl, rfl⟩)); clear hfill; k_dflt (refine call_hereV (by assumption) (by assumption) (by assumption) (by k_is) (by k_is) (by (intro X9; first | exact BindsTo.of_eq rfl | exact binds_K (by assumption) rfl (by k_is) rfl rfl rfl)) (by exact locs rfl) ?_ (by exact rfl) (by exact rfl) (by exact rfl) (by decide) (by decide)); k_whole; intro A' A0' env' outer' mean' mg' mb' base' g' L' h' tk' hdp' hun' kG' F' N' B' X' T' hh' hf'; (try dsimp only)))
  (k_with "getMethod bytes" => (k_here; (with_reducible refine meth_upper ?_)))
  (k_with "getMethod bytes" => (k_here; (with_reducible refine meth_lower ?_)))
  (k_with "getMethod bytes" => (k_here; (with_reducible refine meth_hex ?_)))
  (k_with "getMethod bytes" => (k_here; (with_reducible refine meth_translate ?_)))
  (k_with "getMethod str" => (k_here; (with_reducible refine meth_encode ?_)))
  (k_with "sp size" => first | assumption | exact enc64_fits _ | exact Nat.le_of_ble_eq_true (by with_unfolding_all rfl))
  (k_with "call builtin:bytes.upper" => (k_here; (with_reducible show wpAny _ _ (call (Value.builtin "bytes.upper") [Value.bytes _ _]) _ _ _); (refine call_upper (by walk_at "sp size") ?_); intro _ _))
  (k_with "call builtin:bytes.lower" => (k_here; (with_reducible show wpAny _ _ (call (Value.builtin "bytes.lower") [Value.bytes _ _]) _ _ _); (refine call_lower (by walk_at "sp size") ?_); intro _ _))
  (k_with "call builtin:bytes.hex" => (k_here; (with_reducible show wpAny _ _ (call (Value.builtin "bytes.hex") [Value.bytes _ _]) _ _ _); (refine call_hex (by walk_at "sp size") ?_); intro _ _))
  (k_with "call builtin:bytes.translate" => (k_here; (with_reducible show wpAny _ _ (call (Value.builtin "bytes.translate") [Value.bytes _ _, Value.bytes _ _]) _ _ _); (refine call_translate (by with_unfolding_all rfl) (by walk_at "sp size") ?_); intro _ _))
  (k_with "call builtin:str.encode" => (k_here; (with_reducible show wpAny _ _ (call (Value.builtin "str.encode") [Value.str _ _, Value.str _ _]) _ _ _); (refine call_encode (by walk_at "sp ascii") (by walk_at "sp size") ?_); intro _ _))
  (k_with "call ref" => (k_here; (with_reducible show wpAny _ _ (call (Value.ref 122) [Value.bytes _ _] _) _ _ _); k_dflt (refine buffer_spec (by walk_at "sp here") (by first | walk_at "sp room" | k_room) (by first | walk_at "sp units" | k_units) ?_); k_whole; walk_at "sp kept"))
  (k_with "call ref" => (k_here; (with_reducible show wpAny _ _ (call (Value.ref 129) [Value.bool _] _) _ _ _); k_dflt (refine truth_spec (by walk_at "sp here") (by first | walk_at "sp room" | k_room) (by first | walk_at "sp units" | k_units) ?_); k_whole; walk_at "sp kept"))
  (k_with "call ref" => (k_here; (with_reducible show wpAny _ _ (call (Value.ref 115) [Value.bytes _ _] _) _ _ _); k_dflt (refine ascii_spec (by walk_at "sp here") (by first | walk_at "sp room" | k_room) (by first | walk_at "sp units" | k_units) ?_); k_whole; walk_at "sp kept"))
  (k_with "call ref" => (k_here; (with_reducible show wpAny _ _ (call (Value.ref 95) [Value.bytes _ _] _) _ _ _); k_dflt (refine fromdata_spec (by walk_at "sp here") (by first | walk_at "sp room" | k_room) (by first | walk_at "sp units" | k_units) ?_); k_whole; walk_at "sp kept"))
  (k_with "sp in1" => first | with_reducible exact out1_in (by assumption) (by assumption) | with_reducible exact out2_in (by assumption) (by assumption) | with_reducible exact out3_in (by assumption) (by assumption))
  (k_with "sp in" => first | with_reducible exact in_0 | with_reducible exact in_1 (by walk_at "sp in1") | with_reducible exact in_2 (by walk_at "sp in1") (by walk_at "sp in1") | with_reducible exact in_3 (by walk_at "sp in1") (by walk_at "sp in1") (by walk_at "sp in1"))
  (k_with "call type:bytes" => (k_here; (with_reducible show wpAny _ _ (call (Value.type _) [Value.ref _]) _ _ _); k_dflt (refine bytes_K (by k_asm) (by k_asm) (by is_list) (by first | with_reducible exact intsP_3 | with_reducible exact intsP_2 | with_reducible exact intsP_1 | with_reducible exact intsP_0 | with_reducible exact intsP_4 | l_ints | l_intsW) (by walk_at "sp in") (by exact Nat.le_of_ble_eq_true (by with_unfolding_all rfl)) (by first | assumption | with_unfolding_all rfl) ?_); k_whole; intro h' t' k' F' N' hB'; (clear hB'); (try dsimp only [List.map]); (try k_sweep)))
  (k_with "binaryOp LShift int int" => (k_here; (with_reducible refine lshift_int_small ?kb1 ?kb2 ?kb3 ?_); (case kb1 => decide); (case kb2 => decide); (case kb3 => first | exact nat3 _ | exact nat15 _ | exact nat65535 _ | decide | exact six_nat (by assumption))))
  (k_with "eval Call" => (k_here; (with_reducible show wpAny _ _ (eval (Expr.Call (Expr.Name (Str.ofString "_b64_value") _) _ [] _) _) _ _ _); k_dflt (refine Call_ ?_)))
  (k_with "eval Call" => (k_here; (with_reducible show wpAny _ _ (eval (Expr.Call (Expr.Name (Str.ofString "_hex_value") _) _ [] _) _) _ _ _); k_dflt (refine Call_ ?_)))
  (k_with "call ref" => (k_here; (with_reducible show wpAny _ _ (call (Value.ref 136) [Value.int _ _] _) _ _ _); k_dflt (refine b64v_spec (by assumption) (by walk_at "sp here") (by first | walk_at "sp room" | k_room) (by first | walk_at "sp units" | k_units) ?_); k_whole; walk_at "sp kept"))
  trivial
inductive Pad1 (c : UInt8) : Prop
  | pad (h : (c.toNat : Int) = 61)
  | lett (n : (c.toNat : Int) ≠ 61) (i : In64 (b64v c.toNat)) (l : b64v c.toNat < 64)
inductive Pad2 (b c : UInt8) : Prop
  | pad (h : (b.toNat : Int) = 61) (k : (c.toNat : Int) = 61)
  | lett (n : (b.toNat : Int) ≠ 61) (i : In64 (b64v b.toNat)) (l : b64v b.toNat < 64) (r : Pad1 c)
theorem c9_eq {a b : Int} (h : a = b) : decide (a = b) = true := by simpa using h
example : True := by
  (k_with "ite" => (k_here; k_openite; (refine ite_pos (c9_eq (by with_reducible assumption)) ?_; walk_say "MINE")))
  (k_with "BytesRest" => (first | ((with_reducible show BytesRest _ _ _ _ _ _ _ _ _ _ _ (_ :: _ :: []) _ _); (rename Pad2 _ _ => h9); cases h9) | ((with_reducible show BytesRest _ _ _ _ _ _ _ _ _ _ _ (_ :: []) _ _); (rename Pad1 _ => h9); cases h9)))
  trivial
set_option maxHeartbeats 4000000 in
theorem a2b_gen {w : World} {A : Around} {s : Shared} {E Q : Value → Shared → Prop} {x0 x1 x2 x3 : UInt8} {u : Tok}
    (n0 : (x0.toNat : Int) ≠ 61) (i0 : In64 (b64v x0.toNat)) (l0 : b64v x0.toNat < 64) (n1 : (x1.toNat : Int) ≠ 61) (i1 : In64 (b64v x1.toNat)) (l1 : b64v x1.toNat < 64) (r : Pad2 x2 x3)
    (H : Here w A s.heap) (hdp : A.depth + (1 + 1) < recursionLimit) (hun : A.units + 100 < cLine)
    (hQ1 : (x2.toNat : Int) = 61 → ∀ t h' tk', s.heap.StaysIn h' → Q (.bytes #[o1 (b64v x0.toNat) (b64v x1.toNat)] t) { s with heap := h', toks := tk' })
    (hQ2 : (x2.toNat : Int) ≠ 61 → (x3.toNat : Int) = 61 → ∀ t h' tk', s.heap.StaysIn h' → Q (.bytes #[o1 (b64v x0.toNat) (b64v x1.toNat), o2 (b64v x1.toNat) (b64v x2.toNat)] t) { s with heap := h', toks := tk' })
    (hQ3 : (x3.toNat : Int) ≠ 61 → ∀ t h' tk', s.heap.StaysIn h' → Q (.bytes #[o1 (b64v x0.toNat) (b64v x1.toNat), o2 (b64v x1.toNat) (b64v x2.toNat), o3 (b64v x2.toNat) (b64v x3.toNat)] t) { s with heap := h', toks := tk' }) :
    wpAny (model prg w) A (call (.ref 144) [.bytes #[x0, x1, x2, x3] u] [(PySem.Str.ofString "strict_mode", .bool false)]) Q E s := by
  obtain ⟨hp, gs, dr, tk0, os⟩ := s
  dsimp only at H hQ1 hQ2 hQ3
  walk_at "sp enterV"
  k_fold
  (rename Fr _ _ _ _ => F9; have F8 : Fr _ _ _ (fun y => List.lookup y [(PySem.Str.ofString "strict_mode", .bool false), (PySem.Str.ofString "data", .bytes #[x0, x1, x2, x3] u)]) := F9; clear F9)
  k_steps
  all_goals first | (have q := hQ3 (by assumption); exact q _ _ _ (by assumption)) | (have q := hQ2 (by assumption) (by assumption); exact q _ _ _ (by assumption)) | (have q := hQ1 (by assumption); exact q _ _ _ (by assumption))
set_option maxHeartbeats 4000000 in
theorem a2b_spec0 {w : World} {A : Around} {s : Shared} {E Q : Value → Shared → Prop}  {u : Tok}
    (H : Here w A s.heap) (hdp : A.depth + (1 + 1) < recursionLimit) (hun : A.units + 100 < cLine)
    (hQ : ∀ t h' tk', s.heap.StaysIn h' → Q (.bytes #[] t) { s with heap := h', toks := tk' }) :
    wpAny (model prg w) A (call (.ref 144) [.bytes #[] u] [(PySem.Str.ofString "strict_mode", .bool false)]) Q E s := by
  obtain ⟨hp, gs, dr, tk0, os⟩ := s
  dsimp only at H hQ
  walk_at "sp enterV"
  k_fold
  (rename Fr _ _ _ _ => F9; have F8 : Fr _ _ _ (fun y => List.lookup y [(PySem.Str.ofString "strict_mode", .bool false), (PySem.Str.ofString "data", .bytes #[] u)]) := F9; clear F9)
  k_steps
  all_goals exact hQ _ _ _ (by assumption)
theorem a2b_spec1 {w : World} {A : Around} {s : Shared} {E Q : Value → Shared → Prop} {x0 x1 : UInt8} {u : Tok}
    (n0 : (x0.toNat : Int) ≠ 61) (i0 : In64 (b64v x0.toNat)) (l0 : b64v x0.toNat < 64) (n1 : (x1.toNat : Int) ≠ 61) (i1 : In64 (b64v x1.toNat)) (l1 : b64v x1.toNat < 64)
    (H : Here w A s.heap) (hdp : A.depth + (1 + 1) < recursionLimit) (hun : A.units + 100 < cLine)
    (hQ : ∀ t h' tk', s.heap.StaysIn h' → Q (.bytes #[o1 (b64v x0.toNat) (b64v x1.toNat)] t) { s with heap := h', toks := tk' }) :
    wpAny (model prg w) A (call (.ref 144) [.bytes #[x0, x1, 61, 61] u] [(PySem.Str.ofString "strict_mode", .bool false)]) Q E s :=
  a2b_gen n0 i0 l0 n1 i1 l1 (.pad rfl rfl) H hdp hun (fun _ => hQ) (fun h => absurd rfl h) (fun h => absurd rfl h)
theorem a2b_spec2 {w : World} {A : Around} {s : Shared} {E Q : Value → Shared → Prop} {x0 x1 x2 : UInt8} {u : Tok}
    (n0 : (x0.toNat : Int) ≠ 61) (i0 : In64 (b64v x0.toNat)) (l0 : b64v x0.toNat < 64) (n1 : (x1.toNat : Int) ≠ 61) (i1 : In64 (b64v x1.toNat)) (l1 : b64v x1.toNat < 64) (n2 : (x2.toNat : Int) ≠ 61) (i2 : In64 (b64v x2.toNat)) (l2 : b64v x2.toNat < 64)
    (H : Here w A s.heap) (hdp : A.depth + (1 + 1) < recursionLimit) (hun : A.units + 100 < cLine)
    (hQ : ∀ t h' tk', s.heap.StaysIn h' → Q (.bytes #[o1 (b64v x0.toNat) (b64v x1.toNat), o2 (b64v x1.toNat) (b64v x2.toNat)] t) { s with heap := h', toks := tk' }) :
    wpAny (model prg w) A (call (.ref 144) [.bytes #[x0, x1, x2, 61] u] [(PySem.Str.ofString "strict_mode", .bool false)]) Q E s :=
  a2b_gen n0 i0 l0 n1 i1 l1 (.lett n2 i2 l2 (.pad rfl)) H hdp hun (fun h => absurd h n2) (fun _ _ => hQ) (fun h => absurd rfl h)
theorem a2b_spec3 {w : World} {A : Around} {s : Shared} {E Q : Value → Shared → Prop} {x0 x1 x2 x3 : UInt8} {u : Tok}
    (n0 : (x0.toNat : Int) ≠ 61) (i0 : In64 (b64v x0.toNat)) (l0 : b64v x0.toNat < 64) (n1 : (x1.toNat : Int) ≠ 61) (i1 : In64 (b64v x1.toNat)) (l1 : b64v x1.toNat < 64) (n2 : (x2.toNat : Int) ≠ 61) (i2 : In64 (b64v x2.toNat)) (l2 : b64v x2.toNat < 64) (n3 : (x3.toNat : Int) ≠ 61) (i3 : In64 (b64v x3.toNat)) (l3 : b64v x3.toNat < 64)
    (H : Here w A s.heap) (hdp : A.depth + (1 + 1) < recursionLimit) (hun : A.units + 100 < cLine)
    (hQ : ∀ t h' tk', s.heap.StaysIn h' → Q (.bytes #[o1 (b64v x0.toNat) (b64v x1.toNat), o2 (b64v x1.toNat) (b64v x2.toNat), o3 (b64v x2.toNat) (b64v x3.toNat)] t) { s with heap := h', toks := tk' }) :
    wpAny (model prg w) A (call (.ref 144) [.bytes #[x0, x1, x2, x3] u] [(PySem.Str.ofString "strict_mode", .bool false)]) Q E s :=
  a2b_gen n0 i0 l0 n1 i1 l1 (.lett n2 i2 l2 (.lett n3 i3 l3)) H hdp hun (fun h => absurd h n2) (fun _ h => absurd h n3) (fun _ => hQ)
end
section
noncomputable def octN : List UInt8 := [0, 62, 251, 255, 190, 239, 63, 7]
noncomputable def oct (d : Fin 8) : UInt8 := octN.getD d.val 0
noncomputable def octs (ds : List (Fin 8)) : List UInt8 := ds.map oct
noncomputable def okc (c : UInt8) : Bool := decide ((c.toNat : Int) ≠ 61) && decide (0 ≤ b64v c.toNat) && decide (b64v c.toNat < 64)
theorem okc_n {c : UInt8} (h : okc c = true) : (c.toNat : Int) ≠ 61 := by simp [okc] at h; exact_mod_cast h.1.1
theorem okc_l {c : UInt8} (h : okc c = true) : b64v c.toNat < 64 := by simp only [okc, Bool.and_eq_true, decide_eq_true_eq] at h; exact h.2
theorem okc_i {c : UInt8} (h : okc c = true) : In64 (b64v c.toNat) := by simp only [okc, Bool.and_eq_true, decide_eq_true_eq] at h; exact ⟨h.1.2, h.2⟩
noncomputable def vv (c : UInt8) : Int := b64v c.toNat
noncomputable def chk1 (x : UInt8) : Bool :=
  let c0 := six (acc 0 x) 2; let c1 := c64 (Builtin.bitAnd (acc 0 x) 3 * 2 ^ Int.toNat 4)
  okc c0 && okc c1 && (o1 (vv c0) (vv c1) == x)
noncomputable def chk2 (x y : UInt8) : Bool :=
  let c0 := six (acc 0 x) 2; let c1 := six (acc (acc 0 x) y) 4; let c2 := c64 (Builtin.bitAnd (acc (acc 0 x) y) 15 * 2 ^ Int.toNat 2)
  okc c0 && okc c1 && okc c2 && (o1 (vv c0) (vv c1) == x) && (o2 (vv c1) (vv c2) == y)
noncomputable def chk3 (x y z : UInt8) : Bool :=
  let c0 := six (acc 0 x) 2; let c1 := six (acc (acc 0 x) y) 4; let c2 := six (acc (acc (acc 0 x) y) z) 6; let c3 := six (acc (acc (acc 0 x) y) z) 0
  okc c0 && okc c1 && okc c2 && okc c3 && (o1 (vv c0) (vv c1) == x) && (o2 (vv c1) (vv c2) == y) && (o3 (vv c2) (vv c3) == z)
theorem chk1_all : ∀ a : Fin 8, chk1 (oct a) = true := by decide +kernel
theorem chk2_all : ∀ a b : Fin 8, chk2 (oct a) (oct b) = true := by decide +kernel
theorem chk3_all : ∀ a b c : Fin 8, chk3 (oct a) (oct b) (oct c) = true := by decide +kernel
end
section
open PySem PySem.W PySem.Calls PyProof.Rows PySem.Spec Builtin Builtin.Re
theorem slot_search : Slot "re.Pattern" "search" "re.Pattern.search" :=
  .of (owner := "re.Pattern") (n := "search") (by rw [typeLookup_type, builtinLookup_eq_fast]; kernel_rfl) (by decide +kernel) (by decide +kernel) (by decide +kernel)
    (by first | exact .inl (by decide +kernel) | exact .inr (by decide +kernel)) (by rw [isSubtype_type]; kernel_rfl)
theorem type_search : typeOf (.builtin "re.Pattern.search") = pure (.type "method_descriptor") := by show builtinType _ = _; rw [builtinType_eq_fast]; kernel_rfl
theorem entry_search : entryFor table "re.Pattern.search" = some Builtin.«re.Pattern.search» := entryFor_of_tree (by kernel_rfl)
theorem args_search (a b : Value) : argsOk "re.Pattern.search" ⟨[a, b], []⟩ := by unfold argsOk; kernel_rfl
theorem plainAttrs_pat : PlainAttrs "re.Pattern" :=
  ⟨⟨"object.__getattribute__", by rw [typeLookup_type, builtinLookup_eq_fast]; kernel_rfl, by decide +kernel⟩, by rw [typeLookup_type, builtinLookup_eq_fast]; kernel_rfl⟩
noncomputable def codeN : Array Nat := #[14, 12, 4, 1, 1, 21, 22, 48, 57, 22, 65, 70, 0, 13, 9, 21, 22, 48, 57, 22, 65, 70, 0, 1]
noncomputable def codeV : List Value := [Value.int 14 0, .int 12 0, .int 4 0, .int 1 0, .int 1 0, .int 21 0, .int 22 0, .int 48 0, .int 57 0, .int 22 0, .int 65 0, .int 70 0, .int 0 0, .int 13 0, .int 9 0, .int 21 0, .int 22 0, .int 48 0, .int 57 0, .int 22 0, .int 65 0, .int 70 0, .int 0 0, .int 1 0]
noncomputable def tgt (v : Array UInt8) : Sre.M := Sre.forSearch codeN (v.map (·.toNat)) 0 (min 0 v.size) (min 9223372036854775807 v.size) false
noncomputable def failedM (m : Sre.M) : Bool := match m.outcome with | some .failed => true | _ => false
noncomputable def schk (v : Array UInt8) : Bool := failedM ((tgt v).runFor 4)
noncomputable def schkD (ds : List (Fin 8)) : Bool := schk (b16 (octs ds))
theorem schk0 : schkD [] = true := by decide +kernel
theorem schk1 : ∀ a : Fin 8, schkD [a] = true := by decide +kernel
theorem schk2 : ∀ a b : Fin 8, schkD [a, b] = true := by decide +kernel
theorem schk3 : ∀ a b c : Fin 8, schkD [a, b, c] = true := by decide +kernel
end
section
open PySem PySem.W PySem.Calls PyProof.Rows PySem.Spec Builtin Builtin.Re
theorem wpAny_rules {M : Model} {A : Around} {E : Value → Shared → Prop} {s : Shared} {c : Nat → Prop} [DecidablePred c] {f : Nat → String} {Q : PUnit → Shared → Prop} (l : List Nat) (h : Q ⟨⟩ s) :
    wpAny M A (forIn l PUnit.unit fun i _ => if c i then (do rule (f i); pure (ForInStep.yield PUnit.unit)) else pure (ForInStep.yield PUnit.unit)) Q E s := by
  induction l with
  | nil => exact wpAny_pure h
  | cons a r ih =>
    rw [List.forIn_cons]
    refine wpAny_bind ?_
    split
    · exact wpAny_bind (wpAny_rule (wpAny_pure ih))
    · exact wpAny_pure ih
theorem drive_succ (n : Nat) (m : Sre.M) : reDrive (n + 1) m = (let m := m.runFor reTurnSteps; if m.outcome.isSome then pure m else do rule "sre.turn"; reDrive n m) := rfl
theorem run_fail {M : Model} {A : Around} {E : Value → Shared → Prop} {s : Shared} {m : Sre.M} {Q : Option Sre.M → Shared → Prop} (hf : failedM (m.runFor 4) = true) (h : Q none s) : wpAny M A (reRunToEnd m) Q E s := by
  unfold reRunToEnd
  have e : (2 ^ 64 : Nat) = 18446744073709551615 + 1 := rfl
  rw [e, drive_succ]
  have ho : (m.runFor 4).outcome = some .failed := by
    unfold failedM at hf
    split at hf
    · assumption
    · cases hf
  have hs : (m.runFor reTurnSteps).outcome.isSome = true := by
    show (m.runFor 4).outcome.isSome = true
    rw [ho]; rfl
  dsimp only
  rw [if_pos hs]
  refine wpAny_bind (wpAny_pure ?_)
  refine wpAny_bind (wpAny_rules (c := fun i => (m.runFor reTurnSteps).seen.has i = true) (f := fun i => Sre.names.getD i "") _ ?_)
  show wpAny M A (match (m.runFor 4).outcome with | some .matched => _ | some .failed => _ | some (.stuck why) => _ | none => _) Q E s
  rw [ho]
  exact wpAny_pure h
section
variable {prog : Program} {w : World} {A : Around} {E : Value → Shared → Prop} {s : Shared} {v : Array UInt8} {t : Tok} {Q : Value → Shared → Prop} {o87 o86 : Obj}
theorem call_search (h87 : s.heap.get? 87 = some o87) (c87 : o87.cls = .type "re.Pattern") (d87 : o87.data = .fields #[.bytes #[91, 94, 48, 45, 57, 65, 45, 70, 93] 354, .int 0 381, .int 0 0, .none, .none, .ref 86, .int 1 0])
    (h86 : s.heap.get? 86 = some o86) {n : Nat} (d86 : o86.data = .seq codeV.toArray n) (hv : schk v = true) (h : Q .none s) :
    wpAny (model prog w) A (call (.builtin "re.Pattern.search") [.ref 87, .bytes v t]) Q E s := by
  refine call_meets (S := fun _ R s' => (s'.heap = s.heap ∧ R (.ok (.ret .none)) s')) slot_search ⟨o87, h87, c87⟩ entry_search (args_search _ _) ?_ ⟨rfl, h⟩
  refine .of_wp fun prog w A R s' hS => ?_
  obtain ⟨hh, h⟩ := hS
  rw [← hh] at h87 h86
  unfold «re.Pattern.search» reTarget
  dsimp only
  have hn : reNamed "re.Pattern.search" "search" ["string", "pos", "endpos"] 1 [Value.bytes v t] [] = pure [some (.bytes v t), none, none] := rfl
  rw [hn]
  have ht : reTextOf (.bytes v t) = pure (v.map (·.toNat), 1) := by
    unfold reTextOf
    rw [KBy.quiet_eq]
    rfl
  have hi : reNoCollectionInside (.bytes v t) 1 = pure () := by
    unfold reNoCollectionInside
    rw [KBy.isInstance_eq]
    rfl
  simp only [pure_bind, bind_assoc]
  refine wpAny_bind (wpAny_fieldsOf h87 d87 ?_)
  rw [ht]
  simp only [pure_bind]
  refine wpAny_bind ?_
  rw [if_neg (by decide), if_neg (by decide), hi]
  simp only [pure_bind]
  show wpAny _ _ (reRawItems (.ref 86) >>= fun r => _) _ _ _
  refine wpAny_bind ?_
  unfold reRawItems
  refine wpAny_bind (wpAny_seqItems h86 d86 (wpAny_pure (wpAny_pure ?_)))
  unfold reAnswer
  refine wpAny_bind (run_fail ?_ (wpAny_pure ⟨_, rfl, h⟩))
  have hz : (Array.map (fun x : UInt8 => x.toNat) v).size = v.size := Array.size_map
  have hcode : Array.map (fun x : Int => x.toNat) (Array.map reRawOf codeV.toArray) = codeN := by decide +kernel
  dsimp only [Option.getD_some]
  rw [hcode]
  show failedM ((Sre.forSearch codeN (v.map (·.toNat)) 0 (min (Int.toNat 0) (Array.map (fun x : UInt8 => x.toNat) v).size) (min (2 ^ 63 - 1 : Int).toNat (Array.map (fun x : UInt8 => x.toNat) v).size) false).runFor 4) = true
  rw [hz]
  exact hv
theorem meth_search {M : Model} {pl : Sem Bool} {Q : Value × List Value → Shared → Prop} (h87 : s.heap.get? 87 = some o87) (c87 : o87.cls = .type "re.Pattern") (n87 : o87.dict = none) (h : Q (.builtin "re.Pattern.search", [.ref 87]) s) :
    wpAny M A (getMethod (.ref 87) "search" pl) Q E s :=
  getMethod_builtin (v := .ref 87) ⟨o87, h87, c87⟩ plainAttrs_pat slot_search type_search (fun a e => by cases e; exact ⟨o87, h87, n87⟩) h
end
theorem schk_all {ds : List (Fin 8)} (h : ds.length ≤ 3) : schk (b16 (octs ds)) = true := by
  match ds, h with
  | [], _ => exact schk0
  | [a], _ => exact schk1 a
  | [a, b], _ => exact schk2 a b
  | [a, b, c], _ => exact schk3 a b c
noncomputable def hexv (c : Int) : Int := if 48 ≤ c ∧ c ≤ 57 then c - 48 else if 65 ≤ c ∧ c ≤ 70 then c - 55 else if 97 ≤ c ∧ c ≤ 102 then c - 87 else 16
noncomputable def In16 (v : Int) : Prop := 0 ≤ v ∧ v < 16
theorem hex_nat {v : Int} (h : In16 v) : v.natAbs < 2 ^ 64 := by unfold In16 at h; omega
theorem hex_in {a b : Int} (ha : In16 a) (hb : In16 b) : 0 ≤ a * 2 ^ Int.toNat 4 + b ∧ a * 2 ^ Int.toNat 4 + b < 256 := by
  unfold In16 at ha hb
  have : ((2 : Int) ^ Int.toNat 4) = 16 := by decide
  rw [this]; omega
noncomputable def hx (n : Nat) : UInt8 := Bytes.toUpper (UInt8.ofNat (Bytes.hexDigit n))
noncomputable def ho (c d : UInt8) : UInt8 := (hexv c.toNat * 2 ^ Int.toNat 4 + hexv d.toNat).toNat.toUInt8
noncomputable def hchk (x : UInt8) : Bool := let c := hx (x.toNat / 16); let d := hx (x.toNat % 16); decide (0 ≤ hexv c.toNat) && decide (hexv c.toNat < 16) && decide (0 ≤ hexv d.toNat) && decide (hexv d.toNat < 16) && (ho c d == x)
theorem hchk_all : ∀ a : Fin 8, hchk (oct a) = true := by decide +kernel
theorem hchk_use {x : UInt8} (h : hchk x = true) : In16 (hexv (hx (x.toNat / 16)).toNat) ∧ hexv (hx (x.toNat / 16)).toNat < 16 ∧ In16 (hexv (hx (x.toNat % 16)).toNat) ∧ hexv (hx (x.toNat % 16)).toNat < 16 ∧ ho (hx (x.toNat / 16)) (hx (x.toNat % 16)) = x := by
  simp only [hchk, Bool.and_eq_true, decide_eq_true_eq, beq_iff_eq] at h
  exact ⟨⟨h.1.1.1.1, h.1.1.1.2⟩, h.1.1.1.2, ⟨h.1.1.2, h.1.2⟩, h.1.2, h.2⟩
theorem b16_1 (x : UInt8) : b16 [x] = #[hx (x.toNat / 16), hx (x.toNat % 16)] := by
  unfold b16 upB hexB
  rw [show (hexS [x].toArray).cps = #[Bytes.hexDigit (x.toNat / 16), Bytes.hexDigit (x.toNat % 16)] from rfl]
  simp [hx]
theorem b16_2 (x y : UInt8) : b16 [x, y] = #[hx (x.toNat / 16), hx (x.toNat % 16), hx (y.toNat / 16), hx (y.toNat % 16)] := by
  unfold b16 upB hexB
  rw [show (hexS [x, y].toArray).cps = #[Bytes.hexDigit (x.toNat / 16), Bytes.hexDigit (x.toNat % 16), Bytes.hexDigit (y.toNat / 16), Bytes.hexDigit (y.toNat % 16)] from rfl]
  simp [hx]
theorem b16_3 (x y z : UInt8) : b16 [x, y, z] = #[hx (x.toNat / 16), hx (x.toNat % 16), hx (y.toNat / 16), hx (y.toNat % 16), hx (z.toNat / 16), hx (z.toNat % 16)] := by
  unfold b16 upB hexB
  rw [show (hexS [x, y, z].toArray).cps = #[Bytes.hexDigit (x.toNat / 16), Bytes.hexDigit (x.toNat % 16), Bytes.hexDigit (y.toNat / 16), Bytes.hexDigit (y.toNat % 16), Bytes.hexDigit (z.toNat / 16), Bytes.hexDigit (z.toNat % 16)] from rfl]
  simp [hx]
end
section
example : True := by
  k_with_none
  (k_with "sp enter" => ((w_top off; have hfill : PySem.Challenge.rw_kq0048_01 = PySem.Challenge.rw_kq0048_01 ∧ hd.heap_39 = hd.heap_39 := by (k_fill; exact ⟨rfl, rfl⟩)); clear hfill; k_dflt (refine call_here (by assumption) (by assumption) (by assumption) (by k_is) (by k_is) (by (intro X9; first | exact BindsTo.of_eq rfl | exact binds_K (by assumption) rfl (by k_is) rfl rfl rfl)) (by exact locs rfl) ?_ (by exact rfl) (by exact rfl) (by exact rfl) (by decide)); k_whole; intro dp' un' gd' env' outer' mean' mg' mb' base' g' L' h' hdp' hun' kG' F' N' B' X' T'; (try dsimp only); (try k_fold)))
  (k_with "SpDone" => ((refine SpDone.intro (by k_asm) ?_); intro st9))
  (k_with "call type:type" => (k_here; (with_reducible show wpAny _ _ (call _ [Value.bytes _ _]) _ _ _); refine call_type_of (Tx := "bytes") rfl (by decide +kernel) ?_))
  (k_with "sp kept" => (intro t9 h9 tk9 st9; (try dsimp only at st9); rename Fr _ _ _ _ => kF; rename News _ _ _ _ => kN; (k_dflt (have kF' := Fr.keeps kF st9)); (k_dflt (have kN' := News.grown kN st9)); clear kF kN st9))
  (k_with "sp here" => k_dflt (exact Here.mk (by k_asm) (by k_asm) (by k_asm) (by k_asm) rfl rfl rfl rfl))
  (k_with "sp and" => first | with_reducible assumption | with_reducible exact Ne.symm (by assumption) | with_reducible exact Nat.ne_of_gt (by assumption) | with_reducible exact Nat.ne_of_lt (by assumption) | (simp only [ne_eq, not_false_eq_true, *]; done) | (apply Ne.symm; simp only [ne_eq, not_false_eq_true, *]; done))
  (k_with "sp sub" => first | with_reducible exact sub_0 _ | with_reducible exact sub_1 _ _ | with_reducible exact sub_2 _ _ _ | with_reducible exact sub_3 _ _ _ _ | with_reducible exact sub_4 _ _ _ _ _ | with_reducible exact sub_5 _ _ _ _ _ _)
  (k_with "getMethod bytes" => (k_here; (with_reducible refine meth_upper ?_)))
  (k_with "getMethod bytes" => (k_here; (with_reducible refine meth_lower ?_)))
  (k_with "getMethod bytes" => (k_here; (with_reducible refine meth_hex ?_)))
  (k_with "getMethod bytes" => (k_here; (with_reducible refine meth_translate ?_)))
  (k_with "getMethod str" => (k_here; (with_reducible refine meth_encode ?_)))
  (k_with "sp size" => first | assumption | exact enc64_fits _ | exact Nat.le_of_ble_eq_true (by with_unfolding_all rfl))
  (k_with "call builtin:bytes.upper" => (k_here; (with_reducible show wpAny _ _ (call (Value.builtin "bytes.upper") [Value.bytes _ _]) _ _ _); (refine call_upper (by walk_at "sp size") ?_); intro _ _))
  (k_with "call builtin:bytes.lower" => (k_here; (with_reducible show wpAny _ _ (call (Value.builtin "bytes.lower") [Value.bytes _ _]) _ _ _); (refine call_lower (by walk_at "sp size") ?_); intro _ _))
  (k_with "call builtin:bytes.hex" => (k_here; (with_reducible show wpAny _ _ (call (Value.builtin "bytes.hex") [Value.bytes _ _]) _ _ _); (refine call_hex (by walk_at "sp size") ?_); intro _ _))
  (k_with "call builtin:bytes.translate" => (k_here; (with_reducible show wpAny _ _ (call (Value.builtin "bytes.translate") [Value.bytes _ _, Value.bytes _ _]) _ _ _); (refine call_translate (by with_unfolding_all rfl) (by walk_at "sp size") ?_); intro _ _))
  (k_with "call builtin:str.encode" => (k_here; (with_reducible show wpAny _ _ (call (Value.builtin "str.encode") [Value.str _ _, Value.str _ _]) _ _ _); (refine call_encode (by walk_at "sp ascii") (by walk_at "sp size") ?_); intro _ _))
  (k_with "call ref" => (k_here; (with_reducible show wpAny _ _ (call (Value.ref 122) [Value.bytes _ _] _) _ _ _); k_dflt (refine buffer_spec (by walk_at "sp here") (by k_room) (by k_units) ?_); k_whole; walk_at "sp kept"))
  (k_with "call ref" => (k_here; (with_reducible show wpAny _ _ (call (Value.ref 129) [Value.bool _] _) _ _ _); k_dflt (refine truth_spec (by walk_at "sp here") (by k_room) (by k_units) ?_); k_whole; walk_at "sp kept"))
  (k_with "call ref" => (k_here; (with_reducible show wpAny _ _ (call (Value.ref 115) [Value.bytes _ _] _) _ _ _); k_dflt (refine ascii_spec (by walk_at "sp here") (by k_room) (by k_units) ?_); k_whole; walk_at "sp kept"))
  (k_with "call ref" => (k_here; (with_reducible show wpAny _ _ (call (Value.ref 95) [Value.bytes _ _] _) _ _ _); k_dflt (refine fromdata_spec (by walk_at "sp here") (by k_room) (by k_units) ?_); k_whole; walk_at "sp kept"))
  trivial
theorem chk1_use {x : UInt8} (h : chk1 x = true) : okc (six (acc 0 x) 2) = true ∧ okc (c64 (Builtin.bitAnd (acc 0 x) 3 * 2 ^ Int.toNat 4)) = true ∧ o1 (b64v (six (acc 0 x) 2).toNat) (b64v (c64 (Builtin.bitAnd (acc 0 x) 3 * 2 ^ Int.toNat 4)).toNat) = x := by
  unfold chk1 at h
  simp only [Bool.and_eq_true, beq_iff_eq] at h
  exact ⟨h.1.1, h.1.2, h.2⟩
theorem chk2_use {x y : UInt8} (h : chk2 x y = true) : okc (six (acc 0 x) 2) = true ∧ okc (six (acc (acc 0 x) y) 4) = true ∧ okc (c64 (Builtin.bitAnd (acc (acc 0 x) y) 15 * 2 ^ Int.toNat 2)) = true ∧
    o1 (b64v (six (acc 0 x) 2).toNat) (b64v (six (acc (acc 0 x) y) 4).toNat) = x ∧ o2 (b64v (six (acc (acc 0 x) y) 4).toNat) (b64v (c64 (Builtin.bitAnd (acc (acc 0 x) y) 15 * 2 ^ Int.toNat 2)).toNat) = y := by
  unfold chk2 at h
  simp only [Bool.and_eq_true, beq_iff_eq] at h
  exact ⟨h.1.1.1.1, h.1.1.1.2, h.1.1.2, h.1.2, h.2⟩
theorem chk3_use {x y z : UInt8} (h : chk3 x y z = true) : okc (six (acc 0 x) 2) = true ∧ okc (six (acc (acc 0 x) y) 4) = true ∧ okc (six (acc (acc (acc 0 x) y) z) 6) = true ∧ okc (six (acc (acc (acc 0 x) y) z) 0) = true ∧
    o1 (b64v (six (acc 0 x) 2).toNat) (b64v (six (acc (acc 0 x) y) 4).toNat) = x ∧ o2 (b64v (six (acc (acc 0 x) y) 4).toNat) (b64v (six (acc (acc (acc 0 x) y) z) 6).toNat) = y ∧
    o3 (b64v (six (acc (acc (acc 0 x) y) z) 6).toNat) (b64v (six (acc (acc (acc 0 x) y) z) 0).toNat) = z := by
  unfold chk3 at h
  simp only [Bool.and_eq_true, beq_iff_eq] at h
  exact ⟨h.1.1.1.1.1.1, h.1.1.1.1.1.2, h.1.1.1.1.2, h.1.1.1.2, h.1.1.2, h.1.2, h.2⟩
theorem a2b_spec {w : World} {A : Around} {s : Shared} {E Q : Value → Shared → Prop} {ds : List (Fin 8)} {u : Tok} (hl : ds.length ≤ 3)
    (H : Here w A s.heap) (hdp : A.depth + (1 + 1) < recursionLimit) (hun : A.units + 100 < cLine)
    (hQ : ∀ t h' tk', s.heap.StaysIn h' → Q (.bytes (octs ds).toArray t) { s with heap := h', toks := tk' }) :
    wpAny (model prg w) A (call (.ref 144) [.bytes (enc64 (octs ds)) u] [(PySem.Str.ofString "strict_mode", .bool false)]) Q E s := by
  match ds, hl with
  | [], _ => exact a2b_spec0 H hdp hun hQ
  | [a], _ =>
    obtain ⟨k0, k1, r⟩ := chk1_use (chk1_all a)
    refine a2b_spec1 (okc_n k0) (okc_i k0) (okc_l k0) (okc_n k1) (okc_i k1) (okc_l k1) H hdp hun ?_
    rw [r]; exact hQ
  | [a, b], _ =>
    obtain ⟨k0, k1, k2, r, r2⟩ := chk2_use (chk2_all a b)
    refine a2b_spec2 (okc_n k0) (okc_i k0) (okc_l k0) (okc_n k1) (okc_i k1) (okc_l k1) (okc_n k2) (okc_i k2) (okc_l k2) H hdp hun ?_
    rw [r, r2]; exact hQ
  | [a, b, c], _ =>
    obtain ⟨k0, k1, k2, k3, r, r2, r3⟩ := chk3_use (chk3_all a b c)
    refine a2b_spec3 (okc_n k0) (okc_i k0) (okc_l k0) (okc_n k1) (okc_i k1) (okc_l k1) (okc_n k2) (okc_i k2) (okc_l k2) (okc_n k3) (okc_i k3) (okc_l k3) H hdp hun ?_
    rw [r, r2, r3]; exact hQ
example : True := by
  (k_with "call ref" => (k_here; (with_reducible show wpAny _ _ (call (Value.ref 144) [Value.bytes (enc64 (octs _)) _] _) _ _ _); k_dflt (refine a2b_spec (by first | assumption | decide) (by walk_at "sp here") (by k_room) (by k_units) ?_); k_whole; walk_at "sp kept"))
  trivial
set_option maxHeartbeats 4000000 in
theorem b64decode_spec {w : World} {A : Around} {s : Shared} {E Q : Value → Shared → Prop} {ds : List (Fin 8)} {u : Tok} (hl : ds.length ≤ 3)
    (H : Here w A s.heap) (hdp : A.depth + (2 + 1) < recursionLimit) (hun : A.units + 200 < cLine)
    (hQ : ∀ t h' tk', s.heap.StaysIn h' → Q (.bytes (octs ds).toArray t) { s with heap := h', toks := tk' }) :
    wpAny (model prg w) A (call (.ref 191) [.bytes (enc64 (octs ds)) u]) Q E s := by
  walk_at "sp enter"
  k_steps
  all_goals exact hQ _ _ _ (by assumption)
noncomputable def trip (c : UInt8) : Bool := decT.getD (encT.getD c.toNat c).toNat (encT.getD c.toNat c) == c
theorem trip_all : (0 :: 61 :: B64L).all trip = true := by decide +kernel
theorem trip_c64 (i : Int) : trip (c64 i) = true := by
  have h : c64 i = B64L.getD i.toNat 0 := by
    unfold c64 b64i
    simp
  rw [h]
  have ha := List.all_eq_true.mp trip_all
  by_cases hk : i.toNat < B64L.length
  · rw [List.getD_eq_getElem?_getD, List.getElem?_eq_getElem hk]
    exact ha _ (List.mem_cons_of_mem _ (List.mem_cons_of_mem _ (List.getElem_mem hk)))
  · rw [List.getD_eq_getElem?_getD, List.getElem?_eq_none (by omega)]
    exact ha 0 (by simp)
theorem trip_six (l k : Int) : trip (six l k) = true := trip_c64 _
theorem trip61 : trip 61 = true := List.all_eq_true.mp trip_all 61 (by simp)
theorem trip_arr {b : Array UInt8} (h : ∀ c ∈ b, trip c = true) : trB decT (trB encT b) = b := by
  unfold trB
  rw [Array.map_map]
  refine (Array.map_congr_left (g := id) fun c hc => ?_).trans (Array.map_id _)
  have := h c hc
  unfold trip at this
  exact eq_of_beq this
theorem trip_enc : ∀ l : List UInt8, trB decT (url64 l) = enc64 l := fun l => by
  refine trip_arr ?_
  match l with
  | [] => intro c hc; simp [enc64] at hc
  | [x] =>
    intro c hc
    simp only [enc64, List.mem_toArray, List.mem_cons, List.not_mem_nil, or_false] at hc
    rcases hc with rfl | rfl | rfl | rfl <;> first | with_reducible exact trip61 | with_reducible exact trip_six _ _ | with_reducible exact trip_c64 _
  | [x, y] =>
    intro c hc
    simp only [enc64, List.mem_toArray, List.mem_cons, List.not_mem_nil, or_false] at hc
    rcases hc with rfl | rfl | rfl | rfl <;> first | with_reducible exact trip61 | with_reducible exact trip_six _ _ | with_reducible exact trip_c64 _
  | x :: y :: z :: _ =>
    intro c hc
    simp only [enc64, List.mem_toArray, List.mem_cons, List.not_mem_nil, or_false] at hc
    rcases hc with rfl | rfl | rfl | rfl <;> first | with_reducible exact trip61 | with_reducible exact trip_six _ _ | with_reducible exact trip_c64 _
theorem url64_fits (l : List UInt8) : (url64 l).size ≤ sizeLine := by
  unfold url64 trB
  rw [Array.size_map]; exact enc64_fits l
example : True := by
  (k_with "sp size" => exact url64_fits _)
  (k_with "call ref" => (k_here; (with_reducible show wpAny _ _ (call (Value.ref 191) [Value.bytes _ _] _) _ _ _); k_dflt (refine b64decode_spec (by first | assumption | decide) (by walk_at "sp here") (by k_room) (by k_units) ?_); k_whole; walk_at "sp kept"))
  trivial
theorem b64decode_spec' {w : World} {A : Around} {s : Shared} {E Q : Value → Shared → Prop} {ds : List (Fin 8)} {u : Tok} {v : Array UInt8} (hl : ds.length ≤ 3) (hv : v = enc64 (octs ds))
    (H : Here w A s.heap) (hdp : A.depth + (2 + 1) < recursionLimit) (hun : A.units + 200 < cLine)
    (hQ : ∀ t h' tk', s.heap.StaysIn h' → Q (.bytes (octs ds).toArray t) { s with heap := h', toks := tk' }) :
    wpAny (model prg w) A (call (.ref 191) [.bytes v u]) Q E s := by subst hv; exact b64decode_spec hl H hdp hun hQ
example : True := by
  (k_with "call ref" => (k_here; (with_reducible show wpAny _ _ (call (Value.ref 191) [Value.bytes _ _] _) _ _ _); k_dflt (refine b64decode_spec' (by first | assumption | decide) (trip_enc _) (by walk_at "sp here") (by k_room) (by k_units) ?_); k_whole; walk_at "sp kept"))
  trivial
set_option maxHeartbeats 4000000 in
theorem urldecode_spec {w : World} {A : Around} {s : Shared} {E Q : Value → Shared → Prop} {ds : List (Fin 8)} {u : Tok} (hl : ds.length ≤ 3)
    (H : Here w A s.heap) (hdp : A.depth + (3 + 1) < recursionLimit) (hun : A.units + 300 < cLine)
    (hQ : ∀ t h' tk', s.heap.StaysIn h' → Q (.bytes (octs ds).toArray t) { s with heap := h', toks := tk' }) :
    wpAny (model prg w) A (call (.ref 205) [.bytes (url64 (octs ds)) u]) Q E s := by
  walk_at "sp enter"
  k_steps
  all_goals exact hQ _ _ _ (by assumption)
end
section
local macro_rules | `(tactic| kba_ints) => `(tactic| first | exact bints1 _ | exact bints2 _ _ | exact bints3 _ _ _ | exact bints4 _ _ _ _ | exact bints6 _ _ _ _ _ _)
example : True := by
  k_with_none
  (k_with "sp enter" => ((w_top off; have hfill : PySem.Challenge.rw_kq0048_01 = PySem.Challenge.rw_kq0048_01 ∧ hd.heap_39 = hd.heap_39 := by (k_fill; exact ⟨rfl, rfl⟩)); clear hfill; k_dflt (refine call_here (by assumption) (by assumption) (by assumption) (by k_is) (by k_is) (by (intro X9; first | exact BindsTo.of_eq rfl | exact binds_K (by assumption) rfl (by k_is) rfl rfl rfl)) (by exact locs rfl) ?_ (by exact rfl) (by exact rfl) (by exact rfl) (by decide)); k_whole; intro dp' un' gd' env' outer' mean' mg' mb' base' g' L' h' hdp' hun' kG' F' N' B' X' T'; (try dsimp only); (try k_fold)))
  (k_with "SpDone" => ((refine SpDone.intro (by k_asm) ?_); intro st9))
  (k_with "call type:type" => (k_here; (with_reducible show wpAny _ _ (call _ [Value.bytes _ _]) _ _ _); refine call_type_of (Tx := "bytes") rfl (by decide +kernel) ?_))
  (k_with "sp kept" => (intro t9 h9 tk9 st9; (try dsimp only at st9); rename Fr _ _ _ _ => kF; rename News _ _ _ _ => kN; (k_dflt (have kF' := Fr.keeps kF st9)); (k_dflt (have kN' := News.grown kN st9)); clear kF kN st9))
  (k_with "sp here" => k_dflt (exact Here.mk (by k_asm) (by k_asm) (by k_asm) (by k_asm) rfl rfl rfl rfl))
  (k_with "sp and" => first | with_reducible assumption | with_reducible exact Ne.symm (by assumption) | with_reducible exact Nat.ne_of_gt (by assumption) | with_reducible exact Nat.ne_of_lt (by assumption) | (simp only [ne_eq, not_false_eq_true, *]; done) | (apply Ne.symm; simp only [ne_eq, not_false_eq_true, *]; done))
  (k_with "sp sub" => first | with_reducible exact sub_0 _ | with_reducible exact sub_1 _ _ | with_reducible exact sub_2 _ _ _ | with_reducible exact sub_3 _ _ _ _ | with_reducible exact sub_4 _ _ _ _ _ | with_reducible exact sub_5 _ _ _ _ _ _)
  (k_with "sp put" => first | exact Put.nil | with_reducible exact Put.hit | (apply Put.skip; (focus decide); walk_at "sp put"))
  (k_with "storeName" => (k_here; k_dflt (refine put_any (by k_asm) (by k_asm) (by rfl) (by rfl) (by walk_at "sp put") ?_); intro h' k' F' N'; (try k_sweep); (try dsimp only)))
  (k_with "storeName" => (k_here; (with_reducible show wpAny _ _ (storeName _ _ (Value.str _ _)) _ _ _); k_dflt (refine put_str (by k_asm) (by k_asm) (by rfl) (by rfl) (by intro tp; walk_at "sp put") ?_); intro t' h' k' F' N'; (try k_sweep); (try dsimp only)))
  (k_with "storeName" => (k_here; (with_reducible show wpAny _ _ (storeName _ _ (Value.bytes _ _)) _ _ _); k_dflt (refine put_bytes (by k_asm) (by k_asm) (by rfl) (by rfl) (by intro tp; walk_at "sp put") ?_); intro t' h' k' F' N'; (try k_sweep); (try dsimp only)))
  (k_with "storeName" => (k_here; (with_reducible show wpAny _ _ (storeName _ _ (Value.int _ _)) _ _ _); k_dflt (refine put_int (by k_asm) (by k_asm) (by rfl) (by rfl) (by intro tp; walk_at "sp put") ?_); intro t' h' k' F' N'; (try k_sweep); (try dsimp only)))
  (k_with "eval Name" => (k_here; k_dflt (refine nm_L (by k_asm) (by rfl) (by rfl) (by decide) (by exact Eq.refl (some _)) ?_)))
  (k_with "pyIter bytes" => (k_here; (with_reducible show wpAny _ _ (pyIter (Value.bytes _ _)) (fun it s₂ => LoopAtV _ _ _ _ _ _ _ _ _ it s₂) _ _); (rename Fr _ _ _ _ => lF'); (rename News _ _ _ _ => lN'); (k_dflt (refine iter_bytesUnr (by assumption) lF' lN' (by first | assumption | kba_ints2) ?_)); clear lF' lN'; intro i' l1; (try k_lt l1)))
  (k_with "BytesRest" => ((first | ((with_reducible show BytesRest _ _ _ _ _ _ _ _ _ _ _ (_ :: _) _ _); k_dflt (refine bytes_succ (by intro tp; walk_at "sp put") ?_); intro b0' b1' u' it' h' tk' F' N') | ((with_reducible show BytesRest _ _ _ _ _ _ _ _ _ _ _ (List.map _ _) _ _); (rename List UInt8 => l9); (rename List.length _ ≤ 3 => h9); cases l9 <;> (first | exact (no4 h9).elim | dsimp only [List.map])) | (k_dflt (refine bytes_zero ?_); intro h' tk' F' N'))))
  (k_with "execs cons" => (k_here; (try k_fold); (with_reducible refine wpAny_execs_cons ?_); (try dsimp only); k_fold))
  (k_with "sp room" => exact room9 (by assumption) (by decide))
  (k_with "sp units" => exact units9 (by assumption) (by decide))
  (k_with "sp here" => k_dflt (exact Here.mk (by k_asm) (by k_asm) (by k_asm) (by k_asm) (by first | assumption | rfl) rfl rfl (by first | assumption | rfl)))
  (k_with "sp enterV" => ((w_top off; have hfill : PySem.Challenge.rw_kq0048_01 = PySem.Challenge.rw_kq0048_01 ∧ hd.heap_39 = hd.heap_39 := by (k_fill; exact ⟨rfl, rfl⟩)); clear hfill; k_dflt (refine call_hereV (by assumption) (by assumption) (by assumption) (by k_is) (by k_is) (by (intro X9; first | exact BindsTo.of_eq rfl | exact binds_K (by assumption) rfl (by k_is) rfl rfl rfl)) (by exact locs rfl) ?_ (by exact rfl) (by exact rfl) (by exact rfl) (by decide) (by decide)); k_whole; intro A' A0' env' outer' mean' mg' mb' base' g' L' h' tk' hdp' hun' kG' F' N' B' X' T' hh' hf'; (try dsimp only)))
  (k_with "getMethod bytes" => (k_here; (with_reducible refine meth_upper ?_)))
  (k_with "getMethod bytes" => (k_here; (with_reducible refine meth_lower ?_)))
  (k_with "getMethod bytes" => (k_here; (with_reducible refine meth_hex ?_)))
  (k_with "getMethod bytes" => (k_here; (with_reducible refine meth_translate ?_)))
  (k_with "getMethod str" => (k_here; (with_reducible refine meth_encode ?_)))
  (k_with "sp size" => first | assumption | exact enc64_fits _ | exact Nat.le_of_ble_eq_true (by with_unfolding_all rfl))
  (k_with "call builtin:bytes.upper" => (k_here; (with_reducible show wpAny _ _ (call (Value.builtin "bytes.upper") [Value.bytes _ _]) _ _ _); (refine call_upper (by walk_at "sp size") ?_); intro _ _))
  (k_with "call builtin:bytes.lower" => (k_here; (with_reducible show wpAny _ _ (call (Value.builtin "bytes.lower") [Value.bytes _ _]) _ _ _); (refine call_lower (by walk_at "sp size") ?_); intro _ _))
  (k_with "call builtin:bytes.hex" => (k_here; (with_reducible show wpAny _ _ (call (Value.builtin "bytes.hex") [Value.bytes _ _]) _ _ _); (refine call_hex (by walk_at "sp size") ?_); intro _ _))
  (k_with "call builtin:bytes.translate" => (k_here; (with_reducible show wpAny _ _ (call (Value.builtin "bytes.translate") [Value.bytes _ _, Value.bytes _ _]) _ _ _); (refine call_translate (by with_unfolding_all rfl) (by walk_at "sp size") ?_); intro _ _))
  (k_with "call builtin:str.encode" => (k_here; (with_reducible show wpAny _ _ (call (Value.builtin "str.encode") [Value.str _ _, Value.str _ _]) _ _ _); (refine call_encode (by walk_at "sp ascii") (by walk_at "sp size") ?_); intro _ _))
  (k_with "call ref" => (k_here; (with_reducible show wpAny _ _ (call (Value.ref 122) [Value.bytes _ _] _) _ _ _); k_dflt (refine buffer_spec (by walk_at "sp here") (by first | walk_at "sp room" | k_room) (by first | walk_at "sp units" | k_units) ?_); k_whole; walk_at "sp kept"))
  (k_with "call ref" => (k_here; (with_reducible show wpAny _ _ (call (Value.ref 129) [Value.bool _] _) _ _ _); k_dflt (refine truth_spec (by walk_at "sp here") (by first | walk_at "sp room" | k_room) (by first | walk_at "sp units" | k_units) ?_); k_whole; walk_at "sp kept"))
  (k_with "call ref" => (k_here; (with_reducible show wpAny _ _ (call (Value.ref 115) [Value.bytes _ _] _) _ _ _); k_dflt (refine ascii_spec (by walk_at "sp here") (by first | walk_at "sp room" | k_room) (by first | walk_at "sp units" | k_units) ?_); k_whole; walk_at "sp kept"))
  (k_with "call ref" => (k_here; (with_reducible show wpAny _ _ (call (Value.ref 95) [Value.bytes _ _] _) _ _ _); k_dflt (refine fromdata_spec (by walk_at "sp here") (by first | walk_at "sp room" | k_room) (by first | walk_at "sp units" | k_units) ?_); k_whole; walk_at "sp kept"))
  trivial
theorem hexv_a {c : Int} (h1 : 48 ≤ c) (h2 : c ≤ 57) : hexv c = c - 48 := by unfold hexv; exact if_pos ⟨h1, h2⟩
theorem hexv_b {c : Int} (h1 : 65 ≤ c) (h2 : c ≤ 70) : hexv c = c - 55 := by
  unfold hexv
  rw [if_neg (by omega)]; exact if_pos ⟨h1, h2⟩
theorem hexv_c {c : Int} (h1 : 97 ≤ c) (h2 : c ≤ 102) : hexv c = c - 87 := by
  unfold hexv
  rw [if_neg (by omega), if_neg (by omega)]; exact if_pos ⟨h1, h2⟩
set_option maxHeartbeats 4000000 in
theorem hexv_spec {w : World} {A : Around} {s : Shared} {E Q : Value → Shared → Prop} {c : Int} {u : Tok} (hc : In16 (hexv c))
    (H : Here w A s.heap) (hdp : A.depth + (0 + 1) < recursionLimit) (hun : A.units + 20 < cLine)
    (hQ : ∀ t h' tk', s.heap.StaysIn h' → Q (.int (hexv c) t) { s with heap := h', toks := tk' }) :
    wpAny (model prg w) A (call (.ref 168) [.int c u]) Q E s := by
  have hQ' : ∀ v t h' tk', hexv c = v → s.heap.StaysIn h' → Q (.int v t) { s with heap := h', toks := tk' } := fun v t h' tk' e => e ▸ hQ t h' tk'
  clear hQ
  have hr : (48 ≤ c ∧ c ≤ 57) ∨ (65 ≤ c ∧ c ≤ 70) ∨ (97 ≤ c ∧ c ≤ 102) := by
    unfold In16 hexv at hc
    revert hc
    (repeat' split) <;> intro hc <;> omega
  clear hc
  obtain ⟨hp, gs, dr, tk0, os⟩ := s
  dsimp only at H hQ'
  rcases hr with ⟨h1, h2⟩ | ⟨h1, h2⟩ | ⟨h1, h2⟩
  all_goals (
    walk_at "sp enterV"
    k_fold
    (rename Fr _ _ _ _ => F9; have F8 : Fr _ _ _ (fun y => List.lookup y [(PySem.Str.ofString "c", .int _ u)]) := F9; clear F9)
    k_steps)
  all_goals first
    | exact hQ' _ _ _ _ (hexv_a (by assumption) (by assumption)) (by assumption)
    | exact hQ' _ _ _ _ (hexv_b (by assumption) (by assumption)) (by assumption)
    | exact hQ' _ _ _ _ (hexv_c (by assumption) (by assumption)) (by assumption)
example : True := by
  (k_with "ite" => (k_here; k_openite; first | (refine ite_neg (c9_ne (by with_reducible assumption)) ?_; walk_say "MINE") | (refine ite_neg (c9_beq (by with_reducible assumption)) ?_; walk_say "MINE") | (refine ite_neg (c9_ge (by with_reducible assumption)) ?_; walk_say "MINE") | (refine ite_neg (c9_ge' (by with_reducible assumption)) ?_; walk_say "MINE")))
  (k_with "sp in1" => with_reducible exact hex_in (by assumption) (by assumption))
  (k_with "sp in" => first | with_reducible exact in_0 | with_reducible exact in_1 (by walk_at "sp in1") | with_reducible exact in_2 (by walk_at "sp in1") (by walk_at "sp in1") | with_reducible exact in_3 (by walk_at "sp in1") (by walk_at "sp in1") (by walk_at "sp in1"))
  (k_with "call type:bytes" => (k_here; (with_reducible show wpAny _ _ (call (Value.type _) [Value.ref _]) _ _ _); k_dflt (refine bytes_K (by k_asm) (by k_asm) (by is_list) (by first | with_reducible exact intsP_3 | with_reducible exact intsP_2 | with_reducible exact intsP_1 | with_reducible exact intsP_0 | with_reducible exact intsP_4 | l_ints | l_intsW) (by walk_at "sp in") (by exact Nat.le_of_ble_eq_true (by with_unfolding_all rfl)) (by first | assumption | with_unfolding_all rfl) ?_); k_whole; intro h' t' k' F' N' hB'; (clear hB'); (try dsimp only [List.map]); (try k_sweep)))
  (k_with "binaryOp LShift int int" => (k_here; (with_reducible refine lshift_int_small ?kb1 ?kb2 ?kb3 ?_); (case kb1 => decide); (case kb2 => decide); (case kb3 => exact hex_nat (by assumption))))
  (k_with "eval Call" => (k_here; (with_reducible show wpAny _ _ (eval (Expr.Call (Expr.Name (Str.ofString "_hex_value") _) _ [] _) _) _ _ _); k_dflt (refine Call_ ?_)))
  (k_with "call ref" => (k_here; (with_reducible show wpAny _ _ (call (Value.ref 168) [Value.int _ _] _) _ _ _); k_dflt (refine hexv_spec (by assumption) (by walk_at "sp here") (by first | walk_at "sp room" | k_room) (by first | walk_at "sp units" | k_units) ?_); k_whole; walk_at "sp kept"))
  trivial
inductive Hex : Nat → List UInt8 → Prop
  | nil {n : Nat} : Hex n []
  | cons {n : Nat} {c d : UInt8} {r : List UInt8} (ic : In16 (hexv c.toNat)) (lc : hexv c.toNat < 16) (id : In16 (hexv d.toNat)) (ld : hexv d.toNat < 16) (h : Hex n r) : Hex (n + 1) (c :: d :: r)
theorem Hex.even : ∀ {n : Nat} {l : List UInt8}, Hex n l → l.length % 2 = 0
  | _, _, .nil => rfl
  | _, _, .cons _ _ _ _ h => by have := Hex.even h; simp only [List.length_cons]; omega
noncomputable def hos : List UInt8 → List UInt8
  | c :: d :: r => ho c d :: hos r
  | _ => []
section
variable {prog : Program} {w : World} {A : Around} {E : Value → Shared → Prop} {s : Shared} {Q : Value → Shared → Prop}
theorem len_hex {b : Array UInt8} {l : List UInt8} {t : Tok} (hb : b = l.toArray) (hl : l.length ≤ 1000) (h : ∀ n t' k, n = (l.length : Int) → Q (.int n t') { s with toks := k }) : wpAny (model prog w) A (call (.builtin "len") [.bytes b t]) Q E s := by
  subst hb
  exact len_bytes (by simp only [List.size_toArray]; omega) (h _ _ _ (by simp))
theorem mod_even {n : Int} {l : List UInt8} {k : Nat} {t u : Tok} (hn : n = (l.length : Int)) (hx : Hex k l) (h : Q (.int 0 s.toks) { s with toks := s.toks + 1 }) : wpAny (model prog w) A (binaryOp .Mod (.int n t) (.int 2 u)) Q E s := by
  have e : n.fmod 2 = 0 := by
    have := hx.even
    rw [Int.fmod_eq_emod_of_nonneg _ (by decide)]; omega
  exact mod_int' (by decide) (e ▸ h)
theorem item_hex {b : Array UInt8} {l : List UInt8} {i : Int} {c : UInt8} {t ui : Tok} {value slice : PySem.Expr} (hb : b = l.toArray) (hl : l.length ≤ 1000) (h0 : 0 ≤ i) (hc : l[i.toNat]? = some c)
    (hs : subscripted slice false (.bytes b t) (.int i ui) = operate [.bytes b t, .int i ui] (getItem (.bytes b t) (.int i ui)))
    (ht : ∀ r, letTemporaryGo value (.bytes b t) r = pure ()) (h : Q (.int (c.toNat : Int) s.toks) { s with toks := s.toks + 1 }) : wpAny (model prog w) A (subscriptTail value slice (.bytes b t) (.int i ui)) Q E s := by
  subst hb
  obtain ⟨hlt, he⟩ := List.getElem?_eq_some_iff.mp hc
  refine bytes_item_K (by omega) h0 (by omega) ?_ h hs ht
  rw [List.getD_eq_getElem?_getD, hc]; rfl
theorem hex_no {i n : Int} {l : List UInt8} (hn : n = (l.length : Int)) (h : (l.length : Int) ≤ i) : decide (i < n) = false := by
  subst hn; simpa using h
theorem hex_yes {i n : Int} {l : List UInt8} (hn : n = (l.length : Int)) (h : i < (l.length : Int)) : decide (i < n) = true := by
  subst hn; simpa using h
end
example : True := by
  (k_with "call builtin:len" => (k_here; (with_reducible show wpAny _ _ (call (Value.builtin "len") [Value.bytes _ _]) _ _ _); k_dflt (refine len_hex (by assumption) (by assumption) ?_); intro n' t' k' hn'))
  (k_with "binaryOp Mod int int" => (k_here; k_dflt (refine mod_even (by assumption) (by assumption) ?_)))
  (k_with "subscriptTail" => (k_here; (with_reducible show wpAny _ _ (subscriptTail _ _ (Value.bytes _ _) (Value.int _ _)) _ _ _); k_dflt (refine item_hex (by assumption) (by assumption) (by decide) (by exact rfl) (by with_unfolding_all rfl) (by intro _; with_unfolding_all rfl) ?_)))
  (k_with "exec While Compare" => (k_here; k_dflt (refine whl_start 100 ?_)))
  (k_with "WhlIf" => ((rename Hex _ _ => hX9); cases hX9 <;> (first | (refine WhlIf.no ?_ ?_; (focus (refine hex_no (by assumption) ?_; (try simp only [List.length_cons, List.length_nil]); omega))) | (refine WhlIf.yes ?_ ?_; (focus (refine hex_yes (by assumption) ?_; (try simp only [List.length_cons, List.length_nil]); omega))))))
  trivial
set_option maxHeartbeats 4000000 in
theorem a2x_gen {w : World} {A : Around} {s : Shared} {E Q : Value → Shared → Prop} {b : Array UInt8} {l : List UInt8} {u : Tok} (hb : b = l.toArray) (hl : l.length ≤ 1000) (hx : Hex 3 l)
    (H : Here w A s.heap) (hdp : A.depth + (1 + 1) < recursionLimit) (hun : A.units + 100 < cLine)
    (hQ : ∀ t h' tk', s.heap.StaysIn h' → Q (.bytes (hos l).toArray t) { s with heap := h', toks := tk' }) :
    wpAny (model prg w) A (call (.ref 175) [.bytes b u]) Q E s := by
  obtain ⟨hp, gs, dr, tk0, os⟩ := s
  dsimp only at H hQ
  walk_at "sp enterV"
  k_fold
  (rename Fr _ _ _ _ => F9; have F8 : Fr _ _ _ (fun y => List.lookup y [(PySem.Str.ofString "hexstr", .bytes b u)]) := F9; clear F9)
  k_steps
  all_goals exact hQ _ _ _ (by assumption)
theorem a2x_spec0 {w : World} {A : Around} {s : Shared} {E Q : Value → Shared → Prop}  {u : Tok}
    
    (H : Here w A s.heap) (hdp : A.depth + (1 + 1) < recursionLimit) (hun : A.units + 100 < cLine)
    (hQ : ∀ t h' tk', s.heap.StaysIn h' → Q (.bytes #[] t) { s with heap := h', toks := tk' }) :
    wpAny (model prg w) A (call (.ref 175) [.bytes #[] u]) Q E s :=
  a2x_gen rfl (Nat.le_of_ble_eq_true rfl) .nil H hdp hun hQ
theorem a2x_spec1 {w : World} {A : Around} {s : Shared} {E Q : Value → Shared → Prop} {x0 x1 : UInt8} {u : Tok}
    (i0 : In16 (hexv x0.toNat)) (l0 : hexv x0.toNat < 16) (i1 : In16 (hexv x1.toNat)) (l1 : hexv x1.toNat < 16) 
    (H : Here w A s.heap) (hdp : A.depth + (1 + 1) < recursionLimit) (hun : A.units + 100 < cLine)
    (hQ : ∀ t h' tk', s.heap.StaysIn h' → Q (.bytes #[ho x0 x1] t) { s with heap := h', toks := tk' }) :
    wpAny (model prg w) A (call (.ref 175) [.bytes #[x0, x1] u]) Q E s :=
  a2x_gen rfl (Nat.le_of_ble_eq_true rfl) (.cons i0 l0 i1 l1 .nil) H hdp hun hQ
theorem a2x_spec2 {w : World} {A : Around} {s : Shared} {E Q : Value → Shared → Prop} {x0 x1 x2 x3 : UInt8} {u : Tok}
    (i0 : In16 (hexv x0.toNat)) (l0 : hexv x0.toNat < 16) (i1 : In16 (hexv x1.toNat)) (l1 : hexv x1.toNat < 16) (i2 : In16 (hexv x2.toNat)) (l2 : hexv x2.toNat < 16) (i3 : In16 (hexv x3.toNat)) (l3 : hexv x3.toNat < 16) 
    (H : Here w A s.heap) (hdp : A.depth + (1 + 1) < recursionLimit) (hun : A.units + 100 < cLine)
    (hQ : ∀ t h' tk', s.heap.StaysIn h' → Q (.bytes #[ho x0 x1, ho x2 x3] t) { s with heap := h', toks := tk' }) :
    wpAny (model prg w) A (call (.ref 175) [.bytes #[x0, x1, x2, x3] u]) Q E s :=
  a2x_gen rfl (Nat.le_of_ble_eq_true rfl) (.cons i0 l0 i1 l1 (.cons i2 l2 i3 l3 .nil)) H hdp hun hQ
theorem a2x_spec3 {w : World} {A : Around} {s : Shared} {E Q : Value → Shared → Prop} {x0 x1 x2 x3 x4 x5 : UInt8} {u : Tok}
    (i0 : In16 (hexv x0.toNat)) (l0 : hexv x0.toNat < 16) (i1 : In16 (hexv x1.toNat)) (l1 : hexv x1.toNat < 16) (i2 : In16 (hexv x2.toNat)) (l2 : hexv x2.toNat < 16) (i3 : In16 (hexv x3.toNat)) (l3 : hexv x3.toNat < 16) (i4 : In16 (hexv x4.toNat)) (l4 : hexv x4.toNat < 16) (i5 : In16 (hexv x5.toNat)) (l5 : hexv x5.toNat < 16) 
    (H : Here w A s.heap) (hdp : A.depth + (1 + 1) < recursionLimit) (hun : A.units + 100 < cLine)
    (hQ : ∀ t h' tk', s.heap.StaysIn h' → Q (.bytes #[ho x0 x1, ho x2 x3, ho x4 x5] t) { s with heap := h', toks := tk' }) :
    wpAny (model prg w) A (call (.ref 175) [.bytes #[x0, x1, x2, x3, x4, x5] u]) Q E s :=
  a2x_gen rfl (Nat.le_of_ble_eq_true rfl) (.cons i0 l0 i1 l1 (.cons i2 l2 i3 l3 (.cons i4 l4 i5 l5 .nil))) H hdp hun hQ
theorem a2x_spec {w : World} {A : Around} {s : Shared} {E Q : Value → Shared → Prop} {ds : List (Fin 8)} {u : Tok} (hl : ds.length ≤ 3)
    (H : Here w A s.heap) (hdp : A.depth + (1 + 1) < recursionLimit) (hun : A.units + 100 < cLine)
    (hQ : ∀ t h' tk', s.heap.StaysIn h' → Q (.bytes (octs ds).toArray t) { s with heap := h', toks := tk' }) :
    wpAny (model prg w) A (call (.ref 175) [.bytes (b16 (octs ds)) u]) Q E s := by
  match ds, hl with
  | [], _ =>
    have e : b16 (octs []) = #[] := by decide +kernel
    rw [e]
    exact a2x_spec0 H hdp hun hQ
  | [a], _ =>
    obtain ⟨i0, l0, i1, l1, r⟩ := hchk_use (hchk_all a)
    show wpAny (model prg w) A (call (.ref 175) [.bytes (b16 [oct a]) u]) Q E s
    rw [b16_1]
    refine a2x_spec1 i0 l0 i1 l1 H hdp hun ?_
    rw [r]; exact hQ
  | [a, b], _ =>
    obtain ⟨i0, l0, i1, l1, r⟩ := hchk_use (hchk_all a)
    obtain ⟨i2, l2, i3, l3, r2⟩ := hchk_use (hchk_all b)
    show wpAny (model prg w) A (call (.ref 175) [.bytes (b16 [oct a, oct b]) u]) Q E s
    rw [b16_2]
    refine a2x_spec2 i0 l0 i1 l1 i2 l2 i3 l3 H hdp hun ?_
    rw [r, r2]; exact hQ
  | [a, b, c], _ =>
    obtain ⟨i0, l0, i1, l1, r⟩ := hchk_use (hchk_all a)
    obtain ⟨i2, l2, i3, l3, r2⟩ := hchk_use (hchk_all b)
    obtain ⟨i4, l4, i5, l5, r3⟩ := hchk_use (hchk_all c)
    show wpAny (model prg w) A (call (.ref 175) [.bytes (b16 [oct a, oct b, oct c]) u]) Q E s
    rw [b16_3]
    refine a2x_spec3 i0 l0 i1 l1 i2 l2 i3 l3 i4 l4 i5 l5 H hdp hun ?_
    rw [r, r2, r3]; exact hQ
end
section
example : True := by
  k_with_none
  (k_with "sp enter" => ((w_top off; have hfill : PySem.Challenge.rw_kq0048_01 = PySem.Challenge.rw_kq0048_01 ∧ hd.heap_39 = hd.heap_39 := by (k_fill; exact ⟨rfl, rfl⟩)); clear hfill; k_dflt (refine call_here (by assumption) (by assumption) (by assumption) (by k_is) (by k_is) (by (intro X9; first | exact BindsTo.of_eq rfl | exact binds_K (by assumption) rfl (by k_is) rfl rfl rfl)) (by exact locs rfl) ?_ (by exact rfl) (by exact rfl) (by exact rfl) (by decide)); k_whole; intro dp' un' gd' env' outer' mean' mg' mb' base' g' L' h' hdp' hun' kG' F' N' B' X' T'; (try dsimp only); (try k_fold)))
  (k_with "SpDone" => ((refine SpDone.intro (by k_asm) ?_); intro st9))
  (k_with "call type:type" => (k_here; (with_reducible show wpAny _ _ (call _ [Value.bytes _ _]) _ _ _); refine call_type_of (Tx := "bytes") rfl (by decide +kernel) ?_))
  (k_with "sp kept" => (intro t9 h9 tk9 st9; (try dsimp only at st9); rename Fr _ _ _ _ => kF; rename News _ _ _ _ => kN; (k_dflt (have kF' := Fr.keeps kF st9)); (k_dflt (have kN' := News.grown kN st9)); clear kF kN st9))
  (k_with "sp here" => k_dflt (exact Here.mk (by k_asm) (by k_asm) (by k_asm) (by k_asm) rfl rfl rfl rfl))
  (k_with "sp and" => first | with_reducible assumption | with_reducible exact Ne.symm (by assumption) | with_reducible exact Nat.ne_of_gt (by assumption) | with_reducible exact Nat.ne_of_lt (by assumption) | (simp only [ne_eq, not_false_eq_true, *]; done) | (apply Ne.symm; simp only [ne_eq, not_false_eq_true, *]; done))
  (k_with "sp sub" => first | with_reducible exact sub_0 _ | with_reducible exact sub_1 _ _ | with_reducible exact sub_2 _ _ _ | with_reducible exact sub_3 _ _ _ _ | with_reducible exact sub_4 _ _ _ _ _ | with_reducible exact sub_5 _ _ _ _ _ _)
  (k_with "getMethod bytes" => (k_here; (with_reducible refine meth_upper ?_)))
  (k_with "getMethod bytes" => (k_here; (with_reducible refine meth_lower ?_)))
  (k_with "getMethod bytes" => (k_here; (with_reducible refine meth_hex ?_)))
  (k_with "getMethod bytes" => (k_here; (with_reducible refine meth_translate ?_)))
  (k_with "getMethod str" => (k_here; (with_reducible refine meth_encode ?_)))
  (k_with "sp size" => first | assumption | exact enc64_fits _ | exact Nat.le_of_ble_eq_true (by with_unfolding_all rfl))
  (k_with "call builtin:bytes.upper" => (k_here; (with_reducible show wpAny _ _ (call (Value.builtin "bytes.upper") [Value.bytes _ _]) _ _ _); (refine call_upper (by walk_at "sp size") ?_); intro _ _))
  (k_with "call builtin:bytes.lower" => (k_here; (with_reducible show wpAny _ _ (call (Value.builtin "bytes.lower") [Value.bytes _ _]) _ _ _); (refine call_lower (by walk_at "sp size") ?_); intro _ _))
  (k_with "call builtin:bytes.hex" => (k_here; (with_reducible show wpAny _ _ (call (Value.builtin "bytes.hex") [Value.bytes _ _]) _ _ _); (refine call_hex (by walk_at "sp size") ?_); intro _ _))
  (k_with "call builtin:bytes.translate" => (k_here; (with_reducible show wpAny _ _ (call (Value.builtin "bytes.translate") [Value.bytes _ _, Value.bytes _ _]) _ _ _); (refine call_translate (by with_unfolding_all rfl) (by walk_at "sp size") ?_); intro _ _))
  (k_with "call builtin:str.encode" => (k_here; (with_reducible show wpAny _ _ (call (Value.builtin "str.encode") [Value.str _ _, Value.str _ _]) _ _ _); (refine call_encode (by walk_at "sp ascii") (by walk_at "sp size") ?_); intro _ _))
  (k_with "call ref" => (k_here; (with_reducible show wpAny _ _ (call (Value.ref 122) [Value.bytes _ _] _) _ _ _); k_dflt (refine buffer_spec (by walk_at "sp here") (by k_room) (by k_units) ?_); k_whole; walk_at "sp kept"))
  (k_with "call ref" => (k_here; (with_reducible show wpAny _ _ (call (Value.ref 129) [Value.bool _] _) _ _ _); k_dflt (refine truth_spec (by walk_at "sp here") (by k_room) (by k_units) ?_); k_whole; walk_at "sp kept"))
  (k_with "call ref" => (k_here; (with_reducible show wpAny _ _ (call (Value.ref 115) [Value.bytes _ _] _) _ _ _); k_dflt (refine ascii_spec (by walk_at "sp here") (by k_room) (by k_units) ?_); k_whole; walk_at "sp kept"))
  (k_with "call ref" => (k_here; (with_reducible show wpAny _ _ (call (Value.ref 95) [Value.bytes _ _] _) _ _ _); k_dflt (refine fromdata_spec (by walk_at "sp here") (by k_room) (by k_units) ?_); k_whole; walk_at "sp kept"))
  (k_with "call ref" => (k_here; (with_reducible show wpAny _ _ (call (Value.ref 175) [Value.bytes (b16 (octs _)) _] _) _ _ _); k_dflt (refine a2x_spec (by first | assumption | decide) (by walk_at "sp here") (by k_room) (by k_units) ?_); k_whole; walk_at "sp kept"))
  (k_with "getMethod ref" => (k_here; (with_reducible show wpAny _ _ (getMethod (Value.ref 87) _ _) _ _ _); k_dflt (refine meth_search (by exact (by k_in : (hd.heap_39 _).In _) _ _ (by k_is)) (by exact rfl) (by exact rfl) ?_); k_whole))
  (k_with "call builtin:re.Pattern.search" => (k_here; k_dflt (refine call_search (by exact (by k_in : (hd.heap_39 _).In _) _ _ (by k_is)) (by exact rfl) (by exact rfl) (by exact (by k_in : (hd.heap_39 _).In _) _ _ (by k_is)) (by exact rfl) (by exact schk_all (by assumption)) ?_); k_whole))
  trivial
theorem b16_fits {ds : List (Fin 8)} (h : ds.length ≤ 3) : (b16 (octs ds)).size ≤ sizeLine := by
  match ds, h with
  | [], _ => decide +kernel
  | [a], _ => show (b16 [oct a]).size ≤ _; rw [b16_1]; exact Nat.le_of_ble_eq_true rfl
  | [a, b], _ => show (b16 [oct a, oct b]).size ≤ _; rw [b16_2]; exact Nat.le_of_ble_eq_true rfl
  | [a, b, c], _ => show (b16 [oct a, oct b, oct c]).size ≤ _; rw [b16_3]; exact Nat.le_of_ble_eq_true rfl
theorem loB_size (b : Array UInt8) : (loB b).size = b.size := by simp [loB]
noncomputable def ulchk (x : UInt8) : Bool := (let c := hx (x.toNat / 16); Builtin.Bytes.toUpper (Builtin.Bytes.toLower c) == c && Builtin.Bytes.toUpper c == c) && (let c := hx (x.toNat % 16); Builtin.Bytes.toUpper (Builtin.Bytes.toLower c) == c && Builtin.Bytes.toUpper c == c)
theorem ulchk_all : ∀ a : Fin 8, ulchk (oct a) = true := by decide +kernel
theorem ul_use {x : UInt8} (h : ulchk x = true) : Builtin.Bytes.toUpper (Builtin.Bytes.toLower (hx (x.toNat / 16))) = hx (x.toNat / 16) ∧ Builtin.Bytes.toUpper (hx (x.toNat / 16)) = hx (x.toNat / 16) ∧ Builtin.Bytes.toUpper (Builtin.Bytes.toLower (hx (x.toNat % 16))) = hx (x.toNat % 16) ∧ Builtin.Bytes.toUpper (hx (x.toNat % 16)) = hx (x.toNat % 16) := by
  simp only [ulchk, Bool.and_eq_true, beq_iff_eq] at h
  exact ⟨h.1.1, h.1.2, h.2.1, h.2.2⟩
theorem up_lo {ds : List (Fin 8)} (h : ds.length ≤ 3) : upB (loB (b16 (octs ds))) = b16 (octs ds) := by
  match ds, h with
  | [], _ => decide +kernel
  | [a], _ =>
    obtain ⟨a1, _, a2, _⟩ := ul_use (ulchk_all a)
    show upB (loB (b16 [oct a])) = b16 [oct a]
    rw [b16_1]; simp [upB, loB, a1, a2]
  | [a, b], _ =>
    obtain ⟨a1, _, a2, _⟩ := ul_use (ulchk_all a)
    obtain ⟨b1, _, b2, _⟩ := ul_use (ulchk_all b)
    show upB (loB (b16 [oct a, oct b])) = b16 [oct a, oct b]
    rw [b16_2]; simp [upB, loB, a1, a2, b1, b2]
  | [a, b, c], _ =>
    obtain ⟨a1, _, a2, _⟩ := ul_use (ulchk_all a)
    obtain ⟨b1, _, b2, _⟩ := ul_use (ulchk_all b)
    obtain ⟨c1, _, c2, _⟩ := ul_use (ulchk_all c)
    show upB (loB (b16 [oct a, oct b, oct c])) = b16 [oct a, oct b, oct c]
    rw [b16_3]; simp [upB, loB, a1, a2, b1, b2, c1, c2]
theorem up_up {ds : List (Fin 8)} (h : ds.length ≤ 3) : upB (b16 (octs ds)) = b16 (octs ds) := by
  match ds, h with
  | [], _ => decide +kernel
  | [a], _ =>
    obtain ⟨_, a1, _, a2⟩ := ul_use (ulchk_all a)
    show upB (b16 [oct a]) = b16 [oct a]
    rw [b16_1]; simp [upB, a1, a2]
  | [a, b], _ =>
    obtain ⟨_, a1, _, a2⟩ := ul_use (ulchk_all a)
    obtain ⟨_, b1, _, b2⟩ := ul_use (ulchk_all b)
    show upB (b16 [oct a, oct b]) = b16 [oct a, oct b]
    rw [b16_2]; simp [upB, a1, a2, b1, b2]
  | [a, b, c], _ =>
    obtain ⟨_, a1, _, a2⟩ := ul_use (ulchk_all a)
    obtain ⟨_, b1, _, b2⟩ := ul_use (ulchk_all b)
    obtain ⟨_, c1, _, c2⟩ := ul_use (ulchk_all c)
    show upB (b16 [oct a, oct b, oct c]) = b16 [oct a, oct b, oct c]
    rw [b16_3]; simp [upB, a1, a2, b1, b2, c1, c2]
set_option maxHeartbeats 4000000 in
theorem b16decode_spec {w : World} {A : Around} {s : Shared} {E Q : Value → Shared → Prop} {ds : List (Fin 8)} {u : Tok} (hl : ds.length ≤ 3)
    (H : Here w A s.heap) (hdp : A.depth + (2 + 1) < recursionLimit) (hun : A.units + 200 < cLine)
    (hQ : ∀ t h' tk', s.heap.StaysIn h' → Q (.bytes (octs ds).toArray t) { s with heap := h', toks := tk' }) :
    wpAny (model prg w) A (call (.ref 220) [.bytes (b16 (octs ds)) u]) Q E s := by
  walk_at "sp enter"
  k_steps
  all_goals exact hQ _ _ _ (by assumption)
theorem call_upper_to {prog : Program} {w : World} {A : Around} {E : Value → Shared → Prop} {s : Shared} {b c : Array UInt8} {t : Tok} {Q : Value → Shared → Prop} (e : upB b = c) (hsz : b.size ≤ sizeLine) (h : ∀ t' k, Q (.bytes c t') { s with toks := k }) : wpAny (model prog w) A (call (.builtin "bytes.upper") [.bytes b t]) Q E s := by
  subst e; exact call_upper hsz h
example : True := by
  (k_with "call builtin:bytes.upper" => (k_here; (with_reducible show wpAny _ _ (call (Value.builtin "bytes.upper") [Value.bytes _ _]) _ _ _); (refine call_upper_to (by assumption) (by assumption) ?_); intro _ _))
  trivial
set_option maxHeartbeats 4000000 in
theorem b16decodeT_spec {w : World} {A : Around} {s : Shared} {E Q : Value → Shared → Prop} {ds : List (Fin 8)} {v : Array UInt8} {u : Tok} (hl : ds.length ≤ 3) (hv : upB v = b16 (octs ds)) (hz : v.size ≤ sizeLine)
    (H : Here w A s.heap) (hdp : A.depth + (2 + 1) < recursionLimit) (hun : A.units + 200 < cLine)
    (hQ : ∀ t h' tk', s.heap.StaysIn h' → Q (.bytes (octs ds).toArray t) { s with heap := h', toks := tk' }) :
    wpAny (model prg w) A (call (.ref 220) [.bytes v u, .bool true]) Q E s := by
  walk_at "sp enter"
  k_steps
  all_goals exact hQ _ _ _ (by assumption)
end
section
open PySem PySem.W PySem.Calls PyProof.Rows PySem.Spec Builtin Builtin.ObjectAttr
noncomputable abbrev wrapObj (b : Addr) : Obj := { cls := .type "method-wrapper", data := .fields #[.builtin "list.__contains__", .ref b] }
theorem wd_look_contains : typeLookup (.type "list") "__contains__" = pure (some (.builtin "list.__contains__")) := by rw [typeLookup_type, builtinLookup_eq_fast]; kernel_rfl
theorem wd_type : typeOf (.builtin "list.__contains__") = pure (.type "wrapper_descriptor") := by show builtinType _ = _; rw [builtinType_eq_fast]; kernel_rfl
theorem wd_get : typeLookup (.type "wrapper_descriptor") "__get__" = pure (some (.builtin "wrapper_descriptor.__get__")) := by rw [typeLookup_type, builtinLookup_eq_fast]; kernel_rfl
theorem wd_set : typeLookup (.type "wrapper_descriptor") "__set__" = pure none := by rw [typeLookup_type, builtinLookup_eq_fast]; kernel_rfl
theorem wd_del : typeLookup (.type "wrapper_descriptor") "__delete__" = pure none := by rw [typeLookup_type, builtinLookup_eq_fast]; kernel_rfl
theorem slot_wd : Slot "wrapper_descriptor" "__get__" "wrapper_descriptor.__get__" :=
  .of (owner := "wrapper_descriptor") (n := "__get__") (by rw [typeLookup_type, builtinLookup_eq_fast]; kernel_rfl) (by decide +kernel) (by decide +kernel) (by decide +kernel)
    (by first | exact .inl (by decide +kernel) | exact .inr (by decide +kernel)) (by rw [isSubtype_type]; kernel_rfl)
theorem entry_wd : entryFor table "wrapper_descriptor.__get__" = some Builtin.«wrapper_descriptor.__get__» := entryFor_of_tree (by kernel_rfl)
theorem args_wd (a b c : Value) : argsOk "wrapper_descriptor.__get__" ⟨[a, b, c], []⟩ := by unfold argsOk; kernel_rfl
theorem meets_wd (b : Addr) : Meets (Builtin.«wrapper_descriptor.__get__» ⟨[.builtin "list.__contains__", .ref b, .type "list"], []⟩)
    (fun _ R s => s.TypeIs (.ref b) "list" ∧ R (.ok (.ret (.ref s.heap.objs.size))) { s with heap := s.heap.push (wrapObj b) }) := by
  refine Meets.of_wp fun prog w A R s hs => ?_
  obtain ⟨hp, g, d, tk, os⟩ := s
  obtain ⟨hT, hs⟩ := hs
  unfold Builtin.«wrapper_descriptor.__get__»
  repeat (any_goals (first | assumption | wp_step))
  have e0 : (".".intercalate ("list.__contains__".cutAt '.').dropLast) = "list" := by decide +kernel
  have e1 : isSubtype (.type "list") (.type (".".intercalate ("list.__contains__".cutAt '.').dropLast)) = pure true := by rw [e0, isSubtype_type]; kernel_rfl
  refine wpAny_of_eq e1 ?_
  repeat (any_goals (first | assumption | wp_step))
  exact ⟨_, rfl, hs⟩
set_option maxHeartbeats 2000000 in
theorem meets_getcontains (a : Addr) (xs : Array Value) (k : Nat) (sl : Array (Option Value)) (u : Tok) :
    Meets (Builtin.«object.__getattribute__» ⟨[.ref a, .str (PySem.Str.ofString "__contains__") u], []⟩) (fun _ R s => s.heap.get? a = some { cls := .type "list", dict := none, data := .seq xs k, slots := sl } ∧ ∀ n', R (.ok (.ret (.ref s.heap.objs.size))) { s with heap := s.heap.push (wrapObj a), toks := n' }) := by
  refine Meets.of_wp fun prog w A R s hs => ?_
  obtain ⟨hp, g, d, tk, os⟩ := s
  obtain ⟨hx, hs⟩ := hs
  have hT : ∀ tk', (⟨hp, g, d, tk', os⟩ : Shared).TypeIs (.ref a) "list" := fun _ => ⟨_, hx, rfl⟩
  have f6 := wd_look_contains
  have f7 := wd_type
  have f8 := wd_get
  have f9 := wd_set
  have f10 := wd_del
  have hname : (["__module__", "__name__", "__qualname__", "__doc__", "__annotations__"] : List Str).contains (PySem.Str.ofString "__contains__") = false := by decide +kernel
  unfold Builtin.«object.__getattribute__»
  repeat (any_goals (first | assumption | exact hT _ | wp_step))
  have key : codeAny (model prog w) A.in1 (.call (.builtin "wrapper_descriptor.__get__") ⟨[.builtin "list.__contains__", .ref a, .type "list"], []⟩) (wants (fun v s' => R (.ok (.ret v)) s') (fun e s' => R (.error e) s')) ⟨hp, g, d, tk, os⟩ :=
    codeAny_call_builtin slot_wd.plain entry_wd (slot_wd.check _ _ _ _ _ _ _ _ (by exact f7) (args_wd _ _ _) (meets_wd a prog w A.in1 (wants (fun v s' => R (.ok (.ret v)) s') (fun e s' => R (.error e) s')) _ ⟨hT tk, hs _⟩))
  refine codeAny_mono key ?_
  intro r s' hr
  rcases r with e | f
  · exact hr
  · cases f with
    | ret v => exact wpAny_pure ⟨_, rfl, hr⟩
    | _ => exact hr
set_option maxHeartbeats 2000000 in
theorem getattr_contains {prog : Program} {w : World} {A : Around} {E : Value → Shared → Prop} {s : Shared} {a : Addr} {o : Obj} {xs : Array Value} {k : Nat} {Q : Value → Shared → Prop} {ex : Bool}
    (hx : s.heap.get? a = some o) (hc : o.cls = .type "list") (hdat : o.data = .seq xs k) (hd : o.dict = none)
    (h : ∀ n', Q (.ref s.heap.objs.size) { s with heap := s.heap.push (wrapObj a), toks := n' }) :
    wpAny (model prog w) A (getAttr (.ref a) "__contains__" ex) Q E s := by
  obtain ⟨c, dct, dat, sl⟩ := o
  simp only at hc hdat hd
  subst hc hdat hd
  obtain ⟨hp, g, d, tk, os⟩ := s
  have hT : ∀ tk', (⟨hp, g, d, tk', os⟩ : Shared).TypeIs (.ref a) "list" := fun _ => ⟨_, hx, rfl⟩
  have f3 := F.slot_list_getattribute.lookup
  have f4 := F.slot_list_getattribute.bind (.ref a)
  have f5 := am_list_getattr_none
  have f6 := wd_look_contains
  have f7 := wd_type
  have f8 := wd_get
  have f9 := wd_set
  have f10 := wd_del
  unfold getAttr getAttrBy
  have hb : ¬ ((ex && onTheHeap (Value.builtin "list.__getattribute__")) = true) := by cases ex <;> (intro z; cases z)
  repeat (any_goals (first | assumption | exact hT _ | ((with_reducible show wpAny _ _ (call (Value.builtin "list.__getattribute__") _ _) _ _ _); refine call_meets F.slot_list_getattribute (hT _) am_entry_list_getattribute (F.args_list_getattribute_2 _ _) (meets_getcontains a xs k sl _) ⟨hx, fun n' => ?_⟩) | rw [if_neg hb] | wp_step))
  exact wpAny_pure (h _)
theorem check_contains (b : Addr) (x : Value) : checkBoundCall "list.__contains__" ⟨[.ref b, x], []⟩ = pure () := by first | kernel_rfl | rfl
theorem plain_contains : plainId "list.__contains__" = true := by decide +kernel
theorem call_contains {prog : Program} {w : World} {A : Around} {E : Value → Shared → Prop} {s : Shared} {q b : Addr} {us : Array Value} {x : Value} {e : Value → Bool} {dd : Option Addr} {n : Nat} {sl : Array (Option Value)} {Q : Value → Shared → Prop}
    (hq : s.heap.get? q = some (wrapObj b)) (hb : s.heap.get? b = some ⟨.type "list", dd, .seq us n, sl⟩) (he : ∀ A' y, y ∈ us → SeqAt.EqAt A' s y x (e y)) (h : Q (.bool (us.any e)) s) :
    wpAny (model prog w) A (call (.ref q) [x]) Q E s := by
  refine wpAny_call (codeAny_of_tree ?_)
  show wpAny _ A.in1 (callAny (.ref q) ⟨[x], []⟩) _ _ s
  simp only [callAny]
  refine wpAny_bind (wpAny_load hq ?_)
  simp only [wrapObj, show (Value.type "method-wrapper" == Value.type "method" || Value.type "method-wrapper" == Value.type "builtin_function_or_method" || Value.type "method-wrapper" == Value.type "method-wrapper") = true by decide, if_true]
  show wpAny _ _ (if (Value.type "method-wrapper" != Value.type "method") = true then (checkBoundCall "list.__contains__" ⟨[.ref b, x], []⟩ >>= fun _ => again (.builtin "list.__contains__" ⟨[.ref b, x], []⟩)) else _) _ _ _
  rw [if_pos (show (Value.type "method-wrapper" != Value.type "method") = true by decide)]
  refine wpAny_bind (wpAny_of_eq (a := ()) (check_contains b x) ?_)
  refine wpAny_bind (wpAny_pure (wpAny_pure ?_))
  refine ⟨plainId_quiet plain_contains _, codeAny_builtin F.entry_list_contains ?_⟩
  rw [Around.under_plainId plain_contains]
  exact SeqAt.list_containsAt b us n dd sl x e prog w A _ s ⟨hb, he _, h⟩
end
section
open PySem PySem.W PySem.Calls PyProof.Rows PySem.Spec Builtin
noncomputable abbrev liObj (a : Addr) (j : Nat) : Obj := { cls := .type "list_iterator", data := .fields #[.ref a, .int (j : Nat) 0] }
section
variable {prog : Program} {w : World} {A : Around} {E : Value → Shared → Prop} {s : Shared} {it l : Addr} {i : Nat} {items : Array Value} {x : Value} {Q : Value → Shared → Prop}
theorem next_li_item (hit : s.heap.IsListIter it l i) (hl : s.heap.IsList l items) (hx : items[i]? = some x)
    (hQ : ∀ h', h'.IsListIter it l (i + 1) → Heap.SameBut it s.heap h' → Q x { s with heap := h' }) :
    wpAny (model prog w) A (call (.builtin "next") [.ref it]) Q E s := by
  obtain ⟨o, ho, hc, hd⟩ := id hit
  obtain ⟨ol, hol, _, nl, hdl⟩ := hl
  refine call_function_entry (by decide +kernel) (by decide +kernel) kdk_entry_next (kdk_args_next _) ?_
  unfold Builtin.«next»
  refine wpAny_bind (m := someArgs "next" 1 2 _) (wpAny_of_eq (a := [Value.ref it]) (by first | rfl | kernel_rfl!) ?_)
  dsimp only
  refine wpAny_bind (wpAny_specialOf (name := Str.ofString "__next__") hit.typeIs slot_listiter_next.lookup ?_)
  refine wpAny_ite_split (fun hab => absurd hab (by decide)) (fun _ => ?_)
  refine wpAny_bind (wpAny_callSpecial?_slot (name := Str.ofString "__next__") hit.typeIs slot_listiter_next
    (wpAny_call_entry slot_listiter_next hit.typeIs entry_listiter_next ?_ (args_listiter_next _)))
  show wpAny _ _ (field (.ref it) 0 >>= _) _ _ s
  refine wpAny_bind (wpAny_field ho hd (x := .ref l) rfl ?_)
  show wpAny _ _ (if (Value.ref l == Value.none) = true then _ else _) _ _ s
  rw [if_neg (show ¬ ((Value.ref l == Value.none) = true) from Bool.false_ne_true)]
  show wpAny _ _ (field (.ref it) 1 >>= _) _ _ s
  refine wpAny_bind (wpAny_field ho hd (x := .int i 0) rfl ?_)
  show wpAny _ _ (seqItems? (.ref l) >>= _) _ _ s
  refine wpAny_bind (wpAny_seqItems hol hdl ?_)
  simp only [Int.toNat_natCast, hx]
  refine wpAny_bind (wpAny_setField ho hd (by simp) (wpAny_pure ⟨x, rfl, wpAny_pure ⟨_, rfl, hQ _ ?_ (Heap.SameBut.update ..)⟩⟩))
  exact ⟨_, Heap.get?_update_self _ ho (Obj.isFreed_of_fields (Obj.data_mapFields hd _)), (Obj.cls_mapFields ..).trans hc, by
    rw [Obj.data_mapFields hd]; simp [rawInt]⟩
theorem next_liK (ho : s.heap.get? it = some (liObj l i)) (hl : s.heap.IsList l items) (hx : items[i]? = some x)
    (hQ : ∀ h', h'.get? it = some (liObj l (i + 1)) → Heap.SameBut it s.heap h' → Q x { s with heap := h' }) :
    wpAny (model prog w) A (call (.builtin "next") [.ref it]) Q E s := by
  have hit : s.heap.IsListIter it l i := ⟨_, ho, rfl, rfl⟩
  have hd : (liObj l i).data = .fields #[.ref l, .int i 0] := rfl
  obtain ⟨ol, hol, _, nl, hdl⟩ := hl
  refine call_function_entry (by decide +kernel) (by decide +kernel) kdk_entry_next (kdk_args_next _) ?_
  unfold Builtin.«next»
  refine wpAny_bind (m := someArgs "next" 1 2 _) (wpAny_of_eq (a := [Value.ref it]) (by first | rfl | kernel_rfl!) ?_)
  dsimp only
  refine wpAny_bind (wpAny_specialOf (name := Str.ofString "__next__") hit.typeIs slot_listiter_next.lookup ?_)
  refine wpAny_ite_split (fun hab => absurd hab (by decide)) (fun _ => ?_)
  refine wpAny_bind (wpAny_callSpecial?_slot (name := Str.ofString "__next__") hit.typeIs slot_listiter_next
    (wpAny_call_entry slot_listiter_next hit.typeIs entry_listiter_next ?_ (args_listiter_next _)))
  show wpAny _ _ (field (.ref it) 0 >>= _) _ _ s
  refine wpAny_bind (wpAny_field ho hd (x := .ref l) rfl ?_)
  show wpAny _ _ (if (Value.ref l == Value.none) = true then _ else _) _ _ s
  rw [if_neg (show ¬ ((Value.ref l == Value.none) = true) from Bool.false_ne_true)]
  show wpAny _ _ (field (.ref it) 1 >>= _) _ _ s
  refine wpAny_bind (wpAny_field ho hd (x := .int i 0) rfl ?_)
  show wpAny _ _ (seqItems? (.ref l) >>= _) _ _ s
  refine wpAny_bind (wpAny_seqItems hol hdl ?_)
  simp only [Int.toNat_natCast, hx]
  refine wpAny_bind (wpAny_setField ho hd (by simp) (wpAny_pure ⟨x, rfl, wpAny_pure ⟨_, rfl, hQ _ ?_ (Heap.SameBut.update ..)⟩⟩))
  exact (Heap.get?_update_self _ ho (Obj.isFreed_of_fields (Obj.data_mapFields hd _))).trans (by first | rfl | (congr 1; simp [Obj.mapFields, rawInt]))
theorem next_li_end (hh : A.handled = none) (hit : s.heap.IsListIter it l i) (hl : s.heap.IsList l items) (hx : items[i]? = none)
    (hE : ∀ h₁ h' e, Heap.SameBut it s.heap h₁ → Heap.MadeExcOf h₁ h' e (.type "StopIteration") [] → E (.ref e) { s with heap := h' }) :
    wpAny (model prog w) A (call (.builtin "next") [.ref it]) Q E s := by
  obtain ⟨o, ho, hc, hd⟩ := id hit
  obtain ⟨ol, hol, _, nl, hdl⟩ := hl
  refine call_function_entry (by decide +kernel) (by decide +kernel) kdk_entry_next (kdk_args_next _) ?_
  unfold Builtin.«next»
  refine wpAny_bind (m := someArgs "next" 1 2 _) (wpAny_of_eq (a := [Value.ref it]) (by first | rfl | kernel_rfl!) ?_)
  dsimp only
  refine wpAny_bind (wpAny_specialOf (name := Str.ofString "__next__") hit.typeIs slot_listiter_next.lookup ?_)
  refine wpAny_ite_split (fun hab => absurd hab (by decide)) (fun _ => ?_)
  refine wpAny_bind (wpAny_callSpecial?_slot (name := Str.ofString "__next__") hit.typeIs slot_listiter_next
    (wpAny_call_entry slot_listiter_next hit.typeIs entry_listiter_next ?_ (args_listiter_next _)))
  show wpAny _ _ (field (.ref it) 0 >>= _) _ _ s
  refine wpAny_bind (wpAny_field ho hd (x := .ref l) rfl ?_)
  show wpAny _ _ (if (Value.ref l == Value.none) = true then _ else _) _ _ s
  rw [if_neg (show ¬ ((Value.ref l == Value.none) = true) from Bool.false_ne_true)]
  show wpAny _ _ (field (.ref it) 1 >>= _) _ _ s
  refine wpAny_bind (wpAny_field ho hd (x := .int i 0) rfl ?_)
  show wpAny _ _ (seqItems? (.ref l) >>= _) _ _ s
  refine wpAny_bind (wpAny_seqItems hol hdl ?_)
  simp only [Int.toNat_natCast, hx]
  refine wpAny_bind (wpAny_rule (wpAny_bind (wpAny_setField ho hd (by simp) ?_)))
  show wpAny _ _ (newExc (.type "StopIteration") [] >>= _) _ _ _
  refine wpAny_bind ?_
  simp only [newExc, newTuple]
  refine wpAny_bind (wpAny_newObj_type ?_ (by size_fits))
  refine wpAny_bind (m := firstArgMember _ _) (wpAny_of_eq (a := Value.none) (by first | rfl | (simp only [firstArgMember]; rfl)) ?_)
  refine wpAny_newObj_type ?_ (by size_fits)
  simp only [raiseNew]
  refine wpAny_bind (wpAny_handled ?_)
  rw [show A.in1.in1.handled = none from hh]
  refine wpAny_bind (wpAny_pure (wpAny_throw ?_))
  refine hE _ _ _ (Heap.SameBut.update ..) ⟨fun b o e => Heap.get?_push_of_some _ (Heap.get?_push_of_some _ e), ?_, ?_⟩
  · exact Heap.get?_none_of_le (by rw [Heap.size_push]; exact Nat.le_succ _)
  · refine ⟨_, Heap.get?_push_size _ rfl, Heap.get?_none_of_le (Nat.le_refl _), Heap.get?_push_of_some _ (Heap.get?_push_size _ rfl)⟩
end
end
section
section
variable {prog : Program} {w : World} {A₀ A : Around} {E : Value → Shared → Prop} {s : Shared} {base h₀ : Heap} {outer : List Env} {L : Addr} {m : PySem.Str → Option Value} {env : Env} {news : List (Addr × Obj)}
theorem code_free {K : Frag} {p : Program} {loose : List PySem.Str} {mean : ExcName → Option Value} {mg mb : PySem.Str → Option Value} {R : Result → Shared → Prop} {name qual : PySem.Str} {params : Arguments} {body : List Stmt} {scope : Scope} {dV kV doc pm cdv ct oc : Value} {an od : Option Addr} {osl : Array (Option Value)} {f : Addr} {args : Args} {binds : List (PySem.Str × Value)}
    (B : Below A₀ base outer h₀) (F : Fr h₀ L s.heap m) (X₀ : K.In h₀) (N : News h₀ L s.heap news) (T : Top p loose mean mg mb h₀) (hA : A.frames = some (env :: outer)) (hf : env.frame = some L) (hke : env.scope.kind = .function)
    (ho : K.lookup f = some ⟨oc, od, .func (fnOf name qual params body scope dV kV doc pm an cdv ct), osl⟩) (hcd : codeIn K cdv qual = true) (hroom : A.depth < recursionLimit)
    (hbind : BindsTo s (fnOf name qual params body scope dV kV doc pm an cdv ct) args binds) (hloc : ∀ y ∈ binds, scope.names.lookup y.1 = some .local)
    (h : ∀ g L' h₁, Fr h₀ L g m → Fr g L' h₁ (fun y => binds.reverse.lookup y) → News g L' h₁ news → Below A base (env :: outer) g → K.In g → Top p loose mean mg mb g → GSub s.heap g (news.map (·.1)) →
      wpAny (model prog w) (A.deeper (envOf qual scope L' f cdv)) (execs body (envOf qual scope L' f cdv))
        (fun fl s' => R (.ok (.ret (match fl with | .ret v => v | _ => .none))) s')
        (fun e s' => wpAny (model prog w) (A.deeper (envOf qual scope L' f cdv)) (leaving (envOf qual scope L' f cdv) e) (fun _ s'' => R (.error e) s'') (fun e' s'' => R (.error e') s'') s')
        { s with heap := h₁, toks := s.toks + binds.length })
    (hco : scope.isCoroutine = false) (hgen : scope.isGenerator = false) (hk : scope.kind = .function)
    (hcell : ∀ x ∈ scope.names, x.2 ≠ .cell) : codeAny (model prog w) A (.call (.ref f) args) R s := by
  obtain ⟨FG, BG, st, lv⟩ := groundX (R := R) B F N hA hf hke
  refine codeAny_call_def (fd := fnX name qual params body scope [] dV kV doc pm an cdv ct) (body := body) (binds := binds) hroom ((X₀.keeps F.keep) _ _ ho) rfl (T.nolimit.keeps F.keep) (codeRec_of (X₀.keeps F.keep) hcd) rfl hbind hcell hloc (fun h₁ hns hk₁ => ?_) hco hgen hk
  exact h _ s.heap.objs.size h₁ FG ⟨hns, fun b o e => hk₁ b o (of_hideAll _ e), Nat.le_of_eq (hideAll_size _ _)⟩
    (fun p hp => ⟨hk₁ _ _ (N p hp).1, Nat.ne_of_lt (Heap.lt_size (N p hp).1), hideAll_none _ (List.mem_map_of_mem hp)⟩) BG (X₀.keeps st) (T.keeps st) (fun b o e n => hideAll_get _ e n)
end
section
variable {M : Model} {A : Around} {E : Value → Shared → Prop} {s' : Shared} {base g h : Heap} {outer : List Env} {L a e : Addr} {m : PySem.Str → Option Value} {name : PySem.Str} {scope : Scope} {cd : Value} {Q : Unit → Shared → Prop}
theorem leave_stop {cls : Value} {vs : List Value} (K : Below A base outer g) (F : Fr g L h m) (hx : Heap.MadeExcOf h s'.heap e cls vs)
    (hQ : ∀ h', (hideAll h ((envOf name scope L a cd :: outer).filterMap (·.frame))).StaysIn h' → h.UpToSlots h' → (∃ ob, h'.get? e = some ob ∧ ob.cls = cls) → Q () { s' with heap := h' }) (hk : scope.kind = .function := by rfl) :
    wpAny M (A.deeper (envOf name scope L a cd)) (leaving (envOf name scope L a cd) (.ref e)) Q E s' := by
  have K' := K.push (name := name) (a := a) (cd := cd) F hk
  have hin : ∀ env ∈ (envOf name scope L a cd :: outer), ∀ b, env.frame = some b → b ∈ (envOf name scope L a cd :: outer).filterMap (·.frame) := fun env he b hb => List.mem_filterMap.mpr ⟨env, he, hb⟩
  exact wpAny_leaves_madeW K'.stack rfl (fun b o q => of_hideAll _ q) (funFrames_hide K'.frames hin) hx fun h' t x1 x2 x3 x4 =>
    hQ h' x1.1 ((Heap.UpToSlots.of_keeps hx.keeps).trans x4) x1.there
end
section
variable {prog : Program} {w : World} {A : Around} {E : Value → Shared → Prop} {s : Shared} {l : Addr} {items : Array Value} {Q : Value → Shared → Prop}
theorem iter_list (hl : s.heap.IsList l items)
    (h : Q (.ref s.heap.objs.size) { s with heap := s.heap.push { cls := .type "list_iterator", data := .fields #[.ref l, .int 0 0] } }) :
    wpAny (model prog w) A (call (.builtin "iter") [.ref l]) Q E s := by
  refine call_function_entry (by decide +kernel) (by decide +kernel) kdk_entry_iter (kdk_args_iter _) ?_
  unfold Builtin.«iter»
  refine wpAny_bind (m := someArgs "iter" 1 2 _) (wpAny_of_eq (a := [Value.ref l]) (by first | rfl | kernel_rfl!) ?_)
  show wpAny _ _ (pyIter (.ref l) >>= _) _ _ _
  refine wpAny_bind (wpAny_pyIter_list hl ?_)
  exact wpAny_pure ⟨_, rfl, h⟩
theorem iter_listK {h₀ : Heap} {L : Addr} {m : PySem.Str → Option Value} {news : List (Addr × Obj)} (hl : s.heap.IsList l items) (F : Fr h₀ L s.heap m) (N : News h₀ L s.heap news)
    (h : ∀ (I : Addr) (h' : Heap), Fr h₀ L h' m → News h₀ L h' ((I, { cls := .type "list_iterator", data := .fields #[.ref l, .int 0 0] }) :: news) → (∀ p ∈ news, p.1 < I) → Q (.ref I) { s with heap := h' }) :
    wpAny (model prog w) A (call (.builtin "iter") [.ref l]) Q E s :=
  iter_list hl (h _ _ (F.push _) (News.push F N _ rfl) (fun q hq => Heap.lt_size (N q hq).1))
end
end
section
example : True := by
  k_with_none
  (k_with "sp enter" => ((w_top off; have hfill : PySem.Challenge.rw_kq0048_01 = PySem.Challenge.rw_kq0048_01 ∧ hd.heap_39 = hd.heap_39 := by (k_fill; exact ⟨rfl, rfl⟩)); clear hfill; k_dflt (refine call_here (by assumption) (by assumption) (by assumption) (by k_is) (by k_is) (by (intro X9; first | exact BindsTo.of_eq rfl | exact binds_K (by assumption) rfl (by k_is) rfl rfl rfl)) (by exact locs rfl) ?_ (by exact rfl) (by exact rfl) (by exact rfl) (by decide)); k_whole; intro dp' un' gd' env' outer' mean' mg' mb' base' g' L' h' hdp' hun' kG' F' N' B' X' T'; (try dsimp only); (try k_fold)))
  (k_with "SpDone" => ((refine SpDone.intro (by k_asm) ?_); intro st9))
  (k_with "call type:type" => (k_here; (with_reducible show wpAny _ _ (call _ [Value.bytes _ _]) _ _ _); refine call_type_of (Tx := "bytes") rfl (by decide +kernel) ?_))
  (k_with "sp kept" => (intro t9 h9 tk9 st9; (try dsimp only at st9); rename Fr _ _ _ _ => kF; rename News _ _ _ _ => kN; (k_dflt (have kF' := Fr.keeps kF st9)); (k_dflt (have kN' := News.grown kN st9)); clear kF kN st9))
  (k_with "sp here" => k_dflt (exact Here.mk (by k_asm) (by k_asm) (by k_asm) (by k_asm) rfl rfl rfl rfl))
  (k_with "sp and" => first | with_reducible assumption | with_reducible exact Ne.symm (by assumption) | with_reducible exact Nat.ne_of_gt (by assumption) | with_reducible exact Nat.ne_of_lt (by assumption) | (simp only [ne_eq, not_false_eq_true, *]; done) | (apply Ne.symm; simp only [ne_eq, not_false_eq_true, *]; done))
  (k_with "sp sub" => first | with_reducible exact sub_0 _ | with_reducible exact sub_1 _ _ | with_reducible exact sub_2 _ _ _ | with_reducible exact sub_3 _ _ _ _ | with_reducible exact sub_4 _ _ _ _ _ | with_reducible exact sub_5 _ _ _ _ _ _)
  trivial
theorem news_down {g g2 h h' : Heap} {L L2 : Addr} {led led' : List (Addr × Obj)} (N : News g L h led) (N2 : News g2 L2 h' led') (hm : led'.map (·.1) = led.map (·.1)) : News g L h' led' := by
  intro p hp
  have h1 : p.1 ∈ led.map (·.1) := hm ▸ List.mem_map_of_mem hp
  obtain ⟨p', hp', e⟩ := List.mem_map.mp h1
  have := N p' hp'
  rw [e] at this
  exact ⟨(N2 p hp).1, this.2⟩
noncomputable def Stop (P : Prop) : Prop := P
theorem Stop.on {P : Prop} (h : Stop P) : P := h
example : True := by
  (k_with "exec While" => (k_here; refine Stop.on ?_))
  trivial
noncomputable def WrapAt (q b : Addr) (h : Heap) : Prop := h.get? q = some (wrapObj b)
theorem wrap_of {g h : Heap} {L q b : Addr} {news : List (Addr × Obj)} (N : News g L h news) (hm : (q, wrapObj b) ∈ news) : WrapAt q b h := (N _ hm).1
theorem callWith_W {prog : Program} {w : World} {A : Around} {E : Value → Shared → Prop} {s : Shared} {env : Env} {pos : Pos} {first : List Value} {Q : Value → Shared → Prop} {g : Heap} {L q b : Addr} {news : List (Addr × Obj)} {e : Expr} {rest : List Expr} (_N : News g L s.heap news) (_hm : (q, wrapObj b) ∈ news)
    (h : wpAny (model prog w) A (spliced (backTo pos (starEach (e :: rest) env))) (fun vs s₁ => WrapAt q b s₁.heap ∧ wpAny (model prog w) A (call (.ref q) (first ++ vs)) Q E s₁) E s)
    (he : starEach (e :: rest) env = (false, eval e env) :: starEach rest env := by rfl) (hplain : (backTo pos (starEach rest env)).any (·.1) = false := by rfl) :
    wpAny (model prog w) A (callWith pos (.ref q) first (backTo pos (starEach (e :: rest) env)) []) Q E s := by
  rw [he] at h ⊢
  exact callWith_of (by show ((false || (backTo pos (starEach rest env)).any (·.1)) || false) = false; rw [hplain]; rfl) (P := WrapAt q b) (fun h X => ⟨.machine, .inr (.inl rfl), (Looks.ld (part := none) X).andThen .now⟩) (evalArgs_plain h)
example : True := by
  (k_with "callWith ref" => (k_here; k_dflt (refine callWith_W (by k_asm) (by k_mem) ?_); k_whole))
  (k_with "And" => ((with_reducible show WrapAt _ _ _ ∧ _); k_dflt (refine ⟨wrap_of (by k_asm) (by k_mem), ?_⟩); try dsimp only [List.nil_append, List.cons_append]))
  (k_with "WrapAt" => (k_dflt (exact wrap_of (by k_asm) (by k_mem))))
  trivial
theorem fr_two {g h : Heap} {L : Addr} {n : PySem.Str} {a b : Option Value} {m : PySem.Str → Option Value} (F : Fr g L h (fun y => if y = n then a else if y = n then b else m y)) : Fr g L h (fun y => if y = n then a else m y) := by
  have e : (fun y => if y = n then a else if y = n then b else m y) = (fun y => if y = n then a else m y) := by
    funext y
    by_cases hy : y = n
    · rw [if_pos hy, if_pos hy]
    · rw [if_neg hy, if_neg hy, if_neg hy]
  exact e ▸ F
theorem fr_but {g h h' : Heap} {L it : Addr} {m : PySem.Str → Option Value} (F : Fr g L h m) (n : it ≠ L) (hn : g.get? it = none) (hs : Heap.SameBut it h h') : Fr g L h' m := by
  obtain ⟨oL, es, ep, hL, r⟩ := F.ns
  refine ⟨⟨oL, es, ep, (hs.2 L (Ne.symm n)).trans hL, r⟩, fun b o e => (hs.2 b ?_).trans (F.keep b o e), F.above⟩
  intro hb; rw [hb, hn] at e; cases e
theorem news_but {g h h' : Heap} {L it : Addr} {pre post : List (Addr × Obj)} {o o' : Obj} (N : News g L h (pre ++ (it, o) :: post)) (hs : Heap.SameBut it h h') (ho : h'.get? it = some o') (h1 : ∀ p ∈ pre, p.1 ≠ it) (h2 : ∀ p ∈ post, p.1 ≠ it) :
    News g L h' (pre ++ (it, o') :: post) := by
  intro p hp
  rcases List.mem_append.mp hp with hp | hp
  · have := N p (List.mem_append_left _ hp)
    exact ⟨(hs.2 _ (h1 p hp)).trans this.1, this.2⟩
  · rcases List.mem_cons.mp hp with rfl | hp
    · exact ⟨ho, (N (it, o) (by simp)).2⟩
    · have := N p (List.mem_append_right _ (List.mem_cons_of_mem _ hp))
      exact ⟨(hs.2 _ (h2 p hp)).trans this.1, this.2⟩
noncomputable def FfStep (h₀ : Heap) (L : Addr) (s : Shared) (led : Nat → List (Addr × Obj)) (pass : Prop) (j' : Nat) (m1 : PySem.Str → Option Value) (Q : Flow → Shared → Prop) (f : Flow) (s₃ : Shared) : Prop :=
  match f with
  | .next | .cont => ∃ h' tk u, s₃ = { s with heap := h', toks := tk } ∧ Fr h₀ L h' (fun y => if y = Str.ofString "item" then u else m1 y) ∧ News h₀ L h' (led (j' + 1)) ∧ pass
  | .brk => Q .next s₃
  | .ret v => Q (.ret v) s₃
theorem While_ff {prog : Program} {w : World} {A : Around} {E : Value → Shared → Prop} {Q : Flow → Shared → Prop} {s : Shared} {env : Env} {h₀ : Heap} {L : Addr} {test : Expr} {body : List Stmt} {pos : Pos} {m1 : PySem.Str → Option Value}
    (led : Nat → List (Addr × Obj)) (p : Nat → Bool) (len j : Nat) (hjl : j ≤ len)
    (F : Fr h₀ L s.heap m1) (N : News h₀ L s.heap (led j))
    (turn : ∀ j' u h₁ tk₁, j ≤ j' → j' ≤ len → (∀ i, j ≤ i → i < j' → p i = true) → Fr h₀ L h₁ (fun y => if y = Str.ofString "item" then u else m1 y) → News h₀ L h₁ (led j') →
      wpAny (model prog w) A (isTrue test env (eval test env)) (fun b s₂ =>
        if b = true then wpAny (model prog w) A (execs body env) (FfStep h₀ L s led (j' < len ∧ p j' = true) j' m1 Q) E s₂ else Q .next s₂) E { s with heap := h₁, toks := tk₁ })
    (hE : PassesOwn (model prog w) A env E) :
    wpAny (model prog w) A (exec (.While test body [] pos) env) Q E s := by
  refine While_inv2 (n₀ := len - j) (fun n m₂ news₂ => ∃ (j' : Nat) (u : Option Value), j ≤ j' ∧ j' ≤ len ∧ n = len - j' ∧ (∀ i, j ≤ i → i < j' → p i = true) ∧ m₂ = (fun y => if y = Str.ofString "item" then u else m1 y) ∧ news₂ = led j') F N ?_ ?_ hE
  · refine ⟨j, m1 (Str.ofString "item"), Nat.le_refl _, hjl, rfl, fun i h1 h2 => absurd h2 (by omega), ?_, rfl⟩
    funext y
    by_cases hy : y = Str.ofString "item"
    · rw [if_pos hy, hy]
    · rw [if_neg hy]
  · rintro n m₂ news₂ h₂ tk₂ F1 N1 ⟨j', u, hj, hjl', rfl, hall, rfl, rfl⟩
    refine wpAny_mono (turn j' u h₂ tk₂ hj hjl' hall F1 N1) (fun bb s₂ hs => ?_) fun _ _ z => z
    cases bb with
    | false => exact hs
    | true =>
      simp only [if_true] at hs ⊢
      refine wpAny_mono hs (fun f s₃ h₃ => ?_) fun _ _ z => z
      have go : (∃ h' tk u, s₃ = { s with heap := h', toks := tk } ∧ Fr h₀ L h' (fun y => if y = Str.ofString "item" then u else m1 y) ∧ News h₀ L h' (led (j' + 1)) ∧ (j' < len ∧ p j' = true)) →
          ∃ h' tk m₂ news₂ n', s₃ = { s with heap := h', toks := tk } ∧ Fr h₀ L h' m₂ ∧ News h₀ L h' news₂ ∧ n' < len - j' ∧ ∃ (j₂ : Nat) (u : Option Value), j ≤ j₂ ∧ j₂ ≤ len ∧ n' = len - j₂ ∧ (∀ i, j ≤ i → i < j₂ → p i = true) ∧ m₂ = (fun y => if y = Str.ofString "item" then u else m1 y) ∧ news₂ = led j₂ := by
        rintro ⟨h', tk, u', rfl, F2, N2, hp1, hp2⟩
        refine ⟨h', tk, _, _, len - (j' + 1), rfl, F2, N2, by omega, j' + 1, u', by omega, hp1, rfl, fun i h1 h2 => ?_, rfl, rfl⟩
        by_cases hi : i = j'
        · rw [hi]; exact hp2
        · exact hall i h1 (by omega)
      cases f with
      | next => exact go h₃
      | cont => exact go h₃
      | brk => exact h₃
      | ret v => exact h₃
set_option maxHeartbeats 1000000 in
theorem next_ff {w : World} {A A₀ : Around} {s : Shared} {R : Result → Shared → Prop} {a b S it x d q : Addr} {vs us : List Value} {na nb c j : Nat} {sl sla : Array (Option Value)} {acc : Array Value} {eq : Value → Value → Bool}
    {base g : Heap} {outer : List Env} {L : Addr} {m : PySem.Str → Option Value} {env : Env} {mean : ExcName → Option Value} {mg mb : PySem.Str → Option Value}
    (B : Below A₀ base outer g) (F : Fr g L s.heap m) (X₀ : (hd.heap_39 w.params).In g) (T : Top topProg lse mean mg mb g) (hA : A.frames = some (env :: outer)) (hf : env.frame = some L) (hke : env.scope.kind = .function) (hh : A.handled = none)
    (N : News g L s.heap [(S, ⟨.type "list", none, .seq acc c, #[]⟩), (it, liObj a j), (x, { cls := .ref 71, dict := some d, slots := #[some (.ref q), some (.ref it)] }), (d, dictOf [] 0), (q, wrapObj b)])
    (l1 : q < d) (l2 : d < x) (l3 : x < it) (l4 : it < S)
    (ha : g.get? a = some ⟨.type "list", none, .seq vs.toArray na, sla⟩) (hb : g.get? b = some ⟨.type "list", none, .seq us.toArray nb, sl⟩)
    (hjl : j ≤ vs.length) (he : ∀ A' (s' : Shared) y v, y ∈ us → v ∈ vs → SeqAt.EqAt A' s' y v (eq y v)) 
    (hitem : ∀ k v, j ≤ k → vs[k]? = some v → us.any (eq · v) = false → (∀ i, j ≤ i → i < k → (match vs[i]? with | some v => us.any (eq · v) | none => true) = true) → ∀ h' tk', Fr g L h' m →
      News g L h' [(S, ⟨.type "list", none, .seq acc c, #[]⟩), (it, liObj a (k + 1)), (x, { cls := .ref 71, dict := some d, slots := #[some (.ref q), some (.ref it)] }), (d, dictOf [] 0), (q, wrapObj b)] → R (.ok (.ret v)) { s with heap := h', toks := tk' })
    (hend : (∀ i, j ≤ i → i < vs.length → (match vs[i]? with | some v => us.any (eq · v) | none => true) = true) → ∀ h' tk' ex, (∀ b o, b ∉ (env :: outer).filterMap (·.frame) → b ≠ it → s.heap.get? b = some o → h'.get? b = some o) → s.heap.UpToSlots h' →
      (∃ ob, h'.get? ex = some ob ∧ ob.cls = .type "StopIteration") → R (.error (.ref ex)) { s with heap := h', toks := tk' })
    (hdp : A.depth + (1 + 1) < recursionLimit) :
    codeAny (model prg w) A (.call (.ref 67) ⟨[.ref x], []⟩) R s := by
  (w_top off; have hfill : PySem.Challenge.rw_kq0048_01 = PySem.Challenge.rw_kq0048_01 ∧ hd.heap_39 = hd.heap_39 := by (k_fill; exact ⟨rfl, rfl⟩))
  clear hfill
  obtain ⟨hd1, dp', fr', gd', un'⟩ := A
  dsimp only at hA hh hdp
  subst hA hh
  have XS := X₀.keeps F.keep
  k_dflt (refine' code_free B F X₀ N T rfl hf hke ?k6 ?k7 ?k8 ?k9 ?kB ?_ ?c2 ?c3 ?c4 ?c5)
  case k6 => k_is
  case k7 => k_is
  case k8 => (show dp' < recursionLimit; omega)
  case k9 => first | exact BindsTo.of_eq rfl | exact binds_K (by assumption) rfl (by k_is) rfl rfl rfl
  case c5 => decide
  case kB => exact locs rfl
  case c2 => exact rfl
  case c3 => exact rfl
  case c4 => exact rfl
  intro g' L' h' FG F' N' B' X' T' kG'
  have hag : g'.get? a = some _ := FG.keep _ _ ha
  have hbg : g'.get? b = some _ := FG.keep _ _ hb
  k_steps
  rename Fr g' _ _ _ => F1
  rename News g' _ _ _ => N1
  unfold Stop
  k_dflt (refine' While_ff (fun j => [(S, ⟨.type "list", none, .seq acc c, #[]⟩), (it, liObj a j), (x, { cls := .ref 71, dict := some d, slots := #[some (.ref q), some (.ref it)] }), (d, dictOf [] 0), (q, wrapObj b)]) (fun i => match vs[i]? with | some v => us.any (eq · v) | none => true) vs.length j hjl F1 N1 ?_ ?c2)
  case c2 => passes_own
  clear F1 N1
  intro j' u h₂ tk₂ hj hjl' hall F1 N1
  k_steps
  rename Fr g' _ _ _ => F1
  rename News g' _ _ _ => N1
  by_cases hlt : j' < vs.length
  · have hx : vs.toArray[j']? = some vs[j'] := by simp [hlt]
    refine' next_liK (l := a) (i := j') (items := vs.toArray) (N1 (it, liObj a j') (by simp)).1 ⟨_, F1.keep _ _ hag, rfl, _, rfl⟩ hx _
    intro h₃ hit hsb
    have F2 : Fr g' L' h₃ _ := fr_but F1 (N1 (it, liObj a j') (by simp)).2.1 (N1 (it, liObj a j') (by simp)).2.2 hsb
    have N2 : News g' L' h₃ [(S, ⟨.type "list", none, .seq acc c, #[]⟩), (it, liObj a (j' + 1)), (x, { cls := .ref 71, dict := some d, slots := #[some (.ref q), some (.ref it)] }), (d, dictOf [] 0), (q, wrapObj b)] :=
      news_but (pre := [(S, ⟨.type "list", none, .seq acc c, #[]⟩)]) N1 hsb hit (by intro p hp; simp at hp; rw [hp]; exact Nat.ne_of_gt l4) (by intro p hp; simp at hp; rcases hp with rfl | rfl | rfl <;> first | exact Nat.ne_of_lt l3 | exact Nat.ne_of_lt (Nat.lt_trans l2 l3) | exact Nat.ne_of_lt (Nat.lt_trans l1 (Nat.lt_trans l2 l3)))
    clear F1 N1
    k_steps
    rename Fr g' _ _ _ => F1
    rename News g' _ _ _ => N1
    refine' call_contains (N1 (q, wrapObj b) (by simp)).1 (F1.keep _ _ hbg) (fun A' y hy => he A' _ y _ (by simpa using hy) (by simp)) _
    have hany : us.toArray.any (fun y => eq y vs[j']) = us.any (fun y => eq y vs[j']) := by simp
    rw [hany]
    cases hv : us.any (fun y => eq y vs[j'])
    · k_steps
      rename Fr g' _ _ _ => F1
      rename News g' _ _ _ => N1
      exact hitem j' _ hj (by simp) hv hall _ _ (FG.keeps F1.keep) (news_down N N1 rfl)
    · k_steps
      rename Fr g' _ _ _ => F1
      rename News g' _ _ _ => N1
      exact ⟨_, _, _, rfl, fr_two F1, N1, hlt, by simp [hlt, hv]⟩
  · have hx : vs.toArray[j']? = none := by simp; omega
    have hj2 : j' = vs.length := by omega
    refine' next_li_end (l := a) (i := j') (items := vs.toArray) rfl ⟨_, (N1 (it, liObj a j') (by simp)).1, rfl, rfl⟩ ⟨_, F1.keep _ _ hag, rfl, _, rfl⟩ hx _
    intro h₁ h₄ ex hsb hmade
    have F2 : Fr g' L' h₁ _ := fr_but F1 (N1 (it, liObj a j') (by simp)).2.1 (N1 (it, liObj a j') (by simp)).2.2 hsb
    have K1 : ∀ y o, y ≠ it → s.heap.get? y = some o → h₁.get? y = some o := by
      intro y o hy ho
      rw [hsb.2 y hy]
      by_cases hm : y ∈ List.map (fun x => x.fst) [(S, (⟨.type "list", none, .seq acc c, #[]⟩ : Obj)), (it, liObj a j), (x, { cls := .ref 71, dict := some d, slots := #[some (.ref q), some (.ref it)] }), (d, dictOf [] 0), (q, wrapObj b)]
      · obtain ⟨p, hp, rfl⟩ := List.mem_map.mp hm
        rw [(N p hp).1] at ho
        cases ho
        refine (N1 p ?_).1
        simp only [List.mem_cons, List.not_mem_nil, or_false] at hp ⊢
        rcases hp with rfl | rfl | rfl | rfl | rfl
        · exact .inl rfl
        · exact absurd rfl hy
        · exact .inr (.inr (.inl rfl))
        · exact .inr (.inr (.inr (.inl rfl)))
        · exact .inr (.inr (.inr (.inr rfl)))
      · exact F1.keep _ _ (kG' _ _ ho hm)
    refine' leave_stop B' F2 hmade _
    intro h₅ hst hup hcl
    refine' hend (fun i h1 h2 => hall i h1 (by omega)) _ _ _ (fun y o hn hy ho => hst y o (hideAll_get _ (K1 y o hy ho) _)) (fun y o ho hd => _) hcl
    · intro hm
      simp only [List.filterMap_cons, envOf] at hm
      rcases List.mem_cons.mp hm with h | h
      · subst h
        by_cases hm : y ∈ List.map (fun x => x.fst) [(S, (⟨.type "list", none, .seq acc c, #[]⟩ : Obj)), (it, liObj a j), (x, { cls := .ref 71, dict := some d, slots := #[some (.ref q), some (.ref it)] }), (d, dictOf [] 0), (q, wrapObj b)]
        · obtain ⟨p, hp, e⟩ := List.mem_map.mp hm
          simp only [List.mem_cons, List.not_mem_nil, or_false] at hp
          rcases hp with rfl | rfl | rfl | rfl | rfl
          · exact (N1 (S, ⟨.type "list", none, .seq acc c, #[]⟩) (by simp)).2.1 e
          · exact (N1 (it, liObj a j') (by simp)).2.1 e
          · exact (N1 (x, { cls := .ref 71, dict := some d, slots := #[some (.ref q), some (.ref it)] }) (by simp)).2.1 e
          · exact (N1 (d, dictOf [] 0) (by simp)).2.1 e
          · exact (N1 (q, wrapObj b) (by simp)).2.1 e
        · exact absurd (Nat.lt_of_lt_of_le (Heap.lt_size (kG' _ _ ho hm)) F1.above) (Nat.lt_irrefl _)
      · exact hn (by simpa [List.filterMap_cons] using h)
    · by_cases hy : y = it
      · rw [hy, (N (it, liObj a j) (by simp)).1] at ho
        cases ho
        exact absurd rfl (hd _)
      · exact hup y o (K1 y o hy ho) hd
end
section
theorem drop_pass {α : Type} (p : α → Bool) : ∀ (vs : List α) (j k : Nat) (v : α), j ≤ k → vs[k]? = some v → p v = true → (∀ i, j ≤ i → i < k → ∀ u, vs[i]? = some u → p u = false) → (vs.drop j).filter p = v :: (vs.drop (k + 1)).filter p := by
  intro vs j k v hj hk hv hn
  induction hd : k - j generalizing j with
  | zero =>
    have : j = k := by omega
    subst this
    obtain ⟨hlt, rfl⟩ := List.getElem?_eq_some_iff.mp hk
    rw [List.drop_eq_getElem_cons hlt, List.filter_cons_of_pos hv]
  | succ n ih =>
    have hlt : j < vs.length := by
      obtain ⟨hlt, _⟩ := List.getElem?_eq_some_iff.mp hk
      omega
    rw [List.drop_eq_getElem_cons hlt, List.filter_cons_of_neg (by rw [hn j (Nat.le_refl _) (by omega) vs[j] (by simp [hlt])]; decide)]
    exact ih (j + 1) (by omega) (fun i h1 h2 => hn i (by omega) h2) (by omega)
theorem drop_none {α : Type} (p : α → Bool) : ∀ (vs : List α) (j : Nat), (∀ i, j ≤ i → i < vs.length → ∀ u, vs[i]? = some u → p u = false) → (vs.drop j).filter p = [] := by
  intro vs j hn
  rw [List.filter_eq_nil_iff]
  intro a ha
  obtain ⟨i, hi, e⟩ := List.mem_iff_getElem.mp ha
  rw [List.getElem_drop] at e
  have hl : j + i < vs.length := by simp at hi; omega
  rw [hn (j + i) (by omega) hl a (by simp [hl, e])]
  decide
section
variable {w : World} {A A₀ : Around} {R : Result → Shared → Prop} {a b S it x d q : Addr} {vs us : List Value} {na nb : Nat} {sl sla : Array (Option Value)} {eq : Value → Value → Bool}
    {base g : Heap} {outer : List Env} {L : Addr} {m : PySem.Str → Option Value} {env : Env} {mean : ExcName → Option Value} {mg mb : PySem.Str → Option Value}
theorem not_frame (B : Below A₀ base outer g) (hf : env.frame = some L) {y : Addr} (h1 : g.get? y = none) (h2 : y ≠ L) : y ∉ (env :: outer).filterMap (·.frame) := by
  intro hm
  rw [List.filterMap_cons, hf] at hm
  rcases List.mem_cons.mp hm with e | hm
  · exact h2 e
  · obtain ⟨_, o, ho, _⟩ := B.frames.mem hm
    rw [h1] at ho; cases ho
set_option maxHeartbeats 1000000 in
theorem loop_ff (s₀ : Shared) (res : Value)
    (B : Below A₀ base outer g) (X₀ : (hd.heap_39 w.params).In g) (T : Top topProg lse mean mg mb g) (hA : A.frames = some (env :: outer)) (hf : env.frame = some L) (hke : env.scope.kind = .function) (hh : A.handled = none)
    (l1 : q < d) (l2 : d < x) (l3 : x < it) (l4 : it < S)
    (ha : g.get? a = some ⟨.type "list", none, .seq vs.toArray na, sla⟩) (hb : g.get? b = some ⟨.type "list", none, .seq us.toArray nb, sl⟩) (hvs : vs.length ≤ 1000)
    (he : ∀ A' (s' : Shared) y v, y ∈ us → v ∈ vs → SeqAt.EqAt A' s' y v (eq y v)) (hdp : A.depth + (1 + 1) < recursionLimit) :
    ∀ (k j : Nat) (acc : Array Value) (c : Nat) (h : Heap) (tk : Nat), vs.length - j = k → j ≤ vs.length → acc.size ≤ j → Fr g L h m →
      News g L h [(S, ⟨.type "list", none, .seq acc c, #[]⟩), (it, liObj a j), (x, { cls := .ref 71, dict := some d, slots := #[some (.ref q), some (.ref it)] }), (d, dictOf [] 0), (q, wrapObj b)] →
      (∀ h' tk' c', (∀ y o, y ∉ (env :: outer).filterMap (·.frame) → g.get? y = some o → h'.get? y = some o) → (∀ y o, g.get? y = some o → (∀ vs, o.data ≠ .fields vs) → ∃ sl, h'.get? y = some { o with slots := sl }) →
        h'.get? S = some ⟨.type "list", none, .seq (acc.toList ++ (vs.drop j).filter (fun v => !us.any (eq · v))).toArray c', #[]⟩ → R (.ok (.ret res)) { s₀ with heap := h', toks := tk' }) →
      codeAny (model prg w) A (.builtin "list.extend.loop" ⟨[.ref S, .ref x, res], []⟩) R { s₀ with heap := h, toks := tk } := by
  (w_top off; have hfill : PySem.Challenge.rw_kq0048_01 = PySem.Challenge.rw_kq0048_01 ∧ hd.heap_39 = hd.heap_39 := by (k_fill; exact ⟨rfl, rfl⟩))
  clear hfill
  intro k
  induction k using Nat.strongRecOn with
  | ind k ih =>
    intro j acc c h tk hk hj hacc FR N hR
    refine codeAny_builtin F.entry_extend_loop ?_
    rw [Around.under_plainId F.plain_extend_loop _]
    show wpAny _ A.in1 (pyNext (.ref x) >>= _) _ _ _
    refine wpAny_bind ?_
    refine owit_next FR X₀ (InstAt.of_news (C := 71) (dx := d) (od := dictOf [] 0) (sl := #[some (.ref q), some (.ref it)]) N (by simp) (by simp)) (f := 67) (by k_is) (by k_is) ?_
    refine wpAny_call ?_
    refine next_ff (A := A.in1) B FR X₀ T hA hf hke hh N l1 l2 l3 l4 ha hb hj he ?_ ?_ hdp
    · intro k' v hjk hv hany hall h' tk' F' N'
      have hlt : k' < vs.length := (List.getElem?_eq_some_iff.mp hv).1
      show wpAny _ A.in1 (updateSeq S (·.push v) >>= _) _ _ _
      have hS' := (N' (S, ⟨.type "list", none, .seq acc c, #[]⟩) (by simp)).1
      refine wpAny_bind ?_
      refine wpAny_updateSeq hS' rfl (wpAny_pure ⟨plainId_quiet F.plain_extend_loop _, ?_⟩) (by have := sizeLine_eq; omega) (by have := sizeLine_eq; show (acc.push v).size ≤ sizeLine + 1; rw [Array.size_push]; omega)
      have hsb : Heap.SameBut S h' (h'.update S (Obj.mapSeq (·.push v))) := Heap.SameBut.update ..
      have hS2 := Heap.get?_update_self (Obj.mapSeq (·.push v)) hS' rfl
      have hn := (N' (S, ⟨.type "list", none, .seq acc c, #[]⟩) (by simp)).2
      have F2 := fr_but F' hn.1 hn.2 hsb
      have N2 := news_but (pre := []) N' hsb hS2 (fun p hp => absurd hp (by simp)) (by
        intro p hp
        simp only [List.mem_cons, List.not_mem_nil, or_false] at hp
        rcases hp with rfl | rfl | rfl | rfl
        · exact Nat.ne_of_lt l4
        · exact Nat.ne_of_lt (Nat.lt_trans l3 l4)
        · exact Nat.ne_of_lt (Nat.lt_trans l2 (Nat.lt_trans l3 l4))
        · exact Nat.ne_of_lt (Nat.lt_trans l1 (Nat.lt_trans l2 (Nat.lt_trans l3 l4))))
      have hl := drop_pass (fun v => !us.any (eq · v)) vs j k' v hjk hv (by simp [hany]) (fun i h1 h2 u hu => by
        have := hall i h1 h2
        rw [hu] at this
        show (!us.any (eq · u)) = false
        replace this : (us.any (eq · u)) = true := this
        rw [this]; rfl)
      refine ih (vs.length - (k' + 1)) (by omega) (k' + 1) (acc.push v) _ _ _ rfl (by omega) (by rw [Array.size_push]; omega) F2 N2 (fun h'' tk'' c' a1 a2 a3 => hR h'' tk'' c' a1 a2 ?_)
      rw [hl]
      rw [a3]
      simp
    · intro hall h' tk' ex hkeep hup hex
      obtain ⟨ob, ho, hc⟩ := hex
      show wpAny _ _ (isInstance (.ref ex) (.type "StopIteration")) _ _ _
      refine wpAny_isInstance (T := "StopIteration") (b := true) ⟨ob, ho, hc⟩ isSubtype_stop ?_
      rw [if_pos rfl]
      have hl := drop_none (fun v => !us.any (eq · v)) vs j (fun i h1 h2 u hu => by
        have := hall i h1 h2
        rw [hu] at this
        show (!us.any (eq · u)) = false
        replace this : (us.any (eq · u)) = true := this
        rw [this]; rfl)
      have nS := (N (S, ⟨.type "list", none, .seq acc c, #[]⟩) (by simp)).2
      have hS := (N (S, ⟨.type "list", none, .seq acc c, #[]⟩) (by simp)).1
      have nit := (N (it, liObj a j) (by simp)).2.2
      have ng : ∀ y o, g.get? y = some o → y ≠ it := fun y o hy e => by rw [e, nit] at hy; cases hy
      refine wpAny_pure (hR h' tk' c (fun y o hn hy => hkeep y o hn (ng y o hy) (FR.keep _ _ hy)) (fun y o hy hd => hup y o (FR.keep _ _ hy) hd) ?_)
      rw [hl, List.append_nil]
      have := hkeep S _ (not_frame B hf nS.2 nS.1) (Nat.ne_of_gt l4) hS
      simpa using this
end
end
section
set_option maxHeartbeats 1000000 in
theorem iter60 {w : World} {A : Around} {s : Shared} {E Q : Value → Shared → Prop} {x : Addr}
    (H : Here w A s.heap) (hdp : A.depth + (0 + 1) < recursionLimit) (hun : A.units + 50 < cLine)
    (hQ : ∀ h' tk', s.heap.StaysIn h' → Q (.ref x) { s with heap := h', toks := tk' }) :
    wpAny (model prg w) A (call (.ref 60) [.ref x]) Q E s := by
  walk_at "sp enter"
  k_steps
  exact hQ _ _ (by assumption)
section
variable {w : World} {A A₀ : Around} {s : Shared} {E Q : Value → Shared → Prop} {a b it x d q : Addr} {vs us : List Value} {na nb : Nat} {sl sla : Array (Option Value)} {eq : Value → Value → Bool}
    {base g : Heap} {outer : List Env} {L : Addr} {m : PySem.Str → Option Value} {env : Env} {mean : ExcName → Option Value} {mg mb : PySem.Str → Option Value}
set_option maxHeartbeats 1000000 in
theorem list_ff
    (B : Below A₀ base outer g) (FR : Fr g L s.heap m) (X₀ : (hd.heap_39 w.params).In g) (T : Top topProg lse mean mg mb g) (hA : A.frames = some (env :: outer)) (hf : env.frame = some L) (hke : env.scope.kind = .function) (hh : A.handled = none)
    (N : News g L s.heap [(it, liObj a 0), (x, { cls := .ref 71, dict := some d, slots := #[some (.ref q), some (.ref it)] }), (d, dictOf [] 0), (q, wrapObj b)])
    (l1 : q < d) (l2 : d < x) (l3 : x < it)
    (ha : g.get? a = some ⟨.type "list", none, .seq vs.toArray na, sla⟩) (hb : g.get? b = some ⟨.type "list", none, .seq us.toArray nb, sl⟩) (hvs : vs.length ≤ 1000)
    (he : ∀ A' (s' : Shared) y v, y ∈ us → v ∈ vs → SeqAt.EqAt A' s' y v (eq y v)) (hdp : A.depth + (1 + 1) < recursionLimit) (hun : A.units + 100 < cLine)
    (hQ : ∀ S h' tk' c', (∀ y o, s.heap.get? y = some o → y < S) → S ≠ L → g.get? S = none → (∀ y o, y ∉ (env :: outer).filterMap (·.frame) → g.get? y = some o → h'.get? y = some o) → (∀ y o, g.get? y = some o → (∀ vs, o.data ≠ .fields vs) → ∃ sl, h'.get? y = some { o with slots := sl }) →
        h'.get? S = some ⟨.type "list", none, .seq (vs.filter (fun v => !us.any (eq · v))).toArray c', #[]⟩ → Q (.ref S) { s with heap := h', toks := tk' }) :
    wpAny (model prg w) A (call (.type "list") [.ref x]) Q E s := by
  (w_top off; have hfill : PySem.Challenge.rw_kq0048_01 = PySem.Challenge.rw_kq0048_01 ∧ hd.heap_39 = hd.heap_39 := by (k_fill; exact ⟨rfl, rfl⟩))
  clear hfill
  have F1 := FR.push { cls := .type "list", data := .seq #[] }
  have N1 := News.push FR N { cls := .type "list", data := .seq #[] }
  have lt4 : it < s.heap.objs.size := Heap.lt_size (N (it, liObj a 0) (by simp)).1
  have ltx : x ≠ s.heap.objs.size := Nat.ne_of_lt (Nat.lt_trans l3 lt4)
  have keyQ := hQ s.heap.objs.size
  refine callType_codes (Q₁ := fun obj s₁ => obj = .ref s.heap.objs.size ∧ s₁ = { s with heap := s.heap.push { cls := .type "list", data := .seq #[] } }) F.called_list (F.typeCall_list_1 _) F.entry_list_init
    (code_list_new _ ⟨rfl, rfl⟩) fun obj s₁ h₁ => ?_
  obtain ⟨rfl, rfl⟩ := h₁
  generalize hSe : s.heap.objs.size = S at *
  have hS : (s.heap.push { cls := .type "list", data := .seq #[] }).get? S = some { cls := .type "list", data := .seq #[] } := hSe ▸ Heap.get?_push_size _ rfl
  refine ⟨⟨_, hS, rfl⟩, F.args_list_init_2 _ _, ?_⟩
  show wpAny _ A.in1.in1 (do let old ← Builtin.List.listItems (.ref S); Builtin.List.listUpdate (.ref S) (fun _ => #[]); letGo old.toList.reverse; Builtin.List.listExtendWith (.ref S) (.ref x) .none) _ _ _
  refine wpAny_bind ?_
  unfold Builtin.List.listItems
  refine wpAny_bind (wpAny_seqItems hS rfl (wpAny_pure ?_))
  show wpAny _ A.in1.in1 (updateSeq S (fun _ => #[]) >>= fun _ => letGo (#[] : Array Value).toList.reverse >>= fun _ => Builtin.List.listExtendWith (.ref S) (.ref x) .none) _ _ _
  refine wpAny_bind (wpAny_updateSeq hS rfl ?_)
  have upd : ∀ (h : Heap) (acc : Array Value) (c : Nat) (f : Array Value → Array Value), Fr g L h m → News g L h ((S, (⟨.type "list", none, .seq acc c, #[]⟩ : Obj)) :: [(it, liObj a 0), (x, { cls := .ref 71, dict := some d, slots := #[some (.ref q), some (.ref it)] }), (d, dictOf [] 0), (q, wrapObj b)]) →
      Fr g L (h.update S (Obj.mapSeq f)) m ∧ News g L (h.update S (Obj.mapSeq f)) ((S, Obj.mapSeq f (⟨.type "list", none, .seq acc c, #[]⟩ : Obj)) :: [(it, liObj a 0), (x, { cls := .ref 71, dict := some d, slots := #[some (.ref q), some (.ref it)] }), (d, dictOf [] 0), (q, wrapObj b)]) := by
    intro h acc c f F' N'
    have hS' := (N' (S, ⟨.type "list", none, .seq acc c, #[]⟩) (by simp)).1
    have hsb : Heap.SameBut S h (h.update S (Obj.mapSeq f)) := Heap.SameBut.update ..
    have hS2 := Heap.get?_update_self (Obj.mapSeq f) hS' rfl
    have hn := (N' (S, ⟨.type "list", none, .seq acc c, #[]⟩) (by simp)).2
    refine ⟨fr_but F' hn.1 hn.2 hsb, news_but (pre := []) N' hsb hS2 (fun p hp => absurd hp (by simp)) ?_⟩
    intro p hp
    simp only [List.mem_cons, List.not_mem_nil, or_false] at hp
    rcases hp with rfl | rfl | rfl | rfl
    · exact Nat.ne_of_lt lt4
    · exact Nat.ne_of_lt (Nat.lt_trans l3 lt4)
    · exact Nat.ne_of_lt (Nat.lt_trans l2 (Nat.lt_trans l3 lt4))
    · exact Nat.ne_of_lt (Nat.lt_trans l1 (Nat.lt_trans l2 (Nat.lt_trans l3 lt4)))
  have nS := (N1 (S, { cls := .type "list", data := .seq #[] }) (by simp)).2
  obtain ⟨F2, N2⟩ := upd _ #[] 0 (fun _ => #[]) F1 N1
  refine wpAny_bind (wpAny_letGo ?_)
  unfold Builtin.List.listExtendWith
  have I2 : InstAt _ x _ 71 _ := InstAt.of_news (C := 71) (dx := d) (od := dictOf [] 0) (sl := #[some (.ref q), some (.ref it)]) N2 (by simp) (by simp)
  refine wpAny_bind (I2.type.here ?_)
  have h1 : Builtin.List.listSameRef (.ref S) (.ref x) = false := by simp [Builtin.List.listSameRef]; exact Ne.symm ltx
  have h2 : (Value.ref 71 == Value.type "list") = false := by decide
  have h3 : (Value.ref 71 == Value.type "tuple") = false := by decide
  simp only [h1, h2, h3, Bool.or_false, Bool.false_eq_true, if_false]
  refine wpAny_bind ?_
  refine owit_iter F2 X₀ I2 (f := 60) (by k_is) (by k_is) ?_
  refine iter60 (Here.mk B F2 X₀ T hA hf hke hh) (by show A.depth + _ < _; omega) (by show A.units + 1 + 1 + _ < _; omega) ?_
  intro h3 tk3 st3
  have F3 := F2.keeps st3
  have N3 := News.grown N2 st3
  refine owit_it F3 X₀ (InstAt.of_news (C := 71) (dx := d) (od := dictOf [] 0) (sl := #[some (.ref q), some (.ref it)]) N3 (by simp) (by simp)) (g := .ref 67) (by k_is) ?_
  have I3 : InstAt h3 x _ 71 _ := InstAt.of_news (C := 71) (dx := d) (od := dictOf [] 0) (sl := #[some (.ref q), some (.ref it)]) N3 (by simp) (by simp)
  refine wpAny_bind (wpAny_holding ?_)
  unfold Builtin.List.listLengthHint
  refine wpAny_bind (wpAny_bind (I3.type.here ((looks_findIn (X₀.keeps F3.keep) (r := none) (by k_is)).here ?_)))
  show wpAny _ _ (specialOf (Value.ref x) (Str.ofString "__length_hint__") >>= _) _ _ _
  refine wpAny_bind (wpAny_bind (I3.type.here ((looks_findIn (X₀.keeps F3.keep) (r := none) (by k_is)).here ?_)))
  refine wpAny_pure ?_
  show wpAny _ _ (rule "list.extend.makes-room" >>= fun _ => Builtin.List.listTouch (.ref S) >>= fun _ =>
    again (.builtin "list.extend.loop" ⟨[.ref S, .ref x, .none], []⟩)) _ _ _
  refine wpAny_bind (wpAny_rule ?_)
  refine wpAny_bind ?_
  show wpAny _ _ (updateSeq S (·.push .none) >>= fun _ => updateSeq S (·.pop)) _ _ _
  have hS3 := (N3 _ (List.mem_cons_self)).1
  refine wpAny_bind (wpAny_updateSeq hS3 rfl ?_)
  obtain ⟨F4, N4⟩ := upd _ _ _ (·.push Value.none) F3 N3
  have hS4 := (N4 _ (List.mem_cons_self)).1
  refine wpAny_updateSeq (hz := by seq_fits) hS4 rfl ?_
  obtain ⟨F5, N5⟩ := upd _ _ _ (·.pop) F4 N4
  refine wpAny_pure ⟨plainId_quiet F.plain_extend_loop _, loop_ff (A := A.in1) s .none B X₀ T hA hf hke hh l1 l2 l3 lt4 ha hb hvs he hdp (vs.length) 0 _ _ _ _ rfl (Nat.zero_le _) (by simp) F5 N5 ?_⟩
  intro h' tk' c' k1 k2 k3
  exact ⟨rfl, keyQ h' tk' c' (fun y o hy => hSe ▸ Heap.lt_size hy) nS.1 nS.2 k1 k2 (by simpa using k3)⟩
end
end
section
set_option maxHeartbeats 1000000 in
theorem filter_spec {w : World} {A A₀ : Around} {s : Shared} {E Q : Value → Shared → Prop} {a b : Addr} {vs us : List Value} {na nb : Nat} {eq : Value → Value → Bool} {sl sla : Array (Option Value)}
    {base h₀ : Heap} {L : Addr} {m : PySem.Str → Option Value} {env : Env} {news : List (Addr × Obj)} {mean : ExcName → Option Value} {mg mb : PySem.Str → Option Value}
    (B : Below A₀ base [] h₀) (F : Fr h₀ L s.heap m) (X₀ : (hd.heap_39 w.params).In h₀) (N : News h₀ L s.heap news) (T : Top topProg lse mean mg mb h₀) (hA : A.frames = some [env]) (hf : env.frame = some L) (hke : env.scope.kind = .function) (hh : A.handled = none)
    (ha : (a, (⟨.type "list", none, .seq vs.toArray na, sla⟩ : Obj)) ∈ news) (hb : (b, (⟨.type "list", none, .seq us.toArray nb, sl⟩ : Obj)) ∈ news)
    (hvs : vs.length ≤ 1000) (he : ∀ A' (s' : Shared) y v, y ∈ us → v ∈ vs → SeqAt.EqAt A' s' y v (eq y v)) (hdp : A.depth + (3 + 1) < recursionLimit) (hun : A.units + 300 < cLine)
    (hQ : ∀ D h' tk' n, Fr h₀ L h' m → News h₀ L h' ((D, (⟨.type "list", none, .seq (vs.filter (fun v => !us.any (eq · v))).toArray n, #[]⟩ : Obj)) :: news) → (∀ p ∈ news, p.1 < D) → Q (.ref D) { s with heap := h', toks := tk' }) :
    wpAny (model prg w) A (call (.ref 82) [.ref a, .ref b]) Q E s := by
  (w_top off; have hfill : PySem.Challenge.rw_kq0048_01 = PySem.Challenge.rw_kq0048_01 ∧ hd.heap_39 = hd.heap_39 := by (k_fill; exact ⟨rfl, rfl⟩))
  clear hfill
  obtain ⟨hd1, dp', fr', gd', un'⟩ := A
  dsimp only at hA hh hdp hun
  subst hA hh
  refine wpAny_call ?_
  have XS := X₀.keeps F.keep
  k_dflt (refine' code_free B F X₀ News.nil T rfl hf hke ?k6 ?k7 ?k8 ?k9 ?kB ?_ ?c2 ?c3 ?c4 ?c5)
  case k6 => k_is
  case k7 => k_is
  case k8 => (show dp' < recursionLimit; omega)
  case k9 => first | exact BindsTo.of_eq rfl | exact binds_K (by assumption) rfl (by k_is) rfl rfl rfl
  case c5 => decide
  case kB => exact locs rfl
  case c2 => exact rfl
  case c3 => exact rfl
  case c4 => exact rfl
  intro g' L' h' FG F' N' B' X' T' kG'
  have hag : g'.get? a = some _ := kG' _ _ (N _ ha).1 (by simp)
  have hbg : g'.get? b = some _ := kG' _ _ (N _ hb).1 (by simp)
  k_steps
  refine' getattr_contains (F'.keep _ _ hbg) rfl rfl rfl _
  intro n9
  have F2 := Fr.push F' (wrapObj b)
  have N2 := News.push F' N' (wrapObj b)
  clear F' N'
  k_steps
  rename Fr _ _ _ _ => F3
  rename News _ _ _ _ => N3
  rename Fr g' _ _ _ => FG3
  have hag3 := F3.keep _ _ (FG3.keep _ _ hag)
  refine' iter_listK ⟨_, hag3, rfl, _, rfl⟩ F3 N3 _
  clear F3 N3
  intro it h9 F4 N4 l3
  k_lt l3
  k_steps
  rename Fr g' _ _ _ => F6
  rename News g' _ _ _ => N6
  obtain ⟨l3a, l3b, l3c⟩ := l3
  refine' list_ff B' F6 X' T' rfl rfl rfl rfl N6 (by assumption) (by assumption) (by assumption) hag hbg hvs he (by show dp' + 1 + _ < _; omega) (by show un' + 3 + _ < _; omega) _
  intro D h9 tk9 c9 k1 k2 k3 k4 k5 k6
  have uts : s.heap.UpToSlots h9 := fun y o hy hn => k5 y o (kG' y o hy (by simp)) hn
  have hsz : ∀ y o, s.heap.get? y = some o → y ≠ L' := fun y o hy e => absurd (Nat.lt_of_lt_of_le (Heap.lt_size (kG' y o hy (by simp))) F6.above) (by rw [e]; exact Nat.lt_irrefl _)
  have hfr : ∀ y o, s.heap.get? y = some o → y ≠ L → y ∉ ([] : List Env).filterMap (·.frame) → h9.get? y = some o := fun y o hy hn ho => k4 y o (by
    intro hm
    simp only [List.filterMap_cons, envOf, hf] at hm
    rcases List.mem_cons.mp hm with e | hm
    · exact hsz y o hy e
    · rcases List.mem_cons.mp hm with e | hm
      · exact hn e
      · exact ho hm) (kG' y o hy (by simp))
  have hD : ∀ y o, s.heap.get? y = some o → D ≠ y := fun y o hy e => by
    have := kG' y o hy (by simp)
    rw [← e, k3] at this; cases this
  refine hQ D h9 tk9 c9 (F.of_stays (fun y o hy => hfr y o (F.keep y o hy) (fun e => absurd (Nat.lt_of_lt_of_le (Heap.lt_size hy) F.above) (by rw [e]; exact Nat.lt_irrefl _)) (by simp)) uts) ?_ ?_
  · intro p hp
    rcases List.mem_cons.mp hp with rfl | hp
    · refine ⟨k6, ?_, ?_⟩
      · obtain ⟨oL, _, _, hL, _⟩ := F.ns
        exact hD _ _ hL
      · cases hq : h₀.get? D with
        | none => rfl
        | some o => exact absurd rfl (hD D o (F.keep _ _ hq))
    · exact ⟨hfr _ _ (N p hp).1 (N p hp).2.1 (by simp), (N p hp).2⟩
  · intro p hp
    exact k1 _ _ (F6.keep _ _ (kG' _ _ (N p hp).1 (by simp)))
end
section
theorem kinds_all {scope : Scope} {binds : List (PySem.Str × Value)} (h : (binds.all fun y => scope.names.lookup y.1 == some .local || scope.names.lookup y.1 == some .cell) = true) :
    ∀ n, ∀ x ∈ binds, scope.names.lookup x.1 = some .local ∨ (scope.names.lookup x.1 = some .cell ∧ ((cellsFrom n scope.names []).lookup x.1).isSome = true) := kindsX h
theorem call_hereC {k ku : Nat} {w : World} {A : Around} {s : Shared} {E Q : Value → Shared → Prop}
    {name qual : PySem.Str} {params : Arguments} {body : List Stmt} {scope : Scope} {dV kV doc pm cdv ct oc : Value} {an od : Option Addr} {osl : Array (Option Value)} {f : Addr} {args : List Value} {kw : List (PySem.Str × Value)} {binds : List (PySem.Str × Value)}
    (H : Here w A s.heap) (hdp : A.depth + (k + 1) < recursionLimit) (hun : A.units + ku < cLine)
    (ho : (hd.heap_39 w.params).lookup f = some ⟨oc, od, .func (fnOf name qual params body scope dV kV doc pm an cdv ct), osl⟩) (hcd : codeIn (hd.heap_39 w.params) cdv qual = true)
    (hbind : (hd.heap_39 w.params).In s.heap → BindsTo s (fnOf name qual params body scope dV kV doc pm an cdv ct) ⟨args, kw⟩ binds)
    (hkind : (binds.all fun y => scope.names.lookup y.1 == some .local || scope.names.lookup y.1 == some .cell) = true)
    (hnd : ((cellsFrom 0 scope.names []).map (·.1)).Nodup)
    (h : ∀ (dp un : Nat) (gd : Option (List Code)) (env : Env) (outer : List Env) (mean : ExcName → Option Value) (mg mb : PySem.Str → Option Value) (base : Heap) (g : Heap) (L' : Addr) (h₁ : Heap) (tk : Nat) (cells : List (Addr × Obj)),
      dp + (k + 1) < recursionLimit → un + ku < cLine → GSub s.heap g [] → Fr g L' h₁ (bindL (envOfC qual scope L' f cdv).kindOf binds fun _ => none) → News g L' h₁ cells →
      CellsAre (bindC (envOfC qual scope L' f cdv).kindOf binds fun _ => none) (cellsFrom (L' + 1) scope.names []) cells →
      Below { handled := none, depth := dp, frames := some (env :: outer), guards := gd, units := un } base (env :: outer) g → (hd.heap_39 w.params).In g → Top topProg lse mean mg mb g →
      wpAny (model prg w) (Around.deeper { handled := none, depth := dp, frames := some (env :: outer), guards := gd, units := un } (envOfC qual scope L' f cdv)) (execs body (envOfC qual scope L' f cdv))
        (fun fl s' => SpDone s.heap g Q (match fl with | .ret v => v | _ => .none) s')
        (fun e s' => wpAny (model prg w) (Around.deeper { handled := none, depth := dp, frames := some (env :: outer), guards := gd, units := un } (envOfC qual scope L' f cdv)) (leaving (envOfC qual scope L' f cdv) e) (fun _ s'' => E e s'') (fun e' s'' => E e' s'') s')
        { s with heap := h₁, toks := tk })
    (hco : scope.isCoroutine = false) (hgen : scope.isGenerator = false) (hk : scope.kind = .function) : wpAny (model prg w) A (call (.ref f) args kw) Q E s := by
  obtain ⟨mean, mg, mb, A₀, base, outer, h₀, L, m, env, B, F, X, T, hA, hf, hk', hh⟩ := H
  obtain ⟨hd1, dp, fr, gd, un⟩ := A
  dsimp only at hA hh hdp hun
  subst hA hh
  have N : News h₀ L s.heap [] := News.nil
  let R : Result → Shared → Prop := fun r s' => match r with | .ok (.ret v) => Q v s' | .ok _ => False | .error e => E e s'
  show wpAny _ _ _ _ _ _
  refine wpAny_call (codeAny_mono (R := R) ?_ fun r s' z => z)
  have hX := X.keeps F.keep
  obtain ⟨FG, BG, st, lv⟩ := groundX (R := R) (A := ({ handled := none, depth := dp, frames := some (env :: outer), guards := gd, units := un } : Around)) B F N rfl hf hk'
  refine codeAny_call_function (by show dp < recursionLimit; omega) (hX _ _ ho) rfl hco hgen rfl (codeRec_of hX hcd) ((hbind hX) _ _ _ _ ?_)
  refine wpAny_newFunctionEnv_cells hk (kindsX hkind _) fun env' he s' x => ?_
  subst he
  refine ⟨(T.nolimit.keeps F.keep).keeps x.toInCall.keep, codeAny_func ?_⟩
  obtain ⟨h₁, tk, rfl, _⟩ := x.done
  have hk₁ := x.toInCall.keep
  obtain ⟨cells, NC, Y⟩ := Cl.news (h₀ := s.heap) (Nat.le_refl _) fun n c hm => ⟨x.cell n c (lookup_of_mem_nodup (cellsFrom_names scope.names 0 (s.heap.objs.size + 1) [] [] rfl ▸ hnd) hm), x.above n c hm⟩
  refine wpAny_mono (h dp un gd env outer mean mg mb base _ s.heap.objs.size h₁ tk cells hdp hun (fun b o e n => hideAll_get _ e n) ⟨x.toInCall.ns, fun b o e => hk₁ b o (of_hideAll _ e), Nat.le_of_eq (hideAll_size _ _)⟩ (fun p hp => ?_) Y BG (X.keeps st) (T.keeps st)) ?_ fun _ _ y => y
  · refine ⟨(NC p hp).1, (NC p hp).2.1, ?_⟩
    cases q : (hideAll s.heap (([] : List (Addr × Obj)).map (·.1))).get? p.1 with
    | none => exact q
    | some o => have := of_hideAll _ q; rw [(NC p hp).2.2] at this; cases this
  · intro fl s' hd
    obtain ⟨L'', m'', F'', hq⟩ := hd
    exact hq (fun b o e => F''.keep b o (hideAll_get _ e (by simp)))
theorem eq_bytes {A : Around} {s : Shared} {b c : Array UInt8} {t u : Tok} : SeqAt.EqAt A s (.bytes b t) (.bytes c u) (decide (b.toList = c.toList)) := fun _ _ _ _ hq => eqBool_bytes hq
end
section
theorem fm8 (y : Int) : (y.fmod 8).toNat < 8 := by
  have h1 := Int.fmod_nonneg_of_pos y (b := 8) (by decide)
  have h2 := Int.fmod_lt_of_pos y (b := 8) (by decide)
  omega
noncomputable def dig (x k : Int) : Fin 8 := ⟨(((x.fdiv 4).fdiv (8 ^ k.toNat)).fmod 8).toNat, fm8 _⟩
noncomputable def digs (x : Int) : List (Fin 8) := (rangeKs 0 (x.fmod 4 - 0).toNat).map (dig x)
theorem digs_len (x : Int) : (digs x).length ≤ 3 := by
  have h1 := Int.fmod_nonneg_of_pos x (b := 4) (by decide)
  have h2 := Int.fmod_lt_of_pos x (b := 4) (by decide)
  simp only [digs, rangeKs, List.length_map, List.length_range]
  omega
end
section
theorem bytes_len_look : typeLookup (.type "bytes") "__len__" = pure (some (.builtin "bytes.__len__")) := by rw [typeLookup_type, builtinLookup_eq_fast]; kernel_rfl
theorem ints_list : ∀ (vs : List Value) (l : List UInt8), vs.length = l.length → (∀ (i : Nat) (v : Value), vs[i]? = some v → ∃ (c : UInt8) (u : Tok), l[i]? = some c ∧ v = Value.int (c.toNat : Int) u) → IntsAre vs (l.map fun c => (c.toNat : Int))
  | [], [], _, _ => .nil
  | [], _ :: _, h, _ => nomatch h
  | _ :: _, [], h, _ => nomatch h
  | v :: vs, c :: l, h, hi => by
    obtain ⟨c', u, e1, e2⟩ := hi 0 v rfl
    cases e1
    subst e2
    exact .cons _ u (ints_list vs l (by simpa using h) fun i v hv => hi (i + 1) v hv)
theorem ints_of_items {b : Array UInt8} {acc : Array Value} (h : ItemsOf (fun i v => ∃ (c : UInt8) (u : Tok), b[i]? = some c ∧ v = Value.int (c.toNat : Int) u) acc b.size) : IntsAre acc.toList (KBw.bInts b) := by
  refine ints_list acc.toList b.toList (by simpa using h.1) fun i v hv => ?_
  have := h.2 i v (by simpa using hv)
  simpa using this
section
variable {prog : Program} {w : World} {A : Around} {E : Value → Shared → Prop} {s : Shared}
theorem extend_bytes {R : Result → Shared → Prop} (hh : A.handled = none) (b : Array UInt8) (t : Tok) (S : Addr) (res : Value) (c₀ : Nat) (hS : s.heap.get? S = some { cls := .type "list", data := .seq #[] c₀ })
    (hR : ∀ h' tk acc' c', (∀ b o, b ≠ S → s.heap.get? b = some o → h'.get? b = some o) → h'.get? S = some { cls := .type "list", dict := none, data := .seq acc' c', slots := #[] } →
      ItemsOf (fun i v => ∃ (c : UInt8) (u : Tok), b[i]? = some c ∧ v = Value.int (c.toNat : Int) u) acc' b.size → R (.ok (.ret res)) { s with heap := h', toks := tk }) (hn : b.size ≤ sizeLine) :
    wpAny (model prog w) A.in1 (Builtin.List.listExtendWith (.ref S) (.bytes b t) res)
      (fun fin s' => match fin with | .done f => R (.ok f) s' | .again c' => c'.quiet = true ∧ codeAny (model prog w) A c' R s') (fun e s' => R (.error e) s') s := by
  have hSI : S ≠ s.heap.objs.size := Nat.ne_of_lt (Heap.lt_size hS)
  have hSf : S ∉ [s.heap.objs.size] := fun hm => hSI (List.mem_singleton.mp hm)
  unfold Builtin.List.listExtendWith
  refine wpAny_bind (wpAny_typeOf (T := "bytes") (v := .bytes b t) rfl ?_)
  have h1 : Builtin.List.listSameRef (.ref S) (.bytes b t) = false := rfl
  have h2 : (Value.type "bytes" == Value.type "list") = false := by decide
  have h3 : (Value.type "bytes" == Value.type "tuple") = false := by decide
  simp only [h1, h2, h3, Bool.or_false, Bool.false_eq_true, if_false]
  refine wpAny_bind (KBw.pyIter_bytes ?_)
  refine wpAny_bind (wpAny_holding ?_)
  unfold Builtin.List.listLengthHint
  refine wpAny_bind (wpAny_specialOf (T := "bytes") (v := .bytes b t) rfl bytes_len_look ?_)
  wp_delta
  refine wpAny_bind (wpAny_isInstance (T := "bytes") (v := .bytes b t) (b := true) rfl (by rw [isSubtype_type]; kernel_rfl) ?_)
  show wpAny _ _ (typeOf (Value.bytes b t) >>= _) _ _ _
  refine wpAny_bind (wpAny_typeOf (T := "bytes") (v := .bytes b t) rfl ?_)
  refine wpAny_pure ?_
  rw [if_neg (by decide)]
  refine wpAny_pure ⟨plainId_quiet F.plain_extend_loop _, codeAny_extend_loopS (KBw.walks (A := A.in1) hh s.heap.objs.size b t).toS hn _ hSf _ b.size 0 _ _ _ rfl (Nat.zero_le _) ⟨_, Heap.get?_push_size _ rfl, rfl, rfl⟩ (Heap.get?_push_of_some _ hS) (ItemsOf.nil _) fun s' acc' c' hm hS' hacc => ?_⟩
  rw [Moved.eq_with hm]
  refine hR s'.heap s'.toks acc' c' (fun b ob hb e => hm.heap b ob (fun hmem => ?_) (Heap.get?_push_of_some _ e)) hS' hacc
  rcases List.mem_cons.mp hmem with e' | hmem
  · exact hb e'
  · exact absurd (Heap.lt_size e) (by rw [List.mem_singleton.mp hmem]; exact Nat.lt_irrefl _)
theorem call_list_bytes {Q : Value → Shared → Prop} (hh : A.handled = none) (b : Array UInt8) (t : Tok)
    (hQ : ∀ h' tk acc' c', (∀ b o, s.heap.get? b = some o → h'.get? b = some o) →
      h'.get? s.heap.objs.size = some { cls := .type "list", dict := none, data := .seq acc' c', slots := #[] } → ItemsOf (fun i v => ∃ (c : UInt8) (u : Tok), b[i]? = some c ∧ v = Value.int (c.toNat : Int) u) acc' b.size → Q (.ref s.heap.objs.size) { s with heap := h', toks := tk }) (hn : b.size ≤ sizeLine) :
    wpAny (model prog w) A (call (.type "list") [.bytes b t]) Q E s := by
  refine callType_codes (Q₁ := fun obj s₁ => obj = .ref s.heap.objs.size ∧ s₁ = { s with heap := s.heap.push { cls := .type "list", data := .seq #[] } }) F.called_list (F.typeCall_list_1 _) F.entry_list_init
    (code_list_new _ ⟨rfl, rfl⟩) fun obj s₁ h₁ => ?_
  obtain ⟨rfl, rfl⟩ := h₁
  have hS : (s.heap.push { cls := .type "list", data := .seq #[] }).get? s.heap.objs.size = some { cls := .type "list", data := .seq #[] } := Heap.get?_push_size _ rfl
  refine ⟨⟨_, hS, rfl⟩, F.args_list_init_2 _ _, ?_⟩
  show wpAny _ A.in1.in1 (do let old ← Builtin.List.listItems (.ref s.heap.objs.size); Builtin.List.listUpdate (.ref s.heap.objs.size) (fun _ => #[]); letGo old.toList.reverse; Builtin.List.listExtendWith (.ref s.heap.objs.size) (.bytes b t) .none) _ _ _
  refine wpAny_bind ?_
  unfold Builtin.List.listItems
  refine wpAny_bind (wpAny_seqItems hS rfl (wpAny_pure ?_))
  show wpAny _ _ (updateSeq s.heap.objs.size (fun _ => #[]) >>= fun _ => letGo (#[] : Array Value).toList.reverse >>= fun _ => Builtin.List.listExtendWith (.ref s.heap.objs.size) (.bytes b t) .none) _ _ _
  refine wpAny_bind (wpAny_updateSeq hS rfl ?_)
  have hS₂ := Heap.get?_update_self (Obj.mapSeq (fun _ => (#[] : Array Value))) hS rfl
  refine wpAny_bind (wpAny_letGo ?_)
  refine extend_bytes (A := A.in1) (hn := hn) hh b t s.heap.objs.size .none _ hS₂ fun h' tk acc' c' hk hS' hacc => ?_
  exact ⟨rfl, hQ h' tk acc' c' (fun b o e => hk b o (Nat.ne_of_lt (Heap.lt_size e)) ((Heap.get?_update_other _ _ (Ne.symm (Nat.ne_of_lt (Heap.lt_size e)))).trans (Heap.get?_push_of_some _ e))) hS' hacc⟩
theorem call_list_bytesK {Q : Value → Shared → Prop} {h₀ : Heap} {L : Addr} {m : PySem.Str → Option Value} {news : List (Addr × Obj)} {b : Array UInt8} {t : Tok} (F : Fr h₀ L s.heap m) (N : News h₀ L s.heap news) (hh : A.handled = none) (hn : b.size ≤ 1000)
    (h : ∀ D h' tk c' vs, IntsAre vs (KBw.bInts b) → Fr h₀ L h' m → News h₀ L h' ((D, (⟨.type "list", none, .seq vs.toArray c', #[]⟩ : Obj)) :: news) → (∀ p ∈ news, p.1 < D) → Q (.ref D) { s with heap := h', toks := tk }) :
    wpAny (model prog w) A (call (.type "list") [.bytes b t]) Q E s := by
  refine call_list_bytes hh b t ?_ (by rw [sizeLine_eq]; omega)
  intro h' tk acc' c' hk hS hI
  have F' : Fr h₀ L h' m := F.keeps hk
  refine h _ h' tk c' acc'.toList ?_ F' ?_ (fun p hp => Heap.lt_size (N p hp).1)
  · exact ints_of_items hI
  · intro p hp
    rcases List.mem_cons.mp hp with rfl | hp
    · refine ⟨by simpa using hS, ?_, next_is_new F⟩
      exact Ne.symm (Nat.ne_of_lt F.ns.lt)
    · exact ⟨hk _ _ (N p hp).1, (N p hp).2⟩
end
end
section
section
variable {prog : Program} {w : World} {A : Around} {E : Value → Shared → Prop} {s : Shared} {h₀ : Heap} {L : Addr} {m : PySem.Str → Option Value} {env : Env}
noncomputable def SrcC (prog : Program) (w : World) (A : Around) (h₀ : Heap) (L : Addr) (m : PySem.Str → Option Value) (env : Env) (elt : PySem.Expr) (x : PySem.Str) (scope : Scope) (cl : List (PySem.Str × Addr)) (Fin : Shared → List Value → List (Addr × Obj) → Prop) (xv : Value) (s₁ : Shared) : Prop :=
  ∃ r a b c t u v n news, xv = .ref r ∧ A.handled = none ∧ Fr h₀ L s₁.heap m ∧ News h₀ L s₁.heap news ∧ IsRange s₁.heap r a b c t u v ∧ Builtin.Range.small a b c = true ∧ Builtin.Range.rangeSize a b c = ((n : Nat) : Int) ∧ n ≤ 1000 ∧
    ∀ s₂ : Shared, (∃ h, s₂ = { s₁ with heap := h }) → LCg.CompRest prog w A h₀ L m env elt x scope cl s₂ (fun _ => True) (fun i v => ∃ t, v = .int (a + (i : Int) * c) t) (Fin s₂) n 0 [] news
theorem SrcC.range {elt : PySem.Expr} {x : PySem.Str} {scope : Scope} {cl : List (PySem.Str × Addr)} {Fin : Shared → List Value → List (Addr × Obj) → Prop} {r : Addr} {a b c : Int} {t u v : Tok} (n : Nat) {news : List (Addr × Obj)} {s₁ : Shared}
    (hh : A.handled = none) (F : Fr h₀ L s₁.heap m) (N : News h₀ L s₁.heap news) (hr : IsRange s₁.heap r a b c t u v) (hsm : Builtin.Range.small a b c = true) (hn : Builtin.Range.rangeSize a b c = ((n : Nat) : Int)) (hsz : n ≤ 1000)
    (h : ∀ g, LCg.CompRest prog w A h₀ L m env elt x scope cl { s₁ with heap := g } (fun _ => True) (fun i v => ∃ t, v = .int (a + (i : Int) * c) t) (Fin { s₁ with heap := g }) n 0 [] news) :
    SrcC prog w A h₀ L m env elt x scope cl Fin (.ref r) s₁ := ⟨r, a, b, c, t, u, v, n, news, rfl, hh, F, N, hr, hsm, hn, hsz, fun _ ⟨g, e⟩ => e ▸ h g⟩
theorem rangeC_st {I : Addr} {a c : Int} {n : Nat} : ∀ i (h h' : Heap) (o : Obj) (nw : List (Addr × Obj)), IsRangeIter h I (a + (i : Nat) * c) ((n : Int) - (i : Nat)) c → h.get? I = some o → h'.get? I = some o → (∀ b o, h₀.get? b = some o → h'.get? b = some o) → News h₀ L h' nw → True → IsRangeIter h' I (a + (i : Nat) * c) ((n : Int) - (i : Nat)) c :=
  fun i h h' o nw st e e' _ _ _ => by
    have st' : h.get? I = some _ := st
    show h'.get? I = some _
    rw [e', ← e]; exact st'
theorem ListComp_UR {elt iter : PySem.Expr} {x : PySem.Str} {px : Pos} {scope : Scope} {cl : List (PySem.Str × Addr)} {pos : Pos} {Q : Value → Shared → Prop} (F₀ : Fr h₀ L s.heap m)
    (hclos : closureFor scope env = pure cl) (hcell : ∀ y ∈ scope.names, y.2 ≠ .cell) (hkind : scope.kind = .function)
    (hnames : ∀ y ∈ scope.names, y.2 = .local → scope.names.lookup y.1 = some .local) (hx : scope.names.lookup x = some .local)
    (h : wpAny (model prog w) A (eval iter env) (SrcC prog w A h₀ L m env elt x scope cl (fun s₂ => LCg.FinE h₀ L m s₂ Q)) E s)
    (hs : ∀ x, foldedSetIterable iter env x = pure x := by intro _; rfl) :
    wpAny (model prog w) A (eval (.ListComp elt [⟨.Name x px, iter, [], 0⟩] scope pos) env) Q E s := by
  rw [eval_ListComp]
  refine wpAny_comprehension_free (use := none) rfl hs hclos hkind hnames (wpAny_mono h (fun xv s₁ h₁ => ?_) fun _ _ e => e)
  rcases h₁ with ⟨r, a, b, c, t, u, v, n, news, rfl, hh, F, N, hr, hsm, hn, hsz, R⟩
  refine wpAny_pyIter_range hr hsm ?_
  refine LCg.block_U (Walks.range hh s₁.heap.objs.size a c n) (by rw [sizeLine_eq]; omega) (fun i h st => ⟨_, st⟩) rangeC_st hcell hkind hx (by show IsRangeIter _ _ _ _ _; rw [hn]; simpa using Heap.get?_push_size _ rfl) (fun b hb => ?_)
    (F.keeps fun _ _ e => Heap.get?_push_of_some _ e) (N.grown fun _ _ e => Heap.get?_push_of_some _ e) (Nat.ne_of_lt F.ns.lt) (next_is_new F) (fun p hp => Nat.ne_of_lt (Heap.lt_size (N p hp).1)) trivial (R _ ⟨_, rfl⟩) ?_
  · rw [List.mem_singleton.mp hb]
    show s₁.heap.objs.size < (s₁.heap.push _).objs.size
    rw [Heap.size_push]; exact Nat.lt_succ_self _
  · intro D C h tk m' ys news' F' N' o1 hn hC₀ hD₀ hCL hDL hCD offC fin
    refine ⟨m', hn, fun h'' hs'' => fin D h'' tk (F'.change hs'' hCL hC₀) (fun p hp => ?_) o1⟩
    refine ⟨hs''.extBut _ _ ?_ (N' p hp).1, (N' p hp).2⟩
    rcases List.mem_cons.mp hp with rfl | hp
    · exact Ne.symm hCD
    · exact offC p hp
end
end
section
section
variable {prog : Program} {w : World} {A : Around} {E : Value → Shared → Prop} {s : Shared} {h₀ : Heap} {L : Addr} {m : PySem.Str → Option Value} {env : Env}
theorem bytes_st {I : Addr} {b : Array UInt8} {t : Tok} : ∀ i (h h' : Heap) (o : Obj) (nw : List (Addr × Obj)), KBw.IsBytesIter h I b t i → h.get? I = some o → h'.get? I = some o → (∀ b o, h₀.get? b = some o → h'.get? b = some o) → News h₀ L h' nw → True → KBw.IsBytesIter h' I b t i :=
  fun i h h' o nw st e e' _ _ _ => by obtain ⟨o', q, r⟩ := st; rw [e] at q; cases q; exact ⟨o, e', r⟩
noncomputable def SrcB (prog : Program) (w : World) (A : Around) (h₀ : Heap) (L : Addr) (m : PySem.Str → Option Value) (env : Env) (elt : PySem.Expr) (x : PySem.Str) (scope : Scope) (cl : List (PySem.Str × Addr)) (Fin : Shared → List Value → List (Addr × Obj) → Prop) (xv : Value) (s₁ : Shared) : Prop :=
  ∃ b t news, xv = .bytes b t ∧ A.handled = none ∧ Fr h₀ L s₁.heap m ∧ News h₀ L s₁.heap news ∧ b.size ≤ 1000 ∧
    ∀ s₂ : Shared, (∃ h, s₂ = { s₁ with heap := h }) → LCg.CompRest prog w A h₀ L m env elt x scope cl s₂ (fun _ => True) (fun i v => ∃ (c : UInt8) (u : Tok), b[i]? = some c ∧ v = .int (c.toNat : Int) u) (Fin s₂) b.size 0 [] news
theorem SrcB.mk {elt : PySem.Expr} {x : PySem.Str} {scope : Scope} {cl : List (PySem.Str × Addr)} {Fin : Shared → List Value → List (Addr × Obj) → Prop} {b : Array UInt8} {t : Tok} (n : Nat) {news : List (Addr × Obj)} {s₁ : Shared}
    (hh : A.handled = none) (F : Fr h₀ L s₁.heap m) (N : News h₀ L s₁.heap news) (hn : b.size = n) (hsz : n ≤ 1000)
    (h : ∀ g, LCg.CompRest prog w A h₀ L m env elt x scope cl { s₁ with heap := g } (fun _ => True) (fun i v => ∃ (c : UInt8) (u : Tok), b[i]? = some c ∧ v = .int (c.toNat : Int) u) (Fin { s₁ with heap := g }) n 0 [] news) :
    SrcB prog w A h₀ L m env elt x scope cl Fin (.bytes b t) s₁ := ⟨b, t, news, rfl, hh, F, N, hn ▸ hsz, fun _ ⟨g, e⟩ => by rw [hn]; exact e ▸ h g⟩
theorem ListComp_UB {elt iter : PySem.Expr} {x : PySem.Str} {px : Pos} {scope : Scope} {cl : List (PySem.Str × Addr)} {pos : Pos} {Q : Value → Shared → Prop} (_F₀ : Fr h₀ L s.heap m)
    (hclos : closureFor scope env = pure cl) (hcell : ∀ y ∈ scope.names, y.2 ≠ .cell) (hkind : scope.kind = .function)
    (hnames : ∀ y ∈ scope.names, y.2 = .local → scope.names.lookup y.1 = some .local) (hx : scope.names.lookup x = some .local)
    (h : wpAny (model prog w) A (eval iter env) (SrcB prog w A h₀ L m env elt x scope cl (fun s₂ => LCg.FinE h₀ L m s₂ Q)) E s)
    (hs : ∀ x, foldedSetIterable iter env x = pure x := by intro _; rfl) :
    wpAny (model prog w) A (eval (.ListComp elt [⟨.Name x px, iter, [], 0⟩] scope pos) env) Q E s := by
  rw [eval_ListComp]
  refine wpAny_comprehension_free (use := none) rfl hs hclos hkind hnames (wpAny_mono h (fun xv s₁ h₁ => ?_) fun _ _ e => e)
  rcases h₁ with ⟨b, t, news, rfl, hh, F, N, hsz, R⟩
  refine KBw.pyIter_bytes ?_
  refine LCg.block_U (KBw.walks hh s₁.heap.objs.size b t) (by rw [sizeLine_eq]; omega) (fun i h st => by obtain ⟨o, e, _⟩ := st; exact ⟨o, e⟩) bytes_st hcell hkind hx ⟨_, Heap.get?_push_size _ rfl, rfl, rfl⟩ (fun b hb => ?_)
    (F.keeps fun _ _ e => Heap.get?_push_of_some _ e) (N.grown fun _ _ e => Heap.get?_push_of_some _ e) (Nat.ne_of_lt F.ns.lt) (next_is_new F) (fun p hp => Nat.ne_of_lt (Heap.lt_size (N p hp).1)) trivial (R _ ⟨_, rfl⟩) ?_
  · rw [List.mem_singleton.mp hb]
    show s₁.heap.objs.size < (s₁.heap.push _).objs.size
    rw [Heap.size_push]; exact Nat.lt_succ_self _
  · intro D C h tk m' ys news' F' N' o1 hn hC₀ hD₀ hCL hDL hCD offC fin
    refine ⟨m', hn, fun h'' hs'' => fin D h'' tk (F'.change hs'' hCL hC₀) (fun p hp => ?_) o1⟩
    refine ⟨hs''.extBut _ _ ?_ (N' p hp).1, (N' p hp).2⟩
    rcases List.mem_cons.mp hp with rfl | hp
    · exact Ne.symm hCD
    · exact offC p hp
noncomputable def SrcBT (prog : Program) (w : World) (A : Around) (h₀ : Heap) (L : Addr) (m : PySem.Str → Option Value) (env : Env) (ct elt : PySem.Expr) (x : PySem.Str) (scope : Scope) (cl : List (PySem.Str × Addr)) (Fin : Shared → List Value → List (Addr × Obj) → Prop) (xv : Value) (s₁ : Shared) : Prop :=
  ∃ b t news, xv = .bytes b t ∧ A.handled = none ∧ Fr h₀ L s₁.heap m ∧ News h₀ L s₁.heap news ∧ b.size ≤ 1000 ∧
    ∀ s₂ : Shared, (∃ h, s₂ = { s₁ with heap := h }) → LCt.CompRestT prog w A h₀ L m env ct elt x scope cl s₂ (fun _ => True) (fun i v => ∃ (c : UInt8) (u : Tok), b[i]? = some c ∧ v = .int (c.toNat : Int) u) (Fin s₂) b.size 0 [] news
theorem SrcBT.mk {ct elt : PySem.Expr} {x : PySem.Str} {scope : Scope} {cl : List (PySem.Str × Addr)} {Fin : Shared → List Value → List (Addr × Obj) → Prop} {b : Array UInt8} {t : Tok} (n : Nat) {news : List (Addr × Obj)} {s₁ : Shared}
    (hh : A.handled = none) (F : Fr h₀ L s₁.heap m) (N : News h₀ L s₁.heap news) (hn : b.size = n) (hsz : n ≤ 1000)
    (h : ∀ g, LCt.CompRestT prog w A h₀ L m env ct elt x scope cl { s₁ with heap := g } (fun _ => True) (fun i v => ∃ (c : UInt8) (u : Tok), b[i]? = some c ∧ v = .int (c.toNat : Int) u) (Fin { s₁ with heap := g }) n 0 [] news) :
    SrcBT prog w A h₀ L m env ct elt x scope cl Fin (.bytes b t) s₁ := ⟨b, t, news, rfl, hh, F, N, hn ▸ hsz, fun _ ⟨g, e⟩ => by rw [hn]; exact e ▸ h g⟩
theorem ListComp_TB {ct elt iter : PySem.Expr} {x : PySem.Str} {px : Pos} {scope : Scope} {cl : List (PySem.Str × Addr)} {pos : Pos} {Q : Value → Shared → Prop} (_F₀ : Fr h₀ L s.heap m)
    (hclos : closureFor scope env = pure cl) (hcell : ∀ y ∈ scope.names, y.2 ≠ .cell) (hkind : scope.kind = .function)
    (hnames : ∀ y ∈ scope.names, y.2 = .local → scope.names.lookup y.1 = some .local) (hx : scope.names.lookup x = some .local)
    (h : wpAny (model prog w) A (eval iter env) (SrcBT prog w A h₀ L m env ct elt x scope cl (fun s₂ => LCg.FinE h₀ L m s₂ Q)) E s)
    (hs : ∀ x, foldedSetIterable iter env x = pure x := by intro _; rfl) :
    wpAny (model prog w) A (eval (.ListComp elt [⟨.Name x px, iter, [ct], 0⟩] scope pos) env) Q E s := by
  rw [eval_ListComp]
  refine wpAny_comprehension_free (use := none) rfl hs hclos hkind hnames (wpAny_mono h (fun xv s₁ h₁ => ?_) fun _ _ e => e)
  rcases h₁ with ⟨b, t, news, rfl, hh, F, N, hsz, R⟩
  refine KBw.pyIter_bytes ?_
  refine LCt.block_T (KBw.walks hh s₁.heap.objs.size b t) (by rw [sizeLine_eq]; omega) (fun i h st => by obtain ⟨o, e, _⟩ := st; exact ⟨o, e⟩) bytes_st hcell hkind hx ⟨_, Heap.get?_push_size _ rfl, rfl, rfl⟩ (fun b hb => ?_)
    (F.keeps fun _ _ e => Heap.get?_push_of_some _ e) (N.grown fun _ _ e => Heap.get?_push_of_some _ e) (Nat.ne_of_lt F.ns.lt) (next_is_new F) (fun p hp => Nat.ne_of_lt (Heap.lt_size (N p hp).1)) trivial (R _ ⟨_, rfl⟩) ?_
  · rw [List.mem_singleton.mp hb]
    show s₁.heap.objs.size < (s₁.heap.push _).objs.size
    rw [Heap.size_push]; exact Nat.lt_succ_self _
  · intro D C h tk m' ys news' F' N' o1 hn hC₀ hD₀ hCL hDL hCD offC fin
    refine ⟨m', hn, fun h'' hs'' => fin D h'' tk (F'.change hs'' hCL hC₀) (fun p hp => ?_) o1⟩
    refine ⟨hs''.extBut _ _ ?_ (N' p hp).1, (N' p hp).2⟩
    rcases List.mem_cons.mp hp with rfl | hp
    · exact Ne.symm hCD
    · exact offC p hp
end
end
section
inductive Rel {α : Type} (R : α → Value → Prop) : List α → List Value → Prop
  | nil : Rel R [] []
  | cons {a : α} {v : Value} {as : List α} {vs : List Value} : R a v → Rel R as vs → Rel R (a :: as) (v :: vs)
theorem Rel.snoc {α : Type} {R : α → Value → Prop} : ∀ {as : List α} {vs : List Value} {a : α} {v : Value}, Rel R as vs → R a v → Rel R (as ++ [a]) (vs ++ [v])
  | _, _, _, _, .nil, h => .cons h .nil
  | _, _, _, _, .cons g r, h => .cons g (Rel.snoc r h)
theorem Rel.length {α : Type} {R : α → Value → Prop} : ∀ {as : List α} {vs : List Value}, Rel R as vs → vs.length = as.length
  | _, _, .nil => rfl
  | _, _, .cons _ r => by simp [Rel.length r]
theorem Rel.get {α : Type} {R : α → Value → Prop} : ∀ {as : List α} {vs : List Value}, Rel R as vs → ∀ (i : Nat) (v : Value), vs[i]? = some v → ∃ a, as[i]? = some a ∧ R a v
  | _, _, .nil, i, v, h => by simp at h
  | _, _, .cons g r, 0, v, h => by cases h; exact ⟨_, rfl, g⟩
  | _, _, .cons g r, i + 1, v, h => Rel.get r i v h
theorem Rel.append {α : Type} {R : α → Value → Prop} : ∀ {as bs : List α} {vs ws : List Value}, Rel R as vs → Rel R bs ws → Rel R (as ++ bs) (vs ++ ws)
  | _, _, _, _, .nil, h => h
  | _, _, _, _, .cons g r, h => .cons g (Rel.append r h)
theorem Rel.take {α : Type} {R : α → Value → Prop} : ∀ {as : List α} {vs : List Value} (k : Nat), Rel R as vs → Rel R (as.take k) (vs.take k)
  | _, _, 0, _ => .nil
  | _, _, _ + 1, .nil => .nil
  | _, _, k + 1, .cons g r => .cons g (Rel.take k r)
theorem Rel.drop {α : Type} {R : α → Value → Prop} : ∀ {as : List α} {vs : List Value} (k : Nat), Rel R as vs → Rel R (as.drop k) (vs.drop k)
  | _, _, 0, h => h
  | _, _, _ + 1, .nil => .nil
  | _, _, k + 1, .cons _ r => Rel.drop k r
noncomputable def Turn {α : Type} (h₀ : Heap) (L : Addr) (m : PySem.Str → Option Value) (s : Shared) (led : List (Addr × Obj)) (P : α → Prop) (y : α) (s' : Shared) : Prop :=
  P y ∧ ∃ h' tk', s' = { s with heap := h', toks := tk' } ∧ Fr h₀ L h' m ∧ News h₀ L h' led
theorem Turn.intro {α : Type} {h₀ h' : Heap} {L : Addr} {m : PySem.Str → Option Value} {s : Shared} {led all : List (Addr × Obj)} {P : α → Prop} {y : α} {tk' : Nat} (F : Fr h₀ L h' m) (N : News h₀ L h' all) (sub : ∀ p ∈ led, p ∈ all) (h : P y) :
    Turn h₀ L m s led P y { s with heap := h', toks := tk' } := ⟨h, h', tk', rfl, F, fun p hp => N p (sub p hp)⟩
section
variable {prog : Program} {w : World} {A : Around} {E : Value → Shared → Prop} {s : Shared} {h₀ : Heap} {L : Addr} {m : PySem.Str → Option Value} {env : Env}
theorem rest_gen {α : Type} {elt : PySem.Expr} {x : PySem.Str} {scope : Scope} {cl : List (PySem.Str × Addr)} {S : List (Addr × Obj) → Prop} {P : Nat → Value → Prop} {Fin : List Value → List (Addr × Obj) → Prop} {news : List (Addr × Obj)}
    (xs : List α) (In Out : α → Value → Prop) (hP : ∀ i v, i < xs.length → P i v → ∃ a, xs[i]? = some a ∧ In a v) (hS : S news)
    (turn : ∀ a v I oI C oC D ys m₂ h tk (E' : Value → Shared → Prop), a ∈ xs → In a v → LCg.NsObj oC m₂ → m₂ x = some v → Fr h₀ L h m → News h₀ L h ((I, oI) :: (C, oC) :: (D, LCg.lst ys) :: news) → LCg.Off3 I C D news → ((@Ne Nat I C) ∧ (@Ne Nat I D) ∧ (@Ne Nat C D)) →
      wpAny (model prog w) A (eval elt (compEnvC scope cl C env)) (Turn h₀ L m { s with heap := h, toks := tk } ((I, oI) :: (C, oC) :: (D, LCg.lst ys) :: news) (Out a)) E' { s with heap := h, toks := tk })
    (fin : ∀ ys, Rel Out xs ys → Fin ys news) : ∀ n, n = xs.length → LCg.CompRest prog w A h₀ L m env elt x scope cl s S P Fin n 0 [] news := by
  have key : ∀ k i ys, i + k = xs.length → Rel Out (xs.take i) ys → LCg.CompRest prog w A h₀ L m env elt x scope cl s S P Fin k i ys news := by
    intro k
    induction k with
    | zero =>
      intro i ys hi hr
      refine LCg.CompRest.zero (fin ys ?_)
      rwa [List.take_of_length_le (by omega)] at hr
    | succ k ih =>
      intro i ys hi hr
      refine LCg.CompRest.succ ?_
      intro v I oI C oC D m₂ h tk E' hv hC hx F N off ne
      obtain ⟨a, ha, hin⟩ := hP i v (by omega) hv
      refine wpAny_mono (turn a v I oI C oC D ys m₂ h tk E' (List.mem_of_getElem? ha) hin hC hx F N off ne) (fun y s₂ hy => ?_) fun _ _ z => z
      obtain ⟨ho, h', tk', rfl, F', N'⟩ := hy
      refine ⟨h', tk', news, rfl, F', N', off, hS, ih (i + 1) (ys ++ [y]) (by omega) ?_⟩
      rw [List.take_add_one, ha]
      exact Rel.snoc hr ho
  intro n hn
  exact key n 0 [] (by omega) (by simpa using Rel.nil)
theorem restT_gen {α : Type} {ct elt : PySem.Expr} {x : PySem.Str} {scope : Scope} {cl : List (PySem.Str × Addr)} {S : List (Addr × Obj) → Prop} {P : Nat → Value → Prop} {Fin : List Value → List (Addr × Obj) → Prop} {news : List (Addr × Obj)}
    (xs : List α) (p : α → Bool) (In Out : α → Value → Prop) (hP : ∀ i v, i < xs.length → P i v → ∃ a, xs[i]? = some a ∧ In a v) (hS : S news)
    (test : ∀ a v I oI C oC D ys m₂ h tk (E' : Value → Shared → Prop), a ∈ xs → In a v → LCg.NsObj oC m₂ → m₂ x = some v → Fr h₀ L h m → News h₀ L h ((I, oI) :: (C, oC) :: (D, LCg.lst ys) :: news) → LCg.Off3 I C D news → ((@Ne Nat I C) ∧ (@Ne Nat I D) ∧ (@Ne Nat C D)) →
      wpAny (model prog w) A (isTrue ct (compEnvC scope cl C env) (eval ct (compEnvC scope cl C env))) (Turn h₀ L m { s with heap := h, toks := tk } ((I, oI) :: (C, oC) :: (D, LCg.lst ys) :: news) (fun ok : Bool => ok = p a)) E' { s with heap := h, toks := tk })
    (turn : ∀ a v I oI C oC D ys m₂ h tk (E' : Value → Shared → Prop), a ∈ xs → In a v → LCg.NsObj oC m₂ → m₂ x = some v → Fr h₀ L h m → News h₀ L h ((I, oI) :: (C, oC) :: (D, LCg.lst ys) :: news) → LCg.Off3 I C D news → ((@Ne Nat I C) ∧ (@Ne Nat I D) ∧ (@Ne Nat C D)) →
      wpAny (model prog w) A (eval elt (compEnvC scope cl C env)) (Turn h₀ L m { s with heap := h, toks := tk } ((I, oI) :: (C, oC) :: (D, LCg.lst ys) :: news) (Out a)) E' { s with heap := h, toks := tk })
    (fin : ∀ ys, Rel Out (xs.filter p) ys → Fin ys news) : ∀ n, n = xs.length → LCt.CompRestT prog w A h₀ L m env ct elt x scope cl s S P Fin n 0 [] news := by
  have key : ∀ k i ys, i + k = xs.length → Rel Out ((xs.take i).filter p) ys → LCt.CompRestT prog w A h₀ L m env ct elt x scope cl s S P Fin k i ys news := by
    intro k
    induction k with
    | zero =>
      intro i ys hi hr
      refine LCt.CompRestT.zero (fin ys ?_)
      rwa [List.take_of_length_le (by omega)] at hr
    | succ k ih =>
      intro i ys hi hr
      refine LCt.CompRestT.succ ?_
      intro v I oI C oC D m₂ h tk E' hv hC hx F N off ne
      obtain ⟨a, ha, hin⟩ := hP i v (by omega) hv
      have hm := List.mem_of_getElem? ha
      refine wpAny_mono (test a v I oI C oC D ys m₂ h tk E' hm hin hC hx F N off ne) (fun ok s₁ hok => ?_) fun _ _ z => z
      obtain ⟨ho, h', tk', rfl, F', N'⟩ := hok
      cases hp : p a with
      | true =>
        rw [hp] at ho
        subst ho
        rw [if_pos rfl]
        refine wpAny_mono (turn a v I oI C oC D ys m₂ h' tk' E' hm hin hC hx F' N' off ne) (fun y s₂ hy => ?_) fun _ _ z => z
        obtain ⟨ho, h', tk', rfl, F', N'⟩ := hy
        refine ⟨h', tk', news, rfl, F', N', off, hS, ih (i + 1) (ys ++ [y]) (by omega) ?_⟩
        rw [List.take_add_one, ha, List.filter_append]
        show Rel Out (_ ++ List.filter p [a]) _
        rw [List.filter_cons_of_pos hp]
        exact Rel.snoc hr ho
      | false =>
        rw [hp] at ho
        subst ho
        rw [if_neg Bool.false_ne_true]
        refine ⟨h', tk', news, rfl, F', N', off, hS, ih (i + 1) ys (by omega) ?_⟩
        rw [List.take_add_one, ha, List.filter_append]
        show Rel Out (_ ++ List.filter p [a]) _
        rw [List.filter_cons_of_neg (by rw [hp]; decide)]
        simpa using hr
  intro n hn
  exact key n 0 [] (by omega) (by simpa using Rel.nil)
end
end
section
/-- a bytes value of these octets -/
noncomputable def BV (l : List UInt8) (v : Value) : Prop := ∃ t, v = .bytes l.toArray t
noncomputable def vEq : Value → Value → Bool
  | .bytes b _, .bytes c _ => decide (b.toList = c.toList)
  | _, _ => false
theorem vEq_at {A : Around} {s : Shared} {y v : Value} {l k : List UInt8} (h1 : BV l y) (h2 : BV k v) : SeqAt.EqAt A s y v (vEq y v) := by
  obtain ⟨t, rfl⟩ := h1
  obtain ⟨u, rfl⟩ := h2
  exact eq_bytes
theorem vEq_val {y v : Value} {l k : List UInt8} (h1 : BV l y) (h2 : BV k v) : vEq y v = decide (l = k) := by
  obtain ⟨t, rfl⟩ := h1
  obtain ⟨u, rfl⟩ := h2
  rfl
theorem Rel.mem {α : Type} {R : α → Value → Prop} {as : List α} {vs : List Value} (h : Rel R as vs) {v : Value} (hv : v ∈ vs) : ∃ a ∈ as, R a v := by
  obtain ⟨i, hi⟩ := List.mem_iff_getElem?.mp hv
  obtain ⟨a, ha, hr⟩ := h.get i v hi
  exact ⟨a, List.mem_of_getElem? ha, hr⟩
theorem any_vEq : ∀ {ys : List (List UInt8)} {us : List Value}, Rel BV ys us → ∀ {v : Value} {k : List UInt8}, BV k v → us.any (vEq · v) = decide (k ∈ ys)
  | _, _, .nil, _, _, _ => by simp
  | _, _, .cons (a := a) g r, v, k, h => by
    rw [List.any_cons, any_vEq r h, vEq_val g h, Bool.eq_iff_iff]
    simp only [Bool.or_eq_true, decide_eq_true_eq, List.mem_cons]
    exact ⟨fun z => z.elim (fun e => .inl e.symm) .inr, fun z => z.elim (fun e => .inl e.symm) .inr⟩
theorem filter_rel {ys : List (List UInt8)} {us : List Value} (hu : Rel BV ys us) : ∀ {xs : List (List UInt8)} {vs : List Value}, Rel BV xs vs → Rel BV (xs.filter fun l => !decide (l ∈ ys)) (vs.filter fun v => !us.any (vEq · v))
  | _, _, .nil => .nil
  | _, _, .cons (a := a) (v := v) g r => by
    have h := any_vEq hu g
    cases hd : decide (a ∈ ys) with
    | true =>
      rw [List.filter_cons_of_neg (by rw [hd]; decide), List.filter_cons_of_neg (by rw [h, hd]; decide)]
      exact filter_rel hu r
    | false =>
      rw [List.filter_cons_of_pos (by rw [hd]; decide), List.filter_cons_of_pos (by rw [h, hd]; decide)]
      exact .cons g (filter_rel hu r)
section
variable {prog : Program} {w : World} {A : Around} {E : Value → Shared → Prop} {s : Shared} {a b : Addr} {xs ys : List (List UInt8)} {vs us : List Value} {Q : Value → Shared → Prop}
theorem rel_all {xs ys : List (List UInt8)} {vs us : List Value} (h1 : Rel BV xs vs) (h2 : Rel BV ys us) (hl : vs.length = us.length) :
    ((List.range vs.length).all fun j => vEq (vs.getD j .none) (us.getD j .none)) = decide (xs = ys) := by
  have e1 : xs.length = ys.length := by rw [← h1.length, ← h2.length, hl]
  rw [Bool.eq_iff_iff, List.all_eq_true, decide_eq_true_iff]
  constructor
  · intro h
    refine List.ext_getElem e1 fun i hi1 hi2 => ?_
    have hv : i < vs.length := by rw [h1.length]; exact hi1
    have hu : i < us.length := by omega
    have := h i (List.mem_range.mpr hv)
    obtain ⟨p, hp, hp'⟩ := h1.get i vs[i] (by simp [hv])
    obtain ⟨q, hq, hq'⟩ := h2.get i us[i] (by simp [hu])
    have e3 : vs.getD i .none = vs[i] := by simp [List.getD, hv]
    have e4 : us.getD i .none = us[i] := by simp [List.getD, hu]
    rw [e3, e4, vEq_val hp' hq', decide_eq_true_iff] at this
    have e5 : xs[i] = p := by simpa [hi1] using hp
    have e6 : ys[i] = q := by simpa [hi2] using hq
    rw [e5, e6, this]
  · rintro rfl i hi
    have hv : i < vs.length := List.mem_range.mp hi
    have hu : i < us.length := by omega
    obtain ⟨p, hp, hp'⟩ := h1.get i vs[i] (by simp [hv])
    obtain ⟨q, hq, hq'⟩ := h2.get i us[i] (by simp [hu])
    have e3 : vs.getD i .none = vs[i] := by simp [List.getD, hv]
    have e4 : us.getD i .none = us[i] := by simp [List.getD, hu]
    rw [e3, e4, vEq_val hp' hq', decide_eq_true_iff]
    rw [hp] at hq
    exact Option.some.inj hq
theorem ne_list_bytes (hl : s.heap.IsList a vs.toArray) (hb : s.heap.IsList b us.toArray) (h1 : Rel BV xs vs) (h2 : Rel BV ys us) (hu : A.units < cLine) (h : Q (.bool (!decide (xs = ys))) s) :
    wpAny (model prog w) A (compareOp .NotEq (.ref a) (.ref b)) Q E s := by
  refine cmp_ofNotEq ?_
  by_cases e : vs.length = us.length
  · rw [← rel_all h1 h2 e] at h
    exact SeqAt.RcNeAt.lists hl hb (by simpa using e) hu (e := fun j => vEq (vs.getD j .none) (us.getD j .none)) (fun j hj1 hj2 => by
      have q1 : j < vs.length := by simpa using hj1
      have q2 : j < us.length := by simpa using hj2
      obtain ⟨p, _, hp'⟩ := h1.get j vs[j] (by simp [q1])
      obtain ⟨q, _, hq'⟩ := h2.get j us[j] (by simp [q2])
      have e3 : vs.getD j .none = vs[j] := by simp [List.getD, q1]
      have e4 : us.getD j .none = us[j] := by simp [List.getD, q2]
      rw [e3, e4]
      simpa using vEq_at hp' hq') prog w E Q (by simpa using h)
  · have hne : decide (xs = ys) = false := by
      rw [decide_eq_false_iff_not]
      rintro rfl
      exact e (by rw [h1.length, h2.length])
    rw [hne] at h
    exact SeqAt.RcNeAt.lists_lengths hl hb (by simpa using e) hu prog w E Q h
theorem eq_list_bytes (hl : s.heap.IsList a vs.toArray) (hb : s.heap.IsList b us.toArray) (h1 : Rel BV xs vs) (h2 : Rel BV ys us) (hu : A.units < cLine) (h : Q (.bool (decide (xs = ys))) s) :
    wpAny (model prog w) A (compareOp .Eq (.ref a) (.ref b)) Q E s := by
  refine cmp_ofEq ?_
  by_cases e : vs.length = us.length
  · rw [← rel_all h1 h2 e] at h
    exact SeqAt.RcAt.lists hl hb (by simpa using e) hu (e := fun j => vEq (vs.getD j .none) (us.getD j .none)) (fun j hj1 hj2 => by
      have q1 : j < vs.length := by simpa using hj1
      have q2 : j < us.length := by simpa using hj2
      obtain ⟨p, _, hp'⟩ := h1.get j vs[j] (by simp [q1])
      obtain ⟨q, _, hq'⟩ := h2.get j us[j] (by simp [q2])
      have e3 : vs.getD j .none = vs[j] := by simp [List.getD, q1]
      have e4 : us.getD j .none = us[j] := by simp [List.getD, q2]
      rw [e3, e4]
      simpa using vEq_at hp' hq') prog w E Q (by simpa using h)
  · have hne : decide (xs = ys) = false := by
      rw [decide_eq_false_iff_not]
      rintro rfl
      exact e (by rw [h1.length, h2.length])
    rw [hne] at h
    exact SeqAt.RcAt.lists_lengths hl hb (by simpa using e) hu prog w E Q h
theorem notIn_bytes {l : List UInt8} {v : Value} (hl : s.heap.IsList a us.toArray) (h2 : Rel BV ys us) (hv : BV l v) (h : Q (.bool (!decide (l ∈ ys))) s) :
    wpAny (model prog w) A (compareOp .NotIn v (.ref a)) Q E s := by
  rw [← any_vEq h2 hv] at h
  refine SeqAt.notIn_listAt (vEq · v) hl (fun y hy => ?_) (by simpa using h)
  obtain ⟨p, _, hp⟩ := h2.mem (v := y) (by simpa using hy)
  exact vEq_at hp hv
end
end
section
noncomputable def itm (two : PySem.Str) (n k : Int) : PySem.Str := Txt.item (Str.ofString "ABCDEFGHIJKLMNOPQRSTUVWXYZabcdefghijklmnopqrstuvwxyz0123456789" ++ two) ((n.fdiv (64 ^ Int.toNat k)).fmod 64)
noncomputable def sixS (two : PySem.Str) : List UInt8 → PySem.Str
  | [] => Txt.join (Str.ofString "") [] ++ Txt.mul (Str.ofString "=") 0
  | [a] => Txt.join (Str.ofString "") [itm two (((0 * 256 + (a.toNat : Int)) * 256 + 0) * 256 + 0) 3, itm two (((0 * 256 + (a.toNat : Int)) * 256 + 0) * 256 + 0) 2] ++ Txt.mul (Str.ofString "=") 2
  | [a, b] => Txt.join (Str.ofString "") [itm two (((0 * 256 + (a.toNat : Int)) * 256 + (b.toNat : Int)) * 256 + 0) 3, itm two (((0 * 256 + (a.toNat : Int)) * 256 + (b.toNat : Int)) * 256 + 0) 2, itm two (((0 * 256 + (a.toNat : Int)) * 256 + (b.toNat : Int)) * 256 + 0) 1] ++ Txt.mul (Str.ofString "=") 1
  | a :: b :: c :: _ => Txt.join (Str.ofString "") [itm two (((0 * 256 + (a.toNat : Int)) * 256 + (b.toNat : Int)) * 256 + (c.toNat : Int)) 3, itm two (((0 * 256 + (a.toNat : Int)) * 256 + (b.toNat : Int)) * 256 + (c.toNat : Int)) 2,
      itm two (((0 * 256 + (a.toNat : Int)) * 256 + (b.toNat : Int)) * 256 + (c.toNat : Int)) 1, itm two (((0 * 256 + (a.toNat : Int)) * 256 + (b.toNat : Int)) * 256 + (c.toNat : Int)) 0] ++ Txt.mul (Str.ofString "=") 0
end
section
noncomputable def fig (c : UInt8) : PySem.Str := Txt.item (Str.ofString "0123456789ABCDEF") ((c.toNat : Int).fdiv 16) ++ Txt.item (Str.ofString "0123456789ABCDEF") ((c.toNat : Int).fmod 16)
noncomputable def figS (l : List UInt8) : PySem.Str := Txt.join (Str.ofString "") (l.map fig)
noncomputable def letP (c : UInt8) : Bool := decide (9 < (c.toNat : Int).fdiv 16) || decide (9 < (c.toNat : Int).fmod 16)
noncomputable def highN (n : Int) : Bool := ([0, 1, 2, 3] : List Int).any fun k => decide (61 < (n.fdiv (64 ^ k.toNat)).fmod 64)
end
section
noncomputable def tabOf (kindOf : PySem.Str → Option NameKind) : List (PySem.Str × Value) → List (PySem.Str × Value) → List (PySem.Str × Value)
  | [], l => l
  | (n, v) :: r, l => tabOf kindOf r (if kindOf n = some .local then (n, v) :: l else l)
theorem tabOf_eq (kindOf : PySem.Str → Option NameKind) : ∀ (b l : List (PySem.Str × Value)), bindL kindOf b (fun y => List.lookup y l) = fun y => List.lookup y (tabOf kindOf b l)
  | [], _ => rfl
  | (n, v) :: r, l => by
    simp only [bindL, tabOf]
    by_cases e : kindOf n = some .local
    · rw [if_pos e, if_pos e, ← tabOf_eq kindOf r]
      congr 1
      funext y
      by_cases q : y = n
      · subst q; simp [List.lookup]
      · have : (y == n) = false := by simpa using q
        simp [List.lookup, q, this]
    · rw [if_neg e, if_neg e]; exact tabOf_eq kindOf r l
theorem call_hereCV {k ku : Nat} {w : World} {A : Around} {hp : Heap} {gs : Array GenState} {dr : Drawn} {tk₀ : Nat} {os : OsState} {E Q : Value → Shared → Prop}
    {name qual : PySem.Str} {params : Arguments} {body : List Stmt} {scope : Scope} {dV kV doc pm cdv ct oc : Value} {an od : Option Addr} {osl : Array (Option Value)} {f : Addr} {args : List Value} {kw : List (PySem.Str × Value)} {binds : List (PySem.Str × Value)}
    (H : Here w A hp) (hdp : A.depth + (k + 1) < recursionLimit) (hun : A.units + ku < cLine)
    (ho : (hd.heap_39 w.params).lookup f = some ⟨oc, od, .func (fnOf name qual params body scope dV kV doc pm an cdv ct), osl⟩) (hcd : codeIn (hd.heap_39 w.params) cdv qual = true)
    (hbind : (hd.heap_39 w.params).In hp → BindsTo ⟨hp, gs, dr, tk₀, os⟩ (fnOf name qual params body scope dV kV doc pm an cdv ct) ⟨args, kw⟩ binds)
    (hkind : (binds.all fun y => scope.names.lookup y.1 == some .local || scope.names.lookup y.1 == some .cell) = true)
    (hnd : ((cellsFrom 0 scope.names []).map (·.1)).Nodup)
    (h : ∀ (dp un : Nat) (gd : Option (List Code)) (fr : Option (List Env)) (A₀ : Around) (env : Env) (outer : List Env) (mean : ExcName → Option Value) (mg mb : PySem.Str → Option Value) (base : Heap) (g : Heap) (L' : Addr) (h₁ : Heap) (tk : Nat) (cells : List (Addr × Obj)),
      dp + k < recursionLimit → un + (ku - 3) < cLine → GSub hp g [] → Fr g L' h₁ (fun y => List.lookup y (tabOf (envOfC qual scope L' f cdv).kindOf binds [])) → News g L' h₁ cells →
      CellsAre (bindC (envOfC qual scope L' f cdv).kindOf binds fun _ => none) (cellsFrom (L' + 1) scope.names []) cells →
      Below A₀ base (env :: outer) g → (hd.heap_39 w.params).In g → Top topProg lse mean mg mb g → fr = some (envOfC qual scope L' f cdv :: env :: outer) →
      wpAny (model prg w) { handled := none, depth := dp, frames := fr, guards := gd, units := un } (execs body (envOfC qual scope L' f cdv))
        (fun fl s' => SpDone hp g Q (match fl with | .ret v => v | _ => .none) s')
        (fun e s' => wpAny (model prg w) { handled := none, depth := dp, frames := fr, guards := gd, units := un } (leaving (envOfC qual scope L' f cdv) e) (fun _ s'' => E e s'') (fun e' s'' => E e' s'') s')
        ⟨h₁, gs, dr, tk, os⟩)
    (hco : scope.isCoroutine = false) (hgen : scope.isGenerator = false) (hk : scope.kind = .function) (h3 : 3 ≤ ku) : wpAny (model prg w) A (call (.ref f) args kw) Q E ⟨hp, gs, dr, tk₀, os⟩ :=
  call_hereC (k := k) (ku := ku) H hdp hun ho hcd hbind hkind hnd (fun dp un gd env outer mean mg mb base g L' h₁ tk cells hdp' hun' G F N Y B X T =>
    h (dp + 1) (un + 3) gd (some (envOfC qual scope L' f cdv :: env :: outer)) { handled := none, depth := dp, frames := some (env :: outer), guards := gd, units := un } env outer mean mg mb base g L' h₁ tk cells
      (by omega) (by omega) G (tabOf_eq _ binds [] ▸ F) N Y B X T rfl) hco hgen hk
section
variable {M : Model} {A : Around} {E : Value → Shared → Prop} {h₀ : Heap} {L a : Addr} {m : PySem.Str → Option Value} {cn : PySem.Str} {cs : Scope} {ccd : Value} {cl : List (PySem.Str × Addr)} {x : PySem.Str} {news : List (Addr × Obj)} {g : Obj → List (Addr × Obj)} {c : Addr} {o : Obj} {v₀ : Option Value}
  {hp : Heap} {gs : Array GenState} {dr : Drawn} {tk₀ : Nat} {os : OsState}
theorem putc_any {v : Value} {Q : Unit → Shared → Prop} (F : Fr h₀ L hp m) (N : News h₀ L hp news) (hk : cs.kind = .function) (hx : (envX cn cs L a ccd cl).kindOf x = some .cell) (hc : cl.lookup x = some c) (U : UpdF c o news g) (hd : o.data = .cell v₀)
    (h : ∀ h' o' tk, Fr h₀ L h' m → News h₀ L h' (g o') → o'.data = .cell (some v) → Q () ⟨h', gs, dr, tk, os⟩) : wpAny M A (storeName (envX cn cs L a ccd cl) x v) Q E ⟨hp, gs, dr, tk₀, os⟩ :=
  storeX_C (s := ⟨hp, gs, dr, tk₀, os⟩) F N hc U hd (fun h' o' F' N' d' => h h' o' _ F' N' d') hk hx
theorem putc_int {i : Int} {t : Tok} {Q : Unit → Shared → Prop} (F : Fr h₀ L hp m) (N : News h₀ L hp news) (hk : cs.kind = .function) (hx : (envX cn cs L a ccd cl).kindOf x = some .cell) (hc : cl.lookup x = some c) (U : UpdF c o news g) (hd : o.data = .cell v₀)
    (h : ∀ t h' o' tk, Fr h₀ L h' m → News h₀ L h' (g o') → o'.data = .cell (some (.int i t)) → Q () ⟨h', gs, dr, tk, os⟩) : wpAny M A (storeName (envX cn cs L a ccd cl) x (.int i t)) Q E ⟨hp, gs, dr, tk₀, os⟩ :=
  putc_any F N hk hx hc U hd (h t)
theorem putc_str {i : PySem.Str} {t : Tok} {Q : Unit → Shared → Prop} (F : Fr h₀ L hp m) (N : News h₀ L hp news) (hk : cs.kind = .function) (hx : (envX cn cs L a ccd cl).kindOf x = some .cell) (hc : cl.lookup x = some c) (U : UpdF c o news g) (hd : o.data = .cell v₀)
    (h : ∀ t h' o' tk, Fr h₀ L h' m → News h₀ L h' (g o') → o'.data = .cell (some (.str i t)) → Q () ⟨h', gs, dr, tk, os⟩) : wpAny M A (storeName (envX cn cs L a ccd cl) x (.str i t)) Q E ⟨hp, gs, dr, tk₀, os⟩ :=
  putc_any F N hk hx hc U hd (h t)
end
end
section
example : True := by
  k_with_none
  (k_with "sp enter" => ((w_top off; have hfill : PySem.Challenge.rw_kq0048_01 = PySem.Challenge.rw_kq0048_01 ∧ hd.heap_39 = hd.heap_39 := by (k_fill; exact ⟨rfl, rfl⟩)); clear hfill; k_dflt (refine call_here (by assumption) (by assumption) (by assumption) (by k_is) (by k_is) (by (intro X9; first | exact BindsTo.of_eq rfl | exact binds_K (by assumption) rfl (by k_is) rfl rfl rfl)) (by exact locs rfl) ?_ (by exact rfl) (by exact rfl) (by exact rfl) (by decide)); k_whole; intro dp' un' gd' env' outer' mean' mg' mb' base' g' L' h' hdp' hun' kG' F' N' B' X' T'; (try dsimp only); (try k_fold)))
  (k_with "SpDone" => ((refine SpDone.intro (by k_asm) ?_); intro st9))
  (k_with "call type:type" => (k_here; (with_reducible show wpAny _ _ (call _ [Value.bytes _ _]) _ _ _); refine call_type_of (Tx := "bytes") rfl (by decide +kernel) ?_))
  (k_with "sp kept" => (intro t9 h9 tk9 st9; (try dsimp only at st9); rename Fr _ _ _ _ => kF; rename News _ _ _ _ => kN; (k_dflt (have kF' := Fr.keeps kF st9)); (k_dflt (have kN' := News.grown kN st9)); clear kF kN st9))
  (k_with "sp here" => k_dflt (exact Here.mk (by k_asm) (by k_asm) (by k_asm) (by k_asm) rfl rfl rfl rfl))
  (k_with "sp and" => first | with_reducible assumption | with_reducible exact Ne.symm (by assumption) | with_reducible exact Nat.ne_of_gt (by assumption) | with_reducible exact Nat.ne_of_lt (by assumption) | (simp only [ne_eq, not_false_eq_true, *]; done) | (apply Ne.symm; simp only [ne_eq, not_false_eq_true, *]; done))
  (k_with "sp sub" => first | with_reducible exact sub_0 _ | with_reducible exact sub_1 _ _ | with_reducible exact sub_2 _ _ _ | with_reducible exact sub_3 _ _ _ _ | with_reducible exact sub_4 _ _ _ _ _ | with_reducible exact sub_5 _ _ _ _ _ _)
  (k_with "sp put" => first | exact Put.nil | with_reducible exact Put.hit | (apply Put.skip; (focus decide); walk_at "sp put"))
  (k_with "storeName" => (k_here; k_dflt (refine put_any (by k_asm) (by k_asm) (by rfl) (by rfl) (by walk_at "sp put") ?_); intro h' k' F' N'; (try k_sweep); (try dsimp only)))
  (k_with "storeName" => (k_here; (with_reducible show wpAny _ _ (storeName _ _ (Value.str _ _)) _ _ _); k_dflt (refine put_str (by k_asm) (by k_asm) (by rfl) (by rfl) (by intro tp; walk_at "sp put") ?_); intro t' h' k' F' N'; (try k_sweep); (try dsimp only)))
  (k_with "storeName" => (k_here; (with_reducible show wpAny _ _ (storeName _ _ (Value.bytes _ _)) _ _ _); k_dflt (refine put_bytes (by k_asm) (by k_asm) (by rfl) (by rfl) (by intro tp; walk_at "sp put") ?_); intro t' h' k' F' N'; (try k_sweep); (try dsimp only)))
  (k_with "storeName" => (k_here; (with_reducible show wpAny _ _ (storeName _ _ (Value.int _ _)) _ _ _); k_dflt (refine put_int (by k_asm) (by k_asm) (by rfl) (by rfl) (by intro tp; walk_at "sp put") ?_); intro t' h' k' F' N'; (try k_sweep); (try dsimp only)))
  (k_with "eval Name" => (k_here; k_dflt (refine nm_L (by k_asm) (by rfl) (by rfl) (by decide) (by exact Eq.refl (some _)) ?_)))
  (k_with "pyIter bytes" => (k_here; (with_reducible show wpAny _ _ (pyIter (Value.bytes _ _)) (fun it s₂ => LoopAtV _ _ _ _ _ _ _ _ _ it s₂) _ _); (rename Fr _ _ _ _ => lF'); (rename News _ _ _ _ => lN'); (k_dflt (refine iter_bytesUnr (by assumption) lF' lN' (by first | assumption | kba_ints2) ?_)); clear lF' lN'; intro i' l1; (try k_lt l1)))
  (k_with "BytesRest" => ((first | ((with_reducible show BytesRest _ _ _ _ _ _ _ _ _ _ _ (_ :: _) _ _); k_dflt (refine bytes_succ (by intro tp; walk_at "sp put") ?_); intro b0' b1' u' it' h' tk' F' N') | ((with_reducible show BytesRest _ _ _ _ _ _ _ _ _ _ _ (List.map _ _) _ _); (rename List UInt8 => l9); (rename List.length _ ≤ 3 => h9); cases l9 <;> (first | exact (no4 h9).elim | dsimp only [List.map])) | (k_dflt (refine bytes_zero ?_); intro h' tk' F' N'))))
  (k_with "execs cons" => (k_here; (try k_fold); (with_reducible refine wpAny_execs_cons ?_); (try dsimp only); k_fold))
  (k_with "sp room" => exact room9 (by assumption) (by decide))
  (k_with "sp units" => exact units9 (by assumption) (by decide))
  (k_with "sp here" => k_dflt (exact Here.mk (by k_asm) (by k_asm) (by k_asm) (by k_asm) (by first | assumption | rfl) rfl rfl (by first | assumption | rfl)))
  (k_with "sp enterV" => ((w_top off; have hfill : PySem.Challenge.rw_kq0048_01 = PySem.Challenge.rw_kq0048_01 ∧ hd.heap_39 = hd.heap_39 := by (k_fill; exact ⟨rfl, rfl⟩)); clear hfill; k_dflt (refine call_hereV (by assumption) (by assumption) (by assumption) (by k_is) (by k_is) (by (intro X9; first | exact BindsTo.of_eq rfl | exact binds_K (by assumption) rfl (by k_is) rfl rfl rfl)) (by exact locs rfl) ?_ (by exact rfl) (by exact rfl) (by exact rfl) (by decide) (by decide)); k_whole; intro A' A0' env' outer' mean' mg' mb' base' g' L' h' tk' hdp' hun' kG' F' N' B' X' T' hh' hf'; (try dsimp only)))
  (k_with "sp enterC" => ((w_top off; have hfill : PySem.Challenge.rw_kq0048_01 = PySem.Challenge.rw_kq0048_01 ∧ hd.heap_39 = hd.heap_39 := by (k_fill; exact ⟨rfl, rfl⟩)); clear hfill; k_dflt (refine call_hereC (by assumption) (by assumption) (by assumption) (by k_is) (by k_is) (by (intro X9; first | exact BindsTo.of_eq rfl | exact binds_K (by assumption) rfl (by k_is) rfl rfl rfl)) (by exact rfl) (by decide +kernel) ?_ (by exact rfl) (by exact rfl) (by exact rfl)); k_whole; intro dp' un' gd' env' outer' mean' mg' mb' base' g' L' h' tk' cells' hdp' hun' kG' F' N' Y' B' X' T'; k_cells Y'; (try simp only [List.cons_append, List.nil_append] at N'); (try dsimp only); (try k_fold)))
  trivial
noncomputable def TV {α : Type} (f : α → PySem.Str) (a : α) (v : Value) : Prop := ∃ u, v = .str (f a) u
theorem Rel.strs {α : Type} {f : α → PySem.Str} : ∀ {l : List α} {ys : List Value}, Rel (TV f) l ys → StrsAre ys (l.map f)
  | _, _, .nil => .nil
  | _, _, .cons ⟨u, h⟩ r => by subst h; exact .cons _ u (Rel.strs r)
theorem sum_len2 {α : Type} {f : α → PySem.Str} (h2 : ∀ a, (f a).length ≤ 2) : ∀ l : List α, ((l.map f).map (·.length)).sum ≤ 2 * l.length
  | [] => by simp
  | a :: l => by
    have := sum_len2 h2 l
    have := h2 a
    simp only [List.map_cons, List.sum_cons, List.length_cons]; omega
section
variable {prog : Program} {w : World} {A : Around} {E : Value → Shared → Prop} {h₀ : Heap} {L : Addr} {m : PySem.Str → Option Value} {env : Env}
theorem join_rel {α : Type} {f : α → PySem.Str} {l : List α} {ys : List Value} {s : Shared} {news : List (Addr × Obj)} {D : Addr} {x : PySem.Str} {t : Tok} {Q : Value → Shared → Prop} (N : News h₀ L s.heap news) (hm : (D, LCg.lst ys) ∈ news) (r : Rel (TV f) l ys) (h2 : ∀ a, (f a).length ≤ 2) (hl : l.length ≤ 1000) (hsep : x.length ≤ 64)
    (h : ∀ t' k, Q (.str (Txt.join x (l.map f)) t') { s with toks := k }) : wpAny (model prog w) A (call (.builtin "str.join") [.str x t, .ref D]) Q E s := by
  have hi : s.heap.IsList D ys.toArray := ⟨_, N.get hm, rfl, _, rfl⟩
  refine join_listC hi r.strs hsep ?_ h
  have := sum_len2 h2 l
  rw [List.length_map]; omega
theorem SrcB.gen {elt : PySem.Expr} {x : PySem.Str} {scope : Scope} {cl : List (PySem.Str × Addr)} {Fin : Shared → List Value → List (Addr × Obj) → Prop} {l : List UInt8} {t : Tok} {news : List (Addr × Obj)} {s₁ : Shared} (f : UInt8 → PySem.Str)
    (hh : A.handled = none) (F : Fr h₀ L s₁.heap m) (N : News h₀ L s₁.heap news) (hsz : l.toArray.size ≤ 1000)
    (turn : ∀ (s : Shared) (a : UInt8) (u : Tok) I oI C oC D ys m₂ h tk (E' : Value → Shared → Prop), LCg.NsObj oC m₂ → m₂ x = some (.int (a.toNat : Int) u) → Fr h₀ L h m → News h₀ L h ((I, oI) :: (C, oC) :: (D, LCg.lst ys) :: news) → LCg.Off3 I C D news → ((@Ne Nat I C) ∧ (@Ne Nat I D) ∧ (@Ne Nat C D)) →
      wpAny (model prog w) A (eval elt (compEnvC scope cl C env)) (Turn h₀ L m { s with heap := h, toks := tk } ((I, oI) :: (C, oC) :: (D, LCg.lst ys) :: news) (TV f a)) E' { s with heap := h, toks := tk })
    (fin : ∀ g ys, Rel (TV f) l ys → Fin { s₁ with heap := g } ys news) :
    SrcB prog w A h₀ L m env elt x scope cl Fin (.bytes l.toArray t) s₁ := by
  refine SrcB.mk _ hh F N rfl hsz fun g => ?_
  refine rest_gen l (fun a v => ∃ u, v = .int (a.toNat : Int) u) (TV f) ?_ trivial ?_ (fin g) _ (by simp)
  · intro i v _ hv
    obtain ⟨c, u, h1, h2⟩ := hv
    exact ⟨c, by simpa using h1, u, h2⟩
  · intro a v I oI C oC D ys m₂ h tk E' ha hin hC hx F' N' off ne
    obtain ⟨u, rfl⟩ := hin
    exact turn _ a u I oI C oC D ys m₂ h tk E' hC hx F' N' off ne
end
example : True := by
  (k_with "eval ListComp" => (k_here; k_dflt (refine ListComp_UB (by k_asm) (by rfl) (by decide) (by rfl) (by decide) (by rfl) ?_)))
  (k_with "SrcB" => (k_here; k_dflt (refine SrcB.gen fig (by first | assumption | rfl) (by k_asm) (by k_asm) (by assumption) ?_ ?_); (all_goals (first | (intro s a u I oI C oC D ys m₂ h tk E' hC hx F' N' off ne; (try simp only [LCg.Off3, and_true] at off)) | intro g' ys hys))))
  (k_with "Turn" => (k_here; (rename Fr _ _ _ _ => kF); (rename News _ _ _ _ => kN); k_dflt (refine Turn.intro kF kN (by lcg_sub) ?_)))
  trivial
theorem fig_len (a : UInt8) : (fig a).length ≤ 2 := by
  have e : (fig a).length = (Txt.item (Str.ofString "0123456789ABCDEF") ((a.toNat : Int).fdiv 16)).length + (Txt.item (Str.ofString "0123456789ABCDEF") ((a.toNat : Int).fmod 16)).length := Str.length_append _ _
  have h (x : PySem.Str) (i : Int) : (Txt.item x i).length = 1 := rfl
  rw [e, h, h]; decide
example : True := by
  (k_with "call builtin:str.join" => (k_here; (with_reducible show wpAny _ _ (call (Value.builtin _) [Value.str _ _, Value.ref _]) _ _ _); k_dflt (refine join_rel (by k_asm) (by k_mem) (by assumption) fig_len (by assumption) (by decide) ?_); intro _ _))
  trivial
section
variable {prog : Program} {w : World} {A : Around} {E : Value → Shared → Prop} {s : Shared} {Q : Value → Shared → Prop} {x : PySem.Str} {t : Tok} {value slice : PySem.Expr}
theorem item_oct {c : UInt8} {u : Tok} (hx : x.length = 16)
    (h : (1 ≤ (Txt.item x ((c.toNat : Int).fdiv 16)).length ∧ (Txt.item x ((c.toNat : Int).fdiv 16)).length ≤ 1) → Q (.str (Txt.item x ((c.toNat : Int).fdiv 16)) s.toks) { s with toks := s.toks + 1 })
    (hs : subscripted slice false (.str x t) (.int ((c.toNat : Int).fdiv 16) u) = operate [.str x t, .int ((c.toNat : Int).fdiv 16) u] (getItem (.str x t) (.int ((c.toNat : Int).fdiv 16) u)) := by with_unfolding_all rfl)
    (ht : ∀ r, letTemporaryGo value (.str x t) r = pure () := by intro _; with_unfolding_all rfl) :
    wpAny (model prog w) A (subscriptTail value slice (.str x t) (.int ((c.toNat : Int).fdiv 16) u)) Q E s := by
  have h1 := c.toNat_lt
  have e : (c.toNat : Int).fdiv 16 = ((c.toNat / 16 : Nat) : Int) := by rw [Int.fdiv_eq_ediv_of_nonneg _ (by decide)]; rfl
  exact item_str (fitsSsize_of (N := 9223372036854775808) (by rw [e]; omega) (by rw [e]; omega) (Int.le_refl _)) (by rw [e]; omega) (by rw [e, hx]; omega) h hs ht
end
theorem len16 : (Str.ofString "0123456789ABCDEF").length = 16 := by decide +kernel
example : True := by
  (k_with "subscriptTail" => (k_here; (with_reducible show wpAny _ _ (subscriptTail _ _ (Value.str _ _) (Value.int (Int.fdiv _ 16) _)) _ _ _); (refine item_oct len16 ?_); intro _))
  (k_with "subscriptTail" => (k_here; (with_reducible show wpAny _ _ (subscriptTail _ _ (Value.str _ _) (Value.int (Int.fmod _ 16) _)) _ _ _); (refine item_str_fmod (by decide) (by rw [len16]; decide) (by rw [len16]; decide) ?_); intro _))
  trivial
set_option maxHeartbeats 8000000 in
theorem fig_specL {w : World} {A : Around} {s : Shared} {E Q : Value → Shared → Prop} {l9 : List UInt8} {t : Tok} (hl9 : l9.toArray.size ≤ 1000)
    (H : Here w A s.heap) (hdp : A.depth + (3 + 1) < recursionLimit) (hun : A.units + 300 < cLine)
    (hQ : ∀ h' tk' t', s.heap.StaysIn h' → Q (.str (figS l9) t') { s with heap := h', toks := tk' }) :
    wpAny (model prg w) A (call (.ref 235) [.bytes l9.toArray t]) Q E s := by
  obtain ⟨hp, gs, dr, tk0, os⟩ := s
  dsimp only at H hQ
  have hl : l9.length ≤ 1000 := by simpa using hl9
  walk_at "sp enterV"
  k_fold
  (rename Fr _ _ _ _ => F9; have F8 : Fr _ _ _ (fun y => List.lookup y [(PySem.Str.ofString "row", .bytes l9.toArray t)]) := F9; clear F9)
  k_steps
  all_goals first
    | exact ⟨_, rfl⟩
    | exact hQ _ _ _ (by assumption)
end
section
example : True := by
  k_with_none
  (k_with "sp enter" => ((w_top off; have hfill : PySem.Challenge.rw_kq0048_01 = PySem.Challenge.rw_kq0048_01 ∧ hd.heap_39 = hd.heap_39 := by (k_fill; exact ⟨rfl, rfl⟩)); clear hfill; k_dflt (refine call_here (by assumption) (by assumption) (by assumption) (by k_is) (by k_is) (by (intro X9; first | exact BindsTo.of_eq rfl | exact binds_K (by assumption) rfl (by k_is) rfl rfl rfl)) (by exact locs rfl) ?_ (by exact rfl) (by exact rfl) (by exact rfl) (by decide)); k_whole; intro dp' un' gd' env' outer' mean' mg' mb' base' g' L' h' hdp' hun' kG' F' N' B' X' T'; (try dsimp only); (try k_fold)))
  (k_with "SpDone" => ((refine SpDone.intro (by k_asm) ?_); intro st9))
  (k_with "call type:type" => (k_here; (with_reducible show wpAny _ _ (call _ [Value.bytes _ _]) _ _ _); refine call_type_of (Tx := "bytes") rfl (by decide +kernel) ?_))
  (k_with "sp kept" => (intro t9 h9 tk9 st9; (try dsimp only at st9); rename Fr _ _ _ _ => kF; rename News _ _ _ _ => kN; (k_dflt (have kF' := Fr.keeps kF st9)); (k_dflt (have kN' := News.grown kN st9)); clear kF kN st9))
  (k_with "sp here" => k_dflt (exact Here.mk (by k_asm) (by k_asm) (by k_asm) (by k_asm) rfl rfl rfl rfl))
  (k_with "sp enterC" => ((w_top off; have hfill : PySem.Challenge.rw_kq0048_01 = PySem.Challenge.rw_kq0048_01 ∧ hd.heap_39 = hd.heap_39 := by (k_fill; exact ⟨rfl, rfl⟩)); clear hfill; k_dflt (refine call_hereC (by assumption) (by assumption) (by assumption) (by k_is) (by k_is) (by (intro X9; first | exact BindsTo.of_eq rfl | exact binds_K (by assumption) rfl (by k_is) rfl rfl rfl)) (by exact rfl) (by decide +kernel) ?_ (by exact rfl) (by exact rfl) (by exact rfl)); k_whole; intro dp' un' gd' env' outer' mean' mg' mb' base' g' L' h' tk' cells' hdp' hun' kG' F' N' Y' B' X' T'; k_cells Y'; (try simp only [List.cons_append, List.nil_append] at N'); (try dsimp only); (try k_fold)))
  (k_with "sp and" => first | with_reducible assumption | with_reducible exact Ne.symm (by assumption) | with_reducible exact Nat.ne_of_gt (by assumption) | with_reducible exact Nat.ne_of_lt (by assumption) | (simp only [ne_eq, not_false_eq_true, *]; done) | (apply Ne.symm; simp only [ne_eq, not_false_eq_true, *]; done))
  (k_with "sp sub" => first | with_reducible exact sub_0 _ | with_reducible exact sub_1 _ _ | with_reducible exact sub_2 _ _ _ | with_reducible exact sub_3 _ _ _ _ | with_reducible exact sub_4 _ _ _ _ _ | with_reducible exact sub_5 _ _ _ _ _ _)
  (k_with "sp put" => first | exact Put.nil | with_reducible exact Put.hit | (apply Put.skip; (focus decide); walk_at "sp put"))
  (k_with "storeName" => (k_here; k_dflt (refine put_any (by k_asm) (by k_asm) (by rfl) (by rfl) (by walk_at "sp put") ?_); intro h' k' F' N'; (try k_sweep); (try dsimp only)))
  (k_with "storeName" => (k_here; (with_reducible show wpAny _ _ (storeName _ _ (Value.str _ _)) _ _ _); k_dflt (refine put_str (by k_asm) (by k_asm) (by rfl) (by rfl) (by intro tp; walk_at "sp put") ?_); intro t' h' k' F' N'; (try k_sweep); (try dsimp only)))
  (k_with "storeName" => (k_here; (with_reducible show wpAny _ _ (storeName _ _ (Value.bytes _ _)) _ _ _); k_dflt (refine put_bytes (by k_asm) (by k_asm) (by rfl) (by rfl) (by intro tp; walk_at "sp put") ?_); intro t' h' k' F' N'; (try k_sweep); (try dsimp only)))
  (k_with "storeName" => (k_here; (with_reducible show wpAny _ _ (storeName _ _ (Value.int _ _)) _ _ _); k_dflt (refine put_int (by k_asm) (by k_asm) (by rfl) (by rfl) (by intro tp; walk_at "sp put") ?_); intro t' h' k' F' N'; (try k_sweep); (try dsimp only)))
  (k_with "eval Name" => (k_here; k_dflt (refine nm_L (by k_asm) (by rfl) (by rfl) (by decide) (by exact Eq.refl (some _)) ?_)))
  (k_with "pyIter bytes" => (k_here; (with_reducible show wpAny _ _ (pyIter (Value.bytes _ _)) (fun it s₂ => LoopAtV _ _ _ _ _ _ _ _ _ it s₂) _ _); (rename Fr _ _ _ _ => lF'); (rename News _ _ _ _ => lN'); (k_dflt (refine iter_bytesUnr (by assumption) lF' lN' (by first | assumption | kba_ints2) ?_)); clear lF' lN'; intro i' l1; (try k_lt l1)))
  (k_with "BytesRest" => ((first | ((with_reducible show BytesRest _ _ _ _ _ _ _ _ _ _ _ (_ :: _) _ _); k_dflt (refine bytes_succ (by intro tp; walk_at "sp put") ?_); intro b0' b1' u' it' h' tk' F' N') | ((with_reducible show BytesRest _ _ _ _ _ _ _ _ _ _ _ (List.map _ _) _ _); (rename List UInt8 => l9); (rename List.length _ ≤ 3 => h9); cases l9 <;> (first | exact (no4 h9).elim | dsimp only [List.map])) | (k_dflt (refine bytes_zero ?_); intro h' tk' F' N'))))
  (k_with "execs cons" => (k_here; (try k_fold); (with_reducible refine wpAny_execs_cons ?_); (try dsimp only); k_fold))
  (k_with "sp room" => exact room9 (by assumption) (by decide))
  (k_with "sp units" => exact units9 (by assumption) (by decide))
  (k_with "sp here" => k_dflt (exact Here.mk (by k_asm) (by k_asm) (by k_asm) (by k_asm) (by first | assumption | rfl) rfl rfl (by first | assumption | rfl)))
  (k_with "sp enterV" => ((w_top off; have hfill : PySem.Challenge.rw_kq0048_01 = PySem.Challenge.rw_kq0048_01 ∧ hd.heap_39 = hd.heap_39 := by (k_fill; exact ⟨rfl, rfl⟩)); clear hfill; k_dflt (refine call_hereV (by assumption) (by assumption) (by assumption) (by k_is) (by k_is) (by (intro X9; first | exact BindsTo.of_eq rfl | exact binds_K (by assumption) rfl (by k_is) rfl rfl rfl)) (by exact locs rfl) ?_ (by exact rfl) (by exact rfl) (by exact rfl) (by decide) (by decide)); k_whole; intro A' A0' env' outer' mean' mg' mb' base' g' L' h' tk' hdp' hun' kG' F' N' B' X' T' hh' hf'; (try dsimp only)))
  (k_with "storeName" => (k_here; k_dflt (refine putc_any (by k_asm) (by k_asm) (by rfl) (by rfl) (by rfl) (by k_updF) (by k_asm) ?_); intro h' o' k' F' N' d'; (try dsimp only at N'); (try k_sweep); (try dsimp only)))
  (k_with "storeName" => (k_here; (with_reducible show wpAny _ _ (storeName _ _ (Value.str _ _)) _ _ _); k_dflt (refine putc_str (by k_asm) (by k_asm) (by rfl) (by rfl) (by rfl) (by k_updF) (by k_asm) ?_); intro t' h' o' k' F' N' d'; (try dsimp only at N'); (try k_sweep); (try dsimp only)))
  (k_with "storeName" => (k_here; (with_reducible show wpAny _ _ (storeName _ _ (Value.int _ _)) _ _ _); k_dflt (refine putc_int (by k_asm) (by k_asm) (by rfl) (by rfl) (by rfl) (by k_updF) (by k_asm) ?_); intro t' h' o' k' F' N' d'; (try dsimp only at N'); (try k_sweep); (try dsimp only)))
  (k_with "sp enterCV" => ((w_top off; have hfill : PySem.Challenge.rw_kq0048_01 = PySem.Challenge.rw_kq0048_01 ∧ hd.heap_39 = hd.heap_39 := by (k_fill; exact ⟨rfl, rfl⟩)); clear hfill; k_dflt (refine call_hereCV (by assumption) (by assumption) (by assumption) (by k_is) (by k_is) (by (intro X9; first | exact BindsTo.of_eq rfl | exact binds_K (by assumption) rfl (by k_is) rfl rfl rfl)) (by exact rfl) (by decide +kernel) ?_ (by exact rfl) (by exact rfl) (by exact rfl) (by decide)); k_whole; intro dp' un' gd' fr' A0' env' outer' mean' mg' mb' base' g' L' h' tk' cells' hdp' hun' kG' F' N' Y' B' X' T' hf'; k_cells Y'; (try simp only [List.cons_append, List.nil_append] at N'); (try dsimp only)))
  trivial
theorem pow8_ne (k : Int) : (8:Int)^k.toNat ≠ 0 := Int.ne_of_gt (Int.pow_pos (by decide))
theorem pow8_small {k : Int} (h1 : k < 4) : ((8:Int)^k.toNat).natAbs < 1073741824 := by
  have h : k.toNat < 4 := by omega
  generalize k.toNat = n at h
  match n, h with
  | 0, _ => decide
  | 1, _ => decide
  | 2, _ => decide
  | 3, _ => decide
noncomputable def OI (x k : Int) (v : Value) : Prop := ∃ t, v = .int ((oct (dig x k)).toNat : Int) t
theorem OI.ints {x : Int} : ∀ {ks : List Int} {ys : List Value}, Rel (OI x) ks ys → IntsAre ys (ks.map fun k => ((oct (dig x k)).toNat : Int))
  | _, _, .nil => .nil
  | _, _, .cons ⟨u, h⟩ r => by subst h; exact .cons _ u (OI.ints r)
theorem oct_getD : ∀ d : Fin 8, ([0, 62, 251, 255, 190, 239, 63, 7] : List Int).getD d.val 0 = ((oct d).toNat : Int) := by decide +kernel
theorem oct_back : ∀ d : Fin 8, (((oct d).toNat : Int)).toNat.toUInt8 = oct d := by decide +kernel
theorem ints_8 {a b c d e f g h : Int} {t0 t1 t2 t3 t4 t5 t6 t7 : Tok} : IntsAre [.int a t0, .int b t1, .int c t2, .int d t3, .int e t4, .int f t5, .int g t6, .int h t7] [a, b, c, d, e, f, g, h] := .cons _ _ (.cons _ _ (.cons _ _ (.cons _ _ ints_4)))
section
variable {prog : Program} {w : World} {A : Around} {E : Value → Shared → Prop} {h₀ : Heap} {L : Addr} {m : PySem.Str → Option Value} {env : Env}
theorem oct_item {x k : Int} {u : Tok} {s : Shared} {news : List (Addr × Obj)} {D : Addr} {c : Nat} {t0 t1 t2 t3 t4 t5 t6 t7 : Tok} {value slice : PySem.Expr} {Q : Value → Shared → Prop} (N : News h₀ L s.heap news) (hm : (D, W.listOf #[.int 0 t0, .int 62 t1, .int 251 t2, .int 255 t3, .int 190 t4, .int 239 t5, .int 63 t6, .int 7 t7] c) ∈ news)
    (hs : subscripted slice false (.ref D) (.int (((x.fdiv 4).fdiv (8 ^ k.toNat)).fmod 8) u) = operate [.ref D, .int (((x.fdiv 4).fdiv (8 ^ k.toNat)).fmod 8) u] (getItem (.ref D) (.int (((x.fdiv 4).fdiv (8 ^ k.toNat)).fmod 8) u)))
    (h : ∀ t, Q (.int ((oct (dig x k)).toNat : Int) t) s) : wpAny (model prog w) A (subscriptTail value slice (.ref D) (.int (((x.fdiv 4).fdiv (8 ^ k.toNat)).fmod 8) u)) Q E s := by
  have h1 := Int.fmod_nonneg_of_pos ((x.fdiv 4).fdiv (8 ^ k.toNat)) (b := 8) (by decide)
  have h2 := Int.fmod_lt_of_pos ((x.fdiv 4).fdiv (8 ^ k.toNat)) (b := 8) (by decide)
  have hl : s.heap.IsList D ([.int 0 t0, .int 62 t1, .int 251 t2, .int 255 t3, .int 190 t4, .int 239 t5, .int 63 t6, .int 7 t7] : List Value).toArray := ⟨_, N.get hm, rfl, _, rfl⟩
  refine item_anyK hl ints_8 h1 (by simpa using h2) (by omega) (fun t => ?_) hs
  rw [show (((x.fdiv 4).fdiv (8 ^ k.toNat)).fmod 8).toNat = (dig x k).val from rfl, oct_getD]
  exact h t
theorem bytes_rel {x : Int} {ks : List Int} {ys : List Value} {s : Shared} {news : List (Addr × Obj)} {D : Addr} {Q : Value → Shared → Prop} (F : Fr h₀ L s.heap m) (N : News h₀ L s.heap news) (hm : (D, LCg.lst ys) ∈ news) (r : Rel (OI x) ks ys) (hl : ks.length ≤ 1000) (hh : A.handled = none)
    (h : ∀ h' t k, Fr h₀ L h' m → News h₀ L h' news → Q (.bytes (octs (ks.map (dig x))).toArray t) { s with heap := h', toks := k }) : wpAny (model prog w) A (call (.type "bytes") [.ref D]) Q E s := by
  have hI : s.heap.IsList D ys.toArray := ⟨_, N.get hm, rfl, _, rfl⟩
  refine bytes_K F N hI (OI.ints r) ?_ (by rw [r.length, sizeLine_eq]; omega) hh fun h' t k F' N' _ => ?_
  · intro n hn
    obtain ⟨k, _, rfl⟩ := List.mem_map.mp hn
    have := (oct (dig x k)).toNat_lt
    omega
  · have e : (ks.map fun k => ((oct (dig x k)).toNat : Int)).map (fun n => n.toNat.toUInt8) = octs (ks.map (dig x)) := by
      unfold octs
      rw [List.map_map, List.map_map]
      exact List.map_congr_left fun k _ => oct_back _
    rw [e]
    exact h h' t k F' N'
theorem SrcC.octs {elt : PySem.Expr} {x : PySem.Str} {scope : Scope} {cl : List (PySem.Str × Addr)} {Fin : Shared → List Value → List (Addr × Obj) → Prop} {r : Addr} {y : Int} {t u v : Tok} {news : List (Addr × Obj)} {s₁ : Shared}
    (hh : A.handled = none) (F : Fr h₀ L s₁.heap m) (N : News h₀ L s₁.heap news) (hr : IsRange s₁.heap r 0 (y.fmod 4) 1 t u v)
    (turn : ∀ (s : Shared) (k : Int) (u : Tok) I oI C oC D ys m₂ h tk (E' : Value → Shared → Prop), 0 ≤ k → k < 4 → LCg.NsObj oC m₂ → m₂ x = some (.int k u) → Fr h₀ L h m → News h₀ L h ((I, oI) :: (C, oC) :: (D, LCg.lst ys) :: news) → LCg.Off3 I C D news → ((@Ne Nat I C) ∧ (@Ne Nat I D) ∧ (@Ne Nat C D)) →
      wpAny (model prog w) A (eval elt (compEnvC scope cl C env)) (Turn h₀ L m { s with heap := h, toks := tk } ((I, oI) :: (C, oC) :: (D, LCg.lst ys) :: news) (OI y k)) E' { s with heap := h, toks := tk })
    (fin : ∀ g ys, (rangeKs 0 (y.fmod 4 - 0).toNat).length ≤ 1000 → Rel (OI y) (rangeKs 0 (y.fmod 4 - 0).toNat) ys → Fin { s₁ with heap := g } ys news) :
    SrcC prog w A h₀ L m env elt x scope cl Fin (.ref r) s₁ := by
  have h1 := Int.fmod_nonneg_of_pos y (b := 4) (by decide)
  have h2 := Int.fmod_lt_of_pos y (b := 4) (by decide)
  generalize y.fmod 4 = b at h1 h2 hr fin
  have hsm : Builtin.Range.small 0 b 1 = true := by
    obtain ⟨n, rfl⟩ := Int.eq_ofNat_of_zero_le h1
    have : n < 4 := by omega
    match n, this with
    | 0, _ => decide
    | 1, _ => decide
    | 2, _ => decide
    | 3, _ => decide
  have hlen : (rangeKs 0 (b - 0).toNat).length ≤ 1000 := by rw [rangeKs_length]; omega
  refine SrcC.range (b - 0).toNat hh F N hr hsm (rangeSize_nat 0 b) (by omega) fun g => ?_
  refine rest_gen (rangeKs 0 (b - 0).toNat) (fun k v => ∃ u, v = .int k u) (OI y) ?_ trivial ?_ (fun ys r => fin g ys hlen r) _ (rangeKs_length _ _).symm
  · intro i v hi hv
    obtain ⟨t, rfl⟩ := hv
    rw [rangeKs_length] at hi
    refine ⟨0 + (i : Int), ?_, t, by rw [Int.mul_one]⟩
    unfold rangeKs
    rw [List.getElem?_map, List.getElem?_range hi]; rfl
  · intro a v I oI C oC D ys m₂ h tk E' ha hin hC hx F' N' off ne
    obtain ⟨u, rfl⟩ := hin
    have h3 := mem_rangeKs ha
    exact turn _ a u I oI C oC D ys m₂ h tk E' h3.1 (by omega) hC hx F' N' off ne
end
example : True := by
  (k_with "eval ListComp" => (k_here; k_dflt (refine ListComp_UR (by k_asm) (by rfl) (by decide) (by rfl) (by decide) (by rfl) ?_)))
  (k_with "SrcC" => (k_here; k_dflt (refine SrcC.octs (by first | assumption | rfl) (by k_asm) (by k_asm) (by assumption) ?_ ?_); (all_goals (first | (intro s k u I oI C oC D ys m₂ h tk E' hk0 hk4 hC hx F' N' off ne; (try simp only [LCg.Off3, and_true] at off)) | intro g' ys hl hys))))
  (k_with "binaryOp FloorDiv int int" => (k_here; (with_reducible show wpAny _ _ (binaryOp _ _ (Value.int (8 ^ _) _)) _ _ _); (with_reducible refine floordiv_int (pow8_ne _) ?_ (Or.inl (PyProof.noPylong_small (pow8_small (by assumption)))))))
  (k_with "Turn" => (k_here; (rename Fr _ _ _ _ => kF); (rename News _ _ _ _ => kN); k_dflt (refine Turn.intro kF kN (by first | exact sub_1 _ _ | lcg_sub) ?_)))
  (k_with "subscriptTail" => (k_here; (with_reducible show wpAny _ _ (subscriptTail _ _ (Value.ref _) (Value.int (Int.fmod _ 8) _)) _ _ _); k_dflt (refine oct_item (by k_asm) (by k_mem) (by with_unfolding_all rfl) ?_); intro _))
  (k_with "call type:bytes" => (k_here; (with_reducible show wpAny _ _ (call (Value.type _) [Value.ref _]) _ _ _); k_dflt (refine bytes_rel (by k_asm) (by k_asm) (by k_mem) (by assumption) (by assumption) (by first | assumption | rfl) ?_); intro h' t' k' F' N'; (try k_sweep)))
  trivial
set_option maxHeartbeats 8000000 in
theorem octets_spec {w : World} {A : Around} {s : Shared} {E Q : Value → Shared → Prop} {x : Int} {t : Tok}
    (H : Here w A s.heap) (hdp : A.depth + (3 + 1) < recursionLimit) (hun : A.units + 300 < cLine)
    (hQ : ∀ h' tk' t', s.heap.StaysIn h' → Q (.bytes (octs (digs x)).toArray t') { s with heap := h', toks := tk' }) :
    wpAny (model prg w) A (call (.ref 225) [.int x t]) Q E s := by
  obtain ⟨hp, gs, dr, tk0, os⟩ := s
  dsimp only at H hQ
  walk_at "sp enterCV"
  show wpAny _ _ _ _ _ _
  k_fold
  (rename Fr _ _ _ _ => F9; have F8 : Fr _ _ _ (fun y => List.lookup y []) := F9; clear F9)
  k_steps
  all_goals first
    | exact ⟨_, rfl⟩
    | exact hQ _ _ _ (by assumption)
end
section
example : True := by
  k_with_none
  (k_with "sp enter" => ((w_top off; have hfill : PySem.Challenge.rw_kq0048_01 = PySem.Challenge.rw_kq0048_01 ∧ hd.heap_39 = hd.heap_39 := by (k_fill; exact ⟨rfl, rfl⟩)); clear hfill; k_dflt (refine call_here (by assumption) (by assumption) (by assumption) (by k_is) (by k_is) (by (intro X9; first | exact BindsTo.of_eq rfl | exact binds_K (by assumption) rfl (by k_is) rfl rfl rfl)) (by exact locs rfl) ?_ (by exact rfl) (by exact rfl) (by exact rfl) (by decide)); k_whole; intro dp' un' gd' env' outer' mean' mg' mb' base' g' L' h' hdp' hun' kG' F' N' B' X' T'; (try dsimp only); (try k_fold)))
  (k_with "SpDone" => ((refine SpDone.intro (by k_asm) ?_); intro st9))
  (k_with "call type:type" => (k_here; (with_reducible show wpAny _ _ (call _ [Value.bytes _ _]) _ _ _); refine call_type_of (Tx := "bytes") rfl (by decide +kernel) ?_))
  (k_with "sp kept" => (intro t9 h9 tk9 st9; (try dsimp only at st9); rename Fr _ _ _ _ => kF; rename News _ _ _ _ => kN; (k_dflt (have kF' := Fr.keeps kF st9)); (k_dflt (have kN' := News.grown kN st9)); clear kF kN st9))
  (k_with "sp here" => k_dflt (exact Here.mk (by k_asm) (by k_asm) (by k_asm) (by k_asm) rfl rfl rfl rfl))
  (k_with "sp enterC" => ((w_top off; have hfill : PySem.Challenge.rw_kq0048_01 = PySem.Challenge.rw_kq0048_01 ∧ hd.heap_39 = hd.heap_39 := by (k_fill; exact ⟨rfl, rfl⟩)); clear hfill; k_dflt (refine call_hereC (by assumption) (by assumption) (by assumption) (by k_is) (by k_is) (by (intro X9; first | exact BindsTo.of_eq rfl | exact binds_K (by assumption) rfl (by k_is) rfl rfl rfl)) (by exact rfl) (by decide +kernel) ?_ (by exact rfl) (by exact rfl) (by exact rfl)); k_whole; intro dp' un' gd' env' outer' mean' mg' mb' base' g' L' h' tk' cells' hdp' hun' kG' F' N' Y' B' X' T'; k_cells Y'; (try simp only [List.cons_append, List.nil_append] at N'); (try dsimp only); (try k_fold)))
  (k_with "sp and" => first | with_reducible assumption | with_reducible exact Ne.symm (by assumption) | with_reducible exact Nat.ne_of_gt (by assumption) | with_reducible exact Nat.ne_of_lt (by assumption) | (simp only [ne_eq, not_false_eq_true, *]; done) | (apply Ne.symm; simp only [ne_eq, not_false_eq_true, *]; done))
  (k_with "sp sub" => first | with_reducible exact sub_0 _ | with_reducible exact sub_1 _ _ | with_reducible exact sub_2 _ _ _ | with_reducible exact sub_3 _ _ _ _ | with_reducible exact sub_4 _ _ _ _ _ | with_reducible exact sub_5 _ _ _ _ _ _)
  (k_with "sp put" => first | exact Put.nil | with_reducible exact Put.hit | (apply Put.skip; (focus decide); walk_at "sp put"))
  (k_with "storeName" => (k_here; k_dflt (refine put_any (by k_asm) (by k_asm) (by rfl) (by rfl) (by walk_at "sp put") ?_); intro h' k' F' N'; (try k_sweep); (try dsimp only)))
  (k_with "storeName" => (k_here; (with_reducible show wpAny _ _ (storeName _ _ (Value.str _ _)) _ _ _); k_dflt (refine put_str (by k_asm) (by k_asm) (by rfl) (by rfl) (by intro tp; walk_at "sp put") ?_); intro t' h' k' F' N'; (try k_sweep); (try dsimp only)))
  (k_with "storeName" => (k_here; (with_reducible show wpAny _ _ (storeName _ _ (Value.bytes _ _)) _ _ _); k_dflt (refine put_bytes (by k_asm) (by k_asm) (by rfl) (by rfl) (by intro tp; walk_at "sp put") ?_); intro t' h' k' F' N'; (try k_sweep); (try dsimp only)))
  (k_with "storeName" => (k_here; (with_reducible show wpAny _ _ (storeName _ _ (Value.int _ _)) _ _ _); k_dflt (refine put_int (by k_asm) (by k_asm) (by rfl) (by rfl) (by intro tp; walk_at "sp put") ?_); intro t' h' k' F' N'; (try k_sweep); (try dsimp only)))
  (k_with "eval Name" => (k_here; k_dflt (refine nm_L (by k_asm) (by rfl) (by rfl) (by decide) (by exact Eq.refl (some _)) ?_)))
  (k_with "pyIter bytes" => (k_here; (with_reducible show wpAny _ _ (pyIter (Value.bytes _ _)) (fun it s₂ => LoopAtV _ _ _ _ _ _ _ _ _ it s₂) _ _); (rename Fr _ _ _ _ => lF'); (rename News _ _ _ _ => lN'); (k_dflt (refine iter_bytesUnr (by assumption) lF' lN' (by first | assumption | kba_ints2) ?_)); clear lF' lN'; intro i' l1; (try k_lt l1)))
  (k_with "BytesRest" => ((first | ((with_reducible show BytesRest _ _ _ _ _ _ _ _ _ _ _ (_ :: _) _ _); k_dflt (refine bytes_succ (by intro tp; walk_at "sp put") ?_); intro b0' b1' u' it' h' tk' F' N') | ((with_reducible show BytesRest _ _ _ _ _ _ _ _ _ _ _ (List.map _ _) _ _); (rename List UInt8 => l9); (rename List.length _ ≤ 3 => h9); cases l9 <;> (first | exact (no4 h9).elim | dsimp only [List.map])) | (k_dflt (refine bytes_zero ?_); intro h' tk' F' N'))))
  (k_with "execs cons" => (k_here; (try k_fold); (with_reducible refine wpAny_execs_cons ?_); (try dsimp only); k_fold))
  (k_with "sp room" => exact room9 (by assumption) (by decide))
  (k_with "sp units" => exact units9 (by assumption) (by decide))
  (k_with "sp here" => k_dflt (exact Here.mk (by k_asm) (by k_asm) (by k_asm) (by k_asm) (by first | assumption | rfl) rfl rfl (by first | assumption | rfl)))
  (k_with "sp enterV" => ((w_top off; have hfill : PySem.Challenge.rw_kq0048_01 = PySem.Challenge.rw_kq0048_01 ∧ hd.heap_39 = hd.heap_39 := by (k_fill; exact ⟨rfl, rfl⟩)); clear hfill; k_dflt (refine call_hereV (by assumption) (by assumption) (by assumption) (by k_is) (by k_is) (by (intro X9; first | exact BindsTo.of_eq rfl | exact binds_K (by assumption) rfl (by k_is) rfl rfl rfl)) (by exact locs rfl) ?_ (by exact rfl) (by exact rfl) (by exact rfl) (by decide) (by decide)); k_whole; intro A' A0' env' outer' mean' mg' mb' base' g' L' h' tk' hdp' hun' kG' F' N' B' X' T' hh' hf'; (try dsimp only)))
  (k_with "storeName" => (k_here; k_dflt (refine putc_any (by k_asm) (by k_asm) (by rfl) (by rfl) (by rfl) (by k_updF) (by k_asm) ?_); intro h' o' k' F' N' d'; (try dsimp only at N'); (try k_sweep); (try dsimp only)))
  (k_with "storeName" => (k_here; (with_reducible show wpAny _ _ (storeName _ _ (Value.str _ _)) _ _ _); k_dflt (refine putc_str (by k_asm) (by k_asm) (by rfl) (by rfl) (by rfl) (by k_updF) (by k_asm) ?_); intro t' h' o' k' F' N' d'; (try dsimp only at N'); (try k_sweep); (try dsimp only)))
  (k_with "storeName" => (k_here; (with_reducible show wpAny _ _ (storeName _ _ (Value.int _ _)) _ _ _); k_dflt (refine putc_int (by k_asm) (by k_asm) (by rfl) (by rfl) (by rfl) (by k_updF) (by k_asm) ?_); intro t' h' o' k' F' N' d'; (try dsimp only at N'); (try k_sweep); (try dsimp only)))
  (k_with "sp enterCV" => ((w_top off; have hfill : PySem.Challenge.rw_kq0048_01 = PySem.Challenge.rw_kq0048_01 ∧ hd.heap_39 = hd.heap_39 := by (k_fill; exact ⟨rfl, rfl⟩)); clear hfill; k_dflt (refine call_hereCV (by assumption) (by assumption) (by assumption) (by k_is) (by k_is) (by (intro X9; first | exact BindsTo.of_eq rfl | exact binds_K (by assumption) rfl (by k_is) rfl rfl rfl)) (by exact rfl) (by decide +kernel) ?_ (by exact rfl) (by exact rfl) (by exact rfl) (by decide)); k_whole; intro dp' un' gd' fr' A0' env' outer' mean' mg' mb' base' g' L' h' tk' cells' hdp' hun' kG' F' N' Y' B' X' T' hf'; k_cells Y'; (try simp only [List.cons_append, List.nil_append] at N'); (try dsimp only)))
  trivial
theorem bints0 : KBw.bInts #[] = [] := rfl
theorem one_i {vs : List Value} {a : Int} (h : IntsAre vs [a]) : ∃ t, vs = [.int a t] := by cases h with | cons _ t h => cases h; exact ⟨t, rfl⟩
theorem two_i {vs : List Value} {a b : Int} (h : IntsAre vs [a, b]) : ∃ t u, vs = [.int a t, .int b u] := by cases h with | cons _ t h => obtain ⟨u, rfl⟩ := one_i h; exact ⟨t, u, rfl⟩
theorem three_i {vs : List Value} {a b c : Int} (h : IntsAre vs [a, b, c]) : ∃ t u v, vs = [.int a t, .int b u, .int c v] := by cases h with | cons _ t h => obtain ⟨u, v, rfl⟩ := two_i h; exact ⟨t, u, v, rfl⟩
theorem zero_i {vs : List Value} (h : IntsAre vs []) : vs = [] := by cases h; rfl
example : True := by
  (k_with "call type:list" => (k_here; (with_reducible show wpAny _ _ (call (Value.type _) [Value.bytes _ _]) _ _ _); k_dflt (refine call_list_bytesK (by k_asm) (by k_asm) (by first | assumption | rfl) (Nat.le_of_ble_eq_true rfl) ?_); k_whole; intro D' h' tk' c' vs' hI' F' N' l1; (first | (have e9 := zero_i hI'; subst e9) | (obtain ⟨t1, e9⟩ := one_i hI'; subst e9) | (obtain ⟨t1, t2, e9⟩ := two_i hI'; subst e9) | (obtain ⟨t1, t2, t3, e9⟩ := three_i hI'; subst e9)); (try k_lt l1); (try k_sweep)))
  trivial
section
variable {prog : Program} {w : World} {A : Around} {E : Value → Shared → Prop} {s : Shared} {Q : Value → Shared → Prop}
theorem len_lit {b : Array UInt8} {t : Tok} (n : Int) (e : (((KBw.bInts b).length : Nat) : Int) = n) (hs : b.size ≤ 1000) (h : Q (.int n (s.toks + 1)) { s with toks := s.toks + 1 + 1 }) : wpAny (model prog w) A (call (.builtin "len") [.bytes b t]) Q E s :=
  KBw.len_K rfl (by rw [KBw.ints_length]; omega) (e ▸ h)
theorem mod3_lit {a : Int} {t u : Tok} (n : Int) (e : a.fmod 3 = n) (h : Q (.int n s.toks) { s with toks := s.toks + 1 }) : wpAny (model prog w) A (binaryOp .Mod (.int a t) (.int 3 u)) Q E s :=
  mod_int' (by decide) (e ▸ h)
end
example : True := by
  (k_with "call builtin:len" => (k_here; (with_reducible show wpAny _ _ (call (Value.builtin "len") [Value.bytes _ _]) _ _ _); k_dflt (first | refine len_lit 0 rfl (Nat.le_of_ble_eq_true rfl) ?_ | refine len_lit 1 rfl (Nat.le_of_ble_eq_true rfl) ?_ | refine len_lit 2 rfl (Nat.le_of_ble_eq_true rfl) ?_ | refine len_lit 3 rfl (Nat.le_of_ble_eq_true rfl) ?_)))
  (k_with "binaryOp Mod int int" => (k_here; (with_reducible show wpAny _ _ (binaryOp _ (Value.int (-_) _) (Value.int 3 _)) _ _ _); k_dflt (first | refine mod3_lit 0 rfl ?_ | refine mod3_lit 1 rfl ?_ | refine mod3_lit 2 rfl ?_)))
  (k_with "exec For" => (k_here; (rename Fr _ _ _ _ => lF'); (with_unfolding_all refine' For_turns lF' ?_; k_whole)))
  (k_with "eval ListComp" => (k_here; k_dflt (refine ListComp_UR (by k_asm) (by rfl) (by decide) (by rfl) (by decide) (by rfl) ?_)))
  trivial
theorem pow64_ne' (k : Int) : (64:Int)^k.toNat ≠ 0 := Int.ne_of_gt (Int.pow_pos (by decide))
theorem pow64_small' {k : Int} (h1 : k < 4) : ((64:Int)^k.toNat).natAbs < 1073741824 := by
  have h : k.toNat < 4 := by omega
  generalize k.toNat = n at h
  match n, h with
  | 0, _ => decide
  | 1, _ => decide
  | 2, _ => decide
  | 3, _ => decide
theorem itm_len (two : PySem.Str) (n k : Int) : (itm two n k).length ≤ 2 := by
  show 1 ≤ 2
  decide
section
variable {prog : Program} {w : World} {A : Around} {E : Value → Shared → Prop} {h₀ : Heap} {L : Addr} {m : PySem.Str → Option Value} {env : Env}
theorem SrcC.six {elt : PySem.Expr} {x : PySem.Str} {scope : Scope} {cl : List (PySem.Str × Addr)} {Fin : Shared → List Value → List (Addr × Obj) → Prop} {r : Addr} {b : Int} {t u v : Tok} {news : List (Addr × Obj)} {s₁ : Shared} {num : Int} {oN : Obj} {tN : Tok} {two : PySem.Str} (ks : List Int)
    (_h2 : two.length = 2) (_hnum : oN.data = .cell (some (.int num tN)))
    (hh : A.handled = none) (F : Fr h₀ L s₁.heap m) (N : News h₀ L s₁.heap news) (hr : IsRange s₁.heap r 3 b (-1) t u v) (hsm : Builtin.Range.small 3 b (-1) = true) (hn : Builtin.Range.rangeSize 3 b (-1) = ((ks.length : Nat) : Int))
    (hks : ks = (List.range ks.length).map fun i : Nat => 3 + (i : Int) * (-1)) (h4 : ∀ k ∈ ks, 0 ≤ k ∧ k < 4) (hsz : ks.length ≤ 1000)
    (turn : ∀ (s : Shared) (k : Int) (u : Tok) I oI C oC D ys m₂ h tk (E' : Value → Shared → Prop), 0 ≤ k → k < 4 → LCg.NsObj oC m₂ → m₂ x = some (.int k u) → Fr h₀ L h m → News h₀ L h ((I, oI) :: (C, oC) :: (D, LCg.lst ys) :: news) → LCg.Off3 I C D news → ((@Ne Nat I C) ∧ (@Ne Nat I D) ∧ (@Ne Nat C D)) →
      wpAny (model prog w) A (eval elt (compEnvC scope cl C env)) (Turn h₀ L m { s with heap := h, toks := tk } ((I, oI) :: (C, oC) :: (D, LCg.lst ys) :: news) (TV (itm two num) k)) E' { s with heap := h, toks := tk })
    (fin : ∀ g ys, Rel (TV (itm two num)) ks ys → Fin { s₁ with heap := g } ys news) :
    SrcC prog w A h₀ L m env elt x scope cl Fin (.ref r) s₁ := by
  refine SrcC.range ks.length hh F N hr hsm hn hsz fun g => ?_
  refine rest_gen ks (fun k v => ∃ u, v = .int k u) (TV (itm two num)) ?_ trivial ?_ (fin g) _ rfl
  · intro i v hi hv
    obtain ⟨t, rfl⟩ := hv
    refine ⟨3 + (i : Int) * (-1), ?_, t, rfl⟩
    have e : ks[i]? = ((List.range ks.length).map fun i : Nat => 3 + (i : Int) * (-1))[i]? := congrArg (·[i]?) hks
    rw [e, List.getElem?_map, List.getElem?_range hi]; rfl
  · intro a v I oI C oC D ys m₂ h tk E' ha hin hC hx F' N' off ne
    obtain ⟨u, rfl⟩ := hin
    exact turn _ a u I oI C oC D ys m₂ h tk E' (h4 a ha).1 (h4 a ha).2 hC hx F' N' off ne
end
example : True := by
  (k_with "SrcC" => (k_here; k_dflt (first | refine SrcC.six [] (by assumption) (by assumption) (by first | assumption | rfl) (by k_asm) (by k_asm) (by assumption) (by decide) (by first | rfl | decide) (by decide) (by decide) (by decide) ?_ ?_ | refine SrcC.six [3, 2] (by assumption) (by assumption) (by first | assumption | rfl) (by k_asm) (by k_asm) (by assumption) (by decide) (by first | rfl | decide) (by decide) (by decide) (by decide) ?_ ?_ | refine SrcC.six [3, 2, 1] (by assumption) (by assumption) (by first | assumption | rfl) (by k_asm) (by k_asm) (by assumption) (by decide) (by first | rfl | decide) (by decide) (by decide) (by decide) ?_ ?_ | refine SrcC.six [3, 2, 1, 0] (by assumption) (by assumption) (by first | assumption | rfl) (by k_asm) (by k_asm) (by assumption) (by decide) (by first | rfl | decide) (by decide) (by decide) (by decide) ?_ ?_); (all_goals (first | (intro s k u I oI C oC D ys m₂ h tk E' hk0 hk4 hC hx F' N' off ne; (try simp only [LCg.Off3, and_true] at off)) | intro g' ys hys))))
  (k_with "SrcC" => (k_here; k_dflt (refine SrcC.range 0 (by first | assumption | rfl) (by k_asm) (by k_asm) (by assumption) (by decide) (by first | rfl | decide) (by decide) ?_); intro g'))
  (k_with "CompRest" => (with_unfolding_all (refine LCg.CompRest.zero ?_)))
  (k_with "binaryOp FloorDiv int int" => (k_here; (with_reducible show wpAny _ _ (binaryOp _ _ (Value.int (64 ^ _) _)) _ _ _); (with_reducible refine floordiv_int (pow64_ne' _) ?_ (Or.inl (PyProof.noPylong_small (pow64_small' (by assumption)))))))
  (k_with "Turn" => (k_here; (rename Fr _ _ _ _ => kF); (rename News _ _ _ _ => kN); k_dflt (refine Turn.intro kF kN (by lcg_sub) ?_)))
  (k_with "call builtin:str.join" => (k_here; (with_reducible show wpAny _ _ (call (Value.builtin _) [Value.str _ _, Value.ref _]) _ _ _); k_dflt (refine join_rel (by k_asm) (by k_mem) (by assumption) (itm_len _ _) (by decide) (by decide) ?_); intro _ _; (try dsimp only [List.map])))
  trivial
theorem len64 {two : PySem.Str} (h2 : two.length = 2) : (Str.ofString "ABCDEFGHIJKLMNOPQRSTUVWXYZabcdefghijklmnopqrstuvwxyz0123456789" ++ two).length = 64 := by
  rw [Str.length_append, h2]
  have : (Str.ofString "ABCDEFGHIJKLMNOPQRSTUVWXYZabcdefghijklmnopqrstuvwxyz0123456789").length = 62 := by decide +kernel
  omega
example : True := by
  (k_with "subscriptTail" => (k_here; (with_reducible show wpAny _ _ (subscriptTail _ _ (Value.str _ _) (Value.int (Int.fmod _ _) _)) _ _ _); (refine item_str_fmod (by decide) (by rw [len64 (by assumption)]; decide) (by rw [len64 (by assumption)]; decide) ?_); intro _))
  trivial
set_option maxHeartbeats 8000000 in
theorem six0 {w : World} {A : Around} {s : Shared} {E Q : Value → Shared → Prop}  {t u : Tok} {two : PySem.Str} (h2 : two.length = 2)
    (H : Here w A s.heap) (hdp : A.depth + (3 + 1) < recursionLimit) (hun : A.units + 300 < cLine)
    (hQ : ∀ h' tk' t', s.heap.StaysIn h' → Q (.str (sixS two []) t') { s with heap := h', toks := tk' }) :
    wpAny (model prg w) A (call (.ref 230) [.bytes #[] t, .str two u]) Q E s := by
  obtain ⟨hp, gs, dr, tk0, os⟩ := s
  dsimp only at H hQ
  walk_at "sp enterCV"
  show wpAny _ _ _ _ _ _
  k_fold
  (rename Fr _ _ _ _ => F9; have F8 : Fr _ _ _ (fun y => List.lookup y [(PySem.Str.ofString "two", .str two u), (PySem.Str.ofString "octets", .bytes #[] t)]) := F9; clear F9)
  k_steps
  all_goals first
    | exact ⟨_, rfl⟩
    | exact hQ _ _ _ (by assumption)
set_option maxHeartbeats 8000000 in
theorem six1 {w : World} {A : Around} {s : Shared} {E Q : Value → Shared → Prop} {a : UInt8} {t u : Tok} {two : PySem.Str} (h2 : two.length = 2)
    (H : Here w A s.heap) (hdp : A.depth + (3 + 1) < recursionLimit) (hun : A.units + 300 < cLine)
    (hQ : ∀ h' tk' t', s.heap.StaysIn h' → Q (.str (sixS two [a]) t') { s with heap := h', toks := tk' }) :
    wpAny (model prg w) A (call (.ref 230) [.bytes #[a] t, .str two u]) Q E s := by
  obtain ⟨hp, gs, dr, tk0, os⟩ := s
  dsimp only at H hQ
  walk_at "sp enterCV"
  show wpAny _ _ _ _ _ _
  k_fold
  (rename Fr _ _ _ _ => F9; have F8 : Fr _ _ _ (fun y => List.lookup y [(PySem.Str.ofString "two", .str two u), (PySem.Str.ofString "octets", .bytes #[a] t)]) := F9; clear F9)
  k_steps
  all_goals first
    | exact ⟨_, rfl⟩
    | exact hQ _ _ _ (by assumption)
set_option maxHeartbeats 8000000 in
theorem six2 {w : World} {A : Around} {s : Shared} {E Q : Value → Shared → Prop} {a b : UInt8} {t u : Tok} {two : PySem.Str} (h2 : two.length = 2)
    (H : Here w A s.heap) (hdp : A.depth + (3 + 1) < recursionLimit) (hun : A.units + 300 < cLine)
    (hQ : ∀ h' tk' t', s.heap.StaysIn h' → Q (.str (sixS two [a, b]) t') { s with heap := h', toks := tk' }) :
    wpAny (model prg w) A (call (.ref 230) [.bytes #[a, b] t, .str two u]) Q E s := by
  obtain ⟨hp, gs, dr, tk0, os⟩ := s
  dsimp only at H hQ
  walk_at "sp enterCV"
  show wpAny _ _ _ _ _ _
  k_fold
  (rename Fr _ _ _ _ => F9; have F8 : Fr _ _ _ (fun y => List.lookup y [(PySem.Str.ofString "two", .str two u), (PySem.Str.ofString "octets", .bytes #[a, b] t)]) := F9; clear F9)
  k_steps
  all_goals first
    | exact ⟨_, rfl⟩
    | exact hQ _ _ _ (by assumption)
set_option maxHeartbeats 8000000 in
theorem six3 {w : World} {A : Around} {s : Shared} {E Q : Value → Shared → Prop} {a b c : UInt8} {t u : Tok} {two : PySem.Str} (h2 : two.length = 2)
    (H : Here w A s.heap) (hdp : A.depth + (3 + 1) < recursionLimit) (hun : A.units + 300 < cLine)
    (hQ : ∀ h' tk' t', s.heap.StaysIn h' → Q (.str (sixS two [a, b, c]) t') { s with heap := h', toks := tk' }) :
    wpAny (model prg w) A (call (.ref 230) [.bytes #[a, b, c] t, .str two u]) Q E s := by
  obtain ⟨hp, gs, dr, tk0, os⟩ := s
  dsimp only at H hQ
  walk_at "sp enterCV"
  show wpAny _ _ _ _ _ _
  k_fold
  (rename Fr _ _ _ _ => F9; have F8 : Fr _ _ _ (fun y => List.lookup y [(PySem.Str.ofString "two", .str two u), (PySem.Str.ofString "octets", .bytes #[a, b, c] t)]) := F9; clear F9)
  k_steps
  all_goals first
    | exact ⟨_, rfl⟩
    | exact hQ _ _ _ (by assumption)
end
section
example : True := by
  k_with_none
  (k_with "sp enter" => ((w_top off; have hfill : PySem.Challenge.rw_kq0048_01 = PySem.Challenge.rw_kq0048_01 ∧ hd.heap_39 = hd.heap_39 := by (k_fill; exact ⟨rfl, rfl⟩)); clear hfill; k_dflt (refine call_here (by assumption) (by assumption) (by assumption) (by k_is) (by k_is) (by (intro X9; first | exact BindsTo.of_eq rfl | exact binds_K (by assumption) rfl (by k_is) rfl rfl rfl)) (by exact locs rfl) ?_ (by exact rfl) (by exact rfl) (by exact rfl) (by decide)); k_whole; intro dp' un' gd' env' outer' mean' mg' mb' base' g' L' h' hdp' hun' kG' F' N' B' X' T'; (try dsimp only); (try k_fold)))
  (k_with "SpDone" => ((refine SpDone.intro (by k_asm) ?_); intro st9))
  (k_with "call type:type" => (k_here; (with_reducible show wpAny _ _ (call _ [Value.bytes _ _]) _ _ _); refine call_type_of (Tx := "bytes") rfl (by decide +kernel) ?_))
  (k_with "sp kept" => (intro t9 h9 tk9 st9; (try dsimp only at st9); rename Fr _ _ _ _ => kF; rename News _ _ _ _ => kN; (k_dflt (have kF' := Fr.keeps kF st9)); (k_dflt (have kN' := News.grown kN st9)); clear kF kN st9))
  (k_with "sp here" => k_dflt (exact Here.mk (by k_asm) (by k_asm) (by k_asm) (by k_asm) rfl rfl rfl rfl))
  (k_with "sp enterC" => ((w_top off; have hfill : PySem.Challenge.rw_kq0048_01 = PySem.Challenge.rw_kq0048_01 ∧ hd.heap_39 = hd.heap_39 := by (k_fill; exact ⟨rfl, rfl⟩)); clear hfill; k_dflt (refine call_hereC (by assumption) (by assumption) (by assumption) (by k_is) (by k_is) (by (intro X9; first | exact BindsTo.of_eq rfl | exact binds_K (by assumption) rfl (by k_is) rfl rfl rfl)) (by exact rfl) (by decide +kernel) ?_ (by exact rfl) (by exact rfl) (by exact rfl)); k_whole; intro dp' un' gd' env' outer' mean' mg' mb' base' g' L' h' tk' cells' hdp' hun' kG' F' N' Y' B' X' T'; k_cells Y'; (try simp only [List.cons_append, List.nil_append] at N'); (try dsimp only); (try k_fold)))
  (k_with "sp and" => first | with_reducible assumption | with_reducible exact Ne.symm (by assumption) | with_reducible exact Nat.ne_of_gt (by assumption) | with_reducible exact Nat.ne_of_lt (by assumption) | (simp only [ne_eq, not_false_eq_true, *]; done) | (apply Ne.symm; simp only [ne_eq, not_false_eq_true, *]; done))
  (k_with "sp sub" => first | with_reducible exact sub_0 _ | with_reducible exact sub_1 _ _ | with_reducible exact sub_2 _ _ _ | with_reducible exact sub_3 _ _ _ _ | with_reducible exact sub_4 _ _ _ _ _ | with_reducible exact sub_5 _ _ _ _ _ _)
  trivial
section
variable {prog : Program} {w : World} {A : Around} {E : Value → Shared → Prop} {s : Shared} {Q : Value → Shared → Prop}
theorem ne_nil {a b : Addr} {vs : List Value} (hl : s.heap.IsList a vs.toArray) (hb : s.heap.IsList b #[]) (hu : A.units < cLine) (h : Q (.bool (!vs.isEmpty)) s) : wpAny (model prog w) A (compareOp .NotEq (.ref a) (.ref b)) Q E s := by
  refine cmp_ofNotEq ?_
  cases vs with
  | nil => exact SeqAt.RcNeAt.lists hl hb rfl hu (e := fun _ => true) (fun j h1 _ => absurd h1 (by simp)) prog w E Q (by simpa using h)
  | cons v vs => exact SeqAt.RcNeAt.lists_lengths hl hb (by simp) hu prog w E Q (by simpa using h)
end
theorem any_of_rel {α : Type} {R : α → Value → Prop} {p : α → Bool} {l : List α} {ys : List Value} (h : Rel R (l.filter p) ys) : (!ys.isEmpty) = l.any p := by
  have e := h.length
  rw [Bool.eq_iff_iff, List.any_eq_true]
  constructor
  · intro h1
    cases hf : l.filter p with
    | nil => rw [hf] at e; simp at e; rw [e] at h1; simp at h1
    | cons a as =>
      have : a ∈ l.filter p := by rw [hf]; exact List.mem_cons_self
      exact ⟨a, List.mem_filter.mp this⟩
  · rintro ⟨a, ha, hp⟩
    have : a ∈ l.filter p := List.mem_filter.mpr ⟨ha, hp⟩
    cases ys with
    | nil => have h2 := List.length_pos_of_mem this; rw [← e] at h2; exact absurd h2 (Nat.lt_irrefl 0)
    | cons _ _ => rfl
noncomputable def CV (c : UInt8) (v : Value) : Prop := ∃ u, v = .int (c.toNat : Int) u
section
variable {prog : Program} {w : World} {A : Around} {E : Value → Shared → Prop} {h₀ : Heap} {L : Addr} {m : PySem.Str → Option Value} {env : Env}
theorem SrcBT.gen {ct elt : PySem.Expr} {x : PySem.Str} {scope : Scope} {cl : List (PySem.Str × Addr)} {Fin : Shared → List Value → List (Addr × Obj) → Prop} {l : List UInt8} {t : Tok} {news : List (Addr × Obj)} {s₁ : Shared} (p : UInt8 → Bool)
    (hh : A.handled = none) (F : Fr h₀ L s₁.heap m) (N : News h₀ L s₁.heap news) (hsz : l.toArray.size ≤ 1000)
    (test : ∀ (s : Shared) (a : UInt8) (u : Tok) I oI C oC D ys m₂ h tk (E' : Value → Shared → Prop), LCg.NsObj oC m₂ → m₂ x = some (.int (a.toNat : Int) u) → Fr h₀ L h m → News h₀ L h ((I, oI) :: (C, oC) :: (D, LCg.lst ys) :: news) → LCg.Off3 I C D news → ((@Ne Nat I C) ∧ (@Ne Nat I D) ∧ (@Ne Nat C D)) →
      wpAny (model prog w) A (isTrue ct (compEnvC scope cl C env) (eval ct (compEnvC scope cl C env))) (Turn h₀ L m { s with heap := h, toks := tk } ((I, oI) :: (C, oC) :: (D, LCg.lst ys) :: news) (fun ok : Bool => ok = p a)) E' { s with heap := h, toks := tk })
    (turn : ∀ (s : Shared) (a : UInt8) (u : Tok) I oI C oC D ys m₂ h tk (E' : Value → Shared → Prop), LCg.NsObj oC m₂ → m₂ x = some (.int (a.toNat : Int) u) → Fr h₀ L h m → News h₀ L h ((I, oI) :: (C, oC) :: (D, LCg.lst ys) :: news) → LCg.Off3 I C D news → ((@Ne Nat I C) ∧ (@Ne Nat I D) ∧ (@Ne Nat C D)) →
      wpAny (model prog w) A (eval elt (compEnvC scope cl C env)) (Turn h₀ L m { s with heap := h, toks := tk } ((I, oI) :: (C, oC) :: (D, LCg.lst ys) :: news) (CV a)) E' { s with heap := h, toks := tk })
    (fin : ∀ g ys, Rel CV (l.filter p) ys → Fin { s₁ with heap := g } ys news) :
    SrcBT prog w A h₀ L m env ct elt x scope cl Fin (.bytes l.toArray t) s₁ := by
  refine SrcBT.mk _ hh F N rfl hsz fun g => ?_
  refine restT_gen l p CV CV ?_ trivial ?_ ?_ (fin g) _ (by simp)
  · intro i v _ hv
    obtain ⟨c, u, h1, h2⟩ := hv
    exact ⟨c, by simpa using h1, u, h2⟩
  · intro a v I oI C oC D ys m₂ h tk E' ha hin hC hx F' N' off ne
    obtain ⟨u, rfl⟩ := hin
    exact test _ a u I oI C oC D ys m₂ h tk E' hC hx F' N' off ne
  · intro a v I oI C oC D ys m₂ h tk E' ha hin hC hx F' N' off ne
    obtain ⟨u, rfl⟩ := hin
    exact turn _ a u I oI C oC D ys m₂ h tk E' hC hx F' N' off ne
end
example : True := by
  (k_with "eval ListComp" => (k_here; k_dflt (refine ListComp_TB (by k_asm) (by rfl) (by decide) (by rfl) (by decide) (by rfl) ?_)))
  (k_with "SrcBT" => (k_here; k_dflt (refine SrcBT.gen letP (by rfl) (by k_asm) (by k_asm) (by assumption) ?test ?turn ?fin); (all_goals (first | (intro s a u I oI C oC D ys m₂ h tk E' hC hx F' N' off ne; (try simp only [LCg.Off3, and_true] at off)) | intro g' ys hys))))
  (k_with "Turn" => (k_here; (rename Fr _ _ _ _ => kF); (rename News _ _ _ _ => kN); k_dflt (refine Turn.intro kF kN (by lcg_sub) ?_)))
  (k_with "compareOp NotEq ref ref" => (k_here; k_dflt (refine ne_nil (by exact ⟨_, (News.get (by k_asm) (by k_mem)), rfl, _, rfl⟩) (by exact ⟨_, (News.get (by k_asm) (by k_mem)), rfl, _, rfl⟩) (by ktr_units) ?_)))
  trivial
set_option maxHeartbeats 8000000 in
theorem letter_spec {w : World} {A : Around} {s : Shared} {E Q : Value → Shared → Prop} {l9 : List UInt8} {t : Tok} (hl9 : l9.toArray.size ≤ 1000)
    (H : Here w A s.heap) (hdp : A.depth + (3 + 1) < recursionLimit) (hun : A.units + 300 < cLine)
    (hQ : ∀ h' tk', s.heap.StaysIn h' → Q (.bool (l9.any letP)) { s with heap := h', toks := tk' }) :
    wpAny (model prg w) A (call (.ref 245) [.bytes l9.toArray t]) Q E s := by
  walk_at "sp enter"
  k_steps
  all_goals first
    | exact ⟨_, rfl⟩
    | (simp [letP, *]; done)
    | (rename Rel _ _ _ => hys9; rename Heap.StaysIn _ _ => st9'; rw [any_of_rel hys9]; exact hQ _ _ st9')
end
section
noncomputable def IV (k : Int) (v : Value) : Prop := ∃ u, v = .int k u
/-- the octets of a row -/
noncomputable def OV (ds : List (Fin 8)) (v : Value) : Prop := BV (octs ds) v
theorem ints_len {vs : List Value} {ns : List Int} (h : IntsAre vs ns) : vs.length = ns.length := h.length
theorem hP_ints {vs : List Value} {ns : List Int} (h : IntsAre vs ns) : ∀ (i : Nat) (v : Value), i < ns.length → vs.toArray[i]? = some v → ∃ a, ns[i]? = some a ∧ IV a v := by
  intro i v _ hv
  obtain ⟨n, t, e, hn⟩ := h.at i v (by simpa using hv)
  exact ⟨n, hn, t, e⟩
theorem hP_rel {α : Type} {R : α → Value → Prop} {xs : List α} {vs : List Value} (h : Rel R xs vs) : ∀ (i : Nat) (v : Value), i < xs.length → vs.toArray[i]? = some v → ∃ a, xs[i]? = some a ∧ R a v := by
  intro i v _ hv
  exact h.get i v (by simpa using hv)
theorem Rel.map {α β : Type} {R : β → Value → Prop} {f : α → β} : ∀ {as : List α} {vs : List Value}, Rel R (as.map f) vs → Rel (fun a => R (f a)) as vs
  | [], _, .nil => .nil
  | _ :: _, _, .cons g r => .cons g (Rel.map r)
theorem Rel.unmap {α β : Type} {R : β → Value → Prop} {f : α → β} : ∀ {as : List α} {vs : List Value}, Rel (fun a => R (f a)) as vs → Rel R (as.map f) vs
  | _, _, .nil => .nil
  | _, _, .cons g r => .cons g (Rel.unmap r)
theorem gen_nums {ws : List Value} {ns : List Int} (_ : IntsAre ws ns) : ∃ nums, nums = ns := ⟨_, rfl⟩
theorem digs_all {ns : List Int} {d : List (Fin 8)} (h : d ∈ ns.map digs) : d.length ≤ 3 := by
  obtain ⟨x, _, rfl⟩ := List.mem_map.mp h
  exact digs_len x
/-- the rows to be left out -/
noncomputable def leaveD (ns : List Int) : List (List (Fin 8)) := (ns.filter fun x => decide (x.fmod 3 = 0)).map digs ++ [[2, 3]]
theorem leave_all {ns : List Int} {d : List (Fin 8)} (h : d ∈ leaveD ns) : d.length ≤ 3 := by
  rcases List.mem_append.mp h with h | h
  · exact digs_all h
  · simp at h; subst h; decide
theorem leave_len {ns : List Int} {k : Nat} (h : ns.length ≤ k) : (leaveD ns).length ≤ k + 1 := by
  have := List.length_filter_le (fun x : Int => decide (x.fmod 3 = 0)) ns
  simp [leaveD]; omega
theorem leave_rel {ns : List Int} {vs : List Value} {v : Value} (h : Rel (fun x v => OV (digs x) v) (ns.filter fun x => decide (x.fmod 3 = 0)) vs) (hv : BV [251, 255] v) : Rel OV (leaveD ns) (vs ++ [v]) :=
  Rel.append (Rel.unmap h) (.cons hv .nil)
theorem gen_zs {h₀ h : Heap} {L l : Addr} {its : Array Value} {rest : List (Addr × Obj)} (_ : News h₀ L h ((l, W.listOf its 0) :: rest)) (ys : List Value) : ∃ zs, ys ++ its.toList = zs := ⟨_, rfl⟩
noncomputable def pickB {α : Type} : List Bool → List α → List α
  | true :: bs, x :: xs => x :: pickB bs xs
  | false :: bs, _ :: xs => pickB bs xs
  | [], xs => xs
  | _ :: _, [] => []
theorem pickB_sub {α : Type} : ∀ (bs : List Bool) (xs : List α), ∀ p ∈ pickB bs xs, p ∈ xs
  | true :: bs, x :: xs, p, h => by
    rcases List.mem_cons.mp h with rfl | h
    · exact List.mem_cons_self
    · exact List.mem_cons_of_mem _ (pickB_sub bs xs p h)
  | false :: bs, _ :: xs, p, h => List.mem_cons_of_mem _ (pickB_sub bs xs p h)
  | [], _, _, h => h
  | true :: _, [], _, h => by simp [pickB] at h
  | false :: _, [], _, h => by simp [pickB] at h
theorem N_pick {h₀ h : Heap} {L : Addr} {news : List (Addr × Obj)} (bs : List Bool) (N : News h₀ L h news) : News h₀ L h (pickB bs news) := fun p hp => N p (pickB_sub bs news p hp)
noncomputable abbrev memD (d : List (Fin 8)) (LD : List (List (Fin 8))) : Bool := decide (octs d ∈ LD.map octs)
theorem sz_rel {α : Type} {R : α → Value → Prop} {xs : List α} {vs : List Value} (h : Rel R xs vs) {n : Nat} (hx : xs.length ≤ n) (hn : n ≤ 1000) : vs.toArray.size ≤ sizeLine := by
  have := h.length
  rw [sizeLine_eq]; simp; omega
theorem sz_rel2 {α : Type} {R : α → Value → Prop} {xs : List α} {p : α → Bool} {vs : List Value} (h : Rel R (xs.filter p) vs) {n : Nat} (hx : xs.length ≤ n) (hn : n ≤ 1000) : vs.toArray.size ≤ sizeLine :=
  sz_rel h (Nat.le_trans (List.length_filter_le _ _) hx) hn
theorem sz_ints {vs : List Value} {ns : List Int} (h : IntsAre vs ns) {n : Nat} (hx : ns.length ≤ n) (hn : n ≤ 1000) : vs.toArray.size ≤ sizeLine := by
  have := ints_len h
  rw [sizeLine_eq]; simp; omega
theorem sz_nums {vs : List Value} {ns : List Int} (h : IntsAre vs (ns.take 8 ++ [106, 5, 0, 1195, 30, 106])) : vs.toArray.size ≤ sizeLine ∧ vs.toArray.size = (ns.take 8 ++ [106, 5, 0, 1195, 30, 106]).length ∧ (ns.take 8 ++ [106, 5, 0, 1195, 30, 106]).length ≤ 14 := by
  have h1 := ints_len h
  have h2 : (ns.take 8 ++ [106, 5, 0, 1195, 30, 106]).length ≤ 14 := by simp; omega
  exact ⟨sz_ints h h2 (by decide), by simpa using h1, h2⟩
theorem sz_add {ns : List Int} {ys zs : List Value} (h : Rel OV (leaveD ns) zs) (hn : ns.length ≤ 14) (e : ys.length + 1 = zs.length) : ys.length + 1 ≤ sizeLine := by
  have h1 := leave_len hn
  have h2 := h.length
  rw [sizeLine_eq]; omega
end
section
theorem filter_bytes {w : World} {A A₀ : Around} {s : Shared} {E Q : Value → Shared → Prop} {a b : Addr} {vs us : List Value} {na nb : Nat} {sl sla : Array (Option Value)} {xs ys : List (List UInt8)}
    {base h₀ : Heap} {L : Addr} {m : PySem.Str → Option Value} {env : Env} {news : List (Addr × Obj)} {mean : ExcName → Option Value} {mg mb : PySem.Str → Option Value}
    (B : Below A₀ base [] h₀) (F : Fr h₀ L s.heap m) (X₀ : (hd.heap_39 w.params).In h₀) (N : News h₀ L s.heap news) (T : Top topProg lse mean mg mb h₀) (hA : A.frames = some [env]) (hf : env.frame = some L) (hke : env.scope.kind = .function) (hh : A.handled = none)
    (ha : (a, (⟨.type "list", none, .seq vs.toArray na, sla⟩ : Obj)) ∈ news) (hb : (b, (⟨.type "list", none, .seq us.toArray nb, sl⟩ : Obj)) ∈ news)
    (hx : Rel BV xs vs) (hy : Rel BV ys us) (hvs : xs.length ≤ 1000) (hdp : A.depth + (3 + 1) < recursionLimit) (hun : A.units + 300 < cLine)
    (hQ : ∀ D h' tk' n rs, Fr h₀ L h' m → News h₀ L h' ((D, (⟨.type "list", none, .seq rs.toArray n, #[]⟩ : Obj)) :: news) → (∀ p ∈ news, p.1 < D) → Rel BV (xs.filter fun l => !decide (l ∈ ys)) rs → Q (.ref D) { s with heap := h', toks := tk' }) :
    wpAny (model prg w) A (call (.ref 82) [.ref a, .ref b]) Q E s := by
  refine filter_spec (eq := vEq) B F X₀ N T hA hf hke hh ha hb (by rw [hx.length]; exact hvs) (fun A' s' y v h1 h2 => ?_) hdp hun (fun D h' tk' n F' N' k => hQ D h' tk' n _ F' N' k (filter_rel hy hx))
  obtain ⟨p, _, hp⟩ := hy.mem h1
  obtain ⟨q, _, hq⟩ := hx.mem h2
  exact vEq_at hp hq
section
variable {prog : Program} {w : World} {A : Around} {E : Value → Shared → Prop} {s : Shared} {a b : Addr} {xs ys : List (List UInt8)} {vs us : List Value} {Q : Value → Shared → Prop}
theorem ne_same (hl : s.heap.IsList a vs.toArray) (hb : s.heap.IsList b us.toArray) (h1 : Rel BV xs vs) (h2 : Rel BV ys us) (e : xs = ys) (hu : A.units < cLine) (h : Q (.bool false) s) :
    wpAny (model prog w) A (compareOp .NotEq (.ref a) (.ref b)) Q E s :=
  ne_list_bytes hl hb h1 h2 hu (by rw [decide_eq_true e]; exact h)
theorem eq_same (hl : s.heap.IsList a vs.toArray) (hb : s.heap.IsList b us.toArray) (h1 : Rel BV xs vs) (h2 : Rel BV ys us) (e : xs = ys) (hu : A.units < cLine) (h : Q (.bool true) s) :
    wpAny (model prog w) A (compareOp .Eq (.ref a) (.ref b)) Q E s :=
  eq_list_bytes hl hb h1 h2 hu (by rw [decide_eq_true e]; exact h)
end
noncomputable abbrev keptD (D LD : List (List (Fin 8))) : List (List (Fin 8)) := D.filter fun d => !memD d LD
theorem keep_map (D LD : List (List (Fin 8))) : ((D.map octs).filter fun l => !decide (l ∈ LD.map octs)) = (keptD D LD).map octs := by
  rw [List.filter_map]; rfl
theorem keep_again (D LD : List (List (Fin 8))) : (((keptD D LD).map octs).filter fun l => !decide (l ∈ LD.map octs)) = (keptD D LD).map octs := by
  rw [List.filter_map]
  congr 1
  show (D.filter _).filter _ = _
  rw [List.filter_filter]
  congr 1
  funext d
  show (_ && _) = _
  simp
theorem keep_two (D LD : List (List (Fin 8))) : (((D.map octs).filter fun l => !decide (l ∈ (LD.map octs).take 1)).filter fun l => !decide (l ∈ (LD.map octs).drop 1)) = (keptD D LD).map octs := by
  rw [List.filter_filter, ← keep_map]
  congr 1
  funext l
  have h : l ∈ LD.map octs ↔ l ∈ (LD.map octs).take 1 ∨ l ∈ (LD.map octs).drop 1 := by
    conv => lhs; rw [← List.take_append_drop 1 (LD.map octs)]
    exact List.mem_append
  rw [Bool.eq_iff_iff]
  simp only [Bool.and_eq_true, Bool.not_eq_true', decide_eq_false_iff_not, h, not_or]
  exact ⟨fun z => ⟨z.2, z.1⟩, fun z => ⟨z.2, z.1⟩⟩
theorem slice_up1 (zs : List Value) : (slicePick zs.toArray none (some 1) none).toList = zs.take 1 := by
  have h := slicePick_upto' zs.toArray 1
  rw [show ((1 : Nat) : Int) = 1 from rfl] at h
  rw [h]
theorem slice_fr1 (zs : List Value) : (slicePick zs.toArray (some 1) none none).toList = zs.drop 1 := by
  have h := slicePick_from' zs.toArray 1
  rw [show ((1 : Nat) : Int) = 1 from rfl] at h
  rw [h]
end
section
theorem typeCall_zip3 (a b c : Value) : checkTypeCall "zip" ⟨[a, b, c], []⟩ = pure () := by kernel_rfl
theorem newCall_zip3 (a b c : Value) : checkBuiltinCall "zip.__new__" ⟨[.type "zip", a, b, c], []⟩ = pure () := by kernel_rfl
theorem init_args4 (a b c d : Value) : argsOk "object.__init__" ⟨[a, b, c, d], []⟩ := by
  unfold argsOk; rw [signature?_of (id := "object.__init__") (n := ['_', '_', 't', 'i', 'n', 'i', '_', '_']) (o := ['t', 'c', 'e', 'j', 'b', 'o']) (by kernel_rfl) F.owner_object]; kernel_rfl
noncomputable abbrev TripAt (h : Heap) (T : Addr) (a b c : Value) : Prop := h.get? T = some { cls := .type "tuple", data := .seq #[a, b, c] }
structure Zst (h : Heap) (I l1 l2 l3 : Nat) (f0 : Value) (k : Nat) (xs ys zs : Array Value) : Prop where
  z : IsZip h (I + 5) (I + 3) (I + 4) f0
  ti : TripAt h (I + 3) (.ref I) (.ref (I + 1)) (.ref (I + 2))
  to : ∃ a b c, TripAt h (I + 4) a b c
  i1 : h.IsListIter I l1 k
  i2 : h.IsListIter (I + 1) l2 k
  i3 : h.IsListIter (I + 2) l3 k
  L1 : h.IsList l1 xs
  L2 : h.IsList l2 ys
  L3 : h.IsList l3 zs
noncomputable abbrev zpH1 (h : Heap) (l : Addr) : Heap := h.push { cls := .type "list_iterator", data := .fields #[.ref l, .int 0 0] }
noncomputable abbrev zpH3 (h : Heap) (l1 l2 l3 : Addr) : Heap := zpH1 (zpH1 (zpH1 h l1) l2) l3
noncomputable abbrev zpH4 (h : Heap) (l1 l2 l3 : Addr) : Heap := (zpH3 h l1 l2 l3).push { cls := .type "tuple", data := .seq #[.ref h.objs.size, .ref (zpH1 h l1).objs.size, .ref (zpH1 (zpH1 h l1) l2).objs.size] }
noncomputable abbrev zpH5 (h : Heap) (l1 l2 l3 : Addr) : Heap := (zpH4 h l1 l2 l3).push { cls := .type "tuple", data := .seq #[.none, .none, .none] }
noncomputable abbrev zpH6 (h : Heap) (l1 l2 l3 : Addr) : Heap := (zpH5 h l1 l2 l3).push { cls := .type "zip", data := .fields #[.none, .bool false, .bool false, .ref (zpH3 h l1 l2 l3).objs.size, .ref (zpH4 h l1 l2 l3).objs.size] }
set_option maxHeartbeats 4000000 in
theorem zip3_new (l1 l2 l3 : Addr) (xs ys zs : Array Value) :
    Meets (Builtin.«zip.__new__» ⟨[.type "zip", .ref l1, .ref l2, .ref l3], []⟩) (fun _ R s => s.heap.IsList l1 xs ∧ s.heap.IsList l2 ys ∧ s.heap.IsList l3 zs ∧
      R (.ok (.ret (.ref (zpH5 s.heap l1 l2 l3).objs.size))) { s with heap := zpH6 s.heap l1 l2 l3 }) :=
  .of_wp fun prog w A R s h => by
    obtain ⟨hp, g, d, tk, os⟩ := s
    obtain ⟨hl1, hl2, hl3, h⟩ := h
    have hsub := sub_zip
    have hL1 : Heap.IsList (Shared.heap ⟨hp, g, d, tk, os⟩) l1 xs := hl1
    have hL2 : Heap.IsList (Shared.heap ⟨hp.push { cls := .type "list_iterator", data := .fields #[.ref l1, .int 0 0] }, g, d, tk, os⟩) l2 ys := Heap.IsList.push hl2 _
    have hL3 : Heap.IsList (Shared.heap ⟨(hp.push { cls := .type "list_iterator", data := .fields #[.ref l1, .int 0 0] }).push { cls := .type "list_iterator", data := .fields #[.ref l2, .int 0 0] }, g, d, tk, os⟩) l3 zs := (Heap.IsList.push hl3 _).push _
    wp_walk using wpAny_pyIter_list hL1, wpAny_pyIter_list hL2, wpAny_pyIter_list hL3
    exact ⟨_, rfl, h⟩
section
variable {prog : Program} {w : World} {A : Around} {E : Value → Shared → Prop} {s : Shared}
theorem lt_push {h : Heap} {o : Obj} {n : Nat} (e : h.objs.size = n) : (h.push o).objs.size = n + 1 := by rw [Heap.size_push, e]
theorem call_zip3 {l1 l2 l3 : Addr} {xs ys zs : Array Value} {Q : Value → Shared → Prop} (hl1 : s.heap.IsList l1 xs) (hl2 : s.heap.IsList l2 ys) (hl3 : s.heap.IsList l3 zs)
    (h : ∀ h', Zst h' s.heap.objs.size l1 l2 l3 .none 0 xs ys zs → h'.objs.size = s.heap.objs.size + 6 →
      (∀ c o, s.heap.get? c = some o → h'.get? c = some o) → Q (.ref (s.heap.objs.size + 5)) { s with heap := h' }) :
    wpAny (model prog w) A (call (.type "zip") [.ref l1, .ref l2, .ref l3]) Q E s := by
  refine callType_new F.called_zip (by decide) (typeCall_zip3 _ _ _) (newCall_zip3 _ _ _) (fun obj => init_args4 obj _ _ _) F.entry_zip_new
    (zip3_new l1 l2 l3 xs ys zs) ⟨hl1, hl2, hl3, ?_⟩
  have z1 : (zpH1 s.heap l1).objs.size = s.heap.objs.size + 1 := lt_push rfl
  have z2 : (zpH1 (zpH1 s.heap l1) l2).objs.size = s.heap.objs.size + 2 := lt_push z1
  have z3 : (zpH3 s.heap l1 l2 l3).objs.size = s.heap.objs.size + 3 := lt_push z2
  have z4 : (zpH4 s.heap l1 l2 l3).objs.size = s.heap.objs.size + 4 := lt_push z3
  have z5 : (zpH5 s.heap l1 l2 l3).objs.size = s.heap.objs.size + 5 := lt_push z4
  have z6 : (zpH6 s.heap l1 l2 l3).objs.size = s.heap.objs.size + 6 := lt_push z5
  have up : ∀ {g : Heap} {o o' : Obj} {c : Addr}, g.get? c = some o → (g.push o').get? c = some o := fun e => Heap.get?_push_of_some _ e
  have k1 : (zpH6 s.heap l1 l2 l3).get? s.heap.objs.size = some _ := up (up (up (up (up (Heap.get?_push_size _ rfl)))))
  have k2 : (zpH6 s.heap l1 l2 l3).get? (zpH1 s.heap l1).objs.size = some _ := up (up (up (up (Heap.get?_push_size _ rfl))))
  have k3 : (zpH6 s.heap l1 l2 l3).get? (zpH1 (zpH1 s.heap l1) l2).objs.size = some _ := up (up (up (Heap.get?_push_size _ rfl)))
  have k4 : (zpH6 s.heap l1 l2 l3).get? (zpH3 s.heap l1 l2 l3).objs.size = some _ := up (up (Heap.get?_push_size _ rfl))
  have k5 : (zpH6 s.heap l1 l2 l3).get? (zpH4 s.heap l1 l2 l3).objs.size = some _ := up (Heap.get?_push_size _ rfl)
  have k6 : (zpH6 s.heap l1 l2 l3).get? (zpH5 s.heap l1 l2 l3).objs.size = some _ := Heap.get?_push_size _ rfl
  have hk : ∀ c o, s.heap.get? c = some o → (zpH6 s.heap l1 l2 l3).get? c = some o := fun c o e => up (up (up (up (up (up e)))))
  rw [z1] at k2
  rw [z2] at k3
  rw [z1, z2, z3] at k4
  rw [z4] at k5
  rw [z3, z4, z5] at k6
  show _ ∧ _
  rw [z5]
  exact ⟨⟨_, k6, rfl⟩, h _ ⟨k6, k4, ⟨_, _, _, k5⟩, ⟨_, k1, rfl, rfl⟩, ⟨_, k2, rfl, rfl⟩, ⟨_, k3, rfl, rfl⟩, hl1.at fun o => hk _ o, hl2.at fun o => hk _ o, hl3.at fun o => hk _ o⟩ z6 hk⟩
theorem set_trip {T : Addr} {a b c x : Value} {k : Nat} {Q : Unit → Shared → Prop} (hT : TripAt s.heap T a b c)
    (h : ∀ h', h'.get? T = some { cls := .type "tuple", data := .seq ((#[a, b, c] : Array Value).setIfInBounds k x) } → Heap.SameBut T s.heap h' → Q () { s with heap := h' }) :
    wpAny (model prog w) A (updateSeq T (·.setIfInBounds k x)) Q E s := by
  refine wpAny_updateSeq hT rfl (h _ ?_ (Heap.SameBut.update ..))
  rw [Heap.get?_update_self _ hT rfl]
  simp [Obj.mapSeq]
theorem zip3_item {I l1 l2 l3 k : Nat} {xs ys zs : Array Value} {x y z : Value} {Q : Value → Shared → Prop} (a1 : l1 < I) (a2 : l2 < I) (a3 : l3 < I)
    (S : Zst s.heap I l1 l2 l3 .none k xs ys zs) (hx : xs[k]? = some x) (hy : ys[k]? = some y) (hz : zs[k]? = some z)
    (hQ : ∀ h', Zst h' I l1 l2 l3 (rawInt s.heap.objs.size) (k + 1) xs ys zs → TripAt h' s.heap.objs.size x y z → (∀ c : Nat, ∀ o, c ≠ I → c ≠ I + 1 → c ≠ I + 2 → c ≠ I + 4 → c ≠ I + 5 → s.heap.get? c = some o → h'.get? c = some o) →
      Q (.ref s.heap.objs.size) { s with heap := h' }) :
    wpAny (model prog w) A (Builtin.«zip.__next__» ⟨[.ref (I + 5)], []⟩) (fun fin s' => ∃ v, fin = .done (.ret v) ∧ Q v s') E s := by
  obtain ⟨a, b, c, hTO⟩ := S.to
  have hz0 := S.z
  show wpAny _ _ (field (.ref _) 2 >>= _) _ _ _
  refine wpAny_bind (wpAny_field hz0 rfl (x := .bool false) rfl ?_)
  show wpAny _ _ (field (.ref _) 3 >>= _) _ _ _
  refine wpAny_bind (wpAny_field hz0 rfl (x := .ref (I + 3)) rfl ?_)
  refine wpAny_bind (wpAny_seqItems S.ti rfl ?_)
  show wpAny _ _ (Builtin.SmallTypes.ownedTupleIsFree (.ref _) >>= _) _ _ _
  refine wpAny_bind ?_
  unfold Builtin.SmallTypes.ownedTupleIsFree
  refine wpAny_bind (wpAny_field hz0 rfl (x := .none) rfl (wpAny_pure ?_))
  simp only [if_true]
  refine wpAny_bind (wpAny_rule ?_)
  refine wpAny_bind (wpAny_field hz0 rfl (x := .ref (I + 4)) rfl ?_)
  refine wpAny_bind (wpAny_setField_rec hz0 (by simp) fun h₁ hz₁ hs₁ => ?_)
  replace hz₁ : IsZip h₁ (I + 5) (I + 3) (I + 4) .ellipsis := hz₁
  have e₁ : ∀ c : Nat, ∀ o, c ≠ I + 5 → s.heap.get? c = some o → h₁.get? c = some o := fun c o n e => hs₁.extBut _ _ n e
  refine wpAny_bind ?_
  simp only [List.zipIdx_cons, List.zipIdx_nil, List.forIn_cons, List.forIn_nil]
  refine wpAny_bind (wpAny_bind (wpAny_onRaise ?_))
  show wpAny _ _ (Builtin.SmallTypes.nextOf (.ref I) >>= _) _ _ _
  refine wpAny_bind (wpAny_nextOf_list_item (S.i1.at fun o => e₁ _ o (by omega)) (S.L1.at fun o => e₁ _ o (by omega)) hx fun h₂ j₂ hs₂ => wpAny_pure ?_)
  have e₂ : ∀ c : Nat, ∀ o, c ≠ I → c ≠ I + 5 → s.heap.get? c = some o → h₂.get? c = some o := fun c o n n' e => hs₂.extBut _ _ n (e₁ c o n' e)
  have t₂ : TripAt h₂ (I + 4) a b c := e₂ _ _ (by omega) (by omega) hTO
  refine wpAny_bind (wpAny_seqItems t₂ rfl ?_)
  refine wpAny_bind (set_trip t₂ fun h₃ t₃ hs₃ => ?_)
  replace t₃ : TripAt h₃ (I + 4) x b c := t₃
  have e₃ : ∀ c : Nat, ∀ o, c ≠ I → c ≠ I + 4 → c ≠ I + 5 → s.heap.get? c = some o → h₃.get? c = some o := fun c o n n' n'' e => hs₃.extBut _ _ n' (e₂ c o n n'' e)
  refine wpAny_bind (wpAny_letGo (wpAny_pure ?_))
  refine wpAny_bind (wpAny_bind (wpAny_onRaise ?_))
  show wpAny _ _ (Builtin.SmallTypes.nextOf (.ref (I + 1)) >>= _) _ _ _
  refine wpAny_bind (wpAny_nextOf_list_item (S.i2.at fun o => e₃ _ o (by omega) (by omega) (by omega)) (S.L2.at fun o => e₃ _ o (by omega) (by omega) (by omega)) hy fun h₄ j₄ hs₄ => wpAny_pure ?_)
  have t₄ : TripAt h₄ (I + 4) x b c := hs₄.extBut _ _ (show (I + 4 : Nat) ≠ I + 1 by omega) t₃
  have e₄ : ∀ c : Nat, ∀ o, c ≠ I → c ≠ I + 1 → c ≠ I + 4 → c ≠ I + 5 → s.heap.get? c = some o → h₄.get? c = some o := fun c o n n1 n' n'' e => hs₄.extBut _ _ n1 (e₃ c o n n' n'' e)
  refine wpAny_bind (wpAny_seqItems t₄ rfl ?_)
  refine wpAny_bind (set_trip t₄ fun h₅ t₅ hs₅ => ?_)
  replace t₅ : TripAt h₅ (I + 4) x y c := t₅
  have e₅ : ∀ c : Nat, ∀ o, c ≠ I → c ≠ I + 1 → c ≠ I + 4 → c ≠ I + 5 → s.heap.get? c = some o → h₅.get? c = some o := fun c o n n1 n' n'' e => hs₅.extBut _ _ n' (e₄ c o n n1 n' n'' e)
  refine wpAny_bind (wpAny_letGo (wpAny_pure ?_))
  refine wpAny_bind (wpAny_bind (wpAny_onRaise ?_))
  show wpAny _ _ (Builtin.SmallTypes.nextOf (.ref (I + 2)) >>= _) _ _ _
  refine wpAny_bind (wpAny_nextOf_list_item (S.i3.at fun o => e₅ _ o (by omega) (by omega) (by omega) (by omega)) (S.L3.at fun o => e₅ _ o (by omega) (by omega) (by omega) (by omega)) hz fun h₆ j₆ hs₆ => wpAny_pure ?_)
  have t₆ : TripAt h₆ (I + 4) x y c := hs₆.extBut _ _ (show (I + 4 : Nat) ≠ I + 2 by omega) t₅
  refine wpAny_bind (wpAny_seqItems t₆ rfl ?_)
  refine wpAny_bind (set_trip t₆ fun h₇ t₇ hs₇ => ?_)
  replace t₇ : TripAt h₇ (I + 4) x y z := t₇
  have e₇ : ∀ c : Nat, ∀ o, c ≠ I → c ≠ I + 1 → c ≠ I + 2 → c ≠ I + 4 → c ≠ I + 5 → s.heap.get? c = some o → h₇.get? c = some o := fun c o n n1 n2 n' n'' e => hs₇.extBut _ _ n' (hs₆.extBut _ _ n2 (e₅ c o n n1 n' n'' e))
  refine wpAny_bind (wpAny_letGo (wpAny_pure (wpAny_pure ?_)))
  refine wpAny_bind (wpAny_seqItems t₇ rfl ?_)
  refine wpAny_bind (wpAny_newTuple ?_)
  have hsz : h₇.objs.size = s.heap.objs.size := by rw [hs₇.1, hs₆.1, hs₅.1, hs₄.1, hs₃.1, hs₂.1, hs₁.1]
  have b₇ : ∀ c : Nat, c ≠ I + 1 → c ≠ I + 2 → c ≠ I + 4 → ∀ o, h₂.get? c = some o → h₇.get? c = some o := fun c n1 n2 n4 o e =>
    hs₇.extBut _ _ n4 (hs₆.extBut _ _ n2 (hs₅.extBut _ _ n4 (hs₄.extBut _ _ n1 (hs₃.extBut _ _ n4 e))))
  have z₇ : IsZip h₇ (I + 5) (I + 3) (I + 4) .ellipsis := b₇ _ (by omega) (by omega) (by omega) _ (hs₂.extBut _ _ (show (I + 5 : Nat) ≠ I by omega) hz₁)
  have i1 : h₇.IsListIter I l1 (k + 1) := j₂.at fun o => b₇ _ (by omega) (by omega) (by omega) o
  have i2 : h₇.IsListIter (I + 1) l2 (k + 1) := j₄.at fun o e => hs₇.extBut _ _ (show (I + 1 : Nat) ≠ I + 4 by omega) (hs₆.extBut _ _ (show (I + 1 : Nat) ≠ I + 2 by omega) (hs₅.extBut _ _ (show (I + 1 : Nat) ≠ I + 4 by omega) e))
  have i3 : h₇.IsListIter (I + 2) l3 (k + 1) := j₆.at fun o e => hs₇.extBut _ _ (show (I + 2 : Nat) ≠ I + 4 by omega) e
  have hlt : I + 5 < h₇.objs.size := Heap.lt_size z₇
  show wpAny _ _ (Builtin.SmallTypes.ownedTupleHandOut (.ref _) (.ref h₇.objs.size) >>= _) _ _ _
  refine wpAny_bind ?_
  unfold Builtin.SmallTypes.ownedTupleHandOut
  have z₈ : IsZip (h₇.push { cls := .type "tuple", data := .seq #[x, y, z] }) (I + 5) (I + 3) (I + 4) .ellipsis := Heap.get?_push_of_some _ z₇
  refine wpAny_bind (wpAny_setField_rec z₈ (by simp) fun h₈ z₈' hs₈ => ?_)
  replace z₈' : IsZip h₈ (I + 5) (I + 3) (I + 4) (rawInt h₇.objs.size) := z₈'
  refine wpAny_setField_rec z₈' (by simp) fun h₉ z₉ hs₉ => ?_
  replace z₉ : IsZip h₉ (I + 5) (I + 3) (I + 4) (rawInt h₇.objs.size) := z₉
  have up : ∀ c : Nat, ∀ o, c ≠ I + 5 → h₇.get? c = some o → h₉.get? c = some o := fun c o n e => hs₉.extBut _ _ n (hs₈.extBut _ _ n (Heap.get?_push_of_some _ e))
  have hT : TripAt h₉ h₇.objs.size x y z := hs₉.extBut _ _ (Nat.ne_of_gt hlt) (hs₈.extBut _ _ (Nat.ne_of_gt hlt) (Heap.get?_push_size _ rfl))
  rw [hsz] at z₉ hT
  refine wpAny_pure ⟨_, rfl, ?_⟩
  show Q (.ref h₇.objs.size) _
  rw [hsz]
  have all : ∀ c : Nat, ∀ o, c ≠ I → c ≠ I + 1 → c ≠ I + 2 → c ≠ I + 4 → c ≠ I + 5 → s.heap.get? c = some o → h₉.get? c = some o := fun c o n n1 n2 n4 n5 e => up c o n5 (e₇ c o n n1 n2 n4 n5 e)
  refine hQ h₉ ⟨z₉, all _ _ (by omega) (by omega) (by omega) (by omega) (by omega) S.ti, ⟨_, _, _, up _ _ (by omega) t₇⟩, i1.at fun o e => up _ o (by omega) e, i2.at fun o e => up _ o (by omega) e, i3.at fun o e => up _ o (by omega) e,
    S.L1.at fun o => all _ o (by omega) (by omega) (by omega) (by omega) (by omega), S.L2.at fun o => all _ o (by omega) (by omega) (by omega) (by omega) (by omega), S.L3.at fun o => all _ o (by omega) (by omega) (by omega) (by omega) (by omega)⟩ hT all
theorem zip3_end {I l1 l2 l3 k : Nat} {xs ys zs : Array Value} {Q : Fin → Shared → Prop} (hh : A.handled = none) (a1 : l1 < I)
    (S : Zst s.heap I l1 l2 l3 .none k xs ys zs) (hx : xs[k]? = none)
    (hE : ∀ h' e, (∀ c : Nat, ∀ o, c ≠ I → c ≠ I + 5 → s.heap.get? c = some o → h'.get? c = some o) → (∃ o, h'.get? e = some o ∧ o.cls = .type "StopIteration") → E (.ref e) { s with heap := h' }) :
    wpAny (model prog w) A (Builtin.«zip.__next__» ⟨[.ref (I + 5)], []⟩) Q E s := by
  have hz0 := S.z
  show wpAny _ _ (field (.ref _) 2 >>= _) _ _ _
  refine wpAny_bind (wpAny_field hz0 rfl (x := .bool false) rfl ?_)
  show wpAny _ _ (field (.ref _) 3 >>= _) _ _ _
  refine wpAny_bind (wpAny_field hz0 rfl (x := .ref (I + 3)) rfl ?_)
  refine wpAny_bind (wpAny_seqItems S.ti rfl ?_)
  show wpAny _ _ (Builtin.SmallTypes.ownedTupleIsFree (.ref _) >>= _) _ _ _
  refine wpAny_bind ?_
  unfold Builtin.SmallTypes.ownedTupleIsFree
  refine wpAny_bind (wpAny_field hz0 rfl (x := .none) rfl (wpAny_pure ?_))
  simp only [if_true]
  refine wpAny_bind (wpAny_rule ?_)
  refine wpAny_bind (wpAny_field hz0 rfl (x := .ref (I + 4)) rfl ?_)
  refine wpAny_bind (wpAny_setField_rec hz0 (by simp) fun h₁ hz₁ hs₁ => ?_)
  replace hz₁ : IsZip h₁ (I + 5) (I + 3) (I + 4) .ellipsis := hz₁
  refine wpAny_bind ?_
  simp only [List.zipIdx_cons, List.zipIdx_nil, List.forIn_cons, List.forIn_nil]
  refine wpAny_bind (wpAny_bind (wpAny_onRaise ?_))
  show wpAny _ _ (Builtin.SmallTypes.nextOf (.ref I) >>= _) _ _ _
  refine wpAny_bind (wpAny_nextOf_list_end hh (S.i1.at fun o e => hs₁.extBut _ _ (show (I : Nat) ≠ I + 5 by omega) e) (S.L1.at fun o e => hs₁.extBut _ _ (show (l1 : Nat) ≠ I + 5 by omega) e) hx fun h₂ e hs₂ he => ?_)
  obtain ⟨oe, hoe, hce⟩ := he
  have hz₂ : IsZip h₂ (I + 5) (I + 3) (I + 4) .ellipsis := hs₂ _ _ (show (I + 5 : Nat) ≠ I by omega) hz₁
  have hez : e ≠ I + 5 := fun x => by subst x; rw [hz₂] at hoe; cases hoe; simp at hce
  refine wpAny_setField_rec hz₂ (by simp) fun h₃ _ hs₃ => hE h₃ e (fun c o c1 c2 x => hs₃.extBut _ _ c2 (hs₂ _ _ c1 (hs₁.extBut _ _ c2 x))) ⟨oe, hs₃.extBut _ _ hez hoe, hce⟩
theorem zip3_turns {target : PySem.Expr} {elts : List PySem.Expr} {q : Nat} {pos : Pos} {I l1 l2 l3 : Nat} {xs ys zs : Array Value} (hh : A.handled = none) (ht : target = .Tuple elts q pos) (a1 : l1 < I) (a2 : l2 < I) (a3 : l3 < I) (n1 : xs.size = 3) (n2 : ys.size = 3) (n3 : zs.size = 3) :
    KTurns prog w A target (I + 5) [I, I + 1, I + 2, I + 3, I + 4, I + 5, l1, l2, l3] [I, I + 1, I + 2, I + 4, I + 5] 3
      (fun i v h => ∃ T x y z, v = .ref T ∧ xs[i]? = some x ∧ ys[i]? = some y ∧ zs[i]? = some z ∧ IsTup h T #[x, y, z])
      (fun i v h => ∃ T x y z, v = .ref T ∧ xs[i]? = some x ∧ ys[i]? = some y ∧ zs[i]? = some z ∧ TripAt h T x y z ∧ Zst h I l1 l2 l3 (rawInt T) (i + 1) xs ys zs)
      (fun i h => Zst h I l1 l2 l3 .none i xs ys zs) where
  sub := fun b hb => by simp at hb ⊢; rcases hb with rfl | rfl | rfl | rfl | rfl <;> simp
  frame := fun i h h' S hk => by
    obtain ⟨a, b, c, t⟩ := S.to
    exact ⟨hk (I + 5) (by simp) _ S.z, hk (I + 3) (by simp) _ S.ti, ⟨a, b, c, hk (I + 4) (by simp) _ t⟩, S.i1.at (hk I (by simp)), S.i2.at (hk (I + 1) (by simp)), S.i3.at (hk (I + 2) (by simp)), S.L1.at (hk l1 (by simp)), S.L2.at (hk l2 (by simp)), S.L3.at (hk l3 (by simp))⟩
  item := fun i s Q E hi S hQ => by
    have hT : s.TypeIs (.ref (I + 5)) "zip" := ⟨_, S.z, rfl⟩
    unfold pyNext
    refine wpAny_bind (wpAny_attempt (wpAny_callSpecial?_slot (name := Str.ofString "__next__") hT F.slot_zip_next
      (wpAny_call_entry F.slot_zip_next hT F.entry_zip_next
        (zip3_item a1 a2 a3 S (Array.getElem?_eq_getElem (by omega)) (Array.getElem?_eq_getElem (by omega)) (Array.getElem?_eq_getElem (by omega)) fun h' S' T' hk => ?_) (F.args_zip_next_1 _))))
    exact wpAny_pure (hQ (.ref s.heap.objs.size) h' s.toks ⟨_, _, _, _, rfl, Array.getElem?_eq_getElem (by omega), Array.getElem?_eq_getElem (by omega), Array.getElem?_eq_getElem (by omega), T', S'⟩
      fun b o hb e => hk b o (fun x => hb (by simp [x])) (fun x => hb (by simp [x])) (fun x => hb (by simp [x])) (fun x => hb (by simp [x])) (fun x => hb (by simp [x])) e)
  go := fun i v s Q E hm hQ => by
    obtain ⟨T, x, y, z, rfl, e1, e2, e3, hT, S⟩ := hm
    subst ht
    refine wpAny_letOwnedTupleGo_zip S.z fun h' hz' hs' => ?_
    have k : ∀ c : Nat, ∀ o, c ≠ I + 5 → s.heap.get? c = some o → h'.get? c = some o := fun c o n e => hs'.extBut _ _ n e
    obtain ⟨a, b, c, t⟩ := S.to
    have hne : T ≠ I + 5 := fun x => by subst x; have h0 := congrArg Obj.cls (Option.some.inj (Eq.trans (Eq.symm hT) S.z)); simp at h0
    exact hQ h' ⟨T, x, y, z, rfl, e1, e2, e3, ⟨_, k _ _ hne hT, rfl, _, rfl⟩⟩
      ⟨hz', k _ _ (by omega) S.ti, ⟨a, b, c, k _ _ (by omega) t⟩, S.i1.at fun o => k _ o (by omega), S.i2.at fun o => k _ o (by omega), S.i3.at fun o => k _ o (by omega), S.L1.at fun o => k _ o (by omega), S.L2.at fun o => k _ o (by omega), S.L3.at fun o => k _ o (by omega)⟩
      fun b o hb e => k b o (fun x => hb (by simp [x])) e
  done := fun s Q E S hQ => by
    have hT : s.TypeIs (.ref (I + 5)) "zip" := ⟨_, S.z, rfl⟩
    unfold pyNext
    refine wpAny_bind (wpAny_attempt (wpAny_callSpecial?_slot (name := Str.ofString "__next__") hT F.slot_zip_next
      (wpAny_call_entry F.slot_zip_next hT F.entry_zip_next (zip3_end hh a1 S (Array.getElem?_eq_none (by omega)) fun h' e hk he => ?_) (F.args_zip_next_1 _))))
    obtain ⟨o, ho, hc⟩ := he
    refine wpAny_bind (wpAny_isInstance (T := "StopIteration") (b := true) ⟨o, ho, hc⟩ isSubtype_stop ?_)
    exact wpAny_pure (hQ h' s.toks fun b o hb e => hk b o (fun x => hb (by simp [x])) (fun x => hb (by simp [x])) e)
end
end
section
/-- the six objects of a zip over three lists -/
noncomputable def zipObjs (I : Nat) (j1 j2 j3 oT oO oz : Obj) : List (Addr × Obj) := [(I, j1), (I + 1, j2), (I + 2, j3), (I + 3, oT), (I + 4, oO), (I + 5, oz)]
/-- what the end of a turn hands on -/
noncomputable def ZEnd (h₀ : Heap) (L : Addr) (s : Shared) (I : Nat) (its : List (Addr × Obj)) (J : (PySem.Str → Option Value) → List (Addr × Obj) → Prop) (Q : Flow → Shared → Prop) (f : Flow) (s' : Shared) : Prop :=
  match f with
  | .ret v => Q (.ret v) s'
  | .brk => Q .next s'
  | _ => ∃ h' tk' m' news', s' = { s with heap := h', toks := tk' } ∧ Fr h₀ L h' m' ∧ News h₀ L h' (its ++ news') ∧ (∀ p ∈ news', p.1 < I) ∧ J m' news'
theorem ZEnd.next {h₀ : Heap} {L : Addr} {s : Shared} {I : Nat} {its : List (Addr × Obj)} {J : (PySem.Str → Option Value) → List (Addr × Obj) → Prop} {Q : Flow → Shared → Prop} {h' : Heap} {tk' : Nat} {m' : PySem.Str → Option Value} {all news' : List (Addr × Obj)}
    (F : Fr h₀ L h' m') (N : News h₀ L h' all) (sub : ∀ p ∈ its ++ news', p ∈ all) (lt : ∀ p ∈ news', p.1 < I) (hJ : J m' news') : ZEnd h₀ L s I its J Q .next { s with heap := h', toks := tk' } :=
  ⟨h', tk', m', news', rfl, F, fun p hp => N p (sub p hp), lt, hJ⟩
theorem nlt {a b : Nat} (k : Nat) (h : a < b) (e : a = b + k) : False := by omega
section
variable {prog : Program} {w : World} {A : Around} {E : Value → Shared → Prop} {s : Shared} {env : Env} {h₀ : Heap} {target : PySem.Expr} {body : List Stmt} {Q : Flow → Shared → Prop}
theorem zip3_for {elts : List PySem.Expr} {q : Nat} {pos : Pos} {l1 l2 l3 : Nat} {o1 o2 o3 : Obj} {xs ys zs : Array Value} {m₀ : PySem.Str → Option Value} {news : List (Addr × Obj)} (hh : A.handled = none) (ht : target = .Tuple elts q pos) (n1 : xs.size = 3) (n2 : ys.size = 3) (n3 : zs.size = 3)
    (F : Fr h₀ env.locals s.heap m₀) (N : News h₀ env.locals s.heap news) (d1 : (l1, o1) ∈ news) (d2 : (l2, o2) ∈ news) (d3 : (l3, o3) ∈ news)
    (c1 : o1.cls = .type "list") (c2 : o2.cls = .type "list") (c3 : o3.cls = .type "list") (k1 : ∃ n, o1.data = .seq xs n) (k2 : ∃ n, o2.data = .seq ys n) (k3 : ∃ n, o3.data = .seq zs n)
    (J : (PySem.Str → Option Value) → List (Addr × Obj) → Prop) (hJ0 : J m₀ news) (hJl : ∀ m' n', J m' n' → (l1, o1) ∈ n' ∧ (l2, o2) ∈ n' ∧ (l3, o3) ∈ n')
    (turn : ∀ i x y z (I : Nat) T h tk m₁ news₁ j1 j2 j3 oT oO oz, (∀ p ∈ news, p.1 < I) → i < 3 → xs[i]? = some x → ys[i]? = some y → zs[i]? = some z → IsTup h T #[x, y, z] → J m₁ news₁ → (∀ p ∈ news₁, p.1 < I) → Fr h₀ env.locals h m₁ →
      News h₀ env.locals h (zipObjs I j1 j2 j3 oT oO oz ++ news₁) →
      wpAny (model prog w) A (assign target env (.ref T)) (fun _ s₂ => wpAny (model prog w) A (execs body env) (ZEnd h₀ env.locals { s with heap := h, toks := tk } I (zipObjs I j1 j2 j3 oT oO oz) J Q) E s₂) E { s with heap := h, toks := tk })
    (fin : ∀ h tk m' news', Fr h₀ env.locals h m' → News h₀ env.locals h news' → J m' news' → Q .next { s with heap := h, toks := tk }) :
    wpAny (model prog w) A (call (.type "zip") [.ref l1, .ref l2, .ref l3]) (fun xv s₁ => wpAny (model prog w) A (pyIter xv) (fun it s₂ => TurnsAt prog w A h₀ env target body Q E it s₂) E s₁) E s := by
  obtain ⟨n1', k1⟩ := k1
  obtain ⟨n2', k2⟩ := k2
  obtain ⟨n3', k3⟩ := k3
  refine call_zip3 (xs := xs) (ys := ys) (zs := zs) ⟨_, (N _ d1).1, c1, _, k1⟩ ⟨_, (N _ d2).1, c2, _, k2⟩ ⟨_, (N _ d3).1, c3, _, k3⟩ fun h' S hsz hk => ?_
  refine wpAny_pyIter_zip S.z ?_
  have lt : ∀ p ∈ news, p.1 < s.heap.objs.size := fun p hp => Heap.lt_size (N p hp).1
  have hL : env.locals < s.heap.objs.size := by
    obtain ⟨o, _, _, h, _⟩ := F.ns
    exact Heap.lt_size h
  have hnew : ∀ b : Nat, s.heap.objs.size ≤ b → h₀.get? b = none := fun b hb => by
    cases e : h₀.get? b with
    | none => rfl
    | some o => exact absurd (Heap.lt_size (F.keep _ _ e)) (Nat.not_lt.mpr hb)
  have a1 : l1 < s.heap.objs.size := lt _ d1
  have a2 : l2 < s.heap.objs.size := lt _ d2
  have a3 : l3 < s.heap.objs.size := lt _ d3
  refine ⟨_, _, _, _, _, _, _, m₀, news, fun _ m' n' => J m' n' ∧ ∀ p ∈ n', p.1 < s.heap.objs.size, rfl, zip3_turns hh ht a1 a2 a3 n1 n2 n3, ?_, ?_, ?_, S, F.keeps hk, N.grown hk, ⟨hJ0, lt⟩, ?_, ?_⟩
  · intro hm
    have d4 : env.locals ≠ l1 := fun e => (N _ d1).2.1 e.symm
    have d5 : env.locals ≠ l2 := fun e => (N _ d2).2.1 e.symm
    have d6 : env.locals ≠ l3 := fun e => (N _ d3).2.1 e.symm
    simp only [List.mem_cons, List.not_mem_nil, or_false] at hm
    have hL' : (env.locals : Nat) < s.heap.objs.size := hL
    rcases hm with e | e | e | e | e | e | e | e | e
    · exact absurd hL (by rw [e]; exact Nat.lt_irrefl _)
    · exact (nlt 1 hL' e).elim
    · exact (nlt 2 hL' e).elim
    · exact (nlt 3 hL' e).elim
    · exact (nlt 4 hL' e).elim
    · exact (nlt 5 hL' e).elim
    · exact d4 e
    · exact d5 e
    · exact d6 e
  · intro b hb
    simp only [List.mem_cons, List.not_mem_nil, or_false] at hb
    refine hnew b ?_
    rcases hb with rfl | rfl | rfl | rfl | rfl
    · exact Nat.le_refl _
    · exact Nat.le_add_right _ _
    · exact Nat.le_add_right _ _
    · exact Nat.le_add_right _ _
    · exact Nat.le_add_right _ _
  · intro p hp hm
    have := lt p hp
    simp only [List.mem_cons, List.not_mem_nil, or_false] at hm
    have h1 : (p.1 : Nat) < s.heap.objs.size := this
    rcases hm with e | e | e | e | e
    · exact absurd h1 (by rw [e]; exact Nat.lt_irrefl _)
    · exact (nlt 1 h1 e).elim
    · exact (nlt 2 h1 e).elim
    · exact (nlt 4 h1 e).elim
    · exact (nlt 5 h1 e).elim
  · intro i v m₁ news₁ h₁ tk₁ own hi hP hJ hoff hown hget hall S₁ F₁ N₁
    obtain ⟨T, x, y, z, rfl, ex, ey, ez, hT⟩ := hP
    obtain ⟨hJ, hlt⟩ := hJ
    obtain ⟨oO, hto⟩ : ∃ o, h₁.get? (s.heap.objs.size + 4) = some o := by obtain ⟨a, b, c, e⟩ := S₁.to; exact ⟨_, e⟩
    obtain ⟨j1, g1, _⟩ := S₁.i1
    obtain ⟨j2, g2, _⟩ := S₁.i2
    obtain ⟨j3, g3, _⟩ := S₁.i3
    obtain ⟨oz, gz⟩ : ∃ o, h₁.get? (s.heap.objs.size + 5) = some o := ⟨_, S₁.z⟩
    obtain ⟨oT, gt⟩ : ∃ o, h₁.get? (s.heap.objs.size + 3) = some o := ⟨_, S₁.ti⟩
    have mem : ∀ (b : Nat) (o : Obj), b ∈ [s.heap.objs.size, s.heap.objs.size + 1, s.heap.objs.size + 2, s.heap.objs.size + 3, s.heap.objs.size + 4, s.heap.objs.size + 5, l1, l2, l3] → s.heap.objs.size ≤ b → h₁.get? b = some o → (b, o) ∈ own ++ news₁ := fun b o hb hge hg => List.mem_append_left _ (hall b hb (hnew b hge) o hg)
    have N₂ : News h₀ env.locals h₁ (zipObjs s.heap.objs.size j1 j2 j3 oT oO oz ++ news₁) := by
      intro p hp
      rcases List.mem_append.mp hp with hp | hp
      · refine N₁ p ?_
        simp only [zipObjs, List.mem_cons, List.not_mem_nil, or_false] at hp
        rcases hp with rfl | rfl | rfl | rfl | rfl | rfl
        · exact mem _ _ (by simp) (by omega) g1
        · exact mem _ _ (by simp) (by omega) g2
        · exact mem _ _ (by simp) (by omega) g3
        · exact mem _ _ (by simp) (by omega) gt
        · exact mem _ _ (by simp) (by omega) hto
        · exact mem _ _ (by simp) (by omega) gz
      · exact N₁ p (List.mem_append_right _ hp)
    have tr := turn i x y z s.heap.objs.size T h₁ tk₁ m₁ news₁ j1 j2 j3 oT oO oz lt hi ex ey ez hT hJ hlt F₁ N₂
    have own_in : ∀ {h'' : Heap} {m' : PySem.Str → Option Value} {news' : List (Addr × Obj)}, J m' news' → News h₀ env.locals h'' (zipObjs s.heap.objs.size j1 j2 j3 oT oO oz ++ news') → ∀ p ∈ own, h''.get? p.1 = some p.2 := by
      intro h'' m' news' hJ' N' p hp
      have hg := hget p hp
      have hf := hown p hp
      obtain ⟨pa, po⟩ := p
      simp only [List.mem_cons, List.not_mem_nil, or_false] at hf
      have same : ∀ {o : Obj}, h₁.get? pa = some o → (pa, o) ∈ zipObjs s.heap.objs.size j1 j2 j3 oT oO oz ++ news' → h''.get? pa = some po := fun {o} ho hm => by
        have e : o = po := Option.some.inj (ho.symm.trans hg)
        exact e ▸ (N' _ hm).1
      rcases hf with rfl | rfl | rfl | rfl | rfl | rfl | rfl | rfl | rfl
      · exact same g1 (List.mem_append_left _ (by simp [zipObjs]))
      · exact same g2 (List.mem_append_left _ (by simp [zipObjs]))
      · exact same g3 (List.mem_append_left _ (by simp [zipObjs]))
      · exact same gt (List.mem_append_left _ (by simp [zipObjs]))
      · exact same hto (List.mem_append_left _ (by simp [zipObjs]))
      · exact same gz (List.mem_append_left _ (by simp [zipObjs]))
      · exact same ((N₁ _ (List.mem_append_right _ (hJl _ _ hJ).1)).1) (List.mem_append_right _ (hJl _ _ hJ').1)
      · exact same ((N₁ _ (List.mem_append_right _ (hJl _ _ hJ).2.1)).1) (List.mem_append_right _ (hJl _ _ hJ').2.1)
      · exact same ((N₁ _ (List.mem_append_right _ (hJl _ _ hJ).2.2)).1) (List.mem_append_right _ (hJl _ _ hJ').2.2)
    have fin' : ∀ s₃, (∃ h' tk' m' news', s₃ = { s with heap := h', toks := tk' } ∧ Fr h₀ env.locals h' m' ∧ News h₀ env.locals h' (zipObjs s.heap.objs.size j1 j2 j3 oT oO oz ++ news') ∧ (∀ p ∈ news', p.1 < s.heap.objs.size) ∧ J m' news') →
        LoopStepU h₀ env.locals [s.heap.objs.size, s.heap.objs.size + 1, s.heap.objs.size + 2, s.heap.objs.size + 4, s.heap.objs.size + 5] own (fun m' n' => J m' n' ∧ ∀ p ∈ n', p.1 < s.heap.objs.size) { s with heap := h₁, toks := tk₁ } .next s₃ := by
      rintro s₃ ⟨h', tk', m', news', rfl, F', N', lt', hJ'⟩
      refine ⟨rfl, h', tk', m', news', rfl, F', ?_, ?_, hJ', lt'⟩
      · intro p hp
        rcases List.mem_append.mp hp with hp | hp
        · have h1 := own_in hJ' N' p hp
          exact ⟨h1, (N₁ p (List.mem_append_left _ hp)).2⟩
        · exact N' p (List.mem_append_right _ hp)
      · intro p hp hm
        have h1 : (p.1 : Nat) < s.heap.objs.size := lt' p hp
        simp only [List.mem_cons, List.not_mem_nil, or_false] at hm
        rcases hm with e | e | e | e | e
        · exact absurd h1 (by rw [e]; exact Nat.lt_irrefl _)
        · exact (nlt 1 h1 e).elim
        · exact (nlt 2 h1 e).elim
        · exact (nlt 4 h1 e).elim
        · exact (nlt 5 h1 e).elim
    refine wpAny_mono tr (fun _ s₂ h₂ => wpAny_mono h₂ (fun f s₃ p => ?_) fun _ _ e => e) fun _ _ e => e
    cases f with
    | ret v => exact .ret p
    | brk => exact .brk p
    | next => exact .next (fin' _ p)
    | cont => exact .cont (fin' _ p)
  · intro h' tk m' news' F' N' _ hJ
    exact fin h' tk m' news' F' N' hJ.1
end
end
section
noncomputable def w1 (d : List (Fin 8)) : List UInt8 := (enc64 (octs d)).toList
noncomputable def w2 (d : List (Fin 8)) : List UInt8 := (url64 (octs d)).toList
noncomputable def w3 (d : List (Fin 8)) : List UInt8 := (b16 (octs d)).toList
noncomputable def txb (x : PySem.Str) (l : List UInt8) : Bool := (x.cps.toList == l.map UInt8.toNat) && l.all (fun c => decide (c.toNat < 128)) && decide (l.length ≤ 8)
noncomputable def high (d : List (Fin 8)) : Bool := (w1 d).any fun c => c == 43 || c == 47
noncomputable def low3 (d : List (Fin 8)) : List UInt8 := (w3 d).map Builtin.Bytes.toLower
noncomputable def tr (c : UInt8) : UInt8 := if c = 43 then 45 else if c = 47 then 95 else c
theorem encT_tr : ∀ i : _root_.Fin 256, encT.getD i.val (UInt8.ofNat i.val) = tr (UInt8.ofNat i.val) := by decide +kernel
theorem w2_tr (d : List (Fin 8)) : w2 d = (w1 d).map tr := by
  unfold w2 w1 url64 trB
  rw [Array.toList_map]
  refine List.map_congr_left fun c _ => ?_
  have h := encT_tr ⟨c.toNat, c.toNat_lt⟩
  have e : UInt8.ofNat c.toNat = c := by simp
  rw [show (⟨c.toNat, c.toNat_lt⟩ : _root_.Fin 256).val = c.toNat from rfl, e] at h
  exact h
theorem tr_ne (c : UInt8) : tr c ≠ 43 ∧ tr c ≠ 47 := by
  unfold tr
  by_cases h : c = 43
  · subst h; decide
  · by_cases h2 : c = 47
    · subst h2; decide
    · simp [h, h2]
theorem tr_same {c : UInt8} : tr c = c ↔ (c == 43 || c == 47) = false := by
  unfold tr
  by_cases h : c = 43
  · subst h; decide
  · by_cases h2 : c = 47
    · subst h2; decide
    · simp [h, h2]
theorem map_same {f : UInt8 → UInt8} : ∀ {l : List UInt8}, l.map f = l ↔ ∀ c ∈ l, f c = c
  | [] => by simp
  | c :: l => by simp [map_same (l := l)]
theorem w2_high (d : List (Fin 8)) : (w2 d == w1 d) = !high d := by
  rw [w2_tr, Bool.eq_iff_iff, beq_iff_eq, map_same, high, Bool.not_eq_true', ← Bool.not_eq_true, List.any_eq_true]
  constructor
  · rintro h ⟨c, hc, hx⟩
    rw [tr_same.mp (h c hc)] at hx
    cases hx
  · intro h c hc
    refine tr_same.mpr ?_
    rw [← Bool.not_eq_true]
    exact fun hx => h ⟨c, hc, hx⟩
/-- the letters, written out -/
noncomputable def alpha : List Nat := [65, 66, 67, 68, 69, 70, 71, 72, 73, 74, 75, 76, 77, 78, 79, 80, 81, 82, 83, 84, 85, 86, 87, 88, 89, 90, 97, 98, 99, 100, 101, 102, 103, 104, 105, 106, 107, 108, 109, 110, 111, 112, 113, 114, 115, 116, 117, 118, 119, 120, 121, 122, 48, 49, 50, 51, 52, 53, 54, 55, 56, 57]
theorem alpha_ofS : Str.ofString "ABCDEFGHIJKLMNOPQRSTUVWXYZabcdefghijklmnopqrstuvwxyz0123456789" = ⟨alpha.toArray⟩ := by decide +kernel
noncomputable def sgn (p q : Nat) (i : Nat) : Nat := (alpha ++ [p, q]).getD i 0
theorem item1 : ∀ i : _root_.Fin 64, Txt.item (Str.ofString "ABCDEFGHIJKLMNOPQRSTUVWXYZabcdefghijklmnopqrstuvwxyz0123456789" ++ Str.ofString "+/") ((i.val : Nat) : Int) = ⟨#[sgn 43 47 i.val]⟩ := by
  rw [alpha_ofS]; decide +kernel
theorem item2 : ∀ i : _root_.Fin 64, Txt.item (Str.ofString "ABCDEFGHIJKLMNOPQRSTUVWXYZabcdefghijklmnopqrstuvwxyz0123456789" ++ Str.ofString "-_") ((i.val : Nat) : Int) = ⟨#[sgn 45 95 i.val]⟩ := by
  rw [alpha_ofS]; decide +kernel
theorem sgn_tr : ∀ i : _root_.Fin 64, ∀ c : UInt8, c.toNat = sgn 43 47 i.val → (tr c).toNat = sgn 45 95 i.val := by
  have h : ∀ i : _root_.Fin 64, sgn 43 47 i.val < 256 ∧ (tr (UInt8.ofNat (sgn 43 47 i.val))).toNat = sgn 45 95 i.val := by decide +kernel
  intro i c hc
  have e : UInt8.ofNat (sgn 43 47 i.val) = c := by rw [← hc]; simp
  rw [← (h i).2, e]
/-- the place of a six of bits -/
noncomputable def plc (n k : Int) : Nat := ((n.fdiv (64 ^ k.toNat)).fmod 64).toNat
theorem plc_lt (n k : Int) : plc n k < 64 := by
  have h1 := Int.fmod_nonneg_of_pos (n.fdiv (64 ^ k.toNat)) (b := 64) (by decide)
  have h2 := Int.fmod_lt_of_pos (n.fdiv (64 ^ k.toNat)) (b := 64) (by decide)
  unfold plc; omega
theorem itm_plc {two : PySem.Str} {p q : Nat} (hi : ∀ i : _root_.Fin 64, Txt.item (Str.ofString "ABCDEFGHIJKLMNOPQRSTUVWXYZabcdefghijklmnopqrstuvwxyz0123456789" ++ two) ((i.val : Nat) : Int) = ⟨#[sgn p q i.val]⟩) (n k : Int) : itm two n k = ⟨#[sgn p q (plc n k)]⟩ := by
  have h := hi ⟨plc n k, plc_lt n k⟩
  have h1 := Int.fmod_nonneg_of_pos (n.fdiv (64 ^ k.toNat)) (b := 64) (by decide)
  have e : ((plc n k : Nat) : Int) = (n.fdiv (64 ^ k.toNat)).fmod 64 := by unfold plc; omega
  unfold itm
  rw [← e]; exact h
theorem nil_ofS : Str.ofString "" = ⟨#[]⟩ := by decide +kernel
theorem eq_ofS : Str.ofString "=" = ⟨#[61]⟩ := by decide +kernel
/-- the places of a row's sixes, and how many signs of padding stand behind them -/
noncomputable def places : List UInt8 → List Nat × Nat
  | [] => ([], 0)
  | [a] => ([plc (((0 * 256 + (a.toNat : Int)) * 256 + 0) * 256 + 0) 3, plc (((0 * 256 + (a.toNat : Int)) * 256 + 0) * 256 + 0) 2], 2)
  | [a, b] => ([plc (((0 * 256 + (a.toNat : Int)) * 256 + (b.toNat : Int)) * 256 + 0) 3, plc (((0 * 256 + (a.toNat : Int)) * 256 + (b.toNat : Int)) * 256 + 0) 2, plc (((0 * 256 + (a.toNat : Int)) * 256 + (b.toNat : Int)) * 256 + 0) 1], 1)
  | a :: b :: c :: _ => ([plc (((0 * 256 + (a.toNat : Int)) * 256 + (b.toNat : Int)) * 256 + (c.toNat : Int)) 3, plc (((0 * 256 + (a.toNat : Int)) * 256 + (b.toNat : Int)) * 256 + (c.toNat : Int)) 2, plc (((0 * 256 + (a.toNat : Int)) * 256 + (b.toNat : Int)) * 256 + (c.toNat : Int)) 1, plc (((0 * 256 + (a.toNat : Int)) * 256 + (b.toNat : Int)) * 256 + (c.toNat : Int)) 0], 0)
theorem six_cps {two : PySem.Str} {p q : Nat} (hi : ∀ i : _root_.Fin 64, Txt.item (Str.ofString "ABCDEFGHIJKLMNOPQRSTUVWXYZabcdefghijklmnopqrstuvwxyz0123456789" ++ two) ((i.val : Nat) : Int) = ⟨#[sgn p q i.val]⟩) (l : List UInt8) : (sixS two l).cps.toList = (places l).1.map (sgn p q) ++ List.replicate (places l).2 61 := by
  match l with
  | [] => simp only [sixS, nil_ofS, eq_ofS]; rfl
  | [a] => simp only [sixS, itm_plc hi, nil_ofS, eq_ofS]; rfl
  | [a, b] => simp only [sixS, itm_plc hi, nil_ofS, eq_ofS]; rfl
  | a :: b :: c :: r => simp only [sixS, itm_plc hi, nil_ofS, eq_ofS]; rfl
theorem places_lt (l : List UInt8) : ∀ i ∈ (places l).1, i < 64 := by
  match l with
  | [] => intro i h; cases h
  | [a] => intro i h; simp only [places, List.mem_cons, List.not_mem_nil, or_false] at h; rcases h with rfl | rfl <;> exact plc_lt _ _
  | [a, b] => intro i h; simp only [places, List.mem_cons, List.not_mem_nil, or_false] at h; rcases h with rfl | rfl | rfl <;> exact plc_lt _ _
  | a :: b :: c :: r => intro i h; simp only [places, List.mem_cons, List.not_mem_nil, or_false] at h; rcases h with rfl | rfl | rfl | rfl <;> exact plc_lt _ _
noncomputable def okRow (d : List (Fin 8)) : Bool :=
  ((places (octs d)).1.map (sgn 43 47) ++ List.replicate (places (octs d)).2 61 == (w1 d).map UInt8.toNat) && (w1 d).all (fun c => decide (c.toNat < 128)) && decide ((w1 d).length ≤ 8) && ((low3 d == w3 d) == !(octs d).any letP)
theorem okRow_0 : okRow [] = true := by decide +kernel
theorem okRow_1 : ∀ a : Fin 8, okRow [a] = true := by decide +kernel
theorem okRow_2 : ∀ a b : Fin 8, okRow [a, b] = true := by decide +kernel
theorem okRow_3 : ∀ a b c : Fin 8, okRow [a, b, c] = true := by decide +kernel
theorem okRow_all {d : List (Fin 8)} (h : d.length ≤ 3) : okRow d = true := by
  match d, h with
  | [], _ => exact okRow_0
  | [a], _ => exact okRow_1 a
  | [a, b], _ => exact okRow_2 a b
  | [a, b, c], _ => exact okRow_3 a b c
theorem figx : ∀ a : Fin 8, fig (oct a) = ⟨#[(hx ((oct a).toNat / 16)).toNat, (hx ((oct a).toNat % 16)).toNat]⟩ ∧ (hx ((oct a).toNat / 16)).toNat < 128 ∧ (hx ((oct a).toNat % 16)).toNat < 128 := by decide +kernel
theorem fig_tx {d : List (Fin 8)} (h : d.length ≤ 3) : txb (figS (octs d)) (w3 d) = true := by
  match d, h with
  | [], _ => decide +kernel
  | [a], _ =>
    obtain ⟨e1, l1, m1⟩ := figx a
    have ew : w3 [a] = [hx ((oct a).toNat / 16), hx ((oct a).toNat % 16)] := by show (b16 [oct a]).toList = _; rw [b16_1]
    have ef : (figS (octs [a])).cps.toList = [(hx ((oct a).toNat / 16)).toNat, (hx ((oct a).toNat % 16)).toNat] := by
      show (Txt.join (Str.ofString "") [fig (oct a)]).cps.toList = _
      rw [e1, nil_ofS]; rfl
    simp [txb, ew, ef, l1, m1]
  | [a, b], _ =>
    obtain ⟨e1, l1, m1⟩ := figx a
    obtain ⟨e2, l2, m2⟩ := figx b
    have ew : w3 [a, b] = [hx ((oct a).toNat / 16), hx ((oct a).toNat % 16), hx ((oct b).toNat / 16), hx ((oct b).toNat % 16)] := by show (b16 [oct a, oct b]).toList = _; rw [b16_2]
    have ef : (figS (octs [a, b])).cps.toList = [(hx ((oct a).toNat / 16)).toNat, (hx ((oct a).toNat % 16)).toNat, (hx ((oct b).toNat / 16)).toNat, (hx ((oct b).toNat % 16)).toNat] := by
      show (Txt.join (Str.ofString "") [fig (oct a), fig (oct b)]).cps.toList = _
      rw [e1, e2, nil_ofS]; rfl
    simp [txb, ew, ef, l1, m1, l2, m2]
  | [a, b, c], _ =>
    obtain ⟨e1, l1, m1⟩ := figx a
    obtain ⟨e2, l2, m2⟩ := figx b
    obtain ⟨e3, l3, m3⟩ := figx c
    have ew : w3 [a, b, c] = [hx ((oct a).toNat / 16), hx ((oct a).toNat % 16), hx ((oct b).toNat / 16), hx ((oct b).toNat % 16), hx ((oct c).toNat / 16), hx ((oct c).toNat % 16)] := by show (b16 [oct a, oct b, oct c]).toList = _; rw [b16_3]
    have ef : (figS (octs [a, b, c])).cps.toList = [(hx ((oct a).toNat / 16)).toNat, (hx ((oct a).toNat % 16)).toNat, (hx ((oct b).toNat / 16)).toNat, (hx ((oct b).toNat % 16)).toNat, (hx ((oct c).toNat / 16)).toNat, (hx ((oct c).toNat % 16)).toNat] := by
      show (Txt.join (Str.ofString "") [fig (oct a), fig (oct b), fig (oct c)]).cps.toList = _
      rw [e1, e2, e3, nil_ofS]; rfl
    simp [txb, ew, ef, l1, m1, l2, m2, l3, m3]
structure RowOk (d : List (Fin 8)) : Prop where
  t1 : txb (sixS (Str.ofString "+/") (octs d)) (w1 d) = true
  t2 : txb (sixS (Str.ofString "-_") (octs d)) (w2 d) = true
  t3 : txb (figS (octs d)) (w3 d) = true
  hi : (w2 d == w1 d) = !high d
  n2 : ∀ c ∈ w2 d, c.toNat ≠ 43 ∧ c.toNat ≠ 47
  lo : (low3 d == w3 d) = !(octs d).any letP
  u3 : ∀ c ∈ w3 d, Builtin.Bytes.toUpper c = c
  ul : (low3 d).map Builtin.Bytes.toUpper = w3 d
theorem tr_place {is : List Nat} (hi : ∀ i ∈ is, i < 64) {j : Nat} : ∀ {l : List UInt8}, is.map (sgn 43 47) ++ List.replicate j 61 = l.map UInt8.toNat → is.map (sgn 45 95) ++ List.replicate j 61 = (l.map tr).map UInt8.toNat := by
  induction is with
  | nil =>
    intro l h
    simp only [List.map_nil, List.nil_append] at h ⊢
    induction j generalizing l with
    | zero => cases l with
      | nil => rfl
      | cons c r => simp at h
    | succ j ih => cases l with
      | nil => simp at h
      | cons c r =>
        simp only [List.replicate_succ, List.map_cons, List.cons.injEq] at h ⊢
        have hc : c = 61 := by
          have : c.toNat = (61 : UInt8).toNat := h.1.symm
          exact UInt8.toNat_inj.mp this
        subst hc
        exact ⟨by decide, ih h.2⟩
  | cons i r ih =>
    intro l h
    cases l with
    | nil => simp at h
    | cons c l' =>
      simp only [List.map_cons, List.cons_append, List.cons.injEq] at h ⊢
      exact ⟨(sgn_tr ⟨i, hi i List.mem_cons_self⟩ c h.1.symm).symm, ih (fun k hk => hi k (List.mem_cons_of_mem _ hk)) h.2⟩
theorem tr_small {c : UInt8} (h : c.toNat < 128) : (tr c).toNat < 128 := by
  unfold tr
  by_cases h1 : c = 43
  · subst h1; decide
  · by_cases h2 : c = 47
    · subst h2; decide
    · simpa [h1, h2] using h
theorem row_ok {d : List (Fin 8)} (h : d.length ≤ 3) : RowOk d := by
  have k := okRow_all h
  simp only [okRow, Bool.and_eq_true, List.all_eq_true, decide_eq_true_eq, beq_iff_eq] at k
  obtain ⟨⟨⟨a1, a2⟩, a3⟩, a4⟩ := k
  refine ⟨?_, ?_, fig_tx h, w2_high d, ?_, a4, ?_, ?_⟩
  · simp only [txb, Bool.and_eq_true, List.all_eq_true, decide_eq_true_eq, beq_iff_eq]
    exact ⟨⟨by rw [six_cps item1, a1], a2⟩, a3⟩
  · simp only [txb, Bool.and_eq_true, List.all_eq_true, decide_eq_true_eq, beq_iff_eq]
    refine ⟨⟨?_, ?_⟩, ?_⟩
    · rw [six_cps item2, w2_tr]
      exact tr_place (places_lt _) a1
    · intro c hc
      rw [w2_tr, List.mem_map] at hc
      obtain ⟨b, hb, rfl⟩ := hc
      exact tr_small (a2 b hb)
    · rw [w2_tr, List.length_map]; exact a3
  · intro c hc
    rw [w2_tr, List.mem_map] at hc
    obtain ⟨b, _, rfl⟩ := hc
    exact ⟨fun e => (tr_ne b).1 (UInt8.toNat_inj.mp e), fun e => (tr_ne b).2 (UInt8.toNat_inj.mp e)⟩
  · refine map_same.mp ?_
    have e := congrArg Array.toList (up_up h)
    simpa [upB, w3] using e
  · have e := congrArg Array.toList (up_lo h)
    simpa [upB, loB, w3, low3] using e
end
section
theorem txb_use {x : PySem.Str} {l : List UInt8} (h : txb x l = true) : x.cps.map UInt8.ofNat = l.toArray ∧ (∀ c ∈ x.cps, c < 128) ∧ x.cps.size ≤ sizeLine := by
  simp only [txb, Bool.and_eq_true, List.all_eq_true, decide_eq_true_eq, beq_iff_eq] at h
  obtain ⟨⟨h1, h2⟩, h3⟩ := h
  have e : x.cps = (l.map UInt8.toNat).toArray := by rw [← h1]
  refine ⟨?_, ?_, ?_⟩
  · rw [e, List.map_toArray, List.map_map]
    congr 1
    refine (List.map_congr_left fun c _ => ?_).trans (List.map_id l)
    show UInt8.ofNat c.toNat = c
    simp
  · rw [e]
    intro c hc
    simp only [List.mem_toArray, List.mem_map] at hc
    obtain ⟨b, hb, rfl⟩ := hc
    exact h2 b hb
  · rw [e]
    simp only [List.size_toArray, List.length_map]
    exact Nat.le_trans h3 (Nat.le_of_ble_eq_true rfl)
section
variable {w : World} {A : Around} {s : Shared} {E Q : Value → Shared → Prop}
theorem octs_len {d : List (Fin 8)} (h : d.length ≤ 3) : (octs d).length ≤ 3 := by simpa [octs] using h
theorem bv_arr {b : Array UInt8} {t : Tok} : BV b.toList (.bytes b t) := ⟨t, by simp⟩
theorem enc1_spec {d : List (Fin 8)} {t : Tok} (hd : d.length ≤ 3) (H : Here w A s.heap) (hdp : A.depth + (2 + 1) < recursionLimit) (hun : A.units + 200 < cLine)
    (hQ : ∀ v h' tk', BV (w1 d) v → s.heap.StaysIn h' → Q v { s with heap := h', toks := tk' }) : wpAny (model prg w) A (call (.ref 183) [.bytes (octs d).toArray t]) Q E s :=
  b64encode_spec (octs_len hd) H hdp hun fun t h' tk' k => hQ _ h' tk' bv_arr k
theorem enc2_spec {d : List (Fin 8)} {t : Tok} (hd : d.length ≤ 3) (H : Here w A s.heap) (hdp : A.depth + (3 + 1) < recursionLimit) (hun : A.units + 300 < cLine)
    (hQ : ∀ v h' tk', BV (w2 d) v → s.heap.StaysIn h' → Q v { s with heap := h', toks := tk' }) : wpAny (model prg w) A (call (.ref 198) [.bytes (octs d).toArray t]) Q E s :=
  urlencode_spec (octs_len hd) H hdp hun fun t h' tk' k => hQ _ h' tk' bv_arr k
theorem enc3_spec {d : List (Fin 8)} {t : Tok} (hd : d.length ≤ 3) (H : Here w A s.heap) (hdp : A.depth + (2 + 1) < recursionLimit) (hun : A.units + 200 < cLine)
    (hQ : ∀ v h' tk', BV (w3 d) v → s.heap.StaysIn h' → Q v { s with heap := h', toks := tk' }) : wpAny (model prg w) A (call (.ref 212) [.bytes (octs d).toArray t]) Q E s :=
  b16encode_spec (octs_len hd) H hdp hun fun t h' tk' k => hQ _ h' tk' bv_arr k
theorem dec1_spec {d : List (Fin 8)} {t : Tok} (hd : d.length ≤ 3) (H : Here w A s.heap) (hdp : A.depth + (2 + 1) < recursionLimit) (hun : A.units + 200 < cLine)
    (hQ : ∀ v h' tk', BV (octs d) v → s.heap.StaysIn h' → Q v { s with heap := h', toks := tk' }) : wpAny (model prg w) A (call (.ref 191) [.bytes (w1 d).toArray t]) Q E s :=
  b64decode_spec' hd (by simp [w1]) H hdp hun fun t h' tk' k => hQ _ h' tk' ⟨t, rfl⟩ k
theorem dec2_spec {d : List (Fin 8)} {t : Tok} (hd : d.length ≤ 3) (H : Here w A s.heap) (hdp : A.depth + (3 + 1) < recursionLimit) (hun : A.units + 300 < cLine)
    (hQ : ∀ v h' tk', BV (octs d) v → s.heap.StaysIn h' → Q v { s with heap := h', toks := tk' }) : wpAny (model prg w) A (call (.ref 205) [.bytes (w2 d).toArray t]) Q E s := by
  have e : (w2 d).toArray = url64 (octs d) := by simp [w2]
  rw [e]
  exact urldecode_spec hd H hdp hun fun t h' tk' k => hQ _ h' tk' ⟨t, rfl⟩ k
theorem dec3_spec {d : List (Fin 8)} {t : Tok} (hd : d.length ≤ 3) (H : Here w A s.heap) (hdp : A.depth + (2 + 1) < recursionLimit) (hun : A.units + 200 < cLine)
    (hQ : ∀ v h' tk', BV (octs d) v → s.heap.StaysIn h' → Q v { s with heap := h', toks := tk' }) : wpAny (model prg w) A (call (.ref 220) [.bytes (w3 d).toArray t]) Q E s := by
  have e : (w3 d).toArray = b16 (octs d) := by simp [w3]
  rw [e]
  exact b16decode_spec hd H hdp hun fun t h' tk' k => hQ _ h' tk' ⟨t, rfl⟩ k
theorem six_spec {d : List (Fin 8)} {t u : Tok} {two : PySem.Str} (h2 : two.length = 2) (hd : d.length ≤ 3) (H : Here w A s.heap) (hdp : A.depth + (3 + 1) < recursionLimit) (hun : A.units + 300 < cLine)
    (hQ : ∀ h' tk' t', s.heap.StaysIn h' → Q (.str (sixS two (octs d)) t') { s with heap := h', toks := tk' }) : wpAny (model prg w) A (call (.ref 230) [.bytes (octs d).toArray t, .str two u]) Q E s := by
  match d, hd with
  | [], _ => exact six0 h2 H hdp hun hQ
  | [a], _ => exact six1 h2 H hdp hun hQ
  | [a, b], _ => exact six2 h2 H hdp hun hQ
  | [a, b, c], _ => exact six3 h2 H hdp hun hQ
theorem fig_spec {d : List (Fin 8)} {t : Tok} (hd : d.length ≤ 3) (H : Here w A s.heap) (hdp : A.depth + (3 + 1) < recursionLimit) (hun : A.units + 300 < cLine)
    (hQ : ∀ h' tk' t', s.heap.StaysIn h' → Q (.str (figS (octs d)) t') { s with heap := h', toks := tk' }) : wpAny (model prg w) A (call (.ref 235) [.bytes (octs d).toArray t]) Q E s := by
  exact fig_specL (by have e : (octs d).toArray.size = d.length := by simp [octs]
                      omega) H hdp hun hQ
end
section
variable {prog : Program} {w : World} {A : Around} {E : Value → Shared → Prop} {s : Shared} {Q : Value → Shared → Prop}
theorem encode_to {x : PySem.Str} {l : List UInt8} {t u : Tok} (h : txb x l = true) (hQ : ∀ v k, BV l v → Q v { s with toks := k }) : wpAny (model prog w) A (call (.builtin "str.encode") [.str x t, .str (Str.ofString "ascii") u]) Q E s := by
  obtain ⟨h1, h2, h3⟩ := txb_use h
  exact call_encode h2 h3 fun t' k => hQ _ k ⟨t', by rw [h1]⟩
end
/-- the end of a turn of the loop: the ledger but for three cells, the frame but for one name -/
noncomputable def putO : Nat → Obj → List (Addr × Obj) → List (Addr × Obj)
  | 0, o, p :: r => (p.1, o) :: r
  | k + 1, o, p :: r => p :: putO k o r
  | _, _, [] => []
noncomputable def JL (m₀ : PySem.Str → Option Value) (news : List (Addr × Obj)) (told : PySem.Str) (i j k : Nat) (m' : PySem.Str → Option Value) (n' : List (Addr × Obj)) : Prop :=
  ∃ (tv : Option Value) (o1 o2 o3 : Obj) (x1 x2 x3 : Option Value), o1.data = .cell x1 ∧ o2.data = .cell x2 ∧ o3.data = .cell x3 ∧ m' = (fun y => if y = told then tv else m₀ y) ∧ n' = putO i o1 (putO j o2 (putO k o3 news))
theorem told_same (m₀ : PySem.Str → Option Value) (told : PySem.Str) : m₀ = fun y => if y = told then m₀ told else m₀ y := by
  funext y
  by_cases h : y = told
  · simp [h]
  · simp [h]
theorem told_set (m₀ : PySem.Str → Option Value) (told : PySem.Str) (tv v : Option Value) : (fun y => if y = told then v else (fun y => if y = told then tv else m₀ y) y) = fun y => if y = told then v else m₀ y := by
  funext y
  by_cases h : y = told
  · simp [h]
  · simp [h]
end
section
section
variable {prog : Program} {w : World} {A : Around} {E : Value → Shared → Prop} {s : Shared} {env : Env} {h₀ : Heap} {target : PySem.Expr} {body : List Stmt} {Q : Flow → Shared → Prop}
theorem zip3_forJ (told : PySem.Str) (i j k : Nat) {elts : List PySem.Expr} {q : Nat} {pos : Pos} {l1 l2 l3 : Nat} {p1 p2 p3 : Obj} {xs ys zs : Array Value} {m₀ : PySem.Str → Option Value} {news : List (Addr × Obj)} (hh : A.handled = none) (ht : target = .Tuple elts q pos)
    (F : Fr h₀ env.locals s.heap m₀) (N : News h₀ env.locals s.heap news) (d1 : (l1, p1) ∈ news) (d2 : (l2, p2) ∈ news) (d3 : (l3, p3) ∈ news)
    (n1 : xs.size = 3) (n2 : ys.size = 3) (n3 : zs.size = 3)
    (c1 : p1.cls = .type "list") (c2 : p2.cls = .type "list") (c3 : p3.cls = .type "list") (k1 : ∃ n, p1.data = .seq xs n) (k2 : ∃ n, p2.data = .seq ys n) (k3 : ∃ n, p3.data = .seq zs n)
    (hc : ∃ (o1 o2 o3 : Obj) (x1 x2 x3 : Option Value), o1.data = .cell x1 ∧ o2.data = .cell x2 ∧ o3.data = .cell x3 ∧ news = putO i o1 (putO j o2 (putO k o3 news)))
    (hJl : ∀ o1 o2 o3, (l1, p1) ∈ putO i o1 (putO j o2 (putO k o3 news)) ∧ (l2, p2) ∈ putO i o1 (putO j o2 (putO k o3 news)) ∧ (l3, p3) ∈ putO i o1 (putO j o2 (putO k o3 news)))
    (turn : ∀ (r : Nat) x y z (I : Nat) T h tk (tv : Option Value) (o1 o2 o3 : Obj) (x1 x2 x3 : Option Value) (j1 j2 j3 oT oO oz : Obj), r < 3 → xs[r]? = some x → ys[r]? = some y → zs[r]? = some z → IsTup h T #[x, y, z] →
      o1.data = .cell x1 → o2.data = .cell x2 → o3.data = .cell x3 → (∀ p ∈ putO i o1 (putO j o2 (putO k o3 news)), p.1 < I) → Fr h₀ env.locals h (fun y => if y = told then tv else m₀ y) →
      News h₀ env.locals h (zipObjs I j1 j2 j3 oT oO oz ++ putO i o1 (putO j o2 (putO k o3 news))) →
      wpAny (model prog w) A (assign target env (.ref T)) (fun _ s₂ => wpAny (model prog w) A (execs body env) (ZEnd h₀ env.locals { s with heap := h, toks := tk } I (zipObjs I j1 j2 j3 oT oO oz) (JL m₀ news told i j k) Q) E s₂) E { s with heap := h, toks := tk })
    (fin : ∀ h tk (tv : Option Value) (o1 o2 o3 : Obj) (x1 x2 x3 : Option Value), o1.data = .cell x1 → o2.data = .cell x2 → o3.data = .cell x3 → Fr h₀ env.locals h (fun y => if y = told then tv else m₀ y) → News h₀ env.locals h (putO i o1 (putO j o2 (putO k o3 news))) → Q .next { s with heap := h, toks := tk }) :
    wpAny (model prog w) A (call (.type "zip") [.ref l1, .ref l2, .ref l3]) (fun xv s₁ => wpAny (model prog w) A (pyIter xv) (fun it s₂ => TurnsAt prog w A h₀ env target body Q E it s₂) E s₁) E s := by
  refine zip3_for hh ht n1 n2 n3 F N d1 d2 d3 c1 c2 c3 k1 k2 k3 (JL m₀ news told i j k) ?_ ?_ ?_ ?_
  · obtain ⟨o1, o2, o3, x1, x2, x3, a1, a2, a3, e⟩ := hc
    exact ⟨_, o1, o2, o3, x1, x2, x3, a1, a2, a3, told_same m₀ told, e⟩
  · rintro m' n' ⟨tv, o1, o2, o3, x1, x2, x3, _, _, _, _, rfl⟩
    exact hJl o1 o2 o3
  · rintro r x y z I T h tk m' n' j1 j2 j3 oT oO oz _ hr hx hy hz hT ⟨tv, o1, o2, o3, x1, x2, x3, a1, a2, a3, rfl, rfl⟩ l2 F' N'
    exact turn r x y z I T h tk tv o1 o2 o3 x1 x2 x3 j1 j2 j3 oT oO oz hr hx hy hz hT a1 a2 a3 l2 F' N'
  · rintro h tk m' n' F' N' ⟨tv, o1, o2, o3, x1, x2, x3, a1, a2, a3, rfl, rfl⟩
    exact fin h tk tv o1 o2 o3 x1 x2 x3 a1 a2 a3 F' N'
end
theorem putO_fst : ∀ (k : Nat) (o : Obj) (l : List (Addr × Obj)), (putO k o l).map (·.1) = l.map (·.1)
  | 0, _, [] => rfl
  | 0, _, _ :: _ => rfl
  | _ + 1, _, [] => rfl
  | k + 1, o, p :: r => by simp [putO, putO_fst k o r]
theorem ZEnd.nextJ {h₀ : Heap} {L : Addr} {s : Shared} {I : Nat} {its : List (Addr × Obj)} {Q : Flow → Shared → Prop} {h' : Heap} {tk' : Nat} {m₀ : PySem.Str → Option Value} {told : PySem.Str} {tv v : Option Value} {i j k : Nat} {all news : List (Addr × Obj)} {a1 a2 a3 o1 o2 o3 : Obj} {x1 x2 x3 : Option Value}
    (F : Fr h₀ L h' (fun y => if y = told then v else (fun y => if y = told then tv else m₀ y) y)) (N : News h₀ L h' all) (h0 : ∀ p ∈ putO i a1 (putO j a2 (putO k a3 news)), p.1 < I)
    (sub : ∀ p ∈ its ++ putO i o1 (putO j o2 (putO k o3 news)), p ∈ all) (c1 : o1.data = .cell x1) (c2 : o2.data = .cell x2) (c3 : o3.data = .cell x3) :
    ZEnd h₀ L s I its (JL m₀ news told i j k) Q .next { s with heap := h', toks := tk' } := by
  refine ZEnd.next F N sub (fun p hp => ?_) ⟨v, o1, o2, o3, x1, x2, x3, c1, c2, c3, told_set m₀ told tv v, rfl⟩
  have h1 : p.1 ∈ (putO i o1 (putO j o2 (putO k o3 news))).map (·.1) := List.mem_map.mpr ⟨p, hp, rfl⟩
  have e : (putO i o1 (putO j o2 (putO k o3 news))).map (·.1) = (putO i a1 (putO j a2 (putO k a3 news))).map (·.1) := by simp only [putO_fst]
  rw [e] at h1
  obtain ⟨q, hq, hqe⟩ := List.mem_map.mp h1
  exact hqe ▸ h0 q hq
end
section
noncomputable def dec64 : List UInt8 → List UInt8
  | [a, b, c, e] => if c == 61 then [o1 (vv a) (vv b)] else if e == 61 then [o1 (vv a) (vv b), o2 (vv b) (vv c)] else [o1 (vv a) (vv b), o2 (vv b) (vv c), o3 (vv c) (vv e)]
  | _ => []
noncomputable def unx (c : UInt8) : UInt8 := if c < 65 then c - 48 else c - 55
noncomputable def dec16 : List UInt8 → List UInt8
  | a :: b :: r => (unx a * 16 + unx b) :: dec16 r
  | _ => []
noncomputable def inj0 (d : List (Fin 8)) : Bool := (dec64 (w1 d) == octs d) && (dec16 (w3 d) == octs d)
theorem inj0_0 : inj0 [] = true := by decide +kernel
theorem inj0_1 : ∀ a : Fin 8, inj0 [a] = true := by decide +kernel
theorem inj0_2 : ∀ a b : Fin 8, inj0 [a, b] = true := by decide +kernel
theorem inj0_3 : ∀ a b c : Fin 8, inj0 [a, b, c] = true := by decide +kernel
theorem inj_all {d : List (Fin 8)} (h : d.length ≤ 3) : dec64 (w1 d) = octs d ∧ dec16 (w3 d) = octs d := by
  have k : inj0 d = true := by
    match d, h with
    | [], _ => exact inj0_0
    | [a], _ => exact inj0_1 a
    | [a, b], _ => exact inj0_2 a b
    | [a, b, c], _ => exact inj0_3 a b c
  simpa [inj0] using k
theorem w1_inj {d e : List (Fin 8)} (hd : d.length ≤ 3) (he : e.length ≤ 3) : w1 d = w1 e ↔ octs d = octs e :=
  ⟨fun h => by rw [← (inj_all hd).1, ← (inj_all he).1, h], fun h => by simp [w1, h]⟩
theorem w3_inj {d e : List (Fin 8)} (hd : d.length ≤ 3) (he : e.length ≤ 3) : w3 d = w3 e ↔ octs d = octs e :=
  ⟨fun h => by rw [← (inj_all hd).2, ← (inj_all he).2, h], fun h => by simp [w3, h]⟩
theorem w2_w1 (d : List (Fin 8)) : (trB decT (w2 d).toArray).toList = w1 d := by
  have e : (w2 d).toArray = url64 (octs d) := by simp [w2]
  rw [e, trip_enc]; rfl
theorem w2_inj {d e : List (Fin 8)} (hd : d.length ≤ 3) (he : e.length ≤ 3) : w2 d = w2 e ↔ octs d = octs e :=
  ⟨fun h => (w1_inj hd he).mp (by rw [← w2_w1, ← w2_w1, h]), fun h => by simp [w2, h]⟩
theorem keep_w {w : List (Fin 8) → List UInt8} (hw : ∀ {d e : List (Fin 8)}, d.length ≤ 3 → e.length ≤ 3 → (w d = w e ↔ octs d = octs e)) {D LD : List (List (Fin 8))} (hD : ∀ d ∈ D, d.length ≤ 3) (hL : ∀ d ∈ LD, d.length ≤ 3) :
    (D.map w).filter (fun l => !decide (l ∈ LD.map w)) = (D.filter fun d => !memD d LD).map w := by
  rw [List.filter_map]
  congr 1
  refine List.filter_congr fun d hd => ?_
  show (!decide (w d ∈ LD.map w)) = !decide (octs d ∈ LD.map octs)
  congr 1
  rw [Bool.eq_iff_iff, decide_eq_true_iff, decide_eq_true_iff, List.mem_map, List.mem_map]
  exact ⟨fun ⟨e, he, h⟩ => ⟨e, he, (hw (hL e he) (hD d hd)).mp h⟩, fun ⟨e, he, h⟩ => ⟨e, he, (hw (hL e he) (hD d hd)).mpr h⟩⟩
theorem keep_w1 {D LD : List (List (Fin 8))} (hD : ∀ d ∈ D, d.length ≤ 3) (hL : ∀ d ∈ LD, d.length ≤ 3) : (D.map w1).filter (fun l => !decide (l ∈ LD.map w1)) = (D.filter fun d => !memD d LD).map w1 := keep_w w1_inj hD hL
theorem keep_w2 {D LD : List (List (Fin 8))} (hD : ∀ d ∈ D, d.length ≤ 3) (hL : ∀ d ∈ LD, d.length ≤ 3) : (D.map w2).filter (fun l => !decide (l ∈ LD.map w2)) = (D.filter fun d => !memD d LD).map w2 := keep_w w2_inj hD hL
theorem keep_w3 {D LD : List (List (Fin 8))} (hD : ∀ d ∈ D, d.length ≤ 3) (hL : ∀ d ∈ LD, d.length ≤ 3) : (D.map w3).filter (fun l => !decide (l ∈ LD.map w3)) = (D.filter fun d => !memD d LD).map w3 := keep_w w3_inj hD hL
end
section
noncomputable abbrev mixD (D LD : List (List (Fin 8))) : List (List (Fin 8)) := D.filter fun d => !memD d LD || high d
theorem mem_map_octs {d : List (Fin 8)} {LD : List (List (Fin 8))} : (octs d ∈ LD.map octs) ↔ ∃ e ∈ LD, octs e = octs d := List.mem_map
theorem bool_not_eq {p : Prop} [Decidable p] {b : Bool} (h : p ↔ b = false) : (!decide p) = b := by
  cases b with
  | true => simp at h; simp [h]
  | false => simp at h; simp [h]
theorem keep_mix {D LD : List (List (Fin 8))} (hD : ∀ d ∈ D, d.length ≤ 3) (hL : ∀ d ∈ LD, d.length ≤ 3) : (D.map w1).filter (fun l => !decide (l ∈ LD.map w2)) = (mixD D LD).map w1 := by
  rw [List.filter_map]
  congr 1
  refine List.filter_congr fun d hd => ?_
  show (!decide (w1 d ∈ LD.map w2)) = (!memD d LD || high d)
  have R := row_ok (hD d hd)
  refine bool_not_eq ?_
  rw [List.mem_map]
  constructor
  · rintro ⟨e, he, h⟩
    have hh : high d = false := by
      rw [Bool.eq_false_iff]
      intro hh
      rw [high, List.any_eq_true] at hh
      obtain ⟨c, hc, hx⟩ := hh
      have h2 := (row_ok (hL e he)).n2 c (by rw [h]; exact hc)
      simp only [Bool.or_eq_true, beq_iff_eq] at hx
      rcases hx with rfl | rfl
      · exact h2.1 rfl
      · exact h2.2 rfl
    have h12 : w2 d = w1 d := by have := R.hi; rw [hh] at this; simpa using this
    have ho : octs e = octs d := (w2_inj (hL e he) (hD d hd)).mp (by rw [h, h12])
    have hm : octs d ∈ LD.map octs := mem_map_octs.mpr ⟨e, he, ho⟩
    rw [hh, memD, decide_eq_true hm]; rfl
  · intro h
    rw [Bool.or_eq_false_iff] at h
    obtain ⟨h1, hh⟩ := h
    have hm : octs d ∈ LD.map octs := by simpa [memD] using h1
    obtain ⟨e, he, ho⟩ := mem_map_octs.mp hm
    have h12 : w2 d = w1 d := by have := R.hi; rw [hh] at this; simpa using this
    exact ⟨e, he, by rw [(w2_inj (hL e he) (hD d hd)).mpr ho, h12]⟩
noncomputable def spell (a : List (Fin 8) × Nat) : List UInt8 := if a.2 % 2 = 1 then low3 a.1 else w3 a.1
noncomputable def pDue (LD : List (List (Fin 8))) (a : List (Fin 8) × Nat) : Bool := !memD a.1 LD || (decide (a.2 % 2 = 1) && (octs a.1).any letP)
theorem fst_mem {D : List (List (Fin 8))} {a : List (Fin 8) × Nat} (h : a ∈ D.zipIdx) : a.1 ∈ D := by
  obtain ⟨d, k⟩ := a
  exact List.fst_mem_of_mem_zipIdx h
theorem keep_spell {D LD : List (List (Fin 8))} (hD : ∀ d ∈ D, d.length ≤ 3) (hL : ∀ d ∈ LD, d.length ≤ 3) : (D.zipIdx.map spell).filter (fun l => !decide (l ∈ LD.map w3)) = (D.zipIdx.filter (pDue LD)).map spell := by
  rw [List.filter_map]
  congr 1
  refine List.filter_congr fun a ha => ?_
  obtain ⟨d, k⟩ := a
  have hd := hD d (fst_mem ha)
  show (!decide (spell (d, k) ∈ LD.map w3)) = (!memD d LD || (decide (k % 2 = 1) && (octs d).any letP))
  have R := row_ok hd
  refine bool_not_eq ?_
  rw [List.mem_map]
  by_cases hk : k % 2 = 1
  · have es : spell (d, k) = low3 d := by simp [spell, hk]
    rw [es]
    constructor
    · rintro ⟨e, he, h⟩
      have hu : (low3 d).map Builtin.Bytes.toUpper = low3 d := by
        refine (List.map_congr_left (g := id) fun c hc => ?_).trans (List.map_id _)
        exact (row_ok (hL e he)).u3 c (by rw [h]; exact hc)
      have h3 : low3 d = w3 d := by rw [← hu, R.ul]
      have hl : (octs d).any letP = false := by have := R.lo; rw [h3] at this; simpa using this.symm
      have ho : octs e = octs d := (w3_inj (hL e he) hd).mp (by rw [h, h3])
      have hm : octs d ∈ LD.map octs := mem_map_octs.mpr ⟨e, he, ho⟩
      rw [hl, memD, decide_eq_true hm]; simp
    · intro h
      rw [Bool.or_eq_false_iff] at h
      obtain ⟨h1, hh⟩ := h
      have hm : octs d ∈ LD.map octs := by simpa [memD] using h1
      obtain ⟨e, he, ho⟩ := mem_map_octs.mp hm
      have hl : (octs d).any letP = false := by simpa [hk] using hh
      have h3 : low3 d = w3 d := by have := R.lo; rw [hl] at this; simpa using this
      exact ⟨e, he, by rw [(w3_inj (hL e he) hd).mpr ho, h3]⟩
  · have es : spell (d, k) = w3 d := by simp [spell, hk]
    rw [es]
    constructor
    · rintro ⟨e, he, h⟩
      have hm : octs d ∈ LD.map octs := mem_map_octs.mpr ⟨e, he, (w3_inj (hL e he) hd).mp h⟩
      rw [memD, decide_eq_true hm]; simp [hk]
    · intro h
      rw [Bool.or_eq_false_iff] at h
      have hm : octs d ∈ LD.map octs := by simpa [memD] using h.1
      obtain ⟨e, he, ho⟩ := mem_map_octs.mp hm
      exact ⟨e, he, (w3_inj (hL e he) hd).mpr ho⟩
theorem spell_up {d : List (Fin 8)} {k : Nat} (h : d.length ≤ 3) : upB (spell (d, k)).toArray = b16 (octs d) := by
  have R := row_ok h
  have e : (w3 d).toArray = b16 (octs d) := by simp [w3]
  unfold upB
  rw [← e]
  congr 1
  unfold spell
  split
  · exact R.ul
  · exact (List.map_congr_left (g := id) fun c hc => R.u3 c hc).trans (List.map_id _)
theorem zipIdx_get {D : List (List (Fin 8))} {i : Nat} (h : i < D.length) : D.zipIdx[i]? = some (D[i], i) := by simp [h]
theorem zipIdx_at {D : List (List (Fin 8))} {a : List (Fin 8) × Nat} (h : a ∈ D.zipIdx) : D[a.2]? = some a.1 ∧ D.zipIdx[a.2]? = some a ∧ a.2 < D.length := by
  obtain ⟨d, k⟩ := a
  have h1 := List.mem_zipIdx_iff_getElem?.mp h
  have h2 : k < D.length := (List.getElem?_eq_some_iff.mp h1).1
  refine ⟨h1, ?_, h2⟩
  rw [zipIdx_get h2]
  rw [List.getElem?_eq_getElem h2] at h1
  rw [Option.some.inj h1]
theorem Rel.at {α : Type} {R : α → Value → Prop} : ∀ {as : List α} {vs : List Value}, Rel R as vs → ∀ (i : Nat) (a : α), as[i]? = some a → ∃ v, vs[i]? = some v ∧ R a v
  | _, _, .nil, i, a, h => by simp at h
  | _, _, .cons g r, 0, a, h => by cases h; exact ⟨_, rfl, g⟩
  | _, _, .cons g r, i + 1, a, h => Rel.at r i a h
theorem octs_fits {d : List (Fin 8)} (h : d.length ≤ 3) : (octs d).toArray.size ≤ 1000 := by simp [octs]; omega
end
section
example : True := by
  k_with_none
  (k_with "sp enter" => ((w_top off; have hfill : PySem.Challenge.rw_kq0048_01 = PySem.Challenge.rw_kq0048_01 ∧ hd.heap_39 = hd.heap_39 := by (k_fill; exact ⟨rfl, rfl⟩)); clear hfill; k_dflt (refine call_here (by assumption) (by assumption) (by assumption) (by k_is) (by k_is) (by (intro X9; first | exact BindsTo.of_eq rfl | exact binds_K (by assumption) rfl (by k_is) rfl rfl rfl)) (by exact locs rfl) ?_ (by exact rfl) (by exact rfl) (by exact rfl) (by decide)); k_whole; intro dp' un' gd' env' outer' mean' mg' mb' base' g' L' h' hdp' hun' kG' F' N' B' X' T'; (try dsimp only); (try k_fold)))
  (k_with "SpDone" => ((refine SpDone.intro (by k_asm) ?_); intro st9))
  (k_with "call type:type" => (k_here; (with_reducible show wpAny _ _ (call _ [Value.bytes _ _]) _ _ _); refine call_type_of (Tx := "bytes") rfl (by decide +kernel) ?_))
  (k_with "sp kept" => (intro t9 h9 tk9 st9; (try dsimp only at st9); rename Fr _ _ _ _ => kF; rename News _ _ _ _ => kN; (k_dflt (have kF' := Fr.keeps kF st9)); (k_dflt (have kN' := News.grown kN st9)); clear kF kN st9))
  (k_with "sp here" => k_dflt (exact Here.mk (by k_asm) (by k_asm) (by k_asm) (by k_asm) rfl rfl rfl rfl))
  (k_with "sp enterC" => ((w_top off; have hfill : PySem.Challenge.rw_kq0048_01 = PySem.Challenge.rw_kq0048_01 ∧ hd.heap_39 = hd.heap_39 := by (k_fill; exact ⟨rfl, rfl⟩)); clear hfill; k_dflt (refine call_hereC (by assumption) (by assumption) (by assumption) (by k_is) (by k_is) (by (intro X9; first | exact BindsTo.of_eq rfl | exact binds_K (by assumption) rfl (by k_is) rfl rfl rfl)) (by exact rfl) (by decide +kernel) ?_ (by exact rfl) (by exact rfl) (by exact rfl)); k_whole; intro dp' un' gd' env' outer' mean' mg' mb' base' g' L' h' tk' cells' hdp' hun' kG' F' N' Y' B' X' T'; k_cells Y'; (try simp only [List.cons_append, List.nil_append] at N'); (try dsimp only); (try k_fold)))
  (k_with "sp and" => first | with_reducible assumption | with_reducible exact Ne.symm (by assumption) | with_reducible exact Nat.ne_of_gt (by assumption) | with_reducible exact Nat.ne_of_lt (by assumption) | (simp only [ne_eq, not_false_eq_true, *]; done) | (apply Ne.symm; simp only [ne_eq, not_false_eq_true, *]; done))
  (k_with "sp sub" => first | with_reducible exact sub_0 _ | with_reducible exact sub_1 _ _ | with_reducible exact sub_2 _ _ _ | with_reducible exact sub_3 _ _ _ _ | with_reducible exact sub_4 _ _ _ _ _ | with_reducible exact sub_5 _ _ _ _ _ _)
  (k_with "sp put" => first | exact Put.nil | with_reducible exact Put.hit | (apply Put.skip; (focus decide); walk_at "sp put"))
  (k_with "storeName" => (k_here; k_dflt (refine put_any (by k_asm) (by k_asm) (by rfl) (by rfl) (by walk_at "sp put") ?_); intro h' k' F' N'; (try k_sweep); (try dsimp only)))
  (k_with "storeName" => (k_here; (with_reducible show wpAny _ _ (storeName _ _ (Value.str _ _)) _ _ _); k_dflt (refine put_str (by k_asm) (by k_asm) (by rfl) (by rfl) (by intro tp; walk_at "sp put") ?_); intro t' h' k' F' N'; (try k_sweep); (try dsimp only)))
  (k_with "storeName" => (k_here; (with_reducible show wpAny _ _ (storeName _ _ (Value.bytes _ _)) _ _ _); k_dflt (refine put_bytes (by k_asm) (by k_asm) (by rfl) (by rfl) (by intro tp; walk_at "sp put") ?_); intro t' h' k' F' N'; (try k_sweep); (try dsimp only)))
  (k_with "storeName" => (k_here; (with_reducible show wpAny _ _ (storeName _ _ (Value.int _ _)) _ _ _); k_dflt (refine put_int (by k_asm) (by k_asm) (by rfl) (by rfl) (by intro tp; walk_at "sp put") ?_); intro t' h' k' F' N'; (try k_sweep); (try dsimp only)))
  (k_with "eval Name" => (k_here; k_dflt (refine nm_L (by k_asm) (by rfl) (by rfl) (by decide) (by exact Eq.refl (some _)) ?_)))
  (k_with "pyIter bytes" => (k_here; (with_reducible show wpAny _ _ (pyIter (Value.bytes _ _)) (fun it s₂ => LoopAtV _ _ _ _ _ _ _ _ _ it s₂) _ _); (rename Fr _ _ _ _ => lF'); (rename News _ _ _ _ => lN'); (k_dflt (refine iter_bytesUnr (by assumption) lF' lN' (by first | assumption | kba_ints2) ?_)); clear lF' lN'; intro i' l1; (try k_lt l1)))
  (k_with "BytesRest" => ((first | ((with_reducible show BytesRest _ _ _ _ _ _ _ _ _ _ _ (_ :: _) _ _); k_dflt (refine bytes_succ (by intro tp; walk_at "sp put") ?_); intro b0' b1' u' it' h' tk' F' N') | ((with_reducible show BytesRest _ _ _ _ _ _ _ _ _ _ _ (List.map _ _) _ _); (rename List UInt8 => l9); (rename List.length _ ≤ 3 => h9); cases l9 <;> (first | exact (no4 h9).elim | dsimp only [List.map])) | (k_dflt (refine bytes_zero ?_); intro h' tk' F' N'))))
  (k_with "execs cons" => (k_here; (try k_fold); (with_reducible refine wpAny_execs_cons ?_); (try dsimp only); k_fold))
  (k_with "sp room" => exact room9 (by assumption) (by decide))
  (k_with "sp units" => exact units9 (by assumption) (by decide))
  (k_with "sp here" => k_dflt (exact Here.mk (by k_asm) (by k_asm) (by k_asm) (by k_asm) (by first | assumption | rfl) rfl rfl (by first | assumption | rfl)))
  (k_with "sp enterV" => ((w_top off; have hfill : PySem.Challenge.rw_kq0048_01 = PySem.Challenge.rw_kq0048_01 ∧ hd.heap_39 = hd.heap_39 := by (k_fill; exact ⟨rfl, rfl⟩)); clear hfill; k_dflt (refine call_hereV (by assumption) (by assumption) (by assumption) (by k_is) (by k_is) (by (intro X9; first | exact BindsTo.of_eq rfl | exact binds_K (by assumption) rfl (by k_is) rfl rfl rfl)) (by exact locs rfl) ?_ (by exact rfl) (by exact rfl) (by exact rfl) (by decide) (by decide)); k_whole; intro A' A0' env' outer' mean' mg' mb' base' g' L' h' tk' hdp' hun' kG' F' N' B' X' T' hh' hf'; (try dsimp only)))
  (k_with "storeName" => (k_here; k_dflt (refine putc_any (by k_asm) (by k_asm) (by rfl) (by rfl) (by rfl) (by k_updF) (by k_asm) ?_); intro h' o' k' F' N' d'; (try dsimp only at N'); (try k_sweep); (try dsimp only)))
  (k_with "storeName" => (k_here; (with_reducible show wpAny _ _ (storeName _ _ (Value.str _ _)) _ _ _); k_dflt (refine putc_str (by k_asm) (by k_asm) (by rfl) (by rfl) (by rfl) (by k_updF) (by k_asm) ?_); intro t' h' o' k' F' N' d'; (try dsimp only at N'); (try k_sweep); (try dsimp only)))
  (k_with "storeName" => (k_here; (with_reducible show wpAny _ _ (storeName _ _ (Value.int _ _)) _ _ _); k_dflt (refine putc_int (by k_asm) (by k_asm) (by rfl) (by rfl) (by rfl) (by k_updF) (by k_asm) ?_); intro t' h' o' k' F' N' d'; (try dsimp only at N'); (try k_sweep); (try dsimp only)))
  (k_with "sp enterCV" => ((w_top off; have hfill : PySem.Challenge.rw_kq0048_01 = PySem.Challenge.rw_kq0048_01 ∧ hd.heap_39 = hd.heap_39 := by (k_fill; exact ⟨rfl, rfl⟩)); clear hfill; k_dflt (refine call_hereCV (by assumption) (by assumption) (by assumption) (by k_is) (by k_is) (by (intro X9; first | exact BindsTo.of_eq rfl | exact binds_K (by assumption) rfl (by k_is) rfl rfl rfl)) (by exact rfl) (by decide +kernel) ?_ (by exact rfl) (by exact rfl) (by exact rfl) (by decide)); k_whole; intro dp' un' gd' fr' A0' env' outer' mean' mg' mb' base' g' L' h' tk' cells' hdp' hun' kG' F' N' Y' B' X' T' hf'; k_cells Y'; (try simp only [List.cons_append, List.nil_append] at N'); (try dsimp only)))
  trivial
section
variable {prog : Program} {w : World} {A : Around} {E : Value → Shared → Prop} {s : Shared} {Q : Value → Shared → Prop}
theorem len_lit' {b : Array UInt8} {t : Tok} (n : Int) (e : (((KBw.bInts b).length : Nat) : Int) = n) (hs : b.size ≤ 1000) (h : Q (.int n (s.toks + 1)) { s with toks := s.toks + 1 + 1 }) : wpAny (model prog w) A (call (.builtin "len") [.bytes b t]) Q E s :=
  KBw.len_K rfl (by rw [KBw.ints_length]; omega) (e ▸ h)
theorem mod3_lit' {a : Int} {t u : Tok} (n : Int) (e : a.fmod 3 = n) (h : Q (.int n s.toks) { s with toks := s.toks + 1 }) : wpAny (model prog w) A (binaryOp .Mod (.int a t) (.int 3 u)) Q E s :=
  mod_int' (by decide) (e ▸ h)
end
example : True := by
  (k_with "call builtin:len" => (k_here; (with_reducible show wpAny _ _ (call (Value.builtin "len") [Value.bytes _ _]) _ _ _); k_dflt (first | refine len_lit' 0 rfl (Nat.le_of_ble_eq_true rfl) ?_ | refine len_lit' 1 rfl (Nat.le_of_ble_eq_true rfl) ?_ | refine len_lit' 2 rfl (Nat.le_of_ble_eq_true rfl) ?_ | refine len_lit' 3 rfl (Nat.le_of_ble_eq_true rfl) ?_)))
  (k_with "binaryOp Mod int int" => (k_here; (with_reducible show wpAny _ _ (binaryOp _ (Value.int _ _) (Value.int 3 _)) _ _ _); k_dflt (first | refine mod3_lit' 0 rfl ?_ | refine mod3_lit' 1 rfl ?_ | refine mod3_lit' 2 rfl ?_)))
  trivial
theorem pow64_ne (k : Int) : (64:Int)^k.toNat ≠ 0 := Int.ne_of_gt (Int.pow_pos (by decide))
theorem pow64_small {k : Int} (h1 : k < 4) : ((64:Int)^k.toNat).natAbs < 1073741824 := by
  have h : k.toNat < 4 := by omega
  generalize k.toNat = n at h
  match n, h with
  | 0, _ => decide
  | 1, _ => decide
  | 2, _ => decide
  | 3, _ => decide
section
variable {prog : Program} {w : World} {A : Around} {E : Value → Shared → Prop} {h₀ : Heap} {L : Addr} {m : PySem.Str → Option Value} {env : Env}
theorem range4 {ct elt : PySem.Expr} {x : PySem.Str} {scope : Scope} {cl : List (PySem.Str × Addr)} {Fin : Shared → List Value → List (Addr × Obj) → Prop} {r : Addr} {t u v : Tok} {news : List (Addr × Obj)} {s₁ : Shared} {num : Int} {oN : Obj} {tN : Tok} (_hnum : oN.data = .cell (some (.int num tN)))
    (hh : A.handled = none) (F : Fr h₀ L s₁.heap m) (N : News h₀ L s₁.heap news) (hr : IsRange s₁.heap r 0 4 1 t u v)
    (test : ∀ (s : Shared) (k : Int) (u : Tok) I oI C oC D ys m₂ h tk (E' : Value → Shared → Prop), 0 ≤ k → k < 4 → LCg.NsObj oC m₂ → m₂ x = some (.int k u) → Fr h₀ L h m → News h₀ L h ((I, oI) :: (C, oC) :: (D, LCg.lst ys) :: news) → LCg.Off3 I C D news → ((@Ne Nat I C) ∧ (@Ne Nat I D) ∧ (@Ne Nat C D)) →
      wpAny (model prog w) A (isTrue ct (compEnvC scope cl C env) (eval ct (compEnvC scope cl C env))) (Turn h₀ L m { s with heap := h, toks := tk } ((I, oI) :: (C, oC) :: (D, LCg.lst ys) :: news) (fun ok : Bool => ok = decide (61 < (num.fdiv (64 ^ k.toNat)).fmod 64))) E' { s with heap := h, toks := tk })
    (turn : ∀ (s : Shared) (k : Int) (u : Tok) I oI C oC D ys m₂ h tk (E' : Value → Shared → Prop), 0 ≤ k → k < 4 → LCg.NsObj oC m₂ → m₂ x = some (.int k u) → Fr h₀ L h m → News h₀ L h ((I, oI) :: (C, oC) :: (D, LCg.lst ys) :: news) → LCg.Off3 I C D news → ((@Ne Nat I C) ∧ (@Ne Nat I D) ∧ (@Ne Nat C D)) →
      wpAny (model prog w) A (eval elt (compEnvC scope cl C env)) (Turn h₀ L m { s with heap := h, toks := tk } ((I, oI) :: (C, oC) :: (D, LCg.lst ys) :: news) (IV k)) E' { s with heap := h, toks := tk })
    (fin : ∀ g ys, Rel IV (([0, 1, 2, 3] : List Int).filter fun k => decide (61 < (num.fdiv (64 ^ k.toNat)).fmod 64)) ys → Fin { s₁ with heap := g } ys news) :
    LCt.CompSrcT prog w A h₀ L m env ct elt x scope cl Fin (.ref r) s₁ := by
  refine LCt.CompSrcT.range hh F N hr (by decide) (n := 4) (by first | rfl | decide) (by rw [sizeLine_eq]; decide) fun g => ?_
  have four : ∀ k ∈ ([0, 1, 2, 3] : List Int), 0 ≤ k ∧ k < 4 := by decide
  refine restT_gen ([0, 1, 2, 3] : List Int) (fun k => decide (61 < (num.fdiv (64 ^ k.toNat)).fmod 64)) IV IV ?_ trivial ?_ ?_ (fin g) _ rfl
  · intro i v hi hv
    obtain ⟨t, rfl⟩ := hv
    have hi' : i < 4 := hi
    match i, hi' with
    | 0, _ => exact ⟨0, rfl, t, rfl⟩
    | 1, _ => exact ⟨1, rfl, t, rfl⟩
    | 2, _ => exact ⟨2, rfl, t, rfl⟩
    | 3, _ => exact ⟨3, rfl, t, rfl⟩
  · intro a v I oI C oC D ys m₂ h tk E' ha hin hC hx F' N' off ne
    obtain ⟨u, rfl⟩ := hin
    exact test _ a u I oI C oC D ys m₂ h tk E' (four a ha).1 (four a ha).2 hC hx F' N' off ne
  · intro a v I oI C oC D ys m₂ h tk E' ha hin hC hx F' N' off ne
    obtain ⟨u, rfl⟩ := hin
    exact turn _ a u I oI C oC D ys m₂ h tk E' (four a ha).1 (four a ha).2 hC hx F' N' off ne
end
example : True := by
  (k_with "eval ListComp" => (k_here; k_dflt (refine LCt.ListComp_T (F₀ := by k_asm) (by with_unfolding_all rfl) (by decide) (by rfl) (by decide) (by rfl) ?_)))
  (k_with "CompSrcT" => (k_here; k_dflt (refine range4 (by assumption) (by first | assumption | rfl) (by k_asm) (by k_asm) (by assumption) ?test ?turn ?fin); (all_goals (first | (intro s k u I oI C oC D ys m₂ h tk E' hk0 hk4 hC hx F' N' off ne; (try simp only [LCg.Off3, and_true] at off)) | intro g' ys hys))))
  (k_with "binaryOp FloorDiv int int" => (k_here; (with_reducible show wpAny _ _ (binaryOp _ _ (Value.int (64 ^ _) _)) _ _ _); (with_reducible refine floordiv_int (pow64_ne _) ?_ (Or.inl (PyProof.noPylong_small (pow64_small (by assumption)))))))
  (k_with "Turn" => (k_here; (rename Fr _ _ _ _ => kF); (rename News _ _ _ _ => kN); k_dflt (refine Turn.intro kF kN (by lcg_sub) ?_)))
  (k_with "compareOp NotEq ref ref" => (k_here; k_dflt (refine ne_nil (by exact ⟨_, (News.get (by k_asm) (by k_mem)), rfl, _, rfl⟩) (by exact ⟨_, (News.get (by k_asm) (by k_mem)), rfl, _, rfl⟩) (by first | exact Nat.lt_of_le_of_lt (Nat.le_add_right _ _) (by assumption) | ktr_units) ?_)))
  trivial
noncomputable def numH : List UInt8 → Int
  | [] => 0 * 4 ^ Int.toNat 0
  | [a] => (0 * 256 + (a.toNat : Int)) * 4 ^ Int.toNat 2
  | [a, b] => ((0 * 256 + (a.toNat : Int)) * 256 + (b.toNat : Int)) * 4 ^ Int.toNat 1
  | a :: b :: c :: _ => (((0 * 256 + (a.toNat : Int)) * 256 + (b.toNat : Int)) * 256 + (c.toNat : Int)) * 4 ^ Int.toNat 0
set_option maxHeartbeats 2000000 in
theorem high0 {w : World} {A : Around} {s : Shared} {E Q : Value → Shared → Prop} {t : Tok}
    (H : Here w A s.heap) (hdp : A.depth + (3 + 1) < recursionLimit) (hun : A.units + 300 < cLine)
    (hQ : ∀ h' tk', s.heap.StaysIn h' → Q (.bool (highN (numH []))) { s with heap := h', toks := tk' }) :
    wpAny (model prg w) A (call (.ref 240) [.bytes #[] t]) Q E s := by
  obtain ⟨hp, gs, dr, tk0, os⟩ := s
  dsimp only at H hQ
  walk_at "sp enterCV"
  show wpAny _ _ _ _ _ _
  k_fold
  (rename Fr _ _ _ _ => F9; have F8 : Fr _ _ _ (fun y => List.lookup y [(PySem.Str.ofString "row", .bytes #[] t)]) := F9; clear F9)
  k_steps
  all_goals first
    | exact ⟨_, rfl⟩
    | (rename Rel _ _ _ => hys9; rename Heap.StaysIn _ _ => st9'; rw [any_of_rel hys9]; exact hQ _ _ st9')
set_option maxHeartbeats 2000000 in
theorem high1 {w : World} {A : Around} {s : Shared} {E Q : Value → Shared → Prop} {a : UInt8} {t : Tok}
    (H : Here w A s.heap) (hdp : A.depth + (3 + 1) < recursionLimit) (hun : A.units + 300 < cLine)
    (hQ : ∀ h' tk', s.heap.StaysIn h' → Q (.bool (highN (numH [a]))) { s with heap := h', toks := tk' }) :
    wpAny (model prg w) A (call (.ref 240) [.bytes #[a] t]) Q E s := by
  obtain ⟨hp, gs, dr, tk0, os⟩ := s
  dsimp only at H hQ
  walk_at "sp enterCV"
  show wpAny _ _ _ _ _ _
  k_fold
  (rename Fr _ _ _ _ => F9; have F8 : Fr _ _ _ (fun y => List.lookup y [(PySem.Str.ofString "row", .bytes #[a] t)]) := F9; clear F9)
  k_steps
  all_goals first
    | exact ⟨_, rfl⟩
    | (rename Rel _ _ _ => hys9; rename Heap.StaysIn _ _ => st9'; rw [any_of_rel hys9]; exact hQ _ _ st9')
set_option maxHeartbeats 2000000 in
theorem high2 {w : World} {A : Around} {s : Shared} {E Q : Value → Shared → Prop} {a b : UInt8} {t : Tok}
    (H : Here w A s.heap) (hdp : A.depth + (3 + 1) < recursionLimit) (hun : A.units + 300 < cLine)
    (hQ : ∀ h' tk', s.heap.StaysIn h' → Q (.bool (highN (numH [a, b]))) { s with heap := h', toks := tk' }) :
    wpAny (model prg w) A (call (.ref 240) [.bytes #[a, b] t]) Q E s := by
  obtain ⟨hp, gs, dr, tk0, os⟩ := s
  dsimp only at H hQ
  walk_at "sp enterCV"
  show wpAny _ _ _ _ _ _
  k_fold
  (rename Fr _ _ _ _ => F9; have F8 : Fr _ _ _ (fun y => List.lookup y [(PySem.Str.ofString "row", .bytes #[a, b] t)]) := F9; clear F9)
  k_steps
  all_goals first
    | exact ⟨_, rfl⟩
    | (rename Rel _ _ _ => hys9; rename Heap.StaysIn _ _ => st9'; rw [any_of_rel hys9]; exact hQ _ _ st9')
set_option maxHeartbeats 2000000 in
theorem high3 {w : World} {A : Around} {s : Shared} {E Q : Value → Shared → Prop} {a b c : UInt8} {t : Tok}
    (H : Here w A s.heap) (hdp : A.depth + (3 + 1) < recursionLimit) (hun : A.units + 300 < cLine)
    (hQ : ∀ h' tk', s.heap.StaysIn h' → Q (.bool (highN (numH [a, b, c]))) { s with heap := h', toks := tk' }) :
    wpAny (model prg w) A (call (.ref 240) [.bytes #[a, b, c] t]) Q E s := by
  obtain ⟨hp, gs, dr, tk0, os⟩ := s
  dsimp only at H hQ
  walk_at "sp enterCV"
  show wpAny _ _ _ _ _ _
  k_fold
  (rename Fr _ _ _ _ => F9; have F8 : Fr _ _ _ (fun y => List.lookup y [(PySem.Str.ofString "row", .bytes #[a, b, c] t)]) := F9; clear F9)
  k_steps
  all_goals first
    | exact ⟨_, rfl⟩
    | (rename Rel _ _ _ => hys9; rename Heap.StaysIn _ _ => st9'; rw [any_of_rel hys9]; exact hQ _ _ st9')
noncomputable def hiOk (d : List (Fin 8)) : Bool := highN (numH (octs d)) == high d
theorem hiOk_0 : hiOk [] = true := by decide +kernel
theorem hiOk_1 : ∀ a : Fin 8, hiOk [a] = true := by decide +kernel
theorem hiOk_2 : ∀ a b : Fin 8, hiOk [a, b] = true := by decide +kernel
theorem hiOk_3 : ∀ a b c : Fin 8, hiOk [a, b, c] = true := by decide +kernel
theorem high_spec {w : World} {A : Around} {s : Shared} {E Q : Value → Shared → Prop} {d : List (Fin 8)} {t : Tok} (hd : d.length ≤ 3) (H : Here w A s.heap) (hdp : A.depth + (3 + 1) < recursionLimit) (hun : A.units + 300 < cLine)
    (hQ : ∀ h' tk', s.heap.StaysIn h' → Q (.bool (high d)) { s with heap := h', toks := tk' }) : wpAny (model prg w) A (call (.ref 240) [.bytes (octs d).toArray t]) Q E s := by
  have e : highN (numH (octs d)) = high d := by
    match d, hd with
    | [], _ => exact eq_of_beq hiOk_0
    | [a], _ => exact eq_of_beq (hiOk_1 a)
    | [a, b], _ => exact eq_of_beq (hiOk_2 a b)
    | [a, b, c], _ => exact eq_of_beq (hiOk_3 a b c)
  rw [← e] at hQ
  match d, hd with
  | [], _ => exact high0 H hdp hun hQ
  | [a], _ => exact high1 H hdp hun hQ
  | [a, b], _ => exact high2 H hdp hun hQ
  | [a, b, c], _ => exact high3 H hdp hun hQ
end
section
theorem rng_small {n : Nat} (h : n ≤ 14) : Builtin.Range.small 0 (n : Int) 1 = true ∧ Builtin.Range.rangeSize 0 (n : Int) 1 = (n : Int) := by
  have k : ∀ k : _root_.Fin 15, Builtin.Range.small 0 ((k.val : Nat) : Int) 1 = true ∧ Builtin.Range.rangeSize 0 ((k.val : Nat) : Int) 1 = ((k.val : Nat) : Int) := by decide
  exact k ⟨n, by omega⟩
section
variable {prog : Program} {w : World} {A : Around} {E : Value → Shared → Prop} {s : Shared} {Q : Value → Shared → Prop}
theorem len_at {l : Addr} {vs : List Value} {n : Nat} (hl : s.heap.IsList l vs.toArray) (e : vs.length = n) (hz : n ≤ 1000) (h : Q (.int (n : Int) (s.toks + 1)) { s with toks := s.toks + 1 + 1 }) : wpAny (model prog w) A (call (.builtin "len") [.ref l]) Q E s := by
  refine PyProof.Rows.len_list hl ?_ ?_
  · simp; omega
  · have e2 : (vs.toArray.size : Int) = (n : Int) := by simp [e]
    rw [e2]; exact h
theorem item_at {value slice : PySem.Expr} {l : Addr} {vs : List Value} {n : Nat} {u : Tok} {x : Value} (hl : s.heap.IsList l vs.toArray) (hn : n < 1000) (hx : vs[n]? = some x) (h : Q x s)
    (hs : subscripted slice false (.ref l) (.int (n : Int) u) = operate [.ref l, .int (n : Int) u] (getItem (.ref l) (.int (n : Int) u)) := by with_unfolding_all rfl) (hg : ∀ r, letTemporaryGo value (.ref l) r = pure () := by intro _; with_unfolding_all rfl) :
    wpAny (model prog w) A (subscriptTail value slice (.ref l) (.int (n : Int) u)) Q E s :=
  PyProof.Rows.item_list hl (by omega) (by omega) (by simpa using hx) h hs hg
end
section
variable {w : World} {A : Around} {s : Shared} {E Q : Value → Shared → Prop}
theorem enc3c_spec {d : List (Fin 8)} {t : Tok} (hd : d.length ≤ 3) (H : Here w A s.heap) (hdp : A.depth + (2 + 1) < recursionLimit) (hun : A.units + 200 < cLine)
    (hQ : ∀ t' h' tk', s.heap.StaysIn h' → Q (.bytes (w3 d).toArray t') { s with heap := h', toks := tk' }) : wpAny (model prg w) A (call (.ref 212) [.bytes (octs d).toArray t]) Q E s :=
  b16encode_spec (octs_len hd) H hdp hun fun t h' tk' k => by
    have e : b16 (octs d) = (w3 d).toArray := by simp [w3]
    rw [e]
    exact hQ t h' tk' k
theorem decT_spec {d : List (Fin 8)} {k : Nat} {t : Tok} (hd : d.length ≤ 3) (H : Here w A s.heap) (hdp : A.depth + (2 + 1) < recursionLimit) (hun : A.units + 200 < cLine)
    (hQ : ∀ v h' tk', BV (octs d) v → s.heap.StaysIn h' → Q v { s with heap := h', toks := tk' }) : wpAny (model prg w) A (call (.ref 220) [.bytes (spell (d, k)).toArray t, .bool true]) Q E s := by
  refine b16decodeT_spec hd (spell_up hd) ?_ H hdp hun fun t h' tk' kk => hQ _ h' tk' ⟨t, rfl⟩ kk
  have h1 := spell_up (k := k) hd
  have h2 : (upB (spell (d, k)).toArray).size = (spell (d, k)).toArray.size := by simp [upB]
  rw [← h2, h1]
  exact b16_fits hd
end
theorem w3_fits {d : List (Fin 8)} (hd : d.length ≤ 3) : (w3 d).toArray.size ≤ sizeLine := by
  have e : (w3 d).toArray = b16 (octs d) := by simp [w3]
  rw [e]; exact b16_fits hd
theorem fm2 (k : Nat) : ((k : Int).fmod 2 = 1) ↔ k % 2 = 1 := by
  rw [Int.fmod_eq_emod_of_nonneg _ (by decide)]; omega
theorem spell_odd {a : List (Fin 8) × Nat} {t : Tok} (h : (a.2 : Int).fmod 2 = 1) : BV (spell a) (.bytes (loB (w3 a.1).toArray) t) := by
  have h' := (fm2 _).mp h
  exact ⟨t, by simp [spell, h', loB, low3]⟩
theorem spell_even {a : List (Fin 8) × Nat} {t : Tok} (h : ¬ (a.2 : Int).fmod 2 = 1) : BV (spell a) (.bytes (w3 a.1).toArray t) := by
  have h' : ¬ a.2 % 2 = 1 := fun e => h ((fm2 _).mpr e)
  exact ⟨t, by simp [spell, h']⟩
theorem idx_in {i : Nat} {v : Value} {D : List (List (Fin 8))} (hi : i < D.zipIdx.length) (h : ∃ t, v = .int (0 + (i : Int)) t) : ∃ a, D.zipIdx[i]? = some a ∧ ∃ t, v = .int ((a.2 : Nat) : Int) t := by
  obtain ⟨t, rfl⟩ := h
  have hi' : i < D.length := by simpa using hi
  exact ⟨(D[i], i), zipIdx_get hi', t, by simp⟩
theorem fst_rel {D : List (List (Fin 8))} {vs : List Value} (h : Rel (fun a : List (Fin 8) × Nat => OV a.1) D.zipIdx vs) : Rel BV (D.map octs) vs := by
  have h1 := Rel.unmap (R := OV) (f := fun a : List (Fin 8) × Nat => a.1) h
  have e : D.zipIdx.map (fun a : List (Fin 8) × Nat => a.1) = D := by simpa using List.zipIdx_map_fst 0 D
  rw [e] at h1
  exact Rel.unmap (R := BV) (f := octs) h1
end
section
example : True := by
  k_with_none
  (k_with "SpDone" => ((refine SpDone.intro (by k_asm) ?_); intro st9))
  (k_with "call type:type" => (k_here; (with_reducible show wpAny _ _ (call _ [Value.bytes _ _]) _ _ _); refine call_type_of (Tx := "bytes") rfl (by decide +kernel) ?_))
  (k_with "sp kept" => (intro t9 h9 tk9 st9; (try dsimp only at st9); rename Fr _ _ _ _ => kF; rename News _ _ _ _ => kN; (k_dflt (have kF' := Fr.keeps kF st9)); (k_dflt (have kN' := News.grown kN st9)); clear kF kN st9))
  (k_with "sp here" => k_dflt (exact Here.mk (by k_asm) (by k_asm) (by k_asm) (by k_asm) rfl rfl rfl rfl))
  (k_with "sp and" => first | with_reducible assumption | with_reducible exact Ne.symm (by assumption) | with_reducible exact Nat.ne_of_gt (by assumption) | with_reducible exact Nat.ne_of_lt (by assumption) | (simp only [ne_eq, not_false_eq_true, *]; done) | (apply Ne.symm; simp only [ne_eq, not_false_eq_true, *]; done))
  (k_with "sp sub" => first | with_reducible exact sub_0 _ | with_reducible exact sub_1 _ _ | with_reducible exact sub_2 _ _ _ | with_reducible exact sub_3 _ _ _ _ | with_reducible exact sub_4 _ _ _ _ _ | with_reducible exact sub_5 _ _ _ _ _ _)
  (k_with "compareOp NotIn" => (refine Stop.on ?_))
  (k_with "compareOp NotEq ref ref" => (refine Stop.on ?_))
  (k_with "eval ListComp" => (refine Stop.on ?_))
  (k_with "exec Assign cons ListComp" => (refine Stop.on ?_))
  (k_with "CompSrc" => (refine Stop.on ?_))
  (k_with "CompSrcT" => (refine Stop.on ?_))
  (k_with "Turn" => (k_here; (rename Fr _ _ _ _ => kF); (rename News _ _ _ _ => kN); k_dflt (refine Turn.intro kF kN (by lcg_sub) ?_)))
  (k_with "compareOp NotIn" => (k_here; k_dflt (refine notIn_bytes (by is_list) (by assumption) (by assumption) ?_); k_whole))
  (k_with "call ref" => (k_here; (with_reducible show wpAny _ _ (call (Value.ref 82) [Value.ref _, Value.ref _] _) _ _ _); k_dflt (refine filter_bytes (by k_asm) (by k_asm) (by k_asm) (by k_asm) (by k_asm) (by k_dflt (exact rfl)) (by k_dflt (exact rfl)) (by k_dflt (exact rfl)) (by k_dflt (exact rfl)) (by k_dflt k_mem) (by k_dflt k_mem) (by k_dflt (assumption)) (by k_dflt (assumption)) (by k_dflt ((repeat first | refine Nat.le_trans (List.length_filter_le _ _) ?_ | rw [List.length_map]); omega)) (by k_dflt (exact Nat.le_of_ble_eq_true rfl)) (by k_dflt (exact Nat.le_of_ble_eq_true rfl)) ?_); intro D' h' tk' n' rs' F' N' l1 hR'; (try k_lt l1)))
  (k_with "compareOp NotEq ref ref" => (k_here; (with_reducible show wpAny _ _ (compareOp CmpOp.NotEq (Value.ref _) (Value.ref _)) _ _ _); k_dflt (refine ne_same (by k_dflt (exact News.isList (by k_asm) (by k_mem))) (by k_dflt (exact News.isList (by k_asm) (by k_mem))) (by k_dflt (assumption)) (by k_dflt (assumption)) (by k_dflt (first | assumption | exact rfl | exact keep_map _ _ | exact keep_again _ _ | exact keep_two _ _)) (by k_dflt (exact Nat.le_of_ble_eq_true rfl)) ?_)))
  (k_with "subscriptTail Name Slice ref ref" => (k_here; (with_reducible show wpAny _ _ (subscriptTail _ (PySem.Expr.Slice _ _ none _) (Value.ref _) (Value.ref _)) _ _ _); k_dflt (refine kmk_slice_lit (by k_asm) (by k_asm) (by k_dflt (exact News.isList (by k_asm) (by k_mem))) (by kmk_part) (by kmk_part) (by k_dflt (first | exact slice_up1 _ | exact slice_fr1 _)) ?_ (by with_unfolding_all rfl) (by kmk_pure) (by k_dflt (rw [sizeLine_eq]; simp; omega))); intro D' h' F' N' l1; (try k_lt l1)))
  (k_with "ZEnd" => (refine Stop.on ?_))
  (k_with "sp sweep" => ((repeat (rename (@Ne Nat _ _ ∧ _) => xx; clear xx)); (repeat (rename (@LT.lt Nat _ _ _ ∧ _) => yy; clear yy))))
  (k_with "call type:zip" => (refine Stop.on ?_))
  (k_with "call ref" => (k_here; (with_reducible show wpAny _ _ (call (Value.ref 225) [Value.int _ _] _) _ _ _); k_dflt (refine octets_spec (by walk_at "sp here") (by first | exact Nat.le_of_ble_eq_true rfl | k_room) (by first | exact Nat.le_of_ble_eq_true rfl | k_units) ?_); k_whole; walk_at "sp kept"))
  (k_with "call builtin:str.encode" => (k_here; (with_reducible show wpAny _ _ (call (Value.builtin "str.encode") [Value.str _ _, Value.str _ _]) _ _ _); k_dflt (refine encode_to (by k_dflt assumption) ?_); intro v9' k9' hv9'))
  (k_with "getMethod str" => (k_here; (with_reducible refine meth_encode ?_)))
  (k_with "sp keptV" => (intro v9 h9 tk9 hv9 st9; (try dsimp only at st9); rename Fr _ _ _ _ => kF; rename News _ _ _ _ => kN; (k_dflt (have kF' := Fr.keeps kF st9)); (k_dflt (have kN' := News.grown kN st9)); clear kF kN st9))
  (k_with "sp keptB" => (intro h9 tk9 st9; (try dsimp only at st9); rename Fr _ _ _ _ => kF; rename News _ _ _ _ => kN; (k_dflt (have kF' := Fr.keeps kF st9)); (k_dflt (have kN' := News.grown kN st9)); clear kF kN st9))
  (k_with "compareOp Eq ref ref" => (k_here; (with_reducible show wpAny _ _ (compareOp CmpOp.Eq (Value.ref _) (Value.ref _)) _ _ _); k_dflt (refine eq_same (by k_dflt (exact News.isList (by k_asm) (by k_mem))) (by k_dflt (exact News.isList (by k_asm) (by k_mem))) (by k_dflt (assumption)) (by k_dflt (assumption)) (by k_dflt (first | assumption | exact rfl | exact keep_map _ _)) (by k_dflt (exact Nat.le_of_ble_eq_true rfl)) ?_)))
  (k_with "call ref" => (k_here; (with_reducible show wpAny _ _ (call (Value.ref _) (Value.bytes _ _ :: _) _) _ _ _); k_dflt (first | refine enc1_spec (by k_dflt assumption) (by walk_at "sp here") (by k_dflt (first | exact Nat.le_of_ble_eq_true rfl | k_room)) (by k_dflt (first | exact Nat.le_of_ble_eq_true rfl | k_units)) ?_ | refine enc2_spec (by k_dflt assumption) (by walk_at "sp here") (by k_dflt (first | exact Nat.le_of_ble_eq_true rfl | k_room)) (by k_dflt (first | exact Nat.le_of_ble_eq_true rfl | k_units)) ?_ | refine dec1_spec (by k_dflt assumption) (by walk_at "sp here") (by k_dflt (first | exact Nat.le_of_ble_eq_true rfl | k_room)) (by k_dflt (first | exact Nat.le_of_ble_eq_true rfl | k_units)) ?_ | refine dec2_spec (by k_dflt assumption) (by walk_at "sp here") (by k_dflt (first | exact Nat.le_of_ble_eq_true rfl | k_room)) (by k_dflt (first | exact Nat.le_of_ble_eq_true rfl | k_units)) ?_ | refine dec3_spec (by k_dflt assumption) (by walk_at "sp here") (by k_dflt (first | exact Nat.le_of_ble_eq_true rfl | k_room)) (by k_dflt (first | exact Nat.le_of_ble_eq_true rfl | k_units)) ?_ | refine decT_spec (by k_dflt assumption) (by walk_at "sp here") (by k_dflt (first | exact Nat.le_of_ble_eq_true rfl | k_room)) (by k_dflt (first | exact Nat.le_of_ble_eq_true rfl | k_units)) ?_); walk_at "sp keptV"))
  (k_with "call ref" => (k_here; (with_reducible show wpAny _ _ (call (Value.ref _) (Value.bytes _ _ :: _) _) _ _ _); k_dflt (first | refine fig_spec (by k_dflt assumption) (by walk_at "sp here") (by k_dflt (first | exact Nat.le_of_ble_eq_true rfl | k_room)) (by k_dflt (first | exact Nat.le_of_ble_eq_true rfl | k_units)) ?_ | refine six_spec (by decide +kernel) (by k_dflt assumption) (by walk_at "sp here") (by k_dflt (first | exact Nat.le_of_ble_eq_true rfl | k_room)) (by k_dflt (first | exact Nat.le_of_ble_eq_true rfl | k_units)) ?_ | refine enc3c_spec (by k_dflt assumption) (by walk_at "sp here") (by k_dflt (first | exact Nat.le_of_ble_eq_true rfl | k_room)) (by k_dflt (first | exact Nat.le_of_ble_eq_true rfl | k_units)) ?_); walk_at "sp kept"))
  (k_with "call ref" => (k_here; (with_reducible show wpAny _ _ (call (Value.ref _) (Value.bytes _ _ :: _) _) _ _ _); k_dflt (first | refine high_spec (by k_dflt (first | assumption | exact octs_fits (by assumption))) (by walk_at "sp here") (by k_dflt (first | exact Nat.le_of_ble_eq_true rfl | k_room)) (by k_dflt (first | exact Nat.le_of_ble_eq_true rfl | k_units)) ?_ | refine letter_spec (by k_dflt (first | assumption | exact octs_fits (by assumption))) (by walk_at "sp here") (by k_dflt (first | exact Nat.le_of_ble_eq_true rfl | k_room)) (by k_dflt (first | exact Nat.le_of_ble_eq_true rfl | k_units)) ?_); walk_at "sp keptB"))
  (k_with "call builtin:len" => (k_here; (with_reducible show wpAny _ _ (call (Value.builtin "len") [Value.ref _]) _ _ _); k_dflt (refine len_at (by k_dflt (exact News.isList (by k_asm) (by k_mem))) (by k_dflt assumption) (by k_dflt omega) ?_)))
  (k_with "subscriptTail Name Name ref int" => (k_here; (with_reducible show wpAny _ _ (subscriptTail _ _ (Value.ref _) (Value.int _ _)) _ _ _); k_dflt (refine item_at (by k_dflt (exact News.isList (by k_asm) (by k_mem))) (by k_dflt assumption) (by k_dflt assumption) ?_)))
  (k_with "getMethod bytes" => (k_here; (with_reducible refine meth_lower ?_)))
  (k_with "call builtin:bytes.lower" => (k_here; (with_reducible show wpAny _ _ (call (Value.builtin "bytes.lower") [Value.bytes _ _]) _ _ _); (k_dflt (refine' call_lower (w3_fits (by assumption)) ?_)); intro _ _))
  (k_with "execs cons" => (k_here; (try k_fold); (with_reducible refine wpAny_execs_cons ?_); (try dsimp only); k_fold))
  (k_with "eval Name" => (k_here; k_dflt (refine nm_L (by k_asm) (by rfl) (by rfl) (by decide) (by exact Eq.refl (some _)) ?_)))
  trivial
theorem lt3 {r : Nat} (h : r < 3) : r = 0 ∨ r = 1 ∨ r = 2 := by omega
structure Keep (A : Prop) : Prop where
  out : A
structure Cut1P (G : Prop) where
  A : Prop
  h : Keep A → G
structure Cut2P (G : Prop) where
  A : Prop
  B : Prop
  h : Keep A → Keep B → G
structure Cut3P (G : Prop) where
  A : Prop
  B : Prop
  C : Prop
  h : Keep A → Keep B → Keep C → G
set_option maxHeartbeats 0 in
noncomputable def cut1 : Cut1P (PySem.Challenge.rw_kq0048_01.Holds) := by
  apply Cut1P.mk
  case h =>
  intro q0
  refine hd ?_
  w_top off
  k_go0
  w_top off
  k_steps
  unfold Stop
  refine wpAny_Assign_Name ?_ (by with_unfolding_all rfl)
  k_dflt (refine LCg.ListComp_U (F₀ := by k_asm) (by rfl) (by decide) (by rfl) (by decide) (by rfl) ?_)
  k_steps
  unfold Stop
  rename IntsAre _ (_ ++ _) => hI9
  have hlen9 := ints_len hI9
  k_dflt (refine LCg.CompSrc.ledger (by rfl) (by k_asm) (by k_asm) (by k_mem) ?hsz ?_)
  case hsz => exact (sz_nums hI9).1
  intro g9
  k_dflt (refine rest_gen _ IV (fun x v => OV (digs x) v) (hP_ints hI9) ?hS ?turn ?fin _ (sz_nums hI9).2.1)
  case hS => exact Or.inr ⟨_, by k_mem, rfl, _, rfl⟩
  case turn =>
    intro a v I oI C oC D ys m₂ h tk E' ha hin hC hx F' N' off ne
    obtain ⟨u9, hv9⟩ := hin
    subst hv9
    simp only [LCg.Off3, and_true] at off
    k_steps
    exact ⟨_, rfl⟩
  case fin =>
    intro ys hys
    have hn8 := (sz_nums hI9).2.2
    obtain ⟨nums, hnE⟩ := gen_nums hI9
    rw [← hnE] at hI9 hys hlen9
    have hn9 : nums.length ≤ 14 := hnE ▸ hn8
    clear hnE hn8
    k_steps
    rename (@Ne Nat _ _ ∧ _) => oRows
    revert nums ys hys hI9 hlen9 hn9 oRows
    repeat (rename _ => x9; revert x9)
    intro q0
    exact q0.out
set_option maxHeartbeats 0 in
noncomputable def cut2 : Cut1P (cut1.A) := by
  apply Cut1P.mk
  case h =>
  intro q0
  (w_top off; have hfill : PySem.Challenge.rw_kq0048_01 = PySem.Challenge.rw_kq0048_01 ∧ hd.heap_39 = hd.heap_39 := by (k_fill; exact ⟨rfl, rfl⟩))
  clear hfill
  intro x9
  set_option tactic.hygienic false in intros
  unfold Stop
  k_dflt (refine LCt.ListComp_T (F₀ := by k_asm) (by with_unfolding_all rfl) (by decide) (by rfl) (by decide) (by rfl) ?_)
  k_steps
  unfold Stop
  k_dflt (refine LCt.CompSrcT.ledger (by rfl) (by k_asm) (by k_asm) (by first | exact List.Mem.tail _ (List.Mem.head _)) ?hsz2 ?_)
  case hsz2 => exact sz_ints hI9 hn9 (by decide)
  intro g8
  k_dflt (refine restT_gen _ (fun x : Int => decide (x.fmod 3 = 0)) IV (fun x v => OV (digs x) v) (hP_ints hI9) ?hS2 ?test2 ?turn2 ?fin2 _ (by simpa using hlen9))
  case hS2 => exact Or.inr ⟨_, List.Mem.tail _ (List.Mem.head _), rfl, _, rfl⟩
  case test2 =>
    intro a v I oI C oC D ys m₂ h tk E' ha hin hC hx F' N' off ne
    obtain ⟨u9, hv9⟩ := hin
    subst hv9
    simp only [LCg.Off3, and_true] at off
    k_steps
  case turn2 =>
    intro a v I oI C oC D ys m₂ h tk E' ha hin hC hx F' N' off ne
    obtain ⟨u9, hv9⟩ := hin
    subst hv9
    simp only [LCg.Off3, and_true] at off
    k_steps
    exact ⟨_, rfl⟩
  case fin2 =>
    intro ys2 hys2
    k_steps
    rename Fr _ _ _ _ => F9
    rename News _ _ _ _ => N9
    have hyl := hys2.length
    obtain ⟨zs, hzs⟩ := gen_zs N9 ys2
    have hLD : Rel OV (leaveD nums) zs := hzs ▸ leave_rel hys2 ⟨_, rfl⟩
    have hz1 : ys2.length + 1 = zs.length := by rw [← hzs]; simp
    k_dflt (refine' kmk_add_lit F9 N9 (News.isList N9 (List.Mem.tail _ (List.Mem.tail _ (List.Mem.head _)))) (News.isList N9 (List.Mem.head _)) hzs ?_ ?hz2)
    case hz2 => exact sz_add hLD hn9 hz1
    clear hzs F9 N9
    intro D9 h9 F9 N9 l9
    k_lt l9
    k_steps
    have hD := Rel.unmap (R := OV) (f := digs) hys
    have hDl : (nums.map digs).length ≤ 14 := by simpa using hn9
    have hD3 : ∀ d ∈ nums.map digs, d.length ≤ 3 := fun d h => digs_all h
    have hLl := leave_len hn9
    have hL3 : ∀ d ∈ leaveD nums, d.length ≤ 3 := fun d h => leave_all h
    generalize nums.map digs = D at hD hDl hD3
    generalize leaveD nums = LD at hLD hLl hL3
    rename News _ _ _ _ => N9
    have N8 := N_pick [true, false, false, false, true, false, false, false] N9
    simp only [pickB] at N8
    clear N9 hys hI9 hlen9 hn9 hys2 hyl hz1
    revert D LD ys zs hD hDl hD3 hLD hLl hL3 oRows l9
    repeat (rename _ => x9; revert x9)
    intro q0
    exact q0.out
set_option maxHeartbeats 0 in
noncomputable def cut3 : Cut1P (cut2.A) := by
  apply Cut1P.mk
  case h =>
  intro q0
  (w_top off; have hfill : PySem.Challenge.rw_kq0048_01 = PySem.Challenge.rw_kq0048_01 ∧ hd.heap_39 = hd.heap_39 := by (k_fill; exact ⟨rfl, rfl⟩))
  clear hfill
  intro x9
  set_option tactic.hygienic false in intros
  unfold Stop
  have hDB := Rel.unmap (R := BV) (f := octs) hD
  have hLB := Rel.unmap (R := BV) (f := octs) hLD
  have hzl : zs.length ≤ 100 := by rw [hLD.length]; exact Nat.le_trans hLl (by decide)
  have hyl : ys.length ≤ 100 := by rw [hD.length]; exact Nat.le_trans hDl (by decide)
  have hT1 := hLB.take 1
  have hT2 := hLB.drop 1
  k_dflt (refine LCt.Assign_ListComp_T (F₀ := by k_asm) (by rfl) (by with_unfolding_all rfl) (by with_unfolding_all rfl) (by decide) (by rfl) (by decide) (by rfl) (by rfl) (by rfl) ?_)
  k_steps
  unfold Stop
  k_dflt (refine LCt.CompSrcT.ledger (by rfl) (by k_asm) (by k_asm) (by k_mem) ?hsz3 ?_)
  case hsz3 => exact sz_rel hD hDl (by decide)
  intro g7
  k_dflt (refine restT_gen _ (fun d => !memD d LD) OV OV (hP_rel hD) ?hS3 ?test3 ?turn3 ?fin3 _ (by have := hD.length; simpa using this))
  case hS3 => exact Or.inr ⟨_, by k_mem, rfl, _, rfl⟩
  case test3 =>
    intro a v I oI C oC D ys m₂ h tk E' ha hin hC hx F' N' off ne
    simp only [LCg.Off3, and_true] at off
    obtain ⟨t9, hv9⟩ := hin
    subst hv9
    have hin' : BV (octs a) (Value.bytes (octs a).toArray t9) := ⟨t9, rfl⟩
    k_steps
  case turn3 =>
    intro a v I oI C oC D ys m₂ h tk E' ha hin hC hx F' N' off ne
    simp only [LCg.Off3, and_true] at off
    k_steps
    exact hin
  case fin3 =>
    intro ks hks
    have hKB := Rel.unmap (R := BV) (f := octs) hks
    k_steps
    rename (@Ne Nat _ _ ∧ _) => oKept
    rename News _ _ _ _ => N9
    have N8 := N_pick [true, true, true, true, true, false, false, false, false, false, false] N9
    simp only [pickB] at N8
    clear N9 hT1 hT2
    revert D LD ys zs hD hDl hD3 hLD hLl hL3 ks hDB hLB hzl hyl hks hKB oRows oKept l9
    repeat (rename _ => x9; revert x9)
    intro q0
    exact q0.out
set_option maxHeartbeats 0 in
noncomputable def cut4 : Cut2P (cut3.A) := by
  apply Cut2P.mk
  case h =>
  intro q0 q1
  (w_top off; have hfill : PySem.Challenge.rw_kq0048_01 = PySem.Challenge.rw_kq0048_01 ∧ hd.heap_39 = hd.heap_39 := by (k_fill; exact ⟨rfl, rfl⟩))
  clear hfill
  intro x9
  set_option tactic.hygienic false in intros
  (rename Fr _ _ _ _ => lF'); (with_unfolding_all refine' For_turns lF' ?_)
  k_steps
  unfold Stop
  rename News _ _ _ _ => N9
  rename Fr _ _ _ _ => F9
  (k_dflt (refine' zip3_forJ (Str.ofString "told") 13 12 11 ?hh ?ht F9 N9 ?d1 ?d2 ?d3 ?n1 ?n2 ?n3 ?e1 ?e2 ?e3 ?g1 ?g2 ?g3 ?hc ?jl ?turn ?fin))
  case hh => rfl
  case ht => rfl
  case d1 => k_mem
  case d2 => k_mem
  case d3 => k_mem
  case e1 => rfl
  case e2 => rfl
  case e3 => rfl
  case g1 => exact ⟨_, rfl⟩
  case g2 => exact ⟨_, rfl⟩
  case g3 => exact ⟨_, rfl⟩
  case n1 => rfl
  case n2 => rfl
  case n3 => rfl
  case hc => exact ⟨_, _, _, _, _, _, by assumption, by assumption, by assumption, rfl⟩
  case jl =>
    intro o1 o2 o3
    simp only [putO]
    exact ⟨by k_mem, by k_mem, by k_mem⟩
  case fin =>
    clear F9 N9
    intro h tk tv o1 o2 o3 x1 x2 x3 c1 c2 c3 F9 N9
    simp only [putO] at N9
    revert D LD ys zs hD hDl hD3 hLD hLl hL3 ks hDB hLB hzl hyl hks hKB oRows oKept l9
    repeat (rename _ => x9; revert x9)
    intro q0 q1
    exact q1.out
  case turn =>
    clear F9 N9
    intro r x y z I T h tk tv o1 o2 o3 x1 x2 x3 j1 j2 j3 oT oO oz hr hx hy hz hT c1 c2 c3 l1 F9 N9
    have hI0 := l1
    simp only [putO, zipObjs, List.cons_append, List.nil_append] at N9 l1
    k_lt l1
    revert r x y z D LD ys zs hD hDl hD3 hLD hLl hL3 ks hDB hLB hzl hyl hks hKB oRows oKept l9 hr hx hy hz hT hI0
    repeat (rename _ => x9; revert x9)
    intro q0 q1
    exact q0.out
set_option maxHeartbeats 0 in
noncomputable def cut5 : Cut3P (cut4.A) := by
  apply Cut3P.mk
  case h =>
  intro q0 q1 q2
  (w_top off; have hfill : PySem.Challenge.rw_kq0048_01 = PySem.Challenge.rw_kq0048_01 ∧ hd.heap_39 = hd.heap_39 := by (k_fill; exact ⟨rfl, rfl⟩))
  clear hfill
  intro x9
  set_option tactic.hygienic false in intros
  obtain hr0 | hr0 | hr0 : r = 0 ∨ r = 1 ∨ r = 2 := lt3 hr
  · subst hr0
    revert x y z D LD ys zs hD hDl hD3 hLD hLl hL3 ks hDB hLB hzl hyl hks hKB oRows oKept l9 hr hx hy hz hT hI0
    repeat (rename _ => x9; revert x9)
    intro q0 q1 q2
    exact q0.out
  · subst hr0
    revert x y z D LD ys zs hD hDl hD3 hLD hLl hL3 ks hDB hLB hzl hyl hks hKB oRows oKept l9 hr hx hy hz hT hI0
    repeat (rename _ => x9; revert x9)
    intro q0 q1 q2
    exact q1.out
  · subst hr0
    revert x y z D LD ys zs hD hDl hD3 hLD hLl hL3 ks hDB hLB hzl hyl hks hKB oRows oKept l9 hr hx hy hz hT hI0
    repeat (rename _ => x9; revert x9)
    intro q0 q1 q2
    exact q2.out
set_option maxHeartbeats 0 in
theorem turn0 : cut5.A := by
  (w_top off; have hfill : PySem.Challenge.rw_kq0048_01 = PySem.Challenge.rw_kq0048_01 ∧ hd.heap_39 = hd.heap_39 := by (k_fill; exact ⟨rfl, rfl⟩))
  clear hfill
  intro x9
  set_option tactic.hygienic false in intros
  have e1 : (D.map w1).filter (fun l => !decide (l ∈ LD.map w1)) = (List.filter (fun d => !memD d LD) D).map w1 := keep_w1 hD3 hL3
  change some (Value.ref _) = some x at hx
  change some (Value.ref _) = some y at hy
  change some (Value.ref _) = some z at hz
  have ex := Option.some.inj hx
  have ey := Option.some.inj hy
  have ez := Option.some.inj hz
  subst ex
  subst ey
  subst ez
  clear hx hy hz hr
  k_steps
  walk_at "sp sweep"
  unfold Stop
  k_dflt (refine LCg.ListComp_U (F₀ := by k_asm) (by with_unfolding_all rfl) (by decide) (by rfl) (by decide) (by rfl) ?_)
  k_steps
  unfold Stop
  k_dflt (refine LCg.CompSrc.ledger (by rfl) (by k_asm) (by k_asm) (by k_mem) ?hsza ?_)
  case hsza => exact sz_rel hD hDl (by decide)
  intro ga
  k_dflt (refine rest_gen D (OV) (fun d v => BV (w1 d) v) (hP_rel hD) ?hSa ?turna ?fina _ (by have := hD.length; simpa using this))
  case hSa => exact Or.inr ⟨_, by k_mem, rfl, _, rfl⟩
  case turna =>
    intro a v I oI C oC Dx ysx m₂ h tk E' ha hin hC hx F' N' off ne
    simp only [LCg.Off3, and_true] at off
    have ha3 : a.length ≤ 3 := hD3 a ha
    obtain ⟨t9, hv9⟩ := hin
    subst hv9
    k_steps
    first | assumption | exact ⟨_, rfl⟩
  case fina =>
  intro ysa hysa
  k_steps
  unfold Stop
  k_dflt (refine LCg.ListComp_U (F₀ := by k_asm) (by with_unfolding_all rfl) (by decide) (by rfl) (by decide) (by rfl) ?_)
  k_steps
  unfold Stop
  k_dflt (refine LCg.CompSrc.ledger (by rfl) (by k_asm) (by k_asm) (by k_mem) ?hszb ?_)
  case hszb => exact sz_rel hLD hLl (by decide)
  intro gb
  k_dflt (refine rest_gen LD (OV) (fun d v => BV (w1 d) v) (hP_rel hLD) ?hSb ?turnb ?finb _ (by have := hLD.length; simpa using this))
  case hSb => exact Or.inr ⟨_, by k_mem, rfl, _, rfl⟩
  case turnb =>
    intro a v I oI C oC Dx ysx m₂ h tk E' ha hin hC hx F' N' off ne
    simp only [LCg.Off3, and_true] at off
    have ha3 : a.length ≤ 3 := hL3 a ha
    have htx := (row_ok ha3).t1
    obtain ⟨t9, hv9⟩ := hin
    subst hv9
    k_steps
    assumption
  case finb =>
  intro ysb hysb
  have hWa := Rel.unmap (R := BV) (f := w1) hysa
  have hWb := Rel.unmap (R := BV) (f := w1) hysb
  k_steps
  unfold Stop
  k_dflt (refine LCg.ListComp_U (F₀ := by k_asm) (by with_unfolding_all rfl) (by decide) (by rfl) (by decide) (by rfl) ?_)
  k_steps
  unfold Stop
  k_dflt (refine LCg.CompSrc.ledger (by rfl) (by k_asm) (by k_asm) (by k_mem) ?hszc ?_)
  case hszc => exact sz_rel2 hks hDl (by decide)
  intro gc
  k_dflt (refine rest_gen (List.filter (fun d => !memD d LD) D) (OV) (fun d v => BV (w1 d) v) (hP_rel hks) ?hSc ?turnc ?finc _ (by have := hks.length; simpa using this))
  case hSc => exact Or.inr ⟨_, by k_mem, rfl, _, rfl⟩
  case turnc =>
    intro a v I oI C oC Dx ysx m₂ h tk E' ha hin hC hx F' N' off ne
    simp only [LCg.Off3, and_true] at off
    have ha3 : a.length ≤ 3 := hD3 a (List.mem_filter.mp ha).1
    have htx := (row_ok ha3).t1
    obtain ⟨t9, hv9⟩ := hin
    subst hv9
    k_steps
    assumption
  case finc =>
  intro ysc hysc
  have hWc := Rel.unmap (R := BV) (f := w1) hysc
  k_steps
  rename Rel BV (List.filter _ (List.map w1 D)) _ => hTo
  have hTd := Rel.map (R := BV) (f := w1) (e1 ▸ hTo)
  unfold Stop
  k_dflt (refine LCg.ListComp_U (F₀ := by k_asm) (by with_unfolding_all rfl) (by decide) (by rfl) (by decide) (by rfl) ?_)
  k_steps
  unfold Stop
  k_dflt (refine LCg.CompSrc.ledger (by rfl) (by k_asm) (by k_asm) (by k_mem) ?hszd ?_)
  case hszd => exact sz_rel2 hTd hDl (by decide)
  intro gd
  k_dflt (refine rest_gen (List.filter (fun d => !memD d LD) D) (fun d v => BV (w1 d) v) (OV) (hP_rel hTd) ?hSd ?turnd ?find _ (by have := hTd.length; simpa using this))
  case hSd => exact Or.inr ⟨_, by k_mem, rfl, _, rfl⟩
  case turnd =>
    intro a v I oI C oC Dx ysx m₂ h tk E' ha hin hC hx F' N' off ne
    simp only [LCg.Off3, and_true] at off
    have ha3 : a.length ≤ 3 := hD3 a (List.mem_filter.mp ha).1
    obtain ⟨t9, hv9⟩ := hin
    subst hv9
    k_steps
    assumption
  case find =>
  intro ysd hysd
  have hWd := Rel.unmap (R := BV) (f := octs) hysd
  k_steps
  unfold Stop
  rename Fr _ _ _ _ => F8
  rename News _ _ _ _ => N8
  (k_dflt (refine' ZEnd.nextJ F8 N8 hI0 ?sub ?q1 ?q2 ?q3))
  case sub => (simp only [putO, zipObjs, List.cons_append, List.nil_append]; lcg_sub)
  case q1 => assumption
  case q2 => assumption
  case q3 => assumption
set_option maxHeartbeats 0 in
theorem turn1 : cut5.B := by
  (w_top off; have hfill : PySem.Challenge.rw_kq0048_01 = PySem.Challenge.rw_kq0048_01 ∧ hd.heap_39 = hd.heap_39 := by (k_fill; exact ⟨rfl, rfl⟩))
  clear hfill
  intro x9
  set_option tactic.hygienic false in intros
  have e1 : (D.map w2).filter (fun l => !decide (l ∈ LD.map w2)) = (List.filter (fun d => !memD d LD) D).map w2 := keep_w2 hD3 hL3
  change some (Value.ref _) = some x at hx
  change some (Value.ref _) = some y at hy
  change some (Value.ref _) = some z at hz
  have ex := Option.some.inj hx
  have ey := Option.some.inj hy
  have ez := Option.some.inj hz
  subst ex
  subst ey
  subst ez
  clear hx hy hz hr
  k_steps
  walk_at "sp sweep"
  unfold Stop
  k_dflt (refine LCg.ListComp_U (F₀ := by k_asm) (by with_unfolding_all rfl) (by decide) (by rfl) (by decide) (by rfl) ?_)
  k_steps
  unfold Stop
  k_dflt (refine LCg.CompSrc.ledger (by rfl) (by k_asm) (by k_asm) (by k_mem) ?hsza ?_)
  case hsza => exact sz_rel hD hDl (by decide)
  intro ga
  k_dflt (refine rest_gen D (OV) (fun d v => BV (w2 d) v) (hP_rel hD) ?hSa ?turna ?fina _ (by have := hD.length; simpa using this))
  case hSa => exact Or.inr ⟨_, by k_mem, rfl, _, rfl⟩
  case turna =>
    intro a v I oI C oC Dx ysx m₂ h tk E' ha hin hC hx F' N' off ne
    simp only [LCg.Off3, and_true] at off
    have ha3 : a.length ≤ 3 := hD3 a ha
    obtain ⟨t9, hv9⟩ := hin
    subst hv9
    k_steps
    first | assumption | exact ⟨_, rfl⟩
  case fina =>
  intro ysa hysa
  k_steps
  unfold Stop
  k_dflt (refine LCg.ListComp_U (F₀ := by k_asm) (by with_unfolding_all rfl) (by decide) (by rfl) (by decide) (by rfl) ?_)
  k_steps
  unfold Stop
  k_dflt (refine LCg.CompSrc.ledger (by rfl) (by k_asm) (by k_asm) (by k_mem) ?hszb ?_)
  case hszb => exact sz_rel hLD hLl (by decide)
  intro gb
  k_dflt (refine rest_gen LD (OV) (fun d v => BV (w2 d) v) (hP_rel hLD) ?hSb ?turnb ?finb _ (by have := hLD.length; simpa using this))
  case hSb => exact Or.inr ⟨_, by k_mem, rfl, _, rfl⟩
  case turnb =>
    intro a v I oI C oC Dx ysx m₂ h tk E' ha hin hC hx F' N' off ne
    simp only [LCg.Off3, and_true] at off
    have ha3 : a.length ≤ 3 := hL3 a ha
    have htx := (row_ok ha3).t2
    obtain ⟨t9, hv9⟩ := hin
    subst hv9
    k_steps
    assumption
  case finb =>
  intro ysb hysb
  have hWa := Rel.unmap (R := BV) (f := w2) hysa
  have hWb := Rel.unmap (R := BV) (f := w2) hysb
  k_steps
  unfold Stop
  k_dflt (refine LCg.ListComp_U (F₀ := by k_asm) (by with_unfolding_all rfl) (by decide) (by rfl) (by decide) (by rfl) ?_)
  k_steps
  unfold Stop
  k_dflt (refine LCg.CompSrc.ledger (by rfl) (by k_asm) (by k_asm) (by k_mem) ?hszc ?_)
  case hszc => exact sz_rel2 hks hDl (by decide)
  intro gc
  k_dflt (refine rest_gen (List.filter (fun d => !memD d LD) D) (OV) (fun d v => BV (w2 d) v) (hP_rel hks) ?hSc ?turnc ?finc _ (by have := hks.length; simpa using this))
  case hSc => exact Or.inr ⟨_, by k_mem, rfl, _, rfl⟩
  case turnc =>
    intro a v I oI C oC Dx ysx m₂ h tk E' ha hin hC hx F' N' off ne
    simp only [LCg.Off3, and_true] at off
    have ha3 : a.length ≤ 3 := hD3 a (List.mem_filter.mp ha).1
    have htx := (row_ok ha3).t2
    obtain ⟨t9, hv9⟩ := hin
    subst hv9
    k_steps
    assumption
  case finc =>
  intro ysc hysc
  have hWc := Rel.unmap (R := BV) (f := w2) hysc
  k_steps
  rename Rel BV (List.filter _ (List.map w2 D)) _ => hTo
  have hTd := Rel.map (R := BV) (f := w2) (e1 ▸ hTo)
  unfold Stop
  k_dflt (refine LCg.ListComp_U (F₀ := by k_asm) (by with_unfolding_all rfl) (by decide) (by rfl) (by decide) (by rfl) ?_)
  k_steps
  unfold Stop
  k_dflt (refine LCg.CompSrc.ledger (by rfl) (by k_asm) (by k_asm) (by k_mem) ?hszd ?_)
  case hszd => exact sz_rel2 hTd hDl (by decide)
  intro gd
  k_dflt (refine rest_gen (List.filter (fun d => !memD d LD) D) (fun d v => BV (w2 d) v) (OV) (hP_rel hTd) ?hSd ?turnd ?find _ (by have := hTd.length; simpa using this))
  case hSd => exact Or.inr ⟨_, by k_mem, rfl, _, rfl⟩
  case turnd =>
    intro a v I oI C oC Dx ysx m₂ h tk E' ha hin hC hx F' N' off ne
    simp only [LCg.Off3, and_true] at off
    have ha3 : a.length ≤ 3 := hD3 a (List.mem_filter.mp ha).1
    obtain ⟨t9, hv9⟩ := hin
    subst hv9
    k_steps
    assumption
  case find =>
  intro ysd hysd
  have hWd := Rel.unmap (R := BV) (f := octs) hysd
  k_steps
  unfold Stop
  rename Fr _ _ _ _ => F8
  rename News _ _ _ _ => N8
  (k_dflt (refine' ZEnd.nextJ F8 N8 hI0 ?sub ?q1 ?q2 ?q3))
  case sub => (simp only [putO, zipObjs, List.cons_append, List.nil_append]; lcg_sub)
  case q1 => assumption
  case q2 => assumption
  case q3 => assumption
set_option maxHeartbeats 0 in
theorem turn2 : cut5.C := by
  (w_top off; have hfill : PySem.Challenge.rw_kq0048_01 = PySem.Challenge.rw_kq0048_01 ∧ hd.heap_39 = hd.heap_39 := by (k_fill; exact ⟨rfl, rfl⟩))
  clear hfill
  intro x9
  set_option tactic.hygienic false in intros
  have e1 : (D.map w3).filter (fun l => !decide (l ∈ LD.map w3)) = (List.filter (fun d => !memD d LD) D).map w3 := keep_w3 hD3 hL3
  change some (Value.ref _) = some x at hx
  change some (Value.ref _) = some y at hy
  change some (Value.ref _) = some z at hz
  have ex := Option.some.inj hx
  have ey := Option.some.inj hy
  have ez := Option.some.inj hz
  subst ex
  subst ey
  subst ez
  clear hx hy hz hr
  k_steps
  walk_at "sp sweep"
  unfold Stop
  k_dflt (refine LCg.ListComp_U (F₀ := by k_asm) (by with_unfolding_all rfl) (by decide) (by rfl) (by decide) (by rfl) ?_)
  k_steps
  unfold Stop
  k_dflt (refine LCg.CompSrc.ledger (by rfl) (by k_asm) (by k_asm) (by k_mem) ?hsza ?_)
  case hsza => exact sz_rel hD hDl (by decide)
  intro ga
  k_dflt (refine rest_gen D (OV) (fun d v => BV (w3 d) v) (hP_rel hD) ?hSa ?turna ?fina _ (by have := hD.length; simpa using this))
  case hSa => exact Or.inr ⟨_, by k_mem, rfl, _, rfl⟩
  case turna =>
    intro a v I oI C oC Dx ysx m₂ h tk E' ha hin hC hx F' N' off ne
    simp only [LCg.Off3, and_true] at off
    have ha3 : a.length ≤ 3 := hD3 a ha
    obtain ⟨t9, hv9⟩ := hin
    subst hv9
    k_steps
    first | assumption | exact ⟨_, rfl⟩
  case fina =>
  intro ysa hysa
  k_steps
  unfold Stop
  k_dflt (refine LCg.ListComp_U (F₀ := by k_asm) (by with_unfolding_all rfl) (by decide) (by rfl) (by decide) (by rfl) ?_)
  k_steps
  unfold Stop
  k_dflt (refine LCg.CompSrc.ledger (by rfl) (by k_asm) (by k_asm) (by k_mem) ?hszb ?_)
  case hszb => exact sz_rel hLD hLl (by decide)
  intro gb
  k_dflt (refine rest_gen LD (OV) (fun d v => BV (w3 d) v) (hP_rel hLD) ?hSb ?turnb ?finb _ (by have := hLD.length; simpa using this))
  case hSb => exact Or.inr ⟨_, by k_mem, rfl, _, rfl⟩
  case turnb =>
    intro a v I oI C oC Dx ysx m₂ h tk E' ha hin hC hx F' N' off ne
    simp only [LCg.Off3, and_true] at off
    have ha3 : a.length ≤ 3 := hL3 a ha
    have htx := (row_ok ha3).t3
    obtain ⟨t9, hv9⟩ := hin
    subst hv9
    k_steps
    assumption
  case finb =>
  intro ysb hysb
  have hWa := Rel.unmap (R := BV) (f := w3) hysa
  have hWb := Rel.unmap (R := BV) (f := w3) hysb
  k_steps
  unfold Stop
  k_dflt (refine LCg.ListComp_U (F₀ := by k_asm) (by with_unfolding_all rfl) (by decide) (by rfl) (by decide) (by rfl) ?_)
  k_steps
  unfold Stop
  k_dflt (refine LCg.CompSrc.ledger (by rfl) (by k_asm) (by k_asm) (by k_mem) ?hszc ?_)
  case hszc => exact sz_rel2 hks hDl (by decide)
  intro gc
  k_dflt (refine rest_gen (List.filter (fun d => !memD d LD) D) (OV) (fun d v => BV (w3 d) v) (hP_rel hks) ?hSc ?turnc ?finc _ (by have := hks.length; simpa using this))
  case hSc => exact Or.inr ⟨_, by k_mem, rfl, _, rfl⟩
  case turnc =>
    intro a v I oI C oC Dx ysx m₂ h tk E' ha hin hC hx F' N' off ne
    simp only [LCg.Off3, and_true] at off
    have ha3 : a.length ≤ 3 := hD3 a (List.mem_filter.mp ha).1
    have htx := (row_ok ha3).t3
    obtain ⟨t9, hv9⟩ := hin
    subst hv9
    k_steps
    assumption
  case finc =>
  intro ysc hysc
  have hWc := Rel.unmap (R := BV) (f := w3) hysc
  k_steps
  rename Rel BV (List.filter _ (List.map w3 D)) _ => hTo
  have hTd := Rel.map (R := BV) (f := w3) (e1 ▸ hTo)
  unfold Stop
  k_dflt (refine LCg.ListComp_U (F₀ := by k_asm) (by with_unfolding_all rfl) (by decide) (by rfl) (by decide) (by rfl) ?_)
  k_steps
  unfold Stop
  k_dflt (refine LCg.CompSrc.ledger (by rfl) (by k_asm) (by k_asm) (by k_mem) ?hszd ?_)
  case hszd => exact sz_rel2 hTd hDl (by decide)
  intro gd
  k_dflt (refine rest_gen (List.filter (fun d => !memD d LD) D) (fun d v => BV (w3 d) v) (OV) (hP_rel hTd) ?hSd ?turnd ?find _ (by have := hTd.length; simpa using this))
  case hSd => exact Or.inr ⟨_, by k_mem, rfl, _, rfl⟩
  case turnd =>
    intro a v I oI C oC Dx ysx m₂ h tk E' ha hin hC hx F' N' off ne
    simp only [LCg.Off3, and_true] at off
    have ha3 : a.length ≤ 3 := hD3 a (List.mem_filter.mp ha).1
    obtain ⟨t9, hv9⟩ := hin
    subst hv9
    k_steps
    assumption
  case find =>
  intro ysd hysd
  have hWd := Rel.unmap (R := BV) (f := octs) hysd
  k_steps
  unfold Stop
  rename Fr _ _ _ _ => F8
  rename News _ _ _ _ => N8
  (k_dflt (refine' ZEnd.nextJ F8 N8 hI0 ?sub ?q1 ?q2 ?q3))
  case sub => (simp only [putO, zipObjs, List.cons_append, List.nil_append]; lcg_sub)
  case q1 => assumption
  case q2 => assumption
  case q3 => assumption
set_option maxHeartbeats 0 in
noncomputable def cut6 : Cut1P (cut4.B) := by
  apply Cut1P.mk
  case h =>
  intro q0
  (w_top off; have hfill : PySem.Challenge.rw_kq0048_01 = PySem.Challenge.rw_kq0048_01 ∧ hd.heap_39 = hd.heap_39 := by (k_fill; exact ⟨rfl, rfl⟩))
  clear hfill
  intro x9
  set_option tactic.hygienic false in intros
  have e2 : (D.map w1).filter (fun l => !decide (l ∈ LD.map w2)) = (List.filter (fun d => !memD d LD || high d) D).map w1 := keep_mix hD3 hL3
  rename News _ _ _ _ => N9
  have N8 := N_pick [false, false, false, false, false, false, false, true, true, true, true, false, false, false, true, true, true] N9
  simp only [pickB] at N8
  clear N9
  have pR : True → _ := fun _ => oRows
  have pK : True → _ := fun _ => oKept
  have p9 : True → _ := fun _ => l9
  walk_at "sp sweep"
  dsimp only
  k_steps
  unfold Stop
  k_dflt (refine LCg.ListComp_U (F₀ := by k_asm) (by with_unfolding_all rfl) (by decide) (by rfl) (by decide) (by rfl) ?_)
  k_steps
  unfold Stop
  k_dflt (refine LCg.CompSrc.ledger (by rfl) (by k_asm) (by k_asm) (by k_mem) ?hsza ?_)
  case hsza => exact sz_rel hD hDl (by decide)
  intro ga
  k_dflt (refine rest_gen D (OV) (fun d v => BV (w1 d) v) (hP_rel hD) ?hSa ?turna ?fina _ (by have := hD.length; simpa using this))
  case hSa => exact Or.inr ⟨_, by k_mem, rfl, _, rfl⟩
  case turna =>
    intro a v I oI C oC Dx ysx m₂ h tk E' ha hin hC hx F' N' off ne
    simp only [LCg.Off3, and_true] at off
    have ha3 : a.length ≤ 3 := hD3 a ha
    obtain ⟨t9, hv9⟩ := hin
    subst hv9
    k_steps
    assumption
  case fina =>
  intro ysa hysa
  k_steps
  unfold Stop
  k_dflt (refine LCg.ListComp_U (F₀ := by k_asm) (by with_unfolding_all rfl) (by decide) (by rfl) (by decide) (by rfl) ?_)
  k_steps
  unfold Stop
  k_dflt (refine LCg.CompSrc.ledger (by rfl) (by k_asm) (by k_asm) (by k_mem) ?hszb ?_)
  case hszb => exact sz_rel hLD hLl (by decide)
  intro gb
  k_dflt (refine rest_gen LD (OV) (fun d v => BV (w2 d) v) (hP_rel hLD) ?hSb ?turnb ?finb _ (by have := hLD.length; simpa using this))
  case hSb => exact Or.inr ⟨_, by k_mem, rfl, _, rfl⟩
  case turnb =>
    intro a v I oI C oC Dx ysx m₂ h tk E' ha hin hC hx F' N' off ne
    simp only [LCg.Off3, and_true] at off
    have ha3 : a.length ≤ 3 := hL3 a ha
    obtain ⟨t9, hv9⟩ := hin
    subst hv9
    k_steps
    assumption
  case finb =>
  intro ysb hysb
  have hWa := Rel.unmap (R := BV) (f := w1) hysa
  have hWb := Rel.unmap (R := BV) (f := w2) hysb
  k_steps
  rename Rel BV (List.filter _ (List.map w1 D)) _ => hTo
  have hTd := Rel.map (R := BV) (f := w1) (e2 ▸ hTo)
  unfold Stop
  k_dflt (refine LCg.ListComp_U (F₀ := by k_asm) (by with_unfolding_all rfl) (by decide) (by rfl) (by decide) (by rfl) ?_)
  k_steps
  unfold Stop
  k_dflt (refine LCg.CompSrc.ledger (by rfl) (by k_asm) (by k_asm) (by k_mem) ?hszc ?_)
  case hszc => exact sz_rel2 hTd hDl (by decide)
  intro gc
  k_dflt (refine rest_gen (List.filter (fun d => !memD d LD || high d) D) (fun d v => BV (w1 d) v) (OV) (hP_rel hTd) ?hSc ?turnc ?finc _ (by have := hTd.length; simpa using this))
  case hSc => exact Or.inr ⟨_, by k_mem, rfl, _, rfl⟩
  case turnc =>
    intro a v I oI C oC Dx ysx m₂ h tk E' ha hin hC hx F' N' off ne
    simp only [LCg.Off3, and_true] at off
    have ha3 : a.length ≤ 3 := hD3 a (List.mem_filter.mp ha).1
    obtain ⟨t9, hv9⟩ := hin
    subst hv9
    k_steps
    assumption
  case finc =>
  intro ysc hysc
  have hWc := Rel.unmap (R := BV) (f := octs) hysc
  k_steps
  unfold Stop
  k_dflt (refine LCt.ListComp_T (F₀ := by k_asm) (by with_unfolding_all rfl) (by decide) (by rfl) (by decide) (by rfl) ?_)
  k_steps
  unfold Stop
  k_dflt (refine LCt.CompSrcT.ledger (by rfl) (by k_asm) (by k_asm) (by k_mem) ?hszd ?_)
  case hszd => exact sz_rel hD hDl (by decide)
  intro gd
  k_dflt (refine restT_gen D (fun d => !memD d LD || high d) OV OV (hP_rel hD) ?hSd ?testd ?turnd ?find _ (by have := hD.length; simpa using this))
  case hSd => exact Or.inr ⟨_, by k_mem, rfl, _, rfl⟩
  case testd =>
    intro a v I oI C oC Dx ysx m₂ h tk E' ha hin hC hx F' N' off ne
    simp only [LCg.Off3, and_true] at off
    have ha3 : a.length ≤ 3 := hD3 a ha
    obtain ⟨t9, hv9⟩ := hin
    subst hv9
    have hin' : BV (octs a) (Value.bytes (octs a).toArray t9) := ⟨t9, rfl⟩
    k_steps
    all_goals (simp [memD, *]; done)
  case turnd =>
    intro a v I oI C oC Dx ysx m₂ h tk E' ha hin hC hx F' N' off ne
    simp only [LCg.Off3, and_true] at off
    k_steps
    exact hin
  case find =>
  intro ysd hysd
  have hWd := Rel.unmap (R := BV) (f := octs) hysd
  k_steps
  rename News _ _ _ _ => N9
  have N8 := N_pick [false, false, false, false, false] N9
  simp only [pickB] at N8
  clear N9 hWa hWb hWc hWd hysa hysb hysc hysd hTd hTo
  walk_at "sp sweep"
  have oRows := pR trivial
  have oKept := pK trivial
  have l9 := p9 trivial
  clear pR pK p9
  revert D LD ys zs hD hDl hD3 hLD hLl hL3 ks hDB hLB hzl hyl hks hKB oRows oKept l9
  repeat (rename _ => x9; revert x9)
  intro q0
  exact q0.out
set_option maxHeartbeats 0 in
noncomputable def cut7 : Cut1P (cut6.A) := by
  apply Cut1P.mk
  case h =>
  intro q0
  (w_top off; have hfill : PySem.Challenge.rw_kq0048_01 = PySem.Challenge.rw_kq0048_01 ∧ hd.heap_39 = hd.heap_39 := by (k_fill; exact ⟨rfl, rfl⟩))
  clear hfill
  intro x9
  set_option tactic.hygienic false in intros
  unfold Stop
  have hyE := hD.length
  refine wpAny_Assign_Name ?_ (by with_unfolding_all rfl)
  k_dflt (refine LCg.ListComp_U (F₀ := by k_asm) (by with_unfolding_all rfl) (by decide) (by rfl) (by decide) (by rfl) ?_)
  k_steps
  unfold Stop
  k_dflt (refine LCg.CompSrc.range (n := D.length) (by rfl) (by k_asm) (by k_asm) (by assumption) (rng_small hDl).1 (rng_small hDl).2 ?hsze ?_)
  case hsze => exact Nat.le_trans hDl (Nat.le_of_ble_eq_true rfl)
  intro ge
  k_dflt (refine rest_gen D.zipIdx (fun a v => ∃ t, v = .int ((a.2 : Nat) : Int) t) (fun a v => BV (spell a) v) (fun i v hi hv => idx_in hi hv) trivial ?turne ?fine _ (by simp))
  case turne =>
    intro a v I oI C oC Dx ysx m₂ h tk E' ha hin hC hx F' N' off ne
    simp only [LCg.Off3, and_true] at off
    obtain ⟨t9, hv9⟩ := hin
    subst hv9
    obtain ⟨q1, q2, q3⟩ := zipIdx_at ha
    have ha3 : a.1.length ≤ 3 := hD3 a.1 (fst_mem ha)
    have ha9 : a.2 < 1000 := Nat.lt_of_lt_of_le q3 (Nat.le_trans hDl (by decide))
    obtain ⟨vr, hvr, hor⟩ := hD.at a.2 a.1 q1
    obtain ⟨t8, hv8⟩ := hor
    subst hv8
    k_steps
    all_goals (first | exact spell_odd (by assumption) | exact spell_even (by assumption))
  case fine =>
  intro yse hyse
  have hWe := Rel.unmap (R := BV) (f := spell) hyse
  have hseE : yse.length = D.length := by have := hyse.length; simpa using this
  k_steps
  revert D LD ys zs hD hDl hD3 hLD hLl hL3 ks hDB hLB hzl hyl hks hKB oRows oKept l9 yse hyse hWe hseE hyE
  repeat (rename _ => x9; revert x9)
  intro q0
  exact q0.out
set_option maxHeartbeats 0 in
noncomputable def cut8 : Cut1P (cut7.A) := by
  apply Cut1P.mk
  case h =>
  intro q0
  (w_top off; have hfill : PySem.Challenge.rw_kq0048_01 = PySem.Challenge.rw_kq0048_01 ∧ hd.heap_39 = hd.heap_39 := by (k_fill; exact ⟨rfl, rfl⟩))
  clear hfill
  intro x9
  set_option tactic.hygienic false in intros
  walk_at "sp sweep"
  unfold Stop
  have hz9 : D.zipIdx.length ≤ 14 := by simpa using hDl
  have e3 : (D.zipIdx.map spell).filter (fun l => !decide (l ∈ LD.map w3)) = (D.zipIdx.filter (pDue LD)).map spell := keep_spell hD3 hL3
  k_dflt (refine LCt.Assign_ListComp_T (F₀ := by k_asm) (by rfl) (by with_unfolding_all rfl) (by with_unfolding_all rfl) (by decide) (by rfl) (by decide) (by rfl) (by rfl) (by rfl) ?_)
  k_steps
  unfold Stop
  k_dflt (refine LCt.CompSrcT.range (n := D.length) (by rfl) (by k_asm) (by k_asm) (by assumption) (rng_small hDl).1 (rng_small hDl).2 ?hszf ?_)
  case hszf => exact Nat.le_trans hDl (Nat.le_of_ble_eq_true rfl)
  intro gf
  k_dflt (refine restT_gen D.zipIdx (pDue LD) (fun a v => ∃ t, v = .int ((a.2 : Nat) : Int) t) (fun a v => BV (spell a) v) (fun i v hi hv => idx_in hi hv) trivial ?testf ?turnf ?finf _ (by simp))
  case testf =>
    intro a v I oI C oC Dx ysx m₂ h tk E' ha hin hC hx F' N' off ne
    simp only [LCg.Off3, and_true] at off
    obtain ⟨t9, hv9⟩ := hin
    subst hv9
    obtain ⟨q1, q2, q3⟩ := zipIdx_at ha
    have ha3 : a.1.length ≤ 3 := hD3 a.1 (fst_mem ha)
    have ha9 : a.2 < 1000 := Nat.lt_of_lt_of_le q3 (Nat.le_trans hDl (by decide))
    obtain ⟨vr, hvr, hor⟩ := hD.at a.2 a.1 q1
    obtain ⟨t8, hv8⟩ := hor
    subst hv8
    have hin' : BV (octs a.1) (Value.bytes (octs a.1).toArray t8) := ⟨t8, rfl⟩
    k_steps
    all_goals (simp [pDue, memD, ← fm2, *]; done)
  case turnf =>
    intro a v I oI C oC Dx ysx m₂ h tk E' ha hin hC hx F' N' off ne
    simp only [LCg.Off3, and_true] at off
    obtain ⟨t9, hv9⟩ := hin
    subst hv9
    obtain ⟨q1, q2, q3⟩ := zipIdx_at ha
    have ha9 : a.2 < 1000 := Nat.lt_of_lt_of_le q3 (Nat.le_trans hDl (by decide))
    obtain ⟨vr, hvr, hor⟩ := hyse.at a.2 a q2
    k_steps
    exact hor
  case finf =>
  intro ysf hysf
  have hWf := Rel.unmap (R := BV) (f := spell) hysf
  k_steps
  revert D LD ys zs hD hDl hD3 hLD hLl hL3 ks hDB hLB hzl hyl hks hKB yse hyse hWe hseE hyE hz9 e3 ysf hysf hWf
  repeat (rename _ => x9; revert x9)
  intro q0
  exact q0.out
set_option maxHeartbeats 0 in
theorem part9 : cut8.A := by
  (w_top off; have hfill : PySem.Challenge.rw_kq0048_01 = PySem.Challenge.rw_kq0048_01 ∧ hd.heap_39 = hd.heap_39 := by (k_fill; exact ⟨rfl, rfl⟩))
  clear hfill
  intro x9
  set_option tactic.hygienic false in intros
  walk_at "sp sweep"
  unfold Stop
  k_dflt (refine LCg.ListComp_U (F₀ := by k_asm) (by with_unfolding_all rfl) (by decide) (by rfl) (by decide) (by rfl) ?_)
  k_steps
  unfold Stop
  k_dflt (refine LCg.CompSrc.ledger (by rfl) (by k_asm) (by k_asm) (by k_mem) ?hszg ?_)
  case hszg => exact sz_rel hLD hLl (by decide)
  intro gg
  k_dflt (refine rest_gen LD (OV) (fun d v => BV (w3 d) v) (hP_rel hLD) ?hSg ?turng ?fing _ (by have := hLD.length; simpa using this))
  case hSg => exact Or.inr ⟨_, by k_mem, rfl, _, rfl⟩
  case turng =>
    intro a v I oI C oC Dx ysx m₂ h tk E' ha hin hC hx F' N' off ne
    simp only [LCg.Off3, and_true] at off
    have ha3 : a.length ≤ 3 := hL3 a ha
    obtain ⟨t9, hv9⟩ := hin
    subst hv9
    k_steps
    exact ⟨_, rfl⟩
  case fing =>
  intro ysg hysg
  have hWg := Rel.unmap (R := BV) (f := w3) hysg
  k_steps
  unfold Stop
  k_dflt (refine LCg.ListComp_U (F₀ := by k_asm) (by with_unfolding_all rfl) (by decide) (by rfl) (by decide) (by rfl) ?_)
  k_steps
  unfold Stop
  k_dflt (refine LCg.CompSrc.ledger (by rfl) (by k_asm) (by k_asm) (by k_mem) ?hszh ?_)
  case hszh => exact sz_rel hyse hz9 (by decide)
  intro gh
  k_dflt (refine rest_gen D.zipIdx (fun a v => BV (spell a) v) (fun a v => OV a.1 v) (hP_rel hyse) ?hSh ?turnh ?finh _ (by have := hyse.length; simpa using this))
  case hSh => exact Or.inr ⟨_, by k_mem, rfl, _, rfl⟩
  case turnh =>
    intro a v I oI C oC Dx ysx m₂ h tk E' ha hin hC hx F' N' off ne
    simp only [LCg.Off3, and_true] at off
    obtain ⟨d, k⟩ := a
    have ha3 : d.length ≤ 3 := hD3 d (fst_mem ha)
    obtain ⟨t9, hv9⟩ := hin
    subst hv9
    k_steps
    assumption
  case finh =>
  intro ysh hysh
  have hWh := fst_rel hysh
  k_steps
theorem law_holds : PySem.Challenge.rw_kq0048_01.Holds :=
  cut1.h ⟨cut2.h ⟨cut3.h ⟨cut4.h ⟨cut5.h ⟨turn0⟩ ⟨turn1⟩ ⟨turn2⟩⟩ ⟨cut6.h ⟨cut7.h ⟨cut8.h ⟨part9⟩⟩⟩⟩⟩⟩⟩
end
end Mine
theorem PySem.Challenge.cw_kq0048_01_holds : PySem.Challenge.rw_kq0048_01.Holds :=
  Mine.law_holds
