import PyProof.Rows.All
import Wide.All
import OpenK.AllK
import Wide.FinOn
import Lean
import PySem.Challenge.RW_pk0092_02
open PySem PySem.W PyProof.Rows PySem.Calls
set_option Elab.async false
section Hd02_part
open PySem PySem.W PyProof.Rows
set_option Elab.async false
set_option maxRecDepth 100000
set_option maxHeartbeats 8000000
namespace Mine
open_top hd for PySem.Challenge.rw_pk0092_02
end Mine

namespace Mine
theorem w_top_is_off : True := by
  w_top off
  trivial
end Mine
end Hd02_part

section PureTx_part
open PySem PySem.W PyProof.Rows PySem.Calls
namespace Mine
/-- a text by its signs' numbers -/
def tx (l : List Nat) : Str := ⟨l.toArray⟩
theorem tx_cps (l : List Nat) : (tx l).cps.toList = l := by simp [tx]
theorem tx_len (l : List Nat) : (tx l).length = l.length := by simp [tx, Str.length]
theorem tx_of (x : Str) : x = tx x.cps.toList := by cases x; simp [tx]
theorem tx_inj {a b : List Nat} : tx a = tx b ↔ a = b := by
  constructor
  · intro h
    have h1 : (tx a).cps.toList = (tx b).cps.toList := by rw [h]
    rwa [tx_cps, tx_cps] at h1
  · intro h; rw [h]
theorem tx_beq {a b : List Nat} : (tx a == tx b) = (a == b) := by
  rw [Bool.eq_iff_iff, beq_iff_eq, beq_iff_eq]; exact tx_inj
theorem tx_app (a b : List Nat) : tx a ++ tx b = tx (a ++ b) := by
  apply Str.ext'
  rw [Str.cps_append]
  simp [tx]
theorem tx_from {l : List Nat} {k : Int} (h0 : 0 ≤ k) : Txt.slice (tx l) (some k) none = tx (l.drop k.toNat) := by
  by_cases h : k ≤ ((tx l).length : Int)
  · rw [slice_from_eq h0 h rfl, tx_cps]
    show tx _ = _
    rw [tx_inj]
    rw [List.take_of_length_le]
    rw [List.length_drop, tx_len]; omega
  · rw [slice_beyond (by omega)]
    rw [tx_len] at h
    rw [List.drop_eq_nil_of_le (by omega)]
    rfl
theorem tx_nn {l : List Nat} : Txt.slice (tx l) none none = tx l := by
  have h : Txt.slice (tx l) none none = Txt.slice (tx l) (some 0) none := by
    show StrLaws.sliceText _ _ _ = StrLaws.sliceText _ _ _
    unfold StrLaws.sliceText
    rw [StrLaws.sliceIdx_none_lo]
  rw [h, tx_from (by omega)]
  rfl
theorem tx_to {l : List Nat} {k : Int} (h0 : 0 ≤ k) (h1 : k ≤ (l.length : Int)) : Txt.slice (tx l) none (some k) = tx (l.take k.toNat) := by
  have h := beq_iff_eq.mp (slice_closes_toL (x := tx l) h0 (by rw [tx_len]; exact h1))
  rw [h, tx_cps]
  show tx _ = _
  rw [tx_inj]
  simp
theorem tx_to_neg {l : List Nat} {k : Int} (h0 : k < 0) (h1 : -(l.length : Int) ≤ k) : Txt.slice (tx l) none (some k) = tx (l.take (l.length - k.natAbs)) := by
  show StrLaws.sliceText _ _ _ = _
  rw [StrLaws.sliceText_to_neg h0 (by rw [tx_len]; exact h1), tx_cps, tx_len]
  show tx _ = _
  rw [tx_inj, List.drop_zero]
  congr 1
  omega
theorem tx_ss {l : List Nat} {i j : Int} (h0 : 0 ≤ i) (h1 : i ≤ j) (h2 : j ≤ (l.length : Int)) : Txt.slice (tx l) (some i) (some j) = tx ((l.drop i.toNat).take (j - i).toNat) := by
  have h := beq_iff_eq.mp (slice_closesL (x := tx l) h0 h1 (by rw [tx_len]; exact h2))
  rw [h, tx_cps]
  rfl
theorem tx_item {l : List Nat} {k : Int} {c : Nat} (h0 : 0 ≤ k) (h1 : l[k.toNat]? = some c) : Txt.item (tx l) k = tx [c] := by
  unfold Txt.item Txt.charAt
  rw [StrLaws.at_nonneg h0 (by rw [← Array.getElem?_toList, tx_cps]; exact h1)]
  rfl
theorem tx_item_neg {l : List Nat} {k : Int} {c : Nat} (h0 : k < 0) (h1 : -(l.length : Int) ≤ k) (hc : l[l.length - k.natAbs]? = some c) : Txt.item (tx l) k = tx [c] := by
  unfold Txt.item Txt.charAt
  rw [StrLaws.seqIndex_neg h0 (by rw [tx_len]; exact h1), tx_len]
  have e : (k + (l.length : Int)).toNat = l.length - k.natAbs := by omega
  rw [e]
  show Str.mk #[((tx l).cps[l.length - k.natAbs]?).getD 0] = _
  rw [← Array.getElem?_toList, tx_cps, hc]
  rfl
end Mine
end PureTx_part

section PureLev_part
open PySem PySem.W PyProof.Rows PySem.Calls
namespace Mine
def strip : List Nat → List Nat → List Nat × List Nat
  | x :: a, y :: b => if x = y then strip a b else (x :: a, y :: b)
  | a, b => (a, b)
def stripE (a b : List Nat) : List Nat × List Nat :=
  ((strip a.reverse b.reverse).1.reverse, (strip a.reverse b.reverse).2.reverse)
def lo2 (c : Nat) : Nat := if 65 ≤ c ∧ c ≤ 90 then c + 32 else c
def cost (x y : Nat) : Int := if x = y then 0 else if lo2 x = lo2 y then 1 else 2
/-- one row: what is written, the last result, the least -/
def inn (bc : Nat) : List Nat → List Int → Int → Int → Int → List Int × Int × Int
  | a :: as, r :: rs, d, res, mn =>
    let res' := min (min res r + 2) (d + cost bc a)
    let q := inn bc as rs r res' (if res' < mn then res' else mn)
    (res' :: q.1, q.2)
  | _, _, _, res, mn => ([], res, mn)
def outr (as : List Nat) (mx : Int) : List Nat → Int → List Int → Int → Int
  | [], _, _, res => res
  | bc :: bs, i, row, _ =>
    let q := inn bc as row (i * 2) (i * 2) 9223372036854775807
    if q.2.2 > mx then mx + 1 else outr as mx bs (i + 1) q.1 q.2.1
def row0 (n : Nat) : List Int := (List.range n).map fun (i : Nat) => 2 * ((i : Int) + 1)
def core (a b : List Nat) (mx : Int) : Int :=
  if ((b.length : Int) - a.length) * 2 > mx then mx + 1 else outr a mx b 0 (row0 a.length) 0
def mid (a b : List Nat) (mx : Int) : Int :=
  if a = [] ∨ b = [] then 2 * ((a.length : Int) + b.length)
  else if a.length > 40 ∨ b.length > 40 then mx + 1
  else if b.length < a.length then core b a mx else core a b mx
def lev (a b : List Nat) (mx : Int) : Int :=
  if a = b then 0 else
    let p := strip a b
    let q := stripE p.1 p.2
    mid q.1 q.2 mx

theorem strip_of {a b : List Nat} {k : Nat} (h : a.take k = b.take k) (ha : k ≤ a.length) (hb : k ≤ b.length)
    (e : a.drop k = [] ∨ b.drop k = [] ∨ a[k]? ≠ b[k]?) : strip a b = (a.drop k, b.drop k) := by
  induction k generalizing a b with
  | zero =>
    simp only [List.drop_zero] at e ⊢
    cases a with
    | nil => cases b <;> rfl
    | cons x a =>
      cases b with
      | nil => rfl
      | cons y b =>
        rcases e with e | e | e
        · cases e
        · cases e
        · simp only [List.getElem?_cons_zero, ne_eq, Option.some.injEq] at e
          simp [strip, e]
  | succ k ih =>
    cases a with
    | nil => simp at ha
    | cons x a =>
      cases b with
      | nil => simp at hb
      | cons y b =>
        simp only [List.take_succ_cons, List.cons.injEq] at h
        obtain ⟨rfl, h⟩ := h
        simp only [strip, if_true, List.drop_succ_cons]
        simp only [List.length_cons, Nat.add_le_add_iff_right] at ha hb
        exact ih h ha hb (by simpa only [List.drop_succ_cons, List.getElem?_cons_succ] using e)

theorem stripE_of {a b : List Nat} {j : Nat} (ha : j ≤ a.length) (hb : j ≤ b.length) (h : a.drop (a.length - j) = b.drop (b.length - j))
    (e : a.take (a.length - j) = [] ∨ b.take (b.length - j) = [] ∨ a[a.length - j - 1]? ≠ b[b.length - j - 1]?) :
    stripE a b = (a.take (a.length - j), b.take (b.length - j)) := by
  have h1 : a.reverse.take j = b.reverse.take j := by
    rw [List.take_reverse, List.take_reverse, h]
  have da : a.reverse.drop j = (a.take (a.length - j)).reverse := by rw [List.drop_reverse]
  have db : b.reverse.drop j = (b.take (b.length - j)).reverse := by rw [List.drop_reverse]
  have e1 : a.reverse.drop j = [] ∨ b.reverse.drop j = [] ∨ a.reverse[j]? ≠ b.reverse[j]? := by
    rw [da, db]
    by_cases qa : a.take (a.length - j) = []
    · left; rw [qa]; rfl
    by_cases qb : b.take (b.length - j) = []
    · right; left; rw [qb]; rfl
    right; right
    have la : j < a.length := by
      rcases Nat.lt_or_ge j a.length with q | q
      · exact q
      · exfalso; apply qa; have : a.length - j = 0 := by omega
        rw [this]; rfl
    have lb : j < b.length := by
      rcases Nat.lt_or_ge j b.length with q | q
      · exact q
      · exfalso; apply qb; have : b.length - j = 0 := by omega
        rw [this]; rfl
    rw [List.getElem?_reverse la, List.getElem?_reverse lb]
    rcases e with e | e | e
    · exact absurd e qa
    · exact absurd e qb
    · have x1 : a.length - 1 - j = a.length - j - 1 := by omega
      have x2 : b.length - 1 - j = b.length - j - 1 := by omega
      rw [x1, x2]; exact e
  unfold stripE
  rw [strip_of h1 (by simpa using ha) (by simpa using hb) e1, da, db]
  simp

theorem tx_lower {c : Nat} (h : c < 128) : Txt.lower (tx [c]) = tx [lo2 c] := by
  rw [lower_ascii (by rw [tx_cps]; intro d hd; rw [List.mem_singleton.mp hd]; exact h)]
  simp [tx, lo1, lo2]
theorem intIs {a b : Int} {t : Tok} (h : a = b) : ∃ t', Value.int a t = Value.int b t' := ⟨t, by rw [h]⟩
theorem cost_end1 {x y : Nat} (h : (tx [x] == tx [y]) = true) : (0 : Int) = cost x y := by
  rw [tx_beq] at h; simp at h; simp [cost, h]
theorem cost_end2 {x y : Nat} (hx : x < 128) (hy : y < 128) (h : (tx [x] == tx [y]) = false) (h2 : (Txt.lower (tx [x]) == Txt.lower (tx [y])) = true) : (1 : Int) = cost x y := by
  rw [tx_beq] at h; rw [tx_lower hx, tx_lower hy, tx_beq] at h2; simp at h h2; simp [cost, h, h2]
theorem cost_end3 {x y : Nat} (hx : x < 128) (hy : y < 128) (h : (tx [x] == tx [y]) = false) (h2 : (Txt.lower (tx [x]) == Txt.lower (tx [y])) = false) : (2 : Int) = cost x y := by
  rw [tx_beq] at h; rw [tx_lower hx, tx_lower hy, tx_beq] at h2; simp at h h2; simp [cost, h, h2]
theorem cost_le (x y : Nat) : 0 ≤ cost x y ∧ cost x y ≤ 2 := by unfold cost; split <;> (try split) <;> omega
end Mine
end PureLev_part

section Kit_part
open PySem PySem.W PyProof.Rows PySem.Calls
namespace Mine
theorem fr_canon {h₀ h : Heap} {L : Addr} {m : Str → Option Value} (ps : List (Str × Value)) (F : Fr h₀ L h m) (hm : ∀ p ∈ ps, m p.1 = some p.2) : Fr h₀ L h (kstB m ps) := by
  have e : kstB m ps = m := by
    funext z
    exact kstB_eq hm fun _ => rfl
  rw [e]; exact F
def Mid (h₀ : Heap) (L : Addr) (s : Shared) (P : (Str → Option Value) → List (Addr × Obj) → Prop) (f : Flow) (s' : Shared) : Prop :=
  f = .next ∧ ∃ (h' : Heap) (tk : Nat) (m' : Str → Option Value) (news' : List (Addr × Obj)), s' = { s with heap := h', toks := tk } ∧ Fr h₀ L h' m' ∧ News h₀ L h' news' ∧ P m' news'
theorem Mid.intro {h₀ h' : Heap} {L : Addr} {s : Shared} {tk : Nat} {P : (Str → Option Value) → List (Addr × Obj) → Prop} {m' : Str → Option Value} {news' : List (Addr × Obj)} (F : Fr h₀ L h' m') (N : News h₀ L h' news') (hp : P m' news') :
    Mid h₀ L s P .next { s with heap := h', toks := tk } := ⟨rfl, h', tk, m', news', rfl, F, N, hp⟩
theorem wp_mid {M : Model} {A : Around} {t : Sem Flow} {Q : Flow → Shared → Prop} {E : Value → Shared → Prop} {s : Shared} {h₀ : Heap} {L : Addr} {m₀ : Str → Option Value} (_F : Fr h₀ L s.heap m₀) (P : (Str → Option Value) → List (Addr × Obj) → Prop)
    (h : wpAny M A t (Mid h₀ L s P) E s)
    (k : ∀ (h' : Heap) (tk : Nat) (m' : Str → Option Value) (news' : List (Addr × Obj)), Fr h₀ L h' m' → News h₀ L h' news' → P m' news' → Q .next { s with heap := h', toks := tk }) : wpAny M A t Q E s := by
  refine wpAny_mono h ?_ fun _ _ h => h
  rintro f s' ⟨rfl, h', tk, m', news', rfl, F, N, hp⟩
  exact k h' tk m' news' F N hp
/-- A call's contract, for any caller. -/
abbrev Ctr (prog : Program) (w : World) (K : Frag) (p : Program) (loose : List Str) (mean : ExcName → Option Value) (mg mb : Str → Option Value)
    (k : Nat) (f : Addr) (vs : List Value) (news : List (Addr × Obj)) (R : Value → List (Addr × Obj) → Prop) : Prop :=
  ∀ (dp un : Nat) (gd : Option (List Code)) (cn : Str) (cs : Scope) (a : Addr) (ccd : Value) (cl : List (Str × Addr)) (outer : List Env) (A₀ : Around) (base h₀ : Heap) (L : Addr) (m : Str → Option Value) (s : Shared) (Q E : Value → Shared → Prop),
    Below A₀ base outer h₀ → Fr h₀ L s.heap m → K.In h₀ → News h₀ L s.heap news → Top p loose mean mg mb h₀ → cs.kind = .function →
    dp + k < recursionLimit → un + 8 * k < cLine →
    (∀ (v : Value) (news' : List (Addr × Obj)) (h' : Heap) (tk' : Nat), Fr h₀ L h' m → News h₀ L h' news' → R v news' → Q v { s with heap := h', toks := tk' }) →
    wpAny (model prog w) (ktrTop dp un gd cn cs L a ccd cl outer) (call (.ref f) vs) Q E s
theorem ctr_use {prog : Program} {w : World} {K : Frag} {p : Program} {loose : List Str} {mean : ExcName → Option Value} {mg mb : Str → Option Value}
    {k : Nat} {f : Addr} {vs : List Value} {news : List (Addr × Obj)} {R : Value → List (Addr × Obj) → Prop}
    {dp un : Nat} {gd : Option (List Code)} {cn : Str} {cs : Scope} {a : Addr} {ccd : Value} {cl : List (Str × Addr)} {outer : List Env} {A₀ : Around} {base h₀ : Heap} {L : Addr} {m : Str → Option Value} {s : Shared} {Q E : Value → Shared → Prop}
    (C : Ctr prog w K p loose mean mg mb k f vs news R)
    (B : Below A₀ base outer h₀) (F : Fr h₀ L s.heap m) (X : K.In h₀) (N : News h₀ L s.heap news) (T : Top p loose mean mg mb h₀) (hk : cs.kind = .function)
    (hd : dp + k < recursionLimit) (hu : un + 8 * k < cLine)
    (h : ∀ (v : Value) (news' : List (Addr × Obj)) (h' : Heap) (tk' : Nat), Fr h₀ L h' m → News h₀ L h' news' → R v news' → Q v { s with heap := h', toks := tk' }) :
    wpAny (model prog w) (ktrTop dp un gd cn cs L a ccd cl outer) (call (.ref f) vs) Q E s := C _ _ _ _ _ _ _ _ _ _ _ _ _ _ _ _ _ B F X N T hk hd hu h
/-- the function's body, its end as a letter: all that is behind it stands in one place -/
theorem wp_retF {M : Model} {A : Around} {t : Sem Flow} {Q : Flow → Shared → Prop} {E : Value → Shared → Prop} {s : Shared} {g : Heap} {L : Addr} {m : Str → Option Value} (_F : Fr g L s.heap m) (P : Value → List (Addr × Obj) → Prop)
    (hq : ∀ v news' h' tk m', Fr g L h' m' → News g L h' news' → P v news' → Q (.ret v) { s with heap := h', toks := tk })
    (h : ∀ P' : Flow → Shared → Prop, (∀ v news' h' tk m', Fr g L h' m' → News g L h' news' → P v news' → P' (.ret v) { s with heap := h', toks := tk }) → wpAny M A t P' (fun _ _ => False) s) : wpAny M A t Q E s := by
  refine wpAny_mono (h (fun fl s' => ∃ v news' h' tk m', fl = .ret v ∧ s' = { s with heap := h', toks := tk } ∧ Fr g L h' m' ∧ News g L h' news' ∧ P v news') fun v news' h' tk m' F N p => ⟨v, news', h', tk, m', rfl, rfl, F, N, p⟩) ?_ fun _ _ h => h.elim
  rintro f s' ⟨v, news', h', tk, m', rfl, rfl, F, N, p⟩
  exact hq v news' h' tk m' F N p
end Mine
end Kit_part

section Enter_part
open PySem PySem.W PyProof.Rows PySem.Calls
namespace Mine
/-- everything that stands in h, but at the addresses of l, stands in g -/
def Holds2 (h g : Heap) (l : List (Addr × Obj)) : Prop := ∀ b o, b ∉ l.map (·.1) → h.get? b = some o → g.get? b = some o
theorem holds_hide (h : Heap) (l : List (Addr × Obj)) : Holds2 h (hideAll h (l.map (·.1))) l := fun _ _ hb e => hideAll_get _ e hb
section
variable {prog : Program} {w : World} {A₀ A : Around} {s : Shared} {base h₀ : Heap} {outer : List Env} {L : Addr} {m : Str → Option Value} {env : Env} {news : List (Addr × Obj)}
  {R : Result → Shared → Prop} {name qual : Str} {params : Arguments} {body : List Stmt} {scope : Scope} {cl : List (Str × Addr)} {dV kV doc pm cdv ct : Value} {an : Option Addr} {fo : Obj} {f : Addr} {args : Args} {binds : List (Str × Value)}
theorem enterY (B : Below A₀ base outer h₀) (F : Fr h₀ L s.heap m) (N : News h₀ L s.heap news) (hlim : h₀.NoLimit) (hA : A.frames = some (env :: outer)) (hf : env.frame = some L) (hke : env.scope.kind = .function)
    (ho : s.heap.get? f = some fo) (hd : fo.data = .func (fnX name qual params body scope cl dV kV doc pm an cdv ct)) (hcd : s.heap.CodeRec cdv qual) (hroom : A.depth < recursionLimit)
    (hbind : BindsTo s (fnX name qual params body scope cl dV kV doc pm an cdv ct) args binds) (hloc : ∀ y ∈ binds, scope.names.lookup y.1 = some .local)
    (h : ∀ g L' h₁, Holds2 s.heap g news → Fr h₀ L g m → Fr g L' h₁ (fun y => binds.reverse.lookup y) → News g L' h₁ news → Below A base (env :: outer) g → h₀.StaysIn g → (∀ p ∈ news, p.1 < L') → s.heap.objs.size ≤ L' →
      wpAny (model prog w) (A.deeper (envX qual scope L' f cdv cl)) (execs body (envX qual scope L' f cdv cl))
        (fun fl s' => LeaveK h₀ L m g R (match fl with | .ret v => v | _ => .none) s')
        (fun e s' => wpAny (model prog w) (A.deeper (envX qual scope L' f cdv cl)) (leaving (envX qual scope L' f cdv cl) e) (fun _ s'' => R (.error e) s'') (fun e' s'' => R (.error e') s'') s')
        { s with heap := h₁, toks := s.toks + binds.length })
    (hcell : ∀ x ∈ scope.names, x.2 ≠ .cell) (hco : scope.isCoroutine = false := by rfl) (hgen : scope.isGenerator = false := by rfl) (hk : scope.kind = .function := by rfl) : codeAny (model prog w) A (.call (.ref f) args) R s := by
  obtain ⟨FG, BG, st, lv⟩ := groundX (R := R) B F N hA hf hke
  refine codeAny_call_def (fd := fnX name qual params body scope cl dV kV doc pm an cdv ct) (body := body) (binds := binds) hroom ho hd (hlim.keeps F.keep) hcd rfl hbind hcell hloc (fun h₁ hns hk₁ => ?_) hco hgen hk
  have F1 : Fr (hideAll s.heap (news.map (·.1))) s.heap.objs.size h₁ (fun y => binds.reverse.lookup y) := ⟨hns, fun b o e => hk₁ b o (of_hideAll _ e), Nat.le_of_eq (hideAll_size _ _)⟩
  have N1 : News (hideAll s.heap (news.map (·.1))) s.heap.objs.size h₁ news := fun p hp => ⟨hk₁ _ _ (N p hp).1, Nat.ne_of_lt (Heap.lt_size (N p hp).1), hideAll_none _ (List.mem_map_of_mem hp)⟩
  exact wpAny_mono (h _ s.heap.objs.size h₁ (holds_hide _ _) FG F1 N1 BG st (fun p hp => Heap.lt_size (N p hp).1) (Nat.le_refl _)) (fun fl s' hl => lv _ _ hl) fun _ _ y => y
theorem enterC (B : Below A₀ base outer h₀) (F : Fr h₀ L s.heap m) (N : News h₀ L s.heap news) (hlim : h₀.NoLimit) (hA : A.frames = some (env :: outer)) (hf : env.frame = some L) (hke : env.scope.kind = .function)
    (ho : s.heap.get? f = some fo) (hd : fo.data = .func (fnX name qual params body scope [] dV kV doc pm an cdv ct)) (hcd : s.heap.CodeRec cdv qual) (hroom : A.depth < recursionLimit)
    (hbind : BindsTo s (fnX name qual params body scope [] dV kV doc pm an cdv ct) args binds)
    (hkind : ∀ n, ∀ x ∈ binds, scope.names.lookup x.1 = some .local ∨ (scope.names.lookup x.1 = some .cell ∧ ((cellsFrom n scope.names []).lookup x.1).isSome = true))
    (hnd : ((cellsFrom 0 scope.names []).map (·.1)).Nodup)
    (h : ∀ g L' h₁ tk cells, Holds2 s.heap g news → Fr h₀ L g m → Fr g L' h₁ (bindL (envOfC qual scope L' f cdv).kindOf binds fun _ => none) → News g L' h₁ (cells ++ news) →
      CellsAre (bindC (envOfC qual scope L' f cdv).kindOf binds fun _ => none) (cellsFrom (L' + 1) scope.names []) cells → Below A base (env :: outer) g → h₀.StaysIn g → (∀ p ∈ news, p.1 < L') → s.heap.objs.size ≤ L' →
      wpAny (model prog w) (A.deeper (envOfC qual scope L' f cdv)) (execs body (envOfC qual scope L' f cdv))
        (fun fl s' => LeaveK h₀ L m g R (match fl with | .ret v => v | _ => .none) s')
        (fun e s' => wpAny (model prog w) (A.deeper (envOfC qual scope L' f cdv)) (leaving (envOfC qual scope L' f cdv) e) (fun _ s'' => R (.error e) s'') (fun e' s'' => R (.error e') s'') s')
        { s with heap := h₁, toks := tk })
    (hco : scope.isCoroutine = false := by rfl) (hgen : scope.isGenerator = false := by rfl) (hk : scope.kind = .function := by rfl) : codeAny (model prog w) A (.call (.ref f) args) R s := by
  obtain ⟨FG, BG, st, lv⟩ := groundX (R := R) B F N hA hf hke
  refine codeAny_call_function hroom ho hd hco hgen rfl hcd (hbind _ _ _ _ ?_)
  refine wpAny_newFunctionEnv_cells hk (hkind _) fun env' he s' x => ?_
  subst he
  refine ⟨(hlim.keeps F.keep).keeps x.toInCall.keep, codeAny_func ?_⟩
  obtain ⟨h₁, tk, rfl, _⟩ := x.done
  have hk₁ := x.toInCall.keep
  obtain ⟨cells, NC, Y⟩ := Cl.news (h₀ := s.heap) (Nat.le_refl _) fun n c hm => ⟨x.cell n c (lookup_of_mem_nodup (cellsFrom_names scope.names 0 (s.heap.objs.size + 1) [] [] rfl ▸ hnd) hm), x.above n c hm⟩
  have N1 : News (hideAll s.heap (news.map (·.1))) s.heap.objs.size h₁ (cells ++ news) := fun p hp => by
    rcases List.mem_append.mp hp with hp | hp
    · refine ⟨(NC p hp).1, (NC p hp).2.1, ?_⟩
      cases q : (hideAll s.heap (news.map (·.1))).get? p.1 with
      | none => rfl
      | some o => have := of_hideAll _ q; rw [(NC p hp).2.2] at this; cases this
    · exact ⟨hk₁ _ _ (N p hp).1, Nat.ne_of_lt (Heap.lt_size (N p hp).1), hideAll_none _ (List.mem_map_of_mem hp)⟩
  exact wpAny_mono (h _ s.heap.objs.size h₁ tk cells (holds_hide _ _) FG ⟨x.toInCall.ns, fun b o e => hk₁ b o (of_hideAll _ e), Nat.le_of_eq (hideAll_size _ _)⟩ N1 Y BG st (fun p hp => Heap.lt_size (N p hp).1) (Nat.le_refl _)) (fun fl s' hl => lv _ _ hl) fun _ _ y => y
end
end Mine
namespace Mine
section
variable {prog : Program} {w : World} {A A₀ : Around} {s : Shared} {K : Frag} {L : Addr} {h₀ base : Heap} {m mg mb : Str → Option Value} {news : List (Addr × Obj)} {p : Program} {loose : List Str} {mean : ExcName → Option Value}
theorem code_defY {env : Env} {outer : List Env} {R : Result → Shared → Prop} {name qual : Str} {params : Arguments} {body : List Stmt} {scope : Scope} {dV kV doc pm cdv ct oc : Value} {an od : Option Addr} {osl : Array (Option Value)} {f : Addr} {args : Args} {binds : List (Str × Value)}
    (B : Below A₀ base outer h₀) (F : Fr h₀ L s.heap m) (X₀ : K.In h₀) (N : News h₀ L s.heap news) (T : Top p loose mean mg mb h₀) (hA : A.frames = some (env :: outer)) (hf : env.frame = some L) (hke : env.scope.kind = .function)
    (ho : K.lookup f = some ⟨oc, od, .func (fnOf name qual params body scope dV kV doc pm an cdv ct), osl⟩) (hcd : codeIn K cdv qual = true) (hroom : A.depth < recursionLimit)
    (hbind : BindsTo s (fnOf name qual params body scope dV kV doc pm an cdv ct) args binds) (hloc : ∀ y ∈ binds, scope.names.lookup y.1 = some .local)
    (h : ∀ g L' h₁, Holds2 s.heap g news → Fr h₀ L g m → Fr g L' h₁ (fun y => binds.reverse.lookup y) → News g L' h₁ news → Below A base (env :: outer) g → K.In g → Top p loose mean mg mb g → (∀ p ∈ news, p.1 < L') → s.heap.objs.size ≤ L' →
      wpAny (model prog w) (A.deeper (envOf qual scope L' f cdv)) (execs body (envOf qual scope L' f cdv))
        (fun fl s' => LeaveK h₀ L m g R (match fl with | .ret v => v | _ => .none) s')
        (fun e s' => wpAny (model prog w) (A.deeper (envOf qual scope L' f cdv)) (leaving (envOf qual scope L' f cdv) e) (fun _ s'' => R (.error e) s'') (fun e' s'' => R (.error e') s'') s')
        { s with heap := h₁, toks := s.toks + binds.length })
    (hco : scope.isCoroutine = false) (hgen : scope.isGenerator = false) (hk : scope.kind = .function)
    (hcell : ∀ x ∈ scope.names, x.2 ≠ .cell) : codeAny (model prog w) A (.call (.ref f) args) R s :=
  enterY (cl := []) B F N T.nolimit hA hf hke ((X₀.keeps F.keep) _ _ ho) rfl (codeRec_of (X₀.keeps F.keep) hcd) hroom hbind hloc (fun g L' h₁ hg FG F' N' B' st l z => h g L' h₁ hg FG F' N' B' (X₀.keeps st) (T.keeps st) l z) hcell hco hgen hk
theorem code_defCY {env : Env} {outer : List Env} {R : Result → Shared → Prop} {name qual : Str} {params : Arguments} {body : List Stmt} {scope : Scope} {dV kV doc pm cdv ct oc : Value} {an od : Option Addr} {osl : Array (Option Value)} {f : Addr} {args : Args} {binds : List (Str × Value)}
    (B : Below A₀ base outer h₀) (F : Fr h₀ L s.heap m) (X₀ : K.In h₀) (N : News h₀ L s.heap news) (T : Top p loose mean mg mb h₀) (hA : A.frames = some (env :: outer)) (hf : env.frame = some L) (hke : env.scope.kind = .function)
    (ho : K.lookup f = some ⟨oc, od, .func (fnOf name qual params body scope dV kV doc pm an cdv ct), osl⟩) (hcd : codeIn K cdv qual = true) (hroom : A.depth < recursionLimit)
    (hbind : BindsTo s (fnOf name qual params body scope dV kV doc pm an cdv ct) args binds) (hkind : (binds.all fun y => scope.names.lookup y.1 == some .local || scope.names.lookup y.1 == some .cell) = true)
    (hnd : ((cellsFrom 0 scope.names []).map (·.1)).Nodup)
    (h : ∀ g L' h₁ tk cells, Holds2 s.heap g news → Fr h₀ L g m → Fr g L' h₁ (bindL (envOfC qual scope L' f cdv).kindOf binds fun _ => none) → News g L' h₁ (cells ++ news) →
      CellsAre (bindC (envOfC qual scope L' f cdv).kindOf binds fun _ => none) (cellsFrom (L' + 1) scope.names []) cells → Below A base (env :: outer) g → K.In g → Top p loose mean mg mb g → (∀ p ∈ news, p.1 < L') → s.heap.objs.size ≤ L' →
      wpAny (model prog w) (A.deeper (envOfC qual scope L' f cdv)) (execs body (envOfC qual scope L' f cdv))
        (fun fl s' => LeaveK h₀ L m g R (match fl with | .ret v => v | _ => .none) s')
        (fun e s' => wpAny (model prog w) (A.deeper (envOfC qual scope L' f cdv)) (leaving (envOfC qual scope L' f cdv) e) (fun _ s'' => R (.error e) s'') (fun e' s'' => R (.error e') s'') s')
        { s with heap := h₁, toks := tk })
    (hco : scope.isCoroutine = false) (hgen : scope.isGenerator = false) (hk : scope.kind = .function) : codeAny (model prog w) A (.call (.ref f) args) R s :=
  enterC B F N T.nolimit hA hf hke ((X₀.keeps F.keep) _ _ ho) rfl (codeRec_of (X₀.keeps F.keep) hcd) hroom hbind (kindsX hkind) hnd (fun g L' h₁ tk cells hg FG F' N' Y B' st l z => h g L' h₁ tk cells hg FG F' N' Y B' (X₀.keeps st) (T.keeps st) l z) hco hgen hk
theorem code_nestY {env : Env} {outer : List Env} {R : Result → Shared → Prop} {name qual : Str} {params : Arguments} {body : List Stmt} {scope : Scope} {cl : List (Str × Addr)} {doc pm ctv : Value} {c' : Addr} {f : Addr} {args : Args} {binds : List (Str × Value)}
    (B : Below A₀ base outer h₀) (F : Fr h₀ L s.heap m) (X₀ : K.In h₀) (N : News h₀ L s.heap news) (T : Top p loose mean mg mb h₀) (hA : A.frames = some (env :: outer)) (hf : env.frame = some L) (hke : env.scope.kind = .function)
    (ho : (f, fnMade name qual params body scope cl doc pm c' ctv) ∈ news) (hcd : s.heap.CodeRec (.ref c') qual) (hroom : A.depth < recursionLimit)
    (hbind : BindsTo s (fnX name qual params body scope cl .none .none doc pm none (.ref c') ctv) args binds) (hloc : ∀ y ∈ binds, scope.names.lookup y.1 = some .local)
    (h : ∀ g L' h₁, Holds2 s.heap g news → Fr h₀ L g m → Fr g L' h₁ (fun y => binds.reverse.lookup y) → News g L' h₁ news → Below A base (env :: outer) g → K.In g → Top p loose mean mg mb g → (∀ p ∈ news, p.1 < L') → s.heap.objs.size ≤ L' →
      wpAny (model prog w) (A.deeper (envX qual scope L' f (.ref c') cl)) (execs body (envX qual scope L' f (.ref c') cl))
        (fun fl s' => LeaveK h₀ L m g R (match fl with | .ret v => v | _ => .none) s')
        (fun e s' => wpAny (model prog w) (A.deeper (envX qual scope L' f (.ref c') cl)) (leaving (envX qual scope L' f (.ref c') cl) e) (fun _ s'' => R (.error e) s'') (fun e' s'' => R (.error e') s'') s')
        { s with heap := h₁, toks := s.toks + binds.length })
    (hco : scope.isCoroutine = false) (hgen : scope.isGenerator = false) (hk : scope.kind = .function)
    (hcell : ∀ x ∈ scope.names, x.2 ≠ .cell) : codeAny (model prog w) A (.call (.ref f) args) R s :=
  enterY (cl := cl) B F N T.nolimit hA hf hke (N _ ho).1 rfl hcd hroom hbind hloc (fun g L' h₁ hg FG F' N' B' st l z => h g L' h₁ hg FG F' N' B' (X₀.keeps st) (T.keeps st) l z) hcell hco hgen hk
end
/-- a call's contract with a frame: all that stands off the ledger stays -/
abbrev CtrF (prog : Program) (w : World) (K : Frag) (p : Program) (loose : List Str) (mean : ExcName → Option Value) (mg mb : Str → Option Value)
    (k : Nat) (f : Addr) (vs : List Value) (bc : Heap → Prop) (led : List (Addr × Obj)) (pre : Heap → Prop) (R : Heap → Value → List (Addr × Obj) → Heap → Prop) : Prop :=
  ∀ (dp un : Nat) (gd : Option (List Code)) (cn : Str) (cs : Scope) (a : Addr) (ccd : Value) (cl : List (Str × Addr)) (outer : List Env) (A₀ : Around) (base h₀ : Heap) (L : Addr) (m : Str → Option Value) (s : Shared) (Q E : Value → Shared → Prop),
    bc base → Below A₀ base outer h₀ → Fr h₀ L s.heap m → K.In h₀ → News h₀ L s.heap led → Top p loose mean mg mb h₀ → cs.kind = .function →
    dp + k < recursionLimit → un + 8 * k < cLine → pre s.heap →
    (∀ (v : Value) (led' : List (Addr × Obj)) (h' : Heap) (tk' : Nat), Fr h₀ L h' m → News h₀ L h' led' → Holds2 s.heap h' led → R s.heap v led' h' → Q v { s with heap := h', toks := tk' }) →
    wpAny (model prog w) (ktrTop dp un gd cn cs L a ccd cl outer) (call (.ref f) vs) Q E s
theorem ctrF_use {prog : Program} {w : World} {K : Frag} {p : Program} {loose : List Str} {mean : ExcName → Option Value} {mg mb : Str → Option Value}
    {k : Nat} {f : Addr} {vs : List Value} {bc : Heap → Prop} {led : List (Addr × Obj)} {pre : Heap → Prop} {R : Heap → Value → List (Addr × Obj) → Heap → Prop}
    {dp un : Nat} {gd : Option (List Code)} {cn : Str} {cs : Scope} {a : Addr} {ccd : Value} {cl : List (Str × Addr)} {outer : List Env} {A₀ : Around} {base h₀ : Heap} {L : Addr} {m : Str → Option Value} {s : Shared} {Q E : Value → Shared → Prop}
    (C : CtrF prog w K p loose mean mg mb k f vs bc led pre R) (hb : bc base)
    (B : Below A₀ base outer h₀) (F : Fr h₀ L s.heap m) (X : K.In h₀) (N : News h₀ L s.heap led) (T : Top p loose mean mg mb h₀) (hk : cs.kind = .function)
    (hd : dp + k < recursionLimit) (hu : un + 8 * k < cLine) (hp : pre s.heap)
    (h : ∀ (v : Value) (led' : List (Addr × Obj)) (h' : Heap) (tk' : Nat), Fr h₀ L h' m → News h₀ L h' led' → Holds2 s.heap h' led → R s.heap v led' h' → Q v { s with heap := h', toks := tk' }) :
    wpAny (model prog w) (ktrTop dp un gd cn cs L a ccd cl outer) (call (.ref f) vs) Q E s := C _ _ _ _ _ _ _ _ _ _ _ _ _ _ _ _ _ hb B F X N T hk hd hu hp h
/-- the table of a def that makes one def -/
def TabOk (line col : Nat) (qual : Str) (h : Heap) (ps : Array Value) : Prop :=
  ps = #[] ∨ ∃ c, ps = #[rawInt line, rawInt col, .ref c] ∧ h.CodeRec (.ref c) qual
theorem TabOk.keeps {line col : Nat} {qual : Str} {h h' : Heap} {ps : Array Value} (x : TabOk line col qual h ps) (k : ∀ c o, ps.toList.getLast? = some (.ref c) → h.get? c = some o → h'.get? c = some o) : TabOk line col qual h' ps := by
  rcases x with e | ⟨c, e, a, o, vs, t, h1, h2, h3, h4⟩
  · exact .inl e
  · refine .inr ⟨c, e, a, o, vs, t, h1, ?_, h3, h4⟩
    cases h1
    exact k c o (by rw [e]; rfl) h2
end Mine
namespace Mine
section
variable {M : Model} {A : Around} {E : Value → Shared → Prop} {s : Shared} {h₀ : Heap} {L a c P : Addr} {m mg mb : Str → Option Value} {cn : Str} {cs : Scope} {ccd : Value} {cl : List (Str × Addr)} {news rest : List (Addr × Obj)}
  {p : Program} {loose : List Str} {mean : ExcName → Option Value} {name qual : Str} {params : Arguments} {body : List Stmt} {scope : Scope} {ps : Array Value} {pos : Pos} {firstLine : Nat} {clos : List (Str × Addr)}
theorem nestAny {Q : Value → Shared → Prop} {g : Obj → List (Addr × Obj)} (F : Fr h₀ L s.heap m) (N : News h₀ L s.heap news) (U : UpdF P (tabObj ps) news g) (T : Top p loose mean mg mb h₀) (C : CodeHd h₀ c P) (hcd : ccd = .ref c) (hT : TabOk pos.line pos.col qual h₀ ps)
    (hcl : closureFor scope (envX cn cs L a ccd cl) = pure clos)
    (h : ∀ f c' ctv doc h' tk, Fr h₀ L h' m →
      News h₀ L h' ((f, fnMade name qual params body scope clos doc ((mg "__name__").getD .none) c' ctv) :: g (tabObj #[rawInt pos.line, rawInt pos.col, .ref c'])) →
      h'.CodeRec (.ref c') qual → (∀ q ∈ news, q.1 < f) → (ps = #[rawInt pos.line, rawInt pos.col, .ref c'] ∨ ∀ q ∈ news, q.1 < c') → Q (.ref f) { s with heap := h', toks := tk }) :
    wpAny M A (makeFunction name qual params (.stmts body) scope (envX cn cs L a ccd cl) [] [] [] pos firstLine) Q E s := by
  rcases hT with rfl | ⟨c₀, rfl, hrec⟩
  · refine nest_K F N T C hcd U trivial rfl hcl ?_
    intro f c' oc vs t ctv doc h' tk F' N' e1 e2 l1 l2
    refine h f c' ctv doc h' tk F' (fun q hq => ?_) ?_ (fun q hq => Nat.lt_trans (l1 q hq) l2) (.inr l1)
    · rcases List.mem_cons.mp hq with rfl | hq
      · exact N' _ (.head _)
      · exact N' q (.tail _ (.tail _ hq))
    · exact ⟨c', oc, vs, t, rfl, (N' (c', oc) (.tail _ (.head _))).1, e1, e2⟩
  · obtain ⟨own, rest, hl, hgr, h1, h2⟩ := U.split
    have hmem : (P, tabObj #[rawInt pos.line, rawInt pos.col, .ref c₀]) ∈ news := by rw [hl]; exact List.mem_append_right _ (.head _)
    refine nestHit_K (c' := c₀) F N T C hcd hmem (by simp [TriplesOk, rawInt]) (by simp [codeAmong, rawInt]) hcl ?_
    intro f ctv doc h' tk F' N' l1
    refine h f c₀ ctv doc h' tk F' ?_ (hrec.keeps F'.keep) l1 (.inl rfl)
    rw [hgr, ← hl]
    exact N'
/-- the table's state, seen from the callee's ground -/
theorem tabOk_in {line col : Nat} {h g : Heap} {h₁ : Heap} {L₁ : Addr} (N : News h₁ L₁ h news) (hm : (P, tabObj ps) ∈ news) (ha : news.map (·.1) = [P]) (x : TabOk line col qual h ps) (hg : Holds2 h g news) : TabOk line col qual g ps := by
  rcases x with e | ⟨c, e, b, o, vs, t, h1, h2, h3, h4⟩
  · exact .inl e
  · refine .inr ⟨c, e, b, o, vs, t, h1, hg b o ?_ h2, h3, h4⟩
    rw [ha]
    intro hb
    rw [List.mem_singleton.mp hb, (N _ hm).1] at h2
    cases h2
    cases h3
    subst e
    simp [rawInt] at h4
end
end Mine

namespace Mine
theorem led_name {h₀ h : Heap} {L f D l c3 c2 c1 : Addr} {fo od ol o3 o2 o1 : Obj} {x : List (Addr × Obj)} (_ : News h₀ L h ((f, fo) :: (D, od) :: (l, ol) :: (c3, o3) :: (c2, o2) :: (c1, o1) :: x)) :
    ∃ (fo' : Obj) (D' : Addr) (o3' o2' o1' : Obj), fo' = fo ∧ D' = D ∧ o3' = o3 ∧ o2' = o2 ∧ o1' = o1 := ⟨_, _, _, _, _, rfl, rfl, rfl, rfl, rfl⟩
end Mine
namespace Mine
section
variable {M : Model} {A : Around} {E : Value → Shared → Prop} {s : Shared} {h₀ : Heap} {L a : Addr} {m : Str → Option Value} {cn : Str} {cs : Scope} {ccd : Value} {cl : List (Str × Addr)}
  {x q : Str} {v : Value} {news : List (Addr × Obj)} {g : Obj → List (Addr × Obj)} {c c' : Addr} {o : Obj} {v₀ : Option Value}
theorem storeC_rec {Q : Unit → Shared → Prop} (F : Fr h₀ L s.heap m) (N : News h₀ L s.heap news) (hc : cl.lookup x = some c) (U : UpdF c o news g) (hd : o.data = .cell v₀) (hr : s.heap.CodeRec (.ref c') q)
    (h : ∀ h' o', Fr h₀ L h' m → News h₀ L h' (g o') → o'.data = .cell (some v) → h'.CodeRec (.ref c') q → Q () { s with heap := h' })
    (hk : cs.kind = .function := by rfl) (hx : (envX cn cs L a ccd cl).kindOf x = some .cell := by rfl) : wpAny M A (storeName (envX cn cs L a ccd cl) x v) Q E s := by
  obtain ⟨own, rest, rfl, hg, h1, h2⟩ := U.split
  have hmem := N (c, o) (List.mem_append_right _ (.head _))
  refine wpAny_storeName_cell hk hx hc ⟨o, hmem.1, hd⟩ fun h' hv hs => ?_
  obtain ⟨o', ho', hd'⟩ := hv
  refine h h' o' ⟨F.ns.sameBut hs (Ne.symm hmem.2.1), fun b ob e => (hs.2 b (fun q => ?_)).trans (F.keep b ob e), F.above⟩ (hg o' ▸ N.setAt h1 h2 hs ho') hd' ?_
  · rw [q, hmem.2.2] at e; cases e
  · obtain ⟨b, ob, vs, t, e1, e2, e3, e4⟩ := hr
    refine ⟨b, ob, vs, t, e1, (hs.2 b (fun e => ?_)).trans e2, e3, e4⟩
    rw [e, hmem.1] at e2
    cases e2
    rw [hd] at e3; cases e3
end
end Mine
namespace Mine
theorem news_pick5 {h₀ h : Heap} {L f D l : Addr} {fo od ol : Obj} {e3 e2 e1 : Addr × Obj} {x : List (Addr × Obj)} (N : News h₀ L h ((f, fo) :: (D, od) :: (l, ol) :: e3 :: e2 :: e1 :: x)) : News h₀ L h [(D, od), (f, fo), e3, e2, e1] :=
  List.forall_mem_cons.mpr ⟨N _ (.tail _ (.head _)), List.forall_mem_cons.mpr ⟨N _ (.head _), List.forall_mem_cons.mpr ⟨N _ (.tail _ (.tail _ (.tail _ (.head _)))), List.forall_mem_cons.mpr ⟨N _ (.tail _ (.tail _ (.tail _ (.tail _ (.head _))))), List.forall_mem_cons.mpr ⟨N _ (.tail _ (.tail _ (.tail _ (.tail _ (.tail _ (.head _)))))), List.forall_mem_nil _⟩⟩⟩⟩⟩
end Mine
namespace Mine
theorem news_cons {h₀ h : Heap} {L : Addr} {e : Addr × Obj} {l : List (Addr × Obj)} (h1 : News h₀ L h [e]) (h2 : News h₀ L h l) : News h₀ L h (e :: l) :=
  List.forall_mem_cons.mpr ⟨h1 _ (.head _), h2⟩
theorem news_held {h₀ h h' : Heap} {L : Addr} {e : Addr × Obj} {l led : List (Addr × Obj)} (N : News h₀ L h l) (hm : e ∈ l) (hn : e.1 ∉ led.map (·.1)) (k : Holds2 h h' led) : News h₀ L h' [e] := fun q hq => by
  rw [List.mem_singleton.mp hq]
  exact ⟨k _ _ hn (N e hm).1, (N e hm).2⟩
end Mine
namespace Mine
theorem tabOk_off {line col : Nat} {qual : Str} {h g h₁ : Heap} {L₁ : Addr} {led : List (Addr × Obj)} {ps : Array Value} (N : News h₁ L₁ h led) (hd : ∀ p ∈ led, ∀ vs, p.2.data = .fields vs → ∀ q t, vs[1]? ≠ some (.str q t)) (x : TabOk line col qual h ps) (hg : Holds2 h g led) : TabOk line col qual g ps := by
  rcases x with e | ⟨c, e, b, o, vs, t, h1, h2, h3, h4⟩
  · exact .inl e
  · refine .inr ⟨c, e, b, o, vs, t, h1, hg b o (fun hb => ?_) h2, h3, h4⟩
    obtain ⟨p, hp, e2⟩ := List.mem_map.mp hb
    have e3 := (N p hp).1
    rw [e2, h2] at e3
    cases e3
    exact hd p hp vs h3 _ _ h4
theorem tab_noStr {line col : Nat} {qual : Str} {h : Heap} {ps : Array Value} (x : TabOk line col qual h ps) : ∀ vs, (tabObj ps).data = .fields vs → ∀ q t, vs[1]? ≠ some (.str q t) := by
  intro vs e q t
  cases e
  rcases x with e | ⟨c, e, _⟩ <;> subst e <;> simp [rawInt]
end Mine
namespace Mine
theorem led_name3 {h₀ h : Heap} {L f c3 c2 c1 : Addr} {fo o3 o2 o1 : Obj} {x : List (Addr × Obj)} (_ : News h₀ L h ((f, fo) :: (c3, o3) :: (c2, o2) :: (c1, o1) :: x)) :
    ∃ (fo' o3' o2' o1' : Obj), fo' = fo ∧ o3' = o3 ∧ o2' = o2 ∧ o1' = o1 := ⟨_, _, _, _, rfl, rfl, rfl, rfl⟩
theorem news_pick5b {h₀ h : Heap} {L : Addr} {e1 e2 e3 e4 e5 : Addr × Obj} {x : List (Addr × Obj)} (N : News h₀ L h (e1 :: e2 :: e3 :: e4 :: e5 :: x)) : News h₀ L h [e1, e2, e3, e4, e5] :=
  List.forall_mem_cons.mpr ⟨N _ (.head _), List.forall_mem_cons.mpr ⟨N _ (.tail _ (.head _)), List.forall_mem_cons.mpr ⟨N _ (.tail _ (.tail _ (.head _))), List.forall_mem_cons.mpr ⟨N _ (.tail _ (.tail _ (.tail _ (.head _)))), List.forall_mem_cons.mpr ⟨N _ (.tail _ (.tail _ (.tail _ (.tail _ (.head _))))), List.forall_mem_nil _⟩⟩⟩⟩⟩
end Mine

namespace Mine
/-- behind the def: the table has its code; it is the one that it had, or a new one -/
def TabMade (line col : Nat) (qual : Str) (h h' : Heap) (ps ps' : Array Value) : Prop :=
  ∃ c, ps' = #[rawInt line, rawInt col, .ref c] ∧ h'.CodeRec (.ref c) qual ∧ (ps = ps' ∨ h.objs.size ≤ c)
end Mine
namespace Mine
/-- the table's state, its code in the ledger's part ex -/
def TabE (line col : Nat) (qual : Str) (ps : Array Value) (ex : List (Addr × Obj)) : Prop :=
  ps = #[] ∨ ∃ c oc vs t, ps = #[rawInt line, rawInt col, .ref c] ∧ (c, oc) ∈ ex ∧ oc.data = .fields vs ∧ vs[1]? = some (.str qual t)
section
variable {line col : Nat} {qual : Str} {ps ps' : Array Value} {ex ex' led : List (Addr × Obj)} {g h h' : Heap} {L : Addr} {m : Str → Option Value}
theorem TabE.ok (x : TabE line col qual ps ex) (N : News g L h ex) : TabOk line col qual h ps := by
  rcases x with e | ⟨c, oc, vs, t, e, hm, h1, h2⟩
  · exact .inl e
  · exact .inr ⟨c, e, c, oc, vs, t, rfl, (N _ hm).1, h1, h2⟩
theorem TabE.mono (x : TabE line col qual ps ex) (hs : ∀ p ∈ ex, p ∈ ex') : TabE line col qual ps ex' := by
  rcases x with e | ⟨c, oc, vs, t, e, hm, h1, h2⟩
  · exact .inl e
  · exact .inr ⟨c, oc, vs, t, e, hs _ hm, h1, h2⟩
theorem tabE_step (F : Fr g L h m) (Nx : News g L h ex) (hoff : ∀ p ∈ ex, p.1 ∉ led.map (·.1)) (hh : Holds2 h h' led) (x : TabE line col qual ps ex) (y : TabMade line col qual h h' ps ps') :
    ∃ ex', (∀ p ∈ ex, p ∈ ex') ∧ News g L h' ex' ∧ TabE line col qual ps' ex' ∧ (∀ p ∈ ex', p ∈ ex ∨ (h.objs.size ≤ p.1 ∧ ∃ vs, p.2.data = .fields vs)) := by
  have N1 : News g L h' ex := fun p hp => ⟨hh _ _ (hoff p hp) (Nx p hp).1, (Nx p hp).2⟩
  obtain ⟨c, e, hr, hf⟩ := y
  rcases hf with hf | hf
  · exact ⟨ex, fun _ hp => hp, N1, hf ▸ x, fun _ hp => .inl hp⟩
  · obtain ⟨b, o, vs, t, h1, h2, h3, h4⟩ := hr
    cases h1
    refine ⟨(c, o) :: ex, fun _ hp => .tail _ hp, news_cons (fun q hq => ?_) N1, .inr ⟨c, o, vs, t, e, .head _, h3, h4⟩, fun p hp => ?_⟩
    · rw [List.mem_singleton.mp hq]
      refine ⟨h2, fun e => ?_, ?_⟩
      · have := F.ns.lt; rw [← e] at this; exact absurd this (Nat.not_lt.mpr hf)
      · cases q : g.get? c with
        | none => rfl
        | some o' => exact absurd (Heap.lt_size (F.keep _ _ q)) (Nat.not_lt.mpr hf)
    · rcases List.mem_cons.mp hp with rfl | hp
      · exact .inr ⟨hf, vs, h3⟩
      · exact .inl hp
end
end Mine
namespace Mine
theorem led_nameA {h₀ h : Heap} {L I l : Addr} {o1 o2 : Obj} {x : List (Addr × Obj)} (_ : News h₀ L h ((I, o1) :: (l, o2) :: x)) : ∃ (I' l' : Addr), I' = I ∧ l' = l := ⟨_, _, rfl, rfl⟩
end Mine
end Enter_part

section PureDig_part
open PySem PySem.W PyProof.Rows PySem.Calls
namespace Mine
theorem flat_rep (c : Int) : ∀ k : Nat, (List.replicate k [c]).flatten = List.replicate k c
  | 0 => rfl
  | k + 1 => by rw [List.replicate_succ, List.flatten_cons, flat_rep c k]; rfl
section
variable {prog : Program} {w : World} {A : Around} {E : Value → Shared → Prop} {s : Shared} {h₀ : Heap} {L : Addr} {m : Str → Option Value} {news : List (Addr × Obj)} {l : Addr} {x : Int} {t u : Tok} {c : Nat} {Q : Value → Shared → Prop}
theorem zeros_rule (F : Fr h₀ L s.heap m) (N : News h₀ L s.heap news) (hl : (l, listOf #[.int 0 t] c) ∈ news) (h0 : 0 ≤ x) (h1 : x ≤ 1000)
    (h : ∀ D us h', Fr h₀ L h' m → News h₀ L h' ((D, listOf (List.toArray us) 0) :: news) → (∀ p ∈ news, p.1 < D) → IntsAre us (List.replicate x.toNat 0) → Q (.ref D) { s with heap := h' }) :
    wpAny (model prog w) A (binaryOp .Mult (.ref l) (.int x u)) Q E s := by
  have hl' : s.heap.IsList l [Value.int 0 t].toArray := ⟨_, (N _ hl).1, rfl, c, rfl⟩
  refine KM.mul F N hl' (IntsAre.cons 0 t IntsAre.nil) (by omega) (by omega) (by simp; omega) ?_
  intro D h' F' N' hlt hi _ _ _ _ _
  rw [flat_rep] at hi
  exact h D _ h' F' N' hlt hi
end
end Mine
end PureDig_part

section PureNum_part
open PySem PySem.W PyProof.Rows PySem.Calls
namespace Mine
def digs (n x k : Nat) : List Nat := (List.range k).map fun i => x / 2 ^ (n * i) % 2 ^ n
theorem digs_len (n x k : Nat) : (digs n x k).length = k := by simp [digs]
theorem mod_div_pow (x a m : Nat) : x % 2 ^ (a + m) / 2 ^ a = (x / 2 ^ a) % 2 ^ m := by
  rw [Nat.pow_add, Nat.mod_mul_right_div_self]
theorem digs_split (n x p q : Nat) : digs n x (p + q) = digs n (x % 2 ^ (n * p)) p ++ digs n (x / 2 ^ (n * p)) q := by
  unfold digs
  rw [List.range_add, List.map_append, List.map_map]
  congr 1
  · apply List.map_congr_left
    intro i hi
    have hi := List.mem_range.mp hi
    obtain ⟨k, rfl⟩ : ∃ k, p = i + 1 + k := ⟨p - (i + 1), by omega⟩
    have e : n * (i + 1 + k) = n * i + (n + n * k) := by rw [Nat.mul_add, Nat.mul_add, Nat.mul_one]; omega
    rw [e, mod_div_pow]
    rw [Nat.mod_mod_of_dvd]
    exact Nat.pow_dvd_pow 2 (by omega)
  · apply List.map_congr_left
    intro i _
    simp only [Function.comp]
    rw [Nat.div_div_eq_div_mul, ← Nat.pow_add, Nat.mul_add]
theorem digs_one {n x : Nat} (h : x < 2 ^ n) : digs n x 1 = [x] := by
  simp [digs, Nat.mod_eq_of_lt h]
def val (n : Nat) : List Nat → Nat
  | [] => 0
  | d :: ds => d + 2 ^ n * val n ds
theorem val_app (n : Nat) : ∀ a b : List Nat, val n (a ++ b) = val n a + 2 ^ (n * a.length) * val n b
  | [], b => by simp [val]
  | d :: a, b => by
    simp only [List.cons_append, val, val_app n a b, List.length_cons]
    rw [Nat.mul_add, ← Nat.mul_assoc, ← Nat.pow_add, Nat.mul_add n, Nat.mul_one, Nat.add_comm n, Nat.add_assoc]
theorem digs_succ (n x k : Nat) : digs n x (k + 1) = (x % 2 ^ n) :: digs n (x / 2 ^ n) k := by
  have h := digs_split n x 1 k
  rw [Nat.add_comm 1 k, Nat.mul_one] at h
  rw [h]
  have e : digs n (x % 2 ^ n) 1 = [x % 2 ^ n] := digs_one (Nat.mod_lt _ (Nat.pow_pos (by decide)))
  rw [e]; rfl
theorem val_digs (n : Nat) : ∀ (k x : Nat), x < 2 ^ (n * k) → val n (digs n x k) = x
  | 0, x, h => by simp at h; subst h; rfl
  | k + 1, x, h => by
    rw [digs_succ]
    have h2 : x / 2 ^ n < 2 ^ (n * k) := by
      rw [Nat.div_lt_iff_lt_mul (Nat.pow_pos (by decide)), ← Nat.pow_add]
      rw [Nat.mul_add, Nat.mul_one] at h; exact h
    simp only [val, val_digs n k _ h2]
    exact Nat.mod_add_div x (2 ^ n)
def ldiv (n b : Nat) : List Nat → List Nat × Nat
  | [] => ([], 0)
  | d :: ds => ((((ldiv n b ds).2 * 2 ^ n + d) / b) :: (ldiv n b ds).1, ((ldiv n b ds).2 * 2 ^ n + d) % b)
theorem ldiv_len (n b : Nat) : ∀ ds, (ldiv n b ds).1.length = ds.length
  | [] => rfl
  | d :: ds => by simp [ldiv, ldiv_len n b ds]
theorem ldiv_val (n b : Nat) : ∀ ds, val n (ldiv n b ds).1 * b + (ldiv n b ds).2 = val n ds
  | [] => by simp [ldiv, val]
  | d :: ds => by
    have ih := ldiv_val n b ds
    simp only [ldiv, val]
    have h := Nat.div_add_mod ((ldiv n b ds).2 * 2 ^ n + d) b
    rw [← ih, Nat.add_mul, Nat.mul_add, Nat.mul_assoc]
    rw [Nat.mul_comm b] at h
    rw [Nat.mul_comm _ (2 ^ n)] at h ⊢
    omega
theorem ldiv_lt {n b : Nat} (hb : 0 < b) : ∀ ds, (ldiv n b ds).2 < b
  | [] => hb
  | d :: ds => Nat.mod_lt _ hb
theorem ldiv_divmod {n b : Nat} (hb : 0 < b) (ds : List Nat) : val n (ldiv n b ds).1 = val n ds / b ∧ (ldiv n b ds).2 = val n ds % b := by
  have h1 := ldiv_val n b ds
  have h2 := ldiv_lt (n := n) hb ds
  rw [← h1, Nat.mul_comm]
  constructor
  · rw [Nat.mul_add_div hb, Nat.div_eq_of_lt h2, Nat.add_zero]
  · rw [Nat.mul_add_mod, Nat.mod_eq_of_lt h2]
/-- the ints of a list of naturals -/
abbrev zsOf (l : List Nat) : List Int := l.map Int.ofNat
theorem and_high (x s : Nat) : x &&& (x / 2 ^ s * 2 ^ s) = x / 2 ^ s * 2 ^ s := by
  rw [← Nat.shiftLeft_eq, ← Nat.shiftRight_eq_div_pow]
  apply Nat.eq_of_testBit_eq
  intro i
  rw [Nat.testBit_and, Nat.testBit_shiftLeft, Nat.testBit_shiftRight]
  by_cases h : s ≤ i
  · have e : s + (i - s) = i := by omega
    simp [h, e]
  · simp [h]
theorem xor_low (x s : Nat) : Builtin.bitXor (x : Int) (((x / 2 ^ s : Nat) : Int) * 2 ^ s) = ((x % 2 ^ s : Nat) : Int) := by
  rw [bitXor_and]
  have e : ((x / 2 ^ s : Nat) : Int) * 2 ^ s = ((x / 2 ^ s * 2 ^ s : Nat) : Int) := by
    rw [Int.natCast_mul, Int.natCast_pow]; rfl
  have h : Builtin.bitAnd (x : Int) ((x / 2 ^ s * 2 ^ s : Nat) : Int) = ((x / 2 ^ s * 2 ^ s : Nat) : Int) := by
    unfold Builtin.bitAnd
    rw [decide_eq_true (Int.natCast_nonneg _), decide_eq_true (Int.natCast_nonneg _)]
    show ((_ &&& _ : Nat) : Int) = _
    rw [Int.toNat_natCast, Int.toNat_natCast, and_high]
  rw [e, h]
  have := Nat.div_add_mod x (2 ^ s)
  rw [Nat.mul_comm] at this
  omega
theorem bits_lt (a : Nat) : a < 2 ^ (Builtin.Int.intBits a) := by
  unfold Builtin.Int.intBits
  by_cases h : a = 0
  · subst h; simp
  · have h' : ((a : Int) == 0) = false := by rw [beq_eq_false_iff_ne]; omega
    rw [h']
    simp only [Bool.false_eq_true, if_false, Int.natAbs_natCast]
    exact Nat.lt_log2_self
theorem bits_le {a k : Nat} (h : a < 2 ^ k) : Builtin.Int.intBits a ≤ k := by
  unfold Builtin.Int.intBits
  by_cases h0 : a = 0
  · subst h0; simp
  · have h' : ((a : Int) == 0) = false := by rw [beq_eq_false_iff_ne]; omega
    rw [h']
    simp only [Bool.false_eq_true, if_false, Int.natAbs_natCast]
    have := (Nat.log2_lt h0).mpr h
    omega
theorem fdiv_pow (x s : Nat) : (x : Int).fdiv (2 ^ s) = ((x / 2 ^ s : Nat) : Int) := by
  rw [Int.fdiv_eq_ediv_of_nonneg _ (Int.le_of_lt (Int.pow_pos (by decide)))]
  rw [Int.natCast_ediv, Int.natCast_pow]; rfl
theorem codeRec_held {h₀ h h' : Heap} {L c : Addr} {q : Str} {led : List (Addr × Obj)} (x : h.CodeRec (.ref c) q) (N : News h₀ L h led) (hd : ∀ p ∈ led, ∀ vs, p.2.data ≠ .fields vs) (k : Holds2 h h' led) : h'.CodeRec (.ref c) q := by
  obtain ⟨b, o, vs, t, h1, h2, h3, h4⟩ := x
  cases h1
  refine ⟨c, o, vs, t, rfl, k c o (fun hm => ?_) h2, h3, h4⟩
  obtain ⟨p, hp, e⟩ := List.mem_map.mp hm
  have e2 := (N p hp).1
  rw [e, h2] at e2
  cases e2
  exact hd p hp vs h3
end Mine
namespace Mine
theorem splice {ds A B : List Int} {lo M hi : Nat} (h1 : lo ≤ M) (h2 : M ≤ hi) (h3 : hi ≤ ds.length) (hA : A.length = M - lo) :
    (ds.take lo ++ A ++ ds.drop M).take M ++ B ++ (ds.take lo ++ A ++ ds.drop M).drop hi = ds.take lo ++ (A ++ B) ++ ds.drop hi := by
  have e : (ds.take lo ++ A).length = M := by rw [List.length_append, List.length_take, hA]; omega
  rw [List.take_append_of_le_length (by omega), List.take_of_length_le (by omega)]
  rw [List.drop_append, e, List.drop_eq_nil_of_le (by omega), List.drop_drop]
  have e2 : M + (hi - M) = hi := by omega
  rw [e2, List.nil_append]
  simp [List.append_assoc]
theorem set_splice {ds : List Int} {lo : Nat} {v : Int} (h : lo < ds.length) : ds.set lo v = ds.take lo ++ [v] ++ ds.drop (lo + 1) := by
  rw [List.set_eq_take_append_cons_drop, if_pos h]; simp
theorem mid_cast (lo hi : Nat) : ((lo : Int) + (hi : Int)).fdiv (2 ^ Int.toNat 1) = (((lo + hi) / 2 : Nat) : Int) := by
  have h := fdiv_pow (lo + hi) 1
  rw [Int.natCast_add] at h
  exact h
theorem shift_cast {n lo hi : Nat} (h : lo ≤ hi) : (((lo : Int) + (hi : Int)).fdiv (2 ^ Int.toNat 1) - lo) * (n : Int) = ((n * ((lo + hi) / 2 - lo) : Nat) : Int) := by
  rw [mid_cast, Int.natCast_mul, Int.natCast_sub (by omega), Int.mul_comm]
theorem shift_bound {n lo hi x : Nat} (hn : n ≤ 900) (h : lo ≤ hi) (hh : hi ≤ 900) (hx : x < 2 ^ (n * (hi - lo))) :
    ((Builtin.Int.intBits ((x : Int).fdiv (2 ^ ((((lo : Int) + (hi : Int)).fdiv (2 ^ Int.toNat 1) - lo) * (n : Int)).toNat)) : Nat) : Int) + (((lo : Int) + (hi : Int)).fdiv (2 ^ Int.toNat 1) - lo) * (n : Int) ≤ 2 ^ 27 := by
  rw [shift_cast h, Int.toNat_natCast, fdiv_pow]
  have h1 : Builtin.Int.intBits ((x / 2 ^ (n * ((lo + hi) / 2 - lo)) : Nat) : Int) ≤ n * (hi - lo) := bits_le (Nat.lt_of_le_of_lt (Nat.div_le_self _ _) hx)
  have h2 : n * (hi - lo) ≤ 900 * 900 := Nat.mul_le_mul hn (by omega)
  have h3 : n * ((lo + hi) / 2 - lo) ≤ 900 * 900 := Nat.mul_le_mul hn (by omega)
  omega
theorem lower_cast {n lo hi x : Nat} (h : lo ≤ hi) :
    Builtin.bitXor (x : Int) ((x : Int).fdiv (2 ^ ((((lo : Int) + (hi : Int)).fdiv (2 ^ Int.toNat 1) - lo) * (n : Int)).toNat) * 2 ^ ((((lo : Int) + (hi : Int)).fdiv (2 ^ Int.toNat 1) - lo) * (n : Int)).toNat) =
      ((x % 2 ^ (n * ((lo + hi) / 2 - lo)) : Nat) : Int) := by
  rw [shift_cast h, Int.toNat_natCast, fdiv_pow, xor_low]
theorem upper_cast {n lo hi x : Nat} (h : lo ≤ hi) : (x : Int).fdiv (2 ^ ((((lo : Int) + (hi : Int)).fdiv (2 ^ Int.toNat 1) - lo) * (n : Int)).toNat) = ((x / 2 ^ (n * ((lo + hi) / 2 - lo)) : Nat) : Int) := by
  rw [shift_cast h, Int.toNat_natCast, fdiv_pow]
theorem sub3 {lo M hi : Nat} (h1 : lo ≤ M) (h2 : M ≤ hi) : hi - lo = (M - lo) + (hi - M) := by omega
theorem upper_lt {n lo hi M x : Nat} (h : lo ≤ M) (h2 : M ≤ hi) (hx : x < 2 ^ (n * (hi - lo))) : x / 2 ^ (n * (M - lo)) < 2 ^ (n * (hi - M)) := by
  rw [Nat.div_lt_iff_lt_mul (Nat.pow_pos (by decide)), ← Nat.pow_add, ← Nat.mul_add]
  rw [Nat.add_comm, ← sub3 h h2]; exact hx
theorem dig_end {ds : List Int} {n x lo hi M : Nat} (h1 : lo ≤ M) (h2 : M ≤ hi) (h3 : hi ≤ ds.length) :
    (ds.take lo ++ zsOf (digs n (x % 2 ^ (n * (M - lo))) (M - lo)) ++ ds.drop M).take M ++ zsOf (digs n (x / 2 ^ (n * (M - lo))) (hi - M)) ++ (ds.take lo ++ zsOf (digs n (x % 2 ^ (n * (M - lo))) (M - lo)) ++ ds.drop M).drop hi
      = ds.take lo ++ zsOf (digs n x (hi - lo)) ++ ds.drop hi := by
  rw [splice h1 h2 h3 (by rw [List.length_map, digs_len])]
  rw [sub3 h1 h2, digs_split, zsOf, zsOf, zsOf, List.map_append]
theorem kd_pow {n b k a : Nat} (hk : (k : Int) = ((b : Int) + (n : Int) - 1).fdiv n) (hn : 1 ≤ n) (ha : a < 2 ^ b) : a < 2 ^ (n * k) := by
  refine Nat.lt_of_lt_of_le ha (Nat.pow_le_pow_right (by decide) ?_)
  rw [Int.fdiv_eq_ediv_of_nonneg _ (by omega)] at hk
  have h1 := Int.mul_ediv_add_emod ((b : Int) + (n : Int) - 1) n
  have h2 := Int.emod_lt_of_pos ((b : Int) + (n : Int) - 1) (b := (n : Int)) (by omega)
  rw [← hk] at h1
  have e : ((n * k : Nat) : Int) = (n : Int) * (k : Int) := by rw [Int.natCast_mul]
  omega
end Mine
namespace Mine
theorem upper_cast2 {n lo M x : Nat} (h : lo ≤ M) : (x : Int).fdiv (2 ^ (((M : Int) - lo) * (n : Int)).toNat) = ((x / 2 ^ (n * (M - lo)) : Nat) : Int) := by
  have e : ((M : Int) - lo) * (n : Int) = ((n * (M - lo) : Nat) : Int) := by rw [Int.natCast_mul, Int.natCast_sub h, Int.mul_comm]
  rw [e, Int.toNat_natCast, fdiv_pow]
end Mine
namespace Mine
def sv (n : Nat) (qs : List Nat) (lo hi : Nat) : Nat := val n ((qs.drop lo).take (hi - lo))
theorem sv_split {n : Nat} {qs : List Nat} {lo M hi : Nat} (h1 : lo ≤ M) (h2 : M ≤ hi) (h3 : hi ≤ qs.length) : sv n qs lo hi = sv n qs lo M + 2 ^ (n * (M - lo)) * sv n qs M hi := by
  unfold sv
  rw [sub3 h1 h2, List.take_add, val_app, List.drop_drop]
  have e2 : lo + (M - lo) = M := by omega
  rw [e2, List.length_take, List.length_drop]
  have e3 : min (M - lo) (qs.length - lo) = M - lo := by omega
  rw [e3]
theorem sv_one {n : Nat} {qs : List Nat} {lo : Nat} (h : lo < qs.length) : (((zsOf qs).getD ((lo : Int)).toNat 0) : Int) = ((sv n qs lo (lo + 1) : Nat) : Int) := by
  unfold sv
  rw [show lo + 1 - lo = 1 by omega, List.drop_eq_getElem_cons h, List.take_succ_cons, List.take_zero]
  simp [val, zsOf, List.getD_eq_getElem?_getD, h]
theorem val_lt {n : Nat} : ∀ {l : List Nat}, (∀ q ∈ l, q < 2 ^ n) → val n l < 2 ^ (n * l.length)
  | [], _ => by simp [val]
  | d :: l, h => by
    have h1 := h d (.head _)
    have h2 := val_lt (n := n) (l := l) fun q hq => h q (.tail _ hq)
    simp only [val, List.length_cons]
    rw [Nat.mul_add, Nat.mul_one, Nat.pow_add, Nat.mul_comm (2 ^ (n * l.length))]
    calc d + 2 ^ n * val n l < 2 ^ n + 2 ^ n * val n l := by omega
      _ = 2 ^ n * (val n l + 1) := by rw [Nat.mul_add, Nat.mul_one, Nat.add_comm]
      _ ≤ 2 ^ n * 2 ^ (n * l.length) := Nat.mul_le_mul_left _ h2
theorem sv_lt {n : Nat} {qs : List Nat} {lo hi : Nat} (h : ∀ q ∈ qs, q < 2 ^ n) (h3 : hi ≤ qs.length) : sv n qs lo hi < 2 ^ (n * (hi - lo)) := by
  unfold sv
  have h1 := val_lt (n := n) (l := (qs.drop lo).take (hi - lo)) fun q hq => h q (List.mem_of_mem_drop (List.mem_of_mem_take hq))
  refine Nat.lt_of_lt_of_le h1 (Nat.pow_le_pow_right (by decide) (Nat.mul_le_mul_left _ ?_))
  rw [List.length_take]; omega
theorem sv_all {n : Nat} {qs : List Nat} : sv n qs 0 qs.length = val n qs := by
  unfold sv; simp
theorem sv_bound {n : Nat} {qs : List Nat} {lo M hi : Nat} (hn : n ≤ 900) (h : ∀ q ∈ qs, q < 2 ^ n) (h1 : lo ≤ M) (h2 : M ≤ hi) (h3 : hi ≤ qs.length) (h4 : qs.length ≤ 900) :
    ((Builtin.Int.intBits ((sv n qs M hi : Nat) : Int) : Nat) : Int) + ((M : Int) - lo) * (n : Int) ≤ 2 ^ 27 := by
  have e : ((M : Int) - lo) * (n : Int) = ((n * (M - lo) : Nat) : Int) := by rw [Int.natCast_mul, Int.natCast_sub h1, Int.mul_comm]
  rw [e]
  have h5 := bits_le (sv_lt (lo := M) h h3)
  have h6 : n * (hi - M) ≤ 900 * 900 := Nat.mul_le_mul hn (by omega)
  have h7 : n * (M - lo) ≤ 900 * 900 := Nat.mul_le_mul hn (by omega)
  omega
theorem sv_nonneg {n lo M : Nat} (h1 : lo ≤ M) : 0 ≤ ((M : Int) - lo) * (n : Int) := by
  have e : ((M : Int) - lo) * (n : Int) = ((n * (M - lo) : Nat) : Int) := by rw [Int.natCast_mul, Int.natCast_sub h1, Int.mul_comm]
  rw [e]; exact Int.natCast_nonneg _
theorem sv_sum {n : Nat} {qs : List Nat} {lo M hi : Nat} (h1 : lo ≤ M) (h2 : M ≤ hi) (h3 : hi ≤ qs.length) :
    ((sv n qs M hi : Nat) : Int) * 2 ^ (((M : Int) - lo) * (n : Int)).toNat + ((sv n qs lo M : Nat) : Int) = ((sv n qs lo hi : Nat) : Int) := by
  have e : ((M : Int) - lo) * (n : Int) = ((n * (M - lo) : Nat) : Int) := by rw [Int.natCast_mul, Int.natCast_sub h1, Int.mul_comm]
  rw [e, Int.toNat_natCast, sv_split h1 h2 h3, Int.natCast_add, Int.natCast_mul, Int.natCast_pow, Int.mul_comm, Int.add_comm]
  rfl
end Mine
namespace Mine
theorem nat_fdiv (x b : Nat) : (x : Int).fdiv (b : Int) = ((x / b : Nat) : Int) := by
  rw [Int.fdiv_eq_ediv_of_nonneg _ (Int.natCast_nonneg _), Int.natCast_ediv]
theorem nat_fmod (x b : Nat) : (x : Int).fmod (b : Int) = ((x % b : Nat) : Int) := by
  rw [Int.fmod_eq_emod_of_nonneg _ (Int.natCast_nonneg _), Int.natCast_emod]
/-- the state behind the i top digits -/
def DivI (n b : Nat) (ds : List Nat) (i : Nat) (r : Nat) (qr : List Nat) : Prop :=
  qr = (ldiv n b (ds.drop (ds.length - i))).1.reverse ∧ r = (ldiv n b (ds.drop (ds.length - i))).2
theorem div_zero {n b : Nat} {ds : List Nat} : DivI n b ds 0 0 [] := by
  unfold DivI
  rw [Nat.sub_zero, List.drop_eq_nil_of_le (Nat.le_refl _)]
  exact ⟨rfl, rfl⟩
theorem div_digit {ds : List Nat} {pre post : List Int} {z : Int} (h : (zsOf ds).reverse = pre ++ z :: post) : ∃ d, z = (d : Nat) ∧ ds.drop (ds.length - (pre.length + 1)) = d :: ds.drop (ds.length - pre.length) ∧ pre.length < ds.length ∧ d ∈ ds := by
  have hl : pre.length < ds.length := by
    have := congrArg List.length h
    simp at this; omega
  have h1 : (zsOf ds).reverse[pre.length]? = some z := by rw [h]; simp
  rw [List.getElem?_reverse (by simpa using hl)] at h1
  have e : (zsOf ds).length - 1 - pre.length = ds.length - (pre.length + 1) := by simp; omega
  rw [e, List.getElem?_map] at h1
  have hlt : ds.length - (pre.length + 1) < ds.length := by omega
  rw [List.getElem?_eq_getElem hlt] at h1
  refine ⟨ds[ds.length - (pre.length + 1)], ?_, ?_, hl, List.getElem_mem hlt⟩
  · simpa using h1.symm
  · rw [List.drop_eq_getElem_cons hlt]
    have e2 : ds.length - (pre.length + 1) + 1 = ds.length - pre.length := by omega
    rw [e2]
theorem div_step {n b d r : Nat} {ds qr : List Nat} {i : Nat} (h : DivI n b ds i r qr) (hd : ds.drop (ds.length - (i + 1)) = d :: ds.drop (ds.length - i)) :
    DivI n b ds (i + 1) ((r * 2 ^ n + d) % b) (qr ++ [(r * 2 ^ n + d) / b]) := by
  obtain ⟨h1, h2⟩ := h
  unfold DivI
  rw [hd]
  simp only [ldiv, List.reverse_cons]
  rw [← h1, ← h2]
  exact ⟨rfl, rfl⟩
theorem div_lt {n b r : Nat} {ds qr : List Nat} {i : Nat} (hb : 0 < b) (h : DivI n b ds i r qr) : r < b := by
  rw [h.2]; exact ldiv_lt hb _
theorem div_end {n b r : Nat} {ds qr : List Nat} (hb : 0 < b) (h : DivI n b ds ds.length r qr) : qr.reverse = (ldiv n b ds).1 ∧ val n qr.reverse = val n ds / b ∧ r = val n ds % b := by
  obtain ⟨h1, h2⟩ := h
  rw [Nat.sub_self, List.drop_zero] at h1 h2
  rw [h1, List.reverse_reverse]
  exact ⟨rfl, (ldiv_divmod hb ds).1, h2.trans (ldiv_divmod hb ds).2⟩
theorem ldiv_small {n b : Nat} (hb : 0 < b) : ∀ {ds : List Nat}, (∀ d ∈ ds, d < 2 ^ n) → ∀ q ∈ (ldiv n b ds).1, q < 2 ^ n
  | [], _, q, hq => by simp [ldiv] at hq
  | d :: ds, h, q, hq => by
    simp only [ldiv] at hq
    rcases List.mem_cons.mp hq with e | hq
    · subst e
      have h1 := ldiv_lt (n := n) hb ds
      have h2 := h d (.head _)
      rw [Nat.div_lt_iff_lt_mul hb]
      calc (ldiv n b ds).2 * 2 ^ n + d < (ldiv n b ds).2 * 2 ^ n + 2 ^ n := by omega
        _ = ((ldiv n b ds).2 + 1) * 2 ^ n := by rw [Nat.add_mul, Nat.one_mul]
        _ ≤ b * 2 ^ n := Nat.mul_le_mul_right _ h1
        _ = 2 ^ n * b := Nat.mul_comm ..
    · exact ldiv_small hb (fun d hd => h d (.tail _ hd)) q hq
theorem digs_lt {n x k : Nat} : ∀ d ∈ digs n x k, d < 2 ^ n := by
  intro d hd
  obtain ⟨i, _, rfl⟩ := List.mem_map.mp hd
  exact Nat.mod_lt _ (Nat.pow_pos (by decide))
theorem div_arg {n r d : Nat} : ((r : Int) * 2 ^ ((n : Int)).toNat + (d : Int)) = ((r * 2 ^ n + d : Nat) : Int) := by
  rw [Int.toNat_natCast, Int.natCast_add, Int.natCast_mul, Int.natCast_pow]; rfl
theorem div_bits {n b r d : Nat} (hr : r < b) (hb : b < 2 ^ n) (hd : d < 2 ^ n) (hn : n ≤ 900) : ((Builtin.Int.intBits ((r * 2 ^ n + d : Nat) : Int) : Nat) : Int) - (n : Int) ≤ 4000 := by
  have h : r * 2 ^ n + d < 2 ^ (n + n) := by
    rw [Nat.pow_add]
    calc r * 2 ^ n + d < r * 2 ^ n + 2 ^ n := by omega
      _ = (r + 1) * 2 ^ n := by rw [Nat.add_mul, Nat.one_mul]
      _ ≤ 2 ^ n * 2 ^ n := Nat.mul_le_mul_right _ (by omega)
  have := bits_le h
  omega
theorem log_small {b n : Nat} (hb : 0 < b) (h : b < 2 ^ n) (hn : n ≤ 900) : ((b : Int)).natAbs.log2 < 9000 := by
  rw [Int.natAbs_natCast]
  have := (Nat.log2_lt (by omega : b ≠ 0)).mpr h
  omega
theorem shl_bound {n b r : Nat} (hr : r < b) (hb : b < 2 ^ n) (hn : n ≤ 900) : ((Builtin.Int.intBits ((r : Nat) : Int) : Nat) : Int) + (n : Int) ≤ 2 ^ 27 := by
  have := bits_le (Nat.lt_trans hr hb)
  omega
theorem zs_app (a b : List Nat) : zsOf (a ++ b) = zsOf a ++ zsOf b := List.map_append ..
end Mine
namespace Mine
theorem not_nat {a : Int} (h : a < 0) : Builtin.bitNot a = ((a.natAbs - 1 : Nat) : Int) := by
  unfold Builtin.bitNot; omega
theorem neg_div {a : Int} {b : Nat} (h : a < 0) (hb : 0 < b) : Builtin.bitNot ((((a.natAbs - 1) / b : Nat)) : Int) = a.fdiv b ∧ (b : Int) + Builtin.bitNot ((((a.natAbs - 1) % b : Nat)) : Int) = a.fmod b := by
  obtain ⟨n, hn⟩ : ∃ n : Nat, a = -((n : Int) + 1) := ⟨a.natAbs - 1, by omega⟩
  have e : a.natAbs - 1 = n := by omega
  rw [e]
  have h1 := Nat.div_add_mod n b
  have h2 := Nat.mod_lt n hb
  have h3 : ((b : Int)) * ((n / b : Nat) : Int) + ((n % b : Nat) : Int) = n := by rw [← Int.natCast_mul, ← Int.natCast_add, h1]
  generalize n / b = q at *
  generalize n % b = r at *
  rw [Int.fdiv_eq_ediv_of_nonneg _ (by omega), Int.fmod_eq_emod_of_nonneg _ (by omega)]
  have hu := (Int.ediv_emod_unique (a := a) (b := (b : Int)) (r := (b : Int) - 1 - r) (q := -(q : Int) - 1) (by omega)).mpr ⟨by rw [hn, Int.mul_sub, Int.mul_neg, Int.mul_one]; omega, by omega, by omega⟩
  rw [hu.1, hu.2]
  unfold Builtin.bitNot
  constructor <;> omega
theorem neg_neg_div (a b : Int) : (-a).fdiv (-b) = a.fdiv b := Int.neg_fdiv_neg ..
theorem neg_neg_mod (a b : Int) : -((-a).fmod (-b)) = a.fmod b := by rw [Int.neg_fmod_neg, Int.neg_neg]
end Mine
end PureNum_part

section D1r02_part
open PySem PySem.W PyProof.Rows PySem.Calls
namespace Mine
set_option Elab.async false
set_option maxRecDepth 100000
set_option maxHeartbeats 8000000
abbrev pairOf (a b : Int) (t1 t2 : Tok) (c : Nat) : Obj := { cls := .type "tuple", data := .seq #[.int a t1, .int b t2] c }
theorem div2_call (w : World) (p : Program) (loose : List Str) (mean : ExcName → Option Value) (mg mb : Str → Option Value)
  (news : List (Addr × Obj)) (a b n : Int) (ta tb tn : Tok) (hb : b ≠ 0) (hlog : b.natAbs.log2 < 9000) (hbit : (Builtin.Int.intBits a : Int) - n ≤ 4000) :
  Ctr PySem.Challenge.rw_pk0092_02.row.prog w (hd.heap_39 w.params) p loose mean mg mb 1 35 [.int a ta, .int b tb, .int n tn] news
   (fun v nw => ∃ D t1 t2 c, v = .ref D ∧ nw = (D, pairOf (a.fdiv b) (a.fmod b) t1 t2 c) :: news ∧ ∀ p ∈ news, p.1 < D) := by
  k_fill
  dsimp only [Ctr]
  intro dp un gd cn cs a' ccd cl outer A₀ base h₀ L m s Q E B F X N T hk hd hu hret
  refine wpAny_call ?_
  k_dflt cell_enter
  (repeat' ((fail_if_success first | (with_reducible show wpAny _ _ (exec (Stmt.While _ _ _ _) _) _ _ _) | (with_reducible show wpAny _ _ (exec (Stmt.For _ _ _ _ _) _) _ _ _) | (with_reducible show wpAny _ _ (pyIter _) _ _ _) | (with_reducible show wpAny _ _ (call (Value.ref _) _) _ _ _) | (with_reducible show InvEndN _ _ _ _ _ _ _) | (with_reducible show Mid _ _ _ _ _ _) | (with_reducible show WhileStep _ _ _ _ _ _ _)); ((first | (k_unfold; (try dsimp only)) | (k_end; wrow_close) | walk1 | (dsimp only; walk1) | (leave1; try dsimp only) | fail "no step"))))
  rename News _ _ _ _ => N9
  rename Fr _ _ _ _ => F9
  refine divmod_N F9 N9 hb ?_ (.inl (PyProof.noPylong_of_log2 hlog))
  intro h5 F5 N5
  (repeat' ((fail_if_success first | (with_reducible show wpAny _ _ (exec (Stmt.While _ _ _ _) _) _ _ _) | (with_reducible show wpAny _ _ (exec (Stmt.For _ _ _ _ _) _) _ _ _) | (with_reducible show wpAny _ _ (pyIter _) _ _ _) | (with_reducible show wpAny _ _ (call (Value.ref _) _) _ _ _) | (with_reducible show InvEndN _ _ _ _ _ _ _) | (with_reducible show Mid _ _ _ _ _ _) | (with_reducible show WhileStep _ _ _ _ _ _ _)); ((first | (k_unfold; (try dsimp only)) | (k_end; wrow_close) | walk1 | (dsimp only; walk1) | (leave1; try dsimp only) | fail "no step"))))
  exact hret _ _ _ _ (by assumption) (by assumption) ⟨_, _, _, _, rfl, rfl, fun p hp => Heap.lt_size (N9 p hp).1⟩
end Mine
end D1r02_part

section D2r02_part
open PySem PySem.W PyProof.Rows PySem.Calls
namespace Mine
set_option Elab.async false
set_option maxRecDepth 100000
set_option maxHeartbeats 8000000
theorem i2d_call (w : World) (p : Program) (loose : List Str) (mean : ExcName → Option Value) (mg mb : Str → Option Value)
  (ps : Array Value) (a n : Nat) (ta tn : Tok) (hn : 1 ≤ n) (hn2 : n ≤ 300) (hs : Builtin.Int.intBits (a : Int) ≤ 300) :
  CtrF PySem.Challenge.rw_pk0092_02.row.prog w (hd.heap_39 w.params) p loose mean mg mb 310 49 [.int (a : Int) ta, .int (n : Int) tn] (fun base => CodeHd base 48 44) [(44, tabObj ps)]
    (fun h => TabOk 80 4 (Str.ofString "_int2digits.<locals>.inner") h ps)
    (fun h v led' h' => ∃ D us cp ps', v = .ref D ∧ led' = [(D, listOf (List.toArray us) cp), (44, tabObj ps')] ∧ TabMade 80 4 (Str.ofString "_int2digits.<locals>.inner") h h' ps ps' ∧ h.objs.size ≤ D ∧
      ∃ k, a < 2 ^ (n * k) ∧ k ≤ 300 ∧ IntsAre us (zsOf (digs n a k))) := by
  k_fill
  dsimp only [CtrF]
  intro dp un gd cn cs a' ccd cl outer A₀ base h₀ L m s Q E hC B F X N T hk hd hu hT hret
  refine wpAny_call ?_
  k_dflt (refine' code_defCY ?k1 ?k2 ?k3 ?k4 ?k5 ?kA ?kF ?kK ?k6 ?k7 ?k8 ?k9 ?kB ?kD ?_ ?c2 ?c3 ?c4; (case kA => exact rfl); (case kF => exact rfl); (case kK => assumption); (case k1 => k_asm); (case k2 => k_asm); (case k3 => k_asm); (case k4 => k_asm); (case k5 => k_asm); (case k6 => k_is); (case k7 => k_is); (case k8 => ktr_room); (case k9 => exact BindsTo.of_eq rfl); (case kB => exact rfl); (case kD => decide +kernel); (case c2 => exact rfl); (case c3 => exact rfl); (case c4 => exact rfl); k_whole; intro g' L' h' tk' cells' hg FG' F' N' Y' B' X' T' l1 lz; (try k_lt l1); k_cells Y'; (try simp only [List.cons_append, List.nil_append] at N'); (try dsimp only); (try k_fold))
  have hkd : 0 ≤ (↑(Builtin.Int.intBits a) + (n : Int) - 1).fdiv n ∧ (↑(Builtin.Int.intBits a) + (n : Int) - 1).fdiv n ≤ 300 := by
    rw [Int.fdiv_eq_ediv_of_nonneg _ (by omega)]
    refine ⟨Int.ediv_nonneg (by omega) (by omega), ?_⟩
    refine Int.ediv_le_of_le_mul (by omega) ?_
    have : (Builtin.Int.intBits a : Int) ≤ 300 := by omega
    omega
  have kM : KstMark := kstMark
  have hTg := tabOk_in N (.head _) rfl hT hg
  have hCg : CodeHd g' 48 44 := hC.keeps B'.stays
  (repeat' ((fail_if_success first | (with_reducible show wpAny _ _ (exec (Stmt.While _ _ _ _) _) _ _ _) | (with_reducible show wpAny _ _ (exec (Stmt.For _ _ _ _ _) _) _ _ _) | (with_reducible show wpAny _ _ (pyIter _) _ _ _) | (with_reducible show wpAny _ _ (call (Value.ref _) _) _ _ _) | (with_reducible show InvEndN _ _ _ _ _ _ _) | (with_reducible show Mid _ _ _ _ _ _) | (with_reducible show WhileStep _ _ _ _ _ _ _)); ((first | (k_unfold; (try dsimp only)) | (k_end; wrow_close) | ((with_reducible show wpAny _ _ (binaryOp .LShift (Value.int _ _) (Value.int _ _)) _ _ _); (refine lshift_int (by assumption) (by assumption) ?_)) | walk1 | (dsimp only; first | ((with_reducible show wpAny _ _ (binaryOp .LShift (Value.int _ _) (Value.int _ _)) _ _ _); (refine lshift_int (by assumption) (by assumption) ?_)) | walk1) | (leave1; try dsimp only) | fail "no step"))))
  k_dflt (refine' nestDef_K ?d0 ?k0 ?a0 ?_; (case d0 => exact rfl); (case k0 => exact rfl); (case a0 => exact rfl))
  rename News g' _ _ _ => N9
  rename Fr g' _ _ _ => F9
  k_dflt (refine' nestAny F9 N9 ?U T' hCg rfl hTg rfl ?_; (case U => k_updF); k_whole)
  clear N9 F9
  intro f c' ctv doc h9 tk9 F9 N9 hrec lf hnc
  have hfresh : ps = #[rawInt 80, rawInt 4, .ref c'] ∨ s.heap.objs.size ≤ c' := hnc.imp id fun h => Nat.le_of_lt (Nat.lt_of_le_of_lt (Nat.le_trans lz (Nat.le_succ _)) (h (L' + 1, _) (by k_mem)))
  (try k_lt lf)
  try dsimp only at N9
  dsimp only
  k_dflt (refine' storeC_rec F9 N9 ?c ?U ?d hrec ?_ ?a ?b; (case a => rfl); (case b => rfl); (case c => rfl); (case U => k_updF); (case d => k_asm); k_whole)
  clear hrec N9 F9
  intro h9 o9 F9 N9 d9 hrec
  try dsimp only at N9
  (repeat' ((fail_if_success first | (with_reducible show wpAny _ _ (exec (Stmt.While _ _ _ _) _) _ _ _) | (with_reducible show wpAny _ _ (exec (Stmt.For _ _ _ _ _) _) _ _ _) | (with_reducible show wpAny _ _ (pyIter _) _ _ _) | (with_reducible show wpAny _ _ (call (Value.ref _) _) _ _ _) | (with_reducible show InvEndN _ _ _ _ _ _ _) | (with_reducible show Mid _ _ _ _ _ _) | (with_reducible show WhileStep _ _ _ _ _ _ _)); ((first | (k_unfold; (try dsimp only)) | (k_end; wrow_close) | ((with_reducible show wpAny _ _ (binaryOp .LShift (Value.int _ _) (Value.int _ _)) _ _ _); (refine lshift_int (by assumption) (by assumption) ?_)) | walk1 | (dsimp only; first | ((with_reducible show wpAny _ _ (binaryOp .LShift (Value.int _ _) (Value.int _ _)) _ _ _); (refine lshift_int (by assumption) (by assumption) ?_)) | walk1) | (leave1; try dsimp only) | fail "no step"))))
  · rename News g' _ _ _ => N9
    obtain ⟨fo, D, o3, o2, o1, hfo, hD, h3, h2, h1⟩ := led_name N9
    subst hD h3 h2 h1
    have dn : o1.data = Data.cell (some (.int n tn)) := by assumption
    have da : o2.data = Data.cell (some (.ref D)) := by assumption
    have di : o3.data = Data.cell (some (.ref f)) := by assumption
    have key : ∀ (k : Nat) (dp un : Nat) (gd : Option (List Code)) (cn : Str) (cs : Scope) (a' : Addr) (ccd : Value) (cl : List (Str × Addr)) (outer : List Env) (A₀ : Around) (h₀ : Heap) (L : Addr) (m : Str → Option Value) (s : Shared) (Q E : Value → Shared → Prop)
        (us : List Value) (ds : List Int) (x lo hi : Nat) (t1 t2 t3 : Tok) (cp : Nat),
        Below A₀ base outer h₀ → Fr h₀ L s.heap m → (Mine.hd.heap_39 w.params).In h₀ → News h₀ L s.heap [(D, listOf (List.toArray us) cp), (f, fo), (L' + 1 + 1 + 1, o3), (L' + 1 + 1, o2), (L' + 1, o1)] → Top p loose mean mg mb h₀ → cs.kind = .function →
        s.heap.CodeRec (.ref c') (Str.ofString "_int2digits.<locals>.inner") → IntsAre us ds → lo < hi → hi ≤ ds.length → hi - lo ≤ k → ds.length ≤ 300 → x < 2 ^ (n * (hi - lo)) → dp + k < recursionLimit → un + 8 * k < cLine →
        (∀ (us' : List Value) (h' : Heap) (tk' : Nat), Fr h₀ L h' m → News h₀ L h' [(D, listOf (List.toArray us') cp), (f, fo), (L' + 1 + 1 + 1, o3), (L' + 1 + 1, o2), (L' + 1, o1)] →
          Holds2 s.heap h' [(D, listOf (List.toArray us) cp), (f, fo), (L' + 1 + 1 + 1, o3), (L' + 1 + 1, o2), (L' + 1, o1)] → IntsAre us' (ds.take lo ++ zsOf (digs n x (hi - lo)) ++ ds.drop hi) → Q .none { s with heap := h', toks := tk' }) →
        wpAny (model PySem.Challenge.rw_pk0092_02.row.prog w) (ktrTop dp un gd cn cs L a' ccd cl outer) (call (.ref f) [.int (x : Int) t1, .int (lo : Int) t2, .int (hi : Int) t3]) Q E s := by
      subst hfo
      have lf' := lf
      have kM' : KstMark := kstMark
      clear hret N9
      intro k
      induction k with
      | zero => intros; omega
      | succ k ih =>
        intro dp un gd cn cs a' ccd cl outer A₀ h₀ L m s Q E us ds x lo hi t1 t2 t3 cp B F X N T hk hrec hi1 hlo hhi hkk hdl hx hd hu hret
        refine wpAny_call ?_
        k_dflt (refine' code_nestY ?k1 ?k2 ?k3 ?k4 ?k5 ?kA ?kF ?kK ?k6 ?k7 ?k8 ?k9 ?kB ?_ ?c2 ?c3 ?c4 ?c5; (case kA => exact rfl); (case kF => exact rfl); (case kK => assumption); (case k1 => k_asm); (case k2 => k_asm); (case k3 => k_asm); (case k4 => k_asm); (case k5 => k_asm); (case k6 => k_mem); (case k7 => exact hrec); (case k8 => ktr_room); (case k9 => exact BindsTo.of_eq rfl); (case c5 => decide); (case kB => exact locs rfl); (case c2 => exact rfl); (case c3 => exact rfl); (case c4 => exact rfl); k_whole; intro g2 L2 h2 hg2 FG2 F2 N2 B2 X2 T2 l2 lz2; (try k_lt l2); (try dsimp only); (try k_fold))
        have hsh : 0 ≤ (((lo : Int) + (hi : Int)).fdiv (2 ^ Int.toNat 1) - lo) * (n : Int) := by rw [shift_cast (Nat.le_of_lt hlo)]; exact Int.natCast_nonneg _
        have hbd := shift_bound (by omega) (Nat.le_of_lt hlo) (Nat.le_trans hhi (by omega)) hx
        have hlen : (hi : Int) ≤ (ds.length : Int) := by omega
        (repeat' ((fail_if_success first | (with_reducible show wpAny _ _ (exec (Stmt.While _ _ _ _) _) _ _ _) | (with_reducible show wpAny _ _ (exec (Stmt.For _ _ _ _ _) _) _ _ _) | (with_reducible show wpAny _ _ (pyIter _) _ _ _) | (with_reducible show wpAny _ _ (call (Value.ref _) _) _ _ _) | (with_reducible show InvEndN _ _ _ _ _ _ _) | (with_reducible show Mid _ _ _ _ _ _) | (with_reducible show WhileStep _ _ _ _ _ _ _)); ((first | (k_unfold; (try dsimp only)) | (k_end; wrow_close) | ((with_reducible show wpAny _ _ (binaryOp .LShift (Value.int _ _) (Value.int _ _)) _ _ _); (refine lshift_int (by assumption) (by assumption) ?_)) | walk1 | (dsimp only; first | ((with_reducible show wpAny _ _ (binaryOp .LShift (Value.int _ _) (Value.int _ _)) _ _ _); (refine lshift_int (by assumption) (by assumption) ?_)) | walk1) | (leave1; try dsimp only) | fail "no step"))))
        · rename IntsAre (List.set _ _ _) _ => hi'
          have e : hi = lo + 1 := by omega
          rename Fr g2 _ _ _ => F9
          refine hret _ _ _ (by assumption) (by assumption) (fun b o hb e => F9.keep b o (hg2 b o hb e)) ?_
          rw [Int.toNat_natCast, set_splice (by omega)] at hi'
          have hx1 : x < 2 ^ n := by rw [e, show lo + 1 - lo = 1 by omega, Nat.mul_one] at hx; exact hx
          rw [e, show lo + 1 - lo = 1 by omega, digs_one hx1]
          exact hi'
        · rw [lower_cast (Nat.le_of_lt hlo), mid_cast]
          rename News g2 _ _ _ => N9
          rename Fr g2 _ _ _ => F9
          simp only [upper_cast (Nat.le_of_lt hlo), lower_cast (Nat.le_of_lt hlo), mid_cast] at F9
          have hrec2 : g2.CodeRec (.ref c') (Str.ofString "_int2digits.<locals>.inner") := codeRec_held hrec N (by simp [dn, da, di]) hg2
          have hM1 : lo < (lo + hi) / 2 := by omega
          have hM2 : (lo + hi) / 2 < hi := by omega
          generalize (lo + hi) / 2 = M at *
          k_dflt (refine ih _ _ _ _ _ _ _ _ _ _ _ _ _ _ _ _ _ ds (x % 2 ^ (n * (M - lo))) lo M _ _ _ _ B2 F9 X2 N9 T2 rfl (hrec2.keeps F9.keep) hi1 hM1 (by omega) (by omega) hdl (Nat.mod_lt _ (Nat.pow_pos (by decide))) (by ktr_room) (by ktr_units) ?_)
          intro us2 h5 tk5 F5 N5 hh5 hi5
          clear N9
          dsimp only
          (repeat' ((fail_if_success first | (with_reducible show wpAny _ _ (exec (Stmt.While _ _ _ _) _) _ _ _) | (with_reducible show wpAny _ _ (exec (Stmt.For _ _ _ _ _) _) _ _ _) | (with_reducible show wpAny _ _ (pyIter _) _ _ _) | (with_reducible show wpAny _ _ (call (Value.ref _) _) _ _ _) | (with_reducible show InvEndN _ _ _ _ _ _ _) | (with_reducible show Mid _ _ _ _ _ _) | (with_reducible show WhileStep _ _ _ _ _ _ _)); ((first | (k_unfold; (try dsimp only)) | (k_end; wrow_close) | ((with_reducible show wpAny _ _ (binaryOp .LShift (Value.int _ _) (Value.int _ _)) _ _ _); (refine lshift_int (by assumption) (by assumption) ?_)) | walk1 | (dsimp only; first | ((with_reducible show wpAny _ _ (binaryOp .LShift (Value.int _ _) (Value.int _ _)) _ _ _); (refine lshift_int (by assumption) (by assumption) ?_)) | walk1) | (leave1; try dsimp only) | fail "no step"))))
          rw [upper_cast2 (Nat.le_of_lt hM1)]
          have hl5 : (ds.take lo ++ zsOf (digs n (x % 2 ^ (n * (M - lo))) (M - lo)) ++ ds.drop M).length = ds.length := by
            rw [List.length_append, List.length_append, List.length_take, List.length_map, digs_len, List.length_drop]; omega
          k_dflt (refine ih _ _ _ _ _ _ _ _ _ _ _ _ _ _ _ _ _ _ (x / 2 ^ (n * (M - lo))) M hi _ _ _ _ B2 F5 X2 N5 T2 rfl (hrec2.keeps F5.keep) hi5 hM2 (by rw [hl5]; exact hhi) (by omega) (by rw [hl5]; exact hdl) (upper_lt (Nat.le_of_lt hM1) (Nat.le_of_lt hM2) hx) (by ktr_room) (by ktr_units) ?_)
          intro us3 h7 tk7 F7 N7 hh7 hi7
          clear N5 F5 hh5
          rw [dig_end (Nat.le_of_lt hM1) (Nat.le_of_lt hM2) hhi] at hi7
          dsimp only
          (repeat' ((fail_if_success first | (with_reducible show wpAny _ _ (exec (Stmt.While _ _ _ _) _) _ _ _) | (with_reducible show wpAny _ _ (exec (Stmt.For _ _ _ _ _) _) _ _ _) | (with_reducible show wpAny _ _ (pyIter _) _ _ _) | (with_reducible show wpAny _ _ (call (Value.ref _) _) _ _ _) | (with_reducible show InvEndN _ _ _ _ _ _ _) | (with_reducible show Mid _ _ _ _ _ _) | (with_reducible show WhileStep _ _ _ _ _ _ _)); ((first | (k_unfold; (try dsimp only)) | (k_end; wrow_close) | ((with_reducible show wpAny _ _ (binaryOp .LShift (Value.int _ _) (Value.int _ _)) _ _ _); (refine lshift_int (by assumption) (by assumption) ?_)) | walk1 | (dsimp only; first | ((with_reducible show wpAny _ _ (binaryOp .LShift (Value.int _ _) (Value.int _ _)) _ _ _); (refine lshift_int (by assumption) (by assumption) ?_)) | walk1) | (leave1; try dsimp only) | fail "no step"))))
          exact hret _ _ _ (by assumption) (by assumption) (fun b o hb e => F7.keep b o (hg2 b o hb e)) hi7
    obtain ⟨kd, hk1⟩ : ∃ kd : Nat, (kd : Int) = (↑(Builtin.Int.intBits a) + (n : Int) - 1).fdiv n := ⟨_, Int.toNat_of_nonneg hkd.1⟩
    have hkt : ((↑(Builtin.Int.intBits a) + (n : Int) - 1).fdiv n).toNat = kd := by omega
    have hpow := kd_pow hk1 hn (bits_lt a)
    have ha0 : a ≠ 0 := by omega
    have hkd0 : 0 < kd := by
      rcases Nat.eq_zero_or_pos kd with h | h
      · rw [h] at hpow; simp at hpow; exact absurd hpow ha0
      · exact h
    rename IntsAre _ (List.flatten _) => hz
    rw [hkt, flat_rep] at hz
    rw [hkt, flat_rep, List.length_replicate]
    rw [← hfo, hkt] at N9
    rename Fr g' _ _ _ => F9
    k_dflt (refine key kd _ _ _ _ _ _ _ _ _ _ _ _ _ _ _ _ _ (List.replicate kd 0) a 0 kd _ _ _ _ B' F9 X' (news_pick5 N9) T' rfl hrec hz hkd0 (by rw [List.length_replicate]; exact Nat.le_refl _) (by omega) (by rw [List.length_replicate]; omega) hpow (by ktr_room) (by ktr_units) ?_)
    intro us5 h5 tk5 F5 N5 hh5 hi5
    have hrec5 := codeRec_held hrec (news_pick5 N9) (by subst hfo; simp [dn, da, di]) hh5
    have N6 := news_cons (news_held N9 (.tail _ (.tail _ (.tail _ (.tail _ (.tail _ (.tail _ (.head _))))))) (by simp only [List.map_cons, List.map_nil, List.mem_cons, List.not_mem_nil, or_false, not_or]; refine ⟨?_, ?_, ?_, ?_, ?_⟩ <;> exact neN (by omega)) hh5) N5
    clear N5 N9
    dsimp only
    (repeat' ((fail_if_success first | (with_reducible show wpAny _ _ (exec (Stmt.While _ _ _ _) _) _ _ _) | (with_reducible show wpAny _ _ (exec (Stmt.For _ _ _ _ _) _) _ _ _) | (with_reducible show wpAny _ _ (pyIter _) _ _ _) | (with_reducible show wpAny _ _ (call (Value.ref _) _) _ _ _) | (with_reducible show InvEndN _ _ _ _ _ _ _) | (with_reducible show Mid _ _ _ _ _ _) | (with_reducible show WhileStep _ _ _ _ _ _ _)); ((first | (k_unfold; (try dsimp only)) | (k_end; wrow_close) | ((with_reducible show wpAny _ _ (binaryOp .LShift (Value.int _ _) (Value.int _ _)) _ _ _); (refine lshift_int (by assumption) (by assumption) ?_)) | walk1 | (dsimp only; first | ((with_reducible show wpAny _ _ (binaryOp .LShift (Value.int _ _) (Value.int _ _)) _ _ _); (refine lshift_int (by assumption) (by assumption) ?_)) | walk1) | (leave1; try dsimp only) | fail "no step"))))
    rename News h₀ _ _ _ => N7
    rename Fr g' _ _ _ => F7
    refine hret _ [(D, listOf (List.toArray us5) 0), (44, tabObj #[rawInt 80, rawInt 4, .ref c'])] _ _ (by assumption) (news_cons (fun q hq => N7 q (by rw [List.mem_singleton.mp hq]; exact .tail _ (.head _))) (fun q hq => N7 q (by rw [List.mem_singleton.mp hq]; exact .head _))) (fun b o hb e => F7.keep b o (hg b o hb e)) ?_
    refine ⟨D, us5, 0, _, rfl, rfl, ⟨c', rfl, hrec5, hfresh⟩, by omega, kd, hpow, by omega, ?_⟩
    simpa using hi5
  · obtain ⟨kd, hk1⟩ : ∃ kd : Nat, (kd : Int) = (↑(Builtin.Int.intBits a) + (n : Int) - 1).fdiv n := ⟨_, Int.toNat_of_nonneg hkd.1⟩
    have hkt : ((↑(Builtin.Int.intBits a) + (n : Int) - 1).fdiv n).toNat = kd := by omega
    have ha0 : a = 0 := by omega
    have hk0 : kd = 0 := by
      rw [ha0] at hk1
      rw [Int.fdiv_eq_ediv_of_nonneg _ (by omega)] at hk1
      have e0 : (Builtin.Int.intBits ((0 : Nat) : Int)) = 0 := rfl
      rw [e0] at hk1
      have := Int.ediv_eq_zero_of_lt (a := (n : Int) - 1) (b := n) (by omega) (by omega)
      have e : ((0 : Nat) : Int) + (n : Int) - 1 = (n : Int) - 1 := by omega
      rw [e, this] at hk1
      omega
    rename IntsAre _ (List.flatten _) => hz
    rename News h₀ _ _ _ => N7
    rename Fr g' _ _ _ => F7
    rw [hkt] at N7 hz
    refine hret _ [(_, listOf (List.toArray _) 0), (44, tabObj #[rawInt 80, rawInt 4, .ref c'])] _ _ (by assumption) (news_cons (fun q hq => N7 q (by rw [List.mem_singleton.mp hq]; exact .tail _ (.head _))) (fun q hq => N7 q (by rw [List.mem_singleton.mp hq]; exact .tail _ (.tail _ (.tail _ (.tail _ (.tail _ (.tail _ (.head _)))))))) ) (fun b o hb e => F7.keep b o (hg b o hb e)) ?_
    refine ⟨_, _, 0, _, rfl, rfl, ⟨c', rfl, hrec, hfresh⟩, by omega, 0, by rw [ha0]; simp, by omega, ?_⟩
    rw [hk0] at hz ⊢
    exact hz
end Mine
end D2r02_part

section D3r02_part
open PySem PySem.W PyProof.Rows PySem.Calls
namespace Mine
set_option Elab.async false
set_option maxRecDepth 100000
set_option maxHeartbeats 8000000
theorem d2i_call (w : World) (p : Program) (loose : List Str) (mean : ExcName → Option Value) (mg mb : Str → Option Value)
  (ps : Array Value) (D : Addr) (us : List Value) (cp : Nat) (qs : List Nat) (n : Nat) (tn : Tok) (hn : 1 ≤ n) (hn2 : n ≤ 300) (hus : IntsAre us (zsOf qs)) (hql : qs.length ≤ 300) (hq : ∀ q ∈ qs, q < 2 ^ n) (hD : D ≠ 51) :
  CtrF PySem.Challenge.rw_pk0092_02.row.prog w (hd.heap_39 w.params) p loose mean mg mb 310 56 [.ref D, .int (n : Int) tn] (fun base => CodeHd base 55 51) [(D, listOf (List.toArray us) cp), (51, tabObj ps)]
    (fun h => TabOk 95 4 (Str.ofString "_digits2int.<locals>.inner") h ps)
    (fun h v led' h' => ∃ ps' t, v = .int ((val n qs : Nat) : Int) t ∧ led' = [(D, listOf (List.toArray us) cp), (51, tabObj ps')] ∧ TabMade 95 4 (Str.ofString "_digits2int.<locals>.inner") h h' ps ps') := by
  k_fill
  dsimp only [CtrF]
  intro dp un gd cn cs a' ccd cl outer A₀ base h₀ L m s Q E hC B F X N T hk hd hu hT hret
  refine wpAny_call ?_
  k_dflt (refine' code_defCY ?k1 ?k2 ?k3 ?k4 ?k5 ?kA ?kF ?kK ?k6 ?k7 ?k8 ?k9 ?kB ?kD ?_ ?c2 ?c3 ?c4; (case kA => exact rfl); (case kF => exact rfl); (case kK => assumption); (case k1 => k_asm); (case k2 => k_asm); (case k3 => k_asm); (case k4 => k_asm); (case k5 => k_asm); (case k6 => k_is); (case k7 => k_is); (case k8 => ktr_room); (case k9 => exact BindsTo.of_eq rfl); (case kB => exact rfl); (case kD => decide +kernel); (case c2 => exact rfl); (case c3 => exact rfl); (case c4 => exact rfl); k_whole; intro g' L' h' tk' cells' hg FG' F' N' Y' B' X' T' l1 lz; (try k_lt l1); k_cells Y'; (try simp only [List.cons_append, List.nil_append] at N'); (try dsimp only); (try k_fold))
  have kM : KstMark := kstMark
  have hTg : TabOk 95 4 (Str.ofString "_digits2int.<locals>.inner") g' ps := tabOk_off N (List.forall_mem_cons.mpr ⟨(fun vs e => by cases e), List.forall_mem_cons.mpr ⟨tab_noStr hT, List.forall_mem_nil _⟩⟩) hT hg
  have hCg : CodeHd g' 55 51 := hC.keeps B'.stays
  (repeat' ((fail_if_success first | (with_reducible show wpAny _ _ (exec (Stmt.While _ _ _ _) _) _ _ _) | (with_reducible show wpAny _ _ (exec (Stmt.For _ _ _ _ _) _) _ _ _) | (with_reducible show wpAny _ _ (pyIter _) _ _ _) | (with_reducible show wpAny _ _ (call (Value.ref _) _) _ _ _) | (with_reducible show InvEndN _ _ _ _ _ _ _) | (with_reducible show Mid _ _ _ _ _ _) | (with_reducible show WhileStep _ _ _ _ _ _ _)); ((first | (k_unfold; (try dsimp only)) | (k_end; wrow_close) | ((with_reducible show wpAny _ _ (binaryOp .LShift (Value.int _ _) (Value.int _ _)) _ _ _); (refine lshift_int (by assumption) (by assumption) ?_)) | walk1 | (dsimp only; first | ((with_reducible show wpAny _ _ (binaryOp .LShift (Value.int _ _) (Value.int _ _)) _ _ _); (refine lshift_int (by assumption) (by assumption) ?_)) | walk1) | (leave1; try dsimp only) | fail "no step"))))
  k_dflt (refine' nestDef_K ?d0 ?k0 ?a0 ?_; (case d0 => exact rfl); (case k0 => exact rfl); (case a0 => exact rfl))
  rename News g' _ _ _ => N9
  rename Fr g' _ _ _ => F9
  k_dflt (refine' nestAny F9 N9 ?U T' hCg rfl hTg rfl ?_; (case U => k_updF); k_whole)
  clear N9 F9
  intro f c' ctv doc h9 tk9 F9 N9 hrec lf hnc
  have hfresh : ps = #[rawInt 95, rawInt 4, .ref c'] ∨ s.heap.objs.size ≤ c' := hnc.imp id fun h => Nat.le_of_lt (Nat.lt_of_le_of_lt (Nat.le_trans lz (Nat.le_succ _)) (h (L' + 1, _) (by k_mem)))
  (try k_lt lf)
  try dsimp only at N9
  dsimp only
  k_dflt (refine' storeC_rec F9 N9 ?c ?U ?d hrec ?_ ?a ?b; (case a => rfl); (case b => rfl); (case c => rfl); (case U => k_updF); (case d => k_asm); k_whole)
  clear hrec N9 F9
  intro h9 o9 F9 N9 d9 hrec
  try dsimp only at N9
  (repeat' ((fail_if_success first | (with_reducible show wpAny _ _ (exec (Stmt.While _ _ _ _) _) _ _ _) | (with_reducible show wpAny _ _ (exec (Stmt.For _ _ _ _ _) _) _ _ _) | (with_reducible show wpAny _ _ (pyIter _) _ _ _) | (with_reducible show wpAny _ _ (call (Value.ref _) _) _ _ _) | (with_reducible show InvEndN _ _ _ _ _ _ _) | (with_reducible show Mid _ _ _ _ _ _) | (with_reducible show WhileStep _ _ _ _ _ _ _)); ((first | (k_unfold; (try dsimp only)) | (k_end; wrow_close) | ((with_reducible show wpAny _ _ (binaryOp .LShift (Value.int _ _) (Value.int _ _)) _ _ _); (refine lshift_int (by assumption) (by assumption) ?_)) | walk1 | (dsimp only; first | ((with_reducible show wpAny _ _ (binaryOp .LShift (Value.int _ _) (Value.int _ _)) _ _ _); (refine lshift_int (by assumption) (by assumption) ?_)) | walk1) | (leave1; try dsimp only) | fail "no step"))))
  · rename News g' _ _ _ => N9
    obtain ⟨fo, o3, o2, o1, hfo, h3, h2, h1⟩ := led_name3 N9
    subst h3 h2 h1
    have dn : o2.data = Data.cell (some (.int n tn)) := by assumption
    have da : o1.data = Data.cell (some (.ref D)) := by assumption
    have di : o3.data = Data.cell (some (.ref f)) := by assumption
    have key : ∀ (k : Nat) (dp un : Nat) (gd : Option (List Code)) (cn : Str) (cs : Scope) (a' : Addr) (ccd : Value) (cl : List (Str × Addr)) (outer : List Env) (A₀ : Around) (h₀ : Heap) (L : Addr) (m : Str → Option Value) (s : Shared) (Q E : Value → Shared → Prop)
        (lo hi : Nat) (t2 t3 : Tok),
        Below A₀ base outer h₀ → Fr h₀ L s.heap m → (Mine.hd.heap_39 w.params).In h₀ → News h₀ L s.heap [(f, fo), (L' + 1 + 1 + 1, o3), (L' + 1 + 1, o2), (L' + 1, o1), (D, listOf (List.toArray us) cp)] → Top p loose mean mg mb h₀ → cs.kind = .function →
        s.heap.CodeRec (.ref c') (Str.ofString "_digits2int.<locals>.inner") → lo < hi → hi ≤ qs.length → hi - lo ≤ k → dp + k < recursionLimit → un + 8 * k < cLine →
        (∀ (t : Tok) (h' : Heap) (tk' : Nat), Fr h₀ L h' m → News h₀ L h' [(f, fo), (L' + 1 + 1 + 1, o3), (L' + 1 + 1, o2), (L' + 1, o1), (D, listOf (List.toArray us) cp)] →
          Holds2 s.heap h' [(f, fo), (L' + 1 + 1 + 1, o3), (L' + 1 + 1, o2), (L' + 1, o1), (D, listOf (List.toArray us) cp)] → Q (.int ((sv n qs lo hi : Nat) : Int) t) { s with heap := h', toks := tk' }) →
        wpAny (model PySem.Challenge.rw_pk0092_02.row.prog w) (ktrTop dp un gd cn cs L a' ccd cl outer) (call (.ref f) [.int (lo : Int) t2, .int (hi : Int) t3]) Q E s := by
      subst hfo
      have lf' := lf
      have kM' : KstMark := kstMark
      clear hret N9
      intro k
      induction k with
      | zero => intros; omega
      | succ k ih =>
        intro dp un gd cn cs a' ccd cl outer A₀ h₀ L m s Q E lo hi t2 t3 B F X N T hk hrec hlo hhi hkk hd hu hret
        refine wpAny_call ?_
        k_dflt (refine' code_nestY ?k1 ?k2 ?k3 ?k4 ?k5 ?kA ?kF ?kK ?k6 ?k7 ?k8 ?k9 ?kB ?_ ?c2 ?c3 ?c4 ?c5; (case kA => exact rfl); (case kF => exact rfl); (case kK => assumption); (case k1 => k_asm); (case k2 => k_asm); (case k3 => k_asm); (case k4 => k_asm); (case k5 => k_asm); (case k6 => k_mem); (case k7 => exact hrec); (case k8 => ktr_room); (case k9 => exact BindsTo.of_eq rfl); (case c5 => decide); (case kB => exact locs rfl); (case c2 => exact rfl); (case c3 => exact rfl); (case c4 => exact rfl); k_whole; intro g2 L2 h2 hg2 FG2 F2 N2 B2 X2 T2 l2 lz2; (try k_lt l2); (try dsimp only); (try k_fold))
        have hzl : (zsOf qs).length = qs.length := List.length_map ..
        (repeat' ((fail_if_success first | (with_reducible show wpAny _ _ (exec (Stmt.While _ _ _ _) _) _ _ _) | (with_reducible show wpAny _ _ (exec (Stmt.For _ _ _ _ _) _) _ _ _) | (with_reducible show wpAny _ _ (pyIter _) _ _ _) | (with_reducible show wpAny _ _ (call (Value.ref _) _) _ _ _) | (with_reducible show InvEndN _ _ _ _ _ _ _) | (with_reducible show Mid _ _ _ _ _ _) | (with_reducible show WhileStep _ _ _ _ _ _ _)); ((first | (k_unfold; (try dsimp only)) | (k_end; wrow_close) | ((with_reducible show wpAny _ _ (binaryOp .LShift (Value.int _ _) (Value.int _ _)) _ _ _); (refine lshift_int (by assumption) (by assumption) ?_)) | walk1 | (dsimp only; first | ((with_reducible show wpAny _ _ (binaryOp .LShift (Value.int _ _) (Value.int _ _)) _ _ _); (refine lshift_int (by assumption) (by assumption) ?_)) | walk1) | (leave1; try dsimp only) | fail "no step"))))
        · have e : hi = lo + 1 := by omega
          rename Fr g2 _ _ _ => F9
          rw [sv_one (n := n) (by omega), ← e]
          exact hret _ _ _ (by assumption) (by assumption) (fun b o hb e => F9.keep b o (hg2 b o hb e))
        · rw [mid_cast]
          rename News g2 _ _ _ => N9
          rename Fr g2 _ _ _ => F9
          simp only [mid_cast] at F9
          have hrec2 : g2.CodeRec (.ref c') (Str.ofString "_digits2int.<locals>.inner") := codeRec_held hrec N (by simp [dn, da, di]) hg2
          have hM1 : lo < (lo + hi) / 2 := by omega
          have hM2 : (lo + hi) / 2 < hi := by omega
          generalize (lo + hi) / 2 = M at *
          have hb1 := sv_bound (by omega) hq (Nat.le_of_lt hM1) (Nat.le_of_lt hM2) hhi (by omega)
          have hb2 := sv_nonneg (n := n) (Nat.le_of_lt hM1)
          k_dflt (refine ih _ _ _ _ _ _ _ _ _ _ _ _ _ _ _ _ M hi _ _ B2 F9 X2 N9 T2 rfl (hrec2.keeps F9.keep) hM2 hhi (by omega) (by ktr_room) (by ktr_units) ?_)
          intro t5 h5 tk5 F5 N5 hh5
          clear N9 F9
          dsimp only
          (repeat' ((fail_if_success first | (with_reducible show wpAny _ _ (exec (Stmt.While _ _ _ _) _) _ _ _) | (with_reducible show wpAny _ _ (exec (Stmt.For _ _ _ _ _) _) _ _ _) | (with_reducible show wpAny _ _ (pyIter _) _ _ _) | (with_reducible show wpAny _ _ (call (Value.ref _) _) _ _ _) | (with_reducible show InvEndN _ _ _ _ _ _ _) | (with_reducible show Mid _ _ _ _ _ _) | (with_reducible show WhileStep _ _ _ _ _ _ _)); ((first | (k_unfold; (try dsimp only)) | (k_end; wrow_close) | ((with_reducible show wpAny _ _ (binaryOp .LShift (Value.int _ _) (Value.int _ _)) _ _ _); (refine lshift_int (by assumption) (by assumption) ?_)) | walk1 | (dsimp only; first | ((with_reducible show wpAny _ _ (binaryOp .LShift (Value.int _ _) (Value.int _ _)) _ _ _); (refine lshift_int (by assumption) (by assumption) ?_)) | walk1) | (leave1; try dsimp only) | fail "no step"))))
          k_dflt (refine ih _ _ _ _ _ _ _ _ _ _ _ _ _ _ _ _ lo M _ _ B2 F5 X2 N5 T2 rfl (hrec2.keeps F5.keep) hM1 (by omega) (by omega) (by ktr_room) (by ktr_units) ?_)
          intro t7 h7 tk7 F7 N7 hh7
          clear N5 F5 hh5
          dsimp only
          (repeat' ((fail_if_success first | (with_reducible show wpAny _ _ (exec (Stmt.While _ _ _ _) _) _ _ _) | (with_reducible show wpAny _ _ (exec (Stmt.For _ _ _ _ _) _) _ _ _) | (with_reducible show wpAny _ _ (pyIter _) _ _ _) | (with_reducible show wpAny _ _ (call (Value.ref _) _) _ _ _) | (with_reducible show InvEndN _ _ _ _ _ _ _) | (with_reducible show Mid _ _ _ _ _ _) | (with_reducible show WhileStep _ _ _ _ _ _ _)); ((first | (k_unfold; (try dsimp only)) | (k_end; wrow_close) | ((with_reducible show wpAny _ _ (binaryOp .LShift (Value.int _ _) (Value.int _ _)) _ _ _); (refine lshift_int (by assumption) (by assumption) ?_)) | walk1 | (dsimp only; first | ((with_reducible show wpAny _ _ (binaryOp .LShift (Value.int _ _) (Value.int _ _)) _ _ _); (refine lshift_int (by assumption) (by assumption) ?_)) | walk1) | (leave1; try dsimp only) | fail "no step"))))
          rw [sv_sum (Nat.le_of_lt hM1) (Nat.le_of_lt hM2) hhi]
          exact hret _ _ _ (by assumption) (by assumption) (fun b o hb e => F7.keep b o (hg2 b o hb e))
    have hzl : (zsOf qs).length = qs.length := List.length_map ..
    rw [hzl]
    rw [← hfo] at N9
    have hq0 : 0 < qs.length := by rw [← hzl]; assumption
    rename Fr g' _ _ _ => F9
    k_dflt (refine key qs.length _ _ _ _ _ _ _ _ _ _ _ _ _ _ _ _ 0 qs.length _ _ B' F9 X' (news_pick5b N9) T' rfl hrec hq0 (Nat.le_refl _) (by omega) (by ktr_room) (by ktr_units) ?_)
    intro t5 h5 tk5 F5 N5 hh5
    have hrec5 := codeRec_held hrec (news_pick5b N9) (by subst hfo; simp [dn, da, di]) hh5
    have N6 := news_cons (news_held N9 (.tail _ (.tail _ (.tail _ (.tail _ (.tail _ (.head _)))))) (by simp only [List.map_cons, List.map_nil, List.mem_cons, List.not_mem_nil, or_false, not_or]; refine ⟨?_, ?_, ?_, ?_, ?_⟩ <;> first | exact neN (by omega) | exact Ne.symm hD) hh5) N5
    clear N5 N9
    rw [sv_all]
    dsimp only
    (repeat' ((fail_if_success first | (with_reducible show wpAny _ _ (exec (Stmt.While _ _ _ _) _) _ _ _) | (with_reducible show wpAny _ _ (exec (Stmt.For _ _ _ _ _) _) _ _ _) | (with_reducible show wpAny _ _ (pyIter _) _ _ _) | (with_reducible show wpAny _ _ (call (Value.ref _) _) _ _ _) | (with_reducible show InvEndN _ _ _ _ _ _ _) | (with_reducible show Mid _ _ _ _ _ _) | (with_reducible show WhileStep _ _ _ _ _ _ _)); ((first | (k_unfold; (try dsimp only)) | (k_end; wrow_close) | ((with_reducible show wpAny _ _ (binaryOp .LShift (Value.int _ _) (Value.int _ _)) _ _ _); (refine lshift_int (by assumption) (by assumption) ?_)) | walk1 | (dsimp only; first | ((with_reducible show wpAny _ _ (binaryOp .LShift (Value.int _ _) (Value.int _ _)) _ _ _); (refine lshift_int (by assumption) (by assumption) ?_)) | walk1) | (leave1; try dsimp only) | fail "no step"))))
    rename News h₀ _ _ _ => N7
    rename Fr g' _ _ _ => F7
    exact hret _ [(D, listOf (List.toArray us) cp), (51, tabObj #[rawInt 95, rawInt 4, .ref c'])] _ _ (by assumption) (news_cons (fun q hq => N7 q (by rw [List.mem_singleton.mp hq]; exact .tail _ (.tail _ (.tail _ (.tail _ (.tail _ (.head _))))))) (fun q hq => N7 q (by rw [List.mem_singleton.mp hq]; exact .head _))) (fun b o hb e => F7.keep b o (hg b o hb e)) ⟨_, _, rfl, rfl, ⟨c', rfl, hrec5, hfresh⟩⟩
  · have hzl : (zsOf qs).length = qs.length := List.length_map ..
    have hq0 : qs = [] := List.length_eq_zero_iff.mp (by omega)
    rename News h₀ _ _ _ => N7
    rename Fr g' _ _ _ => F7
    exact hret _ [(D, listOf (List.toArray us) cp), (51, tabObj #[rawInt 95, rawInt 4, .ref c'])] _ _ (by assumption) (news_cons (fun q hq => N7 q (by rw [List.mem_singleton.mp hq]; exact .tail _ (.tail _ (.tail _ (.tail _ (.head _)))))) (fun q hq => N7 q (by rw [List.mem_singleton.mp hq]; exact .tail _ (.tail _ (.tail _ (.tail _ (.tail _ (.head _)))))))) (fun b o hb e => F7.keep b o (hg b o hb e)) ⟨_, _, by rw [hq0]; rfl, rfl, ⟨c', rfl, hrec, hfresh⟩⟩
end Mine
end D3r02_part

section RevLoop_part
open PySem PySem.W PyProof.Rows PySem.Calls
namespace Mine
section
variable {prog : Program} {w : World} {A : Around} {E : Value → Shared → Prop} {s : Shared} {env : Env} {h₀ : Heap} {x : Str} {body : List Stmt} {Q : Flow → Shared → Prop}
theorem rev_loop {l I : Addr} {vs : List Value} {ns : List Int} {nn : Nat} {m₀ : Str → Option Value} {news led : List (Addr × Obj)} (J : Nat → (Str → Option Value) → List (Addr × Obj) → Prop)
    (hh : A.handled = none) (N : News h₀ env.locals s.heap led) (hI : (I, revObj l ((vs.length : Int) - 1)) ∈ led) (hl : (l, listOf vs.toArray nn) ∈ led) (hi : IntsAre vs ns) (F : Fr h₀ env.locals s.heap m₀)
    (hs : ∀ q ∈ news, q ∈ led) (hn : ∀ q ∈ news, q.1 ≠ I ∧ q.1 ≠ l) (hne : l ≠ I) (hj : J 0 m₀ news)
    (turn : ∀ i n t m₁ nx h tk own, ns.reverse[i]? = some n → OwnOff own (news.map (·.1)) → J i m₁ nx → Fr h₀ env.locals h (fun y => if y = x then some (.int n t) else m₁ y) → News h₀ env.locals h (nx ++ own) →
      wpAny (model prog w) A (execs body env) (InvPostN h₀ env.locals (J (i + 1)) own (news.map (·.1)) { s with heap := h, toks := tk } Q) E { s with heap := h, toks := tk })
    (done : ∀ m₁ nx h tk, J ns.length m₁ nx → Fr h₀ env.locals h m₁ → News h₀ env.locals h nx → Q .next { s with heap := h, toks := tk }) :
    wpAny (model prog w) A (pyIter (.ref I)) (fun it s₂ => LoopAtV prog w A h₀ env x body Q E it s₂) E s := by
  have hit : s.heap.IsRevIter I l ((vs.length : Int) - 1) := ⟨_, (N _ hI).1, rfl, rfl⟩
  have hls : s.heap.IsList l vs.toArray := ⟨_, (N _ hl).1, rfl, nn, rfl⟩
  refine wpAny_pyIter_revIter hit ?_
  have W := Walks.listRev (prog := prog) (w := w) hh I l hne vs.toArray
  have hlen : vs.toArray.size = ns.length := by simp [hi.length]
  rw [hlen] at W
  refine loop_invN J W ?_ ?_ ?_ ?_ ⟨Nat.zero_le _, ?_, hls⟩ F (fun q hq => N q (hs q hq)) hj ?_ done
  · intro hm
    rcases List.mem_cons.mp hm with e | hm
    · exact (N _ hI).2.1 e.symm
    · exact (N _ hl).2.1 (List.mem_singleton.mp hm).symm
  · intro b hb
    rw [List.mem_singleton.mp hb]
    exact (N _ hI).2.2
  · intro q hq hm
    exact (hn q hq).1 (List.mem_singleton.mp hm)
  · intro q hq hm
    rcases List.mem_cons.mp hm with e | hm
    · exact (hn q hq).1 e
    · exact (hn q hq).2 (List.mem_singleton.mp hm)
  · have e : (ns.length : Int) - 1 - ((0 : Nat) : Int) = (vs.length : Int) - 1 := by rw [hi.length]; omega
    rw [e]; exact hit
  · intro i v m₁ nx h tk own hlt hP _ hoff hJ F₁ N₁
    have hlt2 : ns.length - 1 - i < ns.length := by omega
    obtain ⟨t, hx⟩ := hi.get (ns.length - 1 - i) (ns[ns.length - 1 - i]) (by simp [hlt2])
    have hv : v = .int ns[ns.length - 1 - i] t := by
      have hP' : vs[ns.length - 1 - i]? = some v := by simpa using hP
      rw [hx] at hP'; exact (Option.some.inj hP').symm
    subst hv
    exact turn i _ t m₁ nx h tk own (by rw [List.getElem?_reverse hlt]; simp [hlt2]) hoff hJ F₁ N₁
theorem kst_rev {σ : Type} {l I : Addr} {vs : List Value} {ns : List Int} {nn : Nat} {m₀ : Str → Option Value} {led : List (Addr × Obj)} (Led : σ → List (Addr × Obj)) (ps : σ → List (Str × Value)) (Facts : σ → Prop) (stored : List Str) (P : List Int → σ → Prop) (c₀ : σ)
    (hh : A.handled = none) (N : News h₀ env.locals s.heap led) (hI : (I, revObj l ((vs.length : Int) - 1)) ∈ led) (hl : (l, listOf vs.toArray nn) ∈ led) (hi : IntsAre vs ns) (F : Fr h₀ env.locals s.heap m₀)
    (hs : ∀ q ∈ Led c₀, q ∈ led) (hn : ∀ q ∈ Led c₀, q.1 ≠ I ∧ q.1 ≠ l) (hne : l ≠ I) (hf : Facts c₀) (hk : ∀ p ∈ ps c₀, m₀ p.1 = some p.2) (hp : P [] c₀)
    (turn : ∀ (c : σ) pre post n t (u : Str → Option Value) h tk own, ns.reverse = pre ++ n :: post → OwnOff own ((Led c₀).map (·.1)) → Facts c → P pre c →
      Fr h₀ env.locals h (fun y => if y = x then some (.int n t) else kstB (fun z => if stored.contains z then u z else m₀ z) (ps c) y) → News h₀ env.locals h (Led c ++ own) →
      wpAny (model prog w) A (execs body env) (InvPostN h₀ env.locals (KstS Led ps Facts x stored m₀ P (pre ++ [n])) own ((Led c₀).map (·.1)) { s with heap := h, toks := tk } Q) E { s with heap := h, toks := tk })
    (done : ∀ (c : σ) (u : Str → Option Value) h tk, Facts c → P ns.reverse c → Fr h₀ env.locals h (fun y => if y = x then u y else kstB (fun z => if stored.contains z then u z else m₀ z) (ps c) y) → News h₀ env.locals h (Led c) → Q .next { s with heap := h, toks := tk }) :
    wpAny (model prog w) A (pyIter (.ref I)) (fun it s₂ => LoopAtV prog w A h₀ env x body Q E it s₂) E s := by
  refine rev_loop (news := Led c₀) (fun i m nx => KstS Led ps Facts x stored m₀ P (ns.reverse.take i) m nx) hh N hI hl hi F hs hn hne ⟨c₀, rfl, hf, hk, fun _ _ _ _ => rfl, by simpa using hp⟩ ?_ ?_
  · rintro i n t m₁ nx h tk own hn hoff ⟨c, rfl, hf', h1, h2, hp'⟩ F₁ N₁
    have hs : ns.reverse.take (i + 1) = ns.reverse.take i ++ [n] := by simp [List.take_add_one, hn]
    have e : ns.reverse = ns.reverse.take i ++ n :: ns.reverse.drop (i + 1) := by
      have ht := List.take_append_drop (i + 1) ns.reverse
      rw [hs, List.append_assoc] at ht
      exact ht.symm
    rw [hs]
    exact turn c _ _ n t m₁ h tk own e hoff hf' hp' (kst_fr h1 h2 F₁) N₁
  · rintro m₁ nx h tk ⟨c, rfl, hf', h1, h2, hp'⟩ F₁ N₁
    rw [← List.length_reverse, List.take_length] at hp'
    exact done c m₁ h tk hf' hp' (kst_frOut h1 h2 F₁) N₁
end
end Mine
namespace Mine
theorem ints_snoc {vs : List Value} {ns : List Int} {z : Int} {t : Tok} (h : IntsAre vs ns) : IntsAre (vs ++ [.int z t]) (ns ++ [z]) := by
  induction h with
  | nil => exact IntsAre.cons _ _ IntsAre.nil
  | cons n t _ ih => exact IntsAre.cons _ _ ih
end Mine
namespace Mine
theorem ints_append {vs us : List Value} {ns ms : List Int} (h : IntsAre vs ns) (h2 : IntsAre us ms) : IntsAre (vs ++ us) (ns ++ ms) := by
  induction h with
  | nil => exact h2
  | cons n t _ ih => exact IntsAre.cons _ _ ih
theorem ints_rev {vs : List Value} {ns : List Int} (h : IntsAre vs ns) : IntsAre vs.reverse ns.reverse := by
  induction h with
  | nil => exact IntsAre.nil
  | cons n t _ ih => rw [List.reverse_cons, List.reverse_cons]; exact ints_append ih (IntsAre.cons _ _ IntsAre.nil)
end Mine
end RevLoop_part

section D4r02_part
open PySem PySem.W PyProof.Rows PySem.Calls
namespace Mine
set_option Elab.async false
set_option maxRecDepth 100000
set_option maxHeartbeats 8000000
abbrev TabA (ps : Array Value) (ex : List (Addr × Obj)) : Prop := TabE 80 4 (Str.ofString "_int2digits.<locals>.inner") ps ex
abbrev TabB (ps : Array Value) (ex : List (Addr × Obj)) : Prop := TabE 95 4 (Str.ofString "_digits2int.<locals>.inner") ps ex
abbrev ExOff (ex : List (Addr × Obj)) : Prop := ∀ p ∈ ex, p.1 ≠ 44 ∧ p.1 ≠ 51 ∧ ∃ vs, p.2.data = .fields vs
theorem pos_call (w : World) (p : Program) (loose : List Str) (mean : ExcName → Option Value) (mg mb : Str → Option Value)
  (ps1 ps2 : Array Value) (ex : List (Addr × Obj)) (a b : Nat) (ta tb : Tok) (hb : 0 < b) (hsa : Builtin.Int.intBits (a : Int) ≤ 300) (hsb : Builtin.Int.intBits (b : Int) ≤ 300) (hoff : ExOff ex) (hTA : TabA ps1 ex) (hTB : TabB ps2 ex) :
  CtrF PySem.Challenge.rw_pk0092_02.row.prog w (hd.heap_39 w.params) p loose mean mg mb 320 63 [.int (a : Int) ta, .int (b : Int) tb] (fun base => CodeHd base 48 44 ∧ CodeHd base 55 51) ((44, tabObj ps1) :: (51, tabObj ps2) :: ex)
    (fun _ => True)
    (fun h v led' h' => ∃ D t1 t2 c ps1' ps2' ex', v = .ref D ∧ led' = (D, pairOf ((a / b : Nat) : Int) ((a % b : Nat) : Int) t1 t2 c) :: (44, tabObj ps1') :: (51, tabObj ps2') :: ex' ∧ TabA ps1' ex' ∧ TabB ps2' ex' ∧ ExOff ex' ∧ h.objs.size ≤ D ∧ (∀ p ∈ ex', p ∈ ex ∨ h.objs.size ≤ p.1) ∧ ∀ p ∈ ex', p.1 < D) := by
  k_fill
  dsimp only [CtrF]
  intro dp un gd cn cs a' ccd cl outer A₀ base h₀ L m s Q E hC B F X N T hk hd hu _ hret
  refine wpAny_call ?_
  k_dflt (refine' code_defY ?k1 ?k2 ?k3 ?k4 ?k5 ?kA ?kF ?kK ?k6 ?k7 ?k8 ?k9 ?kB ?_ ?c2 ?c3 ?c4 ?c5; (case kA => exact rfl); (case kF => exact rfl); (case kK => assumption); (case k1 => k_asm); (case k2 => k_asm); (case k3 => k_asm); (case k4 => k_asm); (case k5 => k_asm); (case k6 => k_is); (case k7 => k_is); (case k8 => ktr_room); (case k9 => exact BindsTo.of_eq rfl); (case c5 => decide); (case kB => exact locs rfl); (case c2 => exact rfl); (case c3 => exact rfl); (case c4 => exact rfl); k_whole; intro g' L' h' hg FG' F' N' B' X' T' l1 lz; (try k_lt l1); (try dsimp only); (try k_fold))
  have kM : KstMark := kstMark
  have hb1 : 1 ≤ Builtin.Int.intBits (b : Int) := by
    rcases Nat.eq_zero_or_pos (Builtin.Int.intBits (b : Int)) with h | h
    · have := bits_lt b; rw [h] at this; simp at this; omega
    · exact h
  obtain ⟨n, hnb⟩ : ∃ n, n = Builtin.Int.intBits (b : Int) := ⟨_, rfl⟩
  (repeat' ((fail_if_success first | (with_reducible show wpAny _ _ (exec (Stmt.While _ _ _ _) _) _ _ _) | (with_reducible show wpAny _ _ (exec (Stmt.For _ _ _ _ _) _) _ _ _) | (with_reducible show wpAny _ _ (pyIter _) _ _ _) | (with_reducible show wpAny _ _ (call (Value.ref _) _) _ _ _) | (with_reducible show InvEndN _ _ _ _ _ _ _) | (with_reducible show Mid _ _ _ _ _ _) | (with_reducible show WhileStep _ _ _ _ _ _ _)); ((first | (k_unfold; (try dsimp only)) | (k_end; wrow_close) | ((with_reducible show wpAny _ _ (binaryOp .LShift (Value.int _ _) (Value.int _ _)) _ _ _); (refine lshift_int (by assumption) (by assumption) ?_)) | walk1 | (dsimp only; first | ((with_reducible show wpAny _ _ (binaryOp .LShift (Value.int _ _) (Value.int _ _)) _ _ _); (refine lshift_int (by assumption) (by assumption) ?_)) | walk1) | (leave1; try dsimp only) | fail "no step"))))
  rw [← hnb]
  rename News g' _ _ _ => N9
  rename Fr g' _ _ _ => F9
  rw [← hnb] at F9
  have Nx : News g' L' _ ex := fun q hq => N9 q (.tail _ (.tail _ hq))
  have hlz : s.heap.objs.size ≤ L' := lz
  k_dflt (refine ctrF_use (i2d_call w p loose mean mg mb ps1 a n _ _ (by omega) (by omega) hsa) hC.1 B' F9 X' (fun q hq => N9 q (by rw [List.mem_singleton.mp hq]; exact .head _)) T' rfl (by ktr_room) (by ktr_units) (hTA.ok Nx) ?_)
  rintro v led' h5 tk5 F5 N5 hh5 ⟨D, us, cp, ps1', rfl, hl, hT1', hD, k, hk1, hk2, hus⟩
  obtain ⟨ex1, hx1, Nx1, hTA1, hxf1⟩ := tabE_step F9 Nx (fun q hq => by simp only [List.map_cons, List.map_nil, List.mem_singleton]; exact (hoff q hq).1) hh5 hTA hT1'
  have h44 := news_held (e := (51, tabObj ps2)) N9 (.tail _ (.head _)) (by simp only [List.map_cons, List.map_nil, List.mem_singleton]; decide) hh5
  rw [hl] at N5
  have N6 : News g' L' h5 ((D, listOf us.toArray cp) :: (44, tabObj ps1') :: (51, tabObj ps2) :: ex1) := fun q hq => by
    rcases List.mem_cons.mp hq with rfl | hq
    · exact N5 _ (.head _)
    rcases List.mem_cons.mp hq with rfl | hq
    · exact N5 _ (.tail _ (.head _))
    rcases List.mem_cons.mp hq with rfl | hq
    · exact h44 _ (.head _)
    · exact Nx1 q hq
  have hls := ltN F9.ns.lt
  dsimp only at hls hxf1 hD
  clear N5 N9 Nx Nx1 h44 hl
  have hoff1 : ExOff ex1 := fun q hq => (hxf1 q hq).elim (hoff q) fun h => ⟨neN (by have := h.1; omega), neN (by have := h.1; omega), h.2⟩
  clear F9 hh5
  dsimp only
  (repeat' ((fail_if_success first | (with_reducible show wpAny _ _ (exec (Stmt.While _ _ _ _) _) _ _ _) | (with_reducible show wpAny _ _ (exec (Stmt.For _ _ _ _ _) _) _ _ _) | (with_reducible show wpAny _ _ (pyIter _) _ _ _) | (with_reducible show wpAny _ _ (call (Value.ref _) _) _ _ _) | (with_reducible show InvEndN _ _ _ _ _ _ _) | (with_reducible show Mid _ _ _ _ _ _) | (with_reducible show WhileStep _ _ _ _ _ _ _)); ((first | (k_unfold; (try dsimp only)) | (k_end; wrow_close) | ((with_reducible show wpAny _ _ (binaryOp .LShift (Value.int _ _) (Value.int _ _)) _ _ _); (refine lshift_int (by assumption) (by assumption) ?_)) | walk1 | (dsimp only; first | ((with_reducible show wpAny _ _ (binaryOp .LShift (Value.int _ _) (Value.int _ _)) _ _ _); (refine lshift_int (by assumption) (by assumption) ?_)) | walk1) | (leave1; try dsimp only) | fail "no step"))))
  rename Fr g' _ _ _ => F9
  with_unfolding_all refine' For_invVF F9 ?k1 ?k2 ?_
  case k1 => exact rfl
  case k2 => exact rfl
  (repeat' ((fail_if_success first | (with_reducible show wpAny _ _ (exec (Stmt.While _ _ _ _) _) _ _ _) | (with_reducible show wpAny _ _ (exec (Stmt.For _ _ _ _ _) _) _ _ _) | (with_reducible show wpAny _ _ (pyIter _) _ _ _) | (with_reducible show wpAny _ _ (call (Value.ref _) _) _ _ _) | (with_reducible show InvEndN _ _ _ _ _ _ _) | (with_reducible show Mid _ _ _ _ _ _) | (with_reducible show WhileStep _ _ _ _ _ _ _)); ((first | (k_unfold; (try dsimp only)) | (k_end; wrow_close) | ((with_reducible show wpAny _ _ (binaryOp .LShift (Value.int _ _) (Value.int _ _)) _ _ _); (refine lshift_int (by assumption) (by assumption) ?_)) | walk1 | (dsimp only; first | ((with_reducible show wpAny _ _ (binaryOp .LShift (Value.int _ _) (Value.int _ _)) _ _ _); (refine lshift_int (by assumption) (by assumption) ?_)) | walk1) | (leave1; try dsimp only) | fail "no step"))))
  rename News g' _ _ _ => N9
  obtain ⟨I, l, hI, hl⟩ := led_nameA N9
  subst hI hl
  rename Fr g' _ _ _ => F9
  have hlen := hus.length
  have hbn : b < 2 ^ n := by rw [hnb]; exact bits_lt b
  have hdl : (digs n a k).length = k := digs_len ..
  refine kst_rev (σ := Nat × Tok × List Value × Nat × List Nat) (fun c => (l, listOf (List.toArray c.2.2.1) c.2.2.2.1) :: (44, tabObj ps1') :: (51, tabObj ps2) :: ex1) (fun c => [(Str.ofString "r", .int (c.1 : Int) c.2.1)]) (fun c => IntsAre c.2.2.1 (zsOf c.2.2.2.2)) [Str.ofString "q_digit"]
    (fun pre c => DivI n b (digs n a k) pre.length c.1 c.2.2.2.2) (0, _, [], 0, []) rfl N9 (.head _) (.tail _ (.tail _ (.head _))) hus F9 ?r1 ?r2 ?r3 IntsAre.nil (by kst_all) div_zero ?turn ?done
  case r1 => exact List.forall_mem_cons.mpr ⟨.tail _ (.head _), fun q hq => .tail _ (.tail _ (.tail _ hq))⟩
  case r2 =>
    refine List.forall_mem_cons.mpr ⟨⟨neN (by omega), neN (by omega)⟩, List.forall_mem_cons.mpr ⟨⟨neN (by omega), neN (by omega)⟩, List.forall_mem_cons.mpr ⟨⟨neN (by omega), neN (by omega)⟩, fun q hq => ⟨fun e => ?_, fun e => ?_⟩⟩⟩⟩
    · exact absurd e (Nat.ne_of_lt (kst_ltOf (‹_ ∧ _ ∧ _ ∧ _ ∧ AllLt I ex1›).2.2.2.2 q hq))
    · obtain ⟨vs, h⟩ := (hoff1 q hq).2.2
      have h1 := (N9 q (.tail _ (.tail _ (.tail _ (.tail _ (.tail _ hq)))))).1
      rw [e, (N9 _ (.tail _ (.tail _ (.head _)))).1] at h1
      rw [← Option.some.inj h1] at h
      cases h
  case r3 => exact neN (by omega)
  case done =>
    rintro ⟨r, tr, vs, cq, qr⟩ u h tk hf hP F6 N7
    dsimp only at hf hP F6 N7
    simp only [kstB] at F6
    clear N9 F9
    dsimp only
    rw [List.length_reverse, List.length_map] at hP
    obtain ⟨he1, he2, he3⟩ := div_end hb hP
    rw [val_digs n k a hk1] at he2 he3
    have hql : qr.length = k := by rw [hP.1, List.length_reverse, ldiv_len, List.length_drop, hdl]; omega
    have hvl : vs.length = k := by rw [hf.length, List.length_map]; exact hql
    (repeat' ((fail_if_success first | (with_reducible show wpAny _ _ (exec (Stmt.While _ _ _ _) _) _ _ _) | (with_reducible show wpAny _ _ (exec (Stmt.For _ _ _ _ _) _) _ _ _) | (with_reducible show wpAny _ _ (pyIter _) _ _ _) | (with_reducible show wpAny _ _ (call (Value.ref _) _) _ _ _) | (with_reducible show InvEndN _ _ _ _ _ _ _) | (with_reducible show Mid _ _ _ _ _ _) | (with_reducible show WhileStep _ _ _ _ _ _ _)); ((first | (k_unfold; (try dsimp only)) | (k_end; wrow_close) | ((with_reducible show wpAny _ _ (binaryOp .LShift (Value.int _ _) (Value.int _ _)) _ _ _); (refine lshift_int (by assumption) (by assumption) ?_)) | walk1 | (dsimp only; first | ((with_reducible show wpAny _ _ (binaryOp .LShift (Value.int _ _) (Value.int _ _)) _ _ _); (refine lshift_int (by assumption) (by assumption) ?_)) | walk1) | (leave1; try dsimp only) | fail "no step"))))
    dsimp only
    refine kl_reverse (l := vs.reverse) F6 N7 (by rw [List.toList_toArray]) (by k_upd) (by rw [List.toList_toArray, sizeLine_eq]; omega) ?_
    intro h9 F9 N9
    clear N7 F6
    dsimp only
    (repeat' ((fail_if_success first | (with_reducible show wpAny _ _ (exec (Stmt.While _ _ _ _) _) _ _ _) | (with_reducible show wpAny _ _ (exec (Stmt.For _ _ _ _ _) _) _ _ _) | (with_reducible show wpAny _ _ (pyIter _) _ _ _) | (with_reducible show wpAny _ _ (call (Value.ref _) _) _ _ _) | (with_reducible show InvEndN _ _ _ _ _ _ _) | (with_reducible show Mid _ _ _ _ _ _) | (with_reducible show WhileStep _ _ _ _ _ _ _)); ((first | (k_unfold; (try dsimp only)) | (k_end; wrow_close) | ((with_reducible show wpAny _ _ (binaryOp .LShift (Value.int _ _) (Value.int _ _)) _ _ _); (refine lshift_int (by assumption) (by assumption) ?_)) | walk1 | (dsimp only; first | ((with_reducible show wpAny _ _ (binaryOp .LShift (Value.int _ _) (Value.int _ _)) _ _ _); (refine lshift_int (by assumption) (by assumption) ?_)) | walk1) | (leave1; try dsimp only) | fail "no step"))))
    have hfr : IntsAre vs.reverse (zsOf qr.reverse) := by rw [zsOf, List.map_reverse]; exact ints_rev hf
    have Nx1 : News g' L' _ ex1 := fun q hq => N9 q (.tail _ (.tail _ (.tail _ hq)))
    k_dflt (refine ctrF_use (d2i_call w p loose mean mg mb ps2 l _ cq qr.reverse n _ (by omega) (by omega) hfr (by rw [List.length_reverse]; omega) (by rw [he1]; exact ldiv_small hb digs_lt) (neN (by omega))) hC.2 B' F9 X' (List.forall_mem_cons.mpr ⟨N9 _ (.head _), List.forall_mem_cons.mpr ⟨N9 _ (.tail _ (.tail _ (.head _))), List.forall_mem_nil _⟩⟩) T' rfl (by ktr_room) (by ktr_units) ((hTB.mono hx1).ok Nx1) ?_)
    rintro v led' h7 tk7 F7 N7 hh7 ⟨ps2', tq, rfl, hl7, hT2'⟩
    rw [he2]
    have hlx : ∀ q ∈ ex1, q.1 ∉ [(l, listOf (List.toArray vs.reverse) cq), (51, tabObj ps2)].map (·.1) := fun q hq => by
      simp only [List.map_cons, List.map_nil, List.mem_cons, List.not_mem_nil, or_false, not_or]
      exact ⟨Nat.ne_of_lt (kst_ltOf (‹_ ∧ _ ∧ _ ∧ AllLt l ex1›).2.2.2 q hq), (hoff1 q hq).2.1⟩
    obtain ⟨ex2, hx2, Nx2, hTB2, hxf2⟩ := tabE_step F9 Nx1 hlx hh7 (hTB.mono hx1) hT2'
    have h37 := news_held (e := (44, tabObj ps1')) N9 (.tail _ (.head _)) (by simp only [List.map_cons, List.map_nil, List.mem_cons, List.not_mem_nil, or_false, not_or]; exact ⟨neN (by omega), by decide⟩) hh7
    rw [hl7] at N7
    have N8 : News g' L' h7 ((l, listOf (List.toArray vs.reverse) cq) :: (44, tabObj ps1') :: (51, tabObj ps2') :: ex2) := fun q hq => by
      rcases List.mem_cons.mp hq with rfl | hq
      · exact N7 _ (.head _)
      rcases List.mem_cons.mp hq with rfl | hq
      · exact h37 _ (.head _)
      rcases List.mem_cons.mp hq with rfl | hq
      · exact N7 _ (.tail _ (.head _))
      · exact Nx2 q hq
    have hls9 := ltN (show L' < _ from F9.ns.lt)
    try dsimp only at hls9
    try dsimp only at hxf2
    have hoff2 : ExOff ex2 := fun q hq => (hxf2 q hq).elim (hoff1 q) fun h => ⟨neN (by have := h.1; omega), neN (by have := h.1; omega), h.2⟩
    clear N7 N9 Nx1 Nx2 h37 F9 hh7
    try dsimp only
    (repeat' ((fail_if_success first | (with_reducible show wpAny _ _ (exec (Stmt.While _ _ _ _) _) _ _ _) | (with_reducible show wpAny _ _ (exec (Stmt.For _ _ _ _ _) _) _ _ _) | (with_reducible show wpAny _ _ (pyIter _) _ _ _) | (with_reducible show wpAny _ _ (call (Value.ref _) _) _ _ _) | (with_reducible show InvEndN _ _ _ _ _ _ _) | (with_reducible show Mid _ _ _ _ _ _) | (with_reducible show WhileStep _ _ _ _ _ _ _)); ((first | (k_unfold; (try dsimp only)) | (k_end; wrow_close) | ((with_reducible show wpAny _ _ (binaryOp .LShift (Value.int _ _) (Value.int _ _)) _ _ _); (refine lshift_int (by assumption) (by assumption) ?_)) | walk1 | (dsimp only; first | ((with_reducible show wpAny _ _ (binaryOp .LShift (Value.int _ _) (Value.int _ _)) _ _ _); (refine lshift_int (by assumption) (by assumption) ?_)) | walk1) | (leave1; try dsimp only) | fail "no step"))))
    rename News h₀ _ _ _ => N9
    rename Fr g' _ _ _ => F9
    subst he3
    refine hret _ _ _ _ (by assumption) (show News h₀ L _ (_ :: (44, tabObj ps1') :: (51, tabObj ps2') :: ex2) from List.forall_mem_cons.mpr ⟨N9 _ (.head _), fun q hq => N9 q (.tail _ (.tail _ hq))⟩) (fun b o hb e => F9.keep b o (hg b o hb e)) ?_
    have hx := ‹_ ∧ _ ∧ _ ∧ AllLt _ ex2›
    refine ⟨_, _, _, _, ps1', ps2', ex2, rfl, rfl, hTA1.mono hx2, hTB2, hoff2, by omega, fun q hq => ?_, kst_ltOf hx.2.2.2⟩
    rcases hxf2 q hq with h | h
    · rcases hxf1 q h with h | h
      · exact .inl h
      · exact .inr (by have := h.1; omega)
    · exact .inr (by have := h.1; omega)
  case turn =>
    rintro ⟨r, tr, vs, cq, qr⟩ pre post z tz u h tk own hz hoff' hf hP F6 N7
    dsimp only at hf hP F6 N7
    simp only [kstB] at F6
    obtain ⟨d, rfl, hd, hpl, hdm⟩ := div_digit hz
    have hr := div_lt hb hP
    have hdn := digs_lt d hdm
    have hs1 := shl_bound hr hbn (by omega)
    have hs2 : (0 : Int) ≤ (n : Int) := Int.natCast_nonneg _
    clear N9 F9
    simp only [List.cons_append] at N7
    simp only [List.map_cons] at hoff'
    (repeat' ((fail_if_success first | (with_reducible show wpAny _ _ (exec (Stmt.While _ _ _ _) _) _ _ _) | (with_reducible show wpAny _ _ (exec (Stmt.For _ _ _ _ _) _) _ _ _) | (with_reducible show wpAny _ _ (pyIter _) _ _ _) | (with_reducible show wpAny _ _ (call (Value.ref _) _) _ _ _) | (with_reducible show InvEndN _ _ _ _ _ _ _) | (with_reducible show Mid _ _ _ _ _ _) | (with_reducible show WhileStep _ _ _ _ _ _ _)); ((first | (k_unfold; (try dsimp only)) | (k_end; wrow_close) | ((with_reducible show wpAny _ _ (binaryOp .LShift (Value.int _ _) (Value.int _ _)) _ _ _); (refine lshift_int (by assumption) (by assumption) ?_)) | walk1 | (dsimp only; first | ((with_reducible show wpAny _ _ (binaryOp .LShift (Value.int _ _) (Value.int _ _)) _ _ _); (refine lshift_int (by assumption) (by assumption) ?_)) | walk1) | (leave1; try dsimp only) | fail "no step"))))
    rw [div_arg]
    k_dflt (refine ctr_use (div2_call w p loose mean mg mb _ _ _ _ _ _ _ (by omega) (log_small hb hbn (by omega)) (div_bits hr hbn hdn (by omega))) B' F6 X' N7 T' rfl (by ktr_room) (by ktr_units) ?_)
    rintro v n8 h8 tk8 F8 N8 ⟨D3, t1, t2, c3, rfl, hn8, hlt8⟩
    rw [hn8, nat_fdiv, nat_fmod] at N8
    clear hn8 F6 N7
    k_lt hlt8
    dsimp only
    (repeat' ((fail_if_success first | (with_reducible show wpAny _ _ (exec (Stmt.While _ _ _ _) _) _ _ _) | (with_reducible show wpAny _ _ (exec (Stmt.For _ _ _ _ _) _) _ _ _) | (with_reducible show wpAny _ _ (pyIter _) _ _ _) | (with_reducible show wpAny _ _ (call (Value.ref _) _) _ _ _) | (with_reducible show InvEndN _ _ _ _ _ _ _) | (with_reducible show Mid _ _ _ _ _ _) | (with_reducible show WhileStep _ _ _ _ _ _ _)); ((first | (k_unfold; (try dsimp only)) | (k_end; wrow_close) | ((with_reducible show wpAny _ _ (binaryOp .LShift (Value.int _ _) (Value.int _ _)) _ _ _); (refine lshift_int (by assumption) (by assumption) ?_)) | walk1 | (dsimp only; first | ((with_reducible show wpAny _ _ (binaryOp .LShift (Value.int _ _) (Value.int _ _)) _ _ _); (refine lshift_int (by assumption) (by assumption) ?_)) | walk1) | (leave1; try dsimp only) | fail "no step"))))
    rename News g' _ _ _ => N9
    rename Fr g' _ _ _ => F9
    have hvl : vs.length ≤ 300 := by
      have h1 := hf.length
      have h2 : qr.length = pre.length := by rw [hP.1, List.length_reverse, ldiv_len, List.length_drop]; omega
      rw [h1, List.length_map]; omega
    refine append_K F9 N9 (by k_upd) ?_ (by rw [List.size_toArray, sizeLine_eq]; omega)
    clear N9 F9
    intro h9 F9 N9
    simp only [List.push_toArray] at N9
    (repeat' ((fail_if_success first | (with_reducible show wpAny _ _ (exec (Stmt.While _ _ _ _) _) _ _ _) | (with_reducible show wpAny _ _ (exec (Stmt.For _ _ _ _ _) _) _ _ _) | (with_reducible show wpAny _ _ (pyIter _) _ _ _) | (with_reducible show wpAny _ _ (call (Value.ref _) _) _ _ _) | (with_reducible show InvEndN _ _ _ _ _ _ _) | (with_reducible show Mid _ _ _ _ _ _) | (with_reducible show WhileStep _ _ _ _ _ _ _)); ((first | (k_unfold; (try dsimp only)) | (k_end; wrow_close) | ((with_reducible show wpAny _ _ (binaryOp .LShift (Value.int _ _) (Value.int _ _)) _ _ _); (refine lshift_int (by assumption) (by assumption) ?_)) | walk1 | (dsimp only; first | ((with_reducible show wpAny _ _ (binaryOp .LShift (Value.int _ _) (Value.int _ _)) _ _ _); (refine lshift_int (by assumption) (by assumption) ?_)) | walk1) | (leave1; try dsimp only) | fail "no step"))))
    refine kst_end ⟨_, _, _, _, _⟩ F9 N9 (by dsimp only; exact List.forall_mem_cons.mpr ⟨.tail _ (.head _), List.forall_mem_cons.mpr ⟨.tail _ (.tail _ (.head _)), List.forall_mem_cons.mpr ⟨.tail _ (.tail _ (.tail _ (.head _))), fun q hq => .tail _ (.tail _ (.tail _ (.tail _ (List.mem_append_left _ hq))))⟩⟩⟩) (by exact fun q hq => .tail _ (.tail _ (.tail _ (.tail _ (List.mem_append_right _ hq))))) (by rfl) (by dsimp only; exact (zs_app qr [_]) ▸ ints_snoc hf) (by kst_all) ?_ (by dsimp only; rw [List.length_append]; exact div_step hP hd)
    intro z h1 h2 h3
    simp only [List.forall_mem_cons, List.not_mem_nil, false_implies, implies_true, and_true, ne_eq] at h2
    have h4 := h3
    simp only [List.contains_cons, List.contains_nil, Bool.or_false, Bool.or_eq_false_iff, beq_eq_false_iff_ne, ne_eq] at h4
    try dsimp only
    simp only [h1, h2, h3, h4, Bool.false_eq_true, if_false]
end Mine
end D4r02_part

section D5r02_part
open PySem PySem.W PyProof.Rows PySem.Calls
namespace Mine
set_option Elab.async false
set_option maxRecDepth 100000
set_option maxHeartbeats 8000000
def DmR (q r : Int) (ex : List (Addr × Obj)) (h : Heap) (v : Value) (led' : List (Addr × Obj)) (_ : Heap) : Prop :=
  ∃ D t1 t2 c ps1' ps2' ex', v = .ref D ∧ led' = (D, pairOf q r t1 t2 c) :: (44, tabObj ps1') :: (51, tabObj ps2') :: ex' ∧ TabA ps1' ex' ∧ TabB ps2' ex' ∧ ExOff ex' ∧ h.objs.size ≤ D ∧ (∀ p ∈ ex', p ∈ ex ∨ h.objs.size ≤ p.1) ∧ ∀ p ∈ ex', p.1 < D
abbrev DmC (w : World) (p : Program) (loose : List Str) (mean : ExcName → Option Value) (mg mb : Str → Option Value) (k : Nat) (ps1 ps2 : Array Value) (ex : List (Addr × Obj)) (a b : Int) (ta tb : Tok) : Prop :=
  CtrF PySem.Challenge.rw_pk0092_02.row.prog w (hd.heap_39 w.params) p loose mean mg mb k 70 [.int a ta, .int b tb] (fun base => CodeHd base 48 44 ∧ CodeHd base 55 51) ((44, tabObj ps1) :: (51, tabObj ps2) :: ex)
    (fun _ => True) (DmR (a.fdiv b) (a.fmod b) ex)
theorem dm1_call (w : World) (p : Program) (loose : List Str) (mean : ExcName → Option Value) (mg mb : Str → Option Value)
  (ps1 ps2 : Array Value) (ex : List (Addr × Obj)) (a b : Nat) (ta tb : Tok) (hb : 0 < b) (hsa : Builtin.Int.intBits (a : Int) ≤ 300) (hsb : Builtin.Int.intBits (b : Int) ≤ 300) (hoff : ExOff ex) (hTA : TabA ps1 ex) (hTB : TabB ps2 ex) :
  DmC w p loose mean mg mb 325 ps1 ps2 ex a b ta tb := by
  unfold DmC
  k_fill
  dsimp only [CtrF]
  intro dp un gd cn cs a' ccd cl outer A₀ base h₀ L m s Q E hC B F X N T hk hd hu _ hret
  refine wpAny_call ?_
  k_dflt (refine' code_defY ?k1 ?k2 ?k3 ?k4 ?k5 ?kA ?kF ?kK ?k6 ?k7 ?k8 ?k9 ?kB ?_ ?c2 ?c3 ?c4 ?c5; (case kA => exact rfl); (case kF => exact rfl); (case kK => assumption); (case k1 => k_asm); (case k2 => k_asm); (case k3 => k_asm); (case k4 => k_asm); (case k5 => k_asm); (case k6 => k_is); (case k7 => k_is); (case k8 => ktr_room); (case k9 => exact BindsTo.of_eq rfl); (case c5 => decide); (case kB => exact locs rfl); (case c2 => exact rfl); (case c3 => exact rfl); (case c4 => exact rfl); k_whole; intro g' L' h' hg FG' F' N' B' X' T' l1 lz; (try k_lt l1); (try dsimp only); (try k_fold))
  have hb0 : (b : Int) ≠ 0 := by omega
  have hb1 : ¬ (b : Int) < 0 := by omega
  have ha1 : ¬ (a : Int) < 0 := by omega
  (repeat' ((fail_if_success first | (with_reducible show wpAny _ _ (exec (Stmt.While _ _ _ _) _) _ _ _) | (with_reducible show wpAny _ _ (exec (Stmt.For _ _ _ _ _) _) _ _ _) | (with_reducible show wpAny _ _ (pyIter _) _ _ _) | (with_reducible show wpAny _ _ (call (Value.ref _) _) _ _ _) | (with_reducible show InvEndN _ _ _ _ _ _ _) | (with_reducible show Mid _ _ _ _ _ _) | (with_reducible show WhileStep _ _ _ _ _ _ _)); ((first | (k_unfold; (try dsimp only)) | (k_end; wrow_close) | walk1 | (dsimp only; walk1) | (leave1; try dsimp only) | fail "no step"))))
  · exfalso; omega
  rename News g' _ _ _ => N9
  rename Fr g' _ _ _ => F9
  k_dflt (refine ctrF_use (pos_call w p loose mean mg mb ps1 ps2 ex a b _ _ hb hsa hsb hoff hTA hTB) hC B' F9 X' N9 T' rfl (by ktr_room) (by ktr_units) trivial ?_)
  rintro v led' h7 tk7 F7 N7 hh7 ⟨D, t1, t2, c, ps1', ps2', ex', rfl, hl7, hTA', hTB', hoff', hD, hxf, hlt⟩
  have hls9 := ltN (show L' < _ from F9.ns.lt)
  dsimp only at hls9 hD hxf
  rw [hl7] at N7
  clear F9 N9
  dsimp only
  (repeat' ((fail_if_success first | (with_reducible show wpAny _ _ (exec (Stmt.While _ _ _ _) _) _ _ _) | (with_reducible show wpAny _ _ (exec (Stmt.For _ _ _ _ _) _) _ _ _) | (with_reducible show wpAny _ _ (pyIter _) _ _ _) | (with_reducible show wpAny _ _ (call (Value.ref _) _) _ _ _) | (with_reducible show InvEndN _ _ _ _ _ _ _) | (with_reducible show Mid _ _ _ _ _ _) | (with_reducible show WhileStep _ _ _ _ _ _ _)); ((first | (k_unfold; (try dsimp only)) | (k_end; wrow_close) | walk1 | (dsimp only; walk1) | (leave1; try dsimp only) | fail "no step"))))
  rename Fr g' _ _ _ => F9
  rw [← nat_fdiv, ← nat_fmod] at *
  exact hret _ _ _ _ (by assumption) (by assumption) (fun b o hb e => F9.keep b o (hg b o hb e)) ⟨D, t1, t2, c, ps1', ps2', ex', rfl, rfl, hTA', hTB', hoff', by omega, fun q hq => (hxf q hq).imp id fun h => by omega, hlt⟩
theorem dm2_call (w : World) (p : Program) (loose : List Str) (mean : ExcName → Option Value) (mg mb : Str → Option Value)
  (ps1 ps2 : Array Value) (ex : List (Addr × Obj)) (a : Int) (b : Nat) (ta tb : Tok) (hb : 0 < b) (hsa : a.natAbs < 2 ^ 280) (hsb : Builtin.Int.intBits (b : Int) ≤ 300) (hoff : ExOff ex) (hTA : TabA ps1 ex) (hTB : TabB ps2 ex) :
  DmC w p loose mean mg mb 330 ps1 ps2 ex a b ta tb := by
  by_cases ha : 0 ≤ a
  · obtain ⟨n, rfl⟩ := Int.eq_ofNat_of_zero_le ha
    have h1 := dm1_call w p loose mean mg mb ps1 ps2 ex n b ta tb hb (Nat.le_trans (bits_le (by simpa using hsa)) (by decide)) hsb hoff hTA hTB
    intro dp un gd cn cs a' ccd cl outer A₀ base h₀ L m s Q E hC B F X N T hk hd hu ht hret
    exact h1 dp un gd cn cs a' ccd cl outer A₀ base h₀ L m s Q E hC B F X N T hk (by omega) (by omega) ht hret
  unfold DmC
  k_fill
  dsimp only [CtrF]
  intro dp un gd cn cs a' ccd cl outer A₀ base h₀ L m s Q E hC B F X N T hk hd hu _ hret
  refine wpAny_call ?_
  k_dflt (refine' code_defY ?k1 ?k2 ?k3 ?k4 ?k5 ?kA ?kF ?kK ?k6 ?k7 ?k8 ?k9 ?kB ?_ ?c2 ?c3 ?c4 ?c5; (case kA => exact rfl); (case kF => exact rfl); (case kK => assumption); (case k1 => k_asm); (case k2 => k_asm); (case k3 => k_asm); (case k4 => k_asm); (case k5 => k_asm); (case k6 => k_is); (case k7 => k_is); (case k8 => ktr_room); (case k9 => exact BindsTo.of_eq rfl); (case c5 => decide); (case kB => exact locs rfl); (case c2 => exact rfl); (case c3 => exact rfl); (case c4 => exact rfl); k_whole; intro g' L' h' hg FG' F' N' B' X' T' l1 lz; (try k_lt l1); (try dsimp only); (try k_fold))
  have hb0 : (b : Int) ≠ 0 := by omega
  have hb1 : ¬ (b : Int) < 0 := by omega
  have ha1 : a < 0 := by omega
  (repeat' ((fail_if_success first | (with_reducible show wpAny _ _ (exec (Stmt.While _ _ _ _) _) _ _ _) | (with_reducible show wpAny _ _ (exec (Stmt.For _ _ _ _ _) _) _ _ _) | (with_reducible show wpAny _ _ (pyIter _) _ _ _) | (with_reducible show wpAny _ _ (call (Value.ref _) _) _ _ _) | (with_reducible show InvEndN _ _ _ _ _ _ _) | (with_reducible show Mid _ _ _ _ _ _) | (with_reducible show WhileStep _ _ _ _ _ _ _)); ((first | (k_unfold; (try dsimp only)) | (k_end; wrow_close) | walk1 | (dsimp only; walk1) | (leave1; try dsimp only) | fail "no step"))))
  · exfalso; omega
  rename News g' _ _ _ => N9
  rename Fr g' _ _ _ => F9
  rw [not_nat ha1]
  have hbn : Builtin.Int.intBits ((a.natAbs - 1 : Nat) : Int) ≤ 300 := Nat.le_trans (bits_le (Nat.lt_of_le_of_lt (Nat.sub_le _ _) hsa)) (by decide)
  have hnd := neg_div ha1 hb
  clear hsa
  k_dflt (refine ctrF_use (dm1_call w p loose mean mg mb ps1 ps2 ex (a.natAbs - 1) b _ _ hb hbn hsb hoff hTA hTB) hC B' F9 X' N9 T' rfl (by ktr_room) (by ktr_units) trivial ?_)
  rintro v led' h7 tk7 F7 N7 hh7 ⟨D, t1, t2, c, ps1', ps2', ex', rfl, hl7, hTA', hTB', hoff', hD, hxf, hlt⟩
  have hls9 := ltN (show L' < _ from F9.ns.lt)
  dsimp only at hls9 hD hxf
  rw [hl7, nat_fdiv, nat_fmod] at N7
  clear F9 N9 hh7
  dsimp only
  (repeat' ((fail_if_success first | (with_reducible show wpAny _ _ (exec (Stmt.While _ _ _ _) _) _ _ _) | (with_reducible show wpAny _ _ (exec (Stmt.For _ _ _ _ _) _) _ _ _) | (with_reducible show wpAny _ _ (pyIter _) _ _ _) | (with_reducible show wpAny _ _ (call (Value.ref _) _) _ _ _) | (with_reducible show InvEndN _ _ _ _ _ _ _) | (with_reducible show Mid _ _ _ _ _ _) | (with_reducible show WhileStep _ _ _ _ _ _ _)); ((first | (k_unfold; (try dsimp only)) | (k_end; wrow_close) | walk1 | (dsimp only; walk1) | (leave1; try dsimp only) | fail "no step"))))
  rename Fr g' _ _ _ => F9
  rename News h₀ _ _ _ => N9
  have hx := ‹_ ∧ _ ∧ _ ∧ AllLt _ ex'›
  rw [hnd.1, hnd.2] at N9
  exact hret _ _ _ _ (by assumption) (show News h₀ L _ (_ :: (44, tabObj ps1') :: (51, tabObj ps2') :: ex') from List.forall_mem_cons.mpr ⟨N9 _ (.head _), fun q hq => N9 q (.tail _ (.tail _ hq))⟩) (fun b o hb e => F9.keep b o (hg b o hb e)) ⟨_, _, _, _, ps1', ps2', ex', rfl, rfl, hTA', hTB', hoff', by omega, fun q hq => (hxf q hq).imp id fun h => by omega, kst_ltOf hx.2.2.2⟩
theorem dm_call (w : World) (p : Program) (loose : List Str) (mean : ExcName → Option Value) (mg mb : Str → Option Value)
  (ps1 ps2 : Array Value) (ex : List (Addr × Obj)) (a b : Int) (ta tb : Tok) (hb : b ≠ 0) (hsa : a.natAbs < 2 ^ 280) (hsb : b.natAbs < 2 ^ 280) (hoff : ExOff ex) (hTA : TabA ps1 ex) (hTB : TabB ps2 ex) :
  DmC w p loose mean mg mb 335 ps1 ps2 ex a b ta tb := by
  by_cases h0 : 0 ≤ b
  · obtain ⟨n, rfl⟩ := Int.eq_ofNat_of_zero_le h0
    have h1 := dm2_call w p loose mean mg mb ps1 ps2 ex a n ta tb (by omega) hsa (Nat.le_trans (bits_le (by simpa using hsb)) (by decide)) hoff hTA hTB
    intro dp un gd cn cs a' ccd cl outer A₀ base h₀ L m s Q E hC B F X N T hk hd hu ht hret
    exact h1 dp un gd cn cs a' ccd cl outer A₀ base h₀ L m s Q E hC B F X N T hk (by omega) (by omega) ht hret
  have hbn : Builtin.Int.intBits ((b.natAbs : Nat) : Int) ≤ 300 := Nat.le_trans (bits_le hsb) (by decide)
  have han : (-a).natAbs < 2 ^ 280 := by rw [Int.natAbs_neg]; exact hsa
  obtain ⟨n, hn⟩ : ∃ n : Nat, n = b.natAbs := ⟨_, rfl⟩
  rw [← hn] at hbn
  clear hsa hsb
  have hbe : -b = (n : Int) := by omega
  unfold DmC
  k_fill
  dsimp only [CtrF]
  intro dp un gd cn cs a' ccd cl outer A₀ base h₀ L m s Q E hC B F X N T hk hd hu _ hret
  have h2 := fun (t1 t2 : Tok) => dm2_call w p loose mean mg mb ps1 ps2 ex (-a) n t1 t2 (by omega) han hbn hoff hTA hTB
  clear han
  refine wpAny_call ?_
  k_dflt (refine' code_defY ?k1 ?k2 ?k3 ?k4 ?k5 ?kA ?kF ?kK ?k6 ?k7 ?k8 ?k9 ?kB ?_ ?c2 ?c3 ?c4 ?c5; (case kA => exact rfl); (case kF => exact rfl); (case kK => assumption); (case k1 => k_asm); (case k2 => k_asm); (case k3 => k_asm); (case k4 => k_asm); (case k5 => k_asm); (case k6 => k_is); (case k7 => k_is); (case k8 => ktr_room); (case k9 => exact BindsTo.of_eq rfl); (case c5 => decide); (case kB => exact locs rfl); (case c2 => exact rfl); (case c3 => exact rfl); (case c4 => exact rfl); k_whole; intro g' L' h' hg FG' F' N' B' X' T' l1 lz; (try k_lt l1); (try dsimp only); (try k_fold))
  have hb1 : b < 0 := by omega
  (repeat' ((fail_if_success first | (with_reducible show wpAny _ _ (exec (Stmt.While _ _ _ _) _) _ _ _) | (with_reducible show wpAny _ _ (exec (Stmt.For _ _ _ _ _) _) _ _ _) | (with_reducible show wpAny _ _ (pyIter _) _ _ _) | (with_reducible show wpAny _ _ (call (Value.ref _) _) _ _ _) | (with_reducible show InvEndN _ _ _ _ _ _ _) | (with_reducible show Mid _ _ _ _ _ _) | (with_reducible show WhileStep _ _ _ _ _ _ _)); ((first | (k_unfold; (try dsimp only)) | (k_end; wrow_close) | walk1 | (dsimp only; walk1) | (leave1; try dsimp only) | fail "no step"))))
  · exfalso; omega
  rename News g' _ _ _ => N9
  rename Fr g' _ _ _ => F9
  rw [hbe]
  k_dflt (refine ctrF_use (h2 _ _) hC B' F9 X' N9 T' rfl (by ktr_room) (by ktr_units) trivial ?_)
  rintro v led' h7 tk7 F7 N7 hh7 ⟨D, t1, t2, c, ps1', ps2', ex', rfl, hl7, hTA', hTB', hoff', hD, hxf, hlt⟩
  have hls9 := ltN (show L' < _ from F9.ns.lt)
  dsimp only at hls9 hD hxf
  rw [hl7, ← hbe, neg_neg_div] at N7
  clear F9 N9 hh7
  dsimp only
  (repeat' ((fail_if_success first | (with_reducible show wpAny _ _ (exec (Stmt.While _ _ _ _) _) _ _ _) | (with_reducible show wpAny _ _ (exec (Stmt.For _ _ _ _ _) _) _ _ _) | (with_reducible show wpAny _ _ (pyIter _) _ _ _) | (with_reducible show wpAny _ _ (call (Value.ref _) _) _ _ _) | (with_reducible show InvEndN _ _ _ _ _ _ _) | (with_reducible show Mid _ _ _ _ _ _) | (with_reducible show WhileStep _ _ _ _ _ _ _)); ((first | (k_unfold; (try dsimp only)) | (k_end; wrow_close) | walk1 | (dsimp only; walk1) | (leave1; try dsimp only) | fail "no step"))))
  rename Fr g' _ _ _ => F9
  rename News h₀ _ _ _ => N9
  have hx := ‹_ ∧ _ ∧ _ ∧ AllLt _ ex'›
  rw [neg_neg_mod] at N9
  exact hret _ _ _ _ (by assumption) (show News h₀ L _ (_ :: (44, tabObj ps1') :: (51, tabObj ps2') :: ex') from List.forall_mem_cons.mpr ⟨N9 _ (.head _), fun q hq => N9 q (.tail _ (.tail _ hq))⟩) (fun b o hb e => F9.keep b o (hg b o hb e)) ⟨_, _, _, _, ps1', ps2', ex', rfl, rfl, hTA', hTB', hoff', by omega, fun q hq => (hxf q hq).imp id fun h => by omega, kst_ltOf hx.2.2.2⟩
end Mine
end D5r02_part

section D6r02_part
open PySem PySem.W PyProof.Rows PySem.Calls
namespace Mine
set_option Elab.async false
set_option maxRecDepth 100000
set_option maxHeartbeats 8000000
/-- the tables of the two makers of inner, and the code made -/
def Tabs (tb : List (Addr × Obj)) : Prop := ∃ ps1 ps2 ex, tb = (44, tabObj ps1) :: (51, tabObj ps2) :: ex ∧ TabA ps1 ex ∧ TabB ps2 ex ∧ ExOff ex
theorem Tabs.fields {tb : List (Addr × Obj)} (h : Tabs tb) : ∀ q ∈ tb, ∃ vs, q.2.data = .fields vs := by
  obtain ⟨ps1, ps2, ex, rfl, _, _, ho⟩ := h
  intro q hq
  rcases List.mem_cons.mp hq with rfl | hq
  · exact ⟨_, rfl⟩
  rcases List.mem_cons.mp hq with rfl | hq
  · exact ⟨_, rfl⟩
  · exact (ho q hq).2.2
/-- this entry stands off the tables -/
def OffT (tb : List (Addr × Obj)) (p : Addr × Obj) : Prop := (∀ vs, p.2.data ≠ .fields vs) ∨ ∀ q ∈ tb, p.1 ≠ q.1
theorem OffT.ne {tb news : List (Addr × Obj)} {h₀ h : Heap} {L : Addr} {p : Addr × Obj} (hT : Tabs tb) (N : News h₀ L h news) (hp : p ∈ news) (ht : ∀ q ∈ tb, q ∈ news) (x : OffT tb p) : p.1 ∉ tb.map (·.1) := by
  intro hm
  obtain ⟨q, hq, e⟩ := List.mem_map.mp hm
  rcases x with x | x
  · obtain ⟨vs, hv⟩ := hT.fields q hq
    have h1 := (N p hp).1
    rw [← e, (N q (ht q hq)).1] at h1
    rw [Option.some.inj h1] at hv
    exact x vs hv
  · exact x q hq e.symm
theorem dm_law {w : World} {p : Program} {loose : List Str} {mean : ExcName → Option Value} {mg mb : Str → Option Value} {a b : Int} {ta tb : Tok} {news keep tl : List (Addr × Obj)}
    {dp un : Nat} {gd : Option (List Code)} {cn : Str} {cs : Scope} {ad : Addr} {ccd : Value} {cl : List (Str × Addr)} {outer : List Env} {A₀ : Around} {base h₀ : Heap} {L : Addr} {m : Str → Option Value} {s : Shared} {Q E : Value → Shared → Prop}
    (hb : b ≠ 0) (hsa : a.natAbs < 2 ^ 280) (hsb : b.natAbs < 2 ^ 280) (hC : CodeHd base 48 44 ∧ CodeHd base 55 51)
    (B : Below A₀ base outer h₀) (F : Fr h₀ L s.heap m) (X : (hd.heap_39 w.params).In h₀) (N : News h₀ L s.heap news) (T : Top p loose mean mg mb h₀) (hk : cs.kind = .function)
    (hd : dp + 335 < recursionLimit) (hu : un + 8 * 335 < cLine) (hT : Tabs tl) (ht : ∀ q ∈ tl, q ∈ news) (hkp : ∀ q ∈ keep, q ∈ news) (hoff : ∀ q ∈ keep, OffT tl q)
    (h : ∀ (D : Addr) (t1 t2 : Tok) (c : Nat) (tl' : List (Addr × Obj)) (h' : Heap) (tk' : Nat), Tabs tl' → (∀ q ∈ tl', q.1 ∈ tl.map (·.1) ∨ s.heap.objs.size ≤ q.1) → s.heap.objs.size ≤ D → (∀ q ∈ keep ++ tl', q.1 < D) →
      Fr h₀ L h' m → News h₀ L h' ((D, pairOf (a.fdiv b) (a.fmod b) t1 t2 c) :: (keep ++ tl')) → Q (.ref D) { s with heap := h', toks := tk' }) :
    wpAny (model PySem.Challenge.rw_pk0092_02.row.prog w) (ktrTop dp un gd cn cs L ad ccd cl outer) (call (.ref 70) [.int a ta, .int b tb]) Q E s := by
  have hT0 := hT
  obtain ⟨ps1, ps2, ex, hl, hA, hB, hE⟩ := hT
  refine ctrF_use (dm_call w p loose mean mg mb ps1 ps2 ex a b ta tb hb hsa hsb hE hA hB) hC B F X (fun q hq => N q (ht q (by rw [hl]; exact hq))) T hk hd hu trivial ?_
  rintro v led' h' tk' F' N' hh ⟨D, t1, t2, c, ps1', ps2', ex', rfl, hl', hA', hB', hE', hsz, hfr, hlt⟩
  rw [hl'] at N'
  have hsize : ∀ q ∈ news, q.1 < s.heap.objs.size := fun q hq => Heap.lt_size (N q hq).1
  refine h D t1 t2 c ((44, tabObj ps1') :: (51, tabObj ps2') :: ex') h' tk' ⟨ps1', ps2', ex', rfl, hA', hB', hE'⟩ ?_ hsz ?_ F' ?_
  · intro q hq
    rcases List.mem_cons.mp hq with rfl | hq
    · exact .inl (by rw [hl]; exact .head _)
    rcases List.mem_cons.mp hq with rfl | hq
    · exact .inl (by rw [hl]; exact .tail _ (.head _))
    · rcases hfr q hq with h | h
      · exact .inl (by rw [hl]; exact .tail _ (.tail _ (List.mem_map.mpr ⟨q, h, rfl⟩)))
      · exact .inr h
  · intro q hq
    rcases List.mem_append.mp hq with hq | hq
    · exact Nat.lt_of_lt_of_le (hsize q (hkp q hq)) hsz
    rcases List.mem_cons.mp hq with rfl | hq
    · exact Nat.lt_of_lt_of_le (hsize (44, tabObj ps1) (ht (44, tabObj ps1) (by rw [hl]; exact .head _))) hsz
    rcases List.mem_cons.mp hq with rfl | hq
    · exact Nat.lt_of_lt_of_le (hsize (51, tabObj ps2) (ht (51, tabObj ps2) (by rw [hl]; exact .tail _ (.head _)))) hsz
    · exact hlt q hq
  · intro q hq
    rcases List.mem_cons.mp hq with rfl | hq
    · exact N' _ (.head _)
    rcases List.mem_append.mp hq with hq | hq
    · have ho := (hoff q hq).ne hT0 N (hkp q hq) ht
      rw [hl] at ho
      exact ⟨hh _ _ ho (N q (hkp q hq)).1, (N q (hkp q hq)).2⟩
    · exact N' q (.tail _ hq)
theorem small280 {n : Nat} (h : n ≤ 1000000) : n < 2 ^ 280 := Nat.lt_of_le_of_lt h (by decide +kernel)
end Mine
end D6r02_part

section PureRep_part
open PySem PySem.W PyProof.Rows PySem.Calls PySem.StrLaws PySem.Builtin PySem.Builtin.Str
namespace Mine
/-- each y (from the left on) out of the text, n put for it -/
def rep (y n : List Nat) : Nat → List Nat → List Nat
  | 0, c :: l => if y.isPrefixOf (c :: l) then n ++ rep y n (y.length - 1) l else c :: rep y n 0 l
  | k + 1, _ :: l => rep y n k l
  | _, [] => []
theorem rep_skip (y n : List Nat) : ∀ (k : Nat) (l : List Nat), rep y n k l = rep y n 0 (l.drop k)
  | 0, _ => rfl
  | k + 1, [] => rfl
  | k + 1, _ :: l => by rw [rep, rep_skip y n k l, List.drop_succ_cons]
theorem rep_hit {y n l : List Nat} (hy : y ≠ []) (h : y <+: l) : rep y n 0 l = n ++ rep y n 0 (l.drop y.length) := by
  cases l with
  | nil => exact absurd (List.prefix_nil.mp h) hy
  | cons c l =>
    rw [rep, if_pos (List.isPrefixOf_iff_prefix.mpr h), rep_skip]
    cases y with
    | nil => exact absurd rfl hy
    | cons d y => simp
theorem rep_miss {y n l : List Nat} {c : Nat} (h : ¬ y <+: (c :: l)) : rep y n 0 (c :: l) = c :: rep y n 0 l := by
  rw [rep, if_neg (fun e => h (List.isPrefixOf_iff_prefix.mp e))]
theorem rep_gap {y n l : List Nat} : ∀ (d a : Nat), a + d ≤ l.length → (∀ k, a ≤ k → k < a + d → ¬ y <+: l.drop k) → rep y n 0 (l.drop a) = (l.drop a).take d ++ rep y n 0 (l.drop (a + d))
  | 0, a, _, _ => by simp
  | d + 1, a, h, hn => by
    have hlt : a < l.length := by omega
    rw [List.drop_eq_getElem_cons hlt, rep_miss (by rw [← List.drop_eq_getElem_cons hlt]; exact hn a (Nat.le_refl _) (by omega))]
    rw [rep_gap d (a + 1) (by omega) fun k h1 h2 => hn k (by omega) (by omega)]
    rw [List.take_succ_cons, List.cons_append]
    have e : a + 1 + d = a + (d + 1) := by omega
    rw [e]
theorem rep_none {y n l : List Nat} (a : Nat) (ha : a ≤ l.length) (hn : ∀ k, a ≤ k → ¬ y <+: l.drop k) : rep y n 0 (l.drop a) = l.drop a := by
  rw [rep_gap (l.length - a) a (by omega) fun k h1 _ => hn k h1]
  have e : a + (l.length - a) = l.length := by omega
  rw [e, List.drop_eq_nil_of_le (Nat.le_refl _), List.take_of_length_le (by rw [List.length_drop]; omega)]
  show _ ++ [] = _
  rw [List.append_nil]
theorem at_iff {x y : List Nat} {i : Nat} (hi : i ≤ x.length) : At (tx x) (tx y) (tx x).length i ↔ y <+: x.drop i := by
  unfold At
  rw [subAt_eq, tx_cps, tx_cps, tx_len, tx_len, beq_iff_eq]
  constructor
  · rintro ⟨_, h⟩
    rw [← h]; exact List.take_prefix _ _
  · intro h
    have hl := h.length_le
    rw [List.length_drop] at hl
    exact ⟨by omega, (List.prefix_iff_eq_take.mp h).symm⟩
theorem join_app (s a : Str) {l : List Str} (h : l ≠ []) : Str.join s (a :: l) = a ++ s ++ Str.join s l := by
  cases l with
  | nil => exact absurd rfl h
  | cons b r => rfl
theorem sub_tx {x : List Nat} {a b : Nat} : strSub (tx x) a b = tx ((x.drop a).take (b - a)) := by
  have h := strSub_toList (tx x) a b
  rw [tx_cps] at h
  rw [tx_of (strSub (tx x) a b), h]
theorem join_parts {x y n : List Nat} (hy : y ≠ []) : ∀ (cuts : List Nat) (a f : Nat), a ≤ x.length → ChainG (tx x) (tx y) (tx x).length a cuts f → (∀ k, f ≤ k → ¬ At (tx x) (tx y) (tx x).length k) →
    Str.join (tx n) (partsFrom (tx x) (tx y).length a cuts) = tx (rep y n 0 (x.drop a))
  | [], a, f, ha, hc, hn => by
    have e : f = a := hc
    subst e
    show strSub (tx x) f (tx x).length = _
    have h0 : ∀ k, f ≤ k → ¬ y <+: x.drop k := fun k hk hp => by
      by_cases hl : k ≤ x.length
      · exact hn k hk ((at_iff hl).mpr hp)
      · rw [List.drop_eq_nil_of_le (by omega)] at hp
        exact hy (List.prefix_nil.mp hp)
    rw [rep_none f ha h0, sub_tx, tx_len, List.take_of_length_le (by rw [List.length_drop]; omega)]
  | c :: r, a, f, ha, hc, hn => by
    obtain ⟨h1, h2, h3, h4⟩ := hc
    have hcl : c + y.length ≤ x.length := by have := h2.1; rw [tx_len, tx_len] at this; exact this
    have hp : y <+: x.drop c := (at_iff (by omega)).mp h2
    obtain ⟨p, q, hpq⟩ := partsFrom_ne (tx x) (tx y).length (c + (tx y).length) r
    show Str.join (tx n) (strSub (tx x) a c :: partsFrom (tx x) (tx y).length (c + (tx y).length) r) = _
    rw [join_app _ _ (by rw [hpq]; exact List.cons_ne_nil _ _)]
    rw [join_parts hy r (c + (tx y).length) f (by rw [tx_len]; exact hcl) h4 hn]
    rw [rep_gap (c - a) a (by omega) fun k h5 h6 hp => h3 k h5 (by omega) ((at_iff (by omega)).mpr hp)]
    have e : a + (c - a) = c := by omega
    rw [e, rep_hit hy hp, sub_tx, tx_app, tx_app, List.drop_drop, tx_len, List.append_assoc]
theorem kind_one {x : List Nat} (h : ∀ c ∈ x, c < 128) : Builtin.Str.strKind (tx x) = 1 := by
  unfold Builtin.Str.strKind
  rw [if_pos]
  rw [Array.all_eq_true_iff_forall_mem]
  intro c hc
  have : c ∈ x := by rw [← tx_cps x]; exact Array.mem_toList_iff.mpr hc
  exact decide_eq_true (Nat.lt_trans (h c this) (by decide))
theorem join_split_rep {x y n : List Nat} (hy : y ≠ []) (hx : ∀ c ∈ x, c < 128) (hy2 : ∀ c ∈ y, c < 128) : Txt.join (tx n) (Txt.split (tx x) (tx y)) = tx (rep y n 0 x) := by
  show glued _ _ = _
  rw [glued_eq_join]
  have hyl : 1 ≤ y.length := by cases y with | nil => exact absurd rfl hy | cons _ _ => simp
  unfold Txt.split
  rw [kind_one hx, kind_one hy2]
  obtain ⟨f, hc, hn⟩ := occ_tight (tx x) (tx y) (by rw [tx_len]; exact hyl)
  have main := join_parts (n := n) hy _ 0 f (Nat.zero_le _) hc hn
  rw [List.drop_zero] at main
  split
  · rename_i h
    rw [tx_len, tx_len] at h
    have hl : x.length < y.length := by simpa using h
    have h0 := rep_none (y := y) (n := n) (l := x) 0 (Nat.zero_le _) fun k _ hp => by
      have := hp.length_le; rw [List.length_drop] at this; omega
    rw [List.drop_zero] at h0
    rw [h0]; rfl
  · split
    · rename_i h
      have h := List.isEmpty_iff.mp h
      rw [h] at main
      rw [← main]
      show tx x = strSub (tx x) 0 (tx x).length
      rw [sub_whole]
    · rw [partsBetween_eq]; exact main
end Mine
end PureRep_part

section RepKit_part
open PySem PySem.W PyProof.Rows PySem.Calls
namespace Mine
set_option Elab.async false
set_option maxRecDepth 100000
/-- the values are texts of these letters -/
inductive TxAre : List Value → List (List Nat × List Nat) → Prop
  | nil : TxAre [] []
  | cons (o n : List Nat) (t u : Tok) {vs : List Value} {ls : List (List Nat × List Nat)} : TxAre vs ls → TxAre (.str (tx o) t :: .str (tx n) u :: vs) ((o, n) :: ls)
def reps : List (List Nat × List Nat) → List Nat → List Nat
  | [], x => x
  | p :: ps, x => reps ps (rep p.1 p.2 0 x)
def PsOk : List (List Nat × List Nat) → List Nat → Prop
  | [], _ => True
  | p :: ps, x => p.1 ≠ [] ∧ (∀ c ∈ p.1, c < 128) ∧ p.2.length ≤ 64 ∧ x.length ≤ 1000 ∧ (∀ c ∈ x, c < 128) ∧ PsOk ps (rep p.1 p.2 0 x)
section
variable {prog : Program} {w : World} {A : Around} {E : Value → Shared → Prop} {s : Shared} {h₀ : Heap} {L : Addr} {m : PySem.Str → Option Value} {news : List (Addr × Obj)} {x o n : List Nat} {t u : Tok} {Q : Value → Shared → Prop}
theorem split_tx (hF : Fr h₀ L s.heap m) (hN : News h₀ L s.heap news) (ho : o ≠ []) (hx : x.length ≤ 1000)
    (h : ∀ D l h' k, l.map (·.1) = Txt.split (tx x) (tx o) → Fr h₀ L h' m → News h₀ L h' ((D, listOf (strValues l).toArray 0) :: news) → (∀ p ∈ news, p.1 < D) → Q (.ref D) { s with heap := h', toks := k }) :
    wpAny (model prog w) A (call (.builtin "str.split") [.str (tx x) t, .str (tx o) u]) Q E s :=
  splitN1 hF hN (by rw [tx_len]; cases o with | nil => exact absurd rfl ho | cons _ _ => rfl) (fun l h' k e F N => h _ l h' k e F N fun p hp => Heap.lt_size (hN p hp).1) (by rw [tx_len]; unfold sizeLine; omega)
theorem join_tx {D : Addr} {l : List (Str × Tok)} (hl : s.heap.IsList D (strValues l).toArray) (e : l.map (·.1) = Txt.split (tx x) (tx o)) (ho : o ≠ []) (hx : x.length ≤ 1000) (ax : ∀ c ∈ x, c < 128) (ao : ∀ c ∈ o, c < 128) (hn : n.length ≤ 64)
    (h : ∀ t' k, Q (.str (tx (rep o n 0 x)) t') { s with toks := k }) :
    wpAny (model prog w) A (call (.builtin "str.join") [.str (tx n) u, .ref D]) Q E s := by
  have hw := split_weight (tx x) (tx o) (by rw [tx_len]; cases o with | nil => exact absurd rfl ho | cons _ _ => simp)
  rw [tx_len] at hw
  refine join_listC (ys := Txt.split (tx x) (tx o)) hl (by rw [← e]; exact strsAre_of_values l) (by rw [tx_len]; exact hn) (by omega) ?_
  intro t' k
  rw [join_split_rep ho ax ao]
  exact h t' k
end
section
variable {prog : Program} {w : World} {A : Around} {E : Value → Shared → Prop} {s : Shared} {h₀ : Heap} {L : Addr} {m : PySem.Str → Option Value} {news : List (Addr × Obj)} {Q : Value → Shared → Prop}
theorem item2 {value slice : Expr} {t : Addr} {v0 v1 : Value} {l : List Value} {k : Int} {u : Tok} {news : List (Addr × Obj)} (hk : k = 0 ∨ k = 1) (hl : (v0 :: v1 :: l).length ≤ 1000) (N : News h₀ L s.heap news) (hm : (t, ({ cls := .type "tuple", data := .seq (v0 :: v1 :: l).toArray } : Obj)) ∈ news)
    (h : Q (if k = 0 then v0 else v1) s)
    (hs : subscripted slice false (.ref t) (.int k u) = operate [.ref t, .int k u] (getItem (.ref t) (.int k u)) := by with_unfolding_all rfl) (hg : ∀ r, letTemporaryGo value (.ref t) r = pure () := by intro _; with_unfolding_all rfl) :
    wpAny (model prog w) A (subscriptTail value slice (.ref t) (.int k u)) Q E s := by
  have ht : IsTup s.heap t (v0 :: v1 :: l).toArray := ⟨_, (N _ hm).1, rfl, 0, rfl⟩
  rcases hk with rfl | rfl
  · exact item_tupleL (j := 0) ht (by decide) (by decide) (by simp [seqIndex?]; omega) rfl h hs hg
  · exact item_tupleL (j := 1) ht (by decide) (by decide) (by simp [seqIndex?]; omega) rfl h hs hg
theorem slice2 {value slice : Expr} {t : Addr} {v0 v1 : Value} {l : List Value} {u : Tok} 
    (F : Fr h₀ L s.heap m) (N : News h₀ L s.heap news) (hm : (t, ({ cls := .type "tuple", data := .seq (v0 :: v1 :: l).toArray } : Obj)) ∈ news) (hl : (v0 :: v1 :: l).length ≤ 1000)
    (h : ∀ D h', Fr h₀ L h' m → News h₀ L h' ((D, { cls := .type "tuple", data := .seq l.toArray }) :: news) → Q (.ref D) { s with heap := h' })
    (hs : subscripted slice false (.ref t) (.ref s.heap.objs.size) = operate [.ref s.heap.objs.size, .ref t] (getItem (.ref t) (.ref s.heap.objs.size)) := by with_unfolding_all rfl)
    (hg : ∀ r, letTemporaryGo value (.ref t) r = pure () := by intro _; with_unfolding_all rfl) :
    wpAny (model prog w) A (subscriptTail value slice (.ref t) (.ref s.heap.objs.size)) Q E { s with heap := s.heap.push { cls := .type "slice", data := .fields #[.int 2 u, .none, .none] } } := by
  have ht : IsTup s.heap t (v0 :: v1 :: l).toArray := ⟨_, (N _ hm).1, rfl, 0, rfl⟩
  exact slice_tuple_from (a := 2) F N ht (by decide) (by simp) (fun h' F' N' => h _ h' F' N') hs hg (by rw [List.size_toArray]; unfold sizeLine; omega)
end
theorem pair_of {vs : List Value} {p : List Nat × List Nat} {ls : List (List Nat × List Nat)} (h : TxAre vs (p :: ls)) : ∃ t u vs', vs = .str (tx p.1) t :: .str (tx p.2) u :: vs' ∧ TxAre vs' ls := by
  cases h with
  | cons o n t u h => exact ⟨t, u, _, rfl, h⟩
theorem none_of {vs : List Value} (h : TxAre vs []) : vs = [] := by cases h; rfl
abbrev tupOf (vs : List Value) : Obj := { cls := .type "tuple", data := .seq vs.toArray }
end Mine
end RepKit_part

section PsOk_part
open PySem PySem.W PyProof.Rows
namespace Mine
def psOkB : List (List Nat × List Nat) → List Nat → Bool
  | [], _ => true
  | p :: ps, x => !p.1.isEmpty && p.1.all (· < 128) && decide (p.2.length ≤ 64) && decide (x.length ≤ 1000) && x.all (· < 128) && psOkB ps (rep p.1 p.2 0 x)
theorem psOk_of : ∀ {ps : List (List Nat × List Nat)} {x : List Nat}, psOkB ps x = true → PsOk ps x
  | [], _, _ => trivial
  | p :: ps, x, h => by
    simp only [psOkB, Bool.and_eq_true, decide_eq_true_eq, List.all_eq_true, Bool.not_eq_true'] at h
    obtain ⟨⟨⟨⟨⟨h1, h2⟩, h3⟩, h4⟩, h5⟩, h6⟩ := h
    exact ⟨fun e => by rw [e] at h1; simp at h1, h2, h3, h4, h5, psOk_of h6⟩
end Mine
end PsOk_part

section PureL2_part
open PySem PySem.W PyProof.Rows
namespace Mine
def sgn7 : List Nat := [97, 65, 98, 66, 99, 67, 100]
/-- one sign more, below the text -/
def figS (P : Nat) (x : Nat × List Nat) (c : Nat) : Nat × List Nat := (x.1 / P, List.replicate (x.1 % P) c ++ x.2)
/-- the number's writing, the highest figure first -/
def wr (P n : Nat) : List Nat := (sgn7.foldl (figS P) (n, [])).2
def prs (P : Nat) : List (List Nat × List Nat) :=
  [(List.replicate P 97, [65]), (List.replicate P 65, [98]), (List.replicate P 98, [66]), (List.replicate P 66, [99]), (List.replicate P 99, [67]), (List.replicate P 67, [100])]
/-- how often P divides n, f times at most -/
def tms (P : Nat) : Nat → Nat → Nat
  | 0, _ => 0
  | f + 1, n => if n % P = 0 then tms P f (n / P) + 1 else 0
def due2 (P n : Nat) : Int := let t := tms P 7 n; if 0 < t then 2 * (t : Int) * ((P : Int) - 1) - (t % 2 : Nat) else 2
def stp2 (P n : Nat) : Bool :=
  psOkB (prs P) (wr P n ++ [97]) && decide (reps (prs P) (wr P n ++ [97]) = wr P (n + 1)) && decide (tms P 7 (n + 1) < 7)
  && decide (lev (wr P n) (wr P (n + 1)) (due2 P (n + 1)) = due2 P (n + 1)) && decide (lev (wr P (n + 1)) (wr P n) (due2 P (n + 1) - 1) = due2 P (n + 1))
  && decide (lev (wr P n) (wr P (n + 1)) 0 = if 0 < tms P 7 (n + 1) then 1 else 2)
  && decide (lev (wr P (n + 1) ++ [101]) (101 :: wr P (n + 1)) 4 = 4)
  && (wr P n).all (· < 128) && (wr P (n + 1)).all (· < 128) && decide ((wr P n).length ≤ 100) && decide ((wr P (n + 1)).length ≤ 100)
def fst2 (P n : Nat) : Bool := psOkB (prs P) (List.replicate n 97) && decide (reps (prs P) (List.replicate n 97) = wr P n)
def prd (s : Nat) : Nat → Nat
  | 0 => 1
  | k + 1 => prd s k * (s + (k + 1))
def mor (P s c : Nat) : Nat := (wr P s).length + (wr P c).length - (wr P (s + c)).length
def fin2 (P s c : Nat) : Bool :=
  decide ((wr P (s + c)).length ≤ (wr P s).length + (wr P c).length) && decide (mor P s c % (P - 1) = 0) && decide (mor P s c / (P - 1) ≤ 20)
  && decide (prd s c % prd 0 c = 0) && decide (prd s c / prd 0 c % P ^ (mor P s c / (P - 1)) = 0) && decide (prd s c / prd 0 c % (P ^ (mor P s c / (P - 1)) * P) ≠ 0)
/-- a finite check in three parts -/
theorem thirds {Q : Nat → Prop} (a : ∀ n, n < 33 → Q n) (b : ∀ n, n < 33 → Q (33 + n)) (c : ∀ n, n < 33 → Q (66 + n)) : ∀ n, n < 99 → Q n := by
  intro n h
  rcases Nat.lt_or_ge n 33 with h1 | h1
  · exact a n h1
  rcases Nat.lt_or_ge n 66 with h2 | h2
  · have := b (n - 33) (by omega)
    rwa [Nat.add_sub_cancel' h1] at this
  · have := c (n - 66) (by omega)
    rwa [Nat.add_sub_cancel' h2] at this
theorem stp2_2 : ∀ n, n < 99 → stp2 2 n = true := thirds (by decide +kernel) (by decide +kernel) (by decide +kernel)
theorem stp2_3 : ∀ n, n < 99 → stp2 3 n = true := thirds (by decide +kernel) (by decide +kernel) (by decide +kernel)
theorem stp2_5 : ∀ n, n < 99 → stp2 5 n = true := thirds (by decide +kernel) (by decide +kernel) (by decide +kernel)
theorem stp2_7 : ∀ n, n < 99 → stp2 7 n = true := thirds (by decide +kernel) (by decide +kernel) (by decide +kernel)
theorem fst2_2 : ∀ n, n < 90 → fst2 2 n = true := by decide +kernel
theorem fst2_3 : ∀ n, n < 90 → fst2 3 n = true := by decide +kernel
theorem fst2_5 : ∀ n, n < 90 → fst2 5 n = true := by decide +kernel
theorem fst2_7 : ∀ n, n < 90 → fst2 7 n = true := by decide +kernel
theorem fin2_2 : ∀ c, c < 10 → ∀ s, s < 90 → fin2 2 s (c + 1) = true := by decide +kernel
theorem fin2_3 : ∀ c, c < 10 → ∀ s, s < 90 → fin2 3 s (c + 1) = true := by decide +kernel
theorem fin2_5 : ∀ c, c < 10 → ∀ s, s < 90 → fin2 5 s (c + 1) = true := by decide +kernel
theorem fin2_7 : ∀ c, c < 10 → ∀ s, s < 90 → fin2 7 s (c + 1) = true := by decide +kernel
end Mine
end PureL2_part

section LT2_part
open PySem PySem.W PyProof.Rows PySem.Calls
namespace Mine
set_option Elab.async false
set_option maxRecDepth 100000
set_option maxHeartbeats 8000000
/-- the ledger behind a call of int_divmod: new entries stand where nothing stood -/
def Fresh (h : Heap) (tl tl' : List (Addr × Obj)) : Prop := ∀ q ∈ tl', q.1 ∈ tl.map (·.1) ∨ h.objs.size ≤ q.1
theorem Fresh.refl (h : Heap) (tl : List (Addr × Obj)) : Fresh h tl tl := fun q hq => .inl (List.mem_map.mpr ⟨q, hq, rfl⟩)
theorem Fresh.step {h h' : Heap} {a b c : List (Addr × Obj)} (x : Fresh h a b) (y : ∀ q ∈ c, q.1 ∈ b.map (·.1) ∨ h'.objs.size ≤ q.1) (l : h.objs.size ≤ h'.objs.size) : Fresh h a c := fun q hq => by
  rcases y q hq with h1 | h1
  · obtain ⟨q', hq', e⟩ := List.mem_map.mp h1
    rw [← e]; exact x q' hq'
  · exact .inr (Nat.le_trans l h1)
/-- how often a prime divides: the loop's word -/
theorem tms_go {P f n : Nat} (h : n % P = 0) : tms P (f + 1) n = tms P f (n / P) + 1 := by simp [tms, h]
theorem tms_no {P f n : Nat} (h : n % P ≠ 0) : tms P f n = 0 := by cases f <;> simp [tms, h]
theorem tm_call (w : World) (p : Program) (loose : List Str) (mean : ExcName → Option Value) (mg mb : Str → Option Value) (tl : List (Addr × Obj)) (hT : Tabs tl)
  (n P : Nat) (ta tb : Tok) (hn : n ≤ 1000) (hP : 1 ≤ P) (hP2 : P ≤ 1000) :
  CtrF PySem.Challenge.rw_pk0092_02.row.prog w (hd.heap_39 w.params) p loose mean mg mb 336 84 [.int (n : Int) ta, .int (P : Int) tb] (fun base => CodeHd base 48 44 ∧ CodeHd base 55 51) tl
    (fun _ => True) (fun h v led' _ => (∃ t, v = .int ((tms P 7 n : Nat) : Int) t) ∧ Tabs led' ∧ Fresh h tl led') := by
  k_fill
  dsimp only [CtrF]
  intro dp un gd cn cs a' ccd cl outer A₀ base h₀ L m s Q E hC B F X N T hk hd hu _ hret
  refine wpAny_call ?_
  k_dflt (refine' code_defY ?k1 ?k2 ?k3 ?k4 ?k5 ?kA ?kF ?kK ?k6 ?k7 ?k8 ?k9 ?kB ?_ ?c2 ?c3 ?c4 ?c5; (case kA => exact rfl); (case kF => exact rfl); (case kK => assumption); (case k1 => k_asm); (case k2 => k_asm); (case k3 => k_asm); (case k4 => k_asm); (case k5 => k_asm); (case k6 => k_is); (case k7 => k_is); (case k8 => ktr_room); (case k9 => exact BindsTo.of_eq rfl); (case c5 => decide); (case kB => exact locs rfl); (case c2 => exact rfl); (case c3 => exact rfl); (case c4 => exact rfl); k_whole; intro g' L' h' hg FG' F' N' B' X' T' l1 lz; (try k_lt l1); (try dsimp only); (try k_fold))
  (repeat' ((fail_if_success first | (with_reducible show wpAny _ _ (exec (Stmt.While _ _ _ _) _) _ _ _) | (with_reducible show wpAny _ _ (exec (Stmt.For _ _ _ _ _) _) _ _ _) | (with_reducible show wpAny _ _ (pyIter _) _ _ _) | (with_reducible show wpAny _ _ (call (Value.ref _) _) _ _ _) | (with_reducible show InvEndN _ _ _ _ _ _ _) | (with_reducible show Mid _ _ _ _ _ _) | (with_reducible show WhileStep _ _ _ _ _ _ _)); ((first | (k_unfold; (try dsimp only)) | (k_end; wrow_close) | walk1 | (dsimp only; walk1) | (leave1; try dsimp only) | fail "no step"))))
  rename News g' _ _ _ => N9
  rename Fr g' _ _ _ => F9
  have hls9 := ltN (show L' < _ from F9.ns.lt)
  k_dflt (refine dm_law (keep := []) (by omega) (small280 (by omega)) (small280 (by omega)) hC B' F9 X' N9 T' rfl (by ktr_room) (by ktr_units) hT (fun _ hq => hq) (fun _ h => nomatch h) (fun _ h => nomatch h) ?_)
  rintro D t5 t6 c5 tl5 h5 tk5 hTb5 hold5 hsz5 hlt5 F5 N5
  rw [nat_fdiv, nat_fmod] at N5
  dsimp only at hold5 hsz5 hls9
  have hfr5 : Fresh s.heap tl tl5 := (Fresh.refl _ _).step hold5 (by omega)
  clear F9 N9
  simp only [List.nil_append] at N5
  dsimp only
  (repeat' ((fail_if_success first | (with_reducible show wpAny _ _ (exec (Stmt.While _ _ _ _) _) _ _ _) | (with_reducible show wpAny _ _ (exec (Stmt.For _ _ _ _ _) _) _ _ _) | (with_reducible show wpAny _ _ (pyIter _) _ _ _) | (with_reducible show wpAny _ _ (call (Value.ref _) _) _ _ _) | (with_reducible show InvEndN _ _ _ _ _ _ _) | (with_reducible show Mid _ _ _ _ _ _) | (with_reducible show WhileStep _ _ _ _ _ _ _)); ((first | (k_unfold; (try dsimp only)) | (k_end; wrow_close) | walk1 | (dsimp only; walk1) | (leave1; try dsimp only) | fail "no step"))))
  rename Fr g' _ _ _ => F9
  rename News g' _ _ _ => N9
  refine wp_mid F9 (fun m' n' => ∃ (t : Tok), m' (Str.ofString "times") = some (.int ((tms P 7 n : Nat) : Int) t) ∧ Tabs n' ∧ Fresh s.heap tl n') ?w1 ?_
  case w1 =>
    refine While_inv (news := tl5) (fun k m' n' => ∃ (N t : Nat) (t1 t2 t3 t4 : Tok), m' (Str.ofString "number") = some (.int ((N / P : Nat) : Int) t1) ∧ m' (Str.ofString "rest") = some (.int ((N % P : Nat) : Int) t2) ∧ m' (Str.ofString "times") = some (.int (t : Int) t3) ∧ m' (Str.ofString "prime") = some (.int (P : Int) t4)
      ∧ Tabs n' ∧ Fresh s.heap tl n' ∧ t ≤ 7 ∧ N ≤ 1000 ∧ tms P 7 n = t + tms P (7 - t) N ∧ k = 7 - t)
      F9 (fun q hq => N9 q (.tail _ hq)) ⟨n, 0, _, _, _, _, rfl, rfl, rfl, rfl, hTb5, hfr5, by omega, hn, by simp, rfl⟩ ?_
    clear F9 N9
    rintro k m1 n1 h1 tk1 F1 N1 ⟨N, t, t1, t2, t3, t4, e1, e2, e3, e4, hTb, hfr, ht7, hN, hrel, rfl⟩
    have F2 := fr_canon [(Str.ofString "number", .int ((N / P : Nat) : Int) t1), (Str.ofString "rest", .int ((N % P : Nat) : Int) t2), (Str.ofString "times", .int (t : Int) t3), (Str.ofString "prime", .int (P : Int) t4)] F1 (by simp [e1, e2, e3, e4])
    clear F1 e1 e2 e3 e4
    simp only [kstB] at F2
    have hN1 : N / P ≤ 1000 := Nat.le_trans (Nat.div_le_self _ _) hN
    obtain ⟨N1', hN1'⟩ : ∃ x, x = N / P := ⟨_, rfl⟩
    obtain ⟨R1, hR1⟩ : ∃ x, x = N % P := ⟨_, rfl⟩
    rw [← hN1', ← hR1] at F2
    rw [← hN1'] at hN1
    dsimp only
    (repeat' ((fail_if_success first | (with_reducible show wpAny _ _ (exec (Stmt.While _ _ _ _) _) _ _ _) | (with_reducible show wpAny _ _ (exec (Stmt.For _ _ _ _ _) _) _ _ _) | (with_reducible show wpAny _ _ (pyIter _) _ _ _) | (with_reducible show wpAny _ _ (call (Value.ref _) _) _ _ _) | (with_reducible show InvEndN _ _ _ _ _ _ _) | (with_reducible show Mid _ _ _ _ _ _) | (with_reducible show WhileStep _ _ _ _ _ _ _)); ((first | (k_unfold; (try dsimp only)) | (k_end; wrow_close) | walk1 | (dsimp only; walk1) | (leave1; try dsimp only) | fail "no step"))))
    · rename Fr g' _ _ _ => F2
      rename News g' _ _ _ => N1
      k_dflt (refine dm_law (keep := []) (by omega) (small280 (by omega)) (small280 (by omega)) hC B' F2 X' N1 T' rfl (by ktr_room) (by ktr_units) hTb (fun _ hq => hq) (fun _ h => nomatch h) (fun _ h => nomatch h) ?_)
      rintro D6 t5 t6 c6 tl6 h6 tk6 hTb6 hold6 hsz6 hlt6 F6 N6
      have hls6 := ltN (show L' < _ from F2.ns.lt)
      rw [nat_fdiv, nat_fmod] at N6
      dsimp only at hold6 hsz6 hls6
      have hfr6 : Fresh s.heap tl tl6 := hfr.step hold6 (by omega)
      clear F2 N1
      simp only [List.nil_append] at N6
      dsimp only
      (repeat' ((fail_if_success first | (with_reducible show wpAny _ _ (exec (Stmt.While _ _ _ _) _) _ _ _) | (with_reducible show wpAny _ _ (exec (Stmt.For _ _ _ _ _) _) _ _ _) | (with_reducible show wpAny _ _ (pyIter _) _ _ _) | (with_reducible show wpAny _ _ (call (Value.ref _) _) _ _ _) | (with_reducible show InvEndN _ _ _ _ _ _ _) | (with_reducible show Mid _ _ _ _ _ _) | (with_reducible show WhileStep _ _ _ _ _ _ _)); ((first | (k_unfold; (try dsimp only)) | (k_end; wrow_close) | walk1 | (dsimp only; walk1) | (leave1; try dsimp only) | fail "no step"))))
      rename Fr g' _ _ _ => F9
      rename News g' _ _ _ => N9
      refine WhileStep.intro (n' := 7 - (t + 1)) F9 (show News _ _ _ tl6 from fun q hq => N9 q (.tail _ hq)) (by omega) ⟨N1', t + 1, _, _, _, _, rfl, rfl, rfl, rfl, hTb6, hfr6, by omega, hN1, ?_, rfl⟩
      have e7 : 7 - t = (7 - (t + 1)) + 1 := by omega
      rw [hrel, e7, tms_go (by omega), ← hN1']
      omega
    · refine Mid.intro F2 N1 ⟨t3, ?_, hTb, hfr⟩
      have e7 : 7 - t = 0 := by omega
      rw [hrel, e7]; rfl
    · refine Mid.intro F2 N1 ⟨t3, ?_, hTb, hfr⟩
      rw [hrel, tms_no (by omega)]; rfl
  clear F9 N9
  rintro h3 tk3 m3 n3 F3 N3 ⟨t3, e1, hTb3, hfr3⟩
  have F9 := fr_canon [(Str.ofString "times", .int ((tms P 7 n : Nat) : Int) t3)] F3 (by simp [e1])
  clear F3 e1
  simp only [kstB] at F9
  dsimp only
  (repeat' ((fail_if_success first | (with_reducible show wpAny _ _ (exec (Stmt.While _ _ _ _) _) _ _ _) | (with_reducible show wpAny _ _ (exec (Stmt.For _ _ _ _ _) _) _ _ _) | (with_reducible show wpAny _ _ (pyIter _) _ _ _) | (with_reducible show wpAny _ _ (call (Value.ref _) _) _ _ _) | (with_reducible show InvEndN _ _ _ _ _ _ _) | (with_reducible show Mid _ _ _ _ _ _) | (with_reducible show WhileStep _ _ _ _ _ _ _)); ((first | (k_unfold; (try dsimp only)) | (k_end; wrow_close) | walk1 | (dsimp only; walk1) | (leave1; try dsimp only) | fail "no step"))))
  rename Fr g' _ _ _ => F8
  exact hret _ _ _ _ (by assumption) (by assumption) (fun b o hb e => F8.keep b o (hg b o hb e)) ⟨⟨_, rfl⟩, hTb3, hfr3⟩
end Mine
end LT2_part

section ForKit_part
open PySem PySem.W PyProof.Rows PySem.Calls
namespace Mine
/-- the end of a turn: the ledger may be another one, if it keeps off what the loop owns -/
def Turn (h₀ : Heap) (L : Addr) (J : (Str → Option Value) → List (Addr × Obj) → Prop) (own : List (Addr × Obj)) (s₁ : Shared) (Q : Flow → Shared → Prop) (f : Flow) (s₂ : Shared) : Prop :=
  match f with
  | .ret v => Q (.ret v) s₂
  | .brk => Q .next s₂
  | _ => ∃ h' tk m' nx, s₂ = { s₁ with heap := h', toks := tk } ∧ Fr h₀ L h' m' ∧ News h₀ L h' (nx ++ own) ∧ (∀ q ∈ nx, ∀ p ∈ own, q.1 ≠ p.1) ∧ J m' nx
section
variable {h₀ h' : Heap} {L : Addr} {J : (Str → Option Value) → List (Addr × Obj) → Prop} {own nx : List (Addr × Obj)} {s₁ : Shared} {Q : Flow → Shared → Prop} {m' : Str → Option Value} {tk : Nat}
theorem Turn.intro (F : Fr h₀ L h' m') (N : News h₀ L h' (nx ++ own)) (ho : ∀ q ∈ nx, ∀ p ∈ own, q.1 ≠ p.1) (hj : J m' nx) : Turn h₀ L J own s₁ Q .next { s₁ with heap := h', toks := tk } :=
  ⟨h', tk, m', nx, rfl, F, N, ho, hj⟩
theorem Turn.cont (F : Fr h₀ L h' m') (N : News h₀ L h' (nx ++ own)) (ho : ∀ q ∈ nx, ∀ p ∈ own, q.1 ≠ p.1) (hj : J m' nx) : Turn h₀ L J own s₁ Q .cont { s₁ with heap := h', toks := tk } :=
  ⟨h', tk, m', nx, rfl, F, N, ho, hj⟩
end
section
variable {prog : Program} {w : World} {A : Around} {E : Value → Shared → Prop} {s : Shared} {env : Env} {h₀ : Heap} {x : Str} {body : List Stmt} {Q : Flow → Shared → Prop}
theorem loop_own {I : Addr} {fp wr : List Addr} {n : Nat} {P : Nat → Value → Prop} {St : Nat → Heap → Prop} {m₀ : Str → Option Value} {news : List (Addr × Obj)} (J : Nat → (Str → Option Value) → List (Addr × Obj) → Prop)
    (W : Walks prog w A I fp wr n P St) (hLf : env.locals ∉ fp) (hfn : ∀ b ∈ fp, h₀.get? b = none) (hex : ∀ i h, St i h → ∀ b ∈ fp, ∃ o, h.get? b = some o) (hfp : ∀ q ∈ news, q.1 ∉ fp) (hst : St 0 s.heap) (F : Fr h₀ env.locals s.heap m₀) (N : News h₀ env.locals s.heap news) (hj : J 0 m₀ news)
    (turn : ∀ i v m₁ nx h tk own, i < n → P i v → J i m₁ nx → (∀ q ∈ nx, ∀ p ∈ own, q.1 ≠ p.1) → Fr h₀ env.locals h (fun y => if y = x then some v else m₁ y) → News h₀ env.locals h (nx ++ own) →
      wpAny (model prog w) A (execs body env) (Turn h₀ env.locals (J (i + 1)) own { s with heap := h, toks := tk } Q) E { s with heap := h, toks := tk })
    (done : ∀ m₁ nx h tk, J n m₁ nx → Fr h₀ env.locals h m₁ → News h₀ env.locals h nx → Q .next { s with heap := h, toks := tk }) :
    LoopAtV prog w A h₀ env x body Q E (.ref I) s := by
  let J' : Nat → (Str → Option Value) → List (Addr × Obj) → Prop := fun i m₁ nx => (∀ q ∈ nx, q.1 ∉ fp) ∧ J i m₁ nx
  refine ⟨I, fp, wr, n, P, St, m₀, news, J', rfl, W, hLf, fun b hb => hfn b (W.sub b hb), fun p hp hw => hfp p hp (W.sub _ hw), hst, F, N, ⟨hfp, hj⟩, ?_, ?_⟩
  · rintro i v m₁ nx s₁ own ⟨hh', tk', rfl⟩ hin hP ⟨hoff, hJ⟩ _ hown hget hall hSt F₁ N₁
    have hsep : ∀ q ∈ nx, ∀ p ∈ own, q.1 ≠ p.1 := fun q hq p hp e => hoff q hq (e ▸ hown p hp)
    have N₂ : News h₀ env.locals hh' (nx ++ own) := fun p hp => N₁ p ((List.mem_append.mp hp).elim (fun h => List.mem_append.mpr (.inr h)) fun h => List.mem_append.mpr (.inl h))
    refine wpAny_mono (turn i v m₁ nx hh' tk' own hin hP hJ hsep F₁ N₂) (fun f s₂ p => ?_) fun _ _ e => e
    have fin : (∃ h' tk m' nx, s₂ = { ({ s with heap := hh', toks := tk' } : Shared) with heap := h', toks := tk } ∧ Fr h₀ env.locals h' m' ∧ News h₀ env.locals h' (nx ++ own) ∧ (∀ q ∈ nx, ∀ p ∈ own, q.1 ≠ p.1) ∧ J (i + 1) m' nx) → LoopStepU h₀ env.locals wr own (J' (i + 1)) { s with heap := hh', toks := tk' } .next s₂ := by
      rintro ⟨h', tk, m', nx', e, F', N', ho, hm⟩
      have hoff' : ∀ q ∈ nx', q.1 ∉ fp := by
        intro q hq hf
        obtain ⟨o, ho'⟩ := hex _ _ hSt q.1 hf
        exact ho q hq _ (hall q.1 hf (hfn q.1 hf) o ho') rfl
      exact ⟨rfl, h', tk, m', nx', e, F', fun p hp => N' p ((List.mem_append.mp hp).elim (fun h => List.mem_append.mpr (.inr h)) fun h => List.mem_append.mpr (.inl h)), fun p hp hw => hoff' p hp (W.sub _ hw), hoff', hm⟩
    cases f with
    | ret v => exact .ret p
    | brk => exact .brk p
    | next => exact .next (fin p)
    | cont => exact .cont (fin p)
  · rintro h' tk m' news' F' N' _ ⟨_, hJ⟩
    exact done m' news' h' tk hJ F' N'
theorem for_range {r : Addr} {a₀ b₀ : Int} {t₀ u₀ v₀ : Tok} {n : Nat} {m₀ : Str → Option Value} {news : List (Addr × Obj)} (J : Nat → (Str → Option Value) → List (Addr × Obj) → Prop)
    (hh : A.handled = none) (hr : IsRange s.heap r a₀ b₀ 1 t₀ u₀ v₀) (hsmall : Builtin.Range.small a₀ b₀ 1 = true) (hn : Builtin.Range.rangeSize a₀ b₀ 1 = (n : Int)) (F : Fr h₀ env.locals s.heap m₀) (N : News h₀ env.locals s.heap news) (hj : J 0 m₀ news)
    (turn : ∀ i t m₁ nx h tk own, i < n → J i m₁ nx → (∀ q ∈ nx, ∀ p ∈ own, q.1 ≠ p.1) → Fr h₀ env.locals h (fun y => if y = x then some (.int (a₀ + (i : Int)) t) else m₁ y) → News h₀ env.locals h (nx ++ own) →
      wpAny (model prog w) A (execs body env) (Turn h₀ env.locals (J (i + 1)) own { s with heap := h, toks := tk } Q) E { s with heap := h, toks := tk })
    (done : ∀ m₁ nx h tk, J n m₁ nx → Fr h₀ env.locals h m₁ → News h₀ env.locals h nx → Q .next { s with heap := h, toks := tk }) :
    wpAny (model prog w) A (pyIter (.ref r)) (fun it s₂ => LoopAtV prog w A h₀ env x body Q E it s₂) E s := by
  refine wpAny_pyIter_range hr hsmall ?_
  have W : Walks prog w A s.heap.objs.size [s.heap.objs.size] [s.heap.objs.size] n (fun i v => i < n ∧ ∃ t, v = .int (a₀ + i * 1) t)
      (fun i h => IsRangeIter h s.heap.objs.size (a₀ + (i : Nat) * 1) ((n : Int) - (i : Nat)) 1) := (Walks.range hh _ a₀ 1 n).bound
  refine loop_own J W ?_ ?_ ?_ ?_ (by show IsRangeIter _ _ _ _ _; rw [hn]; simpa using Heap.get?_push_size _ rfl) (F.push _) (fun p hp => ⟨Heap.get?_push_of_some _ (N p hp).1, (N p hp).2⟩) hj ?_ ?_
  · intro hm
    exact absurd F.ns.lt ((List.mem_singleton.mp hm) ▸ Nat.lt_irrefl _)
  · intro b hb
    rw [List.mem_singleton.mp hb]
    exact next_is_new F
  · intro i h hst b hb
    rw [List.mem_singleton.mp hb]
    exact ⟨_, hst⟩
  · intro p hp hI
    exact absurd (Heap.lt_size (N p hp).1) ((List.mem_singleton.mp hI) ▸ Nat.lt_irrefl _)
  · rintro i v m₁ nx h tk own hi ⟨_, t, rfl⟩ hJ hoff F₁ N₁
    have e1 : a₀ + (i : Int) * 1 = a₀ + (i : Int) := by omega
    rw [e1] at F₁
    exact turn i t m₁ nx h tk own hi hJ hoff F₁ N₁
  · exact done
/-- a loop over a list of whole numbers in the ledger -/
theorem for_list {l : Addr} {vs : List Value} {ns : List Int} {c : Nat} {m₀ : Str → Option Value} {led news : List (Addr × Obj)} (J : Nat → (Str → Option Value) → List (Addr × Obj) → Prop)
    (hh : A.handled = none) (F : Fr h₀ env.locals s.heap m₀) (N : News h₀ env.locals s.heap led) (hl : (l, listOf vs.toArray c) ∈ led) (hi : IntsAre vs ns) (hs : ∀ q ∈ news, q ∈ led) (hne : ∀ q ∈ news, q.1 ≠ l) (hj : J 0 m₀ news)
    (turn : ∀ i z t m₁ nx h tk own, ns[i]? = some z → J i m₁ nx → (∀ q ∈ nx, ∀ p ∈ own, q.1 ≠ p.1) → Fr h₀ env.locals h (fun y => if y = x then some (.int z t) else m₁ y) → News h₀ env.locals h (nx ++ own) →
      wpAny (model prog w) A (execs body env) (Turn h₀ env.locals (J (i + 1)) own { s with heap := h, toks := tk } Q) E { s with heap := h, toks := tk })
    (done : ∀ m₁ nx h tk, J ns.length m₁ nx → Fr h₀ env.locals h m₁ → News h₀ env.locals h nx → Q .next { s with heap := h, toks := tk }) :
    wpAny (model prog w) A (pyIter (.ref l)) (fun it s₂ => LoopAtV prog w A h₀ env x body Q E it s₂) E s := by
  have hls : s.heap.IsList l vs.toArray := ⟨_, (N _ hl).1, rfl, c, rfl⟩
  have hlt : l < s.heap.objs.size := Heap.lt_size (N _ hl).1
  have hne' : l ≠ s.heap.objs.size := Nat.ne_of_lt hlt
  refine wpAny_pyIter_list hls ?_
  have W := Walks.list (prog := prog) (w := w) hh s.heap.objs.size l hne' vs.toArray
  have hlen : vs.toArray.size = ns.length := by simp [hi.length]
  rw [hlen] at W
  refine loop_own J W ?_ ?_ ?_ ?_ ⟨⟨_, Heap.get?_push_size _ rfl, rfl, rfl⟩, hls.at fun o e => Heap.get?_push_of_some _ e⟩ (F.push _) (fun p hp => ⟨Heap.get?_push_of_some _ (N p (hs p hp)).1, (N p (hs p hp)).2⟩) hj ?_ ?_
  · intro hm
    rcases List.mem_cons.mp hm with e | hm
    · exact absurd F.ns.lt (e ▸ Nat.lt_irrefl _)
    · exact (N _ hl).2.1 (List.mem_singleton.mp hm).symm
  · intro b hb
    rcases List.mem_cons.mp hb with e | hm
    · rw [e]; exact next_is_new F
    · rw [List.mem_singleton.mp hm]; exact (N _ hl).2.2
  · rintro i h ⟨⟨o1, h1, _⟩, ⟨o2, h2, _⟩⟩ b hb
    rcases List.mem_cons.mp hb with e | hm
    · exact ⟨o1, e ▸ h1⟩
    · exact ⟨o2, (List.mem_singleton.mp hm) ▸ h2⟩
  · intro p hp hI
    rcases List.mem_cons.mp hI with e | hm
    · exact absurd (Heap.lt_size (N p (hs p hp)).1) (e ▸ Nat.lt_irrefl _)
    · exact hne p hp (List.mem_singleton.mp hm)
  · intro i v m₁ nx h tk own hi' hP hJ hoff F₁ N₁
    obtain ⟨t, hx⟩ := hi.get i ns[i] (by simp [hi'])
    have hv : v = .int ns[i] t := by
      have hP' : vs[i]? = some v := by simpa using hP
      rw [hx] at hP'; exact (Option.some.inj hP').symm
    subst hv
    exact turn i _ t m₁ nx h tk own (by simp [hi']) hJ hoff F₁ N₁
  · exact done
end
end Mine
end ForKit_part

section ForTx_part
open PySem PySem.W PyProof.Rows PySem.Calls
namespace Mine
section
variable {prog : Program} {w : World} {A : Around} {E : Value → Shared → Prop} {s : Shared} {env : Env} {h₀ : Heap} {x : Str} {body : List Stmt} {Q : Flow → Shared → Prop}
/-- a loop over a text's signs -/
theorem for_text {y : List Nat} {u : Tok} {m₀ : Str → Option Value} {news : List (Addr × Obj)} (J : Nat → (Str → Option Value) → List (Addr × Obj) → Prop)
    (hh : A.handled = none) (F : Fr h₀ env.locals s.heap m₀) (N : News h₀ env.locals s.heap news) (hj : J 0 m₀ news)
    (turn : ∀ i c t m₁ nx h tk own, y[i]? = some c → J i m₁ nx → (∀ q ∈ nx, ∀ p ∈ own, q.1 ≠ p.1) → Fr h₀ env.locals h (fun z => if z = x then some (.str (tx [c]) t) else m₁ z) → News h₀ env.locals h (nx ++ own) →
      wpAny (model prog w) A (execs body env) (Turn h₀ env.locals (J (i + 1)) own { s with heap := h, toks := tk } Q) E { s with heap := h, toks := tk })
    (done : ∀ m₁ nx h tk, J y.length m₁ nx → Fr h₀ env.locals h m₁ → News h₀ env.locals h nx → Q .next { s with heap := h, toks := tk }) :
    wpAny (model prog w) A (pyIter (.str (tx y) u)) (fun it s₂ => LoopAtV prog w A h₀ env x body Q E it s₂) E s := by
  have hsz : (tx y).cps.size = y.length := by simp [tx]
  have go : ∀ (o : Obj) (nm : String) (W : Walks prog w A s.heap.objs.size [s.heap.objs.size] [s.heap.objs.size] (tx y).cps.size (SignAt (tx y)) (fun i h => h.IsStrIter s.heap.objs.size nm (tx y) u i)),
      (s.heap.push o).IsStrIter s.heap.objs.size nm (tx y) u 0 → LoopAtV prog w A h₀ env x body Q E (.ref s.heap.objs.size) { s with heap := s.heap.push o } := by
    intro o nm W hst
    refine loop_own J W ?_ ?_ ?_ ?_ hst (F.push _) (fun p hp => ⟨Heap.get?_push_of_some _ (N p hp).1, (N p hp).2⟩) hj ?_ ?_
    · intro hm
      exact absurd F.ns.lt ((List.mem_singleton.mp hm) ▸ Nat.lt_irrefl _)
    · intro b hb
      rw [List.mem_singleton.mp hb]
      exact next_is_new F
    · rintro i h ⟨o', ho', _⟩ b hb
      rw [List.mem_singleton.mp hb]
      exact ⟨o', ho'⟩
    · intro p hp hI
      exact absurd (Heap.lt_size (N p hp).1) ((List.mem_singleton.mp hI) ▸ Nat.lt_irrefl _)
    · rintro i v m₁ nx h tk own hi ⟨c, t, hc, rfl⟩ hJ hoff F₁ N₁
      exact turn i c t m₁ nx h tk own (by simpa [tx] using hc) hJ hoff F₁ N₁
    · intro m₁ nx h tk hJ F₁ N₁
      rw [hsz] at hJ
      exact done m₁ nx h tk hJ F₁ N₁
  cases ha : (tx y).cps.all (· < 128)
  · exact wpAny_pyIter_wide ha (go _ _ (Walks.strWide hh _ _ _) ⟨_, Heap.get?_push_size _ rfl, rfl, rfl⟩)
  · exact wpAny_pyIter_ascii ha (go _ _ (Walks.strAscii hh _ _ _) ⟨_, Heap.get?_push_size _ rfl, rfl, rfl⟩)
end
end Mine
end ForTx_part

section TxOps_part
open PySem PySem.W PyProof.Rows PySem.Calls
namespace Mine
theorem lit_a : Str.ofString "a" = tx [97] := rfl
theorem lit_A : Str.ofString "A" = tx [65] := rfl
theorem lit_b : Str.ofString "b" = tx [98] := rfl
theorem lit_B : Str.ofString "B" = tx [66] := rfl
theorem lit_no : Str.ofString "" = tx [] := rfl
theorem fold_app (l : List (Array Nat)) : ∀ a : Array Nat, (l.foldl (· ++ ·) a).toList = a.toList ++ (l.map (·.toList)).flatten := by
  induction l with
  | nil => intro a; simp
  | cons b l ih => intro a; rw [List.foldl_cons, ih]; simp
theorem tx_mul (x : List Nat) (q : Nat) : Txt.mul (tx x) (q : Int) = tx (List.replicate q x).flatten := by
  unfold Txt.mul
  by_cases h : (q : Int) < 1
  · rw [if_pos h]
    have : q = 0 := by omega
    subst this
    rfl
  · rw [if_neg h]
    apply Str.ext'
    apply Array.ext'
    simp only [Int.toNat_natCast]
    split
    · rename_i hc
      rw [tx_cps, tx_cps]
      rw [Bool.or_eq_true, beq_iff_eq, beq_iff_eq, tx_len] at hc
      rcases hc with h1 | h1
      · have : q = 1 := by omega
        subst this; simp
      · have : x = [] := List.length_eq_zero_iff.mp h1
        subst this; simp
    · show (Array.toList _) = _
      rw [fold_app, tx_cps, List.map_replicate, tx_cps]
      simp
section
variable {prog : Program} {w : World} {A : Around} {E : Value → Shared → Prop} {s : Shared} {x y : List Nat} {t u : Tok} {Q : Value → Shared → Prop}
theorem mul_tx {q : Nat} (hx : x.length ≤ 16) (hq : q ≤ 10000) (h : ∀ t' k, Q (.str (tx (List.replicate q x).flatten) t') { s with toks := k }) : wpAny (model prog w) A (binaryOp .Mult (.str (tx x) t) (.int (q : Int) u)) Q E s := by
  refine SB.mul (mulOk_of 16 10000 (by rw [tx_len]; exact hx) (by omega) (by omega) (by decide) (by decide)) ?_
  rw [tx_mul]
  exact h
theorem len_tx {k : Nat} (e : x.length = k) (hk : k < 1000000) (h : Q (.int (k : Int) (s.toks + 1)) { s with toks := s.toks + 1 + 1 }) : wpAny (model prog w) A (call (.builtin "len") [.str (tx x) t]) Q E s := by
  refine SBL.len (by rw [tx_len]; omega) ?_
  rw [tx_len, e]
  exact h
theorem add_tx (hx : x.length ≤ 1000000) (hy : y.length ≤ 1000000) (h : ∀ t' k, Q (.str (tx (x ++ y)) t') { s with toks := k }) : wpAny (model prog w) A (binaryOp .Add (.str (tx x) t) (.str (tx y) u)) Q E s := by
  refine KOpn.add (by rw [tx_len, tx_len]; omega) fun t' k _ => ?_
  rw [tx_app]
  exact h t' k
end
section
variable {prog : Program} {w : World} {A : Around} {E : Value → Shared → Prop} {s : Shared} {value slice : Expr} {x : List Nat} {t : Tok} {h₀ : Heap} {L : Addr} {m : Str → Option Value} {news : List (Addr × Obj)} {Q : Value → Shared → Prop} {k : Int} {u : Tok}
theorem from_tx (hF : Fr h₀ L s.heap m) (hN : News h₀ L s.heap news) (h0 : 0 ≤ k) (hl : x.length ≤ 1000000) (h : ∀ h' t' j, Fr h₀ L h' m → News h₀ L h' news → Q (.str (tx (x.drop k.toNat)) t') { s with heap := h', toks := j })
    (hs : subscripted slice false (.str (tx x) t) (.ref s.heap.objs.size) = operate [.ref s.heap.objs.size, .str (tx x) t] (getItem (.str (tx x) t) (.ref s.heap.objs.size)) := by with_unfolding_all rfl)
    (ht : ∀ r, letTemporaryGo value (.str (tx x) t) r = pure () := by intro _; with_unfolding_all rfl) :
    wpAny (model prog w) A (subscriptTail value slice (.str (tx x) t) (.ref s.heap.objs.size)) Q E { s with heap := s.heap.push { cls := .type "slice", data := .fields #[.int k u, .none, .none] } } :=
  slice_strN_sn hF hN (fun h' t' j F N => by rw [tx_from h0]; exact h h' t' j F N) hs ht (by rw [tx_len, sizeLine_eq]; omega)
theorem to_tx (hF : Fr h₀ L s.heap m) (hN : News h₀ L s.heap news) (h0 : 0 ≤ k) (h1 : k ≤ (x.length : Int)) (hl : x.length ≤ 1000000) (h : ∀ h' t' j, Fr h₀ L h' m → News h₀ L h' news → Q (.str (tx (x.take k.toNat)) t') { s with heap := h', toks := j })
    (hs : subscripted slice false (.str (tx x) t) (.ref s.heap.objs.size) = operate [.ref s.heap.objs.size, .str (tx x) t] (getItem (.str (tx x) t) (.ref s.heap.objs.size)) := by with_unfolding_all rfl)
    (ht : ∀ r, letTemporaryGo value (.str (tx x) t) r = pure () := by intro _; with_unfolding_all rfl) :
    wpAny (model prog w) A (subscriptTail value slice (.str (tx x) t) (.ref s.heap.objs.size)) Q E { s with heap := s.heap.push { cls := .type "slice", data := .fields #[.none, .int k u, .none] } } :=
  slice_strN_ns hF hN (fun h' t' j F N => by rw [tx_to h0 h1]; exact h h' t' j F N) hs ht (by rw [tx_len, sizeLine_eq]; omega)
theorem item_tx {c : Nat} (h0 : 0 ≤ k) (hk : k < 1000000) (hc : x[k.toNat]? = some c) (h : Q (.str (tx [c]) s.toks) { s with toks := s.toks + 1 })
    (hs : subscripted slice false (.str (tx x) t) (.int k u) = operate [.str (tx x) t, .int k u] (getItem (.str (tx x) t) (.int k u)) := by with_unfolding_all rfl)
    (ht : ∀ r, letTemporaryGo value (.str (tx x) t) r = pure () := by intro _; with_unfolding_all rfl) :
    wpAny (model prog w) A (subscriptTail value slice (.str (tx x) t) (.int k u)) Q E s :=
  item_str (fitsSsize_of (N := 1000000) (by omega) (by omega) (by decide)) (by omega) (by rw [tx_len]; have := (List.getElem?_eq_some_iff.mp hc).1; omega) (fun _ => by rw [tx_item h0 hc]; exact h) hs ht
/-- an item of a list of texts, counted from either end -/
theorem item_txs {a : Addr} {c : Nat} {vs : List Value} {xs : List (List Nat)} (N : News h₀ L s.heap news) (hm : (a, listOf vs.toArray c) ∈ news) (hi : StrsAre vs (xs.map tx)) (j : Nat) (hj : j < xs.length) (hb : xs.length ≤ 1000000) (hk : k = (j : Int) ∨ k = (j : Int) - (xs.length : Int))
    (h : ∀ t', Q (.str (tx (xs.getD j [])) t') s)
    (hs : subscripted slice false (.ref a) (.int k u) = operate [.ref a, .int k u] (getItem (.ref a) (.int k u)) := by with_unfolding_all rfl) (hg : ∀ r, letTemporaryGo value (.ref a) r = pure () := by intro _; with_unfolding_all rfl) :
    wpAny (model prog w) A (subscriptTail value slice (.ref a) (.int k u)) Q E s := by
  have hl : s.heap.IsList a vs.toArray := ⟨_, (N _ hm).1, rfl, c, rfl⟩
  have e : (xs.map tx)[j]? = some (tx (xs.getD j [])) := by simp [List.getD, hj]
  obtain ⟨t', ht'⟩ := StrsAre.at hi e
  have hlen : vs.length = xs.length := by rw [hi.length, List.length_map]
  rcases hk with rfl | rfl
  · exact item_listL hl (by omega) (by omega) (by simpa using ht') (h t') hs hg
  · refine subscriptTail_builtin hl.typeIs slot_list_getitem.lookup (wpAny_getItem_list_neg hl (by omega) (by rw [List.size_toArray, hlen]; omega) (by omega) ?_ (h t')) hs hg
    have e2 : ((j : Int) - (xs.length : Int) + (vs.toArray.size : Int)).toNat = j := by rw [List.size_toArray, hlen]; omega
    rw [e2]
    simpa using ht'
end
theorem cnt_filter (c : Nat) : ∀ l : List Nat, PyProof.Rows.cnt c l = (((l.filter (· == c)).length : Nat) : Int)
  | [] => rfl
  | n :: r => by
    rw [PyProof.Rows.cnt_cons, cnt_filter c r, List.filter_cons]
    by_cases h : n = c
    · subst h; simp; omega
    · simp [h]
theorem tx_count (l : List Nat) (c : Nat) : Txt.count (tx l) (tx [c]) = (((l.filter (· == c)).length : Nat) : Int) := by
  have h := count_cnt (tx l) c
  rw [tx_cps, cnt_filter] at h
  exact h
section
variable {prog : Program} {w : World} {A : Around} {E : Value → Shared → Prop} {s : Shared} {x : List Nat} {t u : Tok} {Q : Value → Shared → Prop}
theorem count_tx {c : Nat} (h : Q (.int (((x.filter (· == c)).length : Nat) : Int) s.toks) { s with toks := s.toks + 1 }) : wpAny (model prog w) A (call (.builtin "str.count") [.str (tx x) t, .str (tx [c]) u]) Q E s := by
  refine SC.count ?_
  rw [tx_count]; exact h
end
theorem place_div {pl : Int} {S p M k : Nat} (hS : 0 < S) (hp : pl.fmod (S : Int) = (p : Int)) :
    (pl + (k : Int) * (M : Int)).fdiv (S : Int) = pl.fdiv (S : Int) + (((p + k * M) / S : Nat) : Int) ∧ (pl + (k : Int) * (M : Int)).fmod (S : Int) = (((p + k * M) % S : Nat) : Int) := by
  have hS' : (0 : Int) < (S : Int) := by omega
  have h0 : pl = (S : Int) * pl.fdiv (S : Int) + (p : Int) := by rw [← hp]; exact (Int.mul_fdiv_add_fmod pl S).symm
  have h1 : pl + (k : Int) * (M : Int) = ((p + k * M : Nat) : Int) + (S : Int) * pl.fdiv (S : Int) := by
    conv => lhs; rw [h0]
    rw [Int.natCast_add, Int.natCast_mul]; omega
  rw [h1]
  constructor
  · rw [Int.fdiv_eq_ediv_of_nonneg _ (by omega), Int.add_mul_ediv_left _ _ (by omega), Int.natCast_ediv]
    omega
  · rw [Int.fmod_eq_emod_of_nonneg _ (by omega), Int.add_mul_emod_self_left, Int.natCast_emod]
theorem rep1 (q c : Nat) : (List.replicate q [c]).flatten = List.replicate q c := by
  induction q with
  | zero => rfl
  | succ q ih => rw [List.replicate_succ, List.flatten_cons, ih]; rfl
section
variable {prog : Program} {w : World} {A : Around} {E : Value → Shared → Prop} {s : Shared} {h₀ : Heap} {L : Addr} {m : Str → Option Value} {news : List (Addr × Obj)} {Q : Value → Shared → Prop}
theorem min3_N {a b c : Int} {t u x : Tok} (hh : A.handled = none) (F : Fr h₀ L s.heap m) (N : News h₀ L s.heap news)
    (h : ∀ h' tk t', Fr h₀ L h' m → News h₀ L h' news → Q (.int (min a (min b c)) t') { s with heap := h', toks := tk }) :
    wpAny (model prog w) A (call (.builtin "min") [.int a t, .int b u, .int c x]) Q E s :=
  min_three_ints hh fun h' tk hk => by
    have key := fun t' => h h' tk t' (F.grownK hk) (N.grown hk)
    by_cases h1 : b < a <;> by_cases h2 : c < b <;> by_cases h3 : c < a <;> simp only [h1, h2, h3, if_true, if_false]
    · have e : min a (min b c) = c := by omega
      rw [e] at key; exact key _
    · omega
    · have e : min a (min b c) = b := by omega
      rw [e] at key; exact key _
    · have e : min a (min b c) = b := by omega
      rw [e] at key; exact key _
    · have e : min a (min b c) = c := by omega
      rw [e] at key; exact key _
    · have e : min a (min b c) = a := by omega
      rw [e] at key; exact key _
    · omega
    · have e : min a (min b c) = a := by omega
      rw [e] at key; exact key _
end
end Mine
end TxOps_part

section LF2_part
open PySem PySem.W PyProof.Rows PySem.Calls
namespace Mine
set_option Elab.async false
set_option maxRecDepth 100000
set_option maxHeartbeats 8000000
theorem Fresh.off {h' : Heap} {L h₀} {tl tl' own nx : List (Addr × Obj)} (hold : ∀ q ∈ tl', q.1 ∈ tl.map (·.1) ∨ h'.objs.size ≤ q.1) (hown : ∀ q ∈ tl, ∀ p ∈ own, q.1 ≠ p.1) (N : News h₀ L h' (nx ++ own)) : ∀ q ∈ tl', ∀ p ∈ own, q.1 ≠ p.1 := by
  intro q hq p hp
  rcases hold q hq with h | h
  · obtain ⟨q', hq', e⟩ := List.mem_map.mp h
    rw [← e]
    exact hown q' hq' p hp
  · have h2 := Heap.lt_size (N p (List.mem_append_right _ hp)).1
    exact fun e => absurd h2 (Nat.not_lt.mpr (e ▸ h))
def figN (P n i : Nat) : Nat × List Nat := (sgn7.take i).foldl (figS P) (n, [])
theorem figN_succ {P n i c : Nat} (h : sgn7[i]? = some c) : figN P n (i + 1) = ((figN P n i).1 / P, List.replicate ((figN P n i).1 % P) c ++ (figN P n i).2) := by
  unfold figN
  rw [List.take_add_one, h, List.foldl_append]
  rfl
theorem figN_le (P n : Nat) : ∀ i, (figN P n i).1 ≤ n
  | 0 => Nat.le_refl _
  | i + 1 => by
    rcases h : sgn7[i]? with _ | c
    · have : figN P n (i + 1) = figN P n i := by unfold figN; rw [List.take_add_one, h]; simp
      rw [this]; exact figN_le P n i
    · rw [figN_succ h]; exact Nat.le_trans (Nat.div_le_self _ _) (figN_le P n i)
theorem figN_len (P n : Nat) (hP : 1 ≤ P) : ∀ i, (figN P n i).2.length ≤ i * P
  | 0 => Nat.zero_le _
  | i + 1 => by
    have ih := figN_len P n hP i
    rw [Nat.succ_mul]
    rcases h : sgn7[i]? with _ | c
    · have : figN P n (i + 1) = figN P n i := by unfold figN; rw [List.take_add_one, h]; simp
      rw [this]; omega
    · rw [figN_succ h, List.length_append, List.length_replicate]
      have := Nat.mod_lt (figN P n i).1 (show 0 < P by omega)
      omega
theorem lf_call (w : World) (p : Program) (loose : List Str) (mean : ExcName → Option Value) (mg mb : Str → Option Value) (tl : List (Addr × Obj)) (hT : Tabs tl)
  (n P : Nat) (ta tb : Tok) (hn : n ≤ 1000) (hP : 1 ≤ P) (hP2 : P ≤ 1000) :
  CtrF PySem.Challenge.rw_pk0092_02.row.prog w (hd.heap_39 w.params) p loose mean mg mb 336 91 [.int (n : Int) ta, .int (P : Int) tb] (fun base => CodeHd base 48 44 ∧ CodeHd base 55 51) tl
    (fun _ => True) (fun h v led' _ => (∃ t, v = .str (tx (wr P n)) t) ∧ Tabs led' ∧ Fresh h tl led') := by
  k_fill
  dsimp only [CtrF]
  intro dp un gd cn cs a' ccd cl outer A₀ base h₀ L m s Q E hC B F X N T hk hd hu _ hret
  refine wpAny_call ?_
  k_dflt (refine' code_defY ?k1 ?k2 ?k3 ?k4 ?k5 ?kA ?kF ?kK ?k6 ?k7 ?k8 ?k9 ?kB ?_ ?c2 ?c3 ?c4 ?c5; (case kA => exact rfl); (case kF => exact rfl); (case kK => assumption); (case k1 => k_asm); (case k2 => k_asm); (case k3 => k_asm); (case k4 => k_asm); (case k5 => k_asm); (case k6 => k_is); (case k7 => k_is); (case k8 => ktr_room); (case k9 => exact BindsTo.of_eq rfl); (case c5 => decide); (case kB => exact locs rfl); (case c2 => exact rfl); (case c3 => exact rfl); (case c4 => exact rfl); k_whole; intro g' L' h' hg FG' F' N' B' X' T' l1 lz; (try k_lt l1); (try dsimp only); (try k_fold))
  (repeat' ((fail_if_success first | (with_reducible show wpAny _ _ (exec (Stmt.While _ _ _ _) _) _ _ _) | (with_reducible show wpAny _ _ (exec (Stmt.For _ _ _ _ _) _) _ _ _) | (with_reducible show wpAny _ _ (pyIter _) _ _ _) | (with_reducible show wpAny _ _ (call (Value.ref _) _) _ _ _) | (with_reducible show InvEndN _ _ _ _ _ _ _) | (with_reducible show Mid _ _ _ _ _ _) | (with_reducible show WhileStep _ _ _ _ _ _ _) | (with_reducible show wpAny _ _ (eval (Expr.ListComp _ _ _ _) _) _ _ _) | (with_reducible show wpAny _ _ (call (Value.builtin "sorted") _) _ _ _) | (with_reducible show wpAny _ _ (subscriptTail (Expr.Name "turns" _) _ (Value.ref _) (Value.int _ _)) _ _ _) | (with_reducible show wpAny _ _ (call (Value.builtin "str.count") _) _ _ _) | (with_reducible show wpAny _ _ (binaryOp .Add (Value.str _ _) (Value.str _ _)) _ _ _) | (with_reducible show wpAny _ _ (binaryOp .Mult (Value.str _ _) (Value.int _ _)) _ _ _) | (with_reducible show wpAny _ _ (subscriptTail _ _ (Value.str _ _) (Value.int _ _)) _ _ _) | (with_reducible show Turn _ _ _ _ _ _ _ _) | (with_reducible show LCg.CompSrc _ _ _ _ _ _ _ _ _ _ _ _ _ _) | (with_reducible show LCg.CompEnd _ _ _ _ _ _ _ _ _ _ _ _ _ _)); ((first | (k_unfold; (try dsimp only)) | (k_end; wrow_close) | walk1 | (dsimp only; walk1) | (leave1; try dsimp only) | fail "no step"))))
  rename Fr g' _ _ _ => F9
  rename News g' _ _ _ => N9
  refine wp_mid F9 (fun m' n' => ∃ (t : Tok), m' (Str.ofString "text") = some (.str (tx (wr P n)) t) ∧ Tabs n' ∧ Fresh s.heap tl n') ?w1 ?_
  case w1 =>
    with_unfolding_all refine' For_invVF F9 ?k1 ?k2 ?_
    case k1 => exact rfl
    case k2 => exact rfl
    (repeat' ((fail_if_success first | (with_reducible show wpAny _ _ (exec (Stmt.While _ _ _ _) _) _ _ _) | (with_reducible show wpAny _ _ (exec (Stmt.For _ _ _ _ _) _) _ _ _) | (with_reducible show wpAny _ _ (pyIter _) _ _ _) | (with_reducible show wpAny _ _ (call (Value.ref _) _) _ _ _) | (with_reducible show InvEndN _ _ _ _ _ _ _) | (with_reducible show Mid _ _ _ _ _ _) | (with_reducible show WhileStep _ _ _ _ _ _ _) | (with_reducible show wpAny _ _ (eval (Expr.ListComp _ _ _ _) _) _ _ _) | (with_reducible show wpAny _ _ (call (Value.builtin "sorted") _) _ _ _) | (with_reducible show wpAny _ _ (subscriptTail (Expr.Name "turns" _) _ (Value.ref _) (Value.int _ _)) _ _ _) | (with_reducible show wpAny _ _ (call (Value.builtin "str.count") _) _ _ _) | (with_reducible show wpAny _ _ (binaryOp .Add (Value.str _ _) (Value.str _ _)) _ _ _) | (with_reducible show wpAny _ _ (binaryOp .Mult (Value.str _ _) (Value.int _ _)) _ _ _) | (with_reducible show wpAny _ _ (subscriptTail _ _ (Value.str _ _) (Value.int _ _)) _ _ _) | (with_reducible show Turn _ _ _ _ _ _ _ _) | (with_reducible show LCg.CompSrc _ _ _ _ _ _ _ _ _ _ _ _ _ _) | (with_reducible show LCg.CompEnd _ _ _ _ _ _ _ _ _ _ _ _ _ _)); ((first | (k_unfold; (try dsimp only)) | (k_end; wrow_close) | walk1 | (dsimp only; walk1) | (leave1; try dsimp only) | fail "no step"))))
    rename Fr g' _ _ _ => F8
    rename News g' _ _ _ => N8
    refine for_text (y := sgn7) (news := tl) (fun i m' n' => ∃ (t1 t2 t3 : Tok), m' (Str.ofString "number") = some (.int ((figN P n i).1 : Int) t1) ∧ m' (Str.ofString "text") = some (.str (tx (figN P n i).2) t2) ∧ m' (Str.ofString "prime") = some (.int (P : Int) t3) ∧ Tabs n' ∧ Fresh s.heap tl n')
      rfl F8 N8 ⟨_, _, _, rfl, rfl, rfl, hT, Fresh.refl _ _⟩ ?_ ?_
    · clear F8 N8
      rintro i c t m5 n5 h5 tk5 own hc ⟨t1', t2', t3', e1, e2, e3, hTb5, hfr5⟩ hown F5 N5
      have F6 := fr_canon [(Str.ofString "sign", .str (tx [c]) t), (Str.ofString "number", .int ((figN P n i).1 : Int) t1'), (Str.ofString "text", .str (tx (figN P n i).2) t2'), (Str.ofString "prime", .int (P : Int) t3')] F5 (List.forall_mem_cons.mpr ⟨if_pos rfl, List.forall_mem_cons.mpr ⟨(if_neg (show ¬ Str.ofString _ = Str.ofString _ by decide)).trans e1, List.forall_mem_cons.mpr ⟨(if_neg (show ¬ Str.ofString _ = Str.ofString _ by decide)).trans e2, List.forall_mem_cons.mpr ⟨(if_neg (show ¬ Str.ofString _ = Str.ofString _ by decide)).trans e3, List.forall_mem_nil _⟩⟩⟩⟩)
      clear F5 e1 e2 e3
      simp only [kstB] at F6
      have hi7 : i < 7 := (List.getElem?_eq_some_iff.mp hc).1
      have hfs := figN_succ (P := P) (n := n) hc
      have hfl := figN_le P n i
      have hft := figN_len P n hP i
      have hft7 : (figN P n i).2.length ≤ 7000 := Nat.le_trans hft (Nat.mul_le_mul (show i ≤ 7 by omega) hP2)
      clear hft
      generalize figN P n (i + 1) = fs at hfs ⊢
      subst hfs
      generalize (figN P n i).1 = N at *
      generalize (figN P n i).2 = X0 at *
      dsimp only
      (repeat' ((fail_if_success first | (with_reducible show wpAny _ _ (exec (Stmt.While _ _ _ _) _) _ _ _) | (with_reducible show wpAny _ _ (exec (Stmt.For _ _ _ _ _) _) _ _ _) | (with_reducible show wpAny _ _ (pyIter _) _ _ _) | (with_reducible show wpAny _ _ (call (Value.ref _) _) _ _ _) | (with_reducible show InvEndN _ _ _ _ _ _ _) | (with_reducible show Mid _ _ _ _ _ _) | (with_reducible show WhileStep _ _ _ _ _ _ _) | (with_reducible show wpAny _ _ (eval (Expr.ListComp _ _ _ _) _) _ _ _) | (with_reducible show wpAny _ _ (call (Value.builtin "sorted") _) _ _ _) | (with_reducible show wpAny _ _ (subscriptTail (Expr.Name "turns" _) _ (Value.ref _) (Value.int _ _)) _ _ _) | (with_reducible show wpAny _ _ (call (Value.builtin "str.count") _) _ _ _) | (with_reducible show wpAny _ _ (binaryOp .Add (Value.str _ _) (Value.str _ _)) _ _ _) | (with_reducible show wpAny _ _ (binaryOp .Mult (Value.str _ _) (Value.int _ _)) _ _ _) | (with_reducible show wpAny _ _ (subscriptTail _ _ (Value.str _ _) (Value.int _ _)) _ _ _) | (with_reducible show Turn _ _ _ _ _ _ _ _) | (with_reducible show LCg.CompSrc _ _ _ _ _ _ _ _ _ _ _ _ _ _) | (with_reducible show LCg.CompEnd _ _ _ _ _ _ _ _ _ _ _ _ _ _)); ((first | (k_unfold; (try dsimp only)) | (k_end; wrow_close) | walk1 | (dsimp only; walk1) | (leave1; try dsimp only) | fail "no step"))))
      have hls6 := ltN (show L' < _ from F6.ns.lt)
      k_dflt (refine dm_law (tl := n5) (keep := own) (by omega) (small280 (by omega)) (small280 (by omega)) hC B' F6 X' N5 T' rfl (by ktr_room) (by ktr_units) hTb5 (fun _ hq => List.mem_append_left _ hq) (fun _ hq => List.mem_append_right _ hq) (fun q hq => .inr fun q' hq' => (hown q' hq' q hq).symm) ?_)
      rintro D t5 t6 c5 tl6 h6 tk6 hTb6 hold6 hsz6 hlt6 F7 N7
      have hown6 := Fresh.off hold6 hown N5
      rw [nat_fdiv, nat_fmod] at N7
      dsimp only at hold6 hsz6 hls6
      have hfr6 : Fresh s.heap tl tl6 := hfr5.step hold6 (by omega)
      clear F6 N5 hlt6 hsz6 hold6
      dsimp only
      (repeat' ((fail_if_success first | (with_reducible show wpAny _ _ (exec (Stmt.While _ _ _ _) _) _ _ _) | (with_reducible show wpAny _ _ (exec (Stmt.For _ _ _ _ _) _) _ _ _) | (with_reducible show wpAny _ _ (pyIter _) _ _ _) | (with_reducible show wpAny _ _ (call (Value.ref _) _) _ _ _) | (with_reducible show InvEndN _ _ _ _ _ _ _) | (with_reducible show Mid _ _ _ _ _ _) | (with_reducible show WhileStep _ _ _ _ _ _ _) | (with_reducible show wpAny _ _ (eval (Expr.ListComp _ _ _ _) _) _ _ _) | (with_reducible show wpAny _ _ (call (Value.builtin "sorted") _) _ _ _) | (with_reducible show wpAny _ _ (subscriptTail (Expr.Name "turns" _) _ (Value.ref _) (Value.int _ _)) _ _ _) | (with_reducible show wpAny _ _ (call (Value.builtin "str.count") _) _ _ _) | (with_reducible show wpAny _ _ (binaryOp .Add (Value.str _ _) (Value.str _ _)) _ _ _) | (with_reducible show wpAny _ _ (binaryOp .Mult (Value.str _ _) (Value.int _ _)) _ _ _) | (with_reducible show wpAny _ _ (subscriptTail _ _ (Value.str _ _) (Value.int _ _)) _ _ _) | (with_reducible show Turn _ _ _ _ _ _ _ _) | (with_reducible show LCg.CompSrc _ _ _ _ _ _ _ _ _ _ _ _ _ _) | (with_reducible show LCg.CompEnd _ _ _ _ _ _ _ _ _ _ _ _ _ _)); ((first | (k_unfold; (try dsimp only)) | (k_end; wrow_close) | walk1 | (dsimp only; walk1) | (leave1; try dsimp only) | fail "no step"))))
      k_dflt (refine mul_tx (x := [c]) (by simp) (by have := Nat.mod_lt N (show 0 < P by omega); omega) ?_)
      intro t7 k7
      rw [rep1]
      (repeat' ((fail_if_success first | (with_reducible show wpAny _ _ (exec (Stmt.While _ _ _ _) _) _ _ _) | (with_reducible show wpAny _ _ (exec (Stmt.For _ _ _ _ _) _) _ _ _) | (with_reducible show wpAny _ _ (pyIter _) _ _ _) | (with_reducible show wpAny _ _ (call (Value.ref _) _) _ _ _) | (with_reducible show InvEndN _ _ _ _ _ _ _) | (with_reducible show Mid _ _ _ _ _ _) | (with_reducible show WhileStep _ _ _ _ _ _ _) | (with_reducible show wpAny _ _ (eval (Expr.ListComp _ _ _ _) _) _ _ _) | (with_reducible show wpAny _ _ (call (Value.builtin "sorted") _) _ _ _) | (with_reducible show wpAny _ _ (subscriptTail (Expr.Name "turns" _) _ (Value.ref _) (Value.int _ _)) _ _ _) | (with_reducible show wpAny _ _ (call (Value.builtin "str.count") _) _ _ _) | (with_reducible show wpAny _ _ (binaryOp .Add (Value.str _ _) (Value.str _ _)) _ _ _) | (with_reducible show wpAny _ _ (binaryOp .Mult (Value.str _ _) (Value.int _ _)) _ _ _) | (with_reducible show wpAny _ _ (subscriptTail _ _ (Value.str _ _) (Value.int _ _)) _ _ _) | (with_reducible show Turn _ _ _ _ _ _ _ _) | (with_reducible show LCg.CompSrc _ _ _ _ _ _ _ _ _ _ _ _ _ _) | (with_reducible show LCg.CompEnd _ _ _ _ _ _ _ _ _ _ _ _ _ _)); ((first | (k_unfold; (try dsimp only)) | (k_end; wrow_close) | walk1 | (dsimp only; walk1) | (leave1; try dsimp only) | fail "no step"))))
      k_dflt (refine add_tx (by rw [List.length_replicate]; have := Nat.mod_lt N (show 0 < P by omega); omega) (by omega) ?_)
      intro t8 k8
      (repeat' ((fail_if_success first | (with_reducible show wpAny _ _ (exec (Stmt.While _ _ _ _) _) _ _ _) | (with_reducible show wpAny _ _ (exec (Stmt.For _ _ _ _ _) _) _ _ _) | (with_reducible show wpAny _ _ (pyIter _) _ _ _) | (with_reducible show wpAny _ _ (call (Value.ref _) _) _ _ _) | (with_reducible show InvEndN _ _ _ _ _ _ _) | (with_reducible show Mid _ _ _ _ _ _) | (with_reducible show WhileStep _ _ _ _ _ _ _) | (with_reducible show wpAny _ _ (eval (Expr.ListComp _ _ _ _) _) _ _ _) | (with_reducible show wpAny _ _ (call (Value.builtin "sorted") _) _ _ _) | (with_reducible show wpAny _ _ (subscriptTail (Expr.Name "turns" _) _ (Value.ref _) (Value.int _ _)) _ _ _) | (with_reducible show wpAny _ _ (call (Value.builtin "str.count") _) _ _ _) | (with_reducible show wpAny _ _ (binaryOp .Add (Value.str _ _) (Value.str _ _)) _ _ _) | (with_reducible show wpAny _ _ (binaryOp .Mult (Value.str _ _) (Value.int _ _)) _ _ _) | (with_reducible show wpAny _ _ (subscriptTail _ _ (Value.str _ _) (Value.int _ _)) _ _ _) | (with_reducible show Turn _ _ _ _ _ _ _ _) | (with_reducible show LCg.CompSrc _ _ _ _ _ _ _ _ _ _ _ _ _ _) | (with_reducible show LCg.CompEnd _ _ _ _ _ _ _ _ _ _ _ _ _ _)); ((first | (k_unfold; (try dsimp only)) | (k_end; wrow_close) | walk1 | (dsimp only; walk1) | (leave1; try dsimp only) | fail "no step"))))
      rename Fr g' _ _ _ => F8
      rename News g' _ _ _ => N8
      exact Turn.intro (nx := tl6) F8 (show News _ _ _ (tl6 ++ own) from fun q hq => N8 q (.tail _ ((List.mem_append.mp hq).elim (fun h => List.mem_append_right _ h) fun h => List.mem_append_left _ h))) hown6 ⟨_, _, _, rfl, rfl, rfl, hTb6, hfr6⟩
    · rintro m5 n5 h5 tk5 ⟨t1', t2', t3', e1, e2, e3, hTb5, hfr5⟩ F5 N5
      exact Mid.intro F5 N5 ⟨t2', e2, hTb5, hfr5⟩
  clear F9 N9
  rintro h3 tk3 m3 n3 F3 N3 ⟨t3, e1, hTb3, hfr3⟩
  have F9 := fr_canon [(Str.ofString "text", .str (tx (wr P n)) t3)] F3 (by simp [e1])
  clear F3 e1
  simp only [kstB] at F9
  dsimp only
  (repeat' ((fail_if_success first | (with_reducible show wpAny _ _ (exec (Stmt.While _ _ _ _) _) _ _ _) | (with_reducible show wpAny _ _ (exec (Stmt.For _ _ _ _ _) _) _ _ _) | (with_reducible show wpAny _ _ (pyIter _) _ _ _) | (with_reducible show wpAny _ _ (call (Value.ref _) _) _ _ _) | (with_reducible show InvEndN _ _ _ _ _ _ _) | (with_reducible show Mid _ _ _ _ _ _) | (with_reducible show WhileStep _ _ _ _ _ _ _) | (with_reducible show wpAny _ _ (eval (Expr.ListComp _ _ _ _) _) _ _ _) | (with_reducible show wpAny _ _ (call (Value.builtin "sorted") _) _ _ _) | (with_reducible show wpAny _ _ (subscriptTail (Expr.Name "turns" _) _ (Value.ref _) (Value.int _ _)) _ _ _) | (with_reducible show wpAny _ _ (call (Value.builtin "str.count") _) _ _ _) | (with_reducible show wpAny _ _ (binaryOp .Add (Value.str _ _) (Value.str _ _)) _ _ _) | (with_reducible show wpAny _ _ (binaryOp .Mult (Value.str _ _) (Value.int _ _)) _ _ _) | (with_reducible show wpAny _ _ (subscriptTail _ _ (Value.str _ _) (Value.int _ _)) _ _ _) | (with_reducible show Turn _ _ _ _ _ _ _ _) | (with_reducible show LCg.CompSrc _ _ _ _ _ _ _ _ _ _ _ _ _ _) | (with_reducible show LCg.CompEnd _ _ _ _ _ _ _ _ _ _ _ _ _ _)); ((first | (k_unfold; (try dsimp only)) | (k_end; wrow_close) | walk1 | (dsimp only; walk1) | (leave1; try dsimp only) | fail "no step"))))
  rename Fr g' _ _ _ => F8
  exact hret _ _ _ _ (by assumption) (by assumption) (fun b o hb e => F8.keep b o (hg b o hb e)) ⟨⟨_, rfl⟩, hTb3, hfr3⟩
end Mine
end LF2_part

section R3r02_part
open PySem PySem.W PyProof.Rows PySem.Calls
namespace Mine
set_option Elab.async false
set_option maxRecDepth 100000
set_option maxHeartbeats 8000000
theorem rep_call (w : World) (p : Program) (loose : List Str) (mean : ExcName → Option Value) (mg mb : Str → Option Value)
  (news : List (Addr × Obj)) (x : List Nat) (tt : Tok) (o1 n1 o2 n2 o3 n3 o4 n4 o5 n5 o6 n6 : List Nat) (s1 s2 s3 s4 s5 s6 s7 s8 s9 s10 s11 s12 : Tok) (hok : PsOk [(o1, n1), (o2, n2), (o3, n3), (o4, n4), (o5, n5), (o6, n6)] x) :
  Ctr PySem.Challenge.rw_pk0092_02.row.prog w (hd.heap_39 w.params) p loose mean mg mb 1 77 [.str (tx x) tt, .str (tx o1) s1, .str (tx n1) s2, .str (tx o2) s3, .str (tx n2) s4, .str (tx o3) s5, .str (tx n3) s6, .str (tx o4) s7, .str (tx n4) s8, .str (tx o5) s9, .str (tx n5) s10, .str (tx o6) s11, .str (tx n6) s12] news (fun v n => n = news ∧ ∃ t, v = .str (tx (reps [(o1, n1), (o2, n2), (o3, n3), (o4, n4), (o5, n5), (o6, n6)] x)) t) := by
  k_fill
  dsimp only [Ctr]
  intro dp un gd cn cs a ccd cl outer A₀ base h₀ L m s Q E B F X N T hk hd hu hret
  refine wpAny_call ?_
  k_dflt (refine' kp_rest ?k1 ?k2 ?k3 ?k4 ?k5 ?kA ?kF ?kK ?k6 ?k7 ?k8 ?kV ?kP ?kG ?kB ?_ ?c2 ?c3 ?c4 ?c5; (case kA => exact rfl); (case kF => exact rfl); (case kK => assumption); (case k1 => k_asm); (case k2 => k_asm); (case k3 => k_asm); (case k4 => k_asm); (case k5 => k_asm); (case k6 => k_is); (case k7 => k_is); (case k8 => ktr_room); (case kV => exact rfl); (case kP => exact rfl); (case kG => exact fun _ => rfl); (case kB => exact fun _ => locs rfl); (case c5 => decide); (case c2 => exact rfl); (case c3 => exact rfl); (case c4 => exact rfl); k_whole; intro D' g' L' h' l1 FG' F' N' B' X' T'; (try k_lt l1); (try dsimp only); (try k_fold))
  (repeat' ((fail_if_success first | (with_reducible show wpAny _ _ (exec (Stmt.While _ _ _ _) _) _ _ _) | (with_reducible show wpAny _ _ (exec (Stmt.For _ _ _ _ _) _) _ _ _) | (with_reducible show wpAny _ _ (pyIter _) _ _ _) | (with_reducible show wpAny _ _ (call (Value.ref _) _) _ _ _) | (with_reducible show InvEndN _ _ _ _ _ _ _) | (with_reducible show Mid _ _ _ _ _ _) | (with_reducible show WhileStep _ _ _ _ _ _ _)); ((first | (k_unfold; (try dsimp only)) | (k_end; wrow_close) | ((with_reducible show wpAny _ _ (subscriptTail (Expr.Name _ _) (Expr.Slice _ _ _ _) (Value.ref _) (Value.ref _)) _ _ _); ((with_reducible rename Fr _ _ _ _ => Fz); (with_reducible rename News _ _ _ _ => Nz); (first | refine slice2 (s := ⟨_, _, _, _, _⟩) Fz Nz (.head _) (by assumption) ?_ | refine slice2 (s := ⟨_, _, _, _, _⟩) Fz Nz (.tail _ (.head _)) (by assumption) ?_); intro _ _ _ _)) | ((with_reducible show wpAny _ _ (subscriptTail (Expr.Name _ _) (Expr.Constant _ _ _) (Value.ref _) (Value.int _ _)) _ _ _); ((with_reducible rename News _ _ _ _ => Nz); (first | refine item2 (.inl rfl) (by assumption) Nz (.head _) ?_ | refine item2 (.inr rfl) (by assumption) Nz (.head _) ?_); simp only [if_true, Int.reduceEq, if_false])) | ((with_reducible show wpAny _ _ (truthy (Value.ref _)) _ _ _); ((with_reducible show wpAny _ _ (truthy (Value.ref _)) _ _ _); (with_reducible rename News _ _ _ _ => Nz); refine ktl_truthyK Nz (.head _) (by assumption) ?_; simp only [List.isEmpty_cons, Bool.not_false])) | ((with_reducible show wpAny _ _ (call (Value.builtin "str.join") _) _ _ _); ((with_reducible rename News _ _ _ _ => Nz); refine join_tx (News.isList Nz (.head _)) (by assumption) (by assumption) (by assumption) (by assumption) (by assumption) (by assumption) ?_; intro _ _)) | ((with_reducible show wpAny _ _ (call (Value.builtin "str.split") _) _ _ _); ((with_reducible rename Fr _ _ _ _ => Fz); (with_reducible rename News _ _ _ _ => Nz); refine split_tx Fz Nz (by assumption) (by assumption) ?_; intro _ _ _ _ _ _ _ _)) | walk1 | (dsimp only; first | ((with_reducible show wpAny _ _ (subscriptTail (Expr.Name _ _) (Expr.Slice _ _ _ _) (Value.ref _) (Value.ref _)) _ _ _); ((with_reducible rename Fr _ _ _ _ => Fz); (with_reducible rename News _ _ _ _ => Nz); (first | refine slice2 (s := ⟨_, _, _, _, _⟩) Fz Nz (.head _) (by assumption) ?_ | refine slice2 (s := ⟨_, _, _, _, _⟩) Fz Nz (.tail _ (.head _)) (by assumption) ?_); intro _ _ _ _)) | ((with_reducible show wpAny _ _ (subscriptTail (Expr.Name _ _) (Expr.Constant _ _ _) (Value.ref _) (Value.int _ _)) _ _ _); ((with_reducible rename News _ _ _ _ => Nz); (first | refine item2 (.inl rfl) (by assumption) Nz (.head _) ?_ | refine item2 (.inr rfl) (by assumption) Nz (.head _) ?_); simp only [if_true, Int.reduceEq, if_false])) | ((with_reducible show wpAny _ _ (truthy (Value.ref _)) _ _ _); ((with_reducible show wpAny _ _ (truthy (Value.ref _)) _ _ _); (with_reducible rename News _ _ _ _ => Nz); refine ktl_truthyK Nz (.head _) (by assumption) ?_; simp only [List.isEmpty_cons, Bool.not_false])) | ((with_reducible show wpAny _ _ (call (Value.builtin "str.join") _) _ _ _); ((with_reducible rename News _ _ _ _ => Nz); refine join_tx (News.isList Nz (.head _)) (by assumption) (by assumption) (by assumption) (by assumption) (by assumption) (by assumption) ?_; intro _ _)) | ((with_reducible show wpAny _ _ (call (Value.builtin "str.split") _) _ _ _); ((with_reducible rename Fr _ _ _ _ => Fz); (with_reducible rename News _ _ _ _ => Nz); refine split_tx Fz Nz (by assumption) (by assumption) ?_; intro _ _ _ _ _ _ _ _)) | walk1) | (leave1; try dsimp only) | fail "no step"))))
  rename Fr _ _ _ _ => F1
  rename News _ _ _ _ => N1
  replace N1 : News _ _ _ ((_, tupOf _) :: news) := N1
  generalize hps : [(o1, n1), (o2, n2), (o3, n3), (o4, n4), (o5, n5), (o6, n6)] = ps at hok hret
  have hvs : TxAre [.str (tx o1) s1, .str (tx n1) s2, .str (tx o2) s3, .str (tx n2) s4, .str (tx o3) s5, .str (tx n3) s6, .str (tx o4) s7, .str (tx n4) s8, .str (tx o5) s9, .str (tx n5) s10, .str (tx o6) s11, .str (tx n6) s12] ps := by
    rw [← hps]; exact .cons _ _ _ _ (.cons _ _ _ _ (.cons _ _ _ _ (.cons _ _ _ _ (.cons _ _ _ _ (.cons _ _ _ _ (.nil))))))
  refine While_inv (fun k m' n' => ∃ x' ps' vs D tt, m' (Str.ofString "text") = some (.str (tx x') tt) ∧ m' (Str.ofString "pairs") = some (.ref D) ∧ n' = (D, tupOf vs) :: news ∧ TxAre vs ps' ∧ PsOk ps' x' ∧ reps ps x = reps ps' x' ∧ vs.length ≤ 1000 ∧ k = ps'.length)
    F1 N1 ⟨x, ps, _, _, tt, rfl, rfl, rfl, hvs, hok, rfl, Nat.le_of_ble_eq_true rfl, rfl⟩ ?_
  clear F1 N1 hvs hok
  rintro k m1 n1 h1 tk1 F1 N1 ⟨x', ps', vs, D, tt', e1, e2, hn, hvs, hok, hr, hvl, rfl⟩
  rw [hn] at N1
  clear hn
  have F2 := fr_canon [(Str.ofString "text", .str (tx x') tt'), (Str.ofString "pairs", .ref D)] F1 (by simp [e1, e2])
  clear F1 e1 e2
  simp only [kstB] at F2
  cases ps' with
  | nil =>
    have hv := none_of hvs
    subst hv
    (repeat' ((fail_if_success first | (with_reducible show wpAny _ _ (exec (Stmt.While _ _ _ _) _) _ _ _) | (with_reducible show wpAny _ _ (exec (Stmt.For _ _ _ _ _) _) _ _ _) | (with_reducible show wpAny _ _ (pyIter _) _ _ _) | (with_reducible show wpAny _ _ (call (Value.ref _) _) _ _ _) | (with_reducible show InvEndN _ _ _ _ _ _ _) | (with_reducible show Mid _ _ _ _ _ _) | (with_reducible show WhileStep _ _ _ _ _ _ _)); ((first | (k_unfold; (try dsimp only)) | (k_end; wrow_close) | ((with_reducible show wpAny _ _ (subscriptTail (Expr.Name _ _) (Expr.Slice _ _ _ _) (Value.ref _) (Value.ref _)) _ _ _); ((with_reducible rename Fr _ _ _ _ => Fz); (with_reducible rename News _ _ _ _ => Nz); (first | refine slice2 (s := ⟨_, _, _, _, _⟩) Fz Nz (.head _) (by assumption) ?_ | refine slice2 (s := ⟨_, _, _, _, _⟩) Fz Nz (.tail _ (.head _)) (by assumption) ?_); intro _ _ _ _)) | ((with_reducible show wpAny _ _ (subscriptTail (Expr.Name _ _) (Expr.Constant _ _ _) (Value.ref _) (Value.int _ _)) _ _ _); ((with_reducible rename News _ _ _ _ => Nz); (first | refine item2 (.inl rfl) (by assumption) Nz (.head _) ?_ | refine item2 (.inr rfl) (by assumption) Nz (.head _) ?_); simp only [if_true, Int.reduceEq, if_false])) | ((with_reducible show wpAny _ _ (truthy (Value.ref _)) _ _ _); ((with_reducible show wpAny _ _ (truthy (Value.ref _)) _ _ _); (with_reducible rename News _ _ _ _ => Nz); refine ktl_truthyK Nz (.head _) (by assumption) ?_; simp only [List.isEmpty_cons, Bool.not_false])) | ((with_reducible show wpAny _ _ (call (Value.builtin "str.join") _) _ _ _); ((with_reducible rename News _ _ _ _ => Nz); refine join_tx (News.isList Nz (.head _)) (by assumption) (by assumption) (by assumption) (by assumption) (by assumption) (by assumption) ?_; intro _ _)) | ((with_reducible show wpAny _ _ (call (Value.builtin "str.split") _) _ _ _); ((with_reducible rename Fr _ _ _ _ => Fz); (with_reducible rename News _ _ _ _ => Nz); refine split_tx Fz Nz (by assumption) (by assumption) ?_; intro _ _ _ _ _ _ _ _)) | walk1 | (dsimp only; first | ((with_reducible show wpAny _ _ (subscriptTail (Expr.Name _ _) (Expr.Slice _ _ _ _) (Value.ref _) (Value.ref _)) _ _ _); ((with_reducible rename Fr _ _ _ _ => Fz); (with_reducible rename News _ _ _ _ => Nz); (first | refine slice2 (s := ⟨_, _, _, _, _⟩) Fz Nz (.head _) (by assumption) ?_ | refine slice2 (s := ⟨_, _, _, _, _⟩) Fz Nz (.tail _ (.head _)) (by assumption) ?_); intro _ _ _ _)) | ((with_reducible show wpAny _ _ (subscriptTail (Expr.Name _ _) (Expr.Constant _ _ _) (Value.ref _) (Value.int _ _)) _ _ _); ((with_reducible rename News _ _ _ _ => Nz); (first | refine item2 (.inl rfl) (by assumption) Nz (.head _) ?_ | refine item2 (.inr rfl) (by assumption) Nz (.head _) ?_); simp only [if_true, Int.reduceEq, if_false])) | ((with_reducible show wpAny _ _ (truthy (Value.ref _)) _ _ _); ((with_reducible show wpAny _ _ (truthy (Value.ref _)) _ _ _); (with_reducible rename News _ _ _ _ => Nz); refine ktl_truthyK Nz (.head _) (by assumption) ?_; simp only [List.isEmpty_cons, Bool.not_false])) | ((with_reducible show wpAny _ _ (call (Value.builtin "str.join") _) _ _ _); ((with_reducible rename News _ _ _ _ => Nz); refine join_tx (News.isList Nz (.head _)) (by assumption) (by assumption) (by assumption) (by assumption) (by assumption) (by assumption) ?_; intro _ _)) | ((with_reducible show wpAny _ _ (call (Value.builtin "str.split") _) _ _ _); ((with_reducible rename Fr _ _ _ _ => Fz); (with_reducible rename News _ _ _ _ => Nz); refine split_tx Fz Nz (by assumption) (by assumption) ?_; intro _ _ _ _ _ _ _ _)) | walk1) | (leave1; try dsimp only) | fail "no step"))))
    refine hret _ news _ _ (by assumption) (fun p hp => by rename News _ _ _ _ => N9; exact N9 p (.tail _ hp)) ⟨rfl, tt', by rw [hr]; rfl⟩
  | cons q ps' =>
    obtain ⟨t1, t2, vs', hv, hvs'⟩ := pair_of hvs
    obtain ⟨ho, ao, hn, hx, ax, hok'⟩ := hok
    subst hv
    (repeat' ((fail_if_success first | (with_reducible show wpAny _ _ (exec (Stmt.While _ _ _ _) _) _ _ _) | (with_reducible show wpAny _ _ (exec (Stmt.For _ _ _ _ _) _) _ _ _) | (with_reducible show wpAny _ _ (pyIter _) _ _ _) | (with_reducible show wpAny _ _ (call (Value.ref _) _) _ _ _) | (with_reducible show InvEndN _ _ _ _ _ _ _) | (with_reducible show Mid _ _ _ _ _ _) | (with_reducible show WhileStep _ _ _ _ _ _ _)); ((first | (k_unfold; (try dsimp only)) | (k_end; wrow_close) | ((with_reducible show wpAny _ _ (subscriptTail (Expr.Name _ _) (Expr.Slice _ _ _ _) (Value.ref _) (Value.ref _)) _ _ _); ((with_reducible rename Fr _ _ _ _ => Fz); (with_reducible rename News _ _ _ _ => Nz); (first | refine slice2 (s := ⟨_, _, _, _, _⟩) Fz Nz (.head _) (by assumption) ?_ | refine slice2 (s := ⟨_, _, _, _, _⟩) Fz Nz (.tail _ (.head _)) (by assumption) ?_); intro _ _ _ _)) | ((with_reducible show wpAny _ _ (subscriptTail (Expr.Name _ _) (Expr.Constant _ _ _) (Value.ref _) (Value.int _ _)) _ _ _); ((with_reducible rename News _ _ _ _ => Nz); (first | refine item2 (.inl rfl) (by assumption) Nz (.head _) ?_ | refine item2 (.inr rfl) (by assumption) Nz (.head _) ?_); simp only [if_true, Int.reduceEq, if_false])) | ((with_reducible show wpAny _ _ (truthy (Value.ref _)) _ _ _); ((with_reducible show wpAny _ _ (truthy (Value.ref _)) _ _ _); (with_reducible rename News _ _ _ _ => Nz); refine ktl_truthyK Nz (.head _) (by assumption) ?_; simp only [List.isEmpty_cons, Bool.not_false])) | ((with_reducible show wpAny _ _ (call (Value.builtin "str.join") _) _ _ _); ((with_reducible rename News _ _ _ _ => Nz); refine join_tx (News.isList Nz (.head _)) (by assumption) (by assumption) (by assumption) (by assumption) (by assumption) (by assumption) ?_; intro _ _)) | ((with_reducible show wpAny _ _ (call (Value.builtin "str.split") _) _ _ _); ((with_reducible rename Fr _ _ _ _ => Fz); (with_reducible rename News _ _ _ _ => Nz); refine split_tx Fz Nz (by assumption) (by assumption) ?_; intro _ _ _ _ _ _ _ _)) | walk1 | (dsimp only; first | ((with_reducible show wpAny _ _ (subscriptTail (Expr.Name _ _) (Expr.Slice _ _ _ _) (Value.ref _) (Value.ref _)) _ _ _); ((with_reducible rename Fr _ _ _ _ => Fz); (with_reducible rename News _ _ _ _ => Nz); (first | refine slice2 (s := ⟨_, _, _, _, _⟩) Fz Nz (.head _) (by assumption) ?_ | refine slice2 (s := ⟨_, _, _, _, _⟩) Fz Nz (.tail _ (.head _)) (by assumption) ?_); intro _ _ _ _)) | ((with_reducible show wpAny _ _ (subscriptTail (Expr.Name _ _) (Expr.Constant _ _ _) (Value.ref _) (Value.int _ _)) _ _ _); ((with_reducible rename News _ _ _ _ => Nz); (first | refine item2 (.inl rfl) (by assumption) Nz (.head _) ?_ | refine item2 (.inr rfl) (by assumption) Nz (.head _) ?_); simp only [if_true, Int.reduceEq, if_false])) | ((with_reducible show wpAny _ _ (truthy (Value.ref _)) _ _ _); ((with_reducible show wpAny _ _ (truthy (Value.ref _)) _ _ _); (with_reducible rename News _ _ _ _ => Nz); refine ktl_truthyK Nz (.head _) (by assumption) ?_; simp only [List.isEmpty_cons, Bool.not_false])) | ((with_reducible show wpAny _ _ (call (Value.builtin "str.join") _) _ _ _); ((with_reducible rename News _ _ _ _ => Nz); refine join_tx (News.isList Nz (.head _)) (by assumption) (by assumption) (by assumption) (by assumption) (by assumption) (by assumption) ?_; intro _ _)) | ((with_reducible show wpAny _ _ (call (Value.builtin "str.split") _) _ _ _); ((with_reducible rename Fr _ _ _ _ => Fz); (with_reducible rename News _ _ _ _ => Nz); refine split_tx Fz Nz (by assumption) (by assumption) ?_; intro _ _ _ _ _ _ _ _)) | walk1) | (leave1; try dsimp only) | fail "no step"))))
    rename Fr _ _ _ _ => F9
    rename News _ _ _ _ => N9
    refine WhileStep.intro (n' := ps'.length) (news₂ := (_, tupOf vs') :: news) F9 (fun p hp => N9 p ?_) (Nat.lt_succ_self _) ⟨rep q.1 q.2 0 x', ps', vs', _, _, rfl, rfl, rfl, hvs', hok', hr, by simp only [List.length_cons] at hvl; omega, rfl⟩
    rcases List.mem_cons.mp hp with rfl | hp
    · exact .head _
    · exact .tail _ (.tail _ (.tail _ hp))
end Mine
end R3r02_part

section Sub3r02_part
open PySem PySem.W PyProof.Rows PySem.Calls
namespace Mine
set_option Elab.async false
set_option maxRecDepth 100000
set_option maxHeartbeats 8000000
theorem sub_call (w : World) (p : Program) (loose : List Str) (mean : ExcName → Option Value) (mg mb : Str → Option Value)
  (news : List (Addr × Obj)) (x y : Nat) (ta tb : Tok) (hx : x < 128) (hy : y < 128) :
  Ctr PySem.Challenge.rw_pk0092_02.row.prog w (hd.heap_39 w.params) p loose mean mg mb 1 21 [.str (tx [x]) ta, .str (tx [y]) tb] news (fun v n => n = news ∧ ∃ t, v = .int (cost x y) t) := by
  k_fill
  dsimp only [Ctr]
  intro dp un gd cn cs a ccd cl outer A₀ base h₀ L m s Q E B F X N T hk hd hu hret
  have lx := tx_len [x]
  have ly := tx_len [y]
  simp only [List.length_cons, List.length_nil] at lx ly
  refine wpAny_call ?_
  k_dflt cell_enter
  (repeat' ((fail_if_success first | (with_reducible show wpAny _ _ (exec (Stmt.While _ _ _ _) _) _ _ _) | (with_reducible show wpAny _ _ (exec (Stmt.For _ _ _ _ _) _) _ _ _) | (with_reducible show wpAny _ _ (pyIter _) _ _ _) | (with_reducible show wpAny _ _ (call (Value.ref _) _) _ _ _) | (with_reducible show InvEndN _ _ _ _ _ _ _) | (with_reducible show Mid _ _ _ _ _ _) | (with_reducible show WhileStep _ _ _ _ _ _ _)); ((first | (k_unfold; (try dsimp only)) | (k_end; wrow_close) | walk1 | (dsimp only; walk1) | (leave1; try dsimp only) | fail "no step"))))
  all_goals (refine hret _ news _ _ (by assumption) (by assumption) ⟨rfl, intIs ?_⟩)
  · exact cost_end1 (by assumption)
  · exact cost_end2 hx hy (by assumption) (by assumption)
  · exact cost_end3 hx hy (by assumption) (by assumption)
end Mine
end Sub3r02_part

section PureLev2_part
open PySem PySem.W PyProof.Rows PySem.Calls
namespace Mine
def PreE (x y : List Nat) (k : Int) : Prop := x.take k.toNat = y.take k.toNat
theorem sl_from_len {l : List Nat} {k : Int} (h0 : 0 ≤ k) : (Txt.slice (tx l) (some k) none).length = l.length - k.toNat := by
  rw [tx_from h0, tx_len, List.length_drop]
theorem take_succ_of {x y : List Nat} {n : Nat} (h : x.take n = y.take n) (e : x[n]? = y[n]?) : x.take (n + 1) = y.take (n + 1) := by
  rw [List.take_add_one, List.take_add_one, h, e]
theorem get_of_lt {l : List Nat} {k : Nat} (h : k < l.length) : ∃ c, l[k]? = some c := ⟨l[k], by simp [h]⟩
theorem pre_item {x y : List Nat} {k : Int} (h0 : 0 ≤ k) (hx : k < (x.length : Int)) (hy : k < (y.length : Int)) :
    (Txt.item (tx x) k == Txt.item (tx y) k) = (x[k.toNat]? == y[k.toNat]?) := by
  obtain ⟨c, hc⟩ := get_of_lt (l := x) (k := k.toNat) (by omega)
  obtain ⟨d, hd⟩ := get_of_lt (l := y) (k := k.toNat) (by omega)
  rw [tx_item h0 hc, tx_item h0 hd, tx_beq, hc, hd]
  rw [Bool.eq_iff_iff]; simp
theorem pre_zero {x y : List Nat} : PreE x y 0 := by simp [PreE]
theorem pre_step {x y : List Nat} {k : Int} (h0 : 0 ≤ k) (h : PreE x y k) (hx : ((Txt.slice (tx x) (some k) none).length : Int) ≠ 0) (hy : ((Txt.slice (tx y) (some k) none).length : Int) ≠ 0)
    (he : (Txt.item (tx x) k == Txt.item (tx y) k) = true) : PreE x y (k + 1) := by
  rw [sl_from_len h0] at hx hy
  rw [pre_item h0 (by omega) (by omega), beq_iff_eq] at he
  have e : (k + 1).toNat = k.toNat + 1 := by omega
  unfold PreE at h ⊢
  rw [e]
  exact take_succ_of h he
theorem pre_out1 {x y : List Nat} {k : Int} (h0 : 0 ≤ k) (hx : k ≤ ((tx x).length : Int)) (hy : k ≤ ((tx y).length : Int)) (h : PreE x y k) (he : ((Txt.slice (tx x) (some k) none).length : Int) = 0) : strip x y = (x.drop k.toNat, y.drop k.toNat) := by
  rw [sl_from_len h0] at he
  rw [tx_len] at hx hy
  exact strip_of h (by omega) (by omega) (.inl (List.drop_eq_nil_of_le (by omega)))
theorem pre_out2 {x y : List Nat} {k : Int} (h0 : 0 ≤ k) (hx : k ≤ ((tx x).length : Int)) (hy : k ≤ ((tx y).length : Int)) (h : PreE x y k) (he : ((Txt.slice (tx y) (some k) none).length : Int) = 0) : strip x y = (x.drop k.toNat, y.drop k.toNat) := by
  rw [sl_from_len h0] at he
  rw [tx_len] at hx hy
  exact strip_of h (by omega) (by omega) (.inr (.inl (List.drop_eq_nil_of_le (by omega))))
theorem pre_out3 {x y : List Nat} {k : Int} (h0 : 0 ≤ k) (h : PreE x y k) (hx : ((Txt.slice (tx x) (some k) none).length : Int) ≠ 0) (hy : ((Txt.slice (tx y) (some k) none).length : Int) ≠ 0)
    (he : (Txt.item (tx x) k == Txt.item (tx y) k) = false) : strip x y = (x.drop k.toNat, y.drop k.toNat) := by
  rw [sl_from_len h0] at hx hy
  rw [pre_item h0 (by omega) (by omega), beq_eq_false_iff_ne] at he
  exact strip_of h (by omega) (by omega) (.inr (.inr he))

def PostE (a b : List Nat) (p : Int) : Prop := a.drop (a.length - p.natAbs) = b.drop (b.length - p.natAbs)
/-- x[:p or None] -/
def cutTo (a : List Nat) (p : Int) : List Nat := a.take (a.length - p.natAbs)
theorem cut0 {a : List Nat} : Txt.slice (tx a) none none = tx (cutTo a 0) := by
  rw [tx_nn]; unfold cutTo; simp
theorem cutN {a : List Nat} {p : Int} (h : p ≠ 0) (h0 : p ≤ 0) (h1 : -((tx a).length : Int) ≤ p) : Txt.slice (tx a) none (some p) = tx (cutTo a p) := by
  rw [tx_len] at h1
  rw [tx_to_neg (by omega) h1]; rfl
theorem cut_len {a : List Nat} {p : Int} (h1 : -((tx a).length : Int) ≤ p) (h0 : p ≤ 0) : ((tx (cutTo a p)).length : Int) = (tx a).length + p := by
  rw [tx_len, tx_len]; rw [tx_len] at h1; unfold cutTo; rw [List.length_take]; omega
theorem post_zero {a b : List Nat} : PostE a b 0 := by simp [PostE]
theorem na1 {p : Int} (h0 : p ≤ 0) : (p - 1).natAbs = p.natAbs + 1 := by omega
theorem na2 {p : Int} {n : Nat} (h1 : -(n : Int) < p) (h0 : p ≤ 0) : p.natAbs < n := by omega
theorem na3 {n k : Nat} (h : k < n) : n - k - 1 + 1 = n - k := by omega
theorem post_item {a : List Nat} {p : Int} (h0 : p ≤ 0) (h1 : -(a.length : Int) < p) : ∃ c, a[a.length - p.natAbs - 1]? = some c ∧ Txt.item (tx a) (p - 1) = tx [c] := by
  obtain ⟨c, hc⟩ := get_of_lt (l := a) (k := a.length - p.natAbs - 1) (by omega)
  refine ⟨c, hc, tx_item_neg (by omega) (by omega) ?_⟩
  rw [na1 h0, Nat.sub_add_eq]; exact hc
theorem drop_pred {a : List Nat} {n : Nat} {c : Nat} (h : a[n]? = some c) : a.drop n = c :: a.drop (n + 1) := by
  obtain ⟨hlt, rfl⟩ := List.getElem?_eq_some_iff.mp h
  exact List.drop_eq_getElem_cons hlt
theorem post_step {a b : List Nat} {p : Int} (h0 : p ≤ 0) (h : PostE a b p) (ha : -((tx a).length : Int) < p) (hb : -((tx b).length : Int) < p)
    (he : (Txt.item (tx a) (p - 1) == Txt.item (tx b) (p - 1)) = true) : PostE a b (p - 1) := by
  rw [tx_len] at ha hb
  obtain ⟨c, hc, ec⟩ := post_item h0 ha
  obtain ⟨d, hd, ed⟩ := post_item h0 hb
  rw [ec, ed, tx_beq] at he
  simp at he
  subst he
  unfold PostE at h ⊢
  rw [na1 h0, Nat.sub_add_eq, Nat.sub_add_eq, drop_pred hc, drop_pred hd, na3 (na2 ha h0), na3 (na2 hb h0), h]
theorem post_out {a b : List Nat} {p : Int} (h0 : p ≤ 0) (ha : -((tx a).length : Int) ≤ p) (hb : -((tx b).length : Int) ≤ p) (h : PostE a b p)
    (e : ((tx (cutTo a p)).length : Int) = 0 ∨ ((tx (cutTo b p)).length : Int) = 0 ∨ (-((tx a).length : Int) < p ∧ -((tx b).length : Int) < p ∧ (Txt.item (tx a) (p - 1) == Txt.item (tx b) (p - 1)) = false)) :
    stripE a b = (cutTo a p, cutTo b p) := by
  simp only [tx_len] at ha hb e
  refine stripE_of (by omega) (by omega) h ?_
  rcases e with e | e | ⟨e1, e2, e3⟩
  · left; exact List.length_eq_zero_iff.mp (by unfold cutTo at e; omega)
  · right; left; exact List.length_eq_zero_iff.mp (by unfold cutTo at e; omega)
  · right; right
    obtain ⟨c, hc, ec⟩ := post_item h0 e1
    obtain ⟨d, hd, ed⟩ := post_item h0 e2
    rw [ec, ed, tx_beq] at e3
    rw [hc, hd]
    simpa using e3
end Mine
namespace Mine
section
variable {prog : Program} {w : World} {A : Around} {E : Value → Shared → Prop} {s : Shared} {value slice : Expr} {a : List Nat} {t : Tok} {h₀ : Heap} {L : Addr} {m : Str → Option Value} {news : List (Addr × Obj)} {Q : Value → Shared → Prop} {p : Int}
theorem cut_rule_nn (hF : Fr h₀ L s.heap m) (hN : News h₀ L s.heap news) (hp : p = 0) (hl : a.length ≤ 1000) (h : ∀ h' t' k, Fr h₀ L h' m → News h₀ L h' news → ((tx (cutTo a p)).length : Int) = (tx a).length + p → Q (.str (tx (cutTo a p)) t') { s with heap := h', toks := k })
    (hs : subscripted slice false (.str (tx a) t) (.ref s.heap.objs.size) = operate [.ref s.heap.objs.size, .str (tx a) t] (getItem (.str (tx a) t) (.ref s.heap.objs.size)) := by with_unfolding_all rfl)
    (ht : ∀ r, letTemporaryGo value (.str (tx a) t) r = pure () := by intro _; with_unfolding_all rfl) :
    wpAny (model prog w) A (subscriptTail value slice (.str (tx a) t) (.ref s.heap.objs.size)) Q E { s with heap := s.heap.push { cls := .type "slice", data := .fields #[.none, .none, .none] } } :=
  slice_strN_nn hF hN (fun h' t' k F N => by rw [cut0, ← hp]; exact h h' t' k F N (cut_len (by rw [tx_len]; omega) (by omega))) hs ht (by rw [tx_len, sizeLine_eq]; omega)
theorem cut_rule_ns {uj : Tok} (hF : Fr h₀ L s.heap m) (hN : News h₀ L s.heap news) (hp : p ≠ 0) (h0 : p ≤ 0) (h1 : -((tx a).length : Int) ≤ p) (hl : a.length ≤ 1000) (h : ∀ h' t' k, Fr h₀ L h' m → News h₀ L h' news → ((tx (cutTo a p)).length : Int) = (tx a).length + p → Q (.str (tx (cutTo a p)) t') { s with heap := h', toks := k })
    (hs : subscripted slice false (.str (tx a) t) (.ref s.heap.objs.size) = operate [.ref s.heap.objs.size, .str (tx a) t] (getItem (.str (tx a) t) (.ref s.heap.objs.size)) := by with_unfolding_all rfl)
    (ht : ∀ r, letTemporaryGo value (.str (tx a) t) r = pure () := by intro _; with_unfolding_all rfl) :
    wpAny (model prog w) A (subscriptTail value slice (.str (tx a) t) (.ref s.heap.objs.size)) Q E { s with heap := s.heap.push { cls := .type "slice", data := .fields #[.none, .int p uj, .none] } } :=
  slice_strN_ns hF hN (fun h' t' k F N => by rw [cutN hp h0 h1]; exact h h' t' k F N (cut_len h1 h0)) hs ht (by rw [tx_len, sizeLine_eq]; omega)
end
end Mine
end PureLev2_part

section PureRow_part
open PySem PySem.W PyProof.Rows PySem.Calls
namespace Mine
theorem ints_of : ∀ (vs : List Value) (ns : List Int), vs.length = ns.length → (∀ (j : Nat) (v : Value), vs[j]? = some v → ∃ t, v = .int (ns.getD j 0) t) → IntsAre vs ns
  | [], [], _, _ => IntsAre.nil
  | v :: r, n :: ns, e, h => by
    obtain ⟨t, ht⟩ := h 0 v rfl
    have hv : v = .int n t := by rw [ht]; simp
    subst hv
    refine IntsAre.cons _ _ (ints_of r ns (by simpa using e) fun j v hj => ?_)
    obtain ⟨t', ht'⟩ := h (j + 1) v (by simpa using hj)
    exact ⟨t', by rw [ht']; simp⟩
theorem row0_len (n : Nat) : (row0 n).length = n := by simp [row0]
section
variable {prog : Program} {w : World} {A : Around} {E : Value → Shared → Prop} {s : Shared} {h₀ : Heap} {L r : Addr} {m : Str → Option Value} {news : List (Addr × Obj)} {b : Int} {t₀ u₀ v₀ : Tok} {n : Nat} {Q : Value → Shared → Prop}
set_option maxRecDepth 100000 in
theorem row_rule (hh : A.handled = none) (F : Fr h₀ L s.heap m) (N : News h₀ L s.heap news) (hr : IsRange s.heap r 2 b 2 t₀ u₀ v₀) (hb : b = 2 * ((n : Int) + 1)) (hz : n ≤ 1000)
    (h : ∀ D us c h' tk, Fr h₀ L h' m → News h₀ L h' ((D, listOf (List.toArray us) c) :: news) → (∀ p ∈ news, p.1 < D) → IntsAre us (row0 n) → Q (.ref D) { s with heap := h', toks := tk }) :
    wpAny (model prog w) A (call (.type "list") [.ref r]) Q E s := by
  have hn : Builtin.Range.rangeSize 2 b 2 = (n : Int) := by
    unfold Builtin.Range.rangeSize
    subst hb
    split
    · split <;> omega
    · omega
  have hs : Builtin.Range.small 2 b 2 = true := by
    have fit : ∀ i : Int, -2 ^ 62 ≤ i → i < 2 ^ 62 → Builtin.Range.rangeFitsLong i = true := fun i h1 h2 => by
      unfold Builtin.Range.rangeFitsLong
      rw [decide_eq_true (by omega), decide_eq_true (by omega)]; rfl
    unfold Builtin.Range.small
    rw [hn, fit 2 (by omega) (by omega), fit b (by omega) (by omega), fit n (by omega) (by omega), if_pos (by decide), fit (b + (2 - 1)) (by omega) (by omega), Bool.or_true]
    rfl
  refine call_list_range hh hr hs hn (by omega) fun h' tk acc c hk hD hI => ?_
  have hD' : h'.get? s.heap.objs.size = some (listOf (List.toArray acc.toList) c) := by
    rw [Array.toArray_toList]
    exact hD
  refine h _ acc.toList c h' tk (F.keeps hk) (news_pushed F N hk hD' rfl) (fun p hp => Heap.lt_size (N p hp).1) (ints_of _ _ (by rw [Array.length_toList, row0_len]; exact hI.1) fun j v hj => ?_)
  have hj' : acc[j]? = some v := by rw [← hj, Array.getElem?_toList]
  obtain ⟨t, ht⟩ := hI.2 j v hj'
  refine ⟨t, ?_⟩
  have hlt : j < n := by
    have := (Array.getElem?_eq_some_iff.mp hj').1
    rw [hI.1] at this; exact this
  rw [ht]
  congr 1
  simp [row0, hlt]
  omega
end
end Mine
namespace Mine
theorem mid_big {a b : List Nat} {mx : Int} (ha : ((tx a).length : Int) ≠ 0) (hb : ((tx b).length : Int) ≠ 0) (h : 40 < ((tx a).length : Int) ∨ 40 < ((tx b).length : Int)) : mx + 1 = mid a b mx := by
  simp only [tx_len] at *
  unfold mid
  rw [if_neg, if_pos (by omega)]
  rintro (h | h) <;> subst h <;> simp at ha hb
theorem mid_nil {a b : List Nat} {mx : Int} (h : ((tx a).length : Int) = 0 ∨ ((tx b).length : Int) = 0) : 2 * (((tx a).length : Int) + ((tx b).length : Int)) = mid a b mx := by
  simp only [tx_len] at *
  unfold mid
  rw [if_pos]
  rcases h with h | h
  · exact .inl (List.length_eq_zero_iff.mp (by omega))
  · exact .inr (List.length_eq_zero_iff.mp (by omega))
theorem mid_core {a b : List Nat} {mx : Int} (ha : ((tx a).length : Int) ≠ 0) (hb : ((tx b).length : Int) ≠ 0) (h1 : ¬ 40 < ((tx a).length : Int)) (h2 : ¬ 40 < ((tx b).length : Int)) :
    mid a b mx = if b.length < a.length then core b a mx else core a b mx := by
  simp only [tx_len] at *
  unfold mid
  rw [if_neg, if_neg (by omega)]
  rintro (h | h) <;> subst h <;> simp at ha hb
theorem core_big {a b : List Nat} {mx : Int} (h : mx < (((tx b).length : Int) - ((tx a).length : Int)) * 2) : mx + 1 = core a b mx := by
  simp only [tx_len] at *
  unfold core
  rw [if_pos h]
theorem core_go {a b : List Nat} {mx : Int} (h : ¬ mx < (((tx b).length : Int) - ((tx a).length : Int)) * 2) : core a b mx = outr a mx b 0 (row0 a.length) 0 := by
  simp only [tx_len] at *
  unfold core
  rw [if_neg h]
end Mine
end PureRow_part

section PureInn_part
open PySem PySem.W PyProof.Rows PySem.Calls
namespace Mine
def OutI (A B : List Nat) (mx : Int) (k : Nat) (res : Int) (row : List Int) : Prop :=
  row.length = A.length ∧ outr A mx B 0 (row0 A.length) 0 = outr A mx (B.drop k) k row res
theorem out_zero {A B : List Nat} {mx : Int} : OutI A B mx 0 0 (row0 A.length) := ⟨row0_len _, rfl⟩
theorem out_end {A B : List Nat} {mx res : Int} {k : Nat} {row : List Int} (h : OutI A B mx k res row) (hk : B.length ≤ k) : res = outr A mx B 0 (row0 A.length) 0 := by
  rw [h.2, List.drop_eq_nil_of_le hk]; rfl
abbrev big : Int := 9223372036854775807
theorem inn_len {bc : Nat} : ∀ {A : List Nat} {row : List Int} {d r mn : Int}, row.length = A.length → (inn bc A row d r mn).1.length = A.length
  | [], [], _, _, _, _ => rfl
  | _ :: A, _ :: row, d, r, mn, h => by simp only [inn, List.length_cons]; rw [inn_len (by simpa using h)]
theorem out_step {A B : List Nat} {mx res : Int} {k : Nat} {row : List Int} {c : Nat} (h : OutI A B mx k res row) (hc : B[k]? = some c)
    (hm : ¬ mx < (inn c A row ((k : Int) * 2) ((k : Int) * 2) big).2.2) :
    OutI A B mx (k + 1) (inn c A row ((k : Int) * 2) ((k : Int) * 2) big).2.1 (inn c A row ((k : Int) * 2) ((k : Int) * 2) big).1 := by
  refine ⟨inn_len h.1, ?_⟩
  rw [h.2, drop_pred hc]
  show (if _ then _ else _) = _
  rw [if_neg hm]
  rfl
theorem out_ret {A B : List Nat} {mx res : Int} {k : Nat} {row : List Int} {c : Nat} (h : OutI A B mx k res row) (hc : B[k]? = some c)
    (hm : mx < (inn c A row ((k : Int) * 2) ((k : Int) * 2) big).2.2) : mx + 1 = outr A mx B 0 (row0 A.length) 0 := by
  rw [h.2, drop_pred hc]
  show _ = (if _ then _ else _)
  rw [if_pos hm]
def InnI (bc : Nat) (A : List Nat) (row : List Int) (d0 : Int) (j : Nat) (d res mn : Int) (row' : List Int) : Prop :=
  ∃ done : List Int, done.length = j ∧ row' = done ++ row.drop j ∧
    inn bc A row d0 d0 big = (done ++ (inn bc (A.drop j) (row.drop j) d res mn).1, (inn bc (A.drop j) (row.drop j) d res mn).2)
theorem inn_zero {bc : Nat} {A : List Nat} {row : List Int} {d0 : Int} : InnI bc A row d0 0 d0 d0 big row := ⟨[], rfl, rfl, rfl⟩
theorem inn_end {bc : Nat} {A : List Nat} {row row' : List Int} {d0 d res mn : Int} {j : Nat} (h : InnI bc A row d0 j d res mn row') (hl : row.length = A.length) (hj : j = A.length) :
    inn bc A row d0 d0 big = (row', res, mn) := by
  obtain ⟨done, h1, h2, h3⟩ := h
  subst hj
  rw [h3, h2, List.drop_eq_nil_of_le (Nat.le_refl _), List.drop_eq_nil_of_le (Nat.le_of_eq hl)]
  rfl
theorem drop_predI {a : List Int} {n : Nat} {c : Int} (h : a[n]? = some c) : a.drop n = c :: a.drop (n + 1) := by
  obtain ⟨hlt, rfl⟩ := List.getElem?_eq_some_iff.mp h
  exact List.drop_eq_getElem_cons hlt
theorem inn_get {bc : Nat} {A : List Nat} {row row' : List Int} {d0 d res mn : Int} {j : Nat} (h : InnI bc A row d0 j d res mn row') : row'[j]? = row[j]? := by
  obtain ⟨done, h1, h2, h3⟩ := h
  rw [h2, List.getElem?_append_right (by omega), h1, Nat.sub_self, List.getElem?_drop, Nat.add_zero]
theorem inn_len' {bc : Nat} {A : List Nat} {row row' : List Int} {d0 d res mn : Int} {j : Nat} (h : InnI bc A row d0 j d res mn row') (hj : j ≤ row.length) : row'.length = row.length := by
  obtain ⟨done, h1, h2, h3⟩ := h
  rw [h2, List.length_append, List.length_drop, h1]; omega
theorem inn_step {bc a : Nat} {A : List Nat} {row row' : List Int} {d0 d res mn r : Int} {j : Nat} (h : InnI bc A row d0 j d res mn row') (ha : A[j]? = some a) (hr : row'[j]? = some r) :
    InnI bc A row d0 (j + 1) r (min (min res r + 2) (d + cost bc a)) (if min (min res r + 2) (d + cost bc a) < mn then min (min res r + 2) (d + cost bc a) else mn)
      (row'.set j (min (min res r + 2) (d + cost bc a))) := by
  have hr' := hr
  rw [inn_get h] at hr'
  obtain ⟨done, h1, h2, h3⟩ := h
  refine ⟨done ++ [min (min res r + 2) (d + cost bc a)], by simp [h1], ?_, ?_⟩
  · rw [h2, List.set_append_right _ _ (by omega), h1, Nat.sub_self, drop_predI hr']
    simp
  · rw [h3, drop_pred ha, drop_predI hr']
    simp [inn]
section
variable {prog : Program} {w : World} {K : Frag} {p : Program} {loose : List Str} {mean : ExcName → Option Value} {mg mb : Str → Option Value}
end
end Mine
namespace Mine
theorem outI_name {A B : List Nat} {mx res : Int} {k : Nat} {row : List Int} (h : OutI A B mx k res row) : ∃ r s, r = row ∧ s = res ∧ OutI A B mx k s r := ⟨_, _, rfl, rfl, h⟩
theorem innI_name {bc : Nat} {A : List Nat} {row row' : List Int} {d0 d res mn : Int} {j : Nat} (h : InnI bc A row d0 j d res mn row') : ∃ d1 r1 m1 w1, d1 = d ∧ r1 = res ∧ m1 = mn ∧ w1 = row' ∧ InnI bc A row d0 j d1 r1 m1 w1 := ⟨_, _, _, _, rfl, rfl, rfl, rfl, h⟩
end Mine
namespace Mine
abbrev VV (d res r c : Int) : Int := if d + c < (if r < res then r else res) + 2 then d + c else (if r < res then r else res) + 2
theorem VV_min (d res r c : Int) : VV d res r c = min (min res r + 2) (d + c) := by
  unfold VV; split <;> split at * <;> omega
theorem getD_of {row : List Int} {j : Nat} (h : j < row.length) : row[j]? = some (row.getD j 0) := by
  rw [List.getD_eq_getElem?_getD, List.getElem?_eq_getElem h]; rfl
theorem inn_turn1 {bc a : Nat} {A : List Nat} {row1 row2 : List Int} {d0 d res mn kN : Int} {pre : List Int} (h : InnI bc A row1 d0 pre.length d res mn row2) (hl : row2.length = A.length)
    (ha : A[pre.length]? = some a) (hk : kN = 0 + (pre.length : Int)) (hm : VV d res (row2.getD kN.toNat 0) (cost bc a) < mn) :
    (row2.set kN.toNat (VV d res (row2.getD kN.toNat 0) (cost bc a))).length = A.length ∧
      InnI bc A row1 d0 (pre ++ [kN]).length (row2.getD kN.toNat 0) (VV d res (row2.getD kN.toNat 0) (cost bc a)) (VV d res (row2.getD kN.toNat 0) (cost bc a)) (row2.set kN.toNat (VV d res (row2.getD kN.toNat 0) (cost bc a))) := by
  have e : kN.toNat = pre.length := by omega
  rw [e] at hm ⊢
  have hlt : pre.length < A.length := (List.getElem?_eq_some_iff.mp ha).1
  refine ⟨by rw [List.length_set]; exact hl, ?_⟩
  have st := inn_step h ha (getD_of (by omega))
  rw [← VV_min, if_pos hm] at st
  rw [List.length_append]
  exact st
theorem inn_turn2 {bc a : Nat} {A : List Nat} {row1 row2 : List Int} {d0 d res mn kN : Int} {pre : List Int} (h : InnI bc A row1 d0 pre.length d res mn row2) (hl : row2.length = A.length)
    (ha : A[pre.length]? = some a) (hk : kN = 0 + (pre.length : Int)) (hm : ¬ VV d res (row2.getD kN.toNat 0) (cost bc a) < mn) :
    (row2.set kN.toNat (VV d res (row2.getD kN.toNat 0) (cost bc a))).length = A.length ∧
      InnI bc A row1 d0 (pre ++ [kN]).length (row2.getD kN.toNat 0) (VV d res (row2.getD kN.toNat 0) (cost bc a)) mn (row2.set kN.toNat (VV d res (row2.getD kN.toNat 0) (cost bc a))) := by
  have e : kN.toNat = pre.length := by omega
  rw [e] at hm ⊢
  have hlt : pre.length < A.length := (List.getElem?_eq_some_iff.mp ha).1
  refine ⟨by rw [List.length_set]; exact hl, ?_⟩
  have st := inn_step h ha (getD_of (by omega))
  rw [← VV_min, if_neg hm] at st
  rw [List.length_append]
  exact st
end Mine
end PureInn_part

section Lev3r02_part
open PySem PySem.W PyProof.Rows PySem.Calls
namespace Mine
set_option Elab.async false
set_option maxRecDepth 100000
set_option maxHeartbeats 8000000
theorem lev_call (w : World) (p : Program) (loose : List Str) (mean : ExcName → Option Value) (mg mb : Str → Option Value)
  (news : List (Addr × Obj)) (x y : List Nat) (mx : Int) (ta tb tc : Tok) (ha : x.length ≤ 1000) (hb : y.length ≤ 1000) (hax : ∀ c ∈ x, c < 128) (hay : ∀ c ∈ y, c < 128) :
  Ctr PySem.Challenge.rw_pk0092_02.row.prog w (hd.heap_39 w.params) p loose mean mg mb 2 28 [.str (tx x) ta, .str (tx y) tb, .int mx tc] news (fun v n => n = news ∧ ∃ t, v = .int (lev x y mx) t) := by
  k_fill
  dsimp only [Ctr]
  intro dp un gd cn cs a ccd cl outer A₀ base h₀ L m s Q E B F X N T hk hd hu hret
  have lx : (tx x).length ≤ 1000 := by rw [tx_len]; exact ha
  have ly : (tx y).length ≤ 1000 := by rw [tx_len]; exact hb
  refine wpAny_call ?_
  k_dflt cell_enter
  (repeat' ((fail_if_success first | (with_reducible show wpAny _ _ (exec (Stmt.While _ _ _ _) _) _ _ _) | (with_reducible show wpAny _ _ (exec (Stmt.For _ _ _ _ _) _) _ _ _) | (with_reducible show wpAny _ _ (pyIter _) _ _ _) | (with_reducible show wpAny _ _ (call (Value.ref _) _) _ _ _) | (with_reducible show InvEndN _ _ _ _ _ _ _) | (with_reducible show Mid _ _ _ _ _ _) | (with_reducible show WhileStep _ _ _ _ _ _ _)); ((first | (k_unfold; (try dsimp only)) | (k_end; wrow_close) | ((with_reducible show wpAny _ _ (subscriptTail (Expr.Name _ _) (Expr.Slice _ _ _ _) (Value.str _ _) (Value.ref _)) _ _ _); ((with_reducible show wpAny _ _ (subscriptTail _ (Expr.Slice none (some (Expr.BoolOp _ _ _)) none _) _ _) _ _ _); (with_reducible rename Fr _ _ _ _ => Fz); (with_reducible rename News _ _ _ _ => Nz); (first | (exfalso; omega) | (refine cut_rule_nn (s := ⟨_, _, _, _, _⟩) Fz Nz (by assumption) (by assumption) ?_; intro _ _ _ _ _ _) | (refine cut_rule_ns (s := ⟨_, _, _, _, _⟩) Fz Nz (by assumption) (by assumption) (by assumption) (by assumption) ?_; intro _ _ _ _ _ _)))) | walk1 | (dsimp only; first | ((with_reducible show wpAny _ _ (subscriptTail (Expr.Name _ _) (Expr.Slice _ _ _ _) (Value.str _ _) (Value.ref _)) _ _ _); ((with_reducible show wpAny _ _ (subscriptTail _ (Expr.Slice none (some (Expr.BoolOp _ _ _)) none _) _ _) _ _ _); (with_reducible rename Fr _ _ _ _ => Fz); (with_reducible rename News _ _ _ _ => Nz); (first | (exfalso; omega) | (refine cut_rule_nn (s := ⟨_, _, _, _, _⟩) Fz Nz (by assumption) (by assumption) ?_; intro _ _ _ _ _ _) | (refine cut_rule_ns (s := ⟨_, _, _, _, _⟩) Fz Nz (by assumption) (by assumption) (by assumption) (by assumption) ?_; intro _ _ _ _ _ _)))) | walk1) | (leave1; try dsimp only) | fail "no step"))))
  · refine hret _ news _ _ (by assumption) (by assumption) ⟨rfl, intIs ?_⟩
    rename (tx x == tx y) = true => e
    rw [tx_beq, beq_iff_eq] at e
    simp [lev, e]
  rename (tx x == tx y) = false => hne
  refine wp_mid (by assumption) (fun m' n => n = news ∧ ∃ k t ta tb tc, m' (Str.ofString "pre") = some (.int k t) ∧ m' (Str.ofString "a") = some (.str (tx x) ta) ∧ m' (Str.ofString "b") = some (.str (tx y) tb) ∧ m' (Str.ofString "max_cost") = some (.int mx tc)
      ∧ 0 ≤ k ∧ strip x y = (x.drop k.toNat, y.drop k.toNat)) ?w1 ?_
  case w1 =>
    k_with "state" => (refine ⟨by omega, by omega, by omega, ?_⟩; first | exact pre_zero | exact pre_step (by assumption) (by assumption) (by assumption) (by assumption) (by assumption))
    k_while (fun _ k => 0 ≤ k ∧ k ≤ ((tx x).length : Int) ∧ k ≤ ((tx y).length : Int) ∧ PreE x y k) (fun _ k => (tx x).length - k.toNat) "pre"
    (repeat' ((fail_if_success first | (with_reducible show wpAny _ _ (exec (Stmt.While _ _ _ _) _) _ _ _) | (with_reducible show wpAny _ _ (exec (Stmt.For _ _ _ _ _) _) _ _ _) | (with_reducible show wpAny _ _ (pyIter _) _ _ _) | (with_reducible show wpAny _ _ (call (Value.ref _) _) _ _ _) | (with_reducible show InvEndN _ _ _ _ _ _ _) | (with_reducible show Mid _ _ _ _ _ _) | (with_reducible show WhileStep _ _ _ _ _ _ _)); ((first | (k_unfold; (try dsimp only)) | (k_end; wrow_close) | ((with_reducible show wpAny _ _ (subscriptTail (Expr.Name _ _) (Expr.Slice _ _ _ _) (Value.str _ _) (Value.ref _)) _ _ _); ((with_reducible show wpAny _ _ (subscriptTail _ (Expr.Slice none (some (Expr.BoolOp _ _ _)) none _) _ _) _ _ _); (with_reducible rename Fr _ _ _ _ => Fz); (with_reducible rename News _ _ _ _ => Nz); (first | (exfalso; omega) | (refine cut_rule_nn (s := ⟨_, _, _, _, _⟩) Fz Nz (by assumption) (by assumption) ?_; intro _ _ _ _ _ _) | (refine cut_rule_ns (s := ⟨_, _, _, _, _⟩) Fz Nz (by assumption) (by assumption) (by assumption) (by assumption) ?_; intro _ _ _ _ _ _)))) | walk1 | (dsimp only; first | ((with_reducible show wpAny _ _ (subscriptTail (Expr.Name _ _) (Expr.Slice _ _ _ _) (Value.str _ _) (Value.ref _)) _ _ _); ((with_reducible show wpAny _ _ (subscriptTail _ (Expr.Slice none (some (Expr.BoolOp _ _ _)) none _) _ _) _ _ _); (with_reducible rename Fr _ _ _ _ => Fz); (with_reducible rename News _ _ _ _ => Nz); (first | (exfalso; omega) | (refine cut_rule_nn (s := ⟨_, _, _, _, _⟩) Fz Nz (by assumption) (by assumption) ?_; intro _ _ _ _ _ _) | (refine cut_rule_ns (s := ⟨_, _, _, _, _⟩) Fz Nz (by assumption) (by assumption) (by assumption) (by assumption) ?_; intro _ _ _ _ _ _)))) | walk1) | (leave1; try dsimp only) | fail "no step"))))
    all_goals (refine Mid.intro (by assumption) (by assumption) ⟨rfl, _, _, _, _, _, rfl, rfl, rfl, rfl, by assumption, ?_⟩)
    · exact pre_out3 (by assumption) (by assumption) (by assumption) (by assumption) (by assumption)
    · exact pre_out2 (by assumption) (by assumption) (by assumption) (by assumption) (by assumption)
    · exact pre_out1 (by assumption) (by assumption) (by assumption) (by assumption) (by assumption)
  rintro h1 tk1 m1 n1 F1 N1 ⟨hn, k, t1, t2, t3, t4, e1, e2, e3, e4, hk0, hst⟩
  rw [hn] at N1
  clear hn
  have F2 := fr_canon [(Str.ofString "pre", .int k t1), (Str.ofString "a", .str (tx x) t2), (Str.ofString "b", .str (tx y) t3), (Str.ofString "max_cost", .int mx t4)] F1 (by simp [e1, e2, e3, e4])
  clear F1 e1 e2 e3 e4
  simp only [kstB] at F2
  dsimp only
  (repeat' ((fail_if_success first | (with_reducible show wpAny _ _ (exec (Stmt.While _ _ _ _) _) _ _ _) | (with_reducible show wpAny _ _ (exec (Stmt.For _ _ _ _ _) _) _ _ _) | (with_reducible show wpAny _ _ (pyIter _) _ _ _) | (with_reducible show wpAny _ _ (call (Value.ref _) _) _ _ _) | (with_reducible show InvEndN _ _ _ _ _ _ _) | (with_reducible show Mid _ _ _ _ _ _) | (with_reducible show WhileStep _ _ _ _ _ _ _)); ((first | (k_unfold; (try dsimp only)) | (k_end; wrow_close) | ((with_reducible show wpAny _ _ (subscriptTail (Expr.Name _ _) (Expr.Slice _ _ _ _) (Value.str _ _) (Value.ref _)) _ _ _); ((with_reducible show wpAny _ _ (subscriptTail _ (Expr.Slice none (some (Expr.BoolOp _ _ _)) none _) _ _) _ _ _); (with_reducible rename Fr _ _ _ _ => Fz); (with_reducible rename News _ _ _ _ => Nz); (first | (exfalso; omega) | (refine cut_rule_nn (s := ⟨_, _, _, _, _⟩) Fz Nz (by assumption) (by assumption) ?_; intro _ _ _ _ _ _) | (refine cut_rule_ns (s := ⟨_, _, _, _, _⟩) Fz Nz (by assumption) (by assumption) (by assumption) (by assumption) ?_; intro _ _ _ _ _ _)))) | walk1 | (dsimp only; first | ((with_reducible show wpAny _ _ (subscriptTail (Expr.Name _ _) (Expr.Slice _ _ _ _) (Value.str _ _) (Value.ref _)) _ _ _); ((with_reducible show wpAny _ _ (subscriptTail _ (Expr.Slice none (some (Expr.BoolOp _ _ _)) none _) _ _) _ _ _); (with_reducible rename Fr _ _ _ _ => Fz); (with_reducible rename News _ _ _ _ => Nz); (first | (exfalso; omega) | (refine cut_rule_nn (s := ⟨_, _, _, _, _⟩) Fz Nz (by assumption) (by assumption) ?_; intro _ _ _ _ _ _) | (refine cut_rule_ns (s := ⟨_, _, _, _, _⟩) Fz Nz (by assumption) (by assumption) (by assumption) (by assumption) ?_; intro _ _ _ _ _ _)))) | walk1) | (leave1; try dsimp only) | fail "no step"))))
  rename Fr _ _ _ _ => F3
  simp only [tx_from hk0] at F3
  rename News _ _ _ _ => N3
  replace F3 := fr_canon [(Str.ofString "post", .int 0 _), (Str.ofString "a", .str (tx (x.drop k.toNat)) _), (Str.ofString "b", .str (tx (y.drop k.toNat)) _), (Str.ofString "max_cost", .int mx _)] F3 (by simp only [List.forall_mem_cons, List.not_mem_nil, false_implies, implies_true, and_true]; exact ⟨rfl, rfl, rfl, rfl⟩)
  simp only [kstB] at F3
  generalize ea : x.drop k.toNat = a1 at F3 hst
  generalize eb : y.drop k.toNat = b1 at F3 hst
  have la' : a1.length ≤ 1000 := by rw [← ea, List.length_drop]; omega
  have lb' : b1.length ≤ 1000 := by rw [← eb, List.length_drop]; omega
  have la : (tx a1).length ≤ 1000 := by rw [tx_len, ← ea, List.length_drop]; omega
  have lb : (tx b1).length ≤ 1000 := by rw [tx_len, ← eb, List.length_drop]; omega
  refine wp_mid F3 (fun m' n => n = news ∧ ∃ k t ta tb tc, m' (Str.ofString "post") = some (.int k t) ∧ m' (Str.ofString "a") = some (.str (tx a1) ta) ∧ m' (Str.ofString "b") = some (.str (tx b1) tb) ∧ m' (Str.ofString "max_cost") = some (.int mx tc)
      ∧ k ≤ 0 ∧ -((tx a1).length : Int) ≤ k ∧ -((tx b1).length : Int) ≤ k ∧ stripE a1 b1 = (cutTo a1 k, cutTo b1 k)) ?w2 ?_
  case w2 =>
    k_with "state" => (refine ⟨by omega, by omega, by omega, ?_⟩; first | exact post_zero | exact post_step (by assumption) (by assumption) (by omega) (by omega) (by assumption))
    k_while (fun _ p => p ≤ 0 ∧ -((tx a1).length : Int) ≤ p ∧ -((tx b1).length : Int) ≤ p ∧ PostE a1 b1 p) (fun _ p => ((tx a1).length + p).toNat) "post"
    (repeat' ((fail_if_success first | (with_reducible show wpAny _ _ (exec (Stmt.While _ _ _ _) _) _ _ _) | (with_reducible show wpAny _ _ (exec (Stmt.For _ _ _ _ _) _) _ _ _) | (with_reducible show wpAny _ _ (pyIter _) _ _ _) | (with_reducible show wpAny _ _ (call (Value.ref _) _) _ _ _) | (with_reducible show InvEndN _ _ _ _ _ _ _) | (with_reducible show Mid _ _ _ _ _ _) | (with_reducible show WhileStep _ _ _ _ _ _ _)); ((first | (k_unfold; (try dsimp only)) | (k_end; wrow_close) | ((with_reducible show wpAny _ _ (subscriptTail (Expr.Name _ _) (Expr.Slice _ _ _ _) (Value.str _ _) (Value.ref _)) _ _ _); ((with_reducible show wpAny _ _ (subscriptTail _ (Expr.Slice none (some (Expr.BoolOp _ _ _)) none _) _ _) _ _ _); (with_reducible rename Fr _ _ _ _ => Fz); (with_reducible rename News _ _ _ _ => Nz); (first | (exfalso; omega) | (refine cut_rule_nn (s := ⟨_, _, _, _, _⟩) Fz Nz (by assumption) (by assumption) ?_; intro _ _ _ _ _ _) | (refine cut_rule_ns (s := ⟨_, _, _, _, _⟩) Fz Nz (by assumption) (by assumption) (by assumption) (by assumption) ?_; intro _ _ _ _ _ _)))) | walk1 | (dsimp only; first | ((with_reducible show wpAny _ _ (subscriptTail (Expr.Name _ _) (Expr.Slice _ _ _ _) (Value.str _ _) (Value.ref _)) _ _ _); ((with_reducible show wpAny _ _ (subscriptTail _ (Expr.Slice none (some (Expr.BoolOp _ _ _)) none _) _ _) _ _ _); (with_reducible rename Fr _ _ _ _ => Fz); (with_reducible rename News _ _ _ _ => Nz); (first | (exfalso; omega) | (refine cut_rule_nn (s := ⟨_, _, _, _, _⟩) Fz Nz (by assumption) (by assumption) ?_; intro _ _ _ _ _ _) | (refine cut_rule_ns (s := ⟨_, _, _, _, _⟩) Fz Nz (by assumption) (by assumption) (by assumption) (by assumption) ?_; intro _ _ _ _ _ _)))) | walk1) | (leave1; try dsimp only) | fail "no step"))))
    all_goals (refine Mid.intro (by assumption) (by assumption) ⟨rfl, _, _, _, _, _, rfl, rfl, rfl, rfl, by assumption, by assumption, by assumption, post_out (by assumption) (by assumption) (by assumption) (by assumption) ?_⟩)
    all_goals (first | exact .inl (by assumption) | exact .inr (.inl (by assumption)) | exact .inr (.inr ⟨by omega, by omega, by assumption⟩))
  clear F3 N3
  rintro h4 tk4 m4 n4 F4 N4 ⟨hn, k4, t5, t6, t7, t8, e1, e2, e3, e4, hp0, hpa, hpb, hst2⟩
  rw [hn] at N4
  clear hn
  have F5 := fr_canon [(Str.ofString "post", .int k4 t5), (Str.ofString "a", .str (tx a1) t6), (Str.ofString "b", .str (tx b1) t7), (Str.ofString "max_cost", .int mx t8)] F4 (by simp [e1, e2, e3, e4])
  clear F4 e1 e2 e3 e4
  simp only [kstB] at F5
  dsimp only
  (repeat' ((fail_if_success (with_reducible show wpAny _ _ (exec _ _) _ _ _)); ((first | (k_unfold; (try dsimp only)) | (k_end; wrow_close) | ((with_reducible show wpAny _ _ (subscriptTail (Expr.Name _ _) (Expr.Slice _ _ _ _) (Value.str _ _) (Value.ref _)) _ _ _); ((with_reducible show wpAny _ _ (subscriptTail _ (Expr.Slice none (some (Expr.BoolOp _ _ _)) none _) _ _) _ _ _); (with_reducible rename Fr _ _ _ _ => Fz); (with_reducible rename News _ _ _ _ => Nz); (first | (exfalso; omega) | (refine cut_rule_nn (s := ⟨_, _, _, _, _⟩) Fz Nz (by assumption) (by assumption) ?_; intro _ _ _ _ _ _) | (refine cut_rule_ns (s := ⟨_, _, _, _, _⟩) Fz Nz (by assumption) (by assumption) (by assumption) (by assumption) ?_; intro _ _ _ _ _ _)))) | walk1 | (dsimp only; first | ((with_reducible show wpAny _ _ (subscriptTail (Expr.Name _ _) (Expr.Slice _ _ _ _) (Value.str _ _) (Value.ref _)) _ _ _); ((with_reducible show wpAny _ _ (subscriptTail _ (Expr.Slice none (some (Expr.BoolOp _ _ _)) none _) _ _) _ _ _); (with_reducible rename Fr _ _ _ _ => Fz); (with_reducible rename News _ _ _ _ => Nz); (first | (exfalso; omega) | (refine cut_rule_nn (s := ⟨_, _, _, _, _⟩) Fz Nz (by assumption) (by assumption) ?_; intro _ _ _ _ _ _) | (refine cut_rule_ns (s := ⟨_, _, _, _, _⟩) Fz Nz (by assumption) (by assumption) (by assumption) (by assumption) ?_; intro _ _ _ _ _ _)))) | walk1) | (leave1; try dsimp only) | fail "no step"))))
  refine wp_mid F5 (fun m' n => n = news ∧ ∃ t0 ta tb tc, m' (Str.ofString "post") = some (.int k4 t0) ∧ m' (Str.ofString "a") = some (.str (tx (cutTo a1 k4)) ta) ∧ m' (Str.ofString "b") = some (.str (tx b1) tb) ∧ m' (Str.ofString "max_cost") = some (.int mx tc)) ?w3 ?_
  case w3 =>
    (repeat' ((fail_if_success first | (with_reducible show wpAny _ _ (exec (Stmt.While _ _ _ _) _) _ _ _) | (with_reducible show wpAny _ _ (exec (Stmt.For _ _ _ _ _) _) _ _ _) | (with_reducible show wpAny _ _ (pyIter _) _ _ _) | (with_reducible show wpAny _ _ (call (Value.ref _) _) _ _ _) | (with_reducible show InvEndN _ _ _ _ _ _ _) | (with_reducible show Mid _ _ _ _ _ _) | (with_reducible show WhileStep _ _ _ _ _ _ _)); ((first | (k_unfold; (try dsimp only)) | (k_end; wrow_close) | ((with_reducible show wpAny _ _ (subscriptTail (Expr.Name _ _) (Expr.Slice _ _ _ _) (Value.str _ _) (Value.ref _)) _ _ _); ((with_reducible show wpAny _ _ (subscriptTail _ (Expr.Slice none (some (Expr.BoolOp _ _ _)) none _) _ _) _ _ _); (with_reducible rename Fr _ _ _ _ => Fz); (with_reducible rename News _ _ _ _ => Nz); (first | (exfalso; omega) | (refine cut_rule_nn (s := ⟨_, _, _, _, _⟩) Fz Nz (by assumption) (by assumption) ?_; intro _ _ _ _ _ _) | (refine cut_rule_ns (s := ⟨_, _, _, _, _⟩) Fz Nz (by assumption) (by assumption) (by assumption) (by assumption) ?_; intro _ _ _ _ _ _)))) | walk1 | (dsimp only; first | ((with_reducible show wpAny _ _ (subscriptTail (Expr.Name _ _) (Expr.Slice _ _ _ _) (Value.str _ _) (Value.ref _)) _ _ _); ((with_reducible show wpAny _ _ (subscriptTail _ (Expr.Slice none (some (Expr.BoolOp _ _ _)) none _) _ _) _ _ _); (with_reducible rename Fr _ _ _ _ => Fz); (with_reducible rename News _ _ _ _ => Nz); (first | (exfalso; omega) | (refine cut_rule_nn (s := ⟨_, _, _, _, _⟩) Fz Nz (by assumption) (by assumption) ?_; intro _ _ _ _ _ _) | (refine cut_rule_ns (s := ⟨_, _, _, _, _⟩) Fz Nz (by assumption) (by assumption) (by assumption) (by assumption) ?_; intro _ _ _ _ _ _)))) | walk1) | (leave1; try dsimp only) | fail "no step"))))
    all_goals (refine Mid.intro (by assumption) (by assumption) ⟨rfl, _, _, _, _, rfl, rfl, rfl, rfl⟩)
  clear F5 N4
  rintro h4 tk4 m4 n4 F4 N4 ⟨hn, t5, t6, t7, t8, e1, e2, e3, e4⟩
  rw [hn] at N4
  clear hn
  have F5 := fr_canon [(Str.ofString "post", .int k4 t5), (Str.ofString "a", .str (tx (cutTo a1 k4)) t6), (Str.ofString "b", .str (tx b1) t7), (Str.ofString "max_cost", .int mx t8)] F4 (by simp [e1, e2, e3, e4])
  clear F4 e1 e2 e3 e4
  simp only [kstB] at F5
  dsimp only
  (repeat' ((fail_if_success (with_reducible show wpAny _ _ (exec _ _) _ _ _)); ((first | (k_unfold; (try dsimp only)) | (k_end; wrow_close) | ((with_reducible show wpAny _ _ (subscriptTail (Expr.Name _ _) (Expr.Slice _ _ _ _) (Value.str _ _) (Value.ref _)) _ _ _); ((with_reducible show wpAny _ _ (subscriptTail _ (Expr.Slice none (some (Expr.BoolOp _ _ _)) none _) _ _) _ _ _); (with_reducible rename Fr _ _ _ _ => Fz); (with_reducible rename News _ _ _ _ => Nz); (first | (exfalso; omega) | (refine cut_rule_nn (s := ⟨_, _, _, _, _⟩) Fz Nz (by assumption) (by assumption) ?_; intro _ _ _ _ _ _) | (refine cut_rule_ns (s := ⟨_, _, _, _, _⟩) Fz Nz (by assumption) (by assumption) (by assumption) (by assumption) ?_; intro _ _ _ _ _ _)))) | walk1 | (dsimp only; first | ((with_reducible show wpAny _ _ (subscriptTail (Expr.Name _ _) (Expr.Slice _ _ _ _) (Value.str _ _) (Value.ref _)) _ _ _); ((with_reducible show wpAny _ _ (subscriptTail _ (Expr.Slice none (some (Expr.BoolOp _ _ _)) none _) _ _) _ _ _); (with_reducible rename Fr _ _ _ _ => Fz); (with_reducible rename News _ _ _ _ => Nz); (first | (exfalso; omega) | (refine cut_rule_nn (s := ⟨_, _, _, _, _⟩) Fz Nz (by assumption) (by assumption) ?_; intro _ _ _ _ _ _) | (refine cut_rule_ns (s := ⟨_, _, _, _, _⟩) Fz Nz (by assumption) (by assumption) (by assumption) (by assumption) ?_; intro _ _ _ _ _ _)))) | walk1) | (leave1; try dsimp only) | fail "no step"))))
  refine wp_mid F5 (fun m' n => n = news ∧ ∃ ta tb tc, m' (Str.ofString "a") = some (.str (tx (cutTo a1 k4)) ta) ∧ m' (Str.ofString "b") = some (.str (tx (cutTo b1 k4)) tb) ∧ m' (Str.ofString "max_cost") = some (.int mx tc)) ?w4 ?_
  case w4 =>
    (repeat' ((fail_if_success first | (with_reducible show wpAny _ _ (exec (Stmt.While _ _ _ _) _) _ _ _) | (with_reducible show wpAny _ _ (exec (Stmt.For _ _ _ _ _) _) _ _ _) | (with_reducible show wpAny _ _ (pyIter _) _ _ _) | (with_reducible show wpAny _ _ (call (Value.ref _) _) _ _ _) | (with_reducible show InvEndN _ _ _ _ _ _ _) | (with_reducible show Mid _ _ _ _ _ _) | (with_reducible show WhileStep _ _ _ _ _ _ _)); ((first | (k_unfold; (try dsimp only)) | (k_end; wrow_close) | ((with_reducible show wpAny _ _ (subscriptTail (Expr.Name _ _) (Expr.Slice _ _ _ _) (Value.str _ _) (Value.ref _)) _ _ _); ((with_reducible show wpAny _ _ (subscriptTail _ (Expr.Slice none (some (Expr.BoolOp _ _ _)) none _) _ _) _ _ _); (with_reducible rename Fr _ _ _ _ => Fz); (with_reducible rename News _ _ _ _ => Nz); (first | (exfalso; omega) | (refine cut_rule_nn (s := ⟨_, _, _, _, _⟩) Fz Nz (by assumption) (by assumption) ?_; intro _ _ _ _ _ _) | (refine cut_rule_ns (s := ⟨_, _, _, _, _⟩) Fz Nz (by assumption) (by assumption) (by assumption) (by assumption) ?_; intro _ _ _ _ _ _)))) | walk1 | (dsimp only; first | ((with_reducible show wpAny _ _ (subscriptTail (Expr.Name _ _) (Expr.Slice _ _ _ _) (Value.str _ _) (Value.ref _)) _ _ _); ((with_reducible show wpAny _ _ (subscriptTail _ (Expr.Slice none (some (Expr.BoolOp _ _ _)) none _) _ _) _ _ _); (with_reducible rename Fr _ _ _ _ => Fz); (with_reducible rename News _ _ _ _ => Nz); (first | (exfalso; omega) | (refine cut_rule_nn (s := ⟨_, _, _, _, _⟩) Fz Nz (by assumption) (by assumption) ?_; intro _ _ _ _ _ _) | (refine cut_rule_ns (s := ⟨_, _, _, _, _⟩) Fz Nz (by assumption) (by assumption) (by assumption) (by assumption) ?_; intro _ _ _ _ _ _)))) | walk1) | (leave1; try dsimp only) | fail "no step"))))
    all_goals (refine Mid.intro (by assumption) (by assumption) ⟨rfl, _, _, _, rfl, rfl, rfl⟩)
  clear F5 N4
  rintro h4 tk4 m4 n4 F4 N4 ⟨hn, t6, t7, t8, e2, e3, e4⟩
  rw [hn] at N4
  clear hn
  have F5 := fr_canon [(Str.ofString "a", .str (tx (cutTo a1 k4)) t6), (Str.ofString "b", .str (tx (cutTo b1 k4)) t7), (Str.ofString "max_cost", .int mx t8)] F4 (by simp [e2, e3, e4])
  clear F4 e2 e3 e4
  simp only [kstB] at F5
  dsimp only
  have la2 : (tx (cutTo a1 k4)).length ≤ 1000 := by rw [tx_len]; unfold cutTo; rw [List.length_take]; omega
  have lb2 : (tx (cutTo b1 k4)).length ≤ 1000 := by rw [tx_len]; unfold cutTo; rw [List.length_take]; omega
  have hlev : lev x y mx = mid (cutTo a1 k4) (cutTo b1 k4) mx := by
    rw [tx_beq, beq_eq_false_iff_ne] at hne
    simp [lev, hne, hst, hst2]
  rw [hlev] at hret
  have ha2 : ∀ c ∈ cutTo a1 k4, c < 128 := fun c hc => hax c (List.mem_of_mem_drop (by rw [ea]; exact List.mem_of_mem_take hc))
  have hb2 : ∀ c ∈ cutTo b1 k4, c < 128 := fun c hc => hay c (List.mem_of_mem_drop (by rw [eb]; exact List.mem_of_mem_take hc))
  clear hlev hst hst2 hpa hpb hp0 la lb la' lb' ea eb hne lx ly ha hb hax hay
  generalize cutTo a1 k4 = a2 at *
  generalize cutTo b1 k4 = b2 at *
  (repeat' ((fail_if_success first | (with_reducible show wpAny _ _ (exec (Stmt.If (Expr.Compare _ [CmpOp.Lt] _ _) _ _ _) _) _ _ _) | (with_reducible show wpAny _ _ (exec (Stmt.While _ _ _ _) _) _ _ _) | (with_reducible show wpAny _ _ (exec (Stmt.For _ _ _ _ _) _) _ _ _) | (with_reducible show wpAny _ _ (pyIter _) _ _ _) | (with_reducible show wpAny _ _ (call (Value.ref _) _) _ _ _) | (with_reducible show InvEndN _ _ _ _ _ _ _) | (with_reducible show Mid _ _ _ _ _ _) | (with_reducible show WhileStep _ _ _ _ _ _ _)); ((first | (k_unfold; (try dsimp only)) | (k_end; wrow_close) | ((with_reducible show wpAny _ _ (subscriptTail (Expr.Name _ _) (Expr.Slice _ _ _ _) (Value.str _ _) (Value.ref _)) _ _ _); ((with_reducible show wpAny _ _ (subscriptTail _ (Expr.Slice none (some (Expr.BoolOp _ _ _)) none _) _ _) _ _ _); (with_reducible rename Fr _ _ _ _ => Fz); (with_reducible rename News _ _ _ _ => Nz); (first | (exfalso; omega) | (refine cut_rule_nn (s := ⟨_, _, _, _, _⟩) Fz Nz (by assumption) (by assumption) ?_; intro _ _ _ _ _ _) | (refine cut_rule_ns (s := ⟨_, _, _, _, _⟩) Fz Nz (by assumption) (by assumption) (by assumption) (by assumption) ?_; intro _ _ _ _ _ _)))) | walk1 | (dsimp only; first | ((with_reducible show wpAny _ _ (subscriptTail (Expr.Name _ _) (Expr.Slice _ _ _ _) (Value.str _ _) (Value.ref _)) _ _ _); ((with_reducible show wpAny _ _ (subscriptTail _ (Expr.Slice none (some (Expr.BoolOp _ _ _)) none _) _ _) _ _ _); (with_reducible rename Fr _ _ _ _ => Fz); (with_reducible rename News _ _ _ _ => Nz); (first | (exfalso; omega) | (refine cut_rule_nn (s := ⟨_, _, _, _, _⟩) Fz Nz (by assumption) (by assumption) ?_; intro _ _ _ _ _ _) | (refine cut_rule_ns (s := ⟨_, _, _, _, _⟩) Fz Nz (by assumption) (by assumption) (by assumption) (by assumption) ?_; intro _ _ _ _ _ _)))) | walk1) | (leave1; try dsimp only) | fail "no step"))))
  · exact hret _ news _ _ (by assumption) (by assumption) ⟨rfl, intIs (mid_big (by assumption) (by assumption) (.inl (by assumption)))⟩
  · exact hret _ news _ _ (by assumption) (by assumption) ⟨rfl, intIs (mid_big (by assumption) (by assumption) (.inr (by assumption)))⟩
  rotate_left
  · exact hret _ news _ _ (by assumption) (by assumption) ⟨rfl, intIs (mid_nil (.inr (by assumption)))⟩
  · exact hret _ news _ _ (by assumption) (by assumption) ⟨rfl, intIs (mid_nil (.inl (by assumption)))⟩
  refine wp_mid F5 (fun m' n => n = news ∧ ∃ (A B : List Nat) (ta tb tc : Tok), m' (Str.ofString "a") = some (.str (tx A) ta) ∧ m' (Str.ofString "b") = some (.str (tx B) tb) ∧ m' (Str.ofString "max_cost") = some (.int mx tc)
      ∧ mid a2 b2 mx = core A B mx ∧ (tx A).length ≤ (tx B).length ∧ (tx B).length ≤ 40 ∧ (∀ c ∈ A, c < 128) ∧ (∀ c ∈ B, c < 128)) ?w5 ?_
  case w5 =>
    have hcore := mid_core (a := a2) (b := b2) (mx := mx) (by assumption) (by assumption) (by assumption) (by assumption)
    (repeat' ((fail_if_success first | (with_reducible show wpAny _ _ (exec (Stmt.While _ _ _ _) _) _ _ _) | (with_reducible show wpAny _ _ (exec (Stmt.For _ _ _ _ _) _) _ _ _) | (with_reducible show wpAny _ _ (pyIter _) _ _ _) | (with_reducible show wpAny _ _ (call (Value.ref _) _) _ _ _) | (with_reducible show InvEndN _ _ _ _ _ _ _) | (with_reducible show Mid _ _ _ _ _ _) | (with_reducible show WhileStep _ _ _ _ _ _ _)); ((first | (k_unfold; (try dsimp only)) | (k_end; wrow_close) | ((with_reducible show wpAny _ _ (subscriptTail (Expr.Name _ _) (Expr.Slice _ _ _ _) (Value.str _ _) (Value.ref _)) _ _ _); ((with_reducible show wpAny _ _ (subscriptTail _ (Expr.Slice none (some (Expr.BoolOp _ _ _)) none _) _ _) _ _ _); (with_reducible rename Fr _ _ _ _ => Fz); (with_reducible rename News _ _ _ _ => Nz); (first | (exfalso; omega) | (refine cut_rule_nn (s := ⟨_, _, _, _, _⟩) Fz Nz (by assumption) (by assumption) ?_; intro _ _ _ _ _ _) | (refine cut_rule_ns (s := ⟨_, _, _, _, _⟩) Fz Nz (by assumption) (by assumption) (by assumption) (by assumption) ?_; intro _ _ _ _ _ _)))) | walk1 | (dsimp only; first | ((with_reducible show wpAny _ _ (subscriptTail (Expr.Name _ _) (Expr.Slice _ _ _ _) (Value.str _ _) (Value.ref _)) _ _ _); ((with_reducible show wpAny _ _ (subscriptTail _ (Expr.Slice none (some (Expr.BoolOp _ _ _)) none _) _ _) _ _ _); (with_reducible rename Fr _ _ _ _ => Fz); (with_reducible rename News _ _ _ _ => Nz); (first | (exfalso; omega) | (refine cut_rule_nn (s := ⟨_, _, _, _, _⟩) Fz Nz (by assumption) (by assumption) ?_; intro _ _ _ _ _ _) | (refine cut_rule_ns (s := ⟨_, _, _, _, _⟩) Fz Nz (by assumption) (by assumption) (by assumption) (by assumption) ?_; intro _ _ _ _ _ _)))) | walk1) | (leave1; try dsimp only) | fail "no step"))))
    · rename News _ _ _ _ => N9
      refine Mid.intro (by assumption) (show News _ _ _ news from fun p hp => N9 p (.tail _ hp)) ⟨rfl, b2, a2, _, _, _, rfl, rfl, rfl, ?_, by omega, by omega, hb2, ha2⟩
      rw [hcore, if_pos (by have e1 := tx_len a2; have e2 := tx_len b2; omega)]
    · refine Mid.intro (by assumption) (by assumption) ⟨rfl, a2, b2, _, _, _, rfl, rfl, rfl, ?_, by omega, by omega, ha2, hb2⟩
      rw [hcore, if_neg (by have e1 := tx_len a2; have e2 := tx_len b2; omega)]
  clear F5 N4
  rintro h4 tk4 m4 n4 F4 N4 ⟨hn, A, B, t6, t7, t8, e2, e3, e4, hcore, lAB, lB, hA, hB⟩
  rw [hcore] at hret
  clear hcore
  rw [hn] at N4
  clear hn
  have F5 := fr_canon [(Str.ofString "a", .str (tx A) t6), (Str.ofString "b", .str (tx B) t7), (Str.ofString "max_cost", .int mx t8)] F4 (by simp [e2, e3, e4])
  clear F4 e2 e3 e4
  simp only [kstB] at F5
  dsimp only
  (repeat' ((fail_if_success first | (with_reducible show wpAny _ _ (exec (Stmt.While _ _ _ _) _) _ _ _) | (with_reducible show wpAny _ _ (exec (Stmt.For _ _ _ _ _) _) _ _ _) | (with_reducible show wpAny _ _ (pyIter _) _ _ _) | (with_reducible show wpAny _ _ (call (Value.ref _) _) _ _ _) | (with_reducible show InvEndN _ _ _ _ _ _ _) | (with_reducible show Mid _ _ _ _ _ _) | (with_reducible show WhileStep _ _ _ _ _ _ _)); ((first | (k_unfold; (try dsimp only)) | (k_end; wrow_close) | ((with_reducible show wpAny _ _ (subscriptTail (Expr.Name _ _) (Expr.Slice _ _ _ _) (Value.str _ _) (Value.ref _)) _ _ _); ((with_reducible show wpAny _ _ (subscriptTail _ (Expr.Slice none (some (Expr.BoolOp _ _ _)) none _) _ _) _ _ _); (with_reducible rename Fr _ _ _ _ => Fz); (with_reducible rename News _ _ _ _ => Nz); (first | (exfalso; omega) | (refine cut_rule_nn (s := ⟨_, _, _, _, _⟩) Fz Nz (by assumption) (by assumption) ?_; intro _ _ _ _ _ _) | (refine cut_rule_ns (s := ⟨_, _, _, _, _⟩) Fz Nz (by assumption) (by assumption) (by assumption) (by assumption) ?_; intro _ _ _ _ _ _)))) | walk1 | (dsimp only; first | ((with_reducible show wpAny _ _ (subscriptTail (Expr.Name _ _) (Expr.Slice _ _ _ _) (Value.str _ _) (Value.ref _)) _ _ _); ((with_reducible show wpAny _ _ (subscriptTail _ (Expr.Slice none (some (Expr.BoolOp _ _ _)) none _) _ _) _ _ _); (with_reducible rename Fr _ _ _ _ => Fz); (with_reducible rename News _ _ _ _ => Nz); (first | (exfalso; omega) | (refine cut_rule_nn (s := ⟨_, _, _, _, _⟩) Fz Nz (by assumption) (by assumption) ?_; intro _ _ _ _ _ _) | (refine cut_rule_ns (s := ⟨_, _, _, _, _⟩) Fz Nz (by assumption) (by assumption) (by assumption) (by assumption) ?_; intro _ _ _ _ _ _)))) | walk1) | (leave1; try dsimp only) | fail "no step"))))
  · exact hret _ news _ _ (by assumption) (by assumption) ⟨rfl, intIs (core_big (by assumption))⟩
  rename ¬ (mx < _) => hgo
  rw [core_go hgo] at hret
  rename IsRange _ _ _ _ _ _ _ _ => R9
  rename News _ _ _ _ => N9
  refine row_rule (n := A.length) rfl (by assumption) N9 R9 (by rw [tx_len]) (by have e1 := tx_len A; omega) ?_
  clear R9 N9
  intro D us c9 h9 tk9 F9 N9 hlt hus
  (repeat' ((fail_if_success first | (with_reducible show wpAny _ _ (exec (Stmt.While _ _ _ _) _) _ _ _) | (with_reducible show wpAny _ _ (exec (Stmt.For _ _ _ _ _) _) _ _ _) | (with_reducible show wpAny _ _ (pyIter _) _ _ _) | (with_reducible show wpAny _ _ (call (Value.ref _) _) _ _ _) | (with_reducible show InvEndN _ _ _ _ _ _ _) | (with_reducible show Mid _ _ _ _ _ _) | (with_reducible show WhileStep _ _ _ _ _ _ _)); ((first | (k_unfold; (try dsimp only)) | (k_end; wrow_close) | ((with_reducible show wpAny _ _ (subscriptTail (Expr.Name _ _) (Expr.Slice _ _ _ _) (Value.str _ _) (Value.ref _)) _ _ _); ((with_reducible show wpAny _ _ (subscriptTail _ (Expr.Slice none (some (Expr.BoolOp _ _ _)) none _) _ _) _ _ _); (with_reducible rename Fr _ _ _ _ => Fz); (with_reducible rename News _ _ _ _ => Nz); (first | (exfalso; omega) | (refine cut_rule_nn (s := ⟨_, _, _, _, _⟩) Fz Nz (by assumption) (by assumption) ?_; intro _ _ _ _ _ _) | (refine cut_rule_ns (s := ⟨_, _, _, _, _⟩) Fz Nz (by assumption) (by assumption) (by assumption) (by assumption) ?_; intro _ _ _ _ _ _)))) | walk1 | (dsimp only; first | ((with_reducible show wpAny _ _ (subscriptTail (Expr.Name _ _) (Expr.Slice _ _ _ _) (Value.str _ _) (Value.ref _)) _ _ _); ((with_reducible show wpAny _ _ (subscriptTail _ (Expr.Slice none (some (Expr.BoolOp _ _ _)) none _) _ _) _ _ _); (with_reducible rename Fr _ _ _ _ => Fz); (with_reducible rename News _ _ _ _ => Nz); (first | (exfalso; omega) | (refine cut_rule_nn (s := ⟨_, _, _, _, _⟩) Fz Nz (by assumption) (by assumption) ?_; intro _ _ _ _ _ _) | (refine cut_rule_ns (s := ⟨_, _, _, _, _⟩) Fz Nz (by assumption) (by assumption) (by assumption) (by assumption) ?_; intro _ _ _ _ _ _)))) | walk1) | (leave1; try dsimp only) | fail "no step"))))
  rename Fr _ _ _ _ => lF'
  with_unfolding_all refine' For_invVF lF' ?k1 ?k2 ?_
  case k1 => exact rfl
  case k2 => exact rfl
  (repeat' ((fail_if_success first | (with_reducible show wpAny _ _ (exec (Stmt.While _ _ _ _) _) _ _ _) | (with_reducible show wpAny _ _ (exec (Stmt.For _ _ _ _ _) _) _ _ _) | (with_reducible show wpAny _ _ (pyIter _) _ _ _) | (with_reducible show wpAny _ _ (call (Value.ref _) _) _ _ _) | (with_reducible show InvEndN _ _ _ _ _ _ _) | (with_reducible show Mid _ _ _ _ _ _) | (with_reducible show WhileStep _ _ _ _ _ _ _)); ((first | (k_unfold; (try dsimp only)) | (k_end; wrow_close) | ((with_reducible show wpAny _ _ (subscriptTail (Expr.Name _ _) (Expr.Slice _ _ _ _) (Value.str _ _) (Value.ref _)) _ _ _); ((with_reducible show wpAny _ _ (subscriptTail _ (Expr.Slice none (some (Expr.BoolOp _ _ _)) none _) _ _) _ _ _); (with_reducible rename Fr _ _ _ _ => Fz); (with_reducible rename News _ _ _ _ => Nz); (first | (exfalso; omega) | (refine cut_rule_nn (s := ⟨_, _, _, _, _⟩) Fz Nz (by assumption) (by assumption) ?_; intro _ _ _ _ _ _) | (refine cut_rule_ns (s := ⟨_, _, _, _, _⟩) Fz Nz (by assumption) (by assumption) (by assumption) (by assumption) ?_; intro _ _ _ _ _ _)))) | walk1 | (dsimp only; first | ((with_reducible show wpAny _ _ (subscriptTail (Expr.Name _ _) (Expr.Slice _ _ _ _) (Value.str _ _) (Value.ref _)) _ _ _); ((with_reducible show wpAny _ _ (subscriptTail _ (Expr.Slice none (some (Expr.BoolOp _ _ _)) none _) _ _) _ _ _); (with_reducible rename Fr _ _ _ _ => Fz); (with_reducible rename News _ _ _ _ => Nz); (first | (exfalso; omega) | (refine cut_rule_nn (s := ⟨_, _, _, _, _⟩) Fz Nz (by assumption) (by assumption) ?_; intro _ _ _ _ _ _) | (refine cut_rule_ns (s := ⟨_, _, _, _, _⟩) Fz Nz (by assumption) (by assumption) (by assumption) (by assumption) ?_; intro _ _ _ _ _ _)))) | walk1) | (leave1; try dsimp only) | fail "no step"))))
  have eA := tx_len A
  have eB := tx_len B
  have eR := row0_len A.length
  k_with "state" => exact ⟨by simp [eR], out_zero⟩
  k_state (fun pre res row => row.length = A.length ∧ OutI A B mx pre.length res row) "result" "row"
  rotate_left
  · dsimp only
    rename OutI _ _ _ _ _ _ => hOut
    have hlast := out_end hOut (by rw [rangeKs_length]; omega)
    (repeat' ((fail_if_success first | (with_reducible show wpAny _ _ (exec (Stmt.While _ _ _ _) _) _ _ _) | (with_reducible show wpAny _ _ (exec (Stmt.For _ _ _ _ _) _) _ _ _) | (with_reducible show wpAny _ _ (pyIter _) _ _ _) | (with_reducible show wpAny _ _ (call (Value.ref _) _) _ _ _) | (with_reducible show InvEndN _ _ _ _ _ _ _) | (with_reducible show Mid _ _ _ _ _ _) | (with_reducible show WhileStep _ _ _ _ _ _ _)); ((first | (k_unfold; (try dsimp only)) | (k_end; wrow_close) | ((with_reducible show wpAny _ _ (subscriptTail (Expr.Name _ _) (Expr.Slice _ _ _ _) (Value.str _ _) (Value.ref _)) _ _ _); ((with_reducible show wpAny _ _ (subscriptTail _ (Expr.Slice none (some (Expr.BoolOp _ _ _)) none _) _ _) _ _ _); (with_reducible rename Fr _ _ _ _ => Fz); (with_reducible rename News _ _ _ _ => Nz); (first | (exfalso; omega) | (refine cut_rule_nn (s := ⟨_, _, _, _, _⟩) Fz Nz (by assumption) (by assumption) ?_; intro _ _ _ _ _ _) | (refine cut_rule_ns (s := ⟨_, _, _, _, _⟩) Fz Nz (by assumption) (by assumption) (by assumption) (by assumption) ?_; intro _ _ _ _ _ _)))) | walk1 | (dsimp only; first | ((with_reducible show wpAny _ _ (subscriptTail (Expr.Name _ _) (Expr.Slice _ _ _ _) (Value.str _ _) (Value.ref _)) _ _ _); ((with_reducible show wpAny _ _ (subscriptTail _ (Expr.Slice none (some (Expr.BoolOp _ _ _)) none _) _ _) _ _ _); (with_reducible rename Fr _ _ _ _ => Fz); (with_reducible rename News _ _ _ _ => Nz); (first | (exfalso; omega) | (refine cut_rule_nn (s := ⟨_, _, _, _, _⟩) Fz Nz (by assumption) (by assumption) ?_; intro _ _ _ _ _ _) | (refine cut_rule_ns (s := ⟨_, _, _, _, _⟩) Fz Nz (by assumption) (by assumption) (by assumption) (by assumption) ?_; intro _ _ _ _ _ _)))) | walk1) | (leave1; try dsimp only) | fail "no step"))))
    rename News _ _ _ _ => N9
    exact hret _ news _ _ (by assumption) (show News _ _ _ news from fun p hp => N9 p (.tail _ hp)) ⟨rfl, intIs hlast⟩
  obtain ⟨row1, res1, hr1, hs1, hOut⟩ := outI_name ‹OutI A B mx kPre.length _ _›
  subst hr1 hs1
  obtain ⟨bc, hbc⟩ := get_of_lt (l := B) (k := kPre.length) (by omega)
  have hit : Txt.item (tx B) kN = tx [bc] := tx_item (by omega) (by rw [show kN.toNat = kPre.length by omega]; exact hbc)
  have hbc8 : bc < 128 := hB bc (List.mem_of_getElem? hbc)
  (repeat' ((fail_if_success first | (with_reducible show wpAny _ _ (exec (Stmt.While _ _ _ _) _) _ _ _) | (with_reducible show wpAny _ _ (exec (Stmt.For _ _ _ _ _) _) _ _ _) | (with_reducible show wpAny _ _ (pyIter _) _ _ _) | (with_reducible show wpAny _ _ (call (Value.ref _) _) _ _ _) | (with_reducible show InvEndN _ _ _ _ _ _ _) | (with_reducible show Mid _ _ _ _ _ _) | (with_reducible show WhileStep _ _ _ _ _ _ _)); ((first | (k_unfold; (try dsimp only)) | (k_end; wrow_close) | ((with_reducible show wpAny _ _ (subscriptTail (Expr.Name _ _) (Expr.Slice _ _ _ _) (Value.str _ _) (Value.ref _)) _ _ _); ((with_reducible show wpAny _ _ (subscriptTail _ (Expr.Slice none (some (Expr.BoolOp _ _ _)) none _) _ _) _ _ _); (with_reducible rename Fr _ _ _ _ => Fz); (with_reducible rename News _ _ _ _ => Nz); (first | (exfalso; omega) | (refine cut_rule_nn (s := ⟨_, _, _, _, _⟩) Fz Nz (by assumption) (by assumption) ?_; intro _ _ _ _ _ _) | (refine cut_rule_ns (s := ⟨_, _, _, _, _⟩) Fz Nz (by assumption) (by assumption) (by assumption) (by assumption) ?_; intro _ _ _ _ _ _)))) | walk1 | (dsimp only; first | ((with_reducible show wpAny _ _ (subscriptTail (Expr.Name _ _) (Expr.Slice _ _ _ _) (Value.str _ _) (Value.ref _)) _ _ _); ((with_reducible show wpAny _ _ (subscriptTail _ (Expr.Slice none (some (Expr.BoolOp _ _ _)) none _) _ _) _ _ _); (with_reducible rename Fr _ _ _ _ => Fz); (with_reducible rename News _ _ _ _ => Nz); (first | (exfalso; omega) | (refine cut_rule_nn (s := ⟨_, _, _, _, _⟩) Fz Nz (by assumption) (by assumption) ?_; intro _ _ _ _ _ _) | (refine cut_rule_ns (s := ⟨_, _, _, _, _⟩) Fz Nz (by assumption) (by assumption) (by assumption) (by assumption) ?_; intro _ _ _ _ _ _)))) | walk1) | (leave1; try dsimp only) | fail "no step"))))
  rename Fr _ _ _ _ => F6
  rw [hit] at F6
  with_unfolding_all refine' For_invVF F6 ?k1 ?k2 ?_
  case k1 => exact rfl
  case k2 => exact rfl
  (repeat' ((fail_if_success first | (with_reducible show wpAny _ _ (exec (Stmt.While _ _ _ _) _) _ _ _) | (with_reducible show wpAny _ _ (exec (Stmt.For _ _ _ _ _) _) _ _ _) | (with_reducible show wpAny _ _ (pyIter _) _ _ _) | (with_reducible show wpAny _ _ (call (Value.ref _) _) _ _ _) | (with_reducible show InvEndN _ _ _ _ _ _ _) | (with_reducible show Mid _ _ _ _ _ _) | (with_reducible show WhileStep _ _ _ _ _ _ _)); ((first | (k_unfold; (try dsimp only)) | (k_end; wrow_close) | ((with_reducible show wpAny _ _ (subscriptTail (Expr.Name _ _) (Expr.Slice _ _ _ _) (Value.str _ _) (Value.ref _)) _ _ _); ((with_reducible show wpAny _ _ (subscriptTail _ (Expr.Slice none (some (Expr.BoolOp _ _ _)) none _) _ _) _ _ _); (with_reducible rename Fr _ _ _ _ => Fz); (with_reducible rename News _ _ _ _ => Nz); (first | (exfalso; omega) | (refine cut_rule_nn (s := ⟨_, _, _, _, _⟩) Fz Nz (by assumption) (by assumption) ?_; intro _ _ _ _ _ _) | (refine cut_rule_ns (s := ⟨_, _, _, _, _⟩) Fz Nz (by assumption) (by assumption) (by assumption) (by assumption) ?_; intro _ _ _ _ _ _)))) | walk1 | (dsimp only; first | ((with_reducible show wpAny _ _ (subscriptTail (Expr.Name _ _) (Expr.Slice _ _ _ _) (Value.str _ _) (Value.ref _)) _ _ _); ((with_reducible show wpAny _ _ (subscriptTail _ (Expr.Slice none (some (Expr.BoolOp _ _ _)) none _) _ _) _ _ _); (with_reducible rename Fr _ _ _ _ => Fz); (with_reducible rename News _ _ _ _ => Nz); (first | (exfalso; omega) | (refine cut_rule_nn (s := ⟨_, _, _, _, _⟩) Fz Nz (by assumption) (by assumption) ?_; intro _ _ _ _ _ _) | (refine cut_rule_ns (s := ⟨_, _, _, _, _⟩) Fz Nz (by assumption) (by assumption) (by assumption) (by assumption) ?_; intro _ _ _ _ _ _)))) | walk1) | (leave1; try dsimp only) | fail "no step"))))
  k_with "state" => first | exact inn_turn1 hInn (by assumption) hac (by assumption) (by assumption) | exact inn_turn2 hInn (by assumption) hac (by assumption) (by assumption) | exact ⟨by assumption, inn_zero⟩
  k_state (fun pre d res mn row' => row'.length = A.length ∧ InnI bc A row1 (kN * 2) pre.length d res mn row') "distance" "result" "minimum" "row"
  · obtain ⟨d2, res2, mn2, row2, e1, e2, e3, e4, hInn⟩ := innI_name ‹InnI bc A row1 _ kPre.length _ _ _ _›
    subst e1 e2 e3 e4
    obtain ⟨ac, hac⟩ := get_of_lt (l := A) (k := kPre.length) (by omega)
    have hia : Txt.item (tx A) kN = tx [ac] := tx_item (by omega) (by rw [show kN.toNat = kPre.length by omega]; exact hac)
    have hac8 : ac < 128 := hA ac (List.mem_of_getElem? hac)
    (repeat' ((fail_if_success first | (with_reducible show wpAny _ _ (exec (Stmt.While _ _ _ _) _) _ _ _) | (with_reducible show wpAny _ _ (exec (Stmt.For _ _ _ _ _) _) _ _ _) | (with_reducible show wpAny _ _ (pyIter _) _ _ _) | (with_reducible show wpAny _ _ (call (Value.ref _) _) _ _ _) | (with_reducible show InvEndN _ _ _ _ _ _ _) | (with_reducible show Mid _ _ _ _ _ _) | (with_reducible show WhileStep _ _ _ _ _ _ _)); ((first | (k_unfold; (try dsimp only)) | (k_end; wrow_close) | ((with_reducible show wpAny _ _ (subscriptTail (Expr.Name _ _) (Expr.Slice _ _ _ _) (Value.str _ _) (Value.ref _)) _ _ _); ((with_reducible show wpAny _ _ (subscriptTail _ (Expr.Slice none (some (Expr.BoolOp _ _ _)) none _) _ _) _ _ _); (with_reducible rename Fr _ _ _ _ => Fz); (with_reducible rename News _ _ _ _ => Nz); (first | (exfalso; omega) | (refine cut_rule_nn (s := ⟨_, _, _, _, _⟩) Fz Nz (by assumption) (by assumption) ?_; intro _ _ _ _ _ _) | (refine cut_rule_ns (s := ⟨_, _, _, _, _⟩) Fz Nz (by assumption) (by assumption) (by assumption) (by assumption) ?_; intro _ _ _ _ _ _)))) | walk1 | (dsimp only; first | ((with_reducible show wpAny _ _ (subscriptTail (Expr.Name _ _) (Expr.Slice _ _ _ _) (Value.str _ _) (Value.ref _)) _ _ _); ((with_reducible show wpAny _ _ (subscriptTail _ (Expr.Slice none (some (Expr.BoolOp _ _ _)) none _) _ _) _ _ _); (with_reducible rename Fr _ _ _ _ => Fz); (with_reducible rename News _ _ _ _ => Nz); (first | (exfalso; omega) | (refine cut_rule_nn (s := ⟨_, _, _, _, _⟩) Fz Nz (by assumption) (by assumption) ?_; intro _ _ _ _ _ _) | (refine cut_rule_ns (s := ⟨_, _, _, _, _⟩) Fz Nz (by assumption) (by assumption) (by assumption) (by assumption) ?_; intro _ _ _ _ _ _)))) | walk1) | (leave1; try dsimp only) | fail "no step"))))
    rw [hia]
    k_dflt (refine ctr_use (sub_call w p loose mean mg mb _ bc ac _ _ hbc8 hac8) (by k_asm) (by k_asm) (by k_asm) (by k_asm) (by k_asm) rfl (by ktr_room) (by ktr_units) ?_)
    rintro v n8 h8 tk8 F8 N8 ⟨hn8, t9, hv⟩
    subst hv
    rw [hn8] at N8
    clear hn8 kFr kNews
    (repeat' ((fail_if_success first | (with_reducible show wpAny _ _ (exec (Stmt.While _ _ _ _) _) _ _ _) | (with_reducible show wpAny _ _ (exec (Stmt.For _ _ _ _ _) _) _ _ _) | (with_reducible show wpAny _ _ (pyIter _) _ _ _) | (with_reducible show wpAny _ _ (call (Value.ref _) _) _ _ _) | (with_reducible show InvEndN _ _ _ _ _ _ _) | (with_reducible show Mid _ _ _ _ _ _) | (with_reducible show WhileStep _ _ _ _ _ _ _)); ((first | (k_unfold; (try dsimp only)) | (k_end; wrow_close) | ((with_reducible show wpAny _ _ (subscriptTail (Expr.Name _ _) (Expr.Slice _ _ _ _) (Value.str _ _) (Value.ref _)) _ _ _); ((with_reducible show wpAny _ _ (subscriptTail _ (Expr.Slice none (some (Expr.BoolOp _ _ _)) none _) _ _) _ _ _); (with_reducible rename Fr _ _ _ _ => Fz); (with_reducible rename News _ _ _ _ => Nz); (first | (exfalso; omega) | (refine cut_rule_nn (s := ⟨_, _, _, _, _⟩) Fz Nz (by assumption) (by assumption) ?_; intro _ _ _ _ _ _) | (refine cut_rule_ns (s := ⟨_, _, _, _, _⟩) Fz Nz (by assumption) (by assumption) (by assumption) (by assumption) ?_; intro _ _ _ _ _ _)))) | walk1 | (dsimp only; first | ((with_reducible show wpAny _ _ (subscriptTail (Expr.Name _ _) (Expr.Slice _ _ _ _) (Value.str _ _) (Value.ref _)) _ _ _); ((with_reducible show wpAny _ _ (subscriptTail _ (Expr.Slice none (some (Expr.BoolOp _ _ _)) none _) _ _) _ _ _); (with_reducible rename Fr _ _ _ _ => Fz); (with_reducible rename News _ _ _ _ => Nz); (first | (exfalso; omega) | (refine cut_rule_nn (s := ⟨_, _, _, _, _⟩) Fz Nz (by assumption) (by assumption) ?_; intro _ _ _ _ _ _) | (refine cut_rule_ns (s := ⟨_, _, _, _, _⟩) Fz Nz (by assumption) (by assumption) (by assumption) (by assumption) ?_; intro _ _ _ _ _ _)))) | walk1) | (leave1; try dsimp only) | fail "no step"))))
    all_goals (rename News _ _ _ _ => N9; rename Fr _ _ _ _ => F9; rename IntsAre (List.set _ _ _) _ => hi')
    · refine kst_end ⟨_, _, _, _, _, _, _, _, _⟩ F9 N9 (by dsimp only; exact List.forall_mem_cons.mpr ⟨List.mem_cons_self, fun p hp => List.mem_cons_of_mem _ (List.mem_append_left _ hp)⟩) (by exact fun p hp => List.mem_cons_of_mem _ (List.mem_append_right _ hp)) (by rfl) (by dsimp only; exact hi') (by kst_all) ?_ (by dsimp only; exact inn_turn1 hInn (by assumption) hac (by assumption) (by assumption))
      intro z h1 h2 h3
      simp only [List.forall_mem_cons, List.not_mem_nil, false_implies, implies_true, and_true, ne_eq] at h2
      have h4 := h3
      simp only [List.contains_cons, List.contains_nil, Bool.or_false, Bool.or_eq_false_iff, beq_eq_false_iff_ne, ne_eq] at h4
      dsimp only
      simp only [h1, h2, h3, h4, Bool.false_eq_true, if_false]
    · refine kst_end ⟨_, _, _, _, _, _, _, _, _⟩ F9 N9 (by dsimp only; exact List.forall_mem_cons.mpr ⟨List.mem_cons_self, fun p hp => List.mem_cons_of_mem _ (List.mem_append_left _ hp)⟩) (by exact fun p hp => List.mem_cons_of_mem _ (List.mem_append_right _ hp)) (by rfl) (by dsimp only; exact hi') (by kst_all) ?_ (by dsimp only; exact inn_turn2 hInn (by assumption) hac (by assumption) (by assumption))
      intro z h1 h2 h3
      simp only [List.forall_mem_cons, List.not_mem_nil, false_implies, implies_true, and_true, ne_eq] at h2
      have h4 := h3
      simp only [List.contains_cons, List.contains_nil, Bool.or_false, Bool.or_eq_false_iff, beq_eq_false_iff_ne, ne_eq] at h4
      dsimp only
      simp only [h1, h2, h3, h4, Bool.false_eq_true, if_false]
  · rename InnI _ _ _ _ _ _ _ _ _ => hInn
    obtain ⟨d2, res2, mn2, row2, e1, e2, e3, e4, hInn⟩ := innI_name hInn
    subst e1 e2 e3 e4
    have hend := inn_end hInn (by assumption) (by rw [rangeKs_length]; omega)
    have eN : kN = (kPre.length : Int) := by omega
    rw [eN] at hend
    have ho1 := out_step hOut hbc
    have ho2 := out_ret hOut hbc
    rw [hend] at ho1 ho2
    dsimp only at ho1 ho2
    dsimp only
    (repeat' ((fail_if_success first | (with_reducible show wpAny _ _ (exec (Stmt.While _ _ _ _) _) _ _ _) | (with_reducible show wpAny _ _ (exec (Stmt.For _ _ _ _ _) _) _ _ _) | (with_reducible show wpAny _ _ (pyIter _) _ _ _) | (with_reducible show wpAny _ _ (call (Value.ref _) _) _ _ _) | (with_reducible show InvEndN _ _ _ _ _ _ _) | (with_reducible show Mid _ _ _ _ _ _) | (with_reducible show WhileStep _ _ _ _ _ _ _)); ((first | (k_unfold; (try dsimp only)) | (k_end; wrow_close) | ((with_reducible show wpAny _ _ (subscriptTail (Expr.Name _ _) (Expr.Slice _ _ _ _) (Value.str _ _) (Value.ref _)) _ _ _); ((with_reducible show wpAny _ _ (subscriptTail _ (Expr.Slice none (some (Expr.BoolOp _ _ _)) none _) _ _) _ _ _); (with_reducible rename Fr _ _ _ _ => Fz); (with_reducible rename News _ _ _ _ => Nz); (first | (exfalso; omega) | (refine cut_rule_nn (s := ⟨_, _, _, _, _⟩) Fz Nz (by assumption) (by assumption) ?_; intro _ _ _ _ _ _) | (refine cut_rule_ns (s := ⟨_, _, _, _, _⟩) Fz Nz (by assumption) (by assumption) (by assumption) (by assumption) ?_; intro _ _ _ _ _ _)))) | walk1 | (dsimp only; first | ((with_reducible show wpAny _ _ (subscriptTail (Expr.Name _ _) (Expr.Slice _ _ _ _) (Value.str _ _) (Value.ref _)) _ _ _); ((with_reducible show wpAny _ _ (subscriptTail _ (Expr.Slice none (some (Expr.BoolOp _ _ _)) none _) _ _) _ _ _); (with_reducible rename Fr _ _ _ _ => Fz); (with_reducible rename News _ _ _ _ => Nz); (first | (exfalso; omega) | (refine cut_rule_nn (s := ⟨_, _, _, _, _⟩) Fz Nz (by assumption) (by assumption) ?_; intro _ _ _ _ _ _) | (refine cut_rule_ns (s := ⟨_, _, _, _, _⟩) Fz Nz (by assumption) (by assumption) (by assumption) (by assumption) ?_; intro _ _ _ _ _ _)))) | walk1) | (leave1; try dsimp only) | fail "no step"))))
    · rename News _ _ _ _ => N9
      exact hret _ news _ _ (by assumption) (show News _ _ _ news from fun p hp => N9 p (.tail _ (List.mem_append_left _ hp))) ⟨rfl, intIs (ho2 (by assumption))⟩
    · rename News _ _ _ _ => N9
      rename Fr _ _ _ _ => F9
      refine kst_end ⟨_, _, _, _, _⟩ F9 N9 (by dsimp only; exact List.forall_mem_cons.mpr ⟨List.mem_cons_self, fun p hp => List.mem_cons_of_mem _ (List.mem_append_left _ hp)⟩) (by exact fun p hp => List.mem_cons_of_mem _ (List.mem_append_right _ hp)) (by rfl) (by dsimp only; assumption) (by kst_all) ?_ (by dsimp only; rw [List.length_append]; exact ⟨(ho1 (by assumption)).1, ho1 (by assumption)⟩)
      intro z h1 h2 h3
      simp only [List.forall_mem_cons, List.not_mem_nil, false_implies, implies_true, and_true, ne_eq] at h2
      have h4 := h3
      simp only [List.contains_cons, List.contains_nil, Bool.or_false, Bool.or_eq_false_iff, beq_eq_false_iff_ne, ne_eq] at h4
      try dsimp only
      have h5 : [Str.ofString "substitute", Str.ofString "insert_delete"].contains z = false := by
        simp only [List.contains_cons, List.contains_nil, Bool.or_false, Bool.or_eq_false_iff, beq_eq_false_iff_ne, ne_eq]; exact ⟨h4.2.2.2.2.1, h4.2.2.2.2.2⟩
      simp only [h1, h2, h3, h4, h5, Bool.false_eq_true, if_false]
end Mine
end Lev3r02_part

section PureL3_part
open PySem PySem.W PyProof.Rows
namespace Mine
def euc : Nat → Nat → Nat → List Nat × Nat
  | 0, h, _ => ([], h)
  | f + 1, h, l => if l = 0 then ([], h) else ((h / l) :: (euc f l (h % l)).1, (euc f l (h % l)).2)
def EucI (h0 l0 h l : Nat) (qs : List Nat) : Prop :=
  qs.length ≤ 9 ∧ 1 ≤ h ∧ h ≤ 8 ∧ l ≤ 8 ∧ euc 9 h0 l0 = (qs ++ (euc (9 - qs.length) h l).1, (euc (9 - qs.length) h l).2)
theorem euc_zero {h l : Nat} (h1 : 1 ≤ h) (h2 : h ≤ 8) (h3 : l ≤ 8) : EucI h l h l [] := ⟨by decide, h1, h2, h3, rfl⟩
theorem euc_step {h0 l0 h l : Nat} {qs : List Nat} (x : EucI h0 l0 h l qs) (hl : l ≠ 0) (hq : qs.length < 9) : EucI h0 l0 l (h % l) (qs ++ [h / l]) := by
  obtain ⟨h1, h2, h3, h4, h5⟩ := x
  refine ⟨by rw [List.length_append]; simp; omega, by omega, h4, by have := Nat.mod_lt h (show l > 0 by omega); omega, ?_⟩
  obtain ⟨f, hf⟩ : ∃ f, 9 - qs.length = f + 1 := ⟨8 - qs.length, by omega⟩
  have hg : 9 - (qs ++ [h / l]).length = f := by rw [List.length_append]; simp; omega
  rw [h5, hg, hf, euc, if_neg hl, List.append_assoc]; rfl
theorem euc_end {h0 l0 h l : Nat} {qs : List Nat} (x : EucI h0 l0 h l qs) (hl : l = 0 ∨ 9 ≤ qs.length) : euc 9 h0 l0 = (qs, h) := by
  obtain ⟨h1, h2, h3, h4, h5⟩ := x
  rw [h5]
  rcases hl with rfl | hl
  · cases h9 : 9 - qs.length with
    | zero => simp [euc]
    | succ f => simp [euc]
  · have : 9 - qs.length = 0 := by omega
    simp [this, euc]
theorem posmod {x m : Int} (hm : 0 < m) : ∃ k : Nat, x.fmod m = (k : Int) ∧ (k : Int) < m := by
  have h1 := Int.fmod_nonneg_of_pos x hm
  have h2 := Int.fmod_lt_of_pos x hm
  exact ⟨(x.fmod m).toNat, by omega, by omega⟩
end Mine
namespace Mine
theorem name_row {vs : List Value} {ns : List Int} (h : IntsAre vs (List.take 3 ns ++ [0, 0, 0])) : ∃ us row, vs = us ∧ List.take 3 ns ++ [0, 0, 0] = row ∧ 3 ≤ row.length ∧ IntsAre us row :=
  ⟨vs, _, rfl, rfl, by rw [List.length_append]; simp, h⟩
theorem name_led {h₀ h : Heap} {L : Addr} {p : Addr × Obj} {l : List (Addr × Obj)} (N : News h₀ L h (p :: l)) : ∃ D o, p = (D, o) ∧ News h₀ L h ((D, o) :: l) := ⟨p.1, p.2, rfl, N⟩
end Mine
end PureL3_part

section L2k_part
open PySem PySem.W PyProof.Rows PySem.Calls
namespace Mine
set_option maxRecDepth 100000
theorem ctrF_law {prog : Program} {w : World} {K : Frag} {p : Program} {loose : List Str} {mean : ExcName → Option Value} {mg mb : Str → Option Value} {k : Nat} {f : Addr} {vs : List Value} {bc : Heap → Prop} {V : Value → Prop} {news keep tl : List (Addr × Obj)}
    {dp un : Nat} {gd : Option (List Code)} {cn : Str} {cs : Scope} {ad : Addr} {ccd : Value} {cl : List (Str × Addr)} {outer : List Env} {A₀ : Around} {base h₀ : Heap} {L : Addr} {m : Str → Option Value} {s : Shared} {Q E : Value → Shared → Prop}
    (C : CtrF prog w K p loose mean mg mb k f vs bc tl (fun _ => True) (fun h v led' _ => V v ∧ Tabs led' ∧ Fresh h tl led')) (hb : bc base)
    (B : Below A₀ base outer h₀) (F : Fr h₀ L s.heap m) (X : K.In h₀) (N : News h₀ L s.heap news) (T : Top p loose mean mg mb h₀) (hk : cs.kind = .function)
    (hd : dp + k < recursionLimit) (hu : un + 8 * k < cLine) (hT : Tabs tl) (ht : ∀ q ∈ tl, q ∈ news) (hkp : ∀ q ∈ keep, q ∈ news) (hoff : ∀ q ∈ keep, OffT tl q)
    (h : ∀ (v : Value) (tl' : List (Addr × Obj)) (h' : Heap) (tk' : Nat), V v → Tabs tl' → Fresh s.heap tl tl' → Fr h₀ L h' m → News h₀ L h' (keep ++ tl') → Q v { s with heap := h', toks := tk' }) :
    wpAny (model prog w) (ktrTop dp un gd cn cs L ad ccd cl outer) (call (.ref f) vs) Q E s := by
  refine ctrF_use C hb B F X (fun q hq => N q (ht q hq)) T hk hd hu trivial ?_
  rintro v led' h' tk' F' N' hh ⟨hv, hT', hfr⟩
  refine h v led' h' tk' hv hT' hfr F' ?_
  intro q hq
  rcases List.mem_append.mp hq with hq | hq
  · exact ⟨hh _ _ ((hoff q hq).ne hT N (hkp q hq) ht) (N q (hkp q hq)).1, (N q (hkp q hq)).2⟩
  · exact N' q hq
theorem Fresh.off2 {h' : Heap} {L : Addr} {h₀ : Heap} {e : Addr × Obj} {tl tl' own : List (Addr × Obj)} (hold : Fresh h' tl tl') (hown : ∀ q ∈ e :: tl, ∀ p ∈ own, q.1 ≠ p.1) (N : News h₀ L h' (e :: (tl ++ own))) : ∀ q ∈ e :: tl', ∀ p ∈ own, q.1 ≠ p.1 := by
  refine List.forall_mem_cons.mpr ⟨hown e (.head _), fun q hq p hp => ?_⟩
  rcases hold q hq with h | h
  · obtain ⟨q', hq', e⟩ := List.mem_map.mp h
    rw [← e]
    exact hown q' (.tail _ hq') p hp
  · have h2 := Heap.lt_size (N p (.tail _ (List.mem_append_right _ hp))).1
    exact fun e => absurd h2 (Nat.not_lt.mpr (e ▸ h))
theorem some_int {a b : Int} (h : a = b) (t : Tok) : some (Value.int a t) = some (Value.int b t) := by rw [h]
theorem stp2_all {P n : Nat} (hP : P = 2 ∨ P = 3 ∨ P = 5 ∨ P = 7) (h : n < 99) : stp2 P n = true := by
  rcases hP with rfl | rfl | rfl | rfl
  · exact stp2_2 n h
  · exact stp2_3 n h
  · exact stp2_5 n h
  · exact stp2_7 n h
theorem fst2_all {P n : Nat} (hP : P = 2 ∨ P = 3 ∨ P = 5 ∨ P = 7) (h : n < 90) : fst2 P n = true := by
  rcases hP with rfl | rfl | rfl | rfl
  · exact fst2_2 n h
  · exact fst2_3 n h
  · exact fst2_5 n h
  · exact fst2_7 n h
theorem fin2_all {P c s : Nat} (hP : P = 2 ∨ P = 3 ∨ P = 5 ∨ P = 7) (h : c < 10) (hs : s < 90) : fin2 P s (c + 1) = true := by
  rcases hP with rfl | rfl | rfl | rfl
  · exact fin2_2 c h s hs
  · exact fin2_3 c h s hs
  · exact fin2_5 c h s hs
  · exact fin2_7 c h s hs
structure Stp2 (P n : Nat) : Prop where
  ok : PsOk (prs P) (wr P n ++ [97])
  nxt : reps (prs P) (wr P n ++ [97]) = wr P (n + 1)
  tms : tms P 7 (n + 1) < 7
  l1 : lev (wr P n) (wr P (n + 1)) (due2 P (n + 1)) = due2 P (n + 1)
  l2 : lev (wr P (n + 1)) (wr P n) (due2 P (n + 1) - 1) = due2 P (n + 1)
  l0 : lev (wr P n) (wr P (n + 1)) 0 = if 0 < Mine.tms P 7 (n + 1) then 1 else 2
  l4 : lev (wr P (n + 1) ++ [101]) (101 :: wr P (n + 1)) 4 = 4
  lo : ∀ c ∈ wr P n, c < 128
  lo' : ∀ c ∈ wr P (n + 1), c < 128
  len : (wr P n).length ≤ 100
  len' : (wr P (n + 1)).length ≤ 100
theorem stp2_is {P n : Nat} (hP : P = 2 ∨ P = 3 ∨ P = 5 ∨ P = 7) (h : n < 99) : Stp2 P n := by
  have x := stp2_all hP h
  simp only [stp2, Bool.and_eq_true, decide_eq_true_eq, List.all_eq_true] at x
  obtain ⟨⟨⟨⟨⟨⟨⟨⟨⟨⟨h1, h2⟩, h3⟩, h4⟩, h5⟩, h6⟩, h7⟩, h8⟩, h9⟩, h10⟩, h11⟩ := x
  exact ⟨psOk_of h1, h2, h3, h4, h5, h6, h7, h8, h9, h10, h11⟩
theorem fst2_is {P n : Nat} (hP : P = 2 ∨ P = 3 ∨ P = 5 ∨ P = 7) (h : n < 90) : PsOk (prs P) (List.replicate n 97) ∧ reps (prs P) (List.replicate n 97) = wr P n := by
  have x := fst2_all hP h
  simp only [fst2, Bool.and_eq_true, decide_eq_true_eq] at x
  exact ⟨psOk_of x.1, x.2⟩
theorem prd_le (s : Nat) : ∀ k, s + k ≤ 100 → prd s k ≤ 100 ^ k ∧ (1 ≤ k ∨ True)
  | 0, _ => ⟨Nat.le_refl _, .inr trivial⟩
  | k + 1, h => ⟨Nat.mul_le_mul (prd_le s k (by omega)).1 (by omega), .inr trivial⟩
theorem log_ok {n : Nat} (h : n < 9000) : ((n : Int)).natAbs.log2 < 9000 := Nat.lt_of_le_of_lt (Nat.log2_le_self _) (by omega)
theorem big_no {P W : Nat} (hP : P = 2 ∨ P = 3 ∨ P = 5 ∨ P = 7) (hW : W ≤ 20) : ¬Builtin.Int.intTooBig (((Builtin.Int.intBits (P : Int) : Nat) : Int) * (W : Int)) = true := by
  have h3 : Builtin.Int.intBits (P : Int) ≤ 3 := by rcases hP with rfl | rfl | rfl | rfl <;> decide +kernel
  have h4 : ((Builtin.Int.intBits (P : Int) : Nat) : Int) * (W : Int) ≤ 60 := by
    have := Nat.mul_le_mul h3 hW
    rw [← Int.natCast_mul]; omega
  generalize ((Builtin.Int.intBits (P : Int) : Nat) : Int) * (W : Int) = z at h4
  unfold Builtin.Int.intTooBig
  simp only [decide_eq_true_eq]
  have h5 : (60 : Int) ≤ bitsLine := by decide +kernel
  omega
theorem pow_PW {prog : Program} {w : World} {A : Around} {E : Value → Shared → Prop} {s : Shared} {Q : Value → Shared → Prop} {P W : Nat} {t u : Tok} (hP : P = 2 ∨ P = 3 ∨ P = 5 ∨ P = 7) (hW : W ≤ 20)
    (h : ∀ t' k, Q (.int ((P ^ W : Nat) : Int) t') { s with toks := k }) : wpAny (model prog w) A (binaryOp .Pow (.int (P : Int) t) (.int (W : Int) u)) Q E s := by
  by_cases h0 : W = 0
  · subst h0
    exact PySem.AutoIntOps.pow_0 (by omega) (by rfl) (h _ _)
  · refine PySem.AutoIntOps.pow_4 (by omega) (by simp; omega) (by simp; omega) (by simp) (big_no hP hW) ?_
    rw [Int.toNat_natCast, ← Int.natCast_pow]
    exact h _ _
theorem prd_up (s i : Nat) : (prd s i : Int) * ((s : Int) + ((i + 1 : Nat) : Int)) = (prd s (i + 1) : Int) := by
  show _ = ((prd s i * (s + (i + 1)) : Nat) : Int)
  rw [Int.natCast_mul, Int.natCast_add s (i + 1)]
theorem prd_lo (i : Nat) : (prd 0 i : Int) * ((i + 1 : Nat) : Int) = (prd 0 (i + 1) : Int) := by
  show _ = ((prd 0 i * (0 + (i + 1)) : Nat) : Int)
  rw [Nat.zero_add, Int.natCast_mul]
theorem prd_pos (s : Nat) : ∀ k, 1 ≤ prd s k
  | 0 => Nat.le_refl _
  | k + 1 => Nat.mul_pos (prd_pos s k) (by omega)
theorem prd_big {s k : Nat} (h : s + k ≤ 100) (hk : k ≤ 10) : prd s k ≤ 100 ^ 10 :=
  Nat.le_trans (prd_le s k h).1 (Nat.pow_le_pow_right (by decide) hk)
structure Fin2 (P s c : Nat) : Prop where
  le : (wr P (s + c)).length ≤ (wr P s).length + (wr P c).length
  r0 : mor P s c % (P - 1) = 0
  pw : mor P s c / (P - 1) ≤ 20
  dv : prd s c % prd 0 c = 0
  d1 : prd s c / prd 0 c % P ^ (mor P s c / (P - 1)) = 0
  d2 : prd s c / prd 0 c % (P ^ (mor P s c / (P - 1)) * P) ≠ 0
theorem fin2_is {P c s : Nat} (hP : P = 2 ∨ P = 3 ∨ P = 5 ∨ P = 7) (h : c < 10) (hs : s < 90) : Fin2 P s (c + 1) := by
  have x := fin2_all hP h hs
  simp only [fin2, Bool.and_eq_true, decide_eq_true_eq] at x
  obtain ⟨⟨⟨⟨⟨h1, h2⟩, h3⟩, h4⟩, h5⟩, h6⟩ := x
  exact ⟨h1, h2, h3, h4, h5, h6⟩
theorem tx12 {vs : List Value} {P : Nat} (h : TxAre vs (prs P)) : ∃ s : Nat → Tok, vs = [.str (tx (List.replicate P 97)) (s 1), .str (tx [65]) (s 2), .str (tx (List.replicate P 65)) (s 3), .str (tx [98]) (s 4), .str (tx (List.replicate P 98)) (s 5), .str (tx [66]) (s 6), .str (tx (List.replicate P 66)) (s 7), .str (tx [99]) (s 8), .str (tx (List.replicate P 99)) (s 9), .str (tx [67]) (s 10), .str (tx (List.replicate P 67)) (s 11), .str (tx [100]) (s 12)] := by
  obtain ⟨s1, s2, v1, e1, h1⟩ := pair_of h
  obtain ⟨s3, s4, v2, e2, h2⟩ := pair_of h1
  obtain ⟨s5, s6, v3, e3, h3⟩ := pair_of h2
  obtain ⟨s7, s8, v4, e4, h4⟩ := pair_of h3
  obtain ⟨s9, s10, v5, e5, h5⟩ := pair_of h4
  obtain ⟨s11, s12, v6, e6, h6⟩ := pair_of h5
  have e7 := none_of h6
  exact ⟨fun i => [s1, s2, s3, s4, s5, s6, s7, s8, s9, s10, s11, s12].getD (i - 1) s1, e1.trans (congrArg _ (congrArg _ (e2.trans (congrArg _ (congrArg _ (e3.trans (congrArg _ (congrArg _ (e4.trans (congrArg _ (congrArg _ (e5.trans (congrArg _ (congrArg _ (e6.trans (congrArg _ (congrArg _ e7)))))))))))))))))⟩
end Mine
end L2k_part

section L2_part
open PySem PySem.W PyProof.Rows PySem.Calls
namespace Mine
set_option Elab.async false
set_option maxRecDepth 100000
set_option maxHeartbeats 8000000
theorem pick4 {k : Nat} (h : k < 4) (t0 t1 t2 t3 : Tok) : ∃ (P : Nat) (t : Tok), (P = 2 ∨ P = 3 ∨ P = 5 ∨ P = 7) ∧ [Value.int 3 t0, Value.int 2 t1, Value.int 5 t2, Value.int 7 t3][k]? = some (.int (P : Int) t) := by
  match k, h with
  | 0, _ => exact ⟨3, t0, by omega, rfl⟩
  | 1, _ => exact ⟨2, t1, by omega, rfl⟩
  | 2, _ => exact ⟨5, t2, by omega, rfl⟩
  | 3, _ => exact ⟨7, t3, by omega, rfl⟩
theorem prs_get {P i : Nat} (h : i < 6) : ∃ c d, sgn7[i]? = some c ∧ sgn7[i + 1]? = some d ∧ (prs P).take (i + 1) = (prs P).take i ++ [(List.replicate P c, [d])] := by
  match i, h with
  | 0, _ => exact ⟨_, _, rfl, rfl, rfl⟩
  | 1, _ => exact ⟨_, _, rfl, rfl, rfl⟩
  | 2, _ => exact ⟨_, _, rfl, rfl, rfl⟩
  | 3, _ => exact ⟨_, _, rfl, rfl, rfl⟩
  | 4, _ => exact ⟨_, _, rfl, rfl, rfl⟩
  | 5, _ => exact ⟨_, _, rfl, rfl, rfl⟩
theorem TxAre.snoc {vs : List Value} {ls : List (List Nat × List Nat)} (h : TxAre vs ls) (o n : List Nat) (t u : Tok) : TxAre (vs ++ [.str (tx o) t, .str (tx n) u]) (ls ++ [(o, n)]) := by
  induction h with
  | nil => exact .cons _ _ _ _ .nil
  | cons a b c d _ ih => exact .cons _ _ _ _ ih
theorem add_txs {prog : Program} {w : World} {A : Around} {E : Value → Shared → Prop} {s : Shared} {h₀ : Heap} {L : Addr} {m : Str → Option Value} {news : List (Addr × Obj)} {Q : Value → Shared → Prop}
    {l b : Addr} {vs : List Value} {ls : List (List Nat × List Nat)} {o n : List Nat} {t u : Tok} {c c2 : Nat} (F : Fr h₀ L s.heap m) (N : News h₀ L s.heap news)
    (hl : (l, listOf vs.toArray c) ∈ news) (hb : (b, listOf #[.str (tx o) t, .str (tx n) u] c2) ∈ news) (htx : TxAre vs ls) (hlen : vs.length ≤ 1000)
    (h : ∀ h' vs', TxAre vs' (ls ++ [(o, n)]) → vs'.length = vs.length + 2 → (∀ q ∈ news, q.1 < s.heap.objs.size) → Fr h₀ L h' m → News h₀ L h' ((s.heap.objs.size, listOf vs'.toArray 0) :: news) → Q (.ref s.heap.objs.size) { s with heap := h' }) :
    wpAny (model prog w) A (binaryOp .Add (.ref l) (.ref b)) Q E s :=
  add_lists (ws := [.str (tx o) t, .str (tx n) u]) F N (News.isList N hl) (News.isList N hb)
    (fun h' F' N' => h h' _ (htx.snoc _ _ _ _) (by simp) (fun q hq => Heap.lt_size (N q hq).1) F' N') (by rw [sizeLine_eq]; simp only [List.length_cons, List.length_nil]; omega)
/-- the steps' state: the writing come to, both products -/
def J2 (P s c : Nat) (e : Addr × Obj) (i : Nat) (m' : Str → Option Value) (n' : List (Addr × Obj)) : Prop :=
  ∃ (tl : List (Addr × Obj)) (t1 t2 t3 t5 t6 t7 t8 : Tok), m' (Str.ofString "prime") = some (.int (P : Int) t1) ∧ m' (Str.ofString "start") = some (.int (s : Int) t2) ∧ m' (Str.ofString "count") = some (.int (c : Int) t3) ∧ m' (Str.ofString "pairs") = some (.ref e.1)
    ∧ m' (Str.ofString "text") = some (.str (tx (wr P (s + i))) t5) ∧ m' (Str.ofString "first") = some (.str (tx (wr P s)) t6) ∧ m' (Str.ofString "upper") = some (.int (prd s i : Int) t7) ∧ m' (Str.ofString "lower") = some (.int (prd 0 i : Int) t8) ∧ n' = e :: tl ∧ Tabs tl
theorem row02 : PySem.Challenge.rw_pk0092_02.Holds := by
  apply hd
  k_go0
  rename Fr _ _ _ _ => F0
  refine wp_retF F0 (fun v n => v = .bool true ∧ ∃ tl, Tabs tl ∧ ∀ q ∈ tl, q ∈ n) ?q1 ?_
  case q1 =>
    rintro v n h' tk m' F9 N9 ⟨rfl, tl, ⟨ps1, ps2, ex, rfl, _, _, _⟩, hs⟩
    exact ⟨goodW_bool F9 (by assumption) (raisesW_false (by wrow_none_raised)) (postW_of rfl (by with_unfolding_all rfl) rfl), ⟨ps2, (N9 _ (hs _ (.tail _ (.head _)))).1⟩, ⟨ps1, (N9 _ (hs _ (.head _))).1⟩, trivial⟩
  intro P' hfin
  (repeat' ((fail_if_success first | (with_reducible show wpAny _ _ (exec (Stmt.While _ _ _ _) _) _ _ _) | (with_reducible show wpAny _ _ (exec (Stmt.For _ _ _ _ _) _) _ _ _) | (with_reducible show wpAny _ _ (pyIter _) _ _ _) | (with_reducible show wpAny _ _ (call (Value.ref _) _) _ _ _) | (with_reducible show InvEndN _ _ _ _ _ _ _) | (with_reducible show Mid _ _ _ _ _ _) | (with_reducible show WhileStep _ _ _ _ _ _ _) | (with_reducible show wpAny _ _ (eval (Expr.ListComp _ _ _ _) _) _ _ _) | (with_reducible show wpAny _ _ (call (Value.builtin "sorted") _) _ _ _) | (with_reducible show wpAny _ _ (subscriptTail (Expr.Name "turns" _) _ (Value.ref _) (Value.int _ _)) _ _ _) | (with_reducible show wpAny _ _ (call (Value.builtin "str.count") _) _ _ _) | (with_reducible show wpAny _ _ (binaryOp .Add (Value.str _ _) (Value.str _ _)) _ _ _) | (with_reducible show wpAny _ _ (binaryOp .Mult (Value.str _ _) (Value.int _ _)) _ _ _) | (with_reducible show wpAny _ _ (subscriptTail _ _ (Value.str _ _) (Value.int _ _)) _ _ _) | (with_reducible show Turn _ _ _ _ _ _ _ _) | (with_reducible show wpAny _ _ (subscriptTail (Expr.List _ _) _ _ _) _ _ _) | (with_reducible show LCg.CompSrc _ _ _ _ _ _ _ _ _ _ _ _ _ _) | (with_reducible show LCg.CompEnd _ _ _ _ _ _ _ _ _ _ _ _ _ _)); ((first | (k_unfold; (try dsimp only)) | (k_end; wrow_close) | walk1 | (dsimp only; walk1) | (leave1; try dsimp only) | fail "no step"))))
  rename IntsAre _ (List.take 3 _ ++ [0, 0, 0]) => hrow
  rename Fr _ _ _ _ => F1
  rename News _ _ _ _ => N1
  obtain ⟨us, row, e1, e2, hrl, hrow⟩ := name_row hrow
  simp only [e2] at F1 ⊢
  simp only [e1] at N1 ⊢
  clear e1 e2
  obtain ⟨k0, hk0, hk0'⟩ := posmod (x := row.getD (Int.toNat 0) 0) (m := 4) (by decide)
  obtain ⟨k1, hk1, hk1'⟩ := posmod (x := row.getD (Int.toNat 1) 0 + 20) (m := 90) (by decide)
  obtain ⟨k2, hk2, hk2'⟩ := posmod (x := row.getD (Int.toNat 2) 0 + 7) (m := 10) (by decide)
  rw [hk0]
  clear hk0
  obtain ⟨P, tP, hP, hx⟩ := pick4 (k := k0) (by omega) _ _ _ _
  k_dflt (refine item_listR (News.isList N1 (.head _)) (by omega) (by omega) (x := .int (P:Int) tP) (by rw [Int.toNat_natCast, List.getElem?_toArray]; exact hx) ?_)
  clear hx hk0'
  (repeat' ((fail_if_success first | (with_reducible show wpAny _ _ (call (Value.builtin "len") _) _ _ _) | (with_reducible show wpAny _ _ (binaryOp .Pow _ _) _ _ _) | (with_reducible show wpAny _ _ (binaryOp .FloorDiv _ _) _ _ _) | (with_reducible show wpAny _ _ (exec (Stmt.Assign [Expr.Name "due" _] _ _) _) _ _ _) | (with_reducible show wpAny _ _ (binaryOp .Add (Value.ref _) (Value.ref _)) _ _ _) | (with_reducible show wpAny _ _ (exec (Stmt.While _ _ _ _) _) _ _ _) | (with_reducible show wpAny _ _ (exec (Stmt.For _ _ _ _ _) _) _ _ _) | (with_reducible show wpAny _ _ (pyIter _) _ _ _) | (with_reducible show wpAny _ _ (call (Value.ref _) _) _ _ _) | (with_reducible show InvEndN _ _ _ _ _ _ _) | (with_reducible show Mid _ _ _ _ _ _) | (with_reducible show WhileStep _ _ _ _ _ _ _) | (with_reducible show wpAny _ _ (eval (Expr.ListComp _ _ _ _) _) _ _ _) | (with_reducible show wpAny _ _ (call (Value.builtin "sorted") _) _ _ _) | (with_reducible show wpAny _ _ (subscriptTail (Expr.Name "turns" _) _ (Value.ref _) (Value.int _ _)) _ _ _) | (with_reducible show wpAny _ _ (call (Value.builtin "str.count") _) _ _ _) | (with_reducible show wpAny _ _ (binaryOp .Add (Value.str _ _) (Value.str _ _)) _ _ _) | (with_reducible show wpAny _ _ (binaryOp .Mult (Value.str _ _) (Value.int _ _)) _ _ _) | (with_reducible show wpAny _ _ (subscriptTail _ _ (Value.str _ _) (Value.int _ _)) _ _ _) | (with_reducible show Turn _ _ _ _ _ _ _ _) | (with_reducible show wpAny _ _ (subscriptTail (Expr.List _ _) _ _ _) _ _ _) | (with_reducible show LCg.CompSrc _ _ _ _ _ _ _ _ _ _ _ _ _ _) | (with_reducible show LCg.CompEnd _ _ _ _ _ _ _ _ _ _ _ _ _ _)); ((first | (k_unfold; (try dsimp only)) | (k_end; wrow_close) | walk1 | (dsimp only; walk1) | (leave1; try dsimp only) | fail "no step")); (try dsimp only)))
  rename Fr _ _ _ _ => F1
  rename News _ _ _ _ => N1
  rw [hk1, hk2] at F1
  obtain ⟨st, hst⟩ : ∃ x : Nat, x = k1 := ⟨_, rfl⟩
  rename Below _ _ _ _ => B1
  rename Top _ _ _ _ _ _ => T1
  rename Frag.In _ _ => X1
  rename Shared => s1
  have hTb0 : Tabs [(44, tabObj #[]), (51, tabObj #[])] := ⟨#[], #[], [], rfl, .inl rfl, .inl rfl, fun _ h => nomatch h⟩
  replace N1 : News _ _ _ ((_, W.listOf #[] 0) :: [(44, tabObj #[]), (51, tabObj #[])]) := List.forall_mem_cons.mpr ⟨N1 _ (.head _), List.forall_mem_cons.mpr ⟨N1 _ (.tail _ (.tail _ (.tail _ (.tail _ (.tail _ (.tail _ (.tail _ (.head _)))))))), List.forall_mem_cons.mpr ⟨N1 _ (.tail _ (.tail _ (.tail _ (.tail _ (.tail _ (.tail _ (.head _))))))), List.forall_mem_nil _⟩⟩⟩
  clear hk1 hk2
  rename (List.take 3 _).length = min 3 _ => hq1
  rename (List.take 3 _).length ≤ _ => hq2
  rename ¬ _ < _ => hq3
  clear hq1 hq2 hq3 hrl
  refine wp_mid F1 (fun m' n' => ∃ (D : Addr) (vs : List Value) (c : Nat) (t1 t2 t3 : Tok), m' (Str.ofString "prime") = some (.int (P : Int) t1) ∧ m' (Str.ofString "start") = some (.int (k1 : Int) t2) ∧ m' (Str.ofString "count") = some (.int (1 + (k2 : Int)) t3) ∧ m' (Str.ofString "pairs") = some (.ref D)
    ∧ n' = (D, listOf vs.toArray c) :: [(44, tabObj #[]), (51, tabObj #[])] ∧ TxAre vs (prs P)) ?w1 ?_
  case w1 =>
    with_unfolding_all refine' For_invVF F1 ?k1 ?k2 ?_
    case k1 => exact rfl
    case k2 => exact rfl
    (repeat' ((fail_if_success first | (with_reducible show wpAny _ _ (call (Value.builtin "len") _) _ _ _) | (with_reducible show wpAny _ _ (binaryOp .Pow _ _) _ _ _) | (with_reducible show wpAny _ _ (binaryOp .FloorDiv _ _) _ _ _) | (with_reducible show wpAny _ _ (exec (Stmt.Assign [Expr.Name "due" _] _ _) _) _ _ _) | (with_reducible show wpAny _ _ (binaryOp .Add (Value.ref _) (Value.ref _)) _ _ _) | (with_reducible show wpAny _ _ (exec (Stmt.While _ _ _ _) _) _ _ _) | (with_reducible show wpAny _ _ (exec (Stmt.For _ _ _ _ _) _) _ _ _) | (with_reducible show wpAny _ _ (pyIter _) _ _ _) | (with_reducible show wpAny _ _ (call (Value.ref _) _) _ _ _) | (with_reducible show InvEndN _ _ _ _ _ _ _) | (with_reducible show Mid _ _ _ _ _ _) | (with_reducible show WhileStep _ _ _ _ _ _ _) | (with_reducible show wpAny _ _ (eval (Expr.ListComp _ _ _ _) _) _ _ _) | (with_reducible show wpAny _ _ (call (Value.builtin "sorted") _) _ _ _) | (with_reducible show wpAny _ _ (subscriptTail (Expr.Name "turns" _) _ (Value.ref _) (Value.int _ _)) _ _ _) | (with_reducible show wpAny _ _ (call (Value.builtin "str.count") _) _ _ _) | (with_reducible show wpAny _ _ (binaryOp .Add (Value.str _ _) (Value.str _ _)) _ _ _) | (with_reducible show wpAny _ _ (binaryOp .Mult (Value.str _ _) (Value.int _ _)) _ _ _) | (with_reducible show wpAny _ _ (subscriptTail _ _ (Value.str _ _) (Value.int _ _)) _ _ _) | (with_reducible show Turn _ _ _ _ _ _ _ _) | (with_reducible show wpAny _ _ (subscriptTail (Expr.List _ _) _ _ _) _ _ _) | (with_reducible show LCg.CompSrc _ _ _ _ _ _ _ _ _ _ _ _ _ _) | (with_reducible show LCg.CompEnd _ _ _ _ _ _ _ _ _ _ _ _ _ _)); ((first | (k_unfold; (try dsimp only)) | (k_end; wrow_close) | walk1 | (dsimp only; walk1) | (leave1; try dsimp only) | fail "no step")); (try dsimp only)))
    rename Fr _ _ _ _ => F8
    rename News _ _ _ _ => N8
    refine for_range (n := 6) (fun i m' n' => ∃ (D : Addr) (vs : List Value) (c : Nat) (t1 t2 t3 : Tok), m' (Str.ofString "prime") = some (.int (P : Int) t1) ∧ m' (Str.ofString "start") = some (.int (k1 : Int) t2) ∧ m' (Str.ofString "count") = some (.int (1 + (k2 : Int)) t3) ∧ m' (Str.ofString "pairs") = some (.ref D)
      ∧ n' = (D, listOf vs.toArray c) :: [(44, tabObj #[]), (51, tabObj #[])] ∧ TxAre vs ((prs P).take i) ∧ vs.length = 2 * i) rfl (by assumption) (by decide) (by decide) F8 N8 ⟨_, [], _, _, _, _, rfl, rfl, rfl, rfl, rfl, .nil, rfl⟩ ?_ ?_
    · clear F8 N8
      rintro i t m5 n5 h5 tk5 own hi ⟨D, vs, c, t1', t2', t3', e1, e2, e3, e4, hn, htx, hvl⟩ hown F5 N5
      rw [hn] at N5 hown
      clear hn
      have F6 := fr_canon [(Str.ofString "k", .int (i : Int) t), (Str.ofString "prime", .int (P : Int) t1'), (Str.ofString "start", .int (k1 : Int) t2'), (Str.ofString "count", .int (1 + (k2 : Int)) t3'), (Str.ofString "pairs", .ref D)] F5 (List.forall_mem_cons.mpr ⟨(if_pos rfl).trans (by rw [Int.zero_add]), List.forall_mem_cons.mpr ⟨(if_neg (show ¬ Str.ofString _ = Str.ofString _ by decide)).trans e1, List.forall_mem_cons.mpr ⟨(if_neg (show ¬ Str.ofString _ = Str.ofString _ by decide)).trans e2, List.forall_mem_cons.mpr ⟨(if_neg (show ¬ Str.ofString _ = Str.ofString _ by decide)).trans e3, List.forall_mem_cons.mpr ⟨(if_neg (show ¬ Str.ofString _ = Str.ofString _ by decide)).trans e4, List.forall_mem_nil _⟩⟩⟩⟩⟩)
      clear F5 e1 e2 e3 e4
      simp only [kstB, List.cons_append] at F6 N5
      obtain ⟨sc, sd, hsc, hsd, hpr⟩ := prs_get (P := P) hi
      dsimp only
      (repeat' ((fail_if_success first | (with_reducible show wpAny _ _ (call (Value.builtin "len") _) _ _ _) | (with_reducible show wpAny _ _ (binaryOp .Pow _ _) _ _ _) | (with_reducible show wpAny _ _ (binaryOp .FloorDiv _ _) _ _ _) | (with_reducible show wpAny _ _ (exec (Stmt.Assign [Expr.Name "due" _] _ _) _) _ _ _) | (with_reducible show wpAny _ _ (binaryOp .Add (Value.ref _) (Value.ref _)) _ _ _) | (with_reducible show wpAny _ _ (exec (Stmt.While _ _ _ _) _) _ _ _) | (with_reducible show wpAny _ _ (exec (Stmt.For _ _ _ _ _) _) _ _ _) | (with_reducible show wpAny _ _ (pyIter _) _ _ _) | (with_reducible show wpAny _ _ (call (Value.ref _) _) _ _ _) | (with_reducible show InvEndN _ _ _ _ _ _ _) | (with_reducible show Mid _ _ _ _ _ _) | (with_reducible show WhileStep _ _ _ _ _ _ _) | (with_reducible show wpAny _ _ (eval (Expr.ListComp _ _ _ _) _) _ _ _) | (with_reducible show wpAny _ _ (call (Value.builtin "sorted") _) _ _ _) | (with_reducible show wpAny _ _ (subscriptTail (Expr.Name "turns" _) _ (Value.ref _) (Value.int _ _)) _ _ _) | (with_reducible show wpAny _ _ (call (Value.builtin "str.count") _) _ _ _) | (with_reducible show wpAny _ _ (binaryOp .Add (Value.str _ _) (Value.str _ _)) _ _ _) | (with_reducible show wpAny _ _ (binaryOp .Mult (Value.str _ _) (Value.int _ _)) _ _ _) | (with_reducible show wpAny _ _ (subscriptTail _ _ (Value.str _ _) (Value.int _ _)) _ _ _) | (with_reducible show Turn _ _ _ _ _ _ _ _) | (with_reducible show wpAny _ _ (subscriptTail (Expr.List _ _) _ _ _) _ _ _) | (with_reducible show LCg.CompSrc _ _ _ _ _ _ _ _ _ _ _ _ _ _) | (with_reducible show LCg.CompEnd _ _ _ _ _ _ _ _ _ _ _ _ _ _)); ((first | (k_unfold; (try dsimp only)) | (k_end; wrow_close) | walk1 | (dsimp only; walk1) | (leave1; try dsimp only) | fail "no step")); (try dsimp only)))
      k_dflt (refine item_tx (x := sgn7) (c := sc) (by omega) (by omega) (by rw [Int.toNat_natCast]; exact hsc) ?_)
      (repeat' ((fail_if_success first | (with_reducible show wpAny _ _ (call (Value.builtin "len") _) _ _ _) | (with_reducible show wpAny _ _ (binaryOp .Pow _ _) _ _ _) | (with_reducible show wpAny _ _ (binaryOp .FloorDiv _ _) _ _ _) | (with_reducible show wpAny _ _ (exec (Stmt.Assign [Expr.Name "due" _] _ _) _) _ _ _) | (with_reducible show wpAny _ _ (binaryOp .Add (Value.ref _) (Value.ref _)) _ _ _) | (with_reducible show wpAny _ _ (exec (Stmt.While _ _ _ _) _) _ _ _) | (with_reducible show wpAny _ _ (exec (Stmt.For _ _ _ _ _) _) _ _ _) | (with_reducible show wpAny _ _ (pyIter _) _ _ _) | (with_reducible show wpAny _ _ (call (Value.ref _) _) _ _ _) | (with_reducible show InvEndN _ _ _ _ _ _ _) | (with_reducible show Mid _ _ _ _ _ _) | (with_reducible show WhileStep _ _ _ _ _ _ _) | (with_reducible show wpAny _ _ (eval (Expr.ListComp _ _ _ _) _) _ _ _) | (with_reducible show wpAny _ _ (call (Value.builtin "sorted") _) _ _ _) | (with_reducible show wpAny _ _ (subscriptTail (Expr.Name "turns" _) _ (Value.ref _) (Value.int _ _)) _ _ _) | (with_reducible show wpAny _ _ (call (Value.builtin "str.count") _) _ _ _) | (with_reducible show wpAny _ _ (binaryOp .Add (Value.str _ _) (Value.str _ _)) _ _ _) | (with_reducible show wpAny _ _ (binaryOp .Mult (Value.str _ _) (Value.int _ _)) _ _ _) | (with_reducible show wpAny _ _ (subscriptTail _ _ (Value.str _ _) (Value.int _ _)) _ _ _) | (with_reducible show Turn _ _ _ _ _ _ _ _) | (with_reducible show wpAny _ _ (subscriptTail (Expr.List _ _) _ _ _) _ _ _) | (with_reducible show LCg.CompSrc _ _ _ _ _ _ _ _ _ _ _ _ _ _) | (with_reducible show LCg.CompEnd _ _ _ _ _ _ _ _ _ _ _ _ _ _)); ((first | (k_unfold; (try dsimp only)) | (k_end; wrow_close) | walk1 | (dsimp only; walk1) | (leave1; try dsimp only) | fail "no step")); (try dsimp only)))
      k_dflt (refine mul_tx (x := [sc]) (by simp) (by omega) ?_)
      intro t7 k7
      rw [rep1]
      (repeat' ((fail_if_success first | (with_reducible show wpAny _ _ (call (Value.builtin "len") _) _ _ _) | (with_reducible show wpAny _ _ (binaryOp .Pow _ _) _ _ _) | (with_reducible show wpAny _ _ (binaryOp .FloorDiv _ _) _ _ _) | (with_reducible show wpAny _ _ (exec (Stmt.Assign [Expr.Name "due" _] _ _) _) _ _ _) | (with_reducible show wpAny _ _ (binaryOp .Add (Value.ref _) (Value.ref _)) _ _ _) | (with_reducible show wpAny _ _ (exec (Stmt.While _ _ _ _) _) _ _ _) | (with_reducible show wpAny _ _ (exec (Stmt.For _ _ _ _ _) _) _ _ _) | (with_reducible show wpAny _ _ (pyIter _) _ _ _) | (with_reducible show wpAny _ _ (call (Value.ref _) _) _ _ _) | (with_reducible show InvEndN _ _ _ _ _ _ _) | (with_reducible show Mid _ _ _ _ _ _) | (with_reducible show WhileStep _ _ _ _ _ _ _) | (with_reducible show wpAny _ _ (eval (Expr.ListComp _ _ _ _) _) _ _ _) | (with_reducible show wpAny _ _ (call (Value.builtin "sorted") _) _ _ _) | (with_reducible show wpAny _ _ (subscriptTail (Expr.Name "turns" _) _ (Value.ref _) (Value.int _ _)) _ _ _) | (with_reducible show wpAny _ _ (call (Value.builtin "str.count") _) _ _ _) | (with_reducible show wpAny _ _ (binaryOp .Add (Value.str _ _) (Value.str _ _)) _ _ _) | (with_reducible show wpAny _ _ (binaryOp .Mult (Value.str _ _) (Value.int _ _)) _ _ _) | (with_reducible show wpAny _ _ (subscriptTail _ _ (Value.str _ _) (Value.int _ _)) _ _ _) | (with_reducible show Turn _ _ _ _ _ _ _ _) | (with_reducible show wpAny _ _ (subscriptTail (Expr.List _ _) _ _ _) _ _ _) | (with_reducible show LCg.CompSrc _ _ _ _ _ _ _ _ _ _ _ _ _ _) | (with_reducible show LCg.CompEnd _ _ _ _ _ _ _ _ _ _ _ _ _ _)); ((first | (k_unfold; (try dsimp only)) | (k_end; wrow_close) | walk1 | (dsimp only; walk1) | (leave1; try dsimp only) | fail "no step")); (try dsimp only)))
      k_dflt (refine item_tx (x := sgn7) (c := sd) (by omega) (by omega) (by rw [show ((i : Int) + 1).toNat = i + 1 by omega]; exact hsd) ?_)
      (repeat' ((fail_if_success first | (with_reducible show wpAny _ _ (call (Value.builtin "len") _) _ _ _) | (with_reducible show wpAny _ _ (binaryOp .Pow _ _) _ _ _) | (with_reducible show wpAny _ _ (binaryOp .FloorDiv _ _) _ _ _) | (with_reducible show wpAny _ _ (exec (Stmt.Assign [Expr.Name "due" _] _ _) _) _ _ _) | (with_reducible show wpAny _ _ (binaryOp .Add (Value.ref _) (Value.ref _)) _ _ _) | (with_reducible show wpAny _ _ (exec (Stmt.While _ _ _ _) _) _ _ _) | (with_reducible show wpAny _ _ (exec (Stmt.For _ _ _ _ _) _) _ _ _) | (with_reducible show wpAny _ _ (pyIter _) _ _ _) | (with_reducible show wpAny _ _ (call (Value.ref _) _) _ _ _) | (with_reducible show InvEndN _ _ _ _ _ _ _) | (with_reducible show Mid _ _ _ _ _ _) | (with_reducible show WhileStep _ _ _ _ _ _ _) | (with_reducible show wpAny _ _ (eval (Expr.ListComp _ _ _ _) _) _ _ _) | (with_reducible show wpAny _ _ (call (Value.builtin "sorted") _) _ _ _) | (with_reducible show wpAny _ _ (subscriptTail (Expr.Name "turns" _) _ (Value.ref _) (Value.int _ _)) _ _ _) | (with_reducible show wpAny _ _ (call (Value.builtin "str.count") _) _ _ _) | (with_reducible show wpAny _ _ (binaryOp .Add (Value.str _ _) (Value.str _ _)) _ _ _) | (with_reducible show wpAny _ _ (binaryOp .Mult (Value.str _ _) (Value.int _ _)) _ _ _) | (with_reducible show wpAny _ _ (subscriptTail _ _ (Value.str _ _) (Value.int _ _)) _ _ _) | (with_reducible show Turn _ _ _ _ _ _ _ _) | (with_reducible show wpAny _ _ (subscriptTail (Expr.List _ _) _ _ _) _ _ _) | (with_reducible show LCg.CompSrc _ _ _ _ _ _ _ _ _ _ _ _ _ _) | (with_reducible show LCg.CompEnd _ _ _ _ _ _ _ _ _ _ _ _ _ _)); ((first | (k_unfold; (try dsimp only)) | (k_end; wrow_close) | walk1 | (dsimp only; walk1) | (leave1; try dsimp only) | fail "no step")); (try dsimp only)))
      rename Fr _ _ _ _ => F7
      rename News _ _ _ _ => N7
      simp only [List.nil_append] at N7
      refine add_txs F7 N7 (.tail _ (.head _)) (.head _) htx (by omega) ?_
      intro h8 vs8 htx8 hvl8 hlt8 F8 N8
      clear F7 N7
      dsimp only
      (repeat' ((fail_if_success first | (with_reducible show wpAny _ _ (call (Value.builtin "len") _) _ _ _) | (with_reducible show wpAny _ _ (binaryOp .Pow _ _) _ _ _) | (with_reducible show wpAny _ _ (binaryOp .FloorDiv _ _) _ _ _) | (with_reducible show wpAny _ _ (exec (Stmt.Assign [Expr.Name "due" _] _ _) _) _ _ _) | (with_reducible show wpAny _ _ (binaryOp .Add (Value.ref _) (Value.ref _)) _ _ _) | (with_reducible show wpAny _ _ (exec (Stmt.While _ _ _ _) _) _ _ _) | (with_reducible show wpAny _ _ (exec (Stmt.For _ _ _ _ _) _) _ _ _) | (with_reducible show wpAny _ _ (pyIter _) _ _ _) | (with_reducible show wpAny _ _ (call (Value.ref _) _) _ _ _) | (with_reducible show InvEndN _ _ _ _ _ _ _) | (with_reducible show Mid _ _ _ _ _ _) | (with_reducible show WhileStep _ _ _ _ _ _ _) | (with_reducible show wpAny _ _ (eval (Expr.ListComp _ _ _ _) _) _ _ _) | (with_reducible show wpAny _ _ (call (Value.builtin "sorted") _) _ _ _) | (with_reducible show wpAny _ _ (subscriptTail (Expr.Name "turns" _) _ (Value.ref _) (Value.int _ _)) _ _ _) | (with_reducible show wpAny _ _ (call (Value.builtin "str.count") _) _ _ _) | (with_reducible show wpAny _ _ (binaryOp .Add (Value.str _ _) (Value.str _ _)) _ _ _) | (with_reducible show wpAny _ _ (binaryOp .Mult (Value.str _ _) (Value.int _ _)) _ _ _) | (with_reducible show wpAny _ _ (subscriptTail _ _ (Value.str _ _) (Value.int _ _)) _ _ _) | (with_reducible show Turn _ _ _ _ _ _ _ _) | (with_reducible show wpAny _ _ (subscriptTail (Expr.List _ _) _ _ _) _ _ _) | (with_reducible show LCg.CompSrc _ _ _ _ _ _ _ _ _ _ _ _ _ _) | (with_reducible show LCg.CompEnd _ _ _ _ _ _ _ _ _ _ _ _ _ _)); ((first | (k_unfold; (try dsimp only)) | (k_end; wrow_close) | walk1 | (dsimp only; walk1) | (leave1; try dsimp only) | fail "no step")); (try dsimp only)))
      rename Fr _ _ _ _ => F9
      rename News _ _ _ _ => N9
      refine Turn.intro F9 ?tn ?to ⟨_, vs8, 0, _, _, _, rfl, rfl, rfl, rfl, rfl, hpr ▸ htx8, by omega⟩
      case tn => exact (show News _ _ _ ((_, _) :: (44, _) :: (51, _) :: own) from List.forall_mem_cons.mpr ⟨N9 _ (.head _), fun q hq => N9 q (.tail _ (.tail _ (.tail _ hq)))⟩)
      case to => exact List.forall_mem_cons.mpr ⟨fun p hp => Nat.ne_of_gt (hlt8 p (.tail _ (.tail _ (.tail _ (.tail _ hp))))), fun q hq => hown q (.tail _ hq)⟩
    · rintro m5 n5 h5 tk5 ⟨D, vs, c, t1', t2', t3', e1, e2, e3, e4, hn, htx, hvl⟩ F5 N5
      exact Mid.intro F5 N5 ⟨D, vs, c, t1', t2', t3', e1, e2, e3, e4, hn, htx⟩
  clear F1 N1
  rintro h2 tk2 m2 n2 F2 N2 ⟨D, vs, c, t1, t2, t3, e1, e2, e3, e4, hn, htx⟩
  rw [hn] at N2
  clear hn
  have F1 := fr_canon [(Str.ofString "prime", .int (P : Int) t1), (Str.ofString "start", .int (k1 : Int) t2), (Str.ofString "count", .int (1 + (k2 : Int)) t3), (Str.ofString "pairs", .ref D)] F2 (by simp [e1, e2, e3, e4])
  clear F2 e1 e2 e3 e4
  simp only [kstB] at F1
  obtain ⟨pk, hvs⟩ := tx12 htx
  subst hvs
  clear htx
  dsimp only
  (repeat' ((fail_if_success first | (with_reducible show wpAny _ _ (call (Value.builtin "len") _) _ _ _) | (with_reducible show wpAny _ _ (binaryOp .Pow _ _) _ _ _) | (with_reducible show wpAny _ _ (binaryOp .FloorDiv _ _) _ _ _) | (with_reducible show wpAny _ _ (exec (Stmt.Assign [Expr.Name "due" _] _ _) _) _ _ _) | (with_reducible show wpAny _ _ (binaryOp .Add (Value.ref _) (Value.ref _)) _ _ _) | (with_reducible show wpAny _ _ (exec (Stmt.While _ _ _ _) _) _ _ _) | (with_reducible show wpAny _ _ (exec (Stmt.For _ _ _ _ _) _) _ _ _) | (with_reducible show wpAny _ _ (pyIter _) _ _ _) | (with_reducible show wpAny _ _ (call (Value.ref _) _) _ _ _) | (with_reducible show InvEndN _ _ _ _ _ _ _) | (with_reducible show Mid _ _ _ _ _ _) | (with_reducible show WhileStep _ _ _ _ _ _ _) | (with_reducible show wpAny _ _ (eval (Expr.ListComp _ _ _ _) _) _ _ _) | (with_reducible show wpAny _ _ (call (Value.builtin "sorted") _) _ _ _) | (with_reducible show wpAny _ _ (subscriptTail (Expr.Name "turns" _) _ (Value.ref _) (Value.int _ _)) _ _ _) | (with_reducible show wpAny _ _ (call (Value.builtin "str.count") _) _ _ _) | (with_reducible show wpAny _ _ (binaryOp .Add (Value.str _ _) (Value.str _ _)) _ _ _) | (with_reducible show wpAny _ _ (binaryOp .Mult (Value.str _ _) (Value.int _ _)) _ _ _) | (with_reducible show wpAny _ _ (subscriptTail _ _ (Value.str _ _) (Value.int _ _)) _ _ _) | (with_reducible show Turn _ _ _ _ _ _ _ _) | (with_reducible show wpAny _ _ (subscriptTail (Expr.List _ _) _ _ _) _ _ _) | (with_reducible show LCg.CompSrc _ _ _ _ _ _ _ _ _ _ _ _ _ _) | (with_reducible show LCg.CompEnd _ _ _ _ _ _ _ _ _ _ _ _ _ _)); ((first | (k_unfold; (try dsimp only)) | (k_end; wrow_close) | walk1 | (dsimp only; walk1) | (leave1; try dsimp only) | fail "no step")); (try dsimp only)))
  k_dflt (refine mul_tx (x := [97]) (by decide) (by omega) ?_)
  intro t7 k7
  rw [rep1]
  (repeat' ((fail_if_success first | (with_reducible show wpAny _ _ (call (Value.builtin "len") _) _ _ _) | (with_reducible show wpAny _ _ (binaryOp .Pow _ _) _ _ _) | (with_reducible show wpAny _ _ (binaryOp .FloorDiv _ _) _ _ _) | (with_reducible show wpAny _ _ (exec (Stmt.Assign [Expr.Name "due" _] _ _) _) _ _ _) | (with_reducible show wpAny _ _ (binaryOp .Add (Value.ref _) (Value.ref _)) _ _ _) | (with_reducible show wpAny _ _ (exec (Stmt.While _ _ _ _) _) _ _ _) | (with_reducible show wpAny _ _ (exec (Stmt.For _ _ _ _ _) _) _ _ _) | (with_reducible show wpAny _ _ (pyIter _) _ _ _) | (with_reducible show wpAny _ _ (call (Value.ref _) _) _ _ _) | (with_reducible show InvEndN _ _ _ _ _ _ _) | (with_reducible show Mid _ _ _ _ _ _) | (with_reducible show WhileStep _ _ _ _ _ _ _) | (with_reducible show wpAny _ _ (eval (Expr.ListComp _ _ _ _) _) _ _ _) | (with_reducible show wpAny _ _ (call (Value.builtin "sorted") _) _ _ _) | (with_reducible show wpAny _ _ (subscriptTail (Expr.Name "turns" _) _ (Value.ref _) (Value.int _ _)) _ _ _) | (with_reducible show wpAny _ _ (call (Value.builtin "str.count") _) _ _ _) | (with_reducible show wpAny _ _ (binaryOp .Add (Value.str _ _) (Value.str _ _)) _ _ _) | (with_reducible show wpAny _ _ (binaryOp .Mult (Value.str _ _) (Value.int _ _)) _ _ _) | (with_reducible show wpAny _ _ (subscriptTail _ _ (Value.str _ _) (Value.int _ _)) _ _ _) | (with_reducible show Turn _ _ _ _ _ _ _ _) | (with_reducible show wpAny _ _ (subscriptTail (Expr.List _ _) _ _ _) _ _ _) | (with_reducible show LCg.CompSrc _ _ _ _ _ _ _ _ _ _ _ _ _ _) | (with_reducible show LCg.CompEnd _ _ _ _ _ _ _ _ _ _ _ _ _ _)); ((first | (k_unfold; (try dsimp only)) | (k_end; wrow_close) | walk1 | (dsimp only; walk1) | (leave1; try dsimp only) | fail "no step")); (try dsimp only)))
  rename Fr _ _ _ _ => F9
  rename News _ _ _ _ => N9
  have hf := fst2_is hP (show k1 < 90 by omega)
  k_dflt (refine ctr_use (rep_call _ _ _ _ _ _ _ (List.replicate k1 97) _ (List.replicate P 97) [65] (List.replicate P 65) [98] (List.replicate P 98) [66] (List.replicate P 66) [99] (List.replicate P 99) [67] (List.replicate P 67) [100] _ _ _ _ _ _ _ _ _ _ _ _ hf.1) B1 F9 X1 N9 T1 rfl ?r1 ?r2 ?_)
  case r1 => decide
  case r2 => decide
  clear F9 N9
  rintro v n6 h6 tk6 F6 N6 ⟨hn6, t9, rfl⟩
  rw [hn6] at N6
  clear hn6
  rw [show reps [(List.replicate P 97, [65]), (List.replicate P 65, [98]), (List.replicate P 98, [66]), (List.replicate P 66, [99]), (List.replicate P 99, [67]), (List.replicate P 67, [100])] (List.replicate k1 97) = wr P k1 from hf.2]
  clear hf
  dsimp only
  have hc1 : (1 : Int) + (k2 : Int) = ((k2 + 1 : Nat) : Int) := by omega
  rw [hc1] at F6
  clear hc1
  (repeat' ((fail_if_success first | (with_reducible show wpAny _ _ (call (Value.builtin "len") _) _ _ _) | (with_reducible show wpAny _ _ (binaryOp .Pow _ _) _ _ _) | (with_reducible show wpAny _ _ (binaryOp .FloorDiv _ _) _ _ _) | (with_reducible show wpAny _ _ (exec (Stmt.Assign [Expr.Name "due" _] _ _) _) _ _ _) | (with_reducible show wpAny _ _ (binaryOp .Add (Value.ref _) (Value.ref _)) _ _ _) | (with_reducible show wpAny _ _ (exec (Stmt.While _ _ _ _) _) _ _ _) | (with_reducible show wpAny _ _ (exec (Stmt.For _ _ _ _ _) _) _ _ _) | (with_reducible show wpAny _ _ (pyIter _) _ _ _) | (with_reducible show wpAny _ _ (call (Value.ref _) _) _ _ _) | (with_reducible show InvEndN _ _ _ _ _ _ _) | (with_reducible show Mid _ _ _ _ _ _) | (with_reducible show WhileStep _ _ _ _ _ _ _) | (with_reducible show wpAny _ _ (eval (Expr.ListComp _ _ _ _) _) _ _ _) | (with_reducible show wpAny _ _ (call (Value.builtin "sorted") _) _ _ _) | (with_reducible show wpAny _ _ (subscriptTail (Expr.Name "turns" _) _ (Value.ref _) (Value.int _ _)) _ _ _) | (with_reducible show wpAny _ _ (call (Value.builtin "str.count") _) _ _ _) | (with_reducible show wpAny _ _ (binaryOp .Add (Value.str _ _) (Value.str _ _)) _ _ _) | (with_reducible show wpAny _ _ (binaryOp .Mult (Value.str _ _) (Value.int _ _)) _ _ _) | (with_reducible show wpAny _ _ (subscriptTail _ _ (Value.str _ _) (Value.int _ _)) _ _ _) | (with_reducible show Turn _ _ _ _ _ _ _ _) | (with_reducible show wpAny _ _ (subscriptTail (Expr.List _ _) _ _ _) _ _ _) | (with_reducible show LCg.CompSrc _ _ _ _ _ _ _ _ _ _ _ _ _ _) | (with_reducible show LCg.CompEnd _ _ _ _ _ _ _ _ _ _ _ _ _ _)); ((first | (k_unfold; (try dsimp only)) | (k_end; wrow_close) | walk1 | (dsimp only; walk1) | (leave1; try dsimp only) | fail "no step")); (try dsimp only)))
  rename Fr _ _ _ _ => F9
  rename News _ _ _ _ => N9
  generalize he : (D, listOf [Value.str (tx (List.replicate P 97)) (pk 1), .str (tx [65]) (pk 2), .str (tx (List.replicate P 65)) (pk 3), .str (tx [98]) (pk 4), .str (tx (List.replicate P 98)) (pk 5), .str (tx [66]) (pk 6), .str (tx (List.replicate P 66)) (pk 7), .str (tx [99]) (pk 8), .str (tx (List.replicate P 99)) (pk 9), .str (tx [67]) (pk 10), .str (tx (List.replicate P 67)) (pk 11), .str (tx [100]) (pk 12)].toArray c) = e at N9
  refine wp_mid F9 (J2 P k1 (k2 + 1) e (k2 + 1)) ?w2 ?_
  case w2 =>
    with_unfolding_all refine' For_invVF F9 ?k1 ?k2 ?_
    case k1 => exact rfl
    case k2 => exact rfl
    (repeat' ((fail_if_success first | (with_reducible show wpAny _ _ (call (Value.builtin "len") _) _ _ _) | (with_reducible show wpAny _ _ (binaryOp .Pow _ _) _ _ _) | (with_reducible show wpAny _ _ (binaryOp .FloorDiv _ _) _ _ _) | (with_reducible show wpAny _ _ (exec (Stmt.Assign [Expr.Name "due" _] _ _) _) _ _ _) | (with_reducible show wpAny _ _ (binaryOp .Add (Value.ref _) (Value.ref _)) _ _ _) | (with_reducible show wpAny _ _ (exec (Stmt.While _ _ _ _) _) _ _ _) | (with_reducible show wpAny _ _ (exec (Stmt.For _ _ _ _ _) _) _ _ _) | (with_reducible show wpAny _ _ (pyIter _) _ _ _) | (with_reducible show wpAny _ _ (call (Value.ref _) _) _ _ _) | (with_reducible show InvEndN _ _ _ _ _ _ _) | (with_reducible show Mid _ _ _ _ _ _) | (with_reducible show WhileStep _ _ _ _ _ _ _) | (with_reducible show wpAny _ _ (eval (Expr.ListComp _ _ _ _) _) _ _ _) | (with_reducible show wpAny _ _ (call (Value.builtin "sorted") _) _ _ _) | (with_reducible show wpAny _ _ (subscriptTail (Expr.Name "turns" _) _ (Value.ref _) (Value.int _ _)) _ _ _) | (with_reducible show wpAny _ _ (call (Value.builtin "str.count") _) _ _ _) | (with_reducible show wpAny _ _ (binaryOp .Add (Value.str _ _) (Value.str _ _)) _ _ _) | (with_reducible show wpAny _ _ (binaryOp .Mult (Value.str _ _) (Value.int _ _)) _ _ _) | (with_reducible show wpAny _ _ (subscriptTail _ _ (Value.str _ _) (Value.int _ _)) _ _ _) | (with_reducible show Turn _ _ _ _ _ _ _ _) | (with_reducible show wpAny _ _ (subscriptTail (Expr.List _ _) _ _ _) _ _ _) | (with_reducible show LCg.CompSrc _ _ _ _ _ _ _ _ _ _ _ _ _ _) | (with_reducible show LCg.CompEnd _ _ _ _ _ _ _ _ _ _ _ _ _ _)); ((first | (k_unfold; (try dsimp only)) | (k_end; wrow_close) | walk1 | (dsimp only; walk1) | (leave1; try dsimp only) | fail "no step")); (try dsimp only)))
    rename Fr _ _ _ _ => F8
    rename News _ _ _ _ => N8
    refine for_range (n := k2 + 1) (news := e :: [(44, tabObj #[]), (51, tabObj #[])]) (J2 P k1 (k2 + 1) e) rfl (by assumption) (small_one (by omega) (by omega) (by omega) (by omega)) ?g0 F8 N8 ⟨_, _, _, _, _, _, _, _, rfl, rfl, rfl, by rw [← he]; rfl, rfl, rfl, rfl, rfl, rfl, hTb0⟩ ?_ ?_
    case g0 =>
      rw [rangeSize_nat]; omega
    · clear F8 N8
      rintro i t m5 n5 h5 tk5 own hi ⟨tl5, t1', t2', t3', t5', t6', t7', t8', e1, e2, e3, e4, e5, e6, e7, e8, hn, hTb5⟩ hown F5 N5
      rw [hn] at N5 hown
      clear hn
      subst he
      have F6 := fr_canon [(Str.ofString "n", .int ((i + 1 : Nat) : Int) t), (Str.ofString "prime", .int (P : Int) t1'), (Str.ofString "start", .int (k1 : Int) t2'), (Str.ofString "count", .int ((k2 + 1 : Nat) : Int) t3'), (Str.ofString "pairs", .ref D), (Str.ofString "text", .str (tx (wr P (k1 + i))) t5'), (Str.ofString "first", .str (tx (wr P k1)) t6'), (Str.ofString "upper", .int (prd k1 i : Int) t7'), (Str.ofString "lower", .int (prd 0 i : Int) t8')] F5 (List.forall_mem_cons.mpr ⟨(if_pos rfl).trans (by rw [show (1 : Int) + (i : Int) = ((i + 1 : Nat) : Int) by omega]), List.forall_mem_cons.mpr ⟨(if_neg (show ¬ Str.ofString _ = Str.ofString _ by decide)).trans e1, List.forall_mem_cons.mpr ⟨(if_neg (show ¬ Str.ofString _ = Str.ofString _ by decide)).trans e2, List.forall_mem_cons.mpr ⟨(if_neg (show ¬ Str.ofString _ = Str.ofString _ by decide)).trans e3, List.forall_mem_cons.mpr ⟨(if_neg (show ¬ Str.ofString _ = Str.ofString _ by decide)).trans e4, List.forall_mem_cons.mpr ⟨(if_neg (show ¬ Str.ofString _ = Str.ofString _ by decide)).trans e5, List.forall_mem_cons.mpr ⟨(if_neg (show ¬ Str.ofString _ = Str.ofString _ by decide)).trans e6, List.forall_mem_cons.mpr ⟨(if_neg (show ¬ Str.ofString _ = Str.ofString _ by decide)).trans e7, List.forall_mem_cons.mpr ⟨(if_neg (show ¬ Str.ofString _ = Str.ofString _ by decide)).trans e8, List.forall_mem_nil _⟩⟩⟩⟩⟩⟩⟩⟩⟩)
      clear F5 e1 e2 e3 e4 e5 e6 e7 e8
      simp only [kstB, List.cons_append] at F6 N5
      have hst := stp2_is hP (show k1 + i < 99 by omega)
      dsimp only
      (repeat' ((fail_if_success first | (with_reducible show wpAny _ _ (call (Value.builtin "len") _) _ _ _) | (with_reducible show wpAny _ _ (binaryOp .Pow _ _) _ _ _) | (with_reducible show wpAny _ _ (binaryOp .FloorDiv _ _) _ _ _) | (with_reducible show wpAny _ _ (exec (Stmt.Assign [Expr.Name "due" _] _ _) _) _ _ _) | (with_reducible show wpAny _ _ (binaryOp .Add (Value.ref _) (Value.ref _)) _ _ _) | (with_reducible show wpAny _ _ (exec (Stmt.While _ _ _ _) _) _ _ _) | (with_reducible show wpAny _ _ (exec (Stmt.For _ _ _ _ _) _) _ _ _) | (with_reducible show wpAny _ _ (pyIter _) _ _ _) | (with_reducible show wpAny _ _ (call (Value.ref _) _) _ _ _) | (with_reducible show InvEndN _ _ _ _ _ _ _) | (with_reducible show Mid _ _ _ _ _ _) | (with_reducible show WhileStep _ _ _ _ _ _ _) | (with_reducible show wpAny _ _ (eval (Expr.ListComp _ _ _ _) _) _ _ _) | (with_reducible show wpAny _ _ (call (Value.builtin "sorted") _) _ _ _) | (with_reducible show wpAny _ _ (subscriptTail (Expr.Name "turns" _) _ (Value.ref _) (Value.int _ _)) _ _ _) | (with_reducible show wpAny _ _ (call (Value.builtin "str.count") _) _ _ _) | (with_reducible show wpAny _ _ (binaryOp .Add (Value.str _ _) (Value.str _ _)) _ _ _) | (with_reducible show wpAny _ _ (binaryOp .Mult (Value.str _ _) (Value.int _ _)) _ _ _) | (with_reducible show wpAny _ _ (subscriptTail _ _ (Value.str _ _) (Value.int _ _)) _ _ _) | (with_reducible show Turn _ _ _ _ _ _ _ _) | (with_reducible show wpAny _ _ (subscriptTail (Expr.List _ _) _ _ _) _ _ _) | (with_reducible show LCg.CompSrc _ _ _ _ _ _ _ _ _ _ _ _ _ _) | (with_reducible show LCg.CompEnd _ _ _ _ _ _ _ _ _ _ _ _ _ _)); ((first | (k_unfold; (try dsimp only)) | (k_end; wrow_close) | walk1 | (dsimp only; walk1) | (leave1; try dsimp only) | fail "no step")); (try dsimp only)))
      rw [show (k1 : Int) + ((i + 1 : Nat) : Int) = ((k1 + i + 1 : Nat) : Int) by omega]
      k_dflt (refine ctrF_law (tl := tl5) (keep := (D, listOf [Value.str (tx (List.replicate P 97)) (pk 1), .str (tx [65]) (pk 2), .str (tx (List.replicate P 65)) (pk 3), .str (tx [98]) (pk 4), .str (tx (List.replicate P 98)) (pk 5), .str (tx [66]) (pk 6), .str (tx (List.replicate P 66)) (pk 7), .str (tx [99]) (pk 8), .str (tx (List.replicate P 99)) (pk 9), .str (tx [67]) (pk 10), .str (tx (List.replicate P 67)) (pk 11), .str (tx [100]) (pk 12)].toArray c) :: own) (tm_call _ _ _ _ _ _ tl5 hTb5 (k1 + i + 1) P _ _ (by omega) (by omega) (by omega)) (And.intro (by assumption) (by assumption)) B1 F6 X1 N5 T1 rfl ?r1 ?r2 hTb5 ?d1 ?d2 ?d3 ?_)
      case d1 => exact fun q hq => .tail _ (List.mem_append_left _ hq)
      case d2 => exact List.forall_mem_cons.mpr ⟨.head _, fun q hq => .tail _ (List.mem_append_right _ hq)⟩
      case d3 => exact List.forall_mem_cons.mpr ⟨.inl (fun _ h => nomatch h), fun q hq => .inr fun q' hq' => (hown q' (.tail _ hq') q hq).symm⟩
      case r1 => decide
      case r2 => decide
      rintro v tl6 h6 tk6 ⟨t4, rfl⟩ hTb6 hfr6 F7 N7
      have hown6 := Fresh.off2 hfr6 hown N5
      clear F6 N5 hown hfr6
      simp only [List.cons_append] at N7
      have hsteps := hst.tms
      have hl0 := hst.l0
      have hdue : due2 P (k1 + i + 1) = if 0 < tms P 7 (k1 + i + 1) then 2 * (tms P 7 (k1 + i + 1) : Int) * ((P : Int) - 1) - ((tms P 7 (k1 + i + 1) % 2 : Nat) : Int) else 2 := rfl
      generalize tms P 7 (k1 + i + 1) = T at *
      dsimp only
      (repeat' ((fail_if_success first | (with_reducible show wpAny _ _ (call (Value.builtin "len") _) _ _ _) | (with_reducible show wpAny _ _ (binaryOp .Pow _ _) _ _ _) | (with_reducible show wpAny _ _ (binaryOp .FloorDiv _ _) _ _ _) | (with_reducible show wpAny _ _ (exec (Stmt.Assign [Expr.Name "due" _] _ _) _) _ _ _) | (with_reducible show wpAny _ _ (binaryOp .Add (Value.ref _) (Value.ref _)) _ _ _) | (with_reducible show wpAny _ _ (exec (Stmt.While _ _ _ _) _) _ _ _) | (with_reducible show wpAny _ _ (exec (Stmt.For _ _ _ _ _) _) _ _ _) | (with_reducible show wpAny _ _ (pyIter _) _ _ _) | (with_reducible show wpAny _ _ (call (Value.ref _) _) _ _ _) | (with_reducible show InvEndN _ _ _ _ _ _ _) | (with_reducible show Mid _ _ _ _ _ _) | (with_reducible show WhileStep _ _ _ _ _ _ _) | (with_reducible show wpAny _ _ (eval (Expr.ListComp _ _ _ _) _) _ _ _) | (with_reducible show wpAny _ _ (call (Value.builtin "sorted") _) _ _ _) | (with_reducible show wpAny _ _ (subscriptTail (Expr.Name "turns" _) _ (Value.ref _) (Value.int _ _)) _ _ _) | (with_reducible show wpAny _ _ (call (Value.builtin "str.count") _) _ _ _) | (with_reducible show wpAny _ _ (binaryOp .Add (Value.str _ _) (Value.str _ _)) _ _ _) | (with_reducible show wpAny _ _ (binaryOp .Mult (Value.str _ _) (Value.int _ _)) _ _ _) | (with_reducible show wpAny _ _ (subscriptTail _ _ (Value.str _ _) (Value.int _ _)) _ _ _) | (with_reducible show Turn _ _ _ _ _ _ _ _) | (with_reducible show wpAny _ _ (subscriptTail (Expr.List _ _) _ _ _) _ _ _) | (with_reducible show LCg.CompSrc _ _ _ _ _ _ _ _ _ _ _ _ _ _) | (with_reducible show LCg.CompEnd _ _ _ _ _ _ _ _ _ _ _ _ _ _)); ((first | (k_unfold; (try dsimp only)) | (k_end; wrow_close) | walk1 | (dsimp only; walk1) | (leave1; try dsimp only) | fail "no step")); (try dsimp only)))
      rename Fr _ _ _ _ => F8
      rename News _ _ _ _ => N8
      refine wp_mid F8 (fun m' n' => ∃ td, m' (Str.ofString "due") = some (.int (due2 P (k1 + i + 1)) td) ∧ (∀ p ∈ [(Str.ofString "n", Value.int ((i + 1 : Nat) : Int) t), (Str.ofString "prime", .int (P : Int) t1'), (Str.ofString "start", .int (k1 : Int) t2'), (Str.ofString "count", .int ((k2 + 1 : Nat) : Int) t3'), (Str.ofString "pairs", .ref D), (Str.ofString "text", .str (tx (wr P (k1 + i))) t5'), (Str.ofString "first", .str (tx (wr P k1)) t6'), (Str.ofString "upper", .int (prd k1 i : Int) t7'), (Str.ofString "lower", .int (prd 0 i : Int) t8'), (Str.ofString "times", .int (T : Int) t4)], m' p.1 = some p.2) ∧ n' = (D, listOf [Value.str (tx (List.replicate P 97)) (pk 1), .str (tx [65]) (pk 2), .str (tx (List.replicate P 65)) (pk 3), .str (tx [98]) (pk 4), .str (tx (List.replicate P 98)) (pk 5), .str (tx [66]) (pk 6), .str (tx (List.replicate P 66)) (pk 7), .str (tx [99]) (pk 8), .str (tx (List.replicate P 99)) (pk 9), .str (tx [67]) (pk 10), .str (tx (List.replicate P 67)) (pk 11), .str (tx [100]) (pk 12)].toArray c) :: (own ++ tl6)) ?w4 ?_
      case w4 =>
        ((first | (k_unfold; (try dsimp only)) | (k_end; wrow_close) | walk1 | (dsimp only; walk1) | (leave1; try dsimp only) | fail "no step"))
        (repeat' ((fail_if_success first | (with_reducible show wpAny _ _ (call (Value.builtin "len") _) _ _ _) | (with_reducible show wpAny _ _ (binaryOp .Pow _ _) _ _ _) | (with_reducible show wpAny _ _ (binaryOp .FloorDiv _ _) _ _ _) | (with_reducible show wpAny _ _ (exec (Stmt.Assign [Expr.Name "due" _] _ _) _) _ _ _) | (with_reducible show wpAny _ _ (binaryOp .Add (Value.ref _) (Value.ref _)) _ _ _) | (with_reducible show wpAny _ _ (exec (Stmt.While _ _ _ _) _) _ _ _) | (with_reducible show wpAny _ _ (exec (Stmt.For _ _ _ _ _) _) _ _ _) | (with_reducible show wpAny _ _ (pyIter _) _ _ _) | (with_reducible show wpAny _ _ (call (Value.ref _) _) _ _ _) | (with_reducible show InvEndN _ _ _ _ _ _ _) | (with_reducible show Mid _ _ _ _ _ _) | (with_reducible show WhileStep _ _ _ _ _ _ _) | (with_reducible show wpAny _ _ (eval (Expr.ListComp _ _ _ _) _) _ _ _) | (with_reducible show wpAny _ _ (call (Value.builtin "sorted") _) _ _ _) | (with_reducible show wpAny _ _ (subscriptTail (Expr.Name "turns" _) _ (Value.ref _) (Value.int _ _)) _ _ _) | (with_reducible show wpAny _ _ (call (Value.builtin "str.count") _) _ _ _) | (with_reducible show wpAny _ _ (binaryOp .Add (Value.str _ _) (Value.str _ _)) _ _ _) | (with_reducible show wpAny _ _ (binaryOp .Mult (Value.str _ _) (Value.int _ _)) _ _ _) | (with_reducible show wpAny _ _ (subscriptTail _ _ (Value.str _ _) (Value.int _ _)) _ _ _) | (with_reducible show Turn _ _ _ _ _ _ _ _) | (with_reducible show wpAny _ _ (subscriptTail (Expr.List _ _) _ _ _) _ _ _) | (with_reducible show LCg.CompSrc _ _ _ _ _ _ _ _ _ _ _ _ _ _) | (with_reducible show LCg.CompEnd _ _ _ _ _ _ _ _ _ _ _ _ _ _)); ((first | (k_unfold; (try dsimp only)) | (k_end; wrow_close) | walk1 | (dsimp only; walk1) | (leave1; try dsimp only) | fail "no step")); (try dsimp only)))
        · rename Fr _ _ _ _ => F9
          rename News _ _ _ _ => N9
          have hv : 2 * (T : Int) * ((P : Int) - 1) - (T : Int).fmod 2 = due2 P (k1 + i + 1) := by rw [hdue, if_pos (by omega), ← nat_fmod]; rfl
          refine Mid.intro F9 (fun q hq => N9 q hq) ⟨_, some_int hv _, List.forall_mem_cons.mpr ⟨rfl, List.forall_mem_cons.mpr ⟨rfl, List.forall_mem_cons.mpr ⟨rfl, List.forall_mem_cons.mpr ⟨rfl, List.forall_mem_cons.mpr ⟨rfl, List.forall_mem_cons.mpr ⟨rfl, List.forall_mem_cons.mpr ⟨rfl, List.forall_mem_cons.mpr ⟨rfl, List.forall_mem_cons.mpr ⟨rfl, List.forall_mem_cons.mpr ⟨rfl, List.forall_mem_nil _⟩⟩⟩⟩⟩⟩⟩⟩⟩⟩, rfl⟩
        · rename Fr _ _ _ _ => F9
          rename News _ _ _ _ => N9
          have hv : (2 : Int) = due2 P (k1 + i + 1) := by rw [hdue, if_neg (by omega)]
          refine Mid.intro F9 (fun q hq => N9 q hq) ⟨_, some_int hv _, List.forall_mem_cons.mpr ⟨rfl, List.forall_mem_cons.mpr ⟨rfl, List.forall_mem_cons.mpr ⟨rfl, List.forall_mem_cons.mpr ⟨rfl, List.forall_mem_cons.mpr ⟨rfl, List.forall_mem_cons.mpr ⟨rfl, List.forall_mem_cons.mpr ⟨rfl, List.forall_mem_cons.mpr ⟨rfl, List.forall_mem_cons.mpr ⟨rfl, List.forall_mem_cons.mpr ⟨rfl, List.forall_mem_nil _⟩⟩⟩⟩⟩⟩⟩⟩⟩⟩, rfl⟩
      clear F8 N8
      rintro h7 tk7 m7 n7 F7 N7 ⟨t10, e1, e2, hn⟩
      rw [hn] at N7
      clear hn
      have F8 := fr_canon ((Str.ofString "due", .int (due2 P (k1 + i + 1)) t10) :: [(Str.ofString "n", Value.int ((i + 1 : Nat) : Int) t), (Str.ofString "prime", .int (P : Int) t1'), (Str.ofString "start", .int (k1 : Int) t2'), (Str.ofString "count", .int ((k2 + 1 : Nat) : Int) t3'), (Str.ofString "pairs", .ref D), (Str.ofString "text", .str (tx (wr P (k1 + i))) t5'), (Str.ofString "first", .str (tx (wr P k1)) t6'), (Str.ofString "upper", .int (prd k1 i : Int) t7'), (Str.ofString "lower", .int (prd 0 i : Int) t8'), (Str.ofString "times", .int (T : Int) t4)]) F7 (List.forall_mem_cons.mpr ⟨e1, e2⟩)
      clear F7 e1 e2
      simp only [kstB] at F8
      dsimp only
      (repeat' ((fail_if_success first | (with_reducible show wpAny _ _ (call (Value.builtin "len") _) _ _ _) | (with_reducible show wpAny _ _ (binaryOp .Pow _ _) _ _ _) | (with_reducible show wpAny _ _ (binaryOp .FloorDiv _ _) _ _ _) | (with_reducible show wpAny _ _ (exec (Stmt.Assign [Expr.Name "due" _] _ _) _) _ _ _) | (with_reducible show wpAny _ _ (binaryOp .Add (Value.ref _) (Value.ref _)) _ _ _) | (with_reducible show wpAny _ _ (exec (Stmt.While _ _ _ _) _) _ _ _) | (with_reducible show wpAny _ _ (exec (Stmt.For _ _ _ _ _) _) _ _ _) | (with_reducible show wpAny _ _ (pyIter _) _ _ _) | (with_reducible show wpAny _ _ (call (Value.ref _) _) _ _ _) | (with_reducible show InvEndN _ _ _ _ _ _ _) | (with_reducible show Mid _ _ _ _ _ _) | (with_reducible show WhileStep _ _ _ _ _ _ _) | (with_reducible show wpAny _ _ (eval (Expr.ListComp _ _ _ _) _) _ _ _) | (with_reducible show wpAny _ _ (call (Value.builtin "sorted") _) _ _ _) | (with_reducible show wpAny _ _ (subscriptTail (Expr.Name "turns" _) _ (Value.ref _) (Value.int _ _)) _ _ _) | (with_reducible show wpAny _ _ (call (Value.builtin "str.count") _) _ _ _) | (with_reducible show wpAny _ _ (binaryOp .Add (Value.str _ _) (Value.str _ _)) _ _ _) | (with_reducible show wpAny _ _ (binaryOp .Mult (Value.str _ _) (Value.int _ _)) _ _ _) | (with_reducible show wpAny _ _ (subscriptTail _ _ (Value.str _ _) (Value.int _ _)) _ _ _) | (with_reducible show Turn _ _ _ _ _ _ _ _) | (with_reducible show wpAny _ _ (subscriptTail (Expr.List _ _) _ _ _) _ _ _) | (with_reducible show LCg.CompSrc _ _ _ _ _ _ _ _ _ _ _ _ _ _) | (with_reducible show LCg.CompEnd _ _ _ _ _ _ _ _ _ _ _ _ _ _)); ((first | (k_unfold; (try dsimp only)) | (k_end; wrow_close) | walk1 | (dsimp only; walk1) | (leave1; try dsimp only) | fail "no step")); (try dsimp only)))
      have hlw := hst.len
      have hlw' := hst.len'
      k_dflt (refine add_tx (y := [97]) (by omega) (by decide) ?_)
      intro t8 k8
      (repeat' ((fail_if_success first | (with_reducible show wpAny _ _ (call (Value.builtin "len") _) _ _ _) | (with_reducible show wpAny _ _ (binaryOp .Pow _ _) _ _ _) | (with_reducible show wpAny _ _ (binaryOp .FloorDiv _ _) _ _ _) | (with_reducible show wpAny _ _ (exec (Stmt.Assign [Expr.Name "due" _] _ _) _) _ _ _) | (with_reducible show wpAny _ _ (binaryOp .Add (Value.ref _) (Value.ref _)) _ _ _) | (with_reducible show wpAny _ _ (exec (Stmt.While _ _ _ _) _) _ _ _) | (with_reducible show wpAny _ _ (exec (Stmt.For _ _ _ _ _) _) _ _ _) | (with_reducible show wpAny _ _ (pyIter _) _ _ _) | (with_reducible show wpAny _ _ (call (Value.ref _) _) _ _ _) | (with_reducible show InvEndN _ _ _ _ _ _ _) | (with_reducible show Mid _ _ _ _ _ _) | (with_reducible show WhileStep _ _ _ _ _ _ _) | (with_reducible show wpAny _ _ (eval (Expr.ListComp _ _ _ _) _) _ _ _) | (with_reducible show wpAny _ _ (call (Value.builtin "sorted") _) _ _ _) | (with_reducible show wpAny _ _ (subscriptTail (Expr.Name "turns" _) _ (Value.ref _) (Value.int _ _)) _ _ _) | (with_reducible show wpAny _ _ (call (Value.builtin "str.count") _) _ _ _) | (with_reducible show wpAny _ _ (binaryOp .Add (Value.str _ _) (Value.str _ _)) _ _ _) | (with_reducible show wpAny _ _ (binaryOp .Mult (Value.str _ _) (Value.int _ _)) _ _ _) | (with_reducible show wpAny _ _ (subscriptTail _ _ (Value.str _ _) (Value.int _ _)) _ _ _) | (with_reducible show Turn _ _ _ _ _ _ _ _) | (with_reducible show wpAny _ _ (subscriptTail (Expr.List _ _) _ _ _) _ _ _) | (with_reducible show LCg.CompSrc _ _ _ _ _ _ _ _ _ _ _ _ _ _) | (with_reducible show LCg.CompEnd _ _ _ _ _ _ _ _ _ _ _ _ _ _)); ((first | (k_unfold; (try dsimp only)) | (k_end; wrow_close) | walk1 | (dsimp only; walk1) | (leave1; try dsimp only) | fail "no step")); (try dsimp only)))
      rename Fr _ _ _ _ => F9
      rename News _ _ _ _ => N9
      k_dflt (refine ctr_use (rep_call _ _ _ _ _ _ _ (wr P (k1 + i) ++ [97]) _ (List.replicate P 97) [65] (List.replicate P 65) [98] (List.replicate P 98) [66] (List.replicate P 66) [99] (List.replicate P 99) [67] (List.replicate P 67) [100] _ _ _ _ _ _ _ _ _ _ _ _ hst.ok) B1 F9 X1 N9 T1 rfl ?r1 ?r2 ?_)
      case r1 => decide
      case r2 => decide
      clear F9 N9
      rintro v n6 h6 tk6 F6 N6 ⟨hn6, t9, rfl⟩
      rw [hn6] at N6
      clear hn6
      rw [show reps [(List.replicate P 97, [65]), (List.replicate P 65, [98]), (List.replicate P 98, [66]), (List.replicate P 66, [99]), (List.replicate P 99, [67]), (List.replicate P 67, [100])] (wr P (k1 + i) ++ [97]) = wr P (k1 + i + 1) from hst.nxt]
      dsimp only
      (repeat' ((fail_if_success first | (with_reducible show wpAny _ _ (call (Value.builtin "len") _) _ _ _) | (with_reducible show wpAny _ _ (binaryOp .Pow _ _) _ _ _) | (with_reducible show wpAny _ _ (binaryOp .FloorDiv _ _) _ _ _) | (with_reducible show wpAny _ _ (exec (Stmt.Assign [Expr.Name "due" _] _ _) _) _ _ _) | (with_reducible show wpAny _ _ (binaryOp .Add (Value.ref _) (Value.ref _)) _ _ _) | (with_reducible show wpAny _ _ (exec (Stmt.While _ _ _ _) _) _ _ _) | (with_reducible show wpAny _ _ (exec (Stmt.For _ _ _ _ _) _) _ _ _) | (with_reducible show wpAny _ _ (pyIter _) _ _ _) | (with_reducible show wpAny _ _ (call (Value.ref _) _) _ _ _) | (with_reducible show InvEndN _ _ _ _ _ _ _) | (with_reducible show Mid _ _ _ _ _ _) | (with_reducible show WhileStep _ _ _ _ _ _ _) | (with_reducible show wpAny _ _ (eval (Expr.ListComp _ _ _ _) _) _ _ _) | (with_reducible show wpAny _ _ (call (Value.builtin "sorted") _) _ _ _) | (with_reducible show wpAny _ _ (subscriptTail (Expr.Name "turns" _) _ (Value.ref _) (Value.int _ _)) _ _ _) | (with_reducible show wpAny _ _ (call (Value.builtin "str.count") _) _ _ _) | (with_reducible show wpAny _ _ (binaryOp .Add (Value.str _ _) (Value.str _ _)) _ _ _) | (with_reducible show wpAny _ _ (binaryOp .Mult (Value.str _ _) (Value.int _ _)) _ _ _) | (with_reducible show wpAny _ _ (subscriptTail _ _ (Value.str _ _) (Value.int _ _)) _ _ _) | (with_reducible show Turn _ _ _ _ _ _ _ _) | (with_reducible show wpAny _ _ (subscriptTail (Expr.List _ _) _ _ _) _ _ _) | (with_reducible show LCg.CompSrc _ _ _ _ _ _ _ _ _ _ _ _ _ _) | (with_reducible show LCg.CompEnd _ _ _ _ _ _ _ _ _ _ _ _ _ _)); ((first | (k_unfold; (try dsimp only)) | (k_end; wrow_close) | walk1 | (dsimp only; walk1) | (leave1; try dsimp only) | fail "no step")); (try dsimp only)))
      rename Fr _ _ _ _ => F9
      rename News _ _ _ _ => N9
      k_dflt (refine ctr_use (lev_call _ _ _ _ _ _ _ (wr P (k1 + i)) (wr P (k1 + i + 1)) (due2 P (k1 + i + 1)) _ _ _ (by omega) (by omega) hst.lo hst.lo') B1 F9 X1 N9 T1 rfl ?r1 ?r2 ?_)
      case r1 => decide
      case r2 => decide
      rw [hst.l1]
      clear F9 N9
      rintro v n7 h7 tk7 F7 N7 ⟨hn7, t12, rfl⟩
      rw [hn7] at N7
      clear hn7
      dsimp only
      (repeat' ((fail_if_success first | (with_reducible show wpAny _ _ (call (Value.builtin "len") _) _ _ _) | (with_reducible show wpAny _ _ (binaryOp .Pow _ _) _ _ _) | (with_reducible show wpAny _ _ (binaryOp .FloorDiv _ _) _ _ _) | (with_reducible show wpAny _ _ (exec (Stmt.Assign [Expr.Name "due" _] _ _) _) _ _ _) | (with_reducible show wpAny _ _ (binaryOp .Add (Value.ref _) (Value.ref _)) _ _ _) | (with_reducible show wpAny _ _ (exec (Stmt.While _ _ _ _) _) _ _ _) | (with_reducible show wpAny _ _ (exec (Stmt.For _ _ _ _ _) _) _ _ _) | (with_reducible show wpAny _ _ (pyIter _) _ _ _) | (with_reducible show wpAny _ _ (call (Value.ref _) _) _ _ _) | (with_reducible show InvEndN _ _ _ _ _ _ _) | (with_reducible show Mid _ _ _ _ _ _) | (with_reducible show WhileStep _ _ _ _ _ _ _) | (with_reducible show wpAny _ _ (eval (Expr.ListComp _ _ _ _) _) _ _ _) | (with_reducible show wpAny _ _ (call (Value.builtin "sorted") _) _ _ _) | (with_reducible show wpAny _ _ (subscriptTail (Expr.Name "turns" _) _ (Value.ref _) (Value.int _ _)) _ _ _) | (with_reducible show wpAny _ _ (call (Value.builtin "str.count") _) _ _ _) | (with_reducible show wpAny _ _ (binaryOp .Add (Value.str _ _) (Value.str _ _)) _ _ _) | (with_reducible show wpAny _ _ (binaryOp .Mult (Value.str _ _) (Value.int _ _)) _ _ _) | (with_reducible show wpAny _ _ (subscriptTail _ _ (Value.str _ _) (Value.int _ _)) _ _ _) | (with_reducible show Turn _ _ _ _ _ _ _ _) | (with_reducible show wpAny _ _ (subscriptTail (Expr.List _ _) _ _ _) _ _ _) | (with_reducible show LCg.CompSrc _ _ _ _ _ _ _ _ _ _ _ _ _ _) | (with_reducible show LCg.CompEnd _ _ _ _ _ _ _ _ _ _ _ _ _ _)); ((first | (k_unfold; (try dsimp only)) | (k_end; wrow_close) | walk1 | (dsimp only; walk1) | (leave1; try dsimp only) | fail "no step")); (try dsimp only)))
      rename Fr _ _ _ _ => F9
      rename News _ _ _ _ => N9
      k_dflt (refine ctr_use (lev_call _ _ _ _ _ _ _ (wr P (k1 + i + 1)) (wr P (k1 + i)) (due2 P (k1 + i + 1) - 1) _ _ _ (by omega) (by omega) hst.lo' hst.lo) B1 F9 X1 N9 T1 rfl ?r1 ?r2 ?_)
      case r1 => decide
      case r2 => decide
      rw [hst.l2]
      clear F9 N9
      rintro v n7 h7 tk7 F7 N7 ⟨hn7, t13, rfl⟩
      rw [hn7] at N7
      clear hn7
      dsimp only
      (repeat' ((fail_if_success first | (with_reducible show wpAny _ _ (call (Value.builtin "len") _) _ _ _) | (with_reducible show wpAny _ _ (binaryOp .Pow _ _) _ _ _) | (with_reducible show wpAny _ _ (binaryOp .FloorDiv _ _) _ _ _) | (with_reducible show wpAny _ _ (exec (Stmt.Assign [Expr.Name "due" _] _ _) _) _ _ _) | (with_reducible show wpAny _ _ (binaryOp .Add (Value.ref _) (Value.ref _)) _ _ _) | (with_reducible show wpAny _ _ (exec (Stmt.While _ _ _ _) _) _ _ _) | (with_reducible show wpAny _ _ (exec (Stmt.For _ _ _ _ _) _) _ _ _) | (with_reducible show wpAny _ _ (pyIter _) _ _ _) | (with_reducible show wpAny _ _ (call (Value.ref _) _) _ _ _) | (with_reducible show InvEndN _ _ _ _ _ _ _) | (with_reducible show Mid _ _ _ _ _ _) | (with_reducible show WhileStep _ _ _ _ _ _ _) | (with_reducible show wpAny _ _ (eval (Expr.ListComp _ _ _ _) _) _ _ _) | (with_reducible show wpAny _ _ (call (Value.builtin "sorted") _) _ _ _) | (with_reducible show wpAny _ _ (subscriptTail (Expr.Name "turns" _) _ (Value.ref _) (Value.int _ _)) _ _ _) | (with_reducible show wpAny _ _ (call (Value.builtin "str.count") _) _ _ _) | (with_reducible show wpAny _ _ (binaryOp .Add (Value.str _ _) (Value.str _ _)) _ _ _) | (with_reducible show wpAny _ _ (binaryOp .Mult (Value.str _ _) (Value.int _ _)) _ _ _) | (with_reducible show wpAny _ _ (subscriptTail _ _ (Value.str _ _) (Value.int _ _)) _ _ _) | (with_reducible show Turn _ _ _ _ _ _ _ _) | (with_reducible show wpAny _ _ (subscriptTail (Expr.List _ _) _ _ _) _ _ _) | (with_reducible show LCg.CompSrc _ _ _ _ _ _ _ _ _ _ _ _ _ _) | (with_reducible show LCg.CompEnd _ _ _ _ _ _ _ _ _ _ _ _ _ _)); ((first | (k_unfold; (try dsimp only)) | (k_end; wrow_close) | walk1 | (dsimp only; walk1) | (leave1; try dsimp only) | fail "no step")); (try dsimp only)))
      rename Fr _ _ _ _ => F9
      rename News _ _ _ _ => N9
      k_dflt (refine ctr_use (lev_call _ _ _ _ _ _ _ (wr P (k1 + i)) (wr P (k1 + i + 1)) 0 _ _ _ (by omega) (by omega) hst.lo hst.lo') B1 F9 X1 N9 T1 rfl ?r1 ?r2 ?_)
      case r1 => decide
      case r2 => decide
      generalize lev (wr P (k1 + i)) (wr P (k1 + i + 1)) 0 = z0 at hl0 ⊢
      clear F9 N9
      rintro v n7 h7 tk7 F7 N7 ⟨hn7, t14, rfl⟩
      rw [hn7] at N7
      clear hn7
      dsimp only
      (repeat' ((fail_if_success first | (with_reducible show wpAny _ _ (call (Value.builtin "len") _) _ _ _) | (with_reducible show wpAny _ _ (binaryOp .Pow _ _) _ _ _) | (with_reducible show wpAny _ _ (binaryOp .FloorDiv _ _) _ _ _) | (with_reducible show wpAny _ _ (exec (Stmt.Assign [Expr.Name "due" _] _ _) _) _ _ _) | (with_reducible show wpAny _ _ (binaryOp .Add (Value.ref _) (Value.ref _)) _ _ _) | (with_reducible show wpAny _ _ (exec (Stmt.While _ _ _ _) _) _ _ _) | (with_reducible show wpAny _ _ (exec (Stmt.For _ _ _ _ _) _) _ _ _) | (with_reducible show wpAny _ _ (pyIter _) _ _ _) | (with_reducible show wpAny _ _ (call (Value.ref _) _) _ _ _) | (with_reducible show InvEndN _ _ _ _ _ _ _) | (with_reducible show Mid _ _ _ _ _ _) | (with_reducible show WhileStep _ _ _ _ _ _ _) | (with_reducible show wpAny _ _ (eval (Expr.ListComp _ _ _ _) _) _ _ _) | (with_reducible show wpAny _ _ (call (Value.builtin "sorted") _) _ _ _) | (with_reducible show wpAny _ _ (subscriptTail (Expr.Name "turns" _) _ (Value.ref _) (Value.int _ _)) _ _ _) | (with_reducible show wpAny _ _ (call (Value.builtin "str.count") _) _ _ _) | (with_reducible show wpAny _ _ (binaryOp .Add (Value.str _ _) (Value.str _ _)) _ _ _) | (with_reducible show wpAny _ _ (binaryOp .Mult (Value.str _ _) (Value.int _ _)) _ _ _) | (with_reducible show wpAny _ _ (subscriptTail _ _ (Value.str _ _) (Value.int _ _)) _ _ _) | (with_reducible show Turn _ _ _ _ _ _ _ _) | (with_reducible show wpAny _ _ (subscriptTail (Expr.List _ _) _ _ _) _ _ _) | (with_reducible show LCg.CompSrc _ _ _ _ _ _ _ _ _ _ _ _ _ _) | (with_reducible show LCg.CompEnd _ _ _ _ _ _ _ _ _ _ _ _ _ _)); ((first | (k_unfold; (try dsimp only)) | (k_end; wrow_close) | walk1 | (dsimp only; walk1) | (leave1; try dsimp only) | fail "no step")); (try dsimp only)))
      all_goals first
        | (exfalso; (split at hl0) <;> omega)
        | (rename Fr _ _ _ _ => F9
           rename News _ _ _ _ => N9
           exact Turn.intro (nx := (D, listOf [Value.str (tx (List.replicate P 97)) (pk 1), .str (tx [65]) (pk 2), .str (tx (List.replicate P 65)) (pk 3), .str (tx [98]) (pk 4), .str (tx (List.replicate P 98)) (pk 5), .str (tx [66]) (pk 6), .str (tx (List.replicate P 66)) (pk 7), .str (tx [99]) (pk 8), .str (tx (List.replicate P 99)) (pk 9), .str (tx [67]) (pk 10), .str (tx (List.replicate P 67)) (pk 11), .str (tx [100]) (pk 12)].toArray c) :: tl6) F9 (show News _ _ _ (_ :: (tl6 ++ own)) from List.forall_mem_cons.mpr ⟨N9 _ (.tail _ (.tail _ (.head _))), fun q hq => N9 q (.tail _ (.tail _ (.tail _ (List.mem_append.mpr (List.mem_append.mp hq).symm))))⟩) hown6
             ⟨tl6, _, _, _, _, _, _, _, rfl, rfl, rfl, rfl, rfl, rfl, some_int (prd_up k1 i) _, some_int (prd_lo i) _, rfl, hTb6⟩)
    · rintro m5 n5 h5 tk5 hj F5 N5
      exact Mid.intro F5 N5 hj
  subst he
  clear F9 N9
  rintro h3 tk3 m3 n3 F3 N3 ⟨tl3, t1', t2', t3', t5', t6', t7', t8', e1, e2, e3, e4, e5, e6, e7, e8, hn, hTb3⟩
  rw [hn] at N3
  clear hn
  have F6 := fr_canon [(Str.ofString "prime", Value.int (P : Int) t1'), (Str.ofString "start", .int (k1 : Int) t2'), (Str.ofString "count", .int ((k2 + 1 : Nat) : Int) t3'), (Str.ofString "pairs", .ref D), (Str.ofString "text", .str (tx (wr P (k1 + (k2 + 1)))) t5'), (Str.ofString "first", .str (tx (wr P k1)) t6'), (Str.ofString "upper", .int (prd k1 (k2 + 1) : Int) t7'), (Str.ofString "lower", .int (prd 0 (k2 + 1) : Int) t8')] F3 (List.forall_mem_cons.mpr ⟨e1, List.forall_mem_cons.mpr ⟨e2, List.forall_mem_cons.mpr ⟨e3, List.forall_mem_cons.mpr ⟨e4, List.forall_mem_cons.mpr ⟨e5, List.forall_mem_cons.mpr ⟨e6, List.forall_mem_cons.mpr ⟨e7, List.forall_mem_cons.mpr ⟨e8, List.forall_mem_nil _⟩⟩⟩⟩⟩⟩⟩⟩)
  clear F3 e1 e2 e3 e4 e5 e6 e7 e8
  simp only [kstB] at F6
  have hst := stp2_is hP (show k1 + k2 < 99 by omega)
  have hfi := fin2_is (c := k2) (s := k1) hP (by omega) (by omega)
  have hf2 := fst2_is hP (show k2 + 1 < 90 by omega)
  have hlw' : (wr P (k1 + (k2 + 1))).length ≤ 100 := hst.len'
  have hlo' : ∀ c ∈ wr P (k1 + (k2 + 1)), c < 128 := hst.lo'
  have hl4 : lev (wr P (k1 + (k2 + 1)) ++ [101]) ([101] ++ wr P (k1 + (k2 + 1))) 4 = 4 := hst.l4
  dsimp only
  (repeat' ((fail_if_success first | (with_reducible show wpAny _ _ (call (Value.builtin "len") _) _ _ _) | (with_reducible show wpAny _ _ (binaryOp .Pow _ _) _ _ _) | (with_reducible show wpAny _ _ (binaryOp .FloorDiv _ _) _ _ _) | (with_reducible show wpAny _ _ (exec (Stmt.Assign [Expr.Name "due" _] _ _) _) _ _ _) | (with_reducible show wpAny _ _ (binaryOp .Add (Value.ref _) (Value.ref _)) _ _ _) | (with_reducible show wpAny _ _ (exec (Stmt.While _ _ _ _) _) _ _ _) | (with_reducible show wpAny _ _ (exec (Stmt.For _ _ _ _ _) _) _ _ _) | (with_reducible show wpAny _ _ (pyIter _) _ _ _) | (with_reducible show wpAny _ _ (call (Value.ref _) _) _ _ _) | (with_reducible show InvEndN _ _ _ _ _ _ _) | (with_reducible show Mid _ _ _ _ _ _) | (with_reducible show WhileStep _ _ _ _ _ _ _) | (with_reducible show wpAny _ _ (eval (Expr.ListComp _ _ _ _) _) _ _ _) | (with_reducible show wpAny _ _ (call (Value.builtin "sorted") _) _ _ _) | (with_reducible show wpAny _ _ (subscriptTail (Expr.Name "turns" _) _ (Value.ref _) (Value.int _ _)) _ _ _) | (with_reducible show wpAny _ _ (call (Value.builtin "str.count") _) _ _ _) | (with_reducible show wpAny _ _ (binaryOp .Add (Value.str _ _) (Value.str _ _)) _ _ _) | (with_reducible show wpAny _ _ (binaryOp .Mult (Value.str _ _) (Value.int _ _)) _ _ _) | (with_reducible show wpAny _ _ (subscriptTail _ _ (Value.str _ _) (Value.int _ _)) _ _ _) | (with_reducible show Turn _ _ _ _ _ _ _ _) | (with_reducible show wpAny _ _ (subscriptTail (Expr.List _ _) _ _ _) _ _ _) | (with_reducible show LCg.CompSrc _ _ _ _ _ _ _ _ _ _ _ _ _ _) | (with_reducible show LCg.CompEnd _ _ _ _ _ _ _ _ _ _ _ _ _ _)); ((first | (k_unfold; (try dsimp only)) | (k_end; wrow_close) | walk1 | (dsimp only; walk1) | (leave1; try dsimp only) | fail "no step")); (try dsimp only)))
  rw [show (k1 : Int) + ((k2 + 1 : Nat) : Int) = ((k1 + (k2 + 1) : Nat) : Int) by omega]
  k_dflt (refine ctrF_law (tl := tl3) (keep := [(D, listOf [Value.str (tx (List.replicate P 97)) (pk 1), .str (tx [65]) (pk 2), .str (tx (List.replicate P 65)) (pk 3), .str (tx [98]) (pk 4), .str (tx (List.replicate P 98)) (pk 5), .str (tx [66]) (pk 6), .str (tx (List.replicate P 66)) (pk 7), .str (tx [99]) (pk 8), .str (tx (List.replicate P 99)) (pk 9), .str (tx [67]) (pk 10), .str (tx (List.replicate P 67)) (pk 11), .str (tx [100]) (pk 12)].toArray c)]) (lf_call _ _ _ _ _ _ tl3 hTb3 (k1 + (k2 + 1)) P _ _ (by omega) (by omega) (by omega)) (And.intro (by assumption) (by assumption)) B1 F6 X1 N3 T1 rfl ?r1 ?r2 hTb3 ?d1 ?d2 ?d3 ?_)
  case d1 => exact fun q hq => .tail _ hq
  case d2 => exact List.forall_mem_cons.mpr ⟨.head _, List.forall_mem_nil _⟩
  case d3 => exact List.forall_mem_cons.mpr ⟨.inl (fun _ h => nomatch h), List.forall_mem_nil _⟩
  case r1 => decide
  case r2 => decide
  rintro v tl6 h6 tk6 ⟨t4, rfl⟩ hTb6 hfr6 F7 N7
  simp only [List.cons_append, List.nil_append] at N7
  clear F6 N3 hTb3 hfr6
  dsimp only
  (repeat' ((fail_if_success first | (with_reducible show wpAny _ _ (call (Value.builtin "len") _) _ _ _) | (with_reducible show wpAny _ _ (binaryOp .Pow _ _) _ _ _) | (with_reducible show wpAny _ _ (binaryOp .FloorDiv _ _) _ _ _) | (with_reducible show wpAny _ _ (exec (Stmt.Assign [Expr.Name "due" _] _ _) _) _ _ _) | (with_reducible show wpAny _ _ (binaryOp .Add (Value.ref _) (Value.ref _)) _ _ _) | (with_reducible show wpAny _ _ (exec (Stmt.While _ _ _ _) _) _ _ _) | (with_reducible show wpAny _ _ (exec (Stmt.For _ _ _ _ _) _) _ _ _) | (with_reducible show wpAny _ _ (pyIter _) _ _ _) | (with_reducible show wpAny _ _ (call (Value.ref _) _) _ _ _) | (with_reducible show InvEndN _ _ _ _ _ _ _) | (with_reducible show Mid _ _ _ _ _ _) | (with_reducible show WhileStep _ _ _ _ _ _ _) | (with_reducible show wpAny _ _ (eval (Expr.ListComp _ _ _ _) _) _ _ _) | (with_reducible show wpAny _ _ (call (Value.builtin "sorted") _) _ _ _) | (with_reducible show wpAny _ _ (subscriptTail (Expr.Name "turns" _) _ (Value.ref _) (Value.int _ _)) _ _ _) | (with_reducible show wpAny _ _ (call (Value.builtin "str.count") _) _ _ _) | (with_reducible show wpAny _ _ (binaryOp .Add (Value.str _ _) (Value.str _ _)) _ _ _) | (with_reducible show wpAny _ _ (binaryOp .Mult (Value.str _ _) (Value.int _ _)) _ _ _) | (with_reducible show wpAny _ _ (subscriptTail _ _ (Value.str _ _) (Value.int _ _)) _ _ _) | (with_reducible show Turn _ _ _ _ _ _ _ _) | (with_reducible show wpAny _ _ (subscriptTail (Expr.List _ _) _ _ _) _ _ _) | (with_reducible show LCg.CompSrc _ _ _ _ _ _ _ _ _ _ _ _ _ _) | (with_reducible show LCg.CompEnd _ _ _ _ _ _ _ _ _ _ _ _ _ _)); ((first | (k_unfold; (try dsimp only)) | (k_end; wrow_close) | walk1 | (dsimp only; walk1) | (leave1; try dsimp only) | fail "no step")); (try dsimp only)))
  · rename (tx _ != tx _) = true => hx
    exfalso
    simp at hx
  k_dflt (refine add_tx (y := [101]) (by omega) (by decide) ?_)
  intro t8 k8
  (repeat' ((fail_if_success first | (with_reducible show wpAny _ _ (call (Value.builtin "len") _) _ _ _) | (with_reducible show wpAny _ _ (binaryOp .Pow _ _) _ _ _) | (with_reducible show wpAny _ _ (binaryOp .FloorDiv _ _) _ _ _) | (with_reducible show wpAny _ _ (exec (Stmt.Assign [Expr.Name "due" _] _ _) _) _ _ _) | (with_reducible show wpAny _ _ (binaryOp .Add (Value.ref _) (Value.ref _)) _ _ _) | (with_reducible show wpAny _ _ (exec (Stmt.While _ _ _ _) _) _ _ _) | (with_reducible show wpAny _ _ (exec (Stmt.For _ _ _ _ _) _) _ _ _) | (with_reducible show wpAny _ _ (pyIter _) _ _ _) | (with_reducible show wpAny _ _ (call (Value.ref _) _) _ _ _) | (with_reducible show InvEndN _ _ _ _ _ _ _) | (with_reducible show Mid _ _ _ _ _ _) | (with_reducible show WhileStep _ _ _ _ _ _ _) | (with_reducible show wpAny _ _ (eval (Expr.ListComp _ _ _ _) _) _ _ _) | (with_reducible show wpAny _ _ (call (Value.builtin "sorted") _) _ _ _) | (with_reducible show wpAny _ _ (subscriptTail (Expr.Name "turns" _) _ (Value.ref _) (Value.int _ _)) _ _ _) | (with_reducible show wpAny _ _ (call (Value.builtin "str.count") _) _ _ _) | (with_reducible show wpAny _ _ (binaryOp .Add (Value.str _ _) (Value.str _ _)) _ _ _) | (with_reducible show wpAny _ _ (binaryOp .Mult (Value.str _ _) (Value.int _ _)) _ _ _) | (with_reducible show wpAny _ _ (subscriptTail _ _ (Value.str _ _) (Value.int _ _)) _ _ _) | (with_reducible show Turn _ _ _ _ _ _ _ _) | (with_reducible show wpAny _ _ (subscriptTail (Expr.List _ _) _ _ _) _ _ _) | (with_reducible show LCg.CompSrc _ _ _ _ _ _ _ _ _ _ _ _ _ _) | (with_reducible show LCg.CompEnd _ _ _ _ _ _ _ _ _ _ _ _ _ _)); ((first | (k_unfold; (try dsimp only)) | (k_end; wrow_close) | walk1 | (dsimp only; walk1) | (leave1; try dsimp only) | fail "no step")); (try dsimp only)))
  k_dflt (refine add_tx (x := [101]) (by decide) (by omega) ?_)
  intro t9 k9
  (repeat' ((fail_if_success first | (with_reducible show wpAny _ _ (call (Value.builtin "len") _) _ _ _) | (with_reducible show wpAny _ _ (binaryOp .Pow _ _) _ _ _) | (with_reducible show wpAny _ _ (binaryOp .FloorDiv _ _) _ _ _) | (with_reducible show wpAny _ _ (exec (Stmt.Assign [Expr.Name "due" _] _ _) _) _ _ _) | (with_reducible show wpAny _ _ (binaryOp .Add (Value.ref _) (Value.ref _)) _ _ _) | (with_reducible show wpAny _ _ (exec (Stmt.While _ _ _ _) _) _ _ _) | (with_reducible show wpAny _ _ (exec (Stmt.For _ _ _ _ _) _) _ _ _) | (with_reducible show wpAny _ _ (pyIter _) _ _ _) | (with_reducible show wpAny _ _ (call (Value.ref _) _) _ _ _) | (with_reducible show InvEndN _ _ _ _ _ _ _) | (with_reducible show Mid _ _ _ _ _ _) | (with_reducible show WhileStep _ _ _ _ _ _ _) | (with_reducible show wpAny _ _ (eval (Expr.ListComp _ _ _ _) _) _ _ _) | (with_reducible show wpAny _ _ (call (Value.builtin "sorted") _) _ _ _) | (with_reducible show wpAny _ _ (subscriptTail (Expr.Name "turns" _) _ (Value.ref _) (Value.int _ _)) _ _ _) | (with_reducible show wpAny _ _ (call (Value.builtin "str.count") _) _ _ _) | (with_reducible show wpAny _ _ (binaryOp .Add (Value.str _ _) (Value.str _ _)) _ _ _) | (with_reducible show wpAny _ _ (binaryOp .Mult (Value.str _ _) (Value.int _ _)) _ _ _) | (with_reducible show wpAny _ _ (subscriptTail _ _ (Value.str _ _) (Value.int _ _)) _ _ _) | (with_reducible show Turn _ _ _ _ _ _ _ _) | (with_reducible show wpAny _ _ (subscriptTail (Expr.List _ _) _ _ _) _ _ _) | (with_reducible show LCg.CompSrc _ _ _ _ _ _ _ _ _ _ _ _ _ _) | (with_reducible show LCg.CompEnd _ _ _ _ _ _ _ _ _ _ _ _ _ _)); ((first | (k_unfold; (try dsimp only)) | (k_end; wrow_close) | walk1 | (dsimp only; walk1) | (leave1; try dsimp only) | fail "no step")); (try dsimp only)))
  rename Fr _ _ _ _ => F9
  rename News _ _ _ _ => N9
  k_dflt (refine ctr_use (lev_call _ _ _ _ _ _ _ (wr P (k1 + (k2 + 1)) ++ [101]) ([101] ++ wr P (k1 + (k2 + 1))) 4 _ _ _ (by rw [List.length_append]; simp only [List.length_cons, List.length_nil]; omega) (by rw [List.length_append]; simp only [List.length_cons, List.length_nil]; omega) (fun c hc => (List.mem_append.mp hc).elim (hlo' c) (fun h => by rw [List.mem_singleton.mp h]; decide)) (fun c hc => (List.mem_append.mp hc).elim (fun h => by rw [List.mem_singleton.mp h]; decide) (hlo' c))) B1 F9 X1 N9 T1 rfl ?r1 ?r2 ?_)
  case r1 => decide
  case r2 => decide
  rw [hl4]
  clear F9 N9
  rintro v n7 h7 tk7 F7 N7 ⟨hn7, t14, rfl⟩
  rw [hn7] at N7
  clear hn7
  dsimp only
  (repeat' ((fail_if_success first | (with_reducible show wpAny _ _ (call (Value.builtin "len") _) _ _ _) | (with_reducible show wpAny _ _ (binaryOp .Pow _ _) _ _ _) | (with_reducible show wpAny _ _ (binaryOp .FloorDiv _ _) _ _ _) | (with_reducible show wpAny _ _ (exec (Stmt.Assign [Expr.Name "due" _] _ _) _) _ _ _) | (with_reducible show wpAny _ _ (binaryOp .Add (Value.ref _) (Value.ref _)) _ _ _) | (with_reducible show wpAny _ _ (exec (Stmt.While _ _ _ _) _) _ _ _) | (with_reducible show wpAny _ _ (exec (Stmt.For _ _ _ _ _) _) _ _ _) | (with_reducible show wpAny _ _ (pyIter _) _ _ _) | (with_reducible show wpAny _ _ (call (Value.ref _) _) _ _ _) | (with_reducible show InvEndN _ _ _ _ _ _ _) | (with_reducible show Mid _ _ _ _ _ _) | (with_reducible show WhileStep _ _ _ _ _ _ _) | (with_reducible show wpAny _ _ (eval (Expr.ListComp _ _ _ _) _) _ _ _) | (with_reducible show wpAny _ _ (call (Value.builtin "sorted") _) _ _ _) | (with_reducible show wpAny _ _ (subscriptTail (Expr.Name "turns" _) _ (Value.ref _) (Value.int _ _)) _ _ _) | (with_reducible show wpAny _ _ (call (Value.builtin "str.count") _) _ _ _) | (with_reducible show wpAny _ _ (binaryOp .Add (Value.str _ _) (Value.str _ _)) _ _ _) | (with_reducible show wpAny _ _ (binaryOp .Mult (Value.str _ _) (Value.int _ _)) _ _ _) | (with_reducible show wpAny _ _ (subscriptTail _ _ (Value.str _ _) (Value.int _ _)) _ _ _) | (with_reducible show Turn _ _ _ _ _ _ _ _) | (with_reducible show wpAny _ _ (subscriptTail (Expr.List _ _) _ _ _) _ _ _) | (with_reducible show LCg.CompSrc _ _ _ _ _ _ _ _ _ _ _ _ _ _) | (with_reducible show LCg.CompEnd _ _ _ _ _ _ _ _ _ _ _ _ _ _)); ((first | (k_unfold; (try dsimp only)) | (k_end; wrow_close) | walk1 | (dsimp only; walk1) | (leave1; try dsimp only) | fail "no step")); (try dsimp only)))
  have hlA := (stp2_is hP (show k1 < 99 by omega)).len
  have hlB := (stp2_is hP (show k2 + 1 < 99 by omega)).len
  have hmor : mor P k1 (k2 + 1) = (wr P k1).length + (wr P (k2 + 1)).length - (wr P (k1 + (k2 + 1))).length := rfl
  have hle := hfi.le
  obtain ⟨A1, hA1⟩ : ∃ x, (wr P k1).length = x := ⟨_, rfl⟩
  obtain ⟨A2, hA2⟩ : ∃ x, (wr P (k2 + 1)).length = x := ⟨_, rfl⟩
  obtain ⟨A3, hA3⟩ : ∃ x, (wr P (k1 + (k2 + 1))).length = x := ⟨_, rfl⟩
  rw [hA1, hA2, hA3] at hmor hle
  rw [hA1] at hlA
  rw [hA2] at hlB
  rw [hA3] at hlw'
  refine len_tx hA1 (by omega) ?_
  dsimp only
  (repeat' ((fail_if_success first | (with_reducible show wpAny _ _ (call (Value.builtin "len") _) _ _ _) | (with_reducible show wpAny _ _ (binaryOp .Pow _ _) _ _ _) | (with_reducible show wpAny _ _ (binaryOp .FloorDiv _ _) _ _ _) | (with_reducible show wpAny _ _ (exec (Stmt.Assign [Expr.Name "due" _] _ _) _) _ _ _) | (with_reducible show wpAny _ _ (binaryOp .Add (Value.ref _) (Value.ref _)) _ _ _) | (with_reducible show wpAny _ _ (exec (Stmt.While _ _ _ _) _) _ _ _) | (with_reducible show wpAny _ _ (exec (Stmt.For _ _ _ _ _) _) _ _ _) | (with_reducible show wpAny _ _ (pyIter _) _ _ _) | (with_reducible show wpAny _ _ (call (Value.ref _) _) _ _ _) | (with_reducible show InvEndN _ _ _ _ _ _ _) | (with_reducible show Mid _ _ _ _ _ _) | (with_reducible show WhileStep _ _ _ _ _ _ _) | (with_reducible show wpAny _ _ (eval (Expr.ListComp _ _ _ _) _) _ _ _) | (with_reducible show wpAny _ _ (call (Value.builtin "sorted") _) _ _ _) | (with_reducible show wpAny _ _ (subscriptTail (Expr.Name "turns" _) _ (Value.ref _) (Value.int _ _)) _ _ _) | (with_reducible show wpAny _ _ (call (Value.builtin "str.count") _) _ _ _) | (with_reducible show wpAny _ _ (binaryOp .Add (Value.str _ _) (Value.str _ _)) _ _ _) | (with_reducible show wpAny _ _ (binaryOp .Mult (Value.str _ _) (Value.int _ _)) _ _ _) | (with_reducible show wpAny _ _ (subscriptTail _ _ (Value.str _ _) (Value.int _ _)) _ _ _) | (with_reducible show Turn _ _ _ _ _ _ _ _) | (with_reducible show wpAny _ _ (subscriptTail (Expr.List _ _) _ _ _) _ _ _) | (with_reducible show LCg.CompSrc _ _ _ _ _ _ _ _ _ _ _ _ _ _) | (with_reducible show LCg.CompEnd _ _ _ _ _ _ _ _ _ _ _ _ _ _)); ((first | (k_unfold; (try dsimp only)) | (k_end; wrow_close) | walk1 | (dsimp only; walk1) | (leave1; try dsimp only) | fail "no step")); (try dsimp only)))
  k_dflt (refine mul_tx (x := [97]) (by decide) (by omega) ?_)
  intro t7 k7
  rw [rep1]
  (repeat' ((fail_if_success first | (with_reducible show wpAny _ _ (call (Value.builtin "len") _) _ _ _) | (with_reducible show wpAny _ _ (binaryOp .Pow _ _) _ _ _) | (with_reducible show wpAny _ _ (binaryOp .FloorDiv _ _) _ _ _) | (with_reducible show wpAny _ _ (exec (Stmt.Assign [Expr.Name "due" _] _ _) _) _ _ _) | (with_reducible show wpAny _ _ (binaryOp .Add (Value.ref _) (Value.ref _)) _ _ _) | (with_reducible show wpAny _ _ (exec (Stmt.While _ _ _ _) _) _ _ _) | (with_reducible show wpAny _ _ (exec (Stmt.For _ _ _ _ _) _) _ _ _) | (with_reducible show wpAny _ _ (pyIter _) _ _ _) | (with_reducible show wpAny _ _ (call (Value.ref _) _) _ _ _) | (with_reducible show InvEndN _ _ _ _ _ _ _) | (with_reducible show Mid _ _ _ _ _ _) | (with_reducible show WhileStep _ _ _ _ _ _ _) | (with_reducible show wpAny _ _ (eval (Expr.ListComp _ _ _ _) _) _ _ _) | (with_reducible show wpAny _ _ (call (Value.builtin "sorted") _) _ _ _) | (with_reducible show wpAny _ _ (subscriptTail (Expr.Name "turns" _) _ (Value.ref _) (Value.int _ _)) _ _ _) | (with_reducible show wpAny _ _ (call (Value.builtin "str.count") _) _ _ _) | (with_reducible show wpAny _ _ (binaryOp .Add (Value.str _ _) (Value.str _ _)) _ _ _) | (with_reducible show wpAny _ _ (binaryOp .Mult (Value.str _ _) (Value.int _ _)) _ _ _) | (with_reducible show wpAny _ _ (subscriptTail _ _ (Value.str _ _) (Value.int _ _)) _ _ _) | (with_reducible show Turn _ _ _ _ _ _ _ _) | (with_reducible show wpAny _ _ (subscriptTail (Expr.List _ _) _ _ _) _ _ _) | (with_reducible show LCg.CompSrc _ _ _ _ _ _ _ _ _ _ _ _ _ _) | (with_reducible show LCg.CompEnd _ _ _ _ _ _ _ _ _ _ _ _ _ _)); ((first | (k_unfold; (try dsimp only)) | (k_end; wrow_close) | walk1 | (dsimp only; walk1) | (leave1; try dsimp only) | fail "no step")); (try dsimp only)))
  rename Fr _ _ _ _ => F9
  rename News _ _ _ _ => N9
  k_dflt (refine ctr_use (rep_call _ _ _ _ _ _ _ (List.replicate (k2 + 1) 97) _ (List.replicate P 97) [65] (List.replicate P 65) [98] (List.replicate P 98) [66] (List.replicate P 66) [99] (List.replicate P 99) [67] (List.replicate P 67) [100] _ _ _ _ _ _ _ _ _ _ _ _ hf2.1) B1 F9 X1 N9 T1 rfl ?r1 ?r2 ?_)
  case r1 => decide
  case r2 => decide
  clear F9 N9
  rintro v n6 h6 tk6 F6 N6 ⟨hn6, t9, rfl⟩
  rw [hn6] at N6
  clear hn6
  rw [show reps [(List.replicate P 97, [65]), (List.replicate P 65, [98]), (List.replicate P 98, [66]), (List.replicate P 66, [99]), (List.replicate P 99, [67]), (List.replicate P 67, [100])] (List.replicate (k2 + 1) 97) = wr P (k2 + 1) from hf2.2]
  dsimp only
  (repeat' ((fail_if_success first | (with_reducible show wpAny _ _ (call (Value.builtin "len") _) _ _ _) | (with_reducible show wpAny _ _ (binaryOp .Pow _ _) _ _ _) | (with_reducible show wpAny _ _ (binaryOp .FloorDiv _ _) _ _ _) | (with_reducible show wpAny _ _ (exec (Stmt.Assign [Expr.Name "due" _] _ _) _) _ _ _) | (with_reducible show wpAny _ _ (binaryOp .Add (Value.ref _) (Value.ref _)) _ _ _) | (with_reducible show wpAny _ _ (exec (Stmt.While _ _ _ _) _) _ _ _) | (with_reducible show wpAny _ _ (exec (Stmt.For _ _ _ _ _) _) _ _ _) | (with_reducible show wpAny _ _ (pyIter _) _ _ _) | (with_reducible show wpAny _ _ (call (Value.ref _) _) _ _ _) | (with_reducible show InvEndN _ _ _ _ _ _ _) | (with_reducible show Mid _ _ _ _ _ _) | (with_reducible show WhileStep _ _ _ _ _ _ _) | (with_reducible show wpAny _ _ (eval (Expr.ListComp _ _ _ _) _) _ _ _) | (with_reducible show wpAny _ _ (call (Value.builtin "sorted") _) _ _ _) | (with_reducible show wpAny _ _ (subscriptTail (Expr.Name "turns" _) _ (Value.ref _) (Value.int _ _)) _ _ _) | (with_reducible show wpAny _ _ (call (Value.builtin "str.count") _) _ _ _) | (with_reducible show wpAny _ _ (binaryOp .Add (Value.str _ _) (Value.str _ _)) _ _ _) | (with_reducible show wpAny _ _ (binaryOp .Mult (Value.str _ _) (Value.int _ _)) _ _ _) | (with_reducible show wpAny _ _ (subscriptTail _ _ (Value.str _ _) (Value.int _ _)) _ _ _) | (with_reducible show Turn _ _ _ _ _ _ _ _) | (with_reducible show wpAny _ _ (subscriptTail (Expr.List _ _) _ _ _) _ _ _) | (with_reducible show LCg.CompSrc _ _ _ _ _ _ _ _ _ _ _ _ _ _) | (with_reducible show LCg.CompEnd _ _ _ _ _ _ _ _ _ _ _ _ _ _)); ((first | (k_unfold; (try dsimp only)) | (k_end; wrow_close) | walk1 | (dsimp only; walk1) | (leave1; try dsimp only) | fail "no step")); (try dsimp only)))
  refine len_tx hA2 (by omega) ?_
  dsimp only
  (repeat' ((fail_if_success first | (with_reducible show wpAny _ _ (call (Value.builtin "len") _) _ _ _) | (with_reducible show wpAny _ _ (binaryOp .Pow _ _) _ _ _) | (with_reducible show wpAny _ _ (binaryOp .FloorDiv _ _) _ _ _) | (with_reducible show wpAny _ _ (exec (Stmt.Assign [Expr.Name "due" _] _ _) _) _ _ _) | (with_reducible show wpAny _ _ (binaryOp .Add (Value.ref _) (Value.ref _)) _ _ _) | (with_reducible show wpAny _ _ (exec (Stmt.While _ _ _ _) _) _ _ _) | (with_reducible show wpAny _ _ (exec (Stmt.For _ _ _ _ _) _) _ _ _) | (with_reducible show wpAny _ _ (pyIter _) _ _ _) | (with_reducible show wpAny _ _ (call (Value.ref _) _) _ _ _) | (with_reducible show InvEndN _ _ _ _ _ _ _) | (with_reducible show Mid _ _ _ _ _ _) | (with_reducible show WhileStep _ _ _ _ _ _ _) | (with_reducible show wpAny _ _ (eval (Expr.ListComp _ _ _ _) _) _ _ _) | (with_reducible show wpAny _ _ (call (Value.builtin "sorted") _) _ _ _) | (with_reducible show wpAny _ _ (subscriptTail (Expr.Name "turns" _) _ (Value.ref _) (Value.int _ _)) _ _ _) | (with_reducible show wpAny _ _ (call (Value.builtin "str.count") _) _ _ _) | (with_reducible show wpAny _ _ (binaryOp .Add (Value.str _ _) (Value.str _ _)) _ _ _) | (with_reducible show wpAny _ _ (binaryOp .Mult (Value.str _ _) (Value.int _ _)) _ _ _) | (with_reducible show wpAny _ _ (subscriptTail _ _ (Value.str _ _) (Value.int _ _)) _ _ _) | (with_reducible show Turn _ _ _ _ _ _ _ _) | (with_reducible show wpAny _ _ (subscriptTail (Expr.List _ _) _ _ _) _ _ _) | (with_reducible show LCg.CompSrc _ _ _ _ _ _ _ _ _ _ _ _ _ _) | (with_reducible show LCg.CompEnd _ _ _ _ _ _ _ _ _ _ _ _ _ _)); ((first | (k_unfold; (try dsimp only)) | (k_end; wrow_close) | walk1 | (dsimp only; walk1) | (leave1; try dsimp only) | fail "no step")); (try dsimp only)))
  refine len_tx hA3 (by omega) ?_
  dsimp only
  iterate 3 (((first | (k_unfold; (try dsimp only)) | (k_end; wrow_close) | walk1 | (dsimp only; walk1) | (leave1; try dsimp only) | fail "no step")); try dsimp only)
  rename Fr _ _ _ _ => F9
  rename News _ _ _ _ => N9
  obtain ⟨R, hR⟩ : ∃ x, mor P k1 (k2 + 1) = x := ⟨_, rfl⟩
  have hr0 := hfi.r0
  have hpw := hfi.pw
  have hdv := hfi.dv
  have hd1 := hfi.d1
  have hd2 := hfi.d2
  rw [hR] at hr0 hpw hd1 hd2 hmor
  rw [show (A1 : Int) + (A2 : Int) - (A3 : Int) = (R : Int) by omega] at F9
  have hp1 : (P : Int) - 1 = ((P - 1 : Nat) : Int) := by omega
  have hfm : (R : Int).fmod ((P : Int) - 1) = 0 := by rw [hp1, nat_fmod, hr0]; rfl
  have hfd : (R : Int).fdiv ((P : Int) - 1) = ((R / (P - 1) : Nat) : Int) := by rw [hp1, nat_fdiv]
  have hR2 : ((P : Int) - 1).natAbs.log2 < 9000 := by rw [hp1]; exact log_ok (by omega)
  clear hR hr0 hmor hle hlA hlB hlw' hA1 hA2 hA3 hl4 hlo' hst hf2 hfi hp1
  generalize R / (P - 1) = W at *
  (repeat' ((fail_if_success first | (with_reducible show wpAny _ _ (call (Value.builtin "len") _) _ _ _) | (with_reducible show wpAny _ _ (binaryOp .Pow _ _) _ _ _) | (with_reducible show wpAny _ _ (binaryOp .FloorDiv _ _) _ _ _) | (with_reducible show wpAny _ _ (exec (Stmt.Assign [Expr.Name "due" _] _ _) _) _ _ _) | (with_reducible show wpAny _ _ (binaryOp .Add (Value.ref _) (Value.ref _)) _ _ _) | (with_reducible show wpAny _ _ (exec (Stmt.While _ _ _ _) _) _ _ _) | (with_reducible show wpAny _ _ (exec (Stmt.For _ _ _ _ _) _) _ _ _) | (with_reducible show wpAny _ _ (pyIter _) _ _ _) | (with_reducible show wpAny _ _ (call (Value.ref _) _) _ _ _) | (with_reducible show InvEndN _ _ _ _ _ _ _) | (with_reducible show Mid _ _ _ _ _ _) | (with_reducible show WhileStep _ _ _ _ _ _ _) | (with_reducible show wpAny _ _ (eval (Expr.ListComp _ _ _ _) _) _ _ _) | (with_reducible show wpAny _ _ (call (Value.builtin "sorted") _) _ _ _) | (with_reducible show wpAny _ _ (subscriptTail (Expr.Name "turns" _) _ (Value.ref _) (Value.int _ _)) _ _ _) | (with_reducible show wpAny _ _ (call (Value.builtin "str.count") _) _ _ _) | (with_reducible show wpAny _ _ (binaryOp .Add (Value.str _ _) (Value.str _ _)) _ _ _) | (with_reducible show wpAny _ _ (binaryOp .Mult (Value.str _ _) (Value.int _ _)) _ _ _) | (with_reducible show wpAny _ _ (subscriptTail _ _ (Value.str _ _) (Value.int _ _)) _ _ _) | (with_reducible show Turn _ _ _ _ _ _ _ _) | (with_reducible show wpAny _ _ (subscriptTail (Expr.List _ _) _ _ _) _ _ _) | (with_reducible show LCg.CompSrc _ _ _ _ _ _ _ _ _ _ _ _ _ _) | (with_reducible show LCg.CompEnd _ _ _ _ _ _ _ _ _ _ _ _ _ _)); ((first | (k_unfold; (try dsimp only)) | (k_end; wrow_close) | walk1 | (dsimp only; walk1) | (leave1; try dsimp only) | fail "no step")); (try dsimp only)))
  · exfalso
    first | omega | (rename ¬ _ = _ => hx; exact hx hfm)
  refine floordiv_int (by omega) ?_ (Or.inl (PyProof.noPylong_of_log2 hR2))
  rw [hfd]
  clear hfd hfm hR2
  dsimp only
  (repeat' ((fail_if_success first | (with_reducible show wpAny _ _ (call (Value.builtin "len") _) _ _ _) | (with_reducible show wpAny _ _ (binaryOp .Pow _ _) _ _ _) | (with_reducible show wpAny _ _ (binaryOp .FloorDiv _ _) _ _ _) | (with_reducible show wpAny _ _ (exec (Stmt.Assign [Expr.Name "due" _] _ _) _) _ _ _) | (with_reducible show wpAny _ _ (binaryOp .Add (Value.ref _) (Value.ref _)) _ _ _) | (with_reducible show wpAny _ _ (exec (Stmt.While _ _ _ _) _) _ _ _) | (with_reducible show wpAny _ _ (exec (Stmt.For _ _ _ _ _) _) _ _ _) | (with_reducible show wpAny _ _ (pyIter _) _ _ _) | (with_reducible show wpAny _ _ (call (Value.ref _) _) _ _ _) | (with_reducible show InvEndN _ _ _ _ _ _ _) | (with_reducible show Mid _ _ _ _ _ _) | (with_reducible show WhileStep _ _ _ _ _ _ _) | (with_reducible show wpAny _ _ (eval (Expr.ListComp _ _ _ _) _) _ _ _) | (with_reducible show wpAny _ _ (call (Value.builtin "sorted") _) _ _ _) | (with_reducible show wpAny _ _ (subscriptTail (Expr.Name "turns" _) _ (Value.ref _) (Value.int _ _)) _ _ _) | (with_reducible show wpAny _ _ (call (Value.builtin "str.count") _) _ _ _) | (with_reducible show wpAny _ _ (binaryOp .Add (Value.str _ _) (Value.str _ _)) _ _ _) | (with_reducible show wpAny _ _ (binaryOp .Mult (Value.str _ _) (Value.int _ _)) _ _ _) | (with_reducible show wpAny _ _ (subscriptTail _ _ (Value.str _ _) (Value.int _ _)) _ _ _) | (with_reducible show Turn _ _ _ _ _ _ _ _) | (with_reducible show wpAny _ _ (subscriptTail (Expr.List _ _) _ _ _) _ _ _) | (with_reducible show LCg.CompSrc _ _ _ _ _ _ _ _ _ _ _ _ _ _) | (with_reducible show LCg.CompEnd _ _ _ _ _ _ _ _ _ _ _ _ _ _)); ((first | (k_unfold; (try dsimp only)) | (k_end; wrow_close) | walk1 | (dsimp only; walk1) | (leave1; try dsimp only) | fail "no step")); (try dsimp only)))
  refine pow_PW hP hpw ?_
  intro t15 k15
  dsimp only
  have hU : prd k1 (k2 + 1) ≤ 100 ^ 10 := prd_big (by omega) (by omega)
  have hLw : prd 0 (k2 + 1) ≤ 100 ^ 10 := prd_big (by omega) (by omega)
  have hL1 := prd_pos 0 (k2 + 1)
  have hPW : P ^ W ≤ 7 ^ 20 := Nat.le_trans (Nat.pow_le_pow_left (show P ≤ 7 by omega) W) (Nat.pow_le_pow_right (by decide) hpw)
  have hPW1 : 1 ≤ P ^ W := Nat.pow_pos (by omega)
  generalize prd k1 (k2 + 1) = U at *
  generalize prd 0 (k2 + 1) = Lw at *
  generalize P ^ W = V at *
  (repeat' ((fail_if_success first | (with_reducible show wpAny _ _ (call (Value.builtin "len") _) _ _ _) | (with_reducible show wpAny _ _ (binaryOp .Pow _ _) _ _ _) | (with_reducible show wpAny _ _ (binaryOp .FloorDiv _ _) _ _ _) | (with_reducible show wpAny _ _ (exec (Stmt.Assign [Expr.Name "due" _] _ _) _) _ _ _) | (with_reducible show wpAny _ _ (binaryOp .Add (Value.ref _) (Value.ref _)) _ _ _) | (with_reducible show wpAny _ _ (exec (Stmt.While _ _ _ _) _) _ _ _) | (with_reducible show wpAny _ _ (exec (Stmt.For _ _ _ _ _) _) _ _ _) | (with_reducible show wpAny _ _ (pyIter _) _ _ _) | (with_reducible show wpAny _ _ (call (Value.ref _) _) _ _ _) | (with_reducible show InvEndN _ _ _ _ _ _ _) | (with_reducible show Mid _ _ _ _ _ _) | (with_reducible show WhileStep _ _ _ _ _ _ _) | (with_reducible show wpAny _ _ (eval (Expr.ListComp _ _ _ _) _) _ _ _) | (with_reducible show wpAny _ _ (call (Value.builtin "sorted") _) _ _ _) | (with_reducible show wpAny _ _ (subscriptTail (Expr.Name "turns" _) _ (Value.ref _) (Value.int _ _)) _ _ _) | (with_reducible show wpAny _ _ (call (Value.builtin "str.count") _) _ _ _) | (with_reducible show wpAny _ _ (binaryOp .Add (Value.str _ _) (Value.str _ _)) _ _ _) | (with_reducible show wpAny _ _ (binaryOp .Mult (Value.str _ _) (Value.int _ _)) _ _ _) | (with_reducible show wpAny _ _ (subscriptTail _ _ (Value.str _ _) (Value.int _ _)) _ _ _) | (with_reducible show Turn _ _ _ _ _ _ _ _) | (with_reducible show wpAny _ _ (subscriptTail (Expr.List _ _) _ _ _) _ _ _) | (with_reducible show LCg.CompSrc _ _ _ _ _ _ _ _ _ _ _ _ _ _) | (with_reducible show LCg.CompEnd _ _ _ _ _ _ _ _ _ _ _ _ _ _)); ((first | (k_unfold; (try dsimp only)) | (k_end; wrow_close) | walk1 | (dsimp only; walk1) | (leave1; try dsimp only) | fail "no step")); (try dsimp only)))
  rename Fr _ _ _ _ => F9
  rename News _ _ _ _ => N9
  k_dflt (refine dm_law (keep := []) (by omega) (Nat.lt_of_le_of_lt (show (U : Int).natAbs ≤ 100 ^ 10 by omega) (by decide +kernel)) (Nat.lt_of_le_of_lt (show (Lw : Int).natAbs ≤ 100 ^ 10 by omega) (by decide +kernel)) (And.intro (by assumption) (by assumption)) B1 F9 X1 N9 T1 rfl ?r1 ?r2 hTb6 ?d1 (fun _ h => nomatch h) (fun _ h => nomatch h) ?_)
  case d1 => exact fun q hq => .tail _ hq
  case r1 => decide
  case r2 => decide
  rintro D5 t5 t6 c5 tl7 h5 tk5 hTb7 hold5 hsz5 hlt5 F5 N5
  rw [nat_fdiv, nat_fmod, hdv] at N5
  clear F9 N9 hold5 hsz5 hlt5
  simp only [List.nil_append] at N5
  dsimp only
  (repeat' ((fail_if_success first | (with_reducible show wpAny _ _ (call (Value.builtin "len") _) _ _ _) | (with_reducible show wpAny _ _ (binaryOp .Pow _ _) _ _ _) | (with_reducible show wpAny _ _ (binaryOp .FloorDiv _ _) _ _ _) | (with_reducible show wpAny _ _ (exec (Stmt.Assign [Expr.Name "due" _] _ _) _) _ _ _) | (with_reducible show wpAny _ _ (binaryOp .Add (Value.ref _) (Value.ref _)) _ _ _) | (with_reducible show wpAny _ _ (exec (Stmt.While _ _ _ _) _) _ _ _) | (with_reducible show wpAny _ _ (exec (Stmt.For _ _ _ _ _) _) _ _ _) | (with_reducible show wpAny _ _ (pyIter _) _ _ _) | (with_reducible show wpAny _ _ (call (Value.ref _) _) _ _ _) | (with_reducible show InvEndN _ _ _ _ _ _ _) | (with_reducible show Mid _ _ _ _ _ _) | (with_reducible show WhileStep _ _ _ _ _ _ _) | (with_reducible show wpAny _ _ (eval (Expr.ListComp _ _ _ _) _) _ _ _) | (with_reducible show wpAny _ _ (call (Value.builtin "sorted") _) _ _ _) | (with_reducible show wpAny _ _ (subscriptTail (Expr.Name "turns" _) _ (Value.ref _) (Value.int _ _)) _ _ _) | (with_reducible show wpAny _ _ (call (Value.builtin "str.count") _) _ _ _) | (with_reducible show wpAny _ _ (binaryOp .Add (Value.str _ _) (Value.str _ _)) _ _ _) | (with_reducible show wpAny _ _ (binaryOp .Mult (Value.str _ _) (Value.int _ _)) _ _ _) | (with_reducible show wpAny _ _ (subscriptTail _ _ (Value.str _ _) (Value.int _ _)) _ _ _) | (with_reducible show Turn _ _ _ _ _ _ _ _) | (with_reducible show wpAny _ _ (subscriptTail (Expr.List _ _) _ _ _) _ _ _) | (with_reducible show LCg.CompSrc _ _ _ _ _ _ _ _ _ _ _ _ _ _) | (with_reducible show LCg.CompEnd _ _ _ _ _ _ _ _ _ _ _ _ _ _)); ((first | (k_unfold; (try dsimp only)) | (k_end; wrow_close) | walk1 | (dsimp only; walk1) | (leave1; try dsimp only) | fail "no step")); (try dsimp only)))
  rename Fr _ _ _ _ => F9
  rename News _ _ _ _ => N9
  have hUL : U / Lw ≤ 100 ^ 10 := Nat.le_trans (Nat.div_le_self _ _) hU
  generalize U / Lw = Y at *
  k_dflt (refine dm_law (keep := []) (by omega) (Nat.lt_of_le_of_lt (show (Y : Int).natAbs ≤ 100 ^ 10 by omega) (by decide +kernel)) (Nat.lt_of_le_of_lt (show (V : Int).natAbs ≤ 7 ^ 20 by omega) (by decide +kernel)) (And.intro (by assumption) (by assumption)) B1 F9 X1 N9 T1 rfl ?r1 ?r2 hTb7 ?d1 (fun _ h => nomatch h) (fun _ h => nomatch h) ?_)
  case d1 => exact fun q hq => .tail _ hq
  case r1 => decide
  case r2 => decide
  rintro D6 t5 t6 c6 tl8 h6 tk6 hTb8 hold6 hsz6 hlt6 F6 N6
  rw [nat_fdiv, nat_fmod, hd1] at N6
  clear F9 N9 hold6 hsz6 hlt6
  simp only [List.nil_append] at N6
  dsimp only
  (repeat' ((fail_if_success first | (with_reducible show wpAny _ _ (call (Value.builtin "len") _) _ _ _) | (with_reducible show wpAny _ _ (binaryOp .Pow _ _) _ _ _) | (with_reducible show wpAny _ _ (binaryOp .FloorDiv _ _) _ _ _) | (with_reducible show wpAny _ _ (exec (Stmt.Assign [Expr.Name "due" _] _ _) _) _ _ _) | (with_reducible show wpAny _ _ (binaryOp .Add (Value.ref _) (Value.ref _)) _ _ _) | (with_reducible show wpAny _ _ (exec (Stmt.While _ _ _ _) _) _ _ _) | (with_reducible show wpAny _ _ (exec (Stmt.For _ _ _ _ _) _) _ _ _) | (with_reducible show wpAny _ _ (pyIter _) _ _ _) | (with_reducible show wpAny _ _ (call (Value.ref _) _) _ _ _) | (with_reducible show InvEndN _ _ _ _ _ _ _) | (with_reducible show Mid _ _ _ _ _ _) | (with_reducible show WhileStep _ _ _ _ _ _ _) | (with_reducible show wpAny _ _ (eval (Expr.ListComp _ _ _ _) _) _ _ _) | (with_reducible show wpAny _ _ (call (Value.builtin "sorted") _) _ _ _) | (with_reducible show wpAny _ _ (subscriptTail (Expr.Name "turns" _) _ (Value.ref _) (Value.int _ _)) _ _ _) | (with_reducible show wpAny _ _ (call (Value.builtin "str.count") _) _ _ _) | (with_reducible show wpAny _ _ (binaryOp .Add (Value.str _ _) (Value.str _ _)) _ _ _) | (with_reducible show wpAny _ _ (binaryOp .Mult (Value.str _ _) (Value.int _ _)) _ _ _) | (with_reducible show wpAny _ _ (subscriptTail _ _ (Value.str _ _) (Value.int _ _)) _ _ _) | (with_reducible show Turn _ _ _ _ _ _ _ _) | (with_reducible show wpAny _ _ (subscriptTail (Expr.List _ _) _ _ _) _ _ _) | (with_reducible show LCg.CompSrc _ _ _ _ _ _ _ _ _ _ _ _ _ _) | (with_reducible show LCg.CompEnd _ _ _ _ _ _ _ _ _ _ _ _ _ _)); ((first | (k_unfold; (try dsimp only)) | (k_end; wrow_close) | walk1 | (dsimp only; walk1) | (leave1; try dsimp only) | fail "no step")); (try dsimp only)))
  rename Fr _ _ _ _ => F9
  rename News _ _ _ _ => N9
  have hVP : V * P ≤ 7 ^ 20 * 7 := Nat.mul_le_mul hPW (by omega)
  have hVP1 : 1 ≤ V * P := Nat.mul_pos hPW1 (by omega)
  rw [show (V : Int) * (P : Int) = ((V * P : Nat) : Int) from (Int.natCast_mul _ _).symm]
  generalize V * P = X at *
  k_dflt (refine dm_law (keep := []) (by omega) (Nat.lt_of_le_of_lt (show (Y : Int).natAbs ≤ 100 ^ 10 by omega) (by decide +kernel)) (Nat.lt_of_le_of_lt (show (X : Int).natAbs ≤ 7 ^ 20 * 7 by omega) (by decide +kernel)) (And.intro (by assumption) (by assumption)) B1 F9 X1 N9 T1 rfl ?r1 ?r2 hTb8 ?d1 (fun _ h => nomatch h) (fun _ h => nomatch h) ?_)
  case d1 => exact fun q hq => .tail _ hq
  case r1 => decide
  case r2 => decide
  rintro D7 t5 t6 c7 tl9 h7 tk7 hTb9 hold7 hsz7 hlt7 F7 N7
  rw [nat_fdiv, nat_fmod] at N7
  clear F9 N9 hold7 hsz7 hlt7
  simp only [List.nil_append] at N7
  obtain ⟨Z, hZ⟩ : ∃ x, Y % X = x := ⟨_, rfl⟩
  rw [hZ] at N7 hd2
  dsimp only
  iterate 4 (((first | (k_unfold; (try dsimp only)) | (k_end; wrow_close) | walk1 | (dsimp only; walk1) | (leave1; try dsimp only) | fail "no step")); try dsimp only)
  have hz : ((Z : Int) != 0) = true := by simp; omega
  rw [hz]
  exact hfin _ _ _ _ _ F7 N7 ⟨rfl, tl9, hTb9, fun q hq => .tail _ hq⟩
end Mine
end L2_part

theorem PySem.Challenge.cw_pk0092_02_holds : PySem.Challenge.rw_pk0092_02.Holds :=
  Mine.row02
