import PyProof.Rows.All
import Wide.All
import OpenK.AllK
import Wide.FinOn
import PySem.Challenge.RW_fe0146_01
open PySem PySem.W PyProof.Rows
set_option Elab.async false
set_option maxRecDepth 100000
set_option maxHeartbeats 8000000
namespace Mine
open_top hd for PySem.Challenge.rw_fe0146_01
end Mine

open PySem PySem.W PyProof.Rows
set_option Elab.async false
set_option maxRecDepth 100000
set_option maxHeartbeats 8000000
namespace Mine


noncomputable abbrev LL : List Str := looseW hd.view_39 [Str.ofString "naturally"] ++ List.map (fun x => x.name) (recsOf hd.view_39) ++
      List.map (fun x => x.fst) (litsOf hd.view_39) ++
    List.map (fun x => x.name) (clssOf hd.view_39 (looseW hd.view_39 [Str.ofString "naturally"]))
abbrev AA (d u : Nat) : Around := { handled := none, depth := d, frames := none, guards := none, units := u }
abbrev Kp (h h' : Heap) : Prop := ∀ b o, h.get? b = some o → h'.get? b = some o

theorem wpAA {α : Type} {M : Model} {A : Around} {t : Sem α} {Q : α → Shared → Prop} {E : Value → Shared → Prop} {s : Shared} {d u : Nat}
    (h : wpAny M (AA d u) t Q E s) (hh : A.handled = none) (hd : A.depth ≤ d) (hu : A.units ≤ u) : wpAny M A t Q E s :=
  fun Γ p hΓ => h Γ p ⟨hΓ.1.trans hh, Nat.le_trans hΓ.2.1 hd, (fun l e => by cases e), (fun g e => by cases e), Nat.le_trans hΓ.2.2.2.2 hu⟩

theorem enterP {w : World} {d u : Nat} {s : Shared} {Q : Value → Shared → Prop} {E : Value → Shared → Prop} {f : Addr} {name qual : Str} {params : Arguments} {body : List Stmt} {scope : Scope} {dV kV doc pm cdv ct oc : Value} {an od : Option Addr} {osl : Array (Option Value)} {args : List Value} {binds : List (Str × Value)} {mean : ExcName → Option Value} {mg mb : Str → Option Value}
    (X : (hd.heap_39 w.params).In s.heap) (T : Top topProg LL mean mg mb s.heap)
    (ho : (hd.heap_39 w.params).lookup f = some ⟨oc, od, .func (fnOf name qual params body scope dV kV doc pm an cdv ct), osl⟩) (hcd : codeIn (hd.heap_39 w.params) cdv qual = true) (hroom : d < recursionLimit)
    (hbind : BindsTo s (fnOf name qual params body scope dV kV doc pm an cdv ct) ⟨args, []⟩ binds) (hloc : ∀ y ∈ binds, scope.names.lookup y.1 = some .local)
    (h : ∀ L h₁ tk, Fr s.heap L h₁ (fun y => binds.reverse.lookup y) → News s.heap L h₁ [] →
      wpAny (model PySem.Challenge.rw_fe0146_01.row.prog w) (AA (d + 1) (u + 3)) (execs body (envOf qual scope L f cdv)) (fun fl s' => Q (match fl with | .ret v => v | _ => .none) s') (fun _ _ => False) { s with heap := h₁, toks := tk })
    (hcell : ∀ x ∈ scope.names, x.2 ≠ .cell) (hco : scope.isCoroutine = false) (hgen : scope.isGenerator = false) (hk : scope.kind = .function) :
    wpAny (model PySem.Challenge.rw_fe0146_01.row.prog w) (AA d u) (call (.ref f) args) Q E s := by
  refine wpAny_call ?_
  refine codeAny_call_def (fd := fnOf name qual params body scope dV kV doc pm an cdv ct) (body := body) (binds := binds) hroom (X _ _ ho) rfl T.nolimit (codeRec_of X hcd) rfl hbind hcell hloc (fun h₁ hns hk₁ => ?_) hco hgen hk
  exact wpAny_mono (h s.heap.objs.size h₁ _ ⟨hns, hk₁, Nat.le_refl _⟩ News.nil) (fun _ _ x => x) (fun _ _ x => x.elim)

local macro_rules | `(tactic| walk_at "mine enter") => `(tactic| (
  refine' enterP (by assumption) (by assumption) ?k6 ?k7 ?k8 ?k9 ?kB ?_ ?c5 ?c2 ?c3 ?c4
  (case k6 => k_is)
  (case k7 => k_is)
  (case k8 => decide)
  (case k9 => exact BindsTo.of_eq rfl)
  (case c5 => decide)
  (case kB => exact locs rfl)
  (case c2 => exact rfl)
  (case c3 => exact rfl)
  (case c4 => exact rfl)))

theorem fill_now {w : World} {h : Heap} (X : (hd.heap_39 w.params).In h) : (hd.heap_39 w.params).In h ∨ model PySem.Challenge.rw_fe0146_01.row.prog w = model PySem.Challenge.rw_fe0146_01.row.prog w := by
  k_fill
  exact .inl X

def atF (ns : List Int) (i : Int) : Int := if i < ns.length then (ns.getD i.toNat 0).fmod 9973 else i * 37 + 5

theorem law_at_spec {w : World} {s : Shared} {Q E : Value → Shared → Prop} {mean : ExcName → Option Value} {mg mb : Str → Option Value}
    (X : (hd.heap_39 w.params).In s.heap) (T : Top topProg LL mean mg mb s.heap) {l : Addr} {vs : List Value} {ns : List Int} (hl : s.heap.IsList l vs.toArray) (hi : IntsAre vs ns) (hlen : ns.length ≤ 63)
    {i : Int} {t : Tok} (h0 : 0 ≤ i) (hi7 : i < 7)
    (ret : ∀ t' h' tk', Kp s.heap h' → Q (.int (atF ns i) t') { s with heap := h', toks := tk' }) :
    wpAny (model PySem.Challenge.rw_fe0146_01.row.prog w) (AA 800 5000) (call (.ref 58) [.ref l, .int i t]) Q E s := by
  walk_at "mine enter"
  intro L h₁ tk F N
  k_fold
  k_steps
  all_goals (
    rename Fr _ _ _ _ => F1
    first
    | (have e : (ns.getD i.toNat 0).fmod 9973 = atF ns i := (if_pos (by assumption)).symm
       have r := ret (tk + 1 + 1 + 1) h₁ (tk + 1 + 1 + 1 + 1) F1.keep
       rw [← e] at r
       exact r)
    | (have e : i * 37 + 5 = atF ns i := (if_neg (by assumption)).symm
       have r := ret (tk + 1 + 1 + 1 + 1 + 1) h₁ (tk + 1 + 1 + 1 + 1 + 1 + 1) F1.keep
       rw [← e] at r
       exact r))
end Mine

open PySem PySem.W PyProof.Rows
set_option Elab.async false
set_option maxRecDepth 100000
set_option maxHeartbeats 8000000
namespace Mine
theorem fill_now' {w : World} {h : Heap} (X : (hd.heap_39 w.params).In h) : (hd.heap_39 w.params).In h ∨ model PySem.Challenge.rw_fe0146_01.row.prog w = model PySem.Challenge.rw_fe0146_01.row.prog w := by
  k_fill
  exact .inl X
local macro_rules | `(tactic| walk_at "mine enter") => `(tactic| (
  refine' enterP (by assumption) (by assumption) ?k6 ?k7 ?k8 ?k9 ?kB ?_ ?c5 ?c2 ?c3 ?c4
  (case k6 => k_is)
  (case k7 => k_is)
  (case k8 => decide)
  (case k9 => exact BindsTo.of_eq rfl)
  (case c5 => decide)
  (case kB => exact locs rfl)
  (case c2 => exact rfl)
  (case c3 => exact rfl)
  (case c4 => exact rfl)))

def wordL : List Str := ["", "a", "ab", "A", "-", ".", "a ", "_"].map Str.ofString
def digL : List Str := ["0", "00", "7", "007", "10", "9", "9999999999", "10000000000"].map Str.ofString
def valL : List Int := [0, 0, 7, 7, 10, 9, 9999999999, 10000000000]
def wordAt (k : Int) : Str := wordL.getD k.toNat (Str.ofString "")
def digAt (k : Int) : Str := digL.getD k.toNat (Str.ofString "")
def valAt (k : Int) : Int := valL.getD k.toNat 0

theorem eight {k : Int} (h0 : 0 ≤ k) (h8 : k < 8) : k = 0 ∨ k = 1 ∨ k = 2 ∨ k = 3 ∨ k = 4 ∨ k = 5 ∨ k = 6 ∨ k = 7 := by omega

theorem wordAt_len {k : Int} (h0 : 0 ≤ k) (h8 : k < 8) : (wordAt k).length ≤ 2 := by
  rcases eight h0 h8 with rfl | rfl | rfl | rfl | rfl | rfl | rfl | rfl <;> decide +kernel
theorem digAt_len {k : Int} (h0 : 0 ≤ k) (h8 : k < 8) : (digAt k).length ≤ 11 := by
  rcases eight h0 h8 with rfl | rfl | rfl | rfl | rfl | rfl | rfl | rfl <;> decide +kernel

section
variable {w : World} {A : Around} {s : Shared} {Q : Value → Shared → Prop} {E : Value → Shared → Prop} {h₀ : Heap} {L : Addr} {m : Str → Option Value} {value slice : PySem.Expr} {k : Int} {u : Tok}
theorem words_item (F : Fr h₀ L s.heap m) (X : (hd.heap_39 w.params).In h₀) (h0 : 0 ≤ k) (h8 : k < 8)
    (h : ∀ t : Tok, (wordAt k).length ≤ 2 → Q (.str (wordAt k) t) s)
    (hs : subscripted slice false (.ref 42) (.int k u) = operate [.ref 42, .int k u] (getItem (.ref 42) (.int k u))) :
    wpAny (model PySem.Challenge.rw_fe0146_01.row.prog w) A (subscriptTail value slice (.ref 42) (.int k u)) Q E s := by
  have hw := wordAt_len h0 h8
  rcases eight h0 h8 with rfl | rfl | rfl | rfl | rfl | rfl | rfl | rfl
  all_goals (
    refine' topTup_K (K := hd.heap_39 w.params) F X ?l ?a ?b ?c ?d ?_ hs
    case l => k_is
    case a => decide
    case b => decide
    case c => rfl
    case d => rfl
    exact h _ hw)
theorem tup43 {h : Heap} (X : (hd.heap_39 w.params).In h) : IsTup h 43 (List.toArray [.str (Str.ofString "0") 235, .int 0 236]) := tupK (K := hd.heap_39 w.params) X (by k_is)
theorem tup44 {h : Heap} (X : (hd.heap_39 w.params).In h) : IsTup h 44 (List.toArray [.str (Str.ofString "00") 237, .int 0 238]) := tupK (K := hd.heap_39 w.params) X (by k_is)
theorem tup45 {h : Heap} (X : (hd.heap_39 w.params).In h) : IsTup h 45 (List.toArray [.str (Str.ofString "7") 239, .int 7 240]) := tupK (K := hd.heap_39 w.params) X (by k_is)
theorem tup46 {h : Heap} (X : (hd.heap_39 w.params).In h) : IsTup h 46 (List.toArray [.str (Str.ofString "007") 241, .int 7 242]) := tupK (K := hd.heap_39 w.params) X (by k_is)
theorem tup47 {h : Heap} (X : (hd.heap_39 w.params).In h) : IsTup h 47 (List.toArray [.str (Str.ofString "10") 243, .int 10 244]) := tupK (K := hd.heap_39 w.params) X (by k_is)
theorem tup48 {h : Heap} (X : (hd.heap_39 w.params).In h) : IsTup h 48 (List.toArray [.str (Str.ofString "9") 245, .int 9 246]) := tupK (K := hd.heap_39 w.params) X (by k_is)
theorem tup49 {h : Heap} (X : (hd.heap_39 w.params).In h) : IsTup h 49 (List.toArray [.str (Str.ofString "9999999999") 247, .int 9999999999 248]) := tupK (K := hd.heap_39 w.params) X (by k_is)
theorem tup50 {h : Heap} (X : (hd.heap_39 w.params).In h) : IsTup h 50 (List.toArray [.str (Str.ofString "10000000000") 249, .int 10000000000 250]) := tupK (K := hd.heap_39 w.params) X (by k_is)
theorem nums_item (F : Fr h₀ L s.heap m) (X : (hd.heap_39 w.params).In h₀) (h0 : 0 ≤ k) (h8 : k < 8)
    (h : ∀ (a : Addr) (t t' : Tok), IsTup h₀ a #[.str (digAt k) t, .int (valAt k) t'] → (digAt k).length ≤ 11 → Q (.ref a) s)
    (hs : subscripted slice false (.ref 51) (.int k u) = operate [.ref 51, .int k u] (getItem (.ref 51) (.int k u))) :
    wpAny (model PySem.Challenge.rw_fe0146_01.row.prog w) A (subscriptTail value slice (.ref 51) (.int k u)) Q E s := by
  have hw := digAt_len h0 h8
  rcases eight h0 h8 with rfl | rfl | rfl | rfl | rfl | rfl | rfl | rfl
  all_goals (
    refine' topTup_K (K := hd.heap_39 w.params) F X ?l ?a ?b ?c ?d ?_ hs
    case l => k_is
    case a => decide
    case b => decide
    case c => rfl
    case d => rfl
    first | exact h 43 235 236 (tup43 X) hw | exact h 44 237 238 (tup44 X) hw | exact h 45 239 240 (tup45 X) hw | exact h 46 241 242 (tup46 X) hw | exact h 47 243 244 (tup47 X) hw | exact h 48 245 246 (tup48 X) hw | exact h 49 247 248 (tup49 X) hw | exact h 50 249 250 (tup50 X) hw)
end

local macro_rules | `(tactic| walk_at "subscriptTail Name BinOp ref int") => `(tactic| (
  (with_reducible show wpAny _ _ (subscriptTail _ _ (Value.ref 42) (Value.int _ _)) _ _ _);
  k_dflt (refine' words_item (by assumption) (by assumption) (Int.fmod_nonneg_of_pos _ (by decide)) (Int.fmod_lt_of_pos _ (by decide)) ?_ (by with_unfolding_all rfl)); intro t' hw'))
local macro_rules | `(tactic| walk_at "subscriptTail Name BinOp ref int") => `(tactic| (
  (with_reducible show wpAny _ _ (subscriptTail _ _ (Value.ref 51) (Value.int _ _)) _ _ _);
  k_dflt (refine' nums_item (by assumption) (by assumption) (Int.fmod_nonneg_of_pos _ (by decide)) (Int.fmod_lt_of_pos _ (by decide)) ?_ (by with_unfolding_all rfl)); intro a' t' u' ht' hw'))

structure Rec where
  text : Str
  words : List Str
  vals : List Int

def recOf (w d o m : Str) (v g : Int) (n : Int) : Rec :=
  if n = 0 then ⟨w, [w], []⟩
  else if n = 1 then ⟨w ++ d, [w, Str.ofString ""], [v]⟩
  else if n = 2 then ⟨w ++ d ++ o, [w, o], [v]⟩
  else if n = 3 then ⟨d ++ o, [Str.ofString "", o], [v]⟩
  else ⟨w ++ d ++ (o ++ Str.ofString "x") ++ m, [w, o ++ Str.ofString "x", Str.ofString ""], [v, g]⟩

def recF (k : Int) : Rec :=
  recOf (wordAt (k.fmod 8)) (digAt ((k.fdiv 8).fmod 8)) (wordAt ((k.fdiv 64).fmod 8)) (digAt ((k.fdiv 512).fmod 8)) (valAt ((k.fdiv 8).fmod 8)) (valAt ((k.fdiv 512).fmod 8)) (k.fmod 5)

/-- a value without its token -/
def st : Value → Value
  | .int i _ => .int i 0
  | .str s _ => .str s 0
  | v => v
def sv (x : Str) : Value := .str x 0
def iv (x : Int) : Value := .int x 0
def TupS (h : Heap) (a : Addr) (ds : List Value) : Prop := ∃ vs : List Value, IsTup h a vs.toArray ∧ vs.map st = ds
def LstS (h : Heap) (a : Addr) (ds : List Value) : Prop := ∃ vs : List Value, h.IsList a vs.toArray ∧ vs.map st = ds

def RecAt (base h : Heap) (r : Addr) (c : Rec) : Prop :=
  ∃ wa va t, IsTup h r (List.toArray [.str c.text t, .ref wa, .ref va]) ∧ TupS h wa (c.words.map sv) ∧ TupS h va (c.vals.map iv) ∧
    base.get? r = none ∧ base.get? wa = none ∧ base.get? va = none

theorem RecAt.of {base h : Heap} {r wa va : Addr} {c : Rec} {t : Tok} {ws vs : List Value} (a : IsTup h r (List.toArray [.str c.text t, .ref wa, .ref va])) (b : IsTup h wa ws.toArray) (c' : IsTup h va vs.toArray)
    (eb : ws.map st = c.words.map sv) (ec : vs.map st = c.vals.map iv) (d : base.get? r = none) (e : base.get? wa = none) (f : base.get? va = none) : RecAt base h r c :=
  ⟨wa, va, t, a, ⟨ws, b, eb⟩, ⟨vs, c', ec⟩, d, e, f⟩

theorem law_record_spec {w : World} {s : Shared} {Q E : Value → Shared → Prop} {mean : ExcName → Option Value} {mg mb : Str → Option Value}
    (X : (hd.heap_39 w.params).In s.heap) (T : Top topProg LL mean mg mb s.heap) {k : Int} {t : Tok}
    (ret : ∀ r h' tk', Kp s.heap h' → RecAt s.heap h' r (recF k) → Q (.ref r) { s with heap := h', toks := tk' }) :
    wpAny (model PySem.Challenge.rw_fe0146_01.row.prog w) (AA 800 5000) (call (.ref 65) [.int k t]) Q E s := by
  walk_at "mine enter"
  intro L h₁ tk F N
  k_fold
  k_steps
  all_goals (
    rename Fr _ _ _ _ => F1
    rename News _ _ _ _ => N1
    refine ret _ _ _ F1.keep ?_
    unfold recF recOf
    repeat (first | rw [if_pos (by assumption)] | rw [if_neg (by assumption)])
    refine' RecAt.of ?a ?b ?c ?b' ?c' ?d ?e ?f
    case a => exact News.isTup N1 (by k_mem)
    case b => exact News.isTup N1 (by k_mem)
    case c => exact News.isTup N1 (by k_mem)
    case b' => rfl
    case c' => rfl
    case d => exact News.fresh N1 (by k_mem)
    case e => exact News.fresh N1 (by k_mem)
    case f => exact News.fresh N1 (by k_mem))
end Mine

open PySem PySem.W PyProof.Rows
set_option Elab.async false
set_option maxRecDepth 100000
set_option maxHeartbeats 8000000
namespace Mine
theorem fill_now2 {w : World} {h : Heap} (X : (hd.heap_39 w.params).In h) : (hd.heap_39 w.params).In h ∨ model PySem.Challenge.rw_fe0146_01.row.prog w = model PySem.Challenge.rw_fe0146_01.row.prog w := by
  k_fill
  exact .inl X
local macro_rules | `(tactic| walk_at "mine enter") => `(tactic| (
  refine' enterP (by assumption) (by assumption) ?k6 ?k7 ?k8 ?k9 ?kB ?_ ?c5 ?c2 ?c3 ?c4
  (case k6 => k_is)
  (case k7 => k_is)
  (case k8 => decide)
  (case k9 => exact BindsTo.of_eq rfl)
  (case c5 => decide)
  (case kB => exact locs rfl)
  (case c2 => exact rfl)
  (case c3 => exact rfl)
  (case c4 => exact rfl)))
def Held (P : Prop) : Prop := P
theorem held {P : Prop} (h : Held P) : P := h
local macro_rules | `(tactic| walk_at "pyIter ref") => `(tactic| (k_here; with_reducible refine held ?_))

/-- tuples and lists of the base, with their length told as an Int -/
def TV (h : Heap) (a : Addr) (vs : List Value) (n : Int) : Prop := IsTup h a vs.toArray ∧ (vs.length : Int) = n ∧ n ≤ 1000
def LV (h : Heap) (a : Addr) (vs : List Value) (n : Int) : Prop := h.IsList a vs.toArray ∧ (vs.length : Int) = n ∧ n ≤ 1000
/-- the item at a place -/
def ItAt (vs : List Value) (k : Int) (v : Value) : Prop := vs[k.toNat]? = some v

section
variable {prog : Program} {w : World} {A : Around} {s : Shared} {Q : Value → Shared → Prop} {E : Value → Shared → Prop} {h₀ : Heap} {L a : Addr} {m : Str → Option Value} {value slice : PySem.Expr} {k n : Int} {u : Tok} {vs : List Value} {v : Value}
theorem len_TV (F : Fr h₀ L s.heap m) (t : TV h₀ a vs n) (h : Q (.int n (s.toks + 1)) { s with toks := s.toks + 1 + 1 }) : wpAny (model prog w) A (call (.builtin "len") [.ref a]) Q E s := by
  obtain ⟨t1, t2, t3⟩ := t
  have e : ((vs.toArray.size : Nat) : Int) = n := by simpa using t2
  exact len_tuple (t1.keeps F.keep) (by omega) (by rw [e]; exact h)
theorem len_LV (F : Fr h₀ L s.heap m) (t : LV h₀ a vs n) (h : Q (.int n (s.toks + 1)) { s with toks := s.toks + 1 + 1 }) : wpAny (model prog w) A (call (.builtin "len") [.ref a]) Q E s := by
  obtain ⟨t1, t2, t3⟩ := t
  have e : ((vs.toArray.size : Nat) : Int) = n := by simpa using t2
  exact len_list (t1.at fun o x => F.keep a o x) (by omega) (by rw [e]; exact h)
theorem seqIndex_in {k : Int} {n : Nat} (h0 : 0 ≤ k) (h : k.toNat < n) : seqIndex? k n = some k.toNat := by
  unfold seqIndex?
  simp only
  have : ¬ k < 0 := by omega
  simp [this]
  omega
theorem item_TV (F : Fr h₀ L s.heap m) (t : TV h₀ a vs n) (h0 : 0 ≤ k) (hx : ItAt vs k v) (h : Q v s)
    (hs : subscripted slice false (.ref a) (.int k u) = operate [.ref a, .int k u] (getItem (.ref a) (.int k u))) : wpAny (model prog w) A (subscriptTail value slice (.ref a) (.int k u)) Q E s := by
  obtain ⟨t1, t2, t3⟩ := t
  have hlt : k.toNat < vs.length := by
    unfold ItAt at hx
    rcases Nat.lt_or_ge k.toNat vs.length with h | h
    · exact h
    · rw [List.getElem?_eq_none h] at hx; cases hx
  exact item_tupleT (t1.keeps F.keep) (by omega) (by omega) (seqIndex_in h0 hlt) hx h hs
theorem item_LV (F : Fr h₀ L s.heap m) (t : LV h₀ a vs n) (h0 : 0 ≤ k) (hx : ItAt vs k v) (h : Q v s)
    (hs : subscripted slice false (.ref a) (.int k u) = operate [.ref a, .int k u] (getItem (.ref a) (.int k u)))
    (hg : ∀ r, letTemporaryGo value (.ref a) r = pure ()) : wpAny (model prog w) A (subscriptTail value slice (.ref a) (.int k u)) Q E s := by
  obtain ⟨t1, t2, t3⟩ := t
  have hlt : k.toNat < vs.length := by
    unfold ItAt at hx
    rcases Nat.lt_or_ge k.toNat vs.length with h | h
    · exact h
    · rw [List.getElem?_eq_none h] at hx; cases hx
  exact item_list (t1.at fun o x => F.keep a o x) h0 (by omega) (by unfold ItAt at hx; simpa using hx) h hs hg
end

local macro_rules | `(tactic| walk_at "call builtin:len") => `(tactic| ((with_reducible show wpAny _ _ (call (Value.builtin "len") [Value.ref _]) _ _ _); first | refine len_TV (by assumption) (by with_reducible assumption) ?_ | refine len_LV (by assumption) (by with_reducible assumption) ?_))

local macro_rules | `(tactic| walk_at "call type:range") => `(tactic| ((rename Fr _ _ _ _ => F'); (rename News _ _ _ _ => N'); with_unfolding_all refine range1_rows F' N' ?_; intro h' tk' t₁ u₁ v₁ hR' F' N' hK'))
theorem frame_of {m₁ m₀ : Str → Option Value} (xs : List Str) (hoff : ∀ y, y ∉ xs → m₁ y = m₀ y) : m₁ = xs.foldr (fun x g => fun y => if y = x then m₁ x else g y) m₀ := by
  induction xs generalizing m₀ with
  | nil => funext y; exact hoff y (by simp)
  | cons x xs ih =>
    funext y
    show m₁ y = if y = x then m₁ x else _
    by_cases h : y = x
    · rw [if_pos h, h]
    · rw [if_neg h]
      have e := congrFun (ih (m₀ := fun z => if z = x then m₁ x else m₀ z) (fun z hz => by
        by_cases h2 : z = x
        · rw [if_pos h2, h2]
        · rw [if_neg h2]; exact hoff z (by simp [h2, hz]))) y
      have f : ∀ (l : List Str) (g : Str → Option Value), y ≠ x → (l.foldr (fun x g => fun y => if y = x then m₁ x else g y) (fun z => if z = x then m₁ x else g z)) y = (l.foldr (fun x g => fun y => if y = x then m₁ x else g y) g) y := by
        intro l g hy
        induction l with
        | nil => simp [hy]
        | cons a l ih2 => simp only [List.foldr_cons]; by_cases hya : y = a <;> simp [hya, ih2]
      rw [f xs m₀ h] at e
      exact e

section
variable {prog : Program} {w : World} {A : Around} {E : Value → Shared → Prop} {s : Shared} {env : Env} {h₀ : Heap} {x : Str} {body : List Stmt} {Q : Flow → Shared → Prop}
theorem range_for {r : Addr} {b : Int} {t₀ u₀ v₀ : Tok} {m₀ : Str → Option Value} {news : List (Addr × Obj)} (n : Nat) (J : (Str → Option Value) → List (Addr × Obj) → Nat → (Str → Option Value) → List (Addr × Obj) → Prop) (hb : b = (n : Int)) (hn : n ≤ 1000)
    (hh : A.handled = none) (hr : IsRange s.heap r 0 b 1 t₀ u₀ v₀) (F : Fr h₀ env.locals s.heap m₀) (N : News h₀ env.locals s.heap news) (hj : J m₀ news 0 m₀ news)
    (turn : ∀ i t m₁ nx h tk own, i < n → OwnOff own (news.map (·.1)) → J m₀ news i m₁ nx → Fr h₀ env.locals h (fun y => if y = x then some (.int (i : Int) t) else m₁ y) → News h₀ env.locals h (nx ++ own) →
      wpAny (model prog w) A (execs body env) (InvPostN h₀ env.locals (J m₀ news (i + 1)) own (news.map (·.1)) { s with heap := h, toks := tk } Q) E { s with heap := h, toks := tk })
    (done : ∀ m₁ nx h tk, J m₀ news n m₁ nx → Fr h₀ env.locals h m₁ → News h₀ env.locals h nx → Q .next { s with heap := h, toks := tk }) :
    wpAny (model prog w) A (pyIter (.ref r)) (fun it s₂ => LoopAtV prog w A h₀ env x body Q E it s₂) E s := by
  subst hb
  refine kpr_invN (n := n) (J m₀ news) hh hr (small_one (by omega) (by omega) (by omega) (by omega)) (by rw [rangeSize_one]; split <;> omega) F N hj (fun i k t m₁ nx h tk own hk ho hJ F' N' => ?_) (fun m₁ nx h tk hJ F' N' => done m₁ nx h tk (by rw [rangeKs_length] at hJ; exact hJ) F' N')
  have hi : i < n := by
    rcases Nat.lt_or_ge i n with q | q
    · exact q
    · rw [List.getElem?_eq_none (by rw [rangeKs_length]; exact q)] at hk; cases hk
  have e : k = (i : Int) := by
    unfold rangeKs at hk
    simp [hi] at hk
    omega
  subst e
  exact turn i t m₁ nx h tk own hi ho hJ F' N'
end

def agF : List Str → List Int → List Str → List Int → Int
  | w :: ws, vs, m :: ms, rs =>
    if w ≠ m then (if w.cps.toList < m.cps.toList then -1 else 1)
    else match vs, rs with
      | v :: vs, r :: rs => if v ≠ r then (if v < r then -1 else 1) else agF ws vs ms rs
      | vs, rs => (vs.length : Int) - (rs.length : Int)
  | _, _, _, _ => 0

theorem agF_lt1 {x y : Str} {ws ms : List Str} {vs rs : List Int} (h : (x != y) = true) (hl : x.cps.toList < y.cps.toList) : agF (x :: ws) vs (y :: ms) rs = -1 := by
  have hne : x ≠ y := by simpa using h
  unfold agF; rw [if_pos hne, if_pos hl]
theorem agF_lt2 {x y : Str} {ws ms : List Str} {vs rs : List Int} (h : (x != y) = true) (hl : ¬ x.cps.toList < y.cps.toList) : agF (x :: ws) vs (y :: ms) rs = 1 := by
  have hne : x ≠ y := by simpa using h
  unfold agF; rw [if_pos hne, if_neg hl]
theorem agF_fin {x y : Str} {ws ms : List Str} {vs rs : List Int} (h : (x != y) = false) (hl : vs = [] ∨ rs = []) : agF (x :: ws) vs (y :: ms) rs = (vs.length : Int) - (rs.length : Int) := by
  have hne : ¬ x ≠ y := by simpa using h
  unfold agF; rw [if_neg hne]
  rcases hl with rfl | rfl
  · rfl
  · cases vs <;> rfl
theorem agF_v1 {x y : Str} {ws ms : List Str} {vs rs : List Int} {v r : Int} (h : (x != y) = false) (hv : v ≠ r) (hl : v < r) : agF (x :: ws) (v :: vs) (y :: ms) (r :: rs) = -1 := by
  have hne : ¬ x ≠ y := by simpa using h
  unfold agF; rw [if_neg hne]; simp only; rw [if_pos hv, if_pos hl]
theorem agF_v2 {x y : Str} {ws ms : List Str} {vs rs : List Int} {v r : Int} (h : (x != y) = false) (hv : v ≠ r) (hl : ¬ v < r) : agF (x :: ws) (v :: vs) (y :: ms) (r :: rs) = 1 := by
  have hne : ¬ x ≠ y := by simpa using h
  unfold agF; rw [if_neg hne]; simp only; rw [if_pos hv, if_neg hl]
theorem agF_next {x y : Str} {ws ms : List Str} {vs rs : List Int} {v r : Int} (h : (x != y) = false) (hv : v = r) : agF (x :: ws) (v :: vs) (y :: ms) (r :: rs) = agF ws vs ms rs := by
  have hne : ¬ x ≠ y := by simpa using h
  conv => lhs; unfold agF
  rw [if_neg hne]; simp only; rw [if_neg (by simpa using hv)]

theorem item_s {vs : List Value} {xs : List Str} (e : vs.map st = xs.map sv) {i : Nat} (h : i < xs.length) : ∃ t, ItAt vs (i : Int) (.str xs[i] t) := by
  have l : vs.length = xs.length := by simpa using congrArg List.length e
  have hv : i < vs.length := by omega
  have q : st vs[i] = sv xs[i] := by
    have := congrArg (fun l => l[i]?) e
    simpa [hv, h] using this
  have g : ItAt vs (i : Int) vs[i] := by unfold ItAt; simp [hv]
  generalize vs[i] = v at q g
  cases v <;> simp [st, sv] at q
  subst q
  exact ⟨_, g⟩
theorem item_i {vs : List Value} {xs : List Int} (e : vs.map st = xs.map iv) {i : Nat} (h : i < xs.length) : ∃ t, ItAt vs (i : Int) (.int xs[i] t) := by
  have l : vs.length = xs.length := by simpa using congrArg List.length e
  have hv : i < vs.length := by omega
  have q : st vs[i] = iv xs[i] := by
    have := congrArg (fun l => l[i]?) e
    simpa [hv, h] using this
  have g : ItAt vs (i : Int) vs[i] := by unfold ItAt; simp [hv]
  generalize vs[i] = v at q g
  cases v <;> simp [st, iv] at q
  subst q
  exact ⟨_, g⟩
local macro_rules | `(tactic| walk_at "subscriptTail Name Name ref int") => `(tactic| (
  (with_reducible show wpAny _ _ (subscriptTail _ _ (Value.ref _) (Value.int _ _)) _ _ _);
  k_dflt (refine' item_TV (by assumption) (by with_reducible assumption) ?h0 (by with_reducible assumption) ?_ (by with_unfolding_all rfl); (case h0 => omega))))

theorem law_against_spec {w : World} {s : Shared} {Q E : Value → Shared → Prop} {mean : ExcName → Option Value} {mg mb : Str → Option Value}
    (X : (hd.heap_39 w.params).In s.heap) (T : Top topProg LL mean mg mb s.heap) {a b : Addr} {wa va wb vb : Addr} {ta tb : Tok} {xa xb : Str} {was vas wbs vbs : List Value}
    (ha : IsTup s.heap a (List.toArray [.str xa ta, .ref wa, .ref va])) (hb : IsTup s.heap b (List.toArray [.str xb tb, .ref wb, .ref vb]))
    (hwa : IsTup s.heap wa was.toArray) (hva : IsTup s.heap va vas.toArray) (hwb : IsTup s.heap wb wbs.toArray) (hvb : IsTup s.heap vb vbs.toArray)
    {wsa wsb : List Str} {nsa nsb : List Int} (ewa : was.map st = wsa.map sv) (ewb : wbs.map st = wsb.map sv) (eva : vas.map st = nsa.map iv) (evb : vbs.map st = nsb.map iv)
    (la : wsa.length = nsa.length + 1) (lb : wsb.length = nsb.length + 1) (sa : wsa.length ≤ 4) (sb : wsb.length ≤ 4)
    (ret : ∀ t' h' tk', Kp s.heap h' → Q (.int (agF wsa nsa wsb nsb) t') { s with heap := h', toks := tk' }) :
    wpAny (model PySem.Challenge.rw_fe0146_01.row.prog w) (AA 800 5000) (call (.ref 72) [.ref a, .ref b]) Q E s := by
  have lwa : was.length = wsa.length := by simpa using congrArg List.length ewa
  have lwb : wbs.length = wsb.length := by simpa using congrArg List.length ewb
  have lva : vas.length = nsa.length := by simpa using congrArg List.length eva
  have lvb : vbs.length = nsb.length := by simpa using congrArg List.length evb
  have twa : TV s.heap wa was (wsa.length : Int) := ⟨hwa, by omega, by omega⟩
  have twb : TV s.heap wb wbs (wsb.length : Int) := ⟨hwb, by omega, by omega⟩
  have tva : TV s.heap va vas (nsa.length : Int) := ⟨hva, by omega, by omega⟩
  have tvb : TV s.heap vb vbs (nsb.length : Int) := ⟨hvb, by omega, by omega⟩
  walk_at "mine enter"
  intro L h₁ tk F N
  k_fold
  k_steps
  rename IsRange _ _ _ _ _ _ _ _ => R1
  rename Fr _ _ _ _ => F1
  rename News _ _ _ _ => N1
  unfold Held
  refine range_for (min wsa.length wsb.length) (fun m₀ news i m nx => nx = news ∧ (∀ y, y ∉ [Str.ofString "spot"] → m y = m₀ y) ∧ i ≤ nsa.length ∧ i ≤ nsb.length ∧ agF wsa nsa wsb nsb = agF (wsa.drop i) (nsa.drop i) (wsb.drop i) (nsb.drop i)) (by omega) (by omega) rfl R1 F1 N1 ⟨rfl, fun _ _ => rfl, Nat.zero_le _, Nat.zero_le _, rfl⟩ ?_ ?_
  · rintro i t m₁ nx h tk own hi ho ⟨rfl, hm, h1, h2, e⟩ F' N'
    rw [frame_of [Str.ofString "spot"] hm] at F'
    dsimp only [List.foldr] at F'
    obtain ⟨t1, i1⟩ := item_s ewa (i := i) (by omega)
    obtain ⟨t2, i2⟩ := item_s ewb (i := i) (by omega)
    have d1 : wsa.drop i = wsa[i] :: wsa.drop (i + 1) := List.drop_eq_getElem_cons _
    have d2 : wsb.drop i = wsb[i] :: wsb.drop (i + 1) := List.drop_eq_getElem_cons _
    rw [d1, d2] at e
    clear d1 d2
    generalize wsa[i] = x at *
    generalize wsb[i] = y at *
    by_cases c1 : i = nsa.length ∨ i = nsb.length
    · show wpAny _ _ _ _ _ _
      have q : ((nsa.drop i).length : Int) - (nsb.drop i).length = nsa.length - nsb.length := by simp only [List.length_drop]; omega
      have c2 : nsa.drop i = [] ∨ nsb.drop i = [] := by
        rcases c1 with c | c
        · exact .inl (by rw [c]; exact List.drop_length)
        · exact .inr (by rw [c]; exact List.drop_length)
      show wpAny _ _ _ _ _ _
      k_fold
      k_steps
      all_goals (
        rename Fr _ _ _ _ => F9
        have r := fun t' tk' => ret t' _ tk' F9.keep
        rw [e] at r
        first
        | (rw [agF_lt1 (by assumption) (by assumption)] at r; exact r _ _)
        | (rw [agF_lt2 (by assumption) (by assumption)] at r; exact r _ _)
        | (rw [agF_fin (by assumption) c2, q] at r; exact r _ _)
        | (exfalso; omega))
    · show wpAny _ _ _ _ _ _
      obtain ⟨t3, i3⟩ := item_i eva (i := i) (by omega)
      obtain ⟨t4, i4⟩ := item_i evb (i := i) (by omega)
      have d1 : nsa.drop i = nsa[i] :: nsa.drop (i + 1) := List.drop_eq_getElem_cons _
      have d2 : nsb.drop i = nsb[i] :: nsb.drop (i + 1) := List.drop_eq_getElem_cons _
      rw [d1, d2] at e
      clear d1 d2
      generalize nsa[i] = v at *
      generalize nsb[i] = r at *
      show wpAny _ _ _ _ _ _
      k_fold
      k_steps
      all_goals (
        rename Fr _ _ _ _ => F9
        have r := fun t' tk' => ret t' _ tk' F9.keep
        rw [e] at r
        first
        | (exfalso; omega)
        | (rw [agF_lt1 (by assumption) (by assumption)] at r; exact r _ _)
        | (rw [agF_lt2 (by assumption) (by assumption)] at r; exact r _ _)
        | (rw [agF_v1 (by assumption) (by assumption) (by assumption)] at r; exact r _ _)
        | (rw [agF_v2 (by assumption) (by assumption) (by assumption)] at r; exact r _ _)
        | (refine ⟨_, _, _, _, _, rfl, F9, N', fun p hp => List.mem_append_left _ hp, fun p hp => List.mem_append_right _ hp, rfl, rfl, fun y hy => ?_, by omega, by omega, e.trans (agF_next (by assumption) (by assumption))⟩
           simp only [List.mem_cons, List.not_mem_nil, or_false] at hy
           simp only [hy, if_false]
           done))
  · rintro m₁ nx h tk ⟨_, _, h1, h2, _⟩ _ _
    exfalso
    omega
end Mine

open PySem PySem.W PyProof.Rows
set_option Elab.async false
set_option maxRecDepth 100000
set_option maxHeartbeats 8000000
namespace Mine
theorem fill_now3 {w : World} {h : Heap} (X : (hd.heap_39 w.params).In h) : (hd.heap_39 w.params).In h ∨ model PySem.Challenge.rw_fe0146_01.row.prog w = model PySem.Challenge.rw_fe0146_01.row.prog w := by
  k_fill
  exact .inl X
local macro_rules | `(tactic| walk_at "mine enter") => `(tactic| (
  refine' enterP (by assumption) (by assumption) ?k6 ?k7 ?k8 ?k9 ?kB ?_ ?c5 ?c2 ?c3 ?c4
  (case k6 => k_is)
  (case k7 => k_is)
  (case k8 => decide)
  (case k9 => exact BindsTo.of_eq rfl)
  (case c5 => decide)
  (case kB => exact locs rfl)
  (case c2 => exact rfl)
  (case c3 => exact rfl)
  (case c4 => exact rfl)))
local macro_rules | `(tactic| walk_at "pyIter ref") => `(tactic| (k_here; with_reducible refine held ?_))
local macro_rules | `(tactic| walk_at "call builtin:len") => `(tactic| ((with_reducible show wpAny _ _ (call (Value.builtin "len") [Value.ref _]) _ _ _); first | refine len_TV (by assumption) (by with_reducible assumption) ?_ | refine len_LV (by assumption) (by with_reducible assumption) ?_))
local macro_rules | `(tactic| walk_at "call type:range") => `(tactic| ((rename Fr _ _ _ _ => F'); (rename News _ _ _ _ => N'); with_unfolding_all refine range1_rows F' N' ?_; intro h' tk' t₁ u₁ v₁ hR' F' N' hK'))

def RecIn (h : Heap) (a : Addr) (c : Rec) : Prop :=
  ∃ wa va t, IsTup h a (List.toArray [.str c.text t, .ref wa, .ref va]) ∧ TupS h wa (c.words.map sv) ∧ TupS h va (c.vals.map iv)
def RecOk (c : Rec) : Prop := c.words.length = c.vals.length + 1 ∧ c.words.length ≤ 4
def RecsIn (h : Heap) (vs : List Value) (cs : List Rec) : Prop := vs.length = cs.length ∧ ∀ i (hi : i < cs.length), ∃ a, ItAt vs (i : Int) (.ref a) ∧ RecIn h a cs[i] ∧ RecOk cs[i]
theorem TupS.keeps {h h' : Heap} {a : Addr} {ds : List Value} (x : TupS h a ds) (k : Kp h h') : TupS h' a ds := let ⟨vs, t, e⟩ := x; ⟨vs, t.keeps k, e⟩
theorem RecIn.keeps {h h' : Heap} {a : Addr} {c : Rec} (x : RecIn h a c) (k : Kp h h') : RecIn h' a c :=
  let ⟨wa, va, t, x1, x2, x3⟩ := x; ⟨wa, va, t, x1.keeps k, x2.keeps k, x3.keeps k⟩

def agR (c d : Rec) : Int := agF c.words c.vals d.words d.vals

theorem against_call {w : World} {A : Around} {s : Shared} {Q E : Value → Shared → Prop} {mean : ExcName → Option Value} {mg mb : Str → Option Value} {h₀ : Heap} {L : Addr} {m : Str → Option Value} {news : List (Addr × Obj)}
    (F : Fr h₀ L s.heap m) (N : News h₀ L s.heap news) (X : (hd.heap_39 w.params).In h₀) (T : Top topProg LL mean mg mb h₀) (hh : A.handled = none) (hd : A.depth ≤ 800) (hu : A.units ≤ 5000) {a b : Addr} {c d : Rec}
    (ha : RecIn h₀ a c) (hb : RecIn h₀ b d) (oc : RecOk c) (od : RecOk d)
    (ret : ∀ t' h' tk', Kp s.heap h' → Fr h₀ L h' m → News h₀ L h' news → Q (.int (agR c d) t') { s with heap := h', toks := tk' }) :
    wpAny (model PySem.Challenge.rw_fe0146_01.row.prog w) A (call (.ref 72) [.ref a, .ref b]) Q E s := by
  obtain ⟨wa, va, ta, x1, ⟨was, x2, x2'⟩, ⟨vas, x3, x3'⟩⟩ := ha.keeps F.keep
  obtain ⟨wb, vb, tb, y1, ⟨wbs, y2, y2'⟩, ⟨vbs, y3, y3'⟩⟩ := hb.keeps F.keep
  refine wpAA (d := 800) (u := 5000) ?_ hh hd hu
  exact law_against_spec (X.keeps F.keep) (T.keeps F.keep) x1 y1 x2 x3 y2 y3 x2' y2' x3' y3' oc.1 od.1 oc.2 od.2 (fun t' h' tk' k => ret t' h' tk' k (F.kept k) (N.grown k))

local macro_rules | `(tactic| walk_at "subscriptTail Name Name ref int") => `(tactic| (
  (with_reducible show wpAny _ _ (subscriptTail _ _ (Value.ref _) (Value.int _ _)) _ _ _);
  k_dflt (refine' item_LV (by assumption) (by with_reducible assumption) ?h0 (by with_reducible assumption) ?_ (by with_unfolding_all rfl) (by intro _; with_unfolding_all rfl); (case h0 => omega))))
local macro_rules | `(tactic| walk_at "call ref") => `(tactic| (
  (with_reducible show wpAny _ _ (call (Value.ref 72) [Value.ref _, Value.ref _]) _ _ _);
  refine' against_call (by assumption) (by assumption) (by assumption) (by assumption) rfl (by exact Nat.le_of_ble_eq_true rfl) (by exact Nat.le_of_ble_eq_true rfl) (by assumption) (by assumption) (by assumption) (by assumption) ?_; intro t' h' tk' hK' F' N'))

theorem mul_zero {w : World} {A : Around} {s : Shared} {Q E : Value → Shared → Prop} {h₀ : Heap} {L l : Addr} {m : Str → Option Value} {news : List (Addr × Obj)} {c : Nat} {t u : Tok} {x : Int}
    (F : Fr h₀ L s.heap m) (N : News h₀ L s.heap news) (hm : (l, listOf (List.toArray [.int 0 t]) c) ∈ news) (h0 : 0 ≤ x) (h1 : x ≤ 1000)
    (h : ∀ h' D, Fr h₀ L h' m → News h₀ L h' ((D, listOf (List.replicate x.toNat (Value.int 0 t)).toArray 0) :: news) → (∀ p ∈ news, p.1 ≠ D) → Q (.ref D) { s with heap := h' }) :
    wpAny (model PySem.Challenge.rw_fe0146_01.row.prog w) A (binaryOp .Mult (.ref l) (.int x u)) Q E s := by
  refine mul_list F N (N _ hm).1 (by omega) (by omega) (by simp; omega) (fun h' F' N' => ?_)
  refine h h' _ F' ?_ (fun p hp => Nat.ne_of_lt (Heap.lt_size (N p hp).1))
  have e : (List.foldl (fun x1 x2 => x1 ++ x2) (#[] : Array Value) (List.replicate (if (#[Value.int 0 t] : Array Value).isEmpty = true then 0 else x.toNat) #[Value.int 0 t])) = (List.replicate x.toNat (Value.int 0 t)).toArray := by
    have g : ∀ (n : Nat) (a : Array Value), List.foldl (fun x1 x2 => x1 ++ x2) a (List.replicate n #[Value.int 0 t]) = a ++ (List.replicate n (Value.int 0 t)).toArray := by
      intro n
      induction n with
      | zero => intro a; simp
      | succ n ih =>
        intro a
        rw [List.replicate_succ, List.foldl_cons, ih, List.replicate_succ]
        apply Array.toList_inj.mp
        simp
    have z : (if (#[Value.int 0 t] : Array Value).isEmpty = true then 0 else x.toNat) = x.toNat := by simp
    rw [z, g]
    apply Array.toList_inj.mp
    simp
  rw [e] at N'
  exact N'

theorem set_own {prog : Program} {w : World} {A : Around} {s : Shared} {Q : Unit → Shared → Prop} {E : Value → Shared → Prop} {h₀ : Heap} {L D : Addr} {m : Str → Option Value} {rest : List (Addr × Obj)} {vs : List Value} {ns : List Int} {n : Nat} {k x : Int} {t u : Tok}
    (F : Fr h₀ L s.heap m) (N : News h₀ L s.heap ((D, listOf vs.toArray n) :: rest)) (hr : ∀ p ∈ rest, p.1 ≠ D) (hi : IntsAre vs ns) (h0 : 0 ≤ k) (h1 : k < ns.length) (hs : ns.length ≤ 1000)
    (h : ∀ h', Fr h₀ L h' m → News h₀ L h' ((D, listOf (vs.set k.toNat (.int x u)).toArray n) :: rest) → IntsAre (vs.set k.toNat (.int x u)) (ns.set k.toNat x) → Q () { s with heap := h' }) :
    wpAny (model prog w) A (setItem (.ref D) (.int k t) (.int x u)) Q E s :=
  ksa_set F N (Upd.head hr) hi h0 h1 (by omega) (fun h' F' N' a _ _ => h h' F' N' a)

local macro_rules | `(tactic| walk_at "binaryOp Mult ref int") => `(tactic| (refine' mul_zero (by assumption) (by assumption) ?hm ?h0 ?h1 ?_; (case hm => k_mem); (case h0 => omega); (case h1 => omega); intro h' D' F' N' hD'))
local macro_rules | `(tactic| walk_at "setItem ref int") => `(tactic| (refine' set_own (by assumption) (by assumption) (by assumption) (by assumption) ?h0 ?h1 ?h2 ?_; (case h0 => omega); (case h1 => omega); (case h2 => omega); intro h' F' N' hI'))

def d0 : Rec := ⟨Str.ofString "", [], []⟩
abbrev befP (back : Bool) (τ : Int) (i j : Nat) : Prop := (if back = true then -τ else τ) < 0 ∨ ((if back = true then -τ else τ) = 0 ∧ i < j)
def cnt (cs : List Rec) (back : Bool) (j : Nat) : Nat → Nat
  | 0 => 0
  | i + 1 => cnt cs back j i + (if befP back (agR (cs.getD i d0) (cs.getD j d0)) i j then 1 else 0)
def outF (cs : List Rec) (back : Bool) : Nat → List Int
  | 0 => List.replicate cs.length 0
  | j + 1 => (outF cs back j).set (cnt cs back j cs.length) j
theorem outF_len (cs : List Rec) (back : Bool) : ∀ j, (outF cs back j).length = cs.length
  | 0 => by simp [outF]
  | j + 1 => by simp [outF, outF_len cs back j]
theorem agF_self : ∀ (ws : List Str) (vs : List Int), agF ws vs ws vs = 0
  | [], vs => by simp [agF]
  | w :: ws, vs => by
    unfold agF
    rw [if_neg (by simp)]
    cases vs with
    | nil => simp
    | cons v vs => simp only; rw [if_neg (by simp)]; exact agF_self ws vs
theorem cnt_le (cs : List Rec) (back : Bool) (j : Nat) : ∀ i, cnt cs back j i + (if j < i then 1 else 0) ≤ i
  | 0 => by simp [cnt]
  | i + 1 => by
    have ih := cnt_le cs back j i
    unfold cnt
    by_cases h : i = j
    · subst h
      have z : ¬ befP back (agR (cs.getD i d0) (cs.getD i d0)) i i := by
        unfold befP agR
        rw [agF_self]
        simp
      rw [if_neg z]
      simp at ih ⊢
      omega
    · split at ih <;> split <;> split <;> omega
theorem cnt_lt {cs : List Rec} {back : Bool} {j i : Nat} (h : j < i) : cnt cs back j i < i := by
  have := cnt_le cs back j i
  rw [if_pos h] at this
  omega
theorem ints_zero (t : Tok) : ∀ n, IntsAre (List.replicate n (Value.int 0 t)) (List.replicate n 0)
  | 0 => .nil
  | n + 1 => .cons 0 t (ints_zero t n)

theorem law_counted_spec {w : World} {s : Shared} {Q E : Value → Shared → Prop} {mean : ExcName → Option Value} {mg mb : Str → Option Value}
    (X : (hd.heap_39 w.params).In s.heap) (T : Top topProg LL mean mg mb s.heap) {l : Addr} {vs : List Value} {cs : List Rec} {back : Bool}
    (hl : LV s.heap l vs (cs.length : Int)) (hr : RecsIn s.heap vs cs)
    (ret : ∀ D os c h' tk', Kp s.heap h' → s.heap.get? D = none → h'.get? D = some (listOf os.toArray c) → IntsAre os (outF cs back cs.length) → Q (.ref D) { s with heap := h', toks := tk' }) :
    wpAny (model PySem.Challenge.rw_fe0146_01.row.prog w) (AA 700 4000) (call (.ref 79) [.ref l, .bool back]) Q E s := by
  have hlen : (cs.length : Int) ≤ 1000 := hl.2.2
  walk_at "mine enter"
  intro L h₁ tk F N
  k_fold
  k_steps
  rename IsRange _ _ _ _ _ _ _ _ => R1
  rename Fr _ _ _ _ => F1
  rename News _ _ _ _ => N1
  rename ∀ p ∈ _, _ ≠ _ => hD1
  unfold Held
  refine range_for cs.length (fun m₀ news j m nx => (∀ y, y ∉ [Str.ofString "spot", Str.ofString "ahead", Str.ofString "mate", Str.ofString "turn"] → m y = m₀ y) ∧
    ∃ D o rest os c, news = (D, o) :: rest ∧ nx = (D, listOf os.toArray c) :: rest ∧ IntsAre os (outF cs back j)) (by omega) (by omega) rfl R1 F1 N1 ⟨fun _ _ => rfl, ⟨_, _, _, _, _, rfl, rfl, by simpa [outF] using ints_zero _ cs.length⟩⟩ ?_ ?_
  · rintro j t m₁ nx h tk own hj ho ⟨hm, D, o, rest, os, c, e1, rfl, hI⟩ F' N'
    have e2 := (List.cons.inj e1).2
    have e4 := (congrArg Prod.fst (List.cons.inj e1).1).symm
    dsimp only at e4
    clear e1
    subst e4
    have hD2 : ∀ p ∈ rest, p.1 ≠ D := by rw [← e2]; exact hD1
    have hR : ∀ p ∈ rest ++ own, p.1 ≠ D := fun p hp => (List.mem_append.mp hp).elim (hD2 p) (fun q => ho p q _ (by simp))
    rw [List.cons_append] at N'
    obtain ⟨R, hRe⟩ : ∃ R, R = rest ++ own := ⟨_, rfl⟩
    rw [← hRe] at N' hR
    rw [frame_of [Str.ofString "spot", Str.ofString "ahead", Str.ofString "mate", Str.ofString "turn"] hm] at F'
    dsimp only [List.foldr] at F'
    obtain ⟨aj, itj, rj, okj⟩ := hr.2 j hj
    have hol := outF_len cs back j
    show wpAny _ _ _ _ _ _
    k_fold
    k_steps
    rename IsRange _ _ _ _ _ _ _ _ => R2
    rename Fr _ _ _ _ => F2
    rename News _ _ _ _ => N2
    unfold Held
    refine range_for cs.length (fun m₀ news i m nx => nx = news ∧ (∀ y, y ∉ [Str.ofString "ahead", Str.ofString "mate", Str.ofString "turn"] → m y = m₀ y) ∧
      ∃ t, m (Str.ofString "ahead") = some (.int (cnt cs back j i) t)) (by omega) (by omega) rfl R2 F2 N2 ⟨rfl, fun _ _ => rfl, _, rfl⟩ ?_ ?_
    · rintro i t m₁ nx h tk own₂ hi ho₂ ⟨rfl, hm, t₂, ha⟩ F' N'
      rw [frame_of [Str.ofString "ahead", Str.ofString "mate", Str.ofString "turn"] hm] at F'
      dsimp only [List.foldr] at F'
      rw [ha] at F'
      obtain ⟨ai, iti, ri, oki⟩ := hr.2 i hi
      have e3 : cnt cs back j (i + 1) = cnt cs back j i + (if befP back (agR (cs[i]) (cs[j])) i j then 1 else 0) := by
        conv => lhs; unfold cnt
        rw [List.getD_eq_getElem?_getD, List.getD_eq_getElem?_getD, List.getElem?_eq_getElem hi, List.getElem?_eq_getElem hj]
        rfl
      generalize cs[i] = ci at *
      generalize cs[j] = cj at *
      cases back
      all_goals (
        simp only [befP, Bool.false_eq_true, if_false, if_true] at e3
        show wpAny _ _ _ _ _ _
        k_fold
        k_steps
        all_goals (
          rename Fr _ _ _ _ => F9
          rename News _ _ _ _ => N9
          refine ⟨_, _, _, _, _, rfl, F9, N9, fun p hp => List.mem_append_left _ hp, fun p hp => List.mem_append_right _ hp, rfl, rfl, fun y hy => ?_, ?_⟩
          · simp only [List.mem_cons, List.not_mem_nil, or_false, not_or] at hy
            simp only [hy, if_false]
          · split at e3 <;> first
            | (exfalso; omega)
            | (rw [Nat.add_zero] at e3; rw [e3]; exact ⟨_, rfl⟩)
            | (have e5 : ((cnt cs _ j (i + 1) : Nat) : Int) = ((cnt cs _ j i : Nat) : Int) + 1 := by { rw [e3]; exact Int.natCast_add _ _ }
               rw [e5]; exact ⟨_, rfl⟩)))
    · rintro m₁ nx h tk ⟨rfl, hm, t₂, ha⟩ F' N'
      rw [frame_of [Str.ofString "ahead", Str.ofString "mate", Str.ofString "turn"] hm] at F'
      dsimp only [List.foldr] at F'
      rw [ha] at F'
      have hlt := cnt_lt (cs := cs) (back := back) hj
      show wpAny _ _ _ _ _ _
      k_steps
      rename Fr _ _ _ _ => F9
      rename News _ _ _ _ => N9
      rename IntsAre _ _ => I9
      refine ⟨_, _, _, _, (D, listOf (os.set ((cnt cs back j cs.length : Nat) : Int).toNat (.int (j : Int) t)).toArray c) :: rest, rfl, F9, N9, fun p hp => ?_, fun p hp => ?_, ?_, fun y hy => ?_, ?_⟩
      · rcases List.mem_cons.mp hp with rfl | hp
        · exact List.mem_cons_self
        · exact List.mem_cons_of_mem _ (by rw [hRe]; exact List.mem_append_left _ hp)
      · exact List.mem_cons_of_mem _ (by rw [hRe]; exact List.mem_append_right _ hp)
      · rw [← e2]; rfl
      · simp only [List.mem_cons, List.not_mem_nil, or_false, not_or] at hy
        simp only [hy, if_false]
      · exact ⟨_, _, rest, _, _, by rw [← e2], rfl, I9⟩
  · rintro m₁ nx h tk ⟨hm, D, o, rest, os, c, e1, rfl, hI⟩ F' N'
    have e4 := (congrArg Prod.fst (List.cons.inj e1).1).symm
    dsimp only at e4
    clear e1
    subst e4
    rw [frame_of [Str.ofString "spot", Str.ofString "ahead", Str.ofString "mate", Str.ofString "turn"] hm] at F'
    dsimp only [List.foldr] at F'
    show wpAny _ _ _ _ _ _
    k_steps
    exact ret D os c _ _ F'.keep (N' _ (.head _)).2.2 (N' _ (.head _)).1 hI
end Mine

open PySem PySem.W PyProof.Rows
set_option Elab.async false
set_option maxRecDepth 100000
set_option maxHeartbeats 8000000
namespace Mine
theorem fill_now4 {w : World} {h : Heap} (X : (hd.heap_39 w.params).In h) : (hd.heap_39 w.params).In h ∨ model PySem.Challenge.rw_fe0146_01.row.prog w = model PySem.Challenge.rw_fe0146_01.row.prog w := by
  k_fill
  exact .inl X
local macro_rules | `(tactic| walk_at "mine enter") => `(tactic| (
  refine' enterP (by assumption) (by assumption) ?k6 ?k7 ?k8 ?k9 ?kB ?_ ?c5 ?c2 ?c3 ?c4
  (case k6 => k_is)
  (case k7 => k_is)
  (case k8 => decide)
  (case k9 => exact BindsTo.of_eq rfl)
  (case c5 => decide)
  (case kB => exact locs rfl)
  (case c2 => exact rfl)
  (case c3 => exact rfl)
  (case c4 => exact rfl)))
local macro_rules | `(tactic| walk_at "pyIter str") => `(tactic| (k_here; with_reducible refine held ?_))
local macro_rules | `(tactic| walk_at "exec For Name Name cons nil") => `(tactic| (k_here; (rename Fr _ _ _ _ => lF'); (with_unfolding_all refine' For_invVF lF' ?k1 ?k2 ?_; (case k1 => exact rfl); (case k2 => exact rfl); k_whole)))

section
variable {prog : Program} {w : World} {A : Around} {E : Value → Shared → Prop} {s : Shared} {env : Env} {h₀ : Heap} {x : Str} {body : List Stmt} {Q : Flow → Shared → Prop}
theorem str_for {xt : Str} {tx : Tok} {m₀ : Str → Option Value} {news : List (Addr × Obj)} (J : (Str → Option Value) → List (Addr × Obj) → Nat → (Str → Option Value) → List (Addr × Obj) → Prop)
    (hh : A.handled = none) (F : Fr h₀ env.locals s.heap m₀) (N : News h₀ env.locals s.heap news) (hj : J m₀ news 0 m₀ news)
    (turn : ∀ i c t m₁ nx h tk own, xt.cps[i]? = some c → OwnOff own (news.map (·.1)) → J m₀ news i m₁ nx → Fr h₀ env.locals h (fun y => if y = x then some (.str ⟨#[c]⟩ t) else m₁ y) → News h₀ env.locals h (nx ++ own) →
      wpAny (model prog w) A (execs body env) (InvPostN h₀ env.locals (J m₀ news (i + 1)) own (news.map (·.1)) { s with heap := h, toks := tk } Q) E { s with heap := h, toks := tk })
    (done : ∀ m₁ nx h tk, J m₀ news xt.cps.size m₁ nx → Fr h₀ env.locals h m₁ → News h₀ env.locals h nx → Q .next { s with heap := h, toks := tk }) :
    wpAny (model prog w) A (pyIter (.str xt tx)) (fun it s₂ => LoopAtV prog w A h₀ env x body Q E it s₂) E s := by
  refine wpAny_pyIter_str fun o St hW hst => ?_
  have W := hW A hh
  refine loop_invN (J m₀ news) W ?_ ?_ ?_ ?_ hst (F.push _) (fun p hp => ⟨Heap.get?_push_of_some _ (N p hp).1, (N p hp).2⟩) hj ?_ ?_
  · intro hm
    exact absurd F.ns.lt ((List.mem_singleton.mp hm) ▸ Nat.lt_irrefl _)
  · intro b' hb
    rw [List.mem_singleton.mp hb]
    exact next_is_new F
  · intro p hp hI
    exact absurd (Heap.lt_size (N p hp).1) ((List.mem_singleton.mp hI) ▸ Nat.lt_irrefl _)
  · intro p hp hI
    exact absurd (Heap.lt_size (N p hp).1) ((List.mem_singleton.mp hI) ▸ Nat.lt_irrefl _)
  · rintro i v m₁ nx h tk own hi ⟨n, u, hn, rfl⟩ _ hoff hJ F₁ N₁
    exact turn i n u m₁ nx h tk own hn hoff hJ F₁ N₁
  · intro m₁ nx h tk hJ F₁ N₁
    exact done m₁ nx h tk hJ F₁ N₁
end

section
variable {prog : Program} {w : World} {A : Around} {s : Shared} {E : Value → Shared → Prop} {h₀ : Heap} {L D : Addr} {m : Str → Option Value} {rest : List (Addr × Obj)} {vs us : List Value} {c : Nat} {v v' : Value} {t : Tok}
theorem append_own {Q : Value → Shared → Prop} (F : Fr h₀ L s.heap m) (N : News h₀ L s.heap ((D, listOf vs.toArray c) :: rest)) (hr : ∀ p ∈ rest, p.1 ≠ D) (hs : vs.length ≤ 1000)
    (h : ∀ h', Fr h₀ L h' m → News h₀ L h' ((D, listOf (vs ++ [v]).toArray (c + 1)) :: rest) → Q .none { s with heap := h' }) : wpAny (model prog w) A (call (.builtin "list.append") [.ref D, v]) Q E s := by
  refine append_K F N (Upd.head hr) (fun h' F' N' => h h' F' ?_) (by rw [List.size_toArray, sizeLine_eq]; omega)
  have e : vs.toArray.push v = (vs ++ [v]).toArray := by apply Array.toList_inj.mp; simp
  rw [e] at N'
  exact N'
theorem len_own {Q : Value → Shared → Prop} (N : News h₀ L s.heap ((D, listOf vs.toArray c) :: rest)) {n : Int} (hn : (vs.length : Int) = n) (hs : vs.length ≤ 1000) (h : Q (.int n (s.toks + 1)) { s with toks := s.toks + 1 + 1 }) :
    wpAny (model prog w) A (call (.builtin "len") [.ref D]) Q E s := by
  have e : ((vs.toArray.size : Nat) : Int) = n := by simpa using hn
  exact len_list (PySem.IsL.isList (n := c) (N _ (.head _)).1) (by omega) (by rw [e]; exact h)
theorem star_own {Q : List Value → Shared → Prop} (F : Fr h₀ L s.heap m) (N : News h₀ L s.heap ((D, listOf vs.toArray c) :: rest)) (hs : vs.length ≤ 1000)
    (h : ∀ h', Fr h₀ L h' m → News h₀ L h' ((D, listOf vs.toArray c) :: rest) → Q vs { s with heap := h' }) : StarOf (model prog w) A E (.ref D) Q s :=
  star_seq F N (.head _) rfl rfl (.inl rfl) (by simp) (by rw [List.size_toArray, sizeLine_eq]; omega) h
theorem last_get {Q : Value → Shared → Prop} (N : News h₀ L s.heap ((D, listOf (us ++ [v]).toArray c) :: rest)) (h : Q v s) : wpAny (model prog w) A (getItem (.ref D) (.int (-1) t)) Q E s := by
  refine wpAny_getItem_list_neg (PySem.IsL.isList (n := c) (N _ (.head _)).1) (by omega) (by simp only [List.size_toArray, List.length_append, List.length_singleton]; omega) (by omega) ?_ h
  have e : (-1 + (((us ++ [v]).toArray.size : Nat) : Int)).toNat = us.length := by simp only [List.size_toArray, List.length_append, List.length_singleton]; omega
  rw [e]
  simp
theorem last_set {Q : Unit → Shared → Prop} (F : Fr h₀ L s.heap m) (N : News h₀ L s.heap ((D, listOf (us ++ [v]).toArray c) :: rest)) (hr : ∀ p ∈ rest, p.1 ≠ D)
    (h : ∀ h', Fr h₀ L h' m → News h₀ L h' ((D, listOf (us ++ [v']).toArray c) :: rest) → Q () { s with heap := h' }) : wpAny (model prog w) A (setItem (.ref D) (.int (-1) t) v') Q E s := by
  have z := N _ (.head _)
  have e : (-1 + (((us ++ [v]).toArray.size : Nat) : Int)).toNat = us.length := by simp only [List.size_toArray, List.length_append, List.length_singleton]; omega
  refine ki_setBack z.1 (by omega) (by simp only [List.size_toArray, List.length_append, List.length_singleton]; omega) (by omega) (h _ (F.change (Heap.SameBut.update ..) z.2.1 z.2.2) (ki_turn (pre := []) _ N (fun p hp => by cases hp) hr ?_ ?_))
  · rw [e]
    apply Array.toList_inj.mp
    simp
  · simp
end

theorem end_own {prog : Program} {h₀ h' : Heap} {L D : Addr} {m' : Str → Option Value} {o : Obj} {rest own R : List (Addr × Obj)} {adr : List Addr} {J : (Str → Option Value) → List (Addr × Obj) → Prop} {s₁ : Shared} {tk : Nat}
    (F : Fr h₀ L h' m') (N : News h₀ L h' ((D, o) :: R)) (hRe : R = rest ++ own) (ha : ((D, o) :: rest).map (·.1) = adr) (hJ : J m' ((D, o) :: rest)) : InvEndN h₀ L J own adr s₁ { s₁ with heap := h', toks := tk } := by
  refine ⟨_, _, _, _, (D, o) :: rest, rfl, F, N, fun p hp => ?_, fun p hp => ?_, ha, hJ⟩
  · rcases List.mem_cons.mp hp with rfl | hp
    · exact List.mem_cons_self
    · exact List.mem_cons_of_mem _ (by rw [hRe]; exact List.mem_append_left _ hp)
  · exact List.mem_cons_of_mem _ (by rw [hRe]; exact List.mem_append_right _ hp)

def runStep (r : List Str × Str) (c : Nat) : List Str × Str :=
  if (Txt.isdecimal ⟨#[c]⟩ == (((r.1.length : Int) + 1).fmod 2 == 1)) = true then (r.1 ++ [r.2], Str.ofString "" ++ ⟨#[c]⟩) else (r.1, r.2 ++ ⟨#[c]⟩)
def runF (l : List Nat) : List Str × Str := l.foldl runStep ([], Str.ofString "")
def runsF (l : List Nat) : List Str := if (((runF l).1.length : Int) + 1).fmod 2 = 1 then (runF l).1 ++ [(runF l).2] else (runF l).1 ++ [(runF l).2, Str.ofString ""]

local macro_rules | `(tactic| walk_at "call builtin:len") => `(tactic| (refine len_own (by assumption) (by first | assumption | rfl) (by first | omega | (simp; omega)) ?_))
local macro_rules | `(tactic| walk_at "call builtin:list.append") => `(tactic| (refine append_own (by assumption) (by assumption) (by assumption) (by first | omega | (simp; omega)) ?_; intro h' F' N'))
local macro_rules | `(tactic| walk_at "StarOf ref") => `(tactic| (refine star_own (by assumption) (by assumption) (by first | omega | (simp; omega)) ?_; intro h' F' N'))
local macro_rules | `(tactic| walk_at "getItem ref int") => `(tactic| (refine last_get (by assumption) ?_))
local macro_rules | `(tactic| walk_at "setItem ref int") => `(tactic| (refine last_set (by assumption) (by assumption) (by assumption) ?_; intro h' F' N'))
local macro_rules | `(tactic| walk_at "mine pad") => `(tactic| skip)

theorem digit_runs_spec {w : World} {s : Shared} {Q E : Value → Shared → Prop} {mean : ExcName → Option Value} {mg mb : Str → Option Value}
    (X : (hd.heap_39 w.params).In s.heap) (T : Top topProg LL mean mg mb s.heap) {xt : Str} {tx : Tok} (hx : xt.cps.size ≤ 100)
    (ret : ∀ (D : Addr) (os : List Value) (c : Nat) h' tk', Kp s.heap h' → s.heap.get? D = none → h'.get? D = some (listOf os.toArray c) → os.map st = (runsF xt.cps.toList).map sv → Q (.ref D) { s with heap := h', toks := tk' }) :
    wpAny (model PySem.Challenge.rw_fe0146_01.row.prog w) (AA 600 3000) (call (.ref 21) [.str xt tx]) Q E s := by
  walk_at "mine enter"
  intro L h₁ tk F N
  k_fold
  k_steps
  rename Fr _ _ _ _ => F1
  rename News _ _ _ _ => N1
  unfold Held
  refine str_for (fun m₀ news i m nx => (∀ y, y ∉ [Str.ofString "sign"] → m y = m₀ y) ∧
    ∃ D o rest us x t c, news = (D, o) :: rest ∧ nx = (D, listOf (us ++ [.str x t]).toArray c) :: rest ∧ us.map st = (runF (xt.cps.toList.take i)).1.map sv ∧ x = (runF (xt.cps.toList.take i)).2 ∧ us.length ≤ i ∧ x.length ≤ i)
    rfl F1 N1 ⟨fun _ _ => rfl, ⟨_, _, _, [], _, _, _, rfl, rfl, rfl, rfl, Nat.zero_le _, Nat.zero_le _⟩⟩ ?_ ?_
  · rintro i n t m₁ nx h tk own hi ho ⟨hm, D, o, rest, us, x, t', c, e1, rfl, hu, hx, hl, hl'⟩ F' N'
    have e2 := (List.cons.inj e1).2
    have e4 := (congrArg Prod.fst (List.cons.inj e1).1).symm
    dsimp only at e4
    clear e1
    subst e4
    have hR : ∀ p ∈ rest ++ own, p.1 ≠ D := fun p hp => (List.mem_append.mp hp).elim (fun q => by rw [← e2] at q; cases q) (fun q => ho p q _ (by simp))
    rw [List.cons_append] at N'
    obtain ⟨R, hRe⟩ : ∃ R, R = rest ++ own := ⟨_, rfl⟩
    rw [← hRe] at N' hR
    rw [frame_of [Str.ofString "sign"] hm] at F'
    dsimp only [List.foldr] at F'
    have hin : i < xt.cps.size := by
      rcases Nat.lt_or_ge i xt.cps.size with q | q
      · exact q
      · rw [Array.getElem?_eq_none q] at hi; cases hi
    have hn : (((us ++ [Value.str x t']).length : Nat) : Int) = (us.length : Int) + 1 := by simp
    show wpAny _ _ _ _ _ _
    have hlu : us.length = (runF (xt.cps.toList.take i)).1.length := by simpa using congrArg List.length hu
    have etk : xt.cps.toList.take (i + 1) = xt.cps.toList.take i ++ [n] := by rw [List.take_add_one]; simp [hi]
    have erun : runF (xt.cps.toList.take (i + 1)) = runStep (runF (xt.cps.toList.take i)) n := by rw [etk]; unfold runF; rw [List.foldl_append]; rfl
    rw [hlu] at hn
    generalize runF (xt.cps.toList.take i) = r at *
    have l1 : ∀ z : Str, (z ++ (⟨#[n]⟩ : Str)).length = z.length + 1 := fun z => by simp [Str.length_append]; rfl
    show wpAny _ _ _ _ _ _
    k_fold
    k_steps
    all_goals (
      rename Fr _ _ _ _ => F9
      rename News _ _ _ _ => N9
      refine end_own (prog := PySem.Challenge.rw_fe0146_01.row.prog) F9 N9 hRe (by rw [← e2]; rfl) ⟨fun y hy => ?_, D, _, rest, _, _, _, _, by rw [← e2], rfl, ?_, ?_, ?_, ?_⟩
      · simp only [List.mem_cons, List.not_mem_nil, or_false, not_or] at hy
        simp only [hy, if_false]
      · rw [erun]; unfold runStep
        first
        | (rw [if_pos (by assumption)]; simp [hu, hx, st, sv])
        | (rw [if_neg (by simp only [Bool.not_eq_true]; assumption)]; exact hu)
      · rw [erun]; unfold runStep
        first
        | (rw [if_pos (by assumption)])
        | (rw [if_neg (by simp only [Bool.not_eq_true]; assumption)]; rw [hx])
      · first | (simp; omega) | omega
      · rw [l1]; first | omega | (show (Str.ofString "").length + 1 ≤ i + 1; have : (Str.ofString "").length = 0 := by decide +kernel
                                  omega))
  · rintro m₁ nx h tk ⟨hm, D, o, rest, us, x, t', c, e1, rfl, hu, hx, hl, hl'⟩ F' N'
    have e2 := (List.cons.inj e1).2
    have e4 := (congrArg Prod.fst (List.cons.inj e1).1).symm
    dsimp only at e4
    clear e1
    subst e4
    have hR : ∀ p ∈ rest, p.1 ≠ D := fun q => by rw [← e2]; intro h; cases h
    rw [frame_of [Str.ofString "sign"] hm] at F'
    dsimp only [List.foldr] at F'
    have etk : xt.cps.toList.take xt.cps.size = xt.cps.toList := List.take_of_length_le (by simp)
    rw [etk] at hu hx
    have hn : (((us ++ [Value.str x t']).length : Nat) : Int) = (us.length : Int) + 1 := by simp
    have hlu : us.length = (runF xt.cps.toList).1.length := by simpa using congrArg List.length hu
    rw [hlu] at hn
    show wpAny _ _ _ _ _ _
    k_steps
    · refine ret D _ _ _ _ F'.keep (N' _ (.head _)).2.2 (N' _ (.head _)).1 ?_
      unfold runsF
      rw [if_pos (by assumption)]
      simp [hu, hx, st, sv]
    · rename Fr _ _ _ _ => F9
      rename News _ _ _ _ => N9
      refine ret _ _ _ _ _ F9.keep (N9 _ (.head _)).2.2 (N9 _ (.head _)).1 ?_
      unfold runsF
      rw [if_neg (by assumption)]
      simp [hu, hx, st, sv]
end Mine

open PySem PySem.W PyProof.Rows
set_option Elab.async false
set_option maxRecDepth 100000
set_option maxHeartbeats 8000000
namespace Mine
theorem fill_now5 {w : World} {h : Heap} (X : (hd.heap_39 w.params).In h) : (hd.heap_39 w.params).In h ∨ model PySem.Challenge.rw_fe0146_01.row.prog w = model PySem.Challenge.rw_fe0146_01.row.prog w := by
  k_fill
  exact .inl X
local macro_rules | `(tactic| walk_at "mine enter") => `(tactic| (
  refine' enterP (by assumption) (by assumption) ?k6 ?k7 ?k8 ?k9 ?kB ?_ ?c5 ?c2 ?c3 ?c4
  (case k6 => k_is)
  (case k7 => k_is)
  (case k8 => decide)
  (case k9 => exact BindsTo.of_eq rfl)
  (case c5 => decide)
  (case kB => exact locs rfl)
  (case c2 => exact rfl)
  (case c3 => exact rfl)
  (case c4 => exact rfl)))
def AtoiOk (x : Str) : Prop := x.length ≤ 640 ∧ (Txt.isdigit x = true → ∃ n, PySem.intText? x = some n)
def atoiV (x : Str) : Value := if Txt.isdigit x = true then iv ((PySem.intText? x).getD 0) else sv x

theorem atoi_spec {w : World} {s : Shared} {Q E : Value → Shared → Prop} {mean : ExcName → Option Value} {mg mb : Str → Option Value}
    (X : (hd.heap_39 w.params).In s.heap) (T : Top topProg LL mean mg mb s.heap) {x : Str} {t : Tok} (ok : AtoiOk x)
    (ret : ∀ v h' tk', Kp s.heap h' → st v = atoiV x → Q v { s with heap := h', toks := tk' }) :
    wpAny (model PySem.Challenge.rw_fe0146_01.row.prog w) (AA 600 3000) (call (.ref 36) [.str x t]) Q E s := by
  walk_at "mine enter"
  intro L h₁ tk F N
  k_fold
  k_steps
  · obtain ⟨n, hn⟩ := ok.2 (by assumption)
    refine KIN.call_text hn ok.1 ?_
    refine ret _ _ _ F.keep ?_
    unfold atoiV
    rw [if_pos (by assumption), hn]
    rfl
  · refine ret (.str x t) _ _ F.keep ?_
    unfold atoiV
    rw [if_neg (by simp only [Bool.not_eq_true]; assumption)]
    rfl
section
variable {prog : Program} {w : World} {A : Around} {E : Value → Shared → Prop} {env : Env} {s : Shared}
theorem tests_nil {prog : Program} {w : World} {A : Around} {E : Value → Shared → Prop} {s : Shared} {ce : Env} {Q : Bool → Shared → Prop} (h : Q true s) :
    wpAny (model prog w) A (forIn ([] : List PySem.Expr) true fun c r => if r = true then do let ok ← isTrue c ce (eval c ce); pure (ForInStep.yield ok) else pure (ForInStep.yield r)) Q E s := by
  rw [List.forIn_nil]
  exact wpAny_pure h
theorem comp_list {elt iter : PySem.Expr} {x : Str} {px : Pos} {scope : Scope} {cl : List (Str × Addr)} {pos : Pos} {Q : Value → Shared → Prop} (G : Value → Value → Prop) (hh : A.handled = none)
    (hclos : closureFor scope env = pure cl) (hcell : ∀ y ∈ scope.names, y.2 ≠ .cell) (hkind : scope.kind = .function)
    (hnames : ∀ y ∈ scope.names, y.2 = .local → scope.names.lookup y.1 = some .local) (hx : scope.names.lookup x = some .local)
    (h : wpAny (model prog w) A (eval iter env) (fun xv s₁ => Held (∃ (l : Addr) (vs : List Value), xv = .ref l ∧ s₁.heap.IsList l vs.toArray ∧ vs.length ≤ 1000 ∧
      (∀ C (i : Nat) v s₃ m₃, s₁.heap.objs.size ≤ C → vs[i]? = some v → s₃.heap.Ns C m₃ → m₃ x = some v → Kp s₁.heap s₃.heap →
        wpAny (model prog w) A (eval elt (compEnvC scope cl C env)) (fun y s₄ => G v y ∧ Keeps s₃ s₄) (fun _ _ => False) s₃) ∧
      (∀ (D : Addr) h' tk (ys : List Value) (c : Nat), s₁.heap.get? D = none → h'.get? D = some (listOf ys.toArray c) → Paired G vs ys → Kp s₁.heap h' → Q (.ref D) { s₁ with heap := h', toks := tk }))) E s)
    (hs : ∀ x, foldedSetIterable iter env x = pure x := by intro _; rfl) :
    wpAny (model prog w) A (eval (.ListComp elt [⟨.Name x px, iter, [], 0⟩] scope pos) env) Q E s := by
  refine wpAny_ListComp_free (fun _ => true) G hclos hcell hkind hnames hx (wpAny_mono h (fun xv s₁ h₁ => ?_) fun _ _ e => e) hs
  obtain ⟨l, vs, rfl, hl, hlen, helt, hQ⟩ := h₁
  have hlt : l < s₁.heap.objs.size := by obtain ⟨o, ho, _⟩ := hl; exact Heap.lt_size ho
  have hne : l ≠ s₁.heap.objs.size := Nat.ne_of_lt hlt
  refine wpAny_pyIter_list hl ?_
  have W := Walks.list (prog := prog) (w := w) hh s₁.heap.objs.size l hne vs.toArray
  have up : ∀ h' : Heap, (∀ b o, b ∉ [s₁.heap.objs.size] → (s₁.heap.push { cls := .type "list_iterator", data := .fields #[.ref l, .int 0 0] }).get? b = some o → h'.get? b = some o) → Kp s₁.heap h' := fun h' k b o e =>
    k b o (by simp; exact Nat.ne_of_lt (Heap.lt_size e)) (Heap.get?_push_of_some _ e)
  refine ⟨_, _, _, _, _, _, rfl, W, by rw [List.size_toArray, sizeLine_eq]; omega, ⟨⟨_, Heap.get?_push_size _ rfl, rfl, rfl⟩, hl.at fun o e => Heap.get?_push_of_some _ e⟩, ?_, ⟨?_, ?_⟩, ?_⟩
  · intro b hb
    simp only [List.mem_cons, List.not_mem_nil, or_false] at hb
    rw [Heap.size_push]
    rcases hb with rfl | rfl
    · exact Nat.lt_succ_self _
    · exact Nat.lt_succ_of_lt hlt
  · intro C i v s₃ m₃ E' _ hP hn hm hk _
    exact tests_nil ⟨rfl, ⟨s₃.heap, s₃.toks, rfl, fun _ _ e => e⟩⟩
  · intro C i v s₃ m₃ E' hC hP _ hn hm hk _
    refine wpAny_mono (helt C i v s₃ m₃ ?_ (by simpa using hP) hn hm (up _ hk)) (fun _ _ x => x) fun _ _ x => x.elim
    rw [Heap.size_push] at hC
    exact Nat.le_of_succ_le hC
  · intro D h' tk ys us hD hL hPl hlen' hP hF hk
    have hus : us = vs := by
      apply List.ext_getElem?
      intro j
      rcases Nat.lt_or_ge j us.length with q | q
      · have e : us[j]? = some us[j] := List.getElem?_eq_getElem q
        have := hP j _ e
        rw [e]
        simpa using this.symm
      · rw [List.getElem?_eq_none q, List.getElem?_eq_none]
        have : us.length = vs.length := by simpa using hlen'
        omega
    subst hus
    obtain ⟨c, hc⟩ := hPl
    have ef : us.filter (fun _ => true) = us := List.filter_eq_self.mpr (fun _ _ => rfl)
    rw [ef] at hF
    refine hQ D h' tk ys.toList c ?_ (by simpa using hc) hF (up _ hk)
    cases e : s₁.heap.get? D with
    | none => rfl
    | some o => rw [Heap.get?_push_of_some _ e] at hD; cases hD
end
theorem digit_runs_call {w : World} {A : Around} {s : Shared} {Q E : Value → Shared → Prop} {mean : ExcName → Option Value} {mg mb : Str → Option Value} {h₀ : Heap} {L : Addr} {m : Str → Option Value} {news : List (Addr × Obj)}
    (F : Fr h₀ L s.heap m) (N : News h₀ L s.heap news) (X : (hd.heap_39 w.params).In h₀) (T : Top topProg LL mean mg mb h₀) (hh : A.handled = none) (hd : A.depth ≤ 600) (hu : A.units ≤ 3000) {xt : Str} {tx : Tok} (hx : xt.cps.size ≤ 100)
    (ret : ∀ (D : Addr) (os : List Value) (c : Nat) h' tk', Kp s.heap h' → s.heap.get? D = none → h'.get? D = some (listOf os.toArray c) → os.map st = (runsF xt.cps.toList).map sv → Fr h₀ L h' m → News h₀ L h' news → Q (.ref D) { s with heap := h', toks := tk' }) :
    wpAny (model PySem.Challenge.rw_fe0146_01.row.prog w) A (call (.ref 21) [.str xt tx]) Q E s :=
  wpAA (d := 600) (u := 3000) (digit_runs_spec (X.keeps F.keep) (T.keeps F.keep) hx (fun D os c h' tk' k a b e => ret D os c h' tk' k a b e (F.kept k) (N.grown k))) hh hd hu
theorem atoi_call {w : World} {A : Around} {s : Shared} {Q E : Value → Shared → Prop} {mean : ExcName → Option Value} {mg mb : Str → Option Value} {h₀ : Heap} {L : Addr} {m : Str → Option Value} {news : List (Addr × Obj)}
    (F : Fr h₀ L s.heap m) (N : News h₀ L s.heap news) (X : (hd.heap_39 w.params).In h₀) (T : Top topProg LL mean mg mb h₀) (hh : A.handled = none) (hd : A.depth ≤ 600) (hu : A.units ≤ 3000) {x : Str} {t : Tok} (ok : AtoiOk x)
    (ret : ∀ v h' tk', Kp s.heap h' → st v = atoiV x → Fr h₀ L h' m → News h₀ L h' news → Q v { s with heap := h', toks := tk' }) :
    wpAny (model PySem.Challenge.rw_fe0146_01.row.prog w) A (call (.ref 36) [.str x t]) Q E s :=
  wpAA (d := 600) (u := 3000) (atoi_spec (X.keeps F.keep) (T.keeps F.keep) ok (fun v h' tk' k e => ret v h' tk' k e (F.kept k) (N.grown k))) hh hd hu
local macro_rules | `(tactic| walk_at "call ref") => `(tactic| (
  (with_reducible show wpAny _ _ (call (Value.ref 21) [Value.str _ _]) _ _ _);
  refine' digit_runs_call (by assumption) (by assumption) (by assumption) (by assumption) rfl (by exact Nat.le_of_ble_eq_true rfl) (by exact Nat.le_of_ble_eq_true rfl) (by assumption) ?_; intro D' os' c' h' tk' hK' hD' hD'' he' F' N'))
local macro_rules | `(tactic| walk_at "call ref") => `(tactic| (
  (with_reducible show wpAny _ _ (call (Value.ref 36) [Value.str _ _]) _ _ _);
  refine' atoi_call (by assumption) (by assumption) (by assumption) (by assumption) rfl (by exact Nat.le_of_ble_eq_true rfl) (by exact Nat.le_of_ble_eq_true rfl) (by assumption) ?_; intro v' h' tk' hK' he' F' N'))
theorem runF_len : ∀ (l : List Nat) (r : List Str × Str), (l.foldl runStep r).1.length ≤ r.1.length + l.length
  | [], r => by simp
  | c :: l, r => by
    have ih := runF_len l (runStep r c)
    have e : (runStep r c).1.length ≤ r.1.length + 1 := by unfold runStep; split <;> simp
    simp only [List.foldl_cons, List.length_cons]
    omega
theorem runsF_len (l : List Nat) : (runsF l).length ≤ l.length + 2 := by
  have h := runF_len l ([], Str.ofString "")
  unfold runsF runF
  split <;> simp at h ⊢ <;> omega
theorem paired_atoi {xs : List Str} : ∀ {vs ys : List Value}, vs.map st = xs.map sv → Paired (fun v y => ∃ x t, v = Value.str x t ∧ st y = atoiV x) vs ys → ys.map st = xs.map atoiV := by
  induction xs with
  | nil =>
    intro vs ys e p
    cases vs with
    | nil => cases p; rfl
    | cons v vs => simp at e
  | cons x xs ih =>
    intro vs ys e p
    cases p with
    | nil => simp at e
    | cons h t =>
      simp only [List.map_cons, List.cons.injEq] at e ⊢
      obtain ⟨z, tk, rfl, hy⟩ := h
      refine ⟨?_, ih e.2 t⟩
      have : z = x := by simpa [st, sv] using e.1
      rw [hy, this]

local macro_rules | `(tactic| walk_at "eval ListComp") => `(tactic| (k_here; with_reducible refine held ?_))
theorem natural_keys_spec {w : World} {s : Shared} {Q E : Value → Shared → Prop} {mean : ExcName → Option Value} {mg mb : Str → Option Value}
    (X : (hd.heap_39 w.params).In s.heap) (T : Top topProg LL mean mg mb s.heap) {xt : Str} {tx : Tok} (hx : xt.cps.size ≤ 100) (ok : ∀ x ∈ runsF xt.cps.toList, AtoiOk x)
    (ret : ∀ (D : Addr) (os : List Value) (c : Nat) h' tk', Kp s.heap h' → s.heap.get? D = none → h'.get? D = some (listOf os.toArray c) → os.map st = (runsF xt.cps.toList).map atoiV → Q (.ref D) { s with heap := h', toks := tk' }) :
    wpAny (model PySem.Challenge.rw_fe0146_01.row.prog w) (AA 500 2000) (call (.ref 41) [.str xt tx]) Q E s := by
  walk_at "mine enter"
  intro L h₁ tk F N
  k_fold
  k_steps
  unfold Held
  refine comp_list (cl := []) (fun v y => ∃ x t, v = Value.str x t ∧ st y = atoiV x) rfl (closureFor_none (by decide)) (by decide) rfl (by decide) (by decide) ?_
  k_fold
  k_steps
  rename Fr _ _ _ _ => F1
  rename List.map st _ = _ => he
  rename Heap.get? _ _ = some _ => hD
  unfold Held
  have hlen := runsF_len xt.cps.toList
  have hlen2 := congrArg List.length he
  simp only [List.length_map] at hlen2
  refine ⟨_, _, rfl, PySem.IsL.isList hD, by simp at hlen; omega, ?_, ?_⟩
  · intro C i v s₃ m₃ hC hv hn hm hk
    have hi : i < (runsF xt.cps.toList).length := by
      rcases Nat.lt_or_ge i (runsF xt.cps.toList).length with q | q
      · exact q
      · rw [List.getElem?_eq_none (by omega)] at hv; cases hv
    obtain ⟨t', it⟩ := item_s he (i := i) hi
    have hv' : v = .str (runsF xt.cps.toList)[i] t' := by
      unfold ItAt at it
      rw [Int.toNat_natCast, hv] at it
      exact Option.some.inj it
    subst hv'
    have okx := ok _ (List.getElem_mem hi)
    generalize (runsF xt.cps.toList)[i] = x at *
    have F3 : Fr s.heap C s₃.heap m₃ := ⟨hn, fun b o e => hk b o (F1.keep b o e), Nat.le_trans F1.above (Nat.le_trans (Nat.le_of_lt F1.ns.lt) hC)⟩
    have N3 : News s.heap C s₃.heap [] := News.nil
    rw [frame_of (m₀ := m₃) [Str.ofString "c"] (fun _ _ => rfl)] at F3
    dsimp only [List.foldr] at F3
    rw [hm] at F3
    refine wpAny_mono (Q := fun y s₄ => Held ((∃ z u, Value.str x t' = Value.str z u ∧ st y = atoiV z) ∧ Keeps s₃ s₄)) ?_ (fun _ _ x => x) (fun _ _ x => x)
    k_fold
    k_steps
    all_goals (try k_data)
    rename st _ = atoiV _ => e9
    rename Kp _ _ => k9
    exact ⟨⟨_, _, rfl, e9⟩, ⟨_, _, rfl, k9⟩⟩
  · intro D h' tk' ys c hD0 hD1 hp hk
    refine ret D ys c h' tk' (fun b o e => hk b o (F1.keep b o e)) ?_ hD1 (paired_atoi he hp)
    cases e : s.heap.get? D with
    | none => rfl
    | some o => rw [F1.keep D o e] at hD0; cases hD0
end Mine

open PySem PySem.W PyProof.Rows
set_option Elab.async false
set_option maxRecDepth 100000
set_option maxHeartbeats 8000000
namespace Mine
def vLt : Value → Value → Bool
  | .str a _, .str b _ => decide (a.cps.toList < b.cps.toList)
  | .int a _, .int b _ => decide (a < b)
  | _, _ => false
def lsLt : List Value → List Value → Bool
  | x :: xs, y :: ys => if st x = st y then lsLt xs ys else vLt x y
  | xs, ys => decide (xs.length < ys.length)
/-- two values of one plain kind -/
inductive Same2 : Value → Value → Prop
  | str (a : Str) (t : Tok) (b : Str) (u : Tok) : Same2 (.str a t) (.str b u)
  | int (a : Int) (t : Tok) (b : Int) (u : Tok) : Same2 (.int a t) (.int b u)
def Compat (xs ys : List Value) : Prop := ∀ (j : Nat) (x y : Value), xs[j]? = some x → ys[j]? = some y → Same2 x y

section
variable {prog : Program} {w : World} {A : Around} {E : Value → Shared → Prop} {s : Shared}
theorem eqB {x y : Value} (c : Same2 x y) {Q : Bool → Shared → Prop} (h : Q (decide (st x = st y)) s) : wpAny (model prog w) A (eqBool x y) Q E s := by
  cases c with
  | str a t b u =>
    refine eqBool_str ?_
    have e : (a == b) = decide (st (.str a t) = st (.str b u)) := by
      rw [Bool.eq_iff_iff]
      simp [st]
    rw [e]; exact h
  | int a t b u =>
    refine wpAny_eqBool_int ?_
    have e : (a == b) = decide (st (.int a t) = st (.int b u)) := by
      rw [Bool.eq_iff_iff]
      simp [st]
    rw [e]; exact h
theorem ltB {x y : Value} (c : Same2 x y) {Q : Value → Shared → Prop} (h : Q (.bool (vLt x y)) s) : wpAny (model prog w) A (richCompare .Lt x y) Q E s := by
  cases c with
  | str a t b u => exact PyProof.Rows.lt_str h
  | int a t b u => exact PyProof.Rows.lt_int h
end

theorem plain_eqloop : plainId "list.__eq__.loop" = true := by decide +kernel
theorem entry_eqloop : entryFor table "list.__eq__.loop" = some Builtin.«list.__eq__.loop» := entryFor_of_fast (by kernel_rfl)

abbrev LObj (xs : List Value) (n : Nat) : Obj := { cls := .type "list", data := .seq xs.toArray n }

theorem loop_lt (a b : Addr) (xs ys : List Value) (n m : Nat) (hc : Compat xs ys) (k : Nat) :
    ∀ i : Nat, xs.length - i = k → i ≤ xs.length → i ≤ ys.length → Meets (Builtin.«list.__eq__.loop» ⟨[.ref a, .ref b, rawInt (i : Int), rawInt 0], []⟩)
      (fun _ R s => s.heap.get? a = some (LObj xs n) ∧ s.heap.get? b = some (LObj ys m) ∧ R (.ok (.ret (.bool (lsLt (xs.drop i) (ys.drop i))))) s) := by
  induction k with
  | zero =>
    intro i hk hi1 hi2 prog w A R s h
    obtain ⟨ha, hb, h⟩ := h
    have hix : xs.toArray[((i : Nat) : Int).toNat]? = none := by simp; omega
    have hd : xs.drop i = [] := by simp; omega
    unfold Builtin.«list.__eq__.loop»
    refine wpAny_bind (listItems_at ha rfl ?_)
    refine wpAny_bind (listItems_at hb rfl ?_)
    rw [hix]
    refine wpAny_bind (listItems_at ha rfl ?_)
    refine wpAny_bind (listItems_at hb rfl ?_)
    rw [hd] at h
    have e : lsLt [] (ys.drop i) = decide (xs.toArray.size < ys.toArray.size) := by
      unfold lsLt
      rw [Bool.eq_iff_iff]
      simp
      omega
    rw [e] at h
    exact wpAny_pure h
  | succ k ih =>
    intro i hk hi1 hi2 prog w A R s h
    obtain ⟨ha, hb, h⟩ := h
    have hlt : i < xs.length := by omega
    have hix : xs.toArray[((i : Nat) : Int).toNat]? = some xs[i] := by simp [hlt]
    have hdx : xs.drop i = xs[i] :: xs.drop (i + 1) := List.drop_eq_getElem_cons _
    unfold Builtin.«list.__eq__.loop»
    refine wpAny_bind (listItems_at ha rfl ?_)
    refine wpAny_bind (listItems_at hb rfl ?_)
    rw [hix]
    by_cases hly : i < ys.length
    · have hiy : ys.toArray[((i : Nat) : Int).toNat]? = some ys[i] := by simp [hly]
      have hdy : ys.drop i = ys[i] :: ys.drop (i + 1) := List.drop_eq_getElem_cons _
      rw [hiy]
      have sm : Same2 xs[i] ys[i] := hc i _ _ (List.getElem?_eq_getElem hlt) (List.getElem?_eq_getElem hly)
      rw [hdx, hdy] at h
      unfold lsLt at h
      refine wpAny_bind (eqB sm ?_)
      by_cases he : st xs[i] = st ys[i]
      · rw [if_pos he] at h
        rw [decide_eq_true he, if_pos rfl]
        have hcst : ((i : Int) + 1) = ((i + 1 : Nat) : Int) := by push_cast; rfl
        refine wpAny_bind (wpAny_pure ?_)
        rw [hcst]
        exact wpAny_pure ⟨plainId_quiet plain_eqloop _, codeAny_builtin entry_eqloop (by
          rw [Around.under_plainId plain_eqloop _]
          exact ih (i + 1) (by omega) (by omega) (by omega) prog w A R _ ⟨ha, hb, h⟩)⟩
      · rw [if_neg he] at h
        rw [decide_eq_false he, if_neg (by decide)]
        refine wpAny_bind (listItems_at ha rfl ?_)
        refine wpAny_bind (listItems_at hb rfl ?_)
        rw [hix, hiy]
        refine wpAny_bind (ltB sm ?_)
        exact wpAny_pure h
    · have hiy : ys.toArray[((i : Nat) : Int).toNat]? = none := by simp; omega
      have hdy : ys.drop i = [] := by simp; omega
      rw [hiy]
      refine wpAny_bind (listItems_at ha rfl ?_)
      refine wpAny_bind (listItems_at hb rfl ?_)
      rw [hdy] at h
      have e : lsLt (xs.drop i) [] = decide (xs.toArray.size < ys.toArray.size) := by
        rw [hdx]
        unfold lsLt
        rw [Bool.eq_iff_iff]
        simp
        omega
      rw [e] at h
      exact wpAny_pure h
theorem meets_lt (a b : Addr) (xs ys : List Value) (n m : Nat) (hc : Compat xs ys) : Meets (Builtin.«list.__lt__» ⟨[.ref a, .ref b], []⟩)
      (fun _ R s => s.heap.get? a = some (LObj xs n) ∧ s.heap.get? b = some (LObj ys m) ∧ R (.ok (.ret (.bool (lsLt xs ys)))) s) := by
  intro prog w A R s h
  obtain ⟨ha, hb, h⟩ := h
  wp_walk
  have hs : isSubtype (LObj ys m).cls (Value.type "list") = pure true := by show isSubtype (.type "list") (.type "list") = _; rw [isSubtype_type]; kernel_rfl
  rw [hs]
  refine wpAny_pure ?_
  exact wpAny_pure ⟨plainId_quiet plain_eqloop _, codeAny_builtin entry_eqloop (by
    rw [Around.under_plainId plain_eqloop _]
    exact loop_lt a b xs ys n m hc xs.length 0 rfl (Nat.zero_le _) (Nat.zero_le _) prog w A R _ ⟨ha, hb, h⟩)⟩

theorem keyLt_lists {prog : Program} {w : World} {A : Around} {E : Value → Shared → Prop} {s : Shared} {a b : Addr} {xs ys : List Value} {n m : Nat} {Q : Bool → Shared → Prop} (hu : A.units < cLine)
    (ha : s.heap.get? a = some (LObj xs n)) (hb : s.heap.get? b = some (LObj ys m)) (hc : Compat xs ys) (h : Q (lsLt xs ys) s) :
    wpAny (model prog w) A (keyLt' oneType' (.ref a) (.ref b)) Q E s := by
  rw [keyLt'_oneType, oneLt'_eq]
  simp only [if_true]
  refine wpAny_bind (wpAny_cRoomFor hu ?_)
  refine wpAny_bind (wpAny_callSpecialIfBound?_slot ⟨_, ha, rfl⟩ F.slot_list_lt ?_)
  refine call_meets F.slot_list_lt ⟨_, ha, rfl⟩ F.entry_list_lt (F.args_list_lt_2 _ _) (meets_lt a b xs ys n m hc) ⟨ha, hb, ?_⟩
  exact wpAny_truthy_bool h
end Mine

open PySem PySem.W PyProof.Rows
set_option Elab.async false
set_option maxRecDepth 100000
set_option maxHeartbeats 8000000
namespace Mine
theorem loop_eq (a b : Addr) (xs ys : List Value) (n m : Nat) (hc : Compat xs ys) (hl : xs.length = ys.length) (k : Nat) :
    ∀ i : Nat, xs.length - i = k → i ≤ xs.length → Meets (Builtin.«list.__eq__.loop» ⟨[.ref a, .ref b, rawInt (i : Int), rawInt 2], []⟩)
      (fun _ R s => s.heap.get? a = some (LObj xs n) ∧ s.heap.get? b = some (LObj ys m) ∧ R (.ok (.ret (.bool (decide ((xs.drop i).map st = (ys.drop i).map st))))) s) := by
  induction k with
  | zero =>
    intro i hk hi1 prog w A R s h
    obtain ⟨ha, hb, h⟩ := h
    have hix : xs.toArray[((i : Nat) : Int).toNat]? = none := by simp; omega
    have hd : xs.drop i = [] := by simp; omega
    have hd2 : ys.drop i = [] := by simp; omega
    unfold Builtin.«list.__eq__.loop»
    refine wpAny_bind (listItems_at ha rfl ?_)
    refine wpAny_bind (listItems_at hb rfl ?_)
    rw [hix]
    refine wpAny_bind (listItems_at ha rfl ?_)
    refine wpAny_bind (listItems_at hb rfl ?_)
    rw [hd, hd2] at h
    have e : decide (([] : List Value).map st = ([] : List Value).map st) = (xs.toArray.size == ys.toArray.size) := by
      rw [Bool.eq_iff_iff]
      simp [hl]
    rw [e] at h
    exact wpAny_pure h
  | succ k ih =>
    intro i hk hi1 prog w A R s h
    obtain ⟨ha, hb, h⟩ := h
    have hlt : i < xs.length := by omega
    have hix : xs.toArray[((i : Nat) : Int).toNat]? = some xs[i] := by simp [hlt]
    have hdx : xs.drop i = xs[i] :: xs.drop (i + 1) := List.drop_eq_getElem_cons _
    unfold Builtin.«list.__eq__.loop»
    refine wpAny_bind (listItems_at ha rfl ?_)
    refine wpAny_bind (listItems_at hb rfl ?_)
    rw [hix]
    have hly : i < ys.length := by omega
    have hiy : ys.toArray[((i : Nat) : Int).toNat]? = some ys[i] := by simp [hly]
    have hdy : ys.drop i = ys[i] :: ys.drop (i + 1) := List.drop_eq_getElem_cons _
    rw [hiy]
    have sm : Same2 xs[i] ys[i] := hc i _ _ (List.getElem?_eq_getElem hlt) (List.getElem?_eq_getElem hly)
    rw [hdx, hdy] at h
    refine wpAny_bind (eqB sm ?_)
    by_cases he : st xs[i] = st ys[i]
    · have e : decide ((xs[i] :: xs.drop (i + 1)).map st = (ys[i] :: ys.drop (i + 1)).map st) = decide ((xs.drop (i + 1)).map st = (ys.drop (i + 1)).map st) := by
        simp only [List.map_cons, List.cons.injEq, he, true_and]
      rw [e] at h
      rw [decide_eq_true he, if_pos rfl]
      have hcst : ((i : Int) + 1) = ((i + 1 : Nat) : Int) := by push_cast; rfl
      refine wpAny_bind (wpAny_pure ?_)
      rw [hcst]
      exact wpAny_pure ⟨plainId_quiet plain_eqloop _, codeAny_builtin entry_eqloop (by
        rw [Around.under_plainId plain_eqloop _]
        exact ih (i + 1) (by omega) (by omega) prog w A R _ ⟨ha, hb, h⟩)⟩
    · have e : decide ((xs[i] :: xs.drop (i + 1)).map st = (ys[i] :: ys.drop (i + 1)).map st) = false := by
        simp only [List.map_cons, List.cons.injEq, he, false_and, decide_false]
      rw [e] at h
      rw [decide_eq_false he, if_neg (by decide)]
      refine wpAny_bind (listItems_at ha rfl ?_)
      refine wpAny_bind (listItems_at hb rfl ?_)
      rw [hix, hiy]
      exact wpAny_pure h

theorem meets_eq (a b : Addr) (xs ys : List Value) (n m : Nat) (hc : Compat xs ys) : Meets (Builtin.«list.__eq__» ⟨[.ref a, .ref b], []⟩)
      (fun _ R s => s.heap.get? a = some (LObj xs n) ∧ s.heap.get? b = some (LObj ys m) ∧ R (.ok (.ret (.bool (decide (xs.map st = ys.map st))))) s) := by
  intro prog w A R s h
  obtain ⟨ha, hb, h⟩ := h
  have hs : isSubtype (LObj ys m).cls (Value.type "list") = pure true := by show isSubtype (.type "list") (.type "list") = _; rw [isSubtype_type]; kernel_rfl
  wp_walk
  by_cases hl : xs.length = ys.length
  · rw [if_neg (by simp [hl])]
    exact wpAny_pure ⟨plainId_quiet plain_eqloop _, codeAny_builtin entry_eqloop (by
      rw [Around.under_plainId plain_eqloop _]
      exact loop_eq a b xs ys n m hc hl xs.length 0 rfl (Nat.zero_le _) prog w A R _ ⟨ha, hb, h⟩)⟩
  · rw [if_pos (by simp [hl])]
    have e : decide (xs.map st = ys.map st) = false := by
      rw [decide_eq_false_iff_not]
      intro e
      exact hl (by simpa using congrArg List.length e)
    rw [e] at h
    exact wpAny_bind (wpAny_rule (wpAny_pure h))

theorem eq_lists {prog : Program} {w : World} {A : Around} {E : Value → Shared → Prop} {s : Shared} {a b : Addr} {xs ys : List Value} {n m : Nat} {Q : Value → Shared → Prop} (hu : A.units < cLine)
    (ha : s.heap.get? a = some (LObj xs n)) (hb : s.heap.get? b = some (LObj ys m)) (hc : Compat xs ys) (h : Q (.bool (decide (xs.map st = ys.map st))) s) :
    wpAny (model prog w) A (compareOp .Eq (.ref a) (.ref b)) Q E s := by
  refine cmp_ofEq ?_
  exact richCompare_meets_room (op := .Eq) ⟨_, ha, rfl⟩ ⟨_, hb, rfl⟩ F.slot_list_eq F.entry_list_eq (F.args_list_eq_2 _ _) (meets_eq a b xs ys n m hc) ⟨ha, hb, (fun e => nomatch e), h⟩ hu
end Mine

open PySem PySem.W PyProof.Rows
set_option Elab.async false
set_option maxRecDepth 100000
set_option maxHeartbeats 8000000
namespace Mine

/-- the tree's run under a fixed order, its questions below N, its answer in Q -/
def KW {α : Type} (lt : Nat → Nat → Bool) (N : Nat) : KasT α → (α → Prop) → Prop
  | .ret a, Q => Q a
  | .ask i j k, Q => i < N ∧ j < N ∧ KW lt N (k (lt i j)) Q
theorem KW_mono {α : Type} {lt : Nat → Nat → Bool} {N : Nat} {Q Q' : α → Prop} (hq : ∀ a, Q a → Q' a) : ∀ (t : KasT α), KW lt N t Q → KW lt N t Q'
  | .ret a, h => hq a h
  | .ask i j k, h => ⟨h.1, h.2.1, KW_mono hq (k (lt i j)) h.2.2⟩
theorem KW_bind {α β : Type} {lt : Nat → Nat → Bool} {N : Nat} {f : α → KasT β} {Q : β → Prop} : ∀ (t : KasT α), KW lt N t (fun a => KW lt N (f a) Q) → KW lt N (t.bind f) Q
  | .ret a, h => h
  | .ask i j k, h => ⟨h.1, h.2.1, KW_bind (k (lt i j)) h.2.2⟩
/-- from the pure run to the walk's tree -/
theorem KW_wp {α : Type} {lt : Nat → Nat → Bool} {N : Nat} {cmp : Nat → Nat → (Bool → Shared → Prop) → Shared → Prop} {I : Shared → Prop} {Q : α → Prop} {C : α → Shared → Prop}
    (hc : ∀ i j s K, i < N → j < N → I s → (∀ s', I s' → K (lt i j) s') → cmp i j K s) (hq : ∀ a s, Q a → I s → C a s) : ∀ (t : KasT α) (s : Shared), KW lt N t Q → I s → t.kasWp cmp C s
  | .ret a, s, h, hi => hq a s h hi
  | .ask i j k, s, h, hi => hc i j s _ h.1 h.2.1 hi fun s' hi' => KW_wp hc hq (k (lt i j)) s' h.2.2 hi'

structure Weak (lt : Nat → Nat → Bool) : Prop where
  irr : ∀ a, lt a a = false
  asym : ∀ a b, lt a b = true → lt b a = false
  neg : ∀ a b c, lt a c = true → lt a b = true ∨ lt b c = true

/-- ahead in the stable order -/
def Pre (lt : Nat → Nat → Bool) (a b : Nat) : Prop := lt a b = true ∨ (lt b a = false ∧ a < b)

section
variable {lt : Nat → Nat → Bool} (W : Weak lt)
include W
theorem lt_tr {a b c : Nat} (h1 : lt a b = true) (h2 : lt b c = true) : lt a c = true := by
  rcases W.neg a c b h1 with h | h
  · exact h
  · rw [W.asym _ _ h2] at h; cases h
theorem lt_eqr {a b c : Nat} (h1 : lt a b = true) (h2 : lt c b = false) : lt a c = true := by
  rcases W.neg a c b h1 with h | h
  · exact h
  · rw [h2] at h; cases h
theorem lt_eql {a b c : Nat} (h1 : lt a b = true) (h2 : lt a c = false) : lt c b = true := by
  rcases W.neg a c b h1 with h | h
  · rw [h2] at h; cases h
  · exact h
theorem Pre.tr {a b c : Nat} (h1 : Pre lt a b) (h2 : Pre lt b c) : Pre lt a c := by
  rcases h1 with h1 | ⟨h1, h1'⟩
  · rcases h2 with h2 | ⟨h2, _⟩
    · exact .inl (lt_tr W h1 h2)
    · exact .inl (lt_eqr W h1 h2)
  · rcases h2 with h2 | ⟨h2, h2'⟩
    · exact .inl (lt_eql W h2 h1)
    · refine .inr ⟨?_, by omega⟩
      cases h : lt c a with
      | false => rfl
      | true =>
        rcases W.neg c b a h with q | q
        · rw [h2] at q; cases q
        · rw [h1] at q; cases q
end

def gt (p : Array Nat) (t : Nat) : Nat := p.getD t 0
structure Good (N : Nat) (p : Array Nat) (m : Nat) : Prop where
  size : p.size = N
  low : ∀ t, t < m → gt p t < m
  idt : ∀ t, m ≤ t → t < N → gt p t = t
  perm : p.toList.Perm (List.range N)
theorem Good.lt {N : Nat} {p : Array Nat} {m t : Nat} (g : Good N p m) (hm : m ≤ N) (ht : t < N) : gt p t < N := by
  rcases Nat.lt_or_ge t m with h | h
  · have := g.low t h; omega
  · rw [g.idt t h ht]; exact ht
theorem gt_of {p q : Array Nat} {t u : Nat} (h : p[t]? = q[u]?) : gt p t = gt q u := by
  unfold gt
  rw [Array.getD_eq_getD_getElem?, Array.getD_eq_getD_getElem?, h]
theorem gt_rev {p : Array Nat} {i j : Nat} (hj : j ≤ p.size) (t : Nat) : gt (kas_rev p i j) t = if i ≤ t ∧ t < j then gt p (i + j - 1 - t) else gt p t := by
  have h := getElem?_mirror_all (xs := p) (i := i) hj t
  split
  · rename_i c; rw [if_pos c] at h; exact gt_of h
  · rename_i c; rw [if_neg c] at h; exact gt_of h
theorem gt_bub {p : Array Nat} {k d : Nat} (hk : k < p.size) (hd : d ≤ k) (t : Nat) : gt (bubble p k d) t = if t = k - d then gt p k else if k - d < t ∧ t ≤ k then gt p (t - 1) else gt p t := by
  have h := getElem?_bubble (xs := p) hk d hd t
  split
  · rename_i c; rw [if_pos c] at h; exact gt_of h
  · rename_i c; rw [if_neg c] at h
    split
    · rename_i c2; rw [if_pos c2] at h; exact gt_of h
    · rename_i c2; rw [if_neg c2] at h; exact gt_of h
theorem Good.rev {N : Nat} {p : Array Nat} {m i j : Nat} (g : Good N p m) (hj : j ≤ m) (hm : m ≤ N) : Good N (kas_rev p i j) m := by
  have hs := g.size
  refine ⟨(mirror_size _ _ _ _).trans g.size, fun t ht => ?_, fun t ht hN => ?_, (Array.perm_iff_toList_perm.mp (mirror_perm _ _ _ _)).trans g.perm⟩
  · rw [gt_rev (by omega)]
    split
    · exact g.low _ (by omega)
    · exact g.low _ ht
  · rw [gt_rev (by omega), if_neg (by omega)]
    exact g.idt t ht hN
theorem Good.grow {N : Nat} {p : Array Nat} {m : Nat} (g : Good N p m) (hm : m < N) : Good N p (m + 1) :=
  ⟨g.size, fun t ht => by
    rcases Nat.lt_or_ge t m with h | h
    · exact Nat.lt_succ_of_lt (g.low t h)
    · rw [g.idt t h (by omega)]; exact ht, fun t ht hN => g.idt t (by omega) hN, g.perm⟩

section
variable {lt : Nat → Nat → Bool} (W : Weak lt) {N : Nat}
def AscT (lt : Nat → Nat → Bool) (p : Array Nat) (m : Nat) : Prop := ∀ i j, i < j → j < m → Pre lt (gt p i) (gt p j)
include W
theorem asc_step {p : Array Nat} {m : Nat} (h1 : 1 ≤ m) (hm : m < N) (g : Good N p m) (a : AscT lt p m) (h : lt (gt p m) (gt p (m - 1)) = false) : AscT lt p (m + 1) := by
  intro i j hij hj
  rcases Nat.lt_or_ge j m with q | q
  · exact a i j hij q
  · have e : j = m := by omega
    subst e
    have last : Pre lt (gt p (j - 1)) (gt p j) := .inr ⟨h, by rw [g.idt j (Nat.le_refl _) hm]; exact g.low _ (by omega)⟩
    rcases Nat.lt_or_ge i (j - 1) with q2 | q2
    · exact Pre.tr W (a i (j - 1) q2 (by omega)) last
    · have e : i = j - 1 := by omega
      subst e; exact last
theorem asc_spec (p : Array Nat) : ∀ (f m : Nat), 1 ≤ m → m + f ≤ N → Good N p m → AscT lt p m →
    KW lt N (kas_asc p f m) (fun r => m ≤ r ∧ r ≤ m + f ∧ Good N p r ∧ AscT lt p r ∧ (r < m + f → lt (gt p r) (gt p (r - 1)) = true))
  | 0, m, h1, hf, g, a => ⟨Nat.le_refl _, Nat.le_refl _, g, a, fun h => absurd h (Nat.lt_irrefl _)⟩
  | f + 1, m, h1, hf, g, a => by
    refine ⟨g.lt (by omega) (by omega), g.lt (by omega) (by omega), ?_⟩
    show KW lt N (if lt (gt p m) (gt p (m - 1)) = true then KasT.ret m else kas_asc p f (m + 1)) _
    cases h : lt (gt p m) (gt p (m - 1)) with
    | true => rw [if_pos rfl]; exact ⟨Nat.le_refl _, by omega, g, a, fun _ => h⟩
    | false =>
      rw [if_neg (by decide)]
      refine KW_mono (fun r hr => ?_) _ (asc_spec p f (m + 1) (by omega) (by omega) (g.grow (by omega)) (asc_step W h1 (by omega) g a h))
      obtain ⟨a1, a2, a3, a4, a5⟩ := hr
      exact ⟨by omega, by omega, a3, a4, fun q => a5 (by omega)⟩

/-- the descending phase: all pairs with the first below e stand reversed; the run from e on is of equals in order -/
structure DescT (lt : Nat → Nat → Bool) (p : Array Nat) (e m : Nat) : Prop where
  back : ∀ i j, i < j → j < e → Pre lt (gt p j) (gt p i)
  cross : ∀ i j, i < e → e ≤ j → j < m → lt (gt p j) (gt p i) = true
  run : ∀ i j, e ≤ i → i < j → j < m → lt (gt p i) (gt p j) = false ∧ lt (gt p j) (gt p i) = false ∧ gt p i < gt p j
omit W in
theorem DescT.turned {p : Array Nat} {e m : Nat} (d : DescT lt p e m) (he : e < m) (hm : m ≤ p.size) : ∀ i j, i < j → j < m → Pre lt (gt (kas_rev p e m) j) (gt (kas_rev p e m) i) := by
  intro i j hij hj
  rw [gt_rev hm, gt_rev hm]
  split
  · split
    · have r := d.run (e + m - 1 - j) (e + m - 1 - i) (by omega) (by omega) (by omega)
      exact .inr ⟨r.2.1, r.2.2⟩
    · exact .inl (d.cross i _ (by omega) (by omega) (by omega))
  · rw [if_neg (by omega)]
    exact d.back i j hij (by omega)
omit W in
theorem DescT.single {p : Array Nat} {m : Nat} (d : DescT lt p (m - 1) m) (h1 : 1 ≤ m) : ∀ i j, i < j → j < m → Pre lt (gt p j) (gt p i) := by
  intro i j hij hj
  rcases Nat.lt_or_ge j (m - 1) with q | q
  · exact d.back i j hij q
  · exact .inl (d.cross i j (by omega) q hj)
theorem desc_next {p : Array Nat} {m : Nat} (all : ∀ i j, i < j → j < m → Pre lt (gt p j) (gt p i)) (low : ∀ i, i < m → lt (gt p m) (gt p i) = true) : DescT lt p m (m + 1) :=
  ⟨all, fun i j hi hj hjm => by
    have e : j = m := by omega
    subst e; exact low i hi, fun i j hi hij hj => by omega⟩
theorem desc_low {p : Array Nat} {e m : Nat} (d : DescT lt p e m) (he : e < m) (h : lt (gt p m) (gt p (m - 1)) = true) : ∀ i, i < m → lt (gt p m) (gt p i) = true := by
  intro i hi
  rcases Nat.lt_or_ge i e with q | q
  · exact lt_tr W h (d.cross i (m - 1) q (by omega) (by omega))
  · rcases Nat.lt_or_ge i (m - 1) with q2 | q2
    · exact lt_eqr W h (d.run i (m - 1) q q2 (by omega)).1
    · have e : i = m - 1 := by omega
      subst e; exact h
theorem desc_spec : ∀ (f : Nat) (p : Array Nat) (m q : Nat), q + 1 ≤ m → m + f ≤ N → Good N p m → DescT lt p (m - (q + 1)) m →
    KW lt N (kas_desc f p m q) (fun r => m ≤ r.2.1 ∧ r.2.1 ≤ m + f ∧ r.2.2 + 1 ≤ r.2.1 ∧ Good N r.1 r.2.1 ∧ DescT lt r.1 (r.2.1 - (r.2.2 + 1)) r.2.1)
  | 0, p, m, q, hq, hf, g, d => ⟨Nat.le_refl _, Nat.le_refl _, hq, g, d⟩
  | f + 1, p, m, q, hq, hf, g, d => by
    have hsz := g.size
    refine ⟨g.lt (by omega) (by omega), g.lt (by omega) (by omega), ?_⟩
    show KW lt N (if lt (gt p m) (gt p (m - 1)) = true then (if q > 0 then kas_desc f (kas_rev p (m - (q + 1)) m) (m + 1) 0 else kas_desc f p (m + 1) 0)
      else .ask (gt p (m - 1)) (gt p m) fun d => if d = true then .ret (p, m, q) else kas_desc f p (m + 1) (q + 1)) _
    cases h : lt (gt p m) (gt p (m - 1)) with
    | true =>
      rw [if_pos rfl]
      have hl := desc_low W d (by omega) h
      by_cases hq0 : q > 0
      · rw [if_pos hq0]
        have g2 : Good N (kas_rev p (m - (q + 1)) m) (m + 1) := (g.rev (Nat.le_refl _) (by omega)).grow (by omega)
        have d2 : DescT lt (kas_rev p (m - (q + 1)) m) m (m + 1) := desc_next W (d.turned (by omega) (by omega)) (fun i hi => by
          rw [gt_rev (by omega), gt_rev (by omega), if_neg (by omega)]
          split
          · exact hl _ (by omega)
          · exact hl i hi)
        refine KW_mono (fun r hr => ?_) _ (desc_spec f _ (m + 1) 0 (by omega) (by omega) g2 (by rw [show m + 1 - (0 + 1) = m by omega]; exact d2))
        exact ⟨by omega, by omega, hr.2.2.1, hr.2.2.2⟩
      · rw [if_neg hq0]
        have hq1 : q = 0 := by omega
        subst hq1
        have d2 : DescT lt p m (m + 1) := desc_next W (d.single (by omega)) hl
        refine KW_mono (fun r hr => ?_) _ (desc_spec f _ (m + 1) 0 (by omega) (by omega) (g.grow (by omega)) (by rw [show m + 1 - (0 + 1) = m by omega]; exact d2))
        exact ⟨by omega, by omega, hr.2.2.1, hr.2.2.2⟩
    | false =>
      rw [if_neg (by decide)]
      refine ⟨g.lt (by omega) (by omega), g.lt (by omega) (by omega), ?_⟩
      show KW lt N (if lt (gt p (m - 1)) (gt p m) = true then .ret (p, m, q) else kas_desc f p (m + 1) (q + 1)) _
      cases h2 : lt (gt p (m - 1)) (gt p m) with
      | true => rw [if_pos rfl]; exact ⟨Nat.le_refl _, Nat.le_add_right m (f + 1), hq, g, d⟩
      | false =>
        rw [if_neg (by decide)]
        have hidm : gt p m = m := g.idt m (Nat.le_refl _) (by omega)
        have d2 : DescT lt p (m - (q + 1)) (m + 1) := by
          refine ⟨d.back, fun i j hi hj hjm => ?_, fun i j hi hij hj => ?_⟩
          · rcases Nat.lt_or_ge j m with c | c
            · exact d.cross i j hi hj c
            · have e : j = m := by omega
              subst e
              exact lt_eql W (d.cross i (j - 1) hi (by omega) (by omega)) h2
          · rcases Nat.lt_or_ge j m with c | c
            · exact d.run i j hi hij c
            · have e : j = m := by omega
              subst e
              have hi3 : gt p i < gt p j := by rw [hidm]; exact g.low i (by omega)
              rcases Nat.lt_or_ge i (j - 1) with c2 | c2
              · have r := d.run i (j - 1) hi c2 (by omega)
                refine ⟨?_, ?_, hi3⟩
                · cases z : lt (gt p i) (gt p j) with
                  | false => rfl
                  | true =>
                    rcases W.neg _ (gt p (j - 1)) _ z with y | y
                    · rw [r.1] at y; cases y
                    · rw [h2] at y; cases y
                · cases z : lt (gt p j) (gt p i) with
                  | false => rfl
                  | true =>
                    rcases W.neg _ (gt p (j - 1)) _ z with y | y
                    · rw [h] at y; cases y
                    · rw [r.2.1] at y; cases y
              · have e : i = j - 1 := by omega
                subst e
                exact ⟨h2, h, hi3⟩
        refine KW_mono (fun r hr => ?_) _ (desc_spec f p (m + 1) (q + 1) (by omega) (by omega) (g.grow (by omega)) (by rw [show m + 1 - (q + 1 + 1) = m - (q + 1) by omega]; exact d2))
        exact ⟨by omega, by omega, hr.2.2.1, hr.2.2.2⟩
def CountOk (lt : Nat → Nat → Bool) (N : Nat) (r : Nat × Array Nat) : Prop := 1 ≤ r.1 ∧ r.1 ≤ N ∧ Good N r.2 r.1 ∧ AscT lt r.2 r.1
theorem tail_spec {p : Array Nat} {m : Nat} (h1 : 1 ≤ m) (hm : m ≤ N) (g : Good N p m) (all : ∀ i j, i < j → j < m → Pre lt (gt p j) (gt p i)) : KW lt N (kas_tail3 m N p) (CountOk lt N) := by
  have hsz := g.size
  unfold kas_tail3
  have a : AscT lt (kas_rev p 0 m) m := by
    intro i j hij hj
    rw [gt_rev (by omega), gt_rev (by omega), if_pos (by omega), if_pos (by omega)]
    exact all _ _ (by omega) (by omega)
  refine KW_bind _ (KW_mono (fun r hr => ?_) _ (asc_spec W (kas_rev p 0 m) (N - m) m h1 (by omega) (g.rev (Nat.le_refl _) hm) a))
  exact ⟨by have := hr.1; show 1 ≤ r; omega, by have := hr.2.1; show r ≤ N; omega, hr.2.2.1, hr.2.2.2.1⟩
theorem descPart_spec {p : Array Nat} {n : Nat} (hn : n < N) (g : Good N p (n + 1)) (d : DescT lt p n (n + 1)) : KW lt N (kas_descPart n N p) (CountOk lt N) := by
  unfold kas_descPart
  refine KW_bind _ (KW_mono (fun r hr => ?_) _ (desc_spec W (N - (n + 1)) p (n + 1) 0 (by omega) (by omega) g (by rw [show n + 1 - (0 + 1) = n by omega]; exact d)))
  obtain ⟨a1, a2, a3, a4, a5⟩ := hr
  have hsz := a4.size
  by_cases hq : r.2.2 > 0
  · rw [if_pos hq]
    exact tail_spec W (by omega) (by omega) (a4.rev (Nat.le_refl _) (by omega)) (a5.turned (by omega) (by omega))
  · rw [if_neg hq]
    have hq1 : r.2.2 = 0 := by omega
    rw [hq1] at a5
    exact tail_spec W (by omega) (by omega) a4 (a5.single (by omega))
theorem gt_range {n t : Nat} (h : t < n) : gt (List.toArray (List.range n)) t = t := by
  unfold gt
  simp [Array.getD, h]
theorem good_range (h : 1 ≤ N) : Good N (List.toArray (List.range N)) 1 :=
  ⟨by simp, fun t ht => by rw [gt_range W (by omega)]; exact ht, fun t _ hN => gt_range W hN, by simp⟩
theorem count_spec (h : 1 ≤ N) : KW lt N (kas_count N (List.toArray (List.range N))) (CountOk lt N) := by
  unfold kas_count
  have g0 := good_range W (N := N) h
  refine KW_bind _ (KW_mono (fun n hn => ?_) _ (asc_spec W _ (N - 1) 1 (Nat.le_refl _) (by omega) g0 (fun i j hij hj => by omega)))
  obtain ⟨a1, a2, a3, a4, a5⟩ := hn
  by_cases e1 : (n == N) = true
  · rw [if_pos e1]; exact ⟨a1, by show n ≤ N; omega, a3, a4⟩
  · rw [if_neg e1]
    have hne : n ≠ N := by simpa using e1
    have hnN : n < N := by omega
    have stop := a5 (by omega)
    by_cases e2 : n > 1
    · rw [if_pos e2]
      refine ⟨a3.lt (by omega) (by omega), a3.lt (by omega) (by omega), ?_⟩
      show KW lt N (if lt (gt (List.toArray (List.range N)) 0) (gt (List.toArray (List.range N)) (n - 1)) = true then KasT.ret (n, List.toArray (List.range N)) else kas_descPart n N (kas_rev (List.toArray (List.range N)) 0 n)) _
      cases h2 : lt (gt (List.toArray (List.range N)) 0) (gt (List.toArray (List.range N)) (n - 1)) with
      | true => rw [if_pos rfl]; exact ⟨a1, by show n ≤ N; omega, a3, a4⟩
      | false =>
        rw [if_neg (by decide)]
        rw [gt_range W (by omega), gt_range W (by omega)] at h2
        rw [gt_range W (by omega), gt_range W (by omega)] at stop
        have nd : ∀ i j, i < j → j < n → lt j i = false := fun i j hij hj => by
          have := a4 i j hij hj
          rw [gt_range W (by omega), gt_range W (by omega)] at this
          rcases this with c | c
          · exact W.asym _ _ c
          · exact c.1
        have nd' : ∀ i j, i ≤ j → j < n → lt j i = false := fun i j hij hj => by
          rcases Nat.lt_or_ge i j with c | c
          · exact nd i j c hj
          · have : i = j := by omega
            subst this; exact W.irr _
        have eqs : ∀ i j, i < n → j < n → lt i j = false := fun i j hi hj => by
          cases z : lt i j with
          | false => rfl
          | true =>
            rcases W.neg i (n - 1) j z with y | y
            · rcases W.neg i 0 (n - 1) y with x | x
              · rw [nd' 0 i (by omega) hi] at x; cases x
              · rw [h2] at x; cases x
            · rw [nd' j (n - 1) (by omega) (by omega)] at y; cases y
        have hsz := a3.size
        have g2 : Good N (kas_rev (List.toArray (List.range N)) 0 n) (n + 1) := (a3.rev (Nat.le_refl _) (by omega)).grow hnN
        refine descPart_spec W hnN g2 (desc_next W (fun i j hij hj => ?_) (fun i hi => ?_))
        · rw [gt_rev (by omega), gt_rev (by omega), if_pos (by omega), if_pos (by omega), gt_range W (by omega), gt_range W (by omega)]
          exact .inr ⟨eqs _ _ (by omega) (by omega), by omega⟩
        · rw [gt_rev (by omega), gt_rev (by omega), if_neg (by omega), if_pos (by omega), gt_range W (by omega), gt_range W (by omega)]
          exact lt_eqr W stop (eqs _ _ (by omega) (by omega))
    · rw [if_neg e2]
      have e3 : n = 1 := by omega
      subst e3
      exact descPart_spec W hnN (g0.grow hnN) (desc_next W (fun i j hij hj => by omega) (fun i hi => by
        have : i = 0 := by omega
        subst this; exact stop))

theorem place_spec {p : Array Nat} {k : Nat} (hk : k < N) (g : Good N p k) (a : AscT lt p k) : ∀ (f l r : Nat), l ≤ r → r ≤ k → r - l ≤ f → (∀ i, i < l → Pre lt (gt p i) (gt p k)) → (∀ i, r ≤ i → i < k → Pre lt (gt p k) (gt p i)) →
    KW lt N (kas_place p k f l r) (fun L => L ≤ k ∧ (∀ i, i < L → Pre lt (gt p i) (gt p k)) ∧ ∀ i, L ≤ i → i < k → Pre lt (gt p k) (gt p i))
  | 0, l, r, hlr, hrk, hf, hl, hr => ⟨by omega, hl, fun i hi hik => hr i (by omega) hik⟩
  | f + 1, l, r, hlr, hrk, hf, hl, hr => by
    unfold kas_place
    by_cases c : l ≥ r
    · rw [if_pos c]; exact ⟨by omega, hl, fun i hi hik => hr i (by omega) hik⟩
    · rw [if_neg c]
      refine ⟨g.lt (by omega) hk, g.lt (by omega) (by omega), ?_⟩
      show KW lt N (if lt (gt p k) (gt p ((l + r) / 2)) = true then kas_place p k f l ((l + r) / 2) else kas_place p k f ((l + r) / 2 + 1) r) _
      have hid : gt p k = k := g.idt k (Nat.le_refl _) hk
      cases h : lt (gt p k) (gt p ((l + r) / 2)) with
      | true =>
        rw [if_pos rfl]
        refine place_spec hk g a f l ((l + r) / 2) (by omega) (by omega) (by omega) hl (fun i hi hik => ?_)
        rcases Nat.lt_or_ge ((l + r) / 2) i with q | q
        · exact Pre.tr W (.inl h) (a _ _ q hik)
        · have e : i = (l + r) / 2 := by omega
          subst e; exact .inl h
      | false =>
        rw [if_neg (by decide)]
        refine place_spec hk g a f ((l + r) / 2 + 1) r (by omega) hrk (by omega) (fun i hi => ?_) hr
        have hm : Pre lt (gt p ((l + r) / 2)) (gt p k) := .inr ⟨h, by rw [hid]; exact g.low _ (by omega)⟩
        rcases Nat.lt_or_ge i ((l + r) / 2) with q | q
        · exact Pre.tr W (a _ _ q (by omega)) hm
        · have e : i = (l + r) / 2 := by omega
          subst e; exact hm
theorem bin_spec : ∀ (f k : Nat) (p : Array Nat), k + f = N → Good N p k → AscT lt p k → KW lt N (kas_bin f p k) (fun q => Good N q N ∧ AscT lt q N)
  | 0, k, p, hk, g, a => by
    have e : k = N := by omega
    subst e; exact ⟨g, a⟩
  | f + 1, k, p, hk, g, a => by
    unfold kas_bin
    refine KW_bind _ (KW_mono (fun l hl => ?_) _ (place_spec W (by omega) g a k 0 k (Nat.zero_le _) (Nat.le_refl _) (by omega) (fun i hi => by omega) (fun i hi hik => by omega)))
    obtain ⟨hlk, h1, h2⟩ := hl
    have hsz := g.size
    have hid : gt p k = k := g.idt k (Nat.le_refl _) (by omega)
    have get : ∀ t, gt (bubble p k (k - l)) t = if t = l then gt p k else if l < t ∧ t ≤ k then gt p (t - 1) else gt p t := fun t => by
      rw [gt_bub (by omega) (by omega), show k - (k - l) = l by omega]
    refine bin_spec f (k + 1) _ (by omega) ⟨(bubble_size _ _ _).trans g.size, fun t ht => ?_, fun t ht hN => ?_, (Array.perm_iff_toList_perm.mp (bubble_perm _ _ _)).trans g.perm⟩ (fun i j hij hj => ?_)
    · rw [get]
      split
      · omega
      · split
        · have := g.low (t - 1) (by omega); omega
        · have := g.low t (by omega); omega
    · rw [get, if_neg (by omega), if_neg (by omega)]
      exact g.idt t (by omega) hN
    · rw [get, get]
      by_cases c1 : i = l
      · rw [if_pos c1, if_neg (by omega), if_pos (by omega)]
        exact h2 _ (by omega) (by omega)
      · rw [if_neg c1]
        by_cases c2 : l < i ∧ i ≤ k
        · rw [if_pos c2, if_neg (by omega), if_pos (by omega)]
          exact a _ _ (by omega) (by omega)
        · rw [if_neg c2]
          by_cases c3 : j = l
          · rw [if_pos c3]; exact h1 _ (by omega)
          · rw [if_neg c3]
            by_cases c4 : l < j ∧ j ≤ k
            · rw [if_pos c4]
              exact a _ _ (by omega) (by omega)
            · rw [if_neg c4]
              exact a _ _ (by omega) (by omega)
theorem sort_spec (h : 1 ≤ N) : KW lt N (kas_sort N) (fun q => q.size = N ∧ q.toList.Perm (List.range N) ∧ ∀ i j, i < j → j < N → Pre lt (gt q i) (gt q j)) := by
  unfold kas_sort
  refine KW_bind _ (KW_mono (fun r hr => ?_) _ (count_spec W h))
  obtain ⟨a1, a2, a3, a4⟩ := hr
  by_cases c : r.1 < N
  · rw [if_pos c]
    have e : max r.1 1 = r.1 := by omega
    rw [e]
    exact KW_mono (fun q hq => ⟨hq.1.size, hq.1.perm, hq.2⟩) _ (bin_spec W (N - r.1) r.1 r.2 (by omega) a3 a4)
  · rw [if_neg c]
    have e : r.1 = N := by omega
    rw [e] at a3 a4
    exact ⟨a3.size, a3.perm, a4⟩
end
end Mine

open PySem PySem.W PyProof.Rows
set_option Elab.async false
set_option maxRecDepth 100000
set_option maxHeartbeats 8000000
namespace Mine
/-- the place order of keys -/
def ltOf (ds : List (List Value)) (i j : Nat) : Bool := lsLt (ds.getD i []) (ds.getD j [])
/-- what the sort hands back: places, in the stable order -/
def Placed (ds : List (List Value)) (q : List Nat) : Prop := q.Perm (List.range ds.length) ∧ q.Pairwise (Pre (ltOf ds))

theorem st_st (v : Value) : st (st v) = st v := by cases v <;> rfl
theorem vLt_st (x y : Value) : vLt (st x) (st y) = vLt x y := by cases x <;> cases y <;> rfl
theorem lsLt_st : ∀ (xs ys : List Value), lsLt (xs.map st) (ys.map st) = lsLt xs ys
  | [], ys => by unfold lsLt; simp
  | x :: xs, [] => by simp [lsLt]
  | x :: xs, y :: ys => by
    simp only [List.map_cons, lsLt, st_st, vLt_st, lsLt_st xs ys]
theorem Same2.of_st {x y : Value} (h : Same2 (st x) (st y)) : Same2 x y := by
  cases x <;> cases y <;> first | exact .str _ _ _ _ | exact .int _ _ _ _ | (simp only [st] at h; cases h)
theorem Compat.of_st {xs ys : List Value} (h : Compat (xs.map st) (ys.map st)) : Compat xs ys := by
  intro j x y hx hy
  exact Same2.of_st (h j (st x) (st y) (by simp [hx]) (by simp [hy]))

/-- the keys made so far, lists of the ledger -/
def KeysAt (own : List (Addr × Obj)) (ks : List Value) (ds : List (List Value)) : Prop :=
  ks.length = ds.length ∧ ∀ i (hi : i < ds.length), ∃ l os c, ks[i]? = some (.ref l) ∧ (l, LObj os c) ∈ own ∧ os.map st = ds[i]

section
variable {prog : Program} {w : World} {A : Around} {E : Value → Shared → Prop} {s : Shared} {h₀ : Heap} {L : Addr} {m : Str → Option Value} {news : List (Addr × Obj)} {b : Bool} {vs : List Value} {f : Value}

/-- a call of the key on one item -/
def KeyCall (prog : Program) (w : World) (A : Around) (h₀ : Heap) (L : Addr) (m : Str → Option Value) (news : List (Addr × Obj)) (f v : Value) (d : List Value) : Prop :=
  ∀ (s : Shared), Fr h₀ L s.heap m → News h₀ L s.heap news →
    wpAny (model prog w) A (call f [v]) (fun kv s' => ∃ h' tk' l os c, s' = { s with heap := h', toks := tk' } ∧ kv = .ref l ∧ Kp s.heap h' ∧ s.heap.get? l = none ∧ h'.get? l = some (LObj os c) ∧ os.map st = d) (fun _ _ => False) s

theorem keys_go {kS D : Addr} {e1 : Nat} {Fin : List Value → Nat → Shared → Prop} (s₀ : Shared) (hDk : D ≠ kS) (ds : List (List Value)) (hn : ∀ p ∈ news, p.1 ≠ kS ∧ p.1 ≠ D)
    (fin : ∀ ks e h tk own, KeysAt own ks ds → Fr h₀ L h m → News h₀ L h ((kS, seqObj "list" ks.toArray e) :: (D, seqObj "list" #[] e1) :: (own ++ news)) → (∀ p ∈ own ++ news, p.1 ≠ kS ∧ p.1 ≠ D) → Fin ks e { s₀ with heap := h, toks := tk }) :
    ∀ (r ks : List Value) (done todo : List (List Value)) (own : List (Addr × Obj)) (e : Nat) (h : Heap) (tk : Nat), done ++ todo = ds → r.length = todo.length → (∀ (i : Nat) (v : Value) (d : List Value), r[i]? = some v → todo[i]? = some d → KeyCall prog w A h₀ L m news f v d) →
      KeysAt own ks done → Fr h₀ L h m → News h₀ L h ((kS, seqObj "list" ks.toArray e) :: (D, seqObj "list" #[] e1) :: (own ++ news)) → (∀ p ∈ own ++ news, p.1 ≠ kS ∧ p.1 ≠ D) →
      KatKeys prog w A h₀ L m kS f Fin r ks e { s₀ with heap := h, toks := tk }
  | [], ks, done, todo, own, e, h, tk, hd, hl, hk, hks, F, N, hne => by
    have : todo = [] := List.eq_nil_of_length_eq_zero (by simpa using hl.symm)
    subst this
    simp only [List.append_nil] at hd
    subst hd
    exact KatKeys.nil (fin ks e h tk own hks F N hne)
  | v :: r, ks, done, todo, own, e, h, tk, hd, hl, hk, hks, F, N, hne => by
    cases todo with
    | nil => simp at hl
    | cons d todo =>
      refine KatKeys.cons (wpAny_mono (hk 0 v d rfl rfl { s₀ with heap := h, toks := tk } F (fun p hp => N p (.tail _ (.tail _ (List.mem_append_right _ hp))))) (fun kv s' hkv => ?_) fun _ _ x => x)
      obtain ⟨h', tk', l, os, c, rfl, rfl, kp, l0, l1, ld⟩ := hkv
      dsimp only at kp l0 l1
      have N' := N.grown kp
      have F' := F.kept kp
      have hlL : l ≠ L := fun q => by
        obtain ⟨o, _, _, ho, _⟩ := F.ns
        rw [← q, l0] at ho; cases ho
      have hl0 : h₀.get? l = none := by
        cases q : h₀.get? l with
        | none => rfl
        | some o => rw [F.keep l o q] at l0; cases l0
      have hlk : l ≠ kS := fun q => by
        have := (N (kS, _) (.head _)).1
        rw [← q, l0] at this; cases this
      have hlD : l ≠ D := fun q => by
        have := (N (D, _) (.tail _ (.head _))).1
        rw [← q, l0] at this; cases this
      have N2 : News h₀ L h' ((kS, seqObj "list" ks.toArray e) :: (D, seqObj "list" #[] e1) :: ((own ++ [(l, LObj os c)]) ++ news)) := by
        intro p hp
        rcases List.mem_cons.mp hp with rfl | hp
        · exact N' _ (.head _)
        · rcases List.mem_cons.mp hp with rfl | hp
          · exact N' _ (.tail _ (.head _))
          · rcases List.mem_append.mp hp with hp | hp
            · rcases List.mem_append.mp hp with hp | hp
              · exact N' p (.tail _ (.tail _ (List.mem_append_left _ hp)))
              · rw [List.mem_singleton.mp hp]
                exact ⟨l1, hlL, hl0⟩
            · exact N' p (.tail _ (.tail _ (List.mem_append_right _ hp)))
      have hne2 : ∀ p ∈ (own ++ [(l, LObj os c)]) ++ news, p.1 ≠ kS ∧ p.1 ≠ D := by
        intro p hp
        rcases List.mem_append.mp hp with hp | hp
        · rcases List.mem_append.mp hp with hp | hp
          · exact hne p (List.mem_append_left _ hp)
          · rw [List.mem_singleton.mp hp]; exact ⟨hlk, hlD⟩
        · exact hne p (List.mem_append_right _ hp)
      refine ⟨_, _, F', N2, UpdF.head (fun p hp => ?_), fun h2 c2 F2 N3 => ?_⟩
      · rcases List.mem_cons.mp hp with rfl | hp
        · exact hDk
        · exact (hne2 p hp).1
      · have hks2 : KeysAt (own ++ [(l, LObj os c)]) (ks ++ [Value.ref l]) (done ++ [d]) := by
          refine ⟨by simp [hks.1], fun i hi => ?_⟩
          rcases Nat.lt_or_ge i done.length with q | q
          · obtain ⟨l', os', c', y1, y2, y3⟩ := hks.2 i q
            refine ⟨l', os', c', ?_, List.mem_append_left _ y2, by rw [y3]; simp [q]⟩
            rw [List.getElem?_append_left (by rw [hks.1]; exact q)]
            exact y1
          · have e : i = done.length := by simp at hi; omega
            subst e
            refine ⟨l, os, c, ?_, List.mem_append_right _ (List.mem_singleton.mpr rfl), by rw [ld]; simp⟩
            rw [← hks.1]; simp
        exact keys_go s₀ hDk ds hn fin r (ks ++ [Value.ref l]) (done ++ [d]) todo (own ++ [(l, LObj os c)]) c2 h2 tk' (by simpa using hd) (by simpa using hl)
          (fun i v' d' hv' hd' => hk (i + 1) v' d' (by simpa using hv') (by simpa using hd')) hks2 F2 N3 hne2
theorem KeysAt.rev {own : List (Addr × Obj)} {ks : List Value} {ds : List (List Value)} (h : KeysAt own ks ds) (b : Bool) : KeysAt own (katRev b ks) (katRev b ds) := by
  unfold katRev
  cases b with
  | false => exact h
  | true =>
    refine ⟨by simp [h.1], fun i hi => ?_⟩
    simp only [if_true, List.length_reverse] at hi ⊢
    obtain ⟨l, os, c, y1, y2, y3⟩ := h.2 (ds.length - 1 - i) (by omega)
    refine ⟨l, os, c, ?_, y2, by rw [y3, List.getElem_reverse]⟩
    have hk := h.1
    rw [List.getElem?_reverse (by omega), hk]
    exact y1
theorem placed_of {ds : List (List Value)} {q : Array Nat} (hs : q.size = ds.length) (hp : q.toList.Perm (List.range ds.length)) (ha : ∀ i j, i < j → j < ds.length → Pre (ltOf ds) (gt q i) (gt q j)) : Placed ds q.toList := by
  refine ⟨hp, ?_⟩
  rw [List.pairwise_iff_getElem]
  intro i j hi hj hij
  have hi' : i < q.size := by simpa using hi
  have hj' : j < q.size := by simpa using hj
  have := ha i j hij (by omega)
  unfold gt at this
  simpa [Array.getD, hi', hj'] using this

theorem fin_two {kS D : Addr} {e e1 : Nat} {ks : List Value} {ds : List (List Value)} {own : List (Addr × Obj)} {Cc : Shared → Prop} (F : Fr h₀ L s.heap m)
    (N : News h₀ L s.heap ((kS, seqObj "list" ks.toArray e) :: (D, seqObj "list" #[] e1) :: (own ++ news))) (hne : ∀ p ∈ own ++ news, p.1 ≠ kS ∧ p.1 ≠ D) (hDk : D ≠ kS)
    (hks : KeysAt own ks ds) (hl : ds.length = vs.length) (h2 : 2 ≤ vs.length) (hu : A.units < cLine) (hc : ∀ d ∈ ds, ∀ d' ∈ ds, Compat d d') (W : Weak (ltOf (katRev b ds)))
    (done : ∀ h' tk q c c', Placed (katRev b ds) q → Fr h₀ L h' m → News h₀ L h' ((kS, seqObj "list" #[] c') :: (D, LObj (katRev b (q.map fun i => (katRev b vs).getD i Value.none)) c) :: (own ++ news)) → Cc { s with heap := h', toks := tk }) :
    wpAny (model prog w) A (keyKind' (List.toArray ks)) (fun κ s'' => (kas_sort vs.length).kasWp (kas_ask prog w A κ (katRev b ks)) (fun p s3 => KatFin h₀ L m kS D ks e e1 (katRev b (p.toList.map fun i => (katRev b vs).getD i Value.none)) Cc s3) s'') (fun _ _ => False) s := by
  have hkl : ks.length = vs.length := hks.1.trans hl
  have hrl : (katRev b ds).length = vs.length := by rw [kat_len, hl]
  refine kas_kind (T := .type "list") (by omega) (fun v hv => ?_) (by decide) (by decide) ?_
  · obtain ⟨i, hi, rfl⟩ := List.getElem_of_mem hv
    obtain ⟨l, os, c, y1, y2, _⟩ := hks.2 i (by rw [← hks.1]; exact hi)
    rw [List.getElem?_eq_getElem hi] at y1
    rw [Option.some.inj y1]
    intro A' Q' E' s' k q
    exact wpAny_typeOf ⟨_, k _ _ (N _ (.tail _ (.tail _ (List.mem_append_left _ y2)))).1, rfl⟩ q
  · refine KW_wp (lt := ltOf (katRev b ds)) (N := vs.length) (I := fun s' => ∃ h tk, s' = { s with heap := h, toks := tk } ∧ Fr h₀ L h m ∧ News h₀ L h ((kS, seqObj "list" ks.toArray e) :: (D, seqObj "list" #[] e1) :: (own ++ news)))
      ?_ ?_ _ s (sort_spec W (by omega)) ⟨s.heap, s.toks, rfl, F, N⟩
    · rintro i j s' K hi hj ⟨h, tk, rfl, F', N'⟩ hK
      have hr := hks.rev b
      obtain ⟨l, os, c, y1, y2, y3⟩ := hr.2 i (by omega)
      obtain ⟨l', os', c', z1, z2, z3⟩ := hr.2 j (by omega)
      unfold kas_ask
      rw [List.getD_eq_getElem?_getD, List.getD_eq_getElem?_getD, y1, z1]
      have mem0 : ∀ x ∈ katRev b ds, x ∈ ds := by
        intro x hx
        unfold katRev at hx
        split at hx
        · exact List.mem_reverse.mp hx
        · exact hx
      have mem : ∀ (k : Nat) (hk : k < (katRev b ds).length), (katRev b ds)[k] ∈ ds := fun k hk => mem0 _ (List.getElem_mem hk)
      have cc : Compat os os' := Compat.of_st (by rw [y3, z3]; exact hc _ (mem i (by omega)) _ (mem j (by omega)))
      refine keyLt_lists hu (N' _ (.tail _ (.tail _ (List.mem_append_left _ y2)))).1 (N' _ (.tail _ (.tail _ (List.mem_append_left _ z2)))).1 cc ?_
      have e1 : lsLt os os' = ltOf (katRev b ds) i j := by
        unfold ltOf
        rw [List.getD_eq_getElem?_getD, List.getD_eq_getElem?_getD, List.getElem?_eq_getElem (by omega), List.getElem?_eq_getElem (by omega)]
        show _ = lsLt (katRev b ds)[i] (katRev b ds)[j]
        rw [← y3, ← z3, lsLt_st]
      rw [e1]
      exact hK _ ⟨h, tk, rfl, F', N'⟩
    · rintro q s' ⟨hq1, hq2, hq3⟩ ⟨h, tk, rfl, F', N'⟩
      have hp : Placed (katRev b ds) q.toList := placed_of (hq1.trans hrl.symm) (by rw [hrl]; exact hq2) (by rw [hrl]; exact hq3)
      refine ⟨_, _, F', N', UpdF.head (fun p hp' => ?_), fun h' c F2 N2 => ?_⟩
      · rcases List.mem_cons.mp hp' with rfl | hp'
        · exact hDk
        · exact (hne p hp').1
      · refine KasFin.intro F2 N2 (UpdF.tail (fun e => hDk e.symm) (UpdF.head (fun p hp' => (hne p hp').2))) (fun h3 c3 F3 N3 => ?_)
        exact done h3 tk q.toList c3 c hp F3 N3
theorem end_one {kS D : Addr} {e e1 : Nat} {k v : Value} {own : List (Addr × Obj)} {P : PySem.Fin → Shared → Prop} (F : Fr h₀ L s.heap m)
    (N : News h₀ L s.heap ((kS, seqObj "list" (List.toArray [k]) e) :: (D, seqObj "list" #[] e1) :: (own ++ news))) (hne : ∀ p ∈ own ++ news, p.1 ≠ kS ∧ p.1 ≠ D) (hDk : D ≠ kS)
    (done : ∀ h' c c', Fr h₀ L h' m → News h₀ L h' ((kS, seqObj "list" #[] c') :: (D, LObj [v] c) :: (own ++ news)) → P (.done (.ret .none)) { s with heap := h' }) :
    wpAny (model prog w) A (ksk_end D b (List.toArray [v]) e1 (.ref kS) (List.toArray [k])) P E s := by
  have step : ∀ t : Sem PySem.Fin, wpAny (model prog w) A t P E s → wpAny (model prog w) A (if b = true then (do let _ ← rule "list.sort.reverse"; t) else t) P E s := by
    intro t ht
    split
    · exact wpAny_bind (wpAny_rule ht)
    · exact ht
  have hn2 : (List.toArray [v]).size < 2 := by simp
  unfold ksk_end
  try dsimp only
  refine step _ ?_
  rw [if_pos hn2, if_pos hn2]
  refine wpAny_bind (wpAny_pure ?_)
  rw [StateT.run_pure]
  refine wpAny_bind (wpAny_pure ?_)
  try dsimp only
  refine kat_tail (h₀ := h₀) (L := L) (m := m) (ks := [k]) (e := e) (out := [v]) ?_ (by simp) (by simp) rfl ?_
  · show (if b = true then ((List.toArray [k]).zip (List.toArray [v])).reverse else (List.toArray [k]).zip (List.toArray [v])).map (·.2) = _
    cases b <;> simp
  · refine ⟨_, _, F, N, UpdF.head (fun p hp' => ?_), fun h' c F2 N2 => ?_⟩
    · rcases List.mem_cons.mp hp' with rfl | hp'
      · exact hDk
      · exact (hne p hp').1
    · refine KasFin.intro F2 N2 (UpdF.tail (fun e => hDk e.symm) (UpdF.head (fun p hp' => (hne p hp').2))) (fun h3 c3 F3 N3 => ?_)
      have e3 : katRev b [v] = [v] := by unfold katRev; cases b <;> simp
      rw [e3] at N3
      exact done h3 c3 c F3 N3

theorem rest_any {kS a : Addr} {e1 : Nat} {P : PySem.Fin → Shared → Prop} (hk : s.heap.get? kS = some (seqObj "list" #[] 0)) (h64 : vs.length < 64)
    (h : KatKeys prog w A h₀ L m kS f (fun ks _ s' => wpAny (model prog w) A (ksk_end a b vs.toArray e1 (.ref kS) (List.toArray ks)) P E s') vs [] 0 s) :
    wpAny (model prog w) A (ksk_rest a f b vs.toArray e1 (.ref kS)) P E s := by
  unfold ksk_rest
  refine wpAny_bind (wpAny_rule ?_)
  first
    | rw [List.forIn_toArray]
    | (rw [← Array.forIn_toList]; simp only [List.toList_toArray])
    | rw [← Array.forIn_toList]
  refine wpAny_bind (wpAny_mono (kat_fold h64 (fun x ks e s' C hz hx => ?_) vs [] 0 s (by simp) hk h) (fun _ s' hd => ?_) fun _ _ x => x)
  · refine wpAny_bind (wpAny_attempt (wpAny_mono hx (fun k s'' hk => ?_) fun _ _ hF => hF.elim))
    obtain ⟨news', g, F', N', U, c⟩ := hk
    obtain ⟨pre, post, e0, hg, x1, x2⟩ := U.split
    rw [e0] at N'
    have nk := N' (kS, seqObj "list" (List.toArray ks) e) (List.mem_append_right _ (.head _))
    have s1 := Heap.SameBut.update s''.heap kS (Obj.mapSeq (·.push k))
    have ea : (List.toArray ks).push k = List.toArray (ks ++ [k]) := by simp
    obtain ⟨c2, hc2⟩ : ∃ c2, (s''.heap.update kS (Obj.mapSeq (·.push k))).get? kS = some (seqObj "list" (List.toArray (ks ++ [k])) c2) := ⟨_, by rw [← ea]; exact get?_update_seq nk.1 (·.push k)⟩
    try dsimp only
    refine wpAny_bind (listUpdate_at nk.1 rfl ?_ (by rw [List.size_toArray, sizeLine_eq]; omega) (Nat.le_trans (Nat.le_of_eq (Array.size_push ..)) (by rw [List.size_toArray, sizeLine_eq]; omega)))
    exact wpAny_pure ⟨rfl, k, c2, hc2, c _ c2 (kas_fr F' s1 nk.2.1 nk.2.2) (by rw [hg]; exact news_set N' x1 x2 s1 hc2)⟩
  · obtain ⟨ks, e, hk', hl, fin⟩ := hd
    try dsimp only
    refine wpAny_bind (listItems_at hk' rfl ?_)
    exact fin

theorem tree_any {a : Addr} {n : Nat} {P : PySem.Fin → Shared → Prop} (F : Fr h₀ L s.heap m) (N : News h₀ L s.heap news) (ho : s.heap.get? a = some (seqObj "list" vs.toArray n)) (haL : a ≠ L) (ha0 : h₀.get? a = none) (hna : ∀ p ∈ news, p.1 ≠ a)
    (h64 : vs.length < 64)
    (h : ∀ kS e1 h', Fr h₀ L h' m → News h₀ L h' ((kS, seqObj "list" #[] 0) :: (a, seqObj "list" #[] e1) :: news) → a ≠ kS → (∀ q ∈ news, q.1 ≠ kS) →
      KatKeys prog w A h₀ L m kS f (fun ks _ s' => wpAny (model prog w) A (ksk_end a b vs.toArray e1 (.ref kS) (List.toArray ks)) P E s') vs [] 0 { s with heap := h' }) :
    wpAny (model prog w) A (ksk_tree a f b) P E s := by
  have ha : a < s.heap.objs.size := Heap.lt_size ho
  have s1 := Heap.SameBut.update s.heap a (Obj.mapSeq fun _ => (#[] : Array Value))
  obtain ⟨e1, ho1⟩ : ∃ e1, (s.heap.update a (Obj.mapSeq fun _ => (#[] : Array Value))).get? a = some (seqObj "list" #[] e1) := ⟨_, get?_update_seq ho fun _ => #[]⟩
  have F1 := kas_fr F s1 haL ha0
  have N1 := kas_news N s1 hna
  have hkS : ((s.heap.update a (Obj.mapSeq fun _ => (#[] : Array Value))).push (seqObj "tuple" vs.toArray 0)).objs.size = s.heap.objs.size + 1 := by rw [size_push', Heap.size_update]
  have hLk : L < ((s.heap.update a (Obj.mapSeq fun _ => (#[] : Array Value))).push (seqObj "tuple" vs.toArray 0)).objs.size := (F1.push _).ns.lt
  unfold ksk_tree
  refine wpAny_bind (listItems_at ho rfl ?_)
  refine wpAny_bind (listUpdate_at ho rfl ?_ (by rw [List.size_toArray, sizeLine_eq]; omega) (Nat.zero_le _))
  refine wpAny_bind (seqEpoch_at ho1 rfl ?_)
  refine wpAny_bind (wpAny_newTuple ?_ (by show vs.length ≤ _; rw [sizeLine_eq]; omega))
  refine wpAny_bind (wpAny_newList ?_ (Nat.zero_le _))
  refine wpAny_holding ?_
  refine rest_any (s := { s with heap := ((s.heap.update a (Obj.mapSeq fun _ => (#[] : Array Value))).push (seqObj "tuple" vs.toArray 0)).push (seqObj "list" #[] 0) }) (kS := ((s.heap.update a (Obj.mapSeq fun _ => (#[] : Array Value))).push (seqObj "tuple" vs.toArray 0)).objs.size)
    (Heap.get?_push_size _ rfl) h64 (h _ e1 _ ((F1.push _).push _) (fun p hp => ?_) (by rw [hkS]; exact Nat.ne_of_lt (Nat.lt_succ_of_lt ha)) fun q hq => by rw [hkS]; exact Nat.ne_of_lt (Nat.lt_succ_of_lt (Heap.lt_size (N q hq).1)))
  rcases List.mem_cons.mp hp with rfl | hp
  · exact ⟨Heap.get?_push_size _ rfl, Nat.ne_of_gt hLk, Heap.get?_none_of_le (Nat.le_trans F.above (Nat.le_of_lt hLk))⟩
  · rcases List.mem_cons.mp hp with rfl | hp
    · exact ⟨Heap.get?_push_of_some _ (Heap.get?_push_of_some _ ho1), haL, ha0⟩
    · exact ⟨Heap.get?_push_of_some _ (Heap.get?_push_of_some _ (N1 p hp).1), (N1 p hp).2⟩

/-- what the sort makes of the items by the places -/
def outOf (b : Bool) (vs : List Value) (q : List Nat) : List Value := katRev b (q.map fun i => (katRev b vs).getD i Value.none)

theorem sorted_any {src : Value} {kw : List (Str × Value)} {ds : List (List Value)} {Q : Value → Shared → Prop} (F : Fr h₀ L s.heap m) (N : News h₀ L s.heap news) (hu : A.units + 10 < cLine)
    (hsrc : ∀ (Q' : List Value → Shared → Prop), (∀ h' tk, Fr h₀ L h' m → News h₀ L h' news → Q' vs { s with heap := h', toks := tk }) → wpAny (model prog w) A.in1 (collect src) Q' E s)
    (h1 : 1 ≤ vs.length) (h64 : vs.length < 64) (hl : ds.length = vs.length) (hc : ∀ d ∈ ds, ∀ d' ∈ ds, Compat d d') (W : Weak (ltOf (katRev b ds)))
    (ha1 : argsOk "sorted" ⟨[src], kw⟩) (ha2 : ∀ x, argsOk "list.sort" ⟨[.ref x], kw⟩) (ht : ∀ x, Builtin.«list.sort» ⟨[.ref x], kw⟩ = ksk_tree x f b)
    (key : ∀ (i : Nat) (v : Value) (d : List Value), vs[i]? = some v → ds[i]? = some d → KeyCall prog w A.in1.in1 h₀ L m news f v d)
    (done : ∀ D h' tk q c, L < D → Placed (katRev b ds) q → Fr h₀ L h' m → News h₀ L h' ((D, LObj (outOf b vs q) c) :: news) → Q (.ref D) { s with heap := h', toks := tk }) :
    wpAny (model prog w) A (call (.builtin "sorted") [src] kw) Q E s := by
  refine call_function_entry_kw kind_sorted plain_sorted entry_sorted ha1 ?_
  unfold Builtin.«sorted»
  refine wpAny_bind (m := checkCount "sorted" 1 1 _) (wpAny_pure ?_)
  refine wpAny_bind (hsrc _ (fun h1' tk1 F1 N1 => ?_))
  refine wpAny_bind (wpAny_newList ?_ (by rw [sizeLine_eq]; omega))
  have hL : L < h1'.objs.size := F1.ns.lt
  have hoL : (h1'.push (seqObj "list" vs.toArray 0)).get? h1'.objs.size = some (seqObj "list" vs.toArray 0) := Heap.get?_push_size _ rfl
  refine wpAny_bind (wpAny_holding (wpAny_call_entry_kw slot_list_sort ⟨_, hoL, rfl⟩ entry_list_sort ?body (ha2 _)))
  case body =>
    have ht' := ht h1'.objs.size
    show wpAny (model prog w) A.in1.in1 (Builtin.«list.sort» ⟨[.ref h1'.objs.size], kw⟩) _ _ _
    rw [ht']
    have hDL : h1'.objs.size ≠ L := Nat.ne_of_gt hL
    have hD0 : h₀.get? h1'.objs.size = none := Heap.get?_none_of_le (Nat.le_trans F1.above (Nat.le_of_lt hL))
    have hnD : ∀ p ∈ news, p.1 ≠ h1'.objs.size := fun p hp => Nat.ne_of_lt (Heap.lt_size (N1 p hp).1)
    refine tree_any (s := { s with heap := h1'.push (seqObj "list" vs.toArray 0), toks := tk1 }) (F1.push _) (N1.grown fun b o q => Heap.get?_push_of_some _ q) hoL hDL hD0 hnD h64 (fun kS e1 h' F' N' hDk hnk => ?_)
    refine keys_go (s₀ := s) (ds := ds) hDk (fun p hp => ⟨hnk p hp, hnD p hp⟩) ?_ vs [] [] ds [] 0 h' tk1 rfl hl.symm key ⟨rfl, fun i hi => by simp at hi⟩ F' N' (fun p hp => ⟨hnk p hp, hnD p hp⟩)
    intro ks e h2 tk2 own hks F2 N2 hne2
    by_cases hone : vs.length = 1
    · obtain ⟨v, rfl⟩ : ∃ v, vs = [v] := List.length_eq_one_iff.mp hone
      obtain ⟨k, rfl⟩ : ∃ k, ks = [k] := List.length_eq_one_iff.mp (hks.1.trans (hl.trans hone))
      refine end_one (s := { s with heap := h2, toks := tk2 }) F2 N2 hne2 hDk (fun h3 c c' F3 N3 => ?_)
      refine ⟨_, rfl, wpAny_pure ⟨_, rfl, ?_⟩⟩
      have e3 : outOf b [v] [0] = [v] := by unfold outOf katRev; cases b <;> simp
      refine done _ h3 tk2 [0] c hL ⟨?_, by simp⟩ F3 (fun p hp => ?_)
      · rw [kat_len, hl, hone]; exact List.Perm.refl _
      · rw [e3] at hp
        rcases List.mem_cons.mp hp with rfl | hp
        · exact N3 _ (.tail _ (.head _))
        · exact N3 p (.tail _ (.tail _ (List.mem_append_right _ hp)))
    · refine kat_end (hks.1.trans hl) (by omega) h64 (fin_two (s := { s with heap := h2, toks := tk2 }) F2 N2 hne2 hDk hks hl (by omega) ?_ hc W (fun h3 tk3 q c c' hp F3 N3 => ?_))
      · show A.units + 1 + 1 < cLine
        omega
      · refine ⟨_, rfl, wpAny_pure ⟨_, rfl, ?_⟩⟩
        refine done _ h3 tk3 q c hL hp F3 (fun p hp' => ?_)
        rcases List.mem_cons.mp hp' with rfl | hp'
        · exact N3 _ (.tail _ (.head _))
        · exact N3 p (.tail _ (.tail _ (List.mem_append_right _ hp')))
end
end Mine

open PySem PySem.W PyProof.Rows
set_option Elab.async false
set_option maxRecDepth 100000
set_option maxHeartbeats 8000000
namespace Mine
theorem fill_now6 {w : World} {h : Heap} (X : (hd.heap_39 w.params).In h) : (hd.heap_39 w.params).In h ∨ model PySem.Challenge.rw_fe0146_01.row.prog w = model PySem.Challenge.rw_fe0146_01.row.prog w := by
  k_fill
  exact .inl X
theorem enterC {w : World} {d u : Nat} {s : Shared} {Q : Value → Shared → Prop} {E : Value → Shared → Prop} {f : Addr} {name qual : Str} {params : Arguments} {body : List Stmt} {scope : Scope} {dV kV doc pm cdv ct oc : Value} {an od : Option Addr} {osl : Array (Option Value)} {pos : List Value} {kw : List (Str × Value)} {binds : List (Str × Value)} {mean : ExcName → Option Value} {mg mb : Str → Option Value} {B : Heap} {ex : List (Addr × Obj)}
    (hB : Kp B s.heap) (hBs : B.objs.size ≤ s.heap.objs.size) (hex : ∀ p ∈ ex, s.heap.get? p.1 = some p.2 ∧ B.get? p.1 = none)
    (X : (hd.heap_39 w.params).In B) (T : Top topProg LL mean mg mb B)
    (ho : (hd.heap_39 w.params).lookup f = some ⟨oc, od, .func (fnOf name qual params body scope dV kV doc pm an cdv ct), osl⟩) (hcd : codeIn (hd.heap_39 w.params) cdv qual = true) (hroom : d < recursionLimit)
    (hbind : BindsTo s (fnOf name qual params body scope dV kV doc pm an cdv ct) ⟨pos, kw⟩ binds) (hkind : (binds.all fun y => scope.names.lookup y.1 == some .local || scope.names.lookup y.1 == some .cell) = true)
    (hnd : ((cellsFrom 0 scope.names []).map (·.1)).Nodup)
    (h : ∀ L h₁ tk cells, L = s.heap.objs.size → Fr B L h₁ (bindL (envOfC qual scope L f cdv).kindOf binds fun _ => none) → News B L h₁ (cells ++ ex) →
      CellsAre (bindC (envOfC qual scope L f cdv).kindOf binds fun _ => none) (cellsFrom (L + 1) scope.names []) cells →
      wpAny (model PySem.Challenge.rw_fe0146_01.row.prog w) (AA (d + 1) (u + 3)) (execs body (envOfC qual scope L f cdv)) (fun fl s' => Q (match fl with | .ret v => v | _ => .none) s') (fun _ _ => False) { s with heap := h₁, toks := tk })
    (hco : scope.isCoroutine = false) (hgen : scope.isGenerator = false) (hk : scope.kind = .function) :
    wpAny (model PySem.Challenge.rw_fe0146_01.row.prog w) (AA d u) (call (.ref f) pos kw) Q E s := by
  have XS := X.keeps hB
  refine wpAny_call ?_
  refine codeAny_call_function (fd := fnOf name qual params body scope dV kV doc pm an cdv ct) hroom (XS _ _ ho) rfl hco hgen rfl (codeRec_of XS hcd) (hbind _ _ _ _ ?_)
  refine wpAny_newFunctionEnv_cells hk (kindsX hkind _) fun env' he s' x => ?_
  subst he
  refine ⟨((T.keeps hB).nolimit).keeps x.toInCall.keep, codeAny_func ?_⟩
  obtain ⟨h₁, tk, rfl, _⟩ := x.done
  have hk₁ := x.toInCall.keep
  obtain ⟨cells, NC, Y⟩ := Cl.news (h₀ := s.heap) (Nat.le_refl _) fun n c hm => ⟨x.cell n c (lookup_of_mem_nodup (cellsFrom_names scope.names 0 (s.heap.objs.size + 1) [] [] rfl ▸ hnd) hm), x.above n c hm⟩
  refine wpAny_mono (h s.heap.objs.size h₁ tk cells rfl ⟨x.toInCall.ns, fun b o e => hk₁ b o (hB b o e), hBs⟩ (fun p hp => ?_) Y) (fun _ _ x => x) (fun _ _ x => x.elim)
  rcases List.mem_append.mp hp with hp | hp
  · refine ⟨(NC p hp).1, (NC p hp).2.1, ?_⟩
    cases q : B.get? p.1 with
    | none => rfl
    | some o => have := hB _ _ q; rw [(NC p hp).2.2] at this; cases this
  · exact ⟨hk₁ _ _ (hex p hp).1, Nat.ne_of_lt (Heap.lt_size (hex p hp).1), (hex p hp).2⟩

local macro_rules | `(tactic| walk_at "call builtin:sorted") => `(tactic| (k_here; with_reducible refine held ?_))

def keyD (x : Str) : List Value := (runsF x.cps.toList).map atoiV
def TextOk (x : Str) : Prop := x.cps.size ≤ 100 ∧ ∀ r ∈ runsF x.cps.toList, AtoiOk r

theorem natural_keys_call {w : World} {A : Around} {s : Shared} {Q E : Value → Shared → Prop} {mean : ExcName → Option Value} {mg mb : Str → Option Value} {h₀ : Heap} {L : Addr} {m : Str → Option Value}
    (F : Fr h₀ L s.heap m) (X : (hd.heap_39 w.params).In h₀) (T : Top topProg LL mean mg mb h₀) (hh : A.handled = none) (hd : A.depth ≤ 500) (hu : A.units ≤ 2000) {xt : Str} {tx : Tok} (ok : TextOk xt)
    (ret : ∀ (D : Addr) (os : List Value) (c : Nat) h' tk', Kp s.heap h' → s.heap.get? D = none → h'.get? D = some (LObj os c) → os.map st = keyD xt → Q (.ref D) { s with heap := h', toks := tk' }) :
    wpAny (model PySem.Challenge.rw_fe0146_01.row.prog w) A (call (.ref 41) [.str xt tx]) Q E s :=
  wpAA (d := 500) (u := 2000) (natural_keys_spec (X.keeps F.keep) (T.keeps F.keep) ok.1 ok.2 (fun D os c h' tk' k a b e => ret D os c h' tk' k a b e)) hh hd hu

/-- what a source of the sort must do -/
def SrcOk (w : World) (B : Heap) (ex : List (Addr × Obj)) (src : Value) (vs : List Value) : Prop :=
  ∀ (E' : Value → Shared → Prop) (s' : Shared) (L : Addr) (m : Str → Option Value) (cells : List (Addr × Obj)) (Q' : List Value → Shared → Prop), Fr B L s'.heap m → News B L s'.heap (cells ++ ex) → (∀ p ∈ cells, ∀ q ∈ ex, p.1 ≠ q.1) →
    (∀ h' tk, Fr B L h' m → News B L h' cells → Q' vs { s' with heap := h', toks := tk }) →
    wpAny (model PySem.Challenge.rw_fe0146_01.row.prog w) (AA 401 1003).in1 (collect src) Q' E' s'

theorem natKey {w : World} {mean : ExcName → Option Value} {mg mb : Str → Option Value} {B : Heap} {L : Addr} {m : Str → Option Value} {news : List (Addr × Obj)} {vs : List Value} {xs : List Str}
    (X : (hd.heap_39 w.params).In B) (T : Top topProg LL mean mg mb B) (hv : vs.map st = xs.map sv) (ok : ∀ x ∈ xs, TextOk x) (i : Nat) (v : Value) (d : List Value) (hvi : vs[i]? = some v) (hdi : (xs.map keyD)[i]? = some d) :
    KeyCall PySem.Challenge.rw_fe0146_01.row.prog w (AA 401 1003).in1.in1 B L m news (.ref 41) v d := by
  intro s F N
  have hi : i < xs.length := by
    rcases Nat.lt_or_ge i xs.length with q | q
    · exact q
    · rw [List.getElem?_eq_none (by simpa using q)] at hdi; cases hdi
  obtain ⟨t, it⟩ := item_s hv (i := i) hi
  unfold ItAt at it
  rw [Int.toNat_natCast, hvi] at it
  have e := Option.some.inj it
  subst e
  have hd : d = keyD xs[i] := by
    rw [List.getElem?_map, List.getElem?_eq_getElem hi] at hdi
    exact (Option.some.inj hdi).symm
  subst hd
  refine natural_keys_call F X T rfl (by decide) (by decide) (ok _ (List.getElem_mem hi)) (fun D os c h' tk' k a b e => ?_)
  exact ⟨h', tk', D, os, c, rfl, rfl, k, a, b, e⟩

theorem nat_rev {w : World} {s : Shared} {Q E : Value → Shared → Prop} {mean : ExcName → Option Value} {mg mb : Str → Option Value} {B : Heap} {ex : List (Addr × Obj)} {src : Value} {b : Bool} {vs : List Value} {xs : List Str}
    (hB : Kp B s.heap) (hBs : B.objs.size ≤ s.heap.objs.size) (hex : ∀ p ∈ ex, s.heap.get? p.1 = some p.2 ∧ B.get? p.1 = none)
    (X : (hd.heap_39 w.params).In B) (T : Top topProg LL mean mg mb B) (hsrc : SrcOk w B ex src vs) (hv : vs.map st = xs.map sv) (ok : ∀ x ∈ xs, TextOk x) (h1 : 1 ≤ vs.length) (h64 : vs.length < 64)
    (hc : ∀ d ∈ xs.map keyD, ∀ d' ∈ xs.map keyD, Compat d d') (W : Weak (ltOf (katRev b (xs.map keyD))))
    (ret : ∀ (D : Addr) (c : Nat) (q : List Nat) h' tk', Kp B h' → s.heap.objs.size ≤ D → B.get? D = none → h'.get? D = some (LObj (outOf b vs q) c) → Placed (katRev b (xs.map keyD)) q → Q (.ref D) { s with heap := h', toks := tk' }) :
    wpAny (model PySem.Challenge.rw_fe0146_01.row.prog w) (AA 400 1000) (call (.ref 29) [src] [(Str.ofString "reverse", .bool b)]) Q E s := by
  refine' enterC hB hBs hex X T ?k6 ?k7 ?k8 ?k9 ?kB ?kD ?_ ?c2 ?c3 ?c4
  case k6 => k_is
  case k7 => k_is
  case k8 => decide
  case k9 => first | exact BindsTo.of_eq rfl | exact binds_K (X.keeps hB) rfl (by k_is) rfl rfl rfl
  case kB => exact rfl
  case kD => decide +kernel
  case c2 => exact rfl
  case c3 => exact rfl
  case c4 => exact rfl
  intro L h₁ tk cells hL F N Y
  k_cells Y
  simp only [List.cons_append, List.nil_append] at N
  show wpAny _ _ _ _ _ _
  k_fold
  k_steps
  rename Fr _ _ _ _ => F1
  rename News _ _ _ _ => N1
  unfold Held
  have hlen : vs.length = xs.length := by simpa using congrArg List.length hv
  refine sorted_any (ds := xs.map keyD) (vs := vs) (b := b) (news := [_]) (f := .ref 41) F1 (fun p hp => N1 p (List.mem_append_left _ hp)) (by decide) (fun Q' hQ => hsrc _ _ _ _ [_] Q' F1 N1 (fun p hp q hq => by rw [List.mem_singleton.mp hp]; have z := Heap.lt_size (hex q hq).1; rw [← hL] at z; exact Nat.ne_of_gt (Nat.lt_succ_of_lt z)) hQ) h1 h64 (by simp [hlen]) hc W
    (by unfold argsOk; kernel_rfl) (fun x => by unfold argsOk; kernel_rfl) (fun x => rfl) ?_ ?_
  · intro i v d hvi hdi
    exact natKey X T hv ok i v d hvi hdi
  · intro D h' tk q c hD hp F2 N2
    have z := N2 _ (.head _)
    refine ret D c q h' _ F2.keep (hL ▸ Nat.le_of_lt hD) z.2.2 z.1 hp

end Mine

open PySem PySem.W PyProof.Rows
set_option Elab.async false
set_option maxRecDepth 100000
set_option maxHeartbeats 8000000
namespace Mine
theorem fill_now7 {w : World} {h : Heap} (X : (hd.heap_39 w.params).In h) : (hd.heap_39 w.params).In h ∨ model PySem.Challenge.rw_fe0146_01.row.prog w = model PySem.Challenge.rw_fe0146_01.row.prog w := by
  k_fill
  exact .inl X
local macro_rules | `(tactic| walk_at "call builtin:sorted") => `(tactic| (k_here; with_reducible refine held ?_))

theorem nat_pos {w : World} {s : Shared} {Q E : Value → Shared → Prop} {mean : ExcName → Option Value} {mg mb : Str → Option Value} {B : Heap} {ex : List (Addr × Obj)} {src : Value} {b : Bool} {vs : List Value} {xs : List Str}
    (hB : Kp B s.heap) (hBs : B.objs.size ≤ s.heap.objs.size) (hex : ∀ p ∈ ex, s.heap.get? p.1 = some p.2 ∧ B.get? p.1 = none)
    (X : (hd.heap_39 w.params).In B) (T : Top topProg LL mean mg mb B) (hsrc : SrcOk w B ex src vs) (hv : vs.map st = xs.map sv) (ok : ∀ x ∈ xs, TextOk x) (h1 : 1 ≤ vs.length) (h64 : vs.length < 64)
    (hc : ∀ d ∈ xs.map keyD, ∀ d' ∈ xs.map keyD, Compat d d') (W : Weak (ltOf (katRev b (xs.map keyD))))
    (ret : ∀ (D : Addr) (c : Nat) (q : List Nat) h' tk', Kp B h' → s.heap.objs.size ≤ D → B.get? D = none → h'.get? D = some (LObj (outOf b vs q) c) → Placed (katRev b (xs.map keyD)) q → Q (.ref D) { s with heap := h', toks := tk' }) :
    wpAny (model PySem.Challenge.rw_fe0146_01.row.prog w) (AA 400 1000) (call (.ref 29) [src, .none, .bool b] []) Q E s := by
  refine' enterC hB hBs hex X T ?k6 ?k7 ?k8 ?k9 ?kB ?kD ?_ ?c2 ?c3 ?c4
  case k6 => k_is
  case k7 => k_is
  case k8 => decide
  case k9 => first | exact BindsTo.of_eq rfl | exact binds_K (X.keeps hB) rfl (by k_is) rfl rfl rfl
  case kB => exact rfl
  case kD => decide +kernel
  case c2 => exact rfl
  case c3 => exact rfl
  case c4 => exact rfl
  intro L h₁ tk cells hL F N Y
  k_cells Y
  simp only [List.cons_append, List.nil_append] at N
  show wpAny _ _ _ _ _ _
  k_fold
  k_steps
  rename Fr _ _ _ _ => F1
  rename News _ _ _ _ => N1
  unfold Held
  have hlen : vs.length = xs.length := by simpa using congrArg List.length hv
  refine sorted_any (ds := xs.map keyD) (vs := vs) (b := b) (news := [_]) (f := .ref 41) F1 (fun p hp => N1 p (List.mem_append_left _ hp)) (by decide) (fun Q' hQ => hsrc _ _ _ _ [_] Q' F1 N1 (fun p hp q hq => by rw [List.mem_singleton.mp hp]; have z := Heap.lt_size (hex q hq).1; rw [← hL] at z; exact Nat.ne_of_gt (Nat.lt_succ_of_lt z)) hQ) h1 h64 (by simp [hlen]) hc W
    (by unfold argsOk; kernel_rfl) (fun x => by unfold argsOk; kernel_rfl) (fun x => rfl) ?_ ?_
  · intro i v d hvi hdi
    exact natKey X T hv ok i v d hvi hdi
  · intro D h' tk q c hD hp F2 N2
    have z := N2 _ (.head _)
    refine ret D c q h' _ F2.keep (hL ▸ Nat.le_of_lt hD) z.2.2 z.1 hp

theorem enterX {w : World} {d u : Nat} {s : Shared} {Q : Value → Shared → Prop} {E : Value → Shared → Prop} {f : Addr} {name qual : Str} {params : Arguments} {body : List Stmt} {scope : Scope} {cl : List (Str × Addr)} {doc pm ctv : Value} {c' : Addr} {args : List Value} {binds : List (Str × Value)} {mean : ExcName → Option Value} {mg mb : Str → Option Value} {B : Heap} {ex : List (Addr × Obj)}
    (hB : Kp B s.heap) (hBs : B.objs.size ≤ s.heap.objs.size) (hex : ∀ p ∈ ex, s.heap.get? p.1 = some p.2 ∧ B.get? p.1 = none)
    (T : Top topProg LL mean mg mb B)
    (ho : s.heap.get? f = some (fnMade name qual params body scope cl doc pm c' ctv)) (hcd : s.heap.CodeRec (.ref c') qual) (hroom : d < recursionLimit)
    (hbind : BindsTo s (fnX name qual params body scope cl .none .none doc pm none (.ref c') ctv) ⟨args, []⟩ binds) (hloc : ∀ y ∈ binds, scope.names.lookup y.1 = some .local)
    (h : ∀ L h₁ tk, L = s.heap.objs.size → Fr B L h₁ (fun y => binds.reverse.lookup y) → News B L h₁ ex → Kp s.heap h₁ →
      wpAny (model PySem.Challenge.rw_fe0146_01.row.prog w) (AA (d + 1) (u + 3)) (execs body (envX qual scope L f (.ref c') cl)) (fun fl s' => Q (match fl with | .ret v => v | _ => .none) s') (fun _ _ => False) { s with heap := h₁, toks := tk })
    (hcell : ∀ x ∈ scope.names, x.2 ≠ .cell) (hco : scope.isCoroutine = false) (hgen : scope.isGenerator = false) (hk : scope.kind = .function) :
    wpAny (model PySem.Challenge.rw_fe0146_01.row.prog w) (AA d u) (call (.ref f) args) Q E s := by
  refine wpAny_call ?_
  refine codeAny_call_def (fd := fnX name qual params body scope cl .none .none doc pm none (.ref c') ctv) (body := body) (binds := binds) hroom ho rfl (T.keeps hB).nolimit hcd rfl hbind hcell hloc (fun h₁ hns hk₁ => ?_) hco hgen hk
  refine wpAny_mono (h s.heap.objs.size h₁ _ rfl ⟨hns, fun b o e => hk₁ b o (hB b o e), hBs⟩ (fun p hp => ?_) hk₁) (fun _ _ x => x) (fun _ _ x => x.elim)
  exact ⟨hk₁ _ _ (hex p hp).1, Nat.ne_of_lt (Heap.lt_size (hex p hp).1), (hex p hp).2⟩

theorem enterE {w : World} {d u : Nat} {s : Shared} {Q : Value → Shared → Prop} {E : Value → Shared → Prop} {f : Addr} {name qual : Str} {params : Arguments} {body : Expr} {scope : Scope} {cl : List (Str × Addr)} {pm ctv : Value} {c' : Addr} {args : List Value} {binds : List (Str × Value)} {mean : ExcName → Option Value} {mg mb : Str → Option Value} {B : Heap} {ex : List (Addr × Obj)}
    (hB : Kp B s.heap) (hBs : B.objs.size ≤ s.heap.objs.size) (hex : ∀ p ∈ ex, s.heap.get? p.1 = some p.2 ∧ B.get? p.1 = none)
    (T : Top topProg LL mean mg mb B)
    (ho : s.heap.get? f = some (kla_obj name qual params body scope cl pm c' ctv)) (hcd : s.heap.CodeRec (.ref c') qual) (hroom : d < recursionLimit)
    (hbind : BindsTo s (kla_fn name qual params body scope cl pm (.ref c') ctv) ⟨args, []⟩ binds) (hloc : ∀ y ∈ binds, scope.names.lookup y.1 = some .local)
    (h : ∀ L h₁ tk, L = s.heap.objs.size → Fr B L h₁ (fun y => binds.reverse.lookup y) → News B L h₁ ex → Kp s.heap h₁ →
      wpAny (model PySem.Challenge.rw_fe0146_01.row.prog w) (AA (d + 1) (u + 3)) (eval body (envX qual scope L f (.ref c') cl)) Q (fun _ _ => False) { s with heap := h₁, toks := tk })
    (hcell : ∀ x ∈ scope.names, x.2 ≠ .cell) (hco : scope.isCoroutine = false) (hgen : scope.isGenerator = false) (hk : scope.kind = .function) :
    wpAny (model PySem.Challenge.rw_fe0146_01.row.prog w) (AA d u) (call (.ref f) args) Q E s := by
  refine wpAny_call ?_
  refine kla_callFunE (fd := kla_fn name qual params body scope cl pm (.ref c') ctv) (body := body) hroom ho rfl hco hgen rfl hcd (hbind _ _ _ _ ?_)
  refine wpAny_newFunctionEnv hcell hloc (fun h₁ hns hsb => ⟨(T.keeps hB).nolimit.fresh _ hsb, kla_codeExpr ?_⟩) hk
  have hk₁ : Kp s.heap h₁ := fun b o e => hsb.extBut b o (Nat.ne_of_lt (Heap.lt_size e)) (Heap.get?_push_of_some _ e)
  refine wpAny_mono (h s.heap.objs.size h₁ _ rfl ⟨hns, fun b o e => hk₁ b o (hB b o e), hBs⟩ (fun p hp => ?_) hk₁) (fun _ _ x => x) (fun _ _ x => x.elim)
  exact ⟨hk₁ _ _ (hex p hp).1, Nat.ne_of_lt (Heap.lt_size (hex p hp).1), (hex p hp).2⟩
end Mine

open PySem PySem.W PyProof.Rows
set_option Elab.async false
set_option maxRecDepth 100000
set_option maxHeartbeats 8000000
namespace Mine
theorem fill_now8 {w : World} {h : Heap} (X : (hd.heap_39 w.params).In h) : (hd.heap_39 w.params).In h ∨ model PySem.Challenge.rw_fe0146_01.row.prog w = model PySem.Challenge.rw_fe0146_01.row.prog w := by
  k_fill
  exact .inl X
local macro_rules | `(tactic| walk_at "call builtin:sorted") => `(tactic| (k_here; with_reducible refine held ?_))

theorem fnAt_kp {f : Addr} {B h : Heap} (x : FnAt f B) (k : Kp B h) : FnAt f h := let ⟨a, b, c, d, e⟩ := x; ⟨a, b, c, d, k _ _ e⟩
local macro_rules | `(tactic| walk_at "FnAt") => `(tactic| (k_dflt (exact fnAt_kp (by assumption) (Fr.keep (by k_asm)))))
local macro_rules | `(tactic| walk_at "callWith ref") => `(tactic| (k_here; k_dflt (refine' callWith_F ?k1 ?_; (case k1 => exact fnAt_kp (by assumption) (Fr.keep (by k_asm))); k_whole)))
local macro_rules | `(tactic| walk_at "call ref") => `(tactic| (k_here; with_reducible refine held ?_))

def KeyOk (w : World) (B : Heap) (f : Addr) (vs : List Value) (xs : List Str) : Prop :=
  ∀ (i : Nat) (v : Value) (x : Str), vs[i]? = some v → xs[i]? = some x → ∀ (s : Shared) (Q E : Value → Shared → Prop), Kp B s.heap → B.objs.size ≤ s.heap.objs.size →
    (∀ h' tk t, Kp s.heap h' → Q (.str x t) { s with heap := h', toks := tk }) → wpAny (model PySem.Challenge.rw_fe0146_01.row.prog w) (AA 450 1500) (call (.ref f) [v]) Q E s

theorem nat_key {w : World} {s : Shared} {Q E : Value → Shared → Prop} {mean : ExcName → Option Value} {mg mb : Str → Option Value} {B : Heap} {src : Value} {b : Bool} {f : Addr} {vs : List Value} {xs : List Str}
    (hB : Kp B s.heap) (hBs : B.objs.size ≤ s.heap.objs.size) (hex : ∀ p ∈ [((24 : Addr), tabObj #[])], s.heap.get? p.1 = some p.2 ∧ B.get? p.1 = none)
    (X : (hd.heap_39 w.params).In B) (T : Top topProg LL mean mg mb B) (C : CodeHd B 28 24) (hfn : FnAt f B) (hsrc : ∀ ex, SrcOk w B ex src vs) (hlen : vs.length = xs.length) (ok : ∀ x ∈ xs, TextOk x) (h1 : 1 ≤ vs.length) (h64 : vs.length < 64)
    (hkey : KeyOk w B f vs xs)
    (hc : ∀ d ∈ xs.map keyD, ∀ d' ∈ xs.map keyD, Compat d d') (W : Weak (ltOf (katRev b (xs.map keyD))))
    (ret : ∀ (D : Addr) (c : Nat) (q : List Nat) h' tk', Kp B h' → s.heap.objs.size ≤ D → B.get? D = none → h'.get? D = some (LObj (outOf b vs q) c) → Placed (katRev b (xs.map keyD)) q → GrownAt 24 h' → Q (.ref D) { s with heap := h', toks := tk' }) :
    wpAny (model PySem.Challenge.rw_fe0146_01.row.prog w) (AA 400 1000) (call (.ref 29) [src] [(Str.ofString "key", .ref f), (Str.ofString "reverse", .bool b)]) Q E s := by
  refine' enterC hB hBs hex X T ?k6 ?k7 ?k8 ?k9 ?kB ?kD ?_ ?c2 ?c3 ?c4
  case k6 => k_is
  case k7 => k_is
  case k8 => decide
  case k9 => first | exact BindsTo.of_eq rfl | exact binds_K (X.keeps hB) rfl (by k_is) rfl rfl rfl
  case kB => exact rfl
  case kD => decide +kernel
  case c2 => exact rfl
  case c3 => exact rfl
  case c4 => exact rfl
  intro L h₁ tk cells hL F N Y
  have h24 : 24 < L := hL ▸ Heap.lt_size (hex _ (.head _)).1
  k_cells Y
  simp only [List.cons_append, List.nil_append] at N
  show wpAny _ _ _ _ _ _
  k_fold
  k_steps
  rename Fr _ _ _ _ => F1
  rename News _ _ _ _ => N1
  unfold Held
  refine sorted_any (ds := xs.map keyD) (vs := vs) (b := b) F1 N1 (by decide) (fun Q' hQ => hsrc [] _ _ _ _ _ Q' F1 (by simpa using N1) (fun p hp q hq => by cases hq) hQ) h1 h64 (by simp [hlen]) hc W
    (by unfold argsOk; kernel_rfl) (fun x => by unfold argsOk; kernel_rfl) (fun x => rfl) ?_ ?_
  · intro i v d hvi hdi s2 F2 N2
    have hi : i < xs.length := by
      rcases Nat.lt_or_ge i xs.length with q | q
      · exact q
      · rw [List.getElem?_eq_none (by simpa using q)] at hdi; cases hdi
    have hxi : xs[i]? = some xs[i] := List.getElem?_eq_getElem hi
    have hd : d = keyD xs[i] := by
      rw [List.getElem?_map, hxi] at hdi
      exact (Option.some.inj hdi).symm
    subst hd
    have zf := N2 _ (.head _)
    have zc := N2 _ (.tail _ (.head _))
    refine enterX (B := B) (d := 401) (u := 1005) F2.keep (Nat.le_trans F2.above (Nat.le_of_lt F2.ns.lt)) (fun p hp => ⟨(N2 p hp).1, (N2 p hp).2.2⟩) T zf.1 ⟨_, _, _, _, rfl, zc.1, by assumption, by assumption⟩ (by decide) (BindsTo.of_eq rfl) (locs rfl) ?_ (by decide) rfl rfl rfl
    intro L2 h2 tk2 hL2 F3 N3 K3
    k_fold
    k_steps
    unfold Held
    rename Fr _ _ _ _ => F4
    rename News _ _ _ _ => N4
    refine wpAA (d := 450) (u := 1500) (hkey i v _ hvi hxi _ _ _ F4.keep (Nat.le_trans F4.above (Nat.le_of_lt F4.ns.lt)) (fun h5 tk5 t5 K5 => ?_)) rfl (by decide) (by decide)
    have F5 : Fr _ _ h5 _ := ⟨F4.ns.keeps K5, fun b o e => K5 _ _ (F4.keep b o e), F4.above⟩
    have N5 := News.grown N4 K5
    clear F4 N4
    k_steps
    unfold Held
    rename Fr _ _ _ _ => F6
    refine natural_keys_call F6 X T rfl (by decide) (by decide) (ok _ (List.getElem_mem hi)) (fun D os c h' tk' k a b e => ?_)
    show ∃ h' tk' l os c, _ = _ ∧ Value.ref D = Value.ref l ∧ Kp s2.heap h' ∧ s2.heap.get? l = none ∧ h'.get? l = some (LObj os c) ∧ List.map st os = keyD xs[i]
    refine ⟨h', tk', D, os, c, rfl, rfl, fun b o z => k _ _ (K5 _ _ (K3 _ _ z)), ?_, b, e⟩
    cases q : s2.heap.get? D with
    | none => rfl
    | some o => have z := K5 _ _ (K3 _ _ q); rw [show h5.get? D = none from a] at z; cases z
  · intro D h' tk q c hD hp F2 N2
    have z := N2 _ (.head _)
    refine ret D c q h' _ F2.keep (hL ▸ Nat.le_of_lt hD) z.2.2 z.1 hp ?_
    exact GrownAt.of N2 (by k_mem)
end Mine

open PySem PySem.W PyProof.Rows
set_option Elab.async false
set_option maxRecDepth 100000
set_option maxHeartbeats 8000000
namespace Mine

theorem src_seq {w : World} {B : Heap} {ex : List (Addr × Obj)} {a : Addr} {T : String} {o : Obj} {vs : List Value} {n : Nat} (hT : T = "list" ∨ T = "tuple") (ho : B.get? a = some o) (hc : o.cls = .type T) (hd : o.data = .seq vs.toArray n) (hl : vs.length ≤ 1000) :
    SrcOk w B ex (.ref a) vs := by
  intro E' s' L m cells Q' F N hdis hQ
  refine wpAny_collect_seq a hT (F.keep _ _ ho) hc hd (fun h' hk => ?_) (by rw [List.size_toArray, sizeLine_eq]; omega)
  rw [List.toList_toArray]
  exact hQ h' s'.toks ⟨F.ns.keeps hk, fun b o e => hk _ _ (F.keep b o e), F.above⟩ (fun p hp => ⟨hk _ _ (N p (List.mem_append_left _ hp)).1, (N p (List.mem_append_left _ hp)).2⟩)

theorem nolen_lri : typeLookup (.type "list_reverseiterator") "__len__" = pure none := by rw [typeLookup_type, builtinLookup_eq_fast]; kernel_rfl
theorem hint_lri : typeLookup (.type "list_reverseiterator") "__length_hint__" = pure (some (.builtin "list_reverseiterator.__length_hint__")) := by rw [typeLookup_type, builtinLookup_eq_fast]; kernel_rfl

section
variable {prog : Program} {w : World} {A : Around} {E : Value → Shared → Prop} {s : Shared} {I : Addr} {fp wr : List Addr} {G : Array GenState → Array GenState → Prop} {n : Nat} {P : Nat → Value → Prop} {St : Nat → Shared → Prop}

theorem collect_lri {Q : List Value → Shared → Prop}
    (W : WalksS prog w A.in1 I fp wr G n P St) (hT : ∀ i s, St i s → s.TypeIs (.ref I) "list_reverseiterator") (hst : St 0 s) (hfp : ∀ b ∈ fp, b < s.heap.objs.size) (hI : I ∈ fp)
    (hQ : ∀ s' acc, Moved wr G s s' → ItemsOf P acc n → Q acc.toList s') (hn : n ≤ sizeLine) : wpAny (model prog w) A (collect (.ref I)) Q E s := by
  have hSf : s.heap.objs.size ∉ fp := fun hm => Nat.lt_irrefl _ (hfp _ hm)
  have hSI : s.heap.objs.size ≠ I := fun e => hSf (e ▸ hI)
  unfold collect
  refine wpAny_bind (wpAny_runValue (codeAny_builtin F.entry_proto_collect ?_))
  rw [Around.under_plainId F.plain_proto_collect _]
  show wpAny _ A.in1 (newList [] >>= fun l => again (.builtin "list.__iadd__" ⟨[l, .ref I], []⟩)) _ _ s
  refine wpAny_bind (wpAny_newObj_type ?_)
  refine wpAny_pure ⟨plainId_quiet F.plain_list_iadd _, codeAny_builtin F.entry_list_iadd ?_⟩
  rw [Around.under_plainId F.plain_list_iadd _]
  have hst₁ := W.frame 0 s (s.heap.push { cls := .type "list", data := .seq ([] : List Value).toArray }) s.toks hst (Nat.le_refl _) fun b _ o e => Heap.get?_push_of_some _ e
  have hS₁ : (s.heap.push { cls := .type "list", data := .seq ([] : List Value).toArray }).get? s.heap.objs.size = some { cls := .type "list", data := .seq ([] : List Value).toArray } := Heap.get?_push_size _ rfl
  have h1 : Builtin.List.listSameRef (.ref s.heap.objs.size) (.ref I) = false := by simp [Builtin.List.listSameRef, hSI]
  show wpAny _ A.in1 (Builtin.List.listExtendWith (.ref s.heap.objs.size) (.ref I) (.ref s.heap.objs.size)) _ _ _
  unfold Builtin.List.listExtendWith
  refine wpAny_bind (wpAny_typeOf (hT 0 _ hst₁) ?_)
  rw [if_neg (by rw [h1]; decide)]
  refine wpAny_bind (W.self 0 _ _ _ hst₁ ?_)
  refine wpAny_bind (wpAny_holding ?_)
  unfold Builtin.List.listLengthHint
  refine wpAny_bind (wpAny_specialOf (hT 0 _ hst₁) nolen_lri ?_)
  show wpAny _ A.in1 (specialOf (Value.ref I) (Str.ofString "__length_hint__") >>= _) _ _ _
  refine wpAny_bind (wpAny_specialOf (hT 0 _ hst₁) hint_lri ?_)
  (generalize hid : ("list_reverseiterator.__length_hint__" : String) = id0; (fail_if_success (clear hid id0)); wp_delta; rw [show splitId id0 = some ("list_reverseiterator", "__length_hint__") from by subst hid; decide +kernel]; subst hid)
  refine wpAny_bind (wpAny_isInstance (b := true) (hT 0 _ hst₁) (by rw [isSubtype_type]; kernel_rfl) ?_)
  refine wpAny_pure ?_
  rw [if_neg (by decide)]
  refine wpAny_pure ⟨plainId_quiet F.plain_extend_loop _, codeAny_extend_loopS W hn _ hSf _ n 0 _ _ _ rfl (Nat.zero_le _) hst₁ hS₁ (ItemsOf.nil P) fun s' acc' c' hm hS' hacc => ?_⟩
  show wpAny _ A (load s.heap.objs.size >>= _) _ _ s'
  refine wpAny_bind (wpAny_load hS' ?_)
  exact wpAny_pure (hQ s' acc' (Moved.drop_new (o := { cls := .type "list", data := .seq ([] : List Value).toArray }) (tk := s.toks) hm (Nat.le_refl _)) hacc)
end

theorem src_rev {w : World} {B : Heap} {I l : Addr} {vs : List Value} (hl : B.IsList l vs.toArray) (hlen : vs.length ≤ 1000) (hIB : B.get? I = none) :
    SrcOk w B [(I, revObj l ((vs.length : Int) - 1))] (.ref I) vs.reverse := by
  intro E' s' L m cells Q' F N hdis hQ
  have hI := N (I, revObj l ((vs.length : Int) - 1)) (by simp)
  have hne : l ≠ I := fun e => by obtain ⟨o, ho, _⟩ := hl; rw [e, hIB] at ho; cases ho
  obtain ⟨o, ho, r⟩ := hl
  have hls : s'.heap.IsList l vs.toArray := ⟨o, F.keep _ _ ho, r⟩
  refine collect_lri (n := vs.toArray.size) (Walks.listRev rfl I l hne vs.toArray).toS (fun i s x => x.2.1.typeIs) ⟨Nat.zero_le _, ⟨_, hI.1, rfl, by unfold revObj; simp⟩, hls⟩ (fun b hb => ?_) (by simp) (fun s2 acc hm ha => ?_) (by rw [List.size_toArray, sizeLine_eq]; omega)
  · rcases List.mem_cons.mp hb with rfl | hb
    · exact Heap.lt_size hI.1
    · rcases List.mem_cons.mp hb with rfl | hb
      · exact Heap.lt_size (F.keep _ _ ho)
      · cases hb
  · have kp : ∀ b o, b ≠ I → s'.heap.get? b = some o → s2.heap.get? b = some o := fun b o hb e => hm.heap b o (fun q => hb (List.mem_singleton.mp q)) e
    have hIL : I ≠ L := hI.2.1
    obtain ⟨h2, g2, dr2, tk2, os2⟩ := s2
    have e1 : g2 = s'.gens := hm.gens
    have e2 : dr2 = s'.drawn := hm.drawn
    have e3 : os2 = s'.os := hm.os
    subst e1 e2 e3
    have hacc : acc.toList = vs.reverse := by
      refine List.ext_getElem? fun j => ?_
      rw [Array.getElem?_toList]
      have hsz : acc.size = vs.length := by simpa using ha.1
      rcases Nat.lt_or_ge j vs.length with hj | hj
      · have e4 : acc[j]? = some acc[j] := Array.getElem?_eq_getElem (by omega)
        have e5 := ha.2 j _ e4
        rw [List.getElem?_reverse hj, e4]
        simpa using e5.symm
      · rw [Array.getElem?_eq_none (by omega), List.getElem?_eq_none (by simpa using hj)]
    rw [hacc]
    refine hQ h2 tk2 ⟨?_, fun b o e => ?_, F.above⟩ (fun p hp => ⟨kp _ _ (hdis p hp _ (.head _)) (N p (List.mem_append_left _ hp)).1, (N p (List.mem_append_left _ hp)).2⟩)
    · exact F.ns.extBut (fun b o hb e => kp b o hb e) hIL.symm
    · exact kp _ _ (fun q => by rw [q, hIB] at e; cases e) (F.keep _ _ e)
end Mine

open PySem PySem.W PyProof.Rows
set_option Elab.async false
set_option maxRecDepth 100000
set_option maxHeartbeats 8000000
namespace Mine
theorem fill_now9 {w : World} {h : Heap} (X : (hd.heap_39 w.params).In h) : (hd.heap_39 w.params).In h ∨ model PySem.Challenge.rw_fe0146_01.row.prog w = model PySem.Challenge.rw_fe0146_01.row.prog w := by
  k_fill
  exact .inl X
local macro_rules | `(tactic| walk_at "mine enter") => `(tactic| (
  refine' enterP (by assumption) (by assumption) ?k6 ?k7 ?k8 ?k9 ?kB ?_ ?c5 ?c2 ?c3 ?c4
  (case k6 => k_is)
  (case k7 => k_is)
  (case k8 => decide)
  (case k9 => exact BindsTo.of_eq rfl)
  (case c5 => decide)
  (case kB => exact locs rfl)
  (case c2 => exact rfl)
  (case c3 => exact rfl)
  (case c4 => exact rfl)))
def LX (h : Heap) (a : Addr) (vs : List Value) : Prop := (∃ c, h.get? a = some (LObj vs c)) ∧ vs.length ≤ 1000
section
variable {prog : Program} {w : World} {A : Around} {s : Shared} {Q : Value → Shared → Prop} {E : Value → Shared → Prop} {h₀ : Heap} {L a : Addr} {m : Str → Option Value} {vs : List Value}
theorem index_method {pl : Sem Bool} {Q : Value × List Value → Shared → Prop} (F : Fr h₀ L s.heap m) (x : LX h₀ a vs) (h : Q (.builtin "list.index", [.ref a]) s) : wpAny (model prog w) A (getMethod (.ref a) (Str.ofString "index") pl) Q E s := by
  obtain ⟨⟨c, hc⟩, _⟩ := x
  exact getMethod_builtin ⟨_, F.keep _ _ hc, rfl⟩ PySem.F.plainAttrs_list PySem.F.slot_list_index PySem.F.type_list_index (fun a e => by cases e; exact ⟨_, F.keep _ _ hc, rfl⟩) h
theorem strs_same {vs : List Value} {xs : List Str} (e : vs.map st = xs.map sv) : ∀ v ∈ vs, ∃ x t, v = .str x t := by
  intro v hv
  have : st v ∈ xs.map sv := by rw [← e]; exact List.mem_map_of_mem hv
  obtain ⟨x, _, hx⟩ := List.mem_map.mp this
  cases v <;> simp [st, sv] at hx
  exact ⟨_, _, rfl⟩
theorem index_X {xs : List Str} {x : Str} {t : Tok} (F : Fr h₀ L s.heap m) (hx : LX h₀ a vs) (e : vs.map st = xs.map sv) (hm : x ∈ xs) (h : Q (.int (xs.idxOf x : Nat) s.toks) { s with toks := s.toks + 1 }) :
    wpAny (model prog w) A (call (.builtin "list.index") [.ref a, .str x t]) Q E s := by
  obtain ⟨⟨c, hc⟩, hz⟩ := hx
  have ho := F.keep _ _ hc
  have hl : vs.length = xs.length := by simpa using congrArg List.length e
  have hj := List.idxOf_lt_length_iff.mpr hm
  refine call_meets PySem.F.slot_list_index ⟨_, ho, rfl⟩ PySem.F.entry_list_index (PySem.F.args_list_index_2 _ _)
    (SeqAt.list_indexAt a vs.toArray c none #[] (.str x t) (fun y => decide (st y = sv x)) (xs.idxOf x) (by simpa [hl] using hj) (by omega) ?_ ?_) ⟨ho, fun y hy => ?_, h⟩
  · have q : st vs[xs.idxOf x] = sv xs[xs.idxOf x] := by
      have := congrArg (fun l => l[xs.idxOf x]?) e
      simpa [hl, hj] using this
    show decide (st vs[xs.idxOf x] = sv x) = true
    rw [q, List.getElem_idxOf hj]
    simp
  · intro k hk hlt
    have hk' : k < xs.length := by simpa [hl] using hk
    have q : st vs[k] = sv xs[k] := by
      have := congrArg (fun l => l[k]?) e
      simpa [hl, hk'] using this
    show decide (st vs[k] = sv x) = false
    rw [q]
    have hne : xs[k] ≠ x := by
      intro he
      have := List.not_of_lt_findIdx (p := (· == x)) (xs := xs) (i := k) hlt
      simp [he] at this
    simp [sv]
    exact fun h => hne (by simpa using h)
  · obtain ⟨z, tz, rfl⟩ := strs_same e y (by simpa using hy)
    intro prog w E Q hq
    exact eqB (.str _ _ _ _) hq
end
def leF (cs : List Rec) (back : Bool) (xs : List Str) (x y : Str) : Bool :=
  if back then decide (agR (cs.getD (xs.idxOf x) d0) (cs.getD (xs.idxOf y) d0) ≥ 0) else decide (agR (cs.getD (xs.idxOf x) d0) (cs.getD (xs.idxOf y) d0) ≤ 0)

local macro_rules | `(tactic| walk_at "call builtin:len") => `(tactic| ((with_reducible show wpAny _ _ (call (Value.builtin "len") [Value.ref _]) _ _ _); first | refine len_TV (by assumption) (by with_reducible assumption) ?_ | refine len_LV (by assumption) (by with_reducible assumption) ?_))
local macro_rules | `(tactic| walk_at "subscriptTail Name Name ref int") => `(tactic| (
  (with_reducible show wpAny _ _ (subscriptTail _ _ (Value.ref _) (Value.int _ _)) _ _ _);
  k_dflt (refine' item_LV (by assumption) (by with_reducible assumption) ?h0 (by with_reducible assumption) ?_ (by with_unfolding_all rfl) (by intro _; with_unfolding_all rfl); (case h0 => omega))))
local macro_rules | `(tactic| walk_at "subscriptTail Name Call ref int") => `(tactic| (
  (with_reducible show wpAny _ _ (subscriptTail _ _ (Value.ref _) (Value.int _ _)) _ _ _);
  k_dflt (refine' item_LV (by assumption) (by with_reducible assumption) ?h0 (by with_reducible assumption) ?_ (by with_unfolding_all rfl) (by intro _; with_unfolding_all rfl); (case h0 => omega))))
local macro_rules | `(tactic| walk_at "call ref") => `(tactic| (
  (with_reducible show wpAny _ _ (call (Value.ref 72) [Value.ref _, Value.ref _]) _ _ _);
  refine' against_call (by assumption) (by assumption) (by assumption) (by assumption) rfl (by exact Nat.le_of_ble_eq_true rfl) (by exact Nat.le_of_ble_eq_true rfl) (by assumption) (by assumption) (by assumption) (by assumption) ?_; intro t' h' tk' hK' F' N'))
local macro_rules | `(tactic| walk_at "getMethod ref") => `(tactic| (k_here; (with_reducible show wpAny _ _ (getMethod (Value.ref _) (PySem.Str.ofString "index") _) _ _ _); (refine index_method (by assumption) (by assumption) ?_)))
local macro_rules | `(tactic| walk_at "call builtin:list.index") => `(tactic| (k_here; (refine index_X (by assumption) (by assumption) (by assumption) (by assumption) ?_)))
local macro_rules | `(tactic| walk_at "call builtin:list.append") => `(tactic| (refine append_own (by assumption) (by assumption) (by assumption) (by first | omega | (simp; omega)) ?_; intro h' F' N'))
local macro_rules | `(tactic| walk_at "exec While BoolOp") => `(tactic| (k_here; with_reducible refine held ?_))

theorem News.one {h₀ h : Heap} {L : Addr} {p : Addr × Obj} (x : h.get? p.1 = some p.2 ∧ p.1 ≠ L ∧ h₀.get? p.1 = none) : News h₀ L h [p] := fun q hq => by rw [List.mem_singleton.mp hq]; exact x
theorem while_for {prog : Program} {w : World} {A : Around} {E : Value → Shared → Prop} {Q : Flow → Shared → Prop} {s : Shared} {env : Env} {h₀ : Heap} {L : Addr} {test : PySem.Expr} {body : List Stmt} {pos : Pos} {m₀ : Str → Option Value} {news : List (Addr × Obj)} (J : (Str → Option Value) → Nat → (Str → Option Value) → List (Addr × Obj) → Prop) {n₀ : Nat}
    (F : Fr h₀ L s.heap m₀) (N : News h₀ L s.heap news) (hJ : J m₀ n₀ m₀ news)
    (turn : ∀ n m₁ news₁ h₁ tk₁, J m₀ n m₁ news₁ → Fr h₀ L h₁ m₁ → News h₀ L h₁ news₁ →
      wpAny (model prog w) A (isTrue test env (eval test env)) (fun b s₂ =>
        if b = true then wpAny (model prog w) A (execs body env) (WhileStep h₀ L s (J m₀) n) E s₂ else Q .next s₂) E { s with heap := h₁, toks := tk₁ })
    (hE : PassesOwn (model prog w) A env E) :
    wpAny (model prog w) A (exec (.While test body [] pos) env) Q E s :=
  While_inv (J m₀) F N hJ (fun n m₁ news₁ h₁ tk₁ F N J => turn n m₁ news₁ h₁ tk₁ J F N) hE
theorem recs_get {h : Heap} {vs : List Value} {cs : List Rec} (x : RecsIn h vs cs) {k : Nat} (hk : k < cs.length) : ∃ a, ItAt vs (k : Int) (.ref a) ∧ RecIn h a (cs.getD k d0) ∧ RecOk (cs.getD k d0) := by
  have e : cs.getD k d0 = cs[k] := by rw [List.getD_eq_getElem?_getD, List.getElem?_eq_getElem hk]; rfl
  rw [e]
  exact x.2 k hk

theorem law_merged_spec {w : World} {s : Shared} {Q E : Value → Shared → Prop} {mean : ExcName → Option Value} {mg mb : Str → Option Value}
    (X : (hd.heap_39 w.params).In s.heap) (T : Top topProg LL mean mg mb s.heap) {l r c t : Addr} {lvs rvs cvs tvs : List Value} {cs : List Rec} {ls rs xs : List Str} {back : Bool}
    (hl : LV s.heap l lvs (ls.length : Int)) (hr : LV s.heap r rvs (rs.length : Int)) (hc : LV s.heap c cvs (cs.length : Int)) (hrc : RecsIn s.heap cvs cs) (ht : LX s.heap t tvs)
    (el : lvs.map st = ls.map sv) (er : rvs.map st = rs.map sv) (et : tvs.map st = xs.map sv) (hxc : xs.length = cs.length) (hls : ∀ x ∈ ls, x ∈ xs) (hrs : ∀ x ∈ rs, x ∈ xs) (hsz : ls.length + rs.length ≤ 900)
    (ret : ∀ D os c h' tk', Kp s.heap h' → s.heap.get? D = none → h'.get? D = some (LObj os c) → os.map st = (List.merge ls rs (leF cs back xs)).map sv → Q (.ref D) { s with heap := h', toks := tk' }) :
    wpAny (model PySem.Challenge.rw_fe0146_01.row.prog w) (AA 700 4000) (call (.ref 86) [.ref l, .ref r, .ref c, .ref t, .bool back]) Q E s := by
  walk_at "mine enter"
  intro L h₁ tk F N
  k_fold
  k_steps
  rename Fr _ _ _ _ => F1
  rename News _ _ _ _ => N1
  unfold Held
  have N2 := News.one (N1 _ (.tail _ (.head _)))
  clear N1
  refine while_for (J := fun m₀ n m news => ∃ D i j os c O, i ≤ ls.length ∧ j ≤ rs.length ∧ n = (ls.length - i) + (rs.length - j) ∧ (∀ y, y ∉ [Str.ofString "near", Str.ofString "far", Str.ofString "first", Str.ofString "turn"] → m y = m₀ y) ∧
    (∃ t1, m (Str.ofString "near") = some (.int ((i : Nat) : Int) t1)) ∧ (∃ t2, m (Str.ofString "far") = some (.int ((j : Nat) : Int) t2)) ∧ m₀ (Str.ofString "out") = some (.ref D) ∧ news = [(D, LObj os c)] ∧ os.map st = O.map sv ∧ os.length = i + j ∧
    O ++ List.merge (ls.drop i) (rs.drop j) (leF cs back xs) = List.merge ls rs (leF cs back xs)) F1 N2 ⟨_, 0, 0, [], 0, [], Nat.zero_le _, Nat.zero_le _, rfl, fun _ _ => rfl, ⟨_, rfl⟩, ⟨_, rfl⟩, rfl, rfl, rfl, rfl, rfl⟩ ?_ ?_
  · rintro n m₁ news h tk ⟨D, i, j, os, c, O, hi, hj, hn, hm, ⟨t1, e1⟩, ⟨t2, e2⟩, eo, rfl, eO, hlen, hO⟩ F' N'
    rw [frame_of [Str.ofString "near", Str.ofString "far", Str.ofString "first", Str.ofString "turn"] hm] at F'
    dsimp only [List.foldr] at F'
    rw [e1, e2] at F'
    simp only [if_true] at eo
    have eD := Value.ref.inj (Option.some.inj eo)
    have eD' := eD.symm
    clear eD
    subst eD'
    clear eo hm
    have hnone : ∀ p ∈ ([] : List (Addr × Obj)), p.1 ≠ D := fun p hp => by cases hp
    have hw : ls.length - i + (rs.length - j) = n := hn.symm
    by_cases ci : i < ls.length
    · have di : ls.drop i = ls[i] :: ls.drop (i + 1) := List.drop_eq_getElem_cons _
      obtain ⟨tx, itx⟩ := item_s el (i := i) ci
      have mx : ls[i] ∈ xs := hls _ (List.getElem_mem ci)
      rw [di] at hO
      obtain ⟨ax, rx, irx, okx⟩ := recs_get hrc (k := xs.idxOf ls[i]) (by rw [← hxc]; exact List.idxOf_lt_length_iff.mpr mx)
      generalize ls[i] = x at *
      by_cases cj : j < rs.length
      · have dj : rs.drop j = rs[j] :: rs.drop (j + 1) := List.drop_eq_getElem_cons _
        obtain ⟨ty, ity⟩ := item_s er (i := j) cj
        have my : rs[j] ∈ xs := hrs _ (List.getElem_mem cj)
        rw [dj] at hO
        obtain ⟨ay, ry, iry, oky⟩ := recs_get hrc (k := xs.idxOf rs[j]) (by rw [← hxc]; exact List.idxOf_lt_length_iff.mpr my)
        generalize rs[j] = y at *
        rw [List.cons_merge_cons] at hO
        have hle : leF cs back xs x y = (if back then decide (agR (cs.getD (xs.idxOf x) d0) (cs.getD (xs.idxOf y) d0) ≥ 0) else decide (agR (cs.getD (xs.idxOf x) d0) (cs.getD (xs.idxOf y) d0) ≤ 0)) := rfl
        generalize cs.getD (xs.idxOf x) d0 = cx at *
        generalize cs.getD (xs.idxOf y) d0 = cy at *
        cases back
        · simp only [Bool.false_eq_true, if_false] at hle
          by_cases cτ : agR cx cy ≤ 0
          · rw [decide_eq_true cτ] at hle
            rw [hle, if_pos rfl, ← dj] at hO
            show wpAny _ _ _ _ _ _
            k_fold
            k_steps
            all_goals first
            | (exfalso; omega)
            | (rename Fr _ _ _ _ => F9
               rename News _ _ _ _ => N9
               refine WhileStep.intro F9 N9 (n' := (ls.length - (i + 1)) + (rs.length - j)) (by omega) ⟨D, i + 1, j, os ++ [(.str x tx)], c + 1, O ++ [x], ci, hj, rfl, fun y hy => ?_, ⟨_, by rw [Int.natCast_add]; rfl⟩, ⟨_, rfl⟩, rfl, rfl, by simp [eO, st, sv], by simp [hlen]; omega, by simpa using hO⟩
               simp only [List.mem_cons, List.not_mem_nil, or_false, not_or] at hy
               simp only [hy, if_false])
          · rw [decide_eq_false cτ] at hle
            rw [hle, if_neg (by decide), ← di] at hO
            show wpAny _ _ _ _ _ _
            k_fold
            k_steps
            all_goals first
            | (exfalso; omega)
            | (rename Fr _ _ _ _ => F9
               rename News _ _ _ _ => N9
               refine WhileStep.intro F9 N9 (n' := (ls.length - i) + (rs.length - (j + 1))) (by omega) ⟨D, i, j + 1, os ++ [(.str y ty)], c + 1, O ++ [y], hi, cj, rfl, fun y hy => ?_, ⟨_, rfl⟩, ⟨_, by rw [Int.natCast_add]; rfl⟩, rfl, rfl, by simp [eO, st, sv], by simp [hlen]; omega, by simpa using hO⟩
               simp only [List.mem_cons, List.not_mem_nil, or_false, not_or] at hy
               simp only [hy, if_false])
        · simp only [if_true] at hle
          by_cases cτ : agR cx cy ≥ 0
          · rw [decide_eq_true cτ] at hle
            rw [hle, if_pos rfl, ← dj] at hO
            show wpAny _ _ _ _ _ _
            k_fold
            k_steps
            all_goals first
            | (exfalso; omega)
            | (rename Fr _ _ _ _ => F9
               rename News _ _ _ _ => N9
               refine WhileStep.intro F9 N9 (n' := (ls.length - (i + 1)) + (rs.length - j)) (by omega) ⟨D, i + 1, j, os ++ [(.str x tx)], c + 1, O ++ [x], ci, hj, rfl, fun y hy => ?_, ⟨_, by rw [Int.natCast_add]; rfl⟩, ⟨_, rfl⟩, rfl, rfl, by simp [eO, st, sv], by simp [hlen]; omega, by simpa using hO⟩
               simp only [List.mem_cons, List.not_mem_nil, or_false, not_or] at hy
               simp only [hy, if_false])
          · rw [decide_eq_false cτ] at hle
            rw [hle, if_neg (by decide), ← di] at hO
            show wpAny _ _ _ _ _ _
            k_fold
            k_steps
            all_goals first
            | (exfalso; omega)
            | (rename Fr _ _ _ _ => F9
               rename News _ _ _ _ => N9
               refine WhileStep.intro F9 N9 (n' := (ls.length - i) + (rs.length - (j + 1))) (by omega) ⟨D, i, j + 1, os ++ [(.str y ty)], c + 1, O ++ [y], hi, cj, rfl, fun y hy => ?_, ⟨_, rfl⟩, ⟨_, by rw [Int.natCast_add]; rfl⟩, rfl, rfl, by simp [eO, st, sv], by simp [hlen]; omega, by simpa using hO⟩
               simp only [List.mem_cons, List.not_mem_nil, or_false, not_or] at hy
               simp only [hy, if_false])
      · have dj : rs.drop j = [] := List.drop_eq_nil_of_le (by omega)
        rw [dj] at hO
        show wpAny _ _ _ _ _ _
        k_fold
        k_steps
        all_goals first
        | (exfalso; omega)
        | (rename Fr _ _ _ _ => F9
           rename News _ _ _ _ => N9
           refine WhileStep.intro F9 N9 (n' := (ls.length - (i + 1)) + (rs.length - j)) (by omega) ⟨D, i + 1, j, os ++ [(.str x tx)], c + 1, O ++ [x], ci, hj, rfl, fun y hy => ?_, ⟨_, by rw [Int.natCast_add]; rfl⟩, ⟨_, rfl⟩, rfl, rfl, by simp [eO, st, sv], by simp [hlen]; omega, by rw [dj]; simpa using hO⟩
           simp only [List.mem_cons, List.not_mem_nil, or_false, not_or] at hy
           simp only [hy, if_false])
    · have di : ls.drop i = [] := List.drop_eq_nil_of_le (by omega)
      rw [di] at hO
      by_cases cj : j < rs.length
      · have dj : rs.drop j = rs[j] :: rs.drop (j + 1) := List.drop_eq_getElem_cons _
        obtain ⟨ty, ity⟩ := item_s er (i := j) cj
        rw [dj] at hO
        generalize rs[j] = y at *
        show wpAny _ _ _ _ _ _
        k_fold
        k_steps
        all_goals first
        | (exfalso; omega)
        | (rename Fr _ _ _ _ => F9
           rename News _ _ _ _ => N9
           refine WhileStep.intro F9 N9 (n' := (ls.length - i) + (rs.length - (j + 1))) (by omega) ⟨D, i, j + 1, os ++ [(.str y ty)], c + 1, O ++ [y], hi, cj, rfl, fun y hy => ?_, ⟨_, rfl⟩, ⟨_, by rw [Int.natCast_add]; rfl⟩, rfl, rfl, by simp [eO, st, sv], by simp [hlen]; omega, by rw [di]; simpa using hO⟩
           simp only [List.mem_cons, List.not_mem_nil, or_false, not_or] at hy
           simp only [hy, if_false])
      · have dj : rs.drop j = [] := List.drop_eq_nil_of_le (by omega)
        rw [dj] at hO
        show wpAny _ _ _ _ _ _
        k_fold
        k_steps
        have z := N' _ (.head _)

        have eO2 : O = ls.merge rs (leF cs back xs) := by rw [← hO]; simp
        exact ret D os c _ _ F'.keep z.2.2 z.1 (by rw [eO, eO2])
  · passes_own
end Mine

open PySem PySem.W PyProof.Rows
set_option Elab.async false
set_option maxRecDepth 100000
set_option maxHeartbeats 8000000
namespace Mine

section
variable {prog : Program} {w : World} {A : Around} {s : Shared} {h₀ : Heap} {L : Addr} {m : Str → Option Value} {env : Env} {elt : PySem.Expr} {x : Str} {scope : Scope} {cl : List (Str × Addr)} {S : List (Addr × Obj) → Prop} {P : Nat → Value → Prop} {Fin : List Value → List (Addr × Obj) → Prop}
theorem rest_ind (n : Nat) (J : Nat → List Value → List (Addr × Obj) → Prop)
    (turn : ∀ i ys news v I oI C oC D m₂ h tk (E' : Value → Shared → Prop), i < n → J i ys news → P i v → LCg.NsObj oC m₂ → m₂ x = some v → Fr h₀ L h m → News h₀ L h ((I, oI) :: (C, oC) :: (D, LCg.lst ys) :: news) → LCg.Off3 I C D news → ((@Ne Nat I C) ∧ (@Ne Nat I D) ∧ (@Ne Nat C D)) →
      wpAny (model prog w) A (eval elt (compEnvC scope cl C env)) (LCg.CompEnd h₀ L m { s with heap := h, toks := tk } I oI C oC D (LCg.lst ys) S (fun y news' => J (i + 1) (ys ++ [y]) news')) E' { s with heap := h, toks := tk })
    (done : ∀ ys news, J n ys news → Fin ys news) : ∀ k i ys news, i + k = n → J i ys news → LCg.CompRest prog w A h₀ L m env elt x scope cl s S P Fin k i ys news
  | 0, i, ys, news, e, j => LCg.CompRest.zero (done ys news ((show i = n from by omega) ▸ j))
  | k + 1, i, ys, news, e, j => LCg.CompRest.succ fun v I oI C oC D m₂ h tk E' hP hC hx F N off ne =>
      wpAny_mono (turn i ys news v I oI C oC D m₂ h tk E' (by omega) j hP hC hx F N off ne)
        (fun y s' ce => by
          obtain ⟨h', tk', news', e1, F1, N1, o1, s1, r1⟩ := ce
          exact ⟨h', tk', news', e1, F1, N1, o1, s1, rest_ind n J turn done k (i + 1) _ _ (by omega) r1⟩) (fun _ _ x => x)
end

section
variable {prog : Program} {w : World} {A : Around} {s₁ : Shared} {h₀ : Heap} {L : Addr} {m : Str → Option Value} {env : Env} {elt : PySem.Expr} {x : Str} {scope : Scope} {cl : List (Str × Addr)} {Fin : Shared → List Value → List (Addr × Obj) → Prop} {news : List (Addr × Obj)}
theorem src_range {r : Addr} {b : Int} {t u v : Tok} {n : Nat} (J : Nat → List Value → List (Addr × Obj) → Prop) (hb : b = (n : Int)) (hh : A.handled = none) (F : Fr h₀ L s₁.heap m) (N : News h₀ L s₁.heap news) (hr : IsRange s₁.heap r 0 b 1 t u v) (hn : n ≤ 1000) (j0 : J 0 [] news)
    (turn : ∀ i ys news t I oI C oC D m₂ h tk (E' : Value → Shared → Prop), i < n → J i ys news → LCg.NsObj oC m₂ → m₂ x = some (.int (i : Int) t) → Fr h₀ L h m → News h₀ L h ((I, oI) :: (C, oC) :: (D, LCg.lst ys) :: news) → LCg.Off3 I C D news → ((@Ne Nat I C) ∧ (@Ne Nat I D) ∧ (@Ne Nat C D)) →
      wpAny (model prog w) A (eval elt (compEnvC scope cl C env)) (LCg.CompEnd h₀ L m { s₁ with heap := h, toks := tk } I oI C oC D (LCg.lst ys) (fun _ => True) (fun y news' => J (i + 1) (ys ++ [y]) news')) E' { s₁ with heap := h, toks := tk })
    (done : ∀ g ys news, J n ys news → Fin { s₁ with heap := g } ys news) : LCg.CompSrc prog w A h₀ L m env elt x scope cl Fin (.ref r) s₁ := by
  subst hb
  refine LCg.CompSrc.range (n := n) hh F N hr (small_one (by omega) (by omega) (by omega) (by omega)) (by rw [rangeSize_one]; split <;> omega) (by rw [sizeLine_eq]; omega) (fun g => rest_ind n J ?_ (done g) n 0 [] news (by omega) j0)
  intro i ys news v I oI C oC D m₂ h tk E' hi hj hP hC hx F N off ne
  obtain ⟨t, rfl⟩ := hP
  exact turn i ys news t I oI C oC D m₂ h tk E' hi hj hC (by rw [hx]; simp) F N off ne
theorem src_ledger {ax : Addr} {vs : List Value} {k : Nat} {n : Nat} (J : Nat → List Value → List (Addr × Obj) → Prop) (hn : vs.length = n) (hh : A.handled = none) (F : Fr h₀ L s₁.heap m) (N : News h₀ L s₁.heap news) (hm : (ax, ({ cls := .type "list", data := .seq vs.toArray k } : Obj)) ∈ news) (hl : vs.length ≤ 1000) (j0 : J 0 [] news)
    (turn : ∀ i ys news v I oI C oC D m₂ h tk (E' : Value → Shared → Prop), i < n → J i ys news → vs[i]? = some v → LCg.NsObj oC m₂ → m₂ x = some v → Fr h₀ L h m → News h₀ L h ((I, oI) :: (C, oC) :: (D, LCg.lst ys) :: news) → LCg.Off3 I C D news → ((@Ne Nat I C) ∧ (@Ne Nat I D) ∧ (@Ne Nat C D)) →
      wpAny (model prog w) A (eval elt (compEnvC scope cl C env)) (LCg.CompEnd h₀ L m { s₁ with heap := h, toks := tk } I oI C oC D (LCg.lst ys) (LCg.SrcAt h₀ ax vs.toArray) (fun y news' => J (i + 1) (ys ++ [y]) news')) E' { s₁ with heap := h, toks := tk })
    (done : ∀ g ys news, J n ys news → Fin { s₁ with heap := g } ys news) : LCg.CompSrc prog w A h₀ L m env elt x scope cl Fin (.ref ax) s₁ := by
  refine LCg.CompSrc.ledger hh F N hm (by rw [List.size_toArray, sizeLine_eq]; omega) (fun g => ?_)
  have e : vs.toArray.size = n := by simpa using hn
  rw [e]
  refine rest_ind n J ?_ (done g) n 0 [] news (by omega) j0
  intro i ys news v I oI C oC D m₂ h tk E' hi hj hP hC hx F N off ne
  exact turn i ys news v I oI C oC D m₂ h tk E' hi hj (by simpa using hP) hC hx F N off ne
end

theorem recOk_of (k : Int) : RecOk (recF k) := by
  unfold recF recOf RecOk
  repeat' split
  all_goals simp

/-- the ledger's own objects hold the records -/
def OwnRecs (own : List (Addr × Obj)) (ys : List Value) (cs : List Rec) : Prop := ∀ h : Heap, (∀ p ∈ own, h.get? p.1 = some p.2) → RecsIn h ys cs

theorem ns_get {h : Heap} {L : Addr} {m : Str → Option Value} (x : h.Ns L m) : ∃ o, h.get? L = some o ∧ True := let ⟨o, _, _, e, _⟩ := x; ⟨o, e, trivial⟩
theorem fresh_ne {h : Heap} {a b : Addr} {o : Obj} (x : h.get? a = none) (y : h.get? b = some o) : a ≠ b := fun e => by rw [e, y] at x; cases x
theorem own_ext {base h' : Heap} {r : Addr} {c : Rec} (ra : RecAt base h' r c) (ok : RecOk c) :
    ∃ q : List (Addr × Obj), (∀ p ∈ q, h'.get? p.1 = some p.2 ∧ base.get? p.1 = none) ∧ ∀ own ys cs, OwnRecs own ys cs → OwnRecs (q ++ own) (ys ++ [.ref r]) (cs ++ [c]) := by
  obtain ⟨wa, va, t, ⟨ro, h1, c1, n1, d1⟩, ⟨ws, ⟨wo, h2, c2, n2, d2⟩, e2⟩, ⟨vs, ⟨vo, h3, c3, n3, d3⟩, e3⟩, f1, f2, f3⟩ := ra
  refine ⟨[(r, ro), (wa, wo), (va, vo)], fun p hp => ?_, fun own ys cs x h hh => ?_⟩
  · rcases List.mem_cons.mp hp with rfl | hp
    · exact ⟨h1, f1⟩
    · rcases List.mem_cons.mp hp with rfl | hp
      · exact ⟨h2, f2⟩
      · rw [List.mem_singleton.mp hp]; exact ⟨h3, f3⟩
  · have old := x h (fun p hp => hh p (List.mem_append_right _ hp))
    have g1 := hh (r, ro) (by simp)
    have g2 := hh (wa, wo) (by simp)
    have g3 := hh (va, vo) (by simp)
    refine ⟨by simp [old.1], fun i hi => ?_⟩
    rw [List.length_append, List.length_singleton] at hi
    rcases Nat.lt_or_ge i cs.length with q | q
    · obtain ⟨a, ia, ra', ok'⟩ := old.2 i q
      refine ⟨a, ?_, ?_, ?_⟩
      · unfold ItAt at ia ⊢
        rw [List.getElem?_append_left (by rw [Int.toNat_natCast, old.1]; exact q)]; exact ia
      · rw [List.getElem_append_left q]; exact ra'
      · rw [List.getElem_append_left q]; exact ok'
    · have e : i = cs.length := by omega
      subst e
      refine ⟨r, ?_, ?_, ?_⟩
      · unfold ItAt
        rw [Int.toNat_natCast, ← old.1]; simp
      · rw [List.getElem_append_right (Nat.le_refl _)]
        simp only [Nat.sub_self, List.getElem_cons_zero]
        exact ⟨wa, va, t, ⟨ro, g1, c1, n1, d1⟩, ⟨ws, ⟨wo, g2, c2, n2, d2⟩, e2⟩, ⟨vs, ⟨vo, g3, c3, n3, d3⟩, e3⟩⟩
      · rw [List.getElem_append_right (Nat.le_refl _)]
        simpa using ok

theorem off3_add {I C D : Addr} {q own : List (Addr × Obj)} (a : ∀ p ∈ q, p.1 ≠ I ∧ p.1 ≠ C ∧ p.1 ≠ D) (b : LCg.Off3 I C D own) : LCg.Off3 I C D (q ++ own) :=
  LCg.Off3.of fun p hp => (List.mem_append.mp hp).elim (a p) (b.mem p)


def QOk (h₀ : Heap) (L : Addr) (h' : Heap) (news q : List (Addr × Obj)) : Prop := (∀ p ∈ q, h'.get? p.1 = some p.2 ∧ p.1 ≠ L ∧ h₀.get? p.1 = none) ∧ ∀ p ∈ q, ∀ p' ∈ news, p.1 ≠ p'.1
theorem QOk.nil {h₀ h' : Heap} {L : Addr} {news : List (Addr × Obj)} : QOk h₀ L h' news [] := by
  constructor
  · intro p hp; cases hp
  · intro p hp; cases hp
theorem cend {h₀ h' : Heap} {L I C D : Addr} {m : Str → Option Value} {s₁ : Shared} {oI oC oD : Obj} {S : List (Addr × Obj) → Prop} {rest : Value → List (Addr × Obj) → Prop} {y : Value} {tk : Nat} (fx : List (Addr × Obj)) {own q : List (Addr × Obj)}
    (F : Fr h₀ L h' m) (N : News h₀ L h' ((I, oI) :: (C, oC) :: (D, oD) :: (fx ++ own))) (hq : QOk h₀ L h' ((I, oI) :: (C, oC) :: (D, oD) :: (fx ++ own)) q) (off : LCg.Off3 I C D (fx ++ own)) (hS : S (fx ++ (q ++ own))) (r : rest y (fx ++ (q ++ own))) :
    LCg.CompEnd h₀ L m s₁ I oI C oC D oD S rest y { s₁ with heap := h', toks := tk } := by
  refine LCg.CompEnd.intro F (all := (I, oI) :: (C, oC) :: (D, oD) :: (fx ++ (q ++ own))) (fun p hp => ?_) (fx ++ (q ++ own)) (fun p hp => hp) (LCg.Off3.of fun p hp => ?_) hS r
  · simp only [List.mem_cons, List.mem_append] at hp
    rcases hp with h | h | h | h | h | h
    · exact N p (by simp [h])
    · exact N p (by simp [h])
    · exact N p (by simp [h])
    · exact N p (by simp [h])
    · exact hq.1 p h
    · exact N p (by simp [h])
  · simp only [List.mem_append] at hp
    rcases hp with h | h | h
    · exact off.mem p (by simp [h])
    · exact ⟨hq.2 p h (I, oI) (by simp), hq.2 p h (C, oC) (by simp), hq.2 p h (D, oD) (by simp)⟩
    · exact off.mem p (by simp [h])

theorem off1_all {D : Addr} : ∀ {l : List (Addr × Obj)}, LCg.Off1 D l → ∀ p ∈ l, p.1 ≠ D
  | [], _, _, h => nomatch h
  | _ :: _, x, p, h => by
    rcases List.mem_cons.mp h with rfl | h
    · exact x.1
    · exact off1_all x.2 p h
def OwnOff (L : Nat) (own : List (Addr × Obj)) : Prop := ∀ p ∈ own, @Ne Nat p.1 (L + 1) ∧ @Ne Nat p.1 (L + 1 + 1) ∧ @Ne Nat p.1 (L + 1 + 1 + 1) ∧ @Ne Nat p.1 24 ∧ @Ne Nat p.1 88
theorem OwnOff.nil {L : Nat} : OwnOff L [] := by intro p hp; cases hp
theorem own_off {L d : Nat} {own : List (Addr × Obj)} (h : OwnOff L own) (hd : d = L + 1 ∨ d = L + 1 + 1 ∨ d = L + 1 + 1 + 1 ∨ d = 24 ∨ d = 88) : ∀ p ∈ own, @Ne Nat p.1 d := by
  intro p hp
  obtain ⟨a, b, c, e, f⟩ := h p hp
  rcases hd with rfl | rfl | rfl | rfl | rfl
  · exact a
  · exact b
  · exact c
  · exact e
  · exact f
theorem OwnOff.add {h₀ h' : Heap} {L : Addr} {p1 p2 p3 a b c d e : Addr × Obj} {q own : List (Addr × Obj)} (x : OwnOff L own) (hq : QOk h₀ L h' (p1 :: p2 :: p3 :: a :: b :: c :: d :: e :: own) q) (ha : a.1 = L + 1 + 1 + 1) (hb : b.1 = L + 1 + 1) (hc : c.1 = L + 1) (hd : d.1 = 24) (he : e.1 = 88) : OwnOff L (q ++ own) := by
  intro p hp
  rcases List.mem_append.mp hp with hp | hp
  · exact ⟨fun z => hq.2 p hp c (by simp) (z.trans hc.symm), fun z => hq.2 p hp b (by simp) (z.trans hb.symm), fun z => hq.2 p hp a (by simp) (z.trans ha.symm), fun z => hq.2 p hp d (by simp) (z.trans hd.symm), fun z => hq.2 p hp e (by simp) (z.trans he.symm)⟩
  · exact x p hp

theorem item_own {prog : Program} {w : World} {A : Around} {s : Shared} {Q : Value → Shared → Prop} {E : Value → Shared → Prop} {h₀ : Heap} {L D : Addr} {news : List (Addr × Obj)} {vs : List Value} {c : Nat} {value slice : PySem.Expr} {k : Int} {u : Tok} {v : Value}
    (N : News h₀ L s.heap news) (hm : (D, ({ cls := .type "list", data := .seq vs.toArray c } : Obj)) ∈ news) (h0 : 0 ≤ k) (hl : vs.length ≤ 1000) (hx : ItAt vs k v) (h : Q v s)
    (hs : subscripted slice false (.ref D) (.int k u) = operate [.ref D, .int k u] (getItem (.ref D) (.int k u)))
    (hg : ∀ r, letTemporaryGo value (.ref D) r = pure ()) : wpAny (model prog w) A (subscriptTail value slice (.ref D) (.int k u)) Q E s := by
  have hlt : k.toNat < vs.length := by
    unfold ItAt at hx
    rcases Nat.lt_or_ge k.toNat vs.length with h | h
    · exact h
    · rw [List.getElem?_eq_none h] at hx; cases hx
  exact item_list (PySem.IsL.isList (n := c) (N _ hm).1) h0 (by omega) (by unfold ItAt at hx; simpa using hx) h hs hg

theorem rec0 {prog : Program} {w : World} {A : Around} {s : Shared} {Q : Value → Shared → Prop} {E : Value → Shared → Prop} {r wa va : Addr} {x : Str} {t u : Tok} {value slice : PySem.Expr}
    (hr : IsTup s.heap r (List.toArray [.str x t, .ref wa, .ref va])) (h : Q (.str x t) s)
    (hs : subscripted slice false (.ref r) (.int 0 u) = operate [.ref r, .int 0 u] (getItem (.ref r) (.int 0 u))) : wpAny (model prog w) A (subscriptTail value slice (.ref r) (.int 0 u)) Q E s :=
  item_tupleT hr (by decide) (by decide) (j := 0) rfl rfl h hs
theorem own_again {own : List (Addr × Obj)} {ys : List Value} {cs : List Rec} {r0 : Addr} (x : OwnRecs own ys cs) (h0 : 0 < cs.length) (it : ItAt ys 0 (.ref r0)) : OwnRecs own (ys ++ [.ref r0]) (cs ++ [cs[0]]) := by
  intro h hh
  have old := x h hh
  refine ⟨by simp [old.1], fun i hi => ?_⟩
  rw [List.length_append, List.length_singleton] at hi
  rcases Nat.lt_or_ge i cs.length with q | q
  · obtain ⟨a, ia, ra', ok'⟩ := old.2 i q
    refine ⟨a, ?_, ?_, ?_⟩
    · unfold ItAt at ia ⊢
      rw [List.getElem?_append_left (by rw [Int.toNat_natCast, old.1]; exact q)]; exact ia
    · rw [List.getElem_append_left q]; exact ra'
    · rw [List.getElem_append_left q]; exact ok'
  · have e : i = cs.length := by omega
    subst e
    obtain ⟨a, ia, ra', ok'⟩ := old.2 0 h0
    have ea : a = r0 := by
      have z : ItAt ys 0 (.ref a) := ia
      unfold ItAt at z it
      rw [z] at it
      exact Value.ref.inj (Option.some.inj it)
    subst ea
    refine ⟨a, ?_, ?_, ?_⟩
    · unfold ItAt
      rw [Int.toNat_natCast, ← old.1]; simp
    · rw [List.getElem_append_right (Nat.le_refl _)]
      simpa using ra'
    · rw [List.getElem_append_right (Nat.le_refl _)]
      simpa using ok'

theorem ints_get : ∀ {vs : List Value} {ns : List Int}, IntsAre vs ns → ∀ {i : Nat} {v : Value}, vs[i]? = some v → ∃ (hi : i < ns.length) (t : Tok), v = .int ns[i] t
  | _, _, .nil, _, _, h => by simp at h
  | _, _, .cons n t r, 0, v, h => ⟨Nat.succ_pos _, t, (Option.some.inj h).symm⟩
  | _, _, .cons n t r, i + 1, v, h => by
    obtain ⟨hi, t', e⟩ := ints_get r (i := i) (v := v) h
    exact ⟨Nat.succ_lt_succ hi, t', e⟩
theorem it_getD {vs : List Value} {p : Int} (h : p.toNat < vs.length) : ItAt vs p (vs.getD p.toNat .none) := by
  unfold ItAt
  rw [List.getD_eq_getElem?_getD, List.getElem?_eq_getElem h]; rfl
theorem compat_strs {xs ys : List Value} {as bs : List Str} (e1 : xs.map st = as.map sv) (e2 : ys.map st = bs.map sv) : Compat xs ys := by
  intro j x y hx hy
  obtain ⟨a, t, rfl⟩ := strs_same e1 x (List.mem_of_getElem? hx)
  obtain ⟨b, u, rfl⟩ := strs_same e2 y (List.mem_of_getElem? hy)
  exact .str _ _ _ _

theorem pick_upto (vs : List Value) {y : Int} (h : 0 ≤ y) : (slicePick vs.toArray none (some y) none).toList = vs.take y.toNat := by
  have e : sliceBounds none (some y) none vs.toArray.size = (((0 : Nat) : Int), ((min y.toNat vs.toArray.size : Nat) : Int), 1) := by
    simp only [sliceBounds, Option.getD_none, show (1 : Int) > 0 by decide, if_true, if_neg (show ¬ (y < 0) by omega)]
    congr 1
    congr 1
    omega
  rw [kmk_pick_nat _ e]
  show (vs.drop 0).take (min y.toNat vs.toArray.size - 0) = _
  rw [List.drop_zero, Nat.sub_zero, List.size_toArray, kmk_take_min]
theorem pick_from (vs : List Value) {x : Int} (h : 0 ≤ x) : (slicePick vs.toArray (some x) none none).toList = vs.drop x.toNat := by
  have e : sliceBounds (some x) none none vs.toArray.size = (((min x.toNat vs.toArray.size : Nat) : Int), ((vs.toArray.size : Nat) : Int), 1) := by
    simp only [sliceBounds, Option.getD_none, show (1 : Int) > 0 by decide, if_true, if_neg (show ¬ (x < 0) by omega)]
    congr 1
    omega
  rw [kmk_pick_nat _ e]
  show (vs.drop (min x.toNat vs.toArray.size)).take (vs.toArray.size - min x.toNat vs.toArray.size) = _
  rw [List.size_toArray, kmk_drop_min, List.take_of_length_le (by rw [List.length_drop]; omega)]
theorem cut_is (ns : List Int) (n : Nat) (h : 3 ≤ n) : ∃ cut : Nat, 1 + (atF ns 1).fmod ((n : Int) - 1) = (cut : Int) ∧ 1 ≤ cut ∧ cut < n := by
  have a := Int.fmod_nonneg_of_pos (atF ns 1) (show 0 < (n : Int) - 1 by omega)
  have b := Int.fmod_lt_of_pos (atF ns 1) (show 0 < (n : Int) - 1 by omega)
  exact ⟨(1 + (atF ns 1).fmod ((n : Int) - 1)).toNat, by omega, by omega, by omega⟩

theorem News.cut {h₀ h : Heap} {L : Addr} {p : Addr × Obj} {a b : List (Addr × Obj)} (N : News h₀ L h (p :: (a ++ b))) : News h₀ L h (p :: b) := fun q hq => N q (by
  rcases List.mem_cons.mp hq with rfl | hq
  · exact .head _
  · exact .tail _ (List.mem_append_right _ hq))

def countF (ns : List Int) : Nat := min (max ns.length 3) 6
theorem count_cast (ns : List Int) : (if (6 : Int) < (if (3 : Int) > (ns.length : Int) then 3 else (ns.length : Int)) then 6 else if (3 : Int) > (ns.length : Int) then 3 else (ns.length : Int)) = ((countF ns : Nat) : Int) := by
  unfold countF
  split <;> split <;> omega

def csF (ns : List Int) (n : Nat) : List Rec := (List.range n).map fun j : Nat => recF (atF ns (j : Int))
theorem csF_succ (ns : List Int) (n : Nat) : csF ns (n + 1) = csF ns n ++ [recF (atF ns (n : Int))] := by
  unfold csF; rw [List.range_succ, List.map_append]; rfl
def allF (ns : List Int) (n : Nat) : List Rec := csF ns n ++ [recF (atF ns 0)]
theorem allF_len (ns : List Int) (n : Nat) : (allF ns n).length = n + 1 := by simp [allF, csF]
def textsF (ns : List Int) (n : Nat) : List Str := (allF ns n).map (·.text)
theorem textsF_len (ns : List Int) (n : Nat) : (textsF ns n).length = n + 1 := by simp [textsF, allF_len]
def atL (ns : List Int) (n : Nat) : List Int := (List.range n).map fun j : Nat => atF ns (j : Int)
theorem atL_succ (ns : List Int) (n : Nat) : atL ns (n + 1) = atL ns n ++ [atF ns (n : Int)] := by
  unfold atL; rw [List.range_succ, List.map_append]; rfl
theorem ints_snoc {vs : List Value} {ns : List Int} (x : IntsAre vs ns) (i : Int) (t : Tok) : IntsAre (vs ++ [.int i t]) (ns ++ [i]) := x.append (.cons i t .nil)
def sgn (i : Nat) : Str := Str.ofString (["k0", "k1", "k2", "k3", "k4", "k5", "k6"].getD i "")
def sgnL (n : Nat) : List Str := (List.range n).map sgn
theorem sgnL_succ (n : Nat) : sgnL (n + 1) = sgnL n ++ [sgn n] := by
  unfold sgnL; rw [List.range_succ, List.map_append]; rfl
theorem sgn_eq (i : Nat) (h : i < 7) : Str.ofString "k" ++ Str.ofString (toString ((i : Nat) : Int)) = sgn i := by
  match i, h with
  | 0, _ => rfl
  | 1, _ => rfl
  | 2, _ => rfl
  | 3, _ => rfl
  | 4, _ => rfl
  | 5, _ => rfl
  | 6, _ => rfl
def NeA (a b : Nat) : Prop := a ≠ b
theorem NeA.ne {a b : Nat} (h : NeA a b) : @Ne Nat a b := h
theorem neA_of {D d : Addr} {o : Obj} {l : List (Addr × Obj)} (h : ∀ p ∈ l, p.1 ≠ D) (m : (d, o) ∈ l) : NeA D d := fun e => h _ m e.symm
theorem off_hide {h h2 : Heap} {a t : Addr} {o : Obj} (z : h.get? t = some (tabObj #[])) (k : Kp (h.hide t) h2) (ha : h.get? a = some o) (hne : o ≠ tabObj #[]) : h2.get? a = some o :=
  k _ _ (by rw [PySem.Heap.hide_ne _ (fun q => by rw [q, z] at ha; exact hne (Option.some.inj ha).symm)]; exact ha)
theorem off_hide' {h h2 : Heap} {a t : Addr} {o : Obj} (k : Kp (h.hide t) h2) (ha : h.get? a = some o) (hne : @Ne Nat a t) : h2.get? a = some o :=
  k _ _ (by rw [PySem.Heap.hide_ne _ hne]; exact ha)
theorem it_sgn {svs : List Value} {n i : Nat} (e : svs.map st = (sgnL n).map sv) (hi : i < n) : ∃ t, svs[i]? = some (.str (sgn i) t) := by
  obtain ⟨t, it⟩ := item_s e (i := i) (by simp [sgnL]; exact hi)
  refine ⟨t, ?_⟩
  unfold ItAt at it
  rw [Int.toNat_natCast] at it
  rw [it]
  simp [sgnL]
theorem two_none {h : Heap} {a b : Addr} (hab : a ≠ b) : ((h.hide a).hide b).get? a = none ∧ ((h.hide a).hide b).get? b = none :=
  ⟨by rw [PySem.Heap.hide_ne _ hab]; exact PySem.Heap.hide_self _ _, PySem.Heap.hide_self _ _⟩
theorem two_of {h : Heap} {a b : Addr} : Kp ((h.hide a).hide b) h := fun _ _ e => PySem.Heap.of_hide (PySem.Heap.of_hide e)
theorem two_in {B h : Heap} {a b : Addr} (k : Kp B h) (ha : B.get? a = none) (hb : B.get? b = none) : Kp B ((h.hide a).hide b) := fun c o e => by
  rw [PySem.Heap.hide_ne _ (fun q => by rw [q, hb] at e; cases e), PySem.Heap.hide_ne _ (fun q => by rw [q, ha] at e; cases e)]
  exact k _ _ e
theorem two_size {h : Heap} {a b : Addr} : ((h.hide a).hide b).objs.size = h.objs.size := by rw [PySem.Heap.hide_size, PySem.Heap.hide_size]
theorem two_kp {h h' : Heap} {L a b : Addr} {oa ob : Obj} {m : Str → Option Value} (F : Fr ((h.hide a).hide b) L h' m) (N : News ((h.hide a).hide b) L h' [(a, oa), (b, ob)]) (ha : h.get? a = some oa) (hb : h.get? b = some ob) : Kp h h' := by
  intro c o e
  by_cases h1 : c = b
  · subst h1
    rw [hb] at e; cases e
    exact (N (c, ob) (.tail _ (.head _))).1
  · by_cases h2 : c = a
    · subst h2
      rw [ha] at e; cases e
      exact (N (c, oa) (.head _)).1
    · exact F.keep c o (by rw [PySem.Heap.hide_ne _ h1, PySem.Heap.hide_ne _ h2]; exact e)
theorem item_ownT {prog : Program} {w : World} {A : Around} {s : Shared} {Q : Value → Shared → Prop} {E : Value → Shared → Prop} {h₀ : Heap} {L D : Addr} {news : List (Addr × Obj)} {vs : List Value} {c : Nat} {value slice : PySem.Expr} {k : Int} {u : Tok} {v : Value}
    (N : News h₀ L s.heap news) (hm : (D, ({ cls := .type "list", data := .seq vs.toArray c } : Obj)) ∈ news) (h0 : 0 ≤ k) (hl : vs.length ≤ 1000) (hx : ItAt vs k v) (h : Q v s)
    (hs : subscripted slice false (.ref D) (.int k u) = operate [.ref D, .int k u] (getItem (.ref D) (.int k u))) : wpAny (model prog w) A (subscriptTail value slice (.ref D) (.int k u)) Q E s := by
  have hlt : k.toNat < vs.length := by
    unfold ItAt at hx
    rcases Nat.lt_or_ge k.toNat vs.length with h | h
    · exact h
    · rw [List.getElem?_eq_none h] at hx; cases hx
  exact tail_any (PySem.IsL.isList (n := c) (N _ hm).1).typeIs slot_list_getitem.lookup (wpAny_getItem_list (PySem.IsL.isList (n := c) (N _ hm).1) h0 (by omega) (by unfold ItAt at hx; simpa using hx) h) hs
theorem News.cons {h₀ h : Heap} {L : Addr} {p : Addr × Obj} {r : List (Addr × Obj)} (x : h.get? p.1 = some p.2 ∧ p.1 ≠ L ∧ h₀.get? p.1 = none) (N : News h₀ L h r) : News h₀ L h (p :: r) := fun q hq => by
  rcases List.mem_cons.mp hq with rfl | hq
  · exact x
  · exact N q hq
theorem ne_tab {h₀ h : Heap} {L a : Addr} {o : Obj} {news : List (Addr × Obj)} (N : News h₀ L h news) (h24 : (24, tabObj #[]) ∈ news) (ha : (a, o) ∈ news) (hne : o ≠ tabObj #[]) : a ≠ 24 := fun q => by
  have z := (N _ ha).1
  have z2 := (N _ h24).1
  dsimp only at z z2
  rw [q, z2] at z
  exact hne (Option.some.inj z).symm
theorem recs_rev {h : Heap} {vs : List Value} {cs : List Rec} (x : RecsIn h vs cs) : RecsIn h vs.reverse cs.reverse := by
  refine ⟨by simp [x.1], fun i hi => ?_⟩
  rw [List.length_reverse] at hi
  obtain ⟨a, ia, ra, ok⟩ := x.2 (cs.length - 1 - i) (by omega)
  refine ⟨a, ?_, ?_, ?_⟩
  · unfold ItAt at ia ⊢
    rw [Int.toNat_natCast] at ia ⊢
    rw [List.getElem?_reverse (by rw [x.1]; exact hi), x.1]
    exact ia
  · rw [List.getElem_reverse]; exact ra
  · rw [List.getElem_reverse]; exact ok
theorem off1_of {D : Addr} : ∀ {l : List (Addr × Obj)}, (∀ p ∈ l, p.1 ≠ D) → LCg.Off1 D l
  | [], _ => trivial
  | _ :: _, h => ⟨h _ (.head _), off1_of fun q hq => h q (.tail _ hq)⟩
theorem csF_len (ns : List Int) (n : Nat) : (csF ns n).length = n := by simp [csF]
section
variable {w : World} {A : Around} {s : Shared} {Q E : Value → Shared → Prop} {mean : ExcName → Option Value} {mg mb : Str → Option Value} {h₀ : Heap} {L : Addr} {m : Str → Option Value} {news : List (Addr × Obj)}
theorem law_at_call (F : Fr h₀ L s.heap m) (N : News h₀ L s.heap news) (X : (hd.heap_39 w.params).In h₀) (T : Top topProg LL mean mg mb h₀) (hh : A.handled = none) (hd : A.depth ≤ 800) (hu : A.units ≤ 5000)
    {l : Addr} {vs : List Value} {ns : List Int} (hl : h₀.IsList l vs.toArray) (hi : IntsAre vs ns) (hlen : ns.length ≤ 63) {i : Int} {t : Tok} (h0 : 0 ≤ i) (hi7 : i < 7)
    (ret : ∀ t' h' tk', Kp s.heap h' → Fr h₀ L h' m → News h₀ L h' news → Q (.int (atF ns i) t') { s with heap := h', toks := tk' }) :
    wpAny (model PySem.Challenge.rw_fe0146_01.row.prog w) A (call (.ref 58) [.ref l, .int i t]) Q E s :=
  wpAA (d := 800) (u := 5000) (law_at_spec (X.keeps F.keep) (T.keeps F.keep) (hl.at fun o e => F.keep _ o e) hi hlen h0 hi7 (fun t' h' tk' k => ret t' h' tk' k (F.kept k) (N.grown k))) hh hd hu
theorem law_record_call (F : Fr h₀ L s.heap m) (N : News h₀ L s.heap news) (X : (hd.heap_39 w.params).In h₀) (T : Top topProg LL mean mg mb h₀) (hh : A.handled = none) (hd : A.depth ≤ 800) (hu : A.units ≤ 5000) {k : Int} {t : Tok}
    (ret : ∀ r q h' tk', QOk h₀ L h' news q → (∀ own ys cs, OwnRecs own ys cs → OwnRecs (q ++ own) (ys ++ [.ref r]) (cs ++ [recF k])) → Fr h₀ L h' m → News h₀ L h' news → Q (.ref r) { s with heap := h', toks := tk' }) :
    wpAny (model PySem.Challenge.rw_fe0146_01.row.prog w) A (call (.ref 65) [.int k t]) Q E s :=
  wpAA (d := 800) (u := 5000) (law_record_spec (X.keeps F.keep) (T.keeps F.keep) (fun r h' tk' k ra => by
    obtain ⟨q, hq⟩ := own_ext ra (recOk_of _)
    obtain ⟨oL, hoL, _⟩ := ns_get F.ns
    refine ret r q h' tk' ⟨fun p hp => ⟨(hq.1 p hp).1, fresh_ne (hq.1 p hp).2 hoL, ?_⟩, fun p hp p' hp' => fresh_ne (hq.1 p hp).2 (N p' hp').1⟩ hq.2 (F.kept k) (N.grown k)
    cases e : h₀.get? p.1 with
    | none => rfl
    | some o => have z := F.keep _ _ e; rw [(hq.1 p hp).2] at z; cases z)) hh hd hu
theorem add_new {h h' : Heap} {D : Addr} {o : Obj} (F : Fr h₀ L h m) (N : News h₀ L h news) (k : Kp h h') (fr : h.get? D = none) (e : h'.get? D = some o) :
    Fr h₀ L h' m ∧ News h₀ L h' ((D, o) :: news) ∧ ∀ p ∈ news, p.1 ≠ D := by
  obtain ⟨oL, hoL, _⟩ := ns_get F.ns
  refine ⟨F.kept k, fun p hp => ?_, fun p hp => (fresh_ne fr (N p hp).1).symm⟩
  rcases List.mem_cons.mp hp with rfl | hp
  · refine ⟨e, fresh_ne fr hoL, ?_⟩
    cases q : h₀.get? D with
    | none => rfl
    | some o => have z := F.keep _ _ q; rw [fr] at z; cases z
  · exact N.grown k p hp
theorem counted_call (F : Fr h₀ L s.heap m) (N : News h₀ L s.heap news) (X : (hd.heap_39 w.params).In h₀) (T : Top topProg LL mean mg mb h₀) (hh : A.handled = none) (hd : A.depth ≤ 700) (hu : A.units ≤ 4000)
    {l : Addr} {vs : List Value} {cs : List Rec} {back : Bool} (hl : LV s.heap l vs (cs.length : Int)) (hr : RecsIn s.heap vs cs)
    (ret : ∀ D os c h' tk', Fr h₀ L h' m → News h₀ L h' ((D, LObj os c) :: news) → (∀ p ∈ news, p.1 ≠ D) → IntsAre os (outF cs back cs.length) → Q (.ref D) { s with heap := h', toks := tk' }) :
    wpAny (model PySem.Challenge.rw_fe0146_01.row.prog w) A (call (.ref 79) [.ref l, .bool back]) Q E s :=
  wpAA (d := 700) (u := 4000) (law_counted_spec (X.keeps F.keep) (T.keeps F.keep) hl hr (fun D os c h' tk' k fr e i => by
    obtain ⟨a, b, c'⟩ := add_new F N k fr e
    exact ret D os c h' tk' a b c' i)) hh hd hu
/-- what the sort of these texts needs -/
structure KeysOk (b : Bool) (xs : List Str) : Prop where
  ok : ∀ x ∈ xs, TextOk x
  compat : ∀ d ∈ xs.map keyD, ∀ d' ∈ xs.map keyD, Compat d d'
  weak : Weak (ltOf (katRev b (xs.map keyD)))
theorem natrev_call (F : Fr h₀ L s.heap m) (N : News h₀ L s.heap news) (X : (hd.heap_39 w.params).In h₀) (T : Top topProg LL mean mg mb h₀) (hh : A.handled = none) (hd : A.depth ≤ 400) (hu : A.units ≤ 1000)
    {l : Addr} {vs : List Value} {n : Nat} {xs : List Str} {b : Bool} (hm : (l, LObj vs n) ∈ news) (hv : vs.map st = xs.map sv) (ok : KeysOk b xs) (h1 : 1 ≤ vs.length) (h64 : vs.length < 64)
    (ret : ∀ D c q h' tk', Fr h₀ L h' m → News h₀ L h' ((D, LObj (outOf b vs q) c) :: news) → (∀ p ∈ news, p.1 ≠ D) → Placed (katRev b (xs.map keyD)) q → Q (.ref D) { s with heap := h', toks := tk' }) :
    wpAny (model PySem.Challenge.rw_fe0146_01.row.prog w) A (call (.ref 29) [.ref l] [(Str.ofString "reverse", .bool b)]) Q E s :=
  wpAA (d := 400) (u := 1000) (nat_rev (B := s.heap) (ex := []) (fun _ _ e => e) (Nat.le_refl _) (fun p hp => by cases hp) (X.keeps F.keep) (T.keeps F.keep)
    (src_seq (.inl rfl) (N _ hm).1 rfl rfl (by omega)) hv ok.ok h1 h64 ok.compat ok.weak (fun D c q h' tk' k hD fr e hp => by
      obtain ⟨a, b, c'⟩ := add_new F N k fr e
      exact ret D c q h' tk' a b c' hp)) hh hd hu
theorem natpos_call (F : Fr h₀ L s.heap m) (N : News h₀ L s.heap news) (X : (hd.heap_39 w.params).In h₀) (T : Top topProg LL mean mg mb h₀) (hh : A.handled = none) (hd : A.depth ≤ 400) (hu : A.units ≤ 1000)
    {l : Addr} {vs : List Value} {n : Nat} {o : Obj} {T' : String} {xs : List Str} {b : Bool} (hm : (l, o) ∈ news) (hT : T' = "list" ∨ T' = "tuple") (ho : o.cls = .type T') (ho' : o.data = .seq vs.toArray n) (hv : vs.map st = xs.map sv) (ok : KeysOk b xs) (h1 : 1 ≤ vs.length) (h64 : vs.length < 64)
    (ret : ∀ D c q h' tk', Fr h₀ L h' m → News h₀ L h' ((D, LObj (outOf b vs q) c) :: news) → (∀ p ∈ news, p.1 ≠ D) → Placed (katRev b (xs.map keyD)) q → Q (.ref D) { s with heap := h', toks := tk' }) :
    wpAny (model PySem.Challenge.rw_fe0146_01.row.prog w) A (call (.ref 29) [.ref l, .none, .bool b] []) Q E s :=
  wpAA (d := 400) (u := 1000) (nat_pos (B := s.heap) (ex := []) (fun _ _ e => e) (Nat.le_refl _) (fun p hp => by cases hp) (X.keeps F.keep) (T.keeps F.keep)
    (src_seq hT (N _ hm).1 ho ho' (by omega)) hv ok.ok h1 h64 ok.compat ok.weak (fun D c q h' tk' k hD fr e hp => by
      obtain ⟨a, b, c'⟩ := add_new F N k fr e
      exact ret D c q h' tk' a b c' hp)) hh hd hu
theorem merged_call (F : Fr h₀ L s.heap m) (N : News h₀ L s.heap news) (X : (hd.heap_39 w.params).In h₀) (T : Top topProg LL mean mg mb h₀) (hh : A.handled = none) (hd : A.depth ≤ 700) (hu : A.units ≤ 4000)
    {l r c t : Addr} {lvs rvs cvs tvs : List Value} {n1 n2 n3 n4 : Nat} {cs : List Rec} {ls rs xs : List Str} {back : Bool} (ml : (l, LObj lvs n1) ∈ news) (mr : (r, LObj rvs n2) ∈ news) (mc : (c, LObj cvs n3) ∈ news) (mt : (t, LObj tvs n4) ∈ news)
    (hrc : RecsIn s.heap cvs cs) (el : lvs.map st = ls.map sv) (er : rvs.map st = rs.map sv) (et : tvs.map st = xs.map sv) (hxc : xs.length = cs.length) (hls : ∀ x ∈ ls, x ∈ xs) (hrs : ∀ x ∈ rs, x ∈ xs) (hsz : ls.length + rs.length ≤ 900) (hcz : cs.length ≤ 900)
    (ret : ∀ D os c h' tk', Fr h₀ L h' m → News h₀ L h' ((D, LObj os c) :: news) → (∀ p ∈ news, p.1 ≠ D) → os.map st = (List.merge ls rs (leF cs back xs)).map sv → Q (.ref D) { s with heap := h', toks := tk' }) :
    wpAny (model PySem.Challenge.rw_fe0146_01.row.prog w) A (call (.ref 86) [.ref l, .ref r, .ref c, .ref t, .bool back]) Q E s := by
  have e1 : lvs.length = ls.length := by simpa using congrArg List.length el
  have e2 : rvs.length = rs.length := by simpa using congrArg List.length er
  have e3 : tvs.length = xs.length := by simpa using congrArg List.length et
  have e4 := hrc.1
  refine wpAA (d := 700) (u := 4000) (law_merged_spec (X.keeps F.keep) (T.keeps F.keep) (lvs := lvs) (rvs := rvs) (cvs := cvs) (tvs := tvs) ⟨PySem.IsL.isList (n := _) (N _ ml).1, by omega, by omega⟩ ⟨PySem.IsL.isList (n := _) (N _ mr).1, by omega, by omega⟩ ⟨PySem.IsL.isList (n := _) (N _ mc).1, by omega, by omega⟩ hrc ⟨⟨_, (N _ mt).1⟩, by omega⟩
    el er et hxc hls hrs hsz (fun D os c h' tk' k fr e i => ?_)) hh hd hu
  obtain ⟨a, b, c'⟩ := add_new F N k fr e
  exact ret D os c h' tk' a b c' i
theorem len_led {prog : Program} {D : Addr} {vs : List Value} {c : Nat} (N : News h₀ L s.heap news) (hm : (D, LObj vs c) ∈ news) {n : Int} (hn : (vs.length : Int) = n) (hs : vs.length ≤ 1000) (h : Q (.int n (s.toks + 1)) { s with toks := s.toks + 1 + 1 }) :
    wpAny (model prog w) A (call (.builtin "len") [.ref D]) Q E s := by
  have e : ((vs.toArray.size : Nat) : Int) = n := by simpa using hn
  exact len_list (PySem.IsL.isList (n := c) (N _ hm).1) (by omega) (by rw [e]; exact h)
theorem natkey_call (F : Fr h₀ L s.heap m) (N : News h₀ L s.heap news) (X : (hd.heap_39 w.params).In h₀) (T : Top topProg LL mean mg mb h₀) (C : CodeHd h₀ 28 24) (hh : A.handled = none) (hd : A.depth ≤ 400) (hu : A.units ≤ 1000)
    {l f : Addr} {of : Obj} {vs : List Value} {n : Nat} {xs : List Str} {b : Bool} (hm : (l, LObj vs n) ∈ news) (h24 : (24, tabObj #[]) ∈ news) (hf : (f, of) ∈ news) (hf' : ∃ oc od fd sl, of = ⟨oc, od, .func fd, sl⟩)
    (hlen : vs.length = xs.length) (ok : KeysOk b xs) (h1 : 1 ≤ vs.length) (h64 : vs.length < 64)
    (hkey : KeyOk w (s.heap.hide 24) f vs xs)
    (ret : ∀ D c q h' tk', Fr h₀ L h' m → (∀ p ∈ news, p.1 ≠ 24 → h'.get? p.1 = some p.2 ∧ p.1 ≠ L ∧ h₀.get? p.1 = none) → (h'.get? D = some (LObj (outOf b vs q) c) ∧ D ≠ L ∧ h₀.get? D = none) → (∃ ps, h'.get? 24 = some (tabObj ps) ∧ (24 : Addr) ≠ L ∧ h₀.get? 24 = none) → Placed (katRev b (xs.map keyD)) q → Q (.ref D) { s with heap := h', toks := tk' }) :
    wpAny (model PySem.Challenge.rw_fe0146_01.row.prog w) A (call (.ref 29) [.ref l] [(Str.ofString "key", .ref f), (Str.ofString "reverse", .bool b)]) Q E s := by
  have z24 := N _ h24
  have k0 : Kp h₀ (s.heap.hide 24) := fun b o e => by
    rw [PySem.Heap.hide_ne _ (fun q => by rw [q, z24.2.2] at e; cases e)]; exact F.keep _ _ e
  have off : ∀ {a : Addr} {o : Obj}, (a, o) ∈ news → o ≠ tabObj #[] → (s.heap.hide 24).get? a = some o := fun {a o} ha hne => by
    rw [PySem.Heap.hide_ne _ (fun q => by
      have z := (N _ ha).1
      rw [q, z24.1] at z
      exact hne (Option.some.inj z).symm)]
    exact (N _ ha).1
  obtain ⟨oc, od, fd, sl, rfl⟩ := hf'
  refine wpAA (d := 400) (u := 1000) (nat_key (B := s.heap.hide 24) (fun _ _ e => PySem.Heap.of_hide e) (Nat.le_of_eq (PySem.Heap.hide_size _ _)) (fun p hp => ?_) (X.keeps k0) (T.keeps k0) (C.keeps k0)
    ⟨oc, od, fd, sl, off hf (fun q => by cases q)⟩ (fun ex => src_seq (.inl rfl) (off hm (fun q => by cases q)) rfl rfl (by omega)) hlen ok.ok h1 h64 hkey ok.compat ok.weak (fun D c q h' tk' k hD fr e hp gr => ?_)) hh hd hu
  · rw [List.mem_singleton.mp hp]; exact ⟨z24.1, PySem.Heap.hide_self _ _⟩
  · have hLD : L < D := Nat.lt_of_lt_of_le F.ns.lt hD
    obtain ⟨ps, hps⟩ := gr
    refine ret D c q h' tk' ⟨F.ns.at' fun o e => k _ _ (by rw [PySem.Heap.hide_ne _ z24.2.1.symm]; exact e), fun b o e => k _ _ (k0 _ _ e), F.above⟩ (fun p hp hne => ⟨k _ _ (by rw [PySem.Heap.hide_ne _ hne]; exact (N p hp).1), (N p hp).2⟩)
      ⟨e, Nat.ne_of_gt hLD, Heap.get?_none_of_le (Nat.le_trans F.above (Nat.le_of_lt hLD))⟩ ⟨ps, hps, z24.2⟩ hp
theorem natrevit_call (F : Fr h₀ L s.heap m) (N : News h₀ L s.heap news) (X : (hd.heap_39 w.params).In h₀) (T : Top topProg LL mean mg mb h₀) (hh : A.handled = none) (hd : A.depth ≤ 400) (hu : A.units ≤ 1000)
    {I l : Addr} {vs : List Value} {n : Nat} {xs : List Str} {b : Bool} {rest : List (Addr × Obj)} (hn : news = (I, revObj l ((vs.length : Int) - 1)) :: rest) (hI : ∀ p ∈ rest, p.1 ≠ I) (hm : (l, LObj vs n) ∈ rest) (hv : vs.reverse.map st = xs.map sv) (ok : KeysOk b xs) (h1 : 1 ≤ vs.length) (h64 : vs.length < 64)
    (ret : ∀ D c q h' tk', Fr h₀ L h' m → News h₀ L h' ((D, LObj (outOf b vs.reverse q) c) :: rest) → (∀ p ∈ rest, p.1 ≠ D) → Placed (katRev b (xs.map keyD)) q → Q (.ref D) { s with heap := h', toks := tk' }) :
    wpAny (model PySem.Challenge.rw_fe0146_01.row.prog w) A (call (.ref 29) [.ref I] [(Str.ofString "reverse", .bool b)]) Q E s := by
  subst hn
  have zI := N _ (.head _)
  have hIL : I ≠ L := zI.2.1
  have k0 : Kp h₀ (s.heap.hide I) := fun b o e => by
    rw [PySem.Heap.hide_ne _ (fun q => by rw [q, zI.2.2] at e; cases e)]; exact F.keep _ _ e
  refine wpAA (d := 400) (u := 1000) (nat_rev (B := s.heap.hide I) (ex := [(I, revObj l ((vs.length : Int) - 1))]) (fun _ _ e => PySem.Heap.of_hide e) (Nat.le_of_eq (PySem.Heap.hide_size _ _)) (fun p hp => ?_) (X.keeps k0) (T.keeps k0)
    (src_rev (vs := vs) ⟨LObj vs n, ?_, rfl, _, rfl⟩ (by omega) (PySem.Heap.hide_self _ _)) hv ok.ok (by simpa using h1) (by simpa using h64) ok.compat ok.weak (fun D c q h' tk' k hD fr e hp => ?_)) hh hd hu
  · rw [List.mem_singleton.mp hp]; exact ⟨zI.1, PySem.Heap.hide_self _ _⟩
  · rw [PySem.Heap.hide_ne _ (hI _ hm)]; exact (N _ (.tail _ hm)).1
  · have hLD : L < D := Nat.lt_of_lt_of_le F.ns.lt hD
    refine ret D c q h' tk' ⟨F.ns.at' fun o e => k _ _ (by rw [PySem.Heap.hide_ne _ hIL.symm]; exact e), fun b o e => k _ _ (k0 _ _ e), F.above⟩ (fun p hp => ?_) (fun p hp => Nat.ne_of_lt (Nat.lt_of_lt_of_le (Heap.lt_size (N p (.tail _ hp)).1) hD)) hp
    rcases List.mem_cons.mp hp with rfl | hp
    · exact ⟨e, Nat.ne_of_gt hLD, Heap.get?_none_of_le (Nat.le_trans F.above (Nat.le_of_lt hLD))⟩
    · exact ⟨k _ _ (by rw [PySem.Heap.hide_ne _ (hI p hp)]; exact (N p (.tail _ hp)).1), (N p (.tail _ hp)).2⟩
end
end Mine

open PySem PySem.W PyProof.Rows
set_option Elab.async false
set_option maxRecDepth 100000
set_option maxHeartbeats 2000000
namespace Mine
abbrev KL := List (List Nat)
theorem nl_tri (a b : List Nat) : a < b ∨ a = b ∨ b < a := by
  rcases List.le_total a b with h | h
  · rcases List.le_iff_lt_or_eq.mp h with h | h
    · exact .inl h
    · exact .inr (.inl h)
  · rcases List.le_iff_lt_or_eq.mp h with h | h
    · exact .inr (.inr h)
    · exact .inr (.inl h.symm)
theorem nl_asym {a b : List Nat} (h : a < b) : ¬ b < a := List.lt_asymm h
theorem kl_tri (a b : KL) : a < b ∨ a = b ∨ b < a := by
  rcases List.le_total a b with h | h
  · rcases List.le_iff_lt_or_eq.mp h with h | h
    · exact .inl h
    · exact .inr (.inl h)
  · rcases List.le_iff_lt_or_eq.mp h with h | h
    · exact .inr (.inr h)
    · exact .inr (.inl h.symm)
theorem kl_asym {a b : KL} (h : a < b) : ¬ b < a := List.lt_asymm h
theorem kl_irr (a : KL) : ¬ a < a := List.lt_irrefl a
theorem kl_tr {a b c : KL} (h : a < b) (h2 : b < c) : a < c := List.lt_trans h h2

def kE : Value → List Nat
  | .str s _ => s.cps.toList
  | .int v _ => [v.toNat]
  | _ => []
def kOf : List Str → List Int → List Value
  | w :: ws, v :: vs => sv w :: iv v :: kOf ws vs
  | w :: _, [] => [sv w]
  | [], _ => []
def enc (ws : List Str) (vs : List Int) : KL := (kOf ws vs).map kE
theorem int_lt {v r : Int} (hv : 0 ≤ v) (hr : 0 ≤ r) : ([v.toNat] < [r.toNat]) ↔ v < r := by
  rw [List.cons_lt_cons_iff]
  simp
  omega
theorem str_ne {w m : Str} (h : w ≠ m) : w.cps.toList ≠ m.cps.toList := fun e => h (by
  cases w; cases m
  simp only [Str.mk.injEq]
  exact Array.toList_inj.mp e)
theorem ag_enc : ∀ (ws : List Str) (vs : List Int) (ms : List Str) (rs : List Int), ws.length = vs.length + 1 → ms.length = rs.length + 1 → (∀ v ∈ vs, 0 ≤ v) → (∀ r ∈ rs, 0 ≤ r) →
    (agF ws vs ms rs < 0 ↔ enc ws vs < enc ms rs) ∧ (0 < agF ws vs ms rs ↔ enc ms rs < enc ws vs) ∧ (lsLt (kOf ws vs) (kOf ms rs) = decide (agF ws vs ms rs < 0))
  | [], _, _, _, h, _, _, _ => by simp at h
  | _ :: _, _, [], _, _, h, _, _ => by simp at h
  | w :: ws, vs, m :: ms, rs, h1, h2, hv, hr => by
    by_cases e : w = m
    · subst e
      cases vs with
      | nil =>
        cases rs with
        | nil => simp [agF, enc, kOf, lsLt]
        | cons r rs =>
          have a : agF (w :: ws) [] (w :: ms) (r :: rs) = -((rs.length : Int) + 1) := by simp [agF]
          rw [a]
          have b1 : enc (w :: ws) [] < enc (w :: ms) (r :: rs) := by
            show (w.cps.toList :: []) < (w.cps.toList :: _ :: _)
            rw [List.cons_lt_cons_iff]; exact .inr ⟨rfl, List.nil_lt_cons _ _⟩
          refine ⟨⟨fun _ => b1, fun _ => by omega⟩, ⟨fun h => by omega, fun h => absurd h (kl_asym b1)⟩, ?_⟩
          rw [decide_eq_true (by omega)]
          simp [kOf, lsLt]
      | cons v vs =>
        cases rs with
        | nil =>
          have a : agF (w :: ws) (v :: vs) (w :: ms) [] = (vs.length : Int) + 1 := by simp [agF]
          rw [a]
          have b1 : enc (w :: ms) [] < enc (w :: ws) (v :: vs) := by
            show (w.cps.toList :: []) < (w.cps.toList :: _ :: _)
            rw [List.cons_lt_cons_iff]; exact .inr ⟨rfl, List.nil_lt_cons _ _⟩
          refine ⟨⟨fun h => by omega, fun h => absurd h (kl_asym b1)⟩, ⟨fun _ => b1, fun _ => by omega⟩, ?_⟩
          rw [decide_eq_false (by omega)]
          simp [kOf, lsLt]
        | cons r rs =>
          have hv0 := hv v (by simp)
          have hr0 := hr r (by simp)
          have c1 : ∀ a b : KL, ((w.cps.toList :: [v.toNat] :: a) < (w.cps.toList :: [r.toNat] :: b)) ↔ (v < r ∨ v = r ∧ a < b) := by
            intro a b
            rw [List.cons_lt_cons_iff, List.cons_lt_cons_iff, int_lt hv0 hr0]
            have : ([v.toNat] = [r.toNat]) ↔ v = r := by simp; omega
            rw [this]
            constructor
            · rintro (h | ⟨_, h⟩)
              · exact absurd h (List.lt_irrefl _)
              · exact h
            · intro h; exact .inr ⟨rfl, h⟩
          have c2 : ∀ a b : KL, ((w.cps.toList :: [r.toNat] :: a) < (w.cps.toList :: [v.toNat] :: b)) ↔ (r < v ∨ r = v ∧ a < b) := by
            intro a b
            rw [List.cons_lt_cons_iff, List.cons_lt_cons_iff, int_lt hr0 hv0]
            have : ([r.toNat] = [v.toNat]) ↔ r = v := by simp; omega
            rw [this]
            constructor
            · rintro (h | ⟨_, h⟩)
              · exact absurd h (List.lt_irrefl _)
              · exact h
            · intro h; exact .inr ⟨rfl, h⟩
          by_cases ev : v = r
          · subst ev
            obtain ⟨i1, i2, i3⟩ := ag_enc ws vs ms rs (by simpa using h1) (by simpa using h2) (fun x hx => hv x (by simp [hx])) (fun x hx => hr x (by simp [hx]))
            have a : agF (w :: ws) (v :: vs) (w :: ms) (v :: rs) = agF ws vs ms rs := by simp [agF]
            rw [a]
            refine ⟨i1.trans ?_, i2.trans ?_, ?_⟩
            · refine Iff.trans ?_ (c1 _ _).symm
              simp [enc]
            · refine Iff.trans ?_ (c2 _ _).symm
              simp [enc]
            · rw [← i3]
              simp [kOf, lsLt]
          · have a : agF (w :: ws) (v :: vs) (w :: ms) (r :: rs) = if v < r then -1 else 1 := by simp [agF, ev]
            have a3 : lsLt (kOf (w :: ws) (v :: vs)) (kOf (w :: ms) (r :: rs)) = decide (v < r) := by simp [kOf, lsLt, st, iv, sv, ev, vLt]
            rw [a, a3]
            have d1 := c1 (enc ws vs) (enc ms rs)
            have d2 := c2 (enc ms rs) (enc ws vs)
            refine ⟨Iff.trans ?_ d1.symm, Iff.trans ?_ d2.symm, ?_⟩
            · split <;> simp [*]
            · split <;> simp <;> omega
            · split <;> simp [*]
    · have ne := str_ne e
      have a : agF (w :: ws) vs (m :: ms) rs = if w.cps.toList < m.cps.toList then -1 else 1 := by
        unfold agF; rw [if_pos e]
      obtain ⟨A, eA⟩ : ∃ A, enc (w :: ws) vs = w.cps.toList :: A := by cases vs <;> exact ⟨_, rfl⟩
      obtain ⟨B, eB⟩ : ∃ B, enc (m :: ms) rs = m.cps.toList :: B := by cases rs <;> exact ⟨_, rfl⟩
      obtain ⟨A', eA'⟩ : ∃ A, kOf (w :: ws) vs = sv w :: A := by cases vs <;> exact ⟨_, rfl⟩
      obtain ⟨B', eB'⟩ : ∃ B, kOf (m :: ms) rs = sv m :: B := by cases rs <;> exact ⟨_, rfl⟩
      have a3 : lsLt (sv w :: A') (sv m :: B') = decide (w.cps.toList < m.cps.toList) := by
        unfold lsLt
        rw [if_neg (by simpa [st, sv] using e)]
        rfl
      rw [a, eA, eB, eA', eB', a3, List.cons_lt_cons_iff, List.cons_lt_cons_iff]
      have s1 : ¬ (w.cps.toList = m.cps.toList) := ne
      have s2 : ¬ (m.cps.toList = w.cps.toList) := fun q => ne q.symm
      rcases nl_tri w.cps.toList m.cps.toList with h | h | h
      · rw [if_pos h]; simp [h, s2, nl_asym h]
      · exact absurd h ne
      · rw [if_neg (nl_asym h)]; simp [h, s1, nl_asym h]

/-- the sign says 'as now' for the next code point -/
def evn (n : Nat) : Bool := ((n : Int) + 1).fmod 2 == 1
theorem evn_succ (n : Nat) : evn (n + 1) = !evn n := by
  unfold evn
  have h1 := Int.fmod_nonneg_of_pos ((n : Int) + 1) (show (0 : Int) < 2 by decide)
  have h2 := Int.fmod_lt_of_pos ((n : Int) + 1) (show (0 : Int) < 2 by decide)
  rw [Int.fmod_eq_emod_of_nonneg _ (by decide), Int.fmod_eq_emod_of_nonneg _ (by decide)]
  have : ((n + 1 : Nat) : Int) = (n : Int) + 1 := by omega
  rw [this]
  have e : ((n : Int) + 1) % 2 = 0 ∨ ((n : Int) + 1) % 2 = 1 := by omega
  rcases e with e | e
  · have : ((n : Int) + 1 + 1) % 2 = 1 := by omega
    rw [e, this]; rfl
  · have : ((n : Int) + 1 + 1) % 2 = 0 := by omega
    rw [e, this]; rfl
def dec1 (c : Nat) : Bool := Txt.isdecimal ⟨#[c]⟩
theorem app_nil (c : Str) : c ++ (⟨#[]⟩ : Str) = c := by
  cases c with | mk a => show (⟨a ++ #[]⟩ : Str) = ⟨a⟩; simp
theorem app_cons (c : Str) (x : Nat) (l : List Nat) : (c ++ (⟨#[x]⟩ : Str)) ++ (⟨l.toArray⟩ : Str) = c ++ (⟨(x :: l).toArray⟩ : Str) := by
  cases c with | mk a => show (⟨(a ++ #[x]) ++ l.toArray⟩ : Str) = ⟨a ++ (x :: l).toArray⟩; simp
theorem emp_app (c : Str) : Str.ofString "" ++ c = c := by
  cases c with | mk a => show (⟨#[] ++ a⟩ : Str) = ⟨a⟩; simp
theorem fold_same : ∀ (l : List Nat) (rs : List Str) (c : Str), (∀ x ∈ l, dec1 x = !evn rs.length) → l.foldl runStep (rs, c) = (rs, c ++ (⟨l.toArray⟩ : Str))
  | [], rs, c, _ => by show (rs, c) = _; rw [show ([] : List Nat).toArray = #[] from rfl, app_nil]
  | x :: l, rs, c, h => by
    have hx := h x (by simp)
    have e : runStep (rs, c) x = (rs, c ++ (⟨#[x]⟩ : Str)) := by
      unfold runStep
      rw [if_neg]
      show ¬ (dec1 x == evn rs.length) = true
      rw [hx]; cases evn rs.length <;> decide
    rw [List.foldl_cons, e, fold_same l rs _ (fun y hy => h y (by simp [hy])), app_cons]
theorem fold_new (x : Nat) (l : List Nat) (rs : List Str) (c : Str) (h : ∀ y ∈ x :: l, dec1 y = evn rs.length) : (x :: l).foldl runStep (rs, c) = (rs ++ [c], (⟨(x :: l).toArray⟩ : Str)) := by
  have hx := h x (by simp)
  have e : runStep (rs, c) x = (rs ++ [c], (⟨#[x]⟩ : Str)) := by
    unfold runStep
    rw [if_pos]
    · rw [emp_app]
    · show (dec1 x == evn rs.length) = true
      rw [hx]; cases evn rs.length <;> decide
  rw [List.foldl_cons, e, fold_same l (rs ++ [c]) _ (fun y hy => by
    rw [List.length_append, List.length_singleton, evn_succ, Bool.not_not]
    exact h y (by simp [hy]))]
  show (rs ++ [c], (⟨#[x] ++ l.toArray⟩ : Str)) = _
  simp
def Wd (w : Str) : Prop := ∀ x ∈ w.cps.toList, dec1 x = false
def Dg (d : Str) : Prop := d.cps.toList ≠ [] ∧ ∀ x ∈ d.cps.toList, dec1 x = true
theorem str_eta (w : Str) : (⟨w.cps.toList.toArray⟩ : Str) = w := by cases w; simp
theorem word_same {w : Str} (h : Wd w) (rs : List Str) (c : Str) (e : evn rs.length = true) : w.cps.toList.foldl runStep (rs, c) = (rs, c ++ w) := by
  rw [fold_same _ _ _ (fun x hx => by rw [h x hx, e]; rfl), str_eta]
theorem word_new {w : Str} (h : Wd w) (hn : w.cps.toList ≠ []) (rs : List Str) (c : Str) (e : evn rs.length = false) : w.cps.toList.foldl runStep (rs, c) = (rs ++ [c], w) := by
  cases q : w.cps.toList with
  | nil => exact absurd q hn
  | cons x l =>
    rw [fold_new x l _ _ (fun y hy => by rw [h y (by rw [q]; exact hy), e]), ← q, str_eta]
theorem dig_new {d : Str} (h : Dg d) (rs : List Str) (c : Str) (e : evn rs.length = true) : d.cps.toList.foldl runStep (rs, c) = (rs ++ [c], d) := by
  cases q : d.cps.toList with
  | nil => exact absurd q h.1
  | cons x l =>
    rw [fold_new x l _ _ (fun y hy => by rw [h.2 y (by rw [q]; exact hy), e]), ← q, str_eta]
theorem cps_app (a b : Str) : (a ++ b).cps.toList = a.cps.toList ++ b.cps.toList := by
  cases a; cases b; show (_ ++ _ : Array Nat).toList = _; simp
theorem runF_w {w : Str} (h : Wd w) : runF w.cps.toList = ([], w) := by
  unfold runF; rw [word_same h _ _ rfl, emp_app]
theorem runF_wd {w d : Str} (h : Wd w) (hd : Dg d) : runF (w ++ d).cps.toList = ([w], d) := by
  unfold runF; rw [cps_app, List.foldl_append, word_same h _ _ rfl, emp_app, dig_new hd _ _ rfl]; rfl
theorem runF_wdo {w d o : Str} (h : Wd w) (hd : Dg d) (ho : Wd o) (hn : o.cps.toList ≠ []) : runF (w ++ d ++ o).cps.toList = ([w, d], o) := by
  unfold runF; rw [cps_app, cps_app, List.foldl_append, List.foldl_append, word_same h _ _ rfl, emp_app, dig_new hd _ _ rfl, List.nil_append, word_new ho hn [w] d (show evn 1 = false by decide)]; rfl
theorem runF_wdom {w d o m : Str} (h : Wd w) (hd : Dg d) (ho : Wd o) (hn : o.cps.toList ≠ []) (hm : Dg m) : runF (w ++ d ++ o ++ m).cps.toList = ([w, d, o], m) := by
  unfold runF; rw [cps_app, cps_app, cps_app, List.foldl_append, List.foldl_append, List.foldl_append, word_same h _ _ rfl, emp_app, dig_new hd _ _ rfl, List.nil_append, word_new ho hn [w] d (show evn 1 = false by decide), dig_new hm ([w] ++ [d]) o (show evn 2 = true by decide)]; rfl
theorem runs_w {w : Str} (h : Wd w) : runsF w.cps.toList = [w] := by unfold runsF; rw [runF_w h]; rfl
theorem runs_wd {w d : Str} (h : Wd w) (hd : Dg d) : runsF (w ++ d).cps.toList = [w, d, Str.ofString ""] := by unfold runsF; rw [runF_wd h hd]; exact if_neg (show ¬ (2 : Int).fmod 2 = 1 by decide)
theorem runs_wdo {w d o : Str} (h : Wd w) (hd : Dg d) (ho : Wd o) : runsF (w ++ d ++ o).cps.toList = [w, d, o] := by
  by_cases hn : o.cps.toList = []
  · have e : o = Str.ofString "" := by rw [← str_eta o, hn]; rfl
    have e2 : w ++ d ++ o = w ++ d := by rw [e]; exact app_nil _
    rw [e2, runs_wd h hd, e]
  · unfold runsF; rw [runF_wdo h hd ho hn]; exact if_pos (show (3 : Int).fmod 2 = 1 by decide)
theorem runs_wdom {w d o m : Str} (h : Wd w) (hd : Dg d) (ho : Wd o) (hn : o.cps.toList ≠ []) (hm : Dg m) : runsF (w ++ d ++ o ++ m).cps.toList = [w, d, o, m, Str.ofString ""] := by
  unfold runsF; rw [runF_wdom h hd ho hn hm]; exact if_neg (show ¬ (4 : Int).fmod 2 = 1 by decide)

theorem wordL_ok : ∀ w ∈ wordL, Wd w ∧ Wd (w ++ Str.ofString "x") ∧ Txt.isdigit w = false ∧ Txt.isdigit (w ++ Str.ofString "x") = false ∧ w.cps.size ≤ 2 := by
  unfold Wd
  decide +kernel
theorem digL_ok : ∀ d ∈ digL, Dg d ∧ Txt.isdigit d = true ∧ d.cps.size ≤ 11 := by
  unfold Dg
  decide +kernel
end Mine

open PySem PySem.W PyProof.Rows
set_option Elab.async false
set_option maxRecDepth 100000
set_option maxHeartbeats 2000000
namespace Mine
theorem wordAt_mem {k : Int} (h0 : 0 ≤ k) (h8 : k < 8) : wordAt k ∈ wordL := by
  rcases eight h0 h8 with rfl | rfl | rfl | rfl | rfl | rfl | rfl | rfl <;> decide +kernel
theorem digAt_mem {k : Int} (h0 : 0 ≤ k) (h8 : k < 8) : digAt k ∈ digL := by
  rcases eight h0 h8 with rfl | rfl | rfl | rfl | rfl | rfl | rfl | rfl <;> decide +kernel
theorem digAt_val {k : Int} (h0 : 0 ≤ k) (h8 : k < 8) : PySem.intText? (digAt k) = some (valAt k) ∧ 0 ≤ valAt k := by
  rcases eight h0 h8 with rfl | rfl | rfl | rfl | rfl | rfl | rfl | rfl <;> exact ⟨by decide +kernel, by decide +kernel⟩
theorem emp_mem : Str.ofString "" ∈ wordL := by decide +kernel
theorem atoi_w {w : Str} (h : Txt.isdigit w = false) : atoiV w = sv w := by unfold atoiV; rw [if_neg (by rw [h]; decide)]
theorem atoi_d {d : Str} {v : Int} (h : Txt.isdigit d = true) (e : PySem.intText? d = some v) : atoiV d = iv v := by unfold atoiV; rw [if_pos h, e]; rfl
theorem ok_w {w : Str} (h : Txt.isdigit w = false) (hl : w.cps.size ≤ 100) : AtoiOk w := ⟨by show w.length ≤ 640; unfold Str.length; omega, fun q => by rw [h] at q; cases q⟩
theorem ok_d {d : Str} {v : Int} (e : PySem.intText? d = some v) (hl : d.cps.size ≤ 100) : AtoiOk d := ⟨by show d.length ≤ 640; unfold Str.length; omega, fun _ => ⟨v, e⟩⟩
theorem size_app (a b : Str) : (a ++ b).cps.size = a.cps.size + b.cps.size := by cases a; cases b; show (_ ++ _ : Array Nat).size = _; simp
structure KeyFacts (c : Rec) : Prop where
  key : keyD c.text = kOf c.words c.vals
  ok : TextOk c.text
  len : c.words.length = c.vals.length + 1
  pos : ∀ v ∈ c.vals, 0 ≤ v
theorem ofOf {w d o m : Str} {v g n : Int} (hw : w ∈ wordL) (hd : d ∈ digL) (ho : o ∈ wordL) (hm : m ∈ digL) (ev : PySem.intText? d = some v) (eg : PySem.intText? m = some g) (hv : 0 ≤ v) (hg : 0 ≤ g) : KeyFacts (recOf w d o m v g n) := by
  obtain ⟨w1, w2, w3, w4, w5⟩ := wordL_ok w hw
  obtain ⟨o1, o2, o3, o4, o5⟩ := wordL_ok o ho
  obtain ⟨d1, d2, d3⟩ := digL_ok d hd
  obtain ⟨m1, m2, m3⟩ := digL_ok m hm
  obtain ⟨e1, e2, e3, e4, e5⟩ := wordL_ok _ emp_mem
  have oxs : (o ++ Str.ofString "x").cps.size = o.cps.size + 1 := by rw [size_app]; rfl
  have oxn : (o ++ Str.ofString "x").cps.toList ≠ [] := by rw [cps_app]; simp; intro _; decide +kernel
  unfold recOf
  split
  · exact ⟨by show (runsF _).map atoiV = _; rw [runs_w w1]; simp [atoi_w w3, kOf], ⟨by show w.cps.size ≤ 100; omega, fun r hr => by rw [runs_w w1] at hr; rw [List.mem_singleton.mp hr]; exact ok_w w3 (by omega)⟩, rfl, fun v hv => by cases hv⟩
  · split
    · refine ⟨by show (runsF _).map atoiV = _; rw [runs_wd w1 d1]; simp [atoi_w w3, atoi_d d2 ev, atoi_w e3, kOf], ⟨by show (w ++ d).cps.size ≤ 100; rw [size_app]; omega, fun r hr => ?_⟩, rfl, fun x hx => by rw [List.mem_singleton.mp hx]; exact hv⟩
      rw [runs_wd w1 d1] at hr
      simp only [List.mem_cons, List.not_mem_nil, or_false] at hr
      rcases hr with rfl | rfl | rfl
      · exact ok_w w3 (by omega)
      · exact ok_d ev (by omega)
      · exact ok_w e3 (by omega)
    · split
      · refine ⟨by show (runsF _).map atoiV = _; rw [runs_wdo w1 d1 o1]; simp [atoi_w w3, atoi_d d2 ev, atoi_w o3, kOf], ⟨by show (w ++ d ++ o).cps.size ≤ 100; rw [size_app, size_app]; omega, fun r hr => ?_⟩, rfl, fun x hx => by rw [List.mem_singleton.mp hx]; exact hv⟩
        rw [runs_wdo w1 d1 o1] at hr
        simp only [List.mem_cons, List.not_mem_nil, or_false] at hr
        rcases hr with rfl | rfl | rfl
        · exact ok_w w3 (by omega)
        · exact ok_d ev (by omega)
        · exact ok_w o3 (by omega)
      · split
        · have q := runs_wdo e1 d1 o1
          rw [emp_app] at q
          refine ⟨by show (runsF _).map atoiV = _; rw [q]; simp [atoi_w e3, atoi_d d2 ev, atoi_w o3, kOf], ⟨by show (d ++ o).cps.size ≤ 100; rw [size_app]; omega, fun r hr => ?_⟩, rfl, fun x hx => by rw [List.mem_singleton.mp hx]; exact hv⟩
          rw [q] at hr
          simp only [List.mem_cons, List.not_mem_nil, or_false] at hr
          rcases hr with rfl | rfl | rfl
          · exact ok_w e3 (by omega)
          · exact ok_d ev (by omega)
          · exact ok_w o3 (by omega)
        · have q := runs_wdom w1 d1 o2 oxn m1
          refine ⟨by show (runsF _).map atoiV = _; rw [q]; simp [atoi_w w3, atoi_d d2 ev, atoi_w o4, atoi_d m2 eg, atoi_w e3, kOf], ⟨by show (w ++ d ++ (o ++ Str.ofString "x") ++ m).cps.size ≤ 100; rw [size_app, size_app, size_app, oxs]; omega, fun r hr => ?_⟩, rfl, fun x hx => ?_⟩
          · rw [q] at hr
            simp only [List.mem_cons, List.not_mem_nil, or_false] at hr
            rcases hr with rfl | rfl | rfl | rfl | rfl
            · exact ok_w w3 (by omega)
            · exact ok_d ev (by omega)
            · exact ok_w o4 (by rw [oxs]; omega)
            · exact ok_d eg (by omega)
            · exact ok_w e3 (by omega)
          · simp only [List.mem_cons, List.not_mem_nil, or_false] at hx
            rcases hx with rfl | rfl
            · exact hv
            · exact hg
theorem fm8 (k : Int) : 0 ≤ k.fmod 8 ∧ k.fmod 8 < 8 := ⟨Int.fmod_nonneg_of_pos _ (by decide), Int.fmod_lt_of_pos _ (by decide)⟩
theorem recF_facts (k : Int) : KeyFacts (recF k) := by
  unfold recF
  exact ofOf (wordAt_mem (fm8 _).1 (fm8 _).2) (digAt_mem (fm8 _).1 (fm8 _).2) (wordAt_mem (fm8 _).1 (fm8 _).2) (digAt_mem (fm8 _).1 (fm8 _).2) (digAt_val (fm8 _).1 (fm8 _).2).1 (digAt_val (fm8 _).1 (fm8 _).2).1 (digAt_val (fm8 _).1 (fm8 _).2).2 (digAt_val (fm8 _).1 (fm8 _).2).2
def GoodRec (c : Rec) : Prop := ∃ k : Int, c = recF k
def Goods (cs : List Rec) : Prop := ∀ c ∈ cs, GoodRec c
theorem GoodRec.facts {c : Rec} (g : GoodRec c) : KeyFacts c := by obtain ⟨k, rfl⟩ := g; exact recF_facts k
def ek (x : Str) : KL := (keyD x).map kE
theorem ek_enc {c : Rec} (g : GoodRec c) : ek c.text = enc c.words c.vals := by unfold ek enc; rw [g.facts.key]
theorem ag1 {c d : Rec} (hc : GoodRec c) (hd : GoodRec d) : agR c d < 0 ↔ ek c.text < ek d.text := by
  rw [ek_enc hc, ek_enc hd]
  exact (ag_enc _ _ _ _ hc.facts.len hd.facts.len hc.facts.pos hd.facts.pos).1
theorem ag2 {c d : Rec} (hc : GoodRec c) (hd : GoodRec d) : 0 < agR c d ↔ ek d.text < ek c.text := by
  rw [ek_enc hc, ek_enc hd]
  exact (ag_enc _ _ _ _ hc.facts.len hd.facts.len hc.facts.pos hd.facts.pos).2.1
theorem ls_ek {c d : Rec} (hc : GoodRec c) (hd : GoodRec d) : lsLt (keyD c.text) (keyD d.text) = true ↔ ek c.text < ek d.text := by
  rw [hc.facts.key, hd.facts.key, (ag_enc _ _ _ _ hc.facts.len hd.facts.len hc.facts.pos hd.facts.pos).2.2, decide_eq_true_iff]
  exact ag1 hc hd
theorem sgn1 {c d : Rec} (hc : GoodRec c) (hd : GoodRec d) : lsLt (keyD c.text) (keyD d.text) = true ↔ agR c d < 0 := (ls_ek hc hd).trans (ag1 hc hd).symm
theorem sgn2 {c d : Rec} (hc : GoodRec c) (hd : GoodRec d) : lsLt (keyD d.text) (keyD c.text) = true ↔ 0 < agR c d := (ls_ek hd hc).trans (ag2 hc hd).symm
theorem kOf_compat : ∀ (ws : List Str) (vs : List Int) (ms : List Str) (rs : List Int), Compat (kOf ws vs) (kOf ms rs)
  | [], _, _, _ => fun j x y hx _ => by simp [kOf] at hx
  | _ :: _, _, [], _ => fun j x y _ hy => by simp [kOf] at hy
  | w :: ws, vs, m :: ms, rs => by
    intro j x y hx hy
    cases vs with
    | nil =>
      cases j with
      | zero =>
        have e1 : x = sv w := by simpa [kOf] using hx.symm
        subst e1
        cases rs <;> (have e2 : y = sv m := by simpa [kOf] using hy.symm) <;> (subst e2; exact .str _ _ _ _)
      | succ j => simp [kOf] at hx
    | cons v vs =>
      cases rs with
      | nil =>
        cases j with
        | zero =>
          have e1 : x = sv w := by simpa [kOf] using hx.symm
          have e2 : y = sv m := by simpa [kOf] using hy.symm
          subst e1 e2; exact .str _ _ _ _
        | succ j => simp [kOf] at hy
      | cons r rs =>
        match j, hx, hy with
        | 0, hx, hy =>
          have e1 : x = sv w := by simpa [kOf] using hx.symm
          have e2 : y = sv m := by simpa [kOf] using hy.symm
          subst e1 e2; exact .str _ _ _ _
        | 1, hx, hy =>
          have e1 : x = iv v := by simpa [kOf] using hx.symm
          have e2 : y = iv r := by simpa [kOf] using hy.symm
          subst e1 e2; exact .int _ _ _ _
        | j + 2, hx, hy => exact kOf_compat ws vs ms rs j x y (by simpa [kOf] using hx) (by simpa [kOf] using hy)
end Mine

open PySem PySem.W PyProof.Rows
set_option Elab.async false
set_option maxRecDepth 100000
set_option maxHeartbeats 2000000
namespace Mine
theorem Goods.take {cs : List Rec} (g : Goods cs) (n : Nat) : Goods (cs.take n) := fun c hc => g c (List.mem_of_mem_take hc)
theorem Goods.drop {cs : List Rec} (g : Goods cs) (n : Nat) : Goods (cs.drop n) := fun c hc => g c (List.mem_of_mem_drop hc)
theorem Goods.reverse {cs : List Rec} (g : Goods cs) : Goods cs.reverse := fun c hc => g c (List.mem_reverse.mp hc)
def txs (cs : List Rec) : List Str := cs.map (·.text)
def pick (cs : List Rec) (b : Bool) (vs : List Value) : List Value := (outF cs b cs.length).map fun p => vs.getD p.toNat .none
def sortT (cs : List Rec) (b : Bool) : List Str := (outF cs b cs.length).map fun p => (cs.getD p.toNat d0).text

abbrev Bf (cs : List Rec) (b : Bool) (i j : Nat) : Prop := befP b (agR (cs.getD i d0) (cs.getD j d0)) i j
theorem cnt_eq (cs : List Rec) (b : Bool) (j : Nat) : ∀ n, cnt cs b j n = (List.range n).countP (fun i => decide (Bf cs b i j))
  | 0 => rfl
  | n + 1 => by
    unfold cnt
    rw [List.range_succ, List.countP_append, cnt_eq cs b j n]
    simp [List.countP_cons]
theorem getD_good {cs : List Rec} (g : Goods cs) {i : Nat} (h : i < cs.length) : GoodRec (cs.getD i d0) := by
  have e : cs.getD i d0 = cs[i] := by rw [List.getD_eq_getElem?_getD, List.getElem?_eq_getElem h]; rfl
  rw [e]; exact g _ (List.getElem_mem h)
theorem ag_flip {c d : Rec} (hc : GoodRec c) (hd : GoodRec d) : (agR d c < 0 ↔ 0 < agR c d) ∧ (0 < agR d c ↔ agR c d < 0) :=
  ⟨(sgn1 hd hc).symm.trans (sgn2 hc hd), (sgn2 hd hc).symm.trans (sgn1 hc hd)⟩
theorem bf_asym {cs : List Rec} (g : Goods cs) {b : Bool} {i j : Nat} (hi : i < cs.length) (hj : j < cs.length) (h : Bf cs b i j) : ¬ Bf cs b j i := by
  have f := ag_flip (getD_good g hi) (getD_good g hj)
  intro h2
  unfold Bf befP at h h2
  cases b <;> simp only [Bool.false_eq_true, if_false, if_true] at h h2 <;> omega
theorem bf_irr {cs : List Rec} (g : Goods cs) {b : Bool} {i : Nat} (hi : i < cs.length) : ¬ Bf cs b i i := fun h => bf_asym g hi hi h h

theorem cnt_at {cs : List Rec} (g : Goods cs) {b : Bool} {r : List Nat} (hp : r.Perm (List.range cs.length)) (hs : r.Pairwise (Bf cs b)) {t : Nat} (ht : t < r.length) : cnt cs b r[t] cs.length = t := by
  have mem : ∀ x ∈ r, x < cs.length := fun x hx => List.mem_range.mp (hp.mem_iff.mp hx)
  rw [cnt_eq, ← hp.countP_eq]
  have e : r = r.take t ++ r[t] :: r.drop (t + 1) := by
    rw [List.getElem_cons_drop, List.take_append_drop]
  have hs' := hs
  rw [e] at hs'
  obtain ⟨h1, h2, h3⟩ := List.pairwise_append.mp hs'
  obtain ⟨h4, h5⟩ := List.pairwise_cons.mp h2
  have hj : r[t] < cs.length := mem _ (List.getElem_mem ht)
  generalize r[t] = j at *
  rw [e, List.countP_append, List.countP_cons]
  have c1 : (r.take t).countP (fun i => decide (Bf cs b i j)) = t := by
    rw [List.countP_eq_length.mpr (fun a ha => decide_eq_true (h3 a ha j (by simp)))]
    rw [List.length_take]; omega
  have c2 : (r.drop (t + 1)).countP (fun i => decide (Bf cs b i j)) = 0 := by
    rw [List.countP_eq_zero]
    intro a ha hb
    have hb' := of_decide_eq_true hb
    exact bf_asym g hj (mem a (List.mem_of_mem_drop ha)) (h4 a ha) hb'
  rw [c1, c2, if_neg (by simpa using bf_irr g hj)]
  omega
theorem outF_get {cs : List Rec} {b : Bool} (inj : ∀ i j, i < cs.length → j < cs.length → cnt cs b i cs.length = cnt cs b j cs.length → i = j) :
    ∀ m, m ≤ cs.length → ∀ j, j < m → (outF cs b m)[cnt cs b j cs.length]? = some (j : Int)
  | 0, _, j, h => by omega
  | m + 1, hm, j, h => by
    unfold outF
    by_cases e : j = m
    · subst e
      rw [List.getElem?_set_self (by rw [outF_len]; exact cnt_lt hm)]
    · rw [List.getElem?_set_ne (fun q => e (inj m j hm (by omega) q).symm)]
      exact outF_get inj m (by omega) j (by omega)
theorem outF_of {cs : List Rec} (g : Goods cs) {b : Bool} {r : List Nat} (hp : r.Perm (List.range cs.length)) (hs : r.Pairwise (Bf cs b)) : outF cs b cs.length = r.map (fun (p : Nat) => (p : Int)) := by
  have hl : r.length = cs.length := by simpa using hp.length_eq
  have mem : ∀ x ∈ r, x < cs.length := fun x hx => List.mem_range.mp (hp.mem_iff.mp hx)
  have inj : ∀ i j, i < cs.length → j < cs.length → cnt cs b i cs.length = cnt cs b j cs.length → i = j := by
    intro i j hi hj e
    obtain ⟨t, ht, rfl⟩ := List.getElem_of_mem (hp.mem_iff.mpr (List.mem_range.mpr hi))
    obtain ⟨u, hu, rfl⟩ := List.getElem_of_mem (hp.mem_iff.mpr (List.mem_range.mpr hj))
    rw [cnt_at g hp hs ht, cnt_at g hp hs hu] at e
    subst e; rfl
  apply List.ext_getElem?
  intro t
  rcases Nat.lt_or_ge t r.length with ht | ht
  · have z := outF_get inj cs.length (Nat.le_refl _) r[t] (mem _ (List.getElem_mem ht))
    rw [cnt_at g hp hs ht] at z
    rw [z, List.getElem?_map, List.getElem?_eq_getElem ht]; rfl
  · rw [List.getElem?_eq_none (by rw [outF_len]; omega), List.getElem?_eq_none (by simpa using ht)]
theorem outF_range' {cs : List Rec} {b : Bool} : ∀ m, m ≤ cs.length → ∀ p ∈ outF cs b m, 0 ≤ p ∧ p < (cs.length : Int)
  | 0, _, p, h => by
    unfold outF at h
    have e := List.eq_of_mem_replicate h
    have : cs.length ≠ 0 := fun q => by rw [q] at h; simp at h
    omega
  | m + 1, hm, p, h => by
    unfold outF at h
    rcases List.mem_or_eq_of_mem_set h with h | h
    · exact outF_range' m (by omega) p h
    · omega
theorem outF_range {cs : List Rec} {b : Bool} : ∀ p ∈ outF cs b cs.length, 0 ≤ p ∧ p < (cs.length : Int) := outF_range' _ (Nat.le_refl _)
theorem pick_texts {cs : List Rec} {b : Bool} {vs : List Value} (e : vs.map st = (txs cs).map sv) : (pick cs b vs).map st = (sortT cs b).map sv := by
  unfold pick sortT
  rw [List.map_map, List.map_map]
  apply List.map_congr_left
  intro p hp
  obtain ⟨h0, h1⟩ := outF_range p hp
  have hlen : vs.length = cs.length := by simpa [txs] using congrArg List.length e
  have h1' : p.toNat < cs.length := by omega
  have h2' : p.toNat < vs.length := by omega
  have z := congrArg (fun l => l[p.toNat]?) e
  simp only [txs, List.getElem?_map, List.getElem?_eq_getElem h1', List.getElem?_eq_getElem h2', Option.map_some, Option.some.injEq] at z
  simp only [Function.comp, List.getD_eq_getElem?_getD, List.getElem?_eq_getElem h1', List.getElem?_eq_getElem h2', Option.getD_some]
  exact z
theorem sortT_mem {cs : List Rec} {b : Bool} : ∀ x ∈ sortT cs b, x ∈ txs cs := by
  intro x hx
  obtain ⟨p, hp, rfl⟩ := List.mem_map.mp hx
  obtain ⟨h0, h1⟩ := outF_range p hp
  have h1' : p.toNat < cs.length := by omega
  rw [List.getD_eq_getElem?_getD, List.getElem?_eq_getElem h1']
  exact List.mem_map_of_mem (List.getElem_mem h1')

theorem ds_get {cs : List Rec} {i : Nat} (h : i < cs.length) : ((txs cs).map keyD).getD i [] = keyD (cs.getD i d0).text := by
  simp [txs, List.getD_eq_getElem?_getD, List.getElem?_eq_getElem h]
theorem rev_get {α : Type} {l : List α} {d : α} {i : Nat} (h : i < l.length) : l.reverse.getD i d = l.getD (l.length - 1 - i) d := by
  rw [List.getD_eq_getElem?_getD, List.getD_eq_getElem?_getD, List.getElem?_reverse h]

theorem placed_out {cs : List Rec} (g : Goods cs) (b : Bool) {vs : List Value} (hl : vs.length = cs.length) {q : List Nat} (hq : Placed (katRev b ((txs cs).map keyD)) q) : outOf b vs q = pick cs b vs := by
  obtain ⟨hp, hs⟩ := hq
  rw [kat_len] at hp
  have hdl : ((txs cs).map keyD).length = cs.length := by simp [txs]
  rw [hdl] at hp
  have mem : ∀ x ∈ q, x < cs.length := fun x hx => List.mem_range.mp (hp.mem_iff.mp hx)
  cases b with
  | false =>
    have hs' : q.Pairwise (Bf cs false) := by
      refine List.Pairwise.imp_of_mem (fun {x y} hx hy h => ?_) hs
      have lx := mem x hx
      have ly := mem y hy
      have a1 := sgn1 (getD_good g lx) (getD_good g ly)
      have a2 := sgn2 (getD_good g lx) (getD_good g ly)
      unfold Pre ltOf katRev at h
      simp only [Bool.false_eq_true, if_false, ds_get lx, ds_get ly] at h
      unfold Bf befP
      simp only [Bool.false_eq_true, if_false]
      rcases h with h | ⟨h1, h2⟩
      · exact .inl (a1.mp h)
      · rw [← Bool.not_eq_true, a2] at h1
        omega
    have e := outF_of g hp hs'
    unfold outOf pick katRev
    rw [e, List.map_map]
    simp [Function.comp_def]
  | true =>
    have hp2 : (q.map fun i => cs.length - 1 - i).reverse.Perm (List.range cs.length) := by
      refine (List.reverse_perm _).trans ((hp.map _).trans ?_)
      rw [krv_range]
      exact List.reverse_perm _
    have hs' : (q.map fun i => cs.length - 1 - i).reverse.Pairwise (Bf cs true) := by
      rw [List.pairwise_reverse, List.pairwise_map]
      refine List.Pairwise.imp_of_mem (fun {x y} hx hy h => ?_) hs
      have lx := mem x hx
      have ly := mem y hy
      have lx' : cs.length - 1 - x < cs.length := by omega
      have ly' : cs.length - 1 - y < cs.length := by omega
      have a1 := sgn1 (getD_good g ly') (getD_good g lx')
      have a2 := sgn2 (getD_good g ly') (getD_good g lx')
      unfold Pre ltOf katRev at h
      simp only [if_true] at h
      rw [rev_get (by rw [hdl]; exact lx), rev_get (by rw [hdl]; exact ly), hdl, ds_get lx', ds_get ly'] at h
      unfold Bf befP
      simp only [if_true]
      rcases h with h | ⟨h1, h2⟩
      · have := a2.mp h
        exact .inl (by omega)
      · rw [← Bool.not_eq_true, a1] at h1
        omega
    have e := outF_of g hp2 hs'
    unfold outOf pick katRev
    rw [e, List.map_map]
    simp only [if_true]
    rw [List.map_reverse, List.map_map]
    congr 1
    apply List.map_congr_left
    intro i hi
    rw [rev_get (by rw [hl]; exact mem i hi), hl]
    simp

theorem lt_kl {x y : List Value} (hx : x = [] ∨ ∃ c, GoodRec c ∧ x = keyD c.text) (hy : y = [] ∨ ∃ c, GoodRec c ∧ y = keyD c.text) : lsLt x y = true ↔ x.map kE < y.map kE := by
  have ne : ∀ c, GoodRec c → ∃ a l, keyD c.text = a :: l := fun c g => by
    have f := g.facts
    rw [f.key]
    have fl := f.len
    cases q : c.words with
    | nil => rw [q] at fl; simp at fl
    | cons w ws => cases c.vals <;> exact ⟨_, _, rfl⟩
  rcases hx with rfl | ⟨c, gc, rfl⟩
  · rcases hy with rfl | ⟨d, gd, rfl⟩
    · simp [lsLt]
    · obtain ⟨a, l, e⟩ := ne d gd
      rw [e]
      simp [lsLt]
  · rcases hy with rfl | ⟨d, gd, rfl⟩
    · obtain ⟨a, l, e⟩ := ne c gc
      rw [e]
      simp [lsLt]
    · exact ls_ek gc gd
theorem keysOk {cs : List Rec} (g : Goods cs) (b : Bool) : KeysOk b (txs cs) where
  ok := fun x hx => by
    obtain ⟨c, hc, rfl⟩ := List.mem_map.mp hx
    exact (g c hc).facts.ok
  compat := fun d hd d' hd' => by
    simp only [txs, List.map_map, List.mem_map, Function.comp] at hd hd'
    obtain ⟨c, hc, rfl⟩ := hd
    obtain ⟨c', hc', rfl⟩ := hd'
    rw [(g c hc).facts.key, (g c' hc').facts.key]
    exact kOf_compat _ _ _ _
  weak := by
    have at' : ∀ i, ((katRev b ((txs cs).map keyD)).getD i [] = [] ∨ ∃ c, GoodRec c ∧ (katRev b ((txs cs).map keyD)).getD i [] = keyD c.text) := by
      intro i
      rw [List.getD_eq_getElem?_getD]
      cases q : (katRev b ((txs cs).map keyD))[i]? with
      | none => exact .inl rfl
      | some v =>
        have hm := List.mem_of_getElem? q
        have hm' : v ∈ (txs cs).map keyD := by
          unfold katRev at hm
          split at hm
          · exact List.mem_reverse.mp hm
          · exact hm
        simp only [txs, List.map_map, List.mem_map, Function.comp] at hm'
        obtain ⟨c, hc, rfl⟩ := hm'
        exact .inr ⟨c, g c hc, rfl⟩
    have f : ∀ i j, ltOf (katRev b ((txs cs).map keyD)) i j = true ↔ ((katRev b ((txs cs).map keyD)).getD i []).map kE < ((katRev b ((txs cs).map keyD)).getD j []).map kE := fun i j => lt_kl (at' i) (at' j)
    refine ⟨fun a => ?_, fun a c h => ?_, fun a c e h => ?_⟩
    · rw [← Bool.not_eq_true, f]; exact kl_irr _
    · rw [← Bool.not_eq_true, f]; exact kl_asym ((f _ _).mp h)
    · rw [f, f]
      have h' := (f _ _).mp h
      rcases kl_tri (((katRev b ((txs cs).map keyD)).getD a []).map kE) (((katRev b ((txs cs).map keyD)).getD c []).map kE) with q | q | q
      · exact .inl q
      · exact .inr (q ▸ h')
      · exact .inr (kl_tr q h')

abbrev tx (cs : List Rec) (i : Nat) : Str := (cs.getD i d0).text
def leP (cs : List Rec) (b : Bool) (i j : Nat) : Prop := if b then ek (tx cs j) < ek (tx cs i) ∨ (ek (tx cs i) = ek (tx cs j) ∧ i ≤ j) else ek (tx cs i) < ek (tx cs j) ∨ (ek (tx cs i) = ek (tx cs j) ∧ i ≤ j)
noncomputable def leB (cs : List Rec) (b : Bool) (i j : Nat) : Bool := @decide (leP cs b i j) (Classical.propDecidable _)
theorem leB_iff {cs : List Rec} {b : Bool} {i j : Nat} : leB cs b i j = true ↔ leP cs b i j := by unfold leB; exact @decide_eq_true_iff _ (Classical.propDecidable _)
theorem leP_tr {cs : List Rec} {b : Bool} {i j k : Nat} (h1 : leP cs b i j) (h2 : leP cs b j k) : leP cs b i k := by
  unfold leP at *
  cases b <;> simp only [Bool.false_eq_true, if_false, if_true] at *
  · rcases h1 with h1 | ⟨h1, h1'⟩
    · rcases h2 with h2 | ⟨h2, h2'⟩
      · exact .inl (kl_tr h1 h2)
      · rw [h2] at h1; exact .inl h1
    · rcases h2 with h2 | ⟨h2, h2'⟩
      · rw [← h1] at h2; exact .inl h2
      · exact .inr ⟨h1.trans h2, by omega⟩
  · rcases h1 with h1 | ⟨h1, h1'⟩
    · rcases h2 with h2 | ⟨h2, h2'⟩
      · exact .inl (kl_tr h2 h1)
      · rw [h2] at h1; exact .inl h1
    · rcases h2 with h2 | ⟨h2, h2'⟩
      · rw [← h1] at h2; exact .inl h2
      · exact .inr ⟨h1.trans h2, by omega⟩
theorem leP_tot (cs : List Rec) (b : Bool) (i j : Nat) : leP cs b i j ∨ leP cs b j i := by
  unfold leP
  cases b <;> simp only [Bool.false_eq_true, if_false, if_true]
  · rcases kl_tri (ek (tx cs i)) (ek (tx cs j)) with h | h | h
    · exact .inl (.inl h)
    · rcases Nat.le_total i j with q | q
      · exact .inl (.inr ⟨h, q⟩)
      · exact .inr (.inr ⟨h.symm, q⟩)
    · exact .inr (.inl h)
  · rcases kl_tri (ek (tx cs i)) (ek (tx cs j)) with h | h | h
    · exact .inr (.inl h)
    · rcases Nat.le_total i j with q | q
      · exact .inl (.inr ⟨h, q⟩)
      · exact .inr (.inr ⟨h.symm, q⟩)
    · exact .inl (.inl h)
theorem leB_tr (cs : List Rec) (b : Bool) : ∀ i j k, leB cs b i j = true → leB cs b j k = true → leB cs b i k = true := fun _ _ _ h1 h2 => leB_iff.mpr (leP_tr (leB_iff.mp h1) (leB_iff.mp h2))
theorem leB_tot (cs : List Rec) (b : Bool) : ∀ i j, (leB cs b i j || leB cs b j i) = true := fun i j => by
  rw [Bool.or_eq_true, leB_iff, leB_iff]; exact leP_tot cs b i j
theorem bf_of {cs : List Rec} (g : Goods cs) {b : Bool} {i j : Nat} (hi : i < cs.length) (hj : j < cs.length) (hne : i ≠ j) (h : leP cs b i j) : Bf cs b i j := by
  have a1 := ag1 (getD_good g hi) (getD_good g hj)
  have a2 := ag2 (getD_good g hi) (getD_good g hj)
  unfold leP tx at h
  unfold Bf befP
  cases b <;> simp only [Bool.false_eq_true, if_false, if_true] at *
  · rcases h with h | ⟨h, h'⟩
    · exact .inl (a1.mpr h)
    · rw [h] at a1 a2
      have z1 : ¬ agR (cs.getD i d0) (cs.getD j d0) < 0 := fun q => kl_irr _ (a1.mp q)
      have z2 : ¬ 0 < agR (cs.getD i d0) (cs.getD j d0) := fun q => kl_irr _ (a2.mp q)
      omega
  · rcases h with h | ⟨h, h'⟩
    · have := a2.mpr h
      exact .inl (by omega)
    · rw [h] at a1 a2
      have z1 : ¬ agR (cs.getD i d0) (cs.getD j d0) < 0 := fun q => kl_irr _ (a1.mp q)
      have z2 : ¬ 0 < agR (cs.getD i d0) (cs.getD j d0) := fun q => kl_irr _ (a2.mp q)
      omega
theorem bf_pairs {cs : List Rec} (g : Goods cs) {b : Bool} {r : List Nat} (hm : ∀ x ∈ r, x < cs.length) (hn : r.Nodup) (hs : r.Pairwise (fun i j => leB cs b i j = true)) : r.Pairwise (Bf cs b) := by
  refine List.Pairwise.imp_of_mem (fun {x y} hx hy h => ?_) (List.Pairwise.and hs hn)
  exact bf_of g (hm x hx) (hm y hy) h.2 (leB_iff.mp h.1)
theorem sortT_of {cs : List Rec} (g : Goods cs) {b : Bool} {r : List Nat} (hp : r.Perm (List.range cs.length)) (hs : r.Pairwise (Bf cs b)) : sortT cs b = r.map (tx cs) := by
  unfold sortT
  rw [outF_of g hp hs, List.map_map]
  apply List.map_congr_left
  intro i _
  simp [Function.comp, tx]

theorem leF_leB {cs : List Rec} (g : Goods cs) {b : Bool} {i j : Nat} (hi : i < cs.length) (hj : j < cs.length) (hij : i ≤ j) : leB cs b i j = leF cs b (txs cs) (tx cs i) (tx cs j) := by
  have mem : ∀ {k : Nat}, k < cs.length → tx cs k ∈ txs cs := fun {k} hk => by
    unfold tx
    rw [List.getD_eq_getElem?_getD, List.getElem?_eq_getElem hk]
    exact List.mem_map_of_mem (List.getElem_mem hk)
  have idx : ∀ {k : Nat}, k < cs.length → (txs cs).idxOf (tx cs k) < cs.length ∧ (cs.getD ((txs cs).idxOf (tx cs k)) d0).text = tx cs k := fun {k} hk => by
    have h1 := List.idxOf_lt_length_iff.mpr (mem hk)
    have h2 := List.getElem_idxOf h1
    have h3 : (txs cs).length = cs.length := by simp [txs]
    refine ⟨by omega, ?_⟩
    have h4 : ((txs cs)[(txs cs).idxOf (tx cs k)]'h1) = (cs[(txs cs).idxOf (tx cs k)]'(by omega)).text := List.getElem_map _
    rw [List.getD_eq_getElem?_getD, List.getElem?_eq_getElem (by omega)]
    exact h4.symm.trans h2
  obtain ⟨i1, i2⟩ := idx hi
  obtain ⟨j1, j2⟩ := idx hj
  have a1 := ag1 (getD_good g i1) (getD_good g j1)
  have a2 := ag2 (getD_good g i1) (getD_good g j1)
  rw [i2, j2] at a1 a2
  rw [Bool.eq_iff_iff, leB_iff]
  unfold leP leF
  cases b
  · simp only [Bool.false_eq_true, if_false, decide_eq_true_iff]
    constructor
    · rintro (h | ⟨h, _⟩)
      · have := a1.mpr h; omega
      · have z2 : ¬ 0 < agR (cs.getD ((txs cs).idxOf (tx cs i)) d0) (cs.getD ((txs cs).idxOf (tx cs j)) d0) := fun q => kl_irr _ (h ▸ a2.mp q)
        omega
    · intro h
      rcases kl_tri (ek (tx cs i)) (ek (tx cs j)) with q | q | q
      · exact .inl q
      · exact .inr ⟨q, hij⟩
      · have := a2.mpr q; omega
  · simp only [if_true, decide_eq_true_iff]
    constructor
    · rintro (h | ⟨h, _⟩)
      · have := a2.mpr h; omega
      · have z2 : ¬ agR (cs.getD ((txs cs).idxOf (tx cs i)) d0) (cs.getD ((txs cs).idxOf (tx cs j)) d0) < 0 := fun q => kl_irr _ (h ▸ a1.mp q)
        omega
    · intro h
      rcases kl_tri (ek (tx cs i)) (ek (tx cs j)) with q | q | q
      · have := a1.mpr q; omega
      · exact .inr ⟨q, hij⟩
      · exact .inl q
theorem merged_out {cs : List Rec} (g : Goods cs) (b : Bool) (cut : Nat) (hc : cut ≤ cs.length) : List.merge (sortT (cs.take cut) b) (sortT (cs.drop cut) b) (leF cs b (txs cs)) = sortT cs b := by
  have tr := leB_tr cs b
  have to := leB_tot cs b
  have p1 := List.mergeSort_perm (List.range cut) (leB cs b)
  have s1 := List.pairwise_mergeSort tr to (List.range cut)
  have p2 := List.mergeSort_perm ((List.range (cs.length - cut)).map (· + cut)) (leB cs b)
  have s2 := List.pairwise_mergeSort tr to ((List.range (cs.length - cut)).map (· + cut))
  generalize (List.range cut).mergeSort (leB cs b) = r1 at p1 s1
  generalize ((List.range (cs.length - cut)).map (· + cut)).mergeSort (leB cs b) = r2 at p2 s2
  have m1 : ∀ x ∈ r1, x < cut := fun x hx => List.mem_range.mp (p1.mem_iff.mp hx)
  have m2 : ∀ x ∈ r2, cut ≤ x ∧ x < cs.length := fun x hx => by
    obtain ⟨y, hy, rfl⟩ := List.mem_map.mp (p2.mem_iff.mp hx)
    have := List.mem_range.mp hy
    omega
  have n1 : r1.Nodup := p1.nodup_iff.mpr List.nodup_range
  have nn2 : ((List.range (cs.length - cut)).map (· + cut)).Nodup := by
    rw [List.Nodup, List.pairwise_map]
    exact List.Pairwise.imp (fun {a b} h q => h (by omega)) List.nodup_range
  have n2 : r2.Nodup := p2.nodup_iff.mpr nn2
  have b1 := bf_pairs g (fun x hx => by have := m1 x hx; omega) n1 s1
  have b2 := bf_pairs g (fun x hx => (m2 x hx).2) n2 s2
  have e1 : sortT (cs.take cut) b = r1.map (tx cs) := by
    have gt : ∀ {i : Nat}, i < cut → (cs.take cut).getD i d0 = cs.getD i d0 := fun {i} hi => by
      rw [List.getD_eq_getElem?_getD, List.getD_eq_getElem?_getD, List.getElem?_take_of_lt hi]
    have hl : (cs.take cut).length = cut := by rw [List.length_take]; omega
    rw [sortT_of (g.take cut) (r := r1) (by rw [hl]; exact p1) (List.Pairwise.imp_of_mem (fun {x y} hx hy h => ?_) b1)]
    · apply List.map_congr_left
      intro i hi
      unfold tx; rw [gt (m1 i hi)]
    · unfold Bf; rw [gt (m1 x hx), gt (m1 y hy)]; exact h
  have e2 : sortT (cs.drop cut) b = r2.map (tx cs) := by
    have gd : ∀ {i : Nat}, cut ≤ i → (cs.drop cut).getD (i - cut) d0 = cs.getD i d0 := fun {i} hi => by
      rw [List.getD_eq_getElem?_getD, List.getD_eq_getElem?_getD, List.getElem?_drop]
      congr 2; omega
    have hl : (cs.drop cut).length = cs.length - cut := List.length_drop
    rw [sortT_of (g.drop cut) (r := r2.map (· - cut)) ?_ ?_]
    · rw [List.map_map]
      apply List.map_congr_left
      intro i hi
      simp only [Function.comp]
      unfold tx; rw [gd (m2 i hi).1]
    · rw [hl]
      refine (p2.map _).trans ?_
      rw [List.map_map]
      have : ((fun x => x - cut) ∘ fun x => x + cut) = (id : Nat → Nat) := by funext x; simp
      rw [this, List.map_id]
    · rw [List.pairwise_map]
      refine List.Pairwise.imp_of_mem (fun {x y} hx hy h => ?_) b2
      have hx1 := (m2 x hx).1
      have hy1 := (m2 y hy).1
      unfold Bf befP at *
      rw [gd hx1, gd hy1]
      rcases h with h | ⟨h, h'⟩
      · exact .inl h
      · exact .inr ⟨h, by omega⟩
  rw [e1, e2, ← List.map_merge (r := leB cs b) (fun x hx y hy => leF_leB g (by have := m1 x hx; omega) (m2 y hy).2 (by have := m1 x hx; have := (m2 y hy).1; omega))]
  have pm : (List.merge r1 r2 (leB cs b)).Perm (List.range cs.length) := by
    refine (List.merge_perm_append (leB cs b)).trans ((p1.append p2).trans ?_)
    have e : List.range cs.length = List.range cut ++ (List.range (cs.length - cut)).map (· + cut) := by
      have q : cs.length = cut + (cs.length - cut) := by omega
      conv => lhs; rw [q, List.range_add]
      congr 1
      apply List.map_congr_left
      intro x _
      omega
    rw [← e]
  have sm := List.pairwise_merge tr to r1 r2 s1 s2
  have bm := bf_pairs g (fun x hx => List.mem_range.mp (pm.mem_iff.mp hx)) (pm.nodup_iff.mpr List.nodup_range) sm
  rw [sortT_of g pm bm]
end Mine

open PySem PySem.W PyProof.Rows
set_option Elab.async false
set_option maxRecDepth 100000
set_option maxHeartbeats 8000000
namespace Mine
theorem allF_good (ns : List Int) (n : Nat) : Goods (allF ns n) := by
  intro c hc
  unfold allF csF at hc
  simp only [List.mem_append, List.mem_map, List.mem_singleton] at hc
  rcases hc with ⟨j, _, rfl⟩ | rfl
  · exact ⟨_, rfl⟩
  · exact ⟨_, rfl⟩
theorem compat_pick {cs : List Rec} {b : Bool} {vs : List Value} {xs : List Str} (hl : vs.length = cs.length) (e : vs.map st = xs.map sv) : Compat (pick cs b vs) (pick cs b vs) := by
  have hs := strs_same e
  have key : ∀ v ∈ pick cs b vs, ∃ x t, v = .str x t := by
    intro v hv
    obtain ⟨p, hp, rfl⟩ := List.mem_map.mp hv
    obtain ⟨h0, h1⟩ := outF_range p hp
    have hlt : p.toNat < vs.length := by omega
    have e2 : vs.getD p.toNat .none = vs[p.toNat] := by rw [List.getD_eq_getElem?_getD, List.getElem?_eq_getElem hlt]; rfl
    rw [e2]
    exact hs _ (List.getElem_mem hlt)
  intro j x y hx hy
  rw [hx] at hy
  cases hy
  obtain ⟨a, t, rfl⟩ := key x (List.mem_of_getElem? hx)
  exact .str _ _ _ _
end Mine

open PySem PySem.W PyProof.Rows
set_option Elab.async false
set_option maxRecDepth 100000
set_option maxHeartbeats 8000000
namespace Mine
theorem fill_now10 {w : World} {h : Heap} (X : (hd.heap_39 w.params).In h) : (hd.heap_39 w.params).In h ∨ model PySem.Challenge.rw_fe0146_01.row.prog w = model PySem.Challenge.rw_fe0146_01.row.prog w := by
  k_fill
  exact .inl X
local macro_rules | `(tactic| walk_at "exec Assign cons ListComp") => `(tactic| (k_here; (with_reducible show wpAny _ _ (exec (Stmt.Assign [PySem.Expr.Name (PySem.Str.ofString "records") _] _ _) _) _ _ _); with_reducible refine held ?_))
local macro_rules | `(tactic| walk_at "subscriptTail Name Constant ref int") => `(tactic| (
  (with_reducible show wpAny _ _ (subscriptTail _ _ (Value.ref _) (Value.int _ _)) _ _ _);
  k_dflt (refine' item_own (by assumption) ?hm ?h0 ?hz (by with_reducible assumption) ?_ (by with_unfolding_all rfl) (by intro _; with_unfolding_all rfl); (case hm => k_mem); (case h0 => omega); (case hz => (first | omega | (simp; omega))))))
local macro_rules | `(tactic| walk_at "call builtin:list.append") => `(tactic| (refine append_own (by assumption) (by assumption) (by assumption) (by first | omega | (simp; omega)) ?_; intro h' F' N'))
local macro_rules | `(tactic| k_ne) => `(tactic| exact NeA.ne (by with_reducible assumption))
local macro_rules | `(tactic| k_all) => `(tactic| exact own_off (by assumption) (by omega))
local macro_rules | `(tactic| walk_at "subscriptTail Name Constant ref int") => `(tactic| (k_dflt (refine' rec0 (by with_reducible assumption) ?_ (by with_unfolding_all rfl))))
local macro_rules | `(tactic| walk_at "subscriptTail Name Name ref int") => `(tactic| (
  (with_reducible show wpAny _ _ (subscriptTail _ _ (Value.ref _) (Value.int _ _)) _ _ _);
  k_dflt (refine' item_own (by assumption) ?hm ?h0 ?hz (by with_reducible assumption) ?_ (by with_unfolding_all rfl) (by intro _; with_unfolding_all rfl); (case hm => k_mem); (case h0 => omega); (case hz => (first | omega | (simp; omega))))))
local macro_rules | `(tactic| walk_at "call builtin:len") => `(tactic| (k_here; k_dflt (refine' len_led (by assumption) ?hm rfl ?hs ?_; (case hm => k_mem); (case hs => omega))))
local macro_rules | `(tactic| walk_at "subscriptTail Name Call ref int") => `(tactic| (
  (with_reducible show wpAny _ _ (subscriptTail _ _ (Value.ref _) (Value.int _ _)) _ _ _);
  k_dflt (refine' item_own (by assumption) ?hm ?h0 ?hz (by with_reducible assumption) ?_ (by with_unfolding_all rfl) (by intro _; with_unfolding_all rfl); (case hm => k_mem); (case h0 => omega); (case hz => (first | omega | (simp; omega))))))
local macro_rules | `(tactic| walk_at "subscriptTail Subscript Name ref int") => `(tactic| (
  (with_reducible show wpAny _ _ (subscriptTail _ _ (Value.ref _) (Value.int _ _)) _ _ _);
  k_dflt (refine' item_ownT (by assumption) ?hm ?h0 ?hz (by with_reducible assumption) ?_ (by with_unfolding_all rfl); (case hm => k_mem); (case h0 => omega); (case hz => (first | omega | (simp; omega))))))
local macro_rules | `(tactic| walk_at "call type:list") => `(tactic| (k_here; with_reducible refine held ?_))
local macro_rules | `(tactic| walk_at "call type:tuple") => `(tactic| (k_here; with_reducible refine held ?_))
local macro_rules | `(tactic| walk_at "call type:reversed") => `(tactic| (k_here; with_reducible refine held ?_))
local macro_rules | `(tactic| walk_at "call builtin:sum") => `(tactic| (k_here; with_reducible refine held ?_))
local macro_rules | `(tactic| walk_at "compareOp Eq ref ref") => `(tactic| (k_here; with_reducible refine held ?_))
local macro_rules | `(tactic| walk_at "subscriptTail Name Slice ref ref") => `(tactic| (k_here; with_reducible refine held ?_))
local macro_rules | `(tactic| walk_at "subscriptTail Name Slice ref ref") => `(tactic| (k_here; (with_reducible show wpAny _ _ (subscriptTail _ (PySem.Expr.Slice none none (some _) _) (Value.ref _) (Value.ref _)) _ _ _); k_dflt (refine' krv_lit ?F ?N ?l ?k rfl ?_ ?s ?t ?z; (case F => k_asm); (case N => k_asm); (case l => exact News.isList (by k_asm) (by k_mem)); (case k => exact IsPart.int _ _); (case s => with_unfolding_all rfl); (case t => kmk_pure); (case z => (rw [List.size_toArray, sizeLine_eq]; omega))); intro D' h' F' N' l1))
local macro_rules | `(tactic| walk_at "call ref") => `(tactic| (k_here; (with_reducible show wpAny _ _ (call (Value.ref 29) _ _) _ _ _); with_reducible refine held ?_))
local macro_rules | `(tactic| walk_at "call ref") => `(tactic| (k_here; (with_reducible show wpAny _ _ (call (Value.ref 79) _ _) _ _ _); with_reducible refine held ?_))
local macro_rules | `(tactic| walk_at "call ref") => `(tactic| (k_here; (with_reducible show wpAny _ _ (call (Value.ref 86) _ _) _ _ _); with_reducible refine held ?_))
local macro_rules | `(tactic| walk_at "CompSrc") => `(tactic| (k_here; with_reducible refine held ?_))
local macro_rules | `(tactic| walk_at "CompEnd") => `(tactic| (with_reducible refine held ?_))
local macro_rules | `(tactic| walk_at "call ref") => `(tactic| (
  (with_reducible show wpAny _ _ (call (Value.ref 58) [Value.ref _, Value.int _ _]) _ _ _);
  refine' law_at_call (by assumption) (by assumption) (by assumption) (by assumption) rfl (by exact Nat.le_of_ble_eq_true rfl) (by exact Nat.le_of_ble_eq_true rfl) (by assumption) (by assumption) (by assumption) (by omega) (by omega) ?_; intro t' h' tk' hK' F' N'))
local macro_rules | `(tactic| walk_at "call ref") => `(tactic| (
  (with_reducible show wpAny _ _ (call (Value.ref 65) [Value.int _ _]) _ _ _);
  refine' law_record_call (by assumption) (by assumption) (by assumption) (by assumption) rfl (by exact Nat.le_of_ble_eq_true rfl) (by exact Nat.le_of_ble_eq_true rfl) ?_; intro r' q' h' tk' hQ' hRA' F' N'))
local macro_rules | `(tactic| walk_at "eval ListComp") => `(tactic| (k_here; with_reducible refine held ?_))

theorem final : PySem.Challenge.rw_fe0146_01.Holds := hd (by
  k_go0
  refine wpAA (d := 302) (u := 103) ?_ rfl (by exact Nat.le_of_ble_eq_true rfl) (by exact Nat.le_of_ble_eq_true rfl)
  rename Shared => s1
  rename List Int => ns
  generalize hBdef : ghostOf s1.heap [(28, 24), (90, 88)] = B at *
  generalize hLdef : s1.heap.objs.size = L at *
  rename (hd.heap_39 _).In _ => X
  rename Top _ _ _ _ _ _ => T
  rename Fr _ _ _ _ => F
  rename News _ _ _ _ => N
  have C1 : CodeHd B 28 24 := by assumption
  have C2 : CodeHd B 90 88 := by assumption
  rename Heap.IsList _ _ _ => hl
  rename IntsAre _ _ => hi
  have hlen : ns.length ≤ 63 := by omega
  rename 24 < _ ∧ 88 < _ => l0
  obtain ⟨h24, h88⟩ := l0
  generalize bindL _ _ _ = m0 at F
  rename _ = Data.cell (bindC _ _ _ _) => dA
  have dA' := dA.trans (show _ = Data.cell (some (.ref _)) from rfl)
  clear dA
  rename _ = Data.cell (bindC _ _ _ _) => dB
  have dB' := dB.trans (show _ = Data.cell none from rfl)
  clear dB
  rename _ = Data.cell (bindC _ _ _ _) => dC
  have dC' := dC.trans (show _ = Data.cell none from rfl)
  clear dC
  show wpAny _ _ _ _ _ _
  k_fold
  k_steps
  rename Fr _ _ _ _ => F1
  unfold Held
  rw [count_cast] at F1
  obtain ⟨n, hn⟩ : ∃ n, n = countF ns := ⟨_, rfl⟩
  have hn3 : 3 ≤ n ∧ n ≤ 6 := by rw [hn]; unfold countF; omega
  rw [← hn] at F1
  replace F1 : ∃ t, Fr B L _ (fun y => if y = Str.ofString "count" then some (.int ((n : Nat) : Int) t) else m0 y) := ⟨_, F1⟩
  obtain ⟨tkc, F1⟩ := F1
  refine LCg.Assign_ListComp_U (F₀ := F1) rfl (by with_unfolding_all rfl) (by with_unfolding_all rfl) (by decide) (by rfl) (by decide) (by rfl) (by rfl) (by rfl) ?_
  k_steps
  unfold Held
  rename IsRange _ _ _ _ _ _ _ _ => R2
  rename Fr _ _ _ _ => F2
  rename News _ _ _ _ => N2
  refine src_range (n := n) (fun i ys news => ∃ own, news = (L + 1 + 1 + 1, _) :: (L + 1 + 1, _) :: (L + 1, _) :: (24, tabObj #[]) :: (88, tabObj #[]) :: own ∧ OwnRecs own ys (csF ns i) ∧ OwnOff L own) rfl rfl F2 N2 R2 (by omega) ⟨[], rfl, fun h _ => ⟨rfl, fun i hi => by rw [csF_len] at hi; omega⟩, OwnOff.nil⟩ ?_ ?_
  · rintro i ys _ t I oI C oC D m₂ h tk E' hi ⟨own, rfl, ho, hoff⟩ hC hx F N off ne
    show wpAny _ _ _ _ _ _
    k_fold
    k_steps
    rename QOk _ _ _ _ _ => hq
    rename ∀ own ys cs, OwnRecs own ys cs → _ => hext
    rename Fr _ _ _ _ => F9
    rename News _ _ _ _ => N9
    unfold Held
    exact cend [_, _, _, _, _] F9 N9 hq off trivial ⟨_, rfl, by rw [csF_succ]; exact hext _ _ _ ho, hoff.add hq rfl rfl rfl rfl rfl⟩
  rintro g ys news ⟨own, rfl, hown, hoff⟩
  intro DR h3 tk3 F3 N3 o3
  have hrec := hown _ (fun p hp => (N3 p (by simp [hp])).1)
  have hys : ys.length = n := by rw [hrec.1, csF_len]
  obtain ⟨r0, it0, rin0, ok0⟩ := hrec.2 0 (by rw [csF_len]; omega)
  have hne := off1_all o3
  have it0' : ItAt ys 0 (.ref r0) := it0
  clear F2 N2
  k_steps
  rename Fr _ _ _ _ => F4
  rename News _ _ _ _ => N4
  unfold Held
  have hrec4 := own_again hown (by rw [csF_len]; omega) it0'
  have ecs : csF ns n ++ [(csF ns n)[0]'(by rw [csF_len]; omega)] = allF ns n := by
    unfold allF; congr 1; simp [csF]
  rw [ecs] at hrec4
  clear ecs
  refine LCg.ListComp_U (F₀ := F4) (by with_unfolding_all rfl) (by decide) (by rfl) (by decide) (by rfl) ?_
  k_steps
  unfold Held
  rename Fr _ _ _ _ => F5
  rename News _ _ _ _ => N5
  refine src_ledger (n := n + 1) (fun i out news => news = _ ∧ out.map st = ((textsF ns n).take i).map sv) (by simp [hys]) rfl F5 N5 (.head _) (by simp; omega) ⟨rfl, rfl⟩ ?_ ?_
  · rintro i out _ v I oI C oC D m₂ h tk E' hi ⟨rfl, hout⟩ hv hC hx F N off ne
    obtain ⟨a, ia, ⟨wa, va, ta, hr1, _, _⟩, _⟩ := (hrec4 h (fun p hp => (N p (by simp [hp])).1)).2 i (by rw [allF_len]; exact hi)
    have ev : v = .ref a := by unfold ItAt at ia; rw [Int.toNat_natCast, hv] at ia; exact Option.some.inj ia
    subst ev
    show wpAny _ _ _ _ _ _
    k_fold
    k_steps
    unfold Held
    refine cend [_, _, _, _, _, _] F N QOk.nil off (.inr ⟨_, .head _, rfl, _, rfl⟩) ⟨rfl, ?_⟩
    have hi' : i < (textsF ns n).length := by rw [textsF_len]; exact hi
    rw [List.map_append, hout, List.take_succ_eq_append_getElem hi', List.map_append]
    simp [textsF, st, sv]
  clear F5 N5
  rintro g tvs _ ⟨rfl, htv⟩
  intro DT h6 tk6 F6 N6 o6
  rw [List.take_of_length_le (Nat.le_of_eq (textsF_len ns n))] at htv
  have hne6 := off1_all o6
  have o3' := o3
  have o6' := o6
  simp only [LCg.Off1] at o3' o6'
  k_steps
  unfold Held
  rename Fr _ _ _ _ => F7
  rename News _ _ _ _ => N7
  rename _ = Data.cell _ => dT
  rename_i oT
  clear o3' o6'
  refine kup_listOf (zs := tvs) F7 N7 (.head _) rfl (fun DG cG h8 F8 N8 l8 => ?_) (by rw [List.toList_toArray, sizeLine_eq]; have z := congrArg List.length htv; simp [textsF_len] at z; omega)
  clear F7 N7
  k_steps
  unfold Held
  rename Fr _ _ _ _ => F9
  rename News _ _ _ _ => N9
  refine LCg.ListComp_U (F₀ := F9) (by with_unfolding_all rfl) (by decide) (by rfl) (by decide) (by rfl) ?_
  k_steps
  unfold Held
  rename IsRange _ _ _ _ _ _ _ _ => R9
  rename Fr _ _ _ _ => F9
  rename News _ _ _ _ => N9
  refine src_range (n := n) (fun i out news => news = _ ∧ IntsAre out (atL ns i)) rfl rfl F9 N9 R9 (by omega) ⟨rfl, .nil⟩ ?_ ?_
  · rintro i out _ t I oI C oC D m₂ h tk E' hi' ⟨rfl, hout⟩ hC hx F N off ne
    show wpAny _ _ _ _ _ _
    k_fold
    k_steps
    rename Fr _ _ _ _ => F9
    rename News _ _ _ _ => N9
    unfold Held
    exact cend [_, _, _, _, _, _, _, _] F9 N9 QOk.nil off trivial ⟨rfl, by rw [atL_succ]; exact ints_snoc hout _ _⟩
  rintro g bvs _ ⟨rfl, hbv⟩
  intro DB h10 tk10 F10 N10 o10
  k_steps
  unfold Held
  refine sumK rfl F10 (fun p hp => N10 p (.tail _ hp)) (PySem.IsL.isList (n := _) (N10 _ (.head _)).1) hbv (fun h11 tk11 t11 F11 N11 => ?_)
  clear N10 F10
  k_steps
  unfold Held
  rename Fr _ _ _ _ => F12
  rename News _ _ _ _ => N12
  generalize ((atL ns n).sum.fmod 2 == 1) = back at *
  have hCS : (allF ns n).length = n + 1 := allF_len ns n
  have gCS := allF_good ns n
  have hTX : textsF ns n = txs (allF ns n) := rfl
  obtain ⟨CS, eCS⟩ : ∃ CS, CS = allF ns n := ⟨_, rfl⟩
  rw [hTX] at htv
  rw [← eCS] at htv hrec4 hCS gCS
  clear hTX
  have hlt : tvs.length = n + 1 := by simpa [txs, hCS] using congrArg List.length htv
  obtain ⟨rvs, ervs⟩ : ∃ rvs, rvs = ys ++ [Value.ref r0] := ⟨_, rfl⟩
  have hlr : rvs.length = n + 1 := by rw [ervs]; simp [hys]
  rw [← ervs] at hrec4 N12
  refine counted_call F12 N12 X T rfl (by decide) (by decide) (vs := rvs) (cs := CS) ⟨PySem.IsL.isList (n := _) (N12 _ (.tail _ (.tail _ (.head _)))).1, by rw [hlr, hCS], by rw [hCS]; omega⟩ (hrec4 _ (fun p hp => (N12 p (by simp [hp])).1)) (fun DP pvs cP h13 tk13 F13 N13 d13 i13 => ?_)
  clear F12 N12
  rw [hCS] at i13
  k_steps
  unfold Held
  rename Fr _ _ _ _ => F14
  rename News _ _ _ _ => N14
  refine natrev_call F14 N14 X T rfl (by decide) (by decide) (vs := tvs) (xs := txs CS) (.tail _ (.tail _ (.head _))) htv (keysOk gCS back) (by omega) (by omega) (fun DW cW q h15 tk15 F15 N15 d15 hq => ?_)
  rw [placed_out gCS back (by rw [hlt, hCS]) hq] at N15
  clear F14 N14 hq q
  k_steps
  unfold Held
  rename Fr _ _ _ _ => F16
  rename News _ _ _ _ => N16
  refine LCg.ListComp_U (F₀ := F16) (by with_unfolding_all rfl) (by decide) (by rfl) (by decide) (by rfl) ?_
  k_steps
  unfold Held
  rename Fr _ _ _ _ => F16
  rename News _ _ _ _ => N16
  have hplen : pvs.length = n + 1 := by rw [i13.length, outF_len, hCS]
  have hrg := outF_range (cs := CS) (b := back)
  rw [hCS] at hrg
  refine src_ledger (n := n + 1) (fun i out news => news = _ ∧ out = ((outF CS back (n + 1)).take i).map fun p => tvs.getD p.toNat .none) hplen rfl F16 N16 (.tail _ (.head _)) (by omega) ⟨rfl, rfl⟩ ?_ ?_
  · rintro i out _ v I oI C oC D m₂ h tk E' hi' ⟨rfl, rfl⟩ hv hC hx F N off ne
    obtain ⟨hi2, t2, rfl⟩ := ints_get i13 hv
    have hpr := hrg _ (List.getElem_mem hi2)
    have itp := it_getD (vs := tvs) (p := (outF CS back (n + 1))[i]) (by omega)
    have etk : (outF CS back (n + 1)).take (i + 1) = (outF CS back (n + 1)).take i ++ [(outF CS back (n + 1))[i]] := List.take_succ_eq_append_getElem hi2
    generalize (outF CS back (n + 1))[i] = p at *
    show wpAny _ _ _ _ _ _
    k_fold
    k_steps
    unfold Held
    refine cend [_, _, _, _, _, _, _, _, _, _] F N QOk.nil off (.inr ⟨_, .tail _ (.head _), rfl, _, rfl⟩) ⟨rfl, ?_⟩
    rw [etk, List.map_append]; rfl
  rintro g zvs _ ⟨rfl, rfl⟩
  intro DZ h17 tk17 F17 N17 o17
  rw [List.take_of_length_le (by rw [outF_len, hCS]; exact Nat.le_refl _)] at N17
  have epick : ((outF CS back (n + 1)).map fun p => tvs.getD p.toNat .none) = pick CS back tvs := by unfold pick; rw [hCS]
  rw [epick] at N17
  k_steps
  unfold Held
  have epk := pick_texts (cs := CS) (b := back) htv
  refine eq_lists (by decide) (N17 _ (.tail _ (.head _))).1 (N17 _ (.head _)).1 (compat_strs epk epk) ?_
  rw [decide_eq_true rfl]
  replace N17 := fun p hp => N17 p (.tail _ hp)
  clear F16 N16 hplen epick
  k_steps
  unfold Held
  rename Fr _ _ _ _ => F18
  rename News _ _ _ _ => N18
  obtain ⟨cut, ecut, hc1, hc2⟩ := cut_is ns n hn3.1
  rw [ecut] at F18 ⊢
  have slu := pick_upto tvs (y := (cut : Int)) (by omega)
  have slf := pick_from tvs (x := (cut : Int)) (by omega)
  rw [Int.toNat_natCast] at slu slf
  k_dflt (refine' kmk_slice_lit ?yF ?yN ?yl ?yp ?yq slu ?_ ?ys ?yt ?yz)
  case yF => exact F18
  case yN => exact N18
  case yl => exact PySem.IsL.isList (n := _) (N18 _ (.tail _ (.tail _ (.tail _ (.head _))))).1
  case yp => exact IsPart.none
  case yq => exact IsPart.int _ _
  case ys => with_unfolding_all rfl
  case yt => kmk_pure
  case yz => rw [List.size_toArray, sizeLine_eq]; omega
  intro DA h19 F19 N19 l19
  k_steps
  unfold Held
  refine tuple_ofL F19 N19 (PySem.IsL.isList (n := _) (N19 _ (.head _)).1) (fun DU h20 F20 N20 _ => ?_) (by rw [List.length_take, sizeLine_eq]; omega)
  k_steps
  unfold Held
  have htk : (tvs.take cut).map st = (txs (CS.take cut)).map sv := by
    have z := congrArg (List.take cut) htv
    simpa [txs, List.map_take] using z
  have hdk : (tvs.drop cut).map st = (txs (CS.drop cut)).map sv := by
    have z := congrArg (List.drop cut) htv
    simpa [txs, List.map_drop] using z
  rename Fr _ _ _ _ => F20
  rename News _ _ _ _ => N20
  refine natpos_call F20 N20 X T rfl (by decide) (by decide) (T' := "tuple") (.head _) (.inr rfl) rfl rfl htk (keysOk (gCS.take cut) back) (by rw [List.length_take]; omega) (by rw [List.length_take]; omega) (fun DL cL q h21 tk21 F21 N21 d21 hq => ?_)
  rw [placed_out (gCS.take cut) back (by rw [List.length_take, List.length_take, hlt, hCS]) hq] at N21
  replace N21 := News.cut (a := [_, _]) N21
  clear hq q d21 l19
  k_steps
  unfold Held
  rename Fr _ _ _ _ => F22
  rename News _ _ _ _ => N22
  k_dflt (refine' kmk_slice_lit ?xF ?xN ?xl ?xp ?xq slf ?_ ?xs ?xt ?xz)
  case xF => exact F22
  case xN => exact N22
  case xl => exact PySem.IsL.isList (n := _) (N22 _ (.tail _ (.tail _ (.tail _ (.tail _ (.head _)))))).1
  case xp => exact IsPart.int _ _
  case xq => exact IsPart.none
  case xs => with_unfolding_all rfl
  case xt => kmk_pure
  case xz => rw [List.size_toArray, sizeLine_eq]; omega
  intro DA h23 F23 N23 l23
  k_steps
  unfold Held
  rename Fr _ _ _ _ => F24
  rename News _ _ _ _ => N24
  refine natpos_call F24 N24 X T rfl (by decide) (by decide) (T' := "list") (.head _) (.inl rfl) rfl rfl hdk (keysOk (gCS.drop cut) back) (by rw [List.length_drop]; omega) (by rw [List.length_drop]; omega) (fun DX cX q h25 tk25 F25 N25 d25 hq => ?_)
  rw [placed_out (gCS.drop cut) back (by rw [List.length_drop, List.length_drop, hlt, hCS]) hq] at N25
  replace N25 := News.cut (a := [_]) N25
  clear hq q d25 l23
  k_steps
  unfold Held
  rename Fr _ _ _ _ => F26
  rename News _ _ _ _ => N26
  have epl := pick_texts (cs := CS.take cut) (b := back) htk
  have epd := pick_texts (cs := CS.drop cut) (b := back) hdk
  have sl1 : (sortT (CS.take cut) back).length = cut := by unfold sortT; rw [List.length_map, outF_len, List.length_take]; omega
  have sl2 : (sortT (CS.drop cut) back).length = n + 1 - cut := by unfold sortT; rw [List.length_map, outF_len, List.length_drop]; omega
  replace N26 := fun p hp => N26 p (.tail _ hp)
  replace N26 : News B L _ _ := N26
  refine merged_call F26 N26 X T rfl (by decide) (by decide) (.tail _ (.head _)) (.head _) (.tail _ (.tail _ (.tail _ (.tail _ (.tail _ (.tail _ (.head _))))))) (.tail _ (.tail _ (.tail _ (.tail _ (.tail _ (.head _))))))
    (hrec4 _ (fun p hp => (N26 p (by simp [hp])).1)) epl epd htv (by simp [txs]) (fun x hx => List.mem_map.mpr (by obtain ⟨c, h1, h2⟩ := List.mem_map.mp (sortT_mem x hx); exact ⟨c, List.mem_of_mem_take h1, h2⟩))
    (fun x hx => List.mem_map.mpr (by obtain ⟨c, h1, h2⟩ := List.mem_map.mp (sortT_mem x hx); exact ⟨c, List.mem_of_mem_drop h1, h2⟩)) (by omega) (by omega) (fun DM mvs cM h27 tk27 F27 N27 d27 em => ?_)
  rw [merged_out gCS back cut (by omega)] at em
  k_steps
  unfold Held
  refine eq_lists (by decide) (N27 _ (.head _)).1 (N27 _ (.tail _ (.tail _ (.tail _ (.head _))))).1 (compat_strs em epk) ?_
  rw [decide_eq_true (em.trans epk.symm)]
  replace N27 : News B L _ _ := fun p hp => N27 p (.tail _ (.tail _ (.tail _ hp)))
  clear d27
  k_steps
  unfold Held
  rename Fr _ _ _ _ => F28
  rename News _ _ _ _ => N28
  refine LCg.ListComp_U (F₀ := F28) (by with_unfolding_all rfl) (by decide) (by rfl) (by decide) (by rfl) ?_
  k_steps
  unfold Held
  rename IsRange _ _ _ _ _ _ _ _ => R28
  rename Fr _ _ _ _ => F28
  rename News _ _ _ _ => N28
  refine src_range (n := n + 1) (fun i out news => news = _ ∧ out.map st = (sgnL i).map sv) (by rw [hlt]) rfl F28 N28 R28 (by omega) ⟨rfl, rfl⟩ ?_ ?_
  · rintro i out _ t I oI C oC D m₂ h tk E' hi' ⟨rfl, hout⟩ hC hx F N off ne
    show wpAny _ _ _ _ _ _
    k_fold
    k_steps
    rename Fr _ _ _ _ => F9
    rename News _ _ _ _ => N9
    unfold Held
    refine cend [_, _, _, _, _, _, _, _, _, _] F9 N9 QOk.nil off trivial ⟨rfl, ?_⟩
    rw [List.map_append, hout, sgnL_succ, List.map_append, ← sgn_eq i (by omega)]
    rfl
  rintro g svs _ ⟨rfl, hsv⟩
  intro DS h29 tk29 F29 N29 o29
  have hneS := off1_all o29
  have nW2 : NeA DW (L + 1 + 1) := neA_of d15 (by k_mem)
  have nW8 : NeA DW 88 := neA_of d15 (by k_mem)
  have nP2 : NeA DP (L + 1 + 1) := neA_of d13 (by k_mem)
  have nP8 : NeA DP 88 := neA_of d13 (by k_mem)
  have nG2 : NeA DG (L + 1 + 1) := neA_of (fun p hp => Nat.ne_of_lt (l8 p hp)) (by k_mem)
  have nG8 : NeA DG 88 := neA_of (fun p hp => Nat.ne_of_lt (l8 p hp)) (by k_mem)
  have nT2 : NeA DT (L + 1 + 1) := neA_of hne6 (by k_mem)
  have nT8 : NeA DT 88 := neA_of hne6 (by k_mem)
  have nR2 : NeA DR (L + 1 + 1) := neA_of hne (by k_mem)
  have nR8 : NeA DR 88 := neA_of hne (by k_mem)
  have nS2 : NeA DS (L + 1 + 1) := neA_of hneS (by k_mem)
  have nS8 : NeA DS 88 := neA_of hneS (by k_mem)
  k_steps
  unfold Held
  rename Fr _ _ _ _ => F30
  rename News _ _ _ _ => N30
  have hls : svs.length = n + 1 := by simpa [sgnL] using congrArg List.length hsv
  refine natkey_call F30 N30 X T C1 rfl (by decide) (by decide) (l := DS) (vs := svs) (xs := txs CS) (by k_mem) (by k_mem) (.head _) ⟨_, _, _, _, rfl⟩ (by rw [hls]; simp [txs, hCS]) (keysOk gCS back) (by omega) (by omega) ?_ ?_
  · intro i v x hvi hxi s2 Q2 E2 k2 hs2 ret2
    have hi7 : i < n + 1 := by
      rcases Nat.lt_or_ge i (n + 1) with q | q
      · exact q
      · rw [List.getElem?_eq_none (by omega)] at hvi; cases hvi
    have zT := N30 (L + 1 + 1 + 1, oT) (by k_mem)
    have zU := N30 (DT, LObj tvs tvs.length) (by k_mem)
    have z2 := N30 (24, tabObj #[]) (by k_mem)
    have zf := N30 _ (.head _)
    have zc := N30 _ (.tail _ (.head _))
    have kB : Kp B s2.heap := fun b o e => k2 _ _ (by
      rw [PySem.Heap.hide_ne _ (fun q => by rw [q, z2.2.2] at e; cases e)]; exact F30.keep _ _ e)
    have gT := off_hide' k2 zT.1 (by omega)
    have gU := off_hide z2.1 k2 zU.1 (fun q => by cases q)
    have gf := off_hide z2.1 k2 zf.1 (fun q => by cases q)
    have gc := off_hide' k2 zc.1 (by dsimp only; omega)
    have hab : (L + 1 + 1 + 1 : Addr) ≠ DT := fun q => by
      have z := gT
      rw [q] at z
      have z3 : oT = LObj tvs tvs.length := Option.some.inj (z.symm.trans gU)
      rw [z3] at dT
      cases dT
    have kBB := two_in kB zT.2.2 zU.2.2
    have X2 := X.keeps kBB
    have T2 := T.keeps kBB
    refine' enterE (B := (s2.heap.hide (L + 1 + 1 + 1)).hide DT) (d := 450) (u := 1500) (ex := [(L + 1 + 1 + 1, oT), (DT, LObj tvs tvs.length)]) two_of (Nat.le_of_eq two_size) ?yB T2 gf ⟨_, _, _, _, rfl, gc, by assumption, by assumption⟩ ?yC ?yD ?yE ?yF ?yG ?yH ?yI ?yJ
    case yB =>
      intro p hp
      rcases List.mem_cons.mp hp with rfl | hp
      · exact ⟨gT, (two_none hab).1⟩
      · rw [List.mem_singleton.mp hp]; exact ⟨gU, (two_none hab).2⟩
    case yC => decide
    case yD => exact BindsTo.of_eq rfl
    case yE => exact locs rfl
    case yG => decide
    case yH => exact rfl
    case yI => exact rfl
    case yJ => exact rfl
    intro L2 h32 tk32 hL2 F32 N32 K32
    obtain ⟨ts, its⟩ := it_sgn hsv hi7
    have ev : v = .str (sgn i) ts := Option.some.inj (hvi.symm.trans its)
    subst ev
    have htl : (txs CS).length = n + 1 := by simp [txs, hCS]
    obtain ⟨tx, itx⟩ := item_s htv (i := i) (by omega)
    have ex : (txs CS)[i]'(by omega) = x := by
      rw [List.getElem?_eq_getElem (by omega)] at hxi
      exact Option.some.inj hxi
    rw [ex] at itx
    clear its hvi hxi ex
    have hi8 : i = 0 ∨ i = 1 ∨ i = 2 ∨ i = 3 ∨ i = 4 ∨ i = 5 ∨ i = 6 := by omega
    rcases hi8 with rfl | rfl | rfl | rfl | rfl | rfl | rfl
    · replace itx : ItAt tvs 0 (.str x tx) := itx
      clear F30 N30
      k_steps
      rename Fr _ _ _ _ => F33
      rename News _ _ _ _ => N33
      exact ret2 _ _ _ (two_kp F33 N33 gT gU)
    · replace itx : ItAt tvs 1 (.str x tx) := itx
      clear F30 N30
      k_steps
      rename Fr _ _ _ _ => F33
      rename News _ _ _ _ => N33
      exact ret2 _ _ _ (two_kp F33 N33 gT gU)
    · replace itx : ItAt tvs 2 (.str x tx) := itx
      clear F30 N30
      k_steps
      rename Fr _ _ _ _ => F33
      rename News _ _ _ _ => N33
      exact ret2 _ _ _ (two_kp F33 N33 gT gU)
    · replace itx : ItAt tvs 3 (.str x tx) := itx
      clear F30 N30
      k_steps
      rename Fr _ _ _ _ => F33
      rename News _ _ _ _ => N33
      exact ret2 _ _ _ (two_kp F33 N33 gT gU)
    · replace itx : ItAt tvs 4 (.str x tx) := itx
      clear F30 N30
      k_steps
      rename Fr _ _ _ _ => F33
      rename News _ _ _ _ => N33
      exact ret2 _ _ _ (two_kp F33 N33 gT gU)
    · replace itx : ItAt tvs 5 (.str x tx) := itx
      clear F30 N30
      k_steps
      rename Fr _ _ _ _ => F33
      rename News _ _ _ _ => N33
      exact ret2 _ _ _ (two_kp F33 N33 gT gU)
    · replace itx : ItAt tvs 6 (.str x tx) := itx
      clear F30 N30
      k_steps
      rename Fr _ _ _ _ => F33
      rename News _ _ _ _ => N33
      exact ret2 _ _ _ (two_kp F33 N33 gT gU)
  · intro DO cO q h31 tk31 F31 N31 zD z24 hq
    obtain ⟨ps, z24⟩ := z24
    rw [placed_out gCS back (by rw [hls, hCS]) hq] at zD
    have N32 : News B L h31 ((DO, LObj (pick CS back svs) cO) :: (DS, LCg.lst svs) :: (DP, LObj pvs cP) :: (DG, LObj tvs cG) :: (DT, LObj tvs tvs.length) :: (DR, LObj rvs _) :: (L + 1 + 1 + 1, oT) :: (L + 1 + 1, _) :: (24, tabObj ps) :: (88, _) :: own) :=
      News.cons zD (News.cons (N31 _ (by k_mem) (ne_tab N30 (by k_mem) (by k_mem) (fun q => by cases q))) (News.cons (N31 _ (by k_mem) (ne_tab N30 (by k_mem) (by k_mem) (fun q => by cases q)))
      (News.cons (N31 _ (by k_mem) (ne_tab N30 (by k_mem) (by k_mem) (fun q => by cases q))) (News.cons (N31 _ (by k_mem) (ne_tab N30 (by k_mem) (by k_mem) (fun q => by cases q))) (News.cons (N31 _ (by k_mem) (ne_tab N30 (by k_mem) (by k_mem) (fun q => by cases q)))
      (News.cons (N31 _ (by k_mem) (neN (by dsimp only; omega))) (News.cons (N31 _ (by k_mem) (neN (by dsimp only; omega))) (News.cons z24 (News.cons (N31 _ (by k_mem) (neN (by dsimp only; omega))) (fun p hp => N31 p (by simp [hp]) (hoff p hp).2.2.2.1))))))))))
    clear N31 F30 N30 zD z24 hq q
    rename_i hcl
    k_steps
    unfold Held
    rename Fr _ _ _ _ => F33
    rename News _ _ _ _ => N33
    refine LCg.ListComp_U (F₀ := F33) (by with_unfolding_all rfl) (by decide) (by rfl) (by decide) (by rfl) ?_
    k_steps
    unfold Held
    rename Fr _ _ _ _ => F33
    rename News _ _ _ _ => N33
    have hplen : pvs.length = n + 1 := by rw [i13.length, outF_len, hCS]
    refine src_ledger (n := n + 1) (fun i out news => news = _ ∧ out = ((outF CS back (n + 1)).take i).map fun p => svs.getD p.toNat .none) hplen rfl F33 N33 (.tail _ (.tail _ (.head _))) (by omega) ⟨rfl, rfl⟩ ?_ ?_
    · rintro i out _ v I oI C oC D m₂ h tk E' hi' ⟨rfl, rfl⟩ hv hC hx F N off ne
      obtain ⟨hi2, t2, rfl⟩ := ints_get i13 hv
      have hpr := hrg _ (List.getElem_mem hi2)
      have itp := it_getD (vs := svs) (p := (outF CS back (n + 1))[i]) (by omega)
      have etk : (outF CS back (n + 1)).take (i + 1) = (outF CS back (n + 1)).take i ++ [(outF CS back (n + 1))[i]] := List.take_succ_eq_append_getElem hi2
      generalize (outF CS back (n + 1))[i] = p at *
      show wpAny _ _ _ _ _ _
      k_fold
      k_steps
      unfold Held
      refine cend [_, _, _, _, _, _, _, _, _, _] F N QOk.nil off (.inr ⟨_, .tail _ (.tail _ (.head _)), rfl, _, rfl⟩) ⟨rfl, ?_⟩
      rw [etk, List.map_append]; rfl
    rintro g zvs _ ⟨rfl, rfl⟩
    intro DZ h34 tk34 F34 N34 o34
    rw [List.take_of_length_le (by rw [outF_len, hCS]; exact Nat.le_refl _)] at N34
    have epick : ((outF CS back (n + 1)).map fun p => svs.getD p.toNat .none) = pick CS back svs := by unfold pick; rw [hCS]
    rw [epick] at N34
    k_steps
    unfold Held
    have cpk := compat_pick (cs := CS) (b := back) (by rw [hls, hCS]) hsv
    refine eq_lists (by decide) (N34 _ (.tail _ (.head _))).1 (N34 _ (.head _)).1 cpk ?_
    rw [decide_eq_true rfl]
    replace N34 : News B L _ _ := fun p hp => N34 p (.tail _ (.tail _ hp))
    clear epick
    k_steps
    unfold Held
    rename Fr _ _ _ _ => F35
    rename News _ _ _ _ => N35
    refine counted_call F35 N35 X T rfl (by decide) (by decide) (vs := rvs.reverse) (cs := CS.reverse) ⟨PySem.IsL.isList (n := _) (N35 _ (.head _)).1, by simp [hlr, hCS], by simp [hCS]; omega⟩ (recs_rev (hrec4 _ (fun p hp => (N35 p (by simp [hp])).1))) (fun DQ qvs cQ h36 tk36 F36 N36 d36 i36 => ?_)
    replace N36 := News.cut (a := [_]) N36
    rw [List.length_reverse, hCS] at i36
    clear d36
    k_steps
    unfold Held
    rename Fr _ _ _ _ => F37
    rename News _ _ _ _ => N37
    refine krv_reversed F37 N37 (vs := tvs) (PySem.IsL.isList (n := _) (N37 (DT, LObj tvs tvs.length) (by k_mem)).1) (fun DI h38 F38 N38 l38 => ?_)
    have htr : tvs.reverse.map st = (txs CS.reverse).map sv := by
      have z := congrArg List.reverse htv
      simpa [txs, List.map_reverse] using z
    have hCR : CS.reverse.length = n + 1 := by rw [List.length_reverse, hCS]
    have hlR : tvs.reverse.length = n + 1 := by rw [List.length_reverse, hlt]
    clear F37 N37
    k_steps
    unfold Held
    rename Fr _ _ _ _ => F38
    rename News _ _ _ _ => N38
    refine natrevit_call F38 N38 X T rfl (by decide) (by decide) (l := DT) (vs := tvs) (xs := txs CS.reverse) rfl (fun p hp => Nat.ne_of_lt (l38 p hp)) (by k_mem) htr (keysOk gCS.reverse _) (by omega) (by omega) (fun DV cV q h39 tk39 F39 N39 d39 hq => ?_)
    rw [placed_out gCS.reverse _ (by rw [hlR, hCR]) hq] at N39
    clear F38 N38 hq q d39 l38
    k_steps
    unfold Held
    rename Fr _ _ _ _ => F40
    rename News _ _ _ _ => N40
    refine LCg.ListComp_U (F₀ := F40) (by with_unfolding_all rfl) (by decide) (by rfl) (by decide) (by rfl) ?_
    k_steps
    unfold Held
    rename Fr _ _ _ _ => F40
    rename News _ _ _ _ => N40
    have hqlen : qvs.length = n + 1 := by rw [i36.length, outF_len, hCR]
    have hrgR := outF_range (cs := CS.reverse) (b := !back)
    rw [hCR] at hrgR
    refine src_ledger (n := n + 1) (fun i out news => news = _ ∧ out = ((outF CS.reverse (!back) (n + 1)).take i).map fun p => tvs.reverse.getD p.toNat .none) hqlen rfl F40 N40 (.tail _ (.head _)) (by omega) ⟨rfl, rfl⟩ ?_ ?_
    · rintro i out _ v I oI C oC D m₂ h tk E' hi' ⟨rfl, rfl⟩ hv hC hx F N off ne
      obtain ⟨hi2, t2, rfl⟩ := ints_get i36 hv
      have hpr := hrgR _ (List.getElem_mem hi2)
      have itp := it_getD (vs := tvs.reverse) (p := (outF CS.reverse (!back) (n + 1))[i]) (by omega)
      have etk : (outF CS.reverse (!back) (n + 1)).take (i + 1) = (outF CS.reverse (!back) (n + 1)).take i ++ [(outF CS.reverse (!back) (n + 1))[i]] := List.take_succ_eq_append_getElem hi2
      generalize (outF CS.reverse (!back) (n + 1))[i] = p at *
      show wpAny _ _ _ _ _ _
      k_fold
      k_steps
      rename Fr _ _ _ _ => F9
      rename News _ _ _ _ => N9
      unfold Held
      refine cend [_, _, _, _, _, _, _, _, _, _] F9 (fun p hp => N9 p (.tail _ hp)) QOk.nil off (.inr ⟨_, .tail _ (.head _), rfl, _, rfl⟩) ⟨rfl, ?_⟩
      rw [etk, List.map_append]; rfl
    rintro g zvs _ ⟨rfl, rfl⟩
    intro DZ h41 tk41 F41 N41 o41
    rw [List.take_of_length_le (by rw [outF_len, hCR]; exact Nat.le_refl _)] at N41
    have epick : ((outF CS.reverse (!back) (n + 1)).map fun p => tvs.reverse.getD p.toNat .none) = pick CS.reverse (!back) tvs.reverse := by unfold pick; rw [hCR]
    rw [epick] at N41
    k_steps
    unfold Held
    have cpk := compat_pick (cs := CS.reverse) (b := !back) (by rw [hlR, hCR]) htr
    refine eq_lists (by decide) (N41 _ (.tail _ (.head _))).1 (N41 _ (.head _)).1 cpk ?_
    rw [decide_eq_true rfl]
    replace N41 : News B L _ _ := fun p hp => N41 p (.tail _ (.tail _ hp))
    clear epick
    k_steps
    unfold Held
    rename Fr _ _ _ _ => F42
    rename News _ _ _ _ => N42
    refine eq_lists (by decide) (N42 (DT, LObj tvs tvs.length) (by k_mem)).1 (N42 (DG, LObj tvs cG) (by k_mem)).1 (compat_strs htv htv) ?_
    rw [decide_eq_true rfl]
    k_steps
    all_goals (try k_data))
end Mine

set_option maxHeartbeats 8000000 in
theorem PySem.Challenge.cw_fe0146_01_holds : PySem.Challenge.rw_fe0146_01.Holds := by
  exact Mine.final
