import PyProof.Rows.All
import Wide.All
import OpenK.AllK
import Wide.FinOn
import PyProof.AttrMissHeap
import PyProof.IsiStr
import Lean
import PySem.Challenge.RW_wu0074_01
open PySem PySem.W PyProof.Rows PySem.Calls
set_option Elab.async false
set_option maxRecDepth 100000
set_option maxHeartbeats 8000000
set_option pp.deepTerms false
namespace Mine
def pick : List Nat → List Stmt → List Stmt
  | [], _ => []
  | i :: r, l => match l[i]? with
    | some x => x :: pick r l
    | none => pick r l
noncomputable def view : Program := { PySem.Challenge.pw_wu0074_01 with main := { PySem.Challenge.pw_wu0074_01.main with body := pick [6, 7, 8, 9, 11, 13, 14, 15, 16, 17, 18, 20, 21, 22, 23, 24, 25, 26] PySem.Challenge.pw_wu0074_01.main.body } }
set_option hygiene false in
local macro_rules | `(tactic| o_head $H) => `(tactic| (
  refine holds_open (q := Mine.view) (loose := [Str.ofString "insort_right", Str.ofString "bisect_right", Str.ofString "insort_left", Str.ofString "bisect_left"]) (Xt := fun s => xlAt Mine.view [] s && recOk (PySem.Challenge.rw_wu0074_01.row).records s) (XP := XL Mine.view []) (Yf := Hook.obs $H) (Ya := Hook.val $H) (YP := Hook.says $H) (N := 1650) ?hl (Hook.of $H) (Hook.keeps $H) (fun s e => xl_of s (Bool.and_eq_true_iff.mp e).1) XL.keeps (by rfl) (by rfl) (by rfl) (fun s e => recFacts_of (Bool.and_eq_true_iff.mp e).2) (by rfl) (by first | assumption | decide +kernel) (by decide +kernel) ⟨rfl, rfl, rfl, rfl, rfl, by decide +kernel⟩ ?hw ?hc
  (case hl => (intro w; kernel_rfl))))
local macro_rules | `(tactic| o_law) => `(tactic| (refine holds_law (by kernel_rfl) fun said => ?_))
open_top hd for PySem.Challenge.rw_wu0074_01
end Mine

open PySem PySem.W PyProof.Rows PySem.Calls
set_option Elab.async false
set_option maxRecDepth 100000
set_option maxHeartbeats 4000000
namespace Mine
noncomputable abbrev looseN : List Str := looseW Mine.view [Str.ofString "insort_right", Str.ofString "bisect_right", Str.ofString "insort_left", Str.ofString "bisect_left"]
abbrev TT (mean : ExcName → Option Value) (mg mb : Str → Option Value) (h : Heap) : Prop := Top Mine.view (looseW Mine.view [Str.ofString "insort_right", Str.ofString "bisect_right", Str.ofString "insort_left", Str.ofString "bisect_left"]) mean mg mb h
theorem room0 {n c R : Nat} (h : n + c < R) : n < R := Nat.lt_of_le_of_lt (Nat.le_add_right _ _) h
theorem room1 {n a c R : Nat} (h : n + c < R) (e : Nat.ble a c = true) : n + a < R := Nat.lt_of_le_of_lt (Nat.add_le_add_left (Nat.le_of_ble_eq_true e) n) h
theorem room2 {n a b c R : Nat} (h : n + c < R) (e : Nat.ble (a + b) c = true) : n + a + b < R := by rw [Nat.add_assoc]; exact room1 h e
theorem room3 {n a b d c R : Nat} (h : n + c < R) (e : Nat.ble (a + (b + d)) c = true) : n + a + b + d < R := by rw [Nat.add_assoc, Nat.add_assoc]; exact room1 h e
theorem ne_up {a b c : Nat} (h : a < b) : a ≠ b + c := Nat.ne_of_lt (Nat.lt_of_lt_of_le h (Nat.le_add_right _ _))
theorem ne_up' {a b c : Nat} (h : a < b) : b + c ≠ a := Ne.symm (ne_up h)
theorem ne_lt_le {a b c : Nat} (h : a < b) (h' : b ≤ c) : a ≠ c := Nat.ne_of_lt (Nat.lt_of_lt_of_le h h')
theorem ne_lt_le' {a b c : Nat} (h : a < b) (h' : b ≤ c) : c ≠ a := Ne.symm (ne_lt_le h h')
theorem ne_le_lt {a b c : Nat} (h : a ≤ b) (h' : b < c) : a ≠ c := Nat.ne_of_lt (Nat.lt_of_le_of_lt h h')
theorem ne_le_lt' {a b c : Nat} (h : a ≤ b) (h' : b < c) : c ≠ a := Ne.symm (ne_le_lt h h')
theorem le_lt_up {a b c d : Nat} (h : b < c) (h' : a ≤ b) : a ≤ c + d := Nat.le_trans (Nat.le_of_lt (Nat.lt_of_le_of_lt h' h)) (Nat.le_add_right _ _)
theorem le_lt_le {a b c : Nat} (h : b < c) (h' : a ≤ b) : a ≤ c := Nat.le_of_lt (Nat.lt_of_le_of_lt h' h)
/-- every object stays -/
abbrev Ext (h h' : Heap) : Prop := ∀ b o, h.get? b = some o → h'.get? b = some o

/-- the place of a call: who calls, at which heap -/
inductive Cx (w : World) (mean : ExcName → Option Value) (mg mb : Str → Option Value) : Around → Heap → Prop
  | mk {dp un : Nat} {gd : Option (List Code)} {cn : Str} {cs : Scope} {a : Addr} {ccd : Value} {cl : List (Str × Addr)} {outer : List Env} {A₀ : Around} {base h₀ h : Heap} {L : Addr} {m : Str → Option Value} :
    Below A₀ base outer h₀ → Fr h₀ L h m → (Mine.hd.heap_1 w.params).In h₀ → TT mean mg mb h₀ → cs.kind = .function →
    Cx w mean mg mb (ktrTop dp un gd cn cs L a ccd cl outer) h

section
variable {prog : Program} {w : World} {A A₀ : Around} {s : Shared} {K : Frag} {L : Addr} {h₀ base : Heap} {m mg mb : Str → Option Value} {p : Program} {loose : List Str} {mean : ExcName → Option Value}
theorem enterP {env : Env} {outer : List Env} {R : Result → Shared → Prop} {name qual : Str} {params : Arguments} {body : List Stmt} {scope : Scope} {dV kV doc pm cdv ct oc : Value} {an od : Option Addr} {osl : Array (Option Value)} {f : Addr} {args : Args} {binds : List (Str × Value)}
    (B : Below A₀ base outer h₀) (F : Fr h₀ L s.heap m) (X₀ : K.In h₀) (T : Top p loose mean mg mb h₀) (hA : A.frames = some (env :: outer)) (hf : env.frame = some L) (hke : env.scope.kind = .function)
    (ho : K.lookup f = some ⟨oc, od, .func (fnOf name qual params body scope dV kV doc pm an cdv ct), osl⟩) (hcd : codeIn K cdv qual = true) (hroom : A.depth < recursionLimit)
    (hbind : BindsTo s (fnOf name qual params body scope dV kV doc pm an cdv ct) args binds) (hloc : ∀ y ∈ binds, scope.names.lookup y.1 = some .local)
    (h : ∀ L' h₁, Fr s.heap L' h₁ (fun y => binds.reverse.lookup y) → News s.heap L' h₁ [] → Below A base (env :: outer) s.heap → K.In s.heap → Top p loose mean mg mb s.heap →
      wpAny (model prog w) (A.deeper (envOf qual scope L' f cdv)) (execs body (envOf qual scope L' f cdv))
        (fun fl s' => R (.ok (.ret (match fl with | .ret v => v | _ => .none))) s') (fun _ _ => False)
        { s with heap := h₁, toks := s.toks + binds.length })
    (hco : scope.isCoroutine = false) (hgen : scope.isGenerator = false) (hk : scope.kind = .function)
    (hcell : ∀ x ∈ scope.names, x.2 ≠ .cell) : codeAny (model prog w) A (.call (.ref f) args) R s := by
  obtain ⟨_, BG, _, _⟩ := groundX (R := R) B F (News.nil) hA hf hke
  have BG' : Below A base (env :: outer) s.heap := BG
  refine codeAny_call_def (fd := fnOf name qual params body scope dV kV doc pm an cdv ct) (body := body) (binds := binds) hroom ((X₀.keeps F.keep) _ _ ho) rfl (T.nolimit.keeps F.keep) (codeRec_of (X₀.keeps F.keep) hcd) rfl hbind hcell hloc (fun h₁ hns hk₁ => ?_) hco hgen hk
  exact wpAny_mono (h s.heap.objs.size h₁ ⟨hns, hk₁, Nat.le_refl _⟩ News.nil BG' (X₀.keeps F.keep) (T.keeps F.keep)) (fun _ _ x => x) fun _ _ x => x.elim
end
end Mine

open PySem PySem.W PyProof.Rows PySem.Calls
set_option Elab.async false
set_option maxRecDepth 100000
set_option maxHeartbeats 40000000
set_option pp.deepTerms false
local macro_rules | `(tactic| ktr_room) => `(tactic| first | exact Mine.room0 (by assumption) | exact Mine.room2 (by assumption) rfl | exact Mine.room1 (by assumption) rfl | exact Mine.room3 (by assumption) rfl | fail)
local macro_rules | `(tactic| ktr_units) => `(tactic| first | exact Mine.room0 (by assumption) | exact Mine.room2 (by assumption) rfl | exact Mine.room1 (by assumption) rfl | exact Mine.room3 (by assumption) rfl | fail)
local macro_rules | `(tactic| omega) => `(tactic| first | exact Nat.ne_of_lt (by with_reducible assumption) | exact Nat.ne_of_gt (by with_reducible assumption) | exact Mine.ne_up (by with_reducible assumption) | exact Mine.ne_up' (by with_reducible assumption) | exact Mine.ne_lt_le (by with_reducible assumption) (by with_reducible assumption) | exact Mine.ne_lt_le' (by with_reducible assumption) (by with_reducible assumption) | exact Mine.ne_le_lt (by with_reducible assumption) (by with_reducible assumption) | exact Mine.ne_le_lt' (by with_reducible assumption) (by with_reducible assumption) | exact Mine.le_lt_up (by with_reducible assumption) (by with_reducible assumption) | exact Mine.le_lt_le (by with_reducible assumption) (by with_reducible assumption) | exact Nat.le_of_ble_eq_true rfl | exact And.left (by with_reducible assumption) | exact And.left (And.right (by with_reducible assumption)) | exact And.right (And.right (by with_reducible assumption)) | exact And.right (by with_reducible assumption) | exact Mine.room2 (by with_reducible assumption) rfl | exact Mine.room0 (by with_reducible assumption) | fail)
example : PySem.Challenge.rw_wu0074_01.Holds → ∀ p hh, (Mine.hd.heap_1 p).In hh → True := by
  k_fill
  intros; trivial
-- part Simple


namespace Mine
section
variable {prog : Program} {w : World} {mean : ExcName → Option Value} {mg mb : Str → Option Value} {A : Around} {s : Shared} {Q E : Value → Shared → Prop}
/-- an item of a list, as a step of the walk -/
theorem itemList {prog : Program} {value slice : PySem.Expr} {l : Addr} {vs : List Value} {k : Int} {u : Tok} {v : Value}
    (hl : s.heap.IsList l vs.toArray) (h0 : 0 ≤ k) (hhi : k < 2 ^ 62) (hx : vs[k.toNat]? = some v) (h : Q v s)
    (hs : subscripted slice false (.ref l) (.int k u) = operate [.ref l, .int k u] (getItem (.ref l) (.int k u)) := by with_unfolding_all rfl) :
    wpAny (model prog w) A (subscriptTail value slice (.ref l) (.int k u)) Q E s :=
  tail_any hl.typeIs slot_list_getitem.lookup (wpAny_getItem_list hl h0 (by omega) (by simpa using hx) h) hs

theorem getitem_call (C : Cx w mean mg mb A s.heap) (hd : A.depth + 5 < recursionLimit) (hu : A.units + 50 < cLine) {x : Value} {l : Addr} {vs : List Value} {k : Int} {t : Tok}
    (hl : s.heap.IsList l vs.toArray) (h0 : 0 ≤ k) (h1 : k < 2 ^ 62) (hv : vs[k.toNat]? = some x) (hQ : ∀ h' tk, Ext s.heap h' → Q x { s with heap := h', toks := tk }) :
    wpAny (model prog w) A (call (.ref 120) [.ref l, .int k t]) Q E s := by
  obtain ⟨B, F, X, T, hk⟩ := C
  refine wpAny_call ?_
  (refine' enterP ?k1 ?k2 ?k3 ?k5 ?kA ?kF ?kK ?k6 ?k7 ?k8 ?k9 ?kB ?_ ?c2 ?c3 ?c4 ?c5; (case kA => exact rfl); (case kF => exact rfl); (case kK => assumption); (case k1 => assumption); (case k2 => assumption); (case k3 => assumption); (case k5 => assumption); (case k6 => k_is); (case k7 => k_is); (case k8 => ktr_room); (case k9 => first | exact BindsTo.of_eq rfl | (refine' kp_binds ?kx ?ke; (case kx => k_in); (case ke => exact fun _ => rfl)) | exact binds_K (by k_in) rfl (by k_is) rfl rfl rfl); (case c5 => decide); (case kB => exact locs rfl); (case c2 => exact rfl); (case c3 => exact rfl); (case c4 => exact rfl); k_whole; intro L' h' F' N' B' X' T'; (try dsimp only); (try k_fold))
  k_steps
  refine itemList (F'.lst hl) h0 h1 hv ?_
  k_steps
  exact hQ _ _ F'.keep

theorem add_call (C : Cx w mean mg mb A s.heap) (hd : A.depth + 5 < recursionLimit) (hu : A.units + 50 < cLine) {x y : Int} {t u : Tok} 
    (hQ : ∀ h' tk r, Ext s.heap h' → Q (.int (x + y) r) { s with heap := h', toks := tk }) :
    wpAny (model prog w) A (call (.ref 99) [.int x t, .int y u]) Q E s := by
  obtain ⟨B, F, X, T, hk⟩ := C
  refine wpAny_call ?_
  (refine' enterP ?k1 ?k2 ?k3 ?k5 ?kA ?kF ?kK ?k6 ?k7 ?k8 ?k9 ?kB ?_ ?c2 ?c3 ?c4 ?c5; (case kA => exact rfl); (case kF => exact rfl); (case kK => assumption); (case k1 => assumption); (case k2 => assumption); (case k3 => assumption); (case k5 => assumption); (case k6 => k_is); (case k7 => k_is); (case k8 => ktr_room); (case k9 => first | exact BindsTo.of_eq rfl | (refine' kp_binds ?kx ?ke; (case kx => k_in); (case ke => exact fun _ => rfl)) | exact binds_K (by k_in) rfl (by k_is) rfl rfl rfl); (case c5 => decide); (case kB => exact locs rfl); (case c2 => exact rfl); (case c3 => exact rfl); (case c4 => exact rfl); k_whole; intro L' h' F' N' B' X' T'; (try dsimp only); (try k_fold))
  k_steps
  exact hQ _ _ _ F'.keep

theorem eq_call (C : Cx w mean mg mb A s.heap) (hd : A.depth + 5 < recursionLimit) (hu : A.units + 50 < cLine) {x y : Str} {t u : Tok} 
    (hQ : ∀ h' tk, Ext s.heap h' → Q (.bool (x == y)) { s with heap := h', toks := tk }) :
    wpAny (model prog w) A (call (.ref 92) [.str x t, .str y u]) Q E s := by
  obtain ⟨B, F, X, T, hk⟩ := C
  refine wpAny_call ?_
  (refine' enterP ?k1 ?k2 ?k3 ?k5 ?kA ?kF ?kK ?k6 ?k7 ?k8 ?k9 ?kB ?_ ?c2 ?c3 ?c4 ?c5; (case kA => exact rfl); (case kF => exact rfl); (case kK => assumption); (case k1 => assumption); (case k2 => assumption); (case k3 => assumption); (case k5 => assumption); (case k6 => k_is); (case k7 => k_is); (case k8 => ktr_room); (case k9 => first | exact BindsTo.of_eq rfl | (refine' kp_binds ?kx ?ke; (case kx => k_in); (case ke => exact fun _ => rfl)) | exact binds_K (by k_in) rfl (by k_is) rfl rfl rfl); (case c5 => decide); (case kB => exact locs rfl); (case c2 => exact rfl); (case c3 => exact rfl); (case c4 => exact rfl); k_whole; intro L' h' F' N' B' X' T'; (try dsimp only); (try k_fold))
  k_steps
  exact hQ _ _ F'.keep

theorem itemTup {prog : Program} {value slice : PySem.Expr} {l : Addr} {vs : List Value} {k : Int} {u : Tok} {v : Value}
    (hl : IsTup s.heap l vs.toArray) (h0 : 0 ≤ k) (hhi : k < 2 ^ 62) (hx : vs[k.toNat]? = some v) (h : Q v s)
    (hs : subscripted slice false (.ref l) (.int k u) = operate [.ref l, .int k u] (getItem (.ref l) (.int k u)) := by with_unfolding_all rfl) :
    wpAny (model prog w) A (subscriptTail value slice (.ref l) (.int k u)) Q E s := by
  refine tail_any hl.typeIs slot_tuple_getitem.lookup ?_ hs
  have hn : k < vs.length := by
    obtain ⟨h', -⟩ := List.getElem?_eq_some_iff.1 hx
    omega
  refine getItem_tuple hl (by omega) (by omega) (seqIndex_of h0 (by simpa using hn)) (by simpa using hx) h
theorem getitemT_call (C : Cx w mean mg mb A s.heap) (hd : A.depth + 5 < recursionLimit) (hu : A.units + 50 < cLine) {x : Value} {l : Addr} {vs : List Value} {k : Int} {t : Tok}
    (hl : IsTup s.heap l vs.toArray) (h0 : 0 ≤ k) (h1 : k < 2 ^ 62) (hv : vs[k.toNat]? = some x) (hQ : ∀ h' tk, Ext s.heap h' → Q x { s with heap := h', toks := tk }) :
    wpAny (model prog w) A (call (.ref 120) [.ref l, .int k t]) Q E s := by
  obtain ⟨B, F, X, T, hk⟩ := C
  refine wpAny_call ?_
  (refine' enterP ?k1 ?k2 ?k3 ?k5 ?kA ?kF ?kK ?k6 ?k7 ?k8 ?k9 ?kB ?_ ?c2 ?c3 ?c4 ?c5; (case kA => exact rfl); (case kF => exact rfl); (case kK => assumption); (case k1 => assumption); (case k2 => assumption); (case k3 => assumption); (case k5 => assumption); (case k6 => k_is); (case k7 => k_is); (case k8 => ktr_room); (case k9 => first | exact BindsTo.of_eq rfl | (refine' kp_binds ?kx ?ke; (case kx => k_in); (case ke => exact fun _ => rfl)) | exact binds_K (by k_in) rfl (by k_is) rfl rfl rfl); (case c5 => decide); (case kB => exact locs rfl); (case c2 => exact rfl); (case c3 => exact rfl); (case c4 => exact rfl); k_whole; intro L' h' F' N' B' X' T'; (try dsimp only); (try k_fold))
  k_steps
  refine itemTup (F'.tup hl) h0 h1 hv ?_
  k_steps
  exact hQ _ _ F'.keep
theorem height_call (C : Cx w mean mg mb A s.heap) (hd : A.depth + 15 < recursionLimit) (hu : A.units + 90 < cLine) {x : Value} {l : Addr} {vs : List Value} 
    (hl : IsTup s.heap l (x :: vs).toArray)  (hQ : ∀ h' tk, Ext s.heap h' → Q x { s with heap := h', toks := tk }) :
    wpAny (model prog w) A (call (.ref 146) [.ref l]) Q E s := by
  obtain ⟨B, F, X, T, hk⟩ := C
  refine wpAny_call ?_
  (refine' enterP ?k1 ?k2 ?k3 ?k5 ?kA ?kF ?kK ?k6 ?k7 ?k8 ?k9 ?kB ?_ ?c2 ?c3 ?c4 ?c5; (case kA => exact rfl); (case kF => exact rfl); (case kK => assumption); (case k1 => assumption); (case k2 => assumption); (case k3 => assumption); (case k5 => assumption); (case k6 => k_is); (case k7 => k_is); (case k8 => ktr_room); (case k9 => first | exact BindsTo.of_eq rfl | (refine' kp_binds ?kx ?ke; (case kx => k_in); (case ke => exact fun _ => rfl)) | exact binds_K (by k_in) rfl (by k_is) rfl rfl rfl); (case c5 => decide); (case kB => exact locs rfl); (case c2 => exact rfl); (case c3 => exact rfl); (case c4 => exact rfl); k_whole; intro L' h' F' N' B' X' T'; (try dsimp only); (try k_fold))
  k_steps
  refine getitemT_call (Cx.mk B' F' X' T' rfl) (by ktr_room) (by ktr_units) (F'.tup hl) (by decide) (by decide) rfl fun h' tk K' => ?_
  have F' := F'.keeps K'
  k_steps
  exact hQ _ _ F'.keep
end
end Mine

-- part Loops

namespace Mine
/-- the values of a list, item by item -/
def Are {α : Type} (R : α → Value → Prop) (vs : List Value) (as : List α) : Prop := vs.length = as.length ∧ ∀ (i : Nat) a, as[i]? = some a → ∃ v, vs[i]? = some v ∧ R a v
abbrev isInt (n : Int) (v : Value) : Prop := ∃ t, v = .int n t
abbrev isStr (x : Str) (v : Value) : Prop := ∃ t, v = .str x t
theorem Are.nil {α : Type} {R : α → Value → Prop} : Are R [] [] := ⟨rfl, fun i a h => by simp at h⟩
theorem Are.len {α : Type} {R : α → Value → Prop} {vs : List Value} {as : List α} (h : Are R vs as) : vs.length = as.length := h.1
theorem Are.get {α : Type} {R : α → Value → Prop} {vs : List Value} {as : List α} (h : Are R vs as) {i : Nat} (hi : i < as.length) : ∃ v, vs[i]? = some v ∧ R as[i] v := h.2 i _ (by simp [hi])
theorem Are.of {α : Type} {R : α → Value → Prop} {vs : List Value} {as : List α} (h : Are R vs as) {i : Nat} {v : Value} (hv : vs[i]? = some v) : ∃ a, as[i]? = some a ∧ R a v := by
  have hi : i < as.length := by
    have := (List.getElem?_eq_some_iff.mp hv).1
    rw [← h.1]; exact this
  obtain ⟨v', h1, h2⟩ := h.get hi
  rw [hv] at h1; cases h1
  exact ⟨_, by simp [hi], h2⟩
theorem Are.cons {α : Type} {R : α → Value → Prop} {v : Value} {a : α} {vs : List Value} {as : List α} (h : R a v) (r : Are R vs as) : Are R (v :: vs) (a :: as) := by
  refine ⟨by simp [r.1], fun i b hb => ?_⟩
  cases i with
  | zero => simp at hb; subst hb; exact ⟨v, rfl, h⟩
  | succ i => exact r.2 i b (by simpa using hb)
theorem Are.snoc {α : Type} {R : α → Value → Prop} {v : Value} {a : α} {vs : List Value} {as : List α} (r : Are R vs as) (h : R a v) : Are R (vs ++ [v]) (as ++ [a]) := by
  refine ⟨by simp [r.1], fun i b hb => ?_⟩
  rcases Nat.lt_or_ge i as.length with hi | hi
  · rw [List.getElem?_append_left hi] at hb
    obtain ⟨u, h1, h2⟩ := r.2 i b hb
    exact ⟨u, by rw [List.getElem?_append_left (by rw [r.1]; exact hi)]; exact h1, h2⟩
  · rw [List.getElem?_append_right hi] at hb
    have : i - as.length = 0 := by
      have := (List.getElem?_eq_some_iff.mp hb).1
      simp at this; exact this
    rw [this] at hb
    simp at hb; subst hb
    refine ⟨v, ?_, h⟩
    rw [List.getElem?_append_right (by rw [r.1]; exact hi), r.1, this]; rfl
theorem Are.mono {α : Type} {R R' : α → Value → Prop} {vs : List Value} {as : List α} (h : Are R vs as) (hr : ∀ a v, R a v → R' a v) : Are R' vs as :=
  ⟨h.1, fun i a ha => let ⟨v, h1, h2⟩ := h.2 i a ha; ⟨v, h1, hr _ _ h2⟩⟩
/-- a frame's map, its named values ahead -/
def over (ps : List (Str × Value)) (m : Str → Option Value) : Str → Option Value := fun y => match ps.lookup y with
  | some v => some v
  | none => m y
def Overs (m : Str → Option Value) : List (Str × Value) → Prop
  | [] => True
  | (x, v) :: r => m x = some v ∧ Overs m r
theorem Overs.look {m : Str → Option Value} : ∀ {ps : List (Str × Value)}, Overs m ps → ∀ y v, ps.lookup y = some v → m y = some v
  | [], _, y, v, e => by cases e
  | (x, u) :: r, h, y, v, e => by
    rw [List.lookup_cons] at e
    by_cases q : (y == x) = true
    · rw [q] at e
      cases e
      rw [beq_iff_eq.mp q]; exact h.1
    · rw [Bool.not_eq_true] at q
      rw [q] at e
      exact Overs.look h.2 y v e
theorem Fr.over {h₀ h : Heap} {L : Addr} {m : Str → Option Value} (F : Fr h₀ L h m) (ps : List (Str × Value)) (o : Overs m ps) : Fr h₀ L h (Mine.over ps m) := by
  have e : Mine.over ps m = m := by
    funext y
    unfold Mine.over
    split
    · rename_i v q; exact (o.look y v q).symm
    · rfl
  rw [e]; exact F
/-- gives a letter to the ledger's first address -/
theorem nm1 {h₀ h : Heap} {L D : Addr} {o : Obj} {r : List (Addr × Obj)} (_ : News h₀ L h ((D, o) :: r)) : ∃ D', D' = D := ⟨_, rfl⟩
theorem nm2 {h₀ h : Heap} {L D D₂ : Addr} {o o₂ : Obj} {r : List (Addr × Obj)} (_ : News h₀ L h ((D, o) :: (D₂, o₂) :: r)) : ∃ D', D' = D₂ := ⟨_, rfl⟩
/-- where the walk is to stop -/
def Halt (P : Prop) : Prop := P
theorem halt_of {P : Prop} (h : Halt P) : P := h
section
variable {prog : Program} {w : World} {mean : ExcName → Option Value} {mg mb : Str → Option Value} {A : Around} {s : Shared} {Q E : Value → Shared → Prop}
variable {prog : Program} {env : Env} {QF : Flow → Shared → Prop}
/-- a while by a word over the whole state; no way through it raises -/
theorem whileS {test : PySem.Expr} {body : List Stmt} {pos : Pos} (J : Nat → Shared → Prop) {n₀ : Nat} (hJ : J n₀ s)
    (turn : ∀ n s', J n s' → wpAny (model prog w) A (isTrue test env (eval test env)) (fun b s₂ =>
        if b = true then wpAny (model prog w) A (execs body env) (fun f s₃ => match f with
          | .next | .cont => Halt (∃ n', n' < n ∧ J n' s₃)
          | .brk => QF .next s₃
          | .ret v => QF (.ret v) s₃) (fun _ _ => False) s₂ else QF .next s₂) (fun _ _ => False) s') :
    wpAny (model prog w) A (exec (.While test body [] pos) env) QF E s := by
  refine wpAny_While (codeAny_whileLoop J ?_ n₀ hJ)
  intro n s' hs
  refine wpAny_mono (turn n s' hs) (fun b s₂ h₂ => ?_) fun _ _ h => h.elim
  cases b with
  | false => 
    simp only [Bool.false_eq_true, if_false] at h₂ ⊢
    exact wpAny_execs_nil h₂
  | true =>
    simp only [if_true] at h₂ ⊢
    refine wpAny_mono h₂ (fun f s₃ h₃ => ?_) fun _ _ h => h.elim
    cases f <;> exact h₃
/-- a for over a list by a word over the turn's number and the whole state (J holds before the item is taken) -/
theorem forS {target iter : PySem.Expr} {body : List Stmt} {pos : Pos} {l : Addr} {vs : List Value} (J : Nat → Addr → Shared → Prop) 
    (h : wpAny (model prog w) A (eval iter env) (fun xv s₁ => xv = .ref l ∧ s₁.heap.IsList l vs.toArray ∧ l < s₁.heap.objs.size ∧ 
      (∀ h', (∀ b o, s₁.heap.get? b = some o → h'.get? b = some o) → h'.IsListIter s₁.heap.objs.size l 0 → J 0 s₁.heap.objs.size { s₁ with heap := h' })) E s)
    (hI : ∀ i I s', J i I s' → s'.heap.IsListIter I l i ∧ s'.heap.IsList l vs.toArray)
    (turn : ∀ i v I s' h', J i I s' → vs[i]? = some v → h'.IsListIter I l (i + 1) → Heap.SameBut I s'.heap h' →
      wpAny (model prog w) A (assign target env v) (fun _ s₂ => wpAny (model prog w) A (execs body env) (fun f s₃ => match f with
          | .next | .cont => Halt (J (i + 1) I s₃)
          | .brk => QF .next s₃
          | .ret v => QF (.ret v) s₃) (fun _ _ => False) s₂) (fun _ _ => False) { s' with heap := h' })
    (done : ∀ I s' h', J vs.length I s' → (∀ b o, b ≠ I → s'.heap.get? b = some o → h'.get? b = some o) → QF .next { s' with heap := h' })
    (hh : A.handled = none)
    (hs : ∀ x, foldedSetIterable iter env x = pure x := by intro _; rfl) (ht : ∀ it v, letOwnedTupleGo target it v = pure () := by intro _ _; rfl) :
    wpAny (model prog w) A (exec (.For target iter body [] pos) env) QF E s := by
  refine wpAny_For (wpAny_mono h (fun xv s₁ h₁ => ?_) fun _ _ e => e) hs
  obtain ⟨rfl, hl, hlt, hj⟩ := h₁
  refine wpAny_pyIter_list hl ?_
  have hne : l ≠ s₁.heap.objs.size := Nat.ne_of_lt hlt
  refine codeAny_forLoop (fun k s' => ∃ i, J i s₁.heap.objs.size s' ∧ i ≤ vs.length ∧ k = vs.length + 1 - i) ?_ (vs.length + 1) ⟨0, hj _ (fun b o e => Heap.get?_push_of_some _ e) ⟨_, Heap.get?_push_size _ rfl, rfl, rfl⟩, Nat.zero_le _, rfl⟩ (fun v => ht _ v)
  rintro k s' ⟨i, hJ, hi, rfl⟩
  have hit := hI _ _ _ hJ
  have W := Walks.list (prog := prog) (w := w) hh s₁.heap.objs.size l hne vs.toArray
  by_cases hlt' : i < vs.length
  · refine wpAny_pyNext_list_item hit.1 hit.2 (x := vs[i]) (by simp [hlt']) fun h' hit' hs' => ?_
    refine wpAny_mono (turn i vs[i] _ s' h' hJ (by simp [hlt']) hit' hs') (fun _ s₂ h₂ => ?_) fun _ _ e => e.elim
    refine wpAny_mono h₂ (fun f s₃ h₃ => ?_) fun _ _ e => e.elim
    cases f with
    | next => exact ⟨vs.length + 1 - (i + 1), by omega, i + 1, h₃, hlt', rfl⟩
    | cont => exact ⟨vs.length + 1 - (i + 1), by omega, i + 1, h₃, hlt', rfl⟩
    | brk => exact h₃
    | ret v => exact h₃
  · have hin : i = vs.length := by omega
    subst hin
    exact wpAny_pyNext_list_end hh hit.1 hit.2 (by simp) fun h' he' => wpAny_execs_nil (done _ s' h' hJ fun b o hb e => he' b o hb e)
end
end Mine

-- part HasAttr

namespace Mine
open Builtin Builtin.ObjectAttr
section
variable {prog : Program} {w : World} {A : Around} {s : Shared} {Q E : Value → Shared → Prop}
theorem ext_push (h : Heap) (o : Obj) : Ext h (h.push o) := fun b p e => by
  rw [Heap.get?_push_ne]
  · exact e
  · exact Nat.ne_of_lt (Heap.lt_size e)
theorem kind_hasattr : builtinKind "hasattr" = none := by decide +kernel
theorem plain_hasattr : plainId "hasattr" = true := by decide +kernel
theorem entry_hasattr : entryFor table "hasattr" = some Builtin.«hasattr» := entryFor_of_tree (by kernel_rfl)
theorem args_hasattr (a b : Value) : argsOk "hasattr" ⟨[a, b], []⟩ := by unfold argsOk; kernel_rfl
theorem ty_str_getitem : typeOf (.builtin "str.__getitem__") = pure (.type "wrapper_descriptor") := by show builtinType _ = _; rw [builtinType_eq_fast]; kernel_rfl
theorem slot_wd_get : Slot "wrapper_descriptor" "__get__" "wrapper_descriptor.__get__" :=
  .of (owner := "wrapper_descriptor") (n := "__get__") (by rw [typeLookup_type, builtinLookup_eq_fast]; kernel_rfl) (by decide +kernel) (by decide +kernel) (by decide +kernel)
    (by first | exact .inl (by decide +kernel) | exact .inr (by decide +kernel)) (by rw [isSubtype_type]; kernel_rfl)
theorem slot_md_get : Slot "method_descriptor" "__get__" "method_descriptor.__get__" :=
  .of (owner := "method_descriptor") (n := "__get__") (by rw [typeLookup_type, builtinLookup_eq_fast]; kernel_rfl) (by decide +kernel) (by decide +kernel) (by decide +kernel)
    (by first | exact .inl (by decide +kernel) | exact .inr (by decide +kernel)) (by rw [isSubtype_type]; kernel_rfl)
theorem wd_set_none : typeLookup (.type "wrapper_descriptor") "__set__" = pure none := by rw [typeLookup_type, builtinLookup_eq_fast]; kernel_rfl
theorem wd_del_none : typeLookup (.type "wrapper_descriptor") "__delete__" = pure none := by rw [typeLookup_type, builtinLookup_eq_fast]; kernel_rfl
theorem md_set_none : typeLookup (.type "method_descriptor") "__set__" = pure none := by rw [typeLookup_type, builtinLookup_eq_fast]; kernel_rfl
theorem md_del_none : typeLookup (.type "method_descriptor") "__delete__" = pure none := by rw [typeLookup_type, builtinLookup_eq_fast]; kernel_rfl
theorem entry_wd_get : entryFor table "wrapper_descriptor.__get__" = some Builtin.«wrapper_descriptor.__get__» := entryFor_of_tree (by kernel_rfl)
theorem args_wd_get (a b c : Value) : argsOk "wrapper_descriptor.__get__" ⟨[a, b, c], []⟩ := by unfold argsOk; kernel_rfl
theorem entry_md_get : entryFor table "method_descriptor.__get__" = some Builtin.«method_descriptor.__get__» := entryFor_of_tree (by kernel_rfl)
theorem args_md_get (a b c : Value) : argsOk "method_descriptor.__get__" ⟨[a, b, c], []⟩ := by unfold argsOk; kernel_rfl
theorem owner_sg : (".".intercalate ("str.__getitem__".cutAt '.').dropLast) = "str" := by
  have e0 : "str.__getitem__".cutAt '.' = ["str", "__getitem__"] := by first | rfl | decide +kernel
  rw [e0]; decide +kernel
theorem owner_lg : (".".intercalate ("list.__getitem__".cutAt '.').dropLast) = "list" := by
  have e0 : "list.__getitem__".cutAt '.' = ["list", "__getitem__"] := by first | rfl | decide +kernel
  rw [e0]; decide +kernel
theorem sub_str_sg : isSubtype (.type "str") (.type (".".intercalate ("str.__getitem__".cutAt '.').dropLast)) = pure true := by rw [owner_sg, isSubtype_type]; kernel_rfl
theorem sub_list_lg : isSubtype (.type "list") (.type (".".intercalate ("list.__getitem__".cutAt '.').dropLast)) = pure true := by rw [owner_lg, isSubtype_type]; kernel_rfl

theorem get_sg {h : Heap} {g d t os} {x : Str} {u : Tok} {R : Result → Shared → Prop} (hq : ∀ h' t' (a : Addr), Ext h h' → R (.ok (.ret (.ref a))) ⟨h', g, d, t', os⟩) :
    codeAny (model prog w) A (.call (.builtin "wrapper_descriptor.__get__") ⟨[.builtin "str.__getitem__", .str x u, .type "str"], []⟩) R ⟨h, g, d, t, os⟩ := by
  have hT : (⟨h, g, d, t, os⟩ : Shared).TypeIs (.str x u) "str" := rfl
  have hT5 : (⟨h, g, d, t, os⟩ : Shared).TypeIs (.builtin "str.__getitem__") "wrapper_descriptor" := ty_str_getitem
  have f8 := sub_str_sg
  refine codeAny_call_builtin slot_wd_get.plain entry_wd_get (slot_wd_get.check _ _ _ _ _ _ _ _ hT5 (args_wd_get _ _ _) ?_)
  repeat (any_goals (first | with_reducible assumption | (first | with_reducible (first | refine PySem.wpAny_pure ?_ | refine PySem.wpAny_bind ?_ | refine PySem.wpAny_holding ?_ | refine PySem.wpAny_standAt ?_ | refine PySem.wpAny_point ?_ | refine PySem.wpAny_rule ?_ | refine PySem.wpAny_letGo ?_ | refine PySem.wpAny_mkInt' ?_ | refine PySem.wpAny_mkStr' ?_ | refine PySem.wpAny_fresh' ?_ | refine PySem.wpAny_alloc' ?_ | refine PySem.wpAny_attempt ?_ | refine PySem.wpAny_throw ?_ | refine PySem.wpAny_of_eq (by assumption) ?_ | refine PySem.wpAny_typeOf (by assumption) ?_ | refine PySem.wpAny_specialOf_val (by assumption) (by assumption) ?_ | refine PySem.wpAny_specialOf (by assumption) (by assumption) ?_ | refine PySem.wpAny_isInstance_val (by assumption) (by assumption) ?_ | refine PySem.wpAny_isInstance (by assumption) (by assumption) ?_ | refine PySem.wpAny_call ?_ | refine PySem.wpAny_runValue ?_ | refine PySem.wpAny_run ?_ | fail) | ((with_reducible apply PySem.wpAny_load'); focus (heap_get; done)) | ((with_reducible apply PySem.wpAny_update'); focus (heap_get; done)) | ((with_reducible apply PySem.wpAny_loadPart'); focus (heap_get; done)) | ((with_reducible apply PySem.wpAny_updatePart'); focus (heap_get; done)) | ((with_reducible apply PySem.wpAny_handled_none); focus (assumption; done)) | ((with_reducible apply PySem.wpAny_ite_false); focus (rfl; done)) | ((with_reducible apply PySem.wpAny_ite_true); focus (rfl; done)) | ((with_reducible apply PySem.wpAny_ite_false); focus (simp [*]; done)) | ((with_reducible apply PySem.wpAny_ite_true); focus (simp [*]; done)) | wp_delta | with_reducible_and_instances refine PySem.wpAny_pure ?_ | with_reducible_and_instances refine PySem.wpAny_bind ?_ | fail) | assumption | fail))
  exact hq _ _ _ (ext_push _ _)

theorem ga_str {h : Heap} {g d t os} {x : Str} {u tk : Tok} {Q : Fin → Shared → Prop} (hq : ∀ h' t' (a : Addr), Ext h h' → Q (.done (.ret (.ref a))) ⟨h', g, d, t', os⟩) :
    wpAny (model prog w) A (Builtin.«object.__getattribute__» ⟨[.str x u, .str (Str.ofString "__getitem__") tk], []⟩) Q E ⟨h, g, d, t, os⟩ := by
  have hT : (⟨h, g, d, t, os⟩ : Shared).TypeIs (.str x u) "str" := rfl
  have hT5 : (⟨h, g, d, t, os⟩ : Shared).TypeIs (.builtin "str.__getitem__") "wrapper_descriptor" := ty_str_getitem
  have f4 : typeLookup (.type "str") (Str.ofString "__getitem__") = pure (some (.builtin "str.__getitem__")) := by rw [typeLookup_type, builtinLookup_eq_fast]; kernel_rfl
  have f5 := ty_str_getitem
  have f6 := slot_wd_get.lookup
  have f7 := wd_set_none
  have f8 := wd_del_none
  unfold Builtin.«object.__getattribute__»
  repeat (any_goals (first | with_reducible assumption | (first | with_reducible (first | refine PySem.wpAny_pure ?_ | refine PySem.wpAny_bind ?_ | refine PySem.wpAny_holding ?_ | refine PySem.wpAny_standAt ?_ | refine PySem.wpAny_point ?_ | refine PySem.wpAny_rule ?_ | refine PySem.wpAny_letGo ?_ | refine PySem.wpAny_mkInt' ?_ | refine PySem.wpAny_mkStr' ?_ | refine PySem.wpAny_fresh' ?_ | refine PySem.wpAny_alloc' ?_ | refine PySem.wpAny_attempt ?_ | refine PySem.wpAny_throw ?_ | refine PySem.wpAny_of_eq (by assumption) ?_ | refine PySem.wpAny_typeOf (by assumption) ?_ | refine PySem.wpAny_specialOf_val (by assumption) (by assumption) ?_ | refine PySem.wpAny_specialOf (by assumption) (by assumption) ?_ | refine PySem.wpAny_isInstance_val (by assumption) (by assumption) ?_ | refine PySem.wpAny_isInstance (by assumption) (by assumption) ?_ | refine PySem.wpAny_call ?_ | refine PySem.wpAny_runValue ?_ | refine PySem.wpAny_run ?_ | fail) | ((with_reducible apply PySem.wpAny_load'); focus (heap_get; done)) | ((with_reducible apply PySem.wpAny_update'); focus (heap_get; done)) | ((with_reducible apply PySem.wpAny_loadPart'); focus (heap_get; done)) | ((with_reducible apply PySem.wpAny_updatePart'); focus (heap_get; done)) | ((with_reducible apply PySem.wpAny_handled_none); focus (assumption; done)) | ((with_reducible apply PySem.wpAny_ite_false); focus (rfl; done)) | ((with_reducible apply PySem.wpAny_ite_true); focus (rfl; done)) | ((with_reducible apply PySem.wpAny_ite_false); focus (simp [*]; done)) | ((with_reducible apply PySem.wpAny_ite_true); focus (simp [*]; done)) | wp_delta | with_reducible_and_instances refine PySem.wpAny_pure ?_ | with_reducible_and_instances refine PySem.wpAny_bind ?_ | fail) | assumption | fail))
  refine get_sg fun h' t' v e => ?_
  repeat (any_goals (first | with_reducible assumption | (first | with_reducible (first | refine PySem.wpAny_pure ?_ | refine PySem.wpAny_bind ?_ | refine PySem.wpAny_holding ?_ | refine PySem.wpAny_standAt ?_ | refine PySem.wpAny_point ?_ | refine PySem.wpAny_rule ?_ | refine PySem.wpAny_letGo ?_ | refine PySem.wpAny_mkInt' ?_ | refine PySem.wpAny_mkStr' ?_ | refine PySem.wpAny_fresh' ?_ | refine PySem.wpAny_alloc' ?_ | refine PySem.wpAny_attempt ?_ | refine PySem.wpAny_throw ?_ | refine PySem.wpAny_of_eq (by assumption) ?_ | refine PySem.wpAny_typeOf (by assumption) ?_ | refine PySem.wpAny_specialOf_val (by assumption) (by assumption) ?_ | refine PySem.wpAny_specialOf (by assumption) (by assumption) ?_ | refine PySem.wpAny_isInstance_val (by assumption) (by assumption) ?_ | refine PySem.wpAny_isInstance (by assumption) (by assumption) ?_ | refine PySem.wpAny_call ?_ | refine PySem.wpAny_runValue ?_ | refine PySem.wpAny_run ?_ | fail) | ((with_reducible apply PySem.wpAny_load'); focus (heap_get; done)) | ((with_reducible apply PySem.wpAny_update'); focus (heap_get; done)) | ((with_reducible apply PySem.wpAny_loadPart'); focus (heap_get; done)) | ((with_reducible apply PySem.wpAny_updatePart'); focus (heap_get; done)) | ((with_reducible apply PySem.wpAny_handled_none); focus (assumption; done)) | ((with_reducible apply PySem.wpAny_ite_false); focus (rfl; done)) | ((with_reducible apply PySem.wpAny_ite_true); focus (rfl; done)) | ((with_reducible apply PySem.wpAny_ite_false); focus (simp [*]; done)) | ((with_reducible apply PySem.wpAny_ite_true); focus (simp [*]; done)) | wp_delta | with_reducible_and_instances refine PySem.wpAny_pure ?_ | with_reducible_and_instances refine PySem.wpAny_bind ?_ | fail) | assumption | fail))
  exact hq _ _ _ e

theorem get_lg {h : Heap} {g d t os} {a : Addr} {xs : Array Value} {k : Nat} {sl : Array (Option Value)} {R : Result → Shared → Prop} (hx : h.get? a = some { cls := .type "list", dict := none, data := .seq xs k, slots := sl }) (hq : ∀ h' t' (a : Addr), Ext h h' → R (.ok (.ret (.ref a))) ⟨h', g, d, t', os⟩) :
    codeAny (model prog w) A (.call (.builtin "method_descriptor.__get__") ⟨[.builtin "list.__getitem__", .ref a, .type "list"], []⟩) R ⟨h, g, d, t, os⟩ := by
  have hT : (⟨h, g, d, t, os⟩ : Shared).TypeIs (.ref a) "list" := ⟨_, hx, rfl⟩
  have hT5 : (⟨h, g, d, t, os⟩ : Shared).TypeIs (.builtin "list.__getitem__") "method_descriptor" := F.type_list_getitem
  have f8 := sub_list_lg
  refine codeAny_call_builtin slot_md_get.plain entry_md_get (slot_md_get.check _ _ _ _ _ _ _ _ hT5 (args_md_get _ _ _) ?_)
  repeat (any_goals (first | with_reducible assumption | (first | with_reducible (first | refine PySem.wpAny_pure ?_ | refine PySem.wpAny_bind ?_ | refine PySem.wpAny_holding ?_ | refine PySem.wpAny_standAt ?_ | refine PySem.wpAny_point ?_ | refine PySem.wpAny_rule ?_ | refine PySem.wpAny_letGo ?_ | refine PySem.wpAny_mkInt' ?_ | refine PySem.wpAny_mkStr' ?_ | refine PySem.wpAny_fresh' ?_ | refine PySem.wpAny_alloc' ?_ | refine PySem.wpAny_attempt ?_ | refine PySem.wpAny_throw ?_ | refine PySem.wpAny_of_eq (by assumption) ?_ | refine PySem.wpAny_typeOf (by assumption) ?_ | refine PySem.wpAny_specialOf_val (by assumption) (by assumption) ?_ | refine PySem.wpAny_specialOf (by assumption) (by assumption) ?_ | refine PySem.wpAny_isInstance_val (by assumption) (by assumption) ?_ | refine PySem.wpAny_isInstance (by assumption) (by assumption) ?_ | refine PySem.wpAny_call ?_ | refine PySem.wpAny_runValue ?_ | refine PySem.wpAny_run ?_ | fail) | ((with_reducible apply PySem.wpAny_load'); focus (heap_get; done)) | ((with_reducible apply PySem.wpAny_update'); focus (heap_get; done)) | ((with_reducible apply PySem.wpAny_loadPart'); focus (heap_get; done)) | ((with_reducible apply PySem.wpAny_updatePart'); focus (heap_get; done)) | ((with_reducible apply PySem.wpAny_handled_none); focus (assumption; done)) | ((with_reducible apply PySem.wpAny_ite_false); focus (rfl; done)) | ((with_reducible apply PySem.wpAny_ite_true); focus (rfl; done)) | ((with_reducible apply PySem.wpAny_ite_false); focus (simp [*]; done)) | ((with_reducible apply PySem.wpAny_ite_true); focus (simp [*]; done)) | wp_delta | with_reducible_and_instances refine PySem.wpAny_pure ?_ | with_reducible_and_instances refine PySem.wpAny_bind ?_ | fail) | assumption | fail))
  exact hq _ _ _ (ext_push _ _)

theorem ga_list {h : Heap} {g d t os} {a : Addr} {xs : Array Value} {k : Nat} {sl : Array (Option Value)} {tk : Tok} {Q : Fin → Shared → Prop} (hx : h.get? a = some { cls := .type "list", dict := none, data := .seq xs k, slots := sl }) (hq : ∀ h' t' (a : Addr), Ext h h' → Q (.done (.ret (.ref a))) ⟨h', g, d, t', os⟩) :
    wpAny (model prog w) A (Builtin.«object.__getattribute__» ⟨[.ref a, .str (Str.ofString "__getitem__") tk], []⟩) Q E ⟨h, g, d, t, os⟩ := by
  have hT : (⟨h, g, d, t, os⟩ : Shared).TypeIs (.ref a) "list" := ⟨_, hx, rfl⟩
  have hT5 : (⟨h, g, d, t, os⟩ : Shared).TypeIs (.builtin "list.__getitem__") "method_descriptor" := F.type_list_getitem
  have f4 : typeLookup (.type "list") (Str.ofString "__getitem__") = pure (some (.builtin "list.__getitem__")) := by rw [typeLookup_type, builtinLookup_eq_fast]; kernel_rfl
  have f5 := F.type_list_getitem
  have f6 := slot_md_get.lookup
  have f7 := md_set_none
  have f8 := md_del_none
  unfold Builtin.«object.__getattribute__»
  repeat (any_goals (first | with_reducible assumption | (first | with_reducible (first | refine PySem.wpAny_pure ?_ | refine PySem.wpAny_bind ?_ | refine PySem.wpAny_holding ?_ | refine PySem.wpAny_standAt ?_ | refine PySem.wpAny_point ?_ | refine PySem.wpAny_rule ?_ | refine PySem.wpAny_letGo ?_ | refine PySem.wpAny_mkInt' ?_ | refine PySem.wpAny_mkStr' ?_ | refine PySem.wpAny_fresh' ?_ | refine PySem.wpAny_alloc' ?_ | refine PySem.wpAny_attempt ?_ | refine PySem.wpAny_throw ?_ | refine PySem.wpAny_of_eq (by assumption) ?_ | refine PySem.wpAny_typeOf (by assumption) ?_ | refine PySem.wpAny_specialOf_val (by assumption) (by assumption) ?_ | refine PySem.wpAny_specialOf (by assumption) (by assumption) ?_ | refine PySem.wpAny_isInstance_val (by assumption) (by assumption) ?_ | refine PySem.wpAny_isInstance (by assumption) (by assumption) ?_ | refine PySem.wpAny_call ?_ | refine PySem.wpAny_runValue ?_ | refine PySem.wpAny_run ?_ | fail) | ((with_reducible apply PySem.wpAny_load'); focus (heap_get; done)) | ((with_reducible apply PySem.wpAny_update'); focus (heap_get; done)) | ((with_reducible apply PySem.wpAny_loadPart'); focus (heap_get; done)) | ((with_reducible apply PySem.wpAny_updatePart'); focus (heap_get; done)) | ((with_reducible apply PySem.wpAny_handled_none); focus (assumption; done)) | ((with_reducible apply PySem.wpAny_ite_false); focus (rfl; done)) | ((with_reducible apply PySem.wpAny_ite_true); focus (rfl; done)) | ((with_reducible apply PySem.wpAny_ite_false); focus (simp [*]; done)) | ((with_reducible apply PySem.wpAny_ite_true); focus (simp [*]; done)) | wp_delta | with_reducible_and_instances refine PySem.wpAny_pure ?_ | with_reducible_and_instances refine PySem.wpAny_bind ?_ | fail) | assumption | fail))
  refine get_lg hx fun h' t' v e => ?_
  repeat (any_goals (first | with_reducible assumption | (first | with_reducible (first | refine PySem.wpAny_pure ?_ | refine PySem.wpAny_bind ?_ | refine PySem.wpAny_holding ?_ | refine PySem.wpAny_standAt ?_ | refine PySem.wpAny_point ?_ | refine PySem.wpAny_rule ?_ | refine PySem.wpAny_letGo ?_ | refine PySem.wpAny_mkInt' ?_ | refine PySem.wpAny_mkStr' ?_ | refine PySem.wpAny_fresh' ?_ | refine PySem.wpAny_alloc' ?_ | refine PySem.wpAny_attempt ?_ | refine PySem.wpAny_throw ?_ | refine PySem.wpAny_of_eq (by assumption) ?_ | refine PySem.wpAny_typeOf (by assumption) ?_ | refine PySem.wpAny_specialOf_val (by assumption) (by assumption) ?_ | refine PySem.wpAny_specialOf (by assumption) (by assumption) ?_ | refine PySem.wpAny_isInstance_val (by assumption) (by assumption) ?_ | refine PySem.wpAny_isInstance (by assumption) (by assumption) ?_ | refine PySem.wpAny_call ?_ | refine PySem.wpAny_runValue ?_ | refine PySem.wpAny_run ?_ | fail) | ((with_reducible apply PySem.wpAny_load'); focus (heap_get; done)) | ((with_reducible apply PySem.wpAny_update'); focus (heap_get; done)) | ((with_reducible apply PySem.wpAny_loadPart'); focus (heap_get; done)) | ((with_reducible apply PySem.wpAny_updatePart'); focus (heap_get; done)) | ((with_reducible apply PySem.wpAny_handled_none); focus (assumption; done)) | ((with_reducible apply PySem.wpAny_ite_false); focus (rfl; done)) | ((with_reducible apply PySem.wpAny_ite_true); focus (rfl; done)) | ((with_reducible apply PySem.wpAny_ite_false); focus (simp [*]; done)) | ((with_reducible apply PySem.wpAny_ite_true); focus (simp [*]; done)) | wp_delta | with_reducible_and_instances refine PySem.wpAny_pure ?_ | with_reducible_and_instances refine PySem.wpAny_bind ?_ | fail) | assumption | fail))
  exact hq _ _ _ e

theorem hasattr_str {x : Str} {t u : Tok} (hh : A.handled = none) (h : ∀ h' tk, Ext s.heap h' → Q (.bool true) { s with heap := h', toks := tk }) :
    wpAny (model prog w) A (call (.builtin "hasattr") [.str x t, .str (Str.ofString "__getitem__") u]) Q E s := by
  refine Calls.call_function_entry kind_hasattr plain_hasattr entry_hasattr (args_hasattr _ _) ?_
  unfold Builtin.«hasattr»
  obtain ⟨hp, g, d, tk, os⟩ := s
  have hT : ∀ tk', (⟨hp, g, d, tk', os⟩ : Shared).TypeIs (.str x t) "str" := fun _ => rfl
  have f2 : typeLookup (.type "str") (Str.ofString "__getitem__") = pure (some (.builtin "str.__getitem__")) := by rw [typeLookup_type, builtinLookup_eq_fast]; kernel_rfl
  have f3 := F.slot_str_getattribute.lookup
  have f4 := F.slot_str_getattribute.bind (.str x t)
  refine wpAny_bind (wpAny_of_eq (a := [.str x t, .str (Str.ofString "__getitem__") u]) (by kernel_rfl) ?_)
  dsimp only
  refine wpAny_bind (wpAny_of_eq (a := ()) (by kernel_rfl) ?_)
  repeat (any_goals (first | with_reducible assumption | with_reducible exact hT _ | (first | with_reducible (first | refine PySem.wpAny_pure ?_ | refine PySem.wpAny_bind ?_ | refine PySem.wpAny_holding ?_ | refine PySem.wpAny_standAt ?_ | refine PySem.wpAny_point ?_ | refine PySem.wpAny_rule ?_ | refine PySem.wpAny_letGo ?_ | refine PySem.wpAny_mkInt' ?_ | refine PySem.wpAny_mkStr' ?_ | refine PySem.wpAny_fresh' ?_ | refine PySem.wpAny_alloc' ?_ | refine PySem.wpAny_attempt ?_ | refine PySem.wpAny_throw ?_ | refine PySem.wpAny_of_eq (by assumption) ?_ | refine PySem.wpAny_typeOf (by assumption) ?_ | refine PySem.wpAny_specialOf_val (by assumption) (by assumption) ?_ | refine PySem.wpAny_specialOf (by assumption) (by assumption) ?_ | refine PySem.wpAny_isInstance_val (by assumption) (by assumption) ?_ | refine PySem.wpAny_isInstance (by assumption) (by assumption) ?_ | refine PySem.wpAny_call ?_ | refine PySem.wpAny_runValue ?_ | refine PySem.wpAny_run ?_ | fail) | ((with_reducible apply PySem.wpAny_load'); focus (heap_get; done)) | ((with_reducible apply PySem.wpAny_update'); focus (heap_get; done)) | ((with_reducible apply PySem.wpAny_loadPart'); focus (heap_get; done)) | ((with_reducible apply PySem.wpAny_updatePart'); focus (heap_get; done)) | ((with_reducible apply PySem.wpAny_handled_none); focus (assumption; done)) | ((with_reducible apply PySem.wpAny_ite_false); focus (rfl; done)) | ((with_reducible apply PySem.wpAny_ite_true); focus (rfl; done)) | ((with_reducible apply PySem.wpAny_ite_false); focus (simp [*]; done)) | ((with_reducible apply PySem.wpAny_ite_true); focus (simp [*]; done)) | wp_delta | with_reducible_and_instances refine PySem.wpAny_pure ?_ | with_reducible_and_instances refine PySem.wpAny_bind ?_ | fail) | assumption | exact hT _ | fail))
  refine codeAny_call_builtin F.slot_str_getattribute.plain F.entry_object_getattribute (F.slot_str_getattribute.check _ _ _ _ _ _ _ _ (hT _) (F.args_object_getattribute_2 _ _) (ga_str fun h' t' v e => ?_))
  repeat (any_goals (first | with_reducible assumption | (first | with_reducible (first | refine PySem.wpAny_pure ?_ | refine PySem.wpAny_bind ?_ | refine PySem.wpAny_holding ?_ | refine PySem.wpAny_standAt ?_ | refine PySem.wpAny_point ?_ | refine PySem.wpAny_rule ?_ | refine PySem.wpAny_letGo ?_ | refine PySem.wpAny_mkInt' ?_ | refine PySem.wpAny_mkStr' ?_ | refine PySem.wpAny_fresh' ?_ | refine PySem.wpAny_alloc' ?_ | refine PySem.wpAny_attempt ?_ | refine PySem.wpAny_throw ?_ | refine PySem.wpAny_of_eq (by assumption) ?_ | refine PySem.wpAny_typeOf (by assumption) ?_ | refine PySem.wpAny_specialOf_val (by assumption) (by assumption) ?_ | refine PySem.wpAny_specialOf (by assumption) (by assumption) ?_ | refine PySem.wpAny_isInstance_val (by assumption) (by assumption) ?_ | refine PySem.wpAny_isInstance (by assumption) (by assumption) ?_ | refine PySem.wpAny_call ?_ | refine PySem.wpAny_runValue ?_ | refine PySem.wpAny_run ?_ | fail) | ((with_reducible apply PySem.wpAny_load'); focus (heap_get; done)) | ((with_reducible apply PySem.wpAny_update'); focus (heap_get; done)) | ((with_reducible apply PySem.wpAny_loadPart'); focus (heap_get; done)) | ((with_reducible apply PySem.wpAny_updatePart'); focus (heap_get; done)) | ((with_reducible apply PySem.wpAny_handled_none); focus (assumption; done)) | ((with_reducible apply PySem.wpAny_ite_false); focus (rfl; done)) | ((with_reducible apply PySem.wpAny_ite_true); focus (rfl; done)) | ((with_reducible apply PySem.wpAny_ite_false); focus (simp [*]; done)) | ((with_reducible apply PySem.wpAny_ite_true); focus (simp [*]; done)) | wp_delta | with_reducible_and_instances refine PySem.wpAny_pure ?_ | with_reducible_and_instances refine PySem.wpAny_bind ?_ | fail) | assumption | fail))
  exact ⟨_, rfl, h _ _ e⟩

theorem hasattr_list {a : Addr} {xs : Array Value} {k : Nat} {sl : Array (Option Value)} {u : Tok} (hx : s.heap.get? a = some { cls := .type "list", dict := none, data := .seq xs k, slots := sl }) (hh : A.handled = none) (h : ∀ h' tk, Ext s.heap h' → Q (.bool true) { s with heap := h', toks := tk }) :
    wpAny (model prog w) A (call (.builtin "hasattr") [.ref a, .str (Str.ofString "__getitem__") u]) Q E s := by
  refine Calls.call_function_entry kind_hasattr plain_hasattr entry_hasattr (args_hasattr _ _) ?_
  unfold Builtin.«hasattr»
  obtain ⟨hp, g, d, tk, os⟩ := s
  have hT : ∀ tk', (⟨hp, g, d, tk', os⟩ : Shared).TypeIs (.ref a) "list" := fun _ => ⟨_, hx, rfl⟩
  have f2 : typeLookup (.type "list") (Str.ofString "__getitem__") = pure (some (.builtin "list.__getitem__")) := by rw [typeLookup_type, builtinLookup_eq_fast]; kernel_rfl
  have f5 : isSubtype (.type "list") (.type "module") = pure false := by rw [isSubtype_type]; kernel_rfl
  have f3 := F.slot_list_getattribute.lookup
  have f4 := F.slot_list_getattribute.bind (.ref a)
  refine wpAny_bind (wpAny_of_eq (a := [.ref a, .str (Str.ofString "__getitem__") u]) (by kernel_rfl) ?_)
  dsimp only
  refine wpAny_bind (wpAny_of_eq (a := ()) (by kernel_rfl) ?_)
  repeat (any_goals (first | with_reducible assumption | with_reducible exact hT _ | (first | with_reducible (first | refine PySem.wpAny_pure ?_ | refine PySem.wpAny_bind ?_ | refine PySem.wpAny_holding ?_ | refine PySem.wpAny_standAt ?_ | refine PySem.wpAny_point ?_ | refine PySem.wpAny_rule ?_ | refine PySem.wpAny_letGo ?_ | refine PySem.wpAny_mkInt' ?_ | refine PySem.wpAny_mkStr' ?_ | refine PySem.wpAny_fresh' ?_ | refine PySem.wpAny_alloc' ?_ | refine PySem.wpAny_attempt ?_ | refine PySem.wpAny_throw ?_ | refine PySem.wpAny_of_eq (by assumption) ?_ | refine PySem.wpAny_typeOf (by assumption) ?_ | refine PySem.wpAny_specialOf_val (by assumption) (by assumption) ?_ | refine PySem.wpAny_specialOf (by assumption) (by assumption) ?_ | refine PySem.wpAny_isInstance_val (by assumption) (by assumption) ?_ | refine PySem.wpAny_isInstance (by assumption) (by assumption) ?_ | refine PySem.wpAny_call ?_ | refine PySem.wpAny_runValue ?_ | refine PySem.wpAny_run ?_ | fail) | ((with_reducible apply PySem.wpAny_load'); focus (heap_get; done)) | ((with_reducible apply PySem.wpAny_update'); focus (heap_get; done)) | ((with_reducible apply PySem.wpAny_loadPart'); focus (heap_get; done)) | ((with_reducible apply PySem.wpAny_updatePart'); focus (heap_get; done)) | ((with_reducible apply PySem.wpAny_handled_none); focus (assumption; done)) | ((with_reducible apply PySem.wpAny_ite_false); focus (rfl; done)) | ((with_reducible apply PySem.wpAny_ite_true); focus (rfl; done)) | ((with_reducible apply PySem.wpAny_ite_false); focus (simp [*]; done)) | ((with_reducible apply PySem.wpAny_ite_true); focus (simp [*]; done)) | wp_delta | with_reducible_and_instances refine PySem.wpAny_pure ?_ | with_reducible_and_instances refine PySem.wpAny_bind ?_ | fail) | assumption | exact hT _ | fail))
  refine codeAny_call_builtin F.slot_list_getattribute.plain am_entry_list_getattribute (F.slot_list_getattribute.check _ _ _ _ _ _ _ _ (hT _) (F.args_list_getattribute_2 _ _) (ga_list hx fun h' t' v e => ?_))
  repeat (any_goals (first | with_reducible assumption | (first | with_reducible (first | refine PySem.wpAny_pure ?_ | refine PySem.wpAny_bind ?_ | refine PySem.wpAny_holding ?_ | refine PySem.wpAny_standAt ?_ | refine PySem.wpAny_point ?_ | refine PySem.wpAny_rule ?_ | refine PySem.wpAny_letGo ?_ | refine PySem.wpAny_mkInt' ?_ | refine PySem.wpAny_mkStr' ?_ | refine PySem.wpAny_fresh' ?_ | refine PySem.wpAny_alloc' ?_ | refine PySem.wpAny_attempt ?_ | refine PySem.wpAny_throw ?_ | refine PySem.wpAny_of_eq (by assumption) ?_ | refine PySem.wpAny_typeOf (by assumption) ?_ | refine PySem.wpAny_specialOf_val (by assumption) (by assumption) ?_ | refine PySem.wpAny_specialOf (by assumption) (by assumption) ?_ | refine PySem.wpAny_isInstance_val (by assumption) (by assumption) ?_ | refine PySem.wpAny_isInstance (by assumption) (by assumption) ?_ | refine PySem.wpAny_call ?_ | refine PySem.wpAny_runValue ?_ | refine PySem.wpAny_run ?_ | fail) | ((with_reducible apply PySem.wpAny_load'); focus (heap_get; done)) | ((with_reducible apply PySem.wpAny_update'); focus (heap_get; done)) | ((with_reducible apply PySem.wpAny_loadPart'); focus (heap_get; done)) | ((with_reducible apply PySem.wpAny_updatePart'); focus (heap_get; done)) | ((with_reducible apply PySem.wpAny_handled_none); focus (assumption; done)) | ((with_reducible apply PySem.wpAny_ite_false); focus (rfl; done)) | ((with_reducible apply PySem.wpAny_ite_true); focus (rfl; done)) | ((with_reducible apply PySem.wpAny_ite_false); focus (simp [*]; done)) | ((with_reducible apply PySem.wpAny_ite_true); focus (simp [*]; done)) | wp_delta | with_reducible_and_instances refine PySem.wpAny_pure ?_ | with_reducible_and_instances refine PySem.wpAny_bind ?_ | fail) | assumption | fail))
  exact ⟨_, rfl, h _ _ e⟩
end
end Mine

-- part Bisect


namespace Mine
theorem mid_lt {lo hi : Nat} (h : lo < hi) : (lo + hi) / 2 < hi := by omega
theorem mid_ge {lo hi : Nat} (h : lo < hi) : lo ≤ (lo + hi) / 2 := by omega
theorem mid_fdiv (lo hi : Nat) : ((lo : Int) + hi).fdiv 2 = (((lo + hi) / 2 : Nat) : Int) := by rw [Int.fdiv_eq_ediv_of_nonneg _ (by decide)]; omega
theorem dec_hi {lo hi : Nat} (h : lo < hi) : (lo + hi) / 2 - lo < hi - lo := by omega
theorem dec_lo {lo hi : Nat} (h : lo < hi) : hi - ((lo + hi) / 2 + 1) < hi - lo := by omega
theorem small62 {n m : Nat} (h : n < m) (h2 : m < 2 ^ 20) : (n : Int) < 2 ^ 62 := by omega
theorem lt_cast {a b : Nat} (h : (a : Int) < b) : a < b := Int.ofNat_lt.mp h
theorem ge_cast {a b : Nat} (h : ¬ (a : Int) < b) : b ≤ a := Nat.le_of_not_lt fun q => h (Int.ofNat_lt.mpr q)
/-- the loop of a bisection -/
inductive BisJ (s : Shared) (L' : Addr) (B : Nat → Nat → Tok → Tok → List (Str × Value)) (N : Nat) (PI : (i : Nat) → i < N → Prop) : Nat → Shared → Prop
  | mk (h' : Heap) (tk : Nat) (m₀ : Str → Option Value) (lo hi : Nat) (t1 t2 : Tok) (hlo : lo ≤ hi) (hhi : hi ≤ N) (p1 : ∀ i (h : i < N), i < lo → ¬ PI i h) (p2 : ∀ i (h : i < N), hi ≤ i → PI i h)
      (F : Fr s.heap L' h' (over (B lo hi t1 t2) m₀)) : BisJ s L' B N PI (hi - lo) { s with heap := h', toks := tk }
section
variable {prog : Program} {w : World} {mean : ExcName → Option Value} {mg mb : Str → Option Value} {A : Around} {s : Shared} {Q E : Value → Shared → Prop}
local macro_rules | `(tactic| walk_at "exec While Compare cons nil") => `(tactic| (refine halt_of ?_))
local macro_rules | `(tactic| walk_at "exec While BoolOp cons nil") => `(tactic| (refine halt_of ?_))
local macro_rules | `(tactic| walk_at "exec For Name Name cons nil") => `(tactic| (refine halt_of ?_))
local macro_rules | `(tactic| walk_at "exec For Tuple Call cons nil") => `(tactic| (refine halt_of ?_))

theorem bisR_str (C : Cx w mean mg mb A s.heap) (hd : A.depth + 25 < recursionLimit) (hu : A.units + 190 < cLine) {x : Str} {xs : List Str} {t : Tok} {l : Addr} {vs : List Value} 
    (hl : s.heap.IsList l vs.toArray) (ha : Are isStr vs xs) (hlen : xs.length < 2 ^ 20)
    (mono : ∀ i j (hi : i < xs.length) (hj : j < xs.length), i ≤ j → x.cps.toList < xs[i].cps.toList → x.cps.toList < xs[j].cps.toList)
    (hQ : ∀ h' tk (r : Nat) u, Ext s.heap h' → r ≤ xs.length → (∀ i (hi : i < xs.length), i < r → ¬ x.cps.toList < xs[i].cps.toList) → (∀ i (hi : i < xs.length), r ≤ i → x.cps.toList < xs[i].cps.toList) → Q (.int r u) { s with heap := h', toks := tk }) :
    wpAny (model prog w) A (call (.ref 32) [.ref l, .str x t]) Q E s := by
  obtain ⟨B, F, X, T, hk⟩ := C
  refine wpAny_call ?_
  (refine' enterP ?k1 ?k2 ?k3 ?k5 ?kA ?kF ?kK ?k6 ?k7 ?k8 ?k9 ?kB ?_ ?c2 ?c3 ?c4 ?c5; (case kA => exact rfl); (case kF => exact rfl); (case kK => assumption); (case k1 => assumption); (case k2 => assumption); (case k3 => assumption); (case k5 => assumption); (case k6 => k_is); (case k7 => k_is); (case k8 => ktr_room); (case k9 => first | exact BindsTo.of_eq rfl | (refine' kp_binds ?kx ?ke; (case kx => k_in); (case ke => exact fun _ => rfl)) | exact binds_K (by k_in) rfl (by k_is) rfl rfl rfl); (case c5 => decide); (case kB => exact locs rfl); (case c2 => exact rfl); (case c3 => exact rfl); (case c4 => exact rfl); k_whole; intro L' h' F' N' B' X' T'; (try dsimp only); (try k_fold))
  have hl' := F'.lst hl
  k_steps
  refine PyProof.Rows.len_list hl' (by have := ha.len; simp; omega) ?_
  k_steps
  unfold Halt
  (with_reducible rename Fr _ _ _ _ => F')
  have esz : vs.toArray.size = xs.length := by have := ha.len; simpa using this
  rw [esz] at F'
  refine whileS (BisJ s L' (fun lo hi t1 t2 => [("a", .ref l), ("x", .str x t), ("lo", .int lo t1), ("hi", .int hi t2)]) xs.length (fun i hi => x.cps.toList < xs[i].cps.toList)) (n₀ := xs.length) ?_ ?_
  · exact .mk _ _ _ 0 xs.length 202 _ (Nat.zero_le _) (Nat.le_refl _) (fun i _ h => absurd h (Nat.not_lt_zero _)) (fun i h1 h2 => absurd h1 (Nat.not_lt.mpr h2)) (Fr.over F' _ ⟨rfl, rfl, rfl, rfl, trivial⟩)
  · rintro n s' ⟨h', tk, m₀, lo, hi, t1, t2, hlo, hhi, p1, p2, F'⟩
    (try dsimp only at F')
    have N' : News s.heap L' h' [] := News.nil
    have hl' := F'.lst hl
    k_steps
    · rename_i hlt _ _ _
      have hlt' : lo < hi := lt_cast hlt
      have hm : (lo + hi) / 2 < xs.length := Nat.lt_of_lt_of_le (mid_lt hlt') hhi
      have em := mid_fdiv lo hi
      obtain ⟨v, hv, tv, rfl⟩ := ha.get hm
      (with_reducible rename Fr _ _ _ _ => F')
      rw [em] at F' ⊢
      refine itemList (F'.lst hl) (Int.natCast_nonneg _) (small62 hm hlen) (v := .str xs[(lo + hi) / 2] tv) (by rw [Int.toNat_natCast]; exact hv) ?_
      k_steps
      
      all_goals (unfold Halt; (with_reducible rename Fr _ _ _ _ => F'))
      · first
        | (have hc : x.cps.toList < xs[(lo + hi) / 2].cps.toList := by first | assumption | (apply of_decide_eq_true; assumption)
           refine ⟨(lo + hi) / 2 - lo, dec_hi hlt', .mk _ _ _ lo ((lo + hi) / 2) _ _ (mid_ge hlt') (Nat.le_of_lt hm) p1 (fun i h hi' => ?_) (Fr.over F' _ ⟨rfl, rfl, rfl, rfl, trivial⟩)⟩
           exact mono _ _ hm h hi' hc)
        | (have hc : ¬ x.cps.toList < xs[(lo + hi) / 2].cps.toList := by first | assumption | (apply of_decide_eq_false; assumption) | (intro q; exact absurd (by first | assumption | (apply of_decide_eq_true; assumption)) q)
           refine ⟨hi - ((lo + hi) / 2 + 1), dec_lo hlt', .mk _ _ _ ((lo + hi) / 2 + 1) hi _ _ (mid_lt hlt') hhi (fun i h hi' q => ?_) p2 (Fr.over F' _ ⟨rfl, rfl, rfl, rfl, trivial⟩)⟩
           exact absurd (mono _ _ h hm (Nat.le_of_lt_succ hi') q) hc)
      · first
        | (have hc : x.cps.toList < xs[(lo + hi) / 2].cps.toList := by first | assumption | (apply of_decide_eq_true; assumption)
           refine ⟨(lo + hi) / 2 - lo, dec_hi hlt', .mk _ _ _ lo ((lo + hi) / 2) _ _ (mid_ge hlt') (Nat.le_of_lt hm) p1 (fun i h hi' => ?_) (Fr.over F' _ ⟨rfl, rfl, rfl, rfl, trivial⟩)⟩
           exact mono _ _ hm h hi' hc)
        | (have hc : ¬ x.cps.toList < xs[(lo + hi) / 2].cps.toList := by first | assumption | (apply of_decide_eq_false; assumption) | (intro q; exact absurd (by first | assumption | (apply of_decide_eq_true; assumption)) q)
           refine ⟨hi - ((lo + hi) / 2 + 1), dec_lo hlt', .mk _ _ _ ((lo + hi) / 2 + 1) hi _ _ (mid_lt hlt') hhi (fun i h hi' q => ?_) p2 (Fr.over F' _ ⟨rfl, rfl, rfl, rfl, trivial⟩)⟩
           exact absurd (mono _ _ h hm (Nat.le_of_lt_succ hi') q) hc)
    · rename ¬ ((lo : Int) < hi) => hge
      exact hQ _ _ lo t1 F'.keep (Nat.le_trans hlo hhi) (fun i h1 h2 => p1 i h1 h2) fun i h1 h2 => p2 i h1 (Nat.le_trans (ge_cast hge) h2)

theorem bisR_str4 (C : Cx w mean mg mb A s.heap) (hd : A.depth + 25 < recursionLimit) (hu : A.units + 190 < cLine) {x : Str} {xs : List Str} {t u : Tok} {l : Addr} {vs : List Value} 
    (hl : s.heap.IsList l vs.toArray) (ha : Are isStr vs xs) (hlen : xs.length < 2 ^ 20)
    (mono : ∀ i j (hi : i < xs.length) (hj : j < xs.length), i ≤ j → x.cps.toList < xs[i].cps.toList → x.cps.toList < xs[j].cps.toList)
    (hQ : ∀ h' tk (r : Nat) u, Ext s.heap h' → r ≤ xs.length → (∀ i (hi : i < xs.length), i < r → ¬ x.cps.toList < xs[i].cps.toList) → (∀ i (hi : i < xs.length), r ≤ i → x.cps.toList < xs[i].cps.toList) → Q (.int r u) { s with heap := h', toks := tk }) :
    wpAny (model prog w) A (call (.ref 32) [.ref l, .str x t, .int 0 u, .none]) Q E s := by
  obtain ⟨B, F, X, T, hk⟩ := C
  refine wpAny_call ?_
  (refine' enterP ?k1 ?k2 ?k3 ?k5 ?kA ?kF ?kK ?k6 ?k7 ?k8 ?k9 ?kB ?_ ?c2 ?c3 ?c4 ?c5; (case kA => exact rfl); (case kF => exact rfl); (case kK => assumption); (case k1 => assumption); (case k2 => assumption); (case k3 => assumption); (case k5 => assumption); (case k6 => k_is); (case k7 => k_is); (case k8 => ktr_room); (case k9 => first | exact BindsTo.of_eq rfl | (refine' kp_binds ?kx ?ke; (case kx => k_in); (case ke => exact fun _ => rfl)) | exact binds_K (by k_in) rfl (by k_is) rfl rfl rfl); (case c5 => decide); (case kB => exact locs rfl); (case c2 => exact rfl); (case c3 => exact rfl); (case c4 => exact rfl); k_whole; intro L' h' F' N' B' X' T'; (try dsimp only); (try k_fold))
  have hl' := F'.lst hl
  k_steps
  refine PyProof.Rows.len_list hl' (by have := ha.len; simp; omega) ?_
  k_steps
  unfold Halt
  (with_reducible rename Fr _ _ _ _ => F')
  have esz : vs.toArray.size = xs.length := by have := ha.len; simpa using this
  rw [esz] at F'
  refine whileS (BisJ s L' (fun lo hi t1 t2 => [("a", .ref l), ("x", .str x t), ("lo", .int lo t1), ("hi", .int hi t2)]) xs.length (fun i hi => x.cps.toList < xs[i].cps.toList)) (n₀ := xs.length) ?_ ?_
  · exact .mk _ _ _ 0 xs.length u _ (Nat.zero_le _) (Nat.le_refl _) (fun i _ h => absurd h (Nat.not_lt_zero _)) (fun i h1 h2 => absurd h1 (Nat.not_lt.mpr h2)) (Fr.over F' _ ⟨rfl, rfl, rfl, rfl, trivial⟩)
  · rintro n s' ⟨h', tk, m₀, lo, hi, t1, t2, hlo, hhi, p1, p2, F'⟩
    (try dsimp only at F')
    have N' : News s.heap L' h' [] := News.nil
    have hl' := F'.lst hl
    k_steps
    · rename_i hlt _ _ _
      have hlt' : lo < hi := lt_cast hlt
      have hm : (lo + hi) / 2 < xs.length := Nat.lt_of_lt_of_le (mid_lt hlt') hhi
      have em := mid_fdiv lo hi
      obtain ⟨v, hv, tv, rfl⟩ := ha.get hm
      (with_reducible rename Fr _ _ _ _ => F')
      rw [em] at F' ⊢
      refine itemList (F'.lst hl) (Int.natCast_nonneg _) (small62 hm hlen) (v := .str xs[(lo + hi) / 2] tv) (by rw [Int.toNat_natCast]; exact hv) ?_
      k_steps
      
      all_goals (unfold Halt; (with_reducible rename Fr _ _ _ _ => F'))
      · first
        | (have hc : x.cps.toList < xs[(lo + hi) / 2].cps.toList := by first | assumption | (apply of_decide_eq_true; assumption)
           refine ⟨(lo + hi) / 2 - lo, dec_hi hlt', .mk _ _ _ lo ((lo + hi) / 2) _ _ (mid_ge hlt') (Nat.le_of_lt hm) p1 (fun i h hi' => ?_) (Fr.over F' _ ⟨rfl, rfl, rfl, rfl, trivial⟩)⟩
           exact mono _ _ hm h hi' hc)
        | (have hc : ¬ x.cps.toList < xs[(lo + hi) / 2].cps.toList := by first | assumption | (apply of_decide_eq_false; assumption) | (intro q; exact absurd (by first | assumption | (apply of_decide_eq_true; assumption)) q)
           refine ⟨hi - ((lo + hi) / 2 + 1), dec_lo hlt', .mk _ _ _ ((lo + hi) / 2 + 1) hi _ _ (mid_lt hlt') hhi (fun i h hi' q => ?_) p2 (Fr.over F' _ ⟨rfl, rfl, rfl, rfl, trivial⟩)⟩
           exact absurd (mono _ _ h hm (Nat.le_of_lt_succ hi') q) hc)
      · first
        | (have hc : x.cps.toList < xs[(lo + hi) / 2].cps.toList := by first | assumption | (apply of_decide_eq_true; assumption)
           refine ⟨(lo + hi) / 2 - lo, dec_hi hlt', .mk _ _ _ lo ((lo + hi) / 2) _ _ (mid_ge hlt') (Nat.le_of_lt hm) p1 (fun i h hi' => ?_) (Fr.over F' _ ⟨rfl, rfl, rfl, rfl, trivial⟩)⟩
           exact mono _ _ hm h hi' hc)
        | (have hc : ¬ x.cps.toList < xs[(lo + hi) / 2].cps.toList := by first | assumption | (apply of_decide_eq_false; assumption) | (intro q; exact absurd (by first | assumption | (apply of_decide_eq_true; assumption)) q)
           refine ⟨hi - ((lo + hi) / 2 + 1), dec_lo hlt', .mk _ _ _ ((lo + hi) / 2 + 1) hi _ _ (mid_lt hlt') hhi (fun i h hi' q => ?_) p2 (Fr.over F' _ ⟨rfl, rfl, rfl, rfl, trivial⟩)⟩
           exact absurd (mono _ _ h hm (Nat.le_of_lt_succ hi') q) hc)
    · rename ¬ ((lo : Int) < hi) => hge
      exact hQ _ _ lo t1 F'.keep (Nat.le_trans hlo hhi) (fun i h1 h2 => p1 i h1 h2) fun i h1 h2 => p2 i h1 (Nat.le_trans (ge_cast hge) h2)

theorem bisL_str (C : Cx w mean mg mb A s.heap) (hd : A.depth + 25 < recursionLimit) (hu : A.units + 190 < cLine) {x : Str} {xs : List Str} {t : Tok} {l : Addr} {vs : List Value} 
    (hl : s.heap.IsList l vs.toArray) (ha : Are isStr vs xs) (hlen : xs.length < 2 ^ 20)
    (mono : ∀ i j (hi : i < xs.length) (hj : j < xs.length), i ≤ j → (¬ xs[i].cps.toList < x.cps.toList) → (¬ xs[j].cps.toList < x.cps.toList))
    (hQ : ∀ h' tk (r : Nat) u, Ext s.heap h' → r ≤ xs.length → (∀ i (hi : i < xs.length), i < r → ¬ (¬ xs[i].cps.toList < x.cps.toList)) → (∀ i (hi : i < xs.length), r ≤ i → (¬ xs[i].cps.toList < x.cps.toList)) → Q (.int r u) { s with heap := h', toks := tk }) :
    wpAny (model prog w) A (call (.ref 50) [.ref l, .str x t]) Q E s := by
  obtain ⟨B, F, X, T, hk⟩ := C
  refine wpAny_call ?_
  (refine' enterP ?k1 ?k2 ?k3 ?k5 ?kA ?kF ?kK ?k6 ?k7 ?k8 ?k9 ?kB ?_ ?c2 ?c3 ?c4 ?c5; (case kA => exact rfl); (case kF => exact rfl); (case kK => assumption); (case k1 => assumption); (case k2 => assumption); (case k3 => assumption); (case k5 => assumption); (case k6 => k_is); (case k7 => k_is); (case k8 => ktr_room); (case k9 => first | exact BindsTo.of_eq rfl | (refine' kp_binds ?kx ?ke; (case kx => k_in); (case ke => exact fun _ => rfl)) | exact binds_K (by k_in) rfl (by k_is) rfl rfl rfl); (case c5 => decide); (case kB => exact locs rfl); (case c2 => exact rfl); (case c3 => exact rfl); (case c4 => exact rfl); k_whole; intro L' h' F' N' B' X' T'; (try dsimp only); (try k_fold))
  have hl' := F'.lst hl
  k_steps
  refine PyProof.Rows.len_list hl' (by have := ha.len; simp; omega) ?_
  k_steps
  unfold Halt
  (with_reducible rename Fr _ _ _ _ => F')
  have esz : vs.toArray.size = xs.length := by have := ha.len; simpa using this
  rw [esz] at F'
  refine whileS (BisJ s L' (fun lo hi t1 t2 => [("a", .ref l), ("x", .str x t), ("lo", .int lo t1), ("hi", .int hi t2)]) xs.length (fun i hi => (¬ xs[i].cps.toList < x.cps.toList))) (n₀ := xs.length) ?_ ?_
  · exact .mk _ _ _ 0 xs.length _ _ (Nat.zero_le _) (Nat.le_refl _) (fun i _ h => absurd h (Nat.not_lt_zero _)) (fun i h1 h2 => absurd h1 (Nat.not_lt.mpr h2)) (Fr.over F' _ ⟨rfl, rfl, rfl, rfl, trivial⟩)
  · rintro n s' ⟨h', tk, m₀, lo, hi, t1, t2, hlo, hhi, p1, p2, F'⟩
    (try dsimp only at F')
    have N' : News s.heap L' h' [] := News.nil
    have hl' := F'.lst hl
    k_steps
    · rename_i hlt _ _ _
      have hlt' : lo < hi := lt_cast hlt
      have hm : (lo + hi) / 2 < xs.length := Nat.lt_of_lt_of_le (mid_lt hlt') hhi
      have em := mid_fdiv lo hi
      obtain ⟨v, hv, tv, rfl⟩ := ha.get hm
      (with_reducible rename Fr _ _ _ _ => F')
      rw [em] at F' ⊢
      refine itemList (F'.lst hl) (Int.natCast_nonneg _) (small62 hm hlen) (v := .str xs[(lo + hi) / 2] tv) (by rw [Int.toNat_natCast]; exact hv) ?_
      k_steps
      
      all_goals (unfold Halt; (with_reducible rename Fr _ _ _ _ => F'))
      · first
        | (have hc : (¬ xs[(lo + hi) / 2].cps.toList < x.cps.toList) := by first | assumption | (apply of_decide_eq_true; assumption)
           refine ⟨(lo + hi) / 2 - lo, dec_hi hlt', .mk _ _ _ lo ((lo + hi) / 2) _ _ (mid_ge hlt') (Nat.le_of_lt hm) p1 (fun i h hi' => ?_) (Fr.over F' _ ⟨rfl, rfl, rfl, rfl, trivial⟩)⟩
           exact mono _ _ hm h hi' hc)
        | (have hc : ¬ (¬ xs[(lo + hi) / 2].cps.toList < x.cps.toList) := by first | assumption | (apply of_decide_eq_false; assumption) | (intro q; exact absurd (by first | assumption | (apply of_decide_eq_true; assumption)) q)
           refine ⟨hi - ((lo + hi) / 2 + 1), dec_lo hlt', .mk _ _ _ ((lo + hi) / 2 + 1) hi _ _ (mid_lt hlt') hhi (fun i h hi' q => ?_) p2 (Fr.over F' _ ⟨rfl, rfl, rfl, rfl, trivial⟩)⟩
           exact absurd (mono _ _ h hm (Nat.le_of_lt_succ hi') q) hc)
      · first
        | (have hc : (¬ xs[(lo + hi) / 2].cps.toList < x.cps.toList) := by first | assumption | (apply of_decide_eq_true; assumption)
           refine ⟨(lo + hi) / 2 - lo, dec_hi hlt', .mk _ _ _ lo ((lo + hi) / 2) _ _ (mid_ge hlt') (Nat.le_of_lt hm) p1 (fun i h hi' => ?_) (Fr.over F' _ ⟨rfl, rfl, rfl, rfl, trivial⟩)⟩
           exact mono _ _ hm h hi' hc)
        | (have hc : ¬ (¬ xs[(lo + hi) / 2].cps.toList < x.cps.toList) := by first | assumption | (apply of_decide_eq_false; assumption) | (intro q; exact absurd (by first | assumption | (apply of_decide_eq_true; assumption)) q)
           refine ⟨hi - ((lo + hi) / 2 + 1), dec_lo hlt', .mk _ _ _ ((lo + hi) / 2 + 1) hi _ _ (mid_lt hlt') hhi (fun i h hi' q => ?_) p2 (Fr.over F' _ ⟨rfl, rfl, rfl, rfl, trivial⟩)⟩
           exact absurd (mono _ _ h hm (Nat.le_of_lt_succ hi') q) hc)
    · rename ¬ ((lo : Int) < hi) => hge
      exact hQ _ _ lo t1 F'.keep (Nat.le_trans hlo hhi) (fun i h1 h2 => p1 i h1 h2) fun i h1 h2 => p2 i h1 (Nat.le_trans (ge_cast hge) h2)

theorem bisL_key (C : Cx w mean mg mb A s.heap) (hd : A.depth + 25 < recursionLimit) (hu : A.units + 190 < cLine) {x : Int} {xs : List (Int × Int)} {t u : Tok} {l : Addr} {vs : List Value} 
    (hl : s.heap.IsList l vs.toArray) (ha : Are (fun (p : Int × Int) v => ∃ a t u, v = .ref a ∧ IsTup s.heap a #[.int p.1 t, .int p.2 u]) vs xs) (hlen : xs.length < 2 ^ 20)
    (mono : ∀ i j (hi : i < xs.length) (hj : j < xs.length), i ≤ j → (¬ xs[i].1 < x) → (¬ xs[j].1 < x))
    (hQ : ∀ h' tk (r : Nat) u, Ext s.heap h' → r ≤ xs.length → (∀ i (hi : i < xs.length), i < r → ¬ (¬ xs[i].1 < x)) → (∀ i (hi : i < xs.length), r ≤ i → (¬ xs[i].1 < x)) → Q (.int r u) { s with heap := h', toks := tk }) :
    wpAny (model prog w) A (call (.ref 50) [.ref l, .int x t, .int 0 u, .none] [("key", .ref 146)]) Q E s := by
  obtain ⟨B, F, X, T, hk⟩ := C
  refine wpAny_call ?_
  (refine' enterP ?k1 ?k2 ?k3 ?k5 ?kA ?kF ?kK ?k6 ?k7 ?k8 ?k9 ?kB ?_ ?c2 ?c3 ?c4 ?c5; (case kA => exact rfl); (case kF => exact rfl); (case kK => assumption); (case k1 => assumption); (case k2 => assumption); (case k3 => assumption); (case k5 => assumption); (case k6 => k_is); (case k7 => k_is); (case k8 => ktr_room); (case k9 => first | exact BindsTo.of_eq rfl | (refine' kp_binds ?kx ?ke; (case kx => k_in); (case ke => exact fun _ => rfl)) | exact binds_K (by k_in) rfl (by k_is) rfl rfl rfl); (case c5 => decide); (case kB => exact locs rfl); (case c2 => exact rfl); (case c3 => exact rfl); (case c4 => exact rfl); k_whole; intro L' h' F' N' B' X' T'; (try dsimp only); (try k_fold))
  have hl' := F'.lst hl
  k_steps
  refine PyProof.Rows.len_list hl' (by have := ha.len; simp; omega) ?_
  k_steps
  unfold Halt
  (with_reducible rename Fr _ _ _ _ => F')
  have esz : vs.toArray.size = xs.length := by have := ha.len; simpa using this
  rw [esz] at F'
  refine whileS (BisJ s L' (fun lo hi t1 t2 => [("a", .ref l), ("x", .int x t), ("lo", .int lo t1), ("hi", .int hi t2), ("key", .ref 146)]) xs.length (fun i hi => (¬ xs[i].1 < x))) (n₀ := xs.length) ?_ ?_
  · exact .mk _ _ _ 0 xs.length u _ (Nat.zero_le _) (Nat.le_refl _) (fun i _ h => absurd h (Nat.not_lt_zero _)) (fun i h1 h2 => absurd h1 (Nat.not_lt.mpr h2)) (Fr.over F' _ ⟨rfl, rfl, rfl, rfl, rfl, trivial⟩)
  · rintro n s' ⟨h', tk, m₀, lo, hi, t1, t2, hlo, hhi, p1, p2, F'⟩
    (try dsimp only at F')
    have N' : News s.heap L' h' [] := News.nil
    have hl' := F'.lst hl
    k_steps
    · rename_i hlt _ _ _
      have hlt' : lo < hi := lt_cast hlt
      have hm : (lo + hi) / 2 < xs.length := Nat.lt_of_lt_of_le (mid_lt hlt') hhi
      have em := mid_fdiv lo hi
      obtain ⟨v, hv, pr, tv, tu, rfl, hpr⟩ := ha.get hm
      (with_reducible rename Fr _ _ _ _ => F')
      rw [em] at F' ⊢
      refine itemList (F'.lst hl) (Int.natCast_nonneg _) (small62 hm hlen) (v := .ref pr) (by rw [Int.toNat_natCast]; exact hv) ?_
      k_steps
      (with_reducible rename Fr _ _ _ _ => F')
      refine height_call (Cx.mk B' F' X' T' rfl) (by ktr_room) (by ktr_units) (vs := [.int xs[(lo + hi) / 2].2 tu]) (F'.tup hpr) fun h' tk K' => ?_
      replace F' := F'.keeps K'
      have N' : News s.heap L' h' [] := News.nil
      k_steps
      all_goals (unfold Halt; (with_reducible rename Fr _ _ _ _ => F'))
      · first
        | (have hc : (¬ xs[(lo + hi) / 2].1 < x) := by first | assumption | (apply of_decide_eq_true; assumption)
           refine ⟨(lo + hi) / 2 - lo, dec_hi hlt', .mk _ _ _ lo ((lo + hi) / 2) _ _ (mid_ge hlt') (Nat.le_of_lt hm) p1 (fun i h hi' => ?_) (Fr.over F' _ ⟨rfl, rfl, rfl, rfl, rfl, trivial⟩)⟩
           exact mono _ _ hm h hi' hc)
        | (have hc : ¬ (¬ xs[(lo + hi) / 2].1 < x) := by first | assumption | (apply of_decide_eq_false; assumption) | (intro q; exact absurd (by first | assumption | (apply of_decide_eq_true; assumption)) q)
           refine ⟨hi - ((lo + hi) / 2 + 1), dec_lo hlt', .mk _ _ _ ((lo + hi) / 2 + 1) hi _ _ (mid_lt hlt') hhi (fun i h hi' q => ?_) p2 (Fr.over F' _ ⟨rfl, rfl, rfl, rfl, rfl, trivial⟩)⟩
           exact absurd (mono _ _ h hm (Nat.le_of_lt_succ hi') q) hc)
      · first
        | (have hc : (¬ xs[(lo + hi) / 2].1 < x) := by first | assumption | (apply of_decide_eq_true; assumption)
           refine ⟨(lo + hi) / 2 - lo, dec_hi hlt', .mk _ _ _ lo ((lo + hi) / 2) _ _ (mid_ge hlt') (Nat.le_of_lt hm) p1 (fun i h hi' => ?_) (Fr.over F' _ ⟨rfl, rfl, rfl, rfl, rfl, trivial⟩)⟩
           exact mono _ _ hm h hi' hc)
        | (have hc : ¬ (¬ xs[(lo + hi) / 2].1 < x) := by first | assumption | (apply of_decide_eq_false; assumption) | (intro q; exact absurd (by first | assumption | (apply of_decide_eq_true; assumption)) q)
           refine ⟨hi - ((lo + hi) / 2 + 1), dec_lo hlt', .mk _ _ _ ((lo + hi) / 2 + 1) hi _ _ (mid_lt hlt') hhi (fun i h hi' q => ?_) p2 (Fr.over F' _ ⟨rfl, rfl, rfl, rfl, rfl, trivial⟩)⟩
           exact absurd (mono _ _ h hm (Nat.le_of_lt_succ hi') q) hc)
    · rename ¬ ((lo : Int) < hi) => hge
      exact hQ _ _ lo t1 F'.keep (Nat.le_trans hlo hhi) (fun i h1 h2 => p1 i h1 h2) fun i h1 h2 => p2 i h1 (Nat.le_trans (ge_cast hge) h2)

end
end Mine

-- part Insort


namespace Mine
section
variable {prog : Program} {w : World} {mean : ExcName → Option Value} {mg mb : Str → Option Value} {A : Around} {s : Shared} {Q E : Value → Shared → Prop}
local macro_rules | `(tactic| walk_at "exec While Compare cons nil") => `(tactic| (refine halt_of ?_))
local macro_rules | `(tactic| walk_at "exec While BoolOp cons nil") => `(tactic| (refine halt_of ?_))
local macro_rules | `(tactic| walk_at "exec For Name Name cons nil") => `(tactic| (refine halt_of ?_))
local macro_rules | `(tactic| walk_at "exec For Tuple Call cons nil") => `(tactic| (refine halt_of ?_))
theorem insertPlain' {prog : Program} {D : Addr} {vs : List Value} {r : Nat} {k : Int} {u : Tok} {y : Value} (hkr : k = r) (hl : s.heap.PlainList D vs.toArray) (hr : r ≤ vs.length) (hs : vs.length < 2 ^ 20)
    (h : ∀ h', Heap.SameBut D s.heap h' → h'.PlainList D (vs.take r ++ y :: vs.drop r).toArray → Q .none { s with heap := h' }) :
    wpAny (model prog w) A (call (.builtin "list.insert") [.ref D, .int k u, y]) Q E s := by
  obtain ⟨n, hl⟩ := hl
  have hc : ¬ (!Builtin.List.listFitsIndex k) = true := by
    have : Builtin.List.listFitsIndex k = true := by
      unfold Builtin.List.listFitsIndex
      rw [Bool.and_eq_true]
      exact ⟨decide_eq_true (by omega), decide_eq_true (by omega)⟩
    rw [this]; decide
  have hz : vs.toArray.size ≤ sizeLine := by
    rw [List.size_toArray, sizeLine_eq]
    exact Nat.le_trans (Nat.le_of_lt hs) (by decide)
  refine call_meets PySem.F.slot_list_insert ⟨_, hl, rfl⟩ PySem.F.entry_list_insert (PySem.F.args_list_insert_3 _ _ _) (PySem.AutoSeq1.list_insert_list_int_val_1 D vs.toArray n k u y hc hz) ⟨hl, h _ (Heap.SameBut.update ..) ?_⟩
  have q := PySem.IsL.update (h := s.heap) (l := D) (items := vs.toArray) (n := n) hl (fun xs => have j := if k < 0 then (k + (xs.size : Int)).toNat else min k.toNat xs.size; (xs.extract 0 j).push y ++ xs.extract j)
  have e : ((fun xs : Array Value => have j := if k < 0 then (k + (xs.size : Int)).toNat else min k.toNat xs.size; (xs.extract 0 j).push y ++ xs.extract j) vs.toArray) = (vs.take r ++ y :: vs.drop r).toArray := by
    have hk : (if k < 0 then (k + (vs.toArray.size : Int)).toNat else min k.toNat vs.toArray.size) = r := by
      subst hkr
      rw [if_neg (by omega), Int.toNat_natCast, List.size_toArray]; omega
    dsimp only
    rw [hk, kl_ins_eq]
  exact ⟨_, Eq.mp (congrArg (fun z => IsL _ D z _) e) q⟩
theorem insertPlain {prog : Program} {D : Addr} {vs : List Value} {r : Nat} {u : Tok} {y : Value} (hl : s.heap.PlainList D vs.toArray) (hr : r ≤ vs.length) (hs : vs.length < 2 ^ 20)
    (h : ∀ h', Heap.SameBut D s.heap h' → h'.PlainList D (vs.take r ++ y :: vs.drop r).toArray → Q .none { s with heap := h' }) :
    wpAny (model prog w) A (call (.builtin "list.insert") [.ref D, .int r u, y]) Q E s := insertPlain' rfl hl hr hs h
theorem PlainList.noDict {h : Heap} {D : Addr} {its : Array Value} (hl : h.PlainList D its) : h.NoDictAt (.ref D) := let ⟨_, e⟩ := hl; ⟨_, e, rfl⟩
theorem insL (C : Cx w mean mg mb A s.heap) (hd : A.depth + 35 < recursionLimit) (hu : A.units + 290 < cLine) {x y : Int} {tx ty : Tok} {pr : Addr} {ps : List (Int × Int)} {D : Addr} {vs : List Value} 
    (hl : s.heap.PlainList D vs.toArray) (ha : Are (fun (p : Int × Int) v => ∃ a t u, v = .ref a ∧ IsTup s.heap a #[.int p.1 t, .int p.2 u]) vs ps) (hlen : ps.length < 2 ^ 20)
    (hp : IsTup s.heap pr #[.int x tx, .int y ty])
    (mono : ∀ i j (hi : i < ps.length) (hj : j < ps.length), i ≤ j → ps[i].1 ≤ ps[j].1)
    (hQ : ∀ h' tk (r : Nat), (∀ b o, b ≠ D → s.heap.get? b = some o → h'.get? b = some o) → h'.PlainList D (vs.take r ++ .ref pr :: vs.drop r).toArray → r ≤ ps.length → 
      (∀ i (hi : i < ps.length), i < r → ps[i].1 < x) → (∀ i (hi : i < ps.length), r ≤ i → x ≤ ps[i].1) → Q .none { s with heap := h', toks := tk }) :
    wpAny (model prog w) A (call (.ref 41) [.ref D, .ref pr] [("key", .ref 146)]) Q E s := by
  obtain ⟨B, F, X, T, hk⟩ := C
  refine wpAny_call ?_
  (refine' enterP ?k1 ?k2 ?k3 ?k5 ?kA ?kF ?kK ?k6 ?k7 ?k8 ?k9 ?kB ?_ ?c2 ?c3 ?c4 ?c5; (case kA => exact rfl); (case kF => exact rfl); (case kK => assumption); (case k1 => assumption); (case k2 => assumption); (case k3 => assumption); (case k5 => assumption); (case k6 => k_is); (case k7 => k_is); (case k8 => ktr_room); (case k9 => first | exact BindsTo.of_eq rfl | (refine' kp_binds ?kx ?ke; (case kx => k_in); (case ke => exact fun _ => rfl)) | exact binds_K (by k_in) rfl (by k_is) rfl rfl rfl); (case c5 => decide); (case kB => exact locs rfl); (case c2 => exact rfl); (case c3 => exact rfl); (case c4 => exact rfl); k_whole; intro L' h' F' N' B' X' T'; (try dsimp only); (try k_fold))
  k_steps
  refine height_call (Cx.mk B' F' X' T' rfl) (by ktr_room) (by ktr_units) (vs := [.int y ty]) (F'.tup hp) fun h' tk K' => ?_
  (with_reducible rename Fr _ _ _ _ => F')
  replace F' := F'.keeps K'
  have N' : News s.heap L' h' [] := News.nil
  k_steps
  refine bisL_key (Cx.mk B' F' X' T' rfl) (by ktr_room) (by ktr_units) (F'.lst hl.isList) (ha.mono fun p v ⟨a, t, u, e, h⟩ => ⟨a, t, u, e, F'.tup h⟩) hlen (fun i j hi hj hij h => ?_) fun h' tk r u K' hr p1 p2 => ?_
  · have := mono i j hi hj hij
    omega
  (with_reducible rename Fr _ _ _ _ => F')
  replace F' := F'.keeps K'
  have N' : News s.heap L' h' [] := News.nil
  k_steps
  (with_reducible rename Fr _ _ _ _ => F')
  have hl' := hl.at fun o e => F'.keep _ o e
  refine getMethod_list_of PySem.F.slot_list_insert PySem.F.type_list_insert hl'.isList (PlainList.noDict hl') ?_
  k_steps
  refine insertPlain hl' (by rw [ha.len]; exact hr) (by rw [ha.len]; exact hlen) fun h' hs hl'' => ?_
  have hk' : ∀ b o, b ≠ D → s.heap.get? b = some o → h'.get? b = some o := fun b o hb e => hs.extBut b o hb (F'.keep b o e)
  refine wpAny_execs_nil ?_
  refine hQ _ _ r hk' hl'' hr (fun i hi h => by simpa using p1 i hi h) (fun i hi h => ?_)
  have := p2 i hi h
  omega
theorem insR (C : Cx w mean mg mb A s.heap) (hd : A.depth + 35 < recursionLimit) (hu : A.units + 290 < cLine) {x : Str} {t : Tok} {xs : List Str} {D : Addr} {vs : List Value} 
    (hl : s.heap.PlainList D vs.toArray) (ha : Are isStr vs xs) (hlen : xs.length < 2 ^ 20)
    (mono : ∀ i j (hi : i < xs.length) (hj : j < xs.length), i ≤ j → x.cps.toList < xs[i].cps.toList → x.cps.toList < xs[j].cps.toList)
    (hQ : ∀ h' tk (r : Nat), (∀ b o, b ≠ D → s.heap.get? b = some o → h'.get? b = some o) → h'.PlainList D (vs.take r ++ .str x t :: vs.drop r).toArray → r ≤ xs.length → 
      (∀ i (hi : i < xs.length), i < r → ¬ x.cps.toList < xs[i].cps.toList) → (∀ i (hi : i < xs.length), r ≤ i → x.cps.toList < xs[i].cps.toList) → Q .none { s with heap := h', toks := tk }) :
    wpAny (model prog w) A (call (.ref 23) [.ref D, .str x t]) Q E s := by
  obtain ⟨B, F, X, T, hk⟩ := C
  refine wpAny_call ?_
  (refine' enterP ?k1 ?k2 ?k3 ?k5 ?kA ?kF ?kK ?k6 ?k7 ?k8 ?k9 ?kB ?_ ?c2 ?c3 ?c4 ?c5; (case kA => exact rfl); (case kF => exact rfl); (case kK => assumption); (case k1 => assumption); (case k2 => assumption); (case k3 => assumption); (case k5 => assumption); (case k6 => k_is); (case k7 => k_is); (case k8 => ktr_room); (case k9 => first | exact BindsTo.of_eq rfl | (refine' kp_binds ?kx ?ke; (case kx => k_in); (case ke => exact fun _ => rfl)) | exact binds_K (by k_in) rfl (by k_is) rfl rfl rfl); (case c5 => decide); (case kB => exact locs rfl); (case c2 => exact rfl); (case c3 => exact rfl); (case c4 => exact rfl); k_whole; intro L' h' F' N' B' X' T'; (try dsimp only); (try k_fold))
  k_steps
  refine bisR_str4 (Cx.mk B' F' X' T' rfl) (by ktr_room) (by ktr_units) (F'.lst hl.isList) ha hlen mono fun h' tk r u K' hr p1 p2 => ?_
  (with_reducible rename Fr _ _ _ _ => F')
  replace F' := F'.keeps K'
  have N' : News s.heap L' h' [] := News.nil
  k_steps
  (with_reducible rename Fr _ _ _ _ => F')
  have hl' := hl.at fun o e => F'.keep _ o e
  refine getMethod_list_of PySem.F.slot_list_insert PySem.F.type_list_insert hl'.isList (PlainList.noDict hl') ?_
  k_steps
  refine insertPlain hl' (by rw [ha.len]; exact hr) (by rw [ha.len]; exact hlen) fun h' hs hl'' => ?_
  have hk' : ∀ b o, b ≠ D → s.heap.get? b = some o → h'.get? b = some o := fun b o hb e => hs.extBut b o hb (F'.keep b o e)
  refine wpAny_execs_nil ?_
  exact hQ _ _ r hk' hl'' hr p1 p2
end
end Mine

-- part Strip


namespace Mine
/-- a line: so many blanks, a line feed -/
def ln (k : Nat) : Str := ⟨(List.replicate k 32 ++ [10]).toArray⟩
theorem ln_length (k : Nat) : (ln k).length = k + 1 := by
  show (List.replicate k 32 ++ [10]).toArray.size = k + 1
  simp
theorem ln_list (k : Nat) : (ln k).cps.toList = List.replicate k 32 ++ [10] := by
  show (List.replicate k 32 ++ [10]).toArray.toList = _
  simp
theorem ln_char {k i : Nat} (h : i ≤ k) : Txt.item (ln k) (i : Int) = ⟨#[((ln k).cps.toList[i]?).getD 0]⟩ := by
  unfold Txt.item Txt.charAt
  have e : seqIndex? (i : Int) (ln k).length = some i := by
    unfold seqIndex?
    have := ln_length k
    rw [if_neg (by omega : ¬ (i : Int) < 0)]
    have : (decide (0 ≤ (i : Int)) && decide ((i : Int) < ((ln k).length : Int))) = true := by
      rw [Bool.and_eq_true]; exact ⟨decide_eq_true (by omega), decide_eq_true (by omega)⟩
    rw [if_pos this, Int.toNat_natCast]
  rw [e]
  simp
theorem ln_item_end (k : Nat) : Txt.item (ln k) (k : Int) = ⟨#[10]⟩ := by
  rw [ln_char (Nat.le_refl k), ln_list]
  simp
theorem ln_item_lt {k i : Nat} (h : i < k) : Txt.item (ln k) (i : Int) = ⟨#[32]⟩ := by
  rw [ln_char (Nat.le_of_lt h), ln_list]
  rw [List.getElem?_append_left (by simpa using h)]
  simp [h]
theorem ln_slice {k i : Nat} (h : i ≤ k) : Txt.slice (ln k) (some (i : Int)) (some ((k : Int) + 1)) = ln (k - i) := by
  have hl : (ln k).cps.toList.length = k + 1 := by rw [ln_list]; simp
  have q := slice_closes (x := ln k) (i := (i : Int)) (j := (k : Int) + 1) ⟨by omega, by omega, by omega⟩
  rw [eq_of_beq q, ln_list]
  unfold ln
  congr 1
  have e1 : ((k : Int) + 1 - i).toNat = k + 1 - i := by omega
  rw [e1, Int.toNat_natCast]
  rw [List.drop_append_of_le_length (by simpa using h), List.drop_replicate, List.take_of_length_le (by simp; omega)]
theorem ln_fits {k : Nat} (h : k < 1000) : (ln k).length ≤ 1048576 := by rw [ln_length]; exact Nat.le_trans (Nat.succ_le_of_lt h) (by decide)
theorem ln_pred (k : Nat) : ((ln k).length : Int) - 1 = k := by rw [ln_length]; omega
theorem am_step {a i : Nat} (h : ((a - i : Nat) : Int) ≠ 0) : ((a - i : Nat) : Int) - 1 = ((a - (i + 1) : Nat) : Int) ∧ a - (i + 1) < a - i ∧ i + 1 ≤ a := by omega
theorem am_end1 {a i k : Nat} (h : i = k) (hi : i ≤ a) : k - i = k - a := by omega
theorem am_end2 {a i k : Nat} (h : ((a - i : Nat) : Int) = 0) (hi : i ≤ a) : k - i = k - a := by omega
inductive StJ (s : Shared) (L' : Addr) (B : Nat → Tok → Tok → List (Str × Value)) (a k : Nat) : Nat → Shared → Prop
  | mk (h' : Heap) (tk : Nat) (m₀ : Str → Option Value) (i : Nat) (t1 t2 : Tok) (hia : i ≤ a) (hik : i ≤ k) (F : Fr s.heap L' h' (over (B i t1 t2) m₀)) : StJ s L' B a k (a - i) { s with heap := h', toks := tk }
inductive StK (s : Shared) (L' : Addr) (B : Tok → Tok → Tok → List (Str × Value)) : Nat → Shared → Prop
  | mk (h' : Heap) (tk : Nat) (m₀ : Str → Option Value) (t1 t2 t3 : Tok) (F : Fr s.heap L' h' (over (B t1 t2 t3) m₀)) : StK s L' B 0 { s with heap := h', toks := tk }
section
variable {prog : Program} {w : World} {mean : ExcName → Option Value} {mg mb : Str → Option Value} {A : Around} {s : Shared} {Q E : Value → Shared → Prop}
local macro_rules | `(tactic| walk_at "exec While Compare cons nil") => `(tactic| (refine halt_of ?_))
local macro_rules | `(tactic| walk_at "exec While BoolOp cons nil") => `(tactic| (refine halt_of ?_))
local macro_rules | `(tactic| walk_at "exec For Name Name cons nil") => `(tactic| (refine halt_of ?_))
local macro_rules | `(tactic| walk_at "exec For Tuple Call cons nil") => `(tactic| (refine halt_of ?_))
theorem strip_call (C : Cx w mean mg mb A s.heap) (hd : A.depth + 5 < recursionLimit) (hu : A.units + 90 < cLine) {k a : Nat} {t u : Tok} (hk : k < 1000) (ha : a < 1000)
    (hQ : ∀ h' tk r, Ext s.heap h' → Q (.str (ln (k - a)) r) { s with heap := h', toks := tk }) :
    wpAny (model prog w) A (call (.ref 85) [.str (ln k) t, .int a u]) Q E s := by
  have hln : (ln k).length = k + 1 := ln_length k
  have hln2 : (ln k).length ≤ 1048576 := ln_fits hk
  obtain ⟨B, F, X, T, hkk⟩ := C
  refine wpAny_call ?_
  (refine' enterP ?k1 ?k2 ?k3 ?k5 ?kA ?kF ?kK ?k6 ?k7 ?k8 ?k9 ?kB ?_ ?c2 ?c3 ?c4 ?c5; (case kA => exact rfl); (case kF => exact rfl); (case kK => assumption); (case k1 => assumption); (case k2 => assumption); (case k3 => assumption); (case k5 => assumption); (case k6 => k_is); (case k7 => k_is); (case k8 => ktr_room); (case k9 => first | exact BindsTo.of_eq rfl | (refine' kp_binds ?kx ?ke; (case kx => k_in); (case ke => exact fun _ => rfl)) | exact binds_K (by k_in) rfl (by k_is) rfl rfl rfl); (case c5 => decide); (case kB => exact locs rfl); (case c2 => exact rfl); (case c3 => exact rfl); (case c4 => exact rfl); k_whole; intro L' h' F' N' B' X' T'; (try dsimp only); (try k_fold))
  k_steps
  unfold Halt
  (with_reducible rename Fr _ _ _ _ => F')
  refine whileS (StJ s L' (fun i t1 t2 => [("s", .str (ln k) t), ("amount", .int ((a - i : Nat) : Int) t1), ("lpos", .int i t2)]) a k) (n₀ := a) ?_ ?_
  · exact .mk _ _ _ 0 _ _ (Nat.zero_le _) (Nat.zero_le _) (Fr.over F' _ ⟨rfl, rfl, rfl, trivial⟩)
  · rintro n s' ⟨h', tk, m₀, i, t1, t2, hia, hik, F'⟩
    (try dsimp only at F')
    have N' : News s.heap L' h' [] := News.nil
    k_steps
    · unfold Halt
      (with_reducible rename Fr _ _ _ _ => F')
      have hne : ((a - i : Nat) : Int) ≠ 0 := by assumption
      have hc : (Txt.item (ln k) (i : Int) == Str.ofString " ") = true := by assumption
      have hik' : i < k := by
        rcases Nat.lt_or_ge i k with h | h
        · exact h
        · cases Nat.le_antisymm hik h
          rw [ln_item_end] at hc
          exact absurd hc (by decide)
      have e := am_step hne
      rw [e.1] at F'
      exact ⟨a - (i + 1), e.2.1, .mk _ _ _ (i + 1) _ _ e.2.2 hik' (Fr.over F' _ ⟨rfl, rfl, rfl, trivial⟩)⟩
    all_goals (unfold Halt; (with_reducible rename Fr _ _ _ _ => F'))
    all_goals (have e := ln_pred k)
    all_goals rw [e] at F'
    all_goals refine whileS (StK s L' (fun t1 t2 t3 => [("s", .str (ln k) t), ("amount", .int ((a - i : Nat) : Int) t1), ("lpos", .int i t2), ("rpos", .int k t3)])) (n₀ := 0) ?_ ?_
    · exact .mk _ _ _ _ _ _ (Fr.over F' _ ⟨rfl, rfl, rfl, rfl, trivial⟩)
    · rintro n s' ⟨h', tk, m₀, t1, t2, t3, F'⟩
      (try dsimp only at F')
      have N' : News s.heap L' h' [] := News.nil
      have hc : (Txt.item (ln k) (i : Int) == Str.ofString " ") = false := by assumption
      have hik' : i = k := by
        rcases Nat.lt_or_ge i k with h | h
        · rw [ln_item_lt h] at hc
          exact absurd hc (by decide)
        · exact Nat.le_antisymm hik h
      have hfin : ∀ h' tk r, Ext s.heap h' → Q (.str (Txt.slice (ln k) (some (i : Int)) (some ((k : Int) + 1))) r) { s with heap := h', toks := tk } := by
        rw [ln_slice hik]
        have e : k - i = k - a := am_end1 hik' hia
        rw [e]
        exact hQ
      k_steps
      · have hc' : (Txt.item (ln k) (k : Int) == Str.ofString " ") = true := by assumption
        rw [ln_item_end] at hc'
        exact absurd hc' (by decide)
      all_goals (with_reducible rename Fr _ _ _ _ => F')
      all_goals exact hfin _ _ _ F'.keep
    · exact .mk _ _ _ _ _ _ (Fr.over F' _ ⟨rfl, rfl, rfl, rfl, trivial⟩)
    · rintro n s' ⟨h', tk, m₀, t1, t2, t3, F'⟩
      (try dsimp only at F')
      have N' : News s.heap L' h' [] := News.nil
      have hia' : ((a - i : Nat) : Int) = 0 := by assumption
      have hfin : ∀ h' tk r, Ext s.heap h' → Q (.str (Txt.slice (ln k) (some (i : Int)) (some ((k : Int) + 1))) r) { s with heap := h', toks := tk } := by
        rw [ln_slice hik]
        have e : k - i = k - a := am_end2 hia' hia
        rw [e]
        exact hQ
      k_steps
      all_goals first
        | (exfalso; exact absurd hia' (by assumption))
        | ((with_reducible rename Fr _ _ _ _ => F'); exact hfin _ _ _ F'.keep)
end
end Mine

-- part For

namespace Mine
section
variable {prog : Program} {w : World} {mean : ExcName → Option Value} {mg mb : Str → Option Value} {A : Around} {s : Shared} {Q E : Value → Shared → Prop}
variable {prog : Program} {env : Env} {QF : Flow → Shared → Prop} {h₀ : Heap} {m : Str → Option Value} {news : List (Addr × Obj)}
def TurnEnd (h₀ : Heap) (L : Addr) (s : Shared) (Jn : Array GenState → (Str → Option Value) → List (Addr × Obj) → Prop) (I : Addr) (o : Obj) (s₃ : Shared) : Prop :=
  ∃ h' tk' g' m₂ news₂, s₃ = { s with heap := h', toks := tk', gens := g' } ∧ Fr h₀ L h' m₂ ∧ News h₀ L h' ((I, o) :: news₂) ∧ (∀ p ∈ news₂, p.1 ≠ I) ∧ Jn g' m₂ news₂
/-- a for over a list of the base heap; J is told of what has been made since -/
theorem forN {target : PySem.Expr} {nm : Str} {np : Pos} {body : List Stmt} {pos : Pos} {l : Addr} {vs : List Value} (J : Nat → Array GenState → (Str → Option Value) → List (Addr × Obj) → Prop)
    (F : Fr h₀ env.locals s.heap m) (N : News h₀ env.locals s.heap news) (hl : h₀.IsList l vs.toArray) (hJ : J 0 s.gens m news) (hh : A.handled = none)
    (he : ∀ (Q : Value → Shared → Prop), Q (.ref l) s → wpAny (model prog w) A (eval (.Name nm np) env) Q E s)
    (turn : ∀ i v m₁ news₁ I o h tk g, vs[i]? = some v → J i g m₁ news₁ → Fr h₀ env.locals h m₁ → News h₀ env.locals h ((I, o) :: news₁) → (∀ p ∈ news₁, p.1 ≠ I) → 
      wpAny (model prog w) A (assign target env v) (fun _ s₂ => wpAny (model prog w) A (execs body env) (fun f s₃ => match f with
          | .next | .cont => TurnEnd h₀ env.locals s (J (i + 1)) I o s₃
          | .brk => QF .next s₃
          | .ret v => QF (.ret v) s₃) (fun _ _ => False) s₂) (fun _ _ => False) { s with heap := h, toks := tk, gens := g })
    (done : ∀ m₁ news₁ h tk g, J vs.length g m₁ news₁ → Fr h₀ env.locals h m₁ → News h₀ env.locals h news₁ → QF .next { s with heap := h, toks := tk, gens := g })
    (hs : ∀ x, foldedSetIterable (.Name nm np) env x = pure x := by intro _; rfl) (ht : ∀ it v, letOwnedTupleGo target it v = pure () := by intro _ _; rfl) :
    wpAny (model prog w) A (exec (.For target (.Name nm np) body [] pos) env) QF E s := by
  have hlt : l < s.heap.objs.size := by obtain ⟨o, ho, _⟩ := F.lst hl; exact Heap.lt_size ho
  have lL : env.locals < s.heap.objs.size := F.ns.lt
  refine forS (l := l) (vs := vs) (fun i I s' => I = s.heap.objs.size ∧ ∃ h tk g m₁ news₁ o, s' = { s with heap := h, toks := tk, gens := g } ∧ Fr h₀ env.locals h m₁ ∧ News h₀ env.locals h ((I, o) :: news₁) ∧ (∀ p ∈ news₁, p.1 ≠ I) ∧ 
      (∀ h' : Heap, h'.get? I = some o → h'.IsListIter I l i) ∧ J i g m₁ news₁) ?_ ?_ ?_ ?_ hh hs ht
  · refine he _ ⟨rfl, F.lst hl, hlt, fun h' hk hit => ⟨rfl, h', s.toks, s.gens, m, news, ?_⟩⟩
    obtain ⟨o, ho, r⟩ := hit
    refine ⟨o, rfl, F.keeps hk, fun p hp => ?_, fun p hp e => ?_, fun h'' e => ⟨o, e, r⟩, hJ⟩
    · rcases List.mem_cons.mp hp with rfl | hp
      · exact ⟨ho, Nat.ne_of_gt lL, Heap.get?_none_of_le (Nat.le_trans F.above (Nat.le_of_lt lL))⟩
      · exact ⟨hk _ _ (N p hp).1, (N p hp).2⟩
    · exact absurd (Heap.lt_size (N p hp).1) (by rw [e]; exact Nat.lt_irrefl _)
  · rintro i I s' ⟨rfl, h, tk, g, m₁, news₁, o, rfl, F₁, N₁, hn, hit, hj⟩
    exact ⟨hit _ (N₁ _ (.head _)).1, F₁.lst hl⟩
  · rintro i v I s' h' ⟨rfl, h, tk, g, m₁, news₁, o, rfl, F₁, N₁, hn, hit, hj⟩ hv hit' hsb
    obtain ⟨o', ho', r'⟩ := hit'
    have nI := N₁ _ (.head _)
    have F₂ : Fr h₀ env.locals h' m₁ := kas_fr F₁ hsb nI.2.1 nI.2.2
    have N₂ : News h₀ env.locals h' ((s.heap.objs.size, o') :: news₁) := fun p hp => by
      rcases List.mem_cons.mp hp with rfl | hp
      · exact ⟨ho', nI.2⟩
      · have q := N₁ p (.tail _ hp)
        exact ⟨(hsb.2 _ (hn p hp)).trans q.1, q.2⟩
    refine wpAny_mono (turn i v m₁ news₁ _ o' h' tk g hv hj F₂ N₂ hn) (fun _ s₂ h₂ => wpAny_mono h₂ (fun f s₃ h₃ => ?_) fun _ _ e => e) fun _ _ e => e
    have fin : TurnEnd h₀ env.locals s (J (i + 1)) s.heap.objs.size o' s₃ → Halt (s.heap.objs.size = s.heap.objs.size ∧ ∃ h tk g m₁ news₁ o, s₃ = { s with heap := h, toks := tk, gens := g } ∧ Fr h₀ env.locals h m₁ ∧ News h₀ env.locals h ((s.heap.objs.size, o) :: news₁) ∧ (∀ p ∈ news₁, p.1 ≠ s.heap.objs.size) ∧ 
        (∀ h' : Heap, h'.get? s.heap.objs.size = some o → h'.IsListIter s.heap.objs.size l (i + 1)) ∧ J (i + 1) g m₁ news₁) := by
      rintro ⟨h₃, tk₃, g₃, m₃, news₃, e, F₃, N₃, hn₃, hj₃⟩
      exact ⟨rfl, h₃, tk₃, g₃, m₃, news₃, o', e, F₃, N₃, hn₃, fun h'' e => ⟨o', e, r'⟩, hj₃⟩
    cases f with
    | next => exact fin h₃
    | cont => exact fin h₃
    | brk => exact h₃
    | ret v => exact h₃
  · rintro I s' h' ⟨rfl, h, tk, g, m₁, news₁, o, rfl, F₁, N₁, hn, hit, hj⟩ hk
    have nI := N₁ _ (.head _)
    refine done m₁ news₁ h' tk g hj ⟨F₁.ns.at' fun o e => hk _ o (Ne.symm nI.2.1) e, fun b o e => hk b o (fun q => by rw [q, nI.2.2] at e; cases e) (F₁.keep b o e), F₁.above⟩ fun p hp => ?_
    have q := N₁ p (.tail _ hp)
    exact ⟨hk _ _ (hn p hp) q.1, q.2⟩
theorem TurnEnd.intro {L I : Addr} {o : Obj} {Jn : Array GenState → (Str → Option Value) → List (Addr × Obj) → Prop} {h' : Heap} {tk' : Nat} {g' : Array GenState} {m₂ : Str → Option Value} {news₂ : List (Addr × Obj)} 
    (F : Fr h₀ L h' m₂) (N : News h₀ L h' ((I, o) :: news₂)) (hn : ∀ p ∈ news₂, p.1 ≠ I) (hj : Jn g' m₂ news₂) : TurnEnd h₀ L s Jn I o { s with heap := h', toks := tk', gens := g' } :=
  ⟨h', tk', g', m₂, news₂, rfl, F, N, hn, hj⟩
end
end Mine

-- part Count


namespace Mine
section
variable {prog : Program} {w : World} {mean : ExcName → Option Value} {mg mb : Str → Option Value} {A : Around} {s : Shared} {Q E : Value → Shared → Prop}
local macro_rules | `(tactic| walk_at "exec While Compare cons nil") => `(tactic| (refine halt_of ?_))
local macro_rules | `(tactic| walk_at "exec While BoolOp cons nil") => `(tactic| (refine halt_of ?_))
local macro_rules | `(tactic| walk_at "exec For Name Name cons nil") => `(tactic| (refine halt_of ?_))
local macro_rules | `(tactic| walk_at "exec For Tuple Call cons nil") => `(tactic| (refine halt_of ?_))
theorem is_int {M : Model} {p q : Int} {t u : Tok} (ht : t ≠ 0) (hu : u ≠ 0) (hne : t ≠ u) (hp : smallInt p = true) (h : Q (.bool (p == q)) s) : wpAny M A (compareOp .Is (.int p t) (.int q u)) Q E s := by
  show wpAny M A (do return .bool (← isSame (.int p t) (.int q u))) Q E s
  have h0 : (t == 0 || u == 0) = false := by
    rw [Bool.or_eq_false_iff]; exact ⟨beq_eq_false_iff_ne.mpr ht, beq_eq_false_iff_ne.mpr hu⟩
  have h1 : (t == u) = false := beq_eq_false_iff_ne.mpr hne
  refine wpAny_bind ?_
  unfold isSame
  dsimp only
  cases hpq : (p == q) with
  | true =>
    rw [hp, if_pos (by rfl)]
    unfold isSame.cachedInt
    rw [h0]
    simp only [Bool.false_eq_true, if_false]
    exact wpAny_bind (wpAny_rule (wpAny_pure (wpAny_pure (by rw [hpq] at h; exact h))))
  | false =>
    rw [if_neg (by simp)]
    unfold isSame.created
    rw [h0, h1]
    simp only [Bool.false_eq_true, if_false, Bool.not_false, if_true]
    exact wpAny_pure (wpAny_pure (by rw [hpq] at h; exact h))
theorem count_call (C : Cx w mean mg mb A s.heap) (hd : A.depth + 5 < recursionLimit) (hu : A.units + 90 < cLine) {k : Int} {t : Tok} {l : Addr} {vs : List Value} {ns : List Int}
    (hl : s.heap.IsList l vs.toArray) (ha : Are (fun n v => ∃ t', v = .int n t' ∧ 0 < t' ∧ t' < t ∧ smallInt n = true) vs ns)
    (hQ : ∀ h' tk r, Ext s.heap h' → Q (.int (ns.count k : Nat) r) { s with heap := h', toks := tk }) :
    wpAny (model prog w) A (call (.ref 113) [.ref l, .int k t]) Q E s := by
  obtain ⟨B, F, X, T, hkk⟩ := C
  refine wpAny_call ?_
  (refine' enterP ?k1 ?k2 ?k3 ?k5 ?kA ?kF ?kK ?k6 ?k7 ?k8 ?k9 ?kB ?_ ?c2 ?c3 ?c4 ?c5; (case kA => exact rfl); (case kF => exact rfl); (case kK => assumption); (case k1 => assumption); (case k2 => assumption); (case k3 => assumption); (case k5 => assumption); (case k6 => k_is); (case k7 => k_is); (case k8 => ktr_room); (case k9 => first | exact BindsTo.of_eq rfl | (refine' kp_binds ?kx ?ke; (case kx => k_in); (case ke => exact fun _ => rfl)) | exact binds_K (by k_in) rfl (by k_is) rfl rfl rfl); (case c5 => decide); (case kB => exact locs rfl); (case c2 => exact rfl); (case c3 => exact rfl); (case c4 => exact rfl); k_whole; intro L' h' F' N' B' X' T'; (try dsimp only); (try k_fold))
  k_steps
  unfold Halt
  (with_reducible rename Fr _ _ _ _ => F')
  (with_reducible rename News _ _ _ _ => N'); (try k_sweep)
  refine forN (news := []) (fun i g m news => g = s.gens ∧ news = [] ∧ ∃ m₀ t2, m = over [("a", .ref l), ("b", .int k t), ("count", .int (((ns.take i).count k : Nat) : Int) t2)] m₀)
    (Fr.over F' [("a", .ref l), ("b", .int k t), ("count", .int 0 _)] ⟨rfl, rfl, rfl, trivial⟩) N' hl ⟨rfl, rfl, _, _, rfl⟩ rfl ?_ ?_ ?_
  · intro Q' hq
    with_unfolding_all refine ld F' (by rfl) ?_
    exact hq
  · rintro i v m₁ news₁ I o h tk g hv ⟨rfl, rfl, m₀, t2, rfl⟩ F' N' hn
    obtain ⟨n, hn', t3, rfl, h3, h4, hsm⟩ := ha.of hv
    have hlt : i < ns.length := (List.getElem?_eq_some_iff.mp hn').1
    have hni : ns[i] = n := (List.getElem?_eq_some_iff.mp hn').2
    have hcnt : (((ns.take (i + 1)).count k : Nat) : Int) = ((ns.take i).count k : Nat) + (if n = k then 1 else 0) := by
      rw [List.take_add_one, hn', List.count_append]
      by_cases h : n = k
      · subst h; simp
      · simp [h]
    k_steps
    refine is_int (Nat.ne_of_gt h3) (Nat.ne_of_gt (Nat.lt_trans h3 h4)) (Nat.ne_of_lt h4) hsm ?_
    k_steps
    all_goals ((with_reducible rename Fr _ _ _ _ => F'); (with_reducible rename News _ _ _ _ => N'); (try k_sweep))
    all_goals first
      | (have hc : n = k := by first | assumption | (apply eq_of_beq; assumption)
         rw [if_pos hc] at hcnt
         rw [← hcnt] at F'
         exact TurnEnd.intro (Fr.over F' [("a", .ref l), ("b", .int k t), ("count", .int _ _)] ⟨rfl, rfl, rfl, trivial⟩) N' hn ⟨rfl, rfl, _, _, rfl⟩)
      | (have hc : n ≠ k := by first | assumption | (apply ne_of_beq_false; assumption) | (intro q; simp_all)
         rw [if_neg hc, Int.add_zero] at hcnt
         rw [← hcnt] at F'
         exact TurnEnd.intro (Fr.over F' [("a", .ref l), ("b", .int k t), ("count", .int _ _)] ⟨rfl, rfl, rfl, trivial⟩) N' hn ⟨rfl, rfl, _, _, rfl⟩)
  · rintro m₁ news₁ h tk g ⟨rfl, rfl, m₀, t2, rfl⟩ F' N'
    rw [ha.len, List.take_length] at F'
    k_steps
    exact hQ _ _ _ F'.keep
end
end Mine

-- part ForT

namespace Mine
section
variable {prog : Program} {w : World} {mean : ExcName → Option Value} {mg mb : Str → Option Value} {A : Around} {s : Shared} {Q E : Value → Shared → Prop}
variable {prog : Program} {env : Env} {QF : Flow → Shared → Prop} {h₀ : Heap}
/-- a ledger of all that has been made since, as one letter -/
theorem keepAll {h : Heap} {L : Addr} {m : Str → Option Value} (F : Fr h₀ L h m) : ∃ own, News h₀ L h own ∧ ∀ h' m', Fr h₀ L h' m' → News h₀ L h' own → ∀ b o, b ≠ L → h.get? b = some o → h'.get? b = some o := by
  have hL : L ∉ (List.range h.objs.size).filter (fun b => b != L) := fun q => by
    have := (List.mem_filter.mp q).2
    simp at this
  refine ⟨ownOf h₀ ((List.range h.objs.size).filter (fun b => b != L)) h, news_ownOf hL, fun h' m' F' N' b o hb e => ?_⟩
  cases q : h₀.get? b with
  | some o₀ =>
    have := F.keep b o₀ q
    rw [e] at this
    rw [Option.some.inj this]
    exact F'.keep b o₀ q
  | none =>
    have hm : b ∈ (List.range h.objs.size).filter (fun b => b != L) := List.mem_filter.mpr ⟨List.mem_range.mpr (Heap.lt_size e), bne_iff_ne.mpr hb⟩
    exact (N' _ (mem_ownOf hm q e)).1
def TurnEndT (h₀ : Heap) (L : Addr) (s : Shared) (Jn : Array GenState → (Str → Option Value) → List (Addr × Obj) → Prop) (own : List (Addr × Obj)) (wr : List Addr) (s₃ : Shared) : Prop :=
  ∃ h' tk' g' m₂ news₂, s₃ = { s with heap := h', toks := tk', gens := g' } ∧ Fr h₀ L h' m₂ ∧ News h₀ L h' (news₂ ++ own) ∧ (∀ p ∈ news₂, p.1 ∉ wr) ∧ Jn g' m₂ news₂
theorem TurnEndT.intro {L : Addr} {own : List (Addr × Obj)} {wr : List Addr} {Jn : Array GenState → (Str → Option Value) → List (Addr × Obj) → Prop} {h' : Heap} {tk' : Nat} {g' : Array GenState} {m₂ : Str → Option Value} {news₂ : List (Addr × Obj)} 
    (F : Fr h₀ L h' m₂) (N : News h₀ L h' (news₂ ++ own)) (hn : ∀ p ∈ news₂, p.1 ∉ wr) (hj : Jn g' m₂ news₂) : TurnEndT h₀ L s Jn own wr { s with heap := h', toks := tk', gens := g' } :=
  ⟨h', tk', g', m₂, news₂, rfl, F, N, hn, hj⟩
/-- a for whose turns take a pair apart -/
theorem forT {xa xb : Str} {pk pv pt pos : Pos} {x1 : Nat} {iter : PySem.Expr} {body orelse : List Stmt} (J : Nat → Array GenState → (Str → Option Value) → List (Addr × Obj) → Prop) (P2 : Nat → Value → Value → Prop) (n : Nat)
    (hh : A.handled = none) (hxa : env.kindOf xa = some .local) (hxb : env.kindOf xb = some .local) (hp : (env.scope.kind == .class || (env.scope.kind == .module && env.locals != env.globals)) = false)
    (fp wr : List Addr)
    (h : wpAny (model prog w) A (eval iter env) (fun xv s₁ => wpAny (model prog w) A (pyIter xv) (fun it s₂ => ∃ I Pt St Mid h' tk g m news, it = .ref I ∧ s₂ = { s with heap := h', toks := tk, gens := g } ∧
      WalksT prog w A I fp wr n Pt St Mid ∧ (∀ i vals, Pt i vals → ∃ v0 v1, vals = #[v0, v1] ∧ P2 i v0 v1) ∧ St 0 h' ∧ env.locals ∉ fp ∧ (∀ b ∈ wr, h₀.get? b = none) ∧ (∀ p ∈ news, p.1 ∉ wr) ∧ Fr h₀ env.locals h' m ∧ News h₀ env.locals h' news ∧ J 0 g m news) E s₁) E s)
    (turn : ∀ i v0 v1 m₁ news₁ own h tk g, i < n → P2 i v0 v1 → J i g m₁ news₁ → (∀ p ∈ own, p.1 ∈ fp) → (∀ p ∈ news₁, p.1 ∉ wr) → Fr h₀ env.locals h (fun y => if y = xb then some v1 else if y = xa then some v0 else m₁ y) → News h₀ env.locals h (news₁ ++ own) →
      wpAny (model prog w) A (execs body env) (fun f s₃ => match f with
          | .next | .cont => TurnEndT h₀ env.locals s (J (i + 1)) own wr s₃
          | .brk => QF .next s₃
          | .ret v => QF (.ret v) s₃) (fun _ _ => False) { s with heap := h, toks := tk, gens := g })
    (done : ∀ m₁ news₁ h tk g, J n g m₁ news₁ → Fr h₀ env.locals h m₁ → News h₀ env.locals h news₁ → wpAny (model prog w) A (execs orelse env) (fun f s₃ => QF f s₃) (fun _ _ => False) { s with heap := h, toks := tk, gens := g })
    (hs : ∀ x, foldedSetIterable iter env x = pure x := by intro _; rfl) :
    wpAny (model prog w) A (exec (.For (.Tuple [.Name xa pk, .Name xb pv] x1 pt) iter body orelse pos) env) QF E s := by
  refine wpAny_For (wpAny_mono h (fun xv s₁ h₁ => wpAny_mono h₁ (fun it s₂ h₂ => ?_) fun _ _ e => e) fun _ _ e => e) hs
  obtain ⟨I, Pt, St, Mid, h₂, tk₂, g₂, m₂, news₂, rfl, rfl, W, hP, hst, hLf, hwr, hnw, F, N, hJ⟩ := h₂
  have hLw : env.locals ∉ wr := fun q => hLf (W.sub _ q)
  have old : ∀ b o, h₀.get? b = some o → b ∉ wr := fun b o e hb => by rw [hwr b hb] at e; cases e
  refine codeAny_forLoop_any (fun k s' => ∃ i h' tk g m' news', s' = { s with heap := h', toks := tk, gens := g } ∧ St i h' ∧ Fr h₀ env.locals h' m' ∧ News h₀ env.locals h' news' ∧ (∀ p ∈ news', p.1 ∉ wr) ∧ J i g m' news' ∧ i ≤ n ∧ k = n + 1 - i) ?_ (n + 1)
    ⟨0, h₂, tk₂, g₂, m₂, news₂, rfl, hst, F, N, hnw, hJ, Nat.zero_le _, rfl⟩
  rintro k s' ⟨i, h', tk, g, m', news', rfl, hst', F', N', hn', hJ', hi, rfl⟩
  have carry : ∀ h₁ : Heap, (∀ b o, b ∉ wr → h'.get? b = some o → h₁.get? b = some o) → Fr h₀ env.locals h₁ m' ∧ News h₀ env.locals h₁ news' := fun h₁ hk =>
    ⟨⟨F'.ns.at' fun o e => hk _ o hLw e, fun b o e => hk b o (old b o e) (F'.keep b o e), F'.above⟩, fun p hp => ⟨hk _ _ (hn' p hp) (N' p hp).1, (N' p hp).2⟩⟩
  rcases Nat.lt_or_ge i n with hlt | hge
  · refine W.item i _ _ _ hlt hst' fun T vals h₁ tk₁ hPt _ hT hMid hk₁ => ?_
    obtain ⟨v0, v1, rfl, hP2⟩ := hP i vals hPt
    refine W.go _ x1 pt i T _ _ _ hMid fun h₃ hst₃ hk₃ => ?_
    have hT₃ : h₃.IsTuple T #[v0, v1] := hT.at fun o e => hk₃ T o (W.apart i T h₁ hMid) e
    refine wpAny_assign_Tuple hh hT₃ rfl rfl fun h₄ hx₄ => ?_
    have up : ∀ b o, h₃.get? b = some o → h₄.get? b = some o := fun b o e => hx₄ b o (Nat.ne_of_lt (Heap.lt_size e)) e
    obtain ⟨F₄, N₄⟩ := carry h₄ fun b o hb e => up b o (hk₃ b o hb (hk₁ b o hb e))
    show wpAny _ A (do holding [v1] (assign (.Name xa pk) env v0); do holding [] (assign (.Name xb pv) env v1); pure ()) _ _ _
    refine wpAny_bind (wpAny_holding (wpAny_assign_Name (wpAny_storeName_local hxa F₄.ns (fun h₅ hn₅ hs₅ => ?_) hp)))
    have F₅ := F₄.set hn₅ hs₅
    refine wpAny_bind (wpAny_holding (wpAny_assign_Name (wpAny_storeName_local hxb F₅.ns (fun h₆ hn₆ hs₆ => wpAny_pure ?_) hp)))
    have F₆ := F₅.set hn₆ hs₆
    have N₆ : News h₀ env.locals h₆ news' := (N₄.set hs₅).set hs₆
    have hst₆ : St (i + 1) h₆ := W.frame _ _ _ hst₃ fun b hb o e => (hs₆.2 b fun q => hLf (q ▸ hb)).trans ((hs₅.2 b fun q => hLf (q ▸ hb)).trans (up b o e))
    have Nown : News h₀ env.locals h₆ (ownOf h₀ fp h₆) := news_ownOf hLf
    have N₇ : News h₀ env.locals h₆ (news' ++ ownOf h₀ fp h₆) := fun p hp => (List.mem_append.mp hp).elim (N₆ p) (Nown p)
    refine wpAny_mono (turn i v0 v1 m' news' (ownOf h₀ fp h₆) h₆ _ g hlt hP2 hJ' ownOf_sub hn' F₆ N₇) (fun f s₃ h₃ => ?_) fun _ _ e => e.elim
    have fin : TurnEndT h₀ env.locals s (J (i + 1)) (ownOf h₀ fp h₆) wr s₃ → ∃ m, m < n + 1 - i ∧ ∃ i h' tk g m' news', s₃ = { s with heap := h', toks := tk, gens := g } ∧ St i h' ∧ Fr h₀ env.locals h' m' ∧ News h₀ env.locals h' news' ∧ (∀ p ∈ news', p.1 ∉ wr) ∧ J i g m' news' ∧ i ≤ n ∧ m = n + 1 - i := by
      rintro ⟨h₇, tk₇, g₇, m₇, news₇, rfl, F₇, N₇, hn₇, hJ₇⟩
      refine ⟨n + 1 - (i + 1), by omega, i + 1, h₇, tk₇, g₇, m₇, news₇, rfl, W.frame _ _ _ hst₆ fun b hb o e => ?_, F₇, fun p hp => N₇ p (List.mem_append_left _ hp), hn₇, hJ₇, hlt, rfl⟩
      cases hb₀ : h₀.get? b with
      | some o₀ =>
        have q := F₆.keep b o₀ hb₀
        rw [e] at q
        rw [Option.some.inj q]
        exact F₇.keep b o₀ hb₀
      | none => exact (N₇ _ (List.mem_append_right _ (mem_ownOf hb hb₀ e))).1
    cases f with
    | next => exact fin h₃
    | cont => exact fin h₃
    | brk => exact h₃
    | ret v => exact h₃
  · have hin : i = n := by omega
    subst hin
    refine W.done _ _ _ hst' fun h₁ tk₁ hk₁ => ?_
    obtain ⟨F₁, N₁⟩ := carry h₁ hk₁
    exact wpAny_mono (done m' news' h₁ tk₁ g hJ' F₁ N₁) (fun _ _ x => x) fun _ _ e => e.elim
end
end Mine

-- part Index


namespace Mine
section
variable {prog : Program} {w : World} {mean : ExcName → Option Value} {mg mb : Str → Option Value} {A : Around} {s : Shared} {Q E : Value → Shared → Prop}
local macro_rules | `(tactic| walk_at "exec While Compare cons nil") => `(tactic| (refine halt_of ?_))
local macro_rules | `(tactic| walk_at "exec While BoolOp cons nil") => `(tactic| (refine halt_of ?_))
local macro_rules | `(tactic| walk_at "exec For Name Name cons nil") => `(tactic| (refine halt_of ?_))
local macro_rules | `(tactic| walk_at "exec For Tuple Call cons nil") => `(tactic| (refine halt_of ?_))
local macro_rules | `(tactic| walk_at "call type:enumerate") => `(tactic| (refine halt_of ?_))
theorem index_call (C : Cx w mean mg mb A s.heap) (hd : A.depth + 5 < recursionLimit) (hu : A.units + 90 < cLine) {l : Addr} {vs : List Value} {bs : List Bool}
    (hl : s.heap.IsList l vs.toArray) (ha : Are (fun b v => v = .bool b) vs bs) (hb : ∃ j : Nat, bs[j]? = some true)
    (hQ : ∀ h' tk r (j : Nat), Ext s.heap h' → bs[j]? = some true → (∀ i, i < j → bs[i]? = some false) → Q (.int j r) { s with heap := h', toks := tk }) :
    wpAny (model prog w) A (call (.ref 127) [.ref l, .bool true]) Q E s := by
  obtain ⟨B, F, X, T, hkk⟩ := C
  refine wpAny_call ?_
  (refine' enterP ?k1 ?k2 ?k3 ?k5 ?kA ?kF ?kK ?k6 ?k7 ?k8 ?k9 ?kB ?_ ?c2 ?c3 ?c4 ?c5; (case kA => exact rfl); (case kF => exact rfl); (case kK => assumption); (case k1 => assumption); (case k2 => assumption); (case k3 => assumption); (case k5 => assumption); (case k6 => k_is); (case k7 => k_is); (case k8 => ktr_room); (case k9 => first | exact BindsTo.of_eq rfl | (refine' kp_binds ?kx ?ke; (case kx => k_in); (case ke => exact fun _ => rfl)) | exact binds_K (by k_in) rfl (by k_is) rfl rfl rfl); (case c5 => decide); (case kB => exact locs rfl); (case c2 => exact rfl); (case c3 => exact rfl); (case c4 => exact rfl); k_whole; intro L' h' F' N' B' X' T'; (try dsimp only); (try k_fold))
  k_steps
  have hl' := F'.lst hl
  refine forT (h₀ := s.heap) (fun i g m news => g = s.gens ∧ news = [] ∧ (∀ j, j < i → bs[j]? = some false) ∧ ∃ m₀, m = over [("a", .ref l), ("b", .bool true)] m₀) (fun i v0 v1 => ∃ t x, vs.toArray[i]? = some x ∧ v0 = .int i t ∧ v1 = x) vs.length rfl rfl rfl rfl
    [h'.objs.size + 1, h'.objs.size, l] [h'.objs.size + 1, h'.objs.size] ?_ ?_ ?_
  · k_steps
    unfold Halt
    refine call_enumerate_list hl' fun h₂ he hit hsz hk => ?_
    have hlt : @LT.lt Nat _ l h'.objs.size := by obtain ⟨o, ho, _⟩ := hl'; exact Heap.lt_size ho
    have hLt : @LT.lt Nat _ L' h'.objs.size := F'.ns.lt
    have hab : @LE.le Nat _ s.heap.objs.size L' := F'.above
    have st : (∃ old, IsEnum h₂ (h'.objs.size + 1) h'.objs.size (0 : Nat) old) ∧ h₂.IsListIter h'.objs.size l 0 ∧ h₂.IsList l vs.toArray := ⟨⟨_, he⟩, hit, hl'.at fun o e => hk _ o e⟩
    have W := fun (A : Around) (hA : A.handled = none) => WalksT.enumerate (prog := prog) (w := w) (A := A) hA (h'.objs.size + 1) h'.objs.size l (Nat.succ_ne_self _) (Nat.ne_of_lt (by omega)) (Nat.ne_of_lt hlt) vs.toArray
    have W' := W
    have evs : vs.toArray.size = vs.length := rfl
    rw [evs] at W'
    refine (W _ rfl).self 0 _ _ _ st ?_
    refine ⟨_, _, _, _, h₂, _, _, _, [], rfl, rfl, W' _ rfl, ?_, st, ?_, ?_, (fun _ h => nomatch h), (Fr.over F' [("a", .ref l), ("b", .bool true)] ⟨rfl, rfl, trivial⟩).keeps hk, News.nil, rfl, rfl, fun j h => absurd h (Nat.not_lt_zero _), _, rfl⟩
    · rintro i vals ⟨t, x, hx, rfl⟩
      exact ⟨_, _, rfl, t, x, hx, rfl, rfl⟩
    · have hl0 : @LT.lt Nat _ l s.heap.objs.size := by obtain ⟨o, ho, _⟩ := hl; exact Heap.lt_size ho
      intro hm
      rcases List.mem_cons.mp hm with e | hm
      · have e' : @Eq Nat L' _ := e
        omega
      · rcases List.mem_cons.mp hm with e | hm
        · have e' : @Eq Nat L' _ := e
          omega
        · have e' : @Eq Nat L' _ := List.mem_singleton.mp hm
          omega
    · intro b hb
      refine Heap.get?_none_of_le ?_
      rcases List.mem_cons.mp hb with hb | hb
      · rw [hb]; show @LE.le Nat _ _ _; omega
      · rw [List.mem_singleton.mp hb]; show @LE.le Nat _ _ _; omega
  · rintro i v0 v1 m₁ news₁ own h tk g hi ⟨t, x, hx, rfl, rfl⟩ ⟨rfl, rfl, hj, m₀, rfl⟩ hown hnw F' N'
    obtain ⟨b, hb', rfl⟩ := ha.of (by simpa using hx)
    k_steps
    · have hc : b = true := by simp_all
      subst hc
      (with_reducible rename Fr _ _ _ _ => F')
      exact hQ _ _ _ i F'.keep hb' hj
    · have hc : b = false := by simp_all
      subst hc
      (with_reducible rename Fr _ _ _ _ => F')
      refine TurnEndT.intro (news₂ := []) (Fr.over F' [("a", .ref l), ("b", .bool true)] ⟨rfl, rfl, trivial⟩) N' (fun _ h => nomatch h) ⟨rfl, rfl, fun j hlt => ?_, _, rfl⟩
      rcases Nat.lt_or_ge j i with h | h
      · exact hj j h
      · have : j = i := by omega
        rw [this]; exact hb'
  · rintro m₁ news₁ h tk g ⟨rfl, rfl, hj, m₀, rfl⟩ F' N'
    exfalso
    obtain ⟨j, hj'⟩ := hb
    have := (List.getElem?_eq_some_iff.mp hj').1
    rw [hj j (by rw [ha.len]; exact this)] at hj'
    cases hj'
end
end Mine

-- part Gen

namespace Mine
section
variable {M : Model} {A : Around} {R : GenEnd} {Y : Protocol} {n : Nat} {s₀ : Shared} {c : Code} {fs : List Frame} {s : Shared} {env : Env}
  {K : Flow → Sem PySem.Fin} {H : Value → Sem PySem.Fin} {gd : Bool → Bool} {lv : List Value → List Value}
abbrev forK (env : Env) (K : Flow → Sem PySem.Fin) (H : Value → Sem PySem.Fin) (gd : Bool → Bool) (lv : List Value → List Value) : Result → Sem PySem.Fin :=
  fun r => ((match r with | .ok f => (.pure f : Sem Flow) | .error e => .raise e).onRaise fun (x : Value) => do
        if (← field x 1) == Value.none then unsupported "frame.own-activation:exception-without-traceback"
        setFlight x env.frame).wrap K H gd lv
theorem seg_For {target iter : PySem.Expr} {body orelse : List Stmt} {pos : Pos} (hs : ∀ x, foldedSetIterable iter env x = pure x)
    (h : wpAny M (A.over c fs) (eval iter env) (fun x s₁ => wpAny M (A.over c fs) (pyIter x) (fun it s₂ => ∀ p, Seg M A R Y n s₀ (.forLoop target it body orelse env) (M.den (.forLoop target it body orelse env))
      (.ret (forK env K H gd lv) none (gd false) (lv []) c p [] :: fs) s₂) (fun x s' => Seg M A R Y n s₀ c (H x) fs s') s₁) (fun x s' => Seg M A R Y n s₀ c (H x) fs s') s) :
    Seg M A R Y n s₀ c ((exec (.For target iter body orelse pos) env).wrap K H gd lv) fs s := by
  rw [exec_For]
  refine seg_bind_wrap (wpAny_standAt ?_)
  refine seg_bind_wrap (wpAny_mono h (fun x s₁ h₁ => ?_) fun _ _ e => e)
  refine seg_bind_wrap (wpAny_of_eq (hs x) ?_)
  refine seg_bind_wrap (wpAny_standAt ?_)
  refine seg_bind_wrap (wpAny_holding (wpAny_mono h₁ (fun it s₂ h₂ => ?_) fun _ _ e => e))
  exact seg_call h₂
theorem seg_If {test : PySem.Expr} {body orelse : List Stmt} {pos : Pos}
    (h : wpAny M (A.over c fs) (isTrue test env (eval test env)) (fun b s₁ => if b = true then Seg M A R Y n s₀ c ((execs body env).wrap K H gd lv) fs s₁ else Seg M A R Y n s₀ c ((execs orelse env).wrap K H gd lv) fs s₁)
      (fun x s' => Seg M A R Y n s₀ c (H x) fs s') s) :
    Seg M A R Y n s₀ c ((exec (.If test body orelse pos) env).wrap K H gd lv) fs s := by
  rw [exec_If]
  refine seg_bind_wrap (wpAny_standAt ?_)
  refine seg_bind_wrap (wpAny_mono h (fun b s₁ h₁ => ?_) fun _ _ e => e)
  cases b with
  | true => 
    rw [if_pos rfl] at h₁
    rw [if_pos rfl]
    exact h₁
  | false =>
    rw [if_neg (by simp)] at h₁
    rw [if_neg (by simp)]
    exact h₁
theorem seg_plain {st : Stmt}
    (h : wpAny M (A.over c fs) (exec st env) (fun f s₁ => Seg M A R Y n s₀ c (K f) fs s₁) (fun x s' => Seg M A R Y n s₀ c (H x) fs s') s) :
    Seg M A R Y n s₀ c ((exec st env).wrap K H gd lv) fs s := seg_wrap h
end
section
variable {prog : Program} {w : World} {A : Around} {R : GenEnd} {Y : Protocol} {n : Nat} {s₀ : Shared} {fs : List Frame} {s : Shared} {env : Env}
abbrev loopH (env : Env) : Value → Sem PySem.Fin := fun e => ((fun x => do noteFrame x env; theTreesLotGoes x : Value → Sem Unit) e).bind fun _ => .raise e
/-- one turn of a generator's for over pairs -/
theorem seg_turnT {xa xb : Str} {pk pv pt : Pos} {x1 : Nat} {I : Addr} {body : List Stmt} {fp wr : List Addr} {k : Nat} {Pt : Nat → Array Value → Prop} {St : Nat → Heap → Prop} {Mid : Nat → Addr → Heap → Prop} {h₀ : Heap} {m : Str → Option Value}
    (c : Code) (hc : c = .forLoop (.Tuple [.Name xa pk, .Name xb pv] x1 pt) (.ref I) body [] env) (hh : (A.over c fs).handled = none) (W : WalksT prog w (A.over c fs) I fp wr k Pt St Mid)
    (hP : ∀ i vals, Pt i vals → ∃ v0 v1, vals = #[v0, v1]) (hxa : env.kindOf xa = some .local) (hxb : env.kindOf xb = some .local) (hp : (env.scope.kind == .class || (env.scope.kind == .module && env.locals != env.globals)) = false)
    (hLf : env.locals ∉ fp) (hwr : ∀ b ∈ wr, h₀.get? b = none) {i : Nat} (hst : St i s.heap) (F : Fr h₀ env.locals s.heap m)
    (item : i < k → ∀ v0 v1 h tk, Pt i #[v0, v1] → St (i + 1) h → Fr h₀ env.locals h (fun y => if y = xb then some v1 else if y = xa then some v0 else m y) → (∀ b o, b ≠ env.locals → b ∉ wr → s.heap.get? b = some o → h.get? b = some o) →
      Seg (model prog w) A R Y n s₀ c ((execs body env).wrap (fun f => match f with
        | .next | .cont => .pure (.again c)
        | .brk => .pure (.done .next)
        | .ret v => .pure (.done (.ret v))) (loopH env) id id) fs { s with heap := h, toks := tk })
    (done : i = k → ∀ h tk, Fr h₀ env.locals h m → (∀ b o, b ∉ wr → s.heap.get? b = some o → h.get? b = some o) → Seg (model prog w) A R Y n s₀ c (.pure (.again (.block [] env))) fs { s with heap := h, toks := tk }) (hik : i ≤ k) :
    Seg (model prog w) A R Y n s₀ c ((model prog w).den c) fs s := by
  subst hc
  have hLw : env.locals ∉ wr := fun q => hLf (W.sub _ q)
  have old : ∀ b o, h₀.get? b = some o → b ∉ wr := fun b o e hb => by rw [hwr b hb] at e; cases e
  have carry : ∀ h₁ : Heap, (∀ b o, b ∉ wr → s.heap.get? b = some o → h₁.get? b = some o) → Fr h₀ env.locals h₁ m := fun h₁ hk =>
    ⟨F.ns.at' fun o e => hk _ o hLw e, fun b o e => hk b o (old b o e) (F.keep b o e), F.above⟩
  show Seg _ A R Y n s₀ _ ((forTurn (.Tuple [.Name xa pk, .Name xb pv] x1 pt) (.ref I) body [] env).onRaise (fun x => do noteFrame x env; theTreesLotGoes x)) fs s
  rw [Sem.onRaise_eq_wrap]
  unfold forTurn
  refine seg_bind_wrap (wpAny_standAt ?_)
  rcases Nat.lt_or_ge i k with hlt | hge
  · refine seg_bind_wrap (wpAny_onRaise (W.item i s _ _ hlt hst fun T vals h₁ tk₁ hPt _ hT hMid hk₁ => ?_))
    obtain ⟨v0, v1, rfl⟩ := hP i vals hPt
    refine seg_bind_wrap (W.go _ x1 pt i T _ _ _ hMid fun h₃ hst₃ hk₃ => ?_)
    have hT₃ : h₃.IsTuple T #[v0, v1] := hT.at fun o e => hk₃ T o (W.apart i T h₁ hMid) e
    refine seg_bind_wrap (wpAny_assign_Tuple hh hT₃ rfl rfl fun h₄ hx₄ => ?_)
    have up : ∀ b o, h₃.get? b = some o → h₄.get? b = some o := fun b o e => hx₄ b o (Nat.ne_of_lt (Heap.lt_size e)) e
    have F₄ := carry h₄ fun b o hb e => up b o (hk₃ b o hb (hk₁ b o hb e))
    show wpAny _ _ (do holding [v1] (assign (.Name xa pk) env v0); do holding [] (assign (.Name xb pv) env v1); pure ()) _ _ _
    refine wpAny_bind (wpAny_holding (wpAny_assign_Name (wpAny_storeName_local hxa F₄.ns (fun h₅ hn₅ hs₅ => ?_) hp)))
    have F₅ := F₄.set hn₅ hs₅
    refine wpAny_bind (wpAny_holding (wpAny_assign_Name (wpAny_storeName_local hxb F₅.ns (fun h₆ hn₆ hs₆ => wpAny_pure ?_) hp)))
    have F₆ := F₅.set hn₆ hs₆
    have hst₆ : St (i + 1) h₆ := W.frame _ _ _ hst₃ fun b hb o e => (hs₆.2 b fun q => hLf (q ▸ hb)).trans ((hs₅.2 b fun q => hLf (q ▸ hb)).trans (up b o e))
    have hk : ∀ b o, b ≠ env.locals → b ∉ wr → s.heap.get? b = some o → h₆.get? b = some o := fun b o hb hw e => (hs₆.2 b hb).trans ((hs₅.2 b hb).trans (up b o (hk₃ b o hw (hk₁ b o hw e))))
    rw [Sem.bind_eq_wrap', Sem.wrap_wrap]
    refine (congrArg (fun t => Seg (model prog w) A R Y n s₀ (.forLoop (.Tuple [.Name xa pk, .Name xb pv] x1 pt) (.ref I) body [] env) t fs _) (Sem.wrap_congr (execs body env) (K' := fun f => match f with
        | .next | .cont => .pure (.again (.forLoop (.Tuple [.Name xa pk, .Name xb pv] x1 pt) (.ref I) body [] env))
        | .brk => .pure (.done .next)
        | .ret v => .pure (.done (.ret v))) (H' := loopH env) _ _ (fun f => ?_) (fun e => ?_))).mpr ?_
    · cases f <;> rfl
    · rfl
    exact item hlt v0 v1 h₆ _ hPt hst₆ F₆ hk
  · have hin : i = k := by omega
    subst hin
    refine seg_bind_wrap (wpAny_onRaise (W.done s _ _ hst fun h₁ tk₁ hk₁ => ?_))
    exact done rfl h₁ tk₁ (carry h₁ hk₁) hk₁
theorem seg_block_nil {k : Result → Sem PySem.Fin} {hd : Option Value} {g : Bool} {l : List Value} {c₁ : Code} {p₁ : Pos} {kp : List Value} {c : Code} (h : Seg (model prog w) A R Y n s₀ c₁ (k (.ok .next)) fs s) :
    Seg (model prog w) A R Y n s₀ c (.pure (.again (.block [] env))) (.ret k hd g l c₁ p₁ kp :: fs) s := by
  refine seg_again rfl ?_
  show Seg _ A R Y n s₀ _ (((execs [] env).onRaise (fun x => do noteFrame x env; theTreesLotGoes x)) >>= fun f => (.pure (.done f) : Sem PySem.Fin)) _ s
  show Seg _ A R Y n s₀ _ (leafOf (.ok .next)) _ s
  exact seg_leaf _ h
end
end Mine

-- part GenFn


namespace Mine
abbrev genScope : Scope := { kind := .function, names := [("addr", .local), ("pos", .local), ("escape", .local), ("ch", .local), ("enumerate", .globalImplicit)], isGenerator := true, isCoroutine := false }
abbrev genE (C : Addr) : Env := envOf "_iter_escaped_chars" genScope C 57 (.ref 56)
/-- what the generator leaves of the objects up to its own -/
def Since (C a : Addr) (s₀ s : Shared) : Prop := ∃ h tk, s = { s₀ with heap := h, toks := tk } ∧ ∀ b o, b ≠ C → @LE.le Nat _ b a → s₀.heap.get? b = some o → h.get? b = some o
theorem Since.refl {C a : Addr} {s : Shared} : Since C a s s := ⟨s.heap, s.toks, rfl, fun _ _ _ _ e => e⟩
theorem Since.step {C a : Addr} {s₀ s : Shared} (x : Since C a s₀ s) {h : Heap} {tk : Nat} (k : ∀ b o, b ≠ C → @LE.le Nat _ b a → s.heap.get? b = some o → h.get? b = some o) : Since C a s₀ { s with heap := h, toks := tk } := by
  obtain ⟨h₁, tk₁, rfl, k₁⟩ := x
  exact ⟨h, tk, rfl, fun b o hb hl e => k b o hb hl (k₁ b o hb hl e)⟩
/-- what is yielded, and when it may go on -/
def genY (x : Str) (C a L : Addr) : Protocol := fun m s₀ v s kap =>
  (∃ i T c t u, i + m + 1 = x.cps.size ∧ v = .ref T ∧ x.cps[i]? = some c ∧ s.heap.IsTuple T #[.int ((i : Nat) : Int) t, .str ⟨#[c]⟩ u] ∧ @LT.lt Nat _ a T) ∧ Since C a s₀ s ∧
    ∀ s'' : Shared, (∀ b o, b ≠ L → s.heap.get? b = some o → s''.heap.get? b = some o) → kap (.send .none) s''
def genR (C a : Addr) : GenEnd := fun n s₀ r s₁ => r = .ok (.ret .none) ∧ (n = 0 ∧ Since C a s₀ s₁)
section
variable {prog : Program} {w : World} {mean : ExcName → Option Value} {mg mb : Str → Option Value} {A : Around} {s : Shared} {Q E : Value → Shared → Prop}
variable {fs : List Frame}
theorem gen_loop {x : Str} {tx : Tok} {C a L e it : Addr} {h₀ : Heap} (hx : ∀ (i c : Nat), x.cps[i]? = some c → c ≠ 92) (hh : A.handled = none)
    (hC : @LT.lt Nat _ C a) (hae : @LT.lt Nat _ a e) (hai : @LT.lt Nat _ a it) (hei : e ≠ it) (hb : @LE.le Nat _ h₀.objs.size C) (hLC : L ≠ C) (hLa : @LT.lt Nat _ L a) (hL0 : h₀.get? L = none)
    {q1 q2 q3 q4 q5 q6 q7 q8 q9 q10 q11 pk pv pt : Pos} {k1 k2 x1 : Nat} {b1 b2 : List Stmt} {kont : Result → Sem PySem.Fin} {c1 : Code} {p1 : Pos} (code : Code)
    (hcode : code = .forLoop (.Tuple [.Name "pos" pk, .Name "ch" pv] x1 pt) (.ref e) [.If (.Name "escape" q1) b1 [.If (.Compare (.Name "ch" q2) [.Eq] [.Constant (.str "\\") k1 q3] q4) b2 [.Expr (.Yield (some (.Tuple [.Name "pos" q5, .Name "ch" q6] k2 q7)) q8) q9] q10] q11] [] (genE C))
    (hend : ∀ (s₀ s : Shared) m, Fr h₀ C s.heap (over [("addr", .str x tx), ("escape", .bool false)] m) → Since C a s₀ s → Seg (model prog w) A (genR C a) (genY x C a L) 0 s₀ c1 (kont (.ok .next)) [] s) :
    ∀ (k i : Nat) (s₀ s : Shared) (m : Str → Option Value), x.cps.size - i = k → i ≤ x.cps.size → (∃ old, IsEnum s.heap e it i old) ∧ s.heap.IsStrIter it "str_ascii_iterator" x tx i →
      Fr h₀ C s.heap (over [("addr", .str x tx), ("escape", .bool false)] m) → Since C a s₀ s →
      Seg (model prog w) A (genR C a) (genY x C a L) (x.cps.size - i) s₀ code (((model prog w)).den code) [.ret kont none false [] c1 p1 []] s := by
  have nfp : (genE C).locals ∉ [e, it] := by
    show ¬ C ∈ [e, it]
    intro hm
    rcases List.mem_cons.mp hm with q | hm
    · have q' : @Eq Nat C e := q
      omega
    · have q' : @Eq Nat C it := List.mem_singleton.mp hm
      omega
  have nwr : ∀ b, @LE.le Nat _ b a → b ∉ [e, it] := fun b hba hm => by
    rcases List.mem_cons.mp hm with q | hm
    · have q' : @Eq Nat b e := q
      omega
    · have q' : @Eq Nat b it := List.mem_singleton.mp hm
      omega
  have hwr : ∀ b ∈ [e, it], h₀.get? b = none := fun b hm => Heap.get?_none_of_le (by
    rcases List.mem_cons.mp hm with q | hm
    · have q' : @Eq Nat b e := q
      show @LE.le Nat _ _ _
      omega
    · have q' : @Eq Nat b it := List.mem_singleton.mp hm
      show @LE.le Nat _ _ _
      omega)
  intro k
  induction k with
  | zero =>
    intro i s₀ s m hk hi hst F hsin
    have hin : i = x.cps.size := by omega
    have W := WalksT.enumerateD (Draws.strAscii (prog := prog) (w := w) (A := (A.over code [.ret kont none false [] c1 p1 []]).in1) hh it x tx) e hei (by simpa using hei) (by simp)
    refine seg_turnT code hcode hh W (fun i vals ⟨t, y, _, h⟩ => ⟨_, _, h⟩) rfl rfl rfl ?_ ?_ hst F (fun hlt => absurd hlt (by omega)) (fun _ h tk F' hk' => ?_) hi
    · exact nfp
    · exact hwr
    refine seg_block_nil ?_
    have e0 : x.cps.size - i = 0 := by omega
    rw [e0]
    exact hend _ _ m F' (hsin.step fun b o hbC hba ho => hk' b o (nwr b hba) ho)
  | succ k ih =>
    intro i s₀ s m hk hi hst F hsin
    have W := WalksT.enumerateD (Draws.strAscii (prog := prog) (w := w) (A := (A.over code [.ret kont none false [] c1 p1 []]).in1) hh it x tx) e hei (by simpa using hei) (by simp)
    refine seg_turnT code hcode hh W (fun i vals ⟨t, y, _, h⟩ => ⟨_, _, h⟩) rfl rfl rfl nfp hwr hst F (fun hlt v0 v1 h tk hPt hst' F' hk' => ?_) (fun hik => absurd hik (by omega)) hi
    obtain ⟨t, y, ⟨c, u, hc, rfl⟩, hv⟩ := hPt
    obtain ⟨rfl, rfl⟩ : v0 = .int i t ∧ v1 = .str ⟨#[c]⟩ u := by simpa using hv
    replace F' := Fr.over F' [("addr", .str x tx), ("escape", .bool false), ("pos", .int i t), ("ch", .str ⟨#[c]⟩ u)] ⟨rfl, rfl, rfl, rfl, trivial⟩
    have hc92 := hx i c hc
    refine seg_execs_cons (seg_If ?_)
    k_steps
    refine seg_execs_cons (seg_If ?_)
    k_steps
    · exfalso
      have hq : ((⟨#[c]⟩ : Str) == Str.ofString "\\") = true := by assumption
      rw [beq_iff_eq] at hq
      have : (⟨#[c]⟩ : Str) = ⟨#[92]⟩ := hq.trans (by decide)
      injection this with h1
      have h2 : c = 92 := by simpa using h1
      exact hc92 h2
    · obtain ⟨n', hn'⟩ : ∃ n', x.cps.size - i = n' + 1 := ⟨x.cps.size - i - 1, by omega⟩
      rw [hn']
      refine seg_execs_cons (seg_Expr_Yield rfl rfl rfl ?_)
      k_steps
      refine wpAny_newTuple ?_
      intro kap hkap
      have hk₂ : ∀ b o, h.get? b = some o → (h.push { cls := .type "tuple", data := .seq [.int ((i : Nat) : Int) t, .str ⟨#[c]⟩ u].toArray }).get? b = some o := fun b o e => Heap.get?_push_of_some _ e
      have hCn : @LT.lt Nat _ C h.objs.size := F'.ns.lt
      refine ⟨⟨i, _, c, t, u, by omega, rfl, hc, ⟨_, Heap.get?_push_size _ rfl, rfl, _, rfl⟩, ?_⟩, hsin.step fun b o hbC hba ho => hk₂ b o (hk' b o hbC (nwr b hba) ho), fun s'' hs'' => hkap .none s'' ?_⟩
      · obtain ⟨old, he⟩ := hst'.1
        have : @LT.lt Nat _ e h.objs.size := Heap.lt_size he
        show @LT.lt Nat _ a h.objs.size
        omega
      · have neL : ∀ b, @LT.lt Nat _ a b → b ≠ L := fun b hb q => by
          have q' : @Eq Nat b L := q
          omega
        have keep : ∀ b o, b ≠ L → h.get? b = some o → s''.heap.get? b = some o := fun b o hb ho => hs'' b o hb (hk₂ b o ho)
        have en : x.cps.size - (i + 1) = n' := by omega
        have F₃ : Fr h₀ C s''.heap (over [("addr", .str x tx), ("escape", .bool false)] _) := Fr.over ⟨F'.ns.at' fun o ho => keep C o (Ne.symm hLC) ho, fun b o ho => keep b o (fun q => by rw [q, hL0] at ho; cases ho) (F'.keep b o ho), F'.above⟩ [("addr", .str x tx), ("escape", .bool false)] ⟨rfl, rfl, trivial⟩
        have st₃ : (∃ old, IsEnum s''.heap e it ((i + 1 : Nat) : Int) old) ∧ s''.heap.IsStrIter it "str_ascii_iterator" x tx (i + 1) := by
          obtain ⟨⟨old, he⟩, hit⟩ := hst'
          exact ⟨⟨old, keep e _ (neL e hae) he⟩, let ⟨o, ho, r⟩ := hit; ⟨o, keep it o (neL it hai) ho, r⟩⟩
        have R := ih (i + 1) s'' s'' _ (by omega) (by omega) st₃ F₃ Since.refl
        rw [en] at R
        have hq : code.quiet = true := by rw [hcode]; rfl
        exact seg_again hq R
theorem gen_start {x : Str} {tx : Tok} {C a L : Addr} {h₀ : Heap} {m : Str → Option Value} (hx : ∀ (i c : Nat), x.cps[i]? = some c → c ≠ 92 ∧ c < 128) (hh : A.handled = none)
    (hC : @LT.lt Nat _ C a) (hb : @LE.le Nat _ h₀.objs.size C) (hLC : L ≠ C) (hLa : @LT.lt Nat _ L a) (hL0 : h₀.get? L = none)
    (X : (Mine.hd.heap_1 w.params).In h₀) (T : TT mean mg mb h₀)
    {q1 q2 q3 q4 q5 q6 q7 q8 q9 q10 q11 q12 q13 q14 q15 q16 q17 q18 q19 q20 q21 q22 q23 pk pv pt : Pos} {k1 k2 k3 k4 x1 : Nat} {b1 b2 b3 : List Stmt} (code : Code)
    (hcode : code = .func [.Assign [.Name "pos" q12] (.Constant (.int 0) k3 q13) q14, .Assign [.Name "escape" q15] (.Constant (.bool false) k4 q16) q17,
      .For (.Tuple [.Name "pos" pk, .Name "ch" pv] x1 pt) (.Call (.Name "enumerate" q18) [.Name "addr" q19] [] q20) [.If (.Name "escape" q1) b1 [.If (.Compare (.Name "ch" q2) [.Eq] [.Constant (.str "\\") k1 q3] q4) b2 [.Expr (.Yield (some (.Tuple [.Name "pos" q5, .Name "ch" q6] k2 q7)) q8) q9] q10] q11] [] q21,
      .If (.Name "escape" q22) b3 [] q23] (genE C))
    (s₀ : Shared) (F : Fr h₀ C s.heap m) (hm : m "addr" = some (.str x tx)) (hsin : Since C a s₀ s) (ha : @LT.lt Nat _ a s.heap.objs.size) :
    Seg (model prog w) A (genR C a) (genY x C a L) x.cps.size s₀ code (((model prog w)).den code) [] s := by
  subst hcode
  refine seg_func ?_
  have hp0 : ((genE C).scope.kind == .class || ((genE C).scope.kind == .module && (genE C).locals != (genE C).globals)) = false := rfl
  refine seg_execs_cons (seg_plain (wpAny_Assign_Name (wpAny_Constant_int (wpAny_storeName_local rfl F.ns (fun h₁ hn₁ hs₁ => ?_) hp0))))
  have F₁ := F.set hn₁ hs₁
  refine seg_execs_cons (seg_plain (wpAny_Assign_Name (wpAny_Constant_bool (wpAny_storeName_local rfl F₁.ns (fun h₂ hn₂ hs₂ => ?_) hp0))))
  have F₂ := Fr.over (F₁.set hn₂ hs₂) [("addr", .str x tx), ("escape", .bool false)] ⟨hm, rfl, trivial⟩
  have k₂ : ∀ b o, b ≠ C → s.heap.get? b = some o → h₂.get? b = some o := fun b o hb e => (hs₂.2 b hb).trans ((hs₁.2 b hb).trans e)
  have z₂ : h₂.objs.size = s.heap.objs.size := hs₂.1.trans hs₁.1
  have ev : ∀ (A' : Around) (st : Shared) (Q : Value → Shared → Prop) (E : Value → Shared → Prop), st.heap = h₂ → 
      (∀ h', IsEnum h' (h₂.objs.size + 1) h₂.objs.size 0 .none → h'.IsStrIter h₂.objs.size "str_ascii_iterator" x tx 0 → (∀ b o, h₂.get? b = some o → h'.get? b = some o) → Q (.ref (h₂.objs.size + 1)) { st with heap := h' }) →
      wpAny (model prog w) A' (eval (.Call (.Name "enumerate" q18) [.Name "addr" q19] [] q20) (genE C)) Q E st := by
    rintro A' ⟨hq2, gs, dr, tk, os⟩ Q E e hq
    have e' : h₂ = hq2 := e.symm
    subst e'
    have N' : News h₀ C h₂ [] := News.nil
    have X' := X.keeps F₂.keep
    have T' := T.keeps F₂.keep
    k_steps
    refine call_enumerate_str fun h' he hit hsz hk => ?_
    have hty : strIterType x = "str_ascii_iterator" := by
      unfold strIterType
      rw [if_pos]
      rw [Array.all_eq_true]
      intro i hi
      exact decide_eq_true (hx i _ (Array.getElem?_eq_getElem hi)).2
    rw [hty] at hit
    exact hq h' he hit hk
  have hC2 : @LT.lt Nat _ C h₂.objs.size := F₂.ns.lt
  refine seg_execs_cons (seg_For (fun _ => rfl) (ev _ _ _ _ rfl fun h₃ he hit hk₃ => ?_))
  have sti : (∃ old, IsEnum h₃ (h₂.objs.size + 1) h₂.objs.size ((0 : Nat) : Int) old) ∧ h₃.IsStrIter h₂.objs.size "str_ascii_iterator" x tx 0 := ⟨⟨_, he⟩, hit⟩
  have W := fun (A' : Around) (hA : A'.handled = none) => WalksT.enumerateD (Draws.strAscii (prog := prog) (w := w) (A := A'.in1) hA h₂.objs.size x tx) (h₂.objs.size + 1) (Nat.succ_ne_self _) (by simp) (by simp)
  refine (W _ ?_).self 0 _ _ _ ?_ ?_
  · exact hh
  · exact sti
  intro p
  have ha2 : @LT.lt Nat _ a h₂.objs.size := by rw [z₂]; exact ha
  have ha3 : @LT.lt Nat _ a (h₂.objs.size + 1) := Nat.lt_succ_of_lt ha2
  refine gen_loop (tx := tx) (L := L) (h₀ := h₀) (fun i c h => (hx i c h).1) hh hC ha3 ha2 (Nat.succ_ne_self _) hb hLC hLa hL0 _ rfl ?_ (x.cps.size) 0 s₀ _ _ rfl (Nat.zero_le _) sti (F₂.keeps hk₃) (hsin.step fun b o hbC hba ho => hk₃ b o (k₂ b o hbC ho))
  intro s₀' s' m' F' hsin'
  have N' : News h₀ C s'.heap [] := News.nil
  refine seg_execs_cons (seg_If ?_)
  obtain ⟨hp, gs, dr, tk, os⟩ := s'
  k_steps
  refine seg_end (.ok (.ret .none)) ?_
  exact ⟨rfl, rfl, hsin'⟩
end
end Mine

-- part Paren


namespace Mine
section
variable {prog : Program} {w : World} {mean : ExcName → Option Value} {mg mb : Str → Option Value} {A : Around} {s : Shared} {Q E : Value → Shared → Prop}
variable {prog : Program}
/-- one step of a generator that stands at a quiet place; what it is left as leaves nothing to clean -/
theorem next_gen {a : Addr} {g n : Nat} {gs : GenState} {P : Nat → Shared → Shared → Prop} {Y : Protocol} {QO : Option Value → Shared → Prop} (hh : A.handled = none)
    (hl : s.heap.NoLimit) (hroom : A.depth < recursionLimit) (hg : s.heap.IsGen a g) (hgs : s.gens[g]? = some gs)
    (hgo : gs.Goes (model prog w) A.in1 (fun n s₀ r s₁ => r = .ok (.ret .none) ∧ P n s₀ s₁) Y n (.send .none) (s.setGen g .running))
    (hY : ∀ v s₁ gs', gs'.bare = true → Y (n - 1) (s.setGen g .running) v s₁ (fun r' s'' => match n with
        | 0 => False
        | m + 1 => gs'.Goes (model prog w) A.in1 (fun n s₀ r s₁ => r = .ok (.ret .none) ∧ P n s₀ s₁) Y m r' s'') → QO (some v) (s₁.setGen g gs'))
    (hP : ∀ s₁, P n (s.setGen g .running) s₁ → ∀ h', (∀ b o, s₁.heap.get? b = some o → h'.get? b = some o) → QO none { s₁.setGen g .finished with heap := h' }) :
    wpAny (model prog w) A (pyNext (.ref a)) QO E s := by
  unfold pyNext
  refine wpAny_bind (wpAny_attempt (wpAny_callSpecial?_slot (name := Str.ofString "__next__") hg.typeIs slot_gen_next
    (wpAny_call_entry slot_gen_next hg.typeIs entry_gen_next ?_ (args_gen_next _))))
  show wpAny _ _ (Builtin.Generator.genWake (.ref a) (.send .none)) _ _ s
  unfold Builtin.Generator.genWake
  refine wpAny_bind (wpAny_holding (wpAny_genNumber hg (wpAny_bind (wpAny_genState hgs ?_))))
  cases gs with
  | running => exact hgo.elim
  | finished => exact hgo.elim
  | fresh c =>
    refine wpAny_bind (wpAny_roomToWake hl hroom ?_)
    show wpAny _ _ (.resume g (.send .none) [] _) _ _ s
    refine wpAny_resumeQ hgs hgo (fun x s₁ hx => ?_) (fun v s₁ gs' hb hv => ?_)
    · obtain ⟨rfl, hp⟩ := hx
      show wpAny _ _ (newExc (.type "StopIteration") [] >>= _) _ _ _
      refine wpAny_bind ?_
      simp only [newExc, newTuple]
      refine wpAny_bind (wpAny_newObj_type ?_ (by size_fits))
      refine wpAny_bind (m := firstArgMember _ _) (wpAny_of_eq (a := Value.none) (by first | rfl | (simp only [firstArgMember]; rfl)) ?_)
      refine wpAny_newObj_type ?_ (by size_fits)
      simp only [raiseNew]
      refine wpAny_bind (wpAny_bind (wpAny_handled ?_))
      rw [show A.in1.handled = none from hh]
      refine wpAny_throw ?_
      refine wpAny_bind (wpAny_isInstance (T := "StopIteration") (b := true) ⟨_, Heap.get?_push_size _ rfl, rfl⟩ isSubtype_stop ?_)
      exact wpAny_pure (hP s₁ hp _ fun b o hb => Heap.get?_push_of_some _ (Heap.get?_push_of_some _ hb))
    · exact wpAny_pure ⟨v, rfl, wpAny_pure (hY v s₁ gs' hb hv)⟩
  | suspended k0 l0 c0 p0 fs0 cl0 =>
    refine wpAny_bind (wpAny_roomToWake hl hroom ?_)
    show wpAny _ _ (.resume g (.send .none) [] _) _ _ s
    refine wpAny_resumeQ hgs hgo (fun x s₁ hx => ?_) (fun v s₁ gs' hb hv => ?_)
    · obtain ⟨rfl, hp⟩ := hx
      show wpAny _ _ (newExc (.type "StopIteration") [] >>= _) _ _ _
      refine wpAny_bind ?_
      simp only [newExc, newTuple]
      refine wpAny_bind (wpAny_newObj_type ?_ (by size_fits))
      refine wpAny_bind (m := firstArgMember _ _) (wpAny_of_eq (a := Value.none) (by first | rfl | (simp only [firstArgMember]; rfl)) ?_)
      refine wpAny_newObj_type ?_ (by size_fits)
      simp only [raiseNew]
      refine wpAny_bind (wpAny_bind (wpAny_handled ?_))
      rw [show A.in1.handled = none from hh]
      refine wpAny_throw ?_
      refine wpAny_bind (wpAny_isInstance (T := "StopIteration") (b := true) ⟨_, Heap.get?_push_size _ rfl, rfl⟩ isSubtype_stop ?_)
      exact wpAny_pure (hP s₁ hp _ fun b o hb => Heap.get?_push_of_some _ (Heap.get?_push_of_some _ hb))
    · exact wpAny_pure ⟨v, rfl, wpAny_pure (hY v s₁ gs' hb hv)⟩
/-- a generator that stands before its i-th item -/
def GenUp (w : World) (A : Around) (x : Str) (C a L : Addr) (g i : Nat) (h : Heap) (gens : Array GenState) : Prop :=
  h.IsGen a g ∧ ∃ gs, gens[g]? = some gs ∧ ∀ (s'' : Shared), (∀ b o, b ≠ L → h.get? b = some o → s''.heap.get? b = some o) →
    gs.Goes (model prog w) A (genR C a) (genY x C a L) (x.cps.size - i) (.send .none) s''
end
section
variable {prog : Program} {w : World} {mean : ExcName → Option Value} {mg mb : Str → Option Value} {A : Around} {s : Shared} {Q E : Value → Shared → Prop}
local macro_rules | `(tactic| walk_at "exec While Compare cons nil") => `(tactic| (refine halt_of ?_))
local macro_rules | `(tactic| walk_at "exec While BoolOp cons nil") => `(tactic| (refine halt_of ?_))
local macro_rules | `(tactic| walk_at "exec For Name Name cons nil") => `(tactic| (refine halt_of ?_))
local macro_rules | `(tactic| walk_at "exec For Tuple Call cons nil") => `(tactic| (refine halt_of ?_))
theorem sq_call (C : Cx w mean mg mb A s.heap) (hd : A.depth + 5 < recursionLimit) (hu : A.units + 90 < cLine) {x : Str} {t : Tok} (hx : (Builtin.Str.occurrences x (Str.ofString "\"") 0 x.length 1).isEmpty = true) (hlen : x.length ≤ 1048576)
    (hQ : ∀ h' tk, Ext s.heap h' → Q (.str x t) { s with heap := h', toks := tk }) :
    wpAny (model prog w) A (call (.ref 64) [.str x t]) Q E s := by
  obtain ⟨B, F, X, T, hkk⟩ := C
  refine wpAny_call ?_
  (refine' enterP ?k1 ?k2 ?k3 ?k5 ?kA ?kF ?kK ?k6 ?k7 ?k8 ?k9 ?kB ?_ ?c2 ?c3 ?c4 ?c5; (case kA => exact rfl); (case kF => exact rfl); (case kK => assumption); (case k1 => assumption); (case k2 => assumption); (case k3 => assumption); (case k5 => assumption); (case k6 => k_is); (case k7 => k_is); (case k8 => ktr_room); (case k9 => first | exact BindsTo.of_eq rfl | (refine' kp_binds ?kx ?ke; (case kx => k_in); (case ke => exact fun _ => rfl)) | exact binds_K (by k_in) rfl (by k_is) rfl rfl rfl); (case c5 => decide); (case kB => exact locs rfl); (case c2 => exact rfl); (case c3 => exact rfl); (case c4 => exact rfl); k_whole; intro L' h' F' N' B' X' T'; (try dsimp only); (try k_fold))
  k_steps
  exact hQ _ _ F'.keep
/-- the generator is made -/
theorem gen_call (C : Cx w mean mg mb A s.heap) (hd : A.depth + 5 < recursionLimit) (hu : A.units + 90 < cLine) {x : Str} {t : Tok} {h₀ : Heap} {L : Addr} {m : Str → Option Value} (hx : ∀ (i c : Nat), x.cps[i]? = some c → c ≠ 92 ∧ c < 128)
    (F₀ : Fr h₀ L s.heap m) (X₀ : (Mine.hd.heap_1 w.params).In h₀) (T₀ : TT mean mg mb h₀)
    (hQ : ∀ h' tk C a gs, Ext s.heap h' → @LE.le Nat _ h₀.objs.size C → L ≠ C → @LT.lt Nat _ L a → @LT.lt Nat _ C a → @LE.le Nat _ s.heap.objs.size C → (∀ A' : Around, A'.handled = none → GenUp (prog := prog) w A' x C a L s.gens.size 0 h' (s.gens.push gs)) → gs.bare = true → Q (.ref a) { s with heap := h', toks := tk, gens := s.gens.push gs }) :
    wpAny (model prog w) A (call (.ref 57) [.str x t]) Q E s := by
  obtain ⟨B, F, X, T, hkk⟩ := C
  have X₁ := X.keeps F.keep
  have T₁ := T.keeps F.keep
  refine wpAny_call ?_
  refine codeAny_call_generator (a := 57) (args := ⟨[.str x t], []⟩) ?_ (X₁ _ _ (by k_is)) rfl rfl rfl rfl (codeRec_of X₁ (by k_is)) ?_
  · ktr_room
  · refine wpAny_of_eq (a := [(Str.ofString "addr", .str x t)]) rfl ?_
    refine wpAny_newFunctionEnv (by decide) (locs rfl) (fun h₁ hns hsb => ?_) rfl
    have hLim : h₁.NoLimit := T₁.nolimit.fresh _ hsb
    refine ⟨hLim, ?_⟩
    have z₁ : h₁.objs.size = s.heap.objs.size + 1 := by rw [hsb.1, Heap.size_push]
    have k₁ : ∀ b o, s.heap.get? b = some o → h₁.get? b = some o := fun b o e => hsb.extBut b o (Nat.ne_of_lt (Heap.lt_size e)) (Heap.get?_push_of_some _ e)
    have hL : @LT.lt Nat _ L s.heap.objs.size := F₀.ns.lt
    have hab : @LE.le Nat _ h₀.objs.size L := F₀.above
    have hz1 : @LT.lt Nat _ L h₁.objs.size := by rw [z₁]; omega
    have hz2 : @LT.lt Nat _ s.heap.objs.size h₁.objs.size := by rw [z₁]; omega
    have hLC : L ≠ s.heap.objs.size := Nat.ne_of_lt hL
    have hle : @LE.le Nat _ h₀.objs.size s.heap.objs.size := by omega
    refine hQ _ _ s.heap.objs.size h₁.objs.size _ (fun b o e => Heap.get?_push_of_some _ (k₁ b o e)) hle hLC hz1 hz2 (Nat.le_refl _) (fun A' hA' => ⟨⟨_, _, _, Heap.get?_push_size _ rfl, rfl, rfl, rfl⟩, _, Array.getElem?_push_size .., fun s'' hk'' => ?_⟩) rfl
    have hL0 : h₀.get? L = none := Heap.get?_none_of_le F₀.above
    have kk : ∀ b o, b ≠ L → h₁.get? b = some o → s''.heap.get? b = some o := fun b o hb e => hk'' b o hb (Heap.get?_push_of_some _ e)
    have F₂ : Fr h₀ s.heap.objs.size s''.heap (fun y => [(Str.ofString "addr", Value.str x t)].reverse.lookup y) := ⟨hns.at' fun o e => kk _ o (Ne.symm hLC) e, fun b o e => kk b o (fun q => by rw [q, hL0] at e; cases e) (k₁ b o (F₀.keep b o e)), hle⟩
    have ha'' : @LT.lt Nat _ h₁.objs.size s''.heap.objs.size := by
      have q := hk'' h₁.objs.size _ (fun e => by have e' : @Eq Nat h₁.objs.size L := e; omega) (Heap.get?_push_size _ rfl)
      exact Heap.lt_size q
    exact ⟨rfl, gen_start (L := L) hx hA' hz2 hle hLC hz1 hL0 X₀ T₀ _ rfl s'' F₂ rfl Since.refl ha''⟩
theorem haltAll {α : Type} {M : Model} {t : Sem α} {Q₀ : α → Shared → Prop} (h : wpAny M A t (fun a s => Halt (Q₀ a s)) (fun _ _ => False) s) : wpAny M A t Q₀ E s := wpAny_mono h (fun _ _ x => x) fun _ _ e => e.elim
theorem gensSet {g : Nat} {y : GenState} {st : Shared} (hb : AllBare st.gens) (hy : y.bare = true) : AllBare (st.setGen g y).gens := fun z hz => by
  obtain ⟨k, hk⟩ := Array.mem_iff_getElem?.mp hz
  unfold Shared.setGen at hk
  rw [Array.getElem?_setIfInBounds] at hk
  split at hk
  · split at hk
    · cases hk; exact hy
    · cases hk
  · exact hb z (Array.mem_of_getElem? hk)
theorem Fr.since {h₀ h h₁ : Heap} {L C a : Addr} {m : Str → Option Value} (F : Fr h₀ L h m) (hLC : @LT.lt Nat _ L C) (hCa : @LT.lt Nat _ C a) (hk : ∀ b o, b ≠ C → @LE.le Nat _ b a → h.get? b = some o → h₁.get? b = some o) : Fr h₀ L h₁ m := by
  have hab : @LE.le Nat _ h₀.objs.size L := F.above
  refine ⟨F.ns.at' fun o e => hk L o (Nat.ne_of_lt hLC) (by omega) e, fun b o e => ?_, F.above⟩
  have hlt : @LT.lt Nat _ b h₀.objs.size := Heap.lt_size e
  exact hk b o (Nat.ne_of_lt (by omega)) (by omega) (F.keep b o e)
theorem go_gen {M : Model} {elts : List PySem.Expr} {k : Nat} {pos : Pos} {a T : Addr} {g : Nat} {QU : Unit → Shared → Prop} (hg : s.heap.IsGen a g) (h : QU () s) : wpAny M A (letOwnedTupleGo (.Tuple elts k pos) (.ref a) (.ref T)) QU E s := by
  obtain ⟨o, nm, qn, ho, hc, hd, hs⟩ := hg
  unfold letOwnedTupleGo
  refine wpAny_bind (wpAny_load ho ?_)
  rw [hc, hd]
  exact wpAny_pure h
/-- the brackets' count -/
def scan : Int → List Nat → Bool
  | o, [] => o == 0
  | o, c :: r => if c = 40 then scan (o + 1) r else if c = 41 then (if o - 1 < 0 then false else scan (o - 1) r) else scan o r
inductive ParJ (prog : Program) (w : World) (A' : Around) (x : Str) (C a L' : Addr) (s : Shared) : Nat → Shared → Prop
  | mk (i : Nat) (h : Heap) (tk : Nat) (g' : Array GenState) (m₀ : Str → Option Value) (o : Int) (t1 : Tok) (hi : i ≤ x.cps.size) (F : Fr s.heap L' h (over [("opens", .int o t1)] m₀)) (hu : GenUp (prog := prog) w A'.in1 x C a L' s.gens.size i h g')
      (hb : AllBare g') (hsc : scan 0 x.cps.toList = scan o (x.cps.toList.drop i)) : ParJ prog w A' x C a L' s (x.cps.size + 1 - i) { s with heap := h, toks := tk, gens := g' }
theorem paren_call (C : Cx w mean mg mb A s.heap) (hd : A.depth + 15 < recursionLimit) (hu : A.units + 190 < cLine) {x : Str} {t : Tok} (hx : (Builtin.Str.occurrences x (Str.ofString "\"") 0 x.length 1).isEmpty = true) (hlen : x.length ≤ 1048576)
    (hx2 : ∀ (i c : Nat), x.cps[i]? = some c → c = 40 ∨ c = 41) (hg : AllBare s.gens)
    (hQ : ∀ h' tk g', Ext s.heap h' → AllBare g' → Q (.bool (scan 0 x.cps.toList)) { s with heap := h', toks := tk, gens := g' }) :
    wpAny (model prog w) A (call (.ref 71) [.str x t]) Q E s := by
  obtain ⟨B, F, X, T, hkk⟩ := C
  refine wpAny_call ?_
  (refine' enterP ?k1 ?k2 ?k3 ?k5 ?kA ?kF ?kK ?k6 ?k7 ?k8 ?k9 ?kB ?_ ?c2 ?c3 ?c4 ?c5; (case kA => exact rfl); (case kF => exact rfl); (case kK => assumption); (case k1 => assumption); (case k2 => assumption); (case k3 => assumption); (case k5 => assumption); (case k6 => k_is); (case k7 => k_is); (case k8 => ktr_room); (case k9 => first | exact BindsTo.of_eq rfl | (refine' kp_binds ?kx ?ke; (case kx => k_in); (case ke => exact fun _ => rfl)) | exact binds_K (by k_in) rfl (by k_is) rfl rfl rfl); (case c5 => decide); (case kB => exact locs rfl); (case c2 => exact rfl); (case c3 => exact rfl); (case c4 => exact rfl); k_whole; intro L' h' F' N' B' X' T'; (try dsimp only); (try k_fold))
  k_steps
  refine sq_call (Cx.mk B' F' X' T' rfl) (by ktr_room) (by ktr_units) hx hlen fun h' tk K' => ?_
  (with_reducible rename Fr _ _ _ _ => F')
  replace F' := F'.keeps K'
  have N' : News s.heap L' h' [] := News.nil
  k_steps
  unfold Halt
  refine wpAny_For ?_
  k_steps
  (with_reducible rename Fr _ _ _ _ => F')
  refine gen_call (Cx.mk B' F' X' T' rfl) (by ktr_room) (by ktr_units) (fun i c h => by rcases hx2 i c h with rfl | rfl <;> decide) F' X' T' fun h₂ tk₂ C a gs K₂ hle hLC hLa hCa hCz hup hbare => ?_
  refine wpAny_pyIter_gen (hup callerA rfl).1 ?_
  have F₂ := Fr.over (F'.keeps K₂) [("opens", .int 0 _)] ⟨rfl, trivial⟩
  have hCL : @LT.lt Nat _ L' C := by
    have h1 : @LT.lt Nat _ L' _ := F'.ns.lt
    exact Nat.lt_of_lt_of_le h1 hCz
  have hL0 : s.heap.get? L' = none := Heap.get?_none_of_le F'.above
  have hbare₀ : AllBare (s.gens.push gs) := fun y hy => by
    rcases Array.mem_push.mp hy with h | h
    · exact hg y h
    · rw [h]; exact hbare
  generalize hA' : Around.deeper _ _ = A'
  have hAh : A'.handled = none := by rw [← hA']; rfl
  have hAr : A'.depth < recursionLimit := by rw [← hA']; ktr_room
  refine codeAny_forLoop_any (ParJ prog w A' x C a L' s) ?_ (x.cps.size + 1)
    (.mk 0 h₂ tk₂ _ _ 0 _ (Nat.zero_le _) F₂ (hup _ hAh) hbare₀ rfl)
  rintro k s' ⟨i, h, tk, g', m₀, o, t1, hi, F₃, ⟨hig, gs₁, hgs₁, hgo⟩, hb₁, hsc⟩
  refine next_gen (P := fun n s₀ s₁ => n = 0 ∧ Since C a s₀ s₁) hAh (T'.nolimit.keeps F₃.keep) hAr hig hgs₁ (hgo _ fun b o _ e => e) (fun v s₁ gs' hbg hv => ?_) (fun s₁ hp h' hk => ?_)
  · obtain ⟨⟨j, T₁, c, tc, uc, hj, rfl, hc, hT, haT⟩, ⟨h₁, tk₁, rfl, hk₁⟩, hkap⟩ := hv
    have hni : x.cps.size - i ≠ 0 := fun e => by
      rw [e] at hkap
      exact hkap _ fun _ _ _ e => e
    obtain ⟨m', hm'⟩ : ∃ m', x.cps.size - i = m' + 1 := ⟨x.cps.size - i - 1, by omega⟩
    rw [hm'] at hj hkap
    have hji : j = i := by omega
    subst hji
    dsimp only
    have hLa' : @LE.le Nat _ L' a := Nat.le_of_lt hLa
    have F₄ := Fr.since F₃ hCL hCa hk₁
    have hCne : a ≠ C := fun e => by have e' : @Eq Nat a C := e; omega
    have hig₁ : h₁.IsGen a s.gens.size := by
      obtain ⟨o', nm, qn, ho, r⟩ := hig
      exact ⟨o', nm, qn, hk₁ a o' hCne (Nat.le_refl _) ho, r⟩
    refine go_gen hig₁ ?_
    refine wpAny_assign_Tuple hAh hT rfl rfl fun h₅ hx₅ => ?_
    have up : ∀ b o, h₁.get? b = some o → h₅.get? b = some o := fun b o e => hx₅ b o (Nat.ne_of_lt (Heap.lt_size e)) e
    have F₅ := F₄.keeps up
    show wpAny _ _ (do holding [.str ⟨#[c]⟩ uc] (assign (.Name _ _) _ (.int ((j : Nat) : Int) tc)); do holding [] (assign (.Name _ _) _ (.str ⟨#[c]⟩ uc)); pure ()) _ _ _
    refine wpAny_bind (wpAny_holding (wpAny_assign_Name (wpAny_storeName_local rfl F₅.ns (fun h₆ hn₆ hs₆ => ?_) rfl)))
    have F₆ := F₅.set hn₆ hs₆
    refine wpAny_bind (wpAny_holding (wpAny_assign_Name (wpAny_storeName_local rfl F₆.ns (fun h₇ hn₇ hs₇ => wpAny_pure ?_) rfl)))
    have F₇ := Fr.over (F₆.set hn₇ hs₇) [("opens", .int o t1), ("ch", .str ⟨#[c]⟩ uc)] ⟨rfl, rfl, trivial⟩
    have k₇ : ∀ b o, b ≠ L' → h₁.get? b = some o → h₇.get? b = some o := fun b o hb e => (hs₇.2 b hb).trans ((hs₆.2 b hb).trans (up b o e))
    obtain ⟨own, Nown, hown⟩ := keepAll F₇
    have hcc := hx2 j c hc
    have hdrop : x.cps.toList.drop j = c :: x.cps.toList.drop (j + 1) := by
      have hlt : j < x.cps.toList.length := by
        have := (Array.getElem?_eq_some_iff.mp hc).1
        simpa using this
      rw [List.drop_eq_getElem_cons hlt]
      congr 1
      have := (Array.getElem?_eq_some_iff.mp hc).2
      simpa using this
    rw [hdrop] at hsc
    obtain ⟨G, hG⟩ : ∃ G : Array GenState, G = (g'.setIfInBounds s.gens.size .running).setIfInBounds s.gens.size gs' := ⟨_, rfl⟩
    have hGb : AllBare G := by rw [hG]; exact gensSet (st := Shared.setGen { s with heap := h, toks := tk, gens := g' } s.gens.size .running) (gensSet hb₁ rfl) hbg
    have hGs : G[s.gens.size]? = some gs' := by rw [hG]; exact setGen_self (s := Shared.setGen { s with heap := h, toks := tk, gens := g' } s.gens.size .running) (gs := .running) (setGen_self hgs₁)
    -- the turn's end, for any new count
    have fin : ∀ (h₈ : Heap) (tk₈ : Nat) (m₈ : Str → Option Value) (o₈ : Int) (t₈ : Tok), Fr s.heap L' h₈ m₈ → News s.heap L' h₈ own → m₈ "opens" = some (.int o₈ t₈) → scan 0 x.cps.toList = scan o₈ (x.cps.toList.drop (j + 1)) →
        ∃ m₁, m₁ < x.cps.size + 1 - j ∧ ParJ prog w A' x C a L' s m₁ { s with heap := h₈, toks := tk₈, gens := G } := by
      intro h₈ tk₈ m₈ o₈ t₈ F₈ N₈ hm₈ hs₈
      have k₈ := hown h₈ m₈ F₈ N₈
      have hLa'' : a ≠ L' := fun e => by have e' : @Eq Nat a L' := e; omega
      have kk : ∀ b o, b ≠ L' → h₁.get? b = some o → h₈.get? b = some o := fun b o hb e => k₈ b o hb (k₇ b o hb e)
      have en : x.cps.size - (j + 1) = m' := by omega
      refine ⟨x.cps.size + 1 - (j + 1), by omega, .mk (j + 1) h₈ tk₈ G m₈ o₈ t₈ (by omega) (Fr.over F₈ [("opens", .int o₈ t₈)] ⟨hm₈, trivial⟩) ⟨?_, gs', hGs, fun s'' hk'' => ?_⟩ hGb hs₈⟩
      · obtain ⟨o', nm, qn, ho, r⟩ := hig₁
        exact ⟨o', nm, qn, kk a o' hLa'' ho, r⟩
      · rw [en]
        exact hkap s'' fun b o hb e => hk'' b o hb (kk b o hb e)
    subst hA'
    refine haltAll ?_
    have N' := Nown
    rcases hcc with rfl | rfl
    · k_steps
      unfold Halt
      (with_reducible rename Fr _ _ _ _ => F')
      (with_reducible rename News _ _ _ _ => N'); (try k_sweep)
      dsimp only [Shared.setGen]
      rw [← hG]
      exact fin _ _ _ _ _ F' N' rfl (by rw [hsc]; rfl)
    · k_steps
      · (with_reducible rename Fr _ _ _ _ => F')
        have e : scan 0 x.cps.toList = false := by
          rw [hsc]
          unfold scan
          rw [if_neg (by decide), if_pos rfl, if_pos (by assumption)]
        rw [e] at hQ
        dsimp only [Shared.setGen]
        rw [← hG]
        exact hQ _ _ _ F'.keep hGb
      · unfold Halt
        (with_reducible rename Fr _ _ _ _ => F')
        (with_reducible rename News _ _ _ _ => N'); (try k_sweep)
        dsimp only [Shared.setGen]
        rw [← hG]
        refine fin _ _ _ _ _ F' N' rfl ?_
        rw [hsc]
        unfold scan
        rw [if_neg (by decide), if_pos rfl, if_neg (by assumption)]
        cases x.cps.toList.drop (j + 1) <;> rfl
  · obtain ⟨hn0, h₁, tk₁, rfl, hk₁⟩ := hp
    have hin : i = x.cps.size := by omega
    subst hin
    dsimp only
    refine wpAny_execs_nil ?_
    have F₄ := (Fr.since F₃ hCL hCa hk₁).keeps hk
    have hgf : AllBare _ := gensSet (g := s.gens.size) (y := .finished) (st := Shared.setGen { s with heap := h, toks := tk, gens := g' } s.gens.size .running) (gensSet hb₁ rfl) rfl
    have N' : News s.heap L' h' [] := News.nil
    have hsc' : scan 0 x.cps.toList = (o == 0) := by
      rw [hsc, List.drop_of_length_le (by simp)]
      rfl
    rw [← hA']
    k_steps
    rw [← hsc']
    (with_reducible rename Fr _ _ _ _ => F')
    exact hQ _ _ _ F'.keep hgf
end
end Mine

-- part Pre


namespace Mine
def isPt (x : Str) : Prop := (∀ c ∈ x.cps.toList, c = 40 ∨ c = 41) ∧ x.cps.size ≤ 1000
abbrev bad : Str := Str.ofString "('', '')"
def sift (x : Str) : Str := if scan 0 x.cps.toList then x else bad
theorem isPt_noq {x : Str} (h : isPt x) : (Builtin.Str.occurrences x (Str.ofString "\"") 0 x.length 1).isEmpty = true := by
  have q := StrLaws.found_one x 34
  have e : (⟨#[34]⟩ : Str) = Str.ofString "\"" := by decide
  rw [e] at q
  have hn : ¬ 34 ∈ x.cps.toList := fun hm => by rcases h.1 34 hm with e | e <;> cases e
  rw [decide_eq_false hn] at q
  simpa using q
section
variable {prog : Program} {w : World} {mean : ExcName → Option Value} {mg mb : Str → Option Value} {A : Around} {s : Shared} {Q E : Value → Shared → Prop}
variable {prog : Program}
theorem appendIn {h₀ : Heap} {L D : Addr} {m : Str → Option Value} {pre post : List (Addr × Obj)} {vs : Array Value} {n : Nat} {v : Value} (F : Fr h₀ L s.heap m) (N : News h₀ L s.heap (pre ++ (D, PySem.W.listOf vs n) :: post))
    (h1 : ∀ p ∈ pre, p.1 ≠ D) (h2 : ∀ p ∈ post, p.1 ≠ D) (hsz : vs.size ≤ 1000000)
    (h : ∀ h' n', Fr h₀ L h' m → News h₀ L h' (pre ++ (D, PySem.W.listOf (vs.push v) n') :: post) → Q .none { s with heap := h' }) :
    wpAny (model prog w) A (call (.builtin "list.append") [.ref D, v]) Q E s := by
  have nD := N (D, PySem.W.listOf vs n) (List.mem_append_right _ (.head _))
  refine wpAny_list_append_plain (items := vs) ⟨n, nD.1⟩ (fun h' hl' hs' => ?_) (Nat.le_trans hsz (by rw [sizeLine_eq]; decide))
  obtain ⟨n', e'⟩ := hl'
  refine h h' n' (kas_fr F hs' nD.2.1 nD.2.2) fun p hp => ?_
  rcases List.mem_append.mp hp with hp | hp
  · have q := N p (List.mem_append_left _ hp)
    exact ⟨(hs'.2 _ (h1 p hp)).trans q.1, q.2⟩
  · rcases List.mem_cons.mp hp with rfl | hp
    · exact ⟨e', nD.2⟩
    · have q := N p (List.mem_append_right _ (.tail _ hp))
      exact ⟨(hs'.2 _ (h2 p hp)).trans q.1, q.2⟩
end
section
variable {prog : Program} {w : World} {mean : ExcName → Option Value} {mg mb : Str → Option Value} {A : Around} {s : Shared} {Q E : Value → Shared → Prop}
local macro_rules | `(tactic| walk_at "exec While Compare cons nil") => `(tactic| (refine halt_of ?_))
local macro_rules | `(tactic| walk_at "exec While BoolOp cons nil") => `(tactic| (refine halt_of ?_))
local macro_rules | `(tactic| walk_at "exec For Name Name cons nil") => `(tactic| (refine halt_of ?_))
local macro_rules | `(tactic| walk_at "exec For Tuple Call cons nil") => `(tactic| (refine halt_of ?_))
theorem pre_call (C : Cx w mean mg mb A s.heap) (hd : A.depth + 35 < recursionLimit) (hu : A.units + 290 < cLine) {l : Addr} {vs : List Value} {xs : List Str}
    (hl : s.heap.IsList l vs.toArray) (ha : Are isStr vs xs) (hx : ∀ x ∈ xs, isPt x) (hlen : xs.length ≤ 1000) (hg : AllBare s.gens)
    (hQ : ∀ h' tk g' D vs' n, Ext s.heap h' → AllBare g' → s.heap.get? D = none → h'.get? D = some (PySem.W.listOf vs' n) → Are isStr vs'.toList (xs.map sift) → Q (.ref D) { s with heap := h', toks := tk, gens := g' }) :
    wpAny (model prog w) A (call (.ref 78) [.ref l]) Q E s := by
  obtain ⟨B, F, X, T, hkk⟩ := C
  refine wpAny_call ?_
  (refine' enterP ?k1 ?k2 ?k3 ?k5 ?kA ?kF ?kK ?k6 ?k7 ?k8 ?k9 ?kB ?_ ?c2 ?c3 ?c4 ?c5; (case kA => exact rfl); (case kF => exact rfl); (case kK => assumption); (case k1 => assumption); (case k2 => assumption); (case k3 => assumption); (case k5 => assumption); (case k6 => k_is); (case k7 => k_is); (case k8 => ktr_room); (case k9 => first | exact BindsTo.of_eq rfl | (refine' kp_binds ?kx ?ke; (case kx => k_in); (case ke => exact fun _ => rfl)) | exact binds_K (by k_in) rfl (by k_is) rfl rfl rfl); (case c5 => decide); (case kB => exact locs rfl); (case c2 => exact rfl); (case c3 => exact rfl); (case c4 => exact rfl); k_whole; intro L' h' F' N' B' X' T'; (try dsimp only); (try k_fold))
  k_steps
  unfold Halt
  (with_reducible rename Fr _ _ _ _ => F')
  (with_reducible rename News _ _ _ _ => N'); (try k_sweep)

  obtain ⟨D, hD⟩ := nm1 N'
  subst hD
  refine forN (fun i g m news => AllBare g ∧ ∃ vs' n m₀, news = [(D, PySem.W.listOf vs' n)] ∧ Are isStr vs'.toList ((xs.take i).map sift) ∧ m = over [("accepted_values", .ref D)] m₀) 
    (Fr.over F' [("accepted_values", .ref D)] ⟨rfl, trivial⟩) N' hl ⟨hg, _, _, _, rfl, Are.nil, rfl⟩ rfl ?_ ?_ ?_
  · intro Q' hq
    with_unfolding_all refine ld F' (by rfl) ?_
    exact hq
  · rintro i v m₁ news₁ I o h tk g hv ⟨hb, vs', n, m₀, rfl, ha', rfl⟩ F' N' hn
    obtain ⟨x, hx', t3, rfl⟩ := ha.of hv
    have hxm : x ∈ xs := List.mem_of_getElem? hx'
    have hxp := hx x hxm
    have hID : D ≠ I := hn _ (.head _)
    have hstep : (xs.take (i + 1)).map sift = (xs.take i).map sift ++ [sift x] := by
      rw [List.take_add_one, hx']; simp
    have hsz : vs'.size ≤ 1000 := by
      have h1 := ha'.len
      have h2 : ((xs.take i).map sift).length ≤ xs.length := by simp; omega
      have h3 : vs'.toList.length = vs'.size := by simp
      omega
    k_steps
    (with_reducible rename Fr _ _ _ _ => F')
    (with_reducible rename News _ _ _ _ => N'); (try k_sweep)
    refine paren_call (Cx.mk B' F' X' T' rfl) (by ktr_room) (by ktr_units) (isPt_noq hxp) (Nat.le_trans hxp.2 (by decide)) (fun i c hc => hxp.1 c (Array.mem_toList_iff.mpr (Array.mem_of_getElem? hc))) hb fun h' tk g' K' hb' => ?_
    replace F' := F'.keeps K'
    replace N' := N'.grown K'
    k_steps
    all_goals ((with_reducible rename Fr _ _ _ _ => F'); (with_reducible rename News _ _ _ _ => N'); (try k_sweep))
    · refine appendIn (pre := [(I, o)]) (post := []) F' N' (fun p hp => by rw [List.mem_singleton.mp hp]; exact Ne.symm hID) (fun _ hp => nomatch hp) (by omega) fun h' n' F' N' => ?_
      k_steps
      (with_reducible rename Fr _ _ _ _ => F')
      (with_reducible rename News _ _ _ _ => N'); (try k_sweep)
      refine TurnEnd.intro (news₂ := [(D, _)]) (Fr.over F' [("accepted_values", .ref D)] ⟨rfl, trivial⟩) N' ?_ ⟨hb', _, _, _, rfl, ?_, rfl⟩
      · intro p hp
        rw [List.mem_singleton.mp hp]; exact hID
      rw [hstep, Array.toList_push]
      have hs : sift x = x := by
        unfold sift
        rw [if_pos (by assumption)]
      rw [hs]
      exact ha'.snoc ⟨_, rfl⟩
    · refine appendIn (pre := [(I, o)]) (post := []) F' N' (fun p hp => by rw [List.mem_singleton.mp hp]; exact Ne.symm hID) (fun _ hp => nomatch hp) (by omega) fun h' n' F' N' => ?_
      k_steps
      (with_reducible rename Fr _ _ _ _ => F')
      (with_reducible rename News _ _ _ _ => N'); (try k_sweep)
      refine TurnEnd.intro (news₂ := [(D, _)]) (Fr.over F' [("accepted_values", .ref D)] ⟨rfl, trivial⟩) N' ?_ ⟨hb', _, _, _, rfl, ?_, rfl⟩
      · intro p hp
        rw [List.mem_singleton.mp hp]; exact hID
      rw [hstep, Array.toList_push]
      have hs : sift x = bad := by
        have hf : scan 0 x.cps.toList = false := by assumption
        unfold sift
        rw [hf]; rfl
      rw [hs]
      exact ha'.snoc ⟨_, rfl⟩
  · rintro m₁ news₁ h tk g ⟨hb, vs', n, m₀, rfl, ha', rfl⟩ F' N'
    rw [ha.len, List.take_length] at ha'
    k_steps
    have nD := N' _ (.head _)
    exact hQ _ _ _ _ _ _ F'.keep hb nD.2.2 nD.1 ha'
end
end Mine

-- part Concat


namespace Mine
local macro_rules | `(tactic| walk_at "call builtin:hasattr") => `(tactic| (refine halt_of ?_))
section
variable {prog : Program} {w : World} {mean : ExcName → Option Value} {mg mb : Str → Option Value} {A : Around} {s : Shared} {Q E : Value → Shared → Prop}
theorem concat_str (C : Cx w mean mg mb A s.heap) (hd : A.depth + 3 < recursionLimit) (hu : A.units + 90 < cLine) {x y : Str} {t u : Tok} (hsz : x.length + y.length ≤ 2000)
    (hQ : ∀ h' tk r, Ext s.heap h' → Q (.str (x ++ y) r) { s with heap := h', toks := tk }) : wpAny (model prog w) A (call (.ref 106) [.str x t, .str y u]) Q E s := by
  obtain ⟨B, F, X, T, hkk⟩ := C
  refine wpAny_call ?_
  (refine' enterP ?k1 ?k2 ?k3 ?k5 ?kA ?kF ?kK ?k6 ?k7 ?k8 ?k9 ?kB ?_ ?c2 ?c3 ?c4 ?c5; (case kA => exact rfl); (case kF => exact rfl); (case kK => assumption); (case k1 => assumption); (case k2 => assumption); (case k3 => assumption); (case k5 => assumption); (case k6 => k_is); (case k7 => k_is); (case k8 => ktr_room); (case k9 => first | exact BindsTo.of_eq rfl | (refine' kp_binds ?kx ?ke; (case kx => k_in); (case ke => exact fun _ => rfl)) | exact binds_K (by k_in) rfl (by k_is) rfl rfl rfl); (case c5 => decide); (case kB => exact locs rfl); (case c2 => exact rfl); (case c3 => exact rfl); (case c4 => exact rfl); k_whole; intro L' h' F' N' B' X' T'; (try dsimp only); (try k_fold))
  k_steps
  unfold Halt
  refine hasattr_str rfl fun h1 tk1 K' => ?_
  replace F' := F'.keeps K'
  k_steps
  exact hQ _ _ _ F'.keep
theorem concat_list (C : Cx w mean mg mb A s.heap) (hd : A.depth + 3 < recursionLimit) (hu : A.units + 90 < cLine) {l b : Addr} {vs ws : List Value} {k : Nat}
    (hl : s.heap.get? l = some { cls := .type "list", data := .seq vs.toArray k }) (hb : s.heap.IsList b ws.toArray) (hsz : vs.length + ws.length ≤ 2000)
    (hQ : ∀ h' tk D, Ext s.heap h' → s.heap.get? D = none → h'.get? D = some { cls := .type "list", data := .seq (vs ++ ws).toArray } → Q (.ref D) { s with heap := h', toks := tk }) : wpAny (model prog w) A (call (.ref 106) [.ref l, .ref b]) Q E s := by
  obtain ⟨B, F, X, T, hkk⟩ := C
  refine wpAny_call ?_
  (refine' enterP ?k1 ?k2 ?k3 ?k5 ?kA ?kF ?kK ?k6 ?k7 ?k8 ?k9 ?kB ?_ ?c2 ?c3 ?c4 ?c5; (case kA => exact rfl); (case kF => exact rfl); (case kK => assumption); (case k1 => assumption); (case k2 => assumption); (case k3 => assumption); (case k5 => assumption); (case k6 => k_is); (case k7 => k_is); (case k8 => ktr_room); (case k9 => first | exact BindsTo.of_eq rfl | (refine' kp_binds ?kx ?ke; (case kx => k_in); (case ke => exact fun _ => rfl)) | exact binds_K (by k_in) rfl (by k_is) rfl rfl rfl); (case c5 => decide); (case kB => exact locs rfl); (case c2 => exact rfl); (case c3 => exact rfl); (case c4 => exact rfl); k_whole; intro L' h' F' N' B' X' T'; (try dsimp only); (try k_fold))
  k_steps
  unfold Halt
  refine hasattr_list (F'.keep _ _ hl) rfl fun h1 tk1 K' => ?_
  replace F' := F'.keeps K'
  have N' : News s.heap L' h1 [] := News.nil
  k_steps
  have hl' : h1.IsList l vs.toArray := ⟨_, F'.keep _ _ hl, rfl, _, rfl⟩
  have hs : vs.length + ws.length ≤ sizeLine := Nat.le_trans hsz (by decide)
  refine add_lists F' N' hl' (F'.lst hb) (fun h2 F2 N2 => ?_) hs
  exact hQ _ _ _ F2.keep (N2.fresh (.head _)) (N2.get (.head _))
end
end Mine

-- part Steps


namespace Mine
section
variable {prog : Program} {w : World} {A : Around} {E : Value → Shared → Prop} {s : Shared} {h₀ : Heap} {L : Addr} {m : Str → Option Value} {news : List (Addr × Obj)}
theorem pickInts {vs : List Value} {ns : List Int} (hi : IntsAre vs ns) (lo hi' st : Option Int) : AllInts (slicePick vs.toArray lo hi' st) := by
  intro v hv
  unfold slicePick at hv
  simp only [List.mem_toArray, List.mem_filterMap] at hv
  obtain ⟨i, -, hv⟩ := hv
  exact hi.allInts v (Array.mem_of_getElem? hv)
theorem fm7 (x : Int) : -3 ≤ x.fmod 7 - 3 ∧ x.fmod 7 - 3 ≤ 3 := by
  rw [Int.fmod_eq_emod_of_nonneg _ (by decide)]; omega
theorem sumSlice {l : Addr} {vs : List Value} {ns : List Int} {lo hi' st : Option Int} {n : Nat} {Q : Value → Shared → Prop} (hh : A.handled = none) (F : Fr h₀ L s.heap m)
    (N : News h₀ L s.heap ((l, { cls := .type "list", data := .seq (slicePick vs.toArray lo hi' st) n }) :: news)) (hi : IntsAre vs ns)
    (h : ∀ x h' tk t', Fr h₀ L h' m → News h₀ L h' news → Q (.int x t') { s with heap := h', toks := tk }) :
    wpAny (model prog w) A (call (.builtin "sum") [.ref l]) Q E s :=
  sumK (vs := (slicePick vs.toArray lo hi' st).toList) hh F N (show s.heap.IsList l _ from ⟨{ cls := .type "list", data := .seq (slicePick vs.toArray lo hi' st) n }, N.get (List.mem_cons_self ..), rfl, n, by simp⟩) (intsAre_of (pickInts hi lo hi' st)) fun h' tk t' F' N' => h _ h' tk t' F' fun p hp => N' p (List.mem_cons_of_mem _ hp)
end
local macro_rules | `(tactic| walk_at "call builtin:sum") => `(tactic| ((rename Fr _ _ _ _ => F'); (rename News _ _ _ _ => N'); (with_unfolding_all refine sumSlice rfl F' N' (by assumption) ?_); (intro xx h' tk' t' F' N'); (try dsimp only); (try k_fold)))
abbrev heapOfF {h₀ h : Heap} {L : Addr} {m : Str → Option Value} (_ : Fr h₀ L h m) : Heap := h
inductive StF : Prop
  | mk
theorem stepFlag {F P : Prop} (_ : F) (h : P) : P := h
/-- the steps, turn by turn -/
inductive StepJ (gs : Array GenState) (S : Addr) (Bd : List (Str × Value)) : Nat → Array GenState → (Str → Option Value) → List (Addr × Obj) → Prop
  | mk (vs : Array Value) (n : Nat) (m₀ : Str → Option Value) (ns : List Int) (i : Nat) (ha : Are isInt vs.toList ns) (hl : ns.length = i) (hb : ∀ x ∈ ns, -3 ≤ x ∧ x ≤ 3) : StepJ gs S Bd i gs (over Bd m₀) [(S, PySem.W.listOf vs n)]
theorem sz_of {α : Type} {R : α → Value → Prop} {vs : Array Value} {as : List α} {i : Nat} (h : Are R vs.toList as) (hl : as.length = i) (hi : i < 5) : vs.size ≤ 1000000 := by
  have h1 := h.len
  rw [Array.length_toList, hl] at h1
  rw [h1]
  exact Nat.le_trans (Nat.le_of_lt hi) (Nat.le_of_ble_eq_true rfl)
theorem lit_at {i : Nat} {x : Value} {a b c d e : Tok} (h : [Value.int 2 a, .int 6 b, .int 3 c, .int 1 d, .int 4 e].toArray[i]? = some x) : ∃ c u, x = .int c u ∧ i < 5 ∧ 0 ≤ c ∧ c ≤ 6 := by
  rw [List.getElem?_toArray] at h
  match i, h with
  | 0, h | 1, h | 2, h | 3, h | 4, h => cases h; exact ⟨_, _, rfl, by decide, by decide, by decide⟩
  | n + 5, h => simp at h
theorem un1 {R : Int → Value → Prop} {vs : List Value} {a : Int} {as : List Int} (h : Are R vs (a :: as)) : ∃ v ws, vs = v :: ws ∧ R a v ∧ Are R ws as := by
  obtain ⟨v, e, r⟩ := h.2 0 a rfl
  cases vs with
  | nil => cases e
  | cons x ws => cases e; exact ⟨_, ws, rfl, r, Nat.succ.inj h.1, fun i b hb => h.2 (i + 1) b hb⟩
theorem five_k {vs : Array Value} {ns : List Int} {P : Prop} (h : Are isInt vs.toList ns) (hl : ns.length = 5) (k : ∀ a b c d e t1 t2 t3 t4 t5, vs = #[.int a t1, .int b t2, .int c t3, .int d t4, .int e t5] → ns = [a, b, c, d, e] → P) : P := by
  match ns, hl with
  | [a, b, c, d, e], _ =>
    obtain ⟨_, w1, e1, ⟨t1, rfl⟩, h⟩ := un1 h
    obtain ⟨_, w2, e2, ⟨t2, rfl⟩, h⟩ := un1 h
    obtain ⟨_, w3, e3, ⟨t3, rfl⟩, h⟩ := un1 h
    obtain ⟨_, w4, e4, ⟨t4, rfl⟩, h⟩ := un1 h
    obtain ⟨_, w5, e5, ⟨t5, rfl⟩, h⟩ := un1 h
    cases List.eq_nil_of_length_eq_zero h.1
    subst e5 e4 e3 e2
    exact k _ _ _ _ _ _ _ _ _ _ (Array.toList_inj.mp e1) rfl
section
variable {prog : Program} {w : World} {mean : ExcName → Option Value} {mg mb : Str → Option Value} {A : Around} {s : Shared} {Q E : Value → Shared → Prop}
local macro_rules | `(tactic| walk_at "exec While Compare cons nil") => `(tactic| (refine halt_of ?_))
local macro_rules | `(tactic| walk_at "exec While BoolOp cons nil") => `(tactic| (refine halt_of ?_))
local macro_rules | `(tactic| walk_at "exec For Name Name cons nil") => `(tactic| (refine halt_of ?_))
local macro_rules | `(tactic| walk_at "exec For Tuple Call cons nil") => `(tactic| (refine halt_of ?_))
local macro_rules | `(tactic| walk_at "call type:enumerate") => `(tactic| (refine halt_of ?_))
local macro_rules | `(tactic| walk_at "subscriptTail Name Slice ref ref") => `(tactic| (refine halt_of ?_))
local macro_rules | `(tactic| walk_at "call builtin:list.append") => `(tactic| (refine halt_of ?_))
local macro_rules | `(tactic| walk_at "newList") => `(tactic| (refine stepFlag (F := StF) (by with_reducible assumption) ?_; refine halt_of ?_))
theorem steps_call (C : Cx w mean mg mb A s.heap) (hd : A.depth + 5 < recursionLimit) (hu : A.units + 90 < cLine) {l : Addr} {vs : List Value} {ns : List Int}
    (hl : s.heap.IsList l vs.toArray) (hi : IntsAre vs ns) (hn : ns.length ≤ 63)
    (hQ : ∀ h' tk D n (a b c d e : Int) (t1 t2 t3 t4 t5 t6 : Tok), Ext s.heap h' → s.heap.get? D = none → -3 ≤ a ∧ a ≤ 3 → -3 ≤ b ∧ b ≤ 3 → -3 ≤ c ∧ c ≤ 3 → -3 ≤ d ∧ d ≤ 3 → -3 ≤ e ∧ e ≤ 3 →
      h'.get? D = some { cls := .type "list", data := .seq #[.int a t1, .int b t2, .int c t3, .int d t4, .int e t5, .int (-(a+(b+(c+(d+(e+0)))))) t6] n } → Q (.ref D) { s with heap := h', toks := tk }) :
    wpAny (model prog w) A (call (.ref 134) [.ref l]) Q E s := by
  obtain ⟨B, F, X, T, hkk⟩ := C
  refine wpAny_call ?_
  (refine' enterP ?k1 ?k2 ?k3 ?k5 ?kA ?kF ?kK ?k6 ?k7 ?k8 ?k9 ?kB ?_ ?c2 ?c3 ?c4 ?c5; (case kA => exact rfl); (case kF => exact rfl); (case kK => assumption); (case k1 => assumption); (case k2 => assumption); (case k3 => assumption); (case k5 => assumption); (case k6 => k_is); (case k7 => k_is); (case k8 => ktr_room); (case k9 => first | exact BindsTo.of_eq rfl | (refine' kp_binds ?kx ?ke; (case kx => k_in); (case ke => exact fun _ => rfl)) | exact binds_K (by k_in) rfl (by k_is) rfl rfl rfl); (case c5 => decide); (case kB => exact locs rfl); (case c2 => exact rfl); (case c3 => exact rfl); (case c4 => exact rfl); k_whole; intro L' h' F' N' B' X' T'; (try dsimp only); (try k_fold))
  k_steps
  unfold Halt
  (with_reducible rename Fr _ _ _ _ => F')
  (with_reducible rename News _ _ _ _ => N'); (try k_sweep)
  obtain ⟨S, hS⟩ := nm1 N'
  subst hS
  have nS := N' _ (.head _)
  have ltS : @LT.lt Nat _ S (heapOfF F').objs.size := Heap.lt_size nS.1
  have ltL : @LT.lt Nat _ L' (heapOfF F').objs.size := F'.ns.lt
  have leL : @LE.le Nat _ s.heap.objs.size L' := F'.above
  have ltS1 : @LT.lt Nat _ S ((heapOfF F').objs.size + 1) := Nat.lt_succ_of_lt ltS
  have ltS2 : @LT.lt Nat _ S ((heapOfF F').objs.size + 1 + 1) := Nat.lt_succ_of_lt ltS1
  have ltL1 : @LT.lt Nat _ L' ((heapOfF F').objs.size + 1) := Nat.lt_succ_of_lt ltL
  have ltL2 : @LT.lt Nat _ L' ((heapOfF F').objs.size + 1 + 1) := Nat.lt_succ_of_lt ltL1
  refine forT (h₀ := s.heap) (StepJ s.gens S [("script", .ref l), ("steps", .ref S)]) (fun i v0 v1 => ∃ t c u, i < 5 ∧ v0 = .int i t ∧ v1 = .int c u ∧ 0 ≤ c ∧ c ≤ 6) 5 rfl rfl rfl rfl
    [(heapOfF F').objs.size + 1 + 1, (heapOfF F').objs.size + 1, (heapOfF F').objs.size] [(heapOfF F').objs.size + 1 + 1, (heapOfF F').objs.size + 1] ?_ ?_ ?_
  · have fS : StF := .mk
    k_steps
    unfold Halt
    clear fS
    refine wpAny_newObj_type ?_
    dsimp only
    generalize hH : (Heap.push _ _) = H1
    have hs1 : H1.objs.size = (heapOfF F').objs.size + 1 := by rw [← hH, Heap.size_push]
    have up : Ext (heapOfF F') H1 := by rw [← hH]; exact ext_push _ _
    obtain ⟨u0, u1, u2, u3, u4, hlit⟩ : ∃ u0 u1 u2 u3 u4, H1.IsList (heapOfF F').objs.size [Value.int 2 u0, .int 6 u1, .int 3 u2, .int 1 u3, .int 4 u4].toArray := by rw [← hH]; exact ⟨_, _, _, _, _, _, Heap.get?_push_size _ rfl, rfl, _, rfl⟩
    have F2 := F'.keeps up
    have N2 := News.grown N' up
    k_steps
    unfold Halt
    refine call_enumerate_list hlit fun h₂ he hit hsz hk => ?_
    rw [hs1] at he hit hsz ⊢
    (try dsimp only)
    have W := fun (A : Around) (hA : A.handled = none) => WalksT.enumerate (prog := prog) (w := w) (A := A) hA ((heapOfF F').objs.size + 1 + 1) ((heapOfF F').objs.size + 1) (heapOfF F').objs.size (Nat.succ_ne_self _) (Nat.ne_of_lt (Nat.lt_succ_of_lt (Nat.lt_succ_self _))) (Nat.ne_of_lt (Nat.lt_succ_self _)) [Value.int 2 u0, .int 6 u1, .int 3 u2, .int 1 u3, .int 4 u4].toArray
    have stt : (∃ old, IsEnum h₂ ((heapOfF F').objs.size + 1 + 1) ((heapOfF F').objs.size + 1) (0 : Nat) old) ∧ h₂.IsListIter ((heapOfF F').objs.size + 1) (heapOfF F').objs.size 0 ∧ h₂.IsList (heapOfF F').objs.size [Value.int 2 u0, .int 6 u1, .int 3 u2, .int 1 u3, .int 4 u4].toArray := ⟨⟨_, he⟩, hit, hlit.at fun o e => hk _ o e⟩
    refine (W _ rfl).self 0 _ _ _ ?sa ?_
    (case sa => exact stt)
    refine ⟨_, _, _, _, h₂, _, _, _, [(S, PySem.W.listOf #[] 0)], rfl, rfl, W _ rfl, ?_, stt, ?_, ?_, ?_, (Fr.over F2 [("script", .ref l), ("steps", .ref S)] ⟨rfl, rfl, trivial⟩).keeps hk, News.grown N2 hk, .mk _ _ _ [] 0 Are.nil rfl (fun _ h => nomatch h)⟩
    · rintro i vals ⟨t, x, hx, rfl⟩
      obtain ⟨c, u, rfl, q⟩ := lit_at hx
      exact ⟨_, _, rfl, t, c, u, q.1, rfl, rfl, q.2⟩
    · intro hm
      rcases List.mem_cons.mp hm with e | hm
      · exact absurd (show @Eq Nat L' _ from e) (by omega)
      rcases List.mem_cons.mp hm with e | hm
      · exact absurd (show @Eq Nat L' _ from e) (by omega)
      exact absurd (show @Eq Nat L' _ from List.mem_singleton.mp hm) (by omega)
    · intro b hb
      refine Heap.get?_none_of_le ?_
      rcases List.mem_cons.mp hb with hb | hb
      · rw [hb]; show @LE.le Nat _ _ _; omega
      · rw [List.mem_singleton.mp hb]; show @LE.le Nat _ _ _; omega
    · intro p hp hm
      rw [List.mem_singleton.mp hp] at hm
      rcases List.mem_cons.mp hm with e | hm
      · exact absurd (show @Eq Nat S _ from e) (by omega)
      exact absurd (show @Eq Nat S _ from List.mem_singleton.mp hm) (by omega)
  · rintro i v0 v1 m₁ news₁ own h tk g hi5 ⟨ti, c, u, hi6, rfl, rfl, hc0, hc6⟩ ⟨vs', n, m₀, ns', _, ha, hl2, hb⟩ hown hnw F' N'
    k_steps
    unfold Halt
    (with_reducible rename Fr _ _ _ _ => F')
    (with_reducible rename News _ _ _ _ => N'); (try k_sweep)
    refine slice_list3 F' N' (F'.lst hl) (.int _ _) .none (.int _ _) (by decide) ?_
    intro h' F' N'
    k_steps
    unfold Halt
    (with_reducible rename Fr _ _ _ _ => F')
    (with_reducible rename News _ _ _ _ => N'); (try k_sweep)
    have hSo : ∀ p ∈ own, p.1 ≠ S := fun p hp e => by
      have q := hown p hp
      rw [e] at q
      rcases List.mem_cons.mp q with q | q
      · exact absurd (show @Eq Nat S _ from q) (by omega)
      rcases List.mem_cons.mp q with q | q
      · exact absurd (show @Eq Nat S _ from q) (by omega)
      exact absurd (show @Eq Nat S _ from List.mem_singleton.mp q) (by omega)
    refine appendIn (pre := []) (post := own) F' N' (fun _ hp => nomatch hp) hSo (sz_of ha hl2 hi5) fun h' n' F' N' => ?_
    k_steps
    (with_reducible rename Fr _ _ _ _ => F')
    (with_reducible rename News _ _ _ _ => N'); (try k_sweep)
    refine TurnEndT.intro (news₂ := [(S, _)]) (Fr.over F' [("script", .ref l), ("steps", .ref S)] ⟨rfl, rfl, trivial⟩) N' ?_ (.mk _ _ _ (ns' ++ [_]) _ (by rw [Array.toList_push]; exact ha.snoc ⟨_, rfl⟩) (by simp [hl2]) ?_)
    · intro p hp
      rw [List.mem_singleton.mp hp]
      exact hnw (S, PySem.W.listOf vs' n) (.head _)
    · intro x hx
      rcases List.mem_append.mp hx with hx | hx
      · exact hb x hx
      · rw [List.mem_singleton.mp hx]; exact fm7 _
  · rintro m₁ news₁ h tk g ⟨vs', n, m₀, ns', _, ha, hl2, hb⟩ F' N'
    refine wpAny_execs_nil ?_
    refine five_k ha hl2 fun a b c d e t1 t2 t3 t4 t5 ev en => ?_
    subst ev en
    have hba := hb a (by simp)
    have hbb := hb b (by simp)
    have hbc := hb c (by simp)
    have hbd := hb d (by simp)
    have hbe := hb e (by simp)
    clear hb ha hl2
    k_steps
    unfold Halt
    (with_reducible rename Fr _ _ _ _ => F')
    (with_reducible rename News _ _ _ _ => N'); (try k_sweep)
    refine appendIn (pre := []) (post := []) F' N' (fun _ hp => nomatch hp) (fun _ hp => nomatch hp) (Nat.le_of_ble_eq_true rfl) fun h' n' F' N' => ?_
    k_steps
    (with_reducible rename Fr _ _ _ _ => F')
    (with_reducible rename News _ _ _ _ => N'); (try k_sweep)
    exact hQ _ _ _ _ a b c d e _ _ _ _ _ _ F'.keep (N'.fresh (.head _)) hba hbb hbc hbd hbe (N'.get (.head _))
end
end Mine

-- part EnterC


namespace Mine
section
variable {prog : Program} {w : World} {A A₀ : Around} {s : Shared} {K : Frag} {L : Addr} {h₀ base : Heap} {m mg mb : Str → Option Value} {p : Program} {loose : List Str} {mean : ExcName → Option Value}
theorem enterC {env : Env} {outer : List Env} {R : Result → Shared → Prop} {name qual : Str} {params : Arguments} {body : List Stmt} {scope : Scope} {dV kV doc pm cdv ct oc : Value} {an od : Option Addr} {osl : Array (Option Value)} {f : Addr} {args : Args} {binds : List (Str × Value)}
    (B : Below A₀ base outer h₀) (F : Fr h₀ L s.heap m) (X₀ : K.In h₀) (T : Top p loose mean mg mb h₀) (hA : A.frames = some (env :: outer)) (hf : env.frame = some L) (hke : env.scope.kind = .function)
    (ho : K.lookup f = some ⟨oc, od, .func (fnOf name qual params body scope dV kV doc pm an cdv ct), osl⟩) (hcd : codeIn K cdv qual = true) (hroom : A.depth < recursionLimit)
    (hbind : BindsTo s (fnOf name qual params body scope dV kV doc pm an cdv ct) args binds) (hkind : (binds.all fun y => scope.names.lookup y.1 == some .local || scope.names.lookup y.1 == some .cell) = true)
    (hnd : ((cellsFrom 0 scope.names []).map (·.1)).Nodup)
    (h : ∀ L' h₁ tk cells, Fr s.heap L' h₁ (bindL (envOfC qual scope L' f cdv).kindOf binds fun _ => none) → News s.heap L' h₁ cells →
      CellsAre (bindC (envOfC qual scope L' f cdv).kindOf binds fun _ => none) (cellsFrom (L' + 1) scope.names []) cells → Below A base (env :: outer) s.heap → K.In s.heap → Top p loose mean mg mb s.heap →
      wpAny (model prog w) (A.deeper (envOfC qual scope L' f cdv)) (execs body (envOfC qual scope L' f cdv))
        (fun fl s' => R (.ok (.ret (match fl with | .ret v => v | _ => .none))) s') (fun _ _ => False)
        { s with heap := h₁, toks := tk })
    (hco : scope.isCoroutine = false) (hgen : scope.isGenerator = false) (hk : scope.kind = .function) : codeAny (model prog w) A (.call (.ref f) args) R s := by
  obtain ⟨_, BG, _, _⟩ := groundX (R := R) B F (News.nil) hA hf hke
  have BG' : Below A base (env :: outer) s.heap := BG
  refine codeAny_call_function (fd := fnOf name qual params body scope dV kV doc pm an cdv ct) hroom ((X₀.keeps F.keep) _ _ ho) rfl hco hgen rfl (codeRec_of (X₀.keeps F.keep) hcd) (hbind _ _ _ _ ?_)
  refine wpAny_newFunctionEnv_cells hk (kindsX hkind _) fun env' he s' x => ?_
  subst he
  refine ⟨(T.nolimit.keeps F.keep).keeps x.toInCall.keep, codeAny_func ?_⟩
  obtain ⟨h₁, tk, rfl, _⟩ := x.done
  have hk₁ := x.toInCall.keep
  obtain ⟨cells, NC, Y⟩ := Cl.news (h₀ := s.heap) (Nat.le_refl _) fun n c hm => ⟨x.cell n c (lookup_of_mem_nodup (cellsFrom_names scope.names 0 (s.heap.objs.size + 1) [] [] rfl ▸ hnd) hm), x.above n c hm⟩
  exact wpAny_mono (h s.heap.objs.size h₁ tk cells ⟨x.toInCall.ns, hk₁, Nat.le_refl _⟩ NC Y BG' (X₀.keeps F.keep) (T.keeps F.keep)) (fun _ _ x => x) fun _ _ x => x.elim
end
end Mine

-- part LawH0

namespace Mine
theorem Are.uncons {α : Type} {R : α → Value → Prop} {vs : List Value} {a : α} {as : List α} (h : Are R vs (a :: as)) : ∃ v ws, vs = v :: ws ∧ R a v ∧ Are R ws as := by
  obtain ⟨v, e, r⟩ := h.2 0 a rfl
  cases vs with
  | nil => cases e
  | cons x ws => cases e; exact ⟨_, ws, rfl, r, Nat.succ.inj h.1, fun i b hb => h.2 (i + 1) b hb⟩
theorem Are.unnil {α : Type} {R : α → Value → Prop} {vs : List Value} (h : Are R vs []) : vs = [] := List.eq_nil_of_length_eq_zero h.1
theorem IntsAre.are {vs : List Value} {ns : List Int} (h : IntsAre vs ns) : Are isInt vs ns := by
  induction h with
  | nil => exact .nil
  | cons n t _ ih => exact .cons ⟨t, rfl⟩ ih
theorem are_six {α : Type} {R : α → Value → Prop} {v0 v1 v2 v3 v4 v5 : Value} {x0 x1 x2 x3 x4 x5 : α} (r0 : R x0 v0) (r1 : R x1 v1) (r2 : R x2 v2) (r3 : R x3 v3) (r4 : R x4 v4) (r5 : R x5 v5) : Are R [v0, v1, v2, v3, v4, v5] [x0, x1, x2, x3, x4, x5] :=
  .cons r0 (.cons r1 (.cons r2 (.cons r3 (.cons r4 (.cons r5 .nil)))))
theorem are6 {x0 x1 x2 x3 x4 x5 : Str} {t0 t1 t2 t3 t4 t5 : Tok} : Are isStr [.str x0 t0, .str x1 t1, .str x2 t2, .str x3 t3, .str x4 t4, .str x5 t5] [x0, x1, x2, x3, x4, x5] := are_six ⟨_, rfl⟩ ⟨_, rfl⟩ ⟨_, rfl⟩ ⟨_, rfl⟩ ⟨_, rfl⟩ ⟨_, rfl⟩
theorem areI6 {x0 x1 x2 x3 x4 x5 : Int} {t0 t1 t2 t3 t4 t5 : Tok} : Are isInt [.int x0 t0, .int x1 t1, .int x2 t2, .int x3 t3, .int x4 t4, .int x5 t5] [x0, x1, x2, x3, x4, x5] := are_six ⟨_, rfl⟩ ⟨_, rfl⟩ ⟨_, rfl⟩ ⟨_, rfl⟩ ⟨_, rfl⟩ ⟨_, rfl⟩
theorem six_list {α : Type} {R : α → Value → Prop} {vs : List Value} {x0 x1 x2 x3 x4 x5 : α} (h : Are R vs [x0, x1, x2, x3, x4, x5]) : ∃ v0 v1 v2 v3 v4 v5, vs = [v0, v1, v2, v3, v4, v5] ∧ R x0 v0 ∧ R x1 v1 ∧ R x2 v2 ∧ R x3 v3 ∧ R x4 v4 ∧ R x5 v5 := by
  obtain ⟨v0, _, rfl, r0, h⟩ := h.uncons
  obtain ⟨v1, _, rfl, r1, h⟩ := h.uncons
  obtain ⟨v2, _, rfl, r2, h⟩ := h.uncons
  obtain ⟨v3, _, rfl, r3, h⟩ := h.uncons
  obtain ⟨v4, _, rfl, r4, h⟩ := h.uncons
  obtain ⟨v5, _, rfl, r5, h⟩ := h.uncons
  cases h.unnil
  exact ⟨_, _, _, _, _, _, rfl, r0, r1, r2, r3, r4, r5⟩
theorem six_any {α : Type} {R : α → Value → Prop} {vs : Array Value} {x0 x1 x2 x3 x4 x5 : α} (h : Are R vs.toList [x0, x1, x2, x3, x4, x5]) : ∃ v0 v1 v2 v3 v4 v5, vs = #[v0, v1, v2, v3, v4, v5] ∧ R x0 v0 ∧ R x1 v1 ∧ R x2 v2 ∧ R x3 v3 ∧ R x4 v4 ∧ R x5 v5 := by
  obtain ⟨v0, v1, v2, v3, v4, v5, e, r⟩ := six_list h
  exact ⟨v0, v1, v2, v3, v4, v5, Array.toList_inj.mp e, r⟩
theorem six_strs {vs : Array Value} {x0 x1 x2 x3 x4 x5 : Str} (h : Are isStr vs.toList [x0, x1, x2, x3, x4, x5]) : ∃ t0 t1 t2 t3 t4 t5, vs = #[.str x0 t0, .str x1 t1, .str x2 t2, .str x3 t3, .str x4 t4, .str x5 t5] := by
  obtain ⟨_, _, _, _, _, _, e, ⟨t0, rfl⟩, ⟨t1, rfl⟩, ⟨t2, rfl⟩, ⟨t3, rfl⟩, ⟨t4, rfl⟩, ⟨t5, rfl⟩⟩ := six_any h
  exact ⟨_, _, _, _, _, _, e⟩
theorem six_ints {vs : List Value} (h : IntsAre vs (rangeKs 0 ((6 + 0 - Nat.succ 0) / 1 + 1))) : ∃ u0 u1 u2 u3 u4 u5, vs = [.int 0 u0, .int 1 u1, .int 2 u2, .int 3 u3, .int 4 u4, .int 5 u5] := by
  obtain ⟨_, _, _, _, _, _, e, ⟨u0, rfl⟩, ⟨u1, rfl⟩, ⟨u2, rfl⟩, ⟨u3, rfl⟩, ⟨u4, rfl⟩, ⟨u5, rfl⟩⟩ := six_list (IntsAre.are (show IntsAre vs [0, 1, 2, 3, 4, 5] from h))
  exact ⟨_, _, _, _, _, _, e⟩
theorem News.add {h₀ h h' : Heap} {L D : Addr} {m : Str → Option Value} {news : List (Addr × Obj)} {o : Obj} (F : Fr h₀ L h m) (N : News h₀ L h news) (K : Ext h h') (hf : h.get? D = none) (hD : h'.get? D = some o) : News h₀ L h' ((D, o) :: news) := fun p hp => by
  rcases List.mem_cons.mp hp with rfl | hp
  · refine ⟨hD, fun e => ?_, ?_⟩
    · obtain ⟨q, _, _, hq, _⟩ := F.ns
      have e' : D = L := e
      rw [e', hq] at hf; cases hf
    · cases q : h₀.get? D with
      | none => rfl
      | some o' => rw [F.keep _ _ q] at hf; cases hf
  · exact N.grown K p hp
theorem News.drop2 {h₀ h : Heap} {L : Addr} {p a b : Addr × Obj} {r : List (Addr × Obj)} (N : News h₀ L h (p :: a :: b :: r)) : News h₀ L h (p :: r) := fun q hq => by
  rcases List.mem_cons.mp hq with rfl | hq
  · exact N _ (.head _)
  · exact N q (.tail _ (.tail _ (.tail _ hq)))
theorem News.tl2 {h₀ h : Heap} {L : Addr} {a b : Addr × Obj} {r : List (Addr × Obj)} (N : News h₀ L h (a :: b :: r)) : News h₀ L h r := fun q hq => N q (.tail _ (.tail _ hq))
theorem News.more {h₀ h h' : Heap} {L : Addr} {news : List (Addr × Obj)} (N : News h₀ L h news) (K : Ext h h') : News h₀ L h' news := N.grown K
theorem News.listAt {h₀ h : Heap} {L D : Addr} {news : List (Addr × Obj)} {vs : List Value} {n : Nat} (N : News h₀ L h news) (hm : (D, PySem.W.listOf vs.toArray n) ∈ news) : h.IsList D vs.toArray := N.isList hm
section
variable {prog : Program} {w : World} {A : Around} {E : Value → Shared → Prop} {s : Shared} {h₀ : Heap} {L : Addr} {m : Str → Option Value} {news : List (Addr × Obj)}
theorem sumLit {l : Addr} {vs : List Value} {ns : List Int} {n : Nat} {Q : Value → Shared → Prop} (hi : IntsAre vs ns) (hh : A.handled = none) (F : Fr h₀ L s.heap m)
    (N : News h₀ L s.heap ((l, PySem.W.listOf vs.toArray n) :: news)) 
    (h : ∀ x h' tk t', x = ns.sum → Fr h₀ L h' m → News h₀ L h' news → Q (.int x t') { s with heap := h', toks := tk }) :
    wpAny (model prog w) A (call (.builtin "sum") [.ref l]) Q E s :=
  sumK hh F N (N.isList (List.mem_cons_self ..)) hi fun h' tk t' F' N' => h _ h' tk t' rfl F' fun p hp => N' p (List.mem_cons_of_mem _ hp)
end
theorem News.tl {h₀ h : Heap} {L : Addr} {a : Addr × Obj} {r : List (Addr × Obj)} (N : News h₀ L h (a :: r)) : News h₀ L h r := fun q hq => N q (.tail _ hq)
theorem News.skip {h₀ h : Heap} {L : Addr} {a : Addr × Obj} {r : List (Addr × Obj)} (k : Nat) (N : News h₀ L h (a :: r)) : News h₀ L h (a :: r.drop k) := fun q hq => by
  rcases List.mem_cons.mp hq with rfl | hq
  · exact N _ (.head _)
  · exact N q (.tail _ (List.mem_of_mem_drop hq))
theorem News.many {h₀ h h' : Heap} {L : Addr} {m : Str → Option Value} {news : List (Addr × Obj)} (F : Fr h₀ L h m) (N : News h₀ L h news) (K : Ext h h') : ∀ (ex : List (Addr × Obj)), (∀ p ∈ ex, h'.get? p.1 = some p.2 ∧ h.get? p.1 = none) → News h₀ L h' (ex ++ news)
  | [], _ => N.grown K
  | p :: ex, he => fun q hq => by
    rcases List.mem_cons.mp hq with rfl | hq
    · have z := he _ (.head _)
      exact (News.add (D := q.1) (o := q.2) F N K z.2 z.1) _ (.head _)
    · exact News.many F N K ex (fun r hr => he r (.tail _ hr)) q hq
theorem News.at0 {h₀ h : Heap} {L D : Addr} {us : Array Value} {n : Nat} {r : List (Addr × Obj)} (vs : List Value) (N : News h₀ L h ((D, PySem.W.listOf us n) :: r)) (e : us = vs.toArray) : News h₀ L h ((D, PySem.W.listOf vs.toArray n) :: r) := e ▸ N
theorem News.cut {h₀ h : Heap} {L : Addr} {l : List (Addr × Obj)} (i k : Nat) (N : News h₀ L h l) : News h₀ L h (l.take i ++ l.drop k) := fun q hq =>
  (List.mem_append.mp hq).elim (fun hq => N q (List.mem_of_mem_take hq)) fun hq => N q (List.mem_of_mem_drop hq)
theorem News.cut2 {h₀ h : Heap} {L : Addr} {p : Addr × Obj} {t l : List (Addr × Obj)} (N : News h₀ L h (p :: (t ++ l))) : News h₀ L h l := fun q hq => N q (.tail _ (List.mem_append_right _ hq))
theorem base_ne {h₀ h : Heap} {L l : Addr} {m : Str → Option Value} {vs : Array Value} (F : Fr h₀ L h m) (hl : h₀.IsList l vs) : l ≠ L := by
  obtain ⟨o, ho, _⟩ := hl
  exact Nat.ne_of_lt (Nat.lt_of_lt_of_le (Heap.lt_size ho) F.above)
theorem at_map {α β : Type} {f : α → β} {xs : List α} {i : Nat} {x : α} (h : xs[i]? = some x) : (xs.map f)[i]? = some (f x) := by rw [List.getElem?_map, h]; rfl
/-- an address apart from each of a ledger's -/
structure Apart (D : Addr) (l : List (Addr × Obj)) : Prop where
  mk' ::
  off : ∀ p ∈ l, @Ne Nat p.1 D
theorem apart_lt {D : Addr} {l : List (Addr × Obj)} (h : ∀ p ∈ l, p.1 < D) : Apart D l := ⟨fun p hp => Nat.ne_of_lt (h p hp)⟩
theorem apart_none {h₀ h : Heap} {L D : Addr} {news : List (Addr × Obj)} (N : News h₀ L h news) (hf : h.get? D = none) : Apart D news := ⟨fun p hp e => by
  have q := (N p hp).1
  have e' : p.1 = D := e
  rw [e', hf] at q
  cases q⟩
theorem Apart.of3 {h₀ hh : Heap} {L I C D : Addr} {oI oC oD : Obj} {l : List (Addr × Obj)} (_ : News h₀ L hh ((I, oI) :: (C, oC) :: (D, oD) :: l)) (h : LCg.Off3 I C D l) (h2 : (@Ne Nat I C) ∧ (@Ne Nat I D) ∧ (@Ne Nat C D)) : Apart I ((C, oC) :: (D, oD) :: l) ∧ Apart C ((D, oD) :: l) ∧ Apart D l := by
  have q := h.mem
  refine ⟨⟨fun p hp => ?_⟩, ⟨fun p hp => ?_⟩, ⟨fun p hp => (q p hp).2.2⟩⟩
  · rcases List.mem_cons.mp hp with rfl | hp
    · exact h2.1.symm
    · rcases List.mem_cons.mp hp with rfl | hp
      · exact h2.2.1.symm
      · exact (q p hp).1
  · rcases List.mem_cons.mp hp with rfl | hp
    · exact h2.2.2.symm
    · exact (q p hp).2.1
theorem Apart.off3 {I C D : Addr} {oC oD : Obj} {l : List (Addr × Obj)} (h1 : Apart I ((C, oC) :: (D, oD) :: l)) (h2 : Apart C ((D, oD) :: l)) (h3 : Apart D l) : LCg.Off3 I C D l :=
  LCg.Off3.of fun p hp => ⟨h1.off p (.tail _ (.tail _ hp)), h2.off p (.tail _ hp), h3.off p hp⟩
theorem off1_mem {D : Addr} : ∀ {l : List (Addr × Obj)}, LCg.Off1 D l → ∀ p ∈ l, @Ne Nat p.1 D
  | [], _ => fun p hp => by cases hp
  | p :: r, h => fun q hq => by
    rcases List.mem_cons.mp hq with rfl | hq
    · exact h.1
    · exact off1_mem h.2 q hq
theorem Apart.of1 {D : Addr} {l : List (Addr × Obj)} (h : LCg.Off1 D l) : Apart D l := ⟨off1_mem h⟩
theorem Apart.ne {D x : Addr} {o : Obj} {l : List (Addr × Obj)} (h : Apart D l) (hm : (x, o) ∈ l) : @Ne Nat x D := h.off _ hm
theorem Apart.ne' {D x : Addr} {o : Obj} {l : List (Addr × Obj)} (h : Apart D l) (hm : (x, o) ∈ l) : @Ne Nat D x := (h.off _ hm).symm

end Mine

-- part CompG

namespace Mine
open LCg
/-- where a turn that makes no object ends -/
def EndS (h₀ : Heap) (L : Addr) (m : Str → Option Value) (s : Shared) (nw : List (Addr × Obj)) (P : Value → Prop) (y : Value) (s' : Shared) : Prop := ∃ h' tk', s' = { s with heap := h', toks := tk' } ∧ Fr h₀ L h' m ∧ News h₀ L h' nw ∧ P y
theorem EndS.intro {h₀ : Heap} {L : Addr} {m : Str → Option Value} {s : Shared} {nw : List (Addr × Obj)} {P : Value → Prop} {y : Value} {h' : Heap} {tk : Nat} (F : Fr h₀ L h' m) (N : News h₀ L h' nw) (hp : P y) : EndS h₀ L m s nw P y { s with heap := h', toks := tk } := ⟨h', tk, rfl, F, N, hp⟩
/-- where a turn of a comprehension ends: what it has made lies ahead of the ledger -/
def EndJ (h₀ : Heap) (L : Addr) (m : Str → Option Value) (s : Shared) (C : Addr) (oC : Obj) (D : Addr) (oD : Obj) (news own : List (Addr × Obj)) (J : Value → List (Addr × Obj) → Prop) (y : Value) (s' : Shared) : Prop :=
  ∃ h' tk nw, s' = { s with heap := h', toks := tk } ∧ Fr h₀ L h' m ∧ News h₀ L h' ((C, oC) :: (D, oD) :: (nw ++ (news ++ own))) ∧ (∀ p ∈ nw, Apart p.1 ((C, oC) :: (D, oD) :: (news ++ own))) ∧ J y (nw ++ news)
theorem EndJ.same {h₀ : Heap} {L C D : Addr} {m : Str → Option Value} {s : Shared} {oC oD : Obj} {news own : List (Addr × Obj)} {J : Value → List (Addr × Obj) → Prop} {y : Value} {h' : Heap} {tk : Nat}
    (F : Fr h₀ L h' m) (N : News h₀ L h' ((C, oC) :: (D, oD) :: (news ++ own))) (hj : J y news) : EndJ h₀ L m s C oC D oD news own J y { s with heap := h', toks := tk } :=
  ⟨h', tk, [], rfl, F, N, (fun _ h => nomatch h), hj⟩
/-- what taking an item apart says: the frame of the comprehension after turn i -/
def Asg (prog : Program) (w : World) (A : Around) (env : Env) (scope : Scope) (cl : List (Str × Addr)) (target : PySem.Expr) (P : Nat → Value → Heap → Prop) (Bd : Nat → (Str → Option Value) → Prop) : Prop :=
  ∀ (C : Addr) (i : Nat) (v : Value) (s : Shared) (m : Str → Option Value) (Q : Unit → Shared → Prop) (E : Value → Shared → Prop), P i v s.heap → s.heap.Ns C m →
    (∀ h' tk m₂, h'.Ns C m₂ → Bd i m₂ → (∀ c o, c ≠ C → s.heap.get? c = some o → h'.get? c = some o) → Q () { s with heap := h', toks := tk }) → wpAny (model prog w) A (assign target (compEnvC scope cl C env) v) Q E s
section
variable {prog : Program} {w : World} {A : Around} {E : Value → Shared → Prop} {s : Shared} {h₀ : Heap} {L : Addr} {m : Str → Option Value} {env : Env}
def SrcJ (prog : Program) (w : World) (A : Around) (h₀ : Heap) (L : Addr) (m : Str → Option Value) (target : PySem.Expr) (Item : Nat → Value → Heap → Prop) (n : Nat) (news : List (Addr × Obj)) (s : Shared) (it : Value) (s₂ : Shared) : Prop :=
  ∃ I fp wr P Md St g tk, it = .ref I ∧ s₂ = { s with heap := g, toks := tk } ∧ KTurns prog w A target I fp wr n P Md St ∧ (∀ i v h, P i v h → Item i v h) ∧ St 0 g ∧
    (∀ i h, St i h → ∀ b ∈ fp, ∃ o, h.get? b = some o) ∧ (∀ (s : Shared) (Q : Value → Shared → Prop) (E : Value → Shared → Prop), St 0 s.heap → Q (.ref I) s → wpAny (model prog w) A (pyIter (.ref I)) Q E s) ∧ 
    L ∉ fp ∧ (∀ b ∈ wr, h₀.get? b = none) ∧ (∀ p ∈ news, p.1 ∉ wr) ∧ Fr h₀ L g m ∧ News h₀ L g news
theorem blockJ {elt iter target : PySem.Expr} {scope : Scope} {cl : List (Str × Addr)} {pos : Pos} {it : Value} {s₂ : Shared} {n : Nat} {news : List (Addr × Obj)} {Item : Nat → Value → Heap → Prop} {Bd : Nat → (Str → Option Value) → Prop} (hA : Asg prog w A env scope cl target Item Bd)
    (J : Nat → List Value → List (Addr × Obj) → Prop) {RR : Value → Addr → Result → Shared → Prop} (src : SrcJ prog w A h₀ L m target Item n news s it s₂) (h0 : J 0 [] news) (hsz : n ≤ sizeLine)
    (hcell : ∀ y ∈ scope.names, y.2 ≠ .cell) (hkind : scope.kind = .function) (hh : A.handled = none)
    (turn : ∀ i ys news own C oC D m₂ h tk (E' : Value → Shared → Prop), i < n → ys.length = i → Bd i m₂ → J i ys news → NsObj oC m₂ → Fr h₀ L h m → News h₀ L h ((C, oC) :: (D, lst ys) :: (news ++ own)) →
      Apart C ((D, lst ys) :: (news ++ own)) → Apart D (news ++ own) → wpAny (model prog w) A (eval elt (compEnvC scope cl C env)) (EndJ h₀ L m { s with heap := h, toks := tk } C oC D (lst ys) news own (fun y news' => J (i + 1) (ys ++ [y]) news')) E' { s with heap := h, toks := tk })
    (hRR : ∀ D C h tk m' ys news', Fr h₀ L h m → News h₀ L h ((D, lst ys) :: news') → Apart D news' → h.Ns C m' → h₀.get? C = none → h₀.get? D = none → C ≠ L → D ≠ L → C ≠ D → Apart C news' → J n ys news' → ys.length = n → RR (.ref D) C (.ok .next) { s with heap := h, toks := tk }) :
    wpAny (model prog w) A (newList []) (fun acc s₃ => wpAny (model prog w) A (newFunctionEnv scope env.globals cl [] env.qual none .none (some env)) (fun cenv s₄ =>
      codeAny (model prog w) A (.compStart (.ListComp elt [⟨target, iter, [], 0⟩] scope pos) 0 it acc { cenv with scope := relabel scope env }) (RR acc cenv.locals) s₄) E s₃) E s₂ := by
  obtain ⟨I, fp, wr, P, Md, St, g, tk₀, rfl, rfl, W, hP, hst, hfp, hself, hLf, hwr, hnw, F, N⟩ := src
  refine wpAny_newObj_type (wpAny_newFunctionEnv hcell (by intro y hy; simp at hy) (fun h₁ hns₁ hsb₁ => ?_) hkind)
  dsimp only at hns₁ hsb₁ ⊢
  generalize hH2 : g.push { cls := .type "list", dict := none, data := .seq ([] : List Value).toArray } = H2 at hns₁ hsb₁ ⊢
  have hC : H2.objs.size = g.objs.size + 1 := by rw [← hH2, Heap.size_push]
  have hDC : g.objs.size ≠ H2.objs.size := by rw [hC]; exact Nat.ne_of_lt (Nat.lt_succ_self _)
  have below : ∀ b, b < g.objs.size → b ≠ H2.objs.size ∧ b ≠ g.objs.size := fun b hb => ⟨by rw [hC]; exact Nat.ne_of_lt (Nat.lt_succ_of_lt hb), Nat.ne_of_lt hb⟩
  have fpl : ∀ b ∈ fp, b < g.objs.size := fun b hb => by obtain ⟨o, e⟩ := hfp 0 g hst b hb; exact Heap.lt_size e
  have hDf : g.objs.size ∉ fp := fun hm => Nat.lt_irrefl _ (fpl _ hm)
  have hCf : H2.objs.size ∉ fp := fun hm => by have := fpl _ hm; rw [hC] at this; exact Nat.lt_irrefl _ (Nat.lt_of_succ_lt this)
  have hLw : L ∉ wr := fun q => hLf (W.sub _ q)
  have old : ∀ b o, g.get? b = some o → h₁.get? b = some o := fun b o e => hsb₁.extBut b o (below b (Heap.lt_size e)).1 (Heap.get?_push_of_some _ (hH2 ▸ Heap.get?_push_of_some _ e))
  have hacc : h₁.get? g.objs.size = some (lst []) := hsb₁.extBut _ _ hDC (Heap.get?_push_of_some _ (hH2 ▸ Heap.get?_push_size _ rfl))
  have hst₁ : St 0 h₁ := W.frame _ _ _ hst fun b _ o e => old b o e
  have fresh : ∀ a, g.objs.size ≤ a → g.get? a = none := fun a ha => by
    cases e : g.get? a with
    | none => rfl
    | some o' => exact absurd (Heap.lt_size e) (Nat.not_lt.mpr ha)
  have fresh₀ : ∀ a, g.objs.size ≤ a → h₀.get? a = none := fun a ha => by
    cases e : h₀.get? a with
    | none => rfl
    | some o' => have := F.keep a o' e; rw [fresh a ha] at this; cases this
  have hD₀ : h₀.get? g.objs.size = none := fresh₀ _ (Nat.le_refl _)
  have hC₀ : h₀.get? H2.objs.size = none := fresh₀ _ (by rw [hC]; exact Nat.le_succ _)
  have hLlt : L < g.objs.size := F.ns.lt
  have hDL : g.objs.size ≠ L := Ne.symm (below L hLlt).2
  have hCL : H2.objs.size ≠ L := Ne.symm (below L hLlt).1
  have hCw : H2.objs.size ∉ wr := fun q => hCf (W.sub _ q)
  have hDw : g.objs.size ∉ wr := fun q => hDf (W.sub _ q)
  have oldw : ∀ b o, h₀.get? b = some o → b ∉ wr := fun b o e hb => by rw [hwr b hb] at e; cases e
  have loop : ∀ s₃ : Shared, s₃ = { s with heap := h₁, toks := tk₀ + ([] : List (Str × Value)).length } →
      codeAny (model prog w) A (.compLoop (.ListComp elt [⟨target, iter, [], 0⟩] scope pos) 0 (.ref I) (.ref g.objs.size) (compEnvC scope cl H2.objs.size env))
        (RR (.ref g.objs.size) H2.objs.size) s₃ := by
    rintro s₃ rfl
    refine kcp_loop
      (fun k s' => ∃ h' tk i ys m' news', s' = { s with heap := h', toks := tk } ∧ i ≤ n ∧ k = n + 1 - i ∧ ys.length = i ∧ St i h' ∧ Fr h₀ L h' m ∧ h'.Ns H2.objs.size m' ∧ News h₀ L h' ((g.objs.size, lst ys) :: news') ∧
        Apart H2.objs.size news' ∧ Apart g.objs.size news' ∧ (∀ p ∈ news', p.1 ∉ wr) ∧ J i ys news') ?_ (n + 1)
      ⟨h₁, _, 0, [], _, news, rfl, Nat.zero_le _, rfl, rfl, hst₁, F.keeps old, hns₁, fun p hp => ?_, ⟨fun p hp => (below _ (Heap.lt_size (N p hp).1)).1⟩, ⟨fun p hp => (below _ (Heap.lt_size (N p hp).1)).2⟩, hnw, h0⟩
    · rintro k s' ⟨h', tk, i, ys, m', news', rfl, hi, rfl, hyl, hst', F', hn', N', aC, aD, hnw', J'⟩
      have carry : ∀ h₂ : Heap, (∀ b o, b ∉ wr → h'.get? b = some o → h₂.get? b = some o) → Fr h₀ L h₂ m ∧ News h₀ L h₂ ((g.objs.size, lst ys) :: news') ∧ h₂.Ns H2.objs.size m' := fun h₂ hk =>
        ⟨⟨F'.ns.at' fun o e => hk _ o hLw e, fun b o e => hk b o (oldw b o e) (F'.keep b o e), F'.above⟩, fun p hp => ⟨hk _ _ (by
          rcases List.mem_cons.mp hp with rfl | hp
          · exact hDw
          · exact hnw' p hp) (N' p hp).1, (N' p hp).2⟩, hn'.at' fun o e => hk _ o hCw e⟩
      by_cases hlt : i < n
      · refine W.item i _ _ _ hlt hst' fun v h₂ tk₂ hMd hk₂ => ?_
        refine W.go i v _ _ _ hMd fun h₃ hPi hst₃ hk₃ => ?_
        obtain ⟨F₃, N₃, hn₃⟩ := carry h₃ fun b o hb e => hk₃ b o hb (hk₂ b o hb e)
        refine hA H2.objs.size i v _ _ _ _ (hP i v h₃ hPi) hn₃ fun h₄ tk₄ m₄ hn₄ hBd hk₄ => ?_
        have hk₄' : ∀ b o, b ≠ H2.objs.size → h₃.get? b = some o → h₄.get? b = some o := fun b o hb e => hk₄ b o hb e
        have hst₄ : St (i + 1) h₄ := W.frame _ _ _ hst₃ fun b hb o e => hk₄' b o (fun q => hCf (by rw [← q]; exact hb)) e
        obtain ⟨oC, heC, hoC⟩ := ns_obj hn₄
        have F₄ : Fr h₀ L h₄ m := ⟨F₃.ns.at' fun o e => hk₄' _ o (Ne.symm hCL) e, fun b o e => hk₄' b o (fun q => by rw [q, hC₀] at e; cases e) (F₃.keep b o e), F₃.above⟩
        have N₄ : News h₀ L h₄ ((H2.objs.size, oC) :: (g.objs.size, lst ys) :: (news' ++ ownOf h₀ fp h₄)) := fun p hp => by
          rcases List.mem_cons.mp hp with rfl | hp
          · exact ⟨heC, hCL, hC₀⟩
          · rcases List.mem_cons.mp hp with rfl | hp
            · have z := N₃ _ (List.mem_cons_self ..)
              exact ⟨hk₄' _ _ hDC z.1, z.2⟩
            · rcases List.mem_append.mp hp with hp | hp
              · have z := N₃ p (List.mem_cons_of_mem _ hp)
                exact ⟨hk₄' _ _ (aC.off p hp) z.1, z.2⟩
              · exact (news_ownOf hLf) p hp
        have ownD : ∀ p ∈ ownOf h₀ fp h₄, @Ne Nat p.1 g.objs.size ∧ @Ne Nat p.1 H2.objs.size := fun p hp => ⟨fun q => hDf (by rw [← q]; exact ownOf_sub p hp), fun q => hCf (by rw [← q]; exact ownOf_sub p hp)⟩
        have aD' : Apart g.objs.size (news' ++ ownOf h₀ fp h₄) := ⟨fun p hp => (List.mem_append.mp hp).elim (aD.off p) fun q => (ownD p q).1⟩
        have aC' : Apart H2.objs.size ((g.objs.size, lst ys) :: (news' ++ ownOf h₀ fp h₄)) := ⟨fun p hp => by
          rcases List.mem_cons.mp hp with rfl | hp
          · exact hDC
          · exact (List.mem_append.mp hp).elim (aC.off p) fun q => (ownD p q).2⟩
        refine wpAny_mono (turn i ys news' (ownOf h₀ fp h₄) H2.objs.size oC g.objs.size _ h₄ _ _ hlt hyl hBd J' hoC F₄ N₄ aC' aD') (fun y s₅ h₅ => ?_) fun _ _ e => e
        obtain ⟨h₅, tk₅, nw, rfl, F₅, N₅, hnw₅, J₅⟩ := h₅
        have zC := (N₅ (H2.objs.size, oC) List.mem_cons_self).1
        have zD := (N₅ (g.objs.size, lst ys) (List.mem_cons_of_mem _ List.mem_cons_self)).1
        have hst₅ : St (i + 1) h₅ := W.frame _ _ _ hst₄ fun b hb o e => by
          cases hb₀ : h₀.get? b with
          | some o₀ =>
            have q := F₄.keep b o₀ hb₀
            rw [e] at q
            rw [Option.some.inj q]
            exact F₅.keep b o₀ hb₀
          | none => exact (N₅ (b, o) (List.mem_cons_of_mem _ (List.mem_cons_of_mem _ (List.mem_append_right _ (List.mem_append_right _ (mem_ownOf hb hb₀ e)))))).1
        refine append_at (hsz := by show ys.toArray.size ≤ sizeLine; rw [List.size_toArray, hyl]; exact Nat.le_trans hi hsz) zD fun h₆ hs₆ hD₆ => ?_
        refine ⟨n + 1 - (i + 1), by omega, h₆, tk₅, i + 1, ys ++ [y], _, nw ++ news', rfl, hlt, rfl, by rw [List.length_append, List.length_singleton, hyl], W.frame _ _ _ hst₅ fun b hb o e => hs₆.extBut b o (fun q => hDf (q ▸ hb)) e, F₅.change hs₆ hDL hD₀,
          (hoC.ns zC).sameBut hs₆ (Ne.symm hDC), fun p hp => ?_, ⟨fun p hp => ?_⟩, ⟨fun p hp => ?_⟩, fun p hp => ?_, J₅⟩
        · rcases List.mem_cons.mp hp with rfl | hp
          · exact ⟨hD₆.trans (congrArg some (lst_snoc ys y)), hDL, hD₀⟩
          · rcases List.mem_append.mp hp with hp | hp
            · have z := N₅ p (List.mem_cons_of_mem _ (List.mem_cons_of_mem _ (List.mem_append_left _ hp)))
              exact ⟨hs₆.extBut _ _ ((hnw₅ p hp).off (g.objs.size, lst ys) (List.mem_cons_of_mem _ (List.mem_cons_self ..))).symm z.1, z.2⟩
            · have z := N₅ p (List.mem_cons_of_mem _ (List.mem_cons_of_mem _ (List.mem_append_right _ (List.mem_append_left _ hp))))
              exact ⟨hs₆.extBut _ _ (aD.off p hp) z.1, z.2⟩
        · exact (List.mem_append.mp hp).elim (fun hp => ((hnw₅ p hp).off (H2.objs.size, oC) (List.mem_cons_self ..)).symm) (aC.off p)
        · exact (List.mem_append.mp hp).elim (fun hp => ((hnw₅ p hp).off (g.objs.size, lst ys) (List.mem_cons_of_mem _ (List.mem_cons_self ..))).symm) (aD.off p)
        · rcases List.mem_append.mp hp with hp | hp
          · intro hw
            obtain ⟨o, e⟩ := hfp _ _ hst₄ _ (W.sub _ hw)
            exact (hnw₅ p hp).off (p.1, o) (List.mem_cons_of_mem _ (List.mem_cons_of_mem _ (List.mem_append_right _ (mem_ownOf (W.sub _ hw) (hwr _ hw) e)))) rfl
          · exact hnw' p hp
      · obtain rfl : i = n := Nat.le_antisymm hi (Nat.not_lt.mp hlt)
        refine W.done _ _ _ hst' fun h₂ tk₂ hk₂ => ?_
        obtain ⟨F₂, N₂, hn₂⟩ := carry h₂ hk₂
        exact hRR _ _ h₂ tk₂ _ ys news' F₂ N₂ aD hn₂ hC₀ hD₀ hCL hDL (Ne.symm hDC) aC J' hyl
    · rcases List.mem_cons.mp hp with rfl | hp
      · exact ⟨hacc, hDL, hD₀⟩
      · exact ⟨old _ _ (N p hp).1, (N p hp).2⟩
  exact codeAny_compStart_list (loop _ rfl) (hself _ _ _ hst₁ (loop _ rfl))
theorem compJ {elt iter target : PySem.Expr} {scope : Scope} {cl : List (Str × Addr)} {pos : Pos} {n : Nat} {news : List (Addr × Obj)} {Item : Nat → Value → Heap → Prop} {Bd : Nat → (Str → Option Value) → Prop} {Q : Value → Shared → Prop}
    (J : Nat → List Value → List (Addr × Obj) → Prop) (hclos : closureFor scope env = pure cl) (hcell : ∀ y ∈ scope.names, y.2 ≠ .cell) (hkind : scope.kind = .function)
    (hnames : ∀ y ∈ scope.names, y.2 = .local → scope.names.lookup y.1 = some .local) (hA : Asg prog w A env scope cl target Item Bd) (hh : A.handled = none) (hsz : n ≤ sizeLine)
    (h : wpAny (model prog w) A (eval iter env) (fun xv s₁ => wpAny (model prog w) A (pyIter xv) (SrcJ prog w A h₀ L m target Item n news s) E s₁) E s) (h0 : J 0 [] news)
    (turn : ∀ i ys news own C oC D m₂ h tk (E' : Value → Shared → Prop), i < n → ys.length = i → Bd i m₂ → J i ys news → NsObj oC m₂ → Fr h₀ L h m → News h₀ L h ((C, oC) :: (D, lst ys) :: (news ++ own)) →
      Apart C ((D, lst ys) :: (news ++ own)) → Apart D (news ++ own) → wpAny (model prog w) A (eval elt (compEnvC scope cl C env)) (EndJ h₀ L m { s with heap := h, toks := tk } C oC D (lst ys) news own (fun y news' => J (i + 1) (ys ++ [y]) news')) E' { s with heap := h, toks := tk })
    (fin : ∀ ys news D h tk, J n ys news → ys.length = n → Fr h₀ L h m → News h₀ L h ((D, lst ys) :: news) → Apart D news → Q (.ref D) { s with heap := h, toks := tk })
    (hs : ∀ x, foldedSetIterable iter env x = pure x := by intro _; rfl) :
    wpAny (model prog w) A (eval (.ListComp elt [⟨target, iter, [], 0⟩] scope pos) env) Q E s := by
  rw [eval_ListComp]
  refine wpAny_comprehension_free (use := none) rfl hs hclos hkind hnames (wpAny_mono h (fun xv s₁ h₁ => wpAny_mono h₁ (fun it s₂ src => ?_) fun _ _ e => e) fun _ _ e => e)
  refine blockJ hA J src h0 hsz hcell hkind hh turn ?_
  intro D C h tk m' ys news' F' N' aD hn hC₀ hD₀ hCL hDL hCD aC hJ hl
  refine ⟨m', hn, fun h'' hs'' => fin ys news' D h'' tk hJ hl (F'.change hs'' hCL hC₀) (fun p hp => ?_) aD⟩
  refine ⟨hs''.extBut _ _ ?_ (N' p hp).1, (N' p hp).2⟩
  rcases List.mem_cons.mp hp with rfl | hp
  · exact Ne.symm hCD
  · exact aC.off p hp
theorem compA {elt iter target : PySem.Expr} {yn : Str} {py : Pos} {scope : Scope} {cl : List (Str × Addr)} {pos spos : Pos} {n : Nat} {news : List (Addr × Obj)} {Item : Nat → Value → Heap → Prop} {Bd : Nat → (Str → Option Value) → Prop} {Q : Flow → Shared → Prop}
    (J : Nat → List Value → List (Addr × Obj) → Prop) (hLe : env.locals = L)
    (hsw : swapsWith (.ListComp elt [⟨target, iter, [], 0⟩] scope pos) (some (.Name yn py)) spos.line env = pure true)
    (hclos : closureFor scope env = pure cl) (hcell : ∀ y ∈ scope.names, y.2 ≠ .cell) (hkind : scope.kind = .function)
    (hnames : ∀ y ∈ scope.names, y.2 = .local → scope.names.lookup y.1 = some .local) (hA : Asg prog w A env scope cl target Item Bd) (hy : env.kindOf yn = some .local) (hp : (env.scope.kind == .class || (env.scope.kind == .module && env.locals != env.globals)) = false) (hh : A.handled = none) (hsz : n ≤ sizeLine)
    (h : wpAny (model prog w) A (eval iter env) (fun xv s₁ => wpAny (model prog w) A (pyIter xv) (SrcJ prog w A h₀ L m target Item n news s) E s₁) E s) (h0 : J 0 [] news)
    (turn : ∀ i ys news own C oC D m₂ h tk (E' : Value → Shared → Prop), i < n → ys.length = i → Bd i m₂ → J i ys news → NsObj oC m₂ → Fr h₀ L h m → News h₀ L h ((C, oC) :: (D, lst ys) :: (news ++ own)) →
      Apart C ((D, lst ys) :: (news ++ own)) → Apart D (news ++ own) → wpAny (model prog w) A (eval elt (compEnvC scope cl C env)) (EndJ h₀ L m { s with heap := h, toks := tk } C oC D (lst ys) news own (fun y news' => J (i + 1) (ys ++ [y]) news')) E' { s with heap := h, toks := tk })
    (fin : ∀ ys news D h tk, J n ys news → ys.length = n → Fr h₀ L h (fun z => if z = yn then some (.ref D) else m z) → News h₀ L h ((D, lst ys) :: news) → Apart D news → Q .next { s with heap := h, toks := tk })
    (hs : ∀ x, foldedSetIterable iter env x = pure x := by intro _; rfl) :
    wpAny (model prog w) A (exec (.Assign [.Name yn py] (.ListComp elt [⟨target, iter, [], 0⟩] scope pos) spos) env) Q E s := by
  subst hLe
  rw [exec_Assign_Name_used _ _ _ _ hsw]
  refine wpAny_bind (wpAny_standAt (wpAny_bind ?_))
  show wpAny _ A (do let _ ← comprehension (.ListComp elt [⟨target, iter, [], 0⟩] scope pos) scope env _ (newList []) false (eval iter env) (some (assign (.Name yn py) env))) _ _ s
  refine wpAny_bind (wpAny_mono (wpAny_comprehension_free (use := some (assign (.Name yn py) env)) (Q := fun _ s' => Q .next s') rfl hs hclos hkind hnames
    (wpAny_mono h (fun xv s₁ h₁ => wpAny_mono h₁ (fun it s₂ src => ?_) fun _ _ e => e) fun _ _ e => e)) (fun _ s' hq => wpAny_pure (wpAny_pure hq)) fun _ _ e => e)
  refine blockJ hA J src h0 hsz hcell hkind hh turn ?_
  intro D C h' tk m' ys nw F' N' aD hn hC₀ hD₀ hCL hDL hCD aC hJ hl
  show wpAny _ A (assign (.Name yn py) env (.ref D)) _ _ _
  refine wpAny_assign_Name (wpAny_storeName_local hy F'.ns (fun h₂ hn₂ hs₂ => ?_) hp)
  have hL₀ : h₀.get? env.locals = none := Heap.get?_none_of_le F'.above
  have F₂ : Fr h₀ env.locals h₂ (fun z => if z = yn then some (.ref D) else m z) := ⟨hn₂, fun b o e => hs₂.extBut b o (fun q => by rw [q, hL₀] at e; cases e) (F'.keep b o e), F'.above⟩
  refine ⟨m', hn.sameBut hs₂ hCL, fun h'' hs'' => fin ys nw D h'' _ hJ hl (F₂.change hs'' hCL hC₀) (fun p hp => ?_) aD⟩
  have z : h₂.get? p.1 = some p.2 := hs₂.extBut _ _ (N' p hp).2.1 (N' p hp).1
  refine ⟨hs''.extBut _ _ ?_ z, (N' p hp).2⟩
  rcases List.mem_cons.mp hp with rfl | hp
  · exact Ne.symm hCD
  · exact aC.off p hp
theorem turnS {elt : PySem.Expr} {scope : Scope} {cl : List (Str × Addr)} {n : Nat} {news : List (Addr × Obj)} {Bd : Nat → (Str → Option Value) → Prop} {R : Nat → List Value → Prop}
    (turn : ∀ i ys own C oC D m₂ h tk (E' : Value → Shared → Prop), Bd i m₂ → R i ys → NsObj oC m₂ → Fr h₀ L h m → News h₀ L h ((C, oC) :: (D, lst ys) :: (news ++ own)) →
      wpAny (model prog w) A (eval elt (compEnvC scope cl C env)) (EndS h₀ L m { s with heap := h, toks := tk } ((C, oC) :: (D, lst ys) :: (news ++ own)) (fun y => R (i + 1) (ys ++ [y]))) E' { s with heap := h, toks := tk }) :
    ∀ i ys nw own C oC D m₂ h tk (E' : Value → Shared → Prop), i < n → ys.length = i → Bd i m₂ → (nw = news ∧ R i ys) → NsObj oC m₂ → Fr h₀ L h m → News h₀ L h ((C, oC) :: (D, lst ys) :: (nw ++ own)) →
      Apart C ((D, lst ys) :: (nw ++ own)) → Apart D (nw ++ own) → wpAny (model prog w) A (eval elt (compEnvC scope cl C env)) (EndJ h₀ L m { s with heap := h, toks := tk } C oC D (lst ys) nw own (fun y news' => news' = news ∧ R (i + 1) (ys ++ [y]))) E' { s with heap := h, toks := tk } := by
  rintro i ys nw own C oC D m₂ g tk E' hi hl hB ⟨rfl, hR⟩ hC F' N' _ _
  refine wpAny_mono (turn i ys own C oC D m₂ g tk E' hB hR hC F' N') (fun y s' q => ?_) fun _ _ e => e
  obtain ⟨h', tk', rfl, F₂, N₂, R₂⟩ := q
  exact EndJ.same F₂ N₂ ⟨rfl, R₂⟩
abbrev Item1 (PV : Nat → Value → Prop) (i : Nat) (v : Value) (_ : Heap) : Prop := PV i v
abbrev Item2 (PV : Nat → Value → Value → Prop) (i : Nat) (v : Value) (h : Heap) : Prop := ∃ T x y, v = .ref T ∧ h.IsTuple T #[x, y] ∧ PV i x y
abbrev Item3 (PV : Nat → Value → Value → Value → Prop) (i : Nat) (v : Value) (h : Heap) : Prop := ∃ T x y z, v = .ref T ∧ h.IsTuple T #[x, y, z] ∧ PV i x y z
def Bd1 (a : Str) (PV : Nat → Value → Prop) (i : Nat) (m : Str → Option Value) : Prop := ∃ x, PV i x ∧ m a = some x
def Bd2 (a b : Str) (PV : Nat → Value → Value → Prop) (i : Nat) (m : Str → Option Value) : Prop := ∃ x y, PV i x y ∧ m a = some x ∧ m b = some y
def Bd3 (a b c : Str) (PV : Nat → Value → Value → Value → Prop) (i : Nat) (m : Str → Option Value) : Prop := ∃ x y z, PV i x y z ∧ m a = some x ∧ m b = some y ∧ m c = some z
theorem asg1 {scope : Scope} {cl : List (Str × Addr)} {a : Str} {pa : Pos} {PV : Nat → Value → Prop} (hkind : scope.kind = .function) (hxa : scope.names.lookup a = some .local) : Asg prog w A env scope cl (.Name a pa) (Item1 PV) (Bd1 a PV) := by
  intro C i v s m Q E hi hn h
  refine wpAny_assign_Name (wpAny_storeName_local (lookup_relabel_local hxa) hn (fun g hn1 hs1 => ?_) (by simp [compEnvC, relabel, hkind]))
  exact h g _ _ hn1 ⟨v, hi, by simp⟩ fun c o hc e => hs1.extBut c o hc e
theorem asg2 {scope : Scope} {cl : List (Str × Addr)} {a b : Str} {pa pb tp : Pos} {kk : Nat} {PV : Nat → Value → Value → Prop} (hh : A.handled = none) (hkind : scope.kind = .function) (hxa : scope.names.lookup a = some .local) (hxb : scope.names.lookup b = some .local) (hab : a ≠ b) :
    Asg prog w A env scope cl (.Tuple [.Name a pa, .Name b pb] kk tp) (Item2 PV) (Bd2 a b PV) := by
  rintro C i v s m Q E ⟨T, x, y, rfl, hT, hP⟩ hn h
  refine wpAny_assign_Tuple hh hT rfl rfl fun h₁ hx₁ => ?_
  have hL : C ≠ s.heap.objs.size := Nat.ne_of_lt hn.lt
  have hn0 : h₁.Ns C m := hn.at' fun o e => hx₁ _ o hL e
  refine assignInOrder_cons (wpAny_assign_Name (wpAny_storeName_local (lookup_relabel_local hxa) hn0 (fun g1 hn1 hs1 => ?_) (by simp [compEnvC, relabel, hkind])))
  refine assignInOrder_cons (wpAny_assign_Name (wpAny_storeName_local (lookup_relabel_local hxb) hn1 (fun g2 hn2 hs2 => ?_) (by simp [compEnvC, relabel, hkind])))
  refine assignInOrder_nil ?_
  exact h g2 _ _ hn2 ⟨x, y, hP, by simp [hab], by simp⟩ fun c o hc e => hs2.extBut c o hc (hs1.extBut c o hc (hx₁ _ o (Nat.ne_of_lt (Heap.lt_size e)) e))
theorem asg3 {scope : Scope} {cl : List (Str × Addr)} {a b c : Str} {pa pb pc tp : Pos} {kk : Nat} {PV : Nat → Value → Value → Value → Prop} (hh : A.handled = none) (hkind : scope.kind = .function) (hxa : scope.names.lookup a = some .local) (hxb : scope.names.lookup b = some .local) (hxc : scope.names.lookup c = some .local) (hab : a ≠ b) (hac : a ≠ c) (hbc : b ≠ c) :
    Asg prog w A env scope cl (.Tuple [.Name a pa, .Name b pb, .Name c pc] kk tp) (Item3 PV) (Bd3 a b c PV) := by
  rintro C i v s m Q E ⟨T, x, y, z, rfl, hT, hP⟩ hn h
  refine wpAny_assign_Tuple hh hT rfl rfl fun h₁ hx₁ => ?_
  have hL : C ≠ s.heap.objs.size := Nat.ne_of_lt hn.lt
  have hn0 : h₁.Ns C m := hn.at' fun o e => hx₁ _ o hL e
  refine assignInOrder_cons (wpAny_assign_Name (wpAny_storeName_local (lookup_relabel_local hxa) hn0 (fun g1 hn1 hs1 => ?_) (by simp [compEnvC, relabel, hkind])))
  refine assignInOrder_cons (wpAny_assign_Name (wpAny_storeName_local (lookup_relabel_local hxb) hn1 (fun g2 hn2 hs2 => ?_) (by simp [compEnvC, relabel, hkind])))
  refine assignInOrder_cons (wpAny_assign_Name (wpAny_storeName_local (lookup_relabel_local hxc) hn2 (fun g3 hn3 hs3 => ?_) (by simp [compEnvC, relabel, hkind])))
  refine assignInOrder_nil ?_
  exact h g3 _ _ hn3 ⟨x, y, z, hP, by simp [hab, hac], by simp [hbc], by simp⟩ fun d o hd e => hs3.extBut d o hd (hs2.extBut d o hd (hs1.extBut d o hd (hx₁ _ o (Nat.ne_of_lt (Heap.lt_size e)) e)))
/-- the turns over a list -/
theorem srcList {ax : Addr} {its : Array Value} {n : Nat} {news : List (Addr × Obj)} {s₀ : Shared} {a : Str} {pa : Pos} {PV : Nat → Value → Prop} (hh : A.handled = none) (hl : s.heap.IsList ax its) (n1 : ax ≠ L) (hPV : ∀ i v, its[i]? = some v → PV i v) (F : Fr h₀ L s.heap m) (N : News h₀ L s.heap news)
    (hn : its.size = n) (hs : ∃ g k, s = { s₀ with heap := g, toks := k }) :
    wpAny (model prog w) A (pyIter (.ref ax)) (SrcJ prog w A h₀ L m (.Name a pa) (Item1 PV) n news s₀) E s := by
  obtain ⟨g, k, rfl⟩ := hs
  subst hn
  dsimp only at hl F N
  have lta : ax < g.objs.size := by obtain ⟨_, e, _⟩ := hl; exact Heap.lt_size e
  refine wpAny_pyIter_list hl ?_
  have up : ∀ b o, g.get? b = some o → (g.push { cls := .type "list_iterator", data := .fields #[.ref ax, .int 0 0] }).get? b = some o := fun b o e => Heap.get?_push_of_some _ e
  have WL := Walks.list (prog := prog) (w := w) (A := A) hh g.objs.size ax (Nat.ne_of_lt lta) its
  have hLg : L < g.objs.size := F.ns.lt
  refine ⟨_, _, _, _, _, _, _, k, rfl, rfl, KTurns.ofWalks WL (fun i v s Q E st q => letGo_listiter st.1 q), fun i v h hp => hPV i v hp, ⟨⟨_, Heap.get?_push_size _ rfl, rfl, rfl⟩, hl.push _⟩, ?_, fun s Q E st q => WL.self 0 s Q E st q, ?_, ?_, ?_, F.keeps up, N.grown up⟩
  · rintro i h ⟨y1, y2⟩ b hb
    rcases List.mem_cons.mp hb with rfl | hb
    · exact y1.imp fun _ e => e.1
    · rw [List.mem_singleton.mp hb]; exact y2.imp fun _ e => e.1
  · intro hb
    rcases List.mem_cons.mp hb with e | hb
    · exact absurd hLg (by rw [e]; exact Nat.lt_irrefl _)
    · exact n1 (List.mem_singleton.mp hb).symm
  · intro b hb
    rw [List.mem_singleton.mp hb]
    exact Heap.get?_none_of_le (Nat.le_trans F.above (Nat.le_of_lt hLg))
  · intro p hp hb
    exact absurd (Heap.lt_size (N p hp).1) (by rw [List.mem_singleton.mp hb]; exact Nat.lt_irrefl _)
/-- where a turn ends that has made objects: they lie ahead -/
def EndX (h₀ : Heap) (L : Addr) (m : Str → Option Value) (s : Shared) (C : Addr) (oC : Obj) (D : Addr) (oD : Obj) (all : List (Addr × Obj)) (P : Value → List (Addr × Obj) → Prop) (y : Value) (s' : Shared) : Prop :=
  ∃ h' tk nw, s' = { s with heap := h', toks := tk } ∧ Fr h₀ L h' m ∧ News h₀ L h' (nw ++ ((C, oC) :: (D, oD) :: all)) ∧ (∀ p ∈ nw, Apart p.1 ((C, oC) :: (D, oD) :: all)) ∧ P y nw
theorem EndX.one {h₀ : Heap} {L C D W : Addr} {m : Str → Option Value} {s : Shared} {oC oD oW : Obj} {all : List (Addr × Obj)} {P : Value → List (Addr × Obj) → Prop} {y : Value} {h' : Heap} {tk : Nat}
    (F : Fr h₀ L h' m) (N : News h₀ L h' ((W, oW) :: (C, oC) :: (D, oD) :: all)) (ap : Apart W ((C, oC) :: (D, oD) :: all)) (hp : P y [(W, oW)]) : EndX h₀ L m s C oC D oD all P y { s with heap := h', toks := tk } :=
  ⟨h', tk, [(W, oW)], rfl, F, N, (fun p hm => by rw [List.mem_singleton.mp hm]; exact ap), hp⟩
theorem EndX.none {h₀ : Heap} {L C D : Addr} {m : Str → Option Value} {s : Shared} {oC oD : Obj} {all : List (Addr × Obj)} {P : Value → List (Addr × Obj) → Prop} {y : Value} {h' : Heap} {tk : Nat}
    (F : Fr h₀ L h' m) (N : News h₀ L h' ((C, oC) :: (D, oD) :: all)) (hp : P y []) : EndX h₀ L m s C oC D oD all P y { s with heap := h', toks := tk } :=
  ⟨h', tk, [], rfl, F, N, (fun _ hm => nomatch hm), hp⟩
theorem Apart.of {D : Addr} {l l' : List (Addr × Obj)} (h : Apart D l) (hs : ∀ p ∈ l', p ∈ l) : Apart D l' := ⟨fun p hp => h.off p (hs p hp)⟩
theorem turnX {elt : PySem.Expr} {scope : Scope} {cl : List (Str × Addr)} {n : Nat} {news : List (Addr × Obj)} {Bd : Nat → (Str → Option Value) → Prop} {R : Nat → List Value → List (Addr × Obj) → Prop}
    (turn : ∀ i ys ws rest C oC D m₂ h tk (E' : Value → Shared → Prop), i < n → Bd i m₂ → R i ys ws → NsObj oC m₂ → Fr h₀ L h m → News h₀ L h ((C, oC) :: (D, lst ys) :: (news ++ rest)) → Apart C ((D, lst ys) :: (news ++ rest)) → Apart D (news ++ rest) →
      wpAny (model prog w) A (eval elt (compEnvC scope cl C env)) (EndX h₀ L m { s with heap := h, toks := tk } C oC D (lst ys) (news ++ rest) (fun y nw => R (i + 1) (ys ++ [y]) (nw ++ ws))) E' { s with heap := h, toks := tk }) :
    ∀ i ys nw own C oC D m₂ h tk (E' : Value → Shared → Prop), i < n → ys.length = i → Bd i m₂ → (∃ ws, nw = ws ++ news ∧ (∀ p ∈ ws, Apart p.1 news) ∧ R i ys ws) → NsObj oC m₂ → Fr h₀ L h m → News h₀ L h ((C, oC) :: (D, lst ys) :: (nw ++ own)) →
      Apart C ((D, lst ys) :: (nw ++ own)) → Apart D (nw ++ own) → wpAny (model prog w) A (eval elt (compEnvC scope cl C env)) (EndJ h₀ L m { s with heap := h, toks := tk } C oC D (lst ys) nw own (fun y news' => ∃ ws, news' = ws ++ news ∧ (∀ p ∈ ws, Apart p.1 news) ∧ R (i + 1) (ys ++ [y]) ws)) E' { s with heap := h, toks := tk } := by
  rintro i ys nw own C oC D m₂ g tk E' hi hl hB ⟨ws, rfl, hw, hR⟩ hC F' N' aC aD
  have to : ∀ p ∈ news ++ (ws ++ own), p ∈ (ws ++ news) ++ own := fun p hp => by
    simp only [List.mem_append] at hp ⊢
    rcases hp with h | h | h
    · exact .inl (.inr h)
    · exact .inl (.inl h)
    · exact .inr h
  have fro : ∀ p ∈ (ws ++ news) ++ own, p ∈ news ++ (ws ++ own) := fun p hp => by
    simp only [List.mem_append] at hp ⊢
    rcases hp with (h | h) | h
    · exact .inr (.inl h)
    · exact .inl h
    · exact .inr (.inr h)
  have up : ∀ {x : Addr × Obj} {l l' : List (Addr × Obj)}, (∀ p ∈ l, p ∈ l') → ∀ p ∈ x :: l, p ∈ x :: l' := fun k p hp => by
    rcases List.mem_cons.mp hp with rfl | hp
    · exact .head _
    · exact .tail _ (k p hp)
  refine wpAny_mono (turn i ys ws (ws ++ own) C oC D m₂ g tk E' hi hB hR hC F' (fun p hp => N' p (up (up to) p hp)) (aC.of (up to)) (aD.of to)) (fun y s' q => ?_) fun _ _ e => e
  obtain ⟨h', tk', nx, rfl, F₂, N₂, ap, R₂⟩ := q
  refine ⟨h', tk', nx, rfl, F₂, fun p hp => N₂ p ?_, fun p hp => (ap p hp).of (up (up fro)), nx ++ ws, (List.append_assoc ..).symm, fun p hp => ?_, R₂⟩
  rotate_left
  · rcases List.mem_append.mp hp with hp | hp
    · exact (ap p hp).of fun q hq => .tail _ (.tail _ (List.mem_append_left _ hq))
    · exact hw p hp
  rcases List.mem_cons.mp hp with rfl | hp
  · exact List.mem_append_right _ (.head _)
  · rcases List.mem_cons.mp hp with rfl | hp
    · exact List.mem_append_right _ (.tail _ (.head _))
    · rcases List.mem_append.mp hp with hp | hp
      · exact List.mem_append_left _ hp
      · exact List.mem_append_right _ (.tail _ (.tail _ (fro p hp)))
theorem compX {elt iter target : PySem.Expr} {scope : Scope} {cl : List (Str × Addr)} {pos : Pos} {n : Nat} {news : List (Addr × Obj)} {Item : Nat → Value → Heap → Prop} {Bd : Nat → (Str → Option Value) → Prop} {Q : Value → Shared → Prop}
    (R : Nat → List Value → List (Addr × Obj) → Prop) (F : Fr h₀ L s.heap m) (N : News h₀ L s.heap news) (hclos : closureFor scope env = pure cl) (hcell : ∀ y ∈ scope.names, y.2 ≠ .cell) (hkind : scope.kind = .function)
    (hnames : ∀ y ∈ scope.names, y.2 = .local → scope.names.lookup y.1 = some .local) (hA : Asg prog w A env scope cl target Item Bd) (hh : A.handled = none) (hsz : n ≤ sizeLine)
    (h : wpAny (model prog w) A (eval iter env) (fun xv s₁ => wpAny (model prog w) A (pyIter xv) (SrcJ prog w A h₀ L m target Item n news s) E s₁) E s) (h0 : R 0 [] [])
    (turn : ∀ i ys ws rest C oC D m₂ h tk (E' : Value → Shared → Prop), i < n → Bd i m₂ → R i ys ws → NsObj oC m₂ → Fr h₀ L h m → News h₀ L h ((C, oC) :: (D, lst ys) :: (news ++ rest)) → Apart C ((D, lst ys) :: (news ++ rest)) → Apart D (news ++ rest) →
      wpAny (model prog w) A (eval elt (compEnvC scope cl C env)) (EndX h₀ L m { s with heap := h, toks := tk } C oC D (lst ys) (news ++ rest) (fun y nw => R (i + 1) (ys ++ [y]) (nw ++ ws))) E' { s with heap := h, toks := tk })
    (fin : ∀ ys ws D h tk, (∀ p ∈ ws, Apart p.1 news) → R n ys ws → ys.length = n → Fr h₀ L h m → News h₀ L h ((D, lst ys) :: (ws ++ news)) → Apart D (ws ++ news) → Q (.ref D) { s with heap := h, toks := tk })
    (hs : ∀ x, foldedSetIterable iter env x = pure x := by intro _; rfl) :
    wpAny (model prog w) A (eval (.ListComp elt [⟨target, iter, [], 0⟩] scope pos) env) Q E s :=
  compJ (fun i ys nw => ∃ ws, nw = ws ++ news ∧ (∀ p ∈ ws, Apart p.1 news) ∧ R i ys ws) hclos hcell hkind hnames hA hh hsz h ⟨[], rfl, (fun _ h => nomatch h), h0⟩ (turnX turn) (fun ys nw D g tk ⟨ws, e, hw, hR⟩ hl F' N' aD => by subst e; exact fin ys ws D g tk hw hR hl F' N' aD) hs
theorem compAX {elt iter target : PySem.Expr} {yn : Str} {py : Pos} {scope : Scope} {cl : List (Str × Addr)} {pos spos : Pos} {n : Nat} {news : List (Addr × Obj)} {Item : Nat → Value → Heap → Prop} {Bd : Nat → (Str → Option Value) → Prop} {Q : Flow → Shared → Prop}
    (R : Nat → List Value → List (Addr × Obj) → Prop) (F : Fr h₀ L s.heap m) (N : News h₀ L s.heap news) (hLe : env.locals = L)
    (hsw : swapsWith (.ListComp elt [⟨target, iter, [], 0⟩] scope pos) (some (.Name yn py)) spos.line env = pure true)
    (hclos : closureFor scope env = pure cl) (hcell : ∀ y ∈ scope.names, y.2 ≠ .cell) (hkind : scope.kind = .function)
    (hnames : ∀ y ∈ scope.names, y.2 = .local → scope.names.lookup y.1 = some .local) (hA : Asg prog w A env scope cl target Item Bd) (hy : env.kindOf yn = some .local) (hp : (env.scope.kind == .class || (env.scope.kind == .module && env.locals != env.globals)) = false) (hh : A.handled = none) (hsz : n ≤ sizeLine)
    (h : wpAny (model prog w) A (eval iter env) (fun xv s₁ => wpAny (model prog w) A (pyIter xv) (SrcJ prog w A h₀ L m target Item n news s) E s₁) E s) (h0 : R 0 [] [])
    (turn : ∀ i ys ws rest C oC D m₂ h tk (E' : Value → Shared → Prop), i < n → Bd i m₂ → R i ys ws → NsObj oC m₂ → Fr h₀ L h m → News h₀ L h ((C, oC) :: (D, lst ys) :: (news ++ rest)) → Apart C ((D, lst ys) :: (news ++ rest)) → Apart D (news ++ rest) →
      wpAny (model prog w) A (eval elt (compEnvC scope cl C env)) (EndX h₀ L m { s with heap := h, toks := tk } C oC D (lst ys) (news ++ rest) (fun y nw => R (i + 1) (ys ++ [y]) (nw ++ ws))) E' { s with heap := h, toks := tk })
    (fin : ∀ ys ws D h tk, (∀ p ∈ ws, Apart p.1 news) → R n ys ws → ys.length = n → Fr h₀ L h (fun z => if z = yn then some (.ref D) else m z) → News h₀ L h ((D, lst ys) :: (ws ++ news)) → Apart D (ws ++ news) → Q .next { s with heap := h, toks := tk })
    (hs : ∀ x, foldedSetIterable iter env x = pure x := by intro _; rfl) :
    wpAny (model prog w) A (exec (.Assign [.Name yn py] (.ListComp elt [⟨target, iter, [], 0⟩] scope pos) spos) env) Q E s :=
  compA (fun i ys nw => ∃ ws, nw = ws ++ news ∧ (∀ p ∈ ws, Apart p.1 news) ∧ R i ys ws) hLe hsw hclos hcell hkind hnames hA hy hp hh hsz h ⟨[], rfl, (fun _ h => nomatch h), h0⟩ (turnX turn) (fun ys nw D g tk ⟨ws, e, hw, hR⟩ hl F' N' aD => by subst e; exact fin ys ws D g tk hw hR hl F' N' aD) hs
theorem Are.snoc' {α : Type} {R : α → Value → Prop} {vs : List Value} {as : List α} {i : Nat} {a : α} {v : Value} (h : Are R vs (as.take i)) (ha : as[i]? = some a) (hv : R a v) : Are R (vs ++ [v]) (as.take (i + 1)) := by
  have hi : i < as.length := (List.getElem?_eq_some_iff.mp ha).1
  have e : as.take (i + 1) = as.take i ++ [a] := by rw [List.take_add_one, ha]; rfl
  rw [e]
  have hl : vs.length = i := by rw [h.1, List.length_take]; omega
  refine ⟨by simp [h.1], fun j b hb => ?_⟩
  rcases Nat.lt_or_ge j i with hj | hj
  · rw [List.getElem?_append_left (by rw [List.length_take]; omega)] at hb
    rw [List.getElem?_append_left (by omega)]
    exact h.2 j b hb
  · rw [List.getElem?_append_right (by rw [List.length_take]; omega)] at hb
    rw [List.length_take, Nat.min_eq_left (Nat.le_of_lt hi)] at hb
    rw [List.getElem?_append_right (by omega), hl]
    have : j - i = 0 := by
      rcases Nat.eq_zero_or_pos (j - i) with e | e
      · exact e
      · rw [List.getElem?_eq_none (by simp only [List.length_cons, List.length_nil]; omega)] at hb; cases hb
    rw [this] at hb ⊢
    simp only [List.getElem?_cons_zero, Option.some.injEq] at hb
    subst hb
    exact ⟨v, rfl, hv⟩
theorem srcZip {l1 l2 : Addr} {vs ws : Array Value} {n : Nat} {news : List (Addr × Obj)} {s₀ : Shared} {a b : Str} {pa pb tp : Pos} {kk : Nat} (hh : A.handled = none) (hl1 : s.heap.IsList l1 vs) (hl2 : s.heap.IsList l2 ws) (n1 : l1 ≠ L) (n2 : l2 ≠ L) {PV : Nat → Value → Value → Prop} (hPV : ∀ i x y, vs[i]? = some x → ws[i]? = some y → PV i x y) (F : Fr h₀ L s.heap m) (N : News h₀ L s.heap news)
    (hn : min vs.size ws.size = n) (hs : ∃ g k, s = { s₀ with heap := g, toks := k }) :
    wpAny (model prog w) A (call (.type "zip") [.ref l1, .ref l2]) (fun xv s₁ => wpAny (model prog w) A (pyIter xv) (SrcJ prog w A h₀ L m (.Tuple [.Name a pa, .Name b pb] kk tp) (Item2 PV) n news s₀) E s₁) E s := by
  obtain ⟨g, k, rfl⟩ := hs
  have lt1 : l1 < g.objs.size := by obtain ⟨_, e, _⟩ := hl1; exact Heap.lt_size e
  have lt2 : l2 < g.objs.size := by obtain ⟨_, e, _⟩ := hl2; exact Heap.lt_size e
  refine call_zip_2 hl1 hl2 fun h₂ z1 z2 z3 z4 z5 hsz hk => ?_
  have W := WalksT.zip2 (prog := prog) (w := w) (A := A) hh _ _ _ _ _ _ _ (zipApart_new lt1 lt2) vs ws
  rw [hn] at W
  have stt := And.intro z1 (And.intro z2 (And.intro (⟨_, _, z3⟩ : ∃ a b, IsPair h₂ _ a b) (And.intro z4 (And.intro z5 (And.intro (Heap.IsList.at hl1 (fun o e => hk _ o e)) (Heap.IsList.at hl2 (fun o e => hk _ o e)))))))
  refine W.self 0 _ _ _ stt ?_
  have hLg : L < g.objs.size := F.ns.lt
  have above : ∀ x, g.objs.size ≤ x → L ≠ x := fun x hx e => absurd hLg (Nat.not_lt.mpr (e ▸ hx))
  have big : ∀ b ∈ [g.objs.size + 4, g.objs.size + 3, g.objs.size, g.objs.size + 1], g.objs.size ≤ b := by
    intro b hb
    simp only [List.mem_cons, List.not_mem_nil, or_false] at hb
    rcases hb with rfl | rfl | rfl | rfl
    · exact Nat.le_add_right ..
    · exact Nat.le_add_right ..
    · exact Nat.le_refl _
    · exact Nat.le_add_right ..
  refine ⟨_, _, _, _, _, _, h₂, _, rfl, rfl, KTurns.ofWalksU W.toU, ?_, stt, ?_, fun s Q E st q => W.self 0 s Q E st q, ?_, ?_, ?_, F.keeps hk, N.grown hk⟩
  · rintro i v h ⟨T, vals, rfl, ⟨x, y, hx, hy, rfl⟩, hT⟩
    exact ⟨T, x, y, rfl, hT, hPV i x y hx hy⟩
  · rintro i h ⟨y1, y2, ⟨_, _, y3⟩, y4, y5, y6, y7⟩ b hb
    simp only [List.mem_cons, List.not_mem_nil, or_false] at hb
    rcases hb with rfl | rfl | rfl | rfl | rfl | rfl | rfl
    · exact ⟨_, y1⟩
    · exact ⟨_, y2⟩
    · exact ⟨_, y3⟩
    · exact y4.imp fun _ e => e.1
    · exact y5.imp fun _ e => e.1
    · exact y6.imp fun _ e => e.1
    · exact y7.imp fun _ e => e.1
  · intro hb
    simp only [List.mem_cons, List.not_mem_nil, or_false] at hb
    rcases hb with e | e | e | e | e | e | e
    · exact above _ (Nat.le_add_right ..) e
    · exact above _ (Nat.le_add_right ..) e
    · exact above _ (Nat.le_add_right ..) e
    · exact above _ (Nat.le_refl _) e
    · exact above _ (Nat.le_add_right ..) e
    · exact n1 e.symm
    · exact n2 e.symm
  · intro b hb
    refine Heap.get?_none_of_le (Nat.le_trans ?_ (big b hb))
    exact Nat.le_trans F.above (Nat.le_of_lt hLg)
  · intro p hp hb
    exact absurd (Heap.lt_size (N p hp).1) (Nat.not_lt.mpr (big _ hb))

theorem srcTup2 {ax : Addr} {its : Array Value} {n : Nat} {news : List (Addr × Obj)} {PV : Nat → Value → Value → Prop} {s₀ : Shared} {a b : Str} {pa pb tp : Pos} {kk : Nat} (hh : A.handled = none) (hl : s.heap.IsList ax its) (n1 : ax ≠ L) (ts : List Addr) (hts : ∀ T ∈ ts, T ≠ L ∧ ∃ o, s.heap.get? T = some o)
    (items : ∀ i v, its[i]? = some v → ∃ T x y, v = .ref T ∧ T ∈ ts ∧ s.heap.IsTuple T #[x, y] ∧ PV i x y) (F : Fr h₀ L s.heap m) (N : News h₀ L s.heap news)
    (hn : its.size = n) (hs : ∃ g k, s = { s₀ with heap := g, toks := k }) :
    wpAny (model prog w) A (pyIter (.ref ax)) (SrcJ prog w A h₀ L m (.Tuple [.Name a pa, .Name b pb] kk tp) (Item2 PV) n news s₀) E s := by
  obtain ⟨g, k, rfl⟩ := hs
  subst hn
  dsimp only at hl hts items F N
  have lta : ax < g.objs.size := by obtain ⟨_, e, _⟩ := hl; exact Heap.lt_size e
  refine wpAny_pyIter_list hl ?_
  have up : ∀ b o, g.get? b = some o → (g.push { cls := .type "list_iterator", data := .fields #[.ref ax, .int 0 0] }).get? b = some o := fun b o e => Heap.get?_push_of_some _ e
  have WL := Walks.list (prog := prog) (w := w) (A := A) hh g.objs.size ax (Nat.ne_of_lt lta) its
  have hLg : L < g.objs.size := F.ns.lt
  let Tups : Heap → Prop := fun h => ∀ i v, its[i]? = some v → ∃ T x y, v = .ref T ∧ T ∈ ts ∧ h.IsTuple T #[x, y] ∧ PV i x y
  let Ex : Heap → Prop := fun h => ∀ T ∈ ts, ∃ o, h.get? T = some o
  have tsI : ∀ T ∈ ts, T ≠ g.objs.size := fun T hT => by obtain ⟨o, e⟩ := (hts T hT).2; exact Nat.ne_of_lt (Heap.lt_size e)
  have tup : ∀ h h' : Heap, (∀ T ∈ ts, ∀ o, h.get? T = some o → h'.get? T = some o) → Tups h → Tups h' := fun h h' hk t i v hv => by
    obtain ⟨T, x, y, e, hT, hI, hP⟩ := t i v hv
    exact ⟨T, x, y, e, hT, hI.at fun o e => hk T hT o e, hP⟩
  have ex : ∀ h h' : Heap, (∀ T ∈ ts, ∀ o, h.get? T = some o → h'.get? T = some o) → Ex h → Ex h' := fun h h' hk t T hT => (t T hT).imp fun o e => hk T hT o e
  have KT : KTurns prog w A (PySem.Expr.Tuple [.Name a pa, .Name b pb] kk tp) g.objs.size (g.objs.size :: ax :: ts) [g.objs.size] its.size (fun i v h => ∃ T x y, v = .ref T ∧ h.IsTuple T #[x, y] ∧ PV i x y)
      (fun i v h => (∃ T x y, v = .ref T ∧ h.IsTuple T #[x, y] ∧ PV i x y) ∧ (h.IsListIter g.objs.size ax (i + 1) ∧ h.IsList ax its) ∧ Tups h ∧ Ex h)
      (fun i h => (h.IsListIter g.objs.size ax i ∧ h.IsList ax its) ∧ Tups h ∧ Ex h) := 
    {sub := (fun b hb => by rw [List.mem_singleton.mp hb]; exact List.mem_cons_self ..),
       frame := fun i h h' st hk => ⟨WL.frame i h h' st.1 fun b hb o e => hk b (by
          rcases List.mem_cons.mp hb with rfl | hb
          · exact List.mem_cons_self ..
          · rw [List.mem_singleton.mp hb]; exact List.mem_cons_of_mem _ (List.mem_cons_self ..)) o e, tup _ _ (fun T hT o e => hk T (List.mem_cons_of_mem _ (List.mem_cons_of_mem _ hT)) o e) st.2.1, ex _ _ (fun T hT o e => hk T (List.mem_cons_of_mem _ (List.mem_cons_of_mem _ hT)) o e) st.2.2⟩,
       item := fun i s Q E hi st hQ => WL.item i s Q E hi st.1 fun v h' tk hv st' hk => by
          have kt : ∀ T ∈ ts, ∀ o, s.heap.get? T = some o → h'.get? T = some o := fun T hT o e => hk T o (by simpa using tsI T hT) e
          have t' := tup _ _ kt st.2.1
          obtain ⟨T, x, y, e, hT, hI, hP⟩ := t' i v hv
          exact hQ v h' tk ⟨⟨T, x, y, e, hI, hP⟩, st', t', ex _ _ kt st.2.2⟩ hk,
       go := fun i v s Q E hm hQ => by
          obtain ⟨T, x, y, rfl, hI, hP⟩ := hm.1
          exact wpAny_letOwnedTupleGo_listiter hm.2.1.1 (hQ s.heap ⟨T, x, y, rfl, hI, hP⟩ hm.2 fun _ _ _ e => e),
       done := fun s Q E st hQ => WL.done s Q E st.1 hQ }
  refine ⟨_, _, _, _, _, _, _, k, rfl, rfl, KT, fun i v h hp => hp, ⟨⟨⟨_, Heap.get?_push_size _ rfl, rfl, rfl⟩, hl.push _⟩, tup _ _ (fun T _ o e => up T o e) items, ex _ _ (fun T _ o e => up T o e) fun T hT => (hts T hT).2⟩, ?_, fun s Q E st q => WL.self 0 s Q E st.1 q, ?_, ?_, ?_, F.keeps up, N.grown up⟩
  · rintro i h ⟨⟨y1, y2⟩, _, y3⟩ b hb
    rcases List.mem_cons.mp hb with rfl | hb
    · exact y1.imp fun _ e => e.1
    · rcases List.mem_cons.mp hb with rfl | hb
      · exact y2.imp fun _ e => e.1
      · exact y3 b hb
  · intro hb
    rcases List.mem_cons.mp hb with e | hb
    · exact absurd hLg (by rw [e]; exact Nat.lt_irrefl _)
    · rcases List.mem_cons.mp hb with e | hb
      · exact n1 e.symm
      · exact (hts _ hb).1 rfl
  · intro b hb
    rw [List.mem_singleton.mp hb]
    exact Heap.get?_none_of_le (Nat.le_trans F.above (Nat.le_of_lt hLg))
  · intro p hp hb
    exact absurd (Heap.lt_size (N p hp).1) (by rw [List.mem_singleton.mp hb]; exact Nat.lt_irrefl _)

theorem srcTup3 {ax : Addr} {its : Array Value} {n : Nat} {news : List (Addr × Obj)} {PV : Nat → Value → Value → Value → Prop} {s₀ : Shared} {a b c : Str} {pa pb pc tp : Pos} {kk : Nat} (hh : A.handled = none) (hl : s.heap.IsList ax its) (n1 : ax ≠ L) (ts : List Addr) (hts : ∀ T ∈ ts, T ≠ L ∧ ∃ o, s.heap.get? T = some o)
    (items : ∀ i v, its[i]? = some v → ∃ T x y z, v = .ref T ∧ T ∈ ts ∧ s.heap.IsTuple T #[x, y, z] ∧ PV i x y z) (F : Fr h₀ L s.heap m) (N : News h₀ L s.heap news)
    (hn : its.size = n) (hs : ∃ g k, s = { s₀ with heap := g, toks := k }) :
    wpAny (model prog w) A (pyIter (.ref ax)) (SrcJ prog w A h₀ L m (.Tuple [.Name a pa, .Name b pb, .Name c pc] kk tp) (Item3 PV) n news s₀) E s := by
  obtain ⟨g, k, rfl⟩ := hs
  subst hn
  dsimp only at hl hts items F N
  have lta : ax < g.objs.size := by obtain ⟨_, e, _⟩ := hl; exact Heap.lt_size e
  refine wpAny_pyIter_list hl ?_
  have up : ∀ b o, g.get? b = some o → (g.push { cls := .type "list_iterator", data := .fields #[.ref ax, .int 0 0] }).get? b = some o := fun b o e => Heap.get?_push_of_some _ e
  have WL := Walks.list (prog := prog) (w := w) (A := A) hh g.objs.size ax (Nat.ne_of_lt lta) its
  have hLg : L < g.objs.size := F.ns.lt
  let Tups : Heap → Prop := fun h => ∀ i v, its[i]? = some v → ∃ T x y z, v = .ref T ∧ T ∈ ts ∧ h.IsTuple T #[x, y, z] ∧ PV i x y z
  let Ex : Heap → Prop := fun h => ∀ T ∈ ts, ∃ o, h.get? T = some o
  have tsI : ∀ T ∈ ts, T ≠ g.objs.size := fun T hT => by obtain ⟨o, e⟩ := (hts T hT).2; exact Nat.ne_of_lt (Heap.lt_size e)
  have tup : ∀ h h' : Heap, (∀ T ∈ ts, ∀ o, h.get? T = some o → h'.get? T = some o) → Tups h → Tups h' := fun h h' hk t i v hv => by
    obtain ⟨T, x, y, z, e, hT, hI, hP⟩ := t i v hv
    exact ⟨T, x, y, z, e, hT, hI.at fun o e => hk T hT o e, hP⟩
  have ex : ∀ h h' : Heap, (∀ T ∈ ts, ∀ o, h.get? T = some o → h'.get? T = some o) → Ex h → Ex h' := fun h h' hk t T hT => (t T hT).imp fun o e => hk T hT o e
  have KT : KTurns prog w A (PySem.Expr.Tuple [.Name a pa, .Name b pb, .Name c pc] kk tp) g.objs.size (g.objs.size :: ax :: ts) [g.objs.size] its.size (fun i v h => ∃ T x y z, v = .ref T ∧ h.IsTuple T #[x, y, z] ∧ PV i x y z)
      (fun i v h => (∃ T x y z, v = .ref T ∧ h.IsTuple T #[x, y, z] ∧ PV i x y z) ∧ (h.IsListIter g.objs.size ax (i + 1) ∧ h.IsList ax its) ∧ Tups h ∧ Ex h)
      (fun i h => (h.IsListIter g.objs.size ax i ∧ h.IsList ax its) ∧ Tups h ∧ Ex h) := 
    {sub := (fun b hb => by rw [List.mem_singleton.mp hb]; exact List.mem_cons_self ..),
       frame := fun i h h' st hk => ⟨WL.frame i h h' st.1 fun b hb o e => hk b (by
          rcases List.mem_cons.mp hb with rfl | hb
          · exact List.mem_cons_self ..
          · rw [List.mem_singleton.mp hb]; exact List.mem_cons_of_mem _ (List.mem_cons_self ..)) o e, tup _ _ (fun T hT o e => hk T (List.mem_cons_of_mem _ (List.mem_cons_of_mem _ hT)) o e) st.2.1, ex _ _ (fun T hT o e => hk T (List.mem_cons_of_mem _ (List.mem_cons_of_mem _ hT)) o e) st.2.2⟩,
       item := fun i s Q E hi st hQ => WL.item i s Q E hi st.1 fun v h' tk hv st' hk => by
          have kt : ∀ T ∈ ts, ∀ o, s.heap.get? T = some o → h'.get? T = some o := fun T hT o e => hk T o (by simpa using tsI T hT) e
          have t' := tup _ _ kt st.2.1
          obtain ⟨T, x, y, z, e, hT, hI, hP⟩ := t' i v hv
          exact hQ v h' tk ⟨⟨T, x, y, z, e, hI, hP⟩, st', t', ex _ _ kt st.2.2⟩ hk,
       go := fun i v s Q E hm hQ => by
          obtain ⟨T, x, y, z, rfl, hI, hP⟩ := hm.1
          exact wpAny_letOwnedTupleGo_listiter hm.2.1.1 (hQ s.heap ⟨T, x, y, z, rfl, hI, hP⟩ hm.2 fun _ _ _ e => e),
       done := fun s Q E st hQ => WL.done s Q E st.1 hQ }
  refine ⟨_, _, _, _, _, _, _, k, rfl, rfl, KT, fun i v h hp => hp, ⟨⟨⟨_, Heap.get?_push_size _ rfl, rfl, rfl⟩, hl.push _⟩, tup _ _ (fun T _ o e => up T o e) items, ex _ _ (fun T _ o e => up T o e) fun T hT => (hts T hT).2⟩, ?_, fun s Q E st q => WL.self 0 s Q E st.1 q, ?_, ?_, ?_, F.keeps up, N.grown up⟩
  · rintro i h ⟨⟨y1, y2⟩, _, y3⟩ b hb
    rcases List.mem_cons.mp hb with rfl | hb
    · exact y1.imp fun _ e => e.1
    · rcases List.mem_cons.mp hb with rfl | hb
      · exact y2.imp fun _ e => e.1
      · exact y3 b hb
  · intro hb
    rcases List.mem_cons.mp hb with e | hb
    · exact absurd hLg (by rw [e]; exact Nat.lt_irrefl _)
    · rcases List.mem_cons.mp hb with e | hb
      · exact n1 e.symm
      · exact (hts _ hb).1 rfl
  · intro b hb
    rw [List.mem_singleton.mp hb]
    exact Heap.get?_none_of_le (Nat.le_trans F.above (Nat.le_of_lt hLg))
  · intro p hp hb
    exact absurd (Heap.lt_size (N p hp).1) (by rw [List.mem_singleton.mp hb]; exact Nat.lt_irrefl _)


theorem compS2 {elt iter : PySem.Expr} {a b : Str} {pa pb tp : Pos} {kk : Nat} {scope : Scope} {cl : List (Str × Addr)} {pos : Pos} {n : Nat} {news : List (Addr × Obj)} {PV : Nat → Value → Value → Prop} {Q : Value → Shared → Prop} (R : Nat → List Value → Prop) (F : Fr h₀ L s.heap m) (N : News h₀ L s.heap news) (hclos : closureFor scope env = pure cl) (hcell : ∀ y ∈ scope.names, y.2 ≠ .cell) (hkind : scope.kind = .function)
    (hnames : ∀ y ∈ scope.names, y.2 = .local → scope.names.lookup y.1 = some .local) (hxa : scope.names.lookup a = some .local) (hxb : scope.names.lookup b = some .local) (hab : a ≠ b) (hh : A.handled = none) (hsz : n ≤ sizeLine)
    (h : wpAny (model prog w) A (eval iter env) (fun xv s₁ => wpAny (model prog w) A (pyIter xv) (SrcJ prog w A h₀ L m (.Tuple [.Name a pa, .Name b pb] kk tp) (Item2 PV) n news s) E s₁) E s) (h0 : R 0 []) (turn : ∀ i x y ys own C oC D m₂ h tk (E' : Value → Shared → Prop), PV i x y → R i ys → NsObj oC m₂ → m₂ a = some x → m₂ b = some y → Fr h₀ L h m → News h₀ L h ((C, oC) :: (D, lst ys) :: (news ++ own)) →
      wpAny (model prog w) A (eval elt (compEnvC scope cl C env)) (EndS h₀ L m { s with heap := h, toks := tk } ((C, oC) :: (D, lst ys) :: (news ++ own)) (fun y => R (i + 1) (ys ++ [y]))) E' { s with heap := h, toks := tk })
    (fin : ∀ ys D h tk, R n ys → ys.length = n → Fr h₀ L h m → News h₀ L h ((D, lst ys) :: news) → Apart D news → Q (.ref D) { s with heap := h, toks := tk })
    (hs : ∀ x, foldedSetIterable iter env x = pure x := by intro _; rfl) :
    wpAny (model prog w) A (eval (.ListComp elt [⟨(.Tuple [.Name a pa, .Name b pb] kk tp), iter, [], 0⟩] scope pos) env) Q E s :=
  compJ (fun i ys nw => nw = news ∧ R i ys) hclos hcell hkind hnames (asg2 hh hkind hxa hxb hab) hh hsz h ⟨rfl, h0⟩ (turnS (R := R) fun i ys own C oC D m₂ g tk E' ⟨x, y, hP, ha, hb⟩ hR hC F' N' => turn i x y ys own C oC D m₂ g tk E' hP hR hC ha hb F' N') (fun ys nw D g tk ⟨e, hR⟩ hl F' N' aD => by subst e; exact fin ys D g tk hR hl F' N' aD) hs
theorem compAS2 {elt iter : PySem.Expr} {a b : Str} {pa pb tp : Pos} {kk : Nat} {scope : Scope} {cl : List (Str × Addr)} {pos : Pos} {n : Nat} {news : List (Addr × Obj)} {PV : Nat → Value → Value → Prop} {yn : Str} {py : Pos} {spos : Pos} {Q : Flow → Shared → Prop} (R : Nat → List Value → Prop) (F : Fr h₀ L s.heap m) (N : News h₀ L s.heap news) (hLe : env.locals = L)
    (hsw : swapsWith (.ListComp elt [⟨(.Tuple [.Name a pa, .Name b pb] kk tp), iter, [], 0⟩] scope pos) (some (.Name yn py)) spos.line env = pure true)
    (hclos : closureFor scope env = pure cl) (hcell : ∀ y ∈ scope.names, y.2 ≠ .cell) (hkind : scope.kind = .function)
    (hnames : ∀ y ∈ scope.names, y.2 = .local → scope.names.lookup y.1 = some .local) (hxa : scope.names.lookup a = some .local) (hxb : scope.names.lookup b = some .local) (hab : a ≠ b) (hy : env.kindOf yn = some .local) (hp : (env.scope.kind == .class || (env.scope.kind == .module && env.locals != env.globals)) = false) (hh : A.handled = none) (hsz : n ≤ sizeLine)
    (h : wpAny (model prog w) A (eval iter env) (fun xv s₁ => wpAny (model prog w) A (pyIter xv) (SrcJ prog w A h₀ L m (.Tuple [.Name a pa, .Name b pb] kk tp) (Item2 PV) n news s) E s₁) E s) (h0 : R 0 []) (turn : ∀ i x y ys own C oC D m₂ h tk (E' : Value → Shared → Prop), PV i x y → R i ys → NsObj oC m₂ → m₂ a = some x → m₂ b = some y → Fr h₀ L h m → News h₀ L h ((C, oC) :: (D, lst ys) :: (news ++ own)) →
      wpAny (model prog w) A (eval elt (compEnvC scope cl C env)) (EndS h₀ L m { s with heap := h, toks := tk } ((C, oC) :: (D, lst ys) :: (news ++ own)) (fun y => R (i + 1) (ys ++ [y]))) E' { s with heap := h, toks := tk })
    (fin : ∀ ys D h tk, R n ys → ys.length = n → Fr h₀ L h (fun z => if z = yn then some (.ref D) else m z) → News h₀ L h ((D, lst ys) :: news) → Apart D news → Q .next { s with heap := h, toks := tk })
    (hs : ∀ x, foldedSetIterable iter env x = pure x := by intro _; rfl) :
    wpAny (model prog w) A (exec (.Assign [.Name yn py] (.ListComp elt [⟨(.Tuple [.Name a pa, .Name b pb] kk tp), iter, [], 0⟩] scope pos) spos) env) Q E s :=
  compA (fun i ys nw => nw = news ∧ R i ys) hLe hsw hclos hcell hkind hnames (asg2 hh hkind hxa hxb hab) hy hp hh hsz h ⟨rfl, h0⟩ (turnS (R := R) fun i ys own C oC D m₂ g tk E' ⟨x, y, hP, ha, hb⟩ hR hC F' N' => turn i x y ys own C oC D m₂ g tk E' hP hR hC ha hb F' N') (fun ys nw D g tk ⟨e, hR⟩ hl F' N' aD => by subst e; exact fin ys D g tk hR hl F' N' aD) hs
theorem compS3 {elt iter : PySem.Expr} {a b c : Str} {pa pb pc tp : Pos} {kk : Nat} {scope : Scope} {cl : List (Str × Addr)} {pos : Pos} {n : Nat} {news : List (Addr × Obj)} {PV : Nat → Value → Value → Value → Prop} {Q : Value → Shared → Prop} (R : Nat → List Value → Prop) (F : Fr h₀ L s.heap m) (N : News h₀ L s.heap news) (hclos : closureFor scope env = pure cl) (hcell : ∀ y ∈ scope.names, y.2 ≠ .cell) (hkind : scope.kind = .function)
    (hnames : ∀ y ∈ scope.names, y.2 = .local → scope.names.lookup y.1 = some .local) (hxa : scope.names.lookup a = some .local) (hxb : scope.names.lookup b = some .local) (hxc : scope.names.lookup c = some .local) (hab : a ≠ b) (hac : a ≠ c) (hbc : b ≠ c) (hh : A.handled = none) (hsz : n ≤ sizeLine)
    (h : wpAny (model prog w) A (eval iter env) (fun xv s₁ => wpAny (model prog w) A (pyIter xv) (SrcJ prog w A h₀ L m (.Tuple [.Name a pa, .Name b pb, .Name c pc] kk tp) (Item3 PV) n news s) E s₁) E s) (h0 : R 0 []) (turn : ∀ i x y z ys own C oC D m₂ h tk (E' : Value → Shared → Prop), PV i x y z → R i ys → NsObj oC m₂ → m₂ a = some x → m₂ b = some y → m₂ c = some z → Fr h₀ L h m → News h₀ L h ((C, oC) :: (D, lst ys) :: (news ++ own)) →
      wpAny (model prog w) A (eval elt (compEnvC scope cl C env)) (EndS h₀ L m { s with heap := h, toks := tk } ((C, oC) :: (D, lst ys) :: (news ++ own)) (fun y => R (i + 1) (ys ++ [y]))) E' { s with heap := h, toks := tk })
    (fin : ∀ ys D h tk, R n ys → ys.length = n → Fr h₀ L h m → News h₀ L h ((D, lst ys) :: news) → Apart D news → Q (.ref D) { s with heap := h, toks := tk })
    (hs : ∀ x, foldedSetIterable iter env x = pure x := by intro _; rfl) :
    wpAny (model prog w) A (eval (.ListComp elt [⟨(.Tuple [.Name a pa, .Name b pb, .Name c pc] kk tp), iter, [], 0⟩] scope pos) env) Q E s :=
  compJ (fun i ys nw => nw = news ∧ R i ys) hclos hcell hkind hnames (asg3 hh hkind hxa hxb hxc hab hac hbc) hh hsz h ⟨rfl, h0⟩ (turnS (R := R) fun i ys own C oC D m₂ g tk E' ⟨x, y, z, hP, ha, hb, hc⟩ hR hC F' N' => turn i x y z ys own C oC D m₂ g tk E' hP hR hC ha hb hc F' N') (fun ys nw D g tk ⟨e, hR⟩ hl F' N' aD => by subst e; exact fin ys D g tk hR hl F' N' aD) hs
theorem compAS3 {elt iter : PySem.Expr} {a b c : Str} {pa pb pc tp : Pos} {kk : Nat} {scope : Scope} {cl : List (Str × Addr)} {pos : Pos} {n : Nat} {news : List (Addr × Obj)} {PV : Nat → Value → Value → Value → Prop} {yn : Str} {py : Pos} {spos : Pos} {Q : Flow → Shared → Prop} (R : Nat → List Value → Prop) (F : Fr h₀ L s.heap m) (N : News h₀ L s.heap news) (hLe : env.locals = L)
    (hsw : swapsWith (.ListComp elt [⟨(.Tuple [.Name a pa, .Name b pb, .Name c pc] kk tp), iter, [], 0⟩] scope pos) (some (.Name yn py)) spos.line env = pure true)
    (hclos : closureFor scope env = pure cl) (hcell : ∀ y ∈ scope.names, y.2 ≠ .cell) (hkind : scope.kind = .function)
    (hnames : ∀ y ∈ scope.names, y.2 = .local → scope.names.lookup y.1 = some .local) (hxa : scope.names.lookup a = some .local) (hxb : scope.names.lookup b = some .local) (hxc : scope.names.lookup c = some .local) (hab : a ≠ b) (hac : a ≠ c) (hbc : b ≠ c) (hy : env.kindOf yn = some .local) (hp : (env.scope.kind == .class || (env.scope.kind == .module && env.locals != env.globals)) = false) (hh : A.handled = none) (hsz : n ≤ sizeLine)
    (h : wpAny (model prog w) A (eval iter env) (fun xv s₁ => wpAny (model prog w) A (pyIter xv) (SrcJ prog w A h₀ L m (.Tuple [.Name a pa, .Name b pb, .Name c pc] kk tp) (Item3 PV) n news s) E s₁) E s) (h0 : R 0 []) (turn : ∀ i x y z ys own C oC D m₂ h tk (E' : Value → Shared → Prop), PV i x y z → R i ys → NsObj oC m₂ → m₂ a = some x → m₂ b = some y → m₂ c = some z → Fr h₀ L h m → News h₀ L h ((C, oC) :: (D, lst ys) :: (news ++ own)) →
      wpAny (model prog w) A (eval elt (compEnvC scope cl C env)) (EndS h₀ L m { s with heap := h, toks := tk } ((C, oC) :: (D, lst ys) :: (news ++ own)) (fun y => R (i + 1) (ys ++ [y]))) E' { s with heap := h, toks := tk })
    (fin : ∀ ys D h tk, R n ys → ys.length = n → Fr h₀ L h (fun z => if z = yn then some (.ref D) else m z) → News h₀ L h ((D, lst ys) :: news) → Apart D news → Q .next { s with heap := h, toks := tk })
    (hs : ∀ x, foldedSetIterable iter env x = pure x := by intro _; rfl) :
    wpAny (model prog w) A (exec (.Assign [.Name yn py] (.ListComp elt [⟨(.Tuple [.Name a pa, .Name b pb, .Name c pc] kk tp), iter, [], 0⟩] scope pos) spos) env) Q E s :=
  compA (fun i ys nw => nw = news ∧ R i ys) hLe hsw hclos hcell hkind hnames (asg3 hh hkind hxa hxb hxc hab hac hbc) hy hp hh hsz h ⟨rfl, h0⟩ (turnS (R := R) fun i ys own C oC D m₂ g tk E' ⟨x, y, z, hP, ha, hb, hc⟩ hR hC F' N' => turn i x y z ys own C oC D m₂ g tk E' hP hR hC ha hb hc F' N') (fun ys nw D g tk ⟨e, hR⟩ hl F' N' aD => by subst e; exact fin ys D g tk hR hl F' N' aD) hs
theorem pair6 {P : Nat → Value → Value → Prop} {a0 a1 a2 a3 a4 a5 b0 b1 b2 b3 b4 b5 : Value} (h0 : P 0 a0 b0) (h1 : P 1 a1 b1) (h2 : P 2 a2 b2) (h3 : P 3 a3 b3) (h4 : P 4 a4 b4) (h5 : P 5 a5 b5) :
    ∀ i x y, [a0, a1, a2, a3, a4, a5].toArray[i]? = some x → [b0, b1, b2, b3, b4, b5].toArray[i]? = some y → P i x y := by
  intro i x y hx hy
  rw [List.getElem?_toArray] at hx hy
  match i, hx, hy with
  | 0, hx, hy => cases hx; cases hy; exact h0
  | 1, hx, hy => cases hx; cases hy; exact h1
  | 2, hx, hy => cases hx; cases hy; exact h2
  | 3, hx, hy => cases hx; cases hy; exact h3
  | 4, hx, hy => cases hx; cases hy; exact h4
  | 5, hx, hy => cases hx; cases hy; exact h5
  | n + 6, hx, _ => simp at hx
end
end Mine

-- part Text

set_option maxHeartbeats 8000000

namespace Mine
section
variable {prog : Program} {w : World} {mean : ExcName → Option Value} {mg mb : Str → Option Value} {A : Around} {s : Shared} {Q E : Value → Shared → Prop}
/-- the brackets of one step -/
def par (x : Int) : List Nat := List.replicate x.toNat 40 ++ List.replicate (-x).toNat 41
/-- the text of steps -/
def txt (xs : List Int) : List Nat := xs.flatMap par
theorem cps_par (x : Int) : (Txt.mul (Str.ofString "(") x ++ Txt.mul (Str.ofString ")") (-x)).cps.toList = par x := by
  have e1 : Str.ofString "(" = ⟨#[40]⟩ := by decide
  have e2 : Str.ofString ")" = ⟨#[41]⟩ := by decide
  rw [e1, e2]
  show ((Txt.mul ⟨#[40]⟩ x).cps ++ (Txt.mul ⟨#[41]⟩ (-x)).cps).toList = _
  rw [Array.toList_append, mul_one_list, mul_one_list]
  rfl
theorem len_par {x : Int} (h : -20 ≤ x ∧ x ≤ 20) : (Txt.mul (Str.ofString "(") x ++ Txt.mul (Str.ofString ")") (-x)).length ≤ 20 := by
  show (Txt.mul (Str.ofString "(") x ++ Txt.mul (Str.ofString ")") (-x)).cps.size ≤ 20
  rw [← Array.length_toList, cps_par]
  simp [par]; omega
theorem glue_fold : ∀ (ts : List Str) (acc : Array Nat), (ts.foldl (fun acc p => acc ++ (#[] : Array Nat) ++ p.cps) acc).toList = acc.toList ++ ts.flatMap (·.cps.toList)
  | [], acc => by simp
  | t :: r, acc => by
    rw [List.foldl_cons, glue_fold r]
    simp
theorem glued_nil (ts : List Str) : (Txt.join (Str.ofString "") ts).cps.toList = ts.flatMap (·.cps.toList) := by
  have e : Str.ofString "" = ⟨#[]⟩ := by decide
  rw [e]
  unfold Txt.join
  show (((ts.drop 1).foldl (fun acc p => acc ++ (#[] : Array Nat) ++ p.cps) (ts.headD Str.empty).cps)).toList = _
  rw [glue_fold]
  cases ts with
  | nil => simp [Str.empty]
  | cons t r => simp
section
variable {prog : Program} {h₀ : Heap} {L : Addr} {m : Str → Option Value} {news : List (Addr × Obj)}
theorem joinNew {l : List (Str × Tok)} {D : Addr} {x : Str} {t : Tok} (N : News h₀ L s.heap ((D, LCg.lst (strValues l)) :: news)) (hok : JoinOk x (l.map (·.1)) = true)
    (hq : ∀ t' k, Q (.str (Txt.join x (l.map (·.1))) t') { s with toks := k }) : wpAny (model prog w) A (call (.builtin "str.join") [.str x t, .ref D]) Q E s :=
  SC.join ⟨LCg.lst (strValues l), N.get (List.mem_cons_self ..), rfl, _, rfl⟩ rfl hok hq
end
theorem itemBase {prog : Program} {value slice : PySem.Expr} {h₀ : Heap} {L l : Addr} {m : Str → Option Value} {vs : List Value} {k : Int} {u : Tok} {v : Value}
    (F : Fr h₀ L s.heap m) (hl : h₀.IsList l vs.toArray) (he : 0 ≤ k ∧ k < 2 ^ 62 ∧ vs[k.toNat]? = some v) (h : Q v s)
    (hs : subscripted slice false (.ref l) (.int k u) = operate [.ref l, .int k u] (getItem (.ref l) (.int k u)) := by with_unfolding_all rfl) :
    wpAny (model prog w) A (subscriptTail value slice (.ref l) (.int k u)) Q E s := itemList (F.lst hl) he.1 he.2.1 he.2.2 h hs
local macro_rules | `(tactic| walk_at "subscriptTail Name Name ref int") => `(tactic| ((rename Fr _ _ _ _ => F'); (refine itemBase F' (by assumption) (by assumption) ?_)))
local macro_rules | `(tactic| walk_at "call builtin:str.join") => `(tactic| (refine halt_of ?_))
theorem strs_of : ∀ {ys : List Value} {xs : List Int}, Are (fun x v => ∃ y t, v = Value.str y t ∧ y.cps.toList = par x ∧ y.length ≤ 20) ys xs → ∃ l : List (Str × Tok), ys = strValues l ∧ (l.map (·.1)).flatMap (·.cps.toList) = txt xs ∧ ((l.map (·.1)).map (·.length)).sum ≤ 20 * xs.length
  | ys, [], h => ⟨[], h.unnil, rfl, Nat.zero_le _⟩
  | ys, x :: xs, h => by
    obtain ⟨v, ws, rfl, ⟨y, t, rfl, e, b⟩, h2⟩ := h.uncons
    obtain ⟨l, rfl, e1, e2⟩ := strs_of h2
    refine ⟨(y, t) :: l, rfl, ?_, ?_⟩
    · show y.cps.toList ++ (l.map (·.1)).flatMap (·.cps.toList) = par x ++ txt xs
      rw [e, e1]
    · show y.length + ((l.map (·.1)).map (·.length)).sum ≤ 20 * (xs.length + 1)
      rw [Nat.mul_succ, Nat.add_comm]
      exact Nat.add_le_add e2 b
local macro_rules | `(tactic| walk_at "eval ListComp") => `(tactic| (refine halt_of ?_))
local macro_rules | `(tactic| walk_at "pyIter ref") => `(tactic| (refine halt_of ?_))
/-- a place of the row: its number, and the step that lies there -/
def PlaceOf (vs : List Value) (x : Int) (v : Value) : Prop := ∃ p t u, v = Value.int p t ∧ (0 ≤ p ∧ p < 2 ^ 62 ∧ vs[p.toNat]? = some (.int x u)) ∧ -20 ≤ x ∧ x ≤ 20
theorem text_call (C : Cx w mean mg mb A s.heap) (hd : A.depth + 5 < recursionLimit) (hu : A.units + 90 < cLine) {l r : Addr} {vs its : List Value} {xs : List Int}
    (hl : s.heap.IsList l vs.toArray) (hr : s.heap.IsList r its.toArray)
    (hp : Are (PlaceOf vs) its xs) (hn : xs.length ≤ 1000)
    (hQ : ∀ h' tk x t, Ext s.heap h' → x.cps.toList = txt xs → Q (.str x t) { s with heap := h', toks := tk }) :
    wpAny (model prog w) A (call (.ref 139) [.ref r, .ref l]) Q E s := by
  obtain ⟨B, F, X, T, hkk⟩ := C
  refine wpAny_call ?_
  (refine' enterC ?k1 ?k2 ?k3 ?k5 ?kA ?kF ?kK ?k6 ?k7 ?k8 ?k9 ?kB ?kD ?_ ?c2 ?c3 ?c4; (case kA => exact rfl); (case kF => exact rfl); (case kK => assumption); (case k1 => assumption); (case k2 => assumption); (case k3 => assumption); (case k5 => assumption); (case k6 => k_is); (case k7 => k_is); (case k8 => ktr_room); (case k9 => first | exact BindsTo.of_eq rfl | (refine' kp_binds ?kx ?ke; (case kx => k_in); (case ke => exact fun _ => rfl)) | exact binds_K (by k_in) rfl (by k_is) rfl rfl rfl); (case kB => exact rfl); (case kD => decide +kernel); (case c2 => exact rfl); (case c3 => exact rfl); (case c4 => exact rfl); k_whole; intro L' h' tk' cells' F' N' Y' B' X' T'; k_cells Y'; (try simp only [List.cons_append, List.nil_append] at N'); (try dsimp only); (try k_fold))
  k_steps
  unfold Halt
  (with_reducible rename Fr _ _ _ _ => F')
  (with_reducible rename News _ _ _ _ => N'); (try k_sweep)
  refine compX (n := its.length) (Item := Item1 (fun i v => its.toArray[i]? = some v)) (fun i ys ws => Are (fun x v => ∃ y t, v = Value.str y t ∧ y.cps.toList = par x ∧ y.length ≤ 20) ys (xs.take i)) F' N'
    (by with_unfolding_all rfl) (by decide) (by rfl) (by decide) (asg1 (by rfl) (by rfl)) (by rfl) (by rw [hp.len]; exact Nat.le_trans hn (Nat.le_of_ble_eq_true rfl)) ?_ ⟨rfl, fun i a h => by simp at h⟩ ?_ ?_
  · k_steps
    unfold Halt
    (with_reducible rename Fr _ _ _ _ => F')
    (with_reducible rename News _ _ _ _ => N'); (try k_sweep)
    exact srcList rfl (F'.lst hr) (base_ne F' hr) (fun _ _ h => h) F' N' (by simp) ⟨_, _, rfl⟩
  · rintro i ys ws rest C oC Dc m₂ h2 tk2 E' hi ⟨v, hv, hm⟩ hR hC F' N' aC aD
    (simp only [List.cons_append, List.nil_append] at N' aC aD)
    rw [List.getElem?_toArray] at hv
    obtain ⟨x, hx, p, t, u, rfl, he, hb⟩ := hp.of hv
    k_steps
    (with_reducible rename Fr _ _ _ _ => F')
    (with_reducible rename News _ _ _ _ => N'); (try k_sweep)
    exact EndX.none F' N' (Are.snoc' hR hx ⟨_, _, rfl, cps_par x, len_par hb⟩)
  · rintro ys ws D2 h2 tk2 - hR hl2 F' N' -
    rw [hp.len, List.take_length] at hR
    obtain ⟨l, rfl, e1, e2⟩ := strs_of hR
    k_steps
    unfold Halt
    refine joinNew (l := l) N' (joinOk_of ?_) fun t' k => hQ _ _ _ _ F'.keep (by rw [glued_nil, e1])
    have e : (Str.ofString "").length = 0 := by decide
    rw [e, Nat.mul_zero, Nat.add_zero]
    exact Nat.le_trans e2 (Nat.le_trans (Nat.mul_le_mul_left 20 hn) (Nat.le_of_ble_eq_true rfl))
end
end Mine

-- part Sorted


namespace Mine
def insP (x y : Int) : List (Int × Int) → List (Int × Int)
  | [] => [(x, y)]
  | p :: r => if p.1 < x then p :: insP x y r else (x, y) :: p :: r
def laidP (st : List Int) : List Int → Int → List (Int × Int) → List (Int × Int)
  | [], _, acc => acc
  | p :: r, h, acc => laidP st r (h + st.getD p.toNat 0) (insP h p acc)
abbrev SrtP (ps : List (Int × Int)) : Prop := ∀ i j (hi : i < ps.length) (hj : j < ps.length), i ≤ j → ps[i].1 ≤ ps[j].1
theorem insP_eq {x y : Int} : ∀ {ps : List (Int × Int)} {r : Nat}, r ≤ ps.length → (∀ i (hi : i < ps.length), i < r → ps[i].1 < x) → (∀ i (hi : i < ps.length), r ≤ i → x ≤ ps[i].1) → ps.take r ++ (x, y) :: ps.drop r = insP x y ps
  | [], r, h, _, _ => by simp [insP]
  | p :: ps, 0, h, _, h2 => by
    have := h2 0 (by simp) (Nat.le_refl _)
    simp only [List.getElem_cons_zero] at this
    simp only [insP, List.take_zero, List.drop_zero, List.nil_append]
    rw [if_neg (by omega)]
  | p :: ps, r + 1, h, h1, h2 => by
    have := h1 0 (by simp) (by omega)
    simp only [List.getElem_cons_zero] at this
    simp only [insP, List.take_succ_cons, List.drop_succ_cons, List.cons_append]
    rw [if_pos this, insP_eq (by simpa using h) (fun i hi hr => by have q := h1 (i + 1) (Nat.succ_lt_succ hi) (by omega); rw [List.getElem_cons_succ] at q; exact q) (fun i hi hr => by have q := h2 (i + 1) (Nat.succ_lt_succ hi) (by omega); rw [List.getElem_cons_succ] at q; exact q)]
theorem insP_len (x y : Int) (ps : List (Int × Int)) : (insP x y ps).length = ps.length + 1 := by
  induction ps with
  | nil => rfl
  | cons p r ih => simp only [insP]; split <;> simp [ih]
theorem srt_iff {ps : List (Int × Int)} : SrtP ps ↔ ps.Pairwise (fun a b => a.1 ≤ b.1) := by
  rw [List.pairwise_iff_getElem]
  constructor
  · intro h i j hi hj hij
    exact h i j hi hj (by omega)
  · intro h i j hi hj hij
    rcases Nat.lt_or_ge i j with q | q
    · exact h i j hi hj q
    · have : i = j := by omega
      subst this; exact Int.le_refl _
theorem mem_insP {x y : Int} {q : Int × Int} : ∀ {ps : List (Int × Int)}, q ∈ insP x y ps → q = (x, y) ∨ q ∈ ps
  | [], h => by simp [insP] at h; exact .inl h
  | p :: r, h => by
    simp only [insP] at h
    split at h
    · rcases List.mem_cons.mp h with e | h
      · exact .inr (e ▸ .head _)
      · exact (mem_insP h).imp id fun h => .tail _ h
    · rcases List.mem_cons.mp h with e | h
      · exact .inl e
      · exact .inr h
theorem insP_srt {x y : Int} : ∀ {ps : List (Int × Int)}, ps.Pairwise (fun a b => a.1 ≤ b.1) → (insP x y ps).Pairwise (fun a b => a.1 ≤ b.1)
  | [], _ => by simp [insP]
  | p :: r, h => by
    obtain ⟨h1, h2⟩ := List.pairwise_cons.mp h
    simp only [insP]
    split
    · refine List.pairwise_cons.mpr ⟨fun q hq => ?_, insP_srt h2⟩
      rcases mem_insP hq with rfl | hq
      · dsimp only; omega
      · exact h1 q hq
    · refine List.pairwise_cons.mpr ⟨fun q hq => ?_, h⟩
      rcases List.mem_cons.mp hq with rfl | hq
      · dsimp only; omega
      · have := h1 q hq
        dsimp only; omega
theorem Are.ins {α : Type} {R : α → Value → Prop} {vs : List Value} {as : List α} {v : Value} {a : α} (h : Are R vs as) (hv : R a v) (r : Nat) : Are R (vs.take r ++ v :: vs.drop r) (as.take r ++ a :: as.drop r) := by
  have hl := h.len
  refine ⟨by simp [hl], fun i b hb => ?_⟩
  rw [List.getElem?_append] at hb ⊢
  rw [List.length_take] at hb ⊢
  rw [hl]
  by_cases hi : i < min r as.length
  · rw [if_pos hi] at hb ⊢
    rw [List.getElem?_take_of_lt (by omega)] at hb ⊢
    exact h.2 i b hb
  · rw [if_neg hi] at hb ⊢
    cases hk : i - min r as.length with
    | zero =>
      rw [hk] at hb
      simp only [List.getElem?_cons_zero, Option.some.injEq] at hb ⊢
      exact ⟨v, rfl, hb ▸ hv⟩
    | succ k =>
      rw [hk] at hb
      simp only [List.getElem?_cons_succ, List.getElem?_drop] at hb ⊢
      exact h.2 _ b hb
section
variable {h₀ h h' : Heap} {L D : Addr} {m : Str → Option Value} {news : List (Addr × Obj)} {o o' : Obj}
theorem frBut (F : Fr h₀ L h m) (nD : D ≠ L) (fD : h₀.get? D = none) (hk : ∀ b o, b ≠ D → h.get? b = some o → h'.get? b = some o) : Fr h₀ L h' m :=
  ⟨F.ns.at' fun o e => hk _ o (Ne.symm nD) e, fun b o e => hk b o (fun q => by rw [q, fD] at e; cases e) (F.keep b o e), F.above⟩
theorem newsBut (N : News h₀ L h news) (hn : ∀ p ∈ news, p.1 ≠ D) (hk : ∀ b o, b ≠ D → h.get? b = some o → h'.get? b = some o) : News h₀ L h' news := fun p hp => ⟨hk _ _ (hn p hp) (N p hp).1, (N p hp).2⟩
end
abbrev tupObj (x : Int) (t : Tok) (y : Int) (u : Tok) : Obj := { cls := .type "tuple", data := .seq #[.int x t, .int y u] 0 }
theorem place62 {p : Int} {n : Nat} (h : 0 ≤ p ∧ p.toNat < n) (hn : n ≤ 100) : p < 2 ^ 62 := by omega
/-- the list of pairs, turn by turn -/
inductive SortJ (gs : Array GenState) (st row : List Int) (D : Addr) (Bd : Int → Tok → List (Str × Value)) : Nat → Array GenState → (Str → Option Value) → List (Addr × Obj) → Prop
  | mk (vs' : Array Value) (n : Nat) (m₀ : Str → Option Value) (hh : Int) (th : Tok) (prs : List (Int × Int)) (tups : List (Addr × Obj)) (i : Nat) (hT : ∀ p ∈ tups, p.1 ≠ D)
      (ha' : Are (fun (p : Int × Int) v => ∃ a t u, v = .ref a ∧ (a, tupObj p.1 t p.2 u) ∈ tups) vs'.toList prs) (hsrt : SrtP prs) (hpl : prs.length = i) (hlaid : laidP st row 0 [] = laidP st (row.drop i) hh prs) :
      SortJ gs st row D Bd i gs (over (Bd hh th) m₀) ((D, PySem.W.listOf vs' n) :: tups)
section
variable {prog : Program} {w : World} {mean : ExcName → Option Value} {mg mb : Str → Option Value} {A : Around} {s : Shared} {Q E : Value → Shared → Prop}
local macro_rules | `(tactic| walk_at "exec While Compare cons nil") => `(tactic| (refine halt_of ?_))
local macro_rules | `(tactic| walk_at "exec While BoolOp cons nil") => `(tactic| (refine halt_of ?_))
local macro_rules | `(tactic| walk_at "exec For Name Name cons nil") => `(tactic| (refine halt_of ?_))
local macro_rules | `(tactic| walk_at "exec For Tuple Call cons nil") => `(tactic| (refine halt_of ?_))
theorem sorted_call (C : Cx w mean mg mb A s.heap) (hd : A.depth + 65 < recursionLimit) (hu : A.units + 490 < cLine) {l r : Addr} {ss rs : List Value} {st row : List Int} 
    (hl : s.heap.IsList l ss.toArray) (hs : Are isInt ss st) (hr : s.heap.IsList r rs.toArray) (hrow : Are isInt rs row) (hlen : row.length ≤ 100) (hst : st.length ≤ 100)
    (hp : ∀ p ∈ row, 0 ≤ p ∧ p.toNat < st.length)
    (hQ : ∀ h' tk D vs' n, Ext s.heap h' → s.heap.get? D = none → h'.get? D = some (PySem.W.listOf vs' n) → Are (fun (p : Int × Int) v => ∃ a t u, v = .ref a ∧ h'.get? a = some (tupObj p.1 t p.2 u) ∧ s.heap.get? a = none) vs'.toList (laidP st row 0 []) → Q (.ref D) { s with heap := h', toks := tk }) :
    wpAny (model prog w) A (call (.ref 153) [.ref r, .ref l]) Q E s := by
  obtain ⟨B, F, X, T, hkk⟩ := C
  refine wpAny_call ?_
  (refine' enterP ?k1 ?k2 ?k3 ?k5 ?kA ?kF ?kK ?k6 ?k7 ?k8 ?k9 ?kB ?_ ?c2 ?c3 ?c4 ?c5; (case kA => exact rfl); (case kF => exact rfl); (case kK => assumption); (case k1 => assumption); (case k2 => assumption); (case k3 => assumption); (case k5 => assumption); (case k6 => k_is); (case k7 => k_is); (case k8 => ktr_room); (case k9 => first | exact BindsTo.of_eq rfl | (refine' kp_binds ?kx ?ke; (case kx => k_in); (case ke => exact fun _ => rfl)) | exact binds_K (by k_in) rfl (by k_is) rfl rfl rfl); (case c5 => decide); (case kB => exact locs rfl); (case c2 => exact rfl); (case c3 => exact rfl); (case c4 => exact rfl); k_whole; intro L' h' F' N' B' X' T'; (try dsimp only); (try k_fold))
  k_steps
  unfold Halt
  (with_reducible rename Fr _ _ _ _ => F')
  (with_reducible rename News _ _ _ _ => N'); (try k_sweep)
  obtain ⟨D, hD⟩ := nm1 N'
  subst hD
  refine forN (SortJ s.gens st row D (fun hh th => [("laid", .ref D), ("here", .int hh th), ("steps", .ref l)]))
    (Fr.over F' [("laid", .ref D), ("here", _), ("steps", .ref l)] ⟨rfl, rfl, rfl, trivial⟩) N' hr (.mk _ _ _ _ _ _ _ 0 (fun _ h => nomatch h) Are.nil (fun i j hi => by simp at hi) rfl rfl) rfl ?_ ?_ ?_
  · intro Q' hq
    with_unfolding_all refine ld F' (by rfl) ?_
    exact hq
  · rintro i v m₁ news₁ I o h tk g hv ⟨vs', n, m₀, hh, th, prs, tups, _, hT, ha', hsrt, hpl, hlaid⟩ F' N' hn
    obtain ⟨p, hp', t3, rfl⟩ := hrow.of hv
    have hpm : p ∈ row := List.mem_of_getElem? hp'
    have hpp := hp p hpm
    have hir := (List.getElem?_eq_some_iff.1 hp').1
    have hID : D ≠ I := hn _ (.head _)
    k_steps
    (with_reducible rename Fr _ _ _ _ => F')
    (with_reducible rename News _ _ _ _ => N'); (try k_sweep)
    rename _ ∧ _ ∧ AllLt _ _ => l1
    obtain ⟨D', hD'⟩ := nm1 N'
    subst hD'
    have hDD : D' ≠ D := N'.twoPlaces (.head _) (.tail _ (.tail _ (.head _))) (fun e => by have q := congrArg Obj.cls e; injection q with q; exact absurd q (by decide))
    have nD := N' _ (.tail _ (.tail _ (.head _)))
    have ha2 : Are (fun (q : Int × Int) v => ∃ a t u, v = .ref a ∧ (a, tupObj q.1 t q.2 u) ∈ (D', tupObj hh th p t3) :: tups) vs'.toList prs := ha'.mono fun q v ⟨a, t, u, e, hm⟩ => ⟨a, t, u, e, .tail _ hm⟩
    have NT : News s.heap L' _ ((D', tupObj hh th p t3) :: tups) := fun q hq => N' q (by
      rcases List.mem_cons.mp hq with rfl | hq
      · exact .head _
      · exact .tail _ (.tail _ (.tail _ hq)))
    with_unfolding_all refine insL (Cx.mk B' F' X' T' rfl) (by ktr_room) (by ktr_units) (vs := vs'.toList) (ps := prs) ⟨n, nD.1⟩ (ha2.mono fun q v ⟨a, t, u, e, hm⟩ => ⟨a, t, u, e, NT.isTup hm⟩) (by rw [hpl]; exact Nat.lt_of_lt_of_le hir (Nat.le_trans hlen (Nat.le_of_ble_eq_true rfl))) (NT.isTup (.head _)) hsrt fun h' tk' r hk hl' hr' q1 q2 => ?_
    obtain ⟨n', hl'⟩ := hl'
    have hTT : ∀ q ∈ (D', tupObj hh th p t3) :: tups, q.1 ≠ D := fun q hq => by
      rcases List.mem_cons.mp hq with rfl | hq
      · exact hDD
      · exact hT _ hq
    have hIT : ∀ q ∈ (D', tupObj hh th p t3) :: tups, q.1 ≠ I := fun q hq => by
      rcases List.mem_cons.mp hq with rfl | hq
      · exact Ne.symm (Nat.ne_of_lt l1.1)
      · exact hn _ (.tail _ hq)
    replace F' := frBut F' nD.2.1 nD.2.2 hk
    have NI : News s.heap L' h' [(I, o)] := newsBut (fun q hq => N' q (by rw [List.mem_singleton.mp hq]; exact .tail _ (.head _))) (fun q hq => by rw [List.mem_singleton.mp hq]; exact Ne.symm hID) hk
    replace NT := newsBut NT hTT hk
    have heq := insP_eq (y := p) hr' q1 q2
    have hA2 := ha2.ins (v := .ref D') (a := (hh, p)) ⟨D', th, t3, rfl, .head _⟩ r
    rw [heq] at hA2
    clear N'
    have N' : News s.heap L' h' ((I, o) :: (D, PySem.W.listOf (vs'.toList.take r ++ .ref D' :: vs'.toList.drop r).toArray n') :: (D', tupObj hh th p t3) :: tups) := fun q hq => by
      rcases List.mem_cons.mp hq with rfl | hq
      · exact NI _ (.head _)
      · rcases List.mem_cons.mp hq with rfl | hq
        · exact ⟨hl', nD.2⟩
        · exact NT _ hq
    k_steps
    (with_reducible rename Fr _ _ _ _ => F')
    (with_reducible rename News _ _ _ _ => N'); (try k_sweep)
    have hsv : ∃ tt, ss[p.toNat]? = some (.int (st.getD p.toNat 0) tt) := by
      obtain ⟨v, hv, tt, rfl⟩ := hs.get hpp.2
      refine ⟨tt, ?_⟩
      rw [hv, List.getD_eq_getElem?_getD, List.getElem?_eq_getElem hpp.2]; rfl
    obtain ⟨tt, hsv⟩ := hsv
    refine itemList (F'.lst hl) hpp.1 (place62 hpp hst) hsv ?_
    k_steps
    (with_reducible rename Fr _ _ _ _ => F')
    (with_reducible rename News _ _ _ _ => N'); (try k_sweep)
    refine add_call (Cx.mk B' F' X' T' rfl) (by ktr_room) (by ktr_units) fun h' tk' r' K' => ?_
    replace F' := F'.keeps K'
    replace N' := N'.grown K'
    k_steps
    (with_reducible rename Fr _ _ _ _ => F')
    (with_reducible rename News _ _ _ _ => N'); (try k_sweep)
    refine TurnEnd.intro (news₂ := (D, _) :: (D', tupObj hh th p t3) :: tups) (Fr.over F' [("laid", .ref D), ("here", _), ("steps", .ref l)] ⟨rfl, rfl, rfl, trivial⟩) N' ?_ (.mk _ _ _ _ _ _ _ _ hTT hA2 (srt_iff.mpr (insP_srt (srt_iff.mp hsrt))) (by rw [insP_len, hpl]) ?_)
    · intro q hq
      rcases List.mem_cons.mp hq with rfl | hq
      · exact hID
      · exact hIT _ hq
    · rw [hlaid, List.drop_eq_getElem_cons hir]
      have e : row[i] = p := by rw [List.getElem?_eq_getElem hir] at hp'; exact Option.some.inj hp'
      rw [e]; rfl
  · rintro m₁ news₁ h tk g ⟨vs', n, m₀, hh, th, prs, tups, _, hT, ha', hsrt, hpl, hlaid⟩ F' N'
    rw [hrow.len, List.drop_length] at hlaid
    k_steps
    have nD := N' _ (.head _)
    refine hQ _ _ _ _ _ F'.keep nD.2.2 nD.1 ?_
    rw [hlaid]
    exact ha'.mono fun q v ⟨a, t, u, e, hm⟩ => ⟨a, t, u, e, (N' _ (.tail _ hm)).1, (N' _ (.tail _ hm)).2.2⟩
end
end Mine

-- part LinesA

namespace Mine
def insN (x : Nat) : List Nat → List Nat
  | [] => [x]
  | y :: r => if x < y then x :: y :: r else y :: insN x r
def mv (x : Nat) (a : Int) : Nat := if a < 0 then x - (-a).toNat else a.toNat + x
def turnL (st : List Int) : List Nat → List Int → List Nat → List Nat
  | x :: xs, p :: ps, acc => turnL st xs ps (insN (mv x (st.getD p.toNat 0)) acc)
  | _, _, acc => acc
/-- the lines, moved again and again until they stay -/
def fixL (st row : List Int) : Nat → List Nat → Option (List Nat)
  | 0, _ => none
  | f + 1, xs => if turnL st xs row [] = xs then some xs else fixL st row f (turnL st xs row [])
theorem insN_eq {x : Nat} : ∀ {ps : List Nat} {r : Nat}, r ≤ ps.length → (∀ i (hi : i < ps.length), i < r → ¬ x < ps[i]) → (∀ i (hi : i < ps.length), r ≤ i → x < ps[i]) → ps.take r ++ x :: ps.drop r = insN x ps
  | [], r, h, _, _ => by simp [insN]
  | p :: ps, 0, h, _, h2 => by
    have := h2 0 (by simp) (Nat.le_refl _)
    simp only [List.getElem_cons_zero] at this
    simp only [insN, List.take_zero, List.drop_zero, List.nil_append]
    rw [if_pos this]
  | p :: ps, r + 1, h, h1, h2 => by
    have := h1 0 (by simp) (by omega)
    simp only [List.getElem_cons_zero] at this
    simp only [insN, List.take_succ_cons, List.drop_succ_cons, List.cons_append]
    rw [if_neg this, insN_eq (by simpa using h) (fun i hi hr => by have q := h1 (i + 1) (Nat.succ_lt_succ hi) (by omega); rw [List.getElem_cons_succ] at q; exact q) (fun i hi hr => by have q := h2 (i + 1) (Nat.succ_lt_succ hi) (by omega); rw [List.getElem_cons_succ] at q; exact q)]
theorem insN_len (x : Nat) (ps : List Nat) : (insN x ps).length = ps.length + 1 := by
  induction ps with
  | nil => rfl
  | cons p r ih => simp only [insN]; split <;> simp [ih]
theorem mem_insN {x q : Nat} : ∀ {ps : List Nat}, q ∈ insN x ps → q = x ∨ q ∈ ps
  | [], h => by simp [insN] at h; exact .inl h
  | p :: r, h => by
    simp only [insN] at h
    split at h
    · rcases List.mem_cons.mp h with e | h
      · exact .inl e
      · exact .inr h
    · rcases List.mem_cons.mp h with e | h
      · exact .inr (e ▸ .head _)
      · exact (mem_insN h).imp id fun h => .tail _ h
theorem insN_srt {x : Nat} : ∀ {ps : List Nat}, ps.Pairwise (· ≤ ·) → (insN x ps).Pairwise (· ≤ ·)
  | [], _ => by simp [insN]
  | p :: r, h => by
    obtain ⟨h1, h2⟩ := List.pairwise_cons.mp h
    simp only [insN]
    split
    · refine List.pairwise_cons.mpr ⟨fun q hq => ?_, h⟩
      rcases List.mem_cons.mp hq with rfl | hq
      · omega
      · have := h1 q hq
        omega
    · refine List.pairwise_cons.mpr ⟨fun q hq => ?_, insN_srt h2⟩
      rcases mem_insN hq with rfl | hq
      · omega
      · exact h1 q hq
theorem turnL_len (st : List Int) : ∀ (xs : List Nat) (ps : List Int) (acc : List Nat), xs.length = ps.length → (turnL st xs ps acc).length = acc.length + xs.length
  | [], [], acc, _ => rfl
  | x :: xs, p :: ps, acc, h => by
    rw [turnL, turnL_len st xs ps _ (by simpa using h), insN_len, List.length_cons]; omega
/-- a line is less than another as it has fewer blanks -/
theorem ln_lt : ∀ (a b : Nat), ((ln a).cps.toList < (ln b).cps.toList) ↔ a < b
  | 0, 0 => by rw [ln_list]; simp
  | 0, b + 1 => by rw [ln_list, ln_list, List.replicate_succ]; simp [List.cons_lt_cons_iff]
  | a + 1, 0 => by rw [ln_list, ln_list, List.replicate_succ]; simp [List.cons_lt_cons_iff]
  | a + 1, b + 1 => by
    have ih := ln_lt a b
    rw [ln_list, ln_list] at ih ⊢
    rw [List.replicate_succ, List.replicate_succ, List.cons_append, List.cons_append, List.cons_lt_cons_iff]
    simp [ih]
theorem ln_inj {a b : Nat} (h : ln a = ln b) : a = b := by
  have := congrArg Str.length h
  rw [ln_length, ln_length] at this; omega
section
variable {prog : Program} {w : World} {mean : ExcName → Option Value} {mg mb : Str → Option Value} {A : Around} {s : Shared} {Q E : Value → Shared → Prop}
variable {prog : Program}
theorem reads_strs {h : Heap} : ∀ {vs : List Value} {xs : List Str}, Are isStr vs xs → ReadsAll h vs (xs.map .str) []
  | [], [], _ => .nil
  | v :: vs, x :: xs, a => by
    obtain ⟨v', e, t, rfl⟩ := a.2 0 x rfl
    simp only [List.getElem?_cons_zero, Option.some.injEq] at e
    subst e
    have r : Are isStr vs xs := ⟨by simpa using a.1, fun i y hy => by simpa using a.2 (i + 1) y (by simpa using hy)⟩
    exact ReadsAll.cons (as := []) (.str x t) (reads_strs r)
  | [], _ :: _, a => by cases a.1
  | _ :: _, [], a => by cases a.1
theorem eqv_strs : ∀ (xs ys : List Str), PyData.eqvAll (xs.map .str) (ys.map .str) = (xs == ys)
  | [], [] => rfl
  | x :: xs, y :: ys => by
    simp only [List.map_cons, PyData.eqvAll, PyData.eqv, eqv_strs xs ys]; rfl
  | [], _ :: _ => rfl
  | _ :: _, [] => rfl
theorem lay_strs : ∀ {xs : List Str}, (∀ x ∈ xs, PyData.strOk x = true) → PyData.canLayAll0 (xs.map .str) = true ∧ PyData.depthAll (xs.map .str) = 0
  | [], _ => ⟨rfl, rfl⟩
  | x :: xs, h => by
    obtain ⟨h1, h2⟩ := lay_strs (xs := xs) fun y hy => h y (.tail _ hy)
    simp only [List.map_cons, PyData.canLayAll0, PyData.canLay0, PyData.depthAll, PyData.depth, h1, h2, h x (.head _)]
    exact ⟨rfl, rfl⟩
theorem shaped_strs {xs : List Str} (h : ∀ x ∈ xs, PyData.strOk x = true) : PySem.SeqAt.shaped (.list (xs.map .str)) = true := by
  obtain ⟨h1, h2⟩ := lay_strs h
  unfold PySem.SeqAt.shaped
  rw [PyData.canLay0, PyData.depth, h1, h2]; rfl
theorem ne_strs {a b : Addr} {va vb : List Value} {xs ys : List Str} (ha : s.heap.IsList a va.toArray) (hx : Are isStr va xs) (hb : s.heap.IsList b vb.toArray) (hy : Are isStr vb ys) (h1 : ∀ x ∈ xs, PyData.strOk x = true) (h2 : ∀ x ∈ ys, PyData.strOk x = true)
    (hu : A.units + 64 < cLine) (h : Q (.bool (!(xs == ys))) s) : wpAny (model prog w) A (compareOp .NotEq (.ref a) (.ref b)) Q E s := by
  obtain ⟨o, ho, hc, n, hd⟩ := ha
  obtain ⟨o2, ho2, hc2, n2, hd2⟩ := hb
  refine ne_dataH (.list ho hc hd (reads_strs hx)) (.list ho2 hc2 hd2 (reads_strs hy)) (shaped_strs h1) (shaped_strs h2) hu ?_
  rw [PyData.eqv, eqv_strs]
  exact h
end
end Mine

-- part Lines


namespace Mine
abbrev heapOf {h₀ h : Heap} {L : Addr} {m : Str → Option Value} (_ : Fr h₀ L h m) : Heap := h
theorem strOk_ln (k : Nat) : PyData.strOk (ln k) = true := by
  unfold PyData.strOk
  rw [Array.all_eq_true']
  intro x hx
  have : x ∈ (ln k).cps.toList := Array.mem_toList_iff.mpr hx
  rw [ln_list] at this
  rcases List.mem_append.mp this with h | h
  · rw [List.eq_of_mem_replicate h]; decide
  · rw [List.mem_singleton.mp h]; decide
theorem strOk_lns (xs : List Nat) : ∀ x ∈ xs.map ln, PyData.strOk x = true := fun x hx => by
  obtain ⟨k, -, rfl⟩ := List.mem_map.mp hx
  exact strOk_ln k
theorem lns_beq (xs ys : List Nat) : ((xs.map ln) == (ys.map ln)) = decide (xs = ys) := by
  by_cases h : xs = ys
  · subst h; simp
  · rw [decide_eq_false h]
    rw [beq_eq_false_iff_ne]
    intro e
    apply h
    have inj : ∀ (xs ys : List Nat), xs.map ln = ys.map ln → xs = ys := by
      intro xs
      induction xs with
      | nil => intro ys e; cases ys with
        | nil => rfl
        | cons => cases e
      | cons x xs ih => intro ys e; cases ys with
        | nil => cases e
        | cons y ys =>
          simp only [List.map_cons, List.cons.injEq] at e
          rw [ln_inj e.1, ih ys e.2]
    exact inj _ _ e
def LinesJ (st row : List Int) (out : List Nat) (n : Nat) (xs ys : List Nat) : Prop :=
  n ≤ 30 ∧ xs.length = 6 ∧ (∀ x ∈ xs, x + 20 * n ≤ 600) ∧ ((xs ≠ ys ∧ fixL st row n xs = some out) ∨ (xs = ys ∧ out = ys))
theorem ln_monoR {ls : List Nat} (hsrt : ls.Pairwise (· ≤ ·)) (a : Nat) : ∀ i j (hi : i < (ls.map ln).length) (hj : j < (ls.map ln).length), i ≤ j → (ln a).cps.toList < (ls.map ln)[i].cps.toList → (ln a).cps.toList < (ls.map ln)[j].cps.toList := by
  intro i j hi hj hij h
  rw [List.getElem_map, ln_lt] at h ⊢
  rcases Nat.lt_or_ge i j with e | e
  · exact Nat.lt_of_lt_of_le h (List.pairwise_iff_getElem.mp hsrt i j (by simpa using hi) (by simpa using hj) e)
  · cases Nat.le_antisymm hij e
    exact h
theorem neg_ok {sp : Int} (h : -20 ≤ sp ∧ sp ≤ 20) (hneg : sp < 0) : (-sp).toNat < 1000 ∧ -sp = ((-sp).toNat : Int) := by omega
theorem k1000 {k f : Nat} (h : k + 20 * (f + 1) ≤ 600) : k < 1000 := Nat.lt_of_le_of_lt (Nat.le_trans (Nat.le_add_right _ _) h) (by decide)
theorem mv_ok {k f : Nat} {sp : Int} (h : -20 ≤ sp ∧ sp ≤ 20) (hk : k + 20 * (f + 1) ≤ 600) : mv k sp + 20 * f ≤ 600 := by
  unfold mv
  split <;> omega
/-- the lines, turn by turn -/
inductive LinW (s : Shared) (L' : Addr) (st row : List Int) (out : List Nat) (Bd : Addr → Addr → List (Str × Value)) : Nat → Shared → Prop
  | mk (n : Nat) (h' : Heap) (tk : Nat) (m₀ : Str → Option Value) (A B : Addr) (va vb : Array Value) (na nb : Nat) (xs ys : List Nat) (hAB : A ≠ B) (hJ : LinesJ st row out n xs ys) (hB : Are isStr vb.toList (xs.map ln)) (hA : Are isStr va.toList (ys.map ln))
      (N : News s.heap L' h' [(B, PySem.W.listOf vb nb), (A, PySem.W.listOf va na)]) (F : Fr s.heap L' h' (over (Bd A B) m₀)) : LinW s L' st row out Bd n { s with heap := h', toks := tk }
inductive LinT (gs : Array GenState) (st row : List Int) (xs : List Nat) (f : Nat) (Z B : Addr) (vb : Array Value) (nb : Nat) (Bd : List (Str × Value)) : Nat → Array GenState → (Str → Option Value) → List (Addr × Obj) → Prop
  | mk (vz : Array Value) (nz : Nat) (zs : List Nat) (m₀ : Str → Option Value) (i : Nat) (haz : Are isStr vz.toList (zs.map ln)) (hsrt : zs.Pairwise (· ≤ ·)) (hzl : zs.length = i) (hzb : ∀ z ∈ zs, z + 20 * f ≤ 600) (hturn : turnL st xs row [] = turnL st (xs.drop i) (row.drop i) zs) :
      LinT gs st row xs f Z B vb nb Bd i gs (over Bd m₀) [(Z, PySem.W.listOf vz nz), (B, PySem.W.listOf vb nb)]
section
variable {prog : Program} {w : World} {mean : ExcName → Option Value} {mg mb : Str → Option Value} {A : Around} {s : Shared} {Q E : Value → Shared → Prop}
local macro_rules | `(tactic| walk_at "exec While Compare cons nil") => `(tactic| (refine halt_of ?_))
local macro_rules | `(tactic| walk_at "exec While BoolOp cons nil") => `(tactic| (refine halt_of ?_))
local macro_rules | `(tactic| walk_at "exec For Name Name cons nil") => `(tactic| (refine halt_of ?_))
local macro_rules | `(tactic| walk_at "exec For Tuple Call cons nil") => `(tactic| (refine halt_of ?_))
local macro_rules | `(tactic| walk_at "call type:zip") => `(tactic| (refine halt_of ?_))
local macro_rules | `(tactic| walk_at "subscriptTail Name Name ref int") => `(tactic| (refine halt_of ?_))
local macro_rules | `(tactic| walk_at "compareOp NotEq ref ref") => `(tactic| (refine halt_of ?_))
theorem strip_call' (C : Cx w mean mg mb A s.heap) (hd : A.depth + 5 < recursionLimit) (hu : A.units + 90 < cLine) {k a : Nat} {x : Int} {t u : Tok} (hk : k < 1000) (ha : a < 1000) (hx : x = a)
    (hQ : ∀ h' tk r, Ext s.heap h' → Q (.str (ln (k - a)) r) { s with heap := h', toks := tk }) :
    wpAny (model prog w) A (call (.ref 85) [.str (ln k) t, .int x u]) Q E s := by
  subst hx
  exact strip_call C hd hu hk ha hQ
theorem mul_ln (n : Int) (k : Nat) : Txt.mul (Str.ofString " ") n ++ ln k = ln (n.toNat + k) := by
  have e1 : Str.ofString " " = ⟨#[32]⟩ := by decide
  have e2 : (Txt.mul (Str.ofString " ") n ++ ln k).cps.toList = (ln (n.toNat + k)).cps.toList := by
    rw [e1]
    show ((Txt.mul ⟨#[32]⟩ n).cps ++ (ln k).cps).toList = _
    rw [Array.toList_append, mul_one_list, ln_list, ln_list, List.replicate_append_replicate.symm, List.append_assoc]
  have e3 := congrArg List.toArray e2
  simp only [Array.toArray_toList] at e3
  cases h1 : Txt.mul (Str.ofString " ") n ++ ln k with
  | mk a => cases h2 : ln (n.toNat + k) with
    | mk b => rw [h1, h2] at e3; exact congrArg _ e3
theorem mul_len {n : Int} {k f : Nat} (hn : -20 ≤ n ∧ n ≤ 20) (hk : k + 20 * (f + 1) ≤ 600) : (Txt.mul (Str.ofString " ") n).length + (ln k).length ≤ 2000 := by
  have e1 : Str.ofString " " = ⟨#[32]⟩ := by decide
  have e : (Txt.mul (Str.ofString " ") n).length = n.toNat := by
    show (Txt.mul (Str.ofString " ") n).cps.size = _
    rw [← Array.length_toList, e1, mul_one_list, List.length_replicate]
  rw [e, ln_length]; omega
theorem lines_call (C : Cx w mean mg mb A s.heap) (hd : A.depth + 65 < recursionLimit) (hu : A.units + 490 < cLine) {l r : Addr} {ss : List Value} {st : List Int} {p0 p1 p2 p3 p4 p5 : Int} {t0 t1 t2 t3 t4 t5 : Tok} {row : List Int} {out : List Nat}
    (hl : s.heap.IsList l ss.toArray) (hs : Are isInt ss st) (hr : s.heap.IsList r [.int p0 t0, .int p1 t1, .int p2 t2, .int p3 t3, .int p4 t4, .int p5 t5].toArray) (hrow : row = [p0, p1, p2, p3, p4, p5]) (hst : st.length ≤ 100)
    (hp : ∀ p ∈ row, 0 ≤ p ∧ p.toNat < st.length) (hb : ∀ x ∈ st, -20 ≤ x ∧ x ≤ 20) (hfix : fixL st row 30 [0, 0, 0, 0, 0, 0] = some out)
    (hQ : ∀ h' tk D vs' n, Ext s.heap h' → s.heap.get? D = none → h'.get? D = some (PySem.W.listOf vs' n) → Are isStr vs'.toList (out.map ln) → Q (.ref D) { s with heap := h', toks := tk }) :
    wpAny (model prog w) A (call (.ref 158) [.ref r, .ref l]) Q E s := by
  obtain ⟨B, F, X, T, hkk⟩ := C
  refine wpAny_call ?_
  (refine' enterP ?k1 ?k2 ?k3 ?k5 ?kA ?kF ?kK ?k6 ?k7 ?k8 ?k9 ?kB ?_ ?c2 ?c3 ?c4 ?c5; (case kA => exact rfl); (case kF => exact rfl); (case kK => assumption); (case k1 => assumption); (case k2 => assumption); (case k3 => assumption); (case k5 => assumption); (case k6 => k_is); (case k7 => k_is); (case k8 => ktr_room); (case k9 => first | exact BindsTo.of_eq rfl | (refine' kp_binds ?kx ?ke; (case kx => k_in); (case ke => exact fun _ => rfl)) | exact binds_K (by k_in) rfl (by k_is) rfl rfl rfl); (case c5 => decide); (case kB => exact locs rfl); (case c2 => exact rfl); (case c3 => exact rfl); (case c4 => exact rfl); k_whole; intro L' h' F' N' B' X' T'; (try dsimp only); (try k_fold))
  have hr' := F'.lst hr
  k_steps
  unfold Halt
  (with_reducible rename Fr _ _ _ _ => F')
  (with_reducible rename News _ _ _ _ => N'); (try k_sweep)
  obtain ⟨D, hD⟩ := nm1 N'
  subst hD
  obtain ⟨D2, hD⟩ := nm2 N'
  subst hD
  have e0 : Str.ofString "\n" = ln 0 := by decide
  rw [e0] at N'
  have hne0 : D ≠ D2 := fun e => by
    have q1 := (N' _ (.head _)).1
    have q2 := (N' _ (.tail _ (.head _))).1
    rw [e] at q1
    rw [q1] at q2
    have q := congrArg Obj.data (Option.some.inj q2)
    injection q with q
    have q := congrArg Array.size q
    cases q
  refine whileS (LinW s L' st row out (fun A B => [("lines", .ref A), ("moved", .ref B), ("steps", .ref l), ("row", .ref r)])) (n₀ := 30) ?_ ?_
  · refine .mk _ _ _ _ D2 D #[] _ _ _ [0, 0, 0, 0, 0, 0] [] (Ne.symm hne0) ⟨Nat.le_refl _, rfl, fun x hx => by simp at hx; rw [hx]; exact Nat.le_of_ble_eq_true rfl, .inl ⟨by simp, hfix⟩⟩ ?_ Are.nil N' (Fr.over F' _ ⟨rfl, rfl, rfl, rfl, trivial⟩)
    exact Are.cons ⟨_, rfl⟩ (Are.cons ⟨_, rfl⟩ (Are.cons ⟨_, rfl⟩ (Are.cons ⟨_, rfl⟩ (Are.cons ⟨_, rfl⟩ (Are.cons ⟨_, rfl⟩ Are.nil)))))
  · rintro n s' ⟨h', tk, m₀, A, B, va, vb, na, nb, xs, ys, hAB, hJ, hB, hA, N', F'⟩
    (try dsimp only at F')
    k_steps
    unfold Halt
    (with_reducible rename Fr _ _ _ _ => F')
    (with_reducible rename News _ _ _ _ => N'); (try k_sweep)
    refine ne_strs (N'.isList (.head _)) hB (N'.isList (.tail _ (.head _))) hA (strOk_lns _) (strOk_lns _) (by ktr_units) ?_
    rw [lns_beq]
    obtain ⟨hn, hlen, hbd, hJ⟩ := hJ
    by_cases hxy : xs = ys
    · rcases hJ with ⟨h, -⟩ | ⟨-, hout⟩
      · exact absurd hxy h
      subst hout hxy
      rw [decide_eq_true rfl]
      k_steps
      (with_reducible rename Fr _ _ _ _ => F')
      (with_reducible rename News _ _ _ _ => N'); (try k_sweep)
      exact hQ _ _ _ _ _ F'.keep (N'.fresh (.tail _ (.head _))) (N'.get (.tail _ (.head _))) hA
    · rcases hJ with ⟨-, hf⟩ | ⟨h, -⟩
      rotate_left
      · exact absurd h hxy
      rw [decide_eq_false hxy]
      k_steps
      unfold Halt
      (with_reducible rename Fr _ _ _ _ => F')
      (with_reducible rename News _ _ _ _ => N'); (try k_sweep)
      obtain ⟨Z, hZ⟩ := nm1 N'
      subst hZ
      have hbl := hB.len
      rw [List.length_map, hlen] at hbl
      have hbs : vb.size = 6 := by simpa using hbl
      have nZ := N' _ (.head _)
      have nB := N' _ (.tail _ (.head _))
      have hZB : Z ≠ B := fun e => by
        have q1 := nZ.1
        have q2 := nB.1
        rw [e] at q1
        rw [q1] at q2
        have q := congrArg Obj.data (Option.some.inj q2)
        injection q with q
        have q := congrArg Array.size q
        rw [hbs] at q
        cases q
      have hr2 := F'.lst hr
      have hZr : Z ≠ r := fun e => by
        obtain ⟨o, ho, _⟩ := hr
        have q := nZ.2.2
        rw [e, ho] at q
        cases q
      obtain ⟨f, rfl⟩ : ∃ f, n = f + 1 := by
        cases n with
        | zero => exact absurd hf (by simp [fixL])
        | succ f => exact ⟨f, rfl⟩
      have hBl : (heapOf F').IsList B vb := N'.isList (.tail _ (.head _))
      have ltB : @LT.lt Nat _ B (heapOf F').objs.size := Heap.lt_size nB.1
      have ltZ : @LT.lt Nat _ Z (heapOf F').objs.size := Heap.lt_size nZ.1
      have ltr : @LT.lt Nat _ r (heapOf F').objs.size := by obtain ⟨o, ho, _⟩ := hr2; exact Heap.lt_size ho
      have ltr0 : @LT.lt Nat _ r s.heap.objs.size := by obtain ⟨o, ho, _⟩ := hr; exact Heap.lt_size ho
      have ltL : @LT.lt Nat _ L' (heapOf F').objs.size := F'.ns.lt
      have leL : @LE.le Nat _ s.heap.objs.size L' := F'.above
      have hZfp : Z ∉ [(heapOf F').objs.size + 4, (heapOf F').objs.size + 2, (heapOf F').objs.size + 3, (heapOf F').objs.size, (heapOf F').objs.size + 1, B, r] := by
        intro hm
        rcases List.mem_cons.mp hm with e | hm
        · exact absurd (show @Eq Nat Z _ from e) (by omega)
        rcases List.mem_cons.mp hm with e | hm
        · exact absurd (show @Eq Nat Z _ from e) (by omega)
        rcases List.mem_cons.mp hm with e | hm
        · exact absurd (show @Eq Nat Z _ from e) (by omega)
        rcases List.mem_cons.mp hm with e | hm
        · exact absurd (show @Eq Nat Z _ from e) (by omega)
        rcases List.mem_cons.mp hm with e | hm
        · exact absurd (show @Eq Nat Z _ from e) (by omega)
        rcases List.mem_cons.mp hm with e | hm
        · exact hZB e
        exact hZr (List.mem_singleton.mp hm)
      refine forT (h₀ := s.heap) (LinT s.gens st row xs f Z B vb nb [("moved", .ref Z), ("steps", .ref l), ("row", .ref r), ("lines", .ref B)]) (fun i v0 v1 => vb[i]? = some v0 ∧ [Value.int p0 t0, .int p1 t1, .int p2 t2, .int p3 t3, .int p4 t4, .int p5 t5].toArray[i]? = some v1) 6 rfl rfl rfl rfl
        [(heapOf F').objs.size + 4, (heapOf F').objs.size + 2, (heapOf F').objs.size + 3, (heapOf F').objs.size, (heapOf F').objs.size + 1, B, r] [(heapOf F').objs.size + 4, (heapOf F').objs.size + 3, (heapOf F').objs.size, (heapOf F').objs.size + 1] ?_ ?_ ?_
      · k_steps
        unfold Halt
        refine call_zip_2 hBl hr2 fun h₂ z1 z2 z3 z4 z5 hsz hk => ?_
        have ZA := zipApart_new ltB ltr
        have W := fun (A : Around) (hA : A.handled = none) => WalksT.zip2 (prog := prog) (w := w) (A := A) hA _ _ _ _ _ _ _ ZA vb [Value.int p0 t0, .int p1 t1, .int p2 t2, .int p3 t3, .int p4 t4, .int p5 t5].toArray
        have evs : min vb.size [Value.int p0 t0, .int p1 t1, .int p2 t2, .int p3 t3, .int p4 t4, .int p5 t5].toArray.size = 6 := by rw [hbs]; rfl
        have W' := W
        rw [evs] at W'
        have stt := And.intro z1 (And.intro z2 (And.intro (⟨_, _, z3⟩ : ∃ a b, IsPair h₂ _ a b) (And.intro z4 (And.intro z5 (And.intro (Heap.IsList.at hBl (fun o e => hk _ o e)) (Heap.IsList.at hr2 (fun o e => hk _ o e)))))))
        refine (W _ rfl).self 0 _ _ _ stt ?_
        refine ⟨_, _, _, _, h₂, _, _, _, [(Z, PySem.W.listOf #[] 0), (B, PySem.W.listOf vb nb)], rfl, rfl, W' _ rfl, ?_, stt, ?_, ?_, ?_, (Fr.over F' [("moved", .ref Z), ("steps", .ref l), ("row", .ref r), ("lines", .ref B)] ⟨rfl, rfl, rfl, rfl, trivial⟩).keeps hk, ?_, .mk _ _ [] _ 0 Are.nil List.Pairwise.nil rfl (fun _ h => nomatch h) rfl⟩
        · rintro i vals ⟨x, y, hx, hy, rfl⟩
          exact ⟨x, y, rfl, hx, hy⟩
        · intro hm
          rcases List.mem_cons.mp hm with e | hm
          · exact absurd (show @Eq Nat L' _ from e) (by omega)
          rcases List.mem_cons.mp hm with e | hm
          · exact absurd (show @Eq Nat L' _ from e) (by omega)
          rcases List.mem_cons.mp hm with e | hm
          · exact absurd (show @Eq Nat L' _ from e) (by omega)
          rcases List.mem_cons.mp hm with e | hm
          · exact absurd (show @Eq Nat L' _ from e) (by omega)
          rcases List.mem_cons.mp hm with e | hm
          · exact absurd (show @Eq Nat L' _ from e) (by omega)
          rcases List.mem_cons.mp hm with e | hm
          · exact nB.2.1 e.symm
          have e := List.mem_singleton.mp hm
          exact absurd (show @Eq Nat L' _ from e) (by omega)
        · intro b hm
          refine Heap.get?_none_of_le ?_
          rcases List.mem_cons.mp hm with e | hm
          · rw [e]; show @LE.le Nat _ _ _; omega
          rcases List.mem_cons.mp hm with e | hm
          · rw [e]; show @LE.le Nat _ _ _; omega
          rcases List.mem_cons.mp hm with e | hm
          · rw [e]; show @LE.le Nat _ _ _; omega
          have e := List.mem_singleton.mp hm
          rw [e]; show @LE.le Nat _ _ _; omega
        · intro p hp hm
          rcases List.mem_cons.mp hp with rfl | hp
          · rcases List.mem_cons.mp hm with e | hm
            · exact absurd (show @Eq Nat Z _ from e) (by omega)
            rcases List.mem_cons.mp hm with e | hm
            · exact absurd (show @Eq Nat Z _ from e) (by omega)
            rcases List.mem_cons.mp hm with e | hm
            · exact absurd (show @Eq Nat Z _ from e) (by omega)
            exact absurd (show @Eq Nat Z _ from List.mem_singleton.mp hm) (by omega)
          · have hp := List.mem_singleton.mp hp
            subst hp
            rcases List.mem_cons.mp hm with e | hm
            · exact absurd (show @Eq Nat B _ from e) (by omega)
            rcases List.mem_cons.mp hm with e | hm
            · exact absurd (show @Eq Nat B _ from e) (by omega)
            rcases List.mem_cons.mp hm with e | hm
            · exact absurd (show @Eq Nat B _ from e) (by omega)
            exact absurd (show @Eq Nat B _ from List.mem_singleton.mp hm) (by omega)
        · intro p hp
          refine N'.grown hk p ?_
          rcases List.mem_cons.mp hp with rfl | hp
          · exact .head _
          · rw [List.mem_singleton.mp hp]; exact .tail _ (.head _)
      · rintro i v0 v1 m₁ news₁ own h tk g hi ⟨hv0, hv1⟩ ⟨vz, nz, zs, m₀, _, haz, hsrt, hzl, hzb, hturn⟩ hown hnw F' N'
        obtain ⟨x, hx, tx, rfl⟩ := hB.of (by simpa using hv0)
        rw [List.getElem?_map] at hx
        obtain ⟨k, hk, rfl⟩ := Option.map_eq_some_iff.mp hx
        obtain ⟨p, hp', tp, rfl⟩ : ∃ p, row[i]? = some p ∧ ∃ tp, v1 = .int p tp := by
          rw [hrow]
          rcases i with _ | _ | _ | _ | _ | _ | i
          · exact ⟨_, rfl, _, (Option.some.inj hv1).symm⟩
          · exact ⟨_, rfl, _, (Option.some.inj hv1).symm⟩
          · exact ⟨_, rfl, _, (Option.some.inj hv1).symm⟩
          · exact ⟨_, rfl, _, (Option.some.inj hv1).symm⟩
          · exact ⟨_, rfl, _, (Option.some.inj hv1).symm⟩
          · exact ⟨_, rfl, _, (Option.some.inj hv1).symm⟩
          · omega
        have hpm : p ∈ row := List.mem_of_getElem? hp'
        have hpp := hp p hpm
        have hkm : k ∈ xs := List.mem_of_getElem? hk
        have hkb := hbd k hkm
        have hsv : ∃ tt, ss[p.toNat]? = some (.int (st.getD p.toNat 0) tt) := by
          obtain ⟨v, hv, tt, rfl⟩ := hs.get hpp.2
          refine ⟨tt, ?_⟩
          rw [hv, List.getD_eq_getElem?_getD, List.getElem?_eq_getElem hpp.2]; rfl
        obtain ⟨tt, hsv⟩ := hsv
        have hsb : -20 ≤ st.getD p.toNat 0 ∧ st.getD p.toNat 0 ≤ 20 := by
          rw [List.getD_eq_getElem?_getD, List.getElem?_eq_getElem hpp.2]
          exact hb _ (List.getElem_mem _)
        have hgo : ∀ zs, turnL st (xs.drop i) (row.drop i) zs = turnL st (xs.drop (i + 1)) (row.drop (i + 1)) (insN (mv k (st.getD p.toNat 0)) zs) := by
          intro zs
          have h1 := (List.getElem?_eq_some_iff.1 hk)
          have h2 := (List.getElem?_eq_some_iff.1 hp')
          rw [List.drop_eq_getElem_cons h1.1, List.drop_eq_getElem_cons h2.1, turnL, h1.2, h2.2]
        generalize hsd : st.getD p.toNat 0 = sp at hsv hsb hgo
        have hmv : mv k sp + 20 * f ≤ 600 := mv_ok hsb hkb
        have hz20 : (zs.map ln).length < 2 ^ 20 := by rw [List.length_map, hzl]; exact Nat.lt_trans hi (by decide)
        replace N' : News s.heap L' h ((Z, PySem.W.listOf vz nz) :: (B, PySem.W.listOf vb nb) :: own) := N'
        k_steps
        unfold Halt
        (with_reducible rename Fr _ _ _ _ => F')
        refine itemList (F'.lst hl) hpp.1 (place62 hpp hst) hsv ?_
        k_steps
        · unfold Halt
          (with_reducible rename Fr _ _ _ _ => F')
          (with_reducible rename News _ _ _ _ => N'); (try k_sweep)
          refine itemList (F'.lst hl) hpp.1 (place62 hpp hst) hsv ?_
          k_steps
          (with_reducible rename Fr _ _ _ _ => F')
          (with_reducible rename News _ _ _ _ => N'); (try k_sweep)
          have hneg : sp < 0 := by assumption
          have hq : k - (-sp).toNat = mv k sp := by unfold mv; rw [if_pos hneg]
          refine strip_call' (Cx.mk B' F' X' T' rfl) (by ktr_room) (by ktr_units) (a := (-sp).toNat) (k1000 hkb) (neg_ok hsb hneg).1 (neg_ok hsb hneg).2 fun h' tk' rt K' => ?_
          rw [hq]
          replace F' := F'.keeps K'
          replace N' := N'.grown K'
          k_steps
          (with_reducible rename Fr _ _ _ _ => F')
          (with_reducible rename News _ _ _ _ => N'); (try k_sweep)
          have nZ' := N' _ (.head _)
          have hZown : ∀ q ∈ (B, PySem.W.listOf vb nb) :: own, q.1 ≠ Z := fun q hq e => by
            rcases List.mem_cons.mp hq with e2 | hq
            · rw [e2] at e; exact hZB e.symm
            · exact hZfp (e ▸ hown q hq)
          have NO : News s.heap L' _ ((B, PySem.W.listOf vb nb) :: own) := fun q hq => N' q (.tail _ hq)
          refine insR (Cx.mk B' F' X' T' rfl) (by ktr_room) (by ktr_units) (vs := vz.toList) (xs := zs.map ln) ⟨nz, nZ'.1⟩ haz hz20 (ln_monoR hsrt _) fun h' tk' r' hk2 hl' hr' q1 q2 => ?_
          obtain ⟨n', hl'⟩ := hl'
          replace F' := frBut F' nZ'.2.1 nZ'.2.2 hk2
          have N2 : News s.heap L' h' ((Z, PySem.W.listOf (vz.toList.take r' ++ .str (ln (mv k sp)) rt :: vz.toList.drop r').toArray n') :: (B, PySem.W.listOf vb nb) :: own) := fun q hq => by
            rcases List.mem_cons.mp hq with rfl | hq
            · exact ⟨hl', nZ'.2⟩
            · exact newsBut NO hZown hk2 _ hq
          clear N'
          have N' := N2
          k_steps
          (with_reducible rename Fr _ _ _ _ => F')
          have heq := insN_eq (x := mv k sp) (ps := zs) (r := r') (by simpa using hr') (fun i hi h => by have q := q1 i (by simpa using hi) h; rw [List.getElem_map, ln_lt] at q; exact q) (fun i hi h => by have q := q2 i (by simpa using hi) h; rw [List.getElem_map, ln_lt] at q; exact q)
          have hA2 := haz.ins (v := .str (ln (mv k sp)) rt) (a := ln (mv k sp)) ⟨_, rfl⟩ r'
          rw [← List.map_take, ← List.map_drop, ← List.map_cons, ← List.map_append, heq] at hA2
          refine TurnEndT.intro (news₂ := [(Z, _), (B, PySem.W.listOf vb nb)]) (Fr.over F' [("moved", .ref Z), ("steps", .ref l), ("row", .ref r), ("lines", .ref B)] ⟨rfl, rfl, rfl, rfl, trivial⟩) N2 ?_ (.mk _ _ _ _ _ hA2 (insN_srt hsrt) (by rw [insN_len, hzl]) ?_ ?_)
          · intro q hq
            rcases List.mem_cons.mp hq with rfl | hq
            · exact hnw (Z, PySem.W.listOf vz nz) (.head _)
            · rw [List.mem_singleton.mp hq]
              exact hnw (B, PySem.W.listOf vb nb) (.tail _ (.head _))
          · intro z hz
            rcases mem_insN hz with rfl | hz
            · exact hmv
            · exact hzb z hz
          · rw [hturn, hgo]
        · unfold Halt
          (with_reducible rename Fr _ _ _ _ => F')
          (with_reducible rename News _ _ _ _ => N'); (try k_sweep)
          refine itemList (F'.lst hl) hpp.1 (place62 hpp hst) hsv ?_
          k_steps
          (with_reducible rename Fr _ _ _ _ => F')
          (with_reducible rename News _ _ _ _ => N'); (try k_sweep)
          have hneg : ¬ sp < 0 := by first | assumption | omega
          have hq : Txt.mul (Str.ofString " ") sp ++ ln k = ln (mv k sp) := by unfold mv; rw [if_neg hneg]; exact mul_ln _ _
          refine concat_str (Cx.mk B' F' X' T' rfl) (by ktr_room) (by ktr_units) (mul_len hsb hkb) fun h' tk' rt K' => ?_
          rw [hq]
          replace F' := F'.keeps K'
          replace N' := N'.grown K'
          k_steps
          (with_reducible rename Fr _ _ _ _ => F')
          (with_reducible rename News _ _ _ _ => N'); (try k_sweep)
          have nZ' := N' _ (.head _)
          have hZown : ∀ q ∈ (B, PySem.W.listOf vb nb) :: own, q.1 ≠ Z := fun q hq e => by
            rcases List.mem_cons.mp hq with e2 | hq
            · rw [e2] at e; exact hZB e.symm
            · exact hZfp (e ▸ hown q hq)
          have NO : News s.heap L' _ ((B, PySem.W.listOf vb nb) :: own) := fun q hq => N' q (.tail _ hq)
          refine insR (Cx.mk B' F' X' T' rfl) (by ktr_room) (by ktr_units) (vs := vz.toList) (xs := zs.map ln) ⟨nz, nZ'.1⟩ haz hz20 (ln_monoR hsrt _) fun h' tk' r' hk2 hl' hr' q1 q2 => ?_
          obtain ⟨n', hl'⟩ := hl'
          replace F' := frBut F' nZ'.2.1 nZ'.2.2 hk2
          have N2 : News s.heap L' h' ((Z, PySem.W.listOf (vz.toList.take r' ++ .str (ln (mv k sp)) rt :: vz.toList.drop r').toArray n') :: (B, PySem.W.listOf vb nb) :: own) := fun q hq => by
            rcases List.mem_cons.mp hq with rfl | hq
            · exact ⟨hl', nZ'.2⟩
            · exact newsBut NO hZown hk2 _ hq
          clear N'
          have N' := N2
          k_steps
          (with_reducible rename Fr _ _ _ _ => F')
          have heq := insN_eq (x := mv k sp) (ps := zs) (r := r') (by simpa using hr') (fun i hi h => by have q := q1 i (by simpa using hi) h; rw [List.getElem_map, ln_lt] at q; exact q) (fun i hi h => by have q := q2 i (by simpa using hi) h; rw [List.getElem_map, ln_lt] at q; exact q)
          have hA2 := haz.ins (v := .str (ln (mv k sp)) rt) (a := ln (mv k sp)) ⟨_, rfl⟩ r'
          rw [← List.map_take, ← List.map_drop, ← List.map_cons, ← List.map_append, heq] at hA2
          refine TurnEndT.intro (news₂ := [(Z, _), (B, PySem.W.listOf vb nb)]) (Fr.over F' [("moved", .ref Z), ("steps", .ref l), ("row", .ref r), ("lines", .ref B)] ⟨rfl, rfl, rfl, rfl, trivial⟩) N2 ?_ (.mk _ _ _ _ _ hA2 (insN_srt hsrt) (by rw [insN_len, hzl]) ?_ ?_)
          · intro q hq
            rcases List.mem_cons.mp hq with rfl | hq
            · exact hnw (Z, PySem.W.listOf vz nz) (.head _)
            · rw [List.mem_singleton.mp hq]
              exact hnw (B, PySem.W.listOf vb nb) (.tail _ (.head _))
          · intro z hz
            rcases mem_insN hz with rfl | hz
            · exact hmv
            · exact hzb z hz
          · rw [hturn, hgo]
      · rintro m₁ news₁ h tk g ⟨vz, nz, zs, m₀, _, haz, hsrt, hzl, hzb, hturn⟩ F' N'
        have hrl : row.length = 6 := by rw [hrow]; rfl
        have ez : turnL st xs row [] = zs := by
          rw [hturn, List.drop_eq_nil_of_le (Nat.le_of_eq hlen), List.drop_eq_nil_of_le (Nat.le_of_eq hrl), turnL]
          intro _ _ _ _ e; cases e
        have hJ2 : LinesJ st row out f zs xs := by
          refine ⟨Nat.le_of_succ_le hn, hzl, hzb, ?_⟩
          rw [fixL, ez] at hf
          by_cases e : zs = xs
          · rw [if_pos e] at hf
            exact .inr ⟨e, (Option.some.inj hf).symm⟩
          · rw [if_neg e] at hf
            exact .inl ⟨e, hf⟩
        refine wpAny_execs_nil ?_
        refine wpAny_execs_nil ?_
        exact ⟨f, Nat.lt_succ_self _, .mk _ _ _ _ B Z vb vz nb nz zs xs (Ne.symm hZB) hJ2 haz hB N' (Fr.over F' _ ⟨rfl, rfl, rfl, rfl, trivial⟩)⟩
end
end Mine

-- part ForNT

namespace Mine
section
variable {prog : Program} {w : World} {mean : ExcName → Option Value} {mg mb : Str → Option Value} {A : Around} {s : Shared} {Q E : Value → Shared → Prop}
variable {prog : Program} {env : Env} {QF : Flow → Shared → Prop} {h₀ : Heap} {m : Str → Option Value} {news : List (Addr × Obj)}
def TurnEndNT (h₀ : Heap) (L : Addr) (s : Shared) (Jn : Nat → Array GenState → (Str → Option Value) → List (Addr × Obj) → Prop) (I : Addr) (o : Obj) (s₃ : Shared) : Prop :=
  ∃ h' tk' g' m₂ news₂, s₃ = { s with heap := h', toks := tk', gens := g' } ∧ Fr h₀ L h' m₂ ∧ News h₀ L h' ((I, o) :: news₂) ∧ (∀ p ∈ news₂, p.1 ≠ I) ∧ Jn tk' g' m₂ news₂
/-- a for over a list of the base heap; J is told of what has been made since -/
theorem forNT {target : PySem.Expr} {nm : Str} {np : Pos} {body : List Stmt} {pos : Pos} {l : Addr} {vs : List Value} (J : Nat → Nat → Array GenState → (Str → Option Value) → List (Addr × Obj) → Prop)
    (F : Fr h₀ env.locals s.heap m) (N : News h₀ env.locals s.heap news) (hl : h₀.IsList l vs.toArray) (hJ : J 0 s.toks s.gens m news) (hh : A.handled = none)
    (he : ∀ (Q : Value → Shared → Prop), Q (.ref l) s → wpAny (model prog w) A (eval (.Name nm np) env) Q E s)
    (turn : ∀ i v m₁ news₁ I o h tk g, vs[i]? = some v → J i tk g m₁ news₁ → Fr h₀ env.locals h m₁ → News h₀ env.locals h ((I, o) :: news₁) → (∀ p ∈ news₁, p.1 ≠ I) → 
      wpAny (model prog w) A (assign target env v) (fun _ s₂ => wpAny (model prog w) A (execs body env) (fun f s₃ => match f with
          | .next | .cont => TurnEndNT h₀ env.locals s (J (i + 1)) I o s₃
          | .brk => QF .next s₃
          | .ret v => QF (.ret v) s₃) (fun _ _ => False) s₂) (fun _ _ => False) { s with heap := h, toks := tk, gens := g })
    (done : ∀ m₁ news₁ h tk g, J vs.length tk g m₁ news₁ → Fr h₀ env.locals h m₁ → News h₀ env.locals h news₁ → QF .next { s with heap := h, toks := tk, gens := g })
    (hs : ∀ x, foldedSetIterable (.Name nm np) env x = pure x := by intro _; rfl) (ht : ∀ it v, letOwnedTupleGo target it v = pure () := by intro _ _; rfl) :
    wpAny (model prog w) A (exec (.For target (.Name nm np) body [] pos) env) QF E s := by
  have hlt : l < s.heap.objs.size := by obtain ⟨o, ho, _⟩ := F.lst hl; exact Heap.lt_size ho
  have lL : env.locals < s.heap.objs.size := F.ns.lt
  refine forS (l := l) (vs := vs) (fun i I s' => I = s.heap.objs.size ∧ ∃ h tk g m₁ news₁ o, s' = { s with heap := h, toks := tk, gens := g } ∧ Fr h₀ env.locals h m₁ ∧ News h₀ env.locals h ((I, o) :: news₁) ∧ (∀ p ∈ news₁, p.1 ≠ I) ∧ 
      (∀ h' : Heap, h'.get? I = some o → h'.IsListIter I l i) ∧ J i tk g m₁ news₁) ?_ ?_ ?_ ?_ hh hs ht
  · refine he _ ⟨rfl, F.lst hl, hlt, fun h' hk hit => ⟨rfl, h', s.toks, s.gens, m, news, ?_⟩⟩
    obtain ⟨o, ho, r⟩ := hit
    refine ⟨o, rfl, F.keeps hk, fun p hp => ?_, fun p hp e => ?_, fun h'' e => ⟨o, e, r⟩, hJ⟩
    · rcases List.mem_cons.mp hp with rfl | hp
      · exact ⟨ho, Nat.ne_of_gt lL, Heap.get?_none_of_le (Nat.le_trans F.above (Nat.le_of_lt lL))⟩
      · exact ⟨hk _ _ (N p hp).1, (N p hp).2⟩
    · exact absurd (Heap.lt_size (N p hp).1) (by rw [e]; exact Nat.lt_irrefl _)
  · rintro i I s' ⟨rfl, h, tk, g, m₁, news₁, o, rfl, F₁, N₁, hn, hit, hj⟩
    exact ⟨hit _ (N₁ _ (.head _)).1, F₁.lst hl⟩
  · rintro i v I s' h' ⟨rfl, h, tk, g, m₁, news₁, o, rfl, F₁, N₁, hn, hit, hj⟩ hv hit' hsb
    obtain ⟨o', ho', r'⟩ := hit'
    have nI := N₁ _ (.head _)
    have F₂ : Fr h₀ env.locals h' m₁ := kas_fr F₁ hsb nI.2.1 nI.2.2
    have N₂ : News h₀ env.locals h' ((s.heap.objs.size, o') :: news₁) := fun p hp => by
      rcases List.mem_cons.mp hp with rfl | hp
      · exact ⟨ho', nI.2⟩
      · have q := N₁ p (.tail _ hp)
        exact ⟨(hsb.2 _ (hn p hp)).trans q.1, q.2⟩
    refine wpAny_mono (turn i v m₁ news₁ _ o' h' tk g hv hj F₂ N₂ hn) (fun _ s₂ h₂ => wpAny_mono h₂ (fun f s₃ h₃ => ?_) fun _ _ e => e) fun _ _ e => e
    have fin : TurnEndNT h₀ env.locals s (J (i + 1)) s.heap.objs.size o' s₃ → Halt (s.heap.objs.size = s.heap.objs.size ∧ ∃ h tk g m₁ news₁ o, s₃ = { s with heap := h, toks := tk, gens := g } ∧ Fr h₀ env.locals h m₁ ∧ News h₀ env.locals h ((s.heap.objs.size, o) :: news₁) ∧ (∀ p ∈ news₁, p.1 ≠ s.heap.objs.size) ∧ 
        (∀ h' : Heap, h'.get? s.heap.objs.size = some o → h'.IsListIter s.heap.objs.size l (i + 1)) ∧ J (i + 1) tk g m₁ news₁) := by
      rintro ⟨h₃, tk₃, g₃, m₃, news₃, e, F₃, N₃, hn₃, hj₃⟩
      exact ⟨rfl, h₃, tk₃, g₃, m₃, news₃, o', e, F₃, N₃, hn₃, fun h'' e => ⟨o', e, r'⟩, hj₃⟩
    cases f with
    | next => exact fin h₃
    | cont => exact fin h₃
    | brk => exact h₃
    | ret v => exact h₃
  · rintro I s' h' ⟨rfl, h, tk, g, m₁, news₁, o, rfl, F₁, N₁, hn, hit, hj⟩ hk
    have nI := N₁ _ (.head _)
    refine done m₁ news₁ h' tk g hj ⟨F₁.ns.at' fun o e => hk _ o (Ne.symm nI.2.1) e, fun b o e => hk b o (fun q => by rw [q, nI.2.2] at e; cases e) (F₁.keep b o e), F₁.above⟩ fun p hp => ?_
    have q := N₁ p (.tail _ hp)
    exact ⟨hk _ _ (hn p hp) q.1, q.2⟩
theorem TurnEndNT.intro {L I : Addr} {o : Obj} {Jn : Nat → Array GenState → (Str → Option Value) → List (Addr × Obj) → Prop} {h' : Heap} {tk' : Nat} {g' : Array GenState} {m₂ : Str → Option Value} {news₂ : List (Addr × Obj)} 
    (F : Fr h₀ L h' m₂) (N : News h₀ L h' ((I, o) :: news₂)) (hn : ∀ p ∈ news₂, p.1 ≠ I) (hj : Jn tk' g' m₂ news₂) : TurnEndNT h₀ L s Jn I o { s with heap := h', toks := tk', gens := g' } :=
  ⟨h', tk', g', m₂, news₂, rfl, F, N, hn, hj⟩
end
end Mine

-- part Told


namespace Mine
def brN (h : Nat) (ls : List Nat) : Nat := (ls.filter (fun x => decide (x ≤ h))).length
def blN (h : Nat) (ls : List Nat) : Nat := (ls.filter (fun x => decide (x < h))).length
def toldL (st row : List Int) (ls : List Nat) : Nat → List Int → List Int → Int → Option (List Int)
  | 0, walk, _, _ => some walk
  | k + 1, walk, starts, here =>
    if here < 0 ∨ 200 < here then none else
    if (brN here.toNat ls : Int) - 1 - (starts.count here : Nat) < (blN here.toNat ls : Nat) then some walk
    else toldL st row ls k (walk ++ [row.getD ((brN here.toNat ls : Int) - 1 - (starts.count here : Nat)).toNat 0]) (starts ++ [here])
      (here + st.getD (row.getD ((brN here.toNat ls : Int) - 1 - (starts.count here : Nat)).toNat 0).toNat 0)
theorem part_count {P : Nat → Bool} {ls : List Nat} {r : Nat} (hr : r ≤ ls.length) (h1 : ∀ i (hi : i < ls.length), i < r → P ls[i] = true) (h2 : ∀ i (hi : i < ls.length), r ≤ i → P ls[i] = false) : (ls.filter P).length = r := by
  have e := List.take_append_drop r ls
  rw [← e, List.filter_append]
  have a1 : (ls.take r).filter P = ls.take r := by
    rw [List.filter_eq_self]
    intro x hx
    obtain ⟨i, hi, rfl⟩ := List.getElem_of_mem hx
    rw [List.getElem_take]
    rw [List.length_take] at hi
    exact h1 i (by omega) (by omega)
  have a2 : (ls.drop r).filter P = [] := by
    rw [List.filter_eq_nil_iff]
    intro x hx
    obtain ⟨i, hi, rfl⟩ := List.getElem_of_mem hx
    rw [List.getElem_drop]
    rw [List.length_drop] at hi
    rw [h2 (r + i) (by omega) (by omega)]; decide
  rw [a1, a2, List.append_nil, List.length_take]; omega
theorem line_at (h : Int) : Txt.mul (Str.ofString " ") h ++ Str.ofString "\n" = ln h.toNat := by
  have e0 : Str.ofString "\n" = ln 0 := by decide
  rw [e0, mul_ln, Nat.add_zero]
theorem line_len {h : Int} (hg : ¬ (h < 0 ∨ 200 < h)) : (Txt.mul (Str.ofString " ") h).length + (Str.ofString "\n").length ≤ 2000 := by
  have e1 : Str.ofString " " = ⟨#[32]⟩ := by decide
  have e0 : (Str.ofString "\n").length = 1 := by decide
  have e : (Txt.mul (Str.ofString " ") h).length = h.toNat := by
    show (Txt.mul (Str.ofString " ") h).cps.size = _
    rw [← Array.length_toList, e1, mul_one_list, List.length_replicate]
  rw [e, e0]; omega
theorem small_int {n : Int} (h : ¬ (n < 0 ∨ 200 < n)) : smallInt n = true := by
  unfold smallInt
  rw [Bool.and_eq_true]
  exact ⟨decide_eq_true (by omega), decide_eq_true (by omega)⟩
section
variable {prog : Program} {w : World} {mean : ExcName → Option Value} {mg mb : Str → Option Value} {A : Around} {s : Shared} {Q E : Value → Shared → Prop}
theorem gentok {M : Model} {α : Type} {t : Sem α} {Q : α → Shared → Prop} {n : Nat} (hn : n ≤ s.toks) (h : ∀ tk, n ≤ tk → wpAny M A t Q E { s with toks := tk }) : wpAny M A t Q E s := h s.toks hn
theorem execsT {prog : Program} {env : Env} {st : Stmt} {rest : List Stmt} {Q : Flow → Shared → Prop} {n : Nat} (hn : n ≤ s.toks)
    (h : wpAny (model prog w) A (exec st env) (fun f s' => n ≤ s'.toks → Halt (match f with | .next => wpAny (model prog w) A (execs rest env) Q E s' | f => Q f s')) E s) : wpAny (model prog w) A (execs (st :: rest) env) Q E s :=
  wpAny_execs_cons (wpAny_with_toks hn (wpAny_mono h (fun _ _ x => x) fun _ _ x _ => x))
theorem add_call2 (C : Cx w mean mg mb A s.heap) (hd : A.depth + 5 < recursionLimit) (hu : A.units + 50 < cLine) {x y : Int} {t u : Tok} 
    (hQ : ∀ h' (tk r : Nat), Ext s.heap h' → s.toks ≤ r → r < tk → Q (.int (x + y) r) { s with heap := h', toks := tk }) :
    wpAny (model prog w) A (call (.ref 99) [.int x t, .int y u]) Q E s := by
  obtain ⟨B, F, X, T, hk⟩ := C
  refine wpAny_call ?_
  (refine' enterP ?k1 ?k2 ?k3 ?k5 ?kA ?kF ?kK ?k6 ?k7 ?k8 ?k9 ?kB ?_ ?c2 ?c3 ?c4 ?c5; (case kA => exact rfl); (case kF => exact rfl); (case kK => assumption); (case k1 => assumption); (case k2 => assumption); (case k3 => assumption); (case k5 => assumption); (case k6 => k_is); (case k7 => k_is); (case k8 => ktr_room); (case k9 => first | exact BindsTo.of_eq rfl | (refine' kp_binds ?kx ?ke; (case kx => k_in); (case ke => exact fun _ => rfl)) | exact binds_K (by k_in) rfl (by k_is) rfl rfl rfl); (case c5 => decide); (case kB => exact locs rfl); (case c2 => exact rfl); (case c3 => exact rfl); (case c4 => exact rfl); k_whole; intro L' h' F' N' B' X' T'; (try dsimp only); (try k_fold))
  refine gentok (n := s.toks) (Nat.le_add_right _ _) fun tk htk => ?_
  dsimp only
  k_steps
  (with_reducible rename Fr _ _ _ _ => F')
  exact hQ _ _ _ F'.keep htk (Nat.lt_succ_self _)
end
theorem left_step {n i : Nat} (h : i < n) : ∃ k, n - i = k + 1 ∧ n - (i + 1) = k := ⟨n - (i + 1), by omega, rfl⟩
theorem ln_monoL {ls : List Nat} (hsrt : ls.Pairwise (· ≤ ·)) (a : Nat) : ∀ i j (hi : i < (ls.map ln).length) (hj : j < (ls.map ln).length), i ≤ j → (¬ (ls.map ln)[i].cps.toList < (ln a).cps.toList) → (¬ (ls.map ln)[j].cps.toList < (ln a).cps.toList) := by
  intro i j hi hj hij h
  rw [List.getElem_map, ln_lt] at h ⊢
  rcases Nat.lt_or_ge i j with e | e
  · exact fun q => h (Nat.lt_of_le_of_lt (List.pairwise_iff_getElem.mp hsrt i j (by simpa using hi) (by simpa using hj) e) q)
  · cases Nat.le_antisymm hij e
    exact h
theorem brN_is {ls : List Nat} {h r : Nat} (hr : r ≤ (ls.map ln).length) (q1 : ∀ i (hi : i < (ls.map ln).length), i < r → ¬ (ln h).cps.toList < (ls.map ln)[i].cps.toList) (q2 : ∀ i (hi : i < (ls.map ln).length), r ≤ i → (ln h).cps.toList < (ls.map ln)[i].cps.toList) : brN h ls = r :=
  part_count (by simpa using hr) (fun i hi h => by have q := q1 i (by simpa using hi) h; rw [List.getElem_map, ln_lt] at q; exact decide_eq_true (Nat.le_of_not_lt q)) (fun i hi h => by have q := q2 i (by simpa using hi) h; rw [List.getElem_map, ln_lt] at q; exact decide_eq_false (Nat.not_le_of_lt q))
theorem blN_is {ls : List Nat} {h r : Nat} (hr : r ≤ (ls.map ln).length) (q1 : ∀ i (hi : i < (ls.map ln).length), i < r → ¬ ¬ (ls.map ln)[i].cps.toList < (ln h).cps.toList) (q2 : ∀ i (hi : i < (ls.map ln).length), r ≤ i → ¬ (ls.map ln)[i].cps.toList < (ln h).cps.toList) : blN h ls = r :=
  part_count (by simpa using hr) (fun i hi h => by have q := q1 i (by simpa using hi) h; rw [List.getElem_map, ln_lt] at q; exact decide_eq_true (Decidable.not_not.mp q)) (fun i hi h => by have q := q2 i (by simpa using hi) h; rw [List.getElem_map, ln_lt] at q; exact decide_eq_false q)
theorem spot_rng {r1 c n : Nat} {spot : Int} (e : (r1 : Int) - 1 - (c : Nat) = spot) (h0 : 0 ≤ spot) (h : r1 ≤ n) (hn : n ≤ 100) : spot.toNat < n ∧ 0 ≤ (r1 : Int) - 1 - (c : Nat) ∧ (r1 : Int) - 1 - (c : Nat) < 2 ^ 62 := by omega
theorem sz_ok {α : Type} {R : α → Value → Prop} {vs : Array Value} {as : List α} {i n : Nat} (h : Are R vs.toList as) (hl : as.length = i) (hi : i < n) (hn : n ≤ 100) : vs.size ≤ 1000000 := by
  have h1 := h.len
  rw [Array.length_toList, hl] at h1
  rw [h1]
  exact Nat.le_trans (Nat.le_of_lt hi) (Nat.le_trans hn (Nat.le_of_ble_eq_true rfl))
/-- the walk told back, turn by turn -/
inductive ToldJ (gs : Array GenState) (st row : List Int) (ls : List Nat) (out : List Int) (S W : Addr) (Bd : Int → Nat → List (Str × Value)) : Nat → Nat → Array GenState → (Str → Option Value) → List (Addr × Obj) → Prop
  | mk {tk : Nat} (sv : Array Value) (sn : Nat) (wv : Array Value) (wn : Nat) (m₀ : Str → Option Value) (hh : Int) (th : Nat) (starts walk : List Int) (i : Nat) (hth : th < tk) (hth0 : 0 < th) (hir : i ≤ row.length)
      (hwv : Are isInt wv.toList walk) (hsv : Are (fun n v => ∃ t' : Nat, v = .int n t' ∧ 0 < t' ∧ t' < th ∧ smallInt n = true) sv.toList starts) (hwl : walk.length = i) (hsl : starts.length = i)
      (htl : toldL st row ls (row.length - i) walk starts hh = some out) : ToldJ gs st row ls out S W Bd i tk gs (over (Bd hh th) m₀) [(S, PySem.W.listOf sv sn), (W, PySem.W.listOf wv wn)]
section
variable {prog : Program} {w : World} {mean : ExcName → Option Value} {mg mb : Str → Option Value} {A : Around} {s : Shared} {Q E : Value → Shared → Prop}
local macro_rules | `(tactic| walk_at "exec While Compare cons nil") => `(tactic| (refine halt_of ?_))
local macro_rules | `(tactic| walk_at "exec While BoolOp cons nil") => `(tactic| (refine halt_of ?_))
local macro_rules | `(tactic| walk_at "exec For Name Name cons nil") => `(tactic| (refine halt_of ?_))
local macro_rules | `(tactic| walk_at "exec For Tuple Call cons nil") => `(tactic| (refine halt_of ?_))
local macro_rules | `(tactic| walk_at "execs cons") => `(tactic| (refine halt_of ?_))
local macro_rules | `(tactic| walk_at "execs nil") => `(tactic| (refine wpAny_execs_nil ?_))
local macro_rules | `(tactic| walk_at "subscriptTail Name Name ref int") => `(tactic| (refine halt_of ?_))
local macro_rules | `(tactic| walk_at "subscriptTail Name Subscript ref int") => `(tactic| (refine halt_of ?_))
theorem told_call (C : Cx w mean mg mb A s.heap) (hd : A.depth + 65 < recursionLimit) (hu : A.units + 490 < cLine) {l r q : Addr} {ss rs qs : List Value} {st row : List Int} {ls : List Nat} {out : List Int}
    (hl : s.heap.IsList l ss.toArray) (hs : Are isInt ss st) (hr : s.heap.IsList r rs.toArray) (hrow : Are isInt rs row) (hq : s.heap.IsList q qs.toArray) (hqs : Are isStr qs (ls.map ln)) 
    (hlen : row.length ≤ 100) (hst : st.length ≤ 100) (hll : ls.length ≤ row.length) (hsrt : ls.Pairwise (· ≤ ·))
    (hp : ∀ p ∈ row, 0 ≤ p ∧ p.toNat < st.length) (htold : toldL st row ls row.length [] [] 0 = some out)
    (hQ : ∀ h' tk D vs' n, Ext s.heap h' → s.heap.get? D = none → h'.get? D = some (PySem.W.listOf vs' n) → Are isInt vs'.toList out → Q (.ref D) { s with heap := h', toks := tk }) :
    wpAny (model prog w) A (call (.ref 165) [.ref r, .ref l, .ref q]) Q E s := by
  obtain ⟨B, F, X, T, hkk⟩ := C
  refine wpAny_call ?_
  (refine' enterP ?k1 ?k2 ?k3 ?k5 ?kA ?kF ?kK ?k6 ?k7 ?k8 ?k9 ?kB ?_ ?c2 ?c3 ?c4 ?c5; (case kA => exact rfl); (case kF => exact rfl); (case kK => assumption); (case k1 => assumption); (case k2 => assumption); (case k3 => assumption); (case k5 => assumption); (case k6 => k_is); (case k7 => k_is); (case k8 => ktr_room); (case k9 => first | exact BindsTo.of_eq rfl | (refine' kp_binds ?kx ?ke; (case kx => k_in); (case ke => exact fun _ => rfl)) | exact binds_K (by k_in) rfl (by k_is) rfl rfl rfl); (case c5 => decide); (case kB => exact locs rfl); (case c2 => exact rfl); (case c3 => exact rfl); (case c4 => exact rfl); k_whole; intro L' h' F' N' B' X' T'; (try dsimp only); (try k_fold))
  refine gentok (n := 1) (Nat.le_add_left _ _) fun tk0 htk => ?_
  dsimp only
  refine execsT htk ?_
  k_steps
  (unfold Halt; refine gentok (n := 1) (by assumption) fun tk htk => ?_; dsimp only; refine execsT htk ?_; k_steps)
  unfold Halt
  refine gentok (n := 1) (by assumption) fun th0 hth0 => ?_
  dsimp only
  refine execsT hth0 ?_
  k_steps
  unfold Halt
  refine gentok (n := th0 + 1) (Nat.le_succ (th0 + 1)) fun tk htk => ?_
  dsimp only
  refine wpAny_execs_cons ?_
  (with_reducible rename Fr _ _ _ _ => F')
  (with_reducible rename News _ _ _ _ => N'); (try k_sweep)
  obtain ⟨S, hD⟩ := nm1 N'
  subst hD
  obtain ⟨W, hD⟩ := nm2 N'
  subst hD
  rename @LT.lt Nat _ _ _ => hWS
  have hSW : S ≠ W := Nat.ne_of_gt hWS
  refine forNT (ToldJ s.gens st row ls out S W (fun hh th => [("walk", .ref W), ("starts", .ref S), ("here", .int hh th), ("row", .ref r), ("steps", .ref l), ("lines", .ref q)]))
    (Fr.over F' [("walk", .ref W), ("starts", .ref S), ("here", _), ("row", .ref r), ("steps", .ref l), ("lines", .ref q)] ⟨rfl, rfl, rfl, rfl, rfl, rfl, trivial⟩) N' hr (.mk _ _ _ _ _ _ _ [] [] 0 ?_ ?_ (Nat.zero_le _) Are.nil Are.nil rfl rfl htold) rfl ?_ ?_ ?_
  · exact htk
  · exact hth0
  · intro Q' hq
    with_unfolding_all refine ld F' (by rfl) ?_
    exact hq
  · rintro i v m₁ news₁ I o h tk g hv ⟨sv, sn, wv, wn, m₀, hh, th, starts, walk, _, hth, hth0, hir, hwv, hsv, hwl, hsl, htl⟩ F' N' hn
    (try dsimp only at F')
    obtain ⟨p, hp', t3, rfl⟩ := hrow.of hv
    have hi := (List.getElem?_eq_some_iff.1 hp').1
    have hi' : i < row.length := hi
    obtain ⟨k, hk, hk1⟩ := left_step hi'
    rw [hk, toldL] at htl
    have hl20 : (ls.map ln).length < 2 ^ 20 := by rw [List.length_map]; exact Nat.lt_of_le_of_lt (Nat.le_trans hll hlen) (by decide)
    by_cases hg : hh < 0 ∨ 200 < hh
    · rw [if_pos hg] at htl; cases htl
    rw [if_neg hg] at htl
    have htk1 : th + 1 ≤ tk := hth
    k_steps
    (unfold Halt; refine gentok (n := th + 1) (by first | assumption | exact Nat.le_succ_of_le (by assumption)) fun tk htk => ?_; dsimp only; refine execsT htk ?_; k_steps)
    (with_reducible rename Fr _ _ _ _ => F')
    (with_reducible rename News _ _ _ _ => N'); (try k_sweep)
    refine concat_str (Cx.mk B' F' X' T' rfl) (by ktr_room) (by ktr_units) (line_len hg) fun h' tk' rt K' => ?_
    rw [line_at]
    replace F' := F'.keeps K'
    replace N' := N'.grown K'
    k_steps
    (unfold Halt; refine gentok (n := th + 1) (by first | assumption | exact Nat.le_succ_of_le (by assumption)) fun tk htk => ?_; dsimp only; refine execsT htk ?_; k_steps)
    (with_reducible rename Fr _ _ _ _ => F')
    (with_reducible rename News _ _ _ _ => N'); (try k_sweep)
    refine bisR_str (Cx.mk B' F' X' T' rfl) (by ktr_room) (by ktr_units) (F'.lst hq) hqs hl20 (ln_monoR hsrt _) fun h' tk' r1 u1 K' hr1 q1 q2 => ?_
    replace F' := F'.keeps K'
    replace N' := N'.grown K'
    have er : brN hh.toNat ls = r1 := brN_is hr1 q1 q2
    k_steps
    (with_reducible rename Fr _ _ _ _ => F')
    (with_reducible rename News _ _ _ _ => N'); (try k_sweep)
    refine count_call (Cx.mk B' F' X' T' rfl) (by ktr_room) (by ktr_units) (N'.isList (.tail _ (.head _))) hsv fun h' tk' u2 K' => ?_
    replace F' := F'.keeps K'
    replace N' := N'.grown K'
    k_steps
    (unfold Halt; refine gentok (n := th + 1) (by first | assumption | exact Nat.le_succ_of_le (by assumption)) fun tk htk => ?_; dsimp only; refine execsT htk ?_; k_steps)
    (with_reducible rename Fr _ _ _ _ => F')
    (with_reducible rename News _ _ _ _ => N'); (try k_sweep)
    refine bisL_str (Cx.mk B' F' X' T' rfl) (by ktr_room) (by ktr_units) (F'.lst hq) hqs hl20 (ln_monoL hsrt _) fun h' tk' r2 u3 K' hr2 q1 q2 => ?_
    replace F' := F'.keeps K'
    replace N' := N'.grown K'
    have el : blN hh.toNat ls = r2 := blN_is hr2 q1 q2
    rw [er, el] at htl
    generalize hspd : (r1 : Int) - 1 - (starts.count hh : Nat) = spot at htl
    k_steps
    · have hc : spot < (r2 : Int) := by assumption
      rw [if_pos hc] at htl
      unfold Halt
      refine wpAny_execs_cons ?_
      k_steps
      (with_reducible rename Fr _ _ _ _ => F')
      (with_reducible rename News _ _ _ _ => N'); (try k_sweep)
      have eo := Option.some.inj htl
      subst eo
      exact hQ _ _ _ _ _ F'.keep (N'.fresh (.tail _ (.tail _ (.head _)))) (N'.get (.tail _ (.tail _ (.head _)))) hwv
    · have hc : ¬ spot < (r2 : Int) := by first | assumption | omega
      rw [if_neg hc] at htl
      have h0 : 0 ≤ spot := Int.le_trans (Int.natCast_nonneg r2) (Int.not_lt.mp hc)
      have hr1' : r1 ≤ ls.length := by simpa using hr1
      obtain ⟨hs1, hs2, hs3⟩ := spot_rng hspd h0 (Nat.le_trans hr1' hll) hlen
      have hrv : ∃ tt, rs[spot.toNat]? = some (.int (row.getD spot.toNat 0) tt) := by
        obtain ⟨v, hv, tt, rfl⟩ := hrow.get hs1
        refine ⟨tt, ?_⟩
        rw [hv, List.getD_eq_getElem?_getD, List.getElem?_eq_getElem hs1]; rfl
      obtain ⟨tt, hrv⟩ := hrv
      have hpp : 0 ≤ row.getD spot.toNat 0 ∧ (row.getD spot.toNat 0).toNat < st.length := by
        rw [List.getD_eq_getElem?_getD, List.getElem?_eq_getElem hs1]
        exact hp _ (List.getElem_mem _)
      generalize row.getD spot.toNat 0 = pl at htl hrv hpp
      have hsv2 : ∃ tt, ss[pl.toNat]? = some (.int (st.getD pl.toNat 0) tt) := by
        obtain ⟨v, hv, tt, rfl⟩ := hs.get hpp.2
        refine ⟨tt, ?_⟩
        rw [hv, List.getD_eq_getElem?_getD, List.getElem?_eq_getElem hpp.2]; rfl
      obtain ⟨tt2, hsv2⟩ := hsv2
      (unfold Halt; refine gentok (n := th + 1) (by first | assumption | exact Nat.le_succ_of_le (by assumption)) fun tk htk => ?_; dsimp only; refine execsT htk ?_; k_steps)
      unfold Halt
      (with_reducible rename Fr _ _ _ _ => F')
      (with_reducible rename News _ _ _ _ => N'); (try k_sweep)
      refine itemList (F'.lst hr) hs2 hs3 (by rw [hspd]; exact hrv) ?_
      k_steps
      (with_reducible rename Fr _ _ _ _ => F')
      (with_reducible rename News _ _ _ _ => N'); (try k_sweep)
      have hwsz := sz_ok hwv hwl hi' hlen
      have hssz := sz_ok hsv hsl hi' hlen
      refine appendIn (pre := [(I, o), (S, _)]) (post := []) F' N' ?_ (fun _ hp => nomatch hp) hwsz fun h' n' F' N' => ?_
      · intro p hp
        rcases List.mem_cons.mp hp with rfl | hp
        · exact Ne.symm (hn (W, _) (.tail _ (.head _)))
        · rw [List.mem_singleton.mp hp]; exact hSW
      k_steps
      (unfold Halt; refine gentok (n := th + 1) (by first | assumption | exact Nat.le_succ_of_le (by assumption)) fun tk htk => ?_; dsimp only; refine execsT htk ?_; k_steps)
      (with_reducible rename Fr _ _ _ _ => F')
      (with_reducible rename News _ _ _ _ => N'); (try k_sweep)
      refine appendIn (pre := [(I, o)]) (post := [(W, PySem.W.listOf (wv.push (.int pl tt)) n')]) F' N' ?_ ?_ hssz fun h' n2 F' N' => ?_
      · intro p hp
        rw [List.mem_singleton.mp hp]
        exact Ne.symm (hn (S, _) (.head _))
      · intro p hp
        rw [List.mem_singleton.mp hp]
        exact Ne.symm hSW
      k_steps
      (unfold Halt; refine gentok (n := th + 1) (by first | assumption | exact Nat.le_succ_of_le (by assumption)) fun tk htk => ?_; dsimp only; refine execsT htk ?_; k_steps)
      unfold Halt
      (with_reducible rename Fr _ _ _ _ => F')
      (with_reducible rename News _ _ _ _ => N'); (try k_sweep)
      refine itemList (F'.lst hr) hs2 hs3 (by rw [hspd]; exact hrv) ?_
      k_steps
      unfold Halt
      (with_reducible rename Fr _ _ _ _ => F')
      (with_reducible rename News _ _ _ _ => N'); (try k_sweep)
      refine itemList (F'.lst hl) hpp.1 (place62 hpp hst) hsv2 ?_
      k_steps
      (with_reducible rename Fr _ _ _ _ => F')
      (with_reducible rename News _ _ _ _ => N'); (try k_sweep)
      refine add_call2 (Cx.mk B' F' X' T' rfl) (by ktr_room) (by ktr_units) fun h' tk' r' K' hge hlt => ?_
      replace F' := F'.keeps K'
      replace N' := N'.grown K'
      k_steps
      (with_reducible rename Fr _ _ _ _ => F')
      (with_reducible rename News _ _ _ _ => N'); (try k_sweep)
      have hr' : th + 1 ≤ r' := Nat.le_trans htk hge
      refine TurnEndNT.intro (news₂ := [(S, _), (W, _)]) (Fr.over F' [("walk", .ref W), ("starts", .ref S), ("here", _), ("row", .ref r), ("steps", .ref l), ("lines", .ref q)] ⟨rfl, rfl, rfl, rfl, rfl, rfl, trivial⟩) N' ?_ 
        (.mk _ _ _ _ _ _ r' (starts ++ [hh]) (walk ++ [pl]) _ (Nat.lt_succ_of_lt hlt) (Nat.lt_of_lt_of_le hth0 (Nat.le_of_succ_le hr')) hi' ?_ ?_ (by simp [hwl]) (by simp [hsl]) ?_)
      · intro p hp
        rcases List.mem_cons.mp hp with rfl | hp
        · exact hn (S, PySem.W.listOf sv sn) (.head _)
        · rw [List.mem_singleton.mp hp]
          exact hn (W, PySem.W.listOf wv wn) (.tail _ (.head _))
      · rw [Array.toList_push]
        exact hwv.snoc ⟨_, rfl⟩
      · rw [Array.toList_push]
        exact (hsv.mono fun n v ⟨t', e, h1, h2, h3⟩ => ⟨t', e, h1, Nat.lt_of_lt_of_le h2 (Nat.le_of_succ_le hr'), h3⟩).snoc ⟨th, rfl, hth0, hr', small_int hg⟩
      · rw [hk1]
        exact htl
  · rintro m₁ news₁ h tk g ⟨sv, sn, wv, wn, m₀, hh, th, starts, walk, _, hth, hth0, hir, hwv, hsv, hwl, hsl, htl⟩ F' N'
    (try dsimp only at F')
    rw [hrow.len, Nat.sub_self, toldL] at htl
    k_steps
    unfold Halt
    refine wpAny_execs_cons ?_
    k_steps
    (with_reducible rename Fr _ _ _ _ => F')
    (with_reducible rename News _ _ _ _ => N'); (try k_sweep)
    have eo := Option.some.inj htl
    subst eo
    exact hQ _ _ _ _ _ F'.keep (N'.fresh (.tail _ (.head _))) (N'.get (.tail _ (.head _))) hwv
end
end Mine

-- part LawH

namespace Mine
theorem par_len (x : Int) (h : -20 ≤ x ∧ x ≤ 20) : (par x).length ≤ 20 := by
  simp only [par, List.length_append, List.length_replicate]; omega
theorem isPt_txt {x : Str} {s0 s1 s2 s3 s4 s5 : Int} (h : x.cps.toList = txt [s0, s1, s2, s3, s4, s5]) (b0 : -20 ≤ s0 ∧ s0 ≤ 20) (b1 : -20 ≤ s1 ∧ s1 ≤ 20) (b2 : -20 ≤ s2 ∧ s2 ≤ 20) (b3 : -20 ≤ s3 ∧ s3 ≤ 20) (b4 : -20 ≤ s4 ∧ s4 ≤ 20) (b5 : -20 ≤ s5 ∧ s5 ≤ 20) : isPt x := by
  constructor
  · rw [h]
    intro c hc
    obtain ⟨y, _, hy⟩ := List.mem_flatMap.mp hc
    rcases List.mem_append.mp hy with hy | hy
    · exact .inl (List.eq_of_mem_replicate hy)
    · exact .inr (List.eq_of_mem_replicate hy)
  · have e := congrArg List.length h
    have := par_len s0 b0
    have := par_len s1 b1
    have := par_len s2 b2
    have := par_len s3 b3
    have := par_len s4 b4
    have := par_len s5 b5
    simp only [txt, List.flatMap_cons, List.flatMap_nil, List.length_append, List.length_nil, Array.length_toList] at e
    omega
theorem stp_bnd {st : List Int} {p : Int} (h : ∀ x ∈ st, -20 ≤ x ∧ x ≤ 20) : -20 ≤ st.getD p.toNat 0 ∧ st.getD p.toNat 0 ≤ 20 := by
  rw [List.getD_eq_getElem?_getD]
  cases e : st[p.toNat]? with
  | none => decide
  | some x => exact h x (List.mem_of_getElem? e)
end Mine

-- part Plain1

namespace Mine
theorem scan_up : ∀ (n : Nat) (o : Int) (r : List Nat), scan o (List.replicate n 40 ++ r) = scan (o + n) r
  | 0, o, r => by simp
  | n + 1, o, r => by
    rw [List.replicate_succ, List.cons_append, scan, if_pos rfl, scan_up n]
    congr 1; omega
theorem scan_dn : ∀ (n : Nat) (o : Int) (r : List Nat), 0 ≤ o → scan o (List.replicate n 41 ++ r) = if o - n < 0 then false else scan (o - n) r
  | 0, o, r, h => by
    rw [if_neg (by omega)]; simp
  | n + 1, o, r, h => by
    rw [List.replicate_succ, List.cons_append, scan, if_neg (by decide), if_pos rfl]
    by_cases h1 : o - 1 < 0
    · rw [if_pos h1, if_pos (by omega)]
    · rw [if_neg h1, scan_dn n (o - 1) r (by omega)]
      have e : o - 1 - (n : Int) = o - ((n + 1 : Nat) : Int) := by omega
      rw [e]
theorem scan_par (o x : Int) (r : List Nat) (h : 0 ≤ o) : scan o (par x ++ r) = if o + x < 0 then false else scan (o + x) r := by
  unfold par
  rcases Int.lt_or_le x 0 with hx | hx
  · have e1 : x.toNat = 0 := by omega
    rw [e1, List.replicate_zero, List.nil_append, scan_dn _ _ _ h]
    have e2 : o - ((-x).toNat : Int) = o + x := by omega
    rw [e2]
  · have e1 : (-x).toNat = 0 := by omega
    rw [e1, List.replicate_zero, List.append_nil, scan_up, if_neg (by omega)]
    congr 1; omega
/-- what the scan of a text of steps asks for -/
def okS : Int → List Int → Prop
  | o, [] => o = 0
  | o, x :: r => 0 ≤ o + x ∧ okS (o + x) r
theorem scan_okS : ∀ (xs : List Int) (o : Int), 0 ≤ o → (scan o (txt xs) = true ↔ okS o xs)
  | [], o, _ => beq_iff_eq
  | x :: xs, o, h => by
    show scan o (par x ++ txt xs) = true ↔ _
    rw [scan_par _ _ _ h]
    by_cases h1 : o + x < 0
    · rw [if_pos h1]; exact ⟨fun q => (by cases q), fun q => absurd q.1 (Int.not_le.mpr h1)⟩
    · rw [if_neg h1, scan_okS xs (o + x) (Int.not_lt.mp h1)]; exact ⟨fun q => ⟨Int.not_lt.mp h1, q⟩, fun q => q.2⟩
theorem up_le {a b c : Int} (h : a ≤ b) (e : b = c) : a ≤ c := e ▸ h
theorem sift_rot {x : Str} {s0 s1 s2 s3 s4 s5 low q0 q1 q2 q3 q4 q5 : Int} (hx : x.cps.toList = txt [s0, s1, s2, s3, s4, s5]) (d0 : q1 = q0 + s0) (d1 : q2 = q1 + s1) (d2 : q3 = q2 + s2) (d3 : q4 = q3 + s3) (d4 : q5 = q4 + s4) (d5 : q0 = q5 + s5) (l0 : low ≤ q0) (l1 : low ≤ q1) (l2 : low ≤ q2) (l3 : low ≤ q3) (l4 : low ≤ q4) (l5 : low ≤ q5)
    (hm : ∀ z, z ≤ q0 → z ≤ q1 → z ≤ q2 → z ≤ q3 → z ≤ q4 → z ≤ q5 → z ≤ low) : sift x = if q0 = low then x else bad := by
  have e : scan 0 (txt [s0, s1, s2, s3, s4, s5]) = true ↔ q0 = low := by
    rw [scan_okS _ _ (Int.le_refl 0)]
    have c1 : 0 + s0 = q1 - q0 := by omega
    have c2 : q1 - q0 + s1 = q2 - q0 := by omega
    have c3 : q2 - q0 + s2 = q3 - q0 := by omega
    have c4 : q3 - q0 + s3 = q4 - q0 := by omega
    have c5 : q4 - q0 + s4 = q5 - q0 := by omega
    have c6 : q5 - q0 + s5 = 0 := by omega
    simp only [okS, c1, c2, c3, c4, c5, c6, Int.sub_nonneg, and_true, Int.le_refl]
    constructor
    · rintro ⟨g1, g2, g3, g4, g5⟩
      exact Int.le_antisymm (hm q0 (Int.le_refl _) g1 g2 g3 g4 g5) l0
    · intro e
      subst e
      exact ⟨l1, l2, l3, l4, l5⟩
  unfold sift
  rw [hx]
  by_cases hp : q0 = low
  · rw [if_pos hp, if_pos (e.mpr hp)]
  · rw [if_neg hp, if_neg (fun q => hp (e.mp q))]
theorem kept6 {x0 x1 x2 x3 x4 x5 : Str} {a b c d e f p0 p1 p2 p3 p4 p5 low : Int}
    (h0 : x0.cps.toList = txt [a, b, c, d, e, f]) (h1 : x1.cps.toList = txt [b, c, d, e, f, a]) (h2 : x2.cps.toList = txt [c, d, e, f, a, b]) (h3 : x3.cps.toList = txt [d, e, f, a, b, c]) (h4 : x4.cps.toList = txt [e, f, a, b, c, d]) (h5 : x5.cps.toList = txt [f, a, b, c, d, e])
    (zed : a + b + c + d + e + f = 0) (e0 : p0 = 0) (e1 : p1 = a + 0) (e2 : p2 = a + (b + 0)) (e3 : p3 = a + (b + (c + 0))) (e4 : p4 = a + (b + (c + (d + 0)))) (e5 : p5 = a + (b + (c + (d + (e + 0)))))
    (hm : low ∈ [p0, p1, p2, p3, p4, p5]) (hl : ∀ q ∈ [p0, p1, p2, p3, p4, p5], low ≤ q) :
    [sift x0, sift x1, sift x2, sift x3, sift x4, sift x5] = [if p0 = low then x0 else bad, if p1 = low then x1 else bad, if p2 = low then x2 else bad, if p3 = low then x3 else bad, if p4 = low then x4 else bad, if p5 = low then x5 else bad] := by
  have hmz : ∀ z, z ≤ p0 → z ≤ p1 → z ≤ p2 → z ≤ p3 → z ≤ p4 → z ≤ p5 → z ≤ low := by
    intro z z0 z1 z2 z3 z4 z5
    simp only [List.mem_cons, List.not_mem_nil, or_false] at hm
    rcases hm with h | h | h | h | h | h <;> (rw [h]; assumption)
  have l0 := hl p0 (by simp)
  have l1 := hl p1 (by simp)
  have l2 := hl p2 (by simp)
  have l3 := hl p3 (by simp)
  have l4 := hl p4 (by simp)
  have l5 := hl p5 (by simp)
  have d0 : p1 = p0 + a := by rw [e1, e0, Int.add_zero, Int.zero_add]
  have d1 : p2 = p1 + b := by rw [e2, e1, Int.add_zero, Int.add_zero]
  have d2 : p3 = p2 + c := by rw [e3, e2, Int.add_zero, Int.add_zero, Int.add_assoc]
  have d3 : p4 = p3 + d := by rw [e4, e3, Int.add_zero, Int.add_zero, Int.add_assoc, Int.add_assoc]
  have d4 : p5 = p4 + e := by rw [e5, e4, Int.add_zero, Int.add_zero, Int.add_assoc, Int.add_assoc, Int.add_assoc]
  have d5 : p0 = p5 + f := by
    rw [e5, Int.add_zero, e0, ← Int.add_assoc, ← Int.add_assoc, ← Int.add_assoc]
    exact zed.symm
  rw [sift_rot h0 d0 d1 d2 d3 d4 d5 l0 l1 l2 l3 l4 l5 hmz, sift_rot h1 d1 d2 d3 d4 d5 d0 l1 l2 l3 l4 l5 l0 (fun z z1 z2 z3 z4 z5 z0 => hmz z z0 z1 z2 z3 z4 z5), sift_rot h2 d2 d3 d4 d5 d0 d1 l2 l3 l4 l5 l0 l1 (fun z z2 z3 z4 z5 z0 z1 => hmz z z0 z1 z2 z3 z4 z5), sift_rot h3 d3 d4 d5 d0 d1 d2 l3 l4 l5 l0 l1 l2 (fun z z3 z4 z5 z0 z1 z2 => hmz z z0 z1 z2 z3 z4 z5), sift_rot h4 d4 d5 d0 d1 d2 d3 l4 l5 l0 l1 l2 l3 (fun z z4 z5 z0 z1 z2 z3 => hmz z z0 z1 z2 z3 z4 z5), sift_rot h5 d5 d0 d1 d2 d3 d4 l5 l0 l1 l2 l3 l4 (fun z z5 z0 z1 z2 z3 z4 => hmz z z0 z1 z2 z3 z4 z5)]
theorem at6i {p0 p1 p2 p3 p4 p5 : Int} {t0 t1 t2 t3 t4 t5 : Tok} {k : Int} (hk : k ∈ [(0:Int), 1, 2, 3, 4, 5]) : ∃ t, [Value.int p0 t0, .int p1 t1, .int p2 t2, .int p3 t3, .int p4 t4, .int p5 t5][k.toNat]? = some (.int ([p0, p1, p2, p3, p4, p5].getD k.toNat 0) t) := by
  simp only [List.mem_cons, List.not_mem_nil, or_false] at hk
  rcases hk with rfl | rfl | rfl | rfl | rfl | rfl <;> exact ⟨_, rfl⟩
theorem mem6 {k : Int} (h : 0 ≤ k ∧ k < 6) : k ∈ [(0:Int), 1, 2, 3, 4, 5] := by
  simp only [List.mem_cons, List.not_mem_nil, or_false]; omega
theorem rng6 {k : Int} (hk : k ∈ [(0:Int), 1, 2, 3, 4, 5]) : 0 ≤ k ∧ k < 2 ^ 62 := by
  simp only [List.mem_cons, List.not_mem_nil, or_false] at hk
  omega
theorem fold_mem {P : Int → Prop} [DecidablePred P] : ∀ (ks l : List Int) (k : Int), k ∈ ks.foldl (fun l k => if P k then l ++ [k] else l) l ↔ k ∈ l ∨ (k ∈ ks ∧ P k)
  | [], l, k => by simp
  | a :: ks, l, k => by
    rw [List.foldl_cons, fold_mem ks]
    by_cases h : P a
    · rw [if_pos h]
      simp only [List.mem_append, List.mem_cons, List.not_mem_nil, or_false]
      constructor
      · rintro ((h1 | rfl) | h1)
        · exact .inl h1
        · exact .inr ⟨.inl rfl, h⟩
        · exact .inr ⟨.inr h1.1, h1.2⟩
      · rintro (h1 | ⟨rfl | h1, h2⟩)
        · exact .inl (.inl h1)
        · exact .inl (.inr rfl)
        · exact .inr ⟨h1, h2⟩
    · rw [if_neg h]
      simp only [List.mem_cons]
      constructor
      · rintro (h1 | h1)
        · exact .inl h1
        · exact .inr ⟨.inr h1.1, h1.2⟩
      · rintro (h1 | ⟨rfl | h1, h2⟩)
        · exact .inl h1
        · exact absurd h2 h
        · exact .inr ⟨h1, h2⟩
theorem lows_at {p0 p1 p2 p3 p4 p5 low : Int} {j : Nat} {b : Bool} (h : [decide (p0 = low), decide (p1 = low), decide (p2 = low), decide (p3 = low), decide (p4 = low), decide (p5 = low)][j]? = some b) : j < 6 ∧ b = decide ([p0, p1, p2, p3, p4, p5].getD j 0 = low) := by
  match j, h with
  | 0, h | 1, h | 2, h | 3, h | 4, h | 5, h => cases h; exact ⟨by decide, rfl⟩
  | n + 6, h => simp at h
abbrev lowsG (p0 p1 p2 p3 p4 p5 low : Int) : List Int := [(0:Int), 1, 2, 3, 4, 5].foldl (fun l k => if [p0, p1, p2, p3, p4, p5].getD k.toNat 0 = low then l ++ [k] else l) []
theorem first_is {p0 p1 p2 p3 p4 p5 low M : Int} {j : Nat} (hj1 : [decide (p0 = low), decide (p1 = low), decide (p2 = low), decide (p3 = low), decide (p4 = low), decide (p5 = low)][j]? = some true)
    (hj2 : ∀ i, i < j → [decide (p0 = low), decide (p1 = low), decide (p2 = low), decide (p3 = low), decide (p4 = low), decide (p5 = low)][i]? = some false)
    (hM : M ∈ lowsG p0 p1 p2 p3 p4 p5 low) (hm : ∀ a ∈ lowsG p0 p1 p2 p3 p4 p5 low, M ≤ a) : M = j := by
  obtain ⟨hj, e⟩ := lows_at hj1
  have e' := of_decide_eq_true e.symm
  have mj : (j : Int) ∈ [(0:Int), 1, 2, 3, 4, 5] := by
    simp only [List.mem_cons, List.not_mem_nil, or_false]; omega
  have h1 := hm j ((fold_mem _ _ _).mpr (.inr ⟨mj, by simpa using e'⟩))
  rcases (fold_mem _ _ _).mp hM with h | ⟨h2, h3⟩
  · cases h
  · have := rng6 h2
    rcases Int.lt_or_le M j with hlt | hle
    · have q := hj2 M.toNat (by omega)
      have q2 := (lows_at q).2
      exact absurd h3 (of_decide_eq_false q2.symm)
    · omega
theorem first_of {p0 p1 p2 p3 p4 p5 low : Int} (hm : low ∈ [p0, p1, p2, p3, p4, p5]) : ∃ j : Nat, [decide (p0 = low), decide (p1 = low), decide (p2 = low), decide (p3 = low), decide (p4 = low), decide (p5 = low)][j]? = some true := by
  simp only [List.mem_cons, List.not_mem_nil, or_false] at hm
  rcases hm with h | h | h | h | h | h
  · exact ⟨0, congrArg some (decide_eq_true h.symm)⟩
  · exact ⟨1, congrArg some (decide_eq_true h.symm)⟩
  · exact ⟨2, congrArg some (decide_eq_true h.symm)⟩
  · exact ⟨3, congrArg some (decide_eq_true h.symm)⟩
  · exact ⟨4, congrArg some (decide_eq_true h.symm)⟩
  · exact ⟨5, congrArg some (decide_eq_true h.symm)⟩
theorem lowsG_ne {p0 p1 p2 p3 p4 p5 low : Int} (hm : low ∈ [p0, p1, p2, p3, p4, p5]) : 0 < (lowsG p0 p1 p2 p3 p4 p5 low).length := by
  obtain ⟨j, hj⟩ := first_of hm
  obtain ⟨hl, e⟩ := lows_at hj
  have e' := of_decide_eq_true e.symm
  have mj : (j : Int) ∈ [(0:Int), 1, 2, 3, 4, 5] := by
    simp only [List.mem_cons, List.not_mem_nil, or_false]; omega
  exact List.length_pos_of_mem ((fold_mem (P := fun k => [p0, p1, p2, p3, p4, p5].getD k.toNat 0 = low) [(0:Int), 1, 2, 3, 4, 5] [] j).mpr (.inr ⟨mj, by simpa using e'⟩))
end Mine

-- part PlainF

namespace Mine
def rotI (j : Nat) : List Int := [((j % 6 : Nat) : Int), (((j + 1) % 6 : Nat) : Int), (((j + 2) % 6 : Nat) : Int), (((j + 3) % 6 : Nat) : Int), (((j + 4) % 6 : Nat) : Int), (((j + 5) % 6 : Nat) : Int)]
abbrev stp (st : List Int) (p : Int) : Int := st.getD p.toNat 0
abbrev zer : List Nat := [0, 0, 0, 0, 0, 0]
/-- what the law asks of a row, in plain numbers -/
structure Facts (st row : List Int) : Prop where
  laid : ∃ h0 h1 h2 h3 h4 h5 q0 q1 q2 q3 q4 q5 : Int, laidP st row 0 [] = [(h0, q0), (h1, q1), (h2, q2), (h3, q3), (h4, q4), (h5, q5)] ∧ 
    (∀ h ∈ [h0, h1, h2, h3, h4, h5], 0 ≤ h ∧ h ≤ 200) ∧ (∀ q ∈ [q0, q1, q2, q3, q4, q5], 0 ≤ q ∧ q < 6) ∧
    fixL st [q0, q1, q2, q3, q4, q5] 30 zer = some [h0.toNat, h1.toNat, h2.toNat, h3.toNat, h4.toNat, h5.toNat] ∧ 
    toldL st [q0, q1, q2, q3, q4, q5] [h0.toNat, h1.toNat, h2.toNat, h3.toNat, h4.toNat, h5.toNat] 6 [] [] 0 = some row ∧
    scan 0 (txt [stp st q0, stp st q1, stp st q2, stp st q3, stp st q4, stp st q5]) = true
  back : ∃ m0 m1 m2 m3 m4 m5 : Nat, ∃ r0 r1 r2 r3 r4 r5 : Int, fixL st row 30 zer = some [m0, m1, m2, m3, m4, m5] ∧ toldL st row [m0, m1, m2, m3, m4, m5] 6 [] [] 0 = some [r0, r1, r2, r3, r4, r5] ∧ (∀ q ∈ [r0, r1, r2, r3, r4, r5], 0 ≤ q ∧ q < 6) ∧
    (laidP st [r0, r1, r2, r3, r4, r5] 0 []).map (·.2) = row ∧ scan 0 (txt [stp st r0, stp st r1, stp st r2, stp st r3, stp st r4, stp st r5]) = true ∧ [m0, m1, m2, m3, m4, m5].Pairwise (· ≤ ·)
end Mine

-- part PlainA

namespace Mine
noncomputable section
def fc (x : Nat) (k : Nat → Bool) : Bool := Nat.rec (motive := fun _ => Bool) (k 0) (fun n _ => k (Nat.succ n)) x
def an (c x : Bool) : Bool := Bool.rec (motive := fun _ => Bool) false x c
def nth (l : List Nat) : Nat → Nat := List.rec (motive := fun _ => Nat → Nat) (fun _ => 0) (fun x _ ih n => Nat.rec (motive := fun _ => Nat) x (fun m _ => ih m) n) l
def eqL (a : List Nat) : List Nat → Bool := List.rec (motive := fun _ => List Nat → Bool) (fun b => List.rec (motive := fun _ => Bool) true (fun _ _ _ => false) b)
  (fun x _ ih b => List.rec (motive := fun _ => Bool) false (fun y r _ => an (Nat.beq x y) (ih r)) b) a
def insQ (x y : Nat) (l : List (Nat × Nat)) : List (Nat × Nat) := List.rec (motive := fun _ => List (Nat × Nat)) [(x, y)] (fun p r ih => Bool.rec (motive := fun _ => List (Nat × Nat)) ((x, y) :: p :: r) (p :: ih) (Nat.ble (Nat.succ p.1) x)) l
def laidW (ss : List Nat) : List Nat → List (Nat × Nat) → List (Nat × Nat) := List.rec (motive := fun _ => List Nat → List (Nat × Nat) → List (Nat × Nat)) (fun _ acc => acc)
  (fun h _ ih w acc => List.rec (motive := fun _ => List (Nat × Nat)) acc (fun s w' _ => ih w' (insQ h s acc)) w) ss
def leC (ls : List Nat) (h : Nat) : Nat := List.rec (motive := fun _ => Nat) 0 (fun x _ ih => Nat.add (Nat.sub 1 (Nat.sub x h)) ih) ls
def ltC (ls : List Nat) (h : Nat) : Nat := List.rec (motive := fun _ => Nat) 0 (fun x _ ih => Nat.add (Nat.sub 1 (Nat.sub (Nat.succ x) h)) ih) ls
def eqC (ls : List Nat) (h : Nat) : Nat := List.rec (motive := fun _ => Nat) 0 (fun x _ ih => Nat.add (Nat.sub 1 (Nat.add (Nat.sub x h) (Nat.sub h x))) ih) ls
def cm (a b : Nat) (k : Nat → Nat → Bool) : Bool := (fun d => k (Nat.sub a d) (Nat.add b d)) (Nat.sub a b)
def i1 (x a : Nat) (k : Nat → Nat → Bool) : Bool := cm a x k
def i2 (x a b : Nat) (k : Nat → Nat → Nat → Bool) : Bool := cm a x fun u v => i1 v b (k u)
def i3 (x a b c : Nat) (k : Nat → Nat → Nat → Nat → Bool) : Bool := cm a x fun u v => i2 v b c (k u)
def i4 (x a b c d : Nat) (k : Nat → Nat → Nat → Nat → Nat → Bool) : Bool := cm a x fun u v => i3 v b c d (k u)
def i5 (x a b c d e : Nat) (k : Nat → Nat → Nat → Nat → Nat → Nat → Bool) : Bool := cm a x fun u v => i4 v b c d e (k u)
def six (m0 m1 m2 m3 m4 m5 : Nat) (k : Nat → Nat → Nat → Nat → Nat → Nat → Bool) : Bool := i1 m1 m0 fun a0 a1 => i2 m2 a0 a1 fun a0 a1 a2 => i3 m3 a0 a1 a2 fun a0 a1 a2 a3 => i4 m4 a0 a1 a2 a3 fun a0 a1 a2 a3 a4 => i5 m5 a0 a1 a2 a3 a4 k
def fs (k : Nat → Nat → Nat → Nat → Nat → Nat → Bool) : Nat → Nat → Nat → Nat → Nat → Nat → Bool := fun z0 z1 z2 z3 z4 z5 => fc z0 fun z0 => fc z1 fun z1 => fc z2 fun z2 => fc z3 fun z3 => fc z4 fun z4 => fc z5 fun z5 => k z0 z1 z2 z3 z4 z5
def eq6 (a0 a1 a2 a3 a4 a5 b0 b1 b2 b3 b4 b5 : Nat) : Bool := an (Nat.beq a0 b0) (an (Nat.beq a1 b1) (an (Nat.beq a2 b2) (an (Nat.beq a3 b3) (an (Nat.beq a4 b4) (Nat.beq a5 b5)))))
def fixG (p0 q0 p1 q1 p2 q2 p3 q3 p4 q4 p5 q5 : Nat) (k : Nat → Nat → Nat → Nat → Nat → Nat → Bool) (f : Nat) : Nat → Nat → Nat → Nat → Nat → Nat → Bool := Nat.rec (motive := fun _ => Nat → Nat → Nat → Nat → Nat → Nat → Bool) (fun _ _ _ _ _ _ => false)
  (fun _ ih x0 x1 x2 x3 x4 x5 => six (Nat.sub (Nat.add x0 q0) p0) (Nat.sub (Nat.add x1 q1) p1) (Nat.sub (Nat.add x2 q2) p2) (Nat.sub (Nat.add x3 q3) p3) (Nat.sub (Nat.add x4 q4) p4) (Nat.sub (Nat.add x5 q5) p5) (fs fun z0 z1 z2 z3 z4 z5 => Bool.rec (motive := fun _ => Bool) (ih z0 z1 z2 z3 z4 z5) (k x0 x1 x2 x3 x4 x5) (eq6 z0 z1 z2 z3 z4 z5 x0 x1 x2 x3 x4 x5))) f
def toldN (ls ps qs is : List Nat) (k : List Nat → List Nat → Nat → Bool) (f : Nat) : List Nat → List Nat → Nat → Bool := Nat.rec (motive := fun _ => List Nat → List Nat → Nat → Bool) k
  (fun _ ih w ss h => (fun br c => an (Nat.ble c br) (fc (Nat.sub br c) fun sp => an (Nat.ble (ltC ls h) sp) (an (Nat.ble (nth ps sp) (Nat.add h (nth qs sp))) (an (Nat.ble h 200)
    (fc (Nat.sub (Nat.add h (nth qs sp)) (nth ps sp)) fun h' => ih (w ++ [nth is sp]) (ss ++ [h]) h'))))) (leC ls h) (Nat.succ (eqC ss h))) f
def snds (l : List (Nat × Nat)) : List Nat := List.rec (motive := fun _ => List Nat) [] (fun p _ ih => p.2 :: ih) l
def scn (p0 q0 p1 q1 p2 q2 p3 q3 p4 q4 p5 q5 : Nat) : Bool := an (Nat.ble p0 q0) (an (Nat.ble (Nat.add p0 p1) (Nat.add q0 q1)) (an (Nat.ble (Nat.add (Nat.add p0 p1) p2) (Nat.add (Nat.add q0 q1) q2)) (an (Nat.ble (Nat.add (Nat.add (Nat.add p0 p1) p2) p3) (Nat.add (Nat.add (Nat.add q0 q1) q2) q3))
  (an (Nat.ble (Nat.add (Nat.add (Nat.add (Nat.add p0 p1) p2) p3) p4) (Nat.add (Nat.add (Nat.add (Nat.add q0 q1) q2) q3) q4)) (Nat.beq (Nat.add (Nat.add (Nat.add (Nat.add (Nat.add p0 p1) p2) p3) p4) p5) (Nat.add (Nat.add (Nat.add (Nat.add (Nat.add q0 q1) q2) q3) q4) q5))))))
def body (h1 h2 h3 h4 h5 p0 i0 p1 i1 p2 i2 p3 i3 p4 i4 p5 i5 : Nat) : Bool :=
  fc (nth [h1, h2, h3, h4, h5, 0] i0) fun q0 => fc (nth [h1, h2, h3, h4, h5, 0] i1) fun q1 => fc (nth [h1, h2, h3, h4, h5, 0] i2) fun q2 => fc (nth [h1, h2, h3, h4, h5, 0] i3) fun q3 => fc (nth [h1, h2, h3, h4, h5, 0] i4) fun q4 => fc (nth [h1, h2, h3, h4, h5, 0] i5) fun q5 =>
  an (fixG p0 q0 p1 q1 p2 q2 p3 q3 p4 q4 p5 q5 (fun o0 o1 o2 o3 o4 o5 => an (eqL [o0, o1, o2, o3, o4, o5] [p0, p1, p2, p3, p4, p5]) (toldN [p0, p1, p2, p3, p4, p5] [p0, p1, p2, p3, p4, p5] [q0, q1, q2, q3, q4, q5] [i0, i1, i2, i3, i4, i5] (fun w _ _ => eqL w [0, 1, 2, 3, 4, 5]) 6 [] [] 0)) 30 0 0 0 0 0 0)
  (an (scn p0 q0 p1 q1 p2 q2 p3 q3 p4 q4 p5 q5)
  (fixG 0 h1 h1 h2 h2 h3 h3 h4 h4 h5 h5 0 (fun m0 m1 m2 m3 m4 m5 => an (an (Nat.ble m0 m1) (an (Nat.ble m1 m2) (an (Nat.ble m2 m3) (an (Nat.ble m3 m4) (Nat.ble m4 m5)))))
    (toldN [m0, m1, m2, m3, m4, m5] [0, h1, h2, h3, h4, h5] [h1, h2, h3, h4, h5, 0] [0, 1, 2, 3, 4, 5] (fun w ss hf => an (Nat.beq hf 0) (eqL (snds (laidW ss w [])) [0, 1, 2, 3, 4, 5])) 6 [] [] 0)) 30 0 0 0 0 0 0))
def chk (h1 h2 h3 h4 h5 : Nat) : Bool := match insQ h5 5 (insQ h4 4 (insQ h3 3 (insQ h2 2 (insQ h1 1 (insQ 0 0 []))))) with
  | [(p0, i0), (p1, i1), (p2, i2), (p3, i3), (p4, i4), (p5, i5) ] => body h1 h2 h3 h4 h5 p0 i0 p1 i1 p2 i2 p3 i3 p4 i4 p5 i5
  | _ => false
def near (a b : Nat) : Bool := an (Nat.ble a (Nat.add b 3)) (Nat.ble b (Nat.add a 3))
def orr (c x : Bool) : Bool := Bool.rec (motive := fun _ => Bool) x true c
def dfs : Nat → Nat → Bool → List Nat → Bool
  | 0, cur, used, acc => match acc with
    | [h5, h4, h3, h2, h1] => Bool.rec (motive := fun _ => Bool) (orr used (chk h1 h2 h3 h4 h5)) (chk h1 h2 h3 h4 h5) (near cur 0)
    | _ => false
  | k + 1, cur, used, acc => [0, 1, 2, 3, 4, 5, 6, 7, 8, 9, 10, 11, 12, 13, 14, 15].all fun x => fc x fun x => Bool.rec (motive := fun _ => Bool) (orr used (dfs k x true (x :: acc))) (dfs k x used (x :: acc)) (near cur x)
end
end Mine

-- part PlainB

namespace Mine
theorem fc_eq (x : Nat) (k : Nat → Bool) : fc x k = k x := by cases x <;> rfl
theorem an_iff {c x : Bool} : an c x = true ↔ c = true ∧ x = true := by cases c <;> simp [an]
theorem fs_eq {k : Nat → Nat → Nat → Nat → Nat → Nat → Bool} {a b c d e f : Nat} : fs k a b c d e f = k a b c d e f := by
  unfold fs; simp only [fc_eq]
theorem eqL_iff : ∀ {a b : List Nat}, eqL a b = true ↔ a = b
  | [], [] => ⟨fun _ => rfl, fun _ => rfl⟩
  | [], _ :: _ => ⟨fun h => (nomatch h), fun h => (nomatch h)⟩
  | _ :: _, [] => ⟨fun h => (nomatch h), fun h => (nomatch h)⟩
  | x :: a, y :: b => by
    show an (Nat.beq x y) (eqL a b) = true ↔ _
    rw [an_iff, eqL_iff, Nat.beq_eq, List.cons.injEq]
theorem eq6_iff {a0 a1 a2 a3 a4 a5 b0 b1 b2 b3 b4 b5 : Nat} : eq6 a0 a1 a2 a3 a4 a5 b0 b1 b2 b3 b4 b5 = true ↔ [a0, a1, a2, a3, a4, a5] = [b0, b1, b2, b3, b4, b5] := by
  unfold eq6
  simp only [an_iff, Nat.beq_eq, List.cons.injEq, and_true]
theorem nth_eq : ∀ (l : List Nat) (n : Nat), nth l n = l.getD n 0
  | [], n => by cases n <;> rfl
  | x :: l, 0 => rfl
  | x :: l, n + 1 => by
    show nth l n = _
    rw [nth_eq l n]; rfl
theorem insQ_cons (x y : Nat) (p : Nat × Nat) (r : List (Nat × Nat)) : insQ x y (p :: r) = if p.1 < x then p :: insQ x y r else (x, y) :: p :: r := by
  show Bool.rec (motive := fun _ => List (Nat × Nat)) ((x, y) :: p :: r) (p :: insQ x y r) (Nat.ble (Nat.succ p.1) x) = _
  by_cases h : p.1 < x
  · have e : Nat.ble (Nat.succ p.1) x = true := Nat.ble_eq.mpr h
    rw [if_pos h, e]
  · have e : Nat.ble (Nat.succ p.1) x = false := by
      cases q : Nat.ble (Nat.succ p.1) x with
      | false => rfl
      | true => exact absurd (Nat.ble_eq.mp q) h
    rw [if_neg h, e]
theorem insQ_all {P : Nat → Nat → Prop} {x y : Nat} (hp : P x y) : ∀ {l : List (Nat × Nat)}, (∀ p ∈ l, P p.1 p.2) → ∀ p ∈ insQ x y l, P p.1 p.2
  | [], _, p, h => by
    have e : p = (x, y) := List.mem_singleton.mp h
    rw [e]; exact hp
  | q :: r, hl, p, h => by
    rw [insQ_cons] at h
    split at h
    · rcases List.mem_cons.mp h with rfl | h
      · exact hl _ (.head _)
      · exact insQ_all hp (fun z hz => hl z (.tail _ hz)) p h
    · rcases List.mem_cons.mp h with rfl | h
      · exact hp
      · exact hl p h
theorem insQ_map {lab : Nat → Int} {x y : Nat} : ∀ l : List (Nat × Nat), (insQ x y l).map (fun p => ((p.1 : Int), lab p.2)) = insP (x : Int) (lab y) (l.map fun p => ((p.1 : Int), lab p.2))
  | [] => rfl
  | p :: r => by
    rw [insQ_cons, List.map_cons, insP]
    by_cases h : p.1 < x
    · rw [if_pos h, if_pos (by show (p.1 : Int) < x; omega), List.map_cons, insQ_map r]
    · rw [if_neg h, if_neg (by show ¬ (p.1 : Int) < x; omega)]; rfl
theorem leC_eq (h : Nat) : ∀ ls, leC ls h = brN h ls
  | [] => rfl
  | x :: ls => by
    show (1 - (x - h)) + leC ls h = _
    rw [leC_eq h ls]
    unfold brN
    by_cases q : x ≤ h
    · rw [List.filter_cons_of_pos (by simpa using q), List.length_cons]; omega
    · rw [List.filter_cons_of_neg (by simpa using q)]; omega
theorem ltC_eq (h : Nat) : ∀ ls, ltC ls h = blN h ls
  | [] => rfl
  | x :: ls => by
    show (1 - (x + 1 - h)) + ltC ls h = _
    rw [ltC_eq h ls]
    unfold blN
    by_cases q : x < h
    · rw [List.filter_cons_of_pos (by simpa using q), List.length_cons]; omega
    · rw [List.filter_cons_of_neg (by simpa using q)]; omega
theorem eqC_eq (h : Nat) : ∀ ss : List Nat, eqC ss h = (ss.map Int.ofNat).count (h : Int)
  | [] => rfl
  | x :: ss => by
    show (1 - ((x - h) + (h - x))) + eqC ss h = _
    rw [eqC_eq h ss, List.map_cons]
    rw [List.count_cons]
    by_cases q : x = h
    · subst q
      have e : (Int.ofNat x == (x : Int)) = true := beq_self_eq_true _
      rw [e, if_pos rfl]; omega
    · have e : (Int.ofNat x == (h : Int)) = false := beq_eq_false_iff_ne.mpr (fun e => q (Int.ofNat.inj e))
      rw [e, if_neg (by decide)]; omega
theorem brN_le (h : Nat) (ls : List Nat) : brN h ls ≤ ls.length := List.length_filter_le _ _
/-- insertion without a branch -/
def insM (x : Nat) : List Nat → List Nat
  | [] => [x]
  | y :: r => (y - (y - x)) :: insM (x + (y - x)) r
theorem insN_min {y : Nat} : ∀ {r : List Nat}, r.Pairwise (· ≤ ·) → (∀ z ∈ r, y ≤ z) → insN y r = y :: r
  | [], _, _ => rfl
  | z :: r, hs, hz => by
    obtain ⟨h1, h2⟩ := List.pairwise_cons.mp hs
    have hyz := hz z (.head _)
    unfold insN
    by_cases q : y < z
    · rw [if_pos q]
    · have e : y = z := by omega
      subst e
      rw [if_neg q, insN_min h2 h1]
theorem insM_eq : ∀ {l : List Nat} {x : Nat}, l.Pairwise (· ≤ ·) → insM x l = insN x l
  | [], _, _ => rfl
  | y :: r, x, hs => by
    obtain ⟨h1, h2⟩ := List.pairwise_cons.mp hs
    unfold insM
    rw [insM_eq h2]
    by_cases q : x < y
    · have e1 : y - (y - x) = x := by omega
      have e2 : x + (y - x) = y := by omega
      rw [e1, e2, insN_min h2 h1]
      show _ = if x < y then _ else _
      rw [if_pos q]
    · have e1 : y - (y - x) = y := by omega
      have e2 : x + (y - x) = x := by omega
      rw [e1, e2]
      show _ = if x < y then _ else _
      rw [if_neg q]
theorem i1_eq {x a : Nat} {k : Nat → Nat → Bool} {u v : Nat} (e : insM x [a] = [u, v]) : i1 x a k = k u v := by
  have e' : [a - (a - x), x + (a - x)] = [u, v] := e
  simp only [List.cons.injEq, and_true] at e'
  obtain ⟨rfl, rfl⟩ := e'; rfl
theorem i2_eq {x a b : Nat} {k : Nat → Nat → Nat → Bool} {u v w : Nat} (e : insM x [a, b] = [u, v, w]) : i2 x a b k = k u v w := by
  have e' : (a - (a - x)) :: insM (x + (a - x)) [b] = [u, v, w] := e
  rw [List.cons.injEq] at e'
  obtain ⟨rfl, e'⟩ := e'
  exact i1_eq e'
theorem i3_eq {x a b c : Nat} {k : Nat → Nat → Nat → Nat → Bool} {u v w y : Nat} (e : insM x [a, b, c] = [u, v, w, y]) : i3 x a b c k = k u v w y := by
  have e' : (a - (a - x)) :: insM (x + (a - x)) [b, c] = [u, v, w, y] := e
  rw [List.cons.injEq] at e'
  obtain ⟨rfl, e'⟩ := e'
  exact i2_eq e'
theorem i4_eq {x a b c d : Nat} {k : Nat → Nat → Nat → Nat → Nat → Bool} {u v w y z : Nat} (e : insM x [a, b, c, d] = [u, v, w, y, z]) : i4 x a b c d k = k u v w y z := by
  have e' : (a - (a - x)) :: insM (x + (a - x)) [b, c, d] = [u, v, w, y, z] := e
  rw [List.cons.injEq] at e'
  obtain ⟨rfl, e'⟩ := e'
  exact i3_eq e'
theorem i5_eq {x a b c d f : Nat} {k : Nat → Nat → Nat → Nat → Nat → Nat → Bool} {u v w y z t : Nat} (e : insM x [a, b, c, d, f] = [u, v, w, y, z, t]) : i5 x a b c d f k = k u v w y z t := by
  have e' : (a - (a - x)) :: insM (x + (a - x)) [b, c, d, f] = [u, v, w, y, z, t] := e
  rw [List.cons.injEq] at e'
  obtain ⟨rfl, e'⟩ := e'
  exact i4_eq e'
/-- six numbers laid in order -/
theorem six_spec (m0 m1 m2 m3 m4 m5 : Nat) : ∃ z0 z1 z2 z3 z4 z5, insN m5 (insN m4 (insN m3 (insN m2 (insN m1 (insN m0 []))))) = [z0, z1, z2, z3, z4, z5] ∧ ∀ k, six m0 m1 m2 m3 m4 m5 k = k z0 z1 z2 z3 z4 z5 := by
  have s0 : (insN m0 []).Pairwise (· ≤ ·) := insN_srt .nil
  have s1 := insN_srt (x := m1) s0
  have s2 := insN_srt (x := m2) s1
  have s3 := insN_srt (x := m3) s2
  have s4 := insN_srt (x := m4) s3
  have l0 : insN m0 [] = [m0] := rfl
  obtain ⟨a0, a1, e1⟩ : ∃ a0 a1, insN m1 (insN m0 []) = [a0, a1] := by
    have := insN_len m1 (insN m0 [])
    rw [l0] at this ⊢
    match insN m1 [m0], this with
    | [a, b], _ => exact ⟨_, _, rfl⟩
  obtain ⟨b0, b1, b2, e2⟩ : ∃ a0 a1 a2, insN m2 (insN m1 (insN m0 [])) = [a0, a1, a2] := by
    have := insN_len m2 (insN m1 (insN m0 []))
    rw [e1] at this ⊢
    match insN m2 [a0, a1], this with
    | [a, b, c], _ => exact ⟨_, _, _, rfl⟩
  obtain ⟨c0, c1, c2, c3, e3⟩ : ∃ a0 a1 a2 a3, insN m3 (insN m2 (insN m1 (insN m0 []))) = [a0, a1, a2, a3] := by
    have := insN_len m3 (insN m2 (insN m1 (insN m0 [])))
    rw [e2] at this ⊢
    match insN m3 [b0, b1, b2], this with
    | [a, b, c, d], _ => exact ⟨_, _, _, _, rfl⟩
  obtain ⟨d0, d1, d2, d3, d4, e4⟩ : ∃ a0 a1 a2 a3 a4, insN m4 (insN m3 (insN m2 (insN m1 (insN m0 [])))) = [a0, a1, a2, a3, a4] := by
    have := insN_len m4 (insN m3 (insN m2 (insN m1 (insN m0 []))))
    rw [e3] at this ⊢
    match insN m4 [c0, c1, c2, c3], this with
    | [a, b, c, d, e], _ => exact ⟨_, _, _, _, _, rfl⟩
  obtain ⟨z0, z1, z2, z3, z4, z5, e5⟩ : ∃ a0 a1 a2 a3 a4 a5, insN m5 (insN m4 (insN m3 (insN m2 (insN m1 (insN m0 []))))) = [a0, a1, a2, a3, a4, a5] := by
    have := insN_len m5 (insN m4 (insN m3 (insN m2 (insN m1 (insN m0 [])))))
    rw [e4] at this ⊢
    match insN m5 [d0, d1, d2, d3, d4], this with
    | [a, b, c, d, e, f], _ => exact ⟨_, _, _, _, _, _, rfl⟩
  refine ⟨z0, z1, z2, z3, z4, z5, e5, fun k => ?_⟩
  have f1 : insM m1 [m0] = [a0, a1] := (insM_eq s0).trans e1
  have f2 : insM m2 [a0, a1] = [b0, b1, b2] := by rw [← e1]; exact (insM_eq s1).trans e2
  have f3 : insM m3 [b0, b1, b2] = [c0, c1, c2, c3] := by rw [← e2]; exact (insM_eq s2).trans e3
  have f4 : insM m4 [c0, c1, c2, c3] = [d0, d1, d2, d3, d4] := by rw [← e3]; exact (insM_eq s3).trans e4
  have f5 : insM m5 [d0, d1, d2, d3, d4] = [z0, z1, z2, z3, z4, z5] := by rw [← e4]; exact (insM_eq s4).trans e5
  exact (i1_eq f1).trans ((i2_eq f2).trans ((i3_eq f3).trans ((i4_eq f4).trans (i5_eq f5))))
theorem mv_eq {x p q : Nat} {a : Int} (h : a = (q : Int) - p) : mv x a = x + q - p := by
  unfold mv; subst h
  split <;> omega
/-- the lines move until they stay -/
theorem fix_spec {st : List Int} {r0 r1 r2 r3 r4 r5 : Int} {p0 q0 p1 q1 p2 q2 p3 q3 p4 q4 p5 q5 : Nat} (e0 : st.getD r0.toNat 0 = (q0 : Int) - p0) (e1 : st.getD r1.toNat 0 = (q1 : Int) - p1) (e2 : st.getD r2.toNat 0 = (q2 : Int) - p2) (e3 : st.getD r3.toNat 0 = (q3 : Int) - p3) (e4 : st.getD r4.toNat 0 = (q4 : Int) - p4) (e5 : st.getD r5.toNat 0 = (q5 : Int) - p5) {k : Nat → Nat → Nat → Nat → Nat → Nat → Bool} :
    ∀ (f : Nat) (x0 x1 x2 x3 x4 x5 : Nat), fixG p0 q0 p1 q1 p2 q2 p3 q3 p4 q4 p5 q5 k f x0 x1 x2 x3 x4 x5 = true → ∃ o0 o1 o2 o3 o4 o5, fixL st [r0, r1, r2, r3, r4, r5] f [x0, x1, x2, x3, x4, x5] = some [o0, o1, o2, o3, o4, o5] ∧ k o0 o1 o2 o3 o4 o5 = true
  | 0, _, _, _, _, _, _, h => nomatch h
  | f + 1, x0, x1, x2, x3, x4, x5, h => by
    obtain ⟨z0, z1, z2, z3, z4, z5, ez, hz⟩ := six_spec (x0 + q0 - p0) (x1 + q1 - p1) (x2 + q2 - p2) (x3 + q3 - p3) (x4 + q4 - p4) (x5 + q5 - p5)
    have h' : six (x0 + q0 - p0) (x1 + q1 - p1) (x2 + q2 - p2) (x3 + q3 - p3) (x4 + q4 - p4) (x5 + q5 - p5) (fs fun z0 z1 z2 z3 z4 z5 => Bool.rec (motive := fun _ => Bool) (fixG p0 q0 p1 q1 p2 q2 p3 q3 p4 q4 p5 q5 k f z0 z1 z2 z3 z4 z5) (k x0 x1 x2 x3 x4 x5) (eq6 z0 z1 z2 z3 z4 z5 x0 x1 x2 x3 x4 x5)) = true := h
    rw [hz, fs_eq] at h'
    have ht : turnL st [x0, x1, x2, x3, x4, x5] [r0, r1, r2, r3, r4, r5] [] = [z0, z1, z2, z3, z4, z5] := by
      rw [← ez]
      show insN (mv x5 (st.getD r5.toNat 0)) (insN (mv x4 (st.getD r4.toNat 0)) (insN (mv x3 (st.getD r3.toNat 0)) (insN (mv x2 (st.getD r2.toNat 0)) (insN (mv x1 (st.getD r1.toNat 0)) (insN (mv x0 (st.getD r0.toNat 0)) []))))) = _
      rw [mv_eq e0, mv_eq e1, mv_eq e2, mv_eq e3, mv_eq e4, mv_eq e5]
    have hf : fixL st [r0, r1, r2, r3, r4, r5] (f + 1) [x0, x1, x2, x3, x4, x5] = if [z0, z1, z2, z3, z4, z5] = [x0, x1, x2, x3, x4, x5] then some [x0, x1, x2, x3, x4, x5] else fixL st [r0, r1, r2, r3, r4, r5] f [z0, z1, z2, z3, z4, z5] := by
      rw [fixL, ht]
    by_cases q : [z0, z1, z2, z3, z4, z5] = [x0, x1, x2, x3, x4, x5]
    · rw [eq6_iff.mpr q] at h'
      rw [if_pos q] at hf
      exact ⟨_, _, _, _, _, _, hf, h'⟩
    · have qe : eq6 z0 z1 z2 z3 z4 z5 x0 x1 x2 x3 x4 x5 = false := by
        cases c : eq6 z0 z1 z2 z3 z4 z5 x0 x1 x2 x3 x4 x5 with
        | false => rfl
        | true => exact absurd (eq6_iff.mp c) q
      rw [qe] at h'
      rw [if_neg q] at hf
      obtain ⟨o0, o1, o2, o3, o4, o5, g1, g2⟩ := fix_spec e0 e1 e2 e3 e4 e5 f z0 z1 z2 z3 z4 z5 h'
      exact ⟨o0, o1, o2, o3, o4, o5, hf.trans g1, g2⟩
/-- one step of the walk that is told back -/
theorem told_step {st : List Int} {lab : Nat → Int} {ls ps qs is : List Nat} {k : List Nat → List Nat → Nat → Bool} {f h : Nat} {w ss : List Nat} (hl : ls.length ≤ is.length) (hst : ∀ i, i < is.length → st.getD (lab (is.getD i 0)).toNat 0 = (qs.getD i 0 : Int) - (ps.getD i 0 : Nat))
    (hk : toldN ls ps qs is k (f + 1) w ss h = true) : ∃ sp h' : Nat, sp < is.length ∧ (h' : Int) = h + ((qs.getD sp 0 : Int) - (ps.getD sp 0 : Nat)) ∧ toldN ls ps qs is k f (w ++ [is.getD sp 0]) (ss ++ [h]) h' = true ∧
      toldL st (is.map lab) ls (f + 1) (w.map lab) (ss.map Int.ofNat) (h : Int) = toldL st (is.map lab) ls f ((w ++ [is.getD sp 0]).map lab) ((ss ++ [h]).map Int.ofNat) (h' : Int) := by
  have hk' : an (Nat.ble (Nat.succ (eqC ss h)) (leC ls h)) (fc (Nat.sub (leC ls h) (Nat.succ (eqC ss h))) fun sp => an (Nat.ble (ltC ls h) sp) (an (Nat.ble (nth ps sp) (Nat.add h (nth qs sp))) (an (Nat.ble h 200)
    (fc (Nat.sub (Nat.add h (nth qs sp)) (nth ps sp)) fun h' => toldN ls ps qs is k f (w ++ [nth is sp]) (ss ++ [h]) h')))) = true := hk
  simp only [an_iff, fc_eq, Nat.ble_eq] at hk'
  obtain ⟨a1, a2, a3, a4, a5⟩ := hk'
  generalize hsp : Nat.sub (leC ls h) (Nat.succ (eqC ss h)) = sp at a2 a3 a5
  have hsp' : leC ls h - (eqC ss h + 1) = sp := hsp
  have a1' : eqC ss h + 1 ≤ leC ls h := a1
  rw [leC_eq] at a1' hsp'
  rw [ltC_eq] at a2
  have hb := brN_le h ls
  have hlt : sp < is.length := by omega
  have a3' : ps.getD sp 0 ≤ h + qs.getD sp 0 := by rw [← nth_eq, ← nth_eq]; exact a3
  have a5' : toldN ls ps qs is k f (w ++ [is.getD sp 0]) (ss ++ [h]) (h + qs.getD sp 0 - ps.getD sp 0) = true := by rw [← nth_eq, ← nth_eq, ← nth_eq]; exact a5
  refine ⟨sp, h + qs.getD sp 0 - ps.getD sp 0, hlt, by omega, a5', ?_⟩
  rw [toldL, if_neg (by omega)]
  have ec : (((ss.map Int.ofNat).count (h : Int) : Nat) : Int) = (eqC ss h : Nat) := by rw [eqC_eq]
  have et : (brN (h : Int).toNat ls : Int) - 1 - (((ss.map Int.ofNat).count (h : Int) : Nat) : Int) = (sp : Int) := by
    rw [ec, Int.toNat_natCast]; omega
  rw [et, if_neg (by rw [Int.toNat_natCast]; omega), Int.toNat_natCast]
  have er : (is.map lab).getD sp 0 = lab (is.getD sp 0) := by
    rw [List.getD_eq_getElem?_getD, List.getD_eq_getElem?_getD, List.getElem?_map, List.getElem?_eq_getElem hlt]; rfl
  rw [er, hst sp hlt]
  have eh : (h : Int) + ((qs.getD sp 0 : Int) - (ps.getD sp 0 : Nat)) = ((h + qs.getD sp 0 - ps.getD sp 0 : Nat) : Int) := by omega
  rw [eh, List.map_append, List.map_append]
  rfl
end Mine

-- part PlainC

namespace Mine
theorem dfs_0 : dfs 4 0 false [0] = true := by decide +kernel
theorem dfs_1 : dfs 4 1 false [1] = true := by decide +kernel
theorem dfs_2 : dfs 4 2 false [2] = true := by decide +kernel
theorem dfs_3 : dfs 4 3 false [3] = true := by decide +kernel
theorem dfs_4 : dfs 4 4 true [4] = true := by decide +kernel
theorem dfs_5 : dfs 4 5 true [5] = true := by decide +kernel
theorem dfs_6 : dfs 4 6 true [6] = true := by decide +kernel
theorem dfs_7 : dfs 4 7 true [7] = true := by decide +kernel
theorem dfs_8 : dfs 4 8 true [8] = true := by decide +kernel
theorem dfs_9 : dfs 4 9 true [9] = true := by decide +kernel
theorem dfs_10 : dfs 4 10 true [10] = true := by decide +kernel
theorem dfs_11 : dfs 4 11 true [11] = true := by decide +kernel
theorem dfs_12 : dfs 4 12 true [12] = true := by decide +kernel
theorem dfs_13 : dfs 4 13 true [13] = true := by decide +kernel
theorem dfs_14 : dfs 4 14 true [14] = true := by decide +kernel
theorem dfs_15 : dfs 4 15 true [15] = true := by decide +kernel

end Mine

-- part PlainD

namespace Mine
theorem snds_eq : ∀ l : List (Nat × Nat), snds l = l.map (·.2)
  | [] => rfl
  | p :: l => by show p.2 :: snds l = _; rw [snds_eq l]; rfl
inductive Told6 (st : List Int) (lab : Nat → Int) (ls ps qs is : List Nat) (k : List Nat → List Nat → Nat → Bool) : Prop
  | mk (s0 s1 s2 s3 s4 s5 e1 e2 e3 e4 e5 e6 : Nat) (b0 : s0 < is.length) (b1 : s1 < is.length) (b2 : s2 < is.length) (b3 : s3 < is.length) (b4 : s4 < is.length) (b5 : s5 < is.length) (c0 : (e1 : Int) = (0 : Nat) + ((qs.getD s0 0 : Int) - (ps.getD s0 0 : Nat))) (c1 : (e2 : Int) = e1 + ((qs.getD s1 0 : Int) - (ps.getD s1 0 : Nat))) (c2 : (e3 : Int) = e2 + ((qs.getD s2 0 : Int) - (ps.getD s2 0 : Nat))) (c3 : (e4 : Int) = e3 + ((qs.getD s3 0 : Int) - (ps.getD s3 0 : Nat))) (c4 : (e5 : Int) = e4 + ((qs.getD s4 0 : Int) - (ps.getD s4 0 : Nat))) (c5 : (e6 : Int) = e5 + ((qs.getD s5 0 : Int) - (ps.getD s5 0 : Nat)))
      (hT : toldL st (is.map lab) ls 6 [] [] 0 = some [lab (is.getD s0 0), lab (is.getD s1 0), lab (is.getD s2 0), lab (is.getD s3 0), lab (is.getD s4 0), lab (is.getD s5 0)]) (hW : k [is.getD s0 0, is.getD s1 0, is.getD s2 0, is.getD s3 0, is.getD s4 0, is.getD s5 0] [0, e1, e2, e3, e4, e5] e6 = true) : Told6 st lab ls ps qs is k
theorem told6 {st : List Int} {lab : Nat → Int} {ls ps qs is : List Nat} {k : List Nat → List Nat → Nat → Bool} (hl : ls.length ≤ is.length) (hst : ∀ i, i < is.length → st.getD (lab (is.getD i 0)).toNat 0 = (qs.getD i 0 : Int) - (ps.getD i 0 : Nat))
    (hk : toldN ls ps qs is k 6 [] [] 0 = true) : Told6 st lab ls ps qs is k := by
  obtain ⟨s0, e1, b0, c0, k1, g0⟩ := told_step hl hst hk
  obtain ⟨s1, e2, b1, c1, k2, g1⟩ := told_step hl hst k1
  obtain ⟨s2, e3, b2, c2, k3, g2⟩ := told_step hl hst k2
  obtain ⟨s3, e4, b3, c3, k4, g3⟩ := told_step hl hst k3
  obtain ⟨s4, e5, b4, c4, k5, g4⟩ := told_step hl hst k4
  obtain ⟨s5, e6, b5, c5, k6, g5⟩ := told_step hl hst k5
  exact .mk s0 s1 s2 s3 s4 s5 e1 e2 e3 e4 e5 e6 b0 b1 b2 b3 b4 b5 c0 c1 c2 c3 c4 c5 (g0.trans (g1.trans (g2.trans (g3.trans (g4.trans g5))))) k6
theorem up15 {p : Nat} (h : p ≤ 15) : 0 ≤ (p : Int) ∧ (p : Int) ≤ 200 := ⟨Int.natCast_nonneg p, Int.ofNat_le.mpr (Nat.le_trans h (by decide))⟩
theorem ok_first {x : Int} {p q : Nat} (hx : x = (q : Int) - (p : Nat)) (h : p ≤ q) : 0 ≤ 0 + x ∧ 0 + x = (q : Int) - (p : Nat) := by omega
theorem ok_next {o x : Int} {P Q p q : Nat} (ho : o = (Q : Int) - (P : Nat)) (hx : x = (q : Int) - (p : Nat)) (h : P + p ≤ Q + q) : 0 ≤ o + x ∧ o + x = ((Q + q : Nat) : Int) - ((P + p : Nat) : Int) := by omega
theorem ok_last {o : Int} {P Q : Nat} (ho : o = (Q : Int) - (P : Nat)) (h : P = Q) : o = 0 := by rw [ho, h, Int.sub_self]
theorem nn {e : Nat} {y : Int} (h : (e : Int) = y) : 0 ≤ y := h ▸ Int.natCast_nonneg e
theorem below16 {x : Nat} (h : x ≤ 15) : x ∈ [0, 1, 2, 3, 4, 5, 6, 7, 8, 9, 10, 11, 12, 13, 14, 15] := (by decide +kernel : ∀ x, x < 16 → x ∈ [0, 1, 2, 3, 4, 5, 6, 7, 8, 9, 10, 11, 12, 13, 14, 15]) x (Nat.lt_succ_of_le h)
theorem pw6 {m0 m1 m2 m3 m4 m5 : Nat} (h0 : m0 ≤ m1) (h1 : m1 ≤ m2) (h2 : m2 ≤ m3) (h3 : m3 ≤ m4) (h4 : m4 ≤ m5) : [m0, m1, m2, m3, m4, m5].Pairwise (· ≤ ·) := by
  have a2 := Nat.le_trans h0 h1
  have a3 := Nat.le_trans a2 h2
  have a4 := Nat.le_trans a3 h3
  have a5 := Nat.le_trans a4 h4
  have b3 := Nat.le_trans h1 h2
  have b4 := Nat.le_trans b3 h3
  have b5 := Nat.le_trans b4 h4
  have c4 := Nat.le_trans h2 h3
  have c5 := Nat.le_trans c4 h4
  have d5 := Nat.le_trans h3 h4
  simp only [List.pairwise_cons, List.forall_mem_cons, List.not_mem_nil, false_imp_iff, implies_true, and_true, List.Pairwise.nil, h0, h1, h2, h3, h4, a2, a3, a4, a5, b3, b4, b5, c4, c5, d5]
theorem laid_of {st : List Int} {lab : Nat → Int} {w0 w1 w2 w3 w4 w5 e1 e2 e3 e4 e5 : Nat} (c1 : (e1 : Int) = 0 + st.getD (lab w0).toNat 0) (c2 : (e2 : Int) = e1 + st.getD (lab w1).toNat 0) (c3 : (e3 : Int) = e2 + st.getD (lab w2).toNat 0) (c4 : (e4 : Int) = e3 + st.getD (lab w3).toNat 0) (c5 : (e5 : Int) = e4 + st.getD (lab w4).toNat 0) :
    laidP st [lab w0, lab w1, lab w2, lab w3, lab w4, lab w5] 0 [] = (insQ e5 w5 (insQ e4 w4 (insQ e3 w3 (insQ e2 w2 (insQ e1 w1 (insQ 0 w0 [])))))).map (fun p => ((p.1 : Int), lab p.2)) := by
  rw [insQ_map, insQ_map, insQ_map, insQ_map, insQ_map, insQ_map]
  simp only [laidP]
  rw [c5, c4, c3, c2, c1]
  rfl
theorem chk_facts {h1 h2 h3 h4 h5 : Nat} (hc : chk h1 h2 h3 h4 h5 = true) (b1 : h1 ≤ 15) (b2 : h2 ≤ 15) (b3 : h3 ≤ 15) (b4 : h4 ≤ 15) (b5 : h5 ≤ 15) {st : List Int} {lab : Nat → Int}
    (hst : ∀ i, i < 6 → st.getD (lab i).toNat 0 = ([h1, h2, h3, h4, h5, 0].getD i 0 : Int) - ([0, h1, h2, h3, h4, h5].getD i 0 : Nat)) (hlab : ∀ i, i < 6 → 0 ≤ lab i ∧ lab i < 6) : Facts st [lab 0, lab 1, lab 2, lab 3, lab 4, lab 5] := by
  have t0 : st.getD (lab 0).toNat 0 = ((h1 : Nat) : Int) - ((0 : Nat) : Int) := hst 0 (by decide)
  have t1 : st.getD (lab 1).toNat 0 = ((h2 : Nat) : Int) - ((h1 : Nat) : Int) := hst 1 (by decide)
  have t2 : st.getD (lab 2).toNat 0 = ((h3 : Nat) : Int) - ((h2 : Nat) : Int) := hst 2 (by decide)
  have t3 : st.getD (lab 3).toNat 0 = ((h4 : Nat) : Int) - ((h3 : Nat) : Int) := hst 3 (by decide)
  have t4 : st.getD (lab 4).toNat 0 = ((h5 : Nat) : Int) - ((h4 : Nat) : Int) := hst 4 (by decide)
  have t5 : st.getD (lab 5).toNat 0 = ((0 : Nat) : Int) - ((h5 : Nat) : Int) := hst 5 (by decide)
  have hall : ∀ p ∈ insQ h5 5 (insQ h4 4 (insQ h3 3 (insQ h2 2 (insQ h1 1 (insQ 0 0 []))))), p.2 < 6 ∧ p.1 = [0, h1, h2, h3, h4, h5].getD p.2 0 ∧ p.1 ≤ 15 := by
    refine insQ_all (P := fun x y => y < 6 ∧ x = [0, h1, h2, h3, h4, h5].getD y 0 ∧ x ≤ 15) (x := h5) (y := 5) ⟨by decide, rfl, b5⟩ (insQ_all (P := fun x y => y < 6 ∧ x = [0, h1, h2, h3, h4, h5].getD y 0 ∧ x ≤ 15) (x := h4) (y := 4) ⟨by decide, rfl, b4⟩ (insQ_all (P := fun x y => y < 6 ∧ x = [0, h1, h2, h3, h4, h5].getD y 0 ∧ x ≤ 15) (x := h3) (y := 3) ⟨by decide, rfl, b3⟩ (insQ_all (P := fun x y => y < 6 ∧ x = [0, h1, h2, h3, h4, h5].getD y 0 ∧ x ≤ 15) (x := h2) (y := 2) ⟨by decide, rfl, b2⟩ (insQ_all (P := fun x y => y < 6 ∧ x = [0, h1, h2, h3, h4, h5].getD y 0 ∧ x ≤ 15) (x := h1) (y := 1) ⟨by decide, rfl, b1⟩ (insQ_all (P := fun x y => y < 6 ∧ x = [0, h1, h2, h3, h4, h5].getD y 0 ∧ x ≤ 15) (x := 0) (y := 0) (l := []) ⟨by decide, rfl, by decide⟩ (fun p h => nomatch h))))))
  have hlaid := laid_of (st := st) (lab := lab) (w0 := 0) (w1 := 1) (w2 := 2) (w3 := 3) (w4 := 4) (w5 := 5) (e1 := h1) (e2 := h2) (e3 := h3) (e4 := h4) (e5 := h5) (by omega) (by omega) (by omega) (by omega) (by omega)
  unfold chk at hc
  generalize insQ h5 5 (insQ h4 4 (insQ h3 3 (insQ h2 2 (insQ h1 1 (insQ 0 0 []))))) = L at hc hall hlaid
  match L, hc, hall, hlaid with
  | [(p0, i0), (p1, i1), (p2, i2), (p3, i3), (p4, i4), (p5, i5)], hc, hall, hlaid =>
    simp only [List.forall_mem_cons] at hall
    obtain ⟨⟨il0, pe0, pl0⟩, ⟨il1, pe1, pl1⟩, ⟨il2, pe2, pl2⟩, ⟨il3, pe3, pl3⟩, ⟨il4, pe4, pl4⟩, ⟨il5, pe5, pl5⟩, _⟩ := hall
    have hc' : body h1 h2 h3 h4 h5 p0 i0 p1 i1 p2 i2 p3 i3 p4 i4 p5 i5 = true := hc
    unfold body at hc'
    simp only [fc_eq, an_iff] at hc'
    obtain ⟨f1, fsc, f2⟩ := hc'
    obtain ⟨q0, eq0⟩ : ∃ q, q = nth [h1, h2, h3, h4, h5, 0] i0 := ⟨_, rfl⟩
    rw [← eq0] at f1 fsc
    have u0 : st.getD (lab i0).toNat 0 = (q0 : Int) - (p0 : Nat) := by rw [hst i0 il0, eq0, nth_eq, pe0]
    obtain ⟨q1, eq1⟩ : ∃ q, q = nth [h1, h2, h3, h4, h5, 0] i1 := ⟨_, rfl⟩
    rw [← eq1] at f1 fsc
    have u1 : st.getD (lab i1).toNat 0 = (q1 : Int) - (p1 : Nat) := by rw [hst i1 il1, eq1, nth_eq, pe1]
    obtain ⟨q2, eq2⟩ : ∃ q, q = nth [h1, h2, h3, h4, h5, 0] i2 := ⟨_, rfl⟩
    rw [← eq2] at f1 fsc
    have u2 : st.getD (lab i2).toNat 0 = (q2 : Int) - (p2 : Nat) := by rw [hst i2 il2, eq2, nth_eq, pe2]
    obtain ⟨q3, eq3⟩ : ∃ q, q = nth [h1, h2, h3, h4, h5, 0] i3 := ⟨_, rfl⟩
    rw [← eq3] at f1 fsc
    have u3 : st.getD (lab i3).toNat 0 = (q3 : Int) - (p3 : Nat) := by rw [hst i3 il3, eq3, nth_eq, pe3]
    obtain ⟨q4, eq4⟩ : ∃ q, q = nth [h1, h2, h3, h4, h5, 0] i4 := ⟨_, rfl⟩
    rw [← eq4] at f1 fsc
    have u4 : st.getD (lab i4).toNat 0 = (q4 : Int) - (p4 : Nat) := by rw [hst i4 il4, eq4, nth_eq, pe4]
    obtain ⟨q5, eq5⟩ : ∃ q, q = nth [h1, h2, h3, h4, h5, 0] i5 := ⟨_, rfl⟩
    rw [← eq5] at f1 fsc
    have u5 : st.getD (lab i5).toNat 0 = (q5 : Int) - (p5 : Nat) := by rw [hst i5 il5, eq5, nth_eq, pe5]
    constructor
    · obtain ⟨o0, o1, o2, o3, o4, o5, ef, ek⟩ := fix_spec u0 u1 u2 u3 u4 u5 30 0 0 0 0 0 0 f1
      simp only [an_iff] at ek
      obtain ⟨eo, et⟩ := ek
      rw [eqL_iff] at eo
      rw [eo] at ef
      obtain ⟨s0, s1, s2, s3, s4, s5, e1, e2, e3, e4, e5, e6, _, _, _, _, _, _, _, _, _, _, _, _, hT, hW⟩ := told6 (st := st) (lab := lab) (ls := [p0, p1, p2, p3, p4, p5]) (is := [i0, i1, i2, i3, i4, i5]) (Nat.le_refl 6) (fun i hi => by
        match i, hi with
        | 0, _ => exact u0
        | 1, _ => exact u1
        | 2, _ => exact u2
        | 3, _ => exact u3
        | 4, _ => exact u4
        | 5, _ => exact u5) et
      rw [eqL_iff] at hW
      have hW2 := congrArg (List.map lab) hW
      refine ⟨(p0 : Int), (p1 : Int), (p2 : Int), (p3 : Int), (p4 : Int), (p5 : Int), lab i0, lab i1, lab i2, lab i3, lab i4, lab i5, hlaid, ?_, ?_, ef, ?_, ?_⟩
      · simp only [List.forall_mem_cons]
        exact ⟨up15 pl0, up15 pl1, up15 pl2, up15 pl3, up15 pl4, up15 pl5, fun _ h => nomatch h⟩
      · simp only [List.forall_mem_cons]
        exact ⟨hlab i0 il0, hlab i1 il1, hlab i2 il2, hlab i3 il3, hlab i4 il4, hlab i5 il5, fun _ h => nomatch h⟩
      · exact hT.trans (congrArg some hW2)
      · unfold scn at fsc
        simp only [an_iff, Nat.ble_eq, Nat.beq_eq, Nat.add_eq] at fsc
        show scan 0 (txt [st.getD (lab i0).toNat 0, st.getD (lab i1).toNat 0, st.getD (lab i2).toNat 0, st.getD (lab i3).toNat 0, st.getD (lab i4).toNat 0, st.getD (lab i5).toNat 0]) = true
        obtain ⟨f0, f1, f2, f3, f4, f5⟩ := fsc
        have k0 := ok_first u0 f0
        have k1 := ok_next k0.2 u1 f1
        have k2 := ok_next k1.2 u2 f2
        have k3 := ok_next k2.2 u3 f3
        have k4 := ok_next k3.2 u4 f4
        have k5 := ok_next k4.2 u5 (Nat.le_of_eq f5)
        exact (scan_okS _ _ (Int.le_refl 0)).mpr ⟨k0.1, k1.1, k2.1, k3.1, k4.1, k5.1, ok_last k5.2 f5⟩
    · obtain ⟨m0, m1, m2, m3, m4, m5, ef, ek⟩ := fix_spec t0 t1 t2 t3 t4 t5 30 0 0 0 0 0 0 f2
      simp only [an_iff, Nat.ble_eq] at ek
      obtain ⟨⟨sm0, sm1, sm2, sm3, sm4⟩, et⟩ := ek
      have id6 : ∀ s, s < 6 → [0, 1, 2, 3, 4, 5].getD s 0 = s := fun s hs => by
        match s, hs with
        | 0, _ | 1, _ | 2, _ | 3, _ | 4, _ | 5, _ => rfl
      obtain ⟨s0, s1, s2, s3, s4, s5, e1, e2, e3, e4, e5, e6, sl0, sl1, sl2, sl3, sl4, sl5, c0, c1, c2, c3, c4, c5, hT, hW⟩ := told6 (st := st) (lab := lab) (ls := [m0, m1, m2, m3, m4, m5]) (is := [0, 1, 2, 3, 4, 5]) (Nat.le_refl 6) (fun i hi => by
        rw [id6 i hi]; exact hst i hi) et
      rw [id6 s0 sl0, id6 s1 sl1, id6 s2 sl2, id6 s3 sl3, id6 s4 sl4, id6 s5 sl5] at hT hW
      simp only [an_iff, Nat.beq_eq] at hW
      obtain ⟨hz, hW⟩ := hW
      rw [eqL_iff, snds_eq] at hW
      have v0 : (e1 : Int) = 0 + st.getD (lab s0).toNat 0 := by rw [hst s0 sl0]; exact c0
      have v1 : (e2 : Int) = e1 + st.getD (lab s1).toNat 0 := by rw [hst s1 sl1]; exact c1
      have v2 : (e3 : Int) = e2 + st.getD (lab s2).toNat 0 := by rw [hst s2 sl2]; exact c2
      have v3 : (e4 : Int) = e3 + st.getD (lab s3).toNat 0 := by rw [hst s3 sl3]; exact c3
      have v4 : (e5 : Int) = e4 + st.getD (lab s4).toNat 0 := by rw [hst s4 sl4]; exact c4
      have v5 : (e6 : Int) = e5 + st.getD (lab s5).toNat 0 := by rw [hst s5 sl5]; exact c5
      have hl2 := laid_of (st := st) (lab := lab) (w5 := s5) v0 v1 v2 v3 v4
      have hW' : List.map (·.2) (insQ e5 s5 (insQ e4 s4 (insQ e3 s3 (insQ e2 s2 (insQ e1 s1 (insQ 0 s0 [])))))) = [0, 1, 2, 3, 4, 5] := hW
      refine ⟨m0, m1, m2, m3, m4, m5, lab s0, lab s1, lab s2, lab s3, lab s4, lab s5, ef, hT, ?_, ?_, ?_, ?_⟩
      · simp only [List.forall_mem_cons]
        exact ⟨hlab s0 sl0, hlab s1 sl1, hlab s2 sl2, hlab s3 sl3, hlab s4 sl4, hlab s5 sl5, fun _ h => nomatch h⟩
      · rw [hl2, List.map_map]
        have hm := congrArg (List.map lab) hW'
        rw [List.map_map] at hm
        exact hm
      · show scan 0 (txt [st.getD (lab s0).toNat 0, st.getD (lab s1).toNat 0, st.getD (lab s2).toNat 0, st.getD (lab s3).toNat 0, st.getD (lab s4).toNat 0, st.getD (lab s5).toNat 0]) = true
        have k1 := v1.trans (congrArg (· + _) v0)
        have k2 := v2.trans (congrArg (· + _) k1)
        have k3 := v3.trans (congrArg (· + _) k2)
        have k4 := v4.trans (congrArg (· + _) k3)
        have k5 := v5.trans (congrArg (· + _) k4)
        exact (scan_okS _ _ (Int.le_refl 0)).mpr ⟨nn v0, nn k1, nn k2, nn k3, nn k4, nn k5, k5.symm.trans (congrArg Int.ofNat hz)⟩
      · exact pw6 sm0 sm1 sm2 sm3 sm4
theorem near_iff {a b : Nat} : near a b = true ↔ a ≤ b + 3 ∧ b ≤ a + 3 := by
  unfold near
  simp only [an_iff, Nat.ble_eq, Nat.add_eq]
theorem dfs_turn {k cur : Nat} {u : Bool} {acc : List Nat} (h : dfs (k + 1) cur u acc = true) {x : Nat} (hx : x ≤ 15) : Bool.rec (motive := fun _ => Bool) (orr u (dfs k x true (x :: acc))) (dfs k x u (x :: acc)) (near cur x) = true := by
  have h' : ([0, 1, 2, 3, 4, 5, 6, 7, 8, 9, 10, 11, 12, 13, 14, 15].all fun x => fc x fun x => Bool.rec (motive := fun _ => Bool) (orr u (dfs k x true (x :: acc))) (dfs k x u (x :: acc)) (near cur x)) = true := h
  have q := List.all_eq_true.mp h' x (below16 hx)
  rw [fc_eq] at q
  exact q
theorem walkN {k cur : Nat} {u : Bool} {acc : List Nat} (h : dfs (k + 1) cur u acc = true) {x : Nat} (hx : x ≤ 15) (hn : near cur x = true) : dfs k x u (x :: acc) = true := by
  have q := dfs_turn h hx
  rw [hn] at q; exact q
theorem walkB {k cur : Nat} {acc : List Nat} (h : dfs (k + 1) cur false acc = true) {x : Nat} (hx : x ≤ 15) : ∃ u, dfs k x u (x :: acc) = true := by
  have q := dfs_turn h hx
  cases hn : near cur x with
  | true => rw [hn] at q; exact ⟨_, q⟩
  | false => rw [hn] at q; exact ⟨true, q⟩
theorem endN {cur h1 h2 h3 h4 h5 : Nat} {u : Bool} (h : dfs 0 cur u [h5, h4, h3, h2, h1] = true) (hn : near cur 0 = true) : chk h1 h2 h3 h4 h5 = true := by
  have q : Bool.rec (motive := fun _ => Bool) (orr u (chk h1 h2 h3 h4 h5)) (chk h1 h2 h3 h4 h5) (near cur 0) = true := h
  rw [hn] at q; exact q
theorem endB {cur h1 h2 h3 h4 h5 : Nat} (h : dfs 0 cur false [h5, h4, h3, h2, h1] = true) : chk h1 h2 h3 h4 h5 = true := by
  have q : Bool.rec (motive := fun _ => Bool) (orr false (chk h1 h2 h3 h4 h5)) (chk h1 h2 h3 h4 h5) (near cur 0) = true := h
  cases hn : near cur 0 with
  | true => rw [hn] at q; exact q
  | false => rw [hn] at q; exact q
theorem topN {x : Nat} (h : x ≤ 3) : dfs 4 x false [x] = true := by
  match x, h with
  | 0, _ => exact dfs_0
  | 1, _ => exact dfs_1
  | 2, _ => exact dfs_2
  | 3, _ => exact dfs_3
theorem topB {x : Nat} (h : x ≤ 15) : ∃ u, dfs 4 x u [x] = true := by
  match x, h with
  | 0, _ => exact ⟨_, dfs_0⟩
  | 1, _ => exact ⟨_, dfs_1⟩
  | 2, _ => exact ⟨_, dfs_2⟩
  | 3, _ => exact ⟨_, dfs_3⟩
  | 4, _ => exact ⟨_, dfs_4⟩
  | 5, _ => exact ⟨_, dfs_5⟩
  | 6, _ => exact ⟨_, dfs_6⟩
  | 7, _ => exact ⟨_, dfs_7⟩
  | 8, _ => exact ⟨_, dfs_8⟩
  | 9, _ => exact ⟨_, dfs_9⟩
  | 10, _ => exact ⟨_, dfs_10⟩
  | 11, _ => exact ⟨_, dfs_11⟩
  | 12, _ => exact ⟨_, dfs_12⟩
  | 13, _ => exact ⟨_, dfs_13⟩
  | 14, _ => exact ⟨_, dfs_14⟩
  | 15, _ => exact ⟨_, dfs_15⟩
theorem cover0 {h1 h2 h3 h4 h5 : Nat} (b1 : h1 ≤ 15) (b2 : h2 ≤ 15) (b3 : h3 ≤ 15) (b4 : h4 ≤ 15) (b5 : h5 ≤ 15) (n1 : h1 ≤ h2 + 3 ∧ h2 ≤ h1 + 3) (n2 : h2 ≤ h3 + 3 ∧ h3 ≤ h2 + 3) (n3 : h3 ≤ h4 + 3 ∧ h4 ≤ h3 + 3) (n4 : h4 ≤ h5 + 3 ∧ h5 ≤ h4 + 3) (n5 : h5 ≤ 0 + 3 ∧ 0 ≤ h5 + 3) : chk h1 h2 h3 h4 h5 = true := by
  obtain ⟨u, d0⟩ := topB b1
  have d1 := walkN d0 b2 (near_iff.mpr n1)
  have d2 := walkN d1 b3 (near_iff.mpr n2)
  have d3 := walkN d2 b4 (near_iff.mpr n3)
  have d4 := walkN d3 b5 (near_iff.mpr n4)
  exact endN d4 (near_iff.mpr n5)
theorem cover1 {h1 h2 h3 h4 h5 : Nat} (b1 : h1 ≤ 15) (b2 : h2 ≤ 15) (b3 : h3 ≤ 15) (b4 : h4 ≤ 15) (b5 : h5 ≤ 15) (n0 : 0 ≤ h1 + 3 ∧ h1 ≤ 0 + 3) (n2 : h2 ≤ h3 + 3 ∧ h3 ≤ h2 + 3) (n3 : h3 ≤ h4 + 3 ∧ h4 ≤ h3 + 3) (n4 : h4 ≤ h5 + 3 ∧ h5 ≤ h4 + 3) (n5 : h5 ≤ 0 + 3 ∧ 0 ≤ h5 + 3) : chk h1 h2 h3 h4 h5 = true := by
  have d0 := topN (x := h1) (by omega)
  obtain ⟨u, d1⟩ := walkB d0 b2
  have d2 := walkN d1 b3 (near_iff.mpr n2)
  have d3 := walkN d2 b4 (near_iff.mpr n3)
  have d4 := walkN d3 b5 (near_iff.mpr n4)
  exact endN d4 (near_iff.mpr n5)
theorem cover2 {h1 h2 h3 h4 h5 : Nat} (b1 : h1 ≤ 15) (b2 : h2 ≤ 15) (b3 : h3 ≤ 15) (b4 : h4 ≤ 15) (b5 : h5 ≤ 15) (n0 : 0 ≤ h1 + 3 ∧ h1 ≤ 0 + 3) (n1 : h1 ≤ h2 + 3 ∧ h2 ≤ h1 + 3) (n3 : h3 ≤ h4 + 3 ∧ h4 ≤ h3 + 3) (n4 : h4 ≤ h5 + 3 ∧ h5 ≤ h4 + 3) (n5 : h5 ≤ 0 + 3 ∧ 0 ≤ h5 + 3) : chk h1 h2 h3 h4 h5 = true := by
  have d0 := topN (x := h1) (by omega)
  have d1 := walkN d0 b2 (near_iff.mpr n1)
  obtain ⟨u, d2⟩ := walkB d1 b3
  have d3 := walkN d2 b4 (near_iff.mpr n3)
  have d4 := walkN d3 b5 (near_iff.mpr n4)
  exact endN d4 (near_iff.mpr n5)
theorem cover3 {h1 h2 h3 h4 h5 : Nat} (b1 : h1 ≤ 15) (b2 : h2 ≤ 15) (b3 : h3 ≤ 15) (b4 : h4 ≤ 15) (b5 : h5 ≤ 15) (n0 : 0 ≤ h1 + 3 ∧ h1 ≤ 0 + 3) (n1 : h1 ≤ h2 + 3 ∧ h2 ≤ h1 + 3) (n2 : h2 ≤ h3 + 3 ∧ h3 ≤ h2 + 3) (n4 : h4 ≤ h5 + 3 ∧ h5 ≤ h4 + 3) (n5 : h5 ≤ 0 + 3 ∧ 0 ≤ h5 + 3) : chk h1 h2 h3 h4 h5 = true := by
  have d0 := topN (x := h1) (by omega)
  have d1 := walkN d0 b2 (near_iff.mpr n1)
  have d2 := walkN d1 b3 (near_iff.mpr n2)
  obtain ⟨u, d3⟩ := walkB d2 b4
  have d4 := walkN d3 b5 (near_iff.mpr n4)
  exact endN d4 (near_iff.mpr n5)
theorem cover4 {h1 h2 h3 h4 h5 : Nat} (b1 : h1 ≤ 15) (b2 : h2 ≤ 15) (b3 : h3 ≤ 15) (b4 : h4 ≤ 15) (b5 : h5 ≤ 15) (n0 : 0 ≤ h1 + 3 ∧ h1 ≤ 0 + 3) (n1 : h1 ≤ h2 + 3 ∧ h2 ≤ h1 + 3) (n2 : h2 ≤ h3 + 3 ∧ h3 ≤ h2 + 3) (n3 : h3 ≤ h4 + 3 ∧ h4 ≤ h3 + 3) (n5 : h5 ≤ 0 + 3 ∧ 0 ≤ h5 + 3) : chk h1 h2 h3 h4 h5 = true := by
  have d0 := topN (x := h1) (by omega)
  have d1 := walkN d0 b2 (near_iff.mpr n1)
  have d2 := walkN d1 b3 (near_iff.mpr n2)
  have d3 := walkN d2 b4 (near_iff.mpr n3)
  obtain ⟨u, d4⟩ := walkB d3 b5
  exact endN d4 (near_iff.mpr n5)
theorem cover5 {h1 h2 h3 h4 h5 : Nat} (b1 : h1 ≤ 15) (b2 : h2 ≤ 15) (b3 : h3 ≤ 15) (b4 : h4 ≤ 15) (b5 : h5 ≤ 15) (n0 : 0 ≤ h1 + 3 ∧ h1 ≤ 0 + 3) (n1 : h1 ≤ h2 + 3 ∧ h2 ≤ h1 + 3) (n2 : h2 ≤ h3 + 3 ∧ h3 ≤ h2 + 3) (n3 : h3 ≤ h4 + 3 ∧ h4 ≤ h3 + 3) (n4 : h4 ≤ h5 + 3 ∧ h5 ≤ h4 + 3) : chk h1 h2 h3 h4 h5 = true := by
  have d0 := topN (x := h1) (by omega)
  have d1 := walkN d0 b2 (near_iff.mpr n1)
  have d2 := walkN d1 b3 (near_iff.mpr n2)
  have d3 := walkN d2 b4 (near_iff.mpr n3)
  have d4 := walkN d3 b5 (near_iff.mpr n4)
  exact endB d4
theorem near_of {n p : Nat} {y : Int} (d : y = (n : Int) - (p : Nat)) (b : -3 ≤ y ∧ y ≤ 3) : p ≤ n + 3 ∧ n ≤ p + 3 := by omega
theorem r_top {q0 q1 y : Int} {n : Nat} (d : q1 = q0 + y) (e : q1 - q0 = (n : Nat)) : y = (n : Int) - ((0 : Nat) : Nat) := by omega
theorem r_mid {q0 q1 q2 y : Int} {n p : Nat} (d : q2 = q1 + y) (e1 : q1 - q0 = (p : Nat)) (e2 : q2 - q0 = (n : Nat)) : y = (n : Int) - (p : Nat) := by omega
theorem r_end {q0 q5 y : Int} {p : Nat} (d : q0 = q5 + y) (e : q5 - q0 = (p : Nat)) : y = ((0 : Nat) : Int) - (p : Nat) := by omega
theorem ring0 {st : List Int} {lab : Nat → Int} {y0 y1 y2 y3 y4 y5 q0 q1 q2 q3 q4 q5 : Int} (w0 : st.getD (lab 0).toNat 0 = y0) (w1 : st.getD (lab 1).toNat 0 = y1) (w2 : st.getD (lab 2).toNat 0 = y2) (w3 : st.getD (lab 3).toNat 0 = y3) (w4 : st.getD (lab 4).toNat 0 = y4) (w5 : st.getD (lab 5).toNat 0 = y5) (hlab : ∀ i, i < 6 → 0 ≤ lab i ∧ lab i < 6) (g0 : q1 = q0 + y0) (g1 : q2 = q1 + y1) (g2 : q3 = q2 + y2) (g3 : q4 = q3 + y3) (g4 : q5 = q4 + y4) (g5 : q0 = q5 + y5) (s1 : q0 ≤ q1) (s2 : q0 ≤ q2) (s3 : q0 ≤ q3) (s4 : q0 ≤ q4) (s5 : q0 ≤ q5) (n1 : -3 ≤ y1 ∧ y1 ≤ 3) (n2 : -3 ≤ y2 ∧ y2 ≤ 3) (n3 : -3 ≤ y3 ∧ y3 ≤ 3) (n4 : -3 ≤ y4 ∧ y4 ≤ 3) (n5 : -3 ≤ y5 ∧ y5 ≤ 3) : Facts st [lab 0, lab 1, lab 2, lab 3, lab 4, lab 5] := by
  obtain ⟨h1, e1⟩ := Int.eq_ofNat_of_zero_le (Int.sub_nonneg_of_le s1)
  obtain ⟨h2, e2⟩ := Int.eq_ofNat_of_zero_le (Int.sub_nonneg_of_le s2)
  obtain ⟨h3, e3⟩ := Int.eq_ofNat_of_zero_le (Int.sub_nonneg_of_le s3)
  obtain ⟨h4, e4⟩ := Int.eq_ofNat_of_zero_le (Int.sub_nonneg_of_le s4)
  obtain ⟨h5, e5⟩ := Int.eq_ofNat_of_zero_le (Int.sub_nonneg_of_le s5)
  have d0 := r_top g0 e1
  have d1 := r_mid g1 e1 e2
  have d2 := r_mid g2 e2 e3
  have d3 := r_mid g3 e3 e4
  have d4 := r_mid g4 e4 e5
  have d5 := r_end g5 e5
  have m1 := near_of d1 n1
  have m2 := near_of d2 n2
  have m3 := near_of d3 n3
  have m4 := near_of d4 n4
  have m5 := near_of d5 n5
  have b5 : h5 ≤ 3 := m5.1
  have b4 : h4 ≤ 6 := Nat.le_trans m4.1 (Nat.add_le_add_right b5 3)
  have b3 : h3 ≤ 9 := Nat.le_trans m3.1 (Nat.add_le_add_right b4 3)
  have b2 : h2 ≤ 12 := Nat.le_trans m2.1 (Nat.add_le_add_right b3 3)
  have b1 : h1 ≤ 15 := Nat.le_trans m1.1 (Nat.add_le_add_right b2 3)
  have hc := cover0 (Nat.le_trans b1 (by decide)) (Nat.le_trans b2 (by decide)) (Nat.le_trans b3 (by decide)) (Nat.le_trans b4 (by decide)) (Nat.le_trans b5 (by decide)) m1 m2 m3 m4 m5
  refine chk_facts hc (Nat.le_trans b1 (by decide)) (Nat.le_trans b2 (by decide)) (Nat.le_trans b3 (by decide)) (Nat.le_trans b4 (by decide)) (Nat.le_trans b5 (by decide)) (fun i hi => ?_) hlab
  match i, hi with
  | 0, _ => exact w0.trans d0
  | 1, _ => exact w1.trans d1
  | 2, _ => exact w2.trans d2
  | 3, _ => exact w3.trans d3
  | 4, _ => exact w4.trans d4
  | 5, _ => exact w5.trans d5
theorem ring1 {st : List Int} {lab : Nat → Int} {y0 y1 y2 y3 y4 y5 q0 q1 q2 q3 q4 q5 : Int} (w0 : st.getD (lab 0).toNat 0 = y0) (w1 : st.getD (lab 1).toNat 0 = y1) (w2 : st.getD (lab 2).toNat 0 = y2) (w3 : st.getD (lab 3).toNat 0 = y3) (w4 : st.getD (lab 4).toNat 0 = y4) (w5 : st.getD (lab 5).toNat 0 = y5) (hlab : ∀ i, i < 6 → 0 ≤ lab i ∧ lab i < 6) (g0 : q1 = q0 + y0) (g1 : q2 = q1 + y1) (g2 : q3 = q2 + y2) (g3 : q4 = q3 + y3) (g4 : q5 = q4 + y4) (g5 : q0 = q5 + y5) (s1 : q0 ≤ q1) (s2 : q0 ≤ q2) (s3 : q0 ≤ q3) (s4 : q0 ≤ q4) (s5 : q0 ≤ q5) (n0 : -3 ≤ y0 ∧ y0 ≤ 3) (n2 : -3 ≤ y2 ∧ y2 ≤ 3) (n3 : -3 ≤ y3 ∧ y3 ≤ 3) (n4 : -3 ≤ y4 ∧ y4 ≤ 3) (n5 : -3 ≤ y5 ∧ y5 ≤ 3) : Facts st [lab 0, lab 1, lab 2, lab 3, lab 4, lab 5] := by
  obtain ⟨h1, e1⟩ := Int.eq_ofNat_of_zero_le (Int.sub_nonneg_of_le s1)
  obtain ⟨h2, e2⟩ := Int.eq_ofNat_of_zero_le (Int.sub_nonneg_of_le s2)
  obtain ⟨h3, e3⟩ := Int.eq_ofNat_of_zero_le (Int.sub_nonneg_of_le s3)
  obtain ⟨h4, e4⟩ := Int.eq_ofNat_of_zero_le (Int.sub_nonneg_of_le s4)
  obtain ⟨h5, e5⟩ := Int.eq_ofNat_of_zero_le (Int.sub_nonneg_of_le s5)
  have d0 := r_top g0 e1
  have d1 := r_mid g1 e1 e2
  have d2 := r_mid g2 e2 e3
  have d3 := r_mid g3 e3 e4
  have d4 := r_mid g4 e4 e5
  have d5 := r_end g5 e5
  have m0 := near_of d0 n0
  have m2 := near_of d2 n2
  have m3 := near_of d3 n3
  have m4 := near_of d4 n4
  have m5 := near_of d5 n5
  have b1 : h1 ≤ 3 := m0.2
  have b5 : h5 ≤ 3 := m5.1
  have b4 : h4 ≤ 6 := Nat.le_trans m4.1 (Nat.add_le_add_right b5 3)
  have b3 : h3 ≤ 9 := Nat.le_trans m3.1 (Nat.add_le_add_right b4 3)
  have b2 : h2 ≤ 12 := Nat.le_trans m2.1 (Nat.add_le_add_right b3 3)
  have hc := cover1 (Nat.le_trans b1 (by decide)) (Nat.le_trans b2 (by decide)) (Nat.le_trans b3 (by decide)) (Nat.le_trans b4 (by decide)) (Nat.le_trans b5 (by decide)) m0 m2 m3 m4 m5
  refine chk_facts hc (Nat.le_trans b1 (by decide)) (Nat.le_trans b2 (by decide)) (Nat.le_trans b3 (by decide)) (Nat.le_trans b4 (by decide)) (Nat.le_trans b5 (by decide)) (fun i hi => ?_) hlab
  match i, hi with
  | 0, _ => exact w0.trans d0
  | 1, _ => exact w1.trans d1
  | 2, _ => exact w2.trans d2
  | 3, _ => exact w3.trans d3
  | 4, _ => exact w4.trans d4
  | 5, _ => exact w5.trans d5
theorem ring2 {st : List Int} {lab : Nat → Int} {y0 y1 y2 y3 y4 y5 q0 q1 q2 q3 q4 q5 : Int} (w0 : st.getD (lab 0).toNat 0 = y0) (w1 : st.getD (lab 1).toNat 0 = y1) (w2 : st.getD (lab 2).toNat 0 = y2) (w3 : st.getD (lab 3).toNat 0 = y3) (w4 : st.getD (lab 4).toNat 0 = y4) (w5 : st.getD (lab 5).toNat 0 = y5) (hlab : ∀ i, i < 6 → 0 ≤ lab i ∧ lab i < 6) (g0 : q1 = q0 + y0) (g1 : q2 = q1 + y1) (g2 : q3 = q2 + y2) (g3 : q4 = q3 + y3) (g4 : q5 = q4 + y4) (g5 : q0 = q5 + y5) (s1 : q0 ≤ q1) (s2 : q0 ≤ q2) (s3 : q0 ≤ q3) (s4 : q0 ≤ q4) (s5 : q0 ≤ q5) (n0 : -3 ≤ y0 ∧ y0 ≤ 3) (n1 : -3 ≤ y1 ∧ y1 ≤ 3) (n3 : -3 ≤ y3 ∧ y3 ≤ 3) (n4 : -3 ≤ y4 ∧ y4 ≤ 3) (n5 : -3 ≤ y5 ∧ y5 ≤ 3) : Facts st [lab 0, lab 1, lab 2, lab 3, lab 4, lab 5] := by
  obtain ⟨h1, e1⟩ := Int.eq_ofNat_of_zero_le (Int.sub_nonneg_of_le s1)
  obtain ⟨h2, e2⟩ := Int.eq_ofNat_of_zero_le (Int.sub_nonneg_of_le s2)
  obtain ⟨h3, e3⟩ := Int.eq_ofNat_of_zero_le (Int.sub_nonneg_of_le s3)
  obtain ⟨h4, e4⟩ := Int.eq_ofNat_of_zero_le (Int.sub_nonneg_of_le s4)
  obtain ⟨h5, e5⟩ := Int.eq_ofNat_of_zero_le (Int.sub_nonneg_of_le s5)
  have d0 := r_top g0 e1
  have d1 := r_mid g1 e1 e2
  have d2 := r_mid g2 e2 e3
  have d3 := r_mid g3 e3 e4
  have d4 := r_mid g4 e4 e5
  have d5 := r_end g5 e5
  have m0 := near_of d0 n0
  have m1 := near_of d1 n1
  have m3 := near_of d3 n3
  have m4 := near_of d4 n4
  have m5 := near_of d5 n5
  have b1 : h1 ≤ 3 := m0.2
  have b2 : h2 ≤ 6 := Nat.le_trans m1.2 (Nat.add_le_add_right b1 3)
  have b5 : h5 ≤ 3 := m5.1
  have b4 : h4 ≤ 6 := Nat.le_trans m4.1 (Nat.add_le_add_right b5 3)
  have b3 : h3 ≤ 9 := Nat.le_trans m3.1 (Nat.add_le_add_right b4 3)
  have hc := cover2 (Nat.le_trans b1 (by decide)) (Nat.le_trans b2 (by decide)) (Nat.le_trans b3 (by decide)) (Nat.le_trans b4 (by decide)) (Nat.le_trans b5 (by decide)) m0 m1 m3 m4 m5
  refine chk_facts hc (Nat.le_trans b1 (by decide)) (Nat.le_trans b2 (by decide)) (Nat.le_trans b3 (by decide)) (Nat.le_trans b4 (by decide)) (Nat.le_trans b5 (by decide)) (fun i hi => ?_) hlab
  match i, hi with
  | 0, _ => exact w0.trans d0
  | 1, _ => exact w1.trans d1
  | 2, _ => exact w2.trans d2
  | 3, _ => exact w3.trans d3
  | 4, _ => exact w4.trans d4
  | 5, _ => exact w5.trans d5
theorem ring3 {st : List Int} {lab : Nat → Int} {y0 y1 y2 y3 y4 y5 q0 q1 q2 q3 q4 q5 : Int} (w0 : st.getD (lab 0).toNat 0 = y0) (w1 : st.getD (lab 1).toNat 0 = y1) (w2 : st.getD (lab 2).toNat 0 = y2) (w3 : st.getD (lab 3).toNat 0 = y3) (w4 : st.getD (lab 4).toNat 0 = y4) (w5 : st.getD (lab 5).toNat 0 = y5) (hlab : ∀ i, i < 6 → 0 ≤ lab i ∧ lab i < 6) (g0 : q1 = q0 + y0) (g1 : q2 = q1 + y1) (g2 : q3 = q2 + y2) (g3 : q4 = q3 + y3) (g4 : q5 = q4 + y4) (g5 : q0 = q5 + y5) (s1 : q0 ≤ q1) (s2 : q0 ≤ q2) (s3 : q0 ≤ q3) (s4 : q0 ≤ q4) (s5 : q0 ≤ q5) (n0 : -3 ≤ y0 ∧ y0 ≤ 3) (n1 : -3 ≤ y1 ∧ y1 ≤ 3) (n2 : -3 ≤ y2 ∧ y2 ≤ 3) (n4 : -3 ≤ y4 ∧ y4 ≤ 3) (n5 : -3 ≤ y5 ∧ y5 ≤ 3) : Facts st [lab 0, lab 1, lab 2, lab 3, lab 4, lab 5] := by
  obtain ⟨h1, e1⟩ := Int.eq_ofNat_of_zero_le (Int.sub_nonneg_of_le s1)
  obtain ⟨h2, e2⟩ := Int.eq_ofNat_of_zero_le (Int.sub_nonneg_of_le s2)
  obtain ⟨h3, e3⟩ := Int.eq_ofNat_of_zero_le (Int.sub_nonneg_of_le s3)
  obtain ⟨h4, e4⟩ := Int.eq_ofNat_of_zero_le (Int.sub_nonneg_of_le s4)
  obtain ⟨h5, e5⟩ := Int.eq_ofNat_of_zero_le (Int.sub_nonneg_of_le s5)
  have d0 := r_top g0 e1
  have d1 := r_mid g1 e1 e2
  have d2 := r_mid g2 e2 e3
  have d3 := r_mid g3 e3 e4
  have d4 := r_mid g4 e4 e5
  have d5 := r_end g5 e5
  have m0 := near_of d0 n0
  have m1 := near_of d1 n1
  have m2 := near_of d2 n2
  have m4 := near_of d4 n4
  have m5 := near_of d5 n5
  have b1 : h1 ≤ 3 := m0.2
  have b2 : h2 ≤ 6 := Nat.le_trans m1.2 (Nat.add_le_add_right b1 3)
  have b3 : h3 ≤ 9 := Nat.le_trans m2.2 (Nat.add_le_add_right b2 3)
  have b5 : h5 ≤ 3 := m5.1
  have b4 : h4 ≤ 6 := Nat.le_trans m4.1 (Nat.add_le_add_right b5 3)
  have hc := cover3 (Nat.le_trans b1 (by decide)) (Nat.le_trans b2 (by decide)) (Nat.le_trans b3 (by decide)) (Nat.le_trans b4 (by decide)) (Nat.le_trans b5 (by decide)) m0 m1 m2 m4 m5
  refine chk_facts hc (Nat.le_trans b1 (by decide)) (Nat.le_trans b2 (by decide)) (Nat.le_trans b3 (by decide)) (Nat.le_trans b4 (by decide)) (Nat.le_trans b5 (by decide)) (fun i hi => ?_) hlab
  match i, hi with
  | 0, _ => exact w0.trans d0
  | 1, _ => exact w1.trans d1
  | 2, _ => exact w2.trans d2
  | 3, _ => exact w3.trans d3
  | 4, _ => exact w4.trans d4
  | 5, _ => exact w5.trans d5
theorem ring4 {st : List Int} {lab : Nat → Int} {y0 y1 y2 y3 y4 y5 q0 q1 q2 q3 q4 q5 : Int} (w0 : st.getD (lab 0).toNat 0 = y0) (w1 : st.getD (lab 1).toNat 0 = y1) (w2 : st.getD (lab 2).toNat 0 = y2) (w3 : st.getD (lab 3).toNat 0 = y3) (w4 : st.getD (lab 4).toNat 0 = y4) (w5 : st.getD (lab 5).toNat 0 = y5) (hlab : ∀ i, i < 6 → 0 ≤ lab i ∧ lab i < 6) (g0 : q1 = q0 + y0) (g1 : q2 = q1 + y1) (g2 : q3 = q2 + y2) (g3 : q4 = q3 + y3) (g4 : q5 = q4 + y4) (g5 : q0 = q5 + y5) (s1 : q0 ≤ q1) (s2 : q0 ≤ q2) (s3 : q0 ≤ q3) (s4 : q0 ≤ q4) (s5 : q0 ≤ q5) (n0 : -3 ≤ y0 ∧ y0 ≤ 3) (n1 : -3 ≤ y1 ∧ y1 ≤ 3) (n2 : -3 ≤ y2 ∧ y2 ≤ 3) (n3 : -3 ≤ y3 ∧ y3 ≤ 3) (n5 : -3 ≤ y5 ∧ y5 ≤ 3) : Facts st [lab 0, lab 1, lab 2, lab 3, lab 4, lab 5] := by
  obtain ⟨h1, e1⟩ := Int.eq_ofNat_of_zero_le (Int.sub_nonneg_of_le s1)
  obtain ⟨h2, e2⟩ := Int.eq_ofNat_of_zero_le (Int.sub_nonneg_of_le s2)
  obtain ⟨h3, e3⟩ := Int.eq_ofNat_of_zero_le (Int.sub_nonneg_of_le s3)
  obtain ⟨h4, e4⟩ := Int.eq_ofNat_of_zero_le (Int.sub_nonneg_of_le s4)
  obtain ⟨h5, e5⟩ := Int.eq_ofNat_of_zero_le (Int.sub_nonneg_of_le s5)
  have d0 := r_top g0 e1
  have d1 := r_mid g1 e1 e2
  have d2 := r_mid g2 e2 e3
  have d3 := r_mid g3 e3 e4
  have d4 := r_mid g4 e4 e5
  have d5 := r_end g5 e5
  have m0 := near_of d0 n0
  have m1 := near_of d1 n1
  have m2 := near_of d2 n2
  have m3 := near_of d3 n3
  have m5 := near_of d5 n5
  have b1 : h1 ≤ 3 := m0.2
  have b2 : h2 ≤ 6 := Nat.le_trans m1.2 (Nat.add_le_add_right b1 3)
  have b3 : h3 ≤ 9 := Nat.le_trans m2.2 (Nat.add_le_add_right b2 3)
  have b4 : h4 ≤ 12 := Nat.le_trans m3.2 (Nat.add_le_add_right b3 3)
  have b5 : h5 ≤ 3 := m5.1
  have hc := cover4 (Nat.le_trans b1 (by decide)) (Nat.le_trans b2 (by decide)) (Nat.le_trans b3 (by decide)) (Nat.le_trans b4 (by decide)) (Nat.le_trans b5 (by decide)) m0 m1 m2 m3 m5
  refine chk_facts hc (Nat.le_trans b1 (by decide)) (Nat.le_trans b2 (by decide)) (Nat.le_trans b3 (by decide)) (Nat.le_trans b4 (by decide)) (Nat.le_trans b5 (by decide)) (fun i hi => ?_) hlab
  match i, hi with
  | 0, _ => exact w0.trans d0
  | 1, _ => exact w1.trans d1
  | 2, _ => exact w2.trans d2
  | 3, _ => exact w3.trans d3
  | 4, _ => exact w4.trans d4
  | 5, _ => exact w5.trans d5
theorem ring5 {st : List Int} {lab : Nat → Int} {y0 y1 y2 y3 y4 y5 q0 q1 q2 q3 q4 q5 : Int} (w0 : st.getD (lab 0).toNat 0 = y0) (w1 : st.getD (lab 1).toNat 0 = y1) (w2 : st.getD (lab 2).toNat 0 = y2) (w3 : st.getD (lab 3).toNat 0 = y3) (w4 : st.getD (lab 4).toNat 0 = y4) (w5 : st.getD (lab 5).toNat 0 = y5) (hlab : ∀ i, i < 6 → 0 ≤ lab i ∧ lab i < 6) (g0 : q1 = q0 + y0) (g1 : q2 = q1 + y1) (g2 : q3 = q2 + y2) (g3 : q4 = q3 + y3) (g4 : q5 = q4 + y4) (g5 : q0 = q5 + y5) (s1 : q0 ≤ q1) (s2 : q0 ≤ q2) (s3 : q0 ≤ q3) (s4 : q0 ≤ q4) (s5 : q0 ≤ q5) (n0 : -3 ≤ y0 ∧ y0 ≤ 3) (n1 : -3 ≤ y1 ∧ y1 ≤ 3) (n2 : -3 ≤ y2 ∧ y2 ≤ 3) (n3 : -3 ≤ y3 ∧ y3 ≤ 3) (n4 : -3 ≤ y4 ∧ y4 ≤ 3) : Facts st [lab 0, lab 1, lab 2, lab 3, lab 4, lab 5] := by
  obtain ⟨h1, e1⟩ := Int.eq_ofNat_of_zero_le (Int.sub_nonneg_of_le s1)
  obtain ⟨h2, e2⟩ := Int.eq_ofNat_of_zero_le (Int.sub_nonneg_of_le s2)
  obtain ⟨h3, e3⟩ := Int.eq_ofNat_of_zero_le (Int.sub_nonneg_of_le s3)
  obtain ⟨h4, e4⟩ := Int.eq_ofNat_of_zero_le (Int.sub_nonneg_of_le s4)
  obtain ⟨h5, e5⟩ := Int.eq_ofNat_of_zero_le (Int.sub_nonneg_of_le s5)
  have d0 := r_top g0 e1
  have d1 := r_mid g1 e1 e2
  have d2 := r_mid g2 e2 e3
  have d3 := r_mid g3 e3 e4
  have d4 := r_mid g4 e4 e5
  have d5 := r_end g5 e5
  have m0 := near_of d0 n0
  have m1 := near_of d1 n1
  have m2 := near_of d2 n2
  have m3 := near_of d3 n3
  have m4 := near_of d4 n4
  have b1 : h1 ≤ 3 := m0.2
  have b2 : h2 ≤ 6 := Nat.le_trans m1.2 (Nat.add_le_add_right b1 3)
  have b3 : h3 ≤ 9 := Nat.le_trans m2.2 (Nat.add_le_add_right b2 3)
  have b4 : h4 ≤ 12 := Nat.le_trans m3.2 (Nat.add_le_add_right b3 3)
  have b5 : h5 ≤ 15 := Nat.le_trans m4.2 (Nat.add_le_add_right b4 3)
  have hc := cover5 (Nat.le_trans b1 (by decide)) (Nat.le_trans b2 (by decide)) (Nat.le_trans b3 (by decide)) (Nat.le_trans b4 (by decide)) (Nat.le_trans b5 (by decide)) m0 m1 m2 m3 m4
  refine chk_facts hc (Nat.le_trans b1 (by decide)) (Nat.le_trans b2 (by decide)) (Nat.le_trans b3 (by decide)) (Nat.le_trans b4 (by decide)) (Nat.le_trans b5 (by decide)) (fun i hi => ?_) hlab
  match i, hi with
  | 0, _ => exact w0.trans d0
  | 1, _ => exact w1.trans d1
  | 2, _ => exact w2.trans d2
  | 3, _ => exact w3.trans d3
  | 4, _ => exact w4.trans d4
  | 5, _ => exact w5.trans d5
theorem lab6 {j : Nat} (l : List Int) (h : ∀ x ∈ l, 0 ≤ x ∧ x < 6) : ∀ i, i < 6 → 0 ≤ l.getD i 0 ∧ l.getD i 0 < 6 := fun i _ => by
  rw [List.getD_eq_getElem?_getD]
  cases e : l[i]? with
  | none => decide
  | some x => exact h x (List.mem_of_getElem? e)
theorem plain {a b c d e f : Int} (ha : -3 ≤ a ∧ a ≤ 3) (hb : -3 ≤ b ∧ b ≤ 3) (hc : -3 ≤ c ∧ c ≤ 3) (hd : -3 ≤ d ∧ d ≤ 3) (he : -3 ≤ e ∧ e ≤ 3) (zed : a + b + c + d + e + f = 0) {j : Nat} (hj : j < 6)
    (hm : ∀ q ∈ [0, a, a + b, a + b + c, a + b + c + d, a + b + c + d + e], [0, a, a + b, a + b + c, a + b + c + d, a + b + c + d + e].getD j 0 ≤ q) : Facts [a, b, c, d, e, f] (rotI j) := by
  simp only [List.forall_mem_cons] at hm
  obtain ⟨g0, g1, g2, g3, g4, g5, _⟩ := hm
  match j, hj, g0, g1, g2, g3, g4, g5 with
  | 0, _, g0, g1, g2, g3, g4, g5 =>
    exact ring5 (y0 := a) (y1 := b) (y2 := c) (y3 := d) (y4 := e) (y5 := f) (q0 := (0 : Int)) (q1 := a) (q2 := a + b) (q3 := a + b + c) (q4 := a + b + c + d) (q5 := a + b + c + d + e) (lab := fun i => (rotI 0).getD i 0) rfl rfl rfl rfl rfl rfl (lab6 (j := 0) (rotI 0) (by decide)) (Int.zero_add a).symm rfl rfl rfl rfl zed.symm g1 g2 g3 g4 g5 ha hb hc hd he
  | 1, _, g0, g1, g2, g3, g4, g5 =>
    exact ring4 (y0 := b) (y1 := c) (y2 := d) (y3 := e) (y4 := f) (y5 := a) (q0 := a) (q1 := a + b) (q2 := a + b + c) (q3 := a + b + c + d) (q4 := a + b + c + d + e) (q5 := (0 : Int)) (lab := fun i => (rotI 1).getD i 0) rfl rfl rfl rfl rfl rfl (lab6 (j := 0) (rotI 1) (by decide)) rfl rfl rfl rfl zed.symm (Int.zero_add a).symm g2 g3 g4 g5 g0 hb hc hd he ha
  | 2, _, g0, g1, g2, g3, g4, g5 =>
    exact ring3 (y0 := c) (y1 := d) (y2 := e) (y3 := f) (y4 := a) (y5 := b) (q0 := a + b) (q1 := a + b + c) (q2 := a + b + c + d) (q3 := a + b + c + d + e) (q4 := (0 : Int)) (q5 := a) (lab := fun i => (rotI 2).getD i 0) rfl rfl rfl rfl rfl rfl (lab6 (j := 0) (rotI 2) (by decide)) rfl rfl rfl zed.symm (Int.zero_add a).symm rfl g3 g4 g5 g0 g1 hc hd he ha hb
  | 3, _, g0, g1, g2, g3, g4, g5 =>
    exact ring2 (y0 := d) (y1 := e) (y2 := f) (y3 := a) (y4 := b) (y5 := c) (q0 := a + b + c) (q1 := a + b + c + d) (q2 := a + b + c + d + e) (q3 := (0 : Int)) (q4 := a) (q5 := a + b) (lab := fun i => (rotI 3).getD i 0) rfl rfl rfl rfl rfl rfl (lab6 (j := 0) (rotI 3) (by decide)) rfl rfl zed.symm (Int.zero_add a).symm rfl rfl g4 g5 g0 g1 g2 hd he ha hb hc
  | 4, _, g0, g1, g2, g3, g4, g5 =>
    exact ring1 (y0 := e) (y1 := f) (y2 := a) (y3 := b) (y4 := c) (y5 := d) (q0 := a + b + c + d) (q1 := a + b + c + d + e) (q2 := (0 : Int)) (q3 := a) (q4 := a + b) (q5 := a + b + c) (lab := fun i => (rotI 4).getD i 0) rfl rfl rfl rfl rfl rfl (lab6 (j := 0) (rotI 4) (by decide)) rfl zed.symm (Int.zero_add a).symm rfl rfl rfl g5 g0 g1 g2 g3 he ha hb hc hd
  | 5, _, g0, g1, g2, g3, g4, g5 =>
    exact ring0 (y0 := f) (y1 := a) (y2 := b) (y3 := c) (y4 := d) (y5 := e) (q0 := a + b + c + d + e) (q1 := (0 : Int)) (q2 := a) (q3 := a + b) (q4 := a + b + c) (q5 := a + b + c + d) (lab := fun i => (rotI 5).getD i 0) rfl rfl rfl rfl rfl rfl (lab6 (j := 0) (rotI 5) (by decide)) zed.symm (Int.zero_add a).symm rfl rfl rfl rfl g0 g1 g2 g3 g4 ha hb hc hd he
end Mine

-- part SortP

namespace Mine
open PySem.W
def runO {α : Type} (lt : Nat → Nat → Bool) : KasT α → Option α
  | .ret a => some a
  | .ask i j k => if i < 6 ∧ j < 6 then runO lt (k (lt i j)) else none
theorem runO_congr {α : Type} {lt lt' : Nat → Nat → Bool} (h : ∀ i j, i < 6 → j < 6 → lt i j = lt' i j) : ∀ t : KasT α, runO lt t = runO lt' t
  | .ret _ => rfl
  | .ask i j k => by
    unfold runO
    by_cases hij : i < 6 ∧ j < 6
    · rw [if_pos hij, if_pos hij, h i j hij.1 hij.2]; exact runO_congr h _
    · rw [if_neg hij, if_neg hij]
theorem runO_wp {α : Type} {lt : Nat → Nat → Bool} {cmp : Nat → Nat → (Bool → Shared → Prop) → Shared → Prop} {s : Shared} (hc : ∀ i j (C : Bool → Shared → Prop), i < 6 → j < 6 → C (lt i j) s → cmp i j C s) {Q : α → Shared → Prop} {a : α} : ∀ (t : KasT α), runO lt t = some a → Q a s → t.kasWp cmp Q s
  | .ret b, e, q => by
    simp only [runO, Option.some.injEq] at e
    subst e; exact q
  | .ask i j k, e, q => by
    unfold runO at e
    by_cases hij : i < 6 ∧ j < 6
    · rw [if_pos hij] at e
      exact hc i j _ hij.1 hij.2 (runO_wp hc _ e q)
    · rw [if_neg hij] at e; cases e
/-- lay an index among others, by their ranks -/
def insO (lt : Nat → Nat → Bool) (i : Nat) : List Nat → List Nat
  | [] => [i]
  | j :: r => if lt j i = true then j :: insO lt i r else i :: j :: r
def insOAll (lt : Nat → Nat → Bool) : List Nat := insO lt 5 (insO lt 4 (insO lt 3 (insO lt 2 (insO lt 1 (insO lt 0 [])))))
def byR (ρ : List Nat) (i j : Nat) : Bool := Nat.blt (ρ.getD i 0) (ρ.getD j 0)
def okR (ρ : List Nat) : Bool := match runO (byR ρ) (kas_sort 6) with
  | some p => p.toList == insOAll (byR ρ) && p.size == 6 && p.toList.all (fun i => Nat.blt i 6)
  | none => false
def allR : Nat → List Nat → Bool
  | 0, ρ => okR ρ
  | k + 1, ρ => (List.range 6).all fun x => ρ.contains x || allR k (x :: ρ)
theorem all720 : allR 6 [] = true := by decide +kernel
theorem allR_of : ∀ (k : Nat) (ρ xs : List Nat), allR k ρ = true → xs.length = k → (∀ x ∈ xs, x < 6) → xs.Nodup → (∀ x ∈ xs, x ∉ ρ) → okR (xs.reverse ++ ρ) = true
  | 0, ρ, [], h, _, _, _, _ => h
  | k + 1, ρ, x :: xs, h, hl, hx, hn, hd => by
    have h' : ((List.range 6).all fun x => ρ.contains x || allR k (x :: ρ)) = true := h
    have q := List.all_eq_true.mp h' x (List.mem_range.mpr (hx x (.head _)))
    have nc : ρ.contains x = false := by
      rw [List.contains_eq_mem, decide_eq_false (hd x (.head _))]
    rw [nc, Bool.false_or] at q
    have n2 := List.nodup_cons.mp hn
    have r := allR_of k (x :: ρ) xs q (by simpa using hl) (fun y hy => hx y (.tail _ hy)) n2.2 (fun y hy hm => by
      rcases List.mem_cons.mp hm with rfl | hm
      · exact n2.1 hy
      · exact hd y (.tail _ hy) hm)
    simpa using r
theorem countP_lt {p q : Nat → Bool} {l : List Nat} (h : ∀ k ∈ l, p k = true → q k = true) {x : Nat} (hx : x ∈ l) (hq : q x = true) (hp : p x = false) : l.countP p < l.countP q := by
  induction l with
  | nil => cases hx
  | cons a l ih =>
    have le : l.countP p ≤ l.countP q := List.countP_mono_left fun k hk => h k (.tail _ hk)
    rw [List.countP_cons, List.countP_cons]
    rcases List.mem_cons.mp hx with rfl | hx
    · rw [hp, hq]; simp; omega
    · have := ih (fun k hk => h k (.tail _ hk)) hx
      have ha := h a (.head _)
      cases e : p a with
      | true => rw [ha e]; simp; omega
      | false => simp; split <;> omega
/-- the order of the tuples (z, -i) -/
def ltZ (z : Nat → Int) (i j : Nat) : Bool := decide (z i < z j ∨ (z i = z j ∧ j < i))
theorem ltZ_iff {z : Nat → Int} {i j : Nat} : ltZ z i j = true ↔ (z i < z j ∨ (z i = z j ∧ j < i)) := by unfold ltZ; exact decide_eq_true_iff
def rk (z : Nat → Int) (i : Nat) : Nat := (List.range 6).countP fun k => ltZ z k i
theorem rk_mono {z : Nat → Int} {i j : Nat} (hi : i < 6) (h : ltZ z i j = true) : rk z i < rk z j := by
  refine countP_lt (x := i) (fun k _ hk => ?_) (List.mem_range.mpr hi) h ?_
  · rw [ltZ_iff] at hk h ⊢; omega
  · cases e : ltZ z i i with
    | false => rfl
    | true => rw [ltZ_iff] at e; omega
theorem rk_lt {z : Nat → Int} {i : Nat} (hi : i < 6) : rk z i < 6 := by
  have := countP_lt (p := fun k => ltZ z k i) (q := fun _ => true) (l := List.range 6) (fun _ _ _ => rfl) (x := i) (List.mem_range.mpr hi) rfl (by
    cases e : ltZ z i i with
    | false => rfl
    | true => rw [ltZ_iff] at e; omega)
  simpa [rk] using this
theorem rk_inj {z : Nat → Int} {i j : Nat} (hi : i < 6) (hj : j < 6) (h : i ≠ j) : rk z i ≠ rk z j := by
  intro e
  have : ltZ z i j = true ∨ ltZ z j i = true := by rw [ltZ_iff, ltZ_iff]; omega
  rcases this with h | h
  · have := rk_mono hi h; omega
  · have := rk_mono hj h; omega
theorem rk_by {z : Nat → Int} {i j : Nat} (hi : i < 6) (hj : j < 6) : ltZ z i j = byR [rk z 0, rk z 1, rk z 2, rk z 3, rk z 4, rk z 5] i j := by
  have g : ∀ k, k < 6 → [rk z 0, rk z 1, rk z 2, rk z 3, rk z 4, rk z 5].getD k 0 = rk z k := fun k hk => by
    match k, hk with
    | 0, _ | 1, _ | 2, _ | 3, _ | 4, _ | 5, _ => rfl
  unfold byR
  rw [g i hi, g j hj, Bool.eq_iff_iff, Nat.blt_eq]
  constructor
  · exact rk_mono hi
  · intro h
    by_cases e : i = j
    · subst e; omega
    have : ltZ z i j = true ∨ ltZ z j i = true := by rw [ltZ_iff, ltZ_iff]; omega
    rcases this with q | q
    · exact q
    · have := rk_mono hj q; omega
theorem rk_ok (z : Nat → Int) : okR [rk z 0, rk z 1, rk z 2, rk z 3, rk z 4, rk z 5] = true := by
  have q := allR_of 6 [] [rk z 5, rk z 4, rk z 3, rk z 2, rk z 1, rk z 0] all720 rfl (by
    simp only [List.forall_mem_cons]
    exact ⟨rk_lt (by decide), rk_lt (by decide), rk_lt (by decide), rk_lt (by decide), rk_lt (by decide), rk_lt (by decide), fun _ h => nomatch h⟩) (by
    have n := fun i j hi hj h => @rk_inj z i j hi hj h
    simp only [List.nodup_cons, List.mem_cons, List.not_mem_nil, or_false, not_or, not_false_eq_true, List.nodup_nil, and_true]
    exact ⟨⟨n 5 4 (by decide) (by decide) (by decide), n 5 3 (by decide) (by decide) (by decide), n 5 2 (by decide) (by decide) (by decide), n 5 1 (by decide) (by decide) (by decide), n 5 0 (by decide) (by decide) (by decide)⟩,
      ⟨n 4 3 (by decide) (by decide) (by decide), n 4 2 (by decide) (by decide) (by decide), n 4 1 (by decide) (by decide) (by decide), n 4 0 (by decide) (by decide) (by decide)⟩,
      ⟨n 3 2 (by decide) (by decide) (by decide), n 3 1 (by decide) (by decide) (by decide), n 3 0 (by decide) (by decide) (by decide)⟩,
      ⟨n 2 1 (by decide) (by decide) (by decide), n 2 0 (by decide) (by decide) (by decide)⟩, n 1 0 (by decide) (by decide) (by decide)⟩) (fun _ _ h => nomatch h)
  exact q
theorem insO_congr {lt lt' : Nat → Nat → Bool} {i : Nat} (hi : i < 6) (h : ∀ i j, i < 6 → j < 6 → lt i j = lt' i j) : ∀ l : List Nat, (∀ x ∈ l, x < 6) → insO lt i l = insO lt' i l ∧ (∀ x ∈ insO lt' i l, x < 6)
  | [], _ => ⟨rfl, fun x hx => by rw [List.mem_singleton.mp hx]; exact hi⟩
  | j :: r, hl => by
    have hj := hl j (.head _)
    obtain ⟨e, b⟩ := insO_congr hi h r fun x hx => hl x (.tail _ hx)
    unfold insO
    rw [h j i hj hi, e]
    refine ⟨rfl, ?_⟩
    split
    · intro x hx
      rcases List.mem_cons.mp hx with rfl | hx
      · exact hj
      · exact b x hx
    · intro x hx
      rcases List.mem_cons.mp hx with rfl | hx
      · exact hi
      · exact hl x hx
theorem insO_map {z r : Nat → Int} {i : Nat} : ∀ l : List Nat, (∀ x ∈ l, x < i) → (insO (ltZ z) i l).map (fun k => (z k, r k)) = insP (z i) (r i) (l.map fun k => (z k, r k)) ∧ (∀ x ∈ insO (ltZ z) i l, x < i + 1)
  | [], _ => ⟨rfl, fun x hx => by rw [List.mem_singleton.mp hx]; exact Nat.lt_succ_self _⟩
  | j :: l, hl => by
    have hj := hl j (.head _)
    obtain ⟨e, b⟩ := insO_map (z := z) (r := r) (i := i) l fun x hx => hl x (.tail _ hx)
    have q : ltZ z j i = true ↔ z j < z i := by rw [ltZ_iff]; omega
    by_cases c : z j < z i
    · have e1 : insO (ltZ z) i (j :: l) = j :: insO (ltZ z) i l := by
        show (if ltZ z j i = true then _ else _) = _
        rw [if_pos (q.mpr c)]
      rw [e1]
      refine ⟨?_, fun x hx => ?_⟩
      · rw [List.map_cons, List.map_cons, insP, if_pos c, e]
      · rcases List.mem_cons.mp hx with rfl | hx
        · omega
        · exact b x hx
    · have e1 : insO (ltZ z) i (j :: l) = i :: j :: l := by
        have nq : ¬ ltZ z j i = true := fun h => c (q.mp h)
        show (if ltZ z j i = true then _ else _) = _
        rw [if_neg nq]
      rw [e1]
      refine ⟨?_, fun x hx => ?_⟩
      · rw [List.map_cons, List.map_cons, insP, if_neg c]
      · rcases List.mem_cons.mp hx with rfl | hx
        · omega
        · have := hl x hx; omega
/-- what `sorted` makes of the six triples -/
theorem sort_is (z r : Nat → Int) : ∃ i0 i1 i2 i3 i4 i5 : Nat, runO (ltZ z) (kas_sort 6) = some #[i0, i1, i2, i3, i4, i5] ∧ (∀ x ∈ [i0, i1, i2, i3, i4, i5], x < 6) ∧
    [(z i0, r i0), (z i1, r i1), (z i2, r i2), (z i3, r i3), (z i4, r i4), (z i5, r i5)] = insP (z 5) (r 5) (insP (z 4) (r 4) (insP (z 3) (r 3) (insP (z 2) (r 2) (insP (z 1) (r 1) (insP (z 0) (r 0) []))))) := by
  have ok := rk_ok z
  have cg : ∀ i j, i < 6 → j < 6 → ltZ z i j = byR [rk z 0, rk z 1, rk z 2, rk z 3, rk z 4, rk z 5] i j := fun i j hi hj => rk_by hi hj
  have rc := runO_congr cg (kas_sort 6)
  unfold okR at ok
  cases e : runO (byR [rk z 0, rk z 1, rk z 2, rk z 3, rk z 4, rk z 5]) (kas_sort 6) with
  | none => rw [e] at ok; cases ok
  | some p =>
    rw [e] at ok rc
    simp only [Bool.and_eq_true, beq_iff_eq, List.all_eq_true, Nat.blt_eq] at ok
    obtain ⟨⟨h1, h2⟩, h3⟩ := ok
    have c0 := insO_congr (i := 0) (by decide) cg [] (fun _ h => nomatch h)
    have c1 := insO_congr (i := 1) (by decide) cg _ c0.2
    have c2 := insO_congr (i := 2) (by decide) cg _ c1.2
    have c3 := insO_congr (i := 3) (by decide) cg _ c2.2
    have c4 := insO_congr (i := 4) (by decide) cg _ c3.2
    have c5 := insO_congr (i := 5) (by decide) cg _ c4.2
    have m0 := insO_map (z := z) (r := r) (i := 0) [] (fun _ h => nomatch h)
    have m1 := insO_map (z := z) (r := r) (i := 1) _ m0.2
    have m2 := insO_map (z := z) (r := r) (i := 2) _ m1.2
    have m3 := insO_map (z := z) (r := r) (i := 3) _ m2.2
    have m4 := insO_map (z := z) (r := r) (i := 4) _ m3.2
    have m5 := insO_map (z := z) (r := r) (i := 5) _ m4.2
    have hp : p.toList = insO (ltZ z) 5 (insO (ltZ z) 4 (insO (ltZ z) 3 (insO (ltZ z) 2 (insO (ltZ z) 1 (insO (ltZ z) 0 []))))) := by
      rw [h1]
      unfold insOAll
      rw [c0.1, c1.1, c2.1, c3.1, c4.1, c5.1]
    have hm := m5.1
    rw [m4.1, m3.1, m2.1, m1.1, m0.1, ← hp] at hm
    obtain ⟨l⟩ := p
    match l, h2, h3, hm, rc with
    | [i0, i1, i2, i3, i4, i5], _, h3, hm, rc => exact ⟨i0, i1, i2, i3, i4, i5, rc, h3, hm⟩
end Mine

-- part SortDue

namespace Mine
open PySem.W
abbrev trip (x : Int) (t : Tok) (y : Int) (u : Tok) (v : Int) (w : Tok) : Obj := { cls := .type "tuple", data := .seq #[.int x t, .int y u, .int v w] 0 }
section
variable {prog : Program} {w : World} {A : Around} {E : Value → Shared → Prop} {s : Shared} {h₀ : Heap} {L : Addr} {m : Str → Option Value} {news : List (Addr × Obj)}
theorem trip_lt {x y : Addr} {z1 z2 r1 r2 : Int} {i j : Nat} {t1 t2 t3 u1 u2 u3 : Tok} {C : Bool → Shared → Prop} (hx : s.heap.get? x = some (trip z1 t1 (-(i : Int)) t2 r1 t3)) (hy : s.heap.get? y = some (trip z2 u1 (-(j : Int)) u2 r2 u3)) (hr : i = j → r1 = r2)
    (h : C (decide (z1 < z2 ∨ (z1 = z2 ∧ j < i))) s) : wpAny (model prog w) A (keyLt' (tuples' true) (.ref x) (.ref y)) C E s := by
  refine kat_lt hx rfl hy rfl ?_
  show KatLex prog w A true false C [(.int z1 t1, .int z2 u1), (.int (-(i : Int)) t2, .int (-(j : Int)) u2), (.int r1 t3, .int r2 u3)] 0 s
  refine kat_cons (wpAny_eqBool_int (kat_go (fun e => ?_) (fun e => ?_)))
  · rw [beq_iff_eq] at e
    refine kat_yes (kat_cons (wpAny_eqBool_int (kat_go (fun e2 => ?_) (fun e2 => ?_))))
    · rw [beq_iff_eq] at e2
      have hij : i = j := by omega
      refine kat_yes (kat_cons (wpAny_eqBool_int ?_))
      have e3 : (r1 == r2) = true := by rw [hr hij]; exact beq_self_eq_true _
      rw [e3]
      refine kat_yes (kat_nil ?_)
      have q : decide (z1 < z2 ∨ (z1 = z2 ∧ j < i)) = false := decide_eq_false (by omega)
      rwa [q] at h
    · rw [beq_eq_false_iff_ne] at e2
      refine kat_no ?_
      show wpAny (model prog w) A (oneLt' false _ _) C (fun _ _ => False) s
      refine kat_one _ _ (lt_int ?_)
      show C _ s
      have q : decide (-(i : Int) < -(j : Int)) = decide (z1 < z2 ∨ (z1 = z2 ∧ j < i)) := by
        apply decide_eq_decide.mpr; omega
      rw [q]; exact h
  · rw [beq_eq_false_iff_ne] at e
    refine kat_no ?_
    show wpAny (model prog w) A (oneLt' true _ _) C (fun _ _ => False) s
    refine oneLt_int ?_
    have q : decide (z1 < z2) = decide (z1 < z2 ∨ (z1 = z2 ∧ j < i)) := by
      apply decide_eq_decide.mpr; omega
    rw [q]; exact h
theorem sorted6 {l B0 B1 B2 B3 B4 B5 : Addr} {z r : Nat → Int} {ta0 tb0 tc0 ta1 tb1 tc1 ta2 tb2 tc2 ta3 tb3 tc3 ta4 tb4 tc4 ta5 tb5 tc5 : Tok} {Q : Value → Shared → Prop} (F : Fr h₀ L s.heap m) (N : News h₀ L s.heap news) (hl : s.heap.IsList l [.ref B0, .ref B1, .ref B2, .ref B3, .ref B4, .ref B5].toArray)
    (m0 : (B0, trip (z 0) ta0 (-((0 : Nat) : Int)) tb0 (r 0) tc0) ∈ news) (m1 : (B1, trip (z 1) ta1 (-((1 : Nat) : Int)) tb1 (r 1) tc1) ∈ news) (m2 : (B2, trip (z 2) ta2 (-((2 : Nat) : Int)) tb2 (r 2) tc2) ∈ news) (m3 : (B3, trip (z 3) ta3 (-((3 : Nat) : Int)) tb3 (r 3) tc3) ∈ news) (m4 : (B4, trip (z 4) ta4 (-((4 : Nat) : Int)) tb4 (r 4) tc4) ∈ news) (m5 : (B5, trip (z 5) ta5 (-((5 : Nat) : Int)) tb5 (r 5) tc5) ∈ news)
    (h : ∀ D c h' C0 C1 C2 C3 C4 C5 zz0 rr0 bb0 sa0 sb0 sc0 zz1 rr1 bb1 sa1 sb1 sc1 zz2 rr2 bb2 sa2 sb2 sc2 zz3 rr3 bb3 sa3 sb3 sc3 zz4 rr4 bb4 sa4 sb4 sc4 zz5 rr5 bb5 sa5 sb5 sc5, Fr h₀ L h' m → News h₀ L h' ((D, PySem.W.listOf #[.ref C0, .ref C1, .ref C2, .ref C3, .ref C4, .ref C5] c) :: (C0, trip zz0 sa0 bb0 sb0 rr0 sc0) :: (C1, trip zz1 sa1 bb1 sb1 rr1 sc1) :: (C2, trip zz2 sa2 bb2 sb2 rr2 sc2) :: (C3, trip zz3 sa3 bb3 sb3 rr3 sc3) :: (C4, trip zz4 sa4 bb4 sb4 rr4 sc4) :: (C5, trip zz5 sa5 bb5 sb5 rr5 sc5) :: news) →
        [(zz0, rr0), (zz1, rr1), (zz2, rr2), (zz3, rr3), (zz4, rr4), (zz5, rr5)] = insP (z 5) (r 5) (insP (z 4) (r 4) (insP (z 3) (r 3) (insP (z 2) (r 2) (insP (z 1) (r 1) (insP (z 0) (r 0) []))))) → Q (.ref D) { s with heap := h' }) :
    wpAny (model prog w) A (call (.builtin "sorted") [.ref l]) Q E s := by
  have at6 : ∀ i, i < 6 → ∃ B t u v, [Value.ref B0, .ref B1, .ref B2, .ref B3, .ref B4, .ref B5].getD i .none = .ref B ∧ (B, trip (z i) t (-((i : Nat) : Int)) u (r i) v) ∈ news := fun i hi => by
    match i, hi with
    | 0, _ => exact ⟨_, _, _, _, rfl, m0⟩
    | 1, _ => exact ⟨_, _, _, _, rfl, m1⟩
    | 2, _ => exact ⟨_, _, _, _, rfl, m2⟩
    | 3, _ => exact ⟨_, _, _, _, rfl, m3⟩
    | 4, _ => exact ⟨_, _, _, _, rfl, m4⟩
    | 5, _ => exact ⟨_, _, _, _, rfl, m5⟩
  refine kat_sorted F N hl (Nat.le_of_ble_eq_true rfl) (Nat.le_of_ble_eq_true rfl) fun D e1 h' F' N' hlt => ?_
  have ob : ∀ B o, (B, o) ∈ news → h'.get? B = some o := fun B o hm => (N' _ (.tail _ hm)).1
  refine kat_kind (T := .type "int") (fs := [.int (z 0) ta0, .int (z 1) ta1, .int (z 2) ta2, .int (z 3) ta3, .int (z 4) ta4, .int (z 5) ta5]) ?_ (by exact Nat.le_of_ble_eq_true rfl) (by kas_types) rfl ?_
  · exact KatTups.cons (ob _ _ m0) rfl rfl rfl (KatTups.cons (ob _ _ m1) rfl rfl rfl (KatTups.cons (ob _ _ m2) rfl rfl rfl (KatTups.cons (ob _ _ m3) rfl rfl rfl (KatTups.cons (ob _ _ m4) rfl rfl rfl (KatTups.cons (ob _ _ m5) rfl rfl rfl (KatTups.nil))))))
  obtain ⟨i0, i1, i2, i3, i4, i5, hrun, hlt6, heq⟩ := sort_is z r
  refine runO_wp (lt := ltZ z) (fun i j C hi hj hC => ?_) _ hrun ?_
  · obtain ⟨Bi, _, _, _, ei, mi⟩ := at6 i hi
    obtain ⟨Bj, _, _, _, ej, mj⟩ := at6 j hj
    unfold kas_ask
    rw [ei, ej]
    exact trip_lt (ob _ _ mi) (ob _ _ mj) (fun e => by rw [e]) hC
  · obtain ⟨C0, sa0, sb0, sc0, e0, n0⟩ := at6 i0 (hlt6 i0 (by simp))
    obtain ⟨C1, sa1, sb1, sc1, e1, n1⟩ := at6 i1 (hlt6 i1 (by simp))
    obtain ⟨C2, sa2, sb2, sc2, e2, n2⟩ := at6 i2 (hlt6 i2 (by simp))
    obtain ⟨C3, sa3, sb3, sc3, e3, n3⟩ := at6 i3 (hlt6 i3 (by simp))
    obtain ⟨C4, sa4, sb4, sc4, e4, n4⟩ := at6 i4 (hlt6 i4 (by simp))
    obtain ⟨C5, sa5, sb5, sc5, e5, n5⟩ := at6 i5 (hlt6 i5 (by simp))
    refine KasFin.intro F' N' (UpdF.head fun p hp => Nat.ne_of_lt (hlt p hp)) fun h2 c F2 N2 => ?_
    have eo : (#[i0, i1, i2, i3, i4, i5] : Array Nat).toList.map (fun i => [Value.ref B0, .ref B1, .ref B2, .ref B3, .ref B4, .ref B5].getD i .none) = [.ref C0, .ref C1, .ref C2, .ref C3, .ref C4, .ref C5] := by
      simp only [List.map_cons, List.map_nil, e0, e1, e2, e3, e4, e5]
    rw [eo] at N2
    refine h D c h2 C0 C1 C2 C3 C4 C5 (z i0) (r i0) (-((i0 : Nat) : Int)) sa0 sb0 sc0 (z i1) (r i1) (-((i1 : Nat) : Int)) sa1 sb1 sc1 (z i2) (r i2) (-((i2 : Nat) : Int)) sa2 sb2 sc2 (z i3) (r i3) (-((i3 : Nat) : Int)) sa3 sb3 sc3 (z i4) (r i4) (-((i4 : Nat) : Int)) sa4 sb4 sc4 (z i5) (r i5) (-((i5 : Nat) : Int)) sa5 sb5 sc5 F2 (fun q hq => ?_) heq
    have old : ∀ p ∈ news, h2.get? p.1 = some p.2 ∧ p.1 ≠ L ∧ h₀.get? p.1 = none := fun p hp => N2 p (.tail _ hp)
    rcases List.mem_cons.mp hq with rfl | hq
    · exact N2 _ (.head _)
    rcases List.mem_cons.mp hq with rfl | hq
    · exact old _ n0
    rcases List.mem_cons.mp hq with rfl | hq
    · exact old _ n1
    rcases List.mem_cons.mp hq with rfl | hq
    · exact old _ n2
    rcases List.mem_cons.mp hq with rfl | hq
    · exact old _ n3
    rcases List.mem_cons.mp hq with rfl | hq
    · exact old _ n4
    rcases List.mem_cons.mp hq with rfl | hq
    · exact old _ n5
    · exact old _ hq
theorem laid_ins {st : List Int} {r0 r1 r2 r3 r4 r5 z0 z1 z2 z3 z4 z5 : Int} (e0 : z0 = 0) (e1 : z1 = st.getD r0.toNat 0 + 0) (e2 : z2 = st.getD r0.toNat 0 + (st.getD r1.toNat 0 + 0)) (e3 : z3 = st.getD r0.toNat 0 + (st.getD r1.toNat 0 + (st.getD r2.toNat 0 + 0)))
    (e4 : z4 = st.getD r0.toNat 0 + (st.getD r1.toNat 0 + (st.getD r2.toNat 0 + (st.getD r3.toNat 0 + 0)))) (e5 : z5 = st.getD r0.toNat 0 + (st.getD r1.toNat 0 + (st.getD r2.toNat 0 + (st.getD r3.toNat 0 + (st.getD r4.toNat 0 + 0))))) :
    insP z5 r5 (insP z4 r4 (insP z3 r3 (insP z2 r2 (insP z1 r1 (insP z0 r0 []))))) = laidP st [r0, r1, r2, r3, r4, r5] 0 [] := by
  simp only [laidP]
  have q1 : z1 = 0 + st.getD r0.toNat 0 := by omega
  have q2 : z2 = 0 + st.getD r0.toNat 0 + st.getD r1.toNat 0 := by omega
  have q3 : z3 = 0 + st.getD r0.toNat 0 + st.getD r1.toNat 0 + st.getD r2.toNat 0 := by omega
  have q4 : z4 = 0 + st.getD r0.toNat 0 + st.getD r1.toNat 0 + st.getD r2.toNat 0 + st.getD r3.toNat 0 := by omega
  have q5 : z5 = 0 + st.getD r0.toNat 0 + st.getD r1.toNat 0 + st.getD r2.toNat 0 + st.getD r3.toNat 0 + st.getD r4.toNat 0 := by omega
  rw [e0, q1, q2, q3, q4, q5]
end
end Mine

-- part DueG

namespace Mine
open LCg
section
variable {prog : Program} {w : World} {A : Around} {E : Value → Shared → Prop} {s : Shared} {h₀ : Heap} {L : Addr} {m : Str → Option Value} {env : Env}
theorem one6 {P : Nat → Value → Prop} {a0 a1 a2 a3 a4 a5 : Value} (h0 : P 0 a0) (h1 : P 1 a1) (h2 : P 2 a2) (h3 : P 3 a3) (h4 : P 4 a4) (h5 : P 5 a5) : ∀ i x, [a0, a1, a2, a3, a4, a5].toArray[i]? = some x → P i x := by
  intro i x hx
  rw [List.getElem?_toArray] at hx
  match i, hx with
  | 0, hx => cases hx; exact h0
  | 1, hx => cases hx; exact h1
  | 2, hx => cases hx; exact h2
  | 3, hx => cases hx; exact h3
  | 4, hx => cases hx; exact h4
  | 5, hx => cases hx; exact h5
  | n + 6, hx => simp at hx
/-- a triple of the row that is due -/
def DueV (prs : List (Int × Int)) (i : Nat) (x y z : Value) : Prop := ∃ H t b u g v, x = .int H t ∧ y = .int b u ∧ z = .int g v ∧ prs[i]? = some (H, g)
theorem dueSrc {news : List (Addr × Obj)} {D C0 C1 C2 C3 C4 C5 : Addr} {c : Nat} {H0 g0 b0 H1 g1 b1 H2 g2 b2 H3 g3 b3 H4 g4 b4 H5 g5 b5 : Int} {s0 u0 v0 s1 u1 v1 s2 u2 v2 s3 u3 v3 s4 u4 v4 s5 u5 v5 : Tok} {s₀ : Shared} {xa xb xc : Str} {pa pb pc tp : Pos} {kk : Nat} (hh : A.handled = none) (F : Fr h₀ L s.heap m) (N : News h₀ L s.heap news)
    (mD : (D, PySem.W.listOf #[.ref C0, .ref C1, .ref C2, .ref C3, .ref C4, .ref C5] c) ∈ news) (m0 : (C0, trip H0 s0 b0 u0 g0 v0) ∈ news) (m1 : (C1, trip H1 s1 b1 u1 g1 v1) ∈ news) (m2 : (C2, trip H2 s2 b2 u2 g2 v2) ∈ news) (m3 : (C3, trip H3 s3 b3 u3 g3 v3) ∈ news) (m4 : (C4, trip H4 s4 b4 u4 g4 v4) ∈ news) (m5 : (C5, trip H5 s5 b5 u5 g5 v5) ∈ news) (hs : ∃ g k, s = { s₀ with heap := g, toks := k }) :
    wpAny (model prog w) A (pyIter (.ref D)) (SrcJ prog w A h₀ L m (.Tuple [.Name xa pa, .Name xb pb, .Name xc pc] kk tp) (Item3 (DueV [(H0, g0), (H1, g1), (H2, g2), (H3, g3), (H4, g4), (H5, g5)])) 6 news s₀) E s := by
  refine srcTup3 hh (News.listAt (vs := [.ref C0, .ref C1, .ref C2, .ref C3, .ref C4, .ref C5]) N mD) (N _ mD).2.1 [C0, C1, C2, C3, C4, C5] ?_ ?_ F N rfl hs
  · simp only [List.forall_mem_cons]
    exact ⟨⟨(N _ m0).2.1, _, (N _ m0).1⟩, ⟨(N _ m1).2.1, _, (N _ m1).1⟩, ⟨(N _ m2).2.1, _, (N _ m2).1⟩, ⟨(N _ m3).2.1, _, (N _ m3).1⟩, ⟨(N _ m4).2.1, _, (N _ m4).1⟩, ⟨(N _ m5).2.1, _, (N _ m5).1⟩, fun _ h => nomatch h⟩
  · refine one6 ?_ ?_ ?_ ?_ ?_ ?_
    · exact ⟨C0, _, _, _, rfl, by simp, ⟨_, (N _ m0).1, rfl, _, rfl⟩, _, _, _, _, _, _, rfl, rfl, rfl, rfl⟩
    · exact ⟨C1, _, _, _, rfl, by simp, ⟨_, (N _ m1).1, rfl, _, rfl⟩, _, _, _, _, _, _, rfl, rfl, rfl, rfl⟩
    · exact ⟨C2, _, _, _, rfl, by simp, ⟨_, (N _ m2).1, rfl, _, rfl⟩, _, _, _, _, _, _, rfl, rfl, rfl, rfl⟩
    · exact ⟨C3, _, _, _, rfl, by simp, ⟨_, (N _ m3).1, rfl, _, rfl⟩, _, _, _, _, _, _, rfl, rfl, rfl, rfl⟩
    · exact ⟨C4, _, _, _, rfl, by simp, ⟨_, (N _ m4).1, rfl, _, rfl⟩, _, _, _, _, _, _, rfl, rfl, rfl, rfl⟩
    · exact ⟨C5, _, _, _, rfl, by simp, ⟨_, (N _ m5).1, rfl, _, rfl⟩, _, _, _, _, _, _, rfl, rfl, rfl, rfl⟩
/-- where a turn that makes one pair ends -/
def EndT (h₀ : Heap) (L : Addr) (m : Str → Option Value) (s : Shared) (C : Addr) (oC : Obj) (D : Addr) (oD : Obj) (rest : List (Addr × Obj)) (P : Int × Int → Prop) (y : Value) (s' : Shared) : Prop :=
  ∃ h' tk a p t u, s' = { s with heap := h', toks := tk } ∧ Fr h₀ L h' m ∧ News h₀ L h' ((a, tupObj p.1 t p.2 u) :: (C, oC) :: (D, oD) :: rest) ∧ Apart a ((C, oC) :: (D, oD) :: rest) ∧ y = .ref a ∧ P p
theorem EndT.intro {h₀ : Heap} {L C D a : Addr} {m : Str → Option Value} {s : Shared} {oC oD : Obj} {rest : List (Addr × Obj)} {P : Int × Int → Prop} {h' : Heap} {tk : Nat} {x y : Int} {t u : Tok} (F : Fr h₀ L h' m) (N : News h₀ L h' ((a, tupObj x t y u) :: (C, oC) :: (D, oD) :: rest)) (ap : Apart a ((C, oC) :: (D, oD) :: rest)) (hp : P (x, y)) :
    EndT h₀ L m s C oC D oD rest P (.ref a) { s with heap := h', toks := tk } := ⟨h', tk, a, (x, y), t, u, rfl, F, N, ap, rfl, hp⟩
theorem compT3 {elt iter : PySem.Expr} {a b c : Str} {pa pb pc tp : Pos} {kk : Nat} {scope : Scope} {cl : List (Str × Addr)} {pos : Pos} {news : List (Addr × Obj)} {PV : Nat → Value → Value → Value → Prop} {Q : Value → Shared → Prop}
    (prs : List (Int × Int)) (F : Fr h₀ L s.heap m) (N : News h₀ L s.heap news)
    (hclos : closureFor scope env = pure cl) (hcell : ∀ y ∈ scope.names, y.2 ≠ .cell) (hkind : scope.kind = .function)
    (hnames : ∀ y ∈ scope.names, y.2 = .local → scope.names.lookup y.1 = some .local) (hxa : scope.names.lookup a = some .local) (hxb : scope.names.lookup b = some .local) (hxc : scope.names.lookup c = some .local) (hab : a ≠ b) (hac : a ≠ c) (hbc : b ≠ c) (hh : A.handled = none) (hsz : prs.length ≤ sizeLine)
    (h : wpAny (model prog w) A (eval iter env) (fun xv s₁ => wpAny (model prog w) A (pyIter xv) (SrcJ prog w A h₀ L m (.Tuple [.Name a pa, .Name b pb, .Name c pc] kk tp) (Item3 PV) prs.length news s) E s₁) E s)
    (turn : ∀ i x y z ys rest C oC D m₂ h tk (E' : Value → Shared → Prop), PV i x y z → NsObj oC m₂ → m₂ a = some x → m₂ b = some y → m₂ c = some z → Fr h₀ L h m → News h₀ L h ((C, oC) :: (D, lst ys) :: rest) →
      wpAny (model prog w) A (eval elt (compEnvC scope cl C env)) (EndT h₀ L m { s with heap := h, toks := tk } C oC D (lst ys) rest (fun p => prs[i]? = some p)) E' { s with heap := h, toks := tk })
    (fin : ∀ ys tups D h tk, Are (fun (p : Int × Int) v => ∃ a t u, v = .ref a ∧ (a, tupObj p.1 t p.2 u) ∈ tups) ys prs → Fr h₀ L h m → News h₀ L h ((D, lst ys) :: (tups ++ news)) → Apart D (tups ++ news) → Q (.ref D) { s with heap := h, toks := tk })
    (hs : ∀ x, foldedSetIterable iter env x = pure x := by intro _; rfl) :
    wpAny (model prog w) A (eval (.ListComp elt [⟨.Tuple [.Name a pa, .Name b pb, .Name c pc] kk tp, iter, [], 0⟩] scope pos) env) Q E s := by
  refine compJ (n := prs.length) (fun i ys nw => ∃ tups, nw = tups ++ news ∧ Are (fun (p : Int × Int) v => ∃ a t u, v = .ref a ∧ (a, tupObj p.1 t p.2 u) ∈ tups) ys (prs.take i)) hclos hcell hkind hnames (asg3 hh hkind hxa hxb hxc hab hac hbc) hh hsz h ⟨[], rfl, rfl, fun i a h => by simp at h⟩ ?_ ?_ hs
  · rintro i ys nw own C oC D m₂ g tk E' hi hl ⟨x, y, z, hPV, ha, hb, hc⟩ ⟨tups, rfl, hR⟩ hC F' N' _ _
    refine wpAny_mono (turn i x y z ys _ C oC D m₂ g tk E' hPV hC ha hb hc F' N') (fun y s' q => ?_) fun _ _ e => e
    obtain ⟨h', tk', T, p, t, u, rfl, F₂, N₂, ap, rfl, hp⟩ := q
    refine ⟨h', tk', [(T, tupObj p.1 t p.2 u)], rfl, F₂, fun q hq => N₂ q ?_, fun q hq => by rw [List.mem_singleton.mp hq]; exact ap, (T, tupObj p.1 t p.2 u) :: tups, rfl, ?_⟩
    · rcases List.mem_cons.mp hq with rfl | hq
      · exact .tail _ (.head _)
      · rcases List.mem_cons.mp hq with rfl | hq
        · exact .tail _ (.tail _ (.head _))
        · rcases List.mem_cons.mp hq with rfl | hq
          · exact .head _
          · exact .tail _ (.tail _ (.tail _ hq))
    · exact Are.snoc' (hR.mono fun q v ⟨a, t, u, e, hm⟩ => ⟨a, t, u, e, .tail _ hm⟩) hp ⟨T, t, u, rfl, .head _⟩
  · rintro ys nw D g tk ⟨tups, rfl, hR⟩ hl F' N' aD
    rw [List.take_length] at hR
    exact fin ys tups D g tk hR F' N' aD
abbrev pd (H g : Int) : PyData := .tuple [.int H, .int g]
theorem reads_pair {h : Heap} {a : Addr} {H g : Int} {t u : Tok} (e : h.get? a = some (tupObj H t g u)) : Reads h (.ref a) (pd H g) [] := .tuple e rfl rfl (.cons (as := []) (.int _ _) (.cons (as := []) (.int _ _) .nil))
/-- two lists of the same six pairs are not unequal -/
theorem ne_pairs {la lb : Addr} {va vb : Array Value} {n k : Nat} {H0 H1 H2 H3 H4 H5 g0 g1 g2 g3 g4 g5 : Int} {Q : Value → Shared → Prop} (ha : s.heap.get? la = some (PySem.W.listOf va n)) (hb : s.heap.get? lb = some (PySem.W.listOf vb k))
    (aa : Are (fun (p : Int × Int) v => ∃ a t u, v = .ref a ∧ s.heap.get? a = some (tupObj p.1 t p.2 u)) va.toList [(H0, g0), (H1, g1), (H2, g2), (H3, g3), (H4, g4), (H5, g5)])
    (ab : Are (fun (p : Int × Int) v => ∃ a t u, v = .ref a ∧ s.heap.get? a = some (tupObj p.1 t p.2 u)) vb.toList [(H0, g0), (H1, g1), (H2, g2), (H3, g3), (H4, g4), (H5, g5)]) (hu : A.units + 64 < cLine) (h : Q (.bool false) s) :
    wpAny (model prog w) A (compareOp .NotEq (.ref la) (.ref lb)) Q E s := by
  have rd : ∀ v : Array Value, Are (fun (p : Int × Int) v => ∃ a t u, v = .ref a ∧ s.heap.get? a = some (tupObj p.1 t p.2 u)) v.toList [(H0, g0), (H1, g1), (H2, g2), (H3, g3), (H4, g4), (H5, g5)] → ReadsAll s.heap v.toList [pd H0 g0, pd H1 g1, pd H2 g2, pd H3 g3, pd H4 g4, pd H5 g5] [] := fun v av => by
    obtain ⟨_, _, _, _, _, _, rfl, ⟨_, _, _, rfl, e0⟩, ⟨_, _, _, rfl, e1⟩, ⟨_, _, _, rfl, e2⟩, ⟨_, _, _, rfl, e3⟩, ⟨_, _, _, rfl, e4⟩, ⟨_, _, _, rfl, e5⟩⟩ := six_any av
    exact .cons (as := []) (reads_pair e0) (.cons (as := []) (reads_pair e1) (.cons (as := []) (reads_pair e2) (.cons (as := []) (reads_pair e3) (.cons (as := []) (reads_pair e4) (.cons (as := []) (reads_pair e5) .nil)))))
  refine ne_dataH (.list ha rfl rfl (rd va aa)) (.list hb rfl rfl (rd vb ab)) rfl rfl hu ?_
  have e : PyData.eqv (.list [pd H0 g0, pd H1 g1, pd H2 g2, pd H3 g3, pd H4 g4, pd H5 g5]) (.list [pd H0 g0, pd H1 g1, pd H2 g2, pd H3 g3, pd H4 g4, pd H5 g5]) = true := by
    simp [PyData.eqv, PyData.eqvAll]
  rw [e]
  exact h
theorem ne_ints6 {la lb : Addr} {va vb : List Value} {x0 x1 x2 x3 x4 x5 : Int} {Q : Value → Shared → Prop} (ha : s.heap.IsList la va.toArray) (hb : s.heap.IsList lb vb.toArray) (aa : Are isInt va [x0, x1, x2, x3, x4, x5]) (ab : Are isInt vb [x0, x1, x2, x3, x4, x5]) (hu : A.units + 64 < cLine) (h : Q (.bool false) s) :
    wpAny (model prog w) A (compareOp .NotEq (.ref la) (.ref lb)) Q E s := by
  have rd : ∀ v : List Value, Are isInt v [x0, x1, x2, x3, x4, x5] → ReadsAll s.heap v [.int x0, .int x1, .int x2, .int x3, .int x4, .int x5] [] := fun v av => by
    obtain ⟨_, _, _, _, _, _, rfl, ⟨_, rfl⟩, ⟨_, rfl⟩, ⟨_, rfl⟩, ⟨_, rfl⟩, ⟨_, rfl⟩, ⟨_, rfl⟩⟩ := six_list av
    exact .cons (as := []) (.int _ _) (.cons (as := []) (.int _ _) (.cons (as := []) (.int _ _) (.cons (as := []) (.int _ _) (.cons (as := []) (.int _ _) (.cons (as := []) (.int _ _) .nil)))))
  obtain ⟨oa, ea, ca, na, da⟩ := ha
  obtain ⟨ob, eb, cb, nb, db⟩ := hb
  refine ne_dataH (.list ea ca da (rd va aa)) (.list eb cb db (rd vb ab)) rfl rfl hu ?_
  have e : PyData.eqv (.list [.int x0, .int x1, .int x2, .int x3, .int x4, .int x5]) (.list [.int x0, .int x1, .int x2, .int x3, .int x4, .int x5]) = true := by
    simp [PyData.eqv, PyData.eqvAll]
  rw [e]
  exact h
theorem eq_ints6 {la lb : Addr} {va vb : List Value} {x0 x1 x2 x3 x4 x5 : Int} {Q : Value → Shared → Prop} (ha : s.heap.IsList la va.toArray) (hb : s.heap.IsList lb vb.toArray) (aa : Are isInt va [x0, x1, x2, x3, x4, x5]) (ab : Are isInt vb [x0, x1, x2, x3, x4, x5]) (hu : A.units + 64 < cLine) (h : Q (.bool true) s) :
    wpAny (model prog w) A (compareOp .Eq (.ref la) (.ref lb)) Q E s := by
  have rd : ∀ v : List Value, Are isInt v [x0, x1, x2, x3, x4, x5] → ReadsAll s.heap v [.int x0, .int x1, .int x2, .int x3, .int x4, .int x5] [] := fun v av => by
    obtain ⟨_, _, _, _, _, _, rfl, ⟨_, rfl⟩, ⟨_, rfl⟩, ⟨_, rfl⟩, ⟨_, rfl⟩, ⟨_, rfl⟩, ⟨_, rfl⟩⟩ := six_list av
    exact .cons (as := []) (.int _ _) (.cons (as := []) (.int _ _) (.cons (as := []) (.int _ _) (.cons (as := []) (.int _ _) (.cons (as := []) (.int _ _) (.cons (as := []) (.int _ _) .nil)))))
  obtain ⟨oa, ea, ca, na, da⟩ := ha
  obtain ⟨ob, eb, cb, nb, db⟩ := hb
  refine eq_dataH (.list ea ca da (rd va aa)) (.list eb cb db (rd vb ab)) rfl rfl hu ?_
  have e : PyData.eqv (.list [.int x0, .int x1, .int x2, .int x3, .int x4, .int x5]) (.list [.int x0, .int x1, .int x2, .int x3, .int x4, .int x5]) = true := by
    simp [PyData.eqv, PyData.eqvAll]
  rw [e]
  exact h
theorem laidP_srt {st : List Int} : ∀ (row : List Int) (h : Int) (acc : List (Int × Int)), acc.Pairwise (fun a b => a.1 ≤ b.1) → (laidP st row h acc).Pairwise (fun a b => a.1 ≤ b.1)
  | [], _, _, x => x
  | p :: r, h, acc, x => laidP_srt r _ _ (insP_srt x)
theorem laid_srt6 {st row : List Int} {H0 H1 H2 H3 H4 H5 g0 g1 g2 g3 g4 g5 : Int} (e : laidP st row 0 [] = [(H0, g0), (H1, g1), (H2, g2), (H3, g3), (H4, g4), (H5, g5)]) : [H0.toNat, H1.toNat, H2.toNat, H3.toNat, H4.toNat, H5.toNat].Pairwise (· ≤ ·) := by
  have q := laidP_srt (st := st) row 0 [] List.Pairwise.nil
  rw [e] at q
  have r := List.Pairwise.map (S := (· ≤ ·)) (fun p : Int × Int => p.1.toNat) (fun a b h => by show a.1.toNat ≤ b.1.toNat; omega) q
  exact r
theorem eq_strs {a b : Addr} {va vb : List Value} {xs ys : List Str} {Q : Value → Shared → Prop} (ha : s.heap.IsList a va.toArray) (hx : Are isStr va xs) (hb : s.heap.IsList b vb.toArray) (hy : Are isStr vb ys) (h1 : ∀ x ∈ xs, PyData.strOk x = true) (h2 : ∀ x ∈ ys, PyData.strOk x = true)
    (hu : A.units + 64 < cLine) (h : Q (.bool (xs == ys)) s) : wpAny (model prog w) A (compareOp .Eq (.ref a) (.ref b)) Q E s := by
  obtain ⟨o, ho, hc, n, hd⟩ := ha
  obtain ⟨o2, ho2, hc2, n2, hd2⟩ := hb
  refine eq_dataH (.list ho hc hd (reads_strs hx)) (.list ho2 hc2 hd2 (reads_strs hy)) (shaped_strs h1) (shaped_strs h2) hu ?_
  rw [PyData.eqv, eqv_strs]
  exact h
def PairV (prs : List (Int × Int)) (i : Nat) (x z : Value) : Prop := ∃ H t g v, x = .int H t ∧ z = .int g v ∧ prs[i]? = some (H, g)
theorem ne_L {h h₀ : Heap} {L D : Addr} (F : Fr h₀ L h m) (e : h.get? D = none) : D ≠ L := fun q => by
  obtain ⟨o, eo, _⟩ := ns_obj F.ns
  rw [q, eo] at e; cases e
theorem pairSrc {news : List (Addr × Obj)} {D C0 C1 C2 C3 C4 C5 : Addr} {c : Nat} {H0 g0 H1 g1 H2 g2 H3 g3 H4 g4 H5 g5 : Int} {s0 v0 s1 v1 s2 v2 s3 v3 s4 v4 s5 v5 : Tok} {s₀ : Shared} {xa xb : Str} {pa pb tp : Pos} {kk : Nat} (hh : A.handled = none) (F : Fr h₀ L s.heap m) (N : News h₀ L s.heap news)
    (hD : D ≠ L) (mD : s.heap.get? D = some (PySem.W.listOf #[.ref C0, .ref C1, .ref C2, .ref C3, .ref C4, .ref C5] c)) (n0 : C0 ≠ L) (m0 : s.heap.get? C0 = some (tupObj H0 s0 g0 v0)) (n1 : C1 ≠ L) (m1 : s.heap.get? C1 = some (tupObj H1 s1 g1 v1)) (n2 : C2 ≠ L) (m2 : s.heap.get? C2 = some (tupObj H2 s2 g2 v2)) (n3 : C3 ≠ L) (m3 : s.heap.get? C3 = some (tupObj H3 s3 g3 v3)) (n4 : C4 ≠ L) (m4 : s.heap.get? C4 = some (tupObj H4 s4 g4 v4)) (n5 : C5 ≠ L) (m5 : s.heap.get? C5 = some (tupObj H5 s5 g5 v5)) (hs : ∃ g k, s = { s₀ with heap := g, toks := k }) :
    wpAny (model prog w) A (pyIter (.ref D)) (SrcJ prog w A h₀ L m (.Tuple [.Name xa pa, .Name xb pb] kk tp) (Item2 (PairV [(H0, g0), (H1, g1), (H2, g2), (H3, g3), (H4, g4), (H5, g5)])) 6 news s₀) E s := by
  refine srcTup2 hh (its := [.ref C0, .ref C1, .ref C2, .ref C3, .ref C4, .ref C5].toArray) ⟨_, mD, rfl, _, rfl⟩ hD [C0, C1, C2, C3, C4, C5] ?_ ?_ F N rfl hs
  · simp only [List.forall_mem_cons]
    exact ⟨⟨n0, _, m0⟩, ⟨n1, _, m1⟩, ⟨n2, _, m2⟩, ⟨n3, _, m3⟩, ⟨n4, _, m4⟩, ⟨n5, _, m5⟩, fun _ h => nomatch h⟩
  · refine one6 ?_ ?_ ?_ ?_ ?_ ?_
    · exact ⟨C0, _, _, rfl, by simp, ⟨_, m0, rfl, _, rfl⟩, _, _, _, _, rfl, rfl, rfl⟩
    · exact ⟨C1, _, _, rfl, by simp, ⟨_, m1, rfl, _, rfl⟩, _, _, _, _, rfl, rfl, rfl⟩
    · exact ⟨C2, _, _, rfl, by simp, ⟨_, m2, rfl, _, rfl⟩, _, _, _, _, rfl, rfl, rfl⟩
    · exact ⟨C3, _, _, rfl, by simp, ⟨_, m3, rfl, _, rfl⟩, _, _, _, _, rfl, rfl, rfl⟩
    · exact ⟨C4, _, _, rfl, by simp, ⟨_, m4, rfl, _, rfl⟩, _, _, _, _, rfl, rfl, rfl⟩
    · exact ⟨C5, _, _, rfl, by simp, ⟨_, m5, rfl, _, rfl⟩, _, _, _, _, rfl, rfl, rfl⟩
theorem map6 {l : List (Int × Int)} {r0 r1 r2 r3 r4 r5 : Int} (e : l.map (·.2) = [r0, r1, r2, r3, r4, r5]) : ∃ k0 k1 k2 k3 k4 k5, l = [(k0, r0), (k1, r1), (k2, r2), (k3, r3), (k4, r4), (k5, r5)] := by
  obtain ⟨⟨k0, _⟩, _, rfl, rfl, e1⟩ := List.map_eq_cons_iff.mp e
  obtain ⟨⟨k1, _⟩, _, rfl, rfl, e2⟩ := List.map_eq_cons_iff.mp e1
  obtain ⟨⟨k2, _⟩, _, rfl, rfl, e3⟩ := List.map_eq_cons_iff.mp e2
  obtain ⟨⟨k3, _⟩, _, rfl, rfl, e4⟩ := List.map_eq_cons_iff.mp e3
  obtain ⟨⟨k4, _⟩, _, rfl, rfl, e5⟩ := List.map_eq_cons_iff.mp e4
  obtain ⟨⟨k5, _⟩, _, rfl, rfl, e6⟩ := List.map_eq_cons_iff.mp e5
  cases List.map_eq_nil_iff.mp e6
  exact ⟨k0, k1, k2, k3, k4, k5, rfl⟩
theorem sift_ok {x : Str} {ns : List Nat} (hx : x.cps.toList = ns) (h : scan 0 ns = true) : sift x = x := by
  unfold sift; rw [hx, if_pos h]
theorem are2s {x y : Str} {t u : Tok} : Are isStr [.str x t, .str y u] [x, y] := by
  refine ⟨rfl, fun i a h => ?_⟩
  match i, h with
  | 0, h | 1, h => cases h; exact ⟨_, rfl, _, rfl⟩
theorem two_p {P : Str → Prop} {x y : Str} (hx : P x) (hy : P y) : ∀ z ∈ [x, y], P z := by
  simp only [List.forall_mem_cons]
  exact ⟨hx, hy, fun _ h => nomatch h⟩
theorem strOk_pt2 {x : Str} (h : isPt x) : PyData.strOk x = true := by
  unfold PyData.strOk
  rw [Array.all_eq_true']
  intro c hc
  rcases h.1 c (Array.mem_toList_iff.mpr hc) with rfl | rfl <;> decide
end
end Mine

-- part LawS

namespace Mine
section
variable {h₀ h h' : Heap} {L D : Addr} {m : Str → Option Value} {ys : List Value} {ws news : List (Addr × Obj)} {P : Prop}
theorem lt6 {l : List Int} (h : ∀ q ∈ l, 0 ≤ q ∧ q < 6) : ∀ p ∈ l, 0 ≤ p ∧ p.toNat < 6 := fun p hp => ⟨(h p hp).1, by have := h p hp; omega⟩
theorem News.noW {p : Addr × Obj} (N : News h₀ L h (p :: (ws ++ news))) : News h₀ L h (p :: news) := fun q hq => by
  rcases List.mem_cons.mp hq with rfl | hq
  · exact N _ (.head _)
  · exact N q (.tail _ (List.mem_append_right _ hq))
theorem News.put {p : Addr × Obj} {l : List (Addr × Obj)} (hp : h.get? p.1 = some p.2 ∧ p.1 ≠ L ∧ h₀.get? p.1 = none) (N : News h₀ L h l) : News h₀ L h (p :: l) := fun q hq => by
  rcases List.mem_cons.mp hq with rfl | hq
  · exact hp
  · exact N q hq
/-- what a comprehension of six has made, told once and for all to a small goal -/
theorem ways_k {ob : Nat → Obj} (hR : Are (fun k v => ∃ W, v = Value.ref W ∧ (W, ob k) ∈ ws) ys [0, 1, 2, 3, 4, 5]) (hw : ∀ p ∈ ws, Apart p.1 news) (N : News h₀ L h ((D, LCg.lst ys) :: (ws ++ news))) (aD : Apart D (ws ++ news))
    (k : ∀ W0 W1 W2 W3 W4 W5, Apart W0 news → Apart W1 news → Apart W2 news → Apart W3 news → Apart W4 news → Apart W5 news → News h₀ L h ((D, LCg.lst [.ref W0, .ref W1, .ref W2, .ref W3, .ref W4, .ref W5]) :: (W5, ob 5) :: (W4, ob 4) :: (W3, ob 3) :: (W2, ob 2) :: (W1, ob 1) :: (W0, ob 0) :: news) → Apart D news → P) : P := by
  obtain ⟨_, _, _, _, _, _, rfl, ⟨W0, rfl, m0⟩, ⟨W1, rfl, m1⟩, ⟨W2, rfl, m2⟩, ⟨W3, rfl, m3⟩, ⟨W4, rfl, m4⟩, ⟨W5, rfl, m5⟩⟩ := six_list hR
  have w : ∀ p ∈ ws, h.get? p.1 = some p.2 ∧ p.1 ≠ L ∧ h₀.get? p.1 = none := fun p hp => N p (.tail _ (List.mem_append_left _ hp))
  exact k W0 W1 W2 W3 W4 W5 (hw _ m0) (hw _ m1) (hw _ m2) (hw _ m3) (hw _ m4) (hw _ m5) (News.put (N _ (.head _)) (News.put (w _ m5) (News.put (w _ m4) (News.put (w _ m3) (News.put (w _ m2) (News.put (w _ m1) (News.put (w _ m0) (fun q hq => N q (.tail _ (List.mem_append_right _ hq)))))))))) (aD.of fun p hp => List.mem_append_right _ hp)
theorem trips_k {z r : Nat → Int} (hR : Are (fun k v => ∃ B ta tb tc, v = Value.ref B ∧ (B, trip (z k) ta (-((k : Nat) : Int)) tb (r k) tc) ∈ ws) ys [0, 1, 2, 3, 4, 5]) (N : News h₀ L h ((D, LCg.lst ys) :: (ws ++ news)))
    (k : ∀ B0 ta0 tb0 tc0 B1 ta1 tb1 tc1 B2 ta2 tb2 tc2 B3 ta3 tb3 tc3 B4 ta4 tb4 tc4 B5 ta5 tb5 tc5, News h₀ L h ((D, LCg.lst [.ref B0, .ref B1, .ref B2, .ref B3, .ref B4, .ref B5]) :: (B5, trip (z 5) ta5 (-((5 : Nat) : Int)) tb5 (r 5) tc5) :: (B4, trip (z 4) ta4 (-((4 : Nat) : Int)) tb4 (r 4) tc4) :: (B3, trip (z 3) ta3 (-((3 : Nat) : Int)) tb3 (r 3) tc3) :: (B2, trip (z 2) ta2 (-((2 : Nat) : Int)) tb2 (r 2) tc2) :: (B1, trip (z 1) ta1 (-((1 : Nat) : Int)) tb1 (r 1) tc1) :: (B0, trip (z 0) ta0 (-((0 : Nat) : Int)) tb0 (r 0) tc0) :: news) → P) : P := by
  obtain ⟨_, _, _, _, _, _, rfl, ⟨B0, ta0, tb0, tc0, rfl, m0⟩, ⟨B1, ta1, tb1, tc1, rfl, m1⟩, ⟨B2, ta2, tb2, tc2, rfl, m2⟩, ⟨B3, ta3, tb3, tc3, rfl, m3⟩, ⟨B4, ta4, tb4, tc4, rfl, m4⟩, ⟨B5, ta5, tb5, tc5, rfl, m5⟩⟩ := six_list hR
  have w : ∀ p ∈ ws, h.get? p.1 = some p.2 ∧ p.1 ≠ L ∧ h₀.get? p.1 = none := fun p hp => N p (.tail _ (List.mem_append_left _ hp))
  exact k B0 ta0 tb0 tc0 B1 ta1 tb1 tc1 B2 ta2 tb2 tc2 B3 ta3 tb3 tc3 B4 ta4 tb4 tc4 B5 ta5 tb5 tc5 (News.put (N _ (.head _)) (News.put (w _ m5) (News.put (w _ m4) (News.put (w _ m3) (News.put (w _ m2) (News.put (w _ m1) (News.put (w _ m0) (fun q hq => N q (.tail _ (List.mem_append_right _ hq))))))))))
theorem texts_k {f : Nat → List Nat} (hR : Are (fun k v => ∃ x t, v = Value.str x t ∧ x.cps.toList = f k) ys [0, 1, 2, 3, 4, 5]) (N : News h₀ L h ((D, LCg.lst ys) :: (ws ++ news))) (aD : Apart D (ws ++ news))
    (k : ∀ X0 T0 X1 T1 X2 T2 X3 T3 X4 T4 X5 T5, X0.cps.toList = f 0 → X1.cps.toList = f 1 → X2.cps.toList = f 2 → X3.cps.toList = f 3 → X4.cps.toList = f 4 → X5.cps.toList = f 5 → News h₀ L h ((D, LCg.lst [.str X0 T0, .str X1 T1, .str X2 T2, .str X3 T3, .str X4 T4, .str X5 T5]) :: news) → Apart D news → P) : P := by
  obtain ⟨_, _, _, _, _, _, rfl, ⟨X0, T0, rfl, e0⟩, ⟨X1, T1, rfl, e1⟩, ⟨X2, T2, rfl, e2⟩, ⟨X3, T3, rfl, e3⟩, ⟨X4, T4, rfl, e4⟩, ⟨X5, T5, rfl, e5⟩⟩ := six_list hR
  exact k _ _ _ _ _ _ _ _ _ _ _ _ e0 e1 e2 e3 e4 e5 (News.noW N) (aD.of fun p hp => List.mem_append_right _ hp)
theorem fronts_k {f : Nat → Int} (hR : Are (fun k v => ∃ p t, v = Value.int p t ∧ p = f k) ys [0, 1, 2, 3, 4, 5]) (N : News h₀ L h ((D, LCg.lst ys) :: (ws ++ news))) (aD : Apart D (ws ++ news))
    (k : ∀ p0 t0 p1 t1 p2 t2 p3 t3 p4 t4 p5 t5, p0 = f 0 → p1 = f 1 → p2 = f 2 → p3 = f 3 → p4 = f 4 → p5 = f 5 → News h₀ L h ((D, LCg.lst [.int p0 t0, .int p1 t1, .int p2 t2, .int p3 t3, .int p4 t4, .int p5 t5]) :: news) → Apart D news → P) : P := by
  obtain ⟨_, _, _, _, _, _, rfl, ⟨p0, t0, rfl, e0⟩, ⟨p1, t1, rfl, e1⟩, ⟨p2, t2, rfl, e2⟩, ⟨p3, t3, rfl, e3⟩, ⟨p4, t4, rfl, e4⟩, ⟨p5, t5, rfl, e5⟩⟩ := six_list hR
  exact k _ _ _ _ _ _ _ _ _ _ _ _ e0 e1 e2 e3 e4 e5 (News.noW N) (aD.of fun p hp => List.mem_append_right _ hp)
theorem ints_k {x0 x1 x2 x3 x4 x5 : Int} (hR : Are isInt ys [x0, x1, x2, x3, x4, x5]) (k : ∀ t0 t1 t2 t3 t4 t5, ys = [.int x0 t0, .int x1 t1, .int x2 t2, .int x3 t3, .int x4 t4, .int x5 t5] → P) : P := by
  obtain ⟨_, _, _, _, _, _, rfl, ⟨t0, rfl⟩, ⟨t1, rfl⟩, ⟨t2, rfl⟩, ⟨t3, rfl⟩, ⟨t4, rfl⟩, ⟨t5, rfl⟩⟩ := six_list hR
  exact k _ _ _ _ _ _ rfl
theorem intsA_k {vs : Array Value} {x0 x1 x2 x3 x4 x5 : Int} (hR : Are isInt vs.toList [x0, x1, x2, x3, x4, x5]) (k : ∀ t0 t1 t2 t3 t4 t5, vs = #[.int x0 t0, .int x1 t1, .int x2 t2, .int x3 t3, .int x4 t4, .int x5 t5] → P) : P :=
  ints_k hR fun _ _ _ _ _ _ e => k _ _ _ _ _ _ (Array.toList_inj.mp e)
theorem strs_k {vs : Array Value} {x0 x1 x2 x3 x4 x5 : Str} (hR : Are isStr vs.toList [x0, x1, x2, x3, x4, x5]) (k : ∀ t0 t1 t2 t3 t4 t5, vs = #[.str x0 t0, .str x1 t1, .str x2 t2, .str x3 t3, .str x4 t4, .str x5 t5] → P) : P := by
  obtain ⟨t0, t1, t2, t3, t4, t5, e⟩ := six_strs hR
  exact k _ _ _ _ _ _ e
theorem six_ints_k {vs : List Value} (hI : IntsAre vs (rangeKs 0 ((6 + 0 - Nat.succ 0) / 1 + 1))) (k : ∀ u0 u1 u2 u3 u4 u5, vs = [.int 0 u0, .int 1 u1, .int 2 u2, .int 3 u3, .int 4 u4, .int 5 u5] → P) : P := by
  obtain ⟨u0, u1, u2, u3, u4, u5, e⟩ := six_ints hI
  exact k _ _ _ _ _ _ e
theorem tups_k {vL : Array Value} {nL : Nat} {H0 g0 H1 g1 H2 g2 H3 g3 H4 g4 H5 g5 : Int} (F : Fr h₀ L h m) (N : News h₀ L h news) (K : Ext h h') (hf : h.get? D = none) (hD : h'.get? D = some (PySem.W.listOf vL nL))
    (hA : Are (fun (p : Int × Int) v => ∃ a t u, v = Value.ref a ∧ h'.get? a = some (tupObj p.1 t p.2 u) ∧ h.get? a = none) vL.toList [(H0, g0), (H1, g1), (H2, g2), (H3, g3), (H4, g4), (H5, g5)])
    (k : ∀ A0 t0 u0 A1 t1 u1 A2 t2 u2 A3 t3 u3 A4 t4 u4 A5 t5 u5, News h₀ L h' ((D, PySem.W.listOf #[.ref A0, .ref A1, .ref A2, .ref A3, .ref A4, .ref A5] nL) :: (A0, tupObj H0 t0 g0 u0) :: (A1, tupObj H1 t1 g1 u1) :: (A2, tupObj H2 t2 g2 u2) :: (A3, tupObj H3 t3 g3 u3) :: (A4, tupObj H4 t4 g4 u4) :: (A5, tupObj H5 t5 g5 u5) :: news) → P) : P := by
  obtain ⟨_, _, _, _, _, _, rfl, ⟨A0, t0, u0, rfl, o0, n0⟩, ⟨A1, t1, u1, rfl, o1, n1⟩, ⟨A2, t2, u2, rfl, o2, n2⟩, ⟨A3, t3, u3, rfl, o3, n3⟩, ⟨A4, t4, u4, rfl, o4, n4⟩, ⟨A5, t5, u5, rfl, o5, n5⟩⟩ := six_any hA
  refine k A0 t0 u0 A1 t1 u1 A2 t2 u2 A3 t3 u3 A4 t4 u4 A5 t5 u5 (News.many F N K ((D, PySem.W.listOf #[.ref A0, .ref A1, .ref A2, .ref A3, .ref A4, .ref A5] nL) :: (A0, tupObj H0 t0 g0 u0) :: (A1, tupObj H1 t1 g1 u1) :: (A2, tupObj H2 t2 g2 u2) :: (A3, tupObj H3 t3 g3 u3) :: (A4, tupObj H4 t4 g4 u4) :: (A5, tupObj H5 t5 g5 u5) :: []) ?_)
  simp only [List.forall_mem_cons]
  exact ⟨⟨hD, hf⟩, ⟨o0, n0⟩, ⟨o1, n1⟩, ⟨o2, n2⟩, ⟨o3, n3⟩, ⟨o4, n4⟩, ⟨o5, n5⟩, fun _ h => nomatch h⟩
theorem tupsE_k {vL : Array Value} {H0 g0 H1 g1 H2 g2 H3 g3 H4 g4 H5 g5 : Int} (F : Fr h₀ L h m)
    (hA : Are (fun (p : Int × Int) v => ∃ a t u, v = Value.ref a ∧ h'.get? a = some (tupObj p.1 t p.2 u) ∧ h.get? a = none) vL.toList [(H0, g0), (H1, g1), (H2, g2), (H3, g3), (H4, g4), (H5, g5)])
    (k : ∀ A0 t0 u0 A1 t1 u1 A2 t2 u2 A3 t3 u3 A4 t4 u4 A5 t5 u5, vL = #[.ref A0, .ref A1, .ref A2, .ref A3, .ref A4, .ref A5] → A0 ≠ L → h'.get? A0 = some (tupObj H0 t0 g0 u0) → A1 ≠ L → h'.get? A1 = some (tupObj H1 t1 g1 u1) → A2 ≠ L → h'.get? A2 = some (tupObj H2 t2 g2 u2) → A3 ≠ L → h'.get? A3 = some (tupObj H3 t3 g3 u3) → A4 ≠ L → h'.get? A4 = some (tupObj H4 t4 g4 u4) → A5 ≠ L → h'.get? A5 = some (tupObj H5 t5 g5 u5) → P) : P := by
  obtain ⟨_, _, _, _, _, _, e, ⟨A0, t0, u0, rfl, o0, n0⟩, ⟨A1, t1, u1, rfl, o1, n1⟩, ⟨A2, t2, u2, rfl, o2, n2⟩, ⟨A3, t3, u3, rfl, o3, n3⟩, ⟨A4, t4, u4, rfl, o4, n4⟩, ⟨A5, t5, u5, rfl, o5, n5⟩⟩ := six_any hA
  exact k _ _ _ _ _ _ _ _ _ _ _ _ _ _ _ _ _ _ e (ne_L F n0) o0 (ne_L F n1) o1 (ne_L F n2) o2 (ne_L F n3) o3 (ne_L F n4) o4 (ne_L F n5) o5
/-- what lies on the ledger, told by letters -/
theorem hide8 {e1 e2 e3 e4 e5 e6 e7 e8 : Addr × Obj} (N : News h₀ L h (e1 :: e2 :: e3 :: e4 :: e5 :: e6 :: e7 :: e8 :: [])) (k : ∀ n, News h₀ L h n → e1 ∈ n → e2 ∈ n → e3 ∈ n → e4 ∈ n → e5 ∈ n → e6 ∈ n → e7 ∈ n → e8 ∈ n → P) : P :=
  k _ N (.head _) (.tail _ (.head _)) (.tail _ (.tail _ (.head _))) (.tail _ (.tail _ (.tail _ (.head _)))) (.tail _ (.tail _ (.tail _ (.tail _ (.head _))))) (.tail _ (.tail _ (.tail _ (.tail _ (.tail _ (.head _)))))) (.tail _ (.tail _ (.tail _ (.tail _ (.tail _ (.tail _ (.head _))))))) (.tail _ (.tail _ (.tail _ (.tail _ (.tail _ (.tail _ (.tail _ (.head _))))))))
theorem hide7t {e1 e2 e3 e4 e5 e6 e7 : Addr × Obj} {r : List (Addr × Obj)} (N : News h₀ L h (e1 :: e2 :: e3 :: e4 :: e5 :: e6 :: e7 :: r)) (k : ∀ n, News h₀ L h n → (∀ p ∈ r, p ∈ n) → e1 ∈ n → e2 ∈ n → e3 ∈ n → e4 ∈ n → e5 ∈ n → e6 ∈ n → e7 ∈ n → P) : P :=
  k _ N (fun p hp => .tail _ (.tail _ (.tail _ (.tail _ (.tail _ (.tail _ (.tail _ (hp)))))))) (.head _) (.tail _ (.head _)) (.tail _ (.tail _ (.head _))) (.tail _ (.tail _ (.tail _ (.head _)))) (.tail _ (.tail _ (.tail _ (.tail _ (.head _))))) (.tail _ (.tail _ (.tail _ (.tail _ (.tail _ (.head _)))))) (.tail _ (.tail _ (.tail _ (.tail _ (.tail _ (.tail _ (.head _)))))))
end
theorem Facts.fwd {st : List Int} {row : List Int} {P : Prop} (F : Facts st row) (k : ∀ (h0 h1 h2 h3 h4 h5 q0 q1 q2 q3 q4 q5 : Int), laidP st row 0 [] = [(h0, q0), (h1, q1), (h2, q2), (h3, q3), (h4, q4), (h5, q5)] →
    (∀ h ∈ [h0, h1, h2, h3, h4, h5], 0 ≤ h ∧ h ≤ 200) → (∀ q ∈ [q0, q1, q2, q3, q4, q5], 0 ≤ q ∧ q < 6) →
    fixL st [q0, q1, q2, q3, q4, q5] 30 zer = some [h0.toNat, h1.toNat, h2.toNat, h3.toNat, h4.toNat, h5.toNat] → 
    toldL st [q0, q1, q2, q3, q4, q5] [h0.toNat, h1.toNat, h2.toNat, h3.toNat, h4.toNat, h5.toNat] 6 [] [] 0 = some row →
    scan 0 (txt [stp st q0, stp st q1, stp st q2, stp st q3, stp st q4, stp st q5]) = true → P) : P := by
  obtain ⟨h0, h1, h2, h3, h4, h5, q0, q1, q2, q3, q4, q5, a, b, c, d, e, f⟩ := F.laid
  exact k _ _ _ _ _ _ _ _ _ _ _ _ a b c d e f
theorem Facts.bwd {st : List Int} {r0 r1 r2 r3 r4 r5 : Int} {P : Prop} (F : Facts st [r0, r1, r2, r3, r4, r5]) (k : ∀ (m0 m1 m2 m3 m4 m5 : Nat) (q0 q1 q2 q3 q4 q5 k0 k1 k2 k3 k4 k5 : Int), fixL st [r0, r1, r2, r3, r4, r5] 30 zer = some [m0, m1, m2, m3, m4, m5] →
    toldL st [r0, r1, r2, r3, r4, r5] [m0, m1, m2, m3, m4, m5] 6 [] [] 0 = some [q0, q1, q2, q3, q4, q5] → (∀ q ∈ [q0, q1, q2, q3, q4, q5], 0 ≤ q ∧ q < 6) →
    laidP st [q0, q1, q2, q3, q4, q5] 0 [] = [(k0, r0), (k1, r1), (k2, r2), (k3, r3), (k4, r4), (k5, r5)] → scan 0 (txt [stp st q0, stp st q1, stp st q2, stp st q3, stp st q4, stp st q5]) = true → [m0, m1, m2, m3, m4, m5].Pairwise (· ≤ ·) → P) : P := by
  obtain ⟨m0, m1, m2, m3, m4, m5, q0, q1, q2, q3, q4, q5, a, b, c, d, e, f⟩ := F.back
  obtain ⟨k0, k1, k2, k3, k4, k5, d⟩ := map6 d
  exact k _ _ _ _ _ _ _ _ _ _ _ _ _ _ _ _ _ _ a b c d e f
section
variable {prog : Program} {w : World} {mean : ExcName → Option Value} {mg mb : Str → Option Value} {A : Around} {s : Shared} {Q E : Value → Shared → Prop}
variable {h₀ : Heap} {L : Addr} {m : Str → Option Value} {news : List (Addr × Obj)}
theorem sorted6v {l B0 B1 B2 B3 B4 B5 : Addr} {z r : Nat → Int} {H0 g0 H1 g1 H2 g2 H3 g3 H4 g4 H5 g5 : Int} {ta0 tb0 tc0 ta1 tb1 tc1 ta2 tb2 tc2 ta3 tb3 tc3 ta4 tb4 tc4 ta5 tb5 tc5 : Tok} (F : Fr h₀ L s.heap m) (N : News h₀ L s.heap news) (hl : s.heap.IsList l [.ref B0, .ref B1, .ref B2, .ref B3, .ref B4, .ref B5].toArray)
    (m0 : (B0, trip (z 0) ta0 (-((0 : Nat) : Int)) tb0 (r 0) tc0) ∈ news) (m1 : (B1, trip (z 1) ta1 (-((1 : Nat) : Int)) tb1 (r 1) tc1) ∈ news) (m2 : (B2, trip (z 2) ta2 (-((2 : Nat) : Int)) tb2 (r 2) tc2) ∈ news) (m3 : (B3, trip (z 3) ta3 (-((3 : Nat) : Int)) tb3 (r 3) tc3) ∈ news) (m4 : (B4, trip (z 4) ta4 (-((4 : Nat) : Int)) tb4 (r 4) tc4) ∈ news) (m5 : (B5, trip (z 5) ta5 (-((5 : Nat) : Int)) tb5 (r 5) tc5) ∈ news)
    (hins : insP (z 5) (r 5) (insP (z 4) (r 4) (insP (z 3) (r 3) (insP (z 2) (r 2) (insP (z 1) (r 1) (insP (z 0) (r 0) []))))) = [(H0, g0), (H1, g1), (H2, g2), (H3, g3), (H4, g4), (H5, g5)])
    (h : ∀ D c h' C0 C1 C2 C3 C4 C5 bb0 sa0 sb0 sc0 bb1 sa1 sb1 sc1 bb2 sa2 sb2 sc2 bb3 sa3 sb3 sc3 bb4 sa4 sb4 sc4 bb5 sa5 sb5 sc5, Fr h₀ L h' m → News h₀ L h' ((D, PySem.W.listOf #[.ref C0, .ref C1, .ref C2, .ref C3, .ref C4, .ref C5] c) :: (C0, trip H0 sa0 bb0 sb0 g0 sc0) :: (C1, trip H1 sa1 bb1 sb1 g1 sc1) :: (C2, trip H2 sa2 bb2 sb2 g2 sc2) :: (C3, trip H3 sa3 bb3 sb3 g3 sc3) :: (C4, trip H4 sa4 bb4 sb4 g4 sc4) :: (C5, trip H5 sa5 bb5 sb5 g5 sc5) :: news) → Q (.ref D) { s with heap := h' }) :
    wpAny (model prog w) A (call (.builtin "sorted") [.ref l]) Q E s := by
  refine sorted6 F N hl m0 m1 m2 m3 m4 m5 fun D c h' C0 C1 C2 C3 C4 C5 zz0 rr0 bb0 sa0 sb0 sc0 zz1 rr1 bb1 sa1 sb1 sc1 zz2 rr2 bb2 sa2 sb2 sc2 zz3 rr3 bb3 sa3 sb3 sc3 zz4 rr4 bb4 sa4 sb4 sc4 zz5 rr5 bb5 sa5 sb5 sc5 F' N' heq => ?_
  have e := heq.trans hins
  cases e
  exact h _ _ _ _ _ _ _ _ _ _ _ _ _ _ _ _ _ _ _ _ _ _ _ _ _ _ _ _ _ _ _ _ _ F' N'
end
end Mine

-- the law
namespace Mine
theorem at6u {u0 u1 u2 u3 u4 u5 : Tok} {i : Nat} {v : Value} (h : [Value.int 0 u0, .int 1 u1, .int 2 u2, .int 3 u3, .int 4 u4, .int 5 u5].toArray[i]? = some v) : ∃ u, v = .int (i : Int) u := by
  rw [List.getElem?_toArray] at h
  match i, h with
  | 0, h | 1, h | 2, h | 3, h | 4, h | 5, h => cases h; exact ⟨_, rfl⟩
  | n + 6, h => simp at h
theorem pick_from {u0 u1 u2 u3 u4 u5 : Tok} {i : Nat} (hi : i < 6) : (slicePick [Value.int 0 u0, .int 1 u1, .int 2 u2, .int 3 u3, .int 4 u4, .int 5 u5].toArray (some (i : Int)) none none).toList = [Value.int 0 u0, .int 1 u1, .int 2 u2, .int 3 u3, .int 4 u4, .int 5 u5].drop i := by
  match i, hi with
  | 0, _ | 1, _ | 2, _ | 3, _ | 4, _ | 5, _ => with_unfolding_all rfl
theorem upto6 {v0 v1 v2 v3 v4 v5 : Value} {i : Nat} (hi : i < 6) : (slicePick [v0, v1, v2, v3, v4, v5].toArray none (some (i : Int)) none).toList = [v0, v1, v2, v3, v4, v5].take i := by
  match i, hi with
  | 0, _ | 1, _ | 2, _ | 3, _ | 4, _ | 5, _ => with_unfolding_all rfl
theorem cut_len {l : List Value} (i : Nat) (h : l.length ≤ 1000) : (l.drop i).length + (l.take i).length ≤ 2000 := by
  rw [List.length_drop, List.length_take]; omega
theorem six_at {i : Nat} (hi : i < 6) : [0, 1, 2, 3, 4, 5][i]? = some i := by
  match i, hi with
  | 0, _ | 1, _ | 2, _ | 3, _ | 4, _ | 5, _ => rfl
def rotV (u0 u1 u2 u3 u4 u5 : Tok) (k : Nat) : Array Value := ([Value.int 0 u0, .int 1 u1, .int 2 u2, .int 3 u3, .int 4 u4, .int 5 u5].drop k ++ [Value.int 0 u0, .int 1 u1, .int 2 u2, .int 3 u3, .int 4 u4, .int 5 u5].take k).toArray
def rotL (l : List Int) (i : Nat) : List Int := l.drop i ++ l.take i
theorem rot_len (l : List Int) (i : Nat) : (rotL l i).length = l.length := by rw [rotL, List.length_append, Nat.add_comm, ← List.length_append, List.take_append_drop]
theorem Are.append {α : Type} {R : α → Value → Prop} {ws : List Value} {bs : List α} (k : Are R ws bs) : ∀ {vs : List Value} {as : List α}, Are R vs as → Are R (vs ++ ws) (as ++ bs)
  | vs, [], h => by cases h.unnil; exact k
  | vs, a :: as, h => by
    obtain ⟨v, vs, rfl, r, h⟩ := h.uncons
    exact .cons r (Are.append k h)
theorem Are.drop {α : Type} {R : α → Value → Prop} : ∀ (i : Nat) {vs : List Value} {as : List α}, Are R vs as → Are R (vs.drop i) (as.drop i)
  | 0, _, _, h => h
  | i + 1, vs, [], h => by cases h.unnil; exact .nil
  | i + 1, vs, a :: as, h => by
    obtain ⟨v, vs, rfl, _, h⟩ := h.uncons
    exact Are.drop i h
theorem Are.take {α : Type} {R : α → Value → Prop} : ∀ (i : Nat) {vs : List Value} {as : List α}, Are R vs as → Are R (vs.take i) (as.take i)
  | 0, _, _, _ => .nil
  | i + 1, vs, [], h => by cases h.unnil; exact .nil
  | i + 1, vs, a :: as, h => by
    obtain ⟨v, vs, rfl, r, h⟩ := h.uncons
    exact .cons r (Are.take i h)
theorem Are.rot {α : Type} {R : α → Value → Prop} {vs : List Value} {as : List α} (h : Are R vs as) (i : Nat) : Are R (vs.drop i ++ vs.take i) (as.drop i ++ as.take i) := Are.append (h.take i) (h.drop i)
/-- a place of the row, as _law_text asks for it -/
theorem place_ok {a b c d e f : Int} {t1 t2 t3 t4 t5 t6 : Tok} (bst : ∀ x ∈ [a, b, c, d, e, f], -20 ≤ x ∧ x ≤ 20) {q : Int} {w : Tok} (hq : 0 ≤ q ∧ q < 6) :
    PlaceOf [Value.int a t1, .int b t2, .int c t3, .int d t4, .int e t5, .int f t6] ([a, b, c, d, e, f].getD q.toNat 0) (.int q w) := by
  obtain ⟨t, ht⟩ := at6i (p0 := a) (p1 := b) (p2 := c) (p3 := d) (p4 := e) (p5 := f) (t0 := t1) (t1 := t2) (t2 := t3) (t3 := t4) (t4 := t5) (t5 := t6) (mem6 hq)
  exact ⟨q, w, t, rfl, ⟨hq.1, Int.lt_trans hq.2 (by decide), ht⟩, stp_bnd bst⟩
theorem one6r {P : Nat → Value → Prop} {a0 a1 a2 a3 a4 a5 : Value} (h0 : P 0 a0) (h1 : P 1 a1) (h2 : P 2 a2) (h3 : P 3 a3) (h4 : P 4 a4) (h5 : P 5 a5) : ∀ i x, [a0, a1, a2, a3, a4, a5].toArray[i]? = some x → P i x := by
  intro i x hx
  rw [List.getElem?_toArray] at hx
  match i, hx with
  | 0, hx => cases hx; exact h0
  | 1, hx => cases hx; exact h1
  | 2, hx => cases hx; exact h2
  | 3, hx => cases hx; exact h3
  | 4, hx => cases hx; exact h4
  | 5, hx => cases hx; exact h5
  | n + 6, hx => simp at hx
theorem ints_map {g : Int → Int} : ∀ {ys : List Value} {as : List Int}, Are (fun r v => ∃ t, v = .int (g r) t) ys as → IntsAre ys (as.map g)
  | ys, [], h => by cases h.unnil; exact .nil
  | ys, a :: as, h => by
    obtain ⟨v, ws, rfl, ⟨t, rfl⟩, h2⟩ := h.uncons
    exact .cons _ _ (ints_map h2)
theorem ints_id {ys : List Value} {as : List Int} (h : Are isInt ys as) : IntsAre ys as := by
  have q := ints_map (g := id) h
  rwa [List.map_id] at q
theorem strOk_pt {x : Str} (h : isPt x) : PyData.strOk x = true := by
  unfold PyData.strOk
  rw [Array.all_eq_true']
  intro c hc
  rcases h.1 c (Array.mem_toList_iff.mpr hc) with rfl | rfl <;> decide
theorem strOk_bad : PyData.strOk bad = true := by decide +kernel
theorem strOk_sift {x : Str} (h : isPt x) : PyData.strOk (sift x) = true := by
  unfold sift
  split
  · exact strOk_pt h
  · exact strOk_bad
theorem strOk_if {x : Str} {P : Prop} [Decidable P] (h : isPt x) : PyData.strOk (if P then x else bad) = true := by
  split
  · exact strOk_pt h
  · exact strOk_bad
theorem bad_ne {x : Str} (h : isPt x) : bad ≠ x := by
  rintro rfl
  exact absurd (h.1 39 (by decide)) (by decide)
theorem sift_beq {x : Str} {P : Prop} [Decidable P] (h : isPt x) (e : sift x = if P then x else bad) : (sift x == x) = decide P := by
  rw [e]
  by_cases hp : P
  · rw [if_pos hp, decide_eq_true hp]; exact beq_self_eq_true _
  · rw [if_neg hp, decide_eq_false hp]; exact beq_eq_false_iff_ne.mpr (bad_ne h)
theorem ok6 {x0 x1 x2 x3 x4 x5 : Str} (h0 : PyData.strOk x0 = true) (h1 : PyData.strOk x1 = true) (h2 : PyData.strOk x2 = true) (h3 : PyData.strOk x3 = true) (h4 : PyData.strOk x4 = true) (h5 : PyData.strOk x5 = true) : ∀ x ∈ [x0, x1, x2, x3, x4, x5], PyData.strOk x = true := by
  simp only [List.forall_mem_cons]
  exact ⟨h0, h1, h2, h3, h4, h5, fun _ h => nomatch h⟩
theorem pickRow {h₀ h : Heap} {L W0 W1 W2 W3 W4 W5 : Addr} {news : List (Addr × Obj)} {u0 u1 u2 u3 u4 u5 : Tok} (N : News h₀ L h news) (m0 : (W0, PySem.W.listOf #[.int 0 u0, .int 1 u1, .int 2 u2, .int 3 u3, .int 4 u4, .int 5 u5] 0) ∈ news) (m1 : (W1, PySem.W.listOf #[.int 1 u1, .int 2 u2, .int 3 u3, .int 4 u4, .int 5 u5, .int 0 u0] 0) ∈ news) (m2 : (W2, PySem.W.listOf #[.int 2 u2, .int 3 u3, .int 4 u4, .int 5 u5, .int 0 u0, .int 1 u1] 0) ∈ news) (m3 : (W3, PySem.W.listOf #[.int 3 u3, .int 4 u4, .int 5 u5, .int 0 u0, .int 1 u1, .int 2 u2] 0) ∈ news) (m4 : (W4, PySem.W.listOf #[.int 4 u4, .int 5 u5, .int 0 u0, .int 1 u1, .int 2 u2, .int 3 u3] 0) ∈ news) (m5 : (W5, PySem.W.listOf #[.int 5 u5, .int 0 u0, .int 1 u1, .int 2 u2, .int 3 u3, .int 4 u4] 0) ∈ news) {P : List Int → Prop} {Z : Addr → Prop} (z0 : Z W0) (z1 : Z W1) (z2 : Z W2) (z3 : Z W3) (z4 : Z W4) (z5 : Z W5) {j : Nat} (hj : j < 6) (hP : P (rotI j)) {G : Prop}
    (k : ∀ R r0 r1 r2 r3 r4 r5 v0 v1 v2 v3 v4 v5, [Value.ref W0, .ref W1, .ref W2, .ref W3, .ref W4, .ref W5][(j : Int).toNat]? = some (.ref R) → News h₀ L h ((R, PySem.W.listOf #[.int r0 v0, .int r1 v1, .int r2 v2, .int r3 v3, .int r4 v4, .int r5 v5] 0) :: news) → P [r0, r1, r2, r3, r4, r5] → Z R → (∀ q ∈ [r0, r1, r2, r3, r4, r5], 0 ≤ q ∧ q < 6) → G) : G := by
  have more : ∀ p ∈ news, News h₀ L h (p :: news) := fun p hp q hq => by
    rcases List.mem_cons.mp hq with rfl | hq
    · exact N _ hp
    · exact N _ hq
  match j, hj, hP with
  | 0, _, hP => exact k W0 0 1 2 3 4 5 u0 u1 u2 u3 u4 u5 rfl (more _ m0) hP z0 (by decide)
  | 1, _, hP => exact k W1 1 2 3 4 5 0 u1 u2 u3 u4 u5 u0 rfl (more _ m1) hP z1 (by decide)
  | 2, _, hP => exact k W2 2 3 4 5 0 1 u2 u3 u4 u5 u0 u1 rfl (more _ m2) hP z2 (by decide)
  | 3, _, hP => exact k W3 3 4 5 0 1 2 u3 u4 u5 u0 u1 u2 rfl (more _ m3) hP z3 (by decide)
  | 4, _, hP => exact k W4 4 5 0 1 2 3 u4 u5 u0 u1 u2 u3 rfl (more _ m4) hP z4 (by decide)
  | 5, _, hP => exact k W5 5 0 1 2 3 4 u5 u0 u1 u2 u3 u4 rfl (more _ m5) hP z5 (by decide)
theorem take6_size {v0 v1 v2 v3 v4 v5 : Value} {i : Nat} (hi : i < 6) : ([v0, v1, v2, v3, v4, v5].take i).toArray.size = i := by
  rw [List.size_toArray, List.length_take]; exact Nat.min_eq_left (Nat.le_of_lt hi)
theorem take6_at {r0 r1 r2 r3 r4 r5 : Int} {v0 v1 v2 v3 v4 v5 : Tok} {i k : Nat} {x : Value} (h : ([Value.int r0 v0, .int r1 v1, .int r2 v2, .int r3 v3, .int r4 v4, .int r5 v5].take i).toArray[k]? = some x) :
    ∃ r t, x = .int r t ∧ ([r0, r1, r2, r3, r4, r5].take i)[k]? = some r ∧ r ∈ [r0, r1, r2, r3, r4, r5] := by
  rw [List.getElem?_toArray, List.getElem?_take] at h
  by_cases hk : k < i
  · rw [if_pos hk] at h
    rw [List.getElem?_take, if_pos hk]
    match k, h with
    | 0, h | 1, h | 2, h | 3, h | 4, h | 5, h => cases h; exact ⟨_, _, rfl, rfl, by simp⟩
    | n + 6, h => simp at h
  · rw [if_neg hk] at h; cases h
theorem row6 {r0 r1 r2 r3 r4 r5 : Int} {v0 v1 v2 v3 v4 v5 : Tok} {i : Nat} (hi : i < 6) : ∃ t, [Value.int r0 v0, .int r1 v1, .int r2 v2, .int r3 v3, .int r4 v4, .int r5 v5][((i : Nat) : Int).toNat]? = some (.int ([r0, r1, r2, r3, r4, r5].getD i 0) t) := by
  match i, hi with
  | 0, _ | 1, _ | 2, _ | 3, _ | 4, _ | 5, _ => exact ⟨_, rfl⟩
theorem ints_take {g : Int → Int} {ys : List Value} {as : List Int} {i : Nat} (h : Are (fun r v => ∃ t, v = .int (g r) t) ys ((as.take i).take i)) : IntsAre ys ((as.take i).map g) := ints_map (by rw [List.take_take, Nat.min_self] at h; exact h)
def sumTo (st row : List Int) (i : Nat) : Int := ((row.take i).map fun r => st.getD r.toNat 0).sum
structure Hand (P : Prop) : Prop where
  out : P
inductive FlC : Prop
  | mk
inductive FlA : Prop
  | mk
inductive FlG : Prop
  | mk
inductive FlS : Prop
  | mk
theorem flagged {F P : Prop} (_ : F) (h : P) : P := h
local macro_rules | `(tactic| k_mem) => `(tactic| first | with_reducible assumption | exact List.Mem.head _ | (refine' List.Mem.tail _ ?_; k_mem) | (refine' List.mem_append_left _ ?_; k_mem) | assumption)
local macro_rules | `(tactic| walk_at "subscriptTail Name Slice ref ref") => `(tactic| (k_here; (with_reducible show wpAny _ _ (subscriptTail _ (PySem.Expr.Slice _ _ none _) (Value.ref _) (Value.ref _)) _ _ _); k_dflt (refine' kmk_slice_lit ?F ?N ?l ?p ?q ?e ?_ ?s ?t ?z; (case F => k_asm); (case N => k_asm); (case l => kmk_list); (case p => kmk_part); (case q => kmk_part); (case e => kl_lit); (case s => with_unfolding_all rfl); (case t => kmk_pure); (case z => kmk_size)); intro D' h' F' N' l1; (try k_lt l1); (try k_sweep)))
local macro_rules | `(tactic| walk_at "CompSrc") => `(tactic| (k_here; k_dflt (first
  | (refine LCg.CompSrc.ledger (by rfl) (by k_asm) (by k_asm) (by k_mem) (by first | size_fits | exact Nat.le_of_ble_eq_true rfl) ?_; intro g'; lcg_lit)
  | (refine LCg.CompSrc.base (by rfl) (by k_asm) (by k_asm) (by assumption) (by first | size_fits | exact Nat.le_of_ble_eq_true rfl) ?_; intro g'; lcg_lit))))
local macro_rules | `(tactic| walk_at "call type:list") => `(tactic| (refine halt_of ?_))
local macro_rules | `(tactic| walk_at "call ref") => `(tactic| (refine halt_of ?_))
local macro_rules | `(tactic| walk_at "CompRest") => `(tactic| (with_unfolding_all (refine LCg.CompRest.succ ?_; intro v' I' oI' C' oC' D' m' h' tk' E' hv' hC' hx' F' N' off' ne'; (first | lcg_open hv' | (obtain ⟨t9', hv9'⟩ := hv'; subst hv9')); have ap' := Apart.of3 N' off' ne'; clear off' ne'; obtain ⟨o1', o2', o3'⟩ := ap')))
local macro_rules | `(tactic| walk_at "FinE") => `(tactic| ((unfold LCg.FinE); intro D' h' tk' F' N' o1'; (replace o1' := Apart.of1 o1'); (try simp only [List.nil_append, List.cons_append] at N'); (try dsimp only)))
local macro_rules | `(tactic| walk_at "FinA") => `(tactic| ((unfold LCg.FinA); intro D' h' tk' F' N' o1'; (replace o1' := Apart.of1 o1'); (try simp only [List.nil_append, List.cons_append] at N'); (try dsimp only)))
local macro_rules | `(tactic| k_steps) => `(tactic| repeat' (first | (k_unfold; (try dsimp only)) | walk1 | (dsimp only; walk1) | (leave1; walk_say "STEP leave1"; try dsimp only)))
local macro_rules | `(tactic| k_lt $h:ident) => `(tactic| (replace $h := apart_lt $h))
local macro_rules | `(tactic| k_ne) => `(tactic| (refine neN ?_; (try dsimp only); first | exact Apart.ne (by with_reducible assumption) (by k_mem) | exact Apart.ne' (by with_reducible assumption) (by k_mem) | exact (by with_reducible assumption) | exact Ne.symm (by with_reducible assumption)))
local macro_rules | `(tactic| lcg_off) => `(tactic| first | exact True.intro | exact Apart.off3 (by with_reducible assumption) (by with_reducible assumption) (by with_reducible assumption) | (refine And.intro ⟨by k_ne, by k_ne, by k_ne⟩ ?_; lcg_off))
local macro_rules | `(tactic| walk_at "call builtin:sum") => `(tactic| (refine halt_of ?_))
local macro_rules | `(tactic| walk_at "call builtin:min") => `(tactic| (refine halt_of ?_))
local macro_rules | `(tactic| walk_at "call type:zip") => `(tactic| (refine halt_of ?_))
local macro_rules | `(tactic| walk_at "compareOp NotEq ref ref") => `(tactic| (refine halt_of ?_))
local macro_rules | `(tactic| walk_at "compareOp Eq ref ref") => `(tactic| (refine halt_of ?_))
local macro_rules | `(tactic| walk_at "call builtin:sorted") => `(tactic| (refine halt_of ?_))
local macro_rules | `(tactic| walk_at "CompSrcT") => `(tactic| (refine halt_of ?_))
local macro_rules | `(tactic| walk_at "isTrue Compare") => `(tactic| (refine wpAny_isTrue_Compare1 ?_))
local macro_rules | `(tactic| walk_at "eval ListComp") => `(tactic| (refine flagged (F := FlC) (by with_reducible assumption) ?_; refine halt_of ?_))
local macro_rules | `(tactic| walk_at "pyIter ref") => `(tactic| (refine flagged (F := FlC) (by with_reducible assumption) ?_; refine halt_of ?_))
local macro_rules | `(tactic| walk_at "exec Assign cons ListComp") => `(tactic| (refine flagged (F := FlA) (by with_reducible assumption) ?_; refine halt_of ?_))
local macro_rules | `(tactic| walk_at "CompEnd") => `(tactic| (refine flagged (F := FlG) (by with_reducible assumption) ?_; refine halt_of ?_))
local macro_rules | `(tactic| walk_at "subscriptTail Name Name ref int") => `(tactic| (refine flagged (F := FlG) (by with_reducible assumption) ?_; refine halt_of ?_))
local macro_rules | `(tactic| walk_at "subscriptTail Name Slice ref ref") => `(tactic| (refine flagged (F := FlS) (by with_reducible assumption) ?_; refine halt_of ?_))
set_option maxHeartbeats 200000000 in
noncomputable def lawP1 : PSigma (fun P : Prop => Hand P → PySem.Challenge.rw_wu0074_01.Holds) := ⟨_, fun hT => hd (by
  k_fill
  intro w s₀ s₁ mg mb G Y fa o pm cd doc dV kV ho hd hcd hD hmg hg args vals as hpre hlay hrd hwl hlo
  have KX := kIn_of Y
  have X := (Ground.X G).1
  have V := (Ground.X G).2
  try w_nolog (first | (have GL := glob_more (Ground.glob G (by first | k_qdec | decide +kernel) (by first | k_qdec | decide +kernel)) V) | (have GL := glob_more (Ground.glob G (by decide +kernel)) V))
  refine Ground.open G ?_
  intro T B D TE TW
  try (refine guard_noD D (by decide +kernel) ?_; clear D)
  obtain ⟨_, _, M⟩ := bmod_of_top T
  have TA := at_of_top T
  try (obtain ⟨_, _, he, B0⟩ := based_of_top T rfl hmg ho hd; have he' : cd = _ := he; subst he'; clear he)
  clear hmg
  wrow_args hpre hlay hrd hwl hlo
  all_goals (
    first | refine callC_kw (enter_call ?_) | refine enter_call ?_ | refine callC_kw (enter_callW ?_) | refine enter_callW ?_ | w_how
    w_top on
    have K0 := below_caller (Top.heap T)
    w_call any ho hd hcd hD T F
    clear hd TA
    k_drop
    skip)
  all_goals try k_fold
  rename IntsAre _ _ => hI
  rename Heap.IsList _ _ _ => hL
  k_steps
  unfold Halt
  (with_reducible rename Fr _ _ _ _ => F')
  (with_reducible rename News _ _ _ _ => N'); (try k_sweep)
  have K0' : Below callerA s₁.heap [] s₁.heap := K0
  refine' steps_call ?C ?d ?u ?l1 ?l2 ?l3 ?_
  (case l1 => exact F'.lst hL)
  (case l2 => exact hI)
  (case l3 => omega)
  (case C => exact Cx.mk K0' F' KX T rfl); (case d => first | k_room | decide); (case u => first | k_units | decide)
  intro h' tk' D n a b c d e t1 t2 t3 t4 t5 t6 K1 hf1 ha hb hc hdd he hD1
  obtain ⟨f, hfd⟩ : ∃ f, f = -(a + (b + (c + (d + (e + 0))))) := ⟨_, rfl⟩
  rw [← hfd] at hD1
  have Ba : -20 ≤ a ∧ a ≤ 20 := ⟨Int.le_trans (by decide) ha.1, Int.le_trans ha.2 (by decide)⟩
  have Bb : -20 ≤ b ∧ b ≤ 20 := ⟨Int.le_trans (by decide) hb.1, Int.le_trans hb.2 (by decide)⟩
  have Bc : -20 ≤ c ∧ c ≤ 20 := ⟨Int.le_trans (by decide) hc.1, Int.le_trans hc.2 (by decide)⟩
  have Bd : -20 ≤ d ∧ d ≤ 20 := ⟨Int.le_trans (by decide) hdd.1, Int.le_trans hdd.2 (by decide)⟩
  have Be : -20 ≤ e ∧ e ≤ 20 := ⟨Int.le_trans (by decide) he.1, Int.le_trans he.2 (by decide)⟩
  have Bf : -20 ≤ f ∧ f ≤ 20 := by omega
  have zed : a + b + c + d + e + f = 0 := by omega
  clear hfd
  replace hD1 : h'.get? D = some (PySem.W.listOf #[.int a t1, .int b t2, .int c t3, .int d t4, .int e t5, .int f t6] n) := hD1
  have off := apart_none N' hf1
  replace N' := News.add F' N' K1 hf1 hD1
  replace F' := F'.keeps K1
  clear hf1 hD1
  try change wpAny _ _ _ _ _ _
  (try dsimp only)
  (try k_fold)
  k_steps
  rename_i y1_0 y1_1 y1_2 y1_3 y1_4 y1_5 y1_6 y1_7 y1_8 y1_9 y1_10 y1_11 y1_12 y1_13 y1_14 y1_15 y1_16 y1_17 y1_18 y1_19 y1_20 y1_21 y1_22 y1_23 y1_24 y1_25 y1_26 y1_27 y1_28 y1_29 y1_30 y1_31 y1_32 y1_33 y1_34 y1_35 y1_36 y1_37 y1_38 y1_39 y1_40 y1_41 y1_42 y1_43 y1_44 y1_45 y1_46 y1_47 y1_48 y1_49 y1_50 y1_51 y1_52
  clear ek qk
  revert w s₀ s₁ mg mb G Y fa o pm doc ho hg KX X V GL T B TE TW y1_0 y1_1 M y1_2 y1_3 hcd y1_4 y1_5 y1_6 y1_7 y1_8 y1_9 y1_10 y1_11 y1_12 y1_13 y1_14 hL y1_15 y1_16 y1_17 y1_18 y1_19 y1_20 y1_21 K0 hD y1_22 y1_23 y1_24 y1_25 y1_26 y1_27 y1_28 y1_29 y1_30 y1_31 y1_32 y1_33 y1_34 y1_35 y1_36 K0' h' tk' D n a b c d e t1 t2 t3 t4 t5 t6 K1 ha hb hc hdd he f Ba Bb Bc Bd Be Bf zed off y1_37 y1_38 y1_39 y1_40 y1_41 y1_42 y1_43 y1_44 y1_45 y1_46 y1_47 y1_48 y1_49 y1_50 y1_51 y1_52
  exact hT.out)⟩
set_option maxHeartbeats 200000000 in
noncomputable def lawP2 : PSigma (fun P : Prop => Hand P → lawP1.1) := ⟨_, fun hT => (by
  intro w s₀ s₁ mg mb G Y fa o pm doc ho hg KX X V GL T B TE TW y1_0 y1_1 M y1_2 y1_3 hcd y1_4 y1_5 y1_6 y1_7 y1_8 y1_9 y1_10 y1_11 y1_12 y1_13 y1_14 hL y1_15 y1_16 y1_17 y1_18 y1_19 y1_20 y1_21 K0 hD y1_22 y1_23 y1_24 y1_25 y1_26 y1_27 y1_28 y1_29 y1_30 y1_31 y1_32 y1_33 y1_34 y1_35 y1_36 K0' h' tk' D n a b c d e t1 t2 t3 t4 t5 t6 K1 ha hb hc hdd he f Ba Bb Bc Bd Be Bf zed off y1_37 y1_38 y1_39 y1_40 y1_41 y1_42 y1_43 y1_44 y1_45 y1_46 y1_47 y1_48 y1_49 y1_50 y1_51 y1_52
  have flA : FlA := .mk
  have flC : FlC := .mk
  have flS : FlS := .mk
  unfold Halt
  (with_reducible rename Fr _ _ _ _ => F')
  (with_reducible rename News _ _ _ _ => N'); (try k_sweep)
  rename IsRange _ _ _ _ _ _ _ _ => rgX
  with_unfolding_all refine' kll_range ?k0 F' N' rgX ?k4 ?k5 ?k6 ?_
  (case k0 => rfl)
  (case k4 => exact small_one (by decide) (by decide) (by decide) (by decide))
  (case k5 => rfl)
  (case k6 => decide)
  intro P vsP cP h' tk' F' N' l1 hI'
  refine six_ints_k hI' fun u0 u1 u2 u3 u4 u5 hvsP => ?_
  subst hvsP
  clear hI'
  have hPl := N'.isList (List.mem_cons_self ..)
  k_lt l1
  (try dsimp only)
  (try k_fold)
  k_steps
  unfold Halt
  (with_reducible rename Fr _ _ _ _ => F')
  (with_reducible rename News _ _ _ _ => N'); (try k_sweep)
  refine compAX (n := 6) (Item := Item1 (fun i v => [Value.int 0 u0, .int 1 u1, .int 2 u2, .int 3 u3, .int 4 u4, .int 5 u5].toArray[i]? = some v)) (fun i ys ws => Are (fun k v => ∃ W, v = .ref W ∧ (W, PySem.W.listOf (rotV u0 u1 u2 u3 u4 u5 k) 0) ∈ ws) ys ([0, 1, 2, 3, 4, 5].take i)) F' N'
    (by rfl) (by with_unfolding_all rfl) (by with_unfolding_all rfl) (by decide) (by rfl) (by decide) (asg1 (by rfl) (by rfl)) (by rfl) (by rfl) rfl (Nat.le_of_ble_eq_true rfl) ?_ ⟨rfl, fun i a h => by simp at h⟩ ?_ ?_
  · k_steps
    unfold Halt
    exact srcList rfl (News.listAt N' (List.mem_cons_self ..)) (N' _ (List.mem_cons_self ..)).2.1 (fun _ _ h => h) F' N' rfl ⟨_, _, rfl⟩
  · rintro i ys ws rest C oC Dc m₂ h2 tk2 E' hi ⟨v, hv, hm⟩ hR hC F' N' aC aD
    (simp only [List.cons_append, List.nil_append] at N' aC aD)
    obtain ⟨u, rfl⟩ := at6u hv
    k_steps
    unfold Halt
    refine' kmk_slice_lit (its := [Value.int 0 u0, .int 1 u1, .int 2 u2, .int 3 u3, .int 4 u4, .int 5 u5].toArray) F' N' ?kl ?kp ?kq (pick_from hi) ?_ ?ks ?kt ?kz
    (case kl => exact News.listAt N' (by k_mem))
    (case kp => exact IsPart.int _ _)
    (case kq => exact IsPart.none)
    (case ks => with_unfolding_all rfl)
    (case kt => kmk_pure)
    (case kz => exact Nat.le_of_ble_eq_true rfl)
    intro S1 h2 F' N' l1
    k_lt l1
    k_steps
    unfold Halt
    refine' kmk_slice_lit (its := [Value.int 0 u0, .int 1 u1, .int 2 u2, .int 3 u3, .int 4 u4, .int 5 u5].toArray) F' N' ?kl ?kp ?kq (upto6 hi) ?_ ?ks ?kt ?kz
    (case kl => exact News.listAt N' (by k_mem))
    (case kp => exact IsPart.none)
    (case kq => exact IsPart.int _ _)
    (case ks => with_unfolding_all rfl)
    (case kt => kmk_pure)
    (case kz => exact Nat.le_of_ble_eq_true rfl)
    intro S2 h2 F' N' l2
    k_lt l2
    k_steps
    unfold Halt
    refine' concat_list ?C ?d ?u ?l1 ?l2 ?l3 ?_
    (case l1 => exact N'.get (List.mem_cons_of_mem _ (List.mem_cons_self ..)))
    (case l2 => exact N'.isList (List.mem_cons_self ..))
    (case l3 => exact cut_len i (Nat.le_of_ble_eq_true rfl))
    (case C => exact Cx.mk K0' F' KX T rfl); (case d => first | k_room | decide); (case u => first | k_units | decide)
    intro h' tk' W K1 hf1 hD1
    have off := apart_none (News.tl2 N') hf1
    replace N' := News.add F' (News.tl2 N') K1 hf1 hD1
    replace F' := F'.keeps K1
    exact EndX.one F' N' off (Are.snoc' (hR.mono fun k v ⟨W, e, hm⟩ => ⟨W, e, List.mem_append_right _ hm⟩) (six_at hi) ⟨_, rfl, .head _⟩)
  · rintro ys ws WD h2 tk2 hw hR hl F' N0 aD
    refine ways_k (ob := fun k => PySem.W.listOf (rotV u0 u1 u2 u3 u4 u5 k) 0) (show Are _ ys [0, 1, 2, 3, 4, 5] from hR) hw N0 aD fun W0 W1 W2 W3 W4 W5 aW0 aW1 aW2 aW3 aW4 aW5 N' aWD => ?_
    clear hw hR hl N0 aD
    k_steps
    rename_i y2x_0 y2x_1 y2x_2 y2x_3 y2x_4 y2x_5 y2x_6
    clear flA
    clear flC
    clear flS
    revert w s₀ s₁ mg mb G Y fa o pm doc ho hg KX X V GL T B TE TW y1_0 y1_1 M y1_2 y1_3 hcd y1_4 y1_5 y1_6 y1_7 y1_8 y1_9 y1_10 y1_11 y1_12 y1_13 y1_14 hL y1_15 y1_16 y1_17 y1_18 y1_19 y1_20 y1_21 K0 hD y1_22 y1_23 y1_24 y1_25 y1_26 y1_27 y1_28 y1_29 y1_30 y1_31 y1_32 y1_33 y1_34 y1_35 y1_36 K0' y2x_0 y2x_1 D n a b c d e t1 t2 t3 t4 t5 t6 K1 ha hb hc hdd he f Ba Bb Bc Bd Be Bf zed off y1_37 y1_38 y1_41 y1_42 y1_43 y1_44 y1_45 y1_46 y1_47 y1_48 rgX y1_52 P cP h' tk' u0 u1 u2 u3 u4 u5 hPl l1 y2x_2 y2x_3 y2x_4 y2x_5 y2x_6 tk ys ws WD h2 tk2 F' W0 W1 W2 W3 W4 W5 aW0 aW1 aW2 aW3 aW4 aW5 N' aWD
    exact hT.out)⟩
set_option maxHeartbeats 200000000 in
noncomputable def lawP3 : PSigma (fun P : Prop => Hand P → lawP2.1) := ⟨_, fun hT => (by
  intro w s₀ s₁ mg mb G Y fa o pm doc ho hg KX X V GL T B TE TW y1_0 y1_1 M y1_2 y1_3 hcd y1_4 y1_5 y1_6 y1_7 y1_8 y1_9 y1_10 y1_11 y1_12 y1_13 y1_14 hL y1_15 y1_16 y1_17 y1_18 y1_19 y1_20 y1_21 K0 hD y1_22 y1_23 y1_24 y1_25 y1_26 y1_27 y1_28 y1_29 y1_30 y1_31 y1_32 y1_33 y1_34 y1_35 y1_36 K0' y2x_0 y2x_1 D n a b c d e t1 t2 t3 t4 t5 t6 K1 ha hb hc hdd he f Ba Bb Bc Bd Be Bf zed off y1_37 y1_38 y1_41 y1_42 y1_43 y1_44 y1_45 y1_46 y1_47 y1_48 rgX y1_52 P cP h' tk' u0 u1 u2 u3 u4 u5 hPl l1 y2x_2 y2x_3 y2x_4 y2x_5 y2x_6 tk ys ws WD h2 tk2 F' W0 W1 W2 W3 W4 W5 aW0 aW1 aW2 aW3 aW4 aW5 N' aWD
  have flA : FlA := .mk
  have flC : FlC := .mk
  unfold Halt
  (with_reducible rename Fr _ _ _ _ => F')
  (with_reducible rename News _ _ _ _ => N'); (try k_sweep)
  refine compAX (n := 6) (Item := Item1 (fun i v => ∃ W, v = Value.ref W ∧ (W, PySem.W.listOf (rotV u0 u1 u2 u3 u4 u5 i) 0) ∈ [(W5, PySem.W.listOf (rotV u0 u1 u2 u3 u4 u5 5) 0), (W4, PySem.W.listOf (rotV u0 u1 u2 u3 u4 u5 4) 0), (W3, PySem.W.listOf (rotV u0 u1 u2 u3 u4 u5 3) 0), (W2, PySem.W.listOf (rotV u0 u1 u2 u3 u4 u5 2) 0), (W1, PySem.W.listOf (rotV u0 u1 u2 u3 u4 u5 1) 0), (W0, PySem.W.listOf (rotV u0 u1 u2 u3 u4 u5 0) 0)])) (fun i ys ws => Are (fun k v => ∃ x t, v = Value.str x t ∧ x.cps.toList = txt (rotL [a, b, c, d, e, f] k)) ys ([0, 1, 2, 3, 4, 5].take i)) F' N'
    (by rfl) (by with_unfolding_all rfl) (by with_unfolding_all rfl) (by decide) (by rfl) (by decide) (asg1 (by rfl) (by rfl)) (by rfl) (by rfl) rfl (Nat.le_of_ble_eq_true rfl) ?_ ⟨rfl, fun i a h => by simp at h⟩ ?_ ?_
  · k_steps
    unfold Halt
    exact srcList rfl (News.listAt (vs := [.ref W0, .ref W1, .ref W2, .ref W3, .ref W4, .ref W5]) N' (List.mem_cons_self ..)) (N' _ (List.mem_cons_self ..)).2.1 (one6r ⟨_, rfl, by k_mem⟩ ⟨_, rfl, by k_mem⟩ ⟨_, rfl, by k_mem⟩ ⟨_, rfl, by k_mem⟩ ⟨_, rfl, by k_mem⟩ ⟨_, rfl, by k_mem⟩) F' N' rfl ⟨_, _, rfl⟩
  · rintro i ys ws rest C oC Dc m₂ h2 tk2 E' hi ⟨v, ⟨W, rfl, hW⟩, hm⟩ hR hC F' N' aC aD
    (simp only [List.cons_append, List.nil_append] at N' aC aD)
    have bst : ∀ x ∈ [a, b, c, d, e, f], -20 ≤ x ∧ x ≤ 20 := by
      simp only [List.forall_mem_cons]
      exact ⟨Ba, Bb, Bc, Bd, Be, Bf, fun _ h => nomatch h⟩
    have base : Are (PlaceOf [Value.int a t1, .int b t2, .int c t3, .int d t4, .int e t5, .int f t6]) [Value.int 0 u0, .int 1 u1, .int 2 u2, .int 3 u3, .int 4 u4, .int 5 u5] [a, b, c, d, e, f] := are_six (place_ok (q := 0) (w := u0) bst (by decide)) (place_ok (q := 1) (w := u1) bst (by decide)) (place_ok (q := 2) (w := u2) bst (by decide)) (place_ok (q := 3) (w := u3) bst (by decide)) (place_ok (q := 4) (w := u4) bst (by decide)) (place_ok (q := 5) (w := u5) bst (by decide))
    k_steps
    unfold Halt
    refine' text_call (its := [Value.int 0 u0, .int 1 u1, .int 2 u2, .int 3 u3, .int 4 u4, .int 5 u5].drop i ++ [Value.int 0 u0, .int 1 u1, .int 2 u2, .int 3 u3, .int 4 u4, .int 5 u5].take i) (xs := rotL [a, b, c, d, e, f] i) ?C ?d ?u ?l1 ?l2 (base.rot i) (by rw [rot_len]; exact Nat.le_of_ble_eq_true rfl) ?_
    (case l1 => exact News.listAt (vs := [.int a t1, .int b t2, .int c t3, .int d t4, .int e t5, .int f t6]) N' (by k_mem))
    (case l2 => 
      have hN : News s₁.heap s₁.heap.objs.size _ [(W5, PySem.W.listOf (rotV u0 u1 u2 u3 u4 u5 5) 0), (W4, PySem.W.listOf (rotV u0 u1 u2 u3 u4 u5 4) 0), (W3, PySem.W.listOf (rotV u0 u1 u2 u3 u4 u5 3) 0), (W2, PySem.W.listOf (rotV u0 u1 u2 u3 u4 u5 2) 0), (W1, PySem.W.listOf (rotV u0 u1 u2 u3 u4 u5 1) 0), (W0, PySem.W.listOf (rotV u0 u1 u2 u3 u4 u5 0) 0)] := fun p hp => N' p (by revert p; lcg_sub)
      exact (hN.isList hW))
    (case C => exact Cx.mk K0' F' KX T rfl); (case d => first | k_room | decide); (case u => first | k_units | decide)
    intro h' tk' X T K1 hX
    exact EndX.none (F'.keeps K1) (News.more N' K1) (Are.snoc' hR (six_at hi) ⟨X, T, rfl, hX⟩)
  · rintro ys ws XD h2 tk2 hw hR hl F' N0 aD
    refine texts_k (f := fun k => txt (rotL [a, b, c, d, e, f] k)) (show Are _ ys [0, 1, 2, 3, 4, 5] from hR) N0 aD fun X0 T0 X1 T1 X2 T2 X3 T3 X4 T4 X5 T5 hX0 hX1 hX2 hX3 hX4 hX5 N' aXD => ?_
    replace hX0 : X0.cps.toList = txt [a, b, c, d, e, f] := hX0
    replace hX1 : X1.cps.toList = txt [b, c, d, e, f, a] := hX1
    replace hX2 : X2.cps.toList = txt [c, d, e, f, a, b] := hX2
    replace hX3 : X3.cps.toList = txt [d, e, f, a, b, c] := hX3
    replace hX4 : X4.cps.toList = txt [e, f, a, b, c, d] := hX4
    replace hX5 : X5.cps.toList = txt [f, a, b, c, d, e] := hX5
    clear hw hR hl N0 aD
    k_steps
    rename_i y3x_0 y3x_1 y3x_2 y3x_3 y3x_4 y3x_5
    clear flA
    clear flC
    revert w s₀ s₁ mg mb G Y fa o pm doc ho hg KX X V GL T B TE TW y1_0 y1_1 M y1_2 y1_3 hcd y1_4 y1_5 y1_6 y1_7 y1_8 y1_9 y1_10 y1_11 y1_12 y1_13 y1_14 hL y1_15 y1_16 y1_17 y1_18 y1_19 y1_20 y1_21 K0 hD y1_22 y1_23 y1_24 y1_25 y1_26 y1_27 y1_28 y1_29 y1_30 y1_31 y1_32 y1_33 y1_34 y1_35 y1_36 K0' y2x_0 y2x_1 D n a b c d e t1 t2 t3 t4 t5 t6 K1 ha hb hc hdd he f Ba Bb Bc Bd Be Bf zed off y1_37 y1_38 y1_41 y1_42 y1_43 y1_44 y1_45 y1_46 y1_47 y1_48 rgX y1_52 P cP h' tk' u0 u1 u2 u3 u4 u5 hPl l1 y2x_2 y2x_3 y2x_6 tk y3x_0 y3x_1 WD y3x_2 y3x_3 y3x_4 W0 W1 W2 W3 W4 W5 aW0 aW1 aW2 aW3 aW4 aW5 y3x_5 aWD ys ws XD h2 tk2 F' X0 T0 X1 T1 X2 T2 X3 T3 X4 T4 X5 T5 N' aXD hX0 hX1 hX2 hX3 hX4 hX5
    exact hT.out)⟩
set_option maxHeartbeats 200000000 in
noncomputable def lawP4 : PSigma (fun P : Prop => Hand P → lawP3.1) := ⟨_, fun hT => (by
  intro w s₀ s₁ mg mb G Y fa o pm doc ho hg KX X V GL T B TE TW y1_0 y1_1 M y1_2 y1_3 hcd y1_4 y1_5 y1_6 y1_7 y1_8 y1_9 y1_10 y1_11 y1_12 y1_13 y1_14 hL y1_15 y1_16 y1_17 y1_18 y1_19 y1_20 y1_21 K0 hD y1_22 y1_23 y1_24 y1_25 y1_26 y1_27 y1_28 y1_29 y1_30 y1_31 y1_32 y1_33 y1_34 y1_35 y1_36 K0' y2x_0 y2x_1 D n a b c d e t1 t2 t3 t4 t5 t6 K1 ha hb hc hdd he f Ba Bb Bc Bd Be Bf zed off y1_37 y1_38 y1_41 y1_42 y1_43 y1_44 y1_45 y1_46 y1_47 y1_48 rgX y1_52 P cP h' tk' u0 u1 u2 u3 u4 u5 hPl l1 y2x_2 y2x_3 y2x_6 tk y3x_0 y3x_1 WD y3x_2 y3x_3 y3x_4 W0 W1 W2 W3 W4 W5 aW0 aW1 aW2 aW3 aW4 aW5 y3x_5 aWD ys ws XD h2 tk2 F' X0 T0 X1 T1 X2 T2 X3 T3 X4 T4 X5 T5 N' aXD hX0 hX1 hX2 hX3 hX4 hX5
  have flC : FlC := .mk
  have flS : FlS := .mk
  unfold Halt
  (with_reducible rename Fr _ _ _ _ => F')
  (with_reducible rename News _ _ _ _ => N'); (try k_sweep)
  have Y0 : isPt X0 := isPt_txt hX0 Ba Bb Bc Bd Be Bf
  have Y1 : isPt X1 := isPt_txt hX1 Bb Bc Bd Be Bf Ba
  have Y2 : isPt X2 := isPt_txt hX2 Bc Bd Be Bf Ba Bb
  have Y3 : isPt X3 := isPt_txt hX3 Bd Be Bf Ba Bb Bc
  have Y4 : isPt X4 := isPt_txt hX4 Be Bf Ba Bb Bc Bd
  have Y5 : isPt X5 := isPt_txt hX5 Bf Ba Bb Bc Bd Be
  refine' pre_call (xs := [X0, X1, X2, X3, X4, X5]) ?C ?d ?u ?l1 ?l2 ?l3 ?l4 ?l5 ?_
  (case l1 => exact News.listAt (vs := [.str X0 T0, .str X1 T1, .str X2 T2, .str X3 T3, .str X4 T4, .str X5 T5]) N' (by k_mem))
  (case l2 => exact are6)
  (case l3 => simp only [List.forall_mem_cons]; exact ⟨Y0, Y1, Y2, Y3, Y4, Y5, fun _ h => nomatch h⟩)
  (case l4 => exact Nat.le_of_ble_eq_true rfl)
  (case l5 => show AllBare s₁.gens; rw [hg]; exact AllBare.empty)
  (case C => exact Cx.mk K0' F' KX T rfl); (case d => first | k_room | decide); (case u => first | k_units | decide)
  intro h' tk' g1 KD vs' n' K1 hg1 hf1 hD1 hk
  refine strs_k hk fun k0 k1 k2 k3 k4 k5 hvs => ?_
  subst hvs
  clear hk
  have off := apart_none N' hf1
  replace N' := News.add F' N' K1 hf1 hD1
  replace F' := F'.keeps K1
  clear hf1 hD1
  try change wpAny _ _ _ _ _ _
  (try dsimp only)
  (try k_fold)
  k_steps
  unfold Halt
  (with_reducible rename Fr _ _ _ _ => F')
  (with_reducible rename News _ _ _ _ => N'); (try k_sweep)
  refine compX (n := 6) (Item := Item1 (fun i v => [Value.int 0 u0, .int 1 u1, .int 2 u2, .int 3 u3, .int 4 u4, .int 5 u5].toArray[i]? = some v)) (fun i ys ws => Are (fun k v => ∃ p t, v = Value.int p t ∧ p = ([a, b, c, d, e, f].take k).sum) ys (([0, 1, 2, 3, 4, 5] : List Nat).take i)) F' N'
    (by with_unfolding_all rfl) (by decide) (by rfl) (by decide) (asg1 (by rfl) (by rfl)) (by rfl) (Nat.le_of_ble_eq_true rfl) ?_ ⟨rfl, fun i a h => by simp at h⟩ ?_ ?_
  · k_steps
    unfold Halt
    have zP := N' (P, PySem.W.listOf #[.int 0 u0, .int 1 u1, .int 2 u2, .int 3 u3, .int 4 u4, .int 5 u5] cP) (by k_mem)
    exact srcList rfl (News.listAt (vs := [.int 0 u0, .int 1 u1, .int 2 u2, .int 3 u3, .int 4 u4, .int 5 u5]) N' (by k_mem)) zP.2.1 (fun _ _ h => h) F' N' rfl ⟨_, _, rfl⟩
  · rintro i ys ws rest C oC Dc m₂ h2 tk2 E' hi ⟨v, hv, hm⟩ hR hC F' N' aC aD
    (simp only [List.cons_append, List.nil_append] at N' aC aD)
    obtain ⟨u, rfl⟩ := at6u hv
    k_steps
    unfold Halt
    refine' kmk_slice_lit (its := [Value.int a t1, .int b t2, .int c t3, .int d t4, .int e t5, .int f t6].toArray) F' N' ?kl ?kp ?kq (upto6 hi) ?_ ?ks ?kt ?kz
    (case kl => exact News.listAt N' (by k_mem))
    (case kp => exact IsPart.none)
    (case kq => exact IsPart.int _ _)
    (case ks => with_unfolding_all rfl)
    (case kt => kmk_pure)
    (case kz => exact Nat.le_of_ble_eq_true rfl)
    intro S1 h2 F' N' l1
    clear l1
    k_steps
    unfold Halt
    with_unfolding_all refine sumLit (ints_id (Are.take i areI6)) rfl F' N' ?_
    intro z h' tk' zt ez F' N'
    exact EndX.none F' N' (Are.snoc' hR (six_at hi) ⟨_, _, rfl, ez⟩)
  · rintro ys ws FD h2 tk2 hw hR hl F' N0 aD
    refine fronts_k (f := fun k => ([a, b, c, d, e, f].take k).sum) (show Are _ ys [0, 1, 2, 3, 4, 5] from hR) N0 aD fun p0 pt0 p1 pt1 p2 pt2 p3 pt3 p4 pt4 p5 pt5 ep0 ep1 ep2 ep3 ep4 ep5 N' aFD => ?_
    replace ep0 : p0 = 0 := ep0
    replace ep1 : p1 = a + 0 := ep1
    replace ep2 : p2 = a + (b + 0) := ep2
    replace ep3 : p3 = a + (b + (c + 0)) := ep3
    replace ep4 : p4 = a + (b + (c + (d + 0))) := ep4
    replace ep5 : p5 = a + (b + (c + (d + (e + 0)))) := ep5
    clear hw hR hl N0 aD
    k_steps
    rename_i y4x_0 y4x_1 y4x_2 y4x_3 y4x_4 y4x_5 y4x_6 y4x_7 y4x_8 y4x_9 y4x_10 y4x_11 y4x_12 y4x_13 y4x_14
    clear ek qk
    clear flC
    clear flS
    revert w s₀ s₁ mg mb G Y fa o pm doc ho hg KX X V GL T B TE TW y1_0 y1_1 M y1_2 y1_3 hcd y1_4 y1_5 y1_6 y1_7 y1_8 y1_9 y1_10 y1_11 y1_12 y1_13 y1_14 hL y1_15 y1_16 y1_17 y1_18 y1_19 y1_20 y1_21 K0 hD y1_22 y1_23 y1_24 y1_25 y1_26 y1_27 y1_28 y1_29 y1_30 y1_31 y1_32 y1_33 y1_34 y1_35 y1_36 K0' y2x_0 y2x_1 D n a b c d e t1 t2 t3 t4 t5 t6 y4x_0 ha hb hc hdd he f Ba Bb Bc Bd Be Bf zed y4x_1 y1_37 y1_38 y1_41 y1_42 y1_43 y1_44 y1_45 y1_46 y1_47 y1_48 rgX y1_52 P cP y4x_2 y4x_3 u0 u1 u2 u3 u4 u5 hPl l1 y2x_2 y2x_3 y2x_6 y4x_4 y3x_0 y3x_1 WD y3x_2 y3x_3 W0 W1 W2 W3 W4 W5 aW0 aW1 aW2 aW3 aW4 aW5 aWD y4x_5 y4x_6 XD y4x_7 y4x_8 X0 T0 X1 T1 X2 T2 X3 T3 X4 T4 X5 T5 aXD hX0 hX1 hX2 hX3 hX4 hX5 Y0 Y1 Y2 Y3 Y4 Y5 h' tk' g1 KD n' K1 hg1 k0 k1 k2 k3 k4 k5 off y4x_9 tk ys ws FD h2 tk2 p0 pt0 p1 pt1 p2 pt2 p3 pt3 p4 pt4 p5 pt5 aFD ep0 ep1 ep2 ep3 ep4 ep5 y4x_10 y4x_11 y4x_12 y4x_13 y4x_14
    exact hT.out)⟩
set_option maxHeartbeats 200000000 in
noncomputable def lawP5 : PSigma (fun P : Prop => Hand P → lawP4.1) := ⟨_, fun hT => (by
  intro w s₀ s₁ mg mb G Y fa o pm doc ho hg KX X V GL T B TE TW y1_0 y1_1 M y1_2 y1_3 hcd y1_4 y1_5 y1_6 y1_7 y1_8 y1_9 y1_10 y1_11 y1_12 y1_13 y1_14 hL y1_15 y1_16 y1_17 y1_18 y1_19 y1_20 y1_21 K0 hD y1_22 y1_23 y1_24 y1_25 y1_26 y1_27 y1_28 y1_29 y1_30 y1_31 y1_32 y1_33 y1_34 y1_35 y1_36 K0' y2x_0 y2x_1 D n a b c d e t1 t2 t3 t4 t5 t6 y4x_0 ha hb hc hdd he f Ba Bb Bc Bd Be Bf zed y4x_1 y1_37 y1_38 y1_41 y1_42 y1_43 y1_44 y1_45 y1_46 y1_47 y1_48 rgX y1_52 P cP y4x_2 y4x_3 u0 u1 u2 u3 u4 u5 hPl l1 y2x_2 y2x_3 y2x_6 y4x_4 y3x_0 y3x_1 WD y3x_2 y3x_3 W0 W1 W2 W3 W4 W5 aW0 aW1 aW2 aW3 aW4 aW5 aWD y4x_5 y4x_6 XD y4x_7 y4x_8 X0 T0 X1 T1 X2 T2 X3 T3 X4 T4 X5 T5 aXD hX0 hX1 hX2 hX3 hX4 hX5 Y0 Y1 Y2 Y3 Y4 Y5 h' tk' g1 KD n' K1 hg1 k0 k1 k2 k3 k4 k5 off y4x_9 tk ys ws FD h2 tk2 p0 pt0 p1 pt1 p2 pt2 p3 pt3 p4 pt4 p5 pt5 aFD ep0 ep1 ep2 ep3 ep4 ep5 y4x_10 y4x_11 y4x_12 y4x_13 y4x_14
  have flC : FlC := .mk
  unfold Halt
  (with_reducible rename Fr _ _ _ _ => F')
  (with_reducible rename News _ _ _ _ => N'); (try k_sweep)
  (with_unfolding_all refine kso_min F' N' (News.listAt (vs := [.int p0 pt0, .int p1 pt1, .int p2 pt2, .int p3 pt3, .int p4 pt4, .int p5 pt5]) N' (by k_mem)) (ns := [p0, p1, p2, p3, p4, p5]) (.cons _ _ (.cons _ _ (.cons _ _ (.cons _ _ (.cons _ _ (.cons _ _ .nil)))))) (Nat.le_of_ble_eq_true rfl) rfl ?_)
  intro h' low lt tk' F' N' hl1 hl2
  (try dsimp only)
  (try k_fold)
  k_steps
  unfold Halt
  (with_reducible rename Fr _ _ _ _ => F')
  (with_reducible rename News _ _ _ _ => N'); (try k_sweep)
  refine compS2 (n := 6) (PV := fun i x y => ∃ X T p t, x = Value.str X T ∧ y = Value.int p t ∧ [if p0 = low then X0 else bad, if p1 = low then X1 else bad, if p2 = low then X2 else bad, if p3 = low then X3 else bad, if p4 = low then X4 else bad, if p5 = low then X5 else bad][i]? = some (if p = low then X else bad))
    (fun i ys => Are isStr ys ([if p0 = low then X0 else bad, if p1 = low then X1 else bad, if p2 = low then X2 else bad, if p3 = low then X3 else bad, if p4 = low then X4 else bad, if p5 = low then X5 else bad].take i)) F' N'
    (by with_unfolding_all rfl) (by decide) (by rfl) (by decide) (by rfl) (by rfl) (by decide) rfl (Nat.le_of_ble_eq_true rfl) ?_ ⟨rfl, fun i a h => by simp at h⟩ ?_ ?_
  · k_steps
    unfold Halt
    refine srcZip (vs := [.str X0 T0, .str X1 T1, .str X2 T2, .str X3 T3, .str X4 T4, .str X5 T5].toArray) (ws := [.int p0 pt0, .int p1 pt1, .int p2 pt2, .int p3 pt3, .int p4 pt4, .int p5 pt5].toArray) rfl
      (News.listAt N' (by k_mem)) (News.listAt N' (by k_mem)) (N' (_, LCg.lst [.str X0 T0, .str X1 T1, .str X2 T2, .str X3 T3, .str X4 T4, .str X5 T5]) (by k_mem)).2.1 (N' (_, LCg.lst [.int p0 pt0, .int p1 pt1, .int p2 pt2, .int p3 pt3, .int p4 pt4, .int p5 pt5]) (by k_mem)).2.1 ?_ F' N' rfl ⟨_, _, rfl⟩
    refine pair6 ?_ ?_ ?_ ?_ ?_ ?_ <;> exact ⟨_, _, _, _, rfl, rfl, rfl⟩
  · intro i x y ys own C oC Dc m₂ h' tk' E' hPV hR hC hxa hxb F' N'
    obtain ⟨X, T, p, t, rfl, rfl, hexp⟩ := hPV
    (simp only [List.cons_append, List.nil_append] at N')
    k_steps
    · rename p = low => hq
      exact EndS.intro (by assumption) (by assumption) (Are.snoc' hR hexp ⟨_, by rw [if_pos hq]⟩)
    · rename p ≠ low => hq
      exact EndS.intro (by assumption) (by assumption) (Are.snoc' hR hexp ⟨_, by rw [if_neg hq]⟩)
  · intro ys D1 h' tk' hR hl F' N' aD
    k_steps
    rename_i y5_0 y5_1 y5_2 y5_3 y5_4 y5_5 y5_6 y5_7 y5_8 y5_9
    clear ek qk
    clear flC
    revert w s₀ s₁ mg mb G Y fa o pm doc ho hg KX X V GL T B TE TW y1_0 y1_1 M y1_2 y1_3 hcd y1_4 y1_5 y1_6 y1_7 y1_8 y1_9 y1_10 y1_11 y1_12 y1_13 y1_14 hL y1_15 y1_16 y1_17 y1_18 y1_19 y1_20 y1_21 K0 hD y1_22 y1_23 y1_24 y1_25 y1_26 y1_27 y1_28 y1_29 y1_30 y1_31 y1_32 y1_33 y1_34 y1_35 y1_36 K0' y2x_0 y2x_1 D n a b c d e t1 t2 t3 t4 t5 t6 y4x_0 ha hb hc hdd he f Ba Bb Bc Bd Be Bf zed y4x_1 y1_37 y1_38 y1_41 y1_42 y1_43 y1_44 y1_45 y1_46 y1_47 y1_48 rgX y1_52 P cP y4x_2 y4x_3 u0 u1 u2 u3 u4 u5 hPl l1 y2x_2 y2x_3 y2x_6 y4x_4 y3x_0 y3x_1 WD y3x_2 y3x_3 W0 W1 W2 W3 W4 W5 aW0 aW1 aW2 aW3 aW4 aW5 aWD y4x_5 y4x_6 XD y4x_7 y4x_8 X0 T0 X1 T1 X2 T2 X3 T3 X4 T4 X5 T5 aXD hX0 hX1 hX2 hX3 hX4 hX5 Y0 Y1 Y2 Y3 Y4 Y5 y5_0 y5_1 g1 KD n' K1 hg1 k0 k1 k2 k3 k4 k5 off y4x_9 tk y5_2 ws FD h2 tk2 p0 pt0 p1 pt1 p2 pt2 p3 pt3 p4 pt4 p5 pt5 aFD ep0 ep1 ep2 ep3 ep4 ep5 y4x_10 y4x_11 y4x_14 y5_3 low lt y5_4 hl1 hl2 y5_5 y5_6 y5_7 y5_8 y5_9 ys D1 h' tk' hR hl F' N' aD
    exact hT.out)⟩
set_option maxHeartbeats 200000000 in
noncomputable def lawP6 : PSigma (fun P : Prop => Hand P → lawP5.1) := ⟨_, fun hT => (by
  intro w s₀ s₁ mg mb G Y fa o pm doc ho hg KX X V GL T B TE TW y1_0 y1_1 M y1_2 y1_3 hcd y1_4 y1_5 y1_6 y1_7 y1_8 y1_9 y1_10 y1_11 y1_12 y1_13 y1_14 hL y1_15 y1_16 y1_17 y1_18 y1_19 y1_20 y1_21 K0 hD y1_22 y1_23 y1_24 y1_25 y1_26 y1_27 y1_28 y1_29 y1_30 y1_31 y1_32 y1_33 y1_34 y1_35 y1_36 K0' y2x_0 y2x_1 D n a b c d e t1 t2 t3 t4 t5 t6 y4x_0 ha hb hc hdd he f Ba Bb Bc Bd Be Bf zed y4x_1 y1_37 y1_38 y1_41 y1_42 y1_43 y1_44 y1_45 y1_46 y1_47 y1_48 rgX y1_52 P cP y4x_2 y4x_3 u0 u1 u2 u3 u4 u5 hPl l1 y2x_2 y2x_3 y2x_6 y4x_4 y3x_0 y3x_1 WD y3x_2 y3x_3 W0 W1 W2 W3 W4 W5 aW0 aW1 aW2 aW3 aW4 aW5 aWD y4x_5 y4x_6 XD y4x_7 y4x_8 X0 T0 X1 T1 X2 T2 X3 T3 X4 T4 X5 T5 aXD hX0 hX1 hX2 hX3 hX4 hX5 Y0 Y1 Y2 Y3 Y4 Y5 y5_0 y5_1 g1 KD n' K1 hg1 k0 k1 k2 k3 k4 k5 off y4x_9 tk y5_2 ws FD h2 tk2 p0 pt0 p1 pt1 p2 pt2 p3 pt3 p4 pt4 p5 pt5 aFD ep0 ep1 ep2 ep3 ep4 ep5 y4x_10 y4x_11 y4x_14 y5_3 low lt y5_4 hl1 hl2 y5_5 y5_6 y5_7 y5_8 y5_9 ys D1 h' tk' hR hl F' N' aD
  have flC : FlC := .mk
  unfold Halt
  (with_reducible rename Fr _ _ _ _ => F')
  (with_reducible rename News _ _ _ _ => N'); (try k_sweep)
  have hkx := kept6 hX0 hX1 hX2 hX3 hX4 hX5 zed ep0 ep1 ep2 ep3 ep4 ep5 hl1 hl2
  refine ne_strs (xs := [sift X0, sift X1, sift X2, sift X3, sift X4, sift X5]) (ys := [if p0 = low then X0 else bad, if p1 = low then X1 else bad, if p2 = low then X2 else bad, if p3 = low then X3 else bad, if p4 = low then X4 else bad, if p5 = low then X5 else bad]) (News.listAt (vs := [.str (sift X0) k0, .str (sift X1) k1, .str (sift X2) k2, .str (sift X3) k3, .str (sift X4) k4, .str (sift X5) k5]) N' (by k_mem)) are6 (News.listAt (vs := ys) N' (by k_mem)) hR (ok6 (strOk_sift Y0) (strOk_sift Y1) (strOk_sift Y2) (strOk_sift Y3) (strOk_sift Y4) (strOk_sift Y5)) (ok6 (strOk_if Y0) (strOk_if Y1) (strOk_if Y2) (strOk_if Y3) (strOk_if Y4) (strOk_if Y5)) (by first | k_units | decide) ?_
  have hkb : (!([sift X0, sift X1, sift X2, sift X3, sift X4, sift X5] == [if p0 = low then X0 else bad, if p1 = low then X1 else bad, if p2 = low then X2 else bad, if p3 = low then X3 else bad, if p4 = low then X4 else bad, if p5 = low then X5 else bad])) = false := by rw [hkx]; simp
  rw [hkb]
  clear hkb
  replace N' := News.tl N'
  simp only [List.cons.injEq, and_true] at hkx
  obtain ⟨q0, q1, q2, q3, q4, q5⟩ := hkx
  try change wpAny _ _ _ _ _ _
  (try dsimp only)
  (try k_fold)
  k_steps
  unfold Halt
  refine compS2 (n := 6) (PV := fun i x y => ∃ X Y t u, x = Value.str X t ∧ y = Value.str Y u ∧ [decide (p0 = low), decide (p1 = low), decide (p2 = low), decide (p3 = low), decide (p4 = low), decide (p5 = low)][i]? = some (X == Y))
    (fun i ys => Are (fun b v => v = Value.bool b) ys ([decide (p0 = low), decide (p1 = low), decide (p2 = low), decide (p3 = low), decide (p4 = low), decide (p5 = low)].take i)) F' N'
    (by with_unfolding_all rfl) (by decide) (by rfl) (by decide) (by rfl) (by rfl) (by decide) rfl (Nat.le_of_ble_eq_true rfl) ?_ ⟨rfl, fun i a h => by simp at h⟩ ?_ ?_
  · k_steps
    unfold Halt
    refine srcZip (vs := [.str (sift X0) k0, .str (sift X1) k1, .str (sift X2) k2, .str (sift X3) k3, .str (sift X4) k4, .str (sift X5) k5].toArray) (ws := [.str X0 T0, .str X1 T1, .str X2 T2, .str X3 T3, .str X4 T4, .str X5 T5].toArray) rfl
      (News.listAt N' (by k_mem)) (News.listAt N' (by k_mem)) (N' (_, PySem.W.listOf #[.str (sift X0) k0, .str (sift X1) k1, .str (sift X2) k2, .str (sift X3) k3, .str (sift X4) k4, .str (sift X5) k5] n') (by k_mem)).2.1 (N' (_, LCg.lst [.str X0 T0, .str X1 T1, .str X2 T2, .str X3 T3, .str X4 T4, .str X5 T5]) (by k_mem)).2.1 ?_ F' N' rfl ⟨_, _, rfl⟩
    refine pair6 ⟨_, _, _, _, rfl, rfl, congrArg some (sift_beq Y0 q0).symm⟩ ⟨_, _, _, _, rfl, rfl, congrArg some (sift_beq Y1 q1).symm⟩ ⟨_, _, _, _, rfl, rfl, congrArg some (sift_beq Y2 q2).symm⟩ ⟨_, _, _, _, rfl, rfl, congrArg some (sift_beq Y3 q3).symm⟩ ⟨_, _, _, _, rfl, rfl, congrArg some (sift_beq Y4 q4).symm⟩ ⟨_, _, _, _, rfl, rfl, congrArg some (sift_beq Y5 q5).symm⟩
  · intro i x y ys own C oC Dc m₂ h' tk' E' hPV hR hC hxa hxb F' N'
    obtain ⟨X, Y, t, u, rfl, rfl, hexp⟩ := hPV
    (simp only [List.cons_append, List.nil_append] at N')
    k_steps
    unfold Halt
    refine' eq_call ?C ?d ?u ?_
    (case C => exact Cx.mk K0' F' KX T rfl); (case d => first | k_room | decide); (case u => first | k_units | decide)
    intro h2 tk2 K1
    replace N' := News.more N' K1
    replace F' := F'.keeps K1
    k_steps
    exact EndS.intro F' N' (Are.snoc' hR hexp rfl)
  · intro ys D2 h' tk' hR2 hl F' N' aD2
    k_steps
    rename_i y6_0 y6_1 y6_2 y6_3 y6_4 y6_5
    clear ek qk
    clear flC
    revert w s₀ s₁ mg mb G Y fa o pm doc ho hg KX X V GL T B TE TW y1_0 y1_1 M y1_2 y1_3 hcd y1_4 y1_5 y1_6 y1_7 y1_8 y1_9 y1_10 y1_11 y1_12 y1_13 y1_14 hL y1_15 y1_16 y1_17 y1_18 y1_19 y1_20 y1_21 K0 hD y1_22 y1_23 y1_24 y1_25 y1_26 y1_27 y1_28 y1_29 y1_30 y1_31 y1_32 y1_33 y1_34 y1_35 y1_36 K0' y2x_0 y2x_1 D n a b c d e t1 t2 t3 t4 t5 t6 y4x_0 ha hb hc hdd he f Ba Bb Bc Bd Be Bf zed y4x_1 y1_37 y1_38 y1_41 y1_42 y1_43 y1_44 y1_45 y1_46 y1_47 y1_48 rgX y1_52 P cP y4x_2 y4x_3 u0 u1 u2 u3 u4 u5 hPl l1 y2x_2 y2x_3 y2x_6 y4x_4 y3x_0 y3x_1 WD y3x_2 y3x_3 W0 W1 W2 W3 W4 W5 aW0 aW1 aW2 aW3 aW4 aW5 aWD y4x_5 y4x_6 XD y4x_7 y4x_8 X0 T0 X1 T1 X2 T2 X3 T3 X4 T4 X5 T5 aXD hX0 hX1 hX2 hX3 hX4 hX5 Y0 Y1 Y2 Y3 Y4 Y5 y5_0 y5_1 g1 KD n' K1 hg1 k0 k1 k2 k3 k4 k5 off y4x_9 tk y5_2 ws FD h2 tk2 p0 pt0 p1 pt1 p2 pt2 p3 pt3 p4 pt4 p5 pt5 aFD ep0 ep1 ep2 ep3 ep4 ep5 y4x_10 y4x_11 y4x_14 y5_3 low lt y5_4 hl1 hl2 y5_5 y5_6 y5_9 y6_0 D1 y6_1 y6_2 hR y6_3 y6_4 aD y6_5 q0 q1 q2 q3 q4 q5 ys D2 h' tk' hR2 hl F' N' aD2
    exact hT.out)⟩
set_option maxHeartbeats 200000000 in
noncomputable def lawP7 : PSigma (fun P : Prop => Hand P → lawP6.1) := ⟨_, fun hT => (by
  intro w s₀ s₁ mg mb G Y fa o pm doc ho hg KX X V GL T B TE TW y1_0 y1_1 M y1_2 y1_3 hcd y1_4 y1_5 y1_6 y1_7 y1_8 y1_9 y1_10 y1_11 y1_12 y1_13 y1_14 hL y1_15 y1_16 y1_17 y1_18 y1_19 y1_20 y1_21 K0 hD y1_22 y1_23 y1_24 y1_25 y1_26 y1_27 y1_28 y1_29 y1_30 y1_31 y1_32 y1_33 y1_34 y1_35 y1_36 K0' y2x_0 y2x_1 D n a b c d e t1 t2 t3 t4 t5 t6 y4x_0 ha hb hc hdd he f Ba Bb Bc Bd Be Bf zed y4x_1 y1_37 y1_38 y1_41 y1_42 y1_43 y1_44 y1_45 y1_46 y1_47 y1_48 rgX y1_52 P cP y4x_2 y4x_3 u0 u1 u2 u3 u4 u5 hPl l1 y2x_2 y2x_3 y2x_6 y4x_4 y3x_0 y3x_1 WD y3x_2 y3x_3 W0 W1 W2 W3 W4 W5 aW0 aW1 aW2 aW3 aW4 aW5 aWD y4x_5 y4x_6 XD y4x_7 y4x_8 X0 T0 X1 T1 X2 T2 X3 T3 X4 T4 X5 T5 aXD hX0 hX1 hX2 hX3 hX4 hX5 Y0 Y1 Y2 Y3 Y4 Y5 y5_0 y5_1 g1 KD n' K1 hg1 k0 k1 k2 k3 k4 k5 off y4x_9 tk y5_2 ws FD h2 tk2 p0 pt0 p1 pt1 p2 pt2 p3 pt3 p4 pt4 p5 pt5 aFD ep0 ep1 ep2 ep3 ep4 ep5 y4x_10 y4x_11 y4x_14 y5_3 low lt y5_4 hl1 hl2 y5_5 y5_6 y5_9 y6_0 D1 y6_1 y6_2 hR y6_3 y6_4 aD y6_5 q0 q1 q2 q3 q4 q5 ys D2 h' tk' hR2 hl F' N' aD2
  have flC : FlC := .mk
  have flG : FlG := .mk
  unfold Halt
  (with_reducible rename Fr _ _ _ _ => F')
  (with_reducible rename News _ _ _ _ => N'); (try k_sweep)
  refine' index_call ?C ?d ?u ?l1 ?l2 ?l3 ?_
  (case l1 => exact News.listAt (vs := ys) N' (by k_mem))
  (case l2 => exact hR2)
  (case l3 => exact first_of hl1)
  (case C => exact Cx.mk K0' F' KX T rfl); (case d => first | k_room | decide); (case u => first | k_units | decide)
  intro h' tk' r0 j K1 hj1 hj2
  replace N' := News.tl (News.more N' K1)
  replace F' := F'.keeps K1
  try change wpAny _ _ _ _ _ _
  (try dsimp only)
  (try k_fold)
  k_steps
  unfold Halt
  (with_reducible rename Fr _ _ _ _ => F')
  (with_reducible rename News _ _ _ _ => N'); (try k_sweep)
  refine LCt.ListComp_T (F₀ := F') (by with_unfolding_all rfl) (by decide) (by rfl) (by decide) (by rfl) ?_
  k_steps
  unfold Halt
  refine LCt.CompSrcT.ledger (by rfl) F' N' (by k_mem) (Nat.le_of_ble_eq_true rfl) ?_
  intro g'
  refine kci_list (vs := [.int 0 u0, .int 1 u1, .int 2 u2, .int 3 u3, .int 4 u4, .int 5 u5]) (ns := [0, 1, 2, 3, 4, 5]) (fun l k => if [p0, p1, p2, p3, p4, p5].getD k.toNat 0 = low then l ++ [k] else l) (.cons _ _ (.cons _ _ (.cons _ _ (.cons _ _ (.cons _ _ (.cons _ _ .nil)))))) ?_ ?_ ?_
  · intro k t I oI C oC Dc m₂ ys l h tk E' hk hys hC hx F' N' off ne _
    obtain ⟨tt, htt⟩ := at6i (p0 := p0) (p1 := p1) (p2 := p2) (p3 := p3) (p4 := p4) (p5 := p5) (t0 := pt0) (t1 := pt1) (t2 := pt2) (t3 := pt3) (t4 := pt4) (t5 := pt5) hk
    have hkr := rng6 hk
    k_steps
    unfold Halt
    refine itemList (News.listAt (vs := [.int p0 pt0, .int p1 pt1, .int p2 pt2, .int p3 pt3, .int p4 pt4, .int p5 pt5]) N' (by k_mem)) hkr.1 hkr.2 htt ?_ (by with_unfolding_all rfl)
    generalize hG : [p0, p1, p2, p3, p4, p5].getD k.toNat 0 = pk
    k_steps
    · unfold Halt
      rename pk = low => hq
      exact LCg.CompEnd.intro F' N' _ (fun p hp => hp) off (.inr ⟨_, by k_mem, rfl, _, rfl⟩) (kci_el (if_pos hq) rfl rfl)
    · unfold Halt
      rename pk ≠ low => hq
      exact LCg.CompEnd.intro F' N' _ (fun p hp => hp) off (.inr ⟨_, by k_mem, rfl, _, rfl⟩) (kci_no (if_neg hq) rfl)
  · intro ys hys hl
    k_steps
    unfold Halt
    (with_reducible rename Fr _ _ _ _ => F')
    (with_reducible rename News _ _ _ _ => N'); (try k_sweep)
    refine kso_min F' N' (News.listAt (vs := ys) N' (List.mem_cons_self ..)) hys (lowsG_ne hl1) rfl ?_
    intro h' M tM tk' F' N' hM1 hM2
    have eM := first_is hj1 hj2 hM1 hM2
    subst eM
    clear hM1 hM2
    replace N' := News.tl N'
    have hfac : Facts [a, b, c, d, e, f] (rotI j) := by
      obtain ⟨hj, ej⟩ := lows_at hj1
      have ej' := of_decide_eq_true ej.symm
      refine plain ha hb hc hdd he zed hj ?_
      have eqs : [p0, p1, p2, p3, p4, p5] = [0, a, a + b, a + b + c, a + b + c + d, a + b + c + d + e] := by
        rw [ep0, ep1, ep2, ep3, ep4, ep5]
        simp only [Int.add_zero, Int.add_assoc]
      rw [← eqs, ej']
      exact hl2
    have hj6 := (lows_at hj1).1
    k_steps
    · exfalso
      rename ((j : Int)) ≠ _ => hne
      exact hne rfl
    · unfold Halt
      (with_reducible rename Fr _ _ _ _ => F')
      (with_reducible rename News _ _ _ _ => N'); (try k_sweep)
      refine pickRow N' (W0 := W0) (W1 := W1) (W2 := W2) (W3 := W3) (W4 := W4) (W5 := W5) (u0 := u0) (u1 := u1) (u2 := u2) (u3 := u3) (u4 := u4) (u5 := u5) (by k_mem) (by k_mem) (by k_mem) (by k_mem) (by k_mem) (by k_mem) (P := Facts [a, b, c, d, e, f]) (Z := fun x => @Ne Nat (s₁.heap.objs.size + 1) x ∧ @Ne Nat (s₁.heap.objs.size + 1 + 1) x ∧ @Ne Nat (s₁.heap.objs.size + 1 + 1 + 1) x ∧ @Ne Nat (s₁.heap.objs.size + 1 + 1 + 1 + 1) x ∧ @Ne Nat (s₁.heap.objs.size + 1 + 1 + 1 + 1 + 1) x) ⟨Apart.ne (by with_reducible assumption) (by k_mem), Apart.ne (by with_reducible assumption) (by k_mem), Apart.ne (by with_reducible assumption) (by k_mem), Apart.ne (by with_reducible assumption) (by k_mem), Apart.ne (by with_reducible assumption) (by k_mem)⟩ ⟨Apart.ne (by with_reducible assumption) (by k_mem), Apart.ne (by with_reducible assumption) (by k_mem), Apart.ne (by with_reducible assumption) (by k_mem), Apart.ne (by with_reducible assumption) (by k_mem), Apart.ne (by with_reducible assumption) (by k_mem)⟩ ⟨Apart.ne (by with_reducible assumption) (by k_mem), Apart.ne (by with_reducible assumption) (by k_mem), Apart.ne (by with_reducible assumption) (by k_mem), Apart.ne (by with_reducible assumption) (by k_mem), Apart.ne (by with_reducible assumption) (by k_mem)⟩ ⟨Apart.ne (by with_reducible assumption) (by k_mem), Apart.ne (by with_reducible assumption) (by k_mem), Apart.ne (by with_reducible assumption) (by k_mem), Apart.ne (by with_reducible assumption) (by k_mem), Apart.ne (by with_reducible assumption) (by k_mem)⟩ ⟨Apart.ne (by with_reducible assumption) (by k_mem), Apart.ne (by with_reducible assumption) (by k_mem), Apart.ne (by with_reducible assumption) (by k_mem), Apart.ne (by with_reducible assumption) (by k_mem), Apart.ne (by with_reducible assumption) (by k_mem)⟩ ⟨Apart.ne (by with_reducible assumption) (by k_mem), Apart.ne (by with_reducible assumption) (by k_mem), Apart.ne (by with_reducible assumption) (by k_mem), Apart.ne (by with_reducible assumption) (by k_mem), Apart.ne (by with_reducible assumption) (by k_mem)⟩ hj6 hfac fun R r0 r1 r2 r3 r4 r5 v0 v1 v2 v3 v4 v5 eR N2 hF hzR hr => ?_
      obtain ⟨z1, z2, z3, z4, z5⟩ := hzR
      refine itemList (News.listAt (vs := [.ref W0, .ref W1, .ref W2, .ref W3, .ref W4, .ref W5]) N' (by k_mem)) (Int.natCast_nonneg j) (by omega) eR ?_ (by with_unfolding_all rfl)
      replace N' := News.skip 10 N2
      simp only [List.drop_succ_cons, List.drop_zero] at N'
      clear N2 eR
      clear hX0 hX1 hX2 hX3 hX4 hX5 Y0 Y1 Y2 Y3 Y4 Y5 q0 q1 q2 q3 q4 q5 ep0 ep1 ep2 ep3 ep4 ep5 hl1 hl2 hfac hR hR2
      try change wpAny _ _ _ _ _ _
      (try dsimp only)
      (try k_fold)
      k_steps
      rename_i y7_0 y7_1 y7_2 y7_3 y7_4 y7_5 y7_6 y7_7 y7_8 y7_9 y7_10 y7_11 y7_12 y7_13 y7_14 y7_15 y7_16 y7_17 y7_18 y7_19 y7_20 y7_21
      clear ek qk y7_10 y7_9
      clear flC
      clear flG
      revert w s₀ s₁ mg mb G Y fa o pm doc ho hg KX X V GL T B TE TW y1_0 y1_1 M y1_2 y1_3 hcd y1_4 y1_5 y1_6 y1_7 y1_8 y1_9 y1_10 y1_11 y1_12 y1_13 y1_14 hL y1_15 y1_16 y1_17 y1_18 y1_19 y1_20 y1_21 K0 hD y1_22 y1_23 y1_24 y1_25 y1_26 y1_27 y1_28 y1_29 y1_30 y1_31 y1_32 y1_33 y1_34 y1_35 y1_36 K0' y2x_0 y2x_1 D n a b c d e t1 t2 t3 t4 t5 t6 y4x_0 ha hb hc hdd he f Ba Bb Bc Bd Be Bf zed y4x_1 y1_37 y1_38 y1_41 y1_42 y1_43 y1_44 y1_45 y1_46 y1_47 y1_48 rgX y1_52 P cP y4x_2 y4x_3 u0 u1 u2 u3 u4 u5 hPl l1 y2x_2 y2x_3 y2x_6 y4x_4 y3x_0 y3x_1 WD y3x_2 y3x_3 W0 W1 W2 W3 W4 W5 aW0 aW1 aW2 aW3 aW4 aW5 aWD y4x_5 y4x_6 XD y4x_7 y4x_8 X0 T0 X1 T1 X2 T2 X3 T3 X4 T4 X5 T5 aXD y5_0 y5_1 g1 KD n' y7_0 hg1 k0 k1 k2 k3 k4 k5 off y4x_9 y7_1 y5_2 ws FD h2 tk2 p0 pt0 p1 pt1 p2 pt2 p3 pt3 p4 pt4 p5 pt5 aFD y4x_10 y4x_11 y4x_14 y5_3 low lt y5_4 y5_5 y5_6 y5_9 y6_0 D1 y6_1 y6_2 y6_3 aD y7_2 D2 y7_3 y7_4 y7_5 aD2 y7_6 y7_7 y7_8 j K1 hj1 hj2 y7_11 tk g' ys hys hl y7_12 y7_13 y7_14 y7_15 h' tM tk' hj6 y7_16 R r0 r1 r2 r3 r4 r5 v0 v1 v2 v3 v4 v5 hF hr z1 z2 z3 z4 z5 y7_17 y7_18 y7_19 y7_20 y7_21
      exact hT.out
  · intro l k
    dsimp only
    split
    · simp
    · exact Nat.le_succ _)⟩
set_option maxHeartbeats 200000000 in
noncomputable def lawP8 : PSigma (fun P : Prop => Hand P → lawP7.1) := ⟨_, fun hT => (by
  intro w s₀ s₁ mg mb G Y fa o pm doc ho hg KX X V GL T B TE TW y1_0 y1_1 M y1_2 y1_3 hcd y1_4 y1_5 y1_6 y1_7 y1_8 y1_9 y1_10 y1_11 y1_12 y1_13 y1_14 hL y1_15 y1_16 y1_17 y1_18 y1_19 y1_20 y1_21 K0 hD y1_22 y1_23 y1_24 y1_25 y1_26 y1_27 y1_28 y1_29 y1_30 y1_31 y1_32 y1_33 y1_34 y1_35 y1_36 K0' y2x_0 y2x_1 D n a b c d e t1 t2 t3 t4 t5 t6 y4x_0 ha hb hc hdd he f Ba Bb Bc Bd Be Bf zed y4x_1 y1_37 y1_38 y1_41 y1_42 y1_43 y1_44 y1_45 y1_46 y1_47 y1_48 rgX y1_52 P cP y4x_2 y4x_3 u0 u1 u2 u3 u4 u5 hPl l1 y2x_2 y2x_3 y2x_6 y4x_4 y3x_0 y3x_1 WD y3x_2 y3x_3 W0 W1 W2 W3 W4 W5 aW0 aW1 aW2 aW3 aW4 aW5 aWD y4x_5 y4x_6 XD y4x_7 y4x_8 X0 T0 X1 T1 X2 T2 X3 T3 X4 T4 X5 T5 aXD y5_0 y5_1 g1 KD n' y7_0 hg1 k0 k1 k2 k3 k4 k5 off y4x_9 y7_1 y5_2 ws FD h2 tk2 p0 pt0 p1 pt1 p2 pt2 p3 pt3 p4 pt4 p5 pt5 aFD y4x_10 y4x_11 y4x_14 y5_3 low lt y5_4 y5_5 y5_6 y5_9 y6_0 D1 y6_1 y6_2 y6_3 aD y7_2 D2 y7_3 y7_4 y7_5 aD2 y7_6 y7_7 y7_8 j K1 hj1 hj2 y7_11 tk g' ys hys hl y7_12 y7_13 y7_14 y7_15 h' tM tk' hj6 y7_16 R r0 r1 r2 r3 r4 r5 v0 v1 v2 v3 v4 v5 hF hr z1 z2 z3 z4 z5 y7_17 y7_18 y7_19 y7_20 y7_21
  have flC : FlC := .mk
  repeat (rename Apart _ _ => xx; clear xx)
  repeat (rename _ = Data.cell (bindC _ _) => xx; clear xx)
  try (rename CellsAre _ _ _ => xx; clear xx)
  unfold Halt
  (with_reducible rename Fr _ _ _ _ => F')
  (with_reducible rename News _ _ _ _ => N'); (try k_sweep)
  rename News _ _ _ _ => N0
  refine hide8 N0 fun n1 N' mR mP mD mc5 mc4 mc3 mc2 mc1 => ?_
  clear N0
  refine hF.fwd fun H0 H1 H2 H3 H4 H5 g0 g1' g2 g3 g4 g5 eL hH hg' eX eT eS => ?_
  refine' sorted_call (st := [a, b, c, d, e, f]) (row := [r0, r1, r2, r3, r4, r5]) ?C ?d ?u ?l1 ?l2 ?l3 ?l4 ?l5 ?l6 ?l7 ?_
  (case l1 => exact News.listAt (vs := [.int a t1, .int b t2, .int c t3, .int d t4, .int e t5, .int f t6]) N' (by k_mem))
  (case l2 => exact areI6)
  (case l3 => exact News.listAt (vs := [.int r0 v0, .int r1 v1, .int r2 v2, .int r3 v3, .int r4 v4, .int r5 v5]) N' (by k_mem))
  (case l4 => exact areI6)
  (case l5 => exact Nat.le_of_ble_eq_true rfl)
  (case l6 => exact Nat.le_of_ble_eq_true rfl)
  (case l7 => exact lt6 hr)
  (case C => exact Cx.mk K0' F' KX T rfl); (case d => first | k_room | decide); (case u => first | k_units | decide)
  intro h' tk' LD vL nL K1 hf1 hD1 hAL
  rw [eL] at hAL
  refine tups_k F' N' K1 hf1 hD1 hAL fun A0 at0 au0 A1 at1 au1 A2 at2 au2 A3 at3 au3 A4 at4 au4 A5 at5 au5 N0 => ?_
  replace F' := F'.keeps K1
  clear hf1 hD1 hAL
  refine hide7t N0 fun n2 N' hs mLD mA0 mA1 mA2 mA3 mA4 mA5 => ?_
  replace mR := hs _ mR
  replace mP := hs _ mP
  replace mD := hs _ mD
  replace mc5 := hs _ mc5
  replace mc4 := hs _ mc4
  replace mc3 := hs _ mc3
  replace mc2 := hs _ mc2
  replace mc1 := hs _ mc1
  clear hs N0
  (try k_sweep)
  try change wpAny _ _ _ _ _ _
  (try dsimp only)
  (try k_fold)
  k_steps
  rename_i y8x_0 y8x_1 y8x_2 y8x_3 y8x_4 y8x_5 y8x_6
  clear ek qk
  clear flC
  revert w s₀ s₁ mg mb G Y fa o pm doc ho hg KX X V GL T B TE TW y1_0 y1_1 M y1_2 y1_3 hcd y1_4 y1_5 y1_6 y1_7 y1_8 y1_9 y1_10 y1_11 y1_12 y1_13 y1_14 hL y1_15 y1_16 y1_17 y1_18 y1_19 y1_20 y1_21 K0 hD y1_22 y1_23 y1_24 y1_25 y1_26 y1_27 y1_28 y1_29 y1_30 y1_31 y1_32 y1_33 y1_35 y1_36 K0' y2x_0 y2x_1 D n a b c d e t1 t2 t3 t4 t5 t6 y4x_0 ha hb hc hdd he f Ba Bb Bc Bd Be Bf zed y1_37 y1_38 y1_41 y1_42 y1_43 y1_44 y1_45 y1_46 y1_47 y1_48 rgX y1_52 P cP y4x_2 y4x_3 u0 u1 u2 u3 u4 u5 hPl y2x_2 y2x_3 y2x_6 y4x_4 y3x_0 y3x_1 WD y3x_2 y3x_3 W0 W1 W2 W3 W4 W5 y4x_5 y4x_6 XD y4x_7 y4x_8 X0 T0 X1 T1 X2 T2 X3 T3 X4 T4 X5 T5 y5_0 y5_1 g1 KD n' y7_0 hg1 k0 k1 k2 k3 k4 k5 y4x_9 y7_1 y5_2 ws FD h2 tk2 p0 pt0 p1 pt1 p2 pt2 p3 pt3 p4 pt4 p5 pt5 y4x_10 y4x_11 y4x_14 y5_3 low lt y5_4 y5_5 y5_6 y5_9 y6_0 D1 y6_1 y6_2 y6_3 y7_2 D2 y7_3 y7_4 y7_5 y7_6 y7_7 y7_8 j y8x_0 hj1 hj2 y7_11 y8x_1 g' ys hys hl y7_12 y7_13 y7_14 y8x_2 tM y8x_3 hj6 y7_16 R r0 r1 r2 r3 r4 r5 v0 v1 v2 v3 v4 v5 hF hr z1 z2 z3 z4 z5 y7_17 y7_18 y7_21 n1 H0 H1 H2 H3 H4 H5 g0 g1' g2 g3 g4 g5 eL hH hg' eX eT eS h' tk' LD vL nL K1 A0 at0 au0 A1 at1 au1 A2 at2 au2 A3 at3 au3 A4 at4 au4 A5 at5 au5 n2 mLD mA0 mA1 mA2 mA3 mA4 mA5 mR mP mD mc5 mc4 mc3 mc2 mc1 y8x_4 y8x_5 y8x_6 tk
  exact hT.out)⟩
set_option maxHeartbeats 200000000 in
noncomputable def lawP9 : PSigma (fun P : Prop => Hand P → lawP8.1) := ⟨_, fun hT => (by
  intro w s₀ s₁ mg mb G Y fa o pm doc ho hg KX X V GL T B TE TW y1_0 y1_1 M y1_2 y1_3 hcd y1_4 y1_5 y1_6 y1_7 y1_8 y1_9 y1_10 y1_11 y1_12 y1_13 y1_14 hL y1_15 y1_16 y1_17 y1_18 y1_19 y1_20 y1_21 K0 hD y1_22 y1_23 y1_24 y1_25 y1_26 y1_27 y1_28 y1_29 y1_30 y1_31 y1_32 y1_33 y1_35 y1_36 K0' y2x_0 y2x_1 D n a b c d e t1 t2 t3 t4 t5 t6 y4x_0 ha hb hc hdd he f Ba Bb Bc Bd Be Bf zed y1_37 y1_38 y1_41 y1_42 y1_43 y1_44 y1_45 y1_46 y1_47 y1_48 rgX y1_52 P cP y4x_2 y4x_3 u0 u1 u2 u3 u4 u5 hPl y2x_2 y2x_3 y2x_6 y4x_4 y3x_0 y3x_1 WD y3x_2 y3x_3 W0 W1 W2 W3 W4 W5 y4x_5 y4x_6 XD y4x_7 y4x_8 X0 T0 X1 T1 X2 T2 X3 T3 X4 T4 X5 T5 y5_0 y5_1 g1 KD n' y7_0 hg1 k0 k1 k2 k3 k4 k5 y4x_9 y7_1 y5_2 ws FD h2 tk2 p0 pt0 p1 pt1 p2 pt2 p3 pt3 p4 pt4 p5 pt5 y4x_10 y4x_11 y4x_14 y5_3 low lt y5_4 y5_5 y5_6 y5_9 y6_0 D1 y6_1 y6_2 y6_3 y7_2 D2 y7_3 y7_4 y7_5 y7_6 y7_7 y7_8 j y8x_0 hj1 hj2 y7_11 y8x_1 g' ys hys hl y7_12 y7_13 y7_14 y8x_2 tM y8x_3 hj6 y7_16 R r0 r1 r2 r3 r4 r5 v0 v1 v2 v3 v4 v5 hF hr z1 z2 z3 z4 z5 y7_17 y7_18 y7_21 n1 H0 H1 H2 H3 H4 H5 g0 g1' g2 g3 g4 g5 eL hH hg' eX eT eS h' tk' LD vL nL K1 A0 at0 au0 A1 at1 au1 A2 at2 au2 A3 at3 au3 A4 at4 au4 A5 at5 au5 n2 mLD mA0 mA1 mA2 mA3 mA4 mA5 mR mP mD mc5 mc4 mc3 mc2 mc1 y8x_4 y8x_5 y8x_6 tk
  have flC : FlC := .mk
  have flG : FlG := .mk
  have flS : FlS := .mk
  unfold Halt
  (with_reducible rename Fr _ _ _ _ => F')
  (with_reducible rename News _ _ _ _ => N'); (try k_sweep)
  refine compX (n := 6) (Item := Item1 (fun i v => [Value.int 0 u0, .int 1 u1, .int 2 u2, .int 3 u3, .int 4 u4, .int 5 u5].toArray[i]? = some v)) (fun i ys ws => Are (fun k v => ∃ B ta tb tc, v = .ref B ∧ (B, trip (sumTo [a, b, c, d, e, f] [r0, r1, r2, r3, r4, r5] k) ta (-((k : Nat) : Int)) tb ([r0, r1, r2, r3, r4, r5].getD k 0) tc) ∈ ws) ys (([0, 1, 2, 3, 4, 5] : List Nat).take i)) F' N'
    (by with_unfolding_all rfl) (by decide) (by rfl) (by decide) (asg1 (by rfl) (by rfl)) (by rfl) (Nat.le_of_ble_eq_true rfl) ?_ ⟨rfl, fun i a h => by simp at h⟩ ?_ ?_
  · k_steps
    unfold Halt
    have zP := N' (P, PySem.W.listOf #[.int 0 u0, .int 1 u1, .int 2 u2, .int 3 u3, .int 4 u4, .int 5 u5] cP) (by k_mem)
    exact srcList rfl (News.listAt (vs := [.int 0 u0, .int 1 u1, .int 2 u2, .int 3 u3, .int 4 u4, .int 5 u5]) N' (by k_mem)) zP.2.1 (fun _ _ h => h) F' N' rfl ⟨_, _, rfl⟩
  · rintro i ys ws rest C oC Dc m₂ h2 tk2 E' hi ⟨v, hv, hm⟩ hR0 hC F' N' aC aD
    (try simp only [List.cons_append, List.nil_append] at N' aC aD)
    obtain ⟨u, rfl⟩ := at6u hv
    k_steps
    unfold Halt
    (with_reducible rename Fr _ _ _ _ => F')
    (with_reducible rename News _ _ _ _ => N'); (try k_sweep)
    refine compX (n := i) (Item := Item1 (fun k v => ([Value.int r0 v0, .int r1 v1, .int r2 v2, .int r3 v3, .int r4 v4, .int r5 v5].take i).toArray[k]? = some v)) (fun k ys ws => Are (fun r v => ∃ t, v = .int ([a, b, c, d, e, f].getD r.toNat 0) t) ys (([r0, r1, r2, r3, r4, r5].take i).take k)) F' N'
      (by with_unfolding_all rfl) (by decide) (by rfl) (by decide) (asg1 (by rfl) (by rfl)) (by rfl) (Nat.le_trans (Nat.le_of_lt hi) (Nat.le_of_ble_eq_true rfl)) ?_ ⟨by simp, fun i a h => by simp at h⟩ ?_ ?_
    · k_steps
      unfold Halt
      refine' kmk_slice_lit (its := [Value.int r0 v0, .int r1 v1, .int r2 v2, .int r3 v3, .int r4 v4, .int r5 v5].toArray) F' N' ?kl ?kp ?kq (upto6 hi) ?_ ?ks ?kt ?kz
      (case kl => exact News.listAt N' (by k_mem))
      (case kp => exact IsPart.none)
      (case kq => exact IsPart.int _ _)
      (case ks => with_unfolding_all rfl)
      (case kt => kmk_pure)
      (case kz => exact Nat.le_of_ble_eq_true rfl)
      intro S1 h2 F' N' l1
      clear l1
      k_steps
      unfold Halt
      exact srcList rfl (N'.isList (List.mem_cons_self ..)) (N' _ (List.mem_cons_self ..)).2.1 (fun _ _ h => h) F' (News.tl N') (take6_size hi) ⟨_, _, rfl⟩
    · rintro k ys ws rest C oC Dc m₂ h2 tk2 E' hk ⟨v, hv, hm⟩ hR hC F' N' aC aD
      (try simp only [List.cons_append, List.nil_append] at N' aC aD)
      obtain ⟨r, tr, rfl, hrk, hrm⟩ := take6_at hv
      have hr6 := hr r hrm
      obtain ⟨tt, htt⟩ := at6i (p0 := a) (p1 := b) (p2 := c) (p3 := d) (p4 := e) (p5 := f) (t0 := t1) (t1 := t2) (t2 := t3) (t3 := t4) (t4 := t5) (t5 := t6) (mem6 hr6)
      k_steps
      unfold Halt
      refine itemList (News.listAt (vs := [.int a t1, .int b t2, .int c t3, .int d t4, .int e t5, .int f t6]) N' (by k_mem)) hr6.1 (Int.lt_trans hr6.2 (by decide)) htt ?_ (by with_unfolding_all rfl)
      exact EndX.none F' N' (Are.snoc' hR hrk ⟨_, rfl⟩)
    · rintro ys ws D2 h2 tk2 - hR hl F' N' -
      replace N' := News.noW N'
      k_steps
      unfold Halt
      with_unfolding_all refine sumLit (ints_take hR) rfl F' N' ?_
      intro z h' tk' zt ez F' N'
      k_steps
      unfold Halt
      obtain ⟨vt, hvt⟩ := row6 (r0 := r0) (r1 := r1) (r2 := r2) (r3 := r3) (r4 := r4) (r5 := r5) (v0 := v0) (v1 := v1) (v2 := v2) (v3 := v3) (v4 := v4) (v5 := v5) hi
      refine itemList (News.listAt (vs := [.int r0 v0, .int r1 v1, .int r2 v2, .int r3 v3, .int r4 v4, .int r5 v5]) N' (by k_mem)) (Int.natCast_nonneg i) (by omega) hvt ?_ (by with_unfolding_all rfl)
      k_steps
      (with_reducible rename Fr _ _ _ _ => F')
      (with_reducible rename News _ _ _ _ => N'); (try k_sweep)
      subst ez
      exact EndX.one F' N' (by with_reducible assumption) (Are.snoc' (hR0.mono fun k v ⟨B, ta, tb, tc, e, hm⟩ => ⟨B, ta, tb, tc, e, List.mem_append_right _ hm⟩) (six_at hi) ⟨_, _, _, _, rfl, .head _⟩)
  · rintro ys ws D2 h2 tk2 hw hR hl F' N0 aD
    refine trips_k (z := fun k => sumTo [a, b, c, d, e, f] [r0, r1, r2, r3, r4, r5] k) (r := fun k => [r0, r1, r2, r3, r4, r5].getD k 0) (show Are _ ys [0, 1, 2, 3, 4, 5] from hR) N0 fun B0 ta0 tb0 tc0 B1 ta1 tb1 tc1 B2 ta2 tb2 tc2 B3 ta3 tb3 tc3 B4 ta4 tb4 tc4 B5 ta5 tb5 tc5 N' => ?_
    clear hw hR hl N0 aD
    k_steps
    rename_i y9x_0 y9x_1 y9x_2 y9x_3 y9x_4 y9x_5 y9x_6
    clear flC
    clear flG
    clear flS
    revert w s₀ s₁ mg mb G Y fa o pm doc ho hg KX X V GL T B TE TW y1_0 y1_1 M y1_2 y1_3 hcd y1_4 y1_5 y1_6 y1_7 y1_8 y1_9 y1_10 y1_11 y1_12 y1_13 y1_14 hL y1_15 y1_16 y1_17 y1_18 y1_19 y1_20 y1_21 K0 hD y1_22 y1_23 y1_24 y1_25 y1_26 y1_27 y1_28 y1_29 y1_30 y1_31 y1_32 y1_33 y1_35 y1_36 K0' y2x_0 y2x_1 D n a b c d e t1 t2 t3 t4 t5 t6 y4x_0 ha hb hc hdd he f Ba Bb Bc Bd Be Bf zed y1_37 y1_38 y1_41 y1_42 y1_43 y1_44 y1_45 y1_46 y1_47 y1_48 rgX y1_52 P cP y4x_2 y4x_3 u0 u1 u2 u3 u4 u5 hPl y2x_2 y2x_3 y2x_6 y4x_4 y3x_0 y3x_1 WD y3x_2 y3x_3 W0 W1 W2 W3 W4 W5 y4x_5 y4x_6 XD y4x_7 y4x_8 X0 T0 X1 T1 X2 T2 X3 T3 X4 T4 X5 T5 y5_0 y5_1 g1 KD n' y7_0 hg1 k0 k1 k2 k3 k4 k5 y4x_9 y7_1 y5_2 y9x_0 FD y9x_1 y9x_2 p0 pt0 p1 pt1 p2 pt2 p3 pt3 p4 pt4 p5 pt5 y4x_10 y4x_11 y4x_14 y5_3 low lt y5_4 y5_5 y5_6 y5_9 y6_0 D1 y6_1 y6_2 y6_3 y7_2 y9x_3 y7_3 y7_4 y7_5 y7_6 y7_7 y7_8 j y8x_0 hj1 hj2 y7_11 y8x_1 g' y9x_4 hys hl y7_12 y7_13 y7_14 y8x_2 tM y8x_3 hj6 y7_16 R r0 r1 r2 r3 r4 r5 v0 v1 v2 v3 v4 v5 hF hr z1 z2 z3 z4 z5 y7_17 y7_18 y7_21 n1 H0 H1 H2 H3 H4 H5 g0 g1' g2 g3 g4 g5 eL hH hg' eX eT eS h' tk' LD vL nL K1 A0 at0 au0 A1 at1 au1 A2 at2 au2 A3 at3 au3 A4 at4 au4 A5 at5 au5 n2 mLD mA0 mA1 mA2 mA3 mA4 mA5 mR mP mD mc5 mc4 mc3 mc2 mc1 y8x_4 y9x_5 y9x_6 tk ys ws D2 h2 tk2 F' B0 ta0 tb0 tc0 B1 ta1 tb1 tc1 B2 ta2 tb2 tc2 B3 ta3 tb3 tc3 B4 ta4 tb4 tc4 B5 ta5 tb5 tc5 N'
    exact hT.out)⟩
set_option maxHeartbeats 200000000 in
noncomputable def lawP10 : PSigma (fun P : Prop => Hand P → lawP9.1) := ⟨_, fun hT => (by
  intro w s₀ s₁ mg mb G Y fa o pm doc ho hg KX X V GL T B TE TW y1_0 y1_1 M y1_2 y1_3 hcd y1_4 y1_5 y1_6 y1_7 y1_8 y1_9 y1_10 y1_11 y1_12 y1_13 y1_14 hL y1_15 y1_16 y1_17 y1_18 y1_19 y1_20 y1_21 K0 hD y1_22 y1_23 y1_24 y1_25 y1_26 y1_27 y1_28 y1_29 y1_30 y1_31 y1_32 y1_33 y1_35 y1_36 K0' y2x_0 y2x_1 D n a b c d e t1 t2 t3 t4 t5 t6 y4x_0 ha hb hc hdd he f Ba Bb Bc Bd Be Bf zed y1_37 y1_38 y1_41 y1_42 y1_43 y1_44 y1_45 y1_46 y1_47 y1_48 rgX y1_52 P cP y4x_2 y4x_3 u0 u1 u2 u3 u4 u5 hPl y2x_2 y2x_3 y2x_6 y4x_4 y3x_0 y3x_1 WD y3x_2 y3x_3 W0 W1 W2 W3 W4 W5 y4x_5 y4x_6 XD y4x_7 y4x_8 X0 T0 X1 T1 X2 T2 X3 T3 X4 T4 X5 T5 y5_0 y5_1 g1 KD n' y7_0 hg1 k0 k1 k2 k3 k4 k5 y4x_9 y7_1 y5_2 y9x_0 FD y9x_1 y9x_2 p0 pt0 p1 pt1 p2 pt2 p3 pt3 p4 pt4 p5 pt5 y4x_10 y4x_11 y4x_14 y5_3 low lt y5_4 y5_5 y5_6 y5_9 y6_0 D1 y6_1 y6_2 y6_3 y7_2 y9x_3 y7_3 y7_4 y7_5 y7_6 y7_7 y7_8 j y8x_0 hj1 hj2 y7_11 y8x_1 g' y9x_4 hys hl y7_12 y7_13 y7_14 y8x_2 tM y8x_3 hj6 y7_16 R r0 r1 r2 r3 r4 r5 v0 v1 v2 v3 v4 v5 hF hr z1 z2 z3 z4 z5 y7_17 y7_18 y7_21 n1 H0 H1 H2 H3 H4 H5 g0 g1' g2 g3 g4 g5 eL hH hg' eX eT eS h' tk' LD vL nL K1 A0 at0 au0 A1 at1 au1 A2 at2 au2 A3 at3 au3 A4 at4 au4 A5 at5 au5 n2 mLD mA0 mA1 mA2 mA3 mA4 mA5 mR mP mD mc5 mc4 mc3 mc2 mc1 y8x_4 y9x_5 y9x_6 tk ys ws D2 h2 tk2 F' B0 ta0 tb0 tc0 B1 ta1 tb1 tc1 B2 ta2 tb2 tc2 B3 ta3 tb3 tc3 B4 ta4 tb4 tc4 B5 ta5 tb5 tc5 N'
  have flA : FlA := .mk
  have flC : FlC := .mk
  unfold Halt
  (with_reducible rename Fr _ _ _ _ => F')
  (with_reducible rename News _ _ _ _ => N'); (try k_sweep)
  with_unfolding_all refine sorted6v (z := fun i => sumTo [a, b, c, d, e, f] [r0, r1, r2, r3, r4, r5] i) (r := fun i => [r0, r1, r2, r3, r4, r5].getD i 0) F' N' (News.listAt (vs := [.ref _, .ref _, .ref _, .ref _, .ref _, .ref _]) N' (List.mem_cons_self ..)) (by with_unfolding_all k_mem) (by with_unfolding_all k_mem) (by with_unfolding_all k_mem) (by with_unfolding_all k_mem) (by with_unfolding_all k_mem) (by with_unfolding_all k_mem) ((laid_ins (st := [a, b, c, d, e, f]) (r0 := r0) (r1 := r1) (r2 := r2) (r3 := r3) (r4 := r4) (r5 := r5) (z0 := sumTo [a, b, c, d, e, f] [r0, r1, r2, r3, r4, r5] 0) (z1 := sumTo [a, b, c, d, e, f] [r0, r1, r2, r3, r4, r5] 1) (z2 := sumTo [a, b, c, d, e, f] [r0, r1, r2, r3, r4, r5] 2) (z3 := sumTo [a, b, c, d, e, f] [r0, r1, r2, r3, r4, r5] 3) (z4 := sumTo [a, b, c, d, e, f] [r0, r1, r2, r3, r4, r5] 4) (z5 := sumTo [a, b, c, d, e, f] [r0, r1, r2, r3, r4, r5] 5) rfl rfl rfl rfl rfl rfl).trans eL) ?_
  intro Dd cd h' C0 C1 C2 C3 C4 C5 bb0 sa0 sb0 sc0 bb1 sa1 sb1 sc1 bb2 sa2 sb2 sc2 bb3 sa3 sb3 sc3 bb4 sa4 sb4 sc4 bb5 sa5 sb5 sc5 F' N'
  replace N' := News.cut 7 14 N'
  simp only [List.take_succ_cons, List.take_zero, List.drop_succ_cons, List.drop_zero, List.cons_append, List.nil_append] at N'
  rename News _ _ _ _ => N0
  refine hide7t N0 fun n3 N' hs mDd mC0 mC1 mC2 mC3 mC4 mC5 => ?_
  replace mR := hs _ mR
  replace mP := hs _ mP
  replace mD := hs _ mD
  replace mc5 := hs _ mc5
  replace mc4 := hs _ mc4
  replace mc3 := hs _ mc3
  replace mc2 := hs _ mc2
  replace mc1 := hs _ mc1
  replace mLD := hs _ mLD
  replace mA0 := hs _ mA0
  replace mA1 := hs _ mA1
  replace mA2 := hs _ mA2
  replace mA3 := hs _ mA3
  replace mA4 := hs _ mA4
  replace mA5 := hs _ mA5
  clear hs N0
  (try k_sweep)
  repeat (rename Apart _ _ => xx; clear xx)
  (try dsimp only)
  (try k_fold)
  k_steps
  unfold Halt
  (with_reducible rename Fr _ _ _ _ => F')
  (with_reducible rename News _ _ _ _ => N'); (try k_sweep)
  rename_i y10_0 y10_1 y10_2
  clear flA
  clear flC
  revert w s₀ s₁ mg mb G Y fa o pm doc ho hg KX X V GL T B TE TW y1_0 y1_1 M y1_2 y1_3 hcd y1_4 y1_5 y1_6 y1_7 y1_8 y1_9 y1_10 y1_11 y1_12 y1_13 y1_14 hL y1_15 y1_16 y1_17 y1_18 y1_19 y1_20 y1_21 K0 hD y1_22 y1_23 y1_24 y1_25 y1_26 y1_27 y1_28 y1_29 y1_30 y1_31 y1_32 y1_33 y1_35 y1_36 K0' y2x_0 y2x_1 D n a b c d e t1 t2 t3 t4 t5 t6 y4x_0 ha hb hc hdd he f Ba Bb Bc Bd Be Bf zed y1_37 y1_38 y1_41 y1_42 y1_43 y1_44 y1_45 y1_46 y1_47 y1_48 rgX y1_52 P cP y4x_2 y4x_3 u0 u1 u2 u3 u4 u5 hPl y2x_2 y2x_3 y2x_6 y4x_4 y3x_0 y3x_1 WD y3x_2 y3x_3 W0 W1 W2 W3 W4 W5 y4x_5 y4x_6 XD y4x_7 y4x_8 X0 T0 X1 T1 X2 T2 X3 T3 X4 T4 X5 T5 y5_0 y5_1 g1 KD n' y7_0 hg1 k0 k1 k2 k3 k4 k5 y4x_9 y7_1 y5_2 y9x_0 FD y9x_1 y9x_2 p0 pt0 p1 pt1 p2 pt2 p3 pt3 p4 pt4 p5 pt5 y4x_10 y4x_11 y4x_14 y5_3 low lt y5_4 y5_5 y5_6 y5_9 y6_0 D1 y6_1 y6_2 y6_3 y7_2 y9x_3 y7_3 y7_4 y7_5 y7_6 y7_7 y7_8 j y8x_0 hj1 hj2 y7_11 y8x_1 g' y9x_4 hys hl y7_12 y7_13 y7_14 y8x_2 tM y8x_3 hj6 y7_16 R r0 r1 r2 r3 r4 r5 v0 v1 v2 v3 v4 v5 hF hr z1 z2 z3 z4 z5 y7_17 y7_18 y7_21 n1 H0 H1 H2 H3 H4 H5 g0 g1' g2 g3 g4 g5 eL hH hg' eX eT eS y10_0 tk' LD vL nL K1 A0 at0 au0 A1 at1 au1 A2 at2 au2 A3 at3 au3 A4 at4 au4 A5 at5 au5 n2 y8x_4 y10_1 ys ws D2 h2 tk2 B0 ta0 tb0 tc0 B1 ta1 tb1 tc1 B2 ta2 tb2 tc2 B3 ta3 tb3 tc3 B4 ta4 tb4 tc4 B5 ta5 tb5 tc5 Dd cd h' C0 C1 C2 C3 C4 C5 bb0 sa0 sb0 sc0 bb1 sa1 sb1 sc1 bb2 sa2 sb2 sc2 bb3 sa3 sb3 sc3 bb4 sa4 sb4 sc4 bb5 sa5 sb5 sc5 n3 mDd mC0 mC1 mC2 mC3 mC4 mC5 mR mP mD mc5 mc4 mc3 mc2 mc1 mLD mA0 mA1 mA2 mA3 mA4 mA5 y10_2 F' N' tk
  exact hT.out)⟩
set_option maxHeartbeats 200000000 in
noncomputable def lawP11 : PSigma (fun P : Prop => Hand P → lawP10.1) := ⟨_, fun hT => (by
  intro w s₀ s₁ mg mb G Y fa o pm doc ho hg KX X V GL T B TE TW y1_0 y1_1 M y1_2 y1_3 hcd y1_4 y1_5 y1_6 y1_7 y1_8 y1_9 y1_10 y1_11 y1_12 y1_13 y1_14 hL y1_15 y1_16 y1_17 y1_18 y1_19 y1_20 y1_21 K0 hD y1_22 y1_23 y1_24 y1_25 y1_26 y1_27 y1_28 y1_29 y1_30 y1_31 y1_32 y1_33 y1_35 y1_36 K0' y2x_0 y2x_1 D n a b c d e t1 t2 t3 t4 t5 t6 y4x_0 ha hb hc hdd he f Ba Bb Bc Bd Be Bf zed y1_37 y1_38 y1_41 y1_42 y1_43 y1_44 y1_45 y1_46 y1_47 y1_48 rgX y1_52 P cP y4x_2 y4x_3 u0 u1 u2 u3 u4 u5 hPl y2x_2 y2x_3 y2x_6 y4x_4 y3x_0 y3x_1 WD y3x_2 y3x_3 W0 W1 W2 W3 W4 W5 y4x_5 y4x_6 XD y4x_7 y4x_8 X0 T0 X1 T1 X2 T2 X3 T3 X4 T4 X5 T5 y5_0 y5_1 g1 KD n' y7_0 hg1 k0 k1 k2 k3 k4 k5 y4x_9 y7_1 y5_2 y9x_0 FD y9x_1 y9x_2 p0 pt0 p1 pt1 p2 pt2 p3 pt3 p4 pt4 p5 pt5 y4x_10 y4x_11 y4x_14 y5_3 low lt y5_4 y5_5 y5_6 y5_9 y6_0 D1 y6_1 y6_2 y6_3 y7_2 y9x_3 y7_3 y7_4 y7_5 y7_6 y7_7 y7_8 j y8x_0 hj1 hj2 y7_11 y8x_1 g' y9x_4 hys hl y7_12 y7_13 y7_14 y8x_2 tM y8x_3 hj6 y7_16 R r0 r1 r2 r3 r4 r5 v0 v1 v2 v3 v4 v5 hF hr z1 z2 z3 z4 z5 y7_17 y7_18 y7_21 n1 H0 H1 H2 H3 H4 H5 g0 g1' g2 g3 g4 g5 eL hH hg' eX eT eS y10_0 tk' LD vL nL K1 A0 at0 au0 A1 at1 au1 A2 at2 au2 A3 at3 au3 A4 at4 au4 A5 at5 au5 n2 y8x_4 y10_1 ys ws D2 h2 tk2 B0 ta0 tb0 tc0 B1 ta1 tb1 tc1 B2 ta2 tb2 tc2 B3 ta3 tb3 tc3 B4 ta4 tb4 tc4 B5 ta5 tb5 tc5 Dd cd h' C0 C1 C2 C3 C4 C5 bb0 sa0 sb0 sc0 bb1 sa1 sb1 sc1 bb2 sa2 sb2 sc2 bb3 sa3 sb3 sc3 bb4 sa4 sb4 sc4 bb5 sa5 sb5 sc5 n3 mDd mC0 mC1 mC2 mC3 mC4 mC5 mR mP mD mc5 mc4 mc3 mc2 mc1 mLD mA0 mA1 mA2 mA3 mA4 mA5 y10_2 F' N' tk
  have flA : FlA := .mk
  have flC : FlC := .mk
  refine compT3 [(H0, g0), (H1, g1'), (H2, g2), (H3, g3), (H4, g4), (H5, g5)] (PV := DueV [(H0, g0), (H1, g1'), (H2, g2), (H3, g3), (H4, g4), (H5, g5)]) F' N' (by with_unfolding_all rfl) (by decide) (by rfl) (by decide) (by rfl) (by rfl) (by rfl) (by decide) (by decide) (by decide) rfl (Nat.le_of_ble_eq_true rfl) ?_ ?_ ?_
  · k_steps
    (try unfold Halt)
    exact dueSrc rfl F' N' (by k_mem) (by k_mem) (by k_mem) (by k_mem) (by k_mem) (by k_mem) (by k_mem) ⟨_, _, rfl⟩
  · rintro i x y z ys rest Ca oC Dc m₂ h2 tk2 E' ⟨Hh, ht, bk, bt, gg, gt, rfl, rfl, rfl, hp⟩ hC hxa hxb hxc F' N'
    k_steps
    (with_reducible rename Fr _ _ _ _ => F')
    (with_reducible rename News _ _ _ _ => N'); (try k_sweep)
    exact EndT.intro F' N' (by with_reducible assumption) hp
  · intro ys tups D3 h2 tk2 hA F' N' aD
    k_steps
    unfold Halt
    refine ne_pairs (H0 := H0) (g0 := g0) (H1 := H1) (g1 := g1') (H2 := H2) (g2 := g2) (H3 := H3) (g3 := g3) (H4 := H4) (g4 := g4) (H5 := H5) (g5 := g5) (N' (LD, _) (List.mem_cons_of_mem _ (List.mem_append_right _ (by k_mem)))).1 (N' _ (List.mem_cons_self ..)).1 ?_ ?_ (by first | k_units | decide) ?_
    · exact are_six ⟨A0, at0, au0, rfl, (N' (A0, tupObj H0 at0 g0 au0) (List.mem_cons_of_mem _ (List.mem_append_right _ (by k_mem)))).1⟩ ⟨A1, at1, au1, rfl, (N' (A1, tupObj H1 at1 g1' au1) (List.mem_cons_of_mem _ (List.mem_append_right _ (by k_mem)))).1⟩ ⟨A2, at2, au2, rfl, (N' (A2, tupObj H2 at2 g2 au2) (List.mem_cons_of_mem _ (List.mem_append_right _ (by k_mem)))).1⟩ ⟨A3, at3, au3, rfl, (N' (A3, tupObj H3 at3 g3 au3) (List.mem_cons_of_mem _ (List.mem_append_right _ (by k_mem)))).1⟩ ⟨A4, at4, au4, rfl, (N' (A4, tupObj H4 at4 g4 au4) (List.mem_cons_of_mem _ (List.mem_append_right _ (by k_mem)))).1⟩ ⟨A5, at5, au5, rfl, (N' (A5, tupObj H5 at5 g5 au5) (List.mem_cons_of_mem _ (List.mem_append_right _ (by k_mem)))).1⟩
    · exact hA.mono fun q v ⟨a, t, u, e, hm⟩ => ⟨a, t, u, e, (N' _ (List.mem_cons_of_mem _ (List.mem_append_left _ hm))).1⟩
    replace N' := News.cut2 N'
    k_steps
    unfold Halt
    (with_reducible rename Fr _ _ _ _ => F')
    (with_reducible rename News _ _ _ _ => N'); (try k_sweep)
    rename_i y11_0 y11_1 y11_2
    clear flA
    clear flC
    revert w s₀ s₁ mg mb G Y fa o pm doc ho hg KX X V GL T B TE TW y1_0 y1_1 M y1_2 y1_3 hcd y1_4 y1_5 y1_6 y1_7 y1_8 y1_9 y1_10 y1_11 y1_12 y1_13 y1_14 hL y1_15 y1_16 y1_17 y1_18 y1_19 y1_20 y1_21 K0 hD y1_22 y1_23 y1_24 y1_25 y1_26 y1_27 y1_28 y1_29 y1_30 y1_31 y1_32 y1_33 y1_35 y1_36 K0' y2x_0 y2x_1 D n a b c d e t1 t2 t3 t4 t5 t6 y4x_0 ha hb hc hdd he f Ba Bb Bc Bd Be Bf zed y1_37 y1_38 y1_41 y1_42 y1_43 y1_44 y1_45 y1_46 y1_47 y1_48 rgX y1_52 P cP y4x_2 y4x_3 u0 u1 u2 u3 u4 u5 hPl y2x_2 y2x_3 y2x_6 y4x_4 y3x_0 y3x_1 WD y3x_2 y3x_3 W0 W1 W2 W3 W4 W5 y4x_5 y4x_6 XD y4x_7 y4x_8 X0 T0 X1 T1 X2 T2 X3 T3 X4 T4 X5 T5 y5_0 y5_1 g1 KD n' y7_0 hg1 k0 k1 k2 k3 k4 k5 y4x_9 y7_1 y5_2 y9x_0 FD y9x_1 y9x_2 p0 pt0 p1 pt1 p2 pt2 p3 pt3 p4 pt4 p5 pt5 y4x_10 y4x_11 y4x_14 y5_3 low lt y5_4 y5_5 y5_6 y5_9 y6_0 D1 y6_1 y6_2 y6_3 y7_2 y9x_3 y7_3 y7_4 y7_5 y7_6 y7_7 y7_8 j y8x_0 hj1 hj2 y7_11 y8x_1 g' y9x_4 hys hl y7_12 y7_13 y7_14 y8x_2 tM y8x_3 hj6 y7_16 R r0 r1 r2 r3 r4 r5 v0 v1 v2 v3 v4 v5 hF hr z1 z2 z3 z4 z5 y7_17 y7_18 y7_21 n1 H0 H1 H2 H3 H4 H5 g0 g1' g2 g3 g4 g5 eL hH hg' eX eT eS y10_0 tk' LD vL nL K1 A0 at0 au0 A1 at1 au1 A2 at2 au2 A3 at3 au3 A4 at4 au4 A5 at5 au5 n2 y8x_4 y10_1 y11_0 ws D2 y11_1 y11_2 B0 ta0 tb0 tc0 B1 ta1 tb1 tc1 B2 ta2 tb2 tc2 B3 ta3 tb3 tc3 B4 ta4 tb4 tc4 B5 ta5 tb5 tc5 Dd cd h' C0 C1 C2 C3 C4 C5 bb0 sa0 sb0 sc0 bb1 sa1 sb1 sc1 bb2 sa2 sb2 sc2 bb3 sa3 sb3 sc3 bb4 sa4 sb4 sc4 bb5 sa5 sb5 sc5 n3 mDd mC0 mC1 mC2 mC3 mC4 mC5 mR mP mD mc5 mc4 mc3 mc2 mc1 mLD mA0 mA1 mA2 mA3 mA4 mA5 y10_2 tk ys tups D3 h2 tk2 hA F' aD N'
    exact hT.out)⟩
set_option maxHeartbeats 200000000 in
noncomputable def lawP12 : PSigma (fun P : Prop => Hand P → lawP11.1) := ⟨_, fun hT => (by
  intro w s₀ s₁ mg mb G Y fa o pm doc ho hg KX X V GL T B TE TW y1_0 y1_1 M y1_2 y1_3 hcd y1_4 y1_5 y1_6 y1_7 y1_8 y1_9 y1_10 y1_11 y1_12 y1_13 y1_14 hL y1_15 y1_16 y1_17 y1_18 y1_19 y1_20 y1_21 K0 hD y1_22 y1_23 y1_24 y1_25 y1_26 y1_27 y1_28 y1_29 y1_30 y1_31 y1_32 y1_33 y1_35 y1_36 K0' y2x_0 y2x_1 D n a b c d e t1 t2 t3 t4 t5 t6 y4x_0 ha hb hc hdd he f Ba Bb Bc Bd Be Bf zed y1_37 y1_38 y1_41 y1_42 y1_43 y1_44 y1_45 y1_46 y1_47 y1_48 rgX y1_52 P cP y4x_2 y4x_3 u0 u1 u2 u3 u4 u5 hPl y2x_2 y2x_3 y2x_6 y4x_4 y3x_0 y3x_1 WD y3x_2 y3x_3 W0 W1 W2 W3 W4 W5 y4x_5 y4x_6 XD y4x_7 y4x_8 X0 T0 X1 T1 X2 T2 X3 T3 X4 T4 X5 T5 y5_0 y5_1 g1 KD n' y7_0 hg1 k0 k1 k2 k3 k4 k5 y4x_9 y7_1 y5_2 y9x_0 FD y9x_1 y9x_2 p0 pt0 p1 pt1 p2 pt2 p3 pt3 p4 pt4 p5 pt5 y4x_10 y4x_11 y4x_14 y5_3 low lt y5_4 y5_5 y5_6 y5_9 y6_0 D1 y6_1 y6_2 y6_3 y7_2 y9x_3 y7_3 y7_4 y7_5 y7_6 y7_7 y7_8 j y8x_0 hj1 hj2 y7_11 y8x_1 g' y9x_4 hys hl y7_12 y7_13 y7_14 y8x_2 tM y8x_3 hj6 y7_16 R r0 r1 r2 r3 r4 r5 v0 v1 v2 v3 v4 v5 hF hr z1 z2 z3 z4 z5 y7_17 y7_18 y7_21 n1 H0 H1 H2 H3 H4 H5 g0 g1' g2 g3 g4 g5 eL hH hg' eX eT eS y10_0 tk' LD vL nL K1 A0 at0 au0 A1 at1 au1 A2 at2 au2 A3 at3 au3 A4 at4 au4 A5 at5 au5 n2 y8x_4 y10_1 y11_0 ws D2 y11_1 y11_2 B0 ta0 tb0 tc0 B1 ta1 tb1 tc1 B2 ta2 tb2 tc2 B3 ta3 tb3 tc3 B4 ta4 tb4 tc4 B5 ta5 tb5 tc5 Dd cd h' C0 C1 C2 C3 C4 C5 bb0 sa0 sb0 sc0 bb1 sa1 sb1 sc1 bb2 sa2 sb2 sc2 bb3 sa3 sb3 sc3 bb4 sa4 sb4 sc4 bb5 sa5 sb5 sc5 n3 mDd mC0 mC1 mC2 mC3 mC4 mC5 mR mP mD mc5 mc4 mc3 mc2 mc1 mLD mA0 mA1 mA2 mA3 mA4 mA5 y10_2 tk ys tups D3 h2 tk2 hA F' aD N'
  have flA : FlA := .mk
  have flC : FlC := .mk
  refine compAS3 (n := 6) (PV := DueV [(H0, g0), (H1, g1'), (H2, g2), (H3, g3), (H4, g4), (H5, g5)]) (fun i ys => Are isInt ys ((List.map Prod.snd [(H0, g0), (H1, g1'), (H2, g2), (H3, g3), (H4, g4), (H5, g5)]).take i)) F' N' (by rfl) (by with_unfolding_all rfl) (by with_unfolding_all rfl) (by decide) (by rfl) (by decide) (by rfl) (by rfl) (by rfl) (by decide) (by decide) (by decide) (by rfl) (by rfl) rfl (Nat.le_of_ble_eq_true rfl) ?_ ⟨rfl, fun i a h => by simp at h⟩ ?_ ?_
  · k_steps
    unfold Halt
    exact dueSrc rfl F' N' (by k_mem) (by k_mem) (by k_mem) (by k_mem) (by k_mem) (by k_mem) (by k_mem) ⟨_, _, rfl⟩
  · rintro i x y z ys own Ca oC Dc m₂ h2 tk2 E' ⟨Hh, ht, bk, bt, gg, gt, rfl, rfl, rfl, hp⟩ hR hC hxa hxb hxc F' N'
    (try simp only [List.cons_append, List.nil_append] at N')
    k_steps
    exact EndS.intro F' N' (Are.snoc' hR (at_map hp) ⟨_, rfl⟩)
  · intro ys SW h2 tk2 hR hl F' N' aD
    refine ints_k (show Are isInt ys [g0, g1', g2, g3, g4, g5] from hR) fun w0 w1 w2 w3 w4 w5 hys => ?_
    subst hys
    clear hR hl
    k_steps
    unfold Halt
    have bst : ∀ x ∈ [a, b, c, d, e, f], -20 ≤ x ∧ x ≤ 20 := by
      simp only [List.forall_mem_cons]
      exact ⟨Ba, Bb, Bc, Bd, Be, Bf, fun _ h => nomatch h⟩
    refine' lines_call (st := [a, b, c, d, e, f]) (row := [g0, g1', g2, g3, g4, g5]) ?C ?d ?u ?l1 ?l2 ?l3 rfl ?l4 ?l5 bst eX ?_
    (case l1 => exact News.listAt (vs := [.int a t1, .int b t2, .int c t3, .int d t4, .int e t5, .int f t6]) N' (by k_mem))
    (case l2 => exact areI6)
    (case l3 => exact News.listAt N' (List.mem_cons_self ..))
    (case l4 => exact Nat.le_of_ble_eq_true rfl)
    (case l5 => exact lt6 hg')
    (case C => exact Cx.mk K0' F' KX T rfl); (case d => first | k_room | decide); (case u => first | k_units | decide)
    intro h' tk' LN vN nN K1 hf1 hD1 hLN
    have off := apart_none N' hf1
    replace N' := News.add F' N' K1 hf1 hD1
    replace F' := F'.keeps K1
    clear hf1 hD1
    try change wpAny _ _ _ _ _ _
    (try dsimp only)
    (try k_fold)
    
    k_steps
    unfold Halt
    (with_reducible rename Fr _ _ _ _ => F')
    (with_reducible rename News _ _ _ _ => N'); (try k_sweep)
    rename_i y12_0 y12_1 y12_2 y12_3 y12_4 y12_5 y12_6 y12_7
    clear ek qk
    clear flA
    clear flC
    revert w s₀ s₁ mg mb G Y fa o pm doc ho hg KX X V GL T B TE TW y1_0 y1_1 M y1_2 y1_3 hcd y1_4 y1_5 y1_6 y1_7 y1_8 y1_9 y1_10 y1_11 y1_12 y1_13 y1_14 hL y1_15 y1_16 y1_17 y1_18 y1_19 y1_20 y1_21 K0 hD y1_22 y1_23 y1_24 y1_25 y1_26 y1_27 y1_28 y1_29 y1_30 y1_31 y1_32 y1_33 y1_35 y1_36 K0' y2x_0 y2x_1 D n a b c d e t1 t2 t3 t4 t5 t6 y4x_0 ha hb hc hdd he f Ba Bb Bc Bd Be Bf zed y1_37 y1_38 y1_41 y1_42 y1_43 y1_44 y1_45 y1_46 y1_47 y1_48 rgX y1_52 P cP y4x_2 y4x_3 u0 u1 u2 u3 u4 u5 hPl y2x_2 y2x_3 y2x_6 y4x_4 y3x_0 y3x_1 WD y3x_2 y3x_3 W0 W1 W2 W3 W4 W5 y4x_5 y4x_6 XD y4x_7 y4x_8 X0 T0 X1 T1 X2 T2 X3 T3 X4 T4 X5 T5 y5_0 y5_1 g1 KD n' y7_0 hg1 k0 k1 k2 k3 k4 k5 y4x_9 y7_1 y5_2 y9x_0 FD y9x_1 y9x_2 p0 pt0 p1 pt1 p2 pt2 p3 pt3 p4 pt4 p5 pt5 y4x_10 y4x_11 y4x_14 y5_3 low lt y5_4 y5_5 y5_6 y5_9 y6_0 D1 y6_1 y6_2 y6_3 y7_2 y9x_3 y7_3 y7_4 y7_5 y7_6 y7_7 y7_8 j y8x_0 hj1 hj2 y7_11 y8x_1 g' y9x_4 hys hl y7_12 y7_13 y7_14 y8x_2 tM y8x_3 hj6 y7_16 R r0 r1 r2 r3 r4 r5 v0 v1 v2 v3 v4 v5 hF hr z1 z2 z3 z4 z5 y7_17 y7_18 y7_21 n1 H0 H1 H2 H3 H4 H5 g0 g1' g2 g3 g4 g5 eL hH hg' eX eT eS y10_0 y12_0 LD vL nL y12_1 A0 at0 au0 A1 at1 au1 A2 at2 au2 A3 at3 au3 A4 at4 au4 A5 at5 au5 n2 y8x_4 y10_1 y11_0 ws D2 y11_1 y11_2 B0 ta0 tb0 tc0 B1 ta1 tb1 tc1 B2 ta2 tb2 tc2 B3 ta3 tb3 tc3 B4 ta4 tb4 tc4 B5 ta5 tb5 tc5 Dd cd y12_2 C0 C1 C2 C3 C4 C5 bb0 sa0 sb0 sc0 bb1 sa1 sb1 sc1 bb2 sa2 sb2 sc2 bb3 sa3 sb3 sc3 bb4 sa4 sb4 sc4 bb5 sa5 sb5 sc5 n3 mDd mC0 mC1 mC2 mC3 mC4 mC5 mR mP mD mc5 mc4 mc3 mc2 mc1 mLD mA0 mA1 mA2 mA3 mA4 mA5 y10_2 y12_3 ys tups D3 y12_4 y12_5 hA y12_6 SW h2 tk2 aD w0 w1 w2 w3 w4 w5 bst h' tk' LN vN nN K1 hLN off y12_7 F' N' tk
    exact hT.out)⟩
set_option maxHeartbeats 200000000 in
noncomputable def lawP13 : PSigma (fun P : Prop => Hand P → lawP12.1) := ⟨_, fun hT => (by
  intro w s₀ s₁ mg mb G Y fa o pm doc ho hg KX X V GL T B TE TW y1_0 y1_1 M y1_2 y1_3 hcd y1_4 y1_5 y1_6 y1_7 y1_8 y1_9 y1_10 y1_11 y1_12 y1_13 y1_14 hL y1_15 y1_16 y1_17 y1_18 y1_19 y1_20 y1_21 K0 hD y1_22 y1_23 y1_24 y1_25 y1_26 y1_27 y1_28 y1_29 y1_30 y1_31 y1_32 y1_33 y1_35 y1_36 K0' y2x_0 y2x_1 D n a b c d e t1 t2 t3 t4 t5 t6 y4x_0 ha hb hc hdd he f Ba Bb Bc Bd Be Bf zed y1_37 y1_38 y1_41 y1_42 y1_43 y1_44 y1_45 y1_46 y1_47 y1_48 rgX y1_52 P cP y4x_2 y4x_3 u0 u1 u2 u3 u4 u5 hPl y2x_2 y2x_3 y2x_6 y4x_4 y3x_0 y3x_1 WD y3x_2 y3x_3 W0 W1 W2 W3 W4 W5 y4x_5 y4x_6 XD y4x_7 y4x_8 X0 T0 X1 T1 X2 T2 X3 T3 X4 T4 X5 T5 y5_0 y5_1 g1 KD n' y7_0 hg1 k0 k1 k2 k3 k4 k5 y4x_9 y7_1 y5_2 y9x_0 FD y9x_1 y9x_2 p0 pt0 p1 pt1 p2 pt2 p3 pt3 p4 pt4 p5 pt5 y4x_10 y4x_11 y4x_14 y5_3 low lt y5_4 y5_5 y5_6 y5_9 y6_0 D1 y6_1 y6_2 y6_3 y7_2 y9x_3 y7_3 y7_4 y7_5 y7_6 y7_7 y7_8 j y8x_0 hj1 hj2 y7_11 y8x_1 g' y9x_4 hys hl y7_12 y7_13 y7_14 y8x_2 tM y8x_3 hj6 y7_16 R r0 r1 r2 r3 r4 r5 v0 v1 v2 v3 v4 v5 hF hr z1 z2 z3 z4 z5 y7_17 y7_18 y7_21 n1 H0 H1 H2 H3 H4 H5 g0 g1' g2 g3 g4 g5 eL hH hg' eX eT eS y10_0 y12_0 LD vL nL y12_1 A0 at0 au0 A1 at1 au1 A2 at2 au2 A3 at3 au3 A4 at4 au4 A5 at5 au5 n2 y8x_4 y10_1 y11_0 ws D2 y11_1 y11_2 B0 ta0 tb0 tc0 B1 ta1 tb1 tc1 B2 ta2 tb2 tc2 B3 ta3 tb3 tc3 B4 ta4 tb4 tc4 B5 ta5 tb5 tc5 Dd cd y12_2 C0 C1 C2 C3 C4 C5 bb0 sa0 sb0 sc0 bb1 sa1 sb1 sc1 bb2 sa2 sb2 sc2 bb3 sa3 sb3 sc3 bb4 sa4 sb4 sc4 bb5 sa5 sb5 sc5 n3 mDd mC0 mC1 mC2 mC3 mC4 mC5 mR mP mD mc5 mc4 mc3 mc2 mc1 mLD mA0 mA1 mA2 mA3 mA4 mA5 y10_2 y12_3 ys tups D3 y12_4 y12_5 hA y12_6 SW h2 tk2 aD w0 w1 w2 w3 w4 w5 bst h' tk' LN vN nN K1 hLN off y12_7 F' N' tk
  have flA : FlA := .mk
  have flC : FlC := .mk
  refine compS3 (n := 6) (PV := DueV [(H0, g0), (H1, g1'), (H2, g2), (H3, g3), (H4, g4), (H5, g5)]) (fun i ys => Are isStr ys ((List.map (fun p : Int × Int => ln p.1.toNat) [(H0, g0), (H1, g1'), (H2, g2), (H3, g3), (H4, g4), (H5, g5)]).take i)) F' N' (by with_unfolding_all rfl) (by decide) (by rfl) (by decide) (by rfl) (by rfl) (by rfl) (by decide) (by decide) (by decide) rfl (Nat.le_of_ble_eq_true rfl) ?_ ⟨rfl, fun i a h => by simp at h⟩ ?_ ?_
  · k_steps
    unfold Halt
    exact dueSrc rfl F' N' (by k_mem) (by k_mem) (by k_mem) (by k_mem) (by k_mem) (by k_mem) (by k_mem) ⟨_, _, rfl⟩
  · rintro i x y z ys own Ca oC Dc m₂ h2 tk2 E' ⟨Hh, ht, bk, bt, gg, gt, rfl, rfl, rfl, hp⟩ hR hC hxa hxb hxc F' N'
    (try simp only [List.cons_append, List.nil_append] at N')
    have hb : 0 ≤ Hh ∧ Hh ≤ 200 := hH Hh (List.mem_of_getElem? (at_map (f := Prod.fst) hp))
    obtain ⟨hb0, hb1⟩ := hb
    k_steps
    rw [line_at]
    exact EndS.intro F' N' (Are.snoc' hR (at_map hp) ⟨_, rfl⟩)
  · intro ys D5 h2 tk2 hR hl F' N' aD
    k_steps
    unfold Halt
    refine ne_strs (xs := [H0.toNat, H1.toNat, H2.toNat, H3.toNat, H4.toNat, H5.toNat].map ln) (ys := [H0.toNat, H1.toNat, H2.toNat, H3.toNat, H4.toNat, H5.toNat].map ln) (News.listAt (vs := vN.toList) N' (.tail _ (.head _))) hLN (News.listAt (vs := ys) N' (.head _)) hR (strOk_lns _) (strOk_lns _) (by first | k_units | decide) ?_
    rw [lns_beq, decide_eq_true rfl, Bool.not_true]
    replace N' := News.tl N'
    k_steps
    unfold Halt
    refine' told_call (st := [a, b, c, d, e, f]) (row := [g0, g1', g2, g3, g4, g5]) (ls := [H0.toNat, H1.toNat, H2.toNat, H3.toNat, H4.toNat, H5.toNat]) (out := [r0, r1, r2, r3, r4, r5]) ?C ?d ?u ?l1 ?l2 ?l3 ?l4 ?l5 hLN ?l6 ?l7 ?l8 (laid_srt6 eL) ?l9 eT ?_
    (case l1 => exact News.listAt (vs := [.int a t1, .int b t2, .int c t3, .int d t4, .int e t5, .int f t6]) N' (by k_mem))
    (case l2 => exact areI6)
    (case l3 => exact News.listAt (vs := [.int g0 w0, .int g1' w1, .int g2 w2, .int g3 w3, .int g4 w4, .int g5 w5]) N' (.tail _ (.head _)))
    (case l4 => exact areI6)
    (case l5 => exact News.listAt (vs := vN.toList) N' (.head _))
    (case l6 => exact Nat.le_of_ble_eq_true rfl)
    (case l7 => exact Nat.le_of_ble_eq_true rfl)
    (case l8 => exact Nat.le_of_ble_eq_true rfl)
    (case l9 => exact lt6 hg')
    (case C => exact Cx.mk K0' F' KX T rfl); (case d => first | k_room | decide); (case u => first | k_units | decide)
    intro h' tk' TD vT nT K1 hf1 hD1 hTD
    have off := apart_none N' hf1
    replace N' := News.add F' N' K1 hf1 hD1
    replace F' := F'.keeps K1
    clear hf1 hD1
    try change wpAny _ _ _ _ _ _
    (try dsimp only)
    (try k_fold)
    
    k_steps
    unfold Halt
    (with_reducible rename Fr _ _ _ _ => F')
    (with_reducible rename News _ _ _ _ => N'); (try k_sweep)
    refine ne_ints6 (va := vT.toList) (vb := [.int r0 v0, .int r1 v1, .int r2 v2, .int r3 v3, .int r4 v4, .int r5 v5]) (News.listAt N' (.head _)) (News.listAt N' (by k_mem)) hTD areI6 (by first | k_units | decide) ?_
    replace N' := News.tl N'
    k_steps
    unfold Halt
    (with_reducible rename Fr _ _ _ _ => F')
    (with_reducible rename News _ _ _ _ => N'); (try k_sweep)
    rename_i y13_0 y13_1 y13_2 y13_3 y13_4 y13_5 y13_6 y13_7 y13_8
    clear ek qk
    clear flA
    clear flC
    revert w s₀ s₁ mg mb G Y fa o pm doc ho hg KX X V GL T B TE TW y1_0 y1_1 M y1_2 y1_3 hcd y1_4 y1_5 y1_6 y1_7 y1_8 y1_9 y1_10 y1_11 y1_12 y1_13 y1_14 hL y1_15 y1_16 y1_17 y1_18 y1_19 y1_20 y1_21 K0 hD y1_22 y1_23 y1_24 y1_25 y1_26 y1_27 y1_28 y1_29 y1_30 y1_31 y1_32 y1_33 y1_35 y1_36 K0' y2x_0 y2x_1 D n a b c d e t1 t2 t3 t4 t5 t6 y4x_0 ha hb hc hdd he f Ba Bb Bc Bd Be Bf zed y1_37 y1_38 y1_41 y1_42 y1_43 y1_44 y1_45 y1_46 y1_47 y1_48 rgX y1_52 P cP y4x_2 y4x_3 u0 u1 u2 u3 u4 u5 hPl y2x_2 y2x_3 y2x_6 y4x_4 y3x_0 y3x_1 WD y3x_2 y3x_3 W0 W1 W2 W3 W4 W5 y4x_5 y4x_6 XD y4x_7 y4x_8 X0 T0 X1 T1 X2 T2 X3 T3 X4 T4 X5 T5 y5_0 y5_1 g1 KD n' y7_0 hg1 k0 k1 k2 k3 k4 k5 y4x_9 y7_1 y5_2 y9x_0 FD y9x_1 y9x_2 p0 pt0 p1 pt1 p2 pt2 p3 pt3 p4 pt4 p5 pt5 y4x_10 y4x_11 y4x_14 y5_3 low lt y5_4 y5_5 y5_6 y5_9 y6_0 D1 y6_1 y6_2 y6_3 y7_2 y9x_3 y7_3 y7_4 y7_5 y7_6 y7_7 y7_8 j y8x_0 hj1 hj2 y7_11 y8x_1 g' y9x_4 hys y13_0 y7_12 y7_13 y7_14 y8x_2 tM y8x_3 hj6 y7_16 R r0 r1 r2 r3 r4 r5 v0 v1 v2 v3 v4 v5 hF hr z1 z2 z3 z4 z5 y7_17 y7_18 y7_21 n1 H0 H1 H2 H3 H4 H5 g0 g1' g2 g3 g4 g5 eL hH hg' eX eT eS y10_0 y12_0 LD vL nL y12_1 A0 at0 au0 A1 at1 au1 A2 at2 au2 A3 at3 au3 A4 at4 au4 A5 at5 au5 n2 y8x_4 y10_1 y11_0 ws D2 y11_1 y11_2 B0 ta0 tb0 tc0 B1 ta1 tb1 tc1 B2 ta2 tb2 tc2 B3 ta3 tb3 tc3 B4 ta4 tb4 tc4 B5 ta5 tb5 tc5 Dd cd y12_2 C0 C1 C2 C3 C4 C5 bb0 sa0 sb0 sc0 bb1 sa1 sb1 sc1 bb2 sa2 sb2 sc2 bb3 sa3 sb3 sc3 bb4 sa4 sb4 sc4 bb5 sa5 sb5 sc5 n3 mDd mC0 mC1 mC2 mC3 mC4 mC5 mR mP mD mc5 mc4 mc3 mc2 mc1 mLD mA0 mA1 mA2 mA3 mA4 mA5 y10_2 y12_3 y13_1 tups D3 y12_4 y12_5 hA y12_6 SW y13_2 y13_3 y13_4 w0 w1 w2 w3 w4 w5 bst y13_5 y13_6 LN vN nN y13_7 hLN y13_8 y12_7 tk ys D5 h2 tk2 hR hl aD h' tk' TD vT nT K1 hTD off F' N'
    exact hT.out)⟩
set_option maxHeartbeats 200000000 in
noncomputable def lawP14 : PSigma (fun P : Prop => Hand P → lawP13.1) := ⟨_, fun hT => (by
  intro w s₀ s₁ mg mb G Y fa o pm doc ho hg KX X V GL T B TE TW y1_0 y1_1 M y1_2 y1_3 hcd y1_4 y1_5 y1_6 y1_7 y1_8 y1_9 y1_10 y1_11 y1_12 y1_13 y1_14 hL y1_15 y1_16 y1_17 y1_18 y1_19 y1_20 y1_21 K0 hD y1_22 y1_23 y1_24 y1_25 y1_26 y1_27 y1_28 y1_29 y1_30 y1_31 y1_32 y1_33 y1_35 y1_36 K0' y2x_0 y2x_1 D n a b c d e t1 t2 t3 t4 t5 t6 y4x_0 ha hb hc hdd he f Ba Bb Bc Bd Be Bf zed y1_37 y1_38 y1_41 y1_42 y1_43 y1_44 y1_45 y1_46 y1_47 y1_48 rgX y1_52 P cP y4x_2 y4x_3 u0 u1 u2 u3 u4 u5 hPl y2x_2 y2x_3 y2x_6 y4x_4 y3x_0 y3x_1 WD y3x_2 y3x_3 W0 W1 W2 W3 W4 W5 y4x_5 y4x_6 XD y4x_7 y4x_8 X0 T0 X1 T1 X2 T2 X3 T3 X4 T4 X5 T5 y5_0 y5_1 g1 KD n' y7_0 hg1 k0 k1 k2 k3 k4 k5 y4x_9 y7_1 y5_2 y9x_0 FD y9x_1 y9x_2 p0 pt0 p1 pt1 p2 pt2 p3 pt3 p4 pt4 p5 pt5 y4x_10 y4x_11 y4x_14 y5_3 low lt y5_4 y5_5 y5_6 y5_9 y6_0 D1 y6_1 y6_2 y6_3 y7_2 y9x_3 y7_3 y7_4 y7_5 y7_6 y7_7 y7_8 j y8x_0 hj1 hj2 y7_11 y8x_1 g' y9x_4 hys y13_0 y7_12 y7_13 y7_14 y8x_2 tM y8x_3 hj6 y7_16 R r0 r1 r2 r3 r4 r5 v0 v1 v2 v3 v4 v5 hF hr z1 z2 z3 z4 z5 y7_17 y7_18 y7_21 n1 H0 H1 H2 H3 H4 H5 g0 g1' g2 g3 g4 g5 eL hH hg' eX eT eS y10_0 y12_0 LD vL nL y12_1 A0 at0 au0 A1 at1 au1 A2 at2 au2 A3 at3 au3 A4 at4 au4 A5 at5 au5 n2 y8x_4 y10_1 y11_0 ws D2 y11_1 y11_2 B0 ta0 tb0 tc0 B1 ta1 tb1 tc1 B2 ta2 tb2 tc2 B3 ta3 tb3 tc3 B4 ta4 tb4 tc4 B5 ta5 tb5 tc5 Dd cd y12_2 C0 C1 C2 C3 C4 C5 bb0 sa0 sb0 sc0 bb1 sa1 sb1 sc1 bb2 sa2 sb2 sc2 bb3 sa3 sb3 sc3 bb4 sa4 sb4 sc4 bb5 sa5 sb5 sc5 n3 mDd mC0 mC1 mC2 mC3 mC4 mC5 mR mP mD mc5 mc4 mc3 mc2 mc1 mLD mA0 mA1 mA2 mA3 mA4 mA5 y10_2 y12_3 y13_1 tups D3 y12_4 y12_5 hA y12_6 SW y13_2 y13_3 y13_4 w0 w1 w2 w3 w4 w5 bst y13_5 y13_6 LN vN nN y13_7 hLN y13_8 y12_7 tk ys D5 h2 tk2 hR hl aD h' tk' TD vT nT K1 hTD off F' N'
  have flA : FlA := .mk
  have flC : FlC := .mk
  have bst : ∀ x ∈ [a, b, c, d, e, f], -20 ≤ x ∧ x ≤ 20 := by
    simp only [List.forall_mem_cons]
    exact ⟨Ba, Bb, Bc, Bd, Be, Bf, fun _ h => nomatch h⟩
  refine hF.bwd fun m0 m1 m2 m3 m4 m5 q0 q1 q2 q3 q4 q5 Hk0 Hk1 Hk2 Hk3 Hk4 Hk5 eM eN hq eB eS2 hsr => ?_
  refine' lines_call (st := [a, b, c, d, e, f]) (row := [r0, r1, r2, r3, r4, r5]) ?C ?d ?u ?l1 ?l2 ?l3 rfl ?l4 ?l5 bst eM ?_
  (case l1 => exact News.listAt (vs := [.int a t1, .int b t2, .int c t3, .int d t4, .int e t5, .int f t6]) N' (by k_mem))
  (case l2 => exact areI6)
  (case l3 => exact News.listAt (vs := [.int r0 v0, .int r1 v1, .int r2 v2, .int r3 v3, .int r4 v4, .int r5 v5]) N' (by k_mem))
  (case l4 => exact Nat.le_of_ble_eq_true rfl)
  (case l5 => exact lt6 hr)
  (case C => exact Cx.mk K0' F' KX T rfl); (case d => first | k_room | decide); (case u => first | k_units | decide)
  intro h' tk' LM vM nM K1 hf1 hD1 hLM
  have off := apart_none N' hf1
  replace N' := News.add F' N' K1 hf1 hD1
  replace F' := F'.keeps K1
  clear hf1 hD1
  try change wpAny _ _ _ _ _ _
  (try dsimp only)
  (try k_fold)
  
  k_steps
  unfold Halt
  (with_reducible rename Fr _ _ _ _ => F')
  (with_reducible rename News _ _ _ _ => N'); (try k_sweep)
  refine' told_call (st := [a, b, c, d, e, f]) (row := [r0, r1, r2, r3, r4, r5]) (ls := [m0, m1, m2, m3, m4, m5]) (out := [q0, q1, q2, q3, q4, q5]) ?C ?d ?u ?l1 ?l2 ?l3 ?l4 ?l5 hLM ?l6 ?l7 ?l8 hsr ?l9 eN ?_
  (case l1 => exact News.listAt (vs := [.int a t1, .int b t2, .int c t3, .int d t4, .int e t5, .int f t6]) N' (by k_mem))
  (case l2 => exact areI6)
  (case l3 => exact News.listAt (vs := [.int r0 v0, .int r1 v1, .int r2 v2, .int r3 v3, .int r4 v4, .int r5 v5]) N' (by k_mem))
  (case l4 => exact areI6)
  (case l5 => exact News.listAt (vs := vM.toList) N' (.head _))
  (case l6 => exact Nat.le_of_ble_eq_true rfl)
  (case l7 => exact Nat.le_of_ble_eq_true rfl)
  (case l8 => exact Nat.le_of_ble_eq_true rfl)
  (case l9 => exact lt6 hr)
  (case C => exact Cx.mk K0' F' KX T rfl); (case d => first | k_room | decide); (case u => first | k_units | decide)
  intro h' tk' SD vS nS K1 hf1 hD1 hSD
  refine intsA_k hSD fun sk0 sk1 sk2 sk3 sk4 sk5 hvS => ?_
  subst hvS
  clear hSD
  have off := apart_none N' hf1
  replace N' := News.add F' N' K1 hf1 hD1
  replace F' := F'.keeps K1
  clear hf1 hD1
  try change wpAny _ _ _ _ _ _
  (try dsimp only)
  (try k_fold)
  
  k_steps
  unfold Halt
  (with_reducible rename Fr _ _ _ _ => F')
  (with_reducible rename News _ _ _ _ => N'); (try k_sweep)
  refine compAS2 (n := 6) (PV := PairV [(Hk0, r0), (Hk1, r1), (Hk2, r2), (Hk3, r3), (Hk4, r4), (Hk5, r5)]) (fun i ys => Are isInt ys ((List.map Prod.snd [(Hk0, r0), (Hk1, r1), (Hk2, r2), (Hk3, r3), (Hk4, r4), (Hk5, r5)]).take i)) F' N' (by rfl) (by with_unfolding_all rfl) (by with_unfolding_all rfl) (by decide) (by rfl) (by decide) (by rfl) (by rfl) (by decide) (by rfl) (by rfl) rfl (Nat.le_of_ble_eq_true rfl) ?_ ⟨rfl, fun i a h => by simp at h⟩ ?_ ?_
  · k_steps
    unfold Halt
    refine' sorted_call (st := [a, b, c, d, e, f]) (row := [q0, q1, q2, q3, q4, q5]) ?C ?d ?u ?l1 ?l2 ?l3 ?l4 ?l5 ?l6 ?l7 ?_
    (case l1 => exact News.listAt (vs := [.int a t1, .int b t2, .int c t3, .int d t4, .int e t5, .int f t6]) N' (by k_mem))
    (case l2 => exact areI6)
    (case l3 => exact News.listAt (vs := [.int q0 sk0, .int q1 sk1, .int q2 sk2, .int q3 sk3, .int q4 sk4, .int q5 sk5]) N' (by k_mem))
    (case l4 => exact areI6)
    (case l5 => exact Nat.le_of_ble_eq_true rfl)
    (case l6 => exact Nat.le_of_ble_eq_true rfl)
    (case l7 => exact lt6 hq)
    (case C => exact Cx.mk K0' F' KX T rfl); (case d => first | k_room | decide); (case u => first | k_units | decide)
    intro h' tk' LD2 vL2 nL2 KE hf1 hD1 hAL
    rw [eB] at hAL
    refine tupsE_k F' hAL fun E0 et0 eu0 E1 et1 eu1 E2 et2 eu2 E3 et3 eu3 E4 et4 eu4 E5 et5 eu5 hvL en0 eo0 en1 eo1 en2 eo2 en3 eo3 en4 eo4 en5 eo5 => ?_
    subst hvL
    k_steps
    unfold Halt
    exact pairSrc rfl (F'.keeps KE) (News.more N' KE) (ne_L F' hf1) hD1 en0 eo0 en1 eo1 en2 eo2 en3 eo3 en4 eo4 en5 eo5 ⟨_, _, rfl⟩
  · rintro i x y ys own Ca oC Dc m₂ h2 tk2 E' ⟨Hh, ht, gg, gt, rfl, rfl, hp⟩ hR hC hxa hxb F' N'
    (try simp only [List.cons_append, List.nil_append] at N')
    k_steps
    exact EndS.intro F' N' (Are.snoc' hR (at_map hp) ⟨_, rfl⟩)
  · intro ys AG h2 tk2 hAG hl F' N' aD
    k_steps
    unfold Halt
    (with_reducible rename Fr _ _ _ _ => F')
    (with_reducible rename News _ _ _ _ => N'); (try k_sweep)
    rename_i y14_0 y14_1 y14_2 y14_3 y14_4 y14_5 y14_6 y14_7 y14_8 y14_9 y14_10 y14_11 y14_12 y14_13 y14_14 y14_15 y14_16 y14_17
    clear ek qk y14_16 y14_15
    clear flA
    clear flC
    revert w s₀ s₁ mg mb G Y fa o pm doc ho hg KX X V GL T B TE TW y1_0 y1_1 M y1_2 y1_3 hcd y1_4 y1_5 y1_6 y1_7 y1_8 y1_9 y1_10 y1_11 y1_12 y1_13 y1_14 hL y1_15 y1_16 y1_17 y1_18 y1_19 y1_20 y1_21 K0 hD y1_22 y1_23 y1_24 y1_25 y1_26 y1_27 y1_28 y1_29 y1_30 y1_31 y1_32 y1_33 y1_35 y1_36 K0' y2x_0 y2x_1 D n a b c d e t1 t2 t3 t4 t5 t6 y4x_0 ha hb hc hdd he f Ba Bb Bc Bd Be Bf zed y1_37 y1_38 y1_41 y1_42 y1_43 y1_44 y1_45 y1_46 y1_47 y1_48 rgX y1_52 P cP y4x_2 y4x_3 u0 u1 u2 u3 u4 u5 hPl y2x_2 y2x_3 y2x_6 y4x_4 y3x_0 y3x_1 WD y3x_2 y3x_3 W0 W1 W2 W3 W4 W5 y4x_5 y4x_6 XD y4x_7 y4x_8 X0 T0 X1 T1 X2 T2 X3 T3 X4 T4 X5 T5 y5_0 y5_1 g1 KD n' y7_0 hg1 k0 k1 k2 k3 k4 k5 y4x_9 y7_1 y5_2 y9x_0 FD y9x_1 y9x_2 p0 pt0 p1 pt1 p2 pt2 p3 pt3 p4 pt4 p5 pt5 y4x_10 y4x_11 y4x_14 y5_3 low lt y5_4 y5_5 y5_6 y5_9 y6_0 D1 y6_1 y6_2 y6_3 y7_2 y9x_3 y7_3 y7_4 y7_5 y7_6 y7_7 y7_8 j y8x_0 hj1 hj2 y7_11 y8x_1 g' y9x_4 hys y13_0 y7_12 y7_13 y7_14 y8x_2 tM y8x_3 hj6 y7_16 R r0 r1 r2 r3 r4 r5 v0 v1 v2 v3 v4 v5 hF hr z1 z2 z3 z4 z5 y7_17 y7_18 y7_21 n1 H0 H1 H2 H3 H4 H5 g0 g1' g2 g3 g4 g5 eL hH hg' eX eT eS y10_0 y12_0 LD vL nL y12_1 A0 at0 au0 A1 at1 au1 A2 at2 au2 A3 at3 au3 A4 at4 au4 A5 at5 au5 n2 y8x_4 y10_1 y11_0 ws D2 y11_1 y11_2 B0 ta0 tb0 tc0 B1 ta1 tb1 tc1 B2 ta2 tb2 tc2 B3 ta3 tb3 tc3 B4 ta4 tb4 tc4 B5 ta5 tb5 tc5 Dd cd y12_2 C0 C1 C2 C3 C4 C5 bb0 sa0 sb0 sc0 bb1 sa1 sb1 sc1 bb2 sa2 sb2 sc2 bb3 sa3 sb3 sc3 bb4 sa4 sb4 sc4 bb5 sa5 sb5 sc5 n3 mDd mC0 mC1 mC2 mC3 mC4 mC5 mR mP mD mc5 mc4 mc3 mc2 mc1 mLD mA0 mA1 mA2 mA3 mA4 mA5 y10_2 y12_3 y13_1 tups D3 y12_4 y12_5 hA y12_6 SW y13_2 y13_3 y13_4 w0 w1 w2 w3 w4 w5 y14_0 y13_5 y13_6 LN vN nN y13_7 hLN y13_8 y12_7 y14_1 y14_2 D5 y14_3 y14_4 hR y14_5 y14_6 y14_7 y14_8 TD vT nT y14_9 hTD y14_10 bst m0 m1 m2 m3 m4 m5 q0 q1 q2 q3 q4 q5 Hk0 Hk1 Hk2 Hk3 Hk4 Hk5 eM eN hq eB eS2 hsr y14_11 y14_12 LM vM nM y14_13 hLM y14_14 h' tk' SD nS K1 sk0 sk1 sk2 sk3 sk4 sk5 off y14_17 tk ys AG h2 tk2 hAG hl F' N' aD
    exact hT.out)⟩
set_option maxHeartbeats 200000000 in
noncomputable def lawP15 : PSigma (fun P : Prop => Hand P → lawP14.1) := ⟨_, fun hT => (by
  intro w s₀ s₁ mg mb G Y fa o pm doc ho hg KX X V GL T B TE TW y1_0 y1_1 M y1_2 y1_3 hcd y1_4 y1_5 y1_6 y1_7 y1_8 y1_9 y1_10 y1_11 y1_12 y1_13 y1_14 hL y1_15 y1_16 y1_17 y1_18 y1_19 y1_20 y1_21 K0 hD y1_22 y1_23 y1_24 y1_25 y1_26 y1_27 y1_28 y1_29 y1_30 y1_31 y1_32 y1_33 y1_35 y1_36 K0' y2x_0 y2x_1 D n a b c d e t1 t2 t3 t4 t5 t6 y4x_0 ha hb hc hdd he f Ba Bb Bc Bd Be Bf zed y1_37 y1_38 y1_41 y1_42 y1_43 y1_44 y1_45 y1_46 y1_47 y1_48 rgX y1_52 P cP y4x_2 y4x_3 u0 u1 u2 u3 u4 u5 hPl y2x_2 y2x_3 y2x_6 y4x_4 y3x_0 y3x_1 WD y3x_2 y3x_3 W0 W1 W2 W3 W4 W5 y4x_5 y4x_6 XD y4x_7 y4x_8 X0 T0 X1 T1 X2 T2 X3 T3 X4 T4 X5 T5 y5_0 y5_1 g1 KD n' y7_0 hg1 k0 k1 k2 k3 k4 k5 y4x_9 y7_1 y5_2 y9x_0 FD y9x_1 y9x_2 p0 pt0 p1 pt1 p2 pt2 p3 pt3 p4 pt4 p5 pt5 y4x_10 y4x_11 y4x_14 y5_3 low lt y5_4 y5_5 y5_6 y5_9 y6_0 D1 y6_1 y6_2 y6_3 y7_2 y9x_3 y7_3 y7_4 y7_5 y7_6 y7_7 y7_8 j y8x_0 hj1 hj2 y7_11 y8x_1 g' y9x_4 hys y13_0 y7_12 y7_13 y7_14 y8x_2 tM y8x_3 hj6 y7_16 R r0 r1 r2 r3 r4 r5 v0 v1 v2 v3 v4 v5 hF hr z1 z2 z3 z4 z5 y7_17 y7_18 y7_21 n1 H0 H1 H2 H3 H4 H5 g0 g1' g2 g3 g4 g5 eL hH hg' eX eT eS y10_0 y12_0 LD vL nL y12_1 A0 at0 au0 A1 at1 au1 A2 at2 au2 A3 at3 au3 A4 at4 au4 A5 at5 au5 n2 y8x_4 y10_1 y11_0 ws D2 y11_1 y11_2 B0 ta0 tb0 tc0 B1 ta1 tb1 tc1 B2 ta2 tb2 tc2 B3 ta3 tb3 tc3 B4 ta4 tb4 tc4 B5 ta5 tb5 tc5 Dd cd y12_2 C0 C1 C2 C3 C4 C5 bb0 sa0 sb0 sc0 bb1 sa1 sb1 sc1 bb2 sa2 sb2 sc2 bb3 sa3 sb3 sc3 bb4 sa4 sb4 sc4 bb5 sa5 sb5 sc5 n3 mDd mC0 mC1 mC2 mC3 mC4 mC5 mR mP mD mc5 mc4 mc3 mc2 mc1 mLD mA0 mA1 mA2 mA3 mA4 mA5 y10_2 y12_3 y13_1 tups D3 y12_4 y12_5 hA y12_6 SW y13_2 y13_3 y13_4 w0 w1 w2 w3 w4 w5 y14_0 y13_5 y13_6 LN vN nN y13_7 hLN y13_8 y12_7 y14_1 y14_2 D5 y14_3 y14_4 hR y14_5 y14_6 y14_7 y14_8 TD vT nT y14_9 hTD y14_10 bst m0 m1 m2 m3 m4 m5 q0 q1 q2 q3 q4 q5 Hk0 Hk1 Hk2 Hk3 Hk4 Hk5 eM eN hq eB eS2 hsr y14_11 y14_12 LM vM nM y14_13 hLM y14_14 h' tk' SD nS K1 sk0 sk1 sk2 sk3 sk4 sk5 off y14_17 tk ys AG h2 tk2 hAG hl F' N' aD
  have flA : FlA := .mk
  have flC : FlC := .mk
  refine' text_call (xs := [[a, b, c, d, e, f].getD g0.toNat 0, [a, b, c, d, e, f].getD g1'.toNat 0, [a, b, c, d, e, f].getD g2.toNat 0, [a, b, c, d, e, f].getD g3.toNat 0, [a, b, c, d, e, f].getD g4.toNat 0, [a, b, c, d, e, f].getD g5.toNat 0]) ?C ?d ?u ?l1 ?l2 ?hp (Nat.le_of_ble_eq_true rfl) ?_
  (case l1 => exact News.listAt (vs := [.int a t1, .int b t2, .int c t3, .int d t4, .int e t5, .int f t6]) N' (by k_mem))
  (case l2 => exact News.listAt (vs := [.int g0 w0, .int g1' w1, .int g2 w2, .int g3 w3, .int g4 w4, .int g5 w5]) N' (by k_mem))
  (case hp => exact are_six (place_ok bst (hg' g0 (by simp))) (place_ok bst (hg' g1' (by simp))) (place_ok bst (hg' g2 (by simp))) (place_ok bst (hg' g3 (by simp))) (place_ok bst (hg' g4 (by simp))) (place_ok bst (hg' g5 (by simp))))
  (case C => exact Cx.mk K0' F' KX T rfl); (case d => first | k_room | decide); (case u => first | k_units | decide)
  intro h' tk' XA TA K1 hXA
  replace N' := News.more N' K1
  replace F' := F'.keeps K1
  clear K1
  try change wpAny _ _ _ _ _ _
  (try dsimp only)
  (try k_fold)
  k_steps
  unfold Halt
  (with_reducible rename Fr _ _ _ _ => F')
  (with_reducible rename News _ _ _ _ => N'); (try k_sweep)
  refine' text_call (xs := [[a, b, c, d, e, f].getD q0.toNat 0, [a, b, c, d, e, f].getD q1.toNat 0, [a, b, c, d, e, f].getD q2.toNat 0, [a, b, c, d, e, f].getD q3.toNat 0, [a, b, c, d, e, f].getD q4.toNat 0, [a, b, c, d, e, f].getD q5.toNat 0]) ?C ?d ?u ?l1 ?l2 ?hp (Nat.le_of_ble_eq_true rfl) ?_
  (case l1 => exact News.listAt (vs := [.int a t1, .int b t2, .int c t3, .int d t4, .int e t5, .int f t6]) N' (by k_mem))
  (case l2 => exact News.listAt (vs := [.int q0 sk0, .int q1 sk1, .int q2 sk2, .int q3 sk3, .int q4 sk4, .int q5 sk5]) N' (by k_mem))
  (case hp => exact are_six (place_ok bst (hq q0 (by simp))) (place_ok bst (hq q1 (by simp))) (place_ok bst (hq q2 (by simp))) (place_ok bst (hq q3 (by simp))) (place_ok bst (hq q4 (by simp))) (place_ok bst (hq q5 (by simp))))
  (case C => exact Cx.mk K0' F' KX T rfl); (case d => first | k_room | decide); (case u => first | k_units | decide)
  intro h' tk' XB TB K1 hXB
  replace N' := News.more N' K1
  replace F' := F'.keeps K1
  clear K1
  try change wpAny _ _ _ _ _ _
  (try dsimp only)
  (try k_fold)
  k_steps
  unfold Halt
  (with_reducible rename Fr _ _ _ _ => F')
  (with_reducible rename News _ _ _ _ => N'); (try k_sweep)
  refine eq_ints6 (va := ys) (vb := [.int r0 v0, .int r1 v1, .int r2 v2, .int r3 v3, .int r4 v4, .int r5 v5]) (News.listAt N' (by k_mem)) (News.listAt N' (by k_mem)) hAG areI6 (by first | k_units | decide) ?_
  k_steps
  unfold Halt
  (with_reducible rename Fr _ _ _ _ => F')
  (with_reducible rename News _ _ _ _ => N'); (try k_sweep)
  have PA : isPt XA := isPt_txt hXA (stp_bnd bst) (stp_bnd bst) (stp_bnd bst) (stp_bnd bst) (stp_bnd bst) (stp_bnd bst)
  have PB : isPt XB := isPt_txt hXB (stp_bnd bst) (stp_bnd bst) (stp_bnd bst) (stp_bnd bst) (stp_bnd bst) (stp_bnd bst)
  refine' pre_call (xs := [XA, XB]) ?C ?d ?u ?l1 ?l2 ?l3 ?l4 ?l5 ?_
  (case l1 => exact News.listAt (vs := [.str XA TA, .str XB TB]) N' (by k_mem))
  (case l2 => exact are2s)
  (case l3 => exact two_p PA PB)
  (case l4 => exact Nat.le_of_ble_eq_true rfl)
  (case l5 => exact hg1)
  (case C => exact Cx.mk K0' F' KX T rfl); (case d => first | k_room | decide); (case u => first | k_units | decide)
  intro h' tk' g2 KE vs2 n2 K1 hg2 hf1 hD1 hk2
  rw [show List.map sift [XA, XB] = [XA, XB] by rw [List.map_cons, List.map_cons, List.map_nil, sift_ok hXA eS, sift_ok hXB eS2]] at hk2
  have off := apart_none N' hf1
  replace N' := News.add F' N' K1 hf1 hD1
  replace F' := F'.keeps K1
  clear hf1 hD1
  try change wpAny _ _ _ _ _ _
  (try dsimp only)
  (try k_fold)
  
  k_steps
  unfold Halt
  (with_reducible rename Fr _ _ _ _ => F')
  (with_reducible rename News _ _ _ _ => N'); (try k_sweep)
  refine eq_strs (va := vs2.toList) (vb := [.str XA TA, .str XB TB]) (News.listAt N' (by k_mem)) hk2 (News.listAt N' (by k_mem)) are2s (two_p (strOk_pt2 PA) (strOk_pt2 PB)) (two_p (strOk_pt2 PA) (strOk_pt2 PB)) (by first | k_units | decide) ?_
  rw [beq_self_eq_true]
  k_steps
  rename_i y15_0 y15_1 y15_2 y15_3 y15_4 y15_5 y15_6 y15_7 y15_8 y15_9 y15_10 y15_11 y15_12 y15_13 y15_14 y15_15 y15_16 y15_17 y15_18
  clear ek qk y15_14 y15_13 y15_10 y15_9 y1_36 y1_35
  clear flA
  clear flC
  revert w s₀ s₁ mg mb G Y fa o pm doc ho hg KX X V GL T B TE TW y1_0 y1_1 M y1_2 y1_3 hcd y1_4 y1_5 y1_6 y1_7 y1_8 y1_9 y1_10 y1_11 y1_12 y1_13 y1_14 hL y1_15 y1_16 y1_17 y1_18 y1_19 y1_20 y1_21 K0 hD y1_22 y1_23 y1_24 y1_25 y1_26 y1_27 y1_28 y1_29 y1_30 y1_31 y1_32 y1_33 K0' y2x_0 y2x_1 D n a b c d e t1 t2 t3 t4 t5 t6 y4x_0 ha hb hc hdd he f Ba Bb Bc Bd Be Bf zed y1_37 y1_38 y1_41 y1_42 y1_43 y1_44 y1_45 y1_46 y1_47 y1_48 rgX y1_52 P cP y4x_2 y4x_3 u0 u1 u2 u3 u4 u5 hPl y2x_2 y2x_3 y2x_6 y4x_4 y3x_0 y3x_1 WD y3x_2 y3x_3 W0 W1 W2 W3 W4 W5 y4x_5 y4x_6 XD y4x_7 y4x_8 X0 T0 X1 T1 X2 T2 X3 T3 X4 T4 X5 T5 y5_0 y5_1 g1 KD n' y7_0 hg1 k0 k1 k2 k3 k4 k5 y4x_9 y7_1 y5_2 y9x_0 FD y9x_1 y9x_2 p0 pt0 p1 pt1 p2 pt2 p3 pt3 p4 pt4 p5 pt5 y4x_10 y4x_11 y4x_14 y5_3 low lt y5_4 y5_5 y5_6 y5_9 y6_0 D1 y6_1 y6_2 y6_3 y7_2 y9x_3 y7_3 y7_4 y7_5 y7_6 y7_7 y7_8 j y8x_0 hj1 hj2 y7_11 y8x_1 g' y9x_4 hys y13_0 y7_12 y7_13 y7_14 y8x_2 tM y8x_3 hj6 y7_16 R r0 r1 r2 r3 r4 r5 v0 v1 v2 v3 v4 v5 hF hr z1 z2 z3 z4 z5 y7_17 y7_18 y7_21 n1 H0 H1 H2 H3 H4 H5 g0 g1' y15_0 g3 g4 g5 eL hH hg' eX eT eS y10_0 y12_0 LD vL nL y12_1 A0 at0 au0 A1 at1 au1 A2 at2 au2 A3 at3 au3 A4 at4 au4 A5 at5 au5 y15_1 y8x_4 y10_1 y11_0 ws D2 y11_1 y11_2 B0 ta0 tb0 tc0 B1 ta1 tb1 tc1 B2 ta2 tb2 tc2 B3 ta3 tb3 tc3 B4 ta4 tb4 tc4 B5 ta5 tb5 tc5 Dd cd y12_2 C0 C1 C2 C3 C4 C5 bb0 sa0 sb0 sc0 bb1 sa1 sb1 sc1 bb2 sa2 sb2 sc2 bb3 sa3 sb3 sc3 bb4 sa4 sb4 sc4 bb5 sa5 sb5 sc5 n3 mDd mC0 mC1 mC2 mC3 mC4 mC5 mR mP mD mc5 mc4 mc3 mc2 mc1 mLD mA0 mA1 mA2 mA3 mA4 mA5 y10_2 y12_3 y13_1 tups D3 y12_4 y12_5 hA y12_6 SW y13_2 y13_3 y13_4 w0 w1 w2 w3 w4 w5 y14_0 y13_5 y13_6 LN vN nN y13_7 hLN y13_8 y12_7 y14_1 y14_2 D5 y14_3 y14_4 hR y14_5 y14_6 y14_7 y14_8 TD vT nT y14_9 hTD y14_10 bst m0 m1 m2 m3 m4 m5 q0 q1 q2 q3 q4 q5 Hk0 Hk1 Hk2 Hk3 Hk4 Hk5 eM eN hq eB eS2 hsr y14_11 y14_12 LM vM nM y14_13 hLM y14_14 y15_2 y15_3 SD nS y15_4 sk0 sk1 sk2 sk3 sk4 sk5 y15_5 y14_17 y15_6 ys AG h2 tk2 hAG hl aD y15_7 y15_8 XA TA hXA y15_11 y15_12 XB TB hXB y15_15 y15_16 y15_17 y15_18 tk PA PB h' tk' g2 KE vs2 n2 K1 hg2 hk2 off N' F'
  exact hT.out)⟩
set_option maxHeartbeats 200000000 in
theorem lawP16 : lawP15.1 := by
  intro w s₀ s₁ mg mb G Y fa o pm doc ho hg KX X V GL T B TE TW y1_0 y1_1 M y1_2 y1_3 hcd y1_4 y1_5 y1_6 y1_7 y1_8 y1_9 y1_10 y1_11 y1_12 y1_13 y1_14 hL y1_15 y1_16 y1_17 y1_18 y1_19 y1_20 y1_21 K0 hD y1_22 y1_23 y1_24 y1_25 y1_26 y1_27 y1_28 y1_29 y1_30 y1_31 y1_32 y1_33 K0' y2x_0 y2x_1 D n a b c d e t1 t2 t3 t4 t5 t6 y4x_0 ha hb hc hdd he f Ba Bb Bc Bd Be Bf zed y1_37 y1_38 y1_41 y1_42 y1_43 y1_44 y1_45 y1_46 y1_47 y1_48 rgX y1_52 P cP y4x_2 y4x_3 u0 u1 u2 u3 u4 u5 hPl y2x_2 y2x_3 y2x_6 y4x_4 y3x_0 y3x_1 WD y3x_2 y3x_3 W0 W1 W2 W3 W4 W5 y4x_5 y4x_6 XD y4x_7 y4x_8 X0 T0 X1 T1 X2 T2 X3 T3 X4 T4 X5 T5 y5_0 y5_1 g1 KD n' y7_0 hg1 k0 k1 k2 k3 k4 k5 y4x_9 y7_1 y5_2 y9x_0 FD y9x_1 y9x_2 p0 pt0 p1 pt1 p2 pt2 p3 pt3 p4 pt4 p5 pt5 y4x_10 y4x_11 y4x_14 y5_3 low lt y5_4 y5_5 y5_6 y5_9 y6_0 D1 y6_1 y6_2 y6_3 y7_2 y9x_3 y7_3 y7_4 y7_5 y7_6 y7_7 y7_8 j y8x_0 hj1 hj2 y7_11 y8x_1 g' y9x_4 hys y13_0 y7_12 y7_13 y7_14 y8x_2 tM y8x_3 hj6 y7_16 R r0 r1 r2 r3 r4 r5 v0 v1 v2 v3 v4 v5 hF hr z1 z2 z3 z4 z5 y7_17 y7_18 y7_21 n1 H0 H1 H2 H3 H4 H5 g0 g1' y15_0 g3 g4 g5 eL hH hg' eX eT eS y10_0 y12_0 LD vL nL y12_1 A0 at0 au0 A1 at1 au1 A2 at2 au2 A3 at3 au3 A4 at4 au4 A5 at5 au5 y15_1 y8x_4 y10_1 y11_0 ws D2 y11_1 y11_2 B0 ta0 tb0 tc0 B1 ta1 tb1 tc1 B2 ta2 tb2 tc2 B3 ta3 tb3 tc3 B4 ta4 tb4 tc4 B5 ta5 tb5 tc5 Dd cd y12_2 C0 C1 C2 C3 C4 C5 bb0 sa0 sb0 sc0 bb1 sa1 sb1 sc1 bb2 sa2 sb2 sc2 bb3 sa3 sb3 sc3 bb4 sa4 sb4 sc4 bb5 sa5 sb5 sc5 n3 mDd mC0 mC1 mC2 mC3 mC4 mC5 mR mP mD mc5 mc4 mc3 mc2 mc1 mLD mA0 mA1 mA2 mA3 mA4 mA5 y10_2 y12_3 y13_1 tups D3 y12_4 y12_5 hA y12_6 SW y13_2 y13_3 y13_4 w0 w1 w2 w3 w4 w5 y14_0 y13_5 y13_6 LN vN nN y13_7 hLN y13_8 y12_7 y14_1 y14_2 D5 y14_3 y14_4 hR y14_5 y14_6 y14_7 y14_8 TD vT nT y14_9 hTD y14_10 bst m0 m1 m2 m3 m4 m5 q0 q1 q2 q3 q4 q5 Hk0 Hk1 Hk2 Hk3 Hk4 Hk5 eM eN hq eB eS2 hsr y14_11 y14_12 LM vM nM y14_13 hLM y14_14 y15_2 y15_3 SD nS y15_4 sk0 sk1 sk2 sk3 sk4 sk5 y15_5 y14_17 y15_6 ys AG h2 tk2 hAG hl aD y15_7 y15_8 XA TA hXA y15_11 y15_12 XB TB hXB y15_15 y15_16 y15_17 y15_18 tk PA PB h' tk' g2 KE vs2 n2 K1 hg2 hk2 off N' F'
  have flA : FlA := .mk
  have flC : FlC := .mk
  refine ⟨(goodW_bool (s' := { heap := h', gens := #[], drawn := s₁.drawn, toks := tk', os := s₁.os }) F' rfl (raisesW_false ?_) ?_).1, .of_keep F'.keep, rfl, hg2⟩
  · wrow_none_raised
  · wrow_post
theorem law_holds : PySem.Challenge.rw_wu0074_01.Holds := (lawP1.2 ⟨(lawP2.2 ⟨(lawP3.2 ⟨(lawP4.2 ⟨(lawP5.2 ⟨(lawP6.2 ⟨(lawP7.2 ⟨(lawP8.2 ⟨(lawP9.2 ⟨(lawP10.2 ⟨(lawP11.2 ⟨(lawP12.2 ⟨(lawP13.2 ⟨(lawP14.2 ⟨(lawP15.2 ⟨lawP16⟩)⟩)⟩)⟩)⟩)⟩)⟩)⟩)⟩)⟩)⟩)⟩)⟩)⟩)⟩)
end Mine
theorem PySem.Challenge.cw_wu0074_01_holds : PySem.Challenge.rw_wu0074_01.Holds :=
  Mine.law_holds
