import PyProof.Rows.All
import Wide.All
import OpenK.AllK
import Wide.FinOn
import Lean
import PySem.Challenge.RW_mq0199_01

/-! part Head -/
open PySem PySem.W PyProof.Rows
set_option Elab.async false
set_option maxRecDepth 100000
set_option maxHeartbeats 8000000
namespace Mine
open_top hd for PySem.Challenge.rw_mq0199_01
end Mine

/-! part Base -/
open PySem PySem.W PySem.Calls PyProof.Rows
set_option Elab.async false
set_option maxRecDepth 100000
namespace Mine

abbrev TopM (mean : ExcName → Option Value) (mg mb : Str → Option Value) (h : Heap) : Prop := Top hd.view_39 (looseW hd.view_39 []) mean mg mb h

/-- a fixed Around: nothing is handled, so many frames and units at most -/
abbrev lvl (d : Nat) : Around := { handled := none, depth := d, frames := none, guards := none, units := d }

theorem lvl_le {α : Type} {M : Model} {A : Around} {d : Nat} {t : Sem α} {Q : α → Shared → Prop} {E : Value → Shared → Prop} {s : Shared}
    (h : wpAny M (lvl d) t Q E s) (hh : A.handled = none) (hd : A.depth ≤ d) (hu : A.units ≤ d) : wpAny M A t Q E s :=
  fun Γ p hΓ => h Γ p ⟨hΓ.1.trans hh, Nat.le_trans hΓ.2.1 hd, fun _ e => (by cases e), fun _ e => (by cases e), Nat.le_trans hΓ.2.2.2.2 hu⟩

def Grown (h h' : Heap) : Prop := ∀ b o, h.get? b = some o → h'.get? b = some o
def Fresh (h h' : Heap) (tl : List (Addr × Obj)) : Prop := ∀ p ∈ tl, h'.get? p.1 = some p.2 ∧ h.get? p.1 = none

theorem Grown.refl (h : Heap) : Grown h h := fun _ _ e => e
theorem Grown.trans {a b c : Heap} (x : Grown a b) (y : Grown b c) : Grown a c := fun _ _ e => y _ _ (x _ _ e)
theorem Fresh.nil {h h' : Heap} : Fresh h h' [] := fun _ hp => nomatch hp

theorem grown_fr {h₀ h h' : Heap} {L : Addr} {m : Str → Option Value} (F : Fr h₀ L h m) (g : Grown h h') : Fr h₀ L h' m := F.keeps g
theorem grown_news {h₀ h h' : Heap} {L : Addr} {m : Str → Option Value} {news tl : List (Addr × Obj)} (F : Fr h₀ L h m) (N : News h₀ L h news) (g : Grown h h') (f : Fresh h h' tl) : News h₀ L h' (tl ++ news) := by
  intro p hp
  rcases List.mem_append.mp hp with hp | hp
  · obtain ⟨h1, h2⟩ := f p hp
    refine ⟨h1, fun e => ?_, ?_⟩
    · obtain ⟨o, _, _, ho, _⟩ := F.ns
      rw [e, ho] at h2; cases h2
    · cases e : h₀.get? p.1 with
      | none => rfl
      | some o => rw [F.keep _ _ e] at h2; cases h2
  · exact ⟨g _ _ (N p hp).1, (N p hp).2⟩
theorem fresh_ne {h₀ h h' : Heap} {L : Addr} {news tl : List (Addr × Obj)} (N : News h₀ L h news) (f : Fresh h h' tl) : ∀ q ∈ news, ∀ p ∈ tl, q.1 ≠ p.1 :=
  fun q hq p hp e => by
    have h1 := (N q hq).1
    rw [e, (f p hp).2] at h1
    cases h1
/-- what a frame's ledger says of the heap that it began with -/
theorem fresh_of_news {h₀ h : Heap} {L : Addr} {news : List (Addr × Obj)} (N : News h₀ L h news) : Fresh h₀ h news := fun p hp => ⟨(N p hp).1, (N p hp).2.2⟩

section
variable {prog : Program} {w : World} {A : Around} {E : Value → Shared → Prop} {s : Shared} {mean : ExcName → Option Value} {mg mb : Str → Option Value} {Q : Value → Shared → Prop}

theorem enter {name qual : Str} {params : Arguments} {body : List Stmt} {scope : Scope} {dV kV doc pm cdv ct oc : Value} {an od : Option Addr} {osl : Array (Option Value)} {f : Addr} {vs : List Value} {binds : List (Str × Value)}
    (X : (hd.heap_39 w.params).In s.heap) (T : TopM mean mg mb s.heap)
    (ho : (hd.heap_39 w.params).lookup f = some ⟨oc, od, .func (fnOf name qual params body scope dV kV doc pm an cdv ct), osl⟩) (hcd : codeIn (hd.heap_39 w.params) cdv qual = true) (hroom : A.depth < recursionLimit)
    (hbind : BindsTo s (fnOf name qual params body scope dV kV doc pm an cdv ct) ⟨vs, []⟩ binds) (hloc : ∀ y ∈ binds, scope.names.lookup y.1 = some .local)
    (h : ∀ L h₁, L = s.heap.objs.size → Fr s.heap L h₁ (fun y => binds.reverse.lookup y) → News s.heap L h₁ [] →
      wpAny (model prog w) (A.deeper (envOf qual scope L f cdv)) (execs body (envOf qual scope L f cdv))
        (fun fl s' => Q (match fl with | .ret v => v | _ => .none) s') (fun _ _ => False)
        { s with heap := h₁, toks := s.toks + binds.length })
    (hco : scope.isCoroutine = false) (hgen : scope.isGenerator = false) (hk : scope.kind = .function)
    (hcell : ∀ x ∈ scope.names, x.2 ≠ .cell) : wpAny (model prog w) A (call (.ref f) vs) Q E s := by
  refine wpAny_call (codeAny_call_def (fd := fnOf name qual params body scope dV kV doc pm an cdv ct) (body := body) (binds := binds) hroom (X _ _ ho) rfl T.nolimit (codeRec_of X hcd) rfl hbind hcell hloc (fun h₁ hns hk₁ => ?_) hco hgen hk)
  exact wpAny_mono (h _ h₁ rfl ⟨hns, hk₁, Nat.le_refl _⟩ News.nil) (fun _ _ x => x) fun _ _ x => x.elim
end
end Mine

/-! part CL -/
open PySem PySem.W PySem.Calls PyProof.Rows
set_option Elab.async false
set_option maxRecDepth 100000
set_option maxHeartbeats 8000000
namespace Mine
theorem fill : PySem.Challenge.rw_mq0199_01 = PySem.Challenge.rw_mq0199_01 ∧ hd.heap_39 = hd.heap_39 := by
  k_fill
  exact ⟨rfl, rfl⟩
section
variable {prog : Program} {w : World} {E : Value → Shared → Prop} {s : Shared} {mean : ExcName → Option Value} {mg mb : Str → Option Value} {Q : Value → Shared → Prop}

def commentLine (x : Str) : Str := if (Txt.rstrip x).length = 0 then Str.ofString "#" else Str.ofString "# " ++ Txt.rstrip x

theorem commentLine_spec {x : Str} {t : Tok} (X : (hd.heap_39 w.params).In s.heap) (T : TopM mean mg mb s.heap) (hx : x.length ≤ 1000000)
    (h : ∀ t' h' tk', Grown s.heap h' → Q (.str (commentLine x) t') { s with heap := h', toks := tk' }) :
    wpAny (model prog w) (lvl 400) (call (.ref 28) [.str x t]) Q E s := by
  refine' enter X T ?ho ?hcd ?hroom ?hbind ?hloc ?h ?c1 ?c2 ?c3 ?c4
  case ho => k_is
  case hcd => k_is
  case hroom => decide
  case hbind => exact BindsTo.of_eq rfl
  case hloc => exact locs rfl
  case c1 => rfl
  case c2 => rfl
  case c3 => rfl
  case c4 => decide
  intro L h₁ hL F N
  try dsimp only
  k_fold
  k_steps
  · rename Fr _ _ _ _ => FF
    have e : commentLine x = Str.ofString "# " ++ Txt.rstrip x := by unfold commentLine; rw [if_neg (by omega)]
    rw [e] at h
    exact h _ _ _ FF.keep
  · rename Fr _ _ _ _ => FF
    have e : commentLine x = Str.ofString "#" := by unfold commentLine; rw [if_pos (by omega)]
    rw [e] at h
    exact h _ _ _ FF.keep
end
end Mine

/-! part LW -/
open PySem PySem.W PySem.Calls PyProof.Rows
set_option Elab.async false
set_option maxRecDepth 100000
set_option maxHeartbeats 8000000
namespace Mine
theorem fill2 : PySem.Challenge.rw_mq0199_01 = PySem.Challenge.rw_mq0199_01 ∧ hd.heap_39 = hd.heap_39 := by
  k_fill
  exact ⟨rfl, rfl⟩
def words5 : List Str := [Str.ofString "", Str.ofString "a", Str.ofString "ba", Str.ofString "ab", Str.ofString "bab"]
def pats5 : List Str := [Str.ofString "...", Str.ofString "a...", Str.ofString "...b", Str.ofString "ab", Str.ofString "b...a..."]
def signs5 : List Str := [Str.ofString "", Str.ofString "=", Str.ofString ",", Str.ofString "\"", Str.ofString "\\"]
def lawWord (n : Int) : Str := words5.getD (n.fmod 5).toNat Str.empty
def lawPat (m : Int) : Str := pats5.getD (m.fmod 5).toNat Str.empty
def lawVerd (m : Int) : Str := signs5.getD ((m.fdiv 5).fmod 5).toNat Str.empty ++ signs5.getD ((m.fdiv 25).fmod 5).toNat Str.empty
section
variable {prog : Program} {w : World} {E : Value → Shared → Prop} {s : Shared} {mean : ExcName → Option Value} {mg mb : Str → Option Value} {Q : Value → Shared → Prop}

theorem lawWord_spec {n : Int} {t : Tok} (X : (hd.heap_39 w.params).In s.heap) (T : TopM mean mg mb s.heap)
    (h : ∀ t' h' tk', Grown s.heap h' → Q (.str (lawWord n) t') { s with heap := h', toks := tk' }) :
    wpAny (model prog w) (lvl 400) (call (.ref 47) [.int n t]) Q E s := by
  refine' enter X T ?ho ?hcd ?hroom ?hbind ?hloc ?h ?c1 ?c2 ?c3 ?c4
  case ho => k_is
  case hcd => k_is
  case hroom => decide
  case hbind => exact BindsTo.of_eq rfl
  case hloc => exact locs rfl
  case c1 => rfl
  case c2 => rfl
  case c3 => rfl
  case c4 => decide
  intro L h₁ hL F N
  try dsimp only
  k_fold
  k_with "table" => skip
  k_steps
  rename Fr _ _ _ _ => FF
  exact h _ _ _ FF.keep

theorem lawRule_spec {n : Int} {t : Tok} (X : (hd.heap_39 w.params).In s.heap) (T : TopM mean mg mb s.heap)
    (h : ∀ a t1 t2 h' tk', Grown s.heap h' → Fresh s.heap h' [(a, W.listOf #[.str (lawPat n) t1, .str (lawVerd n) t2] 0)] → Q (.ref a) { s with heap := h', toks := tk' }) :
    wpAny (model prog w) (lvl 400) (call (.ref 54) [.int n t]) Q E s := by
  refine' enter X T ?ho ?hcd ?hroom ?hbind ?hloc ?h ?c1 ?c2 ?c3 ?c4
  case ho => k_is
  case hcd => k_is
  case hroom => decide
  case hbind => exact BindsTo.of_eq rfl
  case hloc => exact locs rfl
  case c1 => rfl
  case c2 => rfl
  case c3 => rfl
  case c4 => decide
  intro L h₁ hL F N
  try dsimp only
  k_fold
  k_with "table" => skip
  k_steps
  rename Fr _ _ _ _ => FF
  rename News _ _ _ _ => NN
  exact h _ _ _ _ _ FF.keep (fun p hp => fresh_of_news NN p (by cases hp with | head => exact .head _ | tail _ h => cases h))
end
end Mine

/-! part Sup -/
open PySem PySem.W PySem.Calls PyProof.Rows
set_option Elab.async false
set_option maxRecDepth 100000
set_option maxHeartbeats 8000000
namespace Mine

section
variable {h₀ h h' : Heap} {L a : Addr} {m : Str → Option Value} {news : List (Addr × Obj)}
theorem fr_name1 {x1 : Str} {v1 : Value} (F : Fr h₀ L h m) (e1 : m x1 = some v1) : Fr h₀ L h (fun y => if y = x1 then some v1 else m y) := by
  have : (fun y => if y = x1 then some v1 else m y) = m := by
    funext y
    by_cases h1 : y = x1
    · rw [if_pos h1, h1, e1]
    rw [if_neg h1]
  rw [this]; exact F
theorem fr_name2 {x1 x2 : Str} {v1 v2 : Value} (F : Fr h₀ L h m) (e1 : m x1 = some v1) (e2 : m x2 = some v2) : Fr h₀ L h (fun y => if y = x1 then some v1 else if y = x2 then some v2 else m y) := by
  have : (fun y => if y = x1 then some v1 else if y = x2 then some v2 else m y) = m := by
    funext y
    by_cases h1 : y = x1
    · rw [if_pos h1, h1, e1]
    rw [if_neg h1]
    by_cases h2 : y = x2
    · rw [if_pos h2, h2, e2]
    rw [if_neg h2]
  rw [this]; exact F
theorem fr_name3 {x1 x2 x3 : Str} {v1 v2 v3 : Value} (F : Fr h₀ L h m) (e1 : m x1 = some v1) (e2 : m x2 = some v2) (e3 : m x3 = some v3) : Fr h₀ L h (fun y => if y = x1 then some v1 else if y = x2 then some v2 else if y = x3 then some v3 else m y) := by
  have : (fun y => if y = x1 then some v1 else if y = x2 then some v2 else if y = x3 then some v3 else m y) = m := by
    funext y
    by_cases h1 : y = x1
    · rw [if_pos h1, h1, e1]
    rw [if_neg h1]
    by_cases h2 : y = x2
    · rw [if_pos h2, h2, e2]
    rw [if_neg h2]
    by_cases h3 : y = x3
    · rw [if_pos h3, h3, e3]
    rw [if_neg h3]
  rw [this]; exact F
theorem fr_name4 {x1 x2 x3 x4 : Str} {v1 v2 v3 v4 : Value} (F : Fr h₀ L h m) (e1 : m x1 = some v1) (e2 : m x2 = some v2) (e3 : m x3 = some v3) (e4 : m x4 = some v4) : Fr h₀ L h (fun y => if y = x1 then some v1 else if y = x2 then some v2 else if y = x3 then some v3 else if y = x4 then some v4 else m y) := by
  have : (fun y => if y = x1 then some v1 else if y = x2 then some v2 else if y = x3 then some v3 else if y = x4 then some v4 else m y) = m := by
    funext y
    by_cases h1 : y = x1
    · rw [if_pos h1, h1, e1]
    rw [if_neg h1]
    by_cases h2 : y = x2
    · rw [if_pos h2, h2, e2]
    rw [if_neg h2]
    by_cases h3 : y = x3
    · rw [if_pos h3, h3, e3]
    rw [if_neg h3]
    by_cases h4 : y = x4
    · rw [if_pos h4, h4, e4]
    rw [if_neg h4]
  rw [this]; exact F
theorem fr_name5 {x1 x2 x3 x4 x5 : Str} {v1 v2 v3 v4 v5 : Value} (F : Fr h₀ L h m) (e1 : m x1 = some v1) (e2 : m x2 = some v2) (e3 : m x3 = some v3) (e4 : m x4 = some v4) (e5 : m x5 = some v5) : Fr h₀ L h (fun y => if y = x1 then some v1 else if y = x2 then some v2 else if y = x3 then some v3 else if y = x4 then some v4 else if y = x5 then some v5 else m y) := by
  have : (fun y => if y = x1 then some v1 else if y = x2 then some v2 else if y = x3 then some v3 else if y = x4 then some v4 else if y = x5 then some v5 else m y) = m := by
    funext y
    by_cases h1 : y = x1
    · rw [if_pos h1, h1, e1]
    rw [if_neg h1]
    by_cases h2 : y = x2
    · rw [if_pos h2, h2, e2]
    rw [if_neg h2]
    by_cases h3 : y = x3
    · rw [if_pos h3, h3, e3]
    rw [if_neg h3]
    by_cases h4 : y = x4
    · rw [if_pos h4, h4, e4]
    rw [if_neg h4]
    by_cases h5 : y = x5
    · rw [if_pos h5, h5, e5]
    rw [if_neg h5]
  rw [this]; exact F
theorem fr_name6 {x1 x2 x3 x4 x5 x6 : Str} {v1 v2 v3 v4 v5 v6 : Value} (F : Fr h₀ L h m) (e1 : m x1 = some v1) (e2 : m x2 = some v2) (e3 : m x3 = some v3) (e4 : m x4 = some v4) (e5 : m x5 = some v5) (e6 : m x6 = some v6) : Fr h₀ L h (fun y => if y = x1 then some v1 else if y = x2 then some v2 else if y = x3 then some v3 else if y = x4 then some v4 else if y = x5 then some v5 else if y = x6 then some v6 else m y) := by
  have : (fun y => if y = x1 then some v1 else if y = x2 then some v2 else if y = x3 then some v3 else if y = x4 then some v4 else if y = x5 then some v5 else if y = x6 then some v6 else m y) = m := by
    funext y
    by_cases h1 : y = x1
    · rw [if_pos h1, h1, e1]
    rw [if_neg h1]
    by_cases h2 : y = x2
    · rw [if_pos h2, h2, e2]
    rw [if_neg h2]
    by_cases h3 : y = x3
    · rw [if_pos h3, h3, e3]
    rw [if_neg h3]
    by_cases h4 : y = x4
    · rw [if_pos h4, h4, e4]
    rw [if_neg h4]
    by_cases h5 : y = x5
    · rw [if_pos h5, h5, e5]
    rw [if_neg h5]
    by_cases h6 : y = x6
    · rw [if_pos h6, h6, e6]
    rw [if_neg h6]
  rw [this]; exact F
theorem fr_name7 {x1 x2 x3 x4 x5 x6 x7 : Str} {v1 v2 v3 v4 v5 v6 v7 : Value} (F : Fr h₀ L h m) (e1 : m x1 = some v1) (e2 : m x2 = some v2) (e3 : m x3 = some v3) (e4 : m x4 = some v4) (e5 : m x5 = some v5) (e6 : m x6 = some v6) (e7 : m x7 = some v7) : Fr h₀ L h (fun y => if y = x1 then some v1 else if y = x2 then some v2 else if y = x3 then some v3 else if y = x4 then some v4 else if y = x5 then some v5 else if y = x6 then some v6 else if y = x7 then some v7 else m y) := by
  have : (fun y => if y = x1 then some v1 else if y = x2 then some v2 else if y = x3 then some v3 else if y = x4 then some v4 else if y = x5 then some v5 else if y = x6 then some v6 else if y = x7 then some v7 else m y) = m := by
    funext y
    by_cases h1 : y = x1
    · rw [if_pos h1, h1, e1]
    rw [if_neg h1]
    by_cases h2 : y = x2
    · rw [if_pos h2, h2, e2]
    rw [if_neg h2]
    by_cases h3 : y = x3
    · rw [if_pos h3, h3, e3]
    rw [if_neg h3]
    by_cases h4 : y = x4
    · rw [if_pos h4, h4, e4]
    rw [if_neg h4]
    by_cases h5 : y = x5
    · rw [if_pos h5, h5, e5]
    rw [if_neg h5]
    by_cases h6 : y = x6
    · rw [if_pos h6, h6, e6]
    rw [if_neg h6]
    by_cases h7 : y = x7
    · rw [if_pos h7, h7, e7]
    rw [if_neg h7]
  rw [this]; exact F
theorem fr_name8 {x1 x2 x3 x4 x5 x6 x7 x8 : Str} {v1 v2 v3 v4 v5 v6 v7 v8 : Value} (F : Fr h₀ L h m) (e1 : m x1 = some v1) (e2 : m x2 = some v2) (e3 : m x3 = some v3) (e4 : m x4 = some v4) (e5 : m x5 = some v5) (e6 : m x6 = some v6) (e7 : m x7 = some v7) (e8 : m x8 = some v8) : Fr h₀ L h (fun y => if y = x1 then some v1 else if y = x2 then some v2 else if y = x3 then some v3 else if y = x4 then some v4 else if y = x5 then some v5 else if y = x6 then some v6 else if y = x7 then some v7 else if y = x8 then some v8 else m y) := by
  have : (fun y => if y = x1 then some v1 else if y = x2 then some v2 else if y = x3 then some v3 else if y = x4 then some v4 else if y = x5 then some v5 else if y = x6 then some v6 else if y = x7 then some v7 else if y = x8 then some v8 else m y) = m := by
    funext y
    by_cases h1 : y = x1
    · rw [if_pos h1, h1, e1]
    rw [if_neg h1]
    by_cases h2 : y = x2
    · rw [if_pos h2, h2, e2]
    rw [if_neg h2]
    by_cases h3 : y = x3
    · rw [if_pos h3, h3, e3]
    rw [if_neg h3]
    by_cases h4 : y = x4
    · rw [if_pos h4, h4, e4]
    rw [if_neg h4]
    by_cases h5 : y = x5
    · rw [if_pos h5, h5, e5]
    rw [if_neg h5]
    by_cases h6 : y = x6
    · rw [if_pos h6, h6, e6]
    rw [if_neg h6]
    by_cases h7 : y = x7
    · rw [if_pos h7, h7, e7]
    rw [if_neg h7]
    by_cases h8 : y = x8
    · rw [if_pos h8, h8, e8]
    rw [if_neg h8]
  rw [this]; exact F
theorem fr_name9 {x1 x2 x3 x4 x5 x6 x7 x8 x9 : Str} {v1 v2 v3 v4 v5 v6 v7 v8 v9 : Value} (F : Fr h₀ L h m) (e1 : m x1 = some v1) (e2 : m x2 = some v2) (e3 : m x3 = some v3) (e4 : m x4 = some v4) (e5 : m x5 = some v5) (e6 : m x6 = some v6) (e7 : m x7 = some v7) (e8 : m x8 = some v8) (e9 : m x9 = some v9) : Fr h₀ L h (fun y => if y = x1 then some v1 else if y = x2 then some v2 else if y = x3 then some v3 else if y = x4 then some v4 else if y = x5 then some v5 else if y = x6 then some v6 else if y = x7 then some v7 else if y = x8 then some v8 else if y = x9 then some v9 else m y) := by
  have : (fun y => if y = x1 then some v1 else if y = x2 then some v2 else if y = x3 then some v3 else if y = x4 then some v4 else if y = x5 then some v5 else if y = x6 then some v6 else if y = x7 then some v7 else if y = x8 then some v8 else if y = x9 then some v9 else m y) = m := by
    funext y
    by_cases h1 : y = x1
    · rw [if_pos h1, h1, e1]
    rw [if_neg h1]
    by_cases h2 : y = x2
    · rw [if_pos h2, h2, e2]
    rw [if_neg h2]
    by_cases h3 : y = x3
    · rw [if_pos h3, h3, e3]
    rw [if_neg h3]
    by_cases h4 : y = x4
    · rw [if_pos h4, h4, e4]
    rw [if_neg h4]
    by_cases h5 : y = x5
    · rw [if_pos h5, h5, e5]
    rw [if_neg h5]
    by_cases h6 : y = x6
    · rw [if_pos h6, h6, e6]
    rw [if_neg h6]
    by_cases h7 : y = x7
    · rw [if_pos h7, h7, e7]
    rw [if_neg h7]
    by_cases h8 : y = x8
    · rw [if_pos h8, h8, e8]
    rw [if_neg h8]
    by_cases h9 : y = x9
    · rw [if_pos h9, h9, e9]
    rw [if_neg h9]
  rw [this]; exact F
end

section
variable {prog : Program} {w : World} {A : Around} {E : Value → Shared → Prop} {s : Shared} {env : Env} {h₀ : Heap} {x : Str} {body : List Stmt} {Q : Flow → Shared → Prop}

/-- a loop over a list that stood when the frame began -/
theorem old_iter {l : Addr} {vs : List Value} {m₀ : Str → Option Value} {news : List (Addr × Obj)} (J : Nat → (Str → Option Value) → List (Addr × Obj) → Prop)
    (hh : A.handled = none) (hl : h₀.IsList l vs.toArray) (F : Fr h₀ env.locals s.heap m₀) (N : News h₀ env.locals s.heap news) (hj : J 0 m₀ news)
    (turn : ∀ i v m₁ news₁ h tk own, vs[i]? = some v → OwnOff own (news₁.map (·.1)) → J i m₁ news₁ → Fr h₀ env.locals h (fun y => if y = x then some v else m₁ y) → News h₀ env.locals h (news₁ ++ own) →
      wpAny (model prog w) A (execs body env) (InvPostG h₀ env.locals (J (i + 1)) own { s with heap := h, toks := tk } Q) E { s with heap := h, toks := tk })
    (done : ∀ m₁ news₁ h tk, J vs.length m₁ news₁ → Fr h₀ env.locals h m₁ → News h₀ env.locals h news₁ → Q .next { s with heap := h, toks := tk }) :
    wpAny (model prog w) A (pyIter (.ref l)) (fun it s₂ => LoopAtV prog w A h₀ env x body Q E it s₂) E s := by
  have hls : s.heap.IsList l vs.toArray := hl.at fun o e => F.keep l o e
  obtain ⟨ol, hol, _⟩ := id hl
  have hlt : l < h₀.objs.size := Heap.lt_size hol
  have hne : l ≠ s.heap.objs.size := Nat.ne_of_lt (Nat.lt_trans (Nat.lt_of_lt_of_le hlt F.above) F.ns.lt)
  refine wpAny_pyIter_list hls ?_
  have W := Walks.list (prog := prog) (w := w) hh s.heap.objs.size l hne vs.toArray
  have hlen : vs.toArray.size = vs.length := by simp
  rw [hlen] at W
  refine ⟨_, _, _, vs.length, _, _, m₀, news, J, rfl, W, ?_, ?_, ?_, ⟨⟨_, Heap.get?_push_size _ rfl, rfl, rfl⟩, hls.at fun o e => Heap.get?_push_of_some _ e⟩, F.push _, (fun p hp => ⟨Heap.get?_push_of_some _ (N p hp).1, (N p hp).2⟩), hj, ?_, ?_⟩
  · intro hm
    rcases List.mem_cons.mp hm with e | hm
    · exact absurd F.ns.lt (e ▸ Nat.lt_irrefl _)
    · exact absurd (Nat.lt_of_lt_of_le hlt F.above) ((List.mem_singleton.mp hm) ▸ Nat.lt_irrefl _)
  · intro b hb
    rw [List.mem_singleton.mp hb]
    exact next_is_new F
  · intro p hp hI
    exact absurd (Heap.lt_size (N p hp).1) ((List.mem_singleton.mp hI) ▸ Nat.lt_irrefl _)
  · rintro i v m₁ news₁ s₁ own ⟨hh', tk', rfl⟩ hin hP hJ hoff hown _ hfp hst F₁ N₁
    have hI0 : h₀.get? s.heap.objs.size = none := next_is_new F
    obtain ⟨⟨oI, hoI, _⟩, _⟩ := id hst
    have hIown : (s.heap.objs.size, oI) ∈ own := hfp _ (List.mem_cons.mpr (.inl rfl)) hI0 _ hoI
    have hsep : OwnOff own (news₁.map (·.1)) := by
      intro p hp b hb e
      obtain ⟨q, hq, rfl⟩ := List.mem_map.mp hb
      rcases List.mem_cons.mp (hown p hp) with h1 | h1
      · exact hoff q hq (List.mem_singleton.mpr (e ▸ h1))
      · have h2 := List.mem_singleton.mp h1
        have h3 := (N₁ q (List.mem_append.mpr (.inr hq))).2.2
        rw [← e, h2, hol] at h3
        cases h3
    have hP' : vs[i]? = some v := by simpa using hP
    have N₂ : News h₀ env.locals hh' (news₁ ++ own) := fun p hp => N₁ p ((List.mem_append.mp hp).elim (fun h => List.mem_append.mpr (.inr h)) fun h => List.mem_append.mpr (.inl h))
    refine wpAny_mono (turn i v m₁ news₁ hh' tk' own hP' hsep hJ F₁ N₂) (fun f s₂ p => ?_) fun _ _ e => e
    have fin : InvEndG h₀ env.locals (J (i + 1)) own { s with heap := hh', toks := tk' } s₂ → LoopStepU h₀ env.locals [s.heap.objs.size] own (J (i + 1)) { s with heap := hh', toks := tk' } .next s₂ := by
      rintro ⟨h', tk, m', news', nx, e, F', N', hn, ho, ha, hm⟩
      refine ⟨rfl, h', tk, m', nx, e, F', fun p hp => N' p ((List.mem_append.mp hp).elim (ho p) (hn p)), fun p hp hq => ?_, hm⟩
      exact ha _ hIown p.1 (List.mem_map.mpr ⟨p, hp, rfl⟩) (List.mem_singleton.mp hq).symm
    cases f with
    | ret v => exact .ret p
    | brk => exact .brk p
    | next => exact .next (fin p)
    | cont => exact .cont (fin p)
  · rintro h' tk m' news' F' N' _ hJ
    exact done m' news' h' tk hJ F' N'

theorem str_iter_at {T : String} {z : Str} {t₀ : Tok} {m₀ : Str → Option Value} {news : List (Addr × Obj)} (J : Nat → (Str → Option Value) → List (Addr × Obj) → Prop)
    (W : Walks prog w A s.heap.objs.size [s.heap.objs.size] [s.heap.objs.size] z.cps.size (SignAt z) (fun i h => h.IsStrIter s.heap.objs.size T z t₀ i)) (o : Obj) (hst : (s.heap.push o).IsStrIter s.heap.objs.size T z t₀ 0)
    (F : Fr h₀ env.locals s.heap m₀) (N : News h₀ env.locals s.heap news) (hj : J 0 m₀ news)
    (turn : ∀ i c t m₁ news₁ h tk own, z.cps[i]? = some c → OwnOff own (news₁.map (·.1)) → J i m₁ news₁ → Fr h₀ env.locals h (fun y => if y = x then some (.str ⟨#[c]⟩ t) else m₁ y) → News h₀ env.locals h (news₁ ++ own) →
      wpAny (model prog w) A (execs body env) (InvPostG h₀ env.locals (J (i + 1)) own { s with heap := h, toks := tk } Q) E { s with heap := h, toks := tk })
    (done : ∀ m₁ news₁ h tk, J z.cps.size m₁ news₁ → Fr h₀ env.locals h m₁ → News h₀ env.locals h news₁ → Q .next { s with heap := h, toks := tk }) :
    LoopAtV prog w A h₀ env x body Q E (.ref s.heap.objs.size) { s with heap := s.heap.push o } := by
  refine ⟨_, _, _, z.cps.size, _, _, m₀, news, J, rfl, W, ?_, ?_, ?_, hst, F.push _, (fun p hp => ⟨Heap.get?_push_of_some _ (N p hp).1, (N p hp).2⟩), hj, ?_, ?_⟩
  · intro hm
    exact absurd F.ns.lt ((List.mem_singleton.mp hm) ▸ Nat.lt_irrefl _)
  · intro b hb
    rw [List.mem_singleton.mp hb]
    exact next_is_new F
  · intro p hp hI
    exact absurd (Heap.lt_size (N p hp).1) ((List.mem_singleton.mp hI) ▸ Nat.lt_irrefl _)
  · rintro i v m₁ news₁ s₁ own ⟨hh', tk', rfl⟩ hin ⟨c, t, hc, rfl⟩ hJ hoff hown hget hfp hst F₁ N₁
    have hsep : OwnOff own (news₁.map (·.1)) := by
      intro p hp b hb e
      obtain ⟨q, hq, rfl⟩ := List.mem_map.mp hb
      exact hoff q hq (e ▸ hown p hp)
    have hI0 : h₀.get? s.heap.objs.size = none := next_is_new F
    obtain ⟨oI, hoI, _⟩ := id hst
    have hIown : (s.heap.objs.size, oI) ∈ own := hfp _ (List.mem_cons.mpr (.inl rfl)) hI0 _ hoI
    have N₂ : News h₀ env.locals hh' (news₁ ++ own) := fun p hp => N₁ p ((List.mem_append.mp hp).elim (fun h => List.mem_append.mpr (.inr h)) fun h => List.mem_append.mpr (.inl h))
    refine wpAny_mono (turn i c t m₁ news₁ hh' tk' own hc hsep hJ F₁ N₂) (fun f s₂ p => ?_) fun _ _ e => e
    have fin : InvEndG h₀ env.locals (J (i + 1)) own { s with heap := hh', toks := tk' } s₂ → LoopStepU h₀ env.locals [s.heap.objs.size] own (J (i + 1)) { s with heap := hh', toks := tk' } .next s₂ := by
      rintro ⟨h', tk, m', news', nx, e, F', N', hn, ho, ha, hm⟩
      refine ⟨rfl, h', tk, m', nx, e, F', fun p hp => N' p ((List.mem_append.mp hp).elim (ho p) (hn p)), fun p hp hq => ?_, hm⟩
      exact ha _ hIown p.1 (List.mem_map.mpr ⟨p, hp, rfl⟩) (List.mem_singleton.mp hq).symm
    cases f with
    | ret v => exact .ret p
    | brk => exact .brk p
    | next => exact .next (fin p)
    | cont => exact .cont (fin p)
  · rintro h' tk m' news' F' N' _ hJ
    exact done m' news' h' tk hJ F' N'

/-- a loop over a text's signs -/
theorem str_iter {z : Str} {t₀ : Tok} {m₀ : Str → Option Value} {news : List (Addr × Obj)} (J : Nat → (Str → Option Value) → List (Addr × Obj) → Prop)
    (hh : A.handled = none) (F : Fr h₀ env.locals s.heap m₀) (N : News h₀ env.locals s.heap news) (hj : J 0 m₀ news)
    (turn : ∀ i c t m₁ news₁ h tk own, z.cps[i]? = some c → OwnOff own (news₁.map (·.1)) → J i m₁ news₁ → Fr h₀ env.locals h (fun y => if y = x then some (.str ⟨#[c]⟩ t) else m₁ y) → News h₀ env.locals h (news₁ ++ own) →
      wpAny (model prog w) A (execs body env) (InvPostG h₀ env.locals (J (i + 1)) own { s with heap := h, toks := tk } Q) E { s with heap := h, toks := tk })
    (done : ∀ m₁ news₁ h tk, J z.cps.size m₁ news₁ → Fr h₀ env.locals h m₁ → News h₀ env.locals h news₁ → Q .next { s with heap := h, toks := tk }) :
    wpAny (model prog w) A (pyIter (.str z t₀)) (fun it s₂ => LoopAtV prog w A h₀ env x body Q E it s₂) E s := by
  cases ha : z.cps.all (· < 128)
  · exact wpAny_pyIter_wide ha (str_iter_at J (Walks.strWide hh _ z t₀) _ ⟨_, Heap.get?_push_size _ rfl, rfl, rfl⟩ F N hj turn done)
  · exact wpAny_pyIter_ascii ha (str_iter_at J (Walks.strAscii hh _ z t₀) _ ⟨_, Heap.get?_push_size _ rfl, rfl, rfl⟩ F N hj turn done)
end

section
variable {prog : Program} {w : World} {A : Around} {E : Value → Shared → Prop} {s : Shared} {h₀ : Heap} {L a : Addr} {m : Str → Option Value} {news news' : List (Addr × Obj)}
theorem del_list {vs : List Value} {n k : Nat} {i : Int} {u : Tok} {Q : Unit → Shared → Prop} (F : Fr h₀ L s.heap m) (N : News h₀ L s.heap news) (ha : (a, W.listOf vs.toArray n) ∈ news)
    (hfit : Builtin.List.listFitsIndex i = true) (hk : seqIndex? i vs.length = some k) (hsz : vs.length ≤ sizeLine)
    (h : ∀ h' n', Fr h₀ L h' m → News h₀ L h' [(a, W.listOf (vs.eraseIdx k).toArray n')] → Q () { s with heap := h' }) :
    wpAny (model prog w) A (delItem (.ref a) (.int i u)) Q E s := by
  have z := N _ ha
  refine wpAny_delItem_plain (k := k) (items := vs.toArray) ⟨n, z.1⟩ hfit (by simpa using hk) (fun h' hp hs => ?_) (by simpa using hsz)
  obtain ⟨n', hn'⟩ := hp
  refine h h' n' (F.change hs z.2.1 z.2.2) fun p hp => ?_
  rw [List.mem_singleton.mp hp]
  have e : vs.toArray.eraseIdxIfInBounds k = (vs.eraseIdx k).toArray := by simp
  rw [e] at hn'
  exact ⟨hn', z.2⟩

open PySem.Builtin PySem.Builtin.Str in
theorem gives_str_find_between (x y : Str) (i j : Int) (t u v v' : Tok) : Gives («str.find» ⟨[.str x t, .str y u, .int i v, .int j v'], []⟩)
    (.int (match occurrences x y (fromIndex x.length i) (min (fromIndex x.length j) x.length) 1 with | k :: _ => (k : Int) | [] => -1)) := by
  show Gives (match occurrences x y (fromIndex x.length i) (min (fromIndex x.length j) x.length) 1 with | k :: _ => retInt k | [] => (do rule "str.find.not-found"; retInt (-1))) _
  cases occurrences x y (fromIndex x.length i) (min (fromIndex x.length j) x.length) 1 with
  | nil => exact .rule (.of_eq rfl)
  | cons k _ => exact .of_eq rfl
def find4 (x y : Str) (i j : Int) : Int := match Builtin.Str.occurrences x y (fromIndex x.length i) (min (fromIndex x.length j) x.length) 1 with | k :: _ => (k : Int) | [] => -1
theorem find4_rule {x y : Str} {t u v v' : Tok} {i j : Int} {Q : Value → Shared → Prop} (hq : Q (.int (find4 x y i j) s.toks) { s with toks := s.toks + 1 }) :
    wpAny (model prog w) A (call (.builtin "str.find") [.str x t, .str y u, .int i v, .int j v']) Q E s :=
  call_gives F.slot_str_find (typeIs_str _ _ _) F.entry_str_find (F.args_str_find_4 _ _ _ _) (gives_str_find_between x y i j t u v v') hq

theorem item_last {value slice : PySem.Expr} {vs : List Value} {v : Value} {n : Nat} {u : Tok} {Q : Value → Shared → Prop} (N : News h₀ L s.heap news) (ha : (a, W.listOf (vs ++ [v]).toArray n) ∈ news) (h : Q v s)
    (hs : subscripted slice false (.ref a) (.int (-1) u) = operate [.ref a, .int (-1) u] (getItem (.ref a) (.int (-1) u)) := by with_unfolding_all rfl) :
    wpAny (model prog w) A (subscriptTail value slice (.ref a) (.int (-1) u)) Q E s :=
  tail_any (N.isList ha).typeIs slot_list_getitem.lookup (wpAny_getItem_list_neg (N.isList ha) (by decide) (by simp; omega) (by decide) (by
    have e : ((-1 : Int) + ((vs ++ [v]).toArray.size : Int)).toNat = vs.length := by simp; omega
    rw [e]; simp) h) hs

theorem app_list {rest : List (Addr × Obj)} {vs : List Value} {v : Value} {n : Nat} {Q : Value → Shared → Prop} (F : Fr h₀ L s.heap m) (N : News h₀ L s.heap ((a, W.listOf vs.toArray n) :: rest)) (hr : ∀ p ∈ rest, p.1 ≠ a)
    (hsz : vs.length ≤ sizeLine) (h : ∀ h', Fr h₀ L h' m → News h₀ L h' ((a, W.listOf (vs ++ [v]).toArray (n + 1)) :: rest) → Q .none { s with heap := h' }) :
    wpAny (model prog w) A (call (.builtin "list.append") [.ref a, v]) Q E s := by
  refine append_K F N (Upd.head hr) (fun h' F' N' => h h' F' ?_) (by simpa using hsz)
  have e : vs.toArray.push v = (vs ++ [v]).toArray := by simp
  rw [e] at N'
  exact N'
theorem item_at {value slice : PySem.Expr} {vs : List Value} {v : Value} {n : Nat} {k : Int} {u : Tok} {Q : Value → Shared → Prop} (N : News h₀ L s.heap news) (ha : (a, W.listOf vs.toArray n) ∈ news) (h0 : 0 ≤ k) (hk : k < 2 ^ 63) (hx : vs[k.toNat]? = some v) (h : Q v s)
    (hs : subscripted slice false (.ref a) (.int k u) = operate [.ref a, .int k u] (getItem (.ref a) (.int k u)) := by with_unfolding_all rfl) :
    wpAny (model prog w) A (subscriptTail value slice (.ref a) (.int k u)) Q E s :=
  tail_any (N.isList ha).typeIs slot_list_getitem.lookup (wpAny_getItem_list (N.isList ha) h0 hk (by simpa using hx) h) hs
theorem strValues_snoc (l : List (Str × Tok)) (x : Str) (t : Tok) : strValues l ++ [Value.str x t] = strValues (l ++ [(x, t)]) := by simp [strValues]
theorem own_ne {own : List (Addr × Obj)} {o : Obj} (h : OwnOff own ([(a, o)].map (·.1))) : ∀ p ∈ own, p.1 ≠ a := fun p hp => h p hp a (by simp)
end

theorem Fresh.mono {h₀ h h' : Heap} {tl : List (Addr × Obj)} (f : Fresh h h' tl) (g : Grown h₀ h) : Fresh h₀ h' tl := fun p hp => by
  obtain ⟨e3, e4⟩ := f p hp
  refine ⟨e3, ?_⟩
  cases q : h₀.get? p.1 with
  | none => rfl
  | some o => rw [g _ _ q] at e4; cases e4
section
variable {prog : Program} {w : World} {A : Around} {E : Value → Shared → Prop} {s : Shared} {mean : ExcName → Option Value} {mg mb : Str → Option Value} {Q : Value → Shared → Prop}
theorem enterC {name qual : Str} {params : Arguments} {body : List Stmt} {scope : Scope} {dV kV doc pm cdv ct oc : Value} {an od : Option Addr} {osl : Array (Option Value)} {f : Addr} {vs : List Value} {binds : List (Str × Value)}
    (X : (hd.heap_39 w.params).In s.heap) (T : TopM mean mg mb s.heap)
    (ho : (hd.heap_39 w.params).lookup f = some ⟨oc, od, .func (fnOf name qual params body scope dV kV doc pm an cdv ct), osl⟩) (hcd : codeIn (hd.heap_39 w.params) cdv qual = true) (hroom : A.depth < recursionLimit)
    (hbind : BindsTo s (fnOf name qual params body scope dV kV doc pm an cdv ct) ⟨vs, []⟩ binds)
    (hkind : (binds.all fun y => scope.names.lookup y.1 == some .local || scope.names.lookup y.1 == some .cell) = true) (hnd : ((cellsFrom 0 scope.names []).map (·.1)).Nodup)
    (h : ∀ L h₁ tk cells, L = s.heap.objs.size → Fr s.heap L h₁ (bindL (envOfC qual scope L f cdv).kindOf binds fun _ => none) → News s.heap L h₁ cells →
      CellsAre (bindC (envOfC qual scope L f cdv).kindOf binds fun _ => none) (cellsFrom (L + 1) scope.names []) cells →
      wpAny (model prog w) (A.deeper (envOfC qual scope L f cdv)) (execs body (envOfC qual scope L f cdv))
        (fun fl s' => Q (match fl with | .ret v => v | _ => .none) s') (fun _ _ => False) { s with heap := h₁, toks := tk })
    (hco : scope.isCoroutine = false) (hgen : scope.isGenerator = false) (hk : scope.kind = .function) : wpAny (model prog w) A (call (.ref f) vs) Q E s := by
  refine wpAny_call (codeAny_call_function (fd := fnOf name qual params body scope dV kV doc pm an cdv ct) hroom (X _ _ ho) rfl hco hgen rfl (codeRec_of X hcd) (hbind _ _ _ _ ?_))
  refine wpAny_newFunctionEnv_cells hk (kindsX hkind _) fun env' he s' x => ?_
  subst he
  refine ⟨T.nolimit.keeps x.toInCall.keep, codeAny_func ?_⟩
  obtain ⟨h₁, tk, rfl, _⟩ := x.done
  have hk₁ := x.toInCall.keep
  obtain ⟨cells, NC, Y⟩ := Cl.news (h₀ := s.heap) (Nat.le_refl _) fun n c hm => ⟨x.cell n c (lookup_of_mem_nodup (cellsFrom_names scope.names 0 (s.heap.objs.size + 1) [] [] rfl ▸ hnd) hm), x.above n c hm⟩
  exact wpAny_mono (h s.heap.objs.size h₁ tk cells rfl ⟨x.toInCall.ns, hk₁, Nat.le_refl _⟩ NC Y) (fun _ _ y => y) fun _ _ y => y.elim
end

/-- a fixed Around that knows the frames -/
abbrev lvlF (d : Nat) (fr : List Env) : Around := { handled := none, depth := d, frames := some fr, guards := none, units := d }
theorem lvlF_le {α : Type} {M : Model} {A : Around} {d : Nat} {fr : List Env} {t : Sem α} {Q : α → Shared → Prop} {E : Value → Shared → Prop} {s : Shared}
    (h : wpAny M (lvlF d fr) t Q E s) (hh : A.handled = none) (hf : A.frames = some fr) (hd : A.depth ≤ d) (hu : A.units ≤ d) : wpAny M A t Q E s :=
  fun Γ p hΓ => h Γ p ⟨hΓ.1.trans hh, Nat.le_trans hΓ.2.1 hd, fun l e => by cases e; exact hΓ.2.2.1 _ hf, fun _ e => (by cases e), Nat.le_trans hΓ.2.2.2.2 hu⟩
section
variable {prog : Program} {w : World} {A : Around} {E : Value → Shared → Prop} {s : Shared} {mean : ExcName → Option Value} {mg mb : Str → Option Value} {Q : Value → Shared → Prop}
theorem enterE {name qual : Str} {params : Arguments} {body : List Stmt} {scope : Scope} {dV kV doc pm cdv ct oc : Value} {an od : Option Addr} {osl : Array (Option Value)} {f : Addr} {vs : List Value} {binds : List (Str × Value)}
    (X : (hd.heap_39 w.params).In s.heap) (T : TopM mean mg mb s.heap)
    (ho : (hd.heap_39 w.params).lookup f = some ⟨oc, od, .func (fnOf name qual params body scope dV kV doc pm an cdv ct), osl⟩) (hcd : codeIn (hd.heap_39 w.params) cdv qual = true) (hroom : A.depth < recursionLimit)
    (hbind : BindsTo s (fnOf name qual params body scope dV kV doc pm an cdv ct) ⟨vs, []⟩ binds) (hloc : ∀ y ∈ binds, scope.names.lookup y.1 = some .local)
    (h : ∀ L h₁, L = s.heap.objs.size → Fr s.heap L h₁ (fun y => binds.reverse.lookup y) → News s.heap L h₁ [] →
      wpAny (model prog w) (A.deeper (envOf qual scope L f cdv)) (execs body (envOf qual scope L f cdv))
        (fun fl s' => Q (match fl with | .ret v => v | _ => .none) s')
        (fun e s' => wpAny (model prog w) (A.deeper (envOf qual scope L f cdv)) (leaving (envOf qual scope L f cdv) e) (fun _ s'' => E e s'') (fun e' s'' => E e' s'') s')
        { s with heap := h₁, toks := s.toks + binds.length })
    (hco : scope.isCoroutine = false) (hgen : scope.isGenerator = false) (hk : scope.kind = .function)
    (hcell : ∀ x ∈ scope.names, x.2 ≠ .cell) : wpAny (model prog w) A (call (.ref f) vs) Q E s := by
  refine wpAny_call (codeAny_call_def (fd := fnOf name qual params body scope dV kV doc pm an cdv ct) (body := body) (binds := binds) hroom (X _ _ ho) rfl T.nolimit (codeRec_of X hcd) rfl hbind hcell hloc (fun h₁ hns hk₁ => ?_) hco hgen hk)
  exact h _ h₁ rfl ⟨hns, hk₁, Nat.le_refl _⟩ News.nil
end
end Mine

/-! part EM -/
open PySem PySem.W PySem.Calls PyProof.Rows
set_option Elab.async false
set_option maxRecDepth 100000
set_option maxHeartbeats 8000000
namespace Mine

theorem fill_EM : PySem.Challenge.rw_mq0199_01 = PySem.Challenge.rw_mq0199_01 ∧ hd.heap_39 = hd.heap_39 := by
  k_fill
  exact ⟨rfl, rfl⟩

/-- the loop over the pieces -/
def emLoop (y : Str) (ep : Int) : List Str → Int → Bool
  | [], _ => true
  | v :: r, sp => if find4 y v sp ep < 0 then false else emLoop y ep r (find4 y v sp ep + (v.length : Int))
def emBound (y : Str) (ws : List Str) (sp ep : Int) : Bool := if ep < sp then false else emLoop y ep ws sp
def emEnd (y : Str) (ws : List Str) (sp ep : Int) : Bool :=
  if (ws.getLastD Str.empty).length = 0 then emBound y ws sp ep
  else if Txt.endswith y (ws.getLastD Str.empty) then emBound y ws.dropLast sp (ep - ((ws.getLastD Str.empty).length : Int)) else false
def emStart (y : Str) (ws : List Str) : Bool :=
  if (ws.headD Str.empty).length = 0 then emEnd y ws 0 (y.length : Int)
  else if Txt.startswith y (ws.headD Str.empty) then emEnd y ws.tail ((ws.headD Str.empty).length : Int) (y.length : Int) else false
def ellipsisMatch (x y : Str) : Bool := if Txt.contains x (Str.ofString "...") then emStart y (Txt.split x (Str.ofString "...")) else x == y

def EmMid (s : Shared) (L a : Addr) (y : Str) (u : Tok) (c : Prop) (r : Bool) (g : List Str → Int → Int → Bool) (f : Flow) (s' : Shared) : Prop :=
  (f = .ret (.bool false) ∧ r = false ∧ ∃ h' tk, s' = { s with heap := h', toks := tk } ∧ Grown s.heap h') ∨
  (f = .next ∧ ∃ (sp ep : Int) (l' : List (Str × Tok)) (n' : Nat) (h' : Heap) (tk : Nat) (m' : Str → Option Value) (t1 t2 : Tok), s' = { s with heap := h', toks := tk } ∧ r = g (l'.map (·.1)) sp ep ∧ (c → l' ≠ []) ∧ l'.length ≤ 1002 ∧ (∀ p ∈ l', p.1.length ≤ 1000) ∧
    Fr s.heap L h' m' ∧ News s.heap L h' [(a, W.listOf (strValues l').toArray n')] ∧ m' (Str.ofString "ws") = some (.ref a) ∧ m' (Str.ofString "got") = some (.str y u) ∧
    m' (Str.ofString "startpos") = some (.int sp t1) ∧ m' (Str.ofString "endpos") = some (.int ep t2))
local macro_rules | `(tactic| walk_at "call builtin:str.find") => `(tactic| refine find4_rule ?_)
section
variable {prog : Program} {w : World} {E : Value → Shared → Prop} {s : Shared} {mean : ExcName → Option Value} {mg mb : Str → Option Value} {Q : Value → Shared → Prop}


theorem em_spec {x y : Str} {t u : Tok} (X : (hd.heap_39 w.params).In s.heap) (T : TopM mean mg mb s.heap) (hx : x.length ≤ 1000) (hy : y.length ≤ 1000)
    (h2 : Txt.contains x (Str.ofString "...") = true → 2 ≤ (Txt.split x (Str.ofString "...")).length)
    (h : ∀ h' tk', Grown s.heap h' → Q (.bool (ellipsisMatch x y)) { s with heap := h', toks := tk' }) :
    wpAny (model prog w) (lvl 400) (call (.ref 21) [.str x t, .str y u]) Q E s := by
  refine' enter X T ?ho ?hcd ?hroom ?hbind ?hloc ?h ?c1 ?c2 ?c3 ?c4
  case ho => k_is
  case hcd => k_is
  case hroom => decide
  case hbind => exact BindsTo.of_eq rfl
  case hloc => exact locs rfl
  case c1 => rfl
  case c2 => rfl
  case c3 => rfl
  case c4 => decide
  intro L h₁ hL F N
  try dsimp only
  k_fold
  repeat' (first | (k_unfold; (try dsimp only)) | (k_end; wrow_close) | ((fail_if_success (with_reducible show wpAny _ _ (exec (Stmt.If (Expr.Name (Str.ofString "w") _) _ _ _) _) _ _ _)); walk1) | ((fail_if_success (with_reducible show wpAny _ _ (exec (Stmt.If (Expr.Name (Str.ofString "w") _) _ _ _) _) _ _ _)); dsimp only; walk1) | ((fail_if_success (with_reducible show wpAny _ _ (exec (Stmt.If (Expr.Name (Str.ofString "w") _) _ _ _) _) _ _ _)); leave1; walk_say "STEP leave1"; try dsimp only) | fail "no step")
  · rename Fr _ _ _ _ => FF
    rename (List.isEmpty _ = true) => hc
    have e : ellipsisMatch x y = (x == y) := by
      unfold ellipsisMatch Txt.contains
      rw [hc]; rfl
    rw [e] at h
    exact h _ _ FF.keep
  · rename Fr _ _ _ _ => FF
    rename News _ _ _ _ => NN
    rename (List.isEmpty _ = false) => hc
    rename (List.map _ _ = Txt.split x _) => hs
    rename (∀ a, a ∈ List.map _ _ → Str.length a ≤ _) => hsh
    rename List (Str × Tok) => l
    rename (2 ≤ (List.length l : Int)) => hl2
    rename (_ = some _) => hw
    obtain ⟨⟨w0, t0⟩, l', rfl⟩ : ∃ p l', l = p :: l' := by
      cases l with
      | nil => exact absurd hl2 (by decide)
      | cons p l' => exact ⟨p, l', rfl⟩
    simp only [List.map_cons, Int.toNat_zero, List.getElem?_cons_zero, Option.some.injEq] at hw
    subst hw
    have hw0 : w0.length ≤ 1000 := Nat.le_trans (hsh w0 (by simp)) hx
    have hne : l' ≠ [] := by
      intro e; subst e; exact absurd hl2 (by simp)
    refine wpAny_mono (Q := EmMid s L h₁.objs.size y u True (emStart y (((w0, t0) :: l').map (·.1))) (emEnd y)) ?_ ?_ (fun _ _ e => e)
    · k_steps
      · rename Fr _ _ _ _ => F1
        rename News _ _ _ _ => N1
        refine del_list (vs := strValues ((w0, t0) :: l')) (k := 0) F1 N1 (.tail _ (.head _)) (by decide) (by simp [strValues, seqIndex?]) (by rw [sizeLine_eq]; simp [strValues]; omega) ?_
        intro h' n' F2 N2
        k_steps
        refine Or.inr ⟨rfl, _, _, l', n', _, _, _, _, _, rfl, ?_, fun _ => hne, by omega, fun p hp => Nat.le_trans (hsh p.1 (List.mem_map.mpr ⟨p, .tail _ hp, rfl⟩)) hx, F2, N2, rfl, rfl, rfl, rfl⟩
        rename (Txt.startswith _ _ = true) => hst
        simp only [emStart, List.map_cons, List.headD_cons, List.tail_cons]
        rw [if_neg (by omega), if_pos hst]
      · refine Or.inl ⟨rfl, ?_, _, _, rfl, FF.keep⟩
        rename (Txt.startswith _ _ = false) => hst
        simp only [emStart, List.map_cons, List.headD_cons, List.tail_cons]
        rw [if_neg (by omega), hst]; rfl
      · refine Or.inr ⟨rfl, _, _, (w0, t0) :: l', 0, _, _, _, _, _, rfl, ?_, fun _ => by simp, by simp; omega, fun p hp => Nat.le_trans (hsh p.1 (List.mem_map.mpr ⟨p, hp, rfl⟩)) hx, FF, fun p hp => NN p (.tail _ hp), rfl, rfl, rfl, rfl⟩
        simp only [emStart, List.map_cons, List.headD_cons, List.tail_cons]
        rw [if_pos (by omega)]
    · rintro f s' (⟨rfl, hr, h', tk', rfl, hg⟩ | ⟨rfl, sp, ep, l2, n', h', tk', m', t1, t2, rfl, hr, hn2', hlen, hsh2, F2, N2, e1, e2, e3, e4⟩)
      · have e : ellipsisMatch x y = false := by
          unfold ellipsisMatch Txt.contains
          rw [hc, ← hs, hr]; rfl
        rw [e] at h
        exact h _ _ hg
      · dsimp only
        have hn2 := hn2' trivial
        have F3 := fr_name4 F2 e1 e2 e3 e4
        clear F2 FF NN
        obtain ⟨⟨wl, tl⟩, l3, rfl⟩ : ∃ p l3, l2 = l3 ++ [p] := ⟨l2.getLast hn2, l2.dropLast, (List.dropLast_concat_getLast hn2).symm⟩
        repeat' (first | (k_unfold; (try dsimp only)) | (k_end; wrow_close) | ((fail_if_success (with_reducible show wpAny _ _ (exec (Stmt.If (Expr.Name (Str.ofString "w") _) _ _ _) _) _ _ _)); walk1) | ((fail_if_success (with_reducible show wpAny _ _ (exec (Stmt.If (Expr.Name (Str.ofString "w") _) _ _ _) _) _ _ _)); dsimp only; walk1) | ((fail_if_success (with_reducible show wpAny _ _ (exec (Stmt.If (Expr.Name (Str.ofString "w") _) _ _ _) _) _ _ _)); leave1; walk_say "STEP leave1"; try dsimp only) | fail "no step")
        have hws : strValues (l3 ++ [(wl, tl)]) = strValues l3 ++ [Value.str wl tl] := by simp [strValues]
        rw [hws] at N2
        refine item_last N2 (.head _) ?_
        have hwl : wl.length ≤ 1000 := hsh2 (wl, tl) (by simp)
        have hl3 : l3.length ≤ 1001 := by simp at hlen; omega
        repeat' (first | (k_unfold; (try dsimp only)) | (k_end; wrow_close) | ((fail_if_success (with_reducible show wpAny _ _ (exec (Stmt.If (Expr.Name (Str.ofString "w") _) _ _ _) _) _ _ _)); walk1) | ((fail_if_success (with_reducible show wpAny _ _ (exec (Stmt.If (Expr.Name (Str.ofString "w") _) _ _ _) _) _ _ _)); dsimp only; walk1) | ((fail_if_success (with_reducible show wpAny _ _ (exec (Stmt.If (Expr.Name (Str.ofString "w") _) _ _ _) _) _ _ _)); leave1; walk_say "STEP leave1"; try dsimp only) | fail "no step")
        refine wpAny_mono (Q := EmMid s L h₁.objs.size y u False (emEnd y ((l3 ++ [(wl, tl)]).map (·.1)) sp ep) (emBound y)) ?_ ?_ (fun _ _ e => e)
        · k_steps
          · rename Fr _ _ _ _ => F1
            rename News _ _ _ _ => N1
            refine del_list (vs := strValues l3 ++ [Value.str wl tl]) (k := l3.length) F1 N1 (.head _) (by decide) (by simp [strValues, seqIndex?]; omega) (by rw [sizeLine_eq]; simp [strValues]; omega) ?_
            intro h' n' F2 N2
            have e9 : (strValues l3 ++ [Value.str wl tl]).eraseIdx l3.length = strValues l3 := by
              have : l3.length = (strValues l3).length := by simp [strValues]
              rw [this, List.eraseIdx_append_of_length_le (Nat.le_refl _)]; simp
            rw [e9] at N2
            k_steps
            refine Or.inr ⟨rfl, _, _, l3, n', _, _, _, _, _, rfl, ?_, fun h => h.elim, by omega, fun p hp => hsh2 p (List.mem_append.mpr (.inl hp)), F2, N2, rfl, rfl, rfl, rfl⟩
            rename (Txt.endswith _ _ = true) => hst
            simp only [emEnd, List.map_append, List.map_cons, List.map_nil, List.getLastD_concat, List.dropLast_concat]
            rw [if_neg (by omega), if_pos hst]
          · rename Fr _ _ _ _ => F1
            refine Or.inl ⟨rfl, ?_, _, _, rfl, F1.keep⟩
            rename (Txt.endswith _ _ = false) => hst
            simp only [emEnd, List.map_append, List.map_cons, List.map_nil, List.getLastD_concat, List.dropLast_concat]
            rw [if_neg (by omega), hst]; rfl
          · rename Fr _ _ _ _ => F1
            rename News _ _ _ _ => N1
            rw [← hws] at N1
            refine Or.inr ⟨rfl, _, _, l3 ++ [(wl, tl)], n', _, _, _, _, _, rfl, ?_, fun h => h.elim, hlen, hsh2, F1, N1, rfl, rfl, rfl, rfl⟩
            simp only [emEnd, List.map_append, List.map_cons, List.map_nil, List.getLastD_concat, List.dropLast_concat]
            rw [if_pos (by omega)]
        · have hem : ∀ b, emEnd y ((l3 ++ [(wl, tl)]).map (·.1)) sp ep = b → ellipsisMatch x y = b := by
            intro b hb
            unfold ellipsisMatch Txt.contains
            rw [hc, ← hs, hr, hb]; rfl
          clear hr hs
          rename Fr _ _ _ _ => Fold
          clear Fold
          rintro f s' (⟨rfl, hr, h', tk', rfl, hg⟩ | ⟨rfl, sp2, ep2, l4, n4, h4, tk4, m4, t3, t4, rfl, hr, _, hlen4, hsh4, F4, N4, e1, e2, e3, e4⟩)
          · rw [hem _ hr] at h
            exact h _ _ hg
          · rw [hem _ hr] at h
            dsimp only
            have F5 := fr_name4 F4 e1 e2 e3 e4
            clear F4
            repeat' (first | (k_unfold; (try dsimp only)) | (k_end; wrow_close) | ((fail_if_success (with_reducible show wpAny _ _ (exec (Stmt.For _ _ _ _ _) _) _ _ _)); walk1) | ((fail_if_success (with_reducible show wpAny _ _ (exec (Stmt.For _ _ _ _ _) _) _ _ _)); dsimp only; walk1) | ((fail_if_success (with_reducible show wpAny _ _ (exec (Stmt.For _ _ _ _ _) _) _ _ _)); leave1; walk_say "STEP leave1"; try dsimp only) | fail "no step")
            · have e : emBound y (l4.map (·.1)) sp2 ep2 = false := by unfold emBound; rw [if_pos (by omega)]
              rw [e] at h
              exact h _ _ F5.keep
            · have e : emBound y (l4.map (·.1)) sp2 ep2 = emLoop y ep2 (l4.map (·.1)) sp2 := by unfold emBound; rw [if_neg (by omega)]
              rw [e] at h
              refine For_invVF F5 rfl rfl ?_ (hE := PassesOwn.never)
              walk1
              refine kdl_iter (nn := n4) (vs := strValues l4) (news := [(h₁.objs.size, W.listOf (strValues l4).toArray n4)]) (fun i m nx => nx = [(h₁.objs.size, W.listOf (strValues l4).toArray n4)] ∧ m (Str.ofString "got") = some (.str y u) ∧ m (Str.ofString "endpos") = some (.int ep2 t4) ∧
                ∃ spi t, m (Str.ofString "startpos") = some (.int spi t) ∧ emLoop y ep2 (l4.map (·.1)) sp2 = emLoop y ep2 ((l4.map (·.1)).drop i) spi) rfl (.head _) F5 N4 ⟨rfl, rfl, rfl, sp2, t3, rfl, rfl⟩ ?_ ?_
              · rintro i v m₁ nx hh tk own hv hoff _ ⟨rfl, g1, g2, spi, ts, g3, g4⟩ F6 N6
                obtain ⟨vi, ti, rfl, hvi⟩ : ∃ vi ti, v = .str vi ti ∧ l4[i]? = some (vi, ti) := by
                  simp only [strValues, List.getElem?_map, Option.map_eq_some_iff] at hv
                  obtain ⟨p, hp, rfl⟩ := hv
                  exact ⟨p.1, p.2, rfl, hp⟩
                have hlt : i < l4.length := (List.getElem?_eq_some_iff.mp hvi).1
                have hvl : vi.length ≤ 1000 := hsh4 (vi, ti) (List.mem_of_getElem? hvi)
                have hdr : (l4.map (·.1)).drop i = vi :: (l4.map (·.1)).drop (i + 1) := by
                  have : (l4.map (·.1))[i]? = some vi := by rw [List.getElem?_map, hvi]; rfl
                  rw [List.drop_eq_getElem_cons (by simpa using hlt)]
                  congr 1
                  exact (List.getElem?_eq_some_iff.mp this).2
                rw [hdr] at g4
                have F7 := fr_name4 F6 (x1 := Str.ofString "w") (x2 := Str.ofString "got") (x3 := Str.ofString "endpos") (x4 := Str.ofString "startpos") rfl g1 g2 g3
                clear F6
                k_steps
                · rename (find4 _ _ _ _ < 0) => hlt0
                  rename Fr _ _ _ _ => F8
                  have e : emLoop y ep2 (l4.map (·.1)) sp2 = false := by rw [g4]; unfold emLoop; rw [if_pos hlt0]
                  rw [e] at h
                  exact h _ _ F8.keep
                · rename (¬ find4 _ _ _ _ < 0) => hlt0
                  rename Fr _ _ _ _ => F8
                  rename News _ _ _ _ => N8
                  refine InvEndG.intro F8 N8 ⟨.head _, rfl, rfl, rfl, _, _, rfl, ?_⟩ hoff (fun p hp => List.mem_append.mpr (.inl hp)) (fun p hp => List.mem_append.mpr (.inr hp))
                  rw [g4]
                  conv => lhs; unfold emLoop
                  rw [if_neg hlt0]
              · rintro m₁ nx hh tk ⟨rfl, g1, g2, spi, ts, g3, g4⟩ F6 N6
                k_steps
                have e : emLoop y ep2 (l4.map (·.1)) sp2 = true := by
                  rw [g4]
                  have : (l4.map (·.1)).drop (strValues l4).length = [] := by simp [strValues]
                  rw [this]; rfl
                rw [e] at h
                exact h _ _ F6.keep
  · rename (List.isEmpty _ = false) => hc
    rename (List.map _ _ = Txt.split x _) => hs
    rename List (Str × Tok) => l
    have h3 := h2 (by unfold Txt.contains; rw [hc]; rfl)
    rw [← hs, List.length_map] at h3
    omega
end
end Mine

/-! part Cm -/
open PySem PySem.W PySem.Calls PyProof.Rows
set_option Elab.async false
set_option maxRecDepth 100000
set_option maxHeartbeats 8000000
namespace Mine

/-- a comprehension's own frame -/
def compEnvD (scope : Scope) (cl : List (Str × Addr)) (C : Addr) (env : Env) : Env :=
  { scope := relabel scope env, locals := C, globals := env.globals, cells := cellsFrom (C + 1) scope.names cl, qual := env.qual, func := none, code := env.code, frame := env.frame, builtins := env.builtins }
/-- the cells that it makes -/
def newCells (scope : Scope) (C : Addr) : List Addr := (cellsFrom (C + 1) scope.names []).map (·.2)

def CellsLive (cs : List Addr) (h : Heap) : Prop := ∀ c ∈ cs, ∃ v, h.IsCell c v

section
variable {M : Model} {A : Around} {E : Value → Shared → Prop} {s : Shared}
theorem newCompEnv {scope : Scope} {cl : List (Str × Addr)} {env : Env} {Q : Env → Shared → Prop}
    (hQ : ∀ h', h'.Ns s.heap.objs.size (fun _ => none) → Grown s.heap h' → (∀ c ∈ newCells scope s.heap.objs.size, h'.IsCell c none ∧ s.heap.objs.size < c) →
      Q (newEnv scope s.heap.objs.size env.globals (cellsFrom (s.heap.objs.size + 1) scope.names cl) env.qual none .none (some env) builtinsNs) { s with heap := h' }) :
    wpAny M A (newFunctionEnv scope env.globals cl [] env.qual none .none (some env)) Q E s := by
  simp only [newFunctionEnv, Option.isSome_some, if_true]
  refine wpAny_bind (wpAny_alloc ?_)
  refine wpAny_bind (wpAny_layCells _ (fun name kind cells => by cases hkc : kind == NameKind.cell <;> simp [hkc]) _ _ _ _ ?_)
  have ok := cellsFrom_ok scope.names (s.heap.push { cls := .type "dict", data := .dict #[] }) (s.heap.objs.size + 1) [] ⟨fun _ _ hm => (nomatch hm), List.Pairwise.nil⟩ (by rw [Heap.size_push]; exact Nat.le_refl _)
  rw [Heap.size_push] at ok
  rw [show ({ s with heap := s.heap.push { cls := .type "dict", data := .dict #[] } } : Shared).heap.objs.size = s.heap.objs.size + 1 from Heap.size_push ..]
  refine wpAny_bind (wpAny_pure (wpAny_pure (hQ _ ((Heap.Ns.new s.heap (.type "dict")).keeps (pushCells_keeps _ _)) (fun b o e => pushCells_keeps _ _ b o (Heap.get?_push_of_some _ e)) ?_)))
  intro c hc
  obtain ⟨p, hp, rfl⟩ := List.mem_map.mp hc
  exact ok.empty p.1 p.2 hp
end

section
variable {prog : Program} {w : World} {A : Around} {R : Result → Shared → Prop} {s : Shared}

theorem comp_loop_tests {elt target iter : PySem.Expr} {ifs : List PySem.Expr} {scope : Scope} {pos : Pos} {it acc : Value} {env : Env} (I : Nat → Shared → Prop)
    (turn : ∀ n s, I n s → wpAny (model prog w) A (pyNext it) (fun r s₁ => match r with
      | none => R (.ok .next) s₁
      | some v => wpAny (model prog w) A (letOwnedTupleGo target it v) (fun _ s₁' => wpAny (model prog w) A (assign target env v) (fun _ s₂ =>
          wpAny (model prog w) A (forIn ifs true fun c r => if r = true then do let ok ← isTrue c env (eval c env); pure (ForInStep.yield ok) else pure (ForInStep.yield r)) (fun ok s₃ =>
            if ok = true then wpAny (model prog w) A (eval elt env) (fun x s₄ =>
              wpAny (model prog w) A (call (.builtin "list.append") [acc, x]) (fun _ s₅ => ∃ m, m < n ∧ I m s₅) (fun _ _ => False) s₄) (fun _ _ => False) s₃
            else ∃ m, m < n ∧ I m s₃) (fun _ _ => False) s₂) (fun _ _ => False) s₁') (fun _ _ => False) s₁) (fun _ _ => False) s)
    (n : Nat) (h : I n s) :
    codeAny (model prog w) A (.compLoop (.ListComp elt [⟨target, iter, ifs, 0⟩] scope pos) 0 it acc env) R s := by
  refine codeAny_loop rfl I (fun n s hI => ?_) n h
  show wpAny _ A ((compTurn (.ListComp elt [⟨target, iter, ifs, 0⟩] scope pos) 0 it acc env).onRaise (fun x => do noteFrame x env; theTreesLotGoes x)) _ _ s
  refine wpAny_noted ?_
  refine wpAny_noRaise ?_
  rw [compTurn_list]
  refine wpAny_bind (wpAny_standAt (wpAny_bind (wpAny_mono (turn n s hI) (fun r s₁ h₁ => ?_) fun _ _ h' => h')))
  cases r with
  | none => exact wpAny_pure h₁
  | some v =>
    refine wpAny_bind (wpAny_mono h₁ (fun _ s₁' h₁' => ?_) fun _ _ h' => h')
    refine wpAny_bind (wpAny_mono h₁' (fun _ s₂ h₂ => wpAny_bind (wpAny_mono h₂ (fun ok s₃ h₃ => ?_) fun _ _ h' => h')) fun _ _ h' => h')
    cases ok with
    | false => exact wpAny_pure ⟨rfl, h₃⟩
    | true =>
      exact wpAny_bind (wpAny_bind (wpAny_mono h₃ (fun x s₄ h₄ => wpAny_bind (wpAny_mono h₄ (fun _ s₅ h₅ => wpAny_pure (wpAny_pure ⟨rfl, h₅⟩)) fun _ _ h' => h')) fun _ _ h' => h'))
end

def CompEnd (hb : Heap) (C : Addr) (cs : List Addr) (led T : List (Addr × Obj)) (Acc : List Value → List (Addr × Obj) → Prop) (ys : List Value) (s₂ : Shared) (r : Option Value) (s' : Shared) : Prop :=
  ∃ h' tk' mc' tl, s' = { s₂ with heap := h', toks := tk' } ∧ Fr hb C h' mc' ∧ News hb C h' (tl ++ led) ∧ (∀ p ∈ tl, ∀ q ∈ led, p.1 ≠ q.1) ∧ (∀ p ∈ tl, p.1 ∉ cs) ∧ CellsLive cs h' ∧ Acc (ys ++ r.toList) (tl ++ T)

def CompTurn (prog : Program) (w : World) (A : Around) (hb : Heap) (env : Env) (scope : Scope) (cl : List (Str × Addr)) (tgt : PySem.Expr) (ifs : List PySem.Expr) (elt : PySem.Expr) (n : Nat) (P : Nat → Value → Prop)
    (Acc : Nat → List Value → List (Addr × Obj) → Prop) (s₂ : Shared) : Prop :=
  ∀ C i v h tk mc led ys T, s₂.heap.objs.size ≤ C → i < n → P i v → Acc i ys T → Fr hb C h mc → News hb C h led → (∀ p ∈ led, p.1 ∉ newCells scope C) → CellsLive (newCells scope C) h → (∀ p ∈ T, p ∈ led) →
    wpAny (model prog w) A (assign tgt (compEnvD scope cl C env) v) (fun _ s₃ =>
      wpAny (model prog w) A (forIn ifs true fun c r => if r = true then do let ok ← isTrue c (compEnvD scope cl C env) (eval c (compEnvD scope cl C env)); pure (ForInStep.yield ok) else pure (ForInStep.yield r)) (fun ok s₄ =>
        if ok = true then wpAny (model prog w) A (eval elt (compEnvD scope cl C env)) (fun y s₅ => CompEnd hb C (newCells scope C) led T (Acc (i + 1)) ys s₂ (some y) s₅) (fun _ _ => False) s₄
        else CompEnd hb C (newCells scope C) led T (Acc (i + 1)) ys s₂ none s₄) (fun _ _ => False) s₃) (fun _ _ => False) { s₂ with heap := h, toks := tk }

section
variable {prog : Program} {w : World} {A : Around} {E : Value → Shared → Prop} {s : Shared} {env : Env} {hb : Heap}
theorem cellsFrom_gt : ∀ (names : List (Str × NameKind)) (n lo : Nat) (acc : List (Str × Addr)), lo ≤ n → (∀ p ∈ acc, lo ≤ p.2) → ∀ p ∈ cellsFrom n names acc, lo ≤ p.2
  | [], _, _, _, _, h => h
  | (x, k) :: r, n, lo, acc, hn, h => by
    unfold cellsFrom
    split
    · exact cellsFrom_gt r (n + 1) lo _ (by omega) (fun p hp => by
        rcases List.mem_cons.mp hp with rfl | hp
        · exact hn
        · exact h p hp)
    · exact cellsFrom_gt r n lo acc hn h
theorem newCells_gt {scope : Scope} {C c : Addr} (h : c ∈ newCells scope C) : C < c := by
  obtain ⟨p, hp, rfl⟩ := List.mem_map.mp h
  exact cellsFrom_gt _ _ (C + 1) [] (Nat.le_refl _) (fun _ h => nomatch h) p hp

set_option maxHeartbeats 1000000 in
theorem comp_block {elt tgt iter : PySem.Expr} {ifs : List PySem.Expr} {scope : Scope} {cl : List (Str × Addr)} {pos : Pos} {s₂ : Shared} {I : Addr} {fp wr : List Addr} {n : Nat} {P : Nat → Value → Prop}
    {St : Nat → Heap → Prop} {Acc : Nat → List Value → List (Addr × Obj) → Prop} (WK : Walks prog w A I fp wr n P St) (hsz : n ≤ sizeLine) {RR : Value → Addr → Result → Shared → Prop}
    (hst : St 0 s₂.heap) (hfp : ∀ b ∈ fp, b < s₂.heap.objs.size) (hlive : ∀ i h, St i h → ∀ b ∈ wr, ∃ o, h.get? b = some o) (hwr : ∀ b ∈ wr, hb.get? b = none) (hg : Grown hb s₂.heap) (hle : hb.objs.size ≤ s₂.heap.objs.size)
    (hown : ∀ i (s : Shared) v (Q : Unit → Shared → Prop) (E : Value → Shared → Prop), St i s.heap → Q () s → wpAny (model prog w) A (letOwnedTupleGo tgt (.ref I) v) Q E s)
    (hacc : Acc 0 [] []) (turn : CompTurn prog w A hb env scope cl tgt ifs elt n P Acc s₂)
    (hRR : ∀ D C h' tk m' ys T k, hb.get? D = none → hb.get? C = none → D ≠ C → h'.Ns C m' → h'.get? D = some (W.listOf ys.toArray k) → (∀ p ∈ T, h'.get? p.1 = some p.2 ∧ hb.get? p.1 = none ∧ p.1 ≠ C ∧ p.1 ≠ D) → Grown hb h' → ys.length ≤ n → Acc n ys T →
      RR (.ref D) C (.ok .next) { s₂ with heap := h', toks := tk }) :
    wpAny (model prog w) A (newList []) (fun acc s₃ => wpAny (model prog w) A (newFunctionEnv scope env.globals cl [] env.qual none .none (some env)) (fun cenv s₄ =>
      codeAny (model prog w) A (.compStart (.ListComp elt [⟨tgt, iter, ifs, 0⟩] scope pos) 0 (.ref I) acc { cenv with scope := relabel scope env }) (RR acc cenv.locals) s₄) E s₃) E s₂ := by
  refine wpAny_newObj_type (newCompEnv fun h₁ hns₁ hg₁ hcl₁ => ?_)
  dsimp only at hns₁ hg₁ hcl₁ ⊢
  generalize hH2 : s₂.heap.push { cls := .type "list", dict := none, data := .seq ([] : List Value).toArray } = H2 at hns₁ hg₁ hcl₁ ⊢
  generalize hD : s₂.heap.objs.size = D at hfp
  have hC : H2.objs.size = D + 1 := by rw [← hH2, Heap.size_push, hD]
  generalize hCC : H2.objs.size = C at hns₁ hcl₁ hC
  have hDC : D ≠ C := by omega
  have old : Grown s₂.heap h₁ := fun b o e => hg₁ b o (hH2 ▸ Heap.get?_push_of_some _ e)
  have hD₁ : h₁.get? D = some (W.listOf #[] 0) := hg₁ _ _ (by rw [← hH2, ← hD]; exact Heap.get?_push_size _ rfl)
  have hst₁ : St 0 h₁ := WK.frame _ _ _ hst fun b _ o e => old b o e
  have fresh : ∀ a, D ≤ a → hb.get? a = none := fun a ha => by
    cases e : hb.get? a with
    | none => rfl
    | some o' => exact absurd (Heap.lt_size (hg _ _ e)) (Nat.not_lt.mpr (hD ▸ ha))
  have hcs : ∀ c ∈ newCells scope C, C < c := fun c hc => newCells_gt hc
  have hCf : C ∉ fp := fun hm => absurd (hfp _ hm) (by rw [hC]; exact Nat.not_lt.mpr (Nat.le_succ D))
  have hDf : D ∉ fp := fun hm => Nat.lt_irrefl _ (hfp _ hm)
  have hltC : D < C := by rw [hC]; exact Nat.lt_succ_self D
  have hcf : ∀ c ∈ newCells scope C, c ∉ fp := fun c hc hm => Nat.lt_irrefl c (Nat.lt_trans (hfp _ hm) (Nat.lt_trans hltC (hcs c hc)))
  have hDcs : D ∉ newCells scope C := fun hm => Nat.lt_irrefl D (Nat.lt_trans hltC (hcs D hm))
  have hCcs : C ∉ newCells scope C := fun hm => Nat.lt_irrefl _ (hcs C hm)
  have F₁ : Fr hb C h₁ (fun _ => none) := ⟨hns₁, fun b o e => old b o (hg b o e), by omega⟩
  have loop : ∀ s₃ : Shared, s₃ = { s₂ with heap := h₁ } →
      codeAny (model prog w) A (.compLoop (.ListComp elt [⟨tgt, iter, ifs, 0⟩] scope pos) 0 (.ref I) (.ref D) (compEnvD scope cl C env)) (RR (.ref D) C) s₃ := by
    rintro s₃ rfl
    refine comp_loop_tests
      (fun k s' => ∃ h' tk m' ys T i kk, s' = { s₂ with heap := h', toks := tk } ∧ St i h' ∧ h'.get? D = some (W.listOf ys.toArray kk) ∧ Fr hb C h' m' ∧
        (∀ p ∈ T, h'.get? p.1 = some p.2 ∧ hb.get? p.1 = none ∧ p.1 ≠ C ∧ p.1 ≠ D ∧ p.1 ∉ wr ∧ p.1 ∉ newCells scope C) ∧ CellsLive (newCells scope C) h' ∧ Acc i ys T ∧ ys.length ≤ i ∧ i ≤ n ∧ k = n + 1 - i) ?_ (n + 1)
      ⟨h₁, s₂.toks, _, [], [], 0, 0, rfl, hst₁, hD₁, F₁, (fun _ hp => nomatch hp), (fun c hc => ⟨_, (hcl₁ c hc).1⟩), hacc, Nat.zero_le _, Nat.zero_le _, rfl⟩
    rintro k s' ⟨h', tk, m', ys, T, i, kk, rfl, hst', hD', F', hT, hcl', hA, hys, hi, rfl⟩
    have hCw : C ∉ wr := fun h => hCf (WK.sub _ h)
    have hDw : D ∉ wr := fun h => hDf (WK.sub _ h)
    have hcw : ∀ c ∈ newCells scope C, c ∉ wr := fun c hc h => hcf c hc (WK.sub _ h)
    have oldw : ∀ b o, hb.get? b = some o → b ∉ wr := fun b o e hb' => by rw [hwr b hb'] at e; cases e
    by_cases hlt : i < n
    · refine WK.item i _ _ _ hlt hst' fun v h₂ tk₂ hP hst₂ hk₂ => ?_
      refine hown (i + 1) _ _ _ _ hst₂ ?_
      have F₂ : Fr hb C h₂ m' := ⟨F'.ns.at' fun o e => hk₂ _ o hCw e, fun b o e => hk₂ b o (oldw b o e) (F'.keep b o e), F'.above⟩
      have hcl₂ : CellsLive (newCells scope C) h₂ := fun c hc => by
        obtain ⟨v, o, ho, hd⟩ := hcl' c hc
        exact ⟨v, o, hk₂ c o (hcw c hc) ho, hd⟩
      let fpAll : List Addr := (List.range h₂.objs.size).filter fun a => decide (a ≠ C ∧ a ∉ newCells scope C)
      have hall : ∀ b o, b ≠ C → b ∉ newCells scope C → h₂.get? b = some o → b ∈ fpAll := fun b o h1 h2 e =>
        List.mem_filter.mpr ⟨List.mem_range.mpr (Heap.lt_size e), by simp [h1, h2]⟩
      have hCl : C ∉ fpAll := fun hm => by
        have := (List.mem_filter.mp hm).2
        simp at this
      have hled : ∀ p ∈ ownOf hb fpAll h₂, p.1 ∉ newCells scope C := fun p hp => by
        have := ownOf_sub p hp
        have := (List.mem_filter.mp this).2
        simp at this
        exact this.2
      have N₂ : News hb C h₂ (ownOf hb fpAll h₂) := news_ownOf hCl
      have hTl : ∀ p ∈ T, p ∈ ownOf hb fpAll h₂ := fun p hp => by
        obtain ⟨e1, e2, e3, e4, e5, e6⟩ := hT p hp
        have e7 := hk₂ _ _ e5 e1
        exact mem_ownOf (hall _ _ e3 e6 e7) e2 e7
      have keepAll : ∀ (h₃ : Heap) m₃ tl, Fr hb C h₃ m₃ → News hb C h₃ (tl ++ ownOf hb fpAll h₂) → ∀ b o, b ≠ C → b ∉ newCells scope C → h₂.get? b = some o → h₃.get? b = some o := by
        intro h₃ m₃ tl F₃ N₃ b o h1 h2 e
        cases q : hb.get? b with
        | some o' =>
          have := F₂.keep b o' q
          rw [e] at this; cases this
          exact F₃.keep b _ q
        | none => exact (N₃ _ (List.mem_append_right _ (mem_ownOf (hall b o h1 h2 e) q e))).1
      have tlOk : ∀ (h₃ : Heap) tl, News hb C h₃ (tl ++ ownOf hb fpAll h₂) → (∀ p ∈ tl, ∀ q ∈ ownOf hb fpAll h₂, p.1 ≠ q.1) → (∀ p ∈ tl, p.1 ∉ newCells scope C) →
          ∀ p ∈ tl, h₃.get? p.1 = some p.2 ∧ hb.get? p.1 = none ∧ p.1 ≠ C ∧ p.1 ≠ D ∧ p.1 ∉ wr ∧ p.1 ∉ newCells scope C := by
        intro h₃ tl N₃ hne hcn p hp
        have z := N₃ p (List.mem_append_left _ hp)
        have hD₂ := hk₂ _ _ hDw hD'
        refine ⟨z.1, z.2.2, z.2.1, hne p hp _ (mem_ownOf (hall D _ hDC hDcs hD₂) (fresh D (Nat.le_refl _)) hD₂), fun hm => ?_, hcn p hp⟩
        obtain ⟨o, ho⟩ := hlive _ _ hst₂ _ hm
        exact hne p hp _ (mem_ownOf (hall p.1 o z.2.1 (hcn p hp) ho) (hwr _ hm) ho) rfl
      refine wpAny_mono (turn C i v h₂ tk₂ m' (ownOf hb fpAll h₂) ys T (by omega) hlt hP hA F₂ N₂ hled hcl₂ hTl) (fun _ s₃ h₃ => wpAny_mono h₃ (fun ok s₄ h₄ => ?_) fun _ _ x => x) fun _ _ x => x
      cases ok with
      | false =>
        simp only [Bool.false_eq_true, if_false] at h₄ ⊢
        obtain ⟨h₅, tk₅, m₅, tl, rfl, F₅, N₅, hne, hcn, hcl₅, hA₅⟩ := h₄
        have kA := keepAll h₅ m₅ tl F₅ N₅
        refine ⟨n + 1 - (i + 1), by omega, h₅, tk₅, m₅, ys, tl ++ T, i + 1, kk, rfl, ?_, kA D _ hDC hDcs (hk₂ _ _ hDw hD'), F₅, ?_, hcl₅, by simpa using hA₅, Nat.le_succ_of_le hys, hlt, rfl⟩
        · exact WK.frame _ _ _ hst₂ fun b hb' o e => kA b o (fun q => hCf (q ▸ hb')) (fun q => hcf b q hb') e
        · intro p hp
          rcases List.mem_append.mp hp with hp | hp
          · exact tlOk h₅ tl N₅ hne hcn p hp
          · obtain ⟨e1, e2, e3, e4, e5, e6⟩ := hT p hp
            exact ⟨kA _ _ e3 e6 (hk₂ _ _ e5 e1), e2, e3, e4, e5, e6⟩
      | true =>
        simp only [if_true] at h₄ ⊢
        refine wpAny_mono h₄ (fun y s₅ h₅ => ?_) fun _ _ x => x
        obtain ⟨h₅, tk₅, m₅, tl, rfl, F₅, N₅, hne, hcn, hcl₅, hA₅⟩ := h₅
        have kA := keepAll h₅ m₅ tl F₅ N₅
        have hD₅ := kA D _ hDC hDcs (hk₂ _ _ hDw hD')
        refine wpAny_list_append_plain (items := ys.toArray) (hsz := by rw [List.size_toArray]; omega) ⟨kk, hD₅⟩ fun h₆ hl₆ hs₆ => ?_
        obtain ⟨k₆, hl₆⟩ := hl₆
        have F₆ : Fr hb C h₆ m₅ := F₅.change hs₆ hDC (fresh D (Nat.le_refl _))
        refine ⟨n + 1 - (i + 1), by omega, h₆, tk₅, m₅, ys ++ [y], tl ++ T, i + 1, k₆, rfl, ?_, by simpa using hl₆, F₆, ?_, ?_, by simpa using hA₅, by simp; omega, hlt, rfl⟩
        · exact WK.frame _ _ _ hst₂ fun b hb' o e => hs₆.extBut b o (fun q => hDf (q ▸ hb')) (kA b o (fun q => hCf (q ▸ hb')) (fun q => hcf b q hb') e)
        · intro p hp
          rcases List.mem_append.mp hp with hp | hp
          · obtain ⟨e1, e2, e3, e4, e5, e6⟩ := tlOk h₅ tl N₅ hne hcn p hp
            exact ⟨hs₆.extBut _ _ e4 e1, e2, e3, e4, e5, e6⟩
          · obtain ⟨e1, e2, e3, e4, e5, e6⟩ := hT p hp
            exact ⟨hs₆.extBut _ _ e4 (kA _ _ e3 e6 (hk₂ _ _ e5 e1)), e2, e3, e4, e5, e6⟩
        · intro c hc
          obtain ⟨v, o, ho, hd⟩ := hcl₅ c hc
          exact ⟨v, o, hs₆.extBut c o (fun q => hDcs (q ▸ hc)) ho, hd⟩
    · have hin : i = n := by omega
      subst hin
      refine WK.done _ _ _ hst' fun h₂ tk₂ hk₂ => ?_
      exact hRR D C h₂ tk₂ m' ys T kk (fresh D (Nat.le_refl _)) (fresh C (by omega)) hDC (F'.ns.at' fun o e => hk₂ _ o hCw e) (hk₂ _ _ hDw hD')
        (fun p hp => let ⟨e1, e2, e3, e4, e5, _⟩ := hT p hp; ⟨hk₂ _ _ e5 e1, e2, e3, e4⟩) (fun b o e => hk₂ b o (oldw b o e) (F'.keep b o e)) hys hA
  subst hCC
  exact codeAny_compStart_list (loop _ rfl) (WK.self 0 _ _ _ hst₁ (loop _ rfl))
end

def CompAt (prog : Program) (w : World) (A : Around) (hb : Heap) (env : Env) (scope : Scope) (cl : List (Str × Addr)) (tgt : PySem.Expr) (ifs : List PySem.Expr) (elt : PySem.Expr) (Done : Addr → List Value → List (Addr × Obj) → Nat → Heap → Nat → Prop) (it : Value) (s₂ : Shared) : Prop :=
  ∃ I fp wr n P St Acc, it = .ref I ∧ Walks prog w A I fp wr n P St ∧ n ≤ sizeLine ∧ St 0 s₂.heap ∧ (∀ b ∈ fp, b < s₂.heap.objs.size) ∧ (∀ i h, St i h → ∀ b ∈ wr, ∃ o, h.get? b = some o) ∧ (∀ b ∈ wr, hb.get? b = none) ∧ Grown hb s₂.heap ∧ hb.objs.size ≤ s₂.heap.objs.size ∧
    (∀ i (s : Shared) v (Q : Unit → Shared → Prop) (E : Value → Shared → Prop), St i s.heap → Q () s → wpAny (model prog w) A (letOwnedTupleGo tgt (.ref I) v) Q E s) ∧
    Acc 0 [] [] ∧ CompTurn prog w A hb env scope cl tgt ifs elt n P Acc s₂ ∧
    (∀ D h' tk ys T k, Grown hb h' → Fresh hb h' ((D, W.listOf ys.toArray k) :: T) → (∀ p ∈ T, p.1 ≠ D) → ys.length ≤ n → Acc n ys T → Done D ys T k h' tk)

section
variable {prog : Program} {w : World} {A : Around} {E : Value → Shared → Prop} {s : Shared} {env : Env}
theorem comp_eval {elt tgt iter : PySem.Expr} {ifs : List PySem.Expr} {scope : Scope} {cl : List (Str × Addr)} {pos : Pos} {Q : Value → Shared → Prop}
    (hclos : closureFor scope env = pure cl) (hkind : scope.kind = .function) (hnames : ∀ y ∈ scope.names, y.2 = .local → scope.names.lookup y.1 = some .local)
    (hs : ∀ x, foldedSetIterable iter env x = pure x)
    (h : wpAny (model prog w) A (eval iter env) (fun xv s₁ => wpAny (model prog w) A (pyIter xv) (fun it s₂ => CompAt prog w A s₁.heap env scope cl tgt ifs elt (fun D _ _ _ h' tk => Q (.ref D) { s₂ with heap := h', toks := tk }) it s₂) E s₁) E s) :
    wpAny (model prog w) A (eval (.ListComp elt [⟨tgt, iter, ifs, 0⟩] scope pos) env) Q E s := by
  rw [eval_ListComp]
  refine wpAny_comprehension_free (use := none) rfl hs hclos hkind hnames (wpAny_mono h (fun xv s₁ h₁ => wpAny_mono h₁ (fun it s₂ h₂ => ?_) fun _ _ e => e) fun _ _ e => e)
  obtain ⟨I, fp, wr, n, P, St, Acc, rfl, WK, hsz, hst, hfp, hlive, hwr, hg, hle, hown, hacc, turn, done⟩ := h₂
  refine comp_block (RR := fun acc C => compPost (model prog w) A E none Q acc C) WK hsz hst hfp hlive hwr hg hle hown hacc turn ?_
  intro D C h' tk m' ys T k hD hC hDC hn hl hT hg' hys hA
  refine ⟨m', hn, fun h'' hs'' => done D h'' tk ys T k (fun b o e => hs''.extBut b o (by rintro rfl; rw [hC] at e; cases e) (hg' b o e)) ?_ (fun p hp => (hT p hp).2.2.2) hys hA⟩
  intro p hp
  rcases List.mem_cons.mp hp with rfl | hp
  · exact ⟨hs''.extBut _ _ hDC hl, hD⟩
  · exact ⟨hs''.extBut _ _ (hT p hp).2.2.1 (hT p hp).1, (hT p hp).2.1⟩

/-- «y = [..]» where y is a plain local of the frame -/
theorem comp_assign {h₀ : Heap} {L : Addr} {elt tgt iter : PySem.Expr} {ifs : List PySem.Expr} {scope : Scope} {cl : List (Str × Addr)} {y : Str} {py pos spos : Pos} {Q : Flow → Shared → Prop}
    (hsw : swapsWith (.ListComp elt [⟨tgt, iter, ifs, 0⟩] scope pos) (some (.Name y py)) spos.line env = pure true)
    (hclos : closureFor scope env = pure cl) (hkind : scope.kind = .function) (hnames : ∀ y ∈ scope.names, y.2 = .local → scope.names.lookup y.1 = some .local)
    (hs : ∀ x, foldedSetIterable iter env x = pure x) (hL : env.locals = L) (hy : env.kindOf y = some .local) (hp : (env.scope.kind == .class || (env.scope.kind == .module && env.locals != env.globals)) = false)
    (h : wpAny (model prog w) A (eval iter env) (fun xv s₁ => ∃ m news, Fr h₀ L s₁.heap m ∧ News h₀ L s₁.heap news ∧ wpAny (model prog w) A (pyIter xv) (fun it s₂ => CompAt prog w A s₁.heap env scope cl tgt ifs elt
      (fun D ys T k _ _ => ∀ h'' tk', Fr h₀ L h'' (fun z => if z = y then some (.ref D) else m z) → News h₀ L h'' (((D, W.listOf ys.toArray k) :: T) ++ news) → Q .next { s₂ with heap := h'', toks := tk' }) it s₂) E s₁) E s) :
    wpAny (model prog w) A (exec (.Assign [.Name y py] (.ListComp elt [⟨tgt, iter, ifs, 0⟩] scope pos) spos) env) Q E s := by
  subst hL
  rw [exec_Assign_Name_used _ _ _ _ hsw]
  refine wpAny_bind (wpAny_standAt (wpAny_bind ?_))
  show wpAny _ A (do let _ ← comprehension (.ListComp elt [⟨tgt, iter, ifs, 0⟩] scope pos) scope env _ (newList []) false (eval iter env) (some (assign (.Name y py) env))) _ _ s
  refine wpAny_bind (wpAny_mono (wpAny_comprehension_free (use := some (assign (.Name y py) env)) (Q := fun _ s' => Q .next s') rfl hs hclos hkind hnames
    (wpAny_mono h (fun xv s₁ h₁ => ?_) fun _ _ e => e)) (fun _ s' hq => wpAny_pure (wpAny_pure hq)) fun _ _ e => e)
  obtain ⟨m, news, F, N, h₁⟩ := h₁
  refine wpAny_mono h₁ (fun it s₂ h₂ => ?_) fun _ _ e => e
  obtain ⟨I, fp, wr, n, P, St, Acc, rfl, WK, hsz, hst, hfp, hlive, hwr, hg, hle, hown, hacc, turn, done⟩ := h₂
  refine comp_block (RR := fun acc C => compPost (model prog w) A E (some (assign (.Name y py) env)) (fun _ s' => Q .next s') acc C) WK hsz hst hfp hlive hwr hg hle hown hacc turn ?_
  intro D C h' tk m' ys T k hD hC hDC hn hl hT hg' hys hA
  have hf : Fresh s₁.heap h' ((D, W.listOf ys.toArray k) :: T) := fun p hp => by
    rcases List.mem_cons.mp hp with rfl | hp
    · exact ⟨hl, hD⟩
    · exact ⟨(hT p hp).1, (hT p hp).2.1⟩
  have fin := done D h' tk ys T k hg' hf (fun p hp => (hT p hp).2.2.2) hys hA
  obtain ⟨oL, _, _, hoL, _⟩ := id F.ns
  have hLC : env.locals ≠ C := by rintro rfl; rw [hC] at hoL; cases hoL
  show wpAny _ A (assign (.Name y py) env (.ref D)) _ _ _
  refine wpAny_assign_Name (wpAny_storeName_local hy ((F.keeps hg').ns) (fun h₂ hn₂ hs₂ => ?_) hp)
  refine ⟨m', hn.sameBut hs₂ (Ne.symm hLC), fun h₃ hs₃ => ?_⟩
  have kp : ∀ b o, b ≠ env.locals → s₁.heap.get? b = some o → h₃.get? b = some o := fun b o hb e => hs₃.extBut b o (by rintro rfl; rw [hC] at e; cases e) (hs₂.extBut b o hb (hg' b o e))
  refine fin h₃ _ ⟨hn₂.sameBut hs₃ hLC, fun b o e => kp b o (Nat.ne_of_lt (Nat.lt_of_lt_of_le (Heap.lt_size e) F.above)) (F.keep b o e), F.above⟩ ?_
  have hfL : ∀ p ∈ ((D, W.listOf ys.toArray k) :: T), p.1 ≠ env.locals := fun p hp e => by
    have := (hf p hp).2
    rw [e, hoL] at this; cases this
  have hfC : ∀ p ∈ ((D, W.listOf ys.toArray k) :: T), p.1 ≠ C := fun p hp => by
    rcases List.mem_cons.mp hp with rfl | hp
    · exact hDC
    · exact (hT p hp).2.2.1
  intro p hp
  rcases List.mem_append.mp hp with hp | hp
  · refine ⟨hs₃.extBut _ _ (hfC p hp) (hs₂.extBut _ _ (hfL p hp) (hf p hp).1), hfL p hp, ?_⟩
    cases q : h₀.get? p.1 with
    | none => rfl
    | some o => have := (hf p hp).2; rw [F.keep _ _ q] at this; cases this
  · exact ⟨kp _ _ (N p hp).2.1 (N p hp).1, (N p hp).2⟩
end

section
variable {prog : Program} {w : World} {A : Around} {E : Value → Shared → Prop} {s : Shared} {env : Env} {scope : Scope} {cl : List (Str × Addr)} {tgt : PySem.Expr} {ifs : List PySem.Expr} {elt : PySem.Expr}
theorem CompTurn.push {hb : Heap} {n : Nat} {P : Nat → Value → Prop} {Acc : Nat → List Value → List (Addr × Obj) → Prop} {o : Obj} (turn : CompTurn prog w A hb env scope cl tgt ifs elt n P Acc s) :
    CompTurn prog w A hb env scope cl tgt ifs elt n P Acc { s with heap := s.heap.push o } := by
  intro C i v h tk mc led ys T hC
  exact turn C i v h tk mc led ys T (Nat.le_trans (by show s.heap.objs.size ≤ (s.heap.push o).objs.size; rw [Heap.size_push]; exact Nat.le_succ _) hC)
theorem comp_next_none : s.heap.get? s.heap.objs.size = none := by
  cases e : s.heap.get? s.heap.objs.size with
  | none => rfl
  | some o => exact absurd (Heap.lt_size e) (Nat.lt_irrefl _)

/-- over a list -/
theorem comp_list {ax : Addr} {vs : List Value} {Acc : Nat → List Value → List (Addr × Obj) → Prop} {Done : Shared → Addr → List Value → List (Addr × Obj) → Nat → Heap → Nat → Prop} (hh : A.handled = none) (hl : s.heap.IsList ax vs.toArray) (hsz : vs.length ≤ sizeLine)
    (hown : ∀ (s : Shared) (I : Addr) v (Q : Unit → Shared → Prop) (E : Value → Shared → Prop), (∃ o, s.heap.get? I = some o ∧ o.cls = .type "list_iterator") → Q () s → wpAny (model prog w) A (letOwnedTupleGo tgt (.ref I) v) Q E s)
    (hacc : Acc 0 [] []) (turn : CompTurn prog w A s.heap env scope cl tgt ifs elt vs.length (fun i v => vs[i]? = some v) Acc s)
    (done : ∀ (o : Obj) D h' tk ys T k, Grown s.heap h' → Fresh s.heap h' ((D, W.listOf ys.toArray k) :: T) → (∀ p ∈ T, p.1 ≠ D) → ys.length ≤ vs.length → Acc vs.length ys T → Done { s with heap := s.heap.push o } D ys T k h' tk) :
    wpAny (model prog w) A (pyIter (.ref ax)) (fun it s₂ => CompAt prog w A s.heap env scope cl tgt ifs elt (Done s₂) it s₂) E s := by
  have hlt : ax < s.heap.objs.size := by obtain ⟨_, e, _⟩ := hl; exact Heap.lt_size e
  have WK : Walks prog w A s.heap.objs.size [s.heap.objs.size, ax] [s.heap.objs.size] vs.length (fun i v => vs[i]? = some v) (fun i h => h.IsListIter s.heap.objs.size ax i ∧ h.IsList ax vs.toArray) := by
    have := Walks.list (prog := prog) (w := w) hh s.heap.objs.size ax (Nat.ne_of_lt hlt) vs.toArray
    simpa using this
  refine wpAny_pyIter_list hl ⟨s.heap.objs.size, [s.heap.objs.size, ax], [s.heap.objs.size], vs.length, _, _, Acc, rfl, WK, hsz, ⟨⟨_, Heap.get?_push_size _ rfl, rfl, rfl⟩, hl.push _⟩, ?_, ?_, ?_, fun b o e => Heap.get?_push_of_some _ e, ?_, ?_, hacc, turn.push, done _⟩
  · intro b hb
    show b < (s.heap.push _).objs.size
    rw [Heap.size_push]
    rcases List.mem_cons.mp hb with rfl | hb
    · exact Nat.lt_succ_self _
    · rw [List.mem_singleton.mp hb]; exact Nat.lt_succ_of_lt hlt
  · rintro i h ⟨⟨o, ho, _⟩, _⟩ b hb
    rw [List.mem_singleton.mp hb]; exact ⟨o, ho⟩
  · intro b hb
    rw [List.mem_singleton.mp hb]; exact comp_next_none
  · show s.heap.objs.size ≤ (s.heap.push _).objs.size
    rw [Heap.size_push]; exact Nat.le_succ _
  · rintro i s' v Q E ⟨⟨o, ho, hc, _⟩, _⟩ hq
    exact hown s' _ v Q E ⟨o, ho, hc⟩ hq

/-- over a text -/
theorem comp_str {z : Str} {t : Tok} {x : Str} {px : Pos} {Acc : Nat → List Value → List (Addr × Obj) → Prop} {Done : Shared → Addr → List Value → List (Addr × Obj) → Nat → Heap → Nat → Prop} (hh : A.handled = none) (hsz : z.cps.size ≤ sizeLine)
    (hacc : Acc 0 [] []) (turn : CompTurn prog w A s.heap env scope cl (.Name x px) ifs elt z.cps.size (SignAt z) Acc s)
    (done : ∀ (o : Obj) D h' tk ys T k, Grown s.heap h' → Fresh s.heap h' ((D, W.listOf ys.toArray k) :: T) → (∀ p ∈ T, p.1 ≠ D) → ys.length ≤ z.cps.size → Acc z.cps.size ys T → Done { s with heap := s.heap.push o } D ys T k h' tk) :
    wpAny (model prog w) A (pyIter (.str z t)) (fun it s₂ => CompAt prog w A s.heap env scope cl (.Name x px) ifs elt (Done s₂) it s₂) E s := by
  have fpl : ∀ o : Obj, ∀ b ∈ [s.heap.objs.size], b < (s.heap.push o).objs.size := fun o b hb => by
    rw [List.mem_singleton.mp hb, Heap.size_push]; exact Nat.lt_succ_self _
  have wrn : ∀ b ∈ [s.heap.objs.size], s.heap.get? b = none := fun b hb => by rw [List.mem_singleton.mp hb]; exact comp_next_none
  have le : ∀ o : Obj, s.heap.objs.size ≤ (s.heap.push o).objs.size := fun o => by rw [Heap.size_push]; exact Nat.le_succ _
  have live : ∀ T (i : Nat) (h : Heap), h.IsStrIter s.heap.objs.size T z t i → ∀ b ∈ [s.heap.objs.size], ∃ o, h.get? b = some o := by
    rintro T i h ⟨o, ho, _⟩ b hb
    rw [List.mem_singleton.mp hb]; exact ⟨o, ho⟩
  cases ha : z.cps.all (· < 128)
  · exact wpAny_pyIter_wide ha ⟨_, _, _, _, _, _, Acc, rfl, Walks.strWide hh _ z t, hsz, ⟨_, Heap.get?_push_size _ rfl, rfl, rfl⟩, fpl _, live _, wrn, fun b o e => Heap.get?_push_of_some _ e, le _, fun _ _ _ _ _ _ hq => wpAny_pure hq, hacc, turn.push, done _⟩
  · exact wpAny_pyIter_ascii ha ⟨_, _, _, _, _, _, Acc, rfl, Walks.strAscii hh _ z t, hsz, ⟨_, Heap.get?_push_size _ rfl, rfl, rfl⟩, fpl _, live _, wrn, fun b o e => Heap.get?_push_of_some _ e, le _, fun _ _ _ _ _ _ hq => wpAny_pure hq, hacc, turn.push, done _⟩

/-- over a range -/
theorem comp_range {r : Addr} {a b : Int} {t u v : Tok} {n : Nat} {x : Str} {px : Pos} {Acc : Nat → List Value → List (Addr × Obj) → Prop} {Done : Shared → Addr → List Value → List (Addr × Obj) → Nat → Heap → Nat → Prop} (hh : A.handled = none)
    (hr : IsRange s.heap r a b 1 t u v) (hsmall : Builtin.Range.small a b 1 = true) (hn : Builtin.Range.rangeSize a b 1 = (n : Int)) (hsz : n ≤ sizeLine)
    (hacc : Acc 0 [] []) (turn : CompTurn prog w A s.heap env scope cl (.Name x px) ifs elt n (fun i v => ∃ t, v = .int (a + i * 1) t) Acc s)
    (done : ∀ (o : Obj) D h' tk ys T k, Grown s.heap h' → Fresh s.heap h' ((D, W.listOf ys.toArray k) :: T) → (∀ p ∈ T, p.1 ≠ D) → ys.length ≤ n → Acc n ys T → Done { s with heap := s.heap.push o } D ys T k h' tk) :
    wpAny (model prog w) A (pyIter (.ref r)) (fun it s₂ => CompAt prog w A s.heap env scope cl (.Name x px) ifs elt (Done s₂) it s₂) E s := by
  refine wpAny_pyIter_range hr hsmall ⟨_, _, _, n, _, _, Acc, rfl, Walks.range hh s.heap.objs.size a 1 n, hsz, ?_, ?_, ?_, ?_, fun b o e => Heap.get?_push_of_some _ e, ?_, fun _ _ _ _ _ _ hq => wpAny_pure hq, hacc, turn.push, done _⟩
  · show IsRangeIter _ _ _ _ _
    rw [hn]
    simpa using Heap.get?_push_size _ rfl
  · intro b hb
    rw [List.mem_singleton.mp hb, Heap.size_push]; exact Nat.lt_succ_self _
  · intro i h hi b hb
    rw [List.mem_singleton.mp hb]; exact ⟨_, hi⟩
  · intro b hb
    rw [List.mem_singleton.mp hb]; exact comp_next_none
  · show s.heap.objs.size ≤ (s.heap.push _).objs.size
    rw [Heap.size_push]; exact Nat.le_succ _

/-- over a dict's keys -/
theorem comp_dict {K : Type} [DecidableEq K] {knd : KeyKind prog w K} {d : Addr} {kvs : List (K × Value)} {ep : Nat} {x : Str} {px : Pos} {Acc : Nat → List Value → List (Addr × Obj) → Prop} {Done : Shared → Addr → List Value → List (Addr × Obj) → Nat → Heap → Nat → Prop} (hh : A.handled = none)
    (hd : (d == sysModules) = false) (hm : s.heap.DictAt knd d kvs ep) (hsz : kvs.length ≤ sizeLine)
    (hacc : Acc 0 [] []) (turn : CompTurn prog w A s.heap env scope cl (.Name x px) ifs elt kvs.length (fun i v => ∃ k x, kvs[i]? = some (k, x) ∧ knd.is k v = true) Acc s)
    (done : ∀ (o : Obj) D h' tk ys T k, Grown s.heap h' → Fresh s.heap h' ((D, W.listOf ys.toArray k) :: T) → (∀ p ∈ T, p.1 ≠ D) → ys.length ≤ kvs.length → Acc kvs.length ys T → Done { s with heap := s.heap.push o } D ys T k h' tk) :
    wpAny (model prog w) A (pyIter (.ref d)) (fun it s₂ => CompAt prog w A s.heap env scope cl (.Name x px) ifs elt (Done s₂) it s₂) E s := by
  have hlt : d < s.heap.objs.size := by obtain ⟨_, _, e, _⟩ := hm; exact Heap.lt_size e
  refine wpAny_pyIter_dict hd hm ⟨_, _, _, _, _, _, Acc, rfl, Walks.dictKeys hh s.heap.objs.size d (Nat.ne_of_lt hlt) kvs ep, hsz, ⟨⟨_, Heap.get?_push_size _ rfl, rfl, rfl⟩, hm.at' fun o e => Heap.get?_push_of_some _ e⟩, ?_, ?_, ?_, fun b o e => Heap.get?_push_of_some _ e, ?_, fun _ _ _ _ _ _ hq => wpAny_pure hq, hacc, turn.push, done _⟩
  · intro b hb
    show b < (s.heap.push _).objs.size
    rw [Heap.size_push]
    rcases List.mem_cons.mp hb with rfl | hb
    · exact Nat.lt_succ_self _
    · rw [List.mem_singleton.mp hb]; exact Nat.lt_succ_of_lt hlt
  · rintro i h ⟨⟨o, ho, _⟩, _⟩ b hb
    rw [List.mem_singleton.mp hb]; exact ⟨o, ho⟩
  · intro b hb
    rw [List.mem_singleton.mp hb]; exact comp_next_none
  · show s.heap.objs.size ≤ (s.heap.push _).objs.size
    rw [Heap.size_push]; exact Nat.le_succ _

theorem own_name {x : Str} {px : Pos} (s : Shared) (I : Addr) (v : Value) (Q : Unit → Shared → Prop) (E : Value → Shared → Prop) (_ : ∃ o, s.heap.get? I = some o ∧ o.cls = .type "list_iterator") (hq : Q () s) :
    wpAny (model prog w) A (letOwnedTupleGo (.Name x px) (.ref I) v) Q E s := wpAny_pure hq
theorem own_tuple {elts : List PySem.Expr} {k : Nat} {px : Pos} (s : Shared) (I : Addr) (v : Value) (Q : Unit → Shared → Prop) (E : Value → Shared → Prop) (ho : ∃ o, s.heap.get? I = some o ∧ o.cls = .type "list_iterator") (hq : Q () s) :
    wpAny (model prog w) A (letOwnedTupleGo (.Tuple elts k px) (.ref I) v) Q E s := by
  obtain ⟨o, ho, hc⟩ := ho
  unfold letOwnedTupleGo
  cases v <;> try exact wpAny_pure hq
  dsimp only
  refine wpAny_bind (wpAny_load ho ?_)
  rw [hc]
  cases o.data <;> exact wpAny_pure hq
end

section
variable {prog : Program} {w : World} {M : Model} {A : Around} {E : Value → Shared → Prop} {s : Shared} {env : Env} {hb : Heap} {C : Addr} {mc : Str → Option Value} {led : List (Addr × Obj)} {cs : List Addr}
theorem name_in {x : Str} {pos : Pos} {v : Value} {Q : Value → Shared → Prop} (F : Fr hb C s.heap mc) (hL : env.locals = C) (hk : env.scope.kind = .function) (hl : env.kindOf x = some .local) (hv : mc x = some v) (h : Q v s)
    (hd : (x == ("__debug__" : Str)) = false) : wpAny M A (eval (.Name x pos) env) Q E s := wpAny_Name (wpAny_loadName_local hk hl (hL ▸ F.ns) hv h) hd
theorem name_cellAt {x : Str} {pos : Pos} {c : Addr} {v : Value} {Q : Value → Shared → Prop} (hk : env.scope.kind = .function) (hl : env.kindOf x = some .cell) (hc : env.cells.lookup x = some c) (hv : s.heap.IsCell c (some v)) (h : Q v s)
    (hd : (x == ("__debug__" : Str)) = false) : wpAny M A (eval (.Name x pos) env) Q E s := wpAny_Name (wpAny_loadName_cell hk hl hc hv h) hd
theorem name_freeAt {x : Str} {pos : Pos} {c : Addr} {v : Value} {Q : Value → Shared → Prop} (hk : env.scope.kind = .function) (hl : env.kindOf x = some .free) (hc : env.cells.lookup x = some c) (hv : s.heap.IsCell c (some v)) (h : Q v s)
    (hn : (x == ("__classdict__" : Str)) = false) (hd : (x == ("__debug__" : Str)) = false) : wpAny M A (eval (.Name x pos) env) Q E s := wpAny_Name (wpAny_loadName_free hk hl hc hv h hn) hd
theorem bind_local {x : Str} {px : Pos} {v : Value} {Q : Unit → Shared → Prop} (F : Fr hb C s.heap mc) (N : News hb C s.heap led) (hL : env.locals = C) (hl : env.kindOf x = some .local)
    (hp : (env.scope.kind == .class || (env.scope.kind == .module && env.locals != env.globals)) = false)
    (h : ∀ h', Fr hb C h' (fun y => if y = x then some v else mc y) → News hb C h' led → Heap.SameBut C s.heap h' → Q () { s with heap := h', toks := s.toks + 1 }) : wpAny M A (assign (.Name x px) env v) Q E s := by
  subst hL
  exact wpAny_assign_Name (wpAny_storeName_local hl F.ns (fun h' hn hs => h h' (F.set hn hs) (N.set hs) hs) hp)
theorem bind_cell {x : Str} {px : Pos} {v : Value} {c : Addr} {Q : Unit → Shared → Prop} (F : Fr hb C s.heap mc) (N : News hb C s.heap led) (hk : env.scope.kind = .function) (hl : env.kindOf x = some .cell) (hc : env.cells.lookup x = some c)
    (hlive : ∃ v, s.heap.IsCell c v) (hcC : c ≠ C) (hcb : hb.get? c = none) (hled : ∀ p ∈ led, p.1 ≠ c)
    (h : ∀ h', Fr hb C h' mc → News hb C h' led → h'.IsCell c (some v) → Q () { s with heap := h' }) : wpAny M A (assign (.Name x px) env v) Q E s := by
  obtain ⟨v₀, hv₀⟩ := hlive
  refine wpAny_assign_Name (wpAny_storeName_cell hk hl hc hv₀ fun h' hv hs => h h' (F.change hs hcC hcb) (fun p hp => ?_) hv)
  exact ⟨(hs.2 _ (hled p hp)).trans (N p hp).1, (N p hp).2⟩
theorem CellsLive.nil {h : Heap} : CellsLive [] h := fun _ hc => nomatch hc
end
theorem range_size {a b : Int} (_ : 0 ≤ a) : Builtin.Range.rangeSize a b 1 = (((b - a).toNat : Nat) : Int) := by
  unfold Builtin.Range.rangeSize
  simp only [show (1 : Int) > 0 by decide, if_true, Int.ediv_one]
  split <;> omega
theorem range_fits {n : Int} (h0 : -100000 ≤ n) (h1 : n ≤ 100000) : Builtin.Range.rangeFitsLong n = true := by
  unfold Builtin.Range.rangeFitsLong
  simp
  omega
theorem range_small {a b : Int} (ha : 0 ≤ a) (ha' : a ≤ 10000) (hb : 0 ≤ b) (hb' : b ≤ 10000) : Builtin.Range.small a b 1 = true := by
  have e := range_size (b := b) ha
  have h1 : (0 : Int) ≤ (((b - a).toNat : Nat) : Int) := by omega
  have h2 : (((b - a).toNat : Nat) : Int) ≤ 10000 := by omega
  unfold Builtin.Range.small
  rw [e]
  simp only [Bool.and_eq_true, Bool.or_eq_true]
  refine ⟨⟨⟨⟨range_fits (by omega) (by omega), range_fits (by omega) (by omega)⟩, range_fits (by decide) (by decide)⟩, range_fits (by omega) (by omega)⟩, ?_⟩
  simp only [show (1 : Int) > 0 by decide, if_true]
  right
  exact range_fits (by omega) (by omega)
end Mine

/-! part HL -/
open PySem PySem.W PySem.Calls PyProof.Rows
set_option Elab.async false
set_option maxRecDepth 100000
set_option maxHeartbeats 8000000
namespace Mine

theorem fill_HL : PySem.Challenge.rw_mq0199_01 = PySem.Challenge.rw_mq0199_01 ∧ hd.heap_39 = hd.heap_39 := by
  k_fill
  exact ⟨rfl, rfl⟩

structure HSt where
  res : List Str
  part : Str
  escape : Bool
  quote : Bool
def hStep (st : HSt) (c : Nat) : HSt :=
  if st.escape then { st with part := st.part ++ ⟨#[c]⟩, escape := false }
  else if st.quote then
    if (⟨#[c]⟩ : Str) = Str.ofString "\\" then { st with escape := true }
    else if (⟨#[c]⟩ : Str) = Str.ofString "\"" then { st with part := st.part ++ ⟨#[c]⟩, quote := false }
    else { st with part := st.part ++ ⟨#[c]⟩ }
  else if (⟨#[c]⟩ : Str) = Str.ofString "," then { st with res := st.res ++ [st.part], part := Str.empty }
  else if (⟨#[c]⟩ : Str) = Str.ofString "\"" then { st with part := st.part ++ ⟨#[c]⟩, quote := true }
  else { st with part := st.part ++ ⟨#[c]⟩ }
def hFold (z : Str) (i : Nat) : HSt := (z.cps.toList.take i).foldl hStep ⟨[], Str.empty, false, false⟩
def hEnd (st : HSt) : List Str := if st.part.length = 0 then st.res else st.res ++ [st.part]
def httpList (z : Str) : List Str := (hEnd (hFold z z.cps.size)).map Txt.strip

structure HBound (st : HSt) (i : Nat) : Prop where
  part : st.part.length ≤ i
  len : st.res.length ≤ i
  each : ∀ a ∈ st.res, a.length ≤ i
theorem one_length (c : Nat) : (⟨#[c]⟩ : Str).length = 1 := rfl
theorem hStep_bound {st : HSt} {i : Nat} {c : Nat} (h : HBound st i) : HBound (hStep st c) (i + 1) := by
  obtain ⟨h1, h2, h3⟩ := h
  have h3' : ∀ a ∈ st.res, a.length ≤ i + 1 := fun a ha => Nat.le_succ_of_le (h3 a ha)
  have hp : (st.part ++ (⟨#[c]⟩ : Str)).length ≤ i + 1 := by rw [Str.length_append, one_length]; omega
  unfold hStep
  (repeat' split) <;> refine ⟨?_, ?_, ?_⟩ <;> dsimp only <;> first
    | exact hp
    | exact h3'
    | omega
    | (simp; omega)
    | (exact Nat.zero_le _)
    | (intro a ha; rcases List.mem_append.mp ha with ha | ha; exact h3' a ha; rw [List.mem_singleton.mp ha]; omega)
theorem hFold_succ {z : Str} {i c : Nat} (hc : z.cps[i]? = some c) : hFold z (i + 1) = hStep (hFold z i) c := by
  unfold hFold
  have : z.cps.toList[i]? = some c := by rw [Array.getElem?_toList]; exact hc
  rw [List.take_add_one, this, List.foldl_append]
  rfl
theorem hFold_bound (z : Str) : ∀ i, i ≤ z.cps.size → HBound (hFold z i) i := by
  intro i
  induction i with
  | zero => intro _; exact ⟨Nat.zero_le _, Nat.zero_le _, fun a ha => by cases ha⟩
  | succ i ih =>
    intro hi
    have hlt : i < z.cps.size := by omega
    rw [hFold_succ (c := z.cps[i]) (by simp [hlt])]
    exact hStep_bound (ih (by omega))
def HMid (s : Shared) (L a : Addr) (res : List Str) (part : Str) (f : Flow) (s' : Shared) : Prop :=
  f = .next ∧ ∃ l n h' tk m', s' = { s with heap := h', toks := tk } ∧ Fr s.heap L h' m' ∧ News s.heap L h' [(a, W.listOf (strValues l).toArray n)] ∧ m' (Str.ofString "res") = some (.ref a) ∧
    l.map (·.1) = (if part.length = 0 then res else res ++ [part]) ∧ l.length ≤ 100001 ∧ ∀ p ∈ l, p.1.length ≤ 100000
local macro_rules | `(tactic| walk_at "mine none") => `(tactic| fail "none")
local macro_rules | `(tactic| walk_at "eval Name") => `(tactic| (k_here; (with_reducible show wpAny _ _ (eval _ (compEnvD _ _ _ _)) _ _ _); k_dflt (refine' name_in ?F ?a ?b ?c ?v ?_ ?d; (case a => rfl); (case b => rfl); (case c => rfl); (case F => k_asm); (case v => rfl); (case d => decide); k_whole)))
section
variable {prog : Program} {w : World} {E : Value → Shared → Prop} {s : Shared} {mean : ExcName → Option Value} {mg mb : Str → Option Value} {Q : Value → Shared → Prop}

theorem hl_spec {z : Str} {t : Tok} (X : (hd.heap_39 w.params).In s.heap) (T : TopM mean mg mb s.heap) (hz : z.length ≤ 100000)
    (h : ∀ a l n h' tk', Grown s.heap h' → Fresh s.heap h' [(a, W.listOf (strValues l).toArray n)] → l.map (·.1) = httpList z → Q (.ref a) { s with heap := h', toks := tk' }) :
    wpAny (model prog w) (lvl 400) (call (.ref 40) [.str z t]) Q E s := by
  refine' enter X T ?ho ?hcd ?hroom ?hbind ?hloc ?h ?c1 ?c2 ?c3 ?c4
  case ho => k_is
  case hcd => k_is
  case hroom => decide
  case hbind => exact BindsTo.of_eq rfl
  case hloc => exact locs rfl
  case c1 => rfl
  case c2 => rfl
  case c3 => rfl
  case c4 => decide
  intro L h₁ hL F N
  try dsimp only
  k_fold
  repeat' (first | (k_unfold; (try dsimp only)) | (k_end; wrow_close) | ((fail_if_success (with_reducible show wpAny _ _ (exec (Stmt.For _ _ _ _ _) _) _ _ _)); walk1) | ((fail_if_success (with_reducible show wpAny _ _ (exec (Stmt.For _ _ _ _ _) _) _ _ _)); dsimp only; walk1) | ((fail_if_success (with_reducible show wpAny _ _ (exec (Stmt.For _ _ _ _ _) _) _ _ _)); leave1; walk_say "STEP leave1"; try dsimp only) | fail "no step")
  rename Fr _ _ _ _ => F1
  rename News _ _ _ _ => N1
  rename_i a _ _ _ _ _ _
  refine For_invVF F1 rfl rfl ?_ (hE := PassesOwn.never)
  walk1
  refine str_iter (fun i m nx => ∃ l n tp, nx = [(a, W.listOf (strValues l).toArray n)] ∧ l.map (·.1) = (hFold z i).res ∧ m (Str.ofString "res") = some (.ref a) ∧ m (Str.ofString "part") = some (.str (hFold z i).part tp) ∧
    m (Str.ofString "escape") = some (.bool (hFold z i).escape) ∧ m (Str.ofString "quote") = some (.bool (hFold z i).quote)) rfl F1 N1 ⟨[], 0, _, rfl, rfl, rfl, rfl, rfl, rfl⟩ ?_ ?_
  · rintro i c tc m₁ nx hh tk own hc hoff ⟨l, n, tp, rfl, g0, g1, g2, g3, g4⟩ F2 N2
    have hi : i < z.cps.size := (Array.getElem?_eq_some_iff.mp hc).1
    have hB := hFold_bound z i (Nat.le_of_lt hi)
    have hS := hFold_succ hc
    have hzz : z.cps.size ≤ 100000 := hz
    obtain ⟨hb1, hb2, hb3⟩ := hB
    have hll : l.length = (hFold z i).res.length := by rw [← g0, List.length_map]
    rw [hS]
    generalize hFold z i = st at g0 g2 g3 g4 hb1 hb2 hb3 hll ⊢
    obtain ⟨res, part, escape, quote⟩ := st
    dsimp only at g0 g2 g3 g4 hb1 hb2 hb3 hll
    clear hS
    have F3 := fr_name5 F2 (x1 := Str.ofString "cur") (x2 := Str.ofString "res") (x3 := Str.ofString "part") (x4 := Str.ofString "escape") (x5 := Str.ofString "quote") rfl g1 g2 g3 g4
    clear F2 F1 N1
    have hone := one_length c
    k_steps
    · rename (escape = true) => he
      subst he
      rename Fr _ _ _ _ => F8
      rename News _ _ _ _ => N8
      have e : hStep ⟨res, part, true, quote⟩ c = ⟨res, part ++ ⟨#[c]⟩, false, quote⟩ := by
        unfold hStep
        simp []
      rw [e]
      exact InvEndG.intro F8 N8 ⟨l, n, _, rfl, g0, rfl, rfl, rfl, rfl⟩ hoff (fun p hp => List.mem_append.mpr (.inl hp)) (fun p hp => List.mem_append.mpr (.inr hp))
    · rename (escape = false) => he
      rename (quote = true) => hq
      rename ((_ == Str.ofString "\\") = true) => hk
      subst he hq
      have hk := eq_of_beq hk
      rename Fr _ _ _ _ => F8
      rename News _ _ _ _ => N8
      have e : hStep ⟨res, part, false, true⟩ c = ⟨res, part, true, true⟩ := by
        unfold hStep
        simp [hk]
      rw [e]
      exact InvEndG.intro F8 N8 ⟨l, n, _, rfl, g0, rfl, rfl, rfl, rfl⟩ hoff (fun p hp => List.mem_append.mpr (.inl hp)) (fun p hp => List.mem_append.mpr (.inr hp))
    · rename (escape = false) => he
      rename (quote = true) => hq
      rename ((_ == Str.ofString "\\") = false) => hk
      rename ((_ == Str.ofString "\"") = true) => hk2
      subst he hq
      have hk := ne_of_beq_false hk
      have hk2 := eq_of_beq hk2
      rename Fr _ _ _ _ => F8
      rename News _ _ _ _ => N8
      have e : hStep ⟨res, part, false, true⟩ c = ⟨res, part ++ ⟨#[c]⟩, false, false⟩ := by
        dsimp only [hStep]
        simp only [Bool.false_eq_true, if_false, if_true, if_neg hk, if_pos hk2]
      rw [e]
      exact InvEndG.intro F8 N8 ⟨l, n, _, rfl, g0, rfl, rfl, rfl, rfl⟩ hoff (fun p hp => List.mem_append.mpr (.inl hp)) (fun p hp => List.mem_append.mpr (.inr hp))
    · rename (escape = false) => he
      rename (quote = true) => hq
      rename ((_ == Str.ofString "\\") = false) => hk
      rename ((_ == Str.ofString "\"") = false) => hk2
      subst he hq
      have hk := ne_of_beq_false hk
      have hk2 := ne_of_beq_false hk2
      rename Fr _ _ _ _ => F8
      rename News _ _ _ _ => N8
      have e : hStep ⟨res, part, false, true⟩ c = ⟨res, part ++ ⟨#[c]⟩, false, true⟩ := by
        dsimp only [hStep]
        simp only [Bool.false_eq_true, if_false, if_true, if_neg hk, if_neg hk2]
      rw [e]
      exact InvEndG.intro F8 N8 ⟨l, n, _, rfl, g0, rfl, rfl, rfl, rfl⟩ hoff (fun p hp => List.mem_append.mpr (.inl hp)) (fun p hp => List.mem_append.mpr (.inr hp))
    · rename (escape = false) => he
      rename (quote = false) => hq
      rename ((_ == Str.ofString ",") = true) => hk
      subst he hq
      have hk := eq_of_beq hk
      rename Fr _ _ _ _ => F4
      refine app_list F4 N2 (own_ne hoff) (by rw [sizeLine_eq]; simp [strValues]; omega) ?_
      intro h5 F5 N5
      rw [strValues_snoc] at N5
      clear F4 N2
      k_steps
      rename Fr _ _ _ _ => F8
      rename News _ _ _ _ => N8
      have e : hStep ⟨res, part, false, false⟩ c = ⟨res ++ [part], Str.empty, false, false⟩ := by
        unfold hStep
        simp [hk]
      rw [e]
      exact InvEndG.intro F8 N8 ⟨l ++ [(part, tp)], n + 1, _, rfl, by rw [List.map_append, g0]; rfl, rfl, rfl, rfl, rfl⟩ hoff (fun p hp => by cases hp with | head => exact .head _ | tail _ h => cases h) (fun p hp => .tail _ hp)
    · rename (escape = false) => he
      rename (quote = false) => hq
      rename ((_ == Str.ofString ",") = false) => hk
      rename ((_ == Str.ofString "\"") = true) => hk2
      subst he hq
      have hk := ne_of_beq_false hk
      have hk2 := eq_of_beq hk2
      rename Fr _ _ _ _ => F8
      rename News _ _ _ _ => N8
      have e : hStep ⟨res, part, false, false⟩ c = ⟨res, part ++ ⟨#[c]⟩, false, true⟩ := by
        dsimp only [hStep]
        simp only [Bool.false_eq_true, if_false, if_true, if_neg hk, if_pos hk2]
      rw [e]
      exact InvEndG.intro F8 N8 ⟨l, n, _, rfl, g0, rfl, rfl, rfl, rfl⟩ hoff (fun p hp => List.mem_append.mpr (.inl hp)) (fun p hp => List.mem_append.mpr (.inr hp))
    · rename (escape = false) => he
      rename (quote = false) => hq
      rename ((_ == Str.ofString ",") = false) => hk
      rename ((_ == Str.ofString "\"") = false) => hk2
      subst he hq
      have hk := ne_of_beq_false hk
      have hk2 := ne_of_beq_false hk2
      rename Fr _ _ _ _ => F8
      rename News _ _ _ _ => N8
      have e : hStep ⟨res, part, false, false⟩ c = ⟨res, part ++ ⟨#[c]⟩, false, false⟩ := by
        dsimp only [hStep]
        simp only [Bool.false_eq_true, if_false, if_true, if_neg hk, if_neg hk2]
      rw [e]
      exact InvEndG.intro F8 N8 ⟨l, n, _, rfl, g0, rfl, rfl, rfl, rfl⟩ hoff (fun p hp => List.mem_append.mpr (.inl hp)) (fun p hp => List.mem_append.mpr (.inr hp))
  · rintro m₁ nx hh tk ⟨l, n, tp, rfl, g0, g1, g2, g3, g4⟩ F2 N2
    have hzz : z.cps.size ≤ 100000 := hz
    obtain ⟨hb1, hb2, hb3⟩ := hFold_bound z z.cps.size (Nat.le_refl _)
    have hll : l.length = (hFold z z.cps.size).res.length := by rw [← g0, List.length_map]
    unfold httpList hEnd at h
    generalize hFold z z.cps.size = st at h g0 g2 hb1 hb2 hb3 hll
    obtain ⟨res, part, escape, quote⟩ := st
    dsimp only at h g0 g2 hb1 hb2 hb3 hll
    have F3 := fr_name2 F2 (x1 := Str.ofString "res") (x2 := Str.ofString "part") g1 g2
    clear F2 F1 N1
    repeat' (first | (k_unfold; (try dsimp only)) | (k_end; wrow_close) | ((fail_if_success (with_reducible show wpAny _ _ (exec (Stmt.If (Expr.Name (Str.ofString "part") _) _ _ _) _) _ _ _)); walk1) | ((fail_if_success (with_reducible show wpAny _ _ (exec (Stmt.If (Expr.Name (Str.ofString "part") _) _ _ _) _) _ _ _)); dsimp only; walk1) | ((fail_if_success (with_reducible show wpAny _ _ (exec (Stmt.If (Expr.Name (Str.ofString "part") _) _ _ _) _) _ _ _)); leave1; walk_say "STEP leave1"; try dsimp only) | fail "no step")
    refine wpAny_mono (Q := HMid s L a res part) ?_ ?_ (fun _ _ e => e)
    · k_steps
      · refine app_list F3 N2 (fun _ h => nomatch h) (by rw [sizeLine_eq]; simp [strValues]; omega) ?_
        intro h5 F5 N5
        rw [strValues_snoc] at N5
        k_steps
        refine ⟨rfl, _, _, _, _, _, rfl, F5, N5, rfl, ?_, by simp; omega, ?_⟩
        · rw [if_neg (by omega), List.map_append, g0]; rfl
        · intro p hp
          rcases List.mem_append.mp hp with hp | hp
          · exact Nat.le_trans (hb3 p.1 (g0 ▸ List.mem_map.mpr ⟨p, hp, rfl⟩)) hzz
          · rw [List.mem_singleton.mp hp]; exact Nat.le_trans hb1 hzz
      · refine ⟨rfl, _, _, _, _, _, rfl, F3, N2, rfl, ?_, by omega, ?_⟩
        · rw [if_pos (by omega), g0]
        · intro p hp
          exact Nat.le_trans (hb3 p.1 (g0 ▸ List.mem_map.mpr ⟨p, hp, rfl⟩)) hzz
    · rintro f s' ⟨rfl, l3, n3, h3, tk3, m3, rfl, F4, N4, e1, e2, hlen, hsh⟩
      rw [← e2] at h
      clear F3 N2
      dsimp only
      have F5 := fr_name1 F4 e1
      clear F4
      repeat' (first | (k_unfold; (try dsimp only)) | (k_end; wrow_close) | ((fail_if_success (with_reducible show wpAny _ _ (eval (Expr.ListComp _ _ _ _) _) _ _ _)); walk1) | ((fail_if_success (with_reducible show wpAny _ _ (eval (Expr.ListComp _ _ _ _) _) _ _ _)); dsimp only; walk1) | ((fail_if_success (with_reducible show wpAny _ _ (eval (Expr.ListComp _ _ _ _) _) _ _ _)); leave1; walk_say "STEP leave1"; try dsimp only) | fail "no step")
      refine comp_eval (cl := []) rfl rfl (by decide) (fun _ => rfl) ?_
      walk1
      have X3 := X.keeps F5.keep
      have T3 := T.keeps F5.keep
      refine comp_list (vs := strValues l3) (Acc := fun i ys T => T = [] ∧ ∃ l', ys = strValues l' ∧ l'.map (·.1) = ((l3.take i).map (·.1)).map Txt.strip) ?_ ?_ ?_ own_name ?_ ?_ ?_
      · rfl
      · exact N4.isList (.head _)
      · rw [sizeLine_eq]; simp [strValues]; omega
      · exact ⟨rfl, [], rfl, rfl⟩
      · intro C i v hh tk mc led ys T hC hi hP hA F N hled hcl hT
        obtain ⟨rfl, l', rfl, hl'⟩ := hA
        obtain ⟨vi, ti, rfl, hvi⟩ : ∃ vi ti, v = .str vi ti ∧ l3[i]? = some (vi, ti) := by
          simp only [strValues, List.getElem?_map, Option.map_eq_some_iff] at hP
          obtain ⟨p, hp, rfl⟩ := hP
          exact ⟨p.1, p.2, rfl, hp⟩
        have hvl : vi.length ≤ 100000 := hsh (vi, ti) (List.mem_of_getElem? hvi)
        refine bind_local F N rfl rfl rfl ?_
        intro h6 F6 N6 _
        refine wpAny_tests_nil ?_
        simp only [if_true]
        clear F N F5 N4
        k_steps
        refine ⟨_, _, _, [], rfl, F6, N6, (fun _ h => nomatch h), (fun _ h => nomatch h), CellsLive.nil, rfl, l' ++ [(Txt.strip vi, _)], strValues_snoc l' _ _, ?_⟩
        rw [List.map_append, hl', List.take_add_one, hvi]
        simp
      · intro o D h6 tk6 ys T k hg hf hne hys hA
        obtain ⟨rfl, l', rfl, hl'⟩ := hA
        refine h D l' k h6 tk6 (Grown.trans F5.keep hg) ?_ ?_
        · intro p hp
          obtain ⟨e3, e4⟩ := hf p hp
          refine ⟨e3, ?_⟩
          cases q : s.heap.get? p.1 with
          | none => rfl
          | some o => rw [F5.keep _ _ q] at e4; cases e4
        · rw [hl']
          have : (strValues l3).length = l3.length := by simp [strValues]
          rw [this, List.take_length]
end
end Mine

/-! part FI -/
open PySem PySem.W PySem.Calls PyProof.Rows
set_option Elab.async false
set_option maxRecDepth 100000
set_option maxHeartbeats 8000000
namespace Mine

theorem fill_FI : PySem.Challenge.rw_mq0199_01 = PySem.Challenge.rw_mq0199_01 ∧ hd.heap_39 = hd.heap_39 := by
  k_fill
  exact ⟨rfl, rfl⟩

def intValues (l : List (Int × Tok)) : List Value := l.map fun p => .int p.1 p.2
theorem intValues_length (l : List (Int × Tok)) : (intValues l).length = l.length := by simp [intValues]
/-- one step of the law's own reader: the next place and what is reached -/
def fitsMore (x y : Str) (i : Nat) (r : List Int) : Nat × List Int :=
  if Txt.slice x (some (i : Int)) (some ((i : Int) + 3)) = Str.ofString "..." then (i + 3, (List.range ((y.length : Int) + 1 - r.headD 0).toNat).map fun (k : Nat) => r.headD 0 + (k : Int))
  else (i + 1, (r.filter fun j => Txt.slice y (some j) (some (j + 1)) == Txt.item x (i : Int)).map (· + 1))
def fitsGo (x y : Str) : Nat → Nat → List Int → List Int
  | 0, _, r => r
  | n + 1, i, r => if i < x.length ∧ r ≠ [] then fitsGo x y n (fitsMore x y i r).1 (fitsMore x y i r).2 else r
def lawFits (x y : Str) : Bool := decide ((y.length : Int) ∈ fitsGo x y x.length 0 [0])
theorem fitsMore_gt (x y : Str) (i : Nat) (r : List Int) : i < (fitsMore x y i r).1 := by
  unfold fitsMore; split <;> simp
theorem fitsGo_enough (x y : Str) : ∀ (n k i : Nat) (r : List Int), x.length - i ≤ n → x.length - i ≤ k → fitsGo x y n i r = fitsGo x y k i r := by
  intro n
  induction n with
  | zero =>
    intro k i r hn _
    cases k with
    | zero => rfl
    | succ k => unfold fitsGo; rw [if_neg (by omega)]
  | succ n ih =>
    intro k i r hn hk
    cases k with
    | zero => unfold fitsGo; rw [if_neg (by omega)]
    | succ k =>
      unfold fitsGo
      split
      · have := fitsMore_gt x y i r
        exact ih k _ _ (by omega) (by omega)
      · rfl
def fitsAt (x y : Str) (i : Nat) (r : List Int) : List Int := fitsGo x y (x.length - i) i r
theorem fitsAt_step {x y : Str} {i : Nat} {r : List Int} (hi : i < x.length) (hr : r ≠ []) : fitsAt x y i r = fitsAt x y (fitsMore x y i r).1 (fitsMore x y i r).2 := by
  unfold fitsAt
  obtain ⟨k, hk⟩ : ∃ k, x.length - i = k + 1 := ⟨x.length - i - 1, by omega⟩
  rw [hk]
  conv => lhs; unfold fitsGo
  rw [if_pos ⟨hi, hr⟩]
  have := fitsMore_gt x y i r
  exact fitsGo_enough x y _ _ _ _ (by omega) (by omega)
theorem fitsAt_end {x y : Str} {i : Nat} {r : List Int} (h : ¬ (i < x.length ∧ r ≠ [])) : fitsAt x y i r = r := by
  unfold fitsAt
  cases x.length - i with
  | zero => rfl
  | succ k => unfold fitsGo; rw [if_neg h]

def FiJ (x y : Str) (t u : Tok) (L : Addr) (ow og : Obj) (n : Nat) (m : Str → Option Value) (nx : List (Addr × Obj)) : Prop :=
  ∃ (i : Nat) (l : List (Int × Tok)) (a : Addr) (k : Nat) (oi : Obj) (ti : Tok), nx = [(a, W.listOf (intValues l).toArray k), (L + 1 + 1 + 1, oi), (L + 1 + 1, og), (L + 1, ow)] ∧ (@Ne Nat a (L + 1 + 1 + 1) ∧ @Ne Nat a (L + 1 + 1) ∧ @Ne Nat a (L + 1)) ∧ oi.data = .cell (some (.int i ti)) ∧
    m (Str.ofString "reach") = some (.ref a) ∧ fitsGo x y x.length 0 [0] = fitsAt x y i (l.map (·.1)) ∧ l.length ≤ 2000 ∧ (∀ p ∈ l, 0 ≤ p.1 ∧ p.1 ≤ 1001 + (i : Int)) ∧ i ≤ 1003 ∧ n = 2000 - i
theorem carried_ints : ∀ (ns : List Int) (ys : List Value), CarriedAll ys (ns.map PyData.int) → ∃ l, ys = intValues l ∧ l.map (·.1) = ns
  | [], _, .nil => ⟨[], rfl, rfl⟩
  | n :: ns, _, .cons hc r => by
    obtain ⟨l, rfl, hl⟩ := carried_ints ns _ r
    cases hc with
    | int i t => exact ⟨(n, t) :: l, rfl, by rw [List.map_cons, hl]⟩
theorem intValues_dat : ∀ l : List (Int × Tok), DatAll [] (intValues l) (l.map fun p => Dat.int p.1)
  | [] => .nil
  | p :: l => .cons (.int p.1 p.2) (intValues_dat l)
theorem int_ok (l : List (Int × Tok)) : ∀ d ∈ (l.map fun p => Dat.int p.1), kqdOk 8 d = true := by
  intro d hd
  obtain ⟨p, _, rfl⟩ := List.mem_map.mp hd
  rfl
section
variable {prog : Program} {w : World} {A : Around} {E : Value → Shared → Prop} {s : Shared} {h₀ : Heap} {L a b : Addr} {news : List (Addr × Obj)} {l : List (Int × Tok)} {k kb : Nat} {Q : Value → Shared → Prop}
theorem ne_nil_ints (N : News h₀ L s.heap news) (ma : (a, W.listOf (intValues l).toArray k) ∈ news) (mb : (b, W.listOf #[] kb) ∈ news) (hu : A.units + 64 < cLine) (h : Q (.bool (!decide (l = []))) s) :
    wpAny (model prog w) A (compareOp .NotEq (.ref a) (.ref b)) Q E s := by
  refine kqd_ne (n₁ := []) (n₂ := []) (es := []) N ma rfl rfl (intValues_dat l) (fun _ h => nomatch h) mb rfl (ys := []) rfl DatAll.nil (fun _ h => nomatch h) (int_ok l) (fun _ h => nomatch h) hu ?_
  have hiff : ((l.map fun p => Dat.int p.1) = []) ↔ l = [] := by cases l <;> simp
  rw [decide_eq_decide.mpr hiff]; exact h
theorem in_ints {x : Int} {tx : Tok} (N : News h₀ L s.heap news) (ma : (a, W.listOf (intValues l).toArray k) ∈ news) (hu : A.units + 64 < cLine) (h : Q (.bool (decide (x ∈ l.map (·.1)))) s) :
    wpAny (model prog w) A (compareOp .In (.int x tx) (.ref a)) Q E s := by
  refine kqd_isIn (n₁ := []) N ma rfl rfl (intValues_dat l) (fun _ h => nomatch h) (DatIn.int (news := []) x tx) (fun _ h => nomatch h) (int_ok l) rfl hu ?_
  have hiff : (Dat.int x ∈ (l.map fun p => Dat.int p.1)) ↔ x ∈ l.map (·.1) := by
    constructor
    · intro hq
      obtain ⟨p, hp, he⟩ := List.mem_map.mp hq
      cases he
      exact List.mem_map.mpr ⟨p, hp, rfl⟩
    · intro hm
      obtain ⟨p, hp, rfl⟩ := List.mem_map.mp hm
      exact List.mem_map.mpr ⟨p, hp, rfl⟩
  rw [decide_eq_decide.mpr hiff]; exact h
end
local macro_rules | `(tactic| walk_at "eval Name") => `(tactic| (k_here; (with_reducible show wpAny _ _ (eval _ (compEnvD _ _ _ _)) _ _ _); k_dflt (first
  | (refine' name_in ?F ?a ?b ?c ?v ?_ ?d; (case a => rfl); (case b => rfl); (case c => rfl); (case F => k_asm); (case v => rfl); (case d => decide); k_whole)
  | (refine' name_cellAt ?a ?b ?c (Heap.IsCell.keeps ?e (Fr.keep ?F)) ?_ ?d; (case a => rfl); (case b => rfl); (case c => rfl); (case F => k_asm); (case e => assumption); (case d => decide); k_whole))))
section
variable {prog : Program} {w : World} {E : Value → Shared → Prop} {s : Shared} {mean : ExcName → Option Value} {mg mb : Str → Option Value} {Q : Value → Shared → Prop}

theorem fits_spec {x y : Str} {t u : Tok} (X : (hd.heap_39 w.params).In s.heap) (T : TopM mean mg mb s.heap) (hx : x.length ≤ 1000) (hy : y.length ≤ 1000)
    (h : ∀ h' tk', Grown s.heap h' → Q (.bool (lawFits x y)) { s with heap := h', toks := tk' }) :
    wpAny (model prog w) (lvl 400) (call (.ref 69) [.str x t, .str y u]) Q E s := by
  refine' enterC X T ?ho ?hcd ?hroom ?hbind ?hkind ?hnd ?h ?c1 ?c2 ?c3
  case ho => k_is
  case hcd => k_is
  case hroom => decide
  case hbind => exact BindsTo.of_eq rfl
  case hkind => exact rfl
  case hnd => decide +kernel
  case c1 => rfl
  case c2 => rfl
  case c3 => rfl
  intro L h₁ tk cells hL F N Y
  obtain ⟨oi, og, ow, rfl, di, dg, dw⟩ := CellsAre.three Y
  clear Y
  replace dg : og.data = .cell (some (.str y u)) := dg
  replace dw : ow.data = .cell (some (.str x t)) := dw
  replace di : oi.data = .cell none := di
  replace F : Fr s.heap L h₁ (fun _ => none) := F
  try dsimp only
  k_unmd
  k_fold
  repeat' (first | (k_unfold; (try dsimp only)) | (k_end; wrow_close) | ((fail_if_success (with_reducible show wpAny _ _ (exec (Stmt.While _ _ _ _) _) _ _ _)); walk1) | ((fail_if_success (with_reducible show wpAny _ _ (exec (Stmt.While _ _ _ _) _) _ _ _)); dsimp only; walk1) | ((fail_if_success (with_reducible show wpAny _ _ (exec (Stmt.While _ _ _ _) _) _ _ _)); leave1; walk_say "STEP leave1"; try dsimp only) | fail "no step")
  rename Fr _ _ _ _ => F1
  rename News _ _ _ _ => N1
  rename (_ ∧ _) => hlt
  rename (_ = Data.cell (some (Value.int 0 _))) => di'
  refine While_inv (FiJ x y t u L ow og) (n₀ := 2000) F1 N1 ⟨0, [(0, _)], _, _, _, _, rfl, ⟨by omega, by omega, by omega⟩, di', rfl, rfl, by simp, fun p hp => by rw [List.mem_singleton.mp hp]; exact ⟨Int.le_refl _, by simp⟩, by decide, rfl⟩ ?_ (hE := PassesOwn.never)
  clear F1 N1 hlt di'
  rintro n m₁ nx h₂ tk₂ F1 N1 ⟨i, l, a, k, oi', ti, rfl, ⟨hlt, hlt', hlt''⟩, di', e1, e2, hl1, hl2, hi, rfl⟩
  have F2 := fr_name1 F1 e1
  clear F1
  k_steps
  · rename (_ ∧ _) => hlt2
    rename Fr _ _ _ _ => F3
    rename News _ _ _ _ => N3
    refine' ne_nil_ints (l := l) (k := k) (kb := 0) N3 (.tail _ (.head _)) (.head _) ?_ ?_
    · k_units
    by_cases hr : l = []
    · subst hr
      simp only [decide_true, Bool.not_true]
      k_steps
      have e : lawFits x y = false := by
        unfold lawFits
        rw [e2, fitsAt_end (by simp)]
        simp
      rw [e] at h
      exact h _ _ F3.keep
    · simp only [hr, decide_false, Bool.not_false]
      obtain ⟨⟨j0, t0⟩, l', rfl⟩ : ∃ p l', l = p :: l' := by
        cases l with
        | nil => exact absurd rfl hr
        | cons p l' => exact ⟨p, l', rfl⟩
      have hj0 := hl2 (j0, t0) (.head _)
      have hN4 : News s.heap L _ [(a, W.listOf (intValues ((j0, t0) :: l')).toArray k), (L + 1 + 1 + 1, oi'), (L + 1 + 1, og), (L + 1, ow)] := fun p hp => N3 p (.tail _ hp)
      clear N3
      repeat' (first | (k_unfold; (try dsimp only)) | (k_end; wrow_close) | ((fail_if_success (with_reducible show wpAny _ _ (subscriptTail (Expr.Name (Str.ofString "reach") _) _ _ _) _ _ _)); (fail_if_success (with_reducible show wpAny _ _ (exec (Stmt.Assign _ (Expr.ListComp _ _ _ _) _) _) _ _ _)); walk1) | ((fail_if_success (with_reducible show wpAny _ _ (subscriptTail (Expr.Name (Str.ofString "reach") _) _ _ _) _ _ _)); (fail_if_success (with_reducible show wpAny _ _ (exec (Stmt.Assign _ (Expr.ListComp _ _ _ _) _) _) _ _ _)); dsimp only; walk1) | ((fail_if_success (with_reducible show wpAny _ _ (subscriptTail (Expr.Name (Str.ofString "reach") _) _ _ _) _ _ _)); (fail_if_success (with_reducible show wpAny _ _ (exec (Stmt.Assign _ (Expr.ListComp _ _ _ _) _) _) _ _ _)); leave1; walk_say "STEP leave1"; try dsimp only) | fail "no step")
      · rename ((_ == _) = true) => hdots
        rename Fr _ _ _ _ => F5
        rename News _ _ _ _ => N5
        refine' item_at (v := .int j0 t0) (n := k) (vs := intValues ((j0, t0) :: l')) N5 (.head _) (by decide) (by decide) rfl ?_
        dsimp only at hj0
        k_steps
        rename IsRange _ _ _ _ _ _ _ _ => hR
        rename Fr _ _ _ _ => F6
        rename News _ _ _ _ => N6
        refine' list_rangeD (n := ((y.length : Int) + 1 - j0).toNat) ?_ F6 N6 hR ?_ ?_ ?_ ?_
        · rfl
        · exact range_small (by omega) (by omega) (by omega) (by omega)
        · exact range_size (by omega)
        · omega
        intro h7 tk7 ys F7 N7 hk7 hn7 hl7 hp7 hc7
        obtain ⟨l7, rfl, hl7'⟩ := carried_ints _ _ hc7
        obtain ⟨⟨k7, hp7⟩, hne7⟩ := hp7
        rename_i h8 _ _ _ _ _
        have hD : L + 1 + 1 + 1 < h8.objs.size := Heap.lt_size (N6 _ (.tail _ (.head _))).1
        have N8 : News s.heap L h7 [(h8.objs.size, W.listOf (intValues l7).toArray k7), (L + 1 + 1 + 1, oi'), (L + 1 + 1, og), (L + 1, ow)] := fun p hp => by
          cases hp with
          | head => exact ⟨hp7, Nat.ne_of_gt (by omega), hn7⟩
          | tail _ hp => exact N7 p (.tail _ hp)
        clear N7 hl7 hne7 hp7 hc7 F6 N6 hR
        generalize h8.objs.size = D at *
        k_steps
        rename Fr _ _ _ _ => F9
        rename News _ _ _ _ => N9
        rename (_ = Data.cell (some (Value.int ((i : Int) + 3) _))) => d9
        have hrk : l7.map (·.1) = (List.range ((y.length : Int) + 1 - j0).toNat).map fun (k : Nat) => j0 + (k : Int) := by
          rw [hl7']
          unfold rangeInts
          simp
        refine WhileStep.intro F9 N9 (by omega) ⟨i + 3, l7, D, k7, _, _, rfl, ⟨by omega, by omega, by omega⟩, d9, rfl, ?_, ?_, ?_, by omega, rfl⟩
        · rw [e2, fitsAt_step (by omega) (by simp)]
          have hm : fitsMore x y i (((j0, t0) :: l').map (·.1)) = (i + 3, l7.map (·.1)) := by
            unfold fitsMore
            rw [if_pos (eq_of_beq hdots), hrk]
            rfl
          rw [hm]
        · have : l7.length = ((y.length : Int) + 1 - j0).toNat := by
            rw [← List.length_map (f := (·.1)), hrk]; simp
          omega
        · intro p hp
          have : p.1 ∈ l7.map (·.1) := List.mem_map.mpr ⟨p, hp, rfl⟩
          rw [hrk] at this
          obtain ⟨q, hq, e⟩ := List.mem_map.mp this
          have := List.mem_range.mp hq
          omega
      · rename ((_ == _) = false) => hdots
        rename Fr _ _ _ _ => F5
        rename News _ _ _ _ => N5
        rename ((i : Int) < (x.length : Int)) => hix
        refine comp_assign (h₀ := s.heap) (L := L) (cl := [(Str.ofString "want", L + 1), (Str.ofString "i", L + 1 + 1 + 1), (Str.ofString "got", L + 1 + 1)]) rfl rfl rfl (by decide) (fun _ => rfl) rfl rfl rfl ?_
        walk1
        refine ⟨_, _, F5, N5, ?_⟩
        refine comp_list (vs := intValues ((j0, t0) :: l')) (Acc := fun q ys T => T = [] ∧ ∃ l9, ys = intValues l9 ∧ l9.map (·.1) = (((((j0, t0) :: l').map (·.1)).take q).filter fun j => Txt.slice y (some j) (some (j + 1)) == Txt.item x (i : Int)).map (· + 1)) ?_ ?_ ?_ own_name ?_ ?_ ?_
        · rfl
        · exact N5.isList (.head _)
        · rw [sizeLine_eq, intValues_length]; omega
        · exact ⟨rfl, [], rfl, rfl⟩
        · intro C q v hh tk mc led ys T' hC hq hP hA FC NC hled hcl hT
          obtain ⟨rfl, l9, rfl, hl9⟩ := hA
          obtain ⟨j, tj, rfl, hj⟩ : ∃ j tj, v = .int j tj ∧ ((j0, t0) :: l')[q]? = some (j, tj) := by
            simp only [intValues, List.getElem?_map, Option.map_eq_some_iff] at hP
            obtain ⟨p, hp, rfl⟩ := hP
            exact ⟨p.1, p.2, rfl, hp⟩
          have hjb := hl2 (j, tj) (List.mem_of_getElem? hj)
          have hcg : Heap.IsCell _ (L + 1 + 1) (some (.str y u)) := ⟨og, (N5 _ (.tail _ (.tail _ (.head _)))).1, dg⟩
          have hcw : Heap.IsCell _ (L + 1) (some (.str x t)) := ⟨ow, (N5 _ (.tail _ (.tail _ (.tail _ (.head _))))).1, dw⟩
          have hci : Heap.IsCell _ (L + 1 + 1 + 1) (some (.int (i : Int) ti)) := ⟨oi', (N5 _ (.tail _ (.head _))).1, di'⟩
          refine bind_local FC NC rfl rfl rfl ?_
          intro h6 F6 N6 _
          refine wpAny_tests_one ?_
          have X5 := X.keeps F5.keep
          have T5 := T.keeps F5.keep
          clear FC NC F5 N5 X T hcl
          dsimp only at hjb
          k_steps
          · rename ((_ == _) = true) => hyes
            rename Fr _ _ _ _ => F8
            rename News _ _ _ _ => N8
            refine ⟨_, _, _, [], rfl, F8, N8, (fun _ h => nomatch h), (fun _ h => nomatch h), CellsLive.nil, rfl, l9 ++ [(j + 1, _)], by simp [intValues]; rfl, ?_⟩
            rw [List.map_append, hl9, List.take_add_one, List.getElem?_map, hj]
            simp only [Option.map_some, Option.toList_some, List.filter_append, List.map_append]
            congr 1
            simp [hyes]
          · rename ((_ == _) = false) => hno
            rename Fr _ _ _ _ => F8
            rename News _ _ _ _ => N8
            refine ⟨_, _, _, [], rfl, F8, N8, (fun _ h => nomatch h), (fun _ h => nomatch h), CellsLive.nil, rfl, l9, by simp, ?_⟩
            rw [hl9, List.take_add_one, List.getElem?_map, hj]
            simp only [Option.map_some, Option.toList_some, List.filter_append, List.map_append]
            simp [hno]
        · intro o D h6 tk6 ys T' k6 hg hf hne hys hA h7 tk7 F7 N7
          obtain ⟨rfl, l9, rfl, hl9⟩ := hA
          rw [intValues_length, List.take_of_length_le (by simp)] at hl9
          have hDn := (hf _ (.head _)).2
          have hd : ∀ (c : Addr) (ob : Obj), (c, ob) ∈ [(a, W.listOf (intValues ((j0, t0) :: l')).toArray k), (L + 1 + 1 + 1, oi'), (L + 1 + 1, og), (L + 1, ow)] → @Ne Nat D c := fun c ob hm e => by
            have := (N5 _ hm).1
            have e' : D = c := e
            rw [← e', hDn] at this
            cases this
          have hd1 := hd _ _ (.tail _ (.head _))
          have hd2 := hd _ _ (.tail _ (.tail _ (.head _)))
          have hd3 := hd _ _ (.tail _ (.tail _ (.tail _ (.head _))))
          have N8 : News s.heap L h7 [(D, W.listOf (intValues l9).toArray k6), (L + 1 + 1 + 1, oi'), (L + 1 + 1, og), (L + 1, ow)] := fun p hp => by
            cases hp with
            | head => exact N7 _ (.head _)
            | tail _ hp => exact N7 p (.tail _ (.tail _ hp))
          clear N7 F5 N5 hd
          dsimp only
          k_steps
          rename Fr _ _ _ _ => F9
          rename News _ _ _ _ => N9
          rename (_ = Data.cell (some (Value.int ((i : Int) + 1) _))) => d9
          refine WhileStep.intro F9 N9 (by omega) ⟨i + 1, l9, D, k6, _, _, rfl, ⟨hd1, hd2, hd3⟩, d9, rfl, ?_, ?_, ?_, by omega, rfl⟩
          · rw [e2, fitsAt_step (by omega) (by simp)]
            have hm : fitsMore x y i (((j0, t0) :: l').map (·.1)) = (i + 1, l9.map (·.1)) := by
              unfold fitsMore
              rw [if_neg (ne_of_beq_false hdots), hl9]
            rw [hm]
          · have := congrArg List.length hl9
            rw [List.length_map, List.length_map] at this
            have h3 := List.length_filter_le (fun j => Txt.slice y (some j) (some (j + 1)) == Txt.item x (i : Int)) (((j0, t0) :: l').map (·.1))
            rw [List.length_map] at h3
            omega
          · intro p hp
            have : p.1 ∈ l9.map (·.1) := List.mem_map.mpr ⟨p, hp, rfl⟩
            rw [hl9] at this
            obtain ⟨q, hq, e⟩ := List.mem_map.mp this
            obtain ⟨q2, hq2, e2⟩ := List.mem_map.mp (List.mem_filter.mp hq).1
            have := hl2 q2 hq2
            push_cast
            omega
  · refine' in_ints (l := l) (k := k) N1 (.head _) ?_ ?_
    · k_units
    have e : lawFits x y = decide ((y.length : Int) ∈ l.map (·.1)) := by
      unfold lawFits
      rw [e2, fitsAt_end (by omega)]
    rw [e] at h
    exact h _ _ F2.keep
end
end Mine

/-! part KV -/
open PySem PySem.W PySem.Calls PyProof.Rows
set_option Elab.async false
set_option maxRecDepth 100000
set_option maxHeartbeats 8000000
namespace Mine

theorem fill_KV : PySem.Challenge.rw_mq0199_01 = PySem.Challenge.rw_mq0199_01 ∧ hd.heap_39 = hd.heap_39 := by
  k_fill
  exact ⟨rfl, rfl⟩

def putS (k v : Str) (d : List (Str × Str)) : List (Str × Str) :=
  if d.any (fun p => p.1 = k) then d.map (fun p => if p.1 = k then (p.1, v) else p) else d ++ [(k, v)]
def kvsOf (l : List (Str × Str × Tok)) : List (Str × Value) := l.map fun p => (p.1, Value.str p.2.1 p.2.2)
def pairsOf (l : List (Str × Str × Tok)) : List (Str × Str) := l.map fun p => (p.1, p.2.1)
theorem stored_kvs (l : List (Str × Str × Tok)) (k v : Str) (t : Tok) : ∃ l', stored (kvsOf l) k (.str v t) = kvsOf l' ∧ putS k v (pairsOf l) = pairsOf l' ∧ l'.length ≤ l.length + 1 ∧ (∀ p ∈ l', p ∈ l ∨ (p.1 = k ∧ p.2.1 = v)) := by
  have e : (kvsOf l).any (fun kv => kv.1 = k) = (pairsOf l).any (fun p => p.1 = k) := by
    simp [kvsOf, pairsOf, List.any_map, Function.comp_def]
  unfold stored putS
  rw [e]
  by_cases hc : (pairsOf l).any (fun p => p.1 = k) = true
  · rw [if_pos hc, if_pos hc]
    refine ⟨l.map fun p => if p.1 = k then (p.1, v, t) else p, ?_, ?_, by simp, ?_⟩
    · unfold kvsOf
      rw [List.map_map, List.map_map]
      apply List.map_congr_left
      intro p _
      simp only [Function.comp]
      split <;> rfl
    · unfold pairsOf
      rw [List.map_map, List.map_map]
      apply List.map_congr_left
      intro p _
      simp only [Function.comp]
      split <;> rfl
    · intro p hp
      obtain ⟨q, hq, rfl⟩ := List.mem_map.mp hp
      split
      · next hk => exact .inr ⟨hk, rfl⟩
      · exact .inl hq
  · rw [if_neg hc, if_neg hc]
    refine ⟨l ++ [(k, v, t)], by simp [kvsOf], by simp [pairsOf], by simp, ?_⟩
    intro p hp
    rcases List.mem_append.mp hp with hp | hp
    · exact .inl hp
    · rw [List.mem_singleton.mp hp]; exact .inr ⟨rfl, rfl⟩
section
variable {prog : Program} {w : World} {A : Around} {E : Value → Shared → Prop} {s : Shared} {h₀ : Heap} {L d : Addr} {m : Str → Option Value} {rest : List (Addr × Obj)} {o : Obj}
theorem set_dict_str {kvs : List (Str × Value)} {k : Str} {t : Tok} {v : Value} {Q : Unit → Shared → Prop} (F : Fr h₀ L s.heap m) (N : News h₀ L s.heap ((d, o) :: rest)) (hr : ∀ p ∈ rest, p.1 ≠ d) (hd : o.IsDictOf (strKind prog w) kvs) (hsz : kvs.length ≤ sizeLine)
    (h : ∀ h' o', Fr h₀ L h' m → News h₀ L h' ((d, o') :: rest) → o'.IsDictOf (strKind prog w) (stored kvs k v) → Q () { s with heap := h', toks := s.toks + 1 }) :
    wpAny (model prog w) A (setItem (.ref d) (.str k t) v) Q E s := by
  have hm := N (d, o) (.head _)
  refine wpAny_setItem_pairs (hsz := hsz) (strKind_is prog w k t) (Heap.dictOf_iff.mpr ⟨o, hm.1, hd⟩) fun h' hmm hs => ?_
  obtain ⟨o', ho', hd'⟩ := Heap.dictOf_iff.mp hmm
  refine h h' o' (F.change hs hm.2.1 hm.2.2) (fun p hp => ?_) hd'
  cases hp with
  | head => exact ⟨ho', hm.2⟩
  | tail _ hp => exact ⟨(hs.2 _ (hr p hp)).trans (N p (.tail _ hp)).1, (N p (.tail _ hp)).2⟩
end
section
variable {prog : Program} {w : World} {A : Around} {E : Value → Shared → Prop} {s : Shared} {env : Env}
theorem unpack_short {l : Addr} {x : Value} {elts : List PySem.Expr} {k : Nat} {pos : Pos} {Q : Unit → Shared → Prop} (hh : A.handled = none) (hl : s.heap.IsList l #[x]) (hn : (assignEach elts env).length = 2) (hstar : (assignEach elts env).findIdx? (·.1) = none)
    (h : ∀ h' tk e, Heap.NewExc s.heap h' e "ValueError" → E (.ref e) { s with heap := h', toks := tk }) :
    wpAny (model prog w) A (assign (.Tuple elts k pos) env (.ref l)) Q E s := by
  rw [assign_Tuple]
  refine wpAny_bind (wpAny_standAt ?_)
  unfold unpack
  rw [hn, hstar]
  refine wpAny_bind (wpAny_holding ?_)
  have hlt : l ≠ s.heap.objs.size := by obtain ⟨o, ho, _⟩ := hl; exact Nat.ne_of_lt (Heap.lt_size ho)
  unfold unpackItems
  refine wpAny_bind ?_
  unfold notIterableAtAll
  refine wpAny_bind (wpAny_specialOf hl.typeIs slot_list_iter.lookup ?_)
  refine wpAny_pure ?_
  simp only [Bool.false_eq_true, if_false]
  refine wpAny_bind (wpAny_holding (wpAny_pyIter_list hl ?_))
  refine wpAny_bind (wpAny_holding ?_)
  show wpAny _ _ (pyNext (.ref s.heap.objs.size) >>= _) _ _ _
  refine wpAny_bind (wpAny_pyNext_list_item (i := 0) (x := x) (l := l) (items := #[x]) ⟨_, Heap.get?_push_size _ rfl, rfl, rfl⟩ (hl.push _) rfl fun h₁ hit₁ hs₁ => ?_)
  dsimp only
  refine wpAny_bind (wpAny_holding ?_)
  show wpAny _ _ (pyNext (.ref s.heap.objs.size) >>= _) _ _ _
  refine wpAny_bind (wpAny_pyNext_list_end (i := 1) hh hit₁ ((hl.push _).extBut hs₁.extBut hlt) (by simp) fun h₂ he₂ => ?_)
  dsimp only
  refine wpAny_pure (wpAny_pure ?_)
  rw [if_pos (by simp)]
  refine wpAny_bind (wpAny_bind (wpAny_rule ?_))
  have kp : ∀ b o, s.heap.get? b = some o → h₂.get? b = some o := fun b o e =>
    have hb : b ≠ s.heap.objs.size := Nat.ne_of_lt (Heap.lt_size e)
    he₂ b o hb (hs₁.extBut b o hb (Heap.get?_push_of_some _ e))
  have fin : ∀ h' tk e, Heap.NewExc h₂ h' e "ValueError" → E (.ref e) { s with heap := h', toks := tk } := fun h' tk e hx => by
    have hn : s.heap.get? e = none := by
      cases q : s.heap.get? e with
      | none => rfl
      | some o => have := kp e o q; rw [hx.new] at this; cases this
    exact h h' tk e ⟨fun b o q => hx.keeps b o (kp b o q), hn, hx.there⟩
  refine wpAny_pure (wpAny_bind ?_)
  refine wpAny_raiseErrorMade plainExc_ValueError hh fin ?_
  rw [show [x].length = 1 from rfl]
  decide +kernel
end

section
variable {M : Model} {A : Around} {E : Value → Shared → Prop} {s' : Shared} {B g h : Heap} {outer : List Env} {env : Env} {L e : Addr} {m : Str → Option Value} {Q : Unit → Shared → Prop}
/-- a new exception leaves its frame -/
theorem leave_first {cls : String} (hfr : A.frames = some (env :: outer)) (hf : env.frame = some L) (hk : env.scope.kind ≠ .module) (hgf : g.FunFrames B outer) (hB : B.StaysIn g) (F : Fr g L h m) (hx : Heap.NewExc h s'.heap e cls)
    (hQ : ∀ h' a0, Heap.FlyingW B outer e (.type cls) a0 h' → g.UpToSlots h' → Q () { s' with heap := h' }) : wpAny M A (leaving env (.ref e)) Q E s' := by
  obtain ⟨ob, tp, he, hcls, hd⟩ := hx.there
  have kp : ∀ b o, g.get? b = some o → s'.heap.get? b = some o := fun b o q => hx.keeps b o (F.keep b o q)
  have hen : B.get? e = none := by
    cases q : B.get? e with
    | none => rfl
    | some o => have := F.keep _ _ (hB _ _ q); rw [hx.new] at this; cases this
  have hBL : B.get? L = none := by
    cases q : B.get? L with
    | none => rfl
    | some o => exact absurd (Nat.lt_of_lt_of_le (Heap.lt_size (hB _ _ q)) F.above) (Nat.lt_irrefl _)
  have hl : s'.heap.FunFrames B (env :: outer) := .cons hk hf (F.ns.keeps hx.keeps) hBL (hgf.of_keeps fun b o q _ => ⟨o, kp b o q, rfl⟩)
  refine wpAny_leaving_firstW (base := B) (a0 := tp) hfr hl hf he (fun b o q => kp b o (hB b o q)) hen hd rfl rfl fun h' hL => ?_
  obtain ⟨k1, ⟨_, _, k2⟩, k3, k4⟩ := hL
  exact hQ h' tp ⟨k1, hen, k2, by rw [← hcls]; exact k3⟩ (((Heap.UpToSlots.of_keeps F.keep).trans (Heap.UpToSlots.of_keeps hx.keeps)).trans k4)
end
def kvPair (e : Str) : Option (Str × Str) :=
  match Txt.splitMax e (Str.ofString "=") 1 with
  | [k, v] => some (k, if Txt.item v 0 = Str.ofString "\"" ∧ Txt.item v (-1) = Str.ofString "\"" then Txt.slice v (some 1) (some (-1)) else v)
  | _ => none
def keqv : List Str → List (Str × Str) → Option (List (Str × Str))
  | [], d => some d
  | e :: r, d => match kvPair e with
    | some (k, v) => keqv r (putS k v d)
    | none => none
def kvOk (e : Str) : Bool := match Txt.splitMax e (Str.ofString "=") 1 with
  | [_, v] => decide (0 < v.length)
  | [_] => true
  | _ => false
section
variable {prog : Program} {w : World} {E : Value → Shared → Prop} {s : Shared} {mean : ExcName → Option Value} {mg mb : Str → Option Value} {Q : Value → Shared → Prop}

theorem kv_spec {es : List (Str × Tok)} {l : Addr} {outer : List Env} {B : Heap} (X : (hd.heap_39 w.params).In s.heap) (T : TopM mean mg mb s.heap) (hl : s.heap.IsList l (strValues es).toArray) (hlen : es.length ≤ 1000) (hsh : ∀ p ∈ es, p.1.length ≤ 1000) (hok : ∀ p ∈ es, kvOk p.1 = true)
    (hfr : s.heap.FunFrames B outer) (hB : B.StaysIn s.heap)
    (h : ∀ d o l' h' tk', Grown s.heap h' → Fresh s.heap h' [(d, o)] → (d == sysModules) = false → o.IsDictOf (strKind prog w) (kvsOf l') → keqv (es.map (·.1)) [] = some (pairsOf l') → l'.length ≤ es.length → (∀ p ∈ l', p.1.length ≤ 1000 ∧ p.2.1.length ≤ 1000) → Q (.ref d) { s with heap := h', toks := tk' })
    (hE : ∀ e h' tk a0, keqv (es.map (·.1)) [] = none → Heap.FlyingW B outer e (.type "ValueError") a0 h' → s.heap.UpToSlots h' → E (.ref e) { s with heap := h', toks := tk }) :
    wpAny (model prog w) (lvlF 400 outer) (call (.ref 35) [.ref l]) Q E s := by
  refine' enterE X T ?ho ?hcd ?hroom ?hbind ?hloc ?h ?c1 ?c2 ?c3 ?c4
  case ho => k_is
  case hcd => k_is
  case hroom => exact Nat.le_of_ble_eq_true rfl
  case hbind => exact BindsTo.of_eq rfl
  case hloc => exact locs rfl
  case c1 => rfl
  case c2 => rfl
  case c3 => rfl
  case c4 => decide
  intro L h₁ hL F N
  try dsimp only
  k_fold
  repeat' (first | (k_unfold; (try dsimp only)) | (k_end; wrow_close) | ((fail_if_success (with_reducible show wpAny _ _ (exec (Stmt.For _ _ _ _ _) _) _ _ _)); walk1) | ((fail_if_success (with_reducible show wpAny _ _ (exec (Stmt.For _ _ _ _ _) _) _ _ _)); dsimp only; walk1) | ((fail_if_success (with_reducible show wpAny _ _ (exec (Stmt.For _ _ _ _ _) _) _ _ _)); leave1; walk_say "STEP leave1"; try dsimp only) | fail "no step")
  rename Fr _ _ _ _ => F1
  rename News _ _ _ _ => N1
  rename (Obj.IsDictOf (strKind prog w) _ []) => hd1
  rename ((_ == sysModules) = false) => hns
  rename_i d _ o _ _ _ _ _
  refine For_invVF F1 rfl rfl ?_
  walk1
  refine old_iter (vs := strValues es) (fun i m nx => ∃ o l, nx = [(d, o)] ∧ o.IsDictOf (strKind prog w) (kvsOf l) ∧ m (Str.ofString "parsed") = some (.ref d) ∧ keqv (es.map (·.1)) [] = keqv ((es.map (·.1)).drop i) (pairsOf l) ∧ l.length ≤ i ∧ ∀ p ∈ l, p.1.length ≤ 1000 ∧ p.2.1.length ≤ 1000) rfl hl F1 N1 ⟨o, [], rfl, hd1, rfl, rfl, Nat.le_refl _, fun _ h => nomatch h⟩ ?_ ?_
  · rintro i v m₁ nx hh tk own hv hoff ⟨o2, l2, rfl, hd2, e1, e2, hl2, hs2⟩ F2 N2
    obtain ⟨vi, ti, rfl, hvi⟩ : ∃ vi ti, v = .str vi ti ∧ es[i]? = some (vi, ti) := by
      simp only [strValues, List.getElem?_map, Option.map_eq_some_iff] at hv
      obtain ⟨p, hp, rfl⟩ := hv
      exact ⟨p.1, p.2, rfl, hp⟩
    have hvl : vi.length ≤ 1000 := hsh (vi, ti) (List.mem_of_getElem? hvi)
    have hvo := hok (vi, ti) (List.mem_of_getElem? hvi)
    have F3 := fr_name2 F2 (x1 := Str.ofString "elt") (x2 := Str.ofString "parsed") rfl e1
    clear F2 F1 N1
    repeat' (first | (k_unfold; (try dsimp only)) | (k_end; wrow_close) | ((fail_if_success (with_reducible show wpAny _ _ (assign (Expr.Tuple _ _ _) _ _) _ _ _)); walk1) | ((fail_if_success (with_reducible show wpAny _ _ (assign (Expr.Tuple _ _ _) _ _) _ _ _)); dsimp only; walk1) | ((fail_if_success (with_reducible show wpAny _ _ (assign (Expr.Tuple _ _ _) _ _) _ _ _)); leave1; walk_say "STEP leave1"; try dsimp only) | fail "no step")
    rename List (Str × Tok) => lp
    rename (List.map _ _ = Txt.splitMax vi _ _) => hsp
    rename (∀ a, a ∈ List.map _ _ → Str.length a ≤ _) => hshp
    rename Fr _ _ _ _ => F4
    rename News _ _ _ _ => N4
    have hdrop : (es.map (·.1)).drop i = vi :: (es.map (·.1)).drop (i + 1) := by
      have hlt : i < es.length := (List.getElem?_eq_some_iff.mp hvi).1
      have : (es.map (·.1))[i]? = some vi := by rw [List.getElem?_map, hvi]; rfl
      rw [List.drop_eq_getElem_cons (by simpa using hlt)]
      congr 1
      exact (List.getElem?_eq_some_iff.mp this).2
    unfold kvOk at hvo
    rw [← hsp] at hvo
    match lp, hsp, hshp, hvo with
    | [], _, _, hvo => cases hvo
    | _ :: _ :: _ :: _, _, _, hvo => cases hvo
    | [(e0, te0)], hsp, _, _ =>
      refine unpack_short rfl (N4.isList (.head _)) rfl rfl ?_
      intro h' tk' e hx
      refine leave_first (B := B) rfl rfl (fun e => nomatch e) hfr hB F4 hx ?_
      intro h'' a0 hfl hup
      refine hE e h'' _ a0 ?_ hfl hup
      rw [e2, hdrop]
      unfold keqv kvPair
      rw [← hsp]
      rfl
    | [(k0, tk0), (v0, tv0)], hsp, hshp, hvo =>
      have hv0 : 0 < v0.length := of_decide_eq_true hvo
      have hk0l := hshp k0 (by simp)
      have hv0l := hshp v0 (by simp)
      refine kun_list F4 N4 (N4.isList (.head _)) rfl rfl rfl ?_
      intro h5 F5 N5
      have N6 : News s.heap L h5 ((d, o2) :: own) := fun p hp => N5 p (.tail _ hp)
      clear N4 F4 N5
      repeat' (first | (k_unfold; (try dsimp only)) | (k_end; wrow_close) | ((fail_if_success (with_reducible show wpAny _ _ (setItem _ _ _) _ _ _)); walk1) | ((fail_if_success (with_reducible show wpAny _ _ (setItem _ _ _) _ _ _)); dsimp only; walk1) | ((fail_if_success (with_reducible show wpAny _ _ (setItem _ _ _) _ _ _)); leave1; walk_say "STEP leave1"; try dsimp only) | fail "no step")
      · rename ((Txt.item _ 0 == _) = true) => c1
        rename ((Txt.item _ (-1) == _) = true) => c2
        have hsl := Txt.slice_le v0 (some 1) (some (-1))
        rename Fr _ _ _ _ => F7
        rename News _ _ _ _ => N7
        refine' set_dict_str (k := k0) (t := tk0) (v := .str (Txt.slice v0 (some 1) (some (-1))) _) (rest := own) F7 N7 (own_ne hoff) hd2 ?_ ?_
        · rw [sizeLine_eq]
          have : i < es.length := (List.getElem?_eq_some_iff.mp hvi).1
          simp [kvsOf]
          omega
        intro h8 o8 F8 N8 hd8
        obtain ⟨l3, q1, q2, q3, q4⟩ := stored_kvs l2 k0 (Txt.slice v0 (some 1) (some (-1))) _
        rw [q1] at hd8
        have hpair : kvPair vi = some (k0, Txt.slice v0 (some 1) (some (-1))) := by
          unfold kvPair
          rw [← hsp]
          simp only [List.map_cons, List.map_nil]
          rw [if_pos ⟨eq_of_beq c1, eq_of_beq c2⟩]
        k_steps
        refine InvEndG.intro F8 N8 ⟨o8, l3, rfl, hd8, rfl, ?_, by omega, ?_⟩ hoff (fun p hp => by cases hp with | head => exact .head _ | tail _ h => cases h) (fun p hp => .tail _ hp)
        · rw [e2, hdrop]
          conv => lhs; unfold keqv
          rw [hpair, ← q2]
        · intro p hp
          rcases q4 p hp with hp | ⟨e3, e4⟩
          · exact hs2 p hp
          · rw [e3, e4]
            exact ⟨by omega, by omega⟩
      · rename ((Txt.item _ 0 == _) = true) => c1
        rename ((Txt.item _ (-1) == _) = false) => c2
        rename Fr _ _ _ _ => F7
        rename News _ _ _ _ => N7
        refine' set_dict_str (k := k0) (t := tk0) (v := .str (v0) _) (rest := own) F7 N7 (own_ne hoff) hd2 ?_ ?_
        · rw [sizeLine_eq]
          have : i < es.length := (List.getElem?_eq_some_iff.mp hvi).1
          simp [kvsOf]
          omega
        intro h8 o8 F8 N8 hd8
        obtain ⟨l3, q1, q2, q3, q4⟩ := stored_kvs l2 k0 (v0) _
        rw [q1] at hd8
        have hpair : kvPair vi = some (k0, v0) := by
          unfold kvPair
          rw [← hsp]
          simp only [List.map_cons, List.map_nil]
          rw [if_neg (fun h => ne_of_beq_false c2 h.2)]
        k_steps
        refine InvEndG.intro F8 N8 ⟨o8, l3, rfl, hd8, rfl, ?_, by omega, ?_⟩ hoff (fun p hp => by cases hp with | head => exact .head _ | tail _ h => cases h) (fun p hp => .tail _ hp)
        · rw [e2, hdrop]
          conv => lhs; unfold keqv
          rw [hpair, ← q2]
        · intro p hp
          rcases q4 p hp with hp | ⟨e3, e4⟩
          · exact hs2 p hp
          · rw [e3, e4]
            exact ⟨by omega, by omega⟩
      · rename ((Txt.item _ 0 == _) = false) => c1
        rename Fr _ _ _ _ => F7
        rename News _ _ _ _ => N7
        refine' set_dict_str (k := k0) (t := tk0) (v := .str (v0) _) (rest := own) F7 N7 (own_ne hoff) hd2 ?_ ?_
        · rw [sizeLine_eq]
          have : i < es.length := (List.getElem?_eq_some_iff.mp hvi).1
          simp [kvsOf]
          omega
        intro h8 o8 F8 N8 hd8
        obtain ⟨l3, q1, q2, q3, q4⟩ := stored_kvs l2 k0 (v0) _
        rw [q1] at hd8
        have hpair : kvPair vi = some (k0, v0) := by
          unfold kvPair
          rw [← hsp]
          simp only [List.map_cons, List.map_nil]
          rw [if_neg (fun h => ne_of_beq_false c1 h.1)]
        k_steps
        refine InvEndG.intro F8 N8 ⟨o8, l3, rfl, hd8, rfl, ?_, by omega, ?_⟩ hoff (fun p hp => by cases hp with | head => exact .head _ | tail _ h => cases h) (fun p hp => .tail _ hp)
        · rw [e2, hdrop]
          conv => lhs; unfold keqv
          rw [hpair, ← q2]
        · intro p hp
          rcases q4 p hp with hp | ⟨e3, e4⟩
          · exact hs2 p hp
          · rw [e3, e4]
            exact ⟨by omega, by omega⟩
  · rintro m₁ nx hh tk ⟨o2, l2, rfl, hd2, e1, e2, hl2, hs2⟩ F2 N2
    have F3 := fr_name1 F2 (x1 := Str.ofString "parsed") e1
    clear F1 N1 F2
    rw [List.drop_of_length_le (by simp [strValues])] at e2
    k_steps
    refine h d o2 l2 _ _ F3.keep (fresh_of_news N2) hns hd2 e2 ?_ hs2
    simpa [strValues] using hl2
end
end Mine

/-! part LR -/
open PySem PySem.W PySem.Calls PyProof.Rows
set_option Elab.async false
set_option maxRecDepth 100000
set_option maxHeartbeats 8000000
namespace Mine

theorem fill_LR : PySem.Challenge.rw_mq0199_01 = PySem.Challenge.rw_mq0199_01 ∧ hd.heap_39 = hd.heap_39 := by
  k_fill
  exact ⟨rfl, rfl⟩

section
variable {prog : Program} {w : World} {A : Around} {E : Value → Shared → Prop} {s' : Shared} {h₀ h : Heap} {outer : List Env} {L e : Addr} {m : Str → Option Value} {env : Env}
  {b₀ : Stmt} {suite : List Stmt} {pos np : Pos} {rest : List ExceptHandler} {Q : Flow → Shared → Prop}
  {p : Program} {loose : List Str} {mg mb : Str → Option Value} {x : Str} {X T' : String} {a0 : Value}
theorem caughtM (hfr : A.frames = some (env :: outer)) (hf : env.frame = some L) (F : Fr h₀ L h m) (hsm : h.UpToSlots s'.heap) (hfl : Heap.FlyingW h₀ (env :: outer) e (.type X) a0 s'.heap)
    (hg : h₀.Ns mainGlobals mg) (hmiss : mg x = none) (hb : h₀.Ns builtinsNs mb) (hv : mb x = some (.type T'))
    (hexc : isSubtype (.type T') (.type "BaseException") = pure true) (hnt : isSubtype (.type ((Manifest.find? T').elim "type" fun y => y.metatype)) (.type "tuple") = pure false) (hsub : isSubtype (.type X) (.type T') = pure true)
    (k : ∀ h', Fr h₀ L h' m → h.UpToSlots h' → wpAny (model prog w) (A.mark (some (.ref e))) (execs (b₀ :: suite) env) Q (fun _ _ => False) { s' with heap := h' })
    (hk : env.scope.kind = .function) (hgl : env.globals = mainGlobals) (hbl : env.builtins = builtinsNs) (hx : env.kindOf x = some .globalImplicit) (hd : (x == ("__debug__" : Str)) = false) :
    wpAny (model prog w) A (noteFrame (.ref e) env)
      (fun _ s₂ => wpAny (model prog w) A (setFlight (.ref e) none) (fun _ s₃ =>
        wpAny (model prog w) A (handleBy (.ref e) env (.ExceptHandler (some (.Name x np)) none (b₀ :: suite) pos :: rest)) Q E s₃) E s₂) E s' := by
  refine wpAny_looks_onW hfr hf hfl fun h₄ hheld₄ hsm₄ => ?_
  refine wpAny_landsW hheld₄ fun h₅ hheld hsm₅' => ?_
  have hsm₅ := hsm₄.trans hsm₅'
  have F₅ := F.of_stays hheld.1 (hsm.trans hsm₅)
  obtain ⟨ob, hob, hobc⟩ := hheld.there
  refine wpAny_handleBy_builtin (X := X) (T := T') (b := true) hexc hnt hsub ?_
  refine Calls.Name_function_global hk hx (Calls.loadGlobal_builtin (hgl ▸ hg.keeps F₅.keep) hmiss (hbl ▸ hb.keeps F₅.keep) hv ⟨rfl, ⟨ob, hob, hobc⟩, ?_⟩) hd
  refine lands_againW hheld fun h₆ hfl₆ hsm₆ => ?_
  have F₆ := F.of_stays hfl₆.1 ((hsm.trans hsm₅).trans hsm₆)
  exact wpAny_mono (k h₆ F₆ ((hsm.trans hsm₅).trans hsm₆)) (fun _ _ q => q) fun _ _ q => q.elim
end
theorem kdx_dat {prog : Program} {w : World} {h : Heap} : ∀ (as : List Addr) (l : List (Str × Str × Tok)), as.length = l.length →
    (∀ (j : Nat) (a : Addr), as[j]? = some a → ∃ key k x, (kvsOf l)[j]? = some (k, x) ∧ (strKind prog w).is k key = true ∧ h.get? a = some ({ cls := .type "tuple", data := .seq #[key, x] } : Obj)) →
    ∃ tups : List (Addr × Obj), (∀ p ∈ tups, h.get? p.1 = some p.2 ∧ p.1 ∈ as) ∧ DatAll tups (as.map Value.ref) ((pairsOf l).map fun p => Dat.tuple [.str p.1, .str p.2])
  | [], [], _, _ => ⟨[], (fun _ h => nomatch h), .nil⟩
  | [], _ :: _, hl, _ => by simp at hl
  | _ :: _, [], hl, _ => by simp at hl
  | a :: as, p :: l, hl, hp => by
    obtain ⟨tups, h1, h2⟩ := kdx_dat (prog := prog) (w := w) as l (by simpa using hl) fun j a' hj => by
      obtain ⟨key, k, x, e1, e2, e3⟩ := hp (j + 1) a' (by simpa using hj)
      exact ⟨key, k, x, by simpa [kvsOf] using e1, e2, e3⟩
    obtain ⟨key, k, x, e1, e2, e3⟩ := hp 0 a rfl
    have e1' : (p.1, Value.str p.2.1 p.2.2) = (k, x) := Option.some.inj e1
    cases e1'
    obtain ⟨t, rfl⟩ := Value.isStrOf_shape e2
    refine ⟨(a, _) :: tups, ?_, .cons (.tuple (vs := [.str p.1 t, .str p.2.1 p.2.2]) (n := 0) (.head _) (.cons (.str _ _) (.cons (.str _ _) .nil))) (h2.mono fun q hq => .tail _ hq)⟩
    intro q hq
    rcases List.mem_cons.mp hq with rfl | hq
    · exact ⟨e3, .head _⟩
    · exact ⟨(h1 q hq).1, .tail _ (h1 q hq).2⟩
section
variable {prog : Program} {w : World} {A : Around} {E : Value → Shared → Prop} {s : Shared} {h₀ : Heap} {L v d : Addr} {m : Str → Option Value} {news : List (Addr × Obj)} {od : Obj} {l : List (Str × Str × Tok)} {Q : Value → Shared → Prop}
theorem items_list (hh : A.handled = none) (F : Fr h₀ L s.heap m) (N : News h₀ L s.heap news) (hvw : (v, { cls := .type "dict_items", data := .fields #[.ref d] }) ∈ news) (hmd : (d, od) ∈ news) (hod : od.IsDictOf (strKind prog w) (kvsOf l)) (hn : l.length ≤ 10000)
    (h : ∀ D tl h' tk, Fr h₀ L h' m → News h₀ L h' (tl ++ news) → DatIn tl (.ref D) (.list ((pairsOf l).map fun p => Dat.tuple [.str p.1, .str p.2])) → Q (.ref D) { s with heap := h', toks := tk }) :
    wpAny (model prog w) A (call (.type "list") [.ref v]) Q E s := by
  obtain ⟨ep, hat⟩ := KdkAt.of hod
  refine kdx_call (knd := strKind prog w) (kvs := kvsOf l) (ep := ep) hh ⟨_, (N _ hvw).1, rfl, rfl⟩ (hat.dictAt (N _ hmd).1) (by rw [sizeLine_eq]; simp [kvsOf]; omega) fun h' tk acc c as hk hS hl hG hacc => ?_
  obtain ⟨tups, h1, h2⟩ := kdx_dat (prog := prog) (w := w) (h := h') as l (by rw [hl]; simp [kvsOf]) hG.pairs
  have ea : acc = (as.map Value.ref).toArray := by rw [← hacc, Array.toArray_toList]
  refine h _ ((s.heap.objs.size, W.listOf acc c) :: tups) h' tk (F.keeps hk) (fun q hq => ?_) (.list (by rw [ea]; exact .head _) (h2.mono fun q hq => .tail _ hq))
  rcases List.mem_cons.mp hq with rfl | hq
  · exact ⟨hS, kdx_fresh F (Nat.le_refl _)⟩
  · rcases List.mem_append.mp hq with hq | hq
    · exact ⟨(h1 q hq).1, kdx_fresh F (Nat.le_of_lt (hG.above _ (h1 q hq).2))⟩
    · exact ⟨hk _ _ (N q hq).1, (N q hq).2⟩
end
theorem valueAt_at {K : Type} [DecidableEq K] : ∀ {kvs : List (K × Value)} {i : Nat} {k : K} {v : Value}, (kvs.map (·.1)).Nodup → kvs[i]? = some (k, v) → valueAt kvs k = some v
  | [], _, _, _, _, h => by simp at h
  | (k0, v0) :: kvs, 0, k, v, _, h => by
    cases h
    simp [valueAt]
  | (k0, v0) :: kvs, i + 1, k, v, hn, h => by
    have hn' := List.nodup_cons.mp hn
    have h' : kvs[i]? = some (k, v) := by simpa using h
    have hne : k0 ≠ k := fun e => hn'.1 (e ▸ List.mem_map.mpr ⟨_, List.mem_of_getElem? h', rfl⟩)
    have := valueAt_at hn'.2 h'
    unfold valueAt at this ⊢
    rw [List.find?_cons_of_neg (by simpa using hne)]
    exact this
theorem datAll_snoc {n : List (Addr × Obj)} {v : Value} {d : Dat} : ∀ {vs : List Value} {ds : List Dat}, DatAll n vs ds → DatIn n v d → DatAll n (vs ++ [v]) (ds ++ [d])
  | _, _, .nil, h => .cons h .nil
  | _, _, .cons a r, h => .cons a (datAll_snoc r h)
theorem datAll_strs {n : List (Addr × Obj)} : ∀ (l : List (Str × Tok)), DatAll n (strValues l) ((l.map (·.1)).map Dat.str)
  | [] => .nil
  | p :: l => .cons (.str p.1 p.2) (datAll_strs l)
def firstFit (D : List (Str × Str)) (x : Str) : List Str := ((D.filter fun p => ellipsisMatch p.1 x).map (·.2)).take 1
def readDat (z : Str) (xs : List Str) : Dat := match keqv (httpList z) [] with
  | none => Dat.none
  | some D => Dat.tuple [.list (D.map fun p => Dat.tuple [.str p.1, .str p.2]), .list (xs.map fun x => Dat.list ((firstFit D x).map Dat.str))]
local macro_rules | `(tactic| walk_at "eval Name") => `(tactic| (k_here; (with_reducible show wpAny _ _ (eval _ (compEnvD _ _ _ _)) _ _ _); k_dflt (first
  | (refine' name_in ?F ?a ?b ?c ?v ?_ ?d; (case a => rfl); (case b => rfl); (case c => rfl); (case F => k_asm); (case v => rfl); (case d => decide); k_whole)
  | (refine' name_cellAt ?a ?b ?c (Heap.IsCell.keeps ?e (Fr.keep ?F)) ?_ ?d; (case a => rfl); (case b => rfl); (case c => rfl); (case F => k_asm); (case e => assumption); (case d => decide); k_whole)
  | (refine' name_freeAt ?a ?b ?c (Heap.IsCell.keeps ?e (Fr.keep ?F)) ?_ ?n ?d; (case a => rfl); (case b => rfl); (case c => rfl); (case F => k_asm); (case e => assumption); (case n => decide); (case d => decide); k_whole)
  | ((with_reducible rename Fr _ _ _ _ => kF); refine' nameG_K kF ?k1 ?k2 ?k3 ?_ ?k4 ?k5 ?k6 ?k7; (case k4 => rfl); (case k5 => rfl); (case k6 => rfl); (case k7 => decide); (case k1 => k_asm); (case k2 => k_asm); (case k3 => k_is); k_whole))))
section
variable {prog : Program} {w : World} {E : Value → Shared → Prop} {s : Shared} {mean : ExcName → Option Value} {mg mb : Str → Option Value} {Q : Value → Shared → Prop}

theorem lr_spec {z : Str} {t : Tok} {xs : List (Str × Tok)} {a : Addr} {outer : List Env} {B : Heap} (X : (hd.heap_39 w.params).In B) (T : TopM mean mg mb B) (hB : B.StaysIn s.heap) (hle : B.objs.size ≤ s.heap.objs.size)
    (hfr : s.heap.FunFrames B outer) (hz : z.length ≤ 100000) (hl : s.heap.IsList a (strValues xs).toArray) (hxn : xs.length ≤ 1000) (hxs : ∀ p ∈ xs, p.1.length ≤ 1000)
    (hlen : (httpList z).length ≤ 1000) (hsh : ∀ p ∈ httpList z, p.length ≤ 1000) (hok : ∀ p ∈ httpList z, kvOk p = true) (hk2 : ∀ D, keqv (httpList z) [] = some D → ∀ p ∈ D, Txt.contains p.1 (Str.ofString "...") = true → 2 ≤ (Txt.split p.1 (Str.ofString "...")).length)
    (h : ∀ v h' tk' tl, B.StaysIn h' → s.heap.UpToSlots h' → Fresh s.heap h' tl → DatIn tl v (readDat z (xs.map (·.1))) → Q v { s with heap := h', toks := tk' }) :
    wpAny (model prog w) (lvlF 380 outer) (call (.ref 59) [.str z t, .ref a]) Q E s := by
  have X0 := X.keeps hB
  have T0 := T.keeps hB
  refine' enterC X0 T0 ?ho ?hcd ?hroom ?hbind ?hkind ?hnd ?h ?c1 ?c2 ?c3
  case ho => k_is
  case hcd => k_is
  case hroom => exact Nat.le_of_ble_eq_true rfl
  case hbind => exact BindsTo.of_eq rfl
  case hkind => exact rfl
  case hnd => decide +kernel
  case c1 => rfl
  case c2 => rfl
  case c3 => rfl
  intro L h₁ tk cells hL F N Y
  obtain ⟨oT, rfl, dT⟩ := CellsAre.one Y
  clear Y X
  replace dT : oT.data = .cell none := dT
  replace F : Fr s.heap L h₁ (fun y => if y = Str.ofString "texts" then some (.ref a) else if y = Str.ofString "sheet" then some (.str z t) else none) := F
  try dsimp only
  k_unmd
  k_fold
  repeat' (first | (k_unfold; (try dsimp only)) | (k_end; wrow_close) | ((fail_if_success (with_reducible show wpAny _ _ (exec (Stmt.Try _ _ _ _ _) _) _ _ _)); walk1) | ((fail_if_success (with_reducible show wpAny _ _ (exec (Stmt.Try _ _ _ _ _) _) _ _ _)); dsimp only; walk1) | ((fail_if_success (with_reducible show wpAny _ _ (exec (Stmt.Try _ _ _ _ _) _) _ _ _)); leave1; walk_say "STEP leave1"; try dsimp only) | fail "no step")
  refine wpAny_Try_except ?_
  repeat' (first | (k_unfold; (try dsimp only)) | (k_end; wrow_close) | ((fail_if_success (with_reducible show wpAny _ _ (call (Value.ref 40) _) _ _ _)); (fail_if_success (with_reducible show wpAny _ _ (call (Value.ref 35) _) _ _ _)); walk1) | ((fail_if_success (with_reducible show wpAny _ _ (call (Value.ref 40) _) _ _ _)); (fail_if_success (with_reducible show wpAny _ _ (call (Value.ref 35) _) _ _ _)); dsimp only; walk1) | ((fail_if_success (with_reducible show wpAny _ _ (call (Value.ref 40) _) _ _ _)); (fail_if_success (with_reducible show wpAny _ _ (call (Value.ref 35) _) _ _ _)); leave1; walk_say "STEP leave1"; try dsimp only) | fail "no step")
  refine lvl_le (hl_spec (X0.keeps F.keep) (T0.keeps F.keep) hz ?_) rfl (Nat.le_of_ble_eq_true rfl) (Nat.le_of_ble_eq_true rfl)
  intro b l n h2 tk2 hg hf hml
  have F2 := grown_fr F hg
  have N2 := grown_news F N hg hf
  have hbL : @Ne Nat b (L + 1) := fun e => fresh_ne N hf _ (.head _) _ (.head _) e.symm
  clear F N hf
  dsimp only
  repeat' (first | (k_unfold; (try dsimp only)) | (k_end; wrow_close) | ((fail_if_success (with_reducible show wpAny _ _ (call (Value.ref 35) _) _ _ _)); walk1) | ((fail_if_success (with_reducible show wpAny _ _ (call (Value.ref 35) _) _ _ _)); dsimp only; walk1) | ((fail_if_success (with_reducible show wpAny _ _ (call (Value.ref 35) _) _ _ _)); leave1; walk_say "STEP leave1"; try dsimp only) | fail "no step")
  have hlm : ∀ p ∈ l, p.1 ∈ httpList z := fun p hp => hml ▸ List.mem_map.mpr ⟨p, hp, rfl⟩
  have FB : Fr B L h2 (fun y => if y = Str.ofString "texts" then some (.ref a) else if y = Str.ofString "sheet" then some (.str z t) else none) := ⟨F2.ns, fun b o e => F2.keep b o (hB b o e), hL ▸ hle⟩
  have hLB : B.get? L = none := by
    cases q : B.get? L with
    | none => rfl
    | some o => exact absurd (Nat.lt_of_lt_of_le (Heap.lt_size (hB _ _ q)) F2.above) (Nat.lt_irrefl _)
  obtain ⟨oL, _, _, hoL, hdL, _⟩ := id F2.ns
  refine lvlF_le (kv_spec (es := l) (B := B) (X0.keeps F2.keep) (T0.keeps F2.keep) (N2.isList (.head _)) ?_ (fun p hp => hsh _ (hlm p hp)) (fun p hp => hok _ (hlm p hp)) ?_ FB.keep ?_ ?_) rfl rfl (Nat.le_of_ble_eq_true rfl) (Nat.le_of_ble_eq_true rfl)
  · rw [← hml] at hlen; simpa using hlen
  · refine ⟨(fun e => nomatch e), ⟨L, oL, rfl, hLB, hoL, fun vs q => ?_⟩, hfr.of_keeps fun b o q _ => ⟨o, F2.keep _ _ q, rfl⟩⟩
    rw [hdL] at q; cases q
  · intro d o l' h3 tk3 hg3 hf3 hns hdo hkv hll hl'
    rw [hml] at hkv
    have F3 := grown_fr F2 hg3
    have N3 := grown_news F2 N2 hg3 hf3
    have hdb : @Ne Nat d b := fun e => fresh_ne N2 hf3 _ (.head _) _ (.head _) e.symm
    have hdL1 : @Ne Nat d (L + 1) := fun e => fresh_ne N2 hf3 _ (.tail _ (.head _)) _ (.head _) e.symm
    clear F2 N2 hf3 FB
    dsimp only
    repeat' (first | (k_unfold; (try dsimp only)) | (k_end; wrow_close) | ((fail_if_success (with_reducible show wpAny _ _ (call (Value.type "list") _) _ _ _)); (fail_if_success (with_reducible show wpAny _ _ (eval (Expr.ListComp _ _ _ _) _) _ _ _)); walk1) | ((fail_if_success (with_reducible show wpAny _ _ (call (Value.type "list") _) _ _ _)); (fail_if_success (with_reducible show wpAny _ _ (eval (Expr.ListComp _ _ _ _) _) _ _ _)); dsimp only; walk1) | ((fail_if_success (with_reducible show wpAny _ _ (call (Value.type "list") _) _ _ _)); (fail_if_success (with_reducible show wpAny _ _ (eval (Expr.ListComp _ _ _ _) _) _ _ _)); leave1; walk_say "STEP leave1"; try dsimp only) | fail "no step")
    rename Fr _ _ _ _ => F4
    rename News _ _ _ _ => N4
    rename_i o4 _ _ dT' D4 h4' l1
    have hll' : l'.length ≤ 1000 := by
      rw [← hml] at hlen
      have : l.length ≤ 1000 := by simpa using hlen
      omega
    refine items_list (l := l') (d := d) (od := o) rfl F4 N4 (.head _) (.tail _ (.head _)) hdo (by omega) ?_
    intro D tl h5 tk5 F5 N5 hD
    clear F4 N4
    dsimp only
    repeat' (first | (k_unfold; (try dsimp only)) | (k_end; wrow_close) | ((fail_if_success (with_reducible show wpAny _ _ (eval (Expr.ListComp _ _ _ _) _) _ _ _)); walk1) | ((fail_if_success (with_reducible show wpAny _ _ (eval (Expr.ListComp _ _ _ _) _) _ _ _)); dsimp only; walk1) | ((fail_if_success (with_reducible show wpAny _ _ (eval (Expr.ListComp _ _ _ _) _) _ _ _)); leave1; walk_say "STEP leave1"; try dsimp only) | fail "no step")
    refine comp_eval (cl := [(Str.ofString "table", L + 1)]) rfl rfl (by decide) (fun _ => rfl) ?_
    walk1
    refine comp_list (vs := strValues xs) (Acc := fun q ys T => DatAll T ys (((xs.map (·.1)).take q).map fun x => Dat.list ((firstFit (pairsOf l') x).map Dat.str))) ?_ ?_ ?_ own_name ?_ ?_ ?_
    · rfl
    · exact hl.at fun o e => F5.keep a o e
    · rw [sizeLine_eq]; simp [strValues]; omega
    · exact .nil
    · intro C q v hh tk mc led ys T' hC hq hP hA FC NC hled hcl hT
      obtain ⟨x, tx, rfl, hx⟩ : ∃ x tx, v = .str x tx ∧ xs[q]? = some (x, tx) := by
        simp only [strValues, List.getElem?_map, Option.map_eq_some_iff] at hP
        obtain ⟨p, hp, rfl⟩ := hP
        exact ⟨p.1, p.2, rfl, hp⟩
      have hxl := hxs (x, tx) (List.mem_of_getElem? hx)
      have hCn : h5.get? (C + 1) = none := by
        cases q : h5.get? (C + 1) with
        | none => rfl
        | some o => exact absurd (Heap.lt_size q) (Nat.not_lt.mpr (Nat.le_trans hC (Nat.le_succ C)))
      refine bind_cell (c := C + 1) FC NC rfl rfl rfl (hcl _ (.head _)) (Nat.succ_ne_self C) hCn (fun p hp e => hled p hp (e ▸ .head _)) ?_
      intro h6 F6 N6 hc6
      refine wpAny_tests_nil ?_
      rw [if_pos rfl]
      have hcT : h5.IsCell (L + 1) (some (.ref d)) := ⟨o4, (N5 _ (List.mem_append_right _ (.tail _ (.tail _ (.tail _ (.head _)))))).1, dT'⟩
      have hD5 := (N5 _ (List.mem_append_right _ (.tail _ (.head _)))).1
      have X5 := X0.keeps F5.keep
      have T5 := T0.keeps F5.keep
      clear F5 N5 FC NC
      repeat' (first | (k_unfold; (try dsimp only)) | (k_end; wrow_close) | ((fail_if_success (with_reducible show wpAny _ _ (eval (Expr.ListComp _ _ _ _) _) _ _ _)); walk1) | ((fail_if_success (with_reducible show wpAny _ _ (eval (Expr.ListComp _ _ _ _) _) _ _ _)); dsimp only; walk1) | ((fail_if_success (with_reducible show wpAny _ _ (eval (Expr.ListComp _ _ _ _) _) _ _ _)); leave1; walk_say "STEP leave1"; try dsimp only) | fail "no step")
      dsimp only at F6 N6 ⊢
      have hcT6 : h6.IsCell (L + 1) (some (.ref d)) := hcT.keeps F6.keep
      have hD6 : h6.get? d = some o := F6.keep _ _ hD5
      have X6 := X5.keeps F6.keep
      have T6 := T5.keeps F6.keep
      obtain ⟨ep, hat⟩ := KdkAt.of hdo
      refine comp_eval (cl := [(Str.ofString "text", C + 1), (Str.ofString "table", L + 1)]) rfl rfl (by decide) (fun _ => rfl) ?_
      walk1
      refine comp_dict (knd := strKind prog w) (kvs := kvsOf l') (ep := ep) (Acc := fun q ys T => T = [] ∧ ∃ l9 : List (Str × Tok), ys = strValues l9 ∧ l9.map (·.1) = (((pairsOf l').take q).filter fun p => ellipsisMatch p.1 x).map (·.2)) ?_ hns ?_ ?_ ?_ ?_ ?_
      · rfl
      · exact hat.dictAt hD6
      · rw [sizeLine_eq]; simp [kvsOf]; omega
      · exact ⟨rfl, [], rfl, rfl⟩
      · intro C' q' v' hh' tk' mc' led' ys' T'' hC' hq' hP' hA' FC' NC' hled' hcl' hT'
        obtain ⟨rfl, l9, rfl, hl9⟩ := hA'
        obtain ⟨k, vv, hkq, hkis⟩ := hP'
        obtain ⟨tk0, rfl⟩ := Value.isStrOf_shape hkis
        obtain ⟨p9, hp9, e9⟩ : ∃ p, l'[q']? = some p ∧ (p.1, Value.str p.2.1 p.2.2) = (k, vv) := by
          simp only [kvsOf, List.getElem?_map, Option.map_eq_some_iff] at hkq
          exact hkq
        obtain ⟨k9, v9, t9⟩ := p9
        cases e9
        have hkl := hl' _ (List.mem_of_getElem? hp9)
        dsimp only at hkl hxl
        refine bind_local FC' NC' rfl rfl rfl ?_
        intro h7 F7 N7 _
        refine wpAny_tests_one ?_
        clear FC' NC' hcl' F6 N6 hcT hD5 X5 T5 hcl
        dsimp only at F7 N7 ⊢
        repeat' (first | (k_unfold; (try dsimp only)) | (k_end; wrow_close) | ((fail_if_success (with_reducible show wpAny _ _ (call (Value.ref 21) _) _ _ _)); walk1) | ((fail_if_success (with_reducible show wpAny _ _ (call (Value.ref 21) _) _ _ _)); dsimp only; walk1) | ((fail_if_success (with_reducible show wpAny _ _ (call (Value.ref 21) _) _ _ _)); leave1; walk_say "STEP leave1"; try dsimp only) | fail "no step")
        rename Fr _ _ _ _ => F7
        rename News _ _ _ _ => N7
        have hk2' : Txt.contains k9 (Str.ofString "...") = true → 2 ≤ (Txt.split k9 (Str.ofString "...")).length := hk2 _ hkv (k9, v9) (List.mem_map.mpr ⟨_, List.mem_of_getElem? hp9, rfl⟩)
        refine lvl_le (em_spec (X6.keeps F7.keep) (T6.keeps F7.keep) hkl.1 hxl hk2' ?_) rfl (Nat.le_of_ble_eq_true rfl) (Nat.le_of_ble_eq_true rfl)
        intro h8 tk8 hg8
        have F8 := grown_fr F7 hg8
        have N8 := grown_news F7 N7 hg8 Fresh.nil
        clear F7 N7
        rw [List.nil_append] at N8
        have hval : valueAt (kvsOf l') k9 = some (.str v9 t9) := by
          obtain ⟨_, _, _, _, _, hnd⟩ := id hat
          exact valueAt_at hnd hkq
        have hstep : (((pairsOf l').take (q' + 1)).filter fun p => ellipsisMatch p.1 x).map (·.2) = (((pairsOf l').take q').filter fun p => ellipsisMatch p.1 x).map (·.2) ++ (if ellipsisMatch k9 x = true then [v9] else []) := by
          have : (pairsOf l')[q']? = some (k9, v9) := by unfold pairsOf; rw [List.getElem?_map, hp9]; rfl
          rw [List.take_add_one, this, List.filter_append, List.map_append]
          congr 1
          by_cases hm : ellipsisMatch k9 x = true
          · simp [hm]
          · simp [hm]
        cases hm : ellipsisMatch k9 x with
        | false =>
          rw [hm] at hstep
          k_steps
          refine ⟨_, _, _, [], rfl, F8, N8, (fun _ h => nomatch h), (fun _ h => nomatch h), CellsLive.nil, rfl, l9, by simp, ?_⟩
          rw [hl9, hstep]
          simp
        | true =>
          rw [hm] at hstep
          repeat' (first | (k_unfold; (try dsimp only)) | (k_end; wrow_close) | ((fail_if_success (with_reducible show wpAny _ _ (subscriptTail _ _ _ _) _ _ _)); walk1) | ((fail_if_success (with_reducible show wpAny _ _ (subscriptTail _ _ _ _) _ _ _)); dsimp only; walk1) | ((fail_if_success (with_reducible show wpAny _ _ (subscriptTail _ _ _ _) _ _ _)); leave1; walk_say "STEP leave1"; try dsimp only) | fail "no step")
          have hD8 : Heap.DictOf (strKind prog w) h8 d (kvsOf l') := Heap.dictOf_iff.mpr ⟨o, F8.keep _ _ hD6, hdo⟩
          refine' subscriptTail_builtin (T := "dict") ?_ slot_dict_getitem.lookup (wpAny_getItem_of (f := valueAt (kvsOf l')) hkis ?_ hval ?_)
          · exact hD8.typeIs
          · exact hD8.mapOf
          refine ⟨_, _, _, [], rfl, F8, N8, (fun _ h => nomatch h), (fun _ h => nomatch h), CellsLive.nil, rfl, l9 ++ [(v9, t9)], by simp [strValues], ?_⟩
          rw [List.map_append, hl9, hstep]
          simp
      · intro o9 D9 h9 tk9 ys9 T9 k9 hg9 hf9 hne9 hys9 hA9
        obtain ⟨rfl, l9, rfl, hl9⟩ := hA9
        have F9 := grown_fr F6 hg9
        obtain ⟨oc, hoc, hdc⟩ := id hc6
        have N9 : News h5 C h9 ((D9, W.listOf (strValues l9).toArray k9) :: (C + 1, oc) :: led) := fun p hp => by
          have N9' := grown_news F6 N6 hg9 hf9
          cases hp with
          | head => exact N9' _ (.head _)
          | tail _ hp =>
            cases hp with
            | head => exact ⟨hg9 _ _ hoc, Nat.succ_ne_self C, hCn⟩
            | tail _ hp => exact N9' _ (.tail _ hp)
        have hne : ∀ p ∈ led, p.1 ≠ D9 := fun p hp => fresh_ne N6 hf9 p hp _ (.head _)
        clear F6 N6
        dsimp only
        k_steps
        refine' kmk_slice (its := (strValues l9).toArray) (lo := none) (hi := some 1) F9 N9 ?_ ?_ ?_ ?_ ?_ ?_ ?_
        · exact N9.isList (.head _)
        · exact .none
        · exact .int _ _
        · intro D10 h10 F10 N10 hlt10
          have el : slicePick (strValues l9).toArray none (some 1) none = (strValues (l9.take 1)).toArray := by
            have := slicePick_upto' (strValues l9).toArray 1
            rw [show ((1 : Nat) : Int) = 1 from rfl] at this
            rw [this]
            simp [strValues, List.map_take]
          rw [el] at N10
          refine ⟨h10, _, mc, [(D10, W.listOf (strValues (l9.take 1)).toArray 0)], rfl, F10, fun p hp => ?_, ?_, ?_, ?_, ?_⟩
          · rcases List.mem_append.mp hp with hp | hp
            · rw [List.mem_singleton.mp hp]; exact N10 _ (.head _)
            · exact N10 p (.tail _ (.tail _ (.tail _ hp)))
          · intro p hp q hq e
            rw [List.mem_singleton.mp hp] at e
            exact absurd (hlt10 q (.tail _ (.tail _ hq))) (e ▸ Nat.lt_irrefl _)
          · intro p hp hq
            rw [List.mem_singleton.mp hp] at hq
            have hq' : D10 = C + 1 := List.mem_singleton.mp hq
            exact absurd (hlt10 _ (.tail _ (.head _))) (hq' ▸ Nat.lt_irrefl _)
          · intro c hc
            have hc' : c = C + 1 := List.mem_singleton.mp hc
            subst hc'
            exact ⟨_, oc, (N10 _ (.tail _ (.tail _ (.head _)))).1, hdc⟩
          · have e1 : ((xs.map (·.1)).take (q + 1)) = (xs.map (·.1)).take q ++ [x] := by
              rw [List.take_add_one, List.getElem?_map, hx]; rfl
            rw [e1, List.map_append]
            refine datAll_snoc (hA.mono fun p hp => List.mem_append_right _ hp) ?_
            refine .list (vs := strValues (l9.take 1)) (n := 0) (.head _) ?_
            have e2 : firstFit (pairsOf l') x = (l9.take 1).map (·.1) := by
              unfold firstFit
              rw [List.map_take, hl9, List.take_of_length_le (l := pairsOf l') (by simp [pairsOf, kvsOf])]
            rw [e2]
            exact datAll_strs _
        · with_unfolding_all rfl
        · intro _; with_unfolding_all rfl
        · rw [sizeLine_eq]
          have : (kvsOf l').length = l'.length := by simp [kvsOf]
          rw [List.size_toArray]
          omega
    · intro o6 D6 h6 tk6 ys6 T6 k6 hg6 hf6 hne6 hys6 hA6
      have hlen6 : (strValues xs).length = (xs.map (·.1)).length := by simp [strValues]
      rw [hlen6, List.take_length] at hA6
      have F6 := grown_fr F5 hg6
      have N6 := grown_news F5 N5 hg6 hf6
      clear F5 N5
      dsimp only
      k_steps
      rename Fr _ _ _ _ => F7
      rename News _ _ _ _ => N7
      have e : readDat z (xs.map (·.1)) = Dat.tuple [.list ((pairsOf l').map fun p => Dat.tuple [.str p.1, .str p.2]), .list ((xs.map (·.1)).map fun x => Dat.list ((firstFit (pairsOf l') x).map Dat.str))] := by unfold readDat; rw [hkv]
      refine h _ _ _ _ (fun b o q => F7.keep b o (hB b o q)) (.of_keeps F7.keep) (fresh_of_news N7) ?_
      rw [e]
      refine .tuple (vs := [.ref D, .ref D6]) (n := 0) (.head _) (.cons (hD.mono fun p hp => .tail _ (List.mem_append_right _ (List.mem_append_left _ hp))) (.cons (.list (vs := ys6) (n := k6) (.tail _ (.head _)) (hA6.mono fun p hp => .tail _ (List.mem_append_left _ (.tail _ hp)))) .nil))
  · intro e h3 tk3 a0 hkv hfl hup
    rw [hml] at hkv
    refine caughtM rfl rfl FB hup hfl T.g (T.free (Str.ofString "ValueError") (by decide +kernel) (by decide +kernel) (by decide +kernel) (by decide +kernel) (by decide +kernel)) T.b ((T.builtins (Str.ofString "ValueError") (by decide +kernel)).trans PyProof.Rows.Boot.«ValueError») PySem.F.isExc_ValueError PySem.F.notTuple_ValueError (by rw [isSubtype_type]; kernel_rfl) ?_ rfl rfl rfl rfl (by decide)
    intro h4 F4 hup4
    have hup' : s.heap.UpToSlots h4 := (Heap.UpToSlots.of_keeps F2.keep).trans hup4
    clear F2 N2 FB
    dsimp only
    k_steps
    have e : readDat z (xs.map (·.1)) = Dat.none := by unfold readDat; rw [hkv]
    refine h .none h4 _ [] F4.keep hup' Fresh.nil ?_
    rw [e]
    exact .none
end
end Mine

/-! part LS -/
open PySem PySem.W PySem.Calls PyProof.Rows
set_option Elab.async false
set_option maxRecDepth 100000
set_option maxHeartbeats 8000000
namespace Mine

theorem fill_LS : PySem.Challenge.rw_mq0199_01 = PySem.Challenge.rw_mq0199_01 ∧ hd.heap_39 = hd.heap_39 := by
  k_fill
  exact ⟨rfl, rfl⟩

def codeSign (c : Str) : Str := if Txt.contains (Str.ofString "\"\\") c = true then Str.ofString "\\" ++ c else c
def codeVerd (v : Str) : Str := Str.ofString "\"" ++ Txt.join (Str.ofString "") (v.cps.toList.map fun c => codeSign ⟨#[c]⟩) ++ Str.ofString "\""
def ruleText (n : Int) : Str := lawPat (n.fdiv 4) ++ Str.ofString "=" ++ (if lawVerd (n.fdiv 4) = Str.ofString "=" then lawVerd (n.fdiv 4) else codeVerd (lawVerd (n.fdiv 4)))
def sheetStep (z : Str) (n : Int) : Str :=
  if n.fmod 4 = 0 then ruleText n ++ Str.ofString "," ++ z
  else if n.fmod 4 = 1 then commentLine (ruleText n ++ Str.ofString " ") ++ Str.ofString "," ++ z
  else if n.fmod 4 = 2 then commentLine z
  else if Txt.slice z none (some 2) = Str.ofString "# " then Txt.slice z (some 2) none
  else z
def sheetAt (ns : List Int) (i : Nat) : Str := (ns.take i).foldl sheetStep (Str.ofString "")
def askTexts (n : Int) : List Str := [lawWord n, commentLine (lawWord n ++ Str.ofString " "), commentLine (Str.ofString " " ++ lawWord n ++ Str.ofString " \n")]
def toldAll (ns : List Int) : List Dat := (List.range ns.length).map fun i => readDat (sheetAt ns (i + 1)) (askTexts (ns.getD i 0))
structure SheetOk (z : Str) : Prop where
  len : z.length ≤ 10000
  rows : (httpList z).length ≤ 1000
  each : ∀ p ∈ httpList z, p.length ≤ 1000
  ok : ∀ p ∈ httpList z, kvOk p = true
  two : ∀ D, keqv (httpList z) [] = some D → ∀ p ∈ D, Txt.contains p.1 (Str.ofString "...") = true → 2 ≤ (Txt.split p.1 (Str.ofString "...")).length
theorem sheetAt_succ {ns : List Int} {i : Nat} {n : Int} (h : ns[i]? = some n) : sheetAt ns (i + 1) = sheetStep (sheetAt ns i) n := by
  unfold sheetAt
  rw [List.take_add_one, h, List.foldl_append]
  rfl
theorem toldAll_succ {ns : List Int} {i : Nat} {n : Int} (h : ns[i]? = some n) : (toldAll ns).take (i + 1) = (toldAll ns).take i ++ [readDat (sheetAt ns (i + 1)) (askTexts n)] := by
  have hi : i < ns.length := (List.getElem?_eq_some_iff.mp h).1
  have : (toldAll ns)[i]? = some (readDat (sheetAt ns (i + 1)) (askTexts n)) := by
    unfold toldAll
    rw [List.getElem?_map, List.getElem?_range hi]
    simp [List.getD, h]
  rw [List.take_add_one, this]
  rfl
def LsMid (B : Heap) (s : Shared) (L : Addr) (news : List (Addr × Obj)) (P : (Str → Option Value) → Prop) (f : Flow) (s' : Shared) : Prop :=
  f = .next ∧ ∃ h' tk m', s' = { s with heap := h', toks := tk } ∧ Fr B L h' m' ∧ News B L h' news ∧ P m'
theorem signs_len (i : Nat) : (signs5.getD i Str.empty).length ≤ 1 := by
  match i with
  | 0 | 1 | 2 | 3 | 4 => decide
  | n + 5 => exact Nat.zero_le _
theorem lawVerd_len (m : Int) : (lawVerd m).length ≤ 2 := by
  unfold lawVerd
  rw [Str.length_append]
  have h1 := signs_len ((m.fdiv 5).fmod 5).toNat
  have h2 := signs_len ((m.fdiv 25).fmod 5).toNat
  omega
theorem lawPat_len (m : Int) : (lawPat m).length ≤ 8 := by
  unfold lawPat
  match (m.fmod 5).toNat with
  | 0 | 1 | 2 | 3 | 4 => decide
  | n + 5 => exact Nat.zero_le _
theorem lawWord_len (m : Int) : (lawWord m).length ≤ 3 := by
  unfold lawWord
  match (m.fmod 5).toNat with
  | 0 | 1 | 2 | 3 | 4 => decide
  | n + 5 => exact Nat.zero_le _
theorem lawVerd_cases (m : Int) : ∃ i j, i < 5 ∧ j < 5 ∧ lawVerd m = signs5.getD i Str.empty ++ signs5.getD j Str.empty := by
  refine ⟨((m.fdiv 5).fmod 5).toNat, ((m.fdiv 25).fmod 5).toNat, ?_, ?_, rfl⟩
  · have := Int.fmod_lt_of_pos (m.fdiv 5) (b := 5) (by decide)
    have := Int.fmod_nonneg_of_pos (m.fdiv 5) (b := 5) (by decide)
    omega
  · have := Int.fmod_lt_of_pos (m.fdiv 25) (b := 5) (by decide)
    have := Int.fmod_nonneg_of_pos (m.fdiv 25) (b := 5) (by decide)
    omega
def codeJoin (v : Str) : Str := Txt.join (Str.ofString "") (v.cps.toList.map fun c => codeSign ⟨#[c]⟩)
theorem codeJoin_fits : ∀ i, i < 5 → ∀ j, j < 5 → (codeJoin (signs5.getD i Str.empty ++ signs5.getD j Str.empty)).length ≤ 4 ∧
    (((signs5.getD i Str.empty ++ signs5.getD j Str.empty).cps.toList.map fun c => codeSign ⟨#[c]⟩).map (·.length)).sum ≤ 4 := by decide +kernel
theorem codeJoin_len (m : Int) : (codeJoin (lawVerd m)).length ≤ 4 ∧ (((lawVerd m).cps.toList.map fun c => codeSign ⟨#[c]⟩).map (·.length)).sum ≤ 4 := by
  obtain ⟨i, j, hi, hj, e⟩ := lawVerd_cases m
  rw [e]; exact codeJoin_fits i hi j hj
theorem codeSign_one (c : Str) : codeSign c = if (Builtin.Str.occurrences (Str.ofString "\"\\") c 0 (Str.ofString "\"\\").length 1).isEmpty = true then c else Str.ofString "\\" ++ c := by
  unfold codeSign Txt.contains
  cases (Builtin.Str.occurrences (Str.ofString "\"\\") c 0 (Str.ofString "\"\\").length 1).isEmpty <;> rfl
theorem commentLine_len (x : Str) : (commentLine x).length ≤ x.length + 2 := by
  have := len_rstrip x
  unfold commentLine
  split
  · exact Nat.le_trans (by decide : (Str.ofString "#").length ≤ 2) (Nat.le_add_left _ _)
  · rw [Str.length_append]
    have : (Str.ofString "# ").length = 2 := rfl
    omega
theorem hide2_stays {B hq : Heap} {L Lf : Addr} {m : Str → Option Value} (F : Fr B L hq m) (hLB : B.get? Lf = none) : B.StaysIn (hideAll hq [L, Lf]) := fun b o e => by
  have hLn : B.get? L = none := by
    cases q : B.get? L with
    | none => rfl
    | some o => exact absurd (Nat.lt_of_lt_of_le (Heap.lt_size q) F.above) (Nat.lt_irrefl _)
  refine hideAll_get _ (F.keep b o e) fun hm => ?_
  cases hm with
  | head => rw [hLn] at e; cases e
  | tail _ hm =>
    rw [List.mem_singleton.mp hm, hLB] at e; cases e
theorem after_read {B hq h' : Heap} {L Lf : Addr} {m : Str → Option Value} {oF' : Obj} {rest tl' : List (Addr × Obj)} (F : Fr B L hq m) (N : News B L hq rest) (hLf : hq.get? Lf = some oF') (hd : ∀ vs, oF'.data ≠ .fields vs) (hLB : B.get? Lf = none) (hLfL : Lf ≠ L) (hne : ∀ p ∈ rest, p.1 ≠ Lf)
    (hs : (hideAll hq [L, Lf]).StaysIn h') (hu : hq.UpToSlots h') (hf : Fresh hq h' tl') : ∃ sl, Fr B L h' m ∧ News B L h' (tl' ++ (Lf, { oF' with slots := sl }) :: rest) := by
  obtain ⟨sl, hsl⟩ := hu Lf _ hLf hd
  obtain ⟨oL, _, _, hoL, _⟩ := id F.ns
  refine ⟨sl, F.of_stays (fun b o e => hs b o (hide2_stays F hLB b o e)) hu, fun p hp => ?_⟩
  rcases List.mem_append.mp hp with hp | hp
  · obtain ⟨h1, h2⟩ := hf p hp
    refine ⟨h1, fun e => ?_, ?_⟩
    · rw [e, hoL] at h2; cases h2
    · cases q : B.get? p.1 with
      | none => rfl
      | some o => rw [F.keep _ _ q] at h2; cases h2
  · cases hp with
    | head => exact ⟨hsl, hLfL, hLB⟩
    | tail _ hp =>
      obtain ⟨h1, h2, h3⟩ := N p hp
      refine ⟨hs _ _ (hideAll_get _ h1 fun hm => ?_), h2, h3⟩
      cases hm with
      | head => exact h2 rfl
      | tail _ hm => exact hne p hp (List.mem_singleton.mp hm)
theorem strsAre_strValues : ∀ l : List (Str × Tok), StrsAre (strValues l) (l.map (·.1))
  | [] => .nil
  | p :: l => .cons p.1 p.2 (strsAre_strValues l)
local macro_rules | `(tactic| walk_at "mine none") => `(tactic| fail "none")
local macro_rules | `(tactic| walk_at "eval Name") => `(tactic| (k_here; (with_reducible show wpAny _ _ (eval _ (compEnvD _ _ _ _)) _ _ _); k_dflt (first
  | (refine' name_in ?F ?a ?b ?c ?v ?_ ?d; (case a => rfl); (case b => rfl); (case c => rfl); (case F => k_asm); (case v => rfl); (case d => decide); k_whole))))
section
variable {prog : Program} {w : World} {E : Value → Shared → Prop} {s : Shared} {mean : ExcName → Option Value} {mg mb : Str → Option Value} {Q : Value → Shared → Prop}

theorem ls_spec {ns : List (Int × Tok)} {a Lf : Addr} {env0 : Env} {B : Heap} {oF : Obj} (X : (hd.heap_39 w.params).In B) (T : TopM mean mg mb B) (hB : B.StaysIn s.heap) (hle : B.objs.size ≤ s.heap.objs.size)
    (hf0 : env0.frame = some Lf) (hk0 : env0.scope.kind ≠ .module) (hfr : s.heap.FunFrames B [env0]) (hoF : s.heap.get? Lf = some oF) (hl : B.IsList a (intValues ns).toArray) (hlen : ns.length ≤ 10)
    (hS : ∀ i, i ≤ ns.length → SheetOk (sheetAt (ns.map (·.1)) i))
    (h : ∀ v h' tk' tl sl, B.StaysIn h' → h'.get? Lf = some { oF with slots := sl } → Fresh B h' tl → (∀ p ∈ tl, p.1 ≠ Lf) → DatIn tl v (.list (toldAll (ns.map (·.1)))) → Q v { s with heap := h', toks := tk' }) :
    wpAny (model prog w) (lvlF 360 [env0]) (call (.ref 64) [.ref a]) Q E s := by
  have X0 := X.keeps hB
  have T0 := T.keeps hB
  refine' enter X0 T0 ?ho ?hcd ?hroom ?hbind ?hloc ?h ?c1 ?c2 ?c3 ?c4
  case ho => k_is
  case hcd => k_is
  case hroom => exact Nat.le_of_ble_eq_true rfl
  case hbind => exact BindsTo.of_eq rfl
  case hloc => exact locs rfl
  case c1 => rfl
  case c2 => rfl
  case c3 => rfl
  case c4 => decide
  intro L h₁ hL F N
  obtain ⟨_, ⟨Lf', oF', hf1, hLB, hoF', hdF⟩, _⟩ := id hfr
  obtain rfl : Lf = Lf' := Option.some.inj (hf0.symm.trans hf1)
  obtain rfl : oF = oF' := Option.some.inj (hoF.symm.trans hoF')
  have hLfL : Lf ≠ L := hL ▸ Nat.ne_of_lt (Heap.lt_size hoF)
  have N' : News B L h₁ [(Lf, oF)] := fun p hp => by rw [List.mem_singleton.mp hp]; exact ⟨F.keep _ _ hoF, hLfL, hLB⟩
  have F' : Fr B L h₁ _ := ⟨F.ns, fun b o e => F.keep b o (hB b o e), hL ▸ hle⟩
  clear F N
  try dsimp only
  k_unmd
  k_fold
  repeat' (first | (k_unfold; (try dsimp only)) | (k_end; wrow_close) | ((fail_if_success (with_reducible show wpAny _ _ (exec (Stmt.For _ _ _ _ _) _) _ _ _)); walk1) | ((fail_if_success (with_reducible show wpAny _ _ (exec (Stmt.For _ _ _ _ _) _) _ _ _)); dsimp only; walk1) | ((fail_if_success (with_reducible show wpAny _ _ (exec (Stmt.For _ _ _ _ _) _) _ _ _)); leave1; walk_say "STEP leave1"; try dsimp only) | fail "no step")
  rename Fr _ _ _ _ => F1
  rename News _ _ _ _ => N1
  rename_i told _ _ _
  rename (Lf < told) => hTF
  refine For_invVF F1 rfl rfl ?_
  walk1
  refine old_iter (vs := intValues ns) (fun i m nx => ∃ sl tS vs k tl, nx = (told, W.listOf vs.toArray k) :: (Lf, { oF with slots := sl }) :: tl ∧ m (Str.ofString "told") = some (.ref told) ∧ m (Str.ofString "sheet") = some (.str (sheetAt (ns.map (·.1)) i) tS) ∧
    DatAll tl vs ((toldAll (ns.map (·.1))).take i) ∧ vs.length ≤ i ∧ (∀ p ∈ tl, p.1 ≠ told ∧ p.1 ≠ Lf)) rfl hl F1 N1 ?_ ?_ ?_
  · exact ⟨oF.slots, _, [], 0, [], rfl, rfl, rfl, .nil, Nat.le_refl _, fun _ h => nomatch h⟩
  · rintro i v m₁ nx hh tk own hv hoff ⟨sl, tS, vs, k, tl, rfl, e1, e2, hvs, hvl, hne⟩ F2 N2
    obtain ⟨n, tn, rfl, hn⟩ : ∃ n tn, v = .int n tn ∧ ns[i]? = some (n, tn) := by
      simp only [intValues, List.getElem?_map, Option.map_eq_some_iff] at hv
      obtain ⟨p, hp, rfl⟩ := hv
      exact ⟨p.1, p.2, rfl, hp⟩
    have F3 := fr_name3 F2 (x1 := Str.ofString "n") (x2 := Str.ofString "told") (x3 := Str.ofString "sheet") rfl e1 e2
    clear F2 F1 N1 X0 T0
    have hlp := lawPat_len (n.fdiv 4)
    have hlv := lawVerd_len (n.fdiv 4)
    repeat' (first | (k_unfold; (try dsimp only)) | (k_end; wrow_close) | ((fail_if_success (with_reducible show wpAny _ _ (call (Value.ref 54) _) _ _ _)); walk1) | ((fail_if_success (with_reducible show wpAny _ _ (call (Value.ref 54) _) _ _ _)); dsimp only; walk1) | ((fail_if_success (with_reducible show wpAny _ _ (call (Value.ref 54) _) _ _ _)); leave1; walk_say "STEP leave1"; try dsimp only) | fail "no step")
    rename Fr _ _ _ _ => F4
    rename News _ _ _ _ => N4
    refine lvl_le (lawRule_spec (X.keeps F4.keep) (T.keeps F4.keep) ?_) rfl (Nat.le_of_ble_eq_true rfl) (Nat.le_of_ble_eq_true rfl)
    intro ar t1 t2 h5 tk5 hg5 hf5
    have F5 := grown_fr F4 hg5
    have N5 := grown_news F4 N4 hg5 hf5
    clear F4 N4
    dsimp only
    repeat' (first | (k_unfold; (try dsimp only)) | (k_end; wrow_close) | ((fail_if_success (with_reducible show wpAny _ _ (assign (Expr.Tuple _ _ _) _ _) _ _ _)); walk1) | ((fail_if_success (with_reducible show wpAny _ _ (assign (Expr.Tuple _ _ _) _ _) _ _ _)); dsimp only; walk1) | ((fail_if_success (with_reducible show wpAny _ _ (assign (Expr.Tuple _ _ _) _ _) _ _ _)); leave1; walk_say "STEP leave1"; try dsimp only) | fail "no step")
    rename Fr _ _ _ _ => F6
    rename News _ _ _ _ => N6
    refine kun_list F6 N6 (N6.isList (.head _)) rfl rfl rfl ?_
    intro h7 F7 N7
    clear F6 N6
    repeat' (first | (k_unfold; (try dsimp only)) | (k_end; wrow_close) | ((fail_if_success (with_reducible show wpAny _ _ (eval (Expr.ListComp _ _ _ _) _) _ _ _)); walk1) | ((fail_if_success (with_reducible show wpAny _ _ (eval (Expr.ListComp _ _ _ _) _) _ _ _)); dsimp only; walk1) | ((fail_if_success (with_reducible show wpAny _ _ (eval (Expr.ListComp _ _ _ _) _) _ _ _)); leave1; walk_say "STEP leave1"; try dsimp only) | fail "no step")
    rename Fr _ _ _ _ => F8
    rename News _ _ _ _ => N8
    clear F7 N7 hf5
    refine comp_eval (cl := []) rfl rfl (by decide) (fun _ => rfl) ?_
    walk1
    refine comp_str (Acc := fun q ys T => T = [] ∧ ∃ l9 : List (Str × Tok), ys = strValues l9 ∧ l9.map (·.1) = ((lawVerd (n.fdiv 4)).cps.toList.take q).map fun c => codeSign ⟨#[c]⟩) ?_ ?_ ?_ ?_ ?_
    · rfl
    · rw [sizeLine_eq]; exact Nat.le_trans hlv (by decide)
    · exact ⟨rfl, [], rfl, rfl⟩
    · intro C q v hh9 tk9 mc led ys T' hC hq hP hA FC NC hled hcl hT
      obtain ⟨c, tc, hc, rfl⟩ := hP
      obtain ⟨rfl, l9, rfl, hl9⟩ := hA
      refine bind_local FC NC rfl rfl rfl ?_
      intro h10 F10 N10 _
      refine wpAny_tests_nil ?_
      rw [if_pos rfl]
      clear FC NC hcl F8 N8
      dsimp only at F10 N10 ⊢
      have hsucc : ((lawVerd (n.fdiv 4)).cps.toList.take (q + 1)).map (fun c => codeSign ⟨#[c]⟩) = ((lawVerd (n.fdiv 4)).cps.toList.take q).map (fun c => codeSign ⟨#[c]⟩) ++ [codeSign ⟨#[c]⟩] := by
        have : (lawVerd (n.fdiv 4)).cps.toList[q]? = some c := by rw [Array.getElem?_toList]; exact hc
        rw [List.take_add_one, this, List.map_append]
        rfl
      rw [codeSign_one] at hsucc
      k_steps
      · rename (_ = true) => hin
        rw [if_pos hin] at hsucc
        rename Fr _ _ _ _ => F11
        rename News _ _ _ _ => N11
        refine ⟨_, _, _, [], rfl, F11, N11, (fun _ h => nomatch h), (fun _ h => nomatch h), CellsLive.nil, rfl, l9 ++ [(⟨#[c]⟩, tc)], by simp [strValues], ?_⟩
        rw [List.map_append, hl9, hsucc]
        rfl
      · rename (_ = false) => hin
        rw [if_neg (by rw [hin]; decide)] at hsucc
        rename Fr _ _ _ _ => F11
        rename News _ _ _ _ => N11
        refine ⟨_, _, _, [], rfl, F11, N11, (fun _ h => nomatch h), (fun _ h => nomatch h), CellsLive.nil, rfl, l9 ++ [(Str.ofString "\\" ++ ⟨#[c]⟩, _)], by simp [strValues]; rfl, ?_⟩
        rw [List.map_append, hl9, hsucc]
        rfl
    · intro o9 D9 h9 tk9 ys9 T9 k9 hg9 hf9 hne9 hys9 hA9
      obtain ⟨rfl, l9, rfl, hl9⟩ := hA9
      have F9 := grown_fr F8 hg9
      have N9 := grown_news F8 N8 hg9 hf9
      clear F8 N8
      dsimp only
      repeat' (first | (k_unfold; (try dsimp only)) | (k_end; wrow_close) | ((fail_if_success (with_reducible show wpAny _ _ (call (Value.builtin _) _) _ _ _)); walk1) | ((fail_if_success (with_reducible show wpAny _ _ (call (Value.builtin _) _) _ _ _)); dsimp only; walk1) | ((fail_if_success (with_reducible show wpAny _ _ (call (Value.builtin _) _) _ _ _)); leave1; walk_say "STEP leave1"; try dsimp only) | fail "no step")
      rename Fr _ _ _ _ => F10
      rename News _ _ _ _ => N10
      have hl9' : l9.map (·.1) = (lawVerd (n.fdiv 4)).cps.toList.map fun c => codeSign ⟨#[c]⟩ := by
        rw [hl9, List.take_of_length_le (by simp)]
      have hcl := codeJoin_len (n.fdiv 4)
      refine join_listW (N10.isList (.head _)) (strsAre_strValues l9) (by decide) ?_ ?_
      · rw [hl9']
        have : ((lawVerd (n.fdiv 4)).cps.toList.map fun c => codeSign ⟨#[c]⟩).length ≤ 2 := by rw [List.length_map, Array.length_toList]; exact hlv
        omega
      intro t11 k11
      rw [hl9']
      change wpAny _ _ (binaryOp _ _ (.str (codeJoin (lawVerd (n.fdiv 4))) _)) _ _ _
      replace hcl := hcl.1
      repeat' (first | (k_unfold; (try dsimp only)) | (k_end; wrow_close) | ((fail_if_success (with_reducible show wpAny _ _ (exec (Stmt.Assign [Expr.Name (Str.ofString "rule") _] _ _) _) _ _ _)); walk1) | ((fail_if_success (with_reducible show wpAny _ _ (exec (Stmt.Assign [Expr.Name (Str.ofString "rule") _] _ _) _) _ _ _)); dsimp only; walk1) | ((fail_if_success (with_reducible show wpAny _ _ (exec (Stmt.Assign [Expr.Name (Str.ofString "rule") _] _ _) _) _ _ _)); leave1; walk_say "STEP leave1"; try dsimp only) | fail "no step")
      rename Fr _ _ _ _ => F12
      rename News _ _ _ _ => N12
      have hi : i < ns.length := (List.getElem?_eq_some_iff.mp hn).1
      have hz := (hS i (Nat.le_of_lt hi)).len
      have hrl : (ruleText n).length ≤ 40 := by
        unfold ruleText codeVerd
        have e1 : (Str.ofString "=").length = 1 := rfl
        have e2 : (Str.ofString "\"").length = 1 := rfl
        split <;> simp only [Str.length_append]
        · omega
        · change (lawPat (n.fdiv 4)).length + _ + (_ + (codeJoin (lawVerd (n.fdiv 4))).length + _) ≤ 40
          omega
      refine wpAny_mono (Q := LsMid B s L ([(told, W.listOf vs.toArray k), (Lf, { oF with slots := sl })] ++ (tl ++ own)) (fun m' => m' (Str.ofString "told") = some (.ref told) ∧ m' (Str.ofString "n") = some (.int n tn) ∧ (∃ t, m' (Str.ofString "sheet") = some (.str (sheetAt (ns.map (·.1)) i) t)) ∧ ∃ t, m' (Str.ofString "rule") = some (.str (ruleText n) t))) ?_ ?_ (fun _ _ e => e)
      · k_steps
        · rename ((lawVerd (n.fdiv 4) == Str.ofString "=") = true) => hv
          rename Fr _ _ _ _ => F13
          rename News _ _ _ _ => N13
          have e : ruleText n = lawPat (n.fdiv 4) ++ Str.ofString "=" ++ lawVerd (n.fdiv 4) := by unfold ruleText; rw [if_pos (eq_of_beq hv)]
          rw [e]
          exact ⟨rfl, _, _, _, rfl, F13, fun p hp => N13 p (.tail _ (.tail _ hp)), rfl, rfl, ⟨_, rfl⟩, ⟨_, rfl⟩⟩
        · rename ((lawVerd (n.fdiv 4) == Str.ofString "=") = false) => hv
          rename Fr _ _ _ _ => F13
          rename News _ _ _ _ => N13
          have e : ruleText n = lawPat (n.fdiv 4) ++ Str.ofString "=" ++ (Str.ofString "\"" ++ codeJoin (lawVerd (n.fdiv 4)) ++ Str.ofString "\"") := by unfold ruleText; rw [if_neg (ne_of_beq_false hv)]; rfl
          rw [e]
          exact ⟨rfl, _, _, _, rfl, F13, fun p hp => N13 p (.tail _ (.tail _ hp)), rfl, rfl, ⟨_, rfl⟩, ⟨_, rfl⟩⟩
      rintro f s2 ⟨rfl, h13, tk13, m13, rfl, F13, N13, e1, e2, ⟨tS', e3⟩, ⟨tR, e4⟩⟩
      have F14 := fr_name4 F13 (x1 := Str.ofString "told") (x2 := Str.ofString "n") (x3 := Str.ofString "sheet") (x4 := Str.ofString "rule") e1 e2 e3 e4
      clear F13 F12 N12 hcl hg9 hf9 hl9 hl9' hys9 hne9 hg5
      try dsimp only
      repeat' (first | (k_unfold; (try dsimp only)) | (k_end; wrow_close) | ((fail_if_success (with_reducible show wpAny _ _ (exec (Stmt.If _ _ _ _) _) _ _ _)); walk1) | ((fail_if_success (with_reducible show wpAny _ _ (exec (Stmt.If _ _ _ _) _) _ _ _)); dsimp only; walk1) | ((fail_if_success (with_reducible show wpAny _ _ (exec (Stmt.If _ _ _ _) _) _ _ _)); leave1; walk_say "STEP leave1"; try dsimp only) | fail "no step")
      rename Fr _ _ _ _ => F15
      rename News _ _ _ _ => N15
      refine wpAny_mono (Q := LsMid B s L ([(told, W.listOf vs.toArray k), (Lf, { oF with slots := sl })] ++ (tl ++ own)) (fun m' => m' (Str.ofString "told") = some (.ref told) ∧ m' (Str.ofString "n") = some (.int n tn) ∧ (∃ t, m' (Str.ofString "sheet") = some (.str (sheetAt (ns.map (·.1)) (i + 1)) t)))) ?_ ?_ (fun _ _ e => e)
      · rw [sheetAt_succ (n := n) (by rw [List.getElem?_map, hn]; rfl)]
        k_steps
        · rename (n.fmod 4 = 0) => h0
          rename Fr _ _ _ _ => F18
          rename News _ _ _ _ => N18
          have e : sheetStep (sheetAt (ns.map (·.1)) i) n = ruleText n ++ Str.ofString "," ++ sheetAt (ns.map (·.1)) i := by
            unfold sheetStep; rw [if_pos h0]
          rw [e]
          exact ⟨rfl, _, _, _, rfl, F18, N18, rfl, rfl, ⟨_, rfl⟩⟩
        · rename (n.fmod 4 = 1) => h1
          rename Fr _ _ _ _ => F16
          rename News _ _ _ _ => N16
          refine lvl_le (commentLine_spec (X.keeps F16.keep) (T.keeps F16.keep) (by rw [Str.length_append]; have : (Str.ofString " ").length = 1 := rfl; omega) ?_) rfl (Nat.le_of_ble_eq_true rfl) (Nat.le_of_ble_eq_true rfl)
          intro t17 h17 tk17 hg17
          have F17 := grown_fr F16 hg17
          have N17 := grown_news F16 N16 hg17 Fresh.nil
          rw [List.nil_append] at N17
          clear F16 N16
          have hcm := commentLine_len (ruleText n ++ Str.ofString " ")
          rw [Str.length_append, show (Str.ofString " ").length = 1 from rfl] at hcm
          have e : sheetStep (sheetAt (ns.map (·.1)) i) n = commentLine (ruleText n ++ Str.ofString " ") ++ Str.ofString "," ++ sheetAt (ns.map (·.1)) i := by
            unfold sheetStep; rw [if_neg (by omega), if_pos h1]
          rw [e]
          dsimp only
          k_steps
          rename Fr _ _ _ _ => F18
          rename News _ _ _ _ => N18
          exact ⟨rfl, _, _, _, rfl, F18, N18, rfl, rfl, ⟨_, rfl⟩⟩
        · rename (n.fmod 4 = 2) => h2
          rename Fr _ _ _ _ => F16
          rename News _ _ _ _ => N16
          refine lvl_le (commentLine_spec (X.keeps F16.keep) (T.keeps F16.keep) (by omega) ?_) rfl (Nat.le_of_ble_eq_true rfl) (Nat.le_of_ble_eq_true rfl)
          intro t17 h17 tk17 hg17
          have F17 := grown_fr F16 hg17
          have N17 := grown_news F16 N16 hg17 Fresh.nil
          rw [List.nil_append] at N17
          clear F16 N16
          have e : sheetStep (sheetAt (ns.map (·.1)) i) n = commentLine (sheetAt (ns.map (·.1)) i) := by
            unfold sheetStep; rw [if_neg (by omega), if_neg (by omega), if_pos h2]
          rw [e]
          dsimp only
          k_steps
          rename Fr _ _ _ _ => F18
          rename News _ _ _ _ => N18
          exact ⟨rfl, _, _, _, rfl, F18, N18, rfl, rfl, ⟨_, rfl⟩⟩
        · rename ((_ == Str.ofString "# ") = true) => h3
          rename Fr _ _ _ _ => F18
          rename News _ _ _ _ => N18
          have e : sheetStep (sheetAt (ns.map (·.1)) i) n = Txt.slice (sheetAt (ns.map (·.1)) i) (some 2) none := by
            unfold sheetStep; rw [if_neg (by assumption), if_neg (by assumption), if_neg (by assumption), if_pos (eq_of_beq h3)]
          rw [e]
          exact ⟨rfl, _, _, _, rfl, F18, N18, rfl, rfl, ⟨_, rfl⟩⟩
        · rename ((_ == Str.ofString "# ") = false) => h3
          rename Fr _ _ _ _ => F18
          rename News _ _ _ _ => N18
          have e : sheetStep (sheetAt (ns.map (·.1)) i) n = sheetAt (ns.map (·.1)) i := by
            unfold sheetStep; rw [if_neg (by assumption), if_neg (by assumption), if_neg (by assumption), if_neg (ne_of_beq_false h3)]
          rw [e]
          exact ⟨rfl, _, _, _, rfl, F18, N18, rfl, rfl, ⟨_, rfl⟩⟩
      clear F15 N15
      rintro f s2 ⟨rfl, h20, tk20, m20, rfl, F20, N20, e5, e6, ⟨tS2, e7⟩⟩
      have F21 := fr_name3 F20 (x1 := Str.ofString "told") (x2 := Str.ofString "n") (x3 := Str.ofString "sheet") e5 e6 e7
      clear F20
      try dsimp only
      repeat' (first | (k_unfold; (try dsimp only)) | (k_end; wrow_close) | ((fail_if_success (with_reducible show wpAny _ _ (call (Value.ref 47) _) _ _ _)); walk1) | ((fail_if_success (with_reducible show wpAny _ _ (call (Value.ref 47) _) _ _ _)); dsimp only; walk1) | ((fail_if_success (with_reducible show wpAny _ _ (call (Value.ref 47) _) _ _ _)); leave1; walk_say "STEP leave1"; try dsimp only) | fail "no step")
      rename Fr _ _ _ _ => F22
      rename News _ _ _ _ => N22
      have hwl := lawWord_len n
      refine lvl_le (lawWord_spec (X.keeps F22.keep) (T.keeps F22.keep) ?_) rfl (Nat.le_of_ble_eq_true rfl) (Nat.le_of_ble_eq_true rfl)
      intro t23 h23 tk23 hg23
      have F23 := grown_fr F22 hg23
      have N23 := grown_news F22 N22 hg23 Fresh.nil
      rw [List.nil_append] at N23
      clear F22 N22 hg23
      dsimp only
      repeat' (first | (k_unfold; (try dsimp only)) | (k_end; wrow_close) | ((fail_if_success (with_reducible show wpAny _ _ (call (Value.ref 28) _) _ _ _)); walk1) | ((fail_if_success (with_reducible show wpAny _ _ (call (Value.ref 28) _) _ _ _)); dsimp only; walk1) | ((fail_if_success (with_reducible show wpAny _ _ (call (Value.ref 28) _) _ _ _)); leave1; walk_say "STEP leave1"; try dsimp only) | fail "no step")
      rename Fr _ _ _ _ => F24
      rename News _ _ _ _ => N24
      refine lvl_le (commentLine_spec (X.keeps F24.keep) (T.keeps F24.keep) (by rw [Str.length_append]; have : (Str.ofString " ").length = 1 := rfl; omega) ?_) rfl (Nat.le_of_ble_eq_true rfl) (Nat.le_of_ble_eq_true rfl)
      intro t25 h25 tk25 hg25
      have F25 := grown_fr F24 hg25
      have N25 := grown_news F24 N24 hg25 Fresh.nil
      rw [List.nil_append] at N25
      clear F24 N24 hg25
      dsimp only
      repeat' (first | (k_unfold; (try dsimp only)) | (k_end; wrow_close) | ((fail_if_success (with_reducible show wpAny _ _ (call (Value.ref 28) _) _ _ _)); walk1) | ((fail_if_success (with_reducible show wpAny _ _ (call (Value.ref 28) _) _ _ _)); dsimp only; walk1) | ((fail_if_success (with_reducible show wpAny _ _ (call (Value.ref 28) _) _ _ _)); leave1; walk_say "STEP leave1"; try dsimp only) | fail "no step")
      rename Fr _ _ _ _ => F26
      rename News _ _ _ _ => N26
      refine lvl_le (commentLine_spec (X.keeps F26.keep) (T.keeps F26.keep) (by rw [Str.length_append, Str.length_append]; have : (Str.ofString " ").length = 1 := rfl; have : (Str.ofString " \n").length = 2 := rfl; omega) ?_) rfl (Nat.le_of_ble_eq_true rfl) (Nat.le_of_ble_eq_true rfl)
      intro t27 h27 tk27 hg27
      have F27 := grown_fr F26 hg27
      have N27 := grown_news F26 N26 hg27 Fresh.nil
      rw [List.nil_append] at N27
      clear F26 N26 hg27
      dsimp only
      repeat' (first | (k_unfold; (try dsimp only)) | (k_end; wrow_close) | ((fail_if_success (with_reducible show wpAny _ _ (call (Value.ref 59) _) _ _ _)); walk1) | ((fail_if_success (with_reducible show wpAny _ _ (call (Value.ref 59) _) _ _ _)); dsimp only; walk1) | ((fail_if_success (with_reducible show wpAny _ _ (call (Value.ref 59) _) _ _ _)); leave1; walk_say "STEP leave1"; try dsimp only) | fail "no step")
      rename Fr _ _ _ _ => F28
      rename News _ _ _ _ => N28
      rename (∀ (p : Addr × Obj), _ → p.1 < _) => hal
      have hsok := hS (i + 1) hi
      have hLf28 := (N28 _ (.tail _ (.tail _ (.head _)))).1
      obtain ⟨oL, _, _, hoL, hdL, _⟩ := id F28.ns
      refine lvlF_le (lr_spec (xs := [(lawWord n, t23), (commentLine (lawWord n ++ Str.ofString " "), t25), (commentLine (Str.ofString " " ++ lawWord n ++ Str.ofString " \n"), t27)]) (B := hideAll _ [L, Lf])
        (X.keeps (hide2_stays F28 hLB)) (T.keeps (hide2_stays F28 hLB)) (fun b o e => of_hideAll _ e) (Nat.le_of_eq (hideAll_size _ _)) ?_ (Nat.le_trans hsok.len (by decide)) (N28.isList (.head _)) (Nat.le_of_ble_eq_true rfl) ?_ hsok.rows hsok.each hsok.ok hsok.two ?_) rfl rfl (Nat.le_of_ble_eq_true rfl) (Nat.le_of_ble_eq_true rfl)
      · exact ⟨(fun e => nomatch e), ⟨L, oL, rfl, hideAll_none _ (.head _), hoL, fun vs q => by rw [hdL] at q; cases q⟩, hk0, ⟨Lf, _, hf0, hideAll_none _ (.tail _ (.head _)), hLf28, hdF⟩, trivial⟩
      · intro p hp
        have c1 := commentLine_len (lawWord n ++ Str.ofString " ")
        have c2 := commentLine_len (Str.ofString " " ++ lawWord n ++ Str.ofString " \n")
        rw [Str.length_append, show (Str.ofString " ").length = 1 from rfl] at c1
        rw [Str.length_append, Str.length_append, show (Str.ofString " ").length = 1 from rfl, show (Str.ofString " \n").length = 2 from rfl] at c2
        rcases List.mem_cons.mp hp with rfl | hp
        · dsimp only; omega
        rcases List.mem_cons.mp hp with rfl | hp
        · dsimp only; omega
        rw [List.mem_singleton.mp hp]
        dsimp only; omega
      intro rv h29 tk29 tl29 hs29 hu29 hf29 hd29
      have hne28 : ∀ p ∈ ((told, W.listOf vs.toArray k) :: (tl ++ own)), p.1 ≠ Lf := fun p hp => by
        rcases List.mem_cons.mp hp with rfl | hp
        · exact Nat.ne_of_gt hTF
        rcases List.mem_append.mp hp with hp | hp
        · exact (hne p hp).2
        · exact hoff p hp Lf (.tail _ (.head _))
      obtain ⟨sl2, F29, N29⟩ := after_read (rest := (told, W.listOf vs.toArray k) :: (tl ++ own)) F28 (fun p hp => by
        rcases List.mem_cons.mp hp with rfl | hp
        · exact N28 _ (.tail _ (.head _))
        · exact N28 _ (.tail _ (.tail _ (.tail _ hp)))) hLf28 hdF hLB hLfL hne28 hs29 hu29 hf29
      have N30 : News B L h29 ((told, W.listOf vs.toArray k) :: ((Lf, { oF with slots := sl2 }) :: (tl29 ++ tl ++ own))) := fun p hp => by
        refine N29 p ?_
        rcases List.mem_cons.mp hp with rfl | hp
        · exact List.mem_append_right _ (.tail _ (.head _))
        rcases List.mem_cons.mp hp with rfl | hp
        · exact List.mem_append_right _ (.head _)
        rcases List.mem_append.mp hp with hp | hp
        · rcases List.mem_append.mp hp with hp | hp
          · exact List.mem_append_left _ hp
          · exact List.mem_append_right _ (.tail _ (.tail _ (List.mem_append_left _ hp)))
        · exact List.mem_append_right _ (.tail _ (.tail _ (List.mem_append_right _ hp)))
      have hold := fresh_ne N28 hf29
      have ht29 : ∀ p ∈ tl29, p.1 ≠ told ∧ p.1 ≠ Lf := fun p hp => ⟨fun e => hold _ (.tail _ (.head _)) p hp e.symm, fun e => hold _ (.tail _ (.tail _ (.head _))) p hp e.symm⟩
      have ho29 : ∀ p ∈ own, ∀ q ∈ tl29, p.1 ≠ q.1 := fun p hp q hq => hold p (.tail _ (.tail _ (.tail _ (show p ∈ tl ++ own from List.mem_append_right _ hp)))) q hq
      have hrest : ∀ p ∈ ((Lf, { oF with slots := sl2 }) :: (tl29 ++ tl ++ own)), p.1 ≠ told := fun p hp => by
        rcases List.mem_cons.mp hp with rfl | hp
        · exact Nat.ne_of_lt hTF
        rcases List.mem_append.mp hp with hp | hp
        · rcases List.mem_append.mp hp with hp | hp
          · exact (ht29 p hp).1
          · exact (hne p hp).1
        · exact hoff p hp told (.head _)
      clear N29 F28 N28 hold hne28 hal
      dsimp only
      repeat' (first | (k_unfold; (try dsimp only)) | (k_end; wrow_close) | ((fail_if_success (with_reducible show wpAny _ _ (call (Value.builtin _) _) _ _ _)); walk1) | ((fail_if_success (with_reducible show wpAny _ _ (call (Value.builtin _) _) _ _ _)); dsimp only; walk1) | ((fail_if_success (with_reducible show wpAny _ _ (call (Value.builtin _) _) _ _ _)); leave1; walk_say "STEP leave1"; try dsimp only) | fail "no step")
      refine app_list (rest := (Lf, { oF with slots := sl2 }) :: (tl29 ++ tl ++ own)) F29 N30 hrest ?_ ?_
      · rw [sizeLine_eq]; omega
      intro h31 F31 N31
      clear F29 N30
      dsimp only
      k_steps
      refine InvEndG.intro F31 N31 ⟨sl2, tS2, vs ++ [rv], k + 1, tl29 ++ tl, rfl, rfl, rfl, ?_, ?_, ?_⟩ ?_ ?_ ?_
      · rw [toldAll_succ (n := n) (by rw [List.getElem?_map, hn]; rfl)]
        exact datAll_snoc (hvs.mono fun p hp => List.mem_append_right _ hp) (DatIn.mono (fun p hp => List.mem_append_left _ hp) hd29)
      · rw [List.length_append]
        exact Nat.add_le_add hvl (Nat.le_refl 1)
      · intro p hp
        rcases List.mem_append.mp hp with hp | hp
        · exact ht29 p hp
        · exact hne p hp
      · intro p hp b hb
        rcases List.mem_cons.mp hb with rfl | hb
        · exact hoff p hp _ (.head _)
        rcases List.mem_cons.mp hb with rfl | hb
        · exact hoff p hp _ (.tail _ (.head _))
        rw [List.map_append] at hb
        rcases List.mem_append.mp hb with hb | hb
        · obtain ⟨q, hq, rfl⟩ := List.mem_map.mp hb
          exact ho29 p hp q hq
        · exact hoff p hp b (.tail _ (.tail _ hb))
      · intro p hp
        rcases List.mem_cons.mp hp with rfl | hp
        · exact .head _
        rcases List.mem_cons.mp hp with rfl | hp
        · exact .tail _ (.head _)
        · exact .tail _ (.tail _ (List.mem_append_left _ hp))
      · intro p hp
        exact .tail _ (.tail _ (List.mem_append_right _ hp))
  · rintro m₁ nx hh tk ⟨sl, tS, vs, k, tl, rfl, e1, e2, hvs, hvl, hne⟩ F2 N2
    have F3 := fr_name1 F2 (x1 := Str.ofString "told") e1
    clear F1 N1 F2
    rw [List.take_of_length_le (by simp [toldAll, intValues])] at hvs
    k_steps
    refine h (.ref told) hh _ ((told, W.listOf vs.toArray k) :: tl) sl F3.keep (N2 _ (.tail _ (.head _))).1 (fresh_of_news (L := L) fun p hp => ?_) (fun p hp => ?_) (.list (.head _) (hvs.mono fun p hp => .tail _ hp))
    · rcases List.mem_cons.mp hp with rfl | hp
      · exact N2 _ (.head _)
      · exact N2 _ (.tail _ (.tail _ hp))
    · rcases List.mem_cons.mp hp with rfl | hp
      · exact Nat.ne_of_gt hTF
      · exact (hne p hp).2
end
end Mine

/-! part RU -/
open PySem PySem.W PySem.Calls PyProof.Rows
set_option Elab.async false
set_option maxRecDepth 100000
set_option maxHeartbeats 8000000
namespace Mine

theorem fill_RU : PySem.Challenge.rw_mq0199_01 = PySem.Challenge.rw_mq0199_01 ∧ hd.heap_39 = hd.heap_39 := by
  k_fill
  exact ⟨rfl, rfl⟩

structure RSt where
  rules : List (Int × Str × Str)
  below : Int
def chg (n : Int) : Int := [0, 0, 1, -1].getD (n.fmod 4).toNat 0
def ruStep (st : RSt) (n : Int) : RSt :=
  if n.fmod 4 < 2 then { st with rules := (n.fmod 4, lawPat (n.fdiv 4), lawVerd (n.fdiv 4)) :: st.rules }
  else match st.rules with
    | q :: r => { st with rules := (if q.1 + chg n > 0 then q.1 + chg n else 0, q.2.1, q.2.2) :: r }
    | [] => if 0 < st.below + chg n then { st with below := st.below + chg n } else st
def ruAt (ns : List Int) (i : Nat) : RSt := (ns.take i).foldl ruStep ⟨[], 0⟩
def ruleDat (q : Int × Str × Str) : Dat := .list [.int q.1, .str q.2.1, .str q.2.2]
def rulesDat (st : RSt) : Dat := .list (st.rules.map ruleDat)
def marksText (m : Int) : Str := Txt.mul (Str.ofString "# ") m
def rowsOf (st : RSt) : List (Str × Str) := st.rules.map fun q => (marksText q.1 ++ q.2.1, q.2.2)
def rowDat (p : Str × Str) : Dat := .tuple [.str p.1, .str p.2]
def keyAt (R : List (Str × Str)) (i : Nat) : Str := (R.map (·.1)).getD i Str.empty
def lastOf (R : List (Str × Str)) (k : Str) : Str := ((R.filter fun p => p.1 == k).map (·.2)).getLastD Str.empty
def tableUpTo (R : List (Str × Str)) (q : Nat) : List (Str × Str) := (List.range q).filterMap fun i => if keyAt R i ∈ (R.map (·.1)).take i then none else some (keyAt R i, lastOf R (keyAt R i))
def KeysOf (lk : List (Str × Tok)) (R : List (Str × Str)) : Prop := lk.map (·.1) = R.map (·.1)
theorem KeysOf.at {lk : List (Str × Tok)} {R : List (Str × Str)} (h : KeysOf lk R) {q : Nat} {p : Str × Tok} (hq : lk[q]? = some p) : keyAt R q = p.1 := by
  unfold KeysOf at h
  unfold keyAt
  rw [← h, List.getD, List.getElem?_map, hq]
  rfl
def tableOf (R : List (Str × Str)) : List (Str × Str) := tableUpTo R R.length
theorem KeysOf.length {lk : List (Str × Tok)} {R : List (Str × Str)} (h : KeysOf lk R) : lk.length = R.length := by
  have := congrArg List.length h
  simpa using this
def texts3 (n : Int) : List Str := [lawWord n, Txt.rstrip (Str.ofString "# " ++ lawWord n), Txt.rstrip (Str.ofString "#  " ++ lawWord n)]
def firstFits (D : List (Str × Str)) (x : Str) : List Str := ((D.filter fun p => lawFits p.1 x).map (·.2)).take 1
theorem tableOf_key {R : List (Str × Str)} {p : Str × Str} (h : p ∈ tableOf R) : ∃ r ∈ R, r.1 = p.1 := by
  unfold tableOf tableUpTo at h
  obtain ⟨i, hi, e⟩ := List.mem_filterMap.mp h
  split at e
  · cases e
  · cases e
    have hi := List.mem_range.mp hi
    refine ⟨R[i], List.getElem_mem hi, ?_⟩
    unfold keyAt
    simp [List.getD, hi]
structure RuOk (st : RSt) : Prop where
  len : st.rules.length ≤ 20
  marks : ∀ q ∈ st.rules, 0 ≤ q.1 ∧ q.1 ≤ 20
  pat : ∀ q ∈ st.rules, q.2.1.length ≤ 8
  verd : ∀ q ∈ st.rules, q.2.2.length ≤ 2
  str : ∀ q ∈ st.rules, PyData.strOk q.2.1 = true ∧ PyData.strOk q.2.2 = true
  keys : ∀ p ∈ rowsOf st, PyData.strOk p.1 = true ∧ p.1.length ≤ 100
  below0 : 0 ≤ st.below
  below1 : st.below ≤ 20
theorem datIn_list {n : List (Addr × Obj)} {v : Value} {ds : List Dat} (h : DatIn n v (.list ds)) : ∃ a vs k, v = .ref a ∧ (a, W.listOf vs.toArray k) ∈ n ∧ DatAll n vs ds := by
  cases h with
  | list hm hr => exact ⟨_, _, _, rfl, hm, hr⟩
def ruAddrs (told L : Addr) (own : List (Addr × Obj)) : List Addr := told :: (L + 1 + 1 + 1) :: (L + 1 + 1) :: (L + 1) :: own.map (·.1)
def Sep (told L : Addr) (own big : List (Addr × Obj)) : Prop := ∀ p ∈ big, ∀ b ∈ ruAddrs told L own, b ≠ p.1
theorem ruAddrs_in {told L b : Addr} {own big : List (Addr × Obj)} {x o1 o2 o3 : Obj} (hb : b ∈ ruAddrs told L own) : ∃ o, (b, o) ∈ (told, x) :: (L + 1 + 1 + 1, o1) :: (L + 1 + 1, o2) :: (L + 1, o3) :: (big ++ own) := by
  cases hb with
  | head => exact ⟨_, .head _⟩
  | tail _ hb => cases hb with
    | head => exact ⟨_, .tail _ (.head _)⟩
    | tail _ hb => cases hb with
      | head => exact ⟨_, .tail _ (.tail _ (.head _))⟩
      | tail _ hb => cases hb with
        | head => exact ⟨_, .tail _ (.tail _ (.tail _ (.head _)))⟩
        | tail _ hb =>
          obtain ⟨q, hq, rfl⟩ := List.mem_map.mp hb
          exact ⟨q.2, .tail _ (.tail _ (.tail _ (.tail _ (List.mem_append_right _ hq))))⟩
theorem Sep.cons_lt {told L D : Addr} {own big big' nx : List (Addr × Obj)} {x o1 o2 o3 o : Obj} (h : Sep told L own big) (hsub : ∀ p ∈ (told, x) :: (L + 1 + 1 + 1, o1) :: (L + 1 + 1, o2) :: (L + 1, o3) :: (big' ++ own), p ∈ nx) (hlt : ∀ p ∈ nx, p.1 < D) : Sep told L own ((D, o) :: big) := fun p hp b hb => by
  rcases List.mem_cons.mp hp with rfl | hp
  · obtain ⟨o', ho'⟩ := ruAddrs_in (big := big') (x := x) (o1 := o1) (o2 := o2) (o3 := o3) hb
    exact Nat.ne_of_lt (hlt _ (hsub _ ho'))
  · exact h p hp b hb
theorem allLt_mem {d : Nat} : ∀ {l : List (Addr × Obj)}, AllLt d l → ∀ p ∈ l, p.1 < d
  | [], _, _, hp => nomatch hp
  | q :: r, h, p, hp => by
    rcases List.mem_cons.mp hp with rfl | hp
    · exact h.1
    · exact allLt_mem h.2 p hp
theorem Sep.cons_all {told L D : Addr} {own big big' : List (Addr × Obj)} {o : Obj} (h : Sep told L own big) (h1 : @LT.lt Nat _ told D) (h2 : @LT.lt Nat _ (L + 1 + 1 + 1) D) (h3 : @LT.lt Nat _ (L + 1 + 1) D) (h4 : @LT.lt Nat _ (L + 1) D) (h5 : AllLt D (big' ++ own)) : Sep told L own ((D, o) :: big) := fun p hp b hb => by
  rcases List.mem_cons.mp hp with rfl | hp
  · cases hb with
    | head => exact Nat.ne_of_lt h1
    | tail _ hb => cases hb with
      | head => exact Nat.ne_of_lt h2
      | tail _ hb => cases hb with
        | head => exact Nat.ne_of_lt h3
        | tail _ hb => cases hb with
          | head => exact Nat.ne_of_lt h4
          | tail _ hb =>
            obtain ⟨q, hq, rfl⟩ := List.mem_map.mp hb
            exact Nat.ne_of_lt (allLt_mem h5 q (List.mem_append_right _ hq))
  · exact h p hp b hb
theorem Sep.append_fresh {h₀ h h' : Heap} {told L Lc : Addr} {own big nx T : List (Addr × Obj)} {x o1 o2 o3 : Obj} (s : Sep told L own big) (N : News h₀ Lc h nx) (hsub : ∀ p ∈ (told, x) :: (L + 1 + 1 + 1, o1) :: (L + 1 + 1, o2) :: (L + 1, o3) :: (big ++ own), p ∈ nx) (hf : Fresh h h' T) : Sep told L own (T ++ big) := fun p hp b hb => by
  rcases List.mem_append.mp hp with hp | hp
  · obtain ⟨o', ho'⟩ := ruAddrs_in (big := big) (x := x) (o1 := o1) (o2 := o2) (o3 := o3) hb
    exact fresh_ne N hf _ (hsub _ ho') p hp
  · exact s p hp b hb
theorem ruleDat_ok {st : RSt} (h : RuOk st) : ∀ d ∈ st.rules.map ruleDat, kqdOk 8 d = true := by
  intro d hd
  obtain ⟨q, hq, rfl⟩ := List.mem_map.mp hd
  have := h.str q hq
  simp [ruleDat, kqdOk, this]
theorem datAll_cons {n : List (Addr × Obj)} {vs : List Value} {d : Dat} {ds : List Dat} (h : DatAll n vs (d :: ds)) : ∃ v r, vs = v :: r ∧ DatIn n v d ∧ DatAll n r ds := by
  cases h with
  | cons h1 h2 => exact ⟨_, _, rfl, h1, h2⟩
theorem datIn_int {n : List (Addr × Obj)} {v : Value} {i : Int} (h : DatIn n v (.int i)) : ∃ t, v = .int i t := by
  cases h with
  | int _ t => exact ⟨t, rfl⟩
theorem datIn_str {n : List (Addr × Obj)} {v : Value} {i : Str} (h : DatIn n v (.str i)) : ∃ t, v = .str i t := by
  cases h with
  | str _ t => exact ⟨t, rfl⟩
theorem datIn_row {n : List (Addr × Obj)} {v : Value} {p : Str × Str} (h : DatIn n v (rowDat p)) : ∃ a t1 t2 k, v = .ref a ∧ (a, ({ cls := .type "tuple", data := .seq [Value.str p.1 t1, Value.str p.2 t2].toArray k } : Obj)) ∈ n := by
  cases h with
  | tuple hm hr =>
    obtain ⟨y1, xs, rfl, hy1, hxs⟩ := datAll_cons hr
    obtain ⟨y2, xs, rfl, hy2, hxs⟩ := datAll_cons hxs
    cases hxs
    obtain ⟨ty1, rfl⟩ := datIn_str hy1
    obtain ⟨ty2, rfl⟩ := datIn_str hy2
    exact ⟨_, _, _, _, rfl, hm⟩
theorem slice1 (v : Value) (r : List Value) : (slicePick (v :: r).toArray (some 1) none none).toList = r := by
  have := slicePick_from' (v :: r).toArray 1
  rw [show ((1 : Nat) : Int) = 1 from rfl] at this
  rw [this]
  simp
theorem datAll_get {n : List (Addr × Obj)} {α : Type} {f : α → Dat} : ∀ {vs : List Value} {ds : List α} {i : Nat} {v : Value}, DatAll n vs (ds.map f) → vs[i]? = some v → ∃ d, ds[i]? = some d ∧ DatIn n v (f d)
  | _, [], _, _, .nil, h => by simp at h
  | _, d :: ds, 0, v, .cons h1 _, h => by
    cases h
    exact ⟨d, rfl, h1⟩
  | _, d :: ds, i + 1, v, .cons _ h2, h => by
    obtain ⟨e, h3, h4⟩ := datAll_get h2 (by simpa using h)
    exact ⟨e, by simpa using h3, h4⟩
theorem isTup_keeps {h h' : Heap} {a : Addr} {its : Array Value} (ht : IsTup h a its) (k : ∀ b o, h.get? b = some o → h'.get? b = some o) : IsTup h' a its := by
  obtain ⟨o, ho, r⟩ := ht
  exact ⟨o, k _ _ ho, r⟩
section
variable {prog : Program} {w : World} {A : Around} {E : Value → Shared → Prop} {s : Shared}
theorem item_of {value slice : PySem.Expr} {a : Addr} {vs : List Value} {v : Value} {k : Int} {u : Tok} {Q : Value → Shared → Prop} (hl : s.heap.IsList a vs.toArray) (h0 : 0 ≤ k) (hk : k < 2 ^ 63) (hx : vs[k.toNat]? = some v) (h : Q v s)
    (hs : subscripted slice false (.ref a) (.int k u) = operate [.ref a, .int k u] (getItem (.ref a) (.int k u)) := by with_unfolding_all rfl) :
    wpAny (model prog w) A (subscriptTail value slice (.ref a) (.int k u)) Q E s :=
  tail_any hl.typeIs slot_list_getitem.lookup (wpAny_getItem_list hl h0 hk (by simpa using hx) h) hs
theorem name_cellN {M : Model} {env : Env} {hb : Heap} {C : Addr} {led : List (Addr × Obj)} {x : Str} {pos : Pos} {c : Addr} {o : Obj} {v : Value} {Q : Value → Shared → Prop} (hk : env.scope.kind = .function) (hl : env.kindOf x = some .cell) (hc : env.cells.lookup x = some c)
    (N : News hb C s.heap led) (hm : (c, o) ∈ led) (hd0 : o.data = .cell (some v)) (h : Q v s) (hd : (x == ("__debug__" : Str)) = false) : wpAny M A (eval (.Name x pos) env) Q E s :=
  name_cellAt hk hl hc ⟨o, (N _ hm).1, hd0⟩ h hd
end
theorem next_none {h : Heap} {C : Addr} (hC : h.objs.size ≤ C) : h.get? (C + 1) = none := by
  cases q : h.get? (C + 1) with
  | none => rfl
  | some o => exact absurd (Heap.lt_size q) (Nat.not_lt.mpr (Nat.le_trans hC (Nat.le_succ C)))
theorem news_cell {h₀ h h' : Heap} {L c : Addr} {m : Str → Option Value} {nx : List (Addr × Obj)} {v : Value} (F : Fr h₀ L h m) (N : News h₀ L h nx) (hc0 : c ≠ L ∧ h₀.get? c = none) (hs : Heap.SameBut c h h') (hc : h'.IsCell c (some v)) :
    ∃ o : Obj, o.data = .cell (some v) ∧ Fr h₀ L h' m ∧ ∀ nx', (∀ p ∈ nx', p = (c, o) ∨ (p ∈ nx ∧ p.1 ≠ c)) → News h₀ L h' nx' := by
  obtain ⟨o, ho, hd⟩ := hc
  refine ⟨o, hd, F.change hs hc0.1 hc0.2, fun nx' hx p hp => ?_⟩
  rcases hx p hp with rfl | ⟨h1, h2⟩
  · exact ⟨ho, hc0⟩
  · exact ⟨(hs.2 _ h2).trans (N p h1).1, (N p h1).2⟩
def OwnSep (told L : Addr) (own : List (Addr × Obj)) : Prop := ∀ p ∈ own, p.1 ≠ told ∧ @Ne Nat p.1 (L + 1 + 1 + 1) ∧ @Ne Nat p.1 (L + 1 + 1) ∧ @Ne Nat p.1 (L + 1)
theorem ru_cell1 {told L : Addr} {own big Tall : List (Addr × Obj)} {x o1 o2 o3 o : Obj} (hT : @LT.lt Nat _ (L + 1 + 1 + 1) told) (hs : Sep told L own (Tall ++ big)) (ho : OwnSep told L own) :
    ∀ p ∈ (told, x) :: (L + 1 + 1 + 1, o1) :: (L + 1 + 1, o2) :: (L + 1, o) :: ((Tall ++ big) ++ own), p = (L + 1, o) ∨ (p ∈ Tall ++ ((told, x) :: (L + 1 + 1 + 1, o1) :: (L + 1 + 1, o2) :: (L + 1, o3) :: (big ++ own)) ∧ @Ne Nat p.1 (L + 1)) := by
  intro p hp
  cases hp with
  | head => exact .inr ⟨List.mem_append_right _ (.head _), by dsimp only; omega⟩
  | tail _ hp => cases hp with
    | head => exact .inr ⟨List.mem_append_right _ (.tail _ (.head _)), by dsimp only; omega⟩
    | tail _ hp => cases hp with
      | head => exact .inr ⟨List.mem_append_right _ (.tail _ (.tail _ (.head _))), by dsimp only; omega⟩
      | tail _ hp => cases hp with
        | head => exact .inl rfl
        | tail _ hp =>
          rcases List.mem_append.mp hp with hp | hp
          · refine .inr ⟨?_, fun e => hs p hp (L + 1) (.tail _ (.tail _ (.tail _ (.head _)))) e.symm⟩
            rcases List.mem_append.mp hp with hp | hp
            · exact List.mem_append_left _ hp
            · exact List.mem_append_right _ (.tail _ (.tail _ (.tail _ (.tail _ (List.mem_append_left _ hp)))))
          · exact .inr ⟨List.mem_append_right _ (.tail _ (.tail _ (.tail _ (.tail _ (List.mem_append_right _ hp))))), (ho p hp).2.2.2⟩
theorem ru_cell2 {told L : Addr} {own big Tall : List (Addr × Obj)} {x o1 o2 o3 o : Obj} (hT : @LT.lt Nat _ (L + 1 + 1 + 1) told) (hs : Sep told L own (Tall ++ big)) (ho : OwnSep told L own) :
    ∀ p ∈ (told, x) :: (L + 1 + 1 + 1, o1) :: (L + 1 + 1, o) :: (L + 1, o3) :: ((Tall ++ big) ++ own), p = (L + 1 + 1, o) ∨ (p ∈ Tall ++ ((told, x) :: (L + 1 + 1 + 1, o1) :: (L + 1 + 1, o2) :: (L + 1, o3) :: (big ++ own)) ∧ @Ne Nat p.1 (L + 1 + 1)) := by
  intro p hp
  cases hp with
  | head => exact .inr ⟨List.mem_append_right _ (.head _), by dsimp only; omega⟩
  | tail _ hp => cases hp with
    | head => exact .inr ⟨List.mem_append_right _ (.tail _ (.head _)), by dsimp only; omega⟩
    | tail _ hp => cases hp with
      | head => exact .inl rfl
      | tail _ hp => cases hp with
        | head => exact .inr ⟨List.mem_append_right _ (.tail _ (.tail _ (.tail _ (.head _)))), by dsimp only; omega⟩
        | tail _ hp =>
          rcases List.mem_append.mp hp with hp | hp
          · refine .inr ⟨?_, fun e => hs p hp (L + 1 + 1) (.tail _ (.tail _ (.head _))) e.symm⟩
            rcases List.mem_append.mp hp with hp | hp
            · exact List.mem_append_left _ hp
            · exact List.mem_append_right _ (.tail _ (.tail _ (.tail _ (.tail _ (List.mem_append_left _ hp)))))
          · exact .inr ⟨List.mem_append_right _ (.tail _ (.tail _ (.tail _ (.tail _ (List.mem_append_right _ hp))))), (ho p hp).2.2.1⟩
theorem ru_cell3 {told L : Addr} {own big Tall : List (Addr × Obj)} {x o1 o2 o3 o : Obj} (hT : @LT.lt Nat _ (L + 1 + 1 + 1) told) (hs : Sep told L own (Tall ++ big)) (ho : OwnSep told L own) :
    ∀ p ∈ (told, x) :: (L + 1 + 1 + 1, o) :: (L + 1 + 1, o2) :: (L + 1, o3) :: ((Tall ++ big) ++ own), p = (L + 1 + 1 + 1, o) ∨ (p ∈ Tall ++ ((told, x) :: (L + 1 + 1 + 1, o1) :: (L + 1 + 1, o2) :: (L + 1, o3) :: (big ++ own)) ∧ @Ne Nat p.1 (L + 1 + 1 + 1)) := by
  intro p hp
  cases hp with
  | head => exact .inr ⟨List.mem_append_right _ (.head _), by dsimp only; omega⟩
  | tail _ hp => cases hp with
    | head => exact .inl rfl
    | tail _ hp => cases hp with
      | head => exact .inr ⟨List.mem_append_right _ (.tail _ (.tail _ (.head _))), by dsimp only; omega⟩
      | tail _ hp => cases hp with
        | head => exact .inr ⟨List.mem_append_right _ (.tail _ (.tail _ (.tail _ (.head _)))), by dsimp only; omega⟩
        | tail _ hp =>
          rcases List.mem_append.mp hp with hp | hp
          · refine .inr ⟨?_, fun e => hs p hp (L + 1 + 1 + 1) (.tail _ (.head _)) e.symm⟩
            rcases List.mem_append.mp hp with hp | hp
            · exact List.mem_append_left _ hp
            · exact List.mem_append_right _ (.tail _ (.tail _ (.tail _ (.tail _ (List.mem_append_left _ hp)))))
          · exact .inr ⟨List.mem_append_right _ (.tail _ (.tail _ (.tail _ (.tail _ (List.mem_append_right _ hp))))), (ho p hp).2.1⟩
theorem KeysOf.strOk {lk : List (Str × Tok)} {st : RSt} (h : KeysOf lk (rowsOf st)) (ok : RuOk st) {q : Nat} {p : Str × Tok} (hq : lk[q]? = some p) : PyData.strOk (keyAt (rowsOf st) q) = true := by
  rw [h.at hq]
  have hm : p.1 ∈ (rowsOf st).map (·.1) := by
    rw [← show lk.map (·.1) = (rowsOf st).map (·.1) from h]
    exact List.mem_map_of_mem (List.mem_of_getElem? hq)
  obtain ⟨r, hr, e⟩ := List.mem_map.mp hm
  rw [← e]
  exact (ok.keys r hr).1
theorem KeysOf.filter_ne {lk : List (Str × Tok)} {R : List (Str × Str)} (h : KeysOf lk R) {q : Nat} {k : Str} {t : Tok} (hq : lk[q]? = some (k, t)) (he : (R.filter fun p => p.1 == k).map (·.2) = []) : False := by
  have hm : k ∈ R.map (·.1) := by
    rw [← show lk.map (·.1) = R.map (·.1) from h]
    exact List.mem_map.mpr ⟨_, List.mem_of_getElem? hq, rfl⟩
  obtain ⟨r, hr, e⟩ := List.mem_map.mp hm
  have : r ∈ R.filter fun p => p.1 == k := List.mem_filter.mpr ⟨hr, by simp [e]⟩
  rw [List.map_eq_nil_iff.mp he] at this
  cases this
theorem CompEnd.one {hb : Heap} {C : Addr} {cs : List Addr} {led T : List (Addr × Obj)} {Acc : List Value → List (Addr × Obj) → Prop} {ys : List Value} {s₂ : Shared} {h' : Heap} {tk : Nat} {mc : Str → Option Value} {D : Addr} {o : Obj} (F : Fr hb C h' mc) (hN : h'.get? D = some o ∧ D ≠ C ∧ hb.get? D = none) (hled : News hb C h' led)
    (hlt : ∀ q ∈ led, q.1 < D) (hcs : D ∉ cs) (hlive : CellsLive cs h') (hA : Acc (ys ++ [.ref D]) ((D, o) :: T)) : CompEnd hb C cs led T Acc ys s₂ (some (.ref D)) { s₂ with heap := h', toks := tk } := by
  refine ⟨h', tk, mc, [(D, o)], rfl, F, fun p hp => ?_, ?_, ?_, hlive, hA⟩
  · rcases List.mem_cons.mp hp with rfl | hp
    · exact hN
    · exact hled p hp
  · intro p hp q hq
    rw [List.mem_singleton.mp hp]
    exact Nat.ne_of_gt (hlt q hq)
  · intro p hp
    rw [List.mem_singleton.mp hp]
    exact hcs
theorem texts3_len {n : Int} {x : Str} (h : x ∈ texts3 n) : x.length ≤ 1000 := by
  have hwl := lawWord_len n
  have c1 := len_rstrip (Str.ofString "# " ++ lawWord n)
  have c2 := len_rstrip (Str.ofString "#  " ++ lawWord n)
  rw [Str.length_append, show (Str.ofString "# ").length = 2 from rfl] at c1
  rw [Str.length_append, show (Str.ofString "#  ").length = 3 from rfl] at c2
  rcases List.mem_cons.mp h with rfl | h
  · omega
  rcases List.mem_cons.mp h with rfl | h
  · omega
  rw [List.mem_singleton.mp h]
  omega
theorem datAll_length {n : List (Addr × Obj)} : ∀ {vs : List Value} {ds : List Dat}, DatAll n vs ds → vs.length = ds.length
  | _, _, .nil => rfl
  | _, _, .cons _ r => congrArg (· + 1) (datAll_length r)
theorem news_swap {h₀ h : Heap} {L : Addr} {a b : List (Addr × Obj)} (N : News h₀ L h a) (hs : ∀ p ∈ b, p ∈ a) : News h₀ L h b := fun p hp => N p (hs p hp)
def RuS (told L : Addr) (own : List (Addr × Obj)) (vs : List Value) (k : Nat) (ds : List Dat) (c1 c2 c3 : Option Value → List (Addr × Obj) → Prop) (P : (Str → Option Value) → List (Addr × Obj) → Prop) (m : Str → Option Value) (nx : List (Addr × Obj)) : Prop :=
  ∃ o1 o2 o3 big v1 v2 v3, nx = (told, W.listOf vs.toArray k) :: (L + 1 + 1 + 1, o1) :: (L + 1 + 1, o2) :: (L + 1, o3) :: (big ++ own) ∧ o1.data = .cell v1 ∧ o2.data = .cell v2 ∧ o3.data = .cell v3 ∧ c1 v1 big ∧ c2 v2 big ∧ c3 v3 big ∧
    DatAll big vs ds ∧ Sep told L own big ∧ P m big
def RuMid (h₀ : Heap) (s : Shared) (L : Addr) (P : (Str → Option Value) → List (Addr × Obj) → Prop) (f : Flow) (s' : Shared) : Prop :=
  f = .next ∧ ∃ h' tk m' nx, s' = { s with heap := h', toks := tk } ∧ Fr h₀ L h' m' ∧ News h₀ L h' nx ∧ P m' nx
def ruRow (st : RSt) (n : Int) : Dat := if 0 < st.below then .none else .tuple [.list ((tableOf (rowsOf st)).map rowDat), .list ((texts3 n).map fun x => .list ((firstFits (tableOf (rowsOf st)) x).map .str))]
def rulesAll (ns : List Int) : List Dat := (List.range ns.length).map fun i => ruRow (ruAt ns (i + 1)) (ns.getD i 0)
theorem rulesAll_succ {ns : List Int} {i : Nat} {n : Int} (h : ns[i]? = some n) : (rulesAll ns).take (i + 1) = (rulesAll ns).take i ++ [ruRow (ruAt ns (i + 1)) n] := by
  have hi : i < ns.length := (List.getElem?_eq_some_iff.mp h).1
  have : (rulesAll ns)[i]? = some (ruRow (ruAt ns (i + 1)) n) := by
    unfold rulesAll
    rw [List.getElem?_map, List.getElem?_range hi]
    simp [List.getD, h]
  rw [List.take_add_one, this]
  rfl
theorem ru_rest {told L : Addr} {own big : List (Addr × Obj)} {o1 o2 o3 : Obj} (hT : @LT.lt Nat _ (L + 1 + 1 + 1) told) (hs : Sep told L own big) (ho : OwnSep told L own) : ∀ p ∈ (L + 1 + 1 + 1, o1) :: (L + 1 + 1, o2) :: (L + 1, o3) :: (big ++ own), p.1 ≠ told := by
  intro p hp
  cases hp with
  | head => exact Nat.ne_of_lt hT
  | tail _ hp => cases hp with
    | head => exact Nat.ne_of_lt (Nat.lt_of_succ_lt hT)
    | tail _ hp => cases hp with
      | head => exact Nat.ne_of_lt (Nat.lt_of_succ_lt (Nat.lt_of_succ_lt hT))
      | tail _ hp =>
        rcases List.mem_append.mp hp with hp | hp
        · exact fun e => hs p hp told (.head _) e.symm
        · exact (ho p hp).1
theorem ru_off {told L : Addr} {own big : List (Addr × Obj)} {x o1 o2 o3 : Obj} (hs : Sep told L own big) (ho : OwnSep told L own) : OwnOff own (((told, x) :: (L + 1 + 1 + 1, o1) :: (L + 1 + 1, o2) :: (L + 1, o3) :: (big ++ [])).map (·.1)) := by
  intro p hp b hb
  have z := ho p hp
  rw [List.append_nil] at hb
  cases hb with
  | head => exact z.1
  | tail _ hb => cases hb with
    | head => exact z.2.1
    | tail _ hb => cases hb with
      | head => exact z.2.2.1
      | tail _ hb => cases hb with
        | head => exact z.2.2.2
        | tail _ hb =>
          obtain ⟨q, hq, rfl⟩ := List.mem_map.mp hb
          exact hs q hq p.1 (.tail _ (.tail _ (.tail _ (.tail _ (List.mem_map_of_mem hp)))))
theorem Sep.nil {told L : Addr} {own big : List (Addr × Obj)} (hs : Sep told L own big) : Sep told L [] big := fun p hp b hb => by
  refine hs p hp b ?_
  cases hb with
  | head => exact .head _
  | tail _ hb => cases hb with
    | head => exact .tail _ (.head _)
    | tail _ hb => cases hb with
      | head => exact .tail _ (.tail _ (.head _))
      | tail _ hb => cases hb with
        | head => exact .tail _ (.tail _ (.tail _ (.head _)))
        | tail _ hb => cases hb
theorem ru_grow {x o1 o2 o3 d : Addr × Obj} {Tf big own : List (Addr × Obj)} : ∀ p ∈ x :: o1 :: o2 :: o3 :: ((d :: (Tf ++ big)) ++ own), p = d ∨ p ∈ Tf ∨ p ∈ x :: o1 :: o2 :: o3 :: (big ++ own) := by
  intro p hp
  simp only [List.cons_append, List.mem_cons, List.mem_append] at hp ⊢
  rcases hp with h | h | h | h | h | (h | h) | h <;> simp [h]
theorem ru_sub1 {x o1 o2 o3 : Addr × Obj} {big own : List (Addr × Obj)} : ∀ p ∈ x :: o1 :: o2 :: o3 :: (big ++ []), p ∈ x :: o1 :: o2 :: o3 :: (big ++ own) := by
  intro p hp
  simp only [List.append_nil, List.mem_cons, List.mem_append] at hp ⊢
  rcases hp with h | h | h | h | h <;> simp [h]
theorem ruAt_succ {ns : List Int} {i : Nat} {n : Int} (h : ns[i]? = some n) : ruAt ns (i + 1) = ruStep (ruAt ns i) n := by
  unfold ruAt
  rw [List.take_add_one, h, List.foldl_append]
  rfl
local macro_rules | `(tactic| walk_at "eval Name") => `(tactic| (k_here; (with_reducible show wpAny _ _ (eval _ (compEnvD _ _ _ _)) _ _ _); k_dflt (first
  | (refine' name_in ?F ?a ?b ?c ?v ?_ ?d; (case a => rfl); (case b => rfl); (case c => rfl); (case F => k_asm); (case v => rfl); (case d => decide); k_whole)
  | (refine' name_cellAt ?a ?b ?c (Heap.IsCell.keeps ?e (Fr.keep ?F)) ?_ ?d; (case a => rfl); (case b => rfl); (case c => rfl); (case F => k_asm); (case e => assumption); (case d => decide); k_whole)
  | (refine' name_cellN ?a ?b ?c ?N ?m ?e ?_ ?d; (case a => rfl); (case b => rfl); (case c => rfl); (case N => k_asm); (case m => k_mem); (case e => assumption); (case d => decide); k_whole)
  | (refine' name_freeAt ?a ?b ?c (Heap.IsCell.keeps ?e (Fr.keep ?F)) ?_ ?n ?d; (case a => rfl); (case b => rfl); (case c => rfl); (case F => k_asm); (case e => assumption); (case n => decide); (case d => decide); k_whole)
  | ((with_reducible rename Fr _ _ _ _ => kF); refine' nameG_K kF ?k1 ?k2 ?k3 ?_ ?k4 ?k5 ?k6 ?k7; (case k4 => rfl); (case k5 => rfl); (case k6 => rfl); (case k7 => decide); (case k1 => k_asm); (case k2 => k_asm); (case k3 => k_is); k_whole))))
section
variable {prog : Program} {w : World} {E : Value → Shared → Prop} {s : Shared} {mean : ExcName → Option Value} {mg mb : Str → Option Value} {Q : Value → Shared → Prop}

theorem ru_spec {ns : List (Int × Tok)} {a : Addr} (X : (hd.heap_39 w.params).In s.heap) (T : TopM mean mg mb s.heap) (hl : s.heap.IsList a (intValues ns).toArray) (hlen : ns.length ≤ 10)
    (hS : ∀ i, i ≤ ns.length → RuOk (ruAt (ns.map (·.1)) i))
    (h : ∀ v h' tk' tl, Grown s.heap h' → Fresh s.heap h' tl → DatIn tl v (.list (rulesAll (ns.map (·.1)))) → Q v { s with heap := h', toks := tk' }) :
    wpAny (model prog w) (lvl 380) (call (.ref 74) [.ref a]) Q E s := by
  refine' enterC X T ?ho ?hcd ?hroom ?hbind ?hkind ?hnd ?h ?c1 ?c2 ?c3
  case ho => k_is
  case hcd => k_is
  case hroom => decide
  case hbind => exact BindsTo.of_eq rfl
  case hkind => exact rfl
  case hnd => decide +kernel
  case c1 => rfl
  case c2 => rfl
  case c3 => rfl
  intro L h₁ tk cells hL F N Y
  obtain ⟨o1, o2, o3, rfl, d1, d2, d3⟩ := CellsAre.three Y
  clear Y
  replace F : Fr s.heap L h₁ (fun y => if y = Str.ofString "steps" then some (.ref a) else none) := F
  try dsimp only
  k_unmd
  k_fold
  repeat' (first | (k_unfold; (try dsimp only)) | (k_end; wrow_close) | ((fail_if_success (with_reducible show wpAny _ _ (exec (Stmt.For _ _ _ _ _) _) _ _ _)); walk1) | ((fail_if_success (with_reducible show wpAny _ _ (exec (Stmt.For _ _ _ _ _) _) _ _ _)); dsimp only; walk1) | ((fail_if_success (with_reducible show wpAny _ _ (exec (Stmt.For _ _ _ _ _) _) _ _ _)); leave1; walk_say "STEP leave1"; try dsimp only) | fail "no step")
  rename Fr _ _ _ _ => F1
  rename News _ _ _ _ => N1
  rename_i ru0 _ hq1 _ _ _ told _ hq2 _
  have hTc : @LT.lt Nat _ (L + 1 + 1 + 1) told := hq2.2.1
  have N1' : News s.heap L _ ((told, W.listOf ([] : List Value).toArray 0) :: (L + 1 + 1 + 1, o1) :: (L + 1 + 1, o2) :: (L + 1, o3) :: ([(ru0, W.listOf ([] : List Value).toArray 0)] ++ [])) := fun p hp => by
    cases hp with
    | head => exact N1 _ (.head _)
    | tail _ hp => cases hp with
      | head => exact N1 _ (.tail _ (.tail _ (.head _)))
      | tail _ hp => cases hp with
        | head => exact N1 _ (.tail _ (.tail _ (.tail _ (.head _))))
        | tail _ hp => cases hp with
          | head => exact N1 _ (.tail _ (.tail _ (.tail _ (.tail _ (.head _)))))
          | tail _ hp =>
            rw [List.mem_singleton.mp hp]
            exact N1 _ (.tail _ (.head _))
  clear N1
  refine For_invVF F1 rfl rfl ?_ (hE := PassesOwn.never)
  walk1
  refine old_iter (vs := intValues ns) (fun i m nx => ∃ vs k, RuS told L [] vs k ((rulesAll (ns.map (·.1))).take i) (fun _ _ => True) (fun _ _ => True) (fun _ _ => True)
    (fun m big => vs.length ≤ i ∧ m (Str.ofString "told") = some (.ref told) ∧ (∃ t, m (Str.ofString "below") = some (.int (ruAt (ns.map (·.1)) i).below t)) ∧ ∃ rv, m (Str.ofString "rules") = some rv ∧ DatIn big rv (rulesDat (ruAt (ns.map (·.1)) i))) m nx) rfl hl F1 N1' ?_ ?_ ?_
  · refine ⟨[], 0, o1, o2, o3, [(ru0, W.listOf ([] : List Value).toArray 0)], _, _, _, rfl, d1, d2, d3, trivial, trivial, trivial, .nil, ?_, Nat.le_refl _, rfl, ⟨_, rfl⟩, _, rfl, .list (.head _) .nil⟩
    intro p hp b hb
    rw [List.mem_singleton.mp hp]
    cases hb with
    | head => exact Nat.ne_of_gt hq2.1
    | tail _ hb => cases hb with
      | head => exact Nat.ne_of_lt hq1.1
      | tail _ hb => cases hb with
        | head => exact Nat.ne_of_lt hq1.2.1
        | tail _ hb => cases hb with
          | head => exact Nat.ne_of_lt hq1.2.2
          | tail _ hb => cases hb
  · rintro i v m₁ nx hh tk own hv hoff ⟨vs, k, o1, o2, o3, big, v1, v2, v3, rfl, d1, d2, d3, -, -, -, hvs, hsep, hvl, e1, ⟨tB, e2⟩, rv, e3, hrv⟩ F2 N2
    obtain ⟨n, tn, rfl, hn⟩ : ∃ n tn, v = .int n tn ∧ ns[i]? = some (n, tn) := by
      simp only [intValues, List.getElem?_map, Option.map_eq_some_iff] at hv
      obtain ⟨p, hp, rfl⟩ := hv
      exact ⟨p.1, p.2, rfl, hp⟩
    have F3 := fr_name4 F2 (x1 := Str.ofString "n") (x2 := Str.ofString "told") (x3 := Str.ofString "below") (x4 := Str.ofString "rules") rfl e1 e2 e3
    rw [List.append_nil] at N2 hoff
    have hsep : Sep told L own big := fun p hp b hb => by
      cases hb with
      | head => exact hsep p hp _ (.head _)
      | tail _ hb => cases hb with
        | head => exact hsep p hp _ (.tail _ (.head _))
        | tail _ hb => cases hb with
          | head => exact hsep p hp _ (.tail _ (.tail _ (.head _)))
          | tail _ hb => cases hb with
            | head => exact hsep p hp _ (.tail _ (.tail _ (.tail _ (.head _))))
            | tail _ hb =>
              obtain ⟨q, hq, rfl⟩ := List.mem_map.mp hb
              exact hoff q hq p.1 (.tail _ (.tail _ (.tail _ (.tail _ (List.mem_map_of_mem hp)))))
    have hown : OwnSep told L own := fun p hp => ⟨hoff p hp _ (.head _), hoff p hp _ (.tail _ (.head _)), hoff p hp _ (.tail _ (.tail _ (.head _))), hoff p hp _ (.tail _ (.tail _ (.tail _ (.head _))))⟩
    clear hoff
    clear F2 F1 N1'
    have hi : i < ns.length := (List.getElem?_eq_some_iff.mp hn).1
    have ok0 := hS i (Nat.le_of_lt hi)
    have hst1 : ruAt (ns.map (·.1)) (i + 1) = ruStep (ruAt (ns.map (·.1)) i) n := ruAt_succ (by rw [List.getElem?_map, hn]; rfl)
    have h4 : n.fmod 4 = 0 ∨ n.fmod 4 = 1 ∨ n.fmod 4 = 2 ∨ n.fmod 4 = 3 := by
      have := Int.fmod_lt_of_pos n (b := 4) (by decide)
      have := Int.fmod_nonneg_of_pos n (b := 4) (by decide)
      omega
    repeat' (first | (k_unfold; (try dsimp only)) | (k_end; wrow_close) | ((fail_if_success (with_reducible show wpAny _ _ (exec (Stmt.Assign [Expr.Name (Str.ofString "change") _] _ _) _) _ _ _)); walk1) | ((fail_if_success (with_reducible show wpAny _ _ (exec (Stmt.Assign [Expr.Name (Str.ofString "change") _] _ _) _) _ _ _)); dsimp only; walk1) | ((fail_if_success (with_reducible show wpAny _ _ (exec (Stmt.Assign [Expr.Name (Str.ofString "change") _] _ _) _) _ _ _)); leave1; walk_say "STEP leave1"; try dsimp only) | fail "no step")
    refine wpAny_mono (Q := RuMid s.heap s L (RuS told L own vs k ((rulesAll (ns.map (·.1))).take i) (fun _ _ => True) (fun _ _ => True) (fun _ _ => True)
      (fun m big => m (Str.ofString "n") = some (.int n tn) ∧ (∃ t, m (Str.ofString "change") = some (.int (chg n) t)) ∧ m (Str.ofString "told") = some (.ref told) ∧ (∃ t, m (Str.ofString "below") = some (.int (ruAt (ns.map (·.1)) i).below t)) ∧
        ∃ rv, m (Str.ofString "rules") = some rv ∧ DatIn big rv (rulesDat (ruAt (ns.map (·.1)) i))))) ?_ ?_ (fun _ _ e => e)
    · --SLOW
      repeat' (first | (k_unfold; (try dsimp only)) | (k_end; wrow_close) | ((fail_if_success (with_reducible show wpAny _ _ (subscriptTail _ _ _ _) _ _ _)); walk1) | ((fail_if_success (with_reducible show wpAny _ _ (subscriptTail _ _ _ _) _ _ _)); dsimp only; walk1) | ((fail_if_success (with_reducible show wpAny _ _ (subscriptTail _ _ _ _) _ _ _)); leave1; walk_say "STEP leave1"; try dsimp only) | fail "no step")
      rename Fr _ _ _ _ => F4
      rename News _ _ _ _ => N4
      have N5 : News s.heap L _ ((told, W.listOf vs.toArray k) :: (L + 1 + 1 + 1, o1) :: (L + 1 + 1, o2) :: (L + 1, o3) :: (big ++ own)) := fun p hp => N4 p (.tail _ hp)
      have hk0 := Int.fmod_nonneg_of_pos n (b := 4) (by decide)
      have hk1 := Int.fmod_lt_of_pos n (b := 4) (by decide)
      rcases h4 with h4 | h4 | h4 | h4
      · refine' item_at (vs := [_, _, _, _]) (n := 0) N4 (.head _) hk0 (by omega) (by rw [h4]; rfl) ?_
        have hc : chg n = 0 := by unfold chg; rw [h4]; rfl
        rw [hc]
        clear N4
        k_steps
        rename Fr _ _ _ _ => F6
        rename News _ _ _ _ => N6
        exact ⟨rfl, _, _, _, _, rfl, F6, N6, o1, o2, o3, big, v1, v2, v3, rfl, d1, d2, d3, trivial, trivial, trivial, hvs, hsep, rfl, ⟨_, rfl⟩, rfl, ⟨_, rfl⟩, _, rfl, hrv⟩
      · refine' item_at (vs := [_, _, _, _]) (n := 0) N4 (.head _) hk0 (by omega) (by rw [h4]; rfl) ?_
        have hc : chg n = 0 := by unfold chg; rw [h4]; rfl
        rw [hc]
        clear N4
        k_steps
        rename Fr _ _ _ _ => F6
        rename News _ _ _ _ => N6
        exact ⟨rfl, _, _, _, _, rfl, F6, N6, o1, o2, o3, big, v1, v2, v3, rfl, d1, d2, d3, trivial, trivial, trivial, hvs, hsep, rfl, ⟨_, rfl⟩, rfl, ⟨_, rfl⟩, _, rfl, hrv⟩
      · refine' item_at (vs := [_, _, _, _]) (n := 0) N4 (.head _) hk0 (by omega) (by rw [h4]; rfl) ?_
        have hc : chg n = 1 := by unfold chg; rw [h4]; rfl
        rw [hc]
        clear N4
        k_steps
        rename Fr _ _ _ _ => F6
        rename News _ _ _ _ => N6
        exact ⟨rfl, _, _, _, _, rfl, F6, N6, o1, o2, o3, big, v1, v2, v3, rfl, d1, d2, d3, trivial, trivial, trivial, hvs, hsep, rfl, ⟨_, rfl⟩, rfl, ⟨_, rfl⟩, _, rfl, hrv⟩
      · refine' item_at (vs := [_, _, _, _]) (n := 0) N4 (.head _) hk0 (by omega) (by rw [h4]; rfl) ?_
        have hc : chg n = -1 := by unfold chg; rw [h4]; rfl
        rw [hc]
        clear N4
        k_steps
        rename Fr _ _ _ _ => F6
        rename News _ _ _ _ => N6
        exact ⟨rfl, _, _, _, _, rfl, F6, N6, o1, o2, o3, big, v1, v2, v3, rfl, d1, d2, d3, trivial, trivial, trivial, hvs, hsep, rfl, ⟨_, rfl⟩, rfl, ⟨_, rfl⟩, _, rfl, hrv⟩
      --END
    clear F3 N2 hsep hvs hrv d1 d2 d3
    rintro f s2 ⟨rfl, h7, tk7, m7, nx7, rfl, F7, N7, o1, o2, o3, big, v1, v2, v3, rfl, d1, d2, d3, -, -, -, hvs, hsep, e1, ⟨tC, e2⟩, e3, ⟨tB, e4⟩, rv, e5, hrv⟩
    have F8 := fr_name5 F7 (x1 := Str.ofString "n") (x2 := Str.ofString "change") (x3 := Str.ofString "told") (x4 := Str.ofString "below") (x5 := Str.ofString "rules") e1 e2 e3 e4 e5
    clear F7
    try dsimp only
    repeat' (first | (k_unfold; (try dsimp only)) | (k_end; wrow_close) | ((fail_if_success (with_reducible show wpAny _ _ (exec (Stmt.If _ _ _ _) _) _ _ _)); walk1) | ((fail_if_success (with_reducible show wpAny _ _ (exec (Stmt.If _ _ _ _) _) _ _ _)); dsimp only; walk1) | ((fail_if_success (with_reducible show wpAny _ _ (exec (Stmt.If _ _ _ _) _) _ _ _)); leave1; walk_say "STEP leave1"; try dsimp only) | fail "no step")
    refine wpAny_mono (Q := RuMid s.heap s L (RuS told L own vs k ((rulesAll (ns.map (·.1))).take i) (fun _ _ => True) (fun _ _ => True) (fun _ _ => True)
      (fun m big => m (Str.ofString "n") = some (.int n tn) ∧ m (Str.ofString "told") = some (.ref told) ∧ (∃ t, m (Str.ofString "below") = some (.int (ruAt (ns.map (·.1)) (i + 1)).below t)) ∧
        ∃ rv, m (Str.ofString "rules") = some rv ∧ DatIn big rv (rulesDat (ruAt (ns.map (·.1)) (i + 1)))))) ?_ ?_ (fun _ _ e => e)
    · --SLOW
      rw [hst1]
      clear hst1
      generalize ruAt (ns.map (·.1)) i = st at *
      obtain ⟨ra, rvs, rk, rfl, hra, hrvs⟩ := datIn_list hrv
      have N9 : News s.heap L h7 ((ra, W.listOf rvs.toArray rk) :: (told, W.listOf vs.toArray k) :: (L + 1 + 1 + 1, o1) :: (L + 1 + 1, o2) :: (L + 1, o3) :: (big ++ own)) := fun p hp => by
        rcases List.mem_cons.mp hp with rfl | hp
        · exact N7 _ (.tail _ (.tail _ (.tail _ (.tail _ (List.mem_append_left _ hra)))))
        · exact N7 p hp
      clear N7
      by_cases hlt : n.fmod 4 < 2
      · have hst : ruStep st n = { st with rules := (n.fmod 4, lawPat (n.fdiv 4), lawVerd (n.fdiv 4)) :: st.rules } := by unfold ruStep; rw [if_pos hlt]
        rw [hst]
        repeat' (first | (k_unfold; (try dsimp only)) | (k_end; wrow_close) | ((fail_if_success (with_reducible show wpAny _ _ (call (Value.ref 54) _) _ _ _)); walk1) | ((fail_if_success (with_reducible show wpAny _ _ (call (Value.ref 54) _) _ _ _)); dsimp only; walk1) | ((fail_if_success (with_reducible show wpAny _ _ (call (Value.ref 54) _) _ _ _)); leave1; walk_say "STEP leave1"; try dsimp only) | fail "no step")
        rename Fr _ _ _ _ => F10
        rename News _ _ _ _ => N10
        refine lvl_le (lawRule_spec (X.keeps F10.keep) (T.keeps F10.keep) ?_) rfl (Nat.le_of_ble_eq_true rfl) (Nat.le_of_ble_eq_true rfl)
        intro ar t1 t2 h11 tk11 hg11 hf11
        have F11 := grown_fr F10 hg11
        have N11 := grown_news F10 N10 hg11 hf11
        have hfn := fresh_ne N10 hf11
        clear F10 N10
        dsimp only
        k_steps
        rename Fr _ _ _ _ => F12
        rename News _ _ _ _ => N12
        rename (_ ∧ AllLt _ _) => hl12
        rename (∀ (p : Addr × Obj), _ → p.1 < _) => hl13
        rename_i D13 _ D12 _
        have hrl : rvs.length ≤ 20 := by
          rw [datAll_length hrvs, List.length_map]; exact ok0.len
        refine kmk_add_lit (zs := .ref D13 :: rvs) F12 N12 (N12.isList (.head _)) (N12.isList (.tail _ (.tail _ (.tail _ (.tail _ (.head _)))))) (by simp) ?_ (by rw [sizeLine_eq]; simp; omega)
        intro D14 h14 F14 N14 hl14
        clear F12 N12
        k_steps
        rename Fr _ _ _ _ => F15
        rename News _ _ _ _ => N15
        rename Heap => h15
        obtain ⟨o13, ho13, hd13⟩ : ∃ o13, (h15.get? D13 = some o13 ∧ @Ne Nat D13 L ∧ s.heap.get? D13 = none) ∧ DatIn ((D14, W.listOf (Value.ref D13 :: rvs).toArray 0) :: (D13, o13) :: big) (.ref D14) (.list (((n.fmod 4, lawPat (n.fdiv 4), lawVerd (n.fdiv 4)) :: st.rules).map ruleDat)) :=
          ⟨_, N15 _ (.tail _ (.tail _ (.head _))), .list (.head _) (.cons (.list (vs := [_, _, _]) (n := 0) (.tail _ (.head _)) (.cons (.int _ _) (.cons (.str _ _) (.cons (.str _ _) .nil)))) (hrvs.mono fun p hp => .tail _ (.tail _ hp)))⟩
        refine ⟨rfl, _, _, _, (told, W.listOf vs.toArray k) :: (L + 1 + 1 + 1, o1) :: (L + 1 + 1, o2) :: (L + 1, o3) :: (((D14, W.listOf (Value.ref D13 :: rvs).toArray 0) :: (D13, o13) :: big) ++ own), rfl, F15, fun p hp => ?_, o1, o2, o3, (D14, W.listOf (Value.ref D13 :: rvs).toArray 0) :: (D13, o13) :: big, v1, v2, v3, rfl, d1, d2, d3, trivial, trivial, trivial, hvs.mono fun p hp => .tail _ (.tail _ hp), ?_, rfl, rfl, ⟨_, rfl⟩, _, rfl, hd13⟩
        · cases hp with
          | head => exact N15 _ (.tail _ (.tail _ (.tail _ (.tail _ (.tail _ (.tail _ (.head _)))))))
          | tail _ hp => cases hp with
            | head => exact N15 _ (.tail _ (.tail _ (.tail _ (.tail _ (.tail _ (.tail _ (.tail _ (.head _))))))))
            | tail _ hp => cases hp with
              | head => exact N15 _ (.tail _ (.tail _ (.tail _ (.tail _ (.tail _ (.tail _ (.tail _ (.tail _ (.head _)))))))))
              | tail _ hp => cases hp with
                | head => exact N15 _ (.tail _ (.tail _ (.tail _ (.tail _ (.tail _ (.tail _ (.tail _ (.tail _ (.tail _ (.head _))))))))))
                | tail _ hp => cases hp with
                  | head => exact N15 _ (.head _)
                  | tail _ hp => cases hp with
                    | head => exact ho13
                    | tail _ hp => exact N15 _ (.tail _ (.tail _ (.tail _ (.tail _ (.tail _ (.tail _ (.tail _ (.tail _ (.tail _ (.tail _ hp))))))))))
        · exact Sep.cons_lt (Sep.cons_lt hsep (fun p hp => .tail _ (.tail _ (.tail _ hp))) hl13) (fun p hp => .tail _ (.tail _ (.tail _ (.tail _ (.tail _ hp))))) hl14
      · repeat' (first | (k_unfold; (try dsimp only)) | (k_end; wrow_close) | ((fail_if_success (with_reducible show wpAny _ _ (compareOp .NotEq _ _) _ _ _)); walk1) | ((fail_if_success (with_reducible show wpAny _ _ (compareOp .NotEq _ _) _ _ _)); dsimp only; walk1) | ((fail_if_success (with_reducible show wpAny _ _ (compareOp .NotEq _ _) _ _ _)); leave1; walk_say "STEP leave1"; try dsimp only) | fail "no step")
        rename Fr _ _ _ _ => F10
        rename News _ _ _ _ => N10
        refine kqd_ne (n₁ := big) (n₂ := []) (ds := st.rules.map ruleDat) (es := []) N10 (.tail _ (.head _)) rfl rfl hrvs (fun p hp => .tail _ (.tail _ (.tail _ (.tail _ (.tail _ (.tail _ (List.mem_append_left _ hp))))))) (.head _) rfl (ys := []) rfl DatAll.nil (fun _ h => nomatch h) (ruleDat_ok ok0) (fun _ h => nomatch h) ?_ ?_
        · k_units
        have N11 : News s.heap L _ ((ra, W.listOf rvs.toArray rk) :: (told, W.listOf vs.toArray k) :: (L + 1 + 1 + 1, o1) :: (L + 1 + 1, o2) :: (L + 1, o3) :: (big ++ own)) := news_swap N10 fun p hp => .tail _ hp
        clear N10
        obtain ⟨rules, below⟩ := st
        have hc1 : n.fmod 4 = 2 ∨ n.fmod 4 = 3 := by omega
        cases rules with
        | nil =>
          simp only [List.map_nil, decide_true, Bool.not_true]
          have hb0 := ok0.below0
          have hb1 := ok0.below1
          dsimp only at hb0 hb1
          have hch : chg n = 1 ∨ chg n = -1 := by
            rcases hc1 with h4 | h4
            · left; unfold chg; rw [h4]; rfl
            · right; unfold chg; rw [h4]; rfl
          k_steps
          · rename (0 < _) => hpos
            rename Fr _ _ _ _ => F12
            rename News _ _ _ _ => N12
            have hst : ruStep ⟨[], below⟩ n = ⟨[], below + chg n⟩ := by unfold ruStep; rw [if_neg hlt]; exact if_pos hpos
            rw [hst]
            exact ⟨rfl, _, _, _, _, rfl, F12, news_swap N12 fun p hp => .tail _ hp, o1, o2, o3, big, v1, v2, v3, rfl, d1, d2, d3, trivial, trivial, trivial, hvs, hsep, rfl, rfl, ⟨_, rfl⟩, _, rfl, hrv⟩
          · rename (¬ 0 < _) => hpos
            rename Fr _ _ _ _ => F12
            rename News _ _ _ _ => N12
            have hst : ruStep ⟨[], below⟩ n = ⟨[], below⟩ := by unfold ruStep; rw [if_neg hlt]; exact if_neg hpos
            rw [hst]
            exact ⟨rfl, _, _, _, _, rfl, F12, news_swap N12 fun p hp => .tail _ hp, o1, o2, o3, big, v1, v2, v3, rfl, d1, d2, d3, trivial, trivial, trivial, hvs, hsep, rfl, rfl, ⟨_, rfl⟩, _, rfl, hrv⟩
        | cons q rules =>
          simp only [List.map_cons, reduceCtorEq, decide_false, Bool.not_false]
          have hq := ok0.marks q (.head _)
          have hrl : rvs.length ≤ 20 := by
            rw [datAll_length hrvs, List.length_map]; exact ok0.len
          obtain ⟨v0, rvs, rfl, hd0, hrvs'⟩ := datAll_cons hrvs
          obtain ⟨x0, xs, xk, rfl, hx0, hxs⟩ := datIn_list hd0
          obtain ⟨q1, q2, q3⟩ := q
          obtain ⟨y1, xs, rfl, hy1, hxs⟩ := datAll_cons hxs
          obtain ⟨y2, xs, rfl, hy2, hxs⟩ := datAll_cons hxs
          obtain ⟨y3, xs, rfl, hy3, hxs⟩ := datAll_cons hxs
          cases hxs
          obtain ⟨ty1, rfl⟩ := datIn_int hy1
          obtain ⟨ty2, rfl⟩ := datIn_str hy2
          obtain ⟨ty3, rfl⟩ := datIn_str hy3
          clear hy1 hy2 hy3 hd0
          dsimp only at hx0
          have N12 : News s.heap L _ ((x0, W.listOf [.int q1 ty1, .str q2 ty2, .str q3 ty3].toArray xk) :: (ra, W.listOf (.ref x0 :: rvs).toArray rk) :: (told, W.listOf vs.toArray k) :: (L + 1 + 1 + 1, o1) :: (L + 1 + 1, o2) :: (L + 1, o3) :: (big ++ own)) := fun p hp => by
            rcases List.mem_cons.mp hp with rfl | hp
            · exact N11 _ (.tail _ (.tail _ (.tail _ (.tail _ (.tail _ (List.mem_append_left _ hx0))))))
            · exact N11 p hp
          clear N11
          have hch : -1 ≤ chg n ∧ chg n ≤ 1 := by
            rcases hc1 with h4 | h4
            · unfold chg; rw [h4]; decide
            · unfold chg; rw [h4]; decide
          dsimp only at hq
          repeat' (first | (k_unfold; (try dsimp only)) | (k_end; wrow_close) | ((fail_if_success (with_reducible show wpAny _ _ (subscriptTail _ _ _ _) _ _ _)); walk1) | ((fail_if_success (with_reducible show wpAny _ _ (subscriptTail _ _ _ _) _ _ _)); dsimp only; walk1) | ((fail_if_success (with_reducible show wpAny _ _ (subscriptTail _ _ _ _) _ _ _)); leave1; walk_say "STEP leave1"; try dsimp only) | fail "no step")
          rename Fr _ _ _ _ => F13
          rename News _ _ _ _ => N13
          refine' item_at (v := .ref x0) (vs := .ref x0 :: rvs) (n := rk) N13 (.tail _ (.head _)) (by decide) (by decide) rfl ?_
          repeat' (first | (k_unfold; (try dsimp only)) | (k_end; wrow_close) | ((fail_if_success (with_reducible show wpAny _ _ (subscriptTail _ _ _ _) _ _ _)); walk1) | ((fail_if_success (with_reducible show wpAny _ _ (subscriptTail _ _ _ _) _ _ _)); dsimp only; walk1) | ((fail_if_success (with_reducible show wpAny _ _ (subscriptTail _ _ _ _) _ _ _)); leave1; walk_say "STEP leave1"; try dsimp only) | fail "no step")
          rename Fr _ _ _ _ => F14
          rename News _ _ _ _ => N14
          refine' item_at (v := .int q1 ty1) (vs := [.int q1 ty1, .str q2 ty2, .str q3 ty3]) (n := xk) N14 (.head _) (by decide) (by decide) rfl ?_
          repeat' (first | (k_unfold; (try dsimp only)) | (k_end; wrow_close) | ((fail_if_success (with_reducible show wpAny _ _ (subscriptTail _ _ _ _) _ _ _)); walk1) | ((fail_if_success (with_reducible show wpAny _ _ (subscriptTail _ _ _ _) _ _ _)); dsimp only; walk1) | ((fail_if_success (with_reducible show wpAny _ _ (subscriptTail _ _ _ _) _ _ _)); leave1; walk_say "STEP leave1"; try dsimp only) | fail "no step")
          rename Fr _ _ _ _ => F15
          rename News _ _ _ _ => N15
          refine' item_at (v := .ref x0) (vs := .ref x0 :: rvs) (n := rk) N15 (.tail _ (.tail _ (.head _))) (by decide) (by decide) rfl ?_
          repeat' (first | (k_unfold; (try dsimp only)) | (k_end; wrow_close) | ((fail_if_success (with_reducible show wpAny _ _ (subscriptTail _ _ _ _) _ _ _)); walk1) | ((fail_if_success (with_reducible show wpAny _ _ (subscriptTail _ _ _ _) _ _ _)); dsimp only; walk1) | ((fail_if_success (with_reducible show wpAny _ _ (subscriptTail _ _ _ _) _ _ _)); leave1; walk_say "STEP leave1"; try dsimp only) | fail "no step")
          rename Fr _ _ _ _ => F16
          rename News _ _ _ _ => N16
          refine kba_turn (value' := PySem.Expr.Name (PySem.Str.ofString "_") ⟨0, 0, 0, 0⟩) (fun _ => rfl) ?_
          refine' kmk_slice_lit (its := [.int q1 ty1, .str q2 ty2, .str q3 ty3].toArray) (lo := some 1) (hi := none) F16 N16 (N16.isList (.tail _ (.head _))) ?_ ?_ (slice1 _ _) ?_ ?_ ?_ ?_
          · exact .int _ _
          · exact .none
          · intro D17 h17 F17 N17 hl17
            clear F16 N16
            repeat' (first | (k_unfold; (try dsimp only)) | (k_end; wrow_close) | ((fail_if_success (with_reducible show wpAny _ _ (subscriptTail _ _ _ _) _ _ _)); walk1) | ((fail_if_success (with_reducible show wpAny _ _ (subscriptTail _ _ _ _) _ _ _)); dsimp only; walk1) | ((fail_if_success (with_reducible show wpAny _ _ (subscriptTail _ _ _ _) _ _ _)); leave1; walk_say "STEP leave1"; try dsimp only) | fail "no step")
            rename Fr _ _ _ _ => F18
            rename News _ _ _ _ => N18
            refine' kmk_slice_lit (its := (.ref x0 :: rvs).toArray) (lo := some 1) (hi := none) F18 N18 (N18.isList (.tail _ (.tail _ (.tail _ (.tail _ (.tail _ (.head _))))))) ?_ ?_ (slice1 _ _) ?_ ?_ ?_ ?_
            · exact .int _ _
            · exact .none
            · intro D19 h19 F19 N19 hl19
              clear F18 N18
              rename_i D16 _ _ D17a _ _ D18 _ _
              repeat' (first | (k_unfold; (try dsimp only)) | (k_end; wrow_close) | ((fail_if_success (with_reducible show wpAny _ _ (binaryOp _ _ _) _ _ _)); walk1) | ((fail_if_success (with_reducible show wpAny _ _ (binaryOp _ _ _) _ _ _)); dsimp only; walk1) | ((fail_if_success (with_reducible show wpAny _ _ (binaryOp _ _ _) _ _ _)); leave1; walk_say "STEP leave1"; try dsimp only) | fail "no step")
              rename Fr _ _ _ _ => F19
              rename News _ _ _ _ => N19
              refine kmk_add_lit (zs := .ref D17a :: rvs) F19 N19 (N19.isList (.tail _ (.head _))) (N19.isList (.head _)) (by simp) ?_ (by rw [sizeLine_eq]; simp at hrl ⊢; omega)
              intro D20 h20 F20 N20 hl20
              clear F19 N19
              k_steps
              rename Fr _ _ _ _ => F21
              rename News _ _ _ _ => N21
              rename Heap => h21
              rename (@LT.lt Nat _ D17 D17a ∧ _) => hA
              have hst : ruStep ⟨(q1, q2, q3) :: rules, below⟩ n = ⟨(if q1 + chg n > 0 then q1 + chg n else 0, q2, q3) :: rules, below⟩ := by unfold ruStep; rw [if_neg hlt]
              rw [hst]
              obtain ⟨o13, ho13, hd13⟩ : ∃ o13, (h21.get? D17a = some o13 ∧ @Ne Nat D17a L ∧ s.heap.get? D17a = none) ∧ DatIn ((D20, W.listOf (Value.ref D17a :: rvs).toArray 0) :: (D17a, o13) :: big) (.ref D20) (.list (((if q1 + chg n > 0 then q1 + chg n else 0, q2, q3) :: rules).map ruleDat)) :=
                ⟨_, N21 _ (.tail _ (.tail _ (.tail _ (.head _)))), .list (.head _) (.cons (.list (vs := [_, _, _]) (n := 0) (.tail _ (.head _)) (.cons (.int _ _) (.cons (.str _ _) (.cons (.str _ _) .nil)))) (hrvs'.mono fun p hp => .tail _ (.tail _ hp)))⟩
              refine ⟨rfl, _, _, _, (told, W.listOf vs.toArray k) :: (L + 1 + 1 + 1, o1) :: (L + 1 + 1, o2) :: (L + 1, o3) :: (((D20, W.listOf (Value.ref D17a :: rvs).toArray 0) :: (D17a, o13) :: big) ++ own), rfl, F21, fun p hp => ?_, o1, o2, o3, (D20, W.listOf (Value.ref D17a :: rvs).toArray 0) :: (D17a, o13) :: big, v1, v2, v3, rfl, d1, d2, d3, trivial, trivial, trivial, hvs.mono fun p hp => .tail _ (.tail _ hp), ?_, rfl, rfl, ⟨_, rfl⟩, _, rfl, hd13⟩
              · have hN : ∀ p, p ∈ (told, W.listOf vs.toArray k) :: (L + 1 + 1 + 1, o1) :: (L + 1 + 1, o2) :: (L + 1, o3) :: (big ++ own) → (h21.get? p.1 = some p.2 ∧ p.1 ≠ L ∧ s.heap.get? p.1 = none) := fun p hp => N21 p (.tail _ (.tail _ (.tail _ (.tail _ (.tail _ (.tail _ (.tail _ (.tail _ hp))))))))
                cases hp with
                | head => exact hN _ (.head _)
                | tail _ hp => cases hp with
                  | head => exact hN _ (.tail _ (.head _))
                  | tail _ hp => cases hp with
                    | head => exact hN _ (.tail _ (.tail _ (.head _)))
                    | tail _ hp => cases hp with
                      | head => exact hN _ (.tail _ (.tail _ (.tail _ (.head _))))
                      | tail _ hp => cases hp with
                        | head => exact N21 _ (.head _)
                        | tail _ hp => cases hp with
                          | head => exact ho13
                          | tail _ hp => exact hN _ (.tail _ (.tail _ (.tail _ (.tail _ hp))))
              · exact Sep.cons_lt (Sep.cons_all hsep hA.2.2.2.2.1 hA.2.2.2.2.2.1 hA.2.2.2.2.2.2.1 hA.2.2.2.2.2.2.2.1 hA.2.2.2.2.2.2.2.2) (fun p hp => .tail _ (.tail _ (.tail _ (.tail _ (.tail _ (.tail _ (.tail _ hp))))))) hl20
            · with_unfolding_all rfl
            · intro _; with_unfolding_all rfl
            · rw [sizeLine_eq, List.size_toArray]; omega
          · with_unfolding_all rfl
          · intro _; with_unfolding_all rfl
          · rw [sizeLine_eq]; simp
      --END
    clear F8 N7 hsep hvs hrv d1 d2 d3
    rintro f s2 ⟨rfl, h7, tk7, m7, nx7, rfl, F7, N7, o1, o2, o3, big, v1, v2, v3, rfl, d1, d2, d3, -, -, -, hvs, hsep, e1, e3, ⟨tB, e4⟩, rv, e5, hrv⟩
    have F8 := fr_name4 F7 (x1 := Str.ofString "n") (x2 := Str.ofString "told") (x3 := Str.ofString "below") (x4 := Str.ofString "rules") e1 e3 e4 e5
    clear F7
    have ok1 := hS (i + 1) hi
    clear hst1 ok0 h4
    generalize hst9 : ruAt (ns.map (·.1)) (i + 1) = st at ok1 e4 hrv F8
    obtain ⟨ra, rvs, rk, rfl, hra, hrvs⟩ := datIn_list hrv
    have hrl : rvs.length ≤ 20 := by
      rw [datAll_length hrvs, List.length_map]; exact ok1.len
    dsimp only
    repeat' (first | (k_unfold; (try dsimp only)) | (k_end; wrow_close) | ((fail_if_success (with_reducible show wpAny _ _ (exec (Stmt.Assign _ _ _) _) _ _ _)); walk1) | ((fail_if_success (with_reducible show wpAny _ _ (exec (Stmt.Assign _ _ _) _) _ _ _)); dsimp only; walk1) | ((fail_if_success (with_reducible show wpAny _ _ (exec (Stmt.Assign _ _ _) _) _ _ _)); leave1; walk_say "STEP leave1"; try dsimp only) | fail "no step")
    rename Fr _ _ _ _ => F9
    rename News _ _ _ _ => N9
    refine wpAny_Assign_Name ?_ ?hs
    case hs => with_unfolding_all rfl
    refine comp_eval (cl := []) rfl rfl (by decide) (fun _ => rfl) ?_
    walk1
    refine comp_list (vs := rvs) (Acc := fun q ys T => DatAll T ys (((rowsOf st).take q).map rowDat)) ?_ ?_ ?_ own_tuple ?_ ?_ ?_
    · rfl
    · exact N9.isList (.tail _ (.tail _ (.tail _ (.tail _ (List.mem_append_left _ hra)))))
    · rw [sizeLine_eq]; omega
    · exact .nil
    · --SLOW
      intro C q v hh tk mc led ys T' hC hq hP hA FC NC hled hcl hT
      obtain ⟨⟨m, pt, vd⟩, hqr, hdv⟩ := datAll_get hrvs hP
      obtain ⟨x0, xs, xk, rfl, hx0, hxs⟩ := datIn_list hdv
      obtain ⟨y1, xs, rfl, hy1, hxs⟩ := datAll_cons hxs
      obtain ⟨y2, xs, rfl, hy2, hxs⟩ := datAll_cons hxs
      obtain ⟨y3, xs, rfl, hy3, hxs⟩ := datAll_cons hxs
      cases hxs
      obtain ⟨ty1, rfl⟩ := datIn_int hy1
      obtain ⟨ty2, rfl⟩ := datIn_str hy2
      obtain ⟨ty3, rfl⟩ := datIn_str hy3
      clear hy1 hy2 hy3 hdv
      dsimp only at hx0
      have hil := (N9.isList (.tail _ (.tail _ (.tail _ (.tail _ (List.mem_append_left _ hx0)))))).at fun o e => FC.keep _ o e
      refine kun_list FC NC hil rfl rfl rfl ?_
      intro h6 F6 N6
      clear FC NC
      refine assignInOrder_cons (bind_local F6 N6 rfl rfl rfl fun h7' F7' N7' _ => ?_)
      refine assignInOrder_cons (bind_local F7' N7' rfl rfl rfl fun h8' F8' N8' _ => ?_)
      refine assignInOrder_cons (bind_local F8' N8' rfl rfl rfl fun h9' F9' N9' _ => ?_)
      refine assignInOrder_nil ?_
      refine wpAny_tests_nil ?_
      rw [if_pos rfl]
      clear F6 N6 F7' N7' F8' N8'
      have hmk := ok1.marks _ (List.mem_of_getElem? hqr)
      have hpt := ok1.pat _ (List.mem_of_getElem? hqr)
      dsimp only at hmk hpt F9' N9' ⊢
      k_steps
      rename Fr _ _ _ _ => F10
      rename News _ _ _ _ => N10
      rename (∀ (p : Addr × Obj), _ → p.1 < _) => hl10
      refine ⟨_, _, _, [(_, _)], rfl, F10, N10, ?_, (fun p hp h => nomatch h), CellsLive.nil, ?_⟩
      · intro p hp q hq
        rw [List.mem_singleton.mp hp]
        exact Nat.ne_of_gt (hl10 q hq)
      · have e1 : (rowsOf st).take (q + 1) = (rowsOf st).take q ++ [(marksText m ++ pt, vd)] := by
          rw [List.take_add_one]
          congr 1
          unfold rowsOf
          rw [List.getElem?_map, hqr]
          rfl
        rw [e1, List.map_append]
        refine datAll_snoc (hA.mono fun p hp => List.mem_append_right _ hp) ?_
        exact .tuple (vs := [_, _]) (n := 0) (.head _) (.cons (.str _ _) (.cons (.str _ _) .nil))
      --END
    · intro o9 D9 h9 tk9 ys9 T9 k9 hg9 hf9 hne9 hys9 hA9
      rw [List.take_of_length_le (by rw [datAll_length hrvs]; simp [rowsOf])] at hA9
      have F10 := grown_fr F9 hg9
      have N10 := grown_news F9 N9 hg9 hf9
      have hsep' := Sep.append_fresh hsep N9 (fun p hp => hp) hf9
      clear F9 N9
      refine wpAny_storeName_cell (c := L + 1) rfl rfl rfl ⟨o3, (N10 _ (List.mem_append_right _ (.tail _ (.tail _ (.tail _ (.head _)))))).1, d3⟩ ?_
      intro h11 hc11 hs11
      obtain ⟨o3', d3', F11, hN11⟩ := news_cell F10 N10 (N10 _ (List.mem_append_right _ (.tail _ (.tail _ (.tail _ (.head _)))))).2 hs11 hc11
      have N11 := hN11 _ (ru_cell1 hTc hsep' hown)
      have hD9 : (D9, W.listOf ys9.toArray k9) ∈ ((D9, W.listOf ys9.toArray k9) :: T9) ++ big := .head _
      replace hA9 := DatAll.mono (news' := ((D9, W.listOf ys9.toArray k9) :: T9) ++ big) (fun p hp => .tail _ (List.mem_append_left _ hp)) hA9
      replace hvs := DatAll.mono (news' := ((D9, W.listOf ys9.toArray k9) :: T9) ++ big) (fun p hp => List.mem_append_right _ hp) hvs
      replace hrv := DatIn.mono (news' := ((D9, W.listOf ys9.toArray k9) :: T9) ++ big) (fun p hp => List.mem_append_right _ hp) hrv
      generalize ((D9, W.listOf ys9.toArray k9) :: T9) ++ big = big2 at hD9 hA9 hvs hrv hsep' N11
      clear F10 N10 hs11 hc11 hN11 hf9 hg9 hne9 hsep hrvs hra
      dsimp only
      repeat' (first | (k_unfold; (try dsimp only)) | (k_end; wrow_close) | ((fail_if_success (with_reducible show wpAny _ _ (exec (Stmt.Assign _ _ _) _) _ _ _)); walk1) | ((fail_if_success (with_reducible show wpAny _ _ (exec (Stmt.Assign _ _ _) _) _ _ _)); dsimp only; walk1) | ((fail_if_success (with_reducible show wpAny _ _ (exec (Stmt.Assign _ _ _) _) _ _ _)); leave1; walk_say "STEP leave1"; try dsimp only) | fail "no step")
      rename Fr _ _ _ _ => F12
      rename News _ _ _ _ => N12
      refine wpAny_Assign_Name ?_ ?hs
      case hs => with_unfolding_all rfl
      refine comp_eval (cl := []) rfl rfl (by decide) (fun _ => rfl) ?_
      walk1
      refine comp_list (vs := ys9) (Acc := fun q ys T => T = [] ∧ ∃ l9 : List (Str × Tok), ys = strValues l9 ∧ l9.map (·.1) = ((rowsOf st).take q).map (·.1)) ?_ ?_ ?_ own_tuple ?_ ?_ ?_
      · rfl
      · exact N12.isList (.tail _ (.tail _ (.tail _ (.tail _ (List.mem_append_left _ hD9)))))
      · rw [sizeLine_eq]; omega
      · exact ⟨rfl, [], rfl, rfl⟩
      · --SLOW
        intro C q v hh tk mc led ys T' hC hq hP hA FC NC hled hcl hT
        obtain ⟨rfl, l9, rfl, hl9⟩ := hA
        obtain ⟨⟨ky, vd⟩, hqr, hdv⟩ := datAll_get hA9 hP
        obtain ⟨x0, ty1, ty2, xk, rfl, hx0⟩ := datIn_row hdv
        have hil := isTup_keeps (N12.isTup (.tail _ (.tail _ (.tail _ (.tail _ (List.mem_append_left _ hx0)))))) FC.keep
        refine unpackN_ FC NC hil rfl rfl rfl ?_
        intro h6 F6 N6
        clear FC NC
        refine assignInOrder_cons (bind_local F6 N6 rfl rfl rfl fun h7' F7' N7' _ => ?_)
        refine assignInOrder_cons (bind_local F7' N7' rfl rfl rfl fun h8' F8' N8' _ => ?_)
        refine assignInOrder_nil ?_
        refine wpAny_tests_nil ?_
        rw [if_pos rfl]
        clear F6 N6 F7' N7'
        dsimp only at F8' N8' ⊢
        k_steps
        refine ⟨_, _, _, [], rfl, F8', N8', (fun _ h => nomatch h), (fun _ h => nomatch h), CellsLive.nil, rfl, l9 ++ [(ky, ty1)], by simp [strValues], ?_⟩
        rw [List.take_add_one, hqr, List.map_append, List.map_append, hl9]
        rfl
        --END
      · intro o13 D13 h13 tk13 ys13 T13 k13 hg13 hf13 hne13 hys13 hA13
        obtain ⟨rfl, lk, rfl, hlk⟩ := hA13
        rw [List.take_of_length_le (by rw [datAll_length hA9]; simp)] at hlk
        have F14 := grown_fr F12 hg13
        have N14 := grown_news F12 N12 hg13 hf13
        have hsep2 := Sep.append_fresh hsep' N12 (fun p hp => hp) hf13
        clear F12 N12
        refine wpAny_storeName_cell (c := L + 1 + 1) rfl rfl rfl ⟨o2, (N14 _ (List.mem_append_right _ (.tail _ (.tail _ (.head _))))).1, d2⟩ ?_
        intro h15 hc15 hs15
        obtain ⟨o2', d2', F15, hN15⟩ := news_cell F14 N14 (N14 _ (List.mem_append_right _ (.tail _ (.tail _ (.head _))))).2 hs15 hc15
        have N15 := hN15 _ (ru_cell2 hTc hsep2 hown)
        have hD13 : (D13, W.listOf (strValues lk).toArray k13) ∈ [(D13, W.listOf (strValues lk).toArray k13)] ++ big2 := .head _
        replace hA9 := DatAll.mono (news' := [(D13, W.listOf (strValues lk).toArray k13)] ++ big2) (fun p hp => List.mem_append_right _ hp) hA9
        replace hvs := DatAll.mono (news' := [(D13, W.listOf (strValues lk).toArray k13)] ++ big2) (fun p hp => List.mem_append_right _ hp) hvs
        replace hrv := DatIn.mono (news' := [(D13, W.listOf (strValues lk).toArray k13)] ++ big2) (fun p hp => List.mem_append_right _ hp) hrv
        replace hD9 : (D9, W.listOf ys9.toArray k9) ∈ [(D13, W.listOf (strValues lk).toArray k13)] ++ big2 := List.mem_append_right _ hD9
        generalize [(D13, W.listOf (strValues lk).toArray k13)] ++ big2 = big3 at hD13 hD9 hA9 hvs hrv hsep2 N15
        clear F14 N14 hs15 hc15 hN15 hf13 hg13 hne13 hsep'
        dsimp only
        repeat' (first | (k_unfold; (try dsimp only)) | (k_end; wrow_close) | ((fail_if_success (with_reducible show wpAny _ _ (exec (Stmt.Assign _ _ _) _) _ _ _)); walk1) | ((fail_if_success (with_reducible show wpAny _ _ (exec (Stmt.Assign _ _ _) _) _ _ _)); dsimp only; walk1) | ((fail_if_success (with_reducible show wpAny _ _ (exec (Stmt.Assign _ _ _) _) _ _ _)); leave1; walk_say "STEP leave1"; try dsimp only) | fail "no step")
        rename Fr _ _ _ _ => F16
        rename News _ _ _ _ => N16
        have hlkl : lk.length ≤ 20 := by
          have := congrArg List.length hlk
          rw [List.length_map, List.length_map] at this
          have h2 : (rowsOf st).length = st.rules.length := by unfold rowsOf; rw [List.length_map]
          have := ok1.len
          omega
        have hlk' : KeysOf lk (rowsOf st) := hlk
        have N17 : News s.heap L _ ((D13, W.listOf (strValues lk).toArray k13) :: (told, W.listOf vs.toArray k) :: (L + 1 + 1 + 1, o1) :: (L + 1 + 1, o2') :: (L + 1, o3') :: (big3 ++ own)) := fun p hp => by
          rcases List.mem_cons.mp hp with rfl | hp
          · exact N16 _ (.tail _ (.tail _ (.tail _ (.tail _ (List.mem_append_left _ hD13)))))
          · exact N16 p hp
        clear N16
        refine wpAny_Assign_Name ?_ ?hs
        case hs => with_unfolding_all rfl
        refine comp_eval (cl := [(Str.ofString "rows", L + 1), (Str.ofString "keys", L + 1 + 1)]) rfl rfl (by decide) (fun _ => rfl) ?_
        repeat' (first | (k_unfold; (try dsimp only)) | (k_end; wrow_close) | ((fail_if_success (with_reducible show wpAny _ _ (pyIter _) _ _ _)); walk1) | ((fail_if_success (with_reducible show wpAny _ _ (pyIter _) _ _ _)); dsimp only; walk1) | ((fail_if_success (with_reducible show wpAny _ _ (pyIter _) _ _ _)); leave1; walk_say "STEP leave1"; try dsimp only) | fail "no step")
        rename IsRange _ _ _ _ _ _ _ _ => hR
        rename Fr _ _ _ _ => F18
        rename News _ _ _ _ => N18
        rename_i he tke t1e u1e v1e hke
        have hck : he.IsCell (L + 1 + 1) (some (.ref D13)) := ⟨o2', (N18 _ (.tail _ (.tail _ (.tail _ (.head _))))).1, d2'⟩
        have hcr : he.IsCell (L + 1) (some (.ref D9)) := ⟨o3', (N18 _ (.tail _ (.tail _ (.tail _ (.tail _ (.head _)))))).1, d3'⟩
        have hlk1 : he.IsList D13 (strValues lk).toArray := N18.isList (.head _)
        have hlr1 : he.IsList D9 ys9.toArray := N18.isList (.tail _ (.tail _ (.tail _ (.tail _ (.tail _ (List.mem_append_left _ hD9))))))
        have hbig : ∀ p ∈ big3, he.get? p.1 = some p.2 := fun p hp => (N18 p (.tail _ (.tail _ (.tail _ (.tail _ (.tail _ (List.mem_append_left _ hp))))))).1
        refine comp_range (n := lk.length) (Acc := fun q ys T => DatAll T ys ((tableUpTo (rowsOf st) q).map rowDat)) ?_ hR ?_ ?_ ?_ ?_ ?_ ?_
        · rfl
        · exact range_small (by omega) (by omega) (by omega) (by omega)
        · rw [range_size (by omega)]; omega
        · rw [sizeLine_eq]; omega
        · exact .nil
        · --SLOW
          intro C q v hh tk mc led ys T' hC hq hP hA FC NC hled hcl hT
          obtain ⟨tq, rfl⟩ := hP
          rw [show (0 : Int) + (q : Int) * 1 = (q : Int) by omega]
          obtain ⟨⟨ky, tky⟩, hky⟩ : ∃ p, lk[q]? = some p := ⟨_, List.getElem?_eq_getElem hq⟩
          have hkey : keyAt (rowsOf st) q = ky := hlk'.at hky
          have hky2 : (strValues lk)[q]? = some (.str ky tky) := by
            unfold strValues; rw [List.getElem?_map, hky]; rfl
          have hCn : he.get? (C + 1) = none := by
            cases q : he.get? (C + 1) with
            | none => rfl
            | some o => exact absurd (Heap.lt_size q) (Nat.not_lt.mpr (Nat.le_trans hC (Nat.le_succ C)))
          refine bind_cell (c := C + 1) FC NC rfl rfl rfl (hcl _ (.head _)) (Nat.succ_ne_self C) hCn (fun p hp e => hled p hp (e ▸ .head _)) ?_
          intro h6 F6 N6 hc6
          obtain ⟨oc, hoc, hdc⟩ := hc6
          have N7 : News he C h6 ((C + 1, oc) :: led) := fun p hp => by
            rcases List.mem_cons.mp hp with rfl | hp
            · exact ⟨hoc, Nat.succ_ne_self C, hCn⟩
            · exact N6 p hp
          refine wpAny_tests_one ?_
          clear FC NC N6 hcl F18 N18
          dsimp only at F6 N7 ⊢
          repeat' (first | (k_unfold; (try dsimp only)) | (k_end; wrow_close) | ((fail_if_success (with_reducible show wpAny _ _ (subscriptTail _ _ _ _) _ _ _)); walk1) | ((fail_if_success (with_reducible show wpAny _ _ (subscriptTail _ _ _ _) _ _ _)); dsimp only; walk1) | ((fail_if_success (with_reducible show wpAny _ _ (subscriptTail _ _ _ _) _ _ _)); leave1; walk_say "STEP leave1"; try dsimp only) | fail "no step")
          rename Fr _ _ _ _ => F8
          rename News _ _ _ _ => N8
          refine item_of (hlk1.at fun o e => F8.keep _ o e) (Int.natCast_nonneg q) (by omega) (by simpa using hky2) ?_
          repeat' (first | (k_unfold; (try dsimp only)) | (k_end; wrow_close) | ((fail_if_success (with_reducible show wpAny _ _ (subscriptTail _ _ _ _) _ _ _)); walk1) | ((fail_if_success (with_reducible show wpAny _ _ (subscriptTail _ _ _ _) _ _ _)); dsimp only; walk1) | ((fail_if_success (with_reducible show wpAny _ _ (subscriptTail _ _ _ _) _ _ _)); leave1; walk_say "STEP leave1"; try dsimp only) | fail "no step")
          rename Fr _ _ _ _ => F9
          rename News _ _ _ _ => N9
          refine' kmk_slice (its := (strValues lk).toArray) (lo := none) (hi := some (q : Int)) F9 N9 (hlk1.at fun o e => F9.keep _ o e) ?_ ?_ ?_ ?_ ?_ ?_
          · exact .none
          · exact .int _ _
          · intro D10 h10 F10 N10 hlt10
            have el : slicePick (strValues lk).toArray none (some (q : Int)) none = (strValues (lk.take q)).toArray := by
              rw [slicePick_upto']
              simp [strValues, List.map_take]
            rw [el] at N10
            have hkok : PyData.strOk ky = true := by
              rw [← hkey]
              exact hlk'.strOk ok1 hky
            have hin : (Dat.str ky ∈ ((lk.take q).map (·.1)).map Dat.str) ↔ keyAt (rowsOf st) q ∈ ((rowsOf st).map (·.1)).take q := by
              rw [hkey, ← hlk', ← List.map_take]
              constructor
              · intro h
                obtain ⟨z, hz, e⟩ := List.mem_map.mp h
                cases e
                exact hz
              · exact fun h => List.mem_map.mpr ⟨_, h, rfl⟩
            repeat' (first | (k_unfold; (try dsimp only)) | (k_end; wrow_close) | ((fail_if_success (with_reducible show wpAny _ _ (compareOp .NotIn _ _) _ _ _)); walk1) | ((fail_if_success (with_reducible show wpAny _ _ (compareOp .NotIn _ _) _ _ _)); dsimp only; walk1) | ((fail_if_success (with_reducible show wpAny _ _ (compareOp .NotIn _ _) _ _ _)); leave1; walk_say "STEP leave1"; try dsimp only) | fail "no step")
            refine kqd_notIn (n₁ := []) (n₂ := []) (ds := ((lk.take q).map (·.1)).map Dat.str) (d := .str ky) N10 (.head _) rfl rfl (datAll_strs _) (fun _ h => nomatch h) (DatIn.str _ _) (fun _ h => nomatch h) ?_ ?_ ?_ ?_
            · intro d hd
              obtain ⟨z, hz, rfl⟩ := List.mem_map.mp hd
              obtain ⟨p, hp, rfl⟩ := List.mem_map.mp hz
              obtain ⟨j, hj, hjp⟩ := List.getElem_of_mem (List.mem_of_mem_take hp)
              have := hlk'.strOk ok1 (q := j) (p := p) (by rw [List.getElem?_eq_getElem hj, hjp])
              rw [hlk'.at (q := j) (p := p) (by rw [List.getElem?_eq_getElem hj, hjp])] at this
              simpa [kqdOk] using this
            · simpa [kqdOk] using hkok
            · k_units
            have hstep : tableUpTo (rowsOf st) (q + 1) = tableUpTo (rowsOf st) q ++ (if keyAt (rowsOf st) q ∈ ((rowsOf st).map (·.1)).take q then [] else [(ky, lastOf (rowsOf st) ky)]) := by
              unfold tableUpTo
              rw [List.range_succ, List.filterMap_append]
              congr 1
              by_cases hm : keyAt (rowsOf st) q ∈ ((rowsOf st).map (·.1)).take q
              · simp only [List.filterMap_cons, List.filterMap_nil, if_pos hm]
              · simp only [List.filterMap_cons, List.filterMap_nil, if_neg hm]
                rw [hkey]
            by_cases hm : keyAt (rowsOf st) q ∈ ((rowsOf st).map (·.1)).take q
            · rw [if_pos hm, List.append_nil] at hstep
              have hm' := hin.mpr hm
              simp only [hm', decide_true, Bool.not_true]
              clear hm'
              k_steps
              rename Fr _ _ _ _ => F11
              rename News _ _ _ _ => N11
              exact ⟨_, _, _, [], rfl, F11, fun p hp => N11 p (.tail _ (.tail _ hp)), (fun _ h => nomatch h), (fun _ h => nomatch h), (fun c hc => by rw [List.mem_singleton.mp hc]; exact ⟨_, oc, (N11 _ (.tail _ (.head _))).1, hdc⟩), by rw [hstep]; simpa using hA⟩
            · rw [if_neg hm] at hstep
              have hm' : ¬ (Dat.str ky ∈ ((lk.take q).map (·.1)).map Dat.str) := fun h => hm (hin.mp h)
              simp only [hm', decide_false, Bool.not_false]
              clear hm'
              repeat' (first | (k_unfold; (try dsimp only)) | (k_end; wrow_close) | ((fail_if_success (with_reducible show wpAny _ _ (subscriptTail _ _ _ _) _ _ _)); walk1) | ((fail_if_success (with_reducible show wpAny _ _ (subscriptTail _ _ _ _) _ _ _)); dsimp only; walk1) | ((fail_if_success (with_reducible show wpAny _ _ (subscriptTail _ _ _ _) _ _ _)); leave1; walk_say "STEP leave1"; try dsimp only) | fail "no step")
              rename Fr _ _ _ _ => F11
              rename News _ _ _ _ => N11
              refine item_of (hlk1.at fun o e => F11.keep _ o e) (Int.natCast_nonneg q) (by omega) (by simpa using hky2) ?_
              repeat' (first | (k_unfold; (try dsimp only)) | (k_end; wrow_close) | ((fail_if_success (with_reducible show wpAny _ _ (eval (Expr.ListComp _ _ _ _) _) _ _ _)); walk1) | ((fail_if_success (with_reducible show wpAny _ _ (eval (Expr.ListComp _ _ _ _) _) _ _ _)); dsimp only; walk1) | ((fail_if_success (with_reducible show wpAny _ _ (eval (Expr.ListComp _ _ _ _) _) _ _ _)); leave1; walk_say "STEP leave1"; try dsimp only) | fail "no step")
              rename Fr _ _ _ _ => F12
              rename News _ _ _ _ => N12
              have hck12 := hck.keeps F12.keep
              have hci12 : Heap.IsCell _ (C + 1) (some (.int (q : Int) tq)) := ⟨oc, (N12 _ (.tail _ (.head _))).1, hdc⟩
              refine comp_eval (cl := [(Str.ofString "keys", L + 1 + 1), (Str.ofString "i", C + 1)]) rfl rfl (by decide) (fun _ => rfl) ?_
              walk1
              refine comp_list (vs := ys9) (Acc := fun q' ys T => T = [] ∧ ∃ l9 : List (Str × Tok), ys = strValues l9 ∧ l9.map (·.1) = (((rowsOf st).take q').filter fun p => p.1 == ky).map (·.2)) ?_ ?_ ?_ own_tuple ?_ ?_ ?_
              · rfl
              · exact hlr1.at fun o e => F12.keep _ o e
              · rw [sizeLine_eq]; omega
              · exact ⟨rfl, [], rfl, rfl⟩
              · --INNERSLOW
                intro C' q' v' hh' tk' mc' led' ys' T'' hC' hq' hP' hA' FC' NC' hled' hcl' hT'
                obtain ⟨rfl, l9, rfl, hl9⟩ := hA'
                obtain ⟨⟨ky', vd'⟩, hqr', hdv'⟩ := datAll_get hA9 hP'
                obtain ⟨x0, ty1, ty2, xk, rfl, hx0⟩ := datIn_row hdv'
                have hil : IsTup hh' x0 _ := ⟨_, FC'.keep _ _ (F12.keep _ _ (hbig _ hx0)), rfl, _, rfl⟩
                refine unpackN_ FC' NC' hil rfl rfl rfl ?_
                intro h6' F6' N6'
                clear FC' NC'
                refine assignInOrder_cons (bind_local F6' N6' rfl rfl rfl fun h7' F7' N7' _ => ?_)
                refine assignInOrder_cons (bind_local F7' N7' rfl rfl rfl fun h8' F8' N8' _ => ?_)
                refine assignInOrder_nil ?_
                refine wpAny_tests_one ?_
                have hlk2 := hlk1.at fun o e => F12.keep _ o e
                clear F6' N6' F7' N7' F12 N12
                dsimp only at F8' N8' ⊢
                repeat' (first | (k_unfold; (try dsimp only)) | (k_end; wrow_close) | ((fail_if_success (with_reducible show wpAny _ _ (subscriptTail _ _ _ _) _ _ _)); walk1) | ((fail_if_success (with_reducible show wpAny _ _ (subscriptTail _ _ _ _) _ _ _)); dsimp only; walk1) | ((fail_if_success (with_reducible show wpAny _ _ (subscriptTail _ _ _ _) _ _ _)); leave1; walk_say "STEP leave1"; try dsimp only) | fail "no step")
                rename Fr _ _ _ _ => F9'
                rename News _ _ _ _ => N9'
                refine item_of (hlk2.at fun o e => F9'.keep _ o e) (Int.natCast_nonneg q) (by omega) (by simpa using hky2) ?_
                k_steps
                · rename ((ky' == ky) = true) => heq
                  rename Fr _ _ _ _ => F10'
                  rename News _ _ _ _ => N10'
                  refine ⟨_, _, _, [], rfl, F10', N10', (fun _ h => nomatch h), (fun _ h => nomatch h), CellsLive.nil, rfl, l9 ++ [(vd', ty2)], by simp [strValues], ?_⟩
                  rw [List.take_add_one, hqr', List.map_append, hl9]
                  simp only [Option.toList_some, List.filter_append, List.map_append, List.filter_cons, heq, if_true, List.filter_nil, List.map_cons, List.map_nil]
                · rename ((ky' == ky) = false) => heq
                  rename Fr _ _ _ _ => F10'
                  rename News _ _ _ _ => N10'
                  refine ⟨_, _, _, [], rfl, F10', N10', (fun _ h => nomatch h), (fun _ h => nomatch h), CellsLive.nil, rfl, l9, by simp, ?_⟩
                  rw [List.take_add_one, hqr', hl9]
                  simp only [Option.toList_some, List.filter_append, List.map_append, List.filter_cons, heq, List.filter_nil, List.map_nil, List.append_nil, Bool.false_eq_true, if_false]
                --INNEREND
              · intro o14 D14 h14 tk14 ys14 T14 k14 hg14 hf14 hne14 hys14 hA14
                obtain ⟨rfl, l9, rfl, hl9⟩ := hA14
                rw [List.take_of_length_le (by rw [datAll_length hA9]; simp)] at hl9
                have F14 := grown_fr F12 hg14
                have N14 := grown_news F12 N12 hg14 hf14
                have hl14 := fresh_ne N12 hf14
                clear F12 N12
                obtain ⟨l8, v9, t9, rfl⟩ : ∃ l8 v9 t9, l9 = l8 ++ [(v9, t9)] := by
                  rcases List.eq_nil_or_concat l9 with rfl | ⟨l8, ⟨v9, t9⟩, rfl⟩
                  · exact (hlk'.filter_ne hky hl9.symm).elim
                  · exact ⟨l8, v9, t9, by simp⟩
                have hlast : lastOf (rowsOf st) ky = v9 := by
                  unfold lastOf
                  rw [← hl9]
                  simp
                rw [hlast] at hstep
                rw [← strValues_snoc] at N14
                repeat' (first | (k_unfold; (try dsimp only)) | (k_end; wrow_close) | ((fail_if_success (with_reducible show wpAny _ _ (subscriptTail _ _ _ _) _ _ _)); walk1) | ((fail_if_success (with_reducible show wpAny _ _ (subscriptTail _ _ _ _) _ _ _)); dsimp only; walk1) | ((fail_if_success (with_reducible show wpAny _ _ (subscriptTail _ _ _ _) _ _ _)); leave1; walk_say "STEP leave1"; try dsimp only) | fail "no step")
                rename Fr _ _ _ _ => F15
                rename News _ _ _ _ => N15
                refine kba_turn (value' := PySem.Expr.Name (PySem.Str.ofString "_") ⟨0, 0, 0, 0⟩) (fun _ => rfl) ?_
                refine item_last N15 (.head _) ?_
                k_steps
                rename Fr _ _ _ _ => F16
                rename News _ _ _ _ => N16
                rename (∀ (p : Addr × Obj), _ → p.1 < _) => hl16
                refine CompEnd.one F16 (N16 _ (.head _)) (fun p hp => N16 p (.tail _ (.tail _ (.tail _ (.tail _ hp))))) (fun q hq => hl16 q (.tail _ (.tail _ (.tail _ hq)))) ?_ ?_ ?_
                · intro hc
                  have := hl16 _ (.tail _ (.tail _ (.head _)))
                  rw [List.mem_singleton.mp hc] at this
                  exact Nat.lt_irrefl _ this
                · intro c hc
                  rw [List.mem_singleton.mp hc]
                  exact ⟨_, oc, (N16 _ (.tail _ (.tail _ (.tail _ (.head _))))).1, hdc⟩
                · rw [hstep, List.map_append]
                  refine datAll_snoc (hA.mono fun p hp => List.mem_cons_of_mem _ hp) ?_
                  exact .tuple (vs := [_, _]) (n := 0) (.head _) (.cons (.str _ _) (.cons (.str _ _) .nil))
          · with_unfolding_all rfl
          · intro _; with_unfolding_all rfl
          · rw [sizeLine_eq, List.size_toArray]; simp [strValues]; omega
          --END
        · intro o17 D17 h17 tk17 ys17 T17 k17 hg17 hf17 hne17 hys17 hA17
          have htab : tableUpTo (rowsOf st) lk.length = tableOf (rowsOf st) := by unfold tableOf; rw [hlk'.length]
          rw [htab] at hA17
          have N18' := news_swap N18 (fun p hp => .tail _ hp)
          have F19 := grown_fr F18 hg17
          have N19 := grown_news F18 N18' hg17 hf17
          have hsep3 := Sep.append_fresh hsep2 N18' (fun p hp => hp) hf17
          clear F18 N18 N18'
          refine wpAny_storeName_cell (c := L + 1 + 1 + 1) rfl rfl rfl ⟨o1, (N19 _ (List.mem_append_right _ (.tail _ (.head _)))).1, d1⟩ ?_
          intro h20 hc20 hs20
          obtain ⟨o1', d1', F20, hN20⟩ := news_cell F19 N19 (N19 _ (List.mem_append_right _ (.tail _ (.head _)))).2 hs20 hc20
          have N20 := hN20 _ (ru_cell3 hTc hsep3 hown)
          have hD17 : (D17, W.listOf ys17.toArray k17) ∈ ((D17, W.listOf ys17.toArray k17) :: T17) ++ big3 := .head _
          replace hA17 := DatAll.mono (news' := ((D17, W.listOf ys17.toArray k17) :: T17) ++ big3) (fun p hp => .tail _ (List.mem_append_left _ hp)) hA17
          replace hvs := DatAll.mono (news' := ((D17, W.listOf ys17.toArray k17) :: T17) ++ big3) (fun p hp => List.mem_append_right _ hp) hvs
          replace hrv := DatIn.mono (news' := ((D17, W.listOf ys17.toArray k17) :: T17) ++ big3) (fun p hp => List.mem_append_right _ hp) hrv
          generalize ((D17, W.listOf ys17.toArray k17) :: T17) ++ big3 = big4 at hD17 hA17 hvs hrv hsep3 N20
          clear F19 N19 hs20 hc20 hN20 hf17 hg17 hne17 hsep2 hck hcr hlk1 hlr1 hbig hD13 hD9 hA9 hlk' hke hR
          dsimp only
          repeat' (first | (k_unfold; (try dsimp only)) | (k_end; wrow_close) | ((fail_if_success (with_reducible show wpAny _ _ (call (Value.ref 47) _) _ _ _)); walk1) | ((fail_if_success (with_reducible show wpAny _ _ (call (Value.ref 47) _) _ _ _)); dsimp only; walk1) | ((fail_if_success (with_reducible show wpAny _ _ (call (Value.ref 47) _) _ _ _)); leave1; walk_say "STEP leave1"; try dsimp only) | fail "no step")
          rename Fr _ _ _ _ => F21
          rename News _ _ _ _ => N21
          have hwl := lawWord_len n
          refine lvl_le (lawWord_spec (X.keeps F21.keep) (T.keeps F21.keep) ?_) rfl (Nat.le_of_ble_eq_true rfl) (Nat.le_of_ble_eq_true rfl)
          intro t22 h22 tk22 hg22
          have F22 := grown_fr F21 hg22
          have N22 := grown_news F21 N21 hg22 Fresh.nil
          rw [List.nil_append] at N22
          clear F21 N21 hg22
          dsimp only
          repeat' (first | (k_unfold; (try dsimp only)) | (k_end; wrow_close) | ((fail_if_success (with_reducible show wpAny _ _ (call (Value.ref 47) _) _ _ _)); walk1) | ((fail_if_success (with_reducible show wpAny _ _ (call (Value.ref 47) _) _ _ _)); dsimp only; walk1) | ((fail_if_success (with_reducible show wpAny _ _ (call (Value.ref 47) _) _ _ _)); leave1; walk_say "STEP leave1"; try dsimp only) | fail "no step")
          rename Fr _ _ _ _ => F23
          rename News _ _ _ _ => N23
          refine lvl_le (lawWord_spec (X.keeps F23.keep) (T.keeps F23.keep) ?_) rfl (Nat.le_of_ble_eq_true rfl) (Nat.le_of_ble_eq_true rfl)
          intro t24 h24 tk24 hg24
          have F24 := grown_fr F23 hg24
          have N24 := grown_news F23 N23 hg24 Fresh.nil
          rw [List.nil_append] at N24
          clear F23 N23 hg24
          dsimp only
          repeat' (first | (k_unfold; (try dsimp only)) | (k_end; wrow_close) | ((fail_if_success (with_reducible show wpAny _ _ (call (Value.ref 47) _) _ _ _)); walk1) | ((fail_if_success (with_reducible show wpAny _ _ (call (Value.ref 47) _) _ _ _)); dsimp only; walk1) | ((fail_if_success (with_reducible show wpAny _ _ (call (Value.ref 47) _) _ _ _)); leave1; walk_say "STEP leave1"; try dsimp only) | fail "no step")
          rename Fr _ _ _ _ => F25
          rename News _ _ _ _ => N25
          refine lvl_le (lawWord_spec (X.keeps F25.keep) (T.keeps F25.keep) ?_) rfl (Nat.le_of_ble_eq_true rfl) (Nat.le_of_ble_eq_true rfl)
          intro t26 h26 tk26 hg26
          have F26 := grown_fr F25 hg26
          have N26 := grown_news F25 N25 hg26 Fresh.nil
          rw [List.nil_append] at N26
          clear F25 N25 hg26
          dsimp only
          repeat' (first | (k_unfold; (try dsimp only)) | (k_end; wrow_close) | ((fail_if_success (with_reducible show wpAny _ _ (exec (Stmt.Assign [Expr.Name (Str.ofString "firsts") _] _ _) _) _ _ _)); walk1) | ((fail_if_success (with_reducible show wpAny _ _ (exec (Stmt.Assign [Expr.Name (Str.ofString "firsts") _] _ _) _) _ _ _)); dsimp only; walk1) | ((fail_if_success (with_reducible show wpAny _ _ (exec (Stmt.Assign [Expr.Name (Str.ofString "firsts") _] _ _) _) _ _ _)); leave1; walk_say "STEP leave1"; try dsimp only) | fail "no step")
          rename Fr _ _ _ _ => F27
          rename News _ _ _ _ => N27
          rename (told < _ ∧ _) => hlx
          rename_i lx _ _
          obtain ⟨xs, N28, hxs⟩ : ∃ xs : List (Str × Tok), News s.heap L _ ((lx, W.listOf (strValues xs).toArray 0) :: (told, W.listOf vs.toArray k) :: (L + 1 + 1 + 1, o1') :: (L + 1 + 1, o2') :: (L + 1, o3') :: (big4 ++ own)) ∧ xs.map (·.1) = texts3 n :=
            ⟨[(_, _), (_, _), (_, _)], N27, rfl⟩
          clear N27
          have hxn : xs.length = 3 := by
            have := congrArg List.length hxs
            simpa [texts3] using this
          have hxsh : ∀ p ∈ xs, p.1.length ≤ 1000 := fun p hp => texts3_len (hxs ▸ List.mem_map_of_mem hp)
          refine comp_assign (h₀ := s.heap) (L := L) (cl := [(Str.ofString "table", L + 1 + 1 + 1)]) rfl rfl rfl (by decide) (fun _ => rfl) rfl rfl rfl ?_
          walk1
          refine ⟨_, _, F27, N28, ?_⟩
          have hct : Heap.IsCell _ (L + 1 + 1 + 1) (some (.ref D17)) := ⟨o1', (N28 _ (.tail _ (.tail _ (.head _)))).1, d1'⟩
          have hlt1 : Heap.IsList _ D17 ys17.toArray := N28.isList (.tail _ (.tail _ (.tail _ (.tail _ (.tail _ (List.mem_append_left _ hD17))))))
          refine comp_list (vs := strValues xs) (Acc := fun q ys T => DatAll T ys (((xs.map (·.1)).take q).map fun x => Dat.list ((firstFits (tableOf (rowsOf st)) x).map Dat.str))) ?_ ?_ ?_ own_name ?_ ?_ ?_
          · rfl
          · exact N28.isList (.head _)
          · rw [sizeLine_eq]; simp [strValues]; omega
          · exact .nil
          · --SLOW
            intro C q v hh tk mc led ys T' hC hq hP hA FC NC hled hcl hT
            obtain ⟨x, tx, rfl, hx⟩ : ∃ x tx, v = .str x tx ∧ xs[q]? = some (x, tx) := by
              simp only [strValues, List.getElem?_map, Option.map_eq_some_iff] at hP
              obtain ⟨p, hp, rfl⟩ := hP
              exact ⟨p.1, p.2, rfl, hp⟩
            have hxl := hxsh (x, tx) (List.mem_of_getElem? hx)
            have hCn : Heap.get? _ (C + 1) = none := next_none hC
            have hbig : ∀ p ∈ big4, Heap.get? _ p.1 = some p.2 := fun p hp => (N28 p (.tail _ (.tail _ (.tail _ (.tail _ (.tail _ (List.mem_append_left _ hp))))))).1
            refine bind_cell (c := C + 1) FC NC rfl rfl rfl (hcl _ (.head _)) (Nat.succ_ne_self C) hCn (fun p hp e => hled p hp (e ▸ .head _)) ?_
            intro h6 F6 N6 hc6
            refine wpAny_tests_nil ?_
            rw [if_pos rfl]
            have X6 := (X.keeps F27.keep).keeps F6.keep
            have T6 := (T.keeps F27.keep).keeps F6.keep
            clear FC NC F27 N28
            repeat' (first | (k_unfold; (try dsimp only)) | (k_end; wrow_close) | ((fail_if_success (with_reducible show wpAny _ _ (eval (Expr.ListComp _ _ _ _) _) _ _ _)); walk1) | ((fail_if_success (with_reducible show wpAny _ _ (eval (Expr.ListComp _ _ _ _) _) _ _ _)); dsimp only; walk1) | ((fail_if_success (with_reducible show wpAny _ _ (eval (Expr.ListComp _ _ _ _) _) _ _ _)); leave1; walk_say "STEP leave1"; try dsimp only) | fail "no step")
            dsimp only at F6 N6 ⊢
            refine comp_eval (cl := [(Str.ofString "text", C + 1)]) rfl rfl (by decide) (fun _ => rfl) ?_
            walk1
            refine comp_list (vs := ys17) (Acc := fun q' ys T => T = [] ∧ ∃ l9 : List (Str × Tok), ys = strValues l9 ∧ l9.map (·.1) = (((tableOf (rowsOf st)).take q').filter fun p => lawFits p.1 x).map (·.2)) ?_ ?_ ?_ own_tuple ?_ ?_ ?_
            · rfl
            · exact hlt1.at fun o e => F6.keep _ o e
            · rw [sizeLine_eq]; omega
            · exact ⟨rfl, [], rfl, rfl⟩
            · intro C' q' v' hh' tk' mc' led' ys' T'' hC' hq' hP' hA' FC' NC' hled' hcl' hT'
              obtain ⟨rfl, l9, rfl, hl9⟩ := hA'
              obtain ⟨⟨ky', vd'⟩, hqr', hdv'⟩ := datAll_get hA17 hP'
              obtain ⟨x0, ty1, ty2, xk, rfl, hx0⟩ := datIn_row hdv'
              have hkl : ky'.length ≤ 1000 := by
                obtain ⟨r, hr, e⟩ := tableOf_key (List.mem_of_getElem? hqr')
                have := (ok1.keys r hr).2
                rw [e] at this
                exact Nat.le_trans this (by decide)
              have hil : IsTup hh' x0 _ := ⟨_, FC'.keep _ _ (F6.keep _ _ (hbig _ hx0)), rfl, _, rfl⟩
              refine unpackN_ FC' NC' hil rfl rfl rfl ?_
              intro h6' F6' N6'
              clear FC' NC'
              refine assignInOrder_cons (bind_local F6' N6' rfl rfl rfl fun h7' F7' N7' _ => ?_)
              refine assignInOrder_cons (bind_local F7' N7' rfl rfl rfl fun h8' F8' N8' _ => ?_)
              refine assignInOrder_nil ?_
              refine wpAny_tests_one ?_
              clear F6' N6' F7' N7' F6 N6
              dsimp only at F8' N8' hxl ⊢
              repeat' (first | (k_unfold; (try dsimp only)) | (k_end; wrow_close) | ((fail_if_success (with_reducible show wpAny _ _ (call (Value.ref 69) _) _ _ _)); walk1) | ((fail_if_success (with_reducible show wpAny _ _ (call (Value.ref 69) _) _ _ _)); dsimp only; walk1) | ((fail_if_success (with_reducible show wpAny _ _ (call (Value.ref 69) _) _ _ _)); leave1; walk_say "STEP leave1"; try dsimp only) | fail "no step")
              rename Fr _ _ _ _ => F9'
              rename News _ _ _ _ => N9'
              refine lvl_le (fits_spec (X6.keeps F9'.keep) (T6.keeps F9'.keep) hkl hxl ?_) rfl (Nat.le_of_ble_eq_true rfl) (Nat.le_of_ble_eq_true rfl)
              intro h10' tk10' hg10'
              have F10' := grown_fr F9' hg10'
              have N10' := grown_news F9' N9' hg10' Fresh.nil
              rw [List.nil_append] at N10'
              clear F9' N9'
              have hstep : (((tableOf (rowsOf st)).take (q' + 1)).filter fun p => lawFits p.1 x).map (·.2) = (((tableOf (rowsOf st)).take q').filter fun p => lawFits p.1 x).map (·.2) ++ (if lawFits ky' x = true then [vd'] else []) := by
                rw [List.take_add_one, hqr', List.filter_append, List.map_append]
                congr 1
                by_cases hm : lawFits ky' x = true
                · simp [hm]
                · simp [hm]
              cases hm : lawFits ky' x with
              | false =>
                rw [hm] at hstep
                k_steps
                rename Fr _ _ _ _ => F11'
                rename News _ _ _ _ => N11'
                refine ⟨_, _, _, [], rfl, F11', N11', (fun _ h => nomatch h), (fun _ h => nomatch h), CellsLive.nil, rfl, l9, by simp, ?_⟩
                rw [hl9, hstep]
                simp
              | true =>
                rw [hm] at hstep
                k_steps
                rename Fr _ _ _ _ => F11'
                rename News _ _ _ _ => N11'
                refine ⟨_, _, _, [], rfl, F11', N11', (fun _ h => nomatch h), (fun _ h => nomatch h), CellsLive.nil, rfl, l9 ++ [(vd', ty2)], by simp [strValues], ?_⟩
                rw [List.map_append, hl9, hstep]
                simp
            · intro o9 D9' h9' tk9' ys9' T9' k9' hg9' hf9' hne9' hys9' hA9'
              obtain ⟨rfl, l9, rfl, hl9⟩ := hA9'
              rw [List.take_of_length_le (by rw [datAll_length hA17]; simp)] at hl9
              have F9' := grown_fr F6 hg9'
              obtain ⟨oc, hoc, hdc⟩ := id hc6
              have N9' := grown_news F6 N6 hg9' hf9'
              have N10' : News _ C h9' ((D9', W.listOf (strValues l9).toArray k9') :: (C + 1, oc) :: led) := fun p hp => by
                rcases List.mem_cons.mp hp with rfl | hp
                · exact N9' _ (.head _)
                rcases List.mem_cons.mp hp with rfl | hp
                · exact ⟨hg9' _ _ hoc, Nat.succ_ne_self C, hCn⟩
                · exact N9' _ (.tail _ hp)
              clear F6 N6 N9'
              repeat' (first | (k_unfold; (try dsimp only)) | (k_end; wrow_close) | ((fail_if_success (with_reducible show wpAny _ _ (subscriptTail _ _ _ _) _ _ _)); walk1) | ((fail_if_success (with_reducible show wpAny _ _ (subscriptTail _ _ _ _) _ _ _)); dsimp only; walk1) | ((fail_if_success (with_reducible show wpAny _ _ (subscriptTail _ _ _ _) _ _ _)); leave1; walk_say "STEP leave1"; try dsimp only) | fail "no step")
              rename Fr _ _ _ _ => F11'
              rename News _ _ _ _ => N11'
              refine kba_turn (value' := PySem.Expr.Name (PySem.Str.ofString "_") ⟨0, 0, 0, 0⟩) (fun _ => rfl) ?_
              refine' kmk_slice (its := (strValues l9).toArray) (lo := none) (hi := some 1) F11' N11' (N11'.isList (.head _)) ?_ ?_ ?_ ?_ ?_ ?_
              · exact .none
              · exact .int _ _
              · intro D12 h12 F12 N12 hlt12
                have el : slicePick (strValues l9).toArray none (some 1) none = (strValues (l9.take 1)).toArray := by
                  have := slicePick_upto' (strValues l9).toArray 1
                  rw [show ((1 : Nat) : Int) = 1 from rfl] at this
                  rw [this]
                  simp [strValues, List.map_take]
                rw [el] at N12
                k_steps
                refine CompEnd.one F12 (N12 _ (.head _)) (fun p hp => N12 p (.tail _ (.tail _ (.tail _ hp)))) (fun q hq => hlt12 q (.tail _ (.tail _ hq))) ?_ ?_ ?_
                · intro hc
                  have := hlt12 _ (.tail _ (.head _))
                  rw [List.mem_singleton.mp hc] at this
                  exact Nat.lt_irrefl _ this
                · intro c hc
                  rw [List.mem_singleton.mp hc]
                  exact ⟨_, oc, (N12 _ (.tail _ (.tail _ (.head _)))).1, hdc⟩
                · have e1 : ((xs.map (·.1)).take (q + 1)) = (xs.map (·.1)).take q ++ [x] := by
                    rw [List.take_add_one, List.getElem?_map, hx]; rfl
                  rw [e1, List.map_append]
                  refine datAll_snoc (hA.mono fun p hp => List.mem_cons_of_mem _ hp) ?_
                  have e2 : firstFits (tableOf (rowsOf st)) x = (l9.take 1).map (·.1) := by
                    unfold firstFits
                    rw [List.map_take, hl9]
                  refine .list (vs := strValues (l9.take 1)) (n := 0) (.head _) ?_
                  rw [e2]
                  exact datAll_strs _
              · with_unfolding_all rfl
              · intro _; with_unfolding_all rfl
              · rw [sizeLine_eq, List.size_toArray]; omega
            --END
          · intro o29 D29 h29 tk29 ys29 T29 k29 hg29 hf29 hne29 hys29 hA29 h30 tk30 F30 N30
            have hsep4 := Sep.append_fresh hsep3 N28 (fun p hp => .tail _ hp) hf29
            rw [show (strValues xs).length = (xs.map (·.1)).length by simp [strValues], List.take_length, hxs] at hA29
            have hns : (rulesAll (ns.map (·.1))).take (i + 1) = (rulesAll (ns.map (·.1))).take i ++ [ruRow st n] := by
              rw [rulesAll_succ (n := n) (by rw [List.getElem?_map, hn]; rfl), hst9]
            have hvl9 : vs.length ≤ sizeLine := by
              rw [sizeLine_eq]; omega
            clear F27 N28 hct hlt1 hg29 hf29
            dsimp only
            repeat' (first | (k_unfold; (try dsimp only)) | (k_end; wrow_close) | ((fail_if_success (with_reducible show wpAny _ _ (call (Value.builtin _) _) _ _ _)); walk1) | ((fail_if_success (with_reducible show wpAny _ _ (call (Value.builtin _) _) _ _ _)); dsimp only; walk1) | ((fail_if_success (with_reducible show wpAny _ _ (call (Value.builtin _) _) _ _ _)); leave1; walk_say "STEP leave1"; try dsimp only) | fail "no step")
            · rename (0 < st.below) => hpos
              rename Fr _ _ _ _ => F31
              rename News _ _ _ _ => N31
              have N32 : News s.heap L _ ((told, W.listOf vs.toArray k) :: (L + 1 + 1 + 1, o1') :: (L + 1 + 1, o2') :: (L + 1, o3') :: (big4 ++ own)) := news_swap N31 (fun p hp => List.mem_append_right _ (.tail _ hp))
              refine app_list F31 N32 (ru_rest hTc hsep3 hown) hvl9 ?_
              intro h33 F33 N33
              clear F31 N31 N32
              dsimp only
              k_steps
              refine InvEndG.intro F33 N33 (nx := (told, W.listOf (vs ++ [Value.none]).toArray (k + 1)) :: (L + 1 + 1 + 1, o1') :: (L + 1 + 1, o2') :: (L + 1, o3') :: (big4 ++ [])) ⟨vs ++ [.none], k + 1, o1', o2', o3', big4, _, _, _, rfl, d1', d2', d3', trivial, trivial, trivial, ?_, hsep3.nil, ?_, rfl, ⟨tB, rfl⟩, _, rfl, hrv⟩ (ru_off hsep3 hown) ru_sub1 (fun p hp => .tail _ (.tail _ (.tail _ (.tail _ (List.mem_append_right _ hp)))))
              · rw [hns]
                refine datAll_snoc hvs ?_
                unfold ruRow
                rw [if_pos hpos]
                exact .none
              · rw [List.length_append]; exact Nat.add_le_add hvl (Nat.le_refl 1)
            · rename (¬ 0 < st.below) => hpos
              rename Fr _ _ _ _ => F31
              rename News _ _ _ _ => N31
              rename (∀ (p : Addr × Obj), _ → p.1 < _) => hl31
              rename_i Dt _
              obtain ⟨oT, hoT, hdT⟩ : ∃ oT, (Heap.get? _ Dt = some oT ∧ @Ne Nat Dt L ∧ s.heap.get? Dt = none) ∧ DatIn ((Dt, oT) :: (((D29, W.listOf ys29.toArray k29) :: T29) ++ big4)) (.ref Dt) (ruRow st n) := by
                refine ⟨_, N31 _ (.head _), ?_⟩
                unfold ruRow
                rw [if_neg hpos]
                exact .tuple (vs := [.ref D17, .ref D29]) (n := 0) (.head _) (.cons (.list (.tail _ (List.mem_append_right _ hD17)) (hA17.mono fun p hp => .tail _ (List.mem_append_right _ hp))) (.cons (.list (.tail _ (.head _)) (hA29.mono fun p hp => .tail _ (.tail _ (List.mem_append_left _ hp)))) .nil))
              have hsep5 : Sep told L own ((Dt, oT) :: (((D29, W.listOf ys29.toArray k29) :: T29) ++ big4)) := Sep.cons_lt hsep4 (fun p hp => List.mem_append_right _ (.tail _ hp)) hl31
              have N32 : News s.heap L _ ((told, W.listOf vs.toArray k) :: (L + 1 + 1 + 1, o1') :: (L + 1 + 1, o2') :: (L + 1, o3') :: (((Dt, oT) :: (((D29, W.listOf ys29.toArray k29) :: T29) ++ big4)) ++ own)) := fun p hp => by
                rcases ru_grow p hp with rfl | hp | hp
                · exact hoT
                · exact N31 p (.tail _ (List.mem_append_left _ hp))
                · exact N31 p (.tail _ (List.mem_append_right _ (.tail _ hp)))
              refine app_list F31 N32 (ru_rest hTc hsep5 hown) hvl9 ?_
              intro h33 F33 N33
              clear F31 N31 N32 hoT
              dsimp only
              k_steps
              refine InvEndG.intro F33 N33 (nx := (told, W.listOf (vs ++ [Value.ref Dt]).toArray (k + 1)) :: (L + 1 + 1 + 1, o1') :: (L + 1 + 1, o2') :: (L + 1, o3') :: (((Dt, oT) :: (((D29, W.listOf ys29.toArray k29) :: T29) ++ big4)) ++ [])) ⟨vs ++ [.ref Dt], k + 1, o1', o2', o3', _, _, _, _, rfl, d1', d2', d3', trivial, trivial, trivial, ?_, hsep5.nil, ?_, rfl, ⟨tB, rfl⟩, _, rfl, ?_⟩ (ru_off hsep5 hown) ru_sub1 (fun p hp => .tail _ (.tail _ (.tail _ (.tail _ (List.mem_append_right _ hp)))))
              · rw [hns]
                exact datAll_snoc (hvs.mono fun p hp => .tail _ (List.mem_append_right _ hp)) hdT
              · rw [List.length_append]; exact Nat.add_le_add hvl (Nat.le_refl 1)
              · exact hrv.mono fun p hp => .tail _ (List.mem_append_right _ hp)
  · rintro m₁ nx hh tk ⟨vs, k, o1, o2, o3, big, v1, v2, v3, rfl, d1, d2, d3, -, -, -, hvs, hsep, hvl, e1, -, -⟩ F2 N2
    have F3 := fr_name1 F2 (x1 := Str.ofString "told") e1
    clear F1 N1' F2
    rw [List.take_of_length_le (by simp [rulesAll, intValues])] at hvs
    k_steps
    refine h (.ref told) hh _ ((told, W.listOf vs.toArray k) :: big) F3.keep (fresh_of_news (L := L) fun p hp => ?_) (.list (.head _) (hvs.mono fun p hp => .tail _ hp))
    rcases List.mem_cons.mp hp with rfl | hp
    · exact N2 _ (.head _)
    · exact N2 _ (.tail _ (.tail _ (.tail _ (.tail _ (List.mem_append_left _ hp)))))
end
end Mine

/-! part PA -/
open PySem PySem.W PySem.Calls PyProof.Rows
set_option Elab.async false
set_option maxRecDepth 100000
namespace Mine
/-! The plain law, 1: the finite tables, by computation -/
def patL (i : Nat) : List Nat := [[46, 46, 46], [97, 46, 46, 46], [46, 46, 46, 98], [97, 98], [98, 46, 46, 46, 97, 46, 46, 46]].getD i []
def sgL (j : Nat) : List Nat := [[], [61], [44], [34], [92]].getD j []
def escL (j : Nat) : List Nat := [[], [61], [44], [92, 34], [92, 92]].getD j []
def isEq (j k : Nat) : Bool := (j == 1 && k == 0) || (j == 0 && k == 1)
def cvL (j k : Nat) : List Nat := if isEq j k then [61] else [34] ++ escL j ++ escL k ++ [34]
def bareL (j k : Nat) : List Nat := if isEq j k then [61] else [34] ++ sgL j ++ sgL k ++ [34]
def marksL (m : Nat) : List Nat := (List.replicate m [35, 32]).flatten
def strL (l : List Nat) : Str := ⟨l.toArray⟩
def keyL (m i : Nat) : Str := strL (marksL m ++ patL i)
def vdL (j k : Nat) : Str := strL (sgL j ++ sgL k)
def rowL (m i j k : Nat) : Str := strL (marksL m ++ patL i ++ [61] ++ bareL j k)
def tailL (b : Nat) : List Nat := if b = 0 then [] else marksL (b - 1) ++ [35]
def wordL (i : Nat) : List Nat := [[], [97], [98, 97], [97, 98], [98, 97, 98]].getD i []
def textsL (i : Nat) : List Str := match i with
  | 0 => [strL [], strL [35], strL [35]]
  | i => [strL (wordL i), strL ([35, 32] ++ wordL i), strL ([35, 32, 32] ++ wordL i)]

theorem str_ext {x y : Str} (h : x.cps.toList = y.cps.toList) : x = y := by
  obtain ⟨x⟩ := x
  obtain ⟨y⟩ := y
  exact congrArg Str.mk (Array.toList_inj.mp h)
def dots : Str := strL [46, 46, 46]
def eqS : Str := strL [61]
def quS : Str := strL [34]
theorem dots_eq : Str.ofString "..." = dots := by decide +kernel
theorem eqS_eq : Str.ofString "=" = eqS := by decide +kernel
theorem quS_eq : Str.ofString "\"" = quS := by decide +kernel
theorem coS_eq : Str.ofString "," = strL [44] := by decide +kernel
theorem bsS_eq : Str.ofString "\\" = strL [92] := by decide +kernel
theorem mkS_eq : Str.ofString "# " = strL [35, 32] := by decide +kernel
theorem haS_eq : Str.ofString "#" = strL [35] := by decide +kernel
theorem spS_eq : Str.ofString " " = strL [32] := by decide +kernel
theorem emS_eq : Str.ofString "" = strL [] := by decide +kernel
theorem pats_eq : ∀ i, i < 5 → pats5.getD i Str.empty = strL (patL i) := by decide +kernel
theorem signs_eq : ∀ i, i < 5 → signs5.getD i Str.empty = strL (sgL i) := by decide +kernel
def cvT (j k : Nat) : Str := if vdL j k = Str.ofString "=" then vdL j k else codeVerd (vdL j k)
theorem cv_eq : ∀ j, j < 5 → ∀ k, k < 5 → cvT j k = strL (cvL j k) := by decide +kernel
theorem texts3_eq : ∀ i, i < 5 → [words5.getD i Str.empty, Txt.rstrip (Str.ofString "# " ++ words5.getD i Str.empty), Txt.rstrip (Str.ofString "#  " ++ words5.getD i Str.empty)] = textsL i := by decide +kernel
theorem asks_eq : ∀ i, i < 5 → [words5.getD i Str.empty, commentLine (words5.getD i Str.empty ++ Str.ofString " "), commentLine (Str.ofString " " ++ words5.getD i Str.empty ++ Str.ofString " \n")] = textsL i := by decide +kernel

def fitsMore2 (x y : Str) (i : Nat) (r : List Int) : Nat × List Int :=
  if Txt.slice x (some (i : Int)) (some ((i : Int) + 3)) = dots then (i + 3, (List.range ((y.length : Int) + 1 - r.headD 0).toNat).map fun (k : Nat) => r.headD 0 + (k : Int))
  else (i + 1, (r.filter fun j => Txt.slice y (some j) (some (j + 1)) == Txt.item x (i : Int)).map (· + 1))
def fitsGo2 (x y : Str) : Nat → Nat → List Int → List Int
  | 0, _, r => r
  | n + 1, i, r => if i < x.length ∧ r ≠ [] then fitsGo2 x y n (fitsMore2 x y i r).1 (fitsMore2 x y i r).2 else r
def lawFits2 (x y : Str) : Bool := decide ((y.length : Int) ∈ fitsGo2 x y x.length 0 [0])
theorem fitsMore2_eq (x y : Str) (i : Nat) (r : List Int) : fitsMore x y i r = fitsMore2 x y i r := by unfold fitsMore fitsMore2; rw [dots_eq]
theorem fitsGo2_eq (x y : Str) : ∀ (n i : Nat) (r : List Int), fitsGo x y n i r = fitsGo2 x y n i r
  | 0, _, _ => rfl
  | n + 1, i, r => by unfold fitsGo fitsGo2; rw [fitsMore2_eq, fitsGo2_eq]
theorem lawFits2_eq (x y : Str) : lawFits x y = lawFits2 x y := by unfold lawFits lawFits2; rw [fitsGo2_eq]
def ellipsisMatch2 (x y : Str) : Bool := if Txt.contains x dots then emStart y (Txt.split x dots) else x == y
theorem ellipsisMatch2_eq (x y : Str) : ellipsisMatch x y = ellipsisMatch2 x y := by unfold ellipsisMatch ellipsisMatch2; rw [dots_eq]
def unq (v : Str) : Str := if Txt.item v 0 = quS ∧ Txt.item v (-1) = quS then Txt.slice v (some 1) (some (-1)) else v
theorem kvPair_of {e k v : Str} (h : Txt.splitMax e eqS 1 = [k, v]) : kvPair e = some (k, unq v) := by
  unfold kvPair unq
  rw [eqS_eq, quS_eq, h]
theorem kvOk_of {e k v : Str} (h : Txt.splitMax e eqS 1 = [k, v]) (hv : 0 < v.length) : kvOk e = true := by
  unfold kvOk
  rw [eqS_eq, h]
  exact decide_eq_true hv
theorem kvPair_one {e : Str} (h : Txt.splitMax e eqS 1 = [e]) : kvPair e = none ∧ kvOk e = true := by
  unfold kvPair kvOk
  rw [eqS_eq, h]
  exact ⟨rfl, rfl⟩
theorem bare_eq : ∀ j, j < 5 → ∀ k, k < 5 → unq (strL (bareL j k)) = vdL j k ∧ 0 < (strL (bareL j k)).length := by decide +kernel
abbrev keyFact (m i : Nat) : Prop := (Txt.contains (keyL m i) dots = true → 2 ≤ (Txt.split (keyL m i) dots).length) ∧ ∀ w, w < 5 → ∀ x ∈ textsL w, ellipsisMatch2 (keyL m i) x = lawFits2 (keyL m i) x
theorem tail_split : ∀ b, b < 12 → Txt.splitMax (strL (tailL (b + 1))) eqS 1 = [strL (tailL (b + 1))] := by decide +kernel
theorem keyFact_0 : ∀ i, i < 5 → keyFact 0 i := by decide +kernel
theorem keyFact_1 : ∀ i, i < 5 → keyFact 1 i := by decide +kernel
theorem keyFact_2 : ∀ i, i < 5 → keyFact 2 i := by decide +kernel
theorem keyFact_3 : ∀ i, i < 5 → keyFact 3 i := by decide +kernel
theorem keyFact_4 : ∀ i, i < 5 → keyFact 4 i := by decide +kernel
theorem keyFact_5 : ∀ i, i < 5 → keyFact 5 i := by decide +kernel
theorem keyFact_6 : ∀ i, i < 5 → keyFact 6 i := by decide +kernel
theorem keyFact_7 : ∀ i, i < 5 → keyFact 7 i := by decide +kernel
theorem keyFact_all {m i : Nat} (hm : m ≤ 7) (hi : i < 5) : keyFact m i := by
  match m, hm with
  | 0, _ => exact keyFact_0 i hi
  | 1, _ => exact keyFact_1 i hi
  | 2, _ => exact keyFact_2 i hi
  | 3, _ => exact keyFact_3 i hi
  | 4, _ => exact keyFact_4 i hi
  | 5, _ => exact keyFact_5 i hi
  | 6, _ => exact keyFact_6 i hi
  | 7, _ => exact keyFact_7 i hi
theorem split_eq (a b : List Nat) (ha : 61 ∉ a) : Txt.splitMax (strL (a ++ [61] ++ b)) eqS 1 = [strL a, strL b] := by
  have hlen : (strL (a ++ [61] ++ b)).length = a.length + 1 + b.length := by
    simp [strL, Str.length]
    omega
  have h1 : (decide ((strL (a ++ [61] ++ b)).length < eqS.length) || decide (Builtin.Str.strKind (strL (a ++ [61] ++ b)) < Builtin.Str.strKind eqS)) = false := by
    have e1 : eqS.length = 1 := rfl
    have e2 : Builtin.Str.strKind eqS = 1 := by decide +kernel
    rw [e1, e2, hlen]
    have : 1 ≤ Builtin.Str.strKind (strL (a ++ [61] ++ b)) := by
      unfold Builtin.Str.strKind
      split
      · exact Nat.le_refl _
      · split <;> decide
    rw [Bool.or_eq_false_iff]
    exact ⟨decide_eq_false (by omega), decide_eq_false (by omega)⟩
  have hat : ∀ i, StrLaws.At (strL (a ++ [61] ++ b)) eqS (strL (a ++ [61] ++ b)).length i ↔ (a ++ [61] ++ b)[i]? = some 61 := by
    intro i
    unfold StrLaws.At Builtin.Str.subAt
    have e1 : eqS.length = 1 := rfl
    rw [e1]
    constructor
    · rintro ⟨h2, h3⟩
      have h3 := eq_of_beq h3
      have : ((strL (a ++ [61] ++ b)).cps.extract i (i + 1)).toList = [61] := by rw [h3]; rfl
      simp only [strL, Array.toList_extract, List.extract_eq_take_drop] at this
      have h4 : (((a ++ [61] ++ b).drop i).take (i + 1 - i))[0]? = some 61 := by rw [this]; rfl
      rw [show i + 1 - i = 1 by omega, List.getElem?_take_of_lt (by omega), List.getElem?_drop] at h4
      simpa using h4
    · intro h2
      have hi : i < (a ++ [61] ++ b).length := (List.getElem?_eq_some_iff.mp h2).1
      refine ⟨by rw [hlen]; simp at hi; omega, ?_⟩
      apply beq_of_eq
      apply Array.toList_inj.mp
      show ((strL (a ++ [61] ++ b)).cps.extract i (i + 1)).toList = [61]
      simp only [strL, Array.toList_extract, List.extract_eq_take_drop]
      rw [show i + 1 - i = 1 by omega, List.drop_eq_getElem_cons hi]
      have := (List.getElem?_eq_some_iff.mp h2).2
      simp only [List.take_succ_cons, List.take_zero, this]
  have hfirst : (a ++ [61] ++ b)[a.length]? = some 61 := by simp
  have hbefore : ∀ k, k < a.length → (a ++ [61] ++ b)[k]? ≠ some 61 := by
    intro k hk e
    rw [List.append_assoc, List.getElem?_append_left hk] at e
    exact ha (List.mem_of_getElem? e)
  have hocc : Builtin.Str.occurrences (strL (a ++ [61] ++ b)) eqS 0 (strL (a ++ [61] ++ b)).length 1 = [a.length] := by
    have hl := StrLaws.occ_length_le (strL (a ++ [61] ++ b)) eqS 0 (strL (a ++ [61] ++ b)).length 1
    rcases StrLaws.occ_head (strL (a ++ [61] ++ b)) eqS 1 (Nat.le_refl 1) with ⟨_, hn⟩ | ⟨i, r, h0, hi, hn⟩
    · exact absurd ((hat a.length).mpr hfirst) (hn _)
    · have hia : i = a.length := by
        rcases Nat.lt_trichotomy i a.length with h | h | h
        · exact absurd ((hat i).mp hi) (hbefore i h)
        · exact h
        · exact absurd ((hat _).mpr hfirst) (hn _ h)
      rw [h0] at hl ⊢
      have : r = [] := by
        cases r with
        | nil => rfl
        | cons _ _ => simp at hl
      rw [this, hia]
  unfold Txt.splitMax
  rw [h1, show limitOf (strL (a ++ [61] ++ b)) 1 = 1 from rfl, hocc]
  simp only [Bool.false_eq_true, if_false, List.isEmpty_cons]
  unfold Builtin.Str.partsBetween
  have s1 : Builtin.Str.strSub (strL (a ++ [61] ++ b)) 0 a.length = strL a := by
    have := StrLaws.strSub_toList (strL (a ++ [61] ++ b)) 0 a.length
    refine str_ext ?_
    rw [this]
    simp [strL]
  have s2 : Builtin.Str.strSub (strL (a ++ [61] ++ b)) (a.length + 1) (strL (a ++ [61] ++ b)).length = strL b := by
    have := StrLaws.strSub_toList (strL (a ++ [61] ++ b)) (a.length + 1) (strL (a ++ [61] ++ b)).length
    refine str_ext ?_
    rw [this, hlen]
    rw [show a.length + 1 + b.length - (a.length + 1) = b.length by omega]
    simp [strL]
  show [Builtin.Str.strSub _ 0 a.length, Builtin.Str.strSub _ (a.length + eqS.length) _] = _
  rw [s1, show eqS.length = 1 from rfl, s2]
end Mine

/-! part PB -/
open PySem PySem.W PySem.Calls PyProof.Rows
set_option Elab.async false
set_option maxRecDepth 100000
namespace Mine
/-! The plain law, 2: texts as lists of numbers -/
theorem strL_toList (l : List Nat) : (strL l).cps.toList = l := by simp [strL]
theorem strL_length (l : List Nat) : (strL l).length = l.length := by simp [strL, Str.length]
theorem strL_inj {a b : List Nat} (h : strL a = strL b) : a = b := by
  have := congrArg (fun x => x.cps.toList) h
  simpa [strL] using this
theorem strL_of (x : Str) : x = strL x.cps.toList := str_ext (by simp [strL])
theorem app_toList (x y : Str) : (x ++ y).cps.toList = x.cps.toList ++ y.cps.toList := by
  show (x.cps ++ y.cps).toList = _
  simp
theorem strL_app (a b : List Nat) : strL a ++ strL b = strL (a ++ b) := str_ext (by rw [app_toList]; simp [strL_toList])
theorem foldl_app (l : List (Array Nat)) : ∀ acc : Array Nat, (l.foldl (· ++ ·) acc).toList = acc.toList ++ (l.map Array.toList).flatten := by
  induction l with
  | nil => intro acc; simp
  | cons a l ih => intro acc; rw [List.foldl_cons, ih]; simp
theorem marksText_eq (m : Nat) : marksText (m : Int) = strL (marksL m) := by
  unfold marksText Txt.mul marksL
  rw [mkS_eq]
  refine str_ext ?_
  rw [strL_toList]
  match m with
  | 0 => rfl
  | 1 => rfl
  | m + 2 =>
    rw [if_neg (by omega), if_neg (by simp [strL_length]; omega)]
    show (List.foldl (· ++ ·) #[] (List.replicate (((m + 2 : Nat) : Int).toNat) (strL [35, 32]).cps)).toList = _
    rw [foldl_app, show ((m + 2 : Nat) : Int).toNat = m + 2 from rfl]
    simp [strL]
theorem marksL_succ (m : Nat) : marksL (m + 1) = 35 :: 32 :: marksL m := by
  unfold marksL
  rw [List.replicate_succ]
  rfl
theorem slice_to2 {l : List Nat} (h : 2 ≤ l.length) : Txt.slice (strL l) none (some 2) = strL (l.take 2) := by
  have := StrLaws.sliceText_to (x := strL l) (j := 2) ⟨by decide, by rw [strL_toList]; omega⟩
  refine this.trans ?_
  rw [strL_toList]
  rfl
theorem slice_from2 {l : List Nat} (h : 2 ≤ l.length) : Txt.slice (strL l) (some 2) none = strL (l.drop 2) := by
  have := StrLaws.sliceText_from (x := strL l) (i := 2) ⟨by decide, by rw [strL_toList]; omega⟩
  refine this.trans ?_
  rw [strL_toList]
  refine str_ext ?_
  show (List.take (((l.length : Nat) : Int) - 2).toNat (List.drop 2 l)) = List.drop 2 l
  exact List.take_of_length_le (by rw [List.length_drop]; omega)
theorem rstrip_eq (l : List Nat) (c : Nat) (t : List Nat) (hc : Unicode.isSpace c = false) (ht : ∀ x ∈ t, Unicode.isSpace x = true) : Txt.rstrip (strL (l ++ c :: t)) = strL (l ++ [c]) := by
  unfold Txt.rstrip
  rw [PyProof.Rows.stripBy_eq]
  refine str_ext ?_
  rw [StrLaws.strSub_toList, strL_toList, strL_toList]
  have h1 : stripLo Unicode.isSpace false (strL (l ++ c :: t)) = 0 := rfl
  rw [h1]
  have h2 : stripHi Unicode.isSpace true (strL (l ++ c :: t)) 0 = l.length + 1 := by
    unfold stripHi
    rw [if_pos rfl, strL_toList, List.drop_zero, strL_length]
    have e : (l ++ c :: t).reverse = t.reverse ++ c :: l.reverse := by simp
    rw [e, List.takeWhile_append_of_pos (by intro x hx; exact ht x (by simpa using hx)), List.takeWhile_cons, hc]
    simp
    omega
  rw [h2]
  have : l ++ c :: t = (l ++ [c]) ++ t := by simp
  rw [this, List.drop_zero, List.take_append_of_le_length (by simp), List.take_of_length_le (by simp)]
theorem strip_eq {c : Nat} {l m : List Nat} {d : Nat} (hc : Unicode.isSpace c = false) (hd : Unicode.isSpace d = false) (h : c :: l = m ++ [d]) : Txt.strip (strL (c :: l)) = strL (c :: l) := by
  unfold Txt.strip
  rw [PyProof.Rows.stripBy_eq]
  refine str_ext ?_
  rw [StrLaws.strSub_toList, strL_toList]
  have h1 : stripLo Unicode.isSpace true (strL (c :: l)) = 0 := by
    unfold stripLo
    rw [if_pos rfl, strL_toList, List.takeWhile_cons, hc]
    rfl
  rw [h1]
  have h2 : stripHi Unicode.isSpace true (strL (c :: l)) 0 = (c :: l).length := by
    unfold stripHi
    rw [if_pos rfl, strL_toList, List.drop_zero, strL_length, h]
    simp [hd]
  rw [h2]
  simp
end Mine

/-! part PC -/
open PySem PySem.W PySem.Calls PyProof.Rows
set_option Elab.async false
set_option maxRecDepth 100000
namespace Mine
/-! The plain law, 3: the sheet is its rules, written out -/
structure ISt where
  rules : List (Nat × Nat × Nat × Nat)
  below : Nat
def ix (n : Int) : Nat × Nat × Nat := (((n.fdiv 4).fmod 5).toNat, (((n.fdiv 4).fdiv 5).fmod 5).toNat, (((n.fdiv 4).fdiv 25).fmod 5).toNat)
def istep (st : ISt) (n : Int) : ISt :=
  if n.fmod 4 < 2 then { st with rules := ((n.fmod 4).toNat, ix n) :: st.rules }
  else if n.fmod 4 = 2 then (match st.rules with
    | (m, r) :: q => { st with rules := (m + 1, r) :: q }
    | [] => { st with below := st.below + 1 })
  else (match st.rules with
    | (m, r) :: q => { st with rules := (m - 1, r) :: q }
    | [] => { st with below := if st.below ≤ 1 then st.below else st.below - 1 })
def iAt (ns : List Int) (i : Nat) : ISt := (ns.take i).foldl istep ⟨[], 0⟩
structure Inv (st : ISt) (b : Nat) : Prop where
  len : st.rules.length ≤ b
  ok : ∀ q ∈ st.rules, q.1 ≤ b ∧ q.2.1 < 5 ∧ q.2.2.1 < 5 ∧ q.2.2.2 < 5
  below : st.below ≤ b
theorem ix_lt (n : Int) : (ix n).1 < 5 ∧ (ix n).2.1 < 5 ∧ (ix n).2.2 < 5 := by
  have h : ∀ m : Int, (m.fmod 5).toNat < 5 := fun m => by
    have := Int.fmod_lt_of_pos m (b := 5) (by decide)
    have := Int.fmod_nonneg_of_pos m (b := 5) (by decide)
    omega
  exact ⟨h _, h _, h _⟩
theorem fmod4 (n : Int) : 0 ≤ n.fmod 4 ∧ n.fmod 4 < 4 := ⟨Int.fmod_nonneg_of_pos n (by decide), Int.fmod_lt_of_pos n (by decide)⟩
theorem istep_inv {st : ISt} {b : Nat} (h : Inv st b) (n : Int) : Inv (istep st n) (b + 1) := by
  obtain ⟨rules, below⟩ := st
  obtain ⟨h1, h2, h3⟩ := h
  dsimp only at h1 h2 h3
  have h2' : ∀ q ∈ rules, q.1 ≤ b + 1 ∧ q.2.1 < 5 ∧ q.2.2.1 < 5 ∧ q.2.2.2 < 5 := fun q hq => ⟨Nat.le_succ_of_le (h2 q hq).1, (h2 q hq).2⟩
  have hf := fmod4 n
  unfold istep
  split
  · refine ⟨Nat.succ_le_succ h1, fun q hq => ?_, Nat.le_succ_of_le h3⟩
    rcases List.mem_cons.mp hq with rfl | hq
    · have hi := ix_lt n
      dsimp only
      refine ⟨by omega, hi.1, hi.2.1, hi.2.2⟩
    · exact h2' q hq
  split
  · cases rules with
    | nil => exact ⟨Nat.zero_le _, (fun _ h => nomatch h), Nat.succ_le_succ h3⟩
    | cons q r =>
      refine ⟨Nat.le_succ_of_le h1, fun p hp => ?_, Nat.le_succ_of_le h3⟩
      rcases List.mem_cons.mp hp with rfl | hp
      · have := h2 q (.head _)
        exact ⟨Nat.succ_le_succ this.1, this.2⟩
      · exact h2' p (.tail _ hp)
  · cases rules with
    | nil =>
      refine ⟨Nat.zero_le _, (fun _ h => nomatch h), ?_⟩
      dsimp only
      split <;> omega
    | cons q r =>
      refine ⟨Nat.le_succ_of_le h1, fun p hp => ?_, Nat.le_succ_of_le h3⟩
      rcases List.mem_cons.mp hp with rfl | hp
      · have := h2 q (.head _)
        refine ⟨?_, this.2⟩
        have := this.1
        dsimp only
        omega
      · exact h2' p (.tail _ hp)
theorem take_succ_foldl {α : Type} (f : α → Int → α) (a : α) {ns : List Int} {i : Nat} (h : i < ns.length) : (ns.take (i + 1)).foldl f a = f ((ns.take i).foldl f a) ns[i] := by
  rw [List.take_add_one, List.getElem?_eq_getElem h, List.foldl_append]
  rfl
theorem iAt_succ {ns : List Int} {i : Nat} (h : i < ns.length) : iAt ns (i + 1) = istep (iAt ns i) ns[i] := take_succ_foldl _ _ h
theorem iAt_inv (ns : List Int) : ∀ i, i ≤ ns.length → Inv (iAt ns i) i
  | 0, _ => ⟨Nat.le_refl _, (fun _ h => nomatch h), Nat.le_refl _⟩
  | i + 1, h => by
    rw [iAt_succ (by omega)]
    exact istep_inv (iAt_inv ns i (by omega)) _
/-! the law's own rules -/
def toRule (q : Nat × Nat × Nat × Nat) : Int × Str × Str := ((q.1 : Int), pats5.getD q.2.1 Str.empty, signs5.getD q.2.2.1 Str.empty ++ signs5.getD q.2.2.2 Str.empty)
def toRSt (st : ISt) : RSt := ⟨st.rules.map toRule, (st.below : Int)⟩
theorem chg_2 {n : Int} (h : n.fmod 4 = 2) : chg n = 1 := by unfold chg; rw [h]; rfl
theorem chg_3 {n : Int} (h : n.fmod 4 = 3) : chg n = -1 := by unfold chg; rw [h]; rfl
theorem ruStep_to (st : ISt) (n : Int) : ruStep (toRSt st) n = toRSt (istep st n) := by
  obtain ⟨rules, below⟩ := st
  have hf := fmod4 n
  unfold ruStep istep toRSt
  dsimp only
  by_cases h1 : n.fmod 4 < 2
  · have e : ((n.fmod 4).toNat : Int) = n.fmod 4 := by omega
    rw [if_pos h1, if_pos h1]
    simp only [List.map_cons, toRule, e]
    rfl
  rw [if_neg h1, if_neg h1]
  by_cases h2 : n.fmod 4 = 2
  · rw [if_pos h2, chg_2 h2]
    cases rules with
    | nil =>
      simp only [List.map_nil]
      rw [if_pos (by omega)]
      rfl
    | cons q r =>
      simp only [List.map_cons, toRule]
      rw [if_pos (by omega)]
      rfl
  · rw [if_neg h2, chg_3 (by omega)]
    cases rules with
    | nil =>
      simp only [List.map_nil]
      by_cases hb : below ≤ 1
      · rw [if_neg (by omega), if_pos hb]
      · rw [if_pos (by omega), if_neg hb]
        congr 1
        omega
    | cons q r =>
      obtain ⟨m, q⟩ := q
      simp only [List.map_cons, toRule]
      have e : (if (m : Int) + -1 > 0 then (m : Int) + -1 else 0) = ((m - 1 : Nat) : Int) := by
        split <;> omega
      rw [e]
theorem ruAt_to (ns : List Int) : ∀ i, i ≤ ns.length → ruAt ns i = toRSt (iAt ns i)
  | 0, _ => rfl
  | i + 1, h => by
    have e : ruAt ns (i + 1) = ruStep (ruAt ns i) ns[i] := take_succ_foldl _ _ (by omega)
    rw [e, ruAt_to ns i (by omega), iAt_succ (by omega), ruStep_to]
end Mine

/-! part PD -/
open PySem PySem.W PySem.Calls PyProof.Rows
set_option Elab.async false
set_option maxRecDepth 100000
namespace Mine
/-! The plain law, 4: a step of the sheet is a step of its rules -/
def rowCode (q : Nat × Nat × Nat × Nat) : List Nat := marksL q.1 ++ (patL q.2.1 ++ ([61] ++ (cvL q.2.2.1 q.2.2.2 ++ [44])))
def renderL (st : ISt) : List Nat := (st.rules.map rowCode).flatten ++ tailL st.below
theorem cv_end : ∀ j, j < 5 → ∀ k, k < 5 → cvL j k = (cvL j k).dropLast ++ [(cvL j k).getLastD 0] ∧ Unicode.isSpace ((cvL j k).getLastD 0) = false := by decide +kernel
theorem ruleText_eq (n : Int) : ruleText n = strL (patL (ix n).1 ++ ([61] ++ cvL (ix n).2.1 (ix n).2.2)) := by
  have hi := ix_lt n
  have e1 : lawPat (n.fdiv 4) = strL (patL (ix n).1) := pats_eq _ hi.1
  have e2 : lawVerd (n.fdiv 4) = vdL (ix n).2.1 (ix n).2.2 := by
    show signs5.getD (ix n).2.1 Str.empty ++ signs5.getD (ix n).2.2 Str.empty = _
    rw [signs_eq _ hi.2.1, signs_eq _ hi.2.2, strL_app]
    rfl
  have e3 := cv_eq _ hi.2.1 _ hi.2.2
  unfold cvT at e3
  unfold ruleText
  rw [e1, e2, e3, eqS_eq]
  unfold eqS
  rw [strL_app, strL_app, List.append_assoc]
theorem comment_of {l : List Nat} {c : Nat} {t : List Nat} (hc : Unicode.isSpace c = false) (ht : ∀ x ∈ t, Unicode.isSpace x = true) : commentLine (strL (l ++ c :: t)) = strL (35 :: 32 :: (l ++ [c])) := by
  unfold commentLine
  rw [rstrip_eq l c t hc ht, if_neg (by rw [strL_length]; simp), mkS_eq, strL_app]
  rfl
theorem comment_rule (n : Int) : commentLine (ruleText n ++ Str.ofString " ") = strL (35 :: 32 :: (patL (ix n).1 ++ ([61] ++ cvL (ix n).2.1 (ix n).2.2))) := by
  have hi := ix_lt n
  obtain ⟨h1, h2⟩ := cv_end _ hi.2.1 _ hi.2.2
  rw [ruleText_eq, spS_eq, strL_app]
  generalize (cvL (ix n).2.1 (ix n).2.2).getLastD 0 = c at h1 h2
  rw [h1]
  have e : patL (ix n).1 ++ ([61] ++ ((cvL (ix n).2.1 (ix n).2.2).dropLast ++ [c])) ++ [32] = (patL (ix n).1 ++ ([61] ++ (cvL (ix n).2.1 (ix n).2.2).dropLast)) ++ c :: [32] := by simp
  rw [e, comment_of h2 (by intro x hx; rw [List.mem_singleton.mp hx]; decide +kernel)]
  simp
theorem rows_end : ∀ (rules : List (Nat × Nat × Nat × Nat)), rules ≠ [] → ∃ l, (rules.map rowCode).flatten = l ++ [44]
  | [], h => absurd rfl h
  | [q], _ => ⟨marksL q.1 ++ (patL q.2.1 ++ ([61] ++ cvL q.2.2.1 q.2.2.2)), by simp [rowCode]⟩
  | q :: q' :: r, _ => by
    obtain ⟨l, hl⟩ := rows_end (q' :: r) (by simp)
    refine ⟨rowCode q ++ l, ?_⟩
    rw [List.map_cons, List.flatten_cons, hl, List.append_assoc]
theorem render_end (st : ISt) (h : st.rules ≠ [] ∨ 0 < st.below) : ∃ l c, renderL st = l ++ [c] ∧ Unicode.isSpace c = false := by
  unfold renderL tailL
  by_cases hb : st.below = 0
  · rw [if_pos hb, List.append_nil]
    obtain ⟨l, hl⟩ := rows_end st.rules (by
      rcases h with h | h
      · exact h
      · omega)
    exact ⟨l, 44, hl, by decide +kernel⟩
  · rw [if_neg hb, ← List.append_assoc]
    exact ⟨_, 35, rfl, by decide +kernel⟩
theorem comment_render (st : ISt) (h : st.rules ≠ [] ∨ 0 < st.below) : commentLine (strL (renderL st)) = strL (35 :: 32 :: renderL st) := by
  obtain ⟨l, c, e, hc⟩ := render_end st h
  rw [e]
  have := comment_of (l := l) (t := []) hc (fun _ h => nomatch h)
  exact this
theorem tailL_succ (b : Nat) : tailL (b + 1) = marksL b ++ [35] := rfl
theorem pat_head : ∀ i, i < 5 → (patL i).length ≥ 2 ∧ (patL i).take 2 ≠ [35, 32] := by decide +kernel
theorem take2 (l : List Nat) : strL (List.take 2 (35 :: 32 :: l)) = strL [35, 32] := rfl
theorem sheetStep_to {st : ISt} (ok : ∀ q ∈ st.rules, q.2.1 < 5) (n : Int) : sheetStep (strL (renderL st)) n = strL (renderL (istep st n)) := by
  obtain ⟨rules, below⟩ := st
  have hf := fmod4 n
  unfold sheetStep istep
  dsimp only
  by_cases h0 : n.fmod 4 = 0
  · rw [if_pos h0, if_pos (by omega), ruleText_eq, coS_eq, strL_app, strL_app, h0]
    congr 1
    simp [renderL, rowCode, marksL]
  rw [if_neg h0]
  by_cases h1 : n.fmod 4 = 1
  · rw [if_pos h1, if_pos (by omega), comment_rule, coS_eq, strL_app, strL_app, h1]
    congr 1
    simp [renderL, rowCode, marksL]
  rw [if_neg h1, if_neg (by omega : ¬ n.fmod 4 < 2)]
  by_cases h2 : n.fmod 4 = 2
  · rw [if_pos h2, if_pos h2]
    cases rules with
    | nil =>
      cases below with
      | zero => decide +kernel
      | succ b =>
        rw [comment_render _ (.inr (Nat.succ_pos b))]
        congr 1
    | cons q r =>
      rw [comment_render _ (.inl (by simp))]
      obtain ⟨m, q⟩ := q
      congr 1
  rw [if_neg h2, if_neg h2]
  have hmk : Str.ofString "# " = strL [35, 32] := mkS_eq
  rw [hmk]
  cases rules with
  | nil =>
    match below with
    | 0 => decide +kernel
    | 1 => decide +kernel
    | b + 2 =>
      have e : renderL ⟨[], b + 2⟩ = 35 :: 32 :: (marksL b ++ [35]) := by simp [renderL, tailL_succ, marksL_succ]
      have hl : 2 ≤ (renderL ⟨[], b + 2⟩).length := by rw [e]; simp
      rw [slice_to2 hl, slice_from2 hl, e, if_pos (take2 _)]
      dsimp only
      rw [if_neg (by omega)]
      congr 1
  | cons q r =>
    obtain ⟨m, i, j, k⟩ := q
    have hi := ok _ (.head _)
    dsimp only at hi
    cases m with
    | zero =>
      have e : renderL ⟨(0, i, j, k) :: r, below⟩ = patL i ++ (([61] ++ (cvL j k ++ [44])) ++ ((r.map rowCode).flatten ++ tailL below)) := by simp [renderL, rowCode, marksL]
      obtain ⟨h5, h6⟩ := pat_head i hi
      have hl : 2 ≤ (renderL ⟨(0, i, j, k) :: r, below⟩).length := by rw [e, List.length_append]; omega
      rw [slice_to2 hl, if_neg]
      intro hh
      have := strL_inj hh
      rw [e, List.take_append_of_le_length h5] at this
      exact h6 this
    | succ m =>
      have e : renderL ⟨(m + 1, i, j, k) :: r, below⟩ = 35 :: 32 :: renderL ⟨(m, i, j, k) :: r, below⟩ := by simp [renderL, rowCode, marksL_succ]
      have hl : 2 ≤ (renderL ⟨(m + 1, i, j, k) :: r, below⟩).length := by rw [e]; simp
      rw [slice_to2 hl, slice_from2 hl, e, if_pos (take2 _)]
      rfl
theorem sheetAt_to (ns : List Int) : ∀ i, i ≤ ns.length → sheetAt ns i = strL (renderL (iAt ns i))
  | 0, _ => by
    show Str.ofString "" = _
    rw [emS_eq]
    rfl
  | i + 1, h => by
    have e : sheetAt ns (i + 1) = sheetStep (sheetAt ns i) ns[i] := take_succ_foldl _ _ (by omega)
    rw [e, sheetAt_to ns i (by omega), iAt_succ (by omega), sheetStep_to (fun q hq => ((iAt_inv ns i (by omega)).ok q hq).2.1)]
end Mine

/-! part PE -/
open PySem PySem.W PySem.Calls PyProof.Rows
set_option Elab.async false
set_option maxRecDepth 100000
namespace Mine
/-! The plain law, 5: what the reader makes of a sheet -/
theorem quL_eq : Str.ofString "\"" = strL [34] := quS_eq
theorem one_eq (c d : Nat) : ((⟨#[c]⟩ : Str) = strL [d]) ↔ c = d := by
  constructor
  · intro h
    have h' : strL [c] = strL [d] := h
    have := strL_inj h'
    simpa using this
  · rintro rfl; rfl
theorem app_one (p : List Nat) (c : Nat) : strL p ++ (⟨#[c]⟩ : Str) = strL (p ++ [c]) := strL_app p [c]
section
variable {res : List Str} {p : List Nat}
theorem h_plain {c : Nat} (h1 : c ≠ 44) (h2 : c ≠ 34) : hStep ⟨res, strL p, false, false⟩ c = ⟨res, strL (p ++ [c]), false, false⟩ := by
  unfold hStep
  rw [coS_eq, quL_eq, app_one]
  simp only [Bool.false_eq_true, if_false]
  rw [if_neg (fun h => h1 ((one_eq _ _).mp h)), if_neg (fun h => h2 ((one_eq _ _).mp h))]
theorem h_comma : hStep ⟨res, strL p, false, false⟩ 44 = ⟨res ++ [strL p], strL [], false, false⟩ := by
  unfold hStep
  rw [coS_eq]
  simp only [Bool.false_eq_true, if_false]
  rw [if_pos ((one_eq _ _).mpr rfl)]
  rfl
theorem h_open : hStep ⟨res, strL p, false, false⟩ 34 = ⟨res, strL (p ++ [34]), false, true⟩ := by
  unfold hStep
  rw [coS_eq, quL_eq, app_one]
  simp only [Bool.false_eq_true, if_false]
  rw [if_neg (fun h => absurd ((one_eq _ _).mp h) (by decide)), if_pos ((one_eq _ _).mpr rfl)]
theorem h_in {c : Nat} (h1 : c ≠ 92) (h2 : c ≠ 34) : hStep ⟨res, strL p, false, true⟩ c = ⟨res, strL (p ++ [c]), false, true⟩ := by
  unfold hStep
  rw [bsS_eq, quL_eq, app_one]
  simp only [Bool.false_eq_true, if_false, if_true]
  rw [if_neg (fun h => h1 ((one_eq _ _).mp h)), if_neg (fun h => h2 ((one_eq _ _).mp h))]
theorem h_esc : hStep ⟨res, strL p, false, true⟩ 92 = ⟨res, strL p, true, true⟩ := by
  unfold hStep
  rw [bsS_eq]
  simp only [Bool.false_eq_true, if_false, if_true]
  rw [if_pos ((one_eq _ _).mpr rfl)]
theorem h_close : hStep ⟨res, strL p, false, true⟩ 34 = ⟨res, strL (p ++ [34]), false, false⟩ := by
  unfold hStep
  rw [bsS_eq, quL_eq, app_one]
  simp only [Bool.false_eq_true, if_false, if_true]
  rw [if_neg (fun h => absurd ((one_eq _ _).mp h) (by decide)), if_pos ((one_eq _ _).mpr rfl)]
theorem h_after {c : Nat} : hStep ⟨res, strL p, true, true⟩ c = ⟨res, strL (p ++ [c]), false, true⟩ := by
  unfold hStep
  rw [app_one]
  simp only [if_true]
theorem esc_fold (j : Nat) (hj : j < 5) : (escL j).foldl hStep ⟨res, strL p, false, true⟩ = ⟨res, strL (p ++ sgL j), false, true⟩ := by
  match j, hj with
  | 0, _ => simp [escL, sgL]
  | 1, _ => simp only [escL, sgL, List.getD_cons_succ, List.getD_cons_zero, List.foldl_cons, List.foldl_nil]; rw [h_in (by decide) (by decide)]
  | 2, _ => simp only [escL, sgL, List.getD_cons_succ, List.getD_cons_zero, List.foldl_cons, List.foldl_nil]; rw [h_in (by decide) (by decide)]
  | 3, _ => simp only [escL, sgL, List.getD_cons_succ, List.getD_cons_zero, List.foldl_cons, List.foldl_nil]; rw [h_esc, h_after]
  | 4, _ => simp only [escL, sgL, List.getD_cons_succ, List.getD_cons_zero, List.foldl_cons, List.foldl_nil]; rw [h_esc, h_after]
theorem cv_fold {j k : Nat} (hj : j < 5) (hk : k < 5) : (cvL j k).foldl hStep ⟨res, strL p, false, false⟩ = ⟨res, strL (p ++ bareL j k), false, false⟩ := by
  unfold cvL bareL
  split
  · rw [List.foldl_cons, List.foldl_nil, h_plain (by decide) (by decide)]
  · simp only [List.foldl_append, List.foldl_cons, List.foldl_nil]
    rw [h_open, esc_fold j hj, esc_fold k hk, h_close]
    simp
theorem plain_fold : ∀ (l : List Nat) (p : List Nat), (∀ c ∈ l, c ≠ 44 ∧ c ≠ 34) → l.foldl hStep ⟨res, strL p, false, false⟩ = ⟨res, strL (p ++ l), false, false⟩
  | [], p, _ => by simp
  | c :: l, p, h => by
    rw [List.foldl_cons, h_plain (h c (.head _)).1 (h c (.head _)).2, plain_fold l _ fun d hd => h d (.tail _ hd)]
    simp
end
theorem marks_mem {m c : Nat} (h : c ∈ marksL m) : c = 35 ∨ c = 32 := by
  unfold marksL at h
  obtain ⟨l, hl, hc⟩ := List.mem_flatten.mp h
  rw [List.eq_of_mem_replicate hl] at hc
  simpa using hc
theorem pat_mem : ∀ i, i < 5 → ∀ c ∈ patL i, c ≠ 44 ∧ c ≠ 34 ∧ c ≠ 61 := by decide +kernel
def rowRead (q : Nat × Nat × Nat × Nat) : Str := rowL q.1 q.2.1 q.2.2.1 q.2.2.2
def QOk (q : Nat × Nat × Nat × Nat) : Prop := q.2.1 < 5 ∧ q.2.2.1 < 5 ∧ q.2.2.2 < 5
theorem row_fold {res : List Str} {q : Nat × Nat × Nat × Nat} (hq : QOk q) : (rowCode q).foldl hStep ⟨res, strL [], false, false⟩ = ⟨res ++ [rowRead q], strL [], false, false⟩ := by
  unfold rowCode
  rw [List.foldl_append, plain_fold (marksL q.1) [] (fun c hc => by rcases marks_mem hc with rfl | rfl <;> decide)]
  rw [List.foldl_append, plain_fold (patL q.2.1) _ (fun c hc => ⟨(pat_mem _ hq.1 c hc).1, (pat_mem _ hq.1 c hc).2.1⟩)]
  rw [List.foldl_append, plain_fold [61] _ (fun c hc => by rw [List.mem_singleton.mp hc]; decide)]
  rw [List.foldl_append, cv_fold hq.2.1 hq.2.2, List.foldl_cons, List.foldl_nil, h_comma]
  simp [rowRead, rowL]
theorem rows_fold : ∀ (rules : List (Nat × Nat × Nat × Nat)) (res : List Str), (∀ q ∈ rules, QOk q) → ((rules.map rowCode).flatten).foldl hStep ⟨res, strL [], false, false⟩ = ⟨res ++ rules.map rowRead, strL [], false, false⟩
  | [], res, _ => by simp
  | q :: r, res, h => by
    rw [List.map_cons, List.flatten_cons, List.foldl_append, row_fold (h q (.head _)), rows_fold r _ fun p hp => h p (.tail _ hp)]
    simp
theorem tail_mem {b c : Nat} (h : c ∈ tailL b) : c ≠ 44 ∧ c ≠ 34 := by
  unfold tailL at h
  split at h
  · cases h
  · rcases List.mem_append.mp h with h | h
    · rcases marks_mem h with rfl | rfl <;> decide
    · rw [List.mem_singleton.mp h]; decide
theorem render_fold {st : ISt} (h : ∀ q ∈ st.rules, QOk q) : (renderL st).foldl hStep ⟨[], Str.empty, false, false⟩ = ⟨st.rules.map rowRead, strL (tailL st.below), false, false⟩ := by
  unfold renderL
  rw [List.foldl_append]
  have := rows_fold st.rules [] h
  rw [List.nil_append] at this
  show List.foldl hStep (List.foldl hStep ⟨[], strL [], false, false⟩ _) _ = _
  rw [this, plain_fold _ _ fun c hc => tail_mem hc, List.nil_append]
theorem pat_space : ∀ i, i < 5 → ∃ c l, patL i = c :: l ∧ Unicode.isSpace c = false := by
  intro i hi
  match i, hi with
  | 0, _ => exact ⟨46, _, rfl, by decide +kernel⟩
  | 1, _ => exact ⟨97, _, rfl, by decide +kernel⟩
  | 2, _ => exact ⟨46, _, rfl, by decide +kernel⟩
  | 3, _ => exact ⟨97, _, rfl, by decide +kernel⟩
  | 4, _ => exact ⟨98, _, rfl, by decide +kernel⟩
theorem bare_end (j k : Nat) : ∃ l d, bareL j k = l ++ [d] ∧ Unicode.isSpace d = false := by
  unfold bareL
  split
  · exact ⟨[], 61, rfl, by decide +kernel⟩
  · exact ⟨_, 34, rfl, by decide +kernel⟩
theorem strip_row {q : Nat × Nat × Nat × Nat} (hq : QOk q) : Txt.strip (rowRead q) = rowRead q := by
  obtain ⟨m, i, j, k⟩ := q
  obtain ⟨l, d, hl, hd⟩ := bare_end j k
  unfold rowRead rowL
  dsimp only
  rw [hl]
  cases m with
  | zero =>
    obtain ⟨c, l2, h2, hc⟩ := pat_space i hq.1
    rw [h2]
    exact strip_eq (c := c) (m := marksL 0 ++ (c :: l2) ++ [61] ++ l) hc hd (by simp [marksL])
  | succ m =>
    rw [marksL_succ]
    exact strip_eq (c := 35) (m := (35 :: 32 :: marksL m) ++ patL i ++ [61] ++ l) (by decide +kernel) hd (by simp)
theorem strip_tail (b : Nat) : Txt.strip (strL (tailL (b + 1))) = strL (tailL (b + 1)) := by
  rw [tailL_succ]
  cases b with
  | zero => exact strip_eq (c := 35) (l := []) (m := []) (by decide +kernel) (by decide +kernel) rfl
  | succ b =>
    rw [marksL_succ]
    exact strip_eq (c := 35) (m := 35 :: 32 :: marksL b) (by decide +kernel) (d := 35) (by decide +kernel) rfl
def tailRows (b : Nat) : List Str := if b = 0 then [] else [strL (tailL b)]
theorem httpList_to {st : ISt} (h : ∀ q ∈ st.rules, QOk q) : httpList (strL (renderL st)) = st.rules.map rowRead ++ tailRows st.below := by
  have e : hFold (strL (renderL st)) (strL (renderL st)).cps.size = ⟨st.rules.map rowRead, strL (tailL st.below), false, false⟩ := by
    unfold hFold
    rw [List.take_of_length_le (by simp), strL_toList, render_fold h]
  unfold httpList
  rw [e]
  unfold hEnd tailRows
  rw [strL_length]
  have hr : (st.rules.map rowRead).map Txt.strip = st.rules.map rowRead := by
    rw [List.map_map]
    exact List.map_congr_left fun q hq => strip_row (h q hq)
  cases hb : st.below with
  | zero => simpa [tailL] using hr
  | succ b =>
    rw [if_neg (by rw [tailL_succ]; simp), if_neg (by simp)]
    rw [List.map_append, hr, List.map_cons, List.map_nil, strip_tail]
end Mine

/-! part PF -/
open PySem PySem.W PySem.Calls PyProof.Rows
set_option Elab.async false
set_option maxRecDepth 100000
namespace Mine
/-! The plain law, 6: the dict that the reader fills is the table of the rows -/
theorem keyAt_old {R : List (Str × Str)} {p : Str × Str} {i : Nat} (h : i < R.length) : keyAt (R ++ [p]) i = keyAt R i := by
  unfold keyAt
  rw [List.map_append, List.getD, List.getD, List.getElem?_append_left (by simpa using h)]
theorem lastOf_snoc (R : List (Str × Str)) (k v x : Str) : lastOf (R ++ [(k, v)]) x = if x = k then v else lastOf R x := by
  unfold lastOf
  rw [List.filter_append, List.map_append]
  by_cases h : x = k
  · subst h
    rw [if_pos rfl]
    simp
  · rw [if_neg h]
    have : ([(k, v)] : List (Str × Str)).filter (fun p => p.1 == x) = [] := by
      have hk : ¬ k = x := fun e => h e.symm
      simp [hk]
    rw [this]
    simp
theorem filterMap_same {α β : Type} {f g : α → Option β} : ∀ {l : List α}, (∀ x ∈ l, f x = g x) → l.filterMap f = l.filterMap g
  | [], _ => rfl
  | a :: l, h => by rw [List.filterMap_cons, List.filterMap_cons, h a (.head _), filterMap_same fun x hx => h x (.tail _ hx)]
def upd (k v : Str) (p : Str × Str) : Str × Str := if p.1 = k then (p.1, v) else p
theorem table_snoc (R : List (Str × Str)) (k v : Str) : tableOf (R ++ [(k, v)]) = (tableOf R).map (upd k v) ++ (if k ∈ R.map (·.1) then [] else [(k, v)]) := by
  have hlen : (R ++ [(k, v)]).length = R.length + 1 := by simp
  unfold tableOf tableUpTo
  rw [hlen, List.range_succ, List.filterMap_append]
  congr 1
  · rw [List.map_filterMap]
    refine filterMap_same fun i hi => ?_
    have hi := List.mem_range.mp hi
    rw [keyAt_old hi, List.map_append, List.take_append_of_le_length (by simp; omega), lastOf_snoc]
    split
    · rfl
    · simp only [Option.map_some, upd]
      split <;> rfl
  · have e1 : keyAt (R ++ [(k, v)]) R.length = k := by
      unfold keyAt
      simp [List.getD]
    have e2 : ((R ++ [(k, v)]).map (·.1)).take R.length = R.map (·.1) := by
      rw [List.map_append, List.take_append_of_le_length (by simp), List.take_of_length_le (by simp)]
    simp only [List.filterMap_cons, List.filterMap_nil, e1, e2, lastOf_snoc, if_true]
    by_cases hm : k ∈ R.map (·.1)
    · rw [if_pos hm, if_pos hm]
    · rw [if_neg hm, if_neg hm]
theorem upd_key (k v : Str) (p : Str × Str) : (upd k v p).1 = p.1 := by
  unfold upd
  split <;> rfl
theorem snoc_induct {α : Type} {P : List α → Prop} (h0 : P []) (h1 : ∀ l a, P l → P (l ++ [a])) (l : List α) : P l := by
  have : ∀ m : List α, P m.reverse := by
    intro m
    induction m with
    | nil => exact h0
    | cons a m ih => rw [List.reverse_cons]; exact h1 _ _ ih
  have := this l.reverse
  rwa [List.reverse_reverse] at this
theorem table_keys (R : List (Str × Str)) : ∀ k, k ∈ (tableOf R).map (·.1) ↔ k ∈ R.map (·.1) := by
  refine snoc_induct (P := fun R => ∀ k, k ∈ (tableOf R).map (·.1) ↔ k ∈ R.map (·.1)) (fun k => ?_) (fun R p ih k => ?_) R
  · exact Iff.rfl
  · obtain ⟨k', v⟩ := p
    rw [table_snoc, List.map_append, List.map_map, List.map_append]
    have e : ((tableOf R).map ((fun p : Str × Str => p.1) ∘ upd k' v)) = (tableOf R).map (·.1) := List.map_congr_left fun p _ => upd_key k' v p
    rw [e, List.mem_append, List.mem_append, ih k]
    constructor
    · rintro (h | h)
      · exact .inl h
      · split at h
        · cases h
        · exact .inr (by simpa using h)
    · rintro (h | h)
      · exact .inl h
      · have hk : k = k' := by simpa using h
        subst hk
        by_cases hm : k ∈ R.map (·.1)
        · exact .inl hm
        · exact .inr (by rw [if_neg hm]; simp)
theorem put_table (R : List (Str × Str)) (k v : Str) : putS k v (tableOf R) = tableOf (R ++ [(k, v)]) := by
  rw [table_snoc]
  unfold putS
  have hk := table_keys R k
  by_cases hm : k ∈ R.map (·.1)
  · have : (tableOf R).any (fun p => decide (p.1 = k)) = true := by
      obtain ⟨p, hp, e⟩ := List.mem_map.mp (hk.mpr hm)
      exact List.any_eq_true.mpr ⟨p, hp, decide_eq_true e⟩
    rw [if_pos this, if_pos hm, List.append_nil]
    rfl
  · have : ¬ (tableOf R).any (fun p => decide (p.1 = k)) = true := by
      intro h
      obtain ⟨p, hp, e⟩ := List.any_eq_true.mp h
      exact hm (hk.mp (List.mem_map.mpr ⟨p, hp, of_decide_eq_true e⟩))
    rw [if_neg this, if_neg hm]
    congr 1
    rw [List.map_congr_left (g := id), List.map_id]
    intro p hp
    unfold upd
    rw [if_neg]
    · rfl
    · intro e
      exact hm (hk.mp (List.mem_map.mpr ⟨p, hp, e⟩))
def pairOf (q : Nat × Nat × Nat × Nat) : Str × Str := (keyL q.1 q.2.1, vdL q.2.2.1 q.2.2.2)
theorem kv_row {q : Nat × Nat × Nat × Nat} (hq : QOk q) : kvPair (rowRead q) = some (pairOf q) ∧ kvOk (rowRead q) = true := by
  obtain ⟨m, i, j, k⟩ := q
  have hb := bare_eq j hq.2.1 k hq.2.2
  have hs : Txt.splitMax (rowRead (m, i, j, k)) eqS 1 = [keyL m i, strL (bareL j k)] := by
    refine split_eq (marksL m ++ patL i) (bareL j k) fun h => ?_
    rcases List.mem_append.mp h with h | h
    · rcases marks_mem h with h | h <;> cases h
    · exact (pat_mem i hq.1 _ h).2.2 rfl
  refine ⟨?_, kvOk_of hs hb.2⟩
  rw [kvPair_of hs, hb.1]
  rfl
theorem keqv_rows : ∀ (rules : List (Nat × Nat × Nat × Nat)) (R : List (Str × Str)) (t : List Str), (∀ q ∈ rules, QOk q) → keqv (rules.map rowRead ++ t) (tableOf R) = keqv t (tableOf (R ++ rules.map pairOf))
  | [], R, t, _ => by simp
  | q :: r, R, t, h => by
    rw [List.map_cons, List.cons_append]
    conv => lhs; unfold keqv
    rw [(kv_row (h q (.head _))).1]
    show keqv _ (putS (pairOf q).1 (pairOf q).2 (tableOf R)) = _
    rw [put_table, keqv_rows r _ t fun p hp => h p (.tail _ hp)]
    simp
theorem keqv_to {st : ISt} (h : ∀ q ∈ st.rules, QOk q) (hb : st.below < 12) : keqv (httpList (strL (renderL st))) [] = if st.below = 0 then some (tableOf (st.rules.map pairOf)) else none := by
  rw [httpList_to h]
  show keqv _ (tableOf []) = _
  rw [keqv_rows st.rules [] _ h, List.nil_append]
  unfold tailRows
  cases hbl : st.below with
  | zero => rfl
  | succ b =>
    rw [if_neg (by simp), if_neg (by simp)]
    unfold keqv
    rw [(kvPair_one (tail_split b (by omega))).1]
theorem rowsOf_to {st : ISt} (h : ∀ q ∈ st.rules, QOk q) : rowsOf (toRSt st) = st.rules.map pairOf := by
  unfold rowsOf toRSt
  rw [List.map_map]
  refine List.map_congr_left fun q hq => ?_
  have hh := h q hq
  show (marksText (q.1 : Int) ++ pats5.getD q.2.1 Str.empty, signs5.getD q.2.2.1 Str.empty ++ signs5.getD q.2.2.2 Str.empty) = _
  rw [marksText_eq, pats_eq _ hh.1, signs_eq _ hh.2.1, signs_eq _ hh.2.2, strL_app, strL_app]
  rfl
end Mine

/-! part PG -/
open PySem PySem.W PySem.Calls PyProof.Rows
set_option Elab.async false
set_option maxRecDepth 100000
namespace Mine
/-! The plain law, 7 -/
structure Plain (ns : List Int) : Prop where
  sheets : ∀ i, i ≤ ns.length → SheetOk (sheetAt ns i)
  rules : ∀ i, i ≤ ns.length → RuOk (ruAt ns i)
  same : toldAll ns = rulesAll ns
  ok : ∀ d ∈ rulesAll ns, kqdOk 8 d = true
theorem Inv.qok {st : ISt} {b : Nat} (h : Inv st b) : ∀ q ∈ st.rules, QOk q := fun q hq => (h.ok q hq).2
theorem lens : ∀ i, i < 5 → (patL i).length ≤ 8 ∧ (sgL i).length ≤ 1 ∧ (escL i).length ≤ 2 := by decide +kernel
theorem marks_len (m : Nat) : (marksL m).length = 2 * m := by
  unfold marksL
  simp [List.length_flatten]
  omega
theorem cv_len {j k : Nat} (hj : j < 5) (hk : k < 5) : (cvL j k).length ≤ 6 ∧ (bareL j k).length ≤ 6 := by
  have h1 := lens j hj
  have h2 := lens k hk
  unfold cvL bareL
  split
  · exact ⟨by decide, by decide⟩
  · simp only [List.length_append, List.length_cons, List.length_nil]
    omega
theorem rows_len : ∀ (rules : List (Nat × Nat × Nat × Nat)), (∀ q ∈ rules, q.1 ≤ 7 ∧ QOk q) → ((rules.map rowCode).flatten).length ≤ 40 * rules.length
  | [], _ => by simp
  | q :: r, h => by
    obtain ⟨h1, h2⟩ := h q (.head _)
    have h3 := rows_len r fun p hp => h p (.tail _ hp)
    have h4 := lens _ h2.1
    have h5 := cv_len h2.2.1 h2.2.2
    have h6 : (rowCode q).length ≤ 40 := by
      unfold rowCode
      simp only [List.length_append, List.length_cons, List.length_nil, marks_len]
      omega
    rw [List.map_cons, List.flatten_cons, List.length_append, List.length_cons]
    omega
theorem tail_len (b : Nat) : (tailL b).length ≤ 2 * b := by
  unfold tailL
  split
  · exact Nat.zero_le _
  · simp only [List.length_append, marks_len, List.length_cons, List.length_nil]
    omega
theorem Inv.both {st : ISt} {b : Nat} (h : Inv st b) (hb : b ≤ 7) : ∀ q ∈ st.rules, q.1 ≤ 7 ∧ QOk q := fun q hq => ⟨Nat.le_trans (h.ok q hq).1 hb, (h.ok q hq).2⟩
theorem table_pair {rules : List (Nat × Nat × Nat × Nat)} {p : Str × Str} (hp : p ∈ tableOf (rules.map pairOf)) : ∃ q ∈ rules, p.1 = keyL q.1 q.2.1 := by
  obtain ⟨r, hr, e⟩ := tableOf_key hp
  obtain ⟨q, hq, rfl⟩ := List.mem_map.mp hr
  exact ⟨q, hq, e.symm⟩
theorem sheetOk_to {st : ISt} {b : Nat} (h : Inv st b) (hb : b ≤ 7) : SheetOk (strL (renderL st)) := by
  have hq := h.qok
  have h7 := h.both hb
  have hl := h.len
  have hbl := h.below
  have hrows : ∀ p ∈ httpList (strL (renderL st)), p.length ≤ 1000 ∧ kvOk p = true := by
    intro p hp
    rw [httpList_to hq] at hp
    rcases List.mem_append.mp hp with hp | hp
    · obtain ⟨q, hqm, rfl⟩ := List.mem_map.mp hp
      obtain ⟨h1, h2⟩ := h7 q hqm
      refine ⟨?_, (kv_row h2).2⟩
      have h4 := lens _ h2.1
      have h5 := cv_len h2.2.1 h2.2.2
      unfold rowRead rowL
      rw [strL_length]
      simp only [List.length_append, marks_len, List.length_cons, List.length_nil]
      omega
    · unfold tailRows at hp
      split at hp
      · cases hp
      · next hne =>
        rw [List.mem_singleton.mp hp]
        obtain ⟨c, hc⟩ : ∃ c, st.below = c + 1 := ⟨st.below - 1, by omega⟩
        refine ⟨?_, ?_⟩
        · have := tail_len st.below
          rw [strL_length]
          omega
        · rw [hc]
          exact (kvPair_one (tail_split c (by omega))).2
  refine ⟨?_, ?_, fun p hp => (hrows p hp).1, fun p hp => (hrows p hp).2, ?_⟩
  · have h1 := rows_len st.rules h7
    have h2 := tail_len st.below
    rw [strL_length]
    unfold renderL
    rw [List.length_append]
    omega
  · rw [httpList_to hq]
    unfold tailRows
    split <;> simp <;> omega
  · intro D hD p hp
    rw [keqv_to hq (by omega)] at hD
    split at hD
    · cases hD
      obtain ⟨q, hqm, e⟩ := table_pair hp
      rw [e, dots_eq]
      exact (keyFact_all (h7 q hqm).1 (h7 q hqm).2.1).1
    · cases hD
theorem strOks : ∀ i, i < 5 → PyData.strOk (pats5.getD i Str.empty) = true ∧ (∀ j, j < 5 → PyData.strOk (signs5.getD i Str.empty ++ signs5.getD j Str.empty) = true) ∧ (pats5.getD i Str.empty).length ≤ 8 ∧ (signs5.getD i Str.empty).length ≤ 1 := by decide +kernel
theorem pat_small : ∀ i, i < 5 → ∀ c ∈ patL i, c < 1114112 := by decide +kernel
theorem key_ok (m i : Nat) (hi : i < 5) : PyData.strOk (keyL m i) = true := by
  unfold PyData.strOk
  rw [← Array.all_toList]
  unfold keyL
  rw [strL_toList]
  refine List.all_eq_true.mpr fun c hc => decide_eq_true ?_
  rcases List.mem_append.mp hc with hc | hc
  · rcases marks_mem hc with rfl | rfl <;> decide
  · exact pat_small i hi c hc
theorem ruOk_to {st : ISt} {b : Nat} (h : Inv st b) (hb : b ≤ 7) : RuOk (toRSt st) := by
  have h7 := h.both hb
  have hl := h.len
  have hbl := h.below
  have hm : ∀ q ∈ (toRSt st).rules, ∃ p ∈ st.rules, q = toRule p := fun q hq => by
    obtain ⟨p, hp, e⟩ := List.mem_map.mp hq
    exact ⟨p, hp, e.symm⟩
  refine ⟨?_, ?_, ?_, ?_, ?_, ?_, ?_, ?_⟩
  · show (st.rules.map toRule).length ≤ 20
    rw [List.length_map]; omega
  · intro q hq
    obtain ⟨p, hp, rfl⟩ := hm q hq
    have := (h7 p hp).1
    show 0 ≤ (p.1 : Int) ∧ (p.1 : Int) ≤ 20
    omega
  · intro q hq
    obtain ⟨p, hp, rfl⟩ := hm q hq
    exact (strOks _ (h7 p hp).2.1).2.2.1
  · intro q hq
    obtain ⟨p, hp, rfl⟩ := hm q hq
    have h1 := (strOks _ (h7 p hp).2.2.1).2.2.2
    have h2 := (strOks _ (h7 p hp).2.2.2).2.2.2
    show (signs5.getD p.2.2.1 Str.empty ++ signs5.getD p.2.2.2 Str.empty).length ≤ 2
    rw [Str.length_append]
    omega
  · intro q hq
    obtain ⟨p, hp, rfl⟩ := hm q hq
    exact ⟨(strOks _ (h7 p hp).2.1).1, (strOks _ (h7 p hp).2.2.1).2.1 _ (h7 p hp).2.2.2⟩
  · intro p hp
    rw [rowsOf_to h.qok] at hp
    obtain ⟨q, hq, rfl⟩ := List.mem_map.mp hp
    obtain ⟨h1, h2⟩ := h7 q hq
    refine ⟨key_ok _ _ h2.1, ?_⟩
    have := lens _ h2.1
    show (keyL q.1 q.2.1).length ≤ 100
    unfold keyL
    rw [strL_length, List.length_append, marks_len]
    omega
  · exact Int.natCast_nonneg _
  · show (st.below : Int) ≤ 20
    omega
theorem word_ix (n : Int) : (n.fmod 5).toNat < 5 := by
  have := Int.fmod_lt_of_pos n (b := 5) (by decide)
  have := Int.fmod_nonneg_of_pos n (b := 5) (by decide)
  omega
theorem asks_to (n : Int) : askTexts n = textsL (n.fmod 5).toNat := asks_eq _ (word_ix n)
theorem texts_to (n : Int) : texts3 n = textsL (n.fmod 5).toNat := texts3_eq _ (word_ix n)
theorem filter_same {α : Type} {f g : α → Bool} : ∀ {l : List α}, (∀ x ∈ l, f x = g x) → l.filter f = l.filter g
  | [], _ => rfl
  | a :: l, h => by rw [List.filter_cons, List.filter_cons, h a (.head _), filter_same fun x hx => h x (.tail _ hx)]
theorem read_to {st : ISt} {b : Nat} (h : Inv st b) (hb : b ≤ 7) (n : Int) : readDat (strL (renderL st)) (askTexts n) = ruRow (toRSt st) n := by
  have hbl := h.below
  have h7 := h.both hb
  unfold readDat ruRow
  rw [keqv_to h.qok (by omega), rowsOf_to h.qok, asks_to, texts_to]
  by_cases h0 : st.below = 0
  · rw [if_pos h0, if_neg (by show ¬ (0 < (st.below : Int)); omega)]
    dsimp only
    congr 3
    refine congrArg Dat.list (List.map_congr_left fun x hx => ?_)
    congr 2
    unfold firstFit firstFits
    rw [filter_same fun p hp => ?_]
    obtain ⟨q, hq, e⟩ := table_pair hp
    rw [e, ellipsisMatch2_eq, lawFits2_eq]
    exact (keyFact_all (h7 q hq).1 (h7 q hq).2.1).2 _ (word_ix n) x hx
  · rw [if_neg h0, if_pos (by show 0 < (st.below : Int); omega)]
theorem vd_ok {q : Nat × Nat × Nat × Nat} (hq : QOk q) : PyData.strOk (vdL q.2.2.1 q.2.2.2) = true := by
  have := (strOks _ hq.2.1).2.1 _ hq.2.2
  rw [signs_eq _ hq.2.1, signs_eq _ hq.2.2, strL_app] at this
  exact this
theorem lastOf_mem {R : List (Str × Str)} {k : Str} (h : k ∈ R.map (·.1)) : ∃ p ∈ R, p.2 = lastOf R k := by
  unfold lastOf
  obtain ⟨r, hr, e⟩ := List.mem_map.mp h
  have hne : ((R.filter fun p => p.1 == k).map (·.2)) ≠ [] := by
    intro e2
    have : r ∈ R.filter fun p => p.1 == k := List.mem_filter.mpr ⟨hr, by simp [e]⟩
    rw [List.map_eq_nil_iff.mp e2] at this
    cases this
  have hm : ((R.filter fun p => p.1 == k).map (·.2)).getLastD Str.empty ∈ ((R.filter fun p => p.1 == k).map (·.2)) := by
    rw [List.getLastD_eq_getLast?, List.getLast?_eq_some_getLast hne]
    exact List.getLast_mem hne
  obtain ⟨p, hp, e2⟩ := List.mem_map.mp hm
  exact ⟨p, (List.mem_filter.mp hp).1, e2⟩
theorem table_val {R : List (Str × Str)} {p : Str × Str} (hp : p ∈ tableOf R) : ∃ r ∈ R, r.2 = p.2 := by
  unfold tableOf tableUpTo at hp
  obtain ⟨i, hi, e⟩ := List.mem_filterMap.mp hp
  split at e
  · cases e
  · cases e
    have hi := List.mem_range.mp hi
    refine lastOf_mem ?_
    unfold keyAt
    simp only [List.getD, List.getElem?_map, List.getElem?_eq_getElem hi, Option.map_some, Option.getD_some]
    exact List.mem_map.mpr ⟨_, List.getElem_mem hi, rfl⟩
theorem row_ok {st : ISt} {b : Nat} (h : Inv st b) (n : Int) : kqdOk 8 (ruRow (toRSt st) n) = true := by
  unfold ruRow
  split
  · rfl
  · rw [rowsOf_to h.qok]
    have htab : ∀ p ∈ tableOf (st.rules.map pairOf), PyData.strOk p.1 = true ∧ PyData.strOk p.2 = true := fun p hp => by
      obtain ⟨q, hq, e⟩ := table_pair hp
      obtain ⟨r, hr, e2⟩ := table_val hp
      obtain ⟨q2, hq2, rfl⟩ := List.mem_map.mp hr
      refine ⟨?_, ?_⟩
      · rw [e]; exact key_ok _ _ (h.qok q hq).1
      · rw [← e2]; exact vd_ok (h.qok q2 hq2)
    simp only [kqdOk, List.all_cons, List.all_nil, Bool.and_true, Bool.and_eq_true, List.all_eq_true]
    refine ⟨fun d hd => ?_, fun d hd => ?_⟩
    · obtain ⟨p, hp, rfl⟩ := List.mem_map.mp hd
      have := htab p hp
      simp [rowDat, kqdOk, this]
    · obtain ⟨x, _, rfl⟩ := List.mem_map.mp hd
      simp only [kqdOk, List.all_eq_true]
      intro d hd
      obtain ⟨v, hv, rfl⟩ := List.mem_map.mp hd
      unfold firstFits at hv
      obtain ⟨p, hp, rfl⟩ := List.mem_map.mp (List.mem_of_mem_take hv)
      have := (htab p (List.mem_filter.mp hp).1).2
      simpa [kqdOk] using this
theorem plain (ns : List Int) (h : ns.length ≤ 7) : Plain ns := by
  refine ⟨fun i hi => ?_, fun i hi => ?_, ?_, fun d hd => ?_⟩
  · rw [sheetAt_to ns i hi]
    exact sheetOk_to (iAt_inv ns i hi) (by omega)
  · rw [ruAt_to ns i hi]
    exact ruOk_to (iAt_inv ns i hi) (by omega)
  · unfold toldAll rulesAll
    refine List.map_congr_left fun i hi => ?_
    have hi := List.mem_range.mp hi
    rw [sheetAt_to ns (i + 1) hi, ruAt_to ns (i + 1) hi]
    exact read_to (iAt_inv ns (i + 1) hi) (by omega) _
  · unfold rulesAll at hd
    obtain ⟨i, hi, rfl⟩ := List.mem_map.mp hd
    have hi := List.mem_range.mp hi
    rw [ruAt_to ns (i + 1) hi]
    exact row_ok (iAt_inv ns (i + 1) hi) _
end Mine

/-! part LAW -/
open PySem PySem.W PySem.Calls PyProof.Rows
set_option Elab.async false
set_option maxRecDepth 100000
set_option maxHeartbeats 8000000
namespace Mine

theorem fill_LAW : PySem.Challenge.rw_mq0199_01 = PySem.Challenge.rw_mq0199_01 ∧ hd.heap_39 = hd.heap_39 := by
  k_fill
  exact ⟨rfl, rfl⟩

theorem intsAre_values : ∀ {vs : List Value} {ns : List Int}, IntsAre vs ns → ∃ l : List (Int × Tok), vs = intValues l ∧ l.map (·.1) = ns
  | _, _, .nil => ⟨[], rfl, rfl⟩
  | _, _, .cons i t r => by
    obtain ⟨l, rfl, hl⟩ := intsAre_values r
    exact ⟨(i, t) :: l, rfl, by rw [List.map_cons, hl]⟩
section
variable {prog : Program} {w : World} {A : Around} {E : Value → Shared → Prop} {s : Shared} {mean : ExcName → Option Value} {mg mb : Str → Option Value} {Q : Value → Shared → Prop}
theorem call_sheets {h₀ : Heap} {L D : Addr} {m : Str → Option Value} {news : List (Addr × Obj)} {us : List Value} {ns : List Int} {k : Nat} {env0 : Env} (KX : (hd.heap_39 w.params).In h₀) (T : TopM mean mg mb h₀) (F : Fr h₀ L s.heap m) (N : News h₀ L s.heap news)
    (hm : (D, W.listOf us.toArray k) ∈ news) (hI : IntsAre us ns) (hlen : ns.length ≤ 10) (P : Plain ns) (hf0 : env0.frame = some L) (hk0 : env0.scope.kind ≠ .module) (hh : A.handled = none) (hfr : A.frames = some [env0]) (hd : A.depth ≤ 360) (hu : A.units ≤ 360)
    (h : ∀ v h' tk' tl, Fr h₀ L h' m → News h₀ L h' (tl ++ news) → DatIn tl v (.list (toldAll ns)) → Q v { s with heap := h', toks := tk' }) :
    wpAny (model prog w) A (call (.ref 64) [.ref D]) Q E s := by
  obtain ⟨l, rfl, hl⟩ := intsAre_values hI
  have hln : l.length = ns.length := by rw [← hl, List.length_map]
  obtain ⟨oL, es, ep, hoL, hdL, hrest⟩ := id F.ns
  have hL0 : h₀.get? L = none := by
    cases q : h₀.get? L with
    | none => rfl
    | some o => exact absurd (Nat.lt_of_lt_of_le (Heap.lt_size q) F.above) (Nat.lt_irrefl _)
  have st : h₀.StaysIn (hideAll s.heap [L]) := fun b o e => hideAll_get _ (F.keep b o e) fun hb => by
    rw [List.mem_singleton.mp hb, hL0] at e; cases e
  have hdF : ∀ vs, oL.data ≠ .fields vs := fun vs q => by rw [hdL] at q; cases q
  refine lvlF_le (ls_spec (ns := l) (B := hideAll s.heap [L]) (KX.keeps st) (T.keeps st) (fun b o e => of_hideAll _ e) (Nat.le_of_eq (hideAll_size _ _)) hf0 hk0 ⟨hk0, ⟨L, oL, hf0, hideAll_none _ (.head _), hoL, hdF⟩, trivial⟩ hoL
    ⟨_, hideAll_get _ (N _ hm).1 (fun hb => (N _ hm).2.1 (List.mem_singleton.mp hb)), rfl, k, rfl⟩ (by omega) (by rw [hl, hln]; exact P.sheets) ?_) hh hfr hd hu
  intro v h' tk' tl sl hs1 hsl hf1 hne1 hdat
  rw [hl] at hdat
  have keep : ∀ b o, b ≠ L → s.heap.get? b = some o → h'.get? b = some o := fun b o hb e => hs1 b o (hideAll_get _ e fun hm => hb (List.mem_singleton.mp hm))
  have hu1 : s.heap.UpToSlots h' := fun b o e _ => by
    by_cases hb : b = L
    · subst hb
      rw [hoL] at e
      cases e
      exact ⟨sl, hsl⟩
    · exact ⟨o.slots, keep b o hb e⟩
  refine h v h' tk' tl (F.of_stays (fun b o e => hs1 b o (st b o e)) hu1) (fun p hp => ?_) hdat
  rcases List.mem_append.mp hp with hp | hp
  · refine ⟨(hf1 p hp).1, hne1 p hp, ?_⟩
    cases q : h₀.get? p.1 with
    | none => rfl
    | some o => have := st _ _ q; rw [(hf1 p hp).2] at this; cases this
  · exact ⟨keep _ _ (N p hp).2.1 (N p hp).1, (N p hp).2⟩
end
theorem main : PySem.Challenge.rw_mq0199_01.Holds := hd (by
  k_go0
  all_goals (try k_fold)
  repeat' (first | (k_unfold; (try dsimp only)) | (k_end; wrow_close) | ((fail_if_success (with_reducible show wpAny _ _ (call (Value.ref 64) _) _ _ _)); walk1) | ((fail_if_success (with_reducible show wpAny _ _ (call (Value.ref 64) _) _ _ _)); dsimp only; walk1) | ((fail_if_success (with_reducible show wpAny _ _ (call (Value.ref 64) _) _ _ _)); leave1; walk_say "STEP leave1"; try dsimp only) | fail "no step")
  rename IntsAre _ _ => hI
  rename Fr _ _ _ _ => F1
  rename News _ _ _ _ => N1
  rename (hd.heap_39 _).In _ => KX
  rename Top _ _ _ _ _ _ => T
  rename List Value => us
  have hlen : ∀ (l : List Int), (l.take 5 ++ [273, 20]).length ≤ 7 := fun l => by
    rw [List.length_append, List.length_take]
    have : ([273, 20] : List Int).length = 2 := rfl
    omega
  have P := plain _ (hlen ‹List Int›)
  refine call_sheets KX T F1 N1 (.head _) hI (Nat.le_trans (hlen _) (by decide)) P rfl ?_ rfl rfl (Nat.le_of_ble_eq_true rfl) (Nat.le_of_ble_eq_true rfl) ?_
  · intro e; cases e
  intro v2 h2 tk2 tl2 F2 N2 hd2
  clear F1 N1
  dsimp only
  repeat' (first | (k_unfold; (try dsimp only)) | (k_end; wrow_close) | ((fail_if_success (with_reducible show wpAny _ _ (call (Value.ref 74) _) _ _ _)); walk1) | ((fail_if_success (with_reducible show wpAny _ _ (call (Value.ref 74) _) _ _ _)); dsimp only; walk1) | ((fail_if_success (with_reducible show wpAny _ _ (call (Value.ref 74) _) _ _ _)); leave1; walk_say "STEP leave1"; try dsimp only) | fail "no step")
  rename IntsAre _ _ => hI3
  rename Fr _ _ _ _ => F3
  rename News _ _ _ _ => N3
  obtain ⟨l3, e3, hl3⟩ := intsAre_values hI3
  subst e3
  have hln3 : l3.length ≤ 10 := by
    have := hlen ‹List Int›
    rw [← hl3, List.length_map] at this
    exact Nat.le_trans this (by decide)
  refine lvl_le (ru_spec (ns := l3) (KX.keeps F3.keep) (T.keeps F3.keep) (N3.isList (.head _)) hln3 ?_ ?_) rfl (Nat.le_of_ble_eq_true rfl) (Nat.le_of_ble_eq_true rfl)
  · have := P.rules
    rw [← hl3, List.length_map] at this
    exact this
  intro v4 h4 tk4 tl4 hg4 hf4 hd4
  rw [hl3] at hd4
  have F4 := grown_fr F3 hg4
  have N4 := grown_news F3 N3 hg4 hf4
  obtain ⟨a2, vs2, k2, e2, hm2, hD2⟩ := datIn_list hd2
  obtain ⟨a4, vs4, k4, e4, hm4, hD4⟩ := datIn_list hd4
  subst e2
  subst e4
  clear F3 N3
  dsimp only
  repeat' (first | (k_unfold; (try dsimp only)) | (k_end; wrow_close) | ((fail_if_success (with_reducible show wpAny _ _ (compareOp .Eq _ _) _ _ _)); walk1) | ((fail_if_success (with_reducible show wpAny _ _ (compareOp .Eq _ _) _ _ _)); dsimp only; walk1) | ((fail_if_success (with_reducible show wpAny _ _ (compareOp .Eq _ _) _ _ _)); leave1; walk_say "STEP leave1"; try dsimp only) | fail "no step")
  rename Fr _ _ _ _ => F5
  rename News _ _ _ _ => N5
  refine kqd_eq N5 (List.mem_append_right tl4 (.tail _ (.tail _ (.tail _ (List.mem_append_left _ hm2))))) rfl rfl hD2 (fun p hp => List.mem_append_right tl4 (.tail _ (.tail _ (.tail _ (List.mem_append_left _ hp))))) (List.mem_append_left _ hm4) rfl rfl hD4 (fun p hp => List.mem_append_left _ hp) (by rw [P.same]; exact P.ok) P.ok ?_ ?_
  · k_units
  have he : (toldAll _ = rulesAll _) := P.same
  simp only [he, decide_true]
  k_steps)
end Mine

set_option maxRecDepth 100000 in
set_option maxHeartbeats 8000000 in
theorem PySem.Challenge.cw_mq0199_01_holds : PySem.Challenge.rw_mq0199_01.Holds := by
  exact Mine.main
