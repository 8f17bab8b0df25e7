import PyProof.Rows.All
import Wide.All
import OpenK.AllK
import Wide.FinOn
import Lean
import PySem.Challenge.RW_pa0036_01
open PySem PySem.W PyProof.Rows
set_option Elab.async false
set_option linter.all false
namespace Mine
section
section
-- Hd
noncomputable def qv : Program := { PySem.Challenge.pw_pa0036_01 with main := { PySem.Challenge.pw_pa0036_01.main with body := PySem.Challenge.pw_pa0036_01.main.body.take 1 ++ PySem.Challenge.pw_pa0036_01.main.body.drop 36 } }
def looseL : List PySem.Str := ["_wall", "_twin_re_7", "unmatched", "HEADER_TOKEN_RE", "HEADER_QUOTED_VALUE_RE", "HEADER_VALUE_RE", "HEADER_ESCAPE_RE", "split_header_words", "HEADER_JOIN_TOKEN_RE", "HEADER_JOIN_ESCAPE_RE", "join_header_words", "strip_quotes", "bytes_types", "_bytes_from_decode_data", "Error", "_ascii_buffer", "_buffer", "_truth", "_B64", "_b64_value", "a2b_base64", "b2a_base64", "b64encode", "b64decode", "_law_signs", "_law_octets", "_law_whole", "_law_read", "_law_told", "_law_rows"].map PySem.Str.ofString
set_option maxRecDepth 100000 in
set_option maxHeartbeats 0 in
theorem wsaid : OpenLaw.wellSaid PySem.Challenge.rw_pa0036_01 = true := by kernel_rfl
local macro_rules
  | `(tactic| o_law) => `(tactic| refine holds_law Mine.wsaid fun said => ?_)
local macro_rules
  | `(tactic| o_head $H) => do
    let hw := Lean.mkIdent `hw
    let hc := Lean.mkIdent `hc
    `(tactic| (refine holds_open (q := Mine.qv) (loose := Mine.looseL) (Xt := fun s => xlAt Mine.qv [] s && recOk (RowW.records PySem.Challenge.rw_pa0036_01.row.toRowW) s) (XP := XL Mine.qv []) (Yf := Hook.obs $H) (Ya := Hook.val $H) (YP := Hook.says $H) (N := 3200) ?hl (Hook.of $H) (Hook.keeps $H) (fun s e => xl_of s (Bool.and_eq_true_iff.mp e).1) XL.keeps (by rfl) (by rfl) (by rfl) (fun s e => recFacts_of (Bool.and_eq_true_iff.mp e).2) (by rfl) (by assumption) (by decide +kernel) ⟨rfl, rfl, rfl, rfl, rfl, by decide +kernel⟩ ?$hw ?$hc; (case hl => (intro w; kernel_rfl))))
set_option maxRecDepth 100000 in
set_option maxHeartbeats 0 in
open_top hd for PySem.Challenge.rw_pa0036_01
end
end
section
local macro_rules | `(tactic| omega) => `(tactic| lia)
section
-- Base
/-- what a frame's map holds at the names of a list -/
def Pins (m : Str → Option Value) : List (Str × Value) → Prop
  | [] => True
  | (x, v) :: r => m x = some v ∧ Pins m r
/-- a map with the list's names on top -/
def over (ps : List (Str × Value)) (m : Str → Option Value) : Str → Option Value := fun y => (ps.lookup y).or (m y)
theorem over_pins {m : Str → Option Value} : ∀ {ps : List (Str × Value)}, Pins m ps → over ps m = m
  | [], _ => by funext y; rfl
  | (x, v) :: r, ⟨h, hr⟩ => by
    funext y
    have ih := congrFun (over_pins hr) y
    unfold over at ih ⊢
    rw [List.lookup_cons]
    by_cases e : y = x
    · subst e; simp [h]
    · have : (y == x) = false := by simpa using e
      simpa [this] using ih

section
variable {prog : Program} {w : World} {A : Around} {E : Value → Shared → Prop} {s : Shared} {g : Heap} {m : Str → Option Value} {news : List (Addr × Obj)}

theorem Fr_stays {L : Addr} {h h' : Heap} (F : Fr g L h m) (k : h.StaysIn h') : Fr g L h' m := ⟨F.ns.keeps k, fun b o e => k b o (F.keep b o e), F.above⟩
theorem News_stays {L : Addr} {h h' : Heap} (N : News g L h news) (k : h.StaysIn h') : News g L h' news := fun p hp => ⟨k _ _ (N p hp).1, (N p hp).2⟩
theorem News_sub {L : Addr} {h : Heap} {news' : List (Addr × Obj)} (N : News g L h news) (k : ∀ p ∈ news', p ∈ news) : News g L h news' := fun p hp => N p (k p hp)

def IsIt (l : Addr) (i : Nat) (o : Obj) : Prop := o.cls = .type "list_iterator" ∧ o.data = .fields #[.ref l, .int i 0]

/-- what a turn of a loop must leave -/
def TurnEnd {σ : Type} (g : Heap) (L : Addr) (s : Shared) (It : Addr) (oi : Obj) (I : σ → Prop) (ps : σ → List (Str × Value)) (nw : σ → List (Addr × Obj)) (s' : Shared) : Prop :=
  ∃ st' m₂ news₂ h' tk', s' = { s with heap := h', toks := tk' } ∧ Fr g L h' m₂ ∧ News g L h' news₂ ∧ I st' ∧ Pins m₂ (ps st') ∧ (∀ p ∈ nw st', p.1 ≠ It) ∧ (∀ p ∈ (It, oi) :: nw st', p ∈ news₂)
theorem TurnEnd.intro {σ : Type} {g : Heap} {L : Addr} {s : Shared} {It : Addr} {oi : Obj} {I : σ → Prop} {ps : σ → List (Str × Value)} {nw : σ → List (Addr × Obj)} {m₂ : Str → Option Value} {news₂ : List (Addr × Obj)} {h' : Heap} {tk' : Nat}
    (st' : σ) (F : Fr g L h' m₂) (N : News g L h' news₂) (hI : I st') (hp : Pins m₂ (ps st')) (hne : ∀ p ∈ nw st', p.1 ≠ It) (hs : ∀ p ∈ (It, oi) :: nw st', p ∈ news₂) :
    TurnEnd g L s It oi I ps nw { s with heap := h', toks := tk' } := ⟨st', m₂, news₂, h', tk', rfl, F, N, hI, hp, hne, hs⟩
def TurnPost {σ : Type} (g : Heap) (L : Addr) (s : Shared) (It : Addr) (oi : Obj) (I : σ → Prop) (ps : σ → List (Str × Value)) (nw : σ → List (Addr × Obj)) (Q : Flow → Shared → Prop) (f : Flow) (s' : Shared) : Prop :=
  match f with
  | .next | .cont => TurnEnd g L s It oi I ps nw s'
  | .brk => Q .next s'
  | .ret v => Q (.ret v) s'

/-- a for loop over a list, by an invariant over states of a type of one's own -/
theorem iter_list {σ : Type} {env : Env} {x : Str} {px : Pos} {body : List Stmt} {Q : Flow → Shared → Prop} {Ec : Value → Shared → Prop} {L l : Addr} {items : Array Value}
    (I : Nat → σ → Prop) (ps : σ → List (Str × Value)) (nw : σ → List (Addr × Obj)) (st₀ : σ)
    (hh : A.handled = none) (F : Fr g L s.heap m) (N : News g L s.heap news)
    (hl : ∀ h m' st, Fr g L h m' → News g L h (nw st) → h.IsList l items)
    (hI : I 0 st₀) (hp : Pins m (ps st₀)) (hn : ∀ p ∈ nw st₀, p ∈ news)
    (turn : ∀ i st v m' h tk It oi, (∀ p ∈ news, p.1 < It) → IsIt l (i + 1) oi → items[i]? = some v → I i st → (∀ p ∈ nw st, p.1 ≠ It) → Fr g L h (fun y => if y = x then some v else over (ps st) m' y) → News g L h ((It, oi) :: nw st) →
      wpAny (model prog w) A (execs body env) (TurnPost g L s It oi (I (i + 1)) ps nw Q) (fun _ _ => False) { s with heap := h, toks := tk })
    (done : ∀ st m' h tk, I items.size st → Fr g L h (over (ps st) m') → News g L h (nw st) → Q .next { s with heap := h, toks := tk })
    (hL : env.locals = L) (hx : env.kindOf x = some .local) (hc : (env.scope.kind == .class || (env.scope.kind == .module && env.locals != env.globals)) = false) :
    wpAny (model prog w) A (pyIter (.ref l)) (fun it s₂ => codeAny (model prog w) A (.forLoop (.Name x px) it body [] env) (fun r s' => match r with | .ok f => Q f s' | .error e => Ec e s') s₂) E s := by
  subst hL
  have hls : s.heap.IsList l items := hl _ _ st₀ F (News_sub N hn)
  refine wpAny_pyIter_list hls ?_
  have hne : l ≠ s.heap.objs.size := by obtain ⟨o, ho, _⟩ := hls; exact Nat.ne_of_lt (Heap.lt_size ho)
  have hIt : ∀ p ∈ news, p.1 < s.heap.objs.size := fun p hp => Heap.lt_size (N p hp).1
  have hLI : env.locals ≠ s.heap.objs.size := Nat.ne_of_lt F.ns.lt
  have fresh : g.get? s.heap.objs.size = none := by
    cases e : g.get? s.heap.objs.size with
    | none => rfl
    | some o => exact absurd (Heap.lt_size (F.keep _ _ e)) (Nat.lt_irrefl _)
  have atI : (s.heap.push { cls := .type "list_iterator", data := .fields #[.ref l, .int 0 0] }).get? s.heap.objs.size = some { cls := .type "list_iterator", data := .fields #[.ref l, .int 0 0] } := Heap.get?_push_size _ rfl
  generalize s.heap.objs.size = It at *
  refine codeAny_forLoop_any (fun n s' => ∃ i st m' h tk oi, n = items.size + 1 - i ∧ i ≤ items.size ∧ s' = { s with heap := h, toks := tk } ∧ I i st ∧ Fr g env.locals h m' ∧ Pins m' (ps st) ∧ IsIt l i oi ∧ (∀ p ∈ nw st, p.1 ≠ It) ∧ News g env.locals h ((It, oi) :: nw st)) ?_ (items.size + 1)
    ⟨0, st₀, m, _, s.toks, { cls := .type "list_iterator", data := .fields #[.ref l, .int 0 0] }, rfl, Nat.zero_le _, rfl, hI, F.push _, hp, ⟨rfl, rfl⟩, fun p hp => Nat.ne_of_lt (hIt p (hn p hp)), ?_⟩
  · rintro n s' ⟨i, st, m', h, tk, oi, rfl, hi, rfl, hIi, F', hP', hoi, hnI, N'⟩
    have hl' : h.IsList l items := hl _ _ st F' (News_sub N' fun p hp => .tail _ hp)
    have hit : h.IsListIter It l i := ⟨_, (N' _ (.head _)).1, hoi⟩
    by_cases hlt : i < items.size
    · refine wpAny_pyNext_list_item hit hl' (x := items[i]) (by simp [hlt]) fun h₁ hit₁ hs₁ => ?_
      have keep₁ : ∀ b o, b ≠ It → h.get? b = some o → h₁.get? b = some o := fun b o hb e => hs₁.extBut b o hb e
      refine wpAny_pure ?_
      have n₁ : h₁.Ns env.locals m' := F'.ns.at' fun o e => keep₁ _ o hLI e
      refine wpAny_assign_Name (wpAny_storeName_local hx n₁ (fun h₂ hn₂ hs₂ => ?_) hc)
      have F₂ : Fr g env.locals h₂ (fun y => if y = x then some items[i] else m' y) := ⟨hn₂, fun b o e => hs₂.extBut b o (Nat.ne_of_lt (Nat.lt_of_lt_of_le (Heap.lt_size e) F.above)) (keep₁ b o (fun q => by rw [q, fresh] at e; cases e) (F'.keep b o e)), F.above⟩
      obtain ⟨o, ho, hoi₁⟩ := hit₁
      have N₂ : News g env.locals h₂ ((It, o) :: nw st) := by
        intro p hp
        rcases List.mem_cons.mp hp with rfl | hp
        · exact ⟨hs₂.extBut It o hLI.symm ho, hLI.symm, fresh⟩
        · have P := N' p (.tail _ hp)
          exact ⟨hs₂.extBut _ _ P.2.1 (keep₁ _ _ (hnI p hp) P.1), P.2⟩
      have hov : over (ps st) m' = m' := over_pins hP'
      have F₃ : Fr g env.locals h₂ (fun y => if y = x then some items[i] else over (ps st) m' y) := by rw [hov]; exact F₂
      refine wpAny_mono (turn i st items[i] m' h₂ _ It o hIt hoi₁ (by simp [hlt]) hIi hnI F₃ N₂) (fun f s₃ h₃ => ?_) fun _ _ e => e.elim
      cases f with
      | next =>
        obtain ⟨st', m₂, news₂, h', tk', rfl, F₄, N₄, I₄, P₄, ne₄, S₄⟩ := h₃
        exact ⟨items.size + 1 - (i + 1), by omega, i + 1, st', m₂, h', tk', o, rfl, hlt, rfl, I₄, F₄, P₄, hoi₁, ne₄, News_sub N₄ S₄⟩
      | cont =>
        obtain ⟨st', m₂, news₂, h', tk', rfl, F₄, N₄, I₄, P₄, ne₄, S₄⟩ := h₃
        exact ⟨items.size + 1 - (i + 1), by omega, i + 1, st', m₂, h', tk', o, rfl, hlt, rfl, I₄, F₄, P₄, hoi₁, ne₄, News_sub N₄ S₄⟩
      | brk => exact h₃
      | ret v => exact h₃
    · have hie : i = items.size := by omega
      subst hie
      refine wpAny_pyNext_list_end hh hit hl' (by simp) fun h₁ he₁ => ?_
      refine wpAny_execs_nil (done st m' h₁ tk hIi ?_ ?_)
      · rw [over_pins hP']
        exact ⟨F'.ns.at' fun o e => he₁ _ o hLI e, fun b o e => he₁ b o (fun q => by rw [q, fresh] at e; cases e) (F'.keep b o e), F.above⟩
      · intro p hp
        have P := N' p (.tail _ hp)
        exact ⟨he₁ _ _ (hnI p hp) P.1, P.2⟩
  · intro p hp
    rcases List.mem_cons.mp hp with rfl | hp
    · exact ⟨atI, hLI.symm, fresh⟩
    · have P := N p (hn p hp)
      exact ⟨Heap.get?_push_of_some _ P.1, P.2⟩

/-- the same over bytes -/
theorem iter_bytes {σ : Type} {env : Env} {x : Str} {px : Pos} {body : List Stmt} {Q : Flow → Shared → Prop} {Ec : Value → Shared → Prop} {L : Addr} {b : Array UInt8} {tb : Tok}
    (I : Nat → σ → Prop) (ps : σ → List (Str × Value)) (nw : σ → List (Addr × Obj)) (st₀ : σ)
    (hh : A.handled = none) (F : Fr g L s.heap m) (N : News g L s.heap news)
    (hI : I 0 st₀) (hp : Pins m (ps st₀)) (hn : ∀ p ∈ nw st₀, p ∈ news)
    (turn : ∀ i st (c : UInt8) u m' h tk It oi, (∀ p ∈ news, p.1 < It) → b[i]? = some c → I i st → (∀ p ∈ nw st, p.1 ≠ It) → Fr g L h (fun y => if y = x then some (.int c.toNat u) else over (ps st) m' y) → News g L h ((It, oi) :: nw st) →
      wpAny (model prog w) A (execs body env) (TurnPost g L s It oi (I (i + 1)) ps nw Q) (fun _ _ => False) { s with heap := h, toks := tk })
    (done : ∀ st m' h tk, I b.size st → Fr g L h (over (ps st) m') → News g L h (nw st) → Q .next { s with heap := h, toks := tk })
    (hL : env.locals = L) (hx : env.kindOf x = some .local) (hc : (env.scope.kind == .class || (env.scope.kind == .module && env.locals != env.globals)) = false) :
    wpAny (model prog w) A (pyIter (.bytes b tb)) (fun it s₂ => codeAny (model prog w) A (.forLoop (.Name x px) it body [] env) (fun r s' => match r with | .ok f => Q f s' | .error e => Ec e s') s₂) E s := by
  subst hL
  refine KBw.pyIter_bytes ?_
  have W := KBw.walks (prog := prog) (w := w) hh s.heap.objs.size b tb
  have hIt : ∀ p ∈ news, p.1 < s.heap.objs.size := fun p hp => Heap.lt_size (N p hp).1
  have hLI : env.locals ≠ s.heap.objs.size := Nat.ne_of_lt F.ns.lt
  have fresh : g.get? s.heap.objs.size = none := by
    cases e : g.get? s.heap.objs.size with
    | none => rfl
    | some o => exact absurd (Heap.lt_size (F.keep _ _ e)) (Nat.lt_irrefl _)
  have atI : (s.heap.push { cls := .type "bytes_iterator", data := .fields #[.bytes b tb, .int 0 0] }).get? s.heap.objs.size = some { cls := .type "bytes_iterator", data := .fields #[.bytes b tb, .int 0 0] } := Heap.get?_push_size _ rfl
  generalize s.heap.objs.size = It at *
  refine codeAny_forLoop_any (fun n s' => ∃ i st m' h tk oi, n = b.size + 1 - i ∧ i ≤ b.size ∧ s' = { s with heap := h, toks := tk } ∧ I i st ∧ Fr g env.locals h m' ∧ Pins m' (ps st) ∧ (oi.cls = .type "bytes_iterator" ∧ oi.data = .fields #[.bytes b tb, .int i 0]) ∧ (∀ p ∈ nw st, p.1 ≠ It) ∧ News g env.locals h ((It, oi) :: nw st)) ?_ (b.size + 1)
    ⟨0, st₀, m, _, s.toks, { cls := .type "bytes_iterator", data := .fields #[.bytes b tb, .int 0 0] }, rfl, Nat.zero_le _, rfl, hI, F.push _, hp, ⟨rfl, rfl⟩, fun p hp => Nat.ne_of_lt (hIt p (hn p hp)), ?_⟩
  · rintro n s' ⟨i, st, m', h, tk, oi, rfl, hi, rfl, hIi, F', hP', hoi, hnI, N'⟩
    have hit : KBw.IsBytesIter h It b tb i := ⟨_, (N' _ (.head _)).1, hoi⟩
    by_cases hlt : i < b.size
    · refine W.item i _ _ _ hlt hit fun v h₁ tk₁ hv hit₁ hk₁ => ?_
      obtain ⟨c, u, hc1, rfl⟩ := hv
      have keep₁ : ∀ b o, b ≠ It → h.get? b = some o → h₁.get? b = some o := fun b o hb e => hk₁ b o (fun q => hb (List.mem_singleton.mp q)) e
      refine wpAny_pure ?_
      have n₁ : h₁.Ns env.locals m' := F'.ns.at' fun o e => keep₁ _ o hLI e
      refine wpAny_assign_Name (wpAny_storeName_local hx n₁ (fun h₂ hn₂ hs₂ => ?_) hc)
      have F₂ : Fr g env.locals h₂ (fun y => if y = x then some (.int c.toNat u) else m' y) := ⟨hn₂, fun b o e => hs₂.extBut b o (Nat.ne_of_lt (Nat.lt_of_lt_of_le (Heap.lt_size e) F.above)) (keep₁ b o (fun q => by rw [q, fresh] at e; cases e) (F'.keep b o e)), F.above⟩
      obtain ⟨o, ho, hoi₁⟩ := hit₁
      have N₂ : News g env.locals h₂ ((It, o) :: nw st) := by
        intro p hp
        rcases List.mem_cons.mp hp with rfl | hp
        · exact ⟨hs₂.extBut It o hLI.symm ho, hLI.symm, fresh⟩
        · have P := N' p (.tail _ hp)
          exact ⟨hs₂.extBut _ _ P.2.1 (keep₁ _ _ (hnI p hp) P.1), P.2⟩
      have hov : over (ps st) m' = m' := over_pins hP'
      have F₃ : Fr g env.locals h₂ (fun y => if y = x then some (.int c.toNat u) else over (ps st) m' y) := by rw [hov]; exact F₂
      refine wpAny_mono (turn i st c u m' h₂ _ It o hIt hc1 hIi hnI F₃ N₂) (fun f s₃ h₃ => ?_) fun _ _ e => e.elim
      cases f with
      | next =>
        obtain ⟨st', m₂, news₂, h', tk', rfl, F₄, N₄, I₄, P₄, ne₄, S₄⟩ := h₃
        exact ⟨b.size + 1 - (i + 1), by omega, i + 1, st', m₂, h', tk', o, rfl, hlt, rfl, I₄, F₄, P₄, hoi₁, ne₄, News_sub N₄ S₄⟩
      | cont =>
        obtain ⟨st', m₂, news₂, h', tk', rfl, F₄, N₄, I₄, P₄, ne₄, S₄⟩ := h₃
        exact ⟨b.size + 1 - (i + 1), by omega, i + 1, st', m₂, h', tk', o, rfl, hlt, rfl, I₄, F₄, P₄, hoi₁, ne₄, News_sub N₄ S₄⟩
      | brk => exact h₃
      | ret v => exact h₃
    · have hie : i = b.size := by omega
      subst hie
      refine W.done _ _ _ hit fun h₁ tk₁ hk₁ => ?_
      have he₁ : ∀ b o, b ≠ It → h.get? b = some o → h₁.get? b = some o := fun b o hb e => hk₁ b o (fun q => hb (List.mem_singleton.mp q)) e
      refine wpAny_execs_nil (done st m' h₁ tk₁ hIi ?_ ?_)
      · rw [over_pins hP']
        exact ⟨F'.ns.at' fun o e => he₁ _ o hLI e, fun b o e => he₁ b o (fun q => by rw [q, fresh] at e; cases e) (F'.keep b o e), F.above⟩
      · intro p hp
        have P := N' p (.tail _ hp)
        exact ⟨he₁ _ _ (hnI p hp) P.1, P.2⟩
  · intro p hp
    rcases List.mem_cons.mp hp with rfl | hp
    · exact ⟨atI, hLI.symm, fresh⟩
    · have P := N p (hn p hp)
      exact ⟨Heap.get?_push_of_some _ P.1, P.2⟩

theorem intsAre_at : ∀ {vs : List Value} {ns : List Int} (_ : IntsAre vs ns) {i : Nat} {v : Value}, vs[i]? = some v → ∃ n t, v = .int n t ∧ ns[i]? = some n ∧ i < ns.length := by
  intro vs ns h i v hv
  have hl := IntsAre.length h
  have hi : i < vs.length := by
    rcases Nat.lt_or_ge i vs.length with q | q
    · exact q
    · rw [List.getElem?_eq_none q] at hv; cases hv
  have hn : ns[i]? = some (ns[i]'(by omega)) := List.getElem?_eq_getElem (by omega)
  obtain ⟨t, ht⟩ := IntsAre.get h i _ hn
  rw [ht] at hv
  cases hv
  exact ⟨_, t, rfl, hn, by omega⟩
theorem intsAre_snoc : ∀ {vs : List Value} {ns : List Int} (_ : IntsAre vs ns) (n : Int) (t : Tok), IntsAre (vs ++ [.int n t]) (ns ++ [n]) := by
  intro vs ns h n t
  induction h with
  | nil => exact .cons n t .nil
  | cons a u _ ih => exact .cons a u ih
theorem ne_one {a It : Addr} {o : Obj} (h : a < It) : ∀ p ∈ [(a, o)], p.1 ≠ It := fun p hp => by rw [List.mem_singleton.mp hp]; exact Nat.ne_of_lt h
/-- a call of a def of the text that does not raise: the heap it is called in is kept whole -/
theorem call_ret {K : Frag} {p : Program} {loose : List Str} {mg mb : Str → Option Value} {mean : ExcName → Option Value}
    {R : Result → Shared → Prop} {name qual : Str} {params : Arguments} {body : List Stmt} {scope : Scope} {dV kV doc pm cdv ct oc : Value} {an od : Option Addr} {osl : Array (Option Value)} {f : Addr} {args : Args} {binds : List (Str × Value)}
    (X : K.In s.heap) (T : Top p loose mean mg mb s.heap)
    (ho : K.lookup f = some ⟨oc, od, .func (fnOf name qual params body scope dV kV doc pm an cdv ct), osl⟩) (hcd : codeIn K cdv qual = true) (hroom : A.depth < recursionLimit)
    (hbind : BindsTo s (fnOf name qual params body scope dV kV doc pm an cdv ct) args binds) (hloc : ∀ y ∈ binds, scope.names.lookup y.1 = some .local)
    (h : ∀ L h₁ tk, Fr s.heap L h₁ (fun y => binds.reverse.lookup y) → News s.heap L h₁ [] →
      wpAny (model prog w) (A.deeper (envOf qual scope L f cdv)) (execs body (envOf qual scope L f cdv))
        (fun fl s' => R (.ok (.ret (match fl with | .ret v => v | _ => .none))) s')
        (fun _ _ => False)
        { s with heap := h₁, toks := tk })
    (hco : scope.isCoroutine = false) (hgen : scope.isGenerator = false) (hk : scope.kind = .function)
    (hcell : ∀ x ∈ scope.names, x.2 ≠ .cell) : codeAny (model prog w) A (.call (.ref f) args) R s := by
  refine codeAny_call_def (fd := fnOf name qual params body scope dV kV doc pm an cdv ct) (body := body) (binds := binds) hroom (X _ _ ho) rfl T.nolimit (codeRec_of X hcd) rfl hbind hcell hloc (fun h₁ hns hk₁ => ?_) hco hgen hk
  exact wpAny_mono (h s.heap.objs.size h₁ _ ⟨hns, fun b o e => hk₁ b o e, Nat.le_refl _⟩ News.nil) (fun _ _ x => x) fun _ _ x => x.elim
end
end
section
-- Sre1
open PySem.Sre

def stepN : Nat → M → M
  | 0, m => m
  | n + 1, m => stepN n m.step
theorem step_done {m : M} (h : m.outcome.isSome = true) : m.step = m := by unfold M.step; rw [if_pos h]
theorem stepN_done {m : M} (h : m.outcome.isSome = true) : ∀ n, stepN n m = m
  | 0 => rfl
  | n + 1 => by rw [stepN, step_done h, stepN_done h n]
theorem runFor_eq : ∀ n (m : M), M.runFor n m = stepN n m
  | 0, _ => rfl
  | n + 1, m => by
    rw [M.runFor, stepN]
    by_cases h : m.outcome.isSome = true
    · rw [if_pos h, step_done h, stepN_done h]
    · rw [if_neg h, runFor_eq n]
theorem stepN_add : ∀ a b (m : M), stepN (a + b) m = stepN b (stepN a m)
  | 0, b, m => by rw [Nat.zero_add]; rfl
  | a + 1, b, m => by rw [Nat.add_right_comm, stepN, stepN, stepN_add a b]

/-- within k steps the machine comes to a state of which P holds -/
def Lands (k : Nat) (m : M) (P : M → Prop) : Prop := ∃ n, n ≤ k ∧ P (stepN n m)
theorem Lands.now {k : Nat} {m : M} {P : M → Prop} (h : P m) : Lands k m P := ⟨0, Nat.zero_le _, h⟩
theorem Lands.step {k : Nat} {m : M} {P : M → Prop} (h : Lands k m.step P) : Lands (k + 1) m P := let ⟨n, hn, hp⟩ := h; ⟨n + 1, by omega, hp⟩
theorem Lands.mono {k k' : Nat} {m : M} {P : M → Prop} (h : Lands k m P) (hk : k ≤ k') : Lands k' m P := let ⟨n, hn, hp⟩ := h; ⟨n, Nat.le_trans hn hk, hp⟩
theorem Lands.and_then {k k' : Nat} {m : M} {P Q : M → Prop} (h : Lands k m P) (h2 : ∀ m', P m' → Lands k' m' Q) : Lands (k + k') m Q := by
  obtain ⟨n, hn, hp⟩ := h
  obtain ⟨n', hn', hq⟩ := h2 _ hp
  exact ⟨n + n', by omega, by rw [stepN_add]; exact hq⟩
theorem Lands.weaken {k : Nat} {m : M} {P Q : M → Prop} (h : Lands k m P) (h2 : ∀ m', P m' → Q m') : Lands k m Q := let ⟨n, hn, hp⟩ := h; ⟨n, hn, h2 _ hp⟩

theorem drive {Mo : Model} {A : Around} {E : Value → Shared → Prop} {s : Shared} {Q : M → Shared → Prop} {P : M → Prop} : ∀ {turns k : Nat} {m : M}, Lands k m (fun m' => m'.outcome.isSome = true ∧ P m') → k < 4 * turns →
    (∀ m', m'.outcome.isSome = true → P m' → Q m' s) → wpAny Mo A (Builtin.Re.reDrive turns m) Q E s
  | 0, k, m, _, hk, _ => absurd hk (by omega)
  | t + 1, k, m, ⟨n, hn, ho, hp⟩, hk, hQ => by
    rw [Builtin.Re.reDrive]
    show wpAny Mo A (if (M.runFor 4 m).outcome.isSome = true then pure (M.runFor 4 m) else do rule "sre.turn"; Builtin.Re.reDrive t (M.runFor 4 m)) Q E s
    rw [runFor_eq]
    by_cases h : (stepN 4 m).outcome.isSome = true
    · rw [if_pos h]
      refine wpAny_pure ?_
      have e : stepN 4 m = stepN n m := by
        by_cases hn4 : n ≤ 4
        · have : stepN 4 m = stepN (4 - n) (stepN n m) := by rw [← stepN_add]; congr 1; omega
          rw [this, stepN_done ho]
        · have : stepN n m = stepN (n - 4) (stepN 4 m) := by rw [← stepN_add]; congr 1; omega
          rw [this, stepN_done h]
      rw [e]; exact hQ _ ho hp
    · rw [if_neg h]
      have hn4 : ¬ n ≤ 4 := fun q => h (by
        have : stepN 4 m = stepN (4 - n) (stepN n m) := by rw [← stepN_add]; congr 1; omega
        rw [this, stepN_done ho]; exact ho)
      have e : stepN n m = stepN (n - 4) (stepN 4 m) := by rw [← stepN_add]; congr 1; omega
      refine wpAny_bind (wpAny_rule (drive (k := k - 4) ⟨n - 4, by omega, ?_⟩ (by omega) hQ))
      rw [← e]; exact ⟨ho, hp⟩

def isInfo : Option Op → Bool
  | some .INFO => true
  | _ => false
theorem info_at : ∀ n : Nat, isInfo ops[n]? = true → n = 14 := by
  intro n h
  by_cases hlt : n < 43
  · revert h; revert n; decide
  · have : ops[n]? = none := Array.getElem?_eq_none (by show 43 ≤ n; omega)
    rw [this] at h; cases h
theorem noFirst {m : M} (hf : (m.code.getD 0 0 == 14 && m.code.getD 2 0 == 4) = false) : m.hasFirstSet = false := by
  unfold M.hasFirstSet
  split
  · rename_i heq
    have h14 : m.code.getD 0 0 = 14 := info_at _ (by rw [heq]; rfl)
    rw [h14] at hf
    simpa using hf
  · rfl
section
variable {C T : Array Nat} {lim st ls pc pos hd wg k : Nat} {wt ma om : Bool} {mk : Array (Option Nat)} {lm li : Int} {lp : Array Loop} {inn : Option Nat} {fr : List Sre.Frame} {sn : Sre.Seen} {P : M → Prop}

theorem L_at0 (hpc : pc < C.size) (h0 : C.getD pc 0 = 6) (h1 : C.getD (pc + 1) 0 = 0) (hp : pos = 0)
    (h : ∀ sn, Lands k (M.mk C T lim st ls wt ma (pc + 2) pos hd om mk lm li lp inn fr wg none sn none) P) :
    Lands (k + 1) (M.mk C T lim st ls wt ma pc pos hd om mk lm li lp inn fr wg none sn none) P := by
  refine Lands.step ?_
  have e : ∃ sn', M.step (M.mk C T lim st ls wt ma pc pos hd om mk lm li lp inn fr wg none sn none) = (M.mk C T lim st ls wt ma (pc + 2) pos hd om mk lm li lp inn fr wg none sn' none) := by
    unfold M.step
    simp only [Option.isSome_none, Bool.false_eq_true, if_false, if_pos hpc]
    unfold M.exec
    simp only [M.word, Nat.add_zero, h0, show ops[6]? = some Op.AT from rfl, h1, M.isAt]
    simp [hp]
  obtain ⟨sn', e⟩ := e
  rw [e]; exact h sn'
theorem L_at0_no (hpc : pc < C.size) (h0 : C.getD pc 0 = 6) (h1 : C.getD (pc + 1) 0 = 0) (hp : pos ≠ 0)
    (h : ∀ sn, Lands k (M.mk C T lim st ls wt ma pc pos hd om mk lm li lp inn fr wg (some false) sn none) P) :
    Lands (k + 1) (M.mk C T lim st ls wt ma pc pos hd om mk lm li lp inn fr wg none sn none) P := by
  refine Lands.step ?_
  have e : ∃ sn', M.step (M.mk C T lim st ls wt ma pc pos hd om mk lm li lp inn fr wg none sn none) = (M.mk C T lim st ls wt ma pc pos hd om mk lm li lp inn fr wg (some false) sn' none) := by
    unfold M.step
    simp only [Option.isSome_none, Bool.false_eq_true, if_false, if_pos hpc]
    unfold M.exec
    simp only [M.word, Nat.add_zero, h0, show ops[6]? = some Op.AT from rfl, h1, M.isAt]
    simp [hp, M.say]
  obtain ⟨sn', e⟩ := e
  rw [e]; exact h sn'
theorem L_lit (hpc : pc < C.size) (h0 : C.getD pc 0 = 16) (hlt : pos < lim) (hc : T.getD pos 0 = C.getD (pc + 1) 0)
    (h : ∀ sn, Lands k (M.mk C T lim st ls wt ma (pc + 2) (pos + 1) hd om mk lm li lp inn fr wg none sn none) P) :
    Lands (k + 1) (M.mk C T lim st ls wt ma pc pos hd om mk lm li lp inn fr wg none sn none) P := by
  refine Lands.step ?_
  have e : ∃ sn', M.step (M.mk C T lim st ls wt ma pc pos hd om mk lm li lp inn fr wg none sn none) = (M.mk C T lim st ls wt ma (pc + 2) (pos + 1) hd om mk lm li lp inn fr wg none sn' none) := by
    unfold M.step
    simp only [Option.isSome_none, Bool.false_eq_true, if_false, if_pos hpc]
    unfold M.exec
    simp only [M.word, Nat.add_zero, h0, show ops[16]? = some Op.LITERAL from rfl]
    simp [Nat.not_le.mpr hlt, accepts, itemWidth, h0, show ops[16]? = some Op.LITERAL from rfl, hc]
  obtain ⟨sn', e⟩ := e
  rw [e]; exact h sn'
theorem L_lit_no (hpc : pc < C.size) (h0 : C.getD pc 0 = 16) (hc : pos < lim → T.getD pos 0 ≠ C.getD (pc + 1) 0)
    (h : ∀ sn, Lands k (M.mk C T lim st ls wt ma pc pos hd om mk lm li lp inn fr wg (some false) sn none) P) :
    Lands (k + 1) (M.mk C T lim st ls wt ma pc pos hd om mk lm li lp inn fr wg none sn none) P := by
  refine Lands.step ?_
  have e : ∃ sn', M.step (M.mk C T lim st ls wt ma pc pos hd om mk lm li lp inn fr wg none sn none) = (M.mk C T lim st ls wt ma pc pos hd om mk lm li lp inn fr wg (some false) sn' none) := by
    unfold M.step
    simp only [Option.isSome_none, Bool.false_eq_true, if_false, if_pos hpc]
    unfold M.exec
    simp only [M.word, Nat.add_zero, h0, show ops[16]? = some Op.LITERAL from rfl]
    by_cases hlt : pos < lim
    · have hb : (T.getD pos 0 == C.getD (pc + 1) 0) = false := by simpa using hc hlt
      simp only [ge_iff_le, Nat.not_le.mpr hlt, if_false, accepts, h0, show ops[16]? = some Op.LITERAL from rfl, hb, M.say]
      exact ⟨_, rfl⟩
    · simp [Nat.not_lt.mp hlt, M.say]
  obtain ⟨sn', e⟩ := e
  rw [e]; exact h sn'
theorem L_any (hpc : pc < C.size) (h0 : C.getD pc 0 = 2) (hlt : pos < lim) (hc : T.getD pos 0 ≠ 10)
    (h : ∀ sn, Lands k (M.mk C T lim st ls wt ma (pc + 1) (pos + 1) hd om mk lm li lp inn fr wg none sn none) P) :
    Lands (k + 1) (M.mk C T lim st ls wt ma pc pos hd om mk lm li lp inn fr wg none sn none) P := by
  refine Lands.step ?_
  have e : ∃ sn', M.step (M.mk C T lim st ls wt ma pc pos hd om mk lm li lp inn fr wg none sn none) = (M.mk C T lim st ls wt ma (pc + 1) (pos + 1) hd om mk lm li lp inn fr wg none sn' none) := by
    unfold M.step
    simp only [Option.isSome_none, Bool.false_eq_true, if_false, if_pos hpc]
    unfold M.exec
    simp only [M.word, Nat.add_zero, h0, show ops[2]? = some Op.ANY from rfl]
    have hc' : (T.getD pos 0 != 10) = true := by simpa using hc
    simp only [ge_iff_le, Nat.not_le.mpr hlt, if_false, accepts, h0, show ops[2]? = some Op.ANY from rfl, hc', itemWidth]
    exact ⟨_, rfl⟩
  obtain ⟨sn', e⟩ := e
  rw [e]; exact h sn'
theorem L_in (hpc : pc < C.size) (h0 : C.getD pc 0 = 13) (hlt : pos < lim) (hc : ∀ sn, ∃ sn', accepts C pc (T.getD pos 0) sn = .ok (true, sn'))
    (h : ∀ sn, Lands k (M.mk C T lim st ls wt ma (pc + (1 + C.getD (pc + 1) 0)) (pos + 1) hd om mk lm li lp inn fr wg none sn none) P) :
    Lands (k + 1) (M.mk C T lim st ls wt ma pc pos hd om mk lm li lp inn fr wg none sn none) P := by
  refine Lands.step ?_
  have e : ∃ sn', M.step (M.mk C T lim st ls wt ma pc pos hd om mk lm li lp inn fr wg none sn none) = (M.mk C T lim st ls wt ma (pc + (1 + C.getD (pc + 1) 0)) (pos + 1) hd om mk lm li lp inn fr wg none sn' none) := by
    unfold M.step
    simp only [Option.isSome_none, Bool.false_eq_true, if_false, if_pos hpc]
    unfold M.exec
    simp only [M.word, Nat.add_zero, h0, show ops[13]? = some Op.IN from rfl]
    obtain ⟨sn', hc'⟩ := hc (sn.add 13)
    simp only [ge_iff_le, Nat.not_le.mpr hlt, if_false, hc', itemWidth, h0, show ops[13]? = some Op.IN from rfl]
    exact ⟨_, rfl⟩
  obtain ⟨sn', e⟩ := e
  rw [e]; exact h sn'
theorem L_in_no (hpc : pc < C.size) (h0 : C.getD pc 0 = 13) (hc : pos < lim → ∀ sn, ∃ sn', accepts C pc (T.getD pos 0) sn = .ok (false, sn'))
    (h : ∀ sn, Lands k (M.mk C T lim st ls wt ma pc pos hd om mk lm li lp inn fr wg (some false) sn none) P) :
    Lands (k + 1) (M.mk C T lim st ls wt ma pc pos hd om mk lm li lp inn fr wg none sn none) P := by
  refine Lands.step ?_
  have e : ∃ sn', M.step (M.mk C T lim st ls wt ma pc pos hd om mk lm li lp inn fr wg none sn none) = (M.mk C T lim st ls wt ma pc pos hd om mk lm li lp inn fr wg (some false) sn' none) := by
    unfold M.step
    simp only [Option.isSome_none, Bool.false_eq_true, if_false, if_pos hpc]
    unfold M.exec
    simp only [M.word, Nat.add_zero, h0, show ops[13]? = some Op.IN from rfl]
    by_cases hlt : pos < lim
    · obtain ⟨sn', hc'⟩ := hc hlt (sn.add 13)
      simp only [ge_iff_le, Nat.not_le.mpr hlt, if_false, hc', M.say]
      exact ⟨_, rfl⟩
    · simp only [ge_iff_le, Nat.not_lt.mp hlt, if_true, M.say]
      exact ⟨_, rfl⟩
  obtain ⟨sn', e⟩ := e
  rw [e]; exact h sn'
theorem L_mark {i : Nat} (hpc : pc < C.size) (h0 : C.getD pc 0 = 17) (h1 : C.getD (pc + 1) 0 = i) (hi : (i : Int) ≤ lm + 1)
    (h : ∀ sn, Lands k (M.mk C T lim st ls wt ma (pc + 2) pos hd om (mk.setIfInBounds i (some pos)) (max lm i) (if i % 2 == 1 then ((i / 2 + 1 : Nat) : Int) else li) lp inn fr wg none sn none) P) :
    Lands (k + 1) (M.mk C T lim st ls wt ma pc pos hd om mk lm li lp inn fr wg none sn none) P := by
  refine Lands.step ?_
  have e : ∃ sn', M.step (M.mk C T lim st ls wt ma pc pos hd om mk lm li lp inn fr wg none sn none) = (M.mk C T lim st ls wt ma (pc + 2) pos hd om (mk.setIfInBounds i (some pos)) (max lm i) (if i % 2 == 1 then ((i / 2 + 1 : Nat) : Int) else li) lp inn fr wg none sn' none) := by
    unfold M.step
    simp only [Option.isSome_none, Bool.false_eq_true, if_false, if_pos hpc]
    unfold M.exec
    simp only [M.word, Nat.add_zero, h0, show ops[17]? = some Op.MARK from rfl, h1, M.mark, if_pos hi]
    exact ⟨_, rfl⟩
  obtain ⟨sn', e⟩ := e
  rw [e]; exact h sn'
theorem L_succ (hpc : pc < C.size) (h0 : C.getD pc 0 = 1) (hc : (om && ((wt && pos != lim) || (ma && pos == st))) = false)
    (h : ∀ sn, Lands k (M.mk C T lim st ls wt ma pc pos pos om mk lm li lp inn fr wg (some true) sn none) P) :
    Lands (k + 1) (M.mk C T lim st ls wt ma pc pos hd om mk lm li lp inn fr wg none sn none) P := by
  refine Lands.step ?_
  have e : ∃ sn', M.step (M.mk C T lim st ls wt ma pc pos hd om mk lm li lp inn fr wg none sn none) = (M.mk C T lim st ls wt ma pc pos pos om mk lm li lp inn fr wg (some true) sn' none) := by
    unfold M.step
    simp only [Option.isSome_none, Bool.false_eq_true, if_false, if_pos hpc]
    unfold M.exec
    simp only [M.word, Nat.add_zero, h0, show ops[1]? = some Op.SUCCESS from rfl, hc, M.say]
    exact ⟨_, rfl⟩
  obtain ⟨sn', e⟩ := e
  rw [e]; exact h sn'
theorem L_succ_no (hpc : pc < C.size) (h0 : C.getD pc 0 = 1) (hc : (om && ((wt && pos != lim) || (ma && pos == st))) = true)
    (h : ∀ sn, Lands k (M.mk C T lim st ls wt ma pc pos hd om mk lm li lp inn fr wg (some false) sn none) P) :
    Lands (k + 1) (M.mk C T lim st ls wt ma pc pos hd om mk lm li lp inn fr wg none sn none) P := by
  refine Lands.step ?_
  have e : ∃ sn', M.step (M.mk C T lim st ls wt ma pc pos hd om mk lm li lp inn fr wg none sn none) = (M.mk C T lim st ls wt ma pc pos hd om mk lm li lp inn fr wg (some false) sn' none) := by
    unfold M.step
    simp only [Option.isSome_none, Bool.false_eq_true, if_false, if_pos hpc]
    unfold M.exec
    simp only [M.word, Nat.add_zero, h0, show ops[1]? = some Op.SUCCESS from rfl, hc, M.say]
    exact ⟨_, rfl⟩
  obtain ⟨sn', e⟩ := e
  rw [e]; exact h sn'

/-- what a run of the item at i takes, from p -/
def Runs1 (C T : Array Nat) (i room p n : Nat) : Prop := ∀ sn, ∃ sn', Sre.run C T i room p 0 sn = .ok (n, sn')
theorem L_rep1 {n : Nat} (hpc : pc < C.size) (h0 : C.getD pc 0 = 24) (hpl : pos ≤ lim) (h2 : C.getD (pc + 2) 0 ≤ n) (hn : n ≤ lim - pos) (hm : lim - pos ≤ C.getD (pc + 3) 0) (hr : Runs1 C T (pc + 4) (lim - pos) pos n) (hw : wg + 1 + (if inn.isSome = true then mk.extract 0 (lm + 1).toNat else #[]).size ≤ 16777216)
    (h : ∀ sn, Lands k (M.mk C T lim st ls wt ma (pc + 1 + C.getD (pc + 1) 0) (pos + n) (pos + n) om mk lm li lp inn (Sre.Frame.mk .giveBack pc (pos + n) om n { lastmark := lm, lastindex := li, whole := inn.isSome, marks := if inn.isSome = true then mk.extract 0 (lm + 1).toNat else #[] } 0 none :: fr) (wg + 1 + (if inn.isSome = true then mk.extract 0 (lm + 1).toNat else #[]).size) none sn none) P) :
    Lands (k + 1) (M.mk C T lim st ls wt ma pc pos hd om mk lm li lp inn fr wg none sn none) P := by
  refine Lands.step ?_
  have e : ∃ sn', M.step (M.mk C T lim st ls wt ma pc pos hd om mk lm li lp inn fr wg none sn none) = (M.mk C T lim st ls wt ma (pc + 1 + C.getD (pc + 1) 0) (pos + n) (pos + n) om mk lm li lp inn (Sre.Frame.mk .giveBack pc (pos + n) om n { lastmark := lm, lastindex := li, whole := inn.isSome, marks := if inn.isSome = true then mk.extract 0 (lm + 1).toNat else #[] } 0 none :: fr) (wg + 1 + (if inn.isSome = true then mk.extract 0 (lm + 1).toNat else #[]).size) none sn' none) := by
    unfold M.step
    simp only [Option.isSome_none, Bool.false_eq_true, if_false, if_pos hpc]
    unfold M.exec
    simp only [M.word, Nat.add_zero, h0, show ops[24]? = some Op.REPEAT_ONE from rfl]
    have hroom : ¬ (((C.getD (pc + 2) 0 : Nat) : Int) > (lim : Int) - (pos : Int)) := by omega
    have hto : ((lim : Int) - (pos : Int)).toNat = lim - pos := by omega
    rw [if_neg hroom]
    obtain ⟨sn', hr'⟩ := hr ((sn.add 24).add (C.getD (pc + 4) 0))
    simp only [Bool.false_eq_true, if_false, hto, Nat.min_eq_right hm, hr', Nat.not_lt.mpr h2]
    simp only [M.afterRun, M.keep, M.attempt, M.frame, M.word]
    rw [if_neg (by omega)]
    exact ⟨_, rfl⟩
  obtain ⟨sn', e⟩ := e
  rw [e]; exact h sn'
theorem L_rep1_no {n : Nat} (hpc : pc < C.size) (h0 : C.getD pc 0 = 24) (hpl : pos ≤ lim) (h2 : n < C.getD (pc + 2) 0) (hm : lim - pos ≤ C.getD (pc + 3) 0) (hr : Runs1 C T (pc + 4) (lim - pos) pos n)
    (h : ∀ sn, Lands k (M.mk C T lim st ls wt ma pc pos hd om mk lm li lp inn fr wg (some false) sn none) P) :
    Lands (k + 1) (M.mk C T lim st ls wt ma pc pos hd om mk lm li lp inn fr wg none sn none) P := by
  refine Lands.step ?_
  have e : ∃ sn', M.step (M.mk C T lim st ls wt ma pc pos hd om mk lm li lp inn fr wg none sn none) = (M.mk C T lim st ls wt ma pc pos hd om mk lm li lp inn fr wg (some false) sn' none) := by
    unfold M.step
    simp only [Option.isSome_none, Bool.false_eq_true, if_false, if_pos hpc]
    unfold M.exec
    simp only [M.word, Nat.add_zero, h0, show ops[24]? = some Op.REPEAT_ONE from rfl]
    by_cases hroom : ((C.getD (pc + 2) 0 : Nat) : Int) > (lim : Int) - (pos : Int)
    · rw [if_pos hroom]; simp only [M.say]; exact ⟨_, rfl⟩
    · have hto : ((lim : Int) - (pos : Int)).toNat = lim - pos := by omega
      rw [if_neg hroom]
      obtain ⟨sn', hr'⟩ := hr ((sn.add 24).add (C.getD (pc + 4) 0))
      simp only [Bool.false_eq_true, if_false, hto, Nat.min_eq_right hm, hr', if_pos h2, M.say]
      exact ⟨_, rfl⟩
  obtain ⟨sn', e⟩ := e
  rw [e]; exact h sn'
theorem P_give_yes {fpc fpos flp : Nat} {fom : Bool} {cnt : Int} {kp : Sre.Kept} {fbg : Option Nat}
    (h : ∀ sn, Lands k (M.mk C T lim st ls wt ma fpc fpos hd fom mk lm li lp inn fr (wg - (1 + kp.marks.size)) (some true) sn none) P) :
    Lands (k + 1) (M.mk C T lim st ls wt ma pc pos hd om mk lm li lp inn (Sre.Frame.mk .giveBack fpc fpos fom cnt kp flp fbg :: fr) wg (some true) sn none) P := by
  refine Lands.step ?_
  have e : ∃ sn', M.step (M.mk C T lim st ls wt ma pc pos hd om mk lm li lp inn (Sre.Frame.mk .giveBack fpc fpos fom cnt kp flp fbg :: fr) wg (some true) sn none) = (M.mk C T lim st ls wt ma fpc fpos hd fom mk lm li lp inn fr (wg - (1 + kp.marks.size)) (some true) sn' none) := by
    unfold M.step
    simp only [Option.isSome_none, Bool.false_eq_true, if_false]
    unfold M.resume
    simp only [if_true, M.say]
    exact ⟨_, rfl⟩
  obtain ⟨sn', e⟩ := e
  rw [e]; exact h sn'
theorem P_give_no {fpc fpos flp : Nat} {fom : Bool} {cnt : Int} {kp : Sre.Kept} {fbg : Option Nat} (hc : cnt - 1 < C.getD (fpc + 2) 0)
    (h : ∀ sn, Lands k (M.mk C T lim st ls wt ma fpc fpos hd fom (if kp.whole = true then kp.marks ++ mk.extract kp.marks.size mk.size else mk) kp.lastmark kp.lastindex lp inn fr (wg - (1 + kp.marks.size)) (some false) sn none) P) :
    Lands (k + 1) (M.mk C T lim st ls wt ma pc pos hd om mk lm li lp inn (Sre.Frame.mk .giveBack fpc fpos fom cnt kp flp fbg :: fr) wg (some false) sn none) P := by
  refine Lands.step ?_
  have e : ∃ sn', M.step (M.mk C T lim st ls wt ma pc pos hd om mk lm li lp inn (Sre.Frame.mk .giveBack fpc fpos fom cnt kp flp fbg :: fr) wg (some false) sn none) = (M.mk C T lim st ls wt ma fpc fpos hd fom (if kp.whole = true then kp.marks ++ mk.extract kp.marks.size mk.size else mk) kp.lastmark kp.lastindex lp inn fr (wg - (1 + kp.marks.size)) (some false) sn' none) := by
    unfold M.step
    simp only [Option.isSome_none, Bool.false_eq_true, if_false]
    unfold M.resume
    simp only [M.word, Bool.false_eq_true, if_false, if_pos hc, M.putBack, M.say]
    exact ⟨_, rfl⟩
  obtain ⟨sn', e⟩ := e
  rw [e]; exact h sn'
theorem P_give_more {fpc fpos flp : Nat} {fom : Bool} {cnt : Int} {kp : Sre.Kept} {fbg : Option Nat} (hc : ¬ (cnt - 1 < C.getD (fpc + 2) 0)) (hw : wg - (1 + kp.marks.size) + 1 + kp.marks.size ≤ 16777216)
    (h : ∀ sn, Lands k (M.mk C T lim st ls wt ma (fpc + 1 + C.getD (fpc + 1) 0) (fpos - 1) (fpos - 1) fom (if kp.whole = true then kp.marks ++ mk.extract kp.marks.size mk.size else mk) kp.lastmark kp.lastindex lp inn (Sre.Frame.mk .giveBack fpc (fpos - 1) fom (cnt - 1) kp 0 none :: fr) (wg - (1 + kp.marks.size) + 1 + kp.marks.size) none sn none) P) :
    Lands (k + 1) (M.mk C T lim st ls wt ma pc pos hd om mk lm li lp inn (Sre.Frame.mk .giveBack fpc fpos fom cnt kp flp fbg :: fr) wg (some false) sn none) P := by
  refine Lands.step ?_
  have e : ∃ sn', M.step (M.mk C T lim st ls wt ma pc pos hd om mk lm li lp inn (Sre.Frame.mk .giveBack fpc fpos fom cnt kp flp fbg :: fr) wg (some false) sn none) = (M.mk C T lim st ls wt ma (fpc + 1 + C.getD (fpc + 1) 0) (fpos - 1) (fpos - 1) fom (if kp.whole = true then kp.marks ++ mk.extract kp.marks.size mk.size else mk) kp.lastmark kp.lastindex lp inn (Sre.Frame.mk .giveBack fpc (fpos - 1) fom (cnt - 1) kp 0 none :: fr) (wg - (1 + kp.marks.size) + 1 + kp.marks.size) none sn' none) := by
    unfold M.step
    simp only [Option.isSome_none, Bool.false_eq_true, if_false]
    unfold M.resume
    simp only [M.word, Bool.false_eq_true, if_false, if_neg hc, M.putBack, M.afterRun, M.attempt, M.frame]
    rw [if_neg (by omega)]
    exact ⟨_, rfl⟩
  obtain ⟨sn', e⟩ := e
  rw [e]; exact h sn'
theorem P_next_yes {fpc fpos flp : Nat} {fom : Bool} {cnt : Int} {kp : Sre.Kept} {fbg : Option Nat}
    (h : ∀ sn, Lands k (M.mk C T lim st ls wt ma fpc fpos hd fom mk lm li lp inn fr (wg - (1 + kp.marks.size)) (some true) sn none) P) :
    Lands (k + 1) (M.mk C T lim st ls wt ma pc pos hd om mk lm li lp inn (Sre.Frame.mk .nextStart fpc fpos fom cnt kp flp fbg :: fr) wg (some true) sn none) P := by
  refine Lands.step ?_
  have e : ∃ sn', M.step (M.mk C T lim st ls wt ma pc pos hd om mk lm li lp inn (Sre.Frame.mk .nextStart fpc fpos fom cnt kp flp fbg :: fr) wg (some true) sn none) = (M.mk C T lim st ls wt ma fpc fpos hd fom mk lm li lp inn fr (wg - (1 + kp.marks.size)) (some true) sn' none) := by
    unfold M.step
    simp only [Option.isSome_none, Bool.false_eq_true, if_false]
    unfold M.resume
    simp only [if_true, M.say]
    exact ⟨_, rfl⟩
  obtain ⟨sn', e⟩ := e
  rw [e]; exact h sn'
theorem P_next_end {fpc fpos flp : Nat} {fom : Bool} {cnt : Int} {kp : Sre.Kept} {fbg : Option Nat} (hc : ¬ fpos < ls)
    (h : ∀ sn, Lands k (M.mk C T lim st ls wt ma fpc fpos hd fom mk lm li lp inn fr (wg - (1 + kp.marks.size)) (some false) sn none) P) :
    Lands (k + 1) (M.mk C T lim st ls wt ma pc pos hd om mk lm li lp inn (Sre.Frame.mk .nextStart fpc fpos fom cnt kp flp fbg :: fr) wg (some false) sn none) P := by
  refine Lands.step ?_
  have e : ∃ sn', M.step (M.mk C T lim st ls wt ma pc pos hd om mk lm li lp inn (Sre.Frame.mk .nextStart fpc fpos fom cnt kp flp fbg :: fr) wg (some false) sn none) = (M.mk C T lim st ls wt ma fpc fpos hd fom mk lm li lp inn fr (wg - (1 + kp.marks.size)) (some false) sn' none) := by
    unfold M.step
    simp only [Option.isSome_none, Bool.false_eq_true, if_false]
    unfold M.resume
    simp only [Bool.false_eq_true, if_false, if_neg hc, M.say]
    exact ⟨_, rfl⟩
  obtain ⟨sn', e⟩ := e
  rw [e]; exact h sn'
theorem P_next_more {fpc fpos flp : Nat} {fom : Bool} {cnt : Int} {kp : Sre.Kept} {fbg : Option Nat} (hc : fpos < ls) (hf : (C.getD 0 0 == 14 && C.getD 2 0 == 4) = false) (hw : wg - (1 + kp.marks.size) + 1 ≤ 16777216)
    (h : ∀ sn, Lands k (M.mk C T lim (fpos + 1) ls wt false fpc (fpos + 1) (fpos + 1) false mk (-1) (-1) lp inn (Sre.Frame.mk .nextStart fpc (fpos + 1) false 0 {} 0 none :: fr) (wg - (1 + kp.marks.size) + 1) none sn none) P) :
    Lands (k + 1) (M.mk C T lim st ls wt ma pc pos hd om mk lm li lp inn (Sre.Frame.mk .nextStart fpc fpos fom cnt kp flp fbg :: fr) wg (some false) sn none) P := by
  refine Lands.step ?_
  have e : ∃ sn', M.step (M.mk C T lim st ls wt ma pc pos hd om mk lm li lp inn (Sre.Frame.mk .nextStart fpc fpos fom cnt kp flp fbg :: fr) wg (some false) sn none) = (M.mk C T lim (fpos + 1) ls wt false fpc (fpos + 1) (fpos + 1) false mk (-1) (-1) lp inn (Sre.Frame.mk .nextStart fpc (fpos + 1) false 0 {} 0 none :: fr) (wg - (1 + kp.marks.size) + 1) none sn' none) := by
    unfold M.step
    simp only [Option.isSome_none, Bool.false_eq_true, if_false]
    unfold M.resume
    simp only [Bool.false_eq_true, if_false, if_pos hc, M.attemptFrom]
    have hfs : M.hasFirstSet (M.mk C T lim st ls wt false fpc fpos hd fom mk lm li lp inn fr (wg - (1 + kp.marks.size)) none sn none) = false := noFirst hf
    simp only [hfs, Bool.not_false, if_true, M.attemptAt, M.attempt]
    rw [if_neg (by show ¬ (wg - (1 + kp.marks.size) + 1 + 0 > 16777216); omega)]
    exact ⟨_, rfl⟩
  obtain ⟨sn', e⟩ := e
  rw [e]; exact h sn'
theorem P_fin {b : Bool} (h : ∀ sn, P (M.mk C T lim st ls wt ma pc pos hd om mk lm li lp inn [] wg (some b) sn (some (if b = true then Outcome.matched else Outcome.failed)))) :
    Lands (k + 1) (M.mk C T lim st ls wt ma pc pos hd om mk lm li lp inn [] wg (some b) sn none) P := by
  refine Lands.step (Lands.now ?_)
  unfold M.step
  simp only [Option.isSome_none, Bool.false_eq_true, if_false]
  exact h _
end
end
section
-- Sre2
open PySem.Sre

theorem run_of {C T : Array Nat} {i : Nat} : ∀ (n room p found : Nat) (sn : Sre.Seen), n ≤ room →
    (∀ j, j < n → ∀ sn, ∃ sn', accepts C i (T.getD (p + j) 0) sn = .ok (true, sn')) →
    (n < room → ∀ sn, ∃ sn', accepts C i (T.getD (p + n) 0) sn = .ok (false, sn')) → ∃ sn', Sre.run C T i room p found sn = .ok (found + n, sn')
  | 0, 0, p, found, sn, _, _, _ => ⟨sn, rfl⟩
  | 0, room + 1, p, found, sn, _, _, hs => by
    obtain ⟨sn', e⟩ := hs (Nat.succ_pos _) sn
    refine ⟨sn', ?_⟩
    rw [Sre.run]
    rw [Nat.add_zero] at e
    rw [e]; rfl
  | n + 1, 0, _, _, _, h, _, _ => absurd h (by omega)
  | n + 1, room + 1, p, found, sn, hle, hy, hs => by
    obtain ⟨sn₁, e⟩ := hy 0 (Nat.succ_pos _) sn
    rw [Nat.add_zero] at e
    obtain ⟨sn', e'⟩ := run_of (C := C) (T := T) (i := i) n room (p + 1) (found + 1) sn₁ (by omega)
      (fun j hj sn => by have := hy (j + 1) (by omega) sn; rwa [show p + (j + 1) = p + 1 + j by omega] at this)
      (fun h sn => by have := hs (by omega) sn; rwa [show p + (n + 1) = p + 1 + n by omega] at this)
    refine ⟨sn', ?_⟩
    rw [Sre.run, e]
    show Sre.run C T i room (p + 1) (found + 1) sn₁ = _
    rw [e']; congr 2; omega
theorem runs1_of {C T : Array Nat} {i room p n : Nat} (hn : n ≤ room) (hy : ∀ j, j < n → ∀ sn, ∃ sn', accepts C i (T.getD (p + j) 0) sn = .ok (true, sn'))
    (hs : n < room → ∀ sn, ∃ sn', accepts C i (T.getD (p + n) 0) sn = .ok (false, sn')) : Runs1 C T i room p n := fun sn => by
  obtain ⟨sn', e⟩ := run_of n room p 0 sn hn hy hs
  exact ⟨sn', by rw [e, Nat.zero_add]⟩

section
variable {C T : Array Nat} {lim st ls pc pos hd wg k : Nat} {wt ma om : Bool} {mk : Array (Option Nat)} {lm li : Int} {lp : Array Loop} {inn : Option Nat} {fr : List Sre.Frame} {sn : Sre.Seen} {P : M → Prop}

theorem L_repeat (hpc : pc < C.size) (h0 : C.getD pc 0 = 23) (hw : wg + 1 ≤ 16777216)
    (h : ∀ sn, Lands k (M.mk C T lim st ls wt ma (pc + 1 + C.getD (pc + 1) 0) pos pos om mk lm li #[⟨pc, -1, none, none⟩] (some 0) (Sre.Frame.mk .closeLoop pc pos om 0 {} 0 none :: fr) (wg + 1) none sn none) P) :
    Lands (k + 1) (M.mk C T lim st ls wt ma pc pos hd om mk lm li #[] none fr wg none sn none) P := by
  refine Lands.step ?_
  have e : ∃ sn', M.step (M.mk C T lim st ls wt ma pc pos hd om mk lm li #[] none fr wg none sn none) = M.mk C T lim st ls wt ma (pc + 1 + C.getD (pc + 1) 0) pos pos om mk lm li #[⟨pc, -1, none, none⟩] (some 0) (Sre.Frame.mk .closeLoop pc pos om 0 {} 0 none :: fr) (wg + 1) none sn' none := by
    unfold M.step
    simp only [Option.isSome_none, Bool.false_eq_true, if_false, if_pos hpc]
    unfold M.exec
    simp only [M.word, Nat.add_zero, h0, show ops[23]? = some Op.REPEAT from rfl, M.attempt, M.frame]
    rw [if_neg (by show ¬ (wg + 1 + 0 > 16777216); omega)]
    exact ⟨_, rfl⟩
  obtain ⟨sn', e⟩ := e
  rw [e]; exact h sn'

/-- the until of a greedy repeat goes round once more -/
theorem L_until {rpc : Nat} {c : Int} {bg : Option Nat} (hpc : pc < C.size) (h0 : C.getD pc 0 = 18) (hl : C.getD (rpc + 2) 0 = 0) (hm : C.getD (rpc + 3) 0 = maxRepeat) (hc : 0 ≤ c + 1) (hb : bg ≠ some pos)
    (hw : wg + 1 + (mk.extract 0 (lm + 1).toNat).size ≤ 16777216)
    (h : ∀ sn, Lands k (M.mk C T lim st ls wt ma (rpc + 4) pos pos om mk lm li #[⟨rpc, c + 1, some pos, none⟩] (some 0)
      (Sre.Frame.mk .maxMore (pc + 1) pos om (c + 1) ⟨lm, li, true, mk.extract 0 (lm + 1).toNat⟩ 0 bg :: fr) (wg + 1 + (mk.extract 0 (lm + 1).toNat).size) none sn none) P) :
    Lands (k + 1) (M.mk C T lim st ls wt ma pc pos hd om mk lm li #[⟨rpc, c, bg, none⟩] (some 0) fr wg none sn none) P := by
  refine Lands.step ?_
  have e : ∃ sn', M.step (M.mk C T lim st ls wt ma pc pos hd om mk lm li #[⟨rpc, c, bg, none⟩] (some 0) fr wg none sn none) = M.mk C T lim st ls wt ma (rpc + 4) pos pos om mk lm li #[⟨rpc, c + 1, some pos, none⟩] (some 0)
      (Sre.Frame.mk .maxMore (pc + 1) pos om (c + 1) ⟨lm, li, true, mk.extract 0 (lm + 1).toNat⟩ 0 bg :: fr) (wg + 1 + (mk.extract 0 (lm + 1).toNat).size) none sn' none := by
    unfold M.step
    simp only [Option.isSome_none, Bool.false_eq_true, if_false, if_pos hpc]
    unfold M.exec
    simp only [M.word, Nat.add_zero, h0, show ops[18]? = some Op.MAX_UNTIL from rfl]
    unfold M.until_
    have e0 : (#[(⟨rpc, c, bg, none⟩ : Loop)]).getD 0 ⟨0, -1, none, none⟩ = ⟨rpc, c, bg, none⟩ := rfl
    have em : (#[(⟨rpc, c, bg, none⟩ : Loop)]).modify 0 (fun l => { l with count := c + 1, began := some pos }) = #[⟨rpc, c + 1, some pos, none⟩] := rfl
    have hb' : (bg != some pos) = true := by simpa using hb
    simp only [M.loopAt, e0, hl, hm, Bool.not_true, Bool.false_eq_true, if_false, beq_self_eq_true, Bool.or_true, Bool.true_and, hb', if_true]
    rw [if_neg (by omega)]
    simp only [M.round, M.loopAt, e0, M.setLoop, if_true, em, M.attempt, M.frame, M.keep]
    rw [if_neg (by omega)]
    exact ⟨_, rfl⟩
  obtain ⟨sn', e⟩ := e
  rw [e]; exact h sn'

theorem P_close {b : Bool} {fpc fpos flp : Nat} {fom : Bool} {cnt : Int} {fbg : Option Nat}
    (h : ∀ lp inn sn, Lands k (M.mk C T lim st ls wt ma fpc fpos hd fom mk lm li lp inn fr (wg - 1) (some b) sn none) P) :
    Lands (k + 1) (M.mk C T lim st ls wt ma pc pos hd om mk lm li lp inn (Sre.Frame.mk .closeLoop fpc fpos fom cnt {} flp fbg :: fr) wg (some b) sn none) P := by
  refine Lands.step ?_
  unfold M.step
  simp only [Option.isSome_none, Bool.false_eq_true, if_false]
  unfold M.resume
  simp only [M.say]
  exact h _ _ _
theorem P_more_yes {fpc fpos flp : Nat} {fom : Bool} {cnt : Int} {kp : Sre.Kept} {fbg : Option Nat}
    (h : ∀ lp inn sn, Lands k (M.mk C T lim st ls wt ma fpc fpos hd fom mk lm li lp inn fr (wg - (1 + kp.marks.size)) (some true) sn none) P) :
    Lands (k + 1) (M.mk C T lim st ls wt ma pc pos hd om mk lm li lp inn (Sre.Frame.mk .maxMore fpc fpos fom cnt kp flp fbg :: fr) wg (some true) sn none) P := by
  refine Lands.step ?_
  unfold M.step
  simp only [Option.isSome_none, Bool.false_eq_true, if_false]
  unfold M.resume
  simp only [M.say, M.setLoop, if_true]
  exact h _ _ _
theorem P_tail {b : Bool} {fpc fpos flp : Nat} {fom : Bool} {cnt : Int} {kp : Sre.Kept} {fbg : Option Nat}
    (h : ∀ lp inn sn, Lands k (M.mk C T lim st ls wt ma fpc fpos hd fom mk lm li lp inn fr (wg - (1 + kp.marks.size)) (some b) sn none) P) :
    Lands (k + 1) (M.mk C T lim st ls wt ma pc pos hd om mk lm li lp inn (Sre.Frame.mk .maxTail fpc fpos fom cnt kp flp fbg :: fr) wg (some b) sn none) P := by
  refine Lands.step ?_
  unfold M.step
  simp only [Option.isSome_none, Bool.false_eq_true, if_false]
  unfold M.resume
  simp only [M.say]
  exact h _ _ _
/-- one more round of the repeat has failed: its tail -/
theorem P_more_no {fpc fpos flp : Nat} {fom : Bool} {cnt : Int} {kp : Sre.Kept} {fbg : Option Nat} (hk : kp.whole = true) (hw : wg - (1 + kp.marks.size) + 1 ≤ 16777216)
    (h : ∀ lp inn sn, Lands k (M.mk C T lim st ls wt ma fpc fpos fpos fom (kp.marks ++ mk.extract kp.marks.size mk.size) kp.lastmark kp.lastindex lp inn
      (Sre.Frame.mk .maxTail fpc fpos fom cnt ⟨kp.lastmark, kp.lastindex, false, #[]⟩ flp none :: fr) (wg - (1 + kp.marks.size) + 1) none sn none) P) :
    Lands (k + 1) (M.mk C T lim st ls wt ma pc pos hd om mk lm li lp inn (Sre.Frame.mk .maxMore fpc fpos fom cnt kp flp fbg :: fr) wg (some false) sn none) P := by
  refine Lands.step ?_
  unfold M.step
  simp only [Option.isSome_none, Bool.false_eq_true, if_false]
  unfold M.resume
  simp only [M.setLoop, Bool.false_eq_true, if_false, M.putBack, hk, if_true, M.afterLoop, M.attempt, M.frame, M.keep, M.loopAt]
  rw [if_neg (by show ¬ (wg - (1 + kp.marks.size) + 1 + 0 > 16777216); omega)]
  exact h _ _ _
end
end
section
-- Sre3
set_option maxRecDepth 10000
open PySem.Sre

def cJT : Array Nat := #[14, 4, 0, 1, 4294967295, 24, 16, 1, 4294967295, 13, 11, 9, 0, 67071226, 3355443198, 1476395007, 0, 0, 0, 0, 0, 1, 1]
def tokB (c : Nat) : Bool := c < 256 && (cJT.getD (11 + (1 + c / 32)) 0).testBit (c % 32)
theorem acc_JT (c : Nat) (sn : Sre.Seen) : ∃ sn', accepts cJT 9 c sn = .ok (tokB c, sn') := by
  unfold accepts
  simp only [show cJT.getD 9 0 = 13 from rfl, show ops[13]? = some Op.IN from rfl, show cJT.size = 23 from rfl]
  rw [show (23 : Nat) = 22 + 1 from rfl, inSet]
  simp only [show cJT.getD (9 + 2 + 0) 0 = 9 from rfl, show ops[9]? = some Op.CHARSET from rfl, show 9 + 2 = 11 from rfl]
  by_cases h : tokB c = true
  · have h' := h
    unfold tokB at h'
    rw [if_pos h', h]; exact ⟨_, rfl⟩
  · have h' := h
    unfold tokB at h'
    rw [if_neg h']
    rw [show (22 : Nat) = 21 + 1 from rfl, inSet]
    simp only [show cJT.getD (11 + 9 + 0) 0 = 0 from rfl, show ops[0]? = some Op.FAILURE from rfl]
    have : tokB c = false := by simpa using h
    rw [this]; exact ⟨_, rfl⟩
theorem acc_JT_yes {c : Nat} (h : tokB c = true) (sn : Sre.Seen) : ∃ sn', accepts cJT 9 c sn = .ok (true, sn') := h ▸ acc_JT c sn
theorem acc_JT_no {c : Nat} (h : tokB c = false) (sn : Sre.Seen) : ∃ sn', accepts cJT 9 c sn = .ok (false, sn') := h ▸ acc_JT c sn

/-- the giving back of a lone greedy run whose tail is the end of the whole text -/
theorem JT_back {T : Array Nat} {lim ls : Nat} {lp : Array Loop} : ∀ (q : Nat) (pc pos : Nat) (om : Bool) (sn : Sre.Seen) (kp : Sre.Kept) (hd : Nat) (mk : Array (Option Nat)) (lm li : Int) (wg : Nat), q < lim → kp.marks = #[] → wg ≤ 100 →
    Lands (3 * q + 3) (M.mk cJT T lim 0 ls true false pc pos hd om mk lm li lp none [Sre.Frame.mk .giveBack 5 q true q kp 0 none] wg (some false) sn none) (fun m => m.outcome = some .failed)
  | 0, pc, pos, om, sn, kp, hd, mk, lm, li, wg, _, _, _ => by
    refine P_give_no (by decide) fun sn => ?_
    refine Lands.mono (k := 1) (P_fin fun sn => rfl) (by omega)
  | q + 1, pc, pos, om, sn, kp, hd, mk, lm, li, wg, hq, hk, hw => by
    by_cases h0 : q = 0
    · subst h0
      refine P_give_no (by decide) fun sn => ?_
      refine Lands.mono (k := 1) (P_fin fun sn => rfl) (by omega)
    · rw [show 3 * (q + 1) + 3 = (3 * q + 3) + 1 + 1 + 1 by omega]
      refine P_give_more (by show ¬ (((q + 1 : Nat) : Int) - 1 < ((1 : Nat) : Int)); omega) (by rw [hk]; show wg - (1 + 0) + 1 + 0 ≤ _; omega) fun sn => ?_
      refine L_succ_no (by decide) (by rfl) (by simp; omega) fun sn => ?_
      rw [show (((q + 1 : Nat) : Int) - 1) = ((q : Nat) : Int) by omega, show q + 1 - 1 = q from rfl]
      exact Lands.mono (JT_back q _ _ _ sn kp _ _ _ _ _ (by omega) hk (by rw [hk]; show wg - (1 + 0) + 1 + 0 ≤ 100; omega)) (by omega)

theorem JT_full (T : Array Nat) (hsz : T.size ≤ 1000000) :
    Lands (3 * T.size + 10) (forMatch cJT T 0 0 T.size true false) (fun m => m.outcome = some (if T.size ≠ 0 ∧ ∀ i < T.size, tokB (T.getD i 0) = true then .matched else .failed)) := by
  unfold forMatch
  simp only [show header cJT = (1, 5) from rfl]
  by_cases h0 : T.size = 0
  · rw [if_pos (by simp [h0])]
    have : ¬ (T.size ≠ 0 ∧ ∀ i < T.size, tokB (T.getD i 0) = true) := fun h => h.1 h0
    simp only [if_neg this]
    refine Lands.mono (k := 1) ?_ (by omega)
    exact P_fin (b := false) fun sn => rfl
  · rw [if_neg (by simp [h0])]
    -- the longest run of token signs
    obtain ⟨n, hn, hy, hs⟩ : ∃ n, n ≤ T.size ∧ (∀ j, j < n → tokB (T.getD j 0) = true) ∧ (n < T.size → tokB (T.getD n 0) = false) := by
      have : ∀ m, m ≤ T.size → (∃ n, n ≤ m ∧ (∀ j, j < n → tokB (T.getD j 0) = true) ∧ (n < m → tokB (T.getD n 0) = false)) := by
        intro m
        induction m with
        | zero => intro _; exact ⟨0, Nat.le_refl _, fun j hj => absurd hj (by omega), fun h => absurd h (by omega)⟩
        | succ m ih =>
          intro hm
          obtain ⟨n, h1, h2, h3⟩ := ih (by omega)
          by_cases e : n < m
          · exact ⟨n, by omega, h2, fun _ => h3 e⟩
          · have : n = m := by omega
            subst this
            cases hb : tokB (T.getD n 0) with
            | false => exact ⟨n, by omega, h2, fun _ => hb⟩
            | true => exact ⟨n + 1, by omega, fun j hj => by
                by_cases q : j = n
                · subst q; exact hb
                · exact h2 j (by omega), fun h => absurd h (by omega)⟩
      exact this T.size (Nat.le_refl _)
    have hr : Runs1 cJT T (5 + 4) (T.size - 0) 0 n := runs1_of (by omega) (fun j hj sn => acc_JT_yes (by rw [Nat.zero_add]; exact hy j hj) sn) (fun h sn => acc_JT_no (by rw [Nat.zero_add]; exact hs (by omega)) sn)
    show Lands _ (M.mk cJT T T.size 0 0 true false 5 0 0 true (Array.replicate (2 * 0) none) (-1) (-1) #[] none [] 0 none _ none) _
    by_cases hn0 : n = 0
    · subst hn0
      have hne : ¬ (T.size ≠ 0 ∧ ∀ i < T.size, tokB (T.getD i 0) = true) := fun h => by
        have := h.2 0 (by omega); rw [hs (by omega)] at this; cases this
      simp only [if_neg hne]
      refine Lands.mono (k := 2) ?_ (by omega)
      refine L_rep1_no (n := 0) (by decide) (by rfl) (Nat.zero_le _) (by decide) (by show T.size - 0 ≤ 4294967295; omega) hr fun sn => ?_
      exact P_fin (b := false) fun sn => rfl
    · rw [show 3 * T.size + 10 = (3 * T.size + 8) + 1 + 1 by omega]
      refine L_rep1 (n := n) (by decide) (by rfl) (Nat.zero_le _) (by show 1 ≤ n; omega) (by omega) (by show T.size - 0 ≤ 4294967295; omega) hr (by decide) fun sn => ?_
      by_cases hfull : n = T.size
      · have hyes : T.size ≠ 0 ∧ ∀ i < T.size, tokB (T.getD i 0) = true := ⟨h0, fun i hi => hy i (by omega)⟩
        simp only [if_pos hyes]
        refine L_succ (by decide) (by rfl) (by simp; omega) fun sn => ?_
        refine Lands.mono (k := 1 + 1) ?_ (by omega)
        exact P_give_yes fun sn => P_fin (b := true) fun sn => rfl
      · have hne : ¬ (T.size ≠ 0 ∧ ∀ i < T.size, tokB (T.getD i 0) = true) := fun h => by
          have := h.2 n (by omega); rw [hs (by omega)] at this; cases this
        simp only [if_neg hne]
        refine L_succ_no (by decide) (by rfl) (by simp; omega) fun sn => ?_
        rw [Nat.zero_add]
        exact Lands.mono (JT_back n _ _ _ _ _ _ _ _ _ _ (by omega) rfl (by decide)) (by omega)
end
section
-- Sre4
set_option maxRecDepth 10000
open PySem.Sre

theorem longest (f : Nat → Bool) (m : Nat) : ∃ n, n ≤ m ∧ (∀ j, j < n → f j = true) ∧ (n < m → f n = false) := by
  induction m with
  | zero => exact ⟨0, Nat.le_refl _, fun j hj => absurd hj (by omega), fun h => absurd h (by omega)⟩
  | succ m ih =>
    obtain ⟨n, h1, h2, h3⟩ := ih
    by_cases e : n < m
    · exact ⟨n, by omega, h2, fun _ => h3 e⟩
    · have : n = m := by omega
      subst this
      cases hb : f n with
      | false => exact ⟨n, by omega, h2, fun _ => hb⟩
      | true => exact ⟨n + 1, by omega, fun j hj => by
          by_cases q : j = n
          · subst q; exact hb
          · exact h2 j (by omega), fun h => absurd h (by omega)⟩

/-- a match of one group -/
def Hit (a b x y : Nat) (m : M) : Prop := m.outcome = some .matched ∧ m.start = a ∧ m.handed = b ∧ m.marks = #[some x, some y] ∧ m.lastmark = 1 ∧ m.lastindex = 1
def Miss (m : M) : Prop := m.outcome = some .failed

/-! the search for a mark or a backslash -/
def cJE : Array Nat := #[14, 9, 4, 1, 1, 16, 34, 16, 92, 0, 17, 0, 13, 6, 16, 34, 16, 92, 0, 17, 1, 1]
def escB (c : Nat) : Bool := c == 34 || c == 92
theorem inset_JE (i c : Nat) (f : Nat) (sn : Sre.Seen) (h0 : cJE.getD (i + 0) 0 = 16) (h1 : cJE.getD (i + 1) 0 = 34) (h2 : cJE.getD (i + 2 + 0) 0 = 16) (h3 : cJE.getD (i + 2 + 1) 0 = 92) (h4 : cJE.getD (i + 2 + 2 + 0) 0 = 0) :
    ∃ sn', inSet cJE c (f + 3) i true sn = .ok (escB c, sn') := by
  rw [show f + 3 = (f + 2) + 1 from rfl, inSet]
  simp only [h0, h1, show ops[16]? = some Op.LITERAL from rfl]
  cases e : (c == 34) with
  | true => rw [show escB c = true from by simp [escB, e]]; simp only [if_true]; exact ⟨_, rfl⟩
  | false =>
    simp only [Bool.false_eq_true, if_false]
    rw [show f + 2 = (f + 1) + 1 from rfl, inSet]
    simp only [h2, h3, show ops[16]? = some Op.LITERAL from rfl]
    cases e2 : (c == 92) with
    | true => rw [show escB c = true from by simp [escB, e2]]; simp only [if_true]; exact ⟨_, rfl⟩
    | false =>
      simp only [Bool.false_eq_true, if_false]
      rw [inSet]
      simp only [h4, show ops[0]? = some Op.FAILURE from rfl]
      rw [show escB c = false from by simp [escB, e, e2]]; exact ⟨_, rfl⟩
theorem acc_JE (c : Nat) (sn : Sre.Seen) : ∃ sn', accepts cJE 12 c sn = .ok (escB c, sn') := by
  unfold accepts
  simp only [show cJE.getD 12 0 = 13 from rfl, show ops[13]? = some Op.IN from rfl, show cJE.size = 22 from rfl]
  exact inset_JE 14 c 19 sn rfl rfl rfl rfl rfl
theorem admitted_JE {m : M} (hC : m.code = cJE) : ∀ (fuel s : Nat) (sn : Sre.Seen), m.lim < fuel + s →
    (∃ q sn', s ≤ q ∧ q < m.lim ∧ escB (m.text.getD q 0) = true ∧ (∀ j, s ≤ j → j < q → escB (m.text.getD j 0) = false) ∧ M.admitted m fuel s sn = .ok (some q, sn')) ∨
    (∃ sn', (∀ j, s ≤ j → j < m.lim → escB (m.text.getD j 0) = false) ∧ M.admitted m fuel s sn = .ok (none, sn'))
  | 0, s, sn, h => .inr ⟨sn, fun j h1 h2 => absurd h2 (by omega), rfl⟩
  | fuel + 1, s, sn, h => by
    rw [M.admitted]
    by_cases hs : s ≥ m.lim
    · rw [if_pos hs]; exact .inr ⟨sn, fun j h1 h2 => absurd h2 (by omega), rfl⟩
    · rw [if_neg hs, hC]
      obtain ⟨sn', e⟩ := inset_JE 5 (m.text.getD s 0) 19 sn rfl rfl rfl rfl rfl
      rw [show cJE.size = 19 + 3 from rfl, e]
      cases hb : escB (m.text.getD s 0) with
      | true => exact .inl ⟨s, sn', Nat.le_refl _, by omega, hb, fun j h1 h2 => absurd h2 (by omega), rfl⟩
      | false =>
        rcases admitted_JE hC fuel (s + 1) sn' (by omega) with ⟨q, sn₂, h1, h2, h3, h4, h5⟩ | ⟨sn₂, h4, h5⟩
        · refine .inl ⟨q, sn₂, by omega, h2, h3, fun j a b => ?_, h5⟩
          by_cases e : j = s
          · subst e; exact hb
          · exact h4 j (by omega) b
        · refine .inr ⟨sn₂, fun j a b => ?_, h5⟩
          by_cases e : j = s
          · subst e; exact hb
          · exact h4 j (by omega) b
theorem first_JE {m : M} (hC : m.code = cJE) : m.hasFirstSet = true := by unfold M.hasFirstSet; rw [hC]; rfl

theorem JE_search (T : Array Nat) (s : Nat) (hs : s ≤ T.size) (must : Bool) :
    (∃ q, s ≤ q ∧ q < T.size ∧ escB (T.getD q 0) = true ∧ (∀ j, s ≤ j → j < q → escB (T.getD j 0) = false) ∧ Lands 10 (forSearch cJE T 1 s T.size must) (Hit q (q + 1) q (q + 1))) ∨
    ((∀ j, s ≤ j → j < T.size → escB (T.getD j 0) = false) ∧ Lands 10 (forSearch cJE T 1 s T.size must) Miss) := by
  unfold forSearch
  simp only [show header cJE = (1, 10) from rfl]
  by_cases h0 : T.size - s < 1
  · refine .inr ⟨fun j a b => absurd b (by omega), ?_⟩
    rw [if_pos (by simp; omega)]
    exact Lands.mono (k := 0 + 1) (P_fin (b := false) fun sn => rfl) (by omega)
  · rw [if_neg (by simp; omega)]
    rcases admitted_JE (m := M.mk cJE T T.size s T.size false must 10 s s true (Array.replicate (2 * 1) none) (-1) (-1) #[] none [] 0 none (({} : Sre.Seen).add 14) none) rfl (T.size + 1 - s) s (({} : Sre.Seen).add 14) (by show T.size < _; omega) with ⟨q, sn', h1, h2, h3, h4, h5⟩ | ⟨sn', h4, h5⟩
    · refine .inl ⟨q, h1, h2, h3, h4, ?_⟩
      have e : M.attemptFrom (M.mk cJE T T.size s T.size false must 10 s s true (Array.replicate (2 * 1) none) (-1) (-1) #[] none [] 0 none (({} : Sre.Seen).add 14) none) s true =
          M.mk cJE T T.size q T.size false false 10 q q true (Array.replicate (2 * 1) none) (-1) (-1) #[] none [Sre.Frame.mk .nextStart 10 q true 0 {} 0 none] 1 none sn' none := by
        unfold M.attemptFrom
        rw [first_JE rfl]
        simp only [Bool.not_true, Bool.false_eq_true, if_false, h5]
        rfl
      show Lands 10 (M.attemptFrom (M.mk cJE T T.size s T.size false must 10 s s true (Array.replicate (2 * 1) none) (-1) (-1) #[] none [] 0 none (({} : Sre.Seen).add 14) none) s true) _
      rw [e]
      refine Lands.mono (k := 0 + 1 + 1 + 1 + 1 + 1 + 1) ?_ (by omega)
      refine L_mark (i := 0) (by decide) rfl rfl (by decide) fun sn => ?_
      refine L_in (by decide) rfl h2 (fun sn => by have := acc_JE (T.getD q 0) sn; rwa [h3] at this) fun sn => ?_
      refine L_mark (i := 1) (by decide) rfl rfl (by decide) fun sn => ?_
      refine L_succ (by decide) rfl (by simp) fun sn => ?_
      refine P_next_yes fun sn => ?_
      exact P_fin (b := true) fun sn => ⟨rfl, rfl, rfl, rfl, rfl, rfl⟩
    · refine .inr ⟨h4, ?_⟩
      have e : M.attemptFrom (M.mk cJE T T.size s T.size false must 10 s s true (Array.replicate (2 * 1) none) (-1) (-1) #[] none [] 0 none (({} : Sre.Seen).add 14) none) s true =
          M.mk cJE T T.size s T.size false must 10 s s true (Array.replicate (2 * 1) none) (-1) (-1) #[] none [] 0 (some false) sn' none := by
        unfold M.attemptFrom
        rw [first_JE rfl]
        simp only [Bool.not_true, Bool.false_eq_true, if_false, h5]
        rfl
      show Lands 10 (M.attemptFrom (M.mk cJE T T.size s T.size false must 10 s s true (Array.replicate (2 * 1) none) (-1) (-1) #[] none [] 0 none (({} : Sre.Seen).add 14) none) s true) _
      rw [e]
      exact Lands.mono (k := 0 + 1) (P_fin (b := false) fun sn => rfl) (by omega)

/-! starts that are not at the beginning -/
theorem AT_none {C T : Array Nat} {lim ls : Nat} {wt : Bool} {lp : Array Loop} {inn : Option Nat} (hs : 5 < C.size) (h5 : C.getD 5 0 = 6) (h6 : C.getD 6 0 = 0) (hf : (C.getD 0 0 == 14 && C.getD 2 0 == 4) = false) :
    ∀ (d fpos st pc pos hd : Nat) (om ma : Bool) (mk : Array (Option Nat)) (lm li : Int) (fom : Bool) (cnt : Int) (kp : Sre.Kept) (flp : Nat) (fbg : Option Nat) (wg : Nat) (sn : Sre.Seen), ls - fpos ≤ d → kp.marks = #[] → wg ≤ 100 →
      Lands (2 * d + 2) (M.mk C T lim st ls wt ma pc pos hd om mk lm li lp inn [Sre.Frame.mk .nextStart 5 fpos fom cnt kp flp fbg] wg (some false) sn none) Miss
  | 0, fpos, st, pc, pos, hd, om, ma, mk, lm, li, fom, cnt, kp, flp, fbg, wg, sn, hd', _, _ => by
    refine P_next_end (by omega) fun sn => ?_
    exact P_fin (b := false) fun sn => rfl
  | d + 1, fpos, st, pc, pos, hd, om, ma, mk, lm, li, fom, cnt, kp, flp, fbg, wg, sn, hd', hk, hw => by
    by_cases h : fpos < ls
    · rw [show 2 * (d + 1) + 2 = (2 * d + 2) + 1 + 1 by omega]
      refine P_next_more h hf (by rw [hk]; show wg - (1 + 0) + 1 ≤ _; omega) fun sn => ?_
      refine L_at0_no hs h5 h6 (by omega) fun sn => ?_
      exact AT_none hs h5 h6 hf d (fpos + 1) _ _ _ _ _ _ _ _ _ _ _ _ _ _ _ sn (by omega) rfl (by rw [hk]; show wg - (1 + 0) + 1 ≤ 100; omega)
    · refine Lands.mono (k := 0 + 1 + 1) ?_ (by omega)
      refine P_next_end h fun sn => ?_
      exact P_fin (b := false) fun sn => rfl

/-- blanks -/
theorem acc_sp {C : Array Nat} {i c : Nat} (h0 : C.getD i 0 = 13) (h2 : C.getD (i + 2 + 0) 0 = 8) (h3 : C.getD (i + 2 + 1) 0 = 12) (h4 : C.getD (i + 2 + 2 + 0) 0 = 0) (hsz : 2 ≤ C.size) (sn : Sre.Seen) :
    ∃ sn', accepts C i c sn = .ok (Unicode.isSpace c, sn') := by
  unfold accepts
  obtain ⟨f, hf⟩ : ∃ f, C.size = f + 2 := ⟨C.size - 2, by omega⟩
  simp only [h0, show ops[13]? = some Op.IN from rfl, hf]
  rw [show f + 2 = (f + 1) + 1 from rfl, inSet]
  simp only [h2, h3, show ops[8]? = some Op.CATEGORY from rfl]
  have hc : category 12 c = .ok (Unicode.isSpace c) := by
    unfold category
    show Except.map _ (Except.ok (Unicode.isSpace c)) = _
    show Except.ok (Unicode.isSpace c != false) = _
    cases Unicode.isSpace c <;> rfl
  rw [hc]
  cases hb : Unicode.isSpace c with
  | true => exact ⟨_, rfl⟩
  | false =>
    show ∃ sn', inSet C c (f + 1) (i + 2 + 2) true _ = _
    rw [inSet]
    simp only [h4, show ops[0]? = some Op.FAILURE from rfl]
    exact ⟨_, rfl⟩
theorem no_space : ∀ c, c < 128 → 33 ≤ c → Unicode.isSpace c = false := by decide +kernel
end
section
-- Sre5
set_option maxRecDepth 10000
open PySem.Sre

theorem start_at {C T : Array Nat} {lim s ls body : Nat} {must : Bool} {mk : Array (Option Nat)} {sn : Sre.Seen} (hf : (C.getD 0 0 == 14 && C.getD 2 0 == 4) = false) :
    M.attemptFrom (M.mk C T lim s ls false must body s s true mk (-1) (-1) #[] none [] 0 none sn none) s true =
      M.mk C T lim s ls false must body s s true mk (-1) (-1) #[] none [Sre.Frame.mk .nextStart body s true 0 {} 0 none] 1 none sn none := by
  unfold M.attemptFrom
  rw [noFirst hf]
  rfl

/-! a backslash and a sign -/
def cES : Array Nat := #[14, 8, 1, 2, 2, 1, 1, 92, 0, 16, 92, 17, 0, 2, 17, 1, 1]
theorem ES_go {T : Array Nat} : ∀ (d fpos st pc pos hd : Nat) (om ma : Bool) (mk : Array (Option Nat)) (lm li : Int) (fom : Bool) (cnt : Int) (kp : Sre.Kept) (flp : Nat) (fbg : Option Nat) (wg : Nat) (sn : Sre.Seen),
    T.size - fpos ≤ d → kp.marks = #[] → wg ≤ 100 → mk.size = 2 →
      (∀ q, fpos < q → q < T.size → T.getD q 0 = 92 → (∀ j, fpos < j → j < q → T.getD j 0 ≠ 92) → q + 1 < T.size → T.getD (q + 1) 0 ≠ 10 →
        Lands (2 * d + 10) (M.mk cES T T.size st T.size false ma pc pos hd om mk lm li #[] none [Sre.Frame.mk .nextStart 9 fpos fom cnt kp flp fbg] wg (some false) sn none) (Hit q (q + 2) (q + 1) (q + 2))) ∧
      ((∀ j, fpos < j → j < T.size → T.getD j 0 ≠ 92) →
        Lands (2 * d + 10) (M.mk cES T T.size st T.size false ma pc pos hd om mk lm li #[] none [Sre.Frame.mk .nextStart 9 fpos fom cnt kp flp fbg] wg (some false) sn none) Miss)
  | 0, fpos, st, pc, pos, hd, om, ma, mk, lm, li, fom, cnt, kp, flp, fbg, wg, sn, hd', _, _, _ => by
    refine ⟨fun q h1 h2 => absurd h2 (by omega), fun _ => ?_⟩
    refine Lands.mono (k := 0 + 1 + 1) ?_ (by omega)
    refine P_next_end (by omega) fun sn => ?_
    exact P_fin (b := false) fun sn => rfl
  | d + 1, fpos, st, pc, pos, hd, om, ma, mk, lm, li, fom, cnt, kp, flp, fbg, wg, sn, hd', hk, hw, hmk => by
    by_cases h : fpos < T.size
    · have hw' : wg - (1 + kp.marks.size) + 1 ≤ 100 := by rw [hk]; show wg - (1 + 0) + 1 ≤ 100; omega
      refine ⟨fun q h1 h2 h3 h4 h5 h6 => ?_, fun h4 => ?_⟩
      · by_cases e : fpos + 1 = q
        · subst e
          refine Lands.mono (k := 0 + 1 + 1 + 1 + 1 + 1 + 1 + 1 + 1) ?_ (by omega)
          refine P_next_more h rfl (by omega) fun sn => ?_
          refine L_lit (by decide) rfl h2 h3 fun sn => ?_
          refine L_mark (i := 0) (by decide) rfl rfl (by decide) fun sn => ?_
          refine L_any (by decide) rfl h5 h6 fun sn => ?_
          refine L_mark (i := 1) (by decide) rfl rfl (by decide) fun sn => ?_
          refine L_succ (by decide) rfl (by simp) fun sn => ?_
          refine P_next_yes fun sn => ?_
          refine P_fin (b := true) fun sn => ⟨rfl, rfl, rfl, ?_, rfl, rfl⟩
          obtain ⟨l⟩ := mk
          match l, hmk with
          | [a, b], _ => rfl
        · rw [show 2 * (d + 1) + 10 = (2 * d + 10) + 1 + 1 by omega]
          refine P_next_more h rfl (by omega) fun sn => ?_
          refine L_lit_no (by decide) rfl (fun _ => h4 _ (by omega) (by omega)) fun sn => ?_
          exact (ES_go d (fpos + 1) _ _ _ _ _ _ _ _ _ _ _ _ _ _ _ sn (by omega) rfl hw' hmk).1 q (by omega) h2 h3 (fun j a b => h4 j (by omega) b) h5 h6
      · by_cases e : fpos + 1 < T.size
        · rw [show 2 * (d + 1) + 10 = (2 * d + 10) + 1 + 1 by omega]
          refine P_next_more h rfl (by omega) fun sn => ?_
          refine L_lit_no (by decide) rfl (fun _ => h4 _ (by omega) (by omega)) fun sn => ?_
          exact (ES_go d (fpos + 1) _ _ _ _ _ _ _ _ _ _ _ _ _ _ _ sn (by omega) rfl hw' hmk).2 (fun j a b => h4 j (by omega) b)
        · refine Lands.mono (k := 0 + 1 + 1 + 1 + 1) ?_ (by omega)
          refine P_next_more h rfl (by omega) fun sn => ?_
          refine L_lit_no (by decide) rfl (fun q => absurd q e) fun sn => ?_
          refine P_next_end (by omega) fun sn => ?_
          exact P_fin (b := false) fun sn => rfl
    · refine ⟨fun q h1 h2 => absurd h2 (by omega), fun _ => ?_⟩
      refine Lands.mono (k := 0 + 1 + 1) ?_ (by omega)
      refine P_next_end h fun sn => ?_
      exact P_fin (b := false) fun sn => rfl
/-- the search for a backslash and a sign, in a text where each backslash has a sign behind it -/
theorem ES_search (T : Array Nat) (s : Nat) (hs : s ≤ T.size) (must : Bool) :
    (∀ q, s ≤ q → q < T.size → T.getD q 0 = 92 → (∀ j, s ≤ j → j < q → T.getD j 0 ≠ 92) → q + 1 < T.size → T.getD (q + 1) 0 ≠ 10 → (must = true → s < q) → Lands (2 * T.size + 20) (forSearch cES T 1 s T.size must) (Hit q (q + 2) (q + 1) (q + 2))) ∧
    ((∀ j, s ≤ j → j < T.size → T.getD j 0 ≠ 92) → Lands (2 * T.size + 20) (forSearch cES T 1 s T.size must) Miss) := by
  unfold forSearch
  simp only [show header cES = (2, 9) from rfl]
  by_cases h0 : T.size - s < 2
  · rw [if_pos (by simp; omega)]
    refine ⟨fun q h1 h2 h3 h4 h5 => absurd h5 (by omega), fun _ => ?_⟩
    exact Lands.mono (k := 0 + 1) (P_fin (b := false) fun sn => rfl) (by omega)
  · rw [if_neg (by simp; omega)]
    have e0 : ∀ P, Lands (2 * T.size + 20) (M.mk cES T T.size s T.size false must 9 s s true (Array.replicate (2 * 1) none) (-1) (-1) #[] none [Sre.Frame.mk .nextStart 9 s true 0 {} 0 none] 1 none (({} : Sre.Seen).add 14) none) P →
        Lands (2 * T.size + 20) (M.attemptFrom (M.mk cES T T.size s T.size false must 9 s s true (Array.replicate (2 * 1) none) (-1) (-1) #[] none [] 0 none (({} : Sre.Seen).add 14) none) s true) P := fun P h => by rw [start_at rfl]; exact h
    refine ⟨fun q h1 h2 h3 h4 h5 h6 h7 => e0 _ ?_, fun h4 => e0 _ ?_⟩
    · by_cases e : s = q
      · subst e
        have hm : must = false := by cases must with | false => rfl | true => exact absurd (h7 rfl) (by omega)
        refine Lands.mono (k := 0 + 1 + 1 + 1 + 1 + 1 + 1 + 1) ?_ (by omega)
        refine L_lit (by decide) rfl h2 h3 fun sn => ?_
        refine L_mark (i := 0) (by decide) rfl rfl (by decide) fun sn => ?_
        refine L_any (by decide) rfl h5 h6 fun sn => ?_
        refine L_mark (i := 1) (by decide) rfl rfl (by decide) fun sn => ?_
        refine L_succ (by decide) rfl (by simp [hm]) fun sn => ?_
        refine P_next_yes fun sn => ?_
        exact P_fin (b := true) fun sn => ⟨rfl, rfl, rfl, rfl, rfl, rfl⟩
      · rw [show 2 * T.size + 20 = (2 * T.size + 19) + 1 by omega]
        refine L_lit_no (by decide) rfl (fun _ => h4 _ (by omega) (by omega)) fun sn => ?_
        refine Lands.mono ((ES_go (T.size - s) s _ _ _ _ _ _ _ _ _ _ _ _ _ _ _ sn (by omega) rfl (by omega) rfl).1 q (by omega) h2 h3 (fun j a b => h4 j (by omega) b) h5 h6) (by omega)
    · rw [show 2 * T.size + 20 = (2 * T.size + 19) + 1 by omega]
      refine L_lit_no (by decide) rfl (fun h => h4 _ (by omega) h) fun sn => ?_
      refine Lands.mono ((ES_go (T.size - s) s _ _ _ _ _ _ _ _ _ _ _ _ _ _ _ sn (by omega) rfl (by omega) rfl).2 (fun j a b => h4 j (by omega) b)) (by omega)

/-! the key -/
def cTK : Array Nat := #[14, 4, 0, 1, 4294967295, 6, 0, 24, 9, 0, 4294967295, 13, 4, 8, 12, 0, 1, 17, 0, 24, 19, 1, 4294967295, 13, 14, 21, 9, 0, 671092736, 0, 0, 0, 0, 0, 0, 8, 12, 0, 1, 17, 1, 1]
def csB (c : Nat) : Bool := c < 256 && (cTK.getD (26 + (1 + c / 32)) 0).testBit (c % 32)
theorem acc_TK (c : Nat) (sn : Sre.Seen) : ∃ sn', accepts cTK 23 c sn = .ok (!(csB c || Unicode.isSpace c), sn') := by
  unfold accepts
  simp only [show cTK.getD 23 0 = 13 from rfl, show ops[13]? = some Op.IN from rfl, show cTK.size = 38 + 1 + 1 + 1 + 1 from rfl]
  rw [inSet]
  simp only [show cTK.getD (23 + 2 + 0) 0 = 21 from rfl, show ops[21]? = some Op.NEGATE from rfl, show 23 + 2 + 1 = 26 from rfl, Bool.not_true]
  rw [inSet]
  simp only [show cTK.getD (26 + 0) 0 = 9 from rfl, show ops[9]? = some Op.CHARSET from rfl]
  cases hb : csB c with
  | true =>
    have h' := hb
    unfold csB at h'
    rw [if_pos h']; exact ⟨_, rfl⟩
  | false =>
    have h' : ¬ _ := fun q => Bool.false_ne_true (hb.symm.trans q)
    unfold csB at h'
    rw [if_neg h', inSet]
    simp only [show cTK.getD (26 + 9 + 0) 0 = 8 from rfl, show cTK.getD (26 + 9 + 1) 0 = 12 from rfl, show ops[8]? = some Op.CATEGORY from rfl]
    have hc : category 12 c = .ok (Unicode.isSpace c) := by
      unfold category
      show Except.ok (Unicode.isSpace c != false) = _
      cases Unicode.isSpace c <;> rfl
    rw [hc]
    cases hs : Unicode.isSpace c with
    | true => exact ⟨_, rfl⟩
    | false =>
      show ∃ sn', inSet cTK c (38 + 1) (26 + 9 + 2) false _ = _
      rw [inSet]
      simp only [show cTK.getD (26 + 9 + 2 + 0) 0 = 0 from rfl, show ops[0]? = some Op.FAILURE from rfl]
      exact ⟨_, rfl⟩
theorem csB_no : ∀ c, c < 128 → c ≠ 44 → c ≠ 59 → c ≠ 61 → csB c = false := by decide +kernel

theorem sp0 {C T : Array Nat} {i room p : Nat} (h0 : C.getD i 0 = 13) (h2 : C.getD (i + 2 + 0) 0 = 8) (h3 : C.getD (i + 2 + 1) 0 = 12) (h4 : C.getD (i + 2 + 2 + 0) 0 = 0) (hsz : 2 ≤ C.size) (hc : 0 < room → Unicode.isSpace (T.getD p 0) = false) : Runs1 C T i room p 0 :=
  runs1_of (Nat.zero_le _) (fun j hj => absurd hj (by omega)) fun h sn => by have := acc_sp (c := T.getD p 0) h0 h2 h3 h4 hsz sn; rw [hc h] at this; rw [Nat.add_zero]; exact this

theorem TK_yes (T : Array Nat) (h1 : 1 < T.size) (hsz : T.size ≤ 1000000) (hc : T.getD 0 0 < 128) (hc33 : 33 ≤ T.getD 0 0) (hn1 : T.getD 0 0 ≠ 44) (hn2 : T.getD 0 0 ≠ 59) (hn3 : T.getD 0 0 ≠ 61) (he : T.getD 1 0 = 61) :
    Lands 20 (forSearch cTK T 1 0 T.size false) (Hit 0 1 0 1) := by
  unfold forSearch
  simp only [show header cTK = (1, 5) from rfl]
  rw [if_neg (by rw [Bool.or_eq_true, decide_eq_true_eq, decide_eq_true_eq]; omega)]
  show Lands 20 (M.attemptFrom (M.mk cTK T T.size 0 T.size false false 5 0 0 true (Array.replicate (2 * 1) none) (-1) (-1) #[] none [] 0 none _ none) 0 true) _
  rw [start_at rfl]
  refine Lands.mono (k := 0 + 1 + 1 + 1 + 1 + 1 + 1 + 1 + 1 + 1 + 1) ?_ (by omega)
  refine L_at0 (by decide) rfl rfl rfl fun sn => ?_
  refine L_rep1 (n := 0) (by decide) rfl (by omega) (by decide) (by omega) (by show T.size - 0 ≤ 4294967295; omega) (sp0 rfl rfl rfl rfl (by decide) fun _ => no_space _ hc hc33) (by decide) fun sn => ?_
  refine L_mark (i := 0) (by decide) rfl rfl (by decide) fun sn => ?_
  refine L_rep1 (n := 1) (by decide) rfl (by omega) (by decide) (by omega) (by show T.size - 0 ≤ 4294967295; omega) (runs1_of (by omega) (fun j hj sn => ?_) fun h sn => ?_) (by decide) fun sn => ?_
  · obtain rfl : j = 0 := by omega
    have := acc_TK (T.getD 0 0) sn
    rwa [csB_no _ hc hn1 hn2 hn3, no_space _ hc hc33] at this
  · have := acc_TK 61 sn
    show ∃ sn', accepts cTK 23 (T.getD 1 0) sn = _
    rw [he]; exact this
  refine L_mark (i := 1) (by decide) rfl rfl (by decide) fun sn => ?_
  refine L_succ (by decide) rfl (by simp) fun sn => ?_
  refine P_give_yes fun sn => ?_
  refine P_give_yes fun sn => ?_
  refine P_next_yes fun sn => ?_
  exact P_fin (b := true) fun sn => ⟨rfl, rfl, rfl, rfl, rfl, rfl⟩
theorem TK_no (T : Array Nat) (h1 : 0 < T.size) (hsz : T.size ≤ 1000000) (hc : T.getD 0 0 = 59) :
    Lands (2 * T.size + 20) (forSearch cTK T 1 0 T.size false) Miss := by
  unfold forSearch
  simp only [show header cTK = (1, 5) from rfl]
  rw [if_neg (by rw [Bool.or_eq_true, decide_eq_true_eq, decide_eq_true_eq]; omega)]
  show Lands _ (M.attemptFrom (M.mk cTK T T.size 0 T.size false false 5 0 0 true (Array.replicate (2 * 1) none) (-1) (-1) #[] none [] 0 none _ none) 0 true) _
  rw [start_at rfl]
  rw [show 2 * T.size + 20 = (2 * T.size + 15) + 1 + 1 + 1 + 1 + 1 by omega]
  refine L_at0 (by decide) rfl rfl rfl fun sn => ?_
  refine L_rep1 (n := 0) (by decide) rfl (by omega) (by decide) (by omega) (by show T.size - 0 ≤ 4294967295; omega) (sp0 rfl rfl rfl rfl (by decide) fun _ => by rw [hc]; decide +kernel) (by decide) fun sn => ?_
  refine L_mark (i := 0) (by decide) rfl rfl (by decide) fun sn => ?_
  refine L_rep1_no (n := 0) (by decide) rfl (by omega) (by decide) (by show T.size - 0 ≤ 4294967295; omega) (runs1_of (by omega) (fun j hj sn => absurd hj (by omega)) fun h sn => ?_) fun sn => ?_
  · have := acc_TK 59 sn
    show ∃ sn', accepts cTK 23 (T.getD 0 0) sn = _
    rw [hc]; exact this
  refine P_give_no (by decide) fun sn => ?_
  exact Lands.mono (AT_none (by decide) rfl rfl rfl T.size 0 _ _ _ _ _ _ _ _ _ _ _ _ _ _ _ sn (by omega) rfl (by decide)) (by omega)
end
section
-- Sre6
set_option maxRecDepth 10000
open PySem.Sre

theorem getD_drop (T : Array Nat) (q j : Nat) : T.getD (q + j) 0 = (T.toList.drop q).getD j 0 := by
  simp [Array.getD_eq_getD_getElem?, List.getD_eq_getElem?_getD, List.getElem?_drop]
theorem getD_of_drop {T : Array Nat} {q j : Nat} {R : List Nat} (h : T.toList.drop q = R) : T.getD (q + j) 0 = R.getD j 0 := by rw [getD_drop, h]
theorem size_of_drop {T : Array Nat} {q : Nat} {R : List Nat} (h : T.toList.drop q = R) : T.size - q = R.length := by rw [← h]; simp
theorem drop_more {T : Array Nat} {q : Nat} {a b : List Nat} (h : T.toList.drop q = a ++ b) : T.toList.drop (q + a.length) = b := by
  rw [← List.drop_drop, h]; simp

/-! the bare value -/
def cVL : Array Nat := #[14, 4, 0, 1, 4294967295, 6, 0, 24, 9, 0, 4294967295, 13, 4, 8, 12, 0, 1, 16, 61, 24, 9, 0, 4294967295, 13, 4, 8, 12, 0, 1, 17, 0, 24, 14, 0, 4294967295, 13, 9, 21, 8, 12, 16, 59, 16, 44, 0, 1, 17, 1, 1]
theorem cat12 (c : Nat) : category 12 c = .ok (Unicode.isSpace c) := by
  unfold category
  show Except.ok (Unicode.isSpace c != false) = _
  cases Unicode.isSpace c <;> rfl
theorem acc_VL (c : Nat) (sn : Sre.Seen) : ∃ sn', accepts cVL 35 c sn = .ok (!(Unicode.isSpace c || c == 59 || c == 44), sn') := by
  unfold accepts
  simp only [show cVL.getD 35 0 = 13 from rfl, show ops[13]? = some Op.IN from rfl, show cVL.size = 44 + 1 + 1 + 1 + 1 + 1 from rfl]
  rw [inSet]
  simp only [show cVL.getD (35 + 2 + 0) 0 = 21 from rfl, show ops[21]? = some Op.NEGATE from rfl, show 35 + 2 + 1 = 38 from rfl, Bool.not_true]
  rw [inSet]
  simp only [show cVL.getD (38 + 0) 0 = 8 from rfl, show cVL.getD (38 + 1) 0 = 12 from rfl, show ops[8]? = some Op.CATEGORY from rfl, cat12]
  cases hs : Unicode.isSpace c with
  | true => exact ⟨_, rfl⟩
  | false =>
    show ∃ sn', inSet cVL c (44 + 1 + 1 + 1) 40 false _ = _
    rw [inSet]
    simp only [show cVL.getD (40 + 0) 0 = 16 from rfl, show cVL.getD (40 + 1) 0 = 59 from rfl, show ops[16]? = some Op.LITERAL from rfl]
    cases h1 : (c == 59) with
    | true => exact ⟨_, rfl⟩
    | false =>
      simp only [Bool.false_eq_true, if_false, show 40 + 2 = 42 from rfl]
      rw [inSet]
      simp only [show cVL.getD (42 + 0) 0 = 16 from rfl, show cVL.getD (42 + 1) 0 = 44 from rfl, show ops[16]? = some Op.LITERAL from rfl]
      cases h2 : (c == 44) with
      | true => exact ⟨_, rfl⟩
      | false =>
        simp only [Bool.false_eq_true, if_false, show 42 + 2 = 44 from rfl]
        rw [inSet]
        simp only [show cVL.getD (44 + 0) 0 = 0 from rfl, show ops[0]? = some Op.FAILURE from rfl]
        exact ⟨_, rfl⟩
theorem VL_yes (T : Array Nat) (n : Nat) (hsz : T.size ≤ 1000000) (h0 : T.getD 0 0 = 61) (hn : 1 + n ≤ T.size) (hn1 : 0 < n) (hw : ∀ j, j < n → 33 ≤ T.getD (1 + j) 0 ∧ T.getD (1 + j) 0 < 128 ∧ T.getD (1 + j) 0 ≠ 59 ∧ T.getD (1 + j) 0 ≠ 44) (he : 1 + n < T.size → T.getD (1 + n) 0 = 59) :
    Lands 30 (forSearch cVL T 1 0 T.size false) (Hit 0 (1 + n) 1 (1 + n)) := by
  unfold forSearch
  simp only [show header cVL = (1, 5) from rfl]
  rw [if_neg (by rw [Bool.or_eq_true, decide_eq_true_eq, decide_eq_true_eq]; omega)]
  show Lands 30 (M.attemptFrom (M.mk cVL T T.size 0 T.size false false 5 0 0 true (Array.replicate (2 * 1) none) (-1) (-1) #[] none [] 0 none _ none) 0 true) _
  rw [start_at rfl]
  refine Lands.mono (k := 0 + 1 + 1 + 1 + 1 + 1 + 1 + 1 + 1 + 1 + 1 + 1 + 1 + 1) ?_ (by omega)
  refine L_at0 (by decide) rfl rfl rfl fun sn => ?_
  refine L_rep1 (n := 0) (by decide) rfl (by omega) (by decide) (by omega) (by show T.size - 0 ≤ 4294967295; omega) (sp0 rfl rfl rfl rfl (by decide) fun _ => by rw [h0]; decide +kernel) (by decide) fun sn => ?_
  refine L_lit (by decide) rfl (by omega) (by rw [h0]; rfl) fun sn => ?_
  refine L_rep1 (n := 0) (by decide) rfl (by omega) (by decide) (by omega) (by show T.size - 1 ≤ 4294967295; omega) (sp0 rfl rfl rfl rfl (by decide) fun _ => no_space _ (hw 0 hn1).2.1 (hw 0 hn1).1) (by decide) fun sn => ?_
  refine L_mark (i := 0) (by decide) rfl rfl (by decide) fun sn => ?_
  refine L_rep1 (n := n) (by decide) rfl (by omega) (Nat.zero_le _) (by omega) (by show T.size - 1 ≤ 4294967295; omega) (runs1_of (by omega) (fun j hj sn => ?_) fun h sn => ?_) (by decide) fun sn => ?_
  · have q := hw j hj
    have := acc_VL (T.getD (1 + j) 0) sn
    rwa [no_space _ q.2.1 q.1, show (T.getD (1 + j) 0 == 59) = false by simpa using q.2.2.1, show (T.getD (1 + j) 0 == 44) = false by simpa using q.2.2.2] at this
  · have := acc_VL 59 sn
    show ∃ sn', accepts cVL 35 (T.getD (1 + n) 0) sn = _
    rw [he (by omega)]
    simpa using this
  refine L_mark (i := 1) (by decide) rfl rfl (by decide) fun sn => ?_
  refine L_succ (by decide) rfl (by simp) fun sn => ?_
  refine P_give_yes fun sn => ?_
  refine P_give_yes fun sn => ?_
  refine P_give_yes fun sn => ?_
  refine P_next_yes fun sn => ?_
  exact P_fin (b := true) fun sn => ⟨rfl, rfl, rfl, rfl, rfl, rfl⟩

/-! the quoted value -/
def cQV : Array Nat := #[14, 4, 0, 3, 4294967295, 6, 0, 24, 9, 0, 4294967295, 13, 4, 8, 12, 0, 1, 16, 61, 24, 9, 0, 4294967295, 13, 4, 8, 12, 0, 1, 16, 34, 17, 0, 24, 12, 0, 4294967295, 13, 7, 21, 16, 34, 16, 92, 0, 1, 23, 19, 0, 4294967295, 16, 92, 2, 24, 12, 0, 4294967295, 13, 7, 21, 16, 34, 16, 92, 0, 1, 18, 17, 1, 16, 34, 1]
theorem acc_QV {i : Nat} (c : Nat) (sn : Sre.Seen) (h0 : cQV.getD i 0 = 13) (h1 : cQV.getD (i + 2 + 0) 0 = 21) (h2 : cQV.getD (i + 2 + 1 + 0) 0 = 16) (h3 : cQV.getD (i + 2 + 1 + 1) 0 = 34)
    (h4 : cQV.getD (i + 2 + 1 + 2 + 0) 0 = 16) (h5 : cQV.getD (i + 2 + 1 + 2 + 1) 0 = 92) (h6 : cQV.getD (i + 2 + 1 + 2 + 2 + 0) 0 = 0) : ∃ sn', accepts cQV i c sn = .ok (!escB c, sn') := by
  unfold accepts
  simp only [h0, show ops[13]? = some Op.IN from rfl, show cQV.size = 68 + 1 + 1 + 1 + 1 from rfl]
  rw [inSet]
  simp only [h1, show ops[21]? = some Op.NEGATE from rfl, Bool.not_true]
  rw [inSet]
  simp only [h2, h3, show ops[16]? = some Op.LITERAL from rfl]
  cases e1 : (c == 34) with
  | true => rw [show escB c = true from by simp [escB, e1]]; exact ⟨_, rfl⟩
  | false =>
    simp only [Bool.false_eq_true, if_false]
    rw [inSet]
    simp only [h4, h5, show ops[16]? = some Op.LITERAL from rfl]
    cases e2 : (c == 92) with
    | true => rw [show escB c = true from by simp [escB, e2]]; exact ⟨_, rfl⟩
    | false =>
      simp only [Bool.false_eq_true, if_false]
      rw [inSet]
      simp only [h6, show ops[0]? = some Op.FAILURE from rfl]
      rw [show escB c = false from by simp [escB, e1, e2]]; exact ⟨_, rfl⟩

/-- each mark and backslash with a backslash ahead -/
def esc (cs : List Nat) : List Nat := cs.flatMap fun c => if escB c then [92, c] else [c]
theorem esc_cons_special {d : Nat} {r : List Nat} (h : escB d = true) : esc (d :: r) = 92 :: d :: esc r := by simp [esc, h]
theorem esc_plain {pl r : List Nat} (h : ∀ c ∈ pl, escB c = false) : esc (pl ++ r) = pl ++ esc r := by
  induction pl with
  | nil => rfl
  | cons c pl ih =>
    have h1 := h c (.head _)
    have h2 := ih fun x hx => h x (.tail _ hx)
    unfold esc at h2 ⊢
    simp only [List.cons_append, List.flatMap_cons, h1, Bool.false_eq_true, if_false, h2]
    rfl
theorem esc_cons (c : Nat) (r : List Nat) : esc (c :: r) = (if escB c then [92, c] else [c]) ++ esc r := rfl
theorem esc_len (l : List Nat) : l.length ≤ (esc l).length := by
  induction l with
  | nil => exact Nat.le_refl _
  | cons c l ih =>
    rw [esc_cons, List.length_append, List.length_cons]
    by_cases h : escB c = true
    · rw [if_pos h]; simp only [List.length_cons, List.length_nil]; omega
    · rw [if_neg h]; simp only [List.length_cons, List.length_nil]; omega
def HeadSp (cs : List Nat) : Prop := cs = [] ∨ ∃ d r, cs = d :: r ∧ escB d = true
theorem split_plain : ∀ cs : List Nat, ∃ pl r, cs = pl ++ r ∧ (∀ c ∈ pl, escB c = false) ∧ HeadSp r
  | [] => ⟨[], [], rfl, fun c h => (nomatch h), .inl rfl⟩
  | c :: cs => by
    cases h : escB c with
    | true => exact ⟨[], c :: cs, rfl, fun c h => (nomatch h), .inr ⟨c, cs, rfl, h⟩⟩
    | false =>
      obtain ⟨pl, r, e, hp, hr⟩ := split_plain cs
      refine ⟨c :: pl, r, by rw [e]; rfl, fun x hx => ?_, hr⟩
      rcases List.mem_cons.mp hx with rfl | hx
      · exact h
      · exact hp x hx
/-- what stands behind a plain run: a mark or a backslash -/
theorem esc_head {r rest : List Nat} (h : HeadSp r) : escB ((esc r ++ 34 :: rest).getD 0 0) = true := by
  rcases h with rfl | ⟨d, r', rfl, hd⟩
  · rfl
  · rw [esc_cons_special hd]; rfl
theorem run_QV {T : Array Nat} {i q : Nat} {pl r rest : List Nat} (ha : ∀ c sn, ∃ sn', accepts cQV i c sn = .ok (!escB c, sn')) (hR : T.toList.drop q = pl ++ (esc r ++ 34 :: rest)) (hp : ∀ c ∈ pl, escB c = false) (hr : HeadSp r) :
    Runs1 cQV T i (T.size - q) q pl.length := by
  have hs := size_of_drop hR
  refine runs1_of (by rw [hs]; simp) (fun j hj sn => ?_) fun h sn => ?_
  · have e : T.getD (q + j) 0 = pl[j] := by
      rw [getD_of_drop hR, List.getD_eq_getElem?_getD, List.getElem?_append_left hj, List.getElem?_eq_getElem hj]; rfl
    have := ha pl[j] sn
    rw [hp _ (List.getElem_mem hj)] at this
    rw [e]; exact this
  · have e : T.getD (q + pl.length) 0 = (esc r ++ 34 :: rest).getD 0 0 := by
      have := getD_of_drop (j := 0) (drop_more hR)
      rwa [Nat.add_zero] at this
    have := ha ((esc r ++ 34 :: rest).getD 0 0) sn
    rw [esc_head hr] at this
    rw [e]; exact this

theorem QU {T : Array Nat} (hsz : T.size ≤ 1000000) {st ls a : Nat} {b : Option Nat} {li : Int} {k : Nat} {P : M → Prop} {e : Nat} : ∀ (n : Nat) (cs rest : List Nat) (q hd : Nat) (c : Int) (bg : Option Nat) (om : Bool) (fr : List Sre.Frame) (wg : Nat) (sn : Sre.Seen),
    cs.length ≤ n → T.toList.drop q = esc cs ++ 34 :: rest → HeadSp cs → (∀ x ∈ cs, x ≠ 10) → 0 ≤ c + 1 → bg ≠ some q → wg + 6 * n + 10 ≤ 16777216 → q + (esc cs).length = e →
    (∀ pc pos om lp inn wg sn, Lands k (M.mk cQV T T.size st ls false false pc pos (e + 1) om #[some a, some e] 1 1 lp inn fr wg (some true) sn none) P) →
    Lands (k + 12 * n + 12) (M.mk cQV T T.size st ls false false 66 q hd om #[some a, b] 0 li #[⟨46, c, bg, none⟩] (some 0) fr wg none sn none) P
  | n, [], rest, q, hd, c, bg, om, fr, wg, sn, hn, hR, hS, hx, hc, hb, hw, he, hk => by
    have he' : q = e := by simpa [esc] using he
    subst he'
    have hlt : q < T.size := by have := size_of_drop hR; simp [esc] at this; omega
    have h34 : T.getD q 0 = 34 := by have := getD_of_drop (j := 0) hR; rwa [Nat.add_zero] at this
    refine Lands.mono (k := k + 1 + 1 + 1 + 1 + 1 + 1 + 1) ?_ (by omega)
    refine L_until (by decide) rfl rfl rfl hc hb (by show wg + 1 + 1 ≤ _; omega) fun sn => ?_
    refine L_lit_no (by decide) rfl (fun _ => by rw [h34]; decide) fun sn => ?_
    refine P_more_no rfl (by show wg + 1 + 1 - (1 + 1) + 1 ≤ _; omega) fun lp inn sn => ?_
    refine L_mark (i := 1) (by decide) rfl rfl (by show (1 : Int) ≤ 0 + 1; decide) fun sn => ?_
    refine L_lit (by decide) rfl hlt (by rw [h34]; rfl) fun sn => ?_
    refine L_succ (by decide) rfl (by simp) fun sn => ?_
    refine P_tail fun lp inn sn => ?_
    exact hk _ _ _ _ _ _ _
  | 0, d :: cs, rest, q, hd, c, bg, om, fr, wg, sn, hn, hR, hS, hx, hc, hb, hw, he, hk => absurd hn (by simp)
  | n + 1, d :: cs, rest, q, hd, c, bg, om, fr, wg, sn, hn, hR, hS, hx, hc, hb, hw, he, hk => by
    have hd' : escB d = true := by
      rcases hS with h | ⟨d', r', h, hd'⟩
      · cases h
      · cases h; exact hd'
    rw [esc_cons_special hd'] at hR he
    obtain ⟨pl, r, rfl, hpl, hr⟩ := split_plain cs
    rw [esc_plain hpl] at hR he
    have hR2 : T.toList.drop (q + 2) = pl ++ (esc r ++ 34 :: rest) := by
      have : T.toList.drop q = [92, d] ++ (pl ++ (esc r ++ 34 :: rest)) := by rw [hR]; simp
      exact drop_more this
    have hs := size_of_drop hR
    simp only [List.cons_append, List.length_cons, List.length_append] at hs
    have h92 : T.getD q 0 = 92 := by have := getD_of_drop (j := 0) hR; rwa [Nat.add_zero] at this
    have hdd : T.getD (q + 1) 0 = d := getD_of_drop (j := 1) hR
    have hd10 : d ≠ 10 := hx d (.head _)
    refine Lands.mono (k := (k + 1 + 1 + 12 * n + 12) + 1 + 1 + 1 + 1) ?_ (by omega)
    refine L_until (by decide) rfl rfl rfl hc hb (by show wg + 1 + 1 ≤ _; omega) fun sn => ?_
    refine L_lit (by decide) rfl (by omega) (by rw [h92]; rfl) fun sn => ?_
    refine L_any (by decide) rfl (by omega) (by rw [hdd]; exact hd10) fun sn => ?_
    refine L_rep1 (n := pl.length) (by decide) rfl (by omega) (Nat.zero_le _) (by omega) (by show T.size - (q + 1 + 1) ≤ 4294967295; omega) (run_QV (fun c sn => acc_QV c sn rfl rfl rfl rfl rfl rfl rfl) hR2 hpl hr) (by show wg + 1 + 1 + 1 + 1 ≤ _; omega) fun sn => ?_
    refine QU (e := e) hsz n r rest (q + 2 + pl.length) _ (c + 1) (some q) om _ _ sn (by simp at hn; omega) (drop_more hR2) hr (fun x hx' => hx x (.tail _ (List.mem_append_right _ hx'))) (by omega) (by intro h; injection h with h; omega) (by show wg + 1 + 1 + 1 + 1 + 6 * n + 10 ≤ _; omega) (by simp only [List.length_cons, List.length_append] at he; omega) ?_
    intro pc pos om lp inn wg sn
    refine P_give_yes fun sn => ?_
    refine P_more_yes fun lp inn sn => ?_
    exact hk _ _ _ _ _ _ _

theorem QV_yes (T : Array Nat) (cs rest : List Nat) (hsz : T.size ≤ 1000000) (hR : T.toList = 61 :: 34 :: (esc cs ++ 34 :: rest)) (hx : ∀ x ∈ cs, x ≠ 10) :
    Lands (12 * cs.length + 60) (forSearch cQV T 1 0 T.size false) (Hit 0 (2 + (esc cs).length + 1) 2 (2 + (esc cs).length)) := by
  obtain ⟨pl, r, rfl, hpl, hr⟩ := split_plain cs
  have hR0 : T.toList.drop 0 = 61 :: 34 :: (esc (pl ++ r) ++ 34 :: rest) := by rw [List.drop_zero, hR]
  have hs := size_of_drop hR0
  have hR2 : T.toList.drop (0 + 2) = pl ++ (esc r ++ 34 :: rest) := by
    rw [esc_plain hpl, List.append_assoc] at hR0
    exact drop_more (a := [61, 34]) hR0
  have h61 : T.getD 0 0 = 61 := by have := getD_of_drop (j := 0) hR0; rwa [Nat.add_zero] at this
  have h34 : T.getD 1 0 = 34 := getD_of_drop (q := 0) (j := 1) hR0
  have hle : r.length ≤ (pl ++ r).length := by simp
  have hpr : pl.length + r.length ≤ (esc (pl ++ r)).length := by
    have := esc_len (pl ++ r)
    simpa using this
  rw [esc_plain hpl, List.length_append] at hpr
  simp only [esc_plain hpl, List.length_cons, List.length_append] at hs
  unfold forSearch
  simp only [show header cQV = (3, 5) from rfl]
  rw [if_neg (by rw [Bool.or_eq_true, decide_eq_true_eq, decide_eq_true_eq]; omega)]
  have hmax : max 0 (T.size - (3 - 1)) = T.size - 2 := by omega
  show Lands _ (M.attemptFrom (M.mk cQV T T.size 0 (max 0 (T.size - (3 - 1))) false false 5 0 0 true (Array.replicate (2 * 1) none) (-1) (-1) #[] none [] 0 none _ none) 0 true) _
  rw [start_at rfl]
  refine Lands.mono (k := ((0 + 1 + 1 + 1 + 1 + 1 + 1) + 12 * (pl ++ r).length + 12) + 1 + 1 + 1 + 1 + 1 + 1 + 1 + 1) ?_ (by omega)
  refine L_at0 (by decide) rfl rfl rfl fun sn => ?_
  refine L_rep1 (n := 0) (by decide) rfl (by omega) (by decide) (by omega) (by show T.size - 0 ≤ 4294967295; omega) (sp0 rfl rfl rfl rfl (by decide) fun _ => by rw [h61]; decide +kernel) (by decide) fun sn => ?_
  refine L_lit (by decide) rfl (by omega) (by rw [h61]; rfl) fun sn => ?_
  refine L_rep1 (n := 0) (by decide) rfl (by omega) (by decide) (by omega) (by show T.size - 1 ≤ 4294967295; omega) (sp0 rfl rfl rfl rfl (by decide) fun _ => by show Unicode.isSpace (T.getD 1 0) = false; rw [h34]; decide +kernel) (by decide) fun sn => ?_
  refine L_lit (by decide) rfl (by omega) (by show T.getD 1 0 = 34; exact h34) fun sn => ?_
  refine L_mark (i := 0) (by decide) rfl rfl (by decide) fun sn => ?_
  refine L_rep1 (n := pl.length) (by decide) rfl (by omega) (Nat.zero_le _) (by omega) (by show T.size - 2 ≤ 4294967295; omega) (run_QV (fun c sn => acc_QV c sn rfl rfl rfl rfl rfl rfl rfl) hR2 hpl hr) (by decide) fun sn => ?_
  refine L_repeat (by decide) rfl (by decide) fun sn => ?_
  refine QU (e := 2 + (esc (pl ++ r)).length) hsz (pl ++ r).length r rest (2 + pl.length) _ (-1) none true _ _ sn hle (drop_more hR2) hr (fun x hx' => hx x (List.mem_append_right _ hx')) (by decide) (by intro h; cases h) (by show 1 + 1 + 1 + 1 + 1 + 6 * (pl ++ r).length + 10 ≤ _; simp only [List.length_append]; omega) (by rw [esc_plain hpl, List.length_append]; omega) ?_
  intro pc pos om lp inn wg sn
  refine P_close fun lp inn sn => ?_
  refine P_give_yes fun sn => ?_
  refine P_give_yes fun sn => ?_
  refine P_give_yes fun sn => ?_
  refine P_next_yes fun sn => ?_
  exact P_fin (b := true) fun sn => ⟨rfl, rfl, rfl, rfl, rfl, rfl⟩

theorem QV_no (T : Array Nat) (hsz : T.size ≤ 1000000) (h0 : T.getD 0 0 = 61) (h1 : 1 < T.size → 33 ≤ T.getD 1 0 ∧ T.getD 1 0 < 128 ∧ T.getD 1 0 ≠ 34) :
    Lands (2 * T.size + 30) (forSearch cQV T 1 0 T.size false) Miss := by
  unfold forSearch
  simp only [show header cQV = (3, 5) from rfl]
  by_cases h3 : T.size < 3
  · rw [if_pos (by rw [Bool.or_eq_true, decide_eq_true_eq, decide_eq_true_eq]; omega)]
    exact Lands.mono (k := 0 + 1) (P_fin (b := false) fun sn => rfl) (by omega)
  · rw [if_neg (by rw [Bool.or_eq_true, decide_eq_true_eq, decide_eq_true_eq]; omega)]
    have q := h1 (by omega)
    show Lands _ (M.attemptFrom (M.mk cQV T T.size 0 (max 0 (T.size - (3 - 1))) false false 5 0 0 true (Array.replicate (2 * 1) none) (-1) (-1) #[] none [] 0 none _ none) 0 true) _
    rw [start_at rfl]
    rw [show 2 * T.size + 30 = (2 * T.size + 23) + 1 + 1 + 1 + 1 + 1 + 1 + 1 by omega]
    refine L_at0 (by decide) rfl rfl rfl fun sn => ?_
    refine L_rep1 (n := 0) (by decide) rfl (by omega) (by decide) (by omega) (by show T.size - 0 ≤ 4294967295; omega) (sp0 rfl rfl rfl rfl (by decide) fun _ => by rw [h0]; decide +kernel) (by decide) fun sn => ?_
    refine L_lit (by decide) rfl (by omega) (by rw [h0]; rfl) fun sn => ?_
    refine L_rep1 (n := 0) (by decide) rfl (by omega) (by decide) (by omega) (by show T.size - 1 ≤ 4294967295; omega) (sp0 rfl rfl rfl rfl (by decide) fun _ => no_space _ q.2.1 q.1) (by decide) fun sn => ?_
    refine L_lit_no (by decide) rfl (fun _ => by show T.getD 1 0 ≠ 34; exact q.2.2) fun sn => ?_
    refine P_give_no (by decide) fun sn => ?_
    refine P_give_no (by decide) fun sn => ?_
    exact Lands.mono (AT_none (by decide) rfl rfl rfl T.size 0 _ _ _ _ _ _ _ _ _ _ _ _ _ _ _ sn (by omega) rfl (by decide)) (by omega)

/-! what stands between the pairs -/
def cTW : Array Nat := #[14, 4, 0, 0, 4294967295, 6, 0, 24, 13, 0, 4294967295, 13, 8, 16, 61, 8, 12, 16, 59, 0, 1, 1]
theorem acc_TW (c : Nat) (sn : Sre.Seen) : ∃ sn', accepts cTW 11 c sn = .ok (c == 61 || Unicode.isSpace c || c == 59, sn') := by
  unfold accepts
  simp only [show cTW.getD 11 0 = 13 from rfl, show ops[13]? = some Op.IN from rfl, show cTW.size = 18 + 1 + 1 + 1 + 1 from rfl]
  rw [inSet]
  simp only [show cTW.getD (11 + 2 + 0) 0 = 16 from rfl, show cTW.getD (11 + 2 + 1) 0 = 61 from rfl, show ops[16]? = some Op.LITERAL from rfl, show 11 + 2 = 13 from rfl]
  cases h1 : (c == 61) with
  | true => exact ⟨_, rfl⟩
  | false =>
    simp only [Bool.false_eq_true, if_false, show 13 + 2 = 15 from rfl]
    rw [inSet]
    simp only [show cTW.getD (15 + 0) 0 = 8 from rfl, show cTW.getD (15 + 1) 0 = 12 from rfl, show ops[8]? = some Op.CATEGORY from rfl, cat12]
    cases hs : Unicode.isSpace c with
    | true => exact ⟨_, rfl⟩
    | false =>
      show ∃ sn', inSet cTW c (18 + 1 + 1) 17 true _ = _
      rw [inSet]
      simp only [show cTW.getD (17 + 0) 0 = 16 from rfl, show cTW.getD (17 + 1) 0 = 59 from rfl, show ops[16]? = some Op.LITERAL from rfl]
      cases h2 : (c == 59) with
      | true => exact ⟨_, rfl⟩
      | false =>
        simp only [Bool.false_eq_true, if_false, show 17 + 2 = 19 from rfl]
        rw [inSet]
        simp only [show cTW.getD (19 + 0) 0 = 0 from rfl, show ops[0]? = some Op.FAILURE from rfl]
        exact ⟨_, rfl⟩
def Hit0 (a b : Nat) (m : M) : Prop := m.outcome = some .matched ∧ m.start = a ∧ m.handed = b
theorem TW_yes (T : Array Nat) (hsz : T.size ≤ 1000000) (h2 : 2 < T.size) (h0 : T.getD 0 0 = 59) (h1 : T.getD 1 0 = 32) (hc : 33 ≤ T.getD 2 0 ∧ T.getD 2 0 < 128 ∧ T.getD 2 0 ≠ 61 ∧ T.getD 2 0 ≠ 59) :
    Lands 20 (forSearch cTW T 0 0 T.size false) (Hit0 0 2) := by
  unfold forSearch
  simp only [show header cTW = (0, 5) from rfl]
  rw [if_neg (by rw [Bool.or_eq_true, decide_eq_true_eq, decide_eq_true_eq]; omega)]
  show Lands _ (M.attemptFrom (M.mk cTW T T.size 0 T.size false false 5 0 0 true (Array.replicate (2 * 0) none) (-1) (-1) #[] none [] 0 none _ none) 0 true) _
  rw [start_at rfl]
  refine Lands.mono (k := 0 + 1 + 1 + 1 + 1 + 1 + 1) ?_ (by omega)
  refine L_at0 (by decide) rfl rfl rfl fun sn => ?_
  refine L_rep1 (n := 2) (by decide) rfl (by omega) (by decide) (by omega) (by show T.size - 0 ≤ 4294967295; omega) (runs1_of (by omega) (fun j hj sn => ?_) fun h sn => ?_) (by decide) fun sn => ?_
  · rcases (by omega : j = 0 ∨ j = 1) with rfl | rfl
    · show ∃ sn', accepts cTW 11 (T.getD 0 0) sn = _
      rw [h0]; exact acc_TW 59 sn
    · show ∃ sn', accepts cTW 11 (T.getD 1 0) sn = _
      rw [h1]
      have := acc_TW 32 sn
      rwa [show Unicode.isSpace 32 = true by decide +kernel] at this
  · show ∃ sn', accepts cTW 11 (T.getD 2 0) sn = _
    have := acc_TW (T.getD 2 0) sn
    rwa [no_space _ hc.2.1 hc.1, show (T.getD 2 0 == 61) = false by simpa using hc.2.2.1, show (T.getD 2 0 == 59) = false by simpa using hc.2.2.2] at this
  refine L_succ (by decide) rfl (by simp) fun sn => ?_
  refine P_give_yes fun sn => ?_
  refine P_next_yes fun sn => ?_
  exact P_fin (b := true) fun sn => ⟨rfl, rfl, rfl⟩
theorem TW_no (T : Array Nat) (s : Nat) (h0 : 0 < s) (hs : s ≤ T.size) (must : Bool) : Lands (2 * T.size + 20) (forSearch cTW T 0 s T.size must) Miss := by
  unfold forSearch
  simp only [show header cTW = (0, 5) from rfl]
  rw [if_neg (by rw [Bool.or_eq_true, decide_eq_true_eq, decide_eq_true_eq]; omega)]
  show Lands _ (M.attemptFrom (M.mk cTW T T.size s T.size false must 5 s s true (Array.replicate (2 * 0) none) (-1) (-1) #[] none [] 0 none _ none) s true) _
  rw [start_at rfl]
  refine Lands.mono (k := (2 * T.size + 2) + 1) ?_ (by omega)
  refine L_at0_no (by decide) rfl rfl (by omega) fun sn => ?_
  exact AT_none (by decide) rfl rfl rfl T.size s _ _ _ _ _ _ _ _ _ _ _ _ _ _ _ sn (by omega) rfl (by decide)
end
section
-- Re0
set_option maxRecDepth 10000
open Builtin Builtin.Re

theorem slot_search : Slot "re.Pattern" "search" "re.Pattern.search" :=
  .of (owner := "re.Pattern") (n := "search") (by rw [typeLookup_type, builtinLookup_eq_fast]; kernel_rfl) (by decide +kernel) (by decide +kernel) (by decide +kernel)
    (by first | exact .inl (by decide +kernel) | exact .inr (by decide +kernel)) (by rw [isSubtype_type]; kernel_rfl)
theorem slot_fullmatch : Slot "re.Pattern" "fullmatch" "re.Pattern.fullmatch" :=
  .of (owner := "re.Pattern") (n := "fullmatch") (by rw [typeLookup_type, builtinLookup_eq_fast]; kernel_rfl) (by decide +kernel) (by decide +kernel) (by decide +kernel)
    (by first | exact .inl (by decide +kernel) | exact .inr (by decide +kernel)) (by rw [isSubtype_type]; kernel_rfl)
theorem slot_sub : Slot "re.Pattern" "sub" "re.Pattern.sub" :=
  .of (owner := "re.Pattern") (n := "sub") (by rw [typeLookup_type, builtinLookup_eq_fast]; kernel_rfl) (by decide +kernel) (by decide +kernel) (by decide +kernel)
    (by first | exact .inl (by decide +kernel) | exact .inr (by decide +kernel)) (by rw [isSubtype_type]; kernel_rfl)
theorem slot_subn : Slot "re.Pattern" "subn" "re.Pattern.subn" :=
  .of (owner := "re.Pattern") (n := "subn") (by rw [typeLookup_type, builtinLookup_eq_fast]; kernel_rfl) (by decide +kernel) (by decide +kernel) (by decide +kernel)
    (by first | exact .inl (by decide +kernel) | exact .inr (by decide +kernel)) (by rw [isSubtype_type]; kernel_rfl)
theorem slot_group : Slot "re.Match" "group" "re.Match.group" :=
  .of (owner := "re.Match") (n := "group") (by rw [typeLookup_type, builtinLookup_eq_fast]; kernel_rfl) (by decide +kernel) (by decide +kernel) (by decide +kernel)
    (by first | exact .inl (by decide +kernel) | exact .inr (by decide +kernel)) (by rw [isSubtype_type]; kernel_rfl)
theorem slot_span : Slot "re.Match" "span" "re.Match.span" :=
  .of (owner := "re.Match") (n := "span") (by rw [typeLookup_type, builtinLookup_eq_fast]; kernel_rfl) (by decide +kernel) (by decide +kernel) (by decide +kernel)
    (by first | exact .inl (by decide +kernel) | exact .inr (by decide +kernel)) (by rw [isSubtype_type]; kernel_rfl)
theorem pa_pattern : PlainAttrs "re.Pattern" := ⟨⟨"object.__getattribute__", by rw [typeLookup_type, builtinLookup_eq_fast]; kernel_rfl, by decide +kernel⟩, by rw [typeLookup_type, builtinLookup_eq_fast]; kernel_rfl⟩
theorem pa_match : PlainAttrs "re.Match" := ⟨⟨"object.__getattribute__", by rw [typeLookup_type, builtinLookup_eq_fast]; kernel_rfl, by decide +kernel⟩, by rw [typeLookup_type, builtinLookup_eq_fast]; kernel_rfl⟩
theorem entry_search : entryFor table "re.Pattern.search" = some Builtin.«re.Pattern.search» := entryFor_of_tree (by kernel_rfl)
theorem entry_fullmatch : entryFor table "re.Pattern.fullmatch" = some Builtin.«re.Pattern.fullmatch» := entryFor_of_tree (by kernel_rfl)
theorem entry_sub : entryFor table "re.Pattern.sub" = some Builtin.«re.Pattern.sub» := entryFor_of_tree (by kernel_rfl)
theorem entry_subn : entryFor table "re.Pattern.subn" = some Builtin.«re.Pattern.subn» := entryFor_of_tree (by kernel_rfl)
theorem entry_subloop : entryFor table "re.Pattern.sub.loop" = some Builtin.«re.Pattern.sub.loop» := entryFor_of_tree (by kernel_rfl)
theorem entry_group : entryFor table "re.Match.group" = some Builtin.«re.Match.group» := entryFor_of_tree (by kernel_rfl)
theorem entry_span : entryFor table "re.Match.span" = some Builtin.«re.Match.span» := entryFor_of_tree (by kernel_rfl)
theorem ty_search : typeOf (.builtin "re.Pattern.search") = pure (.type "method_descriptor") := by show builtinType _ = _; rw [builtinType_eq_fast]; kernel_rfl
theorem ty_fullmatch : typeOf (.builtin "re.Pattern.fullmatch") = pure (.type "method_descriptor") := by show builtinType _ = _; rw [builtinType_eq_fast]; kernel_rfl
theorem ty_sub : typeOf (.builtin "re.Pattern.sub") = pure (.type "method_descriptor") := by show builtinType _ = _; rw [builtinType_eq_fast]; kernel_rfl
theorem ty_subn : typeOf (.builtin "re.Pattern.subn") = pure (.type "method_descriptor") := by show builtinType _ = _; rw [builtinType_eq_fast]; kernel_rfl
theorem ty_group : typeOf (.builtin "re.Match.group") = pure (.type "method_descriptor") := by show builtinType _ = _; rw [builtinType_eq_fast]; kernel_rfl
theorem ty_span : typeOf (.builtin "re.Match.span") = pure (.type "method_descriptor") := by show builtinType _ = _; rw [builtinType_eq_fast]; kernel_rfl
end
section
-- Re1
set_option maxRecDepth 10000
open Builtin Builtin.Re

/-- a pattern object: its words at c -/
def IsPat (h : Heap) (a : Addr) (groups : Nat) (C : Array Nat) : Prop :=
  ∃ o c oc p f x y vs n, h.get? a = some o ∧ o.cls = .type "re.Pattern" ∧ o.dict = none ∧ o.data = .fields #[p, f, .int groups 0, x, y, .ref c, .int 0 0] ∧ h.get? c = some oc ∧ oc.data = .seq vs n ∧ (vs.map reRawOf).map (·.toNat) = C

section
variable {prog : Program} {w : World} {A : Around} {E : Value → Shared → Prop} {s : Shared}

theorem getMethod_search {a : Addr} {g : Nat} {C : Array Nat} {pl : Sem Bool} {Q : Value × List Value → Shared → Prop} (hp : IsPat s.heap a g C) (h : Q (.builtin "re.Pattern.search", [.ref a]) s) : wpAny (model prog w) A (getMethod (.ref a) "search" pl) Q E s := by
  obtain ⟨o, c, oc, p, f, x, y, vs, n, h1, h2, h3, _⟩ := hp
  exact getMethod_builtin ⟨o, h1, h2⟩ pa_pattern slot_search ty_search (fun b e => by cases e; exact ⟨o, h1, h3⟩) h
theorem getMethod_fullmatch {a : Addr} {g : Nat} {C : Array Nat} {pl : Sem Bool} {Q : Value × List Value → Shared → Prop} (hp : IsPat s.heap a g C) (h : Q (.builtin "re.Pattern.fullmatch", [.ref a]) s) : wpAny (model prog w) A (getMethod (.ref a) "fullmatch" pl) Q E s := by
  obtain ⟨o, c, oc, p, f, x, y, vs, n, h1, h2, h3, _⟩ := hp
  exact getMethod_builtin ⟨o, h1, h2⟩ pa_pattern slot_fullmatch ty_fullmatch (fun b e => by cases e; exact ⟨o, h1, h3⟩) h
theorem getMethod_sub {a : Addr} {g : Nat} {C : Array Nat} {pl : Sem Bool} {Q : Value × List Value → Shared → Prop} (hp : IsPat s.heap a g C) (h : Q (.builtin "re.Pattern.sub", [.ref a]) s) : wpAny (model prog w) A (getMethod (.ref a) "sub" pl) Q E s := by
  obtain ⟨o, c, oc, p, f, x, y, vs, n, h1, h2, h3, _⟩ := hp
  exact getMethod_builtin ⟨o, h1, h2⟩ pa_pattern slot_sub ty_sub (fun b e => by cases e; exact ⟨o, h1, h3⟩) h
theorem getMethod_subn {a : Addr} {g : Nat} {C : Array Nat} {pl : Sem Bool} {Q : Value × List Value → Shared → Prop} (hp : IsPat s.heap a g C) (h : Q (.builtin "re.Pattern.subn", [.ref a]) s) : wpAny (model prog w) A (getMethod (.ref a) "subn" pl) Q E s := by
  obtain ⟨o, c, oc, p, f, x, y, vs, n, h1, h2, h3, _⟩ := hp
  exact getMethod_builtin ⟨o, h1, h2⟩ pa_pattern slot_subn ty_subn (fun b e => by cases e; exact ⟨o, h1, h3⟩) h

theorem named1 (id f : String) (v : Value) : reNamed id f ["string", "pos", "endpos"] 1 [v] [] = pure [some v, none, none] := rfl

theorem wpAny_target {id f : String} {a : Addr} {g : Nat} {C : Array Nat} {x : Str} {t : Tok} {Q : ReTarget → Shared → Prop} (hp : IsPat s.heap a g C)
    (h : Q { pattern := .ref a, string := .str x t, code := C, text := x.cps, kind := 0, groups := g, pos := 0, lim := x.cps.size } s) (hsz : x.cps.size ≤ 1000000) :
    wpAny (model prog w) A (reTarget id f ⟨[.ref a, .str x t], []⟩) Q E s := by
  obtain ⟨o, c, oc, p, fl, x0, y, vs, n, h1, h2, h3, h4, h5, h6, h7⟩ := hp
  unfold reTarget
  dsimp only
  rw [named1]
  refine wpAny_bind (wpAny_pure ?_)
  dsimp only
  refine wpAny_bind (wpAny_pure ?_)
  refine wpAny_bind (wpAny_pure ?_)
  refine wpAny_bind (wpAny_fieldsOf h1 h4 ?_)
  refine wpAny_bind (m := reTextOf (.str x t)) (wpAny_pure ?_)
  dsimp only
  refine wpAny_ite_false rfl ?_
  refine wpAny_ite_false rfl ?_
  refine wpAny_bind (m := reNoCollectionInside (.str x t) 0) (wpAny_pure ?_)
  refine wpAny_bind (m := reRawItems (.ref c)) ?_
  unfold reRawItems seqItems?
  refine wpAny_bind ?_
  dsimp only
  refine wpAny_bind (wpAny_load h5 ?_)
  rw [h6]
  refine wpAny_pure (wpAny_pure ?_)
  refine wpAny_pure ?_
  have e1 : Min.min ((2 : Int) ^ 63 - 1).toNat x.cps.size = x.cps.size := by
    have : ((2 : Int) ^ 63 - 1).toNat = 9223372036854775807 := by decide
    rw [this]; omega
  show Q { pattern := .ref a, string := .str x t, code := (vs.map reRawOf).map (·.toNat), text := x.cps, kind := 0, groups := (g : Int).toNat, pos := Min.min (Int.toNat 0) x.cps.size, lim := Min.min ((2 : Int) ^ 63 - 1).toNat x.cps.size } s
  rw [e1, h7]
  exact h

/-- the notes on what the machine met -/
theorem wpAny_ran {m : Sre.M} {P : Sre.M → Prop} {k : Nat} {Q : Option Sre.M → Shared → Prop} (hl : Lands k m P) (hk : k < 1000000000)
    (h : ∀ m', P m' → (m'.outcome = some .matched ∧ Q (some m') s) ∨ (m'.outcome = some .failed ∧ Q none s)) : wpAny (model prog w) A (reRunToEnd m) Q E s := by
  unfold reRunToEnd
  refine wpAny_bind (drive (P := P) (k := k) (Lands.weaken hl fun m' hp => ⟨by rcases h m' hp with ⟨q, _⟩ | ⟨q, _⟩ <;> rw [q] <;> rfl, hp⟩) (by omega) fun m' ho hp => ?_)
  refine wpAny_bind (wpAny_forIn_list _ (fun _ _ s' => s' = s) _ ?_ ?_ _ _ rfl)
  · rintro i rest b s' rfl
    by_cases hc : m'.seen.has i = true
    · rw [if_pos hc]; exact wpAny_bind (wpAny_rule (wpAny_pure rfl))
    · rw [if_neg hc]; exact wpAny_pure rfl
  · rintro _ s' rfl
    rcases h m' hp with ⟨q, hq⟩ | ⟨q, hq⟩
    · rw [q]; exact wpAny_pure hq
    · rw [q]; exact wpAny_pure hq

abbrev tupObj (vs : Array Value) : Obj := { cls := .type "tuple", data := .seq vs }
abbrev matchObj (x : Str) (t : Tok) (a : Addr) (p l : Int) (li : Int) (tp : Addr) : Obj := { cls := .type "re.Match", data := .fields #[.str x t, .ref a, rawInt p, rawInt l, rawInt li, .ref tp] }

theorem wpAny_newMatch1 {x : Str} {t : Tok} {a : Addr} {p l b e u v : Nat} {m : Sre.M} {Q : Value → Shared → Prop} (hm : Hit b e u v m) (huv : u ≤ v)
    (h : Q (.ref (s.heap.objs.size + 1)) { s with heap := (s.heap.push (tupObj #[rawInt b, rawInt e, rawInt u, rawInt v])).push (matchObj x t a p l 1 s.heap.objs.size) }) :
    wpAny (model prog w) A (reNewMatch (.ref a) (.str x t) 1 p l m) Q E s := by
  obtain ⟨h1, h2, h3, h4, h5, h6⟩ := hm
  unfold reNewMatch
  rw [h2, h3, h4, h5, h6]
  have hany : ((List.range 1).any fun g => match (#[some u, some v] : Array (Option Nat)).getD (2 * g) none, (#[some u, some v] : Array (Option Nat)).getD (2 * g + 1) none with | some b, some e => decide (((2 * g + 1 : Nat) : Int) ≤ 1) && decide (e < b) | _, _ => false) = false := by
    show (decide (((2 * 0 + 1 : Nat) : Int) ≤ 1) && decide (v < u) || false) = false
    simp [huv]
  dsimp only
  refine wpAny_ite_false (decide_eq_false (fun q => Bool.false_ne_true (hany.symm.trans q))) ?_
  refine wpAny_bind (wpAny_newObj_type ?_ (by show (4 : Nat) ≤ sizeLine; decide))
  refine wpAny_newObj_type ?_
  rw [Heap.size_push]
  exact h

theorem wpAny_newMatch0 {x : Str} {t : Tok} {a : Addr} {p l b e : Nat} {li : Int} {m : Sre.M} {Q : Value → Shared → Prop} (hm : Hit0 b e m) (hli : m.lastindex = li)
    (h : Q (.ref (s.heap.objs.size + 1)) { s with heap := (s.heap.push (tupObj #[rawInt b, rawInt e])).push (matchObj x t a p l li s.heap.objs.size) }) :
    wpAny (model prog w) A (reNewMatch (.ref a) (.str x t) 0 p l m) Q E s := by
  obtain ⟨h1, h2, h3⟩ := hm
  unfold reNewMatch
  rw [h2, h3, hli]
  dsimp only
  refine wpAny_ite_false rfl ?_
  refine wpAny_bind (wpAny_newObj_type ?_ (by show (2 : Nat) ≤ sizeLine; decide))
  refine wpAny_newObj_type ?_
  rw [Heap.size_push]
  exact h

/-- PATTERN.search(text), one group -/
theorem call_search {a : Addr} {C : Array Nat} {x : Str} {t : Tok} {k : Nat} {Q : Value → Shared → Prop} (hp : IsPat s.heap a 1 C) (hsz : x.cps.size ≤ 1000000) (hk : k < 1000000000)
    (h : (∃ b e u v, u ≤ v ∧ Lands k (Sre.forSearch C x.cps 1 0 x.cps.size false) (Hit b e u v) ∧
        Q (.ref (s.heap.objs.size + 1)) { s with heap := (s.heap.push (tupObj #[rawInt (b : Nat), rawInt (e : Nat), rawInt (u : Nat), rawInt (v : Nat)])).push (matchObj x t a (0 : Nat) x.cps.size 1 s.heap.objs.size) }) ∨
      (Lands k (Sre.forSearch C x.cps 1 0 x.cps.size false) Miss ∧ Q .none s)) :
    wpAny (model prog w) A (call (.builtin "re.Pattern.search") [.ref a, .str x t]) Q E s := by
  have hT : s.TypeIs (.ref a) "re.Pattern" := by obtain ⟨o, c, oc, p, f, x, y, vs, n, h1, h2, h3, _⟩ := hp; exact ⟨o, h1, h2⟩
  refine wpAny_call_entry slot_search hT entry_search ?_
  unfold Builtin.«re.Pattern.search»
  refine wpAny_bind (wpAny_target hp ?_ hsz)
  unfold reAnswer
  dsimp only
  rcases h with ⟨b, e, u, v, huv, hl, hq⟩ | ⟨hl, hq⟩
  · refine wpAny_bind (wpAny_ran hl hk fun m' hm => .inl ⟨hm.1, ?_⟩)
    refine wpAny_bind (wpAny_newMatch1 hm huv ?_)
    exact wpAny_pure ⟨_, rfl, hq⟩
  · refine wpAny_bind (wpAny_ran hl hk fun m' hm => .inr ⟨hm, ?_⟩)
    exact wpAny_pure ⟨_, rfl, hq⟩
/-- PATTERN.fullmatch(text), no group -/
theorem call_fullmatch {a : Addr} {C : Array Nat} {x : Str} {t : Tok} {k : Nat} {Q : Value → Shared → Prop} (hp : IsPat s.heap a 0 C) (hsz : x.cps.size ≤ 1000000) (hk : k < 1000000000)
    (h : (Lands k (Sre.forMatch C x.cps 0 0 x.cps.size true false) (fun m => m.outcome = some .matched) ∧
        ∀ li b e, Q (.ref (s.heap.objs.size + 1)) { s with heap := (s.heap.push (tupObj #[rawInt b, rawInt e])).push (matchObj x t a (0 : Nat) x.cps.size li s.heap.objs.size) }) ∨
      (Lands k (Sre.forMatch C x.cps 0 0 x.cps.size true false) (fun m => m.outcome = some .failed) ∧ Q .none s)) :
    wpAny (model prog w) A (call (.builtin "re.Pattern.fullmatch") [.ref a, .str x t]) Q E s := by
  have hT : s.TypeIs (.ref a) "re.Pattern" := by obtain ⟨o, c, oc, p, f, x, y, vs, n, h1, h2, h3, _⟩ := hp; exact ⟨o, h1, h2⟩
  refine wpAny_call_entry slot_fullmatch hT entry_fullmatch ?_
  unfold Builtin.«re.Pattern.fullmatch»
  refine wpAny_bind (wpAny_target hp ?_ hsz)
  unfold reAnswer
  dsimp only
  rcases h with ⟨hl, hq⟩ | ⟨hl, hq⟩
  · refine wpAny_bind (wpAny_ran hl hk fun m' hm => .inl ⟨hm, ?_⟩)
    refine wpAny_bind (wpAny_newMatch0 ⟨hm, rfl, rfl⟩ rfl ?_)
    exact wpAny_pure ⟨_, rfl, hq _ _ _⟩
  · refine wpAny_bind (wpAny_ran hl hk fun m' hm => .inr ⟨hm, ?_⟩)
    exact wpAny_pure ⟨_, rfl, hq⟩

/-- a match object that stands in the heap -/
def IsMatch (h : Heap) (a : Addr) (x : Str) (t : Tok) (spans : Array Int) : Prop :=
  ∃ o p l li pt tp ot n, h.get? a = some o ∧ o.cls = .type "re.Match" ∧ o.dict = none ∧ o.data = .fields #[.str x t, pt, p, l, li, .ref tp] ∧ h.get? tp = some ot ∧ ot.data = .seq (spans.map rawInt) n
theorem getMethod_group {a : Addr} {x : Str} {t : Tok} {sp : Array Int} {pl : Sem Bool} {Q : Value × List Value → Shared → Prop} (hp : IsMatch s.heap a x t sp) (h : Q (.builtin "re.Match.group", [.ref a]) s) : wpAny (model prog w) A (getMethod (.ref a) "group" pl) Q E s := by
  obtain ⟨o, p, l, li, pt, tp, ot, n, h1, h2, h3, _⟩ := hp
  exact getMethod_builtin ⟨o, h1, h2⟩ pa_match slot_group ty_group (fun b e => by cases e; exact ⟨o, h1, h3⟩) h
theorem getMethod_span {a : Addr} {x : Str} {t : Tok} {sp : Array Int} {pl : Sem Bool} {Q : Value × List Value → Shared → Prop} (hp : IsMatch s.heap a x t sp) (h : Q (.builtin "re.Match.span", [.ref a]) s) : wpAny (model prog w) A (getMethod (.ref a) "span" pl) Q E s := by
  obtain ⟨o, p, l, li, pt, tp, ot, n, h1, h2, h3, _⟩ := hp
  exact getMethod_builtin ⟨o, h1, h2⟩ pa_match slot_span ty_span (fun b e => by cases e; exact ⟨o, h1, h3⟩) h
theorem wpAny_reFound {a : Addr} {x : Str} {t : Tok} {sp : Array Int} {Q : ReFound → Shared → Prop} (hp : IsMatch s.heap a x t sp)
    (h : ∀ fs, fs.getD 0 .none = .str x t → Q ⟨fs, sp⟩ s) : wpAny (model prog w) A (reFound (.ref a)) Q E s := by
  obtain ⟨o, p, l, li, pt, tp, ot, n, h1, h2, h3, h4, h5, h6⟩ := hp
  unfold reFound
  refine wpAny_bind (wpAny_fieldsOf h1 h4 ?_)
  refine wpAny_bind (m := reRawItems (.ref tp)) ?_
  unfold reRawItems seqItems?
  refine wpAny_bind ?_
  dsimp only
  refine wpAny_bind (wpAny_load h5 ?_)
  rw [h6]
  refine wpAny_pure (wpAny_pure (wpAny_pure ?_))
  have e : ((some (sp.map rawInt)).getD #[]).map reRawOf = sp := by
    show (sp.map rawInt).map reRawOf = sp
    rw [Array.map_map]
    have : reRawOf ∘ rawInt = (fun i => i) := by funext i; rfl
    rw [this, Array.map_id']
  rw [e]
  exact h _ rfl
end
end
section
-- Re2
set_option maxRecDepth 10000
open Builtin Builtin.Re
theorem slot_mga : Slot "re.Match" "__getattribute__" "object.__getattribute__" :=
  .of (owner := "object") (n := "__getattribute__") (by rw [typeLookup_type, builtinLookup_eq_fast]; kernel_rfl) (by decide +kernel) (by decide +kernel) (by decide +kernel)
    (by first | exact .inl (by decide +kernel) | exact .inr (by decide +kernel)) (by rw [isSubtype_type]; kernel_rfl)
theorem lk_string : typeLookup (.type "re.Match") "string" = pure (some (.builtin "re.Match.string")) := by rw [typeLookup_type, builtinLookup_eq_fast]; kernel_rfl
theorem ty_string : typeOf (.builtin "re.Match.string") = pure (.type "member_descriptor") := by show builtinType _ = _; rw [builtinType_eq_fast]; kernel_rfl
theorem entry_string : entryFor table "re.Match.string" = some Builtin.«re.Match.string» := entryFor_of_tree (by kernel_rfl)
theorem entry_oga : entryFor table "object.__getattribute__" = some Builtin.«object.__getattribute__» := entryFor_of_tree (by kernel_rfl)
theorem args_oga (a b : Value) : argsOk "object.__getattribute__" ⟨[a, b], []⟩ := by unfold argsOk; kernel_rfl
theorem owner_string : (".".intercalate ("re.Match.string".cutAt '.').dropLast) = "re.Match" := by
  have e0 : "re.Match.string".cutAt '.' = ["re", "Match", "string"] := by first | rfl | decide +kernel
  rw [e0]; decide +kernel
theorem sub_match : isSubtype (.type "re.Match") (.type "re.Match") = pure true := by rw [isSubtype_type]; kernel_rfl
theorem no_bool : typeLookup (.type "re.Match") "__bool__" = pure none := by rw [typeLookup_type, builtinLookup_eq_fast]; kernel_rfl
theorem no_len : typeLookup (.type "re.Match") "__len__" = pure none := by rw [typeLookup_type, builtinLookup_eq_fast]; kernel_rfl
section
variable {prog : Program} {w : World} {A : Around} {E : Value → Shared → Prop} {s : Shared}
theorem IsMatch.typeIs {a : Addr} {x : Str} {t : Tok} {sp : Array Int} (hp : IsMatch s.heap a x t sp) : s.TypeIs (.ref a) "re.Match" := by obtain ⟨o, p, l, li, pt, tp, ot, n, h1, h2, h3, _⟩ := hp; exact ⟨o, h1, h2⟩
/-- m.group(1) -/
theorem call_group1 {a : Addr} {x : Str} {t u : Tok} {b e : Int} {p q : Nat} {Q : Value → Shared → Prop} (hp : IsMatch s.heap a x t #[b, e, (p : Int), (q : Int)]) (hsz : x.cps.size ≤ 1000000)
    (h : ∀ tk tk', Q (.str ⟨x.cps.extract p q⟩ tk) { s with toks := tk' }) : wpAny (model prog w) A (call (.builtin "re.Match.group") [.ref a, .int 1 u]) Q E s := by
  have hT := hp.typeIs
  refine wpAny_call_entry slot_group hT entry_group ?_
  unfold Builtin.«re.Match.group»
  refine wpAny_bind (m := noKeywords "Match.group" ⟨[.ref a, .int 1 u], []⟩) (wpAny_pure ?_)
  refine wpAny_bind (wpAny_reFound hp fun fs hfs => ?_)
  dsimp only
  refine wpAny_bind (m := reGroupNumber _ _) ?_
  unfold reGroupNumber
  refine wpAny_bind (wpAny_pure ?_)
  refine wpAny_ite_true rfl ?_
  refine wpAny_bind (m := asIndex (.int 1 u)) (wpAny_pure ?_)
  refine wpAny_ite_false rfl ?_
  refine wpAny_pure ?_
  unfold reGroupText
  dsimp only
  refine wpAny_bind ?_
  refine wpAny_ite_false (decide_eq_false ?_) ?_
  · show ¬ ((decide ((p : Int) < 0) || decide ((q : Int) < 0)) = true)
    rw [Bool.or_eq_true, decide_eq_true_eq, decide_eq_true_eq]; omega
  · rw [hfs]
    refine wpAny_bind (m := reTextOf (.str x t)) (wpAny_pure ?_)
    dsimp only
    unfold reSlice
    refine wpAny_ite_true rfl ?_
    refine wpAny_mkStr (wpAny_pure ⟨_, rfl, h _ _⟩) ?_
    show (x.cps.extract p q).size ≤ sizeLine
    rw [sizeLine_eq]; simp only [Array.size_extract]; omega
/-- m.span(0) -/
theorem call_span0 {a : Addr} {x : Str} {t u : Tok} {b e : Nat} {sp : Array Int} {Q : Value → Shared → Prop} (hp : IsMatch s.heap a x t sp) (hb : sp.getD 0 (-1) = (b : Int)) (he : sp.getD 1 (-1) = (e : Int)) (hs : 2 ≤ sp.size)
    (h : ∀ t1 t2 tk', Q (.ref s.heap.objs.size) { s with heap := s.heap.push (tupObj #[.int b t1, .int e t2]), toks := tk' }) : wpAny (model prog w) A (call (.builtin "re.Match.span") [.ref a, .int 0 u]) Q E s := by
  have hT := hp.typeIs
  refine wpAny_call_entry slot_span hT entry_span ?_
  unfold Builtin.«re.Match.span» reOneGroup
  refine wpAny_bind ?_
  refine wpAny_bind (m := selfAndSome "Match.span" "span" 0 1 ⟨[.ref a, .int 0 u], []⟩) (wpAny_pure ?_)
  dsimp only
  refine wpAny_bind (wpAny_reFound hp fun fs hfs => ?_)
  refine wpAny_bind (m := reGroupNumber _ _) ?_
  unfold reGroupNumber
  refine wpAny_bind (wpAny_pure ?_)
  refine wpAny_ite_true rfl ?_
  refine wpAny_bind (m := asIndex (.int 0 u)) (wpAny_pure ?_)
  refine wpAny_ite_false (decide_eq_false ?_) ?_
  · show ¬ ((decide ((0 : Int) < 0) || decide (2 * (0 : Int) ≥ ((sp.size : Nat) : Int))) = true)
    rw [Bool.or_eq_true, decide_eq_true_eq, decide_eq_true_eq]; omega
  refine wpAny_pure (wpAny_pure ?_)
  dsimp only
  refine wpAny_bind ?_
  refine wpAny_mkInt ?_
  refine wpAny_bind (wpAny_mkInt ?_)
  refine wpAny_bind (wpAny_newObj_type ?_ (by show (2 : Nat) ≤ sizeLine; decide))
  refine wpAny_pure ⟨_, rfl, ?_⟩
  show Q (.ref s.heap.objs.size) { s with heap := s.heap.push (tupObj #[.int (sp.getD (2 * 0) (-1)) _, .int (sp.getD (2 * 0 + 1) (-1)) _]), toks := _ }
  rw [show 2 * 0 + 1 = 1 from rfl, show 2 * 0 = 0 from rfl, hb, he]
  exact h _ _ _
theorem truthy_match {a : Addr} {x : Str} {t : Tok} {sp : Array Int} {Q : Bool → Shared → Prop} (hp : IsMatch s.heap a x t sp) (h : Q true s) : wpAny (model prog w) A (truthy (.ref a)) Q E s := by
  have hT := hp.typeIs
  unfold truthy
  refine wpAny_bind (wpAny_callSpecial?_none hT no_bool ?_)
  refine wpAny_bind (wpAny_specialOf hT no_len ?_)
  exact wpAny_ite_true rfl (wpAny_pure h)

variable {hp0 : Heap} {g : Array GenState} {d : Drawn} {tt : Nat} {os : OsState} {a : Addr} {o : Obj} {vs : Array Value} {a0 : Value}
theorem string_get {R : Result → Shared → Prop} (hx : hp0.get? a = some o) (hc : o.cls = .type "re.Match") (hd : o.data = .fields vs) (h0 : vs[0]? = some a0) (hq : R (.ok (.ret a0)) ⟨hp0, g, d, tt, os⟩) :
    codeAny (model prog w) A (.call (.builtin "member_descriptor.__get__") ⟨[.builtin "re.Match.string", .ref a, .type "re.Match"], []⟩) R ⟨hp0, g, d, tt, os⟩ := by
  have hT : (⟨hp0, g, d, tt, os⟩ : Shared).TypeIs (.ref a) "re.Match" := ⟨_, hx, hc⟩
  have hT5 : (⟨hp0, g, d, tt, os⟩ : Shared).TypeIs (.builtin "re.Match.string") "member_descriptor" := ty_string
  have f8 : isSubtype (.type "re.Match") (.type (".".intercalate ("re.Match.string".cutAt '.').dropLast)) = pure true := by rw [owner_string]; exact sub_match
  refine codeAny_call_builtin KF.slot_mem.plain KF.entry_mem (KF.slot_mem.check _ _ _ _ _ _ _ _ hT5 (KF.args_mem _ _ _) ?_)
  repeat (any_goals (first | assumption | wp_step))
  refine ⟨Code.quiet_builtin _ (by decide +kernel), codeAny_builtin entry_string ?_⟩
  show wpAny _ _ (do ret (← field (.ref a) 0)) _ _ _
  exact wpAny_bind (wpAny_field hx hd h0 (wpAny_pure hq))
theorem string_entry {tk : Tok} {Q : Fin → Shared → Prop} (hx : hp0.get? a = some o) (hc : o.cls = .type "re.Match") (hd : o.data = .fields vs) (h0 : vs[0]? = some a0) (hq : Q (.done (.ret a0)) ⟨hp0, g, d, tt, os⟩) :
    wpAny (model prog w) A (Builtin.«object.__getattribute__» ⟨[.ref a, .str "string" tk], []⟩) Q E ⟨hp0, g, d, tt, os⟩ := by
  have hT : (⟨hp0, g, d, tt, os⟩ : Shared).TypeIs (.ref a) "re.Match" := ⟨_, hx, hc⟩
  have hT5 : (⟨hp0, g, d, tt, os⟩ : Shared).TypeIs (.builtin "re.Match.string") "member_descriptor" := ty_string
  have f4 := lk_string
  have f5 := ty_string
  have f6 := KF.slot_mem.lookup
  have f7 := KF.slot_mset.lookup
  repeat (any_goals (first | assumption | wp_step))
  refine string_get hx hc hd h0 ?_
  repeat (any_goals (first | assumption | wp_step))
theorem string_call {tk : Tok} {R : Result → Shared → Prop} (hx : hp0.get? a = some o) (hc : o.cls = .type "re.Match") (hd : o.data = .fields vs) (h0 : vs[0]? = some a0) (hq : R (.ok (.ret a0)) ⟨hp0, g, d, tt, os⟩) :
    codeAny (model prog w) A (.call (.builtin "object.__getattribute__") ⟨[.ref a, .str "string" tk], []⟩) R ⟨hp0, g, d, tt, os⟩ :=
  codeAny_call_builtin slot_mga.plain entry_oga (slot_mga.check _ _ _ _ _ _ _ _ (show (⟨hp0, g, d, tt, os⟩ : Shared).TypeIs (.ref a) "re.Match" from ⟨_, hx, hc⟩) (args_oga _ _) (string_entry hx hc hd h0 hq))
theorem string_by {tk : Tok} {fill expr : Bool} {Q : Value → Shared → Prop} {x : Str} {t0 : Tok} (hx : hp0.get? a = some o) (hc : o.cls = .type "re.Match") (hd : o.data = .fields vs) (h0 : vs[0]? = some (.str x t0))
    (hq : Q (.str x t0) ⟨hp0, g, d, tt, os⟩) : wpAny (model prog w) A (getAttrBy (.ref a) (.str "string" tk) fill expr) Q E ⟨hp0, g, d, tt, os⟩ := by
  have hT : (⟨hp0, g, d, tt, os⟩ : Shared).TypeIs (.ref a) "re.Match" := ⟨_, hx, hc⟩
  have f2 := slot_mga.lookup
  have f3 := slot_mga.bind (.ref a)
  have hx0 : (expr && onTheHeap (Value.builtin "object.__getattribute__")) = false := by cases expr <;> rfl
  repeat (any_goals (first | assumption | wp_step))
  refine string_call hx hc hd h0 ?_
  repeat (any_goals (first | assumption | wp_step))
/-- m.string -/
theorem attr_string {expr : Bool} {Q : Value → Shared → Prop} {x : Str} {t0 : Tok} {sp : Array Int} (hp : IsMatch s.heap a x t0 sp)
    (hq : ∀ tk, Q (.str x t0) { s with toks := tk }) : wpAny (model prog w) A (getAttr (.ref a) "string" expr) Q E s := by
  obtain ⟨o, p, l, li, pt, tp, ot, n, h1, h2, h3, h4, _⟩ := hp
  obtain ⟨hp0, g, d, tt, os⟩ := s
  unfold getAttr
  repeat (any_goals (first | exact hq _ | with_reducible apply string_by h1 h2 h4 rfl | wp_step))
end
end
section
-- Re3
set_option maxRecDepth 10000
open Builtin Builtin.Re

abbrev lstObj (vs : Array Value) (n : Nat) : Obj := { cls := .type "list", data := .seq vs n }
/-- what the turns of a substitution put together, from d on -/
inductive Subs (C T : Array Nat) (k : Nat) (rf : Array Nat → Array Nat) : Nat → List Nat → Prop
  | done {d : Nat} : d ≤ T.size → Lands k (Sre.forSearch C T 1 d T.size false) Miss → Subs C T k rf d (T.extract d T.size).toList
  | more {d b e p q : Nat} {out : List Nat} : d ≤ b → b < e → e ≤ T.size → p ≤ q → Lands k (Sre.forSearch C T 1 d T.size false) (Hit b e p q) → Subs C T k rf e out →
      Subs C T k rf d ((T.extract d b).toList ++ ((rf (T.extract p q)).toList ++ out))
def catL (ys : List PySem.Str) : List Nat := ys.flatMap fun y => y.cps.toList
theorem catL_snoc (ys : List PySem.Str) (y : PySem.Str) : catL (ys ++ [y]) = catL ys ++ y.cps.toList := by simp [catL]
theorem strsAre_snoc : ∀ {vs : List Value} {ys : List PySem.Str} (_ : StrsAre vs ys) (y : PySem.Str) (t : Tok), StrsAre (vs ++ [.str y t]) (ys ++ [y])
  | _, _, .nil, y, t => .cons y t .nil
  | _, _, .cons z u r, y, t => .cons z u (strsAre_snoc r y t)

section
variable {prog : Program} {w : World} {A : Around} {E : Value → Shared → Prop} {s : Shared}
theorem wpAny_wholeTarget {a : Addr} {g : Nat} {C : Array Nat} {x : PySem.Str} {t : Tok} {Q : ReTarget → Shared → Prop} (hp : IsPat s.heap a g C)
    (h : Q { pattern := .ref a, string := .str x t, code := C, text := x.cps, kind := 0, groups := g, pos := 0, lim := x.cps.size } s) :
    wpAny (model prog w) A (reWholeTarget (.ref a) (.str x t)) Q E s := by
  obtain ⟨o, c, oc, p, fl, x0, y, vs, n, h1, h2, h3, h4, h5, h6, h7⟩ := hp
  unfold reWholeTarget
  refine wpAny_bind (wpAny_fieldsOf h1 h4 ?_)
  refine wpAny_bind (m := reTextOf (.str x t)) (wpAny_pure ?_)
  dsimp only
  refine wpAny_ite_false rfl ?_
  refine wpAny_ite_false rfl ?_
  refine wpAny_bind (m := reNoCollectionInside (.str x t) 0) (wpAny_pure ?_)
  refine wpAny_bind (m := reRawItems (.ref c)) ?_
  unfold reRawItems seqItems?
  refine wpAny_bind ?_
  dsimp only
  refine wpAny_bind (wpAny_load h5 ?_)
  rw [h6]
  refine wpAny_pure (wpAny_pure (wpAny_pure ?_))
  show Q { pattern := .ref a, string := .str x t, code := (vs.map reRawOf).map (·.toNat), text := x.cps, kind := 0, groups := (g : Int).toNat, pos := 0, lim := x.cps.size } s
  rw [h7]
  exact h
theorem IsPat.stays {h h' : Heap} {a : Addr} {g : Nat} {C : Array Nat} (hp : IsPat h a g C) (k : h.StaysIn h') : IsPat h' a g C := by
  obtain ⟨o, c, oc, p, fl, x0, y, vs, n, h1, h2, h3, h4, h5, h6, h7⟩ := hp
  exact ⟨o, c, oc, p, fl, x0, y, vs, n, k _ _ h1, h2, h3, h4, k _ _ h5, h6, h7⟩
theorem IsMatch.stays {h h' : Heap} {a : Addr} {x : PySem.Str} {t : Tok} {sp : Array Int} (hp : IsMatch h a x t sp) (k : h.StaysIn h') : IsMatch h' a x t sp := by
  obtain ⟨o, p, l, li, pt, tp, ot, n, h1, h2, h3, h4, h5, h6⟩ := hp
  exact ⟨o, p, l, li, pt, tp, ot, n, k _ _ h1, h2, h3, h4, k _ _ h5, h6⟩
theorem isMatch_made {h : Heap} {x : PySem.Str} {t : Tok} {a : Addr} {p l b e u v : Nat} :
    IsMatch ((h.push (tupObj #[rawInt b, rawInt e, rawInt u, rawInt v])).push (matchObj x t a p l 1 h.objs.size)) (h.objs.size + 1) x t #[(b : Int), (e : Int), (u : Int), (v : Int)] := by
  have e1 : (h.push (tupObj #[rawInt b, rawInt e, rawInt u, rawInt v])).objs.size = h.objs.size + 1 := Heap.size_push ..
  have g1 : ((h.push (tupObj #[rawInt b, rawInt e, rawInt u, rawInt v])).push (matchObj x t a p l 1 h.objs.size)).get? (h.objs.size + 1) = some (matchObj x t a p l 1 h.objs.size) := by rw [← e1]; exact Heap.get?_push_size _ rfl
  exact ⟨_, _, _, _, _, h.objs.size, _, 0, g1, rfl, rfl, rfl, Heap.get?_push_of_some _ (Heap.get?_push_size _ rfl), by simp⟩
theorem push2_stays (h : Heap) (o o' : Obj) : h.StaysIn ((h.push o).push o') := fun b x e => Heap.get?_push_of_some _ (Heap.get?_push_of_some _ e)

theorem plain_subloop : plainId "re.Pattern.sub.loop" = true := by decide +kernel
theorem size_catL {ys : List PySem.Str} : (ys.map (·.length)).sum = (catL ys).length := by
  induction ys with
  | nil => rfl
  | cons y ys ih =>
    simp only [List.map_cons, List.sum_cons, ih, catL, List.flatMap_cons, List.length_append, Array.length_toList]
    rfl
/-- one more text at the end of the pieces -/
theorem push_piece {Ls : Addr} {vs : Array Value} {n : Nat} {v : Value} {Q : Unit → Shared → Prop} (base : Heap) (hL : s.heap.get? Ls = some (lstObj vs n)) (hb : base.get? Ls = none) (hk : base.StaysIn s.heap) (hz : vs.size ≤ 4000000)
    (hQ : ∀ h', base.StaysIn h' → h'.get? Ls = some (lstObj (vs.push v) (n + 1)) → (∀ b o, b ≠ Ls → s.heap.get? b = some o → h'.get? b = some o) → Q () { s with heap := h' }) :
    wpAny (model prog w) A (updateSeq Ls (·.push v)) Q E s := by
  refine wpAny_updateSeq hL rfl (hQ _ (fun b o e => ?_) ?_ ?_) (by rw [sizeLine_eq]; omega) (by rw [sizeLine_eq, Array.size_push]; omega)
  · rw [Heap.get?_update_ne _ _ _ _ (fun q => by rw [q, hb] at e; cases e)]; exact hk b o e
  · rw [Heap.get?_update_self _ hL rfl]; simp [Obj.mapSeq]
  · intro b o hne e
    rw [Heap.get?_update_ne _ _ _ _ hne]; exact e

def tailT (x : Array Nat) (Ls : Addr) (wc : Bool) (n : Int) : Sem Fin := do
  let joiner ← reSlice x 0 0 0
  let text ← if ((← seqItems? (.ref Ls)).getD #[]).isEmpty then pure joiner
      else call (.builtin (if (0 : Nat) == 0 then "str.join" else "bytes.join")) [joiner, .ref Ls]
  if wc then ret (← holding [text] do newTuple [text, ← mkInt n]) else ret text
theorem join_nothing : ∀ ys : List Str, (Txt.join ⟨#[]⟩ ys).cps.toList = catL ys := by
  intro ys
  show (Str.glued ⟨#[]⟩ ys).cps.toList = _
  rw [StrLaws.glued_eq_join]
  induction ys with
  | nil => rfl
  | cons y ys ih =>
    cases ys with
    | nil => simp [PySem.Str.join, catL]
    | cons z zs =>
      have e : PySem.Str.join ⟨#[]⟩ (y :: z :: zs) = y ++ ⟨#[]⟩ ++ PySem.Str.join ⟨#[]⟩ (z :: zs) := rfl
      rw [e]
      have c1 : ∀ p q : PySem.Str, (p ++ q).cps = p.cps ++ q.cps := fun _ _ => rfl
      rw [c1, c1]
      simp only [Array.toList_append, List.append_nil, ih]
      rfl
theorem tail_text {Ls : Addr} {vs : Array Value} {n : Nat} {ys : List Str} {x : Array Nat} {Q : Fin → Shared → Prop} {cnt : Int} (hL : s.heap.get? Ls = some (lstObj vs n)) (hY : StrsAre vs.toList ys) (hsz : (catL ys).length ≤ 1000000)
    (hR : ∀ tk' tk'', Q (.done (.ret (.str ⟨(catL ys).toArray⟩ tk'))) { s with toks := tk'' }) : wpAny (model prog w) A (tailT x Ls false cnt) Q E s := by
  unfold tailT
  refine wpAny_bind ?_
  unfold reSlice
  refine wpAny_ite_true rfl ?_
  have hx0 : (⟨x.extract 0 0⟩ : PySem.Str) = ⟨#[]⟩ := by simp
  rw [hx0]
  refine wpAny_mkStr ?_ (by show (0 : Nat) ≤ _; omega)
  refine wpAny_bind (m := seqItems? (.ref Ls)) ?_
  unfold seqItems?
  refine wpAny_bind (wpAny_load hL ?_)
  refine wpAny_pure ?_
  by_cases h0 : vs.isEmpty = true
  · refine wpAny_ite_true (decide_eq_true h0) ?_
    have hv : vs = #[] := by simpa using h0
    subst hv
    have hy : ys = [] := by cases hY; rfl
    subst hy
    refine wpAny_bind (wpAny_pure ?_)
    exact wpAny_ite_false rfl (wpAny_pure (hR _ _))
  · refine wpAny_ite_false (decide_eq_false h0) ?_
    refine wpAny_bind (join_list (D := Ls) ⟨_, hL, rfl, _, rfl⟩ hY (by rw [size_catL]; show _ + ys.length * 0 ≤ _; omega) fun t' k => ?_)
    have e : (Txt.join ⟨#[]⟩ ys) = (⟨(catL ys).toArray⟩ : PySem.Str) := by
      have := join_nothing ys
      cases hj : Txt.join ⟨#[]⟩ ys with
      | mk c => rw [hj] at this; simp only at this; rw [← this]
    rw [e]
    exact wpAny_ite_false rfl (wpAny_pure (hR _ _))

theorem sub_loop {a f Ls : Addr} {x : PySem.Str} {t : Tok} {C : Array Nat} {k : Nat} {rf : Array Nat → Array Nat} {R : Result → Shared → Prop} {base : Heap} {fin : List Nat} (hk : k < 1000000000) (hsz : x.cps.size ≤ 1000000)
    (hp : IsPat base a 1 C) (hLs : base.get? Ls = none) (hfin : fin.length ≤ 1000000)
    (hcall : ∀ h tk found b e p q R, base.StaysIn h → p ≤ q → IsMatch h found x t #[(b : Int), (e : Int), ((p : Nat) : Int), ((q : Nat) : Int)] →
      (∀ tk' h'' tk'', h.StaysIn h'' → R (.ok (.ret (.str ⟨rf (x.cps.extract p q)⟩ tk'))) { s with heap := h'', toks := tk'' }) → codeAny (model prog w) A.in1 (.call (.ref f) ⟨[.ref found], []⟩) R { s with heap := h, toks := tk })
    (hR : ∀ tk' h' tk'', base.StaysIn h' → R (.ok (.ret (.str ⟨fin.toArray⟩ tk'))) { s with heap := h', toks := tk'' }) :
    ∀ {d : Nat} {out : List Nat}, Subs C x.cps k rf d out → ∀ (vs : Array Value) (ys : List PySem.Str) (n : Nat) (h : Heap) (tk : Nat) (cnt : Int), base.StaysIn h → h.get? Ls = some (lstObj vs n) → StrsAre vs.toList ys → vs.size ≤ 2 * d → catL ys ++ out = fin →
      codeAny (model prog w) A (.builtin "re.Pattern.sub.loop" ⟨[.ref a, .str x t, .ref f, rawInt 1, rawInt 0, rawInt cnt, rawInt d, rawInt d, .bool false, .ref Ls, .bool false], []⟩) R { s with heap := h, toks := tk } := by
  intro d out hS
  induction hS with
  | @done d hd hm =>
    intro vs ys n h tk cnt hb hL hY hv hout
    refine codeAny_builtin entry_subloop ?_
    rw [Around.under_plainId plain_subloop]
    unfold Builtin.«re.Pattern.sub.loop»
    dsimp only [rawInt]
    refine wpAny_bind (wpAny_wholeTarget (hp.stays hb) ?_)
    refine wpAny_ite_false rfl ?_
    refine wpAny_bind (wpAny_ite_false rfl ?_)
    unfold reNextFound
    refine wpAny_ran hm hk fun m' hm' => .inr ⟨hm', ?_⟩
    dsimp only
    by_cases hlt : d < x.cps.size
    · refine wpAny_ite_true (decide_eq_true hlt) ?_
      refine wpAny_bind ?_
      unfold reSlice
      refine wpAny_ite_true rfl ?_
      refine wpAny_mkStr ?_ (by show (x.cps.extract d x.cps.size).size ≤ _; rw [sizeLine_eq]; simp only [Array.size_extract]; omega)
      refine wpAny_bind (push_piece base hL hLs hb (by omega) fun h' hb' hL' _ => ?_)
      refine tail_text (x := x.cps) hL' (by rw [Array.toList_push]; exact strsAre_snoc hY _ _) (by rw [catL_snoc]; show (catL ys ++ (x.cps.extract d x.cps.size).toList).length ≤ _; rw [hout]; exact hfin) fun tk' tk'' => ?_
      rw [catL_snoc]
      show R (.ok (.ret (.str ⟨(catL ys ++ (x.cps.extract d x.cps.size).toList).toArray⟩ tk'))) _
      rw [hout]; exact hR _ _ _ hb'
    · refine wpAny_ite_false (decide_eq_false hlt) ?_
      have hz : (x.cps.extract d x.cps.size).toList = [] := by simp; omega
      rw [hz, List.append_nil] at hout
      refine tail_text (x := x.cps) hL hY (by rw [hout]; exact hfin) fun tk' tk'' => ?_
      rw [hout]; exact hR _ _ _ hb
  | @more d b e p q out h1 h2 h3 h4 hm hS ih =>
    intro vs ys n h tk cnt hb hL hY hv hout
    refine codeAny_builtin entry_subloop ?_
    rw [Around.under_plainId plain_subloop]
    unfold Builtin.«re.Pattern.sub.loop»
    dsimp only [rawInt]
    refine wpAny_bind (wpAny_wholeTarget (hp.stays hb) ?_)
    refine wpAny_ite_false rfl ?_
    refine wpAny_bind (wpAny_ite_false rfl ?_)
    unfold reNextFound
    refine wpAny_ran hm hk fun m' hm' => .inl ⟨hm'.1, ?_⟩
    dsimp only
    have ms : m'.start = b := hm'.2.1
    have mh : m'.handed = e := hm'.2.2.1
    -- what follows the slice
    have rest : ∀ (vs' : Array Value) (ys' : List PySem.Str) (n' : Nat) (h₁ : Heap) (tk₁ : Nat), base.StaysIn h₁ → h₁.get? Ls = some (lstObj vs' n') → StrsAre vs'.toList ys' → vs'.size ≤ 2 * d + 1 → catL ys' ++ ((rf (x.cps.extract p q)).toList ++ out) = fin →
        wpAny (model prog w) A.in1 (do
          let found ← reNewMatch (.ref a) (.str x t) 1 0 x.cps.size m'
          let item ← holding [found] (if (1 : Int) == 1 then call (.ref f) [found] else do reExpand (.ref f) (← reFound found))
          if item != .none then
            updateSeq Ls (·.push item)
            again (.builtin "re.Pattern.sub.loop" ⟨[.ref a, .str x t, .ref f, .int 1 0, .int 0 0, .int (cnt + 1) 0, .int m'.handed 0, .int m'.handed 0, .bool (m'.handed == m'.start), .ref Ls, .bool false], []⟩)
          else again (.builtin "re.Pattern.sub.loop" ⟨[.ref a, .str x t, .ref f, .int 1 0, .int 0 0, .int (cnt + 1) 0, .int m'.handed 0, .int m'.handed 0, .bool (m'.handed == m'.start), .ref Ls, .bool false], []⟩))
          (fun fin s' => match fin with | .done f => R (.ok f) s' | .again c' => c'.quiet = true ∧ codeAny (model prog w) A c' R s') (fun e s' => R (.error e) s') { s with heap := h₁, toks := tk₁ } := by
      intro vs' ys' n' h₁ tk₁ hb₁ hL₁ hY₁ hv₁ hout₁
      refine wpAny_bind (wpAny_newMatch1 hm' h4 ?_)
      refine wpAny_bind (wpAny_holding (wpAny_ite_true rfl ?_))
      refine wpAny_call ?_
      have hL₂ : ∀ o o', ((h₁.push o).push o').get? Ls = some (lstObj vs' n') := fun o o' => push2_stays _ _ _ _ _ hL₁
      refine hcall _ _ _ _ _ p q _ (fun c o e => push2_stays _ _ _ _ _ (hb₁ c o e)) h4 isMatch_made fun tk' h'' tk'' hk'' => ?_
      refine wpAny_ite_true rfl ?_
      refine wpAny_bind (push_piece base (hk'' _ _ (hL₂ _ _)) hLs (fun c o e => hk'' _ _ (push2_stays _ _ _ _ _ (hb₁ c o e))) (by omega) fun h₃ hb₃ hL₃ _ => ?_)
      refine wpAny_pure ⟨Code.quiet_builtin _ (by decide +kernel), ?_⟩
      rw [ms, mh]
      have hne : (e == b) = false := by simp; omega
      rw [hne]
      refine ih _ (ys' ++ [⟨rf (x.cps.extract p q)⟩]) _ h₃ tk'' (cnt + 1) hb₃ hL₃ (by rw [Array.toList_push]; exact strsAre_snoc hY₁ _ _) (by rw [Array.size_push]; omega) ?_
      rw [catL_snoc, List.append_assoc]; exact hout₁
    by_cases hlt : d < b
    · refine wpAny_ite_true (decide_eq_true (by rw [ms]; exact hlt)) ?_
      refine wpAny_bind ?_
      unfold reSlice
      refine wpAny_ite_true rfl ?_
      refine wpAny_mkStr ?_ (by show (x.cps.extract d m'.start).size ≤ _; rw [sizeLine_eq]; simp only [Array.size_extract]; omega)
      refine wpAny_bind (push_piece base hL hLs hb (by omega) fun h' hb' hL' _ => ?_)
      refine wpAny_ite_false rfl ?_
      refine rest _ (ys ++ [⟨x.cps.extract d b⟩]) _ _ _ hb' hL' (by rw [Array.toList_push, ms]; exact strsAre_snoc hY _ _) (by rw [Array.size_push]; omega) ?_
      rw [catL_snoc, List.append_assoc]; exact hout
    · refine wpAny_ite_false (decide_eq_false (by rw [ms]; exact hlt)) ?_
      refine wpAny_ite_false rfl ?_
      have hz : (x.cps.extract d b).toList = [] := by simp; omega
      rw [hz, List.nil_append] at hout
      exact rest vs ys n h _ hb hL hY (by omega) hout
end
end
section
-- Re4
set_option maxRecDepth 10000
open Builtin Builtin.Re
theorem lk_fcall : ∃ v, typeLookup (.type "function") "__call__" = pure (some v) := ⟨.builtin "function.__call__", by rw [typeLookup_type, builtinLookup_eq_fast]; kernel_rfl⟩
theorem lk_scall : typeLookup (.type "str") "__call__" = pure none := by rw [typeLookup_type, builtinLookup_eq_fast]; kernel_rfl
theorem str_not_bytearray : isSubtype (.type "str") (.type "bytearray") = pure false := by rw [isSubtype_type]; kernel_rfl
theorem named2 (id f : String) (u v : Value) : reNamed id f ["repl", "string", "count"] 2 [u, v] [] = pure [some u, some v, none] := rfl
section
variable {prog : Program} {w : World} {A : Around} {E : Value → Shared → Prop} {s : Shared}
/-- PATTERN.sub(function, text) -/
theorem call_sub {a f : Addr} {of : Obj} {x : PySem.Str} {t : Tok} {C : Array Nat} {k : Nat} {rf : Array Nat → Array Nat} {Q : Value → Shared → Prop} {fin : List Nat} (hk : k < 1000000000) (hsz : x.cps.size ≤ 1000000)
    (hp : IsPat s.heap a 1 C) (hf : s.heap.get? f = some of) (hfc : of.cls = .type "function") (hfin : fin.length ≤ 1000000) (hS : Subs C x.cps k rf 0 fin)
    (hcall : ∀ h tk found b e p q R, s.heap.StaysIn h → p ≤ q → IsMatch h found x t #[(b : Int), (e : Int), ((p : Nat) : Int), ((q : Nat) : Int)] →
      (∀ tk' h'' tk'', h.StaysIn h'' → R (.ok (.ret (.str ⟨rf (x.cps.extract p q)⟩ tk'))) { s with heap := h'', toks := tk'' }) → codeAny (model prog w) A.in1 (.call (.ref f) ⟨[.ref found], []⟩) R { s with heap := h, toks := tk })
    (hQ : ∀ tk' h' tk'', s.heap.StaysIn h' → Q (.str ⟨fin.toArray⟩ tk') { s with heap := h', toks := tk'' }) :
    wpAny (model prog w) A (call (.builtin "re.Pattern.sub") [.ref a, .ref f, .str x t]) Q E s := by
  have hT : s.TypeIs (.ref a) "re.Pattern" := by obtain ⟨o, c, oc, p, f, x, y, vs, n, h1, h2, h3, _⟩ := hp; exact ⟨o, h1, h2⟩
  have hTf : s.TypeIs (.ref f) "function" := ⟨of, hf, hfc⟩
  obtain ⟨fc, hfc'⟩ := lk_fcall
  refine wpAny_call (codeAny_call_builtin slot_sub.plain entry_sub (slot_sub.check _ _ _ _ _ _ _ _ hT rfl ?_))
  unfold Builtin.«re.Pattern.sub» reSubstitute
  dsimp only
  rw [named2]
  refine wpAny_bind (wpAny_pure ?_)
  dsimp only
  refine wpAny_bind (wpAny_pure ?_)
  refine wpAny_bind (wpAny_specialOf hTf hfc' ?_)
  refine wpAny_ite_true rfl ?_
  refine wpAny_bind (wpAny_pure ?_)
  refine wpAny_ite_true rfl ?_
  refine wpAny_bind (wpAny_pure ?_)
  dsimp only
  refine wpAny_bind (wpAny_holding (wpAny_wholeTarget hp ?_))
  refine wpAny_ite_true rfl ?_
  refine wpAny_bind (m := reNotHeld _ _) ?_
  unfold reNotHeld
  refine wpAny_bind (wpAny_isInstance (typeIs_str _ _ _) str_not_bytearray ?_)
  refine wpAny_ite_false rfl ?_
  refine wpAny_pure ?_
  refine wpAny_bind (wpAny_newObj_type ?_ (by show (0 : Nat) ≤ _; omega))
  refine wpAny_pure ⟨Code.quiet_builtin _ (by decide +kernel), ?_⟩
  have fresh : s.heap.get? s.heap.objs.size = none := by
    cases e : s.heap.get? s.heap.objs.size with
    | none => rfl
    | some o => exact absurd (Heap.lt_size e) (Nat.lt_irrefl _)
  refine sub_loop (base := s.heap) (fin := fin) hk hsz hp fresh hfin hcall (fun tk' h' tk'' hb => hQ _ _ _ hb) hS #[] [] 0 _ s.toks 0 (fun b o e => Heap.get?_push_of_some _ e) (Heap.get?_push_size _ rfl) .nil (Nat.zero_le _) rfl

theorem tail_pair {Ls : Addr} {vs : Array Value} {n : Nat} {ys : List PySem.Str} {x : Array Nat} {Q : Fin → Shared → Prop} {cnt : Int} (hL : s.heap.get? Ls = some (lstObj vs n)) (hY : StrsAre vs.toList ys) (hv : vs.isEmpty = false) (hsz : (catL ys).length ≤ 1000000)
    (hR : ∀ tk' tk1 tk'', Q (.done (.ret (.ref s.heap.objs.size))) { s with heap := s.heap.push (tupObj #[.str ⟨(catL ys).toArray⟩ tk', .int cnt tk1]), toks := tk'' }) : wpAny (model prog w) A (tailT x Ls true cnt) Q E s := by
  unfold tailT
  refine wpAny_bind ?_
  unfold reSlice
  refine wpAny_ite_true rfl ?_
  have hx0 : (⟨x.extract 0 0⟩ : PySem.Str) = ⟨#[]⟩ := by simp
  rw [hx0]
  refine wpAny_mkStr ?_ (by show (0 : Nat) ≤ _; omega)
  refine wpAny_bind (m := seqItems? (.ref Ls)) ?_
  unfold seqItems?
  refine wpAny_bind (wpAny_load hL ?_)
  refine wpAny_pure ?_
  refine wpAny_ite_false (decide_eq_false (by show ¬ (vs.isEmpty = true); rw [hv]; exact Bool.false_ne_true)) ?_
  refine wpAny_bind (join_list (D := Ls) ⟨_, hL, rfl, _, rfl⟩ hY (by rw [size_catL]; show _ + ys.length * 0 ≤ _; omega) fun t' k => ?_)
  have e : (Txt.join ⟨#[]⟩ ys) = (⟨(catL ys).toArray⟩ : PySem.Str) := by
    have := join_nothing ys
    cases hj : Txt.join ⟨#[]⟩ ys with
    | mk c => rw [hj] at this; simp only at this; rw [← this]
  rw [e]
  refine wpAny_ite_true rfl ?_
  refine wpAny_bind (wpAny_holding (wpAny_bind (wpAny_mkInt ?_)))
  refine wpAny_newObj_type ?_ (by show (2 : Nat) ≤ sizeLine; decide)
  exact wpAny_pure (hR _ _ _)

/-- PATTERN.subn('', text) where the pattern meets once, at the beginning -/
theorem call_subn {a : Addr} {x : PySem.Str} {t u : Tok} {C : Array Nat} {k e : Nat} {Q : Value → Shared → Prop} (hk : k < 1000000000) (hsz : x.cps.size ≤ 1000000)
    (hp : IsPat s.heap a 0 C) (he : 0 < e) (hes : e ≤ x.cps.size) (h1 : Lands k (Sre.forSearch C x.cps 0 0 x.cps.size false) (Hit0 0 e)) (h2 : Lands k (Sre.forSearch C x.cps 0 e x.cps.size false) Miss)
    (hQ : ∀ a' h' tk' tk1 tk'', s.heap.StaysIn h' → s.heap.get? a' = none → h'.get? a' = some (tupObj #[.str ⟨x.cps.extract e x.cps.size⟩ tk', .int 1 tk1]) → Q (.ref a') { s with heap := h', toks := tk'' }) :
    wpAny (model prog w) A (call (.builtin "re.Pattern.subn") [.ref a, .str ⟨#[]⟩ u, .str x t]) Q E s := by
  have hT : s.TypeIs (.ref a) "re.Pattern" := by obtain ⟨o, c, oc, p, f, x, y, vs, n, h1, h2, h3, _⟩ := hp; exact ⟨o, h1, h2⟩
  refine wpAny_call (codeAny_call_builtin slot_subn.plain entry_subn (slot_subn.check _ _ _ _ _ _ _ _ hT rfl ?_))
  unfold Builtin.«re.Pattern.subn» reSubstitute
  dsimp only
  rw [named2]
  refine wpAny_bind (wpAny_pure ?_)
  dsimp only
  refine wpAny_bind (wpAny_pure ?_)
  refine wpAny_bind (wpAny_specialOf (typeIs_str _ _ _) lk_scall ?_)
  refine wpAny_ite_false rfl ?_
  refine wpAny_bind (m := asStr? _) (wpAny_pure ?_)
  dsimp only
  refine wpAny_bind (wpAny_pure ?_)
  refine wpAny_ite_false rfl ?_
  refine wpAny_ite_true (by simp) ?_
  refine wpAny_bind (wpAny_pure ?_)
  dsimp only
  refine wpAny_bind (wpAny_holding (wpAny_wholeTarget hp ?_))
  refine wpAny_ite_false rfl ?_
  refine wpAny_bind (wpAny_newObj_type ?_ (by show (0 : Nat) ≤ _; omega))
  refine wpAny_pure ⟨Code.quiet_builtin _ (by decide +kernel), ?_⟩
  have fresh : s.heap.get? s.heap.objs.size = none := by
    cases e : s.heap.get? s.heap.objs.size with
    | none => rfl
    | some o => exact absurd (Heap.lt_size e) (Nat.lt_irrefl _)
  have kp : s.heap.StaysIn (s.heap.push (lstObj #[] 0)) := fun b o e => Heap.get?_push_of_some _ e
  have hL0 : (s.heap.push (lstObj #[] 0)).get? s.heap.objs.size = some (lstObj #[] 0) := Heap.get?_push_size _ rfl
  -- the first turn
  refine codeAny_builtin entry_subloop ?_
  rw [Around.under_plainId plain_subloop]
  unfold Builtin.«re.Pattern.sub.loop»
  dsimp only [rawInt]
  refine wpAny_bind (wpAny_wholeTarget (hp.stays kp) ?_)
  refine wpAny_ite_true rfl ?_
  refine wpAny_bind (m := reLiteralCannotBeTurned _) (wpAny_pure ?_)
  refine wpAny_bind (wpAny_ite_false rfl ?_)
  unfold reNextFound
  refine wpAny_ran h1 hk fun m' hm' => .inl ⟨hm'.1, ?_⟩
  have ms : m'.start = 0 := hm'.2.1
  have mh : m'.handed = e := hm'.2.2
  dsimp only
  refine wpAny_ite_false (decide_eq_false (by rw [ms]; decide)) ?_
  refine wpAny_ite_true rfl ?_
  refine wpAny_bind (wpAny_pure ?_)
  refine wpAny_ite_true rfl ?_
  refine wpAny_bind (push_piece s.heap hL0 fresh kp (by decide) fun h₁ hb₁ hL₁ _ => ?_)
  refine wpAny_pure ⟨Code.quiet_builtin _ (by decide +kernel), ?_⟩
  rw [ms, mh]
  have hne : (e == 0) = false := by simp; omega
  rw [hne]
  -- the second
  refine codeAny_builtin entry_subloop ?_
  rw [Around.under_plainId plain_subloop]
  unfold Builtin.«re.Pattern.sub.loop»
  dsimp only [rawInt]
  refine wpAny_bind (wpAny_wholeTarget (hp.stays hb₁) ?_)
  refine wpAny_ite_true rfl ?_
  refine wpAny_bind (m := reLiteralCannotBeTurned _) (wpAny_pure ?_)
  refine wpAny_bind (wpAny_ite_false rfl ?_)
  unfold reNextFound
  refine wpAny_ran h2 hk fun m' hm' => .inr ⟨hm', ?_⟩
  dsimp only
  have fin : ∀ (h' : Heap) (tk' : Tok) (tk1 : Tok) (tk'' : Nat) (y : Array Nat), s.heap.StaysIn h' → y = x.cps.extract e x.cps.size →
      Q (.ref h'.objs.size) { s with heap := h'.push (tupObj #[.str ⟨y⟩ tk', .int 1 tk1]), toks := tk'' } := by
    intro h' tk' tk1 tk'' y hb hy
    subst hy
    refine hQ _ _ tk' tk1 tk'' (fun b o e => Heap.get?_push_of_some _ (hb b o e)) ?_ (Heap.get?_push_size _ rfl)
    cases q : s.heap.get? h'.objs.size with
    | none => rfl
    | some o => exact absurd (Heap.lt_size (hb _ _ q)) (Nat.lt_irrefl _)
  by_cases hlt : e < x.cps.size
  · refine wpAny_ite_true (decide_eq_true hlt) ?_
    refine wpAny_bind ?_
    unfold reSlice
    refine wpAny_ite_true rfl ?_
    refine wpAny_mkStr ?_ (by show (x.cps.extract e x.cps.size).size ≤ _; rw [sizeLine_eq]; simp only [Array.size_extract]; omega)
    refine wpAny_bind (push_piece s.heap hL₁ fresh hb₁ (by show (1 : Nat) ≤ _; omega) fun h' hb' hL' _ => ?_)
    refine tail_pair (x := x.cps) (ys := [⟨#[]⟩, ⟨x.cps.extract e x.cps.size⟩]) hL' (.cons _ _ (.cons _ _ .nil)) rfl (by show ([] ++ ((x.cps.extract e x.cps.size).toList ++ [])).length ≤ _; simp; omega) fun tk' tk1 tk'' => ?_
    exact fin _ _ _ _ _ hb' (by show ([] ++ ((x.cps.extract e x.cps.size).toList ++ [])).toArray = _; rw [List.nil_append, List.append_nil, Array.toArray_toList])
  · refine wpAny_ite_false (decide_eq_false hlt) ?_
    refine tail_pair (x := x.cps) (ys := [⟨#[]⟩]) hL₁ (.cons _ _ .nil) rfl (by decide) fun tk' tk1 tk'' => ?_
    exact fin _ _ _ _ _ hb₁ (by
      have : e = x.cps.size := by omega
      subst this; simp [catL])
end
end
section
-- Sub1
set_option maxRecDepth 10000
open PySem.Sre

theorem extract_toList (T : Array Nat) (a b : Nat) : (T.extract a b).toList = (T.toList.drop a).take (b - a) := by simp
theorem mem_of_getD {l : List Nat} {i : Nat} (h : i < l.length) : l.getD i 0 ∈ l := by
  rw [List.getD_eq_getElem?_getD, List.getElem?_eq_getElem h]; exact List.getElem_mem h
theorem mem_getD {l : List Nat} {x : Nat} (h : x ∈ l) : ∃ i, i < l.length ∧ l.getD i 0 = x := by
  obtain ⟨i, hi, e⟩ := List.getElem_of_mem h
  exact ⟨i, hi, by rw [List.getD_eq_getElem?_getD, List.getElem?_eq_getElem hi]; exact e⟩
theorem esc_all_plain {l : List Nat} (h : ∀ c ∈ l, escB c = false) : esc l = l := by
  have := esc_plain (r := []) h
  rwa [List.append_nil, show esc [] = [] from rfl, List.append_nil] at this

theorem subs_JE (T : Array Nat) : ∀ (n d : Nat), T.size - d ≤ n → d ≤ T.size → Subs cJE T 10 (fun c => #[92] ++ c) d (esc (T.toList.drop d)) := by
  intro n
  induction n with
  | zero =>
    intro d h1 h2
    have hd : d = T.size := by omega
    have e : esc (T.toList.drop d) = (T.extract d T.size).toList := by
      have hz : T.toList.drop d = [] := List.drop_eq_nil_of_le (by simp; omega)
      rw [extract_toList, hz]; simp [esc]
    rw [e]
    refine .done h2 ?_
    rcases JE_search T d h2 false with ⟨q, a, b, _⟩ | ⟨_, hl⟩
    · omega
    · exact hl
  | succ n ih =>
    intro d h1 h2
    rcases JE_search T d h2 false with ⟨q, hq1, hq2, hq3, hq4, hl⟩ | ⟨hno, hl⟩
    · have hlen : (T.toList.drop d).length = T.size - d := by simp
      have e1 : T.toList.drop d = (T.extract d q).toList ++ T.toList.drop q := by
        rw [extract_toList]
        conv => lhs; rw [← List.take_append_drop (q - d) (T.toList.drop d)]
        rw [List.drop_drop]; congr 2; omega
      have e2 : T.toList.drop q = T.getD q 0 :: T.toList.drop (q + 1) := by
        have hq : q < T.toList.length := by simpa using hq2
        rw [List.drop_eq_getElem_cons hq]
        congr 1
        simp [Array.getD_eq_getD_getElem?, hq2]
      have hpl : ∀ c ∈ (T.extract d q).toList, escB c = false := by
        intro c hc
        obtain ⟨i, hi, rfl⟩ := mem_getD hc
        have hi' : i < q - d := by simp at hi; omega
        have := hq4 (d + i) (by omega) (by omega)
        rw [getD_drop] at this
        rw [extract_toList]
        rw [List.getD_eq_getElem?_getD, List.getElem?_take_of_lt hi', ← List.getD_eq_getElem?_getD]
        exact this
      have e3 : esc (T.toList.drop d) = (T.extract d q).toList ++ (((fun c => #[92] ++ c) (T.extract q (q + 1))).toList ++ esc (T.toList.drop (q + 1))) := by
        rw [e1, esc_plain hpl, e2, esc_cons_special hq3]
        congr 1
        have : (T.extract q (q + 1)).toList = [T.getD q 0] := by
          rw [extract_toList, e2]; simp
        simp only [Array.toList_append, this]
        rfl
      rw [e3]
      exact .more hq1 (by omega) (by omega) (by omega) hl (ih (q + 1) (by omega) (by omega))
    · have e : esc (T.toList.drop d) = (T.extract d T.size).toList := by
        have : (T.extract d T.size).toList = T.toList.drop d := by
          rw [extract_toList]; apply List.take_of_length_le; simp
        rw [this]
        refine esc_all_plain fun c hc => ?_
        obtain ⟨i, hi, rfl⟩ := mem_getD hc
        have := hno (d + i) (by omega) (by simp at hi; omega)
        rwa [getD_drop] at this
      rw [e]
      exact .done h2 hl

theorem esc_no92 {r : List Nat} (h : ∀ c ∈ r, escB c = false) : ∀ c ∈ r, c ≠ 92 := fun c hc e => by subst e; have := h _ hc; cases this
theorem subs_ES (T : Array Nat) : ∀ (n : Nat) (r : List Nat) (d : Nat), r.length ≤ n → T.toList.drop d = esc r → d ≤ T.size → (∀ c ∈ r, c ≠ 10) → Subs cES T (2 * T.size + 20) (fun c => c) d r := by
  intro n
  induction n with
  | zero =>
    intro r d hn hR hd hx
    have hr : r = [] := List.length_eq_zero_iff.mp (by omega)
    subst hr
    have hs := size_of_drop hR
    have e : ([] : List Nat) = (T.extract d T.size).toList := by rw [extract_toList, hR, show esc [] = [] from rfl, List.take_nil]
    rw [e]
    exact .done hd ((ES_search T d hd false).2 fun j a b => absurd hs (by simp [esc]; omega))
  | succ n ih =>
    intro r d hn hR hd hx
    obtain ⟨pl, r', rfl, hpl, hr⟩ := split_plain r
    rw [esc_plain hpl] at hR
    have hs := size_of_drop hR
    rcases hr with rfl | ⟨c, r'', rfl, hc⟩
    · rw [show esc [] = [] from rfl, List.append_nil] at hR
      rw [List.append_nil]
      have e : pl = (T.extract d T.size).toList := by
        rw [extract_toList, hR, List.take_of_length_le]
        rw [← hR]; simp
      rw [e]
      refine .done hd ((ES_search T d hd false).2 fun j a b => ?_)
      have : T.getD (d + (j - d)) 0 = pl.getD (j - d) 0 := getD_of_drop hR
      rw [show d + (j - d) = j by omega] at this
      rw [this]
      refine esc_no92 hpl _ (mem_of_getD ?_)
      have hs' := size_of_drop hR
      omega
    · rw [esc_cons_special hc] at hR
      simp only [List.length_append, List.length_cons, esc_cons_special hc] at hs
      have hq := drop_more hR
      have h92 : T.getD (d + pl.length) 0 = 92 := by have := getD_of_drop (j := 0) hq; rwa [Nat.add_zero] at this
      have hcc : T.getD (d + pl.length + 1) 0 = c := getD_of_drop (j := 1) hq
      have hq2 : T.toList.drop (d + pl.length + 2) = esc r'' := drop_more (a := [92, c]) hq
      have hq1 : T.toList.drop (d + pl.length + 1) = c :: esc r'' := drop_more (a := [92]) hq
      have hc10 : c ≠ 10 := hx c (List.mem_append_right _ (.head _))
      have hl := (ES_search T d hd false).1 (d + pl.length) (by omega) (by omega) h92 (fun j a b => by
        have : T.getD (d + (j - d)) 0 = (pl ++ 92 :: c :: esc r'').getD (j - d) 0 := getD_of_drop hR
        rw [show d + (j - d) = j by omega] at this
        rw [this, List.getD_eq_getElem?_getD, List.getElem?_append_left (by omega), ← List.getD_eq_getElem?_getD]
        exact esc_no92 hpl _ (mem_of_getD (by omega))) (by omega) (by rw [hcc]; exact hc10) (fun h => by cases h)
      have e : pl ++ c :: r'' = (T.extract d (d + pl.length)).toList ++ ((T.extract (d + pl.length + 1) (d + pl.length + 2)).toList ++ r'') := by
        rw [extract_toList, extract_toList, hR, hq1]
        rw [show d + pl.length - d = pl.length by omega, List.take_left, show d + pl.length + 2 - (d + pl.length + 1) = 1 by omega]
        rfl
      rw [e]
      refine .more (by omega) (by omega) (by omega) (by omega) hl ?_
      refine ih r'' (d + pl.length + 2) (by simp only [List.length_append, List.length_cons] at hn; omega) hq2 (by omega) (fun x hx' => hx x (List.mem_append_right _ (.tail _ hx')))
theorem esc_sub (x : PySem.Str) : Subs cJE x.cps 10 (fun c => #[92] ++ c) 0 (esc x.cps.toList) := subs_JE x.cps x.cps.size 0 (by omega) (Nat.zero_le _)
theorem unesc_sub (T : Array Nat) (cs : List Nat) (h : T.toList = esc cs) (hx : ∀ c ∈ cs, c ≠ 10) : Subs cES T (2 * T.size + 20) (fun c => c) 0 cs := subs_ES T cs.length cs 0 (Nat.le_refl _) (by rw [List.drop_zero, h]) (Nat.zero_le _) hx
end
section
-- Enc
set_option maxRecDepth 100000
section
variable {prog : Program} {w : World} {A : Around} {E : Value → Shared → Prop} {s : Shared}
theorem fold_bytes : ∀ (l : List Nat) (o : Array UInt8), l.foldl (fun acc y => acc ++ ([y.toUInt8] : List UInt8).toArray) o = o ++ (l.map (·.toUInt8)).toArray
  | [], o => by simp
  | a :: r, o => by rw [List.foldl_cons, fold_bytes r]; simp
theorem find_none (l : Array Nat) (h : ∀ c ∈ l.toList, c < 128) : l.findIdx? (fun c => decide (c ≥ 128)) = none := by
  rw [Array.findIdx?_eq_none_iff]
  intro x hx
  have := h x (by simpa using hx)
  simp; omega
theorem loop2 {β : Type} {f : Nat → β → Sem (ForInStep β)} {b0 b1 : β} {n : Nat} (hn : 0 < n) (h0 : f 0 b0 = pure (.yield b1)) (h1 : ∀ i, f i b1 = pure (.done b1)) : forIn [:n] b0 f = pure b1 := by
  rw [Std.Legacy.Range.forIn_eq_forIn_range']
  have : ∃ k, Std.Legacy.Range.size [:n] = k + 1 := ⟨n - 1, by simp [Std.Legacy.Range.size]; omega⟩
  obtain ⟨k, hk⟩ := this
  rw [hk, List.range'_succ, List.forIn_cons]
  show (f 0 b0 >>= _) = _
  rw [h0]
  show (forIn (List.range' _ k 1) b1 f) = _
  cases k with
  | zero => rfl
  | succ k =>
    rw [List.range'_succ, List.forIn_cons, h1]; rfl
theorem loop0 {β : Type} {f : Nat → β → Sem (ForInStep β)} {b0 : β} {n : Nat} (hn : n = 0) : forIn [:n] b0 f = pure b0 := by
  subst hn
  rw [Std.Legacy.Range.forIn_eq_forIn_range']; rfl
theorem narrow_ascii {id : String} {self : Value} {x : PySem.Str} (hsz : x.cps.size ≤ 1000000) (h : ∀ c ∈ x.cps.toList, c < 128) :
    Builtin._codecs.encodeNarrow id Builtin._codecs.asciiCodec none self x = pure (x.cps.map (·.toUInt8)) := by
  obtain ⟨cs⟩ := x
  unfold Builtin._codecs.encodeNarrow
  dsimp only at h ⊢
  by_cases hz : cs.size = 0
  · have he : cs = #[] := by simpa using hz
    rw [loop0 (n := (⟨cs⟩ : PySem.Str).length) (by exact hz)]
    subst he
    show (pure #[] : Sem (Array UInt8)) = _
    simp
  · have hn : 0 < (⟨cs⟩ : PySem.Str).length := by show 0 < cs.size; omega
    rw [loop2 (b1 := (cs.size, cs.map (·.toUInt8), {})) hn]
    · rfl
    · rw [if_neg (by show ¬ (0 > sizeLine); omega)]
      have h0 : 0 < cs.size := by omega
      have e0 : cs[0]? = some cs[0] := Array.getElem?_eq_getElem h0
      have hb : Builtin._codecs.asciiCodec.bad cs[0] = false := by
        have := h cs[0] (by simpa using Array.getElem_mem h0)
        show decide (cs[0] ≥ 128) = false
        simp; omega
      have ex : cs.extract 0 = cs := by simp
      have e1 : Array.findIdx? Builtin._codecs.asciiCodec.bad cs = none := find_none cs h
      simp only [e0, hb, ex, e1, Bool.not_false, if_true, Option.getD_none]
      rw [← Array.foldl_toList]
      have := fold_bytes cs.toList #[]
      refine congrArg (fun z => pure (ForInStep.yield z)) ?_
      refine Prod.ext (by simp) (Prod.ext ?_ rfl)
      refine this.trans ?_
      apply Array.ext'
      simp
    · intro i
      dsimp only
      by_cases hs : (cs.map (·.toUInt8)).size > sizeLine
      · exfalso; rw [sizeLine_eq] at hs; simp at hs; dsimp only at hsz; omega
      · rw [if_neg hs]
        have e0 : cs[cs.size]? = none := by simp
        simp only [e0]
theorem road_ascii {id : String} {self : Value} {x : PySem.Str} : Builtin._codecs.encodeRoad id self x (PySem.Str.ofString "ascii") none = (do mkBytes (← Builtin._codecs.encodeNarrow id Builtin._codecs.asciiCodec none self x)) := by kernel_rfl
theorem encode_tree (x : PySem.Str) (t u : Tok) : Builtin.«str.encode» ⟨[.str x t, .str (PySem.Str.ofString "ascii") u], []⟩ = (do ret (← Builtin._codecs.encodeRoad "str.encode" (.str x t) x (PySem.Str.ofString "ascii") none)) := by kernel_rfl
theorem call_encode {x : PySem.Str} {t u : Tok} {Q : Value → Shared → Prop} (hx : ∀ c ∈ x.cps.toList, c < 128) (hsz : x.cps.size ≤ 1000000)
    (h : ∀ tk tk', Q (.bytes (x.cps.map (·.toUInt8)) tk) { s with toks := tk' }) : wpAny (model prog w) A (call (.builtin "str.encode") [.str x t, .str (PySem.Str.ofString "ascii") u]) Q E s := by
  refine wpAny_call_entry F.slot_str_encode rfl F.entry_str_encode ?_ (F.args_str_encode_2 _ _)
  rw [encode_tree, road_ascii, narrow_ascii hsz hx]
  refine wpAny_bind (wpAny_bind (wpAny_pure ?_))
  refine wpAny_mkBytes (wpAny_pure ⟨_, rfl, h _ _⟩) ?_
  simp; rw [sizeLine_eq]; omega
theorem getMethod_encode {x : PySem.Str} {t : Tok} {pl : Sem Bool} {Q : Value × List Value → Shared → Prop} (h : Q (.builtin "str.encode", [.str x t]) s) : wpAny (model prog w) A (getMethod (.str x t) "encode" pl) Q E s :=
  getMethod_builtin (v := .str x t) (T := "str") (by rfl) F.plainAttrs_str F.slot_str_encode F.type_str_encode (fun _ e => by cases e) h
theorem slot_translate : Slot "bytes" "translate" "bytes.translate" :=
  .of (owner := "bytes") (n := "translate") (by rw [typeLookup_type, builtinLookup_eq_fast]; kernel_rfl) (by decide +kernel) (by decide +kernel) (by decide +kernel)
    (by first | exact .inl (by decide +kernel) | exact .inr (by decide +kernel)) (by rw [isSubtype_type]; kernel_rfl)
theorem type_translate : typeOf (.builtin "bytes.translate") = pure (.type "method_descriptor") := by show builtinType _ = _; rw [builtinType_eq_fast]; kernel_rfl
theorem entry_translate : entryFor table "bytes.translate" = some Builtin.«bytes.translate» := entryFor_of_tree (by kernel_rfl)
theorem args_translate (a b : Value) : argsOk "bytes.translate" ⟨[a, b], []⟩ := by unfold argsOk; kernel_rfl
theorem getMethod_translate {b : Array UInt8} {t : Tok} {pl : Sem Bool} {Q : Value × List Value → Shared → Prop} (h : Q (.builtin "bytes.translate", [.bytes b t]) s) : wpAny (model prog w) A (getMethod (.bytes b t) "translate" pl) Q E s :=
by
  with_reducible exact KBd.method_of (.bytes b t) (typeIs_bytes _ _ _) slot_translate type_translate KBd.noRef h
def trB (tb : Array UInt8) (b : Array UInt8) : Array UInt8 := b.map fun c => tb.getD c.toNat c
theorem call_translate {b tb : Array UInt8} {t u : Tok} {Q : Value → Shared → Prop} (hsz : b.size ≤ 1000000) (ht : tb.size = 256)
    (h : ∀ tk tk', Q (.bytes (trB tb b) tk) { s with toks := tk' }) : wpAny (model prog w) A (call (.builtin "bytes.translate") [.bytes b t, .bytes tb u]) Q E s := by
  refine wpAny_call_entry slot_translate (typeIs_bytes _ _ _) entry_translate ?_ (args_translate _ _)
  unfold Builtin.«bytes.translate» Builtin.Bytes.translateM
  dsimp only
  rw [if_neg (by show ¬ (1 + 0 > 2); decide)]
  rw [if_neg (by simp)]
  rw [if_neg (by intro z; cases z)]
  refine wpAny_bind (wpAny_of_eq KBd.like_eq ?_)
  rw [if_neg (by simp [ht])]
  refine wpAny_bind (wpAny_pure ?_)
  refine wpAny_bind (m := pure #[]) (wpAny_pure ?_)
  refine wpAny_bind (m := Builtin.Bytes.payload (.bytes b t)) (wpAny_pure ?_)
  have ef : Array.filter (fun x => !(#[] : Array UInt8).contains x) b = b := by simp
  rw [ef]
  show wpAny _ _ (if (trB tb b == b) = true then _ else _) _ _ _
  split
  · rename_i hc
    have hc' : trB tb b = b := by simpa using hc
    rw [hc'] at h
    refine wpAny_bind (wpAny_rule ?_)
    refine wpAny_bind (m := Builtin.Bytes.Kind.bytes.same (.bytes b t)) ?_
    have es : Builtin.Bytes.Kind.bytes.same (.bytes b t) = pure (.bytes b t) := by first | rfl | kernel_rfl
    rw [es]
    exact wpAny_pure (wpAny_pure ⟨_, rfl, h _ _⟩)
  · refine wpAny_bind (m := Builtin.Bytes.Kind.bytes.new _) (wpAny_mkBytes (wpAny_pure ⟨_, rfl, h _ _⟩) ?_)
    show (trB tb b).size ≤ _
    rw [sizeLine_eq]; simp [trB]; omega
theorem plain_mt : plainId "bytes.maketrans" = true := by decide +kernel
theorem entry_mt : entryFor table "bytes.maketrans" = some Builtin.«bytes.maketrans» := entryFor_of_tree (by kernel_rfl)
theorem args_mt (a b : Value) : argsOk "bytes.maketrans" ⟨[a, b], []⟩ := by unfold argsOk; kernel_rfl
theorem check_mt (a b : Value) : checkBuiltinCall "bytes.maketrans" ⟨[a, b], []⟩ = pure () := by kernel_rfl
theorem mt_tree (k0 k1 c0 c1 : UInt8) (t u : Tok) : Builtin.«bytes.maketrans» ⟨[.bytes #[k0, k1] t, .bytes #[c0, c1] u], []⟩ = (do ret (← mkBytes ((((Array.range 256).map (·.toUInt8)).setIfInBounds k0.toNat c0).setIfInBounds k1.toNat c1))) := by
  unfold Builtin.«bytes.maketrans» Builtin.Bytes.maketransM
  dsimp only [List.headD, List.getD]
  show (Builtin.Bytes.bytesLike _ (Value.bytes #[k0, k1] t) >>= fun frm => Builtin.Bytes.bytesLike _ (Value.bytes #[c0, c1] u) >>= fun to => _) = _
  rw [KBd.like_eq, KBd.like_eq]
  rfl
def tbl (k0 k1 c0 c1 : UInt8) : Array UInt8 := (((Array.range 256).map (·.toUInt8)).setIfInBounds k0.toNat c0).setIfInBounds k1.toNat c1
theorem tbl_size {k0 k1 c0 c1 : UInt8} : (tbl k0 k1 c0 c1).size = 256 := by simp [tbl]
theorem call_maketrans {k0 k1 c0 c1 : UInt8} {t u : Tok} {Q : Value → Shared → Prop}
    (h : ∀ tk tk', Q (.bytes (tbl k0 k1 c0 c1) tk) { s with toks := tk' }) : wpAny (model prog w) A (call (.builtin "bytes.maketrans") [.bytes #[k0, k1] t, .bytes #[c0, c1] u]) Q E s := by
  refine wpAny_call (codeAny_call_builtin plain_mt entry_mt ?_)
  rw [check_mt]
  refine wpAny_pure ?_
  rw [mt_tree]
  refine wpAny_bind (wpAny_mkBytes (wpAny_pure (h _ _)) ?_)
  show (tbl k0 k1 c0 c1).size ≤ _
  rw [tbl_size, sizeLine_eq]; decide
theorem call_maketransT {k0 k1 c0 c1 : UInt8} {t u : Tok} {Q : Value → Shared → Prop}
    (h : ∀ T, T = tbl k0 k1 c0 c1 → T.size = 256 → ∀ tk tk', Q (.bytes T tk) { s with toks := tk' }) : wpAny (model prog w) A (call (.builtin "bytes.maketrans") [.bytes #[k0, k1] t, .bytes #[c0, c1] u]) Q E s :=
  call_maketrans (h _ rfl tbl_size)
end
end
section
-- Mt
set_option maxRecDepth 100000
set_option maxHeartbeats 0
theorem fillMt : PySem.Challenge.rw_pa0036_01 = PySem.Challenge.rw_pa0036_01 ∧ Mine.hd.heap_1 = Mine.hd.heap_1 := by (k_fill; exact ⟨rfl, rfl⟩)
theorem find_mt {w : World} : findCls (Mine.hd.heap_1 w.params) (.type "bytes") (.type "type") (PySem.Str.ofString "maketrans") = some (.val (.builtin "bytes.maketrans")) := by k_is
theorem hand_mt : handedIn (.builtin "bytes.maketrans") = true := by k_handed
theorem stub_bytes : Manifest.isStub "bytes" = false := by decide +kernel
theorem type_bytes : typeOf (.type "bytes") = pure (.type "type") := rfl
theorem bytes_maketrans {prog : Program} {w : World} {A : Around} {E : Value → Shared → Prop} {s : Shared} {h₀ : Heap} {L : Addr} {m : Str → Option Value} {pl : Sem Bool} {Q : Value × List Value → Shared → Prop} (F : Fr h₀ L s.heap m) (X₀ : (Mine.hd.heap_1 w.params).In h₀)
    (h : Q (.builtin "bytes.maketrans", []) { s with toks := s.toks + 1 }) : wpAny (model prog w) A (getMethod (.type "bytes") (PySem.Str.ofString "maketrans") pl) Q E s :=
  method_type (T := "bytes") F X₀ type_bytes stub_bytes find_mt hand_mt h
end
section
-- Bits
theorem bor_low {x b : Int} (k : Nat) (hx : 0 ≤ x) (h0 : 0 ≤ b) (h1 : b < 2 ^ k) : Builtin.bitOr (x * 2 ^ k) b = x * 2 ^ k + b := by
  have hxor := bitXor_and (x * 2 ^ k) b
  have hp : 0 ≤ x * 2 ^ k := Int.mul_nonneg hx (Int.pow_nonneg (by decide))
  have ha : Builtin.bitAnd (x * 2 ^ k) b = 0 := by
    unfold Builtin.bitAnd
    rw [decide_eq_true hp, decide_eq_true h0]
    dsimp only
    obtain ⟨n, rfl⟩ := Int.eq_ofNat_of_zero_le hx
    obtain ⟨m, rfl⟩ := Int.eq_ofNat_of_zero_le h0
    have e1 : ((n : Int) * 2 ^ k).toNat = n * 2 ^ k := by
      have : ((n : Int) * 2 ^ k) = ((n * 2 ^ k : Nat) : Int) := by push_cast; rfl
      rw [this]; rfl
    have hm : m < 2 ^ k := by
      have : ((m : Int)) < ((2 ^ k : Nat) : Int) := by push_cast; exact h1
      omega
    rw [e1]
    show (((n * 2 ^ k) &&& m : Nat) : Int) = 0
    have e2 : m = m &&& (2 ^ k - 1) := by rw [Nat.and_two_pow_sub_one_eq_mod, Nat.mod_eq_of_lt hm]
    have : (n * 2 ^ k) &&& m = 0 := by
      rw [e2, Nat.and_comm m, ← Nat.and_assoc, Nat.and_two_pow_sub_one_eq_mod, Nat.mul_mod_left, Nat.zero_and]
    rw [this]; rfl
  unfold Builtin.bitXor at hxor
  omega
def encStep : Nat × Int → Int → List Int × (Nat × Int)
  | (0, _), b => ([b / 4], (2, b % 4))
  | (2, r), b => ([r * 16 + b / 16], (4, b % 16))
  | (_, r), b => ([r * 4 + b / 64, b % 64], (0, 0))
def encEnd : Nat × Int → List Int
  | (2, r) => [r * 16]
  | (4, r) => [r * 4]
  | _ => []
def encPad : Nat → Nat
  | 2 => 2
  | 4 => 1
  | _ => 0
/-- the figures that are told for bytes, and what is left -/
def encRun : Nat × Int → List Int → List Int × (Nat × Int)
  | q, [] => ([], q)
  | q, b :: r => ((encStep q b).1 ++ (encRun (encStep q b).2 r).1, (encRun (encStep q b).2 r).2)
theorem encRun_snoc : ∀ (l : List Int) (q : Nat × Int) (b : Int), encRun q (l ++ [b]) = ((encRun q l).1 ++ (encStep (encRun q l).2 b).1, (encStep (encRun q l).2 b).2)
  | [], q, b => by simp [encRun]
  | a :: r, q, b => by
    have ih := encRun_snoc r (encStep q a).2 b
    rw [List.cons_append, encRun, ih]
    simp [encRun, List.append_assoc]
theorem enc_0 {lc b : Int} (h0 : 0 ≤ lc) (hb : 0 ≤ b) (hb1 : b < 256) : Builtin.bitAnd ((Builtin.bitAnd (Builtin.bitOr (lc * 2 ^ Int.toNat 8) b) 65535).fdiv (2 ^ 2)) 63 = b / 4 := by
  rw [bor_low (Int.toNat 8) h0 hb hb1, bitAnd_m16, bitAnd_m6, Int.fdiv_eq_ediv_of_nonneg _ (by decide)]
  show ((lc * 256 + b) % 65536 / 4) % 64 = _
  omega
theorem enc_lc {lc b : Int} (h0 : 0 ≤ lc) (hb : 0 ≤ b) (hb1 : b < 256) : Builtin.bitAnd (Builtin.bitOr (lc * 2 ^ Int.toNat 8) b) 65535 = (lc * 256 + b) % 65536 := by
  rw [bor_low (Int.toNat 8) h0 hb hb1, bitAnd_m16]; rfl
def b64L : List Int := [65, 66, 67, 68, 69, 70, 71, 72, 73, 74, 75, 76, 77, 78, 79, 80, 81, 82, 83, 84, 85, 86, 87, 88, 89, 90, 97, 98, 99, 100, 101, 102, 103, 104, 105, 106, 107, 108, 109, 110, 111, 112, 113, 114, 115, 116, 117, 118, 119, 120, 121, 122, 48, 49, 50, 51, 52, 53, 54, 55, 56, 57, 43, 47]
def b64C (f : Int) : Int := b64L.getD f.toNat 0
end
section
-- Pats
set_option maxRecDepth 100000
set_option maxHeartbeats 0
theorem fillP : PySem.Challenge.rw_pa0036_01 = PySem.Challenge.rw_pa0036_01 ∧ Mine.hd.heap_1 = Mine.hd.heap_1 := by (k_fill; exact ⟨rfl, rfl⟩)
theorem pat82 {P : Params} {h : Heap} (X : (hd.heap_1 P).In h) : IsPat h 82 0 cJT :=
  ⟨_, _, _, _, _, _, _, _, _, X 82 _ (by k_is), rfl, rfl, rfl, X _ _ (by k_is), rfl, by decide +kernel⟩
theorem pat87 {P : Params} {h : Heap} (X : (hd.heap_1 P).In h) : IsPat h 87 1 cJE :=
  ⟨_, _, _, _, _, _, _, _, _, X 87 _ (by k_is), rfl, rfl, rfl, X _ _ (by k_is), rfl, by decide +kernel⟩
theorem pat43 {P : Params} {h : Heap} (X : (hd.heap_1 P).In h) : IsPat h 43 0 cTW :=
  ⟨_, _, _, _, _, _, _, _, _, X 43 _ (by k_is), rfl, rfl, rfl, X _ _ (by k_is), rfl, by decide +kernel⟩
theorem pat55 {P : Params} {h : Heap} (X : (hd.heap_1 P).In h) : IsPat h 55 1 cTK :=
  ⟨_, _, _, _, _, _, _, _, _, X 55 _ (by k_is), rfl, rfl, rfl, X _ _ (by k_is), rfl, by decide +kernel⟩
theorem pat60 {P : Params} {h : Heap} (X : (hd.heap_1 P).In h) : IsPat h 60 1 cQV :=
  ⟨_, _, _, _, _, _, _, _, _, X 60 _ (by k_is), rfl, rfl, rfl, X _ _ (by k_is), rfl, by decide +kernel⟩
theorem pat65 {P : Params} {h : Heap} (X : (hd.heap_1 P).In h) : IsPat h 65 1 cVL :=
  ⟨_, _, _, _, _, _, _, _, _, X 65 _ (by k_is), rfl, rfl, rfl, X _ _ (by k_is), rfl, by decide +kernel⟩
theorem pat70 {P : Params} {h : Heap} (X : (hd.heap_1 P).In h) : IsPat h 70 1 cES :=
  ⟨_, _, _, _, _, _, _, _, _, X 70 _ (by k_is), rfl, rfl, rfl, X _ _ (by k_is), rfl, by decide +kernel⟩
theorem code94 {P : Params} {h : Heap} (X : (hd.heap_1 P).In h) : CodeHd h 93 89 := codeHd_of_K (c := 93) (P := 89) X (by kernel_rfl)
theorem code77 {P : Params} {h : Heap} (X : (hd.heap_1 P).In h) : CodeHd h 76 72 := codeHd_of_K (c := 76) (P := 72) X (by kernel_rfl)
theorem frag_noTabs {P : Params} : noTabs (hd.heap_1 P) = true := by kernel_rfl
end
section
-- It2
section
variable {prog : Program} {w : World} {A : Around} {E : Value → Shared → Prop} {s : Shared} {g : Heap} {m : Str → Option Value} {news : List (Addr × Obj)}
/-- the same over a list of tuples, the target a tuple of names -/
theorem iter_pairs {σ : Type} {env : Env} {elts : List Expr} {x1} {pos : Pos} {body : List Stmt} {Q : Flow → Shared → Prop} {Ec : Value → Shared → Prop} {L l : Addr} {items : Array Value}
    (I : Nat → σ → Prop) (ps : σ → List (Str × Value)) (nw : σ → List (Addr × Obj)) (st₀ : σ)
    (hh : A.handled = none) (F : Fr g L s.heap m) (N : News g L s.heap news)
    (hl : ∀ h m' st, Fr g L h m' → News g L h (nw st) → h.IsList l items) (href : ∀ (i : Nat) v, items[i]? = some v → ∃ a, v = .ref a)
    (hI : I 0 st₀) (hp : Pins m (ps st₀)) (hn : ∀ p ∈ nw st₀, p ∈ news)
    (turn : ∀ i st a m' h tk It oi, (∀ p ∈ news, p.1 < It) → IsIt l (i + 1) oi → items[i]? = some (.ref a) → I i st → (∀ p ∈ nw st, p.1 ≠ It) → Fr g L h (over (ps st) m') → News g L h ((It, oi) :: nw st) →
      wpAny (model prog w) A (assign (.Tuple elts x1 pos) env (.ref a)) (fun _ s₂ => wpAny (model prog w) A (execs body env) (TurnPost g L s It oi (I (i + 1)) ps nw Q) (fun _ _ => False) s₂) (fun _ _ => False) { s with heap := h, toks := tk })
    (done : ∀ st m' h tk, I items.size st → Fr g L h (over (ps st) m') → News g L h (nw st) → Q .next { s with heap := h, toks := tk })
    (hL : env.locals = L) :
    wpAny (model prog w) A (pyIter (.ref l)) (fun it s₂ => codeAny (model prog w) A (.forLoop (.Tuple elts x1 pos) it body [] env) (fun r s' => match r with | .ok f => Q f s' | .error e => Ec e s') s₂) E s := by
  subst hL
  have hls : s.heap.IsList l items := hl _ _ st₀ F (News_sub N hn)
  refine wpAny_pyIter_list hls ?_
  have hne : l ≠ s.heap.objs.size := by obtain ⟨o, ho, _⟩ := hls; exact Nat.ne_of_lt (Heap.lt_size ho)
  have hIt : ∀ p ∈ news, p.1 < s.heap.objs.size := fun p hp => Heap.lt_size (N p hp).1
  have hLI : env.locals ≠ s.heap.objs.size := Nat.ne_of_lt F.ns.lt
  have fresh : g.get? s.heap.objs.size = none := by
    cases e : g.get? s.heap.objs.size with
    | none => rfl
    | some o => exact absurd (Heap.lt_size (F.keep _ _ e)) (Nat.lt_irrefl _)
  have atI : (s.heap.push { cls := .type "list_iterator", data := .fields #[.ref l, .int 0 0] }).get? s.heap.objs.size = some { cls := .type "list_iterator", data := .fields #[.ref l, .int 0 0] } := Heap.get?_push_size _ rfl
  generalize s.heap.objs.size = It at *
  refine codeAny_forLoop_any (fun n s' => ∃ i st m' h tk oi, n = items.size + 1 - i ∧ i ≤ items.size ∧ s' = { s with heap := h, toks := tk } ∧ I i st ∧ Fr g env.locals h m' ∧ Pins m' (ps st) ∧ IsIt l i oi ∧ (∀ p ∈ nw st, p.1 ≠ It) ∧ News g env.locals h ((It, oi) :: nw st)) ?_ (items.size + 1)
    ⟨0, st₀, m, _, s.toks, { cls := .type "list_iterator", data := .fields #[.ref l, .int 0 0] }, rfl, Nat.zero_le _, rfl, hI, F.push _, hp, ⟨rfl, rfl⟩, fun p hp => Nat.ne_of_lt (hIt p (hn p hp)), ?_⟩
  · rintro n s' ⟨i, st, m', h, tk, oi, rfl, hi, rfl, hIi, F', hP', hoi, hnI, N'⟩
    have hl' : h.IsList l items := hl _ _ st F' (News_sub N' fun p hp => .tail _ hp)
    have hit : h.IsListIter It l i := ⟨_, (N' _ (.head _)).1, hoi⟩
    by_cases hlt : i < items.size
    · refine wpAny_pyNext_list_item hit hl' (x := items[i]) (by simp [hlt]) fun h₁ hit₁ hs₁ => ?_
      have keep₁ : ∀ b o, b ≠ It → h.get? b = some o → h₁.get? b = some o := fun b o hb e => hs₁.extBut b o hb e
      obtain ⟨ar, har⟩ := href i items[i] (by simp [hlt])
      rw [har]
      refine wpAny_letOwnedTupleGo_listiter hit₁ ?_
      have F₂ : Fr g env.locals h₁ m' := ⟨F'.ns.at' fun o e => keep₁ _ o hLI e, fun b o e => keep₁ b o (fun q => by rw [q, fresh] at e; cases e) (F'.keep b o e), F'.above⟩
      obtain ⟨o, ho, hoi₁⟩ := hit₁
      have N₂ : News g env.locals h₁ ((It, o) :: nw st) := by
        intro p hp
        rcases List.mem_cons.mp hp with rfl | hp
        · exact ⟨ho, hLI.symm, fresh⟩
        · have P := N' p (.tail _ hp)
          exact ⟨keep₁ _ _ (hnI p hp) P.1, P.2⟩
      have hov : over (ps st) m' = m' := over_pins hP'
      have F₃ : Fr g env.locals h₁ (over (ps st) m') := by rw [hov]; exact F₂
      refine wpAny_mono (turn i st ar m' h₁ _ It o hIt hoi₁ (by simp [hlt, har]) hIi hnI F₃ N₂) (fun _ s₂ h₂ => ?_) fun _ _ e => e.elim
      refine wpAny_mono h₂ (fun f s₃ h₃ => ?_) fun _ _ e => e.elim
      cases f with
      | next =>
        obtain ⟨st', m₂, news₂, h', tk', rfl, F₄, N₄, I₄, P₄, ne₄, S₄⟩ := h₃
        exact ⟨items.size + 1 - (i + 1), by omega, i + 1, st', m₂, h', tk', o, rfl, hlt, rfl, I₄, F₄, P₄, hoi₁, ne₄, News_sub N₄ S₄⟩
      | cont =>
        obtain ⟨st', m₂, news₂, h', tk', rfl, F₄, N₄, I₄, P₄, ne₄, S₄⟩ := h₃
        exact ⟨items.size + 1 - (i + 1), by omega, i + 1, st', m₂, h', tk', o, rfl, hlt, rfl, I₄, F₄, P₄, hoi₁, ne₄, News_sub N₄ S₄⟩
      | brk => exact h₃
      | ret v => exact h₃
    · have hie : i = items.size := by omega
      subst hie
      refine wpAny_pyNext_list_end hh hit hl' (by simp) fun h₁ he₁ => ?_
      refine wpAny_execs_nil (done st m' h₁ tk hIi ?_ ?_)
      · rw [over_pins hP']
        exact ⟨F'.ns.at' fun o e => he₁ _ o hLI e, fun b o e => he₁ b o (fun q => by rw [q, fresh] at e; cases e) (F'.keep b o e), F.above⟩
      · intro p hp
        have P := N' p (.tail _ hp)
        exact ⟨he₁ _ _ (hnI p hp) P.1, P.2⟩
  · intro p hp
    rcases List.mem_cons.mp hp with rfl | hp
    · exact ⟨atI, hLI.symm, fresh⟩
    · have P := N p (hn p hp)
      exact ⟨Heap.get?_push_of_some _ P.1, P.2⟩

end
end
section
-- Lam
section
variable {prog : Program} {w : World} {A : Around} {s : Shared} {p : Program} {loose : List Str} {mg mb : Str → Option Value} {mean : ExcName → Option Value}
/-- a call of a lambda that does not raise: the heap it is called in is kept whole -/
theorem call_lam {R : Result → Shared → Prop} {name qual : Str} {params : Arguments} {body : Expr} {scope : Scope} {pm ctv : Value} {c' : Addr} {f : Addr} {args : Args} {binds : List (Str × Value)}
    (T : Top p loose mean mg mb s.heap) (ho : s.heap.get? f = some (kla_obj name qual params body scope [] pm c' ctv)) (hcd : s.heap.CodeRec (.ref c') qual) (hroom : A.depth < recursionLimit)
    (hbind : bindArgs (kla_fn name qual params body scope [] pm (.ref c') ctv) args = pure binds) (hloc : ∀ y ∈ binds, scope.names.lookup y.1 = some .local)
    (h : ∀ L' h₁ tk, Fr s.heap L' h₁ (fun y => binds.reverse.lookup y) → News s.heap L' h₁ [] →
      wpAny (model prog w) (A.deeper (envX qual scope L' f (.ref c') [])) (eval body (envX qual scope L' f (.ref c') []))
        (fun v s' => R (.ok (.ret v)) s') (fun _ _ => False) { s with heap := h₁, toks := tk })
    (hco : scope.isCoroutine = false) (hgen : scope.isGenerator = false) (hk : scope.kind = .function)
    (hcell : ∀ x ∈ scope.names, x.2 ≠ .cell) : codeAny (model prog w) A (.call (.ref f) args) R s := by
  refine kla_callFunE hroom ho rfl hco hgen rfl hcd ?_
  rw [hbind]
  refine wpAny_pure (wpAny_newFunctionEnv hcell hloc (fun h₁ hns hsb => ⟨(T.nolimit).fresh _ hsb, ?_⟩) hk)
  show codeAny _ _ (.expr body (envX qual scope s.heap.objs.size f (.ref c') [])) _ _
  have hk₁ : ∀ b o, s.heap.get? b = some o → h₁.get? b = some o := fun b o e => hsb.extBut b o (Nat.ne_of_lt (Heap.lt_size e)) (Heap.get?_push_of_some _ e)
  exact kla_codeExpr (wpAny_mono (h s.heap.objs.size h₁ _ ⟨hns, fun b o e => hk₁ b o e, Nat.le_refl _⟩ (fun p hp => nomatch hp)) (fun v s' hl => hl) fun _ _ y => y.elim)
/-- what stands when the table of a def is laid aside -/
theorem aside {K : Frag} {L h₁ m c P} (X : K.In s.heap) (T : Top p loose mean mg mb s.heap) (hK : noTabs K = true) (hC : CodeHd s.heap c P) (hP : s.heap.get? P = some (tabObj #[])) (F : Fr s.heap L h₁ m) :
    ∃ g loose', K.In g ∧ Top topProg loose' mean mg mb g ∧ CodeHd g c P ∧ Fr g L h₁ m ∧ News g L h₁ [(P, tabObj #[])] ∧ @LT.lt Nat _ P L ∧ (∀ b o, b ≠ P → s.heap.get? b = some o → g.get? b = some o) := by
  have hT : TabsAt [(c, P)] s.heap := fun q hq => by rw [List.mem_singleton.mp hq]; exact ⟨hC, hP⟩
  have N := ghost_news hT F (News.nil (h₀ := s.heap))
  exact ⟨_, _, ghost_K hT X hK, ghost_top hT T, (ghost_code hT).1, ghost_fr hT F, N, ghost_lt hT F _ (.head _), fun b o hb e => ghost_ne e (by simpa using hb)⟩
end
end
section
-- Jo
set_option maxRecDepth 10000
open Builtin Builtin.Re
def tokS (x : PySem.Str) : Bool := decide (x.cps.size ≠ 0 ∧ ∀ i < x.cps.size, tokB (x.cps.getD i 0) = true)
theorem isMatch_made0 {h : Heap} {x : PySem.Str} {t : Tok} {a : Addr} {p l : Nat} {b e : Int} {li : Int} :
    IsMatch ((h.push (tupObj #[rawInt b, rawInt e])).push (matchObj x t a p l li h.objs.size)) (h.objs.size + 1) x t #[b, e] := by
  have e1 : (h.push (tupObj #[rawInt b, rawInt e])).objs.size = h.objs.size + 1 := Heap.size_push ..
  have g1 : ((h.push (tupObj #[rawInt b, rawInt e])).push (matchObj x t a p l li h.objs.size)).get? (h.objs.size + 1) = some (matchObj x t a p l li h.objs.size) := by rw [← e1]; exact Heap.get?_push_size _ rfl
  exact ⟨_, _, _, _, _, h.objs.size, _, 0, g1, rfl, rfl, rfl, Heap.get?_push_of_some _ (Heap.get?_push_size _ rfl), by simp⟩
section
variable {prog : Program} {w : World} {A : Around} {E : Value → Shared → Prop} {s : Shared}
theorem call_full {a : Addr} {x : PySem.Str} {t : Tok} {Q : Value → Shared → Prop} (hp : IsPat s.heap a 0 cJT) (hsz : x.cps.size ≤ 1000000)
    (h1 : tokS x = true → ∀ m h' b e, s.heap.StaysIn h' → IsMatch h' m x t #[b, e] → Q (.ref m) { s with heap := h' }) (h2 : tokS x = false → Q .none s) :
    wpAny (model prog w) A (call (.builtin "re.Pattern.fullmatch") [.ref a, .str x t]) Q E s := by
  have hl := JT_full x.cps hsz
  refine call_fullmatch (k := 3 * x.cps.size + 10) hp hsz (by omega) ?_
  by_cases c : x.cps.size ≠ 0 ∧ ∀ i < x.cps.size, tokB (x.cps.getD i 0) = true
  · simp only [if_pos c] at hl
    refine .inl ⟨hl, fun li b e => ?_⟩
    exact h1 (decide_eq_true c) _ _ _ _ (push2_stays _ _ _) isMatch_made0
  · simp only [if_neg c] at hl
    exact .inr ⟨hl, h2 (decide_eq_false c)⟩
end
end
section
-- Sp
set_option maxRecDepth 10000
open Builtin Builtin.Re
theorem slice_from (x : PySem.Str) (a : Nat) (h : a ≤ x.length) : Txt.slice x (some (a : Int)) none = ⟨(x.cps.toList.drop a).toArray⟩ := by
  rw [slice_from_eq (b := x.length) (by omega) (by omega) rfl]
  congr 2
  rw [Int.toNat_natCast, List.take_of_length_le]
  simp only [List.length_drop, Array.length_toList]
  show x.length - a ≤ _
  omega
theorem beq_str {x y : PySem.Str} (h : (x == y) = true) : x = y := by
  have := eq_of_beq h; exact this
theorem slice_to (x : PySem.Str) (b : Nat) (h : b ≤ x.length) : Txt.slice x none (some (b : Int)) = ⟨(x.cps.toList.take b).toArray⟩ := by
  have := beq_str (slice_closes_toL (x := x) (j := (b : Int)) (by omega) (by omega))
  rw [this]
  simp
theorem slice_to_last (x : PySem.Str) (h : 0 < x.length) : Txt.slice x none (some (-1)) = ⟨(x.cps.toList.take (x.length - 1)).toArray⟩ := by
  have := beq_str (slice_closes_to_neg (x := x) (j := -1) (k := ((x.length - 1 : Nat) : Int)) (by omega) (by omega) (by omega))
  rw [this]
  simp
section
variable {prog : Program} {w : World} {A : Around} {E : Value → Shared → Prop} {s : Shared} {g : Heap} {L : Addr} {m : Str → Option Value} {news : List (Addr × Obj)}
theorem isMatch_news {h : Heap} {ma mt a : Addr} {x : PySem.Str} {t : Tok} {p l li : Int} {b e u v : Nat} (N : News g L h news) (h1 : (ma, matchObj x t a p l li mt) ∈ news) (h2 : (mt, tupObj #[rawInt b, rawInt e, rawInt u, rawInt v]) ∈ news) : IsMatch h ma x t #[(b : Int), (e : Int), (u : Int), (v : Int)] :=
  ⟨_, _, _, _, _, mt, _, 0, (N _ h1).1, rfl, rfl, rfl, (N _ h2).1, by simp⟩
theorem call_searchK {a : Addr} {C : Array Nat} {x : PySem.Str} {t : Tok} {k b e u v : Nat} {Q : Value → Shared → Prop} (F : Fr g L s.heap m) (N : News g L s.heap news) (hp : IsPat s.heap a 1 C) (hsz : x.cps.size ≤ 1000000) (hk : k < 1000000000) (huv : u ≤ v)
    (hl : Lands k (Sre.forSearch C x.cps 1 0 x.cps.size false) (Hit b e u v))
    (h : ∀ ma mt h', Fr g L h' m → News g L h' ((ma, matchObj x t a (0 : Nat) x.cps.size 1 mt) :: (mt, tupObj #[rawInt (b : Nat), rawInt (e : Nat), rawInt (u : Nat), rawInt (v : Nat)]) :: news) → AllLt mt news → @LT.lt Nat _ mt ma → Q (.ref ma) { s with heap := h' }) :
    wpAny (model prog w) A (call (.builtin "re.Pattern.search") [.ref a, .str x t]) Q E s := by
  refine call_search hp hsz hk (.inl ⟨b, e, u, v, huv, hl, ?_⟩)
  have N1 := News.push F N (tupObj #[rawInt (b : Nat), rawInt (e : Nat), rawInt (u : Nat), rawInt (v : Nat)])
  have F1 := F.push (tupObj #[rawInt (b : Nat), rawInt (e : Nat), rawInt (u : Nat), rawInt (v : Nat)])
  have N2 := News.push F1 N1 (matchObj x t a (0 : Nat) x.cps.size 1 s.heap.objs.size)
  have F2 := F1.push (matchObj x t a (0 : Nat) x.cps.size 1 s.heap.objs.size)
  rw [Heap.size_push] at N2
  exact h _ _ _ F2 N2 (allLt_of fun p hp => Heap.lt_size (N p hp).1) (Nat.lt_succ_self _)
theorem call_searchN {a : Addr} {C : Array Nat} {x : PySem.Str} {t : Tok} {k : Nat} {Q : Value → Shared → Prop} (hp : IsPat s.heap a 1 C) (hsz : x.cps.size ≤ 1000000) (hk : k < 1000000000)
    (hl : Lands k (Sre.forSearch C x.cps 1 0 x.cps.size false) Miss) (h : Q .none s) :
    wpAny (model prog w) A (call (.builtin "re.Pattern.search") [.ref a, .str x t]) Q E s := call_search hp hsz hk (.inr ⟨hl, h⟩)
/-- what a turn of a while must leave -/
def WhEnd {σ : Type} (g : Heap) (L : Addr) (s : Shared) (I : Nat → σ → Prop) (ps : σ → List (Str × Value)) (nw : σ → List (Addr × Obj)) (Q : Flow → Shared → Prop) (n : Nat) (f : Flow) (s' : Shared) : Prop :=
  match f with
  | .next | .cont => ∃ n' st' m₂ news₂ h' tk', n' < n ∧ s' = { s with heap := h', toks := tk' } ∧ Fr g L h' m₂ ∧ News g L h' news₂ ∧ I n' st' ∧ Pins m₂ (ps st') ∧ (∀ p ∈ nw st', p ∈ news₂)
  | .brk => Q .next s'
  | .ret v => Q (.ret v) s'
theorem WhEnd.intro {σ : Type} {I : Nat → σ → Prop} {ps : σ → List (Str × Value)} {nw : σ → List (Addr × Obj)} {Q : Flow → Shared → Prop} {n : Nat} {m₂ : Str → Option Value} {news₂ : List (Addr × Obj)} {h' : Heap} {tk' : Nat} (n' : Nat)
    (st' : σ) (F : Fr g L h' m₂) (N : News g L h' news₂) (hn : n' < n) (hI : I n' st') (hp : Pins m₂ (ps st')) (hs : ∀ p ∈ nw st', p ∈ news₂) :
    WhEnd g L s I ps nw Q n .next { s with heap := h', toks := tk' } := ⟨n', st', m₂, news₂, h', tk', hn, rfl, F, N, hI, hp, hs⟩
theorem while_st {σ : Type} {env : Env} {test : Expr} {body : List Stmt} {pos : Pos} {Q : Flow → Shared → Prop} {n₀ : Nat}
    (I : Nat → σ → Prop) (ps : σ → List (Str × Value)) (nw : σ → List (Addr × Obj)) (st₀ : σ)
    (F : Fr g L s.heap m) (N : News g L s.heap news) (hI : I n₀ st₀) (hp : Pins m (ps st₀)) (hn : ∀ p ∈ nw st₀, p ∈ news)
    (turn : ∀ n st m' h tk, I n st → Fr g L h (over (ps st) m') → News g L h (nw st) →
      wpAny (model prog w) A (isTrue test env (eval test env)) (fun b s₂ =>
        if b = true then wpAny (model prog w) A (execs body env) (WhEnd g L s I ps nw Q n) E s₂ else Q .next s₂) E { s with heap := h, toks := tk })
    (hE : PassesOwn (model prog w) A env E := by passes_own) :
    wpAny (model prog w) A (exec (.While test body [] pos) env) Q E s := by
  refine While_inv2 (fun n m₁ news₁ => ∃ st, I n st ∧ Pins m₁ (ps st) ∧ ∀ p ∈ nw st, p ∈ news₁) F N ⟨st₀, hI, hp, hn⟩ ?_ hE
  rintro n m₁ news₁ h₁ tk₁ F₁ N₁ ⟨st, hI₁, hp₁, hn₁⟩
  have F₂ : Fr g L h₁ (over (ps st) m₁) := by rw [over_pins hp₁]; exact F₁
  refine wpAny_mono (turn n st m₁ h₁ tk₁ hI₁ F₂ (News_sub N₁ hn₁)) (fun b s₂ h₂ => ?_) fun _ _ e => e
  cases b with
  | false => simpa using h₂
  | true =>
    simp only [if_true] at h₂ ⊢
    refine wpAny_mono h₂ (fun f s₃ h₃ => ?_) fun _ _ e => e
    cases f with
    | next =>
      obtain ⟨n', st', m₂, news₂, h', tk', hlt, rfl, F₃, N₃, I₃, P₃, S₃⟩ := h₃
      exact ⟨h', tk', m₂, news₂, n', rfl, F₃, N₃, hlt, st', I₃, P₃, S₃⟩
    | cont =>
      obtain ⟨n', st', m₂, news₂, h', tk', hlt, rfl, F₃, N₃, I₃, P₃, S₃⟩ := h₃
      exact ⟨h', tk', m₂, news₂, n', rfl, F₃, N₃, hlt, st', I₃, P₃, S₃⟩
    | brk => exact h₃
    | ret v => exact h₃
end
end
section
-- Sp2
set_option maxRecDepth 10000
open Builtin Builtin.Re
def PairAt (h : Heap) (v : Value) (kx : PySem.Str × PySem.Str) : Prop := ∃ a tk tx, v = .ref a ∧ IsTup h a #[.str kx.1 tk, .str kx.2 tx]
abbrev TabSt := Option (Addr × Obj)
def TabOk (q : PySem.Str) (lo : Addr) : TabSt → Prop
  | none => True
  | some (c', oc) => @LT.lt Nat _ lo c' ∧ ∃ vs t, oc.data = .fields vs ∧ vs[1]? = some (.str q t)
def writ (x : PySem.Str) : PySem.Str := if tokS x = true then x else ⟨(34 :: (esc x.cps.toList ++ [34])).toArray⟩
def partOf (kx : PySem.Str × PySem.Str) : PySem.Str := ⟨(kx.1.cps.toList ++ 61 :: (writ kx.2).cps.toList).toArray⟩
def hdrL : List (PySem.Str × PySem.Str) → List Nat
  | [] => []
  | [kx] => (partOf kx).cps.toList
  | kx :: r => (partOf kx).cps.toList ++ 59 :: 32 :: hdrL r
def restL (r : List (PySem.Str × PySem.Str)) : List Nat := match r with
  | [] => []
  | r => 59 :: 32 :: hdrL r
theorem hdrL_cons (kx : PySem.Str × PySem.Str) (r : List (PySem.Str × PySem.Str)) : hdrL (kx :: r) = (partOf kx).cps.toList ++ restL r := by
  cases r with
  | nil => simp [hdrL, restL]
  | cons a r => rfl
structure GoodP (kx : PySem.Str × PySem.Str) (c : Nat) : Prop where
  key : kx.1.cps = #[c]
  lo : 97 ≤ c
  hi : c ≤ 122
  val : ∀ y ∈ kx.2.cps.toList, 33 ≤ y ∧ y < 127
theorem hdrL_eq {kx : PySem.Str × PySem.Str} {c : Nat} (G : GoodP kx c) (r : List (PySem.Str × PySem.Str)) : hdrL (kx :: r) = c :: 61 :: ((writ kx.2).cps.toList ++ restL r) := by
  rw [hdrL_cons]
  simp [partOf, G.key]
theorem str_ext {x y : PySem.Str} (h : x.cps.toList = y.cps.toList) : x = y := by
  cases x; cases y; simp only [PySem.Str.mk.injEq]; exact Array.ext' h
theorem unm_eq (x : PySem.Str) (e : Nat) (h : e ≤ x.length) : Txt.slice x none (some ((0 : Nat) : Int)) ++ Txt.slice x (some (e : Int)) none = ⟨(x.cps.toList.drop e).toArray⟩ := by
  rw [slice_to x 0 (Nat.zero_le _), slice_from x e h]
  apply str_ext
  show ((#[] : Array Nat) ++ (x.cps.toList.drop e).toArray).toList = _
  simp
theorem getD0 {T : Array Nat} {R : List Nat} (h : T.toList = R) (j : Nat) : T.getD j 0 = R.getD j 0 := by
  have := getD_of_drop (T := T) (q := 0) (j := j) (R := R) (by rw [List.drop_zero, h])
  rwa [Nat.zero_add] at this
theorem size_toL {T : Array Nat} {R : List Nat} (h : T.toList = R) : T.size = R.length := by rw [← h]; simp
theorem ext_of {x : PySem.Str} {R : List Nat} (h : x.cps.toList = R) (a b : Nat) : (⟨x.cps.extract a b⟩ : PySem.Str) = ⟨((R.drop a).take (b - a)).toArray⟩ := by
  apply str_ext
  show (x.cps.extract a b).toList = _
  rw [extract_toList, h]
theorem hd_TK {x : PySem.Str} {kx : PySem.Str × PySem.Str} {c : Nat} {r : List (PySem.Str × PySem.Str)} (G : GoodP kx c) (hL : x.cps.toList = hdrL (kx :: r)) (hsz : x.cps.size ≤ 1000000) :
    Lands 20 (Sre.forSearch cTK x.cps 1 0 x.cps.size false) (Hit 0 1 0 1) ∧ (⟨x.cps.extract 0 1⟩ : PySem.Str) = kx.1 ∧ 1 ≤ x.length ∧
      (⟨(x.cps.toList.drop 1).toArray⟩ : PySem.Str) = ⟨(61 :: ((writ kx.2).cps.toList ++ restL r)).toArray⟩ := by
  rw [hdrL_eq G] at hL
  have h0 : x.cps.getD 0 0 = c := getD0 hL 0
  have h1 : x.cps.getD 1 0 = 61 := getD0 hL 1
  have hs := size_toL hL
  simp only [List.length_cons] at hs
  have := G.lo; have := G.hi
  refine ⟨TK_yes x.cps (by omega) hsz (by omega) (by omega) (by omega) (by omega) (by omega) h1, ?_, by show 1 ≤ x.cps.size; omega, by rw [hL]; rfl⟩
  rw [ext_of hL]
  apply str_ext
  simp [G.key]
theorem tok_chars : ∀ c, c < 256 → tokB c = true → 33 ≤ c ∧ c < 127 ∧ c ≠ 34 ∧ c ≠ 44 ∧ c ≠ 59 := by decide +kernel
theorem tokB_lt {c : Nat} (h : tokB c = true) : c < 256 := by
  unfold tokB at h; rw [Bool.and_eq_true] at h; exact of_decide_eq_true h.1
theorem tokS_chars {x : PySem.Str} (h : tokS x = true) : x.cps.size ≠ 0 ∧ ∀ c ∈ x.cps.toList, 33 ≤ c ∧ c < 127 ∧ c ≠ 34 ∧ c ≠ 44 ∧ c ≠ 59 := by
  obtain ⟨h0, h1⟩ := of_decide_eq_true h
  refine ⟨h0, fun c hc => ?_⟩
  obtain ⟨i, hi, rfl⟩ := mem_getD hc
  have := h1 i (by simpa using hi)
  rw [getD0 rfl i] at this
  exact tok_chars _ (tokB_lt this) this
theorem hd_QVy {kx : PySem.Str × PySem.Str} {c : Nat} {r : List (PySem.Str × PySem.Str)} {x : PySem.Str} (G : GoodP kx c) (ht : tokS kx.2 = false) (hx : x = ⟨(61 :: ((writ kx.2).cps.toList ++ restL r)).toArray⟩) (hsz : x.cps.size ≤ 1000000) :
    Lands (12 * kx.2.cps.toList.length + 60) (Sre.forSearch cQV x.cps 1 0 x.cps.size false) (Hit 0 (2 + (esc kx.2.cps.toList).length + 1) 2 (2 + (esc kx.2.cps.toList).length)) ∧
      (⟨x.cps.extract 2 (2 + (esc kx.2.cps.toList).length)⟩ : PySem.Str) = ⟨(esc kx.2.cps.toList).toArray⟩ ∧ 2 + (esc kx.2.cps.toList).length + 1 ≤ x.length ∧ (⟨(x.cps.toList.drop (2 + (esc kx.2.cps.toList).length + 1)).toArray⟩ : PySem.Str) = ⟨(restL r).toArray⟩ := by
  have hL : x.cps.toList = 61 :: 34 :: (esc kx.2.cps.toList ++ 34 :: restL r) := by
    rw [hx]; unfold writ; rw [if_neg (by rw [ht]; exact Bool.false_ne_true)]; simp
  have hs := size_toL hL
  simp only [List.length_cons, List.length_append] at hs
  refine ⟨QV_yes x.cps _ (restL r) hsz hL (fun y hy => by have := (G.val y hy).1; omega), ?_, by show _ ≤ x.cps.size; omega, ?_⟩
  · rw [ext_of hL]
    apply str_ext
    show (List.take _ (esc kx.2.cps.toList ++ 34 :: restL r)) = _
    rw [Nat.add_sub_cancel_left, List.take_left]
  · rw [hL]
    apply str_ext
    have e : 61 :: 34 :: (esc kx.2.cps.toList ++ 34 :: restL r) = (61 :: 34 :: (esc kx.2.cps.toList ++ [34])) ++ restL r := by simp
    rw [e, show 2 + (esc kx.2.cps.toList).length + 1 = (61 :: 34 :: (esc kx.2.cps.toList ++ [34])).length by simp; omega, List.drop_left]
theorem no_spaces {l : List Nat} (h : ∀ c ∈ l, 33 ≤ c ∧ c < 127) : l.takeWhile Unicode.isSpace = [] := by
  cases l with
  | nil => rfl
  | cons a r =>
    have := h a (.head _)
    rw [List.takeWhile_cons, no_space a (by omega) (by omega)]; rfl
theorem rstrip_id {x : PySem.Str} (h : ∀ c ∈ x.cps.toList, 33 ≤ c ∧ c < 127) : Txt.rstrip x = x := by
  unfold Txt.rstrip Txt.stripBy
  rw [if_pos]
  unfold stripSame stripLo stripHi
  simp only [Bool.false_eq_true, if_false, if_true, List.drop_zero]
  rw [no_spaces (fun c hc => h c (List.mem_reverse.mp hc))]
  simp
theorem hd_VL {kx : PySem.Str × PySem.Str} {r : List (PySem.Str × PySem.Str)} {x : PySem.Str} (ht : tokS kx.2 = true) (hx : x = ⟨(61 :: ((writ kx.2).cps.toList ++ restL r)).toArray⟩) (hsz : x.cps.size ≤ 1000000) :
    Lands (2 * x.cps.size + 30) (Sre.forSearch cQV x.cps 1 0 x.cps.size false) Miss ∧ Lands 30 (Sre.forSearch cVL x.cps 1 0 x.cps.size false) (Hit 0 (1 + kx.2.cps.toList.length) 1 (1 + kx.2.cps.toList.length)) ∧
      (⟨x.cps.extract 1 (1 + kx.2.cps.toList.length)⟩ : PySem.Str) = kx.2 ∧ 1 + kx.2.cps.toList.length ≤ x.length ∧ (⟨(x.cps.toList.drop (1 + kx.2.cps.toList.length)).toArray⟩ : PySem.Str) = ⟨(restL r).toArray⟩ ∧ Txt.rstrip kx.2 = kx.2 := by
  obtain ⟨h0, hc⟩ := tokS_chars ht
  have hL : x.cps.toList = 61 :: (kx.2.cps.toList ++ restL r) := by
    rw [hx]; unfold writ; rw [if_pos ht]
  have hs := size_toL hL
  simp only [List.length_cons, List.length_append] at hs
  have hn : kx.2.cps.toList.length ≠ 0 := by simpa using h0
  have hj : ∀ j, j < kx.2.cps.toList.length → x.cps.getD (1 + j) 0 ∈ kx.2.cps.toList := by
    intro j hj
    rw [getD0 hL, Nat.add_comm 1 j, List.getD_cons_succ, List.getD_eq_getElem?_getD, List.getElem?_append_left hj, ← List.getD_eq_getElem?_getD]
    exact mem_of_getD hj
  have h61 : x.cps.getD 0 0 = 61 := getD0 hL 0
  refine ⟨QV_no x.cps hsz h61 (fun _ => ?_), VL_yes x.cps _ hsz h61 (by omega) (by omega) (fun j h => ?_) (fun h => ?_), ?_, by show _ ≤ x.cps.size; omega, ?_, rstrip_id fun c hc' => ⟨(hc c hc').1, (hc c hc').2.1⟩⟩
  · have := hc _ (hj 0 (by omega)); exact ⟨this.1, by have := this.2.1; simp only [Nat.add_zero] at this; omega, this.2.2.1⟩
  · have := hc _ (hj j h); exact ⟨this.1, by omega, this.2.2.2.2, this.2.2.2.1⟩
  · rw [getD0 hL, Nat.add_comm 1 _, List.getD_cons_succ, List.getD_eq_getElem?_getD, List.getElem?_append_right (Nat.le_refl _), Nat.sub_self]
    cases r with
    | nil => exact absurd h (by rw [size_toL hL]; simp [restL]; omega)
    | cons a r => rfl
  · rw [ext_of hL]
    apply str_ext
    show (List.take _ (kx.2.cps.toList ++ restL r)) = _
    rw [Nat.add_sub_cancel_left, List.take_left]
  · rw [hL]
    apply str_ext
    rw [Nat.add_comm 1 _]
    show (kx.2.cps.toList ++ restL r).drop _ = _
    rw [List.drop_left]
theorem hd_junk {x : PySem.Str} {kx : PySem.Str × PySem.Str} {c : Nat} {r : List (PySem.Str × PySem.Str)} (G : GoodP kx c) (hL : x.cps.toList = 59 :: 32 :: hdrL (kx :: r)) (hsz : x.cps.size ≤ 1000000) :
    Lands (2 * x.cps.size + 20) (Sre.forSearch cTK x.cps 1 0 x.cps.size false) Miss ∧ Lands (2 * x.cps.size + 20) (Sre.forSearch cTW x.cps 0 0 x.cps.size false) (Hit0 0 2) ∧ Lands (2 * x.cps.size + 20) (Sre.forSearch cTW x.cps 0 2 x.cps.size false) Miss ∧
      (⟨x.cps.extract 2 x.cps.size⟩ : PySem.Str) = ⟨(hdrL (kx :: r)).toArray⟩ ∧ 2 ≤ x.cps.size ∧ Txt.startswith (Txt.lstrip x) (PySem.Str.ofString ",") = false := by
  have hs := size_toL hL
  have h0 : x.cps.getD 0 0 = 59 := getD0 hL 0
  have h1 : x.cps.getD 1 0 = 32 := getD0 hL 1
  have h2 : x.cps.getD 2 0 = c := by rw [getD0 hL 2, hdrL_eq G]; rfl
  have := G.lo; have := G.hi
  have hlen : 0 < (hdrL (kx :: r)).length := by rw [hdrL_eq G]; simp
  simp only [List.length_cons] at hs
  refine ⟨TK_no x.cps (by omega) hsz h0, Lands.mono (TW_yes x.cps hsz (by omega) h0 h1 (by omega)) (by omega), TW_no x.cps 2 (by omega) (by omega) false, ?_, by omega, ?_⟩
  · rw [ext_of hL]
    apply str_ext
    show List.take _ (hdrL (kx :: r)) = _
    rw [List.take_of_length_le (by omega)]
  · have e : Txt.lstrip x = x := by
      unfold Txt.lstrip Txt.stripBy
      rw [if_pos]
      have hz : x.cps.toList.takeWhile Unicode.isSpace = [] := by rw [hL, List.takeWhile_cons, no_space 59 (by decide) (by decide)]; rfl
      unfold stripSame stripLo stripHi
      simp [hz]
    rw [e]
    unfold Txt.startswith
    rw [show PySem.Str.ofString "," = ⟨#[44]⟩ by decide +kernel]
    have e2 : Builtin.Str.subAt x ⟨#[44]⟩ 0 = false := by
      unfold Builtin.Str.subAt
      have e3 : x.cps.extract 0 (0 + (⟨#[44]⟩ : PySem.Str).length) = #[59] := by
        apply Array.ext'
        rw [extract_toList, hL]; rfl
      rw [e3]; rfl
    rw [e2, Bool.and_false]
end
section
-- Rs
section
variable {prog : Program} {w : World} {A : Around} {s : Shared}
/-- a call of a def of the text that may raise -/
theorem call_any {K : Frag} {p : Program} {loose : List Str} {mg mb : Str → Option Value} {mean : ExcName → Option Value}
    {R : Result → Shared → Prop} {name qual : Str} {params : Arguments} {body : List Stmt} {scope : Scope} {dV kV doc pm cdv ct oc : Value} {an od : Option Addr} {osl : Array (Option Value)} {f : Addr} {args : Args} {binds : List (Str × Value)}
    (X : K.In s.heap) (T : Top p loose mean mg mb s.heap)
    (ho : K.lookup f = some ⟨oc, od, .func (fnOf name qual params body scope dV kV doc pm an cdv ct), osl⟩) (hcd : codeIn K cdv qual = true) (hroom : A.depth < recursionLimit)
    (hbind : BindsTo s (fnOf name qual params body scope dV kV doc pm an cdv ct) args binds) (hloc : ∀ y ∈ binds, scope.names.lookup y.1 = some .local)
    (h : ∀ L h₁ tk, Fr s.heap L h₁ (fun y => binds.reverse.lookup y) → News s.heap L h₁ [] →
      wpAny (model prog w) (A.deeper (envOf qual scope L f cdv)) (execs body (envOf qual scope L f cdv))
        (fun fl s' => R (.ok (.ret (match fl with | .ret v => v | _ => .none))) s')
        (fun e s' => wpAny (model prog w) (A.deeper (envOf qual scope L f cdv)) (leaving (envOf qual scope L f cdv) e) (fun _ s'' => R (.error e) s'') (fun e' s'' => R (.error e') s'') s')
        { s with heap := h₁, toks := tk })
    (hco : scope.isCoroutine = false) (hgen : scope.isGenerator = false) (hk : scope.kind = .function)
    (hcell : ∀ x ∈ scope.names, x.2 ≠ .cell) : codeAny (model prog w) A (.call (.ref f) args) R s := by
  refine codeAny_call_def (fd := fnOf name qual params body scope dV kV doc pm an cdv ct) (body := body) (binds := binds) hroom (X _ _ ho) rfl T.nolimit (codeRec_of X hcd) rfl hbind hcell hloc (fun h₁ hns hk₁ => ?_) hco hgen hk
  exact h s.heap.objs.size h₁ _ ⟨hns, fun b o e => hk₁ b o e, Nat.le_refl _⟩ News.nil
end
end
section
-- Lst
section
variable {prog : Program} {w : World} {A : Around} {s : Shared} {h₀ : Heap} {L : Addr} {m : Str → Option Value}
/-- the turns of a comprehension over a list of lists whose element is a call that gives the list back or a new one -/
theorem lists_rest {env : Env} {elt : Expr} {x : Str} {scope : Scope} {cl : List (Str × Addr)} {S : List (Addr × Obj) → Prop} {P : Nat → Value → Prop} {Fin : List Value → List (Addr × Obj) → Prop} {n : Nat}
    {rows : List (Addr × Array Value × Nat)} {news0 : List (Addr × Obj)} {G : Nat → (Addr × Array Value × Nat) → Prop}
    (hP : ∀ i v, i < n → P i v → ∃ r, rows[i]? = some r ∧ v = .ref r.1) (hn : n = rows.length) (hm : ∀ r ∈ rows, (r.1, W.listOf r.2.1 r.2.2) ∈ news0) (hS : ∀ extra, S (extra ++ news0))
    (turn : ∀ i r I oI C oC D m₂ ys h tk (E' : Value → Shared → Prop) extra, rows[i]? = some r → LCg.NsObj oC m₂ → m₂ x = some (.ref r.1) → Fr h₀ L h m → News h₀ L h ((I, oI) :: (C, oC) :: (D, LCg.lst ys) :: (extra ++ news0)) →
      wpAny (model prog w) A (eval elt (compEnvC scope cl C env)) (fun y s₂ => ∃ (out : Addr × Array Value × Nat) (h' : Heap) (tk' : Nat), s₂ = { s with heap := h', toks := tk' } ∧ y = .ref out.1 ∧ h.StaysIn h' ∧ (out = r ∨ (h.get? out.1 = none ∧ h'.get? out.1 = some (W.listOf out.2.1 out.2.2))) ∧ G i out) E' { s with heap := h, toks := tk })
    (fin : ∀ ys (outs : List (Addr × Array Value × Nat)) extra, ys = outs.map (fun o => Value.ref o.1) → outs.length = rows.length → (∀ o ∈ outs, (o.1, W.listOf o.2.1 o.2.2) ∈ extra ++ news0) → (∀ i o, outs[i]? = some o → G i o) → Fin ys (extra ++ news0)) :
    LCg.CompRest prog w A h₀ L m env elt x scope cl s S P Fin n 0 [] news0 := by
  have key : ∀ (j i : Nat) (ys : List Value) (outs : List (Addr × Array Value × Nat)) (extra : List (Addr × Obj)), i + j = n → ys = outs.map (fun o => Value.ref o.1) → outs.length = i → (∀ o ∈ outs, (o.1, W.listOf o.2.1 o.2.2) ∈ extra ++ news0) → (∀ i o, outs[i]? = some o → G i o) →
      LCg.CompRest prog w A h₀ L m env elt x scope cl s S P Fin j i ys (extra ++ news0) := by
    intro j
    induction j with
    | zero =>
      intro i ys outs extra hi hy hl hmo hG
      exact LCg.CompRest.zero (fin ys outs extra hy (by omega) hmo hG)
    | succ j ih =>
      intro i ys outs extra hi hy hl hmo hG
      refine LCg.CompRest.succ ?_
      intro v I oI C oC D m₂ h tk E' hv hC hx F N off ne
      obtain ⟨r, hr, rfl⟩ := hP i v (by omega) hv
      refine wpAny_mono (turn i r I oI C oC D m₂ ys h tk E' extra hr hC hx F N) (fun y s₂ hq => ?_) fun _ _ e => e
      obtain ⟨out, h', tk', rfl, rfl, hk, hor, hg⟩ := hq
      have N' := News_stays N hk
      have hGs : ∀ i' o, (outs ++ [out])[i']? = some o → G i' o := by
        intro i' o ho
        rcases Nat.lt_or_ge i' outs.length with q | q
        · rw [List.getElem?_append_left q] at ho; exact hG i' o ho
        · rw [List.getElem?_append_right q] at ho
          have : i' = i := by
            rcases Nat.eq_or_lt_of_le q with q' | q'
            · omega
            · rw [List.getElem?_eq_none (by simp; omega)] at ho; cases ho
          subst this
          rw [hl, Nat.sub_self] at ho
          cases ho; exact hg
      rcases hor with rfl | ⟨hf, ho⟩
      · refine ⟨h', tk', extra ++ news0, rfl, Fr_stays F hk, N', off, hS extra, ?_⟩
        refine ih (i + 1) _ (outs ++ [out]) extra (by omega) (by rw [hy, List.map_append]; rfl) (by simp [hl]) ?_ hGs
        intro o hmem
        rcases List.mem_append.mp hmem with q | q
        · exact hmo o q
        · rw [List.mem_singleton.mp q]
          exact List.mem_append_right _ (hm _ (List.mem_of_getElem? hr))
      · have hne : ∀ p : Addr × Obj, h.get? p.1 = some p.2 → p.1 ≠ out.1 := fun p hp q => by rw [q, hf] at hp; cases hp
        have hL : out.1 ≠ L := fun q => by obtain ⟨o, _, _, e, _⟩ := F.ns; rw [← q, hf] at e; cases e
        have h00 : h₀.get? out.1 = none := by
          cases e : h₀.get? out.1 with
          | none => rfl
          | some o => have := F.keep _ _ e; rw [hf] at this; cases this
        refine ⟨h', tk', (out.1, W.listOf out.2.1 out.2.2) :: (extra ++ news0), rfl, Fr_stays F hk, ?_, ?_, hS ((out.1, W.listOf out.2.1 out.2.2) :: extra), ?_⟩
        · intro p hp
          rcases List.mem_cons.mp hp with rfl | hp
          · exact N' _ (.head _)
          rcases List.mem_cons.mp hp with rfl | hp
          · exact N' _ (.tail _ (.head _))
          rcases List.mem_cons.mp hp with rfl | hp
          · exact N' _ (.tail _ (.tail _ (.head _)))
          rcases List.mem_cons.mp hp with rfl | hp
          · exact ⟨ho, hL, h00⟩
          · exact N' _ (.tail _ (.tail _ (.tail _ hp)))
        · refine ⟨⟨fun q => hne (I, oI) (N _ (.head _)).1 q.symm, fun q => hne (C, oC) (N _ (.tail _ (.head _))).1 q.symm, fun q => hne (D, LCg.lst ys) (N _ (.tail _ (.tail _ (.head _)))).1 q.symm⟩, off⟩
        · refine ih (i + 1) _ (outs ++ [out]) ((out.1, W.listOf out.2.1 out.2.2) :: extra) (by omega) (by rw [hy, List.map_append]; rfl) (by simp [hl]) ?_ hGs
          intro o hmem
          rcases List.mem_append.mp hmem with q | q
          · exact List.mem_cons_of_mem _ (hmo o q)
          · rw [List.mem_singleton.mp q]
            exact .head _
  exact key n 0 [] [] [] (by omega) rfl rfl (fun o ho => nomatch ho) (fun i o ho => by simp at ho)
end
end
section
-- Seq
section
variable {M : Model} {A : Around} {E : Value → Shared → Prop} {s : Shared} {env : Env}
theorem seq_mid {a : Stmt} {rest : List Stmt} {Q : Flow → Shared → Prop} (Mid : Shared → Prop) (h1 : wpAny M A (exec a env) (fun f s' => f = .next ∧ Mid s') (fun _ _ => False) s)
    (h2 : ∀ s', Mid s' → wpAny M A (execs rest env) Q E s') : wpAny M A (execs (a :: rest) env) Q E s := by
  refine wpAny_execs_cons (wpAny_mono h1 (fun f s' h => ?_) fun _ _ e => e.elim)
  obtain ⟨rfl, hm⟩ := h
  exact h2 s' hm
end
/-- what stands behind a statement: names, ledger -/
def MidAt (g : Heap) (L : Addr) (s : Shared) (P : (Str → Option Value) → List (Addr × Obj) → Prop) (s' : Shared) : Prop :=
  ∃ h m news tk, s' = { s with heap := h, toks := tk } ∧ Fr g L h m ∧ News g L h news ∧ P m news
theorem MidAt.intro {g : Heap} {L : Addr} {s : Shared} {P : (Str → Option Value) → List (Addr × Obj) → Prop} {h : Heap} {m : Str → Option Value} {news : List (Addr × Obj)} {tk : Nat} (F : Fr g L h m) (N : News g L h news) (hp : P m news) :
    MidAt g L s P { s with heap := h, toks := tk } := ⟨h, m, news, tk, rfl, F, N, hp⟩
theorem seq_at {M : Model} {A : Around} {E : Value → Shared → Prop} {s : Shared} {env : Env} {g : Heap} {L : Addr} {m : Str → Option Value} {a : Stmt} {rest : List Stmt} {Q : Flow → Shared → Prop} (F : Fr g L s.heap m)
    (P : (Str → Option Value) → List (Addr × Obj) → Prop) (h1 : wpAny M A (exec a env) (fun f s' => f = .next ∧ MidAt g L s P s') (fun _ _ => False) s)
    (h2 : ∀ h m news tk, Fr g L h m → News g L h news → P m news → wpAny M A (execs rest env) Q E { s with heap := h, toks := tk }) : wpAny M A (execs (a :: rest) env) Q E s :=
  seq_mid _ h1 fun s' hm => by obtain ⟨h, m, news, tk, rfl, F, N, hp⟩ := hm; exact h2 h m news tk F N hp
theorem Fr.over {g h : Heap} {L : Addr} {m : Str → Option Value} {ps : List (Str × Value)} (hp : Pins m ps) (F : Fr g L h m) : Fr g L h (Mine.over ps m) := by rw [over_pins hp]; exact F
theorem news_ext {g h h4 : Heap} {L : Addr} {m : Str → Option Value} {news extra : List (Addr × Obj)} (F : Fr g L h m) (N : News g L h news) (hst : h.StaysIn h4) (he : ∀ p ∈ extra, h.get? p.1 = none ∧ h4.get? p.1 = some p.2) : News g L h4 (news ++ extra) := by
  intro p hp
  rcases List.mem_append.mp hp with hp | hp
  · exact ⟨hst _ _ (N p hp).1, (N p hp).2⟩
  · obtain ⟨h1, h2⟩ := he p hp
    refine ⟨h2, fun q => ?_, ?_⟩
    · obtain ⟨o, _, _, e, _⟩ := F.ns
      rw [← q, h1] at e; cases e
    · cases e : g.get? p.1 with
      | none => rfl
      | some o => have := F.keep _ _ e; rw [h1] at this; cases this
theorem ext_ne {g h : Heap} {L : Addr} {news extra : List (Addr × Obj)} (N : News g L h news) (he : ∀ p ∈ extra, h.get? p.1 = none) {q : Addr × Obj} (hq : q ∈ news) : ∀ p ∈ extra, p.1 ≠ q.1 := by
  intro p hp e
  have h1 := (N q hq).1
  rw [← e, he p hp] at h1; cases h1
theorem pins2 {g h : Heap} {L : Addr} {m : Str → Option Value} (F : Fr g L h m) (mk : Tok → Tok → List (Str × Value)) {a b : Tok} (hp : Pins m (mk a b)) : ∃ a b m', Fr g L h (Mine.over (mk a b) m') := ⟨a, b, m, Mine.Fr.over hp F⟩
theorem pins3 {g h : Heap} {L : Addr} {m : Str → Option Value} (F : Fr g L h m) (mk : Tok → Tok → Tok → List (Str × Value)) {a b c : Tok} (hp : Pins m (mk a b c)) : ∃ a b c m', Fr g L h (Mine.over (mk a b c) m') := ⟨a, b, c, m, Mine.Fr.over hp F⟩
/-- where the walk is to stop -/
def Stop (p : Prop) : Prop := p
theorem stop_on {p : Prop} (h : Stop p) : p := h
theorem allLt_get {d : Addr} : ∀ {l : List (Addr × Obj)}, AllLt d l → ∀ p ∈ l, @LT.lt Nat _ p.1 d
  | [], _, p, hp => nomatch hp
  | q :: r, h, p, hp => by
    rcases List.mem_cons.mp hp with rfl | hp
    · exact h.1
    · exact allLt_get h.2 p hp
theorem allLt_tail {d : Addr} {l : List (Addr × Obj)} : ∀ {pre : List (Addr × Obj)}, AllLt d (pre ++ l) → ∀ p ∈ l, p.1 ≠ d
  | [], h => by
    intro p hp
    induction l with
    | nil => exact nomatch hp
    | cons q r ih =>
      rcases List.mem_cons.mp hp with rfl | hp
      · exact Nat.ne_of_lt h.1
      · exact ih h.2 hp
  | _ :: _, h => allLt_tail (pre := _) h.2
/-- the post as a letter: terms walk_at "mine stay" small under binders -/
theorem gen_post {α : Type} {M : Model} {A : Around} {t : Sem α} {Q0 : α → Shared → Prop} {E : Value → Shared → Prop} {s : Shared} (h : ∀ Q, Q = Q0 → wpAny M A t Q E s) : wpAny M A t Q0 E s := h Q0 rfl
theorem seq_gen {M : Model} {A : Around} {E : Value → Shared → Prop} {s : Shared} {env : Env} {g : Heap} {L : Addr} {m : Str → Option Value} {a : Stmt} {rest : List Stmt} {Q : Flow → Shared → Prop} (F : Fr g L s.heap m)
    (P : (Str → Option Value) → List (Addr × Obj) → Prop)
    (h1 : ∀ Q' : Flow → Shared → Prop, (∀ {h m news tk}, Fr g L h m → News g L h news → P m news → Q' .next { s with heap := h, toks := tk }) → wpAny M A (exec a env) Q' (fun _ _ => False) s)
    (h2 : ∀ h m news tk, Fr g L h m → News g L h news → P m news → wpAny M A (execs rest env) Q E { s with heap := h, toks := tk }) : wpAny M A (execs (a :: rest) env) Q E s :=
  seq_at F P (h1 _ fun F N hp => ⟨rfl, MidAt.intro F N hp⟩) h2
/-- the same over two statements -/
theorem seq2_gen {M : Model} {A : Around} {E : Value → Shared → Prop} {s : Shared} {env : Env} {g : Heap} {L : Addr} {m : Str → Option Value} {a b : Stmt} {rest : List Stmt} {Q : Flow → Shared → Prop} (F : Fr g L s.heap m)
    (P : (Str → Option Value) → List (Addr × Obj) → Prop)
    (h1 : ∀ Q' : Flow → Shared → Prop, (∀ {h m news tk}, Fr g L h m → News g L h news → P m news → Q' .next { s with heap := h, toks := tk }) → wpAny M A (exec a env) (fun f s' => f = .next ∧ wpAny M A (exec b env) Q' (fun _ _ => False) s') (fun _ _ => False) s)
    (h2 : ∀ h m news tk, Fr g L h m → News g L h news → P m news → wpAny M A (execs rest env) Q E { s with heap := h, toks := tk }) : wpAny M A (execs (a :: b :: rest) env) Q E s := by
  refine wpAny_execs_cons (wpAny_mono (h1 (fun f s' => f = .next ∧ MidAt g L s P s') fun F N hp => ⟨rfl, MidAt.intro F N hp⟩) (fun f s' hf => ?_) fun _ _ e => e.elim)
  obtain ⟨rfl, hb⟩ := hf
  refine wpAny_execs_cons (wpAny_mono hb (fun f s' hf => ?_) fun _ _ e => e.elim)
  obtain ⟨rfl, h, m, news, tk, rfl, F', N', hp⟩ := hf
  exact h2 h m news tk F' N' hp
theorem head_ex {g h : Heap} {L a : Addr} {o : Obj} {r : List (Addr × Obj)} (_ : News g L h ((a, o) :: r)) : ∃ a', a' = a := ⟨a, rfl⟩
/-- the names of a list differ -/
def keysOk : List (Str × Value) → Bool
  | [] => true
  | (x, _) :: r => (r.all fun q => !(q.1 == x)) && keysOk r
theorem pins_of {m : Str → Option Value} : ∀ {ps : List (Str × Value)}, (∀ x v, (x, v) ∈ ps → m x = some v) → Pins m ps
  | [], _ => trivial
  | (x, v) :: r, h => ⟨h x v (.head _), pins_of fun y w hy => h y w (.tail _ hy)⟩
theorem lookup_keys : ∀ {ps : List (Str × Value)}, keysOk ps = true → ∀ x v, (x, v) ∈ ps → ps.lookup x = some v
  | [], _, _, _, h => nomatch h
  | (y, w) :: r, hk, x, v, h => by
    have hk' := Bool.and_eq_true_iff.mp hk
    rcases List.mem_cons.mp h with e | h
    · cases e; simp [List.lookup_cons]
    · have hne : (x == y) = false := by
        have := List.all_eq_true.mp hk'.1 _ h
        simpa using this
      rw [List.lookup_cons, hne]
      exact lookup_keys hk'.2 x v h
theorem pins_over {m : Str → Option Value} {ps : List (Str × Value)} (hk : keysOk ps = true) : Pins (over ps m) ps :=
  pins_of fun x v h => by unfold over; rw [lookup_keys hk x v h]; rfl
theorem pins_upd {m : Str → Option Value} {ps : List (Str × Value)} {x : Str} {v : Value} (hk : keysOk ((x, v) :: ps) = true) : Pins (fun y => if y = x then some v else over ps m y) ((x, v) :: ps) := by
  have hk' := Bool.and_eq_true_iff.mp hk
  refine ⟨if_pos rfl, pins_of fun y w h => ?_⟩
  have hne : ¬ y = x := by
    have := List.all_eq_true.mp hk'.1 _ h
    simpa using this
  rw [if_neg hne]
  unfold over; rw [lookup_keys hk'.2 y w h]; rfl
theorem pins_drop {m : Str → Option Value} : ∀ (n : Nat) {ps : List (Str × Value)}, Pins m ps → Pins m (ps.drop n)
  | 0, _, h => h
  | n + 1, [], h => h
  | n + 1, _ :: r, h => pins_drop n (ps := r) h.2
theorem pins_skip {m : Str → Option Value} {a b : Str × Value} {r : List (Str × Value)} (h : Pins m (a :: b :: r)) : Pins m (a :: r) := ⟨h.1, h.2.2⟩
/-- a statement behind which names and a ledger stand -/
theorem seq_pins {M : Model} {A : Around} {E : Value → Shared → Prop} {s : Shared} {env : Env} {g : Heap} {L : Addr} {m : Str → Option Value} {a : Stmt} {rest : List Stmt} {Q : Flow → Shared → Prop} (F : Fr g L s.heap m)
    (ps : Tok → List (Str × Value)) (nw : List (Addr × Obj))
    (h1 : ∀ Q' : Flow → Shared → Prop, (∀ {h m news tk t}, Fr g L h m → News g L h news → Pins m (ps t) → (∀ p ∈ nw, p ∈ news) → Q' .next { s with heap := h, toks := tk }) → wpAny M A (exec a env) Q' (fun _ _ => False) s)
    (h2 : ∀ h m tk t, Fr g L h (over (ps t) m) → News g L h nw → wpAny M A (execs rest env) Q E { s with heap := h, toks := tk }) : wpAny M A (execs (a :: rest) env) Q E s :=
  seq_gen F (fun m news => ∃ t, Pins m (ps t) ∧ ∀ p ∈ nw, p ∈ news) (fun Q' hQ => h1 Q' fun F N hp hs => hQ F N ⟨_, hp, hs⟩) fun h m news tk F N hP => by
    obtain ⟨t, hp, hs⟩ := hP
    exact h2 h m tk t (Mine.Fr.over hp F) (News_sub N hs)
end
end
set_option maxRecDepth 100000
set_option maxHeartbeats 0
local macro_rules | `(tactic| walk_at "mine sides") => `(tactic| ((case k6 => k_is); (case k7 => k_is); (case k9 => first | exact BindsTo.of_eq rfl | exact binds_K (by k_asm) rfl (by k_is) rfl rfl rfl | exact kp_binds (by k_asm) (fun _ => by k_is)); (case c5 => decide); (case kB => exact locs rfl); (case c2 => exact rfl); (case c3 => exact rfl); (case c4 => exact rfl); k_whole))
local macro_rules | `(tactic| walk_at "exec For Name Name cons nil") => `(tactic| k_dflt (refine wpAny_For ?_ (by intro _; rfl)))
local macro_rules | `(tactic| walk_at "exec For Name Call cons nil") => `(tactic| k_dflt (refine wpAny_For ?_ (by intro _; rfl)))
local macro_rules | `(tactic| walk_at "call builtin:list.append") => `(tactic| (k_dflt (refine' append_K ?k1 ?k2 ?k3 ?_ ?z; (case k1 => k_asm); (case k2 => k_asm); (case k3 => k_upd); (case z => size_fits); k_whole); intro h' F' N'))
local macro_rules | `(tactic| walk_at "call type:type") => `(tactic| ((with_reducible show wpAny _ _ (call _ [Value.bytes _ _]) _ _ _); refine call_type_of (Tx := "bytes") rfl (by decide +kernel) ?_))
local macro_rules | `(tactic| walk_at "getMethod str") => `(tactic| (with_reducible refine getMethod_encode ?_))
local macro_rules | `(tactic| walk_at "call builtin:str.encode") => `(tactic| (refine call_encode (by assumption) (by assumption) ?_; intro _ _))
local macro_rules | `(tactic| walk_at "getMethod bytes") => `(tactic| (with_reducible refine getMethod_translate ?_))
local macro_rules | `(tactic| walk_at "getMethod type:bytes") => `(tactic| (k_here; with_reducible refine bytes_maketrans (by k_asm) (by k_asm) ?_))
local macro_rules | `(tactic| walk_at "call builtin:bytes.maketrans") => `(tactic| (refine call_maketransT ?_; intro _ _ _ _ _))
local macro_rules | `(tactic| walk_at "call builtin:bytes.translate") => `(tactic| (refine call_translate (by assumption) (by assumption) ?_; intro _ _))
local macro_rules | `(tactic| walk_at "mine stay") => `(tactic| ((rename Fr _ _ _ _ => F8); (rename News _ _ _ _ => N8); (rename Heap.StaysIn _ _ => K8); (replace F8 := Fr_stays F8 K8); (replace N8 := News_stays N8 K8); (try clear K8); (try dsimp only)))
local macro_rules | `(tactic| walk_at "leaving ref") => `(tactic| (k_here; (refine' leave_raiseS ?k1 ?k0 ?k2 ?k3 ?_; (case k0 => assumption); (case k1 => assumption); (case k2 => assumption); (case k3 => k_asm); k_whole; intro h' t' R' R2' U'; clear R2'; (try dsimp only at R' U' ⊢))))
local macro_rules | `(tactic| walk_at "call builtin:isinstance") => `(tactic| ((with_reducible show wpAny _ _ (call _ [Value.bytes _ _, Value.type "bytes"]) _ _ _); refine call_isinstance_yes (Tx := "bytes") rfl rfl (by rw [isSubtype_type]; kernel_rfl) ?_))
section
local macro_rules | `(tactic| omega) => `(tactic| lia)
section
-- F7
set_option maxRecDepth 100000
set_option maxHeartbeats 0

def b64V (c : Int) : Int := if 65 ≤ c ∧ c ≤ 90 then c - 65 else if 97 ≤ c ∧ c ≤ 122 then c - 71 else if 48 ≤ c ∧ c ≤ 57 then c + 4 else if c = 43 then 62 else if c = 47 then 63 else 64
theorem b64v_spec {prog : Program} {w : World} {A : Around} {s : Shared} {p : Program} {loose : List Str} {mg mb : Str → Option Value} {mean}
    (X : (Mine.hd.heap_1 w.params).In s.heap) (T : Top p loose mean mg mb s.heap) {R : Result → Shared → Prop} (hd : A.depth ≤ 500) (hh : A.handled = none)
    {c : Int} {t : Tok}
    (hR : ∀ v h' tk' tk'', v = b64V c → s.heap.StaysIn h' → R (.ok (.ret (.int v tk'))) { s with heap := h', toks := tk'' })
   : codeAny (model prog w) A (.call (.ref 150) ⟨[.int c t], []⟩) R s := by
  w_on
  refine' call_ret (binds := [(PySem.Str.ofString "c", Value.int c t)]) X T ?k6 ?k7 (by show A.depth < 1000; omega) ?k9 ?kB ?_ ?c2 ?c3 ?c4 ?c5
  walk_at "mine sides"
  intro L h₁ tk F N
  (try dsimp only)
  k_steps
  all_goals ((rename Fr _ _ _ _ => F9); refine hR _ _ _ _ ?_ F9.keep; unfold b64V; repeat' split)
  all_goals omega
theorem truth_spec {prog : Program} {w : World} {A : Around} {s : Shared} {p : Program} {loose : List Str} {mg mb : Str → Option Value} {mean}
    (X : (Mine.hd.heap_1 w.params).In s.heap) (T : Top p loose mean mg mb s.heap) {R : Result → Shared → Prop} (hd : A.depth ≤ 500) (hh : A.handled = none)
    
    (hR : ∀ h' tk'', s.heap.StaysIn h' → R (.ok (.ret (.bool false))) { s with heap := h', toks := tk'' })
   : codeAny (model prog w) A (.call (.ref 143) ⟨[.bool false], []⟩) R s := by
  w_on
  refine' call_ret (binds := [(PySem.Str.ofString "x", Value.bool false)]) X T ?k6 ?k7 (by show A.depth < 1000; omega) ?k9 ?kB ?_ ?c2 ?c3 ?c4 ?c5
  walk_at "mine sides"
  intro L h₁ tk F N
  (try dsimp only)
  k_steps
  all_goals ((rename Fr _ _ _ _ => F9); exact hR _ _ F9.keep)
theorem buffer_spec {prog : Program} {w : World} {A : Around} {s : Shared} {p : Program} {loose : List Str} {mg mb : Str → Option Value} {mean}
    (X : (Mine.hd.heap_1 w.params).In s.heap) (T : Top p loose mean mg mb s.heap) {R : Result → Shared → Prop} (hd : A.depth ≤ 500) (hh : A.handled = none)
    {b : Array UInt8} {t : Tok}
    (hR : ∀ h' tk'', s.heap.StaysIn h' → R (.ok (.ret (.bytes b t))) { s with heap := h', toks := tk'' })
   : codeAny (model prog w) A (.call (.ref 136) ⟨[.bytes b t], []⟩) R s := by
  w_on
  refine' call_ret (binds := [(PySem.Str.ofString "data", Value.bytes b t)]) X T ?k6 ?k7 (by show A.depth < 1000; omega) ?k9 ?kB ?_ ?c2 ?c3 ?c4 ?c5
  walk_at "mine sides"
  intro L h₁ tk F N
  (try dsimp only)
  k_steps
  all_goals ((rename Fr _ _ _ _ => F9); exact hR _ _ F9.keep)
theorem abuffer_spec {prog : Program} {w : World} {A : Around} {s : Shared} {p : Program} {loose : List Str} {mg mb : Str → Option Value} {mean}
    (X : (Mine.hd.heap_1 w.params).In s.heap) (T : Top p loose mean mg mb s.heap) {R : Result → Shared → Prop} (hd : A.depth ≤ 500) (hh : A.handled = none)
    {b : Array UInt8} {t : Tok}
    (hR : ∀ h' tk'', s.heap.StaysIn h' → R (.ok (.ret (.bytes b t))) { s with heap := h', toks := tk'' })
   : codeAny (model prog w) A (.call (.ref 129) ⟨[.bytes b t], []⟩) R s := by
  w_on
  refine' call_ret (binds := [(PySem.Str.ofString "data", Value.bytes b t)]) X T ?k6 ?k7 (by show A.depth < 1000; omega) ?k9 ?kB ?_ ?c2 ?c3 ?c4 ?c5
  walk_at "mine sides"
  intro L h₁ tk F N
  (try dsimp only)
  k_steps
  all_goals ((rename Fr _ _ _ _ => F9); exact hR _ _ F9.keep)
end
section
-- F2
set_option maxRecDepth 100000
set_option maxHeartbeats 0
/-- the octets of figures: what is held, how many bits of it -/
def octGo : Int → Int → List Int → List Int
  | _, _, [] => []
  | held, bits, f :: r =>
    if 8 ≤ bits + 6 then Int.fdiv (held * 64 + f) (2 ^ (bits + 6 - 8).toNat) :: octGo (Int.fmod (held * 64 + f) (2 ^ (bits + 6 - 8).toNat)) (bits + 6 - 8) r
    else octGo (held * 64 + f) (bits + 6) r
structure OctSt where
  held : Int
  th : Tok
  bits : Int
  tb : Tok
  out : Array Value
  outs : List Int
  n : Nat
theorem oct_more {held bits n : Int} (h0 : 0 ≤ bits) (h1 : bits < 8) (h2 : 0 ≤ held) (h3 : held < 2 ^ bits.toNat) (h4 : 0 ≤ n) (h5 : n < 64) (h6 : 8 ≤ bits + 6) :
    0 ≤ bits + 6 - 8 ∧ bits + 6 - 8 < 8 ∧ 0 ≤ Int.fmod (held * 64 + n) (2 ^ (bits + 6 - 8).toNat) ∧ Int.fmod (held * 64 + n) (2 ^ (bits + 6 - 8).toNat) < 2 ^ (bits + 6 - 8).toNat ∧
      0 ≤ Int.fdiv (held * 64 + n) (2 ^ (bits + 6 - 8).toNat) ∧ Int.fdiv (held * 64 + n) (2 ^ (bits + 6 - 8).toNat) < 256 := by
  have hb : bits = 2 ∨ bits = 3 ∨ bits = 4 ∨ bits = 5 ∨ bits = 6 ∨ bits = 7 := by omega
  have hp : (0 : Int) ≤ 2 ^ (bits + 6 - 8).toNat := by
    have : (0 : Int) < 2 ^ (bits + 6 - 8).toNat := Int.pow_pos (by decide)
    omega
  rw [Int.fmod_eq_emod_of_nonneg _ hp, Int.fdiv_eq_ediv_of_nonneg _ hp]
  rcases hb with rfl | rfl | rfl | rfl | rfl | rfl
  · have e : (2 : Int) ^ ((2 : Int) + 6 - 8).toNat = 1 := by decide
    have e' : (2 : Int) ^ ((2 : Int)).toNat = 4 := by decide
    rw [e]; rw [e'] at h3; omega
  · have e : (2 : Int) ^ ((3 : Int) + 6 - 8).toNat = 2 := by decide
    have e' : (2 : Int) ^ ((3 : Int)).toNat = 8 := by decide
    rw [e]; rw [e'] at h3; omega
  · have e : (2 : Int) ^ ((4 : Int) + 6 - 8).toNat = 4 := by decide
    have e' : (2 : Int) ^ ((4 : Int)).toNat = 16 := by decide
    rw [e]; rw [e'] at h3; omega
  · have e : (2 : Int) ^ ((5 : Int) + 6 - 8).toNat = 8 := by decide
    have e' : (2 : Int) ^ ((5 : Int)).toNat = 32 := by decide
    rw [e]; rw [e'] at h3; omega
  · have e : (2 : Int) ^ ((6 : Int) + 6 - 8).toNat = 16 := by decide
    have e' : (2 : Int) ^ ((6 : Int)).toNat = 64 := by decide
    rw [e]; rw [e'] at h3; omega
  · have e : (2 : Int) ^ ((7 : Int) + 6 - 8).toNat = 32 := by decide
    have e' : (2 : Int) ^ ((7 : Int)).toNat = 128 := by decide
    rw [e]; rw [e'] at h3; omega
theorem oct_less {held bits n : Int} (h0 : 0 ≤ bits) (h2 : 0 ≤ held) (h3 : held < 2 ^ bits.toNat) (h4 : 0 ≤ n) (h5 : n < 64) (h6 : ¬ 8 ≤ bits + 6) :
    0 ≤ held * 64 + n ∧ held * 64 + n < 2 ^ (bits + 6).toNat := by
  have hb : bits = 0 ∨ bits = 1 := by omega
  rcases hb with rfl | rfl
  · have e' : (2 : Int) ^ ((0 : Int)).toNat = 1 := by decide
    have e : (2 : Int) ^ ((0 : Int) + 6).toNat = 64 := by decide
    rw [e]; rw [e'] at h3; omega
  · have e' : (2 : Int) ^ ((1 : Int)).toNat = 2 := by decide
    have e : (2 : Int) ^ ((1 : Int) + 6).toNat = 128 := by decide
    rw [e]; rw [e'] at h3; omega
theorem drop_at {ns : List Int} {i : Nat} {n : Int} (h : ns[i]? = some n) : ns.drop i = n :: ns.drop (i + 1) := by
  obtain ⟨hi, e⟩ := List.getElem?_eq_some_iff.mp h
  rw [List.drop_eq_getElem_cons hi, e]
theorem octets_spec {prog : Program} {w : World} {A : Around} {s : Shared} {p : Program} {loose : List Str} {mg mb : Str → Option Value} {mean}
    (X : (Mine.hd.heap_1 w.params).In s.heap) (T : Top p loose mean mg mb s.heap) {R : Result → Shared → Prop} (hd : A.depth ≤ 500) (hh : A.handled = none)
    {l : Addr} {vs : List Value} {ns : List Int} (hl : s.heap.IsList l vs.toArray) (hi : IntsAre vs ns) (hb : ∀ n ∈ ns, 0 ≤ n ∧ n < 64) (hlen : ns.length ≤ 100)
    (hR : ∀ h' tk' tk'', s.heap.StaysIn h' → R (.ok (.ret (.bytes (byteArr (octGo 0 0 ns)) tk'))) { s with heap := h', toks := tk'' })
   : codeAny (model prog w) A (.call (.ref 196) ⟨[.ref l], []⟩) R s := by
  w_on
  refine' call_ret (binds := [(PySem.Str.ofString "row", Value.ref l)]) X T ?k6 ?k7 (by show A.depth < 1000; omega) ?k9 ?kB ?_ ?c2 ?c3 ?c4 ?c5
  walk_at "mine sides"
  intro L h₁ tk F N
  (try dsimp only)
  k_steps
  rename_i l1 h3 _ h2 h1 h0 F0 N0
  refine iter_list (fun i (st : OctSt) => st.out.size ≤ i ∧ 0 ≤ st.bits ∧ st.bits < 8 ∧ 0 ≤ st.held ∧ st.held < 2 ^ st.bits.toNat ∧ IntsAre st.out.toList st.outs ∧ (∀ o ∈ st.outs, 0 ≤ o ∧ o < 256) ∧ st.outs ++ octGo st.held st.bits (ns.drop i) = octGo 0 0 ns)
    (fun st => [(PySem.Str.ofString "octets", Value.ref l1), (PySem.Str.ofString "held", Value.int st.held st.th), (PySem.Str.ofString "bits", Value.int st.bits st.tb)])
    (fun st => [(l1, W.listOf st.out st.n)]) ⟨0, _, 0, _, #[], [], 0⟩ hh F0 N0 (fun h m' st F _ => hl.at fun o e => F.keep _ o e) ?_ ⟨rfl, rfl, rfl, trivial⟩ (fun p hp => hp) ?mT ?mD rfl rfl rfl
  · exact ⟨Nat.le_refl _, by show (0 : Int) ≤ 0; decide, by show (0 : Int) < 8; decide, by show (0 : Int) ≤ 0; decide, by show (0 : Int) < 2 ^ (0 : Int).toNat; decide, .nil, fun o ho => (nomatch ho), rfl⟩
  case mT =>
    intro i st v m' h tk It oi hIt hoi hv hI hne F N
    obtain ⟨hI1, hI2, hI3, hI4, hI5, hI6, hI7, hI8⟩ := hI
    obtain ⟨n, t, rfl, hn, hin⟩ := intsAre_at hi (by simpa using hv)
    have hIt' := ltN (hIt _ (.head _))
    have hz : st.out.size ≤ 100 := by omega
    have hn64 := hb n (List.mem_of_getElem? hn)
    rw [drop_at hn] at hI8
    k_steps
    · have ha : 8 ≤ st.bits + 6 := by assumption
      have q := oct_more hI2 hI3 hI4 hI5 hn64.1 hn64.2 ha
      (rename Fr _ _ _ _ => F9); (rename News _ _ _ _ => N9)
      refine TurnEnd.intro ⟨Int.fmod (st.held * 64 + n) (2 ^ (st.bits + 6 - 8).toNat), _, st.bits + 6 - 8, _, st.out.push (.int (Int.fdiv (st.held * 64 + n) (2 ^ (st.bits + 6 - 8).toNat)) _), st.outs ++ [Int.fdiv (st.held * 64 + n) (2 ^ (st.bits + 6 - 8).toNat)], st.n + 1⟩ F9 N9 ?mI ⟨rfl, rfl, rfl, trivial⟩ (ne_one hIt') (fun p hp => hp)
      case mI =>
        refine ⟨by rw [Array.size_push]; omega, q.1, q.2.1, q.2.2.1, q.2.2.2.1, by rw [Array.toList_push]; exact intsAre_snoc hI6 _ _, fun o ho => ?_, ?_⟩
        · rcases List.mem_append.mp ho with ho | ho
          · exact hI7 o ho
          · rw [List.mem_singleton.mp ho]; exact q.2.2.2.2
        · rw [octGo, if_pos ha] at hI8
          rw [List.append_assoc]; exact hI8
    · have ha : ¬ 8 ≤ st.bits + 6 := by assumption
      have q := oct_less hI2 hI4 hI5 hn64.1 hn64.2 ha
      (rename Fr _ _ _ _ => F9); (rename News _ _ _ _ => N9)
      refine TurnEnd.intro ⟨st.held * 64 + n, _, st.bits + 6, _, st.out, st.outs, st.n⟩ F9 N9 ?mI ⟨rfl, rfl, rfl, trivial⟩ (ne_one hIt') (fun p hp => hp)
      case mI =>
        refine ⟨by show st.out.size ≤ i + 1; omega, by show 0 ≤ st.bits + 6; omega, by show st.bits + 6 < 8; omega, q.1, q.2, hI6, hI7, ?_⟩
        rw [octGo, if_neg ha] at hI8
        exact hI8
  case mD =>
    intro st m' h tk hI F N
    obtain ⟨hI1, hI2, hI3, hI4, hI5, hI6, hI7, hI8⟩ := hI
    have hlv := IntsAre.length hi
    have e : ns.drop vs.toArray.size = [] := List.drop_eq_nil_of_le (by simp; omega)
    rw [e, octGo, List.append_nil] at hI8
    have hlo := IntsAre.length hI6
    have hsz : vs.toArray.size = vs.length := by simp
    k_steps
    refine bytes_K (vs := st.out.toList) F N ⟨_, (N _ (.head _)).1, rfl, _, rfl⟩ hI6 hI7 (by rw [sizeLine_eq]; simp; omega) hh fun h' t k F' N' _ => ?_
    rw [hI8]
    exact hR _ _ _ F'.keep
end
end
section
section
-- F9
set_option maxRecDepth 100000
set_option maxHeartbeats 0

structure B2St where
  out : Array Value
  n : Nat
  lb : Int
  lc : Int
  t1 : Tok
  t2 : Tok
theorem b64_item {prog : Program} {w : World} {A : Around} {E : Value → Shared → Prop} {s : Shared} {value slice : Expr} {ui ub : Tok} {b : Array UInt8} {e f : Int} {Q : Value → Shared → Prop} (hb : KBw.bInts b = b64L) (he : e = f) (h0 : 0 ≤ f) (h1 : f < 64)
    (h : ∀ t' k, Q (.int (b64C f) t') { s with toks := k })
    (hs : subscripted slice false (.bytes b ub) (.int e ui) = operate [.bytes b ub, .int e ui] (getItem (.bytes b ub) (.int e ui)) := by with_unfolding_all rfl)
    (ht : ∀ r, letTemporaryGo value (.bytes b ub) r = pure () := by intro _; with_unfolding_all rfl) : wpAny (model prog w) A (subscriptTail value slice (.bytes b ub) (.int e ui)) Q E s := by
  subst he
  exact KBw.item_K hb (by show (64 : Nat) ≤ _; decide) h0 (by show e < 64; exact h1) (fun t' k _ _ => h t' k) hs ht
def B2I (bs : List Int) (i : Nat) (st : B2St) : Prop := ∃ figs q, encRun (0, 0) (bs.take i) = (figs, q) ∧ IntsAre st.out.toList (figs.map b64C) ∧ st.lb = (q.1 : Int) ∧ (q.1 = 0 ∨ q.1 = 2 ∨ q.1 = 4) ∧ st.lc % 2 ^ q.1 = q.2 ∧ 0 ≤ st.lc ∧ st.lc < 65536 ∧ figs.length ≤ 2 * i
theorem bInts_at {b : Array UInt8} {i : Nat} {c : UInt8} (h : b[i]? = some c) : (KBw.bInts b)[i]? = some (c.toNat : Int) := by
  have : b.toList[i]? = some c := by simpa using h
  unfold KBw.bInts; rw [List.getElem?_map, this]; rfl
theorem take_one {α : Type} {l : List α} {i : Nat} {a : α} (h : l[i]? = some a) : l.take (i + 1) = l.take i ++ [a] := by rw [List.take_add_one, h]; rfl
theorem b2_turn1 {bs : List Int} {i : Nat} {c f : Int} {figs : List Int} {q q' : Nat × Int} {out : Array Value} {n' : Nat} {lb lc : Int} {t1 t2 tk : Tok} (hc : bs[i]? = some c) (h1 : encRun (0, 0) (bs.take i) = (figs, q)) (h2 : IntsAre out.toList (figs.map b64C)) (h3 : figs.length ≤ 2 * i)
    (hs : encStep q c = ([f], q')) (hlb : lb = (q'.1 : Int)) (hq : q'.1 = 0 ∨ q'.1 = 2 ∨ q'.1 = 4) (hl : lc % 2 ^ q'.1 = q'.2) (h0 : 0 ≤ lc) (h9 : lc < 65536) : B2I bs (i + 1) ⟨out.push (.int (b64C f) tk), n', lb, lc, t1, t2⟩ := by
  refine ⟨figs ++ [f], q', ?_, ?_, hlb, hq, hl, h0, h9, ?_⟩
  · rw [take_one hc, encRun_snoc, h1, hs]
  · rw [List.map_append, Array.toList_push]; exact intsAre_snoc h2 _ _
  · simp; omega
theorem b2_turn2 {bs : List Int} {i : Nat} {c f f' : Int} {figs : List Int} {q q' : Nat × Int} {out : Array Value} {n' : Nat} {lb lc : Int} {t1 t2 tk tk' : Tok} (hc : bs[i]? = some c) (h1 : encRun (0, 0) (bs.take i) = (figs, q)) (h2 : IntsAre out.toList (figs.map b64C)) (h3 : figs.length ≤ 2 * i)
    (hs : encStep q c = ([f, f'], q')) (hlb : lb = (q'.1 : Int)) (hq : q'.1 = 0 ∨ q'.1 = 2 ∨ q'.1 = 4) (hl : lc % 2 ^ q'.1 = q'.2) (h0 : 0 ≤ lc) (h9 : lc < 65536) : B2I bs (i + 1) ⟨(out.push (.int (b64C f) tk)).push (.int (b64C f') tk'), n', lb, lc, t1, t2⟩ := by
  refine ⟨figs ++ [f, f'], q', ?_, ?_, hlb, hq, hl, h0, h9, ?_⟩
  · rw [take_one hc, encRun_snoc, h1, hs]
  · rw [List.map_append, Array.toList_push, Array.toList_push]; 
    have := intsAre_snoc (intsAre_snoc h2 (b64C f) tk) (b64C f') tk'
    simpa using this
  · simp; omega
theorem ints_push2 {out : Array Value} {ns : List Int} {a b : Int} {ta tb : Tok} (h : IntsAre out.toList ns) : IntsAre ((out.push (.int a ta)).push (.int b tb)).toList (ns ++ [a, b]) := by
  have := intsAre_snoc (intsAre_snoc h a ta) b tb
  simpa using this
theorem ints_push3 {out : Array Value} {ns : List Int} {a b c : Int} {ta tb tc : Tok} (h : IntsAre out.toList ns) : IntsAre (((out.push (.int a ta)).push (.int b tb)).push (.int c tc)).toList (ns ++ [a, b, c]) := by
  have := intsAre_snoc (intsAre_snoc (intsAre_snoc h a ta) b tb) c tc
  simpa using this
def encB (b : Array UInt8) : List Int := let r := encRun (0, 0) (KBw.bInts b); (r.1 ++ encEnd r.2).map b64C ++ List.replicate (encPad r.2.1) 61
theorem b64C_byte (f : Int) : 0 ≤ b64C f ∧ b64C f < 256 := by
  unfold b64C
  have h : ∀ x ∈ b64L, 0 ≤ x ∧ x < 256 := by decide
  by_cases hf : f.toNat < b64L.length
  · rw [List.getD_eq_getElem?_getD, List.getElem?_eq_getElem hf]; exact h _ (List.getElem_mem hf)
  · rw [List.getD_eq_getElem?_getD, List.getElem?_eq_none (by omega)]; decide
theorem encB_byte (b : Array UInt8) : ∀ n ∈ encB b, 0 ≤ n ∧ n < 256 := by
  intro n hn
  rcases List.mem_append.mp hn with h | h
  · obtain ⟨f, _, rfl⟩ := List.mem_map.mp h; exact b64C_byte f
  · rw [List.eq_of_mem_replicate h]; decide
theorem b2a_spec {prog : Program} {w : World} {A : Around} {s : Shared} {p : Program} {loose : List Str} {mg mb : Str → Option Value} {mean}
    (X : (Mine.hd.heap_1 w.params).In s.heap) (T : Top p loose mean mg mb s.heap) {R : Result → Shared → Prop} (hd : A.depth ≤ 490) (hh : A.handled = none)
    {b : Array UInt8} {t : Tok} (hb : b.size ≤ 100)
    (hR : ∀ h' tk' tk'', s.heap.StaysIn h' → R (.ok (.ret (.bytes (byteArr (encB b)) tk'))) { s with heap := h', toks := tk'' })
   : codeAny (model prog w) A (.call (.ref 166) ⟨[.bytes b t], [(PySem.Str.ofString "newline", .bool false)]⟩) R s := by
  w_on
  refine' call_ret (binds := [(PySem.Str.ofString "data", Value.bytes b t), (PySem.Str.ofString "newline", Value.bool false)]) X T ?k6 ?k7 (by show A.depth < 1000; omega) ?k9 ?kB ?_ ?c2 ?c3 ?c4 ?c5
  walk_at "mine sides"
  intro L h₁ tk F N
  (try dsimp only)
  k_steps
  refine wpAny_call (buffer_spec (X.keeps F.keep) (T.keeps F.keep) (by show A.depth + 1 ≤ 500; omega) (by exact hh) ?_)
  intro h2 tk2 k2
  walk_at "mine stay"
  k_steps
  (rename Fr _ _ _ _ => F2)
  refine wpAny_call (truth_spec (X.keeps F2.keep) (T.keeps F2.keep) (by show A.depth + 1 ≤ 500; omega) (by exact hh) ?_)
  intro h3 tk3 k3
  walk_at "mine stay"
  k_steps
  (rename Fr _ _ _ _ => F0); (rename News _ _ _ _ => N0)
  (rename Addr => l1)
  refine iter_bytes (B2I (KBw.bInts b))
    (fun st => [(PySem.Str.ofString "out", Value.ref l1), (PySem.Str.ofString "leftbits", Value.int st.lb st.t1), (PySem.Str.ofString "leftchar", Value.int st.lc st.t2), (PySem.Str.ofString "newline", Value.bool false)])
    (fun st => [(l1, W.listOf st.out st.n)]) ⟨#[], 0, 0, 0, _, _⟩ hh F0 N0 ?_ ⟨rfl, rfl, rfl, rfl, trivial⟩ (fun p hp => hp) ?mT ?mD rfl rfl rfl
  · exact ⟨[], (0, 0), rfl, .nil, rfl, .inl rfl, rfl, Int.le_refl _, by show (0 : Int) < 65536; decide, Nat.le_refl _⟩
  case mT =>
    intro i st c u m' h tk It oi hIt hv hI hne F N
    obtain ⟨out, n, lb, lc, t1, t2⟩ := st
    obtain ⟨figs, ⟨q1, q2⟩, hI1, hI2, hI3, hI4, hI5, hI6, hI7, hI8⟩ := hI
    dsimp only at hI2 hI3 hI4 hI5 hI6 hI7 F N
    have hIt' := ltN (hIt _ (.head _))
    have hi : i < b.size := by
      rcases Nat.lt_or_ge i b.size with q | q
      · exact q
      · rw [Array.getElem?_eq_none q] at hv; cases hv
    have hc := bInts_at hv
    have hlen := IntsAre.length hI2
    have hz : out.size ≤ 200 := by simp at hlen; omega
    have hc0 : (0 : Int) ≤ (c.toNat : Int) := by omega
    have hc1 : (c.toNat : Int) < 256 := by have := c.toNat_lt; omega
    rcases hI4 with rfl | rfl | rfl
    · replace hI3 : lb = 0 := hI3
      subst hI3
      k_steps
      refine b64_item (f := (c.toNat : Int) / 4) rfl ?_ (by omega) (by omega) ?_
      · rw [enc_lc hI6 hc0 hc1, bitAnd_m6, Int.fdiv_eq_ediv_of_nonneg _ (by decide)]
        show ((lc * 256 + (c.toNat : Int)) % 65536 / 4) % 64 = _
        omega
      intro t' k
      k_steps
      (rename Fr _ _ _ _ => F9); (rename News _ _ _ _ => N9)
      refine TurnEnd.intro ⟨out.push (.int (b64C ((c.toNat : Int) / 4)) _), n + 1, 2, Builtin.bitAnd (Builtin.bitOr (lc * 2 ^ Int.toNat 8) (c.toNat : Int)) 65535, _, _⟩ F9 N9 ?_ ⟨rfl, rfl, rfl, rfl, trivial⟩ (ne_one hIt') (fun p hp => hp)
      refine b2_turn1 hc hI1 hI2 hI8 (q' := (2, (c.toNat : Int) % 4)) rfl rfl (.inr (.inl rfl)) ?_ ?_ ?_
      all_goals rw [enc_lc hI6 hc0 hc1]
      · show _ % 4 = (c.toNat : Int) % 4; omega
      · omega
      · omega
    · replace hI3 : lb = 2 := hI3
      subst hI3
      replace hI5 : lc % 4 = q2 := hI5
      k_steps
      refine b64_item (f := q2 * 16 + (c.toNat : Int) / 16) rfl ?_ (by omega) (by omega) ?_
      · rw [enc_lc hI6 hc0 hc1, bitAnd_m6, Int.fdiv_eq_ediv_of_nonneg _ (by decide)]
        show ((lc * 256 + (c.toNat : Int)) % 65536 / 16) % 64 = _
        omega
      intro t' k
      k_steps
      (rename Fr _ _ _ _ => F9); (rename News _ _ _ _ => N9)
      refine TurnEnd.intro ⟨out.push (.int (b64C (q2 * 16 + (c.toNat : Int) / 16)) _), n + 1, 4, Builtin.bitAnd (Builtin.bitOr (lc * 2 ^ Int.toNat 8) (c.toNat : Int)) 65535, _, _⟩ F9 N9 ?_ ⟨rfl, rfl, rfl, rfl, trivial⟩ (ne_one hIt') (fun p hp => hp)
      refine b2_turn1 hc hI1 hI2 hI8 (q' := (4, (c.toNat : Int) % 16)) rfl rfl (.inr (.inr rfl)) ?_ ?_ ?_
      all_goals rw [enc_lc hI6 hc0 hc1]
      · show _ % 16 = (c.toNat : Int) % 16; omega
      · omega
      · omega
    · replace hI3 : lb = 4 := hI3
      subst hI3
      replace hI5 : lc % 16 = q2 := hI5
      k_steps
      refine b64_item (f := q2 * 4 + (c.toNat : Int) / 64) rfl ?_ (by omega) (by omega) ?_
      · rw [enc_lc hI6 hc0 hc1, bitAnd_m6, Int.fdiv_eq_ediv_of_nonneg _ (by decide)]
        show ((lc * 256 + (c.toNat : Int)) % 65536 / 64) % 64 = _
        omega
      intro t' k
      k_steps
      refine b64_item (f := (c.toNat : Int) % 64) rfl ?_ (by omega) (by omega) ?_
      · rw [enc_lc hI6 hc0 hc1, bitAnd_m6, Int.fdiv_eq_ediv_of_nonneg _ (by decide)]
        show ((lc * 256 + (c.toNat : Int)) % 65536 / 1) % 64 = _
        omega
      intro t'' k''
      k_steps
      (rename Fr _ _ _ _ => F9); (rename News _ _ _ _ => N9)
      refine TurnEnd.intro ⟨(out.push (.int (b64C (q2 * 4 + (c.toNat : Int) / 64)) _)).push (.int (b64C ((c.toNat : Int) % 64)) _), n + 1 + 1, 0, Builtin.bitAnd (Builtin.bitOr (lc * 2 ^ Int.toNat 8) (c.toNat : Int)) 65535, _, _⟩ F9 N9 ?_ ⟨rfl, rfl, rfl, rfl, trivial⟩ (ne_one hIt') (fun p hp => hp)
      refine b2_turn2 hc hI1 hI2 hI8 (q' := (0, 0)) rfl rfl (.inl rfl) ?_ ?_ ?_
      all_goals rw [enc_lc hI6 hc0 hc1]
      · show _ % 1 = (0 : Int); omega
      · omega
      · omega
  case mD =>
    intro st m' h tk hI F N
    obtain ⟨out, n, lb, lc, t1, t2⟩ := st
    obtain ⟨figs, ⟨q1, q2⟩, hI1, hI2, hI3, hI4, hI5, hI6, hI7, hI8⟩ := hI
    have hbs : (KBw.bInts b).take b.size = KBw.bInts b := List.take_of_length_le (by simp [KBw.bInts])
    rw [hbs] at hI1
    dsimp only at hI2 hI3 hI4 hI5 hI6 hI7 F N
    have hlen := IntsAre.length hI2
    have hz : out.size ≤ 200 := by simp at hlen; omega
    have hB := encB_byte b
    rcases hI4 with rfl | rfl | rfl
    · replace hI3 : lb = 0 := hI3
      subst hI3
      have eB : encB b = figs.map b64C := by unfold encB; rw [hI1]; simp [encEnd, encPad]
      rw [eB] at hB hR
      k_steps
      (rename Fr _ _ _ _ => F9); (rename News _ _ _ _ => N9)
      refine bytes_K (vs := out.toList) F9 N9 ⟨_, (N9 _ (.head _)).1, rfl, _, rfl⟩ hI2 hB (by rw [sizeLine_eq]; simp; omega) hh fun h' t k F' N' _ => ?_
      exact hR _ _ _ F'.keep
    · replace hI3 : lb = 2 := hI3
      subst hI3
      replace hI5 : lc % 4 = q2 := hI5
      have eB : encB b = figs.map b64C ++ [b64C (q2 * 16), 61, 61] := by unfold encB; rw [hI1]; simp [encEnd, encPad, List.replicate]
      rw [eB] at hB hR
      have hq2 : Builtin.bitAnd lc 3 = q2 := by rw [bitAnd_m2]; exact hI5
      k_steps
      rw [hq2]
      k_steps
      refine b64_item (f := q2 * 16) rfl ?_ (by omega) (by omega) ?_
      · rfl
      intro t' k
      k_steps
      (rename Fr _ _ _ _ => F9); (rename News _ _ _ _ => N9)
      refine bytes_K (vs := (((out.push (.int (b64C (q2 * 16)) _)).push (.int 61 _)).push (.int 61 _)).toList) F9 N9 ⟨_, (N9 _ (.head _)).1, rfl, _, rfl⟩ ?_ hB (by rw [sizeLine_eq]; simp; omega) hh fun h' t k F' N' _ => ?_
      · exact ints_push3 hI2
      · exact hR _ _ _ F'.keep
    · replace hI3 : lb = 4 := hI3
      subst hI3
      replace hI5 : lc % 16 = q2 := hI5
      have eB : encB b = figs.map b64C ++ [b64C (q2 * 4), 61] := by unfold encB; rw [hI1]; simp [encEnd, encPad, List.replicate]
      rw [eB] at hB hR
      have hq2 : Builtin.bitAnd lc 15 = q2 := by rw [bitAnd_m4]; exact hI5
      k_steps
      rw [hq2]
      k_steps
      refine b64_item (f := q2 * 4) rfl ?_ (by omega) (by omega) ?_
      · rfl
      intro t' k
      k_steps
      (rename Fr _ _ _ _ => F9); (rename News _ _ _ _ => N9)
      refine bytes_K (vs := ((out.push (.int (b64C (q2 * 4)) _)).push (.int 61 _)).toList) F9 N9 ⟨_, (N9 _ (.head _)).1, rfl, _, rfl⟩ ?_ hB (by rw [sizeLine_eq]; simp; omega) hh fun h' t k F' N' _ => ?_
      · exact ints_push2 hI2
      · exact hR _ _ _ F'.keep
end
end
section
local macro_rules | `(tactic| omega) => `(tactic| lia)
section
-- F10
set_option maxRecDepth 100000
set_option maxHeartbeats 0

theorem b64enc_spec {prog : Program} {w : World} {A : Around} {s : Shared} {p : Program} {loose : List Str} {mg mb : Str → Option Value} {mean}
    (X : (Mine.hd.heap_1 w.params).In s.heap) (T : Top p loose mean mg mb s.heap) {R : Result → Shared → Prop} (hd : A.depth ≤ 480) (hh : A.handled = none)
    {b : Array UInt8} {t : Tok} (hb : b.size ≤ 100) {k0 k1 : UInt8} {t' : Tok} (hz : (byteArr (encB b)).size ≤ 1000000)
    (hR : ∀ h' tk' tk'', s.heap.StaysIn h' → R (.ok (.ret (.bytes (trB (tbl 43 47 k0 k1) (byteArr (encB b))) tk'))) { s with heap := h', toks := tk'' })
   : codeAny (model prog w) A (.call (.ref 174) ⟨[.bytes b t, .bytes #[k0, k1] t'], []⟩) R s := by
  w_on
  refine' call_ret (binds := [(PySem.Str.ofString "s", Value.bytes b t), (PySem.Str.ofString "altchars", Value.bytes #[k0, k1] t')]) X T ?k6 ?k7 (by show A.depth < 1000; omega) ?k9 ?kB ?_ ?c2 ?c3 ?c4 ?c5
  walk_at "mine sides"
  intro L h₁ tk F N
  (try dsimp only)
  k_steps
  refine wpAny_call (b2a_spec (X.keeps F.keep) (T.keeps F.keep) (by show A.depth + 1 ≤ 490; omega) (by exact hh) hb ?_)
  intro h2 tk1 tk2 k2
  walk_at "mine stay"
  k_steps
  all_goals ((rename _ = tbl _ _ _ _ => hTe); subst hTe; (rename Fr _ _ _ _ => F9); exact hR _ _ _ F9.keep)
end
section
-- F8
set_option maxRecDepth 100000
set_option maxHeartbeats 0

theorem fromdec_spec {prog : Program} {w : World} {A : Around} {s : Shared} {p : Program} {loose : List Str} {mg mb : Str → Option Value} {mean}
    (X : (Mine.hd.heap_1 w.params).In s.heap) (T : Top p loose mean mg mb s.heap) {R : Result → Shared → Prop} (hd : A.depth ≤ 500) (hh : A.handled = none)
    {x : PySem.Str} {t : Tok} (hx : ∀ c ∈ x.cps.toList, c < 128) (hsz : x.cps.size ≤ 1000000)
    (hR : ∀ h' tk tk'', s.heap.StaysIn h' → R (.ok (.ret (.bytes (x.cps.map (·.toUInt8)) tk))) { s with heap := h', toks := tk'' })
   : codeAny (model prog w) A (.call (.ref 109) ⟨[.str x t], []⟩) R s := by
  w_on
  refine' call_ret (binds := [(PySem.Str.ofString "s", Value.str x t)]) X T ?k6 ?k7 (by show A.depth < 1000; omega) ?k9 ?kB ?_ ?c2 ?c3 ?c4 ?c5
  walk_at "mine sides"
  intro L h₁ tk F N
  (try dsimp only)
  k_steps
  all_goals ((rename Fr _ _ _ _ => F9); exact hR _ _ _ F9.keep)
theorem fromdecb_spec {prog : Program} {w : World} {A : Around} {s : Shared} {p : Program} {loose : List Str} {mg mb : Str → Option Value} {mean}
    (X : (Mine.hd.heap_1 w.params).In s.heap) (T : Top p loose mean mg mb s.heap) {R : Result → Shared → Prop} (hd : A.depth ≤ 500) (hh : A.handled = none)
    {b : Array UInt8} {t : Tok}
    (hR : ∀ h' tk'', s.heap.StaysIn h' → R (.ok (.ret (.bytes b t))) { s with heap := h', toks := tk'' })
   : codeAny (model prog w) A (.call (.ref 109) ⟨[.bytes b t], []⟩) R s := by
  w_on
  refine' call_ret (binds := [(PySem.Str.ofString "s", Value.bytes b t)]) X T ?k6 ?k7 (by show A.depth < 1000; omega) ?k9 ?kB ?_ ?c2 ?c3 ?c4 ?c5
  walk_at "mine sides"
  intro L h₁ tk F N
  (try dsimp only)
  k_steps
  all_goals ((rename Fr _ _ _ _ => F9); exact hR _ _ F9.keep)
end
section
-- F11
set_option maxRecDepth 100000
set_option maxHeartbeats 0

structure A2St where
  out : Array Value
  n : Nat
  q : Int
  lc : Int
  pd : Int
  i : Int
  t1 : Tok
  t2 : Tok
  t3 : Tok
  t4 : Tok
def decStep (st : Int × Int × Int) (c : Int) : List Int × (Int × Int × Int) :=
  if c = 61 then ([], (st.1, st.2.1, st.2.2 + 1)) else
  if 64 ≤ b64V c then ([], st) else
  if st.1 = 0 then ([], (1, b64V c, 0)) else
  if st.1 = 1 then ([st.2.1 * 4 + b64V c / 16], (2, b64V c % 16, 0)) else
  if st.1 = 2 then ([st.2.1 * 16 + b64V c / 4], (3, b64V c % 4, 0)) else
  ([st.2.1 * 64 + b64V c], (0, 0, 0))
def decRun : Int × Int × Int → List Int → List Int × (Int × Int × Int)
  | q, [] => ([], q)
  | q, b :: r => ((decStep q b).1 ++ (decRun (decStep q b).2 r).1, (decRun (decStep q b).2 r).2)
theorem decRun_snoc : ∀ (l : List Int) (q : Int × Int × Int) (b : Int), decRun q (l ++ [b]) = ((decRun q l).1 ++ (decStep (decRun q l).2 b).1, (decStep (decRun q l).2 b).2)
  | [], q, b => by simp [decRun]
  | a :: r, q, b => by
    have ih := decRun_snoc r (decStep q a).2 b
    rw [List.cons_append, decRun, ih]
    simp [decRun, List.append_assoc]
def A2B (q lc : Int) : Prop := (q = 0 ∧ lc = 0) ∨ (q = 1 ∧ 0 ≤ lc ∧ lc < 64) ∨ (q = 2 ∧ 0 ≤ lc ∧ lc < 16) ∨ (q = 3 ∧ 0 ≤ lc ∧ lc < 4)
def A2I (bs : List Int) (i : Nat) (st : A2St) : Prop := ∃ outs, decRun (0, 0, 0) (bs.take i) = (outs, (st.q, st.lc, st.pd)) ∧ IntsAre st.out.toList outs ∧ (∀ o ∈ outs, 0 ≤ o ∧ o < 256) ∧ A2B st.q st.lc ∧ 0 ≤ st.pd ∧ st.pd ≤ i ∧ outs.length ≤ i ∧ 0 ≤ st.i ∧ st.i ≤ i
theorem b64V_in (c : Int) : 0 ≤ b64V c ∧ b64V c ≤ 64 := by unfold b64V; repeat' split
                                                           all_goals omega
theorem a2_turn0 {bs : List Int} {i : Nat} {c : Int} {outs : List Int} {out : Array Value} {n' : Nat} {q lc pd q' lc' pd' j' : Int} {t1 t2 t3 t4 : Tok} (hc : bs[i]? = some c) (h1 : decRun (0, 0, 0) (bs.take i) = (outs, (q, lc, pd))) (h2 : IntsAre out.toList outs) (h3 : ∀ o ∈ outs, 0 ≤ o ∧ o < 256) (h4 : outs.length ≤ i)
    (hs : decStep (q, lc, pd) c = ([], (q', lc', pd'))) (hq : A2B q' lc') (hp : 0 ≤ pd' ∧ pd' ≤ ((i + 1 : Nat) : Int)) (hj : 0 ≤ j' ∧ j' ≤ ((i + 1 : Nat) : Int)) : A2I bs (i + 1) ⟨out, n', q', lc', pd', j', t1, t2, t3, t4⟩ := by
  refine ⟨outs, ?_, h2, h3, hq, hp.1, hp.2, by omega, hj.1, hj.2⟩
  rw [take_one hc, decRun_snoc, h1, hs, List.append_nil]
theorem a2_turn1 {bs : List Int} {i : Nat} {c o : Int} {outs : List Int} {out : Array Value} {n' : Nat} {q lc pd q' lc' pd' j' : Int} {tk t1 t2 t3 t4 : Tok} (hc : bs[i]? = some c) (h1 : decRun (0, 0, 0) (bs.take i) = (outs, (q, lc, pd))) (h2 : IntsAre out.toList outs) (h3 : ∀ o ∈ outs, 0 ≤ o ∧ o < 256) (h4 : outs.length ≤ i)
    (hs : decStep (q, lc, pd) c = ([o], (q', lc', pd'))) (ho : 0 ≤ o ∧ o < 256) (hq : A2B q' lc') (hp : 0 ≤ pd' ∧ pd' ≤ ((i + 1 : Nat) : Int)) (hj : 0 ≤ j' ∧ j' ≤ ((i + 1 : Nat) : Int)) : A2I bs (i + 1) ⟨out.push (.int o tk), n', q', lc', pd', j', t1, t2, t3, t4⟩ := by
  refine ⟨outs ++ [o], ?_, ?_, ?_, hq, hp.1, hp.2, by simp; omega, hj.1, hj.2⟩
  · rw [take_one hc, decRun_snoc, h1, hs]
  · rw [Array.toList_push]; exact intsAre_snoc h2 _ _
  · intro x hx
    rcases List.mem_append.mp hx with h | h
    · exact h3 x h
    · rw [List.mem_singleton.mp h]; exact ho
theorem or_2 {lc v : Int} (h0 : 0 ≤ lc) (hv0 : 0 ≤ v) (hv1 : v < 64) : Builtin.bitOr (lc * 2 ^ Int.toNat 2) (v.fdiv (2 ^ Int.toNat 4)) = lc * 4 + v / 16 := by
  have e : v.fdiv (2 ^ Int.toNat 4) = v / 16 := by rw [Int.fdiv_eq_ediv_of_nonneg _ (by decide)]; rfl
  rw [e, bor_low (Int.toNat 2) h0 (by omega) (by show v / 16 < 4; omega)]; rfl
theorem or_4 {lc v : Int} (h0 : 0 ≤ lc) (hv0 : 0 ≤ v) (hv1 : v < 64) : Builtin.bitOr (lc * 2 ^ Int.toNat 4) (v.fdiv (2 ^ Int.toNat 2)) = lc * 16 + v / 4 := by
  have e : v.fdiv (2 ^ Int.toNat 2) = v / 4 := by rw [Int.fdiv_eq_ediv_of_nonneg _ (by decide)]; rfl
  rw [e, bor_low (Int.toNat 4) h0 (by omega) (by show v / 4 < 16; omega)]; rfl
theorem or_6 {lc v : Int} (h0 : 0 ≤ lc) (hv0 : 0 ≤ v) (hv1 : v < 64) : Builtin.bitOr (lc * 2 ^ Int.toNat 6) v = lc * 64 + v := by
  rw [bor_low (Int.toNat 6) h0 hv0 (by show v < 64; omega)]; rfl
theorem dec_hi {q lc pd c v : Int} (hc : c ≠ 61) (hv : v = b64V c) (h : 64 ≤ v) : decStep (q, lc, pd) c = ([], (q, lc, pd)) := by
  unfold decStep; rw [if_neg hc, ← hv, if_pos h]
theorem dec_0 {q lc pd c v : Int} (hc : c ≠ 61) (hv : v = b64V c) (h : ¬ 64 ≤ v) (hq : q = 0) : decStep (q, lc, pd) c = ([], (1, v, 0)) := by
  unfold decStep; rw [if_neg hc, ← hv, if_neg h, if_pos hq]
theorem dec_1 {q lc pd c v : Int} (hc : c ≠ 61) (hv : v = b64V c) (h : ¬ 64 ≤ v) (hv0 : 0 ≤ v) (h0 : 0 ≤ lc) (hq : q = 1) : decStep (q, lc, pd) c = ([Builtin.bitOr (lc * 2 ^ Int.toNat 2) (v.fdiv (2 ^ Int.toNat 4))], (2, Builtin.bitAnd v 15, 0)) := by
  rw [or_2 h0 hv0 (by omega), bitAnd_m4]
  unfold decStep; rw [if_neg hc, ← hv, if_neg h, if_neg (by show ¬ q = 0; omega), if_pos hq]
theorem dec_2 {q lc pd c v : Int} (hc : c ≠ 61) (hv : v = b64V c) (h : ¬ 64 ≤ v) (hv0 : 0 ≤ v) (h0 : 0 ≤ lc) (hq : q = 2) : decStep (q, lc, pd) c = ([Builtin.bitOr (lc * 2 ^ Int.toNat 4) (v.fdiv (2 ^ Int.toNat 2))], (3, Builtin.bitAnd v 3, 0)) := by
  rw [or_4 h0 hv0 (by omega), bitAnd_m2]
  unfold decStep; rw [if_neg hc, ← hv, if_neg h, if_neg (by show ¬ q = 0; omega), if_neg (by show ¬ q = 1; omega), if_pos hq]
theorem dec_3 {q lc pd c v : Int} (hc : c ≠ 61) (hv : v = b64V c) (h : ¬ 64 ≤ v) (hv0 : 0 ≤ v) (h0 : 0 ≤ lc) (h1 : q ≠ 0) (h2 : q ≠ 1) (h3 : q ≠ 2) : decStep (q, lc, pd) c = ([Builtin.bitOr (lc * 2 ^ Int.toNat 6) v], (0, 0, 0)) := by
  rw [or_6 h0 hv0 (by omega)]
  unfold decStep; rw [if_neg hc, ← hv, if_neg h, if_neg h1, if_neg h2, if_neg h3]
def decBad (r : Int × Int × Int) : Prop := r.1 = 1 ∨ (r.1 ≠ 0 ∧ r.1 + r.2.2 < 4)
theorem a2b_spec {prog : Program} {w : World} {A : Around} {s : Shared} {p : Program} {loose : List Str} {mg mb : Str → Option Value} {mean}
    (X : (Mine.hd.heap_1 w.params).In s.heap) (T : Top p loose mean mg mb s.heap) {R : Result → Shared → Prop} (hd : A.depth ≤ 490) (hh : A.handled = none)
    {base : Heap} {outer : List Env} (B : Below A base outer s.heap) {b : Array UInt8} {t : Tok} (hb : b.size ≤ 200) (hRe : ∀ e t vs news h' tk, decBad (decRun (0, 0, 0) (KBw.bInts b)).2 → RaisedS base s.heap outer e (.ref 119) t vs news h' → s.heap.UpToSlots h' → R (.error (.ref e)) { s with heap := h', toks := tk })
    (hR : ∀ h' tk' tk'', ¬ decBad (decRun (0, 0, 0) (KBw.bInts b)).2 → s.heap.StaysIn h' → R (.ok (.ret (.bytes (byteArr (decRun (0, 0, 0) (KBw.bInts b)).1) tk'))) { s with heap := h', toks := tk'' })
   : codeAny (model prog w) A (.call (.ref 158) ⟨[.bytes b t], [(PySem.Str.ofString "strict_mode", .bool false)]⟩) R s := by
  w_on
  refine' call_any (binds := [(PySem.Str.ofString "data", Value.bytes b t), (PySem.Str.ofString "strict_mode", Value.bool false)]) X T ?k6 ?k7 (by show A.depth < 1000; omega) ?k9 ?kB ?_ ?c2 ?c3 ?c4 ?c5
  walk_at "mine sides"
  intro L h₁ tk F N
  (try dsimp only)
  k_steps
  refine wpAny_call (abuffer_spec (X.keeps F.keep) (T.keeps F.keep) (by show A.depth + 1 ≤ 500; omega) (by exact hh) ?_)
  intro h2 tk2 k2
  walk_at "mine stay"
  k_steps
  (rename Fr _ _ _ _ => F2)
  refine wpAny_call (truth_spec (X.keeps F2.keep) (T.keeps F2.keep) (by show A.depth + 1 ≤ 500; omega) (by exact hh) ?_)
  intro h3 tk3 k3
  walk_at "mine stay"
  k_steps
  (rename Fr _ _ _ _ => F0); (rename News _ _ _ _ => N0)
  (rename Addr => l1)
  refine iter_bytes (A2I (KBw.bInts b))
    (fun st => [(PySem.Str.ofString "out", Value.ref l1), (PySem.Str.ofString "quad_pos", Value.int st.q st.t1), (PySem.Str.ofString "leftchar", Value.int st.lc st.t2), (PySem.Str.ofString "pads", Value.int st.pd st.t3), (PySem.Str.ofString "i", Value.int st.i st.t4), (PySem.Str.ofString "strict_mode", Value.bool false)])
    (fun st => [(l1, W.listOf st.out st.n)]) ⟨#[], 0, 0, 0, 0, 0, _, _, _, _⟩ hh F0 N0 ?_ ⟨rfl, rfl, rfl, rfl, rfl, rfl, trivial⟩ (fun p hp => hp) ?mT ?mD rfl rfl rfl
  · exact ⟨[], rfl, .nil, (fun _ h => nomatch h), .inl ⟨rfl, rfl⟩, Int.le_refl _, Int.le_refl _, Nat.le_refl _, Int.le_refl _, Int.le_refl _⟩
  case mT =>
    intro i st c u m' h tk It oi hIt hv hI hne F N
    obtain ⟨out, n, q, lc, pd, j, t1, t2, t3, t4⟩ := st
    obtain ⟨outs, hI1, hI2, hI3, hI4, hI5, hI6, hI7, hI8, hI9⟩ := hI
    dsimp only at hI1 hI2 hI4 hI5 hI6 hI8 hI9 F N
    have hIt' := ltN (hIt _ (.head _))
    have hi : i < b.size := by
      rcases Nat.lt_or_ge i b.size with q | q
      · exact q
      · rw [Array.getElem?_eq_none q] at hv; cases hv
    have hc := bInts_at hv
    have hlen := IntsAre.length hI2
    have hz : out.size ≤ 200 := by simp at hlen; omega
    have hc0 : (0 : Int) ≤ (c.toNat : Int) := by omega
    have hc1 : (c.toNat : Int) < 256 := by have := c.toNat_lt; omega
    have hlc : 0 ≤ lc ∧ lc < 64 := by unfold A2B at hI4; omega
    have hq3 : 0 ≤ q ∧ q ≤ 3 := by unfold A2B at hI4; omega
    k_steps
    · have hc61 : (c.toNat : Int) = 61 := by assumption
      (rename Fr _ _ _ _ => F9); (rename News _ _ _ _ => N9)
      refine TurnEnd.intro ⟨out, n, q, lc, pd + 1, j + 1, _, _, _, _⟩ F9 N9 ?_ ⟨rfl, rfl, rfl, rfl, rfl, rfl, trivial⟩ (ne_one hIt') (fun p hp => hp)
      exact a2_turn0 hc hI1 hI2 hI3 hI7 (by unfold decStep; rw [if_pos hc61]) hI4 (by omega) (by omega)
    · have hc61 : (c.toNat : Int) = 61 := by assumption
      (rename Fr _ _ _ _ => F9); (rename News _ _ _ _ => N9)
      refine TurnEnd.intro ⟨out, n, q, lc, pd + 1, j + 1, _, _, _, _⟩ F9 N9 ?_ ⟨rfl, rfl, rfl, rfl, rfl, rfl, trivial⟩ (ne_one hIt') (fun p hp => hp)
      exact a2_turn0 hc hI1 hI2 hI3 hI7 (by unfold decStep; rw [if_pos hc61]) hI4 (by omega) (by omega)
    · have hc61 : (c.toNat : Int) = 61 := by assumption
      (rename Fr _ _ _ _ => F9); (rename News _ _ _ _ => N9)
      refine TurnEnd.intro ⟨out, n, q, lc, pd + 1, j + 1, _, _, _, _⟩ F9 N9 ?_ ⟨rfl, rfl, rfl, rfl, rfl, rfl, trivial⟩ (ne_one hIt') (fun p hp => hp)
      exact a2_turn0 hc hI1 hI2 hI3 hI7 (by unfold decStep; rw [if_pos hc61]) hI4 (by omega) (by omega)
    · have hc61 : (c.toNat : Int) ≠ 61 := by assumption
      (rename Fr _ _ _ _ => F4)
      refine wpAny_call (b64v_spec (X.keeps F4.keep) (T.keeps F4.keep) (by show A.depth + 1 ≤ 500; omega) (by exact hh) ?_)
      intro v h4 tk4 tk4' hv4 k4
      walk_at "mine stay"
      have hv5 := b64V_in (c.toNat : Int)
      rw [← hv4] at hv5
      k_steps
      · have hge : 64 ≤ v := by assumption
        (rename Fr _ _ _ _ => F9); (rename News _ _ _ _ => N9)
        refine TurnEnd.intro ⟨out, n, q, lc, pd, j + 1, _, _, _, _⟩ F9 N9 ?_ ⟨rfl, rfl, rfl, rfl, rfl, rfl, trivial⟩ (ne_one hIt') (fun p hp => hp)
        exact a2_turn0 hc hI1 hI2 hI3 hI7 (dec_hi hc61 hv4 hge) hI4 (by omega) (by omega)
      · have hlt : ¬ 64 ≤ v := by assumption
        have hq : q = 0 := by assumption
        (rename Fr _ _ _ _ => F9); (rename News _ _ _ _ => N9)
        refine TurnEnd.intro ⟨out, n, 1, v, 0, j + 1, _, _, _, _⟩ F9 N9 ?_ ⟨rfl, rfl, rfl, rfl, rfl, rfl, trivial⟩ (ne_one hIt') (fun p hp => hp)
        exact a2_turn0 hc hI1 hI2 hI3 hI7 (dec_0 hc61 hv4 hlt hq) (.inr (.inl ⟨rfl, hv5.1, by omega⟩)) (by omega) (by omega)
      · have hlt : ¬ 64 ≤ v := by assumption
        have hq : q = 1 := by assumption
        (rename Fr _ _ _ _ => F9); (rename News _ _ _ _ => N9)
        refine TurnEnd.intro ⟨out.push (.int (Builtin.bitOr (lc * 2 ^ Int.toNat 2) (v.fdiv (2 ^ Int.toNat 4))) _), n + 1, 2, Builtin.bitAnd v 15, 0, j + 1, _, _, _, _⟩ F9 N9 ?_ ⟨rfl, rfl, rfl, rfl, rfl, rfl, trivial⟩ (ne_one hIt') (fun p hp => hp)
        exact a2_turn1 hc hI1 hI2 hI3 hI7 (dec_1 hc61 hv4 hlt hv5.1 hlc.1 hq) (by rw [or_2 hlc.1 hv5.1 (by omega)]; omega) (.inr (.inr (.inl ⟨rfl, by rw [bitAnd_m4]; omega⟩))) (by omega) (by omega)
      · have hlt : ¬ 64 ≤ v := by assumption
        have hq : q = 2 := by assumption
        have hlc2 : lc < 16 := by unfold A2B at hI4; omega
        (rename Fr _ _ _ _ => F9); (rename News _ _ _ _ => N9)
        refine TurnEnd.intro ⟨out.push (.int (Builtin.bitOr (lc * 2 ^ Int.toNat 4) (v.fdiv (2 ^ Int.toNat 2))) _), n + 1, 3, Builtin.bitAnd v 3, 0, j + 1, _, _, _, _⟩ F9 N9 ?_ ⟨rfl, rfl, rfl, rfl, rfl, rfl, trivial⟩ (ne_one hIt') (fun p hp => hp)
        exact a2_turn1 hc hI1 hI2 hI3 hI7 (dec_2 hc61 hv4 hlt hv5.1 hlc.1 hq) (by rw [or_4 hlc.1 hv5.1 (by omega)]; omega) (.inr (.inr (.inr ⟨rfl, by rw [bitAnd_m2]; omega⟩))) (by omega) (by omega)
      · have hlt : ¬ 64 ≤ v := by assumption
        have hqa : q ≠ 0 := by assumption
        have hqb : q ≠ 1 := by assumption
        have hqc : q ≠ 2 := by assumption
        have hlc2 : lc < 4 := by unfold A2B at hI4; omega
        (rename Fr _ _ _ _ => F9); (rename News _ _ _ _ => N9)
        refine TurnEnd.intro ⟨out.push (.int (Builtin.bitOr (lc * 2 ^ Int.toNat 6) v) _), n + 1, 0, 0, 0, j + 1, _, _, _, _⟩ F9 N9 ?_ ⟨rfl, rfl, rfl, rfl, rfl, rfl, trivial⟩ (ne_one hIt') (fun p hp => hp)
        exact a2_turn1 hc hI1 hI2 hI3 hI7 (dec_3 hc61 hv4 hlt hv5.1 hlc.1 hqa hqb hqc) (by rw [or_6 hlc.1 hv5.1 (by omega)]; omega) (.inl ⟨rfl, rfl⟩) (by omega) (by omega)
      · have hlt : ¬ 64 ≤ v := by assumption
        have hq : q = 0 := by assumption
        (rename Fr _ _ _ _ => F9); (rename News _ _ _ _ => N9)
        refine TurnEnd.intro ⟨out, n, 1, v, 0, j + 1, _, _, _, _⟩ F9 N9 ?_ ⟨rfl, rfl, rfl, rfl, rfl, rfl, trivial⟩ (ne_one hIt') (fun p hp => hp)
        exact a2_turn0 hc hI1 hI2 hI3 hI7 (dec_0 hc61 hv4 hlt hq) (.inr (.inl ⟨rfl, hv5.1, by omega⟩)) (by omega) (by omega)
      · have hlt : ¬ 64 ≤ v := by assumption
        have hq : q = 1 := by assumption
        (rename Fr _ _ _ _ => F9); (rename News _ _ _ _ => N9)
        refine TurnEnd.intro ⟨out.push (.int (Builtin.bitOr (lc * 2 ^ Int.toNat 2) (v.fdiv (2 ^ Int.toNat 4))) _), n + 1, 2, Builtin.bitAnd v 15, 0, j + 1, _, _, _, _⟩ F9 N9 ?_ ⟨rfl, rfl, rfl, rfl, rfl, rfl, trivial⟩ (ne_one hIt') (fun p hp => hp)
        exact a2_turn1 hc hI1 hI2 hI3 hI7 (dec_1 hc61 hv4 hlt hv5.1 hlc.1 hq) (by rw [or_2 hlc.1 hv5.1 (by omega)]; omega) (.inr (.inr (.inl ⟨rfl, by rw [bitAnd_m4]; omega⟩))) (by omega) (by omega)
      · have hlt : ¬ 64 ≤ v := by assumption
        have hq : q = 2 := by assumption
        have hlc2 : lc < 16 := by unfold A2B at hI4; omega
        (rename Fr _ _ _ _ => F9); (rename News _ _ _ _ => N9)
        refine TurnEnd.intro ⟨out.push (.int (Builtin.bitOr (lc * 2 ^ Int.toNat 4) (v.fdiv (2 ^ Int.toNat 2))) _), n + 1, 3, Builtin.bitAnd v 3, 0, j + 1, _, _, _, _⟩ F9 N9 ?_ ⟨rfl, rfl, rfl, rfl, rfl, rfl, trivial⟩ (ne_one hIt') (fun p hp => hp)
        exact a2_turn1 hc hI1 hI2 hI3 hI7 (dec_2 hc61 hv4 hlt hv5.1 hlc.1 hq) (by rw [or_4 hlc.1 hv5.1 (by omega)]; omega) (.inr (.inr (.inr ⟨rfl, by rw [bitAnd_m2]; omega⟩))) (by omega) (by omega)
      · have hlt : ¬ 64 ≤ v := by assumption
        have hqa : q ≠ 0 := by assumption
        have hqb : q ≠ 1 := by assumption
        have hqc : q ≠ 2 := by assumption
        have hlc2 : lc < 4 := by unfold A2B at hI4; omega
        (rename Fr _ _ _ _ => F9); (rename News _ _ _ _ => N9)
        refine TurnEnd.intro ⟨out.push (.int (Builtin.bitOr (lc * 2 ^ Int.toNat 6) v) _), n + 1, 0, 0, 0, j + 1, _, _, _, _⟩ F9 N9 ?_ ⟨rfl, rfl, rfl, rfl, rfl, rfl, trivial⟩ (ne_one hIt') (fun p hp => hp)
        exact a2_turn1 hc hI1 hI2 hI3 hI7 (dec_3 hc61 hv4 hlt hv5.1 hlc.1 hqa hqb hqc) (by rw [or_6 hlc.1 hv5.1 (by omega)]; omega) (.inl ⟨rfl, rfl⟩) (by omega) (by omega)
  case mD =>
    intro st m' h tk hI F N
    obtain ⟨out, n, q, lc, pd, j, t1, t2, t3, t4⟩ := st
    obtain ⟨outs, hI1, hI2, hI3, hI4, hI5, hI6, hI7, hI8, hI9⟩ := hI
    dsimp only at hI1 hI2 hI4 hI5 hI6 hI8 hI9 F N
    have hlen := IntsAre.length hI2
    have hz : out.size ≤ 200 := by simp at hlen; omega
    have hbs : (KBw.bInts b).take b.size = KBw.bInts b := List.take_of_length_le (by simp [KBw.bInts])
    rw [hbs] at hI1
    rw [hI1] at hR hRe
    k_steps
    · have hq1 : q = 1 := by assumption
      (rename RaisedS _ _ _ _ _ _ _ _ _ => R9); (rename Heap.UpToSlots _ _ => U9)
      exact hRe _ _ _ _ _ _ (.inl hq1) R9 U9
    · have hq1 : q ≠ 0 := by assumption
      have hq2 : q + pd < 4 := by assumption
      (rename RaisedS _ _ _ _ _ _ _ _ _ => R9); (rename Heap.UpToSlots _ _ => U9)
      exact hRe _ _ _ _ _ _ (.inr ⟨hq1, hq2⟩) R9 U9
    · have hq1 : q ≠ 1 := by assumption
      have hq2 : ¬ q + pd < 4 := by assumption
      (rename Fr _ _ _ _ => F9); (rename News _ _ _ _ => N9)
      refine bytes_K (vs := out.toList) F9 N9 ⟨_, (N9 _ (.head _)).1, rfl, _, rfl⟩ hI2 hI3 (by rw [sizeLine_eq]; simp; omega) hh fun h' t k F' N' _ => ?_
      exact hR _ _ _ (by unfold decBad; dsimp only; omega) F'.keep
    · have hq1 : q ≠ 1 := by assumption
      have hq2 : q = 0 := by assumption
      (rename Fr _ _ _ _ => F9); (rename News _ _ _ _ => N9)
      refine bytes_K (vs := out.toList) F9 N9 ⟨_, (N9 _ (.head _)).1, rfl, _, rfl⟩ hI2 hI3 (by rw [sizeLine_eq]; simp; omega) hh fun h' t k F' N' _ => ?_
      exact hR _ _ _ (by unfold decBad; dsimp only; omega) F'.keep
end
section
-- F12
set_option maxRecDepth 100000
set_option maxHeartbeats 0

def decIn (x : PySem.Str) (k0 k1 : UInt8) : Array UInt8 := trB (tbl k0 k1 43 47) (x.cps.map (·.toUInt8))
theorem decIn_size {x : PySem.Str} {k0 k1 : UInt8} : (decIn x k0 k1).size = x.cps.size := by simp [decIn, trB]
theorem b64dec_spec {prog : Program} {w : World} {A : Around} {s : Shared} {p : Program} {loose : List Str} {mg mb : Str → Option Value} {mean}
    (X : (Mine.hd.heap_1 w.params).In s.heap) (T : Top p loose mean mg mb s.heap) {R : Result → Shared → Prop} (hd : A.depth ≤ 480) (hh : A.handled = none)
    {base : Heap} {outer : List Env} (B : Below A base outer s.heap) {x : PySem.Str} {t : Tok} (hx : ∀ c ∈ x.cps.toList, c < 128) (hsz : x.cps.size ≤ 200) {k0 k1 : UInt8} {t' : Tok} (hRe : ∀ e t vs news h' tk, decBad (decRun (0, 0, 0) (KBw.bInts (decIn x k0 k1))).2 → RaisedS base s.heap outer e (.ref 119) t vs news h' → s.heap.UpToSlots h' → R (.error (.ref e)) { s with heap := h', toks := tk })
    (hR : ∀ h' tk' tk'', ¬ decBad (decRun (0, 0, 0) (KBw.bInts (decIn x k0 k1))).2 → s.heap.StaysIn h' → R (.ok (.ret (.bytes (byteArr (decRun (0, 0, 0) (KBw.bInts (decIn x k0 k1))).1) tk'))) { s with heap := h', toks := tk'' })
   : codeAny (model prog w) A (.call (.ref 182) ⟨[.str x t, .bytes #[k0, k1] t'], []⟩) R s := by
  w_on
  refine' call_any (binds := [(PySem.Str.ofString "s", Value.str x t), (PySem.Str.ofString "altchars", Value.bytes #[k0, k1] t'), (PySem.Str.ofString "validate", Value.bool false)]) X T ?k6 ?k7 (by show A.depth < 1000; omega) ?k9 ?kB ?_ ?c2 ?c3 ?c4 ?c5
  walk_at "mine sides"
  intro L h₁ tk F N
  (try dsimp only)
  have hsz' : x.cps.size ≤ 1000000 := by omega
  have hsz2 : (x.cps.map (·.toUInt8)).size ≤ 1000000 := by simp; omega
  k_steps
  (rename Fr _ _ _ _ => F2)
  refine wpAny_call (fromdec_spec (X.keeps F2.keep) (T.keeps F2.keep) (by show A.depth + 1 ≤ 500; omega) (by exact hh) hx hsz' ?_)
  intro h2 tk2 tk2' k2
  walk_at "mine stay"
  k_steps
  (rename Fr _ _ _ _ => F2)
  refine wpAny_call (fromdecb_spec (X.keeps F2.keep) (T.keeps F2.keep) (by show A.depth + 1 ≤ 500; omega) (by exact hh) ?_)
  intro h2 tk2 k2
  walk_at "mine stay"
  k_steps
  (rename _ = tbl _ _ _ _ => hTe)
  subst hTe
  (rename Fr _ _ _ _ => F2)
  refine wpAny_call (a2b_spec (X.keeps F2.keep) (T.keeps F2.keep) (by show A.depth + 1 ≤ 490; omega) (by exact hh) (B.push F2) (b := decIn x k0 k1) (by rw [decIn_size]; exact hsz) ?_ ?_)
  · intro e t9 vs9 news9 h9 tk9 hbad R9 U9
    refine leave_onS B F2 R9 U9 ?_
    intro h' R8 _ U8
    exact hRe _ _ _ _ _ _ hbad R8 U8
  · intro h9 tk9 tk9' hok k9
    exact hR _ _ _ hok (fun b o e => k9 b o (F2.keep b o e))
end
section
-- F5
set_option maxRecDepth 100000
set_option maxHeartbeats 0

def readV (ns : List Int) (pd : Int) : Option (Array UInt8) := if ns.length % 4 = 1 ∨ (1 < ns.length % 4 ∧ ((ns.length % 4 : Nat) : Int) + pd < 4) then none else some (byteArr (octGo 0 0 ns))
theorem fmod4' (n : Nat) : (n : Int).fmod 4 = ((n % 4 : Nat) : Int) := by
  rw [Int.fmod_eq_emod_of_nonneg _ (by omega)]; rfl
def optV (o : Option (Array UInt8)) (t : Tok) : Value := match o with | none => .none | some b => .bytes b t
theorem read_spec {prog : Program} {w : World} {A : Around} {s : Shared} {p : Program} {loose : List Str} {mg mb : Str → Option Value} {mean}
    (X : (Mine.hd.heap_1 w.params).In s.heap) (T : Top p loose mean mg mb s.heap) {R : Result → Shared → Prop} (hd : A.depth ≤ 490) (hh : A.handled = none)
    {l : Addr} {vs : List Value} {ns : List Int} (hl : s.heap.IsList l vs.toArray) (hi : IntsAre vs ns) (hb : ∀ n ∈ ns, 0 ≤ n ∧ n < 64) (hlen : ns.length ≤ 100) {pd : Int} {td : Tok} (hpd : 0 ≤ pd ∧ pd ≤ 2)
    (hR : ∀ h' tk' tk'', s.heap.StaysIn h' → R (.ok (.ret (optV (readV ns pd) tk'))) { s with heap := h', toks := tk'' })
   : codeAny (model prog w) A (.call (.ref 210) ⟨[.ref l, .int pd td], []⟩) R s := by
  w_on
  refine' call_ret (binds := [(PySem.Str.ofString "row", Value.ref l), (PySem.Str.ofString "pads", Value.int pd td)]) X T ?k6 ?k7 (by show A.depth < 1000; omega) ?k9 ?kB ?_ ?c2 ?c3 ?c4 ?c5
  walk_at "mine sides"
  intro L h₁ tk F N
  (try dsimp only)
  k_steps
  · have ha : (ns.length : Int).fmod 4 = 1 := by assumption
    rw [fmod4'] at ha
    (rename Fr _ _ _ _ => F9); (rename News _ _ _ _ => N9)
    have e : readV ns pd = none := by unfold readV; rw [if_pos (by omega)]
    rw [e] at hR
    exact hR _ 0 _ F9.keep
  · have ha : 1 < (ns.length : Int).fmod 4 := by assumption
    have hb : (ns.length : Int).fmod 4 + pd < 4 := by assumption
    rw [fmod4'] at ha hb
    (rename Fr _ _ _ _ => F9); (rename News _ _ _ _ => N9)
    have e : readV ns pd = none := by unfold readV; rw [if_pos (by omega)]
    rw [e] at hR
    exact hR _ 0 _ F9.keep
  · have ha0 : (ns.length : Int).fmod 4 ≠ 1 := by assumption
    have ha : 1 < (ns.length : Int).fmod 4 := by assumption
    have hb' : ¬ (ns.length : Int).fmod 4 + pd < 4 := by assumption
    rw [fmod4'] at ha hb' ha0
    (rename Fr _ _ _ _ => F9); (rename News _ _ _ _ => N9)
    have e : readV ns pd = some (byteArr (octGo 0 0 ns)) := by unfold readV; rw [if_neg (by omega)]
    rw [e] at hR
    refine wpAny_call (octets_spec (X.keeps F9.keep) (T.keeps F9.keep) (by show A.depth + 1 ≤ 500; omega) (by exact hh) (hl.at fun o e => F9.keep _ o e) hi hb hlen ?_)
    intro h' tk' tk'' k
    exact hR _ _ _ fun b o e => k b o (F9.keep b o e)
  · have ha0 : (ns.length : Int).fmod 4 ≠ 1 := by assumption
    have ha : ¬ 1 < (ns.length : Int).fmod 4 := by assumption
    rw [fmod4'] at ha ha0
    (rename Fr _ _ _ _ => F9); (rename News _ _ _ _ => N9)
    have e : readV ns pd = some (byteArr (octGo 0 0 ns)) := by unfold readV; rw [if_neg (by omega)]
    rw [e] at hR
    refine wpAny_call (octets_spec (X.keeps F9.keep) (T.keeps F9.keep) (by show A.depth + 1 ≤ 500; omega) (by exact hh) (hl.at fun o e => F9.keep _ o e) hi hb hlen ?_)
    intro h' tk' tk'' k
    exact hR _ _ _ fun b o e => k b o (F9.keep b o e)
end
section
-- F13
set_option maxRecDepth 100000
set_option maxHeartbeats 0

def decBadDec (r : Int × Int × Int) : Decidable (decBad r) := by unfold decBad; infer_instance
def toldV (x : PySem.Str) (k0 k1 : UInt8) : Option (Array UInt8) := @ite _ (decBad (decRun (0, 0, 0) (KBw.bInts (decIn x k0 k1))).2) (decBadDec _) none (some (byteArr (decRun (0, 0, 0) (KBw.bInts (decIn x k0 k1))).1))
theorem told_spec {prog : Program} {w : World} {A : Around} {s : Shared} {p : Program} {loose : List Str} {mg mb : Str → Option Value} {mean}
    (X : (Mine.hd.heap_1 w.params).In s.heap) (T : Top p loose mean mg mb s.heap) {R : Result → Shared → Prop} (hd : A.depth ≤ 470) (hh : A.handled = none)
    {base : Heap} {outer : List Env} (B : Below A base outer s.heap) (D : KtsDicts (outer.filterMap (·.frame)) s.heap) (XB : (Mine.hd.heap_1 w.params).In base) (TB : Top p loose mean mg mb base) {x : PySem.Str} {t : Tok} (hx : ∀ c ∈ x.cps.toList, c < 128) (hsz : x.cps.size ≤ 200) {k0 k1 : UInt8} {t' : Tok}
    (hR : ∀ h' g' tk' tk'', KtsTurn (outer.filterMap (·.frame)) s.heap g' → g'.StaysIn h' → R (.ok (.ret (optV (toldV x k0 k1) tk'))) { s with heap := h', toks := tk'' })
   : codeAny (model prog w) A (.call (.ref 217) ⟨[.str x t, .bytes #[k0, k1] t'], []⟩) R s := by
  w_on
  refine' call_any (binds := [(PySem.Str.ofString "text", Value.str x t), (PySem.Str.ofString "marks", Value.bytes #[k0, k1] t')]) X T ?k6 ?k7 (by show A.depth < 1000; omega) ?k9 ?kB ?_ ?c2 ?c3 ?c4 ?c5
  walk_at "mine sides"
  intro L h₁ tk F N
  (try dsimp only)
  k_steps
  (rename Fr _ _ _ _ => F2); (rename News _ _ _ _ => N2)
  refine wpAny_call (b64dec_spec (X.keeps F2.keep) (T.keeps F2.keep) (by show A.depth + 1 ≤ 480; omega) (by exact hh) (B.push F2) hx hsz ?_ ?_)
  · intro e t9 vs9 news9 h9 tk9 hbad R9 U9
    (try dsimp only)
    k_steps
    have e1 : toldV x k0 k1 = none := if_pos hbad
    rw [e1] at hR
    (rename Fr _ _ _ _ => F9); (rename KtsTurn _ _ _ => T9)
    exact hR _ _ 0 _ T9 F9.keep
  · intro h9 tk9 tk9' hok k9
    walk_at "mine stay"
    k_steps
    have e1 : toldV x k0 k1 = some (byteArr (decRun (0, 0, 0) (KBw.bInts (decIn x k0 k1))).1) := if_neg hok
    rw [e1] at hR
    (rename Fr _ _ _ _ => F9)
    exact hR _ _ _ _ KtsTurn.refl F9.keep
end
section
-- F4
set_option maxRecDepth 100000
set_option maxHeartbeats 0

def wholeL (ns : List Int) : List Int := if ns.length % 4 = 0 then ns else if ns.length % 4 = 1 then ns ++ [0] else if ns.length % 4 = 2 then ns.take (ns.length - 1) ++ [ns.getD (ns.length - 1) 0 / 16 * 16] else ns.take (ns.length - 1) ++ [ns.getD (ns.length - 1) 0 / 4 * 4]
theorem fmod4 (n : Nat) : (n : Int).fmod 4 = ((n % 4 : Nat) : Int) := by
  rw [Int.fmod_eq_emod_of_nonneg _ (by omega)]; rfl
theorem fdivN (a : Int) : a.fdiv 16 = a / 16 := Int.fdiv_eq_ediv_of_nonneg _ (by omega)
theorem fdiv4 (a : Int) : a.fdiv 4 = a / 4 := Int.fdiv_eq_ediv_of_nonneg _ (by omega)
theorem whole_spec {prog : Program} {w : World} {A : Around} {s : Shared} {p : Program} {loose : List Str} {mg mb : Str → Option Value} {mean}
    (X : (Mine.hd.heap_1 w.params).In s.heap) (T : Top p loose mean mg mb s.heap) {R : Result → Shared → Prop} (hd : A.depth ≤ 500) (hh : A.handled = none)
    {l : Addr} {vs : List Value} {ns : List Int} (hl : s.heap.IsList l vs.toArray) (hi : IntsAre vs ns) (hlen : ns.length ≤ 100)
    (hR : ∀ (l' : Addr) (vs' : Array Value) (k' : Nat) h' tk'', s.heap.StaysIn h' → ((l' = l ∧ vs' = vs.toArray) ∨ (s.heap.get? l' = none ∧ h'.get? l' = some (W.listOf vs' k'))) → IntsAre vs'.toList (wholeL ns) → R (.ok (.ret (.ref l'))) { s with heap := h', toks := tk'' })
   : codeAny (model prog w) A (.call (.ref 203) ⟨[.ref l], []⟩) R s := by
  w_on
  refine' call_ret (binds := [(PySem.Str.ofString "row", Value.ref l)]) X T ?k6 ?k7 (by show A.depth < 1000; omega) ?k9 ?kB ?_ ?c2 ?c3 ?c4 ?c5
  walk_at "mine sides"
  intro L h₁ tk F N
  (try dsimp only)
  k_steps
  · have ha : (ns.length : Int).fmod 4 = 0 := by assumption
    (rename Fr _ _ _ _ => F9); (rename News _ _ _ _ => N9)
    rw [fmod4] at ha
    have e : wholeL ns = ns := by unfold wholeL; rw [if_pos (by omega)]
    refine hR l vs.toArray 0 _ _ F9.keep (.inl ⟨rfl, rfl⟩) (by rw [e]; exact hi)
  · have ha : (ns.length : Int).fmod 4 = 1 := by assumption
    (rename Fr _ _ _ _ => F9); (rename News _ _ _ _ => N9)
    rw [fmod4] at ha
    have e : wholeL ns = ns ++ [0] := by unfold wholeL; rw [if_neg (by omega), if_pos (by omega)]
    refine hR _ _ _ _ _ F9.keep (.inr ⟨(N9 _ (.head _)).2.2, (N9 _ (.head _)).1⟩) (by rw [e]; assumption)
  · have ha : (ns.length : Int).fmod 4 = 2 := by assumption
    (rename Fr _ _ _ _ => F9); (rename News _ _ _ _ => N9)
    rw [fmod4] at ha
    have e : wholeL ns = ns.take (ns.length - 1) ++ [(ns.getD (-1 + (ns.length : Int)).toNat 0).fdiv 16 * 16] := by unfold wholeL; rw [if_neg (by omega), if_neg (by omega), if_pos (by omega), fdivN, show (-1 + (ns.length : Int)).toNat = ns.length - 1 by omega]
    refine hR _ _ _ _ _ F9.keep (.inr ⟨(N9 _ (.head _)).2.2, (N9 _ (.head _)).1⟩) (by rw [e]; assumption)
  · have ha : (ns.length : Int).fmod 4 ≠ 2 := by assumption
    have ha1 : (ns.length : Int).fmod 4 ≠ 1 := by assumption
    have ha0 : (ns.length : Int).fmod 4 ≠ 0 := by assumption
    (rename Fr _ _ _ _ => F9); (rename News _ _ _ _ => N9)
    rw [fmod4] at ha ha1 ha0
    have e : wholeL ns = ns.take (ns.length - 1) ++ [(ns.getD (-1 + (ns.length : Int)).toNat 0).fdiv 4 * 4] := by unfold wholeL; rw [if_neg (by omega), if_neg (by omega), if_neg (by omega), fdiv4, show (-1 + (ns.length : Int)).toNat = ns.length - 1 by omega]
    refine hR _ _ _ _ _ F9.keep (.inr ⟨(N9 _ (.head _)).2.2, (N9 _ (.head _)).1⟩) (by rw [e]; assumption)
end
section
-- F1
set_option maxRecDepth 100000
set_option maxHeartbeats 0
def stripL (x : PySem.Str) : PySem.Str := if Txt.startswith x (PySem.Str.ofString "\"") = true then Txt.slice x (some 1) none else x
def stripQ (x : PySem.Str) : PySem.Str := if Txt.endswith (stripL x) (PySem.Str.ofString "\"") = true then Txt.slice (stripL x) none (some (-1)) else stripL x
theorem strip_spec {prog : Program} {w : World} {A : Around} {s : Shared} {p : Program} {loose : List Str} {mg mb : Str → Option Value} {mean}
    (X : (Mine.hd.heap_1 w.params).In s.heap) (T : Top p loose mean mg mb s.heap) {R : Result → Shared → Prop} (hd : A.depth ≤ 500) (hh : A.handled = none)
    {x : Str} {t : Tok} (hx : x.length ≤ 1000000)
    (hR : ∀ h' tk' tk'', s.heap.StaysIn h' → R (.ok (.ret (.str (stripQ x) tk'))) { s with heap := h', toks := tk'' })
   : codeAny (model prog w) A (.call (.ref 101) ⟨[.str x t], []⟩) R s := by
  w_on
  refine' call_ret (binds := [(PySem.Str.ofString "text", Value.str x t)]) X T ?k6 ?k7 (by show A.depth < 1000; omega) ?k9 ?kB ?_ ?c2 ?c3 ?c4 ?c5
  walk_at "mine sides"
  intro L h₁ tk F N
  (try dsimp only)
  k_steps
  · have h1 : Txt.startswith x (PySem.Str.ofString "\"") = true := by assumption
    have h2 : Txt.endswith (Txt.slice x (some 1) none) (PySem.Str.ofString "\"") = true := by assumption
    (rename Fr _ _ _ _ => F9)
    have e : stripQ x = Txt.slice (Txt.slice x (some 1) none) none (some (-1)) := by unfold stripQ stripL; rw [if_pos h1, if_pos h2]
    rw [← e]; exact hR _ _ _ F9.keep
  · have h1 : Txt.startswith x (PySem.Str.ofString "\"") = true := by assumption
    have h2 : Txt.endswith (Txt.slice x (some 1) none) (PySem.Str.ofString "\"") = false := by assumption
    (rename Fr _ _ _ _ => F9)
    have e : stripQ x = Txt.slice x (some 1) none := by simp [stripQ, stripL, h1, h2]
    rw [← e]; exact hR _ _ _ F9.keep
  · have h1 : Txt.startswith x (PySem.Str.ofString "\"") = false := by assumption
    have h2 : Txt.endswith x (PySem.Str.ofString "\"") = true := by assumption
    (rename Fr _ _ _ _ => F9)
    have e : stripQ x = Txt.slice x none (some (-1)) := by simp [stripQ, stripL, h1, h2]
    rw [← e]; exact hR _ _ _ F9.keep
  · have h1 : Txt.startswith x (PySem.Str.ofString "\"") = false := by assumption
    have h2 : Txt.endswith x (PySem.Str.ofString "\"") = false := by assumption
    (rename Fr _ _ _ _ => F9)
    have e : stripQ x = x := by simp [stripQ, stripL, h1, h2]
    have h9 := fun a b => hR a t b
    rw [e] at h9; exact h9 _ _ F9.keep
end
section
-- F3
set_option maxRecDepth 100000
set_option maxHeartbeats 0
def signOf (k0 k1 : Int) (f : Int) : Nat := if f < 26 then (65 + f).toNat else if f < 52 then (71 + f).toNat else if f < 62 then (f - 4).toNat else if f = 62 then k0.toNat else k1.toNat
structure SgSt where
  out : Array Value
  n : Nat
theorem sum_ones {α : Type} : ∀ l : List α, (l.map fun _ => 1).sum = l.length
  | [] => rfl
  | _ :: r => by rw [List.map_cons, List.sum_cons, sum_ones r, List.length_cons]; omega
theorem cat_ones {α : Type} (f : α → Nat) : ∀ l : List α, catL (l.map fun n => (⟨#[f n]⟩ : PySem.Str)) = l.map f
  | [] => rfl
  | a :: r => by
    have ih := cat_ones f r
    unfold catL at ih ⊢
    rw [List.map_cons, List.flatMap_cons, ih]; rfl
theorem sg_turn {ns : List Int} {k0 k1 : Int} {i c : Nat} {n : Int} {out : Array Value} {tk : Tok} (h1 : out.size = i) (h2 : StrsAre out.toList ((ns.take i).map fun n => ⟨#[signOf k0 k1 n]⟩)) (hn : ns[i]? = some n) (hc : signOf k0 k1 n = c) :
    (out.push (.str ⟨#[c]⟩ tk)).size = i + 1 ∧ StrsAre (out.push (.str ⟨#[c]⟩ tk)).toList ((ns.take (i + 1)).map fun n => ⟨#[signOf k0 k1 n]⟩) := by
  refine ⟨by rw [Array.size_push, h1], ?_⟩
  have : ns.take (i + 1) = ns.take i ++ [n] := by
    rw [List.take_add_one, hn]; rfl
  rw [this, List.map_append, Array.toList_push]
  subst hc
  exact strsAre_snoc h2 _ _
theorem signs_spec {prog : Program} {w : World} {A : Around} {s : Shared} {p : Program} {loose : List Str} {mg mb : Str → Option Value} {mean}
    (X : (Mine.hd.heap_1 w.params).In s.heap) (T : Top p loose mean mg mb s.heap) {R : Result → Shared → Prop} (hd : A.depth ≤ 500) (hh : A.handled = none)
    {l : Addr} {vs : List Value} {ns : List Int} {bm : Array UInt8} {tm : Tok} {k0 k1 : Int} (hl : s.heap.IsList l vs.toArray) (hi : IntsAre vs ns) (hb : ∀ n ∈ ns, 0 ≤ n ∧ n < 64) (hlen : ns.length ≤ 100) (hbm : KBw.bInts bm = [k0, k1]) (hk0 : 0 ≤ k0 ∧ k0 < 256) (hk1 : 0 ≤ k1 ∧ k1 < 256)
    (hR : ∀ h' tk' tk'', s.heap.StaysIn h' → R (.ok (.ret (.str ⟨(ns.map (signOf k0 k1)).toArray⟩ tk'))) { s with heap := h', toks := tk'' })
   : codeAny (model prog w) A (.call (.ref 189) ⟨[.ref l, .bytes bm tm], []⟩) R s := by
  w_on
  refine' call_ret (binds := [(PySem.Str.ofString "row", Value.ref l), (PySem.Str.ofString "marks", Value.bytes bm tm)]) X T ?k6 ?k7 (by show A.depth < 1000; omega) ?k9 ?kB ?_ ?c2 ?c3 ?c4 ?c5
  walk_at "mine sides"
  intro L h₁ tk F N
  (try dsimp only)
  k_steps
  (rename Fr _ _ _ _ => F0); (rename News _ _ _ _ => N0)
  rename_i l1 _ _ _ 
  refine iter_list (fun i (st : SgSt) => st.out.size = i ∧ StrsAre st.out.toList ((ns.take i).map fun n => ⟨#[signOf k0 k1 n]⟩))
    (fun st => [(PySem.Str.ofString "signs", Value.ref l1), (PySem.Str.ofString "marks", Value.bytes bm tm)])
    (fun st => [(l1, W.listOf st.out st.n)]) ⟨#[], 0⟩ hh F0 N0 (fun h m' st F _ => hl.at fun o e => F.keep _ o e) ?_ ⟨rfl, rfl, trivial⟩ (fun p hp => hp) ?mT ?mD rfl rfl rfl
  · exact ⟨rfl, .nil⟩
  case mT =>
    intro i st v m' h tk It oi hIt hoi hv hI hne F N
    obtain ⟨hI1, hI2⟩ := hI
    obtain ⟨n, t, rfl, hn, hin⟩ := intsAre_at hi (by simpa using hv)
    have hIt' := ltN (hIt _ (.head _))
    have hz : st.out.size ≤ 100 := by omega
    have hn64 := hb n (List.mem_of_getElem? hn)
    k_steps
    · have ha : n < 26 := by assumption
      (rename Fr _ _ _ _ => F9); (rename News _ _ _ _ => N9)
      refine TurnEnd.intro ⟨st.out.push (.str ⟨#[(65 + n).toNat]⟩ _), st.n + 1⟩ F9 N9 ?_ ⟨rfl, rfl, trivial⟩ (ne_one hIt') (fun p hp => hp)
      refine sg_turn hI1 hI2 hn ?_
      unfold signOf; rw [if_pos ha]
    · have ha : ¬ n < 26 := by assumption
      have ha2 : n < 52 := by assumption
      (rename Fr _ _ _ _ => F9); (rename News _ _ _ _ => N9)
      refine TurnEnd.intro ⟨st.out.push (.str ⟨#[(71 + n).toNat]⟩ _), st.n + 1⟩ F9 N9 ?_ ⟨rfl, rfl, trivial⟩ (ne_one hIt') (fun p hp => hp)
      refine sg_turn hI1 hI2 hn ?_
      unfold signOf; rw [if_neg ha, if_pos ha2]
    · have ha : ¬ n < 26 := by assumption
      have ha2 : ¬ n < 52 := by assumption
      have ha3 : n < 62 := by assumption
      (rename Fr _ _ _ _ => F9); (rename News _ _ _ _ => N9)
      refine TurnEnd.intro ⟨st.out.push (.str ⟨#[(n - 4).toNat]⟩ _), st.n + 1⟩ F9 N9 ?_ ⟨rfl, rfl, trivial⟩ (ne_one hIt') (fun p hp => hp)
      refine sg_turn hI1 hI2 hn ?_
      unfold signOf; rw [if_neg ha, if_neg ha2, if_pos ha3]
    · have ha : ¬ n < 26 := by assumption
      have ha2 : ¬ n < 52 := by assumption
      have ha3 : ¬ n < 62 := by assumption
      refine KBw.item_K hbm (by show (2 : Nat) ≤ _; decide) (by omega) (by show n - 62 < 2; omega) ?_
      intro t' k q1 q2
      k_steps
      (rename Fr _ _ _ _ => F9); (rename News _ _ _ _ => N9)
      refine TurnEnd.intro ⟨st.out.push (.str ⟨#[([k0, k1].getD (n - 62).toNat 0).toNat]⟩ _), st.n + 1⟩ F9 N9 ?_ ⟨rfl, rfl, trivial⟩ (ne_one hIt') (fun p hp => hp)
      refine sg_turn hI1 hI2 hn ?_
      unfold signOf; rw [if_neg ha, if_neg ha2, if_neg ha3]
      by_cases h62 : n = 62
      · subst h62; rfl
      · have h63 : n = 63 := by omega
        subst h63; rfl
  case mD =>
    intro st m' h tk hI F N
    obtain ⟨hI1, hI2⟩ := hI
    have hlv := IntsAre.length hi
    have hsz : vs.toArray.size = ns.length := by simp; omega
    rw [hsz, List.take_length] at hI2
    k_steps
    refine join_list (x := PySem.Str.ofString "") (D := l1) ⟨_, (N _ (.head _)).1, rfl, _, rfl⟩ hI2 ?_ ?_
    · have : ((ns.map fun n => (⟨#[signOf k0 k1 n]⟩ : PySem.Str)).map (·.length)).sum = ns.length := by
        rw [List.map_map]
        have : ((fun y : PySem.Str => y.length) ∘ fun n => (⟨#[signOf k0 k1 n]⟩ : PySem.Str)) = fun _ => 1 := by funext n; rfl
        rw [this, sum_ones]
      rw [this]
      show _ + _ * 0 ≤ _
      omega
    · intro t' k
      have e0 : PySem.Str.ofString "" = ⟨#[]⟩ := by decide +kernel
      have e1 : Txt.join (PySem.Str.ofString "") (ns.map fun n => (⟨#[signOf k0 k1 n]⟩ : PySem.Str)) = ⟨(ns.map (signOf k0 k1)).toArray⟩ := by
        rw [e0]
        have := join_nothing (ns.map fun n => (⟨#[signOf k0 k1 n]⟩ : PySem.Str))
        have e2 : catL (ns.map fun n => (⟨#[signOf k0 k1 n]⟩ : PySem.Str)) = ns.map (signOf k0 k1) := by
          exact cat_ones _ _
        cases hj : Txt.join ⟨#[]⟩ (ns.map fun n => (⟨#[signOf k0 k1 n]⟩ : PySem.Str)) with
        | mk c => rw [hj, e2] at this; simp only at this; rw [← this]
      rw [e1]
      exact hR _ _ _ F.keep
end
section
-- F6
set_option maxRecDepth 100000
set_option maxHeartbeats 0

local macro_rules | `(tactic| walk_at "getAttr ref") => `(tactic| (refine attr_string (IsMatch.stays (by assumption) (Fr.keep (by assumption))) ?_))
local macro_rules | `(tactic| walk_at "getMethod ref") => `(tactic| (refine getMethod_span (IsMatch.stays (by assumption) (Fr.keep (by assumption))) ?_))
theorem unm_spec {prog : Program} {w : World} {A : Around} {s : Shared} {p : Program} {loose : List Str} {mg mb : Str → Option Value} {mean}
    (X : (Mine.hd.heap_1 w.params).In s.heap) (T : Top p loose mean mg mb s.heap) {R : Result → Shared → Prop} (hd : A.depth ≤ 500) (hh : A.handled = none)
    {a : Addr} {x : Str} {t : Tok} {e : Nat} {sp : Array Int} (hm : IsMatch s.heap a x t sp) (hs0 : sp.getD 0 (-1) = ((0 : Nat) : Int)) (hs1 : sp.getD 1 (-1) = (e : Int)) (hs2 : 2 ≤ sp.size) (hsz : x.length ≤ 1000000) (he : e ≤ x.length)
    (hR : ∀ h' tk' tk'', s.heap.StaysIn h' → R (.ok (.ret (.str (Txt.slice x none (some ((0 : Nat) : Int)) ++ Txt.slice x (some (e : Int)) none) tk'))) { s with heap := h', toks := tk'' })
   : codeAny (model prog w) A (.call (.ref 50) ⟨[.ref a], []⟩) R s := by
  w_on
  refine' call_ret (binds := [(PySem.Str.ofString "match", Value.ref a)]) X T ?k6 ?k7 (by show A.depth < 1000; omega) ?k9 ?kB ?_ ?c2 ?c3 ?c4 ?c5
  walk_at "mine sides"
  intro L h₁ tk F N
  (try dsimp only)
  k_steps
  (rename Fr _ _ _ _ => F2); (rename News _ _ _ _ => N2)
  refine call_span0 (hm.stays F2.keep) hs0 hs1 hs2 ?_
  intro t1 t2 tk'
  replace N2 := News.push F2 N2 (tupObj #[.int ((0 : Nat) : Int) t1, .int e t2])
  replace F2 := F2.push (tupObj #[.int ((0 : Nat) : Int) t1, .int e t2])
  (try dsimp only)
  k_steps
  (rename Fr _ _ _ _ => F3); (rename News _ _ _ _ => N3)
  refine unpackN_ (items := #[.int ((0 : Nat) : Int) t1, .int e t2]) F3 N3 ?tup (by exact hh) (by rfl) (by rfl) ?_
  case tup => exact ⟨_, (N3 _ (.head _)).1, rfl, _, rfl⟩
  intro h5 F5 N5
  (try dsimp only)
  k_steps
  (rename Fr _ _ _ _ => F9)
  exact hR _ _ _ F9.keep
end
section
-- F15
set_option maxRecDepth 100000
set_option maxHeartbeats 0

local macro_rules | `(tactic| walk_at "exec For Tuple Name cons nil") => `(tactic| k_dflt (refine wpAny_For ?_ (by intro _; rfl)))
local macro_rules | `(tactic| walk_at "getMethod ref") => `(tactic| first
  | (with_reducible refine getMethod_fullmatch (pat82 (Frag.In.keeps (by k_asm) (Fr.keep (by k_asm)))) ?_)
  | (with_reducible refine getMethod_sub (pat87 (Frag.In.keeps (by k_asm) (Fr.keep (by k_asm)))) ?_)
  | (with_reducible refine getMethod_group (IsMatch.stays (by assumption) (Fr.keep (by assumption))) ?_))
local macro_rules | `(tactic| k_all) => `(tactic| assumption)
local macro_rules | `(tactic| walk_at "execs cons If cons") => `(tactic| ((with_reducible show wpAny _ _ (execs (Stmt.If _ _ _ _ :: _) _) _ _ _); refine stop_on ?_))
def tabNw (P : Addr) (ln cl : Int) : TabSt → List (Addr × Obj)
  | none => [(P, tabObj #[])]
  | some (c', oc) => [(P, tabObj #[rawInt ln, rawInt cl, .ref c']), (c', oc)]
structure JoSt where
  out : Array Value
  n : Nat
  tab : TabSt
theorem esc_le2 : ∀ l : List Nat, (esc l).length ≤ 2 * l.length
  | [] => Nat.le_refl _
  | c :: r => by
    have := esc_le2 r
    rw [esc_cons, List.length_append, List.length_cons]
    split <;> simp <;> omega
theorem esc_small {x : PySem.Str} {n : Nat} (h : x.cps.size ≤ n) (h2 : 2 * n ≤ 1000000 := by decide) : (esc x.cps.toList).length ≤ 1000000 := by
  have := esc_le2 x.cps.toList
  simp at this; omega
theorem jo_turn {ps : List (PySem.Str × PySem.Str)} {i : Nat} {kx : PySem.Str × PySem.Str} {out : Array Value} {y : PySem.Str} {t : Tok} (h : StrsAre out.toList ((ps.take i).map partOf)) (hk : ps[i]? = some kx) (hy : y = partOf kx) : StrsAre (out.push (.str y t)).toList ((ps.take (i + 1)).map partOf) := by
  have : ps.take (i + 1) = ps.take i ++ [kx] := by rw [List.take_add_one, hk]; rfl
  rw [this, List.map_append, Array.toList_push, hy]
  exact strsAre_snoc h _ _
theorem str_app (x y : PySem.Str) : x ++ y = ⟨x.cps ++ y.cps⟩ := rfl
theorem part_tok {kx : PySem.Str × PySem.Str} (h : tokS kx.2 = true) : PySem.Str.empty ++ kx.1 ++ PySem.Str.ofString "=" ++ kx.2 = partOf kx := by
  unfold partOf writ
  rw [if_pos h, show PySem.Str.ofString "=" = ⟨#[61]⟩ by decide +kernel, show PySem.Str.empty = ⟨#[]⟩ from rfl]
  simp only [str_app]
  congr 1
  apply Array.ext'
  simp
theorem part_quo {kx : PySem.Str × PySem.Str} (h : tokS kx.2 = false) : PySem.Str.empty ++ kx.1 ++ PySem.Str.ofString "=" ++ (PySem.Str.ofString "\"" ++ ⟨(esc kx.2.cps.toList).toArray⟩ ++ PySem.Str.ofString "\"") = partOf kx := by
  unfold partOf writ
  rw [if_neg (by rw [h]; exact Bool.false_ne_true), show PySem.Str.ofString "=" = ⟨#[61]⟩ by decide +kernel, show PySem.Str.ofString "\"" = ⟨#[34]⟩ by decide +kernel, show PySem.Str.empty = ⟨#[]⟩ from rfl]
  simp only [str_app]
  congr 1
  apply Array.ext'
  simp
theorem writ_quo {x : PySem.Str} (h : tokS x = false) : writ x = PySem.Str.ofString "\"" ++ ⟨(esc x.cps.toList).toArray⟩ ++ PySem.Str.ofString "\"" := by
  unfold writ
  rw [if_neg (by rw [h]; exact Bool.false_ne_true), show PySem.Str.ofString "\"" = ⟨#[34]⟩ by decide +kernel]
  simp only [str_app]
  congr 1
  apply Array.ext'
  simp
theorem tab89 {ln cl : Int} {It : Addr} : ∀ {tab : TabSt}, (∀ p ∈ tabNw 89 ln cl tab, @LT.lt Nat _ p.1 It) → @LT.lt Nat _ 89 It
  | none, h => h _ (.head _)
  | some _, h => h _ (.head _)
theorem part_any (kx : PySem.Str × PySem.Str) : PySem.Str.empty ++ kx.1 ++ PySem.Str.ofString "=" ++ writ kx.2 = partOf kx := by
  unfold partOf
  rw [show PySem.Str.ofString "=" = ⟨#[61]⟩ by decide +kernel, show PySem.Str.empty = ⟨#[]⟩ from rfl]
  simp only [str_app]
  congr 1
  apply Array.ext'
  simp
theorem writ_len {x : PySem.Str} (h : x.length ≤ 100) : (writ x).length ≤ 300 := by
  have := esc_le2 x.cps.toList
  simp only [Array.length_toList] at this
  have h' : x.cps.size ≤ 100 := h
  show (writ x).cps.size ≤ 300
  unfold writ
  split
  · omega
  · simp only [List.size_toArray, List.length_cons, List.length_append, List.length_nil]; omega
theorem tab_two {P It2 c' : Addr} {ln cl : Int} {oc : Obj} (h1 : P ≠ It2) (h2 : @Ne Nat c' It2) : ∀ p ∈ tabNw P ln cl (some (c', oc)), p.1 ≠ It2 := fun p hp => by
  rcases List.mem_cons.mp hp with rfl | hp
  · exact h1
  · rw [List.mem_singleton.mp hp]; exact h2
theorem tab_ne {q : PySem.Str} {l2 : Addr} {ln cl : Int} : ∀ {tab : TabSt}, TabOk q l2 tab → @Ne Nat 89 l2 → ∀ p ∈ tabNw 89 ln cl tab, p.1 ≠ l2
  | none, _, h, p, hp => by rw [List.mem_singleton.mp hp]; exact h
  | some (c', oc), hT, h, p, hp => by
    rcases List.mem_cons.mp hp with rfl | hp
    · exact h
    · rw [List.mem_singleton.mp hp]; exact Nat.ne_of_gt hT.1
theorem app92 (x : Array Nat) : PySem.Str.ofString "\\" ++ (⟨x⟩ : PySem.Str) = ⟨#[92] ++ x⟩ := by
  rw [show PySem.Str.ofString "\\" = ⟨#[92]⟩ by decide +kernel]; rfl
theorem app92_nil {x : Array Nat} (h : ((⟨x⟩ : PySem.Str).length : Int) = 0) : PySem.Str.ofString "\\" ++ PySem.Str.ofString "" = ⟨#[92] ++ x⟩ := by
  rw [show PySem.Str.ofString "\\" = ⟨#[92]⟩ by decide +kernel, show PySem.Str.ofString "" = ⟨#[]⟩ by decide +kernel]
  have hx : x = #[] := Array.eq_empty_of_size_eq_zero (by have : (⟨x⟩ : PySem.Str).length = 0 := by omega
                                                          exact this)
  subst hx; rfl
def joinT (ps : List (PySem.Str × PySem.Str)) : PySem.Str := Txt.join (PySem.Str.ofString "; ") (ps.map partOf)
theorem sum_bound {B : Nat} : ∀ l : List PySem.Str, (∀ y ∈ l, y.length ≤ B) → (l.map (·.length)).sum ≤ B * l.length
  | [], _ => Nat.zero_le _
  | a :: r, h => by
    have h1 := sum_bound r fun y hy => h y (.tail _ hy)
    have h2 := h a (.head _)
    rw [List.map_cons, List.sum_cons, List.length_cons, Nat.mul_succ]; omega
theorem part_len {kx : PySem.Str × PySem.Str} (h : kx.1.cps.size ≤ 10 ∧ kx.2.cps.size ≤ 100) : (partOf kx).length ≤ 220 := by
  have := esc_le2 kx.2.cps.toList
  simp only [Array.length_toList] at this
  show ((kx.1.cps.toList ++ 61 :: (writ kx.2).cps.toList).toArray).size ≤ 220
  unfold writ
  split <;> simp <;> omega
theorem parts_sum {ps : List (PySem.Str × PySem.Str)} (hz : ∀ kx ∈ ps, kx.1.cps.size ≤ 10 ∧ kx.2.cps.size ≤ 100) (h9 : ps.length ≤ 20) : ((ps.map partOf).map (·.length)).sum ≤ 4400 := by
  have := sum_bound (B := 220) (ps.map partOf) fun y hy => by
    obtain ⟨kx, hk, rfl⟩ := List.mem_map.mp hy
    exact part_len (hz kx hk)
  rw [List.length_map] at this; omega
theorem semi_len : (PySem.Str.ofString "; ").length = 2 := by decide +kernel
theorem joins_fit {ps : List (PySem.Str × PySem.Str)} (hz : ∀ kx ∈ ps, kx.1.cps.size ≤ 10 ∧ kx.2.cps.size ≤ 100) (h9 : ps.length ≤ 20) : ((ps.map partOf).map (·.length)).sum + (ps.map partOf).length * (PySem.Str.ofString "; ").length ≤ 16777216 := by
  have := parts_sum hz h9
  rw [List.length_map, semi_len]; omega
theorem joinT_len {ps : List (PySem.Str × PySem.Str)} (hz : ∀ kx ∈ ps, kx.1.cps.size ≤ 10 ∧ kx.2.cps.size ≤ 100) (h9 : ps.length ≤ 20) : (joinT ps).length ≤ 5000 := by
  have h1 := parts_sum hz h9
  have h2 := StrLaws.join_length_le (PySem.Str.ofString "; ") (ps.map partOf)
  rw [List.length_map, semi_len] at h2
  show (Builtin.Str.glued _ _).length ≤ _
  rw [StrLaws.glued_eq_join]; omega
theorem join_spec {prog : Program} {w : World} {A : Around} {s : Shared} {p : Program} {loose : List Str} {mg mb : Str → Option Value} {mean}
    (X : (Mine.hd.heap_1 w.params).In s.heap) (T : Top p loose mean mg mb s.heap) {R : Result → Shared → Prop} (hd : A.depth ≤ 480) (hh : A.handled = none)
    {ll lp : Addr} {vs : List Value} {ps : List (PySem.Str × PySem.Str)} (hP : s.heap.get? 89 = some (tabObj #[])) (hll : s.heap.IsList ll #[.ref lp]) (hlp : s.heap.IsList lp vs.toArray) (hps : ∀ (i : Nat) (v : Value), vs[i]? = some v → ∃ kx, ps[i]? = some kx ∧ PairAt s.heap v kx) (hlen : vs.length = ps.length) (h0 : ps ≠ []) (h9 : ps.length ≤ 20) (hz : ∀ kx ∈ ps, kx.1.cps.size ≤ 10 ∧ kx.2.cps.size ≤ 100)
    (hR : ∀ h' psx tk' tk'', Heap.ExtBut 89 s.heap h' → h'.get? 89 = some (tabObj psx) → R (.ok (.ret (.str (joinT ps) tk'))) { s with heap := h', toks := tk'' })
   : codeAny (model prog w) A (.call (.ref 94) ⟨[.ref ll], []⟩) R s := by
  w_on
  refine' call_ret (binds := [(PySem.Str.ofString "lists", Value.ref ll)]) X T ?k6 ?k7 (by show A.depth < 1000; omega) ?k9 ?kB ?_ ?c2 ?c3 ?c4 ?c5
  walk_at "mine sides"
  intro L h₁ tk F N
  (try dsimp only)
  obtain ⟨g, lo', Xg, Tg, Cg, Fg, Ng, lg, kg⟩ := aside X T frag_noTabs (code94 X) hP F
  have ne : ∀ {b o}, s.heap.get? b = some o → o.cls ≠ .none → b ≠ 89 := fun e hc q => hc (by rw [q, hP] at e; cases e; rfl)
  have gll : g.IsList ll #[.ref lp] := by obtain ⟨o, e, hc, r⟩ := hll; exact ⟨o, kg _ _ (ne e (by rw [hc]; nofun)) e, hc, r⟩
  have glp : g.IsList lp vs.toArray := by obtain ⟨o, e, hc, r⟩ := hlp; exact ⟨o, kg _ _ (ne e (by rw [hc]; nofun)) e, hc, r⟩
  have gps : ∀ (i : Nat) (v : Value), vs[i]? = some v → ∃ kx, ps[i]? = some kx ∧ PairAt g v kx := by
    intro i v hv
    obtain ⟨kx, hk, a, tk, tx, rfl, o, e, hc, r⟩ := hps i v hv
    exact ⟨kx, hk, a, tk, tx, rfl, o, kg _ _ (ne e (by rw [hc]; nofun)) e, hc, r⟩
  have hgo : ∀ h' , (∀ b o, g.get? b = some o → h'.get? b = some o) → Heap.ExtBut 89 s.heap h' := fun h' hk b o hb e => hk b o (kg b o hb e)
  clear X T F N hll hlp hps ne kg
  clear hP
  k_steps
  (rename Fr _ _ _ _ => F0); (rename News _ _ _ _ => N0); (rename Addr => l1); (rename _ < l1 => o1)
  replace o1 := ltN o1
  refine iter_list (fun i (st : JoSt) => (i = 0 ∧ st = ⟨#[], 0, none⟩) ∨ (i = 1 ∧ st.out.size = 1 ∧ StrsAre st.out.toList [joinT ps] ∧ TabOk (PySem.Str.ofString "join_header_words" ++ PySem.Str.ofString ".<locals>." ++ PySem.Str.ofString "<lambda>") l1 st.tab))
    (fun st => [(PySem.Str.ofString "headers", Value.ref l1)])
    (fun st => (l1, W.listOf st.out st.n) :: tabNw 89 60 50 st.tab) ⟨#[], 0, none⟩ hh F0 N0 (fun h m' st F _ => gll.at fun o e => F.keep _ o e) (.inl ⟨rfl, rfl⟩) ⟨rfl, trivial⟩ (fun p hp => hp) ?mT ?mD rfl rfl rfl
  case mT =>
    intro i st v m' h tk It oi hIt hoi hv hI hne F N
    rcases hI with ⟨rfl, rfl⟩ | ⟨rfl, _⟩
    rotate_left
    · simp at hv
    have hv' : v = .ref lp := by simpa using hv.symm
    subst hv'
    have hIt' := ltN (hIt _ (.head _))
    k_steps
    (rename Addr => l2)
    (rename Fr _ _ _ _ => F0); (rename News _ _ _ _ => N0); (rename _ ∧ _ => o2)
    have o2a := ltN o2.1
    have o2b := ltN o2.2.1
    have o2c := ltN o2.2.2.1
    dsimp only at o2a o2b o2c
    refine iter_pairs (fun i (st : JoSt) => st.out.size = i ∧ StrsAre st.out.toList ((ps.take i).map partOf) ∧ TabOk (PySem.Str.ofString "join_header_words" ++ PySem.Str.ofString ".<locals>." ++ PySem.Str.ofString "<lambda>") l2 st.tab)
      (fun st => [(PySem.Str.ofString "attr", Value.ref l2), (PySem.Str.ofString "headers", Value.ref l1)])
      (fun st => (l2, W.listOf st.out st.n) :: (It, oi) :: (l1, W.listOf #[] 0) :: tabNw 89 60 50 st.tab) ⟨#[], 0, none⟩ hh F0 N0 (fun h m' st F _ => glp.at fun o e => F.keep _ o e) ?_ ⟨rfl, .nil, trivial⟩ ⟨rfl, rfl, trivial⟩ (fun p hp => hp) ?nT ?nD rfl
    · intro i v hv
      obtain ⟨kx, _, a, tk, tx, rfl, _⟩ := gps i v (by simpa using hv)
      exact ⟨a, rfl⟩
    case nT =>
      intro i st a m' h tk It2 oi2 hIt2 hoi2 hv2 hI hne2 F N
      obtain ⟨hI1, hI2, hI3⟩ := hI
      obtain ⟨kx, hkx, a', tk1, tx, ea, htup⟩ := gps i _ (by simpa using hv2)
      cases ea
      have hk9 := hz kx (List.mem_of_getElem? hkx)
      have hk1 : kx.1.length ≤ 10 := hk9.1
      have hk2 : kx.2.length ≤ 100 := hk9.2
      have htup' : IsTup h a #[.str kx.1 tk1, .str kx.2 tx] := by obtain ⟨o, e, r⟩ := htup; exact ⟨o, F.keep _ _ e, r⟩
      obtain ⟨out, n, tab⟩ := st
      have n1 := neN (hne2 _ (.head _))
      have n2 := neN (hne2 _ (.tail _ (.head _)))
      have n3 := neN (hne2 _ (.tail _ (.tail _ (.head _))))
      dsimp only at hI1 hI2 hI3 N hne2 F n1 n2 n3
      have hTn : ∀ p ∈ tabNw 89 60 50 tab, p.1 ≠ It2 := fun p hp => hne2 p (.tail _ (.tail _ (.tail _ hp)))
      obtain ⟨r4, hr4⟩ : ∃ r4 : List (Addr × Obj), r4 = [(It2, oi2), (l2, W.listOf out n), (It, oi), (l1, W.listOf #[] 0)] := ⟨_, rfl⟩
      have w89 : ∀ p ∈ r4, p.1 ≠ 89 := by
        intro p hp
        rw [hr4] at hp
        rcases List.mem_cons.mp hp with rfl | hp
        · exact Nat.ne_of_gt (tab89 (fun p hp => hIt2 p (.tail _ (.tail _ (.tail _ hp)))))
        rcases List.mem_cons.mp hp with rfl | hp
        · exact Nat.ne_of_gt o2c
        rcases List.mem_cons.mp hp with rfl | hp
        · exact Nat.ne_of_gt (Nat.lt_trans o1 hIt')
        rcases List.mem_cons.mp hp with rfl | hp
        · exact Nat.ne_of_gt o1
        · exact nomatch hp
      have m2 : (l2, W.listOf out n) ∈ r4 := by rw [hr4]; exact .tail _ (.head _)
      replace N := News_sub (news' := tabNw 89 60 50 tab ++ r4) N (fun p hp => by
        rcases List.mem_append.mp hp with hp | hp
        · exact .tail _ (.tail _ (.tail _ (.tail _ hp)))
        · rw [hr4] at hp
          rcases List.mem_cons.mp hp with rfl | hp
          · exact .head _
          rcases List.mem_cons.mp hp with rfl | hp
          · exact .tail _ (.head _)
          rcases List.mem_cons.mp hp with rfl | hp
          · exact .tail _ (.tail _ (.head _))
          rcases List.mem_cons.mp hp with rfl | hp
          · exact .tail _ (.tail _ (.tail _ (.head _)))
          · exact nomatch hp)
      generalize hrest : tabNw 89 60 50 tab ++ r4 = rest at N
      refine unpackN_ F N htup' (by exact hh) (by rfl) (by rfl) ?_
      intro h5 F5 N5
      k_steps
      unfold Stop
      refine wpAny_execs_cons ?_
      k_steps
      unfold Stop
      (rename Fr _ _ _ _ => F6); (rename News _ _ _ _ => N6)
      refine seq_gen F6 (fun m news => ∃ tab' t, TabOk (PySem.Str.ofString "join_header_words" ++ PySem.Str.ofString ".<locals>." ++ PySem.Str.ofString "<lambda>") l2 tab' ∧ (∀ p ∈ tabNw 89 60 50 tab', p.1 ≠ It2) ∧ Pins m [(PySem.Str.ofString "v", Value.str (writ kx.2) t), (PySem.Str.ofString "k", Value.str kx.1 tk1), (PySem.Str.ofString "attr", Value.ref l2), (PySem.Str.ofString "headers", Value.ref l1)] ∧ ∀ p ∈ tabNw 89 60 50 tab' ++ r4, p ∈ news) ?_ ?_
      · intro QQ hQ
        k_steps
        refine call_full (pat82 (Xg.keeps F6.keep)) (by omega) ?_ ?_
        · intro htk m h6 b e hst him
          replace F6 := Fr_stays F6 hst
          replace N6 := News_stays N6 hst
          clear hst
          (try dsimp only)
          refine truthy_match him ?_
          k_steps
          rw [show writ kx.2 = kx.2 from if_pos htk] at hQ
          exact hQ F6 N6 ⟨tab, tx, hI3, hTn, ⟨rfl, rfl, rfl, rfl, trivial⟩, fun p hp => hrest ▸ hp⟩
        · intro htk
          have hwq : writ kx.2 = PySem.Str.ofString "\"" ++ ⟨(esc kx.2.cps.toList).toArray⟩ ++ PySem.Str.ofString "\"" := writ_quo htk
          have hk3 : (⟨(esc kx.2.cps.toList).toArray⟩ : PySem.Str).length ≤ 200 := by
            have := esc_le2 kx.2.cps.toList
            simp only [Array.length_toList] at this
            show ((esc kx.2.cps.toList).toArray).size ≤ 200
            simp only [List.size_toArray]; omega
          rcases tab with _ | ⟨c', oc⟩
          · have N7 : News _ _ _ ((89, tabObj #[]) :: r4) := fun p hp => N6 p (hrest ▸ hp)
            clear N6
            k_steps
            (rename Fr _ _ _ _ => F7); (rename News _ _ _ _ => N7); (rename _ = Data.fields _ => d1); (rename (_ : Option Value) = some (Value.str _ _) => d2); (rename _ ∧ _ => o3)
            have p1 := allLt_get o3.2 _ m2
            have p0 := allLt_get o3.2 (It2, oi2) (by rw [hr4]; exact .head _)
            refine call_sub (k := 10) (by decide) (by omega) (pat87 (Xg.keeps F7.keep)) (N7 _ (.head _)).1 rfl (esc_small (n := 100) (by omega)) (esc_sub kx.2) ?_ ?_
            · intro h9 tk9 found b e p9 q9 R9 hst9 hpq9 him9 hR9
              have T9 := Tg.keeps (fun b o e => hst9 b o (F7.keep b o e))
              have cr : h9.CodeRec (.ref _) _ := ⟨_, _, _, _, rfl, hst9 _ _ (N7 _ (.tail _ (.head _))).1, d1, d2⟩
              have ho9 := hst9 _ _ (N7 _ (.head _)).1
              have hsz9 : (kx.2.cps.extract p9 q9).size ≤ 100 := by simp only [Array.size_extract]; omega
              clear F7 N7 hQ
              refine call_lam T9 ho9 cr (by show A.depth + 1 < 1000; omega) rfl (locs rfl) ?_ rfl rfl rfl (by decide)
              intro L9 h8 tk8 F8 N8
              refine gen_post ?_
              intro LP hLP
              dsimp only at F8 N8
              k_steps
              refine getMethod_group (him9.stays F8.keep) ?_
              k_steps
              refine call_group1 (him9.stays F8.keep) (Nat.le_trans hk9.2 (by decide)) ?_
              intro t1 t2
              have hl9 : (⟨kx.2.cps.extract p9 q9⟩ : PySem.Str).length ≤ 100 := hsz9
              k_steps
              · rw [app92]
                subst hLP
                (rename Fr _ _ _ _ => F4)
                exact hR9 _ _ _ F4.keep
              · have hz9 : ((⟨kx.2.cps.extract p9 q9⟩ : PySem.Str).length : Int) = 0 := by assumption
                rw [app92_nil hz9]
                subst hLP
                (rename Fr _ _ _ _ => F4)
                exact hR9 _ _ _ F4.keep
            · intro tk7 h7 tk6 hst7
              replace F7 := Fr_stays F7 hst7
              replace N7 := News_stays N7 hst7
              clear hst7
              (try dsimp only)
              generalize (⟨(esc kx.2.cps.toList).toArray⟩ : PySem.Str) = ez at hk3 hwq
              k_steps
              (rename Fr _ _ _ _ => F9); (rename News _ _ _ _ => N9)
              rw [hwq] at hQ
              refine hQ F9 N9 ⟨some (_, _), _, ⟨p1, _, _, d1, d2⟩, tab_two (hTn _ (.head _)) (Nat.ne_of_gt p0), ⟨rfl, rfl, rfl, rfl, trivial⟩, fun p hp => ?_⟩
              rcases List.mem_cons.mp hp with rfl | hp
              · k_mem
              rcases List.mem_cons.mp hp with rfl | hp
              · k_mem
              · exact .tail _ (.tail _ (.tail _ hp))
          · have N7 : News _ _ _ ((89, tabObj #[rawInt 60, rawInt 50, .ref c']) :: (c', oc) :: r4) := fun p hp => N6 p (hrest ▸ hp)
            clear N6
            obtain ⟨p1, vsq, tq, d1, d2⟩ := hI3
            k_steps
            (rename Fr _ _ _ _ => F7); (rename News _ _ _ _ => N7)
            refine call_sub (k := 10) (by decide) (by omega) (pat87 (Xg.keeps F7.keep)) (N7 _ (.head _)).1 rfl (esc_small (n := 100) (by omega)) (esc_sub kx.2) ?_ ?_
            · intro h9 tk9 found b e p9 q9 R9 hst9 hpq9 him9 hR9
              have T9 := Tg.keeps (fun b o e => hst9 b o (F7.keep b o e))
              have cr : h9.CodeRec (.ref _) _ := ⟨_, _, _, _, rfl, hst9 _ _ (N7 _ (.tail _ (.tail _ (.head _)))).1, d1, d2⟩
              have ho9 := hst9 _ _ (N7 _ (.head _)).1
              have hsz9 : (kx.2.cps.extract p9 q9).size ≤ 100 := by simp only [Array.size_extract]; omega
              clear F7 N7 hQ
              refine call_lam T9 ho9 cr (by show A.depth + 1 < 1000; omega) rfl (locs rfl) ?_ rfl rfl rfl (by decide)
              intro L9 h8 tk8 F8 N8
              refine gen_post ?_
              intro LP hLP
              dsimp only at F8 N8
              k_steps
              refine getMethod_group (him9.stays F8.keep) ?_
              k_steps
              refine call_group1 (him9.stays F8.keep) (Nat.le_trans hk9.2 (by decide)) ?_
              intro t1 t2
              have hl9 : (⟨kx.2.cps.extract p9 q9⟩ : PySem.Str).length ≤ 100 := hsz9
              k_steps
              · rw [app92]
                subst hLP
                (rename Fr _ _ _ _ => F4)
                exact hR9 _ _ _ F4.keep
              · have hz9 : ((⟨kx.2.cps.extract p9 q9⟩ : PySem.Str).length : Int) = 0 := by assumption
                rw [app92_nil hz9]
                subst hLP
                (rename Fr _ _ _ _ => F4)
                exact hR9 _ _ _ F4.keep
            · intro tk7 h7 tk6 hst7
              replace F7 := Fr_stays F7 hst7
              replace N7 := News_stays N7 hst7
              clear hst7
              (try dsimp only)
              generalize (⟨(esc kx.2.cps.toList).toArray⟩ : PySem.Str) = ez at hk3 hwq
              k_steps
              (rename Fr _ _ _ _ => F9); (rename News _ _ _ _ => N9)
              rw [hwq] at hQ
              refine hQ F9 N9 ⟨some (c', oc), _, ⟨p1, _, _, d1, d2⟩, hTn, ⟨rfl, rfl, rfl, rfl, trivial⟩, fun p hp => ?_⟩
              rcases List.mem_cons.mp hp with rfl | hp
              · k_mem
              rcases List.mem_cons.mp hp with rfl | hp
              · k_mem
              · exact .tail _ (.tail _ (.tail _ hp))
      intro h8 m8 news8 tk8 F8 N8 hP8
      obtain ⟨tab', tv, hT', hTn', hpin, hsub⟩ := hP8
      replace F8 := Mine.Fr.over hpin F8
      replace N8 := News_sub (news' := (l2, W.listOf out n) :: (It2, oi2) :: (It, oi) :: (l1, W.listOf #[] 0) :: tabNw 89 60 50 tab') N8 (fun p hp => hsub p (by
        rcases List.mem_cons.mp hp with rfl | hp
        · exact List.mem_append_right _ m2
        rcases List.mem_cons.mp hp with rfl | hp
        · exact List.mem_append_right _ (by rw [hr4]; exact .head _)
        rcases List.mem_cons.mp hp with rfl | hp
        · exact List.mem_append_right _ (by rw [hr4]; exact .tail _ (.tail _ (.head _)))
        rcases List.mem_cons.mp hp with rfl | hp
        · exact List.mem_append_right _ (by rw [hr4]; exact .tail _ (.tail _ (.tail _ (.head _))))
        · exact List.mem_append_left _ hp))
      clear F6 N6 hpin hsub
      have hpe : PySem.Str.empty ++ kx.1 ++ PySem.Str.ofString "=" ++ writ kx.2 = partOf kx := part_any kx
      have hwl : (writ kx.2).length ≤ 300 := writ_len hk2
      generalize writ kx.2 = wv at F8 hpe hwl
      have l89 : @LT.lt Nat _ 89 l2 := o2c
      have w2 : ∀ p ∈ tabNw 89 60 50 tab', p.1 ≠ l2 := tab_ne hT' (Nat.ne_of_lt l89)
      have o2d : @Ne Nat l1 l2 := Nat.ne_of_lt o2b
      have o2e : @Ne Nat It l2 := Nat.ne_of_lt o2a
      generalize hTb : tabNw 89 60 50 tab' = tb at N8 w2 hTn'
      refine gen_post ?_
      intro TP hTP
      k_steps
      subst hTP
      (try dsimp only)
      k_steps
      (rename Fr _ _ _ _ => F9); (rename News _ _ _ _ => N9)
      rw [hpe] at N9
      subst hTb
      refine TurnEnd.intro ⟨out.push (.str (partOf kx) ?tkE), n + 1, tab'⟩ F9 N9 ?_ ⟨rfl, rfl, trivial⟩ ?neE ?subE
      case subE =>
        intro p hp
        rcases List.mem_cons.mp hp with rfl | hp
        · k_mem
        rcases List.mem_cons.mp hp with rfl | hp
        · k_mem
        rcases List.mem_cons.mp hp with rfl | hp
        · k_mem
        rcases List.mem_cons.mp hp with rfl | hp
        · k_mem
        · exact .tail _ (.tail _ (.tail _ (.tail _ hp)))
      case neE =>
        intro p hp
        rcases List.mem_cons.mp hp with rfl | hp
        · exact n1
        rcases List.mem_cons.mp hp with rfl | hp
        · exact n2
        rcases List.mem_cons.mp hp with rfl | hp
        · exact n3
        · exact hTn' p hp
      exact ⟨by show (out.push _).size = i + 1; rw [Array.size_push, hI1], jo_turn hI2 hkx rfl, hT'⟩
    case nD =>
      intro st m' h tk hI F N
      obtain ⟨hI1, hI2, hI3⟩ := hI
      obtain ⟨out, n, tab⟩ := st
      dsimp only at hI1 hI2 hI3 N F
      have hvs : vs.toArray.size = ps.length := by simp [hlen]
      have hp0 : 0 < ps.length := List.length_pos_iff.mpr h0
      have hz0 : out.size ≤ 100 := by omega
      have hz1 : 0 < out.size := by omega
      have hem : out.isEmpty = false := by cases out with | mk l => cases l with | nil => exact absurd hz1 (Nat.lt_irrefl _) | cons a r => rfl
      rw [hvs, List.take_length] at hI2
      rcases tab with _ | ⟨c', oc⟩
      · skip
        dsimp only [tabNw] at N
        k_steps
        refine join_list (x := PySem.Str.ofString "; ") (D := l2) ⟨_, (N _ (.head _)).1, rfl, _, rfl⟩ hI2 (joins_fit hz h9) ?_
        intro t9 k9
        k_steps
        (rename Fr _ _ _ _ => F9); (rename News _ _ _ _ => N9)
        refine TurnEnd.intro ⟨#[].push (.str (joinT ps) t9), 0 + 1, none⟩ F9 N9 (.inr ⟨trivial, rfl, .cons _ _ .nil, trivial⟩) ⟨rfl, trivial⟩ ?nzA ?szA
        case szA =>
          intro p hp
          repeat (rcases List.mem_cons.mp hp with rfl | hp; · k_mem)
          exact nomatch hp
        case nzA =>
          intro p hp
          rcases List.mem_cons.mp hp with rfl | hp
          · exact Nat.ne_of_lt hIt'
          rcases List.mem_cons.mp hp with rfl | hp
          · exact Nat.ne_of_lt (ltN (hIt (89, tabObj #[]) (.tail _ (.head _))))
          exact nomatch hp
      · have p1 := ltN hI3.1
        dsimp only [tabNw] at N
        k_steps
        refine join_list (x := PySem.Str.ofString "; ") (D := l2) ⟨_, (N _ (.head _)).1, rfl, _, rfl⟩ hI2 (joins_fit hz h9) ?_
        intro t9 k9
        k_steps
        (rename Fr _ _ _ _ => F9); (rename News _ _ _ _ => N9)
        refine TurnEnd.intro ⟨#[].push (.str (joinT ps) t9), 0 + 1, some (c', oc)⟩ F9 N9 (.inr ⟨trivial, rfl, .cons _ _ .nil, ⟨Nat.lt_trans o2b hI3.1, hI3.2⟩⟩) ⟨rfl, trivial⟩ ?nzB ?szB
        case szB =>
          intro p hp
          repeat (rcases List.mem_cons.mp hp with rfl | hp; · k_mem)
          exact nomatch hp
        case nzB =>
          intro p hp
          rcases List.mem_cons.mp hp with rfl | hp
          · exact Nat.ne_of_lt hIt'
          rcases List.mem_cons.mp hp with rfl | hp
          · exact Nat.ne_of_lt (ltN (hIt (89, tabObj #[]) (.tail _ (.head _))))
          rcases List.mem_cons.mp hp with rfl | hp
          · exact fun q => Nat.lt_irrefl _ (Nat.lt_trans o2a (q ▸ hI3.1))
          exact nomatch hp
  case mD =>
    intro st m' h tk hI F N
    obtain ⟨out, n, tab⟩ := st
    rcases hI with ⟨hc, _⟩ | ⟨_, hI1, hI2, hI3⟩
    · exact absurd hc (by simp)
    dsimp only at hI1 hI2 hI3 N F
    k_steps
    refine join_list (x := PySem.Str.ofString ", ") (D := l1) ⟨_, (N _ (.head _)).1, rfl, _, rfl⟩ hI2 (by have := joinT_len hz h9; show (joinT ps).length + 0 + 1 * (PySem.Str.ofString ", ").length ≤ _; rw [show (PySem.Str.ofString ", ").length = 2 by decide +kernel]; omega) ?_
    intro t9 k9
    obtain ⟨psx, hpsx⟩ : ∃ psx, h.get? 89 = some (tabObj psx) := by
      rcases tab with _ | ⟨c', oc⟩
      · exact ⟨_, (N _ (.tail _ (.head _))).1⟩
      · exact ⟨_, (N _ (.tail _ (.head _))).1⟩
    exact hR h psx _ _ (hgo _ F.keep) hpsx
end
section
-- F14
set_option maxRecDepth 100000
set_option maxHeartbeats 0

structure RwSt where
  init : List (Addr × Array Value × Nat)
  last : Addr × Array Value × Nat
  n : Nat
def rwAll (st : RwSt) : List (Addr × Array Value × Nat) := st.init ++ [st.last]
def rwRefs (rs : List (Addr × Array Value × Nat)) : Array Value := (rs.map fun r => Value.ref r.1).toArray
def rwObjs (rs : List (Addr × Array Value × Nat)) : List (Addr × Obj) := rs.map fun r => (r.1, W.listOf r.2.1 r.2.2)
def rwNews (l1 : Addr) (st : RwSt) : List (Addr × Obj) := (st.last.1, W.listOf st.last.2.1 st.last.2.2) :: (l1, W.listOf (rwRefs (rwAll st)) st.n) :: rwObjs st.init
theorem rwRefs_size (rs : List (Addr × Array Value × Nat)) : (rwRefs rs).size = rs.length := by simp [rwRefs]
theorem rwRefs_push (rs : List (Addr × Array Value × Nat)) (r : Addr × Array Value × Nat) : rwRefs (rs ++ [r]) = (rwRefs rs).push (.ref r.1) := by simp [rwRefs]
theorem rwRefs_last (rs : List (Addr × Array Value × Nat)) (r : Addr × Array Value × Nat) : (rwRefs (rs ++ [r]))[(rwRefs (rs ++ [r])).size - 1]? = some (.ref r.1) := by
  rw [rwRefs_push]; simp
theorem rwObjs_snoc (rs : List (Addr × Array Value × Nat)) (r : Addr × Array Value × Nat) {p : Addr × Obj} (h : p ∈ rwObjs (rs ++ [r])) : p = (r.1, W.listOf r.2.1 r.2.2) ∨ p ∈ rwObjs rs := by
  unfold rwObjs at h
  rw [List.map_append] at h
  rcases List.mem_append.mp h with h | h
  · exact .inr h
  · exact .inl (List.mem_singleton.mp h)
def lastAdd (rs : List (List Int)) (x : Int) : List (List Int) := rs.dropLast ++ [rs.getLastD [] ++ [x]]
def rowsStep (rs : List (List Int)) (x : Int) : List (List Int) :=
  if x % 5 = 0 then (if rs.length < 4 then rs ++ [[]] else rs) else if x % 5 < 3 then lastAdd rs (61 + x % 5) else lastAdd rs (x / 5)
def rowsRun (ns : List Int) : List (List Int) := ns.foldl rowsStep [[]]
theorem rows_step {ns : List Int} {i : Nat} {n : Int} (hn : ns[i]? = some n) : rowsRun (ns.take (i + 1)) = rowsStep (rowsRun (ns.take i)) n := by
  have : ns.take (i + 1) = ns.take i ++ [n] := by rw [List.take_add_one, hn]; rfl
  unfold rowsRun; rw [this, List.foldl_append]; rfl
theorem fmod5 (n : Int) : n.fmod 5 = n % 5 := Int.fmod_eq_emod_of_nonneg _ (by decide)
theorem rows_add {ns : List Int} {i : Nat} {n : Int} {Rs : List (List Int)} (ha : n.fmod 5 = 0) (hr : rowsRun (ns.take i) = Rs) (hl : Rs.length < 4) (hn : ns[i]? = some n) : rowsRun (ns.take (i + 1)) = Rs ++ [[]] := by
  rw [rows_step hn, hr]; unfold rowsStep; rw [if_pos (by rw [← fmod5]; exact ha), if_pos hl]
theorem rows_same {ns : List Int} {i : Nat} {n : Int} {Rs : List (List Int)} (ha : n.fmod 5 = 0) (hr : rowsRun (ns.take i) = Rs) (hl : ¬ Rs.length < 4) (hn : ns[i]? = some n) : rowsRun (ns.take (i + 1)) = Rs := by
  rw [rows_step hn, hr]; unfold rowsStep; rw [if_pos (by rw [← fmod5]; exact ha), if_neg hl]
theorem rows_mark {ns : List Int} {i : Nat} {n : Int} {Rs : List (List Int)} (ha : n.fmod 5 ≠ 0) (ha2 : n.fmod 5 < 3) (hr : rowsRun (ns.take i) = Rs) (hn : ns[i]? = some n) : rowsRun (ns.take (i + 1)) = lastAdd Rs (61 + n.fmod 5) := by
  rw [rows_step hn, hr]; rw [fmod5] at ha ha2 ⊢; unfold rowsStep; rw [if_neg ha, if_pos ha2]
theorem rows_fig {ns : List Int} {i : Nat} {n : Int} {Rs : List (List Int)} (ha : n.fmod 5 ≠ 0) (ha2 : ¬ n.fmod 5 < 3) (hr : rowsRun (ns.take i) = Rs) (hn : ns[i]? = some n) : rowsRun (ns.take (i + 1)) = lastAdd Rs (n.fdiv 5) := by
  rw [rows_step hn, hr]; rw [fmod5] at ha ha2; rw [Int.fdiv_eq_ediv_of_nonneg _ (by decide)]; unfold rowsStep; rw [if_neg ha, if_neg ha2]
def RowsOk (k : Nat) : List (Addr × Array Value × Nat) → List (List Int) → Prop
  | [], [] => True
  | r :: rs, R :: Rs => (IntsAre r.2.1.toList R ∧ r.2.1.size ≤ k) ∧ RowsOk k rs Rs
  | _, _ => False
theorem rowsOk_at {k : Nat} : ∀ {rs : List (Addr × Array Value × Nat)} {Rs : List (List Int)}, RowsOk k rs Rs → ∀ {i : Nat} {r}, rs[i]? = some r → ∃ R, Rs[i]? = some R ∧ IntsAre r.2.1.toList R ∧ r.2.1.size ≤ k
  | [], _, _, i, r, h => by simp at h
  | _ :: _, [], x, _, _, _ => x.elim
  | a :: rs, R :: Rs, x, 0, r, h => by cases h; exact ⟨R, rfl, x.1.1, x.1.2⟩
  | a :: rs, R :: Rs, x, i + 1, r, h => rowsOk_at x.2 (i := i) h
theorem rowsOk_len {k : Nat} : ∀ {rs : List (Addr × Array Value × Nat)} {Rs : List (List Int)}, RowsOk k rs Rs → rs.length = Rs.length
  | [], [], _ => rfl
  | [], _ :: _, x => x.elim
  | _ :: _, [], x => x.elim
  | _ :: _, _ :: _, x => by rw [List.length_cons, List.length_cons, rowsOk_len x.2]
theorem rowsOk_up {k : Nat} : ∀ {rs : List (Addr × Array Value × Nat)} {Rs : List (List Int)}, RowsOk k rs Rs → RowsOk (k + 1) rs Rs
  | [], [], x => x
  | [], _ :: _, x => x.elim
  | _ :: _, [], x => x.elim
  | _ :: _, _ :: _, x => ⟨⟨x.1.1, Nat.le_succ_of_le x.1.2⟩, rowsOk_up x.2⟩
theorem rowsOk_snoc {k : Nat} {r : Addr × Array Value × Nat} {R : List Int} (h : IntsAre r.2.1.toList R ∧ r.2.1.size ≤ k) : ∀ {rs : List (Addr × Array Value × Nat)} {Rs : List (List Int)}, RowsOk k rs Rs → RowsOk k (rs ++ [r]) (Rs ++ [R])
  | [], [], _ => ⟨h, trivial⟩
  | [], _ :: _, x => x.elim
  | _ :: _, [], x => x.elim
  | _ :: _, _ :: _, x => ⟨x.1, rowsOk_snoc h x.2⟩
theorem rowsOk_last {k : Nat} {r : Addr × Array Value × Nat} : ∀ {rs : List (Addr × Array Value × Nat)} {Rs : List (List Int)}, RowsOk k (rs ++ [r]) Rs → ∃ Rs' R, Rs = Rs' ++ [R] ∧ RowsOk k rs Rs' ∧ IntsAre r.2.1.toList R ∧ r.2.1.size ≤ k
  | [], [], x => x.elim
  | [], [R], x => ⟨[], R, rfl, trivial, x.1⟩
  | [], _ :: _ :: _, x => x.2.elim
  | _ :: _, [], x => x.elim
  | _ :: rs, R :: Rs, x => by
    obtain ⟨Rs', R', e, h1, h2⟩ := rowsOk_last (rs := rs) (Rs := Rs) x.2
    exact ⟨R :: Rs', R', by rw [e]; rfl, ⟨x.1, h1⟩, h2⟩
theorem lastAdd_snoc (Rs : List (List Int)) (R : List Int) (v : Int) : lastAdd (Rs ++ [R]) v = Rs ++ [R ++ [v]] := by simp [lastAdd]
/-- what holds between the turns -/
def RwI (l1 : Addr) (ns : List Int) (i : Nat) (st : RwSt) : Prop :=
  RowsOk i (rwAll st) (rowsRun (ns.take i)) ∧ (rwAll st).length ≤ 4 ∧ @Ne Nat st.last.1 l1 ∧ (∀ p ∈ rwObjs st.init, p.1 ≠ l1) ∧ ∀ p ∈ rwObjs st.init, p.1 ≠ st.last.1
theorem st_ne {l1 It : Addr} {init : List (Addr × Array Value × Nat)} {a : Addr} {va : Array Value} {na k : Nat} {Ob : List (Addr × Obj)} (e1 : a ≠ It) (e2 : l1 ≠ It) (e3 : ∀ p ∈ Ob, p.1 ≠ It) (hOb : rwObjs init = Ob) : ∀ p ∈ rwNews l1 ⟨init, (a, va, na), k⟩, p.1 ≠ It := by
  subst hOb
  intro p hp
  rcases List.mem_cons.mp hp with rfl | hp
  · exact e1
  rcases List.mem_cons.mp hp with rfl | hp
  · exact e2
  · exact e3 p hp
theorem st_sub {l1 It : Addr} {oi : Obj} {init : List (Addr × Array Value × Nat)} {a : Addr} {va : Array Value} {na k : Nat} {Ob : List (Addr × Obj)} {rf : Array Value} (hl : rwRefs (init ++ [(a, va, na)]) = rf) (hOb : rwObjs init = Ob) :
    ∀ p ∈ (It, oi) :: rwNews l1 ⟨init, (a, va, na), k⟩, p ∈ (It, oi) :: (a, W.listOf va na) :: (l1, W.listOf rf k) :: Ob := by
  subst hOb; subst hl
  exact fun p hp => hp
theorem last_at {prog : Program} {w : World} {A : Around} {E : Value → Shared → Prop} {s : Shared} {h₀ : Heap} {L : Addr} {news : List (Addr × Obj)} {value slice : Expr} {l : Addr} {rf : Array Value} {n : Nat} {u : Tok} {v : Value} {Q : Value → Shared → Prop}
    (N : News h₀ L s.heap news) (hm : (l, W.listOf rf n) ∈ news) (hz : 0 < rf.size) (hx : rf[rf.size - 1]? = some v) (h : Q v s)
    (hs : subscripted slice false (.ref l) (.int (-1) u) = operate [.ref l, .int (-1) u] (getItem (.ref l) (.int (-1) u)) := by with_unfolding_all rfl) (hg : ∀ r, letTemporaryGo value (.ref l) r = pure () := by intro _; with_unfolding_all rfl) :
    wpAny (model prog w) A (subscriptTail value slice (.ref l) (.int (-1) u)) Q E s := by
  have hl : s.heap.IsList l rf := ⟨_, (N _ hm).1, rfl, _, rfl⟩
  exact subscriptTail_builtin hl.typeIs slot_list_getitem.lookup (wpAny_getItem_list_neg hl (by decide) (by omega) (by decide) (by rw [show (-1 + (rf.size : Int)).toNat = rf.size - 1 by omega]; exact hx) h) hs hg
local macro_rules | `(tactic| k_all) => `(tactic| assumption)
local macro_rules | `(tactic| walk_at "subscriptTail Name UnaryOp ref int") => `(tactic| (k_here; (with_unfolding_all refine' last_at ?k1 ?k2 ?k3 ?k4 ?_; (case k1 => k_asm); (case k2 => k_mem); (case k3 => assumption); (case k4 => assumption)); k_whole))
local macro_rules | `(tactic| walk_at "eval ListComp") => `(tactic| (k_here; k_dflt (refine LCg.ListComp_U (F₀ := by k_asm) (by rfl) (by decide) (by rfl) (by decide) (by rfl) ?_)))
theorem rows_spec {prog : Program} {w : World} {A : Around} {s : Shared} {p : Program} {loose : List Str} {mg mb : Str → Option Value} {mean}
    (X : (Mine.hd.heap_1 w.params).In s.heap) (T : Top p loose mean mg mb s.heap) {R : Result → Shared → Prop} (hd : A.depth ≤ 480) (hh : A.handled = none)
    {l : Addr} {vs : List Value} {ns : List Int} (hl : s.heap.IsList l vs.toArray) (hi : IntsAre vs ns) (hb : ∀ n ∈ ns, 0 ≤ n ∧ n < 310) (hlen : ns.length ≤ 20)
    (hR : ∀ (l' : Addr) (outs : List (Addr × Array Value × Nat)) h' tk'', s.heap.StaysIn h' → s.heap.get? l' = none → h'.get? l' = some (LCg.lst (outs.map fun o => .ref o.1)) → (∀ o ∈ outs, s.heap.get? o.1 = none ∧ h'.get? o.1 = some (W.listOf o.2.1 o.2.2) ∧ o.1 ≠ l') → outs.length = (rowsRun ns).length → outs.length ≤ 4 → (∀ (i : Nat) (o : Addr × Array Value × Nat), outs[i]? = some o → ∃ Rw, (rowsRun ns)[i]? = some Rw ∧ IntsAre o.2.1.toList (wholeL Rw)) → R (.ok (.ret (.ref l'))) { s with heap := h', toks := tk'' })
   : codeAny (model prog w) A (.call (.ref 222) ⟨[.ref l], []⟩) R s := by
  w_on
  refine' call_ret (binds := [(PySem.Str.ofString "numbers", Value.ref l)]) X T ?k6 ?k7 (by show A.depth < 1000; omega) ?k9 ?kB ?_ ?c2 ?c3 ?c4 ?c5
  walk_at "mine sides"
  intro L h₁ tk F N
  (try dsimp only)
  k_steps
  (rename Fr _ _ _ _ => F0); (rename News _ _ _ _ => N0)
  rename_i a0 _ _ l1 _ hlt0 _ 
  refine iter_list (RwI l1 ns)
    (fun st => [(PySem.Str.ofString "rows", Value.ref l1)])
    (rwNews l1) ⟨[], (a0, #[], 0), 0⟩ hh F0 N0 (fun h m' st F _ => hl.at fun o e => F.keep _ o e) ?_ ⟨rfl, trivial⟩ ?gs ?mT ?mD rfl rfl rfl
  case gs =>
    intro p hp
    rcases List.mem_cons.mp hp with rfl | hp
    · k_mem
    rcases List.mem_cons.mp hp with rfl | hp
    · k_mem
    exact nomatch hp
  · exact ⟨⟨⟨.nil, Nat.le_refl _⟩, trivial⟩, Nat.le_of_ble_eq_true rfl, Nat.ne_of_lt (ltN hlt0), fun p hp => (nomatch hp), fun p hp => (nomatch hp)⟩
  case mT =>
    intro i st v m' h tk It oi hIt hoi hv hI hne F N
    obtain ⟨n, t, rfl, hn, hin⟩ := intsAre_at hi (by simpa using hv)
    have hn64 := hb n (List.mem_of_getElem? hn)
    obtain ⟨init, ⟨a, va, na⟩, k⟩ := st
    obtain ⟨hI1, hI2, hI3, hI4, hI5⟩ := hI
    obtain ⟨Rs, Ra, hr, hOk, hA, zA⟩ := rowsOk_last hI1
    have hRl := rowsOk_len hI1
    rw [hr] at hRl
    dsimp only [rwAll, rwNews] at hI2 hI3 hI4 hI5 N hne F hA zA hRl
    have e1 := neN (hne _ (.head _))
    have e2 := neN (hne _ (.tail _ (.head _)))
    have e3 : ∀ p ∈ rwObjs init, p.1 ≠ It := fun p hp => hne p (.tail _ (.tail _ hp))
    dsimp only at e1 e2
    have za' : va.size ≤ 100 := by omega
    have hl1 := rwRefs_last init (a, va, na)
    dsimp only at hl1
    have hl2 := rwRefs_size (init ++ [(a, va, na)])
    have hl3 := fun r => rwRefs_push (init ++ [(a, va, na)]) r
    have hl4 : ∀ v n, rwRefs (init ++ [(a, v, n)]) = rwRefs (init ++ [(a, va, na)]) := fun v n => by rw [rwRefs_push, rwRefs_push]
    generalize rwRefs (init ++ [(a, va, na)]) = rf at N hl1 hl2 hl3 hl4 hne
    generalize hOb : rwObjs init = Ob at N hI4 hI5 e3 hne
    have z0 : rf.size ≤ 100 := by omega
    have z1 : 0 < rf.size := by rw [hl2, List.length_append, List.length_singleton]; omega
    have hh4 : (Rs ++ [Ra]).length = rf.size := by rw [hl2]; exact hRl.symm
    rw [List.length_append, List.length_singleton] at hl2
    have hl5 : init.length + 1 = rf.size := hl2.symm
    have hI6 : init.length + 1 ≤ 4 := by rw [List.length_append, List.length_singleton] at hI2; exact hI2
    replace hI6 : ∀ r : Addr × Array Value × Nat, (init ++ [r]).length ≤ 4 := fun r => by rw [List.length_append, List.length_singleton]; exact hI6
    clear hI1 hI2 hRl hl2 hne
    k_steps
    · have ha : n.fmod 5 = 0 := by assumption
      have hl : (rf.size : Int) < 4 := by assumption
      (rename Fr _ _ _ _ => F9); (rename News _ _ _ _ => N9); (rename _ ∧ _ => o9)
      rename_i l9 hq1 Fq Nq hq2
      refine TurnEnd.intro ⟨init ++ [(a, va, na)], (l9, #[], 0), k + 1⟩ F9 N9 ⟨?_, ?_, Nat.ne_of_gt (ltN o9.2.2.1), ?_, ?_⟩ ⟨rfl, trivial⟩ ?_ ?_
      · rw [rows_add ha hr (by omega) hn]
        exact rowsOk_snoc ⟨.nil, Nat.zero_le _⟩ (rowsOk_up (rowsOk_snoc ⟨hA, zA⟩ hOk))
      · show (init ++ [(a, va, na)] ++ [(l9, #[], 0)]).length ≤ 4
        rw [List.length_append, List.length_append, List.length_singleton, List.length_singleton]; omega
      · intro p hp
        rcases rwObjs_snoc _ _ hp with rfl | hp
        · exact hI3
        · exact hI4 p (hOb ▸ hp)
      · intro p hp
        rcases rwObjs_snoc _ _ hp with rfl | hp
        · exact Nat.ne_of_lt (ltN o9.2.1)
        · exact allLt_tail (pre := []) o9.2.2.2 p (hOb ▸ hp)
      · intro p hp
        rcases List.mem_cons.mp hp with rfl | hp
        · exact Nat.ne_of_gt (ltN o9.1)
        rcases List.mem_cons.mp hp with rfl | hp
        · exact e2
        rcases rwObjs_snoc _ _ hp with rfl | hp
        · exact e1
        · exact e3 p (hOb ▸ hp)
      · intro p hp
        rcases List.mem_cons.mp hp with rfl | hp
        · k_mem
        rcases List.mem_cons.mp hp with rfl | hp
        · exact .head _
        rcases List.mem_cons.mp hp with rfl | hp
        · rw [show rwRefs (rwAll ⟨init ++ [(a, va, na)], (l9, #[], 0), k + 1⟩) = rf.push (.ref l9) from hl3 _]; k_mem
        rcases rwObjs_snoc _ _ hp with rfl | hp
        · k_mem
        · exact .tail _ (.tail _ (.tail _ (.tail _ (hOb ▸ hp))))
    · have ha : n.fmod 5 = 0 := by assumption
      have hl : ¬ (rf.size : Int) < 4 := by assumption
      refine TurnEnd.intro ⟨init, (a, va, na), k⟩ F N ⟨?_, hI6 _, hI3, hOb ▸ hI4, hOb ▸ hI5⟩ ⟨rfl, trivial⟩ (st_ne e1 e2 e3 hOb) (st_sub (hl4 _ _) hOb)
      rw [rows_same ha hr (by omega) hn]
      exact rowsOk_up (rowsOk_snoc ⟨hA, zA⟩ hOk)
    · have ha : n.fmod 5 ≠ 0 := by assumption
      have ha2 : n.fmod 5 < 3 := by assumption
      (rename Fr _ _ _ _ => F9); (rename News _ _ _ _ => N9)
      refine TurnEnd.intro ⟨init, (a, va.push (.int (61 + n.fmod 5) _), na + 1), k⟩ F9 N9 ⟨?mI1, hI6 _, hI3, hOb ▸ hI4, hOb ▸ hI5⟩ ⟨rfl, trivial⟩ (st_ne e1 e2 e3 hOb) (st_sub (hl4 _ _) hOb)
      rw [rows_mark ha ha2 hr hn, lastAdd_snoc]
      exact rowsOk_snoc ⟨by rw [Array.toList_push]; exact intsAre_snoc hA _ _, by rw [Array.size_push]; exact Nat.succ_le_succ zA⟩ (rowsOk_up hOk)
    · have ha : n.fmod 5 ≠ 0 := by assumption
      have ha2 : ¬ n.fmod 5 < 3 := by assumption
      (rename Fr _ _ _ _ => F9); (rename News _ _ _ _ => N9)
      refine TurnEnd.intro ⟨init, (a, va.push (.int (n.fdiv 5) _), na + 1), k⟩ F9 N9 ⟨?mI2, hI6 _, hI3, hOb ▸ hI4, hOb ▸ hI5⟩ ⟨rfl, trivial⟩ (st_ne e1 e2 e3 hOb) (st_sub (hl4 _ _) hOb)
      rw [rows_fig ha ha2 hr hn, lastAdd_snoc]
      exact rowsOk_snoc ⟨by rw [Array.toList_push]; exact intsAre_snoc hA _ _, by rw [Array.size_push]; exact Nat.succ_le_succ zA⟩ (rowsOk_up hOk)
  case mD =>
    intro st m' h tk hI F N
    obtain ⟨hok, h4, _⟩ := hI
    replace N := News_sub (news' := (l1, W.listOf (rwRefs (rwAll st)) st.n) :: (rwAll st).map fun r => (r.1, W.listOf r.2.1 r.2.2)) N (fun p hp => by
      rcases List.mem_cons.mp hp with rfl | hp
      · exact .tail _ (.head _)
      · obtain ⟨r, hr, rfl⟩ := List.mem_map.mp hp
        rcases List.mem_append.mp hr with hr | hr
        · exact .tail _ (.tail _ (List.mem_map.mpr ⟨r, hr, rfl⟩))
        · rw [List.mem_singleton.mp hr]; exact .head _)
    have ht : ns.take vs.toArray.size = ns := List.take_of_length_le (by have := IntsAre.length hi; simp; omega)
    rw [ht] at hok
    have hsz : (rwRefs (rwAll st)).size ≤ sizeLine := by rw [sizeLine_eq, rwRefs_size]; omega
    generalize rwAll st = rows at N hok h4 hsz
    k_steps
    refine LCg.CompSrc.ledger (by exact hh) F N (.head _) hsz ?_
    intro g
    refine lists_rest (rows := rows) (G := fun (i : Nat) (o : Addr × Array Value × Nat) => ∃ Rw, (rowsRun ns)[i]? = some Rw ∧ IntsAre o.2.1.toList (wholeL Rw)) ?_ (by simp [rwRefs]) ?_ ?_ ?_ ?_
    · intro i v _ hv
      simp only [rwRefs, List.getElem?_toArray, List.getElem?_map] at hv
      cases e : rows[i]? with
      | none => rw [e] at hv; cases hv
      | some r => rw [e] at hv; exact ⟨r, rfl, (Option.some.inj hv).symm⟩
    · intro r hr
      exact .tail _ (List.mem_map.mpr ⟨r, hr, rfl⟩)
    · intro extra
      exact .inr ⟨_, List.mem_append_right _ (.head _), rfl, _, rfl⟩
    · intro i r I oI C oC D m₂ ys h₂ tk₂ E' extra hr hC hx F₂ N₂
      obtain ⟨Rw, hRw, hIR, hzR⟩ := rowsOk_at hok hr
      k_steps
      refine wpAny_call (whole_spec (X.keeps F₂.keep) (T.keeps F₂.keep) (by show A.depth + 1 ≤ 500; omega) (by exact hh) (vs := r.2.1.toList) (by rw [Array.toArray_toList]; exact ⟨_, (N₂ (r.1, W.listOf r.2.1 r.2.2) (.tail _ (.tail _ (.tail _ (List.mem_append_right _ (.tail _ (List.mem_map.mpr ⟨r, List.mem_of_getElem? hr, rfl⟩))))))).1, rfl, _, rfl⟩) hIR ?_ ?_)
      · have := IntsAre.length hIR; simp at this; simp at hzR; have := IntsAre.length hi; omega
      · intro l' vs' k' h' tk' hk hor hI'
        rcases hor with ⟨rfl, rfl⟩ | ⟨hf, ho⟩
        · exact ⟨r, h', tk', rfl, rfl, hk, .inl rfl, Rw, hRw, by simpa using hI'⟩
        · exact ⟨(l', vs', k'), h', tk', rfl, rfl, hk, .inr ⟨hf, ho⟩, Rw, hRw, hI'⟩
    · intro ys outs extra hy hlo hmo hG
      intro D h' tk' F' N' o1
      subst hy
      have hl := rowsOk_len hok
      have hne : ∀ {l : List (Addr × Obj)}, LCg.Off1 D l → ∀ p ∈ l, p.1 ≠ D := by
        intro l
        induction l with
        | nil => intro _ p hp; exact nomatch hp
        | cons q r ih =>
          intro x p hp
          rcases List.mem_cons.mp hp with rfl | hp
          · exact x.1
          · exact ih x.2 p hp
      refine hR D outs h' _ F'.keep (N' _ (.head _)).2.2 (N' _ (.head _)).1 (fun o ho => ?_) (by omega) (by omega) hG
      have z := N' _ (.tail _ (hmo o ho))
      exact ⟨z.2.2, z.1, hne o1 _ (hmo o ho)⟩
end
section
-- F16
set_option maxRecDepth 100000
set_option maxHeartbeats 0

local macro_rules | `(tactic| walk_at "truthy ref") => `(tactic| (refine truthy_match (isMatch_news (by k_asm) (by k_mem) (by k_mem)) ?_))
local macro_rules | `(tactic| walk_at "getMethod ref") => `(tactic| first
  | (refine getMethod_group (isMatch_news (by k_asm) (by k_mem) (by k_mem)) ?_)
  | (with_reducible refine getMethod_search (pat55 (Frag.In.keeps (by k_asm) (Fr.keep (by k_asm)))) ?_)
  | (with_reducible refine getMethod_search (pat60 (Frag.In.keeps (by k_asm) (Fr.keep (by k_asm)))) ?_)
  | (with_reducible refine getMethod_search (pat65 (Frag.In.keeps (by k_asm) (Fr.keep (by k_asm)))) ?_)
  | (with_reducible refine getMethod_sub (pat70 (Frag.In.keeps (by k_asm) (Fr.keep (by k_asm)))) ?_)
  | (with_reducible refine getMethod_subn (pat43 (Frag.In.keeps (by k_asm) (Fr.keep (by k_asm)))) ?_))
local macro_rules | `(tactic| k_all) => `(tactic| assumption)
local macro_rules | `(tactic| walk_at "last exec While") => `(tactic| ((with_reducible show wpAny _ _ (exec (Stmt.While _ _ _ _) _) _ _ _); refine stop_on ?_))
def tabT (P : Addr) (ln cl : Int) : TabSt → List (Addr × Obj) → List (Addr × Obj)
  | none, T => (P, tabObj #[]) :: T
  | some (c', oc), T => (P, tabObj #[rawInt ln, rawInt cl, .ref c']) :: (c', oc) :: T
theorem tabT_split {P : Addr} {ln cl : Int} {tab : TabSt} {a b c p : Addr × Obj} {T : List (Addr × Obj)} (h : p ∈ a :: b :: c :: tabT P ln cl tab T) : p ∈ tabT P ln cl tab (a :: b :: c :: T) := by
  rcases tab with _ | ⟨c', oc⟩ <;> simp only [tabT, List.mem_cons] at h ⊢ <;> grind
local macro_rules | `(tactic| walk_at "execs cons Assign cons") => `(tactic| ((with_reducible show wpAny _ _ (execs (Stmt.Assign _ _ _ :: Stmt.If _ _ _ _ :: Stmt.Expr _ _ :: []) _) _ _ _); refine stop_on ?_))
theorem while_gen {prog : Program} {w : World} {A : Around} {E : Value → Shared → Prop} {s : Shared} {g : Heap} {L : Addr} {m : Str → Option Value} {news : List (Addr × Obj)} {σ : Type} {env : Env} {test : Expr} {body : List Stmt} {pos : Pos} {Q : Flow → Shared → Prop} {n₀ : Nat}
    (I : Nat → σ → Prop) (ps : σ → List (Str × Value)) (nw : σ → List (Addr × Obj)) (st₀ : σ)
    (F : Fr g L s.heap m) (N : News g L s.heap news) (hI : I n₀ st₀) (hp : Pins m (ps st₀)) (hn : ∀ p ∈ nw st₀, p ∈ news)
    (turn : ∀ n st m' h tk (WP QX : Flow → Shared → Prop), WP = WhEnd g L s I ps nw Q n → QX = Q → I n st → Fr g L h (over (ps st) m') → News g L h (nw st) →
      wpAny (model prog w) A (isTrue test env (eval test env)) (fun b s₂ =>
        if b = true then wpAny (model prog w) A (execs body env) WP E s₂ else QX .next s₂) E { s with heap := h, toks := tk })
    (hE : PassesOwn (model prog w) A env E := by passes_own) :
    wpAny (model prog w) A (exec (.While test body [] pos) env) Q E s :=
  while_st I ps nw st₀ F N hI hp hn (fun n st m' h tk hi F N => turn n st m' h tk _ _ rfl rfl hi F N) hE
structure SpSt where
  k : Nat
  junk : Bool
  x : PySem.Str
  t : Tok
  outs : Array Value
  n : Nat
  tab : TabSt
  T : List (Addr × Obj)
def OutsOk (ps : List (PySem.Str × PySem.Str)) (outs : Array Value) (T : List (Addr × Obj)) : Prop :=
  ∀ (i : Nat) (v : Value), outs[i]? = some v → ∃ kx a tk tx, ps[i]? = some kx ∧ v = .ref a ∧ (a, tupObj #[.str kx.1 tk, .str kx.2 tx]) ∈ T
def lamQ (s : PySem.Str) : PySem.Str := s ++ PySem.Str.ofString ".<locals>." ++ PySem.Str.ofString "<lambda>"
def SpI (ps : List (PySem.Str × PySem.Str)) (lo : Addr) (n : Nat) (st : SpSt) : Prop :=
  n = 2 * (ps.length - st.k) + (if st.junk then 1 else 0) ∧ st.k ≤ ps.length ∧ (st.junk = false → st.k < ps.length) ∧ st.x.cps.toList = (if st.junk then restL (ps.drop st.k) else hdrL (ps.drop st.k)) ∧
    st.outs.size = st.k ∧ OutsOk ps st.outs st.T ∧ TabOk (lamQ (PySem.Str.ofString "split_header_words")) lo st.tab ∧ (∀ p ∈ st.T, @LT.lt Nat _ lo p.1) ∧ st.x.cps.size ≤ 6000
structure SoSt where
  res : Array Value
  n : Nat
  tab : TabSt
  T : List (Addr × Obj)
theorem tab_lo {q : PySem.Str} {lo : Addr} {tab : TabSt} {T : List (Addr × Obj)} {ln cl : Int} (h : TabOk q lo tab) (hT : ∀ p ∈ T, @LT.lt Nat _ lo p.1) : ∀ p ∈ tabT 72 ln cl tab T, p.1 = 72 ∨ @LT.lt Nat _ lo p.1 := by
  intro p hp
  rcases tab with _ | ⟨c', oc⟩
  · rcases List.mem_cons.mp hp with rfl | hp
    · exact .inl rfl
    · exact .inr (hT p hp)
  · rcases List.mem_cons.mp hp with rfl | hp
    · exact .inl rfl
    rcases List.mem_cons.mp hp with rfl | hp
    · exact .inr h.1
    · exact .inr (hT p hp)
theorem tabT_mem {P : Addr} {ln cl : Int} {tab : TabSt} {q p : Addr × Obj} {T : List (Addr × Obj)} (h : p ∈ tabT P ln cl tab (q :: T)) : p = q ∨ p ∈ tabT P ln cl tab T := by
  rcases tab with _ | ⟨c', oc⟩
  · rcases List.mem_cons.mp h with rfl | h
    · exact .inr (.head _)
    rcases List.mem_cons.mp h with rfl | h
    · exact .inl rfl
    · exact .inr (.tail _ h)
  · rcases List.mem_cons.mp h with rfl | h
    · exact .inr (.head _)
    rcases List.mem_cons.mp h with rfl | h
    · exact .inr (.tail _ (.head _))
    rcases List.mem_cons.mp h with rfl | h
    · exact .inl rfl
    · exact .inr (.tail _ (.tail _ h))
theorem ofs_nil : PySem.Str.ofString "" = ⟨#[]⟩ := by decide +kernel
theorem outs_push {ps : List (PySem.Str × PySem.Str)} {k : Nat} {outs : Array Value} {T : List (Addr × Obj)} {kx : PySem.Str × PySem.Str} {D : Addr} {t1 t2 : Tok} (h5 : outs.size = k) (h : OutsOk ps outs T) (hk : ps[k]? = some kx) : OutsOk ps (outs.push (.ref D)) ((D, tupObj #[.str kx.1 t1, .str kx.2 t2]) :: T) := by
  intro i v hv
  rw [Array.getElem?_push] at hv
  split at hv
  · rename_i hi
    cases hv
    refine ⟨kx, D, t1, t2, ?_, rfl, .head _⟩
    rw [hi, h5]; exact hk
  · obtain ⟨kx', a, tk, tx, e1, e2, e3⟩ := h i v hv
    exact ⟨kx', a, tk, tx, e1, e2, .tail _ e3⟩
theorem appN (x : Array Nat) : PySem.Str.ofString "" ++ (⟨x⟩ : PySem.Str) = ⟨x⟩ := by
  rw [show PySem.Str.ofString "" = ⟨#[]⟩ by decide +kernel]
  apply str_ext
  show ((#[] : Array Nat) ++ x).toList = _
  simp
theorem appN_nil {x : Array Nat} (h : ((⟨x⟩ : PySem.Str).length : Int) = 0) : PySem.Str.ofString "" ++ PySem.Str.ofString "" = ⟨x⟩ := by
  rw [show PySem.Str.ofString "" = ⟨#[]⟩ by decide +kernel]
  have hx : x = #[] := Array.eq_empty_of_size_eq_zero (by have : (⟨x⟩ : PySem.Str).length = 0 := by omega
                                                          exact this)
  subst hx; rfl
theorem str_toL (x : PySem.Str) : (⟨x.cps.toList.toArray⟩ : PySem.Str) = x := by cases x; simp
theorem split_spec {prog : Program} {w : World} {A : Around} {s : Shared} {p : Program} {loose : List Str} {mg mb : Str → Option Value} {mean}
    (X : (Mine.hd.heap_1 w.params).In s.heap) (T : Top p loose mean mg mb s.heap) {R : Result → Shared → Prop} (hd : A.depth ≤ 480) (hh : A.handled = none)
    {lv : Addr} {x : PySem.Str} {t : Tok} {ps : List (PySem.Str × PySem.Str)} (hP : s.heap.get? 72 = some (tabObj #[])) (hlv : s.heap.IsList lv #[.str x t]) (hx : x.cps.toList = hdrL ps) (hG : ∀ kx ∈ ps, ∃ c, GoodP kx c) (h0 : ps ≠ []) (h9 : ps.length ≤ 20) (hsz : x.cps.size ≤ 6000)
    (hR : ∀ h' lr lq (outs : Array Value) psx tk'', Heap.ExtBut 72 s.heap h' → h'.get? 72 = some (tabObj psx) → h'.IsList lr #[.ref lq] → h'.IsList lq outs → outs.size = ps.length → (∀ (i : Nat) (v : Value), outs[i]? = some v → ∃ kx, ps[i]? = some kx ∧ PairAt h' v kx) → R (.ok (.ret (.ref lr))) { s with heap := h', toks := tk'' })
   : codeAny (model prog w) A (.call (.ref 77) ⟨[.ref lv], []⟩) R s := by
  w_on
  refine' call_ret (binds := [(PySem.Str.ofString "header_values", Value.ref lv)]) X T ?k6 ?k7 (by show A.depth < 1000; omega) ?k9 ?kB ?_ ?c2 ?c3 ?c4 ?c5
  walk_at "mine sides"
  intro L h₁ tk F N
  (try dsimp only)
  obtain ⟨g, lo', Xg, Tg, Cg, Fg, Ng, lg, kg⟩ := aside X T frag_noTabs (code77 X) hP F
  have ne : ∀ {b o}, s.heap.get? b = some o → o.cls ≠ .none → b ≠ 72 := fun e hc q => hc (by rw [q, hP] at e; cases e; rfl)
  have glv : g.IsList lv #[.str x t] := by obtain ⟨o, e, hc, r⟩ := hlv; exact ⟨o, kg _ _ (ne e (by rw [hc]; nofun)) e, hc, r⟩
  have hgo : ∀ h' , (∀ b o, g.get? b = some o → h'.get? b = some o) → Heap.ExtBut 72 s.heap h' := fun h' hk b o hb e => hk b o (kg b o hb e)
  clear X T F N hlv ne kg
  clear hP
  k_steps
  (rename Fr _ _ _ _ => F0); (rename News _ _ _ _ => N0); (rename Addr => lr); (rename _ < lr => o1)
  replace o1 := ltN o1
  refine iter_list (fun i (st : SoSt) => (i = 0 ∧ st = ⟨#[], 0, none, []⟩) ∨ (i = 1 ∧ ∃ lq outs nq, st.res = #[.ref lq] ∧ (lq, W.listOf outs nq) ∈ st.T ∧ outs.size = ps.length ∧ OutsOk ps outs st.T))
    (fun st => [(PySem.Str.ofString "result", Value.ref lr)])
    (fun st => (lr, W.listOf st.res st.n) :: tabT 72 29 49 st.tab st.T) ⟨#[], 0, none, []⟩ hh F0 N0 (fun h m' st F _ => glv.at fun o e => F.keep _ o e) (.inl ⟨rfl, rfl⟩) ⟨rfl, trivial⟩ (fun p hp => hp) ?mT ?mD rfl rfl rfl
  case mT =>
    intro i st v m' h tk It oi hIt hoi hv hI hne F N
    refine gen_post ?_
    intro TP0 hTP0
    rcases hI with ⟨rfl, rfl⟩ | ⟨rfl, _⟩
    rotate_left
    · simp at hv
    have hv' : v = .str x t := by simpa using hv.symm
    subst hv'
    have hIt' := ltN (hIt _ (.head _))
    dsimp only [tabT] at N
    k_steps
    unfold Stop
    (rename Addr => lq)
    (rename Fr _ _ _ _ => F0); (rename News _ _ _ _ => N0); (rename _ ∧ _ => o2)
    have o2a := ltN o2.1
    have o2b := ltN o2.2.1
    have o2c := ltN o2.2.2
    (try dsimp only at o2a o2b o2c)
    refine while_gen (SpI ps lq) (fun st => [(PySem.Str.ofString "text", Value.str st.x st.t), (PySem.Str.ofString "pairs", Value.ref lq), (PySem.Str.ofString "result", Value.ref lr)])
      (fun st => (lq, W.listOf st.outs st.n) :: (It, oi) :: (lr, W.listOf #[] 0) :: tabT 72 29 49 st.tab st.T) ⟨0, false, x, t, #[], 0, none, []⟩ (n₀ := 2 * ps.length) F0 N0 ?_ ⟨rfl, rfl, rfl, trivial⟩ (fun p hp => hp) ?nT
    · refine ⟨by simp, Nat.zero_le _, fun _ => List.length_pos_iff.mpr h0, by simpa using hx, rfl, fun i v hv => by simp at hv, trivial, (fun p hp => nomatch hp), hsz⟩
    case nT =>
      intro n st m' h tk WP QX hW hQX hI F N
      obtain ⟨k, junk, x, t, outs, nq, tab, T⟩ := st
      obtain ⟨hI1, hI2, hI3, hI4, hI5, hI6, hI7, hI8, hxs⟩ := hI
      dsimp only at hI1 hI2 hI3 hI4 hI5 hI6 hI7 hI8 hxs F N
      have tn : ∀ p ∈ tabT 72 29 49 tab T, p.1 = 72 ∨ @LT.lt Nat _ lq p.1 := tab_lo hI7 hI8
      have t1 : ∀ p ∈ tabT 72 29 49 tab T, p.1 ≠ lq := fun p hp q => by rcases tn p hp with e | e; (· exact absurd (q ▸ e : lq = 72) (Nat.ne_of_gt o2c)); (· exact Nat.lt_irrefl _ (q ▸ e))
      have t2 : ∀ p ∈ tabT 72 29 49 tab T, p.1 ≠ lr := fun p hp q => by rcases tn p hp with e | e; (· exact absurd (q ▸ e : lr = 72) (Nat.ne_of_gt o1)); (· exact Nat.lt_irrefl _ (Nat.lt_trans (q ▸ e) o2b))
      have i72 : @LT.lt Nat _ 72 It := hIt (72, tabObj #[]) (.tail _ (.head _))
      have t3 : ∀ p ∈ tabT 72 29 49 tab T, p.1 ≠ It := fun p hp q => by rcases tn p hp with e | e; (· exact absurd (q ▸ e : It = 72) (Nat.ne_of_gt i72)); (· exact Nat.lt_irrefl _ (Nat.lt_trans (q ▸ e) o2a))
      cases junk with
      | true =>
        cases hrem : ps.drop k with
        | nil =>
          have hx0 : x.length = 0 := by
            rw [hrem] at hI4
            show x.cps.size = 0
            simpa [restL] using congrArg List.length hI4
          have hx1 : (x.length : Int) = 0 := by omega
          have hk : k = ps.length := by have := List.drop_eq_nil_iff.mp hrem; omega
          have hp0 : 0 < ps.length := List.length_pos_iff.mpr h0
          have hem : outs.isEmpty = false := by cases outs with | mk l => cases l with | nil => (simp at hI5; omega) | cons a r => rfl
          have n1 : It ≠ lr := Nat.ne_of_gt hIt'
          have n2 : lq ≠ lr := Nat.ne_of_gt o2b
          have n3 : lr ≠ It := Nat.ne_of_lt hIt'
          k_steps
          subst hQX
          (try dsimp only)
          k_steps
          (rename Fr _ _ _ _ => F9); (rename News _ _ _ _ => N9)
          subst hTP0
          refine TurnEnd.intro ⟨#[].push (.ref lq), 0 + 1, tab, (lq, W.listOf outs nq) :: T⟩ F9 N9 (.inr ⟨rfl, lq, outs, nq, rfl, .head _, by omega, fun i v hv => ?_⟩) ⟨rfl, trivial⟩ ?_ ?_
          · obtain ⟨kx, a, tk, tx, h1, h2, h3⟩ := hI6 i v hv
            exact ⟨kx, a, tk, tx, h1, h2, .tail _ h3⟩
          · intro p hp
            rcases List.mem_cons.mp hp with rfl | hp
            · exact n3
            rcases tabT_mem hp with rfl | hp
            · exact Nat.ne_of_gt o2a
            · exact t3 p hp
          · intro p hp
            rcases List.mem_cons.mp hp with rfl | hp
            · k_mem
            rcases List.mem_cons.mp hp with rfl | hp
            · k_mem
            rcases tabT_mem hp with rfl | hp
            · k_mem
            · exact .tail _ (.tail _ (.tail _ hp))
        | cons kx r =>
          rw [hrem] at hI4
          replace hI4 : x.cps.toList = 59 :: 32 :: hdrL (kx :: r) := hI4
          obtain ⟨c, G⟩ := hG kx (List.mem_of_mem_drop (by rw [hrem]; exact .head _))
          obtain ⟨j1, j2, j3, j4, j5, j6⟩ := hd_junk G hI4 (by omega)
          have hx1 : ¬ (x.length : Int) = 0 := by show ¬ (x.cps.size : Int) = 0; omega
          have hxl : x.length ≤ 6000 := hxs
          generalize hrest : (lq, W.listOf outs nq) :: (It, oi) :: (lr, W.listOf #[] 0) :: tabT 72 29 49 tab T = rest at N
          k_steps
          (rename Fr _ _ _ _ => F6); (rename News _ _ _ _ => N6)
          refine call_searchN (pat55 (Xg.keeps F6.keep)) (by omega) (by omega) j1 ?_
          k_steps
          (try clear F6 N6)
          (rename Fr _ _ _ _ => F6); (rename News _ _ _ _ => N6)
          rw [ofs_nil]
          refine call_subn (k := 2 * x.cps.size + 20) (by omega) (by omega) (pat43 (Xg.keeps F6.keep)) (by decide) j5 j2 j3 ?_
          intro a5 h5 tk5 tk6 tk7 hst5 hno5 htu5
          replace F6 := Fr_stays F6 hst5
          replace N6 := News_stays N6 hst5
          clear hst5
          rw [j4] at htu5
          (try dsimp only)
          refine unpackN_ F6 N6 ⟨_, htu5, rfl, _, rfl⟩ (by exact hh) (by rfl) (by rfl) ?_
          intro h7 F7 N7
          (try dsimp only)
          k_steps
          (rename Fr _ _ _ _ => F9); (rename News _ _ _ _ => N9)
          have hkl : k < ps.length := by
            have := congrArg List.length hrem
            simp at this; omega
          have hz5 : (⟨(hdrL (kx :: r)).toArray⟩ : PySem.Str).cps.size ≤ 6000 := by
            have := size_toL hI4
            simp only [List.length_cons] at this
            simp only [List.size_toArray]; omega
          subst hrest
          subst hW
          refine WhEnd.intro (2 * (ps.length - k)) ⟨k, false, ⟨(hdrL (kx :: r)).toArray⟩, tk5, outs, nq, tab, T⟩ F9 N9 (by rw [hI1, if_pos rfl]; omega) ⟨by simp, hI2, fun _ => hkl, by simp [hrem], hI5, hI6, hI7, hI8, hz5⟩ ⟨rfl, rfl, rfl, trivial⟩ (fun p hp => hp)
      | false =>
        have hkl := hI3 rfl
        cases hrem : ps.drop k with
        | nil => exact absurd (List.drop_eq_nil_iff.mp hrem) (by omega)
        | cons kx r =>
          rw [hrem] at hI4
          replace hI4 : x.cps.toList = hdrL (kx :: r) := hI4
          have hkx : ps[k]? = some kx := by have := congrArg (·[0]?) hrem; simpa using this
          have hdr : ps.drop (k + 1) = r := by have := congrArg List.tail hrem; simpa using this
          obtain ⟨c, G⟩ := hG kx (List.mem_of_mem_drop (by rw [hrem]; exact .head _))
          obtain ⟨l1, e1, e2, e3⟩ := hd_TK G hI4 (by omega)
          have hx1 : ¬ (x.length : Int) = 0 := by omega
          have hxl : x.length ≤ 6000 := hxs
          have hLs := size_toL hI4
          rw [hdrL_eq G] at hLs
          simp only [List.length_cons, List.length_append] at hLs
          obtain ⟨r3, hr3⟩ : ∃ r3 : List (Addr × Obj), r3 = (lq, W.listOf outs nq) :: (It, oi) :: (lr, W.listOf #[] 0) :: T := ⟨_, rfl⟩
          have w72 : ∀ p ∈ r3, p.1 ≠ 72 := by
            intro p hp
            rw [hr3] at hp
            rcases List.mem_cons.mp hp with rfl | hp
            · exact Nat.ne_of_gt o2c
            rcases List.mem_cons.mp hp with rfl | hp
            · exact Nat.ne_of_gt i72
            rcases List.mem_cons.mp hp with rfl | hp
            · exact Nat.ne_of_gt o1
            · exact fun q => Nat.lt_irrefl _ (Nat.lt_trans (q ▸ hI8 p hp) o2c)
          have mq : (lq, W.listOf outs nq) ∈ r3 := by rw [hr3]; exact .head _
          replace N := News_sub (news' := tabT 72 29 49 tab r3) N (fun p hp => by
            rw [hr3] at hp
            rcases tabT_mem hp with rfl | hp
            · exact .head _
            rcases tabT_mem hp with rfl | hp
            · exact .tail _ (.head _)
            rcases tabT_mem hp with rfl | hp
            · exact .tail _ (.tail _ (.head _))
            · exact .tail _ (.tail _ (.tail _ hp)))
          generalize hrest : tabT 72 29 49 tab r3 = rest at N
          k_steps
          (rename Fr _ _ _ _ => F6); (rename News _ _ _ _ => N6)
          refine call_searchK F6 N6 (pat55 (Xg.keeps F6.keep)) (by omega) (k := 20) (by decide) (by decide) l1 ?_
          intro ma mt h7 F7 N7 al1 al2
          (try clear F6 N6)
          k_steps
          (try clear F7 N7)
          (rename Fr _ _ _ _ => F6); (rename News _ _ _ _ => N6)
          refine wpAny_call (unm_spec (Xg.keeps F6.keep) (Tg.keeps F6.keep) (by show A.depth + 1 ≤ 500; omega) (by exact hh) (isMatch_news N6 (by k_mem) (by k_mem)) (e := 1) rfl rfl (by decide) (by omega) e2 ?_)
          intro h8 tk8 tk9 hst8
          replace F6 := Fr_stays F6 hst8
          replace N6 := News_stays N6 hst8
          clear hst8
          rw [unm_eq x 1 e2, e3]
          obtain ⟨x1, hx1e⟩ : ∃ x1 : PySem.Str, x1 = ⟨(61 :: ((writ kx.2).cps.toList ++ restL r)).toArray⟩ := ⟨_, rfl⟩
          rw [← hx1e]
          have hs1 : x1.cps.size ≤ 6000 := by
            rw [hx1e]; simp only [List.size_toArray, List.length_cons, List.length_append]; omega
          have hsr : (restL r).length ≤ 6000 := by omega
          have hs1l : x1.length ≤ 6000 := hs1
          (try dsimp only)
          k_steps
          (try clear F6 N6)
          (rename Fr _ _ _ _ => F6); (rename News _ _ _ _ => N6)
          refine call_group1 (isMatch_news N6 (by k_mem) (by k_mem)) (by omega) ?_
          intro t4 t5
          rw [e1]
          k_steps
          unfold Stop
          (try clear F6 N6)
          (rename Fr _ _ _ _ => F6); (rename News _ _ _ _ => N6)
          replace N6 := News_sub (news' := rest) N6 (fun p hp => by repeat (first | exact hp | refine List.Mem.tail _ ?_))
          refine seq2_gen F6 (fun m news => ∃ tab' tv tx2, TabOk (lamQ (PySem.Str.ofString "split_header_words")) lq tab' ∧ Pins m [(PySem.Str.ofString "value", Value.str kx.2 tv), (PySem.Str.ofString "text", Value.str ⟨(restL r).toArray⟩ tx2), (PySem.Str.ofString "name", Value.str kx.1 t4), (PySem.Str.ofString "pairs", Value.ref lq), (PySem.Str.ofString "result", Value.ref lr)] ∧ ∀ p ∈ tabT 72 29 49 tab' r3, p ∈ news) ?_ ?_
          · intro QQ hQ
            clear hW hQX hTP0
            k_steps
            cases htk : tokS kx.2 with
            | true =>
              obtain ⟨q1, q2, q3, q4, q5, q6⟩ := hd_VL htk hx1e (by omega)
              have hz9 := (tokS_chars htk).1
              have hv9 : kx.2.cps.toList.length = kx.2.cps.size := by simp
              refine call_searchN (k := 2 * x1.cps.size + 30) (pat60 (Xg.keeps F6.keep)) (by omega) (by omega) q1 ?_
              k_steps
              (try clear F6 N6)
              (rename Fr _ _ _ _ => F6); (rename News _ _ _ _ => N6)
              refine call_searchK F6 N6 (pat65 (Xg.keeps F6.keep)) (by omega) (k := 30) (by decide) (by omega) q2 ?_
              intro ma2 mt2 h17 F7 N7 al3 al4
              (try clear F6 N6)
              k_steps
              (try clear F6 N6)
              (rename Fr _ _ _ _ => F6); (rename News _ _ _ _ => N6)
              refine wpAny_call (unm_spec (Xg.keeps F6.keep) (Tg.keeps F6.keep) (by show A.depth + 1 ≤ 500; omega) (by exact hh) (isMatch_news N6 (by k_mem) (by k_mem)) (e := 1 + kx.2.cps.toList.length) rfl rfl (Nat.le_of_ble_eq_true rfl) (by omega) q4 ?_)
              intro h8 tk18 tk19 hst8
              replace F6 := Fr_stays F6 hst8
              replace N6 := News_stays N6 hst8
              clear hst8
              rw [unm_eq x1 _ q4, q5]
              (try dsimp only)
              k_steps
              (try clear F6 N6)
              (rename Fr _ _ _ _ => F6); (rename News _ _ _ _ => N6)
              refine call_group1 (isMatch_news N6 (by k_mem) (by k_mem)) (by omega) ?_
              intro t6 t7
              rw [q3]
              have hk2 : kx.2.length ≤ 6000 := by show kx.2.cps.size ≤ 6000; have : x1.length = x1.cps.size := rfl; omega
              k_steps
              (rename Fr _ _ _ _ => F9); (rename News _ _ _ _ => N9)
              rw [q6] at F9
              exact hQ F9 N9 ⟨tab, _, _, hI7, ⟨rfl, rfl, rfl, rfl, rfl, trivial⟩, fun p hp => by
                have hp2 : p ∈ rest := hrest ▸ hp
                repeat (first | exact hp2 | refine List.Mem.tail _ ?_)⟩
            | false =>
              obtain ⟨q1, q3, q4, q5⟩ := hd_QVy G htk hx1e (by omega)
              have hez := esc_len kx.2.cps.toList
              have hv9 : kx.2.cps.toList.length = kx.2.cps.size := by simp
              have hxx : x1.length = x1.cps.size := rfl
              refine call_searchK F6 N6 (pat60 (Xg.keeps F6.keep)) (by omega) (k := 12 * kx.2.cps.toList.length + 60) (by omega) (by omega) q1 ?_
              intro ma2 mt2 h17 F7 N7 al3 al4
              (try clear F6 N6)
              k_steps
              (try clear F6 N6)
              (rename Fr _ _ _ _ => F6); (rename News _ _ _ _ => N6)
              refine wpAny_call (unm_spec (Xg.keeps F6.keep) (Tg.keeps F6.keep) (by show A.depth + 1 ≤ 500; omega) (by exact hh) (isMatch_news N6 (by k_mem) (by k_mem)) (e := 2 + (esc kx.2.cps.toList).length + 1) rfl rfl (Nat.le_of_ble_eq_true rfl) (by omega) q4 ?_)
              intro h8 tk18 tk19 hst8
              replace F6 := Fr_stays F6 hst8
              replace N6 := News_stays N6 hst8
              clear hst8
              rw [unm_eq x1 _ q4, q5]
              (try dsimp only)
              k_steps
              (try clear F6 N6)
              (rename Fr _ _ _ _ => F6); (rename News _ _ _ _ => N6)
              refine call_group1 (isMatch_news N6 (by k_mem) (by k_mem)) (by omega) ?_
              intro t6 t7
              rw [q3]
              have hk2 : (⟨(esc kx.2.cps.toList).toArray⟩ : PySem.Str).length ≤ 6000 := by show ((esc kx.2.cps.toList).toArray).size ≤ 6000; simp only [List.size_toArray]; omega
              rcases tab with _ | ⟨c', oc⟩
              · have N7 : News _ _ _ ((72, tabObj #[]) :: r3) := fun p hp => N6 p (by
                  have hp2 : p ∈ rest := hrest ▸ hp
                  repeat (first | exact hp2 | refine List.Mem.tail _ ?_))
                clear N6
                k_steps
                (rename Fr _ _ _ _ => F7); (rename News _ _ _ _ => N7); (rename _ = Data.fields _ => d1); (rename (_ : Option Value) = some (Value.str _ _) => d2); (rename _ ∧ AllLt _ _ => o3)
                have p1 := allLt_get o3.2 _ mq
                refine call_sub (x := ⟨(esc kx.2.cps.toList).toArray⟩) (k := 2 * ((esc kx.2.cps.toList).toArray).size + 20) (by simp only [List.size_toArray]; omega) (by show ((esc kx.2.cps.toList).toArray).size ≤ 1000000; simp only [List.size_toArray]; omega) (pat70 (Xg.keeps F7.keep)) (N7 _ (.head _)).1 rfl (by omega) (unesc_sub _ kx.2.cps.toList (by simp) (fun y hy => by have := (G.val y hy).1; omega)) ?_ ?_
                · intro h9 tk29 found b e p9 q9 R9 hst9 hpq9 him9 hR9
                  have T9 := Tg.keeps (fun b o e => hst9 b o (F7.keep b o e))
                  have cr : h9.CodeRec (.ref _) _ := ⟨_, _, _, _, rfl, hst9 _ _ (N7 (_, _) (.tail _ (.head _))).1, d1, d2⟩
                  have ho9 := hst9 _ _ (N7 _ (.head _)).1
                  have hsz9 : (((esc kx.2.cps.toList).toArray).extract p9 q9).size ≤ 6000 := by simp only [Array.size_extract, List.size_toArray]; omega
                  clear F7 N7 hQ
                  refine call_lam T9 ho9 cr (by show A.depth + 1 < 1000; omega) rfl (locs rfl) ?_ rfl rfl rfl (by decide)
                  intro L9 h8 tk28 F8 N8
                  refine gen_post ?_
                  intro LP hLP
                  dsimp only at F8 N8
                  k_steps
                  refine getMethod_group (him9.stays F8.keep) ?_
                  k_steps
                  refine call_group1 (him9.stays F8.keep) (by show ((esc kx.2.cps.toList).toArray).size ≤ 1000000; simp only [List.size_toArray]; omega) ?_
                  intro t11 t12
                  have hl9 : (⟨((esc kx.2.cps.toList).toArray).extract p9 q9⟩ : PySem.Str).length ≤ 6000 := hsz9
                  k_steps
                  · rw [appN]
                    subst hLP
                    (rename Fr _ _ _ _ => F4)
                    exact hR9 _ _ _ F4.keep
                  · have hz9 : ((⟨((esc kx.2.cps.toList).toArray).extract p9 q9⟩ : PySem.Str).length : Int) = 0 := by assumption
                    rw [appN_nil hz9]
                    subst hLP
                    (rename Fr _ _ _ _ => F4)
                    exact hR9 _ _ _ F4.keep
                · intro tk27 h27 tk26 hst7
                  replace F7 := Fr_stays F7 hst7
                  replace N7 := News_stays N7 hst7
                  clear hst7
                  rw [str_toL]
                  (try dsimp only)
                  k_steps
                  (rename Fr _ _ _ _ => F9); (rename News _ _ _ _ => N9)
                  refine hQ F9 N9 ⟨some (_, _), _, _, ⟨p1, _, _, d1, d2⟩, ⟨rfl, rfl, rfl, rfl, rfl, trivial⟩, fun p hp => ?_⟩
                  rcases List.mem_cons.mp hp with rfl | hp
                  · k_mem
                  rcases List.mem_cons.mp hp with rfl | hp
                  · k_mem
                  · repeat (first | exact hp | refine List.Mem.tail _ ?_)
              · have N7 : News _ _ _ ((72, tabObj #[rawInt 29, rawInt 49, .ref c']) :: (c', oc) :: r3) := fun p hp => N6 p (by
                  have hp2 : p ∈ rest := hrest ▸ hp
                  repeat (first | exact hp2 | refine List.Mem.tail _ ?_))
                clear N6
                obtain ⟨p1, vsq, tq, d1, d2⟩ := hI7
                k_steps
                (rename Fr _ _ _ _ => F7); (rename News _ _ _ _ => N7)
                refine call_sub (x := ⟨(esc kx.2.cps.toList).toArray⟩) (k := 2 * ((esc kx.2.cps.toList).toArray).size + 20) (by simp only [List.size_toArray]; omega) (by show ((esc kx.2.cps.toList).toArray).size ≤ 1000000; simp only [List.size_toArray]; omega) (pat70 (Xg.keeps F7.keep)) (N7 _ (.head _)).1 rfl (by omega) (unesc_sub _ kx.2.cps.toList (by simp) (fun y hy => by have := (G.val y hy).1; omega)) ?_ ?_
                · intro h9 tk29 found b e p9 q9 R9 hst9 hpq9 him9 hR9
                  have T9 := Tg.keeps (fun b o e => hst9 b o (F7.keep b o e))
                  have cr : h9.CodeRec (.ref _) _ := ⟨_, _, _, _, rfl, hst9 _ _ (N7 (_, _) (.tail _ (.tail _ (.head _)))).1, d1, d2⟩
                  have ho9 := hst9 _ _ (N7 _ (.head _)).1
                  have hsz9 : (((esc kx.2.cps.toList).toArray).extract p9 q9).size ≤ 6000 := by simp only [Array.size_extract, List.size_toArray]; omega
                  clear F7 N7 hQ
                  refine call_lam T9 ho9 cr (by show A.depth + 1 < 1000; omega) rfl (locs rfl) ?_ rfl rfl rfl (by decide)
                  intro L9 h8 tk28 F8 N8
                  refine gen_post ?_
                  intro LP hLP
                  dsimp only at F8 N8
                  k_steps
                  refine getMethod_group (him9.stays F8.keep) ?_
                  k_steps
                  refine call_group1 (him9.stays F8.keep) (by show ((esc kx.2.cps.toList).toArray).size ≤ 1000000; simp only [List.size_toArray]; omega) ?_
                  intro t11 t12
                  have hl9 : (⟨((esc kx.2.cps.toList).toArray).extract p9 q9⟩ : PySem.Str).length ≤ 6000 := hsz9
                  k_steps
                  · rw [appN]
                    subst hLP
                    (rename Fr _ _ _ _ => F4)
                    exact hR9 _ _ _ F4.keep
                  · have hz9 : ((⟨((esc kx.2.cps.toList).toArray).extract p9 q9⟩ : PySem.Str).length : Int) = 0 := by assumption
                    rw [appN_nil hz9]
                    subst hLP
                    (rename Fr _ _ _ _ => F4)
                    exact hR9 _ _ _ F4.keep
                · intro tk27 h27 tk26 hst7
                  replace F7 := Fr_stays F7 hst7
                  replace N7 := News_stays N7 hst7
                  clear hst7
                  rw [str_toL]
                  (try dsimp only)
                  k_steps
                  (rename Fr _ _ _ _ => F9); (rename News _ _ _ _ => N9)
                  refine hQ F9 N9 ⟨some (c', oc), _, _, ⟨p1, _, _, d1, d2⟩, ⟨rfl, rfl, rfl, rfl, rfl, trivial⟩, fun p hp => ?_⟩
                  rcases List.mem_cons.mp hp with rfl | hp
                  · k_mem
                  rcases List.mem_cons.mp hp with rfl | hp
                  · k_mem
                  · repeat (first | exact hp | refine List.Mem.tail _ ?_)
          intro h8 m8 news8 tk8 F8 N8 hP8
          obtain ⟨tab', tv, tx2, hT', hpin, hsub⟩ := hP8
          replace F8 := Mine.Fr.over hpin F8
          replace N8 := News_sub (news' := (lq, W.listOf outs nq) :: (It, oi) :: (lr, W.listOf #[] 0) :: tabT 72 29 49 tab' T) N8 (fun p hp => hsub p (by rw [hr3]; exact tabT_split hp))
          have tn' : ∀ p ∈ tabT 72 29 49 tab' T, p.1 = 72 ∨ @LT.lt Nat _ lq p.1 := tab_lo hT' hI8
          have t1' : ∀ p ∈ tabT 72 29 49 tab' T, p.1 ≠ lq := fun p hp q => by rcases tn' p hp with e | e; (· exact absurd (q ▸ e : lq = 72) (Nat.ne_of_gt o2c)); (· exact Nat.lt_irrefl _ (q ▸ e))
          clear F6 N6 hpin hsub tn' tn t1 t2 t3
          generalize hTb : tabT 72 29 49 tab' T = tb at N8 t1'
          have o2d : @Ne Nat lr lq := Nat.ne_of_lt o2b
          have o2e : @Ne Nat It lq := Nat.ne_of_lt o2a
          k_steps
          (rename Fr _ _ _ _ => F9); (rename News _ _ _ _ => N9); (rename _ ∧ _ ∧ _ ∧ AllLt _ _ => o9)
          obtain ⟨D9, e9⟩ := head_ex N9
          subst e9
          subst hTb
          subst hW
          refine WhEnd.intro (2 * (ps.length - (k + 1)) + 1) ⟨k + 1, true, ⟨(restL r).toArray⟩, tx2, outs.push (.ref D9), nq + 1, tab', (D9, tupObj #[.str kx.1 t4, .str kx.2 tv]) :: T⟩ F9 N9 (by rw [hI1]; simp; omega) ?IA ⟨rfl, rfl, rfl, trivial⟩ ?SA
          case SA =>
            intro p hp
            rcases List.mem_cons.mp hp with rfl | hp
            · k_mem
            rcases List.mem_cons.mp hp with rfl | hp
            · k_mem
            rcases List.mem_cons.mp hp with rfl | hp
            · k_mem
            rcases tabT_mem hp with rfl | hp
            · k_mem
            · exact .tail _ (.tail _ (.tail _ (.tail _ hp)))
          case IA =>
            refine ⟨by simp, by show k + 1 ≤ ps.length; omega, (fun h => nomatch h), by show _ = restL _; rw [hdr], by show (outs.push _).size = k + 1; rw [Array.size_push, hI5], outs_push hI5 hI6 hkx, hT', fun p hp => ?_, by show ((restL r).toArray).size ≤ 6000; simpa using hsr⟩
            rcases List.mem_cons.mp hp with rfl | hp
            · exact ltN o9.1
            · exact hI8 p hp
  case mD =>
    intro st m' h tk hI F N
    obtain ⟨res, nr, tab, T⟩ := st
    rcases hI with ⟨hc, _⟩ | ⟨_, lq, outs, nq, hI1, hI2, hI3, hI4⟩
    · exact absurd hc (by simp)
    dsimp only at hI1 hI2 hI3 hI4 N F
    subst hI1
    k_steps
    have inT : ∀ p ∈ T, News g L h [p] := fun p hp q hq => by
      rw [List.mem_singleton.mp hq]
      rcases tab with _ | ⟨c', oc⟩
      · exact N _ (.tail _ (.tail _ hp))
      · exact N _ (.tail _ (.tail _ (.tail _ hp)))
    obtain ⟨psx, hpsx⟩ : ∃ psx, h.get? 72 = some (tabObj psx) := by
      rcases tab with _ | ⟨c', oc⟩
      · exact ⟨_, (N _ (.tail _ (.head _))).1⟩
      · exact ⟨_, (N _ (.tail _ (.head _))).1⟩
    refine hR h lr lq outs psx _ (hgo _ F.keep) hpsx ⟨_, (N _ (.head _)).1, rfl, _, rfl⟩ ⟨_, (inT _ hI2 _ (.head _)).1, rfl, _, rfl⟩ hI3 fun i v hv => ?_
    obtain ⟨kx, a, tk1, tx, e1, e2, e3⟩ := hI4 i v hv
    exact ⟨kx, e1, a, tk1, tx, e2, _, (inT _ e3 _ (.head _)).1, rfl, _, rfl⟩
end
section
-- Pure
set_option maxRecDepth 10000
set_option linter.unusedVariables false
def Figs (l : List Int) : Prop := ∀ f ∈ l, 0 ≤ f ∧ f < 64
theorem figs_cons {a : Int} {r : List Int} (h : Figs (a :: r)) : (0 ≤ a ∧ a < 64) ∧ Figs r := ⟨h a (.head _), fun f hf => h f (.tail _ hf)⟩
theorem oct4 {a b c d : Int} (ha : 0 ≤ a ∧ a < 64) (hb : 0 ≤ b ∧ b < 64) (hc : 0 ≤ c ∧ c < 64) (hd : 0 ≤ d ∧ d < 64) (r : List Int) :
    octGo 0 0 (a :: b :: c :: d :: r) = (a * 4 + b / 16) :: (b % 16 * 16 + c / 4) :: (c % 4 * 64 + d) :: octGo 0 0 r := by
  simp only [octGo]
  rw [if_neg (by decide), if_pos (by decide), if_pos (by decide), if_pos (by decide)]
  have e4 : (2 : Int) ^ ((0 : Int) + 6 + 6 - 8).toNat = 16 := by decide
  have e2 : (2 : Int) ^ ((0 : Int) + 6 + 6 - 8 + 6 - 8).toNat = 4 := by decide
  have e0 : (2 : Int) ^ ((0 : Int) + 6 + 6 - 8 + 6 - 8 + 6 - 8).toNat = 1 := by decide
  have ez : (0 : Int) + 6 + 6 - 8 + 6 - 8 + 6 - 8 = 0 := by decide
  rw [e4, e2, e0, ez]
  simp only [Int.fdiv_eq_ediv_of_nonneg _ (show (0 : Int) ≤ 16 by decide), Int.fdiv_eq_ediv_of_nonneg _ (show (0 : Int) ≤ 4 by decide), Int.fdiv_eq_ediv_of_nonneg _ (show (0 : Int) ≤ 1 by decide), Int.fmod_eq_emod_of_nonneg _ (show (0 : Int) ≤ 16 by decide), Int.fmod_eq_emod_of_nonneg _ (show (0 : Int) ≤ 4 by decide), Int.fmod_eq_emod_of_nonneg _ (show (0 : Int) ≤ 1 by decide)]
  have h1 : ((0 * 64 + a) * 64 + b) / 16 = a * 4 + b / 16 := by omega
  have h2 : (((0 * 64 + a) * 64 + b) % 16 * 64 + c) / 4 = b % 16 * 16 + c / 4 := by omega
  have h3 : ((((0 * 64 + a) * 64 + b) % 16 * 64 + c) % 4 * 64 + d) / 1 = c % 4 * 64 + d := by omega
  have h4 : ((((0 * 64 + a) * 64 + b) % 16 * 64 + c) % 4 * 64 + d) % 1 = 0 := by omega
  rw [h1, h2, h3, h4]
theorem oct1 (a : Int) : octGo 0 0 [a] = [] := by
  simp only [octGo]; rw [if_neg (by decide)]
theorem oct2 {a b : Int} (hb : 0 ≤ b ∧ b < 64) : octGo 0 0 [a, b] = [a * 4 + b / 16] := by
  simp only [octGo]
  rw [if_neg (by decide), if_pos (by decide)]
  have e4 : (2 : Int) ^ ((0 : Int) + 6 + 6 - 8).toNat = 16 := by decide
  rw [e4, Int.fdiv_eq_ediv_of_nonneg _ (show (0 : Int) ≤ 16 by decide)]
  have h1 : ((0 * 64 + a) * 64 + b) / 16 = a * 4 + b / 16 := by omega
  rw [h1]
theorem oct3 {a b c : Int} (hb : 0 ≤ b ∧ b < 64) (hc : 0 ≤ c ∧ c < 64) : octGo 0 0 [a, b, c] = [a * 4 + b / 16, b % 16 * 16 + c / 4] := by
  simp only [octGo]
  rw [if_neg (by decide), if_pos (by decide), if_pos (by decide)]
  have e4 : (2 : Int) ^ ((0 : Int) + 6 + 6 - 8).toNat = 16 := by decide
  have e2 : (2 : Int) ^ ((0 : Int) + 6 + 6 - 8 + 6 - 8).toNat = 4 := by decide
  rw [e4, e2]
  simp only [Int.fdiv_eq_ediv_of_nonneg _ (show (0 : Int) ≤ 16 by decide), Int.fdiv_eq_ediv_of_nonneg _ (show (0 : Int) ≤ 4 by decide), Int.fmod_eq_emod_of_nonneg _ (show (0 : Int) ≤ 16 by decide)]
  have h1 : ((0 * 64 + a) * 64 + b) / 16 = a * 4 + b / 16 := by omega
  have h2 : (((0 * 64 + a) * 64 + b) % 16 * 64 + c) / 4 = b % 16 * 16 + c / 4 := by omega
  rw [h1, h2]
/-- induction by fours -/
theorem by4 {P : List Int → Prop} (h0 : P []) (h1 : ∀ a, P [a]) (h2 : ∀ a b, P [a, b]) (h3 : ∀ a b c, P [a, b, c]) (h4 : ∀ a b c d r, P r → P (a :: b :: c :: d :: r)) : ∀ l, P l
  | [] => h0
  | [a] => h1 a
  | [a, b] => h2 a b
  | [a, b, c] => h3 a b c
  | a :: b :: c :: d :: r => h4 a b c d r (by4 h0 h1 h2 h3 h4 r)
theorem oct_byte : ∀ l, Figs l → ∀ o ∈ octGo 0 0 l, 0 ≤ o ∧ o < 256 := by
  refine by4 ?_ ?_ ?_ ?_ ?_
  · intro _ o ho; exact nomatch ho
  · intro a _ o ho; rw [oct1] at ho; exact nomatch ho
  · intro a b h o ho
    obtain ⟨ha, h⟩ := figs_cons h; obtain ⟨hb, _⟩ := figs_cons h
    rw [oct2 hb] at ho
    rw [List.mem_singleton.mp ho]; omega
  · intro a b c h o ho
    obtain ⟨ha, h⟩ := figs_cons h; obtain ⟨hb, h⟩ := figs_cons h; obtain ⟨hc, _⟩ := figs_cons h
    rw [oct3 hb hc] at ho
    rcases List.mem_cons.mp ho with rfl | ho
    · omega
    · rw [List.mem_singleton.mp ho]; omega
  · intro a b c d r ih h o ho
    obtain ⟨ha, h⟩ := figs_cons h; obtain ⟨hb, h⟩ := figs_cons h; obtain ⟨hc, h⟩ := figs_cons h; obtain ⟨hd, h⟩ := figs_cons h
    rw [oct4 ha hb hc hd] at ho
    rcases List.mem_cons.mp ho with rfl | ho
    · omega
    rcases List.mem_cons.mp ho with rfl | ho
    · omega
    rcases List.mem_cons.mp ho with rfl | ho
    · omega
    · exact ih h o ho
theorem oct_len : ∀ l, Figs l → (octGo 0 0 l).length = l.length * 3 / 4 := by
  refine by4 ?_ ?_ ?_ ?_ ?_
  · intro _; rfl
  · intro a _; rw [oct1]; simp
  · intro a b h
    obtain ⟨_, h⟩ := figs_cons h; obtain ⟨hb, _⟩ := figs_cons h
    rw [oct2 hb]; simp
  · intro a b c h
    obtain ⟨_, h⟩ := figs_cons h; obtain ⟨hb, h⟩ := figs_cons h; obtain ⟨hc, _⟩ := figs_cons h
    rw [oct3 hb hc]; simp
  · intro a b c d r ih h
    obtain ⟨ha, h⟩ := figs_cons h; obtain ⟨hb, h⟩ := figs_cons h; obtain ⟨hc, h⟩ := figs_cons h; obtain ⟨hd, h⟩ := figs_cons h
    rw [oct4 ha hb hc hd]
    simp only [List.length_cons, ih h]; omega
/-- the figures of whole octets -/
def Whole (l : List Int) : Prop := l.length % 4 = 0 ∨ (l.length % 4 = 2 ∧ l.getD (l.length - 1) 0 % 16 = 0) ∨ (l.length % 4 = 3 ∧ l.getD (l.length - 1) 0 % 4 = 0)
def padOf (n : Nat) : Nat := match n % 4 with
  | 2 => 2
  | 3 => 1
  | _ => 0
theorem enc_back : ∀ l, Figs l → Whole l → (encRun (0, 0) (octGo 0 0 l)).1 ++ encEnd (encRun (0, 0) (octGo 0 0 l)).2 = l ∧ encPad (encRun (0, 0) (octGo 0 0 l)).2.1 = padOf l.length := by
  refine by4 ?_ ?_ ?_ ?_ ?_
  · intro _ _; exact ⟨rfl, rfl⟩
  · intro a _ h; rcases h with h | ⟨h, _⟩ | ⟨h, _⟩ <;> exact absurd h (by simp)
  · intro a b h hw
    obtain ⟨ha, h⟩ := figs_cons h; obtain ⟨hb, _⟩ := figs_cons h
    have hb16 : b % 16 = 0 := by
      rcases hw with h | ⟨_, h⟩ | ⟨h, _⟩
      · exact absurd h (by simp)
      · exact h
      · exact absurd h (by simp)
    rw [oct2 hb]
    refine ⟨?_, rfl⟩
    show [(a * 4 + b / 16) / 4] ++ [(a * 4 + b / 16) % 4 * 16] = [a, b]
    have h1 : (a * 4 + b / 16) / 4 = a := by omega
    have h2 : (a * 4 + b / 16) % 4 * 16 = b := by omega
    rw [h1, h2]; rfl
  · intro a b c h hw
    obtain ⟨ha, h⟩ := figs_cons h; obtain ⟨hb, h⟩ := figs_cons h; obtain ⟨hc, _⟩ := figs_cons h
    have hc4 : c % 4 = 0 := by
      rcases hw with h | ⟨h, _⟩ | ⟨_, h⟩
      · exact absurd h (by simp)
      · exact absurd h (by simp)
      · exact h
    rw [oct3 hb hc]
    refine ⟨?_, rfl⟩
    show [(a * 4 + b / 16) / 4] ++ ([(a * 4 + b / 16) % 4 * 16 + (b % 16 * 16 + c / 4) / 16] ++ []) ++ [(b % 16 * 16 + c / 4) % 16 * 4] = [a, b, c]
    have h1 : (a * 4 + b / 16) / 4 = a := by omega
    have h2 : (a * 4 + b / 16) % 4 * 16 + (b % 16 * 16 + c / 4) / 16 = b := by omega
    have h3 : (b % 16 * 16 + c / 4) % 16 * 4 = c := by omega
    rw [h1, h2, h3]; rfl
  · intro a b c d r ih h hw
    obtain ⟨ha, h⟩ := figs_cons h; obtain ⟨hb, h⟩ := figs_cons h; obtain ⟨hc, h⟩ := figs_cons h; obtain ⟨hd, h⟩ := figs_cons h
    have hwr : Whole r := by
      cases r with
      | nil => exact .inl rfl
      | cons x y =>
        have e : (a :: b :: c :: d :: x :: y).getD ((a :: b :: c :: d :: x :: y).length - 1) 0 = (x :: y).getD ((x :: y).length - 1) 0 := rfl
        unfold Whole at hw ⊢
        rw [e] at hw
        simp only [List.length_cons] at hw ⊢
        omega
    obtain ⟨i1, i2⟩ := ih h hwr
    rw [oct4 ha hb hc hd]
    have h1 : (a * 4 + b / 16) / 4 = a := by omega
    have h2 : (a * 4 + b / 16) % 4 * 16 + (b % 16 * 16 + c / 4) / 16 = b := by omega
    have h3 : (b % 16 * 16 + c / 4) % 16 * 4 + (c % 4 * 64 + d) / 64 = c := by omega
    have h4 : (c % 4 * 64 + d) % 64 = d := by omega
    have e : encRun (0, 0) ((a * 4 + b / 16) :: (b % 16 * 16 + c / 4) :: (c % 4 * 64 + d) :: octGo 0 0 r) = (a :: b :: c :: d :: (encRun (0, 0) (octGo 0 0 r)).1, (encRun (0, 0) (octGo 0 0 r)).2) := by
      simp only [encRun, encStep, h1, h2, h3, h4]
      rfl
    rw [e]
    refine ⟨by simpa using i1, ?_⟩
    rw [i2]
    simp only [padOf, List.length_cons]
    rw [show (r.length + 1 + 1 + 1 + 1) % 4 = r.length % 4 by omega]
theorem c64_facts : ∀ n : Nat, n < 64 → b64V (b64C (n : Int)) = n ∧ b64C (n : Int) ≠ 61 ∧ 0 ≤ b64C (n : Int) ∧ b64C (n : Int) < 128 := by decide +kernel
theorem c64 {f : Int} (h : 0 ≤ f ∧ f < 64) : b64V (b64C f) = f ∧ b64C f ≠ 61 := by
  obtain ⟨n, rfl⟩ := Int.eq_ofNat_of_zero_le h.1
  have := c64_facts n (by omega)
  exact ⟨this.1, this.2.1⟩
theorem dec_pads (q lc : Int) : ∀ (p : Nat) (pd : Int), decRun (q, lc, pd) (List.replicate p 61) = ([], (q, lc, pd + p))
  | 0, pd => by simp [decRun]
  | p + 1, pd => by
    rw [List.replicate_succ, decRun]
    have e : decStep (q, lc, pd) 61 = ([], (q, lc, pd + 1)) := rfl
    rw [e, dec_pads q lc p (pd + 1)]
    simp; omega
theorem dec_back (p : Nat) : ∀ l, Figs l → ∃ lc, decRun (0, 0, 0) (l.map b64C ++ List.replicate p 61) = (octGo 0 0 l, (((l.length % 4 : Nat) : Int), lc, (p : Int))) := by
  have s0 : ∀ {f : Int}, (0 ≤ f ∧ f < 64) → ∀ lc pd, decStep (0, lc, pd) (b64C f) = ([], (1, f, 0)) := fun {f} h lc pd => by
    obtain ⟨h1, h2⟩ := c64 h; unfold decStep; rw [if_neg h2, h1, if_neg (by omega), if_pos rfl]
  have s1 : ∀ {f : Int}, (0 ≤ f ∧ f < 64) → ∀ lc pd, decStep (1, lc, pd) (b64C f) = ([lc * 4 + f / 16], (2, f % 16, 0)) := fun {f} h lc pd => by
    obtain ⟨h1, h2⟩ := c64 h; unfold decStep; rw [if_neg h2, h1, if_neg (by omega), if_neg (show ¬ ((1 : Int) = 0) by decide), if_pos rfl]
  have s2 : ∀ {f : Int}, (0 ≤ f ∧ f < 64) → ∀ lc pd, decStep (2, lc, pd) (b64C f) = ([lc * 16 + f / 4], (3, f % 4, 0)) := fun {f} h lc pd => by
    obtain ⟨h1, h2⟩ := c64 h; unfold decStep; rw [if_neg h2, h1, if_neg (by omega), if_neg (show ¬ ((2 : Int) = 0) by decide), if_neg (show ¬ ((2 : Int) = 1) by decide), if_pos rfl]
  have s3 : ∀ {f : Int}, (0 ≤ f ∧ f < 64) → ∀ lc pd, decStep (3, lc, pd) (b64C f) = ([lc * 64 + f], (0, 0, 0)) := fun {f} h lc pd => by
    obtain ⟨h1, h2⟩ := c64 h; unfold decStep; rw [if_neg h2, h1, if_neg (by omega), if_neg (show ¬ ((3 : Int) = 0) by decide), if_neg (show ¬ ((3 : Int) = 1) by decide), if_neg (show ¬ ((3 : Int) = 2) by decide)]
  refine by4 ?_ ?_ ?_ ?_ ?_
  · intro _
    refine ⟨0, ?_⟩
    rw [List.map_nil, List.nil_append, dec_pads]; simp [octGo]
  · intro a h
    obtain ⟨ha, _⟩ := figs_cons h
    refine ⟨a, ?_⟩
    rw [oct1]
    simp only [List.map_cons, List.map_nil, List.cons_append, List.nil_append, decRun, s0 ha, dec_pads]
    simp
  · intro a b h
    obtain ⟨ha, h⟩ := figs_cons h; obtain ⟨hb, _⟩ := figs_cons h
    refine ⟨b % 16, ?_⟩
    rw [oct2 hb]
    simp only [List.map_cons, List.map_nil, List.cons_append, List.nil_append, decRun, s0 ha, s1 hb, dec_pads]
    simp
  · intro a b c h
    obtain ⟨ha, h⟩ := figs_cons h; obtain ⟨hb, h⟩ := figs_cons h; obtain ⟨hc, _⟩ := figs_cons h
    refine ⟨c % 4, ?_⟩
    rw [oct3 hb hc]
    simp only [List.map_cons, List.map_nil, List.cons_append, List.nil_append, decRun, s0 ha, s1 hb, s2 hc, dec_pads]
    simp
  · intro a b c d r ih h
    obtain ⟨ha, h⟩ := figs_cons h; obtain ⟨hb, h⟩ := figs_cons h; obtain ⟨hc, h⟩ := figs_cons h; obtain ⟨hd, h⟩ := figs_cons h
    obtain ⟨lc, i⟩ := ih h
    refine ⟨lc, ?_⟩
    rw [oct4 ha hb hc hd]
    simp only [List.map_cons, List.cons_append, decRun, s0 ha, s1 hb, s2 hc, s3 hd, i, List.length_cons]
    rw [show (r.length + 1 + 1 + 1 + 1) % 4 = r.length % 4 by omega]
    rfl

/-- the marks: first the one of 62, then the one of 63 -/
def K0 (ev : Bool) : UInt8 := if ev then 34 else 92
def K1 (ev : Bool) : UInt8 := if ev then 92 else 34
def sg (ev : Bool) (f : Int) : Nat := signOf ((K0 ev).toNat : Int) ((K1 ev).toNat : Int) f
def txtL (ev : Bool) (row : List Int) (p : Nat) : List Nat := row.map (sg ev) ++ List.replicate p 61
theorem sg_facts : ∀ ev : Bool, ∀ n : Nat, n < 64 →
    (tbl 43 47 (K0 ev) (K1 ev)).getD (b64C (n : Int)).toNat.toUInt8.toNat (b64C (n : Int)).toNat.toUInt8 = (sg ev (n : Int)).toUInt8 ∧
    (((tbl (K0 ev) (K1 ev) 43 47).getD (sg ev (n : Int)).toUInt8.toNat (sg ev (n : Int)).toUInt8).toNat : Int) = b64C (n : Int) ∧
    33 ≤ sg ev (n : Int) ∧ sg ev (n : Int) < 127 ∧ (decide (n < 62) = tokB (sg ev (n : Int))) ∧ (decide (n < 62) = !escB (sg ev (n : Int))) ∧ (sg ev (n : Int) = 34 ↔ (n : Int) = if ev then 62 else 63) ∧ sg ev (n : Int) ≠ 61 := by decide +kernel
theorem pad_facts : ∀ ev : Bool, (tbl 43 47 (K0 ev) (K1 ev)).getD (61 : Int).toNat.toUInt8.toNat (61 : Int).toNat.toUInt8 = (61 : Nat).toUInt8 ∧ (((tbl (K0 ev) (K1 ev) 43 47).getD (61 : Nat).toUInt8.toNat (61 : Nat).toUInt8).toNat : Int) = 61 ∧ sg ev (if ev then 63 else 62) = 92 := by decide +kernel
theorem bInts_arr {l : List Int} (h : ∀ o ∈ l, 0 ≤ o ∧ o < 256) : KBw.bInts (byteArr l) = l := by
  unfold KBw.bInts byteArr
  rw [List.map_map]
  conv => rhs; rw [← List.map_id l]
  apply List.map_congr_left
  intro o ho
  have := h o ho
  show ((o.toNat.toUInt8.toNat : Nat) : Int) = o
  have e : o.toNat.toUInt8.toNat = o.toNat := by
    show (UInt8.ofNat o.toNat).toNat = _
    rw [UInt8.toNat_ofNat']; omega
  rw [e]; omega
/-- the encoder writes the signs of whole rows -/
theorem enc_text (ev : Bool) {row : List Int} (hf : Figs row) (hw : Whole row) :
    trB (tbl 43 47 (K0 ev) (K1 ev)) (byteArr (encB (byteArr (octGo 0 0 row)))) = ((txtL ev row (padOf row.length)).map (·.toUInt8)).toArray := by
  unfold encB
  rw [bInts_arr (oct_byte row hf)]
  obtain ⟨h1, h2⟩ := enc_back row hf hw
  simp only [h1, h2]
  apply Array.ext'
  unfold trB byteArr txtL
  simp only [Array.toList_map, List.map_append, List.map_map, List.map_replicate]
  congr 1
  · apply List.map_congr_left
    intro f hf'
    obtain ⟨n, rfl⟩ := Int.eq_ofNat_of_zero_le (hf f hf').1
    exact (sg_facts ev n (by have := (hf _ hf').2; omega)).1
  · rw [(pad_facts ev).1]
theorem dec_text (ev : Bool) {fs : List Int} (hf : Figs fs) (p : Nat) : KBw.bInts (decIn ⟨(txtL ev fs p).toArray⟩ (K0 ev) (K1 ev)) = fs.map b64C ++ List.replicate p 61 := by
  unfold decIn trB KBw.bInts txtL
  simp only [Array.toList_map, List.map_append, List.map_map, List.map_replicate, List.map_toArray]
  congr 1
  · apply List.map_congr_left
    intro f hf'
    obtain ⟨n, rfl⟩ := Int.eq_ofNat_of_zero_le (hf f hf').1
    exact (sg_facts ev n (by have := (hf _ hf').2; omega)).2.1
  · rw [(pad_facts ev).2.1]
/-- the decoder tells what the law reads -/
theorem told_read (ev : Bool) {fs : List Int} (hf : Figs fs) (p : Nat) : toldV ⟨(txtL ev fs p).toArray⟩ (K0 ev) (K1 ev) = readV fs (p : Int) := by
  obtain ⟨lc, h⟩ := dec_back p fs hf
  unfold toldV readV
  rw [dec_text ev hf p, h]
  have hiff : decBad (((fs.length % 4 : Nat) : Int), lc, (p : Int)) ↔ (fs.length % 4 = 1 ∨ (1 < fs.length % 4 ∧ ((fs.length % 4 : Nat) : Int) + (p : Int) < 4)) := by
    unfold decBad
    dsimp only
    constructor
    · rintro (h | ⟨h1, h2⟩)
      · exact .inl (by omega)
      · by_cases h3 : fs.length % 4 = 1
        · exact .inl h3
        · exact .inr ⟨by omega, h2⟩
    · rintro (h | ⟨h1, h2⟩)
      · exact .inl (by omega)
      · exact .inr ⟨by omega, h2⟩
  by_cases hb : decBad (((fs.length % 4 : Nat) : Int), lc, (p : Int))
  · rw [if_pos hb, if_pos (hiff.mp hb)]
  · rw [if_neg hb, if_neg (fun q => hb (hiff.mpr q))]
end
section
-- Pure2
set_option maxRecDepth 10000
set_option linter.unusedVariables false
def qS : PySem.Str := PySem.Str.ofString "\""
theorem qS_eq : PySem.Str.ofString "\"" = ⟨#[34]⟩ := by decide +kernel
theorem starts_q (x : PySem.Str) : Txt.startswith x (PySem.Str.ofString "\"") = (x.cps.toList.head? == some 34) := by
  rw [qS_eq]
  unfold Txt.startswith Builtin.Str.subAt
  cases hL : x.cps.toList with
  | nil =>
    have hs : x.length = 0 := size_toL hL
    rw [hs]; rfl
  | cons a r =>
    have hs : x.length = r.length + 1 := size_toL hL
    have e : x.cps.extract 0 (0 + (⟨#[34]⟩ : PySem.Str).length) = #[a] := by
      apply Array.ext'
      rw [extract_toList, hL]; rfl
    rw [e, hs]
    have h1 : decide (0 + (⟨#[34]⟩ : PySem.Str).length ≤ r.length + 1) = true := decide_eq_true (by show 0 + 1 ≤ _; omega)
    rw [h1, Bool.true_and]
    show (#[a] == #[34]) = (some a == some 34)
    by_cases h : a = 34
    · subst h; rfl
    · have h2 : (#[a] == #[34]) = false := by simp [h]
      have h3 : (some a == some 34) = false := by simp [h]
      rw [h2, h3]
theorem ends_q (x : PySem.Str) : Txt.endswith x (PySem.Str.ofString "\"") = (x.cps.toList.getLast? == some 34) := by
  rw [qS_eq]
  unfold Txt.endswith Builtin.Str.subAt
  rcases List.eq_nil_or_concat x.cps.toList with hL | ⟨r, a, hL'⟩
  · have hs : x.length = 0 := size_toL hL
    rw [hs, hL]; rfl
  · have hL : x.cps.toList = r ++ [a] := by rw [hL', List.concat_eq_append]
    have hs : x.length = r.length + 1 := by show x.cps.size = _; have := size_toL hL; simpa using this
    have e : x.cps.extract (r.length + 1 - (⟨#[34]⟩ : PySem.Str).length) (r.length + 1 - (⟨#[34]⟩ : PySem.Str).length + (⟨#[34]⟩ : PySem.Str).length) = #[a] := by
      apply Array.ext'
      rw [extract_toList, hL]
      show ((r ++ [a]).drop (r.length + 1 - 1)).take (r.length + 1 - 1 + 1 - (r.length + 1 - 1)) = [a]
      rw [Nat.add_sub_cancel, List.drop_left, Nat.add_sub_cancel_left]; rfl
    rw [hs, e, hL]
    have h1 : decide (0 + (⟨#[34]⟩ : PySem.Str).length ≤ r.length + 1) = true := decide_eq_true (by show 0 + 1 ≤ _; omega)
    rw [h1, Bool.true_and, List.getLast?_concat]
    by_cases h : a = 34
    · subst h; rfl
    · have h2 : (#[a] == #[34]) = false := by simp [h]
      have h3 : (some a == some 34) = false := by simp [h]
      rw [h2, h3]
def cutL (l : List Nat) : List Nat := if l.head? = some 34 then l.drop 1 else l
def cutR (l : List Nat) : List Nat := if l.getLast? = some 34 then l.dropLast else l
theorem stripL_list (x : PySem.Str) : (stripL x).cps.toList = cutL x.cps.toList := by
  unfold stripL cutL
  rw [starts_q]
  by_cases h : x.cps.toList.head? = some 34
  · rw [if_pos (by rw [h]; rfl), if_pos h, show Txt.slice x (some 1) none = _ from slice_from x 1 (by
      cases hL : x.cps.toList with
      | nil => rw [hL] at h; cases h
      | cons a r => show 1 ≤ x.cps.size; rw [size_toL hL]; simp)]
  · rw [if_neg (by simpa using h), if_neg h]
theorem stripQ_list (x : PySem.Str) : (stripQ x).cps.toList = cutR (cutL x.cps.toList) := by
  unfold stripQ cutR
  rw [ends_q, stripL_list]
  by_cases h : (cutL x.cps.toList).getLast? = some 34
  · have hn : cutL x.cps.toList ≠ [] := fun q => by rw [q] at h; cases h
    have hl : (stripL x).length = (cutL x.cps.toList).length := by show (stripL x).cps.size = _; exact size_toL (stripL_list x)
    rw [if_pos (by rw [h]; rfl), if_pos h, slice_to_last _ (by rw [hl]; exact List.length_pos_iff.mpr hn), stripL_list, hl]
    exact (List.dropLast_eq_take ..).symm
  · rw [if_neg (by simpa using h), if_neg h, stripL_list]
theorem str_of {x : PySem.Str} {l : List Nat} (h : x.cps.toList = l) : x = ⟨l.toArray⟩ := str_ext (by rw [h])
/-- marks around are taken away -/
theorem strip_quoted (w : List Nat) : stripQ ⟨(34 :: (w ++ [34])).toArray⟩ = ⟨w.toArray⟩ := by
  apply str_of
  rw [stripQ_list]
  have e : cutL (34 :: (w ++ [34])) = w ++ [34] := rfl
  show cutR (cutL (34 :: (w ++ [34]))) = w
  rw [e]
  unfold cutR
  rw [if_pos (by rw [List.getLast?_concat]), List.dropLast_concat]
def markF (ev : Bool) : Int := if ev then 62 else 63
def slashF (ev : Bool) : Int := if ev then 63 else 62
def behindL (ev : Bool) (row : List Int) : List Int := if row.take 1 = [markF ev] then row.drop 1 else row
def betweenL (ev : Bool) (row : List Int) (p : Nat) : List Int := if p = 0 ∧ (behindL ev row).getLast? = some (markF ev) then (behindL ev row).dropLast else behindL ev row
theorem sg_mark (ev : Bool) {f : Int} (h : 0 ≤ f ∧ f < 64) : sg ev f = 34 ↔ f = markF ev := by
  obtain ⟨n, rfl⟩ := Int.eq_ofNat_of_zero_le h.1
  exact (sg_facts ev n (by omega)).2.2.2.2.2.2.1
theorem figs_drop {l : List Int} (h : Figs l) (k : Nat) : Figs (l.drop k) := fun f hf => h f (List.mem_of_mem_drop hf)
theorem figs_behind (ev : Bool) {row : List Int} (h : Figs row) : Figs (behindL ev row) := by
  unfold behindL; split
  · exact figs_drop h 1
  · exact h
theorem figs_between (ev : Bool) {row : List Int} (h : Figs row) (p : Nat) : Figs (betweenL ev row p) := by
  unfold betweenL; split
  · exact fun f hf => figs_behind ev h f ((List.dropLast_sublist _).subset hf)
  · exact figs_behind ev h
theorem cutL_txt (ev : Bool) {row : List Int} (h : Figs row) (p : Nat) : cutL (txtL ev row p) = txtL ev (behindL ev row) p := by
  unfold cutL behindL
  cases row with
  | nil =>
    have : (txtL ev [] p).head? ≠ some 34 := by
      cases p with
      | zero => simp [txtL]
      | succ p => simp [txtL, List.replicate_succ]
    rw [if_neg this, if_neg (by simp)]
  | cons a r =>
    have ha := h a (.head _)
    have e : (txtL ev (a :: r) p).head? = some (sg ev a) := rfl
    by_cases hm : a = markF ev
    · rw [if_pos (by rw [e, (sg_mark ev ha).mpr hm]), if_pos (by rw [hm]; rfl)]; rfl
    · rw [if_neg (by rw [e]; intro q; exact hm ((sg_mark ev ha).mp (Option.some.inj q))), if_neg (by intro q; exact hm (by simpa using q))]
theorem cutR_txt (ev : Bool) {row : List Int} (h : Figs row) (p : Nat) : cutR (txtL ev row p) = txtL ev (if p = 0 ∧ row.getLast? = some (markF ev) then row.dropLast else row) p := by
  unfold cutR
  cases p with
  | succ p =>
    have e : (txtL ev row (p + 1)).getLast? = some 61 := by
      unfold txtL
      rw [List.replicate_succ', ← List.append_assoc, List.getLast?_concat]
    rw [if_neg (by rw [e]; decide), if_neg (by simp)]
  | zero =>
    rcases List.eq_nil_or_concat row with rfl | ⟨r, a, hra⟩
    · rfl
    · rw [List.concat_eq_append] at hra
      subst hra
      have ha := h a (List.mem_append_right _ (.head _))
      have e : txtL ev (r ++ [a]) 0 = txtL ev r 0 ++ [sg ev a] := by simp [txtL]
      rw [e, List.getLast?_concat, List.getLast?_concat, List.dropLast_concat, List.dropLast_concat]
      by_cases hm : a = markF ev
      · rw [if_pos (by rw [(sg_mark ev ha).mpr hm]), if_pos ⟨rfl, by rw [hm]⟩]
      · rw [if_neg (by intro q; exact hm ((sg_mark ev ha).mp (Option.some.inj q))), if_neg (by intro q; exact hm (Option.some.inj q.2)), e]
theorem strip_text (ev : Bool) {row : List Int} (h : Figs row) (p : Nat) : stripQ ⟨(txtL ev row p).toArray⟩ = ⟨(txtL ev (betweenL ev row p) p).toArray⟩ := by
  apply str_of
  rw [stripQ_list]
  show cutR (cutL (txtL ev row p)) = _
  rw [cutL_txt ev h p, cutR_txt ev (figs_behind ev h) p]
  rfl
/-- the writing between marks -/
def innerL (ev : Bool) (row : List Int) : List Int := row.flatMap fun f => if 61 < f then [slashF ev, f] else [f]
theorem figs_inner (ev : Bool) {row : List Int} (h : Figs row) : Figs (innerL ev row) := by
  intro f hf
  obtain ⟨g, hg, hf⟩ := List.mem_flatMap.mp hf
  split at hf
  · rcases List.mem_cons.mp hf with rfl | hf
    · unfold slashF; split <;> decide
    · rw [List.mem_singleton.mp hf]; exact h g hg
  · rw [List.mem_singleton.mp hf]; exact h g hg
theorem esc_append (a b : List Nat) : esc (a ++ b) = esc a ++ esc b := by simp [esc]
theorem esc_pads : ∀ p, esc (List.replicate p 61) = List.replicate p 61
  | 0 => rfl
  | p + 1 => by rw [List.replicate_succ, esc_cons, esc_pads p]; rfl
theorem esc_text (ev : Bool) (p : Nat) : ∀ {row : List Int}, Figs row → esc (txtL ev row p) = txtL ev (innerL ev row) p
  | [], _ => by unfold txtL innerL; exact esc_pads p
  | a :: r, h => by
    obtain ⟨ha, hr⟩ := figs_cons h
    have ih := esc_text ev p hr
    have e1 : txtL ev (a :: r) p = sg ev a :: txtL ev r p := rfl
    have e2 : innerL ev (a :: r) = (if 61 < a then [slashF ev, a] else [a]) ++ innerL ev r := rfl
    have e3 : ∀ q : List Int, txtL ev (q ++ innerL ev r) p = q.map (sg ev) ++ txtL ev (innerL ev r) p := fun q => by simp [txtL]
    rw [e1, esc_cons, ih, e2, e3]
    obtain ⟨n, rfl⟩ := Int.eq_ofNat_of_zero_le ha.1
    have hb := (sg_facts ev n (by omega)).2.2.2.2.2.1
    have hs := (pad_facts ev).2.2
    by_cases h62 : n < 62
    · have : escB (sg ev (n : Int)) = false := by rw [decide_eq_true h62] at hb; simpa using hb.symm
      rw [if_neg (by rw [this]; exact Bool.false_ne_true), if_neg (by omega)]; rfl
    · have : escB (sg ev (n : Int)) = true := by rw [decide_eq_false h62] at hb; simpa using hb.symm
      rw [if_pos this, if_pos (by omega)]
      show [92, sg ev (n : Int)] ++ _ = [sg ev (slashF ev), sg ev (n : Int)] ++ _
      rw [show sg ev (slashF ev) = 92 from hs]
def bareB (row : List Int) (p : Nat) : Bool := decide (row ≠ [] ∧ p = 0 ∧ ∀ f ∈ row, f < 62)
theorem tok_text (ev : Bool) {row : List Int} (h : Figs row) (p : Nat) : tokS ⟨(txtL ev row p).toArray⟩ = bareB row p := by
  have key : (((⟨(txtL ev row p).toArray⟩ : PySem.Str).cps.size ≠ 0 ∧ ∀ i < (⟨(txtL ev row p).toArray⟩ : PySem.Str).cps.size, tokB ((⟨(txtL ev row p).toArray⟩ : PySem.Str).cps.getD i 0) = true)) ↔ (row ≠ [] ∧ p = 0 ∧ ∀ f ∈ row, f < 62) := by
    have all : (∀ i < (txtL ev row p).toArray.size, tokB ((txtL ev row p).toArray.getD i 0) = true) ↔ ∀ c ∈ txtL ev row p, tokB c = true := by
      constructor
      · intro hh c hc
        obtain ⟨i, hi, rfl⟩ := mem_getD hc
        have := hh i (by simpa using hi)
        have e : (txtL ev row p).toArray.getD i 0 = (txtL ev row p).getD i 0 := getD0 rfl i
        rwa [e] at this
      · intro hh i hi
        have e : (txtL ev row p).toArray.getD i 0 = (txtL ev row p).getD i 0 := getD0 rfl i
        rw [e]
        exact hh _ (mem_of_getD (by simpa using hi))
    dsimp only
    rw [all]
    have hsz : (txtL ev row p).toArray.size = row.length + p := by simp [txtL]
    rw [hsz]
    constructor
    · rintro ⟨h0, hh⟩
      have hp : p = 0 := by
        rcases Nat.eq_zero_or_pos p with q | q
        · exact q
        · have := hh 61 (List.mem_append_right _ (by simp; omega))
          exact absurd this (by decide +kernel)
      subst hp
      refine ⟨fun q => h0 (by rw [q]; rfl), rfl, fun f hf => ?_⟩
      obtain ⟨n, rfl⟩ := Int.eq_ofNat_of_zero_le (h f hf).1
      have := (sg_facts ev n (by have := (h _ hf).2; omega)).2.2.2.2.1
      rw [hh _ (List.mem_append_left _ (List.mem_map.mpr ⟨_, hf, rfl⟩))] at this
      have := of_decide_eq_true this
      omega
    · rintro ⟨h0, rfl, hh⟩
      refine ⟨by have := List.length_pos_iff.mpr h0; omega, fun c hc => ?_⟩
      simp only [txtL, List.replicate_zero, List.append_nil] at hc
      obtain ⟨f, hf, rfl⟩ := List.mem_map.mp hc
      obtain ⟨n, rfl⟩ := Int.eq_ofNat_of_zero_le (h f hf).1
      have := (sg_facts ev n (by have := (h _ hf).2; omega)).2.2.2.2.1
      rw [← this]
      exact decide_eq_true (by have := hh _ hf; omega)
  unfold tokS bareB
  by_cases q : (row ≠ [] ∧ p = 0 ∧ ∀ f ∈ row, f < 62)
  · rw [decide_eq_true q, decide_eq_true (key.mpr q)]
  · rw [decide_eq_false q, decide_eq_false (fun z => q (key.mp z))]
theorem writ_text (ev : Bool) {row : List Int} (h : Figs row) (p : Nat) : writ ⟨(txtL ev row p).toArray⟩ = if bareB row p = true then ⟨(txtL ev row p).toArray⟩ else ⟨(34 :: (txtL ev (innerL ev row) p ++ [34])).toArray⟩ := by
  unfold writ
  rw [tok_text ev h p]
  have e : esc (⟨(txtL ev row p).toArray⟩ : PySem.Str).cps.toList = txtL ev (innerL ev row) p := esc_text ev p h
  rw [e]
theorem inner_bare (ev : Bool) {row : List Int} {p : Nat} (h : bareB row p = true) : innerL ev row = row := by
  obtain ⟨_, _, hh⟩ := of_decide_eq_true h
  unfold innerL
  have : ∀ l : List Int, (∀ f ∈ l, f < 62) → (l.flatMap fun f => if 61 < f then [slashF ev, f] else [f]) = l := by
    intro l
    induction l with
    | nil => intro _; rfl
    | cons a r ih =>
      intro hl
      rw [List.flatMap_cons, ih fun f hf => hl f (.tail _ hf), if_neg (by have := hl a (.head _); omega)]
      rfl
  exact this row hh
theorem between_bare (ev : Bool) {row : List Int} {p : Nat} (h : bareB row p = true) : betweenL ev row p = row := by
  obtain ⟨_, _, hh⟩ := of_decide_eq_true h
  have hm : ∀ f ∈ row, f ≠ markF ev := fun f hf q => by have := hh f hf; rw [q] at this; unfold markF at this; split at this <;> omega
  have hb : behindL ev row = row := by
    unfold behindL
    rw [if_neg]
    intro q
    exact hm (markF ev) (List.mem_of_mem_take (i := 1) (by rw [q]; exact .head _)) rfl
  unfold betweenL
  rw [hb, if_neg]
  rintro ⟨_, q⟩
  exact hm _ (List.mem_of_getLast? q) rfl
theorem strip_bare (ev : Bool) {row : List Int} (h : Figs row) {p : Nat} (hb : bareB row p = true) : stripQ ⟨(txtL ev row p).toArray⟩ = ⟨(txtL ev (innerL ev row) p).toArray⟩ := by
  rw [strip_text ev h p, between_bare ev hb, inner_bare ev hb]
theorem txt_chars (ev : Bool) {row : List Int} (h : Figs row) (p : Nat) : ∀ c ∈ txtL ev row p, 33 ≤ c ∧ c < 127 := by
  intro c hc
  rcases List.mem_append.mp hc with hc | hc
  · obtain ⟨f, hf, rfl⟩ := List.mem_map.mp hc
    obtain ⟨n, rfl⟩ := Int.eq_ofNat_of_zero_le (h f hf).1
    have := sg_facts ev n (by have := (h _ hf).2; omega)
    exact ⟨this.2.2.1, this.2.2.2.1⟩
  · rw [List.eq_of_mem_replicate hc]; decide
/-- what the rows are -/
theorem figs_whole {l : List Int} (h : Figs l) : Figs (wholeL l) := by
  have ht : Figs (l.take (l.length - 1)) := fun f hf => h f (List.mem_of_mem_take hf)
  have hl : 0 ≤ l.getD (l.length - 1) 0 ∧ l.getD (l.length - 1) 0 < 64 := by
    rw [List.getD_eq_getElem?_getD]
    cases e : l[l.length - 1]? with
    | none => simp
    | some f => exact h f (List.mem_of_getElem? e)
  unfold wholeL
  split
  · exact h
  split
  · intro f hf
    rcases List.mem_append.mp hf with hf | hf
    · exact h f hf
    · rw [List.mem_singleton.mp hf]; decide
  split
  · intro f hf
    rcases List.mem_append.mp hf with hf | hf
    · exact ht f hf
    · rw [List.mem_singleton.mp hf]; omega
  · intro f hf
    rcases List.mem_append.mp hf with hf | hf
    · exact ht f hf
    · rw [List.mem_singleton.mp hf]; omega
theorem getD_last (l : List Int) (a : Int) : (l ++ [a]).getD ((l ++ [a]).length - 1) 0 = a := by
  rw [List.length_append, List.length_singleton, Nat.add_sub_cancel, List.getD_eq_getElem?_getD, List.getElem?_append_right (Nat.le_refl _), Nat.sub_self]; rfl
theorem whole_whole (l : List Int) : Whole (wholeL l) := by
  unfold wholeL
  split
  · exact .inl (by assumption)
  split
  · have h : l.length % 4 = 1 := by assumption
    exact .inr (.inl ⟨by rw [List.length_append, List.length_singleton]; omega, by rw [getD_last]; decide⟩)
  split
  · refine .inr (.inl ⟨by simp; omega, ?_⟩)
    rw [getD_last]; omega
  · refine .inr (.inr ⟨by simp; omega, ?_⟩)
    rw [getD_last]; omega
theorem whole_len (l : List Int) : (wholeL l).length ≤ l.length + 1 := by
  unfold wholeL
  split
  · omega
  split
  · simp
  split <;> simp <;> omega
theorem rows_figs : ∀ (ns : List Int), (∀ n ∈ ns, 0 ≤ n ∧ n < 310) → ∀ Rs : List (List Int), (∀ R ∈ Rs, Figs R) → ∀ R ∈ ns.foldl rowsStep Rs, Figs R
  | [], _, _, h => h
  | n :: r, hn, Rs, h => by
    refine rows_figs r (fun m hm => hn m (.tail _ hm)) _ ?_
    have hn0 := hn n (.head _)
    have add : ∀ v : Int, (0 ≤ v ∧ v < 64) → ∀ R ∈ lastAdd Rs v, Figs R := by
      intro v hv R hR
      rcases List.mem_append.mp hR with hR | hR
      · exact h R ((List.dropLast_sublist _).subset hR)
      · rw [List.mem_singleton.mp hR]
        intro f hf
        rcases List.mem_append.mp hf with hf | hf
        · rw [List.getLastD_eq_getLast?] at hf
          cases e : Rs.getLast? with
          | none => rw [e] at hf; exact nomatch hf
          | some R' => rw [e] at hf; exact h R' (List.mem_of_getLast? e) f hf
        · rw [List.mem_singleton.mp hf]; exact hv
    unfold rowsStep
    split
    · split
      · intro R hR
        rcases List.mem_append.mp hR with hR | hR
        · exact h R hR
        · rw [List.mem_singleton.mp hR]; exact fun f hf => nomatch hf
      · exact h
    split
    · exact add _ (by omega)
    · exact add _ (by omega)
theorem rows_len : ∀ (ns : List Int) (Rs : List (List Int)) (k : Nat), (∀ R ∈ Rs, R.length ≤ k) → ∀ R ∈ ns.foldl rowsStep Rs, R.length ≤ k + ns.length
  | [], _, _, h => h
  | n :: r, Rs, k, h => by
    intro R hR
    have := rows_len r (rowsStep Rs n) (k + 1) ?_ R hR
    · rw [List.length_cons]; omega
    have add : ∀ v : Int, ∀ R ∈ lastAdd Rs v, R.length ≤ k + 1 := by
      intro v R hR
      rcases List.mem_append.mp hR with hR | hR
      · have := h R ((List.dropLast_sublist _).subset hR); omega
      · rw [List.mem_singleton.mp hR, List.length_append, List.length_singleton, List.getLastD_eq_getLast?]
        cases e : Rs.getLast? with
        | none => simp
        | some R' => have := h R' (List.mem_of_getLast? e); simpa using this
    intro R hR
    unfold rowsStep at hR
    split at hR
    · split at hR
      · rcases List.mem_append.mp hR with hR | hR
        · have := h R hR; omega
        · rw [List.mem_singleton.mp hR]; simp
      · have := h R hR; omega
    split at hR
    · exact add _ R hR
    · exact add _ R hR
theorem rows_ne : ∀ (ns : List Int) (Rs : List (List Int)), Rs ≠ [] → ns.foldl rowsStep Rs ≠ []
  | [], _, h => h
  | n :: r, Rs, h => by
    refine rows_ne r _ ?_
    unfold rowsStep
    split
    · split
      · simp
      · exact h
    split <;> simp [lastAdd]
end
section
-- End
set_option maxRecDepth 10000
set_option linter.unusedVariables false
def kxOf (ev : Bool) (i : Nat) (R : List Int) : PySem.Str × PySem.Str := (⟨#[97 + i]⟩, ⟨(txtL ev (wholeL R) (padOf (wholeL R).length)).toArray⟩)
def psFrom (ev : Bool) : Nat → List (List Int) → List (PySem.Str × PySem.Str)
  | _, [] => []
  | i, R :: r => kxOf ev i R :: psFrom ev (i + 1) r
theorem psFrom_at (ev : Bool) : ∀ (Rs : List (List Int)) (k i : Nat), (psFrom ev k Rs)[i]? = (Rs[i]?).map (kxOf ev (k + i))
  | [], _, _ => by simp [psFrom]
  | R :: r, k, 0 => by simp [psFrom]
  | R :: r, k, i + 1 => by
    have := psFrom_at ev r (k + 1) i
    simp only [psFrom, List.getElem?_cons_succ, this]
    rw [show k + 1 + i = k + (i + 1) by omega]
theorem psFrom_len (ev : Bool) : ∀ (Rs : List (List Int)) (k : Nat), (psFrom ev k Rs).length = Rs.length
  | [], _ => rfl
  | R :: r, k => by simp [psFrom, psFrom_len ev r (k + 1)]
theorem pad_le2 (n : Nat) : padOf n ≤ 2 := by unfold padOf; split <;> decide
theorem kx_good (ev : Bool) {i : Nat} {R : List Int} (hi : i < 4) (hf : Figs R) : GoodP (kxOf ev i R) (97 + i) :=
  ⟨rfl, by omega, by omega, fun y hy => txt_chars ev (figs_whole hf) _ y (by simpa [kxOf] using hy)⟩
theorem kx_size (ev : Bool) {i : Nat} {R : List Int} (hl : R.length ≤ 20) : (kxOf ev i R).1.cps.size ≤ 10 ∧ (kxOf ev i R).2.cps.size ≤ 100 := by
  refine ⟨by show (1 : Nat) ≤ 10; decide, ?_⟩
  have h1 := whole_len R
  have h2 := pad_le2 (wholeL R).length
  show (txtL ev (wholeL R) (padOf (wholeL R).length)).toArray.size ≤ 100
  simp only [txtL, List.size_toArray, List.length_append, List.length_map, List.length_replicate]
  omega
theorem ps_mem {ev : Bool} {Rs : List (List Int)} (h4 : Rs.length ≤ 4) {kx : PySem.Str × PySem.Str} (h : kx ∈ psFrom ev 0 Rs) : ∃ i R, i < 4 ∧ R ∈ Rs ∧ kx = kxOf ev i R := by
  obtain ⟨i, hi⟩ := List.mem_iff_getElem?.mp h
  rw [psFrom_at] at hi
  cases e : Rs[i]? with
  | none => rw [e] at hi; cases hi
  | some R =>
    rw [e] at hi
    have hl := (List.getElem?_eq_some_iff.mp e).1
    refine ⟨i, R, by omega, List.mem_of_getElem? e, ?_⟩
    have := Option.some.inj hi
    rw [Nat.zero_add] at this
    exact this.symm
theorem glue_hdr : ∀ ps : List (PySem.Str × PySem.Str), (PySem.Str.join (PySem.Str.ofString "; ") (ps.map partOf)).cps.toList = hdrL ps
  | [] => rfl
  | [kx] => rfl
  | kx :: ky :: r => by
    have ih := glue_hdr (ky :: r)
    show ((partOf kx ++ PySem.Str.ofString "; " ++ PySem.Str.join (PySem.Str.ofString "; ") ((ky :: r).map partOf))).cps.toList = (partOf kx).cps.toList ++ 59 :: 32 :: hdrL (ky :: r)
    rw [PySem.Str.cps_append, PySem.Str.cps_append, Array.toList_append, Array.toList_append, ih, show (PySem.Str.ofString "; ").cps.toList = [59, 32] by decide +kernel]
    simp
theorem join_hdr (ps : List (PySem.Str × PySem.Str)) : (joinT ps).cps.toList = hdrL ps := by
  rw [← glue_hdr, ← StrLaws.glued_eq_join]; rfl
theorem part_eq (i : Nat) (x : PySem.Str) : (⟨#[97 + i]⟩ : PySem.Str) ++ PySem.Str.ofString "=" ++ writ x = partOf (⟨#[97 + i]⟩, x) := by
  unfold partOf
  rw [show PySem.Str.ofString "=" = ⟨#[61]⟩ by decide +kernel]
  simp only [str_app]
  congr 1
  apply Array.ext'
  simp
theorem Fr_but {g h h' : Heap} {L P : Addr} {m : Str → Option Value} (F : Fr g L h m) (hP : g.get? P = none) (hL : P ≠ L) (k : Heap.ExtBut P h h') : Fr g L h' m :=
  ⟨F.ns.at' fun o e => k _ o (fun q => hL q.symm) e, fun b o e => k b o (fun q => by rw [q, hP] at e; cases e) (F.keep b o e), F.above⟩
theorem News_but {g h h' : Heap} {L P : Addr} {news : List (Addr × Obj)} (N : News g L h news) (k : Heap.ExtBut P h h') (hne : ∀ p ∈ news, p.1 ≠ P) : News g L h' news := fun p hp => ⟨k _ _ (hne p hp) (N p hp).1, (N p hp).2⟩
theorem News_with {g h h' : Heap} {L P : Addr} {o o' : Obj} {news news' : List (Addr × Obj)} (N : News g L h news) (hm : (P, o) ∈ news) (hs : ∀ p ∈ news', p ∈ news ∧ p.1 ≠ P) (k : Heap.ExtBut P h h') (e : h'.get? P = some o') : News g L h' ((P, o') :: news') := by
  intro p hp
  rcases List.mem_cons.mp hp with rfl | hp
  · exact ⟨e, (N _ hm).2⟩
  · exact ⟨k _ _ (hs p hp).2 (N p (hs p hp).1).1, (N p (hs p hp).1).2⟩
/-- the split's lists of pairs, beside the ledger -/
structure Kept (h : Heap) (lr lq : Addr) (outs : Array Value) (ps : List (PySem.Str × PySem.Str)) : Prop where
  outer : h.IsList lr #[.ref lq]
  inner : h.IsList lq outs
  pairs : ∀ (i : Nat) (v : Value), outs[i]? = some v → ∃ kx, ps[i]? = some kx ∧ PairAt h v kx
theorem Kept.stays {h h' : Heap} {lr lq : Addr} {outs : Array Value} {ps : List (PySem.Str × PySem.Str)} (K : Kept h lr lq outs ps) (k : h.StaysIn h') : Kept h' lr lq outs ps := by
  refine ⟨?_, ?_, fun i v hv => ?_⟩
  · obtain ⟨o, e, r⟩ := K.outer; exact ⟨o, k _ _ e, r⟩
  · obtain ⟨o, e, r⟩ := K.inner; exact ⟨o, k _ _ e, r⟩
  · obtain ⟨kx, e, a, tk, tx, e2, o, e3, r⟩ := K.pairs i v hv
    exact ⟨kx, e, a, tk, tx, e2, o, k _ _ e3, r⟩
theorem newList_kept {M : Model} {A : Around} {E : Value → Shared → Prop} {s : Shared} {g : Heap} {L : Addr} {m : Str → Option Value} {news : List (Addr × Obj)} {vs : List Value} {Q : Value → Shared → Prop}
    {lr lq : Addr} {outs : Array Value} {ps : List (PySem.Str × PySem.Str)} (F : Fr g L s.heap m) (N : News g L s.heap news) (K : Kept s.heap lr lq outs ps)
    (h : ∀ l h', Fr g L h' m → News g L h' ((l, W.listOf vs.toArray 0) :: news) → (∀ p ∈ news, p.1 < l) → Kept h' lr lq outs ps → Q (.ref l) { s with heap := h' }) (hsz : vs.length ≤ sizeLine := by size_fits) : wpAny M A (newList vs) Q E s := by
  refine wpAny_newList (h _ _ (F.push _) ?_ (fun p hp => Heap.lt_size (N p hp).1) (K.stays fun b o e => Heap.get?_push_of_some _ e)) hsz
  have fresh : g.get? s.heap.objs.size = none := by
    cases e : g.get? s.heap.objs.size with
    | none => rfl
    | some o => exact absurd (Heap.lt_size (F.keep _ _ e)) (Nat.lt_irrefl _)
  intro p hp
  rcases List.mem_cons.mp hp with rfl | hp
  · exact ⟨Heap.get?_push_size _ rfl, fun q => Nat.ne_of_lt F.ns.lt q.symm, fresh⟩
  · exact ⟨Heap.get?_push_of_some _ (N p hp).1, (N p hp).2⟩
/-- the pairs as data -/
def pairD (kx : PySem.Str × PySem.Str) : PyData := .tuple [.str kx.1, .str kx.2]
theorem reads_pair {h : Heap} {v : Value} {kx : PySem.Str × PySem.Str} (hp : PairAt h v kx) : Reads h v (pairD kx) [] := by
  obtain ⟨a, tk, tx, rfl, o, e, hc, n, hd⟩ := hp
  exact .tuple e hc hd (.cons (.str _ _) (.cons (.str _ _) .nil))
theorem reads_each {h : Heap} : ∀ (vs : List Value) (ps : List (PySem.Str × PySem.Str)), vs.length = ps.length → (∀ (i : Nat) (v : Value), vs[i]? = some v → ∃ kx, ps[i]? = some kx ∧ PairAt h v kx) → ReadsAll h vs (ps.map pairD) []
  | [], [], _, _ => .nil
  | v :: vs, [], hl, _ => nomatch hl
  | [], kx :: ps, hl, _ => nomatch hl
  | v :: vs, kx :: ps, hl, hp => by
    obtain ⟨kx', e, hp0⟩ := hp 0 v rfl
    cases e
    have := reads_each vs ps (Nat.succ.inj hl) fun i v hv => hp (i + 1) v hv
    exact ReadsAll.cons (as := []) (reads_pair hp0) this
theorem reads_pairs {h : Heap} {l : Addr} {vs : Array Value} {ps : List (PySem.Str × PySem.Str)} (hl : h.IsList l vs) (hn : vs.size = ps.length) (hp : ∀ (i : Nat) (v : Value), vs[i]? = some v → ∃ kx, ps[i]? = some kx ∧ PairAt h v kx) :
    Reads h (.ref l) (.list (ps.map pairD)) [l] := by
  obtain ⟨o, e, hc, n, hd⟩ := hl
  exact .list e hc hd (reads_each vs.toList ps (by simpa using hn) fun i v hv => hp i v (by simpa using hv))
theorem reads_lists {h : Heap} {l l2 : Addr} {vs : Array Value} {ps : List (PySem.Str × PySem.Str)} (hl2 : h.IsList l2 #[.ref l]) (hl : h.IsList l vs) (hn : vs.size = ps.length) (hp : ∀ (i : Nat) (v : Value), vs[i]? = some v → ∃ kx, ps[i]? = some kx ∧ PairAt h v kx) :
    Reads h (.ref l2) (.list [.list (ps.map pairD)]) [l2, l] := by
  obtain ⟨o, e, hc, n, hd⟩ := hl2
  exact .list (as := [l]) e hc hd (.cons (as := [l]) (reads_pairs hl hn hp) .nil)
theorem good_ok {kx : PySem.Str × PySem.Str} {c : Nat} (G : GoodP kx c) : PySem.PyData.strOk kx.1 = true ∧ PySem.PyData.strOk kx.2 = true := by
  have h1 := G.hi
  refine ⟨?_, ?_⟩
  · unfold PySem.PyData.strOk
    rw [G.key]
    have : decide (c < 1114112) = true := decide_eq_true (by omega)
    simpa using this
  · unfold PySem.PyData.strOk
    rw [← Array.all_toList, List.all_eq_true]
    intro y hy
    have := G.val y hy
    exact decide_eq_true (by omega)
theorem lay_pairs : ∀ ps : List (PySem.Str × PySem.Str), (∀ kx ∈ ps, PySem.PyData.strOk kx.1 = true ∧ PySem.PyData.strOk kx.2 = true) → PyData.canLayAll0 (ps.map pairD) = true
  | [], _ => rfl
  | kx :: r, h => by
    have h1 := h kx (.head _)
    have ih := lay_pairs r fun y hy => h y (.tail _ hy)
    simp [pairD, PyData.canLayAll0, PyData.canLay0, h1.1, h1.2, ih]
theorem depth_pairs : ∀ ps : List (PySem.Str × PySem.Str), PyData.depthAll (ps.map pairD) ≤ 1
  | [] => Nat.zero_le _
  | kx :: r => by
    have := depth_pairs r
    simp only [List.map_cons, PyData.depthAll, pairD, PyData.depth]
    omega
theorem shaped_lists {ps : List (PySem.Str × PySem.Str)} (h : ∀ kx ∈ ps, PySem.PyData.strOk kx.1 = true ∧ PySem.PyData.strOk kx.2 = true) : SeqAt.shaped (.list [.list (ps.map pairD)]) = true := by
  have h1 := lay_pairs ps h
  have h2 := depth_pairs ps
  unfold SeqAt.shaped
  rw [Bool.and_eq_true]
  refine ⟨by simp [PyData.canLayAll0, PyData.canLay0, h1], ?_⟩
  refine decide_eq_true ?_
  simp only [PyData.depthAll, PyData.depth]
  omega
theorem eqv_lists {ps : List (PySem.Str × PySem.Str)} (h : ∀ kx ∈ ps, PySem.PyData.strOk kx.1 = true ∧ PySem.PyData.strOk kx.2 = true) : PyData.eqv (.list [.list (ps.map pairD)]) (.list [.list (ps.map pairD)]) = true :=
  SeqAt.eqv_refl _ (by simp [PyData.canLayAll0, PyData.canLay0, lay_pairs ps h])
end
section
-- F17
set_option maxRecDepth 100000
set_option maxHeartbeats 0

def P1 (nums : List Int) (ln : Addr) (arr : Array Value) (kk : Nat) : Prop :=
  IntsAre arr.toList nums ∧ nums.length ≤ 20 ∧ nums ≠ [] ∧ (∀ n ∈ nums, 0 ≤ n ∧ n < 310) ∧ @Ne Nat 89 ln ∧ @Ne Nat 72 ln
def lawNw (ln : Addr) (arr : Array Value) (kk : Nat) : List (Addr × Obj) := [(ln, W.listOf arr kk), (89, tabObj #[]), (72, tabObj #[])]
theorem mod310 {l : List Int} : ∀ n ∈ (l.take 20).map (fun k => k.fmod 310), 0 ≤ n ∧ n < 310 := by
  intro n hn
  obtain ⟨k, _, rfl⟩ := List.mem_map.mp hn
  rw [Int.fmod_eq_emod_of_nonneg _ (by decide)]; omega
theorem ints4 {a b c d : Int} {ta tb tc td : Tok} : IntsAre (#[Value.int a ta, .int b tb, .int c tc, .int d td] : Array Value).toList [a, b, c, d] := .cons _ _ (.cons _ _ (.cons _ _ (.cons _ _ .nil)))
inductive Hid (p : Prop) : Prop
  | mk : p → Hid p
theorem Hid.get {p : Prop} : Hid p → p
  | .mk h => h
theorem law_sub {ln : Addr} {arr : Array Value} {kk : Nat} {x y : Addr × Obj} : ∀ p ∈ lawNw ln arr kk, p ∈ [(ln, W.listOf arr kk), x, y, (89, tabObj #[]), (72, tabObj #[])] := by
  intro p hp
  repeat (rcases List.mem_cons.mp hp with rfl | hp; · k_mem)
  exact nomatch hp
structure LwSt where
  prs : Array Value
  n1 : Nat
  pts : Array Value
  n2 : Nat
  T : List (Addr × Obj)
local macro_rules | `(tactic| k_all) => `(tactic| assumption)
theorem pad_eq {row : List Int} {n : Nat} (hw : Whole row) (hn : n = row.length * 3 / 4) : (-(n : Int)).fmod 3 = ((padOf row.length : Nat) : Int) := by
  rw [Int.fmod_eq_emod_of_nonneg _ (by decide)]
  have h : row.length % 4 = 0 ∨ row.length % 4 = 2 ∨ row.length % 4 = 3 := by rcases hw with h | ⟨h, _⟩ | ⟨h, _⟩ <;> omega
  unfold padOf
  rcases h with h | h | h <;> rw [h]
  · show _ = ((0 : Nat) : Int); omega
  · show _ = ((2 : Nat) : Int); omega
  · show _ = ((1 : Nat) : Int); omega
theorem mul_pad : ∀ P : Nat, P ≤ 2 → Txt.mul (PySem.Str.ofString "=") (P : Int) = ⟨(List.replicate P 61).toArray⟩ := by
  intro P hP
  have h : P = 0 ∨ P = 1 ∨ P = 2 := by omega
  rcases h with rfl | rfl | rfl <;> decide +kernel
theorem text_eq (ev : Bool) (row : List Int) {P : Nat} (hP : P ≤ 2) : (⟨(row.map (signOf ((K0 ev).toNat : Int) ((K1 ev).toNat : Int))).toArray⟩ : PySem.Str) ++ Txt.mul (PySem.Str.ofString "=") (P : Int) = ⟨(txtL ev row P).toArray⟩ := by
  rw [mul_pad P hP]
  apply str_ext
  show ((row.map (signOf ((K0 ev).toNat : Int) ((K1 ev).toNat : Int))).toArray ++ (List.replicate P 61).toArray).toList = _
  rw [Array.toList_append]; rfl
theorem inner_snoc (ev : Bool) {row : List Int} {j : Nat} {f : Int} (hf : row[j]? = some f) : innerL ev (row.take (j + 1)) = innerL ev (row.take j) ++ (if 61 < f then [slashF ev, f] else [f]) := by
  have : row.take (j + 1) = row.take j ++ [f] := by rw [List.take_add_one, hf]; rfl
  rw [this]
  unfold innerL
  rw [List.flatMap_append]
  congr 1
  simp
theorem bare_max {row : List Int} {P : Nat} {M : Int} (h0 : row ≠ []) (hP : P = 0) (hM : M ∈ row) (hA : ∀ a, a ∈ row → a ≤ M) : bareB row P = decide (M < 62) := by
  unfold bareB
  by_cases h : M < 62
  · rw [decide_eq_true h, decide_eq_true ⟨h0, hP, fun f hf => by have := hA f hf; omega⟩]
  · rw [decide_eq_false h, decide_eq_false fun q => h (q.2.2 M hM)]
theorem quo_eq (w : PySem.Str) : PySem.Str.ofString "\"" ++ w ++ PySem.Str.ofString "\"" = ⟨(34 :: (w.cps.toList ++ [34])).toArray⟩ := by
  rw [qS_eq]
  apply str_ext
  show ((#[34] ++ w.cps) ++ #[34] : Array Nat).toList = _
  simp
theorem ktsD {g h : Heap} {L : Addr} {m : Str → Option Value} (F : Fr g L h m) : KtsDicts [L] h := fun b hb => by
  rw [List.mem_singleton.mp hb]
  obtain ⟨o, es, n, e, hd, _⟩ := F.ns
  exact ⟨o, es, n, e, hd⟩
theorem fr_turn {g h g' : Heap} {L : Addr} {m : Str → Option Value} (F : Fr g L h m) (T : KtsTurn [L] h g') : Fr g L g' m := by
  refine ⟨?_, fun b o e => ?_, F.above⟩
  · obtain ⟨o, es, n, e, hd, r⟩ := F.ns
    obtain ⟨sl, e'⟩ := T.frame _ _ e (.head _)
    exact ⟨_, es, n, e', hd, r⟩
  · refine T.other _ _ (F.keep b o e) fun hb => ?_
    rw [List.mem_singleton.mp hb, kts_self F] at e; cases e
theorem news_turn {g h g' : Heap} {L : Addr} {news : List (Addr × Obj)} (N : News g L h news) (T : KtsTurn [L] h g') : News g L g' news := fun p hp =>
  ⟨T.other _ _ (N p hp).1 (fun hb => (N p hp).2.1 (List.mem_singleton.mp hb)), (N p hp).2⟩
local macro_rules | `(tactic| walk_at "call ref") => `(tactic| ((with_reducible show wpAny _ _ (call (Value.ref 217) _) _ _ _); refine stop_on ?_))
local macro_rules | `(tactic| walk_at "newList") => `(tactic| (k_here; (rename Kept _ _ _ _ _ => K9); (rename Fr _ _ _ _ => F9); (rename News _ _ _ _ => N9); refine newList_kept F9 N9 K9 ?_; clear F9 N9 K9; intro l' h' F' N' l1 K'))
theorem last_drop {l : List Int} {m : Int} : List.drop (l.length - 1) l = [m] ↔ l.getLast? = some m := by
  rcases List.eq_nil_or_concat l with rfl | ⟨r, a, h⟩
  · simp
  · rw [List.concat_eq_append] at h
    subst h
    rw [List.length_append, List.length_singleton, Nat.add_sub_cancel, List.drop_left, List.getLast?_concat]
    constructor
    · intro q; cases q; rfl
    · intro q; cases q; rfl
theorem between_yes {ev : Bool} {row bh : List Int} {P : Nat} (hb : behindL ev row = bh) (hP : P = 0) (h : List.drop (bh.length - 1) bh = [markF ev]) : betweenL ev row P = List.take (bh.length - 1) bh := by
  unfold betweenL
  rw [hb, if_pos ⟨hP, last_drop.mp h⟩, List.dropLast_eq_take]
theorem between_no {ev : Bool} {row bh : List Int} {P : Nat} (hb : behindL ev row = bh) (h : ¬ (P = 0 ∧ List.drop (bh.length - 1) bh = [markF ev])) : betweenL ev row P = bh := by
  unfold betweenL
  rw [hb, if_neg fun q => h ⟨q.1, last_drop.mpr q.2⟩]
def LawEnd (g : Heap) (L : Addr) (s : Shared) (f : Flow) (s' : Shared) : Prop :=
  ∃ h m news tk a b, f = .ret (.bool true) ∧ s' = { s with heap := h, toks := tk } ∧ Fr g L h m ∧ News g L h news ∧ (89, tabObj a) ∈ news ∧ (72, tabObj b) ∈ news
theorem LawEnd.intro {g : Heap} {L : Addr} {s : Shared} {h : Heap} {m : Str → Option Value} {news : List (Addr × Obj)} {tk : Nat} {a b : Array Value} (F : Fr g L h m) (N : News g L h news) (h1 : (89, tabObj a) ∈ news) (h2 : (72, tabObj b) ∈ news) :
    LawEnd g L s (.ret (.bool true)) { s with heap := h, toks := tk } := ⟨h, m, news, tk, a, b, rfl, rfl, F, N, h1, h2⟩
theorem law_wrap {prog : Program} {w : World} {A : Around} {t : Sem Flow} {Q : Flow → Shared → Prop} {E : Value → Shared → Prop} {s : Shared} {g : Heap} {L : Addr} {m : Str → Option Value} (F : Fr g L s.heap m) (h : wpAny (model prog w) A t (LawEnd g L s) (fun _ _ => False) s)
    (hq : ∀ h m tk a b, Fr g L h m → News g L h [(89, tabObj a), (72, tabObj b)] → Q (.ret (.bool true)) { s with heap := h, toks := tk }) : wpAny (model prog w) A t Q E s :=
  wpAny_mono h (fun f s' ⟨h, m, news, tk, a, b, e1, e2, F, N, h1, h2⟩ => by
    subst e1; subst e2
    exact hq h m tk a b F (News_sub N fun p hp => by
      rcases List.mem_cons.mp hp with rfl | hp
      · exact h1
      rcases List.mem_cons.mp hp with rfl | hp
      · exact h2
      exact nomatch hp)) (fun _ _ e => e.elim)
theorem tt : PySem.Challenge.rw_pa0036_01.Holds := hd (by
  k_go0
  (all_goals try k_fold)
  (rename Frag.In _ _ => Xg); (rename Top _ _ _ _ _ _ => Tg); (rename Below _ _ _ _ => Kg); (rename Fr _ _ _ _ => Fg); (rename News _ _ _ _ => Ng); (rename IntsAre _ _ => hI); (rename _ ∧ _ => o0)
  replace Kg := Hid.mk Kg
  refine law_wrap Fg ?_ ?qEnd
  case qEnd =>
    intro h' m' tk' a' b' F' N'
    clear Fg Ng
    k_steps
  refine seq_gen Fg (fun m news => ∃ nums ln arr kk, P1 nums ln arr kk ∧ Pins m [(PySem.Str.ofString "numbers", Value.ref ln)] ∧ ∀ p ∈ lawNw ln arr kk, p ∈ news) ?_ ?_
  · intro QQ hQ
    k_steps
    · (rename Fr _ _ _ _ => F9); (rename News _ _ _ _ => N9); (rename IntsAre _ _ => hI8); (rename (_ : Nat) < _ => hp); (rename _ ∧ _ => o1); (rename List Value => ys9)
      refine hQ F9 N9 ⟨_, _, _, ys9.length, ⟨by rw [List.toList_toArray]; exact hI8, by simp; omega, fun q => absurd hp (by rw [q]; exact Nat.lt_irrefl _), mod310, neN o1.2.1, neN o1.2.2⟩, ⟨rfl, trivial⟩, ?_⟩
      intro p hp
      repeat (rcases List.mem_cons.mp hp with rfl | hp; · k_mem)
      exact nomatch hp
    · (rename Fr _ _ _ _ => F9); (rename News _ _ _ _ => N9); (rename _ ∧ _ => o1)
      exact hQ F9 N9 ⟨_, _, _, _, ⟨ints4 (a := 1) (b := 2) (c := 18) (d := 0), by decide, by decide, by decide, Nat.ne_of_lt (ltN o1.2.2.1), Nat.ne_of_lt (ltN o1.2.2.2)⟩, ⟨rfl, trivial⟩, law_sub⟩
  intro h m news tk F N hP
  obtain ⟨nums, ln, arr, kk, ⟨hN1, hN2, hN3, hN4, hN5, hN6⟩, hpin, hsub⟩ := hP
  replace F := Mine.Fr.over hpin F
  replace N := News_sub N hsub
  dsimp only [lawNw] at N
  clear Fg Ng hpin hsub
  obtain ⟨ev, hev⟩ : ∃ ev : Bool, ev = decide (nums.sum.fmod 2 = 0) := ⟨_, rfl⟩
  refine seq_pins F (fun tm => [(PySem.Str.ofString "marks", Value.bytes #[K0 ev, K1 ev] tm), (PySem.Str.ofString "numbers", Value.ref ln)]) (lawNw ln arr kk) ?_ ?_
  · intro QQ hQ
    k_steps
    · (rename Fr _ _ _ _ => F9); (rename News _ _ _ _ => N9)
      rw [decide_eq_true (by assumption)] at hev
      subst hev
      exact hQ F9 N9 (pins_upd rfl) (fun p hp => hp)
    · (rename Fr _ _ _ _ => F9); (rename News _ _ _ _ => N9)
      rw [decide_eq_false (by assumption)] at hev
      subst hev
      exact hQ F9 N9 (pins_upd rfl) (fun p hp => hp)
  intro h2 m2 tk2 tm F2 N2
  dsimp only [lawNw] at N2
  clear F N
  refine seq_pins F2 (fun tsl => [(PySem.Str.ofString "slash", Value.int (slashF ev) tsl), (PySem.Str.ofString "marks", Value.bytes #[K0 ev, K1 ev] tm), (PySem.Str.ofString "numbers", Value.ref ln)]) (lawNw ln arr kk) ?_ ?_
  · intro QQ hQ
    k_steps
    · (rename Fr _ _ _ _ => F9); (rename News _ _ _ _ => N9)
      rw [decide_eq_true (by assumption)] at hev
      subst hev
      exact hQ F9 N9 (pins_upd rfl) (fun p hp => hp)
    · (rename Fr _ _ _ _ => F9); (rename News _ _ _ _ => N9)
      rw [decide_eq_false (by assumption)] at hev
      subst hev
      exact hQ F9 N9 (pins_upd rfl) (fun p hp => hp)
  intro h3 m3 tk3 tsl F3 N3
  dsimp only [lawNw] at N3
  clear F2 N2 hev
  have hs63 : 62 ≤ slashF ev ∧ slashF ev ≤ 63 := by cases ev <;> decide
  have hmk : 125 - slashF ev = markF ev := by cases ev <;> rfl
  k_steps
  (rename _ ∧ _ => o2); (rename Fr _ _ _ _ => F4); (rename News _ _ _ _ => N4)
  rename_i lpr h91 o1 h92 tk91 lpt h93 h94
  refine wpAny_call (rows_spec (Xg.keeps F4.keep) (Tg.keeps F4.keep) (by show callerA.depth + 1 ≤ 480; decide) (by rfl) (vs := arr.toList) (by rw [Array.toArray_toList]; exact ⟨_, (N4 _ (.tail _ (.tail _ (.head _)))).1, rfl, _, rfl⟩) hN1 hN4 hN2 ?_)
  intro lo outs h5 tk5 hst hlo hlo2 houts hlen hle hrows
  obtain ⟨extra, hex⟩ : ∃ extra : List (Addr × Obj), extra = (lo, LCg.lst (outs.map fun o => Value.ref o.1)) :: outs.map (fun o => (o.1, W.listOf o.2.1 o.2.2)) := ⟨_, rfl⟩
  have hex2 : ∀ p ∈ extra, h94.get? p.1 = none ∧ h5.get? p.1 = some p.2 := by
    intro p hp
    rw [hex] at hp
    rcases List.mem_cons.mp hp with rfl | hp
    · exact ⟨hlo, hlo2⟩
    · obtain ⟨o, ho, rfl⟩ := List.mem_map.mp hp
      exact ⟨(houts o ho).1, (houts o ho).2.1⟩
  have x1 := ext_ne N4 (fun p hp => (hex2 p hp).1) (.head _)
  have x2 := ext_ne N4 (fun p hp => (hex2 p hp).1) (.tail _ (.head _))
  have x3 := ext_ne N4 (fun p hp => (hex2 p hp).1) (.tail _ (.tail _ (.tail _ (.head _))))
  have x4 := ext_ne N4 (fun p hp => (hex2 p hp).1) (.tail _ (.tail _ (.tail _ (.tail _ (.head _)))))
  have N5 := news_ext F4 N4 hst hex2
  have F5 := Fr_stays F4 hst
  dsimp only [List.cons_append, List.nil_append] at N5 x1 x2 x3 x4
  rw [hmk] at F5
  have hRne : rowsRun nums ≠ [] := rows_ne nums [[]] (by simp)
  have hRf : ∀ R ∈ rowsRun nums, Figs R := rows_figs nums hN4 [[]] (fun R hR => by rw [List.mem_singleton.mp hR]; exact fun f hf => nomatch hf)
  have hRl : ∀ R ∈ rowsRun nums, R.length ≤ 20 := fun R hR => by
    have := rows_len nums [[]] 0 (fun R hR => by rw [List.mem_singleton.mp hR]; simp) R hR
    omega
  generalize rowsRun nums = Rs at hlen hrows hRne hRf hRl
  obtain ⟨ps, hps⟩ : ∃ ps, ps = psFrom ev 0 Rs := ⟨_, rfl⟩
  have hpsl : ps.length = Rs.length := by rw [hps]; exact psFrom_len ev Rs 0
  clear F4 N4 hst hlo hlo2 hex2
  (try dsimp only)
  refine iter_list (items := (outs.map fun o => Value.ref o.1).toArray) (fun i (st : LwSt) => OutsOk ps st.prs st.T ∧ st.prs.size = i ∧ StrsAre st.pts.toList ((ps.take i).map partOf) ∧ (∀ p ∈ st.T, @LT.lt Nat _ lpt p.1))
    (fun st => [(PySem.Str.ofString "parts", Value.ref lpt), (PySem.Str.ofString "pairs", Value.ref lpr), (PySem.Str.ofString "mark", Value.int (markF ev) (tk3 + 1)), (PySem.Str.ofString "slash", Value.int (slashF ev) tsl), (PySem.Str.ofString "marks", Value.bytes #[K0 ev, K1 ev] tm)])
    (fun st => (lpt, W.listOf st.pts st.n2) :: (lpr, W.listOf st.prs st.n1) :: (89, tabObj #[]) :: (72, tabObj #[]) :: (st.T ++ extra)) ⟨#[], 0, #[], 0, []⟩ (by rfl) F5 N5 ?gl ?_ ⟨rfl, rfl, rfl, rfl, rfl, trivial⟩ ?gs ?mT ?mD rfl rfl rfl
  case gl =>
    intro h m' st F N
    exact ⟨_, (N (lo, LCg.lst (outs.map fun o => Value.ref o.1)) (.tail _ (.tail _ (.tail _ (.tail _ (List.mem_append_right _ (by rw [hex]; exact .head _))))))).1, rfl, _, rfl⟩
  case gs =>
    intro p hp
    rcases List.mem_cons.mp hp with rfl | hp
    · k_mem
    rcases List.mem_cons.mp hp with rfl | hp
    · k_mem
    rcases List.mem_cons.mp hp with rfl | hp
    · k_mem
    rcases List.mem_cons.mp hp with rfl | hp
    · k_mem
    · exact .tail _ (.tail _ (.tail _ (.tail _ (.tail _ hp))))
  · exact ⟨fun i v hv => by simp at hv, rfl, .nil, fun p hp => nomatch hp⟩
  case mT =>
    intro i st v m' h tk It oi hIt hoi hv hI hne F N
    obtain ⟨hI1, hI2, hI3, hI4⟩ := hI
    obtain ⟨prs, n1, pts, n2, T⟩ := st
    dsimp only at hI1 hI2 hI3 hI4 F N hne
    refine gen_post ?_
    intro TP hT
    obtain ⟨o, ho, rfl⟩ : ∃ o, outs[i]? = some o ∧ v = Value.ref o.1 := by
      simp only [List.getElem?_toArray, List.getElem?_map] at hv
      cases e : outs[i]? with
      | none => rw [e] at hv; cases hv
      | some o => rw [e] at hv; exact ⟨o, rfl, (Option.some.inj hv).symm⟩
    obtain ⟨Rw, hRw, hIo⟩ := hrows i o ho
    have hk : ps[i]? = some (kxOf ev i Rw) := by rw [hps, psFrom_at, hRw]; simp
    have hi4 : i < 4 := by
      have := (List.getElem?_eq_some_iff.mp ho).1
      omega
    have hfR := figs_whole (hRf Rw (List.mem_of_getElem? hRw))
    have hwR := whole_whole Rw
    have hlR : (wholeL Rw).length ≤ 21 := by have := whole_len Rw; have := hRl Rw (List.mem_of_getElem? hRw); omega
    obtain ⟨kx, hkx⟩ : ∃ kx, kx = kxOf ev i Rw := ⟨_, rfl⟩
    have hkx1 : kx = (⟨#[97 + i]⟩, ⟨(txtL ev (wholeL Rw) (padOf (wholeL Rw).length)).toArray⟩) := hkx
    rw [← hkx] at hk
    clear hkx
    generalize wholeL Rw = row at hIo hfR hwR hlR hkx1
    have hom : (o.1, W.listOf o.2.1 o.2.2) ∈ extra := by rw [hex]; exact .tail _ (List.mem_map.mpr ⟨o, List.mem_of_getElem? ho, rfl⟩)
    obtain ⟨ao, va, no⟩ := o
    obtain ⟨vr, rfl⟩ : ∃ vr : List Value, va = vr.toArray := ⟨va.toList, by simp⟩
    dsimp only at hIo hom F
    have z1 := neN (x1 _ hom)
    have z2 := neN (x2 _ hom)
    dsimp only at z1 z2
    have w1 : ∀ p ∈ T ++ extra, p.1 ≠ lpt := fun p hp => by
      rcases List.mem_append.mp hp with hp | hp
      · exact fun q => Nat.lt_irrefl _ (q ▸ hI4 p hp)
      · exact x1 p hp
    have w2 : ∀ p ∈ T ++ extra, p.1 ≠ lpr := fun p hp => by
      rcases List.mem_append.mp hp with hp | hp
      · exact fun q => Nat.lt_irrefl _ (Nat.lt_trans (q ▸ hI4 p hp) (ltN o2.1))
      · exact x2 p hp
    have n1' := neN (hne _ (.head _))
    have n2' := neN (hne _ (.tail _ (.head _)))
    dsimp only at n1' n2'
    have hnI : ∀ p ∈ T ++ extra, p.1 ≠ It := fun p hp => hne p (.tail _ (.tail _ (.tail _ (.tail _ hp))))
    obtain ⟨rest, hrest⟩ : ∃ rest : List (Addr × Obj), rest = (It, oi) :: (lpt, W.listOf pts n2) :: (lpr, W.listOf prs n1) :: (89, tabObj #[]) :: (72, tabObj #[]) :: (T ++ extra) := ⟨_, rfl⟩
    rw [← hrest] at N
    have hor : (ao, W.listOf vr.toArray no) ∈ rest := by rw [hrest]; exact .tail _ (.tail _ (.tail _ (.tail _ (.tail _ (List.mem_append_right _ hom)))))
    have h34 : callerA.depth + 1 ≤ 470 := by decide
    k_steps
    (rename Fr _ _ _ _ => F9); (rename News _ _ _ _ => N9)
    refine wpAny_call (octets_spec (Xg.keeps F9.keep) (Tg.keeps F9.keep) (by show callerA.depth + 1 ≤ 500; omega) (by rfl) (vs := vr) (by exact ⟨_, (N9 _ hor).1, rfl, _, rfl⟩) hIo hfR (by omega) ?_)
    intro h7 tk7 tk8 hst7
    replace F9 := Fr_stays F9 hst7
    replace N9 := News_stays N9 hst7
    clear hst7
    have hoz : (byteArr (octGo 0 0 row)).size = row.length * 3 / 4 := by rw [byteArr_size, oct_len row hfR]
    generalize hob : byteArr (octGo 0 0 row) = ob at hoz
    have hoz2 : ob.size ≤ 100 := by omega
    (try dsimp only)
    have hpd : (-(ob.size : Int)).fmod 3 = ((padOf row.length : Nat) : Int) := pad_eq hwR hoz
    have hP2 : padOf row.length ≤ 2 := by unfold padOf; split <;> decide
    generalize hP : padOf row.length = P at hpd hP2 hkx1
    k_steps
    (rename Fr _ _ _ _ => F9); (rename News _ _ _ _ => N9)
    rw [hpd] at F9
    refine wpAny_call (signs_spec (Xg.keeps F9.keep) (Tg.keeps F9.keep) (by show callerA.depth + 1 ≤ 500; omega) (by rfl) (vs := vr) (by exact ⟨_, (N9 _ hor).1, rfl, _, rfl⟩) hIo hfR (by omega) (k0 := ((K0 ev).toNat : Int)) (k1 := ((K1 ev).toNat : Int)) rfl (by cases ev <;> decide) (by cases ev <;> decide) ?_)
    intro h7 tk17 tk18 hst7
    replace F9 := Fr_stays F9 hst7
    replace N9 := News_stays N9 hst7
    clear hst7
    have hsl : (⟨(row.map (signOf ((K0 ev).toNat : Int) ((K1 ev).toNat : Int))).toArray⟩ : PySem.Str).length = row.length := by show (row.map _).toArray.size = _; simp
    generalize hsx : (⟨(row.map (signOf ((K0 ev).toNat : Int) ((K1 ev).toNat : Int))).toArray⟩ : PySem.Str) = sx at hsl
    have hsl2 : sx.length ≤ 21 := by omega
    (try dsimp only)
    have hPi0 : (0 : Int) ≤ (P : Int) := by omega
    have hPi2 : (P : Int) ≤ 2 := by omega
    k_steps
    (rename Fr _ _ _ _ => F9); (rename News _ _ _ _ => N9)
    have htx : sx ++ Txt.mul (PySem.Str.ofString "=") (P : Int) = ⟨(txtL ev row P).toArray⟩ := by rw [← hsx]; exact text_eq ev row hP2
    rw [htx] at F9
    have hxl : (⟨(txtL ev row P).toArray⟩ : PySem.Str).length = row.length + P := by show (txtL ev row P).toArray.size = _; simp [txtL]
    have hxc : ∀ c ∈ (⟨(txtL ev row P).toArray⟩ : PySem.Str).cps.toList, c < 128 := fun c hc => by have := txt_chars ev hfR P c hc; omega
    have hwr : trB (tbl 43 47 (K0 ev) (K1 ev)) (byteArr (encB ob)) = (⟨(txtL ev row P).toArray⟩ : PySem.Str).cps.map (·.toUInt8) := by
      rw [← hob, enc_text ev hfR hwR, hP]; simp
    obtain ⟨xt, hxt⟩ : ∃ xt : PySem.Str, xt = ⟨(txtL ev row P).toArray⟩ := ⟨_, rfl⟩
    rw [← hxt] at F9 hxl hxc hwr hkx1
    have hxz : xt.cps.size ≤ 1000000 := by have : xt.length = xt.cps.size := rfl; omega
    have hwz : (byteArr (encB ob)).size ≤ 1000000 := by
      have := congrArg Array.size hwr
      simp only [trB, Array.size_map] at this
      omega
    clear htx hsx hsl hsl2
    refine wpAny_call (b64enc_spec (Xg.keeps F9.keep) (Tg.keeps F9.keep) (by show callerA.depth + 1 ≤ 480; omega) (by rfl) hoz2 hwz ?_)
    intro h7 tk27 tk28 hst7
    replace F9 := Fr_stays F9 hst7
    replace N9 := News_stays N9 hst7
    clear hst7
    rw [hwr]
    have hxl2 : xt.length ≤ 23 := by omega
    (try dsimp only)
    k_steps
    (rename Fr _ _ _ _ => F9); (rename News _ _ _ _ => N9)
    rename_i lin hA o3 hB
    obtain ⟨tp, tt, m9, F9⟩ := pins2 F9 (fun a b => [(PySem.Str.ofString "inner", Value.ref lin), (PySem.Str.ofString "text", Value.str xt b), (PySem.Str.ofString "pads", Value.int (P : Int) a), (PySem.Str.ofString "row", Value.ref ao), (PySem.Str.ofString "parts", Value.ref lpt), (PySem.Str.ofString "pairs", Value.ref lpr), (PySem.Str.ofString "mark", Value.int (markF ev) (tk3 + 1)), (PySem.Str.ofString "slash", Value.int (slashF ev) tsl), (PySem.Str.ofString "marks", Value.bytes #[K0 ev, K1 ev] tm)]) ⟨rfl, rfl, rfl, rfl, rfl, rfl, rfl, rfl, rfl, trivial⟩
    have u1 : ∀ p ∈ rest, p.1 ≠ lin := fun p hp => Nat.ne_of_lt (o3 p hp)
    (try dsimp only)
    refine iter_list (items := vr.toArray) (fun j (st : Array Value × Nat) => IntsAre st.1.toList (innerL ev (row.take j)) ∧ st.1.size ≤ 2 * j)
      (fun st => [(PySem.Str.ofString "inner", Value.ref lin), (PySem.Str.ofString "text", Value.str xt tt), (PySem.Str.ofString "pads", Value.int (P : Int) tp), (PySem.Str.ofString "row", Value.ref ao), (PySem.Str.ofString "parts", Value.ref lpt), (PySem.Str.ofString "pairs", Value.ref lpr), (PySem.Str.ofString "mark", Value.int (markF ev) (tk3 + 1)), (PySem.Str.ofString "slash", Value.int (slashF ev) tsl), (PySem.Str.ofString "marks", Value.bytes #[K0 ev, K1 ev] tm)])
      (fun st => (lin, W.listOf st.1 st.2) :: rest) (#[], 0) (by rfl) F9 N9 ?il ⟨.nil, Nat.le_refl _⟩ ⟨rfl, rfl, rfl, rfl, rfl, rfl, rfl, rfl, rfl, trivial⟩ (fun p hp => hp) ?iT ?iD rfl rfl rfl
    case il =>
      intro h m' st F N
      exact ⟨_, (N _ (.tail _ hor)).1, rfl, _, rfl⟩
    case iT =>
      intro j st v m' h tk It2 oi2 hIt2 hoi2 hv2 hI hne2 F N
      obtain ⟨hJ1, hJ2⟩ := hI
      obtain ⟨out, nn⟩ := st
      dsimp only at hJ1 hJ2 F N hne2
      refine gen_post ?_
      intro TP2 hT2
      obtain ⟨f, tf, rfl, hf, hjl⟩ := intsAre_at hIo (by simpa using hv2)
      have hf64 := hfR f (List.mem_of_getElem? hf)
      have hz9 : out.size ≤ 100 := by omega
      have e1 := neN (hne2 _ (.head _))
      dsimp only at e1
      have hni : ∀ p ∈ (lin, W.listOf out nn) :: rest, p.1 ≠ It2 := hne2
      k_steps
      · have hg : 61 < f := by assumption
        (rename Fr _ _ _ _ => F9); (rename News _ _ _ _ => N9)
        subst hT2
        refine TurnEnd.intro ((out.push (.int (slashF ev) tsl)).push (.int f tf), nn + 1 + 1) F9 N9 ⟨?_, by show ((out.push _).push _).size ≤ _; rw [Array.size_push, Array.size_push]; omega⟩ (pins_drop 1 (pins_upd rfl)) ?_ (fun p hp => hp)
        · rw [inner_snoc ev hf, if_pos hg]
          exact ints_push2 hJ1
        · intro p hp
          rcases List.mem_cons.mp hp with rfl | hp
          · exact e1
          · exact hni p (.tail _ hp)
      · have hg : ¬ 61 < f := by assumption
        (rename Fr _ _ _ _ => F9); (rename News _ _ _ _ => N9)
        subst hT2
        refine TurnEnd.intro (out.push (.int f tf), nn + 1) F9 N9 ⟨?_, by show (out.push _).size ≤ _; rw [Array.size_push]; omega⟩ (pins_drop 1 (pins_upd rfl)) ?_ (fun p hp => hp)
        · rw [inner_snoc ev hf, if_neg hg]
          show IntsAre (out.push _).toList _
          rw [Array.toList_push]; exact intsAre_snoc hJ1 _ _
        · intro p hp
          rcases List.mem_cons.mp hp with rfl | hp
          · exact e1
          · exact hni p (.tail _ hp)
    case iD =>
      intro st m' h tk hI F N
      obtain ⟨hJ1, hJ2⟩ := hI
      obtain ⟨out, nn⟩ := st
      dsimp only at hJ1 hJ2 F N
      have hil := IntsAre.length hIo
      have hos : vr.toArray.size = row.length := by simpa using hil
      rw [hos, List.take_length] at hJ1
      have hJl := IntsAre.length hJ1
      have hJs : (innerL ev row).length ≤ 42 := by simp only [Array.length_toList] at hJl; omega
      have hfI := figs_inner ev hfR
      (try dsimp only)
      obtain ⟨wt, hwt⟩ : ∃ wt : PySem.Str, wt = ⟨(txtL ev (innerL ev row) P).toArray⟩ := ⟨_, rfl⟩
      have hwl : wt.length = (innerL ev row).length + P := by rw [hwt]; show (txtL ev (innerL ev row) P).toArray.size = _; simp [txtL]
      refine seq_pins F (fun tw => [(PySem.Str.ofString "within", Value.str wt tw), (PySem.Str.ofString "inner", Value.ref lin), (PySem.Str.ofString "text", Value.str xt tt), (PySem.Str.ofString "pads", Value.int (P : Int) tp), (PySem.Str.ofString "row", Value.ref ao), (PySem.Str.ofString "parts", Value.ref lpt), (PySem.Str.ofString "pairs", Value.ref lpr), (PySem.Str.ofString "mark", Value.int (markF ev) (tk3 + 1)), (PySem.Str.ofString "slash", Value.int (slashF ev) tsl), (PySem.Str.ofString "marks", Value.bytes #[K0 ev, K1 ev] tm)]) ((lin, W.listOf out nn) :: rest) ?_ ?_
      · intro QQ hQ
        k_steps
        (rename Fr _ _ _ _ => F9); (rename News _ _ _ _ => N9)
        refine wpAny_call (signs_spec (Xg.keeps F9.keep) (Tg.keeps F9.keep) (by show callerA.depth + 1 ≤ 500; omega) (by rfl) (vs := out.toList) (by rw [Array.toArray_toList]; exact ⟨_, (N9 _ (.head _)).1, rfl, _, rfl⟩) hJ1 hfI (by omega) (k0 := ((K0 ev).toNat : Int)) (k1 := ((K1 ev).toNat : Int)) rfl (by cases ev <;> decide) (by cases ev <;> decide) ?_)
        intro h7 tk17 tk18 hst7
        replace F9 := Fr_stays F9 hst7
        replace N9 := News_stays N9 hst7
        clear hst7
        have hsl : (⟨((innerL ev row).map (signOf ((K0 ev).toNat : Int) ((K1 ev).toNat : Int))).toArray⟩ : PySem.Str).length = (innerL ev row).length := by show ((innerL ev row).map _).toArray.size = _; simp
        have htx := text_eq ev (innerL ev row) hP2
        generalize (⟨((innerL ev row).map (signOf ((K0 ev).toNat : Int) ((K1 ev).toNat : Int))).toArray⟩ : PySem.Str) = sx at hsl htx
        have hsl2 : sx.length ≤ 42 := by omega
        (try dsimp only)
        k_steps
        · (rename Fr _ _ _ _ => F9); (rename News _ _ _ _ => N9)
          rw [htx, ← hwt] at F9
          exact hQ F9 N9 (pins_upd rfl) (fun p hp => hp)
      intro h21 m21 tk21 tw F21 N21
      clear F N
      have hwl2 : wt.length ≤ 44 := by omega
      have N22 : News _ _ h21 ((ao, W.listOf vr.toArray no) :: (lin, W.listOf out nn) :: rest) := fun p hp => by
        rcases List.mem_cons.mp hp with rfl | hp
        · exact N21 _ (.tail _ hor)
        · exact N21 p hp
      clear N21
      obtain ⟨bb, hbb⟩ : ∃ bb : Bool, bb = bareB row P := ⟨_, rfl⟩
      refine seq_pins F21 (fun _ => [(PySem.Str.ofString "bare", Value.bool bb), (PySem.Str.ofString "within", Value.str wt tw), (PySem.Str.ofString "inner", Value.ref lin), (PySem.Str.ofString "text", Value.str xt tt), (PySem.Str.ofString "pads", Value.int (P : Int) tp), (PySem.Str.ofString "row", Value.ref ao), (PySem.Str.ofString "parts", Value.ref lpt), (PySem.Str.ofString "pairs", Value.ref lpr), (PySem.Str.ofString "mark", Value.int (markF ev) (tk3 + 1)), (PySem.Str.ofString "slash", Value.int (slashF ev) tsl), (PySem.Str.ofString "marks", Value.bytes #[K0 ev, K1 ev] tm)]) ((lin, W.listOf out nn) :: rest) ?_ ?_
      · intro QQ hQ
        k_steps
        · (rename Fr _ _ _ _ => F9); (rename News _ _ _ _ => N9)
          have hb : bareB row P = !decide (row = []) := by
            have h0 : decide (row = []) = true := by assumption
            rw [h0]
            exact decide_eq_false fun q => q.1 (of_decide_eq_true h0)
          rw [hb] at hbb
          subst hbb
          exact hQ (t := 0) F9 N9 (pins_upd rfl) (fun p hp => .tail _ (.tail _ hp))
        · (rename Fr _ _ _ _ => F9); (rename News _ _ _ _ => N9)
          have h0 : decide (row = []) = false := by assumption
          have hPz : (P : Int) = 0 := by assumption
          have hPz' : P = 0 := by omega
          have hl0 : 0 < row.length := List.length_pos_iff.mpr (of_decide_eq_false h0)
          refine kso_max (l := ao) F9 N9 ⟨_, (N9 (ao, W.listOf vr.toArray no) (.tail _ (.head _))).1, rfl, _, rfl⟩ hIo hl0 rfl ?_
          intro h24 M tM tk24 F24 N24 hM hA
          (try dsimp only)
          k_steps
          · (rename Fr _ _ _ _ => F9); (rename News _ _ _ _ => N9)
            have hb : bareB row P = decide (M < 62) := bare_max (of_decide_eq_false h0) hPz' hM hA
            rw [hb] at hbb
            subst hbb
            exact hQ (t := 0) F9 N9 (pins_upd rfl) (fun p hp => .tail _ (.tail _ hp))
        · (rename Fr _ _ _ _ => F9); (rename News _ _ _ _ => N9)
          have hb : bareB row P = ((P : Int) == 0) := by
            have hPz : (P : Int) ≠ 0 := by assumption
            rw [show ((P : Int) == 0) = false from beq_eq_false_iff_ne.mpr hPz]
            exact decide_eq_false fun q => hPz (by rw [q.2.1]; rfl)
          rw [hb] at hbb
          subst hbb
          exact hQ (t := 0) F9 N9 (pins_upd rfl) (fun p hp => .tail _ (.tail _ hp))
      intro h23 m23 tk23 _ F23 N23
      clear F21 N22
      have hwv := writ_text ev hfR P
      rw [← hxt] at hwv
      have hwl3 : wt.cps.toList = txtL ev (innerL ev row) P := by rw [hwt]
      have hvy : bb = true → writ xt = xt := fun q => by rw [hwv, if_pos (by rw [← hbb]; exact q)]
      have hvn : bb = false → writ xt = PySem.Str.ofString "\"" ++ wt ++ PySem.Str.ofString "\"" := fun q => by rw [hwv, if_neg (by rw [← hbb, q]; exact Bool.false_ne_true), quo_eq, hwl3]
      have hsv : stripQ (writ xt) = wt := by
        rw [hwv]
        by_cases hq : bareB row P = true
        · rw [if_pos hq, hxt, strip_bare ev hfR hq, hwt]
        · rw [if_neg hq, strip_quoted, hwt]
      refine seq_pins F23 (fun tv => [(PySem.Str.ofString "value", Value.str (writ xt) tv), (PySem.Str.ofString "within", Value.str wt tw), (PySem.Str.ofString "inner", Value.ref lin), (PySem.Str.ofString "text", Value.str xt tt), (PySem.Str.ofString "pads", Value.int (P : Int) tp), (PySem.Str.ofString "row", Value.ref ao), (PySem.Str.ofString "parts", Value.ref lpt), (PySem.Str.ofString "pairs", Value.ref lpr), (PySem.Str.ofString "mark", Value.int (markF ev) (tk3 + 1)), (PySem.Str.ofString "slash", Value.int (slashF ev) tsl), (PySem.Str.ofString "marks", Value.bytes #[K0 ev, K1 ev] tm)]) ((lin, W.listOf out nn) :: rest) ?_ ?_
      · intro QQ hQ
        k_steps
        all_goals first
          | ((rename Fr _ _ _ _ => F9); (rename News _ _ _ _ => N9)
             have hb1 : bb = true := by assumption
             have hv9 := hvy hb1
             rw [hv9] at hQ
             exact hQ F9 N9 (pins_skip (pins_upd rfl)) (fun p hp => hp))
          | ((rename Fr _ _ _ _ => F9); (rename News _ _ _ _ => N9)
             have hb1 : bb = false := by assumption
             have hv9 := hvn hb1
             rw [hv9] at hQ
             exact hQ F9 N9 (pins_skip (pins_upd rfl)) (fun p hp => hp))
      intro h25 m25 tk25 tv F25 N25
      clear F23 N23
      have hvl : (writ xt).length ≤ 100 := by
        rw [hwv]
        split
        · omega
        · rw [← hwl3]
          show ((34 :: (wt.cps.toList ++ [34])).toArray).size ≤ 100
          have : wt.length = wt.cps.size := rfl
          simp; omega
      generalize hwx : writ xt = vx at hsv hvl F25
      refine seq_pins F25 (fun _ => [(PySem.Str.ofString "value", Value.str vx tv), (PySem.Str.ofString "within", Value.str wt tw), (PySem.Str.ofString "inner", Value.ref lin), (PySem.Str.ofString "text", Value.str xt tt), (PySem.Str.ofString "pads", Value.int (P : Int) tp), (PySem.Str.ofString "row", Value.ref ao), (PySem.Str.ofString "parts", Value.ref lpt), (PySem.Str.ofString "pairs", Value.ref lpr), (PySem.Str.ofString "mark", Value.int (markF ev) (tk3 + 1)), (PySem.Str.ofString "slash", Value.int (slashF ev) tsl), (PySem.Str.ofString "marks", Value.bytes #[K0 ev, K1 ev] tm)]) ((lin, W.listOf out nn) :: rest) ?_ ?_
      · intro QQ hQ
        k_steps
        (rename Fr _ _ _ _ => F9); (rename News _ _ _ _ => N9)
        refine wpAny_call (strip_spec (Xg.keeps F9.keep) (Tg.keeps F9.keep) (by show callerA.depth + 1 ≤ 500; omega) (by rfl) (by omega) ?_)
        intro h7 tk31 tk32 hst7
        replace F9 := Fr_stays F9 hst7
        replace N9 := News_stays N9 hst7
        clear hst7
        rw [hsv]
        (try dsimp only)
        k_steps
        all_goals first
          | (exfalso; have hc : (wt != wt) = true := by assumption
             simp at hc; done)
          | skip
        (rename Fr _ _ _ _ => F9); (rename News _ _ _ _ => N9)
        exact hQ (t := 0) F9 N9 (pins_over rfl) (fun p hp => hp)
      intro h26 m26 tk26 _ F26 N26
      clear F25 N25
      have hwc : ∀ c ∈ wt.cps.toList, c < 128 := fun c hc => by rw [hwl3] at hc; have := txt_chars ev hfI P c hc; omega
      have hwz2 : wt.cps.size ≤ 200 := by have : wt.length = wt.cps.size := rfl; omega
      have htr : toldV wt (K0 ev) (K1 ev) = readV (innerL ev row) (P : Int) := by rw [hwt]; exact told_read ev hfI P
      refine seq_pins F26 (fun _ => [(PySem.Str.ofString "value", Value.str vx tv), (PySem.Str.ofString "within", Value.str wt tw), (PySem.Str.ofString "inner", Value.ref lin), (PySem.Str.ofString "text", Value.str xt tt), (PySem.Str.ofString "pads", Value.int (P : Int) tp), (PySem.Str.ofString "row", Value.ref ao), (PySem.Str.ofString "parts", Value.ref lpt), (PySem.Str.ofString "pairs", Value.ref lpr), (PySem.Str.ofString "mark", Value.int (markF ev) (tk3 + 1)), (PySem.Str.ofString "slash", Value.int (slashF ev) tsl), (PySem.Str.ofString "marks", Value.bytes #[K0 ev, K1 ev] tm)]) ((lin, W.listOf out nn) :: rest) ?_ ?_
      · intro QQ hQ
        k_steps
        (rename Fr _ _ _ _ => F9); (rename News _ _ _ _ => N9)
        refine wpAny_call (strip_spec (Xg.keeps F9.keep) (Tg.keeps F9.keep) (by show callerA.depth + 1 ≤ 500; omega) (by rfl) (by omega) ?_)
        intro h7 tk31 tk32 hst7
        replace F9 := Fr_stays F9 hst7
        replace N9 := News_stays N9 hst7
        clear hst7
        rw [hsv]
        (try dsimp only)
        k_steps
        (rename Fr _ _ _ _ => F9); (rename News _ _ _ _ => N9)
        unfold Stop
        refine wpAny_call (told_spec (Xg.keeps F9.keep) (Tg.keeps F9.keep) (by show callerA.depth + 1 ≤ 470; omega) (by rfl) (by exact Kg.get.push F9) (by exact ktsD F9) Xg Tg (x := wt) (k0 := K0 ev) (k1 := K1 ev) (by assumption) (by assumption) ?_)
        intro h31 g31 tk33 tk34 hT31 hst31
        replace F9 := Fr_stays (fr_turn F9 hT31) hst31
        replace N9 := News_stays (news_turn N9 hT31) hst31
        clear hT31 hst31
        rw [htr]
        generalize hrv1 : readV (innerL ev row) (P : Int) = rv1
        (try dsimp only)
        k_steps
        (rename Fr _ _ _ _ => F9); (rename News _ _ _ _ => N9)
        refine wpAny_call (read_spec (Xg.keeps F9.keep) (Tg.keeps F9.keep) (by show callerA.depth + 1 ≤ 490; omega) (by rfl) (vs := out.toList) (ns := innerL ev row) (by rw [Array.toArray_toList]; exact ⟨_, (N9 _ (.head _)).1, rfl, _, rfl⟩) hJ1 hfI (by omega) ⟨by omega, by omega⟩ ?_)
        intro h7 tk35 tk36 hst7
        replace F9 := Fr_stays F9 hst7
        replace N9 := News_stays N9 hst7
        clear hst7
        (try dsimp only)
        rw [hrv1]
        cases rv1 with
        | none =>
          (try dsimp only [optV])
          k_steps
          all_goals first
            | ((rename Fr _ _ _ _ => F9); (rename News _ _ _ _ => N9)
               exact hQ (t := 0) F9 N9 (pins_over rfl) (fun p hp => hp))
        | some bv1 =>
          (try dsimp only [optV])
          k_steps
          all_goals first
            | (exfalso
               have hc : (bv1.toList != bv1.toList) = true := by assumption
               simp at hc
               done)
            | ((rename Fr _ _ _ _ => F9); (rename News _ _ _ _ => N9)
               exact hQ (t := 0) F9 N9 (pins_over rfl) (fun p hp => hp))
      intro h27 m27 tk27 _ F27 N27
      clear F26 N26
      have N28 : News _ _ h27 ((ao, W.listOf vr.toArray no) :: (lin, W.listOf out nn) :: rest) := fun p hp => by
        rcases List.mem_cons.mp hp with rfl | hp
        · exact N27 _ (.tail _ hor)
        · exact N27 p hp
      clear N27
      have hmk2 : 62 ≤ markF ev ∧ markF ev ≤ 63 := by cases ev <;> decide
      refine seq_gen F27 (fun m news => ∃ lb vb kb, IntsAre vb (behindL ev row) ∧ Pins m [(PySem.Str.ofString "behind", Value.ref lb), (PySem.Str.ofString "value", Value.str vx tv), (PySem.Str.ofString "within", Value.str wt tw), (PySem.Str.ofString "inner", Value.ref lin), (PySem.Str.ofString "text", Value.str xt tt), (PySem.Str.ofString "pads", Value.int (P : Int) tp), (PySem.Str.ofString "row", Value.ref ao), (PySem.Str.ofString "parts", Value.ref lpt), (PySem.Str.ofString "pairs", Value.ref lpr), (PySem.Str.ofString "mark", Value.int (markF ev) (tk3 + 1)), (PySem.Str.ofString "slash", Value.int (slashF ev) tsl), (PySem.Str.ofString "marks", Value.bytes #[K0 ev, K1 ev] tm)] ∧ ∀ p ∈ (lb, W.listOf vb.toArray kb) :: (lin, W.listOf out nn) :: rest, p ∈ news) ?_ ?_
      · intro QQ hQ
        k_steps
        · (rename Fr _ _ _ _ => F9); (rename News _ _ _ _ => N9); (rename IntsAre _ _ => hI8)
          have ha : List.take 1 row = [markF ev] := by assumption
          refine hQ F9 N9 ⟨_, _, 0, by unfold behindL; rw [if_pos ha]; exact hI8, pins_upd rfl, fun p hp => ?_⟩
          rcases List.mem_cons.mp hp with rfl | hp
          · exact .head _
          · exact .tail _ (.tail _ (.tail _ (.tail _ hp)))
        · (rename Fr _ _ _ _ => F9); (rename News _ _ _ _ => N9)
          have ha : ¬ List.take 1 row = [markF ev] := by assumption
          exact hQ F9 N9 ⟨ao, vr, no, by unfold behindL; rw [if_neg ha]; exact hIo, pins_upd rfl, fun p hp => .tail _ (.tail _ hp)⟩
      intro h29 m29 news29 tk29 F29 N29 hP29
      obtain ⟨lb, vb, kb, hIb, hpin, hsub⟩ := hP29
      replace F29 := Mine.Fr.over hpin F29
      replace N29 := News_sub N29 hsub
      clear F27 N28 hpin hsub
      have hfB := figs_behind ev hfR
      have hBl : (behindL ev row).length ≤ 21 := by
        unfold behindL; split
        · rw [List.length_drop]; omega
        · exact hlR
      generalize hbh : behindL ev row = bh at hIb hfB hBl
      refine seq_gen F29 (fun m news => ∃ lc vc kc, IntsAre vc (betweenL ev row P) ∧ Pins m [(PySem.Str.ofString "between", Value.ref lc), (PySem.Str.ofString "value", Value.str vx tv), (PySem.Str.ofString "within", Value.str wt tw), (PySem.Str.ofString "inner", Value.ref lin), (PySem.Str.ofString "text", Value.str xt tt), (PySem.Str.ofString "pads", Value.int (P : Int) tp), (PySem.Str.ofString "row", Value.ref ao), (PySem.Str.ofString "parts", Value.ref lpt), (PySem.Str.ofString "pairs", Value.ref lpr), (PySem.Str.ofString "mark", Value.int (markF ev) (tk3 + 1)), (PySem.Str.ofString "slash", Value.int (slashF ev) tsl), (PySem.Str.ofString "marks", Value.bytes #[K0 ev, K1 ev] tm)] ∧ ∀ p ∈ (lc, W.listOf vc.toArray kc) :: (lin, W.listOf out nn) :: rest, p ∈ news) ?_ ?_
      · intro QQ hQ
        k_steps
        · (rename Fr _ _ _ _ => F9); (rename News _ _ _ _ => N9); (rename IntsAre _ _ => hI8)
          have hPz : (P : Int) = 0 := by assumption
          have ha : List.drop (bh.length - 1) bh = [markF ev] := by assumption
          refine hQ F9 N9 ⟨_, _, 0, by rw [between_yes hbh (by omega) ha]; exact hI8, pins_skip (pins_upd rfl), fun p hp => ?_⟩
          rcases List.mem_cons.mp hp with rfl | hp
          · exact .head _
          · exact .tail _ (.tail _ (.tail _ (.tail _ hp)))
        · (rename Fr _ _ _ _ => F9); (rename News _ _ _ _ => N9)
          have ha : ¬ List.drop (bh.length - 1) bh = [markF ev] := by assumption
          exact hQ F9 N9 ⟨lb, vb, kb, by rw [between_no hbh (fun q => ha q.2)]; exact hIb, pins_skip (pins_upd rfl), fun p hp => .tail _ (.tail _ hp)⟩
        · (rename Fr _ _ _ _ => F9); (rename News _ _ _ _ => N9)
          have hPz : (P : Int) ≠ 0 := by assumption
          exact hQ F9 N9 ⟨lb, vb, kb, by rw [between_no hbh (fun q => hPz (by omega))]; exact hIb, pins_skip (pins_upd rfl), fun p hp => hp⟩
      intro h30 m30 news30 tk30 F30 N30 hP30
      obtain ⟨lc, vc, kc, hIc, hpin, hsub⟩ := hP30
      replace F30 := Mine.Fr.over hpin F30
      replace N30 := News_sub N30 hsub
      clear F29 N29 hpin hsub
      have hfC := figs_between ev hfR P
      have hCl : (betweenL ev row P).length ≤ 21 := by
        unfold betweenL
        rw [hbh]
        split
        · rw [List.length_dropLast]; omega
        · exact hBl
      have hzt : stripQ xt = ⟨(txtL ev (betweenL ev row P) P).toArray⟩ := by rw [hxt]; exact strip_text ev hfR P
      clear hbh
      generalize betweenL ev row P = bl at hIc hfC hCl hzt
      obtain ⟨zt, hze⟩ : ∃ zt : PySem.Str, zt = ⟨(txtL ev bl P).toArray⟩ := ⟨_, rfl⟩
      rw [← hze] at hzt
      have hztl : zt.cps.toList = txtL ev bl P := by rw [hze]
      have hzl : zt.length = bl.length + P := by rw [hze]; show (txtL ev bl P).toArray.size = _; simp [txtL]
      have hzl2 : zt.length ≤ 23 := by omega
      refine seq_pins F30 (fun _ => [(PySem.Str.ofString "between", Value.ref lc), (PySem.Str.ofString "value", Value.str vx tv), (PySem.Str.ofString "within", Value.str wt tw), (PySem.Str.ofString "inner", Value.ref lin), (PySem.Str.ofString "text", Value.str xt tt), (PySem.Str.ofString "pads", Value.int (P : Int) tp), (PySem.Str.ofString "row", Value.ref ao), (PySem.Str.ofString "parts", Value.ref lpt), (PySem.Str.ofString "pairs", Value.ref lpr), (PySem.Str.ofString "mark", Value.int (markF ev) (tk3 + 1)), (PySem.Str.ofString "slash", Value.int (slashF ev) tsl), (PySem.Str.ofString "marks", Value.bytes #[K0 ev, K1 ev] tm)]) ((lc, W.listOf vc.toArray kc) :: (lin, W.listOf out nn) :: rest) ?_ ?_
      · intro QQ hQ
        k_steps
        (rename Fr _ _ _ _ => F9); (rename News _ _ _ _ => N9)
        refine wpAny_call (strip_spec (Xg.keeps F9.keep) (Tg.keeps F9.keep) (by show callerA.depth + 1 ≤ 500; omega) (by rfl) (by omega) ?_)
        intro h7 tk31 tk32 hst7
        replace F9 := Fr_stays F9 hst7
        replace N9 := News_stays N9 hst7
        clear hst7
        rw [hzt]
        (try dsimp only)
        k_steps
        (rename Fr _ _ _ _ => F9); (rename News _ _ _ _ => N9)
        refine wpAny_call (signs_spec (Xg.keeps F9.keep) (Tg.keeps F9.keep) (by show callerA.depth + 1 ≤ 500; omega) (by rfl) (vs := vc) (by exact ⟨_, (N9 _ (.head _)).1, rfl, _, rfl⟩) hIc hfC (by omega) (k0 := ((K0 ev).toNat : Int)) (k1 := ((K1 ev).toNat : Int)) rfl (by cases ev <;> decide) (by cases ev <;> decide) ?_)
        intro h7 tk17 tk18 hst7
        replace F9 := Fr_stays F9 hst7
        replace N9 := News_stays N9 hst7
        clear hst7
        have hsl : (⟨(bl.map (signOf ((K0 ev).toNat : Int) ((K1 ev).toNat : Int))).toArray⟩ : PySem.Str).length = bl.length := by show (bl.map _).toArray.size = _; simp
        have htx := text_eq ev bl hP2
        generalize (⟨(bl.map (signOf ((K0 ev).toNat : Int) ((K1 ev).toNat : Int))).toArray⟩ : PySem.Str) = sx at hsl htx
        have hsl2 : sx.length ≤ 42 := by omega
        rw [← hze] at htx
        (try dsimp only)
        k_steps
        all_goals first
          | (exfalso
             have hc : (zt != sx ++ Txt.mul (PySem.Str.ofString "=") (P : Int)) = true := by assumption
             rw [htx] at hc
             simp at hc
             done)
          | ((rename Fr _ _ _ _ => F9); (rename News _ _ _ _ => N9)
             exact hQ (t := 0) F9 N9 (pins_over rfl) (fun p hp => hp))
      intro h32 m32 tk32 _ F32 N32
      clear F30 N30
      have hzc : ∀ c ∈ zt.cps.toList, c < 128 := fun c hc => by rw [hztl] at hc; have := txt_chars ev hfC P c hc; omega
      have hzz2 : zt.cps.size ≤ 200 := by have : zt.length = zt.cps.size := rfl; omega
      have htr2 : toldV zt (K0 ev) (K1 ev) = readV bl (P : Int) := by rw [hze]; exact told_read ev hfC P
      refine seq_pins F32 (fun _ => [(PySem.Str.ofString "value", Value.str vx tv), (PySem.Str.ofString "within", Value.str wt tw), (PySem.Str.ofString "inner", Value.ref lin), (PySem.Str.ofString "text", Value.str xt tt), (PySem.Str.ofString "pads", Value.int (P : Int) tp), (PySem.Str.ofString "row", Value.ref ao), (PySem.Str.ofString "parts", Value.ref lpt), (PySem.Str.ofString "pairs", Value.ref lpr), (PySem.Str.ofString "mark", Value.int (markF ev) (tk3 + 1)), (PySem.Str.ofString "slash", Value.int (slashF ev) tsl), (PySem.Str.ofString "marks", Value.bytes #[K0 ev, K1 ev] tm)]) ((lin, W.listOf out nn) :: rest) ?_ ?_
      · intro QQ hQ
        k_steps
        (rename Fr _ _ _ _ => F9); (rename News _ _ _ _ => N9)
        refine wpAny_call (strip_spec (Xg.keeps F9.keep) (Tg.keeps F9.keep) (by show callerA.depth + 1 ≤ 500; omega) (by rfl) (by omega) ?_)
        intro h7 tk31 tk32 hst7
        replace F9 := Fr_stays F9 hst7
        replace N9 := News_stays N9 hst7
        clear hst7
        rw [hzt]
        (try dsimp only)
        k_steps
        (rename Fr _ _ _ _ => F9); (rename News _ _ _ _ => N9)
        unfold Stop
        refine wpAny_call (told_spec (Xg.keeps F9.keep) (Tg.keeps F9.keep) (by show callerA.depth + 1 ≤ 470; omega) (by rfl) (by exact Kg.get.push F9) (by exact ktsD F9) Xg Tg (x := zt) (k0 := K0 ev) (k1 := K1 ev) (by assumption) (by assumption) ?_)
        intro h31 g31 tk33 tk34 hT31 hst31
        replace F9 := Fr_stays (fr_turn F9 hT31) hst31
        replace N9 := News_stays (news_turn N9 hT31) hst31
        clear hT31 hst31
        rw [htr2]
        generalize hrv2 : readV bl (P : Int) = rv2
        (try dsimp only)
        k_steps
        (rename Fr _ _ _ _ => F9); (rename News _ _ _ _ => N9)
        refine wpAny_call (read_spec (Xg.keeps F9.keep) (Tg.keeps F9.keep) (by show callerA.depth + 1 ≤ 490; omega) (by rfl) (vs := vc) (ns := bl) (by exact ⟨_, (N9 _ (.head _)).1, rfl, _, rfl⟩) hIc hfC (by omega) ⟨by omega, by omega⟩ ?_)
        intro h7 tk35 tk36 hst7
        replace F9 := Fr_stays F9 hst7
        replace N9 := News_stays N9 hst7
        clear hst7
        (try dsimp only)
        rw [hrv2]
        cases rv2 with
        | none =>
          (try dsimp only [optV])
          k_steps
          all_goals first
            | ((rename Fr _ _ _ _ => F9); (rename News _ _ _ _ => N9)
               exact hQ (t := 0) F9 N9 (pins_drop 1 (pins_over rfl)) (fun p hp => .tail _ hp))
        | some bv2 =>
          (try dsimp only [optV])
          k_steps
          all_goals first
            | (exfalso
               have hc : (bv2.toList != bv2.toList) = true := by assumption
               simp at hc
               done)
            | ((rename Fr _ _ _ _ => F9); (rename News _ _ _ _ => N9)
               exact hQ (t := 0) F9 N9 (pins_drop 1 (pins_over rfl)) (fun p hp => .tail _ hp))
      intro h33 m33 tk33 _ F33 N33
      clear F32 N32
      have e97 : (97 + (i : Int)).toNat = 97 + i := by omega
      have N34 := News_sub (news' := rest) N33 (fun p hp => .tail _ hp)
      clear N33 u1
      subst hrest
      k_steps
      (rename Fr _ _ _ _ => F9); (rename News _ _ _ _ => N9); (rename _ ∧ _ ∧ _ ∧ _ ∧ _ ∧ _ => o4)
      rename_i D9 hq1 Fq1 Nq1 hq2 Fq2 Nq2 tkq tq1 kq1 aq1 tq2 kq2 aq2 hq3
      have hpe : (⟨#[97 + i]⟩ : PySem.Str) ++ PySem.Str.ofString "=" ++ vx = partOf (⟨#[97 + i]⟩, xt) := by rw [← hwx]; exact part_eq i xt
      rw [e97] at F9 N9
      rw [hpe] at N9
      rw [hkx1] at hk
      subst hT
      refine TurnEnd.intro ⟨prs.push (.ref D9), n1 + 1, pts.push (.str (partOf (⟨#[97 + i]⟩, xt)) tq2), n2 + 1, (D9, tupObj #[.str ⟨#[97 + i]⟩ ?tD, .str xt tt]) :: T⟩ F9 N9 ⟨outs_push hI2 hI1 hk, by show (prs.push _).size = i + 1; rw [Array.size_push, hI2], jo_turn hI3 hk rfl, ?_⟩ (pins_drop 7 (pins_upd rfl)) ?gNe ?gSub
      case gSub =>
        intro p hp
        rcases List.mem_cons.mp hp with rfl | hp
        · k_mem
        rcases List.mem_cons.mp hp with rfl | hp
        · k_mem
        rcases List.mem_cons.mp hp with rfl | hp
        · k_mem
        rcases List.mem_cons.mp hp with rfl | hp
        · k_mem
        rcases List.mem_cons.mp hp with rfl | hp
        · k_mem
        rcases List.mem_cons.mp hp with rfl | hp
        · exact .head _
        · exact .tail _ (.tail _ (.tail _ (.tail _ (.tail _ (.tail _ hp)))))
      · intro p hp
        rcases List.mem_cons.mp hp with rfl | hp
        · exact ltN o4.2.1
        · exact hI4 p hp
      case gNe =>
        intro p hp
        rcases List.mem_cons.mp hp with rfl | hp
        · exact n1'
        rcases List.mem_cons.mp hp with rfl | hp
        · exact n2'
        rcases List.mem_cons.mp hp with rfl | hp
        · exact hne _ (.tail _ (.tail _ (.head _)))
        rcases List.mem_cons.mp hp with rfl | hp
        · exact hne _ (.tail _ (.tail _ (.tail _ (.head _))))
        rcases List.mem_cons.mp hp with rfl | hp
        · exact Nat.ne_of_gt (ltN o4.1)
        · exact hnI p hp
  case mD =>
    intro st m' h tk hI F N
    obtain ⟨hI1, hI2, hI3, hI4⟩ := hI
    obtain ⟨prs, n1, pts, n2, T⟩ := st
    dsimp only at hI1 hI2 hI3 hI4 F N
    have hsz : (outs.map fun o => Value.ref o.1).toArray.size = ps.length := by simp [hlen, hpsl]
    rw [hsz] at hI2
    rw [hsz, List.take_length] at hI3
    have hR4 : Rs.length ≤ 4 := by omega
    have hG : ∀ kx ∈ ps, ∃ c, GoodP kx c := fun kx hk => by
      rw [hps] at hk
      obtain ⟨i, R, hi, hR, rfl⟩ := ps_mem hR4 hk
      exact ⟨_, kx_good ev hi (hRf R hR)⟩
    have hZ : ∀ kx ∈ ps, kx.1.cps.size ≤ 10 ∧ kx.2.cps.size ≤ 100 := fun kx hk => by
      rw [hps] at hk
      obtain ⟨i, R, hi, hR, rfl⟩ := ps_mem hR4 hk
      exact kx_size ev (hRl R hR)
    have hp0 : ps ≠ [] := fun q => hRne (List.eq_nil_of_length_eq_zero (by rw [← hpsl, q]; rfl))
    have hp9 : ps.length ≤ 20 := by omega
    have hfit := joins_fit hZ hp9
    have hJl := joinT_len hZ hp9
    have hJh := join_hdr ps
    have hJe : Txt.join (PySem.Str.ofString "; ") (ps.map partOf) = joinT ps := rfl
    have w1 : ∀ p ∈ T ++ extra, p.1 ≠ 89 := fun p hp => by
      rcases List.mem_append.mp hp with hp | hp
      · exact fun q => Nat.lt_irrefl _ (Nat.lt_trans (ltN o2.2.2.1) (q ▸ hI4 p hp))
      · exact x3 p hp
    have w2 : ∀ p ∈ T ++ extra, p.1 ≠ 72 := fun p hp => by
      rcases List.mem_append.mp hp with hp | hp
      · exact fun q => Nat.lt_irrefl _ (Nat.lt_trans (ltN o2.2.2.2) (q ▸ hI4 p hp))
      · exact x4 p hp
    k_steps
    (rename Fr _ _ _ _ => F9); (rename News _ _ _ _ => N9); (rename _ ∧ _ ∧ _ ∧ _ ∧ _ => o5)
    rename_i l9 hq9
    refine wpAny_call (join_spec (Xg.keeps F9.keep) (Tg.keeps F9.keep) (by show callerA.depth + 1 ≤ 480; decide) (by rfl) (lp := lpr) (vs := prs.toList) (ps := ps) (N9 _ (.tail _ (.tail _ (.tail _ (.head _))))).1 (by exact ⟨_, (N9 _ (.head _)).1, rfl, _, rfl⟩)
      (by rw [Array.toArray_toList]; exact ⟨_, (N9 _ (.tail _ (.tail _ (.head _)))).1, rfl, _, rfl⟩) ?jp (by rw [Array.length_toList]; exact hI2) hp0 hp9 hZ ?_)
    case jp =>
      intro i v hv
      obtain ⟨kx, a, tk1, tx, e1, e2, e3⟩ := hI1 i v (by simpa using hv)
      exact ⟨kx, e1, a, tk1, tx, e2, _, (N9 _ (.tail _ (.tail _ (.tail _ (.tail _ (.tail _ (List.mem_append_left _ e3))))))).1, rfl, _, rfl⟩
    intro h10 psx tk10 tk11 hext h89
    have F10 := Fr_but F9 (N9 _ (.tail _ (.tail _ (.tail _ (.head _))))).2.2 (N9 _ (.tail _ (.tail _ (.tail _ (.head _))))).2.1 hext
    have N10 := News_with (news' := (l9, W.listOf #[Value.ref lpr] 0) :: (lpt, W.listOf pts n2) :: (lpr, W.listOf prs n1) :: (72, tabObj #[]) :: (T ++ extra)) N9 (.tail _ (.tail _ (.tail _ (.head _)))) (fun p hp => by
      rcases List.mem_cons.mp hp with rfl | hp
      · exact ⟨.head _, Nat.ne_of_gt (ltN o5.2.2.1)⟩
      rcases List.mem_cons.mp hp with rfl | hp
      · exact ⟨.tail _ (.head _), Nat.ne_of_gt (ltN o2.2.2.1)⟩
      rcases List.mem_cons.mp hp with rfl | hp
      · exact ⟨.tail _ (.tail _ (.head _)), Nat.ne_of_gt (ltN o1.2.1)⟩
      rcases List.mem_cons.mp hp with rfl | hp
      · exact ⟨.tail _ (.tail _ (.tail _ (.tail _ (.head _)))), by decide⟩
      · exact ⟨.tail _ (.tail _ (.tail _ (.tail _ (.tail _ hp)))), w1 p hp⟩) hext h89
    clear F9 N9 hext h89
    generalize joinT ps = J at hJl hJh hJe
    (try dsimp only)
    k_steps
    (rename Fr _ _ _ _ => F9); (rename News _ _ _ _ => N9)
    refine join_list (x := PySem.Str.ofString "; ") (D := lpt) ⟨_, (N9 _ (.tail _ (.tail _ (.head _)))).1, rfl, _, rfl⟩ hI3 hfit ?_
    intro t9 k9
    rw [hJe]
    k_steps
    (rename Fr _ _ _ _ => F9); (rename News _ _ _ _ => N9); (rename _ ∧ _ ∧ _ ∧ _ ∧ _ ∧ _ => o6)
    rename_i hq10 eJ l11 hq11
    clear eJ
    refine wpAny_call (split_spec (Xg.keeps F9.keep) (Tg.keeps F9.keep) (by show callerA.depth + 1 ≤ 480; decide) (by rfl) (x := J) (ps := ps) (N9 _ (.tail _ (.tail _ (.tail _ (.tail _ (.tail _ (.head _))))))).1 (by exact ⟨_, (N9 _ (.head _)).1, rfl, _, rfl⟩)
      hJh hG hp0 hp9 (by have : J.length = J.cps.size := rfl; omega) ?_)
    intro h12 lr lq qouts psy tk12 hext h72 hlr hlq hqn hqp
    have F12 := Fr_but F9 (N9 _ (.tail _ (.tail _ (.tail _ (.tail _ (.tail _ (.head _))))))).2.2 (N9 _ (.tail _ (.tail _ (.tail _ (.tail _ (.tail _ (.head _))))))).2.1 hext
    have N12 := News_with (news' := (89, tabObj psx) :: (lpr, W.listOf prs n1) :: (T ++ extra)) N9 (.tail _ (.tail _ (.tail _ (.tail _ (.tail _ (.head _)))))) (fun p hp => by
      rcases List.mem_cons.mp hp with rfl | hp
      · exact ⟨.tail _ (.head _), by show (89 : Nat) ≠ 72; decide⟩
      rcases List.mem_cons.mp hp with rfl | hp
      · exact ⟨.tail _ (.tail _ (.tail _ (.tail _ (.head _)))), Nat.ne_of_gt (ltN o1.2.2)⟩
      · exact ⟨.tail _ (.tail _ (.tail _ (.tail _ (.tail _ (.tail _ hp))))), w2 p hp⟩) hext h72
    have K12 : Kept h12 lr lq qouts ps := ⟨hlr, hlq, hqp⟩
    clear F9 N9 hext h72 hlr hlq hqp
    (try dsimp only)
    k_steps
    (rename Fr _ _ _ _ => F9); (rename News _ _ _ _ => N9); (rename Kept _ _ _ _ _ => K9)
    rename_i l13 hq12 l1q
    have hok : ∀ kx ∈ ps, PySem.PyData.strOk kx.1 = true ∧ PySem.PyData.strOk kx.2 = true := fun kx hk => by obtain ⟨c, G⟩ := hG kx hk; exact good_ok G
    refine eq_dataH (reads_lists K9.outer K9.inner hqn K9.pairs) (reads_lists (ps := ps) (l := lpr) (vs := prs) (by exact ⟨_, (N9 _ (.head _)).1, rfl, _, rfl⟩) (by exact ⟨_, (N9 _ (.tail _ (.tail _ (.tail _ (.head _))))).1, rfl, _, rfl⟩) hI2 ?pr) (shaped_lists hok) (shaped_lists hok) (by ke_room) ?_
    case pr =>
      intro i v hv
      obtain ⟨kx, a, tk1, tx, e1, e2, e3⟩ := hI1 i v hv
      exact ⟨kx, e1, a, tk1, tx, e2, _, (N9 _ (.tail _ (.tail _ (.tail _ (.tail _ (List.mem_append_left _ e3)))))).1, rfl, _, rfl⟩
    rw [eqv_lists hok]
    clear K9
    k_steps
    (rename Fr _ _ _ _ => F9); (rename News _ _ _ _ => N9)
    exact LawEnd.intro F9 N9 (.tail _ (.tail _ (.head _))) (.tail _ (.head _))
  )
end
end
end Mine
set_option maxRecDepth 100000 in
set_option maxHeartbeats 8000000 in
theorem PySem.Challenge.cw_pa0036_01_holds : PySem.Challenge.rw_pa0036_01.Holds := by
  exact Mine.tt
