import PyProof.Rows.All
import Wide.All
import OpenK.AllK
import Wide.FinOn
import Lean
import PySem.Challenge.RW_ez0211_02
set_option Elab.async false
set_option rowWalk.seconds 0
section
open PySem PySem.W PySem.W.X PyProof.Rows
namespace Mine
local macro_rules | `(tactic| k_head) => `(tactic| x_head)
set_option maxRecDepth 100000 in
set_option maxHeartbeats 8000000 in
open_top hd for PySem.Challenge.rw_ez0211_02
end Mine

end
section
open PySem PySem.W PyProof.Rows
theorem Mine.top_off : True := by
  w_top off
  trivial
end
section
open PySem PySem.W PySem.W.X PyProof.Rows
namespace Mine
local macro_rules | `(tactic| walk_at "pad") => `(tactic| fail "pad")
abbrev PR : Program := PySem.Challenge.pw_ez0211_02
abbrev A1 (outer : List Env) : Around := { handled := none, depth := 600, frames := some outer, guards := none, units := 2000 }
theorem wp_weaken {α : Type} {M : Model} {A A' : Around} {t : Sem α} {Q : α → Shared → Prop} {E : Value → Shared → Prop} {s : Shared}
    (h1 : A.handled = A'.handled) (h2 : A.depth ≤ A'.depth) (h3 : ∀ l, A'.frames = some l → A.frames = some l) (h4 : A'.guards = none) (h5 : A.units ≤ A'.units)
    (h : wpAny M A' t Q E s) : wpAny M A t Q E s := fun Γ p hΓ =>
  h Γ p ⟨hΓ.1.trans h1, Nat.le_trans hΓ.2.1 h2, fun l hl => hΓ.2.2.1 l (h3 l hl), fun g hg => (by rw [h4] at hg; cases hg), Nat.le_trans hΓ.2.2.2.2 h5⟩
local macro_rules | `(tactic| k_all) => `(tactic| assumption)
set_option maxRecDepth 100000 in
set_option maxHeartbeats 8000000 in
theorem law_next_K {w : World} {outer : List Env} {base h₀ : Heap} {L a : Addr} {cn : Str} {nms : List (Str × NameKind)} {ig ic : Bool} {mo} {ccd : Value} {m mg mb : Str → Option Value} {news : List (Addr × Obj)}
  {s : Shared} {p : Program} {loose : List Str} {mean : ExcName → Option Value} {Q : Value → Shared → Prop} {E : Value → Shared → Prop}
  (B : Below (A1 outer) base outer h₀) (F : Fr h₀ L s.heap m) (X₀ : (hd.heap_39 w.params).In h₀) (T : Top p loose mean mg mb h₀)
  {st sc : Addr} {items : List Value} {ns : List Int} {n1 n2 : Nat} {pi qi : Int} {t1 t2 tk : Tok} {many : Int}
  (N : News h₀ L s.heap ((st, listOf #[.ref sc, .int pi t1, .int qi t2] n1) :: (sc, listOf items.toArray n2) :: news)) (hi : IntsAre items ns) (h0 : 0 ≤ pi) (hmany : 0 < many ∧ many ≤ 100) (hq : 0 ≤ qi ∧ qi < 2147483647)
  (hlen : ns.length ≤ 30) (hst : ∀ p ∈ (sc, listOf items.toArray n2) :: news, p.1 ≠ st)
  (hQ : ∀ h' tk' (v pi' qi' : Int) (ta tb tc : Tok) n1', Fr h₀ L h' m → News h₀ L h' ((st, listOf #[.ref sc, .int pi' tb, .int qi' tc] n1') :: (sc, listOf items.toArray n2) :: news) → 0 ≤ v → v < many → 0 ≤ pi' → (0 ≤ qi' ∧ qi' < 2147483647) → Q (.int v ta) { s with heap := h', toks := tk' }) :
  wpAny (model PR w) ((A1 outer).deeper (envOf cn ⟨.function, nms, ig, ic, mo⟩ L a ccd)) (PySem.call (.ref 367) [.ref st, .int many tk]) Q E s := by
  have F' := F
  refine wpAny_call ?_
  k_enter
  k_steps
  · refine hQ _ _ _ _ _ _ _ _ _ (by assumption) (by assumption) ?_ ?_ ?_ ?_
    · have := Int.emod_nonneg (if ns.getD pi.toNat 0 < 0 then -ns.getD pi.toNat 0 else ns.getD pi.toNat 0) (show many ≠ 0 by omega)
      rw [Int.fmod_eq_emod_of_nonneg _ (by omega)]; omega
    · rw [Int.fmod_eq_emod_of_nonneg _ (by omega)]; exact Int.emod_lt_of_pos _ hmany.1
    · omega
    · rw [Int.fmod_eq_emod_of_nonneg _ (by omega)]; omega
  · refine hQ _ _ _ _ _ _ _ _ _ (by assumption) (by assumption) ?_ ?_ ?_ ?_
    · rw [Int.fmod_eq_emod_of_nonneg _ (by omega)]; exact Int.emod_nonneg _ (by omega)
    · rw [Int.fmod_eq_emod_of_nonneg _ (by omega)]; exact Int.emod_lt_of_pos _ hmany.1
    · omega
    · rw [Int.fmod_eq_emod_of_nonneg _ (by omega)]; omega
end Mine

end
section
open PySem PySem.W PySem.W.X PyProof.Rows
namespace Mine
abbrev A0 : Around := { handled := none, depth := 900, frames := none, guards := none, units := 8000 }
abbrev tup4 (a1 a2 a3 a4 : Int) (u1 u2 u3 u4 : Tok) : Obj := { cls := .type "tuple", data := .seq [.int a1 u1, .int a2 u2, .int a3 u3, .int a4 u4].toArray }
abbrev lex4 (a1 a2 a3 a4 b1 b2 b3 b4 : Int) : Prop := a1 > b1 ∨ (a1 = b1 ∧ (a2 > b2 ∨ (a2 = b2 ∧ (a3 > b3 ∨ (a3 = b3 ∧ a4 > b4)))))
local macro_rules | `(tactic| x_close) => do let i := Lean.mkIdent `hQ; `(tactic| (refine $i _ ?_; unfold lex4; first | (simp only [decide_eq_true_eq, Bool.false_eq_true, true_iff, false_iff]; omega) | (simp only [decide_eq_true_eq]; omega)))
set_option maxRecDepth 100000 in
set_option maxHeartbeats 8000000 in
theorem tup_gt_X {w : World} {h : Heap} {a b : Addr} {a1 a2 a3 a4 b1 b2 b3 b4 : Int} {u1 u2 u3 u4 v1 v2 v3 v4 : Tok}
   (ha : h.get? a = some (tup4 a1 a2 a3 a4 u1 u2 u3 u4)) (hb : h.get? b = some (tup4 b1 b2 b3 b4 v1 v2 v3 v4))
   {g : Array GenState} {d : Drawn} {t : Nat} {os : OsState} {Q : Value → Shared → Prop} {E : Value → Shared → Prop}
   (hQ : ∀ b, (b = true ↔ lex4 a1 a2 a3 a4 b1 b2 b3 b4) → Q (.bool b) ⟨h, g, d, t, os⟩) :
   wpAny (model PR w) A0 (PySem.call (.builtin "tuple.__gt__") [.ref a, .ref b]) Q E ⟨h, g, d, t, os⟩ := by
  dsimp only [tup4] at ha hb
  x_run
end Mine

end
section
open PySem PySem.W PySem.W.X PyProof.Rows
namespace Mine
local macro_rules | `(tactic| walk_at "pad") => `(tactic| fail "pad")
local macro_rules | `(tactic| walk_at "pad") => `(tactic| fail "pad")
theorem tup_gt_K {w : World} {A : Around} {s : Shared} {h₀ : Heap} {L : Addr} {news : List (Addr × Obj)} {a b : Addr} {a1 a2 a3 a4 b1 b2 b3 b4 : Int} {u1 u2 u3 u4 v1 v2 v3 v4 : Tok}
   {Q : Value → Shared → Prop} {E : Value → Shared → Prop} (N : News h₀ L s.heap news) (ma : (a, tup4 a1 a2 a3 a4 u1 u2 u3 u4) ∈ news) (mb : (b, tup4 b1 b2 b3 b4 v1 v2 v3 v4) ∈ news)
   (h1 : A.handled = none) (h2 : A.depth ≤ 900) (h5 : A.units + 1 ≤ 8000)
   (hQ : Q (.bool (decide (lex4 a1 a2 a3 a4 b1 b2 b3 b4))) s) : wpAny (model PR w) A (compareOp .Gt (.ref a) (.ref b)) Q E s := by
  have ha := (N _ ma).1
  have hb := (N _ mb).1
  show wpAny _ _ (richCompare .Gt _ _) Q E s
  refine wpAny_richCompare_same_room (op := .Gt) (T := "tuple") ⟨_, ha, rfl⟩ ⟨_, hb, rfl⟩ F.slot_tuple_gt ?_ (by have : cLine = 9900 := rfl; omega)
  obtain ⟨h, g, d, t, os⟩ := s
  refine wp_weaken (A' := A0) h1 h2 (fun l hl => by cases hl) rfl (by show A.units ≤ 8000; omega) ?_
  refine tup_gt_X ha hb fun bo hbo => ⟨(by intro q; cases q), ?_⟩
  have : bo = decide (lex4 a1 a2 a3 a4 b1 b2 b3 b4) := by
    cases bo with
    | true => exact (decide_eq_true (hbo.mp rfl)).symm
    | false => exact (decide_eq_false (fun q => by have := hbo.mpr q; cases this)).symm
  rw [this]; exact hQ
theorem news_sub {h₀ h : Heap} {L : Addr} {news news' : List (Addr × Obj)} (N : News h₀ L h news') (hs : ∀ p ∈ news, p ∈ news') : News h₀ L h news := fun p hp => N p (hs p hp)
local macro_rules | `(tactic| walk_at "my_sub") => `(tactic| (refine news_sub (by assumption) ?_; intro p hp; (repeat (first | exact hp | refine List.Mem.tail _ ?_))))
local macro_rules | `(tactic| walk_at "my_bool") => `(tactic| ((try unfold lex4 at *); (try simp only [decide_eq_true_eq, Bool.false_eq_true, true_iff, false_iff]); omega))
local macro_rules | `(tactic| k_all) => `(tactic| assumption)
local macro_rules | `(tactic| k_mem) => `(tactic| assumption)
local macro_rules | `(tactic| walk_at "compareOp Gt ref ref") => `(tactic| (k_here; k_dflt (refine' tup_gt_K ?N ?m1 ?m2 ?q1 ?q2 ?q3 ?_; (case N => k_asm); (case m1 => k_mem); (case m2 => k_mem); (case q1 => rfl); (case q2 => exact Nat.le_of_ble_eq_true rfl); (case q3 => exact Nat.le_of_ble_eq_true rfl); k_whole)))
abbrev crD (w : World) (κ : Nat → Tok) (c1 r1 c2 r2 : Int) (tv : Value) : Obj := dictOf
  [⟨PyData.keyHash w.params (Str.ofString "min_col"), .str (Str.ofString "min_col") (κ 0), .int c1 (κ 5)⟩,
   ⟨PyData.keyHash w.params (Str.ofString "min_row"), .str (Str.ofString "min_row") (κ 1), .int r1 (κ 6)⟩,
   ⟨PyData.keyHash w.params (Str.ofString "max_col"), .str (Str.ofString "max_col") (κ 2), .int c2 (κ 7)⟩,
   ⟨PyData.keyHash w.params (Str.ofString "max_row"), .str (Str.ofString "max_row") (κ 3), .int r2 (κ 8)⟩,
   ⟨PyData.keyHash w.params (Str.ofString "title"), .str (Str.ofString "title") (κ 4), tv⟩] 5
set_option maxRecDepth 100000 in
set_option maxHeartbeats 8000000 in
theorem isdisjoint_K {w : World} {outer : List Env} {base h₀ : Heap} {L a : Addr} {cn : Str} {nms : List (Str × NameKind)} {ig ic : Bool} {mo} {ccd : Value} {m mg mb : Str → Option Value} {news : List (Addr × Obj)}
  {s : Shared} {p : Program} {loose : List Str} {mean : ExcName → Option Value} {Q : Value → Shared → Prop} {E : Value → Shared → Prop}
  (B : Below (A1 outer) base outer h₀) (F : Fr h₀ L s.heap m) (X₀ : (hd.heap_39 w.params).In h₀) (T : Top p loose mean mg mb h₀)
  {x dx y dy : Addr} {κ ε : Nat → Tok} {c1 r1 c2 r2 d1 s1 d2 s2 : Int} {tv : Value}
  (N : News h₀ L s.heap news) (hx : (x, instObj 349 dx) ∈ news) (hdx : (dx, crD w κ c1 r1 c2 r2 tv) ∈ news) (hy : (y, instObj 349 dy) ∈ news) (hdy : (dy, crD w ε d1 s1 d2 s2 .none) ∈ news)
  (hc : c1 ≤ c2) (hd : d1 ≤ d2)
  (hQ : ∀ b h' tk', (b = true ↔ (c2 < d1 ∨ d2 < c1 ∨ r2 < s1 ∨ s2 < r1)) → Fr h₀ L h' m → News h₀ L h' news → Q (.bool b) { s with heap := h', toks := tk' }) :
  wpAny (model PR w) ((A1 outer).deeper (envOf cn ⟨.function, nms, ig, ic, mo⟩ L a ccd)) (PySem.call (.ref 284) [.ref x, .ref y]) Q E s := by
  have F' := F
  refine wpAny_call ?_
  w_strict k_enter
  w_strict k_steps
  all_goals (refine hQ _ _ _ ?_ (by assumption) ?_; rotate_left; (walk_at "my_sub"); (walk_at "my_bool"))
end Mine

end
section
open PySem
namespace Mine
def absCode : Array Nat := #[14, 4, 0, 0, 4294967295, 6, 0, 24, 6, 0, 1, 16, 36, 1, 23, 21, 0, 1, 17, 0, 24, 13, 1, 3, 13, 8, 22, 65, 90, 22, 97, 122, 0, 1, 17, 1, 18, 24, 6, 0, 1, 16, 36, 1, 23, 17, 0, 1, 17, 2, 24, 9, 1, 4294967295, 13, 4, 8, 10, 0, 1, 17, 3, 18, 23, 65, 0, 1, 17, 4, 16, 58, 24, 6, 0, 1, 16, 36, 1, 23, 21, 0, 1, 17, 6, 24, 13, 1, 3, 13, 8, 22, 65, 90, 22, 97, 122, 0, 1, 17, 7, 18, 24, 6, 0, 1, 16, 36, 1, 23, 17, 0, 1, 17, 8, 24, 9, 1, 4294967295, 13, 4, 8, 10, 0, 1, 17, 9, 18, 17, 5, 18, 6, 5, 1]
def sheetCode : Array Nat := #[14, 4, 0, 1, 4294967295, 17, 0, 7, 38, 17, 2, 16, 39, 17, 4, 23, 21, 0, 4294967295, 17, 6, 7, 5, 20, 39, 15, 9, 7, 16, 39, 16, 39, 15, 2, 0, 17, 7, 18, 17, 5, 16, 39, 17, 3, 15, 27, 25, 17, 8, 24, 17, 0, 4294967295, 13, 12, 21, 9, 0, 131, 1073741824, 0, 0, 0, 0, 0, 0, 1, 17, 9, 15, 2, 0, 17, 1, 16, 33, 17, 10, 24, 6, 0, 1, 16, 36, 1, 23, 21, 0, 1, 17, 12, 24, 13, 1, 3, 13, 8, 22, 65, 90, 22, 97, 122, 0, 1, 17, 13, 18, 24, 6, 0, 1, 16, 36, 1, 23, 17, 0, 1, 17, 14, 24, 9, 1, 4294967295, 13, 4, 8, 10, 0, 1, 17, 15, 18, 23, 65, 0, 1, 17, 16, 16, 58, 24, 6, 0, 1, 16, 36, 1, 23, 21, 0, 1, 17, 18, 24, 13, 1, 3, 13, 8, 22, 65, 90, 22, 97, 122, 0, 1, 17, 19, 18, 24, 6, 0, 1, 16, 36, 1, 23, 17, 0, 1, 17, 20, 24, 9, 1, 4294967295, 13, 4, 8, 10, 0, 1, 17, 21, 18, 17, 17, 18, 17, 11, 4, 10, 0, 24, 6, 0, 1, 16, 44, 1, 1, 1]
theorem runFor_add : ∀ (a b : Nat) (m : Sre.M), m.runFor (a + b) = (m.runFor a).runFor b
  | 0, b, m => by rw [Nat.zero_add]; rfl
  | a + 1, b, m => by
    rw [Nat.succ_add]
    show (if m.outcome.isSome then m else (m.step).runFor (a + b)) = (if m.outcome.isSome then m else (m.step).runFor a).runFor b
    cases h : m.outcome.isSome with
    | true =>
      rw [if_pos rfl, if_pos rfl]
      cases b with
      | zero => rfl
      | succ b => show m = if m.outcome.isSome then m else _; rw [h, if_pos rfl]
    | false => rw [if_neg (by decide), if_neg (by decide)]; exact runFor_add a b m.step
def oNat : Option Nat → Option Nat → Bool
  | none, none => true
  | some a, some b => Nat.beq a b
  | _, _ => false
theorem oNat_eq : ∀ {a b : Option Nat}, oNat a b = true → a = b
  | none, none, _ => rfl
  | some a, some b, h => by rw [Nat.eq_of_beq_eq_true h]
  | none, some _, h => nomatch h
  | some _, none, h => nomatch h
def lAll {α : Type} (f : α → α → Bool) : List α → List α → Bool
  | [], [] => true
  | a :: r, b :: q => f a b && lAll f r q
  | _, _ => false
theorem lAll_eq {α : Type} {f : α → α → Bool} (hf : ∀ {a b}, f a b = true → a = b) : ∀ {l k : List α}, lAll f l k = true → l = k
  | [], [], _ => rfl
  | a :: r, b :: q, h => by
    have h' : (f a b && lAll f r q) = true := h
    rw [Bool.and_eq_true] at h'
    rw [hf h'.1, lAll_eq hf h'.2]
  | [], _ :: _, h => nomatch h
  | _ :: _, [], h => nomatch h
def iB : Int → Int → Bool
  | .ofNat a, .ofNat b => Nat.beq a b
  | .negSucc a, .negSucc b => Nat.beq a b
  | _, _ => false
theorem iB_eq : ∀ {a b : Int}, iB a b = true → a = b
  | .ofNat a, .ofNat b, h => by rw [Nat.eq_of_beq_eq_true h]
  | .negSucc a, .negSucc b, h => by rw [Nat.eq_of_beq_eq_true h]
  | .ofNat _, .negSucc _, h => nomatch h
  | .negSucc _, .ofNat _, h => nomatch h
def bB : Bool → Bool → Bool
  | true, true => true
  | false, false => true
  | _, _ => false
theorem bB_eq {a b : Bool} (h : bB a b = true) : a = b := by cases a <;> cases b <;> first | rfl | cases h
def mk (a b : Array (Option Nat)) : Bool := lAll oNat a.toList b.toList
theorem mk_eq {a b : Array (Option Nat)} (h : mk a b = true) : a = b := Array.ext' (lAll_eq oNat_eq h)
def kB (a b : Sre.Kept) : Bool := iB a.lastmark b.lastmark && iB a.lastindex b.lastindex && bB a.whole b.whole && mk a.marks b.marks
theorem kB_eq {a b : Sre.Kept} (h : kB a b = true) : a = b := by
  unfold kB at h
  simp only [Bool.and_eq_true] at h
  obtain ⟨⟨⟨h1, h2⟩, h3⟩, h4⟩ := h
  cases a; cases b
  rw [Sre.Kept.mk.injEq]
  exact ⟨iB_eq h1, iB_eq h2, bB_eq h3, mk_eq h4⟩
def wN : Sre.Wait → Nat
  | .nextStart => 0 | .nextBranch => 1 | .giveBack => 2 | .takeMore => 3 | .closeLoop => 4 | .maxBelow => 5 | .maxMore => 6 | .maxTail => 7 | .minBelow => 8 | .minTail => 9 | .minMore => 10 | .possBelow => 11 | .possMore => 12 | .atomic => 13 | .look => 14 | .lookNot => 15
theorem wN_eq {a b : Sre.Wait} (h : Nat.beq (wN a) (wN b) = true) : a = b := by
  have e := Nat.eq_of_beq_eq_true h
  cases a <;> cases b <;> first | rfl | (exact absurd e (by decide))
def fB (a b : Sre.Frame) : Bool := Nat.beq (wN a.wait) (wN b.wait) && Nat.beq a.pc b.pc && Nat.beq a.pos b.pos && bB a.outermost b.outermost && iB a.count b.count && kB a.kept b.kept && Nat.beq a.loop b.loop && oNat a.began b.began
theorem fB_eq {a b : Sre.Frame} (h : fB a b = true) : a = b := by
  unfold fB at h
  simp only [Bool.and_eq_true] at h
  obtain ⟨⟨⟨⟨⟨⟨⟨h1, h2⟩, h3⟩, h4⟩, h5⟩, h6⟩, h7⟩, h8⟩ := h
  cases a; cases b
  rw [Sre.Frame.mk.injEq]
  exact ⟨wN_eq h1, Nat.eq_of_beq_eq_true h2, Nat.eq_of_beq_eq_true h3, bB_eq h4, iB_eq h5, kB_eq h6, Nat.eq_of_beq_eq_true h7, oNat_eq h8⟩
def lB (a b : Sre.Loop) : Bool := Nat.beq a.pc b.pc && iB a.count b.count && oNat a.began b.began && oNat a.outer b.outer
theorem lB_eq {a b : Sre.Loop} (h : lB a b = true) : a = b := by
  unfold lB at h
  simp only [Bool.and_eq_true] at h
  obtain ⟨⟨⟨h1, h2⟩, h3⟩, h4⟩ := h
  cases a; cases b
  rw [Sre.Loop.mk.injEq]
  exact ⟨Nat.eq_of_beq_eq_true h1, iB_eq h2, oNat_eq h3, oNat_eq h4⟩
def oBo : Option Bool → Option Bool → Bool
  | none, none => true
  | some a, some b => bB a b
  | _, _ => false
theorem oBo_eq : ∀ {a b : Option Bool}, oBo a b = true → a = b
  | none, none, _ => rfl
  | some a, some b, h => by rw [bB_eq h]
  | none, some _, h => nomatch h
  | some _, none, h => nomatch h
def oO : Option Sre.Outcome → Option Sre.Outcome → Bool
  | none, none => true
  | some .matched, some .matched => true
  | some .failed, some .failed => true
  | _, _ => false
theorem oO_eq : ∀ {a b : Option Sre.Outcome}, oO a b = true → a = b
  | none, none, _ => rfl
  | some .matched, some .matched, _ => rfl
  | some .failed, some .failed, _ => rfl
  | none, some _, h => nomatch h
  | some .matched, none, h => nomatch h
  | some .failed, none, h => nomatch h
  | some (.stuck _), none, h => nomatch h
  | some .matched, some .failed, h => nomatch h
  | some .matched, some (.stuck _), h => nomatch h
  | some .failed, some .matched, h => nomatch h
  | some .failed, some (.stuck _), h => nomatch h
  | some (.stuck _), some _, h => nomatch h
def eqM (a b : Sre.M) : Bool :=
  Nat.beq a.lim b.lim && Nat.beq a.start b.start && Nat.beq a.lastStart b.lastStart && bB a.wholeText b.wholeText && bB a.mustAdvance b.mustAdvance && Nat.beq a.pc b.pc && Nat.beq a.pos b.pos &&
  Nat.beq a.handed b.handed && bB a.outermost b.outermost && mk a.marks b.marks && iB a.lastmark b.lastmark && iB a.lastindex b.lastindex && lAll lB a.loops.toList b.loops.toList && oNat a.inner b.inner &&
  lAll fB a.frames b.frames && Nat.beq a.weight b.weight && oBo a.answer b.answer && Nat.beq a.seen.words b.seen.words && Nat.beq a.seen.others b.seen.others && oO a.outcome b.outcome
theorem eqM_eq {a b : Sre.M} (h : eqM a b = true) (hc : a.code = b.code) (ht : a.text = b.text) : a = b := by
  unfold eqM at h
  simp only [Bool.and_eq_true] at h
  obtain ⟨⟨⟨⟨⟨⟨⟨⟨⟨⟨⟨⟨⟨⟨⟨⟨⟨⟨⟨h1, h2⟩, h3⟩, h4⟩, h5⟩, h6⟩, h7⟩, h8⟩, h9⟩, h10⟩, h11⟩, h12⟩, h13⟩, h14⟩, h15⟩, h16⟩, h17⟩, h18⟩, h19⟩, h20⟩ := h
  have hs : a.seen = b.seen := by
    have e1 := Nat.eq_of_beq_eq_true h18
    have e2 := Nat.eq_of_beq_eq_true h19
    generalize a.seen = x at e1 e2
    generalize b.seen = y at e1 e2
    obtain ⟨x1, x2⟩ := x
    obtain ⟨y1, y2⟩ := y
    dsimp only at e1 e2
    rw [e1, e2]
  cases a; cases b
  rw [Sre.M.mk.injEq]
  exact ⟨hc, ht, Nat.eq_of_beq_eq_true h1, Nat.eq_of_beq_eq_true h2, Nat.eq_of_beq_eq_true h3, bB_eq h4, bB_eq h5, Nat.eq_of_beq_eq_true h6, Nat.eq_of_beq_eq_true h7, Nat.eq_of_beq_eq_true h8, bB_eq h9, mk_eq h10, iB_eq h11, iB_eq h12, Array.ext' (lAll_eq lB_eq h13), oNat_eq h14, lAll_eq fB_eq h15, Nat.eq_of_beq_eq_true h16, oBo_eq h17, hs, oO_eq h20⟩
set_option maxRecDepth 100000
def ab5_t (c1 d1 c2 d2 : Nat) : Array Nat := #[c1, d1, 58, c2, d2]
def ab5_0 (c1 d1 c2 d2 : Nat) : Sre.M := ⟨absCode, (ab5_t c1 d1 c2 d2), 5, 0, 0, false, false, 5, 0, 0, true, #[none, none, none, none, none, none, none, none, none, none], (-1), (-1), #[], none, [], 0, none, ⟨16384, 0⟩, none⟩
def ab5_1 (c1 d1 c2 d2 : Nat) : Sre.M := ⟨absCode, (ab5_t c1 d1 c2 d2), 5, 0, 0, false, false, 7, 0, 0, true, #[none, none, none, none, none, none, none, none, none, none], (-1), (-1), #[], none, [], 0, none, ⟨16448, 1⟩, none⟩
def ab5_2 (c1 d1 c2 d2 : Nat) : Sre.M := ⟨absCode, (ab5_t c1 d1 c2 d2), 5, 0, 0, false, false, 14, 0, 0, true, #[none, none, none, none, none, none, none, none, none, none], (-1), (-1), #[], none, [⟨.giveBack, 7, 0, true, 0, ⟨(-1), (-1), false, #[]⟩, 0, none⟩], 1, none, ⟨16859200, 1⟩, none⟩
def ab5_5 (c1 d1 c2 d2 : Nat) : Sre.M := ⟨absCode, (ab5_t c1 d1 c2 d2), 5, 0, 0, false, false, 20, 0, 0, true, #[some 0, none, none, none, none, none, none, none, none, none], 0, (-1), #[⟨14, 0, some 0, none⟩], some 0, [⟨.maxMore, 37, 0, true, 0, ⟨(-1), (-1), true, #[]⟩, 0, none⟩, ⟨.closeLoop, 14, 0, true, 0, ⟨(-1), (-1), false, #[]⟩, 0, none⟩, ⟨.giveBack, 7, 0, true, 0, ⟨(-1), (-1), false, #[]⟩, 0, none⟩], 3, none, ⟨25641024, 1⟩, none⟩
def ab5_6 (c1 d1 c2 d2 : Nat) : Sre.M := ⟨absCode, (ab5_t c1 d1 c2 d2), 5, 0, 0, false, false, 34, 1, 1, true, #[some 0, none, none, none, none, none, none, none, none, none], 0, (-1), #[⟨14, 0, some 0, none⟩], some 0, [⟨.giveBack, 20, 1, true, 1, ⟨0, (-1), true, #[some 0]⟩, 0, none⟩, ⟨.maxMore, 37, 0, true, 0, ⟨(-1), (-1), true, #[]⟩, 0, none⟩, ⟨.closeLoop, 14, 0, true, 0, ⟨(-1), (-1), false, #[]⟩, 0, none⟩, ⟨.giveBack, 7, 0, true, 0, ⟨(-1), (-1), false, #[]⟩, 0, none⟩], 5, none, ⟨29843521, 1⟩, none⟩
def ab5_8 (c1 d1 c2 d2 : Nat) : Sre.M := ⟨absCode, (ab5_t c1 d1 c2 d2), 5, 0, 0, false, false, 37, 1, 1, true, #[some 0, some 1, none, none, none, none, none, none, none, none], 1, 1, #[⟨14, 0, some 0, none⟩], none, [⟨.maxTail, 37, 1, true, 1, ⟨1, 1, false, #[]⟩, 0, none⟩, ⟨.giveBack, 20, 1, true, 1, ⟨0, (-1), true, #[some 0]⟩, 0, none⟩, ⟨.maxMore, 37, 0, true, 0, ⟨(-1), (-1), true, #[]⟩, 0, none⟩, ⟨.closeLoop, 14, 0, true, 0, ⟨(-1), (-1), false, #[]⟩, 0, none⟩, ⟨.giveBack, 7, 0, true, 0, ⟨(-1), (-1), false, #[]⟩, 0, none⟩], 6, none, ⟨29843521, 1⟩, none⟩
def ab5_9 (c1 d1 c2 d2 : Nat) : Sre.M := ⟨absCode, (ab5_t c1 d1 c2 d2), 5, 0, 0, false, false, 44, 1, 1, true, #[some 0, some 1, none, none, none, none, none, none, none, none], 1, 1, #[⟨14, 0, some 0, none⟩], none, [⟨.giveBack, 37, 1, true, 0, ⟨1, 1, false, #[]⟩, 0, none⟩, ⟨.maxTail, 37, 1, true, 1, ⟨1, 1, false, #[]⟩, 0, none⟩, ⟨.giveBack, 20, 1, true, 1, ⟨0, (-1), true, #[some 0]⟩, 0, none⟩, ⟨.maxMore, 37, 0, true, 0, ⟨(-1), (-1), true, #[]⟩, 0, none⟩, ⟨.closeLoop, 14, 0, true, 0, ⟨(-1), (-1), false, #[]⟩, 0, none⟩, ⟨.giveBack, 7, 0, true, 0, ⟨(-1), (-1), false, #[]⟩, 0, none⟩], 7, none, ⟨29843521, 1⟩, none⟩
def ab5_12 (c1 d1 c2 d2 : Nat) : Sre.M := ⟨absCode, (ab5_t c1 d1 c2 d2), 5, 0, 0, false, false, 50, 1, 1, true, #[some 0, some 1, some 1, none, none, none, none, none, none, none], 2, 1, #[⟨14, 0, some 0, none⟩, ⟨44, 0, some 1, none⟩], some 1, [⟨.maxMore, 63, 1, true, 0, ⟨1, 1, true, #[some 0, some 1]⟩, 1, none⟩, ⟨.closeLoop, 44, 1, true, 0, ⟨(-1), (-1), false, #[]⟩, 1, none⟩, ⟨.giveBack, 37, 1, true, 0, ⟨1, 1, false, #[]⟩, 0, none⟩, ⟨.maxTail, 37, 1, true, 1, ⟨1, 1, false, #[]⟩, 0, none⟩, ⟨.giveBack, 20, 1, true, 1, ⟨0, (-1), true, #[some 0]⟩, 0, none⟩, ⟨.maxMore, 37, 0, true, 0, ⟨(-1), (-1), true, #[]⟩, 0, none⟩, ⟨.closeLoop, 14, 0, true, 0, ⟨(-1), (-1), false, #[]⟩, 0, none⟩, ⟨.giveBack, 7, 0, true, 0, ⟨(-1), (-1), false, #[]⟩, 0, none⟩], 11, none, ⟨29843521, 1⟩, none⟩
def ab5_13 (c1 d1 c2 d2 : Nat) : Sre.M := ⟨absCode, (ab5_t c1 d1 c2 d2), 5, 0, 0, false, false, 60, 2, 2, true, #[some 0, some 1, some 1, none, none, none, none, none, none, none], 2, 1, #[⟨14, 0, some 0, none⟩, ⟨44, 0, some 1, none⟩], some 1, [⟨.giveBack, 50, 2, true, 1, ⟨2, 1, true, #[some 0, some 1, some 1]⟩, 0, none⟩, ⟨.maxMore, 63, 1, true, 0, ⟨1, 1, true, #[some 0, some 1]⟩, 1, none⟩, ⟨.closeLoop, 44, 1, true, 0, ⟨(-1), (-1), false, #[]⟩, 1, none⟩, ⟨.giveBack, 37, 1, true, 0, ⟨1, 1, false, #[]⟩, 0, none⟩, ⟨.maxTail, 37, 1, true, 1, ⟨1, 1, false, #[]⟩, 0, none⟩, ⟨.giveBack, 20, 1, true, 1, ⟨0, (-1), true, #[some 0]⟩, 0, none⟩, ⟨.maxMore, 37, 0, true, 0, ⟨(-1), (-1), true, #[]⟩, 0, none⟩, ⟨.closeLoop, 14, 0, true, 0, ⟨(-1), (-1), false, #[]⟩, 0, none⟩, ⟨.giveBack, 7, 0, true, 0, ⟨(-1), (-1), false, #[]⟩, 0, none⟩], 15, none, ⟨29843777, 4194305⟩, none⟩
def ab5_19 (c1 d1 c2 d2 : Nat) : Sre.M := ⟨absCode, (ab5_t c1 d1 c2 d2), 5, 0, 0, false, false, 71, 3, 2, true, #[some 0, some 1, some 1, some 2, some 2, none, none, none, none, none], 4, 2, #[⟨14, 0, some 0, none⟩, ⟨44, 0, some 1, none⟩, ⟨63, 0, some 2, none⟩], some 2, [⟨.maxMore, 130, 2, true, 0, ⟨3, 2, true, #[some 0, some 1, some 1, some 2]⟩, 2, none⟩, ⟨.closeLoop, 63, 2, true, 0, ⟨(-1), (-1), false, #[]⟩, 2, none⟩, ⟨.maxTail, 63, 2, true, 1, ⟨3, 2, false, #[]⟩, 1, none⟩, ⟨.giveBack, 50, 2, true, 1, ⟨2, 1, true, #[some 0, some 1, some 1]⟩, 0, none⟩, ⟨.maxMore, 63, 1, true, 0, ⟨1, 1, true, #[some 0, some 1]⟩, 1, none⟩, ⟨.closeLoop, 44, 1, true, 0, ⟨(-1), (-1), false, #[]⟩, 1, none⟩, ⟨.giveBack, 37, 1, true, 0, ⟨1, 1, false, #[]⟩, 0, none⟩, ⟨.maxTail, 37, 1, true, 1, ⟨1, 1, false, #[]⟩, 0, none⟩, ⟨.giveBack, 20, 1, true, 1, ⟨0, (-1), true, #[some 0]⟩, 0, none⟩, ⟨.maxMore, 37, 0, true, 0, ⟨(-1), (-1), true, #[]⟩, 0, none⟩, ⟨.closeLoop, 14, 0, true, 0, ⟨(-1), (-1), false, #[]⟩, 0, none⟩, ⟨.giveBack, 7, 0, true, 0, ⟨(-1), (-1), false, #[]⟩, 0, none⟩], 22, none, ⟨29843777, 4194305⟩, none⟩
def ab5_20 (c1 d1 c2 d2 : Nat) : Sre.M := ⟨absCode, (ab5_t c1 d1 c2 d2), 5, 0, 0, false, false, 78, 3, 3, true, #[some 0, some 1, some 1, some 2, some 2, none, none, none, none, none], 4, 2, #[⟨14, 0, some 0, none⟩, ⟨44, 0, some 1, none⟩, ⟨63, 0, some 2, none⟩], some 2, [⟨.giveBack, 71, 3, true, 0, ⟨4, 2, true, #[some 0, some 1, some 1, some 2, some 2]⟩, 0, none⟩, ⟨.maxMore, 130, 2, true, 0, ⟨3, 2, true, #[some 0, some 1, some 1, some 2]⟩, 2, none⟩, ⟨.closeLoop, 63, 2, true, 0, ⟨(-1), (-1), false, #[]⟩, 2, none⟩, ⟨.maxTail, 63, 2, true, 1, ⟨3, 2, false, #[]⟩, 1, none⟩, ⟨.giveBack, 50, 2, true, 1, ⟨2, 1, true, #[some 0, some 1, some 1]⟩, 0, none⟩, ⟨.maxMore, 63, 1, true, 0, ⟨1, 1, true, #[some 0, some 1]⟩, 1, none⟩, ⟨.closeLoop, 44, 1, true, 0, ⟨(-1), (-1), false, #[]⟩, 1, none⟩, ⟨.giveBack, 37, 1, true, 0, ⟨1, 1, false, #[]⟩, 0, none⟩, ⟨.maxTail, 37, 1, true, 1, ⟨1, 1, false, #[]⟩, 0, none⟩, ⟨.giveBack, 20, 1, true, 1, ⟨0, (-1), true, #[some 0]⟩, 0, none⟩, ⟨.maxMore, 37, 0, true, 0, ⟨(-1), (-1), true, #[]⟩, 0, none⟩, ⟨.closeLoop, 14, 0, true, 0, ⟨(-1), (-1), false, #[]⟩, 0, none⟩, ⟨.giveBack, 7, 0, true, 0, ⟨(-1), (-1), false, #[]⟩, 0, none⟩], 28, none, ⟨29843777, 4194305⟩, none⟩
def ab5_23 (c1 d1 c2 d2 : Nat) : Sre.M := ⟨absCode, (ab5_t c1 d1 c2 d2), 5, 0, 0, false, false, 84, 3, 3, true, #[some 0, some 1, some 1, some 2, some 2, none, some 3, none, none, none], 6, 2, #[⟨14, 0, some 0, none⟩, ⟨44, 0, some 1, none⟩, ⟨63, 0, some 2, none⟩, ⟨78, 0, some 3, some 2⟩], some 3, [⟨.maxMore, 101, 3, true, 0, ⟨4, 2, true, #[some 0, some 1, some 1, some 2, some 2]⟩, 3, none⟩, ⟨.closeLoop, 78, 3, true, 0, ⟨(-1), (-1), false, #[]⟩, 3, none⟩, ⟨.giveBack, 71, 3, true, 0, ⟨4, 2, true, #[some 0, some 1, some 1, some 2, some 2]⟩, 0, none⟩, ⟨.maxMore, 130, 2, true, 0, ⟨3, 2, true, #[some 0, some 1, some 1, some 2]⟩, 2, none⟩, ⟨.closeLoop, 63, 2, true, 0, ⟨(-1), (-1), false, #[]⟩, 2, none⟩, ⟨.maxTail, 63, 2, true, 1, ⟨3, 2, false, #[]⟩, 1, none⟩, ⟨.giveBack, 50, 2, true, 1, ⟨2, 1, true, #[some 0, some 1, some 1]⟩, 0, none⟩, ⟨.maxMore, 63, 1, true, 0, ⟨1, 1, true, #[some 0, some 1]⟩, 1, none⟩, ⟨.closeLoop, 44, 1, true, 0, ⟨(-1), (-1), false, #[]⟩, 1, none⟩, ⟨.giveBack, 37, 1, true, 0, ⟨1, 1, false, #[]⟩, 0, none⟩, ⟨.maxTail, 37, 1, true, 1, ⟨1, 1, false, #[]⟩, 0, none⟩, ⟨.giveBack, 20, 1, true, 1, ⟨0, (-1), true, #[some 0]⟩, 0, none⟩, ⟨.maxMore, 37, 0, true, 0, ⟨(-1), (-1), true, #[]⟩, 0, none⟩, ⟨.closeLoop, 14, 0, true, 0, ⟨(-1), (-1), false, #[]⟩, 0, none⟩, ⟨.giveBack, 7, 0, true, 0, ⟨(-1), (-1), false, #[]⟩, 0, none⟩], 35, none, ⟨29843777, 4194305⟩, none⟩
def ab5_24 (c1 d1 c2 d2 : Nat) : Sre.M := ⟨absCode, (ab5_t c1 d1 c2 d2), 5, 0, 0, false, false, 98, 4, 4, true, #[some 0, some 1, some 1, some 2, some 2, none, some 3, none, none, none], 6, 2, #[⟨14, 0, some 0, none⟩, ⟨44, 0, some 1, none⟩, ⟨63, 0, some 2, none⟩, ⟨78, 0, some 3, some 2⟩], some 3, [⟨.giveBack, 84, 4, true, 1, ⟨6, 2, true, #[some 0, some 1, some 1, some 2, some 2, none, some 3]⟩, 0, none⟩, ⟨.maxMore, 101, 3, true, 0, ⟨4, 2, true, #[some 0, some 1, some 1, some 2, some 2]⟩, 3, none⟩, ⟨.closeLoop, 78, 3, true, 0, ⟨(-1), (-1), false, #[]⟩, 3, none⟩, ⟨.giveBack, 71, 3, true, 0, ⟨4, 2, true, #[some 0, some 1, some 1, some 2, some 2]⟩, 0, none⟩, ⟨.maxMore, 130, 2, true, 0, ⟨3, 2, true, #[some 0, some 1, some 1, some 2]⟩, 2, none⟩, ⟨.closeLoop, 63, 2, true, 0, ⟨(-1), (-1), false, #[]⟩, 2, none⟩, ⟨.maxTail, 63, 2, true, 1, ⟨3, 2, false, #[]⟩, 1, none⟩, ⟨.giveBack, 50, 2, true, 1, ⟨2, 1, true, #[some 0, some 1, some 1]⟩, 0, none⟩, ⟨.maxMore, 63, 1, true, 0, ⟨1, 1, true, #[some 0, some 1]⟩, 1, none⟩, ⟨.closeLoop, 44, 1, true, 0, ⟨(-1), (-1), false, #[]⟩, 1, none⟩, ⟨.giveBack, 37, 1, true, 0, ⟨1, 1, false, #[]⟩, 0, none⟩, ⟨.maxTail, 37, 1, true, 1, ⟨1, 1, false, #[]⟩, 0, none⟩, ⟨.giveBack, 20, 1, true, 1, ⟨0, (-1), true, #[some 0]⟩, 0, none⟩, ⟨.maxMore, 37, 0, true, 0, ⟨(-1), (-1), true, #[]⟩, 0, none⟩, ⟨.closeLoop, 14, 0, true, 0, ⟨(-1), (-1), false, #[]⟩, 0, none⟩, ⟨.giveBack, 7, 0, true, 0, ⟨(-1), (-1), false, #[]⟩, 0, none⟩], 43, none, ⟨29843777, 4194305⟩, none⟩
def ab5_26 (c1 d1 c2 d2 : Nat) : Sre.M := ⟨absCode, (ab5_t c1 d1 c2 d2), 5, 0, 0, false, false, 101, 4, 4, true, #[some 0, some 1, some 1, some 2, some 2, none, some 3, some 4, none, none], 7, 4, #[⟨14, 0, some 0, none⟩, ⟨44, 0, some 1, none⟩, ⟨63, 0, some 2, none⟩, ⟨78, 0, some 3, some 2⟩], some 2, [⟨.maxTail, 101, 4, true, 1, ⟨7, 4, false, #[]⟩, 3, none⟩, ⟨.giveBack, 84, 4, true, 1, ⟨6, 2, true, #[some 0, some 1, some 1, some 2, some 2, none, some 3]⟩, 0, none⟩, ⟨.maxMore, 101, 3, true, 0, ⟨4, 2, true, #[some 0, some 1, some 1, some 2, some 2]⟩, 3, none⟩, ⟨.closeLoop, 78, 3, true, 0, ⟨(-1), (-1), false, #[]⟩, 3, none⟩, ⟨.giveBack, 71, 3, true, 0, ⟨4, 2, true, #[some 0, some 1, some 1, some 2, some 2]⟩, 0, none⟩, ⟨.maxMore, 130, 2, true, 0, ⟨3, 2, true, #[some 0, some 1, some 1, some 2]⟩, 2, none⟩, ⟨.closeLoop, 63, 2, true, 0, ⟨(-1), (-1), false, #[]⟩, 2, none⟩, ⟨.maxTail, 63, 2, true, 1, ⟨3, 2, false, #[]⟩, 1, none⟩, ⟨.giveBack, 50, 2, true, 1, ⟨2, 1, true, #[some 0, some 1, some 1]⟩, 0, none⟩, ⟨.maxMore, 63, 1, true, 0, ⟨1, 1, true, #[some 0, some 1]⟩, 1, none⟩, ⟨.closeLoop, 44, 1, true, 0, ⟨(-1), (-1), false, #[]⟩, 1, none⟩, ⟨.giveBack, 37, 1, true, 0, ⟨1, 1, false, #[]⟩, 0, none⟩, ⟨.maxTail, 37, 1, true, 1, ⟨1, 1, false, #[]⟩, 0, none⟩, ⟨.giveBack, 20, 1, true, 1, ⟨0, (-1), true, #[some 0]⟩, 0, none⟩, ⟨.maxMore, 37, 0, true, 0, ⟨(-1), (-1), true, #[]⟩, 0, none⟩, ⟨.closeLoop, 14, 0, true, 0, ⟨(-1), (-1), false, #[]⟩, 0, none⟩, ⟨.giveBack, 7, 0, true, 0, ⟨(-1), (-1), false, #[]⟩, 0, none⟩], 44, none, ⟨29843777, 4194305⟩, none⟩
def ab5_27 (c1 d1 c2 d2 : Nat) : Sre.M := ⟨absCode, (ab5_t c1 d1 c2 d2), 5, 0, 0, false, false, 108, 4, 4, true, #[some 0, some 1, some 1, some 2, some 2, none, some 3, some 4, none, none], 7, 4, #[⟨14, 0, some 0, none⟩, ⟨44, 0, some 1, none⟩, ⟨63, 0, some 2, none⟩, ⟨78, 0, some 3, some 2⟩], some 2, [⟨.giveBack, 101, 4, true, 0, ⟨7, 4, true, #[some 0, some 1, some 1, some 2, some 2, none, some 3, some 4]⟩, 0, none⟩, ⟨.maxTail, 101, 4, true, 1, ⟨7, 4, false, #[]⟩, 3, none⟩, ⟨.giveBack, 84, 4, true, 1, ⟨6, 2, true, #[some 0, some 1, some 1, some 2, some 2, none, some 3]⟩, 0, none⟩, ⟨.maxMore, 101, 3, true, 0, ⟨4, 2, true, #[some 0, some 1, some 1, some 2, some 2]⟩, 3, none⟩, ⟨.closeLoop, 78, 3, true, 0, ⟨(-1), (-1), false, #[]⟩, 3, none⟩, ⟨.giveBack, 71, 3, true, 0, ⟨4, 2, true, #[some 0, some 1, some 1, some 2, some 2]⟩, 0, none⟩, ⟨.maxMore, 130, 2, true, 0, ⟨3, 2, true, #[some 0, some 1, some 1, some 2]⟩, 2, none⟩, ⟨.closeLoop, 63, 2, true, 0, ⟨(-1), (-1), false, #[]⟩, 2, none⟩, ⟨.maxTail, 63, 2, true, 1, ⟨3, 2, false, #[]⟩, 1, none⟩, ⟨.giveBack, 50, 2, true, 1, ⟨2, 1, true, #[some 0, some 1, some 1]⟩, 0, none⟩, ⟨.maxMore, 63, 1, true, 0, ⟨1, 1, true, #[some 0, some 1]⟩, 1, none⟩, ⟨.closeLoop, 44, 1, true, 0, ⟨(-1), (-1), false, #[]⟩, 1, none⟩, ⟨.giveBack, 37, 1, true, 0, ⟨1, 1, false, #[]⟩, 0, none⟩, ⟨.maxTail, 37, 1, true, 1, ⟨1, 1, false, #[]⟩, 0, none⟩, ⟨.giveBack, 20, 1, true, 1, ⟨0, (-1), true, #[some 0]⟩, 0, none⟩, ⟨.maxMore, 37, 0, true, 0, ⟨(-1), (-1), true, #[]⟩, 0, none⟩, ⟨.closeLoop, 14, 0, true, 0, ⟨(-1), (-1), false, #[]⟩, 0, none⟩, ⟨.giveBack, 7, 0, true, 0, ⟨(-1), (-1), false, #[]⟩, 0, none⟩], 53, none, ⟨29843777, 4194305⟩, none⟩
def ab5_30 (c1 d1 c2 d2 : Nat) : Sre.M := ⟨absCode, (ab5_t c1 d1 c2 d2), 5, 0, 0, false, false, 114, 4, 4, true, #[some 0, some 1, some 1, some 2, some 2, none, some 3, some 4, some 4, none], 8, 4, #[⟨14, 0, some 0, none⟩, ⟨44, 0, some 1, none⟩, ⟨63, 0, some 2, none⟩, ⟨78, 0, some 3, some 2⟩, ⟨108, 0, some 4, some 2⟩], some 4, [⟨.maxMore, 127, 4, true, 0, ⟨7, 4, true, #[some 0, some 1, some 1, some 2, some 2, none, some 3, some 4]⟩, 4, none⟩, ⟨.closeLoop, 108, 4, true, 0, ⟨(-1), (-1), false, #[]⟩, 4, none⟩, ⟨.giveBack, 101, 4, true, 0, ⟨7, 4, true, #[some 0, some 1, some 1, some 2, some 2, none, some 3, some 4]⟩, 0, none⟩, ⟨.maxTail, 101, 4, true, 1, ⟨7, 4, false, #[]⟩, 3, none⟩, ⟨.giveBack, 84, 4, true, 1, ⟨6, 2, true, #[some 0, some 1, some 1, some 2, some 2, none, some 3]⟩, 0, none⟩, ⟨.maxMore, 101, 3, true, 0, ⟨4, 2, true, #[some 0, some 1, some 1, some 2, some 2]⟩, 3, none⟩, ⟨.closeLoop, 78, 3, true, 0, ⟨(-1), (-1), false, #[]⟩, 3, none⟩, ⟨.giveBack, 71, 3, true, 0, ⟨4, 2, true, #[some 0, some 1, some 1, some 2, some 2]⟩, 0, none⟩, ⟨.maxMore, 130, 2, true, 0, ⟨3, 2, true, #[some 0, some 1, some 1, some 2]⟩, 2, none⟩, ⟨.closeLoop, 63, 2, true, 0, ⟨(-1), (-1), false, #[]⟩, 2, none⟩, ⟨.maxTail, 63, 2, true, 1, ⟨3, 2, false, #[]⟩, 1, none⟩, ⟨.giveBack, 50, 2, true, 1, ⟨2, 1, true, #[some 0, some 1, some 1]⟩, 0, none⟩, ⟨.maxMore, 63, 1, true, 0, ⟨1, 1, true, #[some 0, some 1]⟩, 1, none⟩, ⟨.closeLoop, 44, 1, true, 0, ⟨(-1), (-1), false, #[]⟩, 1, none⟩, ⟨.giveBack, 37, 1, true, 0, ⟨1, 1, false, #[]⟩, 0, none⟩, ⟨.maxTail, 37, 1, true, 1, ⟨1, 1, false, #[]⟩, 0, none⟩, ⟨.giveBack, 20, 1, true, 1, ⟨0, (-1), true, #[some 0]⟩, 0, none⟩, ⟨.maxMore, 37, 0, true, 0, ⟨(-1), (-1), true, #[]⟩, 0, none⟩, ⟨.closeLoop, 14, 0, true, 0, ⟨(-1), (-1), false, #[]⟩, 0, none⟩, ⟨.giveBack, 7, 0, true, 0, ⟨(-1), (-1), false, #[]⟩, 0, none⟩], 63, none, ⟨29843777, 4194305⟩, none⟩
def ab5_31 (c1 d1 c2 d2 : Nat) : Sre.M := ⟨absCode, (ab5_t c1 d1 c2 d2), 5, 0, 0, false, false, 124, 5, 5, true, #[some 0, some 1, some 1, some 2, some 2, none, some 3, some 4, some 4, none], 8, 4, #[⟨14, 0, some 0, none⟩, ⟨44, 0, some 1, none⟩, ⟨63, 0, some 2, none⟩, ⟨78, 0, some 3, some 2⟩, ⟨108, 0, some 4, some 2⟩], some 4, [⟨.giveBack, 114, 5, true, 1, ⟨8, 4, true, #[some 0, some 1, some 1, some 2, some 2, none, some 3, some 4, some 4]⟩, 0, none⟩, ⟨.maxMore, 127, 4, true, 0, ⟨7, 4, true, #[some 0, some 1, some 1, some 2, some 2, none, some 3, some 4]⟩, 4, none⟩, ⟨.closeLoop, 108, 4, true, 0, ⟨(-1), (-1), false, #[]⟩, 4, none⟩, ⟨.giveBack, 101, 4, true, 0, ⟨7, 4, true, #[some 0, some 1, some 1, some 2, some 2, none, some 3, some 4]⟩, 0, none⟩, ⟨.maxTail, 101, 4, true, 1, ⟨7, 4, false, #[]⟩, 3, none⟩, ⟨.giveBack, 84, 4, true, 1, ⟨6, 2, true, #[some 0, some 1, some 1, some 2, some 2, none, some 3]⟩, 0, none⟩, ⟨.maxMore, 101, 3, true, 0, ⟨4, 2, true, #[some 0, some 1, some 1, some 2, some 2]⟩, 3, none⟩, ⟨.closeLoop, 78, 3, true, 0, ⟨(-1), (-1), false, #[]⟩, 3, none⟩, ⟨.giveBack, 71, 3, true, 0, ⟨4, 2, true, #[some 0, some 1, some 1, some 2, some 2]⟩, 0, none⟩, ⟨.maxMore, 130, 2, true, 0, ⟨3, 2, true, #[some 0, some 1, some 1, some 2]⟩, 2, none⟩, ⟨.closeLoop, 63, 2, true, 0, ⟨(-1), (-1), false, #[]⟩, 2, none⟩, ⟨.maxTail, 63, 2, true, 1, ⟨3, 2, false, #[]⟩, 1, none⟩, ⟨.giveBack, 50, 2, true, 1, ⟨2, 1, true, #[some 0, some 1, some 1]⟩, 0, none⟩, ⟨.maxMore, 63, 1, true, 0, ⟨1, 1, true, #[some 0, some 1]⟩, 1, none⟩, ⟨.closeLoop, 44, 1, true, 0, ⟨(-1), (-1), false, #[]⟩, 1, none⟩, ⟨.giveBack, 37, 1, true, 0, ⟨1, 1, false, #[]⟩, 0, none⟩, ⟨.maxTail, 37, 1, true, 1, ⟨1, 1, false, #[]⟩, 0, none⟩, ⟨.giveBack, 20, 1, true, 1, ⟨0, (-1), true, #[some 0]⟩, 0, none⟩, ⟨.maxMore, 37, 0, true, 0, ⟨(-1), (-1), true, #[]⟩, 0, none⟩, ⟨.closeLoop, 14, 0, true, 0, ⟨(-1), (-1), false, #[]⟩, 0, none⟩, ⟨.giveBack, 7, 0, true, 0, ⟨(-1), (-1), false, #[]⟩, 0, none⟩], 73, none, ⟨29843777, 4194305⟩, none⟩
def ab5_61 (c1 d1 c2 d2 : Nat) : Sre.M := ⟨absCode, (ab5_t c1 d1 c2 d2), 5, 0, 0, false, false, 7, 0, 5, true, #[some 0, some 1, some 1, some 2, some 2, some 5, some 3, some 4, some 4, some 5], 9, 3, #[], none, [], 0, some true, ⟨29843779, 4194337⟩, some .matched⟩
theorem ab5_r1 (c1 d1 c2 d2 : Nat) : (Sre.forMatch absCode (ab5_t c1 d1 c2 d2) 5 0 5 false false).runFor 1 = ab5_1 c1 d1 c2 d2 := eqM_eq (by kernel_rfl) (by kernel_rfl) (by kernel_rfl)
theorem ab5_r2 (c1 d1 c2 d2 : Nat) (hc1 : c1 ∈ [65, 66, 67, 68, 69, 70, 71]) : (ab5_1 c1 d1 c2 d2).runFor 1 = ab5_2 c1 d1 c2 d2 := by
  simp only [List.mem_cons, List.not_mem_nil, or_false] at hc1
  rcases hc1 with rfl | rfl | rfl | rfl | rfl | rfl | rfl <;> exact eqM_eq (by kernel_rfl) (by kernel_rfl) (by kernel_rfl)
theorem ab5_r5 (c1 d1 c2 d2 : Nat) : (ab5_2 c1 d1 c2 d2).runFor 3 = ab5_5 c1 d1 c2 d2 := eqM_eq (by kernel_rfl) (by kernel_rfl) (by kernel_rfl)
theorem ab5_r6 (c1 d1 c2 d2 : Nat) (hc1 : c1 ∈ [65, 66, 67, 68, 69, 70, 71]) (hd1 : d1 ∈ [49, 50, 51, 52, 53, 54, 55]) : (ab5_5 c1 d1 c2 d2).runFor 1 = ab5_6 c1 d1 c2 d2 := by
  simp only [List.mem_cons, List.not_mem_nil, or_false] at hc1
  simp only [List.mem_cons, List.not_mem_nil, or_false] at hd1
  rcases hc1 with rfl | rfl | rfl | rfl | rfl | rfl | rfl <;> rcases hd1 with rfl | rfl | rfl | rfl | rfl | rfl | rfl <;> exact eqM_eq (by kernel_rfl) (by kernel_rfl) (by kernel_rfl)
theorem ab5_r8 (c1 d1 c2 d2 : Nat) : (ab5_6 c1 d1 c2 d2).runFor 2 = ab5_8 c1 d1 c2 d2 := eqM_eq (by kernel_rfl) (by kernel_rfl) (by kernel_rfl)
theorem ab5_r9 (c1 d1 c2 d2 : Nat) (hd1 : d1 ∈ [49, 50, 51, 52, 53, 54, 55]) : (ab5_8 c1 d1 c2 d2).runFor 1 = ab5_9 c1 d1 c2 d2 := by
  simp only [List.mem_cons, List.not_mem_nil, or_false] at hd1
  rcases hd1 with rfl | rfl | rfl | rfl | rfl | rfl | rfl <;> exact eqM_eq (by kernel_rfl) (by kernel_rfl) (by kernel_rfl)
theorem ab5_r12 (c1 d1 c2 d2 : Nat) : (ab5_9 c1 d1 c2 d2).runFor 3 = ab5_12 c1 d1 c2 d2 := eqM_eq (by kernel_rfl) (by kernel_rfl) (by kernel_rfl)
theorem ab5_r13 (c1 d1 c2 d2 : Nat) (hd1 : d1 ∈ [49, 50, 51, 52, 53, 54, 55]) : (ab5_12 c1 d1 c2 d2).runFor 1 = ab5_13 c1 d1 c2 d2 := by
  simp only [List.mem_cons, List.not_mem_nil, or_false] at hd1
  rcases hd1 with rfl | rfl | rfl | rfl | rfl | rfl | rfl <;> exact eqM_eq (by kernel_rfl) (by kernel_rfl) (by kernel_rfl)
theorem ab5_r19 (c1 d1 c2 d2 : Nat) : (ab5_13 c1 d1 c2 d2).runFor 6 = ab5_19 c1 d1 c2 d2 := eqM_eq (by kernel_rfl) (by kernel_rfl) (by kernel_rfl)
theorem ab5_r20 (c1 d1 c2 d2 : Nat) (hc2 : c2 ∈ [65, 66, 67, 68, 69, 70, 71]) : (ab5_19 c1 d1 c2 d2).runFor 1 = ab5_20 c1 d1 c2 d2 := by
  simp only [List.mem_cons, List.not_mem_nil, or_false] at hc2
  rcases hc2 with rfl | rfl | rfl | rfl | rfl | rfl | rfl <;> exact eqM_eq (by kernel_rfl) (by kernel_rfl) (by kernel_rfl)
theorem ab5_r23 (c1 d1 c2 d2 : Nat) : (ab5_20 c1 d1 c2 d2).runFor 3 = ab5_23 c1 d1 c2 d2 := eqM_eq (by kernel_rfl) (by kernel_rfl) (by kernel_rfl)
theorem ab5_r24 (c1 d1 c2 d2 : Nat) (hc2 : c2 ∈ [65, 66, 67, 68, 69, 70, 71]) (hd2 : d2 ∈ [49, 50, 51, 52, 53, 54, 55]) : (ab5_23 c1 d1 c2 d2).runFor 1 = ab5_24 c1 d1 c2 d2 := by
  simp only [List.mem_cons, List.not_mem_nil, or_false] at hc2
  simp only [List.mem_cons, List.not_mem_nil, or_false] at hd2
  rcases hc2 with rfl | rfl | rfl | rfl | rfl | rfl | rfl <;> rcases hd2 with rfl | rfl | rfl | rfl | rfl | rfl | rfl <;> exact eqM_eq (by kernel_rfl) (by kernel_rfl) (by kernel_rfl)
theorem ab5_r26 (c1 d1 c2 d2 : Nat) : (ab5_24 c1 d1 c2 d2).runFor 2 = ab5_26 c1 d1 c2 d2 := eqM_eq (by kernel_rfl) (by kernel_rfl) (by kernel_rfl)
theorem ab5_r27 (c1 d1 c2 d2 : Nat) (hd2 : d2 ∈ [49, 50, 51, 52, 53, 54, 55]) : (ab5_26 c1 d1 c2 d2).runFor 1 = ab5_27 c1 d1 c2 d2 := by
  simp only [List.mem_cons, List.not_mem_nil, or_false] at hd2
  rcases hd2 with rfl | rfl | rfl | rfl | rfl | rfl | rfl <;> exact eqM_eq (by kernel_rfl) (by kernel_rfl) (by kernel_rfl)
theorem ab5_r30 (c1 d1 c2 d2 : Nat) : (ab5_27 c1 d1 c2 d2).runFor 3 = ab5_30 c1 d1 c2 d2 := eqM_eq (by kernel_rfl) (by kernel_rfl) (by kernel_rfl)
theorem ab5_r31 (c1 d1 c2 d2 : Nat) (hd2 : d2 ∈ [49, 50, 51, 52, 53, 54, 55]) : (ab5_30 c1 d1 c2 d2).runFor 1 = ab5_31 c1 d1 c2 d2 := by
  simp only [List.mem_cons, List.not_mem_nil, or_false] at hd2
  rcases hd2 with rfl | rfl | rfl | rfl | rfl | rfl | rfl <;> exact eqM_eq (by kernel_rfl) (by kernel_rfl) (by kernel_rfl)
theorem ab5_r61 (c1 d1 c2 d2 : Nat) : (ab5_31 c1 d1 c2 d2).runFor 30 = ab5_61 c1 d1 c2 d2 := eqM_eq (by kernel_rfl) (by kernel_rfl) (by kernel_rfl)
theorem ab5_run (c1 d1 c2 d2 : Nat) (hc1 : c1 ∈ [65, 66, 67, 68, 69, 70, 71]) (hd1 : d1 ∈ [49, 50, 51, 52, 53, 54, 55]) (hc2 : c2 ∈ [65, 66, 67, 68, 69, 70, 71]) (hd2 : d2 ∈ [49, 50, 51, 52, 53, 54, 55]) : (Sre.forMatch absCode (ab5_t c1 d1 c2 d2) 5 0 5 false false).runFor 64 = ab5_61 c1 d1 c2 d2 := by
  rw [show (64 : Nat) = 1 + 63 from rfl, runFor_add, ab5_r1 c1 d1 c2 d2 ]
  rw [show (63 : Nat) = 1 + 62 from rfl, runFor_add, ab5_r2 c1 d1 c2 d2 hc1]
  rw [show (62 : Nat) = 3 + 59 from rfl, runFor_add, ab5_r5 c1 d1 c2 d2 ]
  rw [show (59 : Nat) = 1 + 58 from rfl, runFor_add, ab5_r6 c1 d1 c2 d2 hc1 hd1]
  rw [show (58 : Nat) = 2 + 56 from rfl, runFor_add, ab5_r8 c1 d1 c2 d2 ]
  rw [show (56 : Nat) = 1 + 55 from rfl, runFor_add, ab5_r9 c1 d1 c2 d2 hd1]
  rw [show (55 : Nat) = 3 + 52 from rfl, runFor_add, ab5_r12 c1 d1 c2 d2 ]
  rw [show (52 : Nat) = 1 + 51 from rfl, runFor_add, ab5_r13 c1 d1 c2 d2 hd1]
  rw [show (51 : Nat) = 6 + 45 from rfl, runFor_add, ab5_r19 c1 d1 c2 d2 ]
  rw [show (45 : Nat) = 1 + 44 from rfl, runFor_add, ab5_r20 c1 d1 c2 d2 hc2]
  rw [show (44 : Nat) = 3 + 41 from rfl, runFor_add, ab5_r23 c1 d1 c2 d2 ]
  rw [show (41 : Nat) = 1 + 40 from rfl, runFor_add, ab5_r24 c1 d1 c2 d2 hc2 hd2]
  rw [show (40 : Nat) = 2 + 38 from rfl, runFor_add, ab5_r26 c1 d1 c2 d2 ]
  rw [show (38 : Nat) = 1 + 37 from rfl, runFor_add, ab5_r27 c1 d1 c2 d2 hd2]
  rw [show (37 : Nat) = 3 + 34 from rfl, runFor_add, ab5_r30 c1 d1 c2 d2 ]
  rw [show (34 : Nat) = 1 + 33 from rfl, runFor_add, ab5_r31 c1 d1 c2 d2 hd2]
  rw [show (33 : Nat) = 30 + 3 from rfl, runFor_add, ab5_r61 c1 d1 c2 d2 ]
  rfl
def ab2_t (c1 d1 : Nat) : Array Nat := #[c1, d1]
def ab2_0 (c1 d1 : Nat) : Sre.M := ⟨absCode, (ab2_t c1 d1), 2, 0, 0, false, false, 5, 0, 0, true, #[none, none, none, none, none, none, none, none, none, none], (-1), (-1), #[], none, [], 0, none, ⟨16384, 0⟩, none⟩
def ab2_1 (c1 d1 : Nat) : Sre.M := ⟨absCode, (ab2_t c1 d1), 2, 0, 0, false, false, 7, 0, 0, true, #[none, none, none, none, none, none, none, none, none, none], (-1), (-1), #[], none, [], 0, none, ⟨16448, 1⟩, none⟩
def ab2_2 (c1 d1 : Nat) : Sre.M := ⟨absCode, (ab2_t c1 d1), 2, 0, 0, false, false, 14, 0, 0, true, #[none, none, none, none, none, none, none, none, none, none], (-1), (-1), #[], none, [⟨.giveBack, 7, 0, true, 0, ⟨(-1), (-1), false, #[]⟩, 0, none⟩], 1, none, ⟨16859200, 1⟩, none⟩
def ab2_5 (c1 d1 : Nat) : Sre.M := ⟨absCode, (ab2_t c1 d1), 2, 0, 0, false, false, 20, 0, 0, true, #[some 0, none, none, none, none, none, none, none, none, none], 0, (-1), #[⟨14, 0, some 0, none⟩], some 0, [⟨.maxMore, 37, 0, true, 0, ⟨(-1), (-1), true, #[]⟩, 0, none⟩, ⟨.closeLoop, 14, 0, true, 0, ⟨(-1), (-1), false, #[]⟩, 0, none⟩, ⟨.giveBack, 7, 0, true, 0, ⟨(-1), (-1), false, #[]⟩, 0, none⟩], 3, none, ⟨25641024, 1⟩, none⟩
def ab2_6 (c1 d1 : Nat) : Sre.M := ⟨absCode, (ab2_t c1 d1), 2, 0, 0, false, false, 34, 1, 1, true, #[some 0, none, none, none, none, none, none, none, none, none], 0, (-1), #[⟨14, 0, some 0, none⟩], some 0, [⟨.giveBack, 20, 1, true, 1, ⟨0, (-1), true, #[some 0]⟩, 0, none⟩, ⟨.maxMore, 37, 0, true, 0, ⟨(-1), (-1), true, #[]⟩, 0, none⟩, ⟨.closeLoop, 14, 0, true, 0, ⟨(-1), (-1), false, #[]⟩, 0, none⟩, ⟨.giveBack, 7, 0, true, 0, ⟨(-1), (-1), false, #[]⟩, 0, none⟩], 5, none, ⟨29843521, 1⟩, none⟩
def ab2_8 (c1 d1 : Nat) : Sre.M := ⟨absCode, (ab2_t c1 d1), 2, 0, 0, false, false, 37, 1, 1, true, #[some 0, some 1, none, none, none, none, none, none, none, none], 1, 1, #[⟨14, 0, some 0, none⟩], none, [⟨.maxTail, 37, 1, true, 1, ⟨1, 1, false, #[]⟩, 0, none⟩, ⟨.giveBack, 20, 1, true, 1, ⟨0, (-1), true, #[some 0]⟩, 0, none⟩, ⟨.maxMore, 37, 0, true, 0, ⟨(-1), (-1), true, #[]⟩, 0, none⟩, ⟨.closeLoop, 14, 0, true, 0, ⟨(-1), (-1), false, #[]⟩, 0, none⟩, ⟨.giveBack, 7, 0, true, 0, ⟨(-1), (-1), false, #[]⟩, 0, none⟩], 6, none, ⟨29843521, 1⟩, none⟩
def ab2_9 (c1 d1 : Nat) : Sre.M := ⟨absCode, (ab2_t c1 d1), 2, 0, 0, false, false, 44, 1, 1, true, #[some 0, some 1, none, none, none, none, none, none, none, none], 1, 1, #[⟨14, 0, some 0, none⟩], none, [⟨.giveBack, 37, 1, true, 0, ⟨1, 1, false, #[]⟩, 0, none⟩, ⟨.maxTail, 37, 1, true, 1, ⟨1, 1, false, #[]⟩, 0, none⟩, ⟨.giveBack, 20, 1, true, 1, ⟨0, (-1), true, #[some 0]⟩, 0, none⟩, ⟨.maxMore, 37, 0, true, 0, ⟨(-1), (-1), true, #[]⟩, 0, none⟩, ⟨.closeLoop, 14, 0, true, 0, ⟨(-1), (-1), false, #[]⟩, 0, none⟩, ⟨.giveBack, 7, 0, true, 0, ⟨(-1), (-1), false, #[]⟩, 0, none⟩], 7, none, ⟨29843521, 1⟩, none⟩
def ab2_12 (c1 d1 : Nat) : Sre.M := ⟨absCode, (ab2_t c1 d1), 2, 0, 0, false, false, 50, 1, 1, true, #[some 0, some 1, some 1, none, none, none, none, none, none, none], 2, 1, #[⟨14, 0, some 0, none⟩, ⟨44, 0, some 1, none⟩], some 1, [⟨.maxMore, 63, 1, true, 0, ⟨1, 1, true, #[some 0, some 1]⟩, 1, none⟩, ⟨.closeLoop, 44, 1, true, 0, ⟨(-1), (-1), false, #[]⟩, 1, none⟩, ⟨.giveBack, 37, 1, true, 0, ⟨1, 1, false, #[]⟩, 0, none⟩, ⟨.maxTail, 37, 1, true, 1, ⟨1, 1, false, #[]⟩, 0, none⟩, ⟨.giveBack, 20, 1, true, 1, ⟨0, (-1), true, #[some 0]⟩, 0, none⟩, ⟨.maxMore, 37, 0, true, 0, ⟨(-1), (-1), true, #[]⟩, 0, none⟩, ⟨.closeLoop, 14, 0, true, 0, ⟨(-1), (-1), false, #[]⟩, 0, none⟩, ⟨.giveBack, 7, 0, true, 0, ⟨(-1), (-1), false, #[]⟩, 0, none⟩], 11, none, ⟨29843521, 1⟩, none⟩
def ab2_13 (c1 d1 : Nat) : Sre.M := ⟨absCode, (ab2_t c1 d1), 2, 0, 0, false, false, 60, 2, 2, true, #[some 0, some 1, some 1, none, none, none, none, none, none, none], 2, 1, #[⟨14, 0, some 0, none⟩, ⟨44, 0, some 1, none⟩], some 1, [⟨.giveBack, 50, 2, true, 1, ⟨2, 1, true, #[some 0, some 1, some 1]⟩, 0, none⟩, ⟨.maxMore, 63, 1, true, 0, ⟨1, 1, true, #[some 0, some 1]⟩, 1, none⟩, ⟨.closeLoop, 44, 1, true, 0, ⟨(-1), (-1), false, #[]⟩, 1, none⟩, ⟨.giveBack, 37, 1, true, 0, ⟨1, 1, false, #[]⟩, 0, none⟩, ⟨.maxTail, 37, 1, true, 1, ⟨1, 1, false, #[]⟩, 0, none⟩, ⟨.giveBack, 20, 1, true, 1, ⟨0, (-1), true, #[some 0]⟩, 0, none⟩, ⟨.maxMore, 37, 0, true, 0, ⟨(-1), (-1), true, #[]⟩, 0, none⟩, ⟨.closeLoop, 14, 0, true, 0, ⟨(-1), (-1), false, #[]⟩, 0, none⟩, ⟨.giveBack, 7, 0, true, 0, ⟨(-1), (-1), false, #[]⟩, 0, none⟩], 15, none, ⟨29843777, 4194305⟩, none⟩
def ab2_35 (c1 d1 : Nat) : Sre.M := ⟨absCode, (ab2_t c1 d1), 2, 0, 0, false, false, 7, 0, 2, true, #[some 0, some 1, some 1, some 2, some 2, none, none, none, none, none], 3, 2, #[], none, [], 0, some true, ⟨29843779, 4194337⟩, some .matched⟩
theorem ab2_r1 (c1 d1 : Nat) : (Sre.forMatch absCode (ab2_t c1 d1) 5 0 2 false false).runFor 1 = ab2_1 c1 d1 := eqM_eq (by kernel_rfl) (by kernel_rfl) (by kernel_rfl)
theorem ab2_r2 (c1 d1 : Nat) (hc1 : c1 ∈ [65, 66, 67, 68, 69, 70, 71]) : (ab2_1 c1 d1).runFor 1 = ab2_2 c1 d1 := by
  simp only [List.mem_cons, List.not_mem_nil, or_false] at hc1
  rcases hc1 with rfl | rfl | rfl | rfl | rfl | rfl | rfl <;> exact eqM_eq (by kernel_rfl) (by kernel_rfl) (by kernel_rfl)
theorem ab2_r5 (c1 d1 : Nat) : (ab2_2 c1 d1).runFor 3 = ab2_5 c1 d1 := eqM_eq (by kernel_rfl) (by kernel_rfl) (by kernel_rfl)
theorem ab2_r6 (c1 d1 : Nat) (hc1 : c1 ∈ [65, 66, 67, 68, 69, 70, 71]) (hd1 : d1 ∈ [49, 50, 51, 52, 53, 54, 55]) : (ab2_5 c1 d1).runFor 1 = ab2_6 c1 d1 := by
  simp only [List.mem_cons, List.not_mem_nil, or_false] at hc1
  simp only [List.mem_cons, List.not_mem_nil, or_false] at hd1
  rcases hc1 with rfl | rfl | rfl | rfl | rfl | rfl | rfl <;> rcases hd1 with rfl | rfl | rfl | rfl | rfl | rfl | rfl <;> exact eqM_eq (by kernel_rfl) (by kernel_rfl) (by kernel_rfl)
theorem ab2_r8 (c1 d1 : Nat) : (ab2_6 c1 d1).runFor 2 = ab2_8 c1 d1 := eqM_eq (by kernel_rfl) (by kernel_rfl) (by kernel_rfl)
theorem ab2_r9 (c1 d1 : Nat) (hd1 : d1 ∈ [49, 50, 51, 52, 53, 54, 55]) : (ab2_8 c1 d1).runFor 1 = ab2_9 c1 d1 := by
  simp only [List.mem_cons, List.not_mem_nil, or_false] at hd1
  rcases hd1 with rfl | rfl | rfl | rfl | rfl | rfl | rfl <;> exact eqM_eq (by kernel_rfl) (by kernel_rfl) (by kernel_rfl)
theorem ab2_r12 (c1 d1 : Nat) : (ab2_9 c1 d1).runFor 3 = ab2_12 c1 d1 := eqM_eq (by kernel_rfl) (by kernel_rfl) (by kernel_rfl)
theorem ab2_r13 (c1 d1 : Nat) (hd1 : d1 ∈ [49, 50, 51, 52, 53, 54, 55]) : (ab2_12 c1 d1).runFor 1 = ab2_13 c1 d1 := by
  simp only [List.mem_cons, List.not_mem_nil, or_false] at hd1
  rcases hd1 with rfl | rfl | rfl | rfl | rfl | rfl | rfl <;> exact eqM_eq (by kernel_rfl) (by kernel_rfl) (by kernel_rfl)
theorem ab2_r35 (c1 d1 : Nat) : (ab2_13 c1 d1).runFor 22 = ab2_35 c1 d1 := eqM_eq (by kernel_rfl) (by kernel_rfl) (by kernel_rfl)
theorem ab2_run (c1 d1 : Nat) (hc1 : c1 ∈ [65, 66, 67, 68, 69, 70, 71]) (hd1 : d1 ∈ [49, 50, 51, 52, 53, 54, 55]) : (Sre.forMatch absCode (ab2_t c1 d1) 5 0 2 false false).runFor 36 = ab2_35 c1 d1 := by
  rw [show (36 : Nat) = 1 + 35 from rfl, runFor_add, ab2_r1 c1 d1 ]
  rw [show (35 : Nat) = 1 + 34 from rfl, runFor_add, ab2_r2 c1 d1 hc1]
  rw [show (34 : Nat) = 3 + 31 from rfl, runFor_add, ab2_r5 c1 d1 ]
  rw [show (31 : Nat) = 1 + 30 from rfl, runFor_add, ab2_r6 c1 d1 hc1 hd1]
  rw [show (30 : Nat) = 2 + 28 from rfl, runFor_add, ab2_r8 c1 d1 ]
  rw [show (28 : Nat) = 1 + 27 from rfl, runFor_add, ab2_r9 c1 d1 hd1]
  rw [show (27 : Nat) = 3 + 24 from rfl, runFor_add, ab2_r12 c1 d1 ]
  rw [show (24 : Nat) = 1 + 23 from rfl, runFor_add, ab2_r13 c1 d1 hd1]
  rw [show (23 : Nat) = 22 + 1 from rfl, runFor_add, ab2_r35 c1 d1 ]
  rfl
def shS5_t (c1 d1 c2 d2 : Nat) : Array Nat := #[39, 83, 39, 33, c1, d1, 58, c2, d2]
def shS5_0 (c1 d1 c2 d2 : Nat) : Sre.M := ⟨sheetCode, (shS5_t c1 d1 c2 d2), 9, 0, 0, false, false, 5, 0, 0, true, #[none, none, none, none, none, none, none, none, none, none, none, none, none, none, none, none, none, none, none, none, none, none], (-1), (-1), #[], none, [], 0, none, ⟨16384, 0⟩, none⟩
def shS5_28 (c1 d1 c2 d2 : Nat) : Sre.M := ⟨sheetCode, (shS5_t c1 d1 c2 d2), 9, 0, 0, false, false, 78, 4, 2, true, #[some 0, some 3, some 0, some 3, some 1, some 2, some 1, some 2, none, none, some 4, none, none, none, none, none, none, none, none, none, none, none], 10, 1, #[⟨15, 0, some 1, none⟩], none, [⟨.maxTail, 38, 2, true, 1, ⟨7, 4, false, #[]⟩, 0, none⟩, ⟨.nextBranch, 22, 1, true, 0, ⟨6, (-1), true, #[some 0, none, some 0, none, some 1, none, some 1]⟩, 0, none⟩, ⟨.maxMore, 38, 1, true, 0, ⟨4, (-1), true, #[some 0, none, some 0, none, some 1]⟩, 0, none⟩, ⟨.closeLoop, 15, 1, true, 0, ⟨(-1), (-1), false, #[]⟩, 0, none⟩, ⟨.nextBranch, 8, 0, true, 0, ⟨0, (-1), false, #[]⟩, 0, none⟩], 17, none, ⟨9945216, 0⟩, none⟩
def shS5_29 (c1 d1 c2 d2 : Nat) : Sre.M := ⟨sheetCode, (shS5_t c1 d1 c2 d2), 9, 0, 0, false, false, 85, 4, 4, true, #[some 0, some 3, some 0, some 3, some 1, some 2, some 1, some 2, none, none, some 4, none, none, none, none, none, none, none, none, none, none, none], 10, 1, #[⟨15, 0, some 1, none⟩], none, [⟨.giveBack, 78, 4, true, 0, ⟨10, 1, false, #[]⟩, 0, none⟩, ⟨.maxTail, 38, 2, true, 1, ⟨7, 4, false, #[]⟩, 0, none⟩, ⟨.nextBranch, 22, 1, true, 0, ⟨6, (-1), true, #[some 0, none, some 0, none, some 1, none, some 1]⟩, 0, none⟩, ⟨.maxMore, 38, 1, true, 0, ⟨4, (-1), true, #[some 0, none, some 0, none, some 1]⟩, 0, none⟩, ⟨.closeLoop, 15, 1, true, 0, ⟨(-1), (-1), false, #[]⟩, 0, none⟩, ⟨.nextBranch, 8, 0, true, 0, ⟨0, (-1), false, #[]⟩, 0, none⟩], 18, none, ⟨26722432, 0⟩, none⟩
def shS5_32 (c1 d1 c2 d2 : Nat) : Sre.M := ⟨sheetCode, (shS5_t c1 d1 c2 d2), 9, 0, 0, false, false, 91, 4, 4, true, #[some 0, some 3, some 0, some 3, some 1, some 2, some 1, some 2, none, none, some 4, none, some 4, none, none, none, none, none, none, none, none, none], 12, 1, #[⟨15, 0, some 1, none⟩, ⟨85, 0, some 4, none⟩], some 1, [⟨.maxMore, 108, 4, true, 0, ⟨10, 1, true, #[some 0, some 3, some 0, some 3, some 1, some 2, some 1, some 2, none, none, some 4]⟩, 1, none⟩, ⟨.closeLoop, 85, 4, true, 0, ⟨(-1), (-1), false, #[]⟩, 1, none⟩, ⟨.giveBack, 78, 4, true, 0, ⟨10, 1, false, #[]⟩, 0, none⟩, ⟨.maxTail, 38, 2, true, 1, ⟨7, 4, false, #[]⟩, 0, none⟩, ⟨.nextBranch, 22, 1, true, 0, ⟨6, (-1), true, #[some 0, none, some 0, none, some 1, none, some 1]⟩, 0, none⟩, ⟨.maxMore, 38, 1, true, 0, ⟨4, (-1), true, #[some 0, none, some 0, none, some 1]⟩, 0, none⟩, ⟨.closeLoop, 15, 1, true, 0, ⟨(-1), (-1), false, #[]⟩, 0, none⟩, ⟨.nextBranch, 8, 0, true, 0, ⟨0, (-1), false, #[]⟩, 0, none⟩], 31, none, ⟨26722432, 0⟩, none⟩
def shS5_33 (c1 d1 c2 d2 : Nat) : Sre.M := ⟨sheetCode, (shS5_t c1 d1 c2 d2), 9, 0, 0, false, false, 105, 5, 5, true, #[some 0, some 3, some 0, some 3, some 1, some 2, some 1, some 2, none, none, some 4, none, some 4, none, none, none, none, none, none, none, none, none], 12, 1, #[⟨15, 0, some 1, none⟩, ⟨85, 0, some 4, none⟩], some 1, [⟨.giveBack, 91, 5, true, 1, ⟨12, 1, true, #[some 0, some 3, some 0, some 3, some 1, some 2, some 1, some 2, none, none, some 4, none, some 4]⟩, 0, none⟩, ⟨.maxMore, 108, 4, true, 0, ⟨10, 1, true, #[some 0, some 3, some 0, some 3, some 1, some 2, some 1, some 2, none, none, some 4]⟩, 1, none⟩, ⟨.closeLoop, 85, 4, true, 0, ⟨(-1), (-1), false, #[]⟩, 1, none⟩, ⟨.giveBack, 78, 4, true, 0, ⟨10, 1, false, #[]⟩, 0, none⟩, ⟨.maxTail, 38, 2, true, 1, ⟨7, 4, false, #[]⟩, 0, none⟩, ⟨.nextBranch, 22, 1, true, 0, ⟨6, (-1), true, #[some 0, none, some 0, none, some 1, none, some 1]⟩, 0, none⟩, ⟨.maxMore, 38, 1, true, 0, ⟨4, (-1), true, #[some 0, none, some 0, none, some 1]⟩, 0, none⟩, ⟨.closeLoop, 15, 1, true, 0, ⟨(-1), (-1), false, #[]⟩, 0, none⟩, ⟨.nextBranch, 8, 0, true, 0, ⟨0, (-1), false, #[]⟩, 0, none⟩], 45, none, ⟨30924929, 0⟩, none⟩
def shS5_35 (c1 d1 c2 d2 : Nat) : Sre.M := ⟨sheetCode, (shS5_t c1 d1 c2 d2), 9, 0, 0, false, false, 108, 5, 5, true, #[some 0, some 3, some 0, some 3, some 1, some 2, some 1, some 2, none, none, some 4, none, some 4, some 5, none, none, none, none, none, none, none, none], 13, 7, #[⟨15, 0, some 1, none⟩, ⟨85, 0, some 4, none⟩], none, [⟨.maxTail, 108, 5, true, 1, ⟨13, 7, false, #[]⟩, 1, none⟩, ⟨.giveBack, 91, 5, true, 1, ⟨12, 1, true, #[some 0, some 3, some 0, some 3, some 1, some 2, some 1, some 2, none, none, some 4, none, some 4]⟩, 0, none⟩, ⟨.maxMore, 108, 4, true, 0, ⟨10, 1, true, #[some 0, some 3, some 0, some 3, some 1, some 2, some 1, some 2, none, none, some 4]⟩, 1, none⟩, ⟨.closeLoop, 85, 4, true, 0, ⟨(-1), (-1), false, #[]⟩, 1, none⟩, ⟨.giveBack, 78, 4, true, 0, ⟨10, 1, false, #[]⟩, 0, none⟩, ⟨.maxTail, 38, 2, true, 1, ⟨7, 4, false, #[]⟩, 0, none⟩, ⟨.nextBranch, 22, 1, true, 0, ⟨6, (-1), true, #[some 0, none, some 0, none, some 1, none, some 1]⟩, 0, none⟩, ⟨.maxMore, 38, 1, true, 0, ⟨4, (-1), true, #[some 0, none, some 0, none, some 1]⟩, 0, none⟩, ⟨.closeLoop, 15, 1, true, 0, ⟨(-1), (-1), false, #[]⟩, 0, none⟩, ⟨.nextBranch, 8, 0, true, 0, ⟨0, (-1), false, #[]⟩, 0, none⟩], 46, none, ⟨30924929, 0⟩, none⟩
def shS5_36 (c1 d1 c2 d2 : Nat) : Sre.M := ⟨sheetCode, (shS5_t c1 d1 c2 d2), 9, 0, 0, false, false, 115, 5, 5, true, #[some 0, some 3, some 0, some 3, some 1, some 2, some 1, some 2, none, none, some 4, none, some 4, some 5, none, none, none, none, none, none, none, none], 13, 7, #[⟨15, 0, some 1, none⟩, ⟨85, 0, some 4, none⟩], none, [⟨.giveBack, 108, 5, true, 0, ⟨13, 7, false, #[]⟩, 0, none⟩, ⟨.maxTail, 108, 5, true, 1, ⟨13, 7, false, #[]⟩, 1, none⟩, ⟨.giveBack, 91, 5, true, 1, ⟨12, 1, true, #[some 0, some 3, some 0, some 3, some 1, some 2, some 1, some 2, none, none, some 4, none, some 4]⟩, 0, none⟩, ⟨.maxMore, 108, 4, true, 0, ⟨10, 1, true, #[some 0, some 3, some 0, some 3, some 1, some 2, some 1, some 2, none, none, some 4]⟩, 1, none⟩, ⟨.closeLoop, 85, 4, true, 0, ⟨(-1), (-1), false, #[]⟩, 1, none⟩, ⟨.giveBack, 78, 4, true, 0, ⟨10, 1, false, #[]⟩, 0, none⟩, ⟨.maxTail, 38, 2, true, 1, ⟨7, 4, false, #[]⟩, 0, none⟩, ⟨.nextBranch, 22, 1, true, 0, ⟨6, (-1), true, #[some 0, none, some 0, none, some 1, none, some 1]⟩, 0, none⟩, ⟨.maxMore, 38, 1, true, 0, ⟨4, (-1), true, #[some 0, none, some 0, none, some 1]⟩, 0, none⟩, ⟨.closeLoop, 15, 1, true, 0, ⟨(-1), (-1), false, #[]⟩, 0, none⟩, ⟨.nextBranch, 8, 0, true, 0, ⟨0, (-1), false, #[]⟩, 0, none⟩], 47, none, ⟨30924929, 0⟩, none⟩
def shS5_39 (c1 d1 c2 d2 : Nat) : Sre.M := ⟨sheetCode, (shS5_t c1 d1 c2 d2), 9, 0, 0, false, false, 121, 5, 5, true, #[some 0, some 3, some 0, some 3, some 1, some 2, some 1, some 2, none, none, some 4, none, some 4, some 5, some 5, none, none, none, none, none, none, none], 14, 7, #[⟨15, 0, some 1, none⟩, ⟨85, 0, some 4, none⟩, ⟨115, 0, some 5, none⟩], some 2, [⟨.maxMore, 134, 5, true, 0, ⟨13, 7, true, #[some 0, some 3, some 0, some 3, some 1, some 2, some 1, some 2, none, none, some 4, none, some 4, some 5]⟩, 2, none⟩, ⟨.closeLoop, 115, 5, true, 0, ⟨(-1), (-1), false, #[]⟩, 2, none⟩, ⟨.giveBack, 108, 5, true, 0, ⟨13, 7, false, #[]⟩, 0, none⟩, ⟨.maxTail, 108, 5, true, 1, ⟨13, 7, false, #[]⟩, 1, none⟩, ⟨.giveBack, 91, 5, true, 1, ⟨12, 1, true, #[some 0, some 3, some 0, some 3, some 1, some 2, some 1, some 2, none, none, some 4, none, some 4]⟩, 0, none⟩, ⟨.maxMore, 108, 4, true, 0, ⟨10, 1, true, #[some 0, some 3, some 0, some 3, some 1, some 2, some 1, some 2, none, none, some 4]⟩, 1, none⟩, ⟨.closeLoop, 85, 4, true, 0, ⟨(-1), (-1), false, #[]⟩, 1, none⟩, ⟨.giveBack, 78, 4, true, 0, ⟨10, 1, false, #[]⟩, 0, none⟩, ⟨.maxTail, 38, 2, true, 1, ⟨7, 4, false, #[]⟩, 0, none⟩, ⟨.nextBranch, 22, 1, true, 0, ⟨6, (-1), true, #[some 0, none, some 0, none, some 1, none, some 1]⟩, 0, none⟩, ⟨.maxMore, 38, 1, true, 0, ⟨4, (-1), true, #[some 0, none, some 0, none, some 1]⟩, 0, none⟩, ⟨.closeLoop, 15, 1, true, 0, ⟨(-1), (-1), false, #[]⟩, 0, none⟩, ⟨.nextBranch, 8, 0, true, 0, ⟨0, (-1), false, #[]⟩, 0, none⟩], 63, none, ⟨30924929, 0⟩, none⟩
def shS5_40 (c1 d1 c2 d2 : Nat) : Sre.M := ⟨sheetCode, (shS5_t c1 d1 c2 d2), 9, 0, 0, false, false, 131, 6, 6, true, #[some 0, some 3, some 0, some 3, some 1, some 2, some 1, some 2, none, none, some 4, none, some 4, some 5, some 5, none, none, none, none, none, none, none], 14, 7, #[⟨15, 0, some 1, none⟩, ⟨85, 0, some 4, none⟩, ⟨115, 0, some 5, none⟩], some 2, [⟨.giveBack, 121, 6, true, 1, ⟨14, 7, true, #[some 0, some 3, some 0, some 3, some 1, some 2, some 1, some 2, none, none, some 4, none, some 4, some 5, some 5]⟩, 0, none⟩, ⟨.maxMore, 134, 5, true, 0, ⟨13, 7, true, #[some 0, some 3, some 0, some 3, some 1, some 2, some 1, some 2, none, none, some 4, none, some 4, some 5]⟩, 2, none⟩, ⟨.closeLoop, 115, 5, true, 0, ⟨(-1), (-1), false, #[]⟩, 2, none⟩, ⟨.giveBack, 108, 5, true, 0, ⟨13, 7, false, #[]⟩, 0, none⟩, ⟨.maxTail, 108, 5, true, 1, ⟨13, 7, false, #[]⟩, 1, none⟩, ⟨.giveBack, 91, 5, true, 1, ⟨12, 1, true, #[some 0, some 3, some 0, some 3, some 1, some 2, some 1, some 2, none, none, some 4, none, some 4]⟩, 0, none⟩, ⟨.maxMore, 108, 4, true, 0, ⟨10, 1, true, #[some 0, some 3, some 0, some 3, some 1, some 2, some 1, some 2, none, none, some 4]⟩, 1, none⟩, ⟨.closeLoop, 85, 4, true, 0, ⟨(-1), (-1), false, #[]⟩, 1, none⟩, ⟨.giveBack, 78, 4, true, 0, ⟨10, 1, false, #[]⟩, 0, none⟩, ⟨.maxTail, 38, 2, true, 1, ⟨7, 4, false, #[]⟩, 0, none⟩, ⟨.nextBranch, 22, 1, true, 0, ⟨6, (-1), true, #[some 0, none, some 0, none, some 1, none, some 1]⟩, 0, none⟩, ⟨.maxMore, 38, 1, true, 0, ⟨4, (-1), true, #[some 0, none, some 0, none, some 1]⟩, 0, none⟩, ⟨.closeLoop, 15, 1, true, 0, ⟨(-1), (-1), false, #[]⟩, 0, none⟩, ⟨.nextBranch, 8, 0, true, 0, ⟨0, (-1), false, #[]⟩, 0, none⟩], 79, none, ⟨30925185, 4194304⟩, none⟩
def shS5_46 (c1 d1 c2 d2 : Nat) : Sre.M := ⟨sheetCode, (shS5_t c1 d1 c2 d2), 9, 0, 0, false, false, 142, 7, 6, true, #[some 0, some 3, some 0, some 3, some 1, some 2, some 1, some 2, none, none, some 4, none, some 4, some 5, some 5, some 6, some 6, none, none, none, none, none], 16, 8, #[⟨15, 0, some 1, none⟩, ⟨85, 0, some 4, none⟩, ⟨115, 0, some 5, none⟩, ⟨134, 0, some 6, none⟩], some 3, [⟨.maxMore, 201, 6, true, 0, ⟨15, 8, true, #[some 0, some 3, some 0, some 3, some 1, some 2, some 1, some 2, none, none, some 4, none, some 4, some 5, some 5, some 6]⟩, 3, none⟩, ⟨.closeLoop, 134, 6, true, 0, ⟨(-1), (-1), false, #[]⟩, 3, none⟩, ⟨.maxTail, 134, 6, true, 1, ⟨15, 8, false, #[]⟩, 2, none⟩, ⟨.giveBack, 121, 6, true, 1, ⟨14, 7, true, #[some 0, some 3, some 0, some 3, some 1, some 2, some 1, some 2, none, none, some 4, none, some 4, some 5, some 5]⟩, 0, none⟩, ⟨.maxMore, 134, 5, true, 0, ⟨13, 7, true, #[some 0, some 3, some 0, some 3, some 1, some 2, some 1, some 2, none, none, some 4, none, some 4, some 5]⟩, 2, none⟩, ⟨.closeLoop, 115, 5, true, 0, ⟨(-1), (-1), false, #[]⟩, 2, none⟩, ⟨.giveBack, 108, 5, true, 0, ⟨13, 7, false, #[]⟩, 0, none⟩, ⟨.maxTail, 108, 5, true, 1, ⟨13, 7, false, #[]⟩, 1, none⟩, ⟨.giveBack, 91, 5, true, 1, ⟨12, 1, true, #[some 0, some 3, some 0, some 3, some 1, some 2, some 1, some 2, none, none, some 4, none, some 4]⟩, 0, none⟩, ⟨.maxMore, 108, 4, true, 0, ⟨10, 1, true, #[some 0, some 3, some 0, some 3, some 1, some 2, some 1, some 2, none, none, some 4]⟩, 1, none⟩, ⟨.closeLoop, 85, 4, true, 0, ⟨(-1), (-1), false, #[]⟩, 1, none⟩, ⟨.giveBack, 78, 4, true, 0, ⟨10, 1, false, #[]⟩, 0, none⟩, ⟨.maxTail, 38, 2, true, 1, ⟨7, 4, false, #[]⟩, 0, none⟩, ⟨.nextBranch, 22, 1, true, 0, ⟨6, (-1), true, #[some 0, none, some 0, none, some 1, none, some 1]⟩, 0, none⟩, ⟨.maxMore, 38, 1, true, 0, ⟨4, (-1), true, #[some 0, none, some 0, none, some 1]⟩, 0, none⟩, ⟨.closeLoop, 15, 1, true, 0, ⟨(-1), (-1), false, #[]⟩, 0, none⟩, ⟨.nextBranch, 8, 0, true, 0, ⟨0, (-1), false, #[]⟩, 0, none⟩], 98, none, ⟨30925185, 4194304⟩, none⟩
def shS5_47 (c1 d1 c2 d2 : Nat) : Sre.M := ⟨sheetCode, (shS5_t c1 d1 c2 d2), 9, 0, 0, false, false, 149, 7, 7, true, #[some 0, some 3, some 0, some 3, some 1, some 2, some 1, some 2, none, none, some 4, none, some 4, some 5, some 5, some 6, some 6, none, none, none, none, none], 16, 8, #[⟨15, 0, some 1, none⟩, ⟨85, 0, some 4, none⟩, ⟨115, 0, some 5, none⟩, ⟨134, 0, some 6, none⟩], some 3, [⟨.giveBack, 142, 7, true, 0, ⟨16, 8, true, #[some 0, some 3, some 0, some 3, some 1, some 2, some 1, some 2, none, none, some 4, none, some 4, some 5, some 5, some 6, some 6]⟩, 0, none⟩, ⟨.maxMore, 201, 6, true, 0, ⟨15, 8, true, #[some 0, some 3, some 0, some 3, some 1, some 2, some 1, some 2, none, none, some 4, none, some 4, some 5, some 5, some 6]⟩, 3, none⟩, ⟨.closeLoop, 134, 6, true, 0, ⟨(-1), (-1), false, #[]⟩, 3, none⟩, ⟨.maxTail, 134, 6, true, 1, ⟨15, 8, false, #[]⟩, 2, none⟩, ⟨.giveBack, 121, 6, true, 1, ⟨14, 7, true, #[some 0, some 3, some 0, some 3, some 1, some 2, some 1, some 2, none, none, some 4, none, some 4, some 5, some 5]⟩, 0, none⟩, ⟨.maxMore, 134, 5, true, 0, ⟨13, 7, true, #[some 0, some 3, some 0, some 3, some 1, some 2, some 1, some 2, none, none, some 4, none, some 4, some 5]⟩, 2, none⟩, ⟨.closeLoop, 115, 5, true, 0, ⟨(-1), (-1), false, #[]⟩, 2, none⟩, ⟨.giveBack, 108, 5, true, 0, ⟨13, 7, false, #[]⟩, 0, none⟩, ⟨.maxTail, 108, 5, true, 1, ⟨13, 7, false, #[]⟩, 1, none⟩, ⟨.giveBack, 91, 5, true, 1, ⟨12, 1, true, #[some 0, some 3, some 0, some 3, some 1, some 2, some 1, some 2, none, none, some 4, none, some 4]⟩, 0, none⟩, ⟨.maxMore, 108, 4, true, 0, ⟨10, 1, true, #[some 0, some 3, some 0, some 3, some 1, some 2, some 1, some 2, none, none, some 4]⟩, 1, none⟩, ⟨.closeLoop, 85, 4, true, 0, ⟨(-1), (-1), false, #[]⟩, 1, none⟩, ⟨.giveBack, 78, 4, true, 0, ⟨10, 1, false, #[]⟩, 0, none⟩, ⟨.maxTail, 38, 2, true, 1, ⟨7, 4, false, #[]⟩, 0, none⟩, ⟨.nextBranch, 22, 1, true, 0, ⟨6, (-1), true, #[some 0, none, some 0, none, some 1, none, some 1]⟩, 0, none⟩, ⟨.maxMore, 38, 1, true, 0, ⟨4, (-1), true, #[some 0, none, some 0, none, some 1]⟩, 0, none⟩, ⟨.closeLoop, 15, 1, true, 0, ⟨(-1), (-1), false, #[]⟩, 0, none⟩, ⟨.nextBranch, 8, 0, true, 0, ⟨0, (-1), false, #[]⟩, 0, none⟩], 116, none, ⟨30925185, 4194304⟩, none⟩
def shS5_50 (c1 d1 c2 d2 : Nat) : Sre.M := ⟨sheetCode, (shS5_t c1 d1 c2 d2), 9, 0, 0, false, false, 155, 7, 7, true, #[some 0, some 3, some 0, some 3, some 1, some 2, some 1, some 2, none, none, some 4, none, some 4, some 5, some 5, some 6, some 6, none, some 7, none, none, none], 18, 8, #[⟨15, 0, some 1, none⟩, ⟨85, 0, some 4, none⟩, ⟨115, 0, some 5, none⟩, ⟨134, 0, some 6, none⟩, ⟨149, 0, some 7, some 3⟩], some 4, [⟨.maxMore, 172, 7, true, 0, ⟨16, 8, true, #[some 0, some 3, some 0, some 3, some 1, some 2, some 1, some 2, none, none, some 4, none, some 4, some 5, some 5, some 6, some 6]⟩, 4, none⟩, ⟨.closeLoop, 149, 7, true, 0, ⟨(-1), (-1), false, #[]⟩, 4, none⟩, ⟨.giveBack, 142, 7, true, 0, ⟨16, 8, true, #[some 0, some 3, some 0, some 3, some 1, some 2, some 1, some 2, none, none, some 4, none, some 4, some 5, some 5, some 6, some 6]⟩, 0, none⟩, ⟨.maxMore, 201, 6, true, 0, ⟨15, 8, true, #[some 0, some 3, some 0, some 3, some 1, some 2, some 1, some 2, none, none, some 4, none, some 4, some 5, some 5, some 6]⟩, 3, none⟩, ⟨.closeLoop, 134, 6, true, 0, ⟨(-1), (-1), false, #[]⟩, 3, none⟩, ⟨.maxTail, 134, 6, true, 1, ⟨15, 8, false, #[]⟩, 2, none⟩, ⟨.giveBack, 121, 6, true, 1, ⟨14, 7, true, #[some 0, some 3, some 0, some 3, some 1, some 2, some 1, some 2, none, none, some 4, none, some 4, some 5, some 5]⟩, 0, none⟩, ⟨.maxMore, 134, 5, true, 0, ⟨13, 7, true, #[some 0, some 3, some 0, some 3, some 1, some 2, some 1, some 2, none, none, some 4, none, some 4, some 5]⟩, 2, none⟩, ⟨.closeLoop, 115, 5, true, 0, ⟨(-1), (-1), false, #[]⟩, 2, none⟩, ⟨.giveBack, 108, 5, true, 0, ⟨13, 7, false, #[]⟩, 0, none⟩, ⟨.maxTail, 108, 5, true, 1, ⟨13, 7, false, #[]⟩, 1, none⟩, ⟨.giveBack, 91, 5, true, 1, ⟨12, 1, true, #[some 0, some 3, some 0, some 3, some 1, some 2, some 1, some 2, none, none, some 4, none, some 4]⟩, 0, none⟩, ⟨.maxMore, 108, 4, true, 0, ⟨10, 1, true, #[some 0, some 3, some 0, some 3, some 1, some 2, some 1, some 2, none, none, some 4]⟩, 1, none⟩, ⟨.closeLoop, 85, 4, true, 0, ⟨(-1), (-1), false, #[]⟩, 1, none⟩, ⟨.giveBack, 78, 4, true, 0, ⟨10, 1, false, #[]⟩, 0, none⟩, ⟨.maxTail, 38, 2, true, 1, ⟨7, 4, false, #[]⟩, 0, none⟩, ⟨.nextBranch, 22, 1, true, 0, ⟨6, (-1), true, #[some 0, none, some 0, none, some 1, none, some 1]⟩, 0, none⟩, ⟨.maxMore, 38, 1, true, 0, ⟨4, (-1), true, #[some 0, none, some 0, none, some 1]⟩, 0, none⟩, ⟨.closeLoop, 15, 1, true, 0, ⟨(-1), (-1), false, #[]⟩, 0, none⟩, ⟨.nextBranch, 8, 0, true, 0, ⟨0, (-1), false, #[]⟩, 0, none⟩], 135, none, ⟨30925185, 4194304⟩, none⟩
def shS5_51 (c1 d1 c2 d2 : Nat) : Sre.M := ⟨sheetCode, (shS5_t c1 d1 c2 d2), 9, 0, 0, false, false, 169, 8, 8, true, #[some 0, some 3, some 0, some 3, some 1, some 2, some 1, some 2, none, none, some 4, none, some 4, some 5, some 5, some 6, some 6, none, some 7, none, none, none], 18, 8, #[⟨15, 0, some 1, none⟩, ⟨85, 0, some 4, none⟩, ⟨115, 0, some 5, none⟩, ⟨134, 0, some 6, none⟩, ⟨149, 0, some 7, some 3⟩], some 4, [⟨.giveBack, 155, 8, true, 1, ⟨18, 8, true, #[some 0, some 3, some 0, some 3, some 1, some 2, some 1, some 2, none, none, some 4, none, some 4, some 5, some 5, some 6, some 6, none, some 7]⟩, 0, none⟩, ⟨.maxMore, 172, 7, true, 0, ⟨16, 8, true, #[some 0, some 3, some 0, some 3, some 1, some 2, some 1, some 2, none, none, some 4, none, some 4, some 5, some 5, some 6, some 6]⟩, 4, none⟩, ⟨.closeLoop, 149, 7, true, 0, ⟨(-1), (-1), false, #[]⟩, 4, none⟩, ⟨.giveBack, 142, 7, true, 0, ⟨16, 8, true, #[some 0, some 3, some 0, some 3, some 1, some 2, some 1, some 2, none, none, some 4, none, some 4, some 5, some 5, some 6, some 6]⟩, 0, none⟩, ⟨.maxMore, 201, 6, true, 0, ⟨15, 8, true, #[some 0, some 3, some 0, some 3, some 1, some 2, some 1, some 2, none, none, some 4, none, some 4, some 5, some 5, some 6]⟩, 3, none⟩, ⟨.closeLoop, 134, 6, true, 0, ⟨(-1), (-1), false, #[]⟩, 3, none⟩, ⟨.maxTail, 134, 6, true, 1, ⟨15, 8, false, #[]⟩, 2, none⟩, ⟨.giveBack, 121, 6, true, 1, ⟨14, 7, true, #[some 0, some 3, some 0, some 3, some 1, some 2, some 1, some 2, none, none, some 4, none, some 4, some 5, some 5]⟩, 0, none⟩, ⟨.maxMore, 134, 5, true, 0, ⟨13, 7, true, #[some 0, some 3, some 0, some 3, some 1, some 2, some 1, some 2, none, none, some 4, none, some 4, some 5]⟩, 2, none⟩, ⟨.closeLoop, 115, 5, true, 0, ⟨(-1), (-1), false, #[]⟩, 2, none⟩, ⟨.giveBack, 108, 5, true, 0, ⟨13, 7, false, #[]⟩, 0, none⟩, ⟨.maxTail, 108, 5, true, 1, ⟨13, 7, false, #[]⟩, 1, none⟩, ⟨.giveBack, 91, 5, true, 1, ⟨12, 1, true, #[some 0, some 3, some 0, some 3, some 1, some 2, some 1, some 2, none, none, some 4, none, some 4]⟩, 0, none⟩, ⟨.maxMore, 108, 4, true, 0, ⟨10, 1, true, #[some 0, some 3, some 0, some 3, some 1, some 2, some 1, some 2, none, none, some 4]⟩, 1, none⟩, ⟨.closeLoop, 85, 4, true, 0, ⟨(-1), (-1), false, #[]⟩, 1, none⟩, ⟨.giveBack, 78, 4, true, 0, ⟨10, 1, false, #[]⟩, 0, none⟩, ⟨.maxTail, 38, 2, true, 1, ⟨7, 4, false, #[]⟩, 0, none⟩, ⟨.nextBranch, 22, 1, true, 0, ⟨6, (-1), true, #[some 0, none, some 0, none, some 1, none, some 1]⟩, 0, none⟩, ⟨.maxMore, 38, 1, true, 0, ⟨4, (-1), true, #[some 0, none, some 0, none, some 1]⟩, 0, none⟩, ⟨.closeLoop, 15, 1, true, 0, ⟨(-1), (-1), false, #[]⟩, 0, none⟩, ⟨.nextBranch, 8, 0, true, 0, ⟨0, (-1), false, #[]⟩, 0, none⟩], 155, none, ⟨30925185, 4194304⟩, none⟩
def shS5_53 (c1 d1 c2 d2 : Nat) : Sre.M := ⟨sheetCode, (shS5_t c1 d1 c2 d2), 9, 0, 0, false, false, 172, 8, 8, true, #[some 0, some 3, some 0, some 3, some 1, some 2, some 1, some 2, none, none, some 4, none, some 4, some 5, some 5, some 6, some 6, none, some 7, some 8, none, none], 19, 10, #[⟨15, 0, some 1, none⟩, ⟨85, 0, some 4, none⟩, ⟨115, 0, some 5, none⟩, ⟨134, 0, some 6, none⟩, ⟨149, 0, some 7, some 3⟩], some 3, [⟨.maxTail, 172, 8, true, 1, ⟨19, 10, false, #[]⟩, 4, none⟩, ⟨.giveBack, 155, 8, true, 1, ⟨18, 8, true, #[some 0, some 3, some 0, some 3, some 1, some 2, some 1, some 2, none, none, some 4, none, some 4, some 5, some 5, some 6, some 6, none, some 7]⟩, 0, none⟩, ⟨.maxMore, 172, 7, true, 0, ⟨16, 8, true, #[some 0, some 3, some 0, some 3, some 1, some 2, some 1, some 2, none, none, some 4, none, some 4, some 5, some 5, some 6, some 6]⟩, 4, none⟩, ⟨.closeLoop, 149, 7, true, 0, ⟨(-1), (-1), false, #[]⟩, 4, none⟩, ⟨.giveBack, 142, 7, true, 0, ⟨16, 8, true, #[some 0, some 3, some 0, some 3, some 1, some 2, some 1, some 2, none, none, some 4, none, some 4, some 5, some 5, some 6, some 6]⟩, 0, none⟩, ⟨.maxMore, 201, 6, true, 0, ⟨15, 8, true, #[some 0, some 3, some 0, some 3, some 1, some 2, some 1, some 2, none, none, some 4, none, some 4, some 5, some 5, some 6]⟩, 3, none⟩, ⟨.closeLoop, 134, 6, true, 0, ⟨(-1), (-1), false, #[]⟩, 3, none⟩, ⟨.maxTail, 134, 6, true, 1, ⟨15, 8, false, #[]⟩, 2, none⟩, ⟨.giveBack, 121, 6, true, 1, ⟨14, 7, true, #[some 0, some 3, some 0, some 3, some 1, some 2, some 1, some 2, none, none, some 4, none, some 4, some 5, some 5]⟩, 0, none⟩, ⟨.maxMore, 134, 5, true, 0, ⟨13, 7, true, #[some 0, some 3, some 0, some 3, some 1, some 2, some 1, some 2, none, none, some 4, none, some 4, some 5]⟩, 2, none⟩, ⟨.closeLoop, 115, 5, true, 0, ⟨(-1), (-1), false, #[]⟩, 2, none⟩, ⟨.giveBack, 108, 5, true, 0, ⟨13, 7, false, #[]⟩, 0, none⟩, ⟨.maxTail, 108, 5, true, 1, ⟨13, 7, false, #[]⟩, 1, none⟩, ⟨.giveBack, 91, 5, true, 1, ⟨12, 1, true, #[some 0, some 3, some 0, some 3, some 1, some 2, some 1, some 2, none, none, some 4, none, some 4]⟩, 0, none⟩, ⟨.maxMore, 108, 4, true, 0, ⟨10, 1, true, #[some 0, some 3, some 0, some 3, some 1, some 2, some 1, some 2, none, none, some 4]⟩, 1, none⟩, ⟨.closeLoop, 85, 4, true, 0, ⟨(-1), (-1), false, #[]⟩, 1, none⟩, ⟨.giveBack, 78, 4, true, 0, ⟨10, 1, false, #[]⟩, 0, none⟩, ⟨.maxTail, 38, 2, true, 1, ⟨7, 4, false, #[]⟩, 0, none⟩, ⟨.nextBranch, 22, 1, true, 0, ⟨6, (-1), true, #[some 0, none, some 0, none, some 1, none, some 1]⟩, 0, none⟩, ⟨.maxMore, 38, 1, true, 0, ⟨4, (-1), true, #[some 0, none, some 0, none, some 1]⟩, 0, none⟩, ⟨.closeLoop, 15, 1, true, 0, ⟨(-1), (-1), false, #[]⟩, 0, none⟩, ⟨.nextBranch, 8, 0, true, 0, ⟨0, (-1), false, #[]⟩, 0, none⟩], 156, none, ⟨30925185, 4194304⟩, none⟩
def shS5_54 (c1 d1 c2 d2 : Nat) : Sre.M := ⟨sheetCode, (shS5_t c1 d1 c2 d2), 9, 0, 0, false, false, 179, 8, 8, true, #[some 0, some 3, some 0, some 3, some 1, some 2, some 1, some 2, none, none, some 4, none, some 4, some 5, some 5, some 6, some 6, none, some 7, some 8, none, none], 19, 10, #[⟨15, 0, some 1, none⟩, ⟨85, 0, some 4, none⟩, ⟨115, 0, some 5, none⟩, ⟨134, 0, some 6, none⟩, ⟨149, 0, some 7, some 3⟩], some 3, [⟨.giveBack, 172, 8, true, 0, ⟨19, 10, true, #[some 0, some 3, some 0, some 3, some 1, some 2, some 1, some 2, none, none, some 4, none, some 4, some 5, some 5, some 6, some 6, none, some 7, some 8]⟩, 0, none⟩, ⟨.maxTail, 172, 8, true, 1, ⟨19, 10, false, #[]⟩, 4, none⟩, ⟨.giveBack, 155, 8, true, 1, ⟨18, 8, true, #[some 0, some 3, some 0, some 3, some 1, some 2, some 1, some 2, none, none, some 4, none, some 4, some 5, some 5, some 6, some 6, none, some 7]⟩, 0, none⟩, ⟨.maxMore, 172, 7, true, 0, ⟨16, 8, true, #[some 0, some 3, some 0, some 3, some 1, some 2, some 1, some 2, none, none, some 4, none, some 4, some 5, some 5, some 6, some 6]⟩, 4, none⟩, ⟨.closeLoop, 149, 7, true, 0, ⟨(-1), (-1), false, #[]⟩, 4, none⟩, ⟨.giveBack, 142, 7, true, 0, ⟨16, 8, true, #[some 0, some 3, some 0, some 3, some 1, some 2, some 1, some 2, none, none, some 4, none, some 4, some 5, some 5, some 6, some 6]⟩, 0, none⟩, ⟨.maxMore, 201, 6, true, 0, ⟨15, 8, true, #[some 0, some 3, some 0, some 3, some 1, some 2, some 1, some 2, none, none, some 4, none, some 4, some 5, some 5, some 6]⟩, 3, none⟩, ⟨.closeLoop, 134, 6, true, 0, ⟨(-1), (-1), false, #[]⟩, 3, none⟩, ⟨.maxTail, 134, 6, true, 1, ⟨15, 8, false, #[]⟩, 2, none⟩, ⟨.giveBack, 121, 6, true, 1, ⟨14, 7, true, #[some 0, some 3, some 0, some 3, some 1, some 2, some 1, some 2, none, none, some 4, none, some 4, some 5, some 5]⟩, 0, none⟩, ⟨.maxMore, 134, 5, true, 0, ⟨13, 7, true, #[some 0, some 3, some 0, some 3, some 1, some 2, some 1, some 2, none, none, some 4, none, some 4, some 5]⟩, 2, none⟩, ⟨.closeLoop, 115, 5, true, 0, ⟨(-1), (-1), false, #[]⟩, 2, none⟩, ⟨.giveBack, 108, 5, true, 0, ⟨13, 7, false, #[]⟩, 0, none⟩, ⟨.maxTail, 108, 5, true, 1, ⟨13, 7, false, #[]⟩, 1, none⟩, ⟨.giveBack, 91, 5, true, 1, ⟨12, 1, true, #[some 0, some 3, some 0, some 3, some 1, some 2, some 1, some 2, none, none, some 4, none, some 4]⟩, 0, none⟩, ⟨.maxMore, 108, 4, true, 0, ⟨10, 1, true, #[some 0, some 3, some 0, some 3, some 1, some 2, some 1, some 2, none, none, some 4]⟩, 1, none⟩, ⟨.closeLoop, 85, 4, true, 0, ⟨(-1), (-1), false, #[]⟩, 1, none⟩, ⟨.giveBack, 78, 4, true, 0, ⟨10, 1, false, #[]⟩, 0, none⟩, ⟨.maxTail, 38, 2, true, 1, ⟨7, 4, false, #[]⟩, 0, none⟩, ⟨.nextBranch, 22, 1, true, 0, ⟨6, (-1), true, #[some 0, none, some 0, none, some 1, none, some 1]⟩, 0, none⟩, ⟨.maxMore, 38, 1, true, 0, ⟨4, (-1), true, #[some 0, none, some 0, none, some 1]⟩, 0, none⟩, ⟨.closeLoop, 15, 1, true, 0, ⟨(-1), (-1), false, #[]⟩, 0, none⟩, ⟨.nextBranch, 8, 0, true, 0, ⟨0, (-1), false, #[]⟩, 0, none⟩], 177, none, ⟨30925185, 4194304⟩, none⟩
def shS5_57 (c1 d1 c2 d2 : Nat) : Sre.M := ⟨sheetCode, (shS5_t c1 d1 c2 d2), 9, 0, 0, false, false, 185, 8, 8, true, #[some 0, some 3, some 0, some 3, some 1, some 2, some 1, some 2, none, none, some 4, none, some 4, some 5, some 5, some 6, some 6, none, some 7, some 8, some 8, none], 20, 10, #[⟨15, 0, some 1, none⟩, ⟨85, 0, some 4, none⟩, ⟨115, 0, some 5, none⟩, ⟨134, 0, some 6, none⟩, ⟨149, 0, some 7, some 3⟩, ⟨179, 0, some 8, some 3⟩], some 5, [⟨.maxMore, 198, 8, true, 0, ⟨19, 10, true, #[some 0, some 3, some 0, some 3, some 1, some 2, some 1, some 2, none, none, some 4, none, some 4, some 5, some 5, some 6, some 6, none, some 7, some 8]⟩, 5, none⟩, ⟨.closeLoop, 179, 8, true, 0, ⟨(-1), (-1), false, #[]⟩, 5, none⟩, ⟨.giveBack, 172, 8, true, 0, ⟨19, 10, true, #[some 0, some 3, some 0, some 3, some 1, some 2, some 1, some 2, none, none, some 4, none, some 4, some 5, some 5, some 6, some 6, none, some 7, some 8]⟩, 0, none⟩, ⟨.maxTail, 172, 8, true, 1, ⟨19, 10, false, #[]⟩, 4, none⟩, ⟨.giveBack, 155, 8, true, 1, ⟨18, 8, true, #[some 0, some 3, some 0, some 3, some 1, some 2, some 1, some 2, none, none, some 4, none, some 4, some 5, some 5, some 6, some 6, none, some 7]⟩, 0, none⟩, ⟨.maxMore, 172, 7, true, 0, ⟨16, 8, true, #[some 0, some 3, some 0, some 3, some 1, some 2, some 1, some 2, none, none, some 4, none, some 4, some 5, some 5, some 6, some 6]⟩, 4, none⟩, ⟨.closeLoop, 149, 7, true, 0, ⟨(-1), (-1), false, #[]⟩, 4, none⟩, ⟨.giveBack, 142, 7, true, 0, ⟨16, 8, true, #[some 0, some 3, some 0, some 3, some 1, some 2, some 1, some 2, none, none, some 4, none, some 4, some 5, some 5, some 6, some 6]⟩, 0, none⟩, ⟨.maxMore, 201, 6, true, 0, ⟨15, 8, true, #[some 0, some 3, some 0, some 3, some 1, some 2, some 1, some 2, none, none, some 4, none, some 4, some 5, some 5, some 6]⟩, 3, none⟩, ⟨.closeLoop, 134, 6, true, 0, ⟨(-1), (-1), false, #[]⟩, 3, none⟩, ⟨.maxTail, 134, 6, true, 1, ⟨15, 8, false, #[]⟩, 2, none⟩, ⟨.giveBack, 121, 6, true, 1, ⟨14, 7, true, #[some 0, some 3, some 0, some 3, some 1, some 2, some 1, some 2, none, none, some 4, none, some 4, some 5, some 5]⟩, 0, none⟩, ⟨.maxMore, 134, 5, true, 0, ⟨13, 7, true, #[some 0, some 3, some 0, some 3, some 1, some 2, some 1, some 2, none, none, some 4, none, some 4, some 5]⟩, 2, none⟩, ⟨.closeLoop, 115, 5, true, 0, ⟨(-1), (-1), false, #[]⟩, 2, none⟩, ⟨.giveBack, 108, 5, true, 0, ⟨13, 7, false, #[]⟩, 0, none⟩, ⟨.maxTail, 108, 5, true, 1, ⟨13, 7, false, #[]⟩, 1, none⟩, ⟨.giveBack, 91, 5, true, 1, ⟨12, 1, true, #[some 0, some 3, some 0, some 3, some 1, some 2, some 1, some 2, none, none, some 4, none, some 4]⟩, 0, none⟩, ⟨.maxMore, 108, 4, true, 0, ⟨10, 1, true, #[some 0, some 3, some 0, some 3, some 1, some 2, some 1, some 2, none, none, some 4]⟩, 1, none⟩, ⟨.closeLoop, 85, 4, true, 0, ⟨(-1), (-1), false, #[]⟩, 1, none⟩, ⟨.giveBack, 78, 4, true, 0, ⟨10, 1, false, #[]⟩, 0, none⟩, ⟨.maxTail, 38, 2, true, 1, ⟨7, 4, false, #[]⟩, 0, none⟩, ⟨.nextBranch, 22, 1, true, 0, ⟨6, (-1), true, #[some 0, none, some 0, none, some 1, none, some 1]⟩, 0, none⟩, ⟨.maxMore, 38, 1, true, 0, ⟨4, (-1), true, #[some 0, none, some 0, none, some 1]⟩, 0, none⟩, ⟨.closeLoop, 15, 1, true, 0, ⟨(-1), (-1), false, #[]⟩, 0, none⟩, ⟨.nextBranch, 8, 0, true, 0, ⟨0, (-1), false, #[]⟩, 0, none⟩], 199, none, ⟨30925185, 4194304⟩, none⟩
def shS5_58 (c1 d1 c2 d2 : Nat) : Sre.M := ⟨sheetCode, (shS5_t c1 d1 c2 d2), 9, 0, 0, false, false, 195, 9, 9, true, #[some 0, some 3, some 0, some 3, some 1, some 2, some 1, some 2, none, none, some 4, none, some 4, some 5, some 5, some 6, some 6, none, some 7, some 8, some 8, none], 20, 10, #[⟨15, 0, some 1, none⟩, ⟨85, 0, some 4, none⟩, ⟨115, 0, some 5, none⟩, ⟨134, 0, some 6, none⟩, ⟨149, 0, some 7, some 3⟩, ⟨179, 0, some 8, some 3⟩], some 5, [⟨.giveBack, 185, 9, true, 1, ⟨20, 10, true, #[some 0, some 3, some 0, some 3, some 1, some 2, some 1, some 2, none, none, some 4, none, some 4, some 5, some 5, some 6, some 6, none, some 7, some 8, some 8]⟩, 0, none⟩, ⟨.maxMore, 198, 8, true, 0, ⟨19, 10, true, #[some 0, some 3, some 0, some 3, some 1, some 2, some 1, some 2, none, none, some 4, none, some 4, some 5, some 5, some 6, some 6, none, some 7, some 8]⟩, 5, none⟩, ⟨.closeLoop, 179, 8, true, 0, ⟨(-1), (-1), false, #[]⟩, 5, none⟩, ⟨.giveBack, 172, 8, true, 0, ⟨19, 10, true, #[some 0, some 3, some 0, some 3, some 1, some 2, some 1, some 2, none, none, some 4, none, some 4, some 5, some 5, some 6, some 6, none, some 7, some 8]⟩, 0, none⟩, ⟨.maxTail, 172, 8, true, 1, ⟨19, 10, false, #[]⟩, 4, none⟩, ⟨.giveBack, 155, 8, true, 1, ⟨18, 8, true, #[some 0, some 3, some 0, some 3, some 1, some 2, some 1, some 2, none, none, some 4, none, some 4, some 5, some 5, some 6, some 6, none, some 7]⟩, 0, none⟩, ⟨.maxMore, 172, 7, true, 0, ⟨16, 8, true, #[some 0, some 3, some 0, some 3, some 1, some 2, some 1, some 2, none, none, some 4, none, some 4, some 5, some 5, some 6, some 6]⟩, 4, none⟩, ⟨.closeLoop, 149, 7, true, 0, ⟨(-1), (-1), false, #[]⟩, 4, none⟩, ⟨.giveBack, 142, 7, true, 0, ⟨16, 8, true, #[some 0, some 3, some 0, some 3, some 1, some 2, some 1, some 2, none, none, some 4, none, some 4, some 5, some 5, some 6, some 6]⟩, 0, none⟩, ⟨.maxMore, 201, 6, true, 0, ⟨15, 8, true, #[some 0, some 3, some 0, some 3, some 1, some 2, some 1, some 2, none, none, some 4, none, some 4, some 5, some 5, some 6]⟩, 3, none⟩, ⟨.closeLoop, 134, 6, true, 0, ⟨(-1), (-1), false, #[]⟩, 3, none⟩, ⟨.maxTail, 134, 6, true, 1, ⟨15, 8, false, #[]⟩, 2, none⟩, ⟨.giveBack, 121, 6, true, 1, ⟨14, 7, true, #[some 0, some 3, some 0, some 3, some 1, some 2, some 1, some 2, none, none, some 4, none, some 4, some 5, some 5]⟩, 0, none⟩, ⟨.maxMore, 134, 5, true, 0, ⟨13, 7, true, #[some 0, some 3, some 0, some 3, some 1, some 2, some 1, some 2, none, none, some 4, none, some 4, some 5]⟩, 2, none⟩, ⟨.closeLoop, 115, 5, true, 0, ⟨(-1), (-1), false, #[]⟩, 2, none⟩, ⟨.giveBack, 108, 5, true, 0, ⟨13, 7, false, #[]⟩, 0, none⟩, ⟨.maxTail, 108, 5, true, 1, ⟨13, 7, false, #[]⟩, 1, none⟩, ⟨.giveBack, 91, 5, true, 1, ⟨12, 1, true, #[some 0, some 3, some 0, some 3, some 1, some 2, some 1, some 2, none, none, some 4, none, some 4]⟩, 0, none⟩, ⟨.maxMore, 108, 4, true, 0, ⟨10, 1, true, #[some 0, some 3, some 0, some 3, some 1, some 2, some 1, some 2, none, none, some 4]⟩, 1, none⟩, ⟨.closeLoop, 85, 4, true, 0, ⟨(-1), (-1), false, #[]⟩, 1, none⟩, ⟨.giveBack, 78, 4, true, 0, ⟨10, 1, false, #[]⟩, 0, none⟩, ⟨.maxTail, 38, 2, true, 1, ⟨7, 4, false, #[]⟩, 0, none⟩, ⟨.nextBranch, 22, 1, true, 0, ⟨6, (-1), true, #[some 0, none, some 0, none, some 1, none, some 1]⟩, 0, none⟩, ⟨.maxMore, 38, 1, true, 0, ⟨4, (-1), true, #[some 0, none, some 0, none, some 1]⟩, 0, none⟩, ⟨.closeLoop, 15, 1, true, 0, ⟨(-1), (-1), false, #[]⟩, 0, none⟩, ⟨.nextBranch, 8, 0, true, 0, ⟨0, (-1), false, #[]⟩, 0, none⟩], 221, none, ⟨30925185, 4194304⟩, none⟩
def shS5_98 (c1 d1 c2 d2 : Nat) : Sre.M := ⟨sheetCode, (shS5_t c1 d1 c2 d2), 9, 0, 0, false, false, 8, 0, 9, true, #[some 0, some 3, some 0, some 3, some 1, some 2, some 1, some 2, none, none, some 4, some 9, some 4, some 5, some 5, some 6, some 6, some 9, some 7, some 8, some 8, some 9], 21, 6, #[], none, [], 0, some true, ⟨30925203, 4194304⟩, some .matched⟩
theorem shS5_r28 (c1 d1 c2 d2 : Nat) : (Sre.forMatch sheetCode (shS5_t c1 d1 c2 d2) 11 0 9 false false).runFor 28 = shS5_28 c1 d1 c2 d2 := eqM_eq (by kernel_rfl) (by kernel_rfl) (by kernel_rfl)
theorem shS5_r29 (c1 d1 c2 d2 : Nat) (hc1 : c1 ∈ [65, 66, 67, 68, 69]) : (shS5_28 c1 d1 c2 d2).runFor 1 = shS5_29 c1 d1 c2 d2 := by
  simp only [List.mem_cons, List.not_mem_nil, or_false] at hc1
  rcases hc1 with rfl | rfl | rfl | rfl | rfl <;> exact eqM_eq (by kernel_rfl) (by kernel_rfl) (by kernel_rfl)
theorem shS5_r32 (c1 d1 c2 d2 : Nat) : (shS5_29 c1 d1 c2 d2).runFor 3 = shS5_32 c1 d1 c2 d2 := eqM_eq (by kernel_rfl) (by kernel_rfl) (by kernel_rfl)
theorem shS5_r33 (c1 d1 c2 d2 : Nat) (hc1 : c1 ∈ [65, 66, 67, 68, 69]) (hd1 : d1 ∈ [49, 50, 51, 52, 53]) : (shS5_32 c1 d1 c2 d2).runFor 1 = shS5_33 c1 d1 c2 d2 := by
  simp only [List.mem_cons, List.not_mem_nil, or_false] at hc1
  simp only [List.mem_cons, List.not_mem_nil, or_false] at hd1
  rcases hc1 with rfl | rfl | rfl | rfl | rfl <;> rcases hd1 with rfl | rfl | rfl | rfl | rfl <;> exact eqM_eq (by kernel_rfl) (by kernel_rfl) (by kernel_rfl)
theorem shS5_r35 (c1 d1 c2 d2 : Nat) : (shS5_33 c1 d1 c2 d2).runFor 2 = shS5_35 c1 d1 c2 d2 := eqM_eq (by kernel_rfl) (by kernel_rfl) (by kernel_rfl)
theorem shS5_r36 (c1 d1 c2 d2 : Nat) (hd1 : d1 ∈ [49, 50, 51, 52, 53]) : (shS5_35 c1 d1 c2 d2).runFor 1 = shS5_36 c1 d1 c2 d2 := by
  simp only [List.mem_cons, List.not_mem_nil, or_false] at hd1
  rcases hd1 with rfl | rfl | rfl | rfl | rfl <;> exact eqM_eq (by kernel_rfl) (by kernel_rfl) (by kernel_rfl)
theorem shS5_r39 (c1 d1 c2 d2 : Nat) : (shS5_36 c1 d1 c2 d2).runFor 3 = shS5_39 c1 d1 c2 d2 := eqM_eq (by kernel_rfl) (by kernel_rfl) (by kernel_rfl)
theorem shS5_r40 (c1 d1 c2 d2 : Nat) (hd1 : d1 ∈ [49, 50, 51, 52, 53]) : (shS5_39 c1 d1 c2 d2).runFor 1 = shS5_40 c1 d1 c2 d2 := by
  simp only [List.mem_cons, List.not_mem_nil, or_false] at hd1
  rcases hd1 with rfl | rfl | rfl | rfl | rfl <;> exact eqM_eq (by kernel_rfl) (by kernel_rfl) (by kernel_rfl)
theorem shS5_r46 (c1 d1 c2 d2 : Nat) : (shS5_40 c1 d1 c2 d2).runFor 6 = shS5_46 c1 d1 c2 d2 := eqM_eq (by kernel_rfl) (by kernel_rfl) (by kernel_rfl)
theorem shS5_r47 (c1 d1 c2 d2 : Nat) (hc2 : c2 ∈ [65, 66, 67, 68, 69]) : (shS5_46 c1 d1 c2 d2).runFor 1 = shS5_47 c1 d1 c2 d2 := by
  simp only [List.mem_cons, List.not_mem_nil, or_false] at hc2
  rcases hc2 with rfl | rfl | rfl | rfl | rfl <;> exact eqM_eq (by kernel_rfl) (by kernel_rfl) (by kernel_rfl)
theorem shS5_r50 (c1 d1 c2 d2 : Nat) : (shS5_47 c1 d1 c2 d2).runFor 3 = shS5_50 c1 d1 c2 d2 := eqM_eq (by kernel_rfl) (by kernel_rfl) (by kernel_rfl)
theorem shS5_r51 (c1 d1 c2 d2 : Nat) (hc2 : c2 ∈ [65, 66, 67, 68, 69]) (hd2 : d2 ∈ [49, 50, 51, 52, 53]) : (shS5_50 c1 d1 c2 d2).runFor 1 = shS5_51 c1 d1 c2 d2 := by
  simp only [List.mem_cons, List.not_mem_nil, or_false] at hc2
  simp only [List.mem_cons, List.not_mem_nil, or_false] at hd2
  rcases hc2 with rfl | rfl | rfl | rfl | rfl <;> rcases hd2 with rfl | rfl | rfl | rfl | rfl <;> exact eqM_eq (by kernel_rfl) (by kernel_rfl) (by kernel_rfl)
theorem shS5_r53 (c1 d1 c2 d2 : Nat) : (shS5_51 c1 d1 c2 d2).runFor 2 = shS5_53 c1 d1 c2 d2 := eqM_eq (by kernel_rfl) (by kernel_rfl) (by kernel_rfl)
theorem shS5_r54 (c1 d1 c2 d2 : Nat) (hd2 : d2 ∈ [49, 50, 51, 52, 53]) : (shS5_53 c1 d1 c2 d2).runFor 1 = shS5_54 c1 d1 c2 d2 := by
  simp only [List.mem_cons, List.not_mem_nil, or_false] at hd2
  rcases hd2 with rfl | rfl | rfl | rfl | rfl <;> exact eqM_eq (by kernel_rfl) (by kernel_rfl) (by kernel_rfl)
theorem shS5_r57 (c1 d1 c2 d2 : Nat) : (shS5_54 c1 d1 c2 d2).runFor 3 = shS5_57 c1 d1 c2 d2 := eqM_eq (by kernel_rfl) (by kernel_rfl) (by kernel_rfl)
theorem shS5_r58 (c1 d1 c2 d2 : Nat) (hd2 : d2 ∈ [49, 50, 51, 52, 53]) : (shS5_57 c1 d1 c2 d2).runFor 1 = shS5_58 c1 d1 c2 d2 := by
  simp only [List.mem_cons, List.not_mem_nil, or_false] at hd2
  rcases hd2 with rfl | rfl | rfl | rfl | rfl <;> exact eqM_eq (by kernel_rfl) (by kernel_rfl) (by kernel_rfl)
theorem shS5_r98 (c1 d1 c2 d2 : Nat) : (shS5_58 c1 d1 c2 d2).runFor 40 = shS5_98 c1 d1 c2 d2 := eqM_eq (by kernel_rfl) (by kernel_rfl) (by kernel_rfl)
theorem shS5_run (c1 d1 c2 d2 : Nat) (hc1 : c1 ∈ [65, 66, 67, 68, 69]) (hd1 : d1 ∈ [49, 50, 51, 52, 53]) (hc2 : c2 ∈ [65, 66, 67, 68, 69]) (hd2 : d2 ∈ [49, 50, 51, 52, 53]) : (Sre.forMatch sheetCode (shS5_t c1 d1 c2 d2) 11 0 9 false false).runFor 100 = shS5_98 c1 d1 c2 d2 := by
  rw [show (100 : Nat) = 28 + 72 from rfl, runFor_add, shS5_r28 c1 d1 c2 d2 ]
  rw [show (72 : Nat) = 1 + 71 from rfl, runFor_add, shS5_r29 c1 d1 c2 d2 hc1]
  rw [show (71 : Nat) = 3 + 68 from rfl, runFor_add, shS5_r32 c1 d1 c2 d2 ]
  rw [show (68 : Nat) = 1 + 67 from rfl, runFor_add, shS5_r33 c1 d1 c2 d2 hc1 hd1]
  rw [show (67 : Nat) = 2 + 65 from rfl, runFor_add, shS5_r35 c1 d1 c2 d2 ]
  rw [show (65 : Nat) = 1 + 64 from rfl, runFor_add, shS5_r36 c1 d1 c2 d2 hd1]
  rw [show (64 : Nat) = 3 + 61 from rfl, runFor_add, shS5_r39 c1 d1 c2 d2 ]
  rw [show (61 : Nat) = 1 + 60 from rfl, runFor_add, shS5_r40 c1 d1 c2 d2 hd1]
  rw [show (60 : Nat) = 6 + 54 from rfl, runFor_add, shS5_r46 c1 d1 c2 d2 ]
  rw [show (54 : Nat) = 1 + 53 from rfl, runFor_add, shS5_r47 c1 d1 c2 d2 hc2]
  rw [show (53 : Nat) = 3 + 50 from rfl, runFor_add, shS5_r50 c1 d1 c2 d2 ]
  rw [show (50 : Nat) = 1 + 49 from rfl, runFor_add, shS5_r51 c1 d1 c2 d2 hc2 hd2]
  rw [show (49 : Nat) = 2 + 47 from rfl, runFor_add, shS5_r53 c1 d1 c2 d2 ]
  rw [show (47 : Nat) = 1 + 46 from rfl, runFor_add, shS5_r54 c1 d1 c2 d2 hd2]
  rw [show (46 : Nat) = 3 + 43 from rfl, runFor_add, shS5_r57 c1 d1 c2 d2 ]
  rw [show (43 : Nat) = 1 + 42 from rfl, runFor_add, shS5_r58 c1 d1 c2 d2 hd2]
  rw [show (42 : Nat) = 40 + 2 from rfl, runFor_add, shS5_r98 c1 d1 c2 d2 ]
  rfl
def shS2_t (c1 d1 : Nat) : Array Nat := #[39, 83, 39, 33, c1, d1]
def shS2_0 (c1 d1 : Nat) : Sre.M := ⟨sheetCode, (shS2_t c1 d1), 6, 0, 0, false, false, 5, 0, 0, true, #[none, none, none, none, none, none, none, none, none, none, none, none, none, none, none, none, none, none, none, none, none, none], (-1), (-1), #[], none, [], 0, none, ⟨16384, 0⟩, none⟩
def shS2_28 (c1 d1 : Nat) : Sre.M := ⟨sheetCode, (shS2_t c1 d1), 6, 0, 0, false, false, 78, 4, 2, true, #[some 0, some 3, some 0, some 3, some 1, some 2, some 1, some 2, none, none, some 4, none, none, none, none, none, none, none, none, none, none, none], 10, 1, #[⟨15, 0, some 1, none⟩], none, [⟨.maxTail, 38, 2, true, 1, ⟨7, 4, false, #[]⟩, 0, none⟩, ⟨.nextBranch, 22, 1, true, 0, ⟨6, (-1), true, #[some 0, none, some 0, none, some 1, none, some 1]⟩, 0, none⟩, ⟨.maxMore, 38, 1, true, 0, ⟨4, (-1), true, #[some 0, none, some 0, none, some 1]⟩, 0, none⟩, ⟨.closeLoop, 15, 1, true, 0, ⟨(-1), (-1), false, #[]⟩, 0, none⟩, ⟨.nextBranch, 8, 0, true, 0, ⟨0, (-1), false, #[]⟩, 0, none⟩], 17, none, ⟨9945216, 0⟩, none⟩
def shS2_29 (c1 d1 : Nat) : Sre.M := ⟨sheetCode, (shS2_t c1 d1), 6, 0, 0, false, false, 85, 4, 4, true, #[some 0, some 3, some 0, some 3, some 1, some 2, some 1, some 2, none, none, some 4, none, none, none, none, none, none, none, none, none, none, none], 10, 1, #[⟨15, 0, some 1, none⟩], none, [⟨.giveBack, 78, 4, true, 0, ⟨10, 1, false, #[]⟩, 0, none⟩, ⟨.maxTail, 38, 2, true, 1, ⟨7, 4, false, #[]⟩, 0, none⟩, ⟨.nextBranch, 22, 1, true, 0, ⟨6, (-1), true, #[some 0, none, some 0, none, some 1, none, some 1]⟩, 0, none⟩, ⟨.maxMore, 38, 1, true, 0, ⟨4, (-1), true, #[some 0, none, some 0, none, some 1]⟩, 0, none⟩, ⟨.closeLoop, 15, 1, true, 0, ⟨(-1), (-1), false, #[]⟩, 0, none⟩, ⟨.nextBranch, 8, 0, true, 0, ⟨0, (-1), false, #[]⟩, 0, none⟩], 18, none, ⟨26722432, 0⟩, none⟩
def shS2_32 (c1 d1 : Nat) : Sre.M := ⟨sheetCode, (shS2_t c1 d1), 6, 0, 0, false, false, 91, 4, 4, true, #[some 0, some 3, some 0, some 3, some 1, some 2, some 1, some 2, none, none, some 4, none, some 4, none, none, none, none, none, none, none, none, none], 12, 1, #[⟨15, 0, some 1, none⟩, ⟨85, 0, some 4, none⟩], some 1, [⟨.maxMore, 108, 4, true, 0, ⟨10, 1, true, #[some 0, some 3, some 0, some 3, some 1, some 2, some 1, some 2, none, none, some 4]⟩, 1, none⟩, ⟨.closeLoop, 85, 4, true, 0, ⟨(-1), (-1), false, #[]⟩, 1, none⟩, ⟨.giveBack, 78, 4, true, 0, ⟨10, 1, false, #[]⟩, 0, none⟩, ⟨.maxTail, 38, 2, true, 1, ⟨7, 4, false, #[]⟩, 0, none⟩, ⟨.nextBranch, 22, 1, true, 0, ⟨6, (-1), true, #[some 0, none, some 0, none, some 1, none, some 1]⟩, 0, none⟩, ⟨.maxMore, 38, 1, true, 0, ⟨4, (-1), true, #[some 0, none, some 0, none, some 1]⟩, 0, none⟩, ⟨.closeLoop, 15, 1, true, 0, ⟨(-1), (-1), false, #[]⟩, 0, none⟩, ⟨.nextBranch, 8, 0, true, 0, ⟨0, (-1), false, #[]⟩, 0, none⟩], 31, none, ⟨26722432, 0⟩, none⟩
def shS2_33 (c1 d1 : Nat) : Sre.M := ⟨sheetCode, (shS2_t c1 d1), 6, 0, 0, false, false, 105, 5, 5, true, #[some 0, some 3, some 0, some 3, some 1, some 2, some 1, some 2, none, none, some 4, none, some 4, none, none, none, none, none, none, none, none, none], 12, 1, #[⟨15, 0, some 1, none⟩, ⟨85, 0, some 4, none⟩], some 1, [⟨.giveBack, 91, 5, true, 1, ⟨12, 1, true, #[some 0, some 3, some 0, some 3, some 1, some 2, some 1, some 2, none, none, some 4, none, some 4]⟩, 0, none⟩, ⟨.maxMore, 108, 4, true, 0, ⟨10, 1, true, #[some 0, some 3, some 0, some 3, some 1, some 2, some 1, some 2, none, none, some 4]⟩, 1, none⟩, ⟨.closeLoop, 85, 4, true, 0, ⟨(-1), (-1), false, #[]⟩, 1, none⟩, ⟨.giveBack, 78, 4, true, 0, ⟨10, 1, false, #[]⟩, 0, none⟩, ⟨.maxTail, 38, 2, true, 1, ⟨7, 4, false, #[]⟩, 0, none⟩, ⟨.nextBranch, 22, 1, true, 0, ⟨6, (-1), true, #[some 0, none, some 0, none, some 1, none, some 1]⟩, 0, none⟩, ⟨.maxMore, 38, 1, true, 0, ⟨4, (-1), true, #[some 0, none, some 0, none, some 1]⟩, 0, none⟩, ⟨.closeLoop, 15, 1, true, 0, ⟨(-1), (-1), false, #[]⟩, 0, none⟩, ⟨.nextBranch, 8, 0, true, 0, ⟨0, (-1), false, #[]⟩, 0, none⟩], 45, none, ⟨30924929, 0⟩, none⟩
def shS2_35 (c1 d1 : Nat) : Sre.M := ⟨sheetCode, (shS2_t c1 d1), 6, 0, 0, false, false, 108, 5, 5, true, #[some 0, some 3, some 0, some 3, some 1, some 2, some 1, some 2, none, none, some 4, none, some 4, some 5, none, none, none, none, none, none, none, none], 13, 7, #[⟨15, 0, some 1, none⟩, ⟨85, 0, some 4, none⟩], none, [⟨.maxTail, 108, 5, true, 1, ⟨13, 7, false, #[]⟩, 1, none⟩, ⟨.giveBack, 91, 5, true, 1, ⟨12, 1, true, #[some 0, some 3, some 0, some 3, some 1, some 2, some 1, some 2, none, none, some 4, none, some 4]⟩, 0, none⟩, ⟨.maxMore, 108, 4, true, 0, ⟨10, 1, true, #[some 0, some 3, some 0, some 3, some 1, some 2, some 1, some 2, none, none, some 4]⟩, 1, none⟩, ⟨.closeLoop, 85, 4, true, 0, ⟨(-1), (-1), false, #[]⟩, 1, none⟩, ⟨.giveBack, 78, 4, true, 0, ⟨10, 1, false, #[]⟩, 0, none⟩, ⟨.maxTail, 38, 2, true, 1, ⟨7, 4, false, #[]⟩, 0, none⟩, ⟨.nextBranch, 22, 1, true, 0, ⟨6, (-1), true, #[some 0, none, some 0, none, some 1, none, some 1]⟩, 0, none⟩, ⟨.maxMore, 38, 1, true, 0, ⟨4, (-1), true, #[some 0, none, some 0, none, some 1]⟩, 0, none⟩, ⟨.closeLoop, 15, 1, true, 0, ⟨(-1), (-1), false, #[]⟩, 0, none⟩, ⟨.nextBranch, 8, 0, true, 0, ⟨0, (-1), false, #[]⟩, 0, none⟩], 46, none, ⟨30924929, 0⟩, none⟩
def shS2_36 (c1 d1 : Nat) : Sre.M := ⟨sheetCode, (shS2_t c1 d1), 6, 0, 0, false, false, 115, 5, 5, true, #[some 0, some 3, some 0, some 3, some 1, some 2, some 1, some 2, none, none, some 4, none, some 4, some 5, none, none, none, none, none, none, none, none], 13, 7, #[⟨15, 0, some 1, none⟩, ⟨85, 0, some 4, none⟩], none, [⟨.giveBack, 108, 5, true, 0, ⟨13, 7, false, #[]⟩, 0, none⟩, ⟨.maxTail, 108, 5, true, 1, ⟨13, 7, false, #[]⟩, 1, none⟩, ⟨.giveBack, 91, 5, true, 1, ⟨12, 1, true, #[some 0, some 3, some 0, some 3, some 1, some 2, some 1, some 2, none, none, some 4, none, some 4]⟩, 0, none⟩, ⟨.maxMore, 108, 4, true, 0, ⟨10, 1, true, #[some 0, some 3, some 0, some 3, some 1, some 2, some 1, some 2, none, none, some 4]⟩, 1, none⟩, ⟨.closeLoop, 85, 4, true, 0, ⟨(-1), (-1), false, #[]⟩, 1, none⟩, ⟨.giveBack, 78, 4, true, 0, ⟨10, 1, false, #[]⟩, 0, none⟩, ⟨.maxTail, 38, 2, true, 1, ⟨7, 4, false, #[]⟩, 0, none⟩, ⟨.nextBranch, 22, 1, true, 0, ⟨6, (-1), true, #[some 0, none, some 0, none, some 1, none, some 1]⟩, 0, none⟩, ⟨.maxMore, 38, 1, true, 0, ⟨4, (-1), true, #[some 0, none, some 0, none, some 1]⟩, 0, none⟩, ⟨.closeLoop, 15, 1, true, 0, ⟨(-1), (-1), false, #[]⟩, 0, none⟩, ⟨.nextBranch, 8, 0, true, 0, ⟨0, (-1), false, #[]⟩, 0, none⟩], 47, none, ⟨30924929, 0⟩, none⟩
def shS2_39 (c1 d1 : Nat) : Sre.M := ⟨sheetCode, (shS2_t c1 d1), 6, 0, 0, false, false, 121, 5, 5, true, #[some 0, some 3, some 0, some 3, some 1, some 2, some 1, some 2, none, none, some 4, none, some 4, some 5, some 5, none, none, none, none, none, none, none], 14, 7, #[⟨15, 0, some 1, none⟩, ⟨85, 0, some 4, none⟩, ⟨115, 0, some 5, none⟩], some 2, [⟨.maxMore, 134, 5, true, 0, ⟨13, 7, true, #[some 0, some 3, some 0, some 3, some 1, some 2, some 1, some 2, none, none, some 4, none, some 4, some 5]⟩, 2, none⟩, ⟨.closeLoop, 115, 5, true, 0, ⟨(-1), (-1), false, #[]⟩, 2, none⟩, ⟨.giveBack, 108, 5, true, 0, ⟨13, 7, false, #[]⟩, 0, none⟩, ⟨.maxTail, 108, 5, true, 1, ⟨13, 7, false, #[]⟩, 1, none⟩, ⟨.giveBack, 91, 5, true, 1, ⟨12, 1, true, #[some 0, some 3, some 0, some 3, some 1, some 2, some 1, some 2, none, none, some 4, none, some 4]⟩, 0, none⟩, ⟨.maxMore, 108, 4, true, 0, ⟨10, 1, true, #[some 0, some 3, some 0, some 3, some 1, some 2, some 1, some 2, none, none, some 4]⟩, 1, none⟩, ⟨.closeLoop, 85, 4, true, 0, ⟨(-1), (-1), false, #[]⟩, 1, none⟩, ⟨.giveBack, 78, 4, true, 0, ⟨10, 1, false, #[]⟩, 0, none⟩, ⟨.maxTail, 38, 2, true, 1, ⟨7, 4, false, #[]⟩, 0, none⟩, ⟨.nextBranch, 22, 1, true, 0, ⟨6, (-1), true, #[some 0, none, some 0, none, some 1, none, some 1]⟩, 0, none⟩, ⟨.maxMore, 38, 1, true, 0, ⟨4, (-1), true, #[some 0, none, some 0, none, some 1]⟩, 0, none⟩, ⟨.closeLoop, 15, 1, true, 0, ⟨(-1), (-1), false, #[]⟩, 0, none⟩, ⟨.nextBranch, 8, 0, true, 0, ⟨0, (-1), false, #[]⟩, 0, none⟩], 63, none, ⟨30924929, 0⟩, none⟩
def shS2_40 (c1 d1 : Nat) : Sre.M := ⟨sheetCode, (shS2_t c1 d1), 6, 0, 0, false, false, 131, 6, 6, true, #[some 0, some 3, some 0, some 3, some 1, some 2, some 1, some 2, none, none, some 4, none, some 4, some 5, some 5, none, none, none, none, none, none, none], 14, 7, #[⟨15, 0, some 1, none⟩, ⟨85, 0, some 4, none⟩, ⟨115, 0, some 5, none⟩], some 2, [⟨.giveBack, 121, 6, true, 1, ⟨14, 7, true, #[some 0, some 3, some 0, some 3, some 1, some 2, some 1, some 2, none, none, some 4, none, some 4, some 5, some 5]⟩, 0, none⟩, ⟨.maxMore, 134, 5, true, 0, ⟨13, 7, true, #[some 0, some 3, some 0, some 3, some 1, some 2, some 1, some 2, none, none, some 4, none, some 4, some 5]⟩, 2, none⟩, ⟨.closeLoop, 115, 5, true, 0, ⟨(-1), (-1), false, #[]⟩, 2, none⟩, ⟨.giveBack, 108, 5, true, 0, ⟨13, 7, false, #[]⟩, 0, none⟩, ⟨.maxTail, 108, 5, true, 1, ⟨13, 7, false, #[]⟩, 1, none⟩, ⟨.giveBack, 91, 5, true, 1, ⟨12, 1, true, #[some 0, some 3, some 0, some 3, some 1, some 2, some 1, some 2, none, none, some 4, none, some 4]⟩, 0, none⟩, ⟨.maxMore, 108, 4, true, 0, ⟨10, 1, true, #[some 0, some 3, some 0, some 3, some 1, some 2, some 1, some 2, none, none, some 4]⟩, 1, none⟩, ⟨.closeLoop, 85, 4, true, 0, ⟨(-1), (-1), false, #[]⟩, 1, none⟩, ⟨.giveBack, 78, 4, true, 0, ⟨10, 1, false, #[]⟩, 0, none⟩, ⟨.maxTail, 38, 2, true, 1, ⟨7, 4, false, #[]⟩, 0, none⟩, ⟨.nextBranch, 22, 1, true, 0, ⟨6, (-1), true, #[some 0, none, some 0, none, some 1, none, some 1]⟩, 0, none⟩, ⟨.maxMore, 38, 1, true, 0, ⟨4, (-1), true, #[some 0, none, some 0, none, some 1]⟩, 0, none⟩, ⟨.closeLoop, 15, 1, true, 0, ⟨(-1), (-1), false, #[]⟩, 0, none⟩, ⟨.nextBranch, 8, 0, true, 0, ⟨0, (-1), false, #[]⟩, 0, none⟩], 79, none, ⟨30925185, 4194304⟩, none⟩
def shS2_72 (c1 d1 : Nat) : Sre.M := ⟨sheetCode, (shS2_t c1 d1), 6, 0, 0, false, false, 8, 0, 6, true, #[some 0, some 3, some 0, some 3, some 1, some 2, some 1, some 2, none, none, some 4, some 6, some 4, some 5, some 5, some 6, some 6, none, none, none, none, none], 15, 6, #[], none, [], 0, some true, ⟨30925203, 4194304⟩, some .matched⟩
theorem shS2_r28 (c1 d1 : Nat) : (Sre.forMatch sheetCode (shS2_t c1 d1) 11 0 6 false false).runFor 28 = shS2_28 c1 d1 := eqM_eq (by kernel_rfl) (by kernel_rfl) (by kernel_rfl)
theorem shS2_r29 (c1 d1 : Nat) (hc1 : c1 ∈ [65, 66, 67, 68, 69]) : (shS2_28 c1 d1).runFor 1 = shS2_29 c1 d1 := by
  simp only [List.mem_cons, List.not_mem_nil, or_false] at hc1
  rcases hc1 with rfl | rfl | rfl | rfl | rfl <;> exact eqM_eq (by kernel_rfl) (by kernel_rfl) (by kernel_rfl)
theorem shS2_r32 (c1 d1 : Nat) : (shS2_29 c1 d1).runFor 3 = shS2_32 c1 d1 := eqM_eq (by kernel_rfl) (by kernel_rfl) (by kernel_rfl)
theorem shS2_r33 (c1 d1 : Nat) (hc1 : c1 ∈ [65, 66, 67, 68, 69]) (hd1 : d1 ∈ [49, 50, 51, 52, 53]) : (shS2_32 c1 d1).runFor 1 = shS2_33 c1 d1 := by
  simp only [List.mem_cons, List.not_mem_nil, or_false] at hc1
  simp only [List.mem_cons, List.not_mem_nil, or_false] at hd1
  rcases hc1 with rfl | rfl | rfl | rfl | rfl <;> rcases hd1 with rfl | rfl | rfl | rfl | rfl <;> exact eqM_eq (by kernel_rfl) (by kernel_rfl) (by kernel_rfl)
theorem shS2_r35 (c1 d1 : Nat) : (shS2_33 c1 d1).runFor 2 = shS2_35 c1 d1 := eqM_eq (by kernel_rfl) (by kernel_rfl) (by kernel_rfl)
theorem shS2_r36 (c1 d1 : Nat) (hd1 : d1 ∈ [49, 50, 51, 52, 53]) : (shS2_35 c1 d1).runFor 1 = shS2_36 c1 d1 := by
  simp only [List.mem_cons, List.not_mem_nil, or_false] at hd1
  rcases hd1 with rfl | rfl | rfl | rfl | rfl <;> exact eqM_eq (by kernel_rfl) (by kernel_rfl) (by kernel_rfl)
theorem shS2_r39 (c1 d1 : Nat) : (shS2_36 c1 d1).runFor 3 = shS2_39 c1 d1 := eqM_eq (by kernel_rfl) (by kernel_rfl) (by kernel_rfl)
theorem shS2_r40 (c1 d1 : Nat) (hd1 : d1 ∈ [49, 50, 51, 52, 53]) : (shS2_39 c1 d1).runFor 1 = shS2_40 c1 d1 := by
  simp only [List.mem_cons, List.not_mem_nil, or_false] at hd1
  rcases hd1 with rfl | rfl | rfl | rfl | rfl <;> exact eqM_eq (by kernel_rfl) (by kernel_rfl) (by kernel_rfl)
theorem shS2_r72 (c1 d1 : Nat) : (shS2_40 c1 d1).runFor 32 = shS2_72 c1 d1 := eqM_eq (by kernel_rfl) (by kernel_rfl) (by kernel_rfl)
theorem shS2_run (c1 d1 : Nat) (hc1 : c1 ∈ [65, 66, 67, 68, 69]) (hd1 : d1 ∈ [49, 50, 51, 52, 53]) : (Sre.forMatch sheetCode (shS2_t c1 d1) 11 0 6 false false).runFor 72 = shS2_72 c1 d1 := by
  rw [show (72 : Nat) = 28 + 44 from rfl, runFor_add, shS2_r28 c1 d1 ]
  rw [show (44 : Nat) = 1 + 43 from rfl, runFor_add, shS2_r29 c1 d1 hc1]
  rw [show (43 : Nat) = 3 + 40 from rfl, runFor_add, shS2_r32 c1 d1 ]
  rw [show (40 : Nat) = 1 + 39 from rfl, runFor_add, shS2_r33 c1 d1 hc1 hd1]
  rw [show (39 : Nat) = 2 + 37 from rfl, runFor_add, shS2_r35 c1 d1 ]
  rw [show (37 : Nat) = 1 + 36 from rfl, runFor_add, shS2_r36 c1 d1 hd1]
  rw [show (36 : Nat) = 3 + 33 from rfl, runFor_add, shS2_r39 c1 d1 ]
  rw [show (33 : Nat) = 1 + 32 from rfl, runFor_add, shS2_r40 c1 d1 hd1]
  rw [show (32 : Nat) = 32 + 0 from rfl, runFor_add, shS2_r72 c1 d1 ]
  rfl
def sha5_t (c1 d1 c2 d2 : Nat) : Array Nat := #[39, 97, 32, 98, 39, 33, c1, d1, 58, c2, d2]
def sha5_0 (c1 d1 c2 d2 : Nat) : Sre.M := ⟨sheetCode, (sha5_t c1 d1 c2 d2), 11, 0, 0, false, false, 5, 0, 0, true, #[none, none, none, none, none, none, none, none, none, none, none, none, none, none, none, none, none, none, none, none, none, none], (-1), (-1), #[], none, [], 0, none, ⟨16384, 0⟩, none⟩
def sha5_40 (c1 d1 c2 d2 : Nat) : Sre.M := ⟨sheetCode, (sha5_t c1 d1 c2 d2), 11, 0, 0, false, false, 78, 6, 4, true, #[some 0, some 5, some 0, some 5, some 1, some 4, some 3, some 4, none, none, some 6, none, none, none, none, none, none, none, none, none, none, none], 10, 1, #[⟨15, 2, some 3, none⟩], none, [⟨.maxTail, 38, 4, true, 3, ⟨7, 4, false, #[]⟩, 0, none⟩, ⟨.nextBranch, 22, 3, true, 0, ⟨7, 4, true, #[some 0, none, some 0, none, some 1, none, some 3, some 3]⟩, 0, none⟩, ⟨.maxMore, 38, 3, true, 2, ⟨7, 4, true, #[some 0, none, some 0, none, some 1, none, some 2, some 3]⟩, 0, some 2⟩, ⟨.nextBranch, 22, 2, true, 0, ⟨7, 4, true, #[some 0, none, some 0, none, some 1, none, some 2, some 2]⟩, 0, none⟩, ⟨.maxMore, 38, 2, true, 1, ⟨7, 4, true, #[some 0, none, some 0, none, some 1, none, some 1, some 2]⟩, 0, some 1⟩, ⟨.nextBranch, 22, 1, true, 0, ⟨6, (-1), true, #[some 0, none, some 0, none, some 1, none, some 1]⟩, 0, none⟩, ⟨.maxMore, 38, 1, true, 0, ⟨4, (-1), true, #[some 0, none, some 0, none, some 1]⟩, 0, none⟩, ⟨.closeLoop, 15, 1, true, 0, ⟨(-1), (-1), false, #[]⟩, 0, none⟩, ⟨.nextBranch, 8, 0, true, 0, ⟨0, (-1), false, #[]⟩, 0, none⟩], 53, none, ⟨9945216, 0⟩, none⟩
def sha5_41 (c1 d1 c2 d2 : Nat) : Sre.M := ⟨sheetCode, (sha5_t c1 d1 c2 d2), 11, 0, 0, false, false, 85, 6, 6, true, #[some 0, some 5, some 0, some 5, some 1, some 4, some 3, some 4, none, none, some 6, none, none, none, none, none, none, none, none, none, none, none], 10, 1, #[⟨15, 2, some 3, none⟩], none, [⟨.giveBack, 78, 6, true, 0, ⟨10, 1, false, #[]⟩, 0, none⟩, ⟨.maxTail, 38, 4, true, 3, ⟨7, 4, false, #[]⟩, 0, none⟩, ⟨.nextBranch, 22, 3, true, 0, ⟨7, 4, true, #[some 0, none, some 0, none, some 1, none, some 3, some 3]⟩, 0, none⟩, ⟨.maxMore, 38, 3, true, 2, ⟨7, 4, true, #[some 0, none, some 0, none, some 1, none, some 2, some 3]⟩, 0, some 2⟩, ⟨.nextBranch, 22, 2, true, 0, ⟨7, 4, true, #[some 0, none, some 0, none, some 1, none, some 2, some 2]⟩, 0, none⟩, ⟨.maxMore, 38, 2, true, 1, ⟨7, 4, true, #[some 0, none, some 0, none, some 1, none, some 1, some 2]⟩, 0, some 1⟩, ⟨.nextBranch, 22, 1, true, 0, ⟨6, (-1), true, #[some 0, none, some 0, none, some 1, none, some 1]⟩, 0, none⟩, ⟨.maxMore, 38, 1, true, 0, ⟨4, (-1), true, #[some 0, none, some 0, none, some 1]⟩, 0, none⟩, ⟨.closeLoop, 15, 1, true, 0, ⟨(-1), (-1), false, #[]⟩, 0, none⟩, ⟨.nextBranch, 8, 0, true, 0, ⟨0, (-1), false, #[]⟩, 0, none⟩], 54, none, ⟨26722432, 0⟩, none⟩
def sha5_44 (c1 d1 c2 d2 : Nat) : Sre.M := ⟨sheetCode, (sha5_t c1 d1 c2 d2), 11, 0, 0, false, false, 91, 6, 6, true, #[some 0, some 5, some 0, some 5, some 1, some 4, some 3, some 4, none, none, some 6, none, some 6, none, none, none, none, none, none, none, none, none], 12, 1, #[⟨15, 2, some 3, none⟩, ⟨85, 0, some 6, none⟩], some 1, [⟨.maxMore, 108, 6, true, 0, ⟨10, 1, true, #[some 0, some 5, some 0, some 5, some 1, some 4, some 3, some 4, none, none, some 6]⟩, 1, none⟩, ⟨.closeLoop, 85, 6, true, 0, ⟨(-1), (-1), false, #[]⟩, 1, none⟩, ⟨.giveBack, 78, 6, true, 0, ⟨10, 1, false, #[]⟩, 0, none⟩, ⟨.maxTail, 38, 4, true, 3, ⟨7, 4, false, #[]⟩, 0, none⟩, ⟨.nextBranch, 22, 3, true, 0, ⟨7, 4, true, #[some 0, none, some 0, none, some 1, none, some 3, some 3]⟩, 0, none⟩, ⟨.maxMore, 38, 3, true, 2, ⟨7, 4, true, #[some 0, none, some 0, none, some 1, none, some 2, some 3]⟩, 0, some 2⟩, ⟨.nextBranch, 22, 2, true, 0, ⟨7, 4, true, #[some 0, none, some 0, none, some 1, none, some 2, some 2]⟩, 0, none⟩, ⟨.maxMore, 38, 2, true, 1, ⟨7, 4, true, #[some 0, none, some 0, none, some 1, none, some 1, some 2]⟩, 0, some 1⟩, ⟨.nextBranch, 22, 1, true, 0, ⟨6, (-1), true, #[some 0, none, some 0, none, some 1, none, some 1]⟩, 0, none⟩, ⟨.maxMore, 38, 1, true, 0, ⟨4, (-1), true, #[some 0, none, some 0, none, some 1]⟩, 0, none⟩, ⟨.closeLoop, 15, 1, true, 0, ⟨(-1), (-1), false, #[]⟩, 0, none⟩, ⟨.nextBranch, 8, 0, true, 0, ⟨0, (-1), false, #[]⟩, 0, none⟩], 67, none, ⟨26722432, 0⟩, none⟩
def sha5_45 (c1 d1 c2 d2 : Nat) : Sre.M := ⟨sheetCode, (sha5_t c1 d1 c2 d2), 11, 0, 0, false, false, 105, 7, 7, true, #[some 0, some 5, some 0, some 5, some 1, some 4, some 3, some 4, none, none, some 6, none, some 6, none, none, none, none, none, none, none, none, none], 12, 1, #[⟨15, 2, some 3, none⟩, ⟨85, 0, some 6, none⟩], some 1, [⟨.giveBack, 91, 7, true, 1, ⟨12, 1, true, #[some 0, some 5, some 0, some 5, some 1, some 4, some 3, some 4, none, none, some 6, none, some 6]⟩, 0, none⟩, ⟨.maxMore, 108, 6, true, 0, ⟨10, 1, true, #[some 0, some 5, some 0, some 5, some 1, some 4, some 3, some 4, none, none, some 6]⟩, 1, none⟩, ⟨.closeLoop, 85, 6, true, 0, ⟨(-1), (-1), false, #[]⟩, 1, none⟩, ⟨.giveBack, 78, 6, true, 0, ⟨10, 1, false, #[]⟩, 0, none⟩, ⟨.maxTail, 38, 4, true, 3, ⟨7, 4, false, #[]⟩, 0, none⟩, ⟨.nextBranch, 22, 3, true, 0, ⟨7, 4, true, #[some 0, none, some 0, none, some 1, none, some 3, some 3]⟩, 0, none⟩, ⟨.maxMore, 38, 3, true, 2, ⟨7, 4, true, #[some 0, none, some 0, none, some 1, none, some 2, some 3]⟩, 0, some 2⟩, ⟨.nextBranch, 22, 2, true, 0, ⟨7, 4, true, #[some 0, none, some 0, none, some 1, none, some 2, some 2]⟩, 0, none⟩, ⟨.maxMore, 38, 2, true, 1, ⟨7, 4, true, #[some 0, none, some 0, none, some 1, none, some 1, some 2]⟩, 0, some 1⟩, ⟨.nextBranch, 22, 1, true, 0, ⟨6, (-1), true, #[some 0, none, some 0, none, some 1, none, some 1]⟩, 0, none⟩, ⟨.maxMore, 38, 1, true, 0, ⟨4, (-1), true, #[some 0, none, some 0, none, some 1]⟩, 0, none⟩, ⟨.closeLoop, 15, 1, true, 0, ⟨(-1), (-1), false, #[]⟩, 0, none⟩, ⟨.nextBranch, 8, 0, true, 0, ⟨0, (-1), false, #[]⟩, 0, none⟩], 81, none, ⟨30924929, 0⟩, none⟩
def sha5_47 (c1 d1 c2 d2 : Nat) : Sre.M := ⟨sheetCode, (sha5_t c1 d1 c2 d2), 11, 0, 0, false, false, 108, 7, 7, true, #[some 0, some 5, some 0, some 5, some 1, some 4, some 3, some 4, none, none, some 6, none, some 6, some 7, none, none, none, none, none, none, none, none], 13, 7, #[⟨15, 2, some 3, none⟩, ⟨85, 0, some 6, none⟩], none, [⟨.maxTail, 108, 7, true, 1, ⟨13, 7, false, #[]⟩, 1, none⟩, ⟨.giveBack, 91, 7, true, 1, ⟨12, 1, true, #[some 0, some 5, some 0, some 5, some 1, some 4, some 3, some 4, none, none, some 6, none, some 6]⟩, 0, none⟩, ⟨.maxMore, 108, 6, true, 0, ⟨10, 1, true, #[some 0, some 5, some 0, some 5, some 1, some 4, some 3, some 4, none, none, some 6]⟩, 1, none⟩, ⟨.closeLoop, 85, 6, true, 0, ⟨(-1), (-1), false, #[]⟩, 1, none⟩, ⟨.giveBack, 78, 6, true, 0, ⟨10, 1, false, #[]⟩, 0, none⟩, ⟨.maxTail, 38, 4, true, 3, ⟨7, 4, false, #[]⟩, 0, none⟩, ⟨.nextBranch, 22, 3, true, 0, ⟨7, 4, true, #[some 0, none, some 0, none, some 1, none, some 3, some 3]⟩, 0, none⟩, ⟨.maxMore, 38, 3, true, 2, ⟨7, 4, true, #[some 0, none, some 0, none, some 1, none, some 2, some 3]⟩, 0, some 2⟩, ⟨.nextBranch, 22, 2, true, 0, ⟨7, 4, true, #[some 0, none, some 0, none, some 1, none, some 2, some 2]⟩, 0, none⟩, ⟨.maxMore, 38, 2, true, 1, ⟨7, 4, true, #[some 0, none, some 0, none, some 1, none, some 1, some 2]⟩, 0, some 1⟩, ⟨.nextBranch, 22, 1, true, 0, ⟨6, (-1), true, #[some 0, none, some 0, none, some 1, none, some 1]⟩, 0, none⟩, ⟨.maxMore, 38, 1, true, 0, ⟨4, (-1), true, #[some 0, none, some 0, none, some 1]⟩, 0, none⟩, ⟨.closeLoop, 15, 1, true, 0, ⟨(-1), (-1), false, #[]⟩, 0, none⟩, ⟨.nextBranch, 8, 0, true, 0, ⟨0, (-1), false, #[]⟩, 0, none⟩], 82, none, ⟨30924929, 0⟩, none⟩
def sha5_48 (c1 d1 c2 d2 : Nat) : Sre.M := ⟨sheetCode, (sha5_t c1 d1 c2 d2), 11, 0, 0, false, false, 115, 7, 7, true, #[some 0, some 5, some 0, some 5, some 1, some 4, some 3, some 4, none, none, some 6, none, some 6, some 7, none, none, none, none, none, none, none, none], 13, 7, #[⟨15, 2, some 3, none⟩, ⟨85, 0, some 6, none⟩], none, [⟨.giveBack, 108, 7, true, 0, ⟨13, 7, false, #[]⟩, 0, none⟩, ⟨.maxTail, 108, 7, true, 1, ⟨13, 7, false, #[]⟩, 1, none⟩, ⟨.giveBack, 91, 7, true, 1, ⟨12, 1, true, #[some 0, some 5, some 0, some 5, some 1, some 4, some 3, some 4, none, none, some 6, none, some 6]⟩, 0, none⟩, ⟨.maxMore, 108, 6, true, 0, ⟨10, 1, true, #[some 0, some 5, some 0, some 5, some 1, some 4, some 3, some 4, none, none, some 6]⟩, 1, none⟩, ⟨.closeLoop, 85, 6, true, 0, ⟨(-1), (-1), false, #[]⟩, 1, none⟩, ⟨.giveBack, 78, 6, true, 0, ⟨10, 1, false, #[]⟩, 0, none⟩, ⟨.maxTail, 38, 4, true, 3, ⟨7, 4, false, #[]⟩, 0, none⟩, ⟨.nextBranch, 22, 3, true, 0, ⟨7, 4, true, #[some 0, none, some 0, none, some 1, none, some 3, some 3]⟩, 0, none⟩, ⟨.maxMore, 38, 3, true, 2, ⟨7, 4, true, #[some 0, none, some 0, none, some 1, none, some 2, some 3]⟩, 0, some 2⟩, ⟨.nextBranch, 22, 2, true, 0, ⟨7, 4, true, #[some 0, none, some 0, none, some 1, none, some 2, some 2]⟩, 0, none⟩, ⟨.maxMore, 38, 2, true, 1, ⟨7, 4, true, #[some 0, none, some 0, none, some 1, none, some 1, some 2]⟩, 0, some 1⟩, ⟨.nextBranch, 22, 1, true, 0, ⟨6, (-1), true, #[some 0, none, some 0, none, some 1, none, some 1]⟩, 0, none⟩, ⟨.maxMore, 38, 1, true, 0, ⟨4, (-1), true, #[some 0, none, some 0, none, some 1]⟩, 0, none⟩, ⟨.closeLoop, 15, 1, true, 0, ⟨(-1), (-1), false, #[]⟩, 0, none⟩, ⟨.nextBranch, 8, 0, true, 0, ⟨0, (-1), false, #[]⟩, 0, none⟩], 83, none, ⟨30924929, 0⟩, none⟩
def sha5_51 (c1 d1 c2 d2 : Nat) : Sre.M := ⟨sheetCode, (sha5_t c1 d1 c2 d2), 11, 0, 0, false, false, 121, 7, 7, true, #[some 0, some 5, some 0, some 5, some 1, some 4, some 3, some 4, none, none, some 6, none, some 6, some 7, some 7, none, none, none, none, none, none, none], 14, 7, #[⟨15, 2, some 3, none⟩, ⟨85, 0, some 6, none⟩, ⟨115, 0, some 7, none⟩], some 2, [⟨.maxMore, 134, 7, true, 0, ⟨13, 7, true, #[some 0, some 5, some 0, some 5, some 1, some 4, some 3, some 4, none, none, some 6, none, some 6, some 7]⟩, 2, none⟩, ⟨.closeLoop, 115, 7, true, 0, ⟨(-1), (-1), false, #[]⟩, 2, none⟩, ⟨.giveBack, 108, 7, true, 0, ⟨13, 7, false, #[]⟩, 0, none⟩, ⟨.maxTail, 108, 7, true, 1, ⟨13, 7, false, #[]⟩, 1, none⟩, ⟨.giveBack, 91, 7, true, 1, ⟨12, 1, true, #[some 0, some 5, some 0, some 5, some 1, some 4, some 3, some 4, none, none, some 6, none, some 6]⟩, 0, none⟩, ⟨.maxMore, 108, 6, true, 0, ⟨10, 1, true, #[some 0, some 5, some 0, some 5, some 1, some 4, some 3, some 4, none, none, some 6]⟩, 1, none⟩, ⟨.closeLoop, 85, 6, true, 0, ⟨(-1), (-1), false, #[]⟩, 1, none⟩, ⟨.giveBack, 78, 6, true, 0, ⟨10, 1, false, #[]⟩, 0, none⟩, ⟨.maxTail, 38, 4, true, 3, ⟨7, 4, false, #[]⟩, 0, none⟩, ⟨.nextBranch, 22, 3, true, 0, ⟨7, 4, true, #[some 0, none, some 0, none, some 1, none, some 3, some 3]⟩, 0, none⟩, ⟨.maxMore, 38, 3, true, 2, ⟨7, 4, true, #[some 0, none, some 0, none, some 1, none, some 2, some 3]⟩, 0, some 2⟩, ⟨.nextBranch, 22, 2, true, 0, ⟨7, 4, true, #[some 0, none, some 0, none, some 1, none, some 2, some 2]⟩, 0, none⟩, ⟨.maxMore, 38, 2, true, 1, ⟨7, 4, true, #[some 0, none, some 0, none, some 1, none, some 1, some 2]⟩, 0, some 1⟩, ⟨.nextBranch, 22, 1, true, 0, ⟨6, (-1), true, #[some 0, none, some 0, none, some 1, none, some 1]⟩, 0, none⟩, ⟨.maxMore, 38, 1, true, 0, ⟨4, (-1), true, #[some 0, none, some 0, none, some 1]⟩, 0, none⟩, ⟨.closeLoop, 15, 1, true, 0, ⟨(-1), (-1), false, #[]⟩, 0, none⟩, ⟨.nextBranch, 8, 0, true, 0, ⟨0, (-1), false, #[]⟩, 0, none⟩], 99, none, ⟨30924929, 0⟩, none⟩
def sha5_52 (c1 d1 c2 d2 : Nat) : Sre.M := ⟨sheetCode, (sha5_t c1 d1 c2 d2), 11, 0, 0, false, false, 131, 8, 8, true, #[some 0, some 5, some 0, some 5, some 1, some 4, some 3, some 4, none, none, some 6, none, some 6, some 7, some 7, none, none, none, none, none, none, none], 14, 7, #[⟨15, 2, some 3, none⟩, ⟨85, 0, some 6, none⟩, ⟨115, 0, some 7, none⟩], some 2, [⟨.giveBack, 121, 8, true, 1, ⟨14, 7, true, #[some 0, some 5, some 0, some 5, some 1, some 4, some 3, some 4, none, none, some 6, none, some 6, some 7, some 7]⟩, 0, none⟩, ⟨.maxMore, 134, 7, true, 0, ⟨13, 7, true, #[some 0, some 5, some 0, some 5, some 1, some 4, some 3, some 4, none, none, some 6, none, some 6, some 7]⟩, 2, none⟩, ⟨.closeLoop, 115, 7, true, 0, ⟨(-1), (-1), false, #[]⟩, 2, none⟩, ⟨.giveBack, 108, 7, true, 0, ⟨13, 7, false, #[]⟩, 0, none⟩, ⟨.maxTail, 108, 7, true, 1, ⟨13, 7, false, #[]⟩, 1, none⟩, ⟨.giveBack, 91, 7, true, 1, ⟨12, 1, true, #[some 0, some 5, some 0, some 5, some 1, some 4, some 3, some 4, none, none, some 6, none, some 6]⟩, 0, none⟩, ⟨.maxMore, 108, 6, true, 0, ⟨10, 1, true, #[some 0, some 5, some 0, some 5, some 1, some 4, some 3, some 4, none, none, some 6]⟩, 1, none⟩, ⟨.closeLoop, 85, 6, true, 0, ⟨(-1), (-1), false, #[]⟩, 1, none⟩, ⟨.giveBack, 78, 6, true, 0, ⟨10, 1, false, #[]⟩, 0, none⟩, ⟨.maxTail, 38, 4, true, 3, ⟨7, 4, false, #[]⟩, 0, none⟩, ⟨.nextBranch, 22, 3, true, 0, ⟨7, 4, true, #[some 0, none, some 0, none, some 1, none, some 3, some 3]⟩, 0, none⟩, ⟨.maxMore, 38, 3, true, 2, ⟨7, 4, true, #[some 0, none, some 0, none, some 1, none, some 2, some 3]⟩, 0, some 2⟩, ⟨.nextBranch, 22, 2, true, 0, ⟨7, 4, true, #[some 0, none, some 0, none, some 1, none, some 2, some 2]⟩, 0, none⟩, ⟨.maxMore, 38, 2, true, 1, ⟨7, 4, true, #[some 0, none, some 0, none, some 1, none, some 1, some 2]⟩, 0, some 1⟩, ⟨.nextBranch, 22, 1, true, 0, ⟨6, (-1), true, #[some 0, none, some 0, none, some 1, none, some 1]⟩, 0, none⟩, ⟨.maxMore, 38, 1, true, 0, ⟨4, (-1), true, #[some 0, none, some 0, none, some 1]⟩, 0, none⟩, ⟨.closeLoop, 15, 1, true, 0, ⟨(-1), (-1), false, #[]⟩, 0, none⟩, ⟨.nextBranch, 8, 0, true, 0, ⟨0, (-1), false, #[]⟩, 0, none⟩], 115, none, ⟨30925185, 4194304⟩, none⟩
def sha5_58 (c1 d1 c2 d2 : Nat) : Sre.M := ⟨sheetCode, (sha5_t c1 d1 c2 d2), 11, 0, 0, false, false, 142, 9, 8, true, #[some 0, some 5, some 0, some 5, some 1, some 4, some 3, some 4, none, none, some 6, none, some 6, some 7, some 7, some 8, some 8, none, none, none, none, none], 16, 8, #[⟨15, 2, some 3, none⟩, ⟨85, 0, some 6, none⟩, ⟨115, 0, some 7, none⟩, ⟨134, 0, some 8, none⟩], some 3, [⟨.maxMore, 201, 8, true, 0, ⟨15, 8, true, #[some 0, some 5, some 0, some 5, some 1, some 4, some 3, some 4, none, none, some 6, none, some 6, some 7, some 7, some 8]⟩, 3, none⟩, ⟨.closeLoop, 134, 8, true, 0, ⟨(-1), (-1), false, #[]⟩, 3, none⟩, ⟨.maxTail, 134, 8, true, 1, ⟨15, 8, false, #[]⟩, 2, none⟩, ⟨.giveBack, 121, 8, true, 1, ⟨14, 7, true, #[some 0, some 5, some 0, some 5, some 1, some 4, some 3, some 4, none, none, some 6, none, some 6, some 7, some 7]⟩, 0, none⟩, ⟨.maxMore, 134, 7, true, 0, ⟨13, 7, true, #[some 0, some 5, some 0, some 5, some 1, some 4, some 3, some 4, none, none, some 6, none, some 6, some 7]⟩, 2, none⟩, ⟨.closeLoop, 115, 7, true, 0, ⟨(-1), (-1), false, #[]⟩, 2, none⟩, ⟨.giveBack, 108, 7, true, 0, ⟨13, 7, false, #[]⟩, 0, none⟩, ⟨.maxTail, 108, 7, true, 1, ⟨13, 7, false, #[]⟩, 1, none⟩, ⟨.giveBack, 91, 7, true, 1, ⟨12, 1, true, #[some 0, some 5, some 0, some 5, some 1, some 4, some 3, some 4, none, none, some 6, none, some 6]⟩, 0, none⟩, ⟨.maxMore, 108, 6, true, 0, ⟨10, 1, true, #[some 0, some 5, some 0, some 5, some 1, some 4, some 3, some 4, none, none, some 6]⟩, 1, none⟩, ⟨.closeLoop, 85, 6, true, 0, ⟨(-1), (-1), false, #[]⟩, 1, none⟩, ⟨.giveBack, 78, 6, true, 0, ⟨10, 1, false, #[]⟩, 0, none⟩, ⟨.maxTail, 38, 4, true, 3, ⟨7, 4, false, #[]⟩, 0, none⟩, ⟨.nextBranch, 22, 3, true, 0, ⟨7, 4, true, #[some 0, none, some 0, none, some 1, none, some 3, some 3]⟩, 0, none⟩, ⟨.maxMore, 38, 3, true, 2, ⟨7, 4, true, #[some 0, none, some 0, none, some 1, none, some 2, some 3]⟩, 0, some 2⟩, ⟨.nextBranch, 22, 2, true, 0, ⟨7, 4, true, #[some 0, none, some 0, none, some 1, none, some 2, some 2]⟩, 0, none⟩, ⟨.maxMore, 38, 2, true, 1, ⟨7, 4, true, #[some 0, none, some 0, none, some 1, none, some 1, some 2]⟩, 0, some 1⟩, ⟨.nextBranch, 22, 1, true, 0, ⟨6, (-1), true, #[some 0, none, some 0, none, some 1, none, some 1]⟩, 0, none⟩, ⟨.maxMore, 38, 1, true, 0, ⟨4, (-1), true, #[some 0, none, some 0, none, some 1]⟩, 0, none⟩, ⟨.closeLoop, 15, 1, true, 0, ⟨(-1), (-1), false, #[]⟩, 0, none⟩, ⟨.nextBranch, 8, 0, true, 0, ⟨0, (-1), false, #[]⟩, 0, none⟩], 134, none, ⟨30925185, 4194304⟩, none⟩
def sha5_59 (c1 d1 c2 d2 : Nat) : Sre.M := ⟨sheetCode, (sha5_t c1 d1 c2 d2), 11, 0, 0, false, false, 149, 9, 9, true, #[some 0, some 5, some 0, some 5, some 1, some 4, some 3, some 4, none, none, some 6, none, some 6, some 7, some 7, some 8, some 8, none, none, none, none, none], 16, 8, #[⟨15, 2, some 3, none⟩, ⟨85, 0, some 6, none⟩, ⟨115, 0, some 7, none⟩, ⟨134, 0, some 8, none⟩], some 3, [⟨.giveBack, 142, 9, true, 0, ⟨16, 8, true, #[some 0, some 5, some 0, some 5, some 1, some 4, some 3, some 4, none, none, some 6, none, some 6, some 7, some 7, some 8, some 8]⟩, 0, none⟩, ⟨.maxMore, 201, 8, true, 0, ⟨15, 8, true, #[some 0, some 5, some 0, some 5, some 1, some 4, some 3, some 4, none, none, some 6, none, some 6, some 7, some 7, some 8]⟩, 3, none⟩, ⟨.closeLoop, 134, 8, true, 0, ⟨(-1), (-1), false, #[]⟩, 3, none⟩, ⟨.maxTail, 134, 8, true, 1, ⟨15, 8, false, #[]⟩, 2, none⟩, ⟨.giveBack, 121, 8, true, 1, ⟨14, 7, true, #[some 0, some 5, some 0, some 5, some 1, some 4, some 3, some 4, none, none, some 6, none, some 6, some 7, some 7]⟩, 0, none⟩, ⟨.maxMore, 134, 7, true, 0, ⟨13, 7, true, #[some 0, some 5, some 0, some 5, some 1, some 4, some 3, some 4, none, none, some 6, none, some 6, some 7]⟩, 2, none⟩, ⟨.closeLoop, 115, 7, true, 0, ⟨(-1), (-1), false, #[]⟩, 2, none⟩, ⟨.giveBack, 108, 7, true, 0, ⟨13, 7, false, #[]⟩, 0, none⟩, ⟨.maxTail, 108, 7, true, 1, ⟨13, 7, false, #[]⟩, 1, none⟩, ⟨.giveBack, 91, 7, true, 1, ⟨12, 1, true, #[some 0, some 5, some 0, some 5, some 1, some 4, some 3, some 4, none, none, some 6, none, some 6]⟩, 0, none⟩, ⟨.maxMore, 108, 6, true, 0, ⟨10, 1, true, #[some 0, some 5, some 0, some 5, some 1, some 4, some 3, some 4, none, none, some 6]⟩, 1, none⟩, ⟨.closeLoop, 85, 6, true, 0, ⟨(-1), (-1), false, #[]⟩, 1, none⟩, ⟨.giveBack, 78, 6, true, 0, ⟨10, 1, false, #[]⟩, 0, none⟩, ⟨.maxTail, 38, 4, true, 3, ⟨7, 4, false, #[]⟩, 0, none⟩, ⟨.nextBranch, 22, 3, true, 0, ⟨7, 4, true, #[some 0, none, some 0, none, some 1, none, some 3, some 3]⟩, 0, none⟩, ⟨.maxMore, 38, 3, true, 2, ⟨7, 4, true, #[some 0, none, some 0, none, some 1, none, some 2, some 3]⟩, 0, some 2⟩, ⟨.nextBranch, 22, 2, true, 0, ⟨7, 4, true, #[some 0, none, some 0, none, some 1, none, some 2, some 2]⟩, 0, none⟩, ⟨.maxMore, 38, 2, true, 1, ⟨7, 4, true, #[some 0, none, some 0, none, some 1, none, some 1, some 2]⟩, 0, some 1⟩, ⟨.nextBranch, 22, 1, true, 0, ⟨6, (-1), true, #[some 0, none, some 0, none, some 1, none, some 1]⟩, 0, none⟩, ⟨.maxMore, 38, 1, true, 0, ⟨4, (-1), true, #[some 0, none, some 0, none, some 1]⟩, 0, none⟩, ⟨.closeLoop, 15, 1, true, 0, ⟨(-1), (-1), false, #[]⟩, 0, none⟩, ⟨.nextBranch, 8, 0, true, 0, ⟨0, (-1), false, #[]⟩, 0, none⟩], 152, none, ⟨30925185, 4194304⟩, none⟩
def sha5_62 (c1 d1 c2 d2 : Nat) : Sre.M := ⟨sheetCode, (sha5_t c1 d1 c2 d2), 11, 0, 0, false, false, 155, 9, 9, true, #[some 0, some 5, some 0, some 5, some 1, some 4, some 3, some 4, none, none, some 6, none, some 6, some 7, some 7, some 8, some 8, none, some 9, none, none, none], 18, 8, #[⟨15, 2, some 3, none⟩, ⟨85, 0, some 6, none⟩, ⟨115, 0, some 7, none⟩, ⟨134, 0, some 8, none⟩, ⟨149, 0, some 9, some 3⟩], some 4, [⟨.maxMore, 172, 9, true, 0, ⟨16, 8, true, #[some 0, some 5, some 0, some 5, some 1, some 4, some 3, some 4, none, none, some 6, none, some 6, some 7, some 7, some 8, some 8]⟩, 4, none⟩, ⟨.closeLoop, 149, 9, true, 0, ⟨(-1), (-1), false, #[]⟩, 4, none⟩, ⟨.giveBack, 142, 9, true, 0, ⟨16, 8, true, #[some 0, some 5, some 0, some 5, some 1, some 4, some 3, some 4, none, none, some 6, none, some 6, some 7, some 7, some 8, some 8]⟩, 0, none⟩, ⟨.maxMore, 201, 8, true, 0, ⟨15, 8, true, #[some 0, some 5, some 0, some 5, some 1, some 4, some 3, some 4, none, none, some 6, none, some 6, some 7, some 7, some 8]⟩, 3, none⟩, ⟨.closeLoop, 134, 8, true, 0, ⟨(-1), (-1), false, #[]⟩, 3, none⟩, ⟨.maxTail, 134, 8, true, 1, ⟨15, 8, false, #[]⟩, 2, none⟩, ⟨.giveBack, 121, 8, true, 1, ⟨14, 7, true, #[some 0, some 5, some 0, some 5, some 1, some 4, some 3, some 4, none, none, some 6, none, some 6, some 7, some 7]⟩, 0, none⟩, ⟨.maxMore, 134, 7, true, 0, ⟨13, 7, true, #[some 0, some 5, some 0, some 5, some 1, some 4, some 3, some 4, none, none, some 6, none, some 6, some 7]⟩, 2, none⟩, ⟨.closeLoop, 115, 7, true, 0, ⟨(-1), (-1), false, #[]⟩, 2, none⟩, ⟨.giveBack, 108, 7, true, 0, ⟨13, 7, false, #[]⟩, 0, none⟩, ⟨.maxTail, 108, 7, true, 1, ⟨13, 7, false, #[]⟩, 1, none⟩, ⟨.giveBack, 91, 7, true, 1, ⟨12, 1, true, #[some 0, some 5, some 0, some 5, some 1, some 4, some 3, some 4, none, none, some 6, none, some 6]⟩, 0, none⟩, ⟨.maxMore, 108, 6, true, 0, ⟨10, 1, true, #[some 0, some 5, some 0, some 5, some 1, some 4, some 3, some 4, none, none, some 6]⟩, 1, none⟩, ⟨.closeLoop, 85, 6, true, 0, ⟨(-1), (-1), false, #[]⟩, 1, none⟩, ⟨.giveBack, 78, 6, true, 0, ⟨10, 1, false, #[]⟩, 0, none⟩, ⟨.maxTail, 38, 4, true, 3, ⟨7, 4, false, #[]⟩, 0, none⟩, ⟨.nextBranch, 22, 3, true, 0, ⟨7, 4, true, #[some 0, none, some 0, none, some 1, none, some 3, some 3]⟩, 0, none⟩, ⟨.maxMore, 38, 3, true, 2, ⟨7, 4, true, #[some 0, none, some 0, none, some 1, none, some 2, some 3]⟩, 0, some 2⟩, ⟨.nextBranch, 22, 2, true, 0, ⟨7, 4, true, #[some 0, none, some 0, none, some 1, none, some 2, some 2]⟩, 0, none⟩, ⟨.maxMore, 38, 2, true, 1, ⟨7, 4, true, #[some 0, none, some 0, none, some 1, none, some 1, some 2]⟩, 0, some 1⟩, ⟨.nextBranch, 22, 1, true, 0, ⟨6, (-1), true, #[some 0, none, some 0, none, some 1, none, some 1]⟩, 0, none⟩, ⟨.maxMore, 38, 1, true, 0, ⟨4, (-1), true, #[some 0, none, some 0, none, some 1]⟩, 0, none⟩, ⟨.closeLoop, 15, 1, true, 0, ⟨(-1), (-1), false, #[]⟩, 0, none⟩, ⟨.nextBranch, 8, 0, true, 0, ⟨0, (-1), false, #[]⟩, 0, none⟩], 171, none, ⟨30925185, 4194304⟩, none⟩
def sha5_63 (c1 d1 c2 d2 : Nat) : Sre.M := ⟨sheetCode, (sha5_t c1 d1 c2 d2), 11, 0, 0, false, false, 169, 10, 10, true, #[some 0, some 5, some 0, some 5, some 1, some 4, some 3, some 4, none, none, some 6, none, some 6, some 7, some 7, some 8, some 8, none, some 9, none, none, none], 18, 8, #[⟨15, 2, some 3, none⟩, ⟨85, 0, some 6, none⟩, ⟨115, 0, some 7, none⟩, ⟨134, 0, some 8, none⟩, ⟨149, 0, some 9, some 3⟩], some 4, [⟨.giveBack, 155, 10, true, 1, ⟨18, 8, true, #[some 0, some 5, some 0, some 5, some 1, some 4, some 3, some 4, none, none, some 6, none, some 6, some 7, some 7, some 8, some 8, none, some 9]⟩, 0, none⟩, ⟨.maxMore, 172, 9, true, 0, ⟨16, 8, true, #[some 0, some 5, some 0, some 5, some 1, some 4, some 3, some 4, none, none, some 6, none, some 6, some 7, some 7, some 8, some 8]⟩, 4, none⟩, ⟨.closeLoop, 149, 9, true, 0, ⟨(-1), (-1), false, #[]⟩, 4, none⟩, ⟨.giveBack, 142, 9, true, 0, ⟨16, 8, true, #[some 0, some 5, some 0, some 5, some 1, some 4, some 3, some 4, none, none, some 6, none, some 6, some 7, some 7, some 8, some 8]⟩, 0, none⟩, ⟨.maxMore, 201, 8, true, 0, ⟨15, 8, true, #[some 0, some 5, some 0, some 5, some 1, some 4, some 3, some 4, none, none, some 6, none, some 6, some 7, some 7, some 8]⟩, 3, none⟩, ⟨.closeLoop, 134, 8, true, 0, ⟨(-1), (-1), false, #[]⟩, 3, none⟩, ⟨.maxTail, 134, 8, true, 1, ⟨15, 8, false, #[]⟩, 2, none⟩, ⟨.giveBack, 121, 8, true, 1, ⟨14, 7, true, #[some 0, some 5, some 0, some 5, some 1, some 4, some 3, some 4, none, none, some 6, none, some 6, some 7, some 7]⟩, 0, none⟩, ⟨.maxMore, 134, 7, true, 0, ⟨13, 7, true, #[some 0, some 5, some 0, some 5, some 1, some 4, some 3, some 4, none, none, some 6, none, some 6, some 7]⟩, 2, none⟩, ⟨.closeLoop, 115, 7, true, 0, ⟨(-1), (-1), false, #[]⟩, 2, none⟩, ⟨.giveBack, 108, 7, true, 0, ⟨13, 7, false, #[]⟩, 0, none⟩, ⟨.maxTail, 108, 7, true, 1, ⟨13, 7, false, #[]⟩, 1, none⟩, ⟨.giveBack, 91, 7, true, 1, ⟨12, 1, true, #[some 0, some 5, some 0, some 5, some 1, some 4, some 3, some 4, none, none, some 6, none, some 6]⟩, 0, none⟩, ⟨.maxMore, 108, 6, true, 0, ⟨10, 1, true, #[some 0, some 5, some 0, some 5, some 1, some 4, some 3, some 4, none, none, some 6]⟩, 1, none⟩, ⟨.closeLoop, 85, 6, true, 0, ⟨(-1), (-1), false, #[]⟩, 1, none⟩, ⟨.giveBack, 78, 6, true, 0, ⟨10, 1, false, #[]⟩, 0, none⟩, ⟨.maxTail, 38, 4, true, 3, ⟨7, 4, false, #[]⟩, 0, none⟩, ⟨.nextBranch, 22, 3, true, 0, ⟨7, 4, true, #[some 0, none, some 0, none, some 1, none, some 3, some 3]⟩, 0, none⟩, ⟨.maxMore, 38, 3, true, 2, ⟨7, 4, true, #[some 0, none, some 0, none, some 1, none, some 2, some 3]⟩, 0, some 2⟩, ⟨.nextBranch, 22, 2, true, 0, ⟨7, 4, true, #[some 0, none, some 0, none, some 1, none, some 2, some 2]⟩, 0, none⟩, ⟨.maxMore, 38, 2, true, 1, ⟨7, 4, true, #[some 0, none, some 0, none, some 1, none, some 1, some 2]⟩, 0, some 1⟩, ⟨.nextBranch, 22, 1, true, 0, ⟨6, (-1), true, #[some 0, none, some 0, none, some 1, none, some 1]⟩, 0, none⟩, ⟨.maxMore, 38, 1, true, 0, ⟨4, (-1), true, #[some 0, none, some 0, none, some 1]⟩, 0, none⟩, ⟨.closeLoop, 15, 1, true, 0, ⟨(-1), (-1), false, #[]⟩, 0, none⟩, ⟨.nextBranch, 8, 0, true, 0, ⟨0, (-1), false, #[]⟩, 0, none⟩], 191, none, ⟨30925185, 4194304⟩, none⟩
def sha5_65 (c1 d1 c2 d2 : Nat) : Sre.M := ⟨sheetCode, (sha5_t c1 d1 c2 d2), 11, 0, 0, false, false, 172, 10, 10, true, #[some 0, some 5, some 0, some 5, some 1, some 4, some 3, some 4, none, none, some 6, none, some 6, some 7, some 7, some 8, some 8, none, some 9, some 10, none, none], 19, 10, #[⟨15, 2, some 3, none⟩, ⟨85, 0, some 6, none⟩, ⟨115, 0, some 7, none⟩, ⟨134, 0, some 8, none⟩, ⟨149, 0, some 9, some 3⟩], some 3, [⟨.maxTail, 172, 10, true, 1, ⟨19, 10, false, #[]⟩, 4, none⟩, ⟨.giveBack, 155, 10, true, 1, ⟨18, 8, true, #[some 0, some 5, some 0, some 5, some 1, some 4, some 3, some 4, none, none, some 6, none, some 6, some 7, some 7, some 8, some 8, none, some 9]⟩, 0, none⟩, ⟨.maxMore, 172, 9, true, 0, ⟨16, 8, true, #[some 0, some 5, some 0, some 5, some 1, some 4, some 3, some 4, none, none, some 6, none, some 6, some 7, some 7, some 8, some 8]⟩, 4, none⟩, ⟨.closeLoop, 149, 9, true, 0, ⟨(-1), (-1), false, #[]⟩, 4, none⟩, ⟨.giveBack, 142, 9, true, 0, ⟨16, 8, true, #[some 0, some 5, some 0, some 5, some 1, some 4, some 3, some 4, none, none, some 6, none, some 6, some 7, some 7, some 8, some 8]⟩, 0, none⟩, ⟨.maxMore, 201, 8, true, 0, ⟨15, 8, true, #[some 0, some 5, some 0, some 5, some 1, some 4, some 3, some 4, none, none, some 6, none, some 6, some 7, some 7, some 8]⟩, 3, none⟩, ⟨.closeLoop, 134, 8, true, 0, ⟨(-1), (-1), false, #[]⟩, 3, none⟩, ⟨.maxTail, 134, 8, true, 1, ⟨15, 8, false, #[]⟩, 2, none⟩, ⟨.giveBack, 121, 8, true, 1, ⟨14, 7, true, #[some 0, some 5, some 0, some 5, some 1, some 4, some 3, some 4, none, none, some 6, none, some 6, some 7, some 7]⟩, 0, none⟩, ⟨.maxMore, 134, 7, true, 0, ⟨13, 7, true, #[some 0, some 5, some 0, some 5, some 1, some 4, some 3, some 4, none, none, some 6, none, some 6, some 7]⟩, 2, none⟩, ⟨.closeLoop, 115, 7, true, 0, ⟨(-1), (-1), false, #[]⟩, 2, none⟩, ⟨.giveBack, 108, 7, true, 0, ⟨13, 7, false, #[]⟩, 0, none⟩, ⟨.maxTail, 108, 7, true, 1, ⟨13, 7, false, #[]⟩, 1, none⟩, ⟨.giveBack, 91, 7, true, 1, ⟨12, 1, true, #[some 0, some 5, some 0, some 5, some 1, some 4, some 3, some 4, none, none, some 6, none, some 6]⟩, 0, none⟩, ⟨.maxMore, 108, 6, true, 0, ⟨10, 1, true, #[some 0, some 5, some 0, some 5, some 1, some 4, some 3, some 4, none, none, some 6]⟩, 1, none⟩, ⟨.closeLoop, 85, 6, true, 0, ⟨(-1), (-1), false, #[]⟩, 1, none⟩, ⟨.giveBack, 78, 6, true, 0, ⟨10, 1, false, #[]⟩, 0, none⟩, ⟨.maxTail, 38, 4, true, 3, ⟨7, 4, false, #[]⟩, 0, none⟩, ⟨.nextBranch, 22, 3, true, 0, ⟨7, 4, true, #[some 0, none, some 0, none, some 1, none, some 3, some 3]⟩, 0, none⟩, ⟨.maxMore, 38, 3, true, 2, ⟨7, 4, true, #[some 0, none, some 0, none, some 1, none, some 2, some 3]⟩, 0, some 2⟩, ⟨.nextBranch, 22, 2, true, 0, ⟨7, 4, true, #[some 0, none, some 0, none, some 1, none, some 2, some 2]⟩, 0, none⟩, ⟨.maxMore, 38, 2, true, 1, ⟨7, 4, true, #[some 0, none, some 0, none, some 1, none, some 1, some 2]⟩, 0, some 1⟩, ⟨.nextBranch, 22, 1, true, 0, ⟨6, (-1), true, #[some 0, none, some 0, none, some 1, none, some 1]⟩, 0, none⟩, ⟨.maxMore, 38, 1, true, 0, ⟨4, (-1), true, #[some 0, none, some 0, none, some 1]⟩, 0, none⟩, ⟨.closeLoop, 15, 1, true, 0, ⟨(-1), (-1), false, #[]⟩, 0, none⟩, ⟨.nextBranch, 8, 0, true, 0, ⟨0, (-1), false, #[]⟩, 0, none⟩], 192, none, ⟨30925185, 4194304⟩, none⟩
def sha5_66 (c1 d1 c2 d2 : Nat) : Sre.M := ⟨sheetCode, (sha5_t c1 d1 c2 d2), 11, 0, 0, false, false, 179, 10, 10, true, #[some 0, some 5, some 0, some 5, some 1, some 4, some 3, some 4, none, none, some 6, none, some 6, some 7, some 7, some 8, some 8, none, some 9, some 10, none, none], 19, 10, #[⟨15, 2, some 3, none⟩, ⟨85, 0, some 6, none⟩, ⟨115, 0, some 7, none⟩, ⟨134, 0, some 8, none⟩, ⟨149, 0, some 9, some 3⟩], some 3, [⟨.giveBack, 172, 10, true, 0, ⟨19, 10, true, #[some 0, some 5, some 0, some 5, some 1, some 4, some 3, some 4, none, none, some 6, none, some 6, some 7, some 7, some 8, some 8, none, some 9, some 10]⟩, 0, none⟩, ⟨.maxTail, 172, 10, true, 1, ⟨19, 10, false, #[]⟩, 4, none⟩, ⟨.giveBack, 155, 10, true, 1, ⟨18, 8, true, #[some 0, some 5, some 0, some 5, some 1, some 4, some 3, some 4, none, none, some 6, none, some 6, some 7, some 7, some 8, some 8, none, some 9]⟩, 0, none⟩, ⟨.maxMore, 172, 9, true, 0, ⟨16, 8, true, #[some 0, some 5, some 0, some 5, some 1, some 4, some 3, some 4, none, none, some 6, none, some 6, some 7, some 7, some 8, some 8]⟩, 4, none⟩, ⟨.closeLoop, 149, 9, true, 0, ⟨(-1), (-1), false, #[]⟩, 4, none⟩, ⟨.giveBack, 142, 9, true, 0, ⟨16, 8, true, #[some 0, some 5, some 0, some 5, some 1, some 4, some 3, some 4, none, none, some 6, none, some 6, some 7, some 7, some 8, some 8]⟩, 0, none⟩, ⟨.maxMore, 201, 8, true, 0, ⟨15, 8, true, #[some 0, some 5, some 0, some 5, some 1, some 4, some 3, some 4, none, none, some 6, none, some 6, some 7, some 7, some 8]⟩, 3, none⟩, ⟨.closeLoop, 134, 8, true, 0, ⟨(-1), (-1), false, #[]⟩, 3, none⟩, ⟨.maxTail, 134, 8, true, 1, ⟨15, 8, false, #[]⟩, 2, none⟩, ⟨.giveBack, 121, 8, true, 1, ⟨14, 7, true, #[some 0, some 5, some 0, some 5, some 1, some 4, some 3, some 4, none, none, some 6, none, some 6, some 7, some 7]⟩, 0, none⟩, ⟨.maxMore, 134, 7, true, 0, ⟨13, 7, true, #[some 0, some 5, some 0, some 5, some 1, some 4, some 3, some 4, none, none, some 6, none, some 6, some 7]⟩, 2, none⟩, ⟨.closeLoop, 115, 7, true, 0, ⟨(-1), (-1), false, #[]⟩, 2, none⟩, ⟨.giveBack, 108, 7, true, 0, ⟨13, 7, false, #[]⟩, 0, none⟩, ⟨.maxTail, 108, 7, true, 1, ⟨13, 7, false, #[]⟩, 1, none⟩, ⟨.giveBack, 91, 7, true, 1, ⟨12, 1, true, #[some 0, some 5, some 0, some 5, some 1, some 4, some 3, some 4, none, none, some 6, none, some 6]⟩, 0, none⟩, ⟨.maxMore, 108, 6, true, 0, ⟨10, 1, true, #[some 0, some 5, some 0, some 5, some 1, some 4, some 3, some 4, none, none, some 6]⟩, 1, none⟩, ⟨.closeLoop, 85, 6, true, 0, ⟨(-1), (-1), false, #[]⟩, 1, none⟩, ⟨.giveBack, 78, 6, true, 0, ⟨10, 1, false, #[]⟩, 0, none⟩, ⟨.maxTail, 38, 4, true, 3, ⟨7, 4, false, #[]⟩, 0, none⟩, ⟨.nextBranch, 22, 3, true, 0, ⟨7, 4, true, #[some 0, none, some 0, none, some 1, none, some 3, some 3]⟩, 0, none⟩, ⟨.maxMore, 38, 3, true, 2, ⟨7, 4, true, #[some 0, none, some 0, none, some 1, none, some 2, some 3]⟩, 0, some 2⟩, ⟨.nextBranch, 22, 2, true, 0, ⟨7, 4, true, #[some 0, none, some 0, none, some 1, none, some 2, some 2]⟩, 0, none⟩, ⟨.maxMore, 38, 2, true, 1, ⟨7, 4, true, #[some 0, none, some 0, none, some 1, none, some 1, some 2]⟩, 0, some 1⟩, ⟨.nextBranch, 22, 1, true, 0, ⟨6, (-1), true, #[some 0, none, some 0, none, some 1, none, some 1]⟩, 0, none⟩, ⟨.maxMore, 38, 1, true, 0, ⟨4, (-1), true, #[some 0, none, some 0, none, some 1]⟩, 0, none⟩, ⟨.closeLoop, 15, 1, true, 0, ⟨(-1), (-1), false, #[]⟩, 0, none⟩, ⟨.nextBranch, 8, 0, true, 0, ⟨0, (-1), false, #[]⟩, 0, none⟩], 213, none, ⟨30925185, 4194304⟩, none⟩
def sha5_69 (c1 d1 c2 d2 : Nat) : Sre.M := ⟨sheetCode, (sha5_t c1 d1 c2 d2), 11, 0, 0, false, false, 185, 10, 10, true, #[some 0, some 5, some 0, some 5, some 1, some 4, some 3, some 4, none, none, some 6, none, some 6, some 7, some 7, some 8, some 8, none, some 9, some 10, some 10, none], 20, 10, #[⟨15, 2, some 3, none⟩, ⟨85, 0, some 6, none⟩, ⟨115, 0, some 7, none⟩, ⟨134, 0, some 8, none⟩, ⟨149, 0, some 9, some 3⟩, ⟨179, 0, some 10, some 3⟩], some 5, [⟨.maxMore, 198, 10, true, 0, ⟨19, 10, true, #[some 0, some 5, some 0, some 5, some 1, some 4, some 3, some 4, none, none, some 6, none, some 6, some 7, some 7, some 8, some 8, none, some 9, some 10]⟩, 5, none⟩, ⟨.closeLoop, 179, 10, true, 0, ⟨(-1), (-1), false, #[]⟩, 5, none⟩, ⟨.giveBack, 172, 10, true, 0, ⟨19, 10, true, #[some 0, some 5, some 0, some 5, some 1, some 4, some 3, some 4, none, none, some 6, none, some 6, some 7, some 7, some 8, some 8, none, some 9, some 10]⟩, 0, none⟩, ⟨.maxTail, 172, 10, true, 1, ⟨19, 10, false, #[]⟩, 4, none⟩, ⟨.giveBack, 155, 10, true, 1, ⟨18, 8, true, #[some 0, some 5, some 0, some 5, some 1, some 4, some 3, some 4, none, none, some 6, none, some 6, some 7, some 7, some 8, some 8, none, some 9]⟩, 0, none⟩, ⟨.maxMore, 172, 9, true, 0, ⟨16, 8, true, #[some 0, some 5, some 0, some 5, some 1, some 4, some 3, some 4, none, none, some 6, none, some 6, some 7, some 7, some 8, some 8]⟩, 4, none⟩, ⟨.closeLoop, 149, 9, true, 0, ⟨(-1), (-1), false, #[]⟩, 4, none⟩, ⟨.giveBack, 142, 9, true, 0, ⟨16, 8, true, #[some 0, some 5, some 0, some 5, some 1, some 4, some 3, some 4, none, none, some 6, none, some 6, some 7, some 7, some 8, some 8]⟩, 0, none⟩, ⟨.maxMore, 201, 8, true, 0, ⟨15, 8, true, #[some 0, some 5, some 0, some 5, some 1, some 4, some 3, some 4, none, none, some 6, none, some 6, some 7, some 7, some 8]⟩, 3, none⟩, ⟨.closeLoop, 134, 8, true, 0, ⟨(-1), (-1), false, #[]⟩, 3, none⟩, ⟨.maxTail, 134, 8, true, 1, ⟨15, 8, false, #[]⟩, 2, none⟩, ⟨.giveBack, 121, 8, true, 1, ⟨14, 7, true, #[some 0, some 5, some 0, some 5, some 1, some 4, some 3, some 4, none, none, some 6, none, some 6, some 7, some 7]⟩, 0, none⟩, ⟨.maxMore, 134, 7, true, 0, ⟨13, 7, true, #[some 0, some 5, some 0, some 5, some 1, some 4, some 3, some 4, none, none, some 6, none, some 6, some 7]⟩, 2, none⟩, ⟨.closeLoop, 115, 7, true, 0, ⟨(-1), (-1), false, #[]⟩, 2, none⟩, ⟨.giveBack, 108, 7, true, 0, ⟨13, 7, false, #[]⟩, 0, none⟩, ⟨.maxTail, 108, 7, true, 1, ⟨13, 7, false, #[]⟩, 1, none⟩, ⟨.giveBack, 91, 7, true, 1, ⟨12, 1, true, #[some 0, some 5, some 0, some 5, some 1, some 4, some 3, some 4, none, none, some 6, none, some 6]⟩, 0, none⟩, ⟨.maxMore, 108, 6, true, 0, ⟨10, 1, true, #[some 0, some 5, some 0, some 5, some 1, some 4, some 3, some 4, none, none, some 6]⟩, 1, none⟩, ⟨.closeLoop, 85, 6, true, 0, ⟨(-1), (-1), false, #[]⟩, 1, none⟩, ⟨.giveBack, 78, 6, true, 0, ⟨10, 1, false, #[]⟩, 0, none⟩, ⟨.maxTail, 38, 4, true, 3, ⟨7, 4, false, #[]⟩, 0, none⟩, ⟨.nextBranch, 22, 3, true, 0, ⟨7, 4, true, #[some 0, none, some 0, none, some 1, none, some 3, some 3]⟩, 0, none⟩, ⟨.maxMore, 38, 3, true, 2, ⟨7, 4, true, #[some 0, none, some 0, none, some 1, none, some 2, some 3]⟩, 0, some 2⟩, ⟨.nextBranch, 22, 2, true, 0, ⟨7, 4, true, #[some 0, none, some 0, none, some 1, none, some 2, some 2]⟩, 0, none⟩, ⟨.maxMore, 38, 2, true, 1, ⟨7, 4, true, #[some 0, none, some 0, none, some 1, none, some 1, some 2]⟩, 0, some 1⟩, ⟨.nextBranch, 22, 1, true, 0, ⟨6, (-1), true, #[some 0, none, some 0, none, some 1, none, some 1]⟩, 0, none⟩, ⟨.maxMore, 38, 1, true, 0, ⟨4, (-1), true, #[some 0, none, some 0, none, some 1]⟩, 0, none⟩, ⟨.closeLoop, 15, 1, true, 0, ⟨(-1), (-1), false, #[]⟩, 0, none⟩, ⟨.nextBranch, 8, 0, true, 0, ⟨0, (-1), false, #[]⟩, 0, none⟩], 235, none, ⟨30925185, 4194304⟩, none⟩
def sha5_70 (c1 d1 c2 d2 : Nat) : Sre.M := ⟨sheetCode, (sha5_t c1 d1 c2 d2), 11, 0, 0, false, false, 195, 11, 11, true, #[some 0, some 5, some 0, some 5, some 1, some 4, some 3, some 4, none, none, some 6, none, some 6, some 7, some 7, some 8, some 8, none, some 9, some 10, some 10, none], 20, 10, #[⟨15, 2, some 3, none⟩, ⟨85, 0, some 6, none⟩, ⟨115, 0, some 7, none⟩, ⟨134, 0, some 8, none⟩, ⟨149, 0, some 9, some 3⟩, ⟨179, 0, some 10, some 3⟩], some 5, [⟨.giveBack, 185, 11, true, 1, ⟨20, 10, true, #[some 0, some 5, some 0, some 5, some 1, some 4, some 3, some 4, none, none, some 6, none, some 6, some 7, some 7, some 8, some 8, none, some 9, some 10, some 10]⟩, 0, none⟩, ⟨.maxMore, 198, 10, true, 0, ⟨19, 10, true, #[some 0, some 5, some 0, some 5, some 1, some 4, some 3, some 4, none, none, some 6, none, some 6, some 7, some 7, some 8, some 8, none, some 9, some 10]⟩, 5, none⟩, ⟨.closeLoop, 179, 10, true, 0, ⟨(-1), (-1), false, #[]⟩, 5, none⟩, ⟨.giveBack, 172, 10, true, 0, ⟨19, 10, true, #[some 0, some 5, some 0, some 5, some 1, some 4, some 3, some 4, none, none, some 6, none, some 6, some 7, some 7, some 8, some 8, none, some 9, some 10]⟩, 0, none⟩, ⟨.maxTail, 172, 10, true, 1, ⟨19, 10, false, #[]⟩, 4, none⟩, ⟨.giveBack, 155, 10, true, 1, ⟨18, 8, true, #[some 0, some 5, some 0, some 5, some 1, some 4, some 3, some 4, none, none, some 6, none, some 6, some 7, some 7, some 8, some 8, none, some 9]⟩, 0, none⟩, ⟨.maxMore, 172, 9, true, 0, ⟨16, 8, true, #[some 0, some 5, some 0, some 5, some 1, some 4, some 3, some 4, none, none, some 6, none, some 6, some 7, some 7, some 8, some 8]⟩, 4, none⟩, ⟨.closeLoop, 149, 9, true, 0, ⟨(-1), (-1), false, #[]⟩, 4, none⟩, ⟨.giveBack, 142, 9, true, 0, ⟨16, 8, true, #[some 0, some 5, some 0, some 5, some 1, some 4, some 3, some 4, none, none, some 6, none, some 6, some 7, some 7, some 8, some 8]⟩, 0, none⟩, ⟨.maxMore, 201, 8, true, 0, ⟨15, 8, true, #[some 0, some 5, some 0, some 5, some 1, some 4, some 3, some 4, none, none, some 6, none, some 6, some 7, some 7, some 8]⟩, 3, none⟩, ⟨.closeLoop, 134, 8, true, 0, ⟨(-1), (-1), false, #[]⟩, 3, none⟩, ⟨.maxTail, 134, 8, true, 1, ⟨15, 8, false, #[]⟩, 2, none⟩, ⟨.giveBack, 121, 8, true, 1, ⟨14, 7, true, #[some 0, some 5, some 0, some 5, some 1, some 4, some 3, some 4, none, none, some 6, none, some 6, some 7, some 7]⟩, 0, none⟩, ⟨.maxMore, 134, 7, true, 0, ⟨13, 7, true, #[some 0, some 5, some 0, some 5, some 1, some 4, some 3, some 4, none, none, some 6, none, some 6, some 7]⟩, 2, none⟩, ⟨.closeLoop, 115, 7, true, 0, ⟨(-1), (-1), false, #[]⟩, 2, none⟩, ⟨.giveBack, 108, 7, true, 0, ⟨13, 7, false, #[]⟩, 0, none⟩, ⟨.maxTail, 108, 7, true, 1, ⟨13, 7, false, #[]⟩, 1, none⟩, ⟨.giveBack, 91, 7, true, 1, ⟨12, 1, true, #[some 0, some 5, some 0, some 5, some 1, some 4, some 3, some 4, none, none, some 6, none, some 6]⟩, 0, none⟩, ⟨.maxMore, 108, 6, true, 0, ⟨10, 1, true, #[some 0, some 5, some 0, some 5, some 1, some 4, some 3, some 4, none, none, some 6]⟩, 1, none⟩, ⟨.closeLoop, 85, 6, true, 0, ⟨(-1), (-1), false, #[]⟩, 1, none⟩, ⟨.giveBack, 78, 6, true, 0, ⟨10, 1, false, #[]⟩, 0, none⟩, ⟨.maxTail, 38, 4, true, 3, ⟨7, 4, false, #[]⟩, 0, none⟩, ⟨.nextBranch, 22, 3, true, 0, ⟨7, 4, true, #[some 0, none, some 0, none, some 1, none, some 3, some 3]⟩, 0, none⟩, ⟨.maxMore, 38, 3, true, 2, ⟨7, 4, true, #[some 0, none, some 0, none, some 1, none, some 2, some 3]⟩, 0, some 2⟩, ⟨.nextBranch, 22, 2, true, 0, ⟨7, 4, true, #[some 0, none, some 0, none, some 1, none, some 2, some 2]⟩, 0, none⟩, ⟨.maxMore, 38, 2, true, 1, ⟨7, 4, true, #[some 0, none, some 0, none, some 1, none, some 1, some 2]⟩, 0, some 1⟩, ⟨.nextBranch, 22, 1, true, 0, ⟨6, (-1), true, #[some 0, none, some 0, none, some 1, none, some 1]⟩, 0, none⟩, ⟨.maxMore, 38, 1, true, 0, ⟨4, (-1), true, #[some 0, none, some 0, none, some 1]⟩, 0, none⟩, ⟨.closeLoop, 15, 1, true, 0, ⟨(-1), (-1), false, #[]⟩, 0, none⟩, ⟨.nextBranch, 8, 0, true, 0, ⟨0, (-1), false, #[]⟩, 0, none⟩], 257, none, ⟨30925185, 4194304⟩, none⟩
def sha5_114 (c1 d1 c2 d2 : Nat) : Sre.M := ⟨sheetCode, (sha5_t c1 d1 c2 d2), 11, 0, 0, false, false, 8, 0, 11, true, #[some 0, some 5, some 0, some 5, some 1, some 4, some 3, some 4, none, none, some 6, some 11, some 6, some 7, some 7, some 8, some 8, some 11, some 9, some 10, some 10, some 11], 21, 6, #[], none, [], 0, some true, ⟨30925203, 4194304⟩, some .matched⟩
theorem sha5_r40 (c1 d1 c2 d2 : Nat) : (Sre.forMatch sheetCode (sha5_t c1 d1 c2 d2) 11 0 11 false false).runFor 40 = sha5_40 c1 d1 c2 d2 := eqM_eq (by kernel_rfl) (by kernel_rfl) (by kernel_rfl)
theorem sha5_r41 (c1 d1 c2 d2 : Nat) (hc1 : c1 ∈ [65, 66, 67, 68, 69]) : (sha5_40 c1 d1 c2 d2).runFor 1 = sha5_41 c1 d1 c2 d2 := by
  simp only [List.mem_cons, List.not_mem_nil, or_false] at hc1
  rcases hc1 with rfl | rfl | rfl | rfl | rfl <;> exact eqM_eq (by kernel_rfl) (by kernel_rfl) (by kernel_rfl)
theorem sha5_r44 (c1 d1 c2 d2 : Nat) : (sha5_41 c1 d1 c2 d2).runFor 3 = sha5_44 c1 d1 c2 d2 := eqM_eq (by kernel_rfl) (by kernel_rfl) (by kernel_rfl)
theorem sha5_r45 (c1 d1 c2 d2 : Nat) (hc1 : c1 ∈ [65, 66, 67, 68, 69]) (hd1 : d1 ∈ [49, 50, 51, 52, 53]) : (sha5_44 c1 d1 c2 d2).runFor 1 = sha5_45 c1 d1 c2 d2 := by
  simp only [List.mem_cons, List.not_mem_nil, or_false] at hc1
  simp only [List.mem_cons, List.not_mem_nil, or_false] at hd1
  rcases hc1 with rfl | rfl | rfl | rfl | rfl <;> rcases hd1 with rfl | rfl | rfl | rfl | rfl <;> exact eqM_eq (by kernel_rfl) (by kernel_rfl) (by kernel_rfl)
theorem sha5_r47 (c1 d1 c2 d2 : Nat) : (sha5_45 c1 d1 c2 d2).runFor 2 = sha5_47 c1 d1 c2 d2 := eqM_eq (by kernel_rfl) (by kernel_rfl) (by kernel_rfl)
theorem sha5_r48 (c1 d1 c2 d2 : Nat) (hd1 : d1 ∈ [49, 50, 51, 52, 53]) : (sha5_47 c1 d1 c2 d2).runFor 1 = sha5_48 c1 d1 c2 d2 := by
  simp only [List.mem_cons, List.not_mem_nil, or_false] at hd1
  rcases hd1 with rfl | rfl | rfl | rfl | rfl <;> exact eqM_eq (by kernel_rfl) (by kernel_rfl) (by kernel_rfl)
theorem sha5_r51 (c1 d1 c2 d2 : Nat) : (sha5_48 c1 d1 c2 d2).runFor 3 = sha5_51 c1 d1 c2 d2 := eqM_eq (by kernel_rfl) (by kernel_rfl) (by kernel_rfl)
theorem sha5_r52 (c1 d1 c2 d2 : Nat) (hd1 : d1 ∈ [49, 50, 51, 52, 53]) : (sha5_51 c1 d1 c2 d2).runFor 1 = sha5_52 c1 d1 c2 d2 := by
  simp only [List.mem_cons, List.not_mem_nil, or_false] at hd1
  rcases hd1 with rfl | rfl | rfl | rfl | rfl <;> exact eqM_eq (by kernel_rfl) (by kernel_rfl) (by kernel_rfl)
theorem sha5_r58 (c1 d1 c2 d2 : Nat) : (sha5_52 c1 d1 c2 d2).runFor 6 = sha5_58 c1 d1 c2 d2 := eqM_eq (by kernel_rfl) (by kernel_rfl) (by kernel_rfl)
theorem sha5_r59 (c1 d1 c2 d2 : Nat) (hc2 : c2 ∈ [65, 66, 67, 68, 69]) : (sha5_58 c1 d1 c2 d2).runFor 1 = sha5_59 c1 d1 c2 d2 := by
  simp only [List.mem_cons, List.not_mem_nil, or_false] at hc2
  rcases hc2 with rfl | rfl | rfl | rfl | rfl <;> exact eqM_eq (by kernel_rfl) (by kernel_rfl) (by kernel_rfl)
theorem sha5_r62 (c1 d1 c2 d2 : Nat) : (sha5_59 c1 d1 c2 d2).runFor 3 = sha5_62 c1 d1 c2 d2 := eqM_eq (by kernel_rfl) (by kernel_rfl) (by kernel_rfl)
theorem sha5_r63 (c1 d1 c2 d2 : Nat) (hc2 : c2 ∈ [65, 66, 67, 68, 69]) (hd2 : d2 ∈ [49, 50, 51, 52, 53]) : (sha5_62 c1 d1 c2 d2).runFor 1 = sha5_63 c1 d1 c2 d2 := by
  simp only [List.mem_cons, List.not_mem_nil, or_false] at hc2
  simp only [List.mem_cons, List.not_mem_nil, or_false] at hd2
  rcases hc2 with rfl | rfl | rfl | rfl | rfl <;> rcases hd2 with rfl | rfl | rfl | rfl | rfl <;> exact eqM_eq (by kernel_rfl) (by kernel_rfl) (by kernel_rfl)
theorem sha5_r65 (c1 d1 c2 d2 : Nat) : (sha5_63 c1 d1 c2 d2).runFor 2 = sha5_65 c1 d1 c2 d2 := eqM_eq (by kernel_rfl) (by kernel_rfl) (by kernel_rfl)
theorem sha5_r66 (c1 d1 c2 d2 : Nat) (hd2 : d2 ∈ [49, 50, 51, 52, 53]) : (sha5_65 c1 d1 c2 d2).runFor 1 = sha5_66 c1 d1 c2 d2 := by
  simp only [List.mem_cons, List.not_mem_nil, or_false] at hd2
  rcases hd2 with rfl | rfl | rfl | rfl | rfl <;> exact eqM_eq (by kernel_rfl) (by kernel_rfl) (by kernel_rfl)
theorem sha5_r69 (c1 d1 c2 d2 : Nat) : (sha5_66 c1 d1 c2 d2).runFor 3 = sha5_69 c1 d1 c2 d2 := eqM_eq (by kernel_rfl) (by kernel_rfl) (by kernel_rfl)
theorem sha5_r70 (c1 d1 c2 d2 : Nat) (hd2 : d2 ∈ [49, 50, 51, 52, 53]) : (sha5_69 c1 d1 c2 d2).runFor 1 = sha5_70 c1 d1 c2 d2 := by
  simp only [List.mem_cons, List.not_mem_nil, or_false] at hd2
  rcases hd2 with rfl | rfl | rfl | rfl | rfl <;> exact eqM_eq (by kernel_rfl) (by kernel_rfl) (by kernel_rfl)
theorem sha5_r114 (c1 d1 c2 d2 : Nat) : (sha5_70 c1 d1 c2 d2).runFor 44 = sha5_114 c1 d1 c2 d2 := eqM_eq (by kernel_rfl) (by kernel_rfl) (by kernel_rfl)
theorem sha5_run (c1 d1 c2 d2 : Nat) (hc1 : c1 ∈ [65, 66, 67, 68, 69]) (hd1 : d1 ∈ [49, 50, 51, 52, 53]) (hc2 : c2 ∈ [65, 66, 67, 68, 69]) (hd2 : d2 ∈ [49, 50, 51, 52, 53]) : (Sre.forMatch sheetCode (sha5_t c1 d1 c2 d2) 11 0 11 false false).runFor 116 = sha5_114 c1 d1 c2 d2 := by
  rw [show (116 : Nat) = 40 + 76 from rfl, runFor_add, sha5_r40 c1 d1 c2 d2 ]
  rw [show (76 : Nat) = 1 + 75 from rfl, runFor_add, sha5_r41 c1 d1 c2 d2 hc1]
  rw [show (75 : Nat) = 3 + 72 from rfl, runFor_add, sha5_r44 c1 d1 c2 d2 ]
  rw [show (72 : Nat) = 1 + 71 from rfl, runFor_add, sha5_r45 c1 d1 c2 d2 hc1 hd1]
  rw [show (71 : Nat) = 2 + 69 from rfl, runFor_add, sha5_r47 c1 d1 c2 d2 ]
  rw [show (69 : Nat) = 1 + 68 from rfl, runFor_add, sha5_r48 c1 d1 c2 d2 hd1]
  rw [show (68 : Nat) = 3 + 65 from rfl, runFor_add, sha5_r51 c1 d1 c2 d2 ]
  rw [show (65 : Nat) = 1 + 64 from rfl, runFor_add, sha5_r52 c1 d1 c2 d2 hd1]
  rw [show (64 : Nat) = 6 + 58 from rfl, runFor_add, sha5_r58 c1 d1 c2 d2 ]
  rw [show (58 : Nat) = 1 + 57 from rfl, runFor_add, sha5_r59 c1 d1 c2 d2 hc2]
  rw [show (57 : Nat) = 3 + 54 from rfl, runFor_add, sha5_r62 c1 d1 c2 d2 ]
  rw [show (54 : Nat) = 1 + 53 from rfl, runFor_add, sha5_r63 c1 d1 c2 d2 hc2 hd2]
  rw [show (53 : Nat) = 2 + 51 from rfl, runFor_add, sha5_r65 c1 d1 c2 d2 ]
  rw [show (51 : Nat) = 1 + 50 from rfl, runFor_add, sha5_r66 c1 d1 c2 d2 hd2]
  rw [show (50 : Nat) = 3 + 47 from rfl, runFor_add, sha5_r69 c1 d1 c2 d2 ]
  rw [show (47 : Nat) = 1 + 46 from rfl, runFor_add, sha5_r70 c1 d1 c2 d2 hd2]
  rw [show (46 : Nat) = 44 + 2 from rfl, runFor_add, sha5_r114 c1 d1 c2 d2 ]
  rfl
def sha2_t (c1 d1 : Nat) : Array Nat := #[39, 97, 32, 98, 39, 33, c1, d1]
def sha2_0 (c1 d1 : Nat) : Sre.M := ⟨sheetCode, (sha2_t c1 d1), 8, 0, 0, false, false, 5, 0, 0, true, #[none, none, none, none, none, none, none, none, none, none, none, none, none, none, none, none, none, none, none, none, none, none], (-1), (-1), #[], none, [], 0, none, ⟨16384, 0⟩, none⟩
def sha2_40 (c1 d1 : Nat) : Sre.M := ⟨sheetCode, (sha2_t c1 d1), 8, 0, 0, false, false, 78, 6, 4, true, #[some 0, some 5, some 0, some 5, some 1, some 4, some 3, some 4, none, none, some 6, none, none, none, none, none, none, none, none, none, none, none], 10, 1, #[⟨15, 2, some 3, none⟩], none, [⟨.maxTail, 38, 4, true, 3, ⟨7, 4, false, #[]⟩, 0, none⟩, ⟨.nextBranch, 22, 3, true, 0, ⟨7, 4, true, #[some 0, none, some 0, none, some 1, none, some 3, some 3]⟩, 0, none⟩, ⟨.maxMore, 38, 3, true, 2, ⟨7, 4, true, #[some 0, none, some 0, none, some 1, none, some 2, some 3]⟩, 0, some 2⟩, ⟨.nextBranch, 22, 2, true, 0, ⟨7, 4, true, #[some 0, none, some 0, none, some 1, none, some 2, some 2]⟩, 0, none⟩, ⟨.maxMore, 38, 2, true, 1, ⟨7, 4, true, #[some 0, none, some 0, none, some 1, none, some 1, some 2]⟩, 0, some 1⟩, ⟨.nextBranch, 22, 1, true, 0, ⟨6, (-1), true, #[some 0, none, some 0, none, some 1, none, some 1]⟩, 0, none⟩, ⟨.maxMore, 38, 1, true, 0, ⟨4, (-1), true, #[some 0, none, some 0, none, some 1]⟩, 0, none⟩, ⟨.closeLoop, 15, 1, true, 0, ⟨(-1), (-1), false, #[]⟩, 0, none⟩, ⟨.nextBranch, 8, 0, true, 0, ⟨0, (-1), false, #[]⟩, 0, none⟩], 53, none, ⟨9945216, 0⟩, none⟩
def sha2_41 (c1 d1 : Nat) : Sre.M := ⟨sheetCode, (sha2_t c1 d1), 8, 0, 0, false, false, 85, 6, 6, true, #[some 0, some 5, some 0, some 5, some 1, some 4, some 3, some 4, none, none, some 6, none, none, none, none, none, none, none, none, none, none, none], 10, 1, #[⟨15, 2, some 3, none⟩], none, [⟨.giveBack, 78, 6, true, 0, ⟨10, 1, false, #[]⟩, 0, none⟩, ⟨.maxTail, 38, 4, true, 3, ⟨7, 4, false, #[]⟩, 0, none⟩, ⟨.nextBranch, 22, 3, true, 0, ⟨7, 4, true, #[some 0, none, some 0, none, some 1, none, some 3, some 3]⟩, 0, none⟩, ⟨.maxMore, 38, 3, true, 2, ⟨7, 4, true, #[some 0, none, some 0, none, some 1, none, some 2, some 3]⟩, 0, some 2⟩, ⟨.nextBranch, 22, 2, true, 0, ⟨7, 4, true, #[some 0, none, some 0, none, some 1, none, some 2, some 2]⟩, 0, none⟩, ⟨.maxMore, 38, 2, true, 1, ⟨7, 4, true, #[some 0, none, some 0, none, some 1, none, some 1, some 2]⟩, 0, some 1⟩, ⟨.nextBranch, 22, 1, true, 0, ⟨6, (-1), true, #[some 0, none, some 0, none, some 1, none, some 1]⟩, 0, none⟩, ⟨.maxMore, 38, 1, true, 0, ⟨4, (-1), true, #[some 0, none, some 0, none, some 1]⟩, 0, none⟩, ⟨.closeLoop, 15, 1, true, 0, ⟨(-1), (-1), false, #[]⟩, 0, none⟩, ⟨.nextBranch, 8, 0, true, 0, ⟨0, (-1), false, #[]⟩, 0, none⟩], 54, none, ⟨26722432, 0⟩, none⟩
def sha2_44 (c1 d1 : Nat) : Sre.M := ⟨sheetCode, (sha2_t c1 d1), 8, 0, 0, false, false, 91, 6, 6, true, #[some 0, some 5, some 0, some 5, some 1, some 4, some 3, some 4, none, none, some 6, none, some 6, none, none, none, none, none, none, none, none, none], 12, 1, #[⟨15, 2, some 3, none⟩, ⟨85, 0, some 6, none⟩], some 1, [⟨.maxMore, 108, 6, true, 0, ⟨10, 1, true, #[some 0, some 5, some 0, some 5, some 1, some 4, some 3, some 4, none, none, some 6]⟩, 1, none⟩, ⟨.closeLoop, 85, 6, true, 0, ⟨(-1), (-1), false, #[]⟩, 1, none⟩, ⟨.giveBack, 78, 6, true, 0, ⟨10, 1, false, #[]⟩, 0, none⟩, ⟨.maxTail, 38, 4, true, 3, ⟨7, 4, false, #[]⟩, 0, none⟩, ⟨.nextBranch, 22, 3, true, 0, ⟨7, 4, true, #[some 0, none, some 0, none, some 1, none, some 3, some 3]⟩, 0, none⟩, ⟨.maxMore, 38, 3, true, 2, ⟨7, 4, true, #[some 0, none, some 0, none, some 1, none, some 2, some 3]⟩, 0, some 2⟩, ⟨.nextBranch, 22, 2, true, 0, ⟨7, 4, true, #[some 0, none, some 0, none, some 1, none, some 2, some 2]⟩, 0, none⟩, ⟨.maxMore, 38, 2, true, 1, ⟨7, 4, true, #[some 0, none, some 0, none, some 1, none, some 1, some 2]⟩, 0, some 1⟩, ⟨.nextBranch, 22, 1, true, 0, ⟨6, (-1), true, #[some 0, none, some 0, none, some 1, none, some 1]⟩, 0, none⟩, ⟨.maxMore, 38, 1, true, 0, ⟨4, (-1), true, #[some 0, none, some 0, none, some 1]⟩, 0, none⟩, ⟨.closeLoop, 15, 1, true, 0, ⟨(-1), (-1), false, #[]⟩, 0, none⟩, ⟨.nextBranch, 8, 0, true, 0, ⟨0, (-1), false, #[]⟩, 0, none⟩], 67, none, ⟨26722432, 0⟩, none⟩
def sha2_45 (c1 d1 : Nat) : Sre.M := ⟨sheetCode, (sha2_t c1 d1), 8, 0, 0, false, false, 105, 7, 7, true, #[some 0, some 5, some 0, some 5, some 1, some 4, some 3, some 4, none, none, some 6, none, some 6, none, none, none, none, none, none, none, none, none], 12, 1, #[⟨15, 2, some 3, none⟩, ⟨85, 0, some 6, none⟩], some 1, [⟨.giveBack, 91, 7, true, 1, ⟨12, 1, true, #[some 0, some 5, some 0, some 5, some 1, some 4, some 3, some 4, none, none, some 6, none, some 6]⟩, 0, none⟩, ⟨.maxMore, 108, 6, true, 0, ⟨10, 1, true, #[some 0, some 5, some 0, some 5, some 1, some 4, some 3, some 4, none, none, some 6]⟩, 1, none⟩, ⟨.closeLoop, 85, 6, true, 0, ⟨(-1), (-1), false, #[]⟩, 1, none⟩, ⟨.giveBack, 78, 6, true, 0, ⟨10, 1, false, #[]⟩, 0, none⟩, ⟨.maxTail, 38, 4, true, 3, ⟨7, 4, false, #[]⟩, 0, none⟩, ⟨.nextBranch, 22, 3, true, 0, ⟨7, 4, true, #[some 0, none, some 0, none, some 1, none, some 3, some 3]⟩, 0, none⟩, ⟨.maxMore, 38, 3, true, 2, ⟨7, 4, true, #[some 0, none, some 0, none, some 1, none, some 2, some 3]⟩, 0, some 2⟩, ⟨.nextBranch, 22, 2, true, 0, ⟨7, 4, true, #[some 0, none, some 0, none, some 1, none, some 2, some 2]⟩, 0, none⟩, ⟨.maxMore, 38, 2, true, 1, ⟨7, 4, true, #[some 0, none, some 0, none, some 1, none, some 1, some 2]⟩, 0, some 1⟩, ⟨.nextBranch, 22, 1, true, 0, ⟨6, (-1), true, #[some 0, none, some 0, none, some 1, none, some 1]⟩, 0, none⟩, ⟨.maxMore, 38, 1, true, 0, ⟨4, (-1), true, #[some 0, none, some 0, none, some 1]⟩, 0, none⟩, ⟨.closeLoop, 15, 1, true, 0, ⟨(-1), (-1), false, #[]⟩, 0, none⟩, ⟨.nextBranch, 8, 0, true, 0, ⟨0, (-1), false, #[]⟩, 0, none⟩], 81, none, ⟨30924929, 0⟩, none⟩
def sha2_47 (c1 d1 : Nat) : Sre.M := ⟨sheetCode, (sha2_t c1 d1), 8, 0, 0, false, false, 108, 7, 7, true, #[some 0, some 5, some 0, some 5, some 1, some 4, some 3, some 4, none, none, some 6, none, some 6, some 7, none, none, none, none, none, none, none, none], 13, 7, #[⟨15, 2, some 3, none⟩, ⟨85, 0, some 6, none⟩], none, [⟨.maxTail, 108, 7, true, 1, ⟨13, 7, false, #[]⟩, 1, none⟩, ⟨.giveBack, 91, 7, true, 1, ⟨12, 1, true, #[some 0, some 5, some 0, some 5, some 1, some 4, some 3, some 4, none, none, some 6, none, some 6]⟩, 0, none⟩, ⟨.maxMore, 108, 6, true, 0, ⟨10, 1, true, #[some 0, some 5, some 0, some 5, some 1, some 4, some 3, some 4, none, none, some 6]⟩, 1, none⟩, ⟨.closeLoop, 85, 6, true, 0, ⟨(-1), (-1), false, #[]⟩, 1, none⟩, ⟨.giveBack, 78, 6, true, 0, ⟨10, 1, false, #[]⟩, 0, none⟩, ⟨.maxTail, 38, 4, true, 3, ⟨7, 4, false, #[]⟩, 0, none⟩, ⟨.nextBranch, 22, 3, true, 0, ⟨7, 4, true, #[some 0, none, some 0, none, some 1, none, some 3, some 3]⟩, 0, none⟩, ⟨.maxMore, 38, 3, true, 2, ⟨7, 4, true, #[some 0, none, some 0, none, some 1, none, some 2, some 3]⟩, 0, some 2⟩, ⟨.nextBranch, 22, 2, true, 0, ⟨7, 4, true, #[some 0, none, some 0, none, some 1, none, some 2, some 2]⟩, 0, none⟩, ⟨.maxMore, 38, 2, true, 1, ⟨7, 4, true, #[some 0, none, some 0, none, some 1, none, some 1, some 2]⟩, 0, some 1⟩, ⟨.nextBranch, 22, 1, true, 0, ⟨6, (-1), true, #[some 0, none, some 0, none, some 1, none, some 1]⟩, 0, none⟩, ⟨.maxMore, 38, 1, true, 0, ⟨4, (-1), true, #[some 0, none, some 0, none, some 1]⟩, 0, none⟩, ⟨.closeLoop, 15, 1, true, 0, ⟨(-1), (-1), false, #[]⟩, 0, none⟩, ⟨.nextBranch, 8, 0, true, 0, ⟨0, (-1), false, #[]⟩, 0, none⟩], 82, none, ⟨30924929, 0⟩, none⟩
def sha2_48 (c1 d1 : Nat) : Sre.M := ⟨sheetCode, (sha2_t c1 d1), 8, 0, 0, false, false, 115, 7, 7, true, #[some 0, some 5, some 0, some 5, some 1, some 4, some 3, some 4, none, none, some 6, none, some 6, some 7, none, none, none, none, none, none, none, none], 13, 7, #[⟨15, 2, some 3, none⟩, ⟨85, 0, some 6, none⟩], none, [⟨.giveBack, 108, 7, true, 0, ⟨13, 7, false, #[]⟩, 0, none⟩, ⟨.maxTail, 108, 7, true, 1, ⟨13, 7, false, #[]⟩, 1, none⟩, ⟨.giveBack, 91, 7, true, 1, ⟨12, 1, true, #[some 0, some 5, some 0, some 5, some 1, some 4, some 3, some 4, none, none, some 6, none, some 6]⟩, 0, none⟩, ⟨.maxMore, 108, 6, true, 0, ⟨10, 1, true, #[some 0, some 5, some 0, some 5, some 1, some 4, some 3, some 4, none, none, some 6]⟩, 1, none⟩, ⟨.closeLoop, 85, 6, true, 0, ⟨(-1), (-1), false, #[]⟩, 1, none⟩, ⟨.giveBack, 78, 6, true, 0, ⟨10, 1, false, #[]⟩, 0, none⟩, ⟨.maxTail, 38, 4, true, 3, ⟨7, 4, false, #[]⟩, 0, none⟩, ⟨.nextBranch, 22, 3, true, 0, ⟨7, 4, true, #[some 0, none, some 0, none, some 1, none, some 3, some 3]⟩, 0, none⟩, ⟨.maxMore, 38, 3, true, 2, ⟨7, 4, true, #[some 0, none, some 0, none, some 1, none, some 2, some 3]⟩, 0, some 2⟩, ⟨.nextBranch, 22, 2, true, 0, ⟨7, 4, true, #[some 0, none, some 0, none, some 1, none, some 2, some 2]⟩, 0, none⟩, ⟨.maxMore, 38, 2, true, 1, ⟨7, 4, true, #[some 0, none, some 0, none, some 1, none, some 1, some 2]⟩, 0, some 1⟩, ⟨.nextBranch, 22, 1, true, 0, ⟨6, (-1), true, #[some 0, none, some 0, none, some 1, none, some 1]⟩, 0, none⟩, ⟨.maxMore, 38, 1, true, 0, ⟨4, (-1), true, #[some 0, none, some 0, none, some 1]⟩, 0, none⟩, ⟨.closeLoop, 15, 1, true, 0, ⟨(-1), (-1), false, #[]⟩, 0, none⟩, ⟨.nextBranch, 8, 0, true, 0, ⟨0, (-1), false, #[]⟩, 0, none⟩], 83, none, ⟨30924929, 0⟩, none⟩
def sha2_51 (c1 d1 : Nat) : Sre.M := ⟨sheetCode, (sha2_t c1 d1), 8, 0, 0, false, false, 121, 7, 7, true, #[some 0, some 5, some 0, some 5, some 1, some 4, some 3, some 4, none, none, some 6, none, some 6, some 7, some 7, none, none, none, none, none, none, none], 14, 7, #[⟨15, 2, some 3, none⟩, ⟨85, 0, some 6, none⟩, ⟨115, 0, some 7, none⟩], some 2, [⟨.maxMore, 134, 7, true, 0, ⟨13, 7, true, #[some 0, some 5, some 0, some 5, some 1, some 4, some 3, some 4, none, none, some 6, none, some 6, some 7]⟩, 2, none⟩, ⟨.closeLoop, 115, 7, true, 0, ⟨(-1), (-1), false, #[]⟩, 2, none⟩, ⟨.giveBack, 108, 7, true, 0, ⟨13, 7, false, #[]⟩, 0, none⟩, ⟨.maxTail, 108, 7, true, 1, ⟨13, 7, false, #[]⟩, 1, none⟩, ⟨.giveBack, 91, 7, true, 1, ⟨12, 1, true, #[some 0, some 5, some 0, some 5, some 1, some 4, some 3, some 4, none, none, some 6, none, some 6]⟩, 0, none⟩, ⟨.maxMore, 108, 6, true, 0, ⟨10, 1, true, #[some 0, some 5, some 0, some 5, some 1, some 4, some 3, some 4, none, none, some 6]⟩, 1, none⟩, ⟨.closeLoop, 85, 6, true, 0, ⟨(-1), (-1), false, #[]⟩, 1, none⟩, ⟨.giveBack, 78, 6, true, 0, ⟨10, 1, false, #[]⟩, 0, none⟩, ⟨.maxTail, 38, 4, true, 3, ⟨7, 4, false, #[]⟩, 0, none⟩, ⟨.nextBranch, 22, 3, true, 0, ⟨7, 4, true, #[some 0, none, some 0, none, some 1, none, some 3, some 3]⟩, 0, none⟩, ⟨.maxMore, 38, 3, true, 2, ⟨7, 4, true, #[some 0, none, some 0, none, some 1, none, some 2, some 3]⟩, 0, some 2⟩, ⟨.nextBranch, 22, 2, true, 0, ⟨7, 4, true, #[some 0, none, some 0, none, some 1, none, some 2, some 2]⟩, 0, none⟩, ⟨.maxMore, 38, 2, true, 1, ⟨7, 4, true, #[some 0, none, some 0, none, some 1, none, some 1, some 2]⟩, 0, some 1⟩, ⟨.nextBranch, 22, 1, true, 0, ⟨6, (-1), true, #[some 0, none, some 0, none, some 1, none, some 1]⟩, 0, none⟩, ⟨.maxMore, 38, 1, true, 0, ⟨4, (-1), true, #[some 0, none, some 0, none, some 1]⟩, 0, none⟩, ⟨.closeLoop, 15, 1, true, 0, ⟨(-1), (-1), false, #[]⟩, 0, none⟩, ⟨.nextBranch, 8, 0, true, 0, ⟨0, (-1), false, #[]⟩, 0, none⟩], 99, none, ⟨30924929, 0⟩, none⟩
def sha2_52 (c1 d1 : Nat) : Sre.M := ⟨sheetCode, (sha2_t c1 d1), 8, 0, 0, false, false, 131, 8, 8, true, #[some 0, some 5, some 0, some 5, some 1, some 4, some 3, some 4, none, none, some 6, none, some 6, some 7, some 7, none, none, none, none, none, none, none], 14, 7, #[⟨15, 2, some 3, none⟩, ⟨85, 0, some 6, none⟩, ⟨115, 0, some 7, none⟩], some 2, [⟨.giveBack, 121, 8, true, 1, ⟨14, 7, true, #[some 0, some 5, some 0, some 5, some 1, some 4, some 3, some 4, none, none, some 6, none, some 6, some 7, some 7]⟩, 0, none⟩, ⟨.maxMore, 134, 7, true, 0, ⟨13, 7, true, #[some 0, some 5, some 0, some 5, some 1, some 4, some 3, some 4, none, none, some 6, none, some 6, some 7]⟩, 2, none⟩, ⟨.closeLoop, 115, 7, true, 0, ⟨(-1), (-1), false, #[]⟩, 2, none⟩, ⟨.giveBack, 108, 7, true, 0, ⟨13, 7, false, #[]⟩, 0, none⟩, ⟨.maxTail, 108, 7, true, 1, ⟨13, 7, false, #[]⟩, 1, none⟩, ⟨.giveBack, 91, 7, true, 1, ⟨12, 1, true, #[some 0, some 5, some 0, some 5, some 1, some 4, some 3, some 4, none, none, some 6, none, some 6]⟩, 0, none⟩, ⟨.maxMore, 108, 6, true, 0, ⟨10, 1, true, #[some 0, some 5, some 0, some 5, some 1, some 4, some 3, some 4, none, none, some 6]⟩, 1, none⟩, ⟨.closeLoop, 85, 6, true, 0, ⟨(-1), (-1), false, #[]⟩, 1, none⟩, ⟨.giveBack, 78, 6, true, 0, ⟨10, 1, false, #[]⟩, 0, none⟩, ⟨.maxTail, 38, 4, true, 3, ⟨7, 4, false, #[]⟩, 0, none⟩, ⟨.nextBranch, 22, 3, true, 0, ⟨7, 4, true, #[some 0, none, some 0, none, some 1, none, some 3, some 3]⟩, 0, none⟩, ⟨.maxMore, 38, 3, true, 2, ⟨7, 4, true, #[some 0, none, some 0, none, some 1, none, some 2, some 3]⟩, 0, some 2⟩, ⟨.nextBranch, 22, 2, true, 0, ⟨7, 4, true, #[some 0, none, some 0, none, some 1, none, some 2, some 2]⟩, 0, none⟩, ⟨.maxMore, 38, 2, true, 1, ⟨7, 4, true, #[some 0, none, some 0, none, some 1, none, some 1, some 2]⟩, 0, some 1⟩, ⟨.nextBranch, 22, 1, true, 0, ⟨6, (-1), true, #[some 0, none, some 0, none, some 1, none, some 1]⟩, 0, none⟩, ⟨.maxMore, 38, 1, true, 0, ⟨4, (-1), true, #[some 0, none, some 0, none, some 1]⟩, 0, none⟩, ⟨.closeLoop, 15, 1, true, 0, ⟨(-1), (-1), false, #[]⟩, 0, none⟩, ⟨.nextBranch, 8, 0, true, 0, ⟨0, (-1), false, #[]⟩, 0, none⟩], 115, none, ⟨30925185, 4194304⟩, none⟩
def sha2_88 (c1 d1 : Nat) : Sre.M := ⟨sheetCode, (sha2_t c1 d1), 8, 0, 0, false, false, 8, 0, 8, true, #[some 0, some 5, some 0, some 5, some 1, some 4, some 3, some 4, none, none, some 6, some 8, some 6, some 7, some 7, some 8, some 8, none, none, none, none, none], 15, 6, #[], none, [], 0, some true, ⟨30925203, 4194304⟩, some .matched⟩
theorem sha2_r40 (c1 d1 : Nat) : (Sre.forMatch sheetCode (sha2_t c1 d1) 11 0 8 false false).runFor 40 = sha2_40 c1 d1 := eqM_eq (by kernel_rfl) (by kernel_rfl) (by kernel_rfl)
theorem sha2_r41 (c1 d1 : Nat) (hc1 : c1 ∈ [65, 66, 67, 68, 69]) : (sha2_40 c1 d1).runFor 1 = sha2_41 c1 d1 := by
  simp only [List.mem_cons, List.not_mem_nil, or_false] at hc1
  rcases hc1 with rfl | rfl | rfl | rfl | rfl <;> exact eqM_eq (by kernel_rfl) (by kernel_rfl) (by kernel_rfl)
theorem sha2_r44 (c1 d1 : Nat) : (sha2_41 c1 d1).runFor 3 = sha2_44 c1 d1 := eqM_eq (by kernel_rfl) (by kernel_rfl) (by kernel_rfl)
theorem sha2_r45 (c1 d1 : Nat) (hc1 : c1 ∈ [65, 66, 67, 68, 69]) (hd1 : d1 ∈ [49, 50, 51, 52, 53]) : (sha2_44 c1 d1).runFor 1 = sha2_45 c1 d1 := by
  simp only [List.mem_cons, List.not_mem_nil, or_false] at hc1
  simp only [List.mem_cons, List.not_mem_nil, or_false] at hd1
  rcases hc1 with rfl | rfl | rfl | rfl | rfl <;> rcases hd1 with rfl | rfl | rfl | rfl | rfl <;> exact eqM_eq (by kernel_rfl) (by kernel_rfl) (by kernel_rfl)
theorem sha2_r47 (c1 d1 : Nat) : (sha2_45 c1 d1).runFor 2 = sha2_47 c1 d1 := eqM_eq (by kernel_rfl) (by kernel_rfl) (by kernel_rfl)
theorem sha2_r48 (c1 d1 : Nat) (hd1 : d1 ∈ [49, 50, 51, 52, 53]) : (sha2_47 c1 d1).runFor 1 = sha2_48 c1 d1 := by
  simp only [List.mem_cons, List.not_mem_nil, or_false] at hd1
  rcases hd1 with rfl | rfl | rfl | rfl | rfl <;> exact eqM_eq (by kernel_rfl) (by kernel_rfl) (by kernel_rfl)
theorem sha2_r51 (c1 d1 : Nat) : (sha2_48 c1 d1).runFor 3 = sha2_51 c1 d1 := eqM_eq (by kernel_rfl) (by kernel_rfl) (by kernel_rfl)
theorem sha2_r52 (c1 d1 : Nat) (hd1 : d1 ∈ [49, 50, 51, 52, 53]) : (sha2_51 c1 d1).runFor 1 = sha2_52 c1 d1 := by
  simp only [List.mem_cons, List.not_mem_nil, or_false] at hd1
  rcases hd1 with rfl | rfl | rfl | rfl | rfl <;> exact eqM_eq (by kernel_rfl) (by kernel_rfl) (by kernel_rfl)
theorem sha2_r88 (c1 d1 : Nat) : (sha2_52 c1 d1).runFor 36 = sha2_88 c1 d1 := eqM_eq (by kernel_rfl) (by kernel_rfl) (by kernel_rfl)
theorem sha2_run (c1 d1 : Nat) (hc1 : c1 ∈ [65, 66, 67, 68, 69]) (hd1 : d1 ∈ [49, 50, 51, 52, 53]) : (Sre.forMatch sheetCode (sha2_t c1 d1) 11 0 8 false false).runFor 88 = sha2_88 c1 d1 := by
  rw [show (88 : Nat) = 40 + 48 from rfl, runFor_add, sha2_r40 c1 d1 ]
  rw [show (48 : Nat) = 1 + 47 from rfl, runFor_add, sha2_r41 c1 d1 hc1]
  rw [show (47 : Nat) = 3 + 44 from rfl, runFor_add, sha2_r44 c1 d1 ]
  rw [show (44 : Nat) = 1 + 43 from rfl, runFor_add, sha2_r45 c1 d1 hc1 hd1]
  rw [show (43 : Nat) = 2 + 41 from rfl, runFor_add, sha2_r47 c1 d1 ]
  rw [show (41 : Nat) = 1 + 40 from rfl, runFor_add, sha2_r48 c1 d1 hd1]
  rw [show (40 : Nat) = 3 + 37 from rfl, runFor_add, sha2_r51 c1 d1 ]
  rw [show (37 : Nat) = 1 + 36 from rfl, runFor_add, sha2_r52 c1 d1 hd1]
  rw [show (36 : Nat) = 36 + 0 from rfl, runFor_add, sha2_r88 c1 d1 ]
  rfl
def shT5_t (c1 d1 c2 d2 : Nat) : Array Nat := #[39, 84, 33, 120, 39, 33, c1, d1, 58, c2, d2]
def shT5_0 (c1 d1 c2 d2 : Nat) : Sre.M := ⟨sheetCode, (shT5_t c1 d1 c2 d2), 11, 0, 0, false, false, 5, 0, 0, true, #[none, none, none, none, none, none, none, none, none, none, none, none, none, none, none, none, none, none, none, none, none, none], (-1), (-1), #[], none, [], 0, none, ⟨16384, 0⟩, none⟩
def shT5_40 (c1 d1 c2 d2 : Nat) : Sre.M := ⟨sheetCode, (shT5_t c1 d1 c2 d2), 11, 0, 0, false, false, 78, 6, 4, true, #[some 0, some 5, some 0, some 5, some 1, some 4, some 3, some 4, none, none, some 6, none, none, none, none, none, none, none, none, none, none, none], 10, 1, #[⟨15, 2, some 3, none⟩], none, [⟨.maxTail, 38, 4, true, 3, ⟨7, 4, false, #[]⟩, 0, none⟩, ⟨.nextBranch, 22, 3, true, 0, ⟨7, 4, true, #[some 0, none, some 0, none, some 1, none, some 3, some 3]⟩, 0, none⟩, ⟨.maxMore, 38, 3, true, 2, ⟨7, 4, true, #[some 0, none, some 0, none, some 1, none, some 2, some 3]⟩, 0, some 2⟩, ⟨.nextBranch, 22, 2, true, 0, ⟨7, 4, true, #[some 0, none, some 0, none, some 1, none, some 2, some 2]⟩, 0, none⟩, ⟨.maxMore, 38, 2, true, 1, ⟨7, 4, true, #[some 0, none, some 0, none, some 1, none, some 1, some 2]⟩, 0, some 1⟩, ⟨.nextBranch, 22, 1, true, 0, ⟨6, (-1), true, #[some 0, none, some 0, none, some 1, none, some 1]⟩, 0, none⟩, ⟨.maxMore, 38, 1, true, 0, ⟨4, (-1), true, #[some 0, none, some 0, none, some 1]⟩, 0, none⟩, ⟨.closeLoop, 15, 1, true, 0, ⟨(-1), (-1), false, #[]⟩, 0, none⟩, ⟨.nextBranch, 8, 0, true, 0, ⟨0, (-1), false, #[]⟩, 0, none⟩], 53, none, ⟨9945216, 0⟩, none⟩
def shT5_41 (c1 d1 c2 d2 : Nat) : Sre.M := ⟨sheetCode, (shT5_t c1 d1 c2 d2), 11, 0, 0, false, false, 85, 6, 6, true, #[some 0, some 5, some 0, some 5, some 1, some 4, some 3, some 4, none, none, some 6, none, none, none, none, none, none, none, none, none, none, none], 10, 1, #[⟨15, 2, some 3, none⟩], none, [⟨.giveBack, 78, 6, true, 0, ⟨10, 1, false, #[]⟩, 0, none⟩, ⟨.maxTail, 38, 4, true, 3, ⟨7, 4, false, #[]⟩, 0, none⟩, ⟨.nextBranch, 22, 3, true, 0, ⟨7, 4, true, #[some 0, none, some 0, none, some 1, none, some 3, some 3]⟩, 0, none⟩, ⟨.maxMore, 38, 3, true, 2, ⟨7, 4, true, #[some 0, none, some 0, none, some 1, none, some 2, some 3]⟩, 0, some 2⟩, ⟨.nextBranch, 22, 2, true, 0, ⟨7, 4, true, #[some 0, none, some 0, none, some 1, none, some 2, some 2]⟩, 0, none⟩, ⟨.maxMore, 38, 2, true, 1, ⟨7, 4, true, #[some 0, none, some 0, none, some 1, none, some 1, some 2]⟩, 0, some 1⟩, ⟨.nextBranch, 22, 1, true, 0, ⟨6, (-1), true, #[some 0, none, some 0, none, some 1, none, some 1]⟩, 0, none⟩, ⟨.maxMore, 38, 1, true, 0, ⟨4, (-1), true, #[some 0, none, some 0, none, some 1]⟩, 0, none⟩, ⟨.closeLoop, 15, 1, true, 0, ⟨(-1), (-1), false, #[]⟩, 0, none⟩, ⟨.nextBranch, 8, 0, true, 0, ⟨0, (-1), false, #[]⟩, 0, none⟩], 54, none, ⟨26722432, 0⟩, none⟩
def shT5_44 (c1 d1 c2 d2 : Nat) : Sre.M := ⟨sheetCode, (shT5_t c1 d1 c2 d2), 11, 0, 0, false, false, 91, 6, 6, true, #[some 0, some 5, some 0, some 5, some 1, some 4, some 3, some 4, none, none, some 6, none, some 6, none, none, none, none, none, none, none, none, none], 12, 1, #[⟨15, 2, some 3, none⟩, ⟨85, 0, some 6, none⟩], some 1, [⟨.maxMore, 108, 6, true, 0, ⟨10, 1, true, #[some 0, some 5, some 0, some 5, some 1, some 4, some 3, some 4, none, none, some 6]⟩, 1, none⟩, ⟨.closeLoop, 85, 6, true, 0, ⟨(-1), (-1), false, #[]⟩, 1, none⟩, ⟨.giveBack, 78, 6, true, 0, ⟨10, 1, false, #[]⟩, 0, none⟩, ⟨.maxTail, 38, 4, true, 3, ⟨7, 4, false, #[]⟩, 0, none⟩, ⟨.nextBranch, 22, 3, true, 0, ⟨7, 4, true, #[some 0, none, some 0, none, some 1, none, some 3, some 3]⟩, 0, none⟩, ⟨.maxMore, 38, 3, true, 2, ⟨7, 4, true, #[some 0, none, some 0, none, some 1, none, some 2, some 3]⟩, 0, some 2⟩, ⟨.nextBranch, 22, 2, true, 0, ⟨7, 4, true, #[some 0, none, some 0, none, some 1, none, some 2, some 2]⟩, 0, none⟩, ⟨.maxMore, 38, 2, true, 1, ⟨7, 4, true, #[some 0, none, some 0, none, some 1, none, some 1, some 2]⟩, 0, some 1⟩, ⟨.nextBranch, 22, 1, true, 0, ⟨6, (-1), true, #[some 0, none, some 0, none, some 1, none, some 1]⟩, 0, none⟩, ⟨.maxMore, 38, 1, true, 0, ⟨4, (-1), true, #[some 0, none, some 0, none, some 1]⟩, 0, none⟩, ⟨.closeLoop, 15, 1, true, 0, ⟨(-1), (-1), false, #[]⟩, 0, none⟩, ⟨.nextBranch, 8, 0, true, 0, ⟨0, (-1), false, #[]⟩, 0, none⟩], 67, none, ⟨26722432, 0⟩, none⟩
def shT5_45 (c1 d1 c2 d2 : Nat) : Sre.M := ⟨sheetCode, (shT5_t c1 d1 c2 d2), 11, 0, 0, false, false, 105, 7, 7, true, #[some 0, some 5, some 0, some 5, some 1, some 4, some 3, some 4, none, none, some 6, none, some 6, none, none, none, none, none, none, none, none, none], 12, 1, #[⟨15, 2, some 3, none⟩, ⟨85, 0, some 6, none⟩], some 1, [⟨.giveBack, 91, 7, true, 1, ⟨12, 1, true, #[some 0, some 5, some 0, some 5, some 1, some 4, some 3, some 4, none, none, some 6, none, some 6]⟩, 0, none⟩, ⟨.maxMore, 108, 6, true, 0, ⟨10, 1, true, #[some 0, some 5, some 0, some 5, some 1, some 4, some 3, some 4, none, none, some 6]⟩, 1, none⟩, ⟨.closeLoop, 85, 6, true, 0, ⟨(-1), (-1), false, #[]⟩, 1, none⟩, ⟨.giveBack, 78, 6, true, 0, ⟨10, 1, false, #[]⟩, 0, none⟩, ⟨.maxTail, 38, 4, true, 3, ⟨7, 4, false, #[]⟩, 0, none⟩, ⟨.nextBranch, 22, 3, true, 0, ⟨7, 4, true, #[some 0, none, some 0, none, some 1, none, some 3, some 3]⟩, 0, none⟩, ⟨.maxMore, 38, 3, true, 2, ⟨7, 4, true, #[some 0, none, some 0, none, some 1, none, some 2, some 3]⟩, 0, some 2⟩, ⟨.nextBranch, 22, 2, true, 0, ⟨7, 4, true, #[some 0, none, some 0, none, some 1, none, some 2, some 2]⟩, 0, none⟩, ⟨.maxMore, 38, 2, true, 1, ⟨7, 4, true, #[some 0, none, some 0, none, some 1, none, some 1, some 2]⟩, 0, some 1⟩, ⟨.nextBranch, 22, 1, true, 0, ⟨6, (-1), true, #[some 0, none, some 0, none, some 1, none, some 1]⟩, 0, none⟩, ⟨.maxMore, 38, 1, true, 0, ⟨4, (-1), true, #[some 0, none, some 0, none, some 1]⟩, 0, none⟩, ⟨.closeLoop, 15, 1, true, 0, ⟨(-1), (-1), false, #[]⟩, 0, none⟩, ⟨.nextBranch, 8, 0, true, 0, ⟨0, (-1), false, #[]⟩, 0, none⟩], 81, none, ⟨30924929, 0⟩, none⟩
def shT5_47 (c1 d1 c2 d2 : Nat) : Sre.M := ⟨sheetCode, (shT5_t c1 d1 c2 d2), 11, 0, 0, false, false, 108, 7, 7, true, #[some 0, some 5, some 0, some 5, some 1, some 4, some 3, some 4, none, none, some 6, none, some 6, some 7, none, none, none, none, none, none, none, none], 13, 7, #[⟨15, 2, some 3, none⟩, ⟨85, 0, some 6, none⟩], none, [⟨.maxTail, 108, 7, true, 1, ⟨13, 7, false, #[]⟩, 1, none⟩, ⟨.giveBack, 91, 7, true, 1, ⟨12, 1, true, #[some 0, some 5, some 0, some 5, some 1, some 4, some 3, some 4, none, none, some 6, none, some 6]⟩, 0, none⟩, ⟨.maxMore, 108, 6, true, 0, ⟨10, 1, true, #[some 0, some 5, some 0, some 5, some 1, some 4, some 3, some 4, none, none, some 6]⟩, 1, none⟩, ⟨.closeLoop, 85, 6, true, 0, ⟨(-1), (-1), false, #[]⟩, 1, none⟩, ⟨.giveBack, 78, 6, true, 0, ⟨10, 1, false, #[]⟩, 0, none⟩, ⟨.maxTail, 38, 4, true, 3, ⟨7, 4, false, #[]⟩, 0, none⟩, ⟨.nextBranch, 22, 3, true, 0, ⟨7, 4, true, #[some 0, none, some 0, none, some 1, none, some 3, some 3]⟩, 0, none⟩, ⟨.maxMore, 38, 3, true, 2, ⟨7, 4, true, #[some 0, none, some 0, none, some 1, none, some 2, some 3]⟩, 0, some 2⟩, ⟨.nextBranch, 22, 2, true, 0, ⟨7, 4, true, #[some 0, none, some 0, none, some 1, none, some 2, some 2]⟩, 0, none⟩, ⟨.maxMore, 38, 2, true, 1, ⟨7, 4, true, #[some 0, none, some 0, none, some 1, none, some 1, some 2]⟩, 0, some 1⟩, ⟨.nextBranch, 22, 1, true, 0, ⟨6, (-1), true, #[some 0, none, some 0, none, some 1, none, some 1]⟩, 0, none⟩, ⟨.maxMore, 38, 1, true, 0, ⟨4, (-1), true, #[some 0, none, some 0, none, some 1]⟩, 0, none⟩, ⟨.closeLoop, 15, 1, true, 0, ⟨(-1), (-1), false, #[]⟩, 0, none⟩, ⟨.nextBranch, 8, 0, true, 0, ⟨0, (-1), false, #[]⟩, 0, none⟩], 82, none, ⟨30924929, 0⟩, none⟩
def shT5_48 (c1 d1 c2 d2 : Nat) : Sre.M := ⟨sheetCode, (shT5_t c1 d1 c2 d2), 11, 0, 0, false, false, 115, 7, 7, true, #[some 0, some 5, some 0, some 5, some 1, some 4, some 3, some 4, none, none, some 6, none, some 6, some 7, none, none, none, none, none, none, none, none], 13, 7, #[⟨15, 2, some 3, none⟩, ⟨85, 0, some 6, none⟩], none, [⟨.giveBack, 108, 7, true, 0, ⟨13, 7, false, #[]⟩, 0, none⟩, ⟨.maxTail, 108, 7, true, 1, ⟨13, 7, false, #[]⟩, 1, none⟩, ⟨.giveBack, 91, 7, true, 1, ⟨12, 1, true, #[some 0, some 5, some 0, some 5, some 1, some 4, some 3, some 4, none, none, some 6, none, some 6]⟩, 0, none⟩, ⟨.maxMore, 108, 6, true, 0, ⟨10, 1, true, #[some 0, some 5, some 0, some 5, some 1, some 4, some 3, some 4, none, none, some 6]⟩, 1, none⟩, ⟨.closeLoop, 85, 6, true, 0, ⟨(-1), (-1), false, #[]⟩, 1, none⟩, ⟨.giveBack, 78, 6, true, 0, ⟨10, 1, false, #[]⟩, 0, none⟩, ⟨.maxTail, 38, 4, true, 3, ⟨7, 4, false, #[]⟩, 0, none⟩, ⟨.nextBranch, 22, 3, true, 0, ⟨7, 4, true, #[some 0, none, some 0, none, some 1, none, some 3, some 3]⟩, 0, none⟩, ⟨.maxMore, 38, 3, true, 2, ⟨7, 4, true, #[some 0, none, some 0, none, some 1, none, some 2, some 3]⟩, 0, some 2⟩, ⟨.nextBranch, 22, 2, true, 0, ⟨7, 4, true, #[some 0, none, some 0, none, some 1, none, some 2, some 2]⟩, 0, none⟩, ⟨.maxMore, 38, 2, true, 1, ⟨7, 4, true, #[some 0, none, some 0, none, some 1, none, some 1, some 2]⟩, 0, some 1⟩, ⟨.nextBranch, 22, 1, true, 0, ⟨6, (-1), true, #[some 0, none, some 0, none, some 1, none, some 1]⟩, 0, none⟩, ⟨.maxMore, 38, 1, true, 0, ⟨4, (-1), true, #[some 0, none, some 0, none, some 1]⟩, 0, none⟩, ⟨.closeLoop, 15, 1, true, 0, ⟨(-1), (-1), false, #[]⟩, 0, none⟩, ⟨.nextBranch, 8, 0, true, 0, ⟨0, (-1), false, #[]⟩, 0, none⟩], 83, none, ⟨30924929, 0⟩, none⟩
def shT5_51 (c1 d1 c2 d2 : Nat) : Sre.M := ⟨sheetCode, (shT5_t c1 d1 c2 d2), 11, 0, 0, false, false, 121, 7, 7, true, #[some 0, some 5, some 0, some 5, some 1, some 4, some 3, some 4, none, none, some 6, none, some 6, some 7, some 7, none, none, none, none, none, none, none], 14, 7, #[⟨15, 2, some 3, none⟩, ⟨85, 0, some 6, none⟩, ⟨115, 0, some 7, none⟩], some 2, [⟨.maxMore, 134, 7, true, 0, ⟨13, 7, true, #[some 0, some 5, some 0, some 5, some 1, some 4, some 3, some 4, none, none, some 6, none, some 6, some 7]⟩, 2, none⟩, ⟨.closeLoop, 115, 7, true, 0, ⟨(-1), (-1), false, #[]⟩, 2, none⟩, ⟨.giveBack, 108, 7, true, 0, ⟨13, 7, false, #[]⟩, 0, none⟩, ⟨.maxTail, 108, 7, true, 1, ⟨13, 7, false, #[]⟩, 1, none⟩, ⟨.giveBack, 91, 7, true, 1, ⟨12, 1, true, #[some 0, some 5, some 0, some 5, some 1, some 4, some 3, some 4, none, none, some 6, none, some 6]⟩, 0, none⟩, ⟨.maxMore, 108, 6, true, 0, ⟨10, 1, true, #[some 0, some 5, some 0, some 5, some 1, some 4, some 3, some 4, none, none, some 6]⟩, 1, none⟩, ⟨.closeLoop, 85, 6, true, 0, ⟨(-1), (-1), false, #[]⟩, 1, none⟩, ⟨.giveBack, 78, 6, true, 0, ⟨10, 1, false, #[]⟩, 0, none⟩, ⟨.maxTail, 38, 4, true, 3, ⟨7, 4, false, #[]⟩, 0, none⟩, ⟨.nextBranch, 22, 3, true, 0, ⟨7, 4, true, #[some 0, none, some 0, none, some 1, none, some 3, some 3]⟩, 0, none⟩, ⟨.maxMore, 38, 3, true, 2, ⟨7, 4, true, #[some 0, none, some 0, none, some 1, none, some 2, some 3]⟩, 0, some 2⟩, ⟨.nextBranch, 22, 2, true, 0, ⟨7, 4, true, #[some 0, none, some 0, none, some 1, none, some 2, some 2]⟩, 0, none⟩, ⟨.maxMore, 38, 2, true, 1, ⟨7, 4, true, #[some 0, none, some 0, none, some 1, none, some 1, some 2]⟩, 0, some 1⟩, ⟨.nextBranch, 22, 1, true, 0, ⟨6, (-1), true, #[some 0, none, some 0, none, some 1, none, some 1]⟩, 0, none⟩, ⟨.maxMore, 38, 1, true, 0, ⟨4, (-1), true, #[some 0, none, some 0, none, some 1]⟩, 0, none⟩, ⟨.closeLoop, 15, 1, true, 0, ⟨(-1), (-1), false, #[]⟩, 0, none⟩, ⟨.nextBranch, 8, 0, true, 0, ⟨0, (-1), false, #[]⟩, 0, none⟩], 99, none, ⟨30924929, 0⟩, none⟩
def shT5_52 (c1 d1 c2 d2 : Nat) : Sre.M := ⟨sheetCode, (shT5_t c1 d1 c2 d2), 11, 0, 0, false, false, 131, 8, 8, true, #[some 0, some 5, some 0, some 5, some 1, some 4, some 3, some 4, none, none, some 6, none, some 6, some 7, some 7, none, none, none, none, none, none, none], 14, 7, #[⟨15, 2, some 3, none⟩, ⟨85, 0, some 6, none⟩, ⟨115, 0, some 7, none⟩], some 2, [⟨.giveBack, 121, 8, true, 1, ⟨14, 7, true, #[some 0, some 5, some 0, some 5, some 1, some 4, some 3, some 4, none, none, some 6, none, some 6, some 7, some 7]⟩, 0, none⟩, ⟨.maxMore, 134, 7, true, 0, ⟨13, 7, true, #[some 0, some 5, some 0, some 5, some 1, some 4, some 3, some 4, none, none, some 6, none, some 6, some 7]⟩, 2, none⟩, ⟨.closeLoop, 115, 7, true, 0, ⟨(-1), (-1), false, #[]⟩, 2, none⟩, ⟨.giveBack, 108, 7, true, 0, ⟨13, 7, false, #[]⟩, 0, none⟩, ⟨.maxTail, 108, 7, true, 1, ⟨13, 7, false, #[]⟩, 1, none⟩, ⟨.giveBack, 91, 7, true, 1, ⟨12, 1, true, #[some 0, some 5, some 0, some 5, some 1, some 4, some 3, some 4, none, none, some 6, none, some 6]⟩, 0, none⟩, ⟨.maxMore, 108, 6, true, 0, ⟨10, 1, true, #[some 0, some 5, some 0, some 5, some 1, some 4, some 3, some 4, none, none, some 6]⟩, 1, none⟩, ⟨.closeLoop, 85, 6, true, 0, ⟨(-1), (-1), false, #[]⟩, 1, none⟩, ⟨.giveBack, 78, 6, true, 0, ⟨10, 1, false, #[]⟩, 0, none⟩, ⟨.maxTail, 38, 4, true, 3, ⟨7, 4, false, #[]⟩, 0, none⟩, ⟨.nextBranch, 22, 3, true, 0, ⟨7, 4, true, #[some 0, none, some 0, none, some 1, none, some 3, some 3]⟩, 0, none⟩, ⟨.maxMore, 38, 3, true, 2, ⟨7, 4, true, #[some 0, none, some 0, none, some 1, none, some 2, some 3]⟩, 0, some 2⟩, ⟨.nextBranch, 22, 2, true, 0, ⟨7, 4, true, #[some 0, none, some 0, none, some 1, none, some 2, some 2]⟩, 0, none⟩, ⟨.maxMore, 38, 2, true, 1, ⟨7, 4, true, #[some 0, none, some 0, none, some 1, none, some 1, some 2]⟩, 0, some 1⟩, ⟨.nextBranch, 22, 1, true, 0, ⟨6, (-1), true, #[some 0, none, some 0, none, some 1, none, some 1]⟩, 0, none⟩, ⟨.maxMore, 38, 1, true, 0, ⟨4, (-1), true, #[some 0, none, some 0, none, some 1]⟩, 0, none⟩, ⟨.closeLoop, 15, 1, true, 0, ⟨(-1), (-1), false, #[]⟩, 0, none⟩, ⟨.nextBranch, 8, 0, true, 0, ⟨0, (-1), false, #[]⟩, 0, none⟩], 115, none, ⟨30925185, 4194304⟩, none⟩
def shT5_58 (c1 d1 c2 d2 : Nat) : Sre.M := ⟨sheetCode, (shT5_t c1 d1 c2 d2), 11, 0, 0, false, false, 142, 9, 8, true, #[some 0, some 5, some 0, some 5, some 1, some 4, some 3, some 4, none, none, some 6, none, some 6, some 7, some 7, some 8, some 8, none, none, none, none, none], 16, 8, #[⟨15, 2, some 3, none⟩, ⟨85, 0, some 6, none⟩, ⟨115, 0, some 7, none⟩, ⟨134, 0, some 8, none⟩], some 3, [⟨.maxMore, 201, 8, true, 0, ⟨15, 8, true, #[some 0, some 5, some 0, some 5, some 1, some 4, some 3, some 4, none, none, some 6, none, some 6, some 7, some 7, some 8]⟩, 3, none⟩, ⟨.closeLoop, 134, 8, true, 0, ⟨(-1), (-1), false, #[]⟩, 3, none⟩, ⟨.maxTail, 134, 8, true, 1, ⟨15, 8, false, #[]⟩, 2, none⟩, ⟨.giveBack, 121, 8, true, 1, ⟨14, 7, true, #[some 0, some 5, some 0, some 5, some 1, some 4, some 3, some 4, none, none, some 6, none, some 6, some 7, some 7]⟩, 0, none⟩, ⟨.maxMore, 134, 7, true, 0, ⟨13, 7, true, #[some 0, some 5, some 0, some 5, some 1, some 4, some 3, some 4, none, none, some 6, none, some 6, some 7]⟩, 2, none⟩, ⟨.closeLoop, 115, 7, true, 0, ⟨(-1), (-1), false, #[]⟩, 2, none⟩, ⟨.giveBack, 108, 7, true, 0, ⟨13, 7, false, #[]⟩, 0, none⟩, ⟨.maxTail, 108, 7, true, 1, ⟨13, 7, false, #[]⟩, 1, none⟩, ⟨.giveBack, 91, 7, true, 1, ⟨12, 1, true, #[some 0, some 5, some 0, some 5, some 1, some 4, some 3, some 4, none, none, some 6, none, some 6]⟩, 0, none⟩, ⟨.maxMore, 108, 6, true, 0, ⟨10, 1, true, #[some 0, some 5, some 0, some 5, some 1, some 4, some 3, some 4, none, none, some 6]⟩, 1, none⟩, ⟨.closeLoop, 85, 6, true, 0, ⟨(-1), (-1), false, #[]⟩, 1, none⟩, ⟨.giveBack, 78, 6, true, 0, ⟨10, 1, false, #[]⟩, 0, none⟩, ⟨.maxTail, 38, 4, true, 3, ⟨7, 4, false, #[]⟩, 0, none⟩, ⟨.nextBranch, 22, 3, true, 0, ⟨7, 4, true, #[some 0, none, some 0, none, some 1, none, some 3, some 3]⟩, 0, none⟩, ⟨.maxMore, 38, 3, true, 2, ⟨7, 4, true, #[some 0, none, some 0, none, some 1, none, some 2, some 3]⟩, 0, some 2⟩, ⟨.nextBranch, 22, 2, true, 0, ⟨7, 4, true, #[some 0, none, some 0, none, some 1, none, some 2, some 2]⟩, 0, none⟩, ⟨.maxMore, 38, 2, true, 1, ⟨7, 4, true, #[some 0, none, some 0, none, some 1, none, some 1, some 2]⟩, 0, some 1⟩, ⟨.nextBranch, 22, 1, true, 0, ⟨6, (-1), true, #[some 0, none, some 0, none, some 1, none, some 1]⟩, 0, none⟩, ⟨.maxMore, 38, 1, true, 0, ⟨4, (-1), true, #[some 0, none, some 0, none, some 1]⟩, 0, none⟩, ⟨.closeLoop, 15, 1, true, 0, ⟨(-1), (-1), false, #[]⟩, 0, none⟩, ⟨.nextBranch, 8, 0, true, 0, ⟨0, (-1), false, #[]⟩, 0, none⟩], 134, none, ⟨30925185, 4194304⟩, none⟩
def shT5_59 (c1 d1 c2 d2 : Nat) : Sre.M := ⟨sheetCode, (shT5_t c1 d1 c2 d2), 11, 0, 0, false, false, 149, 9, 9, true, #[some 0, some 5, some 0, some 5, some 1, some 4, some 3, some 4, none, none, some 6, none, some 6, some 7, some 7, some 8, some 8, none, none, none, none, none], 16, 8, #[⟨15, 2, some 3, none⟩, ⟨85, 0, some 6, none⟩, ⟨115, 0, some 7, none⟩, ⟨134, 0, some 8, none⟩], some 3, [⟨.giveBack, 142, 9, true, 0, ⟨16, 8, true, #[some 0, some 5, some 0, some 5, some 1, some 4, some 3, some 4, none, none, some 6, none, some 6, some 7, some 7, some 8, some 8]⟩, 0, none⟩, ⟨.maxMore, 201, 8, true, 0, ⟨15, 8, true, #[some 0, some 5, some 0, some 5, some 1, some 4, some 3, some 4, none, none, some 6, none, some 6, some 7, some 7, some 8]⟩, 3, none⟩, ⟨.closeLoop, 134, 8, true, 0, ⟨(-1), (-1), false, #[]⟩, 3, none⟩, ⟨.maxTail, 134, 8, true, 1, ⟨15, 8, false, #[]⟩, 2, none⟩, ⟨.giveBack, 121, 8, true, 1, ⟨14, 7, true, #[some 0, some 5, some 0, some 5, some 1, some 4, some 3, some 4, none, none, some 6, none, some 6, some 7, some 7]⟩, 0, none⟩, ⟨.maxMore, 134, 7, true, 0, ⟨13, 7, true, #[some 0, some 5, some 0, some 5, some 1, some 4, some 3, some 4, none, none, some 6, none, some 6, some 7]⟩, 2, none⟩, ⟨.closeLoop, 115, 7, true, 0, ⟨(-1), (-1), false, #[]⟩, 2, none⟩, ⟨.giveBack, 108, 7, true, 0, ⟨13, 7, false, #[]⟩, 0, none⟩, ⟨.maxTail, 108, 7, true, 1, ⟨13, 7, false, #[]⟩, 1, none⟩, ⟨.giveBack, 91, 7, true, 1, ⟨12, 1, true, #[some 0, some 5, some 0, some 5, some 1, some 4, some 3, some 4, none, none, some 6, none, some 6]⟩, 0, none⟩, ⟨.maxMore, 108, 6, true, 0, ⟨10, 1, true, #[some 0, some 5, some 0, some 5, some 1, some 4, some 3, some 4, none, none, some 6]⟩, 1, none⟩, ⟨.closeLoop, 85, 6, true, 0, ⟨(-1), (-1), false, #[]⟩, 1, none⟩, ⟨.giveBack, 78, 6, true, 0, ⟨10, 1, false, #[]⟩, 0, none⟩, ⟨.maxTail, 38, 4, true, 3, ⟨7, 4, false, #[]⟩, 0, none⟩, ⟨.nextBranch, 22, 3, true, 0, ⟨7, 4, true, #[some 0, none, some 0, none, some 1, none, some 3, some 3]⟩, 0, none⟩, ⟨.maxMore, 38, 3, true, 2, ⟨7, 4, true, #[some 0, none, some 0, none, some 1, none, some 2, some 3]⟩, 0, some 2⟩, ⟨.nextBranch, 22, 2, true, 0, ⟨7, 4, true, #[some 0, none, some 0, none, some 1, none, some 2, some 2]⟩, 0, none⟩, ⟨.maxMore, 38, 2, true, 1, ⟨7, 4, true, #[some 0, none, some 0, none, some 1, none, some 1, some 2]⟩, 0, some 1⟩, ⟨.nextBranch, 22, 1, true, 0, ⟨6, (-1), true, #[some 0, none, some 0, none, some 1, none, some 1]⟩, 0, none⟩, ⟨.maxMore, 38, 1, true, 0, ⟨4, (-1), true, #[some 0, none, some 0, none, some 1]⟩, 0, none⟩, ⟨.closeLoop, 15, 1, true, 0, ⟨(-1), (-1), false, #[]⟩, 0, none⟩, ⟨.nextBranch, 8, 0, true, 0, ⟨0, (-1), false, #[]⟩, 0, none⟩], 152, none, ⟨30925185, 4194304⟩, none⟩
def shT5_62 (c1 d1 c2 d2 : Nat) : Sre.M := ⟨sheetCode, (shT5_t c1 d1 c2 d2), 11, 0, 0, false, false, 155, 9, 9, true, #[some 0, some 5, some 0, some 5, some 1, some 4, some 3, some 4, none, none, some 6, none, some 6, some 7, some 7, some 8, some 8, none, some 9, none, none, none], 18, 8, #[⟨15, 2, some 3, none⟩, ⟨85, 0, some 6, none⟩, ⟨115, 0, some 7, none⟩, ⟨134, 0, some 8, none⟩, ⟨149, 0, some 9, some 3⟩], some 4, [⟨.maxMore, 172, 9, true, 0, ⟨16, 8, true, #[some 0, some 5, some 0, some 5, some 1, some 4, some 3, some 4, none, none, some 6, none, some 6, some 7, some 7, some 8, some 8]⟩, 4, none⟩, ⟨.closeLoop, 149, 9, true, 0, ⟨(-1), (-1), false, #[]⟩, 4, none⟩, ⟨.giveBack, 142, 9, true, 0, ⟨16, 8, true, #[some 0, some 5, some 0, some 5, some 1, some 4, some 3, some 4, none, none, some 6, none, some 6, some 7, some 7, some 8, some 8]⟩, 0, none⟩, ⟨.maxMore, 201, 8, true, 0, ⟨15, 8, true, #[some 0, some 5, some 0, some 5, some 1, some 4, some 3, some 4, none, none, some 6, none, some 6, some 7, some 7, some 8]⟩, 3, none⟩, ⟨.closeLoop, 134, 8, true, 0, ⟨(-1), (-1), false, #[]⟩, 3, none⟩, ⟨.maxTail, 134, 8, true, 1, ⟨15, 8, false, #[]⟩, 2, none⟩, ⟨.giveBack, 121, 8, true, 1, ⟨14, 7, true, #[some 0, some 5, some 0, some 5, some 1, some 4, some 3, some 4, none, none, some 6, none, some 6, some 7, some 7]⟩, 0, none⟩, ⟨.maxMore, 134, 7, true, 0, ⟨13, 7, true, #[some 0, some 5, some 0, some 5, some 1, some 4, some 3, some 4, none, none, some 6, none, some 6, some 7]⟩, 2, none⟩, ⟨.closeLoop, 115, 7, true, 0, ⟨(-1), (-1), false, #[]⟩, 2, none⟩, ⟨.giveBack, 108, 7, true, 0, ⟨13, 7, false, #[]⟩, 0, none⟩, ⟨.maxTail, 108, 7, true, 1, ⟨13, 7, false, #[]⟩, 1, none⟩, ⟨.giveBack, 91, 7, true, 1, ⟨12, 1, true, #[some 0, some 5, some 0, some 5, some 1, some 4, some 3, some 4, none, none, some 6, none, some 6]⟩, 0, none⟩, ⟨.maxMore, 108, 6, true, 0, ⟨10, 1, true, #[some 0, some 5, some 0, some 5, some 1, some 4, some 3, some 4, none, none, some 6]⟩, 1, none⟩, ⟨.closeLoop, 85, 6, true, 0, ⟨(-1), (-1), false, #[]⟩, 1, none⟩, ⟨.giveBack, 78, 6, true, 0, ⟨10, 1, false, #[]⟩, 0, none⟩, ⟨.maxTail, 38, 4, true, 3, ⟨7, 4, false, #[]⟩, 0, none⟩, ⟨.nextBranch, 22, 3, true, 0, ⟨7, 4, true, #[some 0, none, some 0, none, some 1, none, some 3, some 3]⟩, 0, none⟩, ⟨.maxMore, 38, 3, true, 2, ⟨7, 4, true, #[some 0, none, some 0, none, some 1, none, some 2, some 3]⟩, 0, some 2⟩, ⟨.nextBranch, 22, 2, true, 0, ⟨7, 4, true, #[some 0, none, some 0, none, some 1, none, some 2, some 2]⟩, 0, none⟩, ⟨.maxMore, 38, 2, true, 1, ⟨7, 4, true, #[some 0, none, some 0, none, some 1, none, some 1, some 2]⟩, 0, some 1⟩, ⟨.nextBranch, 22, 1, true, 0, ⟨6, (-1), true, #[some 0, none, some 0, none, some 1, none, some 1]⟩, 0, none⟩, ⟨.maxMore, 38, 1, true, 0, ⟨4, (-1), true, #[some 0, none, some 0, none, some 1]⟩, 0, none⟩, ⟨.closeLoop, 15, 1, true, 0, ⟨(-1), (-1), false, #[]⟩, 0, none⟩, ⟨.nextBranch, 8, 0, true, 0, ⟨0, (-1), false, #[]⟩, 0, none⟩], 171, none, ⟨30925185, 4194304⟩, none⟩
def shT5_63 (c1 d1 c2 d2 : Nat) : Sre.M := ⟨sheetCode, (shT5_t c1 d1 c2 d2), 11, 0, 0, false, false, 169, 10, 10, true, #[some 0, some 5, some 0, some 5, some 1, some 4, some 3, some 4, none, none, some 6, none, some 6, some 7, some 7, some 8, some 8, none, some 9, none, none, none], 18, 8, #[⟨15, 2, some 3, none⟩, ⟨85, 0, some 6, none⟩, ⟨115, 0, some 7, none⟩, ⟨134, 0, some 8, none⟩, ⟨149, 0, some 9, some 3⟩], some 4, [⟨.giveBack, 155, 10, true, 1, ⟨18, 8, true, #[some 0, some 5, some 0, some 5, some 1, some 4, some 3, some 4, none, none, some 6, none, some 6, some 7, some 7, some 8, some 8, none, some 9]⟩, 0, none⟩, ⟨.maxMore, 172, 9, true, 0, ⟨16, 8, true, #[some 0, some 5, some 0, some 5, some 1, some 4, some 3, some 4, none, none, some 6, none, some 6, some 7, some 7, some 8, some 8]⟩, 4, none⟩, ⟨.closeLoop, 149, 9, true, 0, ⟨(-1), (-1), false, #[]⟩, 4, none⟩, ⟨.giveBack, 142, 9, true, 0, ⟨16, 8, true, #[some 0, some 5, some 0, some 5, some 1, some 4, some 3, some 4, none, none, some 6, none, some 6, some 7, some 7, some 8, some 8]⟩, 0, none⟩, ⟨.maxMore, 201, 8, true, 0, ⟨15, 8, true, #[some 0, some 5, some 0, some 5, some 1, some 4, some 3, some 4, none, none, some 6, none, some 6, some 7, some 7, some 8]⟩, 3, none⟩, ⟨.closeLoop, 134, 8, true, 0, ⟨(-1), (-1), false, #[]⟩, 3, none⟩, ⟨.maxTail, 134, 8, true, 1, ⟨15, 8, false, #[]⟩, 2, none⟩, ⟨.giveBack, 121, 8, true, 1, ⟨14, 7, true, #[some 0, some 5, some 0, some 5, some 1, some 4, some 3, some 4, none, none, some 6, none, some 6, some 7, some 7]⟩, 0, none⟩, ⟨.maxMore, 134, 7, true, 0, ⟨13, 7, true, #[some 0, some 5, some 0, some 5, some 1, some 4, some 3, some 4, none, none, some 6, none, some 6, some 7]⟩, 2, none⟩, ⟨.closeLoop, 115, 7, true, 0, ⟨(-1), (-1), false, #[]⟩, 2, none⟩, ⟨.giveBack, 108, 7, true, 0, ⟨13, 7, false, #[]⟩, 0, none⟩, ⟨.maxTail, 108, 7, true, 1, ⟨13, 7, false, #[]⟩, 1, none⟩, ⟨.giveBack, 91, 7, true, 1, ⟨12, 1, true, #[some 0, some 5, some 0, some 5, some 1, some 4, some 3, some 4, none, none, some 6, none, some 6]⟩, 0, none⟩, ⟨.maxMore, 108, 6, true, 0, ⟨10, 1, true, #[some 0, some 5, some 0, some 5, some 1, some 4, some 3, some 4, none, none, some 6]⟩, 1, none⟩, ⟨.closeLoop, 85, 6, true, 0, ⟨(-1), (-1), false, #[]⟩, 1, none⟩, ⟨.giveBack, 78, 6, true, 0, ⟨10, 1, false, #[]⟩, 0, none⟩, ⟨.maxTail, 38, 4, true, 3, ⟨7, 4, false, #[]⟩, 0, none⟩, ⟨.nextBranch, 22, 3, true, 0, ⟨7, 4, true, #[some 0, none, some 0, none, some 1, none, some 3, some 3]⟩, 0, none⟩, ⟨.maxMore, 38, 3, true, 2, ⟨7, 4, true, #[some 0, none, some 0, none, some 1, none, some 2, some 3]⟩, 0, some 2⟩, ⟨.nextBranch, 22, 2, true, 0, ⟨7, 4, true, #[some 0, none, some 0, none, some 1, none, some 2, some 2]⟩, 0, none⟩, ⟨.maxMore, 38, 2, true, 1, ⟨7, 4, true, #[some 0, none, some 0, none, some 1, none, some 1, some 2]⟩, 0, some 1⟩, ⟨.nextBranch, 22, 1, true, 0, ⟨6, (-1), true, #[some 0, none, some 0, none, some 1, none, some 1]⟩, 0, none⟩, ⟨.maxMore, 38, 1, true, 0, ⟨4, (-1), true, #[some 0, none, some 0, none, some 1]⟩, 0, none⟩, ⟨.closeLoop, 15, 1, true, 0, ⟨(-1), (-1), false, #[]⟩, 0, none⟩, ⟨.nextBranch, 8, 0, true, 0, ⟨0, (-1), false, #[]⟩, 0, none⟩], 191, none, ⟨30925185, 4194304⟩, none⟩
def shT5_65 (c1 d1 c2 d2 : Nat) : Sre.M := ⟨sheetCode, (shT5_t c1 d1 c2 d2), 11, 0, 0, false, false, 172, 10, 10, true, #[some 0, some 5, some 0, some 5, some 1, some 4, some 3, some 4, none, none, some 6, none, some 6, some 7, some 7, some 8, some 8, none, some 9, some 10, none, none], 19, 10, #[⟨15, 2, some 3, none⟩, ⟨85, 0, some 6, none⟩, ⟨115, 0, some 7, none⟩, ⟨134, 0, some 8, none⟩, ⟨149, 0, some 9, some 3⟩], some 3, [⟨.maxTail, 172, 10, true, 1, ⟨19, 10, false, #[]⟩, 4, none⟩, ⟨.giveBack, 155, 10, true, 1, ⟨18, 8, true, #[some 0, some 5, some 0, some 5, some 1, some 4, some 3, some 4, none, none, some 6, none, some 6, some 7, some 7, some 8, some 8, none, some 9]⟩, 0, none⟩, ⟨.maxMore, 172, 9, true, 0, ⟨16, 8, true, #[some 0, some 5, some 0, some 5, some 1, some 4, some 3, some 4, none, none, some 6, none, some 6, some 7, some 7, some 8, some 8]⟩, 4, none⟩, ⟨.closeLoop, 149, 9, true, 0, ⟨(-1), (-1), false, #[]⟩, 4, none⟩, ⟨.giveBack, 142, 9, true, 0, ⟨16, 8, true, #[some 0, some 5, some 0, some 5, some 1, some 4, some 3, some 4, none, none, some 6, none, some 6, some 7, some 7, some 8, some 8]⟩, 0, none⟩, ⟨.maxMore, 201, 8, true, 0, ⟨15, 8, true, #[some 0, some 5, some 0, some 5, some 1, some 4, some 3, some 4, none, none, some 6, none, some 6, some 7, some 7, some 8]⟩, 3, none⟩, ⟨.closeLoop, 134, 8, true, 0, ⟨(-1), (-1), false, #[]⟩, 3, none⟩, ⟨.maxTail, 134, 8, true, 1, ⟨15, 8, false, #[]⟩, 2, none⟩, ⟨.giveBack, 121, 8, true, 1, ⟨14, 7, true, #[some 0, some 5, some 0, some 5, some 1, some 4, some 3, some 4, none, none, some 6, none, some 6, some 7, some 7]⟩, 0, none⟩, ⟨.maxMore, 134, 7, true, 0, ⟨13, 7, true, #[some 0, some 5, some 0, some 5, some 1, some 4, some 3, some 4, none, none, some 6, none, some 6, some 7]⟩, 2, none⟩, ⟨.closeLoop, 115, 7, true, 0, ⟨(-1), (-1), false, #[]⟩, 2, none⟩, ⟨.giveBack, 108, 7, true, 0, ⟨13, 7, false, #[]⟩, 0, none⟩, ⟨.maxTail, 108, 7, true, 1, ⟨13, 7, false, #[]⟩, 1, none⟩, ⟨.giveBack, 91, 7, true, 1, ⟨12, 1, true, #[some 0, some 5, some 0, some 5, some 1, some 4, some 3, some 4, none, none, some 6, none, some 6]⟩, 0, none⟩, ⟨.maxMore, 108, 6, true, 0, ⟨10, 1, true, #[some 0, some 5, some 0, some 5, some 1, some 4, some 3, some 4, none, none, some 6]⟩, 1, none⟩, ⟨.closeLoop, 85, 6, true, 0, ⟨(-1), (-1), false, #[]⟩, 1, none⟩, ⟨.giveBack, 78, 6, true, 0, ⟨10, 1, false, #[]⟩, 0, none⟩, ⟨.maxTail, 38, 4, true, 3, ⟨7, 4, false, #[]⟩, 0, none⟩, ⟨.nextBranch, 22, 3, true, 0, ⟨7, 4, true, #[some 0, none, some 0, none, some 1, none, some 3, some 3]⟩, 0, none⟩, ⟨.maxMore, 38, 3, true, 2, ⟨7, 4, true, #[some 0, none, some 0, none, some 1, none, some 2, some 3]⟩, 0, some 2⟩, ⟨.nextBranch, 22, 2, true, 0, ⟨7, 4, true, #[some 0, none, some 0, none, some 1, none, some 2, some 2]⟩, 0, none⟩, ⟨.maxMore, 38, 2, true, 1, ⟨7, 4, true, #[some 0, none, some 0, none, some 1, none, some 1, some 2]⟩, 0, some 1⟩, ⟨.nextBranch, 22, 1, true, 0, ⟨6, (-1), true, #[some 0, none, some 0, none, some 1, none, some 1]⟩, 0, none⟩, ⟨.maxMore, 38, 1, true, 0, ⟨4, (-1), true, #[some 0, none, some 0, none, some 1]⟩, 0, none⟩, ⟨.closeLoop, 15, 1, true, 0, ⟨(-1), (-1), false, #[]⟩, 0, none⟩, ⟨.nextBranch, 8, 0, true, 0, ⟨0, (-1), false, #[]⟩, 0, none⟩], 192, none, ⟨30925185, 4194304⟩, none⟩
def shT5_66 (c1 d1 c2 d2 : Nat) : Sre.M := ⟨sheetCode, (shT5_t c1 d1 c2 d2), 11, 0, 0, false, false, 179, 10, 10, true, #[some 0, some 5, some 0, some 5, some 1, some 4, some 3, some 4, none, none, some 6, none, some 6, some 7, some 7, some 8, some 8, none, some 9, some 10, none, none], 19, 10, #[⟨15, 2, some 3, none⟩, ⟨85, 0, some 6, none⟩, ⟨115, 0, some 7, none⟩, ⟨134, 0, some 8, none⟩, ⟨149, 0, some 9, some 3⟩], some 3, [⟨.giveBack, 172, 10, true, 0, ⟨19, 10, true, #[some 0, some 5, some 0, some 5, some 1, some 4, some 3, some 4, none, none, some 6, none, some 6, some 7, some 7, some 8, some 8, none, some 9, some 10]⟩, 0, none⟩, ⟨.maxTail, 172, 10, true, 1, ⟨19, 10, false, #[]⟩, 4, none⟩, ⟨.giveBack, 155, 10, true, 1, ⟨18, 8, true, #[some 0, some 5, some 0, some 5, some 1, some 4, some 3, some 4, none, none, some 6, none, some 6, some 7, some 7, some 8, some 8, none, some 9]⟩, 0, none⟩, ⟨.maxMore, 172, 9, true, 0, ⟨16, 8, true, #[some 0, some 5, some 0, some 5, some 1, some 4, some 3, some 4, none, none, some 6, none, some 6, some 7, some 7, some 8, some 8]⟩, 4, none⟩, ⟨.closeLoop, 149, 9, true, 0, ⟨(-1), (-1), false, #[]⟩, 4, none⟩, ⟨.giveBack, 142, 9, true, 0, ⟨16, 8, true, #[some 0, some 5, some 0, some 5, some 1, some 4, some 3, some 4, none, none, some 6, none, some 6, some 7, some 7, some 8, some 8]⟩, 0, none⟩, ⟨.maxMore, 201, 8, true, 0, ⟨15, 8, true, #[some 0, some 5, some 0, some 5, some 1, some 4, some 3, some 4, none, none, some 6, none, some 6, some 7, some 7, some 8]⟩, 3, none⟩, ⟨.closeLoop, 134, 8, true, 0, ⟨(-1), (-1), false, #[]⟩, 3, none⟩, ⟨.maxTail, 134, 8, true, 1, ⟨15, 8, false, #[]⟩, 2, none⟩, ⟨.giveBack, 121, 8, true, 1, ⟨14, 7, true, #[some 0, some 5, some 0, some 5, some 1, some 4, some 3, some 4, none, none, some 6, none, some 6, some 7, some 7]⟩, 0, none⟩, ⟨.maxMore, 134, 7, true, 0, ⟨13, 7, true, #[some 0, some 5, some 0, some 5, some 1, some 4, some 3, some 4, none, none, some 6, none, some 6, some 7]⟩, 2, none⟩, ⟨.closeLoop, 115, 7, true, 0, ⟨(-1), (-1), false, #[]⟩, 2, none⟩, ⟨.giveBack, 108, 7, true, 0, ⟨13, 7, false, #[]⟩, 0, none⟩, ⟨.maxTail, 108, 7, true, 1, ⟨13, 7, false, #[]⟩, 1, none⟩, ⟨.giveBack, 91, 7, true, 1, ⟨12, 1, true, #[some 0, some 5, some 0, some 5, some 1, some 4, some 3, some 4, none, none, some 6, none, some 6]⟩, 0, none⟩, ⟨.maxMore, 108, 6, true, 0, ⟨10, 1, true, #[some 0, some 5, some 0, some 5, some 1, some 4, some 3, some 4, none, none, some 6]⟩, 1, none⟩, ⟨.closeLoop, 85, 6, true, 0, ⟨(-1), (-1), false, #[]⟩, 1, none⟩, ⟨.giveBack, 78, 6, true, 0, ⟨10, 1, false, #[]⟩, 0, none⟩, ⟨.maxTail, 38, 4, true, 3, ⟨7, 4, false, #[]⟩, 0, none⟩, ⟨.nextBranch, 22, 3, true, 0, ⟨7, 4, true, #[some 0, none, some 0, none, some 1, none, some 3, some 3]⟩, 0, none⟩, ⟨.maxMore, 38, 3, true, 2, ⟨7, 4, true, #[some 0, none, some 0, none, some 1, none, some 2, some 3]⟩, 0, some 2⟩, ⟨.nextBranch, 22, 2, true, 0, ⟨7, 4, true, #[some 0, none, some 0, none, some 1, none, some 2, some 2]⟩, 0, none⟩, ⟨.maxMore, 38, 2, true, 1, ⟨7, 4, true, #[some 0, none, some 0, none, some 1, none, some 1, some 2]⟩, 0, some 1⟩, ⟨.nextBranch, 22, 1, true, 0, ⟨6, (-1), true, #[some 0, none, some 0, none, some 1, none, some 1]⟩, 0, none⟩, ⟨.maxMore, 38, 1, true, 0, ⟨4, (-1), true, #[some 0, none, some 0, none, some 1]⟩, 0, none⟩, ⟨.closeLoop, 15, 1, true, 0, ⟨(-1), (-1), false, #[]⟩, 0, none⟩, ⟨.nextBranch, 8, 0, true, 0, ⟨0, (-1), false, #[]⟩, 0, none⟩], 213, none, ⟨30925185, 4194304⟩, none⟩
def shT5_69 (c1 d1 c2 d2 : Nat) : Sre.M := ⟨sheetCode, (shT5_t c1 d1 c2 d2), 11, 0, 0, false, false, 185, 10, 10, true, #[some 0, some 5, some 0, some 5, some 1, some 4, some 3, some 4, none, none, some 6, none, some 6, some 7, some 7, some 8, some 8, none, some 9, some 10, some 10, none], 20, 10, #[⟨15, 2, some 3, none⟩, ⟨85, 0, some 6, none⟩, ⟨115, 0, some 7, none⟩, ⟨134, 0, some 8, none⟩, ⟨149, 0, some 9, some 3⟩, ⟨179, 0, some 10, some 3⟩], some 5, [⟨.maxMore, 198, 10, true, 0, ⟨19, 10, true, #[some 0, some 5, some 0, some 5, some 1, some 4, some 3, some 4, none, none, some 6, none, some 6, some 7, some 7, some 8, some 8, none, some 9, some 10]⟩, 5, none⟩, ⟨.closeLoop, 179, 10, true, 0, ⟨(-1), (-1), false, #[]⟩, 5, none⟩, ⟨.giveBack, 172, 10, true, 0, ⟨19, 10, true, #[some 0, some 5, some 0, some 5, some 1, some 4, some 3, some 4, none, none, some 6, none, some 6, some 7, some 7, some 8, some 8, none, some 9, some 10]⟩, 0, none⟩, ⟨.maxTail, 172, 10, true, 1, ⟨19, 10, false, #[]⟩, 4, none⟩, ⟨.giveBack, 155, 10, true, 1, ⟨18, 8, true, #[some 0, some 5, some 0, some 5, some 1, some 4, some 3, some 4, none, none, some 6, none, some 6, some 7, some 7, some 8, some 8, none, some 9]⟩, 0, none⟩, ⟨.maxMore, 172, 9, true, 0, ⟨16, 8, true, #[some 0, some 5, some 0, some 5, some 1, some 4, some 3, some 4, none, none, some 6, none, some 6, some 7, some 7, some 8, some 8]⟩, 4, none⟩, ⟨.closeLoop, 149, 9, true, 0, ⟨(-1), (-1), false, #[]⟩, 4, none⟩, ⟨.giveBack, 142, 9, true, 0, ⟨16, 8, true, #[some 0, some 5, some 0, some 5, some 1, some 4, some 3, some 4, none, none, some 6, none, some 6, some 7, some 7, some 8, some 8]⟩, 0, none⟩, ⟨.maxMore, 201, 8, true, 0, ⟨15, 8, true, #[some 0, some 5, some 0, some 5, some 1, some 4, some 3, some 4, none, none, some 6, none, some 6, some 7, some 7, some 8]⟩, 3, none⟩, ⟨.closeLoop, 134, 8, true, 0, ⟨(-1), (-1), false, #[]⟩, 3, none⟩, ⟨.maxTail, 134, 8, true, 1, ⟨15, 8, false, #[]⟩, 2, none⟩, ⟨.giveBack, 121, 8, true, 1, ⟨14, 7, true, #[some 0, some 5, some 0, some 5, some 1, some 4, some 3, some 4, none, none, some 6, none, some 6, some 7, some 7]⟩, 0, none⟩, ⟨.maxMore, 134, 7, true, 0, ⟨13, 7, true, #[some 0, some 5, some 0, some 5, some 1, some 4, some 3, some 4, none, none, some 6, none, some 6, some 7]⟩, 2, none⟩, ⟨.closeLoop, 115, 7, true, 0, ⟨(-1), (-1), false, #[]⟩, 2, none⟩, ⟨.giveBack, 108, 7, true, 0, ⟨13, 7, false, #[]⟩, 0, none⟩, ⟨.maxTail, 108, 7, true, 1, ⟨13, 7, false, #[]⟩, 1, none⟩, ⟨.giveBack, 91, 7, true, 1, ⟨12, 1, true, #[some 0, some 5, some 0, some 5, some 1, some 4, some 3, some 4, none, none, some 6, none, some 6]⟩, 0, none⟩, ⟨.maxMore, 108, 6, true, 0, ⟨10, 1, true, #[some 0, some 5, some 0, some 5, some 1, some 4, some 3, some 4, none, none, some 6]⟩, 1, none⟩, ⟨.closeLoop, 85, 6, true, 0, ⟨(-1), (-1), false, #[]⟩, 1, none⟩, ⟨.giveBack, 78, 6, true, 0, ⟨10, 1, false, #[]⟩, 0, none⟩, ⟨.maxTail, 38, 4, true, 3, ⟨7, 4, false, #[]⟩, 0, none⟩, ⟨.nextBranch, 22, 3, true, 0, ⟨7, 4, true, #[some 0, none, some 0, none, some 1, none, some 3, some 3]⟩, 0, none⟩, ⟨.maxMore, 38, 3, true, 2, ⟨7, 4, true, #[some 0, none, some 0, none, some 1, none, some 2, some 3]⟩, 0, some 2⟩, ⟨.nextBranch, 22, 2, true, 0, ⟨7, 4, true, #[some 0, none, some 0, none, some 1, none, some 2, some 2]⟩, 0, none⟩, ⟨.maxMore, 38, 2, true, 1, ⟨7, 4, true, #[some 0, none, some 0, none, some 1, none, some 1, some 2]⟩, 0, some 1⟩, ⟨.nextBranch, 22, 1, true, 0, ⟨6, (-1), true, #[some 0, none, some 0, none, some 1, none, some 1]⟩, 0, none⟩, ⟨.maxMore, 38, 1, true, 0, ⟨4, (-1), true, #[some 0, none, some 0, none, some 1]⟩, 0, none⟩, ⟨.closeLoop, 15, 1, true, 0, ⟨(-1), (-1), false, #[]⟩, 0, none⟩, ⟨.nextBranch, 8, 0, true, 0, ⟨0, (-1), false, #[]⟩, 0, none⟩], 235, none, ⟨30925185, 4194304⟩, none⟩
def shT5_70 (c1 d1 c2 d2 : Nat) : Sre.M := ⟨sheetCode, (shT5_t c1 d1 c2 d2), 11, 0, 0, false, false, 195, 11, 11, true, #[some 0, some 5, some 0, some 5, some 1, some 4, some 3, some 4, none, none, some 6, none, some 6, some 7, some 7, some 8, some 8, none, some 9, some 10, some 10, none], 20, 10, #[⟨15, 2, some 3, none⟩, ⟨85, 0, some 6, none⟩, ⟨115, 0, some 7, none⟩, ⟨134, 0, some 8, none⟩, ⟨149, 0, some 9, some 3⟩, ⟨179, 0, some 10, some 3⟩], some 5, [⟨.giveBack, 185, 11, true, 1, ⟨20, 10, true, #[some 0, some 5, some 0, some 5, some 1, some 4, some 3, some 4, none, none, some 6, none, some 6, some 7, some 7, some 8, some 8, none, some 9, some 10, some 10]⟩, 0, none⟩, ⟨.maxMore, 198, 10, true, 0, ⟨19, 10, true, #[some 0, some 5, some 0, some 5, some 1, some 4, some 3, some 4, none, none, some 6, none, some 6, some 7, some 7, some 8, some 8, none, some 9, some 10]⟩, 5, none⟩, ⟨.closeLoop, 179, 10, true, 0, ⟨(-1), (-1), false, #[]⟩, 5, none⟩, ⟨.giveBack, 172, 10, true, 0, ⟨19, 10, true, #[some 0, some 5, some 0, some 5, some 1, some 4, some 3, some 4, none, none, some 6, none, some 6, some 7, some 7, some 8, some 8, none, some 9, some 10]⟩, 0, none⟩, ⟨.maxTail, 172, 10, true, 1, ⟨19, 10, false, #[]⟩, 4, none⟩, ⟨.giveBack, 155, 10, true, 1, ⟨18, 8, true, #[some 0, some 5, some 0, some 5, some 1, some 4, some 3, some 4, none, none, some 6, none, some 6, some 7, some 7, some 8, some 8, none, some 9]⟩, 0, none⟩, ⟨.maxMore, 172, 9, true, 0, ⟨16, 8, true, #[some 0, some 5, some 0, some 5, some 1, some 4, some 3, some 4, none, none, some 6, none, some 6, some 7, some 7, some 8, some 8]⟩, 4, none⟩, ⟨.closeLoop, 149, 9, true, 0, ⟨(-1), (-1), false, #[]⟩, 4, none⟩, ⟨.giveBack, 142, 9, true, 0, ⟨16, 8, true, #[some 0, some 5, some 0, some 5, some 1, some 4, some 3, some 4, none, none, some 6, none, some 6, some 7, some 7, some 8, some 8]⟩, 0, none⟩, ⟨.maxMore, 201, 8, true, 0, ⟨15, 8, true, #[some 0, some 5, some 0, some 5, some 1, some 4, some 3, some 4, none, none, some 6, none, some 6, some 7, some 7, some 8]⟩, 3, none⟩, ⟨.closeLoop, 134, 8, true, 0, ⟨(-1), (-1), false, #[]⟩, 3, none⟩, ⟨.maxTail, 134, 8, true, 1, ⟨15, 8, false, #[]⟩, 2, none⟩, ⟨.giveBack, 121, 8, true, 1, ⟨14, 7, true, #[some 0, some 5, some 0, some 5, some 1, some 4, some 3, some 4, none, none, some 6, none, some 6, some 7, some 7]⟩, 0, none⟩, ⟨.maxMore, 134, 7, true, 0, ⟨13, 7, true, #[some 0, some 5, some 0, some 5, some 1, some 4, some 3, some 4, none, none, some 6, none, some 6, some 7]⟩, 2, none⟩, ⟨.closeLoop, 115, 7, true, 0, ⟨(-1), (-1), false, #[]⟩, 2, none⟩, ⟨.giveBack, 108, 7, true, 0, ⟨13, 7, false, #[]⟩, 0, none⟩, ⟨.maxTail, 108, 7, true, 1, ⟨13, 7, false, #[]⟩, 1, none⟩, ⟨.giveBack, 91, 7, true, 1, ⟨12, 1, true, #[some 0, some 5, some 0, some 5, some 1, some 4, some 3, some 4, none, none, some 6, none, some 6]⟩, 0, none⟩, ⟨.maxMore, 108, 6, true, 0, ⟨10, 1, true, #[some 0, some 5, some 0, some 5, some 1, some 4, some 3, some 4, none, none, some 6]⟩, 1, none⟩, ⟨.closeLoop, 85, 6, true, 0, ⟨(-1), (-1), false, #[]⟩, 1, none⟩, ⟨.giveBack, 78, 6, true, 0, ⟨10, 1, false, #[]⟩, 0, none⟩, ⟨.maxTail, 38, 4, true, 3, ⟨7, 4, false, #[]⟩, 0, none⟩, ⟨.nextBranch, 22, 3, true, 0, ⟨7, 4, true, #[some 0, none, some 0, none, some 1, none, some 3, some 3]⟩, 0, none⟩, ⟨.maxMore, 38, 3, true, 2, ⟨7, 4, true, #[some 0, none, some 0, none, some 1, none, some 2, some 3]⟩, 0, some 2⟩, ⟨.nextBranch, 22, 2, true, 0, ⟨7, 4, true, #[some 0, none, some 0, none, some 1, none, some 2, some 2]⟩, 0, none⟩, ⟨.maxMore, 38, 2, true, 1, ⟨7, 4, true, #[some 0, none, some 0, none, some 1, none, some 1, some 2]⟩, 0, some 1⟩, ⟨.nextBranch, 22, 1, true, 0, ⟨6, (-1), true, #[some 0, none, some 0, none, some 1, none, some 1]⟩, 0, none⟩, ⟨.maxMore, 38, 1, true, 0, ⟨4, (-1), true, #[some 0, none, some 0, none, some 1]⟩, 0, none⟩, ⟨.closeLoop, 15, 1, true, 0, ⟨(-1), (-1), false, #[]⟩, 0, none⟩, ⟨.nextBranch, 8, 0, true, 0, ⟨0, (-1), false, #[]⟩, 0, none⟩], 257, none, ⟨30925185, 4194304⟩, none⟩
def shT5_114 (c1 d1 c2 d2 : Nat) : Sre.M := ⟨sheetCode, (shT5_t c1 d1 c2 d2), 11, 0, 0, false, false, 8, 0, 11, true, #[some 0, some 5, some 0, some 5, some 1, some 4, some 3, some 4, none, none, some 6, some 11, some 6, some 7, some 7, some 8, some 8, some 11, some 9, some 10, some 10, some 11], 21, 6, #[], none, [], 0, some true, ⟨30925203, 4194304⟩, some .matched⟩
theorem shT5_r40 (c1 d1 c2 d2 : Nat) : (Sre.forMatch sheetCode (shT5_t c1 d1 c2 d2) 11 0 11 false false).runFor 40 = shT5_40 c1 d1 c2 d2 := eqM_eq (by kernel_rfl) (by kernel_rfl) (by kernel_rfl)
theorem shT5_r41 (c1 d1 c2 d2 : Nat) (hc1 : c1 ∈ [65, 66, 67, 68, 69]) : (shT5_40 c1 d1 c2 d2).runFor 1 = shT5_41 c1 d1 c2 d2 := by
  simp only [List.mem_cons, List.not_mem_nil, or_false] at hc1
  rcases hc1 with rfl | rfl | rfl | rfl | rfl <;> exact eqM_eq (by kernel_rfl) (by kernel_rfl) (by kernel_rfl)
theorem shT5_r44 (c1 d1 c2 d2 : Nat) : (shT5_41 c1 d1 c2 d2).runFor 3 = shT5_44 c1 d1 c2 d2 := eqM_eq (by kernel_rfl) (by kernel_rfl) (by kernel_rfl)
theorem shT5_r45 (c1 d1 c2 d2 : Nat) (hc1 : c1 ∈ [65, 66, 67, 68, 69]) (hd1 : d1 ∈ [49, 50, 51, 52, 53]) : (shT5_44 c1 d1 c2 d2).runFor 1 = shT5_45 c1 d1 c2 d2 := by
  simp only [List.mem_cons, List.not_mem_nil, or_false] at hc1
  simp only [List.mem_cons, List.not_mem_nil, or_false] at hd1
  rcases hc1 with rfl | rfl | rfl | rfl | rfl <;> rcases hd1 with rfl | rfl | rfl | rfl | rfl <;> exact eqM_eq (by kernel_rfl) (by kernel_rfl) (by kernel_rfl)
theorem shT5_r47 (c1 d1 c2 d2 : Nat) : (shT5_45 c1 d1 c2 d2).runFor 2 = shT5_47 c1 d1 c2 d2 := eqM_eq (by kernel_rfl) (by kernel_rfl) (by kernel_rfl)
theorem shT5_r48 (c1 d1 c2 d2 : Nat) (hd1 : d1 ∈ [49, 50, 51, 52, 53]) : (shT5_47 c1 d1 c2 d2).runFor 1 = shT5_48 c1 d1 c2 d2 := by
  simp only [List.mem_cons, List.not_mem_nil, or_false] at hd1
  rcases hd1 with rfl | rfl | rfl | rfl | rfl <;> exact eqM_eq (by kernel_rfl) (by kernel_rfl) (by kernel_rfl)
theorem shT5_r51 (c1 d1 c2 d2 : Nat) : (shT5_48 c1 d1 c2 d2).runFor 3 = shT5_51 c1 d1 c2 d2 := eqM_eq (by kernel_rfl) (by kernel_rfl) (by kernel_rfl)
theorem shT5_r52 (c1 d1 c2 d2 : Nat) (hd1 : d1 ∈ [49, 50, 51, 52, 53]) : (shT5_51 c1 d1 c2 d2).runFor 1 = shT5_52 c1 d1 c2 d2 := by
  simp only [List.mem_cons, List.not_mem_nil, or_false] at hd1
  rcases hd1 with rfl | rfl | rfl | rfl | rfl <;> exact eqM_eq (by kernel_rfl) (by kernel_rfl) (by kernel_rfl)
theorem shT5_r58 (c1 d1 c2 d2 : Nat) : (shT5_52 c1 d1 c2 d2).runFor 6 = shT5_58 c1 d1 c2 d2 := eqM_eq (by kernel_rfl) (by kernel_rfl) (by kernel_rfl)
theorem shT5_r59 (c1 d1 c2 d2 : Nat) (hc2 : c2 ∈ [65, 66, 67, 68, 69]) : (shT5_58 c1 d1 c2 d2).runFor 1 = shT5_59 c1 d1 c2 d2 := by
  simp only [List.mem_cons, List.not_mem_nil, or_false] at hc2
  rcases hc2 with rfl | rfl | rfl | rfl | rfl <;> exact eqM_eq (by kernel_rfl) (by kernel_rfl) (by kernel_rfl)
theorem shT5_r62 (c1 d1 c2 d2 : Nat) : (shT5_59 c1 d1 c2 d2).runFor 3 = shT5_62 c1 d1 c2 d2 := eqM_eq (by kernel_rfl) (by kernel_rfl) (by kernel_rfl)
theorem shT5_r63 (c1 d1 c2 d2 : Nat) (hc2 : c2 ∈ [65, 66, 67, 68, 69]) (hd2 : d2 ∈ [49, 50, 51, 52, 53]) : (shT5_62 c1 d1 c2 d2).runFor 1 = shT5_63 c1 d1 c2 d2 := by
  simp only [List.mem_cons, List.not_mem_nil, or_false] at hc2
  simp only [List.mem_cons, List.not_mem_nil, or_false] at hd2
  rcases hc2 with rfl | rfl | rfl | rfl | rfl <;> rcases hd2 with rfl | rfl | rfl | rfl | rfl <;> exact eqM_eq (by kernel_rfl) (by kernel_rfl) (by kernel_rfl)
theorem shT5_r65 (c1 d1 c2 d2 : Nat) : (shT5_63 c1 d1 c2 d2).runFor 2 = shT5_65 c1 d1 c2 d2 := eqM_eq (by kernel_rfl) (by kernel_rfl) (by kernel_rfl)
theorem shT5_r66 (c1 d1 c2 d2 : Nat) (hd2 : d2 ∈ [49, 50, 51, 52, 53]) : (shT5_65 c1 d1 c2 d2).runFor 1 = shT5_66 c1 d1 c2 d2 := by
  simp only [List.mem_cons, List.not_mem_nil, or_false] at hd2
  rcases hd2 with rfl | rfl | rfl | rfl | rfl <;> exact eqM_eq (by kernel_rfl) (by kernel_rfl) (by kernel_rfl)
theorem shT5_r69 (c1 d1 c2 d2 : Nat) : (shT5_66 c1 d1 c2 d2).runFor 3 = shT5_69 c1 d1 c2 d2 := eqM_eq (by kernel_rfl) (by kernel_rfl) (by kernel_rfl)
theorem shT5_r70 (c1 d1 c2 d2 : Nat) (hd2 : d2 ∈ [49, 50, 51, 52, 53]) : (shT5_69 c1 d1 c2 d2).runFor 1 = shT5_70 c1 d1 c2 d2 := by
  simp only [List.mem_cons, List.not_mem_nil, or_false] at hd2
  rcases hd2 with rfl | rfl | rfl | rfl | rfl <;> exact eqM_eq (by kernel_rfl) (by kernel_rfl) (by kernel_rfl)
theorem shT5_r114 (c1 d1 c2 d2 : Nat) : (shT5_70 c1 d1 c2 d2).runFor 44 = shT5_114 c1 d1 c2 d2 := eqM_eq (by kernel_rfl) (by kernel_rfl) (by kernel_rfl)
theorem shT5_run (c1 d1 c2 d2 : Nat) (hc1 : c1 ∈ [65, 66, 67, 68, 69]) (hd1 : d1 ∈ [49, 50, 51, 52, 53]) (hc2 : c2 ∈ [65, 66, 67, 68, 69]) (hd2 : d2 ∈ [49, 50, 51, 52, 53]) : (Sre.forMatch sheetCode (shT5_t c1 d1 c2 d2) 11 0 11 false false).runFor 116 = shT5_114 c1 d1 c2 d2 := by
  rw [show (116 : Nat) = 40 + 76 from rfl, runFor_add, shT5_r40 c1 d1 c2 d2 ]
  rw [show (76 : Nat) = 1 + 75 from rfl, runFor_add, shT5_r41 c1 d1 c2 d2 hc1]
  rw [show (75 : Nat) = 3 + 72 from rfl, runFor_add, shT5_r44 c1 d1 c2 d2 ]
  rw [show (72 : Nat) = 1 + 71 from rfl, runFor_add, shT5_r45 c1 d1 c2 d2 hc1 hd1]
  rw [show (71 : Nat) = 2 + 69 from rfl, runFor_add, shT5_r47 c1 d1 c2 d2 ]
  rw [show (69 : Nat) = 1 + 68 from rfl, runFor_add, shT5_r48 c1 d1 c2 d2 hd1]
  rw [show (68 : Nat) = 3 + 65 from rfl, runFor_add, shT5_r51 c1 d1 c2 d2 ]
  rw [show (65 : Nat) = 1 + 64 from rfl, runFor_add, shT5_r52 c1 d1 c2 d2 hd1]
  rw [show (64 : Nat) = 6 + 58 from rfl, runFor_add, shT5_r58 c1 d1 c2 d2 ]
  rw [show (58 : Nat) = 1 + 57 from rfl, runFor_add, shT5_r59 c1 d1 c2 d2 hc2]
  rw [show (57 : Nat) = 3 + 54 from rfl, runFor_add, shT5_r62 c1 d1 c2 d2 ]
  rw [show (54 : Nat) = 1 + 53 from rfl, runFor_add, shT5_r63 c1 d1 c2 d2 hc2 hd2]
  rw [show (53 : Nat) = 2 + 51 from rfl, runFor_add, shT5_r65 c1 d1 c2 d2 ]
  rw [show (51 : Nat) = 1 + 50 from rfl, runFor_add, shT5_r66 c1 d1 c2 d2 hd2]
  rw [show (50 : Nat) = 3 + 47 from rfl, runFor_add, shT5_r69 c1 d1 c2 d2 ]
  rw [show (47 : Nat) = 1 + 46 from rfl, runFor_add, shT5_r70 c1 d1 c2 d2 hd2]
  rw [show (46 : Nat) = 44 + 2 from rfl, runFor_add, shT5_r114 c1 d1 c2 d2 ]
  rfl
def shT2_t (c1 d1 : Nat) : Array Nat := #[39, 84, 33, 120, 39, 33, c1, d1]
def shT2_0 (c1 d1 : Nat) : Sre.M := ⟨sheetCode, (shT2_t c1 d1), 8, 0, 0, false, false, 5, 0, 0, true, #[none, none, none, none, none, none, none, none, none, none, none, none, none, none, none, none, none, none, none, none, none, none], (-1), (-1), #[], none, [], 0, none, ⟨16384, 0⟩, none⟩
def shT2_40 (c1 d1 : Nat) : Sre.M := ⟨sheetCode, (shT2_t c1 d1), 8, 0, 0, false, false, 78, 6, 4, true, #[some 0, some 5, some 0, some 5, some 1, some 4, some 3, some 4, none, none, some 6, none, none, none, none, none, none, none, none, none, none, none], 10, 1, #[⟨15, 2, some 3, none⟩], none, [⟨.maxTail, 38, 4, true, 3, ⟨7, 4, false, #[]⟩, 0, none⟩, ⟨.nextBranch, 22, 3, true, 0, ⟨7, 4, true, #[some 0, none, some 0, none, some 1, none, some 3, some 3]⟩, 0, none⟩, ⟨.maxMore, 38, 3, true, 2, ⟨7, 4, true, #[some 0, none, some 0, none, some 1, none, some 2, some 3]⟩, 0, some 2⟩, ⟨.nextBranch, 22, 2, true, 0, ⟨7, 4, true, #[some 0, none, some 0, none, some 1, none, some 2, some 2]⟩, 0, none⟩, ⟨.maxMore, 38, 2, true, 1, ⟨7, 4, true, #[some 0, none, some 0, none, some 1, none, some 1, some 2]⟩, 0, some 1⟩, ⟨.nextBranch, 22, 1, true, 0, ⟨6, (-1), true, #[some 0, none, some 0, none, some 1, none, some 1]⟩, 0, none⟩, ⟨.maxMore, 38, 1, true, 0, ⟨4, (-1), true, #[some 0, none, some 0, none, some 1]⟩, 0, none⟩, ⟨.closeLoop, 15, 1, true, 0, ⟨(-1), (-1), false, #[]⟩, 0, none⟩, ⟨.nextBranch, 8, 0, true, 0, ⟨0, (-1), false, #[]⟩, 0, none⟩], 53, none, ⟨9945216, 0⟩, none⟩
def shT2_41 (c1 d1 : Nat) : Sre.M := ⟨sheetCode, (shT2_t c1 d1), 8, 0, 0, false, false, 85, 6, 6, true, #[some 0, some 5, some 0, some 5, some 1, some 4, some 3, some 4, none, none, some 6, none, none, none, none, none, none, none, none, none, none, none], 10, 1, #[⟨15, 2, some 3, none⟩], none, [⟨.giveBack, 78, 6, true, 0, ⟨10, 1, false, #[]⟩, 0, none⟩, ⟨.maxTail, 38, 4, true, 3, ⟨7, 4, false, #[]⟩, 0, none⟩, ⟨.nextBranch, 22, 3, true, 0, ⟨7, 4, true, #[some 0, none, some 0, none, some 1, none, some 3, some 3]⟩, 0, none⟩, ⟨.maxMore, 38, 3, true, 2, ⟨7, 4, true, #[some 0, none, some 0, none, some 1, none, some 2, some 3]⟩, 0, some 2⟩, ⟨.nextBranch, 22, 2, true, 0, ⟨7, 4, true, #[some 0, none, some 0, none, some 1, none, some 2, some 2]⟩, 0, none⟩, ⟨.maxMore, 38, 2, true, 1, ⟨7, 4, true, #[some 0, none, some 0, none, some 1, none, some 1, some 2]⟩, 0, some 1⟩, ⟨.nextBranch, 22, 1, true, 0, ⟨6, (-1), true, #[some 0, none, some 0, none, some 1, none, some 1]⟩, 0, none⟩, ⟨.maxMore, 38, 1, true, 0, ⟨4, (-1), true, #[some 0, none, some 0, none, some 1]⟩, 0, none⟩, ⟨.closeLoop, 15, 1, true, 0, ⟨(-1), (-1), false, #[]⟩, 0, none⟩, ⟨.nextBranch, 8, 0, true, 0, ⟨0, (-1), false, #[]⟩, 0, none⟩], 54, none, ⟨26722432, 0⟩, none⟩
def shT2_44 (c1 d1 : Nat) : Sre.M := ⟨sheetCode, (shT2_t c1 d1), 8, 0, 0, false, false, 91, 6, 6, true, #[some 0, some 5, some 0, some 5, some 1, some 4, some 3, some 4, none, none, some 6, none, some 6, none, none, none, none, none, none, none, none, none], 12, 1, #[⟨15, 2, some 3, none⟩, ⟨85, 0, some 6, none⟩], some 1, [⟨.maxMore, 108, 6, true, 0, ⟨10, 1, true, #[some 0, some 5, some 0, some 5, some 1, some 4, some 3, some 4, none, none, some 6]⟩, 1, none⟩, ⟨.closeLoop, 85, 6, true, 0, ⟨(-1), (-1), false, #[]⟩, 1, none⟩, ⟨.giveBack, 78, 6, true, 0, ⟨10, 1, false, #[]⟩, 0, none⟩, ⟨.maxTail, 38, 4, true, 3, ⟨7, 4, false, #[]⟩, 0, none⟩, ⟨.nextBranch, 22, 3, true, 0, ⟨7, 4, true, #[some 0, none, some 0, none, some 1, none, some 3, some 3]⟩, 0, none⟩, ⟨.maxMore, 38, 3, true, 2, ⟨7, 4, true, #[some 0, none, some 0, none, some 1, none, some 2, some 3]⟩, 0, some 2⟩, ⟨.nextBranch, 22, 2, true, 0, ⟨7, 4, true, #[some 0, none, some 0, none, some 1, none, some 2, some 2]⟩, 0, none⟩, ⟨.maxMore, 38, 2, true, 1, ⟨7, 4, true, #[some 0, none, some 0, none, some 1, none, some 1, some 2]⟩, 0, some 1⟩, ⟨.nextBranch, 22, 1, true, 0, ⟨6, (-1), true, #[some 0, none, some 0, none, some 1, none, some 1]⟩, 0, none⟩, ⟨.maxMore, 38, 1, true, 0, ⟨4, (-1), true, #[some 0, none, some 0, none, some 1]⟩, 0, none⟩, ⟨.closeLoop, 15, 1, true, 0, ⟨(-1), (-1), false, #[]⟩, 0, none⟩, ⟨.nextBranch, 8, 0, true, 0, ⟨0, (-1), false, #[]⟩, 0, none⟩], 67, none, ⟨26722432, 0⟩, none⟩
def shT2_45 (c1 d1 : Nat) : Sre.M := ⟨sheetCode, (shT2_t c1 d1), 8, 0, 0, false, false, 105, 7, 7, true, #[some 0, some 5, some 0, some 5, some 1, some 4, some 3, some 4, none, none, some 6, none, some 6, none, none, none, none, none, none, none, none, none], 12, 1, #[⟨15, 2, some 3, none⟩, ⟨85, 0, some 6, none⟩], some 1, [⟨.giveBack, 91, 7, true, 1, ⟨12, 1, true, #[some 0, some 5, some 0, some 5, some 1, some 4, some 3, some 4, none, none, some 6, none, some 6]⟩, 0, none⟩, ⟨.maxMore, 108, 6, true, 0, ⟨10, 1, true, #[some 0, some 5, some 0, some 5, some 1, some 4, some 3, some 4, none, none, some 6]⟩, 1, none⟩, ⟨.closeLoop, 85, 6, true, 0, ⟨(-1), (-1), false, #[]⟩, 1, none⟩, ⟨.giveBack, 78, 6, true, 0, ⟨10, 1, false, #[]⟩, 0, none⟩, ⟨.maxTail, 38, 4, true, 3, ⟨7, 4, false, #[]⟩, 0, none⟩, ⟨.nextBranch, 22, 3, true, 0, ⟨7, 4, true, #[some 0, none, some 0, none, some 1, none, some 3, some 3]⟩, 0, none⟩, ⟨.maxMore, 38, 3, true, 2, ⟨7, 4, true, #[some 0, none, some 0, none, some 1, none, some 2, some 3]⟩, 0, some 2⟩, ⟨.nextBranch, 22, 2, true, 0, ⟨7, 4, true, #[some 0, none, some 0, none, some 1, none, some 2, some 2]⟩, 0, none⟩, ⟨.maxMore, 38, 2, true, 1, ⟨7, 4, true, #[some 0, none, some 0, none, some 1, none, some 1, some 2]⟩, 0, some 1⟩, ⟨.nextBranch, 22, 1, true, 0, ⟨6, (-1), true, #[some 0, none, some 0, none, some 1, none, some 1]⟩, 0, none⟩, ⟨.maxMore, 38, 1, true, 0, ⟨4, (-1), true, #[some 0, none, some 0, none, some 1]⟩, 0, none⟩, ⟨.closeLoop, 15, 1, true, 0, ⟨(-1), (-1), false, #[]⟩, 0, none⟩, ⟨.nextBranch, 8, 0, true, 0, ⟨0, (-1), false, #[]⟩, 0, none⟩], 81, none, ⟨30924929, 0⟩, none⟩
def shT2_47 (c1 d1 : Nat) : Sre.M := ⟨sheetCode, (shT2_t c1 d1), 8, 0, 0, false, false, 108, 7, 7, true, #[some 0, some 5, some 0, some 5, some 1, some 4, some 3, some 4, none, none, some 6, none, some 6, some 7, none, none, none, none, none, none, none, none], 13, 7, #[⟨15, 2, some 3, none⟩, ⟨85, 0, some 6, none⟩], none, [⟨.maxTail, 108, 7, true, 1, ⟨13, 7, false, #[]⟩, 1, none⟩, ⟨.giveBack, 91, 7, true, 1, ⟨12, 1, true, #[some 0, some 5, some 0, some 5, some 1, some 4, some 3, some 4, none, none, some 6, none, some 6]⟩, 0, none⟩, ⟨.maxMore, 108, 6, true, 0, ⟨10, 1, true, #[some 0, some 5, some 0, some 5, some 1, some 4, some 3, some 4, none, none, some 6]⟩, 1, none⟩, ⟨.closeLoop, 85, 6, true, 0, ⟨(-1), (-1), false, #[]⟩, 1, none⟩, ⟨.giveBack, 78, 6, true, 0, ⟨10, 1, false, #[]⟩, 0, none⟩, ⟨.maxTail, 38, 4, true, 3, ⟨7, 4, false, #[]⟩, 0, none⟩, ⟨.nextBranch, 22, 3, true, 0, ⟨7, 4, true, #[some 0, none, some 0, none, some 1, none, some 3, some 3]⟩, 0, none⟩, ⟨.maxMore, 38, 3, true, 2, ⟨7, 4, true, #[some 0, none, some 0, none, some 1, none, some 2, some 3]⟩, 0, some 2⟩, ⟨.nextBranch, 22, 2, true, 0, ⟨7, 4, true, #[some 0, none, some 0, none, some 1, none, some 2, some 2]⟩, 0, none⟩, ⟨.maxMore, 38, 2, true, 1, ⟨7, 4, true, #[some 0, none, some 0, none, some 1, none, some 1, some 2]⟩, 0, some 1⟩, ⟨.nextBranch, 22, 1, true, 0, ⟨6, (-1), true, #[some 0, none, some 0, none, some 1, none, some 1]⟩, 0, none⟩, ⟨.maxMore, 38, 1, true, 0, ⟨4, (-1), true, #[some 0, none, some 0, none, some 1]⟩, 0, none⟩, ⟨.closeLoop, 15, 1, true, 0, ⟨(-1), (-1), false, #[]⟩, 0, none⟩, ⟨.nextBranch, 8, 0, true, 0, ⟨0, (-1), false, #[]⟩, 0, none⟩], 82, none, ⟨30924929, 0⟩, none⟩
def shT2_48 (c1 d1 : Nat) : Sre.M := ⟨sheetCode, (shT2_t c1 d1), 8, 0, 0, false, false, 115, 7, 7, true, #[some 0, some 5, some 0, some 5, some 1, some 4, some 3, some 4, none, none, some 6, none, some 6, some 7, none, none, none, none, none, none, none, none], 13, 7, #[⟨15, 2, some 3, none⟩, ⟨85, 0, some 6, none⟩], none, [⟨.giveBack, 108, 7, true, 0, ⟨13, 7, false, #[]⟩, 0, none⟩, ⟨.maxTail, 108, 7, true, 1, ⟨13, 7, false, #[]⟩, 1, none⟩, ⟨.giveBack, 91, 7, true, 1, ⟨12, 1, true, #[some 0, some 5, some 0, some 5, some 1, some 4, some 3, some 4, none, none, some 6, none, some 6]⟩, 0, none⟩, ⟨.maxMore, 108, 6, true, 0, ⟨10, 1, true, #[some 0, some 5, some 0, some 5, some 1, some 4, some 3, some 4, none, none, some 6]⟩, 1, none⟩, ⟨.closeLoop, 85, 6, true, 0, ⟨(-1), (-1), false, #[]⟩, 1, none⟩, ⟨.giveBack, 78, 6, true, 0, ⟨10, 1, false, #[]⟩, 0, none⟩, ⟨.maxTail, 38, 4, true, 3, ⟨7, 4, false, #[]⟩, 0, none⟩, ⟨.nextBranch, 22, 3, true, 0, ⟨7, 4, true, #[some 0, none, some 0, none, some 1, none, some 3, some 3]⟩, 0, none⟩, ⟨.maxMore, 38, 3, true, 2, ⟨7, 4, true, #[some 0, none, some 0, none, some 1, none, some 2, some 3]⟩, 0, some 2⟩, ⟨.nextBranch, 22, 2, true, 0, ⟨7, 4, true, #[some 0, none, some 0, none, some 1, none, some 2, some 2]⟩, 0, none⟩, ⟨.maxMore, 38, 2, true, 1, ⟨7, 4, true, #[some 0, none, some 0, none, some 1, none, some 1, some 2]⟩, 0, some 1⟩, ⟨.nextBranch, 22, 1, true, 0, ⟨6, (-1), true, #[some 0, none, some 0, none, some 1, none, some 1]⟩, 0, none⟩, ⟨.maxMore, 38, 1, true, 0, ⟨4, (-1), true, #[some 0, none, some 0, none, some 1]⟩, 0, none⟩, ⟨.closeLoop, 15, 1, true, 0, ⟨(-1), (-1), false, #[]⟩, 0, none⟩, ⟨.nextBranch, 8, 0, true, 0, ⟨0, (-1), false, #[]⟩, 0, none⟩], 83, none, ⟨30924929, 0⟩, none⟩
def shT2_51 (c1 d1 : Nat) : Sre.M := ⟨sheetCode, (shT2_t c1 d1), 8, 0, 0, false, false, 121, 7, 7, true, #[some 0, some 5, some 0, some 5, some 1, some 4, some 3, some 4, none, none, some 6, none, some 6, some 7, some 7, none, none, none, none, none, none, none], 14, 7, #[⟨15, 2, some 3, none⟩, ⟨85, 0, some 6, none⟩, ⟨115, 0, some 7, none⟩], some 2, [⟨.maxMore, 134, 7, true, 0, ⟨13, 7, true, #[some 0, some 5, some 0, some 5, some 1, some 4, some 3, some 4, none, none, some 6, none, some 6, some 7]⟩, 2, none⟩, ⟨.closeLoop, 115, 7, true, 0, ⟨(-1), (-1), false, #[]⟩, 2, none⟩, ⟨.giveBack, 108, 7, true, 0, ⟨13, 7, false, #[]⟩, 0, none⟩, ⟨.maxTail, 108, 7, true, 1, ⟨13, 7, false, #[]⟩, 1, none⟩, ⟨.giveBack, 91, 7, true, 1, ⟨12, 1, true, #[some 0, some 5, some 0, some 5, some 1, some 4, some 3, some 4, none, none, some 6, none, some 6]⟩, 0, none⟩, ⟨.maxMore, 108, 6, true, 0, ⟨10, 1, true, #[some 0, some 5, some 0, some 5, some 1, some 4, some 3, some 4, none, none, some 6]⟩, 1, none⟩, ⟨.closeLoop, 85, 6, true, 0, ⟨(-1), (-1), false, #[]⟩, 1, none⟩, ⟨.giveBack, 78, 6, true, 0, ⟨10, 1, false, #[]⟩, 0, none⟩, ⟨.maxTail, 38, 4, true, 3, ⟨7, 4, false, #[]⟩, 0, none⟩, ⟨.nextBranch, 22, 3, true, 0, ⟨7, 4, true, #[some 0, none, some 0, none, some 1, none, some 3, some 3]⟩, 0, none⟩, ⟨.maxMore, 38, 3, true, 2, ⟨7, 4, true, #[some 0, none, some 0, none, some 1, none, some 2, some 3]⟩, 0, some 2⟩, ⟨.nextBranch, 22, 2, true, 0, ⟨7, 4, true, #[some 0, none, some 0, none, some 1, none, some 2, some 2]⟩, 0, none⟩, ⟨.maxMore, 38, 2, true, 1, ⟨7, 4, true, #[some 0, none, some 0, none, some 1, none, some 1, some 2]⟩, 0, some 1⟩, ⟨.nextBranch, 22, 1, true, 0, ⟨6, (-1), true, #[some 0, none, some 0, none, some 1, none, some 1]⟩, 0, none⟩, ⟨.maxMore, 38, 1, true, 0, ⟨4, (-1), true, #[some 0, none, some 0, none, some 1]⟩, 0, none⟩, ⟨.closeLoop, 15, 1, true, 0, ⟨(-1), (-1), false, #[]⟩, 0, none⟩, ⟨.nextBranch, 8, 0, true, 0, ⟨0, (-1), false, #[]⟩, 0, none⟩], 99, none, ⟨30924929, 0⟩, none⟩
def shT2_52 (c1 d1 : Nat) : Sre.M := ⟨sheetCode, (shT2_t c1 d1), 8, 0, 0, false, false, 131, 8, 8, true, #[some 0, some 5, some 0, some 5, some 1, some 4, some 3, some 4, none, none, some 6, none, some 6, some 7, some 7, none, none, none, none, none, none, none], 14, 7, #[⟨15, 2, some 3, none⟩, ⟨85, 0, some 6, none⟩, ⟨115, 0, some 7, none⟩], some 2, [⟨.giveBack, 121, 8, true, 1, ⟨14, 7, true, #[some 0, some 5, some 0, some 5, some 1, some 4, some 3, some 4, none, none, some 6, none, some 6, some 7, some 7]⟩, 0, none⟩, ⟨.maxMore, 134, 7, true, 0, ⟨13, 7, true, #[some 0, some 5, some 0, some 5, some 1, some 4, some 3, some 4, none, none, some 6, none, some 6, some 7]⟩, 2, none⟩, ⟨.closeLoop, 115, 7, true, 0, ⟨(-1), (-1), false, #[]⟩, 2, none⟩, ⟨.giveBack, 108, 7, true, 0, ⟨13, 7, false, #[]⟩, 0, none⟩, ⟨.maxTail, 108, 7, true, 1, ⟨13, 7, false, #[]⟩, 1, none⟩, ⟨.giveBack, 91, 7, true, 1, ⟨12, 1, true, #[some 0, some 5, some 0, some 5, some 1, some 4, some 3, some 4, none, none, some 6, none, some 6]⟩, 0, none⟩, ⟨.maxMore, 108, 6, true, 0, ⟨10, 1, true, #[some 0, some 5, some 0, some 5, some 1, some 4, some 3, some 4, none, none, some 6]⟩, 1, none⟩, ⟨.closeLoop, 85, 6, true, 0, ⟨(-1), (-1), false, #[]⟩, 1, none⟩, ⟨.giveBack, 78, 6, true, 0, ⟨10, 1, false, #[]⟩, 0, none⟩, ⟨.maxTail, 38, 4, true, 3, ⟨7, 4, false, #[]⟩, 0, none⟩, ⟨.nextBranch, 22, 3, true, 0, ⟨7, 4, true, #[some 0, none, some 0, none, some 1, none, some 3, some 3]⟩, 0, none⟩, ⟨.maxMore, 38, 3, true, 2, ⟨7, 4, true, #[some 0, none, some 0, none, some 1, none, some 2, some 3]⟩, 0, some 2⟩, ⟨.nextBranch, 22, 2, true, 0, ⟨7, 4, true, #[some 0, none, some 0, none, some 1, none, some 2, some 2]⟩, 0, none⟩, ⟨.maxMore, 38, 2, true, 1, ⟨7, 4, true, #[some 0, none, some 0, none, some 1, none, some 1, some 2]⟩, 0, some 1⟩, ⟨.nextBranch, 22, 1, true, 0, ⟨6, (-1), true, #[some 0, none, some 0, none, some 1, none, some 1]⟩, 0, none⟩, ⟨.maxMore, 38, 1, true, 0, ⟨4, (-1), true, #[some 0, none, some 0, none, some 1]⟩, 0, none⟩, ⟨.closeLoop, 15, 1, true, 0, ⟨(-1), (-1), false, #[]⟩, 0, none⟩, ⟨.nextBranch, 8, 0, true, 0, ⟨0, (-1), false, #[]⟩, 0, none⟩], 115, none, ⟨30925185, 4194304⟩, none⟩
def shT2_88 (c1 d1 : Nat) : Sre.M := ⟨sheetCode, (shT2_t c1 d1), 8, 0, 0, false, false, 8, 0, 8, true, #[some 0, some 5, some 0, some 5, some 1, some 4, some 3, some 4, none, none, some 6, some 8, some 6, some 7, some 7, some 8, some 8, none, none, none, none, none], 15, 6, #[], none, [], 0, some true, ⟨30925203, 4194304⟩, some .matched⟩
theorem shT2_r40 (c1 d1 : Nat) : (Sre.forMatch sheetCode (shT2_t c1 d1) 11 0 8 false false).runFor 40 = shT2_40 c1 d1 := eqM_eq (by kernel_rfl) (by kernel_rfl) (by kernel_rfl)
theorem shT2_r41 (c1 d1 : Nat) (hc1 : c1 ∈ [65, 66, 67, 68, 69]) : (shT2_40 c1 d1).runFor 1 = shT2_41 c1 d1 := by
  simp only [List.mem_cons, List.not_mem_nil, or_false] at hc1
  rcases hc1 with rfl | rfl | rfl | rfl | rfl <;> exact eqM_eq (by kernel_rfl) (by kernel_rfl) (by kernel_rfl)
theorem shT2_r44 (c1 d1 : Nat) : (shT2_41 c1 d1).runFor 3 = shT2_44 c1 d1 := eqM_eq (by kernel_rfl) (by kernel_rfl) (by kernel_rfl)
theorem shT2_r45 (c1 d1 : Nat) (hc1 : c1 ∈ [65, 66, 67, 68, 69]) (hd1 : d1 ∈ [49, 50, 51, 52, 53]) : (shT2_44 c1 d1).runFor 1 = shT2_45 c1 d1 := by
  simp only [List.mem_cons, List.not_mem_nil, or_false] at hc1
  simp only [List.mem_cons, List.not_mem_nil, or_false] at hd1
  rcases hc1 with rfl | rfl | rfl | rfl | rfl <;> rcases hd1 with rfl | rfl | rfl | rfl | rfl <;> exact eqM_eq (by kernel_rfl) (by kernel_rfl) (by kernel_rfl)
theorem shT2_r47 (c1 d1 : Nat) : (shT2_45 c1 d1).runFor 2 = shT2_47 c1 d1 := eqM_eq (by kernel_rfl) (by kernel_rfl) (by kernel_rfl)
theorem shT2_r48 (c1 d1 : Nat) (hd1 : d1 ∈ [49, 50, 51, 52, 53]) : (shT2_47 c1 d1).runFor 1 = shT2_48 c1 d1 := by
  simp only [List.mem_cons, List.not_mem_nil, or_false] at hd1
  rcases hd1 with rfl | rfl | rfl | rfl | rfl <;> exact eqM_eq (by kernel_rfl) (by kernel_rfl) (by kernel_rfl)
theorem shT2_r51 (c1 d1 : Nat) : (shT2_48 c1 d1).runFor 3 = shT2_51 c1 d1 := eqM_eq (by kernel_rfl) (by kernel_rfl) (by kernel_rfl)
theorem shT2_r52 (c1 d1 : Nat) (hd1 : d1 ∈ [49, 50, 51, 52, 53]) : (shT2_51 c1 d1).runFor 1 = shT2_52 c1 d1 := by
  simp only [List.mem_cons, List.not_mem_nil, or_false] at hd1
  rcases hd1 with rfl | rfl | rfl | rfl | rfl <;> exact eqM_eq (by kernel_rfl) (by kernel_rfl) (by kernel_rfl)
theorem shT2_r88 (c1 d1 : Nat) : (shT2_52 c1 d1).runFor 36 = shT2_88 c1 d1 := eqM_eq (by kernel_rfl) (by kernel_rfl) (by kernel_rfl)
theorem shT2_run (c1 d1 : Nat) (hc1 : c1 ∈ [65, 66, 67, 68, 69]) (hd1 : d1 ∈ [49, 50, 51, 52, 53]) : (Sre.forMatch sheetCode (shT2_t c1 d1) 11 0 8 false false).runFor 88 = shT2_88 c1 d1 := by
  rw [show (88 : Nat) = 40 + 48 from rfl, runFor_add, shT2_r40 c1 d1 ]
  rw [show (48 : Nat) = 1 + 47 from rfl, runFor_add, shT2_r41 c1 d1 hc1]
  rw [show (47 : Nat) = 3 + 44 from rfl, runFor_add, shT2_r44 c1 d1 ]
  rw [show (44 : Nat) = 1 + 43 from rfl, runFor_add, shT2_r45 c1 d1 hc1 hd1]
  rw [show (43 : Nat) = 2 + 41 from rfl, runFor_add, shT2_r47 c1 d1 ]
  rw [show (41 : Nat) = 1 + 40 from rfl, runFor_add, shT2_r48 c1 d1 hd1]
  rw [show (40 : Nat) = 3 + 37 from rfl, runFor_add, shT2_r51 c1 d1 ]
  rw [show (37 : Nat) = 1 + 36 from rfl, runFor_add, shT2_r52 c1 d1 hd1]
  rw [show (36 : Nat) = 36 + 0 from rfl, runFor_add, shT2_r88 c1 d1 ]
  rfl
end Mine

end
section
open PySem PySem.W PySem.W.X PyProof.Rows PySem.Builtin PySem.Builtin.Re
namespace Mine
local macro_rules | `(tactic| walk_at "pad") => `(tactic| fail "pad")
theorem runFor_done {m : Sre.M} (h : m.outcome.isSome = true) : ∀ k, m.runFor k = m
  | 0 => rfl
  | k + 1 => by show (if m.outcome.isSome then m else _) = m; rw [h, if_pos rfl]
theorem reDrive_wp {M : Model} {A : Around} {s : Shared} {Q : Sre.M → Shared → Prop} {E : Value → Shared → Prop} : ∀ (k : Nat) {turns : Nat} {m : Sre.M}, k < turns → (m.runFor (4 * (k + 1))).outcome.isSome = true → Q (m.runFor (4 * (k + 1))) s → wpAny M A (reDrive turns m) Q E s
  | k, 0, m, ht, _, _ => absurd ht (Nat.not_lt_zero _)
  | k, n + 1, m, ht, hd, hq => by
    have e : m.runFor (4 * (k + 1)) = (m.runFor 4).runFor (4 * k) := by rw [Nat.mul_succ, Nat.add_comm, runFor_add]
    rw [e] at hd hq
    show wpAny M A (if (m.runFor 4).outcome.isSome then pure (m.runFor 4) else rule "sre.turn" >>= fun _ => reDrive n (m.runFor 4)) Q E s
    cases h : (m.runFor 4).outcome.isSome with
    | true => rw [if_pos rfl]; rw [runFor_done h] at hq; exact wpAny_pure hq
    | false =>
      rw [if_neg (by decide)]
      refine wpAny_bind (wpAny_rule ?_)
      cases k with
      | zero => exact absurd (hd.symm.trans h) (by decide)
      | succ k => exact reDrive_wp k (by omega) hd hq
theorem forIn_skip {M : Model} {A : Around} {s : Shared} {Q : PUnit → Shared → Prop} {E : Value → Shared → Prop} {m : Sre.M} {l : List Nat} (hq : Q ⟨⟩ s) :
    wpAny M A (forIn l PUnit.unit fun i _ => (if m.seen.has i = true then (rule (Sre.names.getD i "") >>= fun _ => pure (ForInStep.yield PUnit.unit)) else pure (ForInStep.yield PUnit.unit))) Q E s := by
  refine wpAny_forIn_list _ (fun _ _ s' => s' = s) _ ?_ ?_ l _ rfl
  · rintro x rest b s' rfl
    split
    · exact wpAny_bind (wpAny_rule (wpAny_pure rfl))
    · exact wpAny_pure rfl
  · rintro b s' rfl; exact hq
theorem runEnd_wp {M : Model} {A : Around} {s : Shared} {Q : Option Sre.M → Shared → Prop} {E : Value → Shared → Prop} {m mf : Sre.M} {k : Nat} (hk : k < 2 ^ 64) (hr : m.runFor (4 * (k + 1)) = mf) (ho : mf.outcome = some .matched) (hq : Q (some mf) s) :
    wpAny M A (reRunToEnd m) Q E s := by
  unfold reRunToEnd
  refine wpAny_bind (reDrive_wp k hk (by rw [hr, ho]; rfl) ?_)
  rw [hr]
  refine wpAny_bind (forIn_skip ?_)
  rw [ho]
  exact wpAny_pure hq
def spansOf (groups : Nat) (m : Sre.M) : List Value := (List.range groups).flatMap fun g =>
    match if ((2 * g + 1 : Nat) : Int) ≤ m.lastmark then (m.marks.getD (2 * g) none, m.marks.getD (2 * g + 1) none) else (none, none) with
    | (some b, some e) => [rawInt b, rawInt e]
    | _ => [rawInt (-1), rawInt (-1)]
def badSpan (groups : Nat) (m : Sre.M) : Bool := (List.range groups).any (fun g => match m.marks.getD (2 * g) none, m.marks.getD (2 * g + 1) none with | some b, some e => ((2 * g + 1 : Nat) : Int) ≤ m.lastmark && e < b | _, _ => false)
abbrev matchObj (tx pat : Value) (pos lim : Nat) (li : Int) (sp : Addr) : Obj := { cls := .type "re.Match", data := .fields #[tx, pat, rawInt pos, rawInt lim, rawInt li, .ref sp] }
abbrev tupOf (vs : List Value) : Obj := { cls := .type "tuple", data := .seq vs.toArray }
theorem newMatch_wp {M : Model} {A : Around} {s : Shared} {h₀ : Heap} {L : Addr} {mm : Str → Option Value} {news : List (Addr × Obj)} {Q : Value → Shared → Prop} {E : Value → Shared → Prop} {pat tx : Value} {groups pos lim : Nat} {m : Sre.M} {sps : List Value}
   (F : Fr h₀ L s.heap mm) (N : News h₀ L s.heap news) (hb : badSpan groups m = false) (hs : rawInt m.start :: rawInt m.handed :: spansOf groups m = sps) (hl : sps.length ≤ 100)
   (hQ : ∀ sp mt h', Fr h₀ L h' mm → News h₀ L h' ((mt, matchObj tx pat pos lim m.lastindex sp) :: (sp, tupOf sps) :: news) → (∀ p ∈ news, p.1 < sp) → sp < mt → Q (.ref mt) { s with heap := h' }) :
   wpAny M A (reNewMatch pat tx groups pos lim m) Q E s := by
  unfold reNewMatch
  show wpAny M A ((if badSpan groups m = true then _ else _) : Sem _) Q E s
  rw [hb, if_neg (by decide)]
  show wpAny M A ((newTuple (rawInt m.start :: rawInt m.handed :: spansOf groups m)) >>= fun t => newFields "re.Match" [tx, pat, rawInt pos, rawInt lim, rawInt m.lastindex, t]) Q E s
  rw [hs]
  refine wpAny_bind (wpAny_newTuple ?_ (Nat.le_trans hl (by decide)))
  have F1 := F.push (tupOf sps)
  have N1 := N.push F (tupOf sps)
  refine wpAny_newObj_type ?_
  exact hQ _ _ _ (F1.push _) (N1.push F1 _) (fun p hp => Heap.lt_size (N p hp).1) (Heap.lt_size (N1 _ (.head _)).1)
end Mine

end
section
open PySem PySem.W PySem.W.X PyProof.Rows PySem.Builtin PySem.Builtin.Re
set_option maxRecDepth 100000
namespace Mine
theorem slot_pat_match : Slot "re.Pattern" "match" "re.Pattern.match" :=
  .of (owner := "re.Pattern") (n := "match") (by rw [typeLookup_type, builtinLookup_eq_fast]; kernel_rfl) (by decide +kernel) (by decide +kernel) (by decide +kernel)
    (by first | exact .inl (by decide +kernel) | exact .inr (by decide +kernel)) (by rw [isSubtype_type]; kernel_rfl)
theorem type_pat_match : typeOf (.builtin "re.Pattern.match") = pure (.type "method_descriptor") := by show builtinType _ = _; rw [builtinType_eq_fast]; kernel_rfl
theorem entry_pat_match : entryFor table "re.Pattern.match" = some Builtin.«re.Pattern.match» := entryFor_of_tree (by kernel_rfl)
theorem args_pat_match (a b : Value) : argsOk "re.Pattern.match" ⟨[a, b], []⟩ := by kernel_rfl
theorem plain_pat : PlainAttrs "re.Pattern" :=
  ⟨⟨"object.__getattribute__", by rw [typeLookup_type, builtinLookup_eq_fast]; kernel_rfl, by decide +kernel⟩, by rw [typeLookup_type, builtinLookup_eq_fast]; kernel_rfl⟩
theorem slot_m_groups : Slot "re.Match" "groups" "re.Match.groups" :=
  .of (owner := "re.Match") (n := "groups") (by rw [typeLookup_type, builtinLookup_eq_fast]; kernel_rfl) (by decide +kernel) (by decide +kernel) (by decide +kernel)
    (by first | exact .inl (by decide +kernel) | exact .inr (by decide +kernel)) (by rw [isSubtype_type]; kernel_rfl)
theorem type_m_groups : typeOf (.builtin "re.Match.groups") = pure (.type "method_descriptor") := by show builtinType _ = _; rw [builtinType_eq_fast]; kernel_rfl
theorem entry_m_groups : entryFor table "re.Match.groups" = some Builtin.«re.Match.groups» := entryFor_of_tree (by kernel_rfl)
theorem args_m_groups (a : Value) : argsOk "re.Match.groups" ⟨[a], []⟩ := by kernel_rfl
theorem slot_m_group : Slot "re.Match" "group" "re.Match.group" :=
  .of (owner := "re.Match") (n := "group") (by rw [typeLookup_type, builtinLookup_eq_fast]; kernel_rfl) (by decide +kernel) (by decide +kernel) (by decide +kernel)
    (by first | exact .inl (by decide +kernel) | exact .inr (by decide +kernel)) (by rw [isSubtype_type]; kernel_rfl)
theorem type_m_group : typeOf (.builtin "re.Match.group") = pure (.type "method_descriptor") := by show builtinType _ = _; rw [builtinType_eq_fast]; kernel_rfl
theorem entry_m_group : entryFor table "re.Match.group" = some Builtin.«re.Match.group» := entryFor_of_tree (by kernel_rfl)
theorem args_m_group (a b : Value) : argsOk "re.Match.group" ⟨[a, b], []⟩ := by kernel_rfl
theorem plain_m : PlainAttrs "re.Match" :=
  ⟨⟨"object.__getattribute__", by rw [typeLookup_type, builtinLookup_eq_fast]; kernel_rfl, by decide +kernel⟩, by rw [typeLookup_type, builtinLookup_eq_fast]; kernel_rfl⟩
end Mine

end
section
open PySem PySem.W PySem.W.X PyProof.Rows PySem.Builtin PySem.Builtin.Re
set_option maxRecDepth 100000
namespace Mine
local macro_rules | `(tactic| walk_at "pad") => `(tactic| fail "pad")
local macro_rules | `(tactic| walk_at "pad") => `(tactic| fail "pad")
theorem tgt_eq {Q : ReTarget → Shared → Prop} {p st : Value} {c c' t : Array Nat} {k g g' po l : Nat} {s : Shared} (hc : c = c') (hg : g = g') (hq : Q ⟨p, st, c', t, k, g', po, l⟩ s) : Q ⟨p, st, c, t, k, g, po, l⟩ s := by
  subst hc hg; exact hq
set_option maxHeartbeats 8000000 in
theorem absTarget_wp {w : World} {A : Around} {h : Heap} (X : (hd.heap_39 w.params).In h) {tx : Str} {tk : Tok} (hsz : tx.cps.size ≤ 100)
   {g : Array GenState} {d : Drawn} {t : Nat} {os : OsState} {Q : ReTarget → Shared → Prop} {E : Value → Shared → Prop}
   (hQ : Q { pattern := .ref 43, string := .str tx tk, code := absCode, text := tx.cps, kind := 0, groups := 5, pos := 0, lim := tx.cps.size } ⟨h, g, d, t, os⟩) :
   wpAny (model PR w) A (reTarget "re.Pattern.match" "match" ⟨[.ref 43, .str tx tk], []⟩) Q E ⟨h, g, d, t, os⟩ := by
  have h43 := X 43 _ (by k_dflt k_is)
  have h42 := X 42 _ (by k_dflt k_is)
  have e1 : min (Int.toNat 0) tx.cps.size = 0 := Nat.zero_min _
  have e2 : min ((2:Int) ^ 63 - 1).toNat tx.cps.size = tx.cps.size := Nat.min_eq_right (Nat.le_trans hsz (by decide +kernel))
  unfold reTarget
  repeat' lk
  rw [e1, e2]
  refine tgt_eq ?_ ?_ hQ <;> kernel_rfl
set_option maxHeartbeats 8000000 in
theorem shTarget_wp {w : World} {A : Around} {h : Heap} (X : (hd.heap_39 w.params).In h) {tx : Str} {tk : Tok} (hsz : tx.cps.size ≤ 100)
   {g : Array GenState} {d : Drawn} {t : Nat} {os : OsState} {Q : ReTarget → Shared → Prop} {E : Value → Shared → Prop}
   (hQ : Q { pattern := .ref 48, string := .str tx tk, code := sheetCode, text := tx.cps, kind := 0, groups := 11, pos := 0, lim := tx.cps.size } ⟨h, g, d, t, os⟩) :
   wpAny (model PR w) A (reTarget "re.Pattern.match" "match" ⟨[.ref 48, .str tx tk], []⟩) Q E ⟨h, g, d, t, os⟩ := by
  have h43 := X 48 _ (by k_dflt k_is)
  have h42 := X 47 _ (by k_dflt k_is)
  have e1 : min (Int.toNat 0) tx.cps.size = 0 := Nat.zero_min _
  have e2 : min ((2:Int) ^ 63 - 1).toNat tx.cps.size = tx.cps.size := Nat.min_eq_right (Nat.le_trans hsz (by decide +kernel))
  unfold reTarget
  repeat' lk
  rw [e1, e2]
  refine tgt_eq ?_ ?_ hQ <;> kernel_rfl
end Mine

end
section
open PySem PySem.W PySem.W.X PyProof.Rows PySem.Builtin PySem.Builtin.Re
set_option maxRecDepth 100000
namespace Mine
set_option maxHeartbeats 4000000 in
theorem absMatch_K {w : World} {A : Around} {s : Shared} {h₀ : Heap} {L : Addr} {mm : Str → Option Value} {news : List (Addr × Obj)} {Q : Value → Shared → Prop} {E : Value → Shared → Prop}
   (F : Fr h₀ L s.heap mm) (X₀ : (hd.heap_39 w.params).In h₀) (N : News h₀ L s.heap news) {tx : Str} {tk : Tok} {k : Nat} {mf : Sre.M} {sps : List Value} (hsz : tx.cps.size ≤ 100) (hk : k < 2 ^ 64)
   (hr : (Sre.forMatch absCode tx.cps 5 0 tx.cps.size false false).runFor (4 * (k + 1)) = mf) (ho : mf.outcome = some .matched) (hb : badSpan 5 mf = false) (hs : rawInt mf.start :: rawInt mf.handed :: spansOf 5 mf = sps) (hl : sps.length ≤ 100)
   (hQ : ∀ sp mt h', Fr h₀ L h' mm → News h₀ L h' ((mt, matchObj (.str tx tk) (.ref 43) 0 tx.cps.size mf.lastindex sp) :: (sp, tupOf sps) :: news) → (∀ p ∈ news, p.1 < sp) → sp < mt → Q (.ref mt) { s with heap := h' }) :
   wpAny (model PR w) A (PySem.call (.builtin "re.Pattern.match") [.ref 43, .str tx tk]) Q E s := by
  have X : (hd.heap_39 w.params).In s.heap := fun a o h => F.keep _ _ (X₀ a o h)
  have hT : s.TypeIs (.ref 43) "re.Pattern" := ⟨_, X 43 _ (by k_dflt k_is), rfl⟩
  refine wpAny_call_entry slot_pat_match hT entry_pat_match ?_ (args_pat_match _ _)
  show wpAny _ _ (reTarget "re.Pattern.match" "match" ⟨[.ref 43, .str tx tk], []⟩ >>= fun t => reAnswer t (Sre.forMatch t.code t.text t.groups t.pos t.lim false false)) _ _ _
  refine wpAny_bind ?_
  obtain ⟨h, g, d, t, os⟩ := s
  refine absTarget_wp X hsz ?_
  dsimp only
  refine wpAny_bind (runEnd_wp hk hr ho ?_)
  dsimp only
  refine wpAny_bind (newMatch_wp F N hb hs hl fun sp mt h' F' N' l1 l2 => wpAny_pure ⟨_, rfl, hQ sp mt h' F' N' l1 l2⟩)
set_option maxHeartbeats 4000000 in
theorem shMatch_K {w : World} {A : Around} {s : Shared} {h₀ : Heap} {L : Addr} {mm : Str → Option Value} {news : List (Addr × Obj)} {Q : Value → Shared → Prop} {E : Value → Shared → Prop}
   (F : Fr h₀ L s.heap mm) (X₀ : (hd.heap_39 w.params).In h₀) (N : News h₀ L s.heap news) {tx : Str} {tk : Tok} {k : Nat} {mf : Sre.M} {sps : List Value} (hsz : tx.cps.size ≤ 100) (hk : k < 2 ^ 64)
   (hr : (Sre.forMatch sheetCode tx.cps 11 0 tx.cps.size false false).runFor (4 * (k + 1)) = mf) (ho : mf.outcome = some .matched) (hb : badSpan 11 mf = false) (hs : rawInt mf.start :: rawInt mf.handed :: spansOf 11 mf = sps) (hl : sps.length ≤ 100)
   (hQ : ∀ sp mt h', Fr h₀ L h' mm → News h₀ L h' ((mt, matchObj (.str tx tk) (.ref 48) 0 tx.cps.size mf.lastindex sp) :: (sp, tupOf sps) :: news) → (∀ p ∈ news, p.1 < sp) → sp < mt → Q (.ref mt) { s with heap := h' }) :
   wpAny (model PR w) A (PySem.call (.builtin "re.Pattern.match") [.ref 48, .str tx tk]) Q E s := by
  have X : (hd.heap_39 w.params).In s.heap := fun a o h => F.keep _ _ (X₀ a o h)
  have hT : s.TypeIs (.ref 48) "re.Pattern" := ⟨_, X 48 _ (by k_dflt k_is), rfl⟩
  refine wpAny_call_entry slot_pat_match hT entry_pat_match ?_ (args_pat_match _ _)
  show wpAny _ _ (reTarget "re.Pattern.match" "match" ⟨[.ref 48, .str tx tk], []⟩ >>= fun t => reAnswer t (Sre.forMatch t.code t.text t.groups t.pos t.lim false false)) _ _ _
  refine wpAny_bind ?_
  obtain ⟨h, g, d, t, os⟩ := s
  refine shTarget_wp X hsz ?_
  dsimp only
  refine wpAny_bind (runEnd_wp hk hr ho ?_)
  dsimp only
  refine wpAny_bind (newMatch_wp F N hb hs hl fun sp mt h' F' N' l1 l2 => wpAny_pure ⟨_, rfl, hQ sp mt h' F' N' l1 l2⟩)
/-! the spans -/
def pairs : List Int → List Value := List.map rawInt
abbrev grp5 (c1 d1 c2 d2 : Nat) (k0 k1 k2 k3 k4 : Tok) : Obj := { cls := .type "tuple", data := .seq #[.str ⟨#[c1]⟩ k0, .str ⟨#[d1]⟩ k1, .str ⟨#[58, c2, d2]⟩ k2, .str ⟨#[c2]⟩ k3, .str ⟨#[d2]⟩ k4] }
theorem push_eq {Q : Value → Shared → Prop} {v : Value} {o o' : Obj} {h : Heap} {g : Array GenState} {d : Drawn} {t : Nat} {os : OsState} (e : o = o') (hq : Q v ⟨h.push o', g, d, t, os⟩) : Q v ⟨h.push o, g, d, t, os⟩ := by subst e; exact hq
theorem q_eq {α : Type} {Q : α → Shared → Prop} {a a' : α} {s : Shared} (h : a = a') (hq : Q a' s) : Q a s := by subst h; exact hq
set_option maxHeartbeats 4000000 in
theorem found_wp {M : Model} {A : Around} {h : Heap} {g : Array GenState} {d : Drawn} {t : Nat} {os : OsState} {Q : ReFound → Shared → Prop} {E : Value → Shared → Prop} {mt sp : Addr} {tx pat : Value} {po lim : Nat} {li : Int} {vs : List Int}
  (hm : h.get? mt = some (matchObj tx pat po lim li sp)) (hs : h.get? sp = some (tupOf (pairs vs))) (hQ : Q ⟨#[tx, pat, rawInt po, rawInt lim, rawInt li, .ref sp], vs.toArray⟩ ⟨h, g, d, t, os⟩) :
  wpAny M A (reFound (.ref mt)) Q E ⟨h, g, d, t, os⟩ := by
  dsimp only [matchObj, tupOf] at hm hs
  have e : Array.map reRawOf ((some (pairs vs).toArray).getD #[]) = vs.toArray := by
    show Array.map reRawOf (pairs vs).toArray = _
    rw [List.map_toArray]; unfold pairs; rw [List.map_map]
    have : (reRawOf ∘ rawInt) = _root_.id := by funext x; rfl
    rw [this, List.map_id]
  unfold reFound
  repeat' lk
  refine q_eq (congrArg (ReFound.mk _) e) hQ
set_option maxHeartbeats 4000000 in
theorem named0_wp {M : Model} {A : Around} {s : Shared} {Q : List (Option Value) → Shared → Prop} {E : Value → Shared → Prop} (hQ : Q [none] s) : wpAny M A (reNamed "re.Match.groups" "groups" ["default"] 0 [] []) Q E s := by
  unfold reNamed
  repeat' lk
  exact hQ
set_option maxHeartbeats 4000000 in
theorem groups5_wp {w : World} {A : Around} {s : Shared} {h₀ : Heap} {L : Addr} {mm : Str → Option Value} {news : List (Addr × Obj)} {Q : Value → Shared → Prop} {E : Value → Shared → Prop}
   (F : Fr h₀ L s.heap mm) (N : News h₀ L s.heap news) {mt sp : Addr} {c1 d1 c2 d2 : Nat} {tk : Tok} {pat : Value} {po lim : Nat} {li : Int}
   (h1 : c1 < 128) (h2 : d1 < 128) (h3 : c2 < 128) (h4 : d2 < 128)
   (hm : (mt, matchObj (.str ⟨#[c1, d1, 58, c2, d2]⟩ tk) pat po lim li sp) ∈ news) (hs : (sp, tupOf (pairs [0, 5, 0, 1, 1, 2, 2, 5, 3, 4, 4, 5])) ∈ news)
   (hQ : ∀ l k0 k1 k2 k3 k4 h' tk', Fr h₀ L h' mm → News h₀ L h' ((l, grp5 c1 d1 c2 d2 k0 k1 k2 k3 k4) :: news) → (∀ p ∈ news, p.1 < l) → Q (.ref l) { s with heap := h', toks := tk' }) :
   wpAny (model PR w) A (PySem.call (.builtin "re.Match.groups") [.ref mt]) Q E s := by
  have hm' := (N _ hm).1
  have hs' := (N _ hs).1
  obtain ⟨h, g, d, t, os⟩ := s
  have hT : Shared.TypeIs ⟨h, g, d, t, os⟩ (.ref mt) "re.Match" := ⟨_, hm', rfl⟩
  refine wpAny_call_entry slot_m_groups hT entry_m_groups ?_ (args_m_groups _)
  show wpAny _ _ ((reNamed "re.Match.groups" "groups" ["default"] 0 [] [] >>= fun r => (match r with | [d] => (reFound (.ref mt) >>= fun x => pure (x, d.getD .none)) | _ => unsupported "internal:re:named")) >>= fun (p : ReFound × Value) => (List.range (p.1.spans.size / 2 - 1)).mapM (fun g => reGroupText p.1 (g + 1) p.2) >>= fun l => newTuple l >>= fun t => ret t) _ _ _
  refine wpAny_bind (wpAny_bind ?_)
  refine named0_wp ?_
  refine wpAny_bind (found_wp hm' hs' (wpAny_pure ?_))
  generalize hr : List.range _ = r
  have hr' : r = [0, 1, 2, 3, 4] := by rw [← hr]; kernel_rfl
  subst hr'
  repeat' lk
  refine ⟨_, rfl, push_eq (o' := grp5 c1 d1 c2 d2 t (t+1) (t+1+1) (t+1+1+1) (t+1+1+1+1)) ?_ (hQ _ _ _ _ _ _ _ _ (F.push _) (N.push F _) fun p hp => Heap.lt_size (N p hp).1)⟩
  kernel_rfl
abbrev grp2 (c1 d1 : Nat) (k0 k1 : Tok) : Obj := { cls := .type "tuple", data := .seq #[.str ⟨#[c1]⟩ k0, .str ⟨#[d1]⟩ k1, .none, .none, .none] }
set_option maxHeartbeats 4000000 in
theorem groups2_wp {w : World} {A : Around} {s : Shared} {h₀ : Heap} {L : Addr} {mm : Str → Option Value} {news : List (Addr × Obj)} {Q : Value → Shared → Prop} {E : Value → Shared → Prop}
   (F : Fr h₀ L s.heap mm) (N : News h₀ L s.heap news) {mt sp : Addr} {c1 d1 : Nat} {tk : Tok} {pat : Value} {po lim : Nat} {li : Int}
   (hm : (mt, matchObj (.str ⟨#[c1, d1]⟩ tk) pat po lim li sp) ∈ news) (hs : (sp, tupOf (pairs [0, 2, 0, 1, 1, 2, -1, -1, -1, -1, -1, -1])) ∈ news)
   (hQ : ∀ l k0 k1 h' tk', Fr h₀ L h' mm → News h₀ L h' ((l, grp2 c1 d1 k0 k1) :: news) → (∀ p ∈ news, p.1 < l) → Q (.ref l) { s with heap := h', toks := tk' }) :
   wpAny (model PR w) A (PySem.call (.builtin "re.Match.groups") [.ref mt]) Q E s := by
  have hm' := (N _ hm).1
  have hs' := (N _ hs).1
  obtain ⟨h, g, d, t, os⟩ := s
  have hT : Shared.TypeIs ⟨h, g, d, t, os⟩ (.ref mt) "re.Match" := ⟨_, hm', rfl⟩
  refine wpAny_call_entry slot_m_groups hT entry_m_groups ?_ (args_m_groups _)
  show wpAny _ _ ((reNamed "re.Match.groups" "groups" ["default"] 0 [] [] >>= fun r => (match r with | [d] => (reFound (.ref mt) >>= fun x => pure (x, d.getD .none)) | _ => unsupported "internal:re:named")) >>= fun (p : ReFound × Value) => (List.range (p.1.spans.size / 2 - 1)).mapM (fun g => reGroupText p.1 (g + 1) p.2) >>= fun l => newTuple l >>= fun t => ret t) _ _ _
  refine wpAny_bind (wpAny_bind ?_)
  refine named0_wp ?_
  refine wpAny_bind (found_wp hm' hs' (wpAny_pure ?_))
  generalize hr : List.range _ = r
  have hr' : r = [0, 1, 2, 3, 4] := by rw [← hr]; kernel_rfl
  subst hr'
  repeat' lk
  refine ⟨_, rfl, push_eq (o' := grp2 c1 d1 t (t+1)) ?_ (hQ _ _ _ _ _ (F.push _) (N.push F _) fun p hp => Heap.lt_size (N p hp).1)⟩
  kernel_rfl
end Mine

end
section
open PySem PySem.W PySem.W.X PyProof.Rows PySem.Builtin PySem.Builtin.Re
namespace Mine
local macro_rules | `(tactic| walk_at "pad") => `(tactic| fail "pad")
theorem str_eq {Q : Value → Shared → Prop} {x y : Str} {k : Tok} {s : Shared} (e : x = y) (hq : Q (.str y k) s) : Q (.str x k) s := by subst e; exact hq
local macro_rules | `(tactic| x_close) => do let i := Lean.mkIdent `hQ; `(tactic| (refine str_eq ?_ ($i _ _); kernel_rfl))

set_option maxRecDepth 100000 in
set_option maxHeartbeats 8000000 in
theorem gS5_quoted_X {w : World} {h : Heap} (X : (hd.heap_39 w.params).In h) {mt sp : Addr} {n1 c1 d1 c2 d2 : Nat} {tk tq : Tok} {po lim : Nat} {li : Int} (_hn1 : n1 < 128) (_hc1 : c1 < 128) (_hd1 : d1 < 128) (_hc2 : c2 < 128) (_hd2 : d2 < 128)
   (hm : h.get? mt = some { cls := .type "re.Match", data := .fields #[.str ⟨#[39, n1, 39, 33, c1, d1, 58, c2, d2]⟩ tk, .ref 48, .int po 0, .int lim 0, .int li 0, .ref sp] })
   (hs : h.get? sp = some { cls := .type "tuple", data := .seq #[.int 0 0, .int 9 0, .int 0 0, .int 3 0, .int 0 0, .int 3 0, .int 1 0, .int 2 0, .int 1 0, .int 2 0, .int (-1) 0, .int (-1) 0, .int 4 0, .int 9 0, .int 4 0, .int 5 0, .int 5 0, .int 6 0, .int 6 0, .int 9 0, .int 7 0, .int 8 0, .int 8 0, .int 9 0] })
   {g : Array GenState} {d : Drawn} {t : Nat} {os : OsState} {Q : Value → Shared → Prop} {E : Value → Shared → Prop}
   (hQ : ∀ k t', Q (.str ⟨#[n1]⟩ k) ⟨h, g, d, t', os⟩) :
   wpAny (model PR w) A0 (PySem.call (.builtin "re.Match.group") [.ref mt, .str (Str.ofString "quoted") tq]) Q E ⟨h, g, d, t, os⟩ := by
  x_run
set_option maxRecDepth 100000 in
set_option maxHeartbeats 8000000 in
theorem gS5_cells_X {w : World} {h : Heap} (X : (hd.heap_39 w.params).In h) {mt sp : Addr} {n1 c1 d1 c2 d2 : Nat} {tk tq : Tok} {po lim : Nat} {li : Int} (_hn1 : n1 < 128) (_hc1 : c1 < 128) (_hd1 : d1 < 128) (_hc2 : c2 < 128) (_hd2 : d2 < 128)
   (hm : h.get? mt = some { cls := .type "re.Match", data := .fields #[.str ⟨#[39, n1, 39, 33, c1, d1, 58, c2, d2]⟩ tk, .ref 48, .int po 0, .int lim 0, .int li 0, .ref sp] })
   (hs : h.get? sp = some { cls := .type "tuple", data := .seq #[.int 0 0, .int 9 0, .int 0 0, .int 3 0, .int 0 0, .int 3 0, .int 1 0, .int 2 0, .int 1 0, .int 2 0, .int (-1) 0, .int (-1) 0, .int 4 0, .int 9 0, .int 4 0, .int 5 0, .int 5 0, .int 6 0, .int 6 0, .int 9 0, .int 7 0, .int 8 0, .int 8 0, .int 9 0] })
   {g : Array GenState} {d : Drawn} {t : Nat} {os : OsState} {Q : Value → Shared → Prop} {E : Value → Shared → Prop}
   (hQ : ∀ k t', Q (.str ⟨#[c1, d1, 58, c2, d2]⟩ k) ⟨h, g, d, t', os⟩) :
   wpAny (model PR w) A0 (PySem.call (.builtin "re.Match.group") [.ref mt, .str (Str.ofString "cells") tq]) Q E ⟨h, g, d, t, os⟩ := by
  x_run
set_option maxRecDepth 100000 in
set_option maxHeartbeats 8000000 in
theorem gS2_quoted_X {w : World} {h : Heap} (X : (hd.heap_39 w.params).In h) {mt sp : Addr} {n1 c1 d1 : Nat} {tk tq : Tok} {po lim : Nat} {li : Int} (_hn1 : n1 < 128) (_hc1 : c1 < 128) (_hd1 : d1 < 128)
   (hm : h.get? mt = some { cls := .type "re.Match", data := .fields #[.str ⟨#[39, n1, 39, 33, c1, d1]⟩ tk, .ref 48, .int po 0, .int lim 0, .int li 0, .ref sp] })
   (hs : h.get? sp = some { cls := .type "tuple", data := .seq #[.int 0 0, .int 6 0, .int 0 0, .int 3 0, .int 0 0, .int 3 0, .int 1 0, .int 2 0, .int 1 0, .int 2 0, .int (-1) 0, .int (-1) 0, .int 4 0, .int 6 0, .int 4 0, .int 5 0, .int 5 0, .int 6 0, .int (-1) 0, .int (-1) 0, .int (-1) 0, .int (-1) 0, .int (-1) 0, .int (-1) 0] })
   {g : Array GenState} {d : Drawn} {t : Nat} {os : OsState} {Q : Value → Shared → Prop} {E : Value → Shared → Prop}
   (hQ : ∀ k t', Q (.str ⟨#[n1]⟩ k) ⟨h, g, d, t', os⟩) :
   wpAny (model PR w) A0 (PySem.call (.builtin "re.Match.group") [.ref mt, .str (Str.ofString "quoted") tq]) Q E ⟨h, g, d, t, os⟩ := by
  x_run
set_option maxRecDepth 100000 in
set_option maxHeartbeats 8000000 in
theorem gS2_cells_X {w : World} {h : Heap} (X : (hd.heap_39 w.params).In h) {mt sp : Addr} {n1 c1 d1 : Nat} {tk tq : Tok} {po lim : Nat} {li : Int} (_hn1 : n1 < 128) (_hc1 : c1 < 128) (_hd1 : d1 < 128)
   (hm : h.get? mt = some { cls := .type "re.Match", data := .fields #[.str ⟨#[39, n1, 39, 33, c1, d1]⟩ tk, .ref 48, .int po 0, .int lim 0, .int li 0, .ref sp] })
   (hs : h.get? sp = some { cls := .type "tuple", data := .seq #[.int 0 0, .int 6 0, .int 0 0, .int 3 0, .int 0 0, .int 3 0, .int 1 0, .int 2 0, .int 1 0, .int 2 0, .int (-1) 0, .int (-1) 0, .int 4 0, .int 6 0, .int 4 0, .int 5 0, .int 5 0, .int 6 0, .int (-1) 0, .int (-1) 0, .int (-1) 0, .int (-1) 0, .int (-1) 0, .int (-1) 0] })
   {g : Array GenState} {d : Drawn} {t : Nat} {os : OsState} {Q : Value → Shared → Prop} {E : Value → Shared → Prop}
   (hQ : ∀ k t', Q (.str ⟨#[c1, d1]⟩ k) ⟨h, g, d, t', os⟩) :
   wpAny (model PR w) A0 (PySem.call (.builtin "re.Match.group") [.ref mt, .str (Str.ofString "cells") tq]) Q E ⟨h, g, d, t, os⟩ := by
  x_run
set_option maxRecDepth 100000 in
set_option maxHeartbeats 8000000 in
theorem gT5_quoted_X {w : World} {h : Heap} (X : (hd.heap_39 w.params).In h) {mt sp : Addr} {n1 n2 n3 c1 d1 c2 d2 : Nat} {tk tq : Tok} {po lim : Nat} {li : Int} (_hn1 : n1 < 128) (_hn2 : n2 < 128) (_hn3 : n3 < 128) (_hc1 : c1 < 128) (_hd1 : d1 < 128) (_hc2 : c2 < 128) (_hd2 : d2 < 128)
   (hm : h.get? mt = some { cls := .type "re.Match", data := .fields #[.str ⟨#[39, n1, n2, n3, 39, 33, c1, d1, 58, c2, d2]⟩ tk, .ref 48, .int po 0, .int lim 0, .int li 0, .ref sp] })
   (hs : h.get? sp = some { cls := .type "tuple", data := .seq #[.int 0 0, .int 11 0, .int 0 0, .int 5 0, .int 0 0, .int 5 0, .int 1 0, .int 4 0, .int 3 0, .int 4 0, .int (-1) 0, .int (-1) 0, .int 6 0, .int 11 0, .int 6 0, .int 7 0, .int 7 0, .int 8 0, .int 8 0, .int 11 0, .int 9 0, .int 10 0, .int 10 0, .int 11 0] })
   {g : Array GenState} {d : Drawn} {t : Nat} {os : OsState} {Q : Value → Shared → Prop} {E : Value → Shared → Prop}
   (hQ : ∀ k t', Q (.str ⟨#[n1, n2, n3]⟩ k) ⟨h, g, d, t', os⟩) :
   wpAny (model PR w) A0 (PySem.call (.builtin "re.Match.group") [.ref mt, .str (Str.ofString "quoted") tq]) Q E ⟨h, g, d, t, os⟩ := by
  x_run
set_option maxRecDepth 100000 in
set_option maxHeartbeats 8000000 in
theorem gT5_cells_X {w : World} {h : Heap} (X : (hd.heap_39 w.params).In h) {mt sp : Addr} {n1 n2 n3 c1 d1 c2 d2 : Nat} {tk tq : Tok} {po lim : Nat} {li : Int} (_hn1 : n1 < 128) (_hn2 : n2 < 128) (_hn3 : n3 < 128) (_hc1 : c1 < 128) (_hd1 : d1 < 128) (_hc2 : c2 < 128) (_hd2 : d2 < 128)
   (hm : h.get? mt = some { cls := .type "re.Match", data := .fields #[.str ⟨#[39, n1, n2, n3, 39, 33, c1, d1, 58, c2, d2]⟩ tk, .ref 48, .int po 0, .int lim 0, .int li 0, .ref sp] })
   (hs : h.get? sp = some { cls := .type "tuple", data := .seq #[.int 0 0, .int 11 0, .int 0 0, .int 5 0, .int 0 0, .int 5 0, .int 1 0, .int 4 0, .int 3 0, .int 4 0, .int (-1) 0, .int (-1) 0, .int 6 0, .int 11 0, .int 6 0, .int 7 0, .int 7 0, .int 8 0, .int 8 0, .int 11 0, .int 9 0, .int 10 0, .int 10 0, .int 11 0] })
   {g : Array GenState} {d : Drawn} {t : Nat} {os : OsState} {Q : Value → Shared → Prop} {E : Value → Shared → Prop}
   (hQ : ∀ k t', Q (.str ⟨#[c1, d1, 58, c2, d2]⟩ k) ⟨h, g, d, t', os⟩) :
   wpAny (model PR w) A0 (PySem.call (.builtin "re.Match.group") [.ref mt, .str (Str.ofString "cells") tq]) Q E ⟨h, g, d, t, os⟩ := by
  x_run
set_option maxRecDepth 100000 in
set_option maxHeartbeats 8000000 in
theorem gT2_quoted_X {w : World} {h : Heap} (X : (hd.heap_39 w.params).In h) {mt sp : Addr} {n1 n2 n3 c1 d1 : Nat} {tk tq : Tok} {po lim : Nat} {li : Int} (_hn1 : n1 < 128) (_hn2 : n2 < 128) (_hn3 : n3 < 128) (_hc1 : c1 < 128) (_hd1 : d1 < 128)
   (hm : h.get? mt = some { cls := .type "re.Match", data := .fields #[.str ⟨#[39, n1, n2, n3, 39, 33, c1, d1]⟩ tk, .ref 48, .int po 0, .int lim 0, .int li 0, .ref sp] })
   (hs : h.get? sp = some { cls := .type "tuple", data := .seq #[.int 0 0, .int 8 0, .int 0 0, .int 5 0, .int 0 0, .int 5 0, .int 1 0, .int 4 0, .int 3 0, .int 4 0, .int (-1) 0, .int (-1) 0, .int 6 0, .int 8 0, .int 6 0, .int 7 0, .int 7 0, .int 8 0, .int (-1) 0, .int (-1) 0, .int (-1) 0, .int (-1) 0, .int (-1) 0, .int (-1) 0] })
   {g : Array GenState} {d : Drawn} {t : Nat} {os : OsState} {Q : Value → Shared → Prop} {E : Value → Shared → Prop}
   (hQ : ∀ k t', Q (.str ⟨#[n1, n2, n3]⟩ k) ⟨h, g, d, t', os⟩) :
   wpAny (model PR w) A0 (PySem.call (.builtin "re.Match.group") [.ref mt, .str (Str.ofString "quoted") tq]) Q E ⟨h, g, d, t, os⟩ := by
  x_run
set_option maxRecDepth 100000 in
set_option maxHeartbeats 8000000 in
theorem gT2_cells_X {w : World} {h : Heap} (X : (hd.heap_39 w.params).In h) {mt sp : Addr} {n1 n2 n3 c1 d1 : Nat} {tk tq : Tok} {po lim : Nat} {li : Int} (_hn1 : n1 < 128) (_hn2 : n2 < 128) (_hn3 : n3 < 128) (_hc1 : c1 < 128) (_hd1 : d1 < 128)
   (hm : h.get? mt = some { cls := .type "re.Match", data := .fields #[.str ⟨#[39, n1, n2, n3, 39, 33, c1, d1]⟩ tk, .ref 48, .int po 0, .int lim 0, .int li 0, .ref sp] })
   (hs : h.get? sp = some { cls := .type "tuple", data := .seq #[.int 0 0, .int 8 0, .int 0 0, .int 5 0, .int 0 0, .int 5 0, .int 1 0, .int 4 0, .int 3 0, .int 4 0, .int (-1) 0, .int (-1) 0, .int 6 0, .int 8 0, .int 6 0, .int 7 0, .int 7 0, .int 8 0, .int (-1) 0, .int (-1) 0, .int (-1) 0, .int (-1) 0, .int (-1) 0, .int (-1) 0] })
   {g : Array GenState} {d : Drawn} {t : Nat} {os : OsState} {Q : Value → Shared → Prop} {E : Value → Shared → Prop}
   (hQ : ∀ k t', Q (.str ⟨#[c1, d1]⟩ k) ⟨h, g, d, t', os⟩) :
   wpAny (model PR w) A0 (PySem.call (.builtin "re.Match.group") [.ref mt, .str (Str.ofString "cells") tq]) Q E ⟨h, g, d, t, os⟩ := by
  x_run
end Mine

end
section
open PySem PySem.W PySem.W.X PyProof.Rows
namespace Mine
local macro_rules | `(tactic| k_all) => `(tactic| assumption)
local macro_rules | `(tactic| k_mem) => `(tactic| assumption)
section
local macro_rules | `(tactic| x_close) => do let i := Lean.mkIdent `hQ; `(tactic| (exact $i _ _ _))
set_option maxRecDepth 100000 in
set_option maxHeartbeats 8000000 in
theorem fmt5_X {w : World} {h : Heap} {c1 c2 c3 c4 c5 : Nat} {t0 tk : Tok} (_hc1 : c1 < 128) (_hc2 : c2 < 128) (_hc3 : c3 < 128) (_hc4 : c4 < 128) (_hc5 : c5 < 128)
   {g : Array GenState} {d : Drawn} {t : Nat} {os : OsState} {Q : Value → Shared → Prop} {E : Value → Shared → Prop}
   (hQ : ∀ y k t', Q (.str y k) ⟨h, g, d, t', os⟩) :
   wpAny (model PR w) A0 (PySem.call (.builtin "str.format") [.str (Str.ofString "{0} is not a valid coordinate or range") t0, .str ⟨#[c1, c2, c3, c4, c5]⟩ tk]) Q E ⟨h, g, d, t, os⟩ := by
  x_run
set_option maxRecDepth 100000 in
set_option maxHeartbeats 8000000 in
theorem fmt2_X {w : World} {h : Heap} {c1 c2 : Nat} {t0 tk : Tok} (_hc1 : c1 < 128) (_hc2 : c2 < 128)
   {g : Array GenState} {d : Drawn} {t : Nat} {os : OsState} {Q : Value → Shared → Prop} {E : Value → Shared → Prop}
   (hQ : ∀ y k t', Q (.str y k) ⟨h, g, d, t', os⟩) :
   wpAny (model PR w) A0 (PySem.call (.builtin "str.format") [.str (Str.ofString "{0} is not a valid coordinate or range") t0, .str ⟨#[c1, c2]⟩ tk]) Q E ⟨h, g, d, t, os⟩ := by
  x_run
end
theorem fmt5_K {w : World} {A : Around} {s : Shared} {c1 c2 c3 c4 c5 : Nat} {t0 tk : Tok} {Q : Value → Shared → Prop} {E : Value → Shared → Prop}
   (h1 : A.handled = none) (h2 : A.depth ≤ 900) (h5 : A.units + 1 ≤ 8000) (hc1 : c1 < 128) (hc2 : c2 < 128) (hc3 : c3 < 128) (hc4 : c4 < 128) (hc5 : c5 < 128)
   (hQ : ∀ y k t', Q (.str y k) { s with toks := t' }) : wpAny (model PR w) A (PySem.call (.builtin "str.format") [.str (Str.ofString "{0} is not a valid coordinate or range") t0, .str ⟨#[c1, c2, c3, c4, c5]⟩ tk]) Q E s := by
  obtain ⟨h, g, d, t, os⟩ := s
  refine wp_weaken (A' := A0) h1 h2 (fun l hl => by cases hl) rfl (by show A.units ≤ 8000; omega) ?_
  exact fmt5_X hc1 hc2 hc3 hc4 hc5 fun y k t' => hQ y k t'
theorem fmt2_K {w : World} {A : Around} {s : Shared} {c1 c2 : Nat} {t0 tk : Tok} {Q : Value → Shared → Prop} {E : Value → Shared → Prop}
   (h1 : A.handled = none) (h2 : A.depth ≤ 900) (h5 : A.units + 1 ≤ 8000) (hc1 : c1 < 128) (hc2 : c2 < 128)
   (hQ : ∀ y k t', Q (.str y k) { s with toks := t' }) : wpAny (model PR w) A (PySem.call (.builtin "str.format") [.str (Str.ofString "{0} is not a valid coordinate or range") t0, .str ⟨#[c1, c2]⟩ tk]) Q E s := by
  obtain ⟨h, g, d, t, os⟩ := s
  refine wp_weaken (A' := A0) h1 h2 (fun l hl => by cases hl) rfl (by show A.units ≤ 8000; omega) ?_
  exact fmt2_X hc1 hc2 fun y k t' => hQ y k t'
end Mine

end
section
open PySem PySem.W PySem.W.X PyProof.Rows PySem.Builtin PySem.Builtin.Re
set_option maxRecDepth 100000
namespace Mine
local macro_rules | `(tactic| walk_at "pad") => `(tactic| fail "pad")
local macro_rules | `(tactic| walk_at "pad") => `(tactic| fail "pad")
theorem pat_method_K {w : World} {A : Around} {s : Shared} {h₀ : Heap} {L : Addr} {mm : Str → Option Value} {pl : Sem Bool} {Q : Value × List Value → Shared → Prop} {E : Value → Shared → Prop} {P : Addr}
   (F : Fr h₀ L s.heap mm) (hP : ∃ o, h₀.get? P = some o ∧ o.cls = .type "re.Pattern" ∧ o.dict = none) (h : Q (.builtin "re.Pattern.match", [.ref P]) s) : wpAny (model PR w) A (getMethod (.ref P) "match" pl) Q E s := by
  obtain ⟨o, ho, hc, hd⟩ := hP
  have ho' := F.keep _ _ ho
  exact getMethod_builtin ⟨o, ho', hc⟩ plain_pat slot_pat_match type_pat_match (fun a e => by cases e; exact ⟨o, ho', hd⟩) h
theorem groups_method_K {w : World} {A : Around} {s : Shared} {h₀ : Heap} {L : Addr} {news : List (Addr × Obj)} {pl : Sem Bool} {Q : Value × List Value → Shared → Prop} {E : Value → Shared → Prop} {mt sp : Addr} {tx pat : Value} {po lim : Nat} {li : Int}
   (N : News h₀ L s.heap news) (hm : (mt, matchObj tx pat po lim li sp) ∈ news) (h : Q (.builtin "re.Match.groups", [.ref mt]) s) : wpAny (model PR w) A (getMethod (.ref mt) "groups" pl) Q E s := by
  have ho' := (N _ hm).1
  exact getMethod_builtin ⟨_, ho', rfl⟩ plain_m slot_m_groups type_m_groups (fun a e => by cases e; exact ⟨_, ho', rfl⟩) h
theorem group_method_K {w : World} {A : Around} {s : Shared} {h₀ : Heap} {L : Addr} {news : List (Addr × Obj)} {pl : Sem Bool} {Q : Value × List Value → Shared → Prop} {E : Value → Shared → Prop} {mt sp : Addr} {tx pat : Value} {po lim : Nat} {li : Int}
   (N : News h₀ L s.heap news) (hm : (mt, matchObj tx pat po lim li sp) ∈ news) (h : Q (.builtin "re.Match.group", [.ref mt]) s) : wpAny (model PR w) A (getMethod (.ref mt) "group" pl) Q E s := by
  have ho' := (N _ hm).1
  exact getMethod_builtin ⟨_, ho', rfl⟩ plain_m slot_m_group type_m_group (fun a e => by cases e; exact ⟨_, ho', rfl⟩) h
theorem truthy_m_K {w : World} {A : Around} {s : Shared} {h₀ : Heap} {L : Addr} {news : List (Addr × Obj)} {Q : Bool → Shared → Prop} {E : Value → Shared → Prop} {mt sp : Addr} {tx pat : Value} {po lim : Nat} {li : Int}
   (N : News h₀ L s.heap news) (hm : (mt, matchObj tx pat po lim li sp) ∈ news) (h : Q true s) : wpAny (model PR w) A (truthy (.ref mt)) Q E s := by
  have hT : s.TypeIs (.ref mt) "re.Match" := ⟨_, (N _ hm).1, rfl⟩
  unfold truthy
  refine wpAny_bind (wpAny_callSpecial?_none hT (by rw [typeLookup_type, builtinLookup_eq_fast]; kernel_rfl) ?_)
  refine wpAny_bind (wpAny_specialOf hT (r := none) (by rw [typeLookup_type, builtinLookup_eq_fast]; kernel_rfl) ?_)
  exact wpAny_pure h
theorem pat43 {w : World} {h₀ : Heap} (X₀ : (hd.heap_39 w.params).In h₀) : ∃ o, h₀.get? 43 = some o ∧ o.cls = .type "re.Pattern" ∧ o.dict = none := ⟨_, X₀ 43 _ (by k_dflt k_is), rfl, rfl⟩
theorem pat48 {w : World} {h₀ : Heap} (X₀ : (hd.heap_39 w.params).In h₀) : ∃ o, h₀.get? 48 = some o ∧ o.cls = .type "re.Pattern" ∧ o.dict = none := ⟨_, X₀ 48 _ (by k_dflt k_is), rfl, rfl⟩

set_option maxHeartbeats 4000000 in
theorem ab5M_K {w : World} {A : Around} {s : Shared} {h₀ : Heap} {L : Addr} {mm : Str → Option Value} {news : List (Addr × Obj)} {Q : Value → Shared → Prop} {E : Value → Shared → Prop}
   (F : Fr h₀ L s.heap mm) (X₀ : (hd.heap_39 w.params).In h₀) (N : News h₀ L s.heap news) {c1 d1 c2 d2 : Nat} {tk : Tok} (hc1 : c1 ∈ [65, 66, 67, 68, 69, 70, 71]) (hd1 : d1 ∈ [49, 50, 51, 52, 53, 54, 55]) (hc2 : c2 ∈ [65, 66, 67, 68, 69, 70, 71]) (hd2 : d2 ∈ [49, 50, 51, 52, 53, 54, 55])
   (hQ : ∀ sp mt h', Fr h₀ L h' mm → News h₀ L h' ((mt, matchObj (.str ⟨#[c1, d1, 58, c2, d2]⟩ tk) (.ref 43) 0 5 3 sp) :: (sp, tupOf (pairs [0, 5, 0, 1, 1, 2, 2, 5, 3, 4, 4, 5])) :: news) → (∀ p ∈ news, p.1 < sp) → sp < mt → Q (.ref mt) { s with heap := h' }) :
   wpAny (model PR w) A (PySem.call (.builtin "re.Pattern.match") [.ref 43, .str ⟨#[c1, d1, 58, c2, d2]⟩ tk]) Q E s :=
  absMatch_K F X₀ N (tx := ⟨ab5_t c1 d1 c2 d2⟩) (k := 15) (mf := ab5_61 c1 d1 c2 d2) (sps := pairs [0, 5, 0, 1, 1, 2, 2, 5, 3, 4, 4, 5]) (by show (5 : Nat) ≤ 100; decide) (by decide) (ab5_run c1 d1 c2 d2 hc1 hd1 hc2 hd2) rfl (by kernel_rfl) (by kernel_rfl) (by show (12 : Nat) ≤ 100; decide) hQ
set_option maxHeartbeats 4000000 in
theorem ab2M_K {w : World} {A : Around} {s : Shared} {h₀ : Heap} {L : Addr} {mm : Str → Option Value} {news : List (Addr × Obj)} {Q : Value → Shared → Prop} {E : Value → Shared → Prop}
   (F : Fr h₀ L s.heap mm) (X₀ : (hd.heap_39 w.params).In h₀) (N : News h₀ L s.heap news) {c1 d1 : Nat} {tk : Tok} (hc1 : c1 ∈ [65, 66, 67, 68, 69, 70, 71]) (hd1 : d1 ∈ [49, 50, 51, 52, 53, 54, 55])
   (hQ : ∀ sp mt h', Fr h₀ L h' mm → News h₀ L h' ((mt, matchObj (.str ⟨#[c1, d1]⟩ tk) (.ref 43) 0 2 2 sp) :: (sp, tupOf (pairs [0, 2, 0, 1, 1, 2, -1, -1, -1, -1, -1, -1])) :: news) → (∀ p ∈ news, p.1 < sp) → sp < mt → Q (.ref mt) { s with heap := h' }) :
   wpAny (model PR w) A (PySem.call (.builtin "re.Pattern.match") [.ref 43, .str ⟨#[c1, d1]⟩ tk]) Q E s :=
  absMatch_K F X₀ N (tx := ⟨ab2_t c1 d1⟩) (k := 8) (mf := ab2_35 c1 d1) (sps := pairs [0, 2, 0, 1, 1, 2, -1, -1, -1, -1, -1, -1]) (by show (2 : Nat) ≤ 100; decide) (by decide) (ab2_run c1 d1 hc1 hd1) rfl (by kernel_rfl) (by kernel_rfl) (by show (12 : Nat) ≤ 100; decide) hQ
set_option maxHeartbeats 4000000 in
theorem shS5M_K {w : World} {A : Around} {s : Shared} {h₀ : Heap} {L : Addr} {mm : Str → Option Value} {news : List (Addr × Obj)} {Q : Value → Shared → Prop} {E : Value → Shared → Prop}
   (F : Fr h₀ L s.heap mm) (X₀ : (hd.heap_39 w.params).In h₀) (N : News h₀ L s.heap news) {c1 d1 c2 d2 : Nat} {tk : Tok} (hc1 : c1 ∈ [65, 66, 67, 68, 69]) (hd1 : d1 ∈ [49, 50, 51, 52, 53]) (hc2 : c2 ∈ [65, 66, 67, 68, 69]) (hd2 : d2 ∈ [49, 50, 51, 52, 53])
   (hQ : ∀ sp mt h', Fr h₀ L h' mm → News h₀ L h' ((mt, matchObj (.str ⟨#[39, 83, 39, 33, c1, d1, 58, c2, d2]⟩ tk) (.ref 48) 0 9 6 sp) :: (sp, tupOf (pairs [0, 9, 0, 3, 0, 3, 1, 2, 1, 2, -1, -1, 4, 9, 4, 5, 5, 6, 6, 9, 7, 8, 8, 9])) :: news) → (∀ p ∈ news, p.1 < sp) → sp < mt → Q (.ref mt) { s with heap := h' }) :
   wpAny (model PR w) A (PySem.call (.builtin "re.Pattern.match") [.ref 48, .str ⟨#[39, 83, 39, 33, c1, d1, 58, c2, d2]⟩ tk]) Q E s :=
  shMatch_K F X₀ N (tx := ⟨shS5_t c1 d1 c2 d2⟩) (k := 24) (mf := shS5_98 c1 d1 c2 d2) (sps := pairs [0, 9, 0, 3, 0, 3, 1, 2, 1, 2, -1, -1, 4, 9, 4, 5, 5, 6, 6, 9, 7, 8, 8, 9]) (by show (9 : Nat) ≤ 100; decide) (by decide) (shS5_run c1 d1 c2 d2 hc1 hd1 hc2 hd2) rfl (by kernel_rfl) (by kernel_rfl) (by show (24 : Nat) ≤ 100; decide) hQ
set_option maxHeartbeats 4000000 in
theorem shS2M_K {w : World} {A : Around} {s : Shared} {h₀ : Heap} {L : Addr} {mm : Str → Option Value} {news : List (Addr × Obj)} {Q : Value → Shared → Prop} {E : Value → Shared → Prop}
   (F : Fr h₀ L s.heap mm) (X₀ : (hd.heap_39 w.params).In h₀) (N : News h₀ L s.heap news) {c1 d1 : Nat} {tk : Tok} (hc1 : c1 ∈ [65, 66, 67, 68, 69]) (hd1 : d1 ∈ [49, 50, 51, 52, 53])
   (hQ : ∀ sp mt h', Fr h₀ L h' mm → News h₀ L h' ((mt, matchObj (.str ⟨#[39, 83, 39, 33, c1, d1]⟩ tk) (.ref 48) 0 6 6 sp) :: (sp, tupOf (pairs [0, 6, 0, 3, 0, 3, 1, 2, 1, 2, -1, -1, 4, 6, 4, 5, 5, 6, -1, -1, -1, -1, -1, -1])) :: news) → (∀ p ∈ news, p.1 < sp) → sp < mt → Q (.ref mt) { s with heap := h' }) :
   wpAny (model PR w) A (PySem.call (.builtin "re.Pattern.match") [.ref 48, .str ⟨#[39, 83, 39, 33, c1, d1]⟩ tk]) Q E s :=
  shMatch_K F X₀ N (tx := ⟨shS2_t c1 d1⟩) (k := 17) (mf := shS2_72 c1 d1) (sps := pairs [0, 6, 0, 3, 0, 3, 1, 2, 1, 2, -1, -1, 4, 6, 4, 5, 5, 6, -1, -1, -1, -1, -1, -1]) (by show (6 : Nat) ≤ 100; decide) (by decide) (shS2_run c1 d1 hc1 hd1) rfl (by kernel_rfl) (by kernel_rfl) (by show (24 : Nat) ≤ 100; decide) hQ
set_option maxHeartbeats 4000000 in
theorem sha5M_K {w : World} {A : Around} {s : Shared} {h₀ : Heap} {L : Addr} {mm : Str → Option Value} {news : List (Addr × Obj)} {Q : Value → Shared → Prop} {E : Value → Shared → Prop}
   (F : Fr h₀ L s.heap mm) (X₀ : (hd.heap_39 w.params).In h₀) (N : News h₀ L s.heap news) {c1 d1 c2 d2 : Nat} {tk : Tok} (hc1 : c1 ∈ [65, 66, 67, 68, 69]) (hd1 : d1 ∈ [49, 50, 51, 52, 53]) (hc2 : c2 ∈ [65, 66, 67, 68, 69]) (hd2 : d2 ∈ [49, 50, 51, 52, 53])
   (hQ : ∀ sp mt h', Fr h₀ L h' mm → News h₀ L h' ((mt, matchObj (.str ⟨#[39, 97, 32, 98, 39, 33, c1, d1, 58, c2, d2]⟩ tk) (.ref 48) 0 11 6 sp) :: (sp, tupOf (pairs [0, 11, 0, 5, 0, 5, 1, 4, 3, 4, -1, -1, 6, 11, 6, 7, 7, 8, 8, 11, 9, 10, 10, 11])) :: news) → (∀ p ∈ news, p.1 < sp) → sp < mt → Q (.ref mt) { s with heap := h' }) :
   wpAny (model PR w) A (PySem.call (.builtin "re.Pattern.match") [.ref 48, .str ⟨#[39, 97, 32, 98, 39, 33, c1, d1, 58, c2, d2]⟩ tk]) Q E s :=
  shMatch_K F X₀ N (tx := ⟨sha5_t c1 d1 c2 d2⟩) (k := 28) (mf := sha5_114 c1 d1 c2 d2) (sps := pairs [0, 11, 0, 5, 0, 5, 1, 4, 3, 4, -1, -1, 6, 11, 6, 7, 7, 8, 8, 11, 9, 10, 10, 11]) (by show (11 : Nat) ≤ 100; decide) (by decide) (sha5_run c1 d1 c2 d2 hc1 hd1 hc2 hd2) rfl (by kernel_rfl) (by kernel_rfl) (by show (24 : Nat) ≤ 100; decide) hQ
set_option maxHeartbeats 4000000 in
theorem sha2M_K {w : World} {A : Around} {s : Shared} {h₀ : Heap} {L : Addr} {mm : Str → Option Value} {news : List (Addr × Obj)} {Q : Value → Shared → Prop} {E : Value → Shared → Prop}
   (F : Fr h₀ L s.heap mm) (X₀ : (hd.heap_39 w.params).In h₀) (N : News h₀ L s.heap news) {c1 d1 : Nat} {tk : Tok} (hc1 : c1 ∈ [65, 66, 67, 68, 69]) (hd1 : d1 ∈ [49, 50, 51, 52, 53])
   (hQ : ∀ sp mt h', Fr h₀ L h' mm → News h₀ L h' ((mt, matchObj (.str ⟨#[39, 97, 32, 98, 39, 33, c1, d1]⟩ tk) (.ref 48) 0 8 6 sp) :: (sp, tupOf (pairs [0, 8, 0, 5, 0, 5, 1, 4, 3, 4, -1, -1, 6, 8, 6, 7, 7, 8, -1, -1, -1, -1, -1, -1])) :: news) → (∀ p ∈ news, p.1 < sp) → sp < mt → Q (.ref mt) { s with heap := h' }) :
   wpAny (model PR w) A (PySem.call (.builtin "re.Pattern.match") [.ref 48, .str ⟨#[39, 97, 32, 98, 39, 33, c1, d1]⟩ tk]) Q E s :=
  shMatch_K F X₀ N (tx := ⟨sha2_t c1 d1⟩) (k := 21) (mf := sha2_88 c1 d1) (sps := pairs [0, 8, 0, 5, 0, 5, 1, 4, 3, 4, -1, -1, 6, 8, 6, 7, 7, 8, -1, -1, -1, -1, -1, -1]) (by show (8 : Nat) ≤ 100; decide) (by decide) (sha2_run c1 d1 hc1 hd1) rfl (by kernel_rfl) (by kernel_rfl) (by show (24 : Nat) ≤ 100; decide) hQ
set_option maxHeartbeats 4000000 in
theorem shT5M_K {w : World} {A : Around} {s : Shared} {h₀ : Heap} {L : Addr} {mm : Str → Option Value} {news : List (Addr × Obj)} {Q : Value → Shared → Prop} {E : Value → Shared → Prop}
   (F : Fr h₀ L s.heap mm) (X₀ : (hd.heap_39 w.params).In h₀) (N : News h₀ L s.heap news) {c1 d1 c2 d2 : Nat} {tk : Tok} (hc1 : c1 ∈ [65, 66, 67, 68, 69]) (hd1 : d1 ∈ [49, 50, 51, 52, 53]) (hc2 : c2 ∈ [65, 66, 67, 68, 69]) (hd2 : d2 ∈ [49, 50, 51, 52, 53])
   (hQ : ∀ sp mt h', Fr h₀ L h' mm → News h₀ L h' ((mt, matchObj (.str ⟨#[39, 84, 33, 120, 39, 33, c1, d1, 58, c2, d2]⟩ tk) (.ref 48) 0 11 6 sp) :: (sp, tupOf (pairs [0, 11, 0, 5, 0, 5, 1, 4, 3, 4, -1, -1, 6, 11, 6, 7, 7, 8, 8, 11, 9, 10, 10, 11])) :: news) → (∀ p ∈ news, p.1 < sp) → sp < mt → Q (.ref mt) { s with heap := h' }) :
   wpAny (model PR w) A (PySem.call (.builtin "re.Pattern.match") [.ref 48, .str ⟨#[39, 84, 33, 120, 39, 33, c1, d1, 58, c2, d2]⟩ tk]) Q E s :=
  shMatch_K F X₀ N (tx := ⟨shT5_t c1 d1 c2 d2⟩) (k := 28) (mf := shT5_114 c1 d1 c2 d2) (sps := pairs [0, 11, 0, 5, 0, 5, 1, 4, 3, 4, -1, -1, 6, 11, 6, 7, 7, 8, 8, 11, 9, 10, 10, 11]) (by show (11 : Nat) ≤ 100; decide) (by decide) (shT5_run c1 d1 c2 d2 hc1 hd1 hc2 hd2) rfl (by kernel_rfl) (by kernel_rfl) (by show (24 : Nat) ≤ 100; decide) hQ
set_option maxHeartbeats 4000000 in
theorem shT2M_K {w : World} {A : Around} {s : Shared} {h₀ : Heap} {L : Addr} {mm : Str → Option Value} {news : List (Addr × Obj)} {Q : Value → Shared → Prop} {E : Value → Shared → Prop}
   (F : Fr h₀ L s.heap mm) (X₀ : (hd.heap_39 w.params).In h₀) (N : News h₀ L s.heap news) {c1 d1 : Nat} {tk : Tok} (hc1 : c1 ∈ [65, 66, 67, 68, 69]) (hd1 : d1 ∈ [49, 50, 51, 52, 53])
   (hQ : ∀ sp mt h', Fr h₀ L h' mm → News h₀ L h' ((mt, matchObj (.str ⟨#[39, 84, 33, 120, 39, 33, c1, d1]⟩ tk) (.ref 48) 0 8 6 sp) :: (sp, tupOf (pairs [0, 8, 0, 5, 0, 5, 1, 4, 3, 4, -1, -1, 6, 8, 6, 7, 7, 8, -1, -1, -1, -1, -1, -1])) :: news) → (∀ p ∈ news, p.1 < sp) → sp < mt → Q (.ref mt) { s with heap := h' }) :
   wpAny (model PR w) A (PySem.call (.builtin "re.Pattern.match") [.ref 48, .str ⟨#[39, 84, 33, 120, 39, 33, c1, d1]⟩ tk]) Q E s :=
  shMatch_K F X₀ N (tx := ⟨shT2_t c1 d1⟩) (k := 21) (mf := shT2_88 c1 d1) (sps := pairs [0, 8, 0, 5, 0, 5, 1, 4, 3, 4, -1, -1, 6, 8, 6, 7, 7, 8, -1, -1, -1, -1, -1, -1]) (by show (8 : Nat) ≤ 100; decide) (by decide) (shT2_run c1 d1 hc1 hd1) rfl (by kernel_rfl) (by kernel_rfl) (by show (24 : Nat) ≤ 100; decide) hQ
end Mine

end
section
open PySem PySem.W PySem.W.X PyProof.Rows PySem.Builtin
set_option maxRecDepth 100000
namespace Mine
theorem slot_rev_next : Slot "reversed" "__next__" "reversed.__next__" :=
  .of (owner := "reversed") (n := "__next__") (by rw [typeLookup_type, builtinLookup_eq_fast]; kernel_rfl) (by decide +kernel) (by decide +kernel) (by decide +kernel)
    (by first | exact .inl (by decide +kernel) | exact .inr (by decide +kernel)) (by rw [isSubtype_type]; kernel_rfl)
theorem entry_rev_next : entryFor table "reversed.__next__" = some Builtin.«reversed.__next__» := entryFor_of_tree (by kernel_rfl)
theorem args_rev_next (a : Value) : argsOk "reversed.__next__" ⟨[a], []⟩ := by kernel_rfl
abbrev tiO (t : Addr) (i : Int) : Obj := { cls := .type "tuple_iterator", data := .fields #[.ref t, rawInt i] }
abbrev revO (c : Nat) (tk : Tok) (i : Int) : Obj := { cls := .type "reversed", data := .fields #[.str ⟨#[c]⟩ tk, rawInt i] }
abbrev seqO (vs : Array Value) : Obj := { cls := .type "tuple", data := .seq vs }
section
variable {prog : Program} {w : World} {A : Around} {E : Value → Shared → Prop} {s : Shared}
theorem nextTup {it t : Addr} {vs : Array Value} {x : Value} {Q : Value → Shared → Prop} (hit : s.heap.get? it = some (tiO t 0)) (ht : s.heap.get? t = some (seqO vs)) (hx : vs[0]? = some x)
   (hQ : ∀ h', h'.get? it = some (tiO t 1) → Heap.SameBut it s.heap h' → Q x { s with heap := h' }) : wpAny (model prog w) A (Builtin.SmallTypes.nextOf (.ref it)) Q E s := by
  have hT : s.TypeIs (.ref it) "tuple_iterator" := ⟨_, hit, rfl⟩
  unfold Builtin.SmallTypes.nextOf
  refine wpAny_bind (wpAny_callSpecial?_slot (name := Str.ofString "__next__") hT F.slot_tuple_iterator_next
    (wpAny_call_entry F.slot_tuple_iterator_next hT F.entry_tuple_iterator_next ?_ (F.args_tuple_iterator_next_1 _)))
  show wpAny _ _ (field (.ref it) 0 >>= _) _ _ s
  refine wpAny_bind (wpAny_field hit rfl (x := .ref t) rfl ?_)
  show wpAny _ _ (if (Value.ref t == Value.none) = true then _ else _) _ _ s
  rw [if_neg (show ¬ ((Value.ref t == Value.none) = true) from Bool.false_ne_true)]
  show wpAny _ _ (field (.ref it) 1 >>= _) _ _ s
  refine wpAny_bind (wpAny_field hit rfl (x := .int 0 0) rfl ?_)
  show wpAny _ _ (seqItems? (.ref t) >>= _) _ _ s
  refine wpAny_bind (wpAny_seqItems ht rfl ?_)
  show wpAny _ _ (match vs[0]? with | some x => (setField (.ref it) 1 (rawInt (0 + 1)) >>= fun _ => ret x) | none => _) _ _ s
  rw [hx]
  exact wpAny_bind (wpAny_setField_rec hit (by show 1 < 2; omega) fun h' g hs => wpAny_pure ⟨x, rfl, wpAny_pure (hQ h' g hs)⟩)
theorem nextRev {rv : Addr} {c : Nat} {tk : Tok} {Q : Value → Shared → Prop} (hr : s.heap.get? rv = some (revO c tk 0))
   (hQ : ∀ h' k tk', h'.get? rv = some (revO c tk (-1)) → Heap.SameBut rv s.heap h' → Q (.str ⟨#[c]⟩ k) { s with heap := h', toks := tk' }) : wpAny (model prog w) A (Builtin.SmallTypes.nextOf (.ref rv)) Q E s := by
  have hT : s.TypeIs (.ref rv) "reversed" := ⟨_, hr, rfl⟩
  unfold Builtin.SmallTypes.nextOf
  refine wpAny_bind (wpAny_callSpecial?_slot (name := Str.ofString "__next__") hT slot_rev_next (wpAny_call_entry slot_rev_next hT entry_rev_next ?_ (args_rev_next _)))
  show wpAny _ _ (field (.ref rv) 0 >>= _) _ _ s
  refine wpAny_bind (wpAny_field hr rfl (x := .str ⟨#[c]⟩ tk) rfl ?_)
  show wpAny _ _ (field (.ref rv) 1 >>= _) _ _ s
  refine wpAny_bind (wpAny_field hr rfl (x := .int 0 0) rfl ?_)
  show wpAny _ _ (specialOf (.str ⟨#[c]⟩ tk) "__getitem__" >>= _) _ _ s
  refine wpAny_bind (wpAny_specialOf (typeIs_str _ _ _) F.slot_str_getitem.lookup ?_)
  show wpAny _ _ ((mkInt 0 >>= fun i => (getItem (.str ⟨#[c]⟩ tk) i).attempt) >>= _) _ _ s
  refine wpAny_bind (wpAny_bind ?_)
  show wpAny _ _ (fresh >>= fun t => pure (Value.int 0 t)) _ _ s
  refine wpAny_bind (wpAny_fresh (wpAny_pure ?_))
  refine wpAny_attempt (P.getItem_str (i := 0) (c := c) (by decide) rfl ?_)
  refine wpAny_bind (wpAny_field hr rfl (x := .int 0 0) rfl ?_)
  show wpAny _ _ (setField (.ref rv) 1 (rawInt (0 - 1)) >>= fun _ => ret _) _ _ _
  exact wpAny_bind (wpAny_setField_rec hr (by show 1 < 2; omega) fun h' g hs => wpAny_pure ⟨_, rfl, wpAny_pure (hQ h' _ _ g hs)⟩)
theorem nextRevEnd {rv : Addr} {c : Nat} {tk : Tok} {Q : Value → Shared → Prop} (hh : A.handled = none) (hr : s.heap.get? rv = some (revO c tk (-1)))
   (hE : ∀ h' e, Heap.ExtBut rv s.heap h' → (∃ o, h'.get? rv = some o ∧ o.cls = .type "reversed") → (∃ o, h'.get? e = some o ∧ o.cls = .type "StopIteration") → E (.ref e) { s with heap := h' }) : wpAny (model prog w) A (Builtin.SmallTypes.nextOf (.ref rv)) Q E s := by
  have hT : s.TypeIs (.ref rv) "reversed" := ⟨_, hr, rfl⟩
  unfold Builtin.SmallTypes.nextOf
  refine wpAny_bind (wpAny_callSpecial?_slot (name := Str.ofString "__next__") hT slot_rev_next (wpAny_call_entry slot_rev_next hT entry_rev_next ?_ (args_rev_next _)))
  show wpAny _ _ (field (.ref rv) 0 >>= _) _ _ s
  refine wpAny_bind (wpAny_field hr rfl (x := .str ⟨#[c]⟩ tk) rfl ?_)
  show wpAny _ _ (field (.ref rv) 1 >>= _) _ _ s
  refine wpAny_bind (wpAny_field hr rfl (x := .int (-1) 0) rfl ?_)
  show wpAny _ _ (rule "reversed.__next__.ended" >>= fun _ => ((setField (.ref rv) 1 (rawInt (-1)) >>= fun _ => setField (.ref rv) 0 .none) >>= fun _ => (Builtin.SmallTypes.stopIteration >>= fun _ => _))) _ _ s
  refine wpAny_bind (wpAny_rule (wpAny_bind (wpAny_bind (wpAny_setField_rec hr (by show 1 < 2; omega) fun h1 g1 s1 => wpAny_setField_rec g1 (by show 0 < 2; omega) fun h2 g2 s2 => ?_))))
  refine wpAny_bind ?_
  show wpAny _ _ (newExc (.type "StopIteration") [] >>= _) _ _ _
  refine wpAny_bind ?_
  simp only [newExc, newTuple]
  refine wpAny_bind (wpAny_newObj_type ?_ (by size_fits))
  refine wpAny_bind (m := firstArgMember _ _) (wpAny_of_eq (a := Value.none) (by first | rfl | (simp only [firstArgMember]; rfl)) ?_)
  refine wpAny_newObj_type ?_ (by size_fits)
  simp only [raiseNew]
  refine wpAny_bind (wpAny_handled ?_)
  first | rw [show A.in1.handled = none from hh] | rw [hh]
  refine wpAny_bind (wpAny_pure (wpAny_throw ?_))
  exact hE _ _ (((s1.extBut.trans s2.extBut).push _).push _) ⟨_, Heap.get?_push_of_some _ (Heap.get?_push_of_some _ g2), rfl⟩ ⟨_, Heap.get?_push_size _ rfl, rfl⟩
end
end Mine

end
section
open PySem PySem.W PySem.W.X PyProof.Rows PySem.Builtin
set_option maxRecDepth 100000
namespace Mine
local macro_rules | `(tactic| walk_at "pad") => `(tactic| fail "pad")
structure ZA (z TI TO rv ti pw : Addr) : Prop where
  a1 : TI ≠ z
  a2 : TO ≠ z
  a3 : rv ≠ z
  a4 : ti ≠ z
  a5 : pw ≠ z
  b1 : TI ≠ TO
  b2 : rv ≠ TO
  b3 : ti ≠ TO
  b4 : pw ≠ TO
  c1 : TI ≠ rv
  c2 : ti ≠ rv
  c3 : pw ≠ rv
  d1 : TI ≠ ti
  d2 : pw ≠ ti
section
variable {prog : Program} {w : World} {A : Around} {E : Value → Shared → Prop} {s : Shared}
theorem zipRev_item {z TI TO rv ti pw : Addr} {c : Nat} {tk : Tok} {vs : Array Value} {p0 : Value} {Q : Value → Shared → Prop} (D : ZA z TI TO rv ti pw)
   (hz : IsZip s.heap z TI TO .none) (hTI : IsPair s.heap TI (.ref rv) (.ref ti)) (hTO : IsPair s.heap TO .none .none) (hr : s.heap.get? rv = some (revO c tk 0)) (ht : s.heap.get? ti = some (tiO pw 0)) (hp : s.heap.get? pw = some (seqO vs)) (hx : vs[0]? = some p0)
   (hQ : ∀ h' k tk', IsZip h' z TI TO (rawInt s.heap.objs.size) → IsPair h' TO (.str ⟨#[c]⟩ k) p0 → h'.get? rv = some (revO c tk (-1)) → h'.get? ti = some (tiO pw 1) → IsPair h' s.heap.objs.size (.str ⟨#[c]⟩ k) p0 →
     (∀ b o, b ≠ z → b ≠ TO → b ≠ rv → b ≠ ti → s.heap.get? b = some o → h'.get? b = some o) → Q (.ref s.heap.objs.size) { s with heap := h', toks := tk' }) :
   wpAny (model prog w) A (Builtin.«zip.__next__» ⟨[.ref z], []⟩) (fun fin s' => ∃ v, fin = .done (.ret v) ∧ Q v s') E s := by
  show wpAny _ _ (field (.ref z) 2 >>= _) _ _ _
  refine wpAny_bind (wpAny_field hz rfl (x := .bool false) rfl ?_)
  show wpAny _ _ (field (.ref z) 3 >>= _) _ _ _
  refine wpAny_bind (wpAny_field hz rfl (x := .ref TI) rfl ?_)
  refine wpAny_bind (wpAny_seqItems hTI rfl ?_)
  show wpAny _ _ (Builtin.SmallTypes.ownedTupleIsFree (.ref z) >>= _) _ _ _
  refine wpAny_bind ?_
  unfold Builtin.SmallTypes.ownedTupleIsFree
  refine wpAny_bind (wpAny_field hz rfl (x := .none) rfl (wpAny_pure ?_))
  simp only [if_true]
  refine wpAny_bind (wpAny_rule ?_)
  refine wpAny_bind (wpAny_field hz rfl (x := .ref TO) rfl ?_)
  refine wpAny_bind (wpAny_setField_rec hz (by simp) fun h1 z1 s1 => ?_)
  replace z1 : IsZip h1 z TI TO .ellipsis := z1
  have k1 : ∀ b o, b ≠ z → s.heap.get? b = some o → h1.get? b = some o := fun b o hb e => s1.extBut _ _ hb e
  refine wpAny_bind ?_
  simp only [List.zipIdx_cons, List.zipIdx_nil, List.forIn_cons, List.forIn_nil]
  refine wpAny_bind (wpAny_bind (wpAny_onRaise ?_))
  show wpAny _ _ (Builtin.SmallTypes.nextOf (.ref rv) >>= _) _ _ _
  refine wpAny_bind (nextRev (k1 _ _ D.a3 hr) fun h2 k tk2 r2 s2 => wpAny_pure ?_)
  have k2 : ∀ b o, b ≠ rv → h1.get? b = some o → h2.get? b = some o := fun b o hb e => s2.extBut _ _ hb e
  have hTO2 : IsPair h2 TO .none .none := k2 _ _ D.b2.symm (k1 _ _ D.a2 hTO)
  refine wpAny_bind (wpAny_seqItems hTO2 rfl ?_)
  refine wpAny_bind (wpAny_updateSeq_pair hTO2 fun h3 hTO3 s3 => ?_)
  replace hTO3 : IsPair h3 TO (.str ⟨#[c]⟩ k) .none := hTO3
  have k3 : ∀ b o, b ≠ TO → h2.get? b = some o → h3.get? b = some o := fun b o hb e => s3.extBut _ _ hb e
  refine wpAny_bind (wpAny_letGo (wpAny_pure ?_))
  refine wpAny_bind (wpAny_bind (wpAny_onRaise ?_))
  show wpAny _ _ (Builtin.SmallTypes.nextOf (.ref ti) >>= _) _ _ _
  refine wpAny_bind (nextTup (k3 _ _ D.b3 (k2 _ _ D.c2 (k1 _ _ D.a4 ht))) (k3 _ _ D.b4 (k2 _ _ D.c3 (k1 _ _ D.a5 hp))) hx fun h4 t4 s4 => wpAny_pure ?_)
  have k4 : ∀ b o, b ≠ ti → h3.get? b = some o → h4.get? b = some o := fun b o hb e => s4.extBut _ _ hb e
  have hTO4 := k4 _ _ D.b3.symm hTO3
  refine wpAny_bind (wpAny_seqItems hTO4 rfl ?_)
  refine wpAny_bind (wpAny_updateSeq_pair hTO4 fun h5 hTO5 s5 => ?_)
  replace hTO5 : IsPair h5 TO (.str ⟨#[c]⟩ k) p0 := hTO5
  have k5 : ∀ b o, b ≠ TO → h4.get? b = some o → h5.get? b = some o := fun b o hb e => s5.extBut _ _ hb e
  refine wpAny_bind (wpAny_letGo (wpAny_pure (wpAny_pure ?_)))
  refine wpAny_bind (wpAny_seqItems hTO5 rfl ?_)
  refine wpAny_bind (wpAny_newTuple ?_)
  have hsz : h5.objs.size = s.heap.objs.size := by rw [s5.1, s4.1, s3.1, s2.1, s1.1]
  have z5 : IsZip h5 z TI TO .ellipsis := k5 _ _ D.a2.symm (k4 _ _ D.a4.symm (k3 _ _ D.a2.symm (k2 _ _ D.a3.symm z1)))
  have r5 : h5.get? rv = some (revO c tk (-1)) := k5 _ _ D.b2 (k4 _ _ D.c2.symm (k3 _ _ D.b2 r2))
  have t5 : h5.get? ti = some (tiO pw 1) := k5 _ _ D.b3 t4
  have kk : ∀ b o, b ≠ z → b ≠ TO → b ≠ rv → b ≠ ti → s.heap.get? b = some o → h5.get? b = some o := fun b o q1 q2 q3 q4 e => k5 _ _ q2 (k4 _ _ q4 (k3 _ _ q2 (k2 _ _ q3 (k1 _ _ q1 e))))
  have zlt : z < h5.objs.size := Heap.lt_size z5
  show wpAny _ _ (Builtin.SmallTypes.ownedTupleHandOut (.ref z) (.ref h5.objs.size) >>= _) _ _ _
  refine wpAny_bind ?_
  unfold Builtin.SmallTypes.ownedTupleHandOut
  have z6 : IsZip (h5.push { cls := .type "tuple", data := .seq #[.str ⟨#[c]⟩ k, p0] }) z TI TO .ellipsis := Heap.get?_push_of_some _ z5
  refine wpAny_bind (wpAny_setField_rec z6 (by simp) fun h7 z7 s7 => ?_)
  replace z7 : IsZip h7 z TI TO (rawInt h5.objs.size) := z7
  refine wpAny_setField_rec z7 (by simp) fun h8 z8 s8 => ?_
  replace z8 : IsZip h8 z TI TO (rawInt h5.objs.size) := z8
  have up : ∀ b o, b ≠ z → h5.get? b = some o → h8.get? b = some o := fun b o hb e => s8.extBut _ _ hb (s7.extBut _ _ hb (Heap.get?_push_of_some _ e))
  have T8 : IsPair h8 h5.objs.size (.str ⟨#[c]⟩ k) p0 := s8.extBut _ _ (Nat.ne_of_gt zlt) (s7.extBut _ _ (Nat.ne_of_gt zlt) (Heap.get?_push_size _ rfl))
  rw [hsz] at z8 T8
  refine wpAny_pure ⟨_, rfl, ?_⟩
  show Q (.ref h5.objs.size) _
  rw [hsz]
  exact hQ h8 k tk2 z8 (up _ _ D.a2 hTO5) (up _ _ D.a3 r5) (up _ _ D.a4 t5) T8 fun b o q1 q2 q3 q4 e => up b o q1 (kk b o q1 q2 q3 q4 e)
theorem zipRev_end {z TI TO rv ti pw : Addr} {c : Nat} {tk : Tok} {a b : Value} {Q : Fin → Shared → Prop} (hh : A.handled = none) (D : ZA z TI TO rv ti pw)
   (hz : IsZip s.heap z TI TO .none) (hTI : IsPair s.heap TI (.ref rv) (.ref ti)) (hTO : IsPair s.heap TO a b) (hr : s.heap.get? rv = some (revO c tk (-1)))
   (hE : ∀ h' e, (∀ b o, b ≠ z → b ≠ TO → b ≠ rv → b ≠ ti → s.heap.get? b = some o → h'.get? b = some o) → (∃ o, h'.get? e = some o ∧ o.cls = .type "StopIteration") → E (.ref e) { s with heap := h' }) :
   wpAny (model prog w) A (Builtin.«zip.__next__» ⟨[.ref z], []⟩) Q E s := by
  show wpAny _ _ (field (.ref z) 2 >>= _) _ _ _
  refine wpAny_bind (wpAny_field hz rfl (x := .bool false) rfl ?_)
  show wpAny _ _ (field (.ref z) 3 >>= _) _ _ _
  refine wpAny_bind (wpAny_field hz rfl (x := .ref TI) rfl ?_)
  refine wpAny_bind (wpAny_seqItems hTI rfl ?_)
  show wpAny _ _ (Builtin.SmallTypes.ownedTupleIsFree (.ref z) >>= _) _ _ _
  refine wpAny_bind ?_
  unfold Builtin.SmallTypes.ownedTupleIsFree
  refine wpAny_bind (wpAny_field hz rfl (x := .none) rfl (wpAny_pure ?_))
  simp only [if_true]
  refine wpAny_bind (wpAny_rule ?_)
  refine wpAny_bind (wpAny_field hz rfl (x := .ref TO) rfl ?_)
  refine wpAny_bind (wpAny_setField_rec hz (by simp) fun h1 z1 s1 => ?_)
  replace z1 : IsZip h1 z TI TO .ellipsis := z1
  refine wpAny_bind ?_
  simp only [List.zipIdx_cons, List.zipIdx_nil, List.forIn_cons, List.forIn_nil]
  refine wpAny_bind (wpAny_bind (wpAny_onRaise ?_))
  show wpAny _ _ (Builtin.SmallTypes.nextOf (.ref rv) >>= _) _ _ _
  refine wpAny_bind (nextRevEnd hh (s1.extBut _ _ D.a3 hr) fun h2 e x2 _ he => ?_)
  obtain ⟨oe, hoe, hce⟩ := he
  have z2 : IsZip h2 z TI TO .ellipsis := x2 _ _ D.a3.symm z1
  have hez : e ≠ z := fun x => by subst x; rw [z2] at hoe; cases hoe; simp at hce
  refine wpAny_setField_rec z2 (by simp) fun h3 _ s3 => hE h3 e (fun b o q1 _ q3 _ x => s3.extBut _ _ q1 (x2 _ _ q3 (s1.extBut _ _ q1 x))) ⟨oe, s3.extBut _ _ hez hoe, hce⟩
end
end Mine

end
section
open PySem PySem.W PySem.W.X PyProof.Rows
namespace Mine
section
local macro_rules | `(tactic| x_close) => do let i := Lean.mkIdent `hQ; `(tactic| ((rename Mem _ _ _ _ => dX); (first | exact $i _ _ _ dX | exact $i _ _ _ _ _ _ dX)))
set_option maxRecDepth 100000 in
set_option maxHeartbeats 8000000 in
theorem rev_X {w : World} {h : Heap} {tk : Tok} {c : Nat}
   {g : Array GenState} {d : Drawn} {t : Nat} {os : OsState} {Q : Value → Shared → Prop} {E : Value → Shared → Prop}
   (hQ : ∀ a h' t', Mem h h' [] [(a, revO c tk 0)] → Q (.ref a) ⟨h', g, d, t', os⟩) :
   wpAny (model PR w) A0 (PySem.call (.type "reversed") [.str ⟨#[c]⟩ tk]) Q E ⟨h, g, d, t, os⟩ := by
  x_run
set_option maxRecDepth 100000 in
set_option maxHeartbeats 8000000 in
theorem zip_X {w : World} {h : Heap} {tk : Tok} {c : Nat} {rv tp : Addr} {i1 i2 i3 : Value} (hr : h.get? rv = some { cls := .type "reversed", data := .fields #[.str ⟨#[c]⟩ tk, .int 0 0] }) (ht : h.get? tp = some { cls := .type "tuple", data := .seq #[i1, i2, i3] })
   {g : Array GenState} {d : Drawn} {t : Nat} {os : OsState} {Q : Value → Shared → Prop} {E : Value → Shared → Prop}
   (hQ : ∀ z TO TI ti h' t', Mem h h' [] [(z, { cls := .type "zip", data := .fields #[.none, .bool false, .bool false, .ref TI, .ref TO] }), (TO, seqO #[.none, .none]), (TI, seqO #[.ref rv, .ref ti]), (ti, tiO tp 0)] → Q (.ref z) ⟨h', g, d, t', os⟩) :
   wpAny (model PR w) A0 (PySem.call (.type "zip") [.ref rv, .ref tp]) Q E ⟨h, g, d, t, os⟩ := by
  x_run
end
theorem memKeepAll {h h' : Heap} {news : List (Addr × Obj)} (D : Mem h h' [] news) : ∀ b o, h.get? b = some o → h'.get? b = some o := fun b o e => D.keep b o e (by rw [Bool.or_eq_true]; exact .inr rfl)
theorem rev_K {w : World} {A : Around} {s : Shared} {h₀ : Heap} {L : Addr} {mm : Str → Option Value} {news : List (Addr × Obj)} {c : Nat} {tk : Tok} {Q : Value → Shared → Prop} {E : Value → Shared → Prop}
   (F : Fr h₀ L s.heap mm) (N : News h₀ L s.heap news) (h1 : A.handled = none) (h2 : A.depth ≤ 900) (h5 : A.units + 1 ≤ 8000)
   (hQ : ∀ a h' tk', Fr h₀ L h' mm → News h₀ L h' ((a, revO c tk 0) :: news) → (∀ p ∈ news, p.1 ≠ a) → Q (.ref a) { s with heap := h', toks := tk' }) : wpAny (model PR w) A (PySem.call (.type "reversed") [.str ⟨#[c]⟩ tk]) Q E s := by
  obtain ⟨h, g, d, t, os⟩ := s
  refine wp_weaken (A' := A0) h1 h2 (fun l hl => by cases hl) rfl (by show A.units ≤ 8000; omega) ?_
  refine rev_X fun a h' t' D => ?_
  have hk := memKeepAll D
  have hn := D.nw _ (.head _)
  have hL : a ≠ L := fun e => by subst e; obtain ⟨o, _, _, ho, _⟩ := F.ns; rw [hn.2] at ho; cases ho
  have h0 : h₀.get? a = none := by
    cases e : h₀.get? a with
    | none => rfl
    | some o => have := F.keep _ _ e; rw [hn.2] at this; cases this
  refine hQ a h' t' (F.keeps hk) (fun p hp => ?_) (fun p hp e => ?_)
  · rcases List.mem_cons.mp hp with rfl | hp
    · exact ⟨hn.1, hL, h0⟩
    · exact ⟨hk _ _ (N p hp).1, (N p hp).2⟩
  · have := (N p hp).1
    rw [e, hn.2] at this; cases this
end Mine

end
section
open PySem PySem.W PySem.W.X PyProof.Rows PyProof.V
set_option maxRecDepth 100000
namespace Mine
local macro_rules | `(tactic| walk_at "pad") => `(tactic| fail "pad")
local macro_rules | `(tactic| walk_at "pad") => `(tactic| fail "pad")
def zSt (z TI TO rv ti pw : Addr) (c : Nat) (tk : Tok) (vs : Array Value) (i : Nat) (h : Heap) : Prop :=
  IsZip h z TI TO .none ∧ IsPair h TI (.ref rv) (.ref ti) ∧ (if i = 0 then IsPair h TO .none .none ∧ h.get? rv = some (revO c tk 0) ∧ h.get? ti = some (tiO pw 0) ∧ h.get? pw = some (seqO vs)
    else (∃ a b, IsPair h TO a b) ∧ h.get? rv = some (revO c tk (-1)) ∧ h.get? ti = some (tiO pw 1))
def zMd (z TI TO rv ti pw : Addr) (c : Nat) (tk : Tok) (p0 : Value) (v : Value) (h : Heap) : Prop :=
  ∃ T k, v = .ref T ∧ IsTup h T #[.str ⟨#[c]⟩ k, p0] ∧ T ≠ z ∧ IsZip h z TI TO (rawInt T) ∧ IsPair h TI (.ref rv) (.ref ti) ∧ (∃ a b, IsPair h TO a b) ∧ h.get? rv = some (revO c tk (-1)) ∧ h.get? ti = some (tiO pw 1)
def zP (c : Nat) (p0 : Value) (v : Value) (h : Heap) : Prop := ∃ T k, v = .ref T ∧ IsTup h T #[.str ⟨#[c]⟩ k, p0]
theorem zTurns {prog : Program} {w : World} {A : Around} (hh : A.handled = none) {elts : List Expr} {k : Nat} {pos : Pos} {z TI TO rv ti pw : Addr} {c : Nat} {tk : Tok} {vs : Array Value} {p0 : Value} (D : ZA z TI TO rv ti pw) (hx : vs[0]? = some p0) :
    KTurns prog w A (.Tuple elts k pos) z [z, TI, TO, rv, ti, pw] [z, TO, rv, ti] 1 (fun _ v h => zP c p0 v h) (fun _ v h => zMd z TI TO rv ti pw c tk p0 v h) (zSt z TI TO rv ti pw c tk vs) where
  sub := fun b hb => by
    simp only [List.mem_cons, List.not_mem_nil, or_false] at hb ⊢
    rcases hb with h | h | h | h <;> simp [h]
  frame := fun i h h' hst hk => by
    obtain ⟨a, b, r⟩ := hst
    refine ⟨hk z (by simp) _ a, hk TI (by simp) _ b, ?_⟩
    split
    · rename_i hi; rw [if_pos hi] at r
      obtain ⟨r1, r2, r3, r4⟩ := r
      exact ⟨hk TO (by simp) _ r1, hk rv (by simp) _ r2, hk ti (by simp) _ r3, hk pw (by simp) _ r4⟩
    · rename_i hi; rw [if_neg hi] at r
      obtain ⟨⟨x, y, r1⟩, r2, r3⟩ := r
      exact ⟨⟨x, y, hk TO (by simp) _ r1⟩, hk rv (by simp) _ r2, hk ti (by simp) _ r3⟩
  item := fun i s Q E hi hst hQ => by
    have hi0 : i = 0 := by omega
    subst hi0
    obtain ⟨a, b, r⟩ := hst
    rw [if_pos rfl] at r
    obtain ⟨r1, r2, r3, r4⟩ := r
    have hT : s.TypeIs (.ref z) "zip" := ⟨_, a, rfl⟩
    have zl : s.heap.objs.size ≠ z := Nat.ne_of_gt (Heap.lt_size a)
    unfold pyNext
    refine wpAny_bind (wpAny_attempt (wpAny_callSpecial?_slot (name := Str.ofString "__next__") hT F.slot_zip_next (wpAny_call_entry F.slot_zip_next hT F.entry_zip_next
      (zipRev_item D a b r1 r2 r3 r4 hx fun h' kk tk' e1 e2 e3 e4 e5 hk => wpAny_pure (hQ _ h' tk' ?_ ?_)) (F.args_zip_next_1 _))))
    · exact ⟨_, kk, rfl, ⟨_, e5, rfl, _, rfl⟩, zl, e1, hk _ _ D.a1 D.b1 D.c1 D.d1 b, ⟨_, _, e2⟩, e3, e4⟩
    · intro q o hq e
      simp only [List.mem_cons, List.not_mem_nil, or_false, not_or] at hq
      exact hk q o hq.1 hq.2.1 hq.2.2.1 hq.2.2.2 e
  go := fun i v s Q E hm hQ => by
    obtain ⟨T, kk, rfl, hT, hTz, e1, e2, ⟨x, y, e3⟩, e4, e5⟩ := hm
    refine wpAny_letOwnedTupleGo_zip e1 fun h' hz' hs' => hQ h' ⟨T, kk, rfl, ?_⟩ ⟨hz', hs'.extBut _ _ D.a1 e2, ?_⟩ fun q o hq e => ?_
    · obtain ⟨o, ho, hc, n, hd⟩ := hT; exact ⟨o, hs'.extBut _ _ hTz ho, hc, n, hd⟩
    · rw [if_neg (by omega)]
      exact ⟨⟨x, y, hs'.extBut _ _ D.a2 e3⟩, hs'.extBut _ _ D.a3 e4, hs'.extBut _ _ D.a4 e5⟩
    · simp only [List.mem_cons, List.not_mem_nil, or_false, not_or] at hq
      exact hs'.extBut _ _ hq.1 e
  done := fun s Q E hst hQ => by
    obtain ⟨a, b, r⟩ := hst
    rw [if_neg (by decide)] at r
    obtain ⟨⟨x, y, r1⟩, r2, r3⟩ := r
    have hT : s.TypeIs (.ref z) "zip" := ⟨_, a, rfl⟩
    unfold pyNext
    refine wpAny_bind (wpAny_attempt (wpAny_callSpecial?_slot (name := Str.ofString "__next__") hT F.slot_zip_next (wpAny_call_entry F.slot_zip_next hT F.entry_zip_next
      (zipRev_end hh D a b r1 r2 fun h' e hk he => ?_) (F.args_zip_next_1 _))))
    obtain ⟨o, ho, hc⟩ := he
    refine wpAny_bind (wpAny_isInstance (T := "StopIteration") (b := true) ⟨o, ho, hc⟩ isSubtype_stop ?_)
    refine wpAny_pure (hQ h' s.toks fun q o hq e => ?_)
    simp only [List.mem_cons, List.not_mem_nil, or_false, not_or] at hq
    exact hk q o hq.1 hq.2.1 hq.2.2.1 hq.2.2.2 e
end Mine

end
section
open PySem PySem.W PySem.W.X PyProof.Rows PyProof.V
set_option maxRecDepth 100000
namespace Mine
set_option maxHeartbeats 1000000 in
theorem zTurnsAt {w : World} {A : Around} {E : Value → Shared → Prop} {s : Shared} {h₀ : Heap} {env : Env} {body : List Stmt} {Q : Flow → Shared → Prop} {elts : List Expr} {k : Nat} {pos : Pos} {rv pw : Addr} {c : Nat} {tk : Tok} {i1 i2 i3 : Value} {m₀ : Str → Option Value} {news : List (Addr × Obj)}
    (h1 : A.handled = none) (h2 : A.depth ≤ 900) (h5 : A.units + 1 ≤ 8000) (F : Fr h₀ env.locals s.heap m₀) (N : News h₀ env.locals s.heap ((rv, revO c tk 0) :: news)) (hpw : h₀.get? pw = some (seqO #[i1, i2, i3])) (hne : ∀ p ∈ news, p.1 ≠ rv)
    (rest₀ : ∀ z TI TO ti, (∀ p ∈ news, ∀ b ∈ [z, TI, TO, rv, ti], p.1 ≠ b) → ItemsRest PR w A E h₀ env (.Tuple elts k pos) body Q s [(z, "zip"), (TI, "tuple"), (TO, "tuple"), (rv, "reversed"), (ti, "tuple_iterator")] [] [.pair (fun t => .str ⟨#[c]⟩ t) i1] m₀ news) :
    wpAny (model PR w) A (call (.type "zip") [.ref rv, .ref pw]) (fun xv s₁ => wpAny (model PR w) A (pyIter xv) (fun it s₂ => TurnsAt PR w A h₀ env (.Tuple elts k pos) body Q E it s₂) E s₁) E s := by
  obtain ⟨h, g, d, t, os⟩ := s
  refine wp_weaken (A' := A0) h1 h2 (fun l hl => by cases hl) rfl (by show A.units ≤ 8000; omega) ?_
  have hp' := F.keep _ _ hpw
  have hr' := (N _ (.head _)).1
  refine zip_X hr' hp' fun z TO TI ti h' t' D => ?_
  have hk := memKeepAll D
  have gz : IsZip h' z TI TO .none := D.at 0 _ _ rfl
  have gTO : IsPair h' TO .none .none := D.at 1 _ _ rfl
  have gTI : IsPair h' TI (.ref rv) (.ref ti) := D.at 2 _ _ rfl
  have gti : h'.get? ti = some (tiO pw 0) := D.at 3 _ _ rfl
  have ne : ∀ {b : Addr} {o : Obj}, h.get? b = some o → b ≠ z ∧ b ≠ TO ∧ b ≠ TI ∧ b ≠ ti := fun e => ⟨(D.ne_old 0 _ _ rfl _ _ e).symm, (D.ne_old 1 _ _ rfl _ _ e).symm, (D.ne_old 2 _ _ rfl _ _ e).symm, (D.ne_old 3 _ _ rfl _ _ e).symm⟩
  have nz : z ≠ TO := D.ne 0 1 _ _ _ _ rfl rfl rfl
  have nz2 : z ≠ TI := D.ne 0 2 _ _ _ _ rfl rfl rfl
  have nz3 : z ≠ ti := D.ne 0 3 _ _ _ _ rfl rfl rfl
  have n12 : TO ≠ TI := D.ne 1 2 _ _ _ _ rfl rfl rfl
  have n13 : TO ≠ ti := D.ne 1 3 _ _ _ _ rfl rfl rfl
  have n23 : TI ≠ ti := D.ne 2 3 _ _ _ _ rfl rfl rfl
  have hrv := ne hr'
  have hpv := ne hp'
  obtain ⟨oL, _, _, hL, _⟩ := F.ns
  have hLn := ne hL
  have prv : pw ≠ rv := fun e => by have := (N _ (.head _)).2.2; rw [← e, hpw] at this; cases this
  have Lrv : env.locals ≠ rv := (N _ (.head _)).2.1.symm
  have Lpw : env.locals ≠ pw := fun e => by
    have := Heap.lt_size hpw
    exact absurd (Nat.lt_of_lt_of_le this F.above) (by rw [e]; exact Nat.lt_irrefl _)
  have ZD : ZA z TI TO rv ti pw := ⟨nz2.symm, nz.symm, hrv.1, nz3.symm, hpv.1, n12.symm, hrv.2.1, n13.symm, hpv.2.1, hrv.2.2.1.symm, hrv.2.2.2.symm, prv, n23, hpv.2.2.2⟩
  have new0 : ∀ {b : Addr}, h.get? b = none → h₀.get? b = none := fun {b} e => by
    cases q : h₀.get? b with
    | none => rfl
    | some o => rw [F.keep _ _ q] at e; cases e
  have z0 := new0 (D.nw _ (.head _)).2
  have TO0 := new0 (D.nw _ (.tail _ (.head _))).2
  have TI0 := new0 (D.nw _ (.tail _ (.tail _ (.head _)))).2
  have ti0 := new0 (D.nw _ (.tail _ (.tail _ (.tail _ (.head _))))).2
  have rv0 := (N _ (.head _)).2.2
  refine wpAny_pyIter_zip gz ?_
  refine ⟨z, [z, TI, TO, rv, ti, pw], [z, TO, rv, ti], 1, _, _, _, m₀, news, fun i m₁ n₁ => ItemsRest PR w A E h₀ env (.Tuple elts k pos) body Q ⟨h, g, d, t, os⟩ [(z, "zip"), (TI, "tuple"), (TO, "tuple"), (rv, "reversed"), (ti, "tuple_iterator")] [] (List.drop i [.pair (fun t => .str ⟨#[c]⟩ t) i1]) m₁ n₁,
    rfl, zTurns h1 ZD (vs := #[i1, i2, i3]) (p0 := i1) (tk := tk) (c := c) rfl, ?_, ?_, ?_, ?_, F.keeps hk, ?_, rest₀ z TI TO ti ?_, ?_, ?_⟩
  · simp only [List.mem_cons, List.not_mem_nil, or_false, not_or]
    exact ⟨(ne hL).1, (ne hL).2.2.1, (ne hL).2.1, Lrv, (ne hL).2.2.2, Lpw⟩
  · intro b hb
    simp only [List.mem_cons, List.not_mem_nil, or_false] at hb
    rcases hb with rfl | rfl | rfl | rfl <;> assumption
  · intro p hp hI
    have hn := ne (N p (.tail _ hp)).1
    simp only [List.mem_cons, List.not_mem_nil, or_false] at hI
    rcases hI with q | q | q | q
    · exact hn.1 q
    · exact hn.2.1 q
    · exact hne p hp q
    · exact hn.2.2.2 q
  · exact ⟨gz, gTI, by rw [if_pos rfl]; exact ⟨gTO, hk _ _ hr', gti, hk _ _ hp'⟩⟩
  · exact fun p hp => ⟨hk _ _ (N p (.tail _ hp)).1, (N p (.tail _ hp)).2⟩
  · intro p hp b hb
    have hn := ne (N p (.tail _ hp)).1
    simp only [List.mem_cons, List.not_mem_nil, or_false] at hb
    rcases hb with q | q | q | q | q
    · exact q ▸ hn.1
    · exact q ▸ hn.2.2.1
    · exact q ▸ hn.2.1
    · exact q ▸ hne p hp
    · exact q ▸ hn.2.2.2
  · intro i v m₁ news₁ h₁ tk₁ own hin hP hJ hoff hown hget hall hst₁ F₁ N₁
    have hi0 : i = 0 := by omega
    subst hi0
    obtain ⟨g1, g2, g3⟩ := hst₁
    rw [if_neg (by decide)] at g3
    obtain ⟨⟨x, y, g3⟩, g4, g5⟩ := g3
    have hJ' : ItemsRest PR w A E h₀ env (.Tuple elts k pos) body Q ⟨h, g, d, t, os⟩ [(z, "zip"), (TI, "tuple"), (TO, "tuple"), (rv, "reversed"), (ti, "tuple_iterator")] [] [.pair (fun t => .str ⟨#[c]⟩ t) i1] m₁ news₁ := hJ
    have own1 : ∀ {b : Addr} {o : Obj}, b ∈ [z, TI, TO, rv, ti, pw] → h₀.get? b = none → h₁.get? b = some o → (b, o) ∈ own ++ news₁ := fun hb hn e => List.mem_append_left _ (hall _ hb hn _ e)
    have N₂ : News h₀ env.locals h₁ ([(z, { cls := .type "zip", dict := none, data := .fields #[.none, .bool false, .bool false, .ref TI, .ref TO], slots := #[] }), (TI, { cls := .type "tuple", data := .seq #[.ref rv, .ref ti] }), (TO, { cls := .type "tuple", data := .seq #[x, y] }), (rv, revO c tk (-1)), (ti, tiO pw 1)] ++ news₁) := fun p hp => by
      rcases List.mem_append.mp hp with hp | hp
      · simp only [List.mem_cons, List.not_mem_nil, or_false] at hp
        rcases hp with rfl | rfl | rfl | rfl | rfl
        · exact N₁ _ (own1 (by simp) z0 g1)
        · exact N₁ _ (own1 (by simp) TI0 g2)
        · exact N₁ _ (own1 (by simp) TO0 g3)
        · exact N₁ _ (own1 (by simp) rv0 g4)
        · exact N₁ _ (own1 (by simp) ti0 g5)
      · exact N₁ _ (List.mem_append_right _ hp)
    have hav : (Itm.pair (fun t => .str ⟨#[c]⟩ t) i1).Is v h₁ := hP
    have hits : Objs [(z, "zip"), (TI, "tuple"), (TO, "tuple"), (rv, "reversed"), (ti, "tuple_iterator")] [(z, { cls := .type "zip", dict := none, data := .fields #[.none, .bool false, .bool false, .ref TI, .ref TO], slots := #[] }), (TI, { cls := .type "tuple", data := .seq #[.ref rv, .ref ti] }), (TO, { cls := .type "tuple", data := .seq #[x, y] }), (rv, revO c tk (-1)), (ti, tiO pw 1)] := ⟨⟨rfl, rfl⟩, ⟨rfl, rfl⟩, ⟨rfl, rfl⟩, ⟨rfl, rfl⟩, ⟨rfl, rfl⟩, trivial⟩
    refine wpAny_mono ((hJ' v h₁ tk₁ hav F₁).at hits N₂) (fun _ s₂ h₂ => wpAny_mono h₂ (fun f s₃ p => ?_) fun _ _ e => e) fun _ _ e => e
    have fin : UnrEndW h₀ env.locals ⟨h₁, g, d, tk₁, os⟩ [(z, { cls := .type "zip", dict := none, data := .fields #[.none, .bool false, .bool false, .ref TI, .ref TO], slots := #[] }), (TI, { cls := .type "tuple", data := .seq #[.ref rv, .ref ti] }), (TO, { cls := .type "tuple", data := .seq #[x, y] }), (rv, revO c tk (-1)), (ti, tiO pw 1)]
        (fun m' n' => SubL [] n' ∧ ItemsRest PR w A E h₀ env (.Tuple elts k pos) body Q ⟨h, g, d, t, os⟩ [(z, "zip"), (TI, "tuple"), (TO, "tuple"), (rv, "reversed"), (ti, "tuple_iterator")] [] [] m' n') s₃ →
        LoopStepU h₀ env.locals [z, TO, rv, ti] own (fun m₁ n₁ => ItemsRest PR w A E h₀ env (.Tuple elts k pos) body Q ⟨h, g, d, t, os⟩ [(z, "zip"), (TI, "tuple"), (TO, "tuple"), (rv, "reversed"), (ti, "tuple_iterator")] [] [] m₁ n₁) ⟨h₁, g, d, tk₁, os⟩ .next s₃ := by
      rintro ⟨h2, tk2, m2, n2, e, F2, N2, ho, _, r⟩
      refine ⟨rfl, h2, tk2, m2, n2, e, F2, ?_, ?_, r⟩
      · rintro ⟨pa, po⟩ hp
        rcases List.mem_append.mp hp with hp | hp
        · have e1 : h₁.get? pa = some po := hget _ hp
          have e2 := hown _ hp
          have e3 : h₀.get? pa = none := (N₁ _ (List.mem_append_left _ hp)).2.2
          simp only [List.mem_cons, List.not_mem_nil, or_false] at e2
          rcases e2 with rfl | rfl | rfl | rfl | rfl | rfl
          · rw [g1] at e1; cases e1; exact N2 _ (List.mem_append_left _ (by simp))
          · rw [g2] at e1; cases e1; exact N2 _ (List.mem_append_left _ (by simp))
          · rw [g3] at e1; cases e1; exact N2 _ (List.mem_append_left _ (by simp))
          · rw [g4] at e1; cases e1; exact N2 _ (List.mem_append_left _ (by simp))
          · rw [g5] at e1; cases e1; exact N2 _ (List.mem_append_left _ (by simp))
          · rw [hpw] at e3; cases e3
        · exact N2 _ (List.mem_append_right _ hp)
      · intro p hp hI
        simp only [List.mem_cons, List.not_mem_nil, or_false] at hI
        rcases hI with q | q | q | q
        · exact ho p hp _ (.head _) q
        · exact ho p hp _ (.tail _ (.tail _ (.head _))) q
        · exact ho p hp _ (.tail _ (.tail _ (.tail _ (.head _)))) q
        · exact ho p hp _ (.tail _ (.tail _ (.tail _ (.tail _ (.head _))))) q
    cases f with
    | ret v => exact .ret p
    | brk => exact .brk p
    | next => exact .next (fin p)
    | cont => exact .cont (fin p)
  · intro h2 tk2 m2 n2 F2 N2 _ hJ
    exact hJ h2 tk2 F2 N2
theorem unrEnd_abs {h₀ : Heap} {L : Addr} {its all news : List (Addr × Obj)} {rest : (Str → Option Value) → List (Addr × Obj) → Prop} {s₁ : Shared} {h' : Heap} {tk : Nat} {m' : Str → Option Value} (F : Fr h₀ L h' m') (N : News h₀ L h' all)
    (hI : SubL its all) (sub : ∀ p ∈ news, p ∈ all) (off : ∀ p ∈ news, ∀ b ∈ its.map (·.1), p.1 ≠ b) (r : rest m' news) : UnrEndW h₀ L s₁ its rest { s₁ with heap := h', toks := tk } :=
  ⟨h', tk, m', news, rfl, F, fun p hp => by
    rcases List.mem_append.mp hp with hp | hp
    · exact N p (hI.mem p hp)
    · exact N p (sub p hp), fun p hp q hq => off p hp q.1 (List.mem_map.mpr ⟨q, hq, rfl⟩), r⟩
end Mine

end
section
open PySem PySem.W PySem.W.X PyProof.Rows
namespace Mine
local macro_rules | `(tactic| walk_at "pad") => `(tactic| fail "pad")
section
local macro_rules | `(tactic| x_close) => do let i := Lean.mkIdent `hQ; `(tactic| (exact $i _ _))
set_option maxRecDepth 100000 in
set_option maxHeartbeats 8000000 in
theorem al65 {w : World} {h : Heap} (X : (hd.heap_39 w.params).In h) {tk : Tok}
   {g : Array GenState} {d : Drawn} {t : Nat} {os : OsState} {Q : Value → Shared → Prop} {E : Value → Shared → Prop}
   (hQ : ∀ k t', Q (.int 1 k) ⟨h, g, d, t', os⟩) :
   wpAny (model PR w) A0 (PySem.call (.builtin "dict.__getitem__") [.ref 57, .str ⟨#[65]⟩ tk]) Q E ⟨h, g, d, t, os⟩ := by
  x_run
set_option maxRecDepth 100000 in
set_option maxHeartbeats 8000000 in
theorem al66 {w : World} {h : Heap} (X : (hd.heap_39 w.params).In h) {tk : Tok}
   {g : Array GenState} {d : Drawn} {t : Nat} {os : OsState} {Q : Value → Shared → Prop} {E : Value → Shared → Prop}
   (hQ : ∀ k t', Q (.int 2 k) ⟨h, g, d, t', os⟩) :
   wpAny (model PR w) A0 (PySem.call (.builtin "dict.__getitem__") [.ref 57, .str ⟨#[66]⟩ tk]) Q E ⟨h, g, d, t, os⟩ := by
  x_run
set_option maxRecDepth 100000 in
set_option maxHeartbeats 8000000 in
theorem al67 {w : World} {h : Heap} (X : (hd.heap_39 w.params).In h) {tk : Tok}
   {g : Array GenState} {d : Drawn} {t : Nat} {os : OsState} {Q : Value → Shared → Prop} {E : Value → Shared → Prop}
   (hQ : ∀ k t', Q (.int 3 k) ⟨h, g, d, t', os⟩) :
   wpAny (model PR w) A0 (PySem.call (.builtin "dict.__getitem__") [.ref 57, .str ⟨#[67]⟩ tk]) Q E ⟨h, g, d, t, os⟩ := by
  x_run
set_option maxRecDepth 100000 in
set_option maxHeartbeats 8000000 in
theorem al68 {w : World} {h : Heap} (X : (hd.heap_39 w.params).In h) {tk : Tok}
   {g : Array GenState} {d : Drawn} {t : Nat} {os : OsState} {Q : Value → Shared → Prop} {E : Value → Shared → Prop}
   (hQ : ∀ k t', Q (.int 4 k) ⟨h, g, d, t', os⟩) :
   wpAny (model PR w) A0 (PySem.call (.builtin "dict.__getitem__") [.ref 57, .str ⟨#[68]⟩ tk]) Q E ⟨h, g, d, t, os⟩ := by
  x_run
set_option maxRecDepth 100000 in
set_option maxHeartbeats 8000000 in
theorem al69 {w : World} {h : Heap} (X : (hd.heap_39 w.params).In h) {tk : Tok}
   {g : Array GenState} {d : Drawn} {t : Nat} {os : OsState} {Q : Value → Shared → Prop} {E : Value → Shared → Prop}
   (hQ : ∀ k t', Q (.int 5 k) ⟨h, g, d, t', os⟩) :
   wpAny (model PR w) A0 (PySem.call (.builtin "dict.__getitem__") [.ref 57, .str ⟨#[69]⟩ tk]) Q E ⟨h, g, d, t, os⟩ := by
  x_run
set_option maxRecDepth 100000 in
set_option maxHeartbeats 8000000 in
theorem al70 {w : World} {h : Heap} (X : (hd.heap_39 w.params).In h) {tk : Tok}
   {g : Array GenState} {d : Drawn} {t : Nat} {os : OsState} {Q : Value → Shared → Prop} {E : Value → Shared → Prop}
   (hQ : ∀ k t', Q (.int 6 k) ⟨h, g, d, t', os⟩) :
   wpAny (model PR w) A0 (PySem.call (.builtin "dict.__getitem__") [.ref 57, .str ⟨#[70]⟩ tk]) Q E ⟨h, g, d, t, os⟩ := by
  x_run
set_option maxRecDepth 100000 in
set_option maxHeartbeats 8000000 in
theorem al71 {w : World} {h : Heap} (X : (hd.heap_39 w.params).In h) {tk : Tok}
   {g : Array GenState} {d : Drawn} {t : Nat} {os : OsState} {Q : Value → Shared → Prop} {E : Value → Shared → Prop}
   (hQ : ∀ k t', Q (.int 7 k) ⟨h, g, d, t', os⟩) :
   wpAny (model PR w) A0 (PySem.call (.builtin "dict.__getitem__") [.ref 57, .str ⟨#[71]⟩ tk]) Q E ⟨h, g, d, t, os⟩ := by
  x_run
end
abbrev L7 : List Nat := [65, 66, 67, 68, 69, 70, 71]
theorem alpha_K {w : World} {A : Around} {s : Shared} {h₀ : Heap} {L : Addr} {mm : Str → Option Value} {c : Nat} {tk : Tok} {n1 n2 : Str} {p1 p2 : Pos} {Q : Value → Shared → Prop} {E : Value → Shared → Prop}
   (F : Fr h₀ L s.heap mm) (X₀ : (hd.heap_39 w.params).In h₀) (hc : c ∈ L7) (h1 : A.handled = none) (h2 : A.depth ≤ 900) (h5 : A.units + 1 ≤ 8000)
   (hQ : ∀ k tk', Q (.int ((c : Int) - 64) k) { s with toks := tk' }) : wpAny (model PR w) A (subscriptTail (.Name n1 p1) (.Name n2 p2) (.ref 57) (.str ⟨#[c]⟩ tk)) Q E s := by
  have X : (hd.heap_39 w.params).In s.heap := fun a o h => F.keep _ _ (X₀ a o h)
  have hT : s.TypeIs (.ref 57) "dict" := ⟨_, X 57 _ (by k_dflt k_is), rfl⟩
  refine subscriptTail_builtin hT PySem.F.slot_dict_getitem.lookup (wpAny_getItem_slot hT (by decide) PySem.F.slot_dict_getitem ?_)
  obtain ⟨h, g, d, t, os⟩ := s
  refine wp_weaken (A' := A0) h1 h2 (fun l hl => by cases hl) rfl (by show A.units ≤ 8000; omega) ?_
  simp only [L7, List.mem_cons, List.not_mem_nil, or_false] at hc
  rcases hc with rfl | rfl | rfl | rfl | rfl | rfl | rfl
  · exact al65 X fun k t' => hQ k t'
  · exact al66 X fun k t' => hQ k t'
  · exact al67 X fun k t' => hQ k t'
  · exact al68 X fun k t' => hQ k t'
  · exact al69 X fun k t' => hQ k t'
  · exact al70 X fun k t' => hQ k t'
  · exact al71 X fun k t' => hQ k t'
end Mine

end
section
open PySem PySem.W PySem.W.X PyProof.Rows
namespace Mine
local macro_rules | `(tactic| walk_at "pad") => `(tactic| fail "pad")
local macro_rules | `(tactic| walk_at "pad") => `(tactic| fail "pad")
local macro_rules | `(tactic| walk_at "my_sub") => `(tactic| (refine news_sub (by assumption) ?_; intro p hp; (repeat (first | exact hp | refine List.Mem.tail _ ?_))))
local macro_rules | `(tactic| k_all) => `(tactic| assumption)
local macro_rules | `(tactic| k_mem) => `(tactic| assumption)
theorem len1 (c : Nat) : (⟨#[c]⟩ : Str).length = 1 := rfl
theorem jp_nil3 {M : Model} {A : Around} {E : Value → Shared → Prop} {s : Shared} {env : Env} {a x b : Str} {Q : Value → Shared → Prop} (ha : a.length ≤ 1000) (hx : x.length ≤ 1000) (hb : b.length ≤ 1000)
   (h : ∀ y, Q (.str y s.toks) { s with toks := s.toks + 1 }) : wpAny M A (joinParts (((Str.empty ++ a) ++ x) ++ b) (evalEach [] env)) Q E s :=
  joinParts_nil (h _) (by rw [Str.length_append, Str.length_append, Str.length_append]; have : Str.empty.length = 0 := rfl; have : sizeLine = 16777216 := rfl; omega)
local macro_rules | `(tactic| walk_at "joinParts") => `(tactic| (k_here; (with_reducible show wpAny _ _ (joinParts _ (evalEach [] _)) _ _ _); k_dflt (refine' jp_nil3 ?h1 ?h2 ?h3 ?_; (case h1 => exact Nat.le_of_ble_eq_true rfl); (case h2 => exact Nat.le_of_ble_eq_true rfl); (case h3 => exact Nat.le_of_ble_eq_true rfl); k_whole; intro y')))
theorem upper1 {c : Nat} (hc : c ∈ L7) : Txt.upper ⟨#[c]⟩ = ⟨#[c]⟩ := by
  simp only [L7, List.mem_cons, List.not_mem_nil, or_false] at hc
  rcases hc with rfl | rfl | rfl | rfl | rfl | rfl | rfl <;> kernel_rfl
theorem upper_K {w : World} {A : Around} {E : Value → Shared → Prop} {s : Shared} {c : Nat} {t : Tok} {Q : Value → Shared → Prop} (hc : c ∈ L7) (h : Q (.str ⟨#[c]⟩ s.toks) { s with toks := s.toks + 1 }) : wpAny (model PR w) A (call (.builtin "str.upper") [.str ⟨#[c]⟩ t]) Q E s :=
  SC.upper (by rw [upper1 hc]; rfl) (by rw [upper1 hc]; exact h)
local macro_rules | `(tactic| walk_at "call builtin:str.upper") => `(tactic| (k_here; k_dflt (refine' upper_K ?h1 ?_; (case h1 => assumption); k_whole)))
local macro_rules | `(tactic| walk_at "call type:reversed") => `(tactic| (k_here; k_dflt (refine' rev_K ?k1 ?k2 ?q1 ?q2 ?q3 ?_; (case k1 => k_asm); (case k2 => k_asm); (case q1 => rfl); (case q2 => exact Nat.le_of_ble_eq_true rfl); (case q3 => exact Nat.le_of_ble_eq_true rfl); k_whole; intro a' h' t' F' N' hne')))
local macro_rules | `(tactic| walk_at "exec For Tuple Call") => `(tactic| (k_here; (rename Fr _ _ _ _ => lF'); (with_unfolding_all refine' For_turns lF' ?_; k_whole)))
local macro_rules | `(tactic| walk_at "call type:zip") => `(tactic| (k_here; (rename Fr _ _ _ _ => lF'); k_dflt (refine' zTurnsAt ?q1 ?q2 ?q3 lF' ?k1 ?k2 ?k3 ?_; (case k1 => k_asm); (case k2 => (refine (by assumption : Frag.In _ _) 59 _ ?_; k_is)); (case k3 => assumption); (case q1 => rfl); (case q2 => exact Nat.le_of_ble_eq_true rfl); (case q3 => exact Nat.le_of_ble_eq_true rfl); k_whole; intro z' TI' TO' ti' hoff')))
local macro_rules | `(tactic| walk_at "UnrEndW") => `(tactic| (refine' unrEnd_abs ?k1 ?k2 ?k3 ?k4 ?k5 ⟨trivial, ?_⟩; (case k1 => k_asm); (case k2 => k_asm); (case k3 => k_subL); (case k5 => assumption); (case k4 => (intro p hp; (repeat (first | exact hp | refine List.Mem.tail _ ?_))))))
local macro_rules | `(tactic| walk_at "subscriptTail") => `(tactic| (k_here; k_dflt (refine' alpha_K ?k1 ?k2 ?k3 ?q1 ?q2 ?q3 ?_; (case k1 => k_asm); (case k2 => assumption); (case k3 => assumption); (case q1 => rfl); (case q2 => exact Nat.le_of_ble_eq_true rfl); (case q3 => exact Nat.le_of_ble_eq_true rfl); k_whole; intro k' t')))
abbrev AK (d u : Nat) (outer : List Env) : Around := { handled := none, depth := d, frames := some outer, guards := none, units := u }
theorem to_AK {d u : Nat} {M : Model} {α : Type} {A : Around} {base h₀ : Heap} {outer : List Env} {env : Env} {t : Sem α} {Q : α → Shared → Prop} {E : Value → Shared → Prop} {s : Shared} (h1 : A.handled = none) (h2 : A.depth ≤ d) (h5 : A.units ≤ u) (B : Below A base outer h₀)
   (h : Below (AK d u outer) base outer h₀ → wpAny M ((AK d u outer).deeper env) t Q E s) : wpAny M (A.deeper env) t Q E s := by
  refine wp_weaken (A' := (AK d u outer).deeper env) h1 (Nat.add_le_add_right h2 1) (fun l hl => ?_) rfl (Nat.add_le_add_right h5 3) (h ⟨rfl, B.stays, B.frames⟩)
  rw [Around.frames_deeper B.stack]; exact hl
set_option maxRecDepth 100000 in
set_option maxHeartbeats 1000000 in
theorem ci_K {w : World} {outer : List Env} {base h₀ : Heap} {L a : Addr} {cn : Str} {nms : List (Str × NameKind)} {ig ic : Bool} {mo} {ccd : Value} {m mg mb : Str → Option Value} {news : List (Addr × Obj)}
  {s : Shared} {p : Program} {loose : List Str} {mean : ExcName → Option Value} {Q : Value → Shared → Prop} {E : Value → Shared → Prop}
  (B : Below (AK 700 3000 outer) base outer h₀) (F : Fr h₀ L s.heap m) (X₀ : (hd.heap_39 w.params).In h₀) (T : Top p loose mean mg mb h₀)
  {tk : Tok} {c : Nat} (hc : c ∈ L7) (hc1 : 65 ≤ c) (hc2 : c ≤ 71)
  (N : News h₀ L s.heap news) 
  (hQ : ∀ h' k tk', Fr h₀ L h' m → News h₀ L h' news → Q (.int ((c : Int) - 64) k) { s with heap := h', toks := tk' }) :
  wpAny (model PR w) ((AK 700 3000 outer).deeper (envOf cn ⟨.function, nms, ig, ic, mo⟩ L a ccd)) (PySem.call (.ref 66) [.str ⟨#[c]⟩ tk]) Q E s := by
  have F' := F
  refine wpAny_call ?_
  w_strict k_enter
  w_strict k_steps
  all_goals (rw [show (0 : Int) + ((c : Int) - 64) * 1 = (c : Int) - 64 by omega]; refine hQ _ _ _ (by assumption) ?_; walk_at "my_sub")
theorem ci_C {w : World} {A : Around} {outer : List Env} {base h₀ : Heap} {L a : Addr} {cn : Str} {nms : List (Str × NameKind)} {ig ic : Bool} {mo} {ccd : Value} {m mg mb : Str → Option Value} {news : List (Addr × Obj)}
  {s : Shared} {p : Program} {loose : List Str} {mean : ExcName → Option Value} {Q : Value → Shared → Prop} {E : Value → Shared → Prop}
  (h1 : A.handled = none) (h2 : A.depth ≤ 700) (h5 : A.units ≤ 3000)
  (B : Below A base outer h₀) (F : Fr h₀ L s.heap m) (X₀ : (hd.heap_39 w.params).In h₀) (T : Top p loose mean mg mb h₀)
  {tk : Tok} {c : Nat} (hc : c ∈ L7) (N : News h₀ L s.heap news) 
  (hQ : ∀ h' k tk', Fr h₀ L h' m → News h₀ L h' news → Q (.int ((c : Int) - 64) k) { s with heap := h', toks := tk' }) :
  wpAny (model PR w) (A.deeper (envOf cn ⟨.function, nms, ig, ic, mo⟩ L a ccd)) (PySem.call (.ref 66) [.str ⟨#[c]⟩ tk]) Q E s :=
  to_AK h1 h2 h5 B fun B' => ci_K B' F X₀ T hc (by simp only [L7, List.mem_cons, List.not_mem_nil, or_false] at hc; omega) (by simp only [L7, List.mem_cons, List.not_mem_nil, or_false] at hc; omega) N hQ
end Mine

end
section
open PySem PySem.W PySem.W.X PyProof.Rows
namespace Mine
section
local macro_rules | `(tactic| x_close) => do let i := Lean.mkIdent `hQ; `(tactic| (exact $i _ _))
set_option maxRecDepth 100000 in
set_option maxHeartbeats 8000000 in
theorem in49 {w : World} {h : Heap} {tk : Tok}
   {g : Array GenState} {d : Drawn} {t : Nat} {os : OsState} {Q : Value → Shared → Prop} {E : Value → Shared → Prop}
   (hQ : ∀ k t', Q (.int 1 k) ⟨h, g, d, t', os⟩) :
   wpAny (model PR w) A0 (PySem.call (.type "int") [.str ⟨#[49]⟩ tk]) Q E ⟨h, g, d, t, os⟩ := by
  x_run
set_option maxRecDepth 100000 in
set_option maxHeartbeats 8000000 in
theorem in50 {w : World} {h : Heap} {tk : Tok}
   {g : Array GenState} {d : Drawn} {t : Nat} {os : OsState} {Q : Value → Shared → Prop} {E : Value → Shared → Prop}
   (hQ : ∀ k t', Q (.int 2 k) ⟨h, g, d, t', os⟩) :
   wpAny (model PR w) A0 (PySem.call (.type "int") [.str ⟨#[50]⟩ tk]) Q E ⟨h, g, d, t, os⟩ := by
  x_run
set_option maxRecDepth 100000 in
set_option maxHeartbeats 8000000 in
theorem in51 {w : World} {h : Heap} {tk : Tok}
   {g : Array GenState} {d : Drawn} {t : Nat} {os : OsState} {Q : Value → Shared → Prop} {E : Value → Shared → Prop}
   (hQ : ∀ k t', Q (.int 3 k) ⟨h, g, d, t', os⟩) :
   wpAny (model PR w) A0 (PySem.call (.type "int") [.str ⟨#[51]⟩ tk]) Q E ⟨h, g, d, t, os⟩ := by
  x_run
set_option maxRecDepth 100000 in
set_option maxHeartbeats 8000000 in
theorem in52 {w : World} {h : Heap} {tk : Tok}
   {g : Array GenState} {d : Drawn} {t : Nat} {os : OsState} {Q : Value → Shared → Prop} {E : Value → Shared → Prop}
   (hQ : ∀ k t', Q (.int 4 k) ⟨h, g, d, t', os⟩) :
   wpAny (model PR w) A0 (PySem.call (.type "int") [.str ⟨#[52]⟩ tk]) Q E ⟨h, g, d, t, os⟩ := by
  x_run
set_option maxRecDepth 100000 in
set_option maxHeartbeats 8000000 in
theorem in53 {w : World} {h : Heap} {tk : Tok}
   {g : Array GenState} {d : Drawn} {t : Nat} {os : OsState} {Q : Value → Shared → Prop} {E : Value → Shared → Prop}
   (hQ : ∀ k t', Q (.int 5 k) ⟨h, g, d, t', os⟩) :
   wpAny (model PR w) A0 (PySem.call (.type "int") [.str ⟨#[53]⟩ tk]) Q E ⟨h, g, d, t, os⟩ := by
  x_run
set_option maxRecDepth 100000 in
set_option maxHeartbeats 8000000 in
theorem in54 {w : World} {h : Heap} {tk : Tok}
   {g : Array GenState} {d : Drawn} {t : Nat} {os : OsState} {Q : Value → Shared → Prop} {E : Value → Shared → Prop}
   (hQ : ∀ k t', Q (.int 6 k) ⟨h, g, d, t', os⟩) :
   wpAny (model PR w) A0 (PySem.call (.type "int") [.str ⟨#[54]⟩ tk]) Q E ⟨h, g, d, t, os⟩ := by
  x_run
set_option maxRecDepth 100000 in
set_option maxHeartbeats 8000000 in
theorem in55 {w : World} {h : Heap} {tk : Tok}
   {g : Array GenState} {d : Drawn} {t : Nat} {os : OsState} {Q : Value → Shared → Prop} {E : Value → Shared → Prop}
   (hQ : ∀ k t', Q (.int 7 k) ⟨h, g, d, t', os⟩) :
   wpAny (model PR w) A0 (PySem.call (.type "int") [.str ⟨#[55]⟩ tk]) Q E ⟨h, g, d, t, os⟩ := by
  x_run
end
abbrev D7 : List Nat := [49, 50, 51, 52, 53, 54, 55]
theorem int_K {w : World} {A : Around} {s : Shared} {c : Nat} {tk : Tok} {Q : Value → Shared → Prop} {E : Value → Shared → Prop}
   (hc : c ∈ D7) (h1 : A.handled = none) (h2 : A.depth ≤ 900) (h5 : A.units + 1 ≤ 8000)
   (hQ : ∀ k tk', Q (.int ((c : Int) - 48) k) { s with toks := tk' }) : wpAny (model PR w) A (PySem.call (.type "int") [.str ⟨#[c]⟩ tk]) Q E s := by
  obtain ⟨h, g, d, t, os⟩ := s
  refine wp_weaken (A' := A0) h1 h2 (fun l hl => by cases hl) rfl (by show A.units ≤ 8000; omega) ?_
  simp only [D7, List.mem_cons, List.not_mem_nil, or_false] at hc
  rcases hc with rfl | rfl | rfl | rfl | rfl | rfl | rfl
  · exact in49 fun k t' => hQ k t'
  · exact in50 fun k t' => hQ k t'
  · exact in51 fun k t' => hQ k t'
  · exact in52 fun k t' => hQ k t'
  · exact in53 fun k t' => hQ k t'
  · exact in54 fun k t' => hQ k t'
  · exact in55 fun k t' => hQ k t'
section
local macro_rules | `(tactic| x_close) => do let i := Lean.mkIdent `hQ; `(tactic| ((rename Mem _ _ _ _ => dX); exact $i _ _ _ dX))
set_option maxRecDepth 100000 in
set_option maxHeartbeats 8000000 in
theorem all4_X {w : World} {h : Heap} {tp : Addr} {a1 a2 a3 a4 : Nat} {t1 t2 t3 t4 : Tok} (ht : h.get? tp = some { cls := .type "tuple", data := .seq #[.str ⟨#[a1]⟩ t1, .str ⟨#[a2]⟩ t2, .str ⟨#[a3]⟩ t3, .str ⟨#[a4]⟩ t4] })
   {g : Array GenState} {d : Drawn} {t : Nat} {os : OsState} {Q : Value → Shared → Prop} {E : Value → Shared → Prop}
   (hQ : ∀ l h' t', Mem h h' [] l → Q (.bool true) ⟨h', g, d, t', os⟩) :
   wpAny (model PR w) A0 (PySem.call (.builtin "all") [.ref tp]) Q E ⟨h, g, d, t, os⟩ := by
  x_run
end
theorem all4_K {w : World} {A : Around} {s : Shared} {h₀ : Heap} {L : Addr} {mm : Str → Option Value} {news : List (Addr × Obj)} {Q : Value → Shared → Prop} {E : Value → Shared → Prop} {tp : Addr} {a1 a2 a3 a4 : Nat} {t1 t2 t3 t4 : Tok}
   (F : Fr h₀ L s.heap mm) (N : News h₀ L s.heap news) (h1 : A.handled = none) (h2 : A.depth ≤ 900) (h5 : A.units + 1 ≤ 8000)
   (hm : (tp, { cls := .type "tuple", data := .seq #[.str ⟨#[a1]⟩ t1, .str ⟨#[a2]⟩ t2, .str ⟨#[a3]⟩ t3, .str ⟨#[a4]⟩ t4] }) ∈ news)
   (hQ : ∀ h' tk', Fr h₀ L h' mm → News h₀ L h' news → Q (.bool true) { s with heap := h', toks := tk' }) : wpAny (model PR w) A (PySem.call (.builtin "all") [.ref tp]) Q E s := by
  obtain ⟨h, g, d, t, os⟩ := s
  refine wp_weaken (A' := A0) h1 h2 (fun l hl => by cases hl) rfl (by show A.units ≤ 8000; omega) ?_
  refine all4_X (N _ hm).1 fun l h' t' D => ?_
  have hk := memKeepAll D
  exact hQ h' t' (F.keeps hk) fun p hp => ⟨hk _ _ (N p hp).1, (N p hp).2⟩
theorem truthy3_K {w : World} {A : Around} {s : Shared} {a1 a2 a3 : Nat} {k : Tok} {Q : Bool → Shared → Prop} {E : Value → Shared → Prop} (h : Q true { s with toks := s.toks + 1 + 1 }) : wpAny (model PR w) A (truthy (.str ⟨#[a1, a2, a3]⟩ k)) Q E s :=
  P.truthy_str (by show ¬ ((3 : Nat) : Int) ≥ 2 ^ 63; decide) h
theorem truthy1_K {w : World} {A : Around} {s : Shared} {a1 : Nat} {k : Tok} {Q : Bool → Shared → Prop} {E : Value → Shared → Prop} (h : Q true { s with toks := s.toks + 1 + 1 }) : wpAny (model PR w) A (truthy (.str ⟨#[a1]⟩ k)) Q E s :=
  P.truthy_str (by show ¬ ((1 : Nat) : Int) ≥ 2 ^ 63; decide) h
end Mine

end
section
open PySem PySem.W PySem.W.X PyProof.Rows
namespace Mine
local macro_rules | `(tactic| walk_at "pad") => `(tactic| fail "pad")
local macro_rules | `(tactic| walk_at "my_lt") => `(tactic| (rename (@LT.lt Nat _ _ _ ∧ _) => lz; (repeat (first | exact lz | replace lz := lz.2))))
local macro_rules | `(tactic| walk_at "my_sub2") => `(tactic| (refine news_sub (by assumption) ?_; intro p hp; rcases List.mem_cons.mp hp with rfl | hp <;> (repeat (first | exact List.Mem.head _ | exact hp | refine List.Mem.tail _ ?_))))
local macro_rules | `(tactic| k_all) => `(tactic| assumption)
local macro_rules | `(tactic| k_mem) => `(tactic| assumption)
local macro_rules | `(tactic| walk_at "call builtin:str.format") => `(tactic| (k_here; k_dflt ((first | refine' fmt5_K ?q1 ?q2 ?q3 ?z1 ?z2 ?z3 ?z4 ?z5 ?_ | refine' fmt2_K ?q1 ?q2 ?q3 ?z1 ?z2 ?_); (case q1 => rfl); (case q2 => exact Nat.le_of_ble_eq_true rfl); (case q3 => exact Nat.le_of_ble_eq_true rfl); (case z1 => assumption); (case z2 => assumption); (try case z3 => assumption); (try case z4 => assumption); (try case z5 => assumption); k_whole; intro y' k' t')))
local macro_rules | `(tactic| walk_at "getMethod ref") => `(tactic| (k_here; first
  | (refine' pat_method_K ?k1 ?k2 ?_; (case k1 => k_asm); (case k2 => first | exact pat43 (by assumption) | exact pat48 (by assumption)))
  | (refine' groups_method_K ?k1 ?k2 ?_; (case k1 => k_asm); (case k2 => news_mem))
  | (refine' group_method_K ?k1 ?k2 ?_; (case k1 => k_asm); (case k2 => news_mem))))
local macro_rules | `(tactic| walk_at "call builtin:re.Pattern.match") => `(tactic| (k_here; k_dflt ((first | refine' ab5M_K ?k1 ?k2 ?k3 ?z1 ?z2 ?z3 ?z4 ?_ | refine' ab2M_K ?k1 ?k2 ?k3 ?z1 ?z2 ?_); (case k1 => k_asm); (case k2 => assumption); (case k3 => k_asm); (case z1 => assumption); (case z2 => assumption); (try case z3 => assumption); (try case z4 => assumption); k_whole; intro sp' mt' h' F' N' l1 l2; (try k_lt l1))))
local macro_rules | `(tactic| walk_at "call builtin:re.Match.groups") => `(tactic| (k_here; k_dflt (first | (refine' groups5_wp ?k1 ?k2 ?z1 ?z2 ?z3 ?z4 ?m1 ?m2 ?_; (case k1 => k_asm); (case k2 => k_asm); (case m1 => news_mem); (case m2 => news_mem); (case z1 => assumption); (case z2 => assumption); (case z3 => assumption); (case z4 => assumption); k_whole; (intro l' k0 k1 k2 k3 k4 h' t' F' N' l1; (try k_lt l1))) | (refine' groups2_wp ?k1 ?k2 ?m1 ?m2 ?_; (case k1 => k_asm); (case k2 => k_asm); (case m1 => news_mem); (case m2 => news_mem); k_whole; (intro l' k0 k1 h' t' F' N' l1; (try k_lt l1))))))
local macro_rules | `(tactic| walk_at "truthy ref") => `(tactic| (k_here; refine' truthy_m_K ?k1 ?k2 ?_; (case k1 => k_asm); (case k2 => news_mem)))
local macro_rules | `(tactic| walk_at "truthy str") => `(tactic| (k_here; k_dflt (first | refine' truthy3_K ?_ | refine' truthy1_K ?_)))
local macro_rules | `(tactic| walk_at "call builtin:all") => `(tactic| (k_here; k_dflt (refine' all4_K ?k1 ?k2 ?q1 ?q2 ?q3 ?m1 ?_; (case k1 => k_asm); (case k2 => k_asm); (case m1 => news_mem); (case q1 => rfl); (case q2 => exact Nat.le_of_ble_eq_true rfl); (case q3 => exact Nat.le_of_ble_eq_true rfl); k_whole; intro h' t' F' N')))
local macro_rules | `(tactic| walk_at "call type:int") => `(tactic| (k_here; k_dflt (refine' int_K ?m1 ?q1 ?q2 ?q3 ?_; (case m1 => assumption); (case q1 => rfl); (case q2 => exact Nat.le_of_ble_eq_true rfl); (case q3 => exact Nat.le_of_ble_eq_true rfl); k_whole; intro k' t')))
local macro_rules | `(tactic| walk_at "call ref") => `(tactic| (k_here; (with_reducible show wpAny _ _ (PySem.call (Value.ref 66) _) _ _ _); k_dflt (refine' ci_C ?q1 ?q2 ?q3 ?B ?F ?X ?T ?hc ?N ?_; (case B => k_asm); (case F => k_asm); (case X => assumption); (case T => assumption); (case hc => assumption); (case N => k_asm); (case q1 => rfl); (case q2 => exact Nat.le_of_ble_eq_true rfl); (case q3 => exact Nat.le_of_ble_eq_true rfl); k_whole; intro h' k' t' F' N')))
theorem news_cons_sub {h₀ h : Heap} {L : Addr} {t : Addr} {o : Obj} {l news : List (Addr × Obj)} (N : News h₀ L h ((t, o) :: l)) (hs : ∀ p ∈ news, p ∈ l) : News h₀ L h ((t, o) :: news) := fun p hp => by
  rcases List.mem_cons.mp hp with rfl | hp
  · exact N _ (.head _)
  · exact N _ (.tail _ (hs _ hp))
theorem lt128L {c : Nat} (h : c ∈ L7) : c < 128 := by simp only [L7, List.mem_cons, List.not_mem_nil, or_false] at h; omega
theorem lt128D {c : Nat} (h : c ∈ D7) : c < 128 := by simp only [D7, List.mem_cons, List.not_mem_nil, or_false] at h; omega
set_option maxRecDepth 100000 in
set_option maxHeartbeats 2000000 in
theorem rb5_K {w : World} {outer : List Env} {base h₀ : Heap} {L a : Addr} {cn : Str} {nms : List (Str × NameKind)} {ig ic : Bool} {mo} {ccd : Value} {m mg mb : Str → Option Value} {news : List (Addr × Obj)} {s : Shared} {p : Program} {loose : List Str} {mean : ExcName → Option Value} {Q : Value → Shared → Prop} {E : Value → Shared → Prop}
  (B : Below (AK 690 2900 outer) base outer h₀) (F : Fr h₀ L s.heap m) (X₀ : (hd.heap_39 w.params).In h₀) (T : Top p loose mean mg mb h₀)
  {c1 d1 c2 d2 : Nat} {tk : Tok} (hc1 : c1 ∈ L7) (hd1 : d1 ∈ D7) (hc2 : c2 ∈ L7) (hd2 : d2 ∈ D7) (lc1 : c1 < 128) (ld1 : d1 < 128) (lc2 : c2 < 128) (ld2 : d2 < 128) (lc : 58 < 128) (N : News h₀ L s.heap news)
  (hQ : ∀ t k0 k1 k2 k3 h' tk', Fr h₀ L h' m → News h₀ L h' ((t, tup4 ((c1 : Int) - 64) ((d1 : Int) - 48) ((c2 : Int) - 64) ((d2 : Int) - 48) k0 k1 k2 k3) :: news) → AllLt t news → Q (.ref t) { s with heap := h', toks := tk' }) :
  wpAny (model PR w) ((AK 690 2900 outer).deeper (envOf cn ⟨.function, nms, ig, ic, mo⟩ L a ccd)) (PySem.call (.ref 73) [.str ⟨#[c1, d1, 58, c2, d2]⟩ tk]) Q E s := by
  have F' := F
  refine wpAny_call ?_
  w_strict k_enter
  w_strict k_steps
  all_goals (refine' hQ _ _ _ _ _ _ _ ?F (news_cons_sub ?N ?S) ?lt; (case N => assumption); (case F => assumption); (case S => (intro p hp; (repeat (first | exact hp | refine List.Mem.tail _ ?_)))); (case lt => walk_at "my_lt"))
theorem rb5_C {w : World} {A : Around} {outer : List Env} {base h₀ : Heap} {L a : Addr} {cn : Str} {nms : List (Str × NameKind)} {ig ic : Bool} {mo} {ccd : Value} {m mg mb : Str → Option Value} {news : List (Addr × Obj)} {s : Shared} {p : Program} {loose : List Str} {mean : ExcName → Option Value} {Q : Value → Shared → Prop} {E : Value → Shared → Prop}
  (h1 : A.handled = none) (h2 : A.depth ≤ 690) (h5 : A.units ≤ 2900) (B : Below A base outer h₀) (F : Fr h₀ L s.heap m) (X₀ : (hd.heap_39 w.params).In h₀) (T : Top p loose mean mg mb h₀)
  {c1 d1 c2 d2 : Nat} {tk : Tok} (hc1 : c1 ∈ L7) (hd1 : d1 ∈ D7) (hc2 : c2 ∈ L7) (hd2 : d2 ∈ D7) (N : News h₀ L s.heap news)
  (hQ : ∀ t k0 k1 k2 k3 h' tk', Fr h₀ L h' m → News h₀ L h' ((t, tup4 ((c1 : Int) - 64) ((d1 : Int) - 48) ((c2 : Int) - 64) ((d2 : Int) - 48) k0 k1 k2 k3) :: news) → AllLt t news → Q (.ref t) { s with heap := h', toks := tk' }) :
  wpAny (model PR w) (A.deeper (envOf cn ⟨.function, nms, ig, ic, mo⟩ L a ccd)) (PySem.call (.ref 73) [.str ⟨#[c1, d1, 58, c2, d2]⟩ tk]) Q E s :=
  to_AK h1 h2 h5 B fun B' => rb5_K B' F X₀ T hc1 hd1 hc2 hd2 (lt128L hc1) (lt128D hd1) (lt128L hc2) (lt128D hd2) (by decide) N hQ
set_option maxRecDepth 100000 in
set_option maxHeartbeats 2000000 in
theorem rb2_K {w : World} {outer : List Env} {base h₀ : Heap} {L a : Addr} {cn : Str} {nms : List (Str × NameKind)} {ig ic : Bool} {mo} {ccd : Value} {m mg mb : Str → Option Value} {news : List (Addr × Obj)} {s : Shared} {p : Program} {loose : List Str} {mean : ExcName → Option Value} {Q : Value → Shared → Prop} {E : Value → Shared → Prop}
  (B : Below (AK 690 2900 outer) base outer h₀) (F : Fr h₀ L s.heap m) (X₀ : (hd.heap_39 w.params).In h₀) (T : Top p loose mean mg mb h₀)
  {c1 d1 : Nat} {tk : Tok} (hc1 : c1 ∈ L7) (hd1 : d1 ∈ D7) (lc1 : c1 < 128) (ld1 : d1 < 128) (N : News h₀ L s.heap news)
  (hQ : ∀ t k0 k1 k2 k3 h' tk', Fr h₀ L h' m → News h₀ L h' ((t, tup4 ((c1 : Int) - 64) ((d1 : Int) - 48) ((c1 : Int) - 64) ((d1 : Int) - 48) k0 k1 k2 k3) :: news) → AllLt t news → Q (.ref t) { s with heap := h', toks := tk' }) :
  wpAny (model PR w) ((AK 690 2900 outer).deeper (envOf cn ⟨.function, nms, ig, ic, mo⟩ L a ccd)) (PySem.call (.ref 73) [.str ⟨#[c1, d1]⟩ tk]) Q E s := by
  have F' := F
  refine wpAny_call ?_
  w_strict k_enter
  w_strict k_steps
  all_goals (refine' hQ _ _ _ _ _ _ _ ?F (news_cons_sub ?N ?S) ?lt; (case N => assumption); (case F => assumption); (case S => (intro p hp; (repeat (first | exact hp | refine List.Mem.tail _ ?_)))); (case lt => walk_at "my_lt"))
theorem rb2_C {w : World} {A : Around} {outer : List Env} {base h₀ : Heap} {L a : Addr} {cn : Str} {nms : List (Str × NameKind)} {ig ic : Bool} {mo} {ccd : Value} {m mg mb : Str → Option Value} {news : List (Addr × Obj)} {s : Shared} {p : Program} {loose : List Str} {mean : ExcName → Option Value} {Q : Value → Shared → Prop} {E : Value → Shared → Prop}
  (h1 : A.handled = none) (h2 : A.depth ≤ 690) (h5 : A.units ≤ 2900) (B : Below A base outer h₀) (F : Fr h₀ L s.heap m) (X₀ : (hd.heap_39 w.params).In h₀) (T : Top p loose mean mg mb h₀)
  {c1 d1 : Nat} {tk : Tok} (hc1 : c1 ∈ L7) (hd1 : d1 ∈ D7) (N : News h₀ L s.heap news)
  (hQ : ∀ t k0 k1 k2 k3 h' tk', Fr h₀ L h' m → News h₀ L h' ((t, tup4 ((c1 : Int) - 64) ((d1 : Int) - 48) ((c1 : Int) - 64) ((d1 : Int) - 48) k0 k1 k2 k3) :: news) → AllLt t news → Q (.ref t) { s with heap := h', toks := tk' }) :
  wpAny (model PR w) (A.deeper (envOf cn ⟨.function, nms, ig, ic, mo⟩ L a ccd)) (PySem.call (.ref 73) [.str ⟨#[c1, d1]⟩ tk]) Q E s :=
  to_AK h1 h2 h5 B fun B' => rb2_K B' F X₀ T hc1 hd1 (lt128L hc1) (lt128D hd1) N hQ
end Mine

end
section
open PySem PySem.W PySem.W.X PyProof.Rows
namespace Mine
abbrev L5 : List Nat := [65, 66, 67, 68, 69]
abbrev D5 : List Nat := [49, 50, 51, 52, 53]
theorem L57 {c : Nat} (h : c ∈ L5) : c ∈ L7 := by simp only [L5, L7, List.mem_cons, List.not_mem_nil, or_false] at h ⊢; omega
theorem D57 {c : Nat} (h : c ∈ D5) : c ∈ D7 := by simp only [D5, D7, List.mem_cons, List.not_mem_nil, or_false] at h ⊢; omega
theorem news_two_sub {h₀ h : Heap} {L : Addr} {t b : Addr} {o q : Obj} {l news : List (Addr × Obj)} (N : News h₀ L h ((t, o) :: (b, q) :: l)) (hs : ∀ p ∈ news, p ∈ l) : News h₀ L h ((t, o) :: (b, q) :: news) := fun p hp => by
  rcases List.mem_cons.mp hp with rfl | hp
  · exact N _ (.head _)
  · rcases List.mem_cons.mp hp with rfl | hp
    · exact N _ (.tail _ (.head _))
    · exact N _ (.tail _ (.tail _ (hs _ hp)))
theorem gS5_quoted_K {w : World} {A : Around} {s : Shared} {h₀ : Heap} {L : Addr} {mm : Str → Option Value} {news : List (Addr × Obj)} {Q : Value → Shared → Prop} {E : Value → Shared → Prop} {mt sp : Addr} {n1 c1 d1 c2 d2 : Nat} {tk tq : Tok} {po lim : Nat} {li : Int}
   (F : Fr h₀ L s.heap mm) (X₀ : (hd.heap_39 w.params).In h₀) (N : News h₀ L s.heap news) (hm : (mt, matchObj (.str ⟨#[39, n1, 39, 33, c1, d1, 58, c2, d2]⟩ tk) (.ref 48) po lim li sp) ∈ news) (hs : (sp, tupOf (pairs [0, 9, 0, 3, 0, 3, 1, 2, 1, 2, (-1), (-1), 4, 9, 4, 5, 5, 6, 6, 9, 7, 8, 8, 9])) ∈ news)
   (hn1 : n1 < 128) (hc1 : c1 < 128) (hd1 : d1 < 128) (hc2 : c2 < 128) (hd2 : d2 < 128) (h1 : A.handled = none) (h2 : A.depth ≤ 900) (h5 : A.units + 1 ≤ 8000)
   (hQ : ∀ k tk', Q (.str ⟨#[n1]⟩ k) { s with toks := tk' }) : wpAny (model PR w) A (PySem.call (.builtin "re.Match.group") [.ref mt, .str (Str.ofString "quoted") tq]) Q E s := by
  have X : (hd.heap_39 w.params).In s.heap := fun a o h => F.keep _ _ (X₀ a o h)
  have hm' := (N _ hm).1
  have hs' := (N _ hs).1
  obtain ⟨h, g, d, t, os⟩ := s
  refine wp_weaken (A' := A0) h1 h2 (fun l hl => by cases hl) rfl (by show A.units ≤ 8000; omega) ?_
  exact gS5_quoted_X X hn1 hc1 hd1 hc2 hd2 hm' hs' fun k t' => hQ k t'
theorem gS5_cells_K {w : World} {A : Around} {s : Shared} {h₀ : Heap} {L : Addr} {mm : Str → Option Value} {news : List (Addr × Obj)} {Q : Value → Shared → Prop} {E : Value → Shared → Prop} {mt sp : Addr} {n1 c1 d1 c2 d2 : Nat} {tk tq : Tok} {po lim : Nat} {li : Int}
   (F : Fr h₀ L s.heap mm) (X₀ : (hd.heap_39 w.params).In h₀) (N : News h₀ L s.heap news) (hm : (mt, matchObj (.str ⟨#[39, n1, 39, 33, c1, d1, 58, c2, d2]⟩ tk) (.ref 48) po lim li sp) ∈ news) (hs : (sp, tupOf (pairs [0, 9, 0, 3, 0, 3, 1, 2, 1, 2, (-1), (-1), 4, 9, 4, 5, 5, 6, 6, 9, 7, 8, 8, 9])) ∈ news)
   (hn1 : n1 < 128) (hc1 : c1 < 128) (hd1 : d1 < 128) (hc2 : c2 < 128) (hd2 : d2 < 128) (h1 : A.handled = none) (h2 : A.depth ≤ 900) (h5 : A.units + 1 ≤ 8000)
   (hQ : ∀ k tk', Q (.str ⟨#[c1, d1, 58, c2, d2]⟩ k) { s with toks := tk' }) : wpAny (model PR w) A (PySem.call (.builtin "re.Match.group") [.ref mt, .str (Str.ofString "cells") tq]) Q E s := by
  have X : (hd.heap_39 w.params).In s.heap := fun a o h => F.keep _ _ (X₀ a o h)
  have hm' := (N _ hm).1
  have hs' := (N _ hs).1
  obtain ⟨h, g, d, t, os⟩ := s
  refine wp_weaken (A' := A0) h1 h2 (fun l hl => by cases hl) rfl (by show A.units ≤ 8000; omega) ?_
  exact gS5_cells_X X hn1 hc1 hd1 hc2 hd2 hm' hs' fun k t' => hQ k t'
theorem gS2_quoted_K {w : World} {A : Around} {s : Shared} {h₀ : Heap} {L : Addr} {mm : Str → Option Value} {news : List (Addr × Obj)} {Q : Value → Shared → Prop} {E : Value → Shared → Prop} {mt sp : Addr} {n1 c1 d1 : Nat} {tk tq : Tok} {po lim : Nat} {li : Int}
   (F : Fr h₀ L s.heap mm) (X₀ : (hd.heap_39 w.params).In h₀) (N : News h₀ L s.heap news) (hm : (mt, matchObj (.str ⟨#[39, n1, 39, 33, c1, d1]⟩ tk) (.ref 48) po lim li sp) ∈ news) (hs : (sp, tupOf (pairs [0, 6, 0, 3, 0, 3, 1, 2, 1, 2, (-1), (-1), 4, 6, 4, 5, 5, 6, (-1), (-1), (-1), (-1), (-1), (-1)])) ∈ news)
   (hn1 : n1 < 128) (hc1 : c1 < 128) (hd1 : d1 < 128) (h1 : A.handled = none) (h2 : A.depth ≤ 900) (h5 : A.units + 1 ≤ 8000)
   (hQ : ∀ k tk', Q (.str ⟨#[n1]⟩ k) { s with toks := tk' }) : wpAny (model PR w) A (PySem.call (.builtin "re.Match.group") [.ref mt, .str (Str.ofString "quoted") tq]) Q E s := by
  have X : (hd.heap_39 w.params).In s.heap := fun a o h => F.keep _ _ (X₀ a o h)
  have hm' := (N _ hm).1
  have hs' := (N _ hs).1
  obtain ⟨h, g, d, t, os⟩ := s
  refine wp_weaken (A' := A0) h1 h2 (fun l hl => by cases hl) rfl (by show A.units ≤ 8000; omega) ?_
  exact gS2_quoted_X X hn1 hc1 hd1 hm' hs' fun k t' => hQ k t'
theorem gS2_cells_K {w : World} {A : Around} {s : Shared} {h₀ : Heap} {L : Addr} {mm : Str → Option Value} {news : List (Addr × Obj)} {Q : Value → Shared → Prop} {E : Value → Shared → Prop} {mt sp : Addr} {n1 c1 d1 : Nat} {tk tq : Tok} {po lim : Nat} {li : Int}
   (F : Fr h₀ L s.heap mm) (X₀ : (hd.heap_39 w.params).In h₀) (N : News h₀ L s.heap news) (hm : (mt, matchObj (.str ⟨#[39, n1, 39, 33, c1, d1]⟩ tk) (.ref 48) po lim li sp) ∈ news) (hs : (sp, tupOf (pairs [0, 6, 0, 3, 0, 3, 1, 2, 1, 2, (-1), (-1), 4, 6, 4, 5, 5, 6, (-1), (-1), (-1), (-1), (-1), (-1)])) ∈ news)
   (hn1 : n1 < 128) (hc1 : c1 < 128) (hd1 : d1 < 128) (h1 : A.handled = none) (h2 : A.depth ≤ 900) (h5 : A.units + 1 ≤ 8000)
   (hQ : ∀ k tk', Q (.str ⟨#[c1, d1]⟩ k) { s with toks := tk' }) : wpAny (model PR w) A (PySem.call (.builtin "re.Match.group") [.ref mt, .str (Str.ofString "cells") tq]) Q E s := by
  have X : (hd.heap_39 w.params).In s.heap := fun a o h => F.keep _ _ (X₀ a o h)
  have hm' := (N _ hm).1
  have hs' := (N _ hs).1
  obtain ⟨h, g, d, t, os⟩ := s
  refine wp_weaken (A' := A0) h1 h2 (fun l hl => by cases hl) rfl (by show A.units ≤ 8000; omega) ?_
  exact gS2_cells_X X hn1 hc1 hd1 hm' hs' fun k t' => hQ k t'
theorem gT5_quoted_K {w : World} {A : Around} {s : Shared} {h₀ : Heap} {L : Addr} {mm : Str → Option Value} {news : List (Addr × Obj)} {Q : Value → Shared → Prop} {E : Value → Shared → Prop} {mt sp : Addr} {n1 n2 n3 c1 d1 c2 d2 : Nat} {tk tq : Tok} {po lim : Nat} {li : Int}
   (F : Fr h₀ L s.heap mm) (X₀ : (hd.heap_39 w.params).In h₀) (N : News h₀ L s.heap news) (hm : (mt, matchObj (.str ⟨#[39, n1, n2, n3, 39, 33, c1, d1, 58, c2, d2]⟩ tk) (.ref 48) po lim li sp) ∈ news) (hs : (sp, tupOf (pairs [0, 11, 0, 5, 0, 5, 1, 4, 3, 4, (-1), (-1), 6, 11, 6, 7, 7, 8, 8, 11, 9, 10, 10, 11])) ∈ news)
   (hn1 : n1 < 128) (hn2 : n2 < 128) (hn3 : n3 < 128) (hc1 : c1 < 128) (hd1 : d1 < 128) (hc2 : c2 < 128) (hd2 : d2 < 128) (h1 : A.handled = none) (h2 : A.depth ≤ 900) (h5 : A.units + 1 ≤ 8000)
   (hQ : ∀ k tk', Q (.str ⟨#[n1, n2, n3]⟩ k) { s with toks := tk' }) : wpAny (model PR w) A (PySem.call (.builtin "re.Match.group") [.ref mt, .str (Str.ofString "quoted") tq]) Q E s := by
  have X : (hd.heap_39 w.params).In s.heap := fun a o h => F.keep _ _ (X₀ a o h)
  have hm' := (N _ hm).1
  have hs' := (N _ hs).1
  obtain ⟨h, g, d, t, os⟩ := s
  refine wp_weaken (A' := A0) h1 h2 (fun l hl => by cases hl) rfl (by show A.units ≤ 8000; omega) ?_
  exact gT5_quoted_X X hn1 hn2 hn3 hc1 hd1 hc2 hd2 hm' hs' fun k t' => hQ k t'
theorem gT5_cells_K {w : World} {A : Around} {s : Shared} {h₀ : Heap} {L : Addr} {mm : Str → Option Value} {news : List (Addr × Obj)} {Q : Value → Shared → Prop} {E : Value → Shared → Prop} {mt sp : Addr} {n1 n2 n3 c1 d1 c2 d2 : Nat} {tk tq : Tok} {po lim : Nat} {li : Int}
   (F : Fr h₀ L s.heap mm) (X₀ : (hd.heap_39 w.params).In h₀) (N : News h₀ L s.heap news) (hm : (mt, matchObj (.str ⟨#[39, n1, n2, n3, 39, 33, c1, d1, 58, c2, d2]⟩ tk) (.ref 48) po lim li sp) ∈ news) (hs : (sp, tupOf (pairs [0, 11, 0, 5, 0, 5, 1, 4, 3, 4, (-1), (-1), 6, 11, 6, 7, 7, 8, 8, 11, 9, 10, 10, 11])) ∈ news)
   (hn1 : n1 < 128) (hn2 : n2 < 128) (hn3 : n3 < 128) (hc1 : c1 < 128) (hd1 : d1 < 128) (hc2 : c2 < 128) (hd2 : d2 < 128) (h1 : A.handled = none) (h2 : A.depth ≤ 900) (h5 : A.units + 1 ≤ 8000)
   (hQ : ∀ k tk', Q (.str ⟨#[c1, d1, 58, c2, d2]⟩ k) { s with toks := tk' }) : wpAny (model PR w) A (PySem.call (.builtin "re.Match.group") [.ref mt, .str (Str.ofString "cells") tq]) Q E s := by
  have X : (hd.heap_39 w.params).In s.heap := fun a o h => F.keep _ _ (X₀ a o h)
  have hm' := (N _ hm).1
  have hs' := (N _ hs).1
  obtain ⟨h, g, d, t, os⟩ := s
  refine wp_weaken (A' := A0) h1 h2 (fun l hl => by cases hl) rfl (by show A.units ≤ 8000; omega) ?_
  exact gT5_cells_X X hn1 hn2 hn3 hc1 hd1 hc2 hd2 hm' hs' fun k t' => hQ k t'
theorem gT2_quoted_K {w : World} {A : Around} {s : Shared} {h₀ : Heap} {L : Addr} {mm : Str → Option Value} {news : List (Addr × Obj)} {Q : Value → Shared → Prop} {E : Value → Shared → Prop} {mt sp : Addr} {n1 n2 n3 c1 d1 : Nat} {tk tq : Tok} {po lim : Nat} {li : Int}
   (F : Fr h₀ L s.heap mm) (X₀ : (hd.heap_39 w.params).In h₀) (N : News h₀ L s.heap news) (hm : (mt, matchObj (.str ⟨#[39, n1, n2, n3, 39, 33, c1, d1]⟩ tk) (.ref 48) po lim li sp) ∈ news) (hs : (sp, tupOf (pairs [0, 8, 0, 5, 0, 5, 1, 4, 3, 4, (-1), (-1), 6, 8, 6, 7, 7, 8, (-1), (-1), (-1), (-1), (-1), (-1)])) ∈ news)
   (hn1 : n1 < 128) (hn2 : n2 < 128) (hn3 : n3 < 128) (hc1 : c1 < 128) (hd1 : d1 < 128) (h1 : A.handled = none) (h2 : A.depth ≤ 900) (h5 : A.units + 1 ≤ 8000)
   (hQ : ∀ k tk', Q (.str ⟨#[n1, n2, n3]⟩ k) { s with toks := tk' }) : wpAny (model PR w) A (PySem.call (.builtin "re.Match.group") [.ref mt, .str (Str.ofString "quoted") tq]) Q E s := by
  have X : (hd.heap_39 w.params).In s.heap := fun a o h => F.keep _ _ (X₀ a o h)
  have hm' := (N _ hm).1
  have hs' := (N _ hs).1
  obtain ⟨h, g, d, t, os⟩ := s
  refine wp_weaken (A' := A0) h1 h2 (fun l hl => by cases hl) rfl (by show A.units ≤ 8000; omega) ?_
  exact gT2_quoted_X X hn1 hn2 hn3 hc1 hd1 hm' hs' fun k t' => hQ k t'
theorem gT2_cells_K {w : World} {A : Around} {s : Shared} {h₀ : Heap} {L : Addr} {mm : Str → Option Value} {news : List (Addr × Obj)} {Q : Value → Shared → Prop} {E : Value → Shared → Prop} {mt sp : Addr} {n1 n2 n3 c1 d1 : Nat} {tk tq : Tok} {po lim : Nat} {li : Int}
   (F : Fr h₀ L s.heap mm) (X₀ : (hd.heap_39 w.params).In h₀) (N : News h₀ L s.heap news) (hm : (mt, matchObj (.str ⟨#[39, n1, n2, n3, 39, 33, c1, d1]⟩ tk) (.ref 48) po lim li sp) ∈ news) (hs : (sp, tupOf (pairs [0, 8, 0, 5, 0, 5, 1, 4, 3, 4, (-1), (-1), 6, 8, 6, 7, 7, 8, (-1), (-1), (-1), (-1), (-1), (-1)])) ∈ news)
   (hn1 : n1 < 128) (hn2 : n2 < 128) (hn3 : n3 < 128) (hc1 : c1 < 128) (hd1 : d1 < 128) (h1 : A.handled = none) (h2 : A.depth ≤ 900) (h5 : A.units + 1 ≤ 8000)
   (hQ : ∀ k tk', Q (.str ⟨#[c1, d1]⟩ k) { s with toks := tk' }) : wpAny (model PR w) A (PySem.call (.builtin "re.Match.group") [.ref mt, .str (Str.ofString "cells") tq]) Q E s := by
  have X : (hd.heap_39 w.params).In s.heap := fun a o h => F.keep _ _ (X₀ a o h)
  have hm' := (N _ hm).1
  have hs' := (N _ hs).1
  obtain ⟨h, g, d, t, os⟩ := s
  refine wp_weaken (A' := A0) h1 h2 (fun l hl => by cases hl) rfl (by show A.units ≤ 8000; omega) ?_
  exact gT2_cells_X X hn1 hn2 hn3 hc1 hd1 hm' hs' fun k t' => hQ k t'
local macro_rules | `(tactic| walk_at "my_lt") => `(tactic| (rename (@LT.lt Nat _ _ _ ∧ _) => lz; (repeat (first | exact lz | replace lz := lz.2))))
local macro_rules | `(tactic| k_all) => `(tactic| assumption)
local macro_rules | `(tactic| k_mem) => `(tactic| assumption)
local macro_rules | `(tactic| walk_at "getMethod ref") => `(tactic| (k_here; first
  | ((with_reducible refine' pat_method_K ?k1 ?k2 ?_); (case k1 => k_asm); (case k2 => exact pat48 (by assumption)))
  | ((with_reducible refine' group_method_K ?k1 ?k2 ?_); (case k1 => k_asm); (case k2 => news_mem))))
local macro_rules | `(tactic| walk_at "truthy str") => `(tactic| (k_here; k_dflt (first | with_reducible refine' truthy3_K ?_ | with_reducible refine' truthy1_K ?_)))
local macro_rules | `(tactic| walk_at "call builtin:re.Pattern.match") => `(tactic| (k_here; k_dflt (first
  | ((with_reducible refine' shS5M_K ?k1 ?k2 ?k3 ?z0 ?z1 ?z2 ?z3 ?_); (case k1 => k_asm); (case k2 => assumption); (case k3 => k_asm); (case z0 => assumption); (case z1 => assumption); (case z2 => assumption); (case z3 => assumption); k_whole; intro sp' mt' h' F' N' l1 l2; (try k_lt l1))
  | ((with_reducible refine' shS2M_K ?k1 ?k2 ?k3 ?z0 ?z1 ?_); (case k1 => k_asm); (case k2 => assumption); (case k3 => k_asm); (case z0 => assumption); (case z1 => assumption); k_whole; intro sp' mt' h' F' N' l1 l2; (try k_lt l1))
  | ((with_reducible refine' sha5M_K ?k1 ?k2 ?k3 ?z0 ?z1 ?z2 ?z3 ?_); (case k1 => k_asm); (case k2 => assumption); (case k3 => k_asm); (case z0 => assumption); (case z1 => assumption); (case z2 => assumption); (case z3 => assumption); k_whole; intro sp' mt' h' F' N' l1 l2; (try k_lt l1))
  | ((with_reducible refine' sha2M_K ?k1 ?k2 ?k3 ?z0 ?z1 ?_); (case k1 => k_asm); (case k2 => assumption); (case k3 => k_asm); (case z0 => assumption); (case z1 => assumption); k_whole; intro sp' mt' h' F' N' l1 l2; (try k_lt l1))
  | ((with_reducible refine' shT5M_K ?k1 ?k2 ?k3 ?z0 ?z1 ?z2 ?z3 ?_); (case k1 => k_asm); (case k2 => assumption); (case k3 => k_asm); (case z0 => assumption); (case z1 => assumption); (case z2 => assumption); (case z3 => assumption); k_whole; intro sp' mt' h' F' N' l1 l2; (try k_lt l1))
  | ((with_reducible refine' shT2M_K ?k1 ?k2 ?k3 ?z0 ?z1 ?_); (case k1 => k_asm); (case k2 => assumption); (case k3 => k_asm); (case z0 => assumption); (case z1 => assumption); k_whole; intro sp' mt' h' F' N' l1 l2; (try k_lt l1)))))
local macro_rules | `(tactic| walk_at "call builtin:re.Match.group") => `(tactic| (k_here; k_dflt (first
  | ((with_reducible show wpAny _ _ (PySem.call _ [_, Value.str (Str.ofString "quoted") _]) _ _ _); refine' gS5_quoted_K ?k1 ?k2 ?k3 ?m1 ?m2 ?y0 ?y1 ?y2 ?y3 ?y4 ?q1 ?q2 ?q3 ?_; (case k1 => k_asm); (case k3 => k_asm); (case m1 => news_mem); (case m2 => news_mem); (case k2 => assumption); (case y0 => first | assumption | decide); (case y1 => first | assumption | decide); (case y2 => first | assumption | decide); (case y3 => first | assumption | decide); (case y4 => first | assumption | decide); (case q1 => rfl); (case q2 => exact Nat.le_of_ble_eq_true rfl); (case q3 => exact Nat.le_of_ble_eq_true rfl); k_whole; intro k' t')
  | ((with_reducible show wpAny _ _ (PySem.call _ [_, Value.str (Str.ofString "cells") _]) _ _ _); refine' gS5_cells_K ?k1 ?k2 ?k3 ?m1 ?m2 ?y0 ?y1 ?y2 ?y3 ?y4 ?q1 ?q2 ?q3 ?_; (case k1 => k_asm); (case k3 => k_asm); (case m1 => news_mem); (case m2 => news_mem); (case k2 => assumption); (case y0 => first | assumption | decide); (case y1 => first | assumption | decide); (case y2 => first | assumption | decide); (case y3 => first | assumption | decide); (case y4 => first | assumption | decide); (case q1 => rfl); (case q2 => exact Nat.le_of_ble_eq_true rfl); (case q3 => exact Nat.le_of_ble_eq_true rfl); k_whole; intro k' t')
  | ((with_reducible show wpAny _ _ (PySem.call _ [_, Value.str (Str.ofString "quoted") _]) _ _ _); refine' gS2_quoted_K ?k1 ?k2 ?k3 ?m1 ?m2 ?y0 ?y1 ?y2 ?q1 ?q2 ?q3 ?_; (case k1 => k_asm); (case k3 => k_asm); (case m1 => news_mem); (case m2 => news_mem); (case k2 => assumption); (case y0 => first | assumption | decide); (case y1 => first | assumption | decide); (case y2 => first | assumption | decide); (case q1 => rfl); (case q2 => exact Nat.le_of_ble_eq_true rfl); (case q3 => exact Nat.le_of_ble_eq_true rfl); k_whole; intro k' t')
  | ((with_reducible show wpAny _ _ (PySem.call _ [_, Value.str (Str.ofString "cells") _]) _ _ _); refine' gS2_cells_K ?k1 ?k2 ?k3 ?m1 ?m2 ?y0 ?y1 ?y2 ?q1 ?q2 ?q3 ?_; (case k1 => k_asm); (case k3 => k_asm); (case m1 => news_mem); (case m2 => news_mem); (case k2 => assumption); (case y0 => first | assumption | decide); (case y1 => first | assumption | decide); (case y2 => first | assumption | decide); (case q1 => rfl); (case q2 => exact Nat.le_of_ble_eq_true rfl); (case q3 => exact Nat.le_of_ble_eq_true rfl); k_whole; intro k' t')
  | ((with_reducible show wpAny _ _ (PySem.call _ [_, Value.str (Str.ofString "quoted") _]) _ _ _); refine' gT5_quoted_K ?k1 ?k2 ?k3 ?m1 ?m2 ?y0 ?y1 ?y2 ?y3 ?y4 ?y5 ?y6 ?q1 ?q2 ?q3 ?_; (case k1 => k_asm); (case k3 => k_asm); (case m1 => news_mem); (case m2 => news_mem); (case k2 => assumption); (case y0 => first | assumption | decide); (case y1 => first | assumption | decide); (case y2 => first | assumption | decide); (case y3 => first | assumption | decide); (case y4 => first | assumption | decide); (case y5 => first | assumption | decide); (case y6 => first | assumption | decide); (case q1 => rfl); (case q2 => exact Nat.le_of_ble_eq_true rfl); (case q3 => exact Nat.le_of_ble_eq_true rfl); k_whole; intro k' t')
  | ((with_reducible show wpAny _ _ (PySem.call _ [_, Value.str (Str.ofString "cells") _]) _ _ _); refine' gT5_cells_K ?k1 ?k2 ?k3 ?m1 ?m2 ?y0 ?y1 ?y2 ?y3 ?y4 ?y5 ?y6 ?q1 ?q2 ?q3 ?_; (case k1 => k_asm); (case k3 => k_asm); (case m1 => news_mem); (case m2 => news_mem); (case k2 => assumption); (case y0 => first | assumption | decide); (case y1 => first | assumption | decide); (case y2 => first | assumption | decide); (case y3 => first | assumption | decide); (case y4 => first | assumption | decide); (case y5 => first | assumption | decide); (case y6 => first | assumption | decide); (case q1 => rfl); (case q2 => exact Nat.le_of_ble_eq_true rfl); (case q3 => exact Nat.le_of_ble_eq_true rfl); k_whole; intro k' t')
  | ((with_reducible show wpAny _ _ (PySem.call _ [_, Value.str (Str.ofString "quoted") _]) _ _ _); refine' gT2_quoted_K ?k1 ?k2 ?k3 ?m1 ?m2 ?y0 ?y1 ?y2 ?y3 ?y4 ?q1 ?q2 ?q3 ?_; (case k1 => k_asm); (case k3 => k_asm); (case m1 => news_mem); (case m2 => news_mem); (case k2 => assumption); (case y0 => first | assumption | decide); (case y1 => first | assumption | decide); (case y2 => first | assumption | decide); (case y3 => first | assumption | decide); (case y4 => first | assumption | decide); (case q1 => rfl); (case q2 => exact Nat.le_of_ble_eq_true rfl); (case q3 => exact Nat.le_of_ble_eq_true rfl); k_whole; intro k' t')
  | ((with_reducible show wpAny _ _ (PySem.call _ [_, Value.str (Str.ofString "cells") _]) _ _ _); refine' gT2_cells_K ?k1 ?k2 ?k3 ?m1 ?m2 ?y0 ?y1 ?y2 ?y3 ?y4 ?q1 ?q2 ?q3 ?_; (case k1 => k_asm); (case k3 => k_asm); (case m1 => news_mem); (case m2 => news_mem); (case k2 => assumption); (case y0 => first | assumption | decide); (case y1 => first | assumption | decide); (case y2 => first | assumption | decide); (case y3 => first | assumption | decide); (case y4 => first | assumption | decide); (case q1 => rfl); (case q2 => exact Nat.le_of_ble_eq_true rfl); (case q3 => exact Nat.le_of_ble_eq_true rfl); k_whole; intro k' t'))))
local macro_rules | `(tactic| walk_at "call ref") => `(tactic| (k_here; (with_reducible show wpAny _ _ (PySem.call (Value.ref 73) _) _ _ _); k_dflt (first
  | ((with_reducible refine' rb5_C ?q1 ?q2 ?q3 ?B ?F ?X ?T ?z0 ?z1 ?z2 ?z3 ?N ?_); (case B => k_asm); (case F => k_asm); (case X => assumption); (case T => assumption); (case z0 => assumption); (case z1 => assumption); (case z2 => assumption); (case z3 => assumption); (case N => k_asm); (case q1 => rfl); (case q2 => exact Nat.le_of_ble_eq_true rfl); (case q3 => exact Nat.le_of_ble_eq_true rfl); k_whole; intro t' k0 k1 k2 k3 h' tk' F' N' l1)
  | ((with_reducible refine' rb2_C ?q1 ?q2 ?q3 ?B ?F ?X ?T ?z0 ?z1 ?N ?_); (case B => k_asm); (case F => k_asm); (case X => assumption); (case T => assumption); (case z0 => assumption); (case z1 => assumption); (case N => k_asm); (case q1 => rfl); (case q2 => exact Nat.le_of_ble_eq_true rfl); (case q3 => exact Nat.le_of_ble_eq_true rfl); k_whole; intro t' k0 k1 k2 k3 h' tk' F' N' l1))))
set_option maxRecDepth 100000 in
set_option maxHeartbeats 2000000 in
theorem rtS5_K {w : World} {outer : List Env} {base h₀ : Heap} {L a : Addr} {cn : Str} {nms : List (Str × NameKind)} {ig ic : Bool} {mo} {ccd : Value} {m mg mb : Str → Option Value} {news : List (Addr × Obj)} {s : Shared} {p : Program} {loose : List Str} {mean : ExcName → Option Value} {Q : Value → Shared → Prop} {E : Value → Shared → Prop}
  (B : Below (AK 680 2800 outer) base outer h₀) (F : Fr h₀ L s.heap m) (X₀ : (hd.heap_39 w.params).In h₀) (T : Top p loose mean mg mb h₀)
  {c1 d1 c2 d2 : Nat} {tk : Tok} (hc1 : c1 ∈ L5) (hd1 : d1 ∈ D5) (hc2 : c2 ∈ L5) (hd2 : d2 ∈ D5) (gc1 : c1 ∈ L7) (gd1 : d1 ∈ D7) (gc2 : c2 ∈ L7) (gd2 : d2 ∈ D7) (lc1 : c1 < 128) (ld1 : d1 < 128) (lc2 : c2 < 128) (ld2 : d2 < 128) (N : News h₀ L s.heap news)
  (hQ : ∀ t b k k0 k1 k2 k3 h' tk', Fr h₀ L h' m → News h₀ L h' ((t, seqO #[.str ⟨#[83]⟩ k, .ref b]) :: (b, tup4 ((c1 : Int) - 64) ((d1 : Int) - 48) ((c2 : Int) - 64) ((d2 : Int) - 48) k0 k1 k2 k3) :: news) → AllLt b news → b < t → AllLt t news → Q (.ref t) { s with heap := h', toks := tk' }) :
  wpAny (model PR w) ((AK 680 2800 outer).deeper (envOf cn ⟨.function, nms, ig, ic, mo⟩ L a ccd)) (PySem.call (.ref 80) [.str ⟨#[39, 83, 39, 33, c1, d1, 58, c2, d2]⟩ tk]) Q E s := by
  have F' := F
  refine wpAny_call ?_
  w_strict k_enter
  w_strict k_steps
  all_goals (refine' hQ _ _ _ _ _ _ _ _ _ ?F (news_two_sub ?N ?S) ?l1 ?l2 ?l3; (case N => assumption); (case F => assumption); (case S => (intro p hp; (repeat (first | exact hp | refine List.Mem.tail _ ?_)))); (case l1 => (rename AllLt _ _ => lz; first | exact lz | exact lz.2 | exact lz.2.2 | exact lz.2.2.2)); (case l2 => (rename (@LT.lt Nat _ _ _ ∧ _) => lz; exact lz.1)); (case l3 => walk_at "my_lt"))
set_option maxRecDepth 100000 in
set_option maxHeartbeats 2000000 in
theorem rtS2_K {w : World} {outer : List Env} {base h₀ : Heap} {L a : Addr} {cn : Str} {nms : List (Str × NameKind)} {ig ic : Bool} {mo} {ccd : Value} {m mg mb : Str → Option Value} {news : List (Addr × Obj)} {s : Shared} {p : Program} {loose : List Str} {mean : ExcName → Option Value} {Q : Value → Shared → Prop} {E : Value → Shared → Prop}
  (B : Below (AK 680 2800 outer) base outer h₀) (F : Fr h₀ L s.heap m) (X₀ : (hd.heap_39 w.params).In h₀) (T : Top p loose mean mg mb h₀)
  {c1 d1 : Nat} {tk : Tok} (hc1 : c1 ∈ L5) (hd1 : d1 ∈ D5) (gc1 : c1 ∈ L7) (gd1 : d1 ∈ D7) (lc1 : c1 < 128) (ld1 : d1 < 128) (N : News h₀ L s.heap news)
  (hQ : ∀ t b k k0 k1 k2 k3 h' tk', Fr h₀ L h' m → News h₀ L h' ((t, seqO #[.str ⟨#[83]⟩ k, .ref b]) :: (b, tup4 ((c1 : Int) - 64) ((d1 : Int) - 48) ((c1 : Int) - 64) ((d1 : Int) - 48) k0 k1 k2 k3) :: news) → AllLt b news → b < t → AllLt t news → Q (.ref t) { s with heap := h', toks := tk' }) :
  wpAny (model PR w) ((AK 680 2800 outer).deeper (envOf cn ⟨.function, nms, ig, ic, mo⟩ L a ccd)) (PySem.call (.ref 80) [.str ⟨#[39, 83, 39, 33, c1, d1]⟩ tk]) Q E s := by
  have F' := F
  refine wpAny_call ?_
  w_strict k_enter
  w_strict k_steps
  all_goals (refine' hQ _ _ _ _ _ _ _ _ _ ?F (news_two_sub ?N ?S) ?l1 ?l2 ?l3; (case N => assumption); (case F => assumption); (case S => (intro p hp; (repeat (first | exact hp | refine List.Mem.tail _ ?_)))); (case l1 => (rename AllLt _ _ => lz; first | exact lz | exact lz.2 | exact lz.2.2 | exact lz.2.2.2)); (case l2 => (rename (@LT.lt Nat _ _ _ ∧ _) => lz; exact lz.1)); (case l3 => walk_at "my_lt"))
set_option maxRecDepth 100000 in
set_option maxHeartbeats 2000000 in
theorem rta5_K {w : World} {outer : List Env} {base h₀ : Heap} {L a : Addr} {cn : Str} {nms : List (Str × NameKind)} {ig ic : Bool} {mo} {ccd : Value} {m mg mb : Str → Option Value} {news : List (Addr × Obj)} {s : Shared} {p : Program} {loose : List Str} {mean : ExcName → Option Value} {Q : Value → Shared → Prop} {E : Value → Shared → Prop}
  (B : Below (AK 680 2800 outer) base outer h₀) (F : Fr h₀ L s.heap m) (X₀ : (hd.heap_39 w.params).In h₀) (T : Top p loose mean mg mb h₀)
  {c1 d1 c2 d2 : Nat} {tk : Tok} (hc1 : c1 ∈ L5) (hd1 : d1 ∈ D5) (hc2 : c2 ∈ L5) (hd2 : d2 ∈ D5) (gc1 : c1 ∈ L7) (gd1 : d1 ∈ D7) (gc2 : c2 ∈ L7) (gd2 : d2 ∈ D7) (lc1 : c1 < 128) (ld1 : d1 < 128) (lc2 : c2 < 128) (ld2 : d2 < 128) (N : News h₀ L s.heap news)
  (hQ : ∀ t b k k0 k1 k2 k3 h' tk', Fr h₀ L h' m → News h₀ L h' ((t, seqO #[.str ⟨#[97, 32, 98]⟩ k, .ref b]) :: (b, tup4 ((c1 : Int) - 64) ((d1 : Int) - 48) ((c2 : Int) - 64) ((d2 : Int) - 48) k0 k1 k2 k3) :: news) → AllLt b news → b < t → AllLt t news → Q (.ref t) { s with heap := h', toks := tk' }) :
  wpAny (model PR w) ((AK 680 2800 outer).deeper (envOf cn ⟨.function, nms, ig, ic, mo⟩ L a ccd)) (PySem.call (.ref 80) [.str ⟨#[39, 97, 32, 98, 39, 33, c1, d1, 58, c2, d2]⟩ tk]) Q E s := by
  have F' := F
  refine wpAny_call ?_
  w_strict k_enter
  w_strict k_steps
  all_goals (refine' hQ _ _ _ _ _ _ _ _ _ ?F (news_two_sub ?N ?S) ?l1 ?l2 ?l3; (case N => assumption); (case F => assumption); (case S => (intro p hp; (repeat (first | exact hp | refine List.Mem.tail _ ?_)))); (case l1 => (rename AllLt _ _ => lz; first | exact lz | exact lz.2 | exact lz.2.2 | exact lz.2.2.2)); (case l2 => (rename (@LT.lt Nat _ _ _ ∧ _) => lz; exact lz.1)); (case l3 => walk_at "my_lt"))
set_option maxRecDepth 100000 in
set_option maxHeartbeats 2000000 in
theorem rta2_K {w : World} {outer : List Env} {base h₀ : Heap} {L a : Addr} {cn : Str} {nms : List (Str × NameKind)} {ig ic : Bool} {mo} {ccd : Value} {m mg mb : Str → Option Value} {news : List (Addr × Obj)} {s : Shared} {p : Program} {loose : List Str} {mean : ExcName → Option Value} {Q : Value → Shared → Prop} {E : Value → Shared → Prop}
  (B : Below (AK 680 2800 outer) base outer h₀) (F : Fr h₀ L s.heap m) (X₀ : (hd.heap_39 w.params).In h₀) (T : Top p loose mean mg mb h₀)
  {c1 d1 : Nat} {tk : Tok} (hc1 : c1 ∈ L5) (hd1 : d1 ∈ D5) (gc1 : c1 ∈ L7) (gd1 : d1 ∈ D7) (lc1 : c1 < 128) (ld1 : d1 < 128) (N : News h₀ L s.heap news)
  (hQ : ∀ t b k k0 k1 k2 k3 h' tk', Fr h₀ L h' m → News h₀ L h' ((t, seqO #[.str ⟨#[97, 32, 98]⟩ k, .ref b]) :: (b, tup4 ((c1 : Int) - 64) ((d1 : Int) - 48) ((c1 : Int) - 64) ((d1 : Int) - 48) k0 k1 k2 k3) :: news) → AllLt b news → b < t → AllLt t news → Q (.ref t) { s with heap := h', toks := tk' }) :
  wpAny (model PR w) ((AK 680 2800 outer).deeper (envOf cn ⟨.function, nms, ig, ic, mo⟩ L a ccd)) (PySem.call (.ref 80) [.str ⟨#[39, 97, 32, 98, 39, 33, c1, d1]⟩ tk]) Q E s := by
  have F' := F
  refine wpAny_call ?_
  w_strict k_enter
  w_strict k_steps
  all_goals (refine' hQ _ _ _ _ _ _ _ _ _ ?F (news_two_sub ?N ?S) ?l1 ?l2 ?l3; (case N => assumption); (case F => assumption); (case S => (intro p hp; (repeat (first | exact hp | refine List.Mem.tail _ ?_)))); (case l1 => (rename AllLt _ _ => lz; first | exact lz | exact lz.2 | exact lz.2.2 | exact lz.2.2.2)); (case l2 => (rename (@LT.lt Nat _ _ _ ∧ _) => lz; exact lz.1)); (case l3 => walk_at "my_lt"))
set_option maxRecDepth 100000 in
set_option maxHeartbeats 2000000 in
theorem rtT5_K {w : World} {outer : List Env} {base h₀ : Heap} {L a : Addr} {cn : Str} {nms : List (Str × NameKind)} {ig ic : Bool} {mo} {ccd : Value} {m mg mb : Str → Option Value} {news : List (Addr × Obj)} {s : Shared} {p : Program} {loose : List Str} {mean : ExcName → Option Value} {Q : Value → Shared → Prop} {E : Value → Shared → Prop}
  (B : Below (AK 680 2800 outer) base outer h₀) (F : Fr h₀ L s.heap m) (X₀ : (hd.heap_39 w.params).In h₀) (T : Top p loose mean mg mb h₀)
  {c1 d1 c2 d2 : Nat} {tk : Tok} (hc1 : c1 ∈ L5) (hd1 : d1 ∈ D5) (hc2 : c2 ∈ L5) (hd2 : d2 ∈ D5) (gc1 : c1 ∈ L7) (gd1 : d1 ∈ D7) (gc2 : c2 ∈ L7) (gd2 : d2 ∈ D7) (lc1 : c1 < 128) (ld1 : d1 < 128) (lc2 : c2 < 128) (ld2 : d2 < 128) (N : News h₀ L s.heap news)
  (hQ : ∀ t b k k0 k1 k2 k3 h' tk', Fr h₀ L h' m → News h₀ L h' ((t, seqO #[.str ⟨#[84, 33, 120]⟩ k, .ref b]) :: (b, tup4 ((c1 : Int) - 64) ((d1 : Int) - 48) ((c2 : Int) - 64) ((d2 : Int) - 48) k0 k1 k2 k3) :: news) → AllLt b news → b < t → AllLt t news → Q (.ref t) { s with heap := h', toks := tk' }) :
  wpAny (model PR w) ((AK 680 2800 outer).deeper (envOf cn ⟨.function, nms, ig, ic, mo⟩ L a ccd)) (PySem.call (.ref 80) [.str ⟨#[39, 84, 33, 120, 39, 33, c1, d1, 58, c2, d2]⟩ tk]) Q E s := by
  have F' := F
  refine wpAny_call ?_
  w_strict k_enter
  w_strict k_steps
  all_goals (refine' hQ _ _ _ _ _ _ _ _ _ ?F (news_two_sub ?N ?S) ?l1 ?l2 ?l3; (case N => assumption); (case F => assumption); (case S => (intro p hp; (repeat (first | exact hp | refine List.Mem.tail _ ?_)))); (case l1 => (rename AllLt _ _ => lz; first | exact lz | exact lz.2 | exact lz.2.2 | exact lz.2.2.2)); (case l2 => (rename (@LT.lt Nat _ _ _ ∧ _) => lz; exact lz.1)); (case l3 => walk_at "my_lt"))
set_option maxRecDepth 100000 in
set_option maxHeartbeats 2000000 in
theorem rtT2_K {w : World} {outer : List Env} {base h₀ : Heap} {L a : Addr} {cn : Str} {nms : List (Str × NameKind)} {ig ic : Bool} {mo} {ccd : Value} {m mg mb : Str → Option Value} {news : List (Addr × Obj)} {s : Shared} {p : Program} {loose : List Str} {mean : ExcName → Option Value} {Q : Value → Shared → Prop} {E : Value → Shared → Prop}
  (B : Below (AK 680 2800 outer) base outer h₀) (F : Fr h₀ L s.heap m) (X₀ : (hd.heap_39 w.params).In h₀) (T : Top p loose mean mg mb h₀)
  {c1 d1 : Nat} {tk : Tok} (hc1 : c1 ∈ L5) (hd1 : d1 ∈ D5) (gc1 : c1 ∈ L7) (gd1 : d1 ∈ D7) (lc1 : c1 < 128) (ld1 : d1 < 128) (N : News h₀ L s.heap news)
  (hQ : ∀ t b k k0 k1 k2 k3 h' tk', Fr h₀ L h' m → News h₀ L h' ((t, seqO #[.str ⟨#[84, 33, 120]⟩ k, .ref b]) :: (b, tup4 ((c1 : Int) - 64) ((d1 : Int) - 48) ((c1 : Int) - 64) ((d1 : Int) - 48) k0 k1 k2 k3) :: news) → AllLt b news → b < t → AllLt t news → Q (.ref t) { s with heap := h', toks := tk' }) :
  wpAny (model PR w) ((AK 680 2800 outer).deeper (envOf cn ⟨.function, nms, ig, ic, mo⟩ L a ccd)) (PySem.call (.ref 80) [.str ⟨#[39, 84, 33, 120, 39, 33, c1, d1]⟩ tk]) Q E s := by
  have F' := F
  refine wpAny_call ?_
  w_strict k_enter
  w_strict k_steps
  all_goals (refine' hQ _ _ _ _ _ _ _ _ _ ?F (news_two_sub ?N ?S) ?l1 ?l2 ?l3; (case N => assumption); (case F => assumption); (case S => (intro p hp; (repeat (first | exact hp | refine List.Mem.tail _ ?_)))); (case l1 => (rename AllLt _ _ => lz; first | exact lz | exact lz.2 | exact lz.2.2 | exact lz.2.2.2)); (case l2 => (rename (@LT.lt Nat _ _ _ ∧ _) => lz; exact lz.1)); (case l3 => walk_at "my_lt"))
end Mine

end
section
open PySem PySem.W PySem.W.X PyProof.Rows
namespace Mine
local macro_rules | `(tactic| walk_at "pad") => `(tactic| fail "pad")
def lc (c : Int) : Nat := (c + 64).toNat
def dg (r : Int) : Nat := (r + 48).toNat
theorem lc5 {c : Int} (h : 1 ≤ c ∧ c ≤ 5) : lc c ∈ L5 := by
  simp only [L5, List.mem_cons, List.not_mem_nil, or_false, lc]; omega
theorem dg5 {c : Int} (h : 1 ≤ c ∧ c ≤ 5) : dg c ∈ D5 := by
  simp only [D5, List.mem_cons, List.not_mem_nil, or_false, dg]; omega
theorem lc7 {c : Int} (h : 1 ≤ c ∧ c ≤ 5) : lc c ∈ L7 := L57 (lc5 h)
theorem dg7 {c : Int} (h : 1 ≤ c ∧ c ≤ 5) : dg c ∈ D7 := D57 (dg5 h)
theorem lcI {c : Int} (h : 1 ≤ c ∧ c ≤ 5) : ((lc c : Nat) : Int) - 64 = c := by unfold lc; omega
theorem dgI {c : Int} (h : 1 ≤ c ∧ c ≤ 5) : ((dg c : Nat) : Int) - 48 = c := by unfold dg; omega
theorem lc128 {c : Int} (h : 1 ≤ c ∧ c ≤ 5) : lc c < 128 := by unfold lc; omega
theorem dg128 {c : Int} (h : 1 ≤ c ∧ c ≤ 5) : dg c < 128 := by unfold dg; omega
theorem lc33 {c : Int} (h : 1 ≤ c ∧ c ≤ 5) : 33 ≠ lc c := by unfold lc; omega
theorem dg33 {c : Int} (h : 1 ≤ c ∧ c ≤ 5) : 33 ≠ dg c := by unfold dg; omega
def tnm (v : Int) : List Nat := if v = 1 then [83] else if v = 2 then [97, 32, 98] else [84, 33, 120]
def tval (v : Int) (k : Tok) : Value := if v = 0 then .none else .str ⟨(tnm v).toArray⟩ k
theorem tval0 (k : Tok) : tval 0 k = .none := rfl
theorem tval1 (k : Tok) : tval 1 k = .str ⟨#[83]⟩ k := rfl
theorem tval2 (k : Tok) : tval 2 k = .str ⟨#[97, 32, 98]⟩ k := rfl
theorem tval3 (k : Tok) : tval 3 k = .str ⟨#[84, 33, 120]⟩ k := rfl
theorem tval_handed (v : Int) (k : Tok) : handedIn (tval v k) = true := by
  unfold tval; split <;> rfl
theorem t4 {v : Int} (h : 0 ≤ v ∧ v ≤ 3) : v = 0 ∨ v = 1 ∨ v = 2 ∨ v = 3 := by omega
section
variable {w : World} {A : Around} {E : Value → Shared → Prop} {s : Shared} {v v1 v2 : Int} {k k1 k2 : Tok}
theorem bang : (Str.ofString "!") = ⟨#[33]⟩ := by kernel_rfl
theorem in_bang {x : Str} {t u : Tok} {Q : Value → Shared → Prop} (h : Q (.bool (decide (33 ∈ x.cps.toList))) s) : wpAny (model PR w) A (compareOp .In (.str (Str.ofString "!") u) (.str x t)) Q E s := by
  rw [bang]
  have : (!(Builtin.Str.occurrences x ⟨#[33]⟩ 0 x.length 1).isEmpty) = decide (33 ∈ x.cps.toList) := by
    rw [Bool.eq_iff_iff, StrLaws.found_iff, decide_eq_true_eq]
    constructor
    · rintro ⟨i, h1⟩; exact List.mem_of_getElem? ((StrLaws.subAt_one x 33 i).mp h1)
    · intro h1; obtain ⟨i, h2⟩ := List.getElem?_of_mem h1; exact ⟨i, (StrLaws.subAt_one x 33 i).mpr h2⟩
  exact P.in_str (by rw [this]; exact h)
theorem truthy_tval {Q : Bool → Shared → Prop} (h : 0 ≤ v ∧ v ≤ 3) (hq : ∀ k, Q (decide (v ≠ 0)) { s with toks := k }) : wpAny (model PR w) A (truthy (tval v k)) Q E s := by
  rcases t4 h with rfl | rfl | rfl | rfl
  · rw [tval0]; exact wpAny_pure (hq s.toks)
  · rw [tval1]; exact truthy1_K (hq _)
  · rw [tval2]; exact truthy3_K (hq _)
  · rw [tval3]; exact truthy3_K (hq _)
theorem isNone_tval {Q : Value → Shared → Prop} (h : 0 ≤ v ∧ v ≤ 3) (hq : Q (.bool (decide (v = 0))) s) : wpAny (model PR w) A (compareOp .Is (tval v k) .none) Q E s := by
  refine is_none_gen ?_
  rcases t4 h with rfl | rfl | rfl | rfl <;> exact hq
theorem tvalS {v : Int} (h : v ≠ 0) (k : Tok) : tval v k = .str ⟨(tnm v).toArray⟩ k := if_neg h
theorem tnm_eq {v1 v2 : Int} (h1 : 0 ≤ v1 ∧ v1 ≤ 3) (h2 : 0 ≤ v2 ∧ v2 ≤ 3) (n1 : v1 ≠ 0) (n2 : v2 ≠ 0) : ((⟨(tnm v1).toArray⟩ : Str) == ⟨(tnm v2).toArray⟩) = decide (v1 = v2) := by
  rcases t4 h1 with rfl | rfl | rfl | rfl <;> rcases t4 h2 with rfl | rfl | rfl | rfl <;> first | exact absurd rfl n1 | exact absurd rfl n2 | kernel_rfl
theorem ne_tval {Q : Value → Shared → Prop} (h1 : 0 ≤ v1 ∧ v1 ≤ 3) (h2 : 0 ≤ v2 ∧ v2 ≤ 3) (hq : Q (.bool (!decide (v1 = v2))) s) : wpAny (model PR w) A (compareOp .NotEq (tval v1 k1) (tval v2 k2)) Q E s := by
  show wpAny _ _ (richCompare .NotEq _ _) Q E s
  by_cases n1 : v1 = 0
  · subst n1
    by_cases n2 : v2 = 0
    · subst n2; exact SeqAt.RcNeAt.none_none _ _ _ _ hq
    · rw [tvalS n2, tval0]; refine SeqAt.RcNeAt.none_str _ _ _ _ _ _ ?_
      rw [decide_eq_false (fun e => n2 e.symm)] at hq; exact hq
  · by_cases n2 : v2 = 0
    · subst n2; rw [tvalS n1, tval0]; refine SeqAt.RcNeAt.str_none _ _ _ _ _ _ ?_
      rw [decide_eq_false n1] at hq; exact hq
    · rw [tvalS n1, tvalS n2]; refine SeqAt.RcNeAt.str_str _ _ _ _ _ _ _ _ ?_
      rw [tnm_eq h1 h2 n1 n2]; exact hq
theorem eq_tval {Q : Value → Shared → Prop} (h1 : 0 ≤ v1 ∧ v1 ≤ 3) (h2 : 0 ≤ v2 ∧ v2 ≤ 3) (hq : Q (.bool (decide (v1 = v2))) s) : wpAny (model PR w) A (compareOp .Eq (tval v1 k1) (tval v2 k2)) Q E s := by
  show wpAny _ _ (richCompare .Eq _ _) Q E s
  by_cases n1 : v1 = 0
  · subst n1
    by_cases n2 : v2 = 0
    · subst n2; exact SeqAt.RcAt.none_none _ _ _ _ hq
    · rw [tvalS n2, tval0]; refine SeqAt.RcAt.none_str _ _ _ _ _ _ ?_
      rw [decide_eq_false (fun e => n2 e.symm)] at hq; exact hq
  · by_cases n2 : v2 = 0
    · subst n2; rw [tvalS n1, tval0]; refine SeqAt.RcAt.str_none _ _ _ _ _ _ ?_
      rw [decide_eq_false n1] at hq; exact hq
    · rw [tvalS n1, tvalS n2]; refine SeqAt.RcAt.str_str _ _ _ _ _ _ _ _ ?_
      rw [tnm_eq h1 h2 n1 n2]; exact hq
end
end Mine

end
section
open PySem PySem.W PySem.W.X PyProof.Rows
namespace Mine
theorem rb5_I {A : Around} {w : World} {outer : List Env} {base h₀ : Heap} {L a : Addr} {cn : Str} {nms : List (Str × NameKind)} {ig ic : Bool} {mo} {ccd : Value} {m mg mb : Str → Option Value} {news : List (Addr × Obj)} {s : Shared} {p : Program} {loose : List Str} {mean : ExcName → Option Value} {Q : Value → Shared → Prop} {E : Value → Shared → Prop} {c1 r1 c2 r2 : Int} {tk : Tok}
  (h1 : A.handled = none) (h2 : A.depth ≤ 690) (h5 : A.units ≤ 2900) (B : Below A base outer h₀) (F : Fr h₀ L s.heap m) (X₀ : (hd.heap_39 w.params).In h₀) (T : Top p loose mean mg mb h₀) (h1c : 1 ≤ c1 ∧ c1 ≤ 5) (h1r : 1 ≤ r1 ∧ r1 ≤ 5) (h2c : 1 ≤ c2 ∧ c2 ≤ 5) (h2r : 1 ≤ r2 ∧ r2 ≤ 5) (N : News h₀ L s.heap news)
  (hQ : ∀ t k0 k1 k2 k3 h' tk', Fr h₀ L h' m → News h₀ L h' ((t, tup4 c1 r1 c2 r2 k0 k1 k2 k3) :: news) → AllLt t news → Q (.ref t) { s with heap := h', toks := tk' }) :
  wpAny (model PR w) (A.deeper (envOf cn ⟨.function, nms, ig, ic, mo⟩ L a ccd)) (PySem.call (.ref 73) [.str ⟨#[lc c1, dg r1, 58, lc c2, dg r2]⟩ tk]) Q E s :=
  to_AK h1 h2 h5 B fun B' => rb5_C rfl (Nat.le_refl _) (Nat.le_refl _) B' F X₀ T (lc7 h1c) (dg7 h1r) (lc7 h2c) (dg7 h2r) N fun t k0 k1 k2 k3 h' tk' F' N' l => hQ t k0 k1 k2 k3 h' tk' F' (by rw [lcI h1c, dgI h1r, lcI h2c, dgI h2r] at N'; exact N') l
theorem rtS5_I {A : Around} {w : World} {outer : List Env} {base h₀ : Heap} {L a : Addr} {cn : Str} {nms : List (Str × NameKind)} {ig ic : Bool} {mo} {ccd : Value} {m mg mb : Str → Option Value} {news : List (Addr × Obj)} {s : Shared} {p : Program} {loose : List Str} {mean : ExcName → Option Value} {Q : Value → Shared → Prop} {E : Value → Shared → Prop} {c1 r1 c2 r2 : Int} {tk : Tok}
  (h1 : A.handled = none) (h2 : A.depth ≤ 680) (h5 : A.units ≤ 2800) (B : Below A base outer h₀) (F : Fr h₀ L s.heap m) (X₀ : (hd.heap_39 w.params).In h₀) (T : Top p loose mean mg mb h₀) (h1c : 1 ≤ c1 ∧ c1 ≤ 5) (h1r : 1 ≤ r1 ∧ r1 ≤ 5) (h2c : 1 ≤ c2 ∧ c2 ≤ 5) (h2r : 1 ≤ r2 ∧ r2 ≤ 5) (N : News h₀ L s.heap news)
  (hQ : ∀ t b k k0 k1 k2 k3 h' tk', Fr h₀ L h' m → News h₀ L h' ((t, seqO #[.str ⟨#[83]⟩ k, .ref b]) :: (b, tup4 c1 r1 c2 r2 k0 k1 k2 k3) :: news) → AllLt b news → b < t → AllLt t news → Q (.ref t) { s with heap := h', toks := tk' }) :
  wpAny (model PR w) (A.deeper (envOf cn ⟨.function, nms, ig, ic, mo⟩ L a ccd)) (PySem.call (.ref 80) [.str ⟨#[39, 83, 39, 33, lc c1, dg r1, 58, lc c2, dg r2]⟩ tk]) Q E s :=
  to_AK h1 h2 h5 B fun B' => rtS5_K B' F X₀ T (lc5 h1c) (dg5 h1r) (lc5 h2c) (dg5 h2r) (lc7 h1c) (dg7 h1r) (lc7 h2c) (dg7 h2r) (lc128 h1c) (dg128 h1r) (lc128 h2c) (dg128 h2r) N fun t b k k0 k1 k2 k3 h' tk' F' N' l1 l2 l3 => hQ t b k k0 k1 k2 k3 h' tk' F' (by rw [lcI h1c, dgI h1r, lcI h2c, dgI h2r] at N'; exact N') l1 l2 l3
theorem rta5_I {A : Around} {w : World} {outer : List Env} {base h₀ : Heap} {L a : Addr} {cn : Str} {nms : List (Str × NameKind)} {ig ic : Bool} {mo} {ccd : Value} {m mg mb : Str → Option Value} {news : List (Addr × Obj)} {s : Shared} {p : Program} {loose : List Str} {mean : ExcName → Option Value} {Q : Value → Shared → Prop} {E : Value → Shared → Prop} {c1 r1 c2 r2 : Int} {tk : Tok}
  (h1 : A.handled = none) (h2 : A.depth ≤ 680) (h5 : A.units ≤ 2800) (B : Below A base outer h₀) (F : Fr h₀ L s.heap m) (X₀ : (hd.heap_39 w.params).In h₀) (T : Top p loose mean mg mb h₀) (h1c : 1 ≤ c1 ∧ c1 ≤ 5) (h1r : 1 ≤ r1 ∧ r1 ≤ 5) (h2c : 1 ≤ c2 ∧ c2 ≤ 5) (h2r : 1 ≤ r2 ∧ r2 ≤ 5) (N : News h₀ L s.heap news)
  (hQ : ∀ t b k k0 k1 k2 k3 h' tk', Fr h₀ L h' m → News h₀ L h' ((t, seqO #[.str ⟨#[97, 32, 98]⟩ k, .ref b]) :: (b, tup4 c1 r1 c2 r2 k0 k1 k2 k3) :: news) → AllLt b news → b < t → AllLt t news → Q (.ref t) { s with heap := h', toks := tk' }) :
  wpAny (model PR w) (A.deeper (envOf cn ⟨.function, nms, ig, ic, mo⟩ L a ccd)) (PySem.call (.ref 80) [.str ⟨#[39, 97, 32, 98, 39, 33, lc c1, dg r1, 58, lc c2, dg r2]⟩ tk]) Q E s :=
  to_AK h1 h2 h5 B fun B' => rta5_K B' F X₀ T (lc5 h1c) (dg5 h1r) (lc5 h2c) (dg5 h2r) (lc7 h1c) (dg7 h1r) (lc7 h2c) (dg7 h2r) (lc128 h1c) (dg128 h1r) (lc128 h2c) (dg128 h2r) N fun t b k k0 k1 k2 k3 h' tk' F' N' l1 l2 l3 => hQ t b k k0 k1 k2 k3 h' tk' F' (by rw [lcI h1c, dgI h1r, lcI h2c, dgI h2r] at N'; exact N') l1 l2 l3
theorem rtT5_I {A : Around} {w : World} {outer : List Env} {base h₀ : Heap} {L a : Addr} {cn : Str} {nms : List (Str × NameKind)} {ig ic : Bool} {mo} {ccd : Value} {m mg mb : Str → Option Value} {news : List (Addr × Obj)} {s : Shared} {p : Program} {loose : List Str} {mean : ExcName → Option Value} {Q : Value → Shared → Prop} {E : Value → Shared → Prop} {c1 r1 c2 r2 : Int} {tk : Tok}
  (h1 : A.handled = none) (h2 : A.depth ≤ 680) (h5 : A.units ≤ 2800) (B : Below A base outer h₀) (F : Fr h₀ L s.heap m) (X₀ : (hd.heap_39 w.params).In h₀) (T : Top p loose mean mg mb h₀) (h1c : 1 ≤ c1 ∧ c1 ≤ 5) (h1r : 1 ≤ r1 ∧ r1 ≤ 5) (h2c : 1 ≤ c2 ∧ c2 ≤ 5) (h2r : 1 ≤ r2 ∧ r2 ≤ 5) (N : News h₀ L s.heap news)
  (hQ : ∀ t b k k0 k1 k2 k3 h' tk', Fr h₀ L h' m → News h₀ L h' ((t, seqO #[.str ⟨#[84, 33, 120]⟩ k, .ref b]) :: (b, tup4 c1 r1 c2 r2 k0 k1 k2 k3) :: news) → AllLt b news → b < t → AllLt t news → Q (.ref t) { s with heap := h', toks := tk' }) :
  wpAny (model PR w) (A.deeper (envOf cn ⟨.function, nms, ig, ic, mo⟩ L a ccd)) (PySem.call (.ref 80) [.str ⟨#[39, 84, 33, 120, 39, 33, lc c1, dg r1, 58, lc c2, dg r2]⟩ tk]) Q E s :=
  to_AK h1 h2 h5 B fun B' => rtT5_K B' F X₀ T (lc5 h1c) (dg5 h1r) (lc5 h2c) (dg5 h2r) (lc7 h1c) (dg7 h1r) (lc7 h2c) (dg7 h2r) (lc128 h1c) (dg128 h1r) (lc128 h2c) (dg128 h2r) N fun t b k k0 k1 k2 k3 h' tk' F' N' l1 l2 l3 => hQ t b k k0 k1 k2 k3 h' tk' F' (by rw [lcI h1c, dgI h1r, lcI h2c, dgI h2r] at N'; exact N') l1 l2 l3
theorem rb2_I {A : Around} {w : World} {outer : List Env} {base h₀ : Heap} {L a : Addr} {cn : Str} {nms : List (Str × NameKind)} {ig ic : Bool} {mo} {ccd : Value} {m mg mb : Str → Option Value} {news : List (Addr × Obj)} {s : Shared} {p : Program} {loose : List Str} {mean : ExcName → Option Value} {Q : Value → Shared → Prop} {E : Value → Shared → Prop} {c1 r1 : Int} {tk : Tok}
  (h1 : A.handled = none) (h2 : A.depth ≤ 690) (h5 : A.units ≤ 2900) (B : Below A base outer h₀) (F : Fr h₀ L s.heap m) (X₀ : (hd.heap_39 w.params).In h₀) (T : Top p loose mean mg mb h₀) (h1c : 1 ≤ c1 ∧ c1 ≤ 5) (h1r : 1 ≤ r1 ∧ r1 ≤ 5) (N : News h₀ L s.heap news)
  (hQ : ∀ t k0 k1 k2 k3 h' tk', Fr h₀ L h' m → News h₀ L h' ((t, tup4 c1 r1 c1 r1 k0 k1 k2 k3) :: news) → AllLt t news → Q (.ref t) { s with heap := h', toks := tk' }) :
  wpAny (model PR w) (A.deeper (envOf cn ⟨.function, nms, ig, ic, mo⟩ L a ccd)) (PySem.call (.ref 73) [.str ⟨#[lc c1, dg r1]⟩ tk]) Q E s :=
  to_AK h1 h2 h5 B fun B' => rb2_C rfl (Nat.le_refl _) (Nat.le_refl _) B' F X₀ T (lc7 h1c) (dg7 h1r) N fun t k0 k1 k2 k3 h' tk' F' N' l => hQ t k0 k1 k2 k3 h' tk' F' (by rw [lcI h1c, dgI h1r] at N'; exact N') l
theorem rtS2_I {A : Around} {w : World} {outer : List Env} {base h₀ : Heap} {L a : Addr} {cn : Str} {nms : List (Str × NameKind)} {ig ic : Bool} {mo} {ccd : Value} {m mg mb : Str → Option Value} {news : List (Addr × Obj)} {s : Shared} {p : Program} {loose : List Str} {mean : ExcName → Option Value} {Q : Value → Shared → Prop} {E : Value → Shared → Prop} {c1 r1 : Int} {tk : Tok}
  (h1 : A.handled = none) (h2 : A.depth ≤ 680) (h5 : A.units ≤ 2800) (B : Below A base outer h₀) (F : Fr h₀ L s.heap m) (X₀ : (hd.heap_39 w.params).In h₀) (T : Top p loose mean mg mb h₀) (h1c : 1 ≤ c1 ∧ c1 ≤ 5) (h1r : 1 ≤ r1 ∧ r1 ≤ 5) (N : News h₀ L s.heap news)
  (hQ : ∀ t b k k0 k1 k2 k3 h' tk', Fr h₀ L h' m → News h₀ L h' ((t, seqO #[.str ⟨#[83]⟩ k, .ref b]) :: (b, tup4 c1 r1 c1 r1 k0 k1 k2 k3) :: news) → AllLt b news → b < t → AllLt t news → Q (.ref t) { s with heap := h', toks := tk' }) :
  wpAny (model PR w) (A.deeper (envOf cn ⟨.function, nms, ig, ic, mo⟩ L a ccd)) (PySem.call (.ref 80) [.str ⟨#[39, 83, 39, 33, lc c1, dg r1]⟩ tk]) Q E s :=
  to_AK h1 h2 h5 B fun B' => rtS2_K B' F X₀ T (lc5 h1c) (dg5 h1r) (lc7 h1c) (dg7 h1r) (lc128 h1c) (dg128 h1r) N fun t b k k0 k1 k2 k3 h' tk' F' N' l1 l2 l3 => hQ t b k k0 k1 k2 k3 h' tk' F' (by rw [lcI h1c, dgI h1r] at N'; exact N') l1 l2 l3
theorem rta2_I {A : Around} {w : World} {outer : List Env} {base h₀ : Heap} {L a : Addr} {cn : Str} {nms : List (Str × NameKind)} {ig ic : Bool} {mo} {ccd : Value} {m mg mb : Str → Option Value} {news : List (Addr × Obj)} {s : Shared} {p : Program} {loose : List Str} {mean : ExcName → Option Value} {Q : Value → Shared → Prop} {E : Value → Shared → Prop} {c1 r1 : Int} {tk : Tok}
  (h1 : A.handled = none) (h2 : A.depth ≤ 680) (h5 : A.units ≤ 2800) (B : Below A base outer h₀) (F : Fr h₀ L s.heap m) (X₀ : (hd.heap_39 w.params).In h₀) (T : Top p loose mean mg mb h₀) (h1c : 1 ≤ c1 ∧ c1 ≤ 5) (h1r : 1 ≤ r1 ∧ r1 ≤ 5) (N : News h₀ L s.heap news)
  (hQ : ∀ t b k k0 k1 k2 k3 h' tk', Fr h₀ L h' m → News h₀ L h' ((t, seqO #[.str ⟨#[97, 32, 98]⟩ k, .ref b]) :: (b, tup4 c1 r1 c1 r1 k0 k1 k2 k3) :: news) → AllLt b news → b < t → AllLt t news → Q (.ref t) { s with heap := h', toks := tk' }) :
  wpAny (model PR w) (A.deeper (envOf cn ⟨.function, nms, ig, ic, mo⟩ L a ccd)) (PySem.call (.ref 80) [.str ⟨#[39, 97, 32, 98, 39, 33, lc c1, dg r1]⟩ tk]) Q E s :=
  to_AK h1 h2 h5 B fun B' => rta2_K B' F X₀ T (lc5 h1c) (dg5 h1r) (lc7 h1c) (dg7 h1r) (lc128 h1c) (dg128 h1r) N fun t b k k0 k1 k2 k3 h' tk' F' N' l1 l2 l3 => hQ t b k k0 k1 k2 k3 h' tk' F' (by rw [lcI h1c, dgI h1r] at N'; exact N') l1 l2 l3
theorem rtT2_I {A : Around} {w : World} {outer : List Env} {base h₀ : Heap} {L a : Addr} {cn : Str} {nms : List (Str × NameKind)} {ig ic : Bool} {mo} {ccd : Value} {m mg mb : Str → Option Value} {news : List (Addr × Obj)} {s : Shared} {p : Program} {loose : List Str} {mean : ExcName → Option Value} {Q : Value → Shared → Prop} {E : Value → Shared → Prop} {c1 r1 : Int} {tk : Tok}
  (h1 : A.handled = none) (h2 : A.depth ≤ 680) (h5 : A.units ≤ 2800) (B : Below A base outer h₀) (F : Fr h₀ L s.heap m) (X₀ : (hd.heap_39 w.params).In h₀) (T : Top p loose mean mg mb h₀) (h1c : 1 ≤ c1 ∧ c1 ≤ 5) (h1r : 1 ≤ r1 ∧ r1 ≤ 5) (N : News h₀ L s.heap news)
  (hQ : ∀ t b k k0 k1 k2 k3 h' tk', Fr h₀ L h' m → News h₀ L h' ((t, seqO #[.str ⟨#[84, 33, 120]⟩ k, .ref b]) :: (b, tup4 c1 r1 c1 r1 k0 k1 k2 k3) :: news) → AllLt b news → b < t → AllLt t news → Q (.ref t) { s with heap := h', toks := tk' }) :
  wpAny (model PR w) (A.deeper (envOf cn ⟨.function, nms, ig, ic, mo⟩ L a ccd)) (PySem.call (.ref 80) [.str ⟨#[39, 84, 33, 120, 39, 33, lc c1, dg r1]⟩ tk]) Q E s :=
  to_AK h1 h2 h5 B fun B' => rtT2_K B' F X₀ T (lc5 h1c) (dg5 h1r) (lc7 h1c) (dg7 h1r) (lc128 h1c) (dg128 h1r) N fun t b k k0 k1 k2 k3 h' tk' F' N' l1 l2 l3 => hQ t b k k0 k1 k2 k3 h' tk' F' (by rw [lcI h1c, dgI h1r] at N'; exact N') l1 l2 l3
end Mine

end
section
open PySem PySem.W PySem.W.X PyProof.Rows
namespace Mine
local macro_rules | `(tactic| walk_at "pad") => `(tactic| fail "pad")
local macro_rules | `(tactic| walk_at "pad") => `(tactic| fail "pad")
local macro_rules | `(tactic| k_all) => `(tactic| assumption)
local macro_rules | `(tactic| k_mem) => `(tactic| assumption)
local macro_rules | `(tactic| walk_at "my_sub") => `(tactic| (refine news_sub (by assumption) ?_; intro p hp; (repeat (first | exact hp | refine List.Mem.tail _ ?_))))
local macro_rules | `(tactic| walk_at "my_bool") => `(tactic| ((try unfold lex4 at *); (try simp only [decide_eq_true_eq, bne_iff_ne, ne_eq, bne_eq_false_iff_eq, Bool.false_eq_true, true_iff, false_iff]); omega))

local macro_rules | `(tactic| walk_at "compareOp Gt ref ref") => `(tactic| (k_here; k_dflt (refine' tup_gt_K ?N ?m1 ?m2 ?q1 ?q2 ?q3 ?_; (case N => k_asm); (case m1 => k_mem); (case m2 => k_mem); (case q1 => rfl); (case q2 => exact Nat.le_of_ble_eq_true rfl); (case q3 => exact Nat.le_of_ble_eq_true rfl); k_whole)))
local macro_rules | `(tactic| k_handed) => `(tactic| exact tval_handed _ _)
local macro_rules | `(tactic| walk_at "truthy") => `(tactic| (k_here; (with_reducible show wpAny _ _ (truthy (tval _ _)) _ _ _); (with_reducible refine' truthy_tval ?a1 ?_); (case a1 => first | assumption | omega); k_whole))
local macro_rules | `(tactic| walk_at "compareOp Is none") => `(tactic| (k_here; (with_reducible show wpAny _ _ (compareOp _ (tval _ _) _) _ _ _); (with_reducible refine' isNone_tval ?a1 ?_); (case a1 => first | assumption | omega); k_whole))
local macro_rules | `(tactic| walk_at "compareOp NotEq") => `(tactic| (k_here; (with_reducible show wpAny _ _ (compareOp _ (tval _ _) (tval _ _)) _ _ _); (with_reducible refine' ne_tval ?a1 ?a2 ?_); (case a1 => first | assumption | omega); (case a2 => first | assumption | omega); k_whole))
local macro_rules | `(tactic| walk_at "compareOp Eq") => `(tactic| (k_here; (with_reducible show wpAny _ _ (compareOp _ (tval _ _) (tval _ _)) _ _ _); (with_reducible refine' eq_tval ?a1 ?a2 ?_); (case a1 => first | assumption | omega); (case a2 => first | assumption | omega); k_whole))
local macro_rules | `(tactic| walk_at "compareChain") => `(tactic| (k_here; (with_reducible show wpAny _ _ (compareChain _ _ (_ :: _ :: _) (_ :: evalEach _ _)) _ _ _); refine chain_link ?_))
local macro_rules | `(tactic| walk_at "my_tops") => `(tactic| ((rename Top _ _ _ _ _ _ => tp1; have tr1 := topRead_of tp1); (try (revert tp1; (rename Top _ _ _ _ _ _ => tp2; have tr2 := topRead_of tp2); (try (revert tp2; (rename Top _ _ _ _ _ _ => tp3; have tr3 := topRead_of tp3); (try (revert tp3; (rename Top _ _ _ _ _ _ => tp4; have tr4 := topRead_of tp4); intro tp3)); intro tp2)); intro tp1))))
local macro_rules | `(tactic| walk_at "noteFrame ref") => `(tactic| (k_here; (walk_at "my_tops"); (rename RaisedK _ _ _ _ _ _ _ _ => rkX); k_caught0; intro h' n₂ F' N₂ G' N'; (try k_sweep)))
set_option maxRecDepth 100000 in
set_option maxHeartbeats 4000000 in
theorem ct_K {w : World} {outer : List Env} {base h₀ : Heap} {L a : Addr} {cn : Str} {nms : List (Str × NameKind)} {ig ic : Bool} {mo} {ccd : Value} {m mg mb : Str → Option Value} {news : List (Addr × Obj)} {s : Shared} {p : Program} {loose : List Str} {mean : ExcName → Option Value} {Q : Value → Shared → Prop} {E : Value → Shared → Prop} {x dx y dy : Addr} {κ ε : Nat → Tok} {c1 r1 c2 r2 d1 s1 d2 s2 v1 v2 : Int} {k1 k2 : Tok}
  (B : Below (AK 660 2500 outer) base outer h₀) (F : Fr h₀ L s.heap m) (X₀ : (hd.heap_39 w.params).In h₀) (T : Top p loose mean mg mb h₀) (i1 : 0 ≤ v1 ∧ v1 ≤ 3) (i2 : 0 ≤ v2 ∧ v2 ≤ 3)(hx : (x, instObj 349 dx) ∈ news) (hdx : (dx, crD w κ c1 r1 c2 r2 (tval v1 k1)) ∈ news) (hy : (y, instObj 349 dy) ∈ news) (hdy : (dy, crD w ε d1 s1 d2 s2 (tval v2 k2)) ∈ news)(hf : v2 = 0 ∨ v1 = v2) (N : News h₀ L s.heap news)
  (hQ : ∀ h' tk', Fr h₀ L h' m → News h₀ L h' news → Q .none { s with heap := h', toks := tk' }) :
  wpAny (model PR w) ((AK 660 2500 outer).deeper (envOf cn ⟨.function, nms, ig, ic, mo⟩ L a ccd)) (PySem.call (.ref 199) [.ref x, .ref y]) Q E s := by
  have F' := F
  refine wpAny_call ?_
  w_strict k_enter
  w_strict k_steps
  all_goals (refine hQ _ _ (by assumption) ?_; (walk_at "my_sub"))
theorem ct_C {A : Around} {w : World} {outer : List Env} {base h₀ : Heap} {L a : Addr} {cn : Str} {nms : List (Str × NameKind)} {ig ic : Bool} {mo} {ccd : Value} {m mg mb : Str → Option Value} {news : List (Addr × Obj)} {s : Shared} {p : Program} {loose : List Str} {mean : ExcName → Option Value} {Q : Value → Shared → Prop} {E : Value → Shared → Prop} {x dx y dy : Addr} {κ ε : Nat → Tok} {c1 r1 c2 r2 d1 s1 d2 s2 v1 v2 : Int} {k1 k2 : Tok}
  (h1 : A.handled = none) (h2 : A.depth ≤ 660) (h5 : A.units ≤ 2500) (B : Below A base outer h₀) (F : Fr h₀ L s.heap m) (X₀ : (hd.heap_39 w.params).In h₀) (T : Top p loose mean mg mb h₀) (i1 : 0 ≤ v1 ∧ v1 ≤ 3) (i2 : 0 ≤ v2 ∧ v2 ≤ 3)(hx : (x, instObj 349 dx) ∈ news) (hdx : (dx, crD w κ c1 r1 c2 r2 (tval v1 k1)) ∈ news) (hy : (y, instObj 349 dy) ∈ news) (hdy : (dy, crD w ε d1 s1 d2 s2 (tval v2 k2)) ∈ news)(hf : v2 = 0 ∨ v1 = v2) (N : News h₀ L s.heap news)
  (hQ : ∀ h' tk', Fr h₀ L h' m → News h₀ L h' news → Q .none { s with heap := h', toks := tk' }) :
  wpAny (model PR w) (A.deeper (envOf cn ⟨.function, nms, ig, ic, mo⟩ L a ccd)) (PySem.call (.ref 199) [.ref x, .ref y]) Q E s :=
  to_AK h1 h2 h5 B fun B' => ct_K B' F X₀ T i1 i2 hx hdx hy hdy hf N hQ
set_option maxRecDepth 100000 in
set_option maxHeartbeats 4000000 in
theorem su_K {w : World} {outer : List Env} {base h₀ : Heap} {L a : Addr} {cn : Str} {nms : List (Str × NameKind)} {ig ic : Bool} {mo} {ccd : Value} {m mg mb : Str → Option Value} {news : List (Addr × Obj)} {s : Shared} {p : Program} {loose : List Str} {mean : ExcName → Option Value} {Q : Value → Shared → Prop} {E : Value → Shared → Prop} {x dx y dy : Addr} {κ ε : Nat → Tok} {c1 r1 c2 r2 d1 s1 d2 s2 v1 v2 : Int} {k1 k2 : Tok}
  (B : Below (AK 660 2500 outer) base outer h₀) (F : Fr h₀ L s.heap m) (X₀ : (hd.heap_39 w.params).In h₀) (T : Top p loose mean mg mb h₀) (hc : c1 ≤ c2) (hr : r1 ≤ r2) (hd : d1 ≤ d2) (hs : s1 ≤ s2)(hx : (x, instObj 349 dx) ∈ news) (hdx : (dx, crD w κ c1 r1 c2 r2 (tval v1 k1)) ∈ news) (hy : (y, instObj 349 dy) ∈ news) (hdy : (dy, crD w ε d1 s1 d2 s2 (tval v2 k2)) ∈ news) (N : News h₀ L s.heap news)
  (hQ : ∀ b h' tk', (b = true ↔ (c1 ≤ d1 ∧ d2 ≤ c2 ∧ r1 ≤ s1 ∧ s2 ≤ r2)) → Fr h₀ L h' m → News h₀ L h' news → Q (.bool b) { s with heap := h', toks := tk' }) :
  wpAny (model PR w) ((AK 660 2500 outer).deeper (envOf cn ⟨.function, nms, ig, ic, mo⟩ L a ccd)) (PySem.call (.ref 256) [.ref x, .ref y]) Q E s := by
  have F' := F
  refine wpAny_call ?_
  w_strict k_enter
  w_strict k_steps
  all_goals (refine hQ _ _ _ ?_ (by assumption) ?_; rotate_left; (walk_at "my_sub"); (walk_at "my_bool"))
theorem su_C {A : Around} {w : World} {outer : List Env} {base h₀ : Heap} {L a : Addr} {cn : Str} {nms : List (Str × NameKind)} {ig ic : Bool} {mo} {ccd : Value} {m mg mb : Str → Option Value} {news : List (Addr × Obj)} {s : Shared} {p : Program} {loose : List Str} {mean : ExcName → Option Value} {Q : Value → Shared → Prop} {E : Value → Shared → Prop} {x dx y dy : Addr} {κ ε : Nat → Tok} {c1 r1 c2 r2 d1 s1 d2 s2 v1 v2 : Int} {k1 k2 : Tok}
  (h1 : A.handled = none) (h2 : A.depth ≤ 660) (h5 : A.units ≤ 2500) (B : Below A base outer h₀) (F : Fr h₀ L s.heap m) (X₀ : (hd.heap_39 w.params).In h₀) (T : Top p loose mean mg mb h₀) (hc : c1 ≤ c2) (hr : r1 ≤ r2) (hd : d1 ≤ d2) (hs : s1 ≤ s2)(hx : (x, instObj 349 dx) ∈ news) (hdx : (dx, crD w κ c1 r1 c2 r2 (tval v1 k1)) ∈ news) (hy : (y, instObj 349 dy) ∈ news) (hdy : (dy, crD w ε d1 s1 d2 s2 (tval v2 k2)) ∈ news) (N : News h₀ L s.heap news)
  (hQ : ∀ b h' tk', (b = true ↔ (c1 ≤ d1 ∧ d2 ≤ c2 ∧ r1 ≤ s1 ∧ s2 ≤ r2)) → Fr h₀ L h' m → News h₀ L h' news → Q (.bool b) { s with heap := h', toks := tk' }) :
  wpAny (model PR w) (A.deeper (envOf cn ⟨.function, nms, ig, ic, mo⟩ L a ccd)) (PySem.call (.ref 256) [.ref x, .ref y]) Q E s :=
  to_AK h1 h2 h5 B fun B' => su_K B' F X₀ T hc hr hd hs hx hdx hy hdy N hQ
local macro_rules | `(tactic| walk_at "call ref") => `(tactic| (k_here; (with_reducible show wpAny _ _ (PySem.call (Value.ref 199) _) _ _ _); k_dflt ((refine' ct_C ?q1 ?q2 ?q3 ?B ?F ?X ?T ?z0 ?z1 ?z2 ?z3 ?z4 ?z5 ?z6 ?N ?_); (case B => k_asm); (case F => k_asm); (case X => assumption); (case T => assumption); (case N => k_asm); (case z2 => (repeat (first | assumption | exact List.Mem.head _ | refine List.Mem.tail _ ?_))); (case z3 => (repeat (first | assumption | exact List.Mem.head _ | refine List.Mem.tail _ ?_))); (case z4 => (repeat (first | assumption | exact List.Mem.head _ | refine List.Mem.tail _ ?_))); (case z5 => (repeat (first | assumption | exact List.Mem.head _ | refine List.Mem.tail _ ?_))); (case z0 => omega); (case z1 => omega); (case z6 => omega); (case q1 => rfl); (case q2 => exact Nat.le_of_ble_eq_true rfl); (case q3 => exact Nat.le_of_ble_eq_true rfl); k_whole; intro h' tk' F' N')))
set_option maxRecDepth 100000 in
set_option maxHeartbeats 4000000 in
theorem ne_K {w : World} {outer : List Env} {base h₀ : Heap} {L a : Addr} {cn : Str} {nms : List (Str × NameKind)} {ig ic : Bool} {mo} {ccd : Value} {m mg mb : Str → Option Value} {news : List (Addr × Obj)} {s : Shared} {p : Program} {loose : List Str} {mean : ExcName → Option Value} {Q : Value → Shared → Prop} {E : Value → Shared → Prop} {x dx y dy : Addr} {κ ε : Nat → Tok} {c1 r1 c2 r2 d1 s1 d2 s2 v1 v2 : Int} {k1 k2 : Tok}
  (B : Below (AK 655 2450 outer) base outer h₀) (F : Fr h₀ L s.heap m) (X₀ : (hd.heap_39 w.params).In h₀) (T : Top p loose mean mg mb h₀) (i1 : 0 ≤ v1 ∧ v1 ≤ 3) (i2 : 0 ≤ v2 ∧ v2 ≤ 3)(hx : (x, instObj 349 dx) ∈ news) (hdx : (dx, crD w κ c1 r1 c2 r2 (tval v1 k1)) ∈ news) (hy : (y, instObj 349 dy) ∈ news) (hdy : (dy, crD w ε d1 s1 d2 s2 (tval v2 k2)) ∈ news)(hf : v2 = 0 ∨ v1 = v2) (N : News h₀ L s.heap news)
  (hQ : ∀ b h' tk', (b = true ↔ (¬ (c1 = d1 ∧ r1 = s1 ∧ c2 = d2 ∧ r2 = s2))) → Fr h₀ L h' m → News h₀ L h' news → Q (.bool b) { s with heap := h', toks := tk' }) :
  wpAny (model PR w) ((AK 655 2450 outer).deeper (envOf cn ⟨.function, nms, ig, ic, mo⟩ L a ccd)) (PySem.call (.ref 228) [.ref x, .ref y]) Q E s := by
  have F' := F
  refine wpAny_call ?_
  w_strict k_enter
  w_strict k_steps
  all_goals (refine hQ _ _ _ ?_ (by assumption) ?_; rotate_left; (walk_at "my_sub"); (walk_at "my_bool"))
theorem ne_C {A : Around} {w : World} {outer : List Env} {base h₀ : Heap} {L a : Addr} {cn : Str} {nms : List (Str × NameKind)} {ig ic : Bool} {mo} {ccd : Value} {m mg mb : Str → Option Value} {news : List (Addr × Obj)} {s : Shared} {p : Program} {loose : List Str} {mean : ExcName → Option Value} {Q : Value → Shared → Prop} {E : Value → Shared → Prop} {x dx y dy : Addr} {κ ε : Nat → Tok} {c1 r1 c2 r2 d1 s1 d2 s2 v1 v2 : Int} {k1 k2 : Tok}
  (h1 : A.handled = none) (h2 : A.depth ≤ 655) (h5 : A.units ≤ 2450) (B : Below A base outer h₀) (F : Fr h₀ L s.heap m) (X₀ : (hd.heap_39 w.params).In h₀) (T : Top p loose mean mg mb h₀) (i1 : 0 ≤ v1 ∧ v1 ≤ 3) (i2 : 0 ≤ v2 ∧ v2 ≤ 3)(hx : (x, instObj 349 dx) ∈ news) (hdx : (dx, crD w κ c1 r1 c2 r2 (tval v1 k1)) ∈ news) (hy : (y, instObj 349 dy) ∈ news) (hdy : (dy, crD w ε d1 s1 d2 s2 (tval v2 k2)) ∈ news)(hf : v2 = 0 ∨ v1 = v2) (N : News h₀ L s.heap news)
  (hQ : ∀ b h' tk', (b = true ↔ (¬ (c1 = d1 ∧ r1 = s1 ∧ c2 = d2 ∧ r2 = s2))) → Fr h₀ L h' m → News h₀ L h' news → Q (.bool b) { s with heap := h', toks := tk' }) :
  wpAny (model PR w) (A.deeper (envOf cn ⟨.function, nms, ig, ic, mo⟩ L a ccd)) (PySem.call (.ref 228) [.ref x, .ref y]) Q E s :=
  to_AK h1 h2 h5 B fun B' => ne_K B' F X₀ T i1 i2 hx hdx hy hdy hf N hQ
set_option maxRecDepth 100000 in
set_option maxHeartbeats 4000000 in
theorem dj_K {w : World} {outer : List Env} {base h₀ : Heap} {L a : Addr} {cn : Str} {nms : List (Str × NameKind)} {ig ic : Bool} {mo} {ccd : Value} {m mg mb : Str → Option Value} {news : List (Addr × Obj)} {s : Shared} {p : Program} {loose : List Str} {mean : ExcName → Option Value} {Q : Value → Shared → Prop} {E : Value → Shared → Prop} {x dx y dy : Addr} {κ ε : Nat → Tok} {c1 r1 c2 r2 d1 s1 d2 s2 v1 v2 : Int} {k1 k2 : Tok}
  (B : Below (AK 655 2400 outer) base outer h₀) (F : Fr h₀ L s.heap m) (X₀ : (hd.heap_39 w.params).In h₀) (T : Top p loose mean mg mb h₀) (i1 : 0 ≤ v1 ∧ v1 ≤ 3) (i2 : 0 ≤ v2 ∧ v2 ≤ 3)(hc : c1 ≤ c2) (hr : r1 ≤ r2) (hd : d1 ≤ d2) (hs : s1 ≤ s2)(hx : (x, instObj 349 dx) ∈ news) (hdx : (dx, crD w κ c1 r1 c2 r2 (tval v1 k1)) ∈ news) (hy : (y, instObj 349 dy) ∈ news) (hdy : (dy, crD w ε d1 s1 d2 s2 (tval v2 k2)) ∈ news)(hf : v2 = 0 ∨ v1 = v2) (N : News h₀ L s.heap news)
  (hQ : ∀ b h' tk', (b = true ↔ (c2 < d1 ∨ d2 < c1 ∨ r2 < s1 ∨ s2 < r1)) → Fr h₀ L h' m → News h₀ L h' news → Q (.bool b) { s with heap := h', toks := tk' }) :
  wpAny (model PR w) ((AK 655 2400 outer).deeper (envOf cn ⟨.function, nms, ig, ic, mo⟩ L a ccd)) (PySem.call (.ref 284) [.ref x, .ref y]) Q E s := by
  have F' := F
  refine wpAny_call ?_
  w_strict k_enter
  w_strict k_steps
  all_goals (refine hQ _ _ _ ?_ (by assumption) ?_; rotate_left; (walk_at "my_sub"); (walk_at "my_bool"))
theorem dj_C {A : Around} {w : World} {outer : List Env} {base h₀ : Heap} {L a : Addr} {cn : Str} {nms : List (Str × NameKind)} {ig ic : Bool} {mo} {ccd : Value} {m mg mb : Str → Option Value} {news : List (Addr × Obj)} {s : Shared} {p : Program} {loose : List Str} {mean : ExcName → Option Value} {Q : Value → Shared → Prop} {E : Value → Shared → Prop} {x dx y dy : Addr} {κ ε : Nat → Tok} {c1 r1 c2 r2 d1 s1 d2 s2 v1 v2 : Int} {k1 k2 : Tok}
  (h1 : A.handled = none) (h2 : A.depth ≤ 655) (h5 : A.units ≤ 2400) (B : Below A base outer h₀) (F : Fr h₀ L s.heap m) (X₀ : (hd.heap_39 w.params).In h₀) (T : Top p loose mean mg mb h₀) (i1 : 0 ≤ v1 ∧ v1 ≤ 3) (i2 : 0 ≤ v2 ∧ v2 ≤ 3)(hc : c1 ≤ c2) (hr : r1 ≤ r2) (hd : d1 ≤ d2) (hs : s1 ≤ s2)(hx : (x, instObj 349 dx) ∈ news) (hdx : (dx, crD w κ c1 r1 c2 r2 (tval v1 k1)) ∈ news) (hy : (y, instObj 349 dy) ∈ news) (hdy : (dy, crD w ε d1 s1 d2 s2 (tval v2 k2)) ∈ news)(hf : v2 = 0 ∨ v1 = v2) (N : News h₀ L s.heap news)
  (hQ : ∀ b h' tk', (b = true ↔ (c2 < d1 ∨ d2 < c1 ∨ r2 < s1 ∨ s2 < r1)) → Fr h₀ L h' m → News h₀ L h' news → Q (.bool b) { s with heap := h', toks := tk' }) :
  wpAny (model PR w) (A.deeper (envOf cn ⟨.function, nms, ig, ic, mo⟩ L a ccd)) (PySem.call (.ref 284) [.ref x, .ref y]) Q E s :=
  to_AK h1 h2 h5 B fun B' => dj_K B' F X₀ T i1 i2 hc hr hd hs hx hdx hy hdy hf N hQ
end Mine

end
section
open PySem PySem.W PySem.W.X PyProof.Rows PySem.Spec PySem.Calls
namespace Mine
theorem only_frame {env : Env} {L b : Addr} (hf : env.frame = some L) (hb : b ∈ [env].filterMap (·.frame)) : b = L := by
  simp only [List.filterMap_cons, hf, List.filterMap_nil, List.mem_singleton] at hb
  exact hb
/-- entering a def that catches, out of a frame of any make (with cells too), where nothing lies below that frame -/
theorem enter_try {prog : Program} {w : World} {A₀ A : Around} {s : Shared} {base h₀ : Heap} {L : Addr} {m : Str → Option Value} {env : Env} {news : List (Addr × Obj)} {K : Frag} {p : Program} {loose : List Str} {mean : ExcName → Option Value} {mg mb : Str → Option Value}
    {R : Result → Shared → Prop} {name qual : Str} {params : Arguments} {body : List Stmt} {scope : Scope} {dV kV doc pm cdv ct oc : Value} {an od : Option Addr} {osl : Array (Option Value)} {f : Addr} {args : Args} {binds : List (Str × Value)}
    (B : Below A₀ base [] h₀) (F : Fr h₀ L s.heap m) (X₀ : K.In h₀) (N : News h₀ L s.heap news) (T : Top p loose mean mg mb h₀) (hA : A.frames = some [env]) (hf : env.frame = some L) (hke : env.scope.kind = .function)
    (ho : K.lookup f = some ⟨oc, od, .func (fnOf name qual params body scope dV kV doc pm an cdv ct), osl⟩) (hcd : codeIn K cdv qual = true) (hroom : A.depth < recursionLimit)
    (hbind : BindsTo s (fnOf name qual params body scope dV kV doc pm an cdv ct) args binds) (hloc : ∀ y ∈ binds, scope.names.lookup y.1 = some .local)
    (h : ∀ g L' h₁, Fr h₀ L g m → Fr g L' h₁ (fun y => binds.reverse.lookup y) → News g L' h₁ news → Below A base [env] g → K.In g → Top p loose mean mg mb g → KtsDicts ([env].filterMap (·.frame)) g →
      wpAny (model prog w) (A.deeper (envOf qual scope L' f cdv)) (execs body (envOf qual scope L' f cdv))
        (fun fl s' => LeaveS0 ([env].filterMap (·.frame)) h₀ L m g R (match fl with | .ret v => v | _ => .none) s')
        (fun e s' => wpAny (model prog w) (A.deeper (envOf qual scope L' f cdv)) (leaving (envOf qual scope L' f cdv) e) (fun _ s'' => R (.error e) s'') (fun e' s'' => R (.error e') s'') s')
        { s with heap := h₁, toks := s.toks + binds.length })
    (hco : scope.isCoroutine = false) (hgen : scope.isGenerator = false) (hk : scope.kind = .function)
    (hcell : ∀ x ∈ scope.names, x.2 ≠ .cell) : codeAny (model prog w) A (.call (.ref f) args) R s := by
  obtain ⟨FG, BG, st, _⟩ := groundX (R := fun _ _ => True) B F N hA hf hke
  have XS := X₀.keeps F.keep
  obtain ⟨oL, es, ep, hL, hLd, hLk, hLf⟩ := FG.ns
  have newL : h₀.get? L = none := by
    cases q : h₀.get? L with
    | none => rfl
    | some o => exact absurd (Heap.lt_size q) (Nat.not_lt.mpr F.above)
  refine codeAny_call_def (fd := fnOf name qual params body scope dV kV doc pm an cdv ct) (body := body) (binds := binds) hroom (XS _ _ ho) rfl (T.nolimit.keeps F.keep) (codeRec_of XS hcd) rfl hbind hcell hloc (fun h₁ hns hk₁ => ?_) hco hgen hk
  have start := h _ s.heap.objs.size h₁ FG ⟨hns, fun b o e => hk₁ b o (of_hideAll _ e), Nat.le_of_eq (hideAll_size _ _)⟩
    (fun q hq => ⟨hk₁ _ _ (N q hq).1, Nat.ne_of_lt (Heap.lt_size (N q hq).1), hideAll_none _ (List.mem_map_of_mem hq)⟩) BG (X₀.keeps st) (T.keeps st)
    (fun b hb => ⟨oL, es, ep, by rw [only_frame hf hb]; exact hL, hLd⟩)
  refine wpAny_mono start (fun fl s' hl => ?_) fun _ _ y => y
  obtain ⟨g', L', m', news', T', F', N', k⟩ := hl
  obtain ⟨sl, hs⟩ := T'.up hL
  have old : ∀ b o, h₀.get? b = some o → s'.heap.get? b = some o := fun b o e =>
    F'.keep b o (T'.other b o (st b o e) fun q => by rw [only_frame hf q, newL] at e; cases e)
  refine k ⟨⟨_, es, ep, F'.keep _ _ hs, hLd, hLk, hLf⟩, old, F.above⟩ fun q hq => ⟨(N' q hq).1, fun e => ?_, ?_⟩
  · have := (N' q hq).2.2
    rw [e, hs] at this; cases this
  · cases e : h₀.get? q.1 with
    | none => rfl
    | some o =>
      obtain ⟨sl', hs'⟩ := T'.up (st _ _ e)
      have := (N' q hq).2.2
      rw [hs'] at this; cases this
end Mine

end
section
open PySem PySem.W PySem.W.X PyProof.Rows
namespace Mine
local macro_rules | `(tactic| walk_at "pad") => `(tactic| fail "pad")
def kap (t0 t1 t2 t3 t4 t5 t6 t7 t8 : Tok) : Nat → Tok
  | 0 => t0 | 1 => t1 | 2 => t2 | 3 => t3 | 4 => t4 | 5 => t5 | 6 => t6 | 7 => t7 | _ => t8
theorem inT {x : Str} {t u : Tok} {w : World} {A : Around} {E : Value → Shared → Prop} {s : Shared} {Q : Value → Shared → Prop} (hm : 33 ∈ x.cps.toList) (h : Q (.bool true) s) : wpAny (model PR w) A (compareOp .In (.str (Str.ofString "!") u) (.str x t)) Q E s := in_bang (by rw [decide_eq_true hm]; exact h)
theorem inF {x : Str} {t u : Tok} {w : World} {A : Around} {E : Value → Shared → Prop} {s : Shared} {Q : Value → Shared → Prop} (hm : 33 ∉ x.cps.toList) (h : Q (.bool false) s) : wpAny (model PR w) A (compareOp .In (.str (Str.ofString "!") u) (.str x t)) Q E s := in_bang (by rw [decide_eq_false hm]; exact h)
theorem nobang5 {a b c d : Nat} (h1 : 33 ≠ a) (h2 : 33 ≠ b) (h3 : 33 ≠ c) (h4 : 33 ≠ d) : 33 ∉ (⟨#[a, b, 58, c, d]⟩ : Str).cps.toList := by
  show 33 ∉ [a, b, 58, c, d]
  simp only [List.mem_cons, List.not_mem_nil, or_false, not_or]; exact ⟨h1, h2, by decide, h3, h4⟩
theorem nobang2 {a b : Nat} (h1 : 33 ≠ a) (h2 : 33 ≠ b) : 33 ∉ (⟨#[a, b]⟩ : Str).cps.toList := by
  show 33 ∉ [a, b]
  simp only [List.mem_cons, List.not_mem_nil, or_false, not_or]; exact ⟨h1, h2⟩
theorem bang1 {a b : Nat} {l : List Nat} : 33 ∈ (⟨(a :: b :: 39 :: 33 :: l).toArray⟩ : Str).cps.toList := by
  show 33 ∈ a :: b :: 39 :: 33 :: l
  simp
theorem bang3 {a b c d : Nat} {l : List Nat} : 33 ∈ (⟨(a :: b :: c :: d :: 39 :: 33 :: l).toArray⟩ : Str).cps.toList := by
  show 33 ∈ a :: b :: c :: d :: 39 :: 33 :: l
  simp
theorem news_two {h₀ h : Heap} {L : Addr} {x d : Addr} {o q : Obj} {l news : List (Addr × Obj)} (N : News h₀ L h l) (hx : (x, o) ∈ l) (hd : (d, q) ∈ l) (hs : ∀ p ∈ news, p ∈ l) : News h₀ L h ((x, o) :: (d, q) :: news) := fun p hp => by
  rcases List.mem_cons.mp hp with rfl | hp
  · exact N _ hx
  · rcases List.mem_cons.mp hp with rfl | hp
    · exact N _ hd
    · exact N _ (hs _ hp)
theorem lts {x d : Addr} {news : List (Addr × Obj)} (h : ∀ p ∈ news, p.1 < d) (h2 : d < x) : AllLt d news ∧ AllLt x news ∧ d < x := ⟨allLt_of h, allLt_of fun p hp => Nat.lt_trans (h p hp) h2, h2⟩
local macro_rules | `(tactic| walk_at "my_mem") => `(tactic| (repeat (first | exact List.Mem.head _ | refine List.Mem.tail _ ?_)))
local macro_rules | `(tactic| k_all) => `(tactic| assumption)
local macro_rules | `(tactic| k_mem) => `(tactic| assumption)
local macro_rules | `(tactic| walk_at "my_lt") => `(tactic| (rename (@LT.lt Nat _ _ _ ∧ _) => lz; (repeat (first | exact lz | replace lz := lz.2))))
local macro_rules | `(tactic| walk_at "call ref") => `(tactic| (k_here; (with_reducible show wpAny _ _ (PySem.call (Value.ref 80) _) _ _ _); k_dflt (first
  | ((with_reducible refine' rtS5_I ?q1 ?q2 ?q3 ?B ?F ?X ?T ?z0 ?z1 ?z2 ?z3 ?N ?_); (case B => k_asm); (case F => k_asm); (case X => assumption); (case T => assumption); (case z0 => assumption); (case z1 => assumption); (case z2 => assumption); (case z3 => assumption); (case N => k_asm); (case q1 => rfl); (case q2 => exact Nat.le_of_ble_eq_true rfl); (case q3 => exact Nat.le_of_ble_eq_true rfl); k_whole; intro t' b' k' k0 k1 k2 k3 h' tk' F' N' l1 l2 l3; (try simp only [AllLt, and_true] at l1); (try simp only [AllLt, and_true] at l3))
  | ((with_reducible refine' rtS2_I ?q1 ?q2 ?q3 ?B ?F ?X ?T ?z0 ?z1 ?N ?_); (case B => k_asm); (case F => k_asm); (case X => assumption); (case T => assumption); (case z0 => assumption); (case z1 => assumption); (case N => k_asm); (case q1 => rfl); (case q2 => exact Nat.le_of_ble_eq_true rfl); (case q3 => exact Nat.le_of_ble_eq_true rfl); k_whole; intro t' b' k' k0 k1 k2 k3 h' tk' F' N' l1 l2 l3; (try simp only [AllLt, and_true] at l1); (try simp only [AllLt, and_true] at l3))
  | ((with_reducible refine' rta5_I ?q1 ?q2 ?q3 ?B ?F ?X ?T ?z0 ?z1 ?z2 ?z3 ?N ?_); (case B => k_asm); (case F => k_asm); (case X => assumption); (case T => assumption); (case z0 => assumption); (case z1 => assumption); (case z2 => assumption); (case z3 => assumption); (case N => k_asm); (case q1 => rfl); (case q2 => exact Nat.le_of_ble_eq_true rfl); (case q3 => exact Nat.le_of_ble_eq_true rfl); k_whole; intro t' b' k' k0 k1 k2 k3 h' tk' F' N' l1 l2 l3; (try simp only [AllLt, and_true] at l1); (try simp only [AllLt, and_true] at l3))
  | ((with_reducible refine' rta2_I ?q1 ?q2 ?q3 ?B ?F ?X ?T ?z0 ?z1 ?N ?_); (case B => k_asm); (case F => k_asm); (case X => assumption); (case T => assumption); (case z0 => assumption); (case z1 => assumption); (case N => k_asm); (case q1 => rfl); (case q2 => exact Nat.le_of_ble_eq_true rfl); (case q3 => exact Nat.le_of_ble_eq_true rfl); k_whole; intro t' b' k' k0 k1 k2 k3 h' tk' F' N' l1 l2 l3; (try simp only [AllLt, and_true] at l1); (try simp only [AllLt, and_true] at l3))
  | ((with_reducible refine' rtT5_I ?q1 ?q2 ?q3 ?B ?F ?X ?T ?z0 ?z1 ?z2 ?z3 ?N ?_); (case B => k_asm); (case F => k_asm); (case X => assumption); (case T => assumption); (case z0 => assumption); (case z1 => assumption); (case z2 => assumption); (case z3 => assumption); (case N => k_asm); (case q1 => rfl); (case q2 => exact Nat.le_of_ble_eq_true rfl); (case q3 => exact Nat.le_of_ble_eq_true rfl); k_whole; intro t' b' k' k0 k1 k2 k3 h' tk' F' N' l1 l2 l3; (try simp only [AllLt, and_true] at l1); (try simp only [AllLt, and_true] at l3))
  | ((with_reducible refine' rtT2_I ?q1 ?q2 ?q3 ?B ?F ?X ?T ?z0 ?z1 ?N ?_); (case B => k_asm); (case F => k_asm); (case X => assumption); (case T => assumption); (case z0 => assumption); (case z1 => assumption); (case N => k_asm); (case q1 => rfl); (case q2 => exact Nat.le_of_ble_eq_true rfl); (case q3 => exact Nat.le_of_ble_eq_true rfl); k_whole; intro t' b' k' k0 k1 k2 k3 h' tk' F' N' l1 l2 l3; (try simp only [AllLt, and_true] at l1); (try simp only [AllLt, and_true] at l3)))))
local macro_rules | `(tactic| walk_at "call ref") => `(tactic| (k_here; (with_reducible show wpAny _ _ (PySem.call (Value.ref 73) _) _ _ _); k_dflt (first
  | ((with_reducible refine' rb5_I ?q1 ?q2 ?q3 ?B ?F ?X ?T ?z0 ?z1 ?z2 ?z3 ?N ?_); (case B => k_asm); (case F => k_asm); (case X => assumption); (case T => assumption); (case z0 => assumption); (case z1 => assumption); (case z2 => assumption); (case z3 => assumption); (case N => k_asm); (case q1 => rfl); (case q2 => exact Nat.le_of_ble_eq_true rfl); (case q3 => exact Nat.le_of_ble_eq_true rfl); k_whole; intro t' k0 k1 k2 k3 h' tk' F' N' l1; (try simp only [AllLt, and_true] at l1))
  | ((with_reducible refine' rb2_I ?q1 ?q2 ?q3 ?B ?F ?X ?T ?z0 ?z1 ?N ?_); (case B => k_asm); (case F => k_asm); (case X => assumption); (case T => assumption); (case z0 => assumption); (case z1 => assumption); (case N => k_asm); (case q1 => rfl); (case q2 => exact Nat.le_of_ble_eq_true rfl); (case q3 => exact Nat.le_of_ble_eq_true rfl); k_whole; intro t' k0 k1 k2 k3 h' tk' F' N' l1; (try simp only [AllLt, and_true] at l1)))))
local macro_rules | `(tactic| walk_at "compareOp In str str") => `(tactic| (k_here; (first
  | with_reducible refine' inT bang1 ?_
  | with_reducible refine' inT bang3 ?_
  | with_reducible refine' inF (nobang5 (lc33 (by assumption)) (dg33 (by assumption)) (lc33 (by assumption)) (dg33 (by assumption))) ?_
  | with_reducible refine' inF (nobang2 (lc33 (by assumption)) (dg33 (by assumption))) ?_); k_whole))
set_option maxRecDepth 100000 in
set_option maxHeartbeats 4000000 in
theorem cr05_K {w : World} {outer : List Env} {base h₀ : Heap} {L a : Addr} {cl : List (Str × Addr)} {cn : Str} {nms : List (Str × NameKind)} {ig ic : Bool} {mo} {ccd : Value} {m mg mb : Str → Option Value} {news : List (Addr × Obj)} {s : Shared} {p : Program} {loose : List Str} {mean : ExcName → Option Value} {Q : Value → Shared → Prop} {E : Value → Shared → Prop} {c1 r1 c2 r2 : Int} {tk : Tok}
  (B : Below (AK 670 2700 outer) base outer h₀) (F : Fr h₀ L s.heap m) (X₀ : (hd.heap_39 w.params).In h₀) (T : Top p loose mean mg mb h₀) (h1c : 1 ≤ c1 ∧ c1 ≤ 5) (h1r : 1 ≤ r1 ∧ r1 ≤ 5) (h2c : 1 ≤ c2 ∧ c2 ≤ 5) (h2r : 1 ≤ r2 ∧ r2 ≤ 5) (hc : c1 ≤ c2) (hr : r1 ≤ r2) (N : News h₀ L s.heap news)
  (hQ : ∀ x dx κ h' tk', Fr h₀ L h' m → News h₀ L h' ((x, instObj 349 dx) :: (dx, crD w κ c1 r1 c2 r2 .none) :: news) → (AllLt dx news ∧ AllLt x news ∧ dx < x) → Q (.ref x) { s with heap := h', toks := tk' }) :
  wpAny (model PR w) ((AK 670 2700 outer).deeper (envX cn ⟨.function, nms, ig, ic, mo⟩ L a ccd cl)) (PySem.call (.ref 349) [.str ⟨#[lc c1, dg r1, 58, lc c2, dg r2]⟩ tk]) Q E s := by
  have F' := F
  w_strict k_steps
  all_goals (refine' hQ _ _ (kap _ _ _ _ _ _ _ _ _) _ _ ?F (news_two ?N ?hx ?hd ?hs) ?l1; (case F => assumption); (case N => assumption); (case hx => walk_at "my_mem"); (case hd => walk_at "my_mem"); (case hs => (intro p hp; (repeat (first | exact hp | refine List.Mem.tail _ ?_)))); (case l1 => exact lts (by assumption) (by assumption)))
set_option maxRecDepth 100000 in
set_option maxHeartbeats 4000000 in
theorem crS5_K {w : World} {outer : List Env} {base h₀ : Heap} {L a : Addr} {cl : List (Str × Addr)} {cn : Str} {nms : List (Str × NameKind)} {ig ic : Bool} {mo} {ccd : Value} {m mg mb : Str → Option Value} {news : List (Addr × Obj)} {s : Shared} {p : Program} {loose : List Str} {mean : ExcName → Option Value} {Q : Value → Shared → Prop} {E : Value → Shared → Prop} {c1 r1 c2 r2 : Int} {tk : Tok}
  (B : Below (AK 670 2700 outer) base outer h₀) (F : Fr h₀ L s.heap m) (X₀ : (hd.heap_39 w.params).In h₀) (T : Top p loose mean mg mb h₀) (h1c : 1 ≤ c1 ∧ c1 ≤ 5) (h1r : 1 ≤ r1 ∧ r1 ≤ 5) (h2c : 1 ≤ c2 ∧ c2 ≤ 5) (h2r : 1 ≤ r2 ∧ r2 ≤ 5) (hc : c1 ≤ c2) (hr : r1 ≤ r2) (N : News h₀ L s.heap news)
  (hQ : ∀ x dx κ k h' tk', Fr h₀ L h' m → News h₀ L h' ((x, instObj 349 dx) :: (dx, crD w κ c1 r1 c2 r2 (.str ⟨#[83]⟩ k)) :: news) → (AllLt dx news ∧ AllLt x news ∧ dx < x) → Q (.ref x) { s with heap := h', toks := tk' }) :
  wpAny (model PR w) ((AK 670 2700 outer).deeper (envX cn ⟨.function, nms, ig, ic, mo⟩ L a ccd cl)) (PySem.call (.ref 349) [.str ⟨#[39, 83, 39, 33, lc c1, dg r1, 58, lc c2, dg r2]⟩ tk]) Q E s := by
  have F' := F
  w_strict k_steps
  all_goals (refine' hQ _ _ (kap _ _ _ _ _ _ _ _ _) _ _ _ ?F (news_two ?N ?hx ?hd ?hs) ?l1; (case F => assumption); (case N => assumption); (case hx => walk_at "my_mem"); (case hd => walk_at "my_mem"); (case hs => (intro p hp; (repeat (first | exact hp | refine List.Mem.tail _ ?_)))); (case l1 => exact lts (by assumption) (by assumption)))
set_option maxRecDepth 100000 in
set_option maxHeartbeats 4000000 in
theorem cra5_K {w : World} {outer : List Env} {base h₀ : Heap} {L a : Addr} {cl : List (Str × Addr)} {cn : Str} {nms : List (Str × NameKind)} {ig ic : Bool} {mo} {ccd : Value} {m mg mb : Str → Option Value} {news : List (Addr × Obj)} {s : Shared} {p : Program} {loose : List Str} {mean : ExcName → Option Value} {Q : Value → Shared → Prop} {E : Value → Shared → Prop} {c1 r1 c2 r2 : Int} {tk : Tok}
  (B : Below (AK 670 2700 outer) base outer h₀) (F : Fr h₀ L s.heap m) (X₀ : (hd.heap_39 w.params).In h₀) (T : Top p loose mean mg mb h₀) (h1c : 1 ≤ c1 ∧ c1 ≤ 5) (h1r : 1 ≤ r1 ∧ r1 ≤ 5) (h2c : 1 ≤ c2 ∧ c2 ≤ 5) (h2r : 1 ≤ r2 ∧ r2 ≤ 5) (hc : c1 ≤ c2) (hr : r1 ≤ r2) (N : News h₀ L s.heap news)
  (hQ : ∀ x dx κ k h' tk', Fr h₀ L h' m → News h₀ L h' ((x, instObj 349 dx) :: (dx, crD w κ c1 r1 c2 r2 (.str ⟨#[97, 32, 98]⟩ k)) :: news) → (AllLt dx news ∧ AllLt x news ∧ dx < x) → Q (.ref x) { s with heap := h', toks := tk' }) :
  wpAny (model PR w) ((AK 670 2700 outer).deeper (envX cn ⟨.function, nms, ig, ic, mo⟩ L a ccd cl)) (PySem.call (.ref 349) [.str ⟨#[39, 97, 32, 98, 39, 33, lc c1, dg r1, 58, lc c2, dg r2]⟩ tk]) Q E s := by
  have F' := F
  w_strict k_steps
  all_goals (refine' hQ _ _ (kap _ _ _ _ _ _ _ _ _) _ _ _ ?F (news_two ?N ?hx ?hd ?hs) ?l1; (case F => assumption); (case N => assumption); (case hx => walk_at "my_mem"); (case hd => walk_at "my_mem"); (case hs => (intro p hp; (repeat (first | exact hp | refine List.Mem.tail _ ?_)))); (case l1 => exact lts (by assumption) (by assumption)))
set_option maxRecDepth 100000 in
set_option maxHeartbeats 4000000 in
theorem crT5_K {w : World} {outer : List Env} {base h₀ : Heap} {L a : Addr} {cl : List (Str × Addr)} {cn : Str} {nms : List (Str × NameKind)} {ig ic : Bool} {mo} {ccd : Value} {m mg mb : Str → Option Value} {news : List (Addr × Obj)} {s : Shared} {p : Program} {loose : List Str} {mean : ExcName → Option Value} {Q : Value → Shared → Prop} {E : Value → Shared → Prop} {c1 r1 c2 r2 : Int} {tk : Tok}
  (B : Below (AK 670 2700 outer) base outer h₀) (F : Fr h₀ L s.heap m) (X₀ : (hd.heap_39 w.params).In h₀) (T : Top p loose mean mg mb h₀) (h1c : 1 ≤ c1 ∧ c1 ≤ 5) (h1r : 1 ≤ r1 ∧ r1 ≤ 5) (h2c : 1 ≤ c2 ∧ c2 ≤ 5) (h2r : 1 ≤ r2 ∧ r2 ≤ 5) (hc : c1 ≤ c2) (hr : r1 ≤ r2) (N : News h₀ L s.heap news)
  (hQ : ∀ x dx κ k h' tk', Fr h₀ L h' m → News h₀ L h' ((x, instObj 349 dx) :: (dx, crD w κ c1 r1 c2 r2 (.str ⟨#[84, 33, 120]⟩ k)) :: news) → (AllLt dx news ∧ AllLt x news ∧ dx < x) → Q (.ref x) { s with heap := h', toks := tk' }) :
  wpAny (model PR w) ((AK 670 2700 outer).deeper (envX cn ⟨.function, nms, ig, ic, mo⟩ L a ccd cl)) (PySem.call (.ref 349) [.str ⟨#[39, 84, 33, 120, 39, 33, lc c1, dg r1, 58, lc c2, dg r2]⟩ tk]) Q E s := by
  have F' := F
  w_strict k_steps
  all_goals (refine' hQ _ _ (kap _ _ _ _ _ _ _ _ _) _ _ _ ?F (news_two ?N ?hx ?hd ?hs) ?l1; (case F => assumption); (case N => assumption); (case hx => walk_at "my_mem"); (case hd => walk_at "my_mem"); (case hs => (intro p hp; (repeat (first | exact hp | refine List.Mem.tail _ ?_)))); (case l1 => exact lts (by assumption) (by assumption)))
set_option maxRecDepth 100000 in
set_option maxHeartbeats 4000000 in
theorem cr02_K {w : World} {outer : List Env} {base h₀ : Heap} {L a : Addr} {cl : List (Str × Addr)} {cn : Str} {nms : List (Str × NameKind)} {ig ic : Bool} {mo} {ccd : Value} {m mg mb : Str → Option Value} {news : List (Addr × Obj)} {s : Shared} {p : Program} {loose : List Str} {mean : ExcName → Option Value} {Q : Value → Shared → Prop} {E : Value → Shared → Prop} {c1 r1 : Int} {tk : Tok}
  (B : Below (AK 670 2700 outer) base outer h₀) (F : Fr h₀ L s.heap m) (X₀ : (hd.heap_39 w.params).In h₀) (T : Top p loose mean mg mb h₀) (h1c : 1 ≤ c1 ∧ c1 ≤ 5) (h1r : 1 ≤ r1 ∧ r1 ≤ 5) (N : News h₀ L s.heap news)
  (hQ : ∀ x dx κ h' tk', Fr h₀ L h' m → News h₀ L h' ((x, instObj 349 dx) :: (dx, crD w κ c1 r1 c1 r1 .none) :: news) → (AllLt dx news ∧ AllLt x news ∧ dx < x) → Q (.ref x) { s with heap := h', toks := tk' }) :
  wpAny (model PR w) ((AK 670 2700 outer).deeper (envX cn ⟨.function, nms, ig, ic, mo⟩ L a ccd cl)) (PySem.call (.ref 349) [.str ⟨#[lc c1, dg r1]⟩ tk]) Q E s := by
  have F' := F
  w_strict k_steps
  all_goals (refine' hQ _ _ (kap _ _ _ _ _ _ _ _ _) _ _ ?F (news_two ?N ?hx ?hd ?hs) ?l1; (case F => assumption); (case N => assumption); (case hx => walk_at "my_mem"); (case hd => walk_at "my_mem"); (case hs => (intro p hp; (repeat (first | exact hp | refine List.Mem.tail _ ?_)))); (case l1 => exact lts (by assumption) (by assumption)))
set_option maxRecDepth 100000 in
set_option maxHeartbeats 4000000 in
theorem crS2_K {w : World} {outer : List Env} {base h₀ : Heap} {L a : Addr} {cl : List (Str × Addr)} {cn : Str} {nms : List (Str × NameKind)} {ig ic : Bool} {mo} {ccd : Value} {m mg mb : Str → Option Value} {news : List (Addr × Obj)} {s : Shared} {p : Program} {loose : List Str} {mean : ExcName → Option Value} {Q : Value → Shared → Prop} {E : Value → Shared → Prop} {c1 r1 : Int} {tk : Tok}
  (B : Below (AK 670 2700 outer) base outer h₀) (F : Fr h₀ L s.heap m) (X₀ : (hd.heap_39 w.params).In h₀) (T : Top p loose mean mg mb h₀) (h1c : 1 ≤ c1 ∧ c1 ≤ 5) (h1r : 1 ≤ r1 ∧ r1 ≤ 5) (N : News h₀ L s.heap news)
  (hQ : ∀ x dx κ k h' tk', Fr h₀ L h' m → News h₀ L h' ((x, instObj 349 dx) :: (dx, crD w κ c1 r1 c1 r1 (.str ⟨#[83]⟩ k)) :: news) → (AllLt dx news ∧ AllLt x news ∧ dx < x) → Q (.ref x) { s with heap := h', toks := tk' }) :
  wpAny (model PR w) ((AK 670 2700 outer).deeper (envX cn ⟨.function, nms, ig, ic, mo⟩ L a ccd cl)) (PySem.call (.ref 349) [.str ⟨#[39, 83, 39, 33, lc c1, dg r1]⟩ tk]) Q E s := by
  have F' := F
  w_strict k_steps
  all_goals (refine' hQ _ _ (kap _ _ _ _ _ _ _ _ _) _ _ _ ?F (news_two ?N ?hx ?hd ?hs) ?l1; (case F => assumption); (case N => assumption); (case hx => walk_at "my_mem"); (case hd => walk_at "my_mem"); (case hs => (intro p hp; (repeat (first | exact hp | refine List.Mem.tail _ ?_)))); (case l1 => exact lts (by assumption) (by assumption)))
set_option maxRecDepth 100000 in
set_option maxHeartbeats 4000000 in
theorem cra2_K {w : World} {outer : List Env} {base h₀ : Heap} {L a : Addr} {cl : List (Str × Addr)} {cn : Str} {nms : List (Str × NameKind)} {ig ic : Bool} {mo} {ccd : Value} {m mg mb : Str → Option Value} {news : List (Addr × Obj)} {s : Shared} {p : Program} {loose : List Str} {mean : ExcName → Option Value} {Q : Value → Shared → Prop} {E : Value → Shared → Prop} {c1 r1 : Int} {tk : Tok}
  (B : Below (AK 670 2700 outer) base outer h₀) (F : Fr h₀ L s.heap m) (X₀ : (hd.heap_39 w.params).In h₀) (T : Top p loose mean mg mb h₀) (h1c : 1 ≤ c1 ∧ c1 ≤ 5) (h1r : 1 ≤ r1 ∧ r1 ≤ 5) (N : News h₀ L s.heap news)
  (hQ : ∀ x dx κ k h' tk', Fr h₀ L h' m → News h₀ L h' ((x, instObj 349 dx) :: (dx, crD w κ c1 r1 c1 r1 (.str ⟨#[97, 32, 98]⟩ k)) :: news) → (AllLt dx news ∧ AllLt x news ∧ dx < x) → Q (.ref x) { s with heap := h', toks := tk' }) :
  wpAny (model PR w) ((AK 670 2700 outer).deeper (envX cn ⟨.function, nms, ig, ic, mo⟩ L a ccd cl)) (PySem.call (.ref 349) [.str ⟨#[39, 97, 32, 98, 39, 33, lc c1, dg r1]⟩ tk]) Q E s := by
  have F' := F
  w_strict k_steps
  all_goals (refine' hQ _ _ (kap _ _ _ _ _ _ _ _ _) _ _ _ ?F (news_two ?N ?hx ?hd ?hs) ?l1; (case F => assumption); (case N => assumption); (case hx => walk_at "my_mem"); (case hd => walk_at "my_mem"); (case hs => (intro p hp; (repeat (first | exact hp | refine List.Mem.tail _ ?_)))); (case l1 => exact lts (by assumption) (by assumption)))
set_option maxRecDepth 100000 in
set_option maxHeartbeats 4000000 in
theorem crT2_K {w : World} {outer : List Env} {base h₀ : Heap} {L a : Addr} {cl : List (Str × Addr)} {cn : Str} {nms : List (Str × NameKind)} {ig ic : Bool} {mo} {ccd : Value} {m mg mb : Str → Option Value} {news : List (Addr × Obj)} {s : Shared} {p : Program} {loose : List Str} {mean : ExcName → Option Value} {Q : Value → Shared → Prop} {E : Value → Shared → Prop} {c1 r1 : Int} {tk : Tok}
  (B : Below (AK 670 2700 outer) base outer h₀) (F : Fr h₀ L s.heap m) (X₀ : (hd.heap_39 w.params).In h₀) (T : Top p loose mean mg mb h₀) (h1c : 1 ≤ c1 ∧ c1 ≤ 5) (h1r : 1 ≤ r1 ∧ r1 ≤ 5) (N : News h₀ L s.heap news)
  (hQ : ∀ x dx κ k h' tk', Fr h₀ L h' m → News h₀ L h' ((x, instObj 349 dx) :: (dx, crD w κ c1 r1 c1 r1 (.str ⟨#[84, 33, 120]⟩ k)) :: news) → (AllLt dx news ∧ AllLt x news ∧ dx < x) → Q (.ref x) { s with heap := h', toks := tk' }) :
  wpAny (model PR w) ((AK 670 2700 outer).deeper (envX cn ⟨.function, nms, ig, ic, mo⟩ L a ccd cl)) (PySem.call (.ref 349) [.str ⟨#[39, 84, 33, 120, 39, 33, lc c1, dg r1]⟩ tk]) Q E s := by
  have F' := F
  w_strict k_steps
  all_goals (refine' hQ _ _ (kap _ _ _ _ _ _ _ _ _) _ _ _ ?F (news_two ?N ?hx ?hd ?hs) ?l1; (case F => assumption); (case N => assumption); (case hx => walk_at "my_mem"); (case hd => walk_at "my_mem"); (case hs => (intro p hp; (repeat (first | exact hp | refine List.Mem.tail _ ?_)))); (case l1 => exact lts (by assumption) (by assumption)))
end Mine

end
section
open PySem PySem.W PySem.W.X PyProof.Rows
namespace Mine
local macro_rules | `(tactic| walk_at "pad") => `(tactic| fail "pad")
local macro_rules | `(tactic| walk_at "pad") => `(tactic| fail "pad")
local macro_rules | `(tactic| k_all) => `(tactic| assumption)
local macro_rules | `(tactic| k_mem) => `(tactic| assumption)
local macro_rules | `(tactic| k_handed) => `(tactic| exact tval_handed _ _)
local macro_rules | `(tactic| walk_at "my_mem") => `(tactic| (repeat (first | exact List.Mem.head _ | refine List.Mem.tail _ ?_)))
set_option maxRecDepth 100000 in
set_option maxHeartbeats 4000000 in
theorem crk_K {w : World} {outer : List Env} {base h₀ : Heap} {L a : Addr} {cn : Str} {nms : List (Str × NameKind)} {ig ic : Bool} {mo} {ccd : Value} {m mg mb : Str → Option Value} {news : List (Addr × Obj)} {s : Shared} {p : Program} {loose : List Str} {mean : ExcName → Option Value} {Q : Value → Shared → Prop} {E : Value → Shared → Prop} {c1 r1 c2 r2 v : Int} {t1 t2 t3 t4 k : Tok}
  (B : Below (AK 670 2700 outer) base outer h₀) (F : Fr h₀ L s.heap m) (X₀ : (hd.heap_39 w.params).In h₀) (T : Top p loose mean mg mb h₀) (hc : c1 ≤ c2) (hr : r1 ≤ r2) (N : News h₀ L s.heap news)
  (hQ : ∀ x dx κ h' tk', Fr h₀ L h' m → News h₀ L h' ((x, instObj 349 dx) :: (dx, crD w κ c1 r1 c2 r2 (tval v k)) :: news) → (AllLt dx news ∧ AllLt x news ∧ dx < x) → Q (.ref x) { s with heap := h', toks := tk' }) :
  wpAny (model PR w) ((AK 670 2700 outer).deeper (envOf cn ⟨.function, nms, ig, ic, mo⟩ L a ccd)) (PySem.call (.ref 349) [] [("min_col", .int c1 t1), ("min_row", .int r1 t2), ("max_col", .int c2 t3), ("max_row", .int r2 t4), ("title", tval v k)]) Q E s := by
  have F' := F
  w_strict k_steps
  all_goals (refine' hQ _ _ (kap _ _ _ _ _ _ _ _ _) _ _ ?F (news_two ?N ?hx ?hd ?hs) ?l1; (case F => assumption); (case N => assumption); (case hx => walk_at "my_mem"); (case hd => walk_at "my_mem"); (case hs => (intro p hp; (repeat (first | exact hp | refine List.Mem.tail _ ?_)))); (case l1 => exact lts (by assumption) (by assumption)))
set_option maxRecDepth 100000 in
set_option maxHeartbeats 4000000 in
theorem crn_K {w : World} {outer : List Env} {base h₀ : Heap} {L a : Addr} {cn : Str} {nms : List (Str × NameKind)} {ig ic : Bool} {mo} {ccd : Value} {m mg mb : Str → Option Value} {news : List (Addr × Obj)} {s : Shared} {p : Program} {loose : List Str} {mean : ExcName → Option Value} {Q : Value → Shared → Prop} {E : Value → Shared → Prop} {c1 r1 c2 r2 v : Int} {t1 t2 t3 t4 k : Tok}
  (B : Below (AK 670 2700 outer) base outer h₀) (F : Fr h₀ L s.heap m) (X₀ : (hd.heap_39 w.params).In h₀) (T : Top p loose mean mg mb h₀) (hc : c1 ≤ c2) (hr : r1 ≤ r2) (N : News h₀ L s.heap news)
  (hQ : ∀ x dx κ h' tk', Fr h₀ L h' m → News h₀ L h' ((x, instObj 349 dx) :: (dx, crD w κ c1 r1 c2 r2 .none) :: news) → (AllLt dx news ∧ AllLt x news ∧ dx < x) → Q (.ref x) { s with heap := h', toks := tk' }) :
  wpAny (model PR w) ((AK 670 2700 outer).deeper (envOf cn ⟨.function, nms, ig, ic, mo⟩ L a ccd)) (PySem.call (.ref 349) [] [("min_col", .int c1 t1), ("min_row", .int r1 t2), ("max_col", .int c2 t3), ("max_row", .int r2 t4)]) Q E s := by
  have F' := F
  w_strict k_steps
  all_goals (refine' hQ _ _ (kap _ _ _ _ _ _ _ _ _) _ _ ?F (news_two ?N ?hx ?hd ?hs) ?l1; (case F => assumption); (case N => assumption); (case hx => walk_at "my_mem"); (case hd => walk_at "my_mem"); (case hs => (intro p hp; (repeat (first | exact hp | refine List.Mem.tail _ ?_)))); (case l1 => exact lts (by assumption) (by assumption)))
end Mine

end
section
open PySem PySem.W PySem.W.X PyProof.Rows
namespace Mine
def preL (v : Int) : List Nat := if v = 0 then [] else 39 :: (tnm v ++ [39, 33])
def cellsR (c1 r1 c2 r2 : Int) : List Nat := if c1 = c2 ∧ r1 = r2 then [lc c1, dg r1] else [lc c1, dg r1, 58, lc c2, dg r2]
def txtR (v c1 r1 c2 r2 : Int) : List Nat := preL v ++ cellsR c1 r1 c2 r2
theorem crk_C {A : Around} {w : World} {outer : List Env} {base h₀ : Heap} {L a : Addr} {cn : Str} {nms : List (Str × NameKind)} {ig ic : Bool} {mo} {ccd : Value} {m mg mb : Str → Option Value} {news : List (Addr × Obj)} {s : Shared} {p : Program} {loose : List Str} {mean : ExcName → Option Value} {Q : Value → Shared → Prop} {E : Value → Shared → Prop} {c1 r1 c2 r2 v : Int} {t1 t2 t3 t4 k : Tok}
  (h1 : A.handled = none) (h2 : A.depth ≤ 670) (h5 : A.units ≤ 2700) (B : Below A base outer h₀) (F : Fr h₀ L s.heap m) (X₀ : (hd.heap_39 w.params).In h₀) (T : Top p loose mean mg mb h₀) (hc : c1 ≤ c2) (hr : r1 ≤ r2) (N : News h₀ L s.heap news)
  (hQ : ∀ x dx κ h' tk', Fr h₀ L h' m → News h₀ L h' ((x, instObj 349 dx) :: (dx, crD w κ c1 r1 c2 r2 (tval v k)) :: news) → (AllLt dx news ∧ AllLt x news ∧ dx < x) → Q (.ref x) { s with heap := h', toks := tk' }) :
  wpAny (model PR w) (A.deeper (envOf cn ⟨.function, nms, ig, ic, mo⟩ L a ccd)) (PySem.call (.ref 349) [] [("min_col", .int c1 t1), ("min_row", .int r1 t2), ("max_col", .int c2 t3), ("max_row", .int r2 t4), ("title", tval v k)]) Q E s :=
  to_AK h1 h2 h5 B fun B' => crk_K B' F X₀ T hc hr N hQ
theorem crn_C {A : Around} {w : World} {outer : List Env} {base h₀ : Heap} {L a : Addr} {cn : Str} {nms : List (Str × NameKind)} {ig ic : Bool} {mo} {ccd : Value} {m mg mb : Str → Option Value} {news : List (Addr × Obj)} {s : Shared} {p : Program} {loose : List Str} {mean : ExcName → Option Value} {Q : Value → Shared → Prop} {E : Value → Shared → Prop} {c1 r1 c2 r2 : Int} {t1 t2 t3 t4 : Tok}
  (h1 : A.handled = none) (h2 : A.depth ≤ 670) (h5 : A.units ≤ 2700) (B : Below A base outer h₀) (F : Fr h₀ L s.heap m) (X₀ : (hd.heap_39 w.params).In h₀) (T : Top p loose mean mg mb h₀) (hc : c1 ≤ c2) (hr : r1 ≤ r2) (N : News h₀ L s.heap news)
  (hQ : ∀ x dx κ h' tk', Fr h₀ L h' m → News h₀ L h' ((x, instObj 349 dx) :: (dx, crD w κ c1 r1 c2 r2 (tval 0 0)) :: news) → (AllLt dx news ∧ AllLt x news ∧ dx < x) → Q (.ref x) { s with heap := h', toks := tk' }) :
  wpAny (model PR w) (A.deeper (envOf cn ⟨.function, nms, ig, ic, mo⟩ L a ccd)) (PySem.call (.ref 349) [] [("min_col", .int c1 t1), ("min_row", .int r1 t2), ("max_col", .int c2 t3), ("max_row", .int r2 t4)]) Q E s :=
  to_AK h1 h2 h5 B fun B' => crn_K (v := 0) (k := 0) B' F X₀ T hc hr N hQ
theorem cr05_C {A : Around} {w : World} {outer : List Env} {base h₀ : Heap} {L a : Addr} {cn : Str} {nms : List (Str × NameKind)} {ig ic : Bool} {mo} {ccd : Value} {m mg mb : Str → Option Value} {news : List (Addr × Obj)} {s : Shared} {p : Program} {loose : List Str} {mean : ExcName → Option Value} {Q : Value → Shared → Prop} {E : Value → Shared → Prop} {c1 r1 c2 r2 v : Int} {tk : Tok}
  (h1 : A.handled = none) (h2 : A.depth ≤ 670) (h5 : A.units ≤ 2700) (B : Below A base outer h₀) (F : Fr h₀ L s.heap m) (X₀ : (hd.heap_39 w.params).In h₀) (T : Top p loose mean mg mb h₀) (hz : v = 0) (h1c : 1 ≤ c1 ∧ c1 ≤ 5) (h1r : 1 ≤ r1 ∧ r1 ≤ 5) (h2c : 1 ≤ c2 ∧ c2 ≤ 5) (h2r : 1 ≤ r2 ∧ r2 ≤ 5) (hc : c1 ≤ c2) (hr : r1 ≤ r2) (N : News h₀ L s.heap news)
  (hQ : ∀ x dx κ k h' tk', Fr h₀ L h' m → News h₀ L h' ((x, instObj 349 dx) :: (dx, crD w κ c1 r1 c2 r2 (tval v k)) :: news) → (AllLt dx news ∧ AllLt x news ∧ dx < x) → Q (.ref x) { s with heap := h', toks := tk' }) :
  wpAny (model PR w) (A.deeper (envOf cn ⟨.function, nms, ig, ic, mo⟩ L a ccd)) (PySem.call (.ref 349) [.str ⟨[lc c1, dg r1, 58, lc c2, dg r2].toArray⟩ tk]) Q E s :=
  to_AK h1 h2 h5 B fun B' => by
    subst hz
    exact cr05_K B' F X₀ T h1c h1r h2c h2r hc hr N fun x dx κ h' tk' F' N' l => hQ x dx κ 0 h' tk' F' N' l
theorem crS5_C {A : Around} {w : World} {outer : List Env} {base h₀ : Heap} {L a : Addr} {cn : Str} {nms : List (Str × NameKind)} {ig ic : Bool} {mo} {ccd : Value} {m mg mb : Str → Option Value} {news : List (Addr × Obj)} {s : Shared} {p : Program} {loose : List Str} {mean : ExcName → Option Value} {Q : Value → Shared → Prop} {E : Value → Shared → Prop} {c1 r1 c2 r2 v : Int} {tk : Tok}
  (h1 : A.handled = none) (h2 : A.depth ≤ 670) (h5 : A.units ≤ 2700) (B : Below A base outer h₀) (F : Fr h₀ L s.heap m) (X₀ : (hd.heap_39 w.params).In h₀) (T : Top p loose mean mg mb h₀) (hv : 0 ≤ v ∧ v ≤ 3) (hz : v ≠ 0) (h1c : 1 ≤ c1 ∧ c1 ≤ 5) (h1r : 1 ≤ r1 ∧ r1 ≤ 5) (h2c : 1 ≤ c2 ∧ c2 ≤ 5) (h2r : 1 ≤ r2 ∧ r2 ≤ 5) (hc : c1 ≤ c2) (hr : r1 ≤ r2) (N : News h₀ L s.heap news)
  (hQ : ∀ x dx κ k h' tk', Fr h₀ L h' m → News h₀ L h' ((x, instObj 349 dx) :: (dx, crD w κ c1 r1 c2 r2 (tval v k)) :: news) → (AllLt dx news ∧ AllLt x news ∧ dx < x) → Q (.ref x) { s with heap := h', toks := tk' }) :
  wpAny (model PR w) (A.deeper (envOf cn ⟨.function, nms, ig, ic, mo⟩ L a ccd)) (PySem.call (.ref 349) [.str ⟨(39 :: (tnm v ++ [39, 33, lc c1, dg r1, 58, lc c2, dg r2])).toArray⟩ tk]) Q E s :=
  to_AK h1 h2 h5 B fun B' => by
    rcases t4 hv with rfl | rfl | rfl | rfl
    · exact absurd rfl hz
    · exact crS5_K B' F X₀ T h1c h1r h2c h2r hc hr N hQ
    · exact cra5_K B' F X₀ T h1c h1r h2c h2r hc hr N hQ
    · exact crT5_K B' F X₀ T h1c h1r h2c h2r hc hr N hQ
theorem crR_C {A : Around} {w : World} {outer : List Env} {base h₀ : Heap} {L a : Addr} {cl : List (Str × Addr)} {cn : Str} {nms : List (Str × NameKind)} {ig ic : Bool} {mo} {ccd : Value} {m mg mb : Str → Option Value} {news : List (Addr × Obj)} {s : Shared} {p : Program} {loose : List Str} {mean : ExcName → Option Value} {Q : Value → Shared → Prop} {E : Value → Shared → Prop} {c1 r1 c2 r2 v : Int} {tk : Tok}
  (h1 : A.handled = none) (h2 : A.depth ≤ 670) (h5 : A.units ≤ 2700) (B : Below A base outer h₀) (F : Fr h₀ L s.heap m) (X₀ : (hd.heap_39 w.params).In h₀) (T : Top p loose mean mg mb h₀) (hv : 0 ≤ v ∧ v ≤ 3) (h1c : 1 ≤ c1 ∧ c1 ≤ 5) (h1r : 1 ≤ r1 ∧ r1 ≤ 5) (h2c : 1 ≤ c2 ∧ c2 ≤ 5) (h2r : 1 ≤ r2 ∧ r2 ≤ 5) (hc : c1 ≤ c2) (hr : r1 ≤ r2) (N : News h₀ L s.heap news)
  (hQ : ∀ x dx κ k h' tk', Fr h₀ L h' m → News h₀ L h' ((x, instObj 349 dx) :: (dx, crD w κ c1 r1 c2 r2 (tval v k)) :: news) → (AllLt dx news ∧ AllLt x news ∧ dx < x) → Q (.ref x) { s with heap := h', toks := tk' }) :
  wpAny (model PR w) (A.deeper (envX cn ⟨.function, nms, ig, ic, mo⟩ L a ccd cl)) (PySem.call (.ref 349) [.str ⟨(txtR v c1 r1 c2 r2).toArray⟩ tk]) Q E s :=
  to_AK h1 h2 h5 B fun B' => by
    unfold txtR cellsR
    split
    · rename_i he
      obtain ⟨rfl, rfl⟩ := he
      rcases t4 hv with rfl | rfl | rfl | rfl
      · exact cr02_K B' F X₀ T h1c h1r N fun x dx κ h' tk' F' N' l => hQ x dx κ 0 h' tk' F' N' l
      · exact crS2_K B' F X₀ T h1c h1r N hQ
      · exact cra2_K B' F X₀ T h1c h1r N hQ
      · exact crT2_K B' F X₀ T h1c h1r N hQ
    · rcases t4 hv with rfl | rfl | rfl | rfl
      · exact cr05_K B' F X₀ T h1c h1r h2c h2r hc hr N fun x dx κ h' tk' F' N' l => hQ x dx κ 0 h' tk' F' N' l
      · exact crS5_K B' F X₀ T h1c h1r h2c h2r hc hr N hQ
      · exact cra5_K B' F X₀ T h1c h1r h2c h2r hc hr N hQ
      · exact crT5_K B' F X₀ T h1c h1r h2c h2r hc hr N hQ
end Mine

end
section
open PySem PySem.W PySem.W.X PyProof.Rows
namespace Mine
local macro_rules | `(tactic| walk_at "pad") => `(tactic| fail "pad")
theorem upd_front {h₀ h : Heap} {L st : Addr} {old : Obj} {news : List (Addr × Obj)} {nf : Obj → List (Addr × Obj)} (N : News h₀ L h news) (U : ∀ o', Upd st old o' news (nf o')) :
    ∃ rest, News h₀ L h ((st, old) :: rest) ∧ (∀ p ∈ rest, p.1 ≠ st) ∧ (∀ p ∈ news, p.1 ≠ st → p ∈ rest) ∧ (∀ p ∈ rest, p ∈ news) ∧ ∀ pre h' o', News h₀ L h' (pre ++ (st, o') :: rest) → News h₀ L h' (pre ++ nf o') := by
  obtain ⟨pre, post, e1, e2, a1, a2⟩ := (U old).split
  refine ⟨pre ++ post, ?_, ?_, ?_, ?_, ?_⟩
  · intro p hp
    refine N p ?_
    rw [e1]
    rcases List.mem_cons.mp hp with rfl | hp
    · exact List.mem_append_right _ (.head _)
    · rcases List.mem_append.mp hp with hp | hp
      · exact List.mem_append_left _ hp
      · exact List.mem_append_right _ (.tail _ hp)
  · intro p hp
    rcases List.mem_append.mp hp with hp | hp
    · exact a1 p hp
    · exact a2 p hp
  · intro p hp hn
    rw [e1] at hp
    rcases List.mem_append.mp hp with hp | hp
    · exact List.mem_append_left _ hp
    · rcases List.mem_cons.mp hp with rfl | hp
      · exact absurd rfl hn
      · exact List.mem_append_right _ hp
  · intro p hp
    rw [e1]
    rcases List.mem_append.mp hp with hp | hp
    · exact List.mem_append_left _ hp
    · exact List.mem_append_right _ (.tail _ hp)
  · intro pre' h' o' N' p hp
    refine N' p ?_
    rcases List.mem_append.mp hp with hp | hp
    · exact List.mem_append_left _ hp
    · refine List.mem_append_right _ ?_
      obtain ⟨q1, q2, f1, f2, b1, b2⟩ := (U o').split
      rw [f2] at hp
      have back : ∀ r, r ∈ news → r.1 ≠ st → r ∈ pre ++ post := by
        intro r hr hn
        rw [e1] at hr
        rcases List.mem_append.mp hr with hr | hr
        · exact List.mem_append_left _ hr
        · rcases List.mem_cons.mp hr with rfl | hr
          · exact absurd rfl hn
          · exact List.mem_append_right _ hr
      rcases List.mem_append.mp hp with hp | hp
      · exact .tail _ (back p (by rw [f1]; exact List.mem_append_left _ hp) (b1 p hp))
      · rcases List.mem_cons.mp hp with rfl | hp
        · exact .head _
        · exact .tail _ (back p (by rw [f1]; exact List.mem_append_right _ (.tail _ hp)) (b2 p hp))
theorem news_five {h₀ h : Heap} {L a1 a2 a3 a4 a5 : Addr} {o1 o2 o3 o4 o5 : Obj} {l news : List (Addr × Obj)} (N : News h₀ L h l) (m1 : (a1, o1) ∈ l) (m2 : (a2, o2) ∈ l) (m3 : (a3, o3) ∈ l) (m4 : (a4, o4) ∈ l) (m5 : (a5, o5) ∈ l) (hs : ∀ p ∈ news, p ∈ l) :
    News h₀ L h ((a1, o1) :: (a2, o2) :: (a3, o3) :: (a4, o4) :: (a5, o5) :: news) := fun p hp => by
  rcases List.mem_cons.mp hp with rfl | hp
  · exact N _ m1
  rcases List.mem_cons.mp hp with rfl | hp
  · exact N _ m2
  rcases List.mem_cons.mp hp with rfl | hp
  · exact N _ m3
  rcases List.mem_cons.mp hp with rfl | hp
  · exact N _ m4
  rcases List.mem_cons.mp hp with rfl | hp
  · exact N _ m5
  · exact N _ (hs _ hp)
abbrev stO (sc : Addr) (pi qi : Int) (t1 t2 : Tok) (n1 : Nat) : Obj := listOf #[.ref sc, .int pi t1, .int qi t2] n1
theorem law_next_C {A : Around} {w : World} {outer : List Env} {base h₀ : Heap} {L a : Addr} {cn : Str} {nms : List (Str × NameKind)} {ig ic : Bool} {mo} {ccd : Value} {m mg mb : Str → Option Value} {news : List (Addr × Obj)} {s : Shared} {p : Program} {loose : List Str} {mean : ExcName → Option Value} {Q : Value → Shared → Prop} {E : Value → Shared → Prop} {st sc : Addr} {items : List Value} {ns : List Int} {n1 n2 : Nat} {pi qi : Int} {t1 t2 tk : Tok} {many : Int} {nf : Obj → List (Addr × Obj)}
  (h1 : A.handled = none) (h2 : A.depth ≤ 600) (h5 : A.units ≤ 2000) (B : Below A base outer h₀) (F : Fr h₀ L s.heap m) (X₀ : (hd.heap_39 w.params).In h₀) (T : Top p loose mean mg mb h₀)
  (hi : IntsAre items ns) (h0 : 0 ≤ pi) (hmany : 0 < many ∧ many ≤ 100) (hq : 0 ≤ qi ∧ qi < 2147483647) (hlen : ns.length ≤ 30) (hne : sc ≠ st) (hsc : (sc, listOf items.toArray n2) ∈ news)
  (U : ∀ o', Upd st (stO sc pi qi t1 t2 n1) o' news (nf o')) (N : News h₀ L s.heap news)
  (hQ : ∀ h' tk' (v pi' qi' : Int) (ta tb tc : Tok) n1', Fr h₀ L h' m → News h₀ L h' (nf (stO sc pi' qi' tb tc n1')) → 0 ≤ v → v < many → 0 ≤ pi' → (0 ≤ qi' ∧ qi' < 2147483647) → Q (.int v ta) { s with heap := h', toks := tk' }) :
  wpAny (model PR w) (A.deeper (envOf cn ⟨.function, nms, ig, ic, mo⟩ L a ccd)) (PySem.call (.ref 367) [.ref st, .int many tk]) Q E s := by
  obtain ⟨rest, N1, a1, a2, _, a3⟩ := upd_front N U
  refine to_AK h1 h2 h5 B fun B' => law_next_K B' F X₀ T (news := rest) (st := st) (sc := sc) (items := items) (ns := ns) (n1 := n1) (n2 := n2) (pi := pi) (qi := qi) (t1 := t1) (t2 := t2) ?_ hi h0 hmany hq hlen ?_ ?_
  · intro p hp
    rcases List.mem_cons.mp hp with rfl | hp
    · exact N1 _ (.head _)
    · rcases List.mem_cons.mp hp with rfl | hp
      · exact N _ hsc
      · exact N1 _ (.tail _ hp)
  · intro p hp
    rcases List.mem_cons.mp hp with rfl | hp
    · exact hne
    · exact a1 p hp
  · intro h' tk' v pi' qi' ta tb tc n1' F' N' g1 g2 g3 g4
    refine hQ h' tk' v pi' qi' ta tb tc n1' F' (a3 [] h' _ ?_) g1 g2 g3 g4
    intro p hp
    rcases List.mem_cons.mp hp with rfl | hp
    · exact N' _ (.head _)
    · exact N' _ (.tail _ (.tail _ hp))
theorem cat_K {w : World} {A : Around} {E : Value → Shared → Prop} {s : Shared} {x y : Str} {l1 l2 l3 : List Nat} {t u : Tok} {Q : Value → Shared → Prop} (hx : x = ⟨l1.toArray⟩) (hy : y = ⟨l2.toArray⟩) (e : l1 ++ l2 = l3) (n1 : l1.length ≤ 1000) (n2 : l2.length ≤ 1000)
    (h : ∀ t' k, Q (.str ⟨l3.toArray⟩ t') { s with toks := k }) : wpAny (model PR w) A (binaryOp .Add (.str x t) (.str y u)) Q E s := by
  subst hx hy e
  refine KXadd.add (K := 1000) (L := 1000) n1 n2 (by decide) fun t' k _ => ?_
  have e : ((⟨l1.toArray⟩ : Str) ++ (⟨l2.toArray⟩ : Str)) = ⟨(l1 ++ l2).toArray⟩ := PySem.Str.ext' (by rw [PySem.Str.cps_append]; simp)
  rw [e]; exact h t' k
theorem lit_q : (Str.ofString "'") = ⟨[39].toArray⟩ := by kernel_rfl
theorem lit_qb : (Str.ofString "'!") = ⟨[39, 33].toArray⟩ := by kernel_rfl
theorem lit_c : (Str.ofString ":") = ⟨[58].toArray⟩ := by kernel_rfl
theorem lit_0 : Str.empty = ⟨[].toArray⟩ := rfl
theorem lit_b : (Str.ofString "!") = ⟨[33].toArray⟩ := by kernel_rfl
theorem lit_e : (Str.ofString "") = ⟨[].toArray⟩ := by kernel_rfl
theorem abcde : (Str.ofString "ABCDE") = ⟨[65, 66, 67, 68, 69].toArray⟩ := by kernel_rfl
section
variable {w : World} {A : Around} {E : Value → Shared → Prop} {s : Shared} {Q : Value → Shared → Prop} {value slice : PySem.Expr}
theorem c5 {c : Int} (h : 1 ≤ c ∧ c ≤ 5) : c = 1 ∨ c = 2 ∨ c = 3 ∨ c = 4 ∨ c = 5 := by omega
theorem abc_K {c : Int} {t u : Tok} (h : 1 ≤ c ∧ c ≤ 5) (hQ : ∀ k n, Q (.str ⟨[lc c].toArray⟩ k) { s with toks := n })
    (hs : subscripted slice false (.str (Str.ofString "ABCDE") t) (.int (c - 1) u) = operate [.str (Str.ofString "ABCDE") t, .int (c - 1) u] (getItem (.str (Str.ofString "ABCDE") t) (.int (c - 1) u)))
    (ht : ∀ r, letTemporaryGo value (.str (Str.ofString "ABCDE") t) r = pure ()) :
    wpAny (model PR w) A (subscriptTail value slice (.str (Str.ofString "ABCDE") t) (.int (c - 1) u)) Q E s := by
  have hl : (Str.ofString "ABCDE").length = 5 := by kernel_rfl
  refine item_str (fitsSsize_of (N := 100) (by omega) (by omega) (by decide)) (by rw [hl]; omega) (by rw [hl]; omega) (fun _ => ?_) hs ht
  have e : Txt.item (Str.ofString "ABCDE") (c - 1) = ⟨[lc c].toArray⟩ := by
    rcases c5 h with rfl | rfl | rfl | rfl | rfl <;> kernel_rfl
  rw [e]; exact hQ _ _
theorem strint_K {r : Int} {t : Tok} (h : 1 ≤ r ∧ r ≤ 5) (hQ : ∀ k n, Q (.str ⟨[dg r].toArray⟩ k) { s with toks := n }) : wpAny (model PR w) A (PySem.call (.type "str") [.int r t]) Q E s := by
  refine str_of_int_fit (N := 6) (by split <;> omega) (by decide +kernel) fun _ => ?_
  have e : (Str.ofString (toString r)) = ⟨[dg r].toArray⟩ := by
    rcases c5 h with rfl | rfl | rfl | rfl | rfl <;> kernel_rfl
  rw [e]; exact hQ _ _
theorem names_K {l : Addr} {v : Int} {u t1 t2 t3 : Tok} {n : Nat} {h₀ : Heap} {L : Addr} {news : List (Addr × Obj)} (N : News h₀ L s.heap news) (hm : (l, listOf #[.none, .str (Str.ofString "S") t1, .str (Str.ofString "a b") t2, .str (Str.ofString "T!x") t3] n) ∈ news)
    (h : 0 ≤ v ∧ v ≤ 3) (hQ : ∀ k, Q (tval v k) s)
    (hs : subscripted slice false (.ref l) (.int v u) = operate [.ref l, .int v u] (getItem (.ref l) (.int v u))) :
    wpAny (model PR w) A (subscriptTail value slice (.ref l) (.int v u)) Q E s := by
  have e1 : (Str.ofString "S") = ⟨#[83]⟩ := by kernel_rfl
  have e2 : (Str.ofString "a b") = ⟨#[97, 32, 98]⟩ := by kernel_rfl
  have e3 : (Str.ofString "T!x") = ⟨#[84, 33, 120]⟩ := by kernel_rfl
  rw [e1, e2, e3] at hm
  refine item_litK (vs := [.none, .str ⟨#[83]⟩ t1, .str ⟨#[97, 32, 98]⟩ t2, .str ⟨#[84, 33, 120]⟩ t3]) ⟨_, (N _ hm).1, rfl, _, rfl⟩ h.1 (by omega) (v := tval v (if v = 1 then t1 else if v = 2 then t2 else t3)) ?_ (hQ _) hs
  rcases t4 h with rfl | rfl | rfl | rfl <;> rfl
theorem catT_K {x : Str} {l1 l3 : List Nat} {v : Int} {t k : Tok} (hx : x = ⟨l1.toArray⟩) (hv : 0 ≤ v ∧ v ≤ 3) (hz : v ≠ 0) (e : l1 ++ tnm v = l3) (n1 : l1.length ≤ 1000)
    (h : ∀ t' n, Q (.str ⟨l3.toArray⟩ t') { s with toks := n }) : wpAny (model PR w) A (binaryOp .Add (.str x t) (tval v k)) Q E s := by
  rw [tvalS hz]
  exact cat_K hx rfl e n1 (by rcases t4 hv with rfl | rfl | rfl | rfl <;> decide) h
theorem len1001 {v : Int} : (39 :: tnm v).length ≤ 1000 := by
  have : (tnm v).length ≤ 3 := by
    unfold tnm; split
    · decide
    · split <;> decide
  simp only [List.length_cons]; omega
theorem len1000 {l : List Nat} {v : Int} (h : l.length ≤ 900) : (39 :: (tnm v ++ l)).length ≤ 1000 := by
  have : (tnm v).length ≤ 3 := by
    unfold tnm; split
    · decide
    · split <;> decide
  simp only [List.length_cons, List.length_append]; omega
end
local macro_rules | `(tactic| k_all) => `(tactic| assumption)
local macro_rules | `(tactic| k_mem) => `(tactic| assumption)
local macro_rules | `(tactic| walk_at "subscriptTail") => `(tactic| (k_here; (with_reducible show wpAny _ _ (subscriptTail _ _ (Value.ref _) (Value.int _ _)) _ _ _); (with_reducible refine' names_K ?N ?m ?h ?_ ?s); (case N => k_asm); (case m => news_mem); (case h => exact ⟨by assumption, by omega⟩); (case s => with_unfolding_all rfl); k_whole; intro k'))
local macro_rules | `(tactic| walk_at "subscriptTail") => `(tactic| (k_here; (with_reducible show wpAny _ _ (subscriptTail _ _ (Value.str _ _) (Value.int _ _)) _ _ _); (with_reducible refine' abc_K ?h ?_ ?s ?t); (case h => omega); (case s => with_unfolding_all rfl); (case t => intro _; with_unfolding_all rfl); k_whole; intro k' n'))
local macro_rules | `(tactic| walk_at "call type:str") => `(tactic| (k_here; (with_reducible show wpAny _ _ (PySem.call _ [Value.int _ _]) _ _ _); (with_reducible refine' strint_K ?h ?_); (case h => omega); k_whole; intro k' n'))
local macro_rules | `(tactic| walk_at "my_mem") => `(tactic| (repeat (first | assumption | exact List.Mem.head _ | refine List.Mem.tail _ ?_)))
local macro_rules | `(tactic| walk_at "my_ord") => `(tactic| (refine ⟨ltN ?_, ltN ?_, ltN ?_, ltN ?_⟩ <;> omega))
local macro_rules | `(tactic| walk_at "my_cat") => `(tactic| with_reducible first | exact lit_q | exact lit_qb | exact lit_c | exact lit_e | exact lit_b | exact lit_0 | rfl)
local macro_rules | `(tactic| walk_at "my_len") => `(tactic| first | exact Nat.le_of_ble_eq_true rfl | exact len1001 | (refine len1000 ?_; exact Nat.le_of_ble_eq_true rfl))
local macro_rules | `(tactic| walk_at "my_app") => `(tactic| (simp only [List.cons_append, List.nil_append, List.append_assoc]; try exact rfl))
local macro_rules | `(tactic| walk_at "binaryOp Add str str") => `(tactic| (k_here; (with_reducible refine' cat_K ?x ?y ?e ?n1 ?n2 ?_); (case x => walk_at "my_cat"); (case y => walk_at "my_cat"); (case e => walk_at "my_app"); (case n1 => walk_at "my_len"); (case n2 => walk_at "my_len"); k_whole; intro k' n'))
local macro_rules | `(tactic| walk_at "binaryOp Add str") => `(tactic| (k_here; (with_reducible refine' catT_K ?x ?v ?z ?e ?n1 ?_); (case x => walk_at "my_cat"); (case v => omega); (case z => omega); (case e => walk_at "my_app"); (case n1 => walk_at "my_len"); k_whole; intro k' n'))
local macro_rules | `(tactic| k_handed) => `(tactic| exact tval_handed _ _)
local macro_rules | `(tactic| walk_at "truthy") => `(tactic| (k_here; (with_reducible show wpAny _ _ (truthy (tval _ _)) _ _ _); (with_reducible refine' truthy_tval ?a1 ?_); (case a1 => first | assumption | omega); k_whole))
local macro_rules | `(tactic| walk_at "compareOp Is none") => `(tactic| (k_here; (with_reducible show wpAny _ _ (compareOp _ (tval _ _) _) _ _ _); (with_reducible refine' isNone_tval ?a1 ?_); (case a1 => first | assumption | omega); k_whole))
local macro_rules | `(tactic| walk_at "compareOp NotEq") => `(tactic| (k_here; (with_reducible show wpAny _ _ (compareOp _ (tval _ _) (tval _ _)) _ _ _); (with_reducible refine' ne_tval ?a1 ?a2 ?_); (case a1 => first | assumption | omega); (case a2 => first | assumption | omega); k_whole))
local macro_rules | `(tactic| walk_at "compareOp Eq") => `(tactic| (k_here; (with_reducible show wpAny _ _ (compareOp _ (tval _ _) (tval _ _)) _ _ _); (with_reducible refine' eq_tval ?a1 ?a2 ?_); (case a1 => first | assumption | omega); (case a2 => first | assumption | omega); k_whole))
local macro_rules | `(tactic| walk_at "call ref") => `(tactic| (k_here; (with_reducible show wpAny _ _ (PySem.call (Value.ref 349) _) _ _ _); k_dflt show wpAny _ _ (PySem.call (Value.ref 349) [Value.str _ _]) _ _ _; k_dflt (first
  | ((with_reducible refine' cr05_C ?q1 ?q2 ?q3 ?B ?F ?X ?T ?z0 ?z1 ?z2 ?z3 ?z4 ?z5 ?z6 ?N ?_); (case B => k_asm); (case F => k_asm); (case X => assumption); (case T => assumption); (case z0 => assumption); (case z1 => omega); (case z2 => omega); (case z3 => omega); (case z4 => omega); (case z5 => omega); (case z6 => omega); (case N => k_asm); (case q1 => rfl); (case q2 => exact Nat.le_of_ble_eq_true rfl); (case q3 => exact Nat.le_of_ble_eq_true rfl); k_whole; intro x' d' κ' k' h' tk' F' N' l1; (try simp only [AllLt, and_true] at l1))
  | ((with_reducible refine' crS5_C ?q1 ?q2 ?q3 ?B ?F ?X ?T ?z0 ?z1 ?z2 ?z3 ?z4 ?z5 ?z6 ?z7 ?N ?_); (case B => k_asm); (case F => k_asm); (case X => assumption); (case T => assumption); (case z0 => omega); (case z1 => omega); (case z2 => omega); (case z3 => omega); (case z4 => omega); (case z5 => omega); (case z6 => omega); (case z7 => omega); (case N => k_asm); (case q1 => rfl); (case q2 => exact Nat.le_of_ble_eq_true rfl); (case q3 => exact Nat.le_of_ble_eq_true rfl); k_whole; intro x' d' κ' k' h' tk' F' N' l1; (try simp only [AllLt, and_true] at l1)))))
local macro_rules | `(tactic| walk_at "call ref") => `(tactic| (k_here; (with_reducible show wpAny _ _ (PySem.call (Value.ref 349) [] _) _ _ _); k_dflt ((refine' crk_C ?q1 ?q2 ?q3 ?B ?F ?X ?T ?c ?r ?N ?_); (case B => k_asm); (case F => k_asm); (case X => assumption); (case T => assumption); (case c => omega); (case r => omega); (case N => k_asm); (case q1 => rfl); (case q2 => exact Nat.le_of_ble_eq_true rfl); (case q3 => exact Nat.le_of_ble_eq_true rfl); k_whole; intro x' d' κ' h' tk' F' N' l1; (try simp only [AllLt, and_true] at l1))))
local macro_rules | `(tactic| walk_at "call ref") => `(tactic| (k_here; (with_reducible show wpAny _ _ (PySem.call (Value.ref 367) _) _ _ _); k_dflt ((with_reducible refine' law_next_C ?q1 ?q2 ?q3 ?B ?F ?X ?T ?i ?g0 ?gm ?gq ?gl ?gn ?gs ?U ?N ?_); (case B => k_asm); (case F => k_asm); (case X => assumption); (case T => assumption); (case N => k_asm); (case U => (intro o'; k_upd)); (case i => assumption); (case gs => walk_at "my_mem"); (case g0 => assumption); (case gm => decide); (case gq => assumption); (case gl => assumption); (case gn => assumption); (case q1 => rfl); (case q2 => exact Nat.le_of_ble_eq_true rfl); (case q3 => exact Nat.le_of_ble_eq_true rfl); k_whole; intro h' tk' v' p' q' ta tb tc n' F' N' g1 g2 g3 g4)))
set_option maxRecDepth 100000 in
set_option maxHeartbeats 4000000 in
theorem lr_K {w : World} {outer : List Env} {base h₀ : Heap} {L a : Addr} {cl : List (Str × Addr)} {cn : Str} {nms : List (Str × NameKind)} {ig ic : Bool} {mo} {ccd : Value} {m mg mb : Str → Option Value} {news : List (Addr × Obj)} {s : Shared} {p : Program} {loose : List Str} {mean : ExcName → Option Value} {Q : Value → Shared → Prop} {E : Value → Shared → Prop} {st sc : Addr} {items : List Value} {ns : List Int} {n1 n2 : Nat} {pi qi : Int} {t1 t2 tk : Tok}
  (B : Below (AK 590 1900 outer) base outer h₀) (F : Fr h₀ L s.heap m) (X₀ : (hd.heap_39 w.params).In h₀) (T : Top p loose mean mg mb h₀) (hi : IntsAre items ns) (h0 : 0 ≤ pi) (hq : 0 ≤ qi ∧ qi < 2147483647) (hlen : ns.length ≤ 30) (hne : sc ≠ st) (hsc : (sc, listOf items.toArray n2) ∈ news) (hst : ∀ p ∈ news, p.1 ≠ st) (N : News h₀ L s.heap ((st, stO sc pi qi t1 t2 n1) :: news))
  (hQ : ∀ tp x dx b κ c1 r1 c2 r2 v k k' j1 j2 j3 j4 pi' qi' ta tb n1' h' tk', Fr h₀ L h' m → News h₀ L h' ((tp, seqO #[.ref x, .ref b, tval v k]) :: (b, tup4 c1 r1 c2 r2 j1 j2 j3 j4) :: (x, instObj 349 dx) :: (dx, crD w κ c1 r1 c2 r2 (tval v k')) :: (st, stO sc pi' qi' ta tb n1') :: news) → (1 ≤ c1 ∧ c1 ≤ 3 ∧ c1 ≤ c2 ∧ c2 ≤ 5 ∧ 1 ≤ r1 ∧ r1 ≤ 3 ∧ r1 ≤ r2 ∧ r2 ≤ 5) → (0 ≤ v ∧ v ≤ 3) → (@LT.lt Nat _ st tp ∧ @LT.lt Nat _ st b ∧ @LT.lt Nat _ st x ∧ @LT.lt Nat _ st dx) → 0 ≤ pi' → (0 ≤ qi' ∧ qi' < 2147483647) → Q (.ref tp) { s with heap := h', toks := tk' }) :
  wpAny (model PR w) ((AK 590 1900 outer).deeper (envX cn ⟨.function, nms, ig, ic, mo⟩ L a ccd cl)) (PySem.call (.ref 374) [.ref st]) Q E s := by
  have F' := F
  refine wpAny_call ?_
  w_strict k_enter
  w_strict k_steps
  all_goals (refine' hQ _ _ _ _ _ _ _ _ _ _ _ _ _ _ _ _ _ _ _ _ _ _ _ ?F (news_five ?N ?m1 ?m2 ?m3 ?m4 ?m5 ?hs) ?e1 ?e2 ?e3 ?e4 ?e5; (case F => assumption); (case N => assumption); (case m1 => walk_at "my_mem"); (case m2 => walk_at "my_mem"); (case m3 => walk_at "my_mem"); (case m4 => walk_at "my_mem"); (case m5 => walk_at "my_mem"); (case hs => (intro p hp; (repeat (first | exact hp | refine List.Mem.tail _ ?_)))); (case e1 => omega); (case e2 => omega); (case e3 => walk_at "my_ord"); (case e4 => assumption); (case e5 => assumption))
end Mine

end
section
open PySem PySem.W PySem.W.X PyProof.Rows
namespace Mine
theorem lr_C {A : Around} {w : World} {outer : List Env} {base h₀ : Heap} {L a : Addr} {cl : List (Str × Addr)} {cn : Str} {nms : List (Str × NameKind)} {ig ic : Bool} {mo} {ccd : Value} {m mg mb : Str → Option Value} {news : List (Addr × Obj)} {s : Shared} {p : Program} {loose : List Str} {mean : ExcName → Option Value} {Q : Value → Shared → Prop} {E : Value → Shared → Prop} {st sc : Addr} {items : List Value} {ns : List Int} {n1 n2 : Nat} {pi qi : Int} {t1 t2 : Tok} {nf : Obj → List (Addr × Obj)}
  (h1 : A.handled = none) (h2 : A.depth ≤ 590) (h5 : A.units ≤ 1900) (B : Below A base outer h₀) (F : Fr h₀ L s.heap m) (X₀ : (hd.heap_39 w.params).In h₀) (T : Top p loose mean mg mb h₀) (hi : IntsAre items ns) (h0 : 0 ≤ pi) (hq : 0 ≤ qi ∧ qi < 2147483647) (hlen : ns.length ≤ 30) (hne : sc ≠ st) (hsc : (sc, listOf items.toArray n2) ∈ news) (U : ∀ o', Upd st (stO sc pi qi t1 t2 n1) o' news (nf o')) (N : News h₀ L s.heap news)
  (hQ : ∀ tp x dx b κ c1 r1 c2 r2 v k k' j1 j2 j3 j4 pi' qi' ta tb n1' h' tk', Fr h₀ L h' m → News h₀ L h' ((tp, seqO #[.ref x, .ref b, tval v k]) :: (b, tup4 c1 r1 c2 r2 j1 j2 j3 j4) :: (x, instObj 349 dx) :: (dx, crD w κ c1 r1 c2 r2 (tval v k')) :: nf (stO sc pi' qi' ta tb n1')) → (1 ≤ c1 ∧ c1 ≤ 3 ∧ c1 ≤ c2 ∧ c2 ≤ 5 ∧ 1 ≤ r1 ∧ r1 ≤ 3 ∧ r1 ≤ r2 ∧ r2 ≤ 5) → (0 ≤ v ∧ v ≤ 3) → (@LT.lt Nat _ st tp ∧ @LT.lt Nat _ st b ∧ @LT.lt Nat _ st x ∧ @LT.lt Nat _ st dx) → 0 ≤ pi' → (0 ≤ qi' ∧ qi' < 2147483647) → Q (.ref tp) { s with heap := h', toks := tk' }) :
  wpAny (model PR w) (A.deeper (envX cn ⟨.function, nms, ig, ic, mo⟩ L a ccd cl)) (PySem.call (.ref 374) [.ref st]) Q E s :=
  to_AK h1 h2 h5 B fun B' => by
    obtain ⟨rest, N1, a1, a2, _, a3⟩ := upd_front N U
    exact lr_K B' F X₀ T (news := rest) (tk := 0) hi h0 hq hlen hne (a2 _ hsc hne) a1 N1 fun tp x dx b κ c1 r1 c2 r2 v k k' j1 j2 j3 j4 pi' qi' ta tb n1' h' tk' F' N' e1 e2 e3 e4 e5 =>
      hQ tp x dx b κ c1 r1 c2 r2 v k k' j1 j2 j3 j4 pi' qi' ta tb n1' h' tk' F' (a3 [(tp, _), (b, _), (x, _), (dx, _)] h' _ N') e1 e2 e3 e4 e5
theorem eq_tval2 {w : World} {A : Around} {E : Value → Shared → Prop} {s : Shared} {v1 v2 : Int} {k1 k2 : Tok} {Q : Value → Shared → Prop} (h1 : 0 ≤ v1 ∧ v1 ≤ 3) (h2 : 0 ≤ v2 ∧ v2 ≤ 3) (q1 : v1 = v2 → Q (.bool true) s) (q2 : v1 ≠ v2 → Q (.bool false) s) : wpAny (model PR w) A (compareOp .Eq (tval v1 k1) (tval v2 k2)) Q E s := by
  refine eq_tval h1 h2 ?_
  by_cases h : v1 = v2
  · rw [decide_eq_true h]; exact q1 h
  · rw [decide_eq_false h]; exact q2 h
theorem take30 {ns : List Int} : (ns.take 30).length ≤ 30 := by rw [List.length_take]; omega
end Mine

end
section
open PySem PySem.W PySem.W.X PyProof.Rows
namespace Mine
local macro_rules | `(tactic| walk_at "pad") => `(tactic| fail "pad")
local macro_rules | `(tactic| walk_at "pad") => `(tactic| fail "pad")
theorem execs_two (pre tail : List Stmt) (env : Env) : execs (pre ++ tail) env = (execs pre env >>= fun f => match f with | .next => execs tail env | g => pure g) := by
  induction pre with
  | nil => rfl
  | cons a pre ih =>
    show execs (a :: (pre ++ tail)) env = _
    rw [execs, execs, bind_assoc]
    refine congrArg _ (funext fun f => ?_)
    cases f with
    | next => exact ih
    | _ => rfl
inductive Done (P : Prop) : Flow → Prop
  | mk (h : P) : Done P .next
theorem execs_cut {M : Model} {A : Around} {env : Env} {pre tail : List Stmt} {Q : Flow → Shared → Prop} {E : Value → Shared → Prop} {s : Shared} (Mid : Shared → Prop)
    (h1 : wpAny M A (execs pre env) (fun fl s' => Done (Mid s') fl) E s) (h2 : ∀ s', Mid s' → wpAny M A (execs tail env) Q E s') : wpAny M A (execs (pre ++ tail) env) Q E s := by
  rw [execs_two]
  refine wpAny_bind (wpAny_mono h1 (fun fl s' hs => ?_) fun _ _ e => e)
  cases hs with
  | mk hm => exact h2 s' hm
theorem news_one {h₀ h : Heap} {L x : Addr} {o : Obj} {l news : List (Addr × Obj)} (N : News h₀ L h l) (hx : (x, o) ∈ l) (hs : ∀ p ∈ news, p ∈ l) : News h₀ L h ((x, o) :: news) := fun p hp => by
  rcases List.mem_cons.mp hp with rfl | hp
  · exact N _ hx
  · exact N _ (hs _ hp)
abbrev St (s : Shared) (h' : Heap) (tk' : Nat) : Shared := { s with heap := h', toks := tk' }
section
variable {M : Model} {A : Around} {env : Env} {tail : List Stmt} {Q : Flow → Shared → Prop} {E : Value → Shared → Prop} {s : Shared} {S1 S2 S3 : Stmt}
  {h₀ : Heap} {L : Addr} {m : Str → Option Value} {news : List (Addr × Obj)} {c1 r1 c2 r2 d1 s1 d2 s2 v1 v2 : Int} {k1 k2 : Tok} {b1 b2 : Addr} {j1 j2 j3 j4 i1 i2 i3 i4 : Tok}
abbrev MidFit (h₀ : Heap) (L : Addr) (m : Str → Option Value) (news : List (Addr × Obj)) (v1 v2 : Int) (s s' : Shared) : Prop :=
  ∃ fb h' tk', s' = St s h' tk' ∧ (fb = true ↔ (v2 = 0 ∨ v1 = v2)) ∧ Fr h₀ L h' (fun y => if y = Str.ofString "fit" then some (.bool fb) else m y) ∧ News h₀ L h' news
theorem cut_fit (F : Fr h₀ L s.heap m) (N : News h₀ L s.heap news) (f3 : m (Str.ofString "name") = some (tval v1 k1)) (f4 : m (Str.ofString "other_name") = some (tval v2 k2))
  (h1 : wpAny M A (execs [S1] env) (fun fl s' => Done (MidFit h₀ L m news v1 v2 s s') fl) E s)
  (h2 : ∀ fb h' tk', (fb = true ↔ (v2 = 0 ∨ v1 = v2)) → Fr h₀ L h' (fun y => if y = Str.ofString "fit" then some (.bool fb) else m y) → News h₀ L h' news → wpAny M A (execs tail env) Q E (St s h' tk')) :
  wpAny M A (execs (S1 :: tail) env) Q E s := by
  refine execs_cut (pre := [S1]) _ h1 fun s' hs => ?_
  obtain ⟨fb, h', tk', rfl, e, F', N'⟩ := hs
  exact h2 fb h' tk' e F' N'
abbrev MidOver (h₀ : Heap) (L : Addr) (m : Str → Option Value) (news : List (Addr × Obj)) (c1 r1 c2 r2 d1 s1 d2 s2 : Int) (s s' : Shared) : Prop :=
  ∃ ov ab u1 u2 u3 u4 h' tk', s' = St s h' tk' ∧ (ab = true ↔ (c2 < d1 ∨ d2 < c1 ∨ r2 < s1 ∨ s2 < r1)) ∧ Fr h₀ L h' (fun y => if y = Str.ofString "apart" then some (.bool ab) else if y = Str.ofString "over" then some (.ref ov) else m y) ∧
   News h₀ L h' ((ov, tup4 (if d1 > c1 then d1 else c1) (if s1 > r1 then s1 else r1) (if d2 < c2 then d2 else c2) (if s2 < r2 then s2 else r2) u1 u2 u3 u4) :: news)
theorem cut_over (F : Fr h₀ L s.heap m) (N : News h₀ L s.heap news) (f1 : m (Str.ofString "first") = some (.ref b1)) (f2 : m (Str.ofString "second") = some (.ref b2)) (n1 : (b1, tup4 c1 r1 c2 r2 j1 j2 j3 j4) ∈ news) (n2 : (b2, tup4 d1 s1 d2 s2 i1 i2 i3 i4) ∈ news)
  (h1 : wpAny M A (execs [S1, S2] env) (fun fl s' => Done (MidOver h₀ L m news c1 r1 c2 r2 d1 s1 d2 s2 s s') fl) E s)
  (h2 : ∀ ov ab u1 u2 u3 u4 h' tk', (ab = true ↔ (c2 < d1 ∨ d2 < c1 ∨ r2 < s1 ∨ s2 < r1)) → Fr h₀ L h' (fun y => if y = Str.ofString "apart" then some (.bool ab) else if y = Str.ofString "over" then some (.ref ov) else m y) →
     News h₀ L h' ((ov, tup4 (if d1 > c1 then d1 else c1) (if s1 > r1 then s1 else r1) (if d2 < c2 then d2 else c2) (if s2 < r2 then s2 else r2) u1 u2 u3 u4) :: news) → wpAny M A (execs tail env) Q E (St s h' tk')) :
  wpAny M A (execs (S1 :: S2 :: tail) env) Q E s := by
  refine execs_cut (pre := [S1, S2]) _ h1 fun s' hs => ?_
  obtain ⟨ov, ab, u1, u2, u3, u4, h', tk', rfl, e, F', N'⟩ := hs
  exact h2 ov ab u1 u2 u3 u4 h' tk' e F' N'
abbrev MidDue (h₀ : Heap) (L : Addr) (m : Str → Option Value) (news : List (Addr × Obj)) (s s' : Shared) : Prop :=
  ∃ dv h' tk', s' = St s h' tk' ∧ Fr h₀ L h' (fun y => if y = Str.ofString "due" then some dv else m y) ∧ News h₀ L h' news
theorem cut_due (F : Fr h₀ L s.heap m) (N : News h₀ L s.heap news)
  (h1 : wpAny M A (execs [S1, S2] env) (fun fl s' => Done (MidDue h₀ L m news s s') fl) E s)
  (h2 : ∀ dv h' tk', Fr h₀ L h' (fun y => if y = Str.ofString "due" then some dv else m y) → News h₀ L h' news → wpAny M A (execs tail env) Q E (St s h' tk')) :
  wpAny M A (execs (S1 :: S2 :: tail) env) Q E s := by
  refine execs_cut (pre := [S1, S2]) _ h1 fun s' hs => ?_
  obtain ⟨dv, h', tk', rfl, F', N'⟩ := hs
  exact h2 dv h' tk' F' N'
abbrev MidSame (h₀ : Heap) (L : Addr) (m : Str → Option Value) (news : List (Addr × Obj)) (s s' : Shared) : Prop :=
  ∃ h' tk', s' = St s h' tk' ∧ Fr h₀ L h' m ∧ News h₀ L h' news
theorem cut_same (F : Fr h₀ L s.heap m) (N : News h₀ L s.heap news)
  (h1 : wpAny M A (execs [S1] env) (fun fl s' => Done (MidSame h₀ L m news s s') fl) E s)
  (h2 : ∀ h' tk', Fr h₀ L h' m → News h₀ L h' news → wpAny M A (execs tail env) Q E (St s h' tk')) :
  wpAny M A (execs (S1 :: tail) env) Q E s := by
  refine execs_cut (pre := [S1]) _ h1 fun s' hs => ?_
  obtain ⟨h', tk', rfl, F', N'⟩ := hs
  exact h2 h' tk' F' N'
abbrev MidText (h₀ : Heap) (L : Addr) (m : Str → Option Value) (news : List (Addr × Obj)) (l : List Nat) (s s' : Shared) : Prop :=
  ∃ pv k h' tk', s' = St s h' tk' ∧ Fr h₀ L h' (fun y => if y = Str.ofString "place" then some pv else if y = Str.ofString "text" then some (.str ⟨l.toArray⟩ k) else m y) ∧ News h₀ L h' news
theorem cut_text (F : Fr h₀ L s.heap m) (N : News h₀ L s.heap news) (f1 : m (Str.ofString "first") = some (.ref b1)) (f3 : m (Str.ofString "name") = some (tval v1 k1)) (n1 : (b1, tup4 c1 r1 c2 r2 j1 j2 j3 j4) ∈ news)
  (h1 : wpAny M A (execs [S1, S2, S3] env) (fun fl s' => Done (MidText h₀ L m news (txtR v1 c1 r1 c2 r2) s s') fl) E s)
  (h2 : ∀ pv k h' tk', Fr h₀ L h' (fun y => if y = Str.ofString "place" then some pv else if y = Str.ofString "text" then some (.str ⟨(txtR v1 c1 r1 c2 r2).toArray⟩ k) else m y) → News h₀ L h' news → wpAny M A (execs tail env) Q E (St s h' tk')) :
  wpAny M A (execs (S1 :: S2 :: S3 :: tail) env) Q E s := by
  refine execs_cut (pre := [S1, S2, S3]) _ h1 fun s' hs => ?_
  obtain ⟨pv, k, h', tk', rfl, F', N'⟩ := hs
  exact h2 pv k h' tk' F' N'
end
end Mine

end
section
open PySem PySem.W PySem.W.X PyProof.Rows
namespace Mine
local macro_rules | `(tactic| walk_at "pad") => `(tactic| fail "pad")
local macro_rules | `(tactic| k_all) => `(tactic| assumption)
local macro_rules | `(tactic| k_mem) => `(tactic| assumption)
local macro_rules | `(tactic| walk_at "my_sub") => `(tactic| (refine news_sub (by assumption) ?_; intro p hp; (repeat (first | exact hp | refine List.Mem.tail _ ?_))))
local macro_rules | `(tactic| walk_at "my_bool") => `(tactic| ((try unfold lex4 at *); (try simp only [decide_eq_true_eq, Bool.false_eq_true, true_iff, false_iff]); omega))

section
variable {w : World} {A : Around} {E : Value → Shared → Prop} {s : Shared} {Q : Value → Shared → Prop} {value slice : PySem.Expr}
theorem ff_int {r : Int} {t : Tok} (h : 1 ≤ r ∧ r ≤ 5) (hQ : ∀ k n, Q (.str ⟨[dg r].toArray⟩ k) { s with toks := n }) : wpAny (model PR w) A (formatField (.int r t) Str.empty) Q E s := by
  refine formatField_int_small (by rcases c5 h with rfl | rfl | rfl | rfl | rfl <;> decide) ?_
  have e : (Str.ofString (toString r)) = ⟨[dg r].toArray⟩ := by
    rcases c5 h with rfl | rfl | rfl | rfl | rfl <;> kernel_rfl
  rw [e]; exact hQ _ _
theorem ff_str {l : List Nat} {t : Tok} (h : l.length ≤ 1000) (hQ : ∀ k n, Q (.str ⟨l.toArray⟩ k) { s with toks := n }) : wpAny (model PR w) A (formatField (.str ⟨l.toArray⟩ t) Str.empty) Q E s :=
  formatField_str hQ (by show l.toArray.size ≤ _; rw [List.size_toArray]; have : sizeLine = 16777216 := rfl; omega)
theorem and_cat {x y : Str} {l1 l2 l3 : List Nat} {rest : List (Sem Value)} (hx : x = ⟨l1.toArray⟩) (hy : y = ⟨l2.toArray⟩) (e : l1 ++ l2 = l3) (n : l3.length ≤ 1000) (h : wpAny (model PR w) A (joinParts ⟨l3.toArray⟩ rest) Q E s) :
    (x ++ y).length ≤ sizeLine ∧ wpAny (model PR w) A (joinParts (x ++ y) rest) Q E s := by
  subst hx hy e
  have e : ((⟨l1.toArray⟩ : Str) ++ (⟨l2.toArray⟩ : Str)) = ⟨(l1 ++ l2).toArray⟩ := PySem.Str.ext' (by rw [PySem.Str.cps_append]; simp)
  rw [e]
  exact ⟨by show (l1 ++ l2).toArray.size ≤ _; rw [List.size_toArray]; have : sizeLine = 16777216 := rfl; omega, h⟩
theorem jp_list {l : List Nat} {env : Env} (n : l.length ≤ 1000) (hQ : ∀ k n, Q (.str ⟨l.toArray⟩ k) { s with toks := n }) : wpAny (model PR w) A (joinParts ⟨l.toArray⟩ (evalEach [] env)) Q E s :=
  joinParts_nil (hQ _ _) (by show l.toArray.size ≤ _; rw [List.size_toArray]; have : sizeLine = 16777216 := rfl; omega)
theorem tx_S1 {v c1 r1 c2 r2 : Int} (hz : v ≠ 0) (h : c1 = c2 ∧ r1 = r2) : txtR v c1 r1 c2 r2 = 39 :: (tnm v ++ [39, 33, lc c1, dg r1]) := by
  unfold txtR preL cellsR; rw [if_neg hz, if_pos h]; simp
theorem tx_S2 {v c1 r1 c2 r2 : Int} (hz : v ≠ 0) (h : ¬ (c1 = c2 ∧ r1 = r2)) : txtR v c1 r1 c2 r2 = 39 :: (tnm v ++ [39, 33, lc c1, dg r1, 58, lc c2, dg r2]) := by
  unfold txtR preL cellsR; rw [if_neg hz, if_neg h]; simp
theorem tx_01 {v c1 r1 c2 r2 : Int} (hz : v = 0) (h : c1 = c2 ∧ r1 = r2) : txtR v c1 r1 c2 r2 = [lc c1, dg r1] := by
  unfold txtR preL cellsR; rw [if_pos hz, if_pos h]; simp
theorem tx_02 {v c1 r1 c2 r2 : Int} (hz : v = 0) (h : ¬ (c1 = c2 ∧ r1 = r2)) : txtR v c1 r1 c2 r2 = [lc c1, dg r1, 58, lc c2, dg r2] := by
  unfold txtR preL cellsR; rw [if_pos hz, if_neg h]; simp
theorem truthy_cons {a : Nat} {l : List Nat} {t : Tok} {Q : Bool → Shared → Prop} (hn : (a :: l).length ≤ 1000) (hQ : ∀ n, Q true { s with toks := n }) : wpAny (model PR w) A (truthy (.str ⟨(a :: l).toArray⟩ t)) Q E s := by
  have hl : (⟨(a :: l).toArray⟩ : Str).length = (a :: l).length := by show (a :: l).toArray.size = _; rw [List.size_toArray]
  refine P.truthy_str (by rw [hl]; omega) ?_
  have e : (((⟨(a :: l).toArray⟩ : Str).length : Int) != 0) = true := by rw [hl, bne_iff_ne, List.length_cons]; omega
  rw [e]; exact hQ _
theorem no_q {v : Int} (h : 0 ≤ v ∧ v ≤ 3) : 39 ∉ tnm v := by rcases t4 h with rfl | rfl | rfl | rfl <;> decide
theorem in_q {v : Int} {k u : Tok} (h : 0 ≤ v ∧ v ≤ 3) (hz : v ≠ 0) (hQ : Q (.bool false) s) : wpAny (model PR w) A (compareOp .In (.str (Str.ofString "'") u) (tval v k)) Q E s := by
  rw [tvalS hz, lit_q]
  have : (!(Builtin.Str.occurrences ⟨(tnm v).toArray⟩ ⟨[39].toArray⟩ 0 (⟨(tnm v).toArray⟩ : Str).length 1).isEmpty) = false := by
    rw [Bool.eq_false_iff]
    intro hh
    obtain ⟨i, h1⟩ := (StrLaws.found_iff _ _).mp hh
    exact no_q h (List.mem_of_getElem? ((StrLaws.subAt_one _ 39 i).mp h1))
  exact P.in_str (by rw [this]; exact hQ)
theorem dec_K {c : Int} {u : Tok} (X : (hd.heap_39 w.params).In s.heap) (h : 1 ≤ c ∧ c ≤ 5) (hQ : ∀ k, Q (.str ⟨[lc c].toArray⟩ k) s)
    (hs : subscripted slice false (.ref 49) (.int c u) = operate [.ref 49, .int c u] (getItem (.ref 49) (.int c u))) :
    wpAny (model PR w) A (subscriptTail value slice (.ref 49) (.int c u)) Q E s := by
  have hQ' : ∀ k x, x = (⟨[lc c].toArray⟩ : Str) → Q (.str x k) s := fun k x e => by rw [e]; exact hQ k
  rcases c5 h with rfl | rfl | rfl | rfl | rfl <;>
    exact item_litK ⟨_, X 49 _ (by k_dflt k_is), rfl, _, rfl⟩ (by decide) (by decide) rfl (hQ' _ _ (by kernel_rfl)) hs
end
section
local macro_rules | `(tactic| x_close) => do let i := Lean.mkIdent `hQ; `(tactic| (exact $i _ _ _ (by kernel_rfl)))
set_option maxRecDepth 100000 in
set_option maxHeartbeats 8000000 in
theorem fmtq1_X {w : World} {h : Heap} {t0 tk : Tok} {g : Array GenState} {d : Drawn} {t : Nat} {os : OsState} {Q : Value → Shared → Prop} {E : Value → Shared → Prop}
   (hQ : ∀ y k t', y = (⟨[39, 83, 39].toArray⟩ : Str) → Q (.str y k) ⟨h, g, d, t', os⟩) :
   wpAny (model PR w) A0 (PySem.call (.builtin "str.format") [.str (Str.ofString "'{0}'") t0, .str ⟨#[83]⟩ tk]) Q E ⟨h, g, d, t, os⟩ := by
  x_run
set_option maxRecDepth 100000 in
set_option maxHeartbeats 8000000 in
theorem fmtq2_X {w : World} {h : Heap} {t0 tk : Tok} {g : Array GenState} {d : Drawn} {t : Nat} {os : OsState} {Q : Value → Shared → Prop} {E : Value → Shared → Prop}
   (hQ : ∀ y k t', y = (⟨[39, 97, 32, 98, 39].toArray⟩ : Str) → Q (.str y k) ⟨h, g, d, t', os⟩) :
   wpAny (model PR w) A0 (PySem.call (.builtin "str.format") [.str (Str.ofString "'{0}'") t0, .str ⟨#[97, 32, 98]⟩ tk]) Q E ⟨h, g, d, t, os⟩ := by
  x_run
set_option maxRecDepth 100000 in
set_option maxHeartbeats 8000000 in
theorem fmtq3_X {w : World} {h : Heap} {t0 tk : Tok} {g : Array GenState} {d : Drawn} {t : Nat} {os : OsState} {Q : Value → Shared → Prop} {E : Value → Shared → Prop}
   (hQ : ∀ y k t', y = (⟨[39, 84, 33, 120, 39].toArray⟩ : Str) → Q (.str y k) ⟨h, g, d, t', os⟩) :
   wpAny (model PR w) A0 (PySem.call (.builtin "str.format") [.str (Str.ofString "'{0}'") t0, .str ⟨#[84, 33, 120]⟩ tk]) Q E ⟨h, g, d, t, os⟩ := by
  x_run
end
theorem fmtq_K {w : World} {A : Around} {s : Shared} {v : Int} {t0 k : Tok} {Q : Value → Shared → Prop} {E : Value → Shared → Prop}
   (h1 : A.handled = none) (h2 : A.depth ≤ 900) (h5 : A.units + 1 ≤ 8000) (hv : 0 ≤ v ∧ v ≤ 3) (hz : v ≠ 0)
   (hQ : ∀ k t', Q (.str ⟨(39 :: (tnm v ++ [39])).toArray⟩ k) { s with toks := t' }) : wpAny (model PR w) A (PySem.call (.builtin "str.format") [.str (Str.ofString "'{0}'") t0, tval v k]) Q E s := by
  obtain ⟨h, g, d, t, os⟩ := s
  refine wp_weaken (A' := A0) h1 h2 (fun l hl => by cases hl) rfl (by show A.units ≤ 8000; omega) ?_
  rcases t4 hv with rfl | rfl | rfl | rfl
  · exact absurd rfl hz
  · exact fmtq1_X fun y k t' e => by rw [e]; exact hQ k t'
  · exact fmtq2_X fun y k t' e => by rw [e]; exact hQ k t'
  · exact fmtq3_X fun y k t' e => by rw [e]; exact hQ k t'
local macro_rules | `(tactic| walk_at "compareOp In str") => `(tactic| (k_here; (with_reducible refine' in_q ?h ?z ?_); (case h => assumption); (case z => assumption); k_whole))
local macro_rules | `(tactic| walk_at "call builtin:str.format") => `(tactic| (k_here; k_dflt show wpAny _ _ (PySem.call (Value.builtin "str.format") [Value.str _ _, tval _ _]) _ _ _; k_dflt ((with_reducible refine' fmtq_K ?q1 ?q2 ?q3 ?v ?z ?_); (case q1 => rfl); (case q2 => exact Nat.le_of_ble_eq_true rfl); (case q3 => exact Nat.le_of_ble_eq_true rfl); (case v => assumption); (case z => assumption); k_whole; intro k' n')))
local macro_rules | `(tactic| walk_at "my_cat") => `(tactic| with_reducible first | exact lit_q | exact lit_qb | exact lit_c | exact lit_e | exact lit_b | exact lit_0 | rfl)
local macro_rules | `(tactic| walk_at "my_len") => `(tactic| first | exact Nat.le_of_ble_eq_true rfl | exact len1001 | (refine len1000 ?_; exact Nat.le_of_ble_eq_true rfl))
local macro_rules | `(tactic| walk_at "my_app") => `(tactic| (simp only [List.cons_append, List.nil_append, List.append_assoc]; try exact rfl))
local macro_rules | `(tactic| walk_at "formatField int") => `(tactic| (k_here; (with_reducible show wpAny _ _ (formatField (Value.int _ _) _) _ _ _); (with_reducible refine' ff_int ?h ?_); (case h => omega); k_whole; intro k' n'))
local macro_rules | `(tactic| walk_at "formatField str") => `(tactic| (k_here; (with_reducible show wpAny _ _ (formatField (Value.str _ _) _) _ _ _); (with_reducible refine' ff_str ?h ?_); (case h => walk_at "my_len"); k_whole; intro k' n'))
local macro_rules | `(tactic| walk_at "And") => `(tactic| (k_here; (with_reducible show PySem.Str.length (_ ++ _) ≤ sizeLine ∧ wpAny _ _ (joinParts _ _) _ _ _); (with_reducible refine' and_cat ?x ?y ?e ?n ?_); (case x => walk_at "my_cat"); (case y => walk_at "my_cat"); (case e => walk_at "my_app"); (case n => walk_at "my_len"); k_whole))
local macro_rules | `(tactic| walk_at "joinParts") => `(tactic| (k_here; (with_reducible show wpAny _ _ (joinParts _ (evalEach [] _)) _ _ _); (with_reducible refine' jp_list ?n ?_); (case n => walk_at "my_len"); k_whole; intro k' n'))
local macro_rules | `(tactic| walk_at "truthy str") => `(tactic| (k_here; k_dflt ((with_reducible refine' truthy_cons ?n ?_); (case n => walk_at "my_len"); k_whole; intro n')))
local macro_rules | `(tactic| walk_at "subscriptTail") => `(tactic| (k_here; (with_reducible show wpAny _ _ (subscriptTail _ _ (Value.ref 49) (Value.int _ _)) _ _ _); (with_reducible refine' dec_K ?X ?h ?_ ?s); (case X => first | assumption | exact Frag.In.keeps (by assumption) (Fr.keep (by assumption)) | k_in); (case h => omega); (case s => with_unfolding_all rfl); k_whole; intro k'))
set_option maxRecDepth 100000 in
set_option maxHeartbeats 4000000 in
theorem gl_K {w : World} {outer : List Env} {base h₀ : Heap} {L a : Addr} {cn : Str} {nms : List (Str × NameKind)} {ig ic : Bool} {mo} {ccd : Value} {m mg mb : Str → Option Value} {news : List (Addr × Obj)} {s : Shared} {p : Program} {loose : List Str} {mean : ExcName → Option Value} {Q : Value → Shared → Prop} {E : Value → Shared → Prop} {c : Int} {tk : Tok}
  (B : Below (AK 680 2800 outer) base outer h₀) (F : Fr h₀ L s.heap m) (X₀ : (hd.heap_39 w.params).In h₀) (T : Top p loose mean mg mb h₀) (h1c : 1 ≤ c ∧ c ≤ 5) (N : News h₀ L s.heap news)
  (hQ : ∀ k h' tk', Fr h₀ L h' m → News h₀ L h' news → Q (.str ⟨[lc c].toArray⟩ k) { s with heap := h', toks := tk' }) :
  wpAny (model PR w) ((AK 680 2800 outer).deeper (envOf cn ⟨.function, nms, ig, ic, mo⟩ L a ccd)) (PySem.call (.ref 56) [.int c tk]) Q E s := by
  have F' := F
  refine wpAny_call ?_
  w_strict k_enter
  w_strict k_steps
  all_goals (refine hQ _ _ _ (by assumption) ?_; (walk_at "my_sub"))
set_option maxRecDepth 100000 in
set_option maxHeartbeats 4000000 in
theorem qs_K {w : World} {outer : List Env} {base h₀ : Heap} {L a : Addr} {cn : Str} {nms : List (Str × NameKind)} {ig ic : Bool} {mo} {ccd : Value} {m mg mb : Str → Option Value} {news : List (Addr × Obj)} {s : Shared} {p : Program} {loose : List Str} {mean : ExcName → Option Value} {Q : Value → Shared → Prop} {E : Value → Shared → Prop} {v : Int} {k tk : Tok}
  (B : Below (AK 680 2800 outer) base outer h₀) (F : Fr h₀ L s.heap m) (X₀ : (hd.heap_39 w.params).In h₀) (T : Top p loose mean mg mb h₀) (hv : 0 ≤ v ∧ v ≤ 3) (hz : v ≠ 0) (N : News h₀ L s.heap news)
  (hQ : ∀ k h' tk', Fr h₀ L h' m → News h₀ L h' news → Q (.str ⟨(39 :: (tnm v ++ [39])).toArray⟩ k) { s with heap := h', toks := tk' }) :
  wpAny (model PR w) ((AK 680 2800 outer).deeper (envOf cn ⟨.function, nms, ig, ic, mo⟩ L a ccd)) (PySem.call (.ref 87) [tval v k]) Q E s := by
  have F' := F
  refine wpAny_call ?_
  w_strict k_enter
  w_strict k_steps
  all_goals (refine hQ _ _ _ (by assumption) ?_; (walk_at "my_sub"))
theorem gl_C {A : Around} {w : World} {outer : List Env} {base h₀ : Heap} {L a : Addr} {cn : Str} {nms : List (Str × NameKind)} {ig ic : Bool} {mo} {ccd : Value} {m mg mb : Str → Option Value} {news : List (Addr × Obj)} {s : Shared} {p : Program} {loose : List Str} {mean : ExcName → Option Value} {Q : Value → Shared → Prop} {E : Value → Shared → Prop} {c : Int} {tk : Tok}
  (h1 : A.handled = none) (h2 : A.depth ≤ 680) (h5 : A.units ≤ 2800) (B : Below A base outer h₀) (F : Fr h₀ L s.heap m) (X₀ : (hd.heap_39 w.params).In h₀) (T : Top p loose mean mg mb h₀) (h1c : 1 ≤ c ∧ c ≤ 5) (N : News h₀ L s.heap news)
  (hQ : ∀ k h' tk', Fr h₀ L h' m → News h₀ L h' news → Q (.str ⟨[lc c].toArray⟩ k) { s with heap := h', toks := tk' }) :
  wpAny (model PR w) (A.deeper (envOf cn ⟨.function, nms, ig, ic, mo⟩ L a ccd)) (PySem.call (.ref 56) [.int c tk]) Q E s :=
  to_AK h1 h2 h5 B fun B' => gl_K B' F X₀ T h1c N hQ
theorem qs_C {A : Around} {w : World} {outer : List Env} {base h₀ : Heap} {L a : Addr} {cn : Str} {nms : List (Str × NameKind)} {ig ic : Bool} {mo} {ccd : Value} {m mg mb : Str → Option Value} {news : List (Addr × Obj)} {s : Shared} {p : Program} {loose : List Str} {mean : ExcName → Option Value} {Q : Value → Shared → Prop} {E : Value → Shared → Prop} {v : Int} {k tk : Tok}
  (h1 : A.handled = none) (h2 : A.depth ≤ 680) (h5 : A.units ≤ 2800) (B : Below A base outer h₀) (F : Fr h₀ L s.heap m) (X₀ : (hd.heap_39 w.params).In h₀) (T : Top p loose mean mg mb h₀) (hv : 0 ≤ v ∧ v ≤ 3) (hz : v ≠ 0) (N : News h₀ L s.heap news)
  (hQ : ∀ k h' tk', Fr h₀ L h' m → News h₀ L h' news → Q (.str ⟨(39 :: (tnm v ++ [39])).toArray⟩ k) { s with heap := h', toks := tk' }) :
  wpAny (model PR w) (A.deeper (envOf cn ⟨.function, nms, ig, ic, mo⟩ L a ccd)) (PySem.call (.ref 87) [tval v k]) Q E s :=
  to_AK h1 h2 h5 B fun B' => qs_K (tk := 0) B' F X₀ T hv hz N hQ
local macro_rules | `(tactic| walk_at "call ref") => `(tactic| (k_here; (with_reducible show wpAny _ _ (PySem.call (Value.ref 56) _) _ _ _); k_dflt (first
  | ((with_reducible refine' gl_C ?q1 ?q2 ?q3 ?B ?F ?X ?T ?z0 ?N ?_); (case B => k_asm); (case F => k_asm); (case X => assumption); (case T => assumption); (case z0 => omega); (case N => k_asm); (case q1 => rfl); (case q2 => exact Nat.le_of_ble_eq_true rfl); (case q3 => exact Nat.le_of_ble_eq_true rfl); k_whole; intro k' h' tk' F' N'))))
local macro_rules | `(tactic| walk_at "call ref") => `(tactic| (k_here; (with_reducible show wpAny _ _ (PySem.call (Value.ref 87) _) _ _ _); k_dflt (first
  | ((with_reducible refine' qs_C ?q1 ?q2 ?q3 ?B ?F ?X ?T ?z0 ?z1 ?N ?_); (case B => k_asm); (case F => k_asm); (case X => assumption); (case T => assumption); (case z0 => assumption); (case z1 => assumption); (case N => k_asm); (case q1 => rfl); (case q2 => exact Nat.le_of_ble_eq_true rfl); (case q3 => exact Nat.le_of_ble_eq_true rfl); k_whole; intro k' h' tk' F' N'))))
local macro_rules | `(tactic| k_handed) => `(tactic| exact tval_handed _ _)
local macro_rules | `(tactic| walk_at "truthy") => `(tactic| (k_here; (with_reducible show wpAny _ _ (truthy (tval _ _)) _ _ _); (with_reducible refine' truthy_tval ?a1 ?_); (case a1 => first | assumption | omega); k_whole))
local macro_rules | `(tactic| walk_at "compareOp Is none") => `(tactic| (k_here; (with_reducible show wpAny _ _ (compareOp _ (tval _ _) _) _ _ _); (with_reducible refine' isNone_tval ?a1 ?_); (case a1 => first | assumption | omega); k_whole))
local macro_rules | `(tactic| walk_at "compareOp NotEq") => `(tactic| (k_here; (with_reducible show wpAny _ _ (compareOp _ (tval _ _) (tval _ _)) _ _ _); (with_reducible refine' ne_tval ?a1 ?a2 ?_); (case a1 => first | assumption | omega); (case a2 => first | assumption | omega); k_whole))
local macro_rules | `(tactic| walk_at "compareOp Eq") => `(tactic| (k_here; (with_reducible show wpAny _ _ (compareOp _ (tval _ _) (tval _ _)) _ _ _); (with_reducible refine' eq_tval ?a1 ?a2 ?_); (case a1 => first | assumption | omega); (case a2 => first | assumption | omega); k_whole))
set_option maxRecDepth 100000 in
set_option maxHeartbeats 4000000 in
theorem st_K {w : World} {outer : List Env} {base h₀ : Heap} {L a : Addr} {cl : List (Str × Addr)} {cn : Str} {nms : List (Str × NameKind)} {ig ic : Bool} {mo} {ccd : Value} {m mg mb : Str → Option Value} {news : List (Addr × Obj)} {s : Shared} {p : Program} {loose : List Str} {mean : ExcName → Option Value} {Q : Value → Shared → Prop} {E : Value → Shared → Prop} {x dx : Addr} {κ : Nat → Tok} {c1 r1 c2 r2 v : Int} {k : Tok}
  (B : Below (AK 665 2600 outer) base outer h₀) (F : Fr h₀ L s.heap m) (X₀ : (hd.heap_39 w.params).In h₀) (T : Top p loose mean mg mb h₀) (hv : 0 ≤ v ∧ v ≤ 3) (h1c : 1 ≤ c1 ∧ c1 ≤ 5) (h1r : 1 ≤ r1 ∧ r1 ≤ 5) (h2c : 1 ≤ c2 ∧ c2 ≤ 5) (h2r : 1 ≤ r2 ∧ r2 ≤ 5) (hx : (x, instObj 349 dx) ∈ news) (hdx : (dx, crD w κ c1 r1 c2 r2 (tval v k)) ∈ news) (N : News h₀ L s.heap news)
  (hQ : ∀ k h' tk', Fr h₀ L h' m → News h₀ L h' news → Q (.str ⟨(txtR v c1 r1 c2 r2).toArray⟩ k) { s with heap := h', toks := tk' }) :
  wpAny (model PR w) ((AK 665 2600 outer).deeper (envX cn ⟨.function, nms, ig, ic, mo⟩ L a ccd cl)) (PySem.call (.ref 213) [.ref x]) Q E s := by
  have hQ2 : ∀ l k h' tk', l = txtR v c1 r1 c2 r2 → Fr h₀ L h' m → News h₀ L h' news → Q (.str ⟨l.toArray⟩ k) { s with heap := h', toks := tk' } := fun l k h' tk' e => by rw [e]; exact hQ k h' tk'
  have F' := F
  refine wpAny_call ?_
  w_strict k_enter
  w_strict k_steps
  all_goals (refine hQ2 _ _ _ _ ?e (by assumption) ?_; (case e => with_reducible first | exact (tx_S1 (by omega) (by omega)).symm | exact (tx_S2 (by omega) (by omega)).symm | exact (tx_01 (by omega) (by omega)).symm | exact (tx_02 (by omega) (by omega)).symm); (walk_at "my_sub"))
theorem st_C {A : Around} {w : World} {outer : List Env} {base h₀ : Heap} {L a : Addr} {cl : List (Str × Addr)} {cn : Str} {nms : List (Str × NameKind)} {ig ic : Bool} {mo} {ccd : Value} {m mg mb : Str → Option Value} {news : List (Addr × Obj)} {s : Shared} {p : Program} {loose : List Str} {mean : ExcName → Option Value} {Q : Value → Shared → Prop} {E : Value → Shared → Prop} {x dx : Addr} {κ : Nat → Tok} {c1 r1 c2 r2 v : Int} {k : Tok}
  (h1 : A.handled = none) (h2 : A.depth ≤ 665) (h5 : A.units ≤ 2600) (B : Below A base outer h₀) (F : Fr h₀ L s.heap m) (X₀ : (hd.heap_39 w.params).In h₀) (T : Top p loose mean mg mb h₀) (hv : 0 ≤ v ∧ v ≤ 3) (h1c : 1 ≤ c1 ∧ c1 ≤ 5) (h1r : 1 ≤ r1 ∧ r1 ≤ 5) (h2c : 1 ≤ c2 ∧ c2 ≤ 5) (h2r : 1 ≤ r2 ∧ r2 ≤ 5) (hx : (x, instObj 349 dx) ∈ news) (hdx : (dx, crD w κ c1 r1 c2 r2 (tval v k)) ∈ news) (N : News h₀ L s.heap news)
  (hQ : ∀ k h' tk', Fr h₀ L h' m → News h₀ L h' news → Q (.str ⟨(txtR v c1 r1 c2 r2).toArray⟩ k) { s with heap := h', toks := tk' }) :
  wpAny (model PR w) (A.deeper (envX cn ⟨.function, nms, ig, ic, mo⟩ L a ccd cl)) (PySem.call (.ref 213) [.ref x]) Q E s :=
  to_AK h1 h2 h5 B fun B' => st_K B' F X₀ T hv h1c h1r h2c h2r hx hdx N hQ
end Mine

end
section
open PySem PySem.W PySem.W.X PyProof.Rows PySem.Spec PySem.Calls PySem.Builtin PySem.Builtin.Str
set_option maxRecDepth 100000
namespace Mine
section
variable {prog : Program} {w : World} {A : Around} {E : Value → Shared → Prop} {s : Shared} {K : Frag} {x C f : Addr} {ox : Obj} {od : Option Obj}
theorem objfmt_own {Q : Value → Shared → Prop} {t : Tok} (hu : A.in1.units < cLine) (X : K.In s.heap) (I : InstAt s.heap x ox C od) (hm : mroIn K C (.type "object") = some true)
    (hs : findIn K (.ref C) "__str__" = some (some (.ref f))) (hf : isFn K (.ref f) = true) (h : wpAny (model prog w) A.in1 (call (.ref f) [.ref x]) (StrBack Q) E s) :
    wpAny (model prog w) A (call (.builtin "object.__format__") [.ref x, .str Str.empty t]) Q E s := by
  refine wpAny_call (codeAny_call_builtin PySem.F.slot_object_format.plain PySem.F.entry_object_format (kfo_check (i := "object.__format__") (owner := "object") (n := "__format__") (by decide +kernel) (by decide +kernel) (I.type.andThen (looks_mroIn X hm)) (PySem.F.args_object_format_2 _ _) ?_))
  show wpAny _ _ (do let _shown ← PySem.typeNameOf (Value.str Str.empty t); (do ret (← pyStrObj (Value.ref x)))) _ _ _
  refine wpAny_bind (PySem.wpAny_typeNameOf (T := "str") (typeIs_str _ _ _) (by decide) fun _ => ?_)
  refine wpAny_bind (wpAny_mono (kfo_str (Q := Q) hu X I hs hf h) (fun r s₁ h₁ => ?_) fun _ _ e => e)
  exact wpAny_pure h₁
theorem fo_own {Q : Value → Shared → Prop} (hu : A.in1.units < cLine) (X : K.In s.heap) (I : InstAt s.heap x ox C od) (hfm : findIn K (.ref C) "__format__" = some (some (.builtin "object.__format__"))) (hm : mroIn K C (.type "object") = some true)
    (hs : findIn K (.ref C) "__str__" = some (some (.ref f))) (hf : isFn K (.ref f) = true) (h : wpAny (model prog w) A.in1 (call (.ref f) [.ref x]) (StrBack Q) E { s with toks := s.toks + 1 }) :
    wpAny (model prog w) A (PySem.Builtin.Str.formatOf (.ref x) Str.empty) Q E s := by
  unfold PySem.Builtin.Str.formatOf
  refine wpAny_ite (KPc.ite_no Bool.false_ne_true ?_)
  refine wpAny_bind (wpAny_mkStr ?_ (by decide))
  refine wpAny_bind (m := callSpecial? (.ref x) (Str.ofString "__format__") [.str Str.empty s.toks]) (kfo_special (s := { s with toks := s.toks + 1 }) X I hfm PySem.F.slot_object_format.bind ?_)
  refine objfmt_own (s := { s with toks := s.toks + 1 }) hu X I hm hs hf (wpAny_mono h (fun r s' hr => ?_) fun _ _ e => e)
  cases r <;> first | exact hr.elim | skip
  rename_i y t
  refine wpAny_bind (wpAny_of_eq (a := some y) rfl ?_)
  refine wpAny_ite (KPc.ite_no Bool.false_ne_true ?_)
  exact wpAny_pure hr
theorem field_zero {id : String} {a : Array Value} {byName : PySem.Str → Sem Value} {v : Value} {num : Numbering} {Q : Value × Numbering → Shared → Prop} (hn : num = .unset ∨ num = .manual) (ha : a[0]? = some v)
    (h : Q (v, .manual) s) : wpAny (model prog w) A (fieldObject id (some a) byName [48] num) Q E s := by
  rcases hn with e | e <;> subst e <;> unfold fieldObject
  · refine wpAny_bind (wpAny_of_eq (a := some 0) rfl ?_)
    refine wpAny_bind (wpAny_of_eq (a := (some 0, .manual)) rfl ?_)
    simp only [ha, pure_bind]
    rw [KPc.range_list]
    exact wpAny_bind (wpAny_pure (wpAny_pure h))
  · refine wpAny_bind (wpAny_of_eq (a := some 0) rfl ?_)
    refine wpAny_bind (wpAny_of_eq (a := (some 0, .manual)) rfl ?_)
    simp only [ha, pure_bind]
    rw [KPc.range_list]
    exact wpAny_bind (wpAny_pure (wpAny_pure h))
theorem fmt_own2 {Q : Value → Shared → Prop} {t : Tok} {y : Value} (P : Heap → Prop) (h0 : P s.heap)
   (hu : A.in1.in1.units < cLine) (X : ∀ h, P h → K.In h) (I : ∀ h, P h → InstAt h x ox C od) (hfm : findIn K (.ref C) "__format__" = some (some (.builtin "object.__format__"))) (hm : mroIn K C (.type "object") = some true)
    (hs : findIn K (.ref C) "__str__" = some (some (.ref f))) (hf : isFn K (.ref f) = true)
   (hc : ∀ (s1 : Shared) (Q : Value → Shared → Prop), P s1.heap → (∀ l t h' tk', P h' → l.length ≤ 1000 → Q (.str ⟨List.toArray l⟩ t) { s1 with heap := h', toks := tk' }) → wpAny (model prog w) A.in1.in1 (call (.ref f) [.ref x]) Q E s1)
   (hQ : ∀ y t h' tk', P h' → Q (.str y t) { s with heap := h', toks := tk' }) :
   wpAny (model prog w) A (PySem.call (.builtin "str.format") [.str (Str.ofString "Range {0} doesn't intersect {0}") t, .ref x, y]) Q E s := by
  have e0 : (Str.ofString "Range {0} doesn't intersect {0}") = ⟨#[82, 97, 110, 103, 101, 32, 123, 48, 125, 32, 100, 111, 101, 115, 110, 39, 116, 32, 105, 110, 116, 101, 114, 115, 101, 99, 116, 32, 123, 48, 125]⟩ := by kernel_rfl
  rw [e0]
  refine wpAny_call (codeAny_call_builtin F.slot_str_format_m.plain F.entry_str_format_m (F.slot_str_format_m.check _ _ _ _ _ _ _ _ (typeIs_str s _ t) (KFm.args_3 _ _ _) ?_))
  unfold Builtin.«str.format»
  refine wpAny_bind (wpAny_of_eq (a := (_, _, _)) rfl ?_)
  refine wpAny_bind ?_
  unfold Builtin.Str.buildString
  refine wpAny_bind ?_
  rw [KPc.range_list]
  refine KFm.start ?_
  intro _ _
  refine KPc.turn ?_
  kpc_if
  kpc_check
  refine wpAny_bind (field_zero (.inl rfl) rfl ?_)
  refine wpAny_bind (wpAny_holding (wpAny_of_eq (a := _) rfl ?_))
  kpc_if
  refine wpAny_bind (wpAny_pure ?_)
  refine wpAny_bind (wpAny_holding (fo_own hu (X _ h0) (I _ h0) hfm hm hs hf (hc _ _ h0 fun l1 k1 hp1 tk1 P1 n1 => ?_)))
  show wpAny _ _ _ _ _ _
  refine wpAny_bind (wpAny_of_eq (a := some ⟨l1.toArray⟩) rfl ?_)
  refine wpAny_pure ?_
  refine KFm.after_field (K := 1000) (by kpc_g) (by kpc_text) (by kpc_obj) (by show l1.toArray.size ≤ 1000; rw [List.size_toArray]; exact n1) (by kpc_obj) rfl (by kfm_rest) ?_
  intro _ _
  refine KPc.turn ?_
  kpc_if
  kpc_check
  refine wpAny_bind (field_zero (.inr rfl) rfl ?_)
  refine wpAny_bind (wpAny_holding (wpAny_of_eq (a := _) rfl ?_))
  kpc_if
  refine wpAny_bind (wpAny_pure ?_)
  refine wpAny_bind (wpAny_holding (fo_own hu (X _ P1) (I _ P1) hfm hm hs hf (hc _ _ P1 fun l2 k2 hp2 tk2 P2 n2 => ?_)))
  show wpAny _ _ _ _ _ _
  refine wpAny_bind (wpAny_of_eq (a := some ⟨l2.toArray⟩) rfl ?_)
  refine wpAny_pure ?_
  refine KFm.after_field (K := 1000) (by kpc_g) (by kpc_text) (by first | kpc_obj | exact KPc.obj_none (if_neg (by decide))) (by show l2.toArray.size ≤ 1000; rw [List.size_toArray]; exact n2) (by first | kpc_obj | exact KPc.obj_some rfl) rfl (by kfm_rest) ?_
  intro _ _
  refine KPc.turn ?_
  kpc_if
  refine wpAny_pure ?_
  refine wpAny_pure ?_
  refine KPc.finish_ok (by kpc_g) (by decide +kernel) rfl fun t' k' => ?_
  exact hQ _ _ _ _ P2
end
end Mine

end
section
open PySem PySem.W PySem.W.X PyProof.Rows
namespace Mine
local macro_rules | `(tactic| walk_at "pad") => `(tactic| fail "pad")
local macro_rules | `(tactic| walk_at "pad") => `(tactic| fail "pad")
theorem txtR_len {v c1 r1 c2 r2 : Int} : (txtR v c1 r1 c2 r2).length ≤ 1000 := by
  have h3 : (tnm v).length ≤ 3 := by
    unfold tnm; split
    · decide
    · split <;> decide
  unfold txtR preL cellsR
  rw [List.length_append]
  have h1 : (if v = 0 then [] else 39 :: (tnm v ++ [39, 33])).length ≤ 10 := by
    split
    · decide
    · simp only [List.length_cons, List.length_append, List.length_nil]; omega
  have h2 : (if c1 = c2 ∧ r1 = r2 then [lc c1, dg r1] else [lc c1, dg r1, 58, lc c2, dg r2]).length ≤ 10 := by
    split <;> exact Nat.le_of_ble_eq_true rfl
  omega
set_option maxRecDepth 100000 in
set_option maxHeartbeats 4000000 in
theorem fmtxy_C {A : Around} {w : World} {outer : List Env} {base h₀ : Heap} {L a : Addr} {cl : List (Str × Addr)} {cn : Str} {nms : List (Str × NameKind)} {ig ic : Bool} {mo} {ccd : Value} {m mg mb : Str → Option Value} {news : List (Addr × Obj)} {s : Shared} {p : Program} {loose : List Str} {mean : ExcName → Option Value} {Q : Value → Shared → Prop} {E : Value → Shared → Prop} {x dx : Addr} {κ : Nat → Tok} {c1 r1 c2 r2 v : Int} {k t : Tok} {y : Value}
  (h1 : A.handled = none) (h2 : A.depth ≤ 660) (h5 : A.units ≤ 2590) (B : Below A base outer h₀) (F : Fr h₀ L s.heap m) (X₀ : (hd.heap_39 w.params).In h₀) (T : Top p loose mean mg mb h₀) (hv : 0 ≤ v ∧ v ≤ 3) (h1c : 1 ≤ c1 ∧ c1 ≤ 5) (h1r : 1 ≤ r1 ∧ r1 ≤ 5) (h2c : 1 ≤ c2 ∧ c2 ≤ 5) (h2r : 1 ≤ r2 ∧ r2 ≤ 5) (hx : (x, instObj 349 dx) ∈ news) (hdx : (dx, crD w κ c1 r1 c2 r2 (tval v k)) ∈ news) (N : News h₀ L s.heap news)
  (hQ : ∀ y t h' tk', Fr h₀ L h' m → News h₀ L h' news → Q (.str y t) { s with heap := h', toks := tk' }) :
  wpAny (model PR w) (A.deeper (envX cn ⟨.function, nms, ig, ic, mo⟩ L a ccd cl)) (PySem.call (.builtin "str.format") [.str (Str.ofString "Range {0} doesn't intersect {0}") t, .ref x, y]) Q E s :=
  fmt_own2 (fun h' => Fr h₀ L h' m ∧ News h₀ L h' news) ⟨F, N⟩ (by show A.units + 3 + 1 + 1 < cLine; have : cLine = 9900 := rfl; omega)
    (fun _ p => X₀.keeps p.1.keep) (fun _ p => InstAt.of_news p.2 hx hdx) (by k_dflt k_is) (by k_dflt k_is) (by k_dflt k_is) (by k_dflt k_is)
    (fun s1 Q' P1 hQ' => show wpAny _ ((A.in1.in1).deeper _) _ _ _ _ from st_C h1 (Nat.le_trans h2 (by decide)) (by show A.units + 1 + 1 ≤ 2600; omega) ⟨B.stack, B.stays, B.frames⟩ P1.1 X₀ T hv h1c h1r h2c h2r hx hdx P1.2 fun k' h' tk' F' N' => hQ' _ k' h' tk' ⟨F', N'⟩ txtR_len)
    fun y' t' h' tk' p => hQ y' t' h' tk' p.1 p.2
end Mine

end
section
open PySem PySem.W PySem.W.X PyProof.Rows
namespace Mine
local macro_rules | `(tactic| k_all) => `(tactic| assumption)
local macro_rules | `(tactic| k_mem) => `(tactic| assumption)
local macro_rules | `(tactic| walk_at "my_sub") => `(tactic| (refine news_sub (by assumption) ?_; intro p hp; (repeat (first | exact hp | refine List.Mem.tail _ ?_))))
local macro_rules | `(tactic| walk_at "my_bool") => `(tactic| ((try unfold lex4 at *); (try simp only [decide_eq_true_eq, Bool.false_eq_true, true_iff, false_iff]); omega))

local macro_rules | `(tactic| k_handed) => `(tactic| exact tval_handed _ _)
local macro_rules | `(tactic| walk_at "truthy") => `(tactic| (k_here; (with_reducible show wpAny _ _ (truthy (tval _ _)) _ _ _); (with_reducible refine' truthy_tval ?a1 ?_); (case a1 => first | assumption | omega); k_whole))
local macro_rules | `(tactic| walk_at "compareOp Is none") => `(tactic| (k_here; (with_reducible show wpAny _ _ (compareOp _ (tval _ _) _) _ _ _); (with_reducible refine' isNone_tval ?a1 ?_); (case a1 => first | assumption | omega); k_whole))
local macro_rules | `(tactic| walk_at "compareOp NotEq") => `(tactic| (k_here; (with_reducible show wpAny _ _ (compareOp _ (tval _ _) (tval _ _)) _ _ _); (with_reducible refine' ne_tval ?a1 ?a2 ?_); (case a1 => first | assumption | omega); (case a2 => first | assumption | omega); k_whole))
local macro_rules | `(tactic| walk_at "compareOp Eq") => `(tactic| (k_here; (with_reducible show wpAny _ _ (compareOp _ (tval _ _) (tval _ _)) _ _ _); (with_reducible refine' eq_tval ?a1 ?a2 ?_); (case a1 => first | assumption | omega); (case a2 => first | assumption | omega); k_whole))
local macro_rules | `(tactic| walk_at "compareChain") => `(tactic| (k_here; (with_reducible show wpAny _ _ (compareChain _ _ (_ :: _ :: _) (_ :: evalEach _ _)) _ _ _); refine chain_link ?_))
local macro_rules | `(tactic| walk_at "my_tops") => `(tactic| ((rename Top _ _ _ _ _ _ => tp1; have tr1 := topRead_of tp1); (try (revert tp1; (rename Top _ _ _ _ _ _ => tp2; have tr2 := topRead_of tp2); (try (revert tp2; (rename Top _ _ _ _ _ _ => tp3; have tr3 := topRead_of tp3); (try (revert tp3; (rename Top _ _ _ _ _ _ => tp4; have tr4 := topRead_of tp4); intro tp3)); intro tp2)); intro tp1))))
local macro_rules | `(tactic| walk_at "noteFrame ref") => `(tactic| (k_here; (walk_at "my_tops"); (rename RaisedK _ _ _ _ _ _ _ _ => rkX); k_caught0; intro h' n₂ F' N₂ G' N'; (try k_sweep)))
local macro_rules | `(tactic| walk_at "call ref") => `(tactic| (k_here; (with_reducible show wpAny _ _ (PySem.call (Value.ref 199) _) _ _ _); k_dflt ((refine' ct_C ?q1 ?q2 ?q3 ?B ?F ?X ?T ?z0 ?z1 ?z2 ?z3 ?z4 ?z5 ?z6 ?N ?_); (case B => k_asm); (case F => k_asm); (case X => assumption); (case T => assumption); (case N => k_asm); (case z2 => (repeat (first | assumption | exact List.Mem.head _ | refine List.Mem.tail _ ?_))); (case z3 => (repeat (first | assumption | exact List.Mem.head _ | refine List.Mem.tail _ ?_))); (case z4 => (repeat (first | assumption | exact List.Mem.head _ | refine List.Mem.tail _ ?_))); (case z5 => (repeat (first | assumption | exact List.Mem.head _ | refine List.Mem.tail _ ?_))); (case z0 => omega); (case z1 => omega); (case z6 => omega); (case q1 => rfl); (case q2 => exact Nat.le_of_ble_eq_true rfl); (case q3 => exact Nat.le_of_ble_eq_true rfl); k_whole; intro h' tk' F' N')))
local macro_rules | `(tactic| walk_at "call ref") => `(tactic| (k_here; (with_reducible show wpAny _ _ (PySem.call (Value.ref 228) _) _ _ _); k_dflt ((refine' ne_C ?q1 ?q2 ?q3 ?B ?F ?X ?T ?z0 ?z1 ?z2 ?z3 ?z4 ?z5 ?z6 ?N ?_); (case B => k_asm); (case F => k_asm); (case X => assumption); (case T => assumption); (case N => k_asm); (case z2 => (repeat (first | assumption | exact List.Mem.head _ | refine List.Mem.tail _ ?_))); (case z3 => (repeat (first | assumption | exact List.Mem.head _ | refine List.Mem.tail _ ?_))); (case z4 => (repeat (first | assumption | exact List.Mem.head _ | refine List.Mem.tail _ ?_))); (case z5 => (repeat (first | assumption | exact List.Mem.head _ | refine List.Mem.tail _ ?_))); (case z0 => omega); (case z1 => omega); (case z6 => omega); (case q1 => rfl); (case q2 => exact Nat.le_of_ble_eq_true rfl); (case q3 => exact Nat.le_of_ble_eq_true rfl); k_whole; intro b' h' tk' e' F' N')))
local macro_rules | `(tactic| walk_at "my_bool") => `(tactic| first | omega | ((try simp only [decide_eq_true_eq, bne_iff_ne, ne_eq, bne_eq_false_iff_eq, Bool.false_eq_true, true_iff, false_iff]); omega) | ((rename (@Iff (_ = true) _) => eA); (first | rw [eA] | rw [Bool.not_eq_true', ← Bool.not_eq_true, eA]); omega) | ((rename (@Iff (_ = true) _) => eA); (rename (_ = true) => aB); have pB := eA.mp aB; simp only [Bool.false_eq_true, true_iff, false_iff]; omega) | ((rename (@Iff (_ = true) _) => eA); (rename (_ = false) => aB); have pB := mt eA.mpr (by rw [aB]; exact Bool.false_ne_true); simp only [Bool.false_eq_true, true_iff, false_iff]; omega))
set_option maxRecDepth 100000 in
set_option maxHeartbeats 4000000 in
theorem eqf_K {w : World} {base h₀ : Heap} {L a : Addr} {cl : List (Str × Addr)} {cn : Str} {nms : List (Str × NameKind)} {ig ic : Bool} {mo} {ccd : Value} {m mg mb : Str → Option Value} {news : List (Addr × Obj)} {s : Shared} {p : Program} {loose : List Str} {mean : ExcName → Option Value} {Q : Value → Shared → Prop} {E : Value → Shared → Prop} {x dx y dy : Addr} {κ ε : Nat → Tok} {c1 r1 c2 r2 d1 s1 d2 s2 v1 v2 : Int} {k1 k2 : Tok}
  (B : Below (AK 640 2300 []) base [] h₀) (F : Fr h₀ L s.heap m) (X₀ : (hd.heap_39 w.params).In h₀) (T : Top p loose mean mg mb h₀) (XB : (hd.heap_39 w.params).In base) (TB : Top p loose mean mg mb base) (i1 : 0 ≤ v1 ∧ v1 ≤ 3) (i2 : 0 ≤ v2 ∧ v2 ≤ 3)(hx : (x, instObj 349 dx) ∈ news) (hdx : (dx, crD w κ c1 r1 c2 r2 (tval v1 k1)) ∈ news) (hy : (y, instObj 349 dy) ∈ news) (hdy : (dy, crD w ε d1 s1 d2 s2 (tval v2 k2)) ∈ news)(hf : v2 = 0 ∨ v1 = v2) (N : News h₀ L s.heap news)
  (hQ : ∀ b h' tk', (b = true ↔ (c1 = d1 ∧ r1 = s1 ∧ c2 = d2 ∧ r2 = s2)) → Fr h₀ L h' m → News h₀ L h' news → Q (.bool b) { s with heap := h', toks := tk' }) :
  wpAny (model PR w) ((AK 640 2300 []).deeper (envX cn ⟨.function, nms, ig, ic, mo⟩ L a ccd cl)) (PySem.call (.ref 235) [.ref x, .ref y]) Q E s := by
  have F' := F
  refine wpAny_call ?_
  (refine' enter_try ?k1 ?k2 ?k3 ?k4 ?k5 ?kA ?kF ?kK ?k6 ?k7 ?k8 ?k9 ?kB ?_ ?c2 ?c3 ?c4 ?c5; (case kA => exact rfl); (case kF => exact rfl); (case kK => exact rfl); (case k2 => k_asm); (case k1 => k_asm); (case k3 => k_asm); (case k4 => k_asm); (case k5 => k_asm); (case k6 => k_is); (case k7 => k_is); (case k8 => k_room); (case k9 => first | exact binds_K (by k_in) rfl (by k_is) rfl rfl rfl | exact BindsTo.of_eq rfl); (case kB => exact locs rfl); (case c2 => exact rfl); (case c3 => exact rfl); (case c4 => exact rfl); (case c5 => decide); k_whole; intro g' L' h' FG' F' N' B' X' T' D'; (try dsimp only); (try k_lift B'); (try k_fold))
  w_strict k_steps
  all_goals (refine hQ _ _ _ ?_ (by assumption) ?_; rotate_left; (walk_at "my_sub"); (walk_at "my_bool"))
set_option maxRecDepth 100000 in
set_option maxHeartbeats 4000000 in
theorem equ_K {w : World} {base h₀ : Heap} {L a : Addr} {cl : List (Str × Addr)} {cn : Str} {nms : List (Str × NameKind)} {ig ic : Bool} {mo} {ccd : Value} {m mg mb : Str → Option Value} {news : List (Addr × Obj)} {s : Shared} {p : Program} {loose : List Str} {mean : ExcName → Option Value} {Q : Value → Shared → Prop} {E : Value → Shared → Prop} {x dx y dy : Addr} {κ ε : Nat → Tok} {c1 r1 c2 r2 d1 s1 d2 s2 v1 v2 : Int} {k1 k2 : Tok}
  (B : Below (AK 640 2300 []) base [] h₀) (F : Fr h₀ L s.heap m) (X₀ : (hd.heap_39 w.params).In h₀) (T : Top p loose mean mg mb h₀) (XB : (hd.heap_39 w.params).In base) (TB : Top p loose mean mg mb base) (i1 : 0 ≤ v1 ∧ v1 ≤ 3) (i2 : 0 ≤ v2 ∧ v2 ≤ 3)(hx : (x, instObj 349 dx) ∈ news) (hdx : (dx, crD w κ c1 r1 c2 r2 (tval v1 k1)) ∈ news) (hy : (y, instObj 349 dy) ∈ news) (hdy : (dy, crD w ε d1 s1 d2 s2 (tval v2 k2)) ∈ news)(hf : v2 ≠ 0 ∧ v1 ≠ v2) (N : News h₀ L s.heap news)
  (hQ : ∀ b h' tk', b = false → Fr h₀ L h' m → News h₀ L h' news → Q (.bool b) { s with heap := h', toks := tk' }) :
  wpAny (model PR w) ((AK 640 2300 []).deeper (envX cn ⟨.function, nms, ig, ic, mo⟩ L a ccd cl)) (PySem.call (.ref 235) [.ref x, .ref y]) Q E s := by
  have F' := F
  refine wpAny_call ?_
  (refine' enter_try ?k1 ?k2 ?k3 ?k4 ?k5 ?kA ?kF ?kK ?k6 ?k7 ?k8 ?k9 ?kB ?_ ?c2 ?c3 ?c4 ?c5; (case kA => exact rfl); (case kF => exact rfl); (case kK => exact rfl); (case k2 => k_asm); (case k1 => k_asm); (case k3 => k_asm); (case k4 => k_asm); (case k5 => k_asm); (case k6 => k_is); (case k7 => k_is); (case k8 => k_room); (case k9 => first | exact binds_K (by k_in) rfl (by k_is) rfl rfl rfl | exact BindsTo.of_eq rfl); (case kB => exact locs rfl); (case c2 => exact rfl); (case c3 => exact rfl); (case c4 => exact rfl); (case c5 => decide); k_whole; intro g' L' h' FG' F' N' B' X' T' D'; (try dsimp only); (try k_lift B'); (try k_fold))
  w_strict k_steps
  all_goals (refine hQ _ _ _ (by decide) (by assumption) ?_; (walk_at "my_sub"))
theorem eq_C {A : Around} {w : World} {base h₀ : Heap} {L a : Addr} {cl : List (Str × Addr)} {cn : Str} {nms : List (Str × NameKind)} {ig ic : Bool} {mo} {ccd : Value} {m mg mb : Str → Option Value} {news : List (Addr × Obj)} {s : Shared} {p : Program} {loose : List Str} {mean : ExcName → Option Value} {Q : Value → Shared → Prop} {E : Value → Shared → Prop} {x dx y dy : Addr} {κ ε : Nat → Tok} {c1 r1 c2 r2 d1 s1 d2 s2 v1 v2 : Int} {k1 k2 : Tok}
  (h1 : A.handled = none) (h2 : A.depth ≤ 640) (h5 : A.units ≤ 2300) (B : Below A base [] h₀) (F : Fr h₀ L s.heap m) (X₀ : (hd.heap_39 w.params).In h₀) (T : Top p loose mean mg mb h₀) (XB : (hd.heap_39 w.params).In base) (TB : Top p loose mean mg mb base) (i1 : 0 ≤ v1 ∧ v1 ≤ 3) (i2 : 0 ≤ v2 ∧ v2 ≤ 3)(hx : (x, instObj 349 dx) ∈ news) (hdx : (dx, crD w κ c1 r1 c2 r2 (tval v1 k1)) ∈ news) (hy : (y, instObj 349 dy) ∈ news) (hdy : (dy, crD w ε d1 s1 d2 s2 (tval v2 k2)) ∈ news) (N : News h₀ L s.heap news)
  (hQ : ∀ b h' tk', (b = true ↔ ((v2 = 0 ∨ v1 = v2) ∧ c1 = d1 ∧ r1 = s1 ∧ c2 = d2 ∧ r2 = s2)) → Fr h₀ L h' m → News h₀ L h' news → Q (.bool b) { s with heap := h', toks := tk' }) :
  wpAny (model PR w) (A.deeper (envX cn ⟨.function, nms, ig, ic, mo⟩ L a ccd cl)) (PySem.call (.ref 235) [.ref x, .ref y]) Q E s :=
  to_AK h1 h2 h5 B fun B' => by
    by_cases hf : v2 = 0 ∨ v1 = v2
    · exact eqf_K B' F X₀ T XB TB i1 i2 hx hdx hy hdy hf N fun b h' tk' e F' N' => hQ b h' tk' (by rw [e]; constructor <;> intro z <;> omega) F' N'
    · exact equ_K B' F X₀ T XB TB i1 i2 hx hdx hy hdy (by omega) N fun b h' tk' e F' N' => hQ b h' tk' (by rw [e]; constructor <;> intro z <;> first | (exfalso; cases z; done) | (exfalso; omega) | omega | rfl) F' N'
set_option maxRecDepth 100000 in
set_option maxHeartbeats 4000000 in
theorem nqf_K {w : World} {base h₀ : Heap} {L a : Addr} {cl : List (Str × Addr)} {cn : Str} {nms : List (Str × NameKind)} {ig ic : Bool} {mo} {ccd : Value} {m mg mb : Str → Option Value} {news : List (Addr × Obj)} {s : Shared} {p : Program} {loose : List Str} {mean : ExcName → Option Value} {Q : Value → Shared → Prop} {E : Value → Shared → Prop} {x dx y dy : Addr} {κ ε : Nat → Tok} {c1 r1 c2 r2 d1 s1 d2 s2 v1 v2 : Int} {k1 k2 : Tok}
  (B : Below (AK 640 2300 []) base [] h₀) (F : Fr h₀ L s.heap m) (X₀ : (hd.heap_39 w.params).In h₀) (T : Top p loose mean mg mb h₀) (XB : (hd.heap_39 w.params).In base) (TB : Top p loose mean mg mb base) (i1 : 0 ≤ v1 ∧ v1 ≤ 3) (i2 : 0 ≤ v2 ∧ v2 ≤ 3)(hx : (x, instObj 349 dx) ∈ news) (hdx : (dx, crD w κ c1 r1 c2 r2 (tval v1 k1)) ∈ news) (hy : (y, instObj 349 dy) ∈ news) (hdy : (dy, crD w ε d1 s1 d2 s2 (tval v2 k2)) ∈ news)(hf : v2 = 0 ∨ v1 = v2) (N : News h₀ L s.heap news)
  (hQ : ∀ b h' tk', (b = true ↔ (¬ (c1 = d1 ∧ r1 = s1 ∧ c2 = d2 ∧ r2 = s2))) → Fr h₀ L h' m → News h₀ L h' news → Q (.bool b) { s with heap := h', toks := tk' }) :
  wpAny (model PR w) ((AK 640 2300 []).deeper (envX cn ⟨.function, nms, ig, ic, mo⟩ L a ccd cl)) (PySem.call (.ref 228) [.ref x, .ref y]) Q E s := by
  have F' := F
  refine wpAny_call ?_
  (refine' enter_try ?k1 ?k2 ?k3 ?k4 ?k5 ?kA ?kF ?kK ?k6 ?k7 ?k8 ?k9 ?kB ?_ ?c2 ?c3 ?c4 ?c5; (case kA => exact rfl); (case kF => exact rfl); (case kK => exact rfl); (case k2 => k_asm); (case k1 => k_asm); (case k3 => k_asm); (case k4 => k_asm); (case k5 => k_asm); (case k6 => k_is); (case k7 => k_is); (case k8 => k_room); (case k9 => first | exact binds_K (by k_in) rfl (by k_is) rfl rfl rfl | exact BindsTo.of_eq rfl); (case kB => exact locs rfl); (case c2 => exact rfl); (case c3 => exact rfl); (case c4 => exact rfl); (case c5 => decide); k_whole; intro g' L' h' FG' F' N' B' X' T' D'; (try dsimp only); (try k_lift B'); (try k_fold))
  w_strict k_steps
  all_goals (refine hQ _ _ _ ?_ (by assumption) ?_; rotate_left; (walk_at "my_sub"); (walk_at "my_bool"))
set_option maxRecDepth 100000 in
set_option maxHeartbeats 4000000 in
theorem nqu_K {w : World} {base h₀ : Heap} {L a : Addr} {cl : List (Str × Addr)} {cn : Str} {nms : List (Str × NameKind)} {ig ic : Bool} {mo} {ccd : Value} {m mg mb : Str → Option Value} {news : List (Addr × Obj)} {s : Shared} {p : Program} {loose : List Str} {mean : ExcName → Option Value} {Q : Value → Shared → Prop} {E : Value → Shared → Prop} {x dx y dy : Addr} {κ ε : Nat → Tok} {c1 r1 c2 r2 d1 s1 d2 s2 v1 v2 : Int} {k1 k2 : Tok}
  (B : Below (AK 640 2300 []) base [] h₀) (F : Fr h₀ L s.heap m) (X₀ : (hd.heap_39 w.params).In h₀) (T : Top p loose mean mg mb h₀) (XB : (hd.heap_39 w.params).In base) (TB : Top p loose mean mg mb base) (i1 : 0 ≤ v1 ∧ v1 ≤ 3) (i2 : 0 ≤ v2 ∧ v2 ≤ 3)(hx : (x, instObj 349 dx) ∈ news) (hdx : (dx, crD w κ c1 r1 c2 r2 (tval v1 k1)) ∈ news) (hy : (y, instObj 349 dy) ∈ news) (hdy : (dy, crD w ε d1 s1 d2 s2 (tval v2 k2)) ∈ news)(hf : v2 ≠ 0 ∧ v1 ≠ v2) (N : News h₀ L s.heap news)
  (hQ : ∀ b h' tk', b = true → Fr h₀ L h' m → News h₀ L h' news → Q (.bool b) { s with heap := h', toks := tk' }) :
  wpAny (model PR w) ((AK 640 2300 []).deeper (envX cn ⟨.function, nms, ig, ic, mo⟩ L a ccd cl)) (PySem.call (.ref 228) [.ref x, .ref y]) Q E s := by
  have F' := F
  refine wpAny_call ?_
  (refine' enter_try ?k1 ?k2 ?k3 ?k4 ?k5 ?kA ?kF ?kK ?k6 ?k7 ?k8 ?k9 ?kB ?_ ?c2 ?c3 ?c4 ?c5; (case kA => exact rfl); (case kF => exact rfl); (case kK => exact rfl); (case k2 => k_asm); (case k1 => k_asm); (case k3 => k_asm); (case k4 => k_asm); (case k5 => k_asm); (case k6 => k_is); (case k7 => k_is); (case k8 => k_room); (case k9 => first | exact binds_K (by k_in) rfl (by k_is) rfl rfl rfl | exact BindsTo.of_eq rfl); (case kB => exact locs rfl); (case c2 => exact rfl); (case c3 => exact rfl); (case c4 => exact rfl); (case c5 => decide); k_whole; intro g' L' h' FG' F' N' B' X' T' D'; (try dsimp only); (try k_lift B'); (try k_fold))
  w_strict k_steps
  all_goals (refine hQ _ _ _ (by decide) (by assumption) ?_; (walk_at "my_sub"))
theorem nq_C {A : Around} {w : World} {base h₀ : Heap} {L a : Addr} {cl : List (Str × Addr)} {cn : Str} {nms : List (Str × NameKind)} {ig ic : Bool} {mo} {ccd : Value} {m mg mb : Str → Option Value} {news : List (Addr × Obj)} {s : Shared} {p : Program} {loose : List Str} {mean : ExcName → Option Value} {Q : Value → Shared → Prop} {E : Value → Shared → Prop} {x dx y dy : Addr} {κ ε : Nat → Tok} {c1 r1 c2 r2 d1 s1 d2 s2 v1 v2 : Int} {k1 k2 : Tok}
  (h1 : A.handled = none) (h2 : A.depth ≤ 640) (h5 : A.units ≤ 2300) (B : Below A base [] h₀) (F : Fr h₀ L s.heap m) (X₀ : (hd.heap_39 w.params).In h₀) (T : Top p loose mean mg mb h₀) (XB : (hd.heap_39 w.params).In base) (TB : Top p loose mean mg mb base) (i1 : 0 ≤ v1 ∧ v1 ≤ 3) (i2 : 0 ≤ v2 ∧ v2 ≤ 3)(hx : (x, instObj 349 dx) ∈ news) (hdx : (dx, crD w κ c1 r1 c2 r2 (tval v1 k1)) ∈ news) (hy : (y, instObj 349 dy) ∈ news) (hdy : (dy, crD w ε d1 s1 d2 s2 (tval v2 k2)) ∈ news) (N : News h₀ L s.heap news)
  (hQ : ∀ b h' tk', (b = true ↔ (¬ ((v2 = 0 ∨ v1 = v2) ∧ c1 = d1 ∧ r1 = s1 ∧ c2 = d2 ∧ r2 = s2))) → Fr h₀ L h' m → News h₀ L h' news → Q (.bool b) { s with heap := h', toks := tk' }) :
  wpAny (model PR w) (A.deeper (envX cn ⟨.function, nms, ig, ic, mo⟩ L a ccd cl)) (PySem.call (.ref 228) [.ref x, .ref y]) Q E s :=
  to_AK h1 h2 h5 B fun B' => by
    by_cases hf : v2 = 0 ∨ v1 = v2
    · exact nqf_K B' F X₀ T XB TB i1 i2 hx hdx hy hdy hf N fun b h' tk' e F' N' => hQ b h' tk' (by rw [e]; constructor <;> intro z <;> omega) F' N'
    · exact nqu_K B' F X₀ T XB TB i1 i2 hx hdx hy hdy (by omega) N fun b h' tk' e F' N' => hQ b h' tk' (by rw [e]; constructor <;> intro z <;> first | (exfalso; cases z; done) | (exfalso; omega) | omega | rfl) F' N'
end Mine

end
section
open PySem PySem.W PySem.W.X PyProof.Rows
namespace Mine
local macro_rules | `(tactic| walk_at "pad") => `(tactic| fail "pad")
theorem and3L4 {a b c : Prop} (h : a ∧ b ∧ c) : c := h.2.2
theorem and4L4 {a b c d : Prop} (h : a ∧ b ∧ c ∧ d) : d := h.2.2.2
theorem and5L4 {a b c d e : Prop} (h : a ∧ b ∧ c ∧ d ∧ e) : e := h.2.2.2.2
local macro_rules | `(tactic| k_all) => `(tactic| assumption)
local macro_rules | `(tactic| k_mem) => `(tactic| assumption)
local macro_rules | `(tactic| walk_at "my_sub") => `(tactic| (refine news_sub (by assumption) ?_; intro p hp; (repeat (first | exact hp | refine List.Mem.tail _ ?_))))
local macro_rules | `(tactic| walk_at "my_bool") => `(tactic| ((try unfold lex4 at *); (try simp only [decide_eq_true_eq, Bool.false_eq_true, true_iff, false_iff]); first | omega | ((rename (@Iff (_ = true) _) => eA); (rename (_ = true) => aB); have pB := eA.mp aB; omega) | ((rename (@Iff (_ = true) _) => eA); (rename (_ = false) => aB); have pB := mt eA.mpr (by rw [aB]; exact Bool.false_ne_true); omega) | ((rename (@Iff (_ = true) _) => eA; rw [eA]); (try (revert eA; rename (@Iff (_ = true) _) => eB; intro eA; rename (_ = true) => aB; have pB := eB.mp aB)); (try (rename (_ = false) => aB; have pB := mt eA.mpr (by rw [aB]; exact Bool.false_ne_true))); omega)))

local macro_rules | `(tactic| k_handed) => `(tactic| exact tval_handed _ _)
local macro_rules | `(tactic| walk_at "truthy") => `(tactic| (k_here; (with_reducible show wpAny _ _ (truthy (tval _ _)) _ _ _); (with_reducible refine' truthy_tval ?a1 ?_); (case a1 => first | assumption | omega); k_whole))
local macro_rules | `(tactic| walk_at "compareOp Is none") => `(tactic| (k_here; (with_reducible show wpAny _ _ (compareOp _ (tval _ _) _) _ _ _); (with_reducible refine' isNone_tval ?a1 ?_); (case a1 => first | assumption | omega); k_whole))
local macro_rules | `(tactic| walk_at "compareOp NotEq") => `(tactic| (k_here; (with_reducible show wpAny _ _ (compareOp _ (tval _ _) (tval _ _)) _ _ _); (with_reducible refine' ne_tval ?a1 ?a2 ?_); (case a1 => first | assumption | omega); (case a2 => first | assumption | omega); k_whole))
local macro_rules | `(tactic| walk_at "compareOp Eq") => `(tactic| (k_here; (with_reducible show wpAny _ _ (compareOp _ (tval _ _) (tval _ _)) _ _ _); (with_reducible refine' eq_tval ?a1 ?a2 ?_); (case a1 => first | assumption | omega); (case a2 => first | assumption | omega); k_whole))
local macro_rules | `(tactic| walk_at "compareChain") => `(tactic| (k_here; (with_reducible show wpAny _ _ (compareChain _ _ (_ :: _ :: _) (_ :: evalEach _ _)) _ _ _); refine chain_link ?_))
local macro_rules | `(tactic| walk_at "my_tops") => `(tactic| ((rename Top _ _ _ _ _ _ => tp1; have tr1 := topRead_of tp1); (try (revert tp1; (rename Top _ _ _ _ _ _ => tp2; have tr2 := topRead_of tp2); (try (revert tp2; (rename Top _ _ _ _ _ _ => tp3; have tr3 := topRead_of tp3); (try (revert tp3; (rename Top _ _ _ _ _ _ => tp4; have tr4 := topRead_of tp4); intro tp3)); intro tp2)); intro tp1))))
local macro_rules | `(tactic| walk_at "noteFrame ref") => `(tactic| (k_here; (walk_at "my_tops"); (rename RaisedK _ _ _ _ _ _ _ _ => rkX); k_caught0; intro h' n₂ F' N₂ G' N'; (try k_sweep)))
local macro_rules | `(tactic| walk_at "my_alt") => `(tactic| first | assumption | exact and3L4 (by assumption) | exact and4L4 (by assumption) | exact and5L4 (by assumption))
local macro_rules | `(tactic| walk_at "my_mem") => `(tactic| (repeat (first | exact List.Mem.head _ | refine List.Mem.tail _ ?_)))
local macro_rules | `(tactic| walk_at "call ref") => `(tactic| (k_here; (with_reducible show wpAny _ _ (PySem.call (Value.ref 199) _) _ _ _); k_dflt ((refine' ct_C ?q1 ?q2 ?q3 ?B ?F ?X ?T ?z0 ?z1 ?z2 ?z3 ?z4 ?z5 ?z6 ?N ?_); (case B => k_asm); (case F => k_asm); (case X => assumption); (case T => assumption); (case N => k_asm); (case z2 => (repeat (first | assumption | exact List.Mem.head _ | refine List.Mem.tail _ ?_))); (case z3 => (repeat (first | assumption | exact List.Mem.head _ | refine List.Mem.tail _ ?_))); (case z4 => (repeat (first | assumption | exact List.Mem.head _ | refine List.Mem.tail _ ?_))); (case z5 => (repeat (first | assumption | exact List.Mem.head _ | refine List.Mem.tail _ ?_))); (case z0 => omega); (case z1 => omega); (case z6 => omega); (case q1 => rfl); (case q2 => exact Nat.le_of_ble_eq_true rfl); (case q3 => exact Nat.le_of_ble_eq_true rfl); k_whole; intro h' tk' F' N')))
local macro_rules | `(tactic| walk_at "call ref") => `(tactic| (k_here; (with_reducible show wpAny _ _ (PySem.call (Value.ref 256) _) _ _ _); k_dflt ((refine' su_C ?q1 ?q2 ?q3 ?B ?F ?X ?T ?z0 ?z1 ?z2 ?z3 ?z4 ?z5 ?z6 ?z7 ?N ?_); (case B => k_asm); (case F => k_asm); (case X => assumption); (case T => assumption); (case N => k_asm); (case z4 => (repeat (first | assumption | exact List.Mem.head _ | refine List.Mem.tail _ ?_))); (case z5 => (repeat (first | assumption | exact List.Mem.head _ | refine List.Mem.tail _ ?_))); (case z6 => (repeat (first | assumption | exact List.Mem.head _ | refine List.Mem.tail _ ?_))); (case z7 => (repeat (first | assumption | exact List.Mem.head _ | refine List.Mem.tail _ ?_))); (case z0 => omega); (case z1 => omega); (case z2 => omega); (case z3 => omega); (case q1 => rfl); (case q2 => exact Nat.le_of_ble_eq_true rfl); (case q3 => exact Nat.le_of_ble_eq_true rfl); k_whole; intro b' h' tk' e' F' N')))
local macro_rules | `(tactic| walk_at "call ref") => `(tactic| (k_here; (with_reducible show wpAny _ _ (PySem.call (Value.ref 228) _) _ _ _); k_dflt ((refine' ne_C ?q1 ?q2 ?q3 ?B ?F ?X ?T ?z0 ?z1 ?z2 ?z3 ?z4 ?z5 ?z6 ?N ?_); (case B => k_asm); (case F => k_asm); (case X => assumption); (case T => assumption); (case N => k_asm); (case z2 => (repeat (first | assumption | exact List.Mem.head _ | refine List.Mem.tail _ ?_))); (case z3 => (repeat (first | assumption | exact List.Mem.head _ | refine List.Mem.tail _ ?_))); (case z4 => (repeat (first | assumption | exact List.Mem.head _ | refine List.Mem.tail _ ?_))); (case z5 => (repeat (first | assumption | exact List.Mem.head _ | refine List.Mem.tail _ ?_))); (case z0 => omega); (case z1 => omega); (case z6 => omega); (case q1 => rfl); (case q2 => exact Nat.le_of_ble_eq_true rfl); (case q3 => exact Nat.le_of_ble_eq_true rfl); k_whole; intro b' h' tk' e' F' N')))
local macro_rules | `(tactic| walk_at "call ref") => `(tactic| (k_here; (with_reducible show wpAny _ _ (PySem.call (Value.ref 284) _) _ _ _); k_dflt ((refine' dj_C ?q1 ?q2 ?q3 ?B ?F ?X ?T ?z0 ?z1 ?z2 ?z3 ?z4 ?z5 ?z6 ?z7 ?z8 ?z9 ?z10 ?N ?_); (case B => k_asm); (case F => k_asm); (case X => assumption); (case T => assumption); (case N => k_asm); (case z6 => (repeat (first | assumption | exact List.Mem.head _ | refine List.Mem.tail _ ?_))); (case z7 => (repeat (first | assumption | exact List.Mem.head _ | refine List.Mem.tail _ ?_))); (case z8 => (repeat (first | assumption | exact List.Mem.head _ | refine List.Mem.tail _ ?_))); (case z9 => (repeat (first | assumption | exact List.Mem.head _ | refine List.Mem.tail _ ?_))); (case z0 => omega); (case z1 => omega); (case z2 => omega); (case z3 => omega); (case z4 => omega); (case z5 => omega); (case z10 => omega); (case q1 => rfl); (case q2 => exact Nat.le_of_ble_eq_true rfl); (case q3 => exact Nat.le_of_ble_eq_true rfl); k_whole; intro b' h' tk' e' F' N')))
local macro_rules | `(tactic| walk_at "call ref") => `(tactic| (k_here; (with_reducible show wpAny _ _ (PySem.call (Value.ref 349) [] _) _ _ _); k_dflt ((refine' crn_C ?q1 ?q2 ?q3 ?B ?F ?X ?T ?c ?r ?N ?_); (case B => k_asm); (case F => k_asm); (case X => assumption); (case T => assumption); (case c => first | omega | (split <;> split <;> omega) | ((rename (@Iff (_ = true) _) => eA); (rename (_ = false) => aB); have pB := mt eA.mpr (by rw [aB]; exact Bool.false_ne_true); (split <;> split <;> omega))); (case r => first | omega | (split <;> split <;> omega) | ((rename (@Iff (_ = true) _) => eA); (rename (_ = false) => aB); have pB := mt eA.mpr (by rw [aB]; exact Bool.false_ne_true); (split <;> split <;> omega))); (case N => k_asm); (case q1 => rfl); (case q2 => exact Nat.le_of_ble_eq_true rfl); (case q3 => exact Nat.le_of_ble_eq_true rfl); k_whole; intro x' d' κ' h' tk' F' N' l1)))
local macro_rules | `(tactic| walk_at "call ref") => `(tactic| (k_here; (with_reducible show wpAny _ _ (PySem.call (Value.ref 349) [] _) _ _ _); k_dflt ((refine' crk_C ?q1 ?q2 ?q3 ?B ?F ?X ?T ?c ?r ?N ?_); (case B => k_asm); (case F => k_asm); (case X => assumption); (case T => assumption); (case c => first | omega | (split <;> split <;> omega) | ((rename (@Iff (_ = true) _) => eA); (rename (_ = false) => aB); have pB := mt eA.mpr (by rw [aB]; exact Bool.false_ne_true); (split <;> split <;> omega))); (case r => first | omega | (split <;> split <;> omega) | ((rename (@Iff (_ = true) _) => eA); (rename (_ = false) => aB); have pB := mt eA.mpr (by rw [aB]; exact Bool.false_ne_true); (split <;> split <;> omega))); (case N => k_asm); (case q1 => rfl); (case q2 => exact Nat.le_of_ble_eq_true rfl); (case q3 => exact Nat.le_of_ble_eq_true rfl); k_whole; intro x' d' κ' h' tk' F' N' l1)))
set_option maxRecDepth 100000 in
set_option maxHeartbeats 4000000 in
theorem ld0f_K {w : World} {base h₀ : Heap} {L a : Addr} {cl : List (Str × Addr)} {cn : Str} {nms : List (Str × NameKind)} {ig ic : Bool} {mo} {ccd : Value} {m mg mb : Str → Option Value} {news : List (Addr × Obj)} {s : Shared} {p : Program} {loose : List Str} {mean : ExcName → Option Value} {Q : Value → Shared → Prop} {E : Value → Shared → Prop} {x dx y dy : Addr} {κ ε : Nat → Tok} {c1 r1 c2 r2 d1 s1 d2 s2 v1 v2 : Int} {k1 k2 : Tok} {tk : Tok}
  (B : Below (AK 640 2300 []) base [] h₀) (F : Fr h₀ L s.heap m) (X₀ : (hd.heap_39 w.params).In h₀) (T : Top p loose mean mg mb h₀) (XB : (hd.heap_39 w.params).In base) (TB : Top p loose mean mg mb base) (i1 : 0 ≤ v1 ∧ v1 ≤ 3) (i2 : 0 ≤ v2 ∧ v2 ≤ 3) (hc : c1 ≤ c2) (hr : r1 ≤ r2) (hd : d1 ≤ d2) (hs : s1 ≤ s2) (hx : (x, instObj 349 dx) ∈ news) (hdx : (dx, crD w κ c1 r1 c2 r2 (tval v1 k1)) ∈ news) (hy : (y, instObj 349 dy) ∈ news) (hdy : (dy, crD w ε d1 s1 d2 s2 (tval v2 k2)) ∈ news)(hf : v2 = 0 ∨ v1 = v2) (N : News h₀ L s.heap news)
  (hQ : ∀ b h' tk', (b = true ↔ (d1 ≤ c1 ∧ c2 ≤ d2 ∧ s1 ≤ r1 ∧ r2 ≤ s2)) → Fr h₀ L h' m → News h₀ L h' news → Q (.bool b) { s with heap := h', toks := tk' }) :
  wpAny (model PR w) ((AK 640 2300 []).deeper (envX cn ⟨.function, nms, ig, ic, mo⟩ L a ccd cl)) (PySem.call (.ref 381) [.int 0 tk, .ref x, .ref y]) Q E s := by
  have F' := F
  refine wpAny_call ?_
  (refine' enter_try ?k1 ?k2 ?k3 ?k4 ?k5 ?kA ?kF ?kK ?k6 ?k7 ?k8 ?k9 ?kB ?_ ?c2 ?c3 ?c4 ?c5; (case kA => exact rfl); (case kF => exact rfl); (case kK => exact rfl); (case k2 => k_asm); (case k1 => k_asm); (case k3 => k_asm); (case k4 => k_asm); (case k5 => k_asm); (case k6 => k_is); (case k7 => k_is); (case k8 => k_room); (case k9 => first | exact binds_K (by k_in) rfl (by k_is) rfl rfl rfl | exact BindsTo.of_eq rfl); (case kB => exact locs rfl); (case c2 => exact rfl); (case c3 => exact rfl); (case c4 => exact rfl); (case c5 => decide); k_whole; intro g' L' h' FG' F' N' B' X' T' D'; (try dsimp only); (try k_lift B'); (try k_fold))
  w_strict k_steps
  all_goals (refine hQ _ _ _ ?_ (by assumption) ?_; rotate_left; (walk_at "my_sub"); (walk_at "my_bool"))
set_option maxRecDepth 100000 in
set_option maxHeartbeats 4000000 in
theorem ld0u_K {w : World} {base h₀ : Heap} {L a : Addr} {cl : List (Str × Addr)} {cn : Str} {nms : List (Str × NameKind)} {ig ic : Bool} {mo} {ccd : Value} {m mg mb : Str → Option Value} {news : List (Addr × Obj)} {s : Shared} {p : Program} {loose : List Str} {mean : ExcName → Option Value} {Q : Value → Shared → Prop} {E : Value → Shared → Prop} {x dx y dy : Addr} {κ ε : Nat → Tok} {c1 r1 c2 r2 d1 s1 d2 s2 v1 v2 : Int} {k1 k2 : Tok} {tk : Tok}
  (B : Below (AK 640 2300 []) base [] h₀) (F : Fr h₀ L s.heap m) (X₀ : (hd.heap_39 w.params).In h₀) (T : Top p loose mean mg mb h₀) (XB : (hd.heap_39 w.params).In base) (TB : Top p loose mean mg mb base) (i1 : 0 ≤ v1 ∧ v1 ≤ 3) (i2 : 0 ≤ v2 ∧ v2 ≤ 3) (hc : c1 ≤ c2) (hr : r1 ≤ r2) (hd : d1 ≤ d2) (hs : s1 ≤ s2) (hx : (x, instObj 349 dx) ∈ news) (hdx : (dx, crD w κ c1 r1 c2 r2 (tval v1 k1)) ∈ news) (hy : (y, instObj 349 dy) ∈ news) (hdy : (dy, crD w ε d1 s1 d2 s2 (tval v2 k2)) ∈ news)(hf : v2 ≠ 0 ∧ v1 ≠ v2) (N : News h₀ L s.heap news)
  (hQ : ∀ k h' tk', Fr h₀ L h' m → News h₀ L h' news → Q (.str (Str.ofString "refused") k) { s with heap := h', toks := tk' }) :
  wpAny (model PR w) ((AK 640 2300 []).deeper (envX cn ⟨.function, nms, ig, ic, mo⟩ L a ccd cl)) (PySem.call (.ref 381) [.int 0 tk, .ref x, .ref y]) Q E s := by
  have F' := F
  refine wpAny_call ?_
  (refine' enter_try ?k1 ?k2 ?k3 ?k4 ?k5 ?kA ?kF ?kK ?k6 ?k7 ?k8 ?k9 ?kB ?_ ?c2 ?c3 ?c4 ?c5; (case kA => exact rfl); (case kF => exact rfl); (case kK => exact rfl); (case k2 => k_asm); (case k1 => k_asm); (case k3 => k_asm); (case k4 => k_asm); (case k5 => k_asm); (case k6 => k_is); (case k7 => k_is); (case k8 => k_room); (case k9 => first | exact binds_K (by k_in) rfl (by k_is) rfl rfl rfl | exact BindsTo.of_eq rfl); (case kB => exact locs rfl); (case c2 => exact rfl); (case c3 => exact rfl); (case c4 => exact rfl); (case c5 => decide); k_whole; intro g' L' h' FG' F' N' B' X' T' D'; (try dsimp only); (try k_lift B'); (try k_fold))
  w_strict k_steps
  all_goals (refine hQ _ _ _ (by assumption) ?_; (walk_at "my_sub"))
set_option maxRecDepth 100000 in
set_option maxHeartbeats 4000000 in
theorem ld1f_K {w : World} {base h₀ : Heap} {L a : Addr} {cl : List (Str × Addr)} {cn : Str} {nms : List (Str × NameKind)} {ig ic : Bool} {mo} {ccd : Value} {m mg mb : Str → Option Value} {news : List (Addr × Obj)} {s : Shared} {p : Program} {loose : List Str} {mean : ExcName → Option Value} {Q : Value → Shared → Prop} {E : Value → Shared → Prop} {x dx y dy : Addr} {κ ε : Nat → Tok} {c1 r1 c2 r2 d1 s1 d2 s2 v1 v2 : Int} {k1 k2 : Tok} {tk : Tok}
  (B : Below (AK 640 2300 []) base [] h₀) (F : Fr h₀ L s.heap m) (X₀ : (hd.heap_39 w.params).In h₀) (T : Top p loose mean mg mb h₀) (XB : (hd.heap_39 w.params).In base) (TB : Top p loose mean mg mb base) (i1 : 0 ≤ v1 ∧ v1 ≤ 3) (i2 : 0 ≤ v2 ∧ v2 ≤ 3) (hc : c1 ≤ c2) (hr : r1 ≤ r2) (hd : d1 ≤ d2) (hs : s1 ≤ s2) (hx : (x, instObj 349 dx) ∈ news) (hdx : (dx, crD w κ c1 r1 c2 r2 (tval v1 k1)) ∈ news) (hy : (y, instObj 349 dy) ∈ news) (hdy : (dy, crD w ε d1 s1 d2 s2 (tval v2 k2)) ∈ news)(hf : v2 = 0 ∨ v1 = v2) (N : News h₀ L s.heap news)
  (hQ : ∀ b h' tk', (b = true ↔ ((c1 ≤ d1 ∧ d2 ≤ c2 ∧ r1 ≤ s1 ∧ s2 ≤ r2) ∧ ¬ (c1 = d1 ∧ c2 = d2 ∧ r1 = s1 ∧ r2 = s2))) → Fr h₀ L h' m → News h₀ L h' news → Q (.bool b) { s with heap := h', toks := tk' }) :
  wpAny (model PR w) ((AK 640 2300 []).deeper (envX cn ⟨.function, nms, ig, ic, mo⟩ L a ccd cl)) (PySem.call (.ref 381) [.int 1 tk, .ref x, .ref y]) Q E s := by
  have F' := F
  refine wpAny_call ?_
  (refine' enter_try ?k1 ?k2 ?k3 ?k4 ?k5 ?kA ?kF ?kK ?k6 ?k7 ?k8 ?k9 ?kB ?_ ?c2 ?c3 ?c4 ?c5; (case kA => exact rfl); (case kF => exact rfl); (case kK => exact rfl); (case k2 => k_asm); (case k1 => k_asm); (case k3 => k_asm); (case k4 => k_asm); (case k5 => k_asm); (case k6 => k_is); (case k7 => k_is); (case k8 => k_room); (case k9 => first | exact binds_K (by k_in) rfl (by k_is) rfl rfl rfl | exact BindsTo.of_eq rfl); (case kB => exact locs rfl); (case c2 => exact rfl); (case c3 => exact rfl); (case c4 => exact rfl); (case c5 => decide); k_whole; intro g' L' h' FG' F' N' B' X' T' D'; (try dsimp only); (try k_lift B'); (try k_fold))
  k_steps
  all_goals (refine hQ _ _ _ ?_ (by assumption) ?_; rotate_left; (walk_at "my_sub"); (walk_at "my_bool"))
set_option maxRecDepth 100000 in
set_option maxHeartbeats 4000000 in
theorem ld1u_K {w : World} {base h₀ : Heap} {L a : Addr} {cl : List (Str × Addr)} {cn : Str} {nms : List (Str × NameKind)} {ig ic : Bool} {mo} {ccd : Value} {m mg mb : Str → Option Value} {news : List (Addr × Obj)} {s : Shared} {p : Program} {loose : List Str} {mean : ExcName → Option Value} {Q : Value → Shared → Prop} {E : Value → Shared → Prop} {x dx y dy : Addr} {κ ε : Nat → Tok} {c1 r1 c2 r2 d1 s1 d2 s2 v1 v2 : Int} {k1 k2 : Tok} {tk : Tok}
  (B : Below (AK 640 2300 []) base [] h₀) (F : Fr h₀ L s.heap m) (X₀ : (hd.heap_39 w.params).In h₀) (T : Top p loose mean mg mb h₀) (XB : (hd.heap_39 w.params).In base) (TB : Top p loose mean mg mb base) (i1 : 0 ≤ v1 ∧ v1 ≤ 3) (i2 : 0 ≤ v2 ∧ v2 ≤ 3) (hc : c1 ≤ c2) (hr : r1 ≤ r2) (hd : d1 ≤ d2) (hs : s1 ≤ s2) (hx : (x, instObj 349 dx) ∈ news) (hdx : (dx, crD w κ c1 r1 c2 r2 (tval v1 k1)) ∈ news) (hy : (y, instObj 349 dy) ∈ news) (hdy : (dy, crD w ε d1 s1 d2 s2 (tval v2 k2)) ∈ news)(hf : v2 ≠ 0 ∧ v1 ≠ v2) (N : News h₀ L s.heap news)
  (hQ : ∀ k h' tk', Fr h₀ L h' m → News h₀ L h' news → Q (.str (Str.ofString "refused") k) { s with heap := h', toks := tk' }) :
  wpAny (model PR w) ((AK 640 2300 []).deeper (envX cn ⟨.function, nms, ig, ic, mo⟩ L a ccd cl)) (PySem.call (.ref 381) [.int 1 tk, .ref x, .ref y]) Q E s := by
  have F' := F
  refine wpAny_call ?_
  (refine' enter_try ?k1 ?k2 ?k3 ?k4 ?k5 ?kA ?kF ?kK ?k6 ?k7 ?k8 ?k9 ?kB ?_ ?c2 ?c3 ?c4 ?c5; (case kA => exact rfl); (case kF => exact rfl); (case kK => exact rfl); (case k2 => k_asm); (case k1 => k_asm); (case k3 => k_asm); (case k4 => k_asm); (case k5 => k_asm); (case k6 => k_is); (case k7 => k_is); (case k8 => k_room); (case k9 => first | exact binds_K (by k_in) rfl (by k_is) rfl rfl rfl | exact BindsTo.of_eq rfl); (case kB => exact locs rfl); (case c2 => exact rfl); (case c3 => exact rfl); (case c4 => exact rfl); (case c5 => decide); k_whole; intro g' L' h' FG' F' N' B' X' T' D'; (try dsimp only); (try k_lift B'); (try k_fold))
  w_strict k_steps
  all_goals (refine hQ _ _ _ (by assumption) ?_; (walk_at "my_sub"))
set_option maxRecDepth 100000 in
set_option maxHeartbeats 4000000 in
theorem ld2f_K {w : World} {base h₀ : Heap} {L a : Addr} {cl : List (Str × Addr)} {cn : Str} {nms : List (Str × NameKind)} {ig ic : Bool} {mo} {ccd : Value} {m mg mb : Str → Option Value} {news : List (Addr × Obj)} {s : Shared} {p : Program} {loose : List Str} {mean : ExcName → Option Value} {Q : Value → Shared → Prop} {E : Value → Shared → Prop} {x dx y dy : Addr} {κ ε : Nat → Tok} {c1 r1 c2 r2 d1 s1 d2 s2 v1 v2 : Int} {k1 k2 : Tok} {tk : Tok}
  (B : Below (AK 640 2300 []) base [] h₀) (F : Fr h₀ L s.heap m) (X₀ : (hd.heap_39 w.params).In h₀) (T : Top p loose mean mg mb h₀) (XB : (hd.heap_39 w.params).In base) (TB : Top p loose mean mg mb base) (i1 : 0 ≤ v1 ∧ v1 ≤ 3) (i2 : 0 ≤ v2 ∧ v2 ≤ 3) (hc : c1 ≤ c2) (hr : r1 ≤ r2) (hd : d1 ≤ d2) (hs : s1 ≤ s2) (hx : (x, instObj 349 dx) ∈ news) (hdx : (dx, crD w κ c1 r1 c2 r2 (tval v1 k1)) ∈ news) (hy : (y, instObj 349 dy) ∈ news) (hdy : (dy, crD w ε d1 s1 d2 s2 (tval v2 k2)) ∈ news)(hf : v2 = 0 ∨ v1 = v2) (N : News h₀ L s.heap news)
  (hQ : ∀ b h' tk', (b = true ↔ (c2 < d1 ∨ d2 < c1 ∨ r2 < s1 ∨ s2 < r1)) → Fr h₀ L h' m → News h₀ L h' news → Q (.bool b) { s with heap := h', toks := tk' }) :
  wpAny (model PR w) ((AK 640 2300 []).deeper (envX cn ⟨.function, nms, ig, ic, mo⟩ L a ccd cl)) (PySem.call (.ref 381) [.int 2 tk, .ref x, .ref y]) Q E s := by
  have F' := F
  refine wpAny_call ?_
  (refine' enter_try ?k1 ?k2 ?k3 ?k4 ?k5 ?kA ?kF ?kK ?k6 ?k7 ?k8 ?k9 ?kB ?_ ?c2 ?c3 ?c4 ?c5; (case kA => exact rfl); (case kF => exact rfl); (case kK => exact rfl); (case k2 => k_asm); (case k1 => k_asm); (case k3 => k_asm); (case k4 => k_asm); (case k5 => k_asm); (case k6 => k_is); (case k7 => k_is); (case k8 => k_room); (case k9 => first | exact binds_K (by k_in) rfl (by k_is) rfl rfl rfl | exact BindsTo.of_eq rfl); (case kB => exact locs rfl); (case c2 => exact rfl); (case c3 => exact rfl); (case c4 => exact rfl); (case c5 => decide); k_whole; intro g' L' h' FG' F' N' B' X' T' D'; (try dsimp only); (try k_lift B'); (try k_fold))
  w_strict k_steps
  all_goals (refine hQ _ _ _ ?_ (by assumption) ?_; rotate_left; (walk_at "my_sub"); (walk_at "my_bool"))
set_option maxRecDepth 100000 in
set_option maxHeartbeats 4000000 in
theorem ld2u_K {w : World} {base h₀ : Heap} {L a : Addr} {cl : List (Str × Addr)} {cn : Str} {nms : List (Str × NameKind)} {ig ic : Bool} {mo} {ccd : Value} {m mg mb : Str → Option Value} {news : List (Addr × Obj)} {s : Shared} {p : Program} {loose : List Str} {mean : ExcName → Option Value} {Q : Value → Shared → Prop} {E : Value → Shared → Prop} {x dx y dy : Addr} {κ ε : Nat → Tok} {c1 r1 c2 r2 d1 s1 d2 s2 v1 v2 : Int} {k1 k2 : Tok} {tk : Tok}
  (B : Below (AK 640 2300 []) base [] h₀) (F : Fr h₀ L s.heap m) (X₀ : (hd.heap_39 w.params).In h₀) (T : Top p loose mean mg mb h₀) (XB : (hd.heap_39 w.params).In base) (TB : Top p loose mean mg mb base) (i1 : 0 ≤ v1 ∧ v1 ≤ 3) (i2 : 0 ≤ v2 ∧ v2 ≤ 3) (hc : c1 ≤ c2) (hr : r1 ≤ r2) (hd : d1 ≤ d2) (hs : s1 ≤ s2) (hx : (x, instObj 349 dx) ∈ news) (hdx : (dx, crD w κ c1 r1 c2 r2 (tval v1 k1)) ∈ news) (hy : (y, instObj 349 dy) ∈ news) (hdy : (dy, crD w ε d1 s1 d2 s2 (tval v2 k2)) ∈ news)(hf : v2 ≠ 0 ∧ v1 ≠ v2) (N : News h₀ L s.heap news)
  (hQ : ∀ k h' tk', Fr h₀ L h' m → News h₀ L h' news → Q (.str (Str.ofString "refused") k) { s with heap := h', toks := tk' }) :
  wpAny (model PR w) ((AK 640 2300 []).deeper (envX cn ⟨.function, nms, ig, ic, mo⟩ L a ccd cl)) (PySem.call (.ref 381) [.int 2 tk, .ref x, .ref y]) Q E s := by
  have F' := F
  refine wpAny_call ?_
  (refine' enter_try ?k1 ?k2 ?k3 ?k4 ?k5 ?kA ?kF ?kK ?k6 ?k7 ?k8 ?k9 ?kB ?_ ?c2 ?c3 ?c4 ?c5; (case kA => exact rfl); (case kF => exact rfl); (case kK => exact rfl); (case k2 => k_asm); (case k1 => k_asm); (case k3 => k_asm); (case k4 => k_asm); (case k5 => k_asm); (case k6 => k_is); (case k7 => k_is); (case k8 => k_room); (case k9 => first | exact binds_K (by k_in) rfl (by k_is) rfl rfl rfl | exact BindsTo.of_eq rfl); (case kB => exact locs rfl); (case c2 => exact rfl); (case c3 => exact rfl); (case c4 => exact rfl); (case c5 => decide); k_whole; intro g' L' h' FG' F' N' B' X' T' D'; (try dsimp only); (try k_lift B'); (try k_fold))
  w_strict k_steps
  all_goals (refine hQ _ _ _ (by assumption) ?_; (walk_at "my_sub"))
set_option maxRecDepth 100000 in
set_option maxHeartbeats 4000000 in
theorem ld3f_K {w : World} {base h₀ : Heap} {L a : Addr} {cl : List (Str × Addr)} {cn : Str} {nms : List (Str × NameKind)} {ig ic : Bool} {mo} {ccd : Value} {m mg mb : Str → Option Value} {news : List (Addr × Obj)} {s : Shared} {p : Program} {loose : List Str} {mean : ExcName → Option Value} {Q : Value → Shared → Prop} {E : Value → Shared → Prop} {x dx y dy : Addr} {κ ε : Nat → Tok} {c1 r1 c2 r2 d1 s1 d2 s2 v1 v2 : Int} {k1 k2 : Tok} {tk : Tok}
  (B : Below (AK 640 2300 []) base [] h₀) (F : Fr h₀ L s.heap m) (X₀ : (hd.heap_39 w.params).In h₀) (T : Top p loose mean mg mb h₀) (XB : (hd.heap_39 w.params).In base) (TB : Top p loose mean mg mb base) (i1 : 0 ≤ v1 ∧ v1 ≤ 3) (i2 : 0 ≤ v2 ∧ v2 ≤ 3) (hc : c1 ≤ c2) (hr : r1 ≤ r2) (hd : d1 ≤ d2) (hs : s1 ≤ s2) (hx : (x, instObj 349 dx) ∈ news) (hdx : (dx, crD w κ c1 r1 c2 r2 (tval v1 k1)) ∈ news) (hy : (y, instObj 349 dy) ∈ news) (hdy : (dy, crD w ε d1 s1 d2 s2 (tval v2 k2)) ∈ news)(hf : v2 = 0 ∨ v1 = v2) (N : News h₀ L s.heap news)
  (hQ : ∀ b h' tk', (b = true ↔ (c1 ≤ d1 ∧ d2 ≤ c2 ∧ r1 ≤ s1 ∧ s2 ≤ r2)) → Fr h₀ L h' m → News h₀ L h' news → Q (.bool b) { s with heap := h', toks := tk' }) :
  wpAny (model PR w) ((AK 640 2300 []).deeper (envX cn ⟨.function, nms, ig, ic, mo⟩ L a ccd cl)) (PySem.call (.ref 381) [.int 3 tk, .ref x, .ref y]) Q E s := by
  have F' := F
  refine wpAny_call ?_
  (refine' enter_try ?k1 ?k2 ?k3 ?k4 ?k5 ?kA ?kF ?kK ?k6 ?k7 ?k8 ?k9 ?kB ?_ ?c2 ?c3 ?c4 ?c5; (case kA => exact rfl); (case kF => exact rfl); (case kK => exact rfl); (case k2 => k_asm); (case k1 => k_asm); (case k3 => k_asm); (case k4 => k_asm); (case k5 => k_asm); (case k6 => k_is); (case k7 => k_is); (case k8 => k_room); (case k9 => first | exact binds_K (by k_in) rfl (by k_is) rfl rfl rfl | exact BindsTo.of_eq rfl); (case kB => exact locs rfl); (case c2 => exact rfl); (case c3 => exact rfl); (case c4 => exact rfl); (case c5 => decide); k_whole; intro g' L' h' FG' F' N' B' X' T' D'; (try dsimp only); (try k_lift B'); (try k_fold))
  w_strict k_steps
  all_goals (refine hQ _ _ _ ?_ (by assumption) ?_; rotate_left; (walk_at "my_sub"); (walk_at "my_bool"))
set_option maxRecDepth 100000 in
set_option maxHeartbeats 4000000 in
theorem ld3u_K {w : World} {base h₀ : Heap} {L a : Addr} {cl : List (Str × Addr)} {cn : Str} {nms : List (Str × NameKind)} {ig ic : Bool} {mo} {ccd : Value} {m mg mb : Str → Option Value} {news : List (Addr × Obj)} {s : Shared} {p : Program} {loose : List Str} {mean : ExcName → Option Value} {Q : Value → Shared → Prop} {E : Value → Shared → Prop} {x dx y dy : Addr} {κ ε : Nat → Tok} {c1 r1 c2 r2 d1 s1 d2 s2 v1 v2 : Int} {k1 k2 : Tok} {tk : Tok}
  (B : Below (AK 640 2300 []) base [] h₀) (F : Fr h₀ L s.heap m) (X₀ : (hd.heap_39 w.params).In h₀) (T : Top p loose mean mg mb h₀) (XB : (hd.heap_39 w.params).In base) (TB : Top p loose mean mg mb base) (i1 : 0 ≤ v1 ∧ v1 ≤ 3) (i2 : 0 ≤ v2 ∧ v2 ≤ 3) (hc : c1 ≤ c2) (hr : r1 ≤ r2) (hd : d1 ≤ d2) (hs : s1 ≤ s2) (hx : (x, instObj 349 dx) ∈ news) (hdx : (dx, crD w κ c1 r1 c2 r2 (tval v1 k1)) ∈ news) (hy : (y, instObj 349 dy) ∈ news) (hdy : (dy, crD w ε d1 s1 d2 s2 (tval v2 k2)) ∈ news)(hf : v2 ≠ 0 ∧ v1 ≠ v2) (N : News h₀ L s.heap news)
  (hQ : ∀ k h' tk', Fr h₀ L h' m → News h₀ L h' news → Q (.str (Str.ofString "refused") k) { s with heap := h', toks := tk' }) :
  wpAny (model PR w) ((AK 640 2300 []).deeper (envX cn ⟨.function, nms, ig, ic, mo⟩ L a ccd cl)) (PySem.call (.ref 381) [.int 3 tk, .ref x, .ref y]) Q E s := by
  have F' := F
  refine wpAny_call ?_
  (refine' enter_try ?k1 ?k2 ?k3 ?k4 ?k5 ?kA ?kF ?kK ?k6 ?k7 ?k8 ?k9 ?kB ?_ ?c2 ?c3 ?c4 ?c5; (case kA => exact rfl); (case kF => exact rfl); (case kK => exact rfl); (case k2 => k_asm); (case k1 => k_asm); (case k3 => k_asm); (case k4 => k_asm); (case k5 => k_asm); (case k6 => k_is); (case k7 => k_is); (case k8 => k_room); (case k9 => first | exact binds_K (by k_in) rfl (by k_is) rfl rfl rfl | exact BindsTo.of_eq rfl); (case kB => exact locs rfl); (case c2 => exact rfl); (case c3 => exact rfl); (case c4 => exact rfl); (case c5 => decide); k_whole; intro g' L' h' FG' F' N' B' X' T' D'; (try dsimp only); (try k_lift B'); (try k_fold))
  w_strict k_steps
  all_goals (refine hQ _ _ _ (by assumption) ?_; (walk_at "my_sub"))
set_option maxRecDepth 100000 in
set_option maxHeartbeats 4000000 in
theorem ld4f_K {w : World} {base h₀ : Heap} {L a : Addr} {cl : List (Str × Addr)} {cn : Str} {nms : List (Str × NameKind)} {ig ic : Bool} {mo} {ccd : Value} {m mg mb : Str → Option Value} {news : List (Addr × Obj)} {s : Shared} {p : Program} {loose : List Str} {mean : ExcName → Option Value} {Q : Value → Shared → Prop} {E : Value → Shared → Prop} {x dx y dy : Addr} {κ ε : Nat → Tok} {c1 r1 c2 r2 d1 s1 d2 s2 v1 v2 : Int} {k1 k2 : Tok} {tk : Tok}
  (B : Below (AK 640 2300 []) base [] h₀) (F : Fr h₀ L s.heap m) (X₀ : (hd.heap_39 w.params).In h₀) (T : Top p loose mean mg mb h₀) (XB : (hd.heap_39 w.params).In base) (TB : Top p loose mean mg mb base) (i1 : 0 ≤ v1 ∧ v1 ≤ 3) (i2 : 0 ≤ v2 ∧ v2 ≤ 3) (hc : c1 ≤ c2) (hr : r1 ≤ r2) (hd : d1 ≤ d2) (hs : s1 ≤ s2) (hx : (x, instObj 349 dx) ∈ news) (hdx : (dx, crD w κ c1 r1 c2 r2 (tval v1 k1)) ∈ news) (hy : (y, instObj 349 dy) ∈ news) (hdy : (dy, crD w ε d1 s1 d2 s2 (tval v2 k2)) ∈ news)(hf : v2 = 0 ∨ v1 = v2) (N : News h₀ L s.heap news)
  (hQ : ∀ t b u1 u2 u3 u4 h' tk', Fr h₀ L h' m → News h₀ L h' ((t, seqO #[.ref b, tval v1 k1]) :: (b, tup4 (if d1 < c1 then d1 else c1) (if s1 < r1 then s1 else r1) (if d2 > c2 then d2 else c2) (if s2 > r2 then s2 else r2) u1 u2 u3 u4) :: news) → (AllLt b news ∧ AllLt t news) → Q (.ref t) { s with heap := h', toks := tk' }) :
  wpAny (model PR w) ((AK 640 2300 []).deeper (envX cn ⟨.function, nms, ig, ic, mo⟩ L a ccd cl)) (PySem.call (.ref 381) [.int 4 tk, .ref x, .ref y]) Q E s := by
  have F' := F
  refine wpAny_call ?_
  (refine' enter_try ?k1 ?k2 ?k3 ?k4 ?k5 ?kA ?kF ?kK ?k6 ?k7 ?k8 ?k9 ?kB ?_ ?c2 ?c3 ?c4 ?c5; (case kA => exact rfl); (case kF => exact rfl); (case kK => exact rfl); (case k2 => k_asm); (case k1 => k_asm); (case k3 => k_asm); (case k4 => k_asm); (case k5 => k_asm); (case k6 => k_is); (case k7 => k_is); (case k8 => k_room); (case k9 => first | exact binds_K (by k_in) rfl (by k_is) rfl rfl rfl | exact BindsTo.of_eq rfl); (case kB => exact locs rfl); (case c2 => exact rfl); (case c3 => exact rfl); (case c4 => exact rfl); (case c5 => decide); k_whole; intro g' L' h' FG' F' N' B' X' T' D'; (try dsimp only); (try k_lift B'); (try k_fold))
  w_strict k_steps
  all_goals (refine' hQ _ _ _ _ _ _ _ _ ?F (news_two ?N ?hx ?hd ?hs) ?l; (case F => assumption); (case N => assumption); (case hx => walk_at "my_mem"); (case hd => walk_at "my_mem"); (case hs => (intro p hp; (repeat (first | exact hp | refine List.Mem.tail _ ?_)))); (case l => (constructor <;> walk_at "my_alt")))
set_option maxRecDepth 100000 in
set_option maxHeartbeats 4000000 in
theorem ld4u_K {w : World} {base h₀ : Heap} {L a : Addr} {cl : List (Str × Addr)} {cn : Str} {nms : List (Str × NameKind)} {ig ic : Bool} {mo} {ccd : Value} {m mg mb : Str → Option Value} {news : List (Addr × Obj)} {s : Shared} {p : Program} {loose : List Str} {mean : ExcName → Option Value} {Q : Value → Shared → Prop} {E : Value → Shared → Prop} {x dx y dy : Addr} {κ ε : Nat → Tok} {c1 r1 c2 r2 d1 s1 d2 s2 v1 v2 : Int} {k1 k2 : Tok} {tk : Tok}
  (B : Below (AK 640 2300 []) base [] h₀) (F : Fr h₀ L s.heap m) (X₀ : (hd.heap_39 w.params).In h₀) (T : Top p loose mean mg mb h₀) (XB : (hd.heap_39 w.params).In base) (TB : Top p loose mean mg mb base) (i1 : 0 ≤ v1 ∧ v1 ≤ 3) (i2 : 0 ≤ v2 ∧ v2 ≤ 3) (hc : c1 ≤ c2) (hr : r1 ≤ r2) (hd : d1 ≤ d2) (hs : s1 ≤ s2) (hx : (x, instObj 349 dx) ∈ news) (hdx : (dx, crD w κ c1 r1 c2 r2 (tval v1 k1)) ∈ news) (hy : (y, instObj 349 dy) ∈ news) (hdy : (dy, crD w ε d1 s1 d2 s2 (tval v2 k2)) ∈ news)(hf : v2 ≠ 0 ∧ v1 ≠ v2) (N : News h₀ L s.heap news)
  (hQ : ∀ k h' tk', Fr h₀ L h' m → News h₀ L h' news → Q (.str (Str.ofString "refused") k) { s with heap := h', toks := tk' }) :
  wpAny (model PR w) ((AK 640 2300 []).deeper (envX cn ⟨.function, nms, ig, ic, mo⟩ L a ccd cl)) (PySem.call (.ref 381) [.int 4 tk, .ref x, .ref y]) Q E s := by
  have F' := F
  refine wpAny_call ?_
  (refine' enter_try ?k1 ?k2 ?k3 ?k4 ?k5 ?kA ?kF ?kK ?k6 ?k7 ?k8 ?k9 ?kB ?_ ?c2 ?c3 ?c4 ?c5; (case kA => exact rfl); (case kF => exact rfl); (case kK => exact rfl); (case k2 => k_asm); (case k1 => k_asm); (case k3 => k_asm); (case k4 => k_asm); (case k5 => k_asm); (case k6 => k_is); (case k7 => k_is); (case k8 => k_room); (case k9 => first | exact binds_K (by k_in) rfl (by k_is) rfl rfl rfl | exact BindsTo.of_eq rfl); (case kB => exact locs rfl); (case c2 => exact rfl); (case c3 => exact rfl); (case c4 => exact rfl); (case c5 => decide); k_whole; intro g' L' h' FG' F' N' B' X' T' D'; (try dsimp only); (try k_lift B'); (try k_fold))
  w_strict k_steps
  all_goals (refine hQ _ _ _ (by assumption) ?_; (walk_at "my_sub"))
theorem ld0f_C {A : Around} {w : World} {base h₀ : Heap} {L a : Addr} {cl : List (Str × Addr)} {cn : Str} {nms : List (Str × NameKind)} {ig ic : Bool} {mo} {ccd : Value} {m mg mb : Str → Option Value} {news : List (Addr × Obj)} {s : Shared} {p : Program} {loose : List Str} {mean : ExcName → Option Value} {Q : Value → Shared → Prop} {E : Value → Shared → Prop} {x dx y dy : Addr} {κ ε : Nat → Tok} {c1 r1 c2 r2 d1 s1 d2 s2 v1 v2 : Int} {k1 k2 : Tok} {tk : Tok}
  (h1 : A.handled = none) (h2 : A.depth ≤ 640) (h5 : A.units ≤ 2300) (B : Below A base [] h₀) (F : Fr h₀ L s.heap m) (X₀ : (hd.heap_39 w.params).In h₀) (T : Top p loose mean mg mb h₀) (XB : (hd.heap_39 w.params).In base) (TB : Top p loose mean mg mb base) (i1 : 0 ≤ v1 ∧ v1 ≤ 3) (i2 : 0 ≤ v2 ∧ v2 ≤ 3) (hc : c1 ≤ c2) (hr : r1 ≤ r2) (hd : d1 ≤ d2) (hs : s1 ≤ s2) (hx : (x, instObj 349 dx) ∈ news) (hdx : (dx, crD w κ c1 r1 c2 r2 (tval v1 k1)) ∈ news) (hy : (y, instObj 349 dy) ∈ news) (hdy : (dy, crD w ε d1 s1 d2 s2 (tval v2 k2)) ∈ news)(hf : v2 = 0 ∨ v1 = v2) (N : News h₀ L s.heap news)
  (hQ : ∀ b h' tk', (b = true ↔ (d1 ≤ c1 ∧ c2 ≤ d2 ∧ s1 ≤ r1 ∧ r2 ≤ s2)) → Fr h₀ L h' m → News h₀ L h' news → Q (.bool b) { s with heap := h', toks := tk' }) :
  wpAny (model PR w) (A.deeper (envX cn ⟨.function, nms, ig, ic, mo⟩ L a ccd cl)) (PySem.call (.ref 381) [.int 0 tk, .ref x, .ref y]) Q E s :=
  to_AK h1 h2 h5 B fun B' => ld0f_K B' F X₀ T XB TB i1 i2 hc hr hd hs hx hdx hy hdy hf  N hQ
theorem ld0u_C {A : Around} {w : World} {base h₀ : Heap} {L a : Addr} {cl : List (Str × Addr)} {cn : Str} {nms : List (Str × NameKind)} {ig ic : Bool} {mo} {ccd : Value} {m mg mb : Str → Option Value} {news : List (Addr × Obj)} {s : Shared} {p : Program} {loose : List Str} {mean : ExcName → Option Value} {Q : Value → Shared → Prop} {E : Value → Shared → Prop} {x dx y dy : Addr} {κ ε : Nat → Tok} {c1 r1 c2 r2 d1 s1 d2 s2 v1 v2 : Int} {k1 k2 : Tok} {tk : Tok}
  (h1 : A.handled = none) (h2 : A.depth ≤ 640) (h5 : A.units ≤ 2300) (B : Below A base [] h₀) (F : Fr h₀ L s.heap m) (X₀ : (hd.heap_39 w.params).In h₀) (T : Top p loose mean mg mb h₀) (XB : (hd.heap_39 w.params).In base) (TB : Top p loose mean mg mb base) (i1 : 0 ≤ v1 ∧ v1 ≤ 3) (i2 : 0 ≤ v2 ∧ v2 ≤ 3) (hc : c1 ≤ c2) (hr : r1 ≤ r2) (hd : d1 ≤ d2) (hs : s1 ≤ s2) (hx : (x, instObj 349 dx) ∈ news) (hdx : (dx, crD w κ c1 r1 c2 r2 (tval v1 k1)) ∈ news) (hy : (y, instObj 349 dy) ∈ news) (hdy : (dy, crD w ε d1 s1 d2 s2 (tval v2 k2)) ∈ news)(hf : v2 ≠ 0 ∧ v1 ≠ v2) (N : News h₀ L s.heap news)
  (hQ : ∀ k h' tk', Fr h₀ L h' m → News h₀ L h' news → Q (.str (Str.ofString "refused") k) { s with heap := h', toks := tk' }) :
  wpAny (model PR w) (A.deeper (envX cn ⟨.function, nms, ig, ic, mo⟩ L a ccd cl)) (PySem.call (.ref 381) [.int 0 tk, .ref x, .ref y]) Q E s :=
  to_AK h1 h2 h5 B fun B' => ld0u_K B' F X₀ T XB TB i1 i2 hc hr hd hs hx hdx hy hdy hf  N hQ
theorem ld1f_C {A : Around} {w : World} {base h₀ : Heap} {L a : Addr} {cl : List (Str × Addr)} {cn : Str} {nms : List (Str × NameKind)} {ig ic : Bool} {mo} {ccd : Value} {m mg mb : Str → Option Value} {news : List (Addr × Obj)} {s : Shared} {p : Program} {loose : List Str} {mean : ExcName → Option Value} {Q : Value → Shared → Prop} {E : Value → Shared → Prop} {x dx y dy : Addr} {κ ε : Nat → Tok} {c1 r1 c2 r2 d1 s1 d2 s2 v1 v2 : Int} {k1 k2 : Tok} {tk : Tok}
  (h1 : A.handled = none) (h2 : A.depth ≤ 640) (h5 : A.units ≤ 2300) (B : Below A base [] h₀) (F : Fr h₀ L s.heap m) (X₀ : (hd.heap_39 w.params).In h₀) (T : Top p loose mean mg mb h₀) (XB : (hd.heap_39 w.params).In base) (TB : Top p loose mean mg mb base) (i1 : 0 ≤ v1 ∧ v1 ≤ 3) (i2 : 0 ≤ v2 ∧ v2 ≤ 3) (hc : c1 ≤ c2) (hr : r1 ≤ r2) (hd : d1 ≤ d2) (hs : s1 ≤ s2) (hx : (x, instObj 349 dx) ∈ news) (hdx : (dx, crD w κ c1 r1 c2 r2 (tval v1 k1)) ∈ news) (hy : (y, instObj 349 dy) ∈ news) (hdy : (dy, crD w ε d1 s1 d2 s2 (tval v2 k2)) ∈ news)(hf : v2 = 0 ∨ v1 = v2) (N : News h₀ L s.heap news)
  (hQ : ∀ b h' tk', (b = true ↔ ((c1 ≤ d1 ∧ d2 ≤ c2 ∧ r1 ≤ s1 ∧ s2 ≤ r2) ∧ ¬ (c1 = d1 ∧ c2 = d2 ∧ r1 = s1 ∧ r2 = s2))) → Fr h₀ L h' m → News h₀ L h' news → Q (.bool b) { s with heap := h', toks := tk' }) :
  wpAny (model PR w) (A.deeper (envX cn ⟨.function, nms, ig, ic, mo⟩ L a ccd cl)) (PySem.call (.ref 381) [.int 1 tk, .ref x, .ref y]) Q E s :=
  to_AK h1 h2 h5 B fun B' => ld1f_K B' F X₀ T XB TB i1 i2 hc hr hd hs hx hdx hy hdy hf  N hQ
theorem ld1u_C {A : Around} {w : World} {base h₀ : Heap} {L a : Addr} {cl : List (Str × Addr)} {cn : Str} {nms : List (Str × NameKind)} {ig ic : Bool} {mo} {ccd : Value} {m mg mb : Str → Option Value} {news : List (Addr × Obj)} {s : Shared} {p : Program} {loose : List Str} {mean : ExcName → Option Value} {Q : Value → Shared → Prop} {E : Value → Shared → Prop} {x dx y dy : Addr} {κ ε : Nat → Tok} {c1 r1 c2 r2 d1 s1 d2 s2 v1 v2 : Int} {k1 k2 : Tok} {tk : Tok}
  (h1 : A.handled = none) (h2 : A.depth ≤ 640) (h5 : A.units ≤ 2300) (B : Below A base [] h₀) (F : Fr h₀ L s.heap m) (X₀ : (hd.heap_39 w.params).In h₀) (T : Top p loose mean mg mb h₀) (XB : (hd.heap_39 w.params).In base) (TB : Top p loose mean mg mb base) (i1 : 0 ≤ v1 ∧ v1 ≤ 3) (i2 : 0 ≤ v2 ∧ v2 ≤ 3) (hc : c1 ≤ c2) (hr : r1 ≤ r2) (hd : d1 ≤ d2) (hs : s1 ≤ s2) (hx : (x, instObj 349 dx) ∈ news) (hdx : (dx, crD w κ c1 r1 c2 r2 (tval v1 k1)) ∈ news) (hy : (y, instObj 349 dy) ∈ news) (hdy : (dy, crD w ε d1 s1 d2 s2 (tval v2 k2)) ∈ news)(hf : v2 ≠ 0 ∧ v1 ≠ v2) (N : News h₀ L s.heap news)
  (hQ : ∀ k h' tk', Fr h₀ L h' m → News h₀ L h' news → Q (.str (Str.ofString "refused") k) { s with heap := h', toks := tk' }) :
  wpAny (model PR w) (A.deeper (envX cn ⟨.function, nms, ig, ic, mo⟩ L a ccd cl)) (PySem.call (.ref 381) [.int 1 tk, .ref x, .ref y]) Q E s :=
  to_AK h1 h2 h5 B fun B' => ld1u_K B' F X₀ T XB TB i1 i2 hc hr hd hs hx hdx hy hdy hf  N hQ
theorem ld2f_C {A : Around} {w : World} {base h₀ : Heap} {L a : Addr} {cl : List (Str × Addr)} {cn : Str} {nms : List (Str × NameKind)} {ig ic : Bool} {mo} {ccd : Value} {m mg mb : Str → Option Value} {news : List (Addr × Obj)} {s : Shared} {p : Program} {loose : List Str} {mean : ExcName → Option Value} {Q : Value → Shared → Prop} {E : Value → Shared → Prop} {x dx y dy : Addr} {κ ε : Nat → Tok} {c1 r1 c2 r2 d1 s1 d2 s2 v1 v2 : Int} {k1 k2 : Tok} {tk : Tok}
  (h1 : A.handled = none) (h2 : A.depth ≤ 640) (h5 : A.units ≤ 2300) (B : Below A base [] h₀) (F : Fr h₀ L s.heap m) (X₀ : (hd.heap_39 w.params).In h₀) (T : Top p loose mean mg mb h₀) (XB : (hd.heap_39 w.params).In base) (TB : Top p loose mean mg mb base) (i1 : 0 ≤ v1 ∧ v1 ≤ 3) (i2 : 0 ≤ v2 ∧ v2 ≤ 3) (hc : c1 ≤ c2) (hr : r1 ≤ r2) (hd : d1 ≤ d2) (hs : s1 ≤ s2) (hx : (x, instObj 349 dx) ∈ news) (hdx : (dx, crD w κ c1 r1 c2 r2 (tval v1 k1)) ∈ news) (hy : (y, instObj 349 dy) ∈ news) (hdy : (dy, crD w ε d1 s1 d2 s2 (tval v2 k2)) ∈ news)(hf : v2 = 0 ∨ v1 = v2) (N : News h₀ L s.heap news)
  (hQ : ∀ b h' tk', (b = true ↔ (c2 < d1 ∨ d2 < c1 ∨ r2 < s1 ∨ s2 < r1)) → Fr h₀ L h' m → News h₀ L h' news → Q (.bool b) { s with heap := h', toks := tk' }) :
  wpAny (model PR w) (A.deeper (envX cn ⟨.function, nms, ig, ic, mo⟩ L a ccd cl)) (PySem.call (.ref 381) [.int 2 tk, .ref x, .ref y]) Q E s :=
  to_AK h1 h2 h5 B fun B' => ld2f_K B' F X₀ T XB TB i1 i2 hc hr hd hs hx hdx hy hdy hf  N hQ
theorem ld2u_C {A : Around} {w : World} {base h₀ : Heap} {L a : Addr} {cl : List (Str × Addr)} {cn : Str} {nms : List (Str × NameKind)} {ig ic : Bool} {mo} {ccd : Value} {m mg mb : Str → Option Value} {news : List (Addr × Obj)} {s : Shared} {p : Program} {loose : List Str} {mean : ExcName → Option Value} {Q : Value → Shared → Prop} {E : Value → Shared → Prop} {x dx y dy : Addr} {κ ε : Nat → Tok} {c1 r1 c2 r2 d1 s1 d2 s2 v1 v2 : Int} {k1 k2 : Tok} {tk : Tok}
  (h1 : A.handled = none) (h2 : A.depth ≤ 640) (h5 : A.units ≤ 2300) (B : Below A base [] h₀) (F : Fr h₀ L s.heap m) (X₀ : (hd.heap_39 w.params).In h₀) (T : Top p loose mean mg mb h₀) (XB : (hd.heap_39 w.params).In base) (TB : Top p loose mean mg mb base) (i1 : 0 ≤ v1 ∧ v1 ≤ 3) (i2 : 0 ≤ v2 ∧ v2 ≤ 3) (hc : c1 ≤ c2) (hr : r1 ≤ r2) (hd : d1 ≤ d2) (hs : s1 ≤ s2) (hx : (x, instObj 349 dx) ∈ news) (hdx : (dx, crD w κ c1 r1 c2 r2 (tval v1 k1)) ∈ news) (hy : (y, instObj 349 dy) ∈ news) (hdy : (dy, crD w ε d1 s1 d2 s2 (tval v2 k2)) ∈ news)(hf : v2 ≠ 0 ∧ v1 ≠ v2) (N : News h₀ L s.heap news)
  (hQ : ∀ k h' tk', Fr h₀ L h' m → News h₀ L h' news → Q (.str (Str.ofString "refused") k) { s with heap := h', toks := tk' }) :
  wpAny (model PR w) (A.deeper (envX cn ⟨.function, nms, ig, ic, mo⟩ L a ccd cl)) (PySem.call (.ref 381) [.int 2 tk, .ref x, .ref y]) Q E s :=
  to_AK h1 h2 h5 B fun B' => ld2u_K B' F X₀ T XB TB i1 i2 hc hr hd hs hx hdx hy hdy hf  N hQ
theorem ld3f_C {A : Around} {w : World} {base h₀ : Heap} {L a : Addr} {cl : List (Str × Addr)} {cn : Str} {nms : List (Str × NameKind)} {ig ic : Bool} {mo} {ccd : Value} {m mg mb : Str → Option Value} {news : List (Addr × Obj)} {s : Shared} {p : Program} {loose : List Str} {mean : ExcName → Option Value} {Q : Value → Shared → Prop} {E : Value → Shared → Prop} {x dx y dy : Addr} {κ ε : Nat → Tok} {c1 r1 c2 r2 d1 s1 d2 s2 v1 v2 : Int} {k1 k2 : Tok} {tk : Tok}
  (h1 : A.handled = none) (h2 : A.depth ≤ 640) (h5 : A.units ≤ 2300) (B : Below A base [] h₀) (F : Fr h₀ L s.heap m) (X₀ : (hd.heap_39 w.params).In h₀) (T : Top p loose mean mg mb h₀) (XB : (hd.heap_39 w.params).In base) (TB : Top p loose mean mg mb base) (i1 : 0 ≤ v1 ∧ v1 ≤ 3) (i2 : 0 ≤ v2 ∧ v2 ≤ 3) (hc : c1 ≤ c2) (hr : r1 ≤ r2) (hd : d1 ≤ d2) (hs : s1 ≤ s2) (hx : (x, instObj 349 dx) ∈ news) (hdx : (dx, crD w κ c1 r1 c2 r2 (tval v1 k1)) ∈ news) (hy : (y, instObj 349 dy) ∈ news) (hdy : (dy, crD w ε d1 s1 d2 s2 (tval v2 k2)) ∈ news)(hf : v2 = 0 ∨ v1 = v2) (N : News h₀ L s.heap news)
  (hQ : ∀ b h' tk', (b = true ↔ (c1 ≤ d1 ∧ d2 ≤ c2 ∧ r1 ≤ s1 ∧ s2 ≤ r2)) → Fr h₀ L h' m → News h₀ L h' news → Q (.bool b) { s with heap := h', toks := tk' }) :
  wpAny (model PR w) (A.deeper (envX cn ⟨.function, nms, ig, ic, mo⟩ L a ccd cl)) (PySem.call (.ref 381) [.int 3 tk, .ref x, .ref y]) Q E s :=
  to_AK h1 h2 h5 B fun B' => ld3f_K B' F X₀ T XB TB i1 i2 hc hr hd hs hx hdx hy hdy hf  N hQ
theorem ld3u_C {A : Around} {w : World} {base h₀ : Heap} {L a : Addr} {cl : List (Str × Addr)} {cn : Str} {nms : List (Str × NameKind)} {ig ic : Bool} {mo} {ccd : Value} {m mg mb : Str → Option Value} {news : List (Addr × Obj)} {s : Shared} {p : Program} {loose : List Str} {mean : ExcName → Option Value} {Q : Value → Shared → Prop} {E : Value → Shared → Prop} {x dx y dy : Addr} {κ ε : Nat → Tok} {c1 r1 c2 r2 d1 s1 d2 s2 v1 v2 : Int} {k1 k2 : Tok} {tk : Tok}
  (h1 : A.handled = none) (h2 : A.depth ≤ 640) (h5 : A.units ≤ 2300) (B : Below A base [] h₀) (F : Fr h₀ L s.heap m) (X₀ : (hd.heap_39 w.params).In h₀) (T : Top p loose mean mg mb h₀) (XB : (hd.heap_39 w.params).In base) (TB : Top p loose mean mg mb base) (i1 : 0 ≤ v1 ∧ v1 ≤ 3) (i2 : 0 ≤ v2 ∧ v2 ≤ 3) (hc : c1 ≤ c2) (hr : r1 ≤ r2) (hd : d1 ≤ d2) (hs : s1 ≤ s2) (hx : (x, instObj 349 dx) ∈ news) (hdx : (dx, crD w κ c1 r1 c2 r2 (tval v1 k1)) ∈ news) (hy : (y, instObj 349 dy) ∈ news) (hdy : (dy, crD w ε d1 s1 d2 s2 (tval v2 k2)) ∈ news)(hf : v2 ≠ 0 ∧ v1 ≠ v2) (N : News h₀ L s.heap news)
  (hQ : ∀ k h' tk', Fr h₀ L h' m → News h₀ L h' news → Q (.str (Str.ofString "refused") k) { s with heap := h', toks := tk' }) :
  wpAny (model PR w) (A.deeper (envX cn ⟨.function, nms, ig, ic, mo⟩ L a ccd cl)) (PySem.call (.ref 381) [.int 3 tk, .ref x, .ref y]) Q E s :=
  to_AK h1 h2 h5 B fun B' => ld3u_K B' F X₀ T XB TB i1 i2 hc hr hd hs hx hdx hy hdy hf  N hQ
theorem ld4f_C {A : Around} {w : World} {base h₀ : Heap} {L a : Addr} {cl : List (Str × Addr)} {cn : Str} {nms : List (Str × NameKind)} {ig ic : Bool} {mo} {ccd : Value} {m mg mb : Str → Option Value} {news : List (Addr × Obj)} {s : Shared} {p : Program} {loose : List Str} {mean : ExcName → Option Value} {Q : Value → Shared → Prop} {E : Value → Shared → Prop} {x dx y dy : Addr} {κ ε : Nat → Tok} {c1 r1 c2 r2 d1 s1 d2 s2 v1 v2 : Int} {k1 k2 : Tok} {tk : Tok}
  (h1 : A.handled = none) (h2 : A.depth ≤ 640) (h5 : A.units ≤ 2300) (B : Below A base [] h₀) (F : Fr h₀ L s.heap m) (X₀ : (hd.heap_39 w.params).In h₀) (T : Top p loose mean mg mb h₀) (XB : (hd.heap_39 w.params).In base) (TB : Top p loose mean mg mb base) (i1 : 0 ≤ v1 ∧ v1 ≤ 3) (i2 : 0 ≤ v2 ∧ v2 ≤ 3) (hc : c1 ≤ c2) (hr : r1 ≤ r2) (hd : d1 ≤ d2) (hs : s1 ≤ s2) (hx : (x, instObj 349 dx) ∈ news) (hdx : (dx, crD w κ c1 r1 c2 r2 (tval v1 k1)) ∈ news) (hy : (y, instObj 349 dy) ∈ news) (hdy : (dy, crD w ε d1 s1 d2 s2 (tval v2 k2)) ∈ news)(hf : v2 = 0 ∨ v1 = v2) (N : News h₀ L s.heap news)
  (hQ : ∀ t b u1 u2 u3 u4 h' tk', Fr h₀ L h' m → News h₀ L h' ((t, seqO #[.ref b, tval v1 k1]) :: (b, tup4 (if d1 < c1 then d1 else c1) (if s1 < r1 then s1 else r1) (if d2 > c2 then d2 else c2) (if s2 > r2 then s2 else r2) u1 u2 u3 u4) :: news) → (AllLt b news ∧ AllLt t news) → Q (.ref t) { s with heap := h', toks := tk' }) :
  wpAny (model PR w) (A.deeper (envX cn ⟨.function, nms, ig, ic, mo⟩ L a ccd cl)) (PySem.call (.ref 381) [.int 4 tk, .ref x, .ref y]) Q E s :=
  to_AK h1 h2 h5 B fun B' => ld4f_K B' F X₀ T XB TB i1 i2 hc hr hd hs hx hdx hy hdy hf  N hQ
theorem ld4u_C {A : Around} {w : World} {base h₀ : Heap} {L a : Addr} {cl : List (Str × Addr)} {cn : Str} {nms : List (Str × NameKind)} {ig ic : Bool} {mo} {ccd : Value} {m mg mb : Str → Option Value} {news : List (Addr × Obj)} {s : Shared} {p : Program} {loose : List Str} {mean : ExcName → Option Value} {Q : Value → Shared → Prop} {E : Value → Shared → Prop} {x dx y dy : Addr} {κ ε : Nat → Tok} {c1 r1 c2 r2 d1 s1 d2 s2 v1 v2 : Int} {k1 k2 : Tok} {tk : Tok}
  (h1 : A.handled = none) (h2 : A.depth ≤ 640) (h5 : A.units ≤ 2300) (B : Below A base [] h₀) (F : Fr h₀ L s.heap m) (X₀ : (hd.heap_39 w.params).In h₀) (T : Top p loose mean mg mb h₀) (XB : (hd.heap_39 w.params).In base) (TB : Top p loose mean mg mb base) (i1 : 0 ≤ v1 ∧ v1 ≤ 3) (i2 : 0 ≤ v2 ∧ v2 ≤ 3) (hc : c1 ≤ c2) (hr : r1 ≤ r2) (hd : d1 ≤ d2) (hs : s1 ≤ s2) (hx : (x, instObj 349 dx) ∈ news) (hdx : (dx, crD w κ c1 r1 c2 r2 (tval v1 k1)) ∈ news) (hy : (y, instObj 349 dy) ∈ news) (hdy : (dy, crD w ε d1 s1 d2 s2 (tval v2 k2)) ∈ news)(hf : v2 ≠ 0 ∧ v1 ≠ v2) (N : News h₀ L s.heap news)
  (hQ : ∀ k h' tk', Fr h₀ L h' m → News h₀ L h' news → Q (.str (Str.ofString "refused") k) { s with heap := h', toks := tk' }) :
  wpAny (model PR w) (A.deeper (envX cn ⟨.function, nms, ig, ic, mo⟩ L a ccd cl)) (PySem.call (.ref 381) [.int 4 tk, .ref x, .ref y]) Q E s :=
  to_AK h1 h2 h5 B fun B' => ld4u_K B' F X₀ T XB TB i1 i2 hc hr hd hs hx hdx hy hdy hf  N hQ
end Mine

end
section
open PySem PySem.W PySem.W.X PyProof.Rows
namespace Mine
local macro_rules | `(tactic| walk_at "pad") => `(tactic| fail "pad")
local macro_rules | `(tactic| walk_at "pad") => `(tactic| fail "pad")
theorem and3L5 {a b c : Prop} (h : a ∧ b ∧ c) : c := h.2.2
theorem and4L5 {a b c d : Prop} (h : a ∧ b ∧ c ∧ d) : d := h.2.2.2
theorem and5L5 {a b c d e : Prop} (h : a ∧ b ∧ c ∧ d ∧ e) : e := h.2.2.2.2
local macro_rules | `(tactic| k_all) => `(tactic| assumption)
local macro_rules | `(tactic| k_mem) => `(tactic| assumption)
local macro_rules | `(tactic| walk_at "my_sub") => `(tactic| (refine news_sub (by assumption) ?_; intro p hp; (repeat (first | exact hp | refine List.Mem.tail _ ?_))))
local macro_rules | `(tactic| walk_at "my_bool") => `(tactic| ((try unfold lex4 at *); (try simp only [decide_eq_true_eq, Bool.false_eq_true, true_iff, false_iff]); first | omega | ((rename (@Iff (_ = true) _) => eA); (rename (_ = true) => aB); have pB := eA.mp aB; omega) | ((rename (@Iff (_ = true) _) => eA); (rename (_ = false) => aB); have pB := mt eA.mpr (by rw [aB]; exact Bool.false_ne_true); omega) | ((rename (@Iff (_ = true) _) => eA; rw [eA]); (try (revert eA; rename (@Iff (_ = true) _) => eB; intro eA; rename (_ = true) => aB; have pB := eB.mp aB)); (try (rename (_ = false) => aB; have pB := mt eA.mpr (by rw [aB]; exact Bool.false_ne_true))); omega)))

local macro_rules | `(tactic| k_handed) => `(tactic| exact tval_handed _ _)
local macro_rules | `(tactic| walk_at "truthy") => `(tactic| (k_here; (with_reducible show wpAny _ _ (truthy (tval _ _)) _ _ _); (with_reducible refine' truthy_tval ?a1 ?_); (case a1 => first | assumption | omega); k_whole))
local macro_rules | `(tactic| walk_at "compareOp Is none") => `(tactic| (k_here; (with_reducible show wpAny _ _ (compareOp _ (tval _ _) _) _ _ _); (with_reducible refine' isNone_tval ?a1 ?_); (case a1 => first | assumption | omega); k_whole))
local macro_rules | `(tactic| walk_at "compareOp NotEq") => `(tactic| (k_here; (with_reducible show wpAny _ _ (compareOp _ (tval _ _) (tval _ _)) _ _ _); (with_reducible refine' ne_tval ?a1 ?a2 ?_); (case a1 => first | assumption | omega); (case a2 => first | assumption | omega); k_whole))
local macro_rules | `(tactic| walk_at "compareOp Eq") => `(tactic| (k_here; (with_reducible show wpAny _ _ (compareOp _ (tval _ _) (tval _ _)) _ _ _); (with_reducible refine' eq_tval ?a1 ?a2 ?_); (case a1 => first | assumption | omega); (case a2 => first | assumption | omega); k_whole))
local macro_rules | `(tactic| walk_at "compareChain") => `(tactic| (k_here; (with_reducible show wpAny _ _ (compareChain _ _ (_ :: _ :: _) (_ :: evalEach _ _)) _ _ _); refine chain_link ?_))
local macro_rules | `(tactic| walk_at "my_tops") => `(tactic| ((rename Top _ _ _ _ _ _ => tp1; have tr1 := topRead_of tp1); (try (revert tp1; (rename Top _ _ _ _ _ _ => tp2; have tr2 := topRead_of tp2); (try (revert tp2; (rename Top _ _ _ _ _ _ => tp3; have tr3 := topRead_of tp3); (try (revert tp3; (rename Top _ _ _ _ _ _ => tp4; have tr4 := topRead_of tp4); intro tp3)); intro tp2)); intro tp1))))
local macro_rules | `(tactic| walk_at "noteFrame ref") => `(tactic| (k_here; (walk_at "my_tops"); (rename RaisedK _ _ _ _ _ _ _ _ => rkX); k_caught0; intro h' n₂ F' N₂ G' N'; (try k_sweep)))
local macro_rules | `(tactic| walk_at "my_alt") => `(tactic| first | assumption | exact and3L5 (by assumption) | exact and4L5 (by assumption) | exact and5L5 (by assumption))
local macro_rules | `(tactic| walk_at "my_mem") => `(tactic| (repeat (first | exact List.Mem.head _ | refine List.Mem.tail _ ?_)))
local macro_rules | `(tactic| walk_at "call builtin:str.format") => `(tactic| (k_here; k_dflt show wpAny _ _ (PySem.call (Value.builtin "str.format") [Value.str (Str.ofString "Range {0} doesn't intersect {0}") _, Value.ref _, Value.ref _]) _ _ _; k_dflt ((refine' fmtxy_C ?q1 ?q2 ?q3 ?B ?F ?X ?T ?z0 ?z1 ?z2 ?z3 ?z4 ?z5 ?z6 ?N ?_); (case B => k_asm); (case F => k_asm); (case X => assumption); (case T => assumption); (case N => k_asm); (case z5 => (repeat (first | assumption | exact List.Mem.head _ | refine List.Mem.tail _ ?_))); (case z6 => (repeat (first | assumption | exact List.Mem.head _ | refine List.Mem.tail _ ?_))); (case z0 => omega); (case z1 => omega); (case z2 => omega); (case z3 => omega); (case z4 => omega); (case q1 => rfl); (case q2 => exact Nat.le_of_ble_eq_true rfl); (case q3 => exact Nat.le_of_ble_eq_true rfl); k_whole; intro y' t' h' tk' F' N')))
local macro_rules | `(tactic| walk_at "call ref") => `(tactic| (k_here; (with_reducible show wpAny _ _ (PySem.call (Value.ref 199) _) _ _ _); k_dflt ((refine' ct_C ?q1 ?q2 ?q3 ?B ?F ?X ?T ?z0 ?z1 ?z2 ?z3 ?z4 ?z5 ?z6 ?N ?_); (case B => k_asm); (case F => k_asm); (case X => assumption); (case T => assumption); (case N => k_asm); (case z2 => (repeat (first | assumption | exact List.Mem.head _ | refine List.Mem.tail _ ?_))); (case z3 => (repeat (first | assumption | exact List.Mem.head _ | refine List.Mem.tail _ ?_))); (case z4 => (repeat (first | assumption | exact List.Mem.head _ | refine List.Mem.tail _ ?_))); (case z5 => (repeat (first | assumption | exact List.Mem.head _ | refine List.Mem.tail _ ?_))); (case z0 => omega); (case z1 => omega); (case z6 => omega); (case q1 => rfl); (case q2 => exact Nat.le_of_ble_eq_true rfl); (case q3 => exact Nat.le_of_ble_eq_true rfl); k_whole; intro h' tk' F' N')))
local macro_rules | `(tactic| walk_at "call ref") => `(tactic| (k_here; (with_reducible show wpAny _ _ (PySem.call (Value.ref 256) _) _ _ _); k_dflt ((refine' su_C ?q1 ?q2 ?q3 ?B ?F ?X ?T ?z0 ?z1 ?z2 ?z3 ?z4 ?z5 ?z6 ?z7 ?N ?_); (case B => k_asm); (case F => k_asm); (case X => assumption); (case T => assumption); (case N => k_asm); (case z4 => (repeat (first | assumption | exact List.Mem.head _ | refine List.Mem.tail _ ?_))); (case z5 => (repeat (first | assumption | exact List.Mem.head _ | refine List.Mem.tail _ ?_))); (case z6 => (repeat (first | assumption | exact List.Mem.head _ | refine List.Mem.tail _ ?_))); (case z7 => (repeat (first | assumption | exact List.Mem.head _ | refine List.Mem.tail _ ?_))); (case z0 => omega); (case z1 => omega); (case z2 => omega); (case z3 => omega); (case q1 => rfl); (case q2 => exact Nat.le_of_ble_eq_true rfl); (case q3 => exact Nat.le_of_ble_eq_true rfl); k_whole; intro b' h' tk' e' F' N')))
local macro_rules | `(tactic| walk_at "call ref") => `(tactic| (k_here; (with_reducible show wpAny _ _ (PySem.call (Value.ref 228) _) _ _ _); k_dflt ((refine' ne_C ?q1 ?q2 ?q3 ?B ?F ?X ?T ?z0 ?z1 ?z2 ?z3 ?z4 ?z5 ?z6 ?N ?_); (case B => k_asm); (case F => k_asm); (case X => assumption); (case T => assumption); (case N => k_asm); (case z2 => (repeat (first | assumption | exact List.Mem.head _ | refine List.Mem.tail _ ?_))); (case z3 => (repeat (first | assumption | exact List.Mem.head _ | refine List.Mem.tail _ ?_))); (case z4 => (repeat (first | assumption | exact List.Mem.head _ | refine List.Mem.tail _ ?_))); (case z5 => (repeat (first | assumption | exact List.Mem.head _ | refine List.Mem.tail _ ?_))); (case z0 => omega); (case z1 => omega); (case z6 => omega); (case q1 => rfl); (case q2 => exact Nat.le_of_ble_eq_true rfl); (case q3 => exact Nat.le_of_ble_eq_true rfl); k_whole; intro b' h' tk' e' F' N')))
local macro_rules | `(tactic| walk_at "call ref") => `(tactic| (k_here; (with_reducible show wpAny _ _ (PySem.call (Value.ref 284) _) _ _ _); k_dflt ((refine' dj_C ?q1 ?q2 ?q3 ?B ?F ?X ?T ?z0 ?z1 ?z2 ?z3 ?z4 ?z5 ?z6 ?z7 ?z8 ?z9 ?z10 ?N ?_); (case B => k_asm); (case F => k_asm); (case X => assumption); (case T => assumption); (case N => k_asm); (case z6 => (repeat (first | assumption | exact List.Mem.head _ | refine List.Mem.tail _ ?_))); (case z7 => (repeat (first | assumption | exact List.Mem.head _ | refine List.Mem.tail _ ?_))); (case z8 => (repeat (first | assumption | exact List.Mem.head _ | refine List.Mem.tail _ ?_))); (case z9 => (repeat (first | assumption | exact List.Mem.head _ | refine List.Mem.tail _ ?_))); (case z0 => omega); (case z1 => omega); (case z2 => omega); (case z3 => omega); (case z4 => omega); (case z5 => omega); (case z10 => omega); (case q1 => rfl); (case q2 => exact Nat.le_of_ble_eq_true rfl); (case q3 => exact Nat.le_of_ble_eq_true rfl); k_whole; intro b' h' tk' e' F' N')))
local macro_rules | `(tactic| walk_at "call ref") => `(tactic| (k_here; (with_reducible show wpAny _ _ (PySem.call (Value.ref 349) [] _) _ _ _); k_dflt ((refine' crn_C ?q1 ?q2 ?q3 ?B ?F ?X ?T ?c ?r ?N ?_); (case B => k_asm); (case F => k_asm); (case X => assumption); (case T => assumption); (case c => first | omega | (split <;> split <;> omega) | ((rename (@Iff (_ = true) _) => eA); (rename (_ = false) => aB); have pB := mt eA.mpr (by rw [aB]; exact Bool.false_ne_true); (split <;> split <;> omega))); (case r => first | omega | (split <;> split <;> omega) | ((rename (@Iff (_ = true) _) => eA); (rename (_ = false) => aB); have pB := mt eA.mpr (by rw [aB]; exact Bool.false_ne_true); (split <;> split <;> omega))); (case N => k_asm); (case q1 => rfl); (case q2 => exact Nat.le_of_ble_eq_true rfl); (case q3 => exact Nat.le_of_ble_eq_true rfl); k_whole; intro x' d' κ' h' tk' F' N' l1)))
local macro_rules | `(tactic| walk_at "call ref") => `(tactic| (k_here; (with_reducible show wpAny _ _ (PySem.call (Value.ref 349) [] _) _ _ _); k_dflt ((refine' crk_C ?q1 ?q2 ?q3 ?B ?F ?X ?T ?c ?r ?N ?_); (case B => k_asm); (case F => k_asm); (case X => assumption); (case T => assumption); (case c => first | omega | (split <;> split <;> omega) | ((rename (@Iff (_ = true) _) => eA); (rename (_ = false) => aB); have pB := mt eA.mpr (by rw [aB]; exact Bool.false_ne_true); (split <;> split <;> omega))); (case r => first | omega | (split <;> split <;> omega) | ((rename (@Iff (_ = true) _) => eA); (rename (_ = false) => aB); have pB := mt eA.mpr (by rw [aB]; exact Bool.false_ne_true); (split <;> split <;> omega))); (case N => k_asm); (case q1 => rfl); (case q2 => exact Nat.le_of_ble_eq_true rfl); (case q3 => exact Nat.le_of_ble_eq_true rfl); k_whole; intro x' d' κ' h' tk' F' N' l1)))
set_option maxRecDepth 100000 in
set_option maxHeartbeats 4000000 in
theorem ld5f_K {w : World} {base h₀ : Heap} {L a : Addr} {cl : List (Str × Addr)} {cn : Str} {nms : List (Str × NameKind)} {ig ic : Bool} {mo} {ccd : Value} {m mg mb : Str → Option Value} {news : List (Addr × Obj)} {s : Shared} {p : Program} {loose : List Str} {mean : ExcName → Option Value} {Q : Value → Shared → Prop} {E : Value → Shared → Prop} {x dx y dy : Addr} {κ ε : Nat → Tok} {c1 r1 c2 r2 d1 s1 d2 s2 v1 v2 : Int} {k1 k2 : Tok} {tk : Tok}
  (B : Below (AK 640 2300 []) base [] h₀) (F : Fr h₀ L s.heap m) (X₀ : (hd.heap_39 w.params).In h₀) (T : Top p loose mean mg mb h₀) (XB : (hd.heap_39 w.params).In base) (TB : Top p loose mean mg mb base) (i1 : 0 ≤ v1 ∧ v1 ≤ 3) (i2 : 0 ≤ v2 ∧ v2 ≤ 3) (hc : c1 ≤ c2) (hr : r1 ≤ r2) (hd : d1 ≤ d2) (hs : s1 ≤ s2) (hx : (x, instObj 349 dx) ∈ news) (hdx : (dx, crD w κ c1 r1 c2 r2 (tval v1 k1)) ∈ news) (hy : (y, instObj 349 dy) ∈ news) (hdy : (dy, crD w ε d1 s1 d2 s2 (tval v2 k2)) ∈ news)(hf : v2 = 0 ∨ v1 = v2)(h1c : 1 ≤ c1 ∧ c1 ≤ 5) (h1r : 1 ≤ r1 ∧ r1 ≤ 5) (h2c : 1 ≤ c2 ∧ c2 ≤ 5) (h2r : 1 ≤ r2 ∧ r2 ≤ 5) (N : News h₀ L s.heap news)
  (hQ1 : (c2 < d1 ∨ d2 < c1 ∨ r2 < s1 ∨ s2 < r1) → ∀ k h' tk', Fr h₀ L h' m → News h₀ L h' news → Q (.str (Str.ofString "refused") k) { s with heap := h', toks := tk' })
  (hQ : ¬ (c2 < d1 ∨ d2 < c1 ∨ r2 < s1 ∨ s2 < r1) → ∀ t b u1 u2 u3 u4 h' tk', Fr h₀ L h' m → News h₀ L h' ((t, seqO #[.ref b, tval 0 0]) :: (b, tup4 (if d1 > c1 then d1 else c1) (if s1 > r1 then s1 else r1) (if d2 < c2 then d2 else c2) (if s2 < r2 then s2 else r2) u1 u2 u3 u4) :: news) → (AllLt b news ∧ AllLt t news) → Q (.ref t) { s with heap := h', toks := tk' }) :
  wpAny (model PR w) ((AK 640 2300 []).deeper (envX cn ⟨.function, nms, ig, ic, mo⟩ L a ccd cl)) (PySem.call (.ref 381) [.int 5 tk, .ref x, .ref y]) Q E s := by
  have F' := F
  refine wpAny_call ?_
  (refine' enter_try ?k1 ?k2 ?k3 ?k4 ?k5 ?kA ?kF ?kK ?k6 ?k7 ?k8 ?k9 ?kB ?_ ?c2 ?c3 ?c4 ?c5; (case kA => exact rfl); (case kF => exact rfl); (case kK => exact rfl); (case k2 => k_asm); (case k1 => k_asm); (case k3 => k_asm); (case k4 => k_asm); (case k5 => k_asm); (case k6 => k_is); (case k7 => k_is); (case k8 => k_room); (case k9 => first | exact binds_K (by k_in) rfl (by k_is) rfl rfl rfl | exact BindsTo.of_eq rfl); (case kB => exact locs rfl); (case c2 => exact rfl); (case c3 => exact rfl); (case c4 => exact rfl); (case c5 => decide); k_whole; intro g' L' h' FG' F' N' B' X' T' D'; (try dsimp only); (try k_lift B'); (try k_fold))
  w_strict k_steps
  all_goals first
    | (refine hQ1 ?_ _ _ _ (by assumption) ?_; rotate_left; (walk_at "my_sub"); (walk_at "my_bool"))
    | (refine' hQ ?e _ _ _ _ _ _ _ _ ?F (news_two ?N ?hx ?hd ?hs) ?l; (case F => assumption); (case N => assumption); (case hx => walk_at "my_mem"); (case hd => walk_at "my_mem"); (case hs => (intro p hp; (repeat (first | exact hp | refine List.Mem.tail _ ?_)))); (case l => (constructor <;> walk_at "my_alt")); (case e => walk_at "my_bool"))
set_option maxRecDepth 100000 in
set_option maxHeartbeats 4000000 in
theorem ld5u_K {w : World} {base h₀ : Heap} {L a : Addr} {cl : List (Str × Addr)} {cn : Str} {nms : List (Str × NameKind)} {ig ic : Bool} {mo} {ccd : Value} {m mg mb : Str → Option Value} {news : List (Addr × Obj)} {s : Shared} {p : Program} {loose : List Str} {mean : ExcName → Option Value} {Q : Value → Shared → Prop} {E : Value → Shared → Prop} {x dx y dy : Addr} {κ ε : Nat → Tok} {c1 r1 c2 r2 d1 s1 d2 s2 v1 v2 : Int} {k1 k2 : Tok} {tk : Tok}
  (B : Below (AK 640 2300 []) base [] h₀) (F : Fr h₀ L s.heap m) (X₀ : (hd.heap_39 w.params).In h₀) (T : Top p loose mean mg mb h₀) (XB : (hd.heap_39 w.params).In base) (TB : Top p loose mean mg mb base) (i1 : 0 ≤ v1 ∧ v1 ≤ 3) (i2 : 0 ≤ v2 ∧ v2 ≤ 3) (hc : c1 ≤ c2) (hr : r1 ≤ r2) (hd : d1 ≤ d2) (hs : s1 ≤ s2) (hx : (x, instObj 349 dx) ∈ news) (hdx : (dx, crD w κ c1 r1 c2 r2 (tval v1 k1)) ∈ news) (hy : (y, instObj 349 dy) ∈ news) (hdy : (dy, crD w ε d1 s1 d2 s2 (tval v2 k2)) ∈ news)(hf : v2 ≠ 0 ∧ v1 ≠ v2) (N : News h₀ L s.heap news)
  (hQ : ∀ k h' tk', Fr h₀ L h' m → News h₀ L h' news → Q (.str (Str.ofString "refused") k) { s with heap := h', toks := tk' }) :
  wpAny (model PR w) ((AK 640 2300 []).deeper (envX cn ⟨.function, nms, ig, ic, mo⟩ L a ccd cl)) (PySem.call (.ref 381) [.int 5 tk, .ref x, .ref y]) Q E s := by
  have F' := F
  refine wpAny_call ?_
  (refine' enter_try ?k1 ?k2 ?k3 ?k4 ?k5 ?kA ?kF ?kK ?k6 ?k7 ?k8 ?k9 ?kB ?_ ?c2 ?c3 ?c4 ?c5; (case kA => exact rfl); (case kF => exact rfl); (case kK => exact rfl); (case k2 => k_asm); (case k1 => k_asm); (case k3 => k_asm); (case k4 => k_asm); (case k5 => k_asm); (case k6 => k_is); (case k7 => k_is); (case k8 => k_room); (case k9 => first | exact binds_K (by k_in) rfl (by k_is) rfl rfl rfl | exact BindsTo.of_eq rfl); (case kB => exact locs rfl); (case c2 => exact rfl); (case c3 => exact rfl); (case c4 => exact rfl); (case c5 => decide); k_whole; intro g' L' h' FG' F' N' B' X' T' D'; (try dsimp only); (try k_lift B'); (try k_fold))
  w_strict k_steps
  all_goals (refine hQ _ _ _ (by assumption) ?_; (walk_at "my_sub"))
theorem ld5f_C {A : Around} {w : World} {base h₀ : Heap} {L a : Addr} {cl : List (Str × Addr)} {cn : Str} {nms : List (Str × NameKind)} {ig ic : Bool} {mo} {ccd : Value} {m mg mb : Str → Option Value} {news : List (Addr × Obj)} {s : Shared} {p : Program} {loose : List Str} {mean : ExcName → Option Value} {Q : Value → Shared → Prop} {E : Value → Shared → Prop} {x dx y dy : Addr} {κ ε : Nat → Tok} {c1 r1 c2 r2 d1 s1 d2 s2 v1 v2 : Int} {k1 k2 : Tok} {tk : Tok}
  (h1 : A.handled = none) (h2 : A.depth ≤ 640) (h5 : A.units ≤ 2300) (B : Below A base [] h₀) (F : Fr h₀ L s.heap m) (X₀ : (hd.heap_39 w.params).In h₀) (T : Top p loose mean mg mb h₀) (XB : (hd.heap_39 w.params).In base) (TB : Top p loose mean mg mb base) (i1 : 0 ≤ v1 ∧ v1 ≤ 3) (i2 : 0 ≤ v2 ∧ v2 ≤ 3) (hc : c1 ≤ c2) (hr : r1 ≤ r2) (hd : d1 ≤ d2) (hs : s1 ≤ s2) (hx : (x, instObj 349 dx) ∈ news) (hdx : (dx, crD w κ c1 r1 c2 r2 (tval v1 k1)) ∈ news) (hy : (y, instObj 349 dy) ∈ news) (hdy : (dy, crD w ε d1 s1 d2 s2 (tval v2 k2)) ∈ news)(hf : v2 = 0 ∨ v1 = v2)(h1c : 1 ≤ c1 ∧ c1 ≤ 5) (h1r : 1 ≤ r1 ∧ r1 ≤ 5) (h2c : 1 ≤ c2 ∧ c2 ≤ 5) (h2r : 1 ≤ r2 ∧ r2 ≤ 5) (N : News h₀ L s.heap news)
  (hQ1 : (c2 < d1 ∨ d2 < c1 ∨ r2 < s1 ∨ s2 < r1) → ∀ k h' tk', Fr h₀ L h' m → News h₀ L h' news → Q (.str (Str.ofString "refused") k) { s with heap := h', toks := tk' })
  (hQ : ¬ (c2 < d1 ∨ d2 < c1 ∨ r2 < s1 ∨ s2 < r1) → ∀ t b u1 u2 u3 u4 h' tk', Fr h₀ L h' m → News h₀ L h' ((t, seqO #[.ref b, tval 0 0]) :: (b, tup4 (if d1 > c1 then d1 else c1) (if s1 > r1 then s1 else r1) (if d2 < c2 then d2 else c2) (if s2 < r2 then s2 else r2) u1 u2 u3 u4) :: news) → (AllLt b news ∧ AllLt t news) → Q (.ref t) { s with heap := h', toks := tk' }) :
  wpAny (model PR w) (A.deeper (envX cn ⟨.function, nms, ig, ic, mo⟩ L a ccd cl)) (PySem.call (.ref 381) [.int 5 tk, .ref x, .ref y]) Q E s :=
  to_AK h1 h2 h5 B fun B' => ld5f_K B' F X₀ T XB TB i1 i2 hc hr hd hs hx hdx hy hdy hf h1c h1r h2c h2r N hQ1 hQ
theorem ld5u_C {A : Around} {w : World} {base h₀ : Heap} {L a : Addr} {cl : List (Str × Addr)} {cn : Str} {nms : List (Str × NameKind)} {ig ic : Bool} {mo} {ccd : Value} {m mg mb : Str → Option Value} {news : List (Addr × Obj)} {s : Shared} {p : Program} {loose : List Str} {mean : ExcName → Option Value} {Q : Value → Shared → Prop} {E : Value → Shared → Prop} {x dx y dy : Addr} {κ ε : Nat → Tok} {c1 r1 c2 r2 d1 s1 d2 s2 v1 v2 : Int} {k1 k2 : Tok} {tk : Tok}
  (h1 : A.handled = none) (h2 : A.depth ≤ 640) (h5 : A.units ≤ 2300) (B : Below A base [] h₀) (F : Fr h₀ L s.heap m) (X₀ : (hd.heap_39 w.params).In h₀) (T : Top p loose mean mg mb h₀) (XB : (hd.heap_39 w.params).In base) (TB : Top p loose mean mg mb base) (i1 : 0 ≤ v1 ∧ v1 ≤ 3) (i2 : 0 ≤ v2 ∧ v2 ≤ 3) (hc : c1 ≤ c2) (hr : r1 ≤ r2) (hd : d1 ≤ d2) (hs : s1 ≤ s2) (hx : (x, instObj 349 dx) ∈ news) (hdx : (dx, crD w κ c1 r1 c2 r2 (tval v1 k1)) ∈ news) (hy : (y, instObj 349 dy) ∈ news) (hdy : (dy, crD w ε d1 s1 d2 s2 (tval v2 k2)) ∈ news)(hf : v2 ≠ 0 ∧ v1 ≠ v2) (N : News h₀ L s.heap news)
  (hQ : ∀ k h' tk', Fr h₀ L h' m → News h₀ L h' news → Q (.str (Str.ofString "refused") k) { s with heap := h', toks := tk' }) :
  wpAny (model PR w) (A.deeper (envX cn ⟨.function, nms, ig, ic, mo⟩ L a ccd cl)) (PySem.call (.ref 381) [.int 5 tk, .ref x, .ref y]) Q E s :=
  to_AK h1 h2 h5 B fun B' => ld5u_K B' F X₀ T XB TB i1 i2 hc hr hd hs hx hdx hy hdy hf  N hQ
end Mine

end
section
open PySem PySem.W PySem.W.X PyProof.Rows PySem.Spec PySem.Calls
namespace Mine
/-! lists alike, item by item -/
def EqL (A : Around) (s : Shared) : List Value → List Value → Prop
  | [], [] => True
  | a :: as, b :: bs => SeqAt.EqAt A s a b true ∧ EqL A s as bs
  | _, _ => False
theorem EqL.len {A : Around} {s : Shared} : ∀ {as bs : List Value}, EqL A s as bs → as.length = bs.length
  | [], [], _ => rfl
  | _ :: _, _ :: _, h => congrArg (· + 1) h.2.len
  | [], _ :: _, h => h.elim
  | _ :: _, [], h => h.elim
theorem EqL.at {A : Around} {s : Shared} : ∀ {as bs : List Value}, EqL A s as bs → ∀ j (h1 : j < as.length) (h2 : j < bs.length), SeqAt.EqAt A s as[j] bs[j] true
  | _ :: _, _ :: _, h, 0, _, _ => h.1
  | _ :: _, _ :: _, h, j + 1, h1, h2 => h.2.at j (Nat.lt_of_succ_lt_succ h1) (Nat.lt_of_succ_lt_succ h2)
  | [], [], _, j, h1, _ => absurd h1 (Nat.not_lt_zero j)
  | [], _ :: _, h, _, _, _ => h.elim
  | _ :: _, [], h, _, _, _ => h.elim
theorem all_true (n : Nat) : (List.range n).all (fun _ => true) = true := by simp
theorem eq_tuples {A : Around} {s : Shared} {l b : Addr} {as bs : List Value} (hl : s.heap.IsTuple l as.toArray) (hb : s.heap.IsTuple b bs.toArray) (hu : A.units < cLine) (h : EqL A.in1 s as bs) : SeqAt.EqAt A s (.ref l) (.ref b) true := by
  by_cases e : l = b
  · rw [e]; exact SeqAt.EqAt.same _
  · have z := SeqAt.RcAt.tuples (e := fun _ => true) hl hb hu fun j h1 h2 => by simpa using h.at j (by simpa using h1) (by simpa using h2)
    refine SeqAt.EqAt.of_refs e ?_
    rw [all_true] at z
    simpa [h.len] using z
theorem ne_lists {w : World} {A : Around} {E : Value → Shared → Prop} {s : Shared} {Q : Value → Shared → Prop} {l b : Addr} {as bs : List Value} (hl : s.heap.IsList l as.toArray) (hb : s.heap.IsList b bs.toArray) (hu : A.units < cLine) (h : EqL A.in1 s as bs)
  (q : Q (.bool false) s) : wpAny (model PR w) A (compareOp .NotEq (.ref l) (.ref b)) Q E s := by
  have z := SeqAt.RcNeAt.lists (e := fun _ => true) hl hb (by simpa using h.len) hu fun j h1 h2 => by simpa using h.at j (by simpa using h1) (by simpa using h2)
  rw [all_true] at z
  exact cmp_ofNotEq (z PR w E Q q)
theorem eq_bool {A : Around} {s : Shared} {a b : Bool} (h : a = b) : SeqAt.EqAt A s (.bool a) (.bool b) true := by
  subst h; simpa using SeqAt.EqAt.bool_bool (A := A) (s := s) a a
theorem eq_int {A : Around} {s : Shared} {a b : Int} {t u : Tok} (h : a = b) : SeqAt.EqAt A s (.int a t) (.int b u) true := by
  subst h; simpa using SeqAt.EqAt.int_int (A := A) (s := s) a t a u
theorem eq_str {A : Around} {s : Shared} {a b : Str} {t u : Tok} (h : a = b) : SeqAt.EqAt A s (.str a t) (.str b u) true := by
  subst h; simpa using SeqAt.EqAt.str_str (A := A) (s := s) a t a u
theorem eq_tv {A : Around} {s : Shared} {v : Int} {k k' : Tok} : SeqAt.EqAt A s (tval v k) (tval v k') true := by
  unfold tval
  split
  · exact SeqAt.EqAt.same _
  · exact eq_str rfl
theorem eq_tup4 {A : Around} {h₀ : Heap} {L : Addr} {news : List (Addr × Obj)} {s : Shared} {l b : Addr} {a1 a2 a3 a4 b1 b2 b3 b4 : Int} {u1 u2 u3 u4 v1 v2 v3 v4 : Tok} (N : News h₀ L s.heap news) (hl : (l, tup4 a1 a2 a3 a4 u1 u2 u3 u4) ∈ news) (hb : (b, tup4 b1 b2 b3 b4 v1 v2 v3 v4) ∈ news)
  (hu : A.units < cLine) (e1 : a1 = b1) (e2 : a2 = b2) (e3 : a3 = b3) (e4 : a4 = b4) : SeqAt.EqAt A s (.ref l) (.ref b) true :=
  eq_tuples ⟨_, N.get hl, rfl, _, rfl⟩ ⟨_, N.get hb, rfl, _, rfl⟩ hu ⟨eq_int e1, eq_int e2, eq_int e3, eq_int e4, trivial⟩
theorem eq_pair {A : Around} {h₀ : Heap} {L : Addr} {news : List (Addr × Obj)} {s : Shared} {l b : Addr} {x y x' y' : Value} (N : News h₀ L s.heap news) (hl : (l, seqO #[x, y]) ∈ news) (hb : (b, seqO #[x', y']) ∈ news)
  (hu : A.units < cLine) (e1 : SeqAt.EqAt A.in1 s x x' true) (e2 : SeqAt.EqAt A.in1 s y y' true) : SeqAt.EqAt A s (.ref l) (.ref b) true :=
  eq_tuples (as := [x, y]) (bs := [x', y']) ⟨_, N.get hl, rfl, _, rfl⟩ ⟨_, N.get hb, rfl, _, rfl⟩ hu ⟨e1, e2, trivial⟩
/-! one turn of the comprehension -/
section
variable {prog : Program} {w : World} {A : Around} {E : Value → Shared → Prop} {s : Shared} {K : Frag} {h₀ : Heap} {L C : Addr} {m m₂ mg mb : Str → Option Value} {news : List (Addr × Obj)} {scope : Scope} {cl : List (Str × Addr)} {env : Env} {p : Program} {loose : List Str} {mean : ExcName → Option Value}
theorem turn_call {f kd o1 o2 : Str} {p1 p2 p3 p4 p5 : Pos} {fv kv v1 v2 : Value} {oC q1 q2 : Obj} {a1 a2 : Addr} {Q : Value → Shared → Prop}
  (F : Fr h₀ L s.heap m) (X : K.In h₀) (T : Top p loose mean mg mb h₀) (N : News h₀ L s.heap news)
  (e : nsIn K mainGlobals f = some (some fv)) (hk : keepIn K fv = true)
  (hm : (C, oC) ∈ news) (hC : LCg.NsObj oC m₂) (hx : m₂ kd = some kv)
  (l1 : cl.lookup o1 = some a1) (n1 : (a1, q1) ∈ news) (d1 : q1.data = .cell (some v1))
  (l2 : cl.lookup o2 = some a2) (n2 : (a2, q2) ∈ news) (d2 : q2.data = .cell (some v2))
  (hg : env.globals = mainGlobals) (hfn : (compEnvC scope cl C env).scope.kind = .function)
  (kf : (compEnvC scope cl C env).kindOf f = some .globalImplicit) (kk : (compEnvC scope cl C env).kindOf kd = some .local) (k1 : (compEnvC scope cl C env).kindOf o1 = some .cell) (k2 : (compEnvC scope cl C env).kindOf o2 = some .cell)
  (b0 : (f == ("__debug__" : Str)) = false) (b1 : (kd == ("__debug__" : Str)) = false) (b2 : (o1 == ("__debug__" : Str)) = false) (b3 : (o2 == ("__debug__" : Str)) = false)
  (h : wpAny (model prog w) A (PySem.call fv [kv, v1, v2]) Q E s) :
  wpAny (model prog w) A (eval (.Call (.Name f p1) [.Name kd p2, .Name o1 p3, .Name o2 p4] [] p5) (compEnvC scope cl C env)) Q E s := by
  refine Call_ ?_
  refine LCgL.ld_global F X T e ?_ hg hfn kf b0
  refine callWith_K X hk ?_
  refine args_cons (LCgL.ld_own N hm hC hx ?_ hfn kk b1)
  refine args_cons (kcf_cell N l1 n1 d1 ?_ hfn k1 b2)
  refine args_cons (kcf_cell N l2 n2 d2 ?_ hfn k2 b3)
  exact args_nil ⟨X.keeps F.keep, h⟩
theorem turn_end {I D : Addr} {oI oC oD : Obj} {h' : Heap} {tk : Nat} {rest : Value → List (Addr × Obj) → Prop} {y : Value} (new : List (Addr × Obj))
  (F : Fr h₀ L h' m) (N : News h₀ L h' (new ++ (I, oI) :: (C, oC) :: (D, oD) :: news)) (off : LCg.Off3 I C D news) (lt : ∀ q ∈ new, AllLt q.1 ((I, oI) :: (C, oC) :: (D, oD) :: news)) (r : rest y (new ++ news)) :
  LCg.CompEnd h₀ L m s I oI C oC D oD (fun _ => True) rest y { s with heap := h', toks := tk } := by
  refine LCg.CompEnd.intro F N (new ++ news) ?_ ?_ trivial r
  · intro q hq
    simp only [List.mem_cons, List.mem_append] at hq ⊢
    rcases hq with e | e | e | e | e
    · exact .inr (.inl e)
    · exact .inr (.inr (.inl e))
    · exact .inr (.inr (.inr (.inl e)))
    · exact .inl e
    · exact .inr (.inr (.inr (.inr e)))
  · refine LCg.Off3.of fun q hq => ?_
    rcases List.mem_append.mp hq with h | h
    · have z := lt q h
      exact ⟨Nat.ne_of_gt z.1, Nat.ne_of_gt z.2.1, Nat.ne_of_gt z.2.2.1⟩
    · exact off.mem q h
end
end Mine

end
section
open PySem PySem.W PySem.W.X PyProof.Rows PySem.Spec PySem.Calls
namespace Mine
local macro_rules | `(tactic| walk_at "pad") => `(tactic| fail "pad")
theorem six_unfit {w : World} {A : Around} {base h₀ : Heap} {L a : Addr} {cl cl' : List (Str × Addr)} {cn : Str} {nms : List (Str × NameKind)} {ig ic : Bool} {mo} {ccd : Value} {m mg mb : Str → Option Value} {news : List (Addr × Obj)} {s : Shared} {p : Program} {loose : List Str} {mean : ExcName → Option Value} {x dx y dy : Addr} {κ ε : Nat → Tok} {c1 r1 c2 r2 d1 s1 d2 s2 v1 v2 : Int} {k1 k2 : Tok} {env : Env} {scope : Scope} {f kd o1 o2 : Str} {p1 p2 p3 p4 p5 : Pos} {a1 a2 : Addr} {q1 q2 : Obj} {Fin : List Value → List (Addr × Obj) → Prop}
  (h1 : A.handled = none) (h2 : A.depth ≤ 640) (h5 : A.units ≤ 2300) (B : Below A base [] h₀) (X₀ : (hd.heap_39 w.params).In h₀) (T : Top p loose mean mg mb h₀) (XB : (hd.heap_39 w.params).In base) (TB : Top p loose mean mg mb base)
  (e : nsIn (hd.heap_39 w.params) mainGlobals f = some (some (.ref 381))) (hk : keepIn (hd.heap_39 w.params) (.ref 381) = true)
  (l1 : cl'.lookup o1 = some a1) (n1 : (a1, q1) ∈ news) (d1' : q1.data = .cell (some (.ref x))) (l2 : cl'.lookup o2 = some a2) (n2 : (a2, q2) ∈ news) (d2' : q2.data = .cell (some (.ref y)))
  (hg : env.globals = mainGlobals) (hfn : ∀ C, (compEnvC scope cl' C env).scope.kind = .function)
  (kf : ∀ C, (compEnvC scope cl' C env).kindOf f = some .globalImplicit) (kk : ∀ C, (compEnvC scope cl' C env).kindOf kd = some .local) (ko1 : ∀ C, (compEnvC scope cl' C env).kindOf o1 = some .cell) (ko2 : ∀ C, (compEnvC scope cl' C env).kindOf o2 = some .cell)
  (b0 : (f == ("__debug__" : Str)) = false) (b1 : (kd == ("__debug__" : Str)) = false) (b2 : (o1 == ("__debug__" : Str)) = false) (b3 : (o2 == ("__debug__" : Str)) = false)
  (i1 : 0 ≤ v1 ∧ v1 ≤ 3) (i2 : 0 ≤ v2 ∧ v2 ≤ 3) (hc : c1 ≤ c2) (hr : r1 ≤ r2) (hd : d1 ≤ d2) (hs : s1 ≤ s2) (hx : (x, instObj 349 dx) ∈ news) (hdx : (dx, crD w κ c1 r1 c2 r2 (tval v1 k1)) ∈ news) (hy : (y, instObj 349 dy) ∈ news) (hdy : (dy, crD w ε d1 s1 d2 s2 (tval v2 k2)) ∈ news) (hf : v2 ≠ 0 ∧ v1 ≠ v2)
  (hFin : ∀ t0 t1 t2 t3 t4 t5, Fin [.str (Str.ofString "refused") t0, .str (Str.ofString "refused") t1, .str (Str.ofString "refused") t2, .str (Str.ofString "refused") t3, .str (Str.ofString "refused") t4, .str (Str.ofString "refused") t5] news) :
  LCg.CompRest PR w (A.deeper (envX cn ⟨.function, nms, ig, ic, mo⟩ L a ccd cl)) h₀ L m env (.Call (.Name f p1) [.Name kd p2, .Name o1 p3, .Name o2 p4] [] p5) kd scope cl' s (fun _ => True) (fun i v => ∃ t, v = .int (0 + (i : Int)) t) Fin 6 0 [] news := by
  refine LCg.CompRest.succ ?_
  intro v I oI C oC D m₂ h tk E' hv hC hxk F N off ne
  obtain ⟨t, ht⟩ := hv
  have hv : v = .int 0 t := ht
  subst hv
  refine turn_call F X₀ T N e hk (.tail _ (.head _)) hC hxk l1 (.tail _ (.tail _ (.tail _ n1))) d1' l2 (.tail _ (.tail _ (.tail _ n2))) d2' hg (hfn C) (kf C) (kk C) (ko1 C) (ko2 C) b0 b1 b2 b3 ?_
  refine ld0u_C h1 h2 h5 B F X₀ T XB TB i1 i2 hc hr hd hs (.tail _ (.tail _ (.tail _ hx))) (.tail _ (.tail _ (.tail _ hdx))) (.tail _ (.tail _ (.tail _ hy))) (.tail _ (.tail _ (.tail _ hdy))) hf N (fun t0 h' tk' F' N' => ?_)
  refine turn_end [] F' N' off (fun _ h => nomatch h) ?_
  refine LCg.CompRest.succ ?_
  intro v I oI C oC D m₂ h tk E' hv hC hxk F N off ne
  obtain ⟨t, ht⟩ := hv
  have hv : v = .int 1 t := ht
  subst hv
  refine turn_call F X₀ T N e hk (.tail _ (.head _)) hC hxk l1 (.tail _ (.tail _ (.tail _ n1))) d1' l2 (.tail _ (.tail _ (.tail _ n2))) d2' hg (hfn C) (kf C) (kk C) (ko1 C) (ko2 C) b0 b1 b2 b3 ?_
  refine ld1u_C h1 h2 h5 B F X₀ T XB TB i1 i2 hc hr hd hs (.tail _ (.tail _ (.tail _ hx))) (.tail _ (.tail _ (.tail _ hdx))) (.tail _ (.tail _ (.tail _ hy))) (.tail _ (.tail _ (.tail _ hdy))) hf N (fun t1 h' tk' F' N' => ?_)
  refine turn_end [] F' N' off (fun _ h => nomatch h) ?_
  refine LCg.CompRest.succ ?_
  intro v I oI C oC D m₂ h tk E' hv hC hxk F N off ne
  obtain ⟨t, ht⟩ := hv
  have hv : v = .int 2 t := ht
  subst hv
  refine turn_call F X₀ T N e hk (.tail _ (.head _)) hC hxk l1 (.tail _ (.tail _ (.tail _ n1))) d1' l2 (.tail _ (.tail _ (.tail _ n2))) d2' hg (hfn C) (kf C) (kk C) (ko1 C) (ko2 C) b0 b1 b2 b3 ?_
  refine ld2u_C h1 h2 h5 B F X₀ T XB TB i1 i2 hc hr hd hs (.tail _ (.tail _ (.tail _ hx))) (.tail _ (.tail _ (.tail _ hdx))) (.tail _ (.tail _ (.tail _ hy))) (.tail _ (.tail _ (.tail _ hdy))) hf N (fun t2 h' tk' F' N' => ?_)
  refine turn_end [] F' N' off (fun _ h => nomatch h) ?_
  refine LCg.CompRest.succ ?_
  intro v I oI C oC D m₂ h tk E' hv hC hxk F N off ne
  obtain ⟨t, ht⟩ := hv
  have hv : v = .int 3 t := ht
  subst hv
  refine turn_call F X₀ T N e hk (.tail _ (.head _)) hC hxk l1 (.tail _ (.tail _ (.tail _ n1))) d1' l2 (.tail _ (.tail _ (.tail _ n2))) d2' hg (hfn C) (kf C) (kk C) (ko1 C) (ko2 C) b0 b1 b2 b3 ?_
  refine ld3u_C h1 h2 h5 B F X₀ T XB TB i1 i2 hc hr hd hs (.tail _ (.tail _ (.tail _ hx))) (.tail _ (.tail _ (.tail _ hdx))) (.tail _ (.tail _ (.tail _ hy))) (.tail _ (.tail _ (.tail _ hdy))) hf N (fun t3 h' tk' F' N' => ?_)
  refine turn_end [] F' N' off (fun _ h => nomatch h) ?_
  refine LCg.CompRest.succ ?_
  intro v I oI C oC D m₂ h tk E' hv hC hxk F N off ne
  obtain ⟨t, ht⟩ := hv
  have hv : v = .int 4 t := ht
  subst hv
  refine turn_call F X₀ T N e hk (.tail _ (.head _)) hC hxk l1 (.tail _ (.tail _ (.tail _ n1))) d1' l2 (.tail _ (.tail _ (.tail _ n2))) d2' hg (hfn C) (kf C) (kk C) (ko1 C) (ko2 C) b0 b1 b2 b3 ?_
  refine ld4u_C h1 h2 h5 B F X₀ T XB TB i1 i2 hc hr hd hs (.tail _ (.tail _ (.tail _ hx))) (.tail _ (.tail _ (.tail _ hdx))) (.tail _ (.tail _ (.tail _ hy))) (.tail _ (.tail _ (.tail _ hdy))) hf N (fun t4 h' tk' F' N' => ?_)
  refine turn_end [] F' N' off (fun _ h => nomatch h) ?_
  refine LCg.CompRest.succ ?_
  intro v I oI C oC D m₂ h tk E' hv hC hxk F N off ne
  obtain ⟨t, ht⟩ := hv
  have hv : v = .int 5 t := ht
  subst hv
  refine turn_call F X₀ T N e hk (.tail _ (.head _)) hC hxk l1 (.tail _ (.tail _ (.tail _ n1))) d1' l2 (.tail _ (.tail _ (.tail _ n2))) d2' hg (hfn C) (kf C) (kk C) (ko1 C) (ko2 C) b0 b1 b2 b3 ?_
  refine ld5u_C h1 h2 h5 B F X₀ T XB TB i1 i2 hc hr hd hs (.tail _ (.tail _ (.tail _ hx))) (.tail _ (.tail _ (.tail _ hdx))) (.tail _ (.tail _ (.tail _ hy))) (.tail _ (.tail _ (.tail _ hdy))) hf N (fun t5 h' tk' F' N' => ?_)
  refine turn_end [] F' N' off (fun _ h => nomatch h) ?_
  exact LCg.CompRest.zero (hFin t0 t1 t2 t3 t4 t5)

theorem six_fit {w : World} {A : Around} {base h₀ : Heap} {L a : Addr} {cl cl' : List (Str × Addr)} {cn : Str} {nms : List (Str × NameKind)} {ig ic : Bool} {mo} {ccd : Value} {m mg mb : Str → Option Value} {news : List (Addr × Obj)} {s : Shared} {p : Program} {loose : List Str} {mean : ExcName → Option Value} {x dx y dy : Addr} {κ ε : Nat → Tok} {c1 r1 c2 r2 d1 s1 d2 s2 v1 v2 : Int} {k1 k2 : Tok} {env : Env} {scope : Scope} {f kd o1 o2 : Str} {p1 p2 p3 p4 p5 : Pos} {a1 a2 : Addr} {q1 q2 : Obj} {Fin : List Value → List (Addr × Obj) → Prop}
  (h1 : A.handled = none) (h2 : A.depth ≤ 640) (h5 : A.units ≤ 2300) (B : Below A base [] h₀) (X₀ : (hd.heap_39 w.params).In h₀) (T : Top p loose mean mg mb h₀) (XB : (hd.heap_39 w.params).In base) (TB : Top p loose mean mg mb base)
  (e : nsIn (hd.heap_39 w.params) mainGlobals f = some (some (.ref 381))) (hk : keepIn (hd.heap_39 w.params) (.ref 381) = true)
  (l1 : cl'.lookup o1 = some a1) (n1 : (a1, q1) ∈ news) (d1' : q1.data = .cell (some (.ref x))) (l2 : cl'.lookup o2 = some a2) (n2 : (a2, q2) ∈ news) (d2' : q2.data = .cell (some (.ref y)))
  (hg : env.globals = mainGlobals) (hfn : ∀ C, (compEnvC scope cl' C env).scope.kind = .function)
  (kf : ∀ C, (compEnvC scope cl' C env).kindOf f = some .globalImplicit) (kk : ∀ C, (compEnvC scope cl' C env).kindOf kd = some .local) (ko1 : ∀ C, (compEnvC scope cl' C env).kindOf o1 = some .cell) (ko2 : ∀ C, (compEnvC scope cl' C env).kindOf o2 = some .cell)
  (b0 : (f == ("__debug__" : Str)) = false) (b1 : (kd == ("__debug__" : Str)) = false) (b2 : (o1 == ("__debug__" : Str)) = false) (b3 : (o2 == ("__debug__" : Str)) = false)
  (i1 : 0 ≤ v1 ∧ v1 ≤ 3) (i2 : 0 ≤ v2 ∧ v2 ≤ 3) (hc : c1 ≤ c2) (hr : r1 ≤ r2) (hd : d1 ≤ d2) (hs : s1 ≤ s2) (hx : (x, instObj 349 dx) ∈ news) (hdx : (dx, crD w κ c1 r1 c2 r2 (tval v1 k1)) ∈ news) (hy : (y, instObj 349 dy) ∈ news) (hdy : (dy, crD w ε d1 s1 d2 s2 (tval v2 k2)) ∈ news) (hf : v2 = 0 ∨ v1 = v2) (z1c : 1 ≤ c1 ∧ c1 ≤ 5) (z1r : 1 ≤ r1 ∧ r1 ≤ 5) (z2c : 1 ≤ c2 ∧ c2 ≤ 5) (z2r : 1 ≤ r2 ∧ r2 ≤ 5)
  (hFin1 : (c2 < d1 ∨ d2 < c1 ∨ r2 < s1 ∨ s2 < r1) → ∀ a0 a1 a2 a3 t4 b4 w1 w2 w3 w4 t5 news', (∀ q ∈ news, q ∈ news') → (a0 = true ↔ (d1 ≤ c1 ∧ c2 ≤ d2 ∧ s1 ≤ r1 ∧ r2 ≤ s2)) → (a1 = true ↔ ((c1 ≤ d1 ∧ d2 ≤ c2 ∧ r1 ≤ s1 ∧ s2 ≤ r2) ∧ ¬ (c1 = d1 ∧ c2 = d2 ∧ r1 = s1 ∧ r2 = s2))) → (a2 = true ↔ (c2 < d1 ∨ d2 < c1 ∨ r2 < s1 ∨ s2 < r1)) → (a3 = true ↔ (c1 ≤ d1 ∧ d2 ≤ c2 ∧ r1 ≤ s1 ∧ s2 ≤ r2)) → (t4, seqO #[.ref b4, tval v1 k1]) ∈ news' → (b4, tup4 (if d1 < c1 then d1 else c1) (if s1 < r1 then s1 else r1) (if d2 > c2 then d2 else c2) (if s2 > r2 then s2 else r2) w1 w2 w3 w4) ∈ news' →
    Fin [.bool a0, .bool a1, .bool a2, .bool a3, .ref t4, .str (Str.ofString "refused") t5] news')
  (hFin2 : ¬ (c2 < d1 ∨ d2 < c1 ∨ r2 < s1 ∨ s2 < r1) → ∀ a0 a1 a2 a3 t4 b4 w1 w2 w3 w4 t5 b5 o1 o2 o3 o4 news', (∀ q ∈ news, q ∈ news') → (a0 = true ↔ (d1 ≤ c1 ∧ c2 ≤ d2 ∧ s1 ≤ r1 ∧ r2 ≤ s2)) → (a1 = true ↔ ((c1 ≤ d1 ∧ d2 ≤ c2 ∧ r1 ≤ s1 ∧ s2 ≤ r2) ∧ ¬ (c1 = d1 ∧ c2 = d2 ∧ r1 = s1 ∧ r2 = s2))) → (a2 = true ↔ (c2 < d1 ∨ d2 < c1 ∨ r2 < s1 ∨ s2 < r1)) → (a3 = true ↔ (c1 ≤ d1 ∧ d2 ≤ c2 ∧ r1 ≤ s1 ∧ s2 ≤ r2)) → (t4, seqO #[.ref b4, tval v1 k1]) ∈ news' → (b4, tup4 (if d1 < c1 then d1 else c1) (if s1 < r1 then s1 else r1) (if d2 > c2 then d2 else c2) (if s2 > r2 then s2 else r2) w1 w2 w3 w4) ∈ news' →
    (t5, seqO #[.ref b5, tval 0 0]) ∈ news' → (b5, tup4 (if d1 > c1 then d1 else c1) (if s1 > r1 then s1 else r1) (if d2 < c2 then d2 else c2) (if s2 < r2 then s2 else r2) o1 o2 o3 o4) ∈ news' → Fin [.bool a0, .bool a1, .bool a2, .bool a3, .ref t4, .ref t5] news') :
  LCg.CompRest PR w (A.deeper (envX cn ⟨.function, nms, ig, ic, mo⟩ L a ccd cl)) h₀ L m env (.Call (.Name f p1) [.Name kd p2, .Name o1 p3, .Name o2 p4] [] p5) kd scope cl' s (fun _ => True) (fun i v => ∃ t, v = .int (0 + (i : Int)) t) Fin 6 0 [] news := by
  refine LCg.CompRest.succ ?_
  intro v I oI C oC D m₂ h tk E' hv hC hxk F N off ne
  obtain ⟨t, ht⟩ := hv
  have hv : v = .int 0 t := ht
  subst hv
  refine turn_call F X₀ T N e hk (.tail _ (.head _)) hC hxk l1 (.tail _ (.tail _ (.tail _ n1))) d1' l2 (.tail _ (.tail _ (.tail _ n2))) d2' hg (hfn C) (kf C) (kk C) (ko1 C) (ko2 C) b0 b1 b2 b3 ?_
  refine ld0f_C h1 h2 h5 B F X₀ T XB TB i1 i2 hc hr hd hs (.tail _ (.tail _ (.tail _ hx))) (.tail _ (.tail _ (.tail _ hdx))) (.tail _ (.tail _ (.tail _ hy))) (.tail _ (.tail _ (.tail _ hdy))) hf N (fun a0 h' tk' e0 F' N' => ?_)
  refine turn_end [] F' N' off (fun _ h => nomatch h) ?_
  refine LCg.CompRest.succ ?_
  intro v I oI C oC D m₂ h tk E' hv hC hxk F N off ne
  obtain ⟨t, ht⟩ := hv
  have hv : v = .int 1 t := ht
  subst hv
  refine turn_call F X₀ T N e hk (.tail _ (.head _)) hC hxk l1 (.tail _ (.tail _ (.tail _ n1))) d1' l2 (.tail _ (.tail _ (.tail _ n2))) d2' hg (hfn C) (kf C) (kk C) (ko1 C) (ko2 C) b0 b1 b2 b3 ?_
  refine ld1f_C h1 h2 h5 B F X₀ T XB TB i1 i2 hc hr hd hs (.tail _ (.tail _ (.tail _ hx))) (.tail _ (.tail _ (.tail _ hdx))) (.tail _ (.tail _ (.tail _ hy))) (.tail _ (.tail _ (.tail _ hdy))) hf N (fun a1 h' tk' e1 F' N' => ?_)
  refine turn_end [] F' N' off (fun _ h => nomatch h) ?_
  refine LCg.CompRest.succ ?_
  intro v I oI C oC D m₂ h tk E' hv hC hxk F N off ne
  obtain ⟨t, ht⟩ := hv
  have hv : v = .int 2 t := ht
  subst hv
  refine turn_call F X₀ T N e hk (.tail _ (.head _)) hC hxk l1 (.tail _ (.tail _ (.tail _ n1))) d1' l2 (.tail _ (.tail _ (.tail _ n2))) d2' hg (hfn C) (kf C) (kk C) (ko1 C) (ko2 C) b0 b1 b2 b3 ?_
  refine ld2f_C h1 h2 h5 B F X₀ T XB TB i1 i2 hc hr hd hs (.tail _ (.tail _ (.tail _ hx))) (.tail _ (.tail _ (.tail _ hdx))) (.tail _ (.tail _ (.tail _ hy))) (.tail _ (.tail _ (.tail _ hdy))) hf N (fun a2 h' tk' e2 F' N' => ?_)
  refine turn_end [] F' N' off (fun _ h => nomatch h) ?_
  refine LCg.CompRest.succ ?_
  intro v I oI C oC D m₂ h tk E' hv hC hxk F N off ne
  obtain ⟨t, ht⟩ := hv
  have hv : v = .int 3 t := ht
  subst hv
  refine turn_call F X₀ T N e hk (.tail _ (.head _)) hC hxk l1 (.tail _ (.tail _ (.tail _ n1))) d1' l2 (.tail _ (.tail _ (.tail _ n2))) d2' hg (hfn C) (kf C) (kk C) (ko1 C) (ko2 C) b0 b1 b2 b3 ?_
  refine ld3f_C h1 h2 h5 B F X₀ T XB TB i1 i2 hc hr hd hs (.tail _ (.tail _ (.tail _ hx))) (.tail _ (.tail _ (.tail _ hdx))) (.tail _ (.tail _ (.tail _ hy))) (.tail _ (.tail _ (.tail _ hdy))) hf N (fun a3 h' tk' e3 F' N' => ?_)
  refine turn_end [] F' N' off (fun _ h => nomatch h) ?_
  refine LCg.CompRest.succ ?_
  intro v I oI C oC D m₂ h tk E' hv hC hxk F N off ne
  obtain ⟨t, ht⟩ := hv
  have hv : v = .int 4 t := ht
  subst hv
  refine turn_call F X₀ T N e hk (.tail _ (.head _)) hC hxk l1 (.tail _ (.tail _ (.tail _ n1))) d1' l2 (.tail _ (.tail _ (.tail _ n2))) d2' hg (hfn C) (kf C) (kk C) (ko1 C) (ko2 C) b0 b1 b2 b3 ?_
  refine ld4f_C h1 h2 h5 B F X₀ T XB TB i1 i2 hc hr hd hs (.tail _ (.tail _ (.tail _ hx))) (.tail _ (.tail _ (.tail _ hdx))) (.tail _ (.tail _ (.tail _ hy))) (.tail _ (.tail _ (.tail _ hdy))) hf N (fun t4 b4 w1 w2 w3 w4 h' tk' F' N' lt => ?_)
  refine turn_end [(t4, _), (b4, _)] F' N' off (fun q hq => ?_) ?_
  · rcases List.mem_cons.mp hq with rfl | hq
    · exact lt.2
    · rw [List.mem_singleton.mp hq]; exact lt.1
  refine LCg.CompRest.succ ?_
  intro v I oI C oC D m₂ h tk E' hv hC hxk F N off ne
  obtain ⟨t, ht⟩ := hv
  have hv : v = .int 5 t := ht
  subst hv
  refine turn_call F X₀ T N e hk (.tail _ (.head _)) hC hxk l1 (.tail _ (.tail _ (.tail _ (.tail _ (.tail _ n1))))) d1' l2 (.tail _ (.tail _ (.tail _ (.tail _ (.tail _ n2))))) d2' hg (hfn C) (kf C) (kk C) (ko1 C) (ko2 C) b0 b1 b2 b3 ?_
  refine ld5f_C h1 h2 h5 B F X₀ T XB TB i1 i2 hc hr hd hs (.tail _ (.tail _ (.tail _ (.tail _ (.tail _ hx))))) (.tail _ (.tail _ (.tail _ (.tail _ (.tail _ hdx))))) (.tail _ (.tail _ (.tail _ (.tail _ (.tail _ hy))))) (.tail _ (.tail _ (.tail _ (.tail _ (.tail _ hdy))))) hf z1c z1r z2c z2r N (fun hA t5 h' tk' F' N' => ?_) (fun hA t5 b5 o1' o2' o3' o4' h' tk' F' N' lt => ?_)
  · refine turn_end [] F' N' off (fun _ h => nomatch h) ?_
    exact LCg.CompRest.zero (hFin1 hA a0 a1 a2 a3 t4 b4 w1 w2 w3 w4 t5 _ (fun q hq => .tail _ (.tail _ hq)) e0 e1 e2 e3 (.head _) (.tail _ (.head _)))
  · refine turn_end [(t5, _), (b5, _)] F' N' off (fun q hq => ?_) ?_
    · rcases List.mem_cons.mp hq with rfl | hq
      · exact lt.2
      · rw [List.mem_singleton.mp hq]; exact lt.1
    exact LCg.CompRest.zero (hFin2 hA a0 a1 a2 a3 t4 b4 w1 w2 w3 w4 t5 b5 o1' o2' o3' o4' _ (fun q hq => .tail _ (.tail _ (.tail _ (.tail _ hq)))) e0 e1 e2 e3 (.tail _ (.tail _ (.head _))) (.tail _ (.tail _ (.tail _ (.head _)))) (.head _) (.tail _ (.head _)))

end Mine

end
section
open PySem PySem.W PySem.W.X PyProof.Rows PySem.Spec PySem.Calls
namespace Mine
def lastDef : List Stmt → List Stmt
  | [] => []
  | .FunctionDef _ _ b _ _ _ _ _ _ _ :: [] => b
  | _ :: r => lastDef r
def lastScope : List Stmt → Scope
  | [] => ⟨.function, [], false, false, []⟩
  | .FunctionDef _ _ _ _ _ _ sc _ _ _ :: [] => sc
  | _ :: r => lastScope r
abbrev lawB : List Stmt := lastDef PR.main.body
abbrev lawSc : Scope := lastScope PR.main.body
abbrev lawE (L a : Addr) (cc : Value) : Env := envOfC (Str.ofString "law") lawSc L a cc

local macro_rules | `(tactic| k_handed) => `(tactic| exact tval_handed _ _)
local macro_rules | `(tactic| walk_at "truthy") => `(tactic| (k_here; (with_reducible show wpAny _ _ (truthy (tval _ _)) _ _ _); (with_reducible refine' truthy_tval ?a1 ?_); (case a1 => first | assumption | omega); k_whole))
local macro_rules | `(tactic| walk_at "compareOp Is none") => `(tactic| (k_here; (with_reducible show wpAny _ _ (compareOp _ (tval _ _) _) _ _ _); (with_reducible refine' isNone_tval ?a1 ?_); (case a1 => first | assumption | omega); k_whole))
local macro_rules | `(tactic| walk_at "compareOp NotEq") => `(tactic| (k_here; (with_reducible show wpAny _ _ (compareOp _ (tval _ _) (tval _ _)) _ _ _); (with_reducible refine' ne_tval ?a1 ?a2 ?_); (case a1 => first | assumption | omega); (case a2 => first | assumption | omega); k_whole))
local macro_rules | `(tactic| walk_at "compareOp Eq") => `(tactic| (k_here; (with_reducible show wpAny _ _ (compareOp _ (tval _ _) (tval _ _)) _ _ _); (with_reducible refine' eq_tval ?a1 ?a2 ?_); (case a1 => first | assumption | omega); (case a2 => first | assumption | omega); k_whole))
local macro_rules | `(tactic| k_all) => `(tactic| assumption)
local macro_rules | `(tactic| k_mem) => `(tactic| assumption)
theorem mn1 {c d : Int} : (if d < c then d else c) = d ↔ d ≤ c := by split <;> omega
theorem mn2 {c d : Int} : (if d < c then d else c) = c ↔ c ≤ d := by split <;> omega
theorem mx1 {c d : Int} : (if d > c then d else c) = d ↔ c ≤ d := by split <;> omega
theorem mx2 {c d : Int} : (if d > c then d else c) = c ↔ d ≤ c := by split <;> omega
local macro_rules | `(tactic| walk_at "my_mem") => `(tactic| (repeat (first | assumption | exact List.Mem.head _ | refine List.Mem.tail _ ?_)))
local macro_rules | `(tactic| walk_at "my_e") => `(tactic| ((try simp only [Bool.and_eq_true, Bool.and_eq_false_imp, Bool.not_eq_true', beq_eq_false_iff_ne, beq_iff_eq, mn1, mn2, mx1, mx2, ne_eq] at *); omega))

abbrev MidDue2 (h₀ : Heap) (L : Addr) (m : Str → Option Value) (news : List (Addr × Obj)) (c1 r1 c2 r2 d1 s1 d2 s2 v1 : Int) (k1 : Tok) (ab : Bool) (ov : Addr) (s s' : Shared) : Prop :=
  ∃ dl lv t4 e0 e1 e3 v5 w1 w2 w3 w4 n h' tk' l, s' = St s h' tk' ∧ (e0 = true ↔ (d1 ≤ c1 ∧ c2 ≤ d2 ∧ s1 ≤ r1 ∧ r2 ≤ s2)) ∧ (e1 = true ↔ ((c1 ≤ d1 ∧ d2 ≤ c2 ∧ r1 ≤ s1 ∧ s2 ≤ r2) ∧ ¬ (c1 = d1 ∧ c2 = d2 ∧ r1 = s1 ∧ r2 = s2))) ∧ (e3 = true ↔ (c1 ≤ d1 ∧ d2 ≤ c2 ∧ r1 ≤ s1 ∧ s2 ≤ r2)) ∧
   Fr h₀ L h' (fun y => if y = Str.ofString "due" then some (.ref dl) else if y = Str.ofString "least" then some (.ref lv) else m y) ∧ News h₀ L h' l ∧ (∀ q ∈ news, q ∈ l) ∧ (dl, listOf #[.bool e0, .bool e1, .bool ab, .bool e3, .ref t4, v5] n) ∈ l ∧ (t4, seqO #[.ref lv, tval v1 k1]) ∈ l ∧ (lv, tup4 (if d1 < c1 then d1 else c1) (if s1 < r1 then s1 else r1) (if d2 > c2 then d2 else c2) (if s2 > r2 then s2 else r2) w1 w2 w3 w4) ∈ l ∧
   ((ab = true ∧ ∃ k, v5 = .str (Str.ofString "refused") k) ∨ (ab = false ∧ ∃ t5, v5 = .ref t5 ∧ (t5, seqO #[.ref ov, .none]) ∈ l))
set_option maxRecDepth 100000 in
set_option maxHeartbeats 4000000 in
theorem seg_due {w : World} {base h₀ : Heap} {L a : Addr} {cc : Value} {m₀ mg mb : Str → Option Value} {news : List (Addr × Obj)} {s : Shared} {p : Program} {loose : List Str} {mean : ExcName → Option Value} {E : Value → Shared → Prop} {y b1 b2 stt ov : Addr} {c1 r1 c2 r2 d1 s1 d2 s2 v1 v2 : Int} {k1 k2 j1 j2 j3 j4 i1t i2t i3t i4t : Tok} {fb ab : Bool}
  (B : Below callerA base [] h₀) (X₀ : (hd.heap_39 w.params).In h₀) (T : Top p loose mean mg mb h₀) (XB : (hd.heap_39 w.params).In base) (TB : Top p loose mean mg mb base) (F : Fr h₀ L s.heap (fun y => if y = Str.ofString "apart" then some (.bool ab) else if y = Str.ofString "over" then some (.ref ov) else if y = Str.ofString "fit" then some (.bool fb) else if y = Str.ofString "other_name" then some (tval v2 k2) else if y = Str.ofString "second" then some (.ref b2) else if y = Str.ofString "name" then some (tval v1 k1) else if y = Str.ofString "first" then some (.ref b1) else if y = Str.ofString "state" then some (.ref stt) else m₀ y)) (g1 : 1 ≤ c1 ∧ c1 ≤ 3 ∧ c1 ≤ c2 ∧ c2 ≤ 5 ∧ 1 ≤ r1 ∧ r1 ≤ 3 ∧ r1 ≤ r2 ∧ r2 ≤ 5) (g2 : 1 ≤ d1 ∧ d1 ≤ 3 ∧ d1 ≤ d2 ∧ d2 ≤ 5 ∧ 1 ≤ s1 ∧ s1 ≤ 3 ∧ s1 ≤ s2 ∧ s2 ≤ 5) (i1 : 0 ≤ v1 ∧ v1 ≤ 3) (i2 : 0 ≤ v2 ∧ v2 ≤ 3) (n1 : (b1, tup4 c1 r1 c2 r2 j1 j2 j3 j4) ∈ news) (n2 : (b2, tup4 d1 s1 d2 s2 i1t i2t i3t i4t) ∈ news) (N : News h₀ L s.heap news) :
  wpAny (model PR w) (callerA.deeper (lawE L a cc)) (execs ((lawB.drop 6).take 2) (lawE L a cc)) (fun fl s' => Done (MidDue2 h₀ L (fun y => if y = Str.ofString "apart" then some (.bool ab) else if y = Str.ofString "over" then some (.ref ov) else if y = Str.ofString "fit" then some (.bool fb) else if y = Str.ofString "other_name" then some (tval v2 k2) else if y = Str.ofString "second" then some (.ref b2) else if y = Str.ofString "name" then some (tval v1 k1) else if y = Str.ofString "first" then some (.ref b1) else if y = Str.ofString "state" then some (.ref stt) else m₀ y) news c1 r1 c2 r2 d1 s1 d2 s2 v1 k1 ab ov s s') fl) E s := by
  show wpAny _ (callerA.deeper (envOfC _ ⟨_, _, _, _, _⟩ _ _ _)) (execs (Stmt.Assign _ _ _ :: Stmt.Assign _ _ _ :: []) _) _ _ _
  have F' := F
  have N' := N
  have B' := B
  cases ab
  · k_steps
    all_goals (refine Done.mk ?_; refine' ⟨_, _, _, _, _, _, _, _, _, _, _, _, _, _, _, rfl, ?zz0, ?zz1, ?zz3, ?zzF, ?zzN, ?zzs, ?zzm, ?zzt, ?zzl, .inr ⟨rfl, _, rfl, ?zzo⟩⟩; (case zzF => assumption); (case zzN => assumption); (case zzm => exact .head _); (case zzt => walk_at "my_mem"); (case zzl => walk_at "my_mem"); (case zzo => walk_at "my_mem"); (case zzs => (intro q hq; (repeat (first | exact hq | refine List.Mem.tail _ ?_)))); (case zz0 => walk_at "my_e"); (case zz1 => walk_at "my_e"); (case zz3 => walk_at "my_e"))
  · k_steps
    all_goals (refine Done.mk ?_; refine' ⟨_, _, _, _, _, _, _, _, _, _, _, _, _, _, _, rfl, ?zz0, ?zz1, ?zz3, ?zzF, ?zzN, ?zzs, ?zzm, ?zzt, ?zzl, .inl ⟨rfl, _, rfl⟩⟩; (case zzF => assumption); (case zzN => assumption); (case zzm => exact .head _); (case zzt => walk_at "my_mem"); (case zzl => walk_at "my_mem"); (case zzs => (intro q hq; (repeat (first | exact hq | refine List.Mem.tail _ ?_)))); (case zz0 => walk_at "my_e"); (case zz1 => walk_at "my_e"); (case zz3 => walk_at "my_e"))
end Mine

end
section
open PySem PySem.W PySem.W.X PyProof.Rows PySem.Spec PySem.Calls
namespace Mine
local macro_rules | `(tactic| walk_at "pad") => `(tactic| fail "pad")
local macro_rules | `(tactic| walk_at "pad") => `(tactic| fail "pad")

local macro_rules | `(tactic| k_handed) => `(tactic| exact tval_handed _ _)
local macro_rules | `(tactic| walk_at "truthy") => `(tactic| (k_here; (with_reducible show wpAny _ _ (truthy (tval _ _)) _ _ _); (with_reducible refine' truthy_tval ?a1 ?_); (case a1 => first | assumption | omega); k_whole))
local macro_rules | `(tactic| walk_at "compareOp Is none") => `(tactic| (k_here; (with_reducible show wpAny _ _ (compareOp _ (tval _ _) _) _ _ _); (with_reducible refine' isNone_tval ?a1 ?_); (case a1 => first | assumption | omega); k_whole))
local macro_rules | `(tactic| walk_at "compareOp NotEq") => `(tactic| (k_here; (with_reducible show wpAny _ _ (compareOp _ (tval _ _) (tval _ _)) _ _ _); (with_reducible refine' ne_tval ?a1 ?a2 ?_); (case a1 => first | assumption | omega); (case a2 => first | assumption | omega); k_whole))
local macro_rules | `(tactic| walk_at "compareOp Eq") => `(tactic| (k_here; (with_reducible show wpAny _ _ (compareOp _ (tval _ _) (tval _ _)) _ _ _); (with_reducible refine' eq_tval ?a1 ?a2 ?_); (case a1 => first | assumption | omega); (case a2 => first | assumption | omega); k_whole))
local macro_rules | `(tactic| k_all) => `(tactic| assumption)
local macro_rules | `(tactic| k_mem) => `(tactic| assumption)
local macro_rules | `(tactic| walk_at "my_mem") => `(tactic| (repeat (first | assumption | exact List.Mem.head _ | refine List.Mem.tail _ ?_)))

set_option maxRecDepth 100000 in
set_option maxHeartbeats 4000000 in
theorem seg_if1 {w : World} {base h₀ : Heap} {L a : Addr} {cc : Value} {m₀ mg mb : Str → Option Value} {news : List (Addr × Obj)} {s : Shared} {p : Program} {loose : List Str} {mean : ExcName → Option Value} {E : Value → Shared → Prop} {x dx y dy b1 b2 stt ov lv dl : Addr} {κ ε : Nat → Tok} {c1 r1 c2 r2 d1 s1 d2 s2 v1 v2 : Int} {k1 k2 k1' k2' u1 u2 u3 u4 y1 y2 y3 y4 : Tok} {fb ab : Bool} {q1 q2 : Obj} {t4 : Addr} {e0 e1 e3 : Bool} {v5 : Value} {n : Nat}
  (B : Below callerA base [] h₀) (X₀ : (hd.heap_39 w.params).In h₀) (T : Top p loose mean mg mb h₀) (XB : (hd.heap_39 w.params).In base) (TB : Top p loose mean mg mb base) (F : Fr h₀ L s.heap (fun y => if y = Str.ofString "due" then some (.ref dl) else if y = Str.ofString "least" then some (.ref lv) else if y = Str.ofString "apart" then some (.bool ab) else if y = Str.ofString "over" then some (.ref ov) else if y = Str.ofString "fit" then some (.bool fb) else if y = Str.ofString "other_name" then some (tval v2 k2) else if y = Str.ofString "second" then some (.ref b2) else if y = Str.ofString "name" then some (tval v1 k1) else if y = Str.ofString "first" then some (.ref b1) else if y = Str.ofString "state" then some (.ref stt) else m₀ y)) (g1 : 1 ≤ c1 ∧ c1 ≤ 3 ∧ c1 ≤ c2 ∧ c2 ≤ 5 ∧ 1 ≤ r1 ∧ r1 ≤ 3 ∧ r1 ≤ r2 ∧ r2 ≤ 5) (g2 : 1 ≤ d1 ∧ d1 ≤ 3 ∧ d1 ≤ d2 ∧ d2 ≤ 5 ∧ 1 ≤ s1 ∧ s1 ≤ 3 ∧ s1 ≤ s2 ∧ s2 ≤ 5) (i1 : 0 ≤ v1 ∧ v1 ≤ 3) (i2 : 0 ≤ v2 ∧ v2 ≤ 3) (hx : (x, instObj 349 dx) ∈ news) (hdx : (dx, crD w κ c1 r1 c2 r2 (tval v1 k1')) ∈ news) (hy : (y, instObj 349 dy) ∈ news) (hdy : (dy, crD w ε d1 s1 d2 s2 (tval v2 k2')) ∈ news) (hc1 : (L + 1, q1) ∈ news) (hq1 : q1.data = .cell (some (.ref x))) (hc2 : (L + 1 + 1, q2) ∈ news) (hq2 : q2.data = .cell (some (.ref y))) (ef : fb = true ↔ v2 = 0 ∨ v1 = v2) (ea : ab = true ↔ c2 < d1 ∨ d2 < c1 ∨ r2 < s1 ∨ s2 < r1) (hdl : (dl, listOf #[.bool e0, .bool e1, .bool ab, .bool e3, .ref t4, v5] n) ∈ news) (ht4 : (t4, seqO #[.ref lv, tval v1 k1]) ∈ news) (hlv : (lv, tup4 (if d1 < c1 then d1 else c1) (if s1 < r1 then s1 else r1) (if d2 > c2 then d2 else c2) (if s2 > r2 then s2 else r2) y1 y2 y3 y4) ∈ news) (hov : (ov, tup4 (if d1 > c1 then d1 else c1) (if s1 > r1 then s1 else r1) (if d2 < c2 then d2 else c2) (if s2 < r2 then s2 else r2) u1 u2 u3 u4) ∈ news) (he0 : e0 = true ↔ (d1 ≤ c1 ∧ c2 ≤ d2 ∧ s1 ≤ r1 ∧ r2 ≤ s2)) (he1 : e1 = true ↔ ((c1 ≤ d1 ∧ d2 ≤ c2 ∧ r1 ≤ s1 ∧ s2 ≤ r2) ∧ ¬ (c1 = d1 ∧ c2 = d2 ∧ r1 = s1 ∧ r2 = s2))) (he3 : e3 = true ↔ (c1 ≤ d1 ∧ d2 ≤ c2 ∧ r1 ≤ s1 ∧ s2 ≤ r2)) (h5 : (ab = true ∧ ∃ k, v5 = .str (Str.ofString "refused") k) ∨ (ab = false ∧ ∃ t5, v5 = .ref t5 ∧ (t5, seqO #[.ref ov, .none]) ∈ news)) (N : News h₀ L s.heap news) :
  wpAny (model PR w) (callerA.deeper (lawE L a cc)) (execs ((lawB.drop 8).take 1) (lawE L a cc)) (fun fl s' => Done (MidSame h₀ L (fun y => if y = Str.ofString "due" then some (.ref dl) else if y = Str.ofString "least" then some (.ref lv) else if y = Str.ofString "apart" then some (.bool ab) else if y = Str.ofString "over" then some (.ref ov) else if y = Str.ofString "fit" then some (.bool fb) else if y = Str.ofString "other_name" then some (tval v2 k2) else if y = Str.ofString "second" then some (.ref b2) else if y = Str.ofString "name" then some (tval v1 k1) else if y = Str.ofString "first" then some (.ref b1) else if y = Str.ofString "state" then some (.ref stt) else m₀ y) news s s') fl) E s := by
  show wpAny _ (callerA.deeper (envOfC _ ⟨_, _, _, _, _⟩ _ _ _)) (execs (Stmt.If _ _ _ _ :: []) _) _ _ _
  have F' := F
  have N' := N
  have B' := B
  have hc : c1 ≤ c2 := by omega
  have hr : r1 ≤ r2 := by omega
  have hd : d1 ≤ d2 := by omega
  have hs : s1 ≤ s2 := by omega
  cases fb
  · have hf : v2 ≠ 0 ∧ v1 ≠ v2 := by have := mt ef.mpr Bool.false_ne_true; omega
    repeat ((fail_if_success (with_reducible show LCg.CompSrc _ _ _ _ _ _ _ _ _ _ _ _ _ _)); (first | (k_unfold; (try dsimp only)) | (k_end; wrow_close) | walk1 | (dsimp only; walk1) | (leave1; (try dsimp only)) | fail "no step"))
    refine LCg.CompSrc.range (by rfl) (by assumption) (by assumption) (by assumption) (by decide) (by rfl) (by exact Nat.le_of_ble_eq_true rfl) ?_
    intro g'
    refine six_unfit rfl (Nat.le_of_ble_eq_true rfl) (Nat.le_of_ble_eq_true rfl) B X₀ T XB TB (by k_dflt k_is) (by k_dflt k_is) rfl hc1 hq1 rfl hc2 hq2 rfl (fun _ => rfl) (fun _ => rfl) (fun _ => rfl) (fun _ => rfl) (fun _ => rfl) (by decide) (by decide) (by decide) (by decide) i1 i2 hc hr hd hs hx hdx hy hdy hf ?_
    intro t0 t1 t2 t3 t4' t5 D h tk F' N' off
    dsimp only
    repeat ((fail_if_success (with_reducible show wpAny _ _ (binaryOp _ _ _) _ _ _)); (first | (k_unfold; (try dsimp only)) | (k_end; wrow_close) | walk1 | (dsimp only; walk1) | (leave1; (try dsimp only)) | fail "no step"))
    rename Fr _ _ _ _ => FF
    rename News _ _ _ _ => NN
    refine KMa.mul (vs := [.str (Str.ofString "refused") _]) (ws := [.str (Str.ofString "refused") _, .str (Str.ofString "refused") _, .str (Str.ofString "refused") _, .str (Str.ofString "refused") _, .str (Str.ofString "refused") _, .str (Str.ofString "refused") _]) FF NN ⟨_, NN.get (.head _), rfl, _, rfl⟩ (by decide) (by decide) (by exact Nat.le_of_ble_eq_true rfl) rfl ?_
    intro D' h' F' N' l1'
    dsimp only
    repeat ((fail_if_success (with_reducible show wpAny _ _ (compareOp _ _ _) _ _ _)); (first | (k_unfold; (try dsimp only)) | (k_end; wrow_close) | walk1 | (dsimp only; walk1) | (leave1; (try dsimp only)) | fail "no step"))
    refine ne_lists (as := [.str (Str.ofString "refused") t0, .str (Str.ofString "refused") t1, .str (Str.ofString "refused") t2, .str (Str.ofString "refused") t3, .str (Str.ofString "refused") t4', .str (Str.ofString "refused") t5]) (bs := [.str (Str.ofString "refused") _, .str (Str.ofString "refused") _, .str (Str.ofString "refused") _, .str (Str.ofString "refused") _, .str (Str.ofString "refused") _, .str (Str.ofString "refused") _]) ⟨_, N'.get (.tail _ (.tail _ (.head _))), rfl, _, rfl⟩ ⟨_, N'.get (.head _), rfl, _, rfl⟩ (by exact Nat.le_of_ble_eq_true rfl) ⟨eq_str rfl, eq_str rfl, eq_str rfl, eq_str rfl, eq_str rfl, eq_str rfl, trivial⟩ ?_
    k_steps
    all_goals (refine Done.mk ?_; refine' ⟨_, _, rfl, ?zzF, ?zzN⟩; (case zzF => assumption); (case zzN => exact news_sub (by assumption) fun q hq => List.Mem.tail _ (List.Mem.tail _ (List.Mem.tail _ hq))))
  · have hf : v2 = 0 ∨ v1 = v2 := ef.mp rfl
    repeat ((fail_if_success (with_reducible show LCg.CompSrc _ _ _ _ _ _ _ _ _ _ _ _ _ _)); (first | (k_unfold; (try dsimp only)) | (k_end; wrow_close) | walk1 | (dsimp only; walk1) | (leave1; (try dsimp only)) | fail "no step"))
    refine LCg.CompSrc.range (by rfl) (by assumption) (by assumption) (by assumption) (by decide) (by rfl) (by exact Nat.le_of_ble_eq_true rfl) ?_
    intro g'
    refine six_fit rfl (Nat.le_of_ble_eq_true rfl) (Nat.le_of_ble_eq_true rfl) B X₀ T XB TB (by k_dflt k_is) (by k_dflt k_is) rfl hc1 hq1 rfl hc2 hq2 rfl (fun _ => rfl) (fun _ => rfl) (fun _ => rfl) (fun _ => rfl) (fun _ => rfl) (by decide) (by decide) (by decide) (by decide) i1 i2 hc hr hd hs hx hdx hy hdy hf (by omega) (by omega) (by omega) (by omega) ?_ ?_
    · intro hA a0 a1 a2 a3 t4' b4 w1 w2 w3 w4 t5 news' sub x0 x1 x2 x3 m1 m2 D h tk F' N' off
      dsimp only
      repeat ((fail_if_success (with_reducible show wpAny _ _ (compareOp _ _ _) _ _ _)); (first | (k_unfold; (try dsimp only)) | (k_end; wrow_close) | walk1 | (dsimp only; walk1) | (leave1; (try dsimp only)) | fail "no step"))
      rename News _ _ _ _ => NN
      refine ne_lists (as := [.bool a0, .bool a1, .bool a2, .bool a3, .ref t4', .str (Str.ofString "refused") t5]) (bs := [.bool e0, .bool e1, .bool ab, .bool e3, .ref t4, v5]) ⟨_, NN.get (.head _), rfl, _, rfl⟩ ⟨_, NN.get (.tail _ (sub _ hdl)), rfl, _, rfl⟩ (by exact Nat.le_of_ble_eq_true rfl) ⟨eq_bool (Bool.eq_iff_iff.mpr (x0.trans he0.symm)), eq_bool (Bool.eq_iff_iff.mpr (x1.trans he1.symm)), eq_bool (Bool.eq_iff_iff.mpr (x2.trans ea.symm)), eq_bool (Bool.eq_iff_iff.mpr (x3.trans he3.symm)), eq_pair NN (.tail _ (m1)) (.tail _ (sub _ ht4)) (by exact Nat.le_of_ble_eq_true rfl) (eq_tup4 NN (.tail _ (m2)) (.tail _ (sub _ hlv)) (by exact Nat.le_of_ble_eq_true rfl) rfl rfl rfl rfl) eq_tv, ?_, trivial⟩ ?_
      · rcases h5 with ⟨_, k, e⟩ | ⟨e, _⟩
        · rw [e]; exact eq_str rfl
        · rw [e] at ea; exact absurd (ea.mpr hA) Bool.false_ne_true
      k_steps
      all_goals (refine Done.mk ?_; refine' ⟨_, _, rfl, ?zzF, ?zzN⟩; (case zzF => assumption); (case zzN => exact news_sub (by assumption) fun q hq => List.Mem.tail _ (sub q hq)))
    · intro hA a0 a1 a2 a3 t4' b4 w1 w2 w3 w4 t5 b5 o1 o2 o3 o4 news' sub x0 x1 x2 x3 m1 m2 m3 m4 D h tk F' N' off
      dsimp only
      repeat ((fail_if_success (with_reducible show wpAny _ _ (compareOp _ _ _) _ _ _)); (first | (k_unfold; (try dsimp only)) | (k_end; wrow_close) | walk1 | (dsimp only; walk1) | (leave1; (try dsimp only)) | fail "no step"))
      rename News _ _ _ _ => NN
      refine ne_lists (as := [.bool a0, .bool a1, .bool a2, .bool a3, .ref t4', .ref t5]) (bs := [.bool e0, .bool e1, .bool ab, .bool e3, .ref t4, v5]) ⟨_, NN.get (.head _), rfl, _, rfl⟩ ⟨_, NN.get (.tail _ (sub _ hdl)), rfl, _, rfl⟩ (by exact Nat.le_of_ble_eq_true rfl) ⟨eq_bool (Bool.eq_iff_iff.mpr (x0.trans he0.symm)), eq_bool (Bool.eq_iff_iff.mpr (x1.trans he1.symm)), eq_bool (Bool.eq_iff_iff.mpr (x2.trans ea.symm)), eq_bool (Bool.eq_iff_iff.mpr (x3.trans he3.symm)), eq_pair NN (.tail _ (m1)) (.tail _ (sub _ ht4)) (by exact Nat.le_of_ble_eq_true rfl) (eq_tup4 NN (.tail _ (m2)) (.tail _ (sub _ hlv)) (by exact Nat.le_of_ble_eq_true rfl) rfl rfl rfl rfl) eq_tv, ?_, trivial⟩ ?_
      · rcases h5 with ⟨e, _⟩ | ⟨_, t, e, mt⟩
        · exact absurd (ea.mp e) hA
        · rw [e]; exact eq_pair NN (.tail _ m3) (.tail _ (sub _ mt)) (by exact Nat.le_of_ble_eq_true rfl) (eq_tup4 NN (.tail _ m4) (.tail _ (sub _ hov)) (by exact Nat.le_of_ble_eq_true rfl) rfl rfl rfl rfl) (by rw [tval0]; exact SeqAt.EqAt.same _)
      k_steps
      all_goals (refine Done.mk ?_; refine' ⟨_, _, rfl, ?zzF, ?zzN⟩; (case zzF => assumption); (case zzN => exact news_sub (by assumption) fun q hq => List.Mem.tail _ (sub q hq)))
end Mine

end
section
open PySem PySem.W PySem.W.X PyProof.Rows PySem.Spec PySem.Calls
namespace Mine

local macro_rules | `(tactic| k_handed) => `(tactic| exact tval_handed _ _)
local macro_rules | `(tactic| walk_at "truthy") => `(tactic| (k_here; (with_reducible show wpAny _ _ (truthy (tval _ _)) _ _ _); (with_reducible refine' truthy_tval ?a1 ?_); (case a1 => first | assumption | omega); k_whole))
local macro_rules | `(tactic| walk_at "compareOp Is none") => `(tactic| (k_here; (with_reducible show wpAny _ _ (compareOp _ (tval _ _) _) _ _ _); (with_reducible refine' isNone_tval ?a1 ?_); (case a1 => first | assumption | omega); k_whole))
local macro_rules | `(tactic| walk_at "compareOp NotEq") => `(tactic| (k_here; (with_reducible show wpAny _ _ (compareOp _ (tval _ _) (tval _ _)) _ _ _); (with_reducible refine' ne_tval ?a1 ?a2 ?_); (case a1 => first | assumption | omega); (case a2 => first | assumption | omega); k_whole))
local macro_rules | `(tactic| walk_at "compareOp Eq") => `(tactic| (k_here; (with_reducible show wpAny _ _ (compareOp _ (tval _ _) (tval _ _)) _ _ _); (with_reducible refine' eq_tval ?a1 ?a2 ?_); (case a1 => first | assumption | omega); (case a2 => first | assumption | omega); k_whole))
local macro_rules | `(tactic| k_all) => `(tactic| assumption)
local macro_rules | `(tactic| k_mem) => `(tactic| assumption)
local macro_rules | `(tactic| walk_at "my_mem") => `(tactic| (repeat (first | assumption | exact List.Mem.head _ | refine List.Mem.tail _ ?_)))
theorem of_iff {b : Bool} {P : Prop} [Decidable P] (e : b = true ↔ P) : b = decide P := Bool.eq_iff_iff.mpr (e.trans decide_eq_true_iff.symm)
theorem sx1 {a b : Bool} : ((a != b) = true) ↔ (a = true ↔ ¬ (b = true)) := by cases a <;> cases b <;> decide
theorem sx2 {a b : Bool} : ((a != b) = false) ↔ (a = true ↔ b = true) := by cases a <;> cases b <;> decide
theorem sx3 {a b : Bool} : ((a == b) = true) ↔ (a = true ↔ b = true) := by cases a <;> cases b <;> decide
theorem sx4 {a b : Bool} : ((a == b) = false) ↔ (a = true ↔ ¬ (b = true)) := by cases a <;> cases b <;> decide
theorem ibeq {a b : Int} : ((a == b) = true) ↔ a = b := beq_iff_eq
local macro_rules | `(tactic| walk_at "my_no") => `(tactic| (exfalso; (simp only [sx1, sx2, sx3, sx4, ibeq, Bool.and_eq_true, decide_eq_true_eq, decide_eq_false_iff_not] at *) <;> grind))
local macro_rules | `(tactic| walk_at "my_sub") => `(tactic| (refine news_sub (by assumption) ?_; intro p hp; (repeat (first | exact hp | refine List.Mem.tail _ ?_))))

local macro_rules | `(tactic| walk_at "call ref") => `(tactic| (k_here; (with_reducible show wpAny _ _ (PySem.call (Value.ref 235) _) _ _ _); k_dflt ((refine' eq_C ?q1 ?q2 ?q3 ?B ?F ?X ?T ?XB ?TB ?zz0 ?zz1 ?zz2 ?zz3 ?zz4 ?zz5 ?N ?_); (case B => k_asm); (case F => k_asm); (case X => assumption); (case T => assumption); (case XB => assumption); (case TB => assumption); (case N => k_asm); (case zz2 => (repeat (first | assumption | exact List.Mem.head _ | refine List.Mem.tail _ ?_))); (case zz3 => (repeat (first | assumption | exact List.Mem.head _ | refine List.Mem.tail _ ?_))); (case zz4 => (repeat (first | assumption | exact List.Mem.head _ | refine List.Mem.tail _ ?_))); (case zz5 => (repeat (first | assumption | exact List.Mem.head _ | refine List.Mem.tail _ ?_))); (case zz0 => first | assumption | omega); (case zz1 => first | assumption | omega); (case q1 => rfl); (case q2 => exact Nat.le_of_ble_eq_true rfl); (case q3 => exact Nat.le_of_ble_eq_true rfl); k_whole; intro b' h' tk' e' F' N'; (replace e' := of_iff e'); subst e'; (try dsimp only [PySem.W.CmpBack]))))
local macro_rules | `(tactic| walk_at "call ref") => `(tactic| (k_here; (with_reducible show wpAny _ _ (PySem.call (Value.ref 228) _) _ _ _); k_dflt ((refine' nq_C ?q1 ?q2 ?q3 ?B ?F ?X ?T ?XB ?TB ?zz0 ?zz1 ?zz2 ?zz3 ?zz4 ?zz5 ?N ?_); (case B => k_asm); (case F => k_asm); (case X => assumption); (case T => assumption); (case XB => assumption); (case TB => assumption); (case N => k_asm); (case zz2 => (repeat (first | assumption | exact List.Mem.head _ | refine List.Mem.tail _ ?_))); (case zz3 => (repeat (first | assumption | exact List.Mem.head _ | refine List.Mem.tail _ ?_))); (case zz4 => (repeat (first | assumption | exact List.Mem.head _ | refine List.Mem.tail _ ?_))); (case zz5 => (repeat (first | assumption | exact List.Mem.head _ | refine List.Mem.tail _ ?_))); (case zz0 => first | assumption | omega); (case zz1 => first | assumption | omega); (case q1 => rfl); (case q2 => exact Nat.le_of_ble_eq_true rfl); (case q3 => exact Nat.le_of_ble_eq_true rfl); k_whole; intro b' h' tk' e' F' N'; (replace e' := of_iff e'); subst e'; (try dsimp only [PySem.W.CmpBack]))))
set_option maxRecDepth 100000 in
set_option maxHeartbeats 4000000 in
theorem seg_if2 {w : World} {base h₀ : Heap} {L a : Addr} {cc : Value} {m₀ mg mb : Str → Option Value} {news : List (Addr × Obj)} {s : Shared} {p : Program} {loose : List Str} {mean : ExcName → Option Value} {E : Value → Shared → Prop} {x dx y dy b1 b2 stt ov lv dl : Addr} {κ ε : Nat → Tok} {c1 r1 c2 r2 d1 s1 d2 s2 v1 v2 : Int} {k1 k2 k1' k2' j1 j2 j3 j4 i1t i2t i3t i4t : Tok} {fb ab : Bool} {q1 q2 : Obj}
  (B : Below callerA base [] h₀) (X₀ : (hd.heap_39 w.params).In h₀) (T : Top p loose mean mg mb h₀) (XB : (hd.heap_39 w.params).In base) (TB : Top p loose mean mg mb base) (F : Fr h₀ L s.heap (fun y => if y = Str.ofString "due" then some (.ref dl) else if y = Str.ofString "least" then some (.ref lv) else if y = Str.ofString "apart" then some (.bool ab) else if y = Str.ofString "over" then some (.ref ov) else if y = Str.ofString "fit" then some (.bool fb) else if y = Str.ofString "other_name" then some (tval v2 k2) else if y = Str.ofString "second" then some (.ref b2) else if y = Str.ofString "name" then some (tval v1 k1) else if y = Str.ofString "first" then some (.ref b1) else if y = Str.ofString "state" then some (.ref stt) else m₀ y)) (g1 : 1 ≤ c1 ∧ c1 ≤ 3 ∧ c1 ≤ c2 ∧ c2 ≤ 5 ∧ 1 ≤ r1 ∧ r1 ≤ 3 ∧ r1 ≤ r2 ∧ r2 ≤ 5) (g2 : 1 ≤ d1 ∧ d1 ≤ 3 ∧ d1 ≤ d2 ∧ d2 ≤ 5 ∧ 1 ≤ s1 ∧ s1 ≤ 3 ∧ s1 ≤ s2 ∧ s2 ≤ 5) (i1 : 0 ≤ v1 ∧ v1 ≤ 3) (i2 : 0 ≤ v2 ∧ v2 ≤ 3) (hx : (x, instObj 349 dx) ∈ news) (hdx : (dx, crD w κ c1 r1 c2 r2 (tval v1 k1')) ∈ news) (hy : (y, instObj 349 dy) ∈ news) (hdy : (dy, crD w ε d1 s1 d2 s2 (tval v2 k2')) ∈ news) (n1 : (b1, tup4 c1 r1 c2 r2 j1 j2 j3 j4) ∈ news) (n2 : (b2, tup4 d1 s1 d2 s2 i1t i2t i3t i4t) ∈ news) (hc1 : (L + 1, q1) ∈ news) (hq1 : q1.data = .cell (some (.ref x))) (hc2 : (L + 1 + 1, q2) ∈ news) (hq2 : q2.data = .cell (some (.ref y))) (ef : fb = true ↔ v2 = 0 ∨ v1 = v2) (ea : ab = true ↔ c2 < d1 ∨ d2 < c1 ∨ r2 < s1 ∨ s2 < r1) (N : News h₀ L s.heap news) :
  wpAny (model PR w) (callerA.deeper (lawE L a cc)) (execs ((lawB.drop 9).take 1) (lawE L a cc)) (fun fl s' => Done (MidSame h₀ L (fun y => if y = Str.ofString "due" then some (.ref dl) else if y = Str.ofString "least" then some (.ref lv) else if y = Str.ofString "apart" then some (.bool ab) else if y = Str.ofString "over" then some (.ref ov) else if y = Str.ofString "fit" then some (.bool fb) else if y = Str.ofString "other_name" then some (tval v2 k2) else if y = Str.ofString "second" then some (.ref b2) else if y = Str.ofString "name" then some (tval v1 k1) else if y = Str.ofString "first" then some (.ref b1) else if y = Str.ofString "state" then some (.ref stt) else m₀ y) news s s') fl) E s := by
  show wpAny _ (callerA.deeper (envOfC _ ⟨_, _, _, _, _⟩ _ _ _)) (execs (Stmt.If _ _ _ _ :: []) _) _ _ _
  obtain rfl := of_iff ef
  have F' := F
  have N' := N
  have B' := B
  k_steps
  all_goals (first | (refine Done.mk ?_; refine' ⟨_, _, rfl, ?zzF, ?zzN⟩; (case zzF => assumption); (case zzN => walk_at "my_sub")) | (walk_at "my_no"))
end Mine

end
section
open PySem PySem.W PySem.W.X PyProof.Rows PySem.Spec PySem.Calls
namespace Mine
local macro_rules | `(tactic| walk_at "pad") => `(tactic| fail "pad")
local macro_rules | `(tactic| walk_at "pad") => `(tactic| fail "pad")

local macro_rules | `(tactic| k_handed) => `(tactic| exact tval_handed _ _)
local macro_rules | `(tactic| walk_at "truthy") => `(tactic| (k_here; (with_reducible show wpAny _ _ (truthy (tval _ _)) _ _ _); (with_reducible refine' truthy_tval ?a1 ?_); (case a1 => first | assumption | omega); k_whole))
local macro_rules | `(tactic| walk_at "compareOp Is none") => `(tactic| (k_here; (with_reducible show wpAny _ _ (compareOp _ (tval _ _) _) _ _ _); (with_reducible refine' isNone_tval ?a1 ?_); (case a1 => first | assumption | omega); k_whole))
local macro_rules | `(tactic| walk_at "compareOp NotEq") => `(tactic| (k_here; (with_reducible show wpAny _ _ (compareOp _ (tval _ _) (tval _ _)) _ _ _); (with_reducible refine' ne_tval ?a1 ?a2 ?_); (case a1 => first | assumption | omega); (case a2 => first | assumption | omega); k_whole))
local macro_rules | `(tactic| walk_at "compareOp Eq") => `(tactic| (k_here; (with_reducible show wpAny _ _ (compareOp _ (tval _ _) (tval _ _)) _ _ _); (with_reducible refine' eq_tval ?a1 ?a2 ?_); (case a1 => first | assumption | omega); (case a2 => first | assumption | omega); k_whole))
local macro_rules | `(tactic| k_all) => `(tactic| assumption)
local macro_rules | `(tactic| k_mem) => `(tactic| assumption)
theorem ne_text {w : World} {A : Around} {E : Value → Shared → Prop} {s : Shared} {x y : Str} {t u : Tok} {Q : Value → Shared → Prop} (e : x = y) (h : Q (.bool false) s) : wpAny (model PR w) A (compareOp .NotEq (.str x t) (.str y u)) Q E s := by
  subst e
  exact cmp_ofNotEq (SeqAt.RcNeAt.str_str x t x u _ _ _ _ (by simpa using h))
theorem same_t {a b c d : Int} (h : (a == b && c == d) = true) : a = b ∧ c = d := by simpa using h
theorem same_f {a b c d : Int} (h : (a == b && c == d) = false) : ¬ (a = b ∧ c = d) := fun e => by simp [e.1, e.2] at h
theorem to_l {x : Str} {l l' : List Nat} (h : x = ⟨l'.toArray⟩) (e : l = l') : (⟨l.toArray⟩ : Str) = x := by rw [h, e]

local macro_rules | `(tactic| walk_at "subscriptTail") => `(tactic| (k_here; (with_reducible show wpAny _ _ (subscriptTail _ _ (Value.str _ _) (Value.int _ _)) _ _ _); (with_reducible refine' abc_K ?h ?_ ?s ?t); (case h => omega); (case s => with_unfolding_all rfl); (case t => intro _; with_unfolding_all rfl); k_whole; intro k' n'))
local macro_rules | `(tactic| walk_at "call type:str") => `(tactic| (k_here; (with_reducible show wpAny _ _ (PySem.call _ [Value.int _ _]) _ _ _); (with_reducible refine' strint_K ?h ?_); (case h => omega); k_whole; intro k' n'))
local macro_rules | `(tactic| walk_at "my_mem") => `(tactic| (repeat (first | assumption | exact List.Mem.head _ | refine List.Mem.tail _ ?_)))
local macro_rules | `(tactic| walk_at "my_ord") => `(tactic| (refine ⟨ltN ?_, ltN ?_, ltN ?_, ltN ?_⟩ <;> omega))
local macro_rules | `(tactic| walk_at "my_cat") => `(tactic| with_reducible first | exact lit_q | exact lit_qb | exact lit_c | exact lit_e | exact lit_b | exact lit_0 | rfl)
local macro_rules | `(tactic| walk_at "my_len") => `(tactic| first | exact Nat.le_of_ble_eq_true rfl | exact len1001 | (refine len1000 ?_; exact Nat.le_of_ble_eq_true rfl))
local macro_rules | `(tactic| walk_at "my_app") => `(tactic| (simp only [List.cons_append, List.nil_append, List.append_assoc]; try exact rfl))
local macro_rules | `(tactic| walk_at "binaryOp Add str str") => `(tactic| (k_here; (with_reducible refine' cat_K ?x ?y ?e ?n1 ?n2 ?_); (case x => walk_at "my_cat"); (case y => walk_at "my_cat"); (case e => walk_at "my_app"); (case n1 => walk_at "my_len"); (case n2 => walk_at "my_len"); k_whole; intro k' n'))
local macro_rules | `(tactic| walk_at "binaryOp Add str") => `(tactic| (k_here; (with_reducible refine' catT_K ?x ?v ?z ?e ?n1 ?_); (case x => walk_at "my_cat"); (case v => omega); (case z => omega); (case e => walk_at "my_app"); (case n1 => walk_at "my_len"); k_whole; intro k' n'))
theorem strx_C {A : Around} {w : World} {outer : List Env} {base h₀ : Heap} {L a : Addr} {cl : List (Str × Addr)} {cn : Str} {nms : List (Str × NameKind)} {ig ic : Bool} {mo} {ccd : Value} {m mg mb : Str → Option Value} {news : List (Addr × Obj)} {s : Shared} {p : Program} {loose : List Str} {mean : ExcName → Option Value} {Q : Value → Shared → Prop} {E : Value → Shared → Prop} {x dx : Addr} {κ : Nat → Tok} {c1 r1 c2 r2 v : Int} {k : Tok}
  (h1 : A.handled = none) (h2 : A.depth ≤ 660) (h5 : A.units ≤ 2590) (B : Below A base outer h₀) (F : Fr h₀ L s.heap m) (X₀ : (hd.heap_39 w.params).In h₀) (T : Top p loose mean mg mb h₀) (hv : 0 ≤ v ∧ v ≤ 3) (h1c : 1 ≤ c1 ∧ c1 ≤ 5) (h1r : 1 ≤ r1 ∧ r1 ≤ 5) (h2c : 1 ≤ c2 ∧ c2 ≤ 5) (h2r : 1 ≤ r2 ∧ r2 ≤ 5) (hx : (x, instObj 349 dx) ∈ news) (hdx : (dx, crD w κ c1 r1 c2 r2 (tval v k)) ∈ news) (N : News h₀ L s.heap news)
  (hQ : ∀ k h' tk', Fr h₀ L h' m → News h₀ L h' news → Q (.str ⟨(txtR v c1 r1 c2 r2).toArray⟩ k) { s with heap := h', toks := tk' }) :
  wpAny (model PR w) (A.deeper (envX cn ⟨.function, nms, ig, ic, mo⟩ L a ccd cl)) (PySem.call (.type "str") [.ref x]) Q E s :=
  PySem.W.kso_call (by show A.units + 3 + 1 + 1 < cLine; have : cLine = 9900 := rfl; omega) (X₀.keeps F.keep) (InstAt.of_news N hx hdx) (by k_dflt k_is) (by k_dflt k_is)
    (show wpAny _ ((A.in1.in1).deeper _) _ _ _ _ from st_C h1 (Nat.le_trans h2 (by decide)) (by show A.units + 1 + 1 ≤ 2600; omega) ⟨B.stack, B.stays, B.frames⟩ F X₀ T hv h1c h1r h2c h2r hx hdx N fun k' h' tk' F' N' => hQ k' h' tk' F' N')
local macro_rules | `(tactic| walk_at "call type:str") => `(tactic| (k_here; (with_reducible show wpAny _ _ (PySem.call (Value.type "str") [Value.ref _]) _ _ _); k_dflt ((refine' strx_C ?q1 ?q2 ?q3 ?B ?F ?X ?T ?zz0 ?zz1 ?zz2 ?zz3 ?zz4 ?zz5 ?zz6 ?N ?_); (case B => k_asm); (case F => k_asm); (case X => assumption); (case T => assumption); (case N => k_asm); (case zz5 => (repeat (first | assumption | exact List.Mem.head _ | refine List.Mem.tail _ ?_))); (case zz6 => (repeat (first | assumption | exact List.Mem.head _ | refine List.Mem.tail _ ?_))); (case zz0 => first | assumption | omega); (case zz1 => omega); (case zz2 => omega); (case zz3 => omega); (case zz4 => omega); (case q1 => rfl); (case q2 => exact Nat.le_of_ble_eq_true rfl); (case q3 => exact Nat.le_of_ble_eq_true rfl); k_whole; intro k' h' tk' F' N')))
local macro_rules | `(tactic| walk_at "my_tx") => `(tactic| with_reducible first | exact (tx_S1 (by omega) (same_t (by assumption))) | exact (tx_S2 (by omega) (same_f (by assumption))) | exact (tx_01 (by omega) (same_t (by assumption))) | exact (tx_02 (by omega) (same_f (by assumption))))
local macro_rules | `(tactic| walk_at "compareOp NotEq str str") => `(tactic| (k_here; (with_reducible refine' ne_text ?e ?_); (case e => (with_reducible refine' to_l ?e1 ?e2); (case e1 => walk_at "my_cat"); (case e2 => walk_at "my_tx")); k_whole))
section
open PySem.Calls
variable {prog : Program} {w : World} {A : Around} {E : Value → Shared → Prop} {s : Shared} {h₀ : Heap} {L : Addr} {m : Str → Option Value} {news : List (Addr × Obj)} {value slice : PySem.Expr}
theorem upto2 {sl : Addr} {u : Tok} {Q : Int × Int × Nat → Shared → Prop} (hs : s.heap.IsSliceOf sl .none (.int 2 u) .none) (h : Q (0, 1, 2) s) :
    wpAny (model prog w) A (Builtin.Slice.sliceApplied (.ref sl) (pure (4 : Int))) Q E s := by
  obtain ⟨os, hos, hcs, hds⟩ := id hs
  unfold Builtin.Slice.sliceApplied Builtin.Slice.sliceFields
  refine wpAny_bind (wpAny_bind (wpAny_field hos hds (x := .none) rfl (wpAny_bind (wpAny_field hos hds (x := .int 2 u) rfl (wpAny_bind (wpAny_field hos hds (x := .none) rfl (wpAny_pure ?_)))))))
  refine wpAny_bind (slicePart_none ?_)
  show wpAny _ _ (if ((1 : Int) == 0) = true then _ else _) _ _ s
  rw [if_neg (by decide)]
  refine wpAny_bind (slicePart_none (wpAny_bind (slicePart_int (wpAny_bind (wpAny_pure ?_)))))
  exact wpAny_pure h
theorem getTup2 {t sl : Addr} {x1 x2 x3 x4 : Value} {u : Tok} {Q : Value → Shared → Prop} (ht : IsTup s.heap t #[x1, x2, x3, x4]) (hs : s.heap.IsSliceOf sl .none (.int 2 u) .none)
    (h : Q (.ref s.heap.objs.size) { s with heap := s.heap.push { cls := .type "tuple", data := .seq #[x1, x2] } }) : wpAny (model prog w) A (getItem (.ref t) (.ref sl)) Q E s := by
  have hdrop : sizeOk (.seq #[x1, x2]) := by show (2 : Nat) ≤ sizeLine; exact Nat.le_of_ble_eq_true rfl
  obtain ⟨os, hos, hcs, hds⟩ := id hs
  have hTs : s.TypeIs (.ref sl) "slice" := ⟨os, hos, hcs⟩
  unfold getItem
  try with_reducible refine wpAny_holding ?_
  first | refine wpAny_bind (wpAny_pure ?_) | skip
  refine wpAny_bind (wpAny_sequenceKey ht.typeIs (by decide) ?_)
  refine wpAny_bind (wpAny_callSpecial?_slot (name := Str.ofString "__getitem__") ht.typeIs slot_tuple_getitem (wpAny_call_entry slot_tuple_getitem ht.typeIs entry_tuple_getitem ?_ (args_tuple_getitem _ _)))
  show wpAny _ _ (Builtin.Tuple.tupleItemsOf (.ref t) >>= _) _ _ s
  refine wpAny_bind (tupleItemsOf_ ht ?_)
  refine wpAny_bind (wpAny_typeOf hTs ?_)
  rw [if_pos (by decide)]
  refine wpAny_bind (upto2 hs ?_)
  show wpAny _ _ (if ((0 : Int) == 0 && (1 : Int) == 1 && (2 : Nat) == 4) = true then _ else _) _ _ s
  rw [if_neg (by decide)]
  first
    | exact wpAny_bind (m := Builtin.Tuple.tupleExact _) (wpAny_newObj_type (wpAny_pure ⟨_, rfl, wpAny_pure h⟩) hdrop)
    | exact wpAny_bind (m := Builtin.Tuple.tupleExact _) (wpAny_newObj_type (wpAny_bind (wpAny_pure (wpAny_pure ⟨_, rfl, wpAny_pure h⟩))) hdrop)
    | exact wpAny_bind (wpAny_bind (m := Builtin.Tuple.tupleExact _) (wpAny_newObj_type (wpAny_pure (wpAny_pure ⟨_, rfl, wpAny_pure h⟩)) hdrop))
    | exact wpAny_bind (wpAny_bind (m := Builtin.Tuple.tupleExact _) (wpAny_newObj_type (wpAny_pure ⟨_, rfl, wpAny_pure h⟩) hdrop))
theorem tup_upto2 {t : Addr} {x1 x2 x3 x4 : Value} {u : Tok} {Q : Value → Shared → Prop} {o : Obj} (F : Fr h₀ L s.heap m) (N : News h₀ L s.heap news) (hm : (t, o) ∈ news) (hc : o.cls = .type "tuple") (hd : o.data = .seq #[x1, x2, x3, x4])
    (h : ∀ D h', Fr h₀ L h' m → News h₀ L h' ((D, seqO #[x1, x2]) :: news) → Q (.ref D) { s with heap := h' })
    (hs : subscripted slice false (.ref t) (.ref s.heap.objs.size) = operate [.ref s.heap.objs.size, .ref t] (getItem (.ref t) (.ref s.heap.objs.size)))
    (hg : ∀ r, letTemporaryGo value (.ref t) r = pure ()) :
    wpAny (model prog w) A (subscriptTail value slice (.ref t) (.ref s.heap.objs.size)) Q E { s with heap := s.heap.push { cls := .type "slice", data := .fields #[.none, .int 2 u, .none] } } := by
  have ht : IsTup s.heap t #[x1, x2, x3, x4] := ⟨_, N.get hm, hc, _, hd⟩
  have ht' : IsTup (s.heap.push { cls := .type "slice", data := .fields #[.none, .int 2 u, .none] }) t #[x1, x2, x3, x4] := ht.keeps fun _ _ e => Heap.get?_push_of_some _ e
  refine subscriptTail_ops (s := { s with heap := s.heap.push { cls := .type "slice", data := .fields #[.none, .int 2 u, .none] } }) ht'.typeIs slot_tuple_getitem.lookup (getTup2 ht' (Heap.IsSliceOf.new ..) ?_) hs hg
  have N1 := News.push (F.push { cls := .type "slice", data := .fields #[.none, .int 2 u, .none] }) (N.grown fun _ _ e => Heap.get?_push_of_some _ e) { cls := .type "tuple", data := .seq #[x1, x2] }
  exact h _ _ ((F.push _).push _) N1
theorem tup_from2 {t : Addr} {x1 x2 x3 x4 : Value} {u : Tok} {Q : Value → Shared → Prop} {o : Obj} (F : Fr h₀ L s.heap m) (N : News h₀ L s.heap news) (hm : (t, o) ∈ news) (hc : o.cls = .type "tuple") (hd : o.data = .seq #[x1, x2, x3, x4])
    (h : ∀ D h', Fr h₀ L h' m → News h₀ L h' ((D, seqO #[x3, x4]) :: news) → Q (.ref D) { s with heap := h' })
    (hs : subscripted slice false (.ref t) (.ref s.heap.objs.size) = operate [.ref s.heap.objs.size, .ref t] (getItem (.ref t) (.ref s.heap.objs.size)))
    (hg : ∀ r, letTemporaryGo value (.ref t) r = pure ()) :
    wpAny (model prog w) A (subscriptTail value slice (.ref t) (.ref s.heap.objs.size)) Q E { s with heap := s.heap.push { cls := .type "slice", data := .fields #[.int 2 u, .none, .none] } } :=
  slice_tuple_from (a := 2) F N ⟨_, N.get hm, hc, _, hd⟩ (by decide) (Nat.le_of_ble_eq_true rfl) (fun h' F' N' => h _ h' F' N') hs hg (Nat.le_of_ble_eq_true rfl)
end
local macro_rules | `(tactic| walk_at "subscriptTail Name Slice ref ref") => `(tactic| (k_here; (with_reducible show wpAny _ _ (subscriptTail _ (PySem.Expr.Slice none (some _) none _) (Value.ref _) (Value.ref _)) _ _ _); k_dflt (refine' tup_upto2 ?F ?N ?m ?c ?d ?_ ?s ?t; (case F => k_asm); (case N => k_asm); (case m => (repeat (first | assumption | exact List.Mem.head _ | refine List.Mem.tail _ ?_))); (case c => rfl); (case d => rfl); (case s => with_unfolding_all rfl); (case t => intro _; with_unfolding_all rfl)); intro D' h' F' N'))
local macro_rules | `(tactic| walk_at "subscriptTail Name Slice ref ref") => `(tactic| (k_here; (with_reducible show wpAny _ _ (subscriptTail _ (PySem.Expr.Slice (some _) none none _) (Value.ref _) (Value.ref _)) _ _ _); k_dflt (refine' tup_from2 ?F ?N ?m ?c ?d ?_ ?s ?t; (case F => k_asm); (case N => k_asm); (case m => (repeat (first | assumption | exact List.Mem.head _ | refine List.Mem.tail _ ?_))); (case c => rfl); (case d => rfl); (case s => with_unfolding_all rfl); (case t => intro _; with_unfolding_all rfl)); intro D' h' F' N'))

set_option maxRecDepth 100000 in
set_option maxHeartbeats 4000000 in
theorem seg_text {w : World} {base h₀ : Heap} {L a : Addr} {cc : Value} {m₀ mg mb : Str → Option Value} {news : List (Addr × Obj)} {s : Shared} {p : Program} {loose : List Str} {mean : ExcName → Option Value} {E : Value → Shared → Prop} {x dx y dy b1 b2 stt ov lv dl : Addr} {κ ε : Nat → Tok} {c1 r1 c2 r2 d1 s1 d2 s2 v1 v2 : Int} {k1 k2 k1' k2' j1 j2 j3 j4 i1t i2t i3t i4t : Tok} {fb ab : Bool} {q1 q2 : Obj}
  (B : Below callerA base [] h₀) (X₀ : (hd.heap_39 w.params).In h₀) (T : Top p loose mean mg mb h₀) (XB : (hd.heap_39 w.params).In base) (TB : Top p loose mean mg mb base) (F : Fr h₀ L s.heap (fun y => if y = Str.ofString "due" then some (.ref dl) else if y = Str.ofString "least" then some (.ref lv) else if y = Str.ofString "apart" then some (.bool ab) else if y = Str.ofString "over" then some (.ref ov) else if y = Str.ofString "fit" then some (.bool fb) else if y = Str.ofString "other_name" then some (tval v2 k2) else if y = Str.ofString "second" then some (.ref b2) else if y = Str.ofString "name" then some (tval v1 k1) else if y = Str.ofString "first" then some (.ref b1) else if y = Str.ofString "state" then some (.ref stt) else m₀ y)) (g1 : 1 ≤ c1 ∧ c1 ≤ 3 ∧ c1 ≤ c2 ∧ c2 ≤ 5 ∧ 1 ≤ r1 ∧ r1 ≤ 3 ∧ r1 ≤ r2 ∧ r2 ≤ 5) (g2 : 1 ≤ d1 ∧ d1 ≤ 3 ∧ d1 ≤ d2 ∧ d2 ≤ 5 ∧ 1 ≤ s1 ∧ s1 ≤ 3 ∧ s1 ≤ s2 ∧ s2 ≤ 5) (i1 : 0 ≤ v1 ∧ v1 ≤ 3) (i2 : 0 ≤ v2 ∧ v2 ≤ 3) (hx : (x, instObj 349 dx) ∈ news) (hdx : (dx, crD w κ c1 r1 c2 r2 (tval v1 k1')) ∈ news) (hy : (y, instObj 349 dy) ∈ news) (hdy : (dy, crD w ε d1 s1 d2 s2 (tval v2 k2')) ∈ news) (n1 : (b1, tup4 c1 r1 c2 r2 j1 j2 j3 j4) ∈ news) (n2 : (b2, tup4 d1 s1 d2 s2 i1t i2t i3t i4t) ∈ news) (hc1 : (L + 1, q1) ∈ news) (hq1 : q1.data = .cell (some (.ref x))) (hc2 : (L + 1 + 1, q2) ∈ news) (hq2 : q2.data = .cell (some (.ref y))) (N : News h₀ L s.heap news) :
  wpAny (model PR w) (callerA.deeper (lawE L a cc)) (execs ((lawB.drop 10).take 3) (lawE L a cc)) (fun fl s' => Done (MidText h₀ L (fun y => if y = Str.ofString "due" then some (.ref dl) else if y = Str.ofString "least" then some (.ref lv) else if y = Str.ofString "apart" then some (.bool ab) else if y = Str.ofString "over" then some (.ref ov) else if y = Str.ofString "fit" then some (.bool fb) else if y = Str.ofString "other_name" then some (tval v2 k2) else if y = Str.ofString "second" then some (.ref b2) else if y = Str.ofString "name" then some (tval v1 k1) else if y = Str.ofString "first" then some (.ref b1) else if y = Str.ofString "state" then some (.ref stt) else m₀ y) news (txtR v1 c1 r1 c2 r2) s s') fl) E s := by
  show wpAny _ (callerA.deeper (envOfC _ ⟨_, _, _, _, _⟩ _ _ _)) (execs (Stmt.Assign _ _ _ :: Stmt.Assign _ _ _ :: Stmt.If _ _ _ _ :: []) _) _ _ _
  have F' := F
  have N' := N
  have B' := B
  have X' := X₀
  have T' := T
  k_steps
  all_goals (refine Done.mk ?_; refine' ⟨_, _, _, _, rfl, ?zzF, ?zzN⟩; (case zzF => assumption); (case zzN => exact news_sub (by assumption) fun q hq => by repeat (first | exact hq | refine List.Mem.tail _ ?_)))
end Mine

end
section
open PySem PySem.W PySem.W.X PyProof.Rows PySem.Spec PySem.Calls
namespace Mine

local macro_rules | `(tactic| k_handed) => `(tactic| exact tval_handed _ _)
local macro_rules | `(tactic| walk_at "truthy") => `(tactic| (k_here; (with_reducible show wpAny _ _ (truthy (tval _ _)) _ _ _); (with_reducible refine' truthy_tval ?a1 ?_); (case a1 => first | assumption | omega); k_whole))
local macro_rules | `(tactic| walk_at "compareOp Is none") => `(tactic| (k_here; (with_reducible show wpAny _ _ (compareOp _ (tval _ _) _) _ _ _); (with_reducible refine' isNone_tval ?a1 ?_); (case a1 => first | assumption | omega); k_whole))
local macro_rules | `(tactic| walk_at "compareOp NotEq") => `(tactic| (k_here; (with_reducible show wpAny _ _ (compareOp _ (tval _ _) (tval _ _)) _ _ _); (with_reducible refine' ne_tval ?a1 ?a2 ?_); (case a1 => first | assumption | omega); (case a2 => first | assumption | omega); k_whole))
local macro_rules | `(tactic| walk_at "compareOp Eq") => `(tactic| (k_here; (with_reducible show wpAny _ _ (compareOp _ (tval _ _) (tval _ _)) _ _ _); (with_reducible refine' eq_tval ?a1 ?a2 ?_); (case a1 => first | assumption | omega); (case a2 => first | assumption | omega); k_whole))
local macro_rules | `(tactic| k_all) => `(tactic| assumption)
local macro_rules | `(tactic| k_mem) => `(tactic| assumption)
local macro_rules | `(tactic| walk_at "my_mem") => `(tactic| (repeat (first | assumption | exact List.Mem.head _ | refine List.Mem.tail _ ?_)))
local macro_rules | `(tactic| walk_at "my_no") => `(tactic| (exfalso; (simp only [sx1, sx2, sx3, sx4, ibeq, Bool.and_eq_true, decide_eq_true_eq, decide_eq_false_iff_not] at *) <;> grind))
local macro_rules | `(tactic| walk_at "my_sub") => `(tactic| (refine news_sub (by assumption) ?_; intro p hp; (repeat (first | exact hp | refine List.Mem.tail _ ?_))))

local macro_rules | `(tactic| walk_at "call ref") => `(tactic| (k_here; (with_reducible show wpAny _ _ (PySem.call (Value.ref 235) _) _ _ _); k_dflt ((refine' eq_C ?q1 ?q2 ?q3 ?B ?F ?X ?T ?XB ?TB ?zz0 ?zz1 ?zz2 ?zz3 ?zz4 ?zz5 ?N ?_); (case B => k_asm); (case F => k_asm); (case X => assumption); (case T => assumption); (case XB => assumption); (case TB => assumption); (case N => k_asm); (case zz2 => (repeat (first | assumption | exact List.Mem.head _ | refine List.Mem.tail _ ?_))); (case zz3 => (repeat (first | assumption | exact List.Mem.head _ | refine List.Mem.tail _ ?_))); (case zz4 => (repeat (first | assumption | exact List.Mem.head _ | refine List.Mem.tail _ ?_))); (case zz5 => (repeat (first | assumption | exact List.Mem.head _ | refine List.Mem.tail _ ?_))); (case zz0 => first | assumption | omega); (case zz1 => first | assumption | omega); (case q1 => rfl); (case q2 => exact Nat.le_of_ble_eq_true rfl); (case q3 => exact Nat.le_of_ble_eq_true rfl); k_whole; intro b' h' tk' e' F' N'; (replace e' := of_iff e'); subst e'; (try dsimp only [PySem.W.CmpBack]))))
local macro_rules | `(tactic| walk_at "call ref") => `(tactic| (k_here; (with_reducible show wpAny _ _ (PySem.call (Value.ref 349) _) _ _ _); k_dflt show wpAny _ _ (PySem.call (Value.ref 349) [Value.str _ _]) _ _ _; k_dflt ((refine' crR_C ?q1 ?q2 ?q3 ?B ?F ?X ?T ?zz0 ?zz1 ?zz2 ?zz3 ?zz4 ?zz5 ?zz6 ?N ?_); (case B => k_asm); (case F => k_asm); (case X => assumption); (case T => assumption); (case N => k_asm); (case zz0 => first | assumption | omega); (case zz1 => omega); (case zz2 => omega); (case zz3 => omega); (case zz4 => omega); (case zz5 => omega); (case zz6 => omega); (case q1 => rfl); (case q2 => exact Nat.le_of_ble_eq_true rfl); (case q3 => exact Nat.le_of_ble_eq_true rfl); k_whole; intro x' d' κ' k' h' tk' F' N' l1)))
set_option maxRecDepth 100000 in
set_option maxHeartbeats 4000000 in
theorem seg_last {w : World} {base h₀ : Heap} {L a : Addr} {cc : Value} {m₀ mg mb : Str → Option Value} {news : List (Addr × Obj)} {s : Shared} {p : Program} {loose : List Str} {mean : ExcName → Option Value} {E : Value → Shared → Prop} {x dx y dy b1 b2 stt ov lv dl : Addr} {κ ε : Nat → Tok} {c1 r1 c2 r2 d1 s1 d2 s2 v1 v2 : Int} {k1 k2 k1' k2' j1 j2 j3 j4 i1t i2t i3t i4t : Tok} {fb ab : Bool} {q1 q2 : Obj} {pv : Value} {kx : Tok} {Q : Flow → Shared → Prop}
  (B : Below callerA base [] h₀) (X₀ : (hd.heap_39 w.params).In h₀) (T : Top p loose mean mg mb h₀) (XB : (hd.heap_39 w.params).In base) (TB : Top p loose mean mg mb base) (F : Fr h₀ L s.heap (fun y => if y = Str.ofString "place" then some (pv) else if y = Str.ofString "text" then some (.str ⟨(txtR v1 c1 r1 c2 r2).toArray⟩ kx) else if y = Str.ofString "due" then some (.ref dl) else if y = Str.ofString "least" then some (.ref lv) else if y = Str.ofString "apart" then some (.bool ab) else if y = Str.ofString "over" then some (.ref ov) else if y = Str.ofString "fit" then some (.bool fb) else if y = Str.ofString "other_name" then some (tval v2 k2) else if y = Str.ofString "second" then some (.ref b2) else if y = Str.ofString "name" then some (tval v1 k1) else if y = Str.ofString "first" then some (.ref b1) else if y = Str.ofString "state" then some (.ref stt) else m₀ y)) (g1 : 1 ≤ c1 ∧ c1 ≤ 3 ∧ c1 ≤ c2 ∧ c2 ≤ 5 ∧ 1 ≤ r1 ∧ r1 ≤ 3 ∧ r1 ≤ r2 ∧ r2 ≤ 5) (g2 : 1 ≤ d1 ∧ d1 ≤ 3 ∧ d1 ≤ d2 ∧ d2 ≤ 5 ∧ 1 ≤ s1 ∧ s1 ≤ 3 ∧ s1 ≤ s2 ∧ s2 ≤ 5) (i1 : 0 ≤ v1 ∧ v1 ≤ 3) (i2 : 0 ≤ v2 ∧ v2 ≤ 3) (hx : (x, instObj 349 dx) ∈ news) (hdx : (dx, crD w κ c1 r1 c2 r2 (tval v1 k1')) ∈ news) (hy : (y, instObj 349 dy) ∈ news) (hdy : (dy, crD w ε d1 s1 d2 s2 (tval v2 k2')) ∈ news) (n1 : (b1, tup4 c1 r1 c2 r2 j1 j2 j3 j4) ∈ news) (n2 : (b2, tup4 d1 s1 d2 s2 i1t i2t i3t i4t) ∈ news) (hc1 : (L + 1, q1) ∈ news) (hq1 : q1.data = .cell (some (.ref x))) (hc2 : (L + 1 + 1, q2) ∈ news) (hq2 : q2.data = .cell (some (.ref y))) (N : News h₀ L s.heap news)
  (hQ : ∀ m h' tk', Fr h₀ L h' m → News h₀ L h' news → Q (.ret (.bool true)) { s with heap := h', toks := tk' }) :
  wpAny (model PR w) (callerA.deeper (lawE L a cc)) (execs (lawB.drop 13) (lawE L a cc)) Q E s := by
  show wpAny _ (callerA.deeper (envOfC _ ⟨_, _, _, _, _⟩ _ _ _)) (execs (Stmt.Assign _ _ _ :: Stmt.Return _ _ :: []) _) _ _ _
  have F' := F
  have N' := N
  have B' := B
  have X' := X₀
  have T' := T
  have hQ2 : ∀ b m h' tk', b = true → Fr h₀ L h' m → News h₀ L h' news → Q (.ret (.bool b)) { s with heap := h', toks := tk' } := fun b m h' tk' e => by rw [e]; exact hQ m h' tk'
  k_steps
  all_goals (refine' hQ2 _ _ _ _ ?zze ?zzF ?zzN; (case zzF => assumption); (case zzN => walk_at "my_sub"); (case zze => first | rfl | exact decide_eq_true (by simp)))
end Mine

end
section
open PySem PySem.W PySem.W.X PyProof.Rows PySem.Spec PySem.Calls
namespace Mine
local macro_rules | `(tactic| walk_at "pad") => `(tactic| fail "pad")
theorem tail_law {w : World} {base h₀ : Heap} {L a : Addr} {cc : Value} {m₀ mg mb : Str → Option Value} {news : List (Addr × Obj)} {s : Shared} {p : Program} {loose : List Str} {mean : ExcName → Option Value} {E : Value → Shared → Prop} {x dx y dy b1 b2 stt ov : Addr} {κ ε : Nat → Tok} {c1 r1 c2 r2 d1 s1 d2 s2 v1 v2 : Int} {k1 k2 k1' k2' j1 j2 j3 j4 i1t i2t i3t i4t u1 u2 u3 u4 : Tok} {fb ab : Bool} {q1 q2 : Obj} {Q : Flow → Shared → Prop}
  (B : Below callerA base [] h₀) (X₀ : (hd.heap_39 w.params).In h₀) (T : Top p loose mean mg mb h₀) (XB : (hd.heap_39 w.params).In base) (TB : Top p loose mean mg mb base) (F : Fr h₀ L s.heap (fun y => if y = Str.ofString "apart" then some (.bool ab) else if y = Str.ofString "over" then some (.ref ov) else if y = Str.ofString "fit" then some (.bool fb) else if y = Str.ofString "other_name" then some (tval v2 k2) else if y = Str.ofString "second" then some (.ref b2) else if y = Str.ofString "name" then some (tval v1 k1) else if y = Str.ofString "first" then some (.ref b1) else if y = Str.ofString "state" then some (.ref stt) else m₀ y)) (g1 : 1 ≤ c1 ∧ c1 ≤ 3 ∧ c1 ≤ c2 ∧ c2 ≤ 5 ∧ 1 ≤ r1 ∧ r1 ≤ 3 ∧ r1 ≤ r2 ∧ r2 ≤ 5) (g2 : 1 ≤ d1 ∧ d1 ≤ 3 ∧ d1 ≤ d2 ∧ d2 ≤ 5 ∧ 1 ≤ s1 ∧ s1 ≤ 3 ∧ s1 ≤ s2 ∧ s2 ≤ 5) (i1 : 0 ≤ v1 ∧ v1 ≤ 3) (i2 : 0 ≤ v2 ∧ v2 ≤ 3) (hx : (x, instObj 349 dx) ∈ news) (hdx : (dx, crD w κ c1 r1 c2 r2 (tval v1 k1')) ∈ news) (hy : (y, instObj 349 dy) ∈ news) (hdy : (dy, crD w ε d1 s1 d2 s2 (tval v2 k2')) ∈ news) (n1 : (b1, tup4 c1 r1 c2 r2 j1 j2 j3 j4) ∈ news) (n2 : (b2, tup4 d1 s1 d2 s2 i1t i2t i3t i4t) ∈ news) (hc1 : (L + 1, q1) ∈ news) (hq1 : q1.data = .cell (some (.ref x))) (hc2 : (L + 1 + 1, q2) ∈ news) (hq2 : q2.data = .cell (some (.ref y))) (ef : fb = true ↔ v2 = 0 ∨ v1 = v2) (ea : ab = true ↔ c2 < d1 ∨ d2 < c1 ∨ r2 < s1 ∨ s2 < r1) (hov : (ov, tup4 (if d1 > c1 then d1 else c1) (if s1 > r1 then s1 else r1) (if d2 < c2 then d2 else c2) (if s2 < r2 then s2 else r2) u1 u2 u3 u4) ∈ news) (N : News h₀ L s.heap news)
  (hQ : ∀ m h' tk', Fr h₀ L h' m → News h₀ L h' news → Q (.ret (.bool true)) { s with heap := h', toks := tk' }) :
  wpAny (model PR w) (callerA.deeper (lawE L a cc)) (execs (lawB.drop 6) (lawE L a cc)) Q E s := by
  show wpAny _ _ (execs ((lawB.drop 6).take 2 ++ lawB.drop 8) _) _ _ _
  refine execs_cut _ (seg_due (y := y) B X₀ T XB TB F g1 g2 i1 i2 n1 n2 N) ?_
  rintro _ ⟨dl, lv, t4, e0, e1, e3, v5, w1, w2, w3, w4, n, h1, tk1, l, rfl, he0, he1, he3, F1, N1, sub, hdl, ht4, hlv, h5⟩
  show wpAny _ _ (execs ((lawB.drop 8).take 1 ++ lawB.drop 9) _) _ _ _
  refine execs_cut _ (seg_if1 (s := St s h1 tk1) B X₀ T XB TB F1 g1 g2 i1 i2 (sub _ hx) (sub _ hdx) (sub _ hy) (sub _ hdy) (sub _ hc1) hq1 (sub _ hc2) hq2 ef ea hdl ht4 hlv (sub _ hov) he0 he1 he3 h5 N1) ?_
  rintro _ ⟨h2, tk2, rfl, F2, N2⟩
  show wpAny _ _ (execs ((lawB.drop 9).take 1 ++ lawB.drop 10) _) _ _ _
  refine execs_cut _ (seg_if2 (s := St (St s h1 tk1) h2 tk2) B X₀ T XB TB F2 g1 g2 i1 i2 (sub _ hx) (sub _ hdx) (sub _ hy) (sub _ hdy) (sub _ n1) (sub _ n2) (sub _ hc1) hq1 (sub _ hc2) hq2 ef ea N2) ?_
  rintro _ ⟨h3, tk3, rfl, F3, N3⟩
  show wpAny _ _ (execs ((lawB.drop 10).take 3 ++ lawB.drop 13) _) _ _ _
  refine execs_cut _ (seg_text (s := St (St (St s h1 tk1) h2 tk2) h3 tk3) B X₀ T XB TB F3 g1 g2 i1 i2 (sub _ hx) (sub _ hdx) (sub _ hy) (sub _ hdy) (sub _ n1) (sub _ n2) (sub _ hc1) hq1 (sub _ hc2) hq2 N3) ?_
  rintro _ ⟨pv, k, h4, tk4, rfl, F4, N4⟩
  exact seg_last (s := St (St (St (St s h1 tk1) h2 tk2) h3 tk3) h4 tk4) B X₀ T XB TB F4 g1 g2 i1 i2 (sub _ hx) (sub _ hdx) (sub _ hy) (sub _ hdy) (sub _ n1) (sub _ n2) (sub _ hc1) hq1 (sub _ hc2) hq2 N4 fun m h' tk' F' N' => hQ m h' tk' F' (news_sub N' sub)
end Mine

end
section
open PySem PySem.W PySem.W.X PyProof.Rows
namespace Mine
local macro_rules | `(tactic| k_handed) => `(tactic| exact tval_handed _ _)
local macro_rules | `(tactic| walk_at "truthy") => `(tactic| (k_here; (with_reducible show wpAny _ _ (truthy (tval _ _)) _ _ _); (with_reducible refine' truthy_tval ?a1 ?_); (case a1 => first | assumption | omega); k_whole))
local macro_rules | `(tactic| walk_at "compareOp Is none") => `(tactic| (k_here; (with_reducible show wpAny _ _ (compareOp _ (tval _ _) _) _ _ _); (with_reducible refine' isNone_tval ?a1 ?_); (case a1 => first | assumption | omega); k_whole))
local macro_rules | `(tactic| walk_at "compareOp NotEq") => `(tactic| (k_here; (with_reducible show wpAny _ _ (compareOp _ (tval _ _) (tval _ _)) _ _ _); (with_reducible refine' ne_tval ?a1 ?a2 ?_); (case a1 => first | assumption | omega); (case a2 => first | assumption | omega); k_whole))
local macro_rules | `(tactic| walk_at "compareOp Eq") => `(tactic| (k_here; (with_reducible show wpAny _ _ (compareOp _ (tval _ _) (tval _ _)) _ _ _); (with_reducible refine' eq_tval ?a1 ?a2 ?_); (case a1 => first | assumption | omega); (case a2 => first | assumption | omega); k_whole))
local macro_rules | `(tactic| walk_at "compareOp Eq") => `(tactic| (k_here; (with_reducible show wpAny _ _ (compareOp _ (tval _ _) (tval _ _)) _ _ _); (with_reducible refine' eq_tval2 ?a1 ?a2 ?_ ?_); (case a1 => first | assumption | omega); (case a2 => first | assumption | omega); all_goals intro hv'))
local macro_rules | `(tactic| walk_at "my_mem") => `(tactic| (repeat (first | assumption | exact List.Mem.head _ | refine List.Mem.tail _ ?_)))
local macro_rules | `(tactic| walk_at "my_bool") => `(tactic| first | omega | ((try simp only [decide_eq_true_eq, Bool.false_eq_true, true_iff, false_iff]); omega))
local macro_rules | `(tactic| walk_at "my_sub") => `(tactic| (refine news_sub (by assumption) ?_; intro p hp; (repeat (first | exact hp | refine List.Mem.tail _ ?_))))
local macro_rules | `(tactic| walk_at "my_sub2") => `(tactic| (refine news_one (by assumption) ?m ?s; (case m => walk_at "my_mem"); (case s => (intro p hp; (repeat (first | exact hp | refine List.Mem.tail _ ?_))))))
local macro_rules | `(tactic| walk_at "my_len") => `(tactic| first | assumption | omega | (simp only [List.length_take]; omega))
local macro_rules | `(tactic| walk_at "call ref") => `(tactic| (k_here; (with_reducible show wpAny _ _ (PySem.call (Value.ref 374) _) _ _ _); k_dflt ((refine' lr_C ?q1 ?q2 ?q3 ?B ?F ?X ?T ?i ?g0 ?gq ?gl ?gn ?gs ?U ?N ?_); (case B => k_asm); (case F => k_asm); (case X => assumption); (case T => assumption); (case N => k_asm); (case U => (intro o'; k_upd)); (case gs => walk_at "my_mem"); (case i => assumption); (case g0 => first | assumption | decide); (case gq => first | assumption | decide); (case gl => walk_at "my_len"); (case gn => k_ne); (case q1 => rfl); (case q2 => exact Nat.le_of_ble_eq_true rfl); (case q3 => exact Nat.le_of_ble_eq_true rfl); k_whole; intro tp' x' d' b' κ' c1' r1' c2' r2' v' k' l' j1 j2 j3 j4 p' q' ta tb n' h' tk' F' N' e1 e2 e3 e4 e5)))
set_option maxRecDepth 100000 in
set_option maxHeartbeats 8000000 in
theorem holds : PySem.Challenge.rw_ez0211_02.Holds := hd (by
  w_strict (k_go0; (all_goals try k_fold))
  show wpAny (model PR _) _ _ _ _ _
  dsimp only
  repeat ((fail_if_success (with_reducible show wpAny _ _ (execs (Stmt.Assign [Expr.Name (Str.ofString "fit") _] _ _ :: _) _) _ _ _)); (first | (k_unfold; (try dsimp only)) | (k_end; wrow_close) | walk1 | (dsimp only; walk1) | (leave1; (try dsimp only)) | fail "no step"))
  refine cut_fit (by assumption) (by assumption) (by k_dflt rfl) (by k_dflt rfl) ?_ ?_
  · k_steps
    all_goals (refine Done.mk ?_; refine' ⟨_, _, _, rfl, ?zze, ?zzF, ?zzN⟩; (case zzF => assumption); (case zzN => assumption); (case zze => walk_at "my_bool"))
  intro fb' h' tk' efit' F' N'
  refine cut_over (by assumption) (by assumption) (by k_dflt rfl) (by k_dflt rfl) (by walk_at "my_mem") (by walk_at "my_mem") ?_ ?_
  · k_steps
    all_goals (refine Done.mk ?_; refine' ⟨_, _, _, _, _, _, _, _, rfl, ?zze, ?zzF, ?zzN⟩; (case zzF => assumption); (case zzN => walk_at "my_sub2"); (case zze => walk_at "my_bool"))
  intro ov' ab' u1' u2' u3' u4' h' tk' eap' F' N'
  refine' tail_law ?zzB ?zzX ?zzT ?zzXB ?zzTB F' ?zzg1 ?zzg2 ?zzi1 ?zzi2 ?zzhx ?zzhd ?zzhy ?zzhe ?zzn1 ?zzn2 ?zzc1 ?zzq1 ?zzc2 ?zzq2 efit' eap' (.head _) N' ?_
  (case zzB => assumption); (case zzX => assumption); (case zzT => assumption); (case zzXB => assumption); (case zzTB => assumption)
  (case zzn1 => walk_at "my_mem"); (case zzn2 => walk_at "my_mem")
  (case zzc1 => walk_at "my_mem"); (case zzc2 => walk_at "my_mem")
  (case zzq1 => assumption); (case zzq2 => assumption)
  (case zzhx => walk_at "my_mem"); (case zzhd => walk_at "my_mem"); (case zzhy => walk_at "my_mem"); (case zzhe => walk_at "my_mem")
  (case zzg1 => assumption); (case zzg2 => assumption); (case zzi1 => assumption); (case zzi2 => assumption)
  intro m' h' tk' F' N'
  k_steps)
end Mine

end
set_option maxRecDepth 100000 in
set_option maxHeartbeats 8000000 in
theorem PySem.Challenge.cw_ez0211_02_holds : PySem.Challenge.rw_ez0211_02.Holds := by
  exact Mine.holds
