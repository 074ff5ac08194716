import PyProof.Rows.All
import Wide.All
import OpenK.AllK
import Wide.FinOn
import PySem.Challenge.RW_fe0038_01
open PySem PySem.W PyProof.Rows
set_option Elab.async false
set_option linter.unusedVariables false
namespace Fe38
set_option maxRecDepth 100000 in
set_option maxHeartbeats 8000000 in
open_top hd for PySem.Challenge.rw_fe0038_01
end Fe38
theorem Fe38.restFHd : True := by
  w_top off
  trivial
namespace Fe38
noncomputable abbrev PP : Program := hd.view_39
noncomputable abbrev LO : List Str := looseW hd.view_39 [Str.ofString "b58encode_int", Str.ofString "b58decode_int"]

def drawZ (ns : List Int) (k : Int) : Int := if ns = [] then 5 * k + 2 else ns.getD (Int.fmod k (ns.length : Int)).toNat 0 + 37 * (Int.fdiv k (ns.length : Int))

def DigOf (bs : Int) (ns : List Int) : Prop := ∀ x ∈ ns, 0 ≤ x ∧ x < bs
theorem DigOf.getD {bs : Int} {ns : List Int} (h : DigOf bs ns) (hb : 2 ≤ bs) (i : Nat) : 0 ≤ ns.getD i 0 ∧ ns.getD i 0 < bs := by
  rw [List.getD_eq_getElem?_getD]
  cases e : ns[i]? with
  | none => simp; omega
  | some x => exact h x (List.mem_of_getElem? e)
theorem mulOk_small {x y : Int} (h0 : 0 ≤ x) (h1 : x < 100000) : IntMulOk x y := IntMulOk.of_left (intBits_le_64 (by omega) (by omega))
def Held (P : Prop) : Prop := P
theorem Held.out {P : Prop} (h : Held P) : P := h
theorem Held.mk {P : Prop} (h : P) : Held P := h
/-- a statement's ways meet: one int name stored -/
def OutN (h₀ : Heap) (L : Addr) (s : Shared) (m : Str → Option Value) (news : List (Addr × Obj)) (x : Str) (v : Int) (f : Flow) (s' : Shared) : Prop :=
  f = .next ∧ ∃ h' tk t, s' = { s with heap := h', toks := tk } ∧ Fr h₀ L h' (fun y => if y = x then some (.int v t) else m y) ∧ News h₀ L h' news
theorem OutN.intro {h₀ : Heap} {L : Addr} {s : Shared} {m m' : Str → Option Value} {news : List (Addr × Obj)} {x : Str} {v v' : Int} {h' : Heap} {tk : Nat} {t : Tok} (F : Fr h₀ L h' m') (N : News h₀ L h' news)
    (h1 : m' x = some (.int v' t)) (h2 : ∀ y, y ≠ x → m' y = m y) (e : v' = v) : OutN h₀ L s m news x v .next { s with heap := h', toks := tk } := by
  subst e
  have em : m' = fun y => if y = x then some (.int v' t) else m y := by
    funext y
    by_cases hy : y = x
    · rw [if_pos hy, hy, h1]
    · rw [if_neg hy, h2 y hy]
  subst em
  exact ⟨rfl, h', tk, t, rfl, F, N⟩
theorem cutN {M : Model} {A : Around} {E : Value → Shared → Prop} {h₀ : Heap} {L : Addr} {s : Shared} {m : Str → Option Value} {news : List (Addr × Obj)} {t : Sem Flow} {Q : Flow → Shared → Prop} (x : Str) (v : Int) (F : Fr h₀ L s.heap m) (N : News h₀ L s.heap news)
    (h : wpAny M A t (OutN h₀ L s m news x v) E s) (k : ∀ h' tk t, Fr h₀ L h' (fun y => if y = x then some (.int v t) else m y) → News h₀ L h' news → Q .next { s with heap := h', toks := tk }) : wpAny M A t Q E s :=
  wpAny_mono h (fun f s' ⟨e, h', tk, t, e2, F', N'⟩ => by subst e e2; exact k h' tk t F' N') fun _ _ e => e
/-- an expression's ways meet: one int -/
def OutV (s : Shared) (v : Int) (r : Value) (s' : Shared) : Prop := ∃ t tk, r = .int v t ∧ s' = { s with toks := tk }
theorem OutV.intro {s : Shared} {v v' : Int} {t : Tok} {tk : Nat} (e : v' = v) : OutV s v (.int v' t) { s with toks := tk } := ⟨t, tk, e ▸ rfl, rfl⟩
theorem cutV {M : Model} {A : Around} {E : Value → Shared → Prop} {s : Shared} {t : Sem Value} {Q : Value → Shared → Prop} (v : Int)
    (h : wpAny M A t (OutV s v) E s) (k : ∀ t tk, Q (.int v t) { s with toks := tk }) : wpAny M A t Q E s :=
  wpAny_mono h (fun r s' ⟨t, tk, e, e2⟩ => by subst e e2; exact k t tk) fun _ _ e => e
theorem drawZ_pos {ns : List Int} {k : Int} (h : 0 < ns.length) : drawZ ns k = ns.getD (Int.fmod k (ns.length : Int)).toNat 0 + 37 * (Int.fdiv k (ns.length : Int)) :=
  if_neg (by rintro rfl; simp at h)
theorem drawZ_nil {ns : List Int} {k : Int} (h : ¬ 0 < ns.length) : drawZ ns k = 5 * k + 2 :=
  if_pos (by cases ns with | nil => rfl | cons _ _ => simp at h)
section
variable {prog : Program} {w : World} {dp un : Nat} {gd : Option (List Code)} {cn : Str} {cs : Scope} {a : Addr} {ccd : Value} {cl : List (Str × Addr)} {outer : List Env} {A₀ : Around} {base h₀ : Heap} {L : Addr} {m : Str → Option Value} {news : List (Addr × Obj)} {s : Shared} {Q E : Value → Shared → Prop} {mean : ExcName → Option Value} {mg mb : Str → Option Value}

theorem endI {x y : Int} {t : Tok} {h' : Heap} {tk' : Nat} (hret : ∀ t h' tk', Fr h₀ L h' m → News h₀ L h' news → Q (.int x t) { s with heap := h', toks := tk' })
   (F : Fr h₀ L h' m) (N : News h₀ L h' news) (e : x = y) : Q (.int y t) { s with heap := h', toks := tk' } := e ▸ hret t h' tk' F N

theorem endL {xs ys : List Int} {a' : Addr} {vs' : List Value} {n' : Nat} {h' : Heap} {tk' : Nat}
    (hret : ∀ (a' : Addr) (vs' : List Value) (n' : Nat) h' tk', Fr h₀ L h' m → News h₀ L h' ((a', W.listOf vs'.toArray n') :: news) → IntsAre vs' xs → (∀ p ∈ news, p.1 < a') → Q (.ref a') { s with heap := h', toks := tk' })
    (F : Fr h₀ L h' m) (N : News h₀ L h' ((a', W.listOf vs'.toArray n') :: news)) (hi : IntsAre vs' ys) (lt : ∀ p ∈ news, p.1 < a') (e : ys = xs) :
    Q (.ref a') { s with heap := h', toks := tk' } := hret a' vs' n' h' tk' F N (e ▸ hi) lt
theorem endB {b c : Array UInt8} {t : Tok} {h' : Heap} {tk' : Nat} (hret : ∀ t h' tk', Fr h₀ L h' m → News h₀ L h' news → Q (.bytes b t) { s with heap := h', toks := tk' })
   (F : Fr h₀ L h' m) (N : News h₀ L h' news) (e : b = c) : Q (.bytes c t) { s with heap := h', toks := tk' } := e ▸ hret t h' tk' F N
theorem newsOf {h : Heap} {news' : List (Addr × Obj)} (N : News h₀ L h news') (hs : ∀ p ∈ news, p ∈ news') : News h₀ L h news := fun p hp => N p (hs p hp)
theorem newsDup {h : Heap} {p : Addr × Obj} (N : News h₀ L h news) (hm : p ∈ news) : News h₀ L h (p :: news) := fun q hq => (List.mem_cons.mp hq).elim (fun e => e ▸ N p hm) (N q)
theorem newsTail {h : Heap} {p : Addr × Obj} (N : News h₀ L h (p :: news)) : News h₀ L h news := fun q hq => N q (.tail _ hq)
set_option maxRecDepth 100000 in
set_option maxHeartbeats 8000000 in
theorem c_draw {l : Addr} {vs : List Value} {ns : List Int} {k : Int} {tk : Tok}
    (B : Below A₀ base outer h₀) (F : Fr h₀ L s.heap m) (X : (hd.heap_39 w.params).In h₀) (N : News h₀ L s.heap news) (T : Top PP LO mean mg mb h₀) (hk : cs.kind = .function)
    (hl : base.IsList l vs.toArray) (hi : IntsAre vs ns) (hn : ns.length ≤ 63) (hk0 : 0 ≤ k) (hk1 : k ≤ 100)
    (hd : dp + 1 < recursionLimit) (hu : un + 8 < cLine)
    (hret : ∀ t h' tk', Fr h₀ L h' m → News h₀ L h' news → Q (.int (drawZ ns k) t) { s with heap := h', toks := tk' }) :
    wpAny (model prog w) (ktrTop dp un gd cn cs L a ccd cl outer) (call (.ref 50) [.ref l, .int k tk]) Q E s := by
  refine wpAny_call ?_
  k_dflt cell_enter
  k_steps
  all_goals refine endI hret (by assumption) (by assumption) ?_
  · exact drawZ_pos (by assumption)
  · exact drawZ_nil (by assumption)
end
end Fe38
theorem Fe38.restFA : True := by
  w_top off
  trivial
namespace Fe38
def cellZ (ns : List Int) (bs : Int) (k : Int) : Int := if Int.fmod (drawZ ns k) 7 = 6 then bs - 1 else Int.fmod (drawZ ns k) bs
def rowZ (ns : List Int) (at' : Int) (bs : Int) (n : Nat) : List Int := (List.range n).map fun (k : Nat) => cellZ ns bs (at' + (k : Int))
theorem rowZ_succ (ns : List Int) (at' : Int) (bs : Int) (n : Nat) : rowZ ns at' bs (n + 1) = rowZ ns at' bs n ++ [cellZ ns bs (at' + n)] := by
  simp [rowZ, List.range_succ]
theorem row_start {ns : List Int} {at' bs : Int} : ([] : List Int) = rowZ ns at' bs ([] : List Int).length ∧ ([] : List Int).length = ([] : List Int).length := ⟨rfl, rfl⟩
theorem row_step {ns : List Int} {at' bs k v : Int} {row pre : List Int} (h : row = rowZ ns at' bs pre.length ∧ row.length = pre.length) (hk : k = 0 + (pre.length : Int)) (hv : v = cellZ ns bs (at' + k)) :
    row ++ [v] = rowZ ns at' bs (pre ++ [k]).length ∧ (row ++ [v]).length = (pre ++ [k]).length := by
  obtain ⟨rfl, h2⟩ := h
  refine ⟨?_, by simp [h2]⟩
  rw [List.length_append, List.length_singleton, rowZ_succ, hv, hk, Int.zero_add]
theorem row_done {ns : List Int} {at' bs cnt : Int} {row : List Int} (h : row = rowZ ns at' bs (rangeKs 0 (cnt - 0).toNat).length) : row = rowZ ns at' bs cnt.toNat := by
  rw [rangeKs_length, Int.sub_zero] at h
  exact h
theorem cell_6 {ns : List Int} {bs k : Int} (h : Int.fmod (drawZ ns k) 7 = 6) : bs - 1 = cellZ ns bs k := (if_pos h).symm
theorem cell_n6 {ns : List Int} {bs k : Int} (h : Int.fmod (drawZ ns k) 7 ≠ 6) : Int.fmod (drawZ ns k) bs = cellZ ns bs k := (if_neg h).symm
section
variable {prog : Program} {w : World} {dp un : Nat} {gd : Option (List Code)} {cn : Str} {cs : Scope} {a : Addr} {ccd : Value} {cl : List (Str × Addr)} {outer : List Env} {A₀ : Around} {base h₀ : Heap} {L : Addr} {m : Str → Option Value} {news : List (Addr × Obj)} {s : Shared} {Q E : Value → Shared → Prop} {mean : ExcName → Option Value} {mg mb : Str → Option Value}

section
local macro_rules | `(tactic| walk_at "call type:range") => `(tactic| (k_here; (rename Fr _ _ _ _ => F'); (rename News _ _ _ _ => N'); (with_unfolding_all refine range1_rows F' N' ?_; intro _ _ _ _ _ _ _ _ _)))
local macro_rules | `(tactic| walk_at "call ref") => `(tactic| (k_here; k_dflt (refine' c_draw ?k1 ?k2 ?k3 ?k4 ?k5 ?kK ?hl ?hi ?hn ?h0 ?h1 ?kd ?ku ?_; (case k1 => k_asm); (case k2 => k_asm); (case k3 => k_asm); (case k4 => k_asm); (case k5 => k_asm); (case kK => exact rfl); (case hl => assumption); (case hi => assumption); (case hn => assumption); (case h0 => omega); (case h1 => omega); (case kd => ktr_room); (case ku => ktr_units); intro t9 h9 tk9 F9 N9; (try dsimp only); (try k_fold))))

set_option maxRecDepth 100000 in
set_option maxHeartbeats 8000000 in
theorem c_row {l : Addr} {vs : List Value} {ns : List Int} {at' cnt bs : Int} {tk1 tk2 tk3 : Tok}
    (B : Below A₀ base outer h₀) (F : Fr h₀ L s.heap m) (X : (hd.heap_39 w.params).In h₀) (N : News h₀ L s.heap news) (T : Top PP LO mean mg mb h₀) (hk : cs.kind = .function)
    (hl : base.IsList l vs.toArray) (hi : IntsAre vs ns) (hn : ns.length ≤ 63) (ha0 : 0 ≤ at') (ha1 : at' ≤ 16) (hc0 : 0 ≤ cnt) (hc1 : cnt ≤ 7) (hb0 : 2 ≤ bs) (hb1 : bs ≤ 61)
    (hd : dp + 2 < recursionLimit) (hu : un + 12 < cLine)
    (hret : ∀ (a' : Addr) (vs' : List Value) (n' : Nat) h' tk', Fr h₀ L h' m → News h₀ L h' ((a', W.listOf vs'.toArray n') :: news) → IntsAre vs' (rowZ ns at' bs cnt.toNat) → (∀ p ∈ news, p.1 < a') → Q (.ref a') { s with heap := h', toks := tk' }) :
    wpAny (model prog w) (ktrTop dp un gd cn cs L a ccd cl outer) (call (.ref 62) [.ref l, .int at' tk1, .int cnt tk2, .int bs tk3]) Q E s := by
  k_with "pyIter ref" => k_state (fun pre row => row = rowZ ns at' bs pre.length ∧ row.length = pre.length) "row"
  k_with "state" => first | exact row_start | exact row_step ⟨by assumption, by assumption⟩ (by assumption) (cell_6 (by assumption)) | exact row_step ⟨by assumption, by assumption⟩ (by assumption) (cell_n6 (by assumption)) | exact row_step (by assumption) (by assumption) (cell_6 (by assumption)) | exact row_step (by assumption) (by assumption) (cell_n6 (by assumption))
  refine wpAny_call ?_
  k_dflt cell_enter
  k_steps
  all_goals (refine endL hret (by assumption) (by assumption) (by assumption) (by assumption) ?_)
  exact row_done (by assumption)
  k_with_none
end
end
end Fe38
theorem Fe38.restFB : True := by
  w_top off
  trivial
namespace Fe38
def btcL : List Int := [49, 50, 51, 52, 53, 54, 55, 56, 57, 65, 66, 67, 68, 69, 70, 71, 72, 74, 75, 76, 77, 78, 80, 81, 82, 83, 84, 85, 86, 87, 88, 89, 90, 97, 98, 99, 100, 101, 102, 103, 104, 105, 106, 107, 109, 110, 111, 112, 113, 114, 115, 116, 117, 118, 119, 120, 121, 122]
def ripL : List Int := [114, 112, 115, 104, 110, 97, 102, 51, 57, 119, 66, 85, 68, 78, 69, 71, 72, 74, 75, 76, 77, 52, 80, 81, 82, 83, 84, 55, 86, 87, 88, 89, 90, 50, 98, 99, 100, 101, 67, 103, 54, 53, 106, 107, 109, 56, 111, 70, 113, 105, 49, 116, 117, 118, 65, 120, 121, 122]
def walk2 (start step size : Int) : List Int := (rangeKs 0 (2 + size.fmod 60 - 0).toNat).map fun k' => (start.fmod 181 + (1 + step.fmod 180) * k').fmod 181
def signs2 (start step size : Int) : List Int := (walk2 start step size).map fun k' => if k' < 94 then 33 + k' else 67 + k'
def signs3 (start step size : Int) : List Int := (rangeKs 0 (2 + size.fmod 60 - 0).toNat).map fun k' => 38 + (start.fmod 89 + (1 + step.fmod 88) * k').fmod 89
def signsL (kind start step size : Int) : List Int := if kind = 0 then btcL else if kind = 1 then ripL else if kind = 2 then signs2 start step size else signs3 start step size
theorem in2 {l : List Int} {f : Int → Int} : KBa.In (List.map (fun k' => if k' < 94 then 33 + k' else 67 + k') (List.map (fun k' => Int.fmod (f k') 181) l)) := by
  intro x hx
  obtain ⟨y, hy, rfl⟩ := List.mem_map.1 hx
  obtain ⟨z, hz, rfl⟩ := List.mem_map.1 hy
  have h1 := Int.fmod_nonneg_of_pos (f z) (show (0 : Int) < 181 by decide)
  have h2 := Int.fmod_lt_of_pos (f z) (show (0 : Int) < 181 by decide)
  split <;> omega
section
variable {prog : Program} {w : World} {dp un : Nat} {gd : Option (List Code)} {cn : Str} {cs : Scope} {a : Addr} {ccd : Value} {cl : List (Str × Addr)} {outer : List Env} {A₀ : Around} {base h₀ : Heap} {L : Addr} {m : Str → Option Value} {news : List (Addr × Obj)} {s : Shared} {Q E : Value → Shared → Prop} {mean : ExcName → Option Value} {mg mb : Str → Option Value}
section
local macro_rules | `(tactic| walk_at "pad 0") => `(tactic| fail)
local macro_rules | `(tactic| walk_at "pad 1") => `(tactic| fail)
local macro_rules | `(tactic| walk_at "pad 2") => `(tactic| fail)
local macro_rules | `(tactic| walk_at "pad 3") => `(tactic| fail)
local macro_rules | `(tactic| walk_at "pad 4") => `(tactic| fail)
local macro_rules | `(tactic| walk_at "pad 5") => `(tactic| fail)
local macro_rules | `(tactic| walk_at "pad 6") => `(tactic| fail)
local macro_rules | `(tactic| walk_at "pad 7") => `(tactic| fail)
local macro_rules | `(tactic| walk_at "pad 8") => `(tactic| fail)
local macro_rules | `(tactic| walk_at "pad 9") => `(tactic| fail)
local macro_rules | `(tactic| walk_at "pad 10") => `(tactic| fail)
local macro_rules | `(tactic| walk_at "pad 11") => `(tactic| fail)
local macro_rules | `(tactic| walk_at "pad 12") => `(tactic| fail)
local macro_rules | `(tactic| walk_at "pad 13") => `(tactic| fail)
local macro_rules | `(tactic| walk_at "pad 14") => `(tactic| fail)
local macro_rules | `(tactic| walk_at "pad 15") => `(tactic| fail)
local macro_rules | `(tactic| walk_at "pad 16") => `(tactic| fail)
local macro_rules | `(tactic| walk_at "pad 17") => `(tactic| fail)
local macro_rules | `(tactic| walk_at "pad 18") => `(tactic| fail)
local macro_rules | `(tactic| walk_at "pad 19") => `(tactic| fail)
local macro_rules | `(tactic| walk_at "pad 20") => `(tactic| fail)
local macro_rules | `(tactic| walk_at "pad 21") => `(tactic| fail)
local macro_rules | `(tactic| walk_at "pad 22") => `(tactic| fail)
local macro_rules | `(tactic| walk_at "pad 23") => `(tactic| fail)
local macro_rules | `(tactic| walk_at "pad 24") => `(tactic| fail)
local macro_rules | `(tactic| walk_at "pad 25") => `(tactic| fail)
local macro_rules | `(tactic| walk_at "pad 26") => `(tactic| fail)
local macro_rules | `(tactic| walk_at "pad 27") => `(tactic| fail)
local macro_rules | `(tactic| walk_at "pad 28") => `(tactic| fail)
local macro_rules | `(tactic| walk_at "pad 29") => `(tactic| fail)
local macro_rules | `(tactic| walk_at "pad 30") => `(tactic| fail)
local macro_rules | `(tactic| walk_at "pad 31") => `(tactic| fail)
local macro_rules | `(tactic| walk_at "pad 32") => `(tactic| fail)
local macro_rules | `(tactic| walk_at "pad 33") => `(tactic| fail)
local macro_rules | `(tactic| walk_at "pad 34") => `(tactic| fail)
local macro_rules | `(tactic| walk_at "pad 35") => `(tactic| fail)
local macro_rules | `(tactic| walk_at "pad 36") => `(tactic| fail)
local macro_rules | `(tactic| walk_at "pad 37") => `(tactic| fail)
local macro_rules | `(tactic| walk_at "pad 38") => `(tactic| fail)
local macro_rules | `(tactic| walk_at "pad 39") => `(tactic| fail)
local macro_rules | `(tactic| walk_at "call type:range") => `(tactic| (k_here; (rename Fr _ _ _ _ => F'); (rename News _ _ _ _ => N'); (with_unfolding_all refine range1_rows F' N' ?_; intro _ _ _ _ _ _ _ _ _)))
local macro_rules | `(tactic| walk_at "call type:bytes") => `(tactic| (k_here; (with_reducible show wpAny _ _ (call (Value.type "bytes") [Value.ref _]) _ _ _); k_dflt (refine' KBa.make_K ?kbaF ?kbaN ?kbah ?kbal ?kbai ?kbar ?kban ?_; (case kbaF => k_asm); (case kbaN => k_asm); (case kbah => rfl); (case kbal => kba_isList); (case kbai => kba_listInts); (case kbar => exact in2); (case kban => kba_size)); intro _ _ _ F' N' kbaIn; (have kbaS := KBa.sum_in kbaIn)))
set_option maxRecDepth 100000 in
set_option maxHeartbeats 8000000 in
theorem c_signs {kind start step size : Int} {tk1 tk2 tk3 tk4 : Tok}
    (B : Below A₀ base outer h₀) (F : Fr h₀ L s.heap m) (X : (hd.heap_39 w.params).In h₀) (N : News h₀ L s.heap news) (T : Top PP LO mean mg mb h₀) (hk : cs.kind = .function)
    (hd : dp + 2 < recursionLimit) (hu : un + 20 < cLine)
    (hret : ∀ t h' tk', Fr h₀ L h' m → News h₀ L h' news → Q (.bytes (byteArr (signsL kind start step size)) t) { s with heap := h', toks := tk' }) :
    wpAny (model prog w) (ktrTop dp un gd cn cs L a ccd cl outer) (call (.ref 55) [.int kind tk1, .int start tk2, .int step tk3, .int size tk4]) Q E s := by
  refine wpAny_call ?_
  k_dflt (refine' code_defC ?k1 ?k2 ?k3 ?k4 ?k5 ?kA ?kF ?kK ?k6 ?k7 ?k8 ?k9 ?kB ?kD ?_ ?c2 ?c3 ?c4; (case kA => exact rfl); (case kF => exact rfl); (case kK => assumption); (case k1 => k_asm); (case k2 => k_asm); (case k3 => k_asm); (case k4 => k_asm); (case k5 => k_asm); (case k6 => k_is); (case k7 => k_is); (case k8 => ktr_room); (case k9 => exact BindsTo.of_eq rfl); (case kB => exact rfl); (case kD => decide +kernel); (case c2 => exact rfl); (case c3 => exact rfl); (case c4 => exact rfl); k_whole; intro g' L' h' tk' cells' FG' F' N' Y' B' X' T' l1; have hb1 : ∀ p ∈ news, p.1 < L' + 1 := (fun p hp => Nat.lt_succ_of_lt (l1 p hp)); have hb2 : ∀ p ∈ news, p.1 < L' + 1 + 1 := (fun p hp => Nat.lt_succ_of_lt (hb1 p hp)); have kMark : KstMark := kstMark; k_cells Y'; (try simp only [List.cons_append, List.nil_append] at N'); (try dsimp only); (try k_lift B'); (try k_fold))
  k_steps
  all_goals refine endB hret (by assumption) (newsOf (by assumption) ?_) ?_
  · exact fun p hp => .tail _ (.tail _ hp)
  · rw [signsL, if_pos (by assumption)]; decide
  · exact fun p hp => .tail _ (.tail _ hp)
  · rw [signsL, if_neg (by assumption), if_pos (by assumption)]; decide
  · exact fun p hp => .tail _ (.tail _ (.tail _ (.tail _ hp)))
  · rw [signsL, if_neg (by assumption), if_neg (by assumption), if_pos (by assumption)]; rfl
  · exact fun p hp => .tail _ (.tail _ (.tail _ hp))
  · rw [signsL, if_neg (by assumption), if_neg (by assumption), if_neg (by assumption)]; rfl
end
end
end Fe38
theorem Fe38.restFC : True := by
  w_top off
  trivial
namespace Fe38
def numAcc (ns : List Int) (bs : Int) : Nat → Int
  | 0 => 0
  | j + 1 => numAcc ns bs j + ns.getD (ns.length - 1 - j) 0 * bs ^ j
def numZ (ns : List Int) (bs : Int) : Int := numAcc ns bs ns.length
theorem num_step {ns pre : List Int} {bs x k : Int} (h : x = numAcc ns bs pre.length) (hk : k = 0 + (pre.length : Int)) (hlt : pre.length < ((ns.length : Int) - 0).toNat) :
    x + ns.getD (-1 - k + (ns.length : Int)).toNat 0 * bs ^ k.toNat = numAcc ns bs (pre ++ [k]).length := by
  have e1 : (-1 - k + (ns.length : Int)).toNat = ns.length - 1 - pre.length := by omega
  have e2 : k.toNat = pre.length := by omega
  rw [e1, e2, h, List.length_append, List.length_singleton]
  rfl
theorem num_done {ns : List Int} {bs x : Int} (h : x = numAcc ns bs (rangeKs 0 ((ns.length : Int) - 0).toNat).length) : numZ ns bs = x := by
  rw [rangeKs_length, Int.sub_zero, Int.toNat_natCast] at h
  exact h.symm
section
variable {prog : Program} {w : World} {dp un : Nat} {gd : Option (List Code)} {cn : Str} {cs : Scope} {a : Addr} {ccd : Value} {cl : List (Str × Addr)} {outer : List Env} {A₀ : Around} {base h₀ : Heap} {L : Addr} {m : Str → Option Value} {news : List (Addr × Obj)} {s : Shared} {Q E : Value → Shared → Prop} {mean : ExcName → Option Value} {mg mb : Str → Option Value}
section
local macro_rules | `(tactic| walk_at "call type:range") => `(tactic| (k_here; (rename Fr _ _ _ _ => F'); (rename News _ _ _ _ => N'); (with_unfolding_all refine range1_rows F' N' ?_; intro _ _ _ _ _ _ _ _ _)))
local macro_rules | `(tactic| walk_at "binaryOp Mult int int") => `(tactic| (with_reducible refine mul_int ?_ (mulOk_small (DigOf.getD (by assumption) (by assumption) _).1 (Int.lt_of_lt_of_le (DigOf.getD (by assumption) (by assumption) _).2 (by omega)))))
set_option maxRecDepth 100000 in
set_option maxHeartbeats 8000000 in
theorem c_number {l : Addr} {vs : List Value} {ns : List Int} {n0 : Nat} {bs : Int} {tk1 : Tok}
    (B : Below A₀ base outer h₀) (F : Fr h₀ L s.heap m) (X : (hd.heap_39 w.params).In h₀) (N : News h₀ L s.heap news) (T : Top PP LO mean mg mb h₀) (hk : cs.kind = .function)
    (hm : (l, W.listOf vs.toArray n0) ∈ news) (hi : IntsAre vs ns) (hn : ns.length ≤ 15) (hb0 : 2 ≤ bs) (hb1 : bs ≤ 61) (hg : DigOf bs ns) (hd : dp + 2 < recursionLimit) (hu : un + 20 < cLine)
    (hret : ∀ t h' tk', Fr h₀ L h' m → News h₀ L h' news → Q (.int (numZ ns bs) t) { s with heap := h', toks := tk' }) :
    wpAny (model prog w) (ktrTop dp un gd cn cs L a ccd cl outer) (call (.ref 90) [.ref l, .int bs tk1]) Q E s := by
  have N2 := newsDup N hm
  clear N
  k_with "pyIter ref" => k_state (fun pre total => total = numAcc ns bs pre.length) "total"
  k_with "state" => first | exact rfl | exact num_step (by assumption) (by assumption) (by assumption)
  refine wpAny_call ?_
  k_dflt cell_enter
  k_steps
  all_goals exact endI hret (by assumption) (newsTail (by assumption)) (num_done (by assumption))
  k_with_none
end
end
end Fe38
theorem Fe38.restFD : True := by
  w_top off
  trivial
namespace Fe38
def bareZ : List Int → List Int
  | [] => []
  | x :: r => if x = 0 then bareZ r else x :: r
def BareStep (h₀ : Heap) (L : Addr) (s : Shared) (m : Str → Option Value) (news : List (Addr × Obj)) (G : List Int → Prop) (n : Nat) (f : Flow) (s₃ : Shared) : Prop :=
  f = .next ∧ ∃ h' tk l' vs' ns' n', s₃ = { s with heap := h', toks := tk } ∧ Fr h₀ L h' (fun y => if y = Str.ofString "row" then some (.ref l') else m y) ∧ News h₀ L h' ((l', W.listOf (List.toArray vs') n') :: news) ∧ IntsAre vs' ns' ∧ G ns' ∧ ns'.length < n
theorem bare_loop {prog : Program} {w : World} {A : Around} {E : Value → Shared → Prop} {Q : Flow → Shared → Prop} {s : Shared} {env : Env} {h₀ : Heap} {L l : Addr} {m : Str → Option Value} {news : List (Addr × Obj)} {vs : List Value} {ns : List Int} {n0 : Nat} {test : Expr} {body : List Stmt} {pos : Pos} (G : List Int → Prop)
    (F : Fr h₀ L s.heap m) (N : News h₀ L s.heap ((l, W.listOf vs.toArray n0) :: news)) (hr : m (Str.ofString "row") = some (.ref l)) (hi : IntsAre vs ns) (hG : G ns)
    (turn : ∀ l' vs' ns' n' h₁ tk₁, Fr h₀ L h₁ (fun y => if y = Str.ofString "row" then some (.ref l') else m y) → News h₀ L h₁ ((l', W.listOf (List.toArray vs') n') :: news) → IntsAre vs' ns' → G ns' →
      wpAny (model prog w) A (isTrue test env (eval test env)) (fun b s₂ =>
        if b = true then wpAny (model prog w) A (execs body env) (BareStep h₀ L s m news G ns'.length) E s₂ else Q .next s₂) E { s with heap := h₁, toks := tk₁ })
    (hE : PassesOwn (model prog w) A env E := by passes_own) :
    wpAny (model prog w) A (exec (.While test body [] pos) env) Q E s := by
  have hm : m = fun y => if y = Str.ofString "row" then some (.ref l) else m y := by
    funext y
    by_cases hy : y = Str.ofString "row"
    · rw [if_pos hy, hy, hr]
    · rw [if_neg hy]
  refine While_inv (fun n m₁ news₁ => ∃ l' vs' ns' n', m₁ = (fun y => if y = Str.ofString "row" then some (.ref l') else m y) ∧ news₁ = (l', W.listOf (List.toArray vs') n') :: news ∧ IntsAre vs' ns' ∧ G ns' ∧ n = ns'.length) F N ⟨l, vs, ns, n0, hm, rfl, hi, hG, rfl⟩ ?_ hE
  rintro n m₁ news₁ h₁ tk₁ F₁ N₁ ⟨l', vs', ns', n', rfl, rfl, hi', hG', rfl⟩
  refine wpAny_mono (turn l' vs' ns' n' h₁ tk₁ F₁ N₁ hi' hG') (fun b s₂ h₂ => ?_) fun _ _ e => e
  cases b with
  | false => exact h₂
  | true =>
    rw [if_pos rfl] at h₂ ⊢
    refine wpAny_mono h₂ (fun f s₃ h₃ => ?_) fun _ _ e => e
    obtain ⟨rfl, h', tk, l2, vs2, ns2, n2, rfl, F2, N2, hi2, hG2, hlt⟩ := h₃
    exact WhileStep.intro F2 N2 hlt ⟨l2, vs2, ns2, n2, rfl, rfl, hi2, hG2, rfl⟩
theorem BareStep.intro {h₀ h' : Heap} {L l' : Addr} {s : Shared} {m m' : Str → Option Value} {news news' : List (Addr × Obj)} {G : List Int → Prop} {n n' tk : Nat} {vs' : List Value} {ns' : List Int}
    (F : Fr h₀ L h' m') (N : News h₀ L h' news') (h1 : m' (Str.ofString "row") = some (.ref l')) (h2 : ∀ y, y ≠ Str.ofString "row" → m' y = m y) (hs : ∀ p ∈ (l', W.listOf (List.toArray vs') n') :: news, p ∈ news') (hi : IntsAre vs' ns') (hG : G ns') (hl : ns'.length < n) :
    BareStep h₀ L s m news G n .next { s with heap := h', toks := tk } := by
  have em : m' = fun y => if y = Str.ofString "row" then some (.ref l') else m y := by
    funext y
    by_cases hy : y = Str.ofString "row"
    · rw [if_pos hy, hy, h1]
    · rw [if_neg hy, h2 y hy]
  subst em
  exact ⟨rfl, h', tk, l', vs', ns', n', rfl, F, fun p hp => N p (hs p hp), hi, hG, hl⟩
theorem bare_d {ns r : List Int} {B0 : List Int → List Int} (hB1 : ∀ r, B0 (0 :: r) = B0 r) (h : B0 r = B0 ns ∧ r.length ≤ 15) (hp : 0 < r.length) (hz : r.getD (Int.toNat 0) 0 = 0) : (B0 (List.drop 1 r) = B0 ns ∧ (List.drop 1 r).length ≤ 15) ∧ (List.drop 1 r).length < r.length := by
  cases r with
  | nil => simp at hp
  | cons x t =>
    have hx : x = 0 := hz
    subst hx
    rw [List.drop_succ_cons, List.drop_zero]
    refine ⟨⟨?_, ?_⟩, ?_⟩
    · rw [← h.1, hB1]
    · have := h.2
      simp only [List.length_cons] at this
      omega
    · simp
theorem bare_n {ns r : List Int} {B0 : List Int → List Int} (hB2 : ∀ x r, x ≠ 0 → B0 (x :: r) = x :: r) (h : B0 r = B0 ns ∧ r.length ≤ 15) (hp : 0 < r.length) (hz : r.getD (Int.toNat 0) 0 ≠ 0) : r = B0 ns := by
  cases r with
  | nil => simp at hp
  | cons x t => rw [← h.1, hB2 x t hz]
theorem bare_e {ns r : List Int} {B0 : List Int → List Int} (hB0 : B0 [] = []) (h : B0 r = B0 ns ∧ r.length ≤ 15) (hp : ¬ 0 < r.length) : r = B0 ns := by
  cases r with
  | nil => rw [← h.1, hB0]
  | cons x t => simp at hp
section
variable {prog : Program} {w : World} {dp un : Nat} {gd : Option (List Code)} {cn : Str} {cs : Scope} {a : Addr} {ccd : Value} {cl : List (Str × Addr)} {outer : List Env} {A₀ : Around} {base h₀ : Heap} {L : Addr} {m : Str → Option Value} {news : List (Addr × Obj)} {s : Shared} {Q E : Value → Shared → Prop} {mean : ExcName → Option Value} {mg mb : Str → Option Value}
section
local macro_rules | `(tactic| walk_at "pad 0") => `(tactic| fail)
local macro_rules | `(tactic| walk_at "pad 1") => `(tactic| fail)
local macro_rules | `(tactic| walk_at "pad 2") => `(tactic| fail)
local macro_rules | `(tactic| walk_at "pad 3") => `(tactic| fail)
local macro_rules | `(tactic| walk_at "pad 4") => `(tactic| fail)
local macro_rules | `(tactic| walk_at "pad 5") => `(tactic| fail)
local macro_rules | `(tactic| walk_at "pad 6") => `(tactic| fail)
local macro_rules | `(tactic| walk_at "pad 7") => `(tactic| fail)
local macro_rules | `(tactic| walk_at "pad 8") => `(tactic| fail)
local macro_rules | `(tactic| walk_at "pad 9") => `(tactic| fail)
local macro_rules | `(tactic| walk_at "pad 10") => `(tactic| fail)
local macro_rules | `(tactic| walk_at "pad 11") => `(tactic| fail)
local macro_rules | `(tactic| walk_at "pad 12") => `(tactic| fail)
local macro_rules | `(tactic| walk_at "pad 13") => `(tactic| fail)
local macro_rules | `(tactic| walk_at "pad 14") => `(tactic| fail)
local macro_rules | `(tactic| walk_at "pad 15") => `(tactic| fail)
local macro_rules | `(tactic| walk_at "pad 16") => `(tactic| fail)
local macro_rules | `(tactic| walk_at "pad 17") => `(tactic| fail)
local macro_rules | `(tactic| walk_at "pad 18") => `(tactic| fail)
local macro_rules | `(tactic| walk_at "pad 19") => `(tactic| fail)
local macro_rules | `(tactic| walk_at "pad 20") => `(tactic| fail)
local macro_rules | `(tactic| walk_at "pad 21") => `(tactic| fail)
local macro_rules | `(tactic| walk_at "pad 22") => `(tactic| fail)
local macro_rules | `(tactic| walk_at "pad 23") => `(tactic| fail)
local macro_rules | `(tactic| walk_at "pad 24") => `(tactic| fail)
local macro_rules | `(tactic| walk_at "pad 25") => `(tactic| fail)
local macro_rules | `(tactic| walk_at "pad 26") => `(tactic| fail)
local macro_rules | `(tactic| walk_at "pad 27") => `(tactic| fail)
local macro_rules | `(tactic| walk_at "pad 28") => `(tactic| fail)
local macro_rules | `(tactic| walk_at "pad 29") => `(tactic| fail)
local macro_rules | `(tactic| walk_at "pad 30") => `(tactic| fail)
local macro_rules | `(tactic| walk_at "pad 31") => `(tactic| fail)
local macro_rules | `(tactic| walk_at "pad 32") => `(tactic| fail)
local macro_rules | `(tactic| walk_at "pad 33") => `(tactic| fail)
local macro_rules | `(tactic| walk_at "pad 34") => `(tactic| fail)
local macro_rules | `(tactic| walk_at "pad 35") => `(tactic| fail)
local macro_rules | `(tactic| walk_at "pad 36") => `(tactic| fail)
local macro_rules | `(tactic| walk_at "pad 37") => `(tactic| fail)
local macro_rules | `(tactic| walk_at "pad 38") => `(tactic| fail)
local macro_rules | `(tactic| walk_at "pad 39") => `(tactic| fail)
local macro_rules | `(tactic| walk_at "exec While") => `(tactic| (k_extra "my While"))
local macro_rules | `(tactic| walk_at "BareStep") => `(tactic| (refine Held.out ?_))
set_option maxRecDepth 100000 in
set_option maxHeartbeats 8000000 in
theorem c_bare0 {l : Addr} {vs : List Value} {ns : List Int} {n0 : Nat} {B0 : List Int → List Int}
    (B : Below A₀ base outer h₀) (F : Fr h₀ L s.heap m) (X : (hd.heap_39 w.params).In h₀) (N : News h₀ L s.heap news) (T : Top PP LO mean mg mb h₀) (hk : cs.kind = .function)
    (hm : (l, W.listOf vs.toArray n0) ∈ news) (hi : IntsAre vs ns) (hn : ns.length ≤ 15) (hB0 : B0 [] = []) (hB1 : ∀ r, B0 (0 :: r) = B0 r) (hB2 : ∀ x r, x ≠ 0 → B0 (x :: r) = x :: r)
    (hd : dp + 2 < recursionLimit) (hu : un + 20 < cLine)
    (hret : ∀ (a' : Addr) (vs' : List Value) (n' : Nat) h' tk', Fr h₀ L h' m → News h₀ L h' ((a', W.listOf vs'.toArray n') :: news) → IntsAre vs' (B0 ns) → Q (.ref a') { s with heap := h', toks := tk' }) :
    wpAny (model prog w) (ktrTop dp un gd cn cs L a ccd cl outer) (call (.ref 69) [.ref l]) Q E s := by
  have N2 := newsDup N hm
  clear N
  k_with "my While" => ((rename Fr _ _ _ _ => F9); (rename News _ _ _ _ => N9); (refine bare_loop (fun r => B0 r = B0 ns ∧ r.length ≤ 15) F9 N9 rfl hi ⟨rfl, hn⟩ ?_); clear F9 N9; intro l9 vs9 ns9 n9 h9 tk9 F9 N9 hi9 hG9)
  refine wpAny_call ?_
  k_dflt cell_enter
  k_steps
  · refine Held.mk (BareStep.intro (n' := 0) (by assumption) (by assumption) rfl ?_ ?_ (by assumption) (bare_d hB1 hG9 (by assumption) (by assumption)).1 (bare_d hB1 hG9 (by assumption) (by assumption)).2)
    · intro y hy
      simp only [if_neg hy]
    · exact fun p hp => (List.mem_cons.mp hp).elim (fun e => e ▸ .head _) fun h => .tail _ (.tail _ h)
  · exact hret _ _ _ _ _ (by assumption) (by assumption) (bare_n hB2 hG9 (by assumption) (by assumption) ▸ hi9)
  · exact hret _ _ _ _ _ (by assumption) (by assumption) (bare_e hB0 hG9 (by assumption) ▸ hi9)
  k_with_none
end
theorem c_bare {l : Addr} {vs : List Value} {ns : List Int} {n0 : Nat}
    (B : Below A₀ base outer h₀) (F : Fr h₀ L s.heap m) (X : (hd.heap_39 w.params).In h₀) (N : News h₀ L s.heap news) (T : Top PP LO mean mg mb h₀) (hk : cs.kind = .function)
    (hm : (l, W.listOf vs.toArray n0) ∈ news) (hi : IntsAre vs ns) (hn : ns.length ≤ 15) (hd : dp + 2 < recursionLimit) (hu : un + 20 < cLine)
    (hret : ∀ (a' : Addr) (vs' : List Value) (n' : Nat) h' tk', Fr h₀ L h' m → News h₀ L h' ((a', W.listOf vs'.toArray n') :: news) → IntsAre vs' (bareZ ns) → Q (.ref a') { s with heap := h', toks := tk' }) :
    wpAny (model prog w) (ktrTop dp un gd cn cs L a ccd cl outer) (call (.ref 69) [.ref l]) Q E s := by
  exact c_bare0 B F X N T hk hm hi hn rfl (fun r => by rw [bareZ, if_pos rfl]) (fun x r hx => by rw [bareZ, if_neg hx]) hd hu hret
end
end Fe38
theorem Fe38.restFE : True := by
  w_top off
  trivial
namespace Fe38
def digR (xs : List Int) (j : Nat) : Int := if j < xs.length then xs.getD (xs.length - 1 - j) 0 else 0
def addC (xs ys : List Int) (bs : Int) : Nat → Int
  | 0 => 0
  | j + 1 => if bs ≤ addC xs ys bs j + digR xs j + digR ys j then 1 else 0
def addH (xs ys : List Int) (bs : Int) (j : Nat) : Int := addC xs ys bs j + digR xs j + digR ys j
def addO (xs ys : List Int) (bs : Int) : Nat → List Int
  | 0 => []
  | j + 1 => addO xs ys bs j ++ [if bs ≤ addH xs ys bs j then addH xs ys bs j - bs else addH xs ys bs j]
theorem digR_in {xs : List Int} {k : Int} {j : Nat} {v w : Int} (hv : v = w) (hk : k = 0 + (j : Int)) (h : k < (xs.length : Int)) : v + xs.getD (-1 - k + (xs.length : Int)).toNat 0 = w + digR xs j := by
  have e : (-1 - k + (xs.length : Int)).toNat = xs.length - 1 - j := by omega
  rw [e, digR, if_pos (by omega), hv]
theorem digR_out {xs : List Int} {k : Int} {j : Nat} {v w : Int} (hv : v = w) (hk : k = 0 + (j : Int)) (h : ¬ k < (xs.length : Int)) : v = w + digR xs j := by
  rw [digR, if_neg (by omega), Int.add_zero, hv]
def addN (xs ys : List Int) : Nat := max xs.length ys.length
def addZ (xs ys : List Int) (bs : Int) : List Int := (addO xs ys bs (addN xs ys) ++ [addC xs ys bs (addN xs ys)]).reverse
theorem add_s1 {xs ys row pre : List Int} {bs k : Int} {C : Nat → Int} {O : Nat → List Int} (hCs : ∀ j, C (j + 1) = if bs ≤ C j + digR xs j + digR ys j then 1 else 0)
    (hOs : ∀ j, O (j + 1) = O j ++ [if bs ≤ C j + digR xs j + digR ys j then C j + digR xs j + digR ys j - bs else C j + digR xs j + digR ys j])
    (h1 : row = O pre.length) (h3 : row.length = pre.length) (hc : bs ≤ C pre.length + digR xs pre.length + digR ys pre.length) :
    row ++ [C pre.length + digR xs pre.length + digR ys pre.length - bs] = O (pre ++ [k]).length ∧ 1 = C (pre ++ [k]).length ∧ (row ++ [C pre.length + digR xs pre.length + digR ys pre.length - bs]).length = (pre ++ [k]).length := by
  rw [List.length_append, List.length_singleton, hCs, hOs, if_pos hc, if_pos hc, ← h1]
  exact ⟨rfl, rfl, by simp [h3]⟩
theorem add_s0 {xs ys row pre : List Int} {bs k : Int} {C : Nat → Int} {O : Nat → List Int} (hCs : ∀ j, C (j + 1) = if bs ≤ C j + digR xs j + digR ys j then 1 else 0)
    (hOs : ∀ j, O (j + 1) = O j ++ [if bs ≤ C j + digR xs j + digR ys j then C j + digR xs j + digR ys j - bs else C j + digR xs j + digR ys j])
    (h1 : row = O pre.length) (h3 : row.length = pre.length) (hc : ¬ bs ≤ C pre.length + digR xs pre.length + digR ys pre.length) :
    row ++ [C pre.length + digR xs pre.length + digR ys pre.length] = O (pre ++ [k]).length ∧ 0 = C (pre ++ [k]).length ∧ (row ++ [C pre.length + digR xs pre.length + digR ys pre.length]).length = (pre ++ [k]).length := by
  rw [List.length_append, List.length_singleton, hCs, hOs, if_neg hc, if_neg hc, ← h1]
  exact ⟨rfl, rfl, by simp [h3]⟩
theorem add_n {xs ys : List Int} : (rangeKs 0 ((if (ys.length : Int) > (xs.length : Int) then (ys.length : Int) else (xs.length : Int)) - 0).toNat).length = addN xs ys := by
  rw [rangeKs_length, addN]
  split <;> omega
theorem ltTail3 {d : Addr} {x y z : Addr × Obj} {l : List (Addr × Obj)} (h : ∀ p ∈ x :: y :: z :: l, p.1 < d) : ∀ p ∈ l, p.1 < d := fun p hp => h p (.tail _ (.tail _ (.tail _ hp)))
theorem add_done {xs ys row : List Int} {c : Int} {C : Nat → Int} {O : Nat → List Int}
    (h1 : row = O (rangeKs 0 ((if (ys.length : Int) > (xs.length : Int) then (ys.length : Int) else (xs.length : Int)) - 0).toNat).length)
    (h2 : c = C (rangeKs 0 ((if (ys.length : Int) > (xs.length : Int) then (ys.length : Int) else (xs.length : Int)) - 0).toNat).length) : (row ++ [c]).reverse = (O (addN xs ys) ++ [C (addN xs ys)]).reverse := by
  rw [add_n] at h1 h2
  rw [h1, h2]
section
variable {prog : Program} {w : World} {dp un : Nat} {gd : Option (List Code)} {cn : Str} {cs : Scope} {a : Addr} {ccd : Value} {cl : List (Str × Addr)} {outer : List Env} {A₀ : Around} {base h₀ : Heap} {L : Addr} {m : Str → Option Value} {news : List (Addr × Obj)} {s : Shared} {Q E : Value → Shared → Prop} {mean : ExcName → Option Value} {mg mb : Str → Option Value}
section
local macro_rules | `(tactic| walk_at "call type:range") => `(tactic| (k_here; (rename Fr _ _ _ _ => F'); (rename News _ _ _ _ => N'); (with_unfolding_all refine range1_rows F' N' ?_; intro _ _ _ _ _ _ _ _ _)))
local macro_rules | `(tactic| walk_at "subscriptTail Name Slice ref ref") => `(tactic| (k_here; (with_reducible show wpAny _ _ (subscriptTail _ (PySem.Expr.Slice none none (some _) _) (Value.ref _) (Value.ref _)) _ _ _); (rename News _ _ _ _ => nE'); (try simp only [List.push_toArray] at nE'); k_dflt (refine' krv_ints ?F nE' ?l ?k ?i ?_ ?s ?t ?z; (case F => k_asm); (case l => exact News.isList nE' (by k_mem)); (case k => exact IsPart.int _ _); (case i => l_ints); (case s => with_unfolding_all rfl); (case t => kmk_pure); (case z => size_fits)); intro D' ws' h' F' N' l1 hI' hC'))
local macro_rules | `(tactic| walk_at "exec If") => `(tactic| k_extra "my If")
local macro_rules | `(tactic| walk_at "OutN") => `(tactic| k_extra "my OutN")
set_option maxRecDepth 100000 in
set_option maxHeartbeats 8000000 in
theorem c_added0 {l1 l2 : Addr} {vs1 vs2 : List Value} {xs ys : List Int} {n1 n2 : Nat} {bs : Int} {tk1 : Tok} {C : Nat → Int} {O : Nat → List Int}
    (B : Below A₀ base outer h₀) (F : Fr h₀ L s.heap m) (X : (hd.heap_39 w.params).In h₀) (N : News h₀ L s.heap news) (T : Top PP LO mean mg mb h₀) (hk : cs.kind = .function)
    (hm1 : (l1, W.listOf vs1.toArray n1) ∈ news) (hi1 : IntsAre vs1 xs) (hn1 : xs.length ≤ 7) (hm2 : (l2, W.listOf vs2.toArray n2) ∈ news) (hi2 : IntsAre vs2 ys) (hn2 : ys.length ≤ 7)
    (hC0 : C 0 = 0) (hO0 : O 0 = []) (hCs : ∀ j, C (j + 1) = if bs ≤ C j + digR xs j + digR ys j then 1 else 0)
    (hOs : ∀ j, O (j + 1) = O j ++ [if bs ≤ C j + digR xs j + digR ys j then C j + digR xs j + digR ys j - bs else C j + digR xs j + digR ys j])
    (hd : dp + 2 < recursionLimit) (hu : un + 20 < cLine)
    (hret : ∀ (a' : Addr) (vs' : List Value) (n' : Nat) h' tk', Fr h₀ L h' m → News h₀ L h' ((a', W.listOf vs'.toArray n') :: news) → IntsAre vs' (O (addN xs ys) ++ [C (addN xs ys)]).reverse → (∀ p ∈ news, p.1 < a') → Q (.ref a') { s with heap := h', toks := tk' }) :
    wpAny (model prog w) (ktrTop dp un gd cn cs L a ccd cl outer) (call (.ref 76) [.ref l1, .ref l2, .int bs tk1]) Q E s := by
  have N2 := newsDup (newsDup N hm1) (List.mem_cons_of_mem _ hm2)
  clear N
  k_with "pyIter ref" => k_state (fun pre out carry => out = O pre.length ∧ carry = C pre.length ∧ out.length = pre.length) "out" "carry"
  k_with "state" => first | exact ⟨hO0.symm, hC0.symm, rfl⟩ | exact add_s1 hCs hOs (by assumption) (by assumption) (by assumption) | exact add_s0 hCs hOs (by assumption) (by assumption) (by assumption)
  k_with "my If" => first
    | ((with_reducible show wpAny _ _ (exec (Stmt.If (Expr.Compare (Expr.Name _ _) _ [Expr.Call _ [Expr.Name (Str.ofString "one") _] _ _] _) _ _ _) _) _ _ _); (rename Fr _ _ _ _ => F9); (rename News _ _ _ _ => N9); (refine cutN (Str.ofString "here") (C kPre.length + digR xs kPre.length) F9 N9 ?_ ?_); (refine wpAny_If ?_); (rotate_left); (clear F9 N9; intro h9 tk9 t9 F9 N9); (rotate_right))
    | ((with_reducible show wpAny _ _ (exec (Stmt.If (Expr.Compare (Expr.Name _ _) _ [Expr.Call _ [Expr.Name (Str.ofString "two") _] _ _] _) _ _ _) _) _ _ _); (rename Fr _ _ _ _ => F9); (rename News _ _ _ _ => N9); (refine cutN (Str.ofString "here") (C kPre.length + digR xs kPre.length + digR ys kPre.length) F9 N9 ?_ ?_); (refine wpAny_If ?_); (rotate_left); (clear F9 N9; intro h9 tk9 t9 F9 N9); (rotate_right))
  k_with "my OutN" => (refine' OutN.intro (by assumption) (by assumption) ?h1 ?h2 ?e; (case h1 => exact rfl); (case h2 => (intro y hy; simp only [if_neg hy])); (case e => first | exact digR_in rfl (by assumption) (by assumption) | exact digR_out rfl (by assumption) (by assumption) | exact digR_in (by assumption) (by assumption) (by assumption) | exact digR_out (by assumption) (by assumption) (by assumption)))
  refine wpAny_call ?_
  k_dflt cell_enter
  k_steps
  refine endL (n' := 0) hret (by assumption) (newsOf (by assumption) ?_) (by assumption) ?_ ?_
  · exact fun p hp => (List.mem_cons.mp hp).elim (fun e => e ▸ .head _) fun h => .tail _ (.tail _ (.tail _ (.tail _ h)))
  · exact ltTail3 (by assumption)
  · exact add_done (by assumption) (by assumption)
  k_with_none
end
theorem c_added {l1 l2 : Addr} {vs1 vs2 : List Value} {xs ys : List Int} {n1 n2 : Nat} {bs : Int} {tk1 : Tok}
    (B : Below A₀ base outer h₀) (F : Fr h₀ L s.heap m) (X : (hd.heap_39 w.params).In h₀) (N : News h₀ L s.heap news) (T : Top PP LO mean mg mb h₀) (hk : cs.kind = .function)
    (hm1 : (l1, W.listOf vs1.toArray n1) ∈ news) (hi1 : IntsAre vs1 xs) (hn1 : xs.length ≤ 7) (hm2 : (l2, W.listOf vs2.toArray n2) ∈ news) (hi2 : IntsAre vs2 ys) (hn2 : ys.length ≤ 7)
    (hd : dp + 2 < recursionLimit) (hu : un + 20 < cLine)
    (hret : ∀ (a' : Addr) (vs' : List Value) (n' : Nat) h' tk', Fr h₀ L h' m → News h₀ L h' ((a', W.listOf vs'.toArray n') :: news) → IntsAre vs' (addZ xs ys bs) → (∀ p ∈ news, p.1 < a') → Q (.ref a') { s with heap := h', toks := tk' }) :
    wpAny (model prog w) (ktrTop dp un gd cn cs L a ccd cl outer) (call (.ref 76) [.ref l1, .ref l2, .int bs tk1]) Q E s := by
  exact c_added0 (C := addC xs ys bs) (O := addO xs ys bs) B F X N T hk hm1 hi1 hn1 hm2 hi2 hn2 rfl rfl (fun _ => rfl) (fun _ => rfl) hd hu hret
end
end Fe38
theorem Fe38.restFF : True := by
  w_top off
  trivial
namespace Fe38
def digX (xs : List Int) (i : Nat) : Int := xs.getD (xs.length - 1 - i) 0
def tmU (xs ys : List Int) (bs : Int) (i : Nat) (u0 : List Int) : Nat → List Int × Int
  | 0 => (u0, 0)
  | j + 1 => ((tmU xs ys bs i u0 j).1.set (i + j) (((tmU xs ys bs i u0 j).1.getD (i + j) 0 + digX xs i * digX ys j + (tmU xs ys bs i u0 j).2).fmod bs),
      ((tmU xs ys bs i u0 j).1.getD (i + j) 0 + digX xs i * digX ys j + (tmU xs ys bs i u0 j).2).fdiv bs)
def tmO (xs ys : List Int) (bs : Int) : Nat → List Int
  | 0 => List.replicate (xs.length + ys.length) 0
  | i + 1 => (tmU xs ys bs i (tmO xs ys bs i) ys.length).1.set (i + ys.length) (tmU xs ys bs i (tmO xs ys bs i) ys.length).2
def timedZ (xs ys : List Int) (bs : Int) : List Int := (tmO xs ys bs xs.length).reverse
theorem tm_start {xs ys : List Int} {U : Nat → Nat → List Int} (hU0 : U 0 0 = List.replicate (xs.length + ys.length) 0) :
    (List.replicate ((xs.length : Int) + (ys.length : Int)).toNat [(0 : Int)]).flatten = U ([] : List Int).length 0 ∧ (List.replicate ((xs.length : Int) + (ys.length : Int)).toNat [(0 : Int)]).flatten.length = xs.length + ys.length := by
  have e : ((xs.length : Int) + (ys.length : Int)).toNat = xs.length + ys.length := by omega
  have f : ∀ n, (List.replicate n [(0 : Int)]).flatten = List.replicate n 0 := by
    intro n
    induction n with
    | zero => rfl
    | succ n ih => rw [List.replicate_succ, List.flatten_cons, ih]; rfl
  rw [e, f]
  exact ⟨hU0.symm, List.length_replicate ..⟩
theorem tm_mid {n : Nat} {u : List Int} {o : Nat} {U : Nat → Nat → List Int} {C : Nat → Nat → Int} (hC0 : ∀ i, C i 0 = 0) (h : u = U o 0) (hl : u.length = n) : u = U o ([] : List Int).length ∧ 0 = C o ([] : List Int).length ∧ u.length = n := ⟨h, (hC0 _).symm, hl⟩
theorem tm_step {xs ys pre opre u : List Int} {bs i j c : Int} {U : Nat → Nat → List Int} {C : Nat → Nat → Int}
    (hUs : ∀ i j, U i (j + 1) = (U i j).set (i + j) (((U i j).getD (i + j) 0 + digX xs i * digX ys j + C i j).fmod bs)) (hCs : ∀ i j, C i (j + 1) = ((U i j).getD (i + j) 0 + digX xs i * digX ys j + C i j).fdiv bs)
    (hi : i = 0 + (opre.length : Int)) (hi2 : opre.length < ((xs.length : Int) - 0).toNat) (hj : j = 0 + (pre.length : Int)) (hj2 : pre.length < ((ys.length : Int) - 0).toNat) (hu : u = U opre.length pre.length) (hc : c = C opre.length pre.length) (hl : u.length = xs.length + ys.length) :
    u.set (i + j).toNat ((u.getD (i + j).toNat 0 + xs.getD (-1 - i + (xs.length : Int)).toNat 0 * ys.getD (-1 - j + (ys.length : Int)).toNat 0 + c).fmod bs) = U opre.length (pre ++ [j]).length ∧
    (u.getD (i + j).toNat 0 + xs.getD (-1 - i + (xs.length : Int)).toNat 0 * ys.getD (-1 - j + (ys.length : Int)).toNat 0 + c).fdiv bs = C opre.length (pre ++ [j]).length ∧
    (u.set (i + j).toNat ((u.getD (i + j).toNat 0 + xs.getD (-1 - i + (xs.length : Int)).toNat 0 * ys.getD (-1 - j + (ys.length : Int)).toNat 0 + c).fmod bs)).length = xs.length + ys.length := by
  have e1 : (i + j).toNat = opre.length + pre.length := by omega
  have e2 : (-1 - i + (xs.length : Int)).toNat = xs.length - 1 - opre.length := by omega
  have e3 : (-1 - j + (ys.length : Int)).toNat = ys.length - 1 - pre.length := by omega
  rw [e1, e2, e3, List.length_append, List.length_singleton, hUs, hCs, ← hu, ← hc]
  exact ⟨rfl, rfl, by rw [List.length_set]; exact hl⟩
theorem tm_turn {xs ys opre u : List Int} {i c : Int} {U : Nat → Nat → List Int} {C : Nat → Nat → Int}
    (hUn : ∀ i, U (i + 1) 0 = (U i ys.length).set (i + ys.length) (C i ys.length))
    (hi : i = 0 + (opre.length : Int)) (hu : u = U opre.length (rangeKs 0 ((ys.length : Int) - 0).toNat).length) (hc : c = C opre.length (rangeKs 0 ((ys.length : Int) - 0).toNat).length) (hl : u.length = xs.length + ys.length) :
    u.set (i + (ys.length : Int)).toNat c = U (opre ++ [i]).length 0 ∧ (u.set (i + (ys.length : Int)).toNat c).length = xs.length + ys.length := by
  rw [rangeKs_length, Int.sub_zero, Int.toNat_natCast] at hu hc
  have e1 : (i + (ys.length : Int)).toNat = opre.length + ys.length := by omega
  rw [e1, List.length_append, List.length_singleton, hUn, ← hu, ← hc]
  exact ⟨rfl, by rw [List.length_set]; exact hl⟩
theorem tm_done {xs u : List Int} {U : Nat → Nat → List Int} (h : u = U (rangeKs 0 ((xs.length : Int) - 0).toNat).length 0) : u.reverse = (U xs.length 0).reverse := by
  rw [rangeKs_length, Int.sub_zero, Int.toNat_natCast] at h
  rw [h]
theorem ltTail4 {d : Addr} {x y z t : Addr × Obj} {l : List (Addr × Obj)} (h : ∀ p ∈ x :: y :: z :: t :: l, p.1 < d) : ∀ p ∈ l, p.1 < d := fun p hp => h p (.tail _ (.tail _ (.tail _ (.tail _ hp))))
section
variable {prog : Program} {w : World} {dp un : Nat} {gd : Option (List Code)} {cn : Str} {cs : Scope} {a : Addr} {ccd : Value} {cl : List (Str × Addr)} {outer : List Env} {A₀ : Around} {base h₀ : Heap} {L : Addr} {m : Str → Option Value} {news : List (Addr × Obj)} {s : Shared} {Q E : Value → Shared → Prop} {mean : ExcName → Option Value} {mg mb : Str → Option Value}
section
local macro_rules | `(tactic| walk_at "pad 0") => `(tactic| fail)
local macro_rules | `(tactic| walk_at "pad 1") => `(tactic| fail)
local macro_rules | `(tactic| walk_at "pad 2") => `(tactic| fail)
local macro_rules | `(tactic| walk_at "pad 3") => `(tactic| fail)
local macro_rules | `(tactic| walk_at "pad 4") => `(tactic| fail)
local macro_rules | `(tactic| walk_at "pad 5") => `(tactic| fail)
local macro_rules | `(tactic| walk_at "pad 6") => `(tactic| fail)
local macro_rules | `(tactic| walk_at "pad 7") => `(tactic| fail)
local macro_rules | `(tactic| walk_at "pad 8") => `(tactic| fail)
local macro_rules | `(tactic| walk_at "pad 9") => `(tactic| fail)
local macro_rules | `(tactic| walk_at "pad 10") => `(tactic| fail)
local macro_rules | `(tactic| walk_at "pad 11") => `(tactic| fail)
local macro_rules | `(tactic| walk_at "pad 12") => `(tactic| fail)
local macro_rules | `(tactic| walk_at "pad 13") => `(tactic| fail)
local macro_rules | `(tactic| walk_at "pad 14") => `(tactic| fail)
local macro_rules | `(tactic| walk_at "pad 15") => `(tactic| fail)
local macro_rules | `(tactic| walk_at "pad 16") => `(tactic| fail)
local macro_rules | `(tactic| walk_at "pad 17") => `(tactic| fail)
local macro_rules | `(tactic| walk_at "pad 18") => `(tactic| fail)
local macro_rules | `(tactic| walk_at "pad 19") => `(tactic| fail)
local macro_rules | `(tactic| walk_at "pad 20") => `(tactic| fail)
local macro_rules | `(tactic| walk_at "pad 21") => `(tactic| fail)
local macro_rules | `(tactic| walk_at "pad 22") => `(tactic| fail)
local macro_rules | `(tactic| walk_at "pad 23") => `(tactic| fail)
local macro_rules | `(tactic| walk_at "pad 24") => `(tactic| fail)
local macro_rules | `(tactic| walk_at "pad 25") => `(tactic| fail)
local macro_rules | `(tactic| walk_at "pad 26") => `(tactic| fail)
local macro_rules | `(tactic| walk_at "pad 27") => `(tactic| fail)
local macro_rules | `(tactic| walk_at "pad 28") => `(tactic| fail)
local macro_rules | `(tactic| walk_at "pad 29") => `(tactic| fail)
local macro_rules | `(tactic| walk_at "pad 30") => `(tactic| fail)
local macro_rules | `(tactic| walk_at "pad 31") => `(tactic| fail)
local macro_rules | `(tactic| walk_at "pad 32") => `(tactic| fail)
local macro_rules | `(tactic| walk_at "pad 33") => `(tactic| fail)
local macro_rules | `(tactic| walk_at "pad 34") => `(tactic| fail)
local macro_rules | `(tactic| walk_at "pad 35") => `(tactic| fail)
local macro_rules | `(tactic| walk_at "pad 36") => `(tactic| fail)
local macro_rules | `(tactic| walk_at "pad 37") => `(tactic| fail)
local macro_rules | `(tactic| walk_at "pad 38") => `(tactic| fail)
local macro_rules | `(tactic| walk_at "pad 39") => `(tactic| fail)
local macro_rules | `(tactic| walk_at "call type:range") => `(tactic| (k_here; (rename Fr _ _ _ _ => F'); (rename News _ _ _ _ => N'); (with_unfolding_all refine range1_rows F' N' ?_; intro _ _ _ _ _ _ _ _ _)))
local macro_rules | `(tactic| walk_at "subscriptTail Name Slice ref ref") => `(tactic| (k_here; (with_reducible show wpAny _ _ (subscriptTail _ (PySem.Expr.Slice none none (some _) _) (Value.ref _) (Value.ref _)) _ _ _); (rename News _ _ _ _ => nE'); (try simp only [List.push_toArray] at nE'); k_dflt (refine' krv_ints ?F nE' ?l ?k ?i ?_ ?s ?t ?z; (case F => k_asm); (case l => exact News.isList nE' (by k_mem)); (case k => exact IsPart.int _ _); (case i => l_ints); (case s => with_unfolding_all rfl); (case t => kmk_pure); (case z => size_fits)); intro D' ws' h' F' N' l1 hI' hC'))
local macro_rules | `(tactic| walk_at "subscriptTail Name BinOp ref int") => `(tactic| (k_here; (rename News _ _ _ _ => nS); first | (refine item_list_ints_negR (News.isList nS (by k_mem)) (by assumption) (by omega) (by omega) (by omega) ?_; intro _) | (refine item_list_intsR (News.isList nS (by k_mem)) (by assumption) (by omega) (by omega) (by omega) ?_; intro _)))
local macro_rules | `(tactic| walk_at "binaryOp Mult int int") => `(tactic| (with_reducible refine mul_int ?_ (mulOk_small (DigOf.getD (by assumption) (by assumption) _).1 (Int.lt_of_lt_of_le (DigOf.getD (by assumption) (by assumption) _).2 (by omega)))))
local macro_rules | `(tactic| walk_at "binaryOp Mod int int") => `(tactic| (with_reducible refine mod_int' (Int.ne_of_gt (Int.lt_of_lt_of_le (by decide) (by assumption))) ?_))
local macro_rules | `(tactic| walk_at "binaryOp FloorDiv int int") => `(tactic| (with_reducible refine floordiv_int (Int.ne_of_gt (Int.lt_of_lt_of_le (by decide) (by assumption))) ?_ (Or.inl (PyProof.noPylong_small (by omega)))))
local macro_rules | `(tactic| walk_at "InvEndN") => `(tactic| (refine Held.out ?_))
set_option maxRecDepth 100000 in
set_option maxHeartbeats 8000000 in
theorem c_timed0 {l1 l2 : Addr} {vs1 vs2 : List Value} {xs ys : List Int} {n1 n2 : Nat} {bs : Int} {tk1 : Tok} {U : Nat → Nat → List Int} {C : Nat → Nat → Int}
    (B : Below A₀ base outer h₀) (F : Fr h₀ L s.heap m) (X : (hd.heap_39 w.params).In h₀) (N : News h₀ L s.heap news) (T : Top PP LO mean mg mb h₀) (hk : cs.kind = .function)
    (hm1 : (l1, W.listOf vs1.toArray n1) ∈ news) (hi1 : IntsAre vs1 xs) (hn1 : xs.length ≤ 7) (hg1 : DigOf bs xs) (hm2 : (l2, W.listOf vs2.toArray n2) ∈ news) (hi2 : IntsAre vs2 ys) (hn2 : ys.length ≤ 7) (hg2 : DigOf bs ys)
    (hb0 : 2 ≤ bs) (hb1 : bs ≤ 61)
    (hU0 : U 0 0 = List.replicate (xs.length + ys.length) 0) (hC0 : ∀ i, C i 0 = 0)
    (hUs : ∀ i j, U i (j + 1) = (U i j).set (i + j) (((U i j).getD (i + j) 0 + digX xs i * digX ys j + C i j).fmod bs)) (hCs : ∀ i j, C i (j + 1) = ((U i j).getD (i + j) 0 + digX xs i * digX ys j + C i j).fdiv bs)
    (hUn : ∀ i, U (i + 1) 0 = (U i ys.length).set (i + ys.length) (C i ys.length))
    (hd : dp + 2 < recursionLimit) (hu : un + 20 < cLine)
    (hret : ∀ (a' : Addr) (vs' : List Value) (n' : Nat) h' tk', Fr h₀ L h' m → News h₀ L h' ((a', W.listOf vs'.toArray n') :: news) → IntsAre vs' (U xs.length 0).reverse → (∀ p ∈ news, p.1 < a') → Q (.ref a') { s with heap := h', toks := tk' }) :
    wpAny (model prog w) (ktrTop dp un gd cn cs L a ccd cl outer) (call (.ref 83) [.ref l1, .ref l2, .int bs tk1]) Q E s := by
  have N2 := newsDup (newsDup N hm1) (List.mem_cons_of_mem _ hm2)
  clear N
  k_with "pyIter ref" => (k_of "i" => k_state (fun pre out => out = U pre.length 0 ∧ out.length = xs.length + ys.length) "out")
  k_with "pyIter ref" => (k_of "j" => k_state (fun pre out carry => out = U kPre.length pre.length ∧ carry = C kPre.length pre.length ∧ out.length = xs.length + ys.length) "out" "carry")
  k_with "state" => first | exact tm_start hU0 | exact tm_mid hC0 (by assumption) (by assumption)
  refine wpAny_call ?_
  k_dflt cell_enter
  k_steps
  · refine Held.mk ?_
    rename News _ _ _ _ => nE'
    refine' kst_end ⟨_, _, _, _, _⟩ ?F nE' ?a ?b ?r ?hf ?hk ?hr ?hp
    case F => assumption
    case hf => (dsimp only; assumption)
    case a => kst_in
    case r => simp only [List.map_cons, List.map_nil]
    case b => (intro p hp; kst_mem)
    case hk => kst_all
    case hr => kst_same
    case hp => exact tm_step hUs hCs (by assumption) (by assumption) (by assumption) (by assumption) (by assumption) (by assumption) (by assumption)
  · refine Held.mk ?_
    rename News _ _ _ _ => nE'
    refine' kst_end ⟨_, _, _⟩ ?F nE' ?a ?b ?r ?hf ?hk ?hr ?hp
    case F => assumption
    case hf => (dsimp only; assumption)
    case a => kst_in
    case r => simp only [List.map_cons, List.map_nil]
    case b => (intro p hp; kst_mem)
    case hk => kst_all
    case hr => kst_same
    case hp => exact tm_turn hUn (by assumption) (by assumption) (by assumption) (by assumption)
  refine endL (n' := 0) hret (by assumption) (newsOf (by assumption) ?_) (by assumption) ?_ ?_
  · exact fun p hp => (List.mem_cons.mp hp).elim (fun e => e ▸ .head _) fun h => .tail _ (.tail _ (.tail _ (.tail _ (.tail _ h))))
  · exact ltTail4 (by assumption)
  · exact tm_done (by assumption)
  k_with_none
end
theorem c_timed {l1 l2 : Addr} {vs1 vs2 : List Value} {xs ys : List Int} {n1 n2 : Nat} {bs : Int} {tk1 : Tok}
    (B : Below A₀ base outer h₀) (F : Fr h₀ L s.heap m) (X : (hd.heap_39 w.params).In h₀) (N : News h₀ L s.heap news) (T : Top PP LO mean mg mb h₀) (hk : cs.kind = .function)
    (hm1 : (l1, W.listOf vs1.toArray n1) ∈ news) (hi1 : IntsAre vs1 xs) (hn1 : xs.length ≤ 7) (hg1 : DigOf bs xs) (hm2 : (l2, W.listOf vs2.toArray n2) ∈ news) (hi2 : IntsAre vs2 ys) (hn2 : ys.length ≤ 7) (hg2 : DigOf bs ys)
    (hb0 : 2 ≤ bs) (hb1 : bs ≤ 61) (hd : dp + 2 < recursionLimit) (hu : un + 20 < cLine)
    (hret : ∀ (a' : Addr) (vs' : List Value) (n' : Nat) h' tk', Fr h₀ L h' m → News h₀ L h' ((a', W.listOf vs'.toArray n') :: news) → IntsAre vs' (timedZ xs ys bs) → (∀ p ∈ news, p.1 < a') → Q (.ref a') { s with heap := h', toks := tk' }) :
    wpAny (model prog w) (ktrTop dp un gd cn cs L a ccd cl outer) (call (.ref 83) [.ref l1, .ref l2, .int bs tk1]) Q E s := by
  exact c_timed0 (U := fun i j => (tmU xs ys bs i (tmO xs ys bs i) j).1) (C := fun i j => (tmU xs ys bs i (tmO xs ys bs i) j).2) B F X N T hk hm1 hi1 hn1 hg1 hm2 hi2 hn2 hg2 hb0 hb1 rfl (fun _ => rfl) (fun _ _ => rfl) (fun _ _ => rfl) (fun _ => rfl) hd hu hret
end
end Fe38
theorem Fe38.restFG : True := by
  w_top off
  trivial
namespace Fe38
theorem clip_pos {n : Nat} {k : Int} (h0 : 0 ≤ k) (h1 : k ≤ (n : Int)) : clipAt n k = k.toNat := by
  unfold clipAt
  rw [if_neg (by omega)]
  omega
theorem pick_one {ks : List Int} {k : Int} (h0 : 0 ≤ k) (h1 : k < (ks.length : Int)) : List.take (clipAt ks.length (k + 1) - clipAt ks.length k) (List.drop (clipAt ks.length k) ks) = [ks.getD k.toNat 0] := by
  rw [clip_pos h0 (by omega), clip_pos (by omega) (by omega)]
  have e : (k + 1).toNat - k.toNat = 1 := by omega
  have hlt : k.toNat < ks.length := by omega
  rw [e, List.drop_eq_getElem_cons hlt, List.take_succ_cons, List.take_zero, List.getD_eq_getElem?_getD, List.getElem?_eq_getElem hlt]
  rfl
theorem enc_0 {n : Int} {G : Int → List Int} (h : 0 ≤ n) : 0 ≤ n ∧ G n ++ KBw.bInts #[] = G n := ⟨h, List.append_nil _⟩
theorem enc_1 {n i : Int} {ks : List Int} {p st : Array UInt8} {G : Int → List Int} (hn0 : 2 ≤ ks.length) (hGs : ∀ i, 0 < i → G i = G (i.fdiv (ks.length : Int)) ++ [ks.getD (i.fmod (ks.length : Int)).toNat 0])
    (h0 : 0 ≤ i) (hne : i ≠ 0) (hG : G i ++ KBw.bInts st = G n) (hp : KBw.bInts p = List.take (clipAt ks.length (i.fmod (ks.length : Int) + 1) - clipAt ks.length (i.fmod (ks.length : Int))) (List.drop (clipAt ks.length (i.fmod (ks.length : Int))) ks)) :
    0 ≤ i.fdiv (ks.length : Int) ∧ G (i.fdiv (ks.length : Int)) ++ KBw.bInts (p ++ st) = G n := by
  have hm := Int.fmod_nonneg_of_pos i (show (0 : Int) < (ks.length : Int) by omega)
  have hl := Int.fmod_lt_of_pos i (show (0 : Int) < (ks.length : Int) by omega)
  rw [pick_one hm hl] at hp
  rw [KBw.ints_app hp rfl, ← hG, hGs i (by omega), List.append_assoc]
  exact ⟨Int.fdiv_nonneg h0 (by omega), rfl⟩
theorem enc_m {i : Int} {ks : List Int} (hn0 : 2 ≤ ks.length) (h0 : 0 ≤ i) (hne : i ≠ 0) : (i.fdiv (ks.length : Int)).toNat < i.toNat := by
  have h1 : i.fdiv (ks.length : Int) = i / (ks.length : Int) := Int.fdiv_eq_ediv_of_nonneg _ (by omega)
  have h2 : i / (ks.length : Int) < i := Int.ediv_lt_self_of_pos_of_ne_one (by omega) (by omega)
  have h3 : 0 ≤ i / (ks.length : Int) := Int.ediv_nonneg h0 (by omega)
  omega
theorem enc_sz {n i : Int} {ks : List Int} {st : Array UInt8} {x y : Nat} {G : Int → List Int} (hn1 : ks.length ≤ 61) (hGl : (G n).length ≤ 100) (hG : G i ++ KBw.bInts st = G n) :
    (List.take x (List.drop y ks)).length + (KBw.bInts st).length ≤ 16777216 := by
  have h1 : (List.take x (List.drop y ks)).length ≤ ks.length := by
    rw [List.length_take, List.length_drop]; omega
  have h2 : (G i ++ KBw.bInts st).length = (G n).length := congrArg List.length hG
  rw [List.length_append] at h2
  omega
theorem enc_e {n i : Int} {ks : List Int} {d : Bool} {st : Array UInt8} {G : Int → List Int} (hG0 : G 0 = []) (hz : i = 0) (hG : G i ++ KBw.bInts st = G n) (h : ¬ (n = 0 ∧ d = true)) :
    KBw.bInts st = if n = 0 ∧ d = true then [ks.getD 0 0] else G n := by
  rw [if_neg h, ← hG, hz, hG0, List.nil_append]
theorem enc_z {n : Int} {ks : List Int} {d : Bool} {p : Array UInt8} {G : Int → List Int} (hn0 : 2 ≤ ks.length) (h : n = 0 ∧ d = true) (hp : KBw.bInts p = List.take (clipAt ks.length 1 - clipAt ks.length 0) (List.drop (clipAt ks.length 0) ks)) :
    KBw.bInts p = if n = 0 ∧ d = true then [ks.getD 0 0] else G n := by
  have := pick_one (ks := ks) (k := 0) (by omega) (by omega)
  rw [if_pos h, hp]
  exact this
section
variable {prog : Program} {w : World} {dp un : Nat} {gd : Option (List Code)} {cn : Str} {cs : Scope} {a : Addr} {ccd : Value} {cl : List (Str × Addr)} {outer : List Env} {A₀ : Around} {base h₀ : Heap} {L : Addr} {m : Str → Option Value} {news : List (Addr × Obj)} {s : Shared} {Q E : Value → Shared → Prop} {mean : ExcName → Option Value} {mg mb : Str → Option Value}
section
local macro_rules | `(tactic| walk_at "binaryOp Add bytes bytes") => `(tactic| (k_extra "my Add"))
set_option maxRecDepth 100000 in
set_option maxHeartbeats 8000000 in
theorem c_encode {n : Int} {bs : Array UInt8} {ks : List Int} {d : Bool} {tk1 tk2 : Tok} {G : Int → List Int}
    (B : Below A₀ base outer h₀) (F : Fr h₀ L s.heap m) (X : (hd.heap_39 w.params).In h₀) (N : News h₀ L s.heap news) (T : Top PP LO mean mg mb h₀) (hk : cs.kind = .function)
    (hi0 : 0 ≤ n) (hb : KBw.bInts bs = ks) (hn0 : 2 ≤ ks.length) (hn1 : ks.length ≤ 61) (hG0 : G 0 = []) (hGs : ∀ i, 0 < i → G i = G (i.fdiv (ks.length : Int)) ++ [ks.getD (i.fmod (ks.length : Int)).toNat 0]) (hGl : (G n).length ≤ 100)
    (hd : dp + 2 < recursionLimit) (hu : un + 20 < cLine)
    (hret : ∀ c t h' tk', Fr h₀ L h' m → News h₀ L h' news → KBw.bInts c = (if n = 0 ∧ d = true then [ks.getD 0 0] else G n) → Q (.bytes c t) { s with heap := h', toks := tk' }) :
    wpAny (model prog w) (ktrTop dp un gd cn cs L a ccd cl outer) (call (.ref 29) [.int n tk1, .bool d, .bytes bs tk2]) Q E s := by
  k_with "exec While Name cons nil" => k_while (fun _ i string => 0 ≤ i ∧ G i ++ KBw.bInts string = G n) (fun _ i string => i.toNat) "i" "string"
  k_with "state" => first | exact enc_0 hi0 | exact enc_1 hn0 hGs (by assumption) (by assumption) (by assumption) (by assumption)
  k_with "measure" => exact enc_m hn0 (by assumption) (by assumption)
  k_with "my Add" => (refine KBa.add_K (by assumption) rfl (enc_sz hn1 hGl (by assumption)) ?_; intro _ _ _)
  refine wpAny_call ?_
  k_dflt (refine' code_def ?k1 ?k2 ?k3 ?k4 ?k5 ?kA ?kF ?kK ?k6 ?k7 ?k8 ?k9 ?kB ?_ ?c2 ?c3 ?c4 ?c5; (case kA => exact rfl); (case kF => exact rfl); (case kK => assumption); (case k1 => k_asm); (case k2 => k_asm); (case k3 => k_asm); (case k4 => k_asm); (case k5 => k_asm); (case k6 => k_is); (case k7 => k_is); (case k8 => ktr_room); (case k9 => first | exact BindsTo.of_eq rfl | exact binds_K (by k_in) rfl (by k_is) rfl rfl rfl); (case c5 => decide); (case kB => exact locs rfl); (case c2 => exact rfl); (case c3 => exact rfl); (case c4 => exact rfl); k_whole; intro g' L' h' FG' F' N' B' X' T'; (try dsimp only); (try k_lift B'); (try k_fold))
  k_steps
  all_goals refine hret _ _ _ _ (by assumption) (by assumption) ?_
  · exact enc_e hG0 (by assumption) (by assumption) (fun h => absurd h.1 (by assumption))
  · exact enc_z hn0 ⟨by assumption, by assumption⟩ (by assumption)
  · exact enc_e hG0 (by assumption) (by assumption) (fun h => Bool.false_ne_true ((show d = false by assumption).symm.trans h.2))
  k_with_none
end
end
end Fe38
theorem Fe38.restFH : True := by
  w_top off
  trivial
namespace Fe38

section
open PySem.Calls
variable {prog : Program} {w : World} {A : Around} {E : Value → Shared → Prop} {s : Shared}

theorem nextOf_bytes_item {it : Addr} {b : Array UInt8} {t : Tok} {i : Nat} {c : UInt8} {Q : Value → Shared → Prop} (hit : KBw.IsBytesIter s.heap it b t i) (hx : b[i]? = some c)
    (hQ : ∀ h', KBw.IsBytesIter h' it b t (i + 1) → Heap.SameBut it s.heap h' → Q (.int (c.toNat : Int) s.toks) { s with heap := h', toks := s.toks + 1 }) :
    wpAny (model prog w) A (Builtin.SmallTypes.nextOf (.ref it)) Q E s := by
  obtain ⟨o, ho, hc, hd⟩ := id hit
  unfold Builtin.SmallTypes.nextOf
  refine wpAny_bind (wpAny_callSpecial?_slot (name := Str.ofString "__next__") (KBw.iter_typeIs hit) KBw.slot_next
    (wpAny_call_entry KBw.slot_next (KBw.iter_typeIs hit) KBw.entry_next ?_ (KBw.args_next _)))
  show wpAny _ _ (field (.ref it) 0 >>= _) _ _ s
  refine wpAny_bind (wpAny_field ho hd (x := .bytes b t) rfl ?_)
  show wpAny _ _ (if (Value.bytes b t == Value.none) = true then _ else _) _ _ s
  rw [if_neg (show ¬ ((Value.bytes b t == Value.none) = true) from Bool.false_ne_true)]
  show wpAny _ _ (field (.ref it) 1 >>= _) _ _ s
  refine wpAny_bind (wpAny_field ho hd (x := .int i 0) rfl ?_)
  refine wpAny_bind (wpAny_of_eq (a := b) rfl ?_)
  simp only [Int.toNat_natCast, hx]
  refine wpAny_bind (wpAny_setField ho hd (by simp) (wpAny_bind (wpAny_mkInt (wpAny_pure ⟨_, rfl, wpAny_pure (hQ _ ?_ (Heap.SameBut.update ..))⟩))))
  exact ⟨_, Heap.get?_update_self _ ho (Obj.isFreed_of_fields (Obj.data_mapFields hd _)), (Obj.cls_mapFields ..).trans hc, by
    rw [Obj.data_mapFields hd]; simp [rawInt]⟩

theorem nextOf_bytes_end {it : Addr} {b : Array UInt8} {t : Tok} {i : Nat} {Q : Value → Shared → Prop} (hh : A.handled = none) (hit : KBw.IsBytesIter s.heap it b t i) (hx : b[i]? = none)
    (hE : ∀ h' e, Heap.ExtBut it s.heap h' → (∃ o, h'.get? e = some o ∧ o.cls = .type "StopIteration") → E (.ref e) { s with heap := h' }) :
    wpAny (model prog w) A (Builtin.SmallTypes.nextOf (.ref it)) Q E s := by
  obtain ⟨o, ho, hc, hd⟩ := id hit
  unfold Builtin.SmallTypes.nextOf
  refine wpAny_bind (wpAny_callSpecial?_slot (name := Str.ofString "__next__") (KBw.iter_typeIs hit) KBw.slot_next
    (wpAny_call_entry KBw.slot_next (KBw.iter_typeIs hit) KBw.entry_next ?_ (KBw.args_next _)))
  show wpAny _ _ (field (.ref it) 0 >>= _) _ _ s
  refine wpAny_bind (wpAny_field ho hd (x := .bytes b t) rfl ?_)
  show wpAny _ _ (if (Value.bytes b t == Value.none) = true then _ else _) _ _ s
  rw [if_neg (show ¬ ((Value.bytes b t == Value.none) = true) from Bool.false_ne_true)]
  show wpAny _ _ (field (.ref it) 1 >>= _) _ _ s
  refine wpAny_bind (wpAny_field ho hd (x := .int i 0) rfl ?_)
  refine wpAny_bind (wpAny_of_eq (a := b) rfl ?_)
  simp only [Int.toNat_natCast, hx]
  refine wpAny_bind (wpAny_rule (wpAny_bind (wpAny_setField ho hd (by simp) ?_)))
  show wpAny _ _ (newExc (.type "StopIteration") [] >>= _) _ _ _
  refine wpAny_bind ?_
  simp only [newExc, newTuple]
  refine wpAny_bind (wpAny_newObj_type ?_ (by size_fits))
  refine wpAny_bind (m := firstArgMember _ _) (wpAny_of_eq (a := Value.none) (by first | rfl | (simp only [firstArgMember]; rfl)) ?_)
  refine wpAny_newObj_type ?_ (by size_fits)
  simp only [raiseNew]
  refine wpAny_bind (wpAny_handled ?_)
  first | rw [show A.in1.handled = none from hh] | rw [hh]
  refine wpAny_bind (wpAny_pure (wpAny_throw ?_))
  exact hE _ _ (((Heap.SameBut.update ..).extBut.push _).push _) ⟨_, Heap.get?_push_size _ rfl, rfl⟩

theorem IsBytesIter_at {h h' : Heap} {a : Addr} {b : Array UInt8} {t : Tok} {i : Nat} (y : KBw.IsBytesIter h a b t i) (hk : ∀ o, h.get? a = some o → h'.get? a = some o) : KBw.IsBytesIter h' a b t i :=
  let ⟨o, ho, r⟩ := y; ⟨o, hk o ho, r⟩

theorem drawsBytes {prog : Program} {w : World} {A : Around} (hh : A.handled = none) (it : Addr) (b : Array UInt8) (t : Tok) :
    Draws prog w A it [it] b.size (fun i v => ∃ c u, b[i]? = some c ∧ v = .int (c.toNat : Int) u) (fun i h => KBw.IsBytesIter h it b t i) where
  live := fun _ _ st => let ⟨o, ho, _⟩ := st; ⟨o, ho⟩
  frame := fun _ _ _ st hk => IsBytesIter_at st fun o e => hk it (by simp) o e
  item := fun i s Q E hi st hQ => nextOf_bytes_item st (c := b[i]) (by simp [hi]) fun h' hit' hs' => hQ _ h' (s.toks + 1) ⟨_, _, by simp [hi], rfl⟩ hit' hs'
  done := fun s Q E st hE => nextOf_bytes_end hh st (by simp) hE

set_option maxHeartbeats 1000000 in
theorem meets_enum_newB (b : Array UInt8) (t : Tok) :
    Meets (Builtin.«enumerate.__new__» ⟨[.type "enumerate", .bytes b t], []⟩) (fun _ R s =>
      R (.ok (.ret (.ref (s.heap.push { cls := .type "bytes_iterator", data := .fields #[.bytes b t, .int 0 0] }).objs.size)))
        { s with heap := (s.heap.push { cls := .type "bytes_iterator", data := .fields #[.bytes b t, .int 0 0] }).push { cls := .type "enumerate", data := .fields #[.none, .bool false, .ref s.heap.objs.size, rawInt 0, .none, .none] } }) :=
  .of_wp fun prog w A R s h => by
    obtain ⟨hp, g, d, tk, os⟩ := s
    have hsub := sub_enumerate
    wp_walk
    refine wpAny_stack_any fun st => wpAny_pure ?_
    split
    · rename_i c _ _ _ _ _
      cases (c == Value.type "enumerate")
      · wp_walk using KBw.pyIter_bytes
        exact ⟨_, rfl, h⟩
      · wp_walk using KBw.pyIter_bytes
        exact ⟨_, rfl, h⟩
    · wp_walk using KBw.pyIter_bytes
      exact ⟨_, rfl, h⟩

theorem call_enum_bytes {b : Array UInt8} {t : Tok} {Q : Value → Shared → Prop}
    (h : ∀ h', IsEnum h' (s.heap.objs.size + 1) s.heap.objs.size 0 .none → KBw.IsBytesIter h' s.heap.objs.size b t 0 → h'.objs.size = s.heap.objs.size + 2 →
      (∀ b o, s.heap.get? b = some o → h'.get? b = some o) → Q (.ref (s.heap.objs.size + 1)) { s with heap := h' }) :
    wpAny (model prog w) A (call (.type "enumerate") [.bytes b t]) Q E s := by
  refine callType_new F.called_enumerate (by decide) (F.typeCall_enumerate_1 _) (F.newCall_enumerate_1 _) (fun obj => F.args_object_init_2 obj _) F.entry_enumerate_new
    (meets_enum_newB b t) ?_
  have hz : (s.heap.push { cls := .type "bytes_iterator", data := .fields #[.bytes b t, .int 0 0] }).objs.size = s.heap.objs.size + 1 := Heap.size_push ..
  show _ ∧ _
  rw [hz]
  have he : IsEnum ((s.heap.push { cls := .type "bytes_iterator", data := .fields #[.bytes b t, .int 0 0] }).push
      { cls := .type "enumerate", data := .fields #[.none, .bool false, .ref s.heap.objs.size, rawInt 0, .none, .none] }) (s.heap.objs.size + 1) s.heap.objs.size 0 .none := by
    have := Heap.get?_push_size (s.heap.push { cls := .type "bytes_iterator", data := .fields #[.bytes b t, .int 0 0] })
      (o := { cls := .type "enumerate", data := .fields #[.none, .bool false, .ref s.heap.objs.size, rawInt 0, .none, .none] }) rfl
    rw [hz] at this; exact this
  refine ⟨⟨_, he, rfl⟩, h _ he ⟨_, Heap.get?_push_of_some _ (Heap.get?_push_size _ rfl), rfl, rfl⟩ (by rw [Heap.size_push, hz]) fun b o y => Heap.get?_push_of_some _ (Heap.get?_push_of_some _ y)⟩
end

/-- a dict that maps each of the first i keys to its place -/
def DInv (ks : List Int) (i : Nat) (kvs : List (Int × Value)) : Prop :=
  kvs.length ≤ i ∧ (∀ j, j < i → ∃ t, valueAt kvs (ks.getD j 0) = some (.int (j : Int) t)) ∧ ∀ k, k ∉ ks.take i → valueAt kvs k = none
theorem DInv.zero (ks : List Int) : DInv ks 0 [] := ⟨Nat.le_refl _, fun _ h => absurd h (Nat.not_lt_zero _), fun _ _ => rfl⟩
theorem valueAt_app (kvs : List (Int × Value)) (k k' : Int) (v : Value) : valueAt (kvs ++ [(k, v)]) k' = (valueAt kvs k').or (if k = k' then some v else none) := by
  unfold valueAt
  rw [List.find?_append]
  cases h : kvs.find? (fun kv => kv.1 = k') with
  | some x => simp
  | none =>
    by_cases e : k = k'
    · simp [e]
    · simp [e]
theorem DInv.succ {ks : List Int} {i : Nat} {kvs : List (Int × Value)} {t : Tok} (h : DInv ks i kvs) (hnd : ks.Nodup) (hi : i < ks.length) : DInv ks (i + 1) (stored kvs (ks.getD i 0) (.int (i : Int) t)) := by
  obtain ⟨h1, h2, h3⟩ := h
  have hg : ks.getD i 0 = ks[i] := by simp [List.getD_eq_getElem?_getD, hi]
  have hnot : ks[i] ∉ ks.take i := by
    intro hm
    obtain ⟨j, hj, e⟩ := List.mem_iff_getElem.mp hm
    rw [List.length_take] at hj
    rw [List.getElem_take] at e
    have := (List.getElem_inj hnd).mp e
    omega
  have hnone : valueAt kvs ks[i] = none := h3 _ hnot
  rw [hg, stored_absent hnone]
  refine ⟨by rw [List.length_append]; simp; exact h1, fun j hj => ?_, fun k hk => ?_⟩
  · rw [valueAt_app]
    by_cases e : j < i
    · obtain ⟨u, hu⟩ := h2 j e
      exact ⟨u, by rw [hu]; rfl⟩
    · have ej : j = i := by omega
      subst ej
      exact ⟨t, by rw [hg, hnone, if_pos rfl]; rfl⟩
  · rw [List.take_add_one, List.getElem?_eq_getElem hi] at hk
    have hk1 : k ∉ ks.take i := fun h => hk (List.mem_append_left _ h)
    have hk2 : ks[i] ≠ k := fun h => hk (List.mem_append_right _ (by simp [h]))
    rw [valueAt_app, h3 _ hk1, if_neg hk2]; rfl
end Fe38
theorem Fe38.restFJ : True := by
  w_top off
  trivial
namespace Fe38

section
open PySem.Calls
variable {prog : Program} {w : World} {A : Around} {E : Value → Shared → Prop} {R : Result → Shared → Prop} {s : Shared}

theorem compLoop_enumD {iter : Expr} {xa xb : Str} {pa pb pt pk pv pos : Pos} {kt : Nat} {scope : Scope} {I D : Addr} {fp wr : List Addr} {n : Nat} {Pt : Nat → Array Value → Prop} {St : Nat → Heap → Prop} {Mid : Nat → Addr → Heap → Prop}
    {cenv : Env} {m : Str → Option Value} {ks : List Int} (hh : A.handled = none) (W : WalksU prog w A I fp wr n Pt St Mid) (hPt : ∀ i vals, Pt i vals → ∃ t u, vals = #[.int (i : Int) t, .int (ks.getD i 0) u]) (hnd : ks.Nodup) (hn : n = ks.length) (hsz : n ≤ sizeLine)
    (hab : xa ≠ xb) (hxa : cenv.kindOf xa = some .local) (hxb : cenv.kindOf xb = some .local) (hkf : cenv.scope.kind = .function) (hp : (cenv.scope.kind == .class || (cenv.scope.kind == .module && cenv.locals != cenv.globals)) = false)
    (hda : (xa == ("__debug__" : Str)) = false) (hdb : (xb == ("__debug__" : Str)) = false)
    (hDC : D ≠ cenv.locals) (hDf : D ∉ fp) (hCf : cenv.locals ∉ fp) (hst : St 0 s.heap) (hacc : s.heap.DictOf (intKind prog w) D []) (hns : s.heap.Ns cenv.locals m)
    (hR : ∀ h' tk m' kvs, h'.Ns cenv.locals m' → h'.DictOf (intKind prog w) D kvs → DInv ks n kvs → (∀ b o, b ≠ cenv.locals → b ∉ wr → b ≠ D → s.heap.get? b = some o → h'.get? b = some o) → R (.ok .next) { s with heap := h', toks := tk }) :
    codeAny (model prog w) A (.compLoop (.DictComp (.Name xb pk) (.Name xa pv) [⟨.Tuple [.Name xa pa, .Name xb pb] kt pt, iter, [], 0⟩] scope pos) 0 (.ref I) (.ref D) cenv) R s := by
  have hCw : cenv.locals ∉ wr := fun h => hCf (W.sub _ h)
  have hDw : D ∉ wr := fun h => hDf (W.sub _ h)
  refine codeAny_loop rfl (fun k s' => ∃ h' tk m' kvs i, s' = { s with heap := h', toks := tk } ∧ St i h' ∧ h'.DictOf (intKind prog w) D kvs ∧ h'.Ns cenv.locals m' ∧ DInv ks i kvs ∧ i ≤ n ∧ k = n + 1 - i ∧
      ∀ b o, b ≠ cenv.locals → b ∉ wr → b ≠ D → s.heap.get? b = some o → h'.get? b = some o) ?_ (n + 1)
    ⟨s.heap, s.toks, m, [], 0, rfl, hst, hacc, hns, DInv.zero ks, Nat.zero_le _, rfl, fun _ _ _ _ _ e => e⟩
  rintro k s' ⟨H, tk, m', kvs, i, rfl, hst', hacc', hn', hD, hi, rfl, hk⟩
  show wpAny _ A ((compTurn (.DictComp (.Name xb pk) (.Name xa pv) [⟨.Tuple [.Name xa pa, .Name xb pb] kt pt, iter, [], 0⟩] scope pos) 0 (.ref I) (.ref D) cenv).onRaise (fun x => do noteFrame x cenv; theTreesLotGoes x)) _ _ _
  refine wpAny_noted ?_
  rw [compTurn_dict]
  refine wpAny_bind (wpAny_standAt (wpAny_bind ?_))
  by_cases hlt : i < n
  · refine W.item i _ _ _ hlt hst' fun T vals h₁ tk₁ hPv hT₁ hmid hk₁ => ?_
    obtain ⟨t, u, rfl⟩ := hPt i vals hPv
    dsimp only
    refine wpAny_bind (W.go _ _ _ i T _ _ _ hmid fun h₁' hst₁ hk₁' => ?_)
    have hT₁' : h₁'.IsTuple T #[.int (i : Int) t, .int (ks.getD i 0) u] := let ⟨o, e, r⟩ := hT₁; ⟨o, hk₁' _ o (W.apart i T _ hmid) e, r⟩
    refine wpAny_bind (wpAny_assign_Tuple hh hT₁' rfl rfl fun h₁'' hx₁ => ?_)
    replace hx₁ : Heap.ExtBut h₁'.objs.size h₁' h₁'' := hx₁
    have old₁ : ∀ b o, h₁'.get? b = some o → h₁''.get? b = some o := fun b o e => hx₁ b o (Nat.ne_of_lt (Heap.lt_size e)) e
    show wpAny _ _ (do holding [Value.int (ks.getD i 0) u] (assign (.Name xa pa) cenv (.int (i : Int) t)); do holding [] (assign (.Name xb pb) cenv (.int (ks.getD i 0) u)); pure ()) _ _ _
    refine wpAny_bind (wpAny_holding (wpAny_assign_Name (wpAny_storeName_local hxa (hn'.at' fun o e => old₁ _ o (hk₁' _ o hCw (hk₁ _ o hCw e))) (fun h₂a hn₂a hs₂a => ?_) hp)))
    replace hs₂a : Heap.SameBut cenv.locals h₁'' h₂a := hs₂a
    refine wpAny_bind (wpAny_holding (wpAny_assign_Name (wpAny_storeName_local hxb hn₂a (fun h₂ hn₂ hs₂ => wpAny_pure ?_) hp)))
    replace hs₂ : Heap.SameBut cenv.locals h₂a h₂ := hs₂
    have up₂ : ∀ b o, b ≠ cenv.locals → b ∉ wr → H.get? b = some o → h₂.get? b = some o := fun b o hbC hbw e => hs₂.extBut b o hbC (hs₂a.extBut b o hbC (old₁ b o (hk₁' b o hbw (hk₁ b o hbw e))))
    have hst₂ : St (i + 1) h₂ := W.frame _ _ _ hst₁ fun b hb o e => hs₂.extBut b o (fun h => hCf (h ▸ hb)) (hs₂a.extBut b o (fun h => hCf (h ▸ hb)) (old₁ b o e))
    have hacc₂ : h₂.DictOf (intKind prog w) D kvs := hacc'.at fun o e => up₂ D o hDC hDw e
    simp only [List.forIn_nil]
    refine wpAny_bind (wpAny_pure ?_)
    simp only [if_true]
    refine wpAny_bind (wpAny_bind (wpAny_Name (wpAny_loadName_local hkf hxb hn₂ (if_pos rfl) ?_) hdb))
    refine wpAny_bind (wpAny_holding (wpAny_Name (wpAny_loadName_local (v := .int (i : Int) t) hkf hxa hn₂ (by simp [hab]) ?_) hda))
    refine wpAny_bind (wpAny_standAt (wpAny_holding ?_))
    have hkv : kvs.length ≤ sizeLine := by
      have := hD.1
      omega
    refine wpAny_dictSet_pairs (hsz := hkv) (intKind_is prog w (ks.getD i 0) u) hacc₂ fun h₆ hl₆ hs₆ => wpAny_pure ⟨rfl, ?_⟩
    refine ⟨n + 1 - (i + 1), by omega, h₆, _, _, stored kvs (ks.getD i 0) (.int (i : Int) t), i + 1, rfl, ?_, hl₆, hn₂.sameBut hs₆ (Ne.symm hDC), hD.succ hnd (hn ▸ hlt), hlt, rfl, fun b o hbC hbw hbD e => hs₆.extBut b o hbD (up₂ b o hbC hbw (hk b o hbC hbw hbD e))⟩
    exact W.frame _ _ h₆ hst₂ fun b hb o e => hs₆.extBut b o (fun h => hDf (h ▸ hb)) e
  · have hin : i = n := by omega
    subst hin
    refine W.done _ _ _ hst' fun h₁ tk₁ hk₁ => wpAny_pure ?_
    exact hR h₁ tk₁ m' kvs (hn'.at' fun o e => hk₁ _ o hCw e) (hacc'.at fun o e => hk₁ _ o hDw e) hD fun b o hbC hbw hbD e => hk₁ b o hbw (hk b o hbC hbw hbD e)

/-- what enumerate(bytes) hands to the comprehension -/
def EnumPost (ks : List Int) (h₀ : Heap) (L : Addr) (m : Str → Option Value) (news : List (Addr × Obj)) (Q : Value → Shared → Prop) (xv : Value) (s₁ : Shared) : Prop :=
  ∃ e it b t, xv = .ref e ∧ KBw.bInts b = ks ∧ IsEnum s₁.heap e it 0 .none ∧ KBw.IsBytesIter s₁.heap it b t 0 ∧ e ≠ it ∧ Fr h₀ L s₁.heap m ∧ News h₀ L s₁.heap news ∧ (∀ p ∈ news, p.1 ≠ e ∧ p.1 ≠ it) ∧ (h₀.get? e = none ∧ h₀.get? it = none) ∧ (L ≠ e ∧ L ≠ it) ∧
    ∀ D h' tk o kvs, Fr h₀ L h' m → News h₀ L h' ((D, o) :: news) → (∀ p ∈ news, p.1 < D) → o.IsDictOf (intKind prog w) kvs → DInv ks ks.length kvs → Q (.ref D) { s₁ with heap := h', toks := tk }
end
end Fe38
theorem Fe38.restFK : True := by
  w_top off
  trivial
namespace Fe38

section
open PySem.Calls
variable {prog : Program} {w : World} {A : Around} {E : Value → Shared → Prop} {s : Shared} {env : Env} {h₀ : Heap} {m : Str → Option Value} {news : List (Addr × Obj)}

theorem dictComp_enum {iter : Expr} {xa xb : Str} {pa pb pt pk pv pos : Pos} {kt : Nat} {scope : Scope} {ks : List Int} {Q : Value → Shared → Prop} (_F : Fr h₀ env.locals s.heap m) (_N : News h₀ env.locals s.heap news) (hh : A.handled = none) (hnd : ks.Nodup) (hsz : ks.length ≤ sizeLine)
    (hclos : closureFor scope env = pure []) (hcell : ∀ y ∈ scope.names, y.2 ≠ .cell) (hkind : scope.kind = .function)
    (hnames : ∀ y ∈ scope.names, y.2 = .local → scope.names.lookup y.1 = some .local) (hab : xa ≠ xb) (hxa : scope.names.lookup xa = some .local) (hxb : scope.names.lookup xb = some .local)
    (hda : (xa == ("__debug__" : Str)) = false) (hdb : (xb == ("__debug__" : Str)) = false)
    (h : wpAny (model prog w) A (eval iter env) (EnumPost (prog := prog) (w := w) ks h₀ env.locals m news Q) E s)
    (hs : ∀ x, foldedSetIterable iter env x = pure x) :
    wpAny (model prog w) A (eval (.DictComp (.Name xb pk) (.Name xa pv) [⟨.Tuple [.Name xa pa, .Name xb pb] kt pt, iter, [], 0⟩] scope pos) env) Q E s := by
  rw [arm_eval_DictComp]
  refine wpAny_comprehension_free (use := none) rfl hs hclos hkind hnames (wpAny_mono h (fun xv s₁ h₁ => ?_) fun _ _ e => e)
  obtain ⟨e, it, b, t, rfl, hb, he, hit, hei, F, N, hoff, hh0, hL, hQ⟩ := h₁
  have W := (WalksT.enumerateD (A := A) (drawsBytes (prog := prog) (w := w) (A := A.in1) hh it b t) e hei (by simp [hei]) (by simp)).toU
  refine wpAny_pyIter_enum he ?_
  refine wpAny_newObj_type (wpAny_newFunctionEnv hcell (by intro y hy; simp at hy) (fun h₁ hns₁ hsb₁ => ?_) hkind)
  dsimp only at hns₁ hsb₁ ⊢
  have hnew : (s₁.heap.push { cls := .type "dict", dict := none, data := .dict #[] }).DictOf (intKind prog w) s₁.heap.objs.size [] := Heap.DictOf.new s₁.heap
  generalize hH2 : s₁.heap.push { cls := .type "dict", dict := none, data := .dict #[] } = H2 at hns₁ hsb₁ hnew ⊢
  have hC : H2.objs.size = s₁.heap.objs.size + 1 := by rw [← hH2, Heap.size_push]
  have hDC : s₁.heap.objs.size ≠ H2.objs.size := by rw [hC]; exact Nat.ne_of_lt (Nat.lt_succ_self _)
  have below : ∀ b, b < s₁.heap.objs.size → b ≠ H2.objs.size ∧ b ≠ s₁.heap.objs.size := fun b hb => ⟨by rw [hC]; exact Nat.ne_of_lt (Nat.lt_succ_of_lt hb), Nat.ne_of_lt hb⟩
  have hfp : ∀ b ∈ [e, it], b < s₁.heap.objs.size := fun b hb => by
    rcases List.mem_cons.mp hb with rfl | hb
    · exact Heap.lt_size he
    · rw [List.mem_singleton.mp hb]
      obtain ⟨o, ho, _⟩ := hit
      exact Heap.lt_size ho
  have hDf : s₁.heap.objs.size ∉ [e, it] := fun hm => Nat.lt_irrefl _ (hfp _ hm)
  have hCf : H2.objs.size ∉ [e, it] := fun hm => by have := hfp _ hm; rw [hC] at this; exact Nat.lt_irrefl _ (Nat.lt_of_succ_lt this)
  have old : ∀ b o, s₁.heap.get? b = some o → h₁.get? b = some o := fun b o e => hsb₁.extBut b o (below b (Heap.lt_size e)).1 (Heap.get?_push_of_some _ (hH2 ▸ Heap.get?_push_of_some _ e))
  have hacc : h₁.DictOf (intKind prog w) s₁.heap.objs.size [] := hnew.at fun o e => hsb₁.extBut _ _ hDC (Heap.get?_push_of_some _ e)
  have hst₁ : (∃ old, IsEnum h₁ e it ((0 : Nat) : Int) old) ∧ KBw.IsBytesIter h₁ it b t 0 := ⟨⟨_, old _ _ he⟩, IsBytesIter_at hit fun o e => old _ o e⟩
  have hbs : b.size = ks.length := by rw [← KBw.ints_length, hb]
  have loop : ∀ s₃ : Shared, s₃ = { s₁ with heap := h₁, toks := s₁.toks + ([] : List (Str × Value)).length } →
      codeAny (model prog w) A (.compLoop (.DictComp (.Name xb pk) (.Name xa pv) [⟨.Tuple [.Name xa pa, .Name xb pb] kt pt, iter, [], 0⟩] scope pos) 0 (.ref e) (.ref s₁.heap.objs.size) (compEnvC scope [] H2.objs.size env))
        (compPost (model prog w) A E none Q (.ref s₁.heap.objs.size) H2.objs.size) s₃ := by
    rintro s₃ rfl
    refine compLoop_enumD (cenv := compEnvC scope [] H2.objs.size env) hh W ?_ hnd hbs (hbs ▸ hsz) hab (lookup_relabel_local hxa) (lookup_relabel_local hxb) (by simp [compEnvC, relabel, hkind]) (by simp [compEnvC, relabel, hkind]) hda hdb hDC hDf hCf hst₁ hacc hns₁ ?_
    · rintro i vals ⟨u, x, ⟨c, v, hc, rfl⟩, rfl⟩
      refine ⟨u, v, ?_⟩
      have := KBw.ints_get hc
      rw [hb] at this
      rw [List.getD_eq_getElem?_getD, this]
      rfl
    · intro h' tk m' kvs hn hd hinv hk
      refine ⟨m', hn, fun h'' hs'' => ?_⟩
      have hd'' := hd.at fun o e => hs''.extBut _ o hDC e
      obtain ⟨o, ho, hdo⟩ := Heap.dictOf_iff.mp hd''
      have up : ∀ a o, a ∉ [e, it] → s₁.heap.get? a = some o → h''.get? a = some o := fun a o ha e => hs''.extBut a o (below a (Heap.lt_size e)).1 (hk a o (below a (Heap.lt_size e)).1 ha (below a (Heap.lt_size e)).2 (old a o e))
      have hLs : env.locals < s₁.heap.objs.size := F.ns.lt
      have hLf : env.locals ∉ [e, it] := fun hm => by
        rcases List.mem_cons.mp hm with q | hm
        · exact hL.1 q
        · exact hL.2 (List.mem_singleton.mp hm)
      have hfr : h₀.get? s₁.heap.objs.size = none := by
        cases q : h₀.get? s₁.heap.objs.size with
        | none => rfl
        | some o' => exact absurd (Heap.lt_size (F.keep _ _ q)) (Nat.lt_irrefl _)
      refine hQ _ h'' tk o kvs ⟨F.ns.at' fun o e => up _ o hLf e, fun a o q => up a o ?_ (F.keep a o q), F.above⟩ ?_ (fun p hp => Heap.lt_size (N p hp).1) hdo (hbs ▸ hinv)
      · intro hm
        rcases List.mem_cons.mp hm with r | hm
        · rw [r, hh0.1] at q; cases q
        · rw [List.mem_singleton.mp hm, hh0.2] at q; cases q
      · intro p hp
        rcases List.mem_cons.mp hp with rfl | hp
        · exact ⟨ho, Nat.ne_of_gt hLs, hfr⟩
        · refine ⟨up _ _ ?_ (N p hp).1, (N p hp).2.1, (N p hp).2.2⟩
          intro hm
          rcases List.mem_cons.mp hm with r | hm
          · exact (hoff p hp).1 r
          · exact (hoff p hp).2 (List.mem_singleton.mp hm)
  exact codeAny_compStart_dict (loop _ rfl) (wpAny_pyIter_enum (old _ _ he) (loop _ rfl))

theorem enum_post {ks : List Int} {b : Array UInt8} {t : Tok} {Q : Value → Shared → Prop} {L : Addr} (hb : KBw.bInts b = ks) (F : Fr h₀ L s.heap m) (N : News h₀ L s.heap news)
    (hQ : ∀ D h' tk o kvs, Fr h₀ L h' m → News h₀ L h' ((D, o) :: news) → (∀ p ∈ news, p.1 < D) → o.IsDictOf (intKind prog w) kvs → DInv ks ks.length kvs → Q (.ref D) { s with heap := h', toks := tk }) :
    wpAny (model prog w) A (call (.type "enumerate") [.bytes b t]) (EnumPost (prog := prog) (w := w) ks h₀ L m news Q) E s := by
  refine call_enum_bytes fun h' he hit hsz hk => ?_
  have hLs : L < s.heap.objs.size := F.ns.lt
  have hab : h₀.objs.size ≤ L := F.above
  have F' : Fr h₀ L h' m := ⟨F.ns.keeps hk, fun b o e => hk b o (F.keep b o e), F.above⟩
  have N' : News h₀ L h' news := fun p hp => ⟨hk _ _ (N p hp).1, (N p hp).2⟩
  refine ⟨_, _, b, t, rfl, hb, he, hit, Nat.succ_ne_self _, F', N', fun p hp => ?_, ⟨Heap.get?_none_of_le (Nat.le_trans hab (Nat.le_of_lt (Nat.lt_succ_of_lt hLs))), Heap.get?_none_of_le (Nat.le_trans hab (Nat.le_of_lt hLs))⟩, ⟨Nat.ne_of_lt (Nat.lt_succ_of_lt hLs), Nat.ne_of_lt hLs⟩, fun D h2 tk o kvs F2 N2 l2 hd hi => hQ D h2 tk o kvs F2 N2 l2 hd hi⟩
  have hp1 : p.1 < s.heap.objs.size := Heap.lt_size (N p hp).1
  exact ⟨Nat.ne_of_lt (Nat.lt_succ_of_lt hp1), Nat.ne_of_lt hp1⟩
end
end Fe38
theorem Fe38.restFL : True := by
  w_top off
  trivial
namespace Fe38
section
variable {prog : Program} {w : World} {dp un : Nat} {gd : Option (List Code)} {cn : Str} {cs : Scope} {a : Addr} {ccd : Value} {cl : List (Str × Addr)} {outer : List Env} {A₀ : Around} {base h₀ : Heap} {L : Addr} {m : Str → Option Value} {news : List (Addr × Obj)} {s : Shared} {Q E : Value → Shared → Prop} {mean : ExcName → Option Value} {mg mb : Str → Option Value}
theorem ltOfAnd {d x : Addr} {l : List (Addr × Obj)} (h : x < d ∧ AllLt d l) : ∀ p ∈ l, p.1 < d := kst_ltOf h.2
theorem sysOfAnd {d x : Nat} {P : Prop} (h : @LT.lt Nat _ (x + 1) d ∧ P) : ((d : Addr) == sysModules) = false := by
  have h1 : d ≠ 1 := by
    have := h.1
    omega
  show (d == 1) = false
  exact beq_eq_false_iff_ne.mpr h1
section
local macro_rules | `(tactic| walk_at "pad 0") => `(tactic| fail)
local macro_rules | `(tactic| walk_at "pad 1") => `(tactic| fail)
local macro_rules | `(tactic| walk_at "pad 2") => `(tactic| fail)
local macro_rules | `(tactic| walk_at "pad 3") => `(tactic| fail)
local macro_rules | `(tactic| walk_at "pad 4") => `(tactic| fail)
local macro_rules | `(tactic| walk_at "pad 5") => `(tactic| fail)
local macro_rules | `(tactic| walk_at "pad 6") => `(tactic| fail)
local macro_rules | `(tactic| walk_at "pad 7") => `(tactic| fail)
local macro_rules | `(tactic| walk_at "pad 8") => `(tactic| fail)
local macro_rules | `(tactic| walk_at "pad 9") => `(tactic| fail)
local macro_rules | `(tactic| walk_at "pad 10") => `(tactic| fail)
local macro_rules | `(tactic| walk_at "pad 11") => `(tactic| fail)
local macro_rules | `(tactic| walk_at "pad 12") => `(tactic| fail)
local macro_rules | `(tactic| walk_at "pad 13") => `(tactic| fail)
local macro_rules | `(tactic| walk_at "pad 14") => `(tactic| fail)
local macro_rules | `(tactic| walk_at "pad 15") => `(tactic| fail)
local macro_rules | `(tactic| walk_at "pad 16") => `(tactic| fail)
local macro_rules | `(tactic| walk_at "pad 17") => `(tactic| fail)
local macro_rules | `(tactic| walk_at "pad 18") => `(tactic| fail)
local macro_rules | `(tactic| walk_at "pad 19") => `(tactic| fail)
local macro_rules | `(tactic| walk_at "pad 20") => `(tactic| fail)
local macro_rules | `(tactic| walk_at "pad 21") => `(tactic| fail)
local macro_rules | `(tactic| walk_at "pad 22") => `(tactic| fail)
local macro_rules | `(tactic| walk_at "pad 23") => `(tactic| fail)
local macro_rules | `(tactic| walk_at "pad 24") => `(tactic| fail)
local macro_rules | `(tactic| walk_at "pad 25") => `(tactic| fail)
local macro_rules | `(tactic| walk_at "pad 26") => `(tactic| fail)
local macro_rules | `(tactic| walk_at "pad 27") => `(tactic| fail)
local macro_rules | `(tactic| walk_at "pad 28") => `(tactic| fail)
local macro_rules | `(tactic| walk_at "pad 29") => `(tactic| fail)
local macro_rules | `(tactic| walk_at "pad 30") => `(tactic| fail)
local macro_rules | `(tactic| walk_at "pad 31") => `(tactic| fail)
local macro_rules | `(tactic| walk_at "pad 32") => `(tactic| fail)
local macro_rules | `(tactic| walk_at "pad 33") => `(tactic| fail)
local macro_rules | `(tactic| walk_at "pad 34") => `(tactic| fail)
local macro_rules | `(tactic| walk_at "pad 35") => `(tactic| fail)
local macro_rules | `(tactic| walk_at "pad 36") => `(tactic| fail)
local macro_rules | `(tactic| walk_at "pad 37") => `(tactic| fail)
local macro_rules | `(tactic| walk_at "pad 38") => `(tactic| fail)
local macro_rules | `(tactic| walk_at "pad 39") => `(tactic| fail)
local macro_rules | `(tactic| walk_at "eval DictComp") => `(tactic| (k_here; (rename Fr _ _ _ _ => F8); (rename News _ _ _ _ => N8); k_dflt (refine' dictComp_enum F8 N8 ?dh ?dn ?dz ?dc ?dl ?dk ?dm ?da ?db ?de ?df ?dg ?_ ?ds; (case dh => exact rfl); (case dn => assumption); (case dz => (rw [sizeLine_eq]; omega)); (case dc => exact rfl); (case dl => decide); (case dk => exact rfl); (case dm => decide); (case da => decide); (case db => exact rfl); (case de => exact rfl); (case df => decide); (case dg => decide); (case ds => (intro _; exact rfl)))))
local macro_rules | `(tactic| walk_at "call type:enumerate") => `(tactic| (k_here; k_dflt (refine' enum_post ?dh ?dF ?dN ?_; (case dh => assumption); (case dF => k_asm); (case dN => k_asm)); intro D9 h9 tk9 o9 kvs9 F9 N9 l9 hd9 hi9; (try k_lt l9)))
set_option maxRecDepth 100000 in
set_option maxHeartbeats 8000000 in
theorem c_map {bs : Array UInt8} {ks : List Int} {tk1 : Tok}
    (B : Below A₀ base outer h₀) (F : Fr h₀ L s.heap m) (X : (hd.heap_39 w.params).In h₀) (N : News h₀ L s.heap news) (T : Top PP LO mean mg mb h₀) (hk : cs.kind = .function)
    (hb : KBw.bInts bs = ks) (hnd : ks.Nodup) (hn1 : ks.length ≤ 61)
    (hd : dp + 2 < recursionLimit) (hu : un + 20 < cLine)
    (hret : ∀ (D : Addr) (o : Obj) (kvs : List (Int × Value)) h' tk', Fr h₀ L h' m → News h₀ L h' ((D, o) :: news) → o.IsDictOf (intKind prog w) kvs → DInv ks ks.length kvs → (∀ p ∈ news, p.1 < D) → (D == sysModules) = false → Q (.ref D) { s with heap := h', toks := tk' }) :
    wpAny (model prog w) (ktrTop dp un gd cn cs L a ccd cl outer) (call (.ref 34) [.bytes bs tk1] [(Str.ofString "autofix", .bool false)]) Q E s := by

  refine wpAny_call ?_
  k_dflt (refine' code_defC ?k1 ?k2 ?k3 ?k4 ?k5 ?kA ?kF ?kK ?k6 ?k7 ?k8 ?k9 ?kB ?kD ?_ ?c2 ?c3 ?c4; (case kA => exact rfl); (case kF => exact rfl); (case kK => assumption); (case k1 => k_asm); (case k2 => k_asm); (case k3 => k_asm); (case k4 => k_asm); (case k5 => k_asm); (case k6 => k_is); (case k7 => k_is); (case k8 => ktr_room); (case k9 => first | exact BindsTo.of_eq rfl | exact binds_K (by k_in) rfl (by k_is) rfl rfl rfl); (case kB => exact rfl); (case kD => decide +kernel); (case c2 => exact rfl); (case c3 => exact rfl); (case c4 => exact rfl); k_whole; intro g' L' h' tk' cells' FG' F' N' Y' B' X' T' l1; have hb1 : ∀ p ∈ news, p.1 < L' + 1 := (fun p hp => Nat.lt_succ_of_lt (l1 p hp)); have hb2 : ∀ p ∈ news, p.1 < L' + 1 + 1 := (fun p hp => Nat.lt_succ_of_lt (hb1 p hp)); have kMark : KstMark := kstMark; k_cells Y'; (try simp only [List.cons_append, List.nil_append] at N'); (try dsimp only); (try k_lift B'); (try k_fold))
  k_steps
  refine hret _ _ _ _ _ (by assumption) (newsOf (by assumption) ?_) (by assumption) (by assumption) (ltOfAnd (by assumption)) (sysOfAnd (by assumption))
  exact fun p hp => (List.mem_cons.mp hp).elim (fun e => List.mem_cons.mpr (Or.inl e)) fun h => .tail _ (.tail _ h)
end
end
end Fe38
theorem Fe38.restFI : True := by
  w_top off
  trivial
namespace Fe38

section
open PySem.Calls PySem.Builtin
set_option maxRecDepth 100000
theorem look_bytes_index : typeLookup (.type "bytes") "__index__" = pure none := by rw [typeLookup_type, builtinLookup_eq_fast]; kernel_rfl
theorem slot_bytes_rstrip : Slot "bytes" "rstrip" "bytes.rstrip" :=
  .of (owner := "bytes") (n := "rstrip") (by rw [typeLookup_type, builtinLookup_eq_fast]; kernel_rfl) (by decide +kernel) (by decide +kernel) (by decide +kernel)
    (by first | exact .inl (by decide +kernel) | exact .inr (by decide +kernel)) (by rw [isSubtype_type]; kernel_rfl)
theorem type_bytes_rstrip : typeOf (.builtin "bytes.rstrip") = pure (.type "method_descriptor") := by show builtinType _ = _; rw [builtinType_eq_fast]; kernel_rfl
theorem entry_bytes_rstrip : entryFor table "bytes.rstrip" = some Builtin.«bytes.rstrip» := entryFor_of_tree (by kernel_rfl)
theorem args_bytes_rstrip_1 (a : Value) : argsOk "bytes.rstrip" ⟨[a], []⟩ := by
  unfold argsOk; rw [signature?_of (id := "bytes.rstrip") (n := ['p', 'i', 'r', 't', 's', 'r']) (o := ['s', 'e', 't', 'y', 'b']) (by kernel_rfl) FB.owner_bytes]; kernel_rfl

variable {prog : Program} {w : World} {A : Around} {E : Value → Shared → Prop} {s : Shared} {b c : Array UInt8} {t u : Tok}

theorem asIndex_bytes {Q : Int → Shared → Prop} (hh : A.handled = none) (hE : ∀ h' tk e, Heap.NewExc s.heap h' e "TypeError" → E (.ref e) { s with heap := h', toks := tk }) :
    wpAny (model prog w) A (asIndex (.bytes b t)) Q E s := by
  unfold asIndex
  refine wpAny_bind (wpAny_of_eq (a := none) rfl ?_)
  refine wpAny_bind (wpAny_callSpecial?_none (typeIs_bytes s b t) look_bytes_index ?_)
  refine wpAny_bind (wpAny_of_eq (a := "bytes") (by kernel_rfl) ?_)
  exact wpAny_raiseErrorMade plainExc_TypeError hh hE (by decide +kernel)

theorem contains_bytes {Q : Value → Shared → Prop} (hh : A.handled = none) (h : ∀ h' tk, (∀ a o, s.heap.get? a = some o → h'.get? a = some o) → Q (.bool (Bytes.find? b c 0 b.size).isSome) { s with heap := h', toks := tk }) :
    wpAny (model prog w) A (call (.builtin "bytes.__contains__") [.bytes b t, .bytes c u]) Q E s := by
  refine wpAny_call_entry FB.slot_bytes_contains (typeIs_bytes s b t) FB.entry_bytes_contains ?_ (FB.args_bytes_contains_2 _ _)
  show wpAny _ _ (Bytes.containsIn "bytes.__contains__" (.bytes b t) (.bytes c u) >>= fun r => ret (.bool r)) _ _ s
  unfold Bytes.containsIn
  refine wpAny_bind (wpAny_bind (wpAny_attempt (asIndex_bytes hh fun h' tk e hn => ?_)))
  refine wpAny_bind (wpAny_of_eq KBy.buffer_eq ?_)
  dsimp only
  refine wpAny_bind (wpAny_of_eq KBy.buffer_eq ?_)
  refine wpAny_bind (wpAny_rule (wpAny_pure (wpAny_pure ⟨_, rfl, h h' tk hn.1⟩)))

theorem notIn_bytes {Q : Value → Shared → Prop} (hh : A.handled = none) (h : ∀ h' tk, (∀ a o, s.heap.get? a = some o → h'.get? a = some o) → Q (.bool (!(Bytes.find? b c 0 b.size).isSome)) { s with heap := h', toks := tk }) :
    wpAny (model prog w) A (compareOp .NotIn (.bytes c u) (.bytes b t)) Q E s :=
  NotIn_slot (typeIs_bytes s b t) FB.slot_bytes_contains (contains_bytes hh fun h' tk hk => wpAny_truthy_bool (h h' tk hk))

theorem find_none {k : UInt8} (h : (k.toNat : Int) ∉ KBw.bInts b) : Bytes.find? b #[k] 0 b.size = none := by
  unfold Bytes.find?
  rw [List.find?_eq_none]
  intro i hi he
  rw [beq_iff_eq] at he
  obtain ⟨j, hj, rfl⟩ := List.mem_map.mp hi
  have hj2 := List.mem_range.mp hj
  simp only [List.size_toArray, List.length_singleton] at hj2
  have hlt : j < b.size := by omega
  apply h
  have e0 : (b.extract (j + 0) (j + 0 + 1))[0]? = some k := by
    have := congrArg (fun a : Array UInt8 => a[0]?) he
    simpa using this
  have e1 : b[j]? = some k := by
    rw [Array.getElem?_extract] at e0
    split at e0
    · simpa using e0
    · cases e0
  exact List.mem_of_getElem? (KBw.ints_get e1)

theorem notIn_bytes_none {ks : List Int} {k : UInt8} {Q : Value → Shared → Prop} (hh : A.handled = none) (hb : KBw.bInts b = ks) (hk : (k.toNat : Int) ∉ ks) (h : ∀ h' tk, (∀ a o, s.heap.get? a = some o → h'.get? a = some o) → Q (.bool true) { s with heap := h', toks := tk }) :
    wpAny (model prog w) A (compareOp .NotIn (.bytes #[k] u) (.bytes b t)) Q E s :=
  notIn_bytes hh fun h' tk hk' => by
    rw [find_none (hb ▸ hk)]
    exact h h' tk hk'

def isSp (k : Int) : Bool := k == 32 || (decide (9 ≤ k) && decide (k ≤ 13))
def rstripL (ks : List Int) : List Int := (ks.reverse.dropWhile isSp).reverse
theorem isSp_eq (c : UInt8) : isSp (c.toNat : Int) = Bytes.isSpace c := by
  have h1 : ((c.toNat : Int) == 32) = (c == 32) := by
    rw [Bool.eq_iff_iff, beq_iff_eq, beq_iff_eq, ← UInt8.toNat_inj]
    show (c.toNat : Int) = 32 ↔ c.toNat = 32
    omega
  have h2 : decide ((9 : Int) ≤ (c.toNat : Int)) = decide ((9 : UInt8) ≤ c) := by
    rw [decide_eq_decide, UInt8.le_iff_toNat_le]
    show (9 : Int) ≤ (c.toNat : Int) ↔ 9 ≤ c.toNat
    omega
  have h3 : decide ((c.toNat : Int) ≤ (13 : Int)) = decide (c ≤ (13 : UInt8)) := by
    rw [decide_eq_decide, UInt8.le_iff_toNat_le]
    show (c.toNat : Int) ≤ (13 : Int) ↔ c.toNat ≤ 13
    omega
  unfold isSp Bytes.isSpace
  rw [h1, h2, h3]
theorem dropWhile_ints (l : List UInt8) : (l.map fun c => (c.toNat : Int)).dropWhile isSp = (l.dropWhile Bytes.isSpace).map fun c => (c.toNat : Int) := by
  induction l with
  | nil => rfl
  | cons x r ih =>
    rw [List.map_cons, List.dropWhile_cons, List.dropWhile_cons, isSp_eq]
    split
    · exact ih
    · rfl
theorem rstrip_ints (b : Array UInt8) : rstripL (KBw.bInts b) = ((b.toList.reverse.dropWhile Bytes.isSpace).reverse).map fun c => (c.toNat : Int) := by
  unfold rstripL KBw.bInts
  rw [← List.map_reverse, dropWhile_ints, ← List.map_reverse]

theorem rstrip_bytes {ks : List Int} {Q : Value → Shared → Prop} (hb : KBw.bInts b = ks) (hl : ks.length ≤ 16777216) (h : ∀ c t' tk, KBw.bInts c = rstripL ks → Q (.bytes c t') { s with toks := tk }) :
    wpAny (model prog w) A (call (.builtin "bytes.rstrip") [.bytes b t]) Q E s := by
  subst hb
  refine wpAny_call_entry slot_bytes_rstrip (typeIs_bytes s b t) entry_bytes_rstrip ?_ (args_bytes_rstrip_1 _)
  show wpAny _ _ (if ((b.toList.reverse.dropWhile Bytes.isSpace).reverse.length == b.size) = true then (do rule s!"bytes.rstrip.unchanged"; ret (← Bytes.Kind.bytes.same (.bytes b t))) else (do ret (← Bytes.Kind.bytes.new (b.toList.reverse.dropWhile Bytes.isSpace).reverse.toArray))) _ _ s
  split
  · rename_i he
    refine wpAny_bind (wpAny_rule (wpAny_bind (wpAny_of_eq (a := .bytes b t) rfl (wpAny_pure ⟨_, rfl, h b t s.toks ?_⟩))))
    rw [rstrip_ints]
    have e : (b.toList.reverse.dropWhile Bytes.isSpace).reverse = b.toList := by
      have hs : (b.toList.reverse.dropWhile Bytes.isSpace) <:+ b.toList.reverse := List.dropWhile_suffix _
      have hlen : (b.toList.reverse.dropWhile Bytes.isSpace).length = b.toList.reverse.length := by
        rw [List.length_reverse] at he ⊢
        simpa using he
      rw [hs.eq_of_length hlen, List.reverse_reverse]
    rw [e]
    rfl
  · refine wpAny_bind ?_
    show wpAny _ _ (mkBytes _) _ _ s
    have hsz : ¬ (b.toList.reverse.dropWhile Bytes.isSpace).reverse.toArray.size > sizeLine := by
      have h1 : (b.toList.reverse.dropWhile Bytes.isSpace).length ≤ b.toList.reverse.length := (List.dropWhile_suffix _).length_le
      have h2 := KBw.ints_length b
      rw [List.size_toArray, List.length_reverse, sizeLine_eq]
      rw [List.length_reverse] at h1
      have h3 : b.toList.length = b.size := by simp
      omega
    unfold mkBytes
    rw [if_neg hsz]
    exact wpAny_bind (wpAny_fresh (wpAny_pure (wpAny_pure ⟨_, rfl, h _ _ _ (by rw [rstrip_ints]; rfl)⟩)))

theorem method_rstrip {M : Model} {pl : Sem Bool} {Q : Value × List Value → Shared → Prop} (h : Q (.builtin "bytes.rstrip", [.bytes b t]) s) : wpAny M A (getMethod (.bytes b t) "rstrip" pl) Q E s := by
  with_reducible exact KBd.method_of (.bytes b t) (typeIs_bytes _ _ _) slot_bytes_rstrip type_bytes_rstrip KBd.noRef h
end
end Fe38
theorem Fe38.restFN : True := by
  w_top off
  trivial
namespace Fe38
section
variable {prog : Program} {w : World} {dp un : Nat} {gd : Option (List Code)} {cn : Str} {cs : Scope} {a : Addr} {ccd : Value} {cl : List (Str × Addr)} {outer : List Env} {A₀ : Around} {base h₀ : Heap} {L : Addr} {m : Str → Option Value} {news : List (Addr × Obj)} {s : Shared} {Q E : Value → Shared → Prop} {mean : ExcName → Option Value} {mg mb : Str → Option Value}
section
set_option maxRecDepth 100000 in
set_option maxHeartbeats 8000000 in
theorem c_scrubB {v : Array UInt8} {tk1 : Tok}
    (B : Below A₀ base outer h₀) (F : Fr h₀ L s.heap m) (X : (hd.heap_39 w.params).In h₀) (N : News h₀ L s.heap news) (T : Top PP LO mean mg mb h₀) (hk : cs.kind = .function)
    (hd : dp + 2 < recursionLimit) (hu : un + 20 < cLine)
    (hret : ∀ t h' tk', Fr h₀ L h' m → News h₀ L h' news → Q (.bytes v t) { s with heap := h', toks := tk' }) :
    wpAny (model prog w) (ktrTop dp un gd cn cs L a ccd cl outer) (call (.ref 21) [.bytes v tk1]) Q E s := by
  refine wpAny_call ?_
  k_dflt (refine' code_def ?k1 ?k2 ?k3 ?k4 ?k5 ?kA ?kF ?kK ?k6 ?k7 ?k8 ?k9 ?kB ?_ ?c2 ?c3 ?c4 ?c5; (case kA => exact rfl); (case kF => exact rfl); (case kK => assumption); (case k1 => k_asm); (case k2 => k_asm); (case k3 => k_asm); (case k4 => k_asm); (case k5 => k_asm); (case k6 => k_is); (case k7 => k_is); (case k8 => ktr_room); (case k9 => first | exact BindsTo.of_eq rfl | exact binds_K (by k_in) rfl (by k_is) rfl rfl rfl | (refine' kp_binds ?kx ?ke; (case kx => k_in); (case ke => exact fun _ => rfl))); (case c5 => decide); (case kB => exact locs rfl); (case c2 => exact rfl); (case c3 => exact rfl); (case c4 => exact rfl); k_whole; intro g' L' h' FG' F' N' B' X' T'; (try dsimp only); (try k_lift B'); (try k_fold))
  k_steps
  all_goals exact hret _ _ _ (by assumption) (by assumption)
end
end
end Fe38
theorem Fe38.restFO : True := by
  w_top off
  trivial
namespace Fe38
open PySem.Spec PySem.Calls
section
variable {prog : Program} {w : World} {A₀ : Around} {E : Value → Shared → Prop} {s' : Shared} {base g g₀ h : Heap} {outer : List Env} {L a e : Addr} {m : Str → Option Value} {name : Str} {scope : Scope} {cd : Value}
  {n : Str} {b₀ : Stmt} {suite : List Stmt} {pos np : Pos} {rest : List ExceptHandler} {Q : Flow → Shared → Prop} {news : List (Addr × Obj)} {KF : Frag}
  {p : Program} {loose : List Str} {mean : ExcName → Option Value} {mg mb : Str → Option Value} {x : Str} {X T' : String}

def Ctx (e : Addr) (h : Heap) : Prop := ∃ oe vs, h.get? e = some oe ∧ oe.data = .fields vs ∧ vs[2]? = some Value.none
section
variable {M : Model} {A : Around} {E : Value → Shared → Prop} {s : Shared} {base : Heap} {env : Env} {outer l : List Env} {L e : Addr} {cls a0 fl : Value} {Q : Unit → Shared → Prop}
theorem note_ctx {oe : Obj} {vs : Array Value} (hfr : A.frames = some (env :: outer)) (hl : s.heap.FunFrames base (env :: outer)) (hf : env.frame = some L)
    (he : s.heap.get? e = some oe) (hkb : base.StaysIn s.heap) (hen : base.get? e = none) (hd : oe.data = .fields vs) (h0 : vs[0]? = some a0) (h1 : vs[1]? = some .none) (h2 : vs[2]? = some .none)
    (h : ∀ h', Heap.HeldW base (env :: outer) e oe.cls a0 L h' → s.heap.UpToSlots h' → Ctx e h' → Q () { s with heap := h' }) : wpAny M A (noteFrame (.ref e) env) Q E s := by
  have hene : e ∉ (env :: outer).filterMap (·.frame) := fun hm => by
    obtain ⟨_, o, ho, hnf⟩ := hl.mem hm
    rw [he] at ho
    cases ho
    exact hnf vs hd
  unfold noteFrame
  simp only [hf]
  refine wpAny_bind (wpAny_field he hd h1 ?_)
  rw [if_neg (by decide)]
  refine wpAny_bind (wpAny_frameOf_fun hfr hl hf fun h₁ hs₁ => ?_)
  refine wpAny_bind (wpAny_entryPlaceOf fun pl hpl => ?_)
  unfold EntryCells.newEntry newFields
  refine wpAny_bind (wpAny_newObj_type ?_ (hpl.sizeOk5 _ _ _ _ _))
  have he₁ : h₁.get? e = some oe := (hs₁.2.1 e hene).trans he
  have kb₁ : base.StaysIn h₁ := fun b o hbo => (hs₁.2.1 b fun hm => by rw [(hl.mem hm).1] at hbo; cases hbo).trans (hkb b o hbo)
  generalize hT : (({ cls := .type "traceback", dict := none, data := .fields ([Value.none, .ref L, .none, rawInt L, .none] ++ (if pl.isEmpty then List.replicate 6 Value.none else pl)).toArray } : Obj)) = oT
  have dT : oT.data = .fields ([Value.none, .ref L, .none, rawInt L, .none] ++ (if pl.isEmpty then List.replicate 6 Value.none else pl)).toArray := by rw [← hT]
  have cT : oT.isFreed = false := by rw [← hT]; rfl
  have he₂ : (h₁.push oT).get? e = some oe := Heap.get?_push_of_some oT he₁
  have hTe : h₁.objs.size ≠ e := Nat.ne_of_gt (Heap.lt_size he₁)
  refine wpAny_setField he₂ hd (Array.getElem?_eq_some_iff.mp h1).1 ?_
  have d₃ := Obj.data_mapFields hd (·.setIfInBounds 1 (Value.ref h₁.objs.size))
  have e₃ := Heap.get?_update_self (Obj.mapFields (·.setIfInBounds 1 (Value.ref h₁.objs.size))) he₂ (Obj.isFreed_of_fields d₃)
  have t₃ : ((h₁.push oT).update e (Obj.mapFields (·.setIfInBounds 1 (Value.ref h₁.objs.size)))).get? h₁.objs.size = some oT :=
    (Heap.get?_update_other (h₁.push oT) (Obj.mapFields (·.setIfInBounds 1 (Value.ref h₁.objs.size))) (Ne.symm hTe)).trans (Heap.get?_push_size h₁ cT)
  have keep : ∀ b o, b ≠ e → h₁.get? b = some o → ((h₁.push oT).update e (Obj.mapFields (·.setIfInBounds 1 (Value.ref h₁.objs.size)))).get? b = some o := fun b o hbe hb => by
    rw [Heap.get?_update_other _ _ (Ne.symm hbe)]
    exact Heap.get?_push_of_some _ hb
  have nr : ∀ b o, s.heap.get? b = some o → (∀ vs, o.data ≠ .fields vs) → b ≠ e := fun b o hb hnf q => by
    rw [q, he] at hb
    cases hb
    exact hnf vs hd
  have up : ∀ b o, s.heap.get? b = some o → (∀ vs, o.data ≠ .fields vs) → ∃ sl, ((h₁.push oT).update e (Obj.mapFields (·.setIfInBounds 1 (Value.ref h₁.objs.size)))).get? b = some { o with slots := sl } := fun b o hb hnf => by
    obtain ⟨sl, hs⟩ := hs₁.2.2 b o hb
    exact ⟨sl, keep b _ (nr b o hb hnf) hs⟩
  refine h _ ⟨fun b o hbo => keep b o (fun q => by rw [q, hen] at hbo; cases hbo) (kb₁ b o hbo), hen, hl.of_keeps fun b o hb hnf => ?_, ?_⟩ up ⟨_, _, e₃, d₃, by rw [Array.getElem?_setIfInBounds_ne (by decide)]; exact h2⟩
  · obtain ⟨sl, hs⟩ := up b o hb hnf
    exact ⟨_, hs, rfl⟩
  · exact ⟨_, _, h₁.objs.size, oT, _, e₃, ⟨Obj.cls_mapFields _ _, by rw [Array.getElem?_setIfInBounds_ne (by decide)]; exact h0⟩, d₃, by simp [(Array.getElem?_eq_some_iff.mp h1).1], kb₁.fresh, hTe, t₃, dT, by first | (simp; done) | (rcases hpl with rfl | ⟨_, _, _, _, _, _, _, rfl⟩ <;> simp)⟩
theorem land_ctx (hkb : base.StaysIn s.heap) (hen : base.get? e = none) (hl : s.heap.FunFrames base l) (ht : s.heap.TracedAtW base e cls a0 fl) (hc : Ctx e s.heap)
    (h : ∀ h', Heap.FlyingW base l e cls a0 h' → s.heap.UpToSlots h' → Ctx e h' → Q () { s with heap := h' }) : wpAny M A (setFlight (.ref e) none) Q E s := by
  obtain ⟨oe, vs, T, oT, ts, he, hcls, hd, h1, hnT, hTe, hT, hdT, h3⟩ := ht
  obtain ⟨oe', vs', he', hd', h2⟩ := hc
  rw [he] at he'
  cases he'
  have other : ∀ b, b ≠ T → (s.heap.update T (Obj.mapFields (·.setIfInBounds 3 ((none : Option Addr).elim Value.none fun f => rawInt f)))).get? b = s.heap.get? b := fun b hb => Heap.get?_update_other _ _ (Ne.symm hb)
  have nr : ∀ b o, s.heap.get? b = some o → (∀ vs, o.data ≠ .fields vs) → b ≠ T := fun b o hb hnf q => by
    rw [q, hT] at hb
    cases hb
    exact hnf ts hdT
  have e₃ := (other e (Ne.symm hTe)).trans he
  unfold setFlight
  refine wpAny_bind (wpAny_field he hd h1 ?_)
  rw [if_pos (show (Value.ref T != Value.none) = true from by simp)]
  refine wpAny_setField hT hdT (Array.getElem?_eq_some_iff.mp h3).1 (h _ ⟨fun b o hbo => (other b fun q => by rw [q, hnT] at hbo; cases hbo).trans (hkb b o hbo), hen,
    hl.of_keeps fun b o hb hnf => ⟨o, (other b (nr b o hb hnf)).trans hb, rfl⟩, ?_⟩ (fun b o hb hnf => ⟨o.slots, (other b (nr b o hb hnf)).trans hb⟩) ⟨_, _, e₃, hd', h2⟩)
  exact ⟨oe, vs, T, _, _, e₃, hcls, hd, h1, hnT, hTe, Heap.get?_update_self _ hT (Obj.isFreed_of_fields (Obj.data_mapFields hdT _)), Obj.data_mapFields hdT _, by simp [(Array.getElem?_eq_some_iff.mp h3).1]⟩
theorem Ctx.over {h h' : Heap} {m : Str → Option Value} (x : Ctx e h) (hs : Heap.SameBut L h h') (hn : h.Ns L m) : Ctx e h' := by
  obtain ⟨o, vs, he, hd, h2⟩ := x
  obtain ⟨o', es, ep, e', d', _⟩ := hn
  have hne : e ≠ L := by rintro rfl; rw [he] at e'; cases e'; rw [hd] at d'; cases d'
  exact ⟨o, vs, (hs.2 e hne).trans he, hd, h2⟩
end
theorem own_NB (K : Below A₀ base outer g) (hx : Heap.NewExc h s'.heap e X) (F : Fr g L h m) (N : News g L h news) (XB : KF.In base) (TB : Top p loose mean mg mb base)
    (ex : nsIn KF mainGlobals x = some none) (hv : bootBuiltins x = some (.type T')) (hn' : x ≠ "__name__")
    (hexc : isSubtype (.type T') (.type "BaseException") = pure true) (hnt : isSubtype (.type ((Manifest.find? T').elim "type" fun y => y.metatype)) (.type "tuple") = pure false) (hsub : isSubtype (.type X) (.type T') = pure true)
    (k : ∀ h' g' tk, KtsTurn (outer.filterMap (·.frame)) g g' → Fr g' L h' (fun y => if y = n then some (.ref e) else m y) → News g' L h' news → Below A₀ base outer g' → KF.In g' → Top p loose mean mg mb g' → Ctx e h' →
      wpAny (model prog w) ((A₀.deeper (envOf name scope L a cd)).mark (some (.ref e))) (execs (b₀ :: suite) (envOf name scope L a cd))
        (fun f s₄ => wpAny (model prog w) (A₀.deeper (envOf name scope L a cd)) (do bindName (envOf name scope L a cd) n .none; unbindBehindTheSuite (envOf name scope L a cd) n pos) (fun _ s₅ => Q f s₅) E s₄)
        (AsSuiteRaised (model prog w) ((A₀.deeper (envOf name scope L a cd)).mark (some (.ref e))) (envOf name scope L a cd) n pos (notedBy (model prog w) ((A₀.deeper (envOf name scope L a cd)).mark (some (.ref e))) (envOf name scope L a cd) (cameBackBy (model prog w) (A₀.deeper (envOf name scope L a cd)) (envOf name scope L a cd) E)))
        { s' with heap := h', toks := tk })
    (hk : scope.kind = .function) (hlo : (envOf name scope L a cd).kindOf n = some .local) (hxk : (envOf name scope L a cd).kindOf x = some .globalImplicit) (hd : (x == ("__debug__" : Str)) = false) :
    wpAny (model prog w) (A₀.deeper (envOf name scope L a cd)) (noteFrame (.ref e) (envOf name scope L a cd))
      (fun _ s₂ => wpAny (model prog w) (A₀.deeper (envOf name scope L a cd)) (setFlight (.ref e) none) (fun _ s₃ =>
        wpAny (model prog w) (A₀.deeper (envOf name scope L a cd)) (handleBy (.ref e) (envOf name scope L a cd) (.ExceptHandler (some (.Name x np)) (some n) (b₀ :: suite) pos :: rest)) Q E s₃) E s₂) E s' := by
  have K' := K.push (name := name) (a := a) (cd := cd) F hk
  have hin : ∀ env ∈ (envOf name scope L a cd :: outer), ∀ b, env.frame = some b → b ∈ (envOf name scope L a cd :: outer).filterMap (·.frame) := fun env he b hb => List.mem_filterMap.mpr ⟨env, he, hb⟩
  have hB : base.StaysIn (hideAll h ((envOf name scope L a cd :: outer).filterMap (·.frame))) := fun b o q => hideAll_get _ (K'.stays b o q) fun hm => by
    rw [(K'.frames.mem hm).1] at q; cases q
  have hBG : ∀ b o, h.get? b = some o → b ∉ (envOf name scope L a cd :: outer).filterMap (·.frame) → (hideAll h ((envOf name scope L a cd :: outer).filterMap (·.frame))).get? b = some o := fun b o q nm => hideAll_get _ q nm
  have hL : (hideAll h ((envOf name scope L a cd :: outer).filterMap (·.frame))).get? L = none := hideAll_none _ (hin _ (.head _) L rfl)
  have hl : ∀ q ∈ news, (hideAll h ((envOf name scope L a cd :: outer).filterMap (·.frame))).get? q.1 = some q.2 := fun q hq => by
    refine hideAll_get _ (N q hq).1 fun hm => ?_
    obtain ⟨env, he, hf⟩ := List.mem_filterMap.mp hm
    rcases List.mem_cons.mp he with rfl | he
    · exact (N q hq).2.1 (Option.some.inj hf).symm
    · obtain ⟨o, ho, _⟩ := (K.frames.mem (List.mem_filterMap.mpr ⟨env, he, hf⟩)).2
      rw [(N q hq).2.2] at ho; cases ho
  obtain ⟨ob, tp, he, hcls, hdt⟩ := hx.there
  have hen : (hideAll h ((envOf name scope L a cd :: outer).filterMap (·.frame))).get? e = none := by
    cases q : (hideAll h ((envOf name scope L a cd :: outer).filterMap (·.frame))).get? e with
    | none => rfl
    | some o => have := of_hideAll _ q; rw [hx.new] at this; cases this
  have hff := (funFrames_hide K'.frames hin).of_keeps (h' := s'.heap) fun b o hb _ => ⟨o, hx.keeps b o hb, rfl⟩
  refine note_ctx (a0 := tp) K'.stack hff rfl he (fun b o hb => hx.keeps b o (of_hideAll _ hb)) hen hdt rfl rfl rfl fun h₄ hheld₄ q4 c₄ => ?_
  rw [hcls] at hheld₄
  have hsm₄ : h.UpToSlots h₄ := (Heap.UpToSlots.of_keeps hx.keeps).trans q4
  refine land_ctx hheld₄.1 hheld₄.2.1 hheld₄.2.2.1 hheld₄.2.2.2 c₄ fun h₅ hheld hsm₅' c₅ => ?_
  have hsm₅ := hsm₄.trans hsm₅'
  obtain ⟨g₅, T₅, F₅, K₅⟩ := kts_ground K F hBG hheld.1 hsm₅
  have X₅ : KF.In g₅ := XB.keeps K₅.stays
  have P₅ : TopRead p loose mg mb g₅ := topRead_of (TB.keeps K₅.stays)
  obtain ⟨ob', hob, hobc⟩ := hheld.there
  refine wpAny_handleBy_builtin_as (X := X) (T := T') (b := true) hexc hnt hsub (name_B F₅ X₅ P₅ ex hv hn' ⟨rfl, ⟨ob', hob, hobc⟩, ?_⟩ hk hxk hd)
  refine land_ctx hheld.1 hheld.2.1 hheld.2.2.1 hheld.2.2.2.at c₅ fun h₆ hfl₆ hsm₆ c₆ => ?_
  obtain ⟨g₆, T₆, F₆, K₆⟩ := kts_ground K F hBG hfl₆.1 (hsm₅.trans hsm₆)
  have Nl : News g₆ L h₆ news := fun q hq => ⟨hfl₆.1 _ _ (hl q hq), (fun z => by have := hl q hq; rw [z, hL] at this; cases this), T₆.none_ _ (N q hq).2.2⟩
  have X₆ : KF.In g₆ := XB.keeps K₆.stays
  have P₆ : Top p loose mean mg mb g₆ := TB.keeps K₆.stays
  refine stNK F₆ Nl (fun h₇ F₇ N₇ hs₇ hn₇ => ?_) hk hlo
  exact k h₇ g₆ _ T₆ F₇ N₇ K₆ X₆ P₆ (c₆.over hs₇ hn₇)

theorem raised_turn {l : List Env} {cls : Value} {g' : Heap} (T : KtsTurn (l.filterMap (·.frame)) g g') (R : RaisedSN base g' l e cls news h) : RaisedSN base g l e cls news h := by
  obtain ⟨B, a0, hB, hBG, hl, hfl⟩ := R
  refine ⟨B, a0, hB, fun b o q nm => hBG b o (T.other b o q nm) nm, fun q hq => ⟨(hl q hq).1, ?_, (hl q hq).2.2⟩, hfl⟩
  cases z : g.get? q.1 with
  | none => rfl
  | some o =>
    obtain ⟨sl, hs⟩ := T.up z
    rw [(hl q hq).2.1] at hs; cases hs
theorem slots_turn {fs : List Addr} {g' : Heap} (T : KtsTurn fs g g') (U : g'.UpToSlots h) : g.UpToSlots h := fun b o e hn => by
  obtain ⟨sl, hs⟩ := T.up e
  obtain ⟨sl', hs'⟩ := U b _ hs hn
  exact ⟨sl', hs'⟩
theorem raised_of_S {l : List Env} {cls : Value} {t : Addr} {vs : List Value} (R : RaisedS base g l e cls t vs news h) : RaisedSN base g l e cls news h := by
  obtain ⟨⟨B, hB, hBG, hl, hfl, _⟩, _⟩ := R
  exact ⟨B, _, hB, hBG, hl, hfl⟩
theorem raised_fewer {l : List Env} {cls : Value} {more : List (Addr × Obj)} (R : RaisedSN base g l e cls (more ++ news) h) : RaisedSN base g l e cls news h := by
  obtain ⟨B, a0, hB, hBG, hl, hfl⟩ := R
  exact ⟨B, a0, hB, hBG, fun q hq => hl q (List.mem_append_right _ hq), hfl⟩


section
variable {A : Around} {s : Shared} {env : Env} {c : Addr} {cls newId initId : String}
theorem unchain_end {M : Model} {A : Around} {E : Value → Shared → Prop} {Q : Fin → Shared → Prop} {v : Value} (C : Ctx c s.heap) (h : Q (.done (.ret .none)) s) :
    wpAny M A (Builtin.«proto.unchain» ⟨[v, .ref c, .ref c, .bool false], []⟩) Q E s := by
  obtain ⟨oe, vs, he, hd, h2⟩ := C
  unfold Builtin.«proto.unchain»
  refine wpAny_bind (wpAny_field he hd h2 ?_)
  rw [if_pos (by decide)]
  exact wpAny_pure h
theorem entry_unchain : entryFor table "proto.unchain" = some Builtin.«proto.unchain» := entryFor_of_tree (by kernel_rfl)

theorem raise_under (FC : ExcCallFacts cls newId initId) (FR : ExcRaiseFacts cls) {np cpos cp pos : Pos} {Q : Flow → Shared → Prop} {ck : Nat}
    (hh : A.handled = some (.ref c)) (C : Ctx c s.heap)
    (hx : wpAny (model prog w) A (eval (.Name x np) env) (fun f s₁ => f = .type cls ∧ ∃ tk, s₁ = { s with toks := tk }) E s)
    (h : ∀ e t oe h' tk, (∀ b o, s.heap.get? b = some o → h'.get? b = some o) → s.heap.get? e = none → h'.get? e = some oe → oe.cls = .type cls → oe.data = .fields #[.ref t, .none, .ref c, .none, .bool true, .none] → E (.ref e) { s with heap := h', toks := tk }) :
    wpAny (model prog w) A (exec (.Raise (some (.Call (.Name x np) [] [] cpos)) (some (.Constant .none ck cp)) pos) env) Q E s := by
  rw [arm_exec_Raise]
  refine wpAny_bind (wpAny_standAt ?_)
  show wpAny (model prog w) A (raiseStmt env (some (do let v ← eval (.Call (.Name x np) [] [] cpos) env; standAt pos; pure v)) (some (do let v ← eval (.Constant .none ck cp) env; standAt pos; pure v))) Q E s
  unfold raiseStmt
  refine wpAny_bind (wpAny_bind (wpAny_Call_ofName (wpAny_mono hx (fun f s₁ h₁ => ?_) fun _ _ y => y)))
  obtain ⟨rfl, tk, rfl⟩ := h₁
  refine callWith_excType rfl ?_
  obtain ⟨hp, g, d, tk₀, os⟩ := s
  refine evalArgs_empty ?_
  refine wpAny_call_exc FC (hrest := Nat.zero_le _) fun h₁ e hm => ?_
  obtain ⟨kp, hn, t, he, _, _⟩ := hm
  dsimp only at kp hn
  refine wpAny_bind (wpAny_standAt (wpAny_pure ?_))
  have hsub := FR.isExc
  have hmeta := FR.plainMeta
  dsimp only
  refine wpAny_bind (wpAny_holding ?_)
  refine wpAny_bind (wpAny_Constant_none (wpAny_bind (wpAny_standAt (wpAny_pure ?_))))
  wp_walk
  obtain ⟨oc, vc, hc, hdc, h2⟩ := C
  have hec : e ≠ c := fun q => by rw [q, hc] at hn; cases hn
  have hc₁ := kp _ _ hc
  have hne : (Value.ref c != Value.ref e) = true := by
    simp only [bne_iff_ne, ne_eq, Value.ref.injEq]
    exact fun q => hec q.symm
  unfold raiseNew
  refine wpAny_bind (wpAny_handled ?_)
  rw [hh]
  dsimp only
  rw [if_pos hne]
  refine wpAny_bind (wpAny_holding (wpAny_runValue (codeAny_builtin entry_unchain (unchain_end ⟨oc, vc, ?_, hdc, h2⟩ ?_))))
  · rw [Heap.get?_update_other _ _ hec, Heap.get?_update_other _ _ hec]
    exact hc₁
  show wpAny (model prog w) A (do setField (.ref e) 2 (.ref c); throw (.ref e)) Q E _
  have g1 := Heap.get?_update_self (Obj.mapFields fun x => x.setIfInBounds 3 Value.none) he rfl
  have g2 := Heap.get?_update_self (Obj.mapFields fun x => x.setIfInBounds 4 (Value.bool true)) g1 rfl
  have g3 := Heap.get?_update_self (Obj.mapFields fun x => x.setIfInBounds 2 (Value.ref c)) g2 rfl
  refine wpAny_bind (wpAny_setField g2 rfl (by show 2 < 6; decide) (wpAny_throw (h e t _ _ _ (fun b o hb => ?_) hn g3 rfl rfl)))
  have hbe : e ≠ b := fun q => by rw [← q, hn] at hb; cases hb
  rw [Heap.get?_update_other _ _ hbe, Heap.get?_update_other _ _ hbe, Heap.get?_update_other _ _ hbe]
  exact kp b o hb
end
section
variable {M : Model} {A : Around} {s : Shared} {l : List Env} {cls a0 fl : Value} {B : Heap} {env : Env} {m' : Str → Option Value} {h' : Heap}
theorem hold_again {Q : Unit → Shared → Prop} (hkb : B.StaysIn s.heap) (hen : B.get? e = none) (hl : s.heap.FunFrames B l) (ht : s.heap.TracedAtW B e cls a0 fl)
    (h : ∀ h', Heap.HeldW B l e cls a0 L h' → s.heap.UpToSlots h' → Q () { s with heap := h' }) : wpAny M A (setFlight (.ref e) (some L)) Q E s := by
  obtain ⟨oe, vs, T, oT, ts, he, hcls, hd, h1, hnT, hTe, hT, hdT, h3⟩ := ht
  have other : ∀ b, b ≠ T → (s.heap.update T (Obj.mapFields (·.setIfInBounds 3 ((some L).elim Value.none fun f => rawInt f)))).get? b = s.heap.get? b := fun b hb => Heap.get?_update_other _ _ (Ne.symm hb)
  have nr : ∀ b o, s.heap.get? b = some o → (∀ vs, o.data ≠ .fields vs) → b ≠ T := fun b o hb hnf q => by
    rw [q, hT] at hb
    cases hb
    exact hnf ts hdT
  unfold setFlight
  refine wpAny_bind (wpAny_field he hd h1 ?_)
  rw [if_pos (show (Value.ref T != Value.none) = true from by simp)]
  refine wpAny_setField hT hdT (Array.getElem?_eq_some_iff.mp h3).1 (h _ ⟨fun b o hbo => (other b fun q => by rw [q, hnT] at hbo; cases hbo).trans (hkb b o hbo), hen,
    hl.of_keeps fun b o hb hnf => ⟨o, (other b (nr b o hb hnf)).trans hb, rfl⟩, ?_⟩ fun b o hb hnf => ⟨o.slots, (other b (nr b o hb hnf)).trans hb⟩)
  exact ⟨oe, vs, T, _, _, (other e (Ne.symm hTe)).trans he, hcls, hd, h1, hnT, hTe, Heap.get?_update_self _ hT (Obj.isFreed_of_fields (Obj.data_mapFields hdT _)), Obj.data_mapFields hdT _, by simp [(Array.getElem?_eq_some_iff.mp h3).1]⟩
theorem funFrames_over (hs : Heap.SameBut L h h') (hn' : h'.Ns L m') : ∀ {l : List Env}, h.FunFrames B l → h'.FunFrames B l
  | [], _ => trivial
  | _ :: _, ⟨hk, ⟨L₁, o, hf, hnone, ho, hd⟩, hr⟩ => by
    refine ⟨hk, ?_, funFrames_over hs hn' hr⟩
    by_cases q : L₁ = L
    · obtain ⟨o', es, ep, ho', hd', _⟩ := hn'
      exact ⟨L₁, o', hf, hnone, by rw [q]; exact ho', fun vs z => by rw [hd'] at z; cases z⟩
    · exact ⟨L₁, o, hf, hnone, (hs.2 _ q).trans ho, hd⟩
theorem held_over (hL : B.get? L = none) (hs : Heap.SameBut L h h') (hn : h.Ns L m) (hn' : h'.Ns L m') (x : Heap.HeldW B l e cls a0 L h) : Heap.HeldW B l e cls a0 L h' := by
  obtain ⟨f1, f2, f3, oe, vs, T, oT, ts, he, hcls, hd, h1, hnT, hTe, hT, hdT, h3⟩ := x
  have ne : ∀ b o vs, h.get? b = some o → o.data = .fields vs → b ≠ L := fun b o vs hb hv q => by
    obtain ⟨o', es, ep, ho', hd', _⟩ := hn
    rw [q, ho'] at hb
    cases hb
    rw [hd'] at hv
    cases hv
  refine ⟨fun b o hb => (hs.2 b fun q => by rw [q, hL] at hb; cases hb).trans (f1 b o hb), f2, funFrames_over hs hn' f3, oe, vs, T, oT, ts, (hs.2 _ (ne _ _ _ he hd)).trans he, hcls, hd, h1, hnT, hTe, (hs.2 _ (ne _ _ _ hT hdT)).trans hT, hdT, h3⟩

theorem suite_raised {oe : Obj} {vs : Array Value} {c : Addr} (K : Below A₀ base outer g) (F : Fr g L h m) (N : News g L h news) (kp : ∀ b o, h.get? b = some o → s'.heap.get? b = some o) (hne : h.get? e = none)
    (he : s'.heap.get? e = some oe) (hcl : oe.cls = cls) (hd : oe.data = .fields vs) (h0 : vs[0]? = some a0) (h1 : vs[1]? = some .none) (hk : scope.kind = .function) (hlo : (envOf name scope L a cd).kindOf n = some .local)
    (hE : ∀ h' tk, RaisedHN base g (envOf name scope L a cd :: outer) L e cls news h' → g.UpToSlots h' → E (.ref e) { s' with heap := h', toks := tk }) :
    AsSuiteRaised (model prog w) ((A₀.deeper (envOf name scope L a cd)).mark (some (.ref c))) (envOf name scope L a cd) n pos (notedBy (model prog w) ((A₀.deeper (envOf name scope L a cd)).mark (some (.ref c))) (envOf name scope L a cd) (cameBackBy (model prog w) (A₀.deeper (envOf name scope L a cd)) (envOf name scope L a cd) E)) (.ref e) s' := by
  have K' := K.push (name := name) (a := a) (cd := cd) F hk
  have hin : ∀ env ∈ (envOf name scope L a cd :: outer), ∀ b, env.frame = some b → b ∈ (envOf name scope L a cd :: outer).filterMap (·.frame) := fun env he b hb => List.mem_filterMap.mpr ⟨env, he, hb⟩
  have hB : base.StaysIn (hideAll h ((envOf name scope L a cd :: outer).filterMap (·.frame))) := fun b o q => hideAll_get _ (K'.stays b o q) fun hm => by
    rw [(K'.frames.mem hm).1] at q; cases q
  have hBG : ∀ b o, g.get? b = some o → b ∉ (envOf name scope L a cd :: outer).filterMap (·.frame) → (hideAll h ((envOf name scope L a cd :: outer).filterMap (·.frame))).get? b = some o := fun b o q nm => hideAll_get _ (F.keep b o q) nm
  have hL : (hideAll h ((envOf name scope L a cd :: outer).filterMap (·.frame))).get? L = none := hideAll_none _ (hin _ (.head _) L rfl)
  have hl : ∀ q ∈ news, (hideAll h ((envOf name scope L a cd :: outer).filterMap (·.frame))).get? q.1 = some q.2 ∧ g.get? q.1 = none ∧ base.get? q.1 = none := fun q hq => by
    refine ⟨hideAll_get _ (N q hq).1 fun hm => ?_, (N q hq).2.2, fresh_of_stays K.stays (N q hq).2.2⟩
    obtain ⟨env, he, hf⟩ := List.mem_filterMap.mp hm
    rcases List.mem_cons.mp he with rfl | he
    · exact (N q hq).2.1 (Option.some.inj hf).symm
    · obtain ⟨o, ho, _⟩ := (K.frames.mem (List.mem_filterMap.mpr ⟨env, he, hf⟩)).2
      rw [(N q hq).2.2] at ho; cases ho
  have hen : (hideAll h ((envOf name scope L a cd :: outer).filterMap (·.frame))).get? e = none := by
    cases q : (hideAll h ((envOf name scope L a cd :: outer).filterMap (·.frame))).get? e with
    | none => rfl
    | some o => have := of_hideAll _ q; rw [hne] at this; cases this
  have hff := (funFrames_hide K'.frames hin).of_keeps (h' := s'.heap) fun b o hb _ => ⟨o, kp b o hb, rfl⟩
  have hgL : g.get? L = none := kts_self F
  subst hcl
  show wpAny _ _ (noteFrame _ _) _ _ _
  unfold noteFrame
  simp only [show (envOf name scope L a cd).frame = some L from rfl]
  refine wpAny_bind (wpAny_field he hd h1 ?_)
  rw [if_neg (by decide)]
  refine wpAny_entryW (a0 := a0) K'.stack hff rfl he (fun b o hb => kp b o (of_hideAll _ hb)) hen hd (Array.getElem?_eq_some_iff.mp h1).1 h0 fun h₄ hN => ?_
  obtain ⟨q1, q2, q3, q4⟩ := hN
  have H₄ : Heap.HeldW (hideAll h ((envOf name scope L a cd :: outer).filterMap (·.frame))) (envOf name scope L a cd :: outer) e oe.cls a0 L h₄ := ⟨q1, hen, q2, q3⟩
  have U₄ : h.UpToSlots h₄ := (Heap.UpToSlots.of_keeps kp).trans q4
  have n₄ : h₄.Ns L m := U₄.ns F.ns
  have G₄ : g.UpToSlots h₄ := (Heap.UpToSlots.of_keeps F.keep).trans U₄
  refine wpAny_nameGoes hlo n₄ (by show (scope.kind == .class || (scope.kind == .module && L != mainGlobals)) = false; rw [hk]; rfl) fun h₅ m₅ n₅ s₅ => ?_
  have H₅ := held_over hL s₅ n₄ n₅ H₄
  have G₅ : g.UpToSlots h₅ := fun b o hb hnf => by
    obtain ⟨sl, hs⟩ := G₄ b o hb hnf
    exact ⟨sl, (s₅.2 b fun q => by rw [show b = L from q, hgL] at hb; cases hb).trans hs⟩
  obtain ⟨o5, v5, T5, oT5, ts5, e5, c5, d5, t5, _⟩ := id H₅.2.2.2
  unfold PySem.passOn
  refine wpAny_bind (wpAny_field e5 d5 t5 ?_)
  rw [if_neg (show ¬ ((Value.ref T5 == Value.none) = true) from by simp)]
  refine wpAny_bind (hold_again (L := L) H₅.1 H₅.2.1 H₅.2.2.1 H₅.2.2.2 fun h₆ H₆ U₆ => wpAny_throw ?_)
  refine wpAny_noteFrame_againW rfl H₆.2.2.2 ?_
  obtain ⟨o6, v6, T6, oT6, ts6, e6, c6, d6, t6, _⟩ := id H₆.2.2.2
  refine wpAny_bind (wpAny_field e6 d6 t6 ?_)
  rw [if_neg (show ¬ ((Value.ref T6 == Value.none) = true) from by simp)]
  refine hold_again (L := L) H₆.1 H₆.2.1 H₆.2.2.1 H₆.2.2.2 fun h₇ H₇ U₇ => ?_
  exact hE h₇ _ ⟨_, a0, hB, hBG, hl, H₇⟩ (G₅.trans (U₆.trans U₇))
theorem leave_heldX {Q1 : Unit → Shared → Prop} (R : RaisedHN base g (envOf name scope L a cd :: outer) L e cls news s'.heap) (hgL : g.get? L = none) (hsm : g.UpToSlots s'.heap)
    (hQ : ∀ h', RaisedSN base g outer e cls news h' → g.UpToSlots h' → Q1 () { s' with heap := h' }) :
    wpAny (model prog w) (A₀.deeper (envOf name scope L a cd)) (leaving (envOf name scope L a cd) (.ref e)) Q1 E s' := by
  obtain ⟨B, a0, hB, hBG, hl, hh⟩ := R
  unfold leaving
  refine wpAny_bind (wpAny_noteFrame_againW rfl hh.2.2.2 ?_)
  refine wpAny_landsW hh fun h' hfl hs => ?_
  obtain ⟨k1, k2, ⟨_, _, k3⟩, k4⟩ := hfl
  exact hQ h' ⟨B, a0, hB, fun b o q nm => hBG b o q (fun hm => by
    rcases kts_mem hm with z | z
    · rw [z, hgL] at q
      cases q
    · exact nm z), hl, ⟨k1, k2, k3, k4⟩⟩ (hsm.trans hs)
end
section
variable {A : Around} {s : Shared} {h₀ : Heap} {R : Result → Shared → Prop} {qual : Str} {params : Arguments} {body : List Stmt} {dV kV doc pm cdv ct oc : Value} {an od : Option Addr} {osl : Array (Option Value)} {f : Addr} {args : Args} {binds : List (Str × Value)} {env : Env} {K : Frag}
theorem code_defX0 (B : Below A₀ base [] h₀) (F : Fr h₀ L s.heap m) (X₀ : K.In h₀) (N : News h₀ L s.heap news) (T : Top p loose mean mg mb h₀) (hA : A.frames = some [env]) (hf : env.frame = some L) (hke : env.scope.kind = .function)
    (ho : K.lookup f = some ⟨oc, od, .func (fnOf name qual params body scope dV kV doc pm an cdv ct), osl⟩) (hcd : codeIn K cdv qual = true) (hroom : A.depth < recursionLimit)
    (hbind : BindsTo s (fnOf name qual params body scope dV kV doc pm an cdv ct) args binds) (hloc : ∀ y ∈ binds, scope.names.lookup y.1 = some .local)
    (h : ∀ g L' h₁, Fr h₀ L g m → Fr g L' h₁ (fun y => binds.reverse.lookup y) → News g L' h₁ news → Below A base [env] g → K.In g → Top p loose mean mg mb g → KtsDicts ([env].filterMap (·.frame)) g → (∀ p ∈ news, p.1 < L') →
      wpAny (model prog w) (A.deeper (envOf qual scope L' f cdv)) (execs body (envOf qual scope L' f cdv))
        (fun fl s' => LeaveS0 ([env].filterMap (·.frame)) h₀ L m g R (match fl with | .ret v => v | _ => .none) s')
        (fun e s' => wpAny (model prog w) (A.deeper (envOf qual scope L' f cdv)) (leaving (envOf qual scope L' f cdv) e) (fun _ s'' => R (.error e) s'') (fun e' s'' => R (.error e') s'') s')
        { s with heap := h₁, toks := s.toks + binds.length })
    (hco : scope.isCoroutine = false) (hgen : scope.isGenerator = false) (hk : scope.kind = .function)
    (hcell : ∀ x ∈ scope.names, x.2 ≠ .cell) : codeAny (model prog w) A (.call (.ref f) args) R s := by
  have X := X₀.keeps F.keep
  refine codeAny_call_def (fd := fnOf name qual params body scope dV kV doc pm an cdv ct) (body := body) (binds := binds) hroom (X _ _ ho) rfl (T.nolimit.keeps F.keep) (codeRec_of X hcd) rfl hbind hcell hloc (fun h₁ hns hk₁ => ?_) hco hgen hk
  obtain ⟨FG, BG, st, _⟩ := groundX (R := R) B F N hA hf hke
  obtain ⟨oL, es, ep, hLg, hLd, hLk, hLf⟩ := FG.ns
  have hmem : ∀ b, b ∈ [env].filterMap (·.frame) → b = L := fun b hb => by
    obtain ⟨env', he, hf'⟩ := List.mem_filterMap.mp hb
    rw [List.mem_singleton.mp he, hf] at hf'
    exact (Option.some.inj hf').symm
  refine wpAny_mono (h _ s.heap.objs.size h₁ FG ⟨hns, fun b o e => hk₁ b o (of_hideAll _ e), Nat.le_of_eq (hideAll_size _ _)⟩
    (fun p hp => ⟨hk₁ _ _ (N p hp).1, Nat.ne_of_lt (Heap.lt_size (N p hp).1), hideAll_none _ (List.mem_map_of_mem hp)⟩) BG (X₀.keeps st) (T.keeps st) (fun b hb => by
      rw [hmem b hb]
      exact ⟨oL, es, ep, hLg, hLd⟩) (fun p hp => Heap.lt_size (N p hp).1)) (fun fl s' hl => ?_) fun _ _ y => y
  obtain ⟨g', L', m', news', T', F', N', k⟩ := hl
  have nL₀ : h₀.get? L = none := kts_self F
  obtain ⟨sl, hs⟩ := T'.up hLg
  refine k ⟨⟨_, es, ep, F'.keep _ _ hs, hLd, hLk, hLf⟩, fun b o e => F'.keep b o (T'.other b o (st b o e) (fun q => by
    rw [hmem b q, nL₀] at e
    cases e)), F.above⟩ fun p hp => ⟨(N' p hp).1, fun q => ?_, ?_⟩
  · have := (N' p hp).2.2; rw [q, hs] at this; cases this
  · cases q : h₀.get? p.1 with
    | none => rfl
    | some o =>
      obtain ⟨sl', hs'⟩ := T'.up (st _ _ q)
      have := (N' p hp).2.2
      rw [hs'] at this
      cases this
end
end
end Fe38
theorem Fe38.restFP : True := by
  w_top off
  trivial
namespace Fe38
def Gd (w : World) (base : Heap) (mean : ExcName → Option Value) (mg mb : Str → Option Value) : Prop := (hd.heap_39 w.params).In base ∧ Top PP LO mean mg mb base
theorem Gd.x {w : World} {base : Heap} {mean : ExcName → Option Value} {mg mb : Str → Option Value} (h : Gd w base mean mg mb) : (hd.heap_39 w.params).In base := h.1
theorem Gd.t {w : World} {base : Heap} {mean : ExcName → Option Value} {mg mb : Str → Option Value} (h : Gd w base mean mg mb) : Top PP LO mean mg mb base := h.2
theorem raised_sub {base G : Heap} {l : List Env} {e : Addr} {cls : Value} {news news' : List (Addr × Obj)} {h : Heap} (hs : ∀ q ∈ news, q ∈ news') (R : RaisedSN base G l e cls news' h) : RaisedSN base G l e cls news h := by
  obtain ⟨B, a0, hB, hBG, hl, hfl⟩ := R
  exact ⟨B, a0, hB, hBG, fun q hq => hl q (hs q hq), hfl⟩
def decF (ks : List Int) (vs : List Int) : Int := vs.foldl (fun a c => a * (ks.length : Int) + (ks.idxOf c : Int)) 0
theorem decF_nil {ks : List Int} : (0 : Int) = decF ks [] ∧ ∀ x ∈ ([] : List Int), x ∈ ks := ⟨rfl, fun c hc => nomatch hc⟩
theorem decF_snoc {ks pre : List Int} {c a : Int} (h : a = decF ks pre ∧ ∀ x ∈ pre, x ∈ ks) (hc : c ∈ ks) : a * (ks.length : Int) + (ks.idxOf c : Int) = decF ks (pre ++ [c]) ∧ ∀ x ∈ pre ++ [c], x ∈ ks := by
  refine ⟨?_, fun x hx => ?_⟩
  · unfold decF at h ⊢
    rw [List.foldl_append, ← h.1]
    rfl
  · rcases List.mem_append.mp hx with q | q
    · exact h.2 x q
    · rw [List.mem_singleton.mp q]
      exact hc
section
variable {prog : Program} {w : World} {A : Around} {E : Value → Shared → Prop} {s : Shared} {h₀ : Heap} {L d : Addr} {m : Str → Option Value} {news : List (Addr × Obj)} {o : Obj} {kvs : List (Int × Value)} {ks : List Int} {c : Int} {tc : Tok} {value slice : Expr}
theorem map_item {Q : Value → Shared → Prop} (N : News h₀ L s.heap news) (hp : (d, o) ∈ news) (hd : o.IsDictOf (intKind prog w) kvs) (hi : DInv ks ks.length kvs) (lo : (d == sysModules) = false) (hh : A.handled = none)
    (h1 : c ∈ ks → ∀ t tk, Q (.int (ks.idxOf c : Int) t) { s with toks := tk }) (h2 : c ∉ ks → ∀ h' tk e, Heap.NewExc s.heap h' e "KeyError" → E (.ref e) { s with heap := h', toks := tk })
    (hs : subscripted slice false (.ref d) (.int c tc) = operate [.ref d, .int c tc] (getItem (.ref d) (.int c tc)) := by with_unfolding_all rfl) (hg : ∀ r, letTemporaryGo value (.ref d) r = pure () := by intro _; with_unfolding_all rfl) :
    wpAny (model prog w) A (subscriptTail value slice (.ref d) (.int c tc)) Q E s := by
  have hD := kda_dict N hp hd
  by_cases hc : c ∈ ks
  · obtain ⟨t, ht⟩ := hi.2.1 (ks.idxOf c) (List.idxOf_lt_length_iff.mpr hc)
    have e : ks.getD (ks.idxOf c) 0 = c := by
      rw [List.getD_eq_getElem?_getD, List.getElem?_eq_getElem (List.idxOf_lt_length_iff.mpr hc), List.getElem_idxOf]
      rfl
    rw [e] at ht
    exact kda_item (knd := intKind prog w) N hp hd (intKind_is prog w c tc) ht (h1 hc _ _) hs hg
  · have ht : valueAt kvs c = none := hi.2.2 c (by rwa [List.take_length])
    exact subscriptTail_builtin hD.typeIs slot_dict_getitem.lookup (wpAny_getItem_missing_of (intKind_is prog w c tc) lo hh hD.mapOf ht fun h' e hn => h2 hc h' _ e hn) hs hg
end
section
variable {prog : Program} {w : World} {dp un : Nat} {gd : Option (List Code)} {cn : Str} {cs : Scope} {a : Addr} {ccd : Value} {cl : List (Str × Addr)} {outer : List Env} {A₀ : Around} {base h₀ : Heap} {L : Addr} {m : Str → Option Value} {news : List (Addr × Obj)} {s : Shared} {Q E : Value → Shared → Prop} {mean : ExcName → Option Value} {mg mb : Str → Option Value}
section
local macro_rules | `(tactic| walk_at "call ref") => `(tactic| (k_here; k_dflt (first | (refine' c_scrubB ?k1 ?k2 ?k3 ?k4 ?k5 ?kK ?kd ?ku ?_; (case k1 => k_asm); (case k2 => k_asm); (case k3 => k_asm); (case k4 => k_asm); (case k5 => k_asm); (case kK => exact rfl); (case kd => ktr_room); (case ku => ktr_units); intro t9 h9 tk9 F9 N9; (try dsimp only); (try k_fold)) | (refine' c_map ?k1 ?k2 ?k3 ?k4 ?k5 ?kK ?hb ?hi ?hn ?kd ?ku ?_; (case k1 => k_asm); (case k2 => k_asm); (case k3 => k_asm); (case k4 => k_asm); (case k5 => k_asm); (case kK => exact rfl); (case hb => assumption); (case hi => assumption); (case hn => assumption); (case kd => ktr_room); (case ku => ktr_units); intro D9 o9 kvs9 h9 tk9 F9 N9 hd9 hi9 l9 lo9; (try dsimp only); (try k_lt l9); (try k_fold)))))
local macro_rules | `(tactic| walk_at "compareOp NotIn bytes bytes") => `(tactic| (k_here; (rename Fr _ _ _ _ => F8); (rename News _ _ _ _ => N8); k_dflt (refine' notIn_bytes_none ?dh ?db ?dn ?_; (case dh => exact rfl); (case db => assumption); (case dn => assumption)); intro h9 tk9 hk9; (have F9 := Fr.keptAll F8 hk9); (have N9 := News.grown N8 hk9); clear F8 N8 hk9))
local macro_rules | `(tactic| walk_at "subscriptTail Name Name ref int") => `(tactic| (k_here; (rename News _ _ _ _ => N8); k_dflt (refine' map_item N8 ?dp ?dd ?di ?dl ?dh ?_ ?_; (case dp => k_mem); (case dd => assumption); (case di => assumption); (case dl => assumption); (case dh => exact rfl)); (intro hm9 t9 tk9; rotate_left; intro hm9 h9 tk9 e9 hn9; rotate_right)))
local macro_rules | `(tactic| walk_at "getMethod bytes") => `(tactic| (with_reducible refine method_rstrip ?_))
local macro_rules | `(tactic| walk_at "call builtin:bytes.rstrip") => `(tactic| (k_here; k_dflt (refine' rstrip_bytes ?db ?dl ?_; (case db => assumption); (case dl => omega)); intro c9 t9 tk9 hc9))
local macro_rules | `(tactic| walk_at "noteFrame ref") => `(tactic| (k_here; (rename Heap.NewExc _ _ _ _ => nx9); (rename Fr _ _ _ _ => F8); (rename News _ _ _ _ => N8); (rename Below _ _ _ _ => B8); k_dflt (refine' own_NB (T' := "KeyError") B8 nx9 F8 N8 ?XB ?TB ?ex PyProof.Rows.Boot.«KeyError» ?hn kr_isExc_KeyError kr_notTuple_KeyError ?hs ?_ ?hk ?hlo ?hx ?hd; (case XB => exact Gd.x (by assumption)); (case TB => exact Gd.t (by assumption)); (case ex => k_is); (case hn => decide); (case hs => kts_sub); (case hk => exact rfl); (case hlo => exact rfl); (case hx => exact rfl); (case hd => decide); k_whole); intro h9 g9 tk9 T9 F9 N9 K9 X9 P9 C9; clear nx9 F8 N8 B8; (try k_lift K9); (try k_sweep)))
local macro_rules | `(tactic| walk_at "exec Raise some some") => `(tactic| (k_here; (rename Fr _ _ _ _ => F8); (rename News _ _ _ _ => N8); (rename Below _ _ _ _ => B8); (rename Ctx _ _ => c8); k_dflt (refine' raise_under PySem.F.excCall_ValueError PySem.F.excRaise_ValueError ?hh ?C ?hx ?_; (case hh => exact rfl); (case C => exact c8); (case hx => exact name_B F8 (by k_asm) (by k_asm) (by k_is) PyProof.Rows.Boot.«ValueError» (by decide) ⟨rfl, _, rfl⟩)); intro e8 t8 o8 h8 tk8 kp8 hn8 he8 hc8 hd8; k_dflt (refine suite_raised B8 F8 N8 kp8 hn8 he8 hc8 hd8 rfl rfl rfl rfl ?_); intro h7 tk7 R7 U7; (try dsimp only at R7 U7 ⊢)))
local macro_rules | `(tactic| walk_at "leaving ref") => `(tactic| (k_here; (rename RaisedHN _ _ _ _ _ _ _ _ => R8); (rename Fr _ _ _ _ => F8); (rename Heap.UpToSlots _ _ => U8); k_dflt (refine' leave_heldX R8 (kts_self F8) U8 ?_); intro h6 R6 U6; clear R8 U8))
set_option maxRecDepth 100000 in
set_option maxHeartbeats 600000 in
theorem c_decode {v bs : Array UInt8} {ks vs : List Int} {tk1 tk2 : Tok}
    (B : Below A₀ base outer h₀) (F : Fr h₀ L s.heap m) (X : (hd.heap_39 w.params).In h₀) (N : News h₀ L s.heap news) (T : Top PP LO mean mg mb h₀) (hk : cs.kind = .function)
    (hb : KBw.bInts bs = ks) (hnd : ks.Nodup) (hn0 : 2 ≤ ks.length) (hn1 : ks.length ≤ 61) (hsp : (((32 : UInt8).toNat : Nat) : Int) ∉ ks) (hv : KBw.bInts v = vs) (hvl : vs.length ≤ 100)
    (GD : Gd w base mean mg mb)
    (hd : dp + 4 < recursionLimit) (hu : un + 50 < cLine)
    (hret : (∀ c ∈ rstripL vs, c ∈ ks) → ∀ t h' tk, Fr h₀ L h' m → News h₀ L h' news → Q (.int (decF ks (rstripL vs)) t) { s with heap := h', toks := tk })
    (hbad : (∃ c ∈ rstripL vs, c ∉ ks) → ∀ G e h' tk, Fr h₀ L G m → RaisedSN base G (envX cn cs L a ccd cl :: outer) e (.type "ValueError") news h' → G.UpToSlots h' → E (.ref e) { s with heap := h', toks := tk }) :
    wpAny (model prog w) (ktrTop dp un gd cn cs L a ccd cl outer) (call (.ref 43) [.bytes v tk1, .bytes bs tk2]) Q E s := by
  k_with "pyIter bytes" => k_state (fun pre decimal => decimal = decF ks pre ∧ ∀ c ∈ pre, c ∈ ks) "decimal"
  k_with "state" => (with_reducible first | exact decF_nil | exact decF_snoc (And.intro (by assumption) (by assumption)) (by assumption))
  refine wpAny_call ?_
  k_dflt (refine' code_def ?k1 ?k2 ?k3 ?k4 ?k5 ?kA ?kF ?kK ?k6 ?k7 ?k8 ?k9 ?kB ?_ ?c2 ?c3 ?c4 ?c5; (case kA => exact rfl); (case kF => exact rfl); (case kK => assumption); (case k1 => k_asm); (case k2 => k_asm); (case k3 => k_asm); (case k4 => k_asm); (case k5 => k_asm); (case k6 => k_is); (case k7 => k_is); (case k8 => ktr_room); (case k9 => first | exact BindsTo.of_eq rfl | exact binds_K (by k_in) rfl (by k_is) rfl rfl rfl | (refine' kp_binds ?kx ?ke; (case kx => k_in); (case ke => exact fun _ => rfl))); (case c5 => decide); (case kB => exact locs rfl); (case c2 => exact rfl); (case c3 => exact rfl); (case c4 => exact rfl); k_whole; intro g' L' h' FG' F' N' B' X' T'; (try dsimp only); (try k_lift B'); (try k_fold))
  k_steps
  k_with_none
  · rename _ ∉ ks => hm
    rename rstripL vs = _ => hq
    rename RaisedSN _ _ _ _ _ _ _ => R6
    rename KtsTurn _ _ _ => T9
    rename Heap.UpToSlots _ _ => U6
    refine hbad ⟨_, ?_, hm⟩ _ _ _ _ (by assumption) (raised_sub ?_ (raised_turn T9 R6)) (slots_turn T9 U6)
    · rw [hq]
      exact List.mem_append_right _ (.head _)
    · intro q hq
      first | exact List.mem_cons_of_mem _ (List.mem_append_left _ hq) | exact List.mem_cons_of_mem _ hq
  · rename (_ : Int) = decF ks (rstripL vs) => hv'
    rename ∀ c ∈ rstripL vs, c ∈ ks => hall
    rw [hv']
    exact hret hall _ _ _ (by assumption) (newsTail (by assumption))
end
end
end Fe38
theorem Fe38.restFM : True := by
  w_top off
  trivial
namespace Fe38
def btcB : Array UInt8 := #[49, 50, 51, 52, 53, 54, 55, 56, 57, 65, 66, 67, 68, 69, 70, 71, 72, 74, 75, 76, 77, 78, 80, 81, 82, 83, 84, 85, 86, 87, 88, 89, 90, 97, 98, 99, 100, 101, 102, 103, 104, 105, 106, 107, 109, 110, 111, 112, 113, 114, 115, 116, 117, 118, 119, 120, 121, 122]
section
variable {prog : Program} {w : World} {dp un : Nat} {gd : Option (List Code)} {cn : Str} {cs : Scope} {a : Addr} {ccd : Value} {cl : List (Str × Addr)} {outer : List Env} {A₀ : Around} {base h₀ : Heap} {L : Addr} {m : Str → Option Value} {news : List (Addr × Obj)} {s : Shared} {Q E : Value → Shared → Prop} {mean : ExcName → Option Value} {mg mb : Str → Option Value}
section
local macro_rules | `(tactic| walk_at "pad 0") => `(tactic| fail)
local macro_rules | `(tactic| walk_at "pad 1") => `(tactic| fail)
local macro_rules | `(tactic| walk_at "pad 2") => `(tactic| fail)
local macro_rules | `(tactic| walk_at "pad 3") => `(tactic| fail)
local macro_rules | `(tactic| walk_at "pad 4") => `(tactic| fail)
local macro_rules | `(tactic| walk_at "pad 5") => `(tactic| fail)
local macro_rules | `(tactic| walk_at "pad 6") => `(tactic| fail)
local macro_rules | `(tactic| walk_at "pad 7") => `(tactic| fail)
local macro_rules | `(tactic| walk_at "pad 8") => `(tactic| fail)
local macro_rules | `(tactic| walk_at "pad 9") => `(tactic| fail)
local macro_rules | `(tactic| walk_at "pad 10") => `(tactic| fail)
local macro_rules | `(tactic| walk_at "pad 11") => `(tactic| fail)
local macro_rules | `(tactic| walk_at "pad 12") => `(tactic| fail)
local macro_rules | `(tactic| walk_at "pad 13") => `(tactic| fail)
local macro_rules | `(tactic| walk_at "pad 14") => `(tactic| fail)
local macro_rules | `(tactic| walk_at "pad 15") => `(tactic| fail)
local macro_rules | `(tactic| walk_at "pad 16") => `(tactic| fail)
local macro_rules | `(tactic| walk_at "pad 17") => `(tactic| fail)
local macro_rules | `(tactic| walk_at "pad 18") => `(tactic| fail)
local macro_rules | `(tactic| walk_at "pad 19") => `(tactic| fail)
local macro_rules | `(tactic| walk_at "pad 20") => `(tactic| fail)
local macro_rules | `(tactic| walk_at "pad 21") => `(tactic| fail)
local macro_rules | `(tactic| walk_at "pad 22") => `(tactic| fail)
local macro_rules | `(tactic| walk_at "pad 23") => `(tactic| fail)
local macro_rules | `(tactic| walk_at "pad 24") => `(tactic| fail)
local macro_rules | `(tactic| walk_at "pad 25") => `(tactic| fail)
local macro_rules | `(tactic| walk_at "pad 26") => `(tactic| fail)
local macro_rules | `(tactic| walk_at "pad 27") => `(tactic| fail)
local macro_rules | `(tactic| walk_at "pad 28") => `(tactic| fail)
local macro_rules | `(tactic| walk_at "pad 29") => `(tactic| fail)
local macro_rules | `(tactic| walk_at "pad 30") => `(tactic| fail)
local macro_rules | `(tactic| walk_at "pad 31") => `(tactic| fail)
local macro_rules | `(tactic| walk_at "pad 32") => `(tactic| fail)
local macro_rules | `(tactic| walk_at "pad 33") => `(tactic| fail)
local macro_rules | `(tactic| walk_at "pad 34") => `(tactic| fail)
local macro_rules | `(tactic| walk_at "pad 35") => `(tactic| fail)
local macro_rules | `(tactic| walk_at "pad 36") => `(tactic| fail)
local macro_rules | `(tactic| walk_at "pad 37") => `(tactic| fail)
local macro_rules | `(tactic| walk_at "pad 38") => `(tactic| fail)
local macro_rules | `(tactic| walk_at "pad 39") => `(tactic| fail)
local macro_rules | `(tactic| walk_at "binaryOp Add bytes bytes") => `(tactic| (k_extra "my Add"))
set_option maxRecDepth 100000 in
set_option maxHeartbeats 8000000 in
theorem c_encode1 {n : Int} {bs : Array UInt8} {ks : List Int} {tk1 : Tok} {G : Int → List Int}
    (B : Below A₀ base outer h₀) (F : Fr h₀ L s.heap m) (X : (hd.heap_39 w.params).In h₀) (N : News h₀ L s.heap news) (T : Top PP LO mean mg mb h₀) (hk : cs.kind = .function)
    (hi0 : 0 ≤ n) (hbs : bs = btcB) (hb : KBw.bInts bs = ks) (hn0 : 2 ≤ ks.length) (hn1 : ks.length ≤ 61) (hG0 : G 0 = []) (hGs : ∀ i, 0 < i → G i = G (i.fdiv (ks.length : Int)) ++ [ks.getD (i.fmod (ks.length : Int)).toNat 0]) (hGl : (G n).length ≤ 100)
    (hd : dp + 2 < recursionLimit) (hu : un + 20 < cLine)
    (hret : ∀ c t h' tk', Fr h₀ L h' m → News h₀ L h' news → KBw.bInts c = (if n = 0 ∧ true = true then [ks.getD 0 0] else G n) → Q (.bytes c t) { s with heap := h', toks := tk' }) :
    wpAny (model prog w) (ktrTop dp un gd cn cs L a ccd cl outer) (call (.ref 29) [.int n tk1]) Q E s := by
  k_with "exec While Name cons nil" => k_while (fun _ i string => 0 ≤ i ∧ G i ++ KBw.bInts string = G n) (fun _ i string => i.toNat) "i" "string"
  k_with "state" => first | exact enc_0 hi0 | exact enc_1 hn0 hGs (by assumption) (by assumption) (by assumption) (by assumption)
  k_with "measure" => exact enc_m hn0 (by assumption) (by assumption)
  k_with "my Add" => (refine KBa.add_K (by assumption) rfl (enc_sz hn1 hGl (by assumption)) ?_; intro _ _ _)
  refine wpAny_call ?_
  k_dflt (refine' code_def ?k1 ?k2 ?k3 ?k4 ?k5 ?kA ?kF ?kK ?k6 ?k7 ?k8 ?k9 ?kB ?_ ?c2 ?c3 ?c4 ?c5; (case kA => exact rfl); (case kF => exact rfl); (case kK => assumption); (case k1 => k_asm); (case k2 => k_asm); (case k3 => k_asm); (case k4 => k_asm); (case k5 => k_asm); (case k6 => k_is); (case k7 => k_is); (case k8 => ktr_room); (case k9 => first | exact BindsTo.of_eq rfl | exact binds_K (by k_in) rfl (by k_is) rfl rfl rfl | (refine' kp_binds ?kx ?ke; (case kx => k_in); (case ke => exact fun _ => rfl))); (case c5 => decide); (case kB => exact locs rfl); (case c2 => exact rfl); (case c3 => exact rfl); (case c4 => exact rfl); k_whole; intro g' L' h' FG' F' N' B' X' T'; (try dsimp only); (try k_lift B'); (try k_fold))
  have F9 : Fr g' L' h' (fun y => List.lookup y ([("i", .int n tk1), ("default_one", .bool true), ("alphabet", .bytes bs 189)] : List (Str × Value)).reverse) := by
    subst hbs
    exact F'
  clear F'
  k_steps
  all_goals refine hret _ _ _ _ (by assumption) (by assumption) ?_
  · exact enc_e hG0 (by assumption) (by assumption) (fun h => absurd h.1 (by assumption))
  · exact enc_z hn0 ⟨by assumption, rfl⟩ (by assumption)
  k_with_none
end
end
end Fe38
theorem Fe38.restFH1 : True := by
  w_top off
  trivial
namespace Fe38
section
variable {prog : Program} {w : World} {dp un : Nat} {gd : Option (List Code)} {cn : Str} {cs : Scope} {a : Addr} {ccd : Value} {cl : List (Str × Addr)} {outer : List Env} {A₀ : Around} {base h₀ : Heap} {L : Addr} {m : Str → Option Value} {news : List (Addr × Obj)} {s : Shared} {Q E : Value → Shared → Prop} {mean : ExcName → Option Value} {mg mb : Str → Option Value}
section
local macro_rules | `(tactic| walk_at "call ref") => `(tactic| (k_here; k_dflt (first | (refine' c_scrubB ?k1 ?k2 ?k3 ?k4 ?k5 ?kK ?kd ?ku ?_; (case k1 => k_asm); (case k2 => k_asm); (case k3 => k_asm); (case k4 => k_asm); (case k5 => k_asm); (case kK => exact rfl); (case kd => ktr_room); (case ku => ktr_units); intro t9 h9 tk9 F9 N9; (try dsimp only); (try k_fold)) | (refine' c_map ?k1 ?k2 ?k3 ?k4 ?k5 ?kK ?hb ?hi ?hn ?kd ?ku ?_; (case k1 => k_asm); (case k2 => k_asm); (case k3 => k_asm); (case k4 => k_asm); (case k5 => k_asm); (case kK => exact rfl); (case hb => assumption); (case hi => assumption); (case hn => assumption); (case kd => ktr_room); (case ku => ktr_units); intro D9 o9 kvs9 h9 tk9 F9 N9 hd9 hi9 l9 lo9; (try dsimp only); (try k_lt l9); (try k_fold)))))
local macro_rules | `(tactic| walk_at "compareOp NotIn bytes bytes") => `(tactic| (k_here; (rename Fr _ _ _ _ => F8); (rename News _ _ _ _ => N8); k_dflt (refine' notIn_bytes_none ?dh ?db ?dn ?_; (case dh => exact rfl); (case db => assumption); (case dn => assumption)); intro h9 tk9 hk9; (have F9 := Fr.keptAll F8 hk9); (have N9 := News.grown N8 hk9); clear F8 N8 hk9))
local macro_rules | `(tactic| walk_at "subscriptTail Name Name ref int") => `(tactic| (k_here; (rename News _ _ _ _ => N8); k_dflt (refine' map_item N8 ?dp ?dd ?di ?dl ?dh ?_ ?_; (case dp => k_mem); (case dd => assumption); (case di => assumption); (case dl => assumption); (case dh => exact rfl)); (intro hm9 t9 tk9; rotate_left; intro hm9 h9 tk9 e9 hn9; rotate_right)))
local macro_rules | `(tactic| walk_at "getMethod bytes") => `(tactic| (with_reducible refine method_rstrip ?_))
local macro_rules | `(tactic| walk_at "call builtin:bytes.rstrip") => `(tactic| (k_here; k_dflt (refine' rstrip_bytes ?db ?dl ?_; (case db => assumption); (case dl => omega)); intro c9 t9 tk9 hc9))
local macro_rules | `(tactic| walk_at "noteFrame ref") => `(tactic| (k_here; (rename Heap.NewExc _ _ _ _ => nx9); (rename Fr _ _ _ _ => F8); (rename News _ _ _ _ => N8); (rename Below _ _ _ _ => B8); k_dflt (refine' own_NB (T' := "KeyError") B8 nx9 F8 N8 ?XB ?TB ?ex PyProof.Rows.Boot.«KeyError» ?hn kr_isExc_KeyError kr_notTuple_KeyError ?hs ?_ ?hk ?hlo ?hx ?hd; (case XB => exact Gd.x (by assumption)); (case TB => exact Gd.t (by assumption)); (case ex => k_is); (case hn => decide); (case hs => kts_sub); (case hk => exact rfl); (case hlo => exact rfl); (case hx => exact rfl); (case hd => decide); k_whole); intro h9 g9 tk9 T9 F9 N9 K9 X9 P9 C9; clear nx9 F8 N8 B8; (try k_lift K9); (try k_sweep)))
local macro_rules | `(tactic| walk_at "exec Raise some some") => `(tactic| (k_here; (rename Fr _ _ _ _ => F8); (rename News _ _ _ _ => N8); (rename Below _ _ _ _ => B8); (rename Ctx _ _ => c8); k_dflt (refine' raise_under PySem.F.excCall_ValueError PySem.F.excRaise_ValueError ?hh ?C ?hx ?_; (case hh => exact rfl); (case C => exact c8); (case hx => exact name_B F8 (by k_asm) (by k_asm) (by k_is) PyProof.Rows.Boot.«ValueError» (by decide) ⟨rfl, _, rfl⟩)); intro e8 t8 o8 h8 tk8 kp8 hn8 he8 hc8 hd8; k_dflt (refine suite_raised B8 F8 N8 kp8 hn8 he8 hc8 hd8 rfl rfl rfl rfl ?_); intro h7 tk7 R7 U7; (try dsimp only at R7 U7 ⊢)))
local macro_rules | `(tactic| walk_at "leaving ref") => `(tactic| (k_here; (rename RaisedHN _ _ _ _ _ _ _ _ => R8); (rename Fr _ _ _ _ => F8); (rename Heap.UpToSlots _ _ => U8); k_dflt (refine' leave_heldX R8 (kts_self F8) U8 ?_); intro h6 R6 U6; clear R8 U8))
set_option maxRecDepth 100000 in
set_option maxHeartbeats 8000000 in
theorem c_decode1 {v bs : Array UInt8} {ks vs : List Int} {tk1 : Tok}
    (B : Below A₀ base outer h₀) (F : Fr h₀ L s.heap m) (X : (hd.heap_39 w.params).In h₀) (N : News h₀ L s.heap news) (T : Top PP LO mean mg mb h₀) (hk : cs.kind = .function)
    (hbs : bs = btcB) (hb : KBw.bInts bs = ks) (hnd : ks.Nodup) (hn0 : 2 ≤ ks.length) (hn1 : ks.length ≤ 61) (hsp : (((32 : UInt8).toNat : Nat) : Int) ∉ ks) (hv : KBw.bInts v = vs) (hvl : vs.length ≤ 100)
    (GD : Gd w base mean mg mb)
    (hd : dp + 4 < recursionLimit) (hu : un + 50 < cLine)
    (hret : (∀ c ∈ rstripL vs, c ∈ ks) → ∀ t h' tk, Fr h₀ L h' m → News h₀ L h' news → Q (.int (decF ks (rstripL vs)) t) { s with heap := h', toks := tk })
    (hbad : (∃ c ∈ rstripL vs, c ∉ ks) → ∀ G e h' tk, Fr h₀ L G m → RaisedSN base G (envX cn cs L a ccd cl :: outer) e (.type "ValueError") news h' → G.UpToSlots h' → E (.ref e) { s with heap := h', toks := tk }) :
    wpAny (model prog w) (ktrTop dp un gd cn cs L a ccd cl outer) (call (.ref 43) [.bytes v tk1]) Q E s := by
  k_with "pyIter bytes" => k_state (fun pre decimal => decimal = decF ks pre ∧ ∀ c ∈ pre, c ∈ ks) "decimal"
  k_with "state" => (with_reducible first | exact decF_nil | exact decF_snoc (And.intro (by assumption) (by assumption)) (by assumption))
  refine wpAny_call ?_
  k_dflt (refine' code_def ?k1 ?k2 ?k3 ?k4 ?k5 ?kA ?kF ?kK ?k6 ?k7 ?k8 ?k9 ?kB ?_ ?c2 ?c3 ?c4 ?c5; (case kA => exact rfl); (case kF => exact rfl); (case kK => assumption); (case k1 => k_asm); (case k2 => k_asm); (case k3 => k_asm); (case k4 => k_asm); (case k5 => k_asm); (case k6 => k_is); (case k7 => k_is); (case k8 => ktr_room); (case k9 => first | exact BindsTo.of_eq rfl | exact binds_K (by k_in) rfl (by k_is) rfl rfl rfl | (refine' kp_binds ?kx ?ke; (case kx => k_in); (case ke => exact fun _ => rfl))); (case c5 => decide); (case kB => exact locs rfl); (case c2 => exact rfl); (case c3 => exact rfl); (case c4 => exact rfl); k_whole; intro g' L' h' FG' F' N' B' X' T'; (try dsimp only); (try k_lift B'); (try k_fold))
  have F9 : Fr g' L' h' (fun y => List.lookup y ([("v", .bytes v tk1), ("alphabet", .bytes bs 189), ("autofix", .bool false)] : List (Str × Value)).reverse) := by
    subst hbs
    exact F'
  clear F'
  k_steps
  k_with_none
  · rename _ ∉ ks => hm
    rename rstripL vs = _ => hq
    rename RaisedSN _ _ _ _ _ _ _ => R6
    rename KtsTurn _ _ _ => T9
    rename Heap.UpToSlots _ _ => U6
    refine hbad ⟨_, ?_, hm⟩ _ _ _ _ (by assumption) (raised_sub ?_ (raised_turn T9 R6)) (slots_turn T9 U6)
    · rw [hq]
      exact List.mem_append_right _ (.head _)
    · intro q hq
      first | exact List.mem_cons_of_mem _ (List.mem_append_left _ hq) | exact List.mem_cons_of_mem _ hq
  · rename (_ : Int) = decF ks (rstripL vs) => hv'
    rename ∀ c ∈ rstripL vs, c ∈ ks => hall
    rw [hv']
    exact hret hall _ _ _ (by assumption) (newsTail (by assumption))
end
end
end Fe38
theorem Fe38.restFM1 : True := by
  w_top off
  trivial
namespace Fe38
open PySem.Builtin.UnicodeEncodeError
set_option maxRecDepth 100000
theorem uNew : ExcNewFacts "UnicodeEncodeError" "UnicodeEncodeError.__new__" where
  ends := by decide +kernel
  owner := by decide +kernel
  entry := entryFor_alias (id' := "BaseException.__new__") (by rw [fastTable_eq_tree]; kernel_rfl) (by first | rfl | decide +kernel) (by decide +kernel) (by rw [fastTable_eq_tree]; kernel_rfl)
  sub := by rw [isSubtype_type]; kernel_rfl
  notAttr := by rw [isSubtype_type]; kernel_rfl
  notName := by rw [isSubtype_type]; kernel_rfl
  made := by kernel_rfl
theorem uNotType : (Value.type "UnicodeEncodeError" == Value.type "type") = false := by decide +kernel
theorem uCanMake : ((Manifest.find? "UnicodeEncodeError").bind fun x => List.findSome? (fun t => (Manifest.find? t).bind fun b =>
    if b.noNew = true then some true else if (b.attrs.any fun x => x.fst == "__new__") = true then some false else none) x.mro).getD false = false := by kernel_rfl
theorem uNoVector (args : Args) : checkTypeCall "UnicodeEncodeError" args = pure () := by kernel_rfl
theorem uMro : ∃ m, mroOf (.type "UnicodeEncodeError") = pure m ∧ m.isEmpty = false := ⟨[.type "UnicodeEncodeError", .type "UnicodeError", .type "ValueError", .type "Exception", .type "BaseException", .type "object"], by rw [mroOf_type]; kernel_rfl, rfl⟩
theorem uMadeBy : Bind.madeBy (.type "UnicodeEncodeError") = pure (some "UnicodeEncodeError.__new__") := by kernel_rfl
theorem uQuiet : "UnicodeEncodeError.__new__".startsWith "lifetime." = false := by decide +kernel
theorem uNewOk (rest : List Value) : checkBuiltinCall "UnicodeEncodeError.__new__" ⟨.type "UnicodeEncodeError" :: rest, []⟩ = pure () := by kernel_rfl
theorem uInit : Slot "UnicodeEncodeError" "__init__" "UnicodeEncodeError.__init__" := .of (owner := "UnicodeEncodeError") (n := "__init__") (by rw [typeLookup_type, builtinLookup_eq_fast]; kernel_rfl) (by decide +kernel) (by decide +kernel) (by decide +kernel)
    (by first | exact .inl (by decide +kernel) | exact .inr (by decide +kernel)) (by rw [isSubtype_type]; kernel_rfl)
theorem uInitEntry : entryFor table "UnicodeEncodeError.__init__" = some PySem.Builtin.«UnicodeEncodeError.__init__» := entryFor_of_tree (by kernel_rfl)
theorem uInitSplit : splitId "UnicodeEncodeError.__init__" = some ("UnicodeEncodeError", "__init__") := by kernel_rfl
theorem uInitKind : builtinKind "UnicodeEncodeError.__init__" = some .slot := by kernel_rfl
theorem uInitRow : Manifest.signature? "UnicodeEncodeError.__init__" = some ⟨.hand, "wrapper __init__", "", .self, []⟩ := by kernel_rfl
theorem uSub : isSubtype (.type "UnicodeEncodeError") (.type "UnicodeEncodeError") = pure true := uNew.sub
theorem u_check {M : Model} {A : Around} {self : Value} {rest : List Value} {E : Value → Shared → Prop} {Q : Unit → Shared → Prop}
    {hp : Heap} {g : Array GenState} {d : Drawn} {tk : Nat} {os : OsState} (hT : Shared.TypeIs ⟨hp, g, d, tk, os⟩ self "UnicodeEncodeError") (h : Q () ⟨hp, g, d, tk, os⟩) :
    wpAny M A (checkBuiltinCall "UnicodeEncodeError.__init__" ⟨self :: rest, []⟩) Q E ⟨hp, g, d, tk, os⟩ := by
  have hsub := uSub
  simp only [checkBuiltinCall, uInitKind, uInitSplit, uInitRow]
  wp_walk
  exact h
section
variable {prog : Program} {w : World} {A : Around}
theorem u_type_call {rest : List Value} {E : Value → Shared → Prop} {Q : Fin → Shared → Prop} {hp : Heap} {g : Array GenState} {d : Drawn} {tk : Nat} {os : OsState} (hrest : rest.length ≤ sizeLine)
    (h : ∀ h₁, h₁ = ((hp.push { cls := .type "tuple", data := .seq rest.toArray }).push { cls := .type "UnicodeEncodeError", data := .fields #[.ref hp.objs.size, .none, .none, .none, .bool false, .none] }) →
      wpAny (model prog w) A.in1 (PySem.Builtin.«UnicodeEncodeError.__init__» ⟨.ref (hp.objs.size + 1) :: rest, []⟩) (fun r s' => r = .done (.ret .none) ∧ Q (.done (.ret (.ref (hp.objs.size + 1)))) s') E ⟨h₁, g, d, tk, os⟩) :
    wpAny (model prog w) A (PySem.Builtin.«type.__call__» ⟨.type "UnicodeEncodeError" :: rest, []⟩) Q E ⟨hp, g, d, tk, os⟩ := by
  have hnt := uNotType
  have hcan := uCanMake
  have hchk := uNoVector ⟨rest, []⟩
  obtain ⟨m, hmro, hne⟩ := uMro
  have hmade := uMadeBy
  wp_walk
  refine codeAny_call_builtin_code (Code.quiet_builtin _ uQuiet) (wpAny_of_eq (uNewOk rest) ?_)
  refine codeAny_exc_new uNew ?_ hrest
  show wpAny _ _ _ _ _ _
  have hget : ((hp.push { cls := .type "tuple", data := .seq rest.toArray }).push
      { cls := .type "UnicodeEncodeError", data := .fields #[.ref hp.objs.size, .none, .none, .none, .bool false, .none] }).get? (hp.objs.size + 1) = some
      { cls := .type "UnicodeEncodeError", data := .fields #[.ref hp.objs.size, .none, .none, .none, .bool false, .none] } := by heap_get
  refine wpAny_bind (wpAny_isInstance ⟨_, hget, rfl⟩ uSub ?_)
  wp_step
  refine wpAny_bind (wpAny_holding (wpAny_callSpecial?_slot ⟨_, hget, rfl⟩ uInit (wpAny_call (codeAny_call_builtin uInit.plain uInitEntry ?_))))
  refine u_check ⟨_, hget, rfl⟩ ?_
  refine wpAny_mono (h _ rfl) (fun r s' hr => ?_) fun _ _ x => x
  obtain ⟨rfl, hr⟩ := hr
  dsimp only
  rw [if_neg (by decide)]
  exact wpAny_pure hr
end
end Fe38
theorem Fe38.restFU : True := by
  w_top off
  trivial
namespace Fe38
set_option maxRecDepth 100000
open PySem.Builtin.UnicodeEncodeError
abbrev U6 (p : Value) : Obj := { cls := .type "UnicodeEncodeError", data := .fields #[p, .none, .none, .none, .bool false, .none] }
abbrev U11 (p en ob : Value) (i j : Int) (rs : Value) : Obj := { cls := .type "UnicodeEncodeError", data := .fields #[p, .none, .none, .none, .bool false, .none, en, ob, rawInt i, rawInt j, rs] }
section
variable {M : Model} {A : Around} {E : Value → Shared → Prop} {s : Shared} {e : Addr} {p en ob rs : Value} {i j : Int}
theorem u_mem0 {Q : Members → Shared → Prop} (he : s.heap.get? e = some (U6 p)) (h : Q {} s) : wpAny M A (members (.ref e)) Q E s := by
  unfold members
  exact wpAny_bind (wpAny_fieldsOf he rfl (wpAny_pure h))
theorem u_mem {Q : Members → Shared → Prop} (he : s.heap.get? e = some (U11 p en ob i j rs)) (h : Q ⟨en, ob, i, j, rs⟩ s) : wpAny M A (members (.ref e)) Q E s := by
  unfold members
  exact wpAny_bind (wpAny_fieldsOf he rfl (wpAny_pure h))
theorem u_set0 {Q : Unit → Shared → Prop} {m : Members} (he : s.heap.get? e = some (U6 p)) (h : ∀ h', h'.get? e = some (U11 p m.encoding m.object m.start m.stop m.reason) → Heap.SameBut e s.heap h' → Q () { s with heap := h' }) : wpAny M A (setMembers (.ref e) m) Q E s := by
  unfold setMembers
  exact wpAny_updateFields he rfl (h _ (Heap.get?_update_self _ he rfl) (Heap.SameBut.update ..)) (by show (11 : Nat) ≤ _; decide)
theorem u_set {Q : Unit → Shared → Prop} {m : Members} (he : s.heap.get? e = some (U11 p en ob i j rs)) (h : ∀ h', h'.get? e = some (U11 p m.encoding m.object m.start m.stop m.reason) → Heap.SameBut e s.heap h' → Q () { s with heap := h' }) : wpAny M A (setMembers (.ref e) m) Q E s := by
  unfold setMembers
  exact wpAny_updateFields he rfl (h _ (Heap.get?_update_self _ he rfl) (Heap.SameBut.update ..)) (by show (11 : Nat) ≤ _; decide)
theorem u_str {Q : Unit → Shared → Prop} {id : String} {k : Nat} {x : Str} {t : Tok} (h : Q () s) : wpAny M A (strArgument id k (.str x t)) Q E s := by
  obtain ⟨hp, g, d, tk, os⟩ := s
  unfold strArgument
  wp_walk
  exact h
theorem u_size {Q : Int → Shared → Prop} {id : String} {k : Int} {t : Tok} (hk : 0 ≤ k ∧ k < 2 ^ 63) (h : Q k s) : wpAny M A (sizeArgument id (.int k t)) Q E s := by
  obtain ⟨hp, g, d, tk, os⟩ := s
  unfold sizeArgument
  have h1 : (decide (k < -(2 ^ 63 : Int)) || decide (k ≥ 2 ^ 63)) = false := by
    rw [Bool.or_eq_false_iff, decide_eq_false_iff_not, decide_eq_false_iff_not]
    omega
  wp_walk
  rw [if_neg (by rw [h1]; decide)]
  exact wpAny_pure h
section
variable {prog : Program} {w : World} {A : Around}
theorem u_init {E : Value → Shared → Prop} {Q : Fin → Shared → Prop} {s : Shared} {e t : Addr} {enc x rs : Str} {i j : Int} {t1 t2 t3 t4 t5 : Tok}
    (he : s.heap.get? e = some (U6 (.ref t))) (hi : 0 ≤ i ∧ i < 2 ^ 63) (hj : 0 ≤ j ∧ j < 2 ^ 63)
    (h : ∀ h' p en ob i j rs, (∀ b o, b ≠ e → s.heap.get? b = some o → h'.get? b = some o) → h'.get? e = some (U11 p en ob i j rs) → Q (.done (.ret .none)) { s with heap := h' }) :
    wpAny (model prog w) A (PySem.Builtin.«UnicodeEncodeError.__init__» ⟨[.ref e, .str enc t1, .str x t2, .int i t3, .int j t4, .str rs t5], []⟩) Q E s := by
  unfold PySem.Builtin.«UnicodeEncodeError.__init__» beginInit
  refine wpAny_bind (wpAny_bind ?_)
  refine wpAny_field he rfl (x := .ref t) rfl ?_
  unfold newTuple
  refine wpAny_bind (wpAny_newObj_type ?_ (by show (5 : Nat) ≤ _; decide))
  have he₁ := Heap.get?_push_of_some { cls := .type "tuple", data := .seq #[.str enc t1, .str x t2, .int i t3, .int j t4, .str rs t5] } he
  refine wpAny_bind (wpAny_setField he₁ rfl (by show (0 : Nat) < 6; decide) ?_)
  have e1 := Heap.get?_update_self (Obj.mapFields fun x => x.setIfInBounds 0 (Value.ref s.heap.objs.size)) he₁ rfl
  have k1 : ∀ b o, b ≠ e → s.heap.get? b = some o → ((s.heap.push { cls := .type "tuple", data := .seq #[.str enc t1, .str x t2, .int i t3, .int j t4, .str rs t5] }).update e (Obj.mapFields fun x => x.setIfInBounds 0 (Value.ref s.heap.objs.size))).get? b = some o := fun b o hb hbo => by
    rw [Heap.get?_update_other _ _ (Ne.symm hb)]
    exact Heap.get?_push_of_some _ hbo
  have e2 : _ = some (U6 (.ref s.heap.objs.size)) := e1
  clear e1
  refine wpAny_bind (wpAny_letGo ?_)
  rw [if_pos (show ((5 : Nat) == 5) = true by decide)]
  refine wpAny_bind (u_mem0 e2 (wpAny_bind (u_set0 e2 fun h3 e3 k3 => wpAny_bind (wpAny_letGo ?_))))
  refine wpAny_bind (u_mem e3 (wpAny_bind (u_set e3 fun h4 e4 k4 => wpAny_bind (wpAny_letGo ?_))))
  refine wpAny_bind (u_mem e4 (wpAny_bind (u_set e4 fun h5 e5 k5 => wpAny_bind (wpAny_letGo ?_))))
  rw [if_neg (show ¬ (([Value.str enc t1, .str x t2, .int i t3, .int j t4, .str rs t5].length != 5) = true) from (by decide : ¬ (((5 : Nat) != 5) = true)))]
  refine wpAny_pure ?_
  dsimp only
  refine wpAny_bind (u_str (wpAny_bind (u_str (wpAny_bind ?_))))
  unfold initRange
  refine wpAny_bind (u_size hi (wpAny_bind (u_mem e5 (wpAny_bind (u_set e5 fun h6 e6 k6 => wpAny_bind (u_size hj (wpAny_bind (u_mem e6 (u_set e6 fun h7 e7 k7 => ?_)))))))))
  refine wpAny_bind (u_str (wpAny_bind (u_mem e7 (wpAny_bind (u_set e7 fun h8 e8 k8 => wpAny_pure (h h8 _ _ _ _ _ _ (fun b o hb hbo => ?_) e8))))))
  rw [k8.2 b hb, k7.2 b hb, k6.2 b hb, k5.2 b hb, k4.2 b hb, k3.2 b hb]
  exact k1 b o hb hbo
theorem u_call {E : Value → Shared → Prop} {Q : Value → Shared → Prop} {s : Shared} {enc x rs : Str} {i j : Int} {t1 t2 t3 t4 t5 : Tok} (hi : 0 ≤ i ∧ i < 2 ^ 63) (hj : 0 ≤ j ∧ j < 2 ^ 63)
    (h : ∀ h' e p en ob i j rs, (∀ b o, s.heap.get? b = some o → h'.get? b = some o) → s.heap.get? e = none → h'.get? e = some (U11 p en ob i j rs) → Q (.ref e) { s with heap := h' }) :
    wpAny (model prog w) A (call (.type "UnicodeEncodeError") [.str enc t1, .str x t2, .int i t3, .int j t4, .str rs t5]) Q E s := by
  obtain ⟨hp, g, d, tk, os⟩ := s
  refine wpAny_call (codeAny_of_tree ?_)
  show wpAny _ _ (again (.builtin "type.__call__" ⟨[.type "UnicodeEncodeError", .str enc t1, .str x t2, .int i t3, .int j t4, .str rs t5], []⟩)) _ _ _
  refine wpAny_pure ⟨Code.quiet_builtin _ (by decide +kernel), codeAny_builtin entry_typeCall (u_type_call (by show (5 : Nat) ≤ _; decide) fun h₁ q => ?_)⟩
  have he : h₁.get? (hp.objs.size + 1) = some (U6 (.ref hp.objs.size)) := by
    rw [q]
    heap_get
  refine u_init he hi hj fun h' p en ob i j rs kp he' => ⟨rfl, h h' _ p en ob i j rs (fun b o hb => ?_) (Heap.get?_none_of_le (Nat.le_succ _)) he'⟩
  refine kp b o (fun z => ?_) ?_
  · have := Heap.lt_size hb
    rw [z] at this
    exact absurd this (by show ¬ hp.objs.size + 1 < hp.objs.size; omega)
  · rw [q]
    exact Heap.get?_push_of_some _ (Heap.get?_push_of_some _ hb)
end
end
end Fe38
theorem Fe38.restFV : True := by
  w_top off
  trivial
namespace Fe38
set_option maxRecDepth 100000
open PySem.Builtin PySem.Builtin._codecs
theorem encRoad_ascii (id : String) (self : Value) (x : Str) (errors : Option Str) : encodeRoad id self x (Str.ofString "ascii") errors = (do mkBytes (← encodeNarrow id asciiCodec errors self x)) := by
  first | rfl | (unfold encodeRoad; rfl) | (unfold encodeRoad; simp only []; rfl) | decide
def asc (l : Array Nat) : Array UInt8 := l.map fun c => c.toUInt8
theorem asc_fold : ∀ (l : List Nat) (acc : Array UInt8), l.foldl (fun acc y => acc ++ (asciiCodec.bytesOf y).toArray) acc = acc ++ (l.map fun c => c.toUInt8).toArray
  | [], acc => by simp
  | c :: r, acc => by
    rw [List.foldl_cons, asc_fold r]
    show acc ++ [c.toUInt8].toArray ++ _ = _
    simp
theorem asc_foldA (l : Array Nat) : l.foldl (fun acc y => acc ++ (asciiCodec.bytesOf y).toArray) #[] = asc l := by
  rw [← Array.foldl_toList, asc_fold]
  apply Array.ext'
  simp [asc]
section
variable {prog : Program} {w : World} {A : Around} {E : Value → Shared → Prop} {s : Shared}
def Raised8 (s : Shared) (E : Value → Shared → Prop) : Prop := ∀ h' e p en ob i j rs tk, (∀ b o, s.heap.get? b = some o → h'.get? b = some o) → s.heap.get? e = none → h'.get? e = some (U11 p en ob i j rs) → E (.ref e) { s with heap := h', toks := tk }
theorem u_raise {α : Type} {Q : α → Shared → Prop} {x : Str} {t : Tok} {i j : Nat} {cn rs : String} (hh : A.handled = none) (hi : i ≤ 1000) (hj : j ≤ 1000) (hcn : cn = "ascii") (hrs : rs = "ordinal not in range(128)") (h : Raised8 s E) :
    wpAny (model prog w) A (raiseEncodeFault {} cn (.str x t) i j rs : Sem α) Q E s := by
  unfold raiseEncodeFault
  show wpAny (model prog w) A (do let e ← (do call (.type "UnicodeEncodeError") [← mkStr cn, ← pure (.str x t), ← mkInt i, ← mkInt j, ← mkStr rs]); raiseNew e) Q E s
  refine wpAny_bind ?_
  obtain ⟨hp, g, d, tk, os⟩ := s
  wp_walk
  rw [if_neg (by rw [hcn]; decide)]
  refine wpAny_bind (wpAny_fresh (wpAny_pure ?_))
  wp_walk
  rw [if_neg (by rw [hrs]; decide)]
  refine wpAny_bind (wpAny_fresh (wpAny_pure ?_))
  exact u_call ⟨by omega, by omega⟩ ⟨by omega, by omega⟩ fun h' e p en ob i' j' rs' k1 k2 k3 => wpAny_raiseNew_none hh (h h' e p en ob i' j' rs' _ k1 k2 k3)
theorem enc_walk {Q : Fin → Shared → Prop} {x : Str} {t u : Tok} (h : ∀ tk, wpAny (model prog w) A (encodeRoad "str.encode" (.str x t) x (Str.ofString "ascii") none) (fun v s' => Q (.done (.ret v)) s') E { s with toks := tk }) :
    wpAny (model prog w) A (PySem.Builtin.«str.encode» ⟨[.str x t, .str (Str.ofString "ascii") u], []⟩) Q E s := by
  obtain ⟨hp, g, d, tk, os⟩ := s
  unfold PySem.Builtin.«str.encode»
  wp_walk
  rw [if_neg (by decide +kernel)]
  dsimp only
  rw [if_neg (by decide +kernel)]
  refine wpAny_pure ?_
  refine wpAny_bind (wpAny_of_eq (a := none) rfl ?_)
  exact wpAny_bind (wpAny_mono (h _) (fun v s' hq => wpAny_pure hq) fun _ _ y => y)
theorem asc_size (l : Array Nat) : (asc l).size = l.size := by simp [asc]
theorem asc_ints {l : Array Nat} (h : l.findIdx? asciiCodec.bad = none) : KBw.bInts (asc l) = l.toList.map (fun c : Nat => (c : Int)) := by
  have h' : ∀ c ∈ l.toList, c < 128 := fun c hc => by
    rw [Array.findIdx?_eq_none_iff] at h
    have := h c (by simpa using hc)
    have h2 : decide (c ≥ 128) = false := this
    have h3 := of_decide_eq_false h2
    omega
  unfold KBw.bInts asc
  rw [Array.toList_map, List.map_map]
  refine List.map_congr_left fun c hc => ?_
  have := h' c hc
  show ((c.toUInt8.toNat : Nat) : Int) = (c : Int)
  have e : c.toUInt8.toNat = c % 256 := UInt8.toNat_ofNat'
  rw [e, Nat.mod_eq_of_lt (by omega)]
def NarrowI (x : Str) (rest : List Nat) (b : Nat × Array UInt8 × Faults) : Prop :=
  b.2.2 = {} ∧ b.2.1.size ≤ 1000 ∧ ((b.1 = 0 ∧ b.2.1 = #[] ∧ rest.length = x.cps.size) ∨ (b.1 = x.cps.size ∧ x.cps.findIdx? asciiCodec.bad = none ∧ b.2.1 = asc x.cps)
    ∨ (x.cps.findIdx? asciiCodec.bad = some b.1 ∧ rest.length ≥ 1))
theorem narrow_ok {Q : Array UInt8 → Shared → Prop} {id : String} {x : Str} {t : Tok} (hh : A.handled = none) (hl : x.cps.size ≤ 1000)
    (hok : x.cps.findIdx? asciiCodec.bad = none → Q (asc x.cps) s) (hno : x.cps.findIdx? asciiCodec.bad ≠ none → Raised8 s E) :
    wpAny (model prog w) A (encodeNarrow id asciiCodec none (.str x t) x) Q E s := by
  have hs : (none.getD (Str.ofString "strict")).toString = "strict" := by decide +kernel
  have hstop : ∀ i, i ≤ x.cps.size → i + (Array.findIdx? (fun y => !asciiCodec.bad y) (x.cps.extract i)).getD (x.cps.size - i) ≤ 1000 := fun i hi => by
    have : (Array.findIdx? (fun y => !asciiCodec.bad y) (x.cps.extract i)).getD (x.cps.size - i) ≤ x.cps.size - i := by
      cases q : Array.findIdx? (fun y => !asciiCodec.bad y) (x.cps.extract i) with
      | none => exact Nat.le_refl _
      | some k =>
        have := Array.findIdx?_eq_some_iff_findIdx_eq.mp q
        have h1 := this.1
        rw [Array.size_extract] at h1
        show k ≤ _
        omega
    omega
  have hlen : x.length = x.cps.size := rfl
  unfold encodeNarrow
  dsimp only
  refine wpAny_bind ?_
  rw [Std.Legacy.Range.forIn_eq_forIn_range']
  refine wpAny_forIn_list _ (fun rest b s' => s' = s ∧ NarrowI x rest b) _ ?_ ?_ _ _ ⟨rfl, rfl, by show (0 : Nat) ≤ 1000; omega, .inl ⟨rfl, rfl, by simp [Std.Legacy.Range.size, hlen]⟩⟩
  · rintro y rest ⟨i, out, st⟩ s' ⟨rfl, h1, h2, h3⟩
    dsimp only at h1 h2 h3 ⊢
    subst h1
    rw [if_neg (by rw [sizeLine_eq]; omega)]
    have hraise : ∀ c, x.cps[i]? = some c → asciiCodec.bad c = true → x.cps.findIdx? asciiCodec.bad ≠ none → wpAny (model prog w) A
        (raiseEncodeFault ({} : Faults) asciiCodec.name (.str x t) i (i + (Array.findIdx? (fun y => !asciiCodec.bad y) (x.cps.extract i)).getD (x.cps.size - i)) asciiCodec.reason : Sem Unit) (fun _ _ => False) E s' := fun c hc hb hf => by
      have hi : i < x.cps.size := (Array.getElem?_eq_some_iff.mp hc).1
      exact u_raise hh (by omega) (hstop i (by omega)) rfl rfl (hno hf)
    rcases h3 with ⟨q1, q2, q3⟩ | ⟨q1, q2, q3⟩ | ⟨q1, q2⟩
    · subst q1 q2
      rw [List.length_cons] at q3
      have h0 : 0 < x.cps.size := by omega
      have hc : x.cps[0]? = some x.cps[0] := Array.getElem?_eq_getElem h0
      have hex : x.cps.extract 0 = x.cps := by simp
      rw [hc]
      dsimp only
      by_cases hb : asciiCodec.bad x.cps[0] = true
      · rw [if_neg (by rw [hb]; decide)]
        refine wpAny_bind (wpAny_rule ?_)
        rw [hs]
        rw [if_pos (show ("strict" == "strict" && !asciiCodec.name == "utf-8") = true from by decide)]
        refine wpAny_bind (wpAny_mono (hraise _ hc hb ?_) (fun _ _ f => f.elim) fun _ _ y => y)
        intro q
        rw [Array.findIdx?_eq_none_iff] at q
        have := q _ (Array.getElem_mem h0)
        rw [hb] at this
        cases this
      · rw [if_pos (by simp [hb])]
        refine wpAny_pure ⟨rfl, rfl, ?_, .inr ?_⟩
        · dsimp only
          rw [asc_foldA, asc_size, hex, Array.size_extract]
          omega
        · dsimp only
          rw [asc_foldA, hex]
          cases q : Array.findIdx? asciiCodec.bad x.cps with
          | none =>
            refine .inl ⟨by simp, rfl, ?_⟩
            simp
          | some k =>
            have hk := Array.findIdx?_eq_some_iff_getElem.mp q
            obtain ⟨k1, k2, k3⟩ := hk
            refine .inr ⟨by simp, ?_⟩
            have : k ≠ 0 := fun z => by subst z; exact hb k2
            omega
    · rw [q1, Array.getElem?_eq_none (Nat.le_refl _)]
      dsimp only
      refine wpAny_pure ?_
      rw [q3]
      exact wpAny_pure (hok q2)
    · obtain ⟨k1, hb, k3⟩ := Array.findIdx?_eq_some_iff_getElem.mp q1
      have hc : x.cps[i]? = some x.cps[i] := Array.getElem?_eq_getElem k1
      rw [hc]
      dsimp only
      rw [if_neg (by rw [hb]; decide)]
      refine wpAny_bind (wpAny_rule ?_)
      rw [hs]
      rw [if_pos (show ("strict" == "strict" && !asciiCodec.name == "utf-8") = true from by decide)]
      refine wpAny_bind (wpAny_mono (hraise _ hc hb ?_) (fun _ _ f => f.elim) fun _ _ y => y)
      rw [q1]
      exact fun z => nomatch z
  · rintro ⟨i, out, st⟩ s' ⟨rfl, h1, h2, h3⟩
    dsimp only at h1 h2 h3 ⊢
    refine wpAny_pure ?_
    rcases h3 with ⟨q1, q2, q3⟩ | ⟨q1, q2, q3⟩ | ⟨q1, q2⟩
    · have h0 : x.cps = #[] := Array.eq_empty_of_size_eq_zero q3.symm
      have e : out = asc x.cps := by rw [q2, h0]; simp [asc]
      rw [e]
      exact hok (by rw [h0]; simp)
    · rw [q3]
      exact hok q2
    · exact absurd q2 (by decide)
end
end Fe38
theorem Fe38.restFW : True := by
  w_top off
  trivial
namespace Fe38
section
variable {prog : Program} {w : World} {A : Around} {E : Value → Shared → Prop} {s : Shared}
theorem encode_ascii {Q : Value → Shared → Prop} {x : Str} {t u : Tok} (hh : A.handled = none) (hl : x.cps.size ≤ 1000)
    (hok : x.cps.findIdx? Builtin._codecs.asciiCodec.bad = none → ∀ c t' tk, KBw.bInts c = x.cps.toList.map (fun c : Nat => (c : Int)) → Q (.bytes c t') { s with toks := tk })
    (hno : x.cps.findIdx? Builtin._codecs.asciiCodec.bad ≠ none → Raised8 s E) :
    wpAny (model prog w) A (call (.builtin "str.encode") [.str x t, .str (Str.ofString "ascii") u]) Q E s := by
  refine wpAny_call_entry F.slot_str_encode (typeIs_str s x t) F.entry_str_encode ?_ (F.args_str_encode_2 _ _)
  refine enc_walk fun tk => ?_
  rw [encRoad_ascii]
  refine wpAny_bind (narrow_ok (E := E) hh hl (fun hq => ?_) (fun hq h' e p en ob i j rs tk' k1 k2 k3 => hno hq h' e p en ob i j rs tk' k1 k2 k3))
  unfold mkBytes
  rw [if_neg (by rw [asc_size, sizeLine_eq]; omega)]
  exact wpAny_bind (wpAny_fresh (wpAny_pure ⟨_, rfl, hok hq _ _ _ (asc_ints hq)⟩))
theorem method_encode {M : Model} {x : Str} {t : Tok} {pl : Sem Bool} {Q : Value × List Value → Shared → Prop} (h : Q (.builtin "str.encode", [.str x t]) s) : wpAny M A (getMethod (.str x t) "encode" pl) Q E s := by
  with_reducible exact GM.of (.str x t) (typeIs_str _ _ _) F.slot_str_encode F.type_str_encode GM.noRef h
end
section
variable {M : Model} {A : Around} {E : Value → Shared → Prop} {s' : Shared} {base g h : Heap} {outer : List Env} {L a e : Addr} {m : Str → Option Value} {name : Str} {scope : Scope} {cd : Value} {Q : Unit → Shared → Prop} {news : List (Addr × Obj)}
theorem leave_newU {oe : Obj} {vs : Array Value} {a0 : Value} (K : Below A base outer g) (kp : ∀ b o, h.get? b = some o → s'.heap.get? b = some o) (hne : h.get? e = none) (he : s'.heap.get? e = some oe) (hd : oe.data = .fields vs) (h0 : vs[0]? = some a0) (h1 : vs[1]? = some .none)
    (F : Fr g L h m) (N : News g L h news)
    (hQ : ∀ h', RaisedSN base g outer e oe.cls news h' → g.UpToSlots h' → Q () { s' with heap := h' }) (hk : scope.kind = .function) :
    wpAny M (A.deeper (envOf name scope L a cd)) (leaving (envOf name scope L a cd) (.ref e)) Q E s' := by
  have K' := K.push (name := name) (a := a) (cd := cd) F hk
  have hin : ∀ env ∈ (envOf name scope L a cd :: outer), ∀ b, env.frame = some b → b ∈ (envOf name scope L a cd :: outer).filterMap (·.frame) := fun env he b hb => List.mem_filterMap.mpr ⟨env, he, hb⟩
  have st : base.StaysIn (hideAll h ((envOf name scope L a cd :: outer).filterMap (·.frame))) := fun b o q => hideAll_get _ (K'.stays b o q) fun hm => by
    rw [(K'.frames.mem hm).1] at q; cases q
  have sg : ∀ b o, g.get? b = some o → b ∉ outer.filterMap (·.frame) → (hideAll h ((envOf name scope L a cd :: outer).filterMap (·.frame))).get? b = some o := fun b o q nm => hideAll_get _ (F.keep b o q) fun hm => by
    rcases kts_mem hm with z | z
    · rw [z, kts_self F] at q
      cases q
    · exact nm z
  have hl : ∀ q ∈ news, (hideAll h ((envOf name scope L a cd :: outer).filterMap (·.frame))).get? q.1 = some q.2 ∧ g.get? q.1 = none ∧ base.get? q.1 = none := fun q hq => by
    refine ⟨hideAll_get _ (N q hq).1 fun hm => ?_, (N q hq).2.2, fresh_of_stays K.stays (N q hq).2.2⟩
    obtain ⟨env, he, hf⟩ := List.mem_filterMap.mp hm
    rcases List.mem_cons.mp he with rfl | he
    · exact (N q hq).2.1 (Option.some.inj hf).symm
    · obtain ⟨o, ho, _⟩ := (K.frames.mem (List.mem_filterMap.mpr ⟨env, he, hf⟩)).2
      rw [(N q hq).2.2] at ho; cases ho
  have hen : (hideAll h ((envOf name scope L a cd :: outer).filterMap (·.frame))).get? e = none := by
    cases q : (hideAll h ((envOf name scope L a cd :: outer).filterMap (·.frame))).get? e with
    | none => rfl
    | some o => have := of_hideAll _ q; rw [hne] at this; cases this
  refine wpAny_leaving_firstW (a0 := a0) K'.stack ((funFrames_hide K'.frames hin).of_keeps fun b o hb _ => ⟨o, kp b o hb, rfl⟩) rfl he (fun b o hb => kp b o (of_hideAll _ hb)) hen hd h1 h0 fun h' hL => ?_
  obtain ⟨k1, ⟨_, _, k2⟩, k3, k4⟩ := hL
  exact hQ h' ⟨_, a0, st, sg, hl, k1, hen, k2, k3⟩ (((Heap.UpToSlots.of_keeps F.keep).trans (Heap.UpToSlots.of_keeps kp)).trans k4)
end
section
variable {prog : Program} {w : World} {dp un : Nat} {gd : Option (List Code)} {cn : Str} {cs : Scope} {a : Addr} {ccd : Value} {cl : List (Str × Addr)} {outer : List Env} {A₀ : Around} {base h₀ : Heap} {L : Addr} {m : Str → Option Value} {news : List (Addr × Obj)} {s : Shared} {Q E : Value → Shared → Prop} {mean : ExcName → Option Value} {mg mb : Str → Option Value}
section
local macro_rules | `(tactic| walk_at "pad 0") => `(tactic| fail)
local macro_rules | `(tactic| walk_at "pad 1") => `(tactic| fail)
local macro_rules | `(tactic| walk_at "pad 2") => `(tactic| fail)
local macro_rules | `(tactic| walk_at "pad 3") => `(tactic| fail)
local macro_rules | `(tactic| walk_at "pad 4") => `(tactic| fail)
local macro_rules | `(tactic| walk_at "pad 5") => `(tactic| fail)
local macro_rules | `(tactic| walk_at "pad 6") => `(tactic| fail)
local macro_rules | `(tactic| walk_at "pad 7") => `(tactic| fail)
local macro_rules | `(tactic| walk_at "pad 8") => `(tactic| fail)
local macro_rules | `(tactic| walk_at "pad 9") => `(tactic| fail)
local macro_rules | `(tactic| walk_at "pad 10") => `(tactic| fail)
local macro_rules | `(tactic| walk_at "pad 11") => `(tactic| fail)
local macro_rules | `(tactic| walk_at "pad 12") => `(tactic| fail)
local macro_rules | `(tactic| walk_at "pad 13") => `(tactic| fail)
local macro_rules | `(tactic| walk_at "pad 14") => `(tactic| fail)
local macro_rules | `(tactic| walk_at "pad 15") => `(tactic| fail)
local macro_rules | `(tactic| walk_at "pad 16") => `(tactic| fail)
local macro_rules | `(tactic| walk_at "pad 17") => `(tactic| fail)
local macro_rules | `(tactic| walk_at "pad 18") => `(tactic| fail)
local macro_rules | `(tactic| walk_at "pad 19") => `(tactic| fail)
local macro_rules | `(tactic| walk_at "pad 20") => `(tactic| fail)
local macro_rules | `(tactic| walk_at "pad 21") => `(tactic| fail)
local macro_rules | `(tactic| walk_at "pad 22") => `(tactic| fail)
local macro_rules | `(tactic| walk_at "pad 23") => `(tactic| fail)
local macro_rules | `(tactic| walk_at "pad 24") => `(tactic| fail)
local macro_rules | `(tactic| walk_at "pad 25") => `(tactic| fail)
local macro_rules | `(tactic| walk_at "pad 26") => `(tactic| fail)
local macro_rules | `(tactic| walk_at "pad 27") => `(tactic| fail)
local macro_rules | `(tactic| walk_at "pad 28") => `(tactic| fail)
local macro_rules | `(tactic| walk_at "pad 29") => `(tactic| fail)
local macro_rules | `(tactic| walk_at "pad 30") => `(tactic| fail)
local macro_rules | `(tactic| walk_at "pad 31") => `(tactic| fail)
local macro_rules | `(tactic| walk_at "pad 32") => `(tactic| fail)
local macro_rules | `(tactic| walk_at "pad 33") => `(tactic| fail)
local macro_rules | `(tactic| walk_at "pad 34") => `(tactic| fail)
local macro_rules | `(tactic| walk_at "pad 35") => `(tactic| fail)
local macro_rules | `(tactic| walk_at "pad 36") => `(tactic| fail)
local macro_rules | `(tactic| walk_at "pad 37") => `(tactic| fail)
local macro_rules | `(tactic| walk_at "pad 38") => `(tactic| fail)
local macro_rules | `(tactic| walk_at "pad 39") => `(tactic| fail)
local macro_rules | `(tactic| walk_at "getMethod str") => `(tactic| (with_reducible refine method_encode ?_))
local macro_rules | `(tactic| walk_at "call builtin:str.encode") => `(tactic| (k_here; k_dflt (refine' encode_ascii ?hh ?hl ?_ ?_; (case hh => exact rfl); (case hl => assumption)); (intro ha9 c9 t9 tk9 hc9; rotate_left; intro ha9; unfold Raised8; intro h9 e9 p9 en9 ob9 i9 j9 rs9 tk9 kp9 hn9 he9; rotate_right)))
local macro_rules | `(tactic| walk_at "leaving ref") => `(tactic| (k_here; (rename News _ _ _ _ => N8); (rename Fr _ _ _ _ => F8); (rename Below _ _ _ _ => B8); k_dflt (refine' leave_newU B8 ?kp ?hn ?he ?hd ?h0 ?h1 F8 N8 ?_ ?hk; (case kp => assumption); (case hn => assumption); (case he => assumption); (case hd => exact rfl); (case h0 => exact rfl); (case h1 => exact rfl); (case hk => exact rfl)); intro h6 R6 U6))
set_option maxRecDepth 100000 in
set_option maxHeartbeats 8000000 in
theorem c_scrubS {x : Str} {tk1 : Tok}
    (B : Below A₀ base outer h₀) (F : Fr h₀ L s.heap m) (X : (hd.heap_39 w.params).In h₀) (N : News h₀ L s.heap news) (T : Top PP LO mean mg mb h₀) (hk : cs.kind = .function)
    (hl : x.cps.size ≤ 1000) (hd : dp + 2 < recursionLimit) (hu : un + 20 < cLine)
    (hret : x.cps.findIdx? Builtin._codecs.asciiCodec.bad = none → ∀ c t h' tk', Fr h₀ L h' m → News h₀ L h' news → KBw.bInts c = x.cps.toList.map (fun c : Nat => (c : Int)) → Q (.bytes c t) { s with heap := h', toks := tk' })
    (hbad : x.cps.findIdx? Builtin._codecs.asciiCodec.bad ≠ none → ∀ G e h' tk, Fr h₀ L G m → RaisedSN base G (envX cn cs L a ccd cl :: outer) e (.type "UnicodeEncodeError") news h' → G.UpToSlots h' → E (.ref e) { s with heap := h', toks := tk }) :
    wpAny (model prog w) (ktrTop dp un gd cn cs L a ccd cl outer) (call (.ref 21) [.str x tk1]) Q E s := by
  refine wpAny_call ?_
  k_dflt (refine' code_def ?k1 ?k2 ?k3 ?k4 ?k5 ?kA ?kF ?kK ?k6 ?k7 ?k8 ?k9 ?kB ?_ ?c2 ?c3 ?c4 ?c5; (case kA => exact rfl); (case kF => exact rfl); (case kK => assumption); (case k1 => k_asm); (case k2 => k_asm); (case k3 => k_asm); (case k4 => k_asm); (case k5 => k_asm); (case k6 => k_is); (case k7 => k_is); (case k8 => ktr_room); (case k9 => first | exact BindsTo.of_eq rfl | exact binds_K (by k_in) rfl (by k_is) rfl rfl rfl | (refine' kp_binds ?kx ?ke; (case kx => k_in); (case ke => exact fun _ => rfl))); (case c5 => decide); (case kB => exact locs rfl); (case c2 => exact rfl); (case c3 => exact rfl); (case c4 => exact rfl); k_whole; intro g' L' h' FG' F' N' B' X' T'; (try dsimp only); (try k_lift B'); (try k_fold))
  k_steps
  · exact hret (by assumption) _ _ _ _ (by assumption) (by assumption) (by assumption)
  · exact hbad (by assumption) _ _ _ _ (by assumption) (by assumption) (by assumption)
end
end
end Fe38
theorem Fe38.restFX : True := by
  w_top off
  trivial
namespace Fe38
section
variable {prog : Program} {w : World} {dp un : Nat} {gd : Option (List Code)} {cn : Str} {cs : Scope} {a : Addr} {ccd : Value} {cl : List (Str × Addr)} {outer : List Env} {A₀ : Around} {base h₀ : Heap} {L : Addr} {m : Str → Option Value} {news : List (Addr × Obj)} {s : Shared} {Q E : Value → Shared → Prop} {mean : ExcName → Option Value} {mg mb : Str → Option Value}
section
local macro_rules | `(tactic| walk_at "call ref") => `(tactic| (k_here; k_dflt (first | (refine' c_scrubB ?k1 ?k2 ?k3 ?k4 ?k5 ?kK ?kd ?ku ?_; (case k1 => k_asm); (case k2 => k_asm); (case k3 => k_asm); (case k4 => k_asm); (case k5 => k_asm); (case kK => exact rfl); (case kd => ktr_room); (case ku => ktr_units); intro t9 h9 tk9 F9 N9; (try dsimp only); (try k_fold)) | (refine' c_map ?k1 ?k2 ?k3 ?k4 ?k5 ?kK ?hb ?hi ?hn ?kd ?ku ?_; (case k1 => k_asm); (case k2 => k_asm); (case k3 => k_asm); (case k4 => k_asm); (case k5 => k_asm); (case kK => exact rfl); (case hb => assumption); (case hi => assumption); (case hn => assumption); (case kd => ktr_room); (case ku => ktr_units); intro D9 o9 kvs9 h9 tk9 F9 N9 hd9 hi9 l9 lo9; (try dsimp only); (try k_lt l9); (try k_fold)))))
local macro_rules | `(tactic| walk_at "compareOp NotIn bytes bytes") => `(tactic| (k_here; (rename Fr _ _ _ _ => F8); (rename News _ _ _ _ => N8); k_dflt (refine' notIn_bytes_none ?dh ?db ?dn ?_; (case dh => exact rfl); (case db => assumption); (case dn => assumption)); intro h9 tk9 hk9; (have F9 := Fr.keptAll F8 hk9); (have N9 := News.grown N8 hk9); clear F8 N8 hk9))
local macro_rules | `(tactic| walk_at "subscriptTail Name Name ref int") => `(tactic| (k_here; (rename News _ _ _ _ => N8); k_dflt (refine' map_item N8 ?dp ?dd ?di ?dl ?dh ?_ ?_; (case dp => k_mem); (case dd => assumption); (case di => assumption); (case dl => assumption); (case dh => exact rfl)); (intro hm9 t9 tk9; rotate_left; intro hm9 h9 tk9 e9 hn9; rotate_right)))
local macro_rules | `(tactic| walk_at "getMethod bytes") => `(tactic| (with_reducible refine method_rstrip ?_))
local macro_rules | `(tactic| walk_at "call builtin:bytes.rstrip") => `(tactic| (k_here; k_dflt (refine' rstrip_bytes ?db ?dl ?_; (case db => assumption); (case dl => omega)); intro c9 t9 tk9 hc9))
local macro_rules | `(tactic| walk_at "noteFrame ref") => `(tactic| (k_here; (rename Heap.NewExc _ _ _ _ => nx9); (rename Fr _ _ _ _ => F8); (rename News _ _ _ _ => N8); (rename Below _ _ _ _ => B8); k_dflt (refine' own_NB (T' := "KeyError") B8 nx9 F8 N8 ?XB ?TB ?ex PyProof.Rows.Boot.«KeyError» ?hn kr_isExc_KeyError kr_notTuple_KeyError ?hs ?_ ?hk ?hlo ?hx ?hd; (case XB => exact Gd.x (by assumption)); (case TB => exact Gd.t (by assumption)); (case ex => k_is); (case hn => decide); (case hs => kts_sub); (case hk => exact rfl); (case hlo => exact rfl); (case hx => exact rfl); (case hd => decide); k_whole); intro h9 g9 tk9 T9 F9 N9 K9 X9 P9 C9; clear nx9 F8 N8 B8; (try k_lift K9); (try k_sweep)))
local macro_rules | `(tactic| walk_at "exec Raise some some") => `(tactic| (k_here; (rename Fr _ _ _ _ => F8); (rename News _ _ _ _ => N8); (rename Below _ _ _ _ => B8); (rename Ctx _ _ => c8); k_dflt (refine' raise_under PySem.F.excCall_ValueError PySem.F.excRaise_ValueError ?hh ?C ?hx ?_; (case hh => exact rfl); (case C => exact c8); (case hx => exact name_B F8 (by k_asm) (by k_asm) (by k_is) PyProof.Rows.Boot.«ValueError» (by decide) ⟨rfl, _, rfl⟩)); intro e8 t8 o8 h8 tk8 kp8 hn8 he8 hc8 hd8; k_dflt (refine suite_raised B8 F8 N8 kp8 hn8 he8 hc8 hd8 rfl rfl rfl rfl ?_); intro h7 tk7 R7 U7; (try dsimp only at R7 U7 ⊢)))
local macro_rules | `(tactic| walk_at "leaving ref") => `(tactic| (k_here; (rename RaisedHN _ _ _ _ _ _ _ _ => R8); (rename Fr _ _ _ _ => F8); (rename Heap.UpToSlots _ _ => U8); k_dflt (refine' leave_heldX R8 (kts_self F8) U8 ?_); intro h6 R6 U6; clear R8 U8))
local macro_rules | `(tactic| walk_at "getMethod str") => `(tactic| (with_reducible refine GM.rstrip ?_))
local macro_rules | `(tactic| walk_at "call builtin:str.rstrip") => `(tactic| (k_here; k_dflt (refine' SBL.rstrip ?_ ?hz; (case hz => (rw [sizeLine_eq]; omega))); intro t9 tk9 hz9))
local macro_rules | `(tactic| walk_at "call ref") => `(tactic| (k_here; k_dflt (refine' c_scrubS ?k1 ?k2 ?k3 ?k4 ?k5 ?kK ?kl ?kd ?ku ?_ ?_; (case k1 => k_asm); (case k2 => k_asm); (case k3 => k_asm); (case k4 => k_asm); (case k5 => k_asm); (case kK => exact rfl); (case kl => assumption); (case kd => ktr_room); (case ku => ktr_units)); (intro ha9 c9 t9 h9 tk9 F9 N9 hc9; (try dsimp only); (try k_fold); rotate_left; intro ha9 G9 e9 h9 tk9 F9 R9 U9; (try dsimp only); (try k_fold); rotate_right)))
local macro_rules | `(tactic| walk_at "leaving ref") => `(tactic| (k_here; (rename RaisedSN _ _ _ _ _ _ _ => R8); (rename Fr _ _ _ _ => F8); (rename Heap.UpToSlots _ _ => U8); (rename Below _ _ _ _ => B8); k_dflt (refine' leave_onSN B8 F8 R8 U8 ?_); intro h6 R6 _ U6; clear R8 U8))
set_option maxRecDepth 100000 in
set_option maxHeartbeats 8000000 in
theorem c_decodeS {x : Str} {bs : Array UInt8} {ks vs : List Int} {tk1 tk2 : Tok}
    (B : Below A₀ base outer h₀) (F : Fr h₀ L s.heap m) (X : (hd.heap_39 w.params).In h₀) (N : News h₀ L s.heap news) (T : Top PP LO mean mg mb h₀) (hk : cs.kind = .function)
    (hb : KBw.bInts bs = ks) (hnd : ks.Nodup) (hn0 : 2 ≤ ks.length) (hn1 : ks.length ≤ 61) (hsp : (((32 : UInt8).toNat : Nat) : Int) ∉ ks) (hxl : x.cps.size ≤ 100) (hv : (Txt.rstrip x).cps.toList.map (fun c : Nat => (c : Int)) = vs) (hvs : (Txt.rstrip x).cps.size ≤ 1000) (hvl : vs.length ≤ 100)
    (GD : Gd w base mean mg mb)
    (hd : dp + 4 < recursionLimit) (hu : un + 50 < cLine)
    (hret : (Txt.rstrip x).cps.findIdx? Builtin._codecs.asciiCodec.bad = none → (∀ c ∈ vs, c ∈ ks) → ∀ t h' tk, Fr h₀ L h' m → News h₀ L h' news → Q (.int (decF ks vs) t) { s with heap := h', toks := tk })
    (hbad : (Txt.rstrip x).cps.findIdx? Builtin._codecs.asciiCodec.bad ≠ none ∨ (∃ c ∈ vs, c ∉ ks) → ∀ X G e h' tk, X = "ValueError" ∨ X = "UnicodeEncodeError" → Fr h₀ L G m → RaisedSN base G (envX cn cs L a ccd cl :: outer) e (.type X) news h' → G.UpToSlots h' → E (.ref e) { s with heap := h', toks := tk }) :
    wpAny (model prog w) (ktrTop dp un gd cn cs L a ccd cl outer) (call (.ref 43) [.str x tk1, .bytes bs tk2]) Q E s := by
  have hxn : x.length = x.cps.size := rfl
  k_with "pyIter bytes" => k_state (fun pre decimal => decimal = decF ks pre ∧ ∀ c ∈ pre, c ∈ ks) "decimal"
  k_with "state" => (with_reducible first | exact decF_nil | exact decF_snoc (And.intro (by assumption) (by assumption)) (by assumption))
  refine wpAny_call ?_
  k_dflt (refine' code_def ?k1 ?k2 ?k3 ?k4 ?k5 ?kA ?kF ?kK ?k6 ?k7 ?k8 ?k9 ?kB ?_ ?c2 ?c3 ?c4 ?c5; (case kA => exact rfl); (case kF => exact rfl); (case kK => assumption); (case k1 => k_asm); (case k2 => k_asm); (case k3 => k_asm); (case k4 => k_asm); (case k5 => k_asm); (case k6 => k_is); (case k7 => k_is); (case k8 => ktr_room); (case k9 => first | exact BindsTo.of_eq rfl | exact binds_K (by k_in) rfl (by k_is) rfl rfl rfl | (refine' kp_binds ?kx ?ke; (case kx => k_in); (case ke => exact fun _ => rfl))); (case c5 => decide); (case kB => exact locs rfl); (case c2 => exact rfl); (case c3 => exact rfl); (case c4 => exact rfl); k_whole; intro g' L' h' FG' F' N' B' X' T'; (try dsimp only); (try k_lift B'); (try k_fold))
  k_steps
  k_with_none
  · rename _ ∉ ks => hm
    rename _ = _ ++ _ :: _ => hq
    rename RaisedSN _ _ _ _ _ _ _ => R6
    rename KtsTurn _ _ _ => T9
    rename Heap.UpToSlots _ _ => U6
    refine hbad (.inr ⟨_, ?_, hm⟩) _ _ _ _ _ (.inl rfl) (by assumption) (raised_sub ?_ (raised_turn T9 R6)) (slots_turn T9 U6)
    · rw [← hv, hq]
      exact List.mem_append_right _ (.head _)
    · intro q hq
      first | exact List.mem_cons_of_mem _ (List.mem_append_left _ hq) | exact List.mem_cons_of_mem _ hq
  · rename (_ : Int) = decF ks _ => hv'
    rename ∀ c ∈ _, c ∈ ks => hall
    rw [hv] at hv' hall
    rw [hv']
    exact hret (by assumption) hall _ _ _ (by assumption) (newsTail (by assumption))
  · exact hbad (.inl (by assumption)) _ _ _ _ _ (.inr rfl) (by assumption) (by assumption) (by assumption)
end
end
end Fe38
theorem Fe38.restFY : True := by
  w_top off
  trivial
namespace Fe38
section
variable {prog : Program} {w : World} {dp un : Nat} {gd : Option (List Code)} {cn : Str} {cs : Scope} {a : Addr} {ccd : Value} {cl : List (Str × Addr)} {outer : List Env} {A₀ : Around} {base h₀ : Heap} {L : Addr} {m : Str → Option Value} {news : List (Addr × Obj)} {s : Shared} {Q E : Value → Shared → Prop} {mean : ExcName → Option Value} {mg mb : Str → Option Value}
section
local macro_rules | `(tactic| walk_at "pad 0") => `(tactic| fail)
local macro_rules | `(tactic| walk_at "pad 1") => `(tactic| fail)
local macro_rules | `(tactic| walk_at "pad 2") => `(tactic| fail)
local macro_rules | `(tactic| walk_at "pad 3") => `(tactic| fail)
local macro_rules | `(tactic| walk_at "pad 4") => `(tactic| fail)
local macro_rules | `(tactic| walk_at "pad 5") => `(tactic| fail)
local macro_rules | `(tactic| walk_at "pad 6") => `(tactic| fail)
local macro_rules | `(tactic| walk_at "pad 7") => `(tactic| fail)
local macro_rules | `(tactic| walk_at "pad 8") => `(tactic| fail)
local macro_rules | `(tactic| walk_at "pad 9") => `(tactic| fail)
local macro_rules | `(tactic| walk_at "pad 10") => `(tactic| fail)
local macro_rules | `(tactic| walk_at "pad 11") => `(tactic| fail)
local macro_rules | `(tactic| walk_at "pad 12") => `(tactic| fail)
local macro_rules | `(tactic| walk_at "pad 13") => `(tactic| fail)
local macro_rules | `(tactic| walk_at "pad 14") => `(tactic| fail)
local macro_rules | `(tactic| walk_at "pad 15") => `(tactic| fail)
local macro_rules | `(tactic| walk_at "pad 16") => `(tactic| fail)
local macro_rules | `(tactic| walk_at "pad 17") => `(tactic| fail)
local macro_rules | `(tactic| walk_at "pad 18") => `(tactic| fail)
local macro_rules | `(tactic| walk_at "pad 19") => `(tactic| fail)
local macro_rules | `(tactic| walk_at "pad 20") => `(tactic| fail)
local macro_rules | `(tactic| walk_at "pad 21") => `(tactic| fail)
local macro_rules | `(tactic| walk_at "pad 22") => `(tactic| fail)
local macro_rules | `(tactic| walk_at "pad 23") => `(tactic| fail)
local macro_rules | `(tactic| walk_at "pad 24") => `(tactic| fail)
local macro_rules | `(tactic| walk_at "pad 25") => `(tactic| fail)
local macro_rules | `(tactic| walk_at "pad 26") => `(tactic| fail)
local macro_rules | `(tactic| walk_at "pad 27") => `(tactic| fail)
local macro_rules | `(tactic| walk_at "pad 28") => `(tactic| fail)
local macro_rules | `(tactic| walk_at "pad 29") => `(tactic| fail)
local macro_rules | `(tactic| walk_at "pad 30") => `(tactic| fail)
local macro_rules | `(tactic| walk_at "pad 31") => `(tactic| fail)
local macro_rules | `(tactic| walk_at "pad 32") => `(tactic| fail)
local macro_rules | `(tactic| walk_at "pad 33") => `(tactic| fail)
local macro_rules | `(tactic| walk_at "pad 34") => `(tactic| fail)
local macro_rules | `(tactic| walk_at "pad 35") => `(tactic| fail)
local macro_rules | `(tactic| walk_at "pad 36") => `(tactic| fail)
local macro_rules | `(tactic| walk_at "pad 37") => `(tactic| fail)
local macro_rules | `(tactic| walk_at "pad 38") => `(tactic| fail)
local macro_rules | `(tactic| walk_at "pad 39") => `(tactic| fail)
local macro_rules | `(tactic| walk_at "call ref") => `(tactic| (k_here; k_dflt (refine' c_decode ?k1 ?k2 ?k3 ?k4 ?k5 ?kK ?z1 ?z2 ?z3 ?z4 ?z5 ?z6 ?z7 ?gd ?kd ?ku ?_ ?_; (case k1 => assumption); (case k2 => k_asm); (case k3 => assumption); (case k4 => k_asm); (case k5 => assumption); (case kK => exact rfl); (case gd => assumption); (case kd => ktr_room); (case ku => ktr_units); (case z1 => assumption); (case z2 => assumption); (case z3 => assumption); (case z4 => assumption); (case z5 => assumption); (case z6 => assumption); (case z7 => assumption)); (intro ha9 t9 h9 tk9 F9 N9; (try dsimp only); rotate_left; intro hx9 G9 e9 h9 tk9 F9 R9 U9; (try dsimp only); rotate_right)))
set_option maxRecDepth 100000 in
set_option maxHeartbeats 8000000 in
theorem c_refusedB {v bs : Array UInt8} {ks vs : List Int} {tk1 tk2 : Tok}
    (B : Below A₀ base [] h₀) (F : Fr h₀ L s.heap m) (X : (hd.heap_39 w.params).In h₀) (N : News h₀ L s.heap news) (T : Top PP LO mean mg mb h₀) (hk : cs.kind = .function)
    (hb : KBw.bInts bs = ks) (hnd : ks.Nodup) (hn0 : 2 ≤ ks.length) (hn1 : ks.length ≤ 61) (hsp : (((32 : UInt8).toNat : Nat) : Int) ∉ ks) (hv : KBw.bInts v = vs) (hvl : vs.length ≤ 100) (hex : ∃ c ∈ rstripL vs, c ∉ ks)
    (GD : Gd w base mean mg mb)
    (hd : dp + 6 < recursionLimit) (hu : un + 60 < cLine)
    (hret : ∀ h' tk, Fr h₀ L h' m → News h₀ L h' news → Q (.bool true) { s with heap := h', toks := tk }) :
    wpAny (model prog w) (ktrTop dp un gd cn cs L a ccd cl []) (call (.ref 97) [.bytes v tk1, .bytes bs tk2]) Q E s := by
  refine wpAny_call ?_
  k_dflt (refine' code_defX0 ?k1 ?k2 ?k3 ?k4 ?k5 ?kA ?kF ?kK ?k6 ?k7 ?k8 ?k9 ?kB ?_ ?c2 ?c3 ?c4 ?c5; (case kA => exact rfl); (case kF => exact rfl); (case kK => assumption); (case k1 => k_asm); (case k2 => k_asm); (case k3 => k_asm); (case k4 => k_asm); (case k5 => k_asm); (case k6 => k_is); (case k7 => k_is); (case k8 => ktr_room); (case k9 => exact BindsTo.of_eq rfl); (case c5 => decide); (case kB => exact locs rfl); (case c2 => exact rfl); (case c3 => exact rfl); (case c4 => exact rfl); k_whole; intro g' L' h' FG' F' N' B' X' T' D' l1; (try dsimp only); (try k_lift B'); (try k_fold))
  have XB := GD.x
  have TB := GD.t
  k_steps
  all_goals first | exact hret _ _ (by assumption) (by assumption) | exact absurd (show ∀ c ∈ rstripL vs, c ∈ ks by assumption) (fun h => hex.elim fun c hc => hc.2 (h c hc.1))
end
end
end Fe38
theorem Fe38.restFZ : True := by
  w_top off
  trivial
namespace Fe38
section
variable {prog : Program} {w : World} {dp un : Nat} {gd : Option (List Code)} {cn : Str} {cs : Scope} {a : Addr} {ccd : Value} {cl : List (Str × Addr)} {outer : List Env} {A₀ : Around} {base h₀ : Heap} {L : Addr} {m : Str → Option Value} {news : List (Addr × Obj)} {s : Shared} {Q E : Value → Shared → Prop} {mean : ExcName → Option Value} {mg mb : Str → Option Value}
section
local macro_rules | `(tactic| walk_at "call ref") => `(tactic| (k_here; k_dflt (refine' c_decodeS ?k1 ?k2 ?k3 ?k4 ?k5 ?kK ?z1 ?z2 ?z3 ?z4 ?z5 ?z6 ?z7 ?z8 ?z9 ?gd ?kd ?ku ?_ ?_; (case k1 => assumption); (case k2 => k_asm); (case k3 => assumption); (case k4 => k_asm); (case k5 => assumption); (case kK => exact rfl); (case gd => assumption); (case kd => ktr_room); (case ku => ktr_units); (case z1 => assumption); (case z2 => assumption); (case z3 => assumption); (case z4 => assumption); (case z5 => assumption); (case z6 => assumption); (case z7 => assumption); (case z8 => assumption); (case z9 => assumption)); (intro ha8 ha9 t9 h9 tk9 F9 N9; (try dsimp only); rotate_left; intro hx9 X9 G9 e9 h9 tk9 hX9 F9 R9 U9; (try dsimp only); ((refine Or.elim hX9 ?_ ?_) <;> (intro hX8; subst hX8; clear hX9)); rotate_right)))
set_option maxRecDepth 100000 in
set_option maxHeartbeats 8000000 in
theorem c_refusedS {x : Str} {bs : Array UInt8} {ks vs : List Int} {tk1 tk2 : Tok}
    (B : Below A₀ base [] h₀) (F : Fr h₀ L s.heap m) (X : (hd.heap_39 w.params).In h₀) (N : News h₀ L s.heap news) (T : Top PP LO mean mg mb h₀) (hk : cs.kind = .function)
    (hb : KBw.bInts bs = ks) (hnd : ks.Nodup) (hn0 : 2 ≤ ks.length) (hn1 : ks.length ≤ 61) (hsp : (((32 : UInt8).toNat : Nat) : Int) ∉ ks) (hxl : x.cps.size ≤ 100) (hv : (Txt.rstrip x).cps.toList.map (fun c : Nat => (c : Int)) = vs) (hvs : (Txt.rstrip x).cps.size ≤ 1000) (hvl : vs.length ≤ 100)
    (hex : (Txt.rstrip x).cps.findIdx? Builtin._codecs.asciiCodec.bad ≠ none ∨ (∃ c ∈ vs, c ∉ ks))
    (GD : Gd w base mean mg mb)
    (hd : dp + 6 < recursionLimit) (hu : un + 60 < cLine)
    (hret : ∀ h' tk, Fr h₀ L h' m → News h₀ L h' news → Q (.bool true) { s with heap := h', toks := tk }) :
    wpAny (model prog w) (ktrTop dp un gd cn cs L a ccd cl []) (call (.ref 97) [.str x tk1, .bytes bs tk2]) Q E s := by
  refine wpAny_call ?_
  k_dflt (refine' code_defX0 ?k1 ?k2 ?k3 ?k4 ?k5 ?kA ?kF ?kK ?k6 ?k7 ?k8 ?k9 ?kB ?_ ?c2 ?c3 ?c4 ?c5; (case kA => exact rfl); (case kF => exact rfl); (case kK => assumption); (case k1 => k_asm); (case k2 => k_asm); (case k3 => k_asm); (case k4 => k_asm); (case k5 => k_asm); (case k6 => k_is); (case k7 => k_is); (case k8 => ktr_room); (case k9 => exact BindsTo.of_eq rfl); (case c5 => decide); (case kB => exact locs rfl); (case c2 => exact rfl); (case c3 => exact rfl); (case c4 => exact rfl); k_whole; intro g' L' h' FG' F' N' B' X' T' D' l1; (try dsimp only); (try k_lift B'); (try k_fold))
  have XB := GD.x
  have TB := GD.t
  k_steps
  all_goals first | exact hret _ _ (by assumption) (by assumption) | exact absurd (And.intro (show (Txt.rstrip x).cps.findIdx? Builtin._codecs.asciiCodec.bad = none by assumption) (show ∀ c ∈ vs, c ∈ ks by assumption)) (fun h => hex.elim (fun q => q h.1) (fun q => q.elim fun c hc => hc.2 (h.2 c hc.1)))
end
end
end Fe38
theorem Fe38.restFZ2 : True := by
  w_top off
  trivial
namespace Fe38
def lv (b : Int) : List Int → Int
  | [] => 0
  | x :: r => x + b * lv b r
theorem lv_snoc (b : Int) : ∀ (l : List Int) (x : Int), lv b (l ++ [x]) = lv b l + x * b ^ l.length
  | [], x => by simp [lv]
  | y :: r, x => by
    rw [List.cons_append, lv, lv, lv_snoc b r x, List.length_cons, Int.pow_succ, Int.mul_add, Int.add_assoc]
    congr 2
    rw [Int.mul_comm (b ^ r.length) b, ← Int.mul_assoc, ← Int.mul_assoc, Int.mul_comm b x]
theorem numAcc_lv (ns : List Int) (b : Int) : ∀ j, j ≤ ns.length → numAcc ns b j = lv b (ns.reverse.take j)
  | 0, _ => by simp [numAcc, lv]
  | j + 1, h => by
    have hj : j < ns.reverse.length := by rw [List.length_reverse]; omega
    rw [numAcc, numAcc_lv ns b j (by omega), List.take_succ_eq_append_getElem hj, lv_snoc, List.length_take, Nat.min_eq_left (by omega), List.getElem_reverse, List.getD_eq_getElem?_getD, List.getElem?_eq_getElem (by omega)]
    rfl
theorem numZ_lv (ns : List Int) (b : Int) : numZ ns b = lv b ns.reverse := by
  rw [numZ, numAcc_lv ns b _ (Nat.le_refl _), List.take_of_length_le (by rw [List.length_reverse]; exact Nat.le_refl _)]
theorem numZ_nil (b : Int) : numZ [] b = 0 := rfl
theorem numZ_snoc (r : List Int) (d b : Int) : numZ (r ++ [d]) b = numZ r b * b + d := by
  rw [numZ_lv, numZ_lv, List.reverse_append, List.reverse_singleton, List.singleton_append, lv, Int.add_comm, Int.mul_comm]
theorem numZ_append (b : Int) (r : List Int) : ∀ (n : Nat) (q : List Int), q.length = n → numZ (r ++ q) b = numZ r b * b ^ q.length + numZ q b
  | 0, q, h => by
    have e : q = [] := List.eq_nil_of_length_eq_zero h
    subst e
    simp [numZ_nil]
  | n + 1, q, h => by
    have hq : q ≠ [] := by intro e; subst e; cases h
    have e := List.dropLast_concat_getLast hq
    have hl : q.dropLast.length = n := by rw [List.length_dropLast]; omega
    rw [← e, ← List.append_assoc, numZ_snoc, numZ_snoc, numZ_append b r n _ hl, List.length_append, List.length_singleton, Int.pow_succ, Int.add_mul, Int.mul_assoc, Int.add_assoc]
theorem DigOf.numZ_nonneg {b : Int} (hb : 2 ≤ b) {ns : List Int} (h : DigOf b ns) : 0 ≤ numZ ns b := by
  rw [numZ_lv]
  have : ∀ l : List Int, (∀ x ∈ l, 0 ≤ x) → 0 ≤ lv b l := by
    intro l
    induction l with
    | nil => intro _; exact Int.le_refl _
    | cons x r ih =>
      intro hx
      rw [lv]
      have := ih (fun y hy => hx y (.tail _ hy))
      exact Int.add_nonneg (hx x (.head _)) (Int.mul_nonneg (by omega) this)
  exact this _ (fun x hx => (h x (List.mem_reverse.mp hx)).1)
theorem DigOf.nil {b : Int} : DigOf b [] := fun _ h => nomatch h
theorem DigOf.append {b : Int} {xs ys : List Int} (h : DigOf b xs) (g : DigOf b ys) : DigOf b (xs ++ ys) := fun x hx => (List.mem_append.mp hx).elim (h x) (g x)
theorem DigOf.reverse {b : Int} {xs : List Int} (h : DigOf b xs) : DigOf b xs.reverse := fun x hx => h x (List.mem_reverse.mp hx)
-- the sum
def dsum (b : Int) (f : Nat → Int) : Nat → Int
  | 0 => 0
  | n + 1 => dsum b f n + f n * b ^ n
theorem dsum_digR (xs : List Int) (b : Int) : ∀ n, dsum b (digR xs) n = numAcc xs b (min n xs.length)
  | 0 => by rw [Nat.zero_min]; rfl
  | n + 1 => by
    rw [dsum, dsum_digR xs b n]
    by_cases h : n < xs.length
    · rw [Nat.min_eq_left (by omega), Nat.min_eq_left (by omega), numAcc, digR, if_pos h]
    · rw [Nat.min_eq_right (by omega), Nat.min_eq_right (by omega), digR, if_neg h]
      simp
theorem addO_length (xs ys : List Int) (b : Int) : ∀ n, (addO xs ys b n).length = n
  | 0 => rfl
  | n + 1 => by rw [addO, List.length_append, addO_length xs ys b n]; rfl
theorem addO_lv (xs ys : List Int) (b : Int) : ∀ n, lv b (addO xs ys b n) + addC xs ys b n * b ^ n = dsum b (digR xs) n + dsum b (digR ys) n
  | 0 => by rw [addO, addC, lv, dsum, dsum, Int.zero_mul]
  | n + 1 => by
    have ih := addO_lv xs ys b n
    rw [addO, lv_snoc, addO_length, dsum, dsum, addC]
    have e : addC xs ys b n + digR xs n + digR ys n = addH xs ys b n := rfl
    rw [e]
    have : (if b ≤ addH xs ys b n then addH xs ys b n - b else addH xs ys b n) * b ^ n + (if b ≤ addH xs ys b n then 1 else 0) * b ^ (n + 1) = addH xs ys b n * b ^ n := by
      split
      · rw [Int.sub_mul, Int.one_mul, Int.pow_succ, Int.mul_comm (b ^ n) b]; omega
      · simp
    rw [Int.add_assoc, this]
    unfold addH
    rw [Int.add_mul, Int.add_mul]
    omega
theorem digR_bounds {xs : List Int} {b : Int} (h : DigOf b xs) (hb : 2 ≤ b) (j : Nat) : 0 ≤ digR xs j ∧ digR xs j < b := by
  unfold digR
  split
  · exact h.getD hb _
  · omega
theorem addC_bounds {xs ys : List Int} {b : Int} : ∀ n, 0 ≤ addC xs ys b n ∧ addC xs ys b n ≤ 1
  | 0 => by simp [addC]
  | n + 1 => by rw [addC]; split <;> omega
theorem addO_dig {xs ys : List Int} {b : Int} (h : DigOf b xs) (g : DigOf b ys) (hb : 2 ≤ b) : ∀ n, DigOf b (addO xs ys b n)
  | 0 => DigOf.nil
  | n + 1 => by
    rw [addO]
    refine (addO_dig h g hb n).append ?_
    intro x hx
    rw [List.mem_singleton] at hx
    have h1 := digR_bounds h hb n
    have h2 := digR_bounds g hb n
    have h3 := @addC_bounds xs ys b n
    have e : addH xs ys b n = addC xs ys b n + digR xs n + digR ys n := rfl
    subst hx
    split <;> omega
theorem addZ_dig {xs ys : List Int} {b : Int} (h : DigOf b xs) (g : DigOf b ys) (hb : 2 ≤ b) : DigOf b (addZ xs ys b) := by
  refine ((addO_dig h g hb _).append ?_).reverse
  intro x hx
  rw [List.mem_singleton] at hx
  have := @addC_bounds xs ys b (addN xs ys)
  subst hx
  omega
theorem addZ_length (xs ys : List Int) (b : Int) : (addZ xs ys b).length = max xs.length ys.length + 1 := by
  rw [addZ, List.length_reverse, List.length_append, addO_length]; rfl
theorem addZ_num (xs ys : List Int) (b : Int) : numZ (addZ xs ys b) b = numZ xs b + numZ ys b := by
  rw [numZ_lv, addZ, List.reverse_reverse, lv_snoc, addO_length, addO_lv, dsum_digR, dsum_digR, addN, Nat.min_eq_right (Nat.le_max_left _ _), Nat.min_eq_right (Nat.le_max_right _ _)]
  rfl
-- the product
theorem lv_set (b : Int) : ∀ (l : List Int) (k : Nat) (v : Int), k < l.length → lv b (l.set k v) = lv b l + (v - l.getD k 0) * b ^ k
  | [], k, v, h => nomatch h
  | x :: r, 0, v, _ => by
    rw [List.set_cons_zero, lv, lv, List.getD_cons_zero, Int.pow_zero, Int.mul_one]; omega
  | x :: r, k + 1, v, h => by
    rw [List.set_cons_succ, lv, lv, List.getD_cons_succ, lv_set b r k v (Nat.lt_of_succ_lt_succ h), Int.mul_add, Int.pow_succ, Int.mul_comm (b ^ k) b, ← Int.mul_assoc, ← Int.mul_assoc, Int.mul_comm b (v - r.getD k 0)]; omega
theorem tmU_length (xs ys : List Int) (b : Int) (i : Nat) (u : List Int) : ∀ j, (tmU xs ys b i u j).1.length = u.length
  | 0 => rfl
  | j + 1 => by rw [tmU, List.length_set, tmU_length xs ys b i u j]
theorem tmU_far (xs ys : List Int) (b : Int) (i : Nat) (u : List Int) : ∀ j k, i + j ≤ k → (tmU xs ys b i u j).1.getD k 0 = u.getD k 0
  | 0, k, _ => rfl
  | j + 1, k, h => by
    have ih := tmU_far xs ys b i u j k (by omega)
    rw [tmU]
    dsimp only
    rw [List.getD_eq_getElem?_getD, List.getElem?_set_ne (by omega), ← List.getD_eq_getElem?_getD, ih]
theorem dig_set {b : Int} {l : List Int} (h : DigOf b l) {k : Nat} {v : Int} (h0 : 0 ≤ v) (h1 : v < b) : DigOf b (l.set k v) := by
  intro x hx
  rcases List.mem_or_eq_of_mem_set hx with hx | rfl
  · exact h x hx
  · exact ⟨h0, h1⟩
theorem carry_lt {b o x y c : Int} (hb : 2 ≤ b) (ho : 0 ≤ o ∧ o < b) (hx : 0 ≤ x ∧ x < b) (hy : 0 ≤ y ∧ y < b) (hc : 0 ≤ c ∧ c < b) : 0 ≤ (o + x * y + c).fdiv b ∧ (o + x * y + c).fdiv b < b := by
  have hxy : 0 ≤ x * y := Int.mul_nonneg hx.1 hy.1
  have h1 : x * y ≤ (b - 1) * (b - 1) := Int.mul_le_mul (by omega) (by omega) hy.1 (by omega)
  have h2 : (b - 1) * (b - 1) = b * b - 2 * b + 1 := by rw [Int.sub_mul, Int.mul_sub]; omega
  rw [Int.fdiv_eq_ediv_of_nonneg _ (by omega)]
  refine ⟨Int.ediv_nonneg (by omega) (by omega), Int.ediv_lt_of_lt_mul (by omega) ?_⟩
  omega
theorem tmU_ok {xs ys : List Int} {b : Int} (hx : DigOf b xs) (hy : DigOf b ys) (hb : 2 ≤ b) {i : Nat} {u : List Int} (hu : DigOf b u) : ∀ j, DigOf b (tmU xs ys b i u j).1 ∧ 0 ≤ (tmU xs ys b i u j).2 ∧ (tmU xs ys b i u j).2 < b
  | 0 => ⟨hu, by rw [tmU]; dsimp only; omega⟩
  | j + 1 => by
    have ih := tmU_ok hx hy hb hu (i := i) j
    have hc := carry_lt hb (ih.1.getD hb (i + j)) (hx.getD hb (xs.length - 1 - i)) (hy.getD hb (ys.length - 1 - j)) ih.2
    rw [tmU]
    refine ⟨dig_set ih.1 ?_ ?_, hc⟩
    · rw [Int.fmod_eq_emod_of_nonneg _ (by omega)]; exact Int.emod_nonneg _ (by omega)
    · rw [Int.fmod_eq_emod_of_nonneg _ (by omega)]; exact Int.emod_lt_of_pos _ (by omega)
theorem tmU_lv {xs ys : List Int} {b : Int} {i : Nat} {u : List Int} (hi : i < xs.length) (hl : u.length = xs.length + ys.length) : ∀ j, j ≤ ys.length →
    lv b (tmU xs ys b i u j).1 + (tmU xs ys b i u j).2 * b ^ (i + j) = lv b u + digX xs i * b ^ i * dsum b (digX ys) j
  | 0, _ => by rw [tmU, dsum]; dsimp only; rw [Int.zero_mul, Int.mul_zero]
  | j + 1, h => by
    have ih := tmU_lv (b := b) hi hl j (by omega)
    rw [tmU]
    dsimp only
    rw [lv_set b _ _ _ (by rw [tmU_length]; omega), dsum]
    generalize hH : (tmU xs ys b i u j).1.getD (i + j) 0 = o at *
    generalize hC : (tmU xs ys b i u j).2 = c at *
    have e : (o + digX xs i * digX ys j + c).fmod b + (o + digX xs i * digX ys j + c).fdiv b * b = o + digX xs i * digX ys j + c := by
      rw [Int.mul_comm (Int.fdiv _ _)]; exact Int.fmod_add_mul_fdiv _ _
    have e1 : (o + digX xs i * digX ys j + c).fdiv b * b ^ (i + (j + 1)) = (o + digX xs i * digX ys j + c).fdiv b * b * b ^ (i + j) := by
      rw [← Nat.add_assoc, Int.pow_succ, Int.mul_comm (b ^ (i + j)) b, Int.mul_assoc]
    rw [e1, Int.add_assoc, ← Int.add_mul]
    have e2 : (o + digX xs i * digX ys j + c).fmod b - o + (o + digX xs i * digX ys j + c).fdiv b * b = digX xs i * digX ys j + c := by omega
    rw [e2, Int.add_mul, Int.mul_add]
    have e3 : digX xs i * digX ys j * b ^ (i + j) = digX xs i * b ^ i * (digX ys j * b ^ j) := by
      rw [Int.pow_add, Int.mul_assoc, Int.mul_assoc, Int.mul_left_comm (digX ys j)]
    omega
theorem dsum_digX (xs : List Int) (b : Int) : ∀ n, n ≤ xs.length → dsum b (digX xs) n = numAcc xs b n
  | 0, _ => rfl
  | n + 1, h => by
    rw [dsum, dsum_digX xs b n (by omega), numAcc, digX]
theorem lv_zero (b : Int) : ∀ n, lv b (List.replicate n 0) = 0
  | 0 => rfl
  | n + 1 => by rw [List.replicate_succ, lv, lv_zero b n, Int.mul_zero]; rfl
theorem getD_rep (n k : Nat) : (List.replicate n (0 : Int)).getD k 0 = 0 := by
  rw [List.getD_eq_getElem?_getD, List.getElem?_replicate]; split <;> rfl
theorem tmO_ok {xs ys : List Int} {b : Int} (hx : DigOf b xs) (hy : DigOf b ys) (hb : 2 ≤ b) : ∀ i, i ≤ xs.length →
    DigOf b (tmO xs ys b i) ∧ (tmO xs ys b i).length = xs.length + ys.length ∧ (∀ k, i + ys.length ≤ k → (tmO xs ys b i).getD k 0 = 0) ∧ lv b (tmO xs ys b i) = dsum b (digX xs) i * dsum b (digX ys) ys.length
  | 0, _ => by
    rw [tmO]
    refine ⟨?_, List.length_replicate, fun k _ => getD_rep _ _, ?_⟩
    · intro x hx
      rw [List.eq_of_mem_replicate hx]
      omega
    · rw [lv_zero, dsum, Int.zero_mul]
  | i + 1, h => by
    have ih := tmO_ok hx hy hb i (by omega)
    have hu := tmU_ok hx hy hb ih.1 (i := i) ys.length
    have hl := tmU_length xs ys b i (tmO xs ys b i) ys.length
    rw [tmO]
    refine ⟨dig_set hu.1 hu.2.1 hu.2.2, ?_, ?_, ?_⟩
    · rw [List.length_set, hl, ih.2.1]
    · intro k hk
      rw [List.getD_eq_getElem?_getD, List.getElem?_set_ne (by omega), ← List.getD_eq_getElem?_getD, tmU_far _ _ _ _ _ _ _ (by omega), ih.2.2.1 k (by omega)]
    · rw [lv_set b _ _ _ (by rw [hl, ih.2.1]; omega), tmU_far _ _ _ _ _ _ _ (Nat.le_refl _), ih.2.2.1 _ (Nat.le_refl _), Int.sub_zero, tmU_lv (by omega) ih.2.1 _ (Nat.le_refl _), ih.2.2.2, dsum, Int.add_mul]
theorem timedZ_dig {xs ys : List Int} {b : Int} (hx : DigOf b xs) (hy : DigOf b ys) (hb : 2 ≤ b) : DigOf b (timedZ xs ys b) := (tmO_ok hx hy hb _ (Nat.le_refl _)).1.reverse
theorem timedZ_length {xs ys : List Int} {b : Int} (hx : DigOf b xs) (hy : DigOf b ys) (hb : 2 ≤ b) : (timedZ xs ys b).length = xs.length + ys.length := by
  rw [timedZ, List.length_reverse, (tmO_ok hx hy hb _ (Nat.le_refl _)).2.1]
theorem timedZ_num {xs ys : List Int} {b : Int} (hx : DigOf b xs) (hy : DigOf b ys) (hb : 2 ≤ b) : numZ (timedZ xs ys b) b = numZ xs b * numZ ys b := by
  rw [numZ_lv, timedZ, List.reverse_reverse, (tmO_ok hx hy hb _ (Nat.le_refl _)).2.2.2, dsum_digX _ _ _ (Nat.le_refl _), dsum_digX _ _ _ (Nat.le_refl _)]
  rfl
theorem rowZ_length (ns : List Int) (at' bs : Int) (n : Nat) : (rowZ ns at' bs n).length = n := by simp [rowZ]
theorem rowZ_dig {ns : List Int} {at' bs : Int} {n : Nat} (hb : 2 ≤ bs) : DigOf bs (rowZ ns at' bs n) := by
  intro x hx
  rw [rowZ, List.mem_map] at hx
  rcases hx with ⟨k, _, rfl⟩
  unfold cellZ
  split
  · omega
  · rw [Int.fmod_eq_emod_of_nonneg _ (by omega)]
    exact ⟨Int.emod_nonneg _ (by omega), Int.emod_lt_of_pos _ (by omega)⟩
-- writing
def encN (ks : List Int) (n : Nat) : List Int := if h : n = 0 ∨ ks.length < 2 then [] else encN ks (n / ks.length) ++ [ks.getD (n % ks.length) 0]
termination_by n
decreasing_by exact Nat.div_lt_self (by omega) (by omega)
def encZ (ks : List Int) (n : Int) : List Int := encN ks n.toNat
theorem encZ_0 (ks : List Int) : encZ ks 0 = [] := by
  rw [encZ, encN]; exact dif_pos (Or.inl rfl)
theorem encZ_s {ks : List Int} (hk : 2 ≤ ks.length) (i : Int) (hi : 0 < i) : encZ ks i = encZ ks (i.fdiv (ks.length : Int)) ++ [ks.getD (i.fmod (ks.length : Int)).toNat 0] := by
  obtain ⟨n, rfl⟩ := Int.eq_ofNat_of_zero_le (Int.le_of_lt hi)
  rw [encZ, encN, dif_neg (by rw [Int.toNat_natCast]; omega), encZ, Int.toNat_natCast]
  have e1 : ((n : Int).fdiv (ks.length : Int)).toNat = n / ks.length := by
    rw [Int.fdiv_eq_ediv_of_nonneg _ (by omega), ← Int.natCast_ediv, Int.toNat_natCast]
  have e2 : ((n : Int).fmod (ks.length : Int)).toNat = n % ks.length := by
    rw [Int.fmod_eq_emod_of_nonneg _ (by omega), ← Int.natCast_emod, Int.toNat_natCast]
  rw [e1, e2]
def signed (ks : List Int) (r : List Int) : List Int := r.map fun k => ks.getD k.toNat 0
theorem bareZ_snoc (d : Int) : ∀ r, bareZ (r ++ [d]) = if bareZ r = [] then (if d = 0 then [] else [d]) else bareZ r ++ [d]
  | [] => by simp [bareZ]
  | x :: r => by
    rw [List.cons_append, bareZ, bareZ, bareZ_snoc d r]
    by_cases h : x = 0
    · rw [if_pos h, if_pos h]
    · rw [if_neg h, if_neg h, if_neg (by simp)]; rfl
theorem enc_both {ks : List Int} (hk : 2 ≤ ks.length) : ∀ (n : Nat) (r : List Int), r.length = n → DigOf (ks.length : Int) r →
    encZ ks (numZ r ks.length) = signed ks (bareZ r) ∧ (numZ r ks.length = 0 ↔ bareZ r = [])
  | 0, r, h, _ => by
    have e : r = [] := List.eq_nil_of_length_eq_zero h
    subst e
    rw [numZ_nil, encZ_0]
    exact ⟨rfl, by simp [bareZ]⟩
  | n + 1, r, h, hr => by
    have hq : r ≠ [] := by intro e; subst e; cases h
    have e := List.dropLast_concat_getLast hq
    have hl : r.dropLast.length = n := by rw [List.length_dropLast]; omega
    have hd : DigOf (ks.length : Int) r.dropLast := fun x hx => hr x (List.dropLast_subset _ hx)
    have h9 := hr _ (List.getLast_mem hq)
    have ih := enc_both hk n _ hl hd
    have h0 := hd.numZ_nonneg (by omega)
    generalize r.getLast hq = d at *
    generalize r.dropLast = q at *
    subst e
    rw [numZ_snoc, bareZ_snoc]
    have hmul : 0 ≤ numZ q ks.length * (ks.length : Int) := Int.mul_nonneg h0 (by omega)
    have hfd : (numZ q ks.length * (ks.length : Int) + d).fdiv (ks.length : Int) = numZ q ks.length := by
      rw [Int.fdiv_eq_ediv_of_nonneg _ (by omega), Int.add_comm, Int.add_mul_ediv_right _ _ (by omega), Int.ediv_eq_zero_of_lt h9.1 h9.2, Int.zero_add]
    have hfm : (numZ q ks.length * (ks.length : Int) + d).fmod (ks.length : Int) = d := by
      rw [Int.fmod_eq_emod_of_nonneg _ (by omega), Int.add_comm, Int.add_mul_emod_self_right, Int.emod_eq_of_lt h9.1 h9.2]
    by_cases hb : bareZ q = []
    · rw [if_pos hb]
      have hz : numZ q ks.length = 0 := ih.2.mpr hb
      rw [hz, Int.zero_mul, Int.zero_add]
      by_cases hd0 : d = 0
      · rw [if_pos hd0, hd0, encZ_0]
        exact ⟨rfl, by simp⟩
      · rw [if_neg hd0]
        refine ⟨?_, by simp [hd0]⟩
        rw [hz, Int.zero_mul, Int.zero_add] at hfd hfm
        rw [encZ_s hk d (by omega), hfd, hfm, encZ_0]
        rfl
    · rw [if_neg hb]
      have hnz : numZ q ks.length ≠ 0 := fun e => hb (ih.2.mp e)
      have hpos : 0 < numZ q ks.length * (ks.length : Int) := Int.mul_pos (by omega) (by omega)
      refine ⟨?_, by simp; omega⟩
      rw [encZ_s hk _ (by omega), hfd, hfm, ih.1]
      simp [signed]
theorem bareZ_length : ∀ r, (bareZ r).length ≤ r.length
  | [] => Nat.le_refl _
  | x :: r => by
    rw [bareZ]
    split
    · exact Nat.le_succ_of_le (bareZ_length r)
    · exact Nat.le_refl _
theorem bareZ_dig {b : Int} : ∀ {r : List Int}, DigOf b r → DigOf b (bareZ r)
  | [], h => h
  | x :: r, h => by
    rw [bareZ]
    split
    · exact bareZ_dig (fun y hy => h y (.tail _ hy))
    · exact h
theorem numZ_cons0 (r : List Int) (b : Int) : numZ (0 :: r) b = numZ r b := by
  rw [numZ_lv, numZ_lv, List.reverse_cons, lv_snoc, Int.zero_mul, Int.add_zero]
theorem numZ_bare (b : Int) : ∀ r, numZ (bareZ r) b = numZ r b
  | [] => rfl
  | x :: r => by
    rw [bareZ]
    split
    · rename_i h; rw [h, numZ_cons0, numZ_bare b r]
    · rfl
end Fe38
theorem Fe38.restP1 : True := by
  w_top off
  trivial
namespace Fe38
theorem ints_inj {b c : Array UInt8} (h : KBw.bInts b = KBw.bInts c) : b = c := by
  unfold KBw.bInts at h
  have : ∀ l k : List UInt8, (l.map fun c => (c.toNat : Int)) = (k.map fun c => (c.toNat : Int)) → l = k := by
    intro l
    induction l with
    | nil => intro k h; cases k with
      | nil => rfl
      | cons _ _ => cases h
    | cons x r ih =>
      intro k h
      cases k with
      | nil => cases h
      | cons y q =>
        rw [List.map_cons, List.map_cons, List.cons.injEq] at h
        have e : x = y := UInt8.toNat_inj.mp (Int.ofNat.inj h.1)
        rw [e, ih q h.2]
  have e := this _ _ h
  cases b; cases c; simp_all
theorem cop_181 : ∀ s < 181, 0 < s → Nat.Coprime 181 s := by decide +kernel
theorem cop_89 : ∀ s < 89, 0 < s → Nat.Coprime 89 s := by decide +kernel
/-- the walk's places are all different -/
theorem place_inj {p f s j k : Nat} (hc : Nat.Coprime p s) (hj : j < p) (hk : k < p) (h : (f + s * j) % p = (f + s * k) % p) : j = k := by
  have key : ∀ j k : Nat, j < p → k < p → j ≤ k → (f + s * j) % p = (f + s * k) % p → j = k := by
    intro j k hj hk hle h
    have h1 : p ∣ (f + s * k) - (f + s * j) := Nat.dvd_of_mod_eq_zero (Nat.sub_mod_eq_zero_of_mod_eq h.symm)
    have h2 : (f + s * k) - (f + s * j) = s * (k - j) := by rw [Nat.mul_sub]; omega
    rw [h2] at h1
    have h3 := hc.dvd_of_dvd_mul_left h1
    rcases Nat.eq_zero_or_pos (k - j) with h4 | h4
    · omega
    · have := Nat.le_of_dvd h4 h3; omega
  rcases Nat.le_total j k with hl | hl
  · exact key j k hj hk hl h
  · exact (key k j hk hj hl h.symm).symm
theorem place_int {p : Nat} (hp : 0 < p) (hcop : ∀ s < p, 0 < s → Nat.Coprime p s) (start step : Int) {q : Int} (hq : q = (p : Int) - 1) (hq0 : 0 < q) :
    ∃ f s : Nat, Nat.Coprime p s ∧ ∀ i : Nat, (start.fmod p + (1 + step.fmod q) * (i : Int)).fmod p = (((f + s * i) % p : Nat) : Int) := by
  refine ⟨(start.fmod p).toNat, (1 + step.fmod q).toNat, ?_, ?_⟩
  · have h1 : 0 ≤ step.fmod q := by rw [Int.fmod_eq_emod_of_nonneg _ (by omega)]; exact Int.emod_nonneg _ (by omega)
    have h2 : step.fmod q < q := by rw [Int.fmod_eq_emod_of_nonneg _ (by omega)]; exact Int.emod_lt_of_pos _ (by omega)
    exact hcop _ (by omega) (by omega)
  · intro i
    have h1 : 0 ≤ step.fmod q := by rw [Int.fmod_eq_emod_of_nonneg _ (by omega)]; exact Int.emod_nonneg _ (by omega)
    have h0 : 0 ≤ start.fmod p := by rw [Int.fmod_eq_emod_of_nonneg _ (by omega)]; exact Int.emod_nonneg _ (by omega)
    rw [Int.fmod_eq_emod_of_nonneg _ (by omega : (0 : Int) ≤ (p : Int)), Int.natCast_emod, Int.natCast_add, Int.natCast_mul, Int.toNat_of_nonneg h0, Int.toNat_of_nonneg (by omega)]
theorem nodup_map {α β : Type} (f : α → β) : ∀ (l : List α), l.Nodup → (∀ x ∈ l, ∀ y ∈ l, f x = f y → x = y) → (l.map f).Nodup
  | [], _, _ => List.nodup_nil
  | x :: r, h, hf => by
    rw [List.nodup_cons] at h
    rw [List.map_cons, List.nodup_cons]
    refine ⟨?_, nodup_map f r h.2 (fun a ha b hb => hf a (.tail _ ha) b (.tail _ hb))⟩
    intro hm
    rcases List.mem_map.mp hm with ⟨y, hy, e⟩
    have := hf y (.tail _ hy) x (.head _) e
    subst this
    exact h.1 hy
theorem walk_nodup {p : Nat} (hp : 61 < p) (hcop : ∀ s < p, 0 < s → Nat.Coprime p s) (start step : Int) {q : Int} (hq : q = (p : Int) - 1) {n : Nat} (hn : n ≤ 61) :
    ((rangeKs 0 n).map fun k' => (start.fmod p + (1 + step.fmod q) * k').fmod p).Nodup ∧ ∀ x ∈ ((rangeKs 0 n).map fun k' => (start.fmod p + (1 + step.fmod q) * k').fmod p), 0 ≤ x ∧ x < p := by
  obtain ⟨f, s, hc, hi⟩ := place_int (by omega) hcop start step hq (by omega)
  have e : ((rangeKs 0 n).map fun k' => (start.fmod p + (1 + step.fmod q) * k').fmod p) = (List.range n).map fun i : Nat => (((f + s * i) % p : Nat) : Int) := by
    rw [rangeKs, List.map_map]
    refine List.map_congr_left fun i _ => ?_
    show (start.fmod p + (1 + step.fmod q) * (0 + (i : Int))).fmod p = _
    rw [Int.zero_add, hi]
  rw [e]
  constructor
  · refine nodup_map _ _ List.nodup_range ?_
    intro x hx y hy h
    rw [List.mem_range] at hx hy
    exact place_inj hc (by omega) (by omega) (Int.ofNat.inj h)
  · intro x hx
    rcases List.mem_map.mp hx with ⟨i, _, rfl⟩
    have := Nat.mod_lt (f + s * i) (show 0 < p by omega)
    omega
theorem size_ok (size : Int) : 2 ≤ (2 + size.fmod 60 - 0).toNat ∧ (2 + size.fmod 60 - 0).toNat ≤ 61 := by
  have h1 : 0 ≤ size.fmod 60 := by rw [Int.fmod_eq_emod_of_nonneg _ (by omega)]; exact Int.emod_nonneg _ (by omega)
  have h2 : size.fmod 60 < 60 := by rw [Int.fmod_eq_emod_of_nonneg _ (by omega)]; exact Int.emod_lt_of_pos _ (by omega)
  omega
abbrev InSigns (x : Int) : Prop := (33 ≤ x ∧ x ≤ 126) ∨ (161 ≤ x ∧ x ≤ 247)
def SgL (ks : List Int) : Prop := ks.Nodup ∧ 2 ≤ ks.length ∧ ks.length ≤ 61 ∧ ∀ x ∈ ks, InSigns x
theorem sg_btc : SgL btcL := by unfold SgL; decide +kernel
theorem sg_rip : SgL ripL := by unfold SgL; decide +kernel
theorem sg_2 (start step size : Int) : SgL (signs2 start step size) := by
  have hs := size_ok size
  have h := @walk_nodup 181 (by omega) cop_181 start step 180 rfl _ hs.2
  have e : walk2 start step size = ((rangeKs 0 (2 + size.fmod 60 - 0).toNat).map fun k' => (start.fmod (181 : Nat) + (1 + step.fmod 180) * k').fmod (181 : Nat)) := rfl
  rw [← e] at h
  have hl : (walk2 start step size).length = (2 + size.fmod 60 - 0).toNat := by rw [walk2, List.length_map, rangeKs_length]
  refine ⟨?_, ?_, ?_, ?_⟩
  · refine nodup_map _ _ h.1 ?_
    intro x hx y hy hxy
    have := h.2 x hx
    have := h.2 y hy
    split at hxy <;> split at hxy <;> omega
  · rw [signs2, List.length_map, hl]; exact hs.1
  · rw [signs2, List.length_map, hl]; exact hs.2
  · intro x hx
    rcases List.mem_map.mp hx with ⟨y, hy, rfl⟩
    have := h.2 y hy
    unfold InSigns
    split <;> omega
theorem sg_3 (start step size : Int) : SgL (signs3 start step size) := by
  have hs := size_ok size
  have h := @walk_nodup 89 (by omega) cop_89 start step 88 rfl _ hs.2
  have e : signs3 start step size = (((rangeKs 0 (2 + size.fmod 60 - 0).toNat).map fun k' => (start.fmod (89 : Nat) + (1 + step.fmod 88) * k').fmod (89 : Nat))).map fun x => 38 + x := by
    rw [List.map_map]; rfl
  rw [e]
  refine ⟨?_, ?_, ?_, ?_⟩
  · refine nodup_map _ _ h.1 ?_
    intro x _ y _ hxy
    omega
  · rw [List.length_map, List.length_map, rangeKs_length]; exact hs.1
  · rw [List.length_map, List.length_map, rangeKs_length]; exact hs.2
  · intro x hx
    rcases List.mem_map.mp hx with ⟨y, hy, rfl⟩
    have := h.2 y hy
    unfold InSigns
    omega
theorem sg_all (kind start step size : Int) : SgL (signsL kind start step size) := by
  unfold signsL
  split
  · exact sg_btc
  · split
    · exact sg_rip
    · split
      · exact sg_2 _ _ _
      · exact sg_3 _ _ _
def ripB : Array UInt8 := #[114, 112, 115, 104, 110, 97, 102, 51, 57, 119, 66, 85, 68, 78, 69, 71, 72, 74, 75, 76, 77, 52, 80, 81, 82, 83, 84, 55, 86, 87, 88, 89, 90, 50, 98, 99, 100, 101, 67, 103, 54, 53, 106, 107, 109, 56, 111, 70, 113, 105, 49, 116, 117, 118, 65, 120, 121, 122]
/-- an alphabet: what holds of it -/
structure Sg (kind : Int) (b : Array UInt8) (ks : List Int) : Prop where
  hb : KBw.bInts b = ks
  nd : ks.Nodup
  n0 : 2 ≤ ks.length
  n1 : ks.length ≤ 61
  rg : ∀ x ∈ ks, InSigns x
  k0 : kind = 0 → b = btcB
  k1 : kind = 1 → b = ripB
  st : kind < 2 → 0 ≤ kind → ∀ x ∈ ([48, 73, 79, 108] : List Int), x ∉ ks
theorem sg_in {ks : List Int} (h : SgL ks) : KBa.In ks := fun x hx => by
  have := h.2.2.2 x hx
  unfold InSigns at this
  omega
theorem sg_made (kind start step size : Int) : Sg kind (byteArr (signsL kind start step size)) (signsL kind start step size) := by
  have h := sg_all kind start step size
  refine ⟨KBa.ints_make (sg_in h), h.1, h.2.1, h.2.2.1, h.2.2.2, ?_, ?_, ?_⟩
  · intro e
    rw [signsL, if_pos e]
    decide +kernel
  · intro e
    rw [signsL, if_neg (by omega), if_pos e]
    decide +kernel
  · intro h2 h0
    rw [signsL]
    by_cases e : kind = 0
    · rw [if_pos e]; decide +kernel
    · rw [if_neg e, if_pos (by omega)]; decide +kernel
end Fe38
theorem Fe38.restP2 : True := by
  w_top off
  trivial
namespace Fe38
theorem decF_snoc' (ks vs : List Int) (c : Int) : decF ks (vs ++ [c]) = decF ks vs * (ks.length : Int) + (ks.idxOf c : Int) := by
  unfold decF
  rw [List.foldl_append]
  rfl
theorem idx_signed {ks : List Int} (hnd : ks.Nodup) {d : Int} (h0 : 0 ≤ d) (h1 : d < (ks.length : Int)) : (ks.idxOf (ks.getD d.toNat 0) : Int) = d := by
  have hl : d.toNat < ks.length := by omega
  rw [List.getD_eq_getElem?_getD, List.getElem?_eq_getElem hl, Option.getD_some, hnd.idxOf_getElem]
  omega
theorem signed_mem {ks r : List Int} (hr : DigOf (ks.length : Int) r) : ∀ c ∈ signed ks r, c ∈ ks := by
  intro c hc
  rcases List.mem_map.mp hc with ⟨d, hd, rfl⟩
  have := hr d hd
  have hl : d.toNat < ks.length := by omega
  rw [List.getD_eq_getElem?_getD, List.getElem?_eq_getElem hl, Option.getD_some]
  exact List.getElem_mem hl
theorem decF_signed {ks : List Int} (hnd : ks.Nodup) : ∀ (n : Nat) (r : List Int), r.length = n → DigOf (ks.length : Int) r → decF ks (signed ks r) = numZ r ks.length
  | 0, r, h, _ => by
    have e : r = [] := List.eq_nil_of_length_eq_zero h
    subst e
    rfl
  | n + 1, r, h, hr => by
    have hq : r ≠ [] := by intro e; subst e; cases h
    have e := List.dropLast_concat_getLast hq
    have hl : r.dropLast.length = n := by rw [List.length_dropLast]; omega
    have hd : DigOf (ks.length : Int) r.dropLast := fun x hx => hr x (List.dropLast_subset _ hx)
    have h9 := hr _ (List.getLast_mem hq)
    have ih := decF_signed hnd n _ hl hd
    generalize r.getLast hq = d at *
    generalize r.dropLast = q at *
    subst e
    have e2 : signed ks (q ++ [d]) = signed ks q ++ [ks.getD d.toNat 0] := by simp [signed]
    rw [e2, decF_snoc', ih, numZ_snoc, idx_signed hnd h9.1 h9.2]
theorem signed_append (ks a b : List Int) : signed ks (a ++ b) = signed ks a ++ signed ks b := by simp [signed]
theorem signed_length (ks a : List Int) : (signed ks a).length = a.length := by simp [signed]
theorem numZ_zeros (b : Int) : ∀ (n : Nat) (r : List Int), numZ (List.replicate n 0 ++ r) b = numZ r b
  | 0, r => rfl
  | n + 1, r => by rw [List.replicate_succ, List.cons_append, numZ_cons0, numZ_zeros b n r]
theorem insigns_sp {x : Int} (h : InSigns x) : isSp x = false := by
  unfold InSigns at h
  unfold isSp
  have h1 : (x == 32) = false := by simp; omega
  rw [h1, Bool.false_or, Bool.and_eq_false_iff]
  rcases Int.lt_or_le x 9 with h2 | h2
  · exact Or.inl (by simp; omega)
  · exact Or.inr (by simp; omega)
theorem rstripL_id {l : List Int} (h : ∀ x ∈ l, isSp x = false) : rstripL l = l := by
  unfold rstripL
  cases e : l.reverse with
  | nil => have := List.reverse_eq_nil_iff.mp e; subst this; rfl
  | cons x r =>
    have hx : x ∈ l := List.mem_reverse.mp (by rw [e]; exact .head _)
    rw [List.dropWhile_cons, if_neg (by rw [h x hx]; exact Bool.false_ne_true), ← e, List.reverse_reverse]
theorem rstripL_snoc (l : List Int) {x : Int} (h : isSp x = true) : rstripL (l ++ [x]) = rstripL l := by
  unfold rstripL
  rw [List.reverse_append, List.reverse_singleton, List.singleton_append, List.dropWhile_cons, if_pos h]
theorem rstripL_last (l : List Int) {x : Int} (h : isSp x = false) : rstripL (l ++ [x]) = l ++ [x] := by
  unfold rstripL
  rw [List.reverse_append, List.reverse_singleton, List.singleton_append, List.dropWhile_cons, if_neg (by rw [h]; exact Bool.false_ne_true), List.reverse_cons, List.reverse_reverse]
/-- the octets read back to x -/
def DecOk (ks vs : List Int) (x : Int) : Prop := (∀ c ∈ rstripL vs, c ∈ ks) ∧ decF ks (rstripL vs) = x
theorem Sg.sp {kind : Int} {b : Array UInt8} {ks : List Int} (h : Sg kind b ks) : ∀ x ∈ ks, isSp x = false := fun x hx => insigns_sp (h.rg x hx)
theorem Sg.no32 {kind : Int} {b : Array UInt8} {ks : List Int} (h : Sg kind b ks) : (((32 : UInt8).toNat : Nat) : Int) ∉ ks := fun hm => by
  have := h.sp _ hm
  exact absurd this (by decide)
theorem Sg.no1 {kind : Int} {b : Array UInt8} {ks : List Int} (h : Sg kind b ks) : (1 : Int) ∉ ks := fun hm => by
  have := h.rg _ hm
  unfold InSigns at this
  omega
theorem dec_signed {kind : Int} {b : Array UInt8} {ks r : List Int} (h : Sg kind b ks) (hr : DigOf (ks.length : Int) r) : DecOk ks (signed ks r) (numZ r ks.length) := by
  have hm := signed_mem hr
  have e : rstripL (signed ks r) = signed ks r := rstripL_id fun x hx => h.sp x (hm x hx)
  exact ⟨by rw [e]; exact hm, by rw [e]; exact decF_signed h.nd _ _ rfl hr⟩
theorem dec_blank {kind : Int} {b : Array UInt8} {ks r : List Int} (h : Sg kind b ks) (hr : DigOf (ks.length : Int) r) : DecOk ks (signed ks r ++ [32, 10]) (numZ r ks.length) := by
  have e : rstripL (signed ks r ++ [32, 10]) = rstripL (signed ks r) := by
    have : signed ks r ++ [32, 10] = (signed ks r ++ [32]) ++ [10] := by simp
    rw [this, rstripL_snoc _ (by decide), rstripL_snoc _ (by decide)]
  have := dec_signed h hr
  unfold DecOk at *
  rw [e]
  exact this
theorem getD0 {ks : List Int} : ks.getD (Int.toNat 0) 0 = ks.getD 0 0 := rfl
/-- the two texts of a row -/
theorem text_dig {kind x : Int} {b : Array UInt8} {ks zs fs ts : List Int} (h : Sg kind b ks) (hr : DigOf (ks.length : Int) zs) (hx : numZ zs ks.length = x)
    (hf : ∀ y ∈ fs, y = ks.getD (Int.toNat 0) 0) (ht : ts = if x = 0 ∧ true = true then [ks.getD 0 0] else encZ ks x) : DecOk ks (fs ++ ts) x := by
  have hfs : fs = signed ks (List.replicate fs.length 0) := by
    rw [signed, List.map_replicate]
    exact List.eq_replicate_of_mem hf
  have hz : ∀ n, DigOf (ks.length : Int) (List.replicate n 0) := fun n y hy => by
    rw [List.eq_of_mem_replicate hy]; have := h.n0; omega
  have hb := enc_both h.n0 _ zs rfl hr
  by_cases h0 : x = 0
  · rw [if_pos ⟨h0, rfl⟩] at ht
    have e : ts = signed ks (List.replicate 1 0) := ht
    rw [hfs, e, ← signed_append]
    have := dec_signed h ((hz fs.length).append (hz 1))
    rw [numZ_zeros] at this
    have e0 : numZ (List.replicate 1 0) (ks.length : Int) = 0 := by
      have := numZ_zeros (ks.length : Int) 1 []
      rw [List.append_nil] at this
      rw [this]; rfl
    rw [e0] at this
    rw [h0]
    exact this
  · rw [if_neg (fun q => h0 q.1)] at ht
    rw [hx] at hb
    rw [hb.1] at ht
    rw [hfs, ht, ← signed_append]
    have := dec_signed h ((hz fs.length).append (bareZ_dig hr))
    rw [numZ_zeros, numZ_bare, hx] at this
    exact this
theorem bare_enc {x : Int} {ks zs : List Int} (hk : 2 ≤ ks.length) (hr : DigOf (ks.length : Int) zs) (hx : numZ zs ks.length = x) : signed ks (bareZ zs) = if x = 0 ∧ false = true then [ks.getD 0 0] else encZ ks x := by
  rw [if_neg (fun q => Bool.false_ne_true q.2), ← hx, (enc_both hk _ zs rfl hr).1]
theorem bare_some {x : Int} {ks zs : List Int} (hk : 2 ≤ ks.length) (hr : DigOf (ks.length : Int) zs) (hx : numZ zs ks.length = x) (h : 0 < (signed ks (bareZ zs)).length) : signed ks (bareZ zs) = if x = 0 ∧ true = true then [ks.getD 0 0] else encZ ks x := by
  have hb := enc_both hk _ zs rfl hr
  rw [hx] at hb
  rw [if_neg, hb.1]
  rintro ⟨h0, _⟩
  rw [hb.2.mp h0] at h
  exact Nat.lt_irrefl _ h
theorem bare_none {x : Int} {ks zs : List Int} (hk : 2 ≤ ks.length) (hr : DigOf (ks.length : Int) zs) (hx : numZ zs ks.length = x) (h : ¬ 0 < (signed ks (bareZ zs)).length) : [ks.getD 0 0] = if x = 0 ∧ true = true then [ks.getD 0 0] else encZ ks x := by
  have hb := enc_both hk _ zs rfl hr
  rw [hx] at hb
  rw [if_pos]
  refine ⟨hb.2.mpr ?_, rfl⟩
  rw [signed_length] at h
  exact List.eq_nil_of_length_eq_zero (by omega)
theorem enc_len {x : Int} {ks zs : List Int} (hk : 2 ≤ ks.length) (hr : DigOf (ks.length : Int) zs) (hx : numZ zs ks.length = x) (hl : zs.length ≤ 15) : (encZ ks x).length ≤ 100 := by
  rw [← hx, (enc_both hk _ zs rfl hr).1, signed_length]
  have := bareZ_length zs
  omega
/-- a strange octet spoils the text -/
theorem strange_ex {kind o : Int} {b : Array UInt8} {ks xs ys : List Int} (h : Sg kind b ks) (hx : DigOf (ks.length : Int) xs) (hy : DigOf (ks.length : Int) ys) (ho : o ∉ ks) (hs : isSp o = false ∨ ys ≠ []) :
    ∃ c ∈ rstripL (signed ks xs ++ [o] ++ signed ks ys), c ∉ ks := by
  refine ⟨o, ?_, ho⟩
  have hm := signed_mem hy
  have e : rstripL (signed ks xs ++ [o] ++ signed ks ys) = signed ks xs ++ [o] ++ signed ks ys := by
    rcases List.eq_nil_or_concat ys with e | ⟨r, d, e⟩
    · subst e
      rcases hs with hs | hs
      · have : signed ks [] = [] := rfl
        rw [this, List.append_nil, rstripL_last _ hs]
      · exact absurd rfl hs
    · have e2 : signed ks ys = signed ks r ++ [ks.getD d.toNat 0] := by rw [e]; simp [signed]
      have hd : ks.getD d.toNat 0 ∈ ks := hm _ (by rw [e2]; exact List.mem_append_right _ (.head _))
      rw [e2, ← List.append_assoc, rstripL_last _ (h.sp _ hd)]
  rw [e]
  exact List.mem_append_left _ (List.mem_append_right _ (.head _))
end Fe38
namespace Fe38
theorem enc_len15 {x : Int} {ks zs : List Int} (hk : 2 ≤ ks.length) (hr : DigOf (ks.length : Int) zs) (hx : numZ zs ks.length = x) (hl : zs.length ≤ 15) : (encZ ks x).length ≤ 15 := by
  rw [← hx, (enc_both hk _ zs rfl hr).1, signed_length]
  have := bareZ_length zs
  omega
end Fe38
theorem Fe38.restP3 : True := by
  w_top off
  trivial
namespace Fe38
section
variable {prog : Program} {w : World} {dp un : Nat} {gd : Option (List Code)} {cn : Str} {cs : Scope} {a : Addr} {ccd : Value} {cl : List (Str × Addr)} {outer : List Env} {A₀ : Around} {base h₀ : Heap} {L : Addr} {m : Str → Option Value} {news : List (Addr × Obj)} {s : Shared} {Q E : Value → Shared → Prop} {mean : ExcName → Option Value} {mg mb : Str → Option Value}

theorem numZ_lt {b : Int} (hb0 : 2 ≤ b) (hb1 : b ≤ 61) : ∀ (n : Nat) (zs : List Int), zs.length = n → DigOf b zs → numZ zs b < 61 ^ n
  | 0, zs, h, _ => by
    have e : zs = [] := List.eq_nil_of_length_eq_zero h
    subst e
    rw [numZ_nil]; decide
  | n + 1, zs, h, hz => by
    have hq : zs ≠ [] := by intro e; subst e; cases h
    have e := List.dropLast_concat_getLast hq
    have hl : zs.dropLast.length = n := by rw [List.length_dropLast]; omega
    have hd : DigOf b zs.dropLast := fun x hx => hz x (List.dropLast_subset _ hx)
    have h9 := hz _ (List.getLast_mem hq)
    have ih := numZ_lt hb0 hb1 n _ hl hd
    have h0 := hd.numZ_nonneg hb0
    generalize zs.getLast hq = d at *
    generalize zs.dropLast = q at *
    subst e
    rw [numZ_snoc, Int.pow_succ]
    have h1 : numZ q b * b ≤ numZ q b * 61 := Int.mul_le_mul_of_nonneg_left hb1 h0
    have h2 : numZ q b * 61 ≤ (61 ^ n - 1) * 61 := Int.mul_le_mul_of_nonneg_right (by omega) (by omega)
    have h3 : ((61 : Int) ^ n - 1) * 61 = 61 ^ n * 61 - 61 := by rw [Int.sub_mul]; rfl
    omega
theorem numZ_lt7 {b : Int} (hb0 : 2 ≤ b) (hb1 : b ≤ 61) {zs : List Int} (hl : zs.length ≤ 7) (hz : DigOf b zs) : numZ zs b < 3142742836021 := by
  have h1 := numZ_lt hb0 hb1 _ zs rfl hz
  have h2 : (61 : Int) ^ zs.length ≤ 61 ^ 7 := (show ∀ n, n < 8 → (61 : Int) ^ n ≤ 61 ^ 7 by decide) _ (by omega)
  have h3 : (61 : Int) ^ 7 = 3142742836021 := by decide
  omega
theorem c_draw3 {l : Addr} {vs : List Value} {ns : List Int} {k : Int} {tk : Tok} {D : Int → Int}
    (B : Below A₀ base outer h₀) (F : Fr h₀ L s.heap m) (X : (hd.heap_39 w.params).In h₀) (N : News h₀ L s.heap news) (T : Top PP LO mean mg mb h₀) (hk : cs.kind = .function)
    (hD : drawZ ns = D) (hl : base.IsList l vs.toArray) (hi : IntsAre vs ns) (hn : ns.length ≤ 63) (hk0 : 0 ≤ k) (hk1 : k ≤ 100)
    (hd : dp + 1 < recursionLimit) (hu : un + 8 < cLine)
    (hret : ∀ t h' tk', Fr h₀ L h' m → News h₀ L h' news → Q (.int (D k) t) { s with heap := h', toks := tk' }) :
    wpAny (model prog w) (ktrTop dp un gd cn cs L a ccd cl outer) (call (.ref 50) [.ref l, .int k tk]) Q E s := by
  subst hD
  exact c_draw B F X N T hk hl hi hn hk0 hk1 hd hu hret
theorem c_sg {kind start step size : Int} {tk1 tk2 tk3 tk4 : Tok}
    (B : Below A₀ base outer h₀) (F : Fr h₀ L s.heap m) (X : (hd.heap_39 w.params).In h₀) (N : News h₀ L s.heap news) (T : Top PP LO mean mg mb h₀) (hk : cs.kind = .function)
    (hd : dp + 2 < recursionLimit) (hu : un + 20 < cLine)
    (hret : ∀ (b : Array UInt8) (ks : List Int) t h' tk', Fr h₀ L h' m → News h₀ L h' news → Sg kind b ks → KBw.bInts b = ks → 2 ≤ ks.length → ks.length ≤ 61 → Q (.bytes b t) { s with heap := h', toks := tk' }) :
    wpAny (model prog w) (ktrTop dp un gd cn cs L a ccd cl outer) (call (.ref 55) [.int kind tk1, .int start tk2, .int step tk3, .int size tk4]) Q E s :=
  c_signs B F X N T hk hd hu (fun t h' tk' F' N' => hret _ _ t h' tk' F' N' (sg_made _ _ _ _) (sg_made _ _ _ _).hb (sg_made _ _ _ _).n0 (sg_made _ _ _ _).n1)
theorem c_row3 {l : Addr} {vs : List Value} {ns : List Int} {at' cnt bs : Int} {tk1 tk2 tk3 : Tok}
    (B : Below A₀ base outer h₀) (F : Fr h₀ L s.heap m) (X : (hd.heap_39 w.params).In h₀) (N : News h₀ L s.heap news) (T : Top PP LO mean mg mb h₀) (hk : cs.kind = .function)
    (hl : base.IsList l vs.toArray) (hi : IntsAre vs ns) (hn : ns.length ≤ 63) (ha0 : 0 ≤ at') (ha1 : at' ≤ 16) (hc0 : 0 ≤ cnt) (hc1 : cnt ≤ 7) (hb0 : 2 ≤ bs) (hb1 : bs ≤ 61)
    (hd : dp + 2 < recursionLimit) (hu : un + 12 < cLine)
    (hret : ∀ (a' : Addr) (vs' : List Value) (n' : Nat) (zs : List Int) h' tk', Fr h₀ L h' m → News h₀ L h' ((a', W.listOf vs'.toArray n') :: news) → IntsAre vs' zs → zs.length ≤ 7 → DigOf bs zs → (∀ p ∈ news, p.1 < a') → Q (.ref a') { s with heap := h', toks := tk' }) :
    wpAny (model prog w) (ktrTop dp un gd cn cs L a ccd cl outer) (call (.ref 62) [.ref l, .int at' tk1, .int cnt tk2, .int bs tk3]) Q E s :=
  c_row B F X N T hk hl hi hn ha0 ha1 hc0 hc1 hb0 hb1 hd hu (fun a' vs' n' h' tk' F' N' hI hlt => hret a' vs' n' _ h' tk' F' N' hI (by rw [rowZ_length]; omega) (rowZ_dig hb0) hlt)
/-- a row and its number -/
def RowOk (bs : Int) (zs : List Int) (x : Int) : Prop := DigOf bs zs ∧ zs.length ≤ 15 ∧ numZ zs bs = x
theorem c_num3 {l : Addr} {vs : List Value} {ns : List Int} {n0 : Nat} {bs : Int} {tk1 : Tok}
    (B : Below A₀ base outer h₀) (F : Fr h₀ L s.heap m) (X : (hd.heap_39 w.params).In h₀) (N : News h₀ L s.heap news) (T : Top PP LO mean mg mb h₀) (hk : cs.kind = .function)
    (hm : (l, W.listOf vs.toArray n0) ∈ news) (hi : IntsAre vs ns) (hn : ns.length ≤ 7) (hb0 : 2 ≤ bs) (hb1 : bs ≤ 61) (hg : DigOf bs ns) (hd : dp + 2 < recursionLimit) (hu : un + 20 < cLine)
    (hret : ∀ (x : Int) t h' tk', Fr h₀ L h' m → News h₀ L h' news → numZ ns bs = x → 0 ≤ x → x < 3142742836021 → RowOk bs ns x → Q (.int x t) { s with heap := h', toks := tk' }) :
    wpAny (model prog w) (ktrTop dp un gd cn cs L a ccd cl outer) (call (.ref 90) [.ref l, .int bs tk1]) Q E s :=
  c_number B F X N T hk hm hi (by omega) hb0 hb1 hg hd hu (fun t h' tk' F' N' => hret _ t h' tk' F' N' rfl (hg.numZ_nonneg hb0) (numZ_lt7 hb0 hb1 hn hg) ⟨hg, by omega, rfl⟩)
theorem c_added3 {l1 l2 : Addr} {vs1 vs2 : List Value} {xs ys : List Int} {n1 n2 : Nat} {bs x y : Int} {tk1 : Tok}
    (B : Below A₀ base outer h₀) (F : Fr h₀ L s.heap m) (X : (hd.heap_39 w.params).In h₀) (N : News h₀ L s.heap news) (T : Top PP LO mean mg mb h₀) (hk : cs.kind = .function)
    (hm1 : (l1, W.listOf vs1.toArray n1) ∈ news) (hi1 : IntsAre vs1 xs) (hn1 : xs.length ≤ 7) (hm2 : (l2, W.listOf vs2.toArray n2) ∈ news) (hi2 : IntsAre vs2 ys) (hn2 : ys.length ≤ 7)
    (hb0 : 2 ≤ bs) (hg1 : DigOf bs xs) (hg2 : DigOf bs ys) (hx : numZ xs bs = x) (hy : numZ ys bs = y)
    (hd : dp + 2 < recursionLimit) (hu : un + 20 < cLine)
    (hret : ∀ (a' : Addr) (vs' : List Value) (n' : Nat) (zs : List Int) h' tk', Fr h₀ L h' m → News h₀ L h' ((a', W.listOf vs'.toArray n') :: news) → IntsAre vs' zs → RowOk bs zs (x + y) → (∀ p ∈ news, p.1 < a') → Q (.ref a') { s with heap := h', toks := tk' }) :
    wpAny (model prog w) (ktrTop dp un gd cn cs L a ccd cl outer) (call (.ref 76) [.ref l1, .ref l2, .int bs tk1]) Q E s :=
  c_added B F X N T hk hm1 hi1 hn1 hm2 hi2 hn2 hd hu (fun a' vs' n' h' tk' F' N' hI hlt => hret a' vs' n' _ h' tk' F' N' hI ⟨addZ_dig hg1 hg2 hb0, by rw [addZ_length]; omega, by rw [addZ_num, hx, hy]⟩ hlt)
theorem c_timed3 {l1 l2 : Addr} {vs1 vs2 : List Value} {xs ys : List Int} {n1 n2 : Nat} {bs x y : Int} {tk1 : Tok}
    (B : Below A₀ base outer h₀) (F : Fr h₀ L s.heap m) (X : (hd.heap_39 w.params).In h₀) (N : News h₀ L s.heap news) (T : Top PP LO mean mg mb h₀) (hk : cs.kind = .function)
    (hm1 : (l1, W.listOf vs1.toArray n1) ∈ news) (hi1 : IntsAre vs1 xs) (hn1 : xs.length ≤ 7) (hm2 : (l2, W.listOf vs2.toArray n2) ∈ news) (hi2 : IntsAre vs2 ys) (hn2 : ys.length ≤ 7)
    (hb0 : 2 ≤ bs) (hb1 : bs ≤ 61) (hg1 : DigOf bs xs) (hg2 : DigOf bs ys) (hx : numZ xs bs = x) (hy : numZ ys bs = y)
    (hd : dp + 2 < recursionLimit) (hu : un + 20 < cLine)
    (hret : ∀ (a' : Addr) (vs' : List Value) (n' : Nat) (zs : List Int) h' tk', Fr h₀ L h' m → News h₀ L h' ((a', W.listOf vs'.toArray n') :: news) → IntsAre vs' zs → RowOk bs zs (x * y) → (∀ p ∈ news, p.1 < a') → Q (.ref a') { s with heap := h', toks := tk' }) :
    wpAny (model prog w) (ktrTop dp un gd cn cs L a ccd cl outer) (call (.ref 83) [.ref l1, .ref l2, .int bs tk1]) Q E s :=
  c_timed B F X N T hk hm1 hi1 hn1 hg1 hm2 hi2 hn2 hg2 hb0 hb1 hd hu (fun a' vs' n' h' tk' F' N' hI hlt => hret a' vs' n' _ h' tk' F' N' hI ⟨timedZ_dig hg1 hg2 hb0, by rw [timedZ_length hg1 hg2 hb0]; omega, by rw [timedZ_num hg1 hg2 hb0, hx, hy]⟩ hlt)
/-- what a number is written as -/
def txt (ks : List Int) (x : Int) (d : Bool) : List Int := if x = 0 ∧ d = true then [ks.getD 0 0] else encZ ks x
theorem c_enc3 {n : Int} {bs bb : Array UInt8} {ks zs : List Int} {d : Bool} {tk1 tk2 : Tok} {kind : Int}
    (B : Below A₀ base outer h₀) (F : Fr h₀ L s.heap m) (X : (hd.heap_39 w.params).In h₀) (N : News h₀ L s.heap news) (T : Top PP LO mean mg mb h₀) (hk : cs.kind = .function)
    (hS : Sg kind bs ks) (hR : RowOk (ks.length : Int) zs n) (hbb : KBw.bInts bb = txt ks n d)
    (hd : dp + 2 < recursionLimit) (hu : un + 20 < cLine)
    (hret : ∀ t h' tk', Fr h₀ L h' m → News h₀ L h' news → Q (.bytes bb t) { s with heap := h', toks := tk' }) :
    wpAny (model prog w) (ktrTop dp un gd cn cs L a ccd cl outer) (call (.ref 29) [.int n tk1, .bool d, .bytes bs tk2]) Q E s :=
  c_encode (G := encZ ks) B F X N T hk (by have := hR.1.numZ_nonneg (by have := hS.n0; omega); rw [hR.2.2] at this; exact this) hS.hb hS.n0 hS.n1 (encZ_0 ks) (encZ_s hS.n0) (enc_len hS.n0 hR.1 hR.2.2 hR.2.1) hd hu
    (fun c t h' tk' F' N' hc => by have e := ints_inj (hc.trans hbb.symm); subst e; exact hret t h' tk' F' N')
theorem c_enc13 {n : Int} {bs bb : Array UInt8} {ks zs : List Int} {tk1 : Tok} {kind : Int}
    (B : Below A₀ base outer h₀) (F : Fr h₀ L s.heap m) (X : (hd.heap_39 w.params).In h₀) (N : News h₀ L s.heap news) (T : Top PP LO mean mg mb h₀) (hk : cs.kind = .function)
    (hS : Sg kind bs ks) (h0 : kind = 0) (hR : RowOk (ks.length : Int) zs n) (hbb : KBw.bInts bb = txt ks n true)
    (hd : dp + 2 < recursionLimit) (hu : un + 20 < cLine)
    (hret : ∀ t h' tk', Fr h₀ L h' m → News h₀ L h' news → Q (.bytes bb t) { s with heap := h', toks := tk' }) :
    wpAny (model prog w) (ktrTop dp un gd cn cs L a ccd cl outer) (call (.ref 29) [.int n tk1]) Q E s :=
  c_encode1 (G := encZ ks) B F X N T hk (by have := hR.1.numZ_nonneg (by have := hS.n0; omega); rw [hR.2.2] at this; exact this) (hS.k0 h0) hS.hb hS.n0 hS.n1 (encZ_0 ks) (encZ_s hS.n0) (enc_len hS.n0 hR.1 hR.2.2 hR.2.1) hd hu
    (fun c t h' tk' F' N' hc => by have e := ints_inj (hc.trans hbb.symm); subst e; exact hret t h' tk' F' N')
theorem dec_no {ks vs : List Int} {x : Int} {P : Prop} (h : DecOk ks vs x) (hex : ∃ c ∈ rstripL vs, c ∉ ks) : P := hex.elim fun c hc => absurd (h.1 c hc.1) hc.2
theorem c_dec3 {v bs : Array UInt8} {ks vs : List Int} {tk1 tk2 : Tok} {x kind : Int}
    (B : Below A₀ base outer h₀) (F : Fr h₀ L s.heap m) (X : (hd.heap_39 w.params).In h₀) (N : News h₀ L s.heap news) (T : Top PP LO mean mg mb h₀) (hk : cs.kind = .function)
    (hS : Sg kind bs ks) (hv : KBw.bInts v = vs) (hvl : vs.length ≤ 100) (hx : DecOk ks vs x) (GD : Gd w base mean mg mb)
    (hd : dp + 4 < recursionLimit) (hu : un + 50 < cLine)
    (hret : ∀ t h' tk, Fr h₀ L h' m → News h₀ L h' news → Q (.int x t) { s with heap := h', toks := tk }) :
    wpAny (model prog w) (ktrTop dp un gd cn cs L a ccd cl outer) (call (.ref 43) [.bytes v tk1, .bytes bs tk2]) Q E s :=
  c_decode B F X N T hk hS.hb hS.nd hS.n0 hS.n1 hS.no32 hv hvl GD hd hu (fun _ => by rw [hx.2]; exact hret) (fun hex => dec_no hx hex)
theorem c_dec13 {v bs : Array UInt8} {ks vs : List Int} {tk1 : Tok} {x kind : Int}
    (B : Below A₀ base outer h₀) (F : Fr h₀ L s.heap m) (X : (hd.heap_39 w.params).In h₀) (N : News h₀ L s.heap news) (T : Top PP LO mean mg mb h₀) (hk : cs.kind = .function)
    (hS : Sg kind bs ks) (h0 : kind = 0) (hv : KBw.bInts v = vs) (hvl : vs.length ≤ 100) (hx : DecOk ks vs x) (GD : Gd w base mean mg mb)
    (hd : dp + 4 < recursionLimit) (hu : un + 50 < cLine)
    (hret : ∀ t h' tk, Fr h₀ L h' m → News h₀ L h' news → Q (.int x t) { s with heap := h', toks := tk }) :
    wpAny (model prog w) (ktrTop dp un gd cn cs L a ccd cl outer) (call (.ref 43) [.bytes v tk1]) Q E s :=
  c_decode1 B F X N T hk (hS.k0 h0) hS.hb hS.nd hS.n0 hS.n1 hS.no32 hv hvl GD hd hu (fun _ => by rw [hx.2]; exact hret) (fun hex => dec_no hx hex)
theorem dec_text {kind x : Int} {b : Array UInt8} {ks zs fs : List Int} (h : Sg kind b ks) (hR : RowOk (ks.length : Int) zs x) (hf : ∀ y ∈ fs, y = ks.getD (Int.toNat 0) 0) : DecOk ks (fs ++ txt ks x true) x :=
  text_dig h hR.1 hR.2.2 hf rfl
theorem text_len {kind x : Int} {b : Array UInt8} {ks zs fs : List Int} (h : Sg kind b ks) (hR : RowOk (ks.length : Int) zs x) (hf : fs.length ≤ 2) : (fs ++ txt ks x true).length ≤ 100 := by
  have := enc_len15 h.n0 hR.1 hR.2.2 hR.2.1
  rw [List.length_append, txt]
  split
  · rw [List.length_singleton]; omega
  · omega
/-- an expression's ways meet: octets of one kind -/
def OutB (h₀ : Heap) (L : Addr) (s : Shared) (m : Str → Option Value) (news : List (Addr × Obj)) (P : Array UInt8 → Prop) (r : Value) (s' : Shared) : Prop :=
  ∃ b t h' tk, r = .bytes b t ∧ s' = { s with heap := h', toks := tk } ∧ P b ∧ Fr h₀ L h' m ∧ News h₀ L h' news
theorem OutB.intro {m : Str → Option Value} {news news' : List (Addr × Obj)} {P : Array UInt8 → Prop} {b : Array UInt8} {t : Tok} {h' : Heap} {tk : Nat} (F : Fr h₀ L h' m) (N : News h₀ L h' news') (hs : ∀ p ∈ news, p ∈ news') (hP : P b) :
    OutB h₀ L s m news P (.bytes b t) { s with heap := h', toks := tk } := ⟨b, t, h', tk, rfl, rfl, hP, F, newsOf N hs⟩
theorem cutB {M : Model} {A : Around} {E : Value → Shared → Prop} {t : Sem Value} {Q : Value → Shared → Prop} (P : Array UInt8 → Prop)
    (h : wpAny M A t (OutB h₀ L s m news P) E s) (k : ∀ b t h' tk, P b → Fr h₀ L h' m → News h₀ L h' news → Q (.bytes b t) { s with heap := h', toks := tk }) : wpAny M A t Q E s :=
  wpAny_mono h (fun r s' ⟨b, t, h', tk, e, e2, hP, F, N⟩ => by subst e e2; exact k b t h' tk hP F N) fun _ _ e => e
def OutI (h₀ : Heap) (L : Addr) (s : Shared) (m : Str → Option Value) (news : List (Addr × Obj)) (x : Int) (r : Value) (s' : Shared) : Prop :=
  ∃ t h' tk, r = .int x t ∧ s' = { s with heap := h', toks := tk } ∧ Fr h₀ L h' m ∧ News h₀ L h' news
theorem OutI.intro {m : Str → Option Value} {news news' : List (Addr × Obj)} {x y : Int} {t : Tok} {h' : Heap} {tk : Nat} (F : Fr h₀ L h' m) (N : News h₀ L h' news') (hs : ∀ p ∈ news, p ∈ news') (hx : y = x) :
    OutI h₀ L s m news x (.int y t) { s with heap := h', toks := tk } := ⟨t, h', tk, by rw [hx], rfl, F, newsOf N hs⟩
theorem cutI {M : Model} {A : Around} {E : Value → Shared → Prop} {t : Sem Value} {Q : Value → Shared → Prop} (x : Int)
    (h : wpAny M A t (OutI h₀ L s m news x) E s) (k : ∀ t h' tk, Fr h₀ L h' m → News h₀ L h' news → Q (.int x t) { s with heap := h', toks := tk }) : wpAny M A t Q E s :=
  wpAny_mono h (fun r s' ⟨t, h', tk, e, e2, F, N⟩ => by subst e e2; exact k t h' tk F N) fun _ _ e => e
def TurnEnd (h₀ : Heap) (L : Addr) (s : Shared) (m : Str → Option Value) (news : List (Addr × Obj)) (f : Flow) (s' : Shared) : Prop :=
  f = .next ∧ ∃ v1 v2 v3 v4 h' tk, s' = { s with heap := h', toks := tk } ∧ Fr h₀ L h' (fun y => if y = Str.ofString "bare" then some v1 else if y = Str.ofString "text" then some v2 else if y = Str.ofString "said" then some v3 else if y = Str.ofString "back" then some v4 else m y) ∧ News h₀ L h' news
theorem TurnEnd.intro {m m' : Str → Option Value} {news news' : List (Addr × Obj)} {v1 v2 v3 v4 : Value} {h' : Heap} {tk : Nat} (F : Fr h₀ L h' m') (N : News h₀ L h' news') (hs : ∀ p ∈ news, p ∈ news')
    (e1 : m' (Str.ofString "bare") = some v1) (e2 : m' (Str.ofString "text") = some v2) (e3 : m' (Str.ofString "said") = some v3) (e4 : m' (Str.ofString "back") = some v4)
    (he : ∀ y, y ≠ Str.ofString "bare" → y ≠ Str.ofString "text" → y ≠ Str.ofString "said" → y ≠ Str.ofString "back" → m' y = m y) : TurnEnd h₀ L s m news .next { s with heap := h', toks := tk } := by
  have em : m' = (fun y => if y = Str.ofString "bare" then some v1 else if y = Str.ofString "text" then some v2 else if y = Str.ofString "said" then some v3 else if y = Str.ofString "back" then some v4 else m y) := by
    funext y
    by_cases h1 : y = Str.ofString "bare"
    · rw [if_pos h1, h1, e1]
    · rw [if_neg h1]
      by_cases h2 : y = Str.ofString "text"
      · rw [if_pos h2, h2, e2]
      · rw [if_neg h2]
        by_cases h3 : y = Str.ofString "said"
        · rw [if_pos h3, h3, e3]
        · rw [if_neg h3]
          by_cases h4 : y = Str.ofString "back"
          · rw [if_pos h4, h4, e4]
          · rw [if_neg h4, he y h1 h2 h3 h4]
  subst em
  exact ⟨rfl, v1, v2, v3, v4, h', tk, rfl, F, newsOf N hs⟩
theorem cutT {M : Model} {A : Around} {E : Value → Shared → Prop} {t : Sem Flow} {Q : Flow → Shared → Prop} (F : Fr h₀ L s.heap m) (N : News h₀ L s.heap news)
    (h : wpAny M A t (TurnEnd h₀ L s m news) E s) (k : ∀ v1 v2 v3 v4 h' tk, Fr h₀ L h' (fun y => if y = Str.ofString "bare" then some v1 else if y = Str.ofString "text" then some v2 else if y = Str.ofString "said" then some v3 else if y = Str.ofString "back" then some v4 else m y) → News h₀ L h' news → Q .next { s with heap := h', toks := tk }) : wpAny M A t Q E s :=
  wpAny_mono h (fun r s' ⟨e, v1, v2, v3, v4, h', tk, e2, F', N'⟩ => by subst e e2; exact k v1 v2 v3 v4 h' tk F' N') fun _ _ e => e
theorem bare_enc3 {kind x : Int} {b bb : Array UInt8} {ks zs zb : List Int} (hb : KBw.bInts bb = signed ks zb) (hB : bareZ zs = zb) (hR : RowOk (ks.length : Int) zs x) (hS : Sg kind b ks) : KBw.bInts bb = txt ks x false := by
  subst hB
  rw [hb]; exact bare_enc hS.n0 hR.1 hR.2.2
theorem text_some {kind x : Int} {b bb : Array UInt8} {ks zs zb : List Int} (h : 0 < (signed ks zb).length) (hb : KBw.bInts bb = signed ks zb) (hB : bareZ zs = zb) (hR : RowOk (ks.length : Int) zs x) (hS : Sg kind b ks) : KBw.bInts bb = txt ks x true := by
  subst hB
  rw [hb]; exact bare_some hS.n0 hR.1 hR.2.2 h
theorem text_none {kind x : Int} {b bb : Array UInt8} {ks zs zb : List Int} (h : ¬ 0 < (signed ks zb).length) (hb : KBw.bInts bb = [ks.getD (Int.toNat 0) 0]) (hB : bareZ zs = zb) (hR : RowOk (ks.length : Int) zs x) (hS : Sg kind b ks) : KBw.bInts bb = txt ks x true := by
  subst hB
  rw [hb]; exact bare_none hS.n0 hR.1 hR.2.2 h
theorem cutText {M : Model} {A : Around} {E : Value → Shared → Prop} {t : Sem Value} {Q : Value → Shared → Prop} {bb : Array UInt8} {x : Int} {ks : List Int} (_hE : KBw.bInts bb = txt ks x false)
    (_F : Fr h₀ L s.heap m) (_N : News h₀ L s.heap news)
    (h : wpAny M A t (OutB h₀ L s m news (fun c => KBw.bInts c = txt ks x true)) E s)
    (k : ∀ b t h' tk, (KBw.bInts b = txt ks x true) → Fr h₀ L h' m → News h₀ L h' news → Q (.bytes b t) { s with heap := h', toks := tk }) : wpAny M A t Q E s := cutB _ h k
theorem cutSaid {M : Model} {A : Around} {E : Value → Shared → Prop} {t : Sem Value} {Q : Value → Shared → Prop} {tb : Array UInt8} {x : Int} {ks : List Int} (_hT : KBw.bInts tb = txt ks x true)
    (_F : Fr h₀ L s.heap m) (_N : News h₀ L s.heap news)
    (h : wpAny M A t (OutB h₀ L s m news (fun c => c = tb)) E s)
    (k : ∀ t h' tk, Fr h₀ L h' m → News h₀ L h' news → Q (.bytes tb t) { s with heap := h', toks := tk }) : wpAny M A t Q E s := cutB _ h fun b t h' tk e F N => by subst e; exact k t h' tk F N
theorem cutBack {M : Model} {A : Around} {E : Value → Shared → Prop} {t : Sem Value} {Q : Value → Shared → Prop} {tb : Array UInt8} {x : Int} {ks : List Int} (_hT : KBw.bInts tb = txt ks x true)
    (_F : Fr h₀ L s.heap m) (_N : News h₀ L s.heap news)
    (h : wpAny M A t (OutI h₀ L s m news x) E s)
    (k : ∀ t h' tk, Fr h₀ L h' m → News h₀ L h' news → Q (.int x t) { s with heap := h', toks := tk }) : wpAny M A t Q E s := cutI x h k
theorem make_one {A : Around} {E : Value → Shared → Prop} {vs : List Value} {x : Int} {Q : Value → Shared → Prop} (F : Fr h₀ L s.heap m) (N : News h₀ L s.heap news) (hh : A.handled = none) (hl : s.heap.IsList a vs.toArray) (hi : IntsAre vs [x]) (h0 : 0 ≤ x) (h1 : x < 256)
    (h : ∀ b h' t' k, Fr h₀ L h' m → News h₀ L h' news → KBw.bInts b = [x] → Q (.bytes b t') { s with heap := h', toks := k }) : wpAny (model prog w) A (call (.type "bytes") [.ref a]) Q E s := by
  have hin : KBa.In [x] := fun y hy => by rw [List.mem_singleton.mp hy]; exact ⟨h0, h1⟩
  exact KBa.make_K F N hh hl hi hin (by simp) (fun h' t' k' F' N' _ => h _ h' t' k' F' N' (KBa.ints_make hin))
theorem make_signed {A : Around} {E : Value → Shared → Prop} {vs : List Value} {zs ks : List Int} {kind : Int} {b0 : Array UInt8} {Q : Value → Shared → Prop} (F : Fr h₀ L s.heap m) (N : News h₀ L s.heap news) (hh : A.handled = none) (hl : s.heap.IsList a vs.toArray)
    (hi : IntsAre vs (List.map (fun k' => if 0 ≤ ks.getD k'.toNat 0 ∧ ks.getD k'.toNat 0 < 256 then ks.getD k'.toNat 0 else k') zs)) (hS : Sg kind b0 ks) (hz : DigOf (ks.length : Int) zs) (hn : zs.length ≤ 15)
    (h : ∀ b h' t' k, Fr h₀ L h' m → News h₀ L h' news → KBw.bInts b = signed ks zs → Q (.bytes b t') { s with heap := h', toks := k }) : wpAny (model prog w) A (call (.type "bytes") [.ref a]) Q E s := by
  have hm := signed_mem hz
  have hin : KBa.In (signed ks zs) := fun y hy => by
    have := hS.rg y (hm y hy)
    unfold InSigns at this
    omega
  have e : (List.map (fun k' => if 0 ≤ ks.getD k'.toNat 0 ∧ ks.getD k'.toNat 0 < 256 then ks.getD k'.toNat 0 else k') zs) = signed ks zs := by
    refine List.map_congr_left fun k hk => ?_
    have h1 := hin (ks.getD k.toNat 0) (List.mem_map.mpr ⟨k, hk, rfl⟩)
    rw [if_pos h1]
  rw [e] at hi
  exact KBa.make_K F N hh hl hi hin (by rw [signed_length]; omega) (fun h' t' k' F' N' _ => h _ h' t' k' F' N' (KBa.ints_make hin))
theorem bne_no {l : List UInt8} (h : (l != l) = true) : False := by simp at h
theorem ne_no {x : Int} (h : x ≠ x) : False := h rfl
theorem nee_no {x : Int} (h : ¬ x = x) : False := h rfl
theorem text_len2 {kind x : Int} {b : Array UInt8} {ks zs fs : List Int} (h : Sg kind b ks) (hR : RowOk (ks.length : Int) zs x) (hf : fs.length ≤ 2) : fs.length + (txt ks x true).length ≤ 16777216 := by
  have := text_len h hR hf
  rw [List.length_append] at this
  omega
theorem signed_le {ks zs : List Int} (h : zs.length ≤ 15) : (signed ks zs).length ≤ 1099511627776 := by rw [signed_length]; omega
theorem in_sub {α : Type} {p x : α} {l : List α} (h : p ∈ l) : p ∈ x :: l := .tail _ h
theorem c_ref3 {v bs : Array UInt8} {ks vs : List Int} {tk1 tk2 : Tok} {kind : Int}
    (B : Below A₀ base [] h₀) (F : Fr h₀ L s.heap m) (X : (hd.heap_39 w.params).In h₀) (N : News h₀ L s.heap news) (T : Top PP LO mean mg mb h₀) (hk : cs.kind = .function)
    (hS : Sg kind bs ks) (hv : KBw.bInts v = vs) (hvl : vs.length ≤ 100) (hex : ∃ c ∈ rstripL vs, c ∉ ks) (GD : Gd w base mean mg mb)
    (hd : dp + 6 < recursionLimit) (hu : un + 60 < cLine)
    (hret : ∀ h' tk, Fr h₀ L h' m → News h₀ L h' news → Q (.bool true) { s with heap := h', toks := tk }) :
    wpAny (model prog w) (ktrTop dp un gd cn cs L a ccd cl []) (call (.ref 97) [.bytes v tk1, .bytes bs tk2]) Q E s :=
  c_refusedB B F X N T hk hS.hb hS.nd hS.n0 hS.n1 hS.no32 hv hvl hex GD hd hu hret
/-- a strange sign -/
def StrangeIs (ks : List Int) (c : Array UInt8) : Prop := ∃ o, KBw.bInts c = [o] ∧ o ∉ ks ∧ isSp o = false
def StrangeOr (ks ys : List Int) (c : Array UInt8) : Prop := ∃ o, KBw.bInts c = [o] ∧ o ∉ ks ∧ (isSp o = false ∨ ys ≠ [])
theorem StrangeOr.out {ks ys : List Int} {c : Array UInt8} (h : StrangeOr ks ys c) : ∃ o, KBw.bInts c = [o] ∧ o ∉ ks ∧ (isSp o = false ∨ ys ≠ []) := h
theorem len_ne {ys : List Int} (h : 0 < ys.length) : ys ≠ [] := fun e => by subst e; exact absurd h (Nat.lt_irrefl 0)
theorem blank_ints : KBw.bInts #[32, 10] = [32, 10] := rfl
theorem StrangeIs.or {ks ys : List Int} {c : Array UInt8} (h : StrangeIs ks c) : StrangeOr ks ys c := h.elim fun o q => ⟨o, q.1, q.2.1, Or.inl q.2.2⟩
theorem strange_blank {kind : Int} {b : Array UInt8} {ks ys : List Int} (hS : Sg kind b ks) (h : ys ≠ []) : StrangeOr ks ys #[32] := ⟨32, rfl, hS.no32, Or.inr h⟩
theorem strange_1 {kind : Int} {b : Array UInt8} {ks : List Int} (hS : Sg kind b ks) : StrangeIs ks #[1] := ⟨1, rfl, hS.no1, rfl⟩
theorem strange_48 {kind : Int} {b : Array UInt8} {ks : List Int} (h0 : 0 ≤ kind) (h : kind < 2) (hS : Sg kind b ks) : StrangeIs ks #[48] := ⟨48, rfl, hS.st h h0 _ (by simp), rfl⟩
theorem strange_73 {kind : Int} {b : Array UInt8} {ks : List Int} (h0 : 0 ≤ kind) (h : kind < 2) (hS : Sg kind b ks) : StrangeIs ks #[73] := ⟨73, rfl, hS.st h h0 _ (by simp), rfl⟩
theorem strange_79 {kind : Int} {b : Array UInt8} {ks : List Int} (h0 : 0 ≤ kind) (h : kind < 2) (hS : Sg kind b ks) : StrangeIs ks #[79] := ⟨79, rfl, hS.st h h0 _ (by simp), rfl⟩
theorem strange_108 {kind : Int} {b : Array UInt8} {ks : List Int} (h0 : 0 ≤ kind) (h : kind < 2) (hS : Sg kind b ks) : StrangeIs ks #[108] := ⟨108, rfl, hS.st h h0 _ (by simp), rfl⟩
theorem fmod4_nonneg (x : Int) : 0 ≤ x.fmod 4 := by rw [Int.fmod_eq_emod_of_nonneg _ (by decide)]; omega
theorem cutStrange {M : Model} {A : Around} {E : Value → Shared → Prop} {t : Sem Value} {Q : Value → Shared → Prop} {kind : Int} {b0 : Array UInt8} {ks : List Int} (_hS : Sg kind b0 ks)
    (_F : Fr h₀ L s.heap m) (_N : News h₀ L s.heap news)
    (h : wpAny M A t (OutB h₀ L s m news (StrangeIs ks)) E s)
    (k : ∀ b t h' tk, StrangeIs ks b → Fr h₀ L h' m → News h₀ L h' news → Q (.bytes b t) { s with heap := h', toks := tk }) : wpAny M A t Q E s := cutB _ h k
def OutS (h₀ : Heap) (L : Addr) (s : Shared) (m : Str → Option Value) (news : List (Addr × Obj)) (P : Array UInt8 → Prop) (f : Flow) (s' : Shared) : Prop :=
  f = .next ∧ ∃ c t h' tk, s' = { s with heap := h', toks := tk } ∧ P c ∧ Fr h₀ L h' (fun y => if y = Str.ofString "strange" then some (.bytes c t) else m y) ∧ News h₀ L h' news
theorem OutS.intro {m m' : Str → Option Value} {news news' : List (Addr × Obj)} {P : Array UInt8 → Prop} {c : Array UInt8} {t : Tok} {h' : Heap} {tk : Nat} (F : Fr h₀ L h' m') (N : News h₀ L h' news') (hs : ∀ p ∈ news, p ∈ news')
    (e1 : m' (Str.ofString "strange") = some (.bytes c t)) (he : ∀ y, y ≠ Str.ofString "strange" → m' y = m y) (hP : P c) : OutS h₀ L s m news P .next { s with heap := h', toks := tk } := by
  have em : m' = (fun y => if y = Str.ofString "strange" then some (.bytes c t) else m y) := by
    funext y
    by_cases h1 : y = Str.ofString "strange"
    · rw [if_pos h1, h1, e1]
    · rw [if_neg h1, he y h1]
  subst em
  exact ⟨rfl, c, t, h', tk, rfl, hP, F, newsOf N hs⟩
theorem cutOr {M : Model} {A : Around} {E : Value → Shared → Prop} {t : Sem Flow} {Q : Flow → Shared → Prop} {rb : Array UInt8} {ks ys : List Int} (_hb : KBw.bInts rb = signed ks ys) (_F : Fr h₀ L s.heap m) (_N : News h₀ L s.heap news)
    (h : wpAny M A t (OutS h₀ L s m news (StrangeOr ks ys)) E s) (k : ∀ c t h' tk, StrangeOr ks ys c → Fr h₀ L h' (fun y => if y = Str.ofString "strange" then some (.bytes c t) else m y) → News h₀ L h' news → Q .next { s with heap := h', toks := tk }) : wpAny M A t Q E s :=
  wpAny_mono h (fun r s' ⟨e, c, t, h', tk, e2, hP, F', N'⟩ => by subst e e2; exact k c t h' tk hP F' N') fun _ _ e => e
theorem dec_whole {kind x y : Int} {b : Array UInt8} {ks xs ys : List Int} (h : Sg kind b ks) (hx : RowOk (ks.length : Int) xs x) (hy : RowOk (ks.length : Int) ys y) : DecOk ks (signed ks xs ++ signed ks ys ++ [32, 10]) (x * (ks.length : Int) ^ ys.length + y) := by
  have := dec_blank h (hx.1.append hy.1)
  rw [signed_append, numZ_append _ _ _ _ rfl, hx.2.2, hy.2.2] at this
  exact this
theorem c_bare3 {l : Addr} {vs : List Value} {ns : List Int} {n0 : Nat} {bs x : Int}
    (B : Below A₀ base outer h₀) (F : Fr h₀ L s.heap m) (X : (hd.heap_39 w.params).In h₀) (N : News h₀ L s.heap news) (T : Top PP LO mean mg mb h₀) (hk : cs.kind = .function)
    (hm : (l, W.listOf vs.toArray n0) ∈ news) (hi : IntsAre vs ns) (hR : RowOk bs ns x) (hd : dp + 2 < recursionLimit) (hu : un + 20 < cLine)
    (hret : ∀ (a' : Addr) (vs' : List Value) (n' : Nat) (zb : List Int) h' tk', Fr h₀ L h' m → News h₀ L h' ((a', W.listOf vs'.toArray n') :: news) → IntsAre vs' zb → bareZ ns = zb → DigOf bs zb → zb.length ≤ 15 → Q (.ref a') { s with heap := h', toks := tk' }) :
    wpAny (model prog w) (ktrTop dp un gd cn cs L a ccd cl outer) (call (.ref 69) [.ref l]) Q E s :=
  c_bare B F X N T hk hm hi hR.2.1 hd hu (fun a' vs' n' h' tk' F' N' hI => hret a' vs' n' _ h' tk' F' N' hI rfl (bareZ_dig hR.1) (Nat.le_trans (bareZ_length _) hR.2.1))
end
end Fe38
theorem Fe38.restFS : True := by
  w_top off
  trivial
namespace Fe38

section
open PySem.Calls PySem.Spec
variable {prog : Program} {w : World} {A : Around} {E : Value → Shared → Prop} {s : Shared} {h₀ : Heap} {L : Addr} {m : Str → Option Value} {env : Env}
/-- a list comprehension over octets -/
def BySrc (prog : Program) (w : World) (A : Around) (h₀ : Heap) (L : Addr) (m : Str → Option Value) (env : Env) (elt : Expr) (x : Str) (scope : Scope) (cl : List (Str × Addr)) (Fin : Shared → List Value → List (Addr × Obj) → Prop) (xv : Value) (s₁ : Shared) : Prop :=
  ∃ (b : Array UInt8) (t : Tok) (ks : List Int) (news : List (Addr × Obj)), xv = .bytes b t ∧ KBw.bInts b = ks ∧ ks.length ≤ 16777216 ∧ A.handled = none ∧ Fr h₀ L s₁.heap m ∧ News h₀ L s₁.heap news ∧
    ∀ s₂ : Shared, (∃ h, s₂ = { s₁ with heap := h }) → LCg.CompRest prog w A h₀ L m env elt x scope cl s₂ (fun _ => True) (fun i v => ∃ (c : UInt8) (u : Tok), b[i]? = some c ∧ v = .int (c.toNat : Int) u) (Fin s₂) b.size 0 [] news
theorem by_st {I : Addr} {b : Array UInt8} {t : Tok} : ∀ i (h h' : Heap) (o : Obj) (nw : List (Addr × Obj)), KBw.IsBytesIter h I b t i → h.get? I = some o → h'.get? I = some o → (∀ b o, h₀.get? b = some o → h'.get? b = some o) → News h₀ L h' nw → True → KBw.IsBytesIter h' I b t i :=
  fun i h h' o nw st e e' _ _ _ => by obtain ⟨o', q, r⟩ := st; rw [e] at q; cases q; exact ⟨o, e', r⟩
theorem ListComp_By {elt iter : Expr} {x : Str} {px : Pos} {scope : Scope} {cl : List (Str × Addr)} {pos : Pos} {Q : Value → Shared → Prop} (F₀ : Fr h₀ L s.heap m)
    (hclos : closureFor scope env = pure cl) (hcell : ∀ y ∈ scope.names, y.2 ≠ .cell) (hkind : scope.kind = .function)
    (hnames : ∀ y ∈ scope.names, y.2 = .local → scope.names.lookup y.1 = some .local) (hx : scope.names.lookup x = some .local)
    (h : wpAny (model prog w) A (eval iter env) (BySrc prog w A h₀ L m env elt x scope cl (fun s₂ => LCg.FinE h₀ L m s₂ Q)) E s)
    (hs : ∀ x, foldedSetIterable iter env x = pure x := by intro _; rfl) :
    wpAny (model prog w) A (eval (.ListComp elt [⟨.Name x px, iter, [], 0⟩] scope pos) env) Q E s := by
  rw [eval_ListComp]
  refine wpAny_comprehension_free (use := none) rfl hs hclos hkind hnames (wpAny_mono h (fun xv s₁ h₁ => ?_) fun _ _ e => e)
  obtain ⟨b, t, ks, news, rfl, hb, hsz, hh, F, N, R⟩ := h₁
  refine KBw.pyIter_bytes ?_
  have hsz' : b.size ≤ sizeLine := by rw [sizeLine_eq, ← KBw.ints_length b, hb]; exact hsz
  refine LCg.block_U (KBw.walks hh s₁.heap.objs.size b t) hsz' (fun i h st => by obtain ⟨o, e, _⟩ := st; exact ⟨o, e⟩) by_st hcell hkind hx ⟨_, Heap.get?_push_size _ rfl, rfl, rfl⟩ (fun b hb => ?_)
      (F.keeps fun _ _ e => Heap.get?_push_of_some _ e) (N.grown fun _ _ e => Heap.get?_push_of_some _ e) (Nat.ne_of_lt F.ns.lt) (next_is_new F) (fun p hp => Nat.ne_of_lt (Heap.lt_size (N p hp).1)) trivial (R _ ⟨_, rfl⟩) ?_
  · rw [List.mem_singleton.mp hb]
    show s₁.heap.objs.size < (s₁.heap.push _).objs.size
    rw [Heap.size_push]; exact Nat.lt_succ_self _
  · intro D C h tk m' ys news' F' N' o1 hn hC₀ hD₀ hCL hDL hCD offC fin
    refine ⟨m', hn, fun h'' hs'' => fin D h'' tk (F'.change hs'' hCL hC₀) (fun p hp => ?_) o1⟩
    refine ⟨hs''.extBut _ _ ?_ (N' p hp).1, (N' p hp).2⟩
    rcases List.mem_cons.mp hp with rfl | hp
    · exact Ne.symm hCD
    · exact offC p hp
def sgn (k : Int) : Str := ⟨#[k.toNat]⟩
theorem BySrc.intro {elt : Expr} {x : Str} {scope : Scope} {cl : List (Str × Addr)} {Fin : Shared → List Value → List (Addr × Obj) → Prop} {b : Array UInt8} {t : Tok} {ks : List Int} {news : List (Addr × Obj)} {s₁ : Shared}
    (hb : KBw.bInts b = ks) (hsz : ks.length ≤ 16777216) (hh : A.handled = none) (F : Fr h₀ L s₁.heap m) (N : News h₀ L s₁.heap news)
    (turn : ∀ g k t I oI C oC D m₂ ys h tk (E' : Value → Shared → Prop), 0 ≤ k → k ≤ 255 → LCg.NsObj oC m₂ → m₂ x = some (.int k t) → Fr h₀ L h m → News h₀ L h ((I, oI) :: (C, oC) :: (D, LCg.lst ys) :: news) → LCg.Off3 I C D news → ((@Ne Nat I C) ∧ (@Ne Nat I D) ∧ (@Ne Nat C D)) →
      wpAny (model prog w) A (eval elt (compEnvC scope cl C env)) (LCg.CompEnd h₀ L m { { s₁ with heap := g } with heap := h, toks := tk } I oI C oC D (LCg.lst ys) (fun _ => True) (fun y news' => KCtEl news (sgn k) y news')) E' { { s₁ with heap := g } with heap := h, toks := tk })
    (fin : ∀ g ys, CarriedAll ys (ks.map fun k => PyData.str (sgn k)) → ks.length = b.size → Fin { s₁ with heap := g } ys news) :
    BySrc prog w A h₀ L m env elt x scope cl Fin (.bytes b t) s₁ := by
  refine ⟨b, t, ks, news, rfl, hb, hsz, hh, F, N, ?_⟩
  rintro s₂ ⟨g, rfl⟩
  refine kct_rest (ks := ks) sgn (by rw [← hb, KBw.ints_length]) ?_ (fun k t I oI C oC D m₂ ys h tk E' hk hC hx F N off ne mk => turn g k t I oI C oC D m₂ ys h tk E' ?_ ?_ hC hx F N off ne) (fin g)
  · rintro i v hi ⟨c, u, hc, rfl⟩
    exact ⟨_, u, hb ▸ KBw.ints_get hc, rfl⟩
  · exact (KBw.ints_in (hb.symm ▸ hk)).1
  · have := (KBw.ints_in (b := b) (hb.symm ▸ hk)).2; omega
theorem join_cps : ∀ l : List Str, (Str.join (Str.ofString "") l).cps.toList = (l.map fun a => a.cps.toList).flatten
  | [] => rfl
  | [a] => by
    show a.cps.toList = _
    simp
  | a :: b :: r => by
    have ih := join_cps (b :: r)
    show (a ++ Str.ofString "" ++ Str.join (Str.ofString "") (b :: r)).cps.toList = _
    have e : Str.ofString "" = Str.empty := by decide
    rw [e, Str.append_empty, ← e, Str.cps_append, Array.toList_append, ih]
    simp
theorem told_cps (ks : List Int) (h : ∀ k ∈ ks, 0 ≤ k) : (PySem.Txt.join (Str.ofString "") (ks.map sgn)).cps.toList.map (fun c : Nat => (c : Int)) = ks := by
  show (Builtin.Str.glued (Str.ofString "") (ks.map sgn)).cps.toList.map _ = _
  rw [StrLaws.glued_eq_join, join_cps, List.map_map]
  induction ks with
  | nil => rfl
  | cons k r ih =>
    rw [List.map_cons, List.flatten_cons, List.map_append, ih (fun q hq => h q (.tail _ hq))]
    have := h k (.head _)
    show ([k.toNat].map (fun c : Nat => (c : Int))) ++ r = k :: r
    simp
    omega
theorem join_told {D : Addr} {ys : List Value} {ks : List Int} {t : Tok} {Q : Value → Shared → Prop} (hl : s.heap.IsList D ys.toArray) (hc : CarriedAll ys (ks.map fun a => PyData.str (sgn a))) (hb : ∀ k ∈ ks, 0 ≤ k) (hn : ks.length ≤ 100)
    (h : ∀ (x : Str) t' k, x.cps.toList.map (fun c : Nat => (c : Int)) = ks → Q (.str x t') { s with toks := k }) :
    wpAny (model prog w) A (call (.builtin "str.join") [.str (PySem.Str.ofString "") t, .ref D]) Q E s :=
  KT.join_1 hl hc (fun a _ => rfl) (by omega) (fun t' k _ => h _ t' k (told_cps ks hb))
end
theorem max_K {prog : Program} {w : World} {A : Around} {E : Value → Shared → Prop} {s : Shared} {h₀ : Heap} {L : Addr} {m : Str → Option Value} {news : List (Addr × Obj)} {b : Array UInt8} {t : Tok} {ks : List Int} {Q : Value → Shared → Prop} (F : Fr h₀ L s.heap m) (N : News h₀ L s.heap news) (hh : A.handled = none) (hk : KBw.bInts b = ks) (h0 : 0 < ks.length)
    (h : ∀ M h' t' k, Fr h₀ L h' m → News h₀ L h' news → M ∈ ks → (∀ a ∈ ks, a ≤ M) → Q (.int M t') { s with heap := h', toks := k }) : wpAny (model prog w) A (call (.builtin "max") [.bytes b t]) Q E s := by
  subst hk
  have hl := KBw.ints_length b
  have hval : ∀ (i : Nat) (v : Value), (∃ (c : UInt8) (u : Tok), b[i]? = some c ∧ v = .int (c.toNat : Int) u) → ∃ t, v = .int ((KBw.bInts b).getD i 0) t := by
    rintro i v ⟨c, u, hc, rfl⟩
    have e := KBw.ints_get hc
    refine ⟨u, ?_⟩
    rw [List.getD_eq_getElem?_getD, e]
    rfl
  refine call_max_walk (KBw.pyIter_bytes ?_)
  refine ⟨s.heap.objs.size, [s.heap.objs.size], [s.heap.objs.size], b.size, _, _, _, rfl, KBw.walks (A := A.in1) hh s.heap.objs.size b t, ⟨_, Heap.get?_push_size _ rfl, rfl, rfl⟩, ?_, by omega, CmpOf.ints_gt (fun i => (KBw.bInts b).getD i 0) hval, ?_⟩
  · intro a ha
    rw [List.mem_singleton.mp ha]
    exact Heap.lt_size (Heap.get?_push_size _ rfl)
  · intro v h' tk hv hk'
    obtain ⟨t', rfl⟩ := hval _ _ hv
    have keep : ∀ a o, s.heap.get? a = some o → h'.get? a = some o := fun a o ha => hk' a o (fun hm => absurd (Heap.lt_size ha) (by rw [List.mem_singleton.mp hm]; exact Nat.lt_irrefl _)) (Heap.get?_push_of_some _ ha)
    obtain ⟨h1, h2⟩ := argBest_gt (fun i => (KBw.bInts b).getD i 0) (b.size - 1)
    refine h _ h' t' tk (F.keptAll keep) (N.grown keep) ?_ fun a ha => ?_
    · rw [List.getD_eq_getElem?_getD, List.getElem?_eq_getElem (by omega)]
      exact List.getElem_mem _
    · obtain ⟨j, hj, rfl⟩ := List.mem_iff_getElem.mp ha
      have := h2 j (by omega)
      rw [List.getD_eq_getElem?_getD, List.getElem?_eq_getElem hj] at this
      exact this
theorem max_le {ks : List Int} {M : Int} (h : ∀ a ∈ ks, a ≤ M) (hM : ¬ 127 < M) : ∀ c ∈ ks, c ≤ 127 := fun c hc => by have := h c hc; omega
theorem max_gt {ks : List Int} {M : Int} (h : M ∈ ks) (hM : 127 < M) : ∃ c ∈ ks, 127 < c := ⟨M, h, hM⟩
theorem space_no : ∀ c < 248, ((33 ≤ c ∧ c ≤ 126) ∨ 161 ≤ c) → Unicode.isSpace c = false := by decide +kernel
theorem strip_list (x : Str) : (PySem.Txt.rstrip x).cps.toList = x.cps.toList.take (x.cps.toList.length - (x.cps.toList.reverse.takeWhile Unicode.isSpace).length) := by
  have hlen : x.length = x.cps.toList.length := by rw [Array.length_toList]; rfl
  show (if stripSame Unicode.isSpace false true x then x else PySem.stripped Unicode.isSpace false true x).cps.toList = _
  have e : stripHi Unicode.isSpace true x (stripLo Unicode.isSpace false x) = x.cps.toList.length - (x.cps.toList.reverse.takeWhile Unicode.isSpace).length := by
    show x.length - ((x.cps.toList.drop 0).reverse.takeWhile Unicode.isSpace).length = _
    rw [List.drop_zero, hlen]
  split
  · rename_i h
    have h2 : stripHi Unicode.isSpace true x (stripLo Unicode.isSpace false x) = x.length := by
      unfold stripSame at h
      rw [Bool.and_eq_true] at h
      exact beq_iff_eq.mp h.2
    rw [e] at h2
    rw [h2, hlen, List.take_length]
  · show (x.cps.extract (stripLo Unicode.isSpace false x) (stripHi Unicode.isSpace true x (stripLo Unicode.isSpace false x))).toList = _
    rw [e]
    show (x.cps.extract 0 _).toList = _
    rw [Array.toList_extract, List.extract_eq_take_drop, List.drop_zero, Nat.sub_zero]
theorem rstrip_told {kind : Int} {b : Array UInt8} {ks zs : List Int} {x : Str} (h : Sg kind b ks) (hz : DigOf (ks.length : Int) zs) (hx : x.cps.toList.map (fun c : Nat => (c : Int)) = signed ks zs ++ [32, 10]) :
    (PySem.Txt.rstrip x).cps.toList.map (fun c : Nat => (c : Int)) = signed ks zs ∧ x.cps.toList = (PySem.Txt.rstrip x).cps.toList ++ [32, 10] := by
  obtain ⟨a, r, he, ha, hr⟩ := List.map_eq_append_iff.mp hx
  have hr2 : r = [32, 10] := by
    rcases r with _ | ⟨p, _ | ⟨q, _ | ⟨z, r⟩⟩⟩
    · cases hr
    · cases hr
    · have h1 : (p : Int) = 32 := by injection hr
      have h2 : (q : Int) = 10 := by injection hr with _ h2; injection h2
      have e1 : p = 32 := by omega
      have e2 : q = 10 := by omega
      rw [e1, e2]
    · cases hr
  subst hr2
  have hns : ∀ c ∈ a, Unicode.isSpace c = false := by
    intro c hc
    have hm : (c : Int) ∈ signed ks zs := by rw [← ha]; exact List.mem_map.mpr ⟨c, hc, rfl⟩
    have hi := h.rg _ (signed_mem hz _ hm)
    unfold InSigns at hi
    exact space_no c (by omega) (by omega)
  have ht : (a ++ [32, 10]).reverse.takeWhile Unicode.isSpace = [10, 32] := by
    rw [List.reverse_append]
    show List.takeWhile Unicode.isSpace (10 :: 32 :: a.reverse) = _
    rw [List.takeWhile_cons, if_pos (by decide), List.takeWhile_cons, if_pos (by decide)]
    congr 2
    cases e : a.reverse with
    | nil => rfl
    | cons y q =>
      have : y ∈ a := List.mem_reverse.mp (by rw [e]; exact .head _)
      rw [List.takeWhile_cons, if_neg (by rw [hns y this]; exact Bool.false_ne_true)]
  have hs : (PySem.Txt.rstrip x).cps.toList = a := by
    rw [strip_list, he, ht, List.length_append]
    show List.take (a.length + 2 - 2) (a ++ [32, 10]) = a
    rw [Nat.add_sub_cancel, List.take_left]
  rw [hs]
  exact ⟨ha, he⟩
theorem bad_none {a : Array Nat} (h : ∀ c ∈ a.toList, c < 128) : a.findIdx? Builtin._codecs.asciiCodec.bad = none := by
  rw [Array.findIdx?_eq_none_iff]
  intro c hc
  have := h c (Array.mem_toList_iff.mpr hc)
  show decide (c ≥ 128) = false
  exact decide_eq_false (by omega)
theorem bad_some {a : Array Nat} {c : Nat} (hc : c ∈ a.toList) (h : 128 ≤ c) : a.findIdx? Builtin._codecs.asciiCodec.bad ≠ none := by
  intro e
  rw [Array.findIdx?_eq_none_iff] at e
  have := e c (Array.mem_toList_iff.mp hc)
  have h2 : Builtin._codecs.asciiCodec.bad c = true := decide_eq_true h
  rw [h2] at this
  cases this
section
variable {prog : Program} {w : World} {dp un : Nat} {gd : Option (List Code)} {cn : Str} {cs : Scope} {a : Addr} {ccd : Value} {cl : List (Str × Addr)} {outer : List Env} {A₀ : Around} {base h₀ : Heap} {L : Addr} {m : Str → Option Value} {news : List (Addr × Obj)} {s : Shared} {Q E : Value → Shared → Prop} {mean : ExcName → Option Value} {mg mb : Str → Option Value}

theorem told_ok {kind : Int} {b : Array UInt8} {ks xs ys : List Int} {x : Str} (hS : Sg kind b ks) (hx : DigOf (ks.length : Int) xs) (hy : DigOf (ks.length : Int) ys) (hl1 : xs.length ≤ 7) (hl2 : ys.length ≤ 7) (ht : x.cps.toList.map (fun c : Nat => (c : Int)) = signed ks xs ++ signed ks ys ++ [32, 10]) :
    (Txt.rstrip x).cps.toList.map (fun c : Nat => (c : Int)) = signed ks (xs ++ ys) ∧ x.cps.toList = (Txt.rstrip x).cps.toList ++ [32, 10] ∧ x.cps.size ≤ 16 ∧ (Txt.rstrip x).cps.size ≤ 14 ∧ (signed ks (xs ++ ys)).length ≤ 14 := by
  rw [← signed_append] at ht
  have h := rstrip_told hS (hx.append hy) ht
  have h1 : (signed ks (xs ++ ys)).length ≤ 14 := by rw [signed_length, List.length_append]; omega
  have h2 : (Txt.rstrip x).cps.size = (signed ks (xs ++ ys)).length := by rw [← h.1, List.length_map, Array.length_toList]
  have h3 : x.cps.size = (Txt.rstrip x).cps.size + 2 := by rw [← Array.length_toList, h.2, List.length_append, Array.length_toList]; rfl
  exact ⟨h.1, h.2, by omega, by omega, h1⟩
theorem c_decS3 {x : Str} {bs : Array UInt8} {ks xs ys : List Int} {tk1 tk2 : Tok} {kind u v : Int}
    (B : Below A₀ base outer h₀) (F : Fr h₀ L s.heap m) (X : (hd.heap_39 w.params).In h₀) (N : News h₀ L s.heap news) (T : Top PP LO mean mg mb h₀) (hk : cs.kind = .function)
    (hS : Sg kind bs ks) (hu1 : RowOk (ks.length : Int) xs u) (hv1 : RowOk (ks.length : Int) ys v) (hl1 : xs.length ≤ 7) (hl2 : ys.length ≤ 7) (ht : x.cps.toList.map (fun c : Nat => (c : Int)) = signed ks xs ++ signed ks ys ++ [32, 10])
    (hmx : ∀ c ∈ signed ks xs ++ signed ks ys ++ [32, 10], c ≤ 127) (GD : Gd w base mean mg mb)
    (hd : dp + 4 < recursionLimit) (hu : un + 50 < cLine)
    (hret : ∀ t h' tk, Fr h₀ L h' m → News h₀ L h' news → Q (.int (u * (ks.length : Int) ^ ys.length + v) t) { s with heap := h', toks := tk }) :
    wpAny (model prog w) (ktrTop dp un gd cn cs L a ccd cl outer) (call (.ref 43) [.str x tk1, .bytes bs tk2]) Q E s := by
  have h := told_ok hS hu1.1 hv1.1 hl1 hl2 ht
  have hm := signed_mem (hu1.1.append hv1.1)
  have hdec : decF ks (signed ks (xs ++ ys)) = u * (ks.length : Int) ^ ys.length + v := by
    rw [decF_signed hS.nd _ _ rfl (hu1.1.append hv1.1), numZ_append _ _ _ _ rfl, hu1.2.2, hv1.2.2]
  have hasc : (Txt.rstrip x).cps.findIdx? Builtin._codecs.asciiCodec.bad = none := bad_none fun c hc => by
    have h1 : (c : Int) ∈ signed ks xs ++ signed ks ys ++ [32, 10] := by
      rw [← ht, h.2.1]
      exact List.mem_map.mpr ⟨c, List.mem_append_left _ hc, rfl⟩
    have := hmx _ h1
    omega
  refine c_decodeS B F X N T hk hS.hb hS.nd hS.n0 hS.n1 hS.no32 (by omega) h.1 (by omega) (by omega) GD hd hu (fun _ _ => by rw [hdec]; exact hret) (fun hbad => ?_)
  rcases hbad with hbad | ⟨c, hc, hn⟩
  · exact absurd hasc hbad
  · exact absurd (hm c hc) hn
theorem c_refS3 {x : Str} {bs : Array UInt8} {ks xs ys : List Int} {tk1 tk2 : Tok} {kind u v : Int}
    (B : Below A₀ base [] h₀) (F : Fr h₀ L s.heap m) (X : (hd.heap_39 w.params).In h₀) (N : News h₀ L s.heap news) (T : Top PP LO mean mg mb h₀) (hk : cs.kind = .function)
    (hS : Sg kind bs ks) (hu1 : RowOk (ks.length : Int) xs u) (hv1 : RowOk (ks.length : Int) ys v) (hl1 : xs.length ≤ 7) (hl2 : ys.length ≤ 7) (ht : x.cps.toList.map (fun c : Nat => (c : Int)) = signed ks xs ++ signed ks ys ++ [32, 10])
    (hmx : ∃ c ∈ signed ks xs ++ signed ks ys ++ [32, 10], 127 < c) (GD : Gd w base mean mg mb)
    (hd : dp + 6 < recursionLimit) (hu : un + 60 < cLine)
    (hret : ∀ h' tk, Fr h₀ L h' m → News h₀ L h' news → Q (.bool true) { s with heap := h', toks := tk }) :
    wpAny (model prog w) (ktrTop dp un gd cn cs L a ccd cl []) (call (.ref 97) [.str x tk1, .bytes bs tk2]) Q E s := by
  have h := told_ok hS hu1.1 hv1.1 hl1 hl2 ht
  have hbad : (Txt.rstrip x).cps.findIdx? Builtin._codecs.asciiCodec.bad ≠ none := by
    obtain ⟨c, hc, hc2⟩ := hmx
    rw [← ht] at hc
    obtain ⟨d, hd1, rfl⟩ := List.mem_map.mp hc
    rw [h.2.1] at hd1
    rcases List.mem_append.mp hd1 with hd1 | hd1
    · exact bad_some hd1 (by omega)
    · rcases List.mem_cons.mp hd1 with rfl | hd1
      · exact absurd hc2 (by decide)
      · rw [List.mem_singleton.mp hd1] at hc2
        exact absurd hc2 (by decide)
  exact c_refusedS B F X N T hk hS.hb hS.nd hS.n0 hS.n1 hS.no32 (by omega) h.1 (by omega) (by omega) (.inl hbad) GD hd hu hret
end
end Fe38
theorem Fe38.restFT : True := by
  w_top off
  trivial
namespace Fe38
theorem dig_lo {b k : Int} {zs : List Int} (hk : k ∈ zs) (h : DigOf b zs) : 0 ≤ k := (h k hk).1
theorem dig_hi {b k : Int} {zs : List Int} (hk : k ∈ zs) (h : DigOf b zs) : k < b := (h k hk).2
def MarkT : Prop := True
theorem keepX {w : World} {h₀ h : Heap} {L : Addr} {m : Str → Option Value} (X : (hd.heap_39 w.params).In h₀) (F : Fr h₀ L h m) : (hd.heap_39 w.params).In h := Frag.In.keeps X (Fr.keep F)
theorem ints_pos {b : Array UInt8} {ks : List Int} (h : KBw.bInts b = ks) : ∀ k ∈ ks, 0 ≤ k := fun k hk => (KBw.ints_in (h.symm ▸ hk)).1
theorem kct_sgn {news : List (Addr × Obj)} {k : Int} {t : Tok} : KCtEl news (sgn k) (.str ⟨#[k.toNat]⟩ t) news := ⟨rfl, t, rfl⟩
theorem comp_sgn {h₀ : Heap} {L : Addr} {m : Str → Option Value} {s₁ : Shared} {I C D : Addr} {oI oC oD : Obj} {news : List (Addr × Obj)} {k : Int} {t : Tok} {h' : Heap} {tk : Nat} (F : Fr h₀ L h' m) (N : News h₀ L h' ((I, oI) :: (C, oC) :: (D, oD) :: news)) (off : LCg.Off3 I C D news) :
    LCg.CompEnd h₀ L m s₁ I oI C oC D oD (fun _ => True) (fun y news' => KCtEl news (sgn k) y news') (.str ⟨#[k.toNat]⟩ t) { s₁ with heap := h', toks := tk } := LCg.CompEnd.intro F N news (fun p hp => hp) off trivial kct_sgn
theorem markT : MarkT := trivial
def MarkG : Prop := True
theorem markG : MarkG := trivial
def MarkH : Prop := True
theorem markH : MarkH := trivial
def MarkS : Prop := True
theorem markS : MarkS := trivial
def MarkB : Prop := True
theorem markB : MarkB := trivial
def MarkC : Prop := True
theorem markC : MarkC := trivial
def LtAll (d : Nat) : List (Addr × Obj) → Prop
  | [] => True
  | p :: r => @LT.lt Nat _ p.1 d ∧ LtAll d r
theorem LtAll.of {d : Addr} : ∀ {l : List (Addr × Obj)}, (∀ p ∈ l, p.1 < d) → LtAll d l
  | [], _ => trivial
  | p :: r, h => ⟨h p (.head _), LtAll.of fun q hq => h q (.tail _ hq)⟩
theorem make_front {prog : Program} {w : World} {A : Around} {E : Value → Shared → Prop} {s : Shared} {h₀ : Heap} {L a : Addr} {m : PySem.Str → Option Value} {news : List (Addr × Obj)} {vs : List Value} {k x : Int} {Q : Value → Shared → Prop} (F : Fr h₀ L s.heap m) (N : News h₀ L s.heap news) (hh : A.handled = none) (hl : s.heap.IsList a vs.toArray) (hi : IntsAre vs (List.replicate (k.fmod 3).toNat [x]).flatten) (h0 : 0 ≤ x) (h1 : x < 256)
    (h : ∀ b fs h' t' k, Fr h₀ L h' m → News h₀ L h' news → KBw.bInts b = fs → fs.length ≤ 2 → (∀ y ∈ fs, y = x) → Q (.bytes b t') { s with heap := h', toks := k }) : wpAny (model prog w) A (call (.type "bytes") [.ref a]) Q E s := by
  have hall : ∀ y ∈ (List.replicate (k.fmod 3).toNat [x]).flatten, y = x := by
    intro y hy
    rcases List.mem_flatten.mp hy with ⟨l, hl, hy⟩
    rw [List.eq_of_mem_replicate hl] at hy
    exact List.mem_singleton.mp hy
  have hlen : (List.replicate (k.fmod 3).toNat [x]).flatten.length ≤ 2 := by
    have e : (List.replicate (k.fmod 3).toNat [x]).flatten.length = (k.fmod 3).toNat := by simp
    rw [e, Int.fmod_eq_emod_of_nonneg _ (by decide)]
    omega
  have hin : KBa.In (List.replicate (k.fmod 3).toNat [x]).flatten := fun y hy => by rw [hall y hy]; exact ⟨h0, h1⟩
  exact KBa.make_K F N hh hl hi hin (by omega) (fun h' t' k' F' N' _ => h _ _ h' t' k' F' N' (KBa.ints_make hin) hlen hall)
def Mark1 : Prop := True
def OutG (s : Shared) (b : Array UInt8) (r : Value) (s' : Shared) : Prop := ∃ t tk, r = .bytes b t ∧ s' = { s with toks := tk }
theorem OutG.intro {s : Shared} {b c : Array UInt8} {t : Tok} {tk : Nat} (e : c = b) : OutG s b (.bytes c t) { s with toks := tk } := ⟨t, tk, e ▸ rfl, rfl⟩
theorem cutG {M : Model} {A : Around} {E : Value → Shared → Prop} {s : Shared} {t : Sem Value} {Q : Value → Shared → Prop} {kind : Int} {b : Array UInt8} {ks : List Int} (hs : Sg kind b ks)
    (h : wpAny M A t (OutG s b) E s) (k : ∀ t tk, Q (.bytes b t) { s with toks := tk }) : wpAny M A t Q E s :=
  wpAny_mono h (fun r s' ⟨t, tk, e, e2⟩ => by subst e e2; exact k t tk) fun _ _ e => e
theorem drawEx {vs : List Value} {ns : List Int} (h : IntsAre vs ns) : ∃ D, drawZ ns = D := ⟨_, rfl⟩
section
local macro_rules | `(tactic| walk_at "pad 0") => `(tactic| fail)
local macro_rules | `(tactic| walk_at "pad 1") => `(tactic| fail)
local macro_rules | `(tactic| walk_at "pad 2") => `(tactic| fail)
local macro_rules | `(tactic| walk_at "pad 3") => `(tactic| fail)
local macro_rules | `(tactic| walk_at "pad 4") => `(tactic| fail)
local macro_rules | `(tactic| walk_at "pad 5") => `(tactic| fail)
local macro_rules | `(tactic| walk_at "pad 6") => `(tactic| fail)
local macro_rules | `(tactic| walk_at "pad 7") => `(tactic| fail)
local macro_rules | `(tactic| walk_at "pad 8") => `(tactic| fail)
local macro_rules | `(tactic| walk_at "pad 9") => `(tactic| fail)
local macro_rules | `(tactic| walk_at "pad 10") => `(tactic| fail)
local macro_rules | `(tactic| walk_at "pad 11") => `(tactic| fail)
local macro_rules | `(tactic| walk_at "pad 12") => `(tactic| fail)
local macro_rules | `(tactic| walk_at "pad 13") => `(tactic| fail)
local macro_rules | `(tactic| walk_at "pad 14") => `(tactic| fail)
local macro_rules | `(tactic| walk_at "pad 15") => `(tactic| fail)
local macro_rules | `(tactic| walk_at "pad 16") => `(tactic| fail)
local macro_rules | `(tactic| walk_at "pad 17") => `(tactic| fail)
local macro_rules | `(tactic| walk_at "pad 18") => `(tactic| fail)
local macro_rules | `(tactic| walk_at "pad 19") => `(tactic| fail)
local macro_rules | `(tactic| walk_at "pad 20") => `(tactic| fail)
local macro_rules | `(tactic| walk_at "pad 21") => `(tactic| fail)
local macro_rules | `(tactic| walk_at "pad 22") => `(tactic| fail)
local macro_rules | `(tactic| walk_at "pad 23") => `(tactic| fail)
local macro_rules | `(tactic| walk_at "pad 24") => `(tactic| fail)
local macro_rules | `(tactic| walk_at "pad 25") => `(tactic| fail)
local macro_rules | `(tactic| walk_at "pad 26") => `(tactic| fail)
local macro_rules | `(tactic| walk_at "pad 27") => `(tactic| fail)
local macro_rules | `(tactic| walk_at "pad 28") => `(tactic| fail)
local macro_rules | `(tactic| walk_at "pad 29") => `(tactic| fail)
local macro_rules | `(tactic| walk_at "pad 30") => `(tactic| fail)
local macro_rules | `(tactic| walk_at "pad 31") => `(tactic| fail)
local macro_rules | `(tactic| walk_at "pad 32") => `(tactic| fail)
local macro_rules | `(tactic| walk_at "pad 33") => `(tactic| fail)
local macro_rules | `(tactic| walk_at "pad 34") => `(tactic| fail)
local macro_rules | `(tactic| walk_at "pad 35") => `(tactic| fail)
local macro_rules | `(tactic| walk_at "pad 36") => `(tactic| fail)
local macro_rules | `(tactic| walk_at "pad 37") => `(tactic| fail)
local macro_rules | `(tactic| walk_at "pad 38") => `(tactic| fail)
local macro_rules | `(tactic| walk_at "pad 39") => `(tactic| fail)
local macro_rules | `(tactic| walk_at "call ref") => `(tactic| (k_here; k_dflt (first | (refine' c_draw3 ?k1 ?k2 ?k3 ?k4 ?k5 ?kK ?z0 ?z1 ?z2 ?z3 ?z4 ?z5 ?kd ?ku ?_; (case k1 => k_asm); (case k2 => k_asm); (case k3 => k_asm); (case k4 => k_asm); (case k5 => k_asm); (case kK => exact rfl); (case z0 => assumption); (case z1 => assumption); (case z2 => assumption); (case z3 => (first | assumption | omega)); (case z4 => decide); (case z5 => decide); (case kd => ktr_room); (case ku => ktr_units); intro t9 h9 tk9 F9 N9; (try dsimp only); (try k_fold)) | (refine' c_sg ?k1 ?k2 ?k3 ?k4 ?k5 ?kK  ?kd ?ku ?_; (case k1 => k_asm); (case k2 => k_asm); (case k3 => k_asm); (case k4 => k_asm); (case k5 => k_asm); (case kK => exact rfl); (case kd => ktr_room); (case ku => ktr_units); intro b9 ks9 t9 h9 tk9 F9 N9 hSg9 hb9 hk9 hj9; have gm9 : Mark1 := trivial; (try dsimp only); (try k_fold)) | (refine' c_row3 ?k1 ?k2 ?k3 ?k4 ?k5 ?kK ?z0 ?z1 ?z2 ?z3 ?z4 ?z5 ?z6 ?z7 ?z8 ?kd ?ku ?_; (case k1 => k_asm); (case k2 => k_asm); (case k3 => k_asm); (case k4 => k_asm); (case k5 => k_asm); (case kK => exact rfl); (case z0 => assumption); (case z1 => assumption); (case z2 => (first | assumption | omega)); (case z3 => decide); (case z4 => decide); (case z5 => (first | omega | (rw [Int.fmod_eq_emod_of_nonneg _ (by decide)]; omega))); (case z6 => (first | omega | (rw [Int.fmod_eq_emod_of_nonneg _ (by decide)]; omega))); (case z7 => omega); (case z8 => omega); (case kd => ktr_room); (case ku => ktr_units); intro a9 vs9 n9 zs9 h9 tk9 F9 N9 hI9 hz9 hg9 hlt9; (try dsimp only); have hlt8 := LtAll.of hlt9; simp only [LtAll, and_true] at hlt8; clear hlt9; (try k_fold)) | (refine' c_num3 ?k1 ?k2 ?k3 ?k4 ?k5 ?kK ?z0 ?z1 ?z2 ?z3 ?z4 ?z5 ?kd ?ku ?_; (case k1 => k_asm); (case k2 => k_asm); (case k3 => k_asm); (case k4 => k_asm); (case k5 => k_asm); (case kK => exact rfl); (case z0 => k_mem); (case z1 => assumption); (case z2 => assumption); (case z3 => omega); (case z4 => omega); (case z5 => assumption); (case kd => ktr_room); (case ku => ktr_units); intro x9 t9 h9 tk9 F9 N9 hx9 hp9 hq9 hR9; (try dsimp only); (try k_fold)) | (refine' c_added3 ?k1 ?k2 ?k3 ?k4 ?k5 ?kK ?z0 ?z1 ?z2 ?z3 ?z4 ?z5 ?z6 ?z7 ?z8 ?z9 ?z10 ?kd ?ku ?_; (case k1 => k_asm); (case k2 => k_asm); (case k3 => k_asm); (case k4 => k_asm); (case k5 => k_asm); (case kK => exact rfl); (case z0 => k_mem); (case z1 => assumption); (case z2 => assumption); (case z3 => k_mem); (case z4 => assumption); (case z5 => assumption); (case z6 => omega); (case z7 => assumption); (case z8 => assumption); (case z9 => assumption); (case z10 => assumption); (case kd => ktr_room); (case ku => ktr_units); intro a9 vs9 n9 zs9 h9 tk9 F9 N9 hI9 hR9 hlt9; (try dsimp only); have hlt8 := LtAll.of hlt9; simp only [LtAll, and_true] at hlt8; clear hlt9; (try k_fold)) | (refine' c_bare3 ?k1 ?k2 ?k3 ?k4 ?k5 ?kK ?z0 ?z1 ?z2 ?kd ?ku ?_; (case k1 => k_asm); (case k2 => k_asm); (case k3 => k_asm); (case k4 => k_asm); (case k5 => k_asm); (case kK => exact rfl); (case z0 => k_mem); (case z1 => assumption); (case z2 => assumption); (case kd => ktr_room); (case ku => ktr_units); intro a9 vs9 n9 zb9 h9 tk9 F9 N9 hI9 hB9 hg9 hz9; (try dsimp only); (try k_fold)) | (refine' c_enc3 ?k1 ?k2 ?k3 ?k4 ?k5 ?kK ?z0 ?z1 ?z2 ?kd ?ku ?_; (case k1 => k_asm); (case k2 => k_asm); (case k3 => k_asm); (case k4 => k_asm); (case k5 => k_asm); (case kK => exact rfl); (case z0 => assumption); (case z1 => assumption); (case z2 => assumption); (case kd => ktr_room); (case ku => ktr_units); intro t9 h9 tk9 F9 N9; (try dsimp only); (try k_fold)) | (refine' c_enc13 ?k1 ?k2 ?k3 ?k4 ?k5 ?kK ?z0 ?z1 ?z2 ?z3 ?kd ?ku ?_; (case k1 => k_asm); (case k2 => k_asm); (case k3 => k_asm); (case k4 => k_asm); (case k5 => k_asm); (case kK => exact rfl); (case z0 => assumption); (case z1 => assumption); (case z2 => assumption); (case z3 => assumption); (case kd => ktr_room); (case ku => ktr_units); intro t9 h9 tk9 F9 N9; (try dsimp only); (try k_fold)) | (refine' c_dec3 ?k1 ?k2 ?k3 ?k4 ?k5 ?kK ?z0 ?z1 ?z2 ?z3 ?z4 ?kd ?ku ?_; (case k1 => k_asm); (case k2 => k_asm); (case k3 => k_asm); (case k4 => k_asm); (case k5 => k_asm); (case kK => exact rfl); (case z0 => assumption); (case z1 => assumption); (case z2 => (first | exact text_len (by assumption) (by assumption) (by assumption) | simp only [signed_length, List.length_append, List.length_cons, List.length_nil]; omega)); (case z3 => (first | exact dec_text (by assumption) (by assumption) (by assumption) | exact dec_whole (by assumption) (by assumption) (by assumption))); (case z4 => (exact ⟨by assumption, by assumption⟩)); (case kd => ktr_room); (case ku => ktr_units); intro t9 h9 tk9 F9 N9; (try dsimp only); (try k_fold)) | (refine' c_dec13 ?k1 ?k2 ?k3 ?k4 ?k5 ?kK ?z0 ?z1 ?z2 ?z3 ?z4 ?z5 ?kd ?ku ?_; (case k1 => k_asm); (case k2 => k_asm); (case k3 => k_asm); (case k4 => k_asm); (case k5 => k_asm); (case kK => exact rfl); (case z0 => assumption); (case z1 => assumption); (case z2 => assumption); (case z3 => (first | exact text_len (by assumption) (by assumption) (by assumption) | simp only [signed_length, List.length_append, List.length_cons, List.length_nil]; omega)); (case z4 => (first | exact dec_text (by assumption) (by assumption) (by assumption) | exact dec_whole (by assumption) (by assumption) (by assumption))); (case z5 => (exact ⟨by assumption, by assumption⟩)); (case kd => ktr_room); (case ku => ktr_units); intro t9 h9 tk9 F9 N9; (try dsimp only); (try k_fold)) | (refine' c_ref3 ?k1 ?k2 ?k3 ?k4 ?k5 ?kK ?z0 ?z1 ?z2 ?z3 ?z4 ?kd ?ku ?_; (case k1 => k_asm); (case k2 => k_asm); (case k3 => k_asm); (case k4 => k_asm); (case k5 => k_asm); (case kK => exact rfl); (case z0 => assumption); (case z1 => assumption); (case z2 => simp only [signed_length, List.length_append, List.length_cons, List.length_nil]; omega); (case z3 => (exact strange_ex (by assumption) (by assumption) (by assumption) (by assumption) (by assumption))); (case z4 => (exact ⟨by assumption, by assumption⟩)); (case kd => ktr_room); (case ku => ktr_units); intro h9 tk9 F9 N9; (try dsimp only); (try k_fold)) | (refine' c_decS3 ?k1 ?k2 ?k3 ?k4 ?k5 ?kK ?z0 ?z1 ?z2 ?z3 ?z4 ?z5 ?z6 ?z7 ?kd ?ku ?_; (case k1 => k_asm); (case k2 => k_asm); (case k3 => k_asm); (case k4 => k_asm); (case k5 => k_asm); (case kK => exact rfl); (case z0 => assumption); (case z5 => assumption); (case z1 => assumption); (case z2 => assumption); (case z3 => assumption); (case z4 => assumption); (case z6 => (exact max_le (by assumption) (by assumption))); (case z7 => (exact ⟨by assumption, by assumption⟩)); (case kd => ktr_room); (case ku => ktr_units); intro t9 h9 tk9 F9 N9; (try dsimp only); (try k_fold)) | (refine' c_refS3 ?k1 ?k2 ?k3 ?k4 ?k5 ?kK ?z0 ?z1 ?z2 ?z3 ?z4 ?z5 ?z6 ?z7 ?kd ?ku ?_; (case k1 => k_asm); (case k2 => k_asm); (case k3 => k_asm); (case k4 => k_asm); (case k5 => k_asm); (case kK => exact rfl); (case z0 => assumption); (case z5 => assumption); (case z1 => assumption); (case z2 => assumption); (case z3 => assumption); (case z4 => assumption); (case z6 => (exact max_gt (by assumption) (by assumption))); (case z7 => (exact ⟨by assumption, by assumption⟩)); (case kd => ktr_room); (case ku => ktr_units); intro h9 tk9 F9 N9; (try dsimp only); (try k_fold)) | (refine' c_timed3 ?k1 ?k2 ?k3 ?k4 ?k5 ?kK ?z0 ?z1 ?z2 ?z3 ?z4 ?z5 ?z6 ?z7 ?z8 ?z9 ?z10 ?z11 ?kd ?ku ?_; (case k1 => k_asm); (case k2 => k_asm); (case k3 => k_asm); (case k4 => k_asm); (case k5 => k_asm); (case kK => exact rfl); (case z0 => k_mem); (case z1 => assumption); (case z2 => assumption); (case z3 => k_mem); (case z4 => assumption); (case z5 => assumption); (case z6 => omega); (case z7 => omega); (case z8 => assumption); (case z9 => assumption); (case z10 => assumption); (case z11 => assumption); (case kd => ktr_room); (case ku => ktr_units); intro a9 vs9 n9 zs9 h9 tk9 F9 N9 hI9 hR9 hlt9; (try dsimp only); have hlt8 := LtAll.of hlt9; simp only [LtAll, and_true] at hlt8; clear hlt9; (try k_fold)))))
local macro_rules | `(tactic| walk_at "eval IfExp") => `(tactic| (k_here; (rename Mark1 => g8); clear g8; (rename Sg _ _ _ => hs8); refine cutG hs8 ?_ ?_; (rotate_left; intro t9 tk9; (try dsimp only); (try k_fold); rotate_right)))
local macro_rules | `(tactic| walk_at "ItemsRest") => `(tactic| first | ((with_unfolding_all refine ItemsRest.val (fun h' tk' F' => ?_)); ktu_objs; (have gm9 := markT)) | ((with_unfolding_all refine ItemsRest.zero (fun h' tk' F' N' => ?_)); have gm9 := markG))
local macro_rules | `(tactic| walk_at "execs cons") => `(tactic| (k_here; (rename MarkT => g8); clear g8; (rename Fr _ _ _ _ => F8); (rename News _ _ _ _ => N8); refine cutT F8 N8 ?_ ?_; (rotate_left; intro v1 v2 v3 v4 h9 tk9 F9 N9; clear F8 N8; (try dsimp only); (try k_fold); rotate_right; have gm9 := markS)))
local macro_rules | `(tactic| walk_at "eval IfExp") => `(tactic| (k_here; (rename MarkS => g8); clear g8; (rename Fr _ _ _ _ => F8); (rename News _ _ _ _ => N8); refine cutText (by assumption) F8 N8 ?_ ?_; (rotate_left; intro b9 t9 h9 tk9 hT9 F9 N9; clear F8 N8; (try dsimp only); (try k_fold); (have gm9 := markB); rotate_right)))
local macro_rules | `(tactic| walk_at "eval IfExp") => `(tactic| (k_here; (rename MarkB => g8); clear g8; (rename Fr _ _ _ _ => F8); (rename News _ _ _ _ => N8); refine cutSaid (by assumption) F8 N8 ?_ ?_; (rotate_left; intro t9 h9 tk9 F9 N9; clear F8 N8; (try dsimp only); (try k_fold); (have gm9 := markC); rotate_right)))
local macro_rules | `(tactic| walk_at "eval IfExp") => `(tactic| (k_here; (rename MarkC => g8); clear g8; (rename Fr _ _ _ _ => F8); (rename News _ _ _ _ => N8); refine cutBack (by assumption) F8 N8 ?_ ?_; (rotate_left; intro t9 h9 tk9 F9 N9; clear F8 N8; (try dsimp only); (try k_fold); rotate_right)))
local macro_rules | `(tactic| walk_at "call builtin:isinstance") => `(tactic| (k_here; (with_reducible show wpAny _ _ (call _ [Value.bytes _ _, _]) _ _ _); (with_reducible rename Fr _ _ _ _ => F7); k_dflt (refine' kia_one kitx_bytes ?X trivial ?ee ?nb ?_; (case X => exact keepX (by with_reducible assumption) F7); (case ee => kit_is); (case nb => kit_nb); k_whole; intro _)))
local macro_rules | `(tactic| walk_at "eval IfExp") => `(tactic| (k_here; (rename MarkG => g8); clear g8; (rename Fr _ _ _ _ => F8); (rename News _ _ _ _ => N8); refine cutStrange (by with_reducible assumption) F8 N8 ?_ ?_; (rotate_left; intro b9 t9 h9 tk9 hS9 F9 N9; clear F8 N8; (try dsimp only); (try k_fold); (have gm9 := markH); rotate_right)))
local macro_rules | `(tactic| walk_at "exec If") => `(tactic| (k_here; (rename MarkH => g8); clear g8; (rename Fr _ _ _ _ => F8); (rename News _ _ _ _ => N8); refine cutOr (by with_reducible assumption) F8 N8 ?_ ?_; (rotate_left; intro b9 t9 h9 tk9 hS9 F9 N9; clear F8 N8; (try dsimp only); (try k_fold); (obtain ⟨o9, ho9, hn9, hs9⟩ := hS9.out); rotate_right)))
local macro_rules | `(tactic| walk_at "binaryOp Add bytes bytes") => `(tactic| (k_here; (with_reducible show wpAny _ _ (binaryOp Operator.Add (Value.bytes _ _) (Value.bytes _ _)) _ _ _); (refine KBa.add_K (ls := [32, 10]) (by assumption) blank_ints (by simp only [signed_length, List.length_append, List.length_cons, List.length_nil]; omega) ?_); intro _ _ kbaApp))
local macro_rules | `(tactic| walk_at "eval ListComp") => `(tactic| (k_here; (with_reducible show wpAny _ _ (eval (Expr.ListComp (Expr.Call _ _ _ _) _ _ _) _) _ _ _); k_dflt (refine ListComp_By (F₀ := by k_asm) (by with_unfolding_all rfl) (by decide) (by rfl) (by decide) (by rfl) ?_)))
local macro_rules | `(tactic| walk_at "BySrc") => `(tactic| (k_here; k_dflt (refine' BySrc.intro ?kb ?kz ?kh ?kF ?kN (fun g' k' t' I' oI' C' oC' D' m' ys' h' tk' E' h0' h1' hC' hx' F' N' off' ne' => ?_) (fun g' ys' hc' hl' => ?_); (case kb => assumption); (case kz => simp only [signed_length, List.length_append, List.length_cons, List.length_nil]; omega); (case kh => rfl); (case kF => k_asm); (case kN => k_asm)); (all_goals (try k_fold)); skip))
local macro_rules | `(tactic| walk_at "call builtin:str.join") => `(tactic| (k_here; (with_reducible show wpAny _ _ (call (Value.builtin "str.join") [Value.str _ _, Value.ref _]) _ _ _); k_dflt (refine' join_told ?kl ?kc ?kb ?kn ?_; (case kl => kba_isList); (case kc => assumption); (case kb => exact ints_pos (by assumption)); (case kn => simp only [signed_length, List.length_append, List.length_cons, List.length_nil]; omega)); intro x9 t9 tk9 hx9))
local macro_rules | `(tactic| walk_at "CompEnd") => `(tactic| ((with_reducible show LCg.CompEnd _ _ _ _ _ _ _ _ _ _ _ (fun y news' => KCtEl _ _ y news') _ _); k_dflt (exact comp_sgn (by with_reducible assumption) (by with_reducible assumption) (by with_reducible assumption))))
local macro_rules | `(tactic| walk_at "KCtEl") => `(tactic| (k_dflt (exact kct_sgn)))
local macro_rules | `(tactic| walk_at "call builtin:max") => `(tactic| (k_here; (with_reducible show wpAny _ _ (call (Value.builtin "max") [Value.bytes _ _]) _ _ _); k_dflt (refine' max_K ?kF ?kN ?kh ?kk ?k0 ?_; (case kF => k_asm); (case kN => k_asm); (case kh => rfl); (case kk => assumption); (case k0 => simp only [signed_length, List.length_append, List.length_cons, List.length_nil]; omega)); intro M9 h9 t9 tk9 F9 N9 hm9 hM9))
local macro_rules | `(tactic| walk_at "truthy bytes") => `(tactic| (k_here; (with_reducible show wpAny _ _ (truthy (Value.bytes _ _)) _ _ _); (refine KBw.truthy_K (ks := signed _ _) (by assumption) (signed_le (by assumption)) ?_)))
local macro_rules | `(tactic| walk_at "binaryOp Add bytes bytes") => `(tactic| (k_here; (with_reducible show wpAny _ _ (binaryOp Operator.Add (Value.bytes _ _) (Value.bytes _ _)) _ _ _); (refine KBa.add_K (by assumption) (by assumption) (by first | exact text_len2 (by assumption) (by assumption) (by assumption) | (simp only [signed_length, List.length_append, List.length_cons, List.length_nil]; omega)) ?_); intro _ _ kbaApp))
local macro_rules | `(tactic| walk_at "call type:bytes") => `(tactic| (k_here; (with_reducible show wpAny _ _ (call (Value.type "bytes") [Value.ref _]) _ _ _); k_dflt (refine' make_one ?kbaF ?kbaN ?kbah ?kbal ?kbai ?kba0 ?kba1 ?_; (case kbaF => k_asm); (case kbaN => k_asm); (case kbah => rfl); (case kbal => kba_isList); (case kbai => first | assumption | l_ints); (case kba0 => assumption); (case kba1 => assumption)); intro b9 h9 t9 tk9 F9 N9 hb9))
local macro_rules | `(tactic| walk_at "call type:bytes") => `(tactic| (k_here; (with_reducible show wpAny _ _ (call (Value.type "bytes") [Value.ref _]) _ _ _); k_dflt (refine' make_signed ?kbaF ?kbaN ?kbah ?kbal ?kbai ?kS ?kz ?kn ?_; (case kbaF => k_asm); (case kbaN => k_asm); (case kbah => rfl); (case kbal => kba_isList); (case kbai => assumption); (case kS => assumption); (case kz => assumption); (case kn => first | assumption | omega)); intro b9 h9 t9 tk9 F9 N9 hb9; (try have hE9 := bare_enc3 hb9 (by assumption) (by assumption) (by assumption))))
local macro_rules | `(tactic| walk_at "call type:bytes") => `(tactic| (k_here; (with_reducible show wpAny _ _ (call (Value.type "bytes") [Value.ref _]) _ _ _); k_dflt (refine' make_front ?kbaF ?kbaN ?kbah ?kbal ?kbai ?kba0 ?kba1 ?_; (case kbaF => k_asm); (case kbaN => k_asm); (case kbah => rfl); (case kbal => kba_isList); (case kbai => assumption); (case kba0 => assumption); (case kba1 => assumption)); intro b9 fs9 h9 t9 tk9 F9 N9 hb9 hf9 hF9))
local macro_rules | `(tactic| walk_at "subscriptTail") => `(tactic| (k_here; (with_reducible show wpAny _ _ (subscriptTail _ _ (Value.bytes _ _) (Value.int _ _)) _ _ _); (refine KBw.item_K (by kba_ints) (by kba_size) (dig_lo (by assumption) (by assumption)) (dig_hi (by assumption) (by assumption)) ?_); intro _ _ kbaLo kbaHi))
set_option maxRecDepth 100000 in
set_option maxHeartbeats 16000000 in


theorem law : PySem.Challenge.rw_fe0038_01.Holds := hd (by
  k_go0
  all_goals try k_fold
  all_goals (rename IntsAre _ _ => hI8; obtain ⟨D, hD⟩ := drawEx hI8)
  k_steps
  all_goals first | (with_reducible exact (bne_no (by assumption)).elim) | (with_reducible exact (ne_no (by assumption)).elim) | (with_reducible exact OutG.intro rfl)  | (with_reducible refine OutB.intro (by assumption) (by assumption) (by intro p hp; first | exact hp | exact in_sub hp | exact in_sub (in_sub hp) | exact in_sub (in_sub (in_sub hp)) | exact in_sub (in_sub (in_sub (in_sub hp))) | exact in_sub (in_sub (in_sub (in_sub (in_sub hp))))) ?_; with_reducible first | exact rfl | exact text_some (by assumption) (by assumption) (by assumption) (by assumption) (by assumption) | exact text_none (by assumption) (by assumption) (by assumption) (by assumption) (by assumption)) | (with_reducible refine OutB.intro (by assumption) (by assumption) (by intro p hp; first | exact hp | exact in_sub hp | exact in_sub (in_sub hp) | exact in_sub (in_sub (in_sub hp)) | exact in_sub (in_sub (in_sub (in_sub hp))) | exact in_sub (in_sub (in_sub (in_sub (in_sub hp))))) ?_; first | exact strange_1 (by assumption) | exact strange_48 (fmod4_nonneg _) (by assumption) (by assumption) | exact strange_73 (fmod4_nonneg _) (by assumption) (by assumption) | exact strange_79 (fmod4_nonneg _) (by assumption) (by assumption) | exact strange_108 (fmod4_nonneg _) (by assumption) (by assumption)) | (with_reducible refine OutS.intro (by assumption) (by assumption) (by intro p hp; first | exact hp | exact in_sub hp | exact in_sub (in_sub hp) | exact in_sub (in_sub (in_sub hp)) | exact in_sub (in_sub (in_sub (in_sub hp))) | exact in_sub (in_sub (in_sub (in_sub (in_sub hp))))) (by first | with_reducible exact if_pos rfl | (refine (if_neg (by decide)).trans ?_; first | with_reducible exact if_pos rfl | (refine (if_neg (by decide)).trans ?_; first | with_reducible exact if_pos rfl | (refine (if_neg (by decide)).trans ?_; first | with_reducible exact if_pos rfl | (refine (if_neg (by decide)).trans ?_; with_reducible exact if_pos rfl))))) (by intro y h1; first | rfl | simp only [if_neg h1]) ?_; first | (with_reducible exact StrangeIs.or (by assumption)) | exact strange_blank (by assumption) (len_ne (by assumption))) | (with_reducible exact OutI.intro (by assumption) (by assumption) (by intro p hp; first | exact hp | exact in_sub hp | exact in_sub (in_sub hp) | exact in_sub (in_sub (in_sub hp)) | exact in_sub (in_sub (in_sub (in_sub hp))) | exact in_sub (in_sub (in_sub (in_sub (in_sub hp))))) rfl) | (with_reducible refine TurnEnd.intro (by assumption) (by assumption) (by intro p hp; first | exact hp | exact in_sub hp | exact in_sub (in_sub hp) | exact in_sub (in_sub (in_sub hp)) | exact in_sub (in_sub (in_sub (in_sub hp))) | exact in_sub (in_sub (in_sub (in_sub (in_sub hp))))) (by first | with_reducible exact if_pos rfl | (refine (if_neg (by decide)).trans ?_; first | with_reducible exact if_pos rfl | (refine (if_neg (by decide)).trans ?_; first | with_reducible exact if_pos rfl | (refine (if_neg (by decide)).trans ?_; first | with_reducible exact if_pos rfl | (refine (if_neg (by decide)).trans ?_; with_reducible exact if_pos rfl))))) (by first | with_reducible exact if_pos rfl | (refine (if_neg (by decide)).trans ?_; first | with_reducible exact if_pos rfl | (refine (if_neg (by decide)).trans ?_; first | with_reducible exact if_pos rfl | (refine (if_neg (by decide)).trans ?_; first | with_reducible exact if_pos rfl | (refine (if_neg (by decide)).trans ?_; with_reducible exact if_pos rfl))))) (by first | with_reducible exact if_pos rfl | (refine (if_neg (by decide)).trans ?_; first | with_reducible exact if_pos rfl | (refine (if_neg (by decide)).trans ?_; first | with_reducible exact if_pos rfl | (refine (if_neg (by decide)).trans ?_; first | with_reducible exact if_pos rfl | (refine (if_neg (by decide)).trans ?_; with_reducible exact if_pos rfl))))) (by first | with_reducible exact if_pos rfl | (refine (if_neg (by decide)).trans ?_; first | with_reducible exact if_pos rfl | (refine (if_neg (by decide)).trans ?_; first | with_reducible exact if_pos rfl | (refine (if_neg (by decide)).trans ?_; first | with_reducible exact if_pos rfl | (refine (if_neg (by decide)).trans ?_; with_reducible exact if_pos rfl))))) (by intro y h1 h2 h3 h4; simp only [if_neg h1, if_neg h2, if_neg h3, if_neg h4])) | exact OutG.intro ((show Sg _ _ _ by assumption).k1 (by assumption)).symm | skip
  )
end
end Fe38
theorem Fe38.restFQ : True := by
  w_top off
  trivial
theorem PySem.Challenge.cw_fe0038_01_holds : PySem.Challenge.rw_fe0038_01.Holds :=
  Fe38.law
