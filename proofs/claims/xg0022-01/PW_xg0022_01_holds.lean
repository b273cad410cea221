import PyProof.Rows.All
import Wide.All
import OpenK.AllK
import Wide.FinOn
import PySem.Challenge.RW_xg0022_01
open PySem PySem.W PyProof.Rows PySem.Calls
set_option Elab.async false
set_option maxRecDepth 100000
set_option maxHeartbeats 8000000
set_option linter.all false
set_option pp.deepTerms false
set_option pp.proofs false
namespace Mine
open_top hd for PySem.Challenge.rw_xg0022_01
/-- the head leaves the walk in the top's way; back to the bodies' way -/
theorem bodies : True := by
  w_top off
  trivial
end Mine

namespace Mine
abbrev Led := List (Addr × Obj)
noncomputable abbrev theLoose : List PySem.Str := looseW hd.view_39 [Str.ofString "UTC_ZONES", Str.ofString "TIMEZONE_RE", Str.ofString "insort_left", Str.ofString "bisect_left"]
/-- how many of the ints lie below x -/
def cnt (ns : List Int) (x : Int) : Int := ns.countP (· < x)
def Rising : List Int → Prop
  | [] => True
  | a :: r => (∀ b ∈ r, a < b) ∧ Rising r
theorem cnt_nonneg (ns : List Int) (x : Int) : 0 ≤ cnt ns x := by unfold cnt; omega
theorem cnt_le (ns : List Int) (x : Int) : cnt ns x ≤ ns.length := by
  unfold cnt; have := List.countP_le_length (p := fun b => decide (b < x)) (l := ns); omega
theorem rising_cnt : ∀ (ns : List Int) (x : Int) (i : Nat) (h : i < ns.length), Rising ns → (ns[i] < x ↔ (i : Int) < cnt ns x)
  | [], _, _, h, _ => by simp at h
  | a :: r, x, i, h, hr => by
    have key : ¬ a < x → r.countP (fun b => decide (b < x)) = 0 := fun q => by
      rw [List.countP_eq_zero]
      intro b hb
      have := hr.1 b hb
      simp; omega
    unfold cnt
    rw [List.countP_cons]
    cases i with
    | zero =>
      by_cases q : a < x
      · simp [q] <;> omega
      · simp [q, key q]
    | succ j =>
      have ih := rising_cnt r x j (by simpa using h) hr.2
      unfold cnt at ih
      by_cases q : a < x
      · simp [q] at ih ⊢; omega
      · have kq := key q
        rw [kq] at ih
        simp [q, kq] at ih ⊢
        omega
theorem rising_getD {ns : List Int} {x k : Int} (h : Rising ns) (h0 : 0 ≤ k) (h1 : k < ns.length) : ns.getD k.toNat 0 < x ↔ k < cnt ns x := by
  have hk : k.toNat < ns.length := by omega
  have e : ns.getD k.toNat 0 = ns[k.toNat] := by simp [List.getD_eq_getElem?_getD, hk]
  rw [e, rising_cnt ns x k.toNat hk h]; omega

theorem fdiv2 (a : Int) : a.fdiv 2 = a / 2 := by rw [Int.fdiv_eq_ediv_of_nonneg]; omega
theorem bis_lo {ns : List Int} {x lo hi : Int} (hr : Rising ns) (p1 : 0 ≤ lo) (p2 : lo ≤ cnt ns x) (p3 : cnt ns x ≤ hi) (p4 : hi ≤ ns.length) (h1 : lo < hi) (h2 : ns.getD ((lo + hi).fdiv 2).toNat 0 < x) :
    0 ≤ (lo + hi).fdiv 2 + 1 ∧ (lo + hi).fdiv 2 + 1 ≤ cnt ns x ∧ cnt ns x ≤ hi ∧ hi ≤ ns.length := by
  rw [fdiv2] at *
  rw [rising_getD hr (by omega) (by omega)] at h2
  omega
theorem bis_hi {ns : List Int} {x lo hi : Int} (hr : Rising ns) (p1 : 0 ≤ lo) (p2 : lo ≤ cnt ns x) (p3 : cnt ns x ≤ hi) (p4 : hi ≤ ns.length) (h1 : lo < hi) (h2 : ¬ ns.getD ((lo + hi).fdiv 2).toNat 0 < x) :
    0 ≤ lo ∧ lo ≤ cnt ns x ∧ cnt ns x ≤ (lo + hi).fdiv 2 ∧ (lo + hi).fdiv 2 ≤ ns.length := by
  rw [fdiv2] at *
  rw [rising_getD hr (by omega) (by omega)] at h2
  omega
theorem bis_m1 {lo hi : Int} (p1 : 0 ≤ lo) (h1 : lo < hi) : (hi - ((lo + hi).fdiv 2 + 1)).toNat < (hi - lo).toNat := by rw [fdiv2]; omega
theorem bis_m2 {lo hi : Int} (p1 : 0 ≤ lo) (h1 : lo < hi) : ((lo + hi).fdiv 2 - lo).toNat < (hi - lo).toNat := by rw [fdiv2]; omega

/-- what a call of the def at f on vs does: it hands back v and turns the ledger as R says; `d` frames and `u` units of room -/
def Calls (w : World) (f : Addr) (vs : List Value) (d u : Nat) (news : Led) (R : Value → Led → Prop) : Prop :=
  ∀ (mean : ExcName → Option Value) (mg mb : PySem.Str → Option Value) (dp un : Nat) (gd : Option (List Code)) (cn : PySem.Str) (cs : Scope) (a : Addr) (ccd : Value) (cl : List (PySem.Str × Addr)) (outer : List Env)
   (A₀ : Around) (base h₀ : Heap) (L : Addr) (m : PySem.Str → Option Value) (s : Shared) (Q E : Value → Shared → Prop),
   Frag.In (hd.heap_39 w.params) h₀ → Below A₀ base outer h₀ → Fr h₀ L s.heap m → News h₀ L s.heap news →
   Top hd.view_39 theLoose mean mg mb h₀ → cs.kind = .function → dp + d < recursionLimit → un + u < cLine →
   (∀ (v : Value) (news' : Led) (h' : Heap) (tk' : Nat), R v news' → Fr h₀ L h' m → News h₀ L h' news' → Q v { s with heap := h', toks := tk' }) →
   wpAny (model PySem.Challenge.rw_xg0022_01.row.prog w) (ktrTop dp un gd cn cs L a ccd cl outer) (PySem.call (.ref f) vs) Q E s
theorem Calls.use {w : World} {f : Addr} {vs : List Value} {d u : Nat} {news : Led} {R : Value → Led → Prop} (C : Calls w f vs d u news R)
   {mean : ExcName → Option Value} {mg mb : PySem.Str → Option Value} {dp un : Nat} {gd : Option (List Code)} {cn : PySem.Str} {cs : Scope} {a : Addr} {ccd : Value} {cl : List (PySem.Str × Addr)} {outer : List Env}
   {A₀ : Around} {base h₀ : Heap} {L : Addr} {m : PySem.Str → Option Value} {s : Shared} {Q E : Value → Shared → Prop}
   (K : Frag.In (hd.heap_39 w.params) h₀) (B : Below A₀ base outer h₀) (F : Fr h₀ L s.heap m) (N : News h₀ L s.heap news)
   (T : Top hd.view_39 theLoose mean mg mb h₀) (hk : cs.kind = .function) (h1 : dp + d < recursionLimit) (h2 : un + u < cLine)
   (h : ∀ (v : Value) (news' : Led) (h' : Heap) (tk' : Nat), R v news' → Fr h₀ L h' m → News h₀ L h' news' → Q v { s with heap := h', toks := tk' }) :
   wpAny (model PySem.Challenge.rw_xg0022_01.row.prog w) (ktrTop dp un gd cn cs L a ccd cl outer) (PySem.call (.ref f) vs) Q E s :=
  C mean mg mb dp un gd cn cs a ccd cl outer A₀ base h₀ L m s Q E K B F N T hk h1 h2 h
theorem news_front {h₀ h : Heap} {L : Addr} {p : Addr × Obj} {news : Led} (hp : p ∈ news) (N : News h₀ L h news) : News h₀ L h (p :: news) := fun q hq => by
  rcases List.mem_cons.mp hq with rfl | hq
  · exact N _ hp
  · exact N _ hq
theorem news_tail {h₀ h : Heap} {L : Addr} {p : Addr × Obj} {news : Led} (N : News h₀ L h (p :: news)) : News h₀ L h news := fun q hq => N q (.tail _ hq)
theorem rec_is : recursionLimit = 1000 := by rfl
end Mine

namespace Mine
local macro_rules | `(tactic| walk_at "exec While Compare") => `(tactic| (k_dflt (k_extra "my while")))
local macro_rules | `(tactic| walk_at "call ref") => `(tactic| (k_dflt (k_extra "my call")))
local macro_rules | `(tactic| ktr_room) => `(tactic| (show (_ : Nat) < _; (try dsimp only [Around.deeper, Around.in1]); (simp only [rec_is] at *); omega))
local macro_rules | `(tactic| ktr_units) => `(tactic| (show (_ : Nat) < _; (try dsimp only [Around.deeper, Around.in1]); (have hcL9 := cLine_is); omega))
theorem bisect2 (w : World) {r : Addr} {vs : List Value} {ns : List Int} {n : Nat} {x : Int} {tx : Tok} {news : Led}
   (hm : (r, listOf vs.toArray n) ∈ news) (hI : IntsAre vs ns) (hlen : ns.length < 100) (hr : Rising ns) :
   Calls w 62 [.ref r, .int x tx] 2 20 news (fun v news' => news' = news ∧ ∃ t, v = .int (cnt ns x) t) := by
  unfold Calls
  intro mean mg mb dp un gd cn cs a ccd cl outer A₀ base h₀ L m s Q E
  k_fill
  intro K B F N T hk hd hu hret
  replace N := news_front hm N
  have c0 := cnt_nonneg ns x
  have c1 := cnt_le ns x
  k_with "my while" => k_while_given ["a"] (fun a script lo hi => 0 ≤ lo ∧ lo ≤ cnt a x ∧ cnt a x ≤ hi ∧ hi ≤ a.length) (fun a script lo hi => (hi - lo).toNat) "lo" "hi"
  k_with "state" => (first | omega | exact bis_lo (by assumption) (by assumption) (by assumption) (by assumption) (by assumption) (by assumption) (by assumption) | exact bis_hi (by assumption) (by assumption) (by assumption) (by assumption) (by assumption) (by assumption) (by assumption))
  k_with "measure" => (first | omega | exact bis_m1 (by assumption) (by assumption) | exact bis_m2 (by assumption) (by assumption))
  refine wpAny_call ?_
  k_dflt (refine' code_def (binds := [(Str.ofString "a", Value.ref r), (Str.ofString "x", Value.int x tx), (Str.ofString "lo", Value.int 0 394), (Str.ofString "hi", Value.none), (Str.ofString "key", Value.none)]) ?k1 ?k2 ?k3 ?k4 ?k5 ?kA ?kF ?kK ?k6 ?k7 ?k8 ?k9 ?kB ?_ ?c2 ?c3 ?c4 ?c5; (case kA => exact rfl); (case kF => exact rfl); (case kK => assumption); (case k1 => k_asm); (case k2 => k_asm); (case k3 => k_asm); (case k4 => k_asm); (case k5 => k_asm); (case k6 => k_is); (case k7 => k_is); (case k8 => ktr_room); (case k9 => (refine' kp_binds ?kx ?ke; (case kx => k_in); (case ke => exact fun _ => rfl))); (case c5 => decide); (case kB => exact locs rfl); (case c2 => exact rfl); (case c3 => exact rfl); (case c4 => exact rfl); k_whole; intro g' L' h' FG' F' N' B' X' T'; (try dsimp only); (try k_lift B'); (try k_fold))
  k_steps
  all_goals (first | (refine hret _ _ _ _ ⟨rfl, _, congrArg (fun q => Value.int q _) ?_⟩ (by assumption) (news_tail (by assumption)); omega) | trace_state)
theorem bisect4 (w : World) {r : Addr} {vs : List Value} {ns : List Int} {n : Nat} {x : Int} {tx tz : Tok} {news : Led}
   (hm : (r, listOf vs.toArray n) ∈ news) (hI : IntsAre vs ns) (hlen : ns.length < 100) (hr : Rising ns) :
   Calls w 62 [.ref r, .int x tx, .int 0 tz, .none] 2 20 news (fun v news' => news' = news ∧ ∃ t, v = .int (cnt ns x) t) := by
  unfold Calls
  intro mean mg mb dp un gd cn cs a ccd cl outer A₀ base h₀ L m s Q E
  k_fill
  intro K B F N T hk hd hu hret
  replace N := news_front hm N
  have c0 := cnt_nonneg ns x
  have c1 := cnt_le ns x
  k_with "my while" => k_while_given ["a"] (fun a script lo hi => 0 ≤ lo ∧ lo ≤ cnt a x ∧ cnt a x ≤ hi ∧ hi ≤ a.length) (fun a script lo hi => (hi - lo).toNat) "lo" "hi"
  k_with "state" => (first | omega | exact bis_lo (by assumption) (by assumption) (by assumption) (by assumption) (by assumption) (by assumption) (by assumption) | exact bis_hi (by assumption) (by assumption) (by assumption) (by assumption) (by assumption) (by assumption) (by assumption))
  k_with "measure" => (first | omega | exact bis_m1 (by assumption) (by assumption) | exact bis_m2 (by assumption) (by assumption))
  refine wpAny_call ?_
  k_dflt (refine' code_def (binds := [(Str.ofString "a", Value.ref r), (Str.ofString "x", Value.int x tx), (Str.ofString "lo", Value.int 0 tz), (Str.ofString "hi", Value.none), (Str.ofString "key", Value.none)]) ?k1 ?k2 ?k3 ?k4 ?k5 ?kA ?kF ?kK ?k6 ?k7 ?k8 ?k9 ?kB ?_ ?c2 ?c3 ?c4 ?c5; (case kA => exact rfl); (case kF => exact rfl); (case kK => assumption); (case k1 => k_asm); (case k2 => k_asm); (case k3 => k_asm); (case k4 => k_asm); (case k5 => k_asm); (case k6 => k_is); (case k7 => k_is); (case k8 => ktr_room); (case k9 => (refine' kp_binds ?kx ?ke; (case kx => k_in); (case ke => exact fun _ => rfl))); (case c5 => decide); (case kB => exact locs rfl); (case c2 => exact rfl); (case c3 => exact rfl); (case c4 => exact rfl); k_whole; intro g' L' h' FG' F' N' B' X' T'; (try dsimp only); (try k_lift B'); (try k_fold))
  k_steps
  all_goals (first | (refine hret _ _ _ _ ⟨rfl, _, congrArg (fun q => Value.int q _) ?_⟩ (by assumption) (news_tail (by assumption)); omega) | trace_state)
end Mine

namespace Mine
local macro_rules | `(tactic| walk_at "exec While Compare") => `(tactic| (k_dflt (k_extra "my while")))
local macro_rules | `(tactic| walk_at "call ref") => `(tactic| (k_dflt (k_extra "my call")))
local macro_rules | `(tactic| ktr_room) => `(tactic| (show (_ : Nat) < _; (try dsimp only [Around.deeper, Around.in1]); (simp only [rec_is] at *); omega))
local macro_rules | `(tactic| ktr_units) => `(tactic| (show (_ : Nat) < _; (try dsimp only [Around.deeper, Around.in1]); (have hcL9 := cLine_is); omega))
/-- x laid before the first that is not below it -/
def ins (ns : List Int) (x : Int) : List Int := ns.take (cnt ns x).toNat ++ x :: ns.drop (cnt ns x).toNat
theorem ints_app : ∀ {vs : List Value} {ns : List Int} {ws : List Value} {ms : List Int}, IntsAre vs ns → IntsAre ws ms → IntsAre (vs ++ ws) (ns ++ ms)
  | _, _, _, _, .nil, h => h
  | _, _, _, _, .cons n t g, h => .cons n t (ints_app g h)
theorem ints_take : ∀ {vs : List Value} {ns : List Int} (k : Nat), IntsAre vs ns → IntsAre (vs.take k) (ns.take k)
  | _, _, 0, _ => by rw [List.take_zero, List.take_zero]; exact .nil
  | _, _, k + 1, .nil => .nil
  | _, _, k + 1, .cons n t g => .cons n t (ints_take k g)
theorem ints_drop : ∀ {vs : List Value} {ns : List Int} (k : Nat), IntsAre vs ns → IntsAre (vs.drop k) (ns.drop k)
  | _, _, 0, h => h
  | _, _, k + 1, .nil => .nil
  | _, _, k + 1, .cons n t g => ints_drop k g
theorem ins_vals {vs : List Value} {ns : List Int} (x : Int) (tx : Tok) (hI : IntsAre vs ns) : IntsAre (kl_ins vs (cnt ns x) (.int x tx)) (ins ns x) := by
  have c0 := cnt_nonneg ns x
  have c1 := cnt_le ns x
  unfold kl_ins ins
  have e : (if cnt ns x < 0 then (cnt ns x + (vs.length : Int)).toNat else min (cnt ns x).toNat vs.length) = (cnt ns x).toNat := by
    rw [hI.length, if_neg (by omega)]; omega
  rw [e]
  exact ints_app (ints_take _ hI) (.cons x tx (ints_drop _ hI))
theorem insort (w : World) {r : Addr} {vs : List Value} {ns : List Int} {n : Nat} {x : Int} {tx : Tok} {rest : Led}
   (ho : ∀ p ∈ rest, p.1 ≠ r) (hI : IntsAre vs ns) (hlen : ns.length < 100) (hr : Rising ns) :
   Calls w 53 [.ref r, .int x tx] 3 30 ((r, listOf vs.toArray n) :: rest) (fun v news' => v = .none ∧ ∃ vs' n', news' = (r, listOf vs'.toArray n') :: rest ∧ IntsAre vs' (ins ns x)) := by
  unfold Calls
  intro mean mg mb dp un gd cn cs a ccd cl outer A₀ base h₀ L m s Q E
  k_fill
  intro K B F N T hk hd hu hret
  have c0 := cnt_nonneg ns x
  have c1 := cnt_le ns x
  k_with "my call" => (refine' Calls.use (bisect4 w (List.Mem.head _) hI hlen hr) ?k1 ?k2 ?k3 ?k4 ?k5 ?k6 ?k7 ?k8 ?_; (case k1 => k_asm); (case k2 => k_asm); (case k3 => k_asm); (case k4 => k_asm); (case k5 => k_asm); (case k6 => first | exact rfl | assumption); (case k7 => ktr_room); (case k8 => ktr_units); intro v9 n9 h9 t9 r9 F9 N9; obtain ⟨rfl, t9, rfl⟩ := r9; (try dsimp only); (try k_fold))
  refine wpAny_call ?_
  k_dflt (refine' code_def (binds := [(Str.ofString "a", Value.ref r), (Str.ofString "x", Value.int x tx), (Str.ofString "lo", Value.int 0 381), (Str.ofString "hi", Value.none), (Str.ofString "key", Value.none)]) ?k1 ?k2 ?k3 ?k4 ?k5 ?kA ?kF ?kK ?k6 ?k7 ?k8 ?k9 ?kB ?_ ?c2 ?c3 ?c4 ?c5; (case kA => exact rfl); (case kF => exact rfl); (case kK => assumption); (case k1 => k_asm); (case k2 => k_asm); (case k3 => k_asm); (case k4 => k_asm); (case k5 => k_asm); (case k6 => k_is); (case k7 => k_is); (case k8 => ktr_room); (case k9 => (refine' kp_binds ?kx ?ke; (case kx => k_in); (case ke => exact fun _ => rfl))); (case c5 => decide); (case kB => exact locs rfl); (case c2 => exact rfl); (case c3 => exact rfl); (case c4 => exact rfl); k_whole; intro g' L' h' FG' F' N' B' X' T'; (try dsimp only); (try k_lift B'); (try k_fold))
  k_steps
  refine kl_insert (by assumption) (by assumption) (by unfold Builtin.List.listFitsIndex; simp; omega) rfl (Upd.head ho) (by rw [hI.length]; simp [sizeLine_eq]; omega) fun h8 F8 N8 => ?_
  k_steps
  all_goals (first | exact hret _ _ _ _ ⟨rfl, _, _, rfl, ins_vals x tx hI⟩ (by assumption) (by assumption) | trace_state)
end Mine

namespace Mine
local macro_rules | `(tactic| walk_at "exec While Compare") => `(tactic| (k_dflt (k_extra "my while")))
local macro_rules | `(tactic| walk_at "call ref") => `(tactic| (k_dflt (k_extra "my call")))
local macro_rules | `(tactic| ktr_room) => `(tactic| (show (_ : Nat) < _; (try dsimp only [Around.deeper, Around.in1]); (simp only [rec_is] at *); omega))
local macro_rules | `(tactic| ktr_units) => `(tactic| (show (_ : Nat) < _; (try dsimp only [Around.deeper, Around.in1]); (have hcL9 := cLine_is); omega))
local macro_rules | `(tactic| walk_at "last exec While") => `(tactic| (k_dflt (k_extra "my while")))
local macro_rules | `(tactic| walk_at "pyIter ref") => `(tactic| (k_dflt (k_extra "my loop")))
local macro_rules | `(tactic| walk_at "exec For Name Name cons nil") => `(tactic| (k_here; (rename Fr _ _ _ _ => lF'); (with_unfolding_all refine' For_invVF lF' ?k1 ?k2 ?_; (case k1 => exact rfl); (case k2 => exact rfl); k_whole)))
def partner (es : List Int) (spot : Int) : Int := es.getD ((es.idxOf spot : Int) + 1 - 2 * (es.idxOf spot : Int).fmod 2).toNat 0
def follow (es rim : List Int) (spot : Int) : Int := rim.getD ((cnt rim (partner es spot) + 1).fmod rim.length).toNat 0
def chase (es rim : List Int) : Nat → List Int → Int → List Int
  | 0, met, _ => met
  | f + 1, met, spot => if spot ∈ met then met else chase es rim f (met ++ [spot]) (follow es rim spot)
def ringTurn (es rim : List Int) (c : List Int × Int) (spot : Int) : List Int × Int := if spot ∈ c.1 then c else (chase es rim (es.length + 1 - c.1.length) c.1 spot, c.2 + 1)
def rimOf (es : List Int) : List Int := es.foldl ins []
def ringsOf (es : List Int) : Int := max 1 ((rimOf es).foldl (ringTurn es (rimOf es)) ([], 0)).2
theorem ins_len (ns : List Int) (x : Int) : (ins ns x).length = ns.length + 1 := by
  unfold ins; simp; omega
theorem mem_ins (ns : List Int) (x y : Int) : y ∈ ins ns x ↔ y = x ∨ y ∈ ns := by
  unfold ins
  rw [List.mem_append, List.mem_cons]
  have := List.take_append_drop (cnt ns x).toNat ns
  constructor
  · rintro (h | h | h)
    · exact .inr (List.mem_of_mem_take h)
    · exact .inl h
    · exact .inr (List.mem_of_mem_drop h)
  · rintro (h | h)
    · exact .inr (.inl h)
    · rw [← this] at h
      rcases List.mem_append.mp h with h | h
      · exact .inl h
      · exact .inr (.inr h)
theorem ins_cons (a : Int) (r : List Int) (x : Int) (hr : Rising (a :: r)) : ins (a :: r) x = if a < x then a :: ins r x else x :: a :: r := by
  unfold ins cnt
  rw [List.countP_cons]
  by_cases q : a < x
  · simp only [q, decide_true, if_true]
    have : ((((r.countP fun b => decide (b < x)) + 1 : Nat) : Int)).toNat = (((r.countP fun b => decide (b < x)) : Nat) : Int).toNat + 1 := by omega
    rw [this]; simp
  · have key : r.countP (fun b => decide (b < x)) = 0 := by
      rw [List.countP_eq_zero]
      intro b hb
      have := hr.1 b hb
      simp; omega
    simp [q, key]
theorem rising_ins : ∀ (ns : List Int) (x : Int), Rising ns → x ∉ ns → Rising (ins ns x)
  | [], x, _, _ => by simp [ins, Rising]
  | a :: r, x, h, hx => by
    rw [ins_cons a r x h]
    split
    · rename_i q
      refine ⟨fun b hb => ?_, rising_ins r x h.2 fun e => hx (.tail _ e)⟩
      rcases (mem_ins r x b).mp hb with rfl | hb
      · exact q
      · exact h.1 b hb
    · rename_i q
      have : x < a := by
        have : x ≠ a := fun e => hx (e ▸ .head _)
        omega
      refine ⟨fun b hb => ?_, h⟩
      rcases List.mem_cons.mp hb with rfl | hb
      · exact this
      · have := h.1 b hb; omega
theorem rim_ins {pre : List Int} {n : Int} : rimOf (pre ++ [n]) = ins (rimOf pre) n := by simp [rimOf]
theorem mem_rim : ∀ (es : List Int) (y : Int), y ∈ rimOf es ↔ y ∈ es := by
  have key : ∀ (es : List Int) (r : List Int) (y : Int), y ∈ es.foldl ins r ↔ y ∈ es ∨ y ∈ r := by
    intro es
    induction es with
    | nil => intro r y; simp
    | cons a t ih => intro r y; rw [List.foldl_cons, ih, mem_ins, List.mem_cons]; grind
  intro es y; unfold rimOf; rw [key]; simp
theorem rim_len (es : List Int) : (rimOf es).length = es.length := by
  have key : ∀ (es : List Int) (r : List Int), (es.foldl ins r).length = es.length + r.length := by
    intro es
    induction es with
    | nil => intro r; simp
    | cons a t ih => intro r; rw [List.foldl_cons, ih, ins_len, List.length_cons]; omega
  unfold rimOf; rw [key]; simp
theorem rim_rising (es : List Int) (h : es.Nodup) : Rising (rimOf es) := by
  have key : ∀ (es : List Int) (r : List Int), es.Nodup → Rising r → (∀ y ∈ es, y ∉ r) → Rising (es.foldl ins r) := by
    intro es
    induction es with
    | nil => intro r _ h _; exact h
    | cons a t ih =>
      intro r hn hr hd
      rw [List.foldl_cons]
      rw [List.nodup_cons] at hn
      refine ih _ hn.2 (rising_ins r a hr (hd a (.head _))) fun y hy e => ?_
      rcases (mem_ins r a y).mp e with rfl | e
      · exact hn.1 hy
      · exact hd y (.tail _ hy) e
  exact key es [] h trivial fun _ _ e => nomatch e
theorem rim_pre {es pre post : List Int} {n : Int} (e : es = pre ++ n :: post) (h : es.Nodup) : Rising (rimOf pre) := by
  subst e
  exact rim_rising _ (List.nodup_append.mp h).1
theorem allLt_mem {d : Addr} (l : Led) : AllLt d l → ∀ p ∈ l, p.1 < d := by
  induction l with
  | nil => intro _ p hp; cases hp
  | cons q r ih =>
    intro h p hp
    rcases List.mem_cons.mp hp with e | hp
    · rw [e]; exact h.1
    · exact ih h.2 p hp
theorem off_rest {l e : Addr} {o : Obj} {news own : Led} {A : List Addr} (h : e < l ∧ AllLt l news) (k : OwnOff own (l :: A)) : ∀ p ∈ (e, o) :: (news ++ own), p.1 ≠ l := fun p hp => by
  rcases List.mem_cons.mp hp with rfl | hp
  · exact Nat.ne_of_lt h.1
  · rcases List.mem_append.mp hp with hp | hp
    · exact Nat.ne_of_lt (allLt_mem _ h.2 p hp)
    · exact k p hp l (.head _)
theorem any_mem {l : List Int} {k : Int} (h : (l.any fun x => x == k) = true) : k ∈ l := by
  obtain ⟨x, hx, e⟩ := List.any_eq_true.mp h
  rw [← eq_of_beq e]; exact hx
theorem any_not {l : List Int} {k : Int} (h : (l.any fun x => x == k) = false) : k ∉ l := fun q => by
  have := List.any_eq_false.mp h k q
  simp at this
theorem nodup_len : ∀ (l : List Int) (m : List Int), l.Nodup → (∀ y ∈ l, y ∈ m) → l.length ≤ m.length
  | [], _, _, _ => Nat.zero_le _
  | a :: r, m, hn, h => by
    rw [List.nodup_cons] at hn
    have ha := h a (.head _)
    have := nodup_len r (m.erase a) hn.2 fun y hy => (List.mem_erase_of_ne (fun e => hn.1 (by rw [← e]; exact hy))).mpr (h y (.tail _ hy))
    rw [List.length_erase_of_mem ha] at this
    have := List.length_pos_of_mem ha
    simp; omega
theorem nodup_snoc {l : List Int} {k : Int} (hn : l.Nodup) (hk : k ∉ l) : (l ++ [k]).Nodup := by
  rw [List.nodup_append]
  exact ⟨hn, by simp, fun a ha b hb => by rw [List.mem_singleton.mp hb]; exact fun e => hk (e ▸ ha)⟩
theorem chase_in {es rim : List Int} {f : Nat} {met : List Int} {k : Int} (h : k ∈ met) : chase es rim f met k = met := by
  cases f <;> simp [chase, h]
section
variable {es met₀ met pre : List Int} {r₀ k spot : Int}
theorem turn_in (h1 : (met₀, r₀) = pre.foldl (ringTurn es (rimOf es)) ([], 0)) (hk : (met₀.any fun x => x == k) = true)
    (hw : chase es (rimOf es) (es.length + 1 - met.length) met spot = chase es (rimOf es) (es.length + 1 - met₀.length) met₀ k) (hx : (met.any fun x => x == spot) = true) :
    (met, r₀) = (pre ++ [k]).foldl (ringTurn es (rimOf es)) ([], 0) := by
  rw [List.foldl_append, ← h1, List.foldl_cons, List.foldl_nil]
  rw [chase_in (any_mem hx), chase_in (any_mem hk)] at hw
  simp [ringTurn, any_mem hk, hw]
theorem turn_out (h1 : (met₀, r₀) = pre.foldl (ringTurn es (rimOf es)) ([], 0)) (hk : (met₀.any fun x => x == k) = false)
    (hw : chase es (rimOf es) (es.length + 1 - met.length) met spot = chase es (rimOf es) (es.length + 1 - met₀.length) met₀ k) (hx : (met.any fun x => x == spot) = true) :
    (met, r₀ + 1) = (pre ++ [k]).foldl (ringTurn es (rimOf es)) ([], 0) := by
  rw [List.foldl_append, ← h1, List.foldl_cons, List.foldl_nil]
  rw [chase_in (any_mem hx)] at hw
  simp [ringTurn, any_not hk, hw]
theorem turn_while {z : List Int} (hw : chase es (rimOf es) (es.length + 1 - met.length) met spot = z) (hn : met.Nodup) (hs : ∀ y ∈ met, y ∈ es) (hm : spot ∈ es) (hl : met.length ≤ 10) (hes : es.length ≤ 10)
    (hx : (met.any fun x => x == spot) = false) (hf : follow es (rimOf es) spot ∈ es) :
    chase es (rimOf es) (es.length + 1 - (met ++ [spot]).length) (met ++ [spot]) (follow es (rimOf es) spot) = z ∧ (met ++ [spot]).Nodup ∧ (∀ y ∈ met ++ [spot], y ∈ es) ∧ follow es (rimOf es) spot ∈ es ∧ (met ++ [spot]).length ≤ 10 := by
  have a1 := nodup_snoc hn (any_not hx)
  have a2 : ∀ y ∈ met ++ [spot], y ∈ es := fun y hy => by
    rcases List.mem_append.mp hy with hy | hy
    · exact hs y hy
    · rw [List.mem_singleton.mp hy]; exact hm
  have a3 := nodup_len _ es a1 a2
  refine ⟨?_, a1, a2, hf, by omega⟩
  rw [List.length_append, List.length_singleton] at a3
  have e : es.length + 1 - met.length = (es.length + 1 - (met ++ [spot]).length) + 1 := by rw [List.length_append, List.length_singleton]; omega
  rw [e] at hw
  rw [← hw]
  simp [chase, any_not hx]
theorem turn_less (hn : met.Nodup) (hs : ∀ y ∈ met, y ∈ es) (hm : spot ∈ es) (hx : (met.any fun x => x == spot) = false) : es.length + 1 - (met ++ [spot]).length < es.length + 1 - met.length := by
  have a1 := nodup_snoc hn (any_not hx)
  have a3 := nodup_len _ es a1 fun y hy => by
    rcases List.mem_append.mp hy with hy | hy
    · exact hs y hy
    · rw [List.mem_singleton.mp hy]; exact hm
  rw [List.length_append, List.length_singleton] at a3 ⊢
  omega
end
theorem idx_ints {M : World} {A : Around} {E : Value → Shared → Prop} {s : Shared} {l : Addr} {vs : List Value} {n : Nat} {ns : List Int} {k : Int} {t : Tok} {Q : Value → Shared → Prop} (ho : s.heap.get? l = some (listOf vs.toArray n)) (hi : IntsAre vs ns)
    (hlay : ns.length ≤ 1000) (hk : k ∈ ns) (h : Q (.int (ns.idxOf k : Nat) s.toks) { s with toks := s.toks + 1 }) :
    wpAny (model PySem.Challenge.rw_xg0022_01.row.prog M) A (PySem.call (.builtin "list.index") [.ref l, .int k t]) Q E s := by
  have hlen := hi.length
  have hj : ns.idxOf k < ns.length := List.idxOf_lt_length_iff.mpr hk
  refine call_meets PySem.F.slot_list_index ⟨_, ho, rfl⟩ PySem.F.entry_list_index (PySem.F.args_list_index_2 _ _)
    (MeetsSeq.list_index l vs.toArray n (.int k t) (isInt k) (fun y hy => eq_isInt k t hi y (by simpa using hy)) (ns.idxOf k) (by simpa [hlen] using hj) (by omega) ?_ ?_) ⟨ho, h⟩
  · show isInt k vs[ns.idxOf k] = true
    rw [isInt_at k hi _ (by omega) hj]
    simpa using List.getElem_idxOf hj
  · intro j hjs hlt
    show isInt k vs[j] = false
    rw [isInt_at k hi j (by omega) (by omega)]
    exact ne_of_lt_idxOf hlt _
local macro_rules | `(tactic| walk_at "call builtin:list.index") => `(tactic| (k_dflt (k_extra "my index")))
theorem item_ints {M : World} {A : Around} {E : Value → Shared → Prop} {s : Shared} {value slice : Expr} {l : Addr} {vs : List Value} {n : Nat} {ns : List Int} {k : Int} {u : Tok} {Q : Value → Shared → Prop} (ho : s.heap.get? l = some (listOf vs.toArray n)) (hi : IntsAre vs ns)
    (h0 : 0 ≤ k) (h1 : k < ns.length) (hlen : ns.length ≤ 1000) (h : ∀ t, Q (.int (ns.getD k.toNat 0) t) s)
    (hs : subscripted slice false (.ref l) (.int k u) = operate [.ref l, .int k u] (getItem (.ref l) (.int k u)) := by with_unfolding_all rfl) :
    wpAny (model PySem.Challenge.rw_xg0022_01.row.prog M) A (subscriptTail value slice (.ref l) (.int k u)) Q E s := by
  have hL : s.heap.IsList l vs.toArray := ⟨_, ho, rfl, n, rfl⟩
  have hk : ns[k.toNat]? = some (ns.getD k.toNat 0) := by
    rw [List.getD_eq_getElem?_getD, List.getElem?_eq_getElem (by omega)]; rfl
  obtain ⟨t, ht⟩ := hi.get k.toNat _ hk
  exact tail_any hL.typeIs slot_list_getitem.lookup (wpAny_getItem_list hL h0 (by omega) (by simpa using ht) (h t)) hs
local macro_rules | `(tactic| walk_at "subscriptTail Name BinOp ref int") => `(tactic| (k_dflt (k_extra "my item")))
theorem fmod2 (a : Int) : a.fmod 2 = a % 2 := by rw [Int.fmod_eq_emod_of_nonneg]; omega
theorem idx_ok {es : List Int} {k : Int} (hk : k ∈ es) (hev : es.length % 2 = 0) : 0 ≤ (es.idxOf k : Int) + 1 - 2 * (es.idxOf k : Int).fmod 2 ∧ (es.idxOf k : Int) + 1 - 2 * (es.idxOf k : Int).fmod 2 < es.length := by
  have hj : es.idxOf k < es.length := List.idxOf_lt_length_iff.mpr hk
  rw [fmod2]; omega
theorem fol_ok {es rim : List Int} {spot y : Int} (hr : rim = rimOf es) (hm : spot ∈ es) : 0 ≤ (cnt rim y + 1).fmod rim.length ∧ (cnt rim y + 1).fmod rim.length < rim.length := by
  have h1 : rim.length = es.length := by rw [hr, rim_len]
  have h2 := List.length_pos_of_mem hm
  have h3 := cnt_nonneg rim y
  rw [Int.fmod_eq_emod_of_nonneg _ (by omega)]
  exact ⟨Int.emod_nonneg _ (by omega), Int.emod_lt_of_pos _ (by omega)⟩
theorem fol_mem {es : List Int} {spot : Int} (hm : spot ∈ es) : follow es (rimOf es) spot ∈ es := by
  obtain ⟨h0, h1⟩ := fol_ok (y := partner es spot) (rfl : rimOf es = rimOf es) hm
  rw [← mem_rim]
  unfold follow
  rw [List.getD_eq_getElem?_getD, List.getElem?_eq_getElem (by omega)]
  exact List.getElem_mem _
theorem fol_div {es rim : List Int} {spot : Int} (hr : rim = rimOf es) (hm : spot ∈ es) : (rim.length : Int) ≠ 0 := by
  have h1 : rim.length = es.length := by rw [hr, rim_len]
  have h2 := List.length_pos_of_mem hm
  omega
theorem turn_while' {es rim met z : List Int} {spot : Int} (hr : rim = rimOf es) (hw : chase es (rimOf es) (es.length + 1 - met.length) met spot = z) (hn : met.Nodup) (hs : ∀ y ∈ met, y ∈ es) (hm : spot ∈ es) (hl : met.length ≤ 10) (hes : es.length ≤ 10)
    (hx : (met.any fun x => x == spot) = false) :
    chase es (rimOf es) (es.length + 1 - (met ++ [spot]).length) (met ++ [spot]) (rim.getD ((cnt rim (es.getD ((es.idxOf spot : Int) + 1 - 2 * (es.idxOf spot : Int).fmod 2).toNat 0) + 1).fmod rim.length).toNat 0) = z ∧ (met ++ [spot]).Nodup ∧ (∀ y ∈ met ++ [spot], y ∈ es) ∧
      rim.getD ((cnt rim (es.getD ((es.idxOf spot : Int) + 1 - 2 * (es.idxOf spot : Int).fmod 2).toNat 0) + 1).fmod rim.length).toNat 0 ∈ es ∧ (met ++ [spot]).length ≤ 10 := by
  subst hr
  exact turn_while hw hn hs hm hl hes hx (fol_mem hm)
theorem rings_end {es rim met : List Int} {r : Int} (hr : rim = rimOf es) (h : (met, r) = rim.foldl (ringTurn es (rimOf es)) ([], 0)) : (if r > 1 then r else 1) = ringsOf es := by
  subst hr
  unfold ringsOf
  rw [← h]
  show _ = max 1 r
  split <;> omega
theorem len_ints {M : World} {A : Around} {E : Value → Shared → Prop} {s : Shared} {l : Addr} {vs : List Value} {n : Nat} {ns : List Int} {Q : Value → Shared → Prop} (ho : s.heap.get? l = some (listOf vs.toArray n)) (hi : IntsAre vs ns)
    (hlen : ns.length ≤ 1000) (h : ∀ t tk, Q (.int ns.length t) { s with toks := tk }) : wpAny (model PySem.Challenge.rw_xg0022_01.row.prog M) A (PySem.call (.builtin "len") [.ref l]) Q E s :=
  len_list ⟨_, ho, rfl, n, rfl⟩ (by have := hi.length; rw [List.size_toArray]; omega) (by rw [List.size_toArray, hi.length]; exact h _ _)
local macro_rules | `(tactic| walk_at "call builtin:len") => `(tactic| (k_dflt (k_extra "my len")))
local macro_rules | `(tactic| walk_at "binaryOp Mod int int") => `(tactic| (k_dflt (k_extra "my mod")))
theorem rim_nil : ([] : List Int) = rimOf [] := rfl
theorem turn_start {es : List Int} : (([] : List Int), (0 : Int)) = List.foldl (ringTurn es (rimOf es)) ([], 0) [] ∧ ([] : List Int).Nodup ∧ (∀ (y : Int), y ∈ ([] : List Int) → y ∈ es) ∧ ([] : List Int).length ≤ 10 := ⟨rfl, List.nodup_nil, fun _ h => (nomatch h), Nat.zero_le _⟩
theorem news_tail3 {h₀ h : Heap} {L : Addr} {p q r : Addr × Obj} {news : Led} (N : News h₀ L h (p :: q :: r :: news)) : News h₀ L h news := news_tail (news_tail (news_tail N))
theorem rings_ok (w : World) {e : Addr} {evs : List Value} {es : List Int} {n : Nat} {news : Led}
   (hm : (e, listOf evs.toArray n) ∈ news) (hI : IntsAre evs es) (hlen : es.length ≤ 10) (hnd : es.Nodup) (hev : es.length % 2 = 0) :
   Calls w 109 [.ref e] 5 60 news (fun v news' => news' = news ∧ ∃ t, v = .int (ringsOf es) t) := by
  unfold Calls
  intro mean mg mb dp un gd cn cs a ccd cl outer A₀ base h₀ L m s Q E
  k_fill
  intro K B F N T hk hd hu hret
  replace N := news_front hm N
  k_with "my call" => (first | (refine' Calls.use (insort w ?ho ?hI ?hlen ?hr) ?k1 ?k2 ?k3 ?k4 ?k5 ?k6 ?k7 ?k8 ?_; (case k1 => k_asm); (case k2 => k_asm); (case k3 => k_asm); (case k4 => k_asm); (case ho => exact off_rest (by assumption) (by assumption)); (case hI => assumption); (case hlen => (subst kInv; rw [rim_len]; omega)); (case hr => (subst kInv; exact rim_pre kEq hnd)); (case k5 => k_asm); (case k6 => first | exact rfl | assumption); (case k7 => ktr_room); (case k8 => ktr_units); intro v9 n9 h9 t9 r9 F9 N9; obtain ⟨rfl, vs9, n9, rfl, i9⟩ := r9; (try dsimp only); (try k_fold)) | (refine' Calls.use (bisect2 w ?hm ?hI ?hlen ?hr) ?k1 ?k2 ?k3 ?k4 ?k5 ?k6 ?k7 ?k8 ?_; (case k1 => k_asm); (case k2 => k_asm); (case k3 => k_asm); (case k4 => k_asm); (case hm => k_mem); (case hI => assumption); (case hlen => (rw [kInv, rim_len]; omega)); (case hr => (rw [kInv]; exact rim_rising es hnd)); (case k5 => k_asm); (case k6 => first | exact rfl | assumption); (case k7 => ktr_room); (case k8 => ktr_units); intro v9 n9 h9 t9 r9 F9 N9; obtain ⟨rfl, t9, rfl⟩ := r9; (try dsimp only); (try k_fold)))
  k_with "my loop" => (first | k_state (fun pre met rings => (met, rings) = pre.foldl (ringTurn es (rimOf es)) ([], 0) ∧ met.Nodup ∧ (∀ y ∈ met, y ∈ es) ∧ met.length ≤ 10) "met" "rings" | k_state (fun pre rim => rim = rimOf pre) "rim")
  k_with "my while" => k_while_given ["met!", "spot!"] (fun met₀ spot₀ script met spot => chase es (rimOf es) (es.length + 1 - met.length) met spot = chase es (rimOf es) (es.length + 1 - met₀.length) met₀ spot₀ ∧ met.Nodup ∧ (∀ y ∈ met, y ∈ es) ∧ spot ∈ es ∧ met.length ≤ 10) (fun met₀ spot₀ script met spot => es.length + 1 - met.length) "met" "spot"
  k_with "my index" => ((rename News _ _ _ _ => N8); refine idx_ints (N8 (_, _) (by k_mem)).1 (by assumption) (by omega) (by assumption) ?_)
  k_with "my item" => ((rename News _ _ _ _ => N8); refine item_ints (N8 (_, _) (by k_mem)).1 (by assumption) ?x1 ?x2 ?x3 ?_; (case x1 => first | exact (idx_ok (by assumption) hev).1 | exact (fol_ok kInv (by assumption)).1); (case x2 => first | exact (idx_ok (by assumption) hev).2 | exact (fol_ok kInv (by assumption)).2); (case x3 => first | omega | (rw [kInv, rim_len]; omega)); intro t8)
  k_with "my len" => ((rename News _ _ _ _ => N8); refine len_ints (N8 (_, _) (by k_mem)).1 (by assumption) (by rw [kInv, rim_len]; omega) ?_; intro t8 tk8)
  k_with "my mod" => (refine mod_int' (fol_div kInv (by assumption)) ?_)
  k_with "measure" => (first | exact turn_less (by assumption) (by assumption) (by assumption) (by assumption))
  k_with "state" => (first | exact rim_nil | exact turn_start | exact turn_while' kInv (by assumption) (by assumption) (by assumption) (by assumption) (by assumption) hlen (by assumption) | (subst kInv; exact rim_ins.symm) | exact ⟨rfl, by assumption, by assumption, (mem_rim es _).mp (by rw [← kInv]; assumption), by assumption⟩ | exact ⟨turn_in (by assumption) (by assumption) (by assumption) (by assumption), by assumption, by assumption, by assumption⟩ | exact ⟨turn_out (by assumption) (by assumption) (by assumption) (by assumption), by assumption, by assumption, by assumption⟩)
  refine wpAny_call ?_
  k_dflt (refine' code_def (binds := [(Str.ofString "ends", Value.ref e)]) ?k1 ?k2 ?k3 ?k4 ?k5 ?kA ?kF ?kK ?k6 ?k7 ?k8 ?k9 ?kB ?_ ?c2 ?c3 ?c4 ?c5; (case kA => exact rfl); (case kF => exact rfl); (case kK => assumption); (case k1 => k_asm); (case k2 => k_asm); (case k3 => k_asm); (case k4 => k_asm); (case k5 => k_asm); (case k6 => k_is); (case k7 => k_is); (case k8 => ktr_room); (case k9 => (refine' kp_binds ?kx ?ke; (case kx => k_in); (case ke => exact fun _ => rfl))); (case c5 => decide); (case kB => exact locs rfl); (case c2 => exact rfl); (case c3 => exact rfl); (case c4 => exact rfl); k_whole; intro g' L' h' FG' F' N' B' X' T'; (try dsimp only); (try k_lift B'); (try k_fold))
  k_steps
  all_goals (first | exact hret _ _ _ _ ⟨rfl, _, congrArg (fun q => Value.int q _) (rings_end kInv (by assumption))⟩ (by assumption) (news_tail3 (by assumption)) | trace_state)
end Mine

namespace Mine
local macro_rules | `(tactic| walk_at "exec While Compare") => `(tactic| (k_dflt (k_extra "my while")))
local macro_rules | `(tactic| walk_at "call ref") => `(tactic| (k_dflt (k_extra "my call")))
local macro_rules | `(tactic| ktr_room) => `(tactic| (show (_ : Nat) < _; (try dsimp only [Around.deeper, Around.in1]); (simp only [rec_is] at *); omega))
local macro_rules | `(tactic| ktr_units) => `(tactic| (show (_ : Nat) < _; (try dsimp only [Around.deeper, Around.in1]); (have hcL9 := cLine_is); omega))
local macro_rules | `(tactic| walk_at "last exec While") => `(tactic| (k_dflt (k_extra "my while")))
local macro_rules | `(tactic| walk_at "pyIter ref") => `(tactic| (k_dflt (k_extra "my loop")))
local macro_rules | `(tactic| walk_at "exec For Name Name cons nil") => `(tactic| (k_here; (rename Fr _ _ _ _ => lF'); (with_unfolding_all refine' For_invVF lF' ?k1 ?k2 ?_; (case k1 => exact rfl); (case k2 => exact rfl); k_whole)))
local macro_rules | `(tactic| walk_at "call builtin:list.append") => `(tactic| (k_dflt (k_extra "my append")))
local macro_rules | `(tactic| walk_at "call builtin:len") => `(tactic| (k_dflt (k_extra "my len")))
def xstep (r o : Int) : Int := if Builtin.bitXor r o < r then Builtin.bitXor r o else r
def rankTurn (basis : List Int) (row : Int) : List Int := if basis.foldl xstep row > 0 then basis ++ [basis.foldl xstep row] else basis
def rankOf (rows : List Int) : Int := (rows.foldl rankTurn []).length
theorem x_start {r : Int} : r = List.foldl xstep r [] := rfl
theorem x_turn {pre : List Int} {r r₀ o : Int} (h : r = pre.foldl xstep r₀) : (if Builtin.bitXor r o < r then Builtin.bitXor r o else r) = (pre ++ [o]).foldl xstep r₀ := by
  rw [List.foldl_append, ← h]; rfl
theorem r_start : ([] : List Int) = List.foldl rankTurn [] [] ∧ ([] : List Int).length ≤ ([] : List Int).length := ⟨rfl, Nat.le_refl _⟩
theorem r_in {pre basis : List Int} {row r : Int} (h : basis = pre.foldl rankTurn []) (hl : basis.length ≤ pre.length) (hr : r = basis.foldl xstep row) (hp : r > 0) :
    basis ++ [r] = (pre ++ [row]).foldl rankTurn [] ∧ (basis ++ [r]).length ≤ (pre ++ [row]).length := by
  refine ⟨?_, by simp; omega⟩
  rw [List.foldl_append, ← h]
  simp [rankTurn, ← hr, hp]
theorem r_out {pre basis : List Int} {row r : Int} (h : basis = pre.foldl rankTurn []) (hl : basis.length ≤ pre.length) (hr : r = basis.foldl xstep row) (hp : ¬ r > 0) :
    basis = (pre ++ [row]).foldl rankTurn [] ∧ basis.length ≤ (pre ++ [row]).length := by
  refine ⟨?_, by simp; omega⟩
  rw [List.foldl_append, ← h]
  simp [rankTurn, ← hr, hp]
theorem rank_end {es b : List Int} (h : b = es.foldl rankTurn []) : (b.length : Int) = rankOf es := by rw [h]; rfl
theorem news_tail2 {h₀ h : Heap} {L : Addr} {p q : Addr × Obj} {news : Led} (N : News h₀ L h (p :: q :: news)) : News h₀ L h news := news_tail (news_tail N)
theorem rank_ok (w : World) {e : Addr} {evs : List Value} {es : List Int} {n : Nat} {news : Led}
   (hm : (e, listOf evs.toArray n) ∈ news) (hI : IntsAre evs es) (hlen : es.length ≤ 10) :
   Calls w 116 [.ref e] 5 60 news (fun v news' => news' = news ∧ ∃ t, v = .int (rankOf es) t) := by
  unfold Calls
  intro mean mg mb dp un gd cn cs a ccd cl outer A₀ base h₀ L m s Q E
  k_fill
  intro K B F N T hk hd hu hret
  replace N := news_front hm N
  k_with "my loop" => (first | k_state_given ["row!"] (fun r₀ pre row => row = pre.foldl xstep r₀) "row" | k_state (fun pre basis => basis = pre.foldl rankTurn [] ∧ basis.length ≤ pre.length) "basis")
  k_with "my len" => ((rename News _ _ _ _ => N8); refine len_ints (N8 (_, _) (by k_mem)).1 (by assumption) (by omega) ?_; intro t8 tk8)
  k_with "state" => (first | exact x_start | exact r_start | exact x_turn (by assumption) | exact r_in (by assumption) (by assumption) (by assumption) (by assumption) | exact r_out (by assumption) (by assumption) (by assumption) (by assumption) | fail "no state")
  refine wpAny_call ?_
  k_dflt (refine' code_def (binds := [(Str.ofString "rows", Value.ref e)]) ?k1 ?k2 ?k3 ?k4 ?k5 ?kA ?kF ?kK ?k6 ?k7 ?k8 ?k9 ?kB ?_ ?c2 ?c3 ?c4 ?c5; (case kA => exact rfl); (case kF => exact rfl); (case kK => assumption); (case k1 => k_asm); (case k2 => k_asm); (case k3 => k_asm); (case k4 => k_asm); (case k5 => k_asm); (case k6 => k_is); (case k7 => k_is); (case k8 => ktr_room); (case k9 => (refine' kp_binds ?kx ?ke; (case kx => k_in); (case ke => exact fun _ => rfl))); (case c5 => decide); (case kB => exact locs rfl); (case c2 => exact rfl); (case c3 => exact rfl); (case c4 => exact rfl); k_whole; intro g' L' h' FG' F' N' B' X' T'; (try dsimp only); (try k_lift B'); (try k_fold))
  k_steps
  all_goals (first | exact hret _ _ _ _ ⟨rfl, _, congrArg (fun q => Value.int q _) (rank_end (by assumption))⟩ (by assumption) (news_tail2 (by assumption)) | trace_state)
end Mine

namespace Mine
local macro_rules | `(tactic| walk_at "exec While Compare") => `(tactic| (k_dflt (k_extra "my while")))
local macro_rules | `(tactic| walk_at "call ref") => `(tactic| (k_dflt (k_extra "my call")))
local macro_rules | `(tactic| ktr_room) => `(tactic| (show (_ : Nat) < _; (try dsimp only [Around.deeper, Around.in1]); (simp only [rec_is] at *); omega))
local macro_rules | `(tactic| ktr_units) => `(tactic| (show (_ : Nat) < _; (try dsimp only [Around.deeper, Around.in1]); (have hcL9 := cLine_is); omega))
/-- the lists of three ints that the points are -/
structure Pt where
  a : Int
  b : Int
  c : Int
def Pt.ok (p : Pt) : Prop := (-1000000 ≤ p.b ∧ p.b ≤ 1000000) ∧ (-1000000 ≤ p.c ∧ p.c ≤ 1000000)
def sideOf (one two p : Pt) : Int := (two.b - one.b) * (p.c - one.c) - (two.c - one.c) * (p.b - one.b)
local macro_rules | `(tactic| walk_at "binaryOp Mult int int") => `(tactic| (k_dflt (k_extra "my mult")))
theorem get3_1 (a b c : Int) : [a, b, c].getD (Int.toNat 1) 0 = b := rfl
theorem get3_2 (a b c : Int) : [a, b, c].getD (Int.toNat 2) 0 = c := rfl
theorem side_ok (w : World) {r1 r2 r3 : Addr} {a1 b1 c1 a2 b2 c2 a3 b3 c3 : Int} {t1 u1 v1 t2 u2 v2 t3 u3 v3 : Tok} {n1 n2 n3 : Nat} {news : Led}
   (h1 : (r1, listOf [Value.int a1 t1, .int b1 u1, .int c1 v1].toArray n1) ∈ news) (h2 : (r2, listOf [Value.int a2 t2, .int b2 u2, .int c2 v2].toArray n2) ∈ news) (h3 : (r3, listOf [Value.int a3 t3, .int b3 u3, .int c3 v3].toArray n3) ∈ news)
   (o1 : Pt.ok ⟨a1, b1, c1⟩) (o2 : Pt.ok ⟨a2, b2, c2⟩) (o3 : Pt.ok ⟨a3, b3, c3⟩) :
   Calls w 102 [.ref r1, .ref r2, .ref r3] 5 60 news (fun v news' => news' = news ∧ ∃ t, v = .int (sideOf ⟨a1, b1, c1⟩ ⟨a2, b2, c2⟩ ⟨a3, b3, c3⟩) t) := by
  unfold Calls
  intro mean mg mb dp un gd cn cs a ccd cl outer A₀ base h₀ L m s Q E
  k_fill
  intro K B F N T hk hd hu hret
  obtain ⟨⟨p1, p2⟩, p3, p4⟩ := o1
  obtain ⟨⟨q1, q2⟩, q3, q4⟩ := o2
  obtain ⟨⟨s1, s2⟩, s3, s4⟩ := o3
  simp only at p1 p2 p3 p4 q1 q2 q3 q4 s1 s2 s3 s4
  replace N := news_front (.tail _ (.tail _ h3)) (news_front (.tail _ h2) (news_front h1 N))
  k_with "my mult" => (refine mul_int ?_ ?hm; (case hm => simp only [get3_1, get3_2]; exact IntMulOk.of_left (intBits_le_64 (by omega) (by omega))))
  refine wpAny_call ?_
  k_dflt (refine' code_def (binds := [(Str.ofString "one", Value.ref r1), (Str.ofString "two", Value.ref r2), (Str.ofString "point", Value.ref r3)]) ?k1 ?k2 ?k3 ?k4 ?k5 ?kA ?kF ?kK ?k6 ?k7 ?k8 ?k9 ?kB ?_ ?c2 ?c3 ?c4 ?c5; (case kA => exact rfl); (case kF => exact rfl); (case kK => assumption); (case k1 => k_asm); (case k2 => k_asm); (case k3 => k_asm); (case k4 => k_asm); (case k5 => k_asm); (case k6 => k_is); (case k7 => k_is); (case k8 => ktr_room); (case k9 => (refine' kp_binds ?kx ?ke; (case kx => k_in); (case ke => exact fun _ => rfl))); (case c5 => decide); (case kB => exact locs rfl); (case c2 => exact rfl); (case c3 => exact rfl); (case c4 => exact rfl); k_whole; intro g' L' h' FG' F' N' B' X' T'; (try dsimp only); (try k_lift B'); (try k_fold))
  k_steps
  all_goals (first | exact hret _ _ _ _ ⟨rfl, _, congrArg (fun q => Value.int q _) rfl⟩ (by assumption) (news_tail3 (by assumption)) | trace_state)
end Mine

namespace Mine
local macro_rules | `(tactic| walk_at "exec While Compare") => `(tactic| (k_dflt (k_extra "my while")))
local macro_rules | `(tactic| walk_at "call ref") => `(tactic| (k_dflt (k_extra "my call")))
local macro_rules | `(tactic| ktr_room) => `(tactic| (show (_ : Nat) < _; (try dsimp only [Around.deeper, Around.in1]); (simp only [rec_is] at *); omega))
local macro_rules | `(tactic| ktr_units) => `(tactic| (show (_ : Nat) < _; (try dsimp only [Around.deeper, Around.in1]); (have hcL9 := cLine_is); omega))
local macro_rules | `(tactic| walk_at "LeaveK") => `(tactic| (k_dflt (k_extra "my leave")))
local macro_rules | `(tactic| walk_at "callWith") => `(tactic| ((with_reducible show wpAny _ _ (callWith _ (Value.builtin _) [Value.ref _] _ _) _ _ _); k_dflt (refine callWith_method1 ?_)))
theorem leaveK_keep {h₀ g H : Heap} {L L' : Addr} {m m' : PySem.Str → Option Value} {news' : Led} {R : Result → Shared → Prop} {v : Value} {s' : Shared} (F' : Fr g L' s'.heap m') (N' : News g L' s'.heap news') (kG : GSub H g [])
    (k : Fr h₀ L s'.heap m → News h₀ L s'.heap news' → (∀ b o, H.get? b = some o → s'.heap.get? b = some o) → (∀ p ∈ news', H.get? p.1 = none) → R (.ok (.ret v)) s') : LeaveK h₀ L m g R v s' :=
  ⟨L', m', news', F', N', fun a b => k a b (fun x o e => F'.keep x o (kG x o e (by simp))) fun p hp => by
    cases q : H.get? p.1 with
    | none => rfl
    | some o => have := (N' p hp).2.2; rw [kG _ _ q (by simp)] at this; cases this⟩
/-- the caller's ledger behind a call that only made things -/
theorem led_kept {h₀ H h : Heap} {L : Addr} {news : Led} (N : News h₀ L H news) (k : ∀ b o, H.get? b = some o → h.get? b = some o) : News h₀ L h news := fun p hp => ⟨k _ _ (N p hp).1, (N p hp).2⟩
theorem led_cons {h₀ h : Heap} {L : Addr} {p : Addr × Obj} {made news : Led} (M : News h₀ L h made) (hp : p ∈ made) (N : News h₀ L h news) : News h₀ L h (p :: news) := fun q hq => by
  rcases List.mem_cons.mp hq with rfl | hq
  · exact M _ hp
  · exact N _ hq
theorem led_off {H : Heap} {h₀ : Heap} {L r : Addr} {news : Led} (N : News h₀ L H news) (h : H.get? r = none) : ∀ p ∈ news, p.1 ≠ r := fun p hp e => by
  have := (N p hp).1
  rw [e, h] at this; cases this
def min3 (a b c : Int) : Int := if b < a then (if c < b then c else b) else (if c < a then c else a)
theorem min3_N {w : World} {A : Around} {E : Value → Shared → Prop} {s : Shared} {h₀ : Heap} {L : Addr} {m : PySem.Str → Option Value} {news : Led} {a b c : Int} {t u x : Tok} {Q : Value → Shared → Prop} (hh : A.handled = none) (F : Fr h₀ L s.heap m) (N : News h₀ L s.heap news)
    (h : ∀ h' tk t', Fr h₀ L h' m → News h₀ L h' news → Q (.int (min3 a b c) t') { s with heap := h', toks := tk }) :
    wpAny (model PySem.Challenge.rw_xg0022_01.row.prog w) A (PySem.call (.builtin "min") [.int a t, .int b u, .int c x]) Q E s :=
  min_three_ints hh fun h' tk hk => by
    have F' := F.grownK hk
    have N' := N.grown hk
    have g := fun t' => h h' tk t' F' N'
    unfold min3 at g
    split <;> (split <;> simp_all)
local macro_rules | `(tactic| walk_at "call builtin:min") => `(tactic| ((with_reducible show wpAny _ _ (PySem.call (Value.builtin _) [Value.int _ _, Value.int _ _, Value.int _ _]) _ _ _); k_dflt (refine min3_N (by exact rfl) (by assumption) (by assumption) ?_; intro h8 tk8 t8 F8 N8)))
local macro_rules | `(tactic| walk_at "subscriptTail") => `(tactic| (k_dflt (k_extra "my item")))
theorem min3_idx {p c : Int} (h0 : 0 ≤ p) (h1 : p < 12) : 0 ≤ min3 ((p - c).fmod 12) (12 - (p - c).fmod 12) 4 ∧ min3 ((p - c).fmod 12) (12 - (p - c).fmod 12) 4 < 5 := by
  have e : (p - c).fmod 12 = (p - c) % 12 := by rw [Int.fmod_eq_emod_of_nonneg]; omega
  rw [e]
  have a := Int.emod_nonneg (p - c) (b := 12) (by omega)
  have b := Int.emod_lt_of_pos (p - c) (b := 12) (by omega)
  unfold min3
  repeat' split
  all_goals omega
def dpart (p c : Int) : Int := [16, 16, 16, 8, 1 - p.fmod 2].getD (min3 ((p - c).fmod 12) (12 - (p - c).fmod 12) 4).toNat 0
def duePt (p : Int) : Pt := ⟨3000 * dpart p 0 + 5900 * dpart p 4 + 1100 * dpart p 8, 5990 * dpart p 0 - 2773 * dpart p 4 - 3217 * dpart p 8, 2130 * dpart p 0 - 5251 * dpart p 4 + 3121 * dpart p 8⟩
abbrev ptObj (p : Pt) (ta tb tc : Tok) (n : Nat) : Obj := listOf [Value.int p.a ta, .int p.b tb, .int p.c tc].toArray n
theorem due_ok (w : World) {place : Int} {tp : Tok} {news : Led} (h0 : 0 ≤ place) (h1 : place < 12) :
   Calls w 95 [.int place tp] 5 60 news (fun v news' => ∃ r ta tb tc n, v = .ref r ∧ news' = (r, ptObj (duePt place) ta tb tc n) :: news ∧ (∀ p ∈ news, p.1 ≠ r)) := by
  unfold Calls
  intro mean mg mb dp un gd cn cs a ccd cl outer A₀ base h₀ L m s Q E
  k_fill
  intro K B F N T hk hd hu hret
  k_with "my item" => ((rename News _ _ _ _ => N8); refine item_ints (ns := [16, 16, 16, 8, 1 - place.fmod 2]) (N8 (_, _) (by k_mem)).1 ?x0 ?x1 ?x2 ?x3 ?_; (case x0 => with_unfolding_all repeat constructor); (case x1 => exact (min3_idx h0 h1).1); (case x2 => with_unfolding_all exact (min3_idx h0 h1).2); (case x3 => with_unfolding_all exact (by decide : 5 ≤ 1000)); intro t8)
  k_with "my leave" => (refine' leaveK_keep (by assumption) (by assumption) kG' ?_; intro kF kN kH kO; exact hret _ _ _ _ ⟨_, _, _, _, _, rfl, rfl, led_off N (kO (_, _) (by k_mem))⟩ kF (led_cons kN (by k_mem) (led_kept N kH)))
  refine wpAny_call ?_
  k_dflt (refine' code_defG (binds := [(Str.ofString "place", Value.int place tp)]) ?k1 ?k2 ?k3 ?k4 ?k5 ?kA ?kF ?kK ?k6 ?k7 ?k8 ?k9 ?kB ?_ ?c2 ?c3 ?c4 ?c5; (case kA => exact rfl); (case kF => exact rfl); (case kK => assumption); (case k1 => k_asm); (case k2 => k_asm); (case k3 => k_asm); (case k4 => exact News.nil); (case k5 => k_asm); (case k6 => k_is); (case k7 => k_is); (case k8 => ktr_room); (case k9 => (refine' kp_binds ?kx ?ke; (case kx => k_in); (case ke => exact fun _ => rfl))); (case c5 => decide); (case kB => exact locs rfl); (case c2 => exact rfl); (case c3 => exact rfl); (case c4 => exact rfl); k_whole; intro g' L' h' FG' F' N' B' X' T' kG'; (try dsimp only); (try k_lift B'); (try k_fold))
  k_steps
  all_goals trace_state
end Mine

namespace Mine
local macro_rules | `(tactic| walk_at "exec While Compare") => `(tactic| (k_dflt (k_extra "my while")))
local macro_rules | `(tactic| walk_at "call ref") => `(tactic| (k_dflt (k_extra "my call")))
local macro_rules | `(tactic| ktr_room) => `(tactic| (show (_ : Nat) < _; (try dsimp only [Around.deeper, Around.in1]); (simp only [rec_is] at *); omega))
local macro_rules | `(tactic| ktr_units) => `(tactic| (show (_ : Nat) < _; (try dsimp only [Around.deeper, Around.in1]); (have hcL9 := cLine_is); omega))
local macro_rules | `(tactic| walk_at "LeaveK") => `(tactic| (k_dflt (k_extra "my leave")))
local macro_rules | `(tactic| walk_at "callWith") => `(tactic| ((with_reducible show wpAny _ _ (callWith _ (Value.builtin _) [Value.ref _] _ _) _ _ _); k_dflt (refine callWith_method1 ?_)))
def zoneOf (p d : Int) : PySem.Str :=
  if d = 0 then (if 0 < p then Str.ofString "+" ++ Str.ofString (toString (2 * p)) else Str.ofString "UTC")
  else if d = 1 then Txt.slice (Str.ofString (toString (100 + 2 * p))) (some 1) none ++ Str.ofString "00"
  else if d = 2 then Str.ofString "-" ++ Str.ofString (toString (24 - 2 * p)) ++ Str.ofString ":00"
  else Str.ofString "-" ++ Txt.slice (Str.ofString (toString (123 - 2 * p))) (some 1) none ++ Str.ofString "60"
section
variable {p d : Int}
theorem z0 (h : d = 0) (hp : 0 < p) : Str.ofString "+" ++ Str.ofString (toString (2 * p)) = zoneOf p d := by unfold zoneOf; rw [if_pos h, if_pos hp]
theorem z0' (h : d = 0) (hp : ¬ 0 < p) : Str.ofString "UTC" = zoneOf p d := by unfold zoneOf; rw [if_pos h, if_neg hp]
theorem z1 (h : d ≠ 0) (h1 : d = 1) : Txt.slice (Str.ofString (toString (100 + 2 * p))) (some 1) none ++ Str.ofString "00" = zoneOf p d := by unfold zoneOf; rw [if_neg h, if_pos h1]
theorem z2 (h : d ≠ 0) (h1 : d ≠ 1) (h2 : d = 2) : Str.ofString "-" ++ Str.ofString (toString (24 - 2 * p)) ++ Str.ofString ":00" = zoneOf p d := by unfold zoneOf; rw [if_neg h, if_neg h1, if_pos h2]
theorem z3 (h : d ≠ 0) (h1 : d ≠ 1) (h2 : d ≠ 2) : Str.ofString "-" ++ Txt.slice (Str.ofString (toString (123 - 2 * p))) (some 1) none ++ Str.ofString "60" = zoneOf p d := by unfold zoneOf; rw [if_neg h, if_neg h1, if_neg h2]
end
theorem zone_ok (w : World) {place dress : Int} {tp td : Tok} {news : Led} (h0 : 0 ≤ place) (h1 : place < 12) (h2 : 0 ≤ dress) (h3 : dress < 4) :
   Calls w 83 [.int place tp, .int dress td] 5 60 news (fun v news' => news' = news ∧ ∃ t, v = .str (zoneOf place dress) t) := by
  unfold Calls
  intro mean mg mb dp un gd cn cs a ccd cl outer A₀ base h₀ L m s Q E
  k_fill
  intro K B F N T hk hd hu hret
  k_with "my leave" => (refine' leaveK_keep (by assumption) (by assumption) kG' ?_; intro kF kN kH kO; refine hret _ _ _ _ ⟨rfl, _, congrArg (fun q => Value.str q _) ?_⟩ kF (led_kept N kH); with_reducible first | exact z0 (by assumption) (by assumption) | exact z0' (by assumption) (by assumption) | exact z1 (by assumption) (by assumption) | exact z2 (by assumption) (by assumption) (by assumption) | exact z3 (by assumption) (by assumption) (by assumption))
  refine wpAny_call ?_
  k_dflt (refine' code_defG (binds := [(Str.ofString "place", Value.int place tp), (Str.ofString "dress", Value.int dress td)]) ?k1 ?k2 ?k3 ?k4 ?k5 ?kA ?kF ?kK ?k6 ?k7 ?k8 ?k9 ?kB ?_ ?c2 ?c3 ?c4 ?c5; (case kA => exact rfl); (case kF => exact rfl); (case kK => assumption); (case k1 => k_asm); (case k2 => k_asm); (case k3 => k_asm); (case k4 => exact News.nil); (case k5 => k_asm); (case k6 => k_is); (case k7 => k_is); (case k8 => ktr_room); (case k9 => (refine' kp_binds ?kx ?ke; (case kx => k_in); (case ke => exact fun _ => rfl))); (case c5 => decide); (case kB => exact locs rfl); (case c2 => exact rfl); (case c3 => exact rfl); (case c4 => exact rfl); k_whole; intro g' L' h' FG' F' N' B' X' T' kG'; (try dsimp only); (try k_lift B'); (try k_fold))
  k_steps
  all_goals trace_state
end Mine

namespace Mine
/-- what a tree without calls does, its new addresses and tokens left open; `need`: an object that the ledger must bear -/
inductive PK (α : Type) where
  | done (a : α)
  | make (o : Obj) (k : Addr → PK α)
  | tok (k : Tok → PK α)
  | need (a : Addr) (o : Obj) (r : PK α)
  | stuck
def pkR {α : Type} (K : Frag) (S : Setting) : Sem α → List (Option Obj) → PK α
  | .pure a, _ => .done a
  | .rule _ k, sc => pkR K S (k ()) sc
  | .point _ k, sc => pkR K S (k ()) sc
  | .ask k, sc => pkR K S (k S) sc
  | .load a _ k, sc => (match sc with
      | some o :: r => .need a o (pkR K S (k o) r)
      | none :: r => (match K.lookup a with
        | some o => pkR K S (k o) r
        | none => .stuck)
      | [] => (match K.lookup a with
        | some o => pkR K S (k o) []
        | none => .stuck))
  | .alloc o k, sc => .make o fun D => pkR K S (k D) sc
  | .fresh k, sc => .tok fun t => pkR K S (k t) sc
  | _, _ => .stuck
def PK.Ok {α : Type} (P : α → Led → Prop) : PK α → Led → Prop
  | .done a, news => P a news
  | .make o k, news => o.isFreed = false ∧ ∀ D, (∀ p ∈ news, p.1 < D) → (k D).Ok P ((D, o) :: news)
  | .tok k, news => ∀ t, (k t).Ok P news
  | .need a o r, news => (a, o) ∈ news ∧ r.Ok P news
  | .stuck, _ => False
theorem pk_sound {α : Type} {prog : Program} {w : World} {A : Around} {E : Value → Shared → Prop} {K : Frag} {h₀ : Heap} {L : Addr} {m : PySem.Str → Option Value} {P : α → Led → Prop} (X : K.In h₀) :
    ∀ (t : Sem α) (sc : List (Option Obj)) (s : Shared) (news : Led) (Q : α → Shared → Prop), (pkR K ⟨prog, w.params⟩ t sc).Ok P news → Fr h₀ L s.heap m → News h₀ L s.heap news →
      (∀ a news' h' tk', P a news' → Fr h₀ L h' m → News h₀ L h' news' → Q a { s with heap := h', toks := tk' }) → wpAny (model prog w) A t Q E s := by
  intro t
  induction t with
  | pure a =>
    intro sc s news Q h F N q
    exact wpAny_pure (q a news s.heap s.toks h F N)
  | rule _ k ih => intro sc s news Q h F N q Γ p hΓ; exact ih () sc s news Q h F N q Γ p hΓ
  | point _ k ih => intro sc s news Q h F N q Γ p hΓ; exact ih () sc s news Q h F N q Γ p hΓ
  | ask k ih => intro sc s news Q h F N q Γ p hΓ; exact ih _ sc s news Q h F N q Γ p hΓ
  | load a _ k ih =>
    intro sc s news Q h F N q Γ p hΓ
    have old : ∀ o, K.lookup a = some o → ∀ r, (pkR K ⟨prog, w.params⟩ (k o) r).Ok P news → ∃ o, s.heap.get? a = some o ∧ Sem.wp (model prog w) Γ (k o) (fun a _ s => Q a s) (fun e _ s => E e s) p s := fun o ho r h =>
      ⟨o, F.keep _ _ (X _ _ ho), ih o r s news Q h F N q Γ p hΓ⟩
    match sc with
    | some o :: r =>
      obtain ⟨h1, h2⟩ := h
      exact ⟨o, (N _ h1).1, ih o r s news Q h2 F N q Γ p hΓ⟩
    | none :: r =>
      simp only [pkR] at h
      split at h
      · rename_i o ho; exact old o ho _ h
      · exact h.elim
    | [] =>
      simp only [pkR] at h
      split at h
      · rename_i o ho; exact old o ho _ h
      · exact h.elim
  | alloc o k ih =>
    intro sc s news Q h F N q
    obtain ⟨hf, h⟩ := h
    have l : ∀ p ∈ news, p.1 < s.heap.objs.size := fun p hp => Heap.lt_size (N p hp).1
    show wpAny (model prog w) A (alloc o >>= k) Q E s
    refine wpAny_bind (wpAny_alloc ?_)
    exact ih s.heap.objs.size sc { s with heap := s.heap.push o } _ Q (h _ l) (F.push o) (News.push F N o hf) q
  | fresh k ih =>
    intro sc s news Q h F N q
    show wpAny (model prog w) A (fresh >>= k) Q E s
    refine wpAny_bind (wpAny_fresh ?_)
    exact ih s.toks sc { s with toks := s.toks + 1 } _ Q (h _) F N q
  | _ => intro sc s news Q h; exact h.elim

namespace Re
theorem plain_pat : PlainAttrs "re.Pattern" :=
  ⟨⟨"object.__getattribute__", by rw [typeLookup_type, builtinLookup_eq_fast]; kernel_rfl, by decide +kernel⟩, by rw [typeLookup_type, builtinLookup_eq_fast]; kernel_rfl⟩
theorem plain_mat : PlainAttrs "re.Match" :=
  ⟨⟨"object.__getattribute__", by rw [typeLookup_type, builtinLookup_eq_fast]; kernel_rfl, by decide +kernel⟩, by rw [typeLookup_type, builtinLookup_eq_fast]; kernel_rfl⟩
theorem slot_search : Slot "re.Pattern" "search" "re.Pattern.search" :=
  .of (owner := "re.Pattern") (n := "search") (by rw [typeLookup_type, builtinLookup_eq_fast]; kernel_rfl) (by decide +kernel) (by decide +kernel) (by decide +kernel)
    (by first | exact .inl (by decide +kernel) | exact .inr (by decide +kernel)) (by rw [isSubtype_type]; kernel_rfl)
theorem type_search : typeOf (.builtin "re.Pattern.search") = pure (.type "method_descriptor") := by show builtinType _ = _; rw [builtinType_eq_fast]; kernel_rfl
theorem entry_search : entryFor table "re.Pattern.search" = some Builtin.«re.Pattern.search» := entryFor_of_tree (by kernel_rfl)
theorem args_search (a b : Value) : argsOk "re.Pattern.search" ⟨[a, b], []⟩ := by unfold argsOk; kernel_rfl
theorem slot_group : Slot "re.Match" "group" "re.Match.group" :=
  .of (owner := "re.Match") (n := "group") (by rw [typeLookup_type, builtinLookup_eq_fast]; kernel_rfl) (by decide +kernel) (by decide +kernel) (by decide +kernel)
    (by first | exact .inl (by decide +kernel) | exact .inr (by decide +kernel)) (by rw [isSubtype_type]; kernel_rfl)
theorem type_group : typeOf (.builtin "re.Match.group") = pure (.type "method_descriptor") := by show builtinType _ = _; rw [builtinType_eq_fast]; kernel_rfl
theorem entry_group : entryFor table "re.Match.group" = some Builtin.«re.Match.group» := entryFor_of_tree (by kernel_rfl)
theorem args_group (a b : Value) : argsOk "re.Match.group" ⟨[a, b], []⟩ := by unfold argsOk; kernel_rfl
theorem no_bool : typeLookup (.type "re.Match") "__bool__" = pure none := by rw [typeLookup_type, builtinLookup_eq_fast]; kernel_rfl
theorem no_len : typeLookup (.type "re.Match") "__len__" = pure none := by rw [typeLookup_type, builtinLookup_eq_fast]; kernel_rfl
end Re
end Mine

namespace Mine
local macro_rules | `(tactic| walk_at "exec While Compare") => `(tactic| (k_dflt (k_extra "my while")))
local macro_rules | `(tactic| walk_at "call ref") => `(tactic| (k_dflt (k_extra "my call")))
local macro_rules | `(tactic| ktr_room) => `(tactic| (show (_ : Nat) < _; (try dsimp only [Around.deeper, Around.in1]); (simp only [rec_is] at *); omega))
local macro_rules | `(tactic| ktr_units) => `(tactic| (show (_ : Nat) < _; (try dsimp only [Around.deeper, Around.in1]); (have hcL9 := cLine_is); omega))
local macro_rules | `(tactic| walk_at "LeaveK") => `(tactic| (k_dflt (k_extra "my leave")))
local macro_rules | `(tactic| walk_at "callWith") => `(tactic| ((with_reducible show wpAny _ _ (callWith _ (Value.builtin _) [Value.ref _] _ _) _ _ _); k_dflt (refine callWith_method1 ?_)))
abbrev tupObj (sp : List Int) : Obj := { cls := .type "tuple", data := .seq (sp.map rawInt).toArray }
abbrev matObj (x : PySem.Str) (tx : Tok) (a : Addr) (lim : Nat) (li : Int) : Obj := { cls := .type "re.Match", data := .fields #[.str x tx, .ref 37, rawInt 0, rawInt lim, rawInt li, .ref a] }
/-- what the pattern's search finds in the text -/
def Finds (w : World) (x : PySem.Str) (sp : List Int) (lim : Nat) (li : Int) : Prop := ∀ tx, pkR (hd.heap_39 w.params) ⟨PySem.Challenge.rw_xg0022_01.row.prog, w.params⟩ (Builtin.«re.Pattern.search» ⟨[.ref 37, .str x tx], []⟩) [] =
   .make (tupObj sp) fun a => .make (matObj x tx a lim li) fun b => .done (.done (.ret (.ref b)))
/-- what the match's group g is -/
def Group (w : World) (x : PySem.Str) (sp : List Int) (lim : Nat) (li : Int) (g : Int) (y : Option PySem.Str) : Prop := ∀ tx tg a b, pkR (hd.heap_39 w.params) ⟨PySem.Challenge.rw_xg0022_01.row.prog, w.params⟩ (Builtin.«re.Match.group» ⟨[.ref b, .int g tg], []⟩) [some (matObj x tx a lim li), some (tupObj sp)] =
   .need b (matObj x tx a lim li) (.need a (tupObj sp) (match y with | none => .done (.done (.ret .none)) | some z => .tok fun t => .done (.done (.ret (.str z t)))))
section
variable {w : World} {A : Around} {E : Value → Shared → Prop} {s : Shared} {h₀ : Heap} {L : Addr} {m : PySem.Str → Option Value} {news : Led} {x : PySem.Str} {tx : Tok} {sp : List Int} {lim : Nat} {li : Int} {Q : Value → Shared → Prop}
theorem patAt (X : Frag.In (hd.heap_39 w.params) h₀) (F : Fr h₀ L s.heap m) : ∃ o, s.heap.get? 37 = some o ∧ o.cls = .type "re.Pattern" ∧ o.dict = none :=
  ⟨_, F.keep _ _ (X 37 _ rfl), rfl, rfl⟩
theorem search_ok (X : Frag.In (hd.heap_39 w.params) h₀) (F : Fr h₀ L s.heap m) (N : News h₀ L s.heap news) (hS : Finds w x sp lim li)
    (h : ∀ a b h' tk', Fr h₀ L h' m → News h₀ L h' ((b, matObj x tx a lim li) :: (a, tupObj sp) :: news) → a < b ∧ AllLt a news → Q (.ref b) { s with heap := h', toks := tk' }) :
    wpAny (model PySem.Challenge.rw_xg0022_01.row.prog w) A (PySem.call (.builtin "re.Pattern.search") [.ref 37, .str x tx]) Q E s := by
  obtain ⟨o, h1, h2, h3⟩ := patAt X F
  have hT : s.TypeIs (.ref 37) "re.Pattern" := ⟨o, h1, h2⟩
  refine wpAny_call (codeAny_call_builtin Re.slot_search.plain Re.entry_search (Re.slot_search.check _ _ _ _ _ _ _ _ hT (Re.args_search _ _) ?_))
  refine pk_sound (P := fun fin news' => ∃ a b, fin = .done (.ret (.ref b)) ∧ news' = (b, matObj x tx a lim li) :: (a, tupObj sp) :: news ∧ a < b ∧ ∀ p ∈ news, p.1 < a) X _ [] s news _ ?_ F N ?_
  · rw [hS tx]
    exact ⟨rfl, fun a ha => ⟨rfl, fun b hb => ⟨a, b, rfl, rfl, hb _ (.head _), ha⟩⟩⟩
  · rintro fin news' h' tk' ⟨a, b, rfl, rfl, hab, hl⟩ F' N'
    refine h a b h' tk' F' N' ⟨hab, ?_⟩
    clear h hS N N' h1
    induction news with
    | nil => trivial
    | cons p r ih => exact ⟨hl p (.head _), ih fun q hq => hl q (.tail _ hq)⟩
theorem group_ok {a b : Addr} {g : Int} {tg : Tok} {y : Option PySem.Str} (X : Frag.In (hd.heap_39 w.params) h₀) (F : Fr h₀ L s.heap m) (N : News h₀ L s.heap news) (hb : (b, matObj x tx a lim li) ∈ news) (ha : (a, tupObj sp) ∈ news) (hG : Group w x sp lim li g y)
    (h : ∀ t tk' h', Fr h₀ L h' m → News h₀ L h' news → Q (match y with | none => .none | some z => .str z t) { s with heap := h', toks := tk' }) :
    wpAny (model PySem.Challenge.rw_xg0022_01.row.prog w) A (PySem.call (.builtin "re.Match.group") [.ref b, .int g tg]) Q E s := by
  have hT : s.TypeIs (.ref b) "re.Match" := ⟨_, (N _ hb).1, rfl⟩
  refine wpAny_call (codeAny_call_builtin Re.slot_group.plain Re.entry_group (Re.slot_group.check _ _ _ _ _ _ _ _ hT (Re.args_group _ _) ?_))
  refine pk_sound (P := fun fin news' => news' = news ∧ ∃ t, fin = .done (.ret (match y with | none => .none | some z => .str z t))) X _ [some (matObj x tx a lim li), some (tupObj sp)] s news _ ?_ F N ?_
  · rw [hG tx tg a b]
    refine ⟨hb, ha, ?_⟩
    cases y with
    | none => exact ⟨rfl, 0, rfl⟩
    | some z => exact fun t => ⟨rfl, t, rfl⟩
  · rintro fin news' h' tk' ⟨rfl, t, rfl⟩ F' N'
    exact h t tk' h' F' N'
theorem truthy_mat {a b : Addr} {Q : Bool → Shared → Prop} (N : News h₀ L s.heap news) (hb : (b, matObj x tx a lim li) ∈ news) (h : Q true s) : wpAny (model PySem.Challenge.rw_xg0022_01.row.prog w) A (truthy (.ref b)) Q E s := by
  have hT : s.TypeIs (.ref b) "re.Match" := ⟨_, (N _ hb).1, rfl⟩
  unfold truthy callSpecial?
  refine wpAny_bind (wpAny_bind (wpAny_specialOf hT Re.no_bool (wpAny_pure ?_)))
  exact wpAny_bind (wpAny_specialOf hT Re.no_len (wpAny_pure h))
theorem meth_pat {pl : Sem Bool} {Q : Value × List Value → Shared → Prop} (X : Frag.In (hd.heap_39 w.params) h₀) (F : Fr h₀ L s.heap m) (h : Q (.builtin "re.Pattern.search", [.ref 37]) s) : wpAny (model PySem.Challenge.rw_xg0022_01.row.prog w) A (getMethod (.ref 37) (Str.ofString "search") pl) Q E s := by
  obtain ⟨o, h1, h2, h3⟩ := patAt X F
  exact getMethod_builtin ⟨o, h1, h2⟩ Re.plain_pat Re.slot_search Re.type_search (fun a e => by cases e; exact ⟨o, h1, h3⟩) h
theorem meth_mat {a b : Addr} {pl : Sem Bool} {Q : Value × List Value → Shared → Prop} (N : News h₀ L s.heap news) (hb : (b, matObj x tx a lim li) ∈ news) (h : Q (.builtin "re.Match.group", [.ref b]) s) : wpAny (model PySem.Challenge.rw_xg0022_01.row.prog w) A (getMethod (.ref b) (Str.ofString "group") pl) Q E s :=
  getMethod_builtin ⟨_, (N _ hb).1, rfl⟩ Re.plain_mat Re.slot_group Re.type_group (fun a e => by cases e; exact ⟨_, (N _ hb).1, rfl⟩) h
end
end Mine

namespace Mine
local macro_rules | `(tactic| walk_at "exec While Compare") => `(tactic| (k_dflt (k_extra "my while")))
local macro_rules | `(tactic| walk_at "call ref") => `(tactic| (k_dflt (k_extra "my call")))
local macro_rules | `(tactic| ktr_room) => `(tactic| (show (_ : Nat) < _; (try dsimp only [Around.deeper, Around.in1]); (simp only [rec_is] at *); omega))
local macro_rules | `(tactic| ktr_units) => `(tactic| (show (_ : Nat) < _; (try dsimp only [Around.deeper, Around.in1]); (have hcL9 := cLine_is); omega))
local macro_rules | `(tactic| walk_at "LeaveK") => `(tactic| (k_dflt (k_extra "my leave")))
local macro_rules | `(tactic| walk_at "callWith") => `(tactic| ((with_reducible show wpAny _ _ (callWith _ (Value.builtin _) [Value.ref _] _ _) _ _ _); k_dflt (refine callWith_method1 ?_)))
local macro_rules | `(tactic| walk_at "compareOp In str ref") => `(tactic| (k_dflt (k_extra "my in")))
local macro_rules | `(tactic| walk_at "getMethod ref") => `(tactic| (k_dflt (first | (refine meth_pat (by assumption) (by assumption) ?_) | (refine meth_mat (by assumption) (by k_mem) ?_))))
local macro_rules | `(tactic| walk_at "call builtin:re.Pattern.search") => `(tactic| (k_dflt (k_extra "my search")))
local macro_rules | `(tactic| walk_at "call builtin:re.Match.group") => `(tactic| (k_dflt (k_extra "my group")))
local macro_rules | `(tactic| walk_at "truthy ref") => `(tactic| (k_dflt (refine truthy_mat (by assumption) (by k_mem) ?_)))
local macro_rules | `(tactic| walk_at "truthy str") => `(tactic| (k_dflt (k_extra "my truth")))
local macro_rules | `(tactic| walk_at "call type:int") => `(tactic| (k_dflt (k_extra "my int")))
def offVal (y1 : Option PySem.Str) (n2 : Int) (y3 : Option PySem.Str) (n3 : Int) : Int :=
  let o := match y3 with | none => 3600 * n2 | some _ => 3600 * n2 + 60 * n3
  match y1 with | none => o | some z => if z = Str.ofString "-" then -o else o
theorem truthy_text {w : World} {A : Around} {E : Value → Shared → Prop} {s : Shared} {x : PySem.Str} {t : Tok} {Q : Bool → Shared → Prop} (h0 : 0 < x.length) (h1 : x.length ≤ 640) (h : Q true { s with toks := s.toks + 1 + 1 }) : wpAny (model PySem.Challenge.rw_xg0022_01.row.prog w) A (truthy (.str x t)) Q E s := by
  refine P.truthy_str (by omega) ?_
  have e : ((x.length : Int) != 0) = true := by simp; omega
  rw [e]; exact h
theorem off_a {z : PySem.Str} {n2 n3 : Int} (h : (z == Str.ofString "-") = true) : -(3600 * n2) = offVal (some z) n2 none n3 := by simp [offVal, eq_of_beq h]
theorem off_b {z : PySem.Str} {n2 n3 : Int} (h : (z == Str.ofString "-") = false) : 3600 * n2 = offVal (some z) n2 none n3 := by
  have : z ≠ Str.ofString "-" := fun e => by rw [e] at h; simp at h
  simp [offVal, this]
theorem off_c {z y : PySem.Str} {n2 n3 : Int} (h : (z == Str.ofString "-") = true) : -(3600 * n2 + 60 * n3) = offVal (some z) n2 (some y) n3 := by simp [offVal, eq_of_beq h]
theorem off_d {z y : PySem.Str} {n2 n3 : Int} (h : (z == Str.ofString "-") = false) : 3600 * n2 + 60 * n3 = offVal (some z) n2 (some y) n3 := by
  have : z ≠ Str.ofString "-" := fun e => by rw [e] at h; simp at h
  simp [offVal, this]
theorem off_walk (w : World) {x : PySem.Str} {tx : Tok} {news : Led} {sp : List Int} {lim : Nat} {li : Int} {y1 y3 : Option PySem.Str} {y2 : PySem.Str} {n2 n3 : Int}
   (hU : nsIn (hd.heap_39 w.params) 32 x = some none) (hS : Finds w x sp lim li) (h2 : Group w x sp lim li 2 (some y2)) (h3 : Group w x sp lim li 3 y3) (h1 : Group w x sp lim li 1 y1)
   (i2 : PySem.intText? y2 = some n2) (l2 : y2.length ≤ 640) (i3 : ∀ z, y3 = some z → PySem.intText? z = some n3 ∧ z.length ≤ 640 ∧ 0 < z.length) :
   Calls w 44 [.str x tx] 5 60 news (fun v news' => news' = news ∧ ∃ t, v = .int (offVal y1 n2 y3 n3) t) := by
  cases y1 <;> cases y3
  all_goals (
    (try (obtain ⟨j1, j2, j3⟩ := i3 _ rfl))
    unfold Calls
    intro mean mg mb dp un gd cn cs a ccd cl outer A₀ base h₀ L m s Q E
    k_fill
    intro K B F N T hk hd hu hret
    k_with "my leave" => (refine' leaveK_keep (by assumption) (by assumption) kG' ?_; intro kF kN kH kO; refine hret _ _ _ _ ⟨rfl, _, congrArg (fun q => Value.int q _) ?_⟩ kF (led_kept N kH); first | rfl | exact off_a (by assumption) | exact off_b (by assumption) | exact off_c (by assumption) | exact off_d (by assumption))
    k_with "my in" => (refine' topIn_K (r := none) ?F ?X ?hl ?hk ?hu ?lo ?_; (case F => k_asm); (case X => k_asm); (case hl => k_is); (case hk => k_keys); (case hu => exact hU); (case lo => decide); dsimp only [Option.isSome])
    k_with "my search" => (refine search_ok (by assumption) (by assumption) (by assumption) hS ?_; intro a9 b9 h9 tk9 F9 N9 l9)
    k_with "my group" => ((first | refine group_ok (by assumption) (by assumption) (by assumption) (by k_mem) (by k_mem) h2 ?_ | refine group_ok (by assumption) (by assumption) (by assumption) (by k_mem) (by k_mem) h3 ?_ | refine group_ok (by assumption) (by assumption) (by assumption) (by k_mem) (by k_mem) h1 ?_); intro t9 tk9 h9 F9 N9; dsimp only)
    k_with "my truth" => (refine truthy_text j3 j2 ?_)
    k_with "my int" => (first | refine call_text i2 l2 ?_ | refine call_text j1 j2 ?_)
    refine wpAny_call ?_
    k_dflt (refine' code_defG (binds := [(Str.ofString "tz", Value.str x tx)]) ?k1 ?k2 ?k3 ?k4 ?k5 ?kA ?kF ?kK ?k6 ?k7 ?k8 ?k9 ?kB ?_ ?c2 ?c3 ?c4 ?c5; (case kA => exact rfl); (case kF => exact rfl); (case kK => assumption); (case k1 => k_asm); (case k2 => k_asm); (case k3 => k_asm); (case k4 => exact News.nil); (case k5 => k_asm); (case k6 => k_is); (case k7 => k_is); (case k8 => ktr_room); (case k9 => (refine' kp_binds ?kx ?ke; (case kx => k_in); (case ke => exact fun _ => rfl))); (case c5 => decide); (case kB => exact locs rfl); (case c2 => exact rfl); (case c3 => exact rfl); (case c4 => exact rfl); k_whole; intro g' L' h' FG' F' N' B' X' T' kG'; (try dsimp only); (try k_lift B'); (try k_fold))
    k_steps)
  all_goals trace_state
end Mine

namespace Mine
local macro_rules | `(tactic| walk_at "exec While Compare") => `(tactic| (k_dflt (k_extra "my while")))
local macro_rules | `(tactic| walk_at "call ref") => `(tactic| (k_dflt (k_extra "my call")))
local macro_rules | `(tactic| ktr_room) => `(tactic| (show (_ : Nat) < _; (try dsimp only [Around.deeper, Around.in1]); (simp only [rec_is] at *); omega))
local macro_rules | `(tactic| ktr_units) => `(tactic| (show (_ : Nat) < _; (try dsimp only [Around.deeper, Around.in1]); (have hcL9 := cLine_is); omega))
local macro_rules | `(tactic| walk_at "LeaveK") => `(tactic| (k_dflt (k_extra "my leave")))
theorem utc_walk (w : World) {tx : Tok} {news : Led} : Calls w 44 [.str (Str.ofString "UTC") tx] 5 60 news (fun v news' => news' = news ∧ ∃ t, v = .int 0 t) := by
  unfold Calls
  intro mean mg mb dp un gd cn cs a ccd cl outer A₀ base h₀ L m s Q E
  k_fill
  intro K B F N T hk hd hu hret
  k_with "my leave" => (refine' leaveK_keep (by assumption) (by assumption) kG' ?_; intro kF kN kH kO; exact hret _ _ _ _ ⟨rfl, _, rfl⟩ kF (led_kept N kH))
  refine wpAny_call ?_
  k_dflt (refine' code_defG (binds := [(Str.ofString "tz", Value.str (Str.ofString "UTC") tx)]) ?k1 ?k2 ?k3 ?k4 ?k5 ?kA ?kF ?kK ?k6 ?k7 ?k8 ?k9 ?kB ?_ ?c2 ?c3 ?c4 ?c5; (case kA => exact rfl); (case kF => exact rfl); (case kK => assumption); (case k1 => k_asm); (case k2 => k_asm); (case k3 => k_asm); (case k4 => exact News.nil); (case k5 => k_asm); (case k6 => k_is); (case k7 => k_is); (case k8 => ktr_room); (case k9 => (refine' kp_binds ?kx ?ke; (case kx => k_in); (case ke => exact fun _ => rfl))); (case c5 => decide); (case kB => exact locs rfl); (case c2 => exact rfl); (case c3 => exact rfl); (case c4 => exact rfl); k_whole; intro g' L' h' FG' F' N' B' X' T' kG'; (try dsimp only); (try k_lift B'); (try k_fold))
  k_steps
def zoneGoal (w : World) (p d : Int) : Prop := ∀ (tx : Tok) (news : Led), Calls w 44 [.str (zoneOf p d) tx] 5 60 news (fun v news' => news' = news ∧ ∃ t, v = .int (7200 * p - 86400 * (d / 2)) t)
theorem off_text (w : World) {p d : Int} {x : PySem.Str} {sp : List Int} {lim : Nat} {li : Int} {y1 y3 : Option PySem.Str} {y2 : PySem.Str} {n2 n3 : Int} (e : zoneOf p d = x)
   (hU : nsIn (hd.heap_39 w.params) 32 x = some none) (hS : Finds w x sp lim li) (h2 : Group w x sp lim li 2 (some y2)) (h3 : Group w x sp lim li 3 y3) (h1 : Group w x sp lim li 1 y1)
   (i2 : PySem.intText? y2 = some n2) (l2 : y2.length ≤ 640) (i3 : ∀ z, y3 = some z → PySem.intText? z = some n3 ∧ z.length ≤ 640 ∧ 0 < z.length) (r : offVal y1 n2 y3 n3 = 7200 * p - 86400 * (d / 2)) : zoneGoal w p d := by
  intro tx news
  rw [e, ← r]
  exact off_walk w hU hS h2 h3 h1 i2 l2 i3
theorem some_fact {y z : PySem.Str} {n : Int} (a : PySem.intText? y = some n) (b : y.length ≤ 640) (c : 0 < y.length) (e : some y = some z) : PySem.intText? z = some n ∧ z.length ≤ 640 ∧ 0 < z.length := by
  cases e; exact ⟨a, b, c⟩
theorem z_0_0 (w : World) : zoneGoal w 0 0 := by
  intro tx news
  rw [show zoneOf 0 0 = Str.ofString "UTC" from by kernel_rfl]
  exact utc_walk w
theorem z_1_0 (w : World) : zoneGoal w 1 0 :=
  off_text w (x := Str.ofString "+2") (sp := [0, 2, 0, 1, 1, 2, -1, -1]) (lim := 2) (li := 2) (y1 := (some (Str.ofString "+"))) (y2 := Str.ofString "2") (y3 := none) (n2 := 2) (n3 := 0) (by kernel_rfl) (by kernel_rfl) (fun tx => by kernel_rfl) (fun tx tg a b => by kernel_rfl) (fun tx tg a b => by kernel_rfl) (fun tx tg a b => by kernel_rfl) (by kernel_rfl) (by decide +kernel) (fun z e => nomatch e) (by decide +kernel)
theorem z_2_0 (w : World) : zoneGoal w 2 0 :=
  off_text w (x := Str.ofString "+4") (sp := [0, 2, 0, 1, 1, 2, -1, -1]) (lim := 2) (li := 2) (y1 := (some (Str.ofString "+"))) (y2 := Str.ofString "4") (y3 := none) (n2 := 4) (n3 := 0) (by kernel_rfl) (by kernel_rfl) (fun tx => by kernel_rfl) (fun tx tg a b => by kernel_rfl) (fun tx tg a b => by kernel_rfl) (fun tx tg a b => by kernel_rfl) (by kernel_rfl) (by decide +kernel) (fun z e => nomatch e) (by decide +kernel)
theorem z_3_0 (w : World) : zoneGoal w 3 0 :=
  off_text w (x := Str.ofString "+6") (sp := [0, 2, 0, 1, 1, 2, -1, -1]) (lim := 2) (li := 2) (y1 := (some (Str.ofString "+"))) (y2 := Str.ofString "6") (y3 := none) (n2 := 6) (n3 := 0) (by kernel_rfl) (by kernel_rfl) (fun tx => by kernel_rfl) (fun tx tg a b => by kernel_rfl) (fun tx tg a b => by kernel_rfl) (fun tx tg a b => by kernel_rfl) (by kernel_rfl) (by decide +kernel) (fun z e => nomatch e) (by decide +kernel)
theorem z_4_0 (w : World) : zoneGoal w 4 0 :=
  off_text w (x := Str.ofString "+8") (sp := [0, 2, 0, 1, 1, 2, -1, -1]) (lim := 2) (li := 2) (y1 := (some (Str.ofString "+"))) (y2 := Str.ofString "8") (y3 := none) (n2 := 8) (n3 := 0) (by kernel_rfl) (by kernel_rfl) (fun tx => by kernel_rfl) (fun tx tg a b => by kernel_rfl) (fun tx tg a b => by kernel_rfl) (fun tx tg a b => by kernel_rfl) (by kernel_rfl) (by decide +kernel) (fun z e => nomatch e) (by decide +kernel)
theorem z_5_0 (w : World) : zoneGoal w 5 0 :=
  off_text w (x := Str.ofString "+10") (sp := [0, 3, 0, 1, 1, 3, -1, -1]) (lim := 3) (li := 2) (y1 := (some (Str.ofString "+"))) (y2 := Str.ofString "10") (y3 := none) (n2 := 10) (n3 := 0) (by kernel_rfl) (by kernel_rfl) (fun tx => by kernel_rfl) (fun tx tg a b => by kernel_rfl) (fun tx tg a b => by kernel_rfl) (fun tx tg a b => by kernel_rfl) (by kernel_rfl) (by decide +kernel) (fun z e => nomatch e) (by decide +kernel)
theorem z_6_0 (w : World) : zoneGoal w 6 0 :=
  off_text w (x := Str.ofString "+12") (sp := [0, 3, 0, 1, 1, 3, -1, -1]) (lim := 3) (li := 2) (y1 := (some (Str.ofString "+"))) (y2 := Str.ofString "12") (y3 := none) (n2 := 12) (n3 := 0) (by kernel_rfl) (by kernel_rfl) (fun tx => by kernel_rfl) (fun tx tg a b => by kernel_rfl) (fun tx tg a b => by kernel_rfl) (fun tx tg a b => by kernel_rfl) (by kernel_rfl) (by decide +kernel) (fun z e => nomatch e) (by decide +kernel)
theorem z_7_0 (w : World) : zoneGoal w 7 0 :=
  off_text w (x := Str.ofString "+14") (sp := [0, 3, 0, 1, 1, 3, -1, -1]) (lim := 3) (li := 2) (y1 := (some (Str.ofString "+"))) (y2 := Str.ofString "14") (y3 := none) (n2 := 14) (n3 := 0) (by kernel_rfl) (by kernel_rfl) (fun tx => by kernel_rfl) (fun tx tg a b => by kernel_rfl) (fun tx tg a b => by kernel_rfl) (fun tx tg a b => by kernel_rfl) (by kernel_rfl) (by decide +kernel) (fun z e => nomatch e) (by decide +kernel)
theorem z_8_0 (w : World) : zoneGoal w 8 0 :=
  off_text w (x := Str.ofString "+16") (sp := [0, 3, 0, 1, 1, 3, -1, -1]) (lim := 3) (li := 2) (y1 := (some (Str.ofString "+"))) (y2 := Str.ofString "16") (y3 := none) (n2 := 16) (n3 := 0) (by kernel_rfl) (by kernel_rfl) (fun tx => by kernel_rfl) (fun tx tg a b => by kernel_rfl) (fun tx tg a b => by kernel_rfl) (fun tx tg a b => by kernel_rfl) (by kernel_rfl) (by decide +kernel) (fun z e => nomatch e) (by decide +kernel)
theorem z_9_0 (w : World) : zoneGoal w 9 0 :=
  off_text w (x := Str.ofString "+18") (sp := [0, 3, 0, 1, 1, 3, -1, -1]) (lim := 3) (li := 2) (y1 := (some (Str.ofString "+"))) (y2 := Str.ofString "18") (y3 := none) (n2 := 18) (n3 := 0) (by kernel_rfl) (by kernel_rfl) (fun tx => by kernel_rfl) (fun tx tg a b => by kernel_rfl) (fun tx tg a b => by kernel_rfl) (fun tx tg a b => by kernel_rfl) (by kernel_rfl) (by decide +kernel) (fun z e => nomatch e) (by decide +kernel)
theorem z_10_0 (w : World) : zoneGoal w 10 0 :=
  off_text w (x := Str.ofString "+20") (sp := [0, 3, 0, 1, 1, 3, -1, -1]) (lim := 3) (li := 2) (y1 := (some (Str.ofString "+"))) (y2 := Str.ofString "20") (y3 := none) (n2 := 20) (n3 := 0) (by kernel_rfl) (by kernel_rfl) (fun tx => by kernel_rfl) (fun tx tg a b => by kernel_rfl) (fun tx tg a b => by kernel_rfl) (fun tx tg a b => by kernel_rfl) (by kernel_rfl) (by decide +kernel) (fun z e => nomatch e) (by decide +kernel)
theorem z_11_0 (w : World) : zoneGoal w 11 0 :=
  off_text w (x := Str.ofString "+22") (sp := [0, 3, 0, 1, 1, 3, -1, -1]) (lim := 3) (li := 2) (y1 := (some (Str.ofString "+"))) (y2 := Str.ofString "22") (y3 := none) (n2 := 22) (n3 := 0) (by kernel_rfl) (by kernel_rfl) (fun tx => by kernel_rfl) (fun tx tg a b => by kernel_rfl) (fun tx tg a b => by kernel_rfl) (fun tx tg a b => by kernel_rfl) (by kernel_rfl) (by decide +kernel) (fun z e => nomatch e) (by decide +kernel)
theorem z_0_1 (w : World) : zoneGoal w 0 1 :=
  off_text w (x := Str.ofString "0000") (sp := [0, 4, -1, -1, 0, 2, 2, 4]) (lim := 4) (li := 3) (y1 := none) (y2 := Str.ofString "00") (y3 := (some (Str.ofString "00"))) (n2 := 0) (n3 := 0) (by kernel_rfl) (by kernel_rfl) (fun tx => by kernel_rfl) (fun tx tg a b => by kernel_rfl) (fun tx tg a b => by kernel_rfl) (fun tx tg a b => by kernel_rfl) (by kernel_rfl) (by decide +kernel) (fun z e => some_fact (by kernel_rfl) (by decide +kernel) (by decide +kernel) e) (by decide +kernel)
theorem z_1_1 (w : World) : zoneGoal w 1 1 :=
  off_text w (x := Str.ofString "0200") (sp := [0, 4, -1, -1, 0, 2, 2, 4]) (lim := 4) (li := 3) (y1 := none) (y2 := Str.ofString "02") (y3 := (some (Str.ofString "00"))) (n2 := 2) (n3 := 0) (by kernel_rfl) (by kernel_rfl) (fun tx => by kernel_rfl) (fun tx tg a b => by kernel_rfl) (fun tx tg a b => by kernel_rfl) (fun tx tg a b => by kernel_rfl) (by kernel_rfl) (by decide +kernel) (fun z e => some_fact (by kernel_rfl) (by decide +kernel) (by decide +kernel) e) (by decide +kernel)
theorem z_2_1 (w : World) : zoneGoal w 2 1 :=
  off_text w (x := Str.ofString "0400") (sp := [0, 4, -1, -1, 0, 2, 2, 4]) (lim := 4) (li := 3) (y1 := none) (y2 := Str.ofString "04") (y3 := (some (Str.ofString "00"))) (n2 := 4) (n3 := 0) (by kernel_rfl) (by kernel_rfl) (fun tx => by kernel_rfl) (fun tx tg a b => by kernel_rfl) (fun tx tg a b => by kernel_rfl) (fun tx tg a b => by kernel_rfl) (by kernel_rfl) (by decide +kernel) (fun z e => some_fact (by kernel_rfl) (by decide +kernel) (by decide +kernel) e) (by decide +kernel)
theorem z_3_1 (w : World) : zoneGoal w 3 1 :=
  off_text w (x := Str.ofString "0600") (sp := [0, 4, -1, -1, 0, 2, 2, 4]) (lim := 4) (li := 3) (y1 := none) (y2 := Str.ofString "06") (y3 := (some (Str.ofString "00"))) (n2 := 6) (n3 := 0) (by kernel_rfl) (by kernel_rfl) (fun tx => by kernel_rfl) (fun tx tg a b => by kernel_rfl) (fun tx tg a b => by kernel_rfl) (fun tx tg a b => by kernel_rfl) (by kernel_rfl) (by decide +kernel) (fun z e => some_fact (by kernel_rfl) (by decide +kernel) (by decide +kernel) e) (by decide +kernel)
theorem z_4_1 (w : World) : zoneGoal w 4 1 :=
  off_text w (x := Str.ofString "0800") (sp := [0, 4, -1, -1, 0, 2, 2, 4]) (lim := 4) (li := 3) (y1 := none) (y2 := Str.ofString "08") (y3 := (some (Str.ofString "00"))) (n2 := 8) (n3 := 0) (by kernel_rfl) (by kernel_rfl) (fun tx => by kernel_rfl) (fun tx tg a b => by kernel_rfl) (fun tx tg a b => by kernel_rfl) (fun tx tg a b => by kernel_rfl) (by kernel_rfl) (by decide +kernel) (fun z e => some_fact (by kernel_rfl) (by decide +kernel) (by decide +kernel) e) (by decide +kernel)
theorem z_5_1 (w : World) : zoneGoal w 5 1 :=
  off_text w (x := Str.ofString "1000") (sp := [0, 4, -1, -1, 0, 2, 2, 4]) (lim := 4) (li := 3) (y1 := none) (y2 := Str.ofString "10") (y3 := (some (Str.ofString "00"))) (n2 := 10) (n3 := 0) (by kernel_rfl) (by kernel_rfl) (fun tx => by kernel_rfl) (fun tx tg a b => by kernel_rfl) (fun tx tg a b => by kernel_rfl) (fun tx tg a b => by kernel_rfl) (by kernel_rfl) (by decide +kernel) (fun z e => some_fact (by kernel_rfl) (by decide +kernel) (by decide +kernel) e) (by decide +kernel)
theorem z_6_1 (w : World) : zoneGoal w 6 1 :=
  off_text w (x := Str.ofString "1200") (sp := [0, 4, -1, -1, 0, 2, 2, 4]) (lim := 4) (li := 3) (y1 := none) (y2 := Str.ofString "12") (y3 := (some (Str.ofString "00"))) (n2 := 12) (n3 := 0) (by kernel_rfl) (by kernel_rfl) (fun tx => by kernel_rfl) (fun tx tg a b => by kernel_rfl) (fun tx tg a b => by kernel_rfl) (fun tx tg a b => by kernel_rfl) (by kernel_rfl) (by decide +kernel) (fun z e => some_fact (by kernel_rfl) (by decide +kernel) (by decide +kernel) e) (by decide +kernel)
theorem z_7_1 (w : World) : zoneGoal w 7 1 :=
  off_text w (x := Str.ofString "1400") (sp := [0, 4, -1, -1, 0, 2, 2, 4]) (lim := 4) (li := 3) (y1 := none) (y2 := Str.ofString "14") (y3 := (some (Str.ofString "00"))) (n2 := 14) (n3 := 0) (by kernel_rfl) (by kernel_rfl) (fun tx => by kernel_rfl) (fun tx tg a b => by kernel_rfl) (fun tx tg a b => by kernel_rfl) (fun tx tg a b => by kernel_rfl) (by kernel_rfl) (by decide +kernel) (fun z e => some_fact (by kernel_rfl) (by decide +kernel) (by decide +kernel) e) (by decide +kernel)
theorem z_8_1 (w : World) : zoneGoal w 8 1 :=
  off_text w (x := Str.ofString "1600") (sp := [0, 4, -1, -1, 0, 2, 2, 4]) (lim := 4) (li := 3) (y1 := none) (y2 := Str.ofString "16") (y3 := (some (Str.ofString "00"))) (n2 := 16) (n3 := 0) (by kernel_rfl) (by kernel_rfl) (fun tx => by kernel_rfl) (fun tx tg a b => by kernel_rfl) (fun tx tg a b => by kernel_rfl) (fun tx tg a b => by kernel_rfl) (by kernel_rfl) (by decide +kernel) (fun z e => some_fact (by kernel_rfl) (by decide +kernel) (by decide +kernel) e) (by decide +kernel)
theorem z_9_1 (w : World) : zoneGoal w 9 1 :=
  off_text w (x := Str.ofString "1800") (sp := [0, 4, -1, -1, 0, 2, 2, 4]) (lim := 4) (li := 3) (y1 := none) (y2 := Str.ofString "18") (y3 := (some (Str.ofString "00"))) (n2 := 18) (n3 := 0) (by kernel_rfl) (by kernel_rfl) (fun tx => by kernel_rfl) (fun tx tg a b => by kernel_rfl) (fun tx tg a b => by kernel_rfl) (fun tx tg a b => by kernel_rfl) (by kernel_rfl) (by decide +kernel) (fun z e => some_fact (by kernel_rfl) (by decide +kernel) (by decide +kernel) e) (by decide +kernel)
theorem z_10_1 (w : World) : zoneGoal w 10 1 :=
  off_text w (x := Str.ofString "2000") (sp := [0, 4, -1, -1, 0, 2, 2, 4]) (lim := 4) (li := 3) (y1 := none) (y2 := Str.ofString "20") (y3 := (some (Str.ofString "00"))) (n2 := 20) (n3 := 0) (by kernel_rfl) (by kernel_rfl) (fun tx => by kernel_rfl) (fun tx tg a b => by kernel_rfl) (fun tx tg a b => by kernel_rfl) (fun tx tg a b => by kernel_rfl) (by kernel_rfl) (by decide +kernel) (fun z e => some_fact (by kernel_rfl) (by decide +kernel) (by decide +kernel) e) (by decide +kernel)
theorem z_11_1 (w : World) : zoneGoal w 11 1 :=
  off_text w (x := Str.ofString "2200") (sp := [0, 4, -1, -1, 0, 2, 2, 4]) (lim := 4) (li := 3) (y1 := none) (y2 := Str.ofString "22") (y3 := (some (Str.ofString "00"))) (n2 := 22) (n3 := 0) (by kernel_rfl) (by kernel_rfl) (fun tx => by kernel_rfl) (fun tx tg a b => by kernel_rfl) (fun tx tg a b => by kernel_rfl) (fun tx tg a b => by kernel_rfl) (by kernel_rfl) (by decide +kernel) (fun z e => some_fact (by kernel_rfl) (by decide +kernel) (by decide +kernel) e) (by decide +kernel)
theorem z_0_2 (w : World) : zoneGoal w 0 2 :=
  off_text w (x := Str.ofString "-24:00") (sp := [0, 6, 0, 1, 1, 3, 4, 6]) (lim := 6) (li := 3) (y1 := (some (Str.ofString "-"))) (y2 := Str.ofString "24") (y3 := (some (Str.ofString "00"))) (n2 := 24) (n3 := 0) (by kernel_rfl) (by kernel_rfl) (fun tx => by kernel_rfl) (fun tx tg a b => by kernel_rfl) (fun tx tg a b => by kernel_rfl) (fun tx tg a b => by kernel_rfl) (by kernel_rfl) (by decide +kernel) (fun z e => some_fact (by kernel_rfl) (by decide +kernel) (by decide +kernel) e) (by decide +kernel)
theorem z_1_2 (w : World) : zoneGoal w 1 2 :=
  off_text w (x := Str.ofString "-22:00") (sp := [0, 6, 0, 1, 1, 3, 4, 6]) (lim := 6) (li := 3) (y1 := (some (Str.ofString "-"))) (y2 := Str.ofString "22") (y3 := (some (Str.ofString "00"))) (n2 := 22) (n3 := 0) (by kernel_rfl) (by kernel_rfl) (fun tx => by kernel_rfl) (fun tx tg a b => by kernel_rfl) (fun tx tg a b => by kernel_rfl) (fun tx tg a b => by kernel_rfl) (by kernel_rfl) (by decide +kernel) (fun z e => some_fact (by kernel_rfl) (by decide +kernel) (by decide +kernel) e) (by decide +kernel)
theorem z_2_2 (w : World) : zoneGoal w 2 2 :=
  off_text w (x := Str.ofString "-20:00") (sp := [0, 6, 0, 1, 1, 3, 4, 6]) (lim := 6) (li := 3) (y1 := (some (Str.ofString "-"))) (y2 := Str.ofString "20") (y3 := (some (Str.ofString "00"))) (n2 := 20) (n3 := 0) (by kernel_rfl) (by kernel_rfl) (fun tx => by kernel_rfl) (fun tx tg a b => by kernel_rfl) (fun tx tg a b => by kernel_rfl) (fun tx tg a b => by kernel_rfl) (by kernel_rfl) (by decide +kernel) (fun z e => some_fact (by kernel_rfl) (by decide +kernel) (by decide +kernel) e) (by decide +kernel)
theorem z_3_2 (w : World) : zoneGoal w 3 2 :=
  off_text w (x := Str.ofString "-18:00") (sp := [0, 6, 0, 1, 1, 3, 4, 6]) (lim := 6) (li := 3) (y1 := (some (Str.ofString "-"))) (y2 := Str.ofString "18") (y3 := (some (Str.ofString "00"))) (n2 := 18) (n3 := 0) (by kernel_rfl) (by kernel_rfl) (fun tx => by kernel_rfl) (fun tx tg a b => by kernel_rfl) (fun tx tg a b => by kernel_rfl) (fun tx tg a b => by kernel_rfl) (by kernel_rfl) (by decide +kernel) (fun z e => some_fact (by kernel_rfl) (by decide +kernel) (by decide +kernel) e) (by decide +kernel)
theorem z_4_2 (w : World) : zoneGoal w 4 2 :=
  off_text w (x := Str.ofString "-16:00") (sp := [0, 6, 0, 1, 1, 3, 4, 6]) (lim := 6) (li := 3) (y1 := (some (Str.ofString "-"))) (y2 := Str.ofString "16") (y3 := (some (Str.ofString "00"))) (n2 := 16) (n3 := 0) (by kernel_rfl) (by kernel_rfl) (fun tx => by kernel_rfl) (fun tx tg a b => by kernel_rfl) (fun tx tg a b => by kernel_rfl) (fun tx tg a b => by kernel_rfl) (by kernel_rfl) (by decide +kernel) (fun z e => some_fact (by kernel_rfl) (by decide +kernel) (by decide +kernel) e) (by decide +kernel)
theorem z_5_2 (w : World) : zoneGoal w 5 2 :=
  off_text w (x := Str.ofString "-14:00") (sp := [0, 6, 0, 1, 1, 3, 4, 6]) (lim := 6) (li := 3) (y1 := (some (Str.ofString "-"))) (y2 := Str.ofString "14") (y3 := (some (Str.ofString "00"))) (n2 := 14) (n3 := 0) (by kernel_rfl) (by kernel_rfl) (fun tx => by kernel_rfl) (fun tx tg a b => by kernel_rfl) (fun tx tg a b => by kernel_rfl) (fun tx tg a b => by kernel_rfl) (by kernel_rfl) (by decide +kernel) (fun z e => some_fact (by kernel_rfl) (by decide +kernel) (by decide +kernel) e) (by decide +kernel)
theorem z_6_2 (w : World) : zoneGoal w 6 2 :=
  off_text w (x := Str.ofString "-12:00") (sp := [0, 6, 0, 1, 1, 3, 4, 6]) (lim := 6) (li := 3) (y1 := (some (Str.ofString "-"))) (y2 := Str.ofString "12") (y3 := (some (Str.ofString "00"))) (n2 := 12) (n3 := 0) (by kernel_rfl) (by kernel_rfl) (fun tx => by kernel_rfl) (fun tx tg a b => by kernel_rfl) (fun tx tg a b => by kernel_rfl) (fun tx tg a b => by kernel_rfl) (by kernel_rfl) (by decide +kernel) (fun z e => some_fact (by kernel_rfl) (by decide +kernel) (by decide +kernel) e) (by decide +kernel)
theorem z_7_2 (w : World) : zoneGoal w 7 2 :=
  off_text w (x := Str.ofString "-10:00") (sp := [0, 6, 0, 1, 1, 3, 4, 6]) (lim := 6) (li := 3) (y1 := (some (Str.ofString "-"))) (y2 := Str.ofString "10") (y3 := (some (Str.ofString "00"))) (n2 := 10) (n3 := 0) (by kernel_rfl) (by kernel_rfl) (fun tx => by kernel_rfl) (fun tx tg a b => by kernel_rfl) (fun tx tg a b => by kernel_rfl) (fun tx tg a b => by kernel_rfl) (by kernel_rfl) (by decide +kernel) (fun z e => some_fact (by kernel_rfl) (by decide +kernel) (by decide +kernel) e) (by decide +kernel)
theorem z_8_2 (w : World) : zoneGoal w 8 2 :=
  off_text w (x := Str.ofString "-8:00") (sp := [0, 5, 0, 1, 1, 2, 3, 5]) (lim := 5) (li := 3) (y1 := (some (Str.ofString "-"))) (y2 := Str.ofString "8") (y3 := (some (Str.ofString "00"))) (n2 := 8) (n3 := 0) (by kernel_rfl) (by kernel_rfl) (fun tx => by kernel_rfl) (fun tx tg a b => by kernel_rfl) (fun tx tg a b => by kernel_rfl) (fun tx tg a b => by kernel_rfl) (by kernel_rfl) (by decide +kernel) (fun z e => some_fact (by kernel_rfl) (by decide +kernel) (by decide +kernel) e) (by decide +kernel)
theorem z_9_2 (w : World) : zoneGoal w 9 2 :=
  off_text w (x := Str.ofString "-6:00") (sp := [0, 5, 0, 1, 1, 2, 3, 5]) (lim := 5) (li := 3) (y1 := (some (Str.ofString "-"))) (y2 := Str.ofString "6") (y3 := (some (Str.ofString "00"))) (n2 := 6) (n3 := 0) (by kernel_rfl) (by kernel_rfl) (fun tx => by kernel_rfl) (fun tx tg a b => by kernel_rfl) (fun tx tg a b => by kernel_rfl) (fun tx tg a b => by kernel_rfl) (by kernel_rfl) (by decide +kernel) (fun z e => some_fact (by kernel_rfl) (by decide +kernel) (by decide +kernel) e) (by decide +kernel)
theorem z_10_2 (w : World) : zoneGoal w 10 2 :=
  off_text w (x := Str.ofString "-4:00") (sp := [0, 5, 0, 1, 1, 2, 3, 5]) (lim := 5) (li := 3) (y1 := (some (Str.ofString "-"))) (y2 := Str.ofString "4") (y3 := (some (Str.ofString "00"))) (n2 := 4) (n3 := 0) (by kernel_rfl) (by kernel_rfl) (fun tx => by kernel_rfl) (fun tx tg a b => by kernel_rfl) (fun tx tg a b => by kernel_rfl) (fun tx tg a b => by kernel_rfl) (by kernel_rfl) (by decide +kernel) (fun z e => some_fact (by kernel_rfl) (by decide +kernel) (by decide +kernel) e) (by decide +kernel)
theorem z_11_2 (w : World) : zoneGoal w 11 2 :=
  off_text w (x := Str.ofString "-2:00") (sp := [0, 5, 0, 1, 1, 2, 3, 5]) (lim := 5) (li := 3) (y1 := (some (Str.ofString "-"))) (y2 := Str.ofString "2") (y3 := (some (Str.ofString "00"))) (n2 := 2) (n3 := 0) (by kernel_rfl) (by kernel_rfl) (fun tx => by kernel_rfl) (fun tx tg a b => by kernel_rfl) (fun tx tg a b => by kernel_rfl) (fun tx tg a b => by kernel_rfl) (by kernel_rfl) (by decide +kernel) (fun z e => some_fact (by kernel_rfl) (by decide +kernel) (by decide +kernel) e) (by decide +kernel)
theorem z_0_3 (w : World) : zoneGoal w 0 3 :=
  off_text w (x := Str.ofString "-2360") (sp := [0, 5, 0, 1, 1, 3, 3, 5]) (lim := 5) (li := 3) (y1 := (some (Str.ofString "-"))) (y2 := Str.ofString "23") (y3 := (some (Str.ofString "60"))) (n2 := 23) (n3 := 60) (by kernel_rfl) (by kernel_rfl) (fun tx => by kernel_rfl) (fun tx tg a b => by kernel_rfl) (fun tx tg a b => by kernel_rfl) (fun tx tg a b => by kernel_rfl) (by kernel_rfl) (by decide +kernel) (fun z e => some_fact (by kernel_rfl) (by decide +kernel) (by decide +kernel) e) (by decide +kernel)
theorem z_1_3 (w : World) : zoneGoal w 1 3 :=
  off_text w (x := Str.ofString "-2160") (sp := [0, 5, 0, 1, 1, 3, 3, 5]) (lim := 5) (li := 3) (y1 := (some (Str.ofString "-"))) (y2 := Str.ofString "21") (y3 := (some (Str.ofString "60"))) (n2 := 21) (n3 := 60) (by kernel_rfl) (by kernel_rfl) (fun tx => by kernel_rfl) (fun tx tg a b => by kernel_rfl) (fun tx tg a b => by kernel_rfl) (fun tx tg a b => by kernel_rfl) (by kernel_rfl) (by decide +kernel) (fun z e => some_fact (by kernel_rfl) (by decide +kernel) (by decide +kernel) e) (by decide +kernel)
theorem z_2_3 (w : World) : zoneGoal w 2 3 :=
  off_text w (x := Str.ofString "-1960") (sp := [0, 5, 0, 1, 1, 3, 3, 5]) (lim := 5) (li := 3) (y1 := (some (Str.ofString "-"))) (y2 := Str.ofString "19") (y3 := (some (Str.ofString "60"))) (n2 := 19) (n3 := 60) (by kernel_rfl) (by kernel_rfl) (fun tx => by kernel_rfl) (fun tx tg a b => by kernel_rfl) (fun tx tg a b => by kernel_rfl) (fun tx tg a b => by kernel_rfl) (by kernel_rfl) (by decide +kernel) (fun z e => some_fact (by kernel_rfl) (by decide +kernel) (by decide +kernel) e) (by decide +kernel)
theorem z_3_3 (w : World) : zoneGoal w 3 3 :=
  off_text w (x := Str.ofString "-1760") (sp := [0, 5, 0, 1, 1, 3, 3, 5]) (lim := 5) (li := 3) (y1 := (some (Str.ofString "-"))) (y2 := Str.ofString "17") (y3 := (some (Str.ofString "60"))) (n2 := 17) (n3 := 60) (by kernel_rfl) (by kernel_rfl) (fun tx => by kernel_rfl) (fun tx tg a b => by kernel_rfl) (fun tx tg a b => by kernel_rfl) (fun tx tg a b => by kernel_rfl) (by kernel_rfl) (by decide +kernel) (fun z e => some_fact (by kernel_rfl) (by decide +kernel) (by decide +kernel) e) (by decide +kernel)
theorem z_4_3 (w : World) : zoneGoal w 4 3 :=
  off_text w (x := Str.ofString "-1560") (sp := [0, 5, 0, 1, 1, 3, 3, 5]) (lim := 5) (li := 3) (y1 := (some (Str.ofString "-"))) (y2 := Str.ofString "15") (y3 := (some (Str.ofString "60"))) (n2 := 15) (n3 := 60) (by kernel_rfl) (by kernel_rfl) (fun tx => by kernel_rfl) (fun tx tg a b => by kernel_rfl) (fun tx tg a b => by kernel_rfl) (fun tx tg a b => by kernel_rfl) (by kernel_rfl) (by decide +kernel) (fun z e => some_fact (by kernel_rfl) (by decide +kernel) (by decide +kernel) e) (by decide +kernel)
theorem z_5_3 (w : World) : zoneGoal w 5 3 :=
  off_text w (x := Str.ofString "-1360") (sp := [0, 5, 0, 1, 1, 3, 3, 5]) (lim := 5) (li := 3) (y1 := (some (Str.ofString "-"))) (y2 := Str.ofString "13") (y3 := (some (Str.ofString "60"))) (n2 := 13) (n3 := 60) (by kernel_rfl) (by kernel_rfl) (fun tx => by kernel_rfl) (fun tx tg a b => by kernel_rfl) (fun tx tg a b => by kernel_rfl) (fun tx tg a b => by kernel_rfl) (by kernel_rfl) (by decide +kernel) (fun z e => some_fact (by kernel_rfl) (by decide +kernel) (by decide +kernel) e) (by decide +kernel)
theorem z_6_3 (w : World) : zoneGoal w 6 3 :=
  off_text w (x := Str.ofString "-1160") (sp := [0, 5, 0, 1, 1, 3, 3, 5]) (lim := 5) (li := 3) (y1 := (some (Str.ofString "-"))) (y2 := Str.ofString "11") (y3 := (some (Str.ofString "60"))) (n2 := 11) (n3 := 60) (by kernel_rfl) (by kernel_rfl) (fun tx => by kernel_rfl) (fun tx tg a b => by kernel_rfl) (fun tx tg a b => by kernel_rfl) (fun tx tg a b => by kernel_rfl) (by kernel_rfl) (by decide +kernel) (fun z e => some_fact (by kernel_rfl) (by decide +kernel) (by decide +kernel) e) (by decide +kernel)
theorem z_7_3 (w : World) : zoneGoal w 7 3 :=
  off_text w (x := Str.ofString "-0960") (sp := [0, 5, 0, 1, 1, 3, 3, 5]) (lim := 5) (li := 3) (y1 := (some (Str.ofString "-"))) (y2 := Str.ofString "09") (y3 := (some (Str.ofString "60"))) (n2 := 9) (n3 := 60) (by kernel_rfl) (by kernel_rfl) (fun tx => by kernel_rfl) (fun tx tg a b => by kernel_rfl) (fun tx tg a b => by kernel_rfl) (fun tx tg a b => by kernel_rfl) (by kernel_rfl) (by decide +kernel) (fun z e => some_fact (by kernel_rfl) (by decide +kernel) (by decide +kernel) e) (by decide +kernel)
theorem z_8_3 (w : World) : zoneGoal w 8 3 :=
  off_text w (x := Str.ofString "-0760") (sp := [0, 5, 0, 1, 1, 3, 3, 5]) (lim := 5) (li := 3) (y1 := (some (Str.ofString "-"))) (y2 := Str.ofString "07") (y3 := (some (Str.ofString "60"))) (n2 := 7) (n3 := 60) (by kernel_rfl) (by kernel_rfl) (fun tx => by kernel_rfl) (fun tx tg a b => by kernel_rfl) (fun tx tg a b => by kernel_rfl) (fun tx tg a b => by kernel_rfl) (by kernel_rfl) (by decide +kernel) (fun z e => some_fact (by kernel_rfl) (by decide +kernel) (by decide +kernel) e) (by decide +kernel)
theorem z_9_3 (w : World) : zoneGoal w 9 3 :=
  off_text w (x := Str.ofString "-0560") (sp := [0, 5, 0, 1, 1, 3, 3, 5]) (lim := 5) (li := 3) (y1 := (some (Str.ofString "-"))) (y2 := Str.ofString "05") (y3 := (some (Str.ofString "60"))) (n2 := 5) (n3 := 60) (by kernel_rfl) (by kernel_rfl) (fun tx => by kernel_rfl) (fun tx tg a b => by kernel_rfl) (fun tx tg a b => by kernel_rfl) (fun tx tg a b => by kernel_rfl) (by kernel_rfl) (by decide +kernel) (fun z e => some_fact (by kernel_rfl) (by decide +kernel) (by decide +kernel) e) (by decide +kernel)
theorem z_10_3 (w : World) : zoneGoal w 10 3 :=
  off_text w (x := Str.ofString "-0360") (sp := [0, 5, 0, 1, 1, 3, 3, 5]) (lim := 5) (li := 3) (y1 := (some (Str.ofString "-"))) (y2 := Str.ofString "03") (y3 := (some (Str.ofString "60"))) (n2 := 3) (n3 := 60) (by kernel_rfl) (by kernel_rfl) (fun tx => by kernel_rfl) (fun tx tg a b => by kernel_rfl) (fun tx tg a b => by kernel_rfl) (fun tx tg a b => by kernel_rfl) (by kernel_rfl) (by decide +kernel) (fun z e => some_fact (by kernel_rfl) (by decide +kernel) (by decide +kernel) e) (by decide +kernel)
theorem z_11_3 (w : World) : zoneGoal w 11 3 :=
  off_text w (x := Str.ofString "-0160") (sp := [0, 5, 0, 1, 1, 3, 3, 5]) (lim := 5) (li := 3) (y1 := (some (Str.ofString "-"))) (y2 := Str.ofString "01") (y3 := (some (Str.ofString "60"))) (n2 := 1) (n3 := 60) (by kernel_rfl) (by kernel_rfl) (fun tx => by kernel_rfl) (fun tx tg a b => by kernel_rfl) (fun tx tg a b => by kernel_rfl) (fun tx tg a b => by kernel_rfl) (by kernel_rfl) (by decide +kernel) (fun z e => some_fact (by kernel_rfl) (by decide +kernel) (by decide +kernel) e) (by decide +kernel)
theorem zone_all (w : World) (p d : Int) (h0 : 0 ≤ p) (h1 : p < 12) (h2 : 0 ≤ d) (h3 : d < 4) : zoneGoal w p d := by
  have hp : p = 0 ∨ p = 1 ∨ p = 2 ∨ p = 3 ∨ p = 4 ∨ p = 5 ∨ p = 6 ∨ p = 7 ∨ p = 8 ∨ p = 9 ∨ p = 10 ∨ p = 11 := by omega
  have hd : d = 0 ∨ d = 1 ∨ d = 2 ∨ d = 3 := by omega
  rcases hd with rfl | rfl | rfl | rfl
  · rcases hp with rfl | rfl | rfl | rfl | rfl | rfl | rfl | rfl | rfl | rfl | rfl | rfl
    · exact z_0_0 w
    · exact z_1_0 w
    · exact z_2_0 w
    · exact z_3_0 w
    · exact z_4_0 w
    · exact z_5_0 w
    · exact z_6_0 w
    · exact z_7_0 w
    · exact z_8_0 w
    · exact z_9_0 w
    · exact z_10_0 w
    · exact z_11_0 w
  · rcases hp with rfl | rfl | rfl | rfl | rfl | rfl | rfl | rfl | rfl | rfl | rfl | rfl
    · exact z_0_1 w
    · exact z_1_1 w
    · exact z_2_1 w
    · exact z_3_1 w
    · exact z_4_1 w
    · exact z_5_1 w
    · exact z_6_1 w
    · exact z_7_1 w
    · exact z_8_1 w
    · exact z_9_1 w
    · exact z_10_1 w
    · exact z_11_1 w
  · rcases hp with rfl | rfl | rfl | rfl | rfl | rfl | rfl | rfl | rfl | rfl | rfl | rfl
    · exact z_0_2 w
    · exact z_1_2 w
    · exact z_2_2 w
    · exact z_3_2 w
    · exact z_4_2 w
    · exact z_5_2 w
    · exact z_6_2 w
    · exact z_7_2 w
    · exact z_8_2 w
    · exact z_9_2 w
    · exact z_10_2 w
    · exact z_11_2 w
  · rcases hp with rfl | rfl | rfl | rfl | rfl | rfl | rfl | rfl | rfl | rfl | rfl | rfl
    · exact z_0_3 w
    · exact z_1_3 w
    · exact z_2_3 w
    · exact z_3_3 w
    · exact z_4_3 w
    · exact z_5_3 w
    · exact z_6_3 w
    · exact z_7_3 w
    · exact z_8_3 w
    · exact z_9_3 w
    · exact z_10_3 w
    · exact z_11_3 w
end Mine

namespace Mine
local macro_rules | `(tactic| walk_at "exec While Compare") => `(tactic| (k_dflt (k_extra "my while")))
local macro_rules | `(tactic| walk_at "call ref") => `(tactic| (k_dflt (k_extra "my call")))
local macro_rules | `(tactic| ktr_room) => `(tactic| (show (_ : Nat) < _; (try dsimp only [Around.deeper, Around.in1]); (simp only [rec_is] at *); omega))
local macro_rules | `(tactic| ktr_units) => `(tactic| (show (_ : Nat) < _; (try dsimp only [Around.deeper, Around.in1]); (have hcL9 := cLine_is); omega))
local macro_rules | `(tactic| walk_at "LeaveK") => `(tactic| (k_dflt (k_extra "my leave")))
local macro_rules | `(tactic| walk_at "callWith") => `(tactic| ((with_reducible show wpAny _ _ (callWith _ (Value.builtin _) [Value.ref _] _ _) _ _ _); k_dflt (refine callWith_method1 ?_)))
abbrev tupF (p : UInt64 × UInt64 × UInt64) (ta tb tc : Tok) : Obj := { cls := .type "tuple", data := .seq #[Value.float p.1 ta, Value.float p.2.1 tb, Value.float p.2.2 tc] }
abbrev h6 (h : UInt64) : UInt64 := Float64.mul h 4618441417868443648
abbrev hInt (h : UInt64) : Int := Flt.toInt Float64.truncOf (h6 h)
abbrev hFrac (h : UInt64) : UInt64 := Float64.sub (h6 h) (Float64.ofInt (hInt h))
abbrev hP (s v : UInt64) : UInt64 := Float64.mul v (Float64.sub 4607182418800017408 s)
abbrev hQ (h s v : UInt64) : UInt64 := Float64.mul v (Float64.sub 4607182418800017408 (Float64.mul s (hFrac h)))
abbrev hT (h s v : UInt64) : UInt64 := Float64.mul v (Float64.sub 4607182418800017408 (Float64.mul s (Float64.sub 4607182418800017408 (hFrac h))))
def hsvOf (h s v : UInt64) : UInt64 × UInt64 × UInt64 :=
  if (hInt h).fmod 6 = 0 then (v, hT h s v, hP s v) else if (hInt h).fmod 6 = 1 then (hQ h s v, v, hP s v) else if (hInt h).fmod 6 = 2 then (hP s v, v, hT h s v)
  else if (hInt h).fmod 6 = 3 then (hP s v, hQ h s v, v) else if (hInt h).fmod 6 = 4 then (hT h s v, hP s v, v) else (v, hP s v, hQ h s v)
section
variable {h s v : UInt64}
theorem hv0 (a : (hInt h).fmod 6 = 0) : (v, hT h s v, hP s v) = hsvOf h s v := by unfold hsvOf; rw [if_pos a]
theorem hv1 (b : (hInt h).fmod 6 ≠ 0) (a : (hInt h).fmod 6 = 1) : (hQ h s v, v, hP s v) = hsvOf h s v := by unfold hsvOf; rw [if_neg b, if_pos a]
theorem hv2 (c : (hInt h).fmod 6 ≠ 0) (b : (hInt h).fmod 6 ≠ 1) (a : (hInt h).fmod 6 = 2) : (hP s v, v, hT h s v) = hsvOf h s v := by unfold hsvOf; rw [if_neg c, if_neg b, if_pos a]
theorem hv3 (d : (hInt h).fmod 6 ≠ 0) (c : (hInt h).fmod 6 ≠ 1) (b : (hInt h).fmod 6 ≠ 2) (a : (hInt h).fmod 6 = 3) : (hP s v, hQ h s v, v) = hsvOf h s v := by unfold hsvOf; rw [if_neg d, if_neg c, if_neg b, if_pos a]
theorem hv4 (e : (hInt h).fmod 6 ≠ 0) (d : (hInt h).fmod 6 ≠ 1) (c : (hInt h).fmod 6 ≠ 2) (b : (hInt h).fmod 6 ≠ 3) (a : (hInt h).fmod 6 = 4) : (hT h s v, hP s v, v) = hsvOf h s v := by unfold hsvOf; rw [if_neg e, if_neg d, if_neg c, if_neg b, if_pos a]
theorem hv5 (e : (hInt h).fmod 6 ≠ 0) (d : (hInt h).fmod 6 ≠ 1) (c : (hInt h).fmod 6 ≠ 2) (b : (hInt h).fmod 6 ≠ 3) (a : (hInt h).fmod 6 ≠ 4) : (v, hP s v, hQ h s v) = hsvOf h s v := by unfold hsvOf; rw [if_neg e, if_neg d, if_neg c, if_neg b, if_neg a]
end
theorem no6 {i : Int} (a : i.fmod 6 ≠ 0) (b : i.fmod 6 ≠ 1) (c : i.fmod 6 ≠ 2) (d : i.fmod 6 ≠ 3) (e : i.fmod 6 ≠ 4) (f : i.fmod 6 ≠ 5) : False := by
  have q : i.fmod 6 = i % 6 := by rw [Int.fmod_eq_emod_of_nonneg]; omega
  rw [q] at a b c d e f
  omega
theorem hsv_walk (w : World) {h s v : UInt64} {th ts tv : Tok} {news : Led} (hs : (Float64.cmp s 0 == some Ordering.eq) = false) (hn : Float64.isNaN (h6 h) = false) (hi : Float64.isInf (h6 h) = false) (hz : (hInt h).natAbs < 2 ^ 1024 - 2 ^ 970) :
   Calls w 76 [.float h th, .float s ts, .float v tv] 5 60 news (fun v' news' => ∃ r ta tb tc, v' = .ref r ∧ news' = (r, tupF (hsvOf h s v) ta tb tc) :: news ∧ (∀ p ∈ news, p.1 ≠ r)) := by
  unfold Calls
  intro mean mg mb dp un gd cn cs a ccd cl outer A₀ base h₀ L m S Q E
  k_fill
  intro K B F N T hk hd hu hret
  k_with "my leave" => (first | (exfalso; exact absurd ‹(Float64.cmp s 0 == some Ordering.eq) = true› (by rw [hs]; exact Bool.false_ne_true)) | (exfalso; with_reducible exact no6 (by assumption) (by assumption) (by assumption) (by assumption) (by assumption) (by assumption)) | ((with_reducible first | rw [← hv0 (h := h) (s := s) (v := v) (by assumption)] at hret | rw [← hv1 (h := h) (s := s) (v := v) (by assumption) (by assumption)] at hret | rw [← hv2 (h := h) (s := s) (v := v) (by assumption) (by assumption) (by assumption)] at hret | rw [← hv3 (h := h) (s := s) (v := v) (by assumption) (by assumption) (by assumption) (by assumption)] at hret | rw [← hv4 (h := h) (s := s) (v := v) (by assumption) (by assumption) (by assumption) (by assumption) (by assumption)] at hret | rw [← hv5 (h := h) (s := s) (v := v) (by assumption) (by assumption) (by assumption) (by assumption) (by assumption)] at hret); refine' leaveK_keep (by assumption) (by assumption) kG' ?_; intro kF kN kH kO; exact hret _ _ _ _ ⟨_, _, _, _, rfl, rfl, led_off N (kO (_, _) (by k_mem))⟩ kF (led_cons kN (by k_mem) (led_kept N kH))))
  refine wpAny_call ?_
  k_dflt (refine' code_defG (binds := [(Str.ofString "h", Value.float h th), (Str.ofString "s", Value.float s ts), (Str.ofString "v", Value.float v tv)]) ?k1 ?k2 ?k3 ?k4 ?k5 ?kA ?kF ?kK ?k6 ?k7 ?k8 ?k9 ?kB ?_ ?c2 ?c3 ?c4 ?c5; (case kA => exact rfl); (case kF => exact rfl); (case kK => assumption); (case k1 => k_asm); (case k2 => k_asm); (case k3 => k_asm); (case k4 => exact News.nil); (case k5 => k_asm); (case k6 => k_is); (case k7 => k_is); (case k8 => ktr_room); (case k9 => (refine' kp_binds ?kx ?ke; (case kx => k_in); (case ke => exact fun _ => rfl))); (case c5 => decide); (case kB => exact locs rfl); (case c2 => exact rfl); (case c3 => exact rfl); (case c4 => exact rfl); k_whole; intro g' L' h' FG' F' N' B' X' T' kG'; (try dsimp only); (try k_lift B'); (try k_fold))
  k_steps
  all_goals (first | (exact absurd ‹Float64.isNaN _ = true› (by rw [show Float64.isNaN _ = false from hn]; exact Bool.false_ne_true)) | (exact absurd ‹Float64.isInf _ = true› (by rw [show Float64.isInf _ = false from hi]; exact Bool.false_ne_true)) | (exact absurd hz (Nat.not_lt.mpr ‹2 ^ 1024 - 2 ^ 970 ≤ _›)) | trace_state)
end Mine

namespace Mine
local macro_rules | `(tactic| walk_at "exec While Compare") => `(tactic| (k_dflt (k_extra "my while")))
local macro_rules | `(tactic| walk_at "call ref") => `(tactic| (k_dflt (k_extra "my call")))
local macro_rules | `(tactic| ktr_room) => `(tactic| (show (_ : Nat) < _; (try dsimp only [Around.deeper, Around.in1]); (simp only [rec_is] at *); omega))
local macro_rules | `(tactic| ktr_units) => `(tactic| (show (_ : Nat) < _; (try dsimp only [Around.deeper, Around.in1]); (have hcL9 := cLine_is); omega))
local macro_rules | `(tactic| walk_at "LeaveK") => `(tactic| (k_dflt (k_extra "my leave")))
local macro_rules | `(tactic| walk_at "callWith") => `(tactic| ((with_reducible show wpAny _ _ (callWith _ (Value.builtin _) [Value.ref _] _ _) _ _ _); k_dflt (refine callWith_method1 ?_)))
abbrev yY (r g b : UInt64) : UInt64 := Float64.add (Float64.add (Float64.mul 4599075939470750515 r) (Float64.mul 4603489467105573601 g)) (Float64.mul 4592590756007337001 b)
abbrev yI (r g b : UInt64) : UInt64 := Float64.sub (Float64.mul 4604840546993784750 (Float64.sub r (yY r g b))) (Float64.mul 4598535507515466056 (Float64.sub b (yY r g b)))
abbrev yQ (r g b : UInt64) : UInt64 := Float64.add (Float64.mul 4602318531202457272 (Float64.sub r (yY r g b))) (Float64.mul 4601057523306793533 (Float64.sub b (yY r g b)))
theorem yiq_walk (w : World) {r g b : UInt64} {tr tg tb : Tok} {news : Led} :
   Calls w 69 [.float r tr, .float g tg, .float b tb] 5 60 news (fun v' news' => ∃ d ta tb tc, v' = .ref d ∧ news' = (d, tupF (yY r g b, yI r g b, yQ r g b) ta tb tc) :: news ∧ (∀ p ∈ news, p.1 ≠ d)) := by
  unfold Calls
  intro mean mg mb dp un gd cn cs a ccd cl outer A₀ base h₀ L m s Q E
  k_fill
  intro K B F N T hk hd hu hret
  k_with "my leave" => (refine' leaveK_keep (by assumption) (by assumption) kG' ?_; intro kF kN kH kO; exact hret _ _ _ _ ⟨_, _, _, _, rfl, rfl, led_off N (kO (_, _) (by k_mem))⟩ kF (led_cons kN (by k_mem) (led_kept N kH)))
  refine wpAny_call ?_
  k_dflt (refine' code_defG (binds := [(Str.ofString "r", Value.float r tr), (Str.ofString "g", Value.float g tg), (Str.ofString "b", Value.float b tb)]) ?k1 ?k2 ?k3 ?k4 ?k5 ?kA ?kF ?kK ?k6 ?k7 ?k8 ?k9 ?kB ?_ ?c2 ?c3 ?c4 ?c5; (case kA => exact rfl); (case kF => exact rfl); (case kK => assumption); (case k1 => k_asm); (case k2 => k_asm); (case k3 => k_asm); (case k4 => exact News.nil); (case k5 => k_asm); (case k6 => k_is); (case k7 => k_is); (case k8 => ktr_room); (case k9 => (refine' kp_binds ?kx ?ke; (case kx => k_in); (case ke => exact fun _ => rfl))); (case c5 => decide); (case kB => exact locs rfl); (case c2 => exact rfl); (case c3 => exact rfl); (case c4 => exact rfl); k_whole; intro g' L' h' FG' F' N' B' X' T' kG'; (try dsimp only); (try k_lift B'); (try k_fold))
  k_steps
  all_goals trace_state
end Mine

namespace Mine
local macro_rules | `(tactic| walk_at "exec While Compare") => `(tactic| (k_dflt (k_extra "my while")))
local macro_rules | `(tactic| walk_at "call ref") => `(tactic| (k_dflt (k_extra "my call")))
local macro_rules | `(tactic| ktr_room) => `(tactic| (show (_ : Nat) < _; (try dsimp only [Around.deeper, Around.in1]); (simp only [rec_is] at *); omega))
local macro_rules | `(tactic| ktr_units) => `(tactic| (show (_ : Nat) < _; (try dsimp only [Around.deeper, Around.in1]); (have hcL9 := cLine_is); omega))
local macro_rules | `(tactic| walk_at "LeaveK") => `(tactic| (k_dflt (k_extra "my leave")))
local macro_rules | `(tactic| walk_at "callWith") => `(tactic| ((with_reducible show wpAny _ _ (callWith _ (Value.builtin _) [Value.ref _] _ _) _ _ _); k_dflt (refine callWith_method1 ?_)))
open LCg in
/-- a comprehension's source that is a tuple of the ledger -/
def TupSrc (w : World) (A : Around) (h₀ : Heap) (L : Addr) (m : PySem.Str → Option Value) (env : Env) (elt : Expr) (x : PySem.Str) (scope : Scope) (cl : List (PySem.Str × Addr)) (Fin : Shared → List Value → Led → Prop) (xv : Value) (s₁ : Shared) : Prop :=
  ∃ ax its k news, xv = .ref ax ∧ A.handled = none ∧ Fr h₀ L s₁.heap m ∧ News h₀ L s₁.heap news ∧ (ax, ({ cls := .type "tuple", data := .seq its k } : Obj)) ∈ news ∧ its.size ≤ sizeLine ∧
    ∀ g, CompRest PySem.Challenge.rw_xg0022_01.row.prog w A h₀ L m env elt x scope cl { s₁ with heap := g } (fun nw => (ax, ({ cls := .type "tuple", data := .seq its k } : Obj)) ∈ nw) (fun i v => its[i]? = some v) (Fin { s₁ with heap := g }) its.size 0 [] news
open LCg in
theorem comp_tup {w : World} {A : Around} {E : Value → Shared → Prop} {s : Shared} {h₀ : Heap} {L : Addr} {m : PySem.Str → Option Value} {env : Env} {elt iter : Expr} {x : PySem.Str} {px : Pos} {scope : Scope} {cl : List (PySem.Str × Addr)} {pos : Pos} {Q : Value → Shared → Prop}
    (F₀ : Fr h₀ L s.heap m) (hclos : closureFor scope env = pure cl) (hcell : ∀ y ∈ scope.names, y.2 ≠ .cell) (hkind : scope.kind = .function)
    (hnames : ∀ y ∈ scope.names, y.2 = .local → scope.names.lookup y.1 = some .local) (hx : scope.names.lookup x = some .local)
    (h : wpAny (model PySem.Challenge.rw_xg0022_01.row.prog w) A (eval iter env) (TupSrc w A h₀ L m env elt x scope cl (fun s₂ => FinE h₀ L m s₂ Q)) E s)
    (hs : ∀ x, foldedSetIterable iter env x = pure x := by intro _; rfl) :
    wpAny (model PySem.Challenge.rw_xg0022_01.row.prog w) A (eval (.ListComp elt [⟨.Name x px, iter, [], 0⟩] scope pos) env) Q E s := by
  rw [eval_ListComp]
  refine wpAny_comprehension_free (use := none) rfl hs hclos hkind hnames (wpAny_mono h (fun xv s₁ h₁ => ?_) fun _ _ e => e)
  obtain ⟨ax, its, k, news, rfl, hh, F, N, S, hsz, R⟩ := h₁
  have hl : s₁.heap.IsTuple ax its := ⟨_, (N _ S).1, rfl, k, rfl⟩
  have hlt : ax < s₁.heap.objs.size := Heap.lt_size (N _ S).1
  refine wpAny_pyIter_tuple hl ?_
  have up : ∀ b o, s₁.heap.get? b = some o → (s₁.heap.push { cls := .type "tuple_iterator", data := .fields #[.ref ax, .int 0 0] }).get? b = some o := fun b o e => Heap.get?_push_of_some _ e
  refine block_U (Walks.tuple hh s₁.heap.objs.size ax (Nat.ne_of_lt hlt) its) hsz (fun i h st => by obtain ⟨o, e, _⟩ := st.1; exact ⟨o, e⟩) ?_ hcell hkind hx ⟨⟨_, Heap.get?_push_size _ rfl, rfl, rfl⟩, ⟨_, up _ _ (N _ S).1, rfl, k, rfl⟩⟩ (fun b hb => ?_)
    (F.keeps up) (N.grown up) (Nat.ne_of_lt F.ns.lt) (next_is_new F) (fun p hp => Nat.ne_of_lt (Heap.lt_size (N p hp).1)) S (R _) ?_
  · intro i h h' o nw st e e' kk NN SS
    refine ⟨?_, ⟨_, (NN _ SS).1, rfl, k, rfl⟩⟩
    obtain ⟨o', q, r⟩ := st.1
    rw [e] at q; cases q
    exact ⟨o, e', r⟩
  · show b < (s₁.heap.push _).objs.size
    rw [Heap.size_push]
    rcases List.mem_cons.mp hb with rfl | hb
    · exact Nat.lt_succ_self _
    · rw [List.mem_singleton.mp hb]; exact Nat.lt_succ_of_lt hlt
  · intro D C h tk m' ys news' F' N' o1 hn hC₀ hD₀ hCL hDL hCD offC fin
    refine ⟨m', hn, fun h'' hs'' => fin D h'' tk (F'.change hs'' hCL hC₀) (fun p hp => ?_) o1⟩
    refine ⟨hs''.extBut _ _ ?_ (N' p hp).1, (N' p hp).2⟩
    rcases List.mem_cons.mp hp with rfl | hp
    · exact Ne.symm hCD
    · exact offC p hp
local macro_rules | `(tactic| walk_at "eval ListComp") => `(tactic| (k_here; k_dflt (refine comp_tup (F₀ := by k_asm) (by rfl) (by decide) (by rfl) (by decide) (by rfl) ?_)))
local macro_rules | `(tactic| walk_at "TupSrc") => `(tactic| (k_here; k_dflt (refine ⟨_, _, _, _, rfl, by rfl, by k_asm, by k_asm, by k_mem, Nat.le_of_ble_eq_true rfl, ?_⟩; intro g'; lcg_lit)))
abbrev pH (M : Int) : UInt64 := Float64.ofFrac (decide (M < 0) != decide ((86400 : Int) < 0)) M.natAbs (Int.natAbs 86400)
abbrev pS (M : Int) : UInt64 := Float64.ofFrac (decide (15 + (M.fdiv 7200).fmod 2 < 0) != decide ((16 : Int) < 0)) (15 + (M.fdiv 7200).fmod 2).natAbs (Int.natAbs 16)
abbrev pRGB (M : Int) : UInt64 × UInt64 × UInt64 := hsvOf (pH M) (pS M) 4607182418800017408
abbrev scale (x : UInt64) : UInt64 := Float64.add (Float64.mul x (Float64.ofInt 160000)) 4696837150979653632
abbrev cellF (x : UInt64) : Int := Flt.toInt Float64.truncOf (scale x) - 1000000
abbrev fY (M : Int) : UInt64 := yY (pRGB M).1 (pRGB M).2.1 (pRGB M).2.2
abbrev fI (M : Int) : UInt64 := yI (pRGB M).1 (pRGB M).2.1 (pRGB M).2.2
abbrev fQ (M : Int) : UInt64 := yQ (pRGB M).1 (pRGB M).2.1 (pRGB M).2.2
/-- nothing on the road from the moment to the point is no number -/
structure PtOK (M : Int) : Prop where
  h : Float64.isInf (pH M) = false
  s : Float64.isInf (pS M) = false
  s0 : (Float64.cmp (pS M) 0 == some Ordering.eq) = false
  n6 : Float64.isNaN (h6 (pH M)) = false
  i6 : Float64.isInf (h6 (pH M)) = false
  z6 : (hInt (pH M)).natAbs < 2 ^ 1024 - 2 ^ 970
  ny : Float64.isNaN (scale (fY M)) = false
  iy : Float64.isInf (scale (fY M)) = false
  ni : Float64.isNaN (scale (fI M)) = false
  ii : Float64.isInf (scale (fI M)) = false
  nq : Float64.isNaN (scale (fQ M)) = false
  iq : Float64.isInf (scale (fQ M)) = false
local macro_rules | `(tactic| lcg_src) => `(tactic| k_mem)
theorem tf {b : Bool} {p : Prop} (h : b = true) (h' : b = false) : p := by rw [h] at h'; cases h'
theorem point_walk (w : World) {M : Int} {tm : Tok} {news : Led} (o : PtOK M) :
   Calls w 88 [.int M tm] 8 100 news (fun v news' => ∃ r ta tb tc n, v = .ref r ∧ news' = (r, ptObj ⟨cellF (fY M), cellF (fI M), cellF (fQ M)⟩ ta tb tc n) :: news ∧ (∀ p ∈ news, p.1 ≠ r)) := by
  unfold Calls
  intro mean mg mb dp un gd cn cs a ccd cl outer A₀ base h₀ L m s Q E
  k_fill
  intro K B F N T hk hd hu hret
  k_with "my call" => (first | (refine' Calls.use (hsv_walk w o.s0 o.n6 o.i6 o.z6) ?k1 ?k2 ?k3 ?k4 ?k5 ?k6 ?k7 ?k8 ?_; (case k1 => k_asm); (case k2 => k_asm); (case k3 => k_asm); (case k4 => k_asm); (case k5 => k_asm); (case k6 => first | exact rfl | assumption); (case k7 => ktr_room); (case k8 => ktr_units); intro v9 n9 h9 t9 r9 F9 N9; obtain ⟨d9, ta9, tb9, tc9, rfl, rfl, o9⟩ := r9; (try dsimp only); (try k_fold)) | (refine' Calls.use (yiq_walk w) ?k1 ?k2 ?k3 ?k4 ?k5 ?k6 ?k7 ?k8 ?_; (case k1 => k_asm); (case k2 => k_asm); (case k3 => k_asm); (case k4 => k_asm); (case k5 => k_asm); (case k6 => first | exact rfl | assumption); (case k7 => ktr_room); (case k8 => ktr_units); intro v9 n9 h9 t9 r9 F9 N9; obtain ⟨d9, ta9, tb9, tc9, rfl, rfl, o9⟩ := r9; (try dsimp only); (try k_fold)))
  k_with "my leave" => (refine' leaveK_keep (by assumption) (by assumption) kG' ?_; intro kF kN kH kO; exact hret _ _ _ _ ⟨_, _, _, _, _, rfl, rfl, led_off N (kO (_, _) (by k_mem))⟩ kF (led_cons kN (by k_mem) (led_kept N kH)))
  refine wpAny_call ?_
  k_dflt (refine' code_defG (binds := [(Str.ofString "moment", Value.int M tm)]) ?k1 ?k2 ?k3 ?k4 ?k5 ?kA ?kF ?kK ?k6 ?k7 ?k8 ?k9 ?kB ?_ ?c2 ?c3 ?c4 ?c5; (case kA => exact rfl); (case kF => exact rfl); (case kK => assumption); (case k1 => k_asm); (case k2 => k_asm); (case k3 => k_asm); (case k4 => exact News.nil); (case k5 => k_asm); (case k6 => k_is); (case k7 => k_is); (case k8 => ktr_room); (case k9 => (refine' kp_binds ?kx ?ke; (case kx => k_in); (case ke => exact fun _ => rfl))); (case c5 => decide); (case kB => exact locs rfl); (case c2 => exact rfl); (case c3 => exact rfl); (case c4 => exact rfl); k_whole; intro g' L' h' FG' F' N' B' X' T' kG'; (try dsimp only); (try k_lift B'); (try k_fold))
  k_steps
  all_goals (first | exact tf (by assumption) o.h | exact tf (by assumption) o.s | exact tf (by assumption) o.ny | exact tf (by assumption) o.iy | exact tf (by assumption) o.ni | exact tf (by assumption) o.ii | exact tf (by assumption) o.nq | exact tf (by assumption) o.iq | trace_state)
end Mine

namespace Mine
local macro_rules | `(tactic| walk_at "exec While Compare") => `(tactic| (k_dflt (k_extra "my while")))
local macro_rules | `(tactic| walk_at "call ref") => `(tactic| (k_dflt (k_extra "my call")))
local macro_rules | `(tactic| ktr_room) => `(tactic| (show (_ : Nat) < _; (try dsimp only [Around.deeper, Around.in1]); (simp only [rec_is] at *); omega))
local macro_rules | `(tactic| ktr_units) => `(tactic| (show (_ : Nat) < _; (try dsimp only [Around.deeper, Around.in1]); (have hcL9 := cLine_is); omega))
def ptFacts (M p : Int) : Bool :=
  !Float64.isInf (pH M) && !Float64.isInf (pS M) && !(Float64.cmp (pS M) 0 == some Ordering.eq) && !Float64.isNaN (h6 (pH M)) && !Float64.isInf (h6 (pH M)) && decide ((hInt (pH M)).natAbs < 2 ^ 1024 - 2 ^ 970)
    && !Float64.isNaN (scale (fY M)) && !Float64.isInf (scale (fY M)) && !Float64.isNaN (scale (fI M)) && !Float64.isInf (scale (fI M)) && !Float64.isNaN (scale (fQ M)) && !Float64.isInf (scale (fQ M))
    && decide (cellF (fY M) = (duePt p).a) && decide (cellF (fI M) = (duePt p).b) && decide (cellF (fQ M) = (duePt p).c)
    && decide (-1000000 ≤ (duePt p).b ∧ (duePt p).b ≤ 1000000) && decide (-1000000 ≤ (duePt p).c ∧ (duePt p).c ≤ 1000000)
theorem pt_of {M p : Int} (h : ptFacts M p = true) : PtOK M ∧ (⟨cellF (fY M), cellF (fI M), cellF (fQ M)⟩ : Pt) = duePt p ∧ (duePt p).ok := by
  unfold ptFacts at h
  simp only [Bool.and_eq_true, Bool.not_eq_true', decide_eq_true_eq] at h
  obtain ⟨⟨⟨⟨⟨⟨⟨⟨⟨⟨⟨⟨⟨⟨⟨⟨a1, a2⟩, a3⟩, a4⟩, a5⟩, a6⟩, a7⟩, a8⟩, a9⟩, a10⟩, a11⟩, a12⟩, b1⟩, b2⟩, b3⟩, c1⟩, c2⟩ := h
  refine ⟨⟨a1, a2, a3, a4, a5, a6, a7, a8, a9, a10, a11, a12⟩, ?_, c1, c2⟩
  rw [b1, b2, b3]
theorem pf_0 : ptFacts 0 0 = true := by decide +kernel
theorem pf_1 : ptFacts 7200 1 = true := by decide +kernel
theorem pf_2 : ptFacts 14400 2 = true := by decide +kernel
theorem pf_3 : ptFacts 21600 3 = true := by decide +kernel
theorem pf_4 : ptFacts 28800 4 = true := by decide +kernel
theorem pf_5 : ptFacts 36000 5 = true := by decide +kernel
theorem pf_6 : ptFacts 43200 6 = true := by decide +kernel
theorem pf_7 : ptFacts 50400 7 = true := by decide +kernel
theorem pf_8 : ptFacts 57600 8 = true := by decide +kernel
theorem pf_9 : ptFacts 64800 9 = true := by decide +kernel
theorem pf_10 : ptFacts 72000 10 = true := by decide +kernel
theorem pf_11 : ptFacts 79200 11 = true := by decide +kernel
theorem point_all (p : Int) (h0 : 0 ≤ p) (h1 : p < 12) : PtOK (7200 * p) ∧ (⟨cellF (fY (7200 * p)), cellF (fI (7200 * p)), cellF (fQ (7200 * p))⟩ : Pt) = duePt p ∧ (duePt p).ok := by
  have hp : p = 0 ∨ p = 1 ∨ p = 2 ∨ p = 3 ∨ p = 4 ∨ p = 5 ∨ p = 6 ∨ p = 7 ∨ p = 8 ∨ p = 9 ∨ p = 10 ∨ p = 11 := by omega
  rcases hp with rfl | rfl | rfl | rfl | rfl | rfl | rfl | rfl | rfl | rfl | rfl | rfl
  · exact pt_of pf_0
  · exact pt_of pf_1
  · exact pt_of pf_2
  · exact pt_of pf_3
  · exact pt_of pf_4
  · exact pt_of pf_5
  · exact pt_of pf_6
  · exact pt_of pf_7
  · exact pt_of pf_8
  · exact pt_of pf_9
  · exact pt_of pf_10
  · exact pt_of pf_11
theorem point_ok (w : World) {p : Int} {tm : Tok} {news : Led} (h0 : 0 ≤ p) (h1 : p < 12) :
   Calls w 88 [.int (7200 * p) tm] 8 100 news (fun v news' => ∃ r ta tb tc n, v = .ref r ∧ news' = (r, ptObj (duePt p) ta tb tc n) :: news ∧ (∀ p ∈ news, p.1 ≠ r)) := by
  obtain ⟨o, e, _⟩ := point_all p h0 h1
  have := point_walk w (tm := tm) (news := news) o
  rw [e] at this
  exact this
end Mine

namespace Mine
local macro_rules | `(tactic| walk_at "exec While Compare") => `(tactic| (k_dflt (k_extra "my while")))
local macro_rules | `(tactic| walk_at "call ref") => `(tactic| (k_dflt (k_extra "my call")))
local macro_rules | `(tactic| ktr_room) => `(tactic| (show (_ : Nat) < _; (try dsimp only [Around.deeper, Around.in1]); (simp only [rec_is] at *); omega))
local macro_rules | `(tactic| ktr_units) => `(tactic| (show (_ : Nat) < _; (try dsimp only [Around.deeper, Around.in1]); (have hcL9 := cLine_is); omega))
local macro_rules | `(tactic| walk_at "callWith") => `(tactic| ((with_reducible show wpAny _ _ (callWith _ (Value.builtin _) [Value.ref _] _ _) _ _ _); k_dflt (refine callWith_method1 ?_)))
def Halt (p : Prop) : Prop := p
theorem stopHere {p : Prop} (h : Halt p) : p := h
def defBody : Stmt → List Stmt
  | .FunctionDef _ _ b _ _ _ _ _ _ _ => b
  | _ => []
def defScope : Stmt → Scope
  | .FunctionDef _ _ _ _ _ _ s _ _ _ => s
  | _ => { kind := .module, names := [], isGenerator := false, isCoroutine := false }
def forBody : Stmt → List Stmt
  | .For _ _ b _ _ => b
  | _ => []
/-- the law's own body and scope, taken out of the row -/
noncomputable def lawDef : Stmt := PySem.Challenge.pw_xg0022_01.main.body.getLastD (.Pass ⟨0, 0, 0, 0⟩)
noncomputable def lawB : List Stmt := defBody lawDef
noncomputable def lawS : Scope := defScope lawDef
noncomputable def lawSt (i : Nat) : Stmt := lawB.getD i (.Pass ⟨0, 0, 0, 0⟩)
noncomputable def inner1 : List Stmt := forBody ((forBody (lawSt 2)).getD 1 (.Pass ⟨0, 0, 0, 0⟩))
abbrev lawCl (c1 c2 c3 c4 c5 c6 c7 c8 : Addr) : List (PySem.Str × Addr) := [(Str.ofString "chosen", c8), (Str.ofString "table", c7), (Str.ofString "j", c6), (Str.ofString "k", c5), (Str.ofString "crossing", c4), (Str.ofString "pairs", c3), (Str.ofString "points", c2), (Str.ofString "moments", c1)]
noncomputable abbrev lawEnv (fa : Addr) (cd : Value) (L : Addr) (cl : List (PySem.Str × Addr)) : Env := envX (Str.ofString "law") lawS L fa cd cl
noncomputable abbrev lawA (fa : Addr) (cd : Value) (dp un : Nat) (gd : Option (List Code)) (L : Addr) (cl : List (PySem.Str × Addr)) (outer : List Env) : Around := ktrTop dp un gd (Str.ofString "law") lawS L fa cd cl outer
/-- the wheel's places: each once -/
structure Wheel (ps : List Int) : Prop where
  nodup : ps.Nodup
  lo : ∀ p ∈ ps, 0 ≤ p
  hi : ∀ p ∈ ps, p < 12
theorem wheel_full {ps : List Int} (h : ps.length < 12) (f : Int) (h0 : 0 ≤ f) (h1 : f < 12) : ¬ ∀ i : Nat, i < 12 → (f + i) % 12 ∈ ps := fun q => by
  have := nodup_len [0, 1, 2, 3, 4, 5, 6, 7, 8, 9, 10, 11] ps (by decide) fun y hy => by
    have hy' : 0 ≤ y ∧ y < 12 := by
      simp only [List.mem_cons, List.not_mem_nil, or_false] at hy
      omega
    have := q ((y - f) % 12).toNat (by omega)
    have e : (f + ((y - f) % 12).toNat) % 12 = y := by omega
    rw [e] at this; exact this
  simp at this; omega
theorem fmod12 (a : Int) : a.fmod 12 = a % 12 := by rw [Int.fmod_eq_emod_of_nonneg]; omega
theorem mv_in {x : Addr × Obj} {l r : Led} : ∀ q ∈ l ++ x :: r, q ∈ x :: (l ++ r) := fun q h => by
  rcases List.mem_append.mp h with h | h
  · exact .tail _ (List.mem_append_left _ h)
  · rcases List.mem_cons.mp h with h | h
    · rw [h]; exact .head _
    · exact .tail _ (List.mem_append_right _ h)
theorem mv_out {x : Addr × Obj} {l r : Led} : ∀ q ∈ x :: (l ++ r), q ∈ l ++ x :: r := fun q h => by
  rcases List.mem_cons.mp h with h | h
  · rw [h]; exact List.mem_append_right _ (.head _)
  · rcases List.mem_append.mp h with h | h
    · exact List.mem_append_left _ h
    · exact List.mem_append_right _ (.tail _ h)
theorem mv_back {x : Addr × Obj} {l r r' : Led} (hx : x ∈ r) (h : ∀ p ∈ r', p ∈ r) : ∀ q ∈ x :: (l ++ r'), q ∈ l ++ r := fun q hq => by
  rcases List.mem_cons.mp hq with e | hq
  · rw [e]; exact List.mem_append_right _ hx
  · rcases List.mem_append.mp hq with hq | hq
    · exact List.mem_append_left _ hq
    · exact List.mem_append_right _ (h q hq)
theorem mv_more {l r r' : Led} (h : ∀ p ∈ r', p ∈ r) : ∀ q ∈ l ++ r', q ∈ l ++ r := fun q hq => by
  rcases List.mem_append.mp hq with hq | hq
  · exact List.mem_append_left _ hq
  · exact List.mem_append_right _ (h q hq)
theorem mv_off {I : Addr} {l l' r r' : Led} (h : ∀ p ∈ l ++ r, p.1 ≠ I) (e : l'.map (·.1) = l.map (·.1)) (h' : ∀ p ∈ r', p.1 ≠ I) : ∀ p ∈ l' ++ r', p.1 ≠ I := fun p hp => by
  rcases List.mem_append.mp hp with hp | hp
  · have : p.1 ∈ l.map (·.1) := by rw [← e]; exact List.mem_map_of_mem hp
    obtain ⟨q, hq, e'⟩ := List.mem_map.mp this
    rw [← e']; exact h q (List.mem_append_left _ hq)
  · exact h' p hp
section
variable {w : World} {fa : Addr} {cd : Value} {mean : ExcName → Option Value} {mg mb : PySem.Str → Option Value} {dp un : Nat} {gd : Option (List Code)} {outer : List Env} {A₀ : Around} {base h₀ : Heap} {L : Addr} {s : Shared} {Q : Flow → Shared → Prop} {c1 c2 c3 c4 c5 c6 c7 c8 : Addr} {o1 o2 o3 o4 o5 o6 o7 o8 : Obj}
theorem zone_fd (w : World) {p d : Int} {tx : Tok} {news : Led} (h0 : 0 ≤ p) (h1 : p < 12) (h2 : 0 ≤ d) (h3 : d < 4) : Calls w 44 [.str (zoneOf p d) tx] 5 60 news (fun v news' => news' = news ∧ ∃ t, v = .int (7200 * p - 86400 * d.fdiv 2) t) := by
  have := zone_all w p d h0 h1 h2 h3 tx news
  rw [fdiv2]; exact this
theorem mom_eq {p d : Int} (h0 : 0 ≤ p) (h1 : p < 12) : (7200 * p - 86400 * d.fdiv 2).fmod 86400 = 7200 * p := by
  rw [Int.fmod_eq_emod_of_nonneg _ (by omega)]; omega
theorem wheel_next {ps : List Int} {f p : Int} {j : Nat} (hl : ps.length < 12) (f0 : 0 ≤ f) (f1 : f < 12) (b : p = (f + j) % 12) (c : ∀ i : Nat, i < j → (f + i) % 12 ∈ ps) (e : j ≤ 11) (hx : (ps.any fun x => x == p) = true) :
    (0 ≤ (p + 1).fmod 12 ∧ (p + 1).fmod 12 < 12) ∧ (p + 1).fmod 12 = (f + (j + 1 : Nat)) % 12 ∧ (∀ i : Nat, i < j + 1 → (f + i) % 12 ∈ ps) ∧ j + 1 ≤ 11 := by
  rw [fmod12]
  have hj := any_mem hx
  rw [b] at hj
  have c' : ∀ i : Nat, i < j + 1 → (f + i) % 12 ∈ ps := fun i hi => by
    by_cases q : i = j
    · rw [q]; exact hj
    · exact c i (by omega)
  refine ⟨by omega, by omega, c', ?_⟩
  by_cases q : j = 11
  · subst q
    exact absurd c' (wheel_full hl f f0 f1)
  · omega
theorem wheel_snoc {ps : List Int} {p : Int} (h : Wheel ps) (h0 : 0 ≤ p) (h1 : p < 12) (hx : (ps.any fun x => x == p) = false) : Wheel (ps ++ [p]) :=
  ⟨nodup_snoc h.nodup (any_not hx), fun q hq => by rcases List.mem_append.mp hq with hq | hq; exact h.lo q hq; rw [List.mem_singleton.mp hq]; exact h0,
   fun q hq => by rcases List.mem_append.mp hq with hq | hq; exact h.hi q hq; rw [List.mem_singleton.mp hq]; exact h1⟩
local macro_rules | `(tactic| walk_at "KswEnd") => `(tactic| (k_dflt (k_extra "my kswend")))
local macro_rules | `(tactic| walk_at "call builtin:list.append") => `(tactic| (k_dflt (k_extra "my append")))
theorem upd_pl {pl ml c1 c2 c3 c4 c5 c6 c7 c8 : Addr} {o1 o2 o3 o4 o5 o6 o7 o8 : Obj} {own : Led} (hoff : OwnOff own [ml, pl, c8, c7, c6, c5, c4, c3, c2, c1]) (lt : @LT.lt Nat _ c1 c2 ∧ @LT.lt Nat _ c2 c3 ∧ @LT.lt Nat _ c3 c4 ∧ @LT.lt Nat _ c4 c5 ∧ @LT.lt Nat _ c5 c6 ∧ @LT.lt Nat _ c6 c7 ∧ @LT.lt Nat _ c7 c8 ∧ @LT.lt Nat _ c8 pl ∧ @LT.lt Nat _ pl ml) : ∀ p ∈ (c8, o8) :: (c7, o7) :: (c6, o6) :: (c5, o5) :: (c4, o4) :: (c3, o3) :: (c2, o2) :: (c1, o1) :: own, p.1 ≠ pl := by
  intro p hp e
  simp only [List.mem_cons] at hp
  rcases hp with h | h | h | h | h | h | h | h | h
  all_goals first | (rw [h] at e; dsimp only at e; (have e' : @Eq Nat _ _ := e); omega) | exact hoff p h pl (by simp) e
theorem upd_ml {pl ml c1 c2 c3 c4 c5 c6 c7 c8 : Addr} {o1 o2 o3 o4 o5 o6 o7 o8 o : Obj} {own : Led} (hoff : OwnOff own [ml, pl, c8, c7, c6, c5, c4, c3, c2, c1]) (lt : @LT.lt Nat _ c1 c2 ∧ @LT.lt Nat _ c2 c3 ∧ @LT.lt Nat _ c3 c4 ∧ @LT.lt Nat _ c4 c5 ∧ @LT.lt Nat _ c5 c6 ∧ @LT.lt Nat _ c6 c7 ∧ @LT.lt Nat _ c7 c8 ∧ @LT.lt Nat _ c8 pl ∧ @LT.lt Nat _ pl ml) : ∀ p ∈ (pl, o) :: (c8, o8) :: (c7, o7) :: (c6, o6) :: (c5, o5) :: (c4, o4) :: (c3, o3) :: (c2, o2) :: (c1, o1) :: own, p.1 ≠ ml := by
  intro p hp e
  simp only [List.mem_cons] at hp
  rcases hp with h | h | h | h | h | h | h | h | h | h
  all_goals first | (rw [h] at e; dsimp only at e; (have e' : @Eq Nat _ _ := e); omega) | exact hoff p h ml (by simp) e
theorem ml_pl {pl ml c1 c2 c3 c4 c5 c6 c7 c8 : Addr} (lt : @LT.lt Nat _ c1 c2 ∧ @LT.lt Nat _ c2 c3 ∧ @LT.lt Nat _ c3 c4 ∧ @LT.lt Nat _ c4 c5 ∧ @LT.lt Nat _ c5 c6 ∧ @LT.lt Nat _ c6 c7 ∧ @LT.lt Nat _ c7 c8 ∧ @LT.lt Nat _ c8 pl ∧ @LT.lt Nat _ pl ml) : ml ≠ pl := by
  intro e
  have e' : @Eq Nat _ _ := e
  omega
theorem inner_turn {f d : Int} {tf td : Tok} {pl ml : Addr} {pvs mvs : List Value} {ps : List Int} {pn mn : Nat} {own : Led} {u : PySem.Str → Option Value}
   (K : Frag.In (hd.heap_39 w.params) h₀) (B : Below A₀ base outer h₀) (T : Top hd.view_39 theLoose mean mg mb h₀) (hd : dp + 20 < recursionLimit) (hu : un + 200 < cLine)
   (F : Fr h₀ L s.heap (fun y => if y = Str.ofString "first" then some (.int f tf) else if y = Str.ofString "dress" then some (.int d td) else if y = Str.ofString "places" then some (.ref pl) else u y))
   (N : News h₀ L s.heap ((ml, listOf mvs.toArray mn) :: (pl, listOf pvs.toArray pn) :: (c8, o8) :: (c7, o7) :: (c6, o6) :: (c5, o5) :: (c4, o4) :: (c3, o3) :: (c2, o2) :: (c1, o1) :: own))
   (hoff : OwnOff own [ml, pl, c8, c7, c6, c5, c4, c3, c2, c1])
   (lt : @LT.lt Nat _ c1 c2 ∧ @LT.lt Nat _ c2 c3 ∧ @LT.lt Nat _ c3 c4 ∧ @LT.lt Nat _ c4 c5 ∧ @LT.lt Nat _ c5 c6 ∧ @LT.lt Nat _ c6 c7 ∧ @LT.lt Nat _ c7 c8 ∧ @LT.lt Nat _ c8 pl ∧ @LT.lt Nat _ pl ml)
   (d1 : o1.data = .cell (some (.ref ml))) (hp : IntsAre pvs ps) (hm : IntsAre mvs (ps.map (7200 * ·))) (hw : Wheel ps) (hl : ps.length < 12) (f0 : 0 ≤ f) (f1 : f < 12) (e0 : 0 ≤ d) (e1 : d < 4)
   (hQ : ∀ (p : Int) (tp tm : Tok) (m' : PySem.Str → Option Value) (h' : Heap) (tk' : Nat), Wheel (ps ++ [p]) → Fr h₀ L h' m' → (∀ z, z ≠ Str.ofString "place" → z ≠ Str.ofString "offset" → m' z = (fun y => if y = Str.ofString "first" then some (Value.int f tf) else if y = Str.ofString "dress" then some (Value.int d td) else if y = Str.ofString "places" then some (Value.ref pl) else u y) z) →
      News h₀ L h' ((ml, listOf (mvs ++ [Value.int (7200 * p) tm]).toArray (mn + 1)) :: (pl, listOf (pvs ++ [Value.int p tp]).toArray (pn + 1)) :: (c8, o8) :: (c7, o7) :: (c6, o6) :: (c5, o5) :: (c4, o4) :: (c3, o3) :: (c2, o2) :: (c1, o1) :: own) → Q .next { s with heap := h', toks := tk' }) :
   wpAny (model PySem.Challenge.rw_xg0022_01.row.prog w) (lawA fa cd dp un gd L (lawCl c1 c2 c3 c4 c5 c6 c7 c8) outer) (execs inner1 (lawEnv fa cd L (lawCl c1 c2 c3 c4 c5 c6 c7 c8))) Q (fun _ _ => False) s := by
  have eI : inner1 = inner1 := rfl
  have eS : lawS = lawS := rfl
  conv at eI => lhs; whnf
  conv at eS => lhs; whnf
  rw [← eI]
  unfold lawA lawEnv at *
  rw [← eS]
  clear eI eS
  revert K
  k_fill
  intro K
  k_with "my while" => ((rename News _ _ _ _ => nE'); (rename Fr _ _ _ _ => fE'); refine ksw_while (σ := Int × Tok × Nat) (fun _ => (ml, listOf mvs.toArray mn) :: (pl, listOf pvs.toArray pn) :: (c8, o8) :: (c7, o7) :: (c6, o6) :: (c5, o5) :: (c4, o4) :: (c3, o3) :: (c2, o2) :: (c1, o1) :: own) (fun c => [(Str.ofString "place", Value.int c.1 c.2.1)]) (fun _ => True) [] (fun c => (0 ≤ c.1 ∧ c.1 < 12) ∧ c.1 = (f + c.2.2) % 12 ∧ (∀ i : Nat, i < c.2.2 → (f + i) % 12 ∈ ps) ∧ c.2.2 ≤ 11) (fun c => 12 - c.2.2) (f, tf, 0) fE' nE' trivial (by kst_all) ⟨⟨f0, f1⟩, by show f = (f + ((0 : Nat) : Int)) % 12; omega, fun i hi => absurd hi (Nat.not_lt_zero i), Nat.zero_le _⟩ ?_; clear fE' nE'; rintro ⟨p9, t9, j9⟩ u9 h9 tk9 - ⟨a9, b9, c9, d9⟩ F9 N9; dsimp only at a9 b9 c9 d9 F9 N9)
  k_with "my append" => (first | (refine append_K (by assumption) (by assumption) (Upd.tail (ml_pl lt) (Upd.head (upd_pl hoff lt))) ?_ (by have := hp.length; rw [List.size_toArray, this, sizeLine_eq]; omega); intro h8 F8 N8; (try simp only [List.push_toArray] at N8)) | (refine append_K (by assumption) (by assumption) (Upd.head (upd_ml hoff lt)) ?_ (by have := hm.length; rw [List.length_map] at this; rw [List.size_toArray, this, sizeLine_eq]; omega); intro h8 F8 N8; (try simp only [List.push_toArray] at N8)))
  k_with "my kswend" => ((rename News _ _ _ _ => nE'); (rename Fr _ _ _ _ => fE'); refine ksw_end (_, _, j9 + 1) fE' nE' (fun p hp => hp) trivial (by kst_all) (by intro z h2 h3; have hz := h2 _ (List.Mem.head _); simp only [ne_eq] at hz; simp [kstB, hz]) (wheel_next hl f0 f1 b9 c9 d9 (by assumption)) (by show 12 - (j9 + 1) < 12 - j9; omega))
  k_with "my call" => (first | (refine' Calls.use (zone_ok w a9.1 a9.2 e0 e1) ?k1 ?k2 ?k3 ?k4 ?k5 ?k6 ?k7 ?k8 ?_; (case k1 => k_asm); (case k2 => k_asm); (case k3 => k_asm); (case k4 => k_asm); (case k5 => k_asm); (case k6 => first | exact rfl | assumption); (case k7 => ktr_room); (case k8 => ktr_units); intro v9 n9 h9 t9 r9 F9 N9; obtain ⟨rfl, x9, rfl⟩ := r9; (try dsimp only); (try k_fold)) | (refine' Calls.use (zone_fd w a9.1 a9.2 e0 e1) ?k1 ?k2 ?k3 ?k4 ?k5 ?k6 ?k7 ?k8 ?_; (case k1 => k_asm); (case k2 => k_asm); (case k3 => k_asm); (case k4 => k_asm); (case k5 => k_asm); (case k6 => first | exact rfl | assumption); (case k7 => ktr_room); (case k8 => ktr_units); intro v9 n9 h9 t9 r9 F9 N9; obtain ⟨rfl, x9, rfl⟩ := r9; (try dsimp only); (try k_fold)))
  k_steps
  all_goals (first
    | exact absurd rfl ‹_ ≠ _›
    | (rename News _ _ _ _ => nE'; rename Fr _ _ _ _ => fE'; rw [mom_eq a9.1 a9.2] at nE'; exact hQ p9 _ _ _ _ _ (wheel_snoc hw a9.1 a9.2 (by assumption)) fE' (by intro z z1 z2; simp [kstB, z1, z2]) nE')
    | (rename News _ _ _ _ => nE'; rename Fr _ _ _ _ => fE'; refine ksw_end (_, _, j9 + 1) fE' nE' (fun p hp => hp) trivial (by kst_all) (by intro z h2 h3; have hz := h2 _ (List.Mem.head _); simp only [ne_eq] at hz; simp [kstB, hz]) (wheel_next hl f0 f1 b9 c9 d9 (by assumption)) (by show 12 - (j9 + 1) < 12 - j9; omega))
    | trace_state)
end
end Mine

namespace Mine
local macro_rules | `(tactic| walk_at "exec While Compare") => `(tactic| (k_dflt (k_extra "my while")))
local macro_rules | `(tactic| walk_at "call ref") => `(tactic| (k_dflt (k_extra "my call")))
local macro_rules | `(tactic| ktr_room) => `(tactic| (show (_ : Nat) < _; (try dsimp only [Around.deeper, Around.in1]); (simp only [rec_is] at *); omega))
local macro_rules | `(tactic| ktr_units) => `(tactic| (show (_ : Nat) < _; (try dsimp only [Around.deeper, Around.in1]); (have hcL9 := cLine_is); omega))
local macro_rules | `(tactic| walk_at "callWith") => `(tactic| ((with_reducible show wpAny _ _ (callWith _ (Value.builtin _) [Value.ref _] _ _) _ _ _); k_dflt (refine callWith_method1 ?_)))
local macro_rules | `(tactic| walk_at "exec For Name BinOp cons nil") => `(tactic| (k_here; (rename Fr _ _ _ _ => lF'); (with_unfolding_all refine' For_invVF lF' ?k1 ?k2 ?_; (case k1 => exact rfl); (case k2 => exact rfl); k_whole)))
local macro_rules | `(tactic| walk_at "exec For Name List cons nil") => `(tactic| (k_here; (rename Fr _ _ _ _ => lF'); (with_unfolding_all refine' For_invVF lF' ?k1 ?k2 ?_; (case k1 => exact rfl); (case k2 => exact rfl); k_whole)))
local macro_rules | `(tactic| walk_at "last exec For Name List cons nil") => `(tactic| (k_here; (rename Fr _ _ _ _ => lF'); (with_unfolding_all refine' For_invVF lF' ?k1 ?k2 ?_; (case k1 => exact rfl); (case k2 => exact rfl); k_whole)))
local macro_rules | `(tactic| walk_at "pyIter ref") => `(tactic| (refine stopHere ?_))
theorem news_sub {h₀ h : Heap} {L : Addr} {news led : Led} (N : News h₀ L h news) (hs : ∀ p ∈ led, p ∈ news) : News h₀ L h led := fun p hp => N p (hs p hp)
theorem at3 {m : PySem.Str → Option Value} {a b c : PySem.Str} {x y z : Value} (h1 : m a = some x) (h2 : m b = some y) (h3 : m c = some z) : (fun q => if q = a then some x else if q = b then some y else if q = c then some z else m q) = m := by
  funext q
  by_cases e1 : q = a
  · rw [if_pos e1, e1, h1]
  · rw [if_neg e1]
    by_cases e2 : q = b
    · rw [if_pos e2, e2, h2]
    · rw [if_neg e2]
      by_cases e3 : q = c
      · rw [if_pos e3, e3, h3]
      · rw [if_neg e3]
theorem fr_open {h₀ h : Heap} {L : Addr} {m : PySem.Str → Option Value} (F : Fr h₀ L h m) : ∃ m', m' = m ∧ Fr h₀ L h m' := ⟨m, rfl, F⟩
theorem two_ints {h₀ h : Heap} {L l : Addr} {a b : Int} {ta tb : Tok} {r : Led} (N : News h₀ L h ((l, listOf #[.int a ta, .int b tb] 0) :: r)) : ∃ vs, IntsAre vs [a, b] ∧ News h₀ L h ((l, listOf vs.toArray 0) :: r) := ⟨_, .cons _ _ (.cons _ _ .nil), N⟩
theorem not_has {z a : PySem.Str} {l : List PySem.Str} (h : l.contains z = false) (ha : a ∈ l) : z ≠ a := fun e => by
  subst e
  rw [List.contains_iff_mem.mpr ha] at h
  exact absurd h (by decide)
theorem fmod_b (n : Int) {k : Int} (h : 0 < k) : 0 ≤ n.fmod k ∧ n.fmod k < k := by
  rw [Int.fmod_eq_emod_of_nonneg _ (by omega)]
  exact ⟨Int.emod_nonneg _ (by omega), Int.emod_lt_of_pos _ h⟩
theorem at1 {m : PySem.Str → Option Value} {a : PySem.Str} {x : Value} (h1 : m a = some x) : (fun q => if q = a then some x else m q) = m := by
  funext q
  by_cases e1 : q = a
  · rw [if_pos e1, e1, h1]
  · rw [if_neg e1]
structure St1 where
  mv : List Value
  pv : List Value
  ps : List Int
  mn : Nat
  pn : Nat
structure St1.Ok (c : St1) (n : Nat) : Prop where
  wheel : Wheel c.ps
  len : c.ps.length = n
  pi : IntsAre c.pv c.ps
  mi : IntsAre c.mv (c.ps.map (7200 * ·))
theorem St1.Ok.snoc {c : St1} {n : Nat} (h : c.Ok n) {p : Int} {tp tm : Tok} (hw : Wheel (c.ps ++ [p])) : St1.Ok ⟨c.mv ++ [.int (7200 * p) tm], c.pv ++ [.int p tp], c.ps ++ [p], c.mn + 1, c.pn + 1⟩ (n + 1) := by
  refine ⟨hw, by simp [h.len], IntsAre.append h.pi (.cons _ _ .nil), ?_⟩
  rw [List.map_append]
  exact IntsAre.append h.mi (.cons _ _ .nil)
section
variable {w : World} {fa : Addr} {cd : Value} {mean : ExcName → Option Value} {mg mb : PySem.Str → Option Value} {dp un : Nat} {gd : Option (List Code)} {outer : List Env} {A₀ : Around} {base h₀ : Heap} {L : Addr} {s : Shared} {Q : Flow → Shared → Prop} {c1 c2 c3 c4 c5 c6 c7 c8 : Addr} {o1 o2 o3 o4 o5 o6 o7 o8 : Obj}
theorem loop1 {pl ml sl : Addr} {svs : List Value} {script : List Int} {own : Led} {u : PySem.Str → Option Value}
   (K : Frag.In (hd.heap_39 w.params) h₀) (B : Below A₀ base outer h₀) (T : Top hd.view_39 theLoose mean mg mb h₀) (hd : dp + 40 < recursionLimit) (hu : un + 400 < cLine)
   (F : Fr h₀ L s.heap (fun y => if y = Str.ofString "places" then some (.ref pl) else if y = Str.ofString "script" then some (.ref sl) else u y))
   (hs : h₀.IsList sl svs.toArray) (hi : IntsAre svs script) (hs63 : script.length ≤ 63)
   (N : News h₀ L s.heap ((ml, listOf ([] : List Value).toArray 0) :: (pl, listOf ([] : List Value).toArray 0) :: (c8, o8) :: (c7, o7) :: (c6, o6) :: (c5, o5) :: (c4, o4) :: (c3, o3) :: (c2, o2) :: (c1, o1) :: own))
   (hoff : OwnOff own [ml, pl, c8, c7, c6, c5, c4, c3, c2, c1])
   (lt : @LT.lt Nat _ c1 c2 ∧ @LT.lt Nat _ c2 c3 ∧ @LT.lt Nat _ c3 c4 ∧ @LT.lt Nat _ c4 c5 ∧ @LT.lt Nat _ c5 c6 ∧ @LT.lt Nat _ c6 c7 ∧ @LT.lt Nat _ c7 c8 ∧ @LT.lt Nat _ c8 pl ∧ @LT.lt Nat _ pl ml)
   (d1 : o1.data = .cell (some (.ref ml)))
   (hQ : ∀ (c : St1) (u' : PySem.Str → Option Value) (h' : Heap) (tk' : Nat), c.Ok (2 * (script.take 2 ++ [360, 543, 169]).length) → Fr h₀ L h' (fun y => if y = Str.ofString "places" then some (.ref pl) else u' y) →
     News h₀ L h' ((ml, listOf c.mv.toArray c.mn) :: (pl, listOf c.pv.toArray c.pn) :: (c8, o8) :: (c7, o7) :: (c6, o6) :: (c5, o5) :: (c4, o4) :: (c3, o3) :: (c2, o2) :: (c1, o1) :: own) → Q .next { s with heap := h', toks := tk' })
   : wpAny (model PySem.Challenge.rw_xg0022_01.row.prog w) (lawA fa cd dp un gd L (lawCl c1 c2 c3 c4 c5 c6 c7 c8) outer) (exec (lawSt 2) (lawEnv fa cd L (lawCl c1 c2 c3 c4 c5 c6 c7 c8))) Q (fun _ _ => False) s := by
  have eI : lawSt 2 = lawSt 2 := rfl
  have eS : lawS = lawS := rfl
  conv at eI => lhs; whnf
  conv at eS => lhs; whnf
  rw [← eI]
  unfold lawA lawEnv at *
  rw [← eS]
  clear eI eS
  revert K
  k_fill
  intro K
  k_steps
  unfold Halt
  rename_i D1 ws1 _ hI1 _ _ l1 _ _ _ D2 ws2 hp2 F2 N2 I2 lt2
  refine kst_listL (σ := St1) (nn := 0) (fun c => (ml, listOf c.mv.toArray c.mn) :: (pl, listOf c.pv.toArray c.pn) :: (c8, o8) :: (c7, o7) :: (c6, o6) :: (c5, o5) :: (c4, o4) :: (c3, o3) :: (c2, o2) :: (c1, o1) :: (D2, listOf ws2.toArray 0) :: own) (fun _ => []) (fun _ => True) [Str.ofString "dress", Str.ofString "first", Str.ofString "place", Str.ofString "offset"] (fun pre c => c.Ok (2 * pre.length)) ⟨[], [], [], 0, 0⟩ rfl (fun c => by simp) I2 F2 (news_sub N2 ?sub) trivial (fun p hp => nomatch hp) ⟨⟨List.nodup_nil, fun p hp => (nomatch hp), fun p hp => (nomatch hp)⟩, rfl, IntsAre.nil, IntsAre.nil⟩ ?turn ?done
  case sub => intro p hp; simp only [List.mem_cons] at hp ⊢; (rcases hp with h | h | h | h | h | h | h | h | h | h | h | h <;> simp [h])
  case done =>
    intro c u1 h1 tk1 _ ok F1 N1
    refine hQ c _ h1 tk1 ok (by rw [at1]; exact F1; rfl) (news_sub N1 ?_)
    intro p hp; simp only [List.mem_cons] at hp ⊢; (rcases hp with h | h | h | h | h | h | h | h | h | h | h <;> simp [h])
  case turn =>
    intro c pre post n t u1 h1 tk1 own1 hns hmem hoff1 _ ok F1 N1
    have hpre : pre.length < 5 := by
      have e1 : (script.take 2 ++ [360, 543, 169]).length = pre.length + (post.length + 1) := by rw [hns]; simp
      simp at e1; omega
    dsimp only [List.map] at hoff1
    (try dsimp only at F1)
    (try dsimp only at N1)
    k_steps
    unfold Halt
    rename_i l3 h3 F3 N3 lt3
    obtain ⟨m3, em3, F3⟩ := fr_open F3
    have q1 : ∃ td, m3 (Str.ofString "dress") = some (.int ((n.fdiv 144).fmod 4) td) := ⟨_, by rw [em3]; rfl⟩
    obtain ⟨td, q1⟩ := q1
    have q2 : m3 (Str.ofString "places") = some (.ref pl) := by rw [em3]; rfl
    have q3 : ∀ z, z ≠ Str.ofString "number" → [Str.ofString "dress", Str.ofString "first", Str.ofString "place", Str.ofString "offset"].contains z = false → m3 z = (fun y => if y = Str.ofString "places" then some (Value.ref pl) else if y = Str.ofString "script" then some (Value.ref sl) else u y) z := by
      intro z z1 z2
      have z3 := not_has z2 (List.Mem.head _)
      rw [em3]
      dsimp only [kstB]
      rw [if_neg z3, if_neg z1, if_neg (by rw [z2]; decide)]
    clear em3
    obtain ⟨vs3, i3, N3⟩ := two_ints N3
    refine kst_listL (σ := St1) (nn := 0) (fun c => (ml, listOf c.mv.toArray c.mn) :: (pl, listOf c.pv.toArray c.pn) :: (c8, o8) :: (c7, o7) :: (c6, o6) :: (c5, o5) :: (c4, o4) :: (c3, o3) :: (c2, o2) :: (c1, o1) :: (l3, listOf vs3.toArray 0) :: (D2, listOf ws2.toArray 0) :: (own ++ own1)) (fun _ => []) (fun _ => True) [Str.ofString "place", Str.ofString "offset"] (fun pre2 c => c.Ok (2 * pre.length + pre2.length)) c rfl (fun c => by simp) i3 F3 (news_sub N3 ?sub3) trivial (fun p hp => nomatch hp) ok ?turn3 ?done3
    case sub3 => intro p hp; simp only [List.mem_cons, List.mem_append] at hp ⊢; (rcases hp with h | h | h | h | h | h | h | h | h | h | h | h | h | h <;> simp [h])
    case done3 =>
      intro g3 u3 h4 tk4 _ ok3 F4 N4
      have e3 : 2 * (pre ++ [n]).length = 2 * pre.length + 2 := by simp; omega
      refine wpAny_execs_nil ?_
      show InvEndN _ _ _ _ _ _ _
      refine kst_end g3 F4 N4 ?_ ?_ rfl trivial (fun p hp => nomatch hp) ?_ (by rw [e3]; exact ok3)
      · intro p hp; simp only [List.mem_cons, List.mem_append] at hp ⊢; (rcases hp with h | h | h | h | h | h | h | h | h | h | h | h <;> simp [h])
      · intro p hp; simp [hp]
      · intro z z1 _ z2
        have z3 := not_has z2 (.tail _ (.head _))
        have z4 := not_has z2 (.tail _ (.tail _ (.head _)))
        have z5 := not_has z2 (.tail _ (.tail _ (.tail _ (.head _))))
        have z6 : [Str.ofString "place", Str.ofString "offset"].contains z = false := by
          cases e : [Str.ofString "place", Str.ofString "offset"].contains z
          · rfl
          · rcases List.mem_cons.mp (List.contains_iff_mem.mp e) with h | h
            · exact absurd h z4
            · exact absurd (List.mem_singleton.mp h) z5
        dsimp only [kstB]
        rw [if_neg z3, if_neg (by rw [z6]; decide), q3 z z1 z2]
    case turn3 =>
      intro g2 pre2 post2 f tf u2 h2 tk2 own2 hns2 hmem2 hoff2 _ ok2 F4 N4
      have hpre2 : pre2.length < 2 := by
        have e1 : [n.fmod 12, (n.fdiv 12).fmod 12].length = pre2.length + (post2.length + 1) := by rw [hns2]; simp
        simp at e1; omega
      have hf : 0 ≤ f ∧ f < 12 := by
        rcases List.mem_cons.mp hmem2 with h | h
        · rw [h]; exact fmod_b _ (by decide)
        · rw [List.mem_singleton.mp h]; exact fmod_b _ (by decide)
      have hdr := fmod_b (n.fdiv 144) (k := 4) (by decide)
      obtain ⟨m4, em4, F4⟩ := fr_open F4
      have r1 : m4 (Str.ofString "first") = some (.int f tf) := by rw [em4]; rfl
      have r2 : m4 (Str.ofString "dress") = some (.int ((n.fdiv 144).fmod 4) td) := by rw [em4]; exact q1
      have r3 : m4 (Str.ofString "places") = some (.ref pl) := by rw [em4]; exact q2
      have r4 : ∀ z, z ≠ Str.ofString "first" → [Str.ofString "place", Str.ofString "offset"].contains z = false → m4 z = m3 z := by
        intro z z1 z2
        rw [em4]
        dsimp only [kstB]
        rw [if_neg z1, if_neg (by rw [z2]; decide)]
      clear em4
      have e4 := at3 r1 r2 r3
      rw [← e4] at F4
      have key : ∀ b ∈ [ml, pl, c8, c7, c6, c5, c4, c3, c2, c1], b ≠ l3 ∧ b ≠ D2 := by
        obtain ⟨-, -, a1, a2, a3, a4, a5, a6, a7, a8, a9, a10, -⟩ := lt2
        intro b hb
        simp only [List.mem_cons, List.not_mem_nil, or_false] at hb
        rcases hb with h | h | h | h | h | h | h | h | h | h <;> rw [h]
        · exact ⟨Nat.ne_of_lt (lt3 (_, _) (List.mem_append_left _ (.head _))), Nat.ne_of_lt (by assumption)⟩
        · exact ⟨Nat.ne_of_lt (lt3 (_, _) (List.mem_append_left _ (.tail _ (.head _)))), Nat.ne_of_lt (by assumption)⟩
        · exact ⟨Nat.ne_of_lt (lt3 (_, _) (List.mem_append_left _ (.tail _ (.tail _ (.head _))))), Nat.ne_of_lt (by assumption)⟩
        · exact ⟨Nat.ne_of_lt (lt3 (_, _) (List.mem_append_left _ (.tail _ (.tail _ (.tail _ (.head _)))))), Nat.ne_of_lt (by assumption)⟩
        · exact ⟨Nat.ne_of_lt (lt3 (_, _) (List.mem_append_left _ (.tail _ (.tail _ (.tail _ (.tail _ (.head _))))))), Nat.ne_of_lt (by assumption)⟩
        · exact ⟨Nat.ne_of_lt (lt3 (_, _) (List.mem_append_left _ (.tail _ (.tail _ (.tail _ (.tail _ (.tail _ (.head _)))))))), Nat.ne_of_lt (by assumption)⟩
        · exact ⟨Nat.ne_of_lt (lt3 (_, _) (List.mem_append_left _ (.tail _ (.tail _ (.tail _ (.tail _ (.tail _ (.tail _ (.head _))))))))), Nat.ne_of_lt (by assumption)⟩
        · exact ⟨Nat.ne_of_lt (lt3 (_, _) (List.mem_append_left _ (.tail _ (.tail _ (.tail _ (.tail _ (.tail _ (.tail _ (.tail _ (.head _)))))))))), Nat.ne_of_lt (by assumption)⟩
        · exact ⟨Nat.ne_of_lt (lt3 (_, _) (List.mem_append_left _ (.tail _ (.tail _ (.tail _ (.tail _ (.tail _ (.tail _ (.tail _ (.tail _ (.head _))))))))))), Nat.ne_of_lt (by assumption)⟩
        · exact ⟨Nat.ne_of_lt (lt3 (_, _) (List.mem_append_left _ (.tail _ (.tail _ (.tail _ (.tail _ (.tail _ (.tail _ (.tail _ (.tail _ (.tail _ (.head _)))))))))))), Nat.ne_of_lt (by assumption)⟩
      refine inner_turn (own := (l3, listOf vs3.toArray 0) :: (D2, listOf ws2.toArray 0) :: (own ++ own1) ++ own2) K B T (by omega) (by omega) F4 N4 ?hoff lt d1 ok2.pi ok2.mi ok2.wheel (by rw [ok2.len]; omega) hf.1 hf.2 hdr.1 hdr.2 ?hQ
      case hoff =>
        intro p hp b hb
        rcases List.mem_append.mp hp with hp | hp
        · rcases List.mem_cons.mp hp with h | hp
          · rw [h]; exact fun e => (key b hb).1 e.symm
          rcases List.mem_cons.mp hp with h | hp
          · rw [h]; exact fun e => (key b hb).2 e.symm
          rcases List.mem_append.mp hp with hp | hp
          · exact hoff p hp b hb
          · exact hoff1 p hp b (List.mem_append_left (_ :: _) hb)
        · exact hoff2 p hp b (List.mem_append_left (_ :: _) hb)
      case hQ =>
        intro p tp tm m' h' tk' hw' F' em' N'
        show InvEndN _ _ _ _ _ _ _
        refine kst_end ⟨g2.mv ++ [.int (7200 * p) tm], g2.pv ++ [.int p tp], g2.ps ++ [p], g2.mn + 1, g2.pn + 1⟩ F' N' ?_ ?_ rfl trivial (fun p hp => nomatch hp) ?_ (by rw [List.length_append]; exact ok2.snoc hw')
        · intro p hp; have := List.mem_append_left own2 hp; exact this
        · intro p hp; simp [hp]
        · intro z z1 _ z2
          exact (em' z (not_has z2 (.head _)) (not_has z2 (.tail _ (.head _)))).trans ((congrFun e4 z).trans (r4 z z1 z2))
end
end Mine

namespace Mine
local macro_rules | `(tactic| walk_at "exec While Compare") => `(tactic| (k_dflt (k_extra "my while")))
local macro_rules | `(tactic| walk_at "call ref") => `(tactic| (k_dflt (k_extra "my call")))
local macro_rules | `(tactic| ktr_room) => `(tactic| (show (_ : Nat) < _; (try dsimp only [Around.deeper, Around.in1]); (simp only [rec_is] at *); omega))
local macro_rules | `(tactic| ktr_units) => `(tactic| (show (_ : Nat) < _; (try dsimp only [Around.deeper, Around.in1]); (have hcL9 := cLine_is); omega))
local macro_rules | `(tactic| walk_at "callWith") => `(tactic| ((with_reducible show wpAny _ _ (callWith _ (Value.builtin _) [Value.ref _] _ _) _ _ _); k_dflt (refine callWith_method1 ?_)))
theorem wp_ce {w : World} {A : Around} {h₀ : Heap} {L : Addr} {m : PySem.Str → Option Value} {s₁ : Shared} {I : Addr} {oI : Obj} {C : Addr} {oC : Obj} {D : Addr} {oD : Obj} {S : Led → Prop} {r r' : Value → Led → Prop} {E : Value → Shared → Prop} {c : Sem Value} {s : Shared}
    (h : wpAny (model PySem.Challenge.rw_xg0022_01.row.prog w) A c (LCg.CompEnd h₀ L m s₁ I oI C oC D oD S r) E s) (hr : ∀ y n, S n → r y n → r' y n) : wpAny (model PySem.Challenge.rw_xg0022_01.row.prog w) A c (LCg.CompEnd h₀ L m s₁ I oI C oC D oD S r') E s :=
  wpAny_mono h (fun y s₂ ⟨h', tk, n', e, F, N, o, hS, q⟩ => ⟨h', tk, n', e, F, N, o, hS, hr y n' hS q⟩) fun _ _ e => e
open LCg in
/-- a comprehension's turns by an invariant J -/
theorem rest_inv {w : World} {A : Around} {h₀ : Heap} {L : Addr} {m : PySem.Str → Option Value} {env : Env} {elt : Expr} {x : PySem.Str} {scope : Scope} {cl : List (PySem.Str × Addr)} {s : Shared} {S : Led → Prop} {P : Nat → Value → Prop}
    {Fin : List Value → Led → Prop} {n : Nat} (J : Nat → List Value → Led → Prop)
    (turn : ∀ i ys news v I oI C oC D m₂ h tk (E' : Value → Shared → Prop), i < n → J i ys news → S news → P i v → NsObj oC m₂ → m₂ x = some v → Fr h₀ L h m → News h₀ L h ((I, oI) :: (C, oC) :: (D, lst ys) :: news) → Off3 I C D news → ((@Ne Nat I C) ∧ (@Ne Nat I D) ∧ (@Ne Nat C D)) →
      wpAny (model PySem.Challenge.rw_xg0022_01.row.prog w) A (eval elt (compEnvC scope cl C env)) (CompEnd h₀ L m { s with heap := h, toks := tk } I oI C oC D (lst ys) S (fun y news' => J (i + 1) (ys ++ [y]) news')) E' { s with heap := h, toks := tk })
    (fin : ∀ ys news, J n ys news → S news → Fin ys news) :
    ∀ k i ys news, i + k = n → J i ys news → S news → CompRest PySem.Challenge.rw_xg0022_01.row.prog w A h₀ L m env elt x scope cl s S P Fin k i ys news
  | 0, i, ys, news, e, hJ, hS => CompRest.zero (fin ys news (by rw [← e]; exact hJ) hS)
  | k + 1, i, ys, news, e, hJ, hS => CompRest.succ fun v I oI C oC D m₂ h tk E' h1 h2 h3 h4 h5 h6 h7 => by
    refine wp_ce (turn i ys news v I oI C oC D m₂ h tk E' (by omega) hJ hS h1 h2 h3 h4 h5 h6 h7) fun y n hSn q => ?_
    exact rest_inv J turn fin k (i + 1) (ys ++ [y]) n (by omega) q hSn
/-- the points of the places, each a list of three ints in the ledger -/
def PtsAre : List Value → List Int → Led → Prop
  | [], [], _ => True
  | y :: ys, p :: ps, led => (∃ r ta tb tc n, y = .ref r ∧ (r, ptObj (duePt p) ta tb tc n) ∈ led) ∧ PtsAre ys ps led
  | _, _, _ => False
theorem PtsAre.mono {led led' : Led} (h : ∀ p ∈ led, p ∈ led') : ∀ {ys : List Value} {ps : List Int}, PtsAre ys ps led → PtsAre ys ps led'
  | [], [], _ => trivial
  | _ :: _, _ :: _, ⟨⟨r, ta, tb, tc, n, e, q⟩, t⟩ => ⟨⟨r, ta, tb, tc, n, e, h _ q⟩, PtsAre.mono h t⟩
  | [], _ :: _, x => x
  | _ :: _, [], x => x
theorem PtsAre.snoc {led : Led} {y : Value} {p : Int} (q : ∃ r ta tb tc n, y = .ref r ∧ (r, ptObj (duePt p) ta tb tc n) ∈ led) : ∀ {ys : List Value} {ps : List Int}, PtsAre ys ps led → PtsAre (ys ++ [y]) (ps ++ [p]) led
  | [], [], _ => ⟨q, trivial⟩
  | _ :: _, _ :: _, ⟨a, t⟩ => ⟨a, PtsAre.snoc q t⟩
  | [], _ :: _, x => x.elim
  | _ :: _, [], x => x.elim
theorem PtsAre.len {led : Led} : ∀ {ys : List Value} {ps : List Int}, PtsAre ys ps led → ys.length = ps.length
  | [], [], _ => rfl
  | _ :: _, _ :: _, ⟨_, t⟩ => congrArg (· + 1) (PtsAre.len t)
  | [], _ :: _, x => x.elim
  | _ :: _, [], x => x.elim
/-- more objects, apart from the old ones -/
structure More (news news₀ : Led) : Prop where
  sub : ∀ p ∈ news₀, p ∈ news
  off : ∀ q ∈ news, q ∈ news₀ ∨ ∀ p ∈ news₀, q.1 ≠ p.1
theorem More.refl (n : Led) : More n n := ⟨fun _ h => h, fun _ h => .inl h⟩
theorem More.cons {n n₀ : Led} {r : Addr} {o : Obj} (h : More n n₀) (hr : ∀ p ∈ n, p.1 ≠ r) : More ((r, o) :: n) n₀ :=
  ⟨fun p hp => .tail _ (h.sub p hp), fun q hq => by
    rcases List.mem_cons.mp hq with rfl | hq
    · exact .inr fun p hp e => hr p (h.sub p hp) e.symm
    · exact h.off q hq⟩
theorem upd_c2 {c1 c2 c3 c4 c5 c6 c7 c8 : Addr} {o1 o2 o3 o4 o5 o6 o7 o8 : Obj} {own : Led} (hoff : OwnOff own [c8, c7, c6, c5, c4, c3, c2, c1]) (lt : @LT.lt Nat _ c1 c2 ∧ @LT.lt Nat _ c2 c3 ∧ @LT.lt Nat _ c3 c4 ∧ @LT.lt Nat _ c4 c5 ∧ @LT.lt Nat _ c5 c6 ∧ @LT.lt Nat _ c6 c7 ∧ @LT.lt Nat _ c7 c8) : UpdF c2 o2 ((c8, o8) :: (c7, o7) :: (c6, o6) :: (c5, o5) :: (c4, o4) :: (c3, o3) :: (c2, o2) :: (c1, o1) :: own) (fun o' => (c8, o8) :: (c7, o7) :: (c6, o6) :: (c5, o5) :: (c4, o4) :: (c3, o3) :: (c2, o') :: (c1, o1) :: own) := by
  have ne : ∀ a b : Nat, a < b ∨ b < a → a ≠ b := fun a b h e => by omega
  refine UpdF.tail (ne _ _ (by dsimp only; omega)) <| UpdF.tail (ne _ _ (by dsimp only; omega)) <| UpdF.tail (ne _ _ (by dsimp only; omega)) <| UpdF.tail (ne _ _ (by dsimp only; omega)) <| UpdF.tail (ne _ _ (by dsimp only; omega)) <| UpdF.tail (ne _ _ (by dsimp only; omega)) <| UpdF.head ?_
  intro p hp
  simp only [List.mem_cons] at hp
  rcases hp with h | h
  · rw [h]; exact ne _ _ (by dsimp only; omega)
  · exact hoff p h c2 (by simp)
theorem upd_c3 {c1 c2 c3 c4 c5 c6 c7 c8 : Addr} {o1 o2 o3 o4 o5 o6 o7 o8 : Obj} {own : Led} (hoff : OwnOff own [c8, c7, c6, c5, c4, c3, c2, c1]) (lt : @LT.lt Nat _ c1 c2 ∧ @LT.lt Nat _ c2 c3 ∧ @LT.lt Nat _ c3 c4 ∧ @LT.lt Nat _ c4 c5 ∧ @LT.lt Nat _ c5 c6 ∧ @LT.lt Nat _ c6 c7 ∧ @LT.lt Nat _ c7 c8) : UpdF c3 o3 ((c8, o8) :: (c7, o7) :: (c6, o6) :: (c5, o5) :: (c4, o4) :: (c3, o3) :: (c2, o2) :: (c1, o1) :: own) (fun o' => (c8, o8) :: (c7, o7) :: (c6, o6) :: (c5, o5) :: (c4, o4) :: (c3, o') :: (c2, o2) :: (c1, o1) :: own) := by
  have ne : ∀ a b : Nat, a < b ∨ b < a → a ≠ b := fun a b h e => by omega
  refine UpdF.tail (ne _ _ (by dsimp only; omega)) <| UpdF.tail (ne _ _ (by dsimp only; omega)) <| UpdF.tail (ne _ _ (by dsimp only; omega)) <| UpdF.tail (ne _ _ (by dsimp only; omega)) <| UpdF.tail (ne _ _ (by dsimp only; omega)) <| UpdF.head ?_
  intro p hp
  simp only [List.mem_cons] at hp
  rcases hp with h | h | h
  · rw [h]; exact ne _ _ (by dsimp only; omega)
  · rw [h]; exact ne _ _ (by dsimp only; omega)
  · exact hoff p h c3 (by simp)
theorem upd_c4 {c1 c2 c3 c4 c5 c6 c7 c8 : Addr} {o1 o2 o3 o4 o5 o6 o7 o8 : Obj} {own : Led} (hoff : OwnOff own [c8, c7, c6, c5, c4, c3, c2, c1]) (lt : @LT.lt Nat _ c1 c2 ∧ @LT.lt Nat _ c2 c3 ∧ @LT.lt Nat _ c3 c4 ∧ @LT.lt Nat _ c4 c5 ∧ @LT.lt Nat _ c5 c6 ∧ @LT.lt Nat _ c6 c7 ∧ @LT.lt Nat _ c7 c8) : UpdF c4 o4 ((c8, o8) :: (c7, o7) :: (c6, o6) :: (c5, o5) :: (c4, o4) :: (c3, o3) :: (c2, o2) :: (c1, o1) :: own) (fun o' => (c8, o8) :: (c7, o7) :: (c6, o6) :: (c5, o5) :: (c4, o') :: (c3, o3) :: (c2, o2) :: (c1, o1) :: own) := by
  have ne : ∀ a b : Nat, a < b ∨ b < a → a ≠ b := fun a b h e => by omega
  refine UpdF.tail (ne _ _ (by dsimp only; omega)) <| UpdF.tail (ne _ _ (by dsimp only; omega)) <| UpdF.tail (ne _ _ (by dsimp only; omega)) <| UpdF.tail (ne _ _ (by dsimp only; omega)) <| UpdF.head ?_
  intro p hp
  simp only [List.mem_cons] at hp
  rcases hp with h | h | h | h
  · rw [h]; exact ne _ _ (by dsimp only; omega)
  · rw [h]; exact ne _ _ (by dsimp only; omega)
  · rw [h]; exact ne _ _ (by dsimp only; omega)
  · exact hoff p h c4 (by simp)
theorem upd_c5 {c1 c2 c3 c4 c5 c6 c7 c8 : Addr} {o1 o2 o3 o4 o5 o6 o7 o8 : Obj} {own : Led} (hoff : OwnOff own [c8, c7, c6, c5, c4, c3, c2, c1]) (lt : @LT.lt Nat _ c1 c2 ∧ @LT.lt Nat _ c2 c3 ∧ @LT.lt Nat _ c3 c4 ∧ @LT.lt Nat _ c4 c5 ∧ @LT.lt Nat _ c5 c6 ∧ @LT.lt Nat _ c6 c7 ∧ @LT.lt Nat _ c7 c8) : UpdF c5 o5 ((c8, o8) :: (c7, o7) :: (c6, o6) :: (c5, o5) :: (c4, o4) :: (c3, o3) :: (c2, o2) :: (c1, o1) :: own) (fun o' => (c8, o8) :: (c7, o7) :: (c6, o6) :: (c5, o') :: (c4, o4) :: (c3, o3) :: (c2, o2) :: (c1, o1) :: own) := by
  have ne : ∀ a b : Nat, a < b ∨ b < a → a ≠ b := fun a b h e => by omega
  refine UpdF.tail (ne _ _ (by dsimp only; omega)) <| UpdF.tail (ne _ _ (by dsimp only; omega)) <| UpdF.tail (ne _ _ (by dsimp only; omega)) <| UpdF.head ?_
  intro p hp
  simp only [List.mem_cons] at hp
  rcases hp with h | h | h | h | h
  · rw [h]; exact ne _ _ (by dsimp only; omega)
  · rw [h]; exact ne _ _ (by dsimp only; omega)
  · rw [h]; exact ne _ _ (by dsimp only; omega)
  · rw [h]; exact ne _ _ (by dsimp only; omega)
  · exact hoff p h c5 (by simp)
theorem upd_c6 {c1 c2 c3 c4 c5 c6 c7 c8 : Addr} {o1 o2 o3 o4 o5 o6 o7 o8 : Obj} {own : Led} (hoff : OwnOff own [c8, c7, c6, c5, c4, c3, c2, c1]) (lt : @LT.lt Nat _ c1 c2 ∧ @LT.lt Nat _ c2 c3 ∧ @LT.lt Nat _ c3 c4 ∧ @LT.lt Nat _ c4 c5 ∧ @LT.lt Nat _ c5 c6 ∧ @LT.lt Nat _ c6 c7 ∧ @LT.lt Nat _ c7 c8) : UpdF c6 o6 ((c8, o8) :: (c7, o7) :: (c6, o6) :: (c5, o5) :: (c4, o4) :: (c3, o3) :: (c2, o2) :: (c1, o1) :: own) (fun o' => (c8, o8) :: (c7, o7) :: (c6, o') :: (c5, o5) :: (c4, o4) :: (c3, o3) :: (c2, o2) :: (c1, o1) :: own) := by
  have ne : ∀ a b : Nat, a < b ∨ b < a → a ≠ b := fun a b h e => by omega
  refine UpdF.tail (ne _ _ (by dsimp only; omega)) <| UpdF.tail (ne _ _ (by dsimp only; omega)) <| UpdF.head ?_
  intro p hp
  simp only [List.mem_cons] at hp
  rcases hp with h | h | h | h | h | h
  · rw [h]; exact ne _ _ (by dsimp only; omega)
  · rw [h]; exact ne _ _ (by dsimp only; omega)
  · rw [h]; exact ne _ _ (by dsimp only; omega)
  · rw [h]; exact ne _ _ (by dsimp only; omega)
  · rw [h]; exact ne _ _ (by dsimp only; omega)
  · exact hoff p h c6 (by simp)
theorem upd_c7 {c1 c2 c3 c4 c5 c6 c7 c8 : Addr} {o1 o2 o3 o4 o5 o6 o7 o8 : Obj} {own : Led} (hoff : OwnOff own [c8, c7, c6, c5, c4, c3, c2, c1]) (lt : @LT.lt Nat _ c1 c2 ∧ @LT.lt Nat _ c2 c3 ∧ @LT.lt Nat _ c3 c4 ∧ @LT.lt Nat _ c4 c5 ∧ @LT.lt Nat _ c5 c6 ∧ @LT.lt Nat _ c6 c7 ∧ @LT.lt Nat _ c7 c8) : UpdF c7 o7 ((c8, o8) :: (c7, o7) :: (c6, o6) :: (c5, o5) :: (c4, o4) :: (c3, o3) :: (c2, o2) :: (c1, o1) :: own) (fun o' => (c8, o8) :: (c7, o') :: (c6, o6) :: (c5, o5) :: (c4, o4) :: (c3, o3) :: (c2, o2) :: (c1, o1) :: own) := by
  have ne : ∀ a b : Nat, a < b ∨ b < a → a ≠ b := fun a b h e => by omega
  refine UpdF.tail (ne _ _ (by dsimp only; omega)) <| UpdF.head ?_
  intro p hp
  simp only [List.mem_cons] at hp
  rcases hp with h | h | h | h | h | h | h
  · rw [h]; exact ne _ _ (by dsimp only; omega)
  · rw [h]; exact ne _ _ (by dsimp only; omega)
  · rw [h]; exact ne _ _ (by dsimp only; omega)
  · rw [h]; exact ne _ _ (by dsimp only; omega)
  · rw [h]; exact ne _ _ (by dsimp only; omega)
  · rw [h]; exact ne _ _ (by dsimp only; omega)
  · exact hoff p h c7 (by simp)
theorem upd_c8 {c1 c2 c3 c4 c5 c6 c7 c8 : Addr} {o1 o2 o3 o4 o5 o6 o7 o8 : Obj} {own : Led} (hoff : OwnOff own [c8, c7, c6, c5, c4, c3, c2, c1]) (lt : @LT.lt Nat _ c1 c2 ∧ @LT.lt Nat _ c2 c3 ∧ @LT.lt Nat _ c3 c4 ∧ @LT.lt Nat _ c4 c5 ∧ @LT.lt Nat _ c5 c6 ∧ @LT.lt Nat _ c6 c7 ∧ @LT.lt Nat _ c7 c8) : UpdF c8 o8 ((c8, o8) :: (c7, o7) :: (c6, o6) :: (c5, o5) :: (c4, o4) :: (c3, o3) :: (c2, o2) :: (c1, o1) :: own) (fun o' => (c8, o') :: (c7, o7) :: (c6, o6) :: (c5, o5) :: (c4, o4) :: (c3, o3) :: (c2, o2) :: (c1, o1) :: own) := by
  have ne : ∀ a b : Nat, a < b ∨ b < a → a ≠ b := fun a b h e => by omega
  refine UpdF.head ?_
  intro p hp
  simp only [List.mem_cons] at hp
  rcases hp with h | h | h | h | h | h | h | h
  · rw [h]; exact ne _ _ (by dsimp only; omega)
  · rw [h]; exact ne _ _ (by dsimp only; omega)
  · rw [h]; exact ne _ _ (by dsimp only; omega)
  · rw [h]; exact ne _ _ (by dsimp only; omega)
  · rw [h]; exact ne _ _ (by dsimp only; omega)
  · rw [h]; exact ne _ _ (by dsimp only; omega)
  · rw [h]; exact ne _ _ (by dsimp only; omega)
  · exact hoff p h c8 (by simp)
section
variable {w : World} {fa : Addr} {cd : Value} {mean : ExcName → Option Value} {mg mb : PySem.Str → Option Value} {dp un : Nat} {gd : Option (List Code)} {outer : List Env} {A₀ : Around} {base h₀ : Heap} {L : Addr} {s : Shared} {Q : Flow → Shared → Prop} {c1 c2 c3 c4 c5 c6 c7 c8 : Addr} {o1 o2 o3 o4 o5 o6 o7 o8 : Obj}

end
end Mine

namespace Mine
local macro_rules | `(tactic| walk_at "exec While Compare") => `(tactic| (k_dflt (k_extra "my while")))
local macro_rules | `(tactic| walk_at "call ref") => `(tactic| (k_dflt (k_extra "my call")))
local macro_rules | `(tactic| ktr_room) => `(tactic| (show (_ : Nat) < _; (try dsimp only [Around.deeper, Around.in1]); (simp only [rec_is] at *); omega))
local macro_rules | `(tactic| ktr_units) => `(tactic| (show (_ : Nat) < _; (try dsimp only [Around.deeper, Around.in1]); (have hcL9 := cLine_is); omega))
local macro_rules | `(tactic| walk_at "callWith") => `(tactic| ((with_reducible show wpAny _ _ (callWith _ (Value.builtin _) [Value.ref _] _ _) _ _ _); k_dflt (refine callWith_method1 ?_)))
local macro_rules | `(tactic| walk_at "eval ListComp") => `(tactic| (k_here; k_dflt (refine LCg.ListComp_U (F₀ := by k_asm) (by rfl) (by decide) (by rfl) (by decide) (by rfl) ?_)))
local macro_rules | `(tactic| walk_at "CompSrc") => `(tactic| (refine stopHere ?_))
local macro_rules | `(tactic| walk_at "CompEnd") => `(tactic| (refine stopHere ?_))
local macro_rules | `(tactic| k_updF) => `(tactic| (first | exact upd_c2 (by assumption) (by assumption) | exact upd_c3 (by assumption) (by assumption) | exact upd_c4 (by assumption) (by assumption) | exact upd_c5 (by assumption) (by assumption) | exact upd_c6 (by assumption) (by assumption) | exact upd_c7 (by assumption) (by assumption) | exact upd_c8 (by assumption) (by assumption)))
theorem off1_mem {D : Addr} : ∀ {l : Led}, LCg.Off1 D l → ∀ p ∈ l, p.1 ≠ D
  | [], _, _, h => nomatch h
  | _ :: _, x, p, h => by
    rcases List.mem_cons.mp h with rfl | h
    · exact x.1
    · exact off1_mem x.2 p h
theorem ints_at {vs : List Value} {ns : List Int} (h : IntsAre vs ns) : ∀ {i : Nat} {v : Value}, vs[i]? = some v → ∃ n t, ns[i]? = some n ∧ v = .int n t := by
  induction h with
  | nil => intro i v e; simp at e
  | cons n t r ih =>
    intro i v e
    cases i with
    | zero => simp at e; exact ⟨n, t, by simp, e.symm⟩
    | succ j => exact ih (by simpa using e)
theorem off_cons {own : Led} {r : Addr} {o : Obj} {A : List Addr} (h : OwnOff own A) (hr : ∀ b ∈ A, r ≠ b) : OwnOff ((r, o) :: own) A := fun p hp b hb => by
  rcases List.mem_cons.mp hp with rfl | hp
  · exact hr b hb
  · exact h p hp b hb
theorem cells_ne {r : Addr} {c1 c2 c3 c4 c5 c6 c7 c8 : Addr} {o1 o2 o3 o4 o5 o6 o7 o8 : Obj} {ex : Led} (h : ∀ p ∈ (c8, o8) :: (c7, o7) :: (c6, o6) :: (c5, o5) :: (c4, o4) :: (c3, o3) :: (c2, o2) :: (c1, o1) :: ex, p.1 ≠ r) : ∀ b ∈ [c8, c7, c6, c5, c4, c3, c2, c1], r ≠ b := fun b hb e => by
  subst e
  simp only [List.mem_cons, List.not_mem_nil, or_false] at hb
  rcases hb with e | e | e | e | e | e | e | e
  · exact h (c8, o8) (.head _) e.symm
  · exact h (c7, o7) (.tail _ (.head _)) e.symm
  · exact h (c6, o6) (.tail _ (.tail _ (.head _))) e.symm
  · exact h (c5, o5) (.tail _ (.tail _ (.tail _ (.head _)))) e.symm
  · exact h (c4, o4) (.tail _ (.tail _ (.tail _ (.tail _ (.head _))))) e.symm
  · exact h (c3, o3) (.tail _ (.tail _ (.tail _ (.tail _ (.tail _ (.head _)))))) e.symm
  · exact h (c2, o2) (.tail _ (.tail _ (.tail _ (.tail _ (.tail _ (.tail _ (.head _))))))) e.symm
  · exact h (c1, o1) (.tail _ (.tail _ (.tail _ (.tail _ (.tail _ (.tail _ (.tail _ (.head _)))))))) e.symm
section
variable {w : World} {fa : Addr} {cd : Value} {mean : ExcName → Option Value} {mg mb : PySem.Str → Option Value} {dp un : Nat} {gd : Option (List Code)} {outer : List Env} {A₀ : Around} {base h₀ : Heap} {L : Addr} {s : Shared} {Q : Flow → Shared → Prop} {c1 c2 c3 c4 c5 c6 c7 c8 : Addr} {o1 o2 o3 o4 o5 o6 o7 o8 : Obj}
theorem stmt3 {ml : Addr} {mvs : List Value} {mn : Nat} {ps : List Int} {own : Led} {m : PySem.Str → Option Value}
   (K : Frag.In (hd.heap_39 w.params) h₀) (B : Below A₀ base outer h₀) (T : Top hd.view_39 theLoose mean mg mb h₀) (hd : dp + 40 < recursionLimit) (hu : un + 400 < cLine)
   (F : Fr h₀ L s.heap m) (N : News h₀ L s.heap ((c8, o8) :: (c7, o7) :: (c6, o6) :: (c5, o5) :: (c4, o4) :: (c3, o3) :: (c2, o2) :: (c1, o1) :: own))
   (hoff : OwnOff own [c8, c7, c6, c5, c4, c3, c2, c1]) (lt : @LT.lt Nat _ c1 c2 ∧ @LT.lt Nat _ c2 c3 ∧ @LT.lt Nat _ c3 c4 ∧ @LT.lt Nat _ c4 c5 ∧ @LT.lt Nat _ c5 c6 ∧ @LT.lt Nat _ c6 c7 ∧ @LT.lt Nat _ c7 c8)
   (d1 : o1.data = .cell (some (.ref ml))) {v2 : Option Value} (d2 : o2.data = .cell v2) (hml : (ml, listOf mvs.toArray mn) ∈ own) (hm : IntsAre mvs (ps.map (7200 * ·))) (hlo : ∀ p ∈ ps, 0 ≤ p) (hhi : ∀ p ∈ ps, p < 12) (hlen : ps.length ≤ 10)
   (hQ : ∀ (D : Addr) (ys : List Value) (own' : Led) (o' : Obj) (h' : Heap) (tk' : Nat), Fr h₀ L h' m → News h₀ L h' ((c8, o8) :: (c7, o7) :: (c6, o6) :: (c5, o5) :: (c4, o4) :: (c3, o3) :: (c2, o') :: (c1, o1) :: own') → More own' own → OwnOff own' [c8, c7, c6, c5, c4, c3, c2, c1] → (D, LCg.lst ys) ∈ own' → PtsAre ys ps own' → o'.data = .cell (some (.ref D)) → Q .next { s with heap := h', toks := tk' })
   : wpAny (model PySem.Challenge.rw_xg0022_01.row.prog w) (lawA fa cd dp un gd L (lawCl c1 c2 c3 c4 c5 c6 c7 c8) outer) (exec (lawSt 3) (lawEnv fa cd L (lawCl c1 c2 c3 c4 c5 c6 c7 c8))) Q (fun _ _ => False) s := by
  have eI : lawSt 3 = lawSt 3 := rfl
  have eS : lawS = lawS := rfl
  conv at eI => lhs; whnf
  conv at eS => lhs; whnf
  rw [← eI]
  unfold lawA lawEnv at *
  rw [← eS]
  clear eI eS
  revert K
  k_fill
  intro K
  k_steps
  unfold Halt
  have hl : mvs.toArray.size = ps.length := by rw [List.size_toArray, hm.length, List.length_map]
  refine LCg.CompSrc.ledger (its := mvs.toArray) (k := mn) rfl (by assumption) (by assumption) (by simp [hml]) (by rw [hl, sizeLine_eq]; omega) (fun g => ?_)
  refine rest_inv (fun i ys news => ∃ ex : Led, news = (c8, o8) :: (c7, o7) :: (c6, o6) :: (c5, o5) :: (c4, o4) :: (c3, o3) :: (c2, o2) :: (c1, o1) :: ex ∧ More ex own ∧ OwnOff ex [c8, c7, c6, c5, c4, c3, c2, c1] ∧ PtsAre ys (ps.take i) ex) ?turn ?fin _ 0 [] _ (Nat.zero_add _) ⟨own, rfl, More.refl _, hoff, trivial⟩ (.inr ⟨_, by simp only [List.mem_cons]; exact .inr (.inr (.inr (.inr (.inr (.inr (.inr (.inr hml))))))), rfl, _, rfl⟩)
  case turn =>
    rintro i ys _ v I oI C oC D m₂ h tk E' hi ⟨ex, rfl, mo, oo, pa⟩ hS hv hns hx F1 N1 off ne
    obtain ⟨_, t, e1, rfl⟩ := ints_at hm (by simpa using hv)
    rw [List.getElem?_map] at e1
    obtain ⟨p, e2, rfl⟩ := Option.map_eq_some_iff.mp e1
    have hp := List.mem_of_getElem? e2
    have hp0 := hlo p hp
    have hp1 := hhi p hp
    clear hQ hv e1
    k_with "my call" => (refine' Calls.use (point_ok w hp0 hp1) ?k1 ?k2 ?k3 ?k4 ?k5 ?k6 ?k7 ?k8 ?_; (case k1 => k_asm); (case k2 => k_asm); (case k3 => k_asm); (case k4 => k_asm); (case k5 => k_asm); (case k6 => first | exact rfl | assumption); (case k7 => ktr_room); (case k8 => ktr_units); intro v9 n9 h9 t9 r9 F9 N9; obtain ⟨r8, ta8, tb8, tc8, k8, rfl, rfl, off8⟩ := r9; (try dsimp only); (try k_fold))
    k_steps
    unfold Halt
    have hex : ∀ p ∈ (c8, o8) :: (c7, o7) :: (c6, o6) :: (c5, o5) :: (c4, o4) :: (c3, o3) :: (c2, o2) :: (c1, o1) :: ex, p.1 ≠ r8 := fun p hp => off8 p (.tail _ (.tail _ (.tail _ hp)))
    refine LCg.CompEnd.intro F9 N9 ((c8, o8) :: (c7, o7) :: (c6, o6) :: (c5, o5) :: (c4, o4) :: (c3, o3) :: (c2, o2) :: (c1, o1) :: (r8, ptObj (duePt p) ta8 tb8 tc8 k8) :: ex) ?_ (LCg.Off3.of ?_) ?_ ⟨_, rfl, mo.cons fun q hq => hex q (by simp [hq]), off_cons oo (cells_ne hex), ?_⟩
    · exact mv_in (l := (I, oI) :: (C, oC) :: (D, LCg.lst ys) :: (c8, o8) :: (c7, o7) :: (c6, o6) :: (c5, o5) :: (c4, o4) :: (c3, o3) :: (c2, o2) :: (c1, o1) :: [])
    · intro q hq
      rcases List.mem_cons.mp (mv_in (l := (c8, o8) :: (c7, o7) :: (c6, o6) :: (c5, o5) :: (c4, o4) :: (c3, o3) :: (c2, o2) :: (c1, o1) :: []) q hq) with h | h
      · rw [h]; exact ⟨fun e => off8 _ (.head _) e.symm, fun e => off8 _ (.tail _ (.head _)) e.symm, fun e => off8 _ (.tail _ (.tail _ (.head _))) e.symm⟩
      · exact off.mem q h
    · exact .inr ⟨_, by simp only [List.mem_cons]; exact .inr (.inr (.inr (.inr (.inr (.inr (.inr (.inr (.inr (mo.sub _ hml))))))))), rfl, _, rfl⟩
    · rw [List.take_add_one, e2]
      exact PtsAre.snoc ⟨r8, ta8, tb8, tc8, k8, rfl, .head _⟩ (pa.mono fun q hq => .tail _ hq)
  case fin =>
    rintro ys _ ⟨ex, rfl, mo, oo, pa⟩ -
    unfold LCg.FinE
    intro D h tk F1 N1 o1'
    have hex := off1_mem o1'
    have N2 : News h₀ L h ((c8, o8) :: (c7, o7) :: (c6, o6) :: (c5, o5) :: (c4, o4) :: (c3, o3) :: (c2, o2) :: (c1, o1) :: (D, LCg.lst ys) :: ex) := news_sub N1 (mv_in (l := (c8, o8) :: (c7, o7) :: (c6, o6) :: (c5, o5) :: (c4, o4) :: (c3, o3) :: (c2, o2) :: (c1, o1) :: []))
    have oo2 : OwnOff ((D, LCg.lst ys) :: ex) [c8, c7, c6, c5, c4, c3, c2, c1] := off_cons oo (cells_ne hex)
    refine storeX_C F1 N2 rfl (upd_c2 oo2 lt) d2 ?_
    intro h' o' F' N' d'
    refine hQ D ys _ o' h' tk F' N' ?_ oo2 (.head _) ?_ d'
    · exact mo.cons fun q hq => hex q (by simp [hq])
    · rw [hl, List.take_length] at pa
      exact pa.mono fun q hq => .tail _ hq
end
end Mine

namespace Mine
local macro_rules | `(tactic| walk_at "exec While Compare") => `(tactic| (k_dflt (k_extra "my while")))
local macro_rules | `(tactic| walk_at "call ref") => `(tactic| (k_dflt (k_extra "my call")))
local macro_rules | `(tactic| ktr_room) => `(tactic| (show (_ : Nat) < _; (try dsimp only [Around.deeper, Around.in1]); (simp only [rec_is] at *); omega))
local macro_rules | `(tactic| ktr_units) => `(tactic| (show (_ : Nat) < _; (try dsimp only [Around.deeper, Around.in1]); (have hcL9 := cLine_is); omega))
local macro_rules | `(tactic| walk_at "callWith") => `(tactic| ((with_reducible show wpAny _ _ (callWith _ (Value.builtin _) [Value.ref _] _ _) _ _ _); k_dflt (refine callWith_method1 ?_)))
local macro_rules | `(tactic| walk_at "eval ListComp") => `(tactic| (k_here; k_dflt (refine LCg.ListComp_U (F₀ := by k_asm) (by rfl) (by decide) (by rfl) (by decide) (by rfl) ?_)))
local macro_rules | `(tactic| walk_at "CompSrc") => `(tactic| (refine stopHere ?_))
local macro_rules | `(tactic| walk_at "CompEnd") => `(tactic| (refine stopHere ?_))
local macro_rules | `(tactic| k_updF) => `(tactic| (first | exact upd_c2 (by assumption) (by assumption) | exact upd_c3 (by assumption) (by assumption) | exact upd_c4 (by assumption) (by assumption) | exact upd_c5 (by assumption) (by assumption) | exact upd_c6 (by assumption) (by assumption) | exact upd_c7 (by assumption) (by assumption) | exact upd_c8 (by assumption) (by assumption)))
open PySem.Spec PySem.SeqAt PyProof.V
/-- lists of ints, each its own list object -/
def NestAre : List Value → List (List Int) → Led → Prop
  | [], [], _ => True
  | y :: ys, ns :: nss, led => (∃ r vs n, y = .ref r ∧ (r, listOf (List.toArray vs) n) ∈ led ∧ IntsAre vs ns) ∧ NestAre ys nss led
  | _, _, _ => False
theorem PtsAre.nest {led : Led} : ∀ {ys : List Value} {ps : List Int}, PtsAre ys ps led → NestAre ys (ps.map fun p => [(duePt p).a, (duePt p).b, (duePt p).c]) led
  | [], [], _ => trivial
  | _ :: _, _ :: _, ⟨⟨r, ta, tb, tc, n, e, q⟩, t⟩ => ⟨⟨r, _, n, e, q, .cons _ _ (.cons _ _ (.cons _ _ .nil))⟩, PtsAre.nest t⟩
  | [], _ :: _, x => x.elim
  | _ :: _, [], x => x.elim
abbrev nestData (nss : List (List Int)) : PyData := .list (nss.map fun ns => .list (ns.map .int))
theorem readsAll_nest {h₀ h : Heap} {L : Addr} {led : Led} (N : News h₀ L h led) : ∀ {ys : List Value} {nss : List (List Int)}, NestAre ys nss led → ∃ as, ReadsAll h ys (nss.map fun ns => .list (ns.map .int)) as
  | [], [], _ => ⟨_, .nil⟩
  | _ :: _, _ :: _, ⟨⟨r, vs, n, e, q, i⟩, t⟩ => by
    obtain ⟨as, ha⟩ := readsAll_nest N t
    subst e
    exact ⟨_, .cons (reads_of_ints ⟨_, (N _ q).1, rfl, n, rfl⟩ i) ha⟩
  | [], _ :: _, x => x.elim
  | _ :: _, [], x => x.elim
theorem reads_nest {h₀ h : Heap} {L : Addr} {led : Led} {D : Addr} {ys : List Value} {nss : List (List Int)} {k : Nat} (N : News h₀ L h led) (hD : (D, listOf ys.toArray k) ∈ led) (hn : NestAre ys nss led) : ∃ as, Reads h (.ref D) (nestData nss) as := by
  obtain ⟨as, ha⟩ := readsAll_nest N hn
  exact ⟨_, Reads.list (N _ hD).1 rfl rfl (by simpa using ha)⟩
theorem canLay_nest : ∀ nss : List (List Int), PyData.canLayAll0 (nss.map fun ns => .list (ns.map .int)) = true
  | [] => by simp [PyData.canLayAll0]
  | ns :: r => by simp [PyData.canLayAll0, PyData.canLay0, canLay_nest r, canLayAll0_ints]
theorem depth_nest : ∀ nss : List (List Int), PyData.depthAll (nss.map fun ns => .list (ns.map .int)) ≤ 2
  | [] => by simp [PyData.depthAll]
  | ns :: r => by
    have := depth_nest r
    have := PySem.W.depthAll_ints ns
    simp only [List.map_cons, PyData.depthAll, PyData.depth]
    omega
theorem shaped_nest (nss : List (List Int)) : shaped (nestData nss) = true := by
  have h1 := depth_nest nss
  have h2 : PyData.depth (nestData nss) ≤ 64 := by simp only [PyData.depth]; omega
  show (PyData.canLay0 (nestData nss) && decide (PyData.depth (nestData nss) ≤ 64)) = true
  rw [Bool.and_eq_true]
  exact ⟨by simp only [PyData.canLay0]; exact canLay_nest nss, decide_eq_true h2⟩
theorem noMix_nest : ∀ nss mss : List (List Int), noMixAll (nss.map fun ns => PyData.list (ns.map .int)) (mss.map fun ns => .list (ns.map .int)) = true
  | [], [] => by simp [noMixAll]
  | [], _ :: _ => by simp [noMixAll]
  | _ :: _, [] => by simp [noMixAll]
  | _ :: r, _ :: q => by simp [noMixAll, noMix, noMix_nest r q, noMix_ints]
theorem same_nest : ∀ nss mss : List (List Int), PySem.Spec.sameAll (nss.map fun ns => PyData.list (ns.map .int)) (mss.map fun ns => .list (ns.map .int)) = decide (nss = mss)
  | [], [] => by simp [PySem.Spec.sameAll]
  | [], _ :: _ => by simp [PySem.Spec.sameAll]
  | _ :: _, [] => by simp [PySem.Spec.sameAll]
  | n :: r, k :: q => by
    simp only [List.map_cons, PySem.Spec.sameAll, PySem.Spec.same, same_nest r q, same_ints]
    by_cases h : n = k <;> simp [h]
theorem ne_nest {w : World} {A : Around} {E : Value → Shared → Prop} {s : Shared} {h₀ : Heap} {L D D2 : Addr} {led : Led} {ys ys2 : List Value} {nss mss : List (List Int)} {k k2 : Nat} {Q : Value → Shared → Prop} (N : News h₀ L s.heap led) (h1 : (D, listOf ys.toArray k) ∈ led) (h2 : (D2, listOf ys2.toArray k2) ∈ led) (n1 : NestAre ys nss led) (n2 : NestAre ys2 mss led)
    (hu : A.units + 64 < cLine) (h : Q (.bool (!decide (nss = mss))) s) : wpAny (model PySem.Challenge.rw_xg0022_01.row.prog w) A (compareOp .NotEq (.ref D) (.ref D2)) Q E s := by
  obtain ⟨a1, r1⟩ := reads_nest N h1 n1
  obtain ⟨a2, r2⟩ := reads_nest N h2 n2
  exact ne_dataH_same r1 r2 (shaped_nest nss) (shaped_nest mss) hu (by simp only [noMix]; exact noMix_nest nss mss) (by simp only [PySem.Spec.same]; rw [same_nest]; exact h)
theorem eqv_ints (ns ms : List Int) : PyData.eqv (.list (ns.map .int)) (.list (ms.map .int)) = decide (ns = ms) := by
  rw [← same_eq_eqv _ _ (by simp only [noMix]; exact noMix_ints ns ms)]
  simp only [PySem.Spec.same]
  exact same_ints ns ms
theorem nest_mem {led : Led} {y : Value} : ∀ {ys : List Value} {nss : List (List Int)}, NestAre ys nss led → y ∈ ys → ∃ r vs n ns, y = .ref r ∧ (r, listOf (List.toArray vs) n) ∈ led ∧ IntsAre vs ns
  | _ :: _, _ :: _, ⟨⟨r, vs, n, e, q, i⟩, t⟩, h => by
    rcases List.mem_cons.mp h with rfl | h
    · exact ⟨r, vs, n, _, e, q, i⟩
    · exact nest_mem t h
  | [], [], _, h => nomatch h
  | [], _ :: _, x, _ => x.elim
  | _ :: _, [], x, _ => x.elim
theorem ints_inj {vs : List Value} {ns : List Int} (h : IntsAre vs ns) : ∀ {ms : List Int}, IntsAre vs ms → ns = ms := by
  induction h with
  | nil => intro ms k; cases k; rfl
  | cons n t r ih => intro ms k; cases k with | cons _ _ q => rw [ih q]
/-- what a value tells: the ints of its list -/
def Tells (h : Heap) (y : Value) (ns : List Int) : Prop := ∃ r vs, y = .ref r ∧ h.IsList r (List.toArray vs) ∧ IntsAre vs ns
theorem tells_inj {h : Heap} {y : Value} {ns ms : List Int} (a : Tells h y ns) (b : Tells h y ms) : ns = ms := by
  obtain ⟨r, vs, rfl, ⟨o, e, _, n, d⟩, i⟩ := a
  obtain ⟨_, us, e2, ⟨o2, e3, _, n2, d2⟩, i2⟩ := b
  cases e2
  rw [e] at e3; cases e3
  rw [d] at d2
  have := List.toArray_inj (Data.seq.inj d2).1
  subst this
  exact ints_inj i i2
theorem nest_tells {h₀ h : Heap} {L : Addr} {led : Led} (N : News h₀ L h led) : ∀ {ys : List Value} {nss : List (List Int)}, NestAre ys nss led → ∀ ns, ns ∈ nss ↔ ∃ y ∈ ys, Tells h y ns
  | [], [], _, ns => by simp
  | y :: ys, m :: nss, ⟨⟨r, vs, n, e, q, i⟩, t⟩, ns => by
    have ih := nest_tells N t ns
    have ty : Tells h y m := ⟨r, vs, e, ⟨_, (N _ q).1, rfl, n, rfl⟩, i⟩
    constructor
    · intro k
      rcases List.mem_cons.mp k with rfl | k
      · exact ⟨y, .head _, ty⟩
      · obtain ⟨z, hz, tz⟩ := ih.mp k
        exact ⟨z, .tail _ hz, tz⟩
    · rintro ⟨z, hz, tz⟩
      rcases List.mem_cons.mp hz with rfl | hz
      · rw [tells_inj tz ty]; exact .head _
      · exact .tail _ (ih.mpr ⟨z, hz, tz⟩)
  | [], _ :: _, x, _ => x.elim
  | _ :: _, [], x, _ => x.elim

theorem in_nest {w : World} {A : Around} {E : Value → Shared → Prop} {s : Shared} {h₀ : Heap} {L D X : Addr} {led : Led} {ys xs : List Value} {nss : List (List Int)} {ns : List Int} {k kx : Nat} {Q : Value → Shared → Prop} (N : News h₀ L s.heap led) (h1 : (D, listOf ys.toArray k) ∈ led) (hx : (X, listOf xs.toArray kx) ∈ led) (n1 : NestAre ys nss led) (ix : IntsAre xs ns)
    (hu : A.units + 70 < cLine) (h : Q (.bool (decide (ns ∈ nss))) s) : wpAny (model PySem.Challenge.rw_xg0022_01.row.prog w) A (compareOp .In (.ref X) (.ref D)) Q E s := by
  have inst : ∀ y, Decidable (Tells s.heap y ns) := fun y => Classical.propDecidable _
  have hl : s.heap.IsList D ys.toArray := ⟨_, (N _ h1).1, rfl, k, rfl⟩
  have hX : s.heap.IsList X xs.toArray := ⟨_, (N _ hx).1, rfl, kx, rfl⟩
  have tX : Tells s.heap (.ref X) ns := ⟨X, xs, rfl, hX, ix⟩
  refine in_listAt (fun y => decide (Tells s.heap y ns)) hl (fun y hy => ?_) ?_
  · obtain ⟨r, vs, n, ms, rfl, q, i⟩ := nest_mem n1 (by simpa using hy)
    have hr : s.heap.IsList r vs.toArray := ⟨_, (N _ q).1, rfl, n, rfl⟩
    have e : decide (Tells s.heap (.ref r) ns) = PyData.eqv (.list (ms.map .int)) (.list (ns.map .int)) := by
      rw [eqv_ints]
      by_cases c : ms = ns
      · rw [decide_eq_true c]; exact decide_eq_true (c ▸ ⟨r, vs, rfl, hr, i⟩)
      · rw [decide_eq_false c]; exact decide_eq_false fun t => c (tells_inj ⟨r, vs, rfl, hr, i⟩ t)
    rw [e]
    have d1 := PySem.W.depthAll_ints ms
    refine eqAt_reads _ _ A.in1 s _ _ _ _ (reads_of_ints hr i) (reads_of_ints hX ix) (by simp only [PyData.canLay0]; exact canLayAll0_ints ms) (by simp only [PyData.canLay0]; exact canLayAll0_ints ns) ?_
    simp only [PyData.depth]
    show A.units + _ + _ < _
    omega
  · have e : ys.toArray.any (fun y => decide (Tells s.heap y ns)) = decide (ns ∈ nss) := by
      rw [List.any_toArray]
      by_cases c : ns ∈ nss
      · rw [decide_eq_true c, List.any_eq_true]
        obtain ⟨y, hy, t⟩ := (nest_tells N n1 ns).mp c
        exact ⟨y, hy, decide_eq_true t⟩
      · rw [decide_eq_false c, List.any_eq_false]
        intro y hy t
        exact c ((nest_tells N n1 ns).mpr ⟨y, hy, of_decide_eq_true t⟩)
    rw [e]
    exact h
end Mine

namespace Mine
local macro_rules | `(tactic| walk_at "exec While Compare") => `(tactic| (k_dflt (k_extra "my while")))
local macro_rules | `(tactic| walk_at "call ref") => `(tactic| (k_dflt (k_extra "my call")))
local macro_rules | `(tactic| ktr_room) => `(tactic| (show (_ : Nat) < _; (try dsimp only [Around.deeper, Around.in1]); (simp only [rec_is] at *); omega))
local macro_rules | `(tactic| ktr_units) => `(tactic| (show (_ : Nat) < _; (try dsimp only [Around.deeper, Around.in1]); (have hcL9 := cLine_is); omega))
local macro_rules | `(tactic| walk_at "callWith") => `(tactic| ((with_reducible show wpAny _ _ (callWith _ (Value.builtin _) [Value.ref _] _ _) _ _ _); k_dflt (refine callWith_method1 ?_)))
local macro_rules | `(tactic| walk_at "eval ListComp") => `(tactic| (k_here; k_dflt (refine LCg.ListComp_U (F₀ := by k_asm) (by rfl) (by decide) (by rfl) (by decide) (by rfl) ?_)))
local macro_rules | `(tactic| walk_at "CompSrc") => `(tactic| (refine stopHere ?_))
local macro_rules | `(tactic| walk_at "CompEnd") => `(tactic| (refine stopHere ?_))
local macro_rules | `(tactic| k_updF) => `(tactic| (first | exact upd_c2 (by assumption) (by assumption) | exact upd_c3 (by assumption) (by assumption) | exact upd_c4 (by assumption) (by assumption) | exact upd_c5 (by assumption) (by assumption) | exact upd_c6 (by assumption) (by assumption) | exact upd_c7 (by assumption) (by assumption) | exact upd_c8 (by assumption) (by assumption)))
local macro_rules | `(tactic| walk_at "compareOp NotEq ref ref") => `(tactic| (k_dflt (k_extra "my ne")))
section
variable {w : World} {fa : Addr} {cd : Value} {mean : ExcName → Option Value} {mg mb : PySem.Str → Option Value} {dp un : Nat} {gd : Option (List Code)} {outer : List Env} {A₀ : Around} {base h₀ : Heap} {L : Addr} {s : Shared} {Q : Flow → Shared → Prop} {c1 c2 c3 c4 c5 c6 c7 c8 : Addr} {o1 o2 o3 o4 o5 o6 o7 o8 : Obj}
theorem stmt4 {pl D : Addr} {pvs ys : List Value} {pn k : Nat} {ps : List Int} {own : Led} {u : PySem.Str → Option Value}
   (K : Frag.In (hd.heap_39 w.params) h₀) (B : Below A₀ base outer h₀) (T : Top hd.view_39 theLoose mean mg mb h₀) (hd : dp + 40 < recursionLimit) (hu : un + 400 < cLine)
   (F : Fr h₀ L s.heap (fun y => if y = Str.ofString "places" then some (.ref pl) else u y)) (N : News h₀ L s.heap ((c8, o8) :: (c7, o7) :: (c6, o6) :: (c5, o5) :: (c4, o4) :: (c3, o3) :: (c2, o2) :: (c1, o1) :: own))
   (hoff : OwnOff own [c8, c7, c6, c5, c4, c3, c2, c1])
   (d2 : o2.data = .cell (some (.ref D))) (hD : (D, listOf ys.toArray k) ∈ own) (pa₀ : PtsAre ys ps own) (hpl : (pl, listOf pvs.toArray pn) ∈ own) (hm : IntsAre pvs ps) (hlo : ∀ p ∈ ps, 0 ≤ p) (hhi : ∀ p ∈ ps, p < 12) (hlen : ps.length ≤ 10)
   (hQ : ∀ (h' : Heap) (tk' : Nat), Fr h₀ L h' (fun y => if y = Str.ofString "places" then some (.ref pl) else u y) → News h₀ L h' ((c8, o8) :: (c7, o7) :: (c6, o6) :: (c5, o5) :: (c4, o4) :: (c3, o3) :: (c2, o2) :: (c1, o1) :: own) → Q .next { s with heap := h', toks := tk' })
   : wpAny (model PySem.Challenge.rw_xg0022_01.row.prog w) (lawA fa cd dp un gd L (lawCl c1 c2 c3 c4 c5 c6 c7 c8) outer) (exec (lawSt 4) (lawEnv fa cd L (lawCl c1 c2 c3 c4 c5 c6 c7 c8))) Q (fun _ _ => False) s := by
  have eI : lawSt 4 = lawSt 4 := rfl
  have eS : lawS = lawS := rfl
  conv at eI => lhs; whnf
  conv at eS => lhs; whnf
  rw [← eI]
  unfold lawA lawEnv at *
  rw [← eS]
  clear eI eS
  revert K
  k_fill
  intro K
  k_steps
  unfold Halt
  have hl : pvs.toArray.size = ps.length := by rw [List.size_toArray, hm.length]
  refine LCg.CompSrc.ledger (its := pvs.toArray) (k := pn) rfl (by assumption) (by assumption) (by simp [hpl]) (by rw [hl, sizeLine_eq]; omega) (fun g => ?_)
  refine rest_inv (fun i ys2 news => ∃ ex : Led, news = (c8, o8) :: (c7, o7) :: (c6, o6) :: (c5, o5) :: (c4, o4) :: (c3, o3) :: (c2, o2) :: (c1, o1) :: ex ∧ (∀ p ∈ own, p ∈ ex) ∧ PtsAre ys2 (ps.take i) ex) ?turn ?fin _ 0 [] _ (Nat.zero_add _) ⟨own, rfl, fun _ h => h, trivial⟩ (.inr ⟨_, by simp only [List.mem_cons]; exact .inr (.inr (.inr (.inr (.inr (.inr (.inr (.inr hpl))))))), rfl, _, rfl⟩)
  case turn =>
    rintro i ys2 _ v I oI C oC D3 m₂ h tk E' hi ⟨ex, rfl, mo, pa⟩ hS hv hns hx F1 N1 off ne
    obtain ⟨p, t, e2, rfl⟩ := ints_at hm (by simpa using hv)
    have hp := List.mem_of_getElem? e2
    have hp0 := hlo p hp
    have hp1 := hhi p hp
    clear hQ hv
    k_with "my call" => (refine' Calls.use (due_ok w hp0 hp1) ?k1 ?k2 ?k3 ?k4 ?k5 ?k6 ?k7 ?k8 ?_; (case k1 => k_asm); (case k2 => k_asm); (case k3 => k_asm); (case k4 => k_asm); (case k5 => k_asm); (case k6 => first | exact rfl | assumption); (case k7 => ktr_room); (case k8 => ktr_units); intro v9 n9 h9 t9 r9 F9 N9; obtain ⟨r8, ta8, tb8, tc8, k8, rfl, rfl, off8⟩ := r9; (try dsimp only); (try k_fold))
    k_steps
    unfold Halt
    refine LCg.CompEnd.intro F9 N9 ((c8, o8) :: (c7, o7) :: (c6, o6) :: (c5, o5) :: (c4, o4) :: (c3, o3) :: (c2, o2) :: (c1, o1) :: (r8, ptObj (duePt p) ta8 tb8 tc8 k8) :: ex) ?_ (LCg.Off3.of ?_) ?_ ⟨_, rfl, fun q hq => .tail _ (mo q hq), ?_⟩
    · exact mv_in (l := (I, oI) :: (C, oC) :: (D3, LCg.lst ys2) :: (c8, o8) :: (c7, o7) :: (c6, o6) :: (c5, o5) :: (c4, o4) :: (c3, o3) :: (c2, o2) :: (c1, o1) :: [])
    · intro q hq
      rcases List.mem_cons.mp (mv_in (l := (c8, o8) :: (c7, o7) :: (c6, o6) :: (c5, o5) :: (c4, o4) :: (c3, o3) :: (c2, o2) :: (c1, o1) :: []) q hq) with h | h
      · rw [h]; exact ⟨fun e => off8 _ (.head _) e.symm, fun e => off8 _ (.tail _ (.head _)) e.symm, fun e => off8 _ (.tail _ (.tail _ (.head _))) e.symm⟩
      · exact off.mem q h
    · exact .inr ⟨_, by simp only [List.mem_cons]; exact .inr (.inr (.inr (.inr (.inr (.inr (.inr (.inr (.inr (mo _ hpl))))))))), rfl, _, rfl⟩
    · rw [List.take_add_one, e2]
      exact PtsAre.snoc ⟨r8, ta8, tb8, tc8, k8, rfl, .head _⟩ (pa.mono fun q hq => .tail _ hq)
  case fin =>
    rintro ys2 _ ⟨ex, rfl, mo, pa⟩ -
    unfold LCg.FinE
    intro D3 h tk F1 N1 o1'
    rw [hl, List.take_length] at pa
    have pa₁ := pa₀.mono mo
    have hD1 := mo _ hD
    k_with "my ne" => (refine ne_nest N1 (k := k) (k2 := ys2.length) (ys := ys) (ys2 := ys2) (by simp [hD1]) (by simp) (PtsAre.nest (ps := ps) (pa₁.mono fun q hq => by simp [hq])) (PtsAre.nest (ps := ps) (pa.mono fun q hq => by simp [hq])) (by ktr_units) ?_; rw [decide_eq_true rfl])
    k_steps
    exact hQ _ _ F1 (news_sub N1 (fun q hq => .tail _ (mv_more (l := (c8, o8) :: (c7, o7) :: (c6, o6) :: (c5, o5) :: (c4, o4) :: (c3, o3) :: (c2, o2) :: (c1, o1) :: []) mo q hq)))
end
end Mine

namespace Mine
local macro_rules | `(tactic| walk_at "exec While Compare") => `(tactic| (k_dflt (k_extra "my while")))
local macro_rules | `(tactic| walk_at "call ref") => `(tactic| (k_dflt (k_extra "my call")))
local macro_rules | `(tactic| ktr_room) => `(tactic| (show (_ : Nat) < _; (try dsimp only [Around.deeper, Around.in1]); (simp only [rec_is] at *); omega))
local macro_rules | `(tactic| ktr_units) => `(tactic| (show (_ : Nat) < _; (try dsimp only [Around.deeper, Around.in1]); (have hcL9 := cLine_is); omega))
local macro_rules | `(tactic| walk_at "callWith") => `(tactic| ((with_reducible show wpAny _ _ (callWith _ (Value.builtin _) [Value.ref _] _ _) _ _ _); k_dflt (refine callWith_method1 ?_)))
local macro_rules | `(tactic| walk_at "eval ListComp") => `(tactic| (k_here; k_dflt (refine LCg.ListComp_U (F₀ := by k_asm) (by rfl) (by decide) (by rfl) (by decide) (by rfl) ?_)))
local macro_rules | `(tactic| walk_at "CompSrc") => `(tactic| (refine stopHere ?_))
local macro_rules | `(tactic| walk_at "CompEnd") => `(tactic| (refine stopHere ?_))
local macro_rules | `(tactic| k_updF) => `(tactic| (first | exact upd_c2 (by assumption) (by assumption) | exact upd_c3 (by assumption) (by assumption) | exact upd_c4 (by assumption) (by assumption) | exact upd_c5 (by assumption) (by assumption) | exact upd_c6 (by assumption) (by assumption) | exact upd_c7 (by assumption) (by assumption) | exact upd_c8 (by assumption) (by assumption)))
local macro_rules | `(tactic| walk_at "call type:range") => `(tactic| (refine stopHere ?_))
abbrev rgObj (a b : Int) (t u v : Tok) : Obj := { cls := .type "range", data := .fields #[.int a t, .int b u, .int 1 v] }
theorem range_led {M : World} {A : Around} {E : Value → Shared → Prop} {s : Shared} {h₀ : Heap} {L : Addr} {m : PySem.Str → Option Value} {news : Led} {n : Int} {t : Tok} {Q : Value → Shared → Prop} (F : Fr h₀ L s.heap m) (N : News h₀ L s.heap news)
    (h : ∀ r ta tb tc h' tk', Fr h₀ L h' m → News h₀ L h' ((r, rgObj 0 n ta tb tc) :: news) → (∀ p ∈ news, p.1 ≠ r) → Q (.ref r) { s with heap := h', toks := tk' }) :
    wpAny (model PySem.Challenge.rw_xg0022_01.row.prog M) A (call (.type "range") [.int n t]) Q E s := by
  refine call_range_1 (h _ _ _ _ _ _ (F.push _) (News.push F N _) fun p hp => ?_)
  exact Nat.ne_of_lt (Heap.lt_size (N p hp).1)
section
variable {w : World} {fa : Addr} {cd : Value} {mean : ExcName → Option Value} {mg mb : PySem.Str → Option Value} {dp un : Nat} {gd : Option (List Code)} {outer : List Env} {A₀ : Around} {base h₀ : Heap} {L : Addr} {s : Shared} {Q : Flow → Shared → Prop} {c1 c2 c3 c4 c5 c6 c7 c8 : Addr} {o1 o2 o3 o4 o5 o6 o7 o8 : Obj}
theorem stmt5 {pl : Addr} {pvs : List Value} {pn n : Nat} {ps : List Int} {own : Led} {u : PySem.Str → Option Value} {v3 : Option Value}
   (K : Frag.In (hd.heap_39 w.params) h₀) (B : Below A₀ base outer h₀) (T : Top hd.view_39 theLoose mean mg mb h₀) (hd : dp + 40 < recursionLimit) (hu : un + 400 < cLine)
   (F : Fr h₀ L s.heap (fun y => if y = Str.ofString "places" then some (.ref pl) else u y)) (N : News h₀ L s.heap ((c8, o8) :: (c7, o7) :: (c6, o6) :: (c5, o5) :: (c4, o4) :: (c3, o3) :: (c2, o2) :: (c1, o1) :: own))
   (hoff : OwnOff own [c8, c7, c6, c5, c4, c3, c2, c1]) (lt : @LT.lt Nat _ c1 c2 ∧ @LT.lt Nat _ c2 c3 ∧ @LT.lt Nat _ c3 c4 ∧ @LT.lt Nat _ c4 c5 ∧ @LT.lt Nat _ c5 c6 ∧ @LT.lt Nat _ c6 c7 ∧ @LT.lt Nat _ c7 c8)
   (d3 : o3.data = .cell v3) (hpl : (pl, listOf pvs.toArray pn) ∈ own) (hm : IntsAre pvs ps) (hlen : ps.length ≤ 10) (hn : ps.length = 2 * n)
   (hQ : ∀ (r : Addr) (ta tb tc : Tok) (o' : Obj) (h' : Heap) (tk' : Nat), Fr h₀ L h' (fun y => if y = Str.ofString "places" then some (.ref pl) else u y) → News h₀ L h' ((c8, o8) :: (c7, o7) :: (c6, o6) :: (c5, o5) :: (c4, o4) :: (c3, o') :: (c2, o2) :: (c1, o1) :: (r, rgObj 0 n ta tb tc) :: own) →
     OwnOff ((r, rgObj 0 n ta tb tc) :: own) [c8, c7, c6, c5, c4, c3, c2, c1] → More ((r, rgObj 0 n ta tb tc) :: own) own → o'.data = .cell (some (.ref r)) → Q .next { s with heap := h', toks := tk' })
   : wpAny (model PySem.Challenge.rw_xg0022_01.row.prog w) (lawA fa cd dp un gd L (lawCl c1 c2 c3 c4 c5 c6 c7 c8) outer) (exec (lawSt 5) (lawEnv fa cd L (lawCl c1 c2 c3 c4 c5 c6 c7 c8))) Q (fun _ _ => False) s := by
  have eI : lawSt 5 = lawSt 5 := rfl
  have eS : lawS = lawS := rfl
  conv at eI => lhs; whnf
  conv at eS => lhs; whnf
  rw [← eI]
  unfold lawA lawEnv at *
  rw [← eS]
  clear eI eS
  revert K
  k_fill
  intro K
  have N2 : News h₀ L s.heap ((c8, o8) :: (c7, o7) :: (c6, o6) :: (c5, o5) :: (c4, o4) :: (c3, o3) :: (c2, o2) :: (c1, o1) :: (pl, listOf pvs.toArray pn) :: own) := news_sub N (fun q hq => by
    rcases List.mem_cons.mp (mv_in (l := (c8, o8) :: (c7, o7) :: (c6, o6) :: (c5, o5) :: (c4, o4) :: (c3, o3) :: (c2, o2) :: (c1, o1) :: []) q hq) with h | h
    · rw [h]; exact List.mem_append_right ((c8, o8) :: (c7, o7) :: (c6, o6) :: (c5, o5) :: (c4, o4) :: (c3, o3) :: (c2, o2) :: (c1, o1) :: []) hpl
    · exact h)
  clear N
  k_steps
  unfold Halt
  have e : (ps.length : Int).fdiv 2 = (n : Int) := by rw [fdiv2, hn]; omega
  simp only [e]
  refine range_led F N2 ?_
  intro r ta tb tc h9 tk9 F9 N9 off9
  have off2 : ∀ p ∈ (c8, o8) :: (c7, o7) :: (c6, o6) :: (c5, o5) :: (c4, o4) :: (c3, o3) :: (c2, o2) :: (c1, o1) :: own, p.1 ≠ r := fun q hq => off9 q (mv_more (l := (c8, o8) :: (c7, o7) :: (c6, o6) :: (c5, o5) :: (c4, o4) :: (c3, o3) :: (c2, o2) :: (c1, o1) :: []) (fun p hp => .tail _ hp) q hq)
  have N3 : News h₀ L h9 ((c8, o8) :: (c7, o7) :: (c6, o6) :: (c5, o5) :: (c4, o4) :: (c3, o3) :: (c2, o2) :: (c1, o1) :: (r, rgObj 0 n ta tb tc) :: own) := news_sub N9 (fun q hq => by
    rcases List.mem_cons.mp (mv_in (l := (c8, o8) :: (c7, o7) :: (c6, o6) :: (c5, o5) :: (c4, o4) :: (c3, o3) :: (c2, o2) :: (c1, o1) :: []) q hq) with h | h
    · rw [h]; exact .head _
    · exact .tail _ (mv_more (l := (c8, o8) :: (c7, o7) :: (c6, o6) :: (c5, o5) :: (c4, o4) :: (c3, o3) :: (c2, o2) :: (c1, o1) :: []) (fun p hp => .tail _ hp) q h))
  have oo := off_cons hoff (o := rgObj 0 n ta tb tc) (cells_ne off2)
  refine storeX_C F9 N3 rfl (upd_c3 oo lt) d3 ?_
  intro h' o' F' N' d'
  exact hQ r ta tb tc o' h' tk9 F' N' oo ((More.refl own).cons fun q hq => off2 q (by simp [hq])) d'
theorem stmt6 {own : Led} {m : PySem.Str → Option Value} {v4 : Option Value}
   (K : Frag.In (hd.heap_39 w.params) h₀) (B : Below A₀ base outer h₀) (T : Top hd.view_39 theLoose mean mg mb h₀) (hd : dp + 40 < recursionLimit) (hu : un + 400 < cLine)
   (F : Fr h₀ L s.heap m) (N : News h₀ L s.heap ((c8, o8) :: (c7, o7) :: (c6, o6) :: (c5, o5) :: (c4, o4) :: (c3, o3) :: (c2, o2) :: (c1, o1) :: own))
   (hoff : OwnOff own [c8, c7, c6, c5, c4, c3, c2, c1]) (lt : @LT.lt Nat _ c1 c2 ∧ @LT.lt Nat _ c2 c3 ∧ @LT.lt Nat _ c3 c4 ∧ @LT.lt Nat _ c4 c5 ∧ @LT.lt Nat _ c5 c6 ∧ @LT.lt Nat _ c6 c7 ∧ @LT.lt Nat _ c7 c8) (d4 : o4.data = .cell v4)
   (hQ : ∀ (cr : Addr) (o' : Obj) (h' : Heap) (tk' : Nat), Fr h₀ L h' m → News h₀ L h' ((cr, listOf ([] : List Value).toArray 0) :: (c8, o8) :: (c7, o7) :: (c6, o6) :: (c5, o5) :: (c4, o') :: (c3, o3) :: (c2, o2) :: (c1, o1) :: own) →
     OwnOff own [cr] → (∀ b ∈ [c8, c7, c6, c5, c4, c3, c2, c1], cr ≠ b) → o'.data = .cell (some (.ref cr)) → Q .next { s with heap := h', toks := tk' })
   : wpAny (model PySem.Challenge.rw_xg0022_01.row.prog w) (lawA fa cd dp un gd L (lawCl c1 c2 c3 c4 c5 c6 c7 c8) outer) (exec (lawSt 6) (lawEnv fa cd L (lawCl c1 c2 c3 c4 c5 c6 c7 c8))) Q (fun _ _ => False) s := by
  have eI : lawSt 6 = lawSt 6 := rfl
  have eS : lawS = lawS := rfl
  conv at eI => lhs; whnf
  conv at eS => lhs; whnf
  rw [← eI]
  unfold lawA lawEnv at *
  rw [← eS]
  clear eI eS
  revert K
  k_fill
  intro K
  k_steps
  rename_i cr h9 l1 h' o' F' N' d'
  obtain ⟨a8, a7, a6, a5, a4, a3, a2, a1, al⟩ := l1
  refine hQ cr o' h' _ F' N' ?_ ?_ d'
  · intro p hp b hb
    rw [List.mem_singleton.mp hb]
    exact Nat.ne_of_lt (allLt_mem _ al p hp)
  · intro b hb
    simp only [List.mem_cons, List.not_mem_nil, or_false] at hb
    rcases hb with h | h | h | h | h | h | h | h <;> rw [h] <;> exact Ne.symm (Nat.ne_of_lt (by assumption))
end
end Mine

namespace Mine
local macro_rules | `(tactic| walk_at "exec While Compare") => `(tactic| (k_dflt (k_extra "my while")))
local macro_rules | `(tactic| walk_at "call ref") => `(tactic| (k_dflt (k_extra "my call")))
local macro_rules | `(tactic| ktr_room) => `(tactic| (show (_ : Nat) < _; (try dsimp only [Around.deeper, Around.in1]); (simp only [rec_is] at *); omega))
local macro_rules | `(tactic| ktr_units) => `(tactic| (show (_ : Nat) < _; (try dsimp only [Around.deeper, Around.in1]); (have hcL9 := cLine_is); omega))
/-- after a turn's body -/
def PostC (h₀ : Heap) (L I : Addr) (oI : Obj) (Jn : (PySem.Str → Option Value) → Led → Prop) (s₁ : Shared) (Q : Flow → Shared → Prop) (f : Flow) (s₂ : Shared) : Prop :=
  match f with
  | .ret v => Q (.ret v) s₂
  | .brk => Q .next s₂
  | _ => ∃ h' tk' m' news', s₂ = { s₁ with heap := h', toks := tk' } ∧ Fr h₀ L h' m' ∧ News h₀ L h' ((I, oI) :: news') ∧ (∀ p ∈ news', p.1 ≠ I) ∧ Jn m' news'
/-- a loop over range(n), whatever its variable is -/
def RangeC (w : World) (A : Around) (h₀ : Heap) (env : Env) (x : PySem.Str) (body : List Stmt) (Q : Flow → Shared → Prop) (xv : Value) (s₁ : Shared) : Prop :=
  ∃ (r : Addr) (n : Nat) (t u v : Tok) (m : PySem.Str → Option Value) (news : Led) (J : Nat → (PySem.Str → Option Value) → Led → Prop), xv = .ref r ∧ A.handled = none ∧ IsRange s₁.heap r 0 n 1 t u v ∧ n < 2 ^ 31 ∧ Fr h₀ env.locals s₁.heap m ∧ News h₀ env.locals s₁.heap news ∧ J 0 m news ∧
   (∀ i I oI m₁ news₁ h tk tv, i < n → J i m₁ news₁ → Fr h₀ env.locals h m₁ → News h₀ env.locals h ((I, oI) :: news₁) → (∀ p ∈ news₁, p.1 ≠ I) →
     wpAny (model PySem.Challenge.rw_xg0022_01.row.prog w) A (storeName env x (.int i tv)) (fun _ s₂ => wpAny (model PySem.Challenge.rw_xg0022_01.row.prog w) A (execs body env) (PostC h₀ env.locals I oI (J (i + 1)) { s₁ with heap := h, toks := tk } Q) (fun _ _ => False) s₂) (fun _ _ => False) { s₁ with heap := h, toks := tk }) ∧
   (∀ h' tk m' news', Fr h₀ env.locals h' m' → News h₀ env.locals h' news' → J n m' news' → Q .next { s₁ with heap := h', toks := tk })
theorem for_rangeC {w : World} {A : Around} {h₀ : Heap} {env : Env} {x : PySem.Str} {px pos : Pos} {iter : Expr} {body : List Stmt} {Q : Flow → Shared → Prop} {s : Shared}
    (h : wpAny (model PySem.Challenge.rw_xg0022_01.row.prog w) A (eval iter env) (RangeC w A h₀ env x body Q) (fun _ _ => False) s)
    (hs : ∀ x, foldedSetIterable iter env x = pure x := by intro _; rfl) :
    wpAny (model PySem.Challenge.rw_xg0022_01.row.prog w) A (exec (.For (.Name x px) iter body [] pos) env) Q (fun _ _ => False) s := by
  refine wpAny_For (wpAny_mono h (fun xv s₁ h₁ => ?_) fun _ _ e => e) hs
  obtain ⟨r, n, t, u, v, m, news, J, rfl, hh, hr, hn, F, N, h0, step, fin⟩ := h₁
  have esz : Builtin.Range.rangeSize 0 (n : Int) 1 = (n : Int) := by rw [rangeSize_nat]; omega
  refine wpAny_pyIter_range hr (small_one (by omega) (by omega) (by omega) (by omega)) ?_
  have W := Walks.range (prog := PySem.Challenge.rw_xg0022_01.row.prog) (w := w) hh s₁.heap.objs.size 0 1 n
  generalize hI : s₁.heap.objs.size = I at *
  have hIn : h₀.get? I = none := hI ▸ next_is_new F
  have hIL : env.locals ≠ I := hI ▸ Nat.ne_of_lt F.ns.lt
  have hnI : ∀ p ∈ news, p.1 ≠ I := fun p hp => hI ▸ Nat.ne_of_lt (Heap.lt_size (N p hp).1)
  rw [esz]
  generalize hH : s₁.heap.push { cls := .type "range_iterator", data := .fields #[rawInt 0, rawInt (n : Int), rawInt 1] } = H
  have hst : IsRangeIter H I (0 + ((0 : Nat) : Int) * 1) ((n : Int) - ((0 : Nat) : Int)) 1 := by
    show H.get? I = _
    rw [← hH, ← hI]
    simpa using Heap.get?_push_size _ rfl
  have F₀ : Fr h₀ env.locals H m := hH ▸ F.push _
  have N₀ : News h₀ env.locals H news := hH ▸ fun p hp => ⟨Heap.get?_push_of_some _ (N p hp).1, (N p hp).2⟩
  refine codeAny_forLoop
    (fun k s' => ∃ h' tk m' news' i, s' = { s₁ with heap := h', toks := tk } ∧ IsRangeIter h' I (0 + ((i : Nat) : Int) * 1) ((n : Int) - ((i : Nat) : Int)) 1 ∧ Fr h₀ env.locals h' m' ∧ News h₀ env.locals h' news' ∧ (∀ p ∈ news', p.1 ≠ I) ∧ J i m' news' ∧ i ≤ n ∧ k = n + 1 - i) ?_ (n + 1)
    ⟨H, s₁.toks, m, news, 0, rfl, hst, F₀, N₀, hnI, h0, Nat.zero_le _, rfl⟩
  rintro k s' ⟨h', tk, m', news', i, rfl, hst', F', N', hnw', hJ, hi, rfl⟩
  have next : ∀ h₁ : Heap, (∀ b o, b ∉ [I] → h'.get? b = some o → h₁.get? b = some o) → Fr h₀ env.locals h₁ m' ∧ News h₀ env.locals h₁ news' := fun h₁ hk₁ =>
    ⟨⟨F'.ns.at' fun o e => hk₁ _ o (by simpa using hIL) e, fun b o e => hk₁ b o (fun hb => by rw [List.mem_singleton.mp hb, hIn] at e; cases e) (F'.keep b o e), F'.above⟩, fun p hp => ⟨hk₁ _ _ (by simpa using hnw' p hp) (N' p hp).1, (N' p hp).2⟩⟩
  have up : ∀ {α : Type} {c : Sem α} {q : α → Shared → Prop} {e : Value → Shared → Prop} {z : Shared}, wpAny (model PySem.Challenge.rw_xg0022_01.row.prog w) A c q (fun _ _ => False) z → wpAny (model PySem.Challenge.rw_xg0022_01.row.prog w) A c q e z := fun h => wpAny_mono h (fun _ _ x => x) fun _ _ x => x.elim
  by_cases hlt : i < n
  · refine W.item i _ _ _ hlt hst' fun v h₁ tk₁ hP hst₁ hk₁ => ?_
    obtain ⟨tv, rfl⟩ := hP
    obtain ⟨F₁, N₁⟩ := next h₁ hk₁
    have e1 : (0 : Int) + (i : Int) * 1 = (i : Int) := by omega
    rw [e1]
    have hget : h₁.get? I = some _ := hst₁
    refine wpAny_assign_Name (wpAny_mono (step i I _ m' news' h₁ tk₁ tv hlt hJ F₁ (fun p hp => by
      rcases List.mem_cons.mp hp with rfl | hp
      · exact ⟨hget, Ne.symm hIL, hIn⟩
      · exact N₁ p hp) hnw') (fun _ s₂ h₂ => wpAny_mono h₂ (fun f s₃ h₃ => ?_) fun _ _ x => x.elim) fun _ _ x => x.elim)
    cases f with
    | ret v => exact h₃
    | brk => exact h₃
    | cont =>
      obtain ⟨h₃', tk₃, m₂, news₂, rfl, F₃, N₃, ha₃, hJ₃⟩ := h₃
      exact ⟨n + 1 - (i + 1), by omega, h₃', tk₃, m₂, news₂, i + 1, rfl, (N₃ _ (.head _)).1, F₃, fun p hp => N₃ p (.tail _ hp), ha₃, hJ₃, hlt, rfl⟩
    | next =>
      obtain ⟨h₃', tk₃, m₂, news₂, rfl, F₃, N₃, ha₃, hJ₃⟩ := h₃
      exact ⟨n + 1 - (i + 1), by omega, h₃', tk₃, m₂, news₂, i + 1, rfl, (N₃ _ (.head _)).1, F₃, fun p hp => N₃ p (.tail _ hp), ha₃, hJ₃, hlt, rfl⟩
  · have hin : i = n := by omega
    subst hin
    refine W.done _ _ _ hst' fun h₁ tk₁ hk₁ => wpAny_execs_nil ?_
    obtain ⟨F₁, N₁⟩ := next h₁ hk₁
    exact fin h₁ tk₁ m' news' F₁ N₁ hJ
end Mine

namespace Mine
local macro_rules | `(tactic| walk_at "exec While Compare") => `(tactic| (k_dflt (k_extra "my while")))
local macro_rules | `(tactic| walk_at "call ref") => `(tactic| (k_dflt (k_extra "my call")))
local macro_rules | `(tactic| ktr_room) => `(tactic| (show (_ : Nat) < _; (try dsimp only [Around.deeper, Around.in1]); (simp only [rec_is] at *); omega))
local macro_rules | `(tactic| ktr_units) => `(tactic| (show (_ : Nat) < _; (try dsimp only [Around.deeper, Around.in1]); (have hcL9 := cLine_is); omega))
local macro_rules | `(tactic| walk_at "callWith") => `(tactic| ((with_reducible show wpAny _ _ (callWith _ (Value.builtin _) [Value.ref _] _ _) _ _ _); k_dflt (refine callWith_method1 ?_)))
local macro_rules | `(tactic| walk_at "eval ListComp") => `(tactic| (k_here; k_dflt (refine LCg.ListComp_U (F₀ := by k_asm) (by rfl) (by decide) (by rfl) (by decide) (by rfl) ?_)))
local macro_rules | `(tactic| walk_at "CompSrc") => `(tactic| (refine stopHere ?_))
local macro_rules | `(tactic| walk_at "CompEnd") => `(tactic| (refine stopHere ?_))
local macro_rules | `(tactic| k_updF) => `(tactic| (first | exact upd_c2 (by assumption) (by assumption) | exact upd_c3 (by assumption) (by assumption) | exact upd_c4 (by assumption) (by assumption) | exact upd_c5 (by assumption) (by assumption) | exact upd_c6 (by assumption) (by assumption) | exact upd_c7 (by assumption) (by assumption) | exact upd_c8 (by assumption) (by assumption)))
local macro_rules | `(tactic| walk_at "subscriptTail") => `(tactic| (k_dflt (k_extra "my item")))
local macro_rules | `(tactic| walk_at "binaryOp Mult int int") => `(tactic| (k_dflt (k_extra "my mult")))
local macro_rules | `(tactic| walk_at "call builtin:list.append") => `(tactic| (k_dflt (k_extra "my append")))
theorem item_list {M : World} {A : Around} {E : Value → Shared → Prop} {s : Shared} {value slice : Expr} {l : Addr} {vs : List Value} {n : Nat} {i : Nat} {k : Int} {u : Tok} {v : Value} {Q : Value → Shared → Prop} (ho : s.heap.get? l = some (listOf vs.toArray n))
    (hk : k = (i : Int)) (hv : vs[i]? = some v) (hlen : vs.length ≤ 1000) (h : Q v s)
    (hs : subscripted slice false (.ref l) (.int k u) = operate [.ref l, .int k u] (getItem (.ref l) (.int k u)) := by with_unfolding_all rfl) :
    wpAny (model PySem.Challenge.rw_xg0022_01.row.prog M) A (subscriptTail value slice (.ref l) (.int k u)) Q E s := by
  have hL : s.heap.IsList l vs.toArray := ⟨_, ho, rfl, n, rfl⟩
  have hlt : i < vs.length := by
    rcases List.getElem?_eq_some_iff.mp hv with ⟨h, _⟩; exact h
  subst hk
  exact tail_any hL.typeIs slot_list_getitem.lookup (wpAny_getItem_list hL (by omega) (by omega) (by simpa using hv) h) hs
theorem dpart_b {p : Int} (h0 : 0 ≤ p) (h1 : p < 12) (c : Int) : 0 ≤ dpart p c ∧ dpart p c ≤ 16 := by
  obtain ⟨a, b⟩ := min3_idx (c := c) h0 h1
  unfold dpart
  generalize min3 ((p - c).fmod 12) (12 - (p - c).fmod 12) 4 = x at *
  have e := fmod2 p
  have : x = 0 ∨ x = 1 ∨ x = 2 ∨ x = 3 ∨ x = 4 := by omega
  rcases this with h | h | h | h | h <;> subst h <;> simp <;> omega
theorem due_b {p : Int} (h0 : 0 ≤ p) (h1 : p < 12) : Pt.ok ⟨(duePt p).a, (duePt p).b, (duePt p).c⟩ := by
  have a := dpart_b h0 h1 0
  have b := dpart_b h0 h1 4
  have c := dpart_b h0 h1 8
  unfold Pt.ok duePt
  dsimp only
  omega
theorem mul_b {x y M : Int} (hx : -M ≤ x ∧ x ≤ M) (hy : -M ≤ y ∧ y ≤ M) : -(M * M) ≤ x * y ∧ x * y ≤ M * M := by
  have h : (x * y).natAbs ≤ M.toNat * M.toNat := by
    rw [Int.natAbs_mul]
    exact Nat.mul_le_mul (by omega) (by omega)
  have e : ((M.toNat * M.toNat : Nat) : Int) = M * M := by
    rw [Int.natCast_mul, Int.toNat_of_nonneg (by omega)]
  omega
theorem side_b {a b p : Pt} (ha : a.ok) (hb : b.ok) (hp : p.ok) : -8000000000000 ≤ sideOf a b p ∧ sideOf a b p ≤ 8000000000000 := by
  obtain ⟨⟨a1, a2⟩, a3, a4⟩ := ha
  obtain ⟨⟨b1, b2⟩, b3, b4⟩ := hb
  obtain ⟨⟨p1, p2⟩, p3, p4⟩ := hp
  have x := mul_b (x := b.b - a.b) (y := p.c - a.c) (M := 2000000) (by omega) (by omega)
  have y := mul_b (x := b.c - a.c) (y := p.b - a.b) (M := 2000000) (by omega) (by omega)
  unfold sideOf
  omega
theorem PtsAre.at {led : Led} : ∀ {ys : List Value} {ps : List Int}, PtsAre ys ps led → ∀ i : Nat, i < ps.length → ∃ r ta tb tc n, ys[i]? = some (.ref r) ∧ (r, listOf [Value.int (duePt (ps.getD i 0)).a ta, .int (duePt (ps.getD i 0)).b tb, .int (duePt (ps.getD i 0)).c tc].toArray n) ∈ led
  | [], [], _, i, h => by simp at h
  | y :: ys, p :: ps, ⟨⟨r, ta, tb, tc, n, e, q⟩, t⟩, 0, h => ⟨r, ta, tb, tc, n, by simp [e], by simpa using q⟩
  | y :: ys, p :: ps, ⟨_, t⟩, i + 1, h => by
    have := PtsAre.at t i (by simpa using h)
    simpa using this
  | [], _ :: _, x, _, _ => x.elim
  | _ :: _, [], x, _, _ => x.elim
/-- the two pairs k and j of the places cross -/
def sideAt (ps : List Int) (k j e : Nat) : Int := sideOf (duePt (ps.getD (2 * k) 0)) (duePt (ps.getD (2 * k + 1) 0)) (duePt (ps.getD (2 * j + e) 0))
abbrev crossAt (ps : List Int) (k j : Nat) : Prop := sideAt ps k j 0 * sideAt ps k j 1 < 0
theorem getD_mem {ps : List Int} {i : Nat} (h : i < ps.length) : ps.getD i 0 ∈ ps := by
  rw [List.getD_eq_getElem?_getD, List.getElem?_eq_getElem h]; exact List.getElem_mem _
theorem upd_cr {cr : Addr} {c1 c2 c3 c4 c5 c6 c7 c8 : Addr} {o1 o2 o3 o4 o5 o6 o7 o8 : Obj} {own : Led} (hoff : OwnOff own [cr, c8, c7, c6, c5, c4, c3, c2, c1]) (hcr : ∀ b ∈ [c8, c7, c6, c5, c4, c3, c2, c1], cr ≠ b) : ∀ p ∈ (c8, o8) :: (c7, o7) :: (c6, o6) :: (c5, o5) :: (c4, o4) :: (c3, o3) :: (c2, o2) :: (c1, o1) :: own, p.1 ≠ cr := by
  intro p hp e
  simp only [List.mem_cons] at hp
  rcases hp with h | h | h | h | h | h | h | h | h
  · exact hcr c8 (by simp) (by rw [← e, h])
  · exact hcr c7 (by simp) (by rw [← e, h])
  · exact hcr c6 (by simp) (by rw [← e, h])
  · exact hcr c5 (by simp) (by rw [← e, h])
  · exact hcr c4 (by simp) (by rw [← e, h])
  · exact hcr c3 (by simp) (by rw [← e, h])
  · exact hcr c2 (by simp) (by rw [← e, h])
  · exact hcr c1 (by simp) (by rw [← e, h])
  · exact hoff p h cr (by simp) e
noncomputable def body7 : List Stmt := forBody ((forBody (lawSt 7)).getD 0 (.Pass ⟨0, 0, 0, 0⟩))
section
variable {w : World} {fa : Addr} {cd : Value} {mean : ExcName → Option Value} {mg mb : PySem.Str → Option Value} {dp un : Nat} {gd : Option (List Code)} {outer : List Env} {A₀ : Around} {base h₀ : Heap} {L : Addr} {s : Shared} {Q : Flow → Shared → Prop} {c1 c2 c3 c4 c5 c6 c7 c8 : Addr} {o1 o2 o3 o4 o5 o6 o7 o8 : Obj}
set_option maxHeartbeats 4000000 in
theorem turn7 {cr D : Addr} {cvs ys : List Value} {cn kk : Nat} {ps : List Int} {own : Led} {m : PySem.Str → Option Value} {k j : Nat} {tK tJ : Tok}
   (K : Frag.In (hd.heap_39 w.params) h₀) (B : Below A₀ base outer h₀) (T : Top hd.view_39 theLoose mean mg mb h₀) (hd : dp + 40 < recursionLimit) (hu : un + 400 < cLine)
   (F : Fr h₀ L s.heap m) (N : News h₀ L s.heap ((cr, listOf cvs.toArray cn) :: (c8, o8) :: (c7, o7) :: (c6, o6) :: (c5, o5) :: (c4, o4) :: (c3, o3) :: (c2, o2) :: (c1, o1) :: own))
   (hoff : OwnOff own [cr, c8, c7, c6, c5, c4, c3, c2, c1]) (hcr : ∀ b ∈ [c8, c7, c6, c5, c4, c3, c2, c1], cr ≠ b)
   (d2 : o2.data = .cell (some (.ref D))) (d4 : o4.data = .cell (some (.ref cr))) (d5 : o5.data = .cell (some (.int (k : Int) tK))) (d6 : o6.data = .cell (some (.int (j : Int) tJ)))
   (hD : (D, listOf ys.toArray kk) ∈ own) (pa : PtsAre ys ps own) (hlo : ∀ p ∈ ps, 0 ≤ p) (hhi : ∀ p ∈ ps, p < 12) (hlen : ps.length ≤ 10) (hk : 2 * k + 1 < ps.length) (hj : j < k) (hcv : cvs.length ≤ 100)
   (hQ : ∀ (cvs' : List Value) (cn' : Nat) (own' : Led) (m' : PySem.Str → Option Value) (h' : Heap) (tk' : Nat), (crossAt ps k j ∧ (∃ r ta tb n, cvs' = cvs ++ [.ref r] ∧ (r, listOf [Value.int (k : Int) ta, .int (j : Int) tb].toArray n) ∈ own' ∧ ∀ p ∈ own, p.1 ≠ r) ∨ ¬ crossAt ps k j ∧ cvs' = cvs) →
     More own' own → OwnOff own' [cr, c8, c7, c6, c5, c4, c3, c2, c1] → (∀ z, z ≠ Str.ofString "sides" → m' z = m z) → Fr h₀ L h' m' → News h₀ L h' ((cr, listOf cvs'.toArray cn') :: (c8, o8) :: (c7, o7) :: (c6, o6) :: (c5, o5) :: (c4, o4) :: (c3, o3) :: (c2, o2) :: (c1, o1) :: own') → Q .next { s with heap := h', toks := tk' })
   : wpAny (model PySem.Challenge.rw_xg0022_01.row.prog w) (lawA fa cd dp un gd L (lawCl c1 c2 c3 c4 c5 c6 c7 c8) outer) (execs body7 (lawEnv fa cd L (lawCl c1 c2 c3 c4 c5 c6 c7 c8))) Q (fun _ _ => False) s := by
  have eI : body7 = body7 := rfl
  have eS : lawS = lawS := rfl
  conv at eI => lhs; whnf
  conv at eS => lhs; whnf
  rw [← eI]
  unfold lawA lawEnv at *
  rw [← eS]
  clear eI eS
  revert K
  k_fill
  intro K
  k_steps
  unfold Halt
  rename_i l1 h1 F1 N1 lt1
  obtain ⟨rA, ta1, ta2, ta3, nA, eA, mA⟩ := pa.at (2 * k) (by omega)
  obtain ⟨rB, tb1, tb2, tb3, nB, eB, mB⟩ := pa.at (2 * k + 1) (by omega)
  have hyl : ys.length = ps.length := pa.len
  have okp : ∀ i, i < ps.length → Pt.ok ⟨(duePt (ps.getD i 0)).a, (duePt (ps.getD i 0)).b, (duePt (ps.getD i 0)).c⟩ := fun i hi => due_b (hlo _ (getD_mem hi)) (hhi _ (getD_mem hi))
  have pA := okp (2 * k) (by omega)
  have pB := okp (2 * k + 1) (by omega)
  refine LCg.CompSrc.ledger (its := #[Value.int 0 s.toks, Value.int 1 (s.toks + 1)]) (k := 0) rfl (by assumption) (by assumption) (.head _) (by rw [sizeLine_eq]; simp) (fun g => ?_)
  refine rest_inv (fun i ys2 news => news = (l1, listOf #[Value.int 0 s.toks, Value.int 1 (s.toks + 1)] 0) :: (cr, listOf cvs.toArray cn) :: (c8, o8) :: (c7, o7) :: (c6, o6) :: (c5, o5) :: (c4, o4) :: (c3, o3) :: (c2, o2) :: (c1, o1) :: own ∧ ∃ t0 t1, ys2 = [Value.int (sideAt ps k j 0) t0, Value.int (sideAt ps k j 1) t1].take i) ?turn ?fin _ 0 [] _ (Nat.zero_add _) ⟨rfl, 0, 0, rfl⟩ (.inr ⟨_, .head _, rfl, _, rfl⟩)
  case turn =>
    rintro i ys2 _ v I oI C oC D3 m₂ h tk E' hi ⟨rfl, t0, t1, hys⟩ hS hv hns hx F2 N2 off ne
    have hi2 : i < 2 := by simpa using hi
    obtain ⟨tv, rfl⟩ : ∃ tv, v = Value.int (i : Int) tv := by
      rcases (by omega : i = 0 ∨ i = 1) with h | h <;> subst h <;> simp at hv <;> exact ⟨_, hv.symm⟩
    obtain ⟨rC, tc1, tc2, tc3, nC, eC, mC⟩ := pa.at (2 * j + i) (by omega)
    have pC := okp (2 * j + i) (by omega)
    clear hQ hv
    k_with "my item" => ((rename News _ _ _ _ => N8); (first | (refine item_list (vs := ys) (n := kk) (i := 2 * k) (N8 (_, _) (by simp only [List.mem_cons, hD, or_true])).1 ?x0 eA (by omega) ?_; (case x0 => omega)) | (refine item_list (vs := ys) (n := kk) (i := 2 * k + 1) (N8 (_, _) (by simp only [List.mem_cons, hD, or_true])).1 ?x0 eB (by omega) ?_; (case x0 => omega)) | (refine item_list (vs := ys) (n := kk) (i := 2 * j + i) (N8 (_, _) (by simp only [List.mem_cons, hD, or_true])).1 ?x0 eC (by omega) ?_; (case x0 => omega))))
    k_with "my call" => (refine' Calls.use (side_ok w ?hm1 ?hm2 ?hm3 pA pB pC) ?k1 ?k2 ?k3 ?k4 ?k5 ?k6 ?k7 ?k8 ?_; (case k1 => k_asm); (case k2 => k_asm); (case k3 => k_asm); (case k4 => k_asm); (case hm1 => exact (.tail _ (.tail _ (.tail _ (.tail _ (.tail _ (.tail _ (.tail _ (.tail _ (.tail _ (.tail _ (.tail _ (.tail _ (.tail _ mA)))))))))))))); (case hm2 => exact (.tail _ (.tail _ (.tail _ (.tail _ (.tail _ (.tail _ (.tail _ (.tail _ (.tail _ (.tail _ (.tail _ (.tail _ (.tail _ mB)))))))))))))); (case hm3 => exact (.tail _ (.tail _ (.tail _ (.tail _ (.tail _ (.tail _ (.tail _ (.tail _ (.tail _ (.tail _ (.tail _ (.tail _ (.tail _ mC)))))))))))))); (case k5 => k_asm); (case k6 => first | exact rfl | assumption); (case k7 => ktr_room); (case k8 => ktr_units); intro v9 n9 h9 t9 r9 F9 N9; obtain ⟨rfl, t9, rfl⟩ := r9; (try dsimp only); (try k_fold))
    k_steps
    unfold Halt
    refine LCg.CompEnd.intro F9 N9 _ (fun _ hp => hp) off hS ⟨rfl, ?_⟩
    rcases (by omega : i = 0 ∨ i = 1) with h | h
    · subst h; exact ⟨t9, 0, by rw [hys]; rfl⟩
    · subst h; exact ⟨t0, t9, by rw [hys]; rfl⟩
  case fin =>
    rintro ys2 _ ⟨rfl, t0, t1, rfl⟩ -
    unfold LCg.FinA
    intro D3 h tk5 F2 N2 o3'
    have pC0 := okp (2 * j) (by omega)
    have pC1 := okp (2 * j + 1) (by omega)
    have sb0 : -8000000000000 ≤ sideAt ps k j 0 ∧ sideAt ps k j 0 ≤ 8000000000000 := side_b pA pB pC0
    have sb1 : -8000000000000 ≤ sideAt ps k j 1 ∧ sideAt ps k j 1 ≤ 8000000000000 := side_b pA pB pC1
    have hcx : crossAt ps k j ↔ sideAt ps k j 0 * sideAt ps k j 1 < 0 := Iff.rfl
    generalize sideAt ps k j 0 = sx at *
    generalize sideAt ps k j 1 = sy at *
    replace N2 : News h₀ L h ((D3, listOf #[.int sx t0, .int sy t1] 2) :: (l1, listOf #[Value.int 0 s.toks, Value.int 1 (s.toks + 1)] 0) :: (cr, listOf cvs.toArray cn) :: (c8, o8) :: (c7, o7) :: (c6, o6) :: (c5, o5) :: (c4, o4) :: (c3, o3) :: (c2, o2) :: (c1, o1) :: own) := N2
    k_with "my mult" => (refine mul_int ?_ ?hm; (case hm => exact IntMulOk.of_left (intBits_le_64 (by omega) (by omega))))
    k_steps
    · rename_i tA tB ha l7 h7 F7 N7 lt7
      have hcrm := off1_mem o3' (cr, listOf cvs.toArray cn) (.tail _ (.head _))
      refine append_K F7 N7 (Upd.tail (Ne.symm (Nat.ne_of_lt lt7.2.2.1)) (Upd.tail (Ne.symm hcrm) (Upd.tail (Ne.symm (Nat.ne_of_lt lt1.1)) (Upd.head (upd_cr hoff hcr))))) ?_ (by rw [List.size_toArray, sizeLine_eq]; omega)
      intro h8 F8 N8
      (try simp only [List.push_toArray] at N8)
      k_steps
      obtain ⟨-, -, b0, b8, b7, b6, b5, b4, b3, b2, b1, bl⟩ := lt7
      have hoff7 : OwnOff ((l7, listOf #[Value.int (k : Int) tK, Value.int (j : Int) tJ] 0) :: own) [cr, c8, c7, c6, c5, c4, c3, c2, c1] := off_cons hoff (by
        intro b hb
        simp only [List.mem_cons, List.not_mem_nil, or_false] at hb
        rcases hb with h | h | h | h | h | h | h | h | h <;> rw [h] <;> exact Ne.symm (Nat.ne_of_lt (by assumption)))
      refine hQ (cvs ++ [.ref l7]) (cn + 1) ((l7, listOf #[Value.int (k : Int) tK, Value.int (j : Int) tJ] 0) :: own) _ _ _ (.inl ⟨hcx.mpr ha, l7, _, _, 0, rfl, .head _, fun p hp => Nat.ne_of_lt (allLt_mem _ bl p hp)⟩) ((More.refl own).cons fun p hp => Nat.ne_of_lt (allLt_mem _ bl p hp)) hoff7 ?_ F8 (news_sub N8 ?_)
      · intro z hz; exact if_neg hz
      · intro q hq
        simp only [List.mem_cons] at hq ⊢
        rcases hq with h | h | h | h | h | h | h | h | h | h | h <;> simp [h]
    · rename_i tA tB ha
      refine hQ cvs cn own _ _ _ (.inr ⟨fun h => ha (hcx.mp h), rfl⟩) (More.refl own) hoff ?_ F2 (news_sub N2 ?_)
      · intro z hz; exact if_neg hz
      · intro q hq
        exact .tail _ (.tail _ hq)
end
end Mine

namespace Mine
local macro_rules | `(tactic| walk_at "exec While Compare") => `(tactic| (k_dflt (k_extra "my while")))
local macro_rules | `(tactic| walk_at "call ref") => `(tactic| (k_dflt (k_extra "my call")))
local macro_rules | `(tactic| ktr_room) => `(tactic| (show (_ : Nat) < _; (try dsimp only [Around.deeper, Around.in1]); (simp only [rec_is] at *); omega))
local macro_rules | `(tactic| ktr_units) => `(tactic| (show (_ : Nat) < _; (try dsimp only [Around.deeper, Around.in1]); (have hcL9 := cLine_is); omega))
local macro_rules | `(tactic| walk_at "callWith") => `(tactic| ((with_reducible show wpAny _ _ (callWith _ (Value.builtin _) [Value.ref _] _ _) _ _ _); k_dflt (refine callWith_method1 ?_)))
local macro_rules | `(tactic| walk_at "eval ListComp") => `(tactic| (k_here; k_dflt (refine LCg.ListComp_U (F₀ := by k_asm) (by rfl) (by decide) (by rfl) (by decide) (by rfl) ?_)))
local macro_rules | `(tactic| walk_at "CompSrc") => `(tactic| (refine stopHere ?_))
local macro_rules | `(tactic| walk_at "CompEnd") => `(tactic| (refine stopHere ?_))
local macro_rules | `(tactic| k_updF) => `(tactic| (first | exact upd_c2 (by assumption) (by assumption) | exact upd_c3 (by assumption) (by assumption) | exact upd_c4 (by assumption) (by assumption) | exact upd_c5 (by assumption) (by assumption) | exact upd_c6 (by assumption) (by assumption) | exact upd_c7 (by assumption) (by assumption) | exact upd_c8 (by assumption) (by assumption)))
local macro_rules | `(tactic| walk_at "call type:range") => `(tactic| (refine stopHere ?_))
theorem NestAre.mono {led led' : Led} (h : ∀ p ∈ led, p ∈ led') : ∀ {ys : List Value} {nss : List (List Int)}, NestAre ys nss led → NestAre ys nss led'
  | [], [], _ => trivial
  | _ :: _, _ :: _, ⟨⟨r, vs, n, e, q, i⟩, t⟩ => ⟨⟨r, vs, n, e, h _ q, i⟩, NestAre.mono h t⟩
  | [], _ :: _, x => x
  | _ :: _, [], x => x
theorem NestAre.snoc {led : Led} {y : Value} {ns : List Int} (q : ∃ r vs n, y = .ref r ∧ (r, listOf (List.toArray vs) n) ∈ led ∧ IntsAre vs ns) : ∀ {ys : List Value} {nss : List (List Int)}, NestAre ys nss led → NestAre (ys ++ [y]) (nss ++ [ns]) led
  | [], [], _ => ⟨q, trivial⟩
  | _ :: _, _ :: _, ⟨a, t⟩ => ⟨a, NestAre.snoc q t⟩
  | [], _ :: _, x => x.elim
  | _ :: _, [], x => x.elim
theorem NestAre.refs {led : Led} {I : Addr} (h : ∀ p ∈ led, p.1 ≠ I) : ∀ {ys : List Value} {nss : List (List Int)}, NestAre ys nss led → ∀ r, Value.ref r ∈ ys → r ≠ I
  | [], [], _, r, hr => nomatch hr
  | _ :: _, _ :: _, ⟨⟨r, vs, n, e, q, i⟩, t⟩, r', hr => by
    rcases List.mem_cons.mp hr with hr | hr
    · rw [e] at hr; cases hr; exact h _ q
    · exact NestAre.refs h t r' hr
  | [], _ :: _, x, _, _ => x.elim
  | _ :: _, [], x, _, _ => x.elim
theorem NestAre.less {led led' : Led} {I : Addr} : ∀ {ys : List Value} {nss : List (List Int)}, NestAre ys nss led → (∀ r, Value.ref r ∈ ys → r ≠ I) → (∀ p ∈ led, p.1 ≠ I → p ∈ led') → NestAre ys nss led'
  | [], [], _, _, _ => trivial
  | _ :: _, _ :: _, ⟨⟨r, vs, n, e, q, i⟩, t⟩, g, h => ⟨⟨r, vs, n, e, h _ q (g r (by rw [e]; exact .head _)), i⟩, NestAre.less t (fun r hr => g r (.tail _ hr)) h⟩
  | [], _ :: _, x, _, _ => x
  | _ :: _, [], x, _, _ => x
theorem NestAre.len {led : Led} : ∀ {ys : List Value} {nss : List (List Int)}, NestAre ys nss led → ys.length = nss.length
  | [], [], _ => rfl
  | _ :: _, _ :: _, ⟨_, t⟩ => congrArg (· + 1) (NestAre.len t)
  | [], _ :: _, x => x.elim
  | _ :: _, [], x => x.elim
theorem More.trans {a b c : Led} (h : More a b) (k : More b c) : More a c :=
  ⟨fun p hp => h.sub p (k.sub p hp), fun q hq => by
    rcases h.off q hq with h1 | h1
    · exact k.off q h1
    · exact .inr fun p hp => h1 p (k.sub p hp)⟩
/-- the iterator's own cell is left out of the ledger again -/
theorem More.drop {new ex : Led} {I : Addr} {oI : Obj} (h : More new ((I, oI) :: ex)) (hI : ∀ p ∈ ex, p.1 ≠ I) : ∃ ex', More ex' ex ∧ (∀ p ∈ ex', p.1 ≠ I) ∧ (∀ p ∈ ex', p ∈ new) ∧ ∀ p ∈ new, p.1 ≠ I → p ∈ ex' := by
  classical
  refine ⟨new.filter (fun p => decide (p.1 ≠ I)), ⟨fun p hp => ?_, fun q hq => ?_⟩, fun p hp => ?_, fun p hp => (List.mem_filter.mp hp).1, fun p hp k => List.mem_filter.mpr ⟨hp, decide_eq_true k⟩⟩
  · exact List.mem_filter.mpr ⟨h.sub p (.tail _ hp), decide_eq_true (hI p hp)⟩
  · obtain ⟨h1, h2⟩ := List.mem_filter.mp hq
    rcases h.off q h1 with h3 | h3
    · rcases List.mem_cons.mp h3 with rfl | h3
      · exact absurd rfl (of_decide_eq_true h2)
      · exact .inl h3
    · exact .inr fun p hp => h3 p (.tail _ hp)
  · exact of_decide_eq_true (List.mem_filter.mp hp).2
/-- which pairs cross: those below (a, b) in the loops' order -/
def CrossIs (ps : List Int) (a b : Nat) (nss : List (List Int)) : Prop := ∀ ns, ns ∈ nss ↔ ∃ k j : Nat, j < k ∧ (k < a ∨ k = a ∧ j < b) ∧ crossAt ps k j ∧ ns = [(k : Int), (j : Int)]
theorem CrossIs.start (ps : List Int) : CrossIs ps 0 0 [] := fun ns => by
  constructor
  · intro h; cases h
  · rintro ⟨k, j, h, h2, -⟩; omega
theorem CrossIs.next {ps : List Int} {a : Nat} {nss : List (List Int)} (h : CrossIs ps a a nss) : CrossIs ps (a + 1) 0 nss := fun ns => by
  rw [h ns]
  constructor
  · rintro ⟨k, j, h1, h2, h3⟩; exact ⟨k, j, h1, by omega, h3⟩
  · rintro ⟨k, j, h1, h2, h3⟩; exact ⟨k, j, h1, by omega, h3⟩
theorem CrossIs.yes {ps : List Int} {a b : Nat} {nss : List (List Int)} (h : CrossIs ps a b nss) (hb : b < a) (hc : crossAt ps a b) : CrossIs ps a (b + 1) (nss ++ [[(a : Int), (b : Int)]]) := fun ns => by
  rw [List.mem_append, h ns, List.mem_singleton]
  constructor
  · rintro (⟨k, j, h1, h2, h3⟩ | h)
    · exact ⟨k, j, h1, by omega, h3⟩
    · exact ⟨a, b, hb, by omega, hc, h⟩
  · rintro ⟨k, j, h1, h2, h3, h4⟩
    by_cases e : k = a ∧ j = b
    · rw [h4, e.1, e.2]; exact .inr rfl
    · exact .inl ⟨k, j, h1, by omega, h3, h4⟩
theorem CrossIs.no {ps : List Int} {a b : Nat} {nss : List (List Int)} (h : CrossIs ps a b nss) (hb : b < a) (hc : ¬ crossAt ps a b) : CrossIs ps a (b + 1) nss := fun ns => by
  rw [h ns]
  constructor
  · rintro ⟨k, j, h1, h2, h3⟩; exact ⟨k, j, h1, by omega, h3⟩
  · rintro ⟨k, j, h1, h2, h3, h4⟩
    refine ⟨k, j, h1, ?_, h3, h4⟩
    by_cases e : k = a ∧ j = b
    · rw [e.1, e.2] at h3; exact absurd h3 hc
    · omega
theorem cells_ne9 {r cr : Addr} {oc : Obj} {c1 c2 c3 c4 c5 c6 c7 c8 : Addr} {o1 o2 o3 o4 o5 o6 o7 o8 : Obj} {ex : Led} (h : ∀ p ∈ (cr, oc) :: (c8, o8) :: (c7, o7) :: (c6, o6) :: (c5, o5) :: (c4, o4) :: (c3, o3) :: (c2, o2) :: (c1, o1) :: ex, p.1 ≠ r) : ∀ b ∈ [cr, c8, c7, c6, c5, c4, c3, c2, c1], r ≠ b := fun b hb e => by
  rcases List.mem_cons.mp hb with hb | hb
  · exact h _ (.head _) (hb.symm.trans e.symm)
  · exact cells_ne (fun p hp => h p (.tail _ hp)) b hb e
theorem off_less {own : Led} {a : Addr} {A : List Addr} (h : OwnOff own (a :: A)) : OwnOff own A := fun p hp b hb => h p hp b (.tail _ hb)
section
variable {w : World} {fa : Addr} {cd : Value} {mean : ExcName → Option Value} {mg mb : PySem.Str → Option Value} {dp un : Nat} {gd : Option (List Code)} {outer : List Env} {A₀ : Around} {base h₀ : Heap} {L : Addr} {s : Shared} {Q : Flow → Shared → Prop} {c1 c2 c3 c4 c5 c6 c7 c8 : Addr} {o1 o2 o3 o4 o5 o6 o7 o8 : Obj}
/-- what holds ahead of each turn of the crossing loops -/
def Inv7 (cr : Addr) (ps : List Int) (own : Led) (m : PySem.Str → Option Value) (c1 c2 c3 c4 c5 c6 c7 c8 : Addr) (o1 o2 o3 o4 o7 o8 : Obj) (five : Obj → Prop) (good : Addr → Prop) (a b : Nat) (m₁ : PySem.Str → Option Value) (led : Led) : Prop :=
  ∃ (cvs : List Value) (cn : Nat) (nss : List (List Int)) (ex : Led) (o5 o6 : Obj), led = (cr, listOf cvs.toArray cn) :: (c8, o8) :: (c7, o7) :: (c6, o6) :: (c5, o5) :: (c4, o4) :: (c3, o3) :: (c2, o2) :: (c1, o1) :: ex ∧ five o5 ∧ (∃ v, o6.data = .cell v) ∧ More ex own ∧ OwnOff ex [cr, c8, c7, c6, c5, c4, c3, c2, c1] ∧ NestAre cvs nss ex ∧ (∀ r, Value.ref r ∈ cvs → good r) ∧ CrossIs ps a b nss ∧ cvs.length ≤ 5 * a + b ∧ (∀ z, z ≠ Str.ofString "sides" → m₁ z = m z)
theorem stmt7 {cr D r : Addr} {ys : List Value} {kk n : Nat} {ps : List Int} {own : Led} {m : PySem.Str → Option Value} {ta tb tc : Tok} {v5 v6 : Option Value}
   (K : Frag.In (hd.heap_39 w.params) h₀) (B : Below A₀ base outer h₀) (T : Top hd.view_39 theLoose mean mg mb h₀) (hd : dp + 40 < recursionLimit) (hu : un + 400 < cLine)
   (F : Fr h₀ L s.heap m) (N : News h₀ L s.heap ((cr, listOf ([] : List Value).toArray 0) :: (c8, o8) :: (c7, o7) :: (c6, o6) :: (c5, o5) :: (c4, o4) :: (c3, o3) :: (c2, o2) :: (c1, o1) :: own))
   (hoff : OwnOff own [cr, c8, c7, c6, c5, c4, c3, c2, c1]) (hcr : ∀ b ∈ [c8, c7, c6, c5, c4, c3, c2, c1], cr ≠ b) (lt : @LT.lt Nat _ c1 c2 ∧ @LT.lt Nat _ c2 c3 ∧ @LT.lt Nat _ c3 c4 ∧ @LT.lt Nat _ c4 c5 ∧ @LT.lt Nat _ c5 c6 ∧ @LT.lt Nat _ c6 c7 ∧ @LT.lt Nat _ c7 c8)
   (d2 : o2.data = .cell (some (.ref D))) (d3 : o3.data = .cell (some (.ref r))) (d4 : o4.data = .cell (some (.ref cr))) (d5 : o5.data = .cell v5) (d6 : o6.data = .cell v6)
   (hD : (D, listOf ys.toArray kk) ∈ own) (hr : (r, rgObj 0 n ta tb tc) ∈ own) (pa : PtsAre ys ps own) (hlo : ∀ p ∈ ps, 0 ≤ p) (hhi : ∀ p ∈ ps, p < 12) (hlen : ps.length ≤ 10) (hn : ps.length = 2 * n)
   (hQ : ∀ (m' : PySem.Str → Option Value) (led : Led) (h' : Heap) (tk' : Nat), Inv7 cr ps own m c1 c2 c3 c4 c5 c6 c7 c8 o1 o2 o3 o4 o7 o8 (fun o => ∃ v, o.data = .cell v) (fun _ => True) n 0 m' led → Fr h₀ L h' m' → News h₀ L h' led → Q .next { s with heap := h', toks := tk' })
   : wpAny (model PySem.Challenge.rw_xg0022_01.row.prog w) (lawA fa cd dp un gd L (lawCl c1 c2 c3 c4 c5 c6 c7 c8) outer) (exec (lawSt 7) (lawEnv fa cd L (lawCl c1 c2 c3 c4 c5 c6 c7 c8))) Q (fun _ _ => False) s := by
  have eI : lawSt 7 = lawSt 7 := rfl
  have eS : lawS = lawS := rfl
  conv at eI => lhs; whnf
  conv at eS => lhs; whnf
  rw [← eI]
  unfold lawA lawEnv at *
  rw [← eS]
  clear eI eS
  revert K
  k_fill
  intro K
  refine for_rangeC (h₀ := h₀) ?_
  k_steps
  refine ⟨r, n, ta, tb, tc, m, _, fun a => Inv7 cr ps own m c1 c2 c3 c4 c5 c6 c7 c8 o1 o2 o3 o4 o7 o8 (fun o => ∃ v, o.data = .cell v) (fun _ => True) a 0, rfl, rfl, (N _ (.tail _ (.tail _ (.tail _ (.tail _ (.tail _ (.tail _ (.tail _ (.tail _ (.tail _ hr)))))))))).1, by omega, F, N, ⟨[], 0, [], own, o5, o6, rfl, ⟨_, d5⟩, ⟨_, d6⟩, More.refl _, hoff, trivial, fun _ _ => trivial, CrossIs.start ps, Nat.zero_le _, fun _ _ => rfl⟩, ?step, ?fin⟩
  case fin =>
    intro h' tk' m' led F' N' hJ
    exact hQ m' led h' tk' hJ F' N'
  case step =>
    clear hQ
    intro i I oI m₁ news₁ h tk tv hi hJ F1 N1 off1
    obtain ⟨cvs, cn, nss, ex, p5, p6, rfl, ⟨w5, e5⟩, ⟨w6, e6⟩, mo, oo, nst, -, cis, cl, em⟩ := hJ
    have ooI := off_cons oo (o := oI) (cells_ne9 off1)
    have N2 : News h₀ L h ((cr, listOf cvs.toArray cn) :: (c8, o8) :: (c7, o7) :: (c6, p6) :: (c5, p5) :: (c4, o4) :: (c3, o3) :: (c2, o2) :: (c1, o1) :: (I, oI) :: ex) := news_sub N1 (mv_in (l := (cr, listOf cvs.toArray cn) :: (c8, o8) :: (c7, o7) :: (c6, p6) :: (c5, p5) :: (c4, o4) :: (c3, o3) :: (c2, o2) :: (c1, o1) :: []))
    clear F N d5 d6 N1
    refine storeX_C F1 N2 rfl (UpdF.tail (hcr c5 (by simp)) (upd_c5 (off_less ooI) lt)) e5 ?_
    intro h3 p5' F3 N3 e5'
    clear N2 F1 e5
    k_steps
    refine for_rangeC (h₀ := h₀) ?_
    k_steps
    unfold Halt
    refine range_led F3 N3 ?_
    intro r2 ta2 tb2 tc2 h4 tk4 F4 N4 off4
    refine ⟨r2, i, ta2, tb2, tc2, m₁, _, fun b => Inv7 cr ps ((I, oI) :: ex) m c1 c2 c3 c4 c5 c6 c7 c8 o1 o2 o3 o4 o7 o8 (fun o => o.data = .cell (some (.int (i : Int) tv))) (fun q => q ≠ I) i b, rfl, rfl, (N4 _ (.head _)).1, by omega, F4, news_tail N4, ⟨cvs, cn, nss, _, p5', p6, rfl, e5', ⟨_, e6⟩, More.refl _, ooI, nst.mono (fun _ hp => .tail _ hp), nst.refs (fun p hp => off1 p (.tail _ (.tail _ (.tail _ (.tail _ (.tail _ (.tail _ (.tail _ (.tail _ (.tail _ hp)))))))))), cis, cl, em⟩, ?step2, ?fin2⟩
    case fin2 =>
      intro h' tk' m' led F' N' hJ2
      obtain ⟨cvs2, cn2, nss2, ex2, q5, q6, rfl, g5, g6, mo2, oo2, nst2, gd2, cis2, cl2, em2⟩ := hJ2
      obtain ⟨ex', mx, x1, x2, x3⟩ := mo2.drop (fun p hp => off1 p (.tail _ (.tail _ (.tail _ (.tail _ (.tail _ (.tail _ (.tail _ (.tail _ (.tail _ hp))))))))))
      refine wpAny_execs_nil ?_
      show ∃ h' tk' m' news', _
      refine ⟨h', tk', m', (cr, listOf cvs2.toArray cn2) :: (c8, o8) :: (c7, o7) :: (c6, q6) :: (c5, q5) :: (c4, o4) :: (c3, o3) :: (c2, o2) :: (c1, o1) :: ex', rfl, F', news_sub N' ?_, ?_, ⟨cvs2, cn2, nss2, ex', q5, q6, rfl, ⟨_, g5⟩, g6, mx.trans mo, fun p hp => oo2 p (x2 p hp), nst2.less gd2 x3, fun _ _ => trivial, cis2.next, by omega, em2⟩⟩
      · exact mv_back (l := (cr, listOf cvs2.toArray cn2) :: (c8, o8) :: (c7, o7) :: (c6, q6) :: (c5, q5) :: (c4, o4) :: (c3, o3) :: (c2, o2) :: (c1, o1) :: []) (mo2.sub _ (.head _)) x2
      · exact mv_off (l := (cr, listOf cvs.toArray cn) :: (c8, o8) :: (c7, o7) :: (c6, p6) :: (c5, p5) :: (c4, o4) :: (c3, o3) :: (c2, o2) :: (c1, o1) :: []) (l' := (cr, listOf cvs2.toArray cn2) :: (c8, o8) :: (c7, o7) :: (c6, q6) :: (c5, q5) :: (c4, o4) :: (c3, o3) :: (c2, o2) :: (c1, o1) :: []) off1 rfl x1
    case step2 =>
      clear N4 F4 off4 N3 F3 e5'
      intro j I2 oI2 m₂ news₂ h5 tk5 tv2 hj hJ2 F5 N5 off5
      obtain ⟨cvs2, cn2, nss2, ex2, q5, q6, rfl, g5, ⟨w6', g6⟩, mo2, oo2, nst2, gd2, cis2, cl2, em2⟩ := hJ2
      have ooI2 := off_cons oo2 (o := oI2) (cells_ne9 off5)
      have N6 : News h₀ L h5 ((cr, listOf cvs2.toArray cn2) :: (c8, o8) :: (c7, o7) :: (c6, q6) :: (c5, q5) :: (c4, o4) :: (c3, o3) :: (c2, o2) :: (c1, o1) :: (I2, oI2) :: ex2) := news_sub N5 (mv_in (l := (cr, listOf cvs2.toArray cn2) :: (c8, o8) :: (c7, o7) :: (c6, q6) :: (c5, q5) :: (c4, o4) :: (c3, o3) :: (c2, o2) :: (c1, o1) :: []))
      refine storeX_C F5 N6 rfl (UpdF.tail (hcr c6 (by simp)) (upd_c6 (off_less ooI2) lt)) g6 ?_
      intro h6 q6' F6 N7 g6'
      clear N6 F5 N5 g6
      have sub2 : ∀ p ∈ own, p ∈ (I2, oI2) :: ex2 := fun p hp => .tail _ (mo2.sub _ (.tail _ (mo.sub _ hp)))
      refine turn7 (own := (I2, oI2) :: ex2) (ys := ys) (kk := kk) (ps := ps) (k := i) (j := j) K B T hd hu F6 N7 ooI2 hcr d2 d4 g5 g6' (sub2 _ hD) (pa.mono sub2) hlo hhi hlen (by omega) hj (by omega) ?_
      intro cvs' cn' own' m' h' tk' hc mo' oo' em' F' N'
      obtain ⟨ex', mx, x1, x2, x3⟩ := mo'.drop (fun p hp => off5 p (.tail _ (.tail _ (.tail _ (.tail _ (.tail _ (.tail _ (.tail _ (.tail _ (.tail _ hp))))))))))
      show ∃ h' tk' m' news', _
      have fact : ∃ nss', NestAre cvs' nss' ex' ∧ (∀ r, Value.ref r ∈ cvs' → r ≠ I) ∧ CrossIs ps i (j + 1) nss' ∧ cvs'.length ≤ 5 * i + (j + 1) := by
        rcases hc with ⟨hc, r8, ta8, tb8, n8, rfl, hm8, hn8⟩ | ⟨hc, rfl⟩
        · refine ⟨nss2 ++ [[(i : Int), (j : Int)]], NestAre.snoc ⟨r8, _, n8, rfl, x3 _ hm8 ?_, .cons _ _ (.cons _ _ .nil)⟩ (nst2.mono mx.sub), ?_, cis2.yes hj hc, by rw [List.length_append, List.length_singleton]; omega⟩
          · exact fun e => hn8 _ (.head _) e.symm
          · intro r hr
            rcases List.mem_append.mp hr with hr | hr
            · exact gd2 r hr
            · cases List.mem_singleton.mp hr
              exact fun e => hn8 _ (.tail _ (mo2.sub _ (.head _))) e.symm
        · exact ⟨nss2, nst2.mono mx.sub, gd2, cis2.no hj hc, by omega⟩
      obtain ⟨nss', nst', gd', cis', cl'⟩ := fact
      refine ⟨h', tk', m', (cr, listOf cvs'.toArray cn') :: (c8, o8) :: (c7, o7) :: (c6, q6') :: (c5, q5) :: (c4, o4) :: (c3, o3) :: (c2, o2) :: (c1, o1) :: ex', rfl, F', news_sub N' ?_, ?_, ⟨cvs', cn', nss', ex', q5, q6', rfl, g5, ⟨_, g6'⟩, mx.trans mo2, fun p hp => oo' p (x2 p hp), nst', gd', cis', cl', fun z hz => (em' z hz).trans (em2 z hz)⟩⟩
      · exact mv_back (l := (cr, listOf cvs'.toArray cn') :: (c8, o8) :: (c7, o7) :: (c6, q6') :: (c5, q5) :: (c4, o4) :: (c3, o3) :: (c2, o2) :: (c1, o1) :: []) (mo'.sub _ (.head _)) x2
      · exact mv_off (l := (cr, listOf cvs2.toArray cn2) :: (c8, o8) :: (c7, o7) :: (c6, q6) :: (c5, q5) :: (c4, o4) :: (c3, o3) :: (c2, o2) :: (c1, o1) :: []) (l' := (cr, listOf cvs'.toArray cn') :: (c8, o8) :: (c7, o7) :: (c6, q6') :: (c5, q5) :: (c4, o4) :: (c3, o3) :: (c2, o2) :: (c1, o1) :: []) off5 rfl x1
end
end Mine

namespace Mine
local macro_rules | `(tactic| walk_at "exec While Compare") => `(tactic| (k_dflt (k_extra "my while")))
local macro_rules | `(tactic| walk_at "call ref") => `(tactic| (k_dflt (k_extra "my call")))
local macro_rules | `(tactic| ktr_room) => `(tactic| (show (_ : Nat) < _; (try dsimp only [Around.deeper, Around.in1]); (simp only [rec_is] at *); omega))
local macro_rules | `(tactic| ktr_units) => `(tactic| (show (_ : Nat) < _; (try dsimp only [Around.deeper, Around.in1]); (have hcL9 := cLine_is); omega))
/-- behind an element of a comprehension -/
def ElemEnd (h₀ : Heap) (L : Addr) (m : PySem.Str → Option Value) (s₁ : Shared) (own : Led) (Jn : Value → Led → Prop) (y : Value) (s₂ : Shared) : Prop :=
  ∃ h' tk' news', s₂ = { s₁ with heap := h', toks := tk' } ∧ Fr h₀ L h' m ∧ News h₀ L h' (own ++ news') ∧ (∀ p ∈ news', ∀ q ∈ own, p.1 ≠ q.1) ∧ Jn y news'
theorem newEnv_cell {w : World} {A : Around} {E : Value → Shared → Prop} {s : Shared} {scope : Scope} {g : Addr} {cl : List (PySem.Str × Addr)} {qual x : PySem.Str} {env : Env} {Q : Env → Shared → Prop}
    (hlay : ∀ a acc, cellsFrom a scope.names acc = (x, a) :: acc) (hpush : ∀ h, pushCells h scope.names = h.push { cls := .type "cell", data := .cell none })
    (h : Q (newEnv scope s.heap.objs.size g ((x, (s.heap.push { cls := .type "dict", data := .dict #[] }).objs.size) :: cl) qual none .none (some env) builtinsNs) { s with heap := (s.heap.push { cls := .type "dict", data := .dict #[] }).push { cls := .type "cell", data := .cell none } }) :
    wpAny (model PySem.Challenge.rw_xg0022_01.row.prog w) A (newFunctionEnv scope g cl [] qual none .none (some env)) Q E s := by
  simp only [newFunctionEnv, Option.isSome_some, if_true]
  refine wpAny_bind (wpAny_alloc ?_)
  refine wpAny_bind (wpAny_layCells _ (fun name kind cells => by cases hkc : kind == NameKind.cell <;> simp [hkc]) _ _ _ _ ?_)
  rw [hlay, hpush]
  refine wpAny_bind ?_
  rw [List.forIn_nil]
  exact wpAny_pure (wpAny_pure h)
theorem pairwise4 {a b c d : Nat} (h1 : b = a + 1) (h2 : c = b + 1) (h3 : d = c + 1) : a ≠ c ∧ a ≠ d ∧ a ≠ b ∧ c ≠ d ∧ c ≠ b ∧ d ≠ b := by omega
/-- the turns of such a comprehension -/
theorem cv_run {w : World} {A : Around} {R : Result → Shared → Prop} {s₁ : Shared} {h₀ H : Heap} {L I C kc D : Addr} {oI oC okc : Obj} {v₀ : Option Value} {m : PySem.Str → Option Value} {env : Env} {elt iter : Expr} {x : PySem.Str} {px : Pos} {scope : Scope} {cl : List (PySem.Str × Addr)} {pos : Pos} {news : Led} {n tk₀ : Nat} {J : Nat → List Value → Led → Prop}
    (hkind : scope.kind = .function) (hx : ∀ C cl', (compEnvC scope cl' C env).kindOf x = some .cell) (hh : A.handled = none) (hn : n < 1000)
    (F : Fr h₀ L H m) (N : News h₀ L H ([(I, oI), (C, oC), (kc, okc), (D, LCg.lst [])] ++ news)) (off : ∀ p ∈ news, ∀ q ∈ [I, C, kc, D], p.1 ≠ q) (ne : I ≠ C ∧ I ≠ kc ∧ I ≠ D ∧ C ≠ kc ∧ C ≠ D ∧ kc ≠ D)
    (hk : okc.data = .cell v₀) (hIt : IsRangeIter H I (0 + ((0 : Nat) : Int) * 1) ((n : Int) - ((0 : Nat) : Int)) 1) (h0 : J 0 [] news)
    (turn : ∀ i ys news₁ oI okc h tk t (E' : Value → Shared → Prop), i < n → J i ys news₁ → okc.data = .cell (some (.int (i : Int) t)) → Fr h₀ L h m → News h₀ L h ([(I, oI), (C, oC), (kc, okc), (D, LCg.lst ys)] ++ news₁) → (∀ p ∈ news₁, ∀ q ∈ [I, C, kc, D], p.1 ≠ q) →
        wpAny (model PySem.Challenge.rw_xg0022_01.row.prog w) A (eval elt (compEnvC scope ((x, kc) :: cl) C env)) (ElemEnd h₀ L m { s₁ with heap := h, toks := tk } [(I, oI), (C, oC), (kc, okc), (D, LCg.lst ys)] (fun y n => J (i + 1) (ys ++ [y]) n)) E' { s₁ with heap := h, toks := tk })
    (fin : ∀ h tk ys news₂ okc, J n ys news₂ → Fr h₀ L h m → News h₀ L h ([(C, oC), (kc, okc), (D, LCg.lst ys)] ++ news₂) → (∀ p ∈ news₂, ∀ q ∈ [I, C, kc, D], p.1 ≠ q) → R (.ok .next) { s₁ with heap := h, toks := tk }) :
    codeAny (model PySem.Challenge.rw_xg0022_01.row.prog w) A (.compStart (.ListComp elt [⟨.Name x px, iter, [], 0⟩] scope pos) 0 (.ref I) (.ref D) (compEnvC scope ((x, kc) :: cl) C env)) R { s₁ with heap := H, toks := tk₀ } := by
  obtain ⟨n1, n2, n3, n4, n5, n6⟩ := ne
  have W := Walks.range (prog := PySem.Challenge.rw_xg0022_01.row.prog) (w := w) hh I 0 1 n
  have loop : codeAny (model PySem.Challenge.rw_xg0022_01.row.prog w) A (.compLoop (.ListComp elt [⟨.Name x px, iter, [], 0⟩] scope pos) 0 (.ref I) (.ref D) (compEnvC scope ((x, kc) :: cl) C env)) R { s₁ with heap := H, toks := tk₀ } := by
    refine codeAny_compLoop_list
      (fun k s' => ∃ h' tk i ys oI okc v news', s' = { s₁ with heap := h', toks := tk } ∧ i ≤ n ∧ k = n + 1 - i ∧ ys.length = i ∧ IsRangeIter h' I (0 + ((i : Nat) : Int) * 1) ((n : Int) - ((i : Nat) : Int)) 1 ∧ Fr h₀ L h' m ∧ okc.data = .cell v ∧
        News h₀ L h' ([(I, oI), (C, oC), (kc, okc), (D, LCg.lst ys)] ++ news') ∧ (∀ p ∈ news', ∀ q ∈ [I, C, kc, D], p.1 ≠ q) ∧ J i ys news') ?_ (n + 1)
      ⟨H, tk₀, 0, [], oI, okc, v₀, news, rfl, Nat.zero_le _, rfl, rfl, hIt, F, hk, N, off, h0⟩
    rintro k s' ⟨h', tk, i, ys, oI, okc, v, news', rfl, hi, rfl, hyl, hst', F', hk', N', off', hJ⟩
    have hIL : L ≠ I := Ne.symm (N' (I, oI) (.head _)).2.1
    have hIn : h₀.get? I = none := (N' (I, oI) (.head _)).2.2
    have next : ∀ h₁ : Heap, (∀ b o, b ∉ [I] → h'.get? b = some o → h₁.get? b = some o) → Fr h₀ L h₁ m ∧ News h₀ L h₁ ([(C, oC), (kc, okc), (D, LCg.lst ys)] ++ news') := fun h₁ hk₁ =>
      ⟨LCg.fr_but F' hk₁ hIL hIn, LCg.news_but (news_tail N') hk₁ fun p hp => by
        simp only [List.cons_append, List.nil_append, List.mem_cons] at hp
        rcases hp with h | h | h | h
        · rw [h]; exact Ne.symm n1
        · rw [h]; exact Ne.symm n2
        · rw [h]; exact Ne.symm n3
        · exact off' p h I (.head _)⟩
    by_cases hlt : i < n
    · refine W.item i _ _ _ hlt hst' fun v h₁ tk₁ hP hst₁ hk₁ => ?_
      obtain ⟨tv, rfl⟩ := hP
      obtain ⟨F₁, N₁⟩ := next h₁ hk₁
      have e1 : (0 : Int) + (i : Int) * 1 = (i : Int) := by omega
      rw [e1]
      have hget : ∃ oI', h₁.get? I = some oI' := ⟨_, hst₁⟩
      obtain ⟨oI', hget⟩ := hget
      have N₂ : News h₀ L h₁ ([(I, oI'), (C, oC)] ++ (kc, okc) :: ([(D, LCg.lst ys)] ++ news')) := fun p hp => by
        rcases List.mem_cons.mp hp with rfl | hp
        · exact ⟨hget, Ne.symm hIL, hIn⟩
        · exact N₁ p hp
      refine wpAny_assign_Name (wpAny_storeName_cell hkind (hx _ _) (by simp [compEnvC]) ⟨okc, (N₂ (kc, okc) (.tail _ (.tail _ (.head _)))).1, hk'⟩ fun h₂ hv₂ hs₂ => ?_)
      obtain ⟨okc₂, hg₂, hd₂⟩ := hv₂
      have N₃ := News.setAt N₂ (by
        intro p hp
        simp only [List.mem_cons, List.not_mem_nil, or_false] at hp
        rcases hp with h | h <;> rw [h]
        · exact n2
        · exact n4) (by
        intro p hp
        simp only [List.cons_append, List.nil_append, List.mem_cons] at hp
        rcases hp with h | h
        · rw [h]; exact Ne.symm n6
        · exact off' p h kc (.tail _ (.tail _ (.head _)))) hs₂ hg₂
      have hkcL : kc ≠ L := (N₂ (kc, okc) (.tail _ (.tail _ (.head _)))).2.1
      have hkcn : h₀.get? kc = none := (N₂ (kc, okc) (.tail _ (.tail _ (.head _)))).2.2
      have F₃ : Fr h₀ L h₂ m := F₁.change hs₂ hkcL hkcn
      refine wpAny_mono (turn i ys news' oI' okc₂ h₂ _ tv _ hlt hJ hd₂ F₃ N₃ off') (fun y s₄ h₄ => ?_) fun _ _ e => e
      obtain ⟨h₄, tk₄, news₄, rfl, F₄, N₄, off₄, J₄⟩ := h₄
      have off4 : ∀ p ∈ news₄, ∀ q ∈ [I, C, kc, D], p.1 ≠ q := fun p hp q hq => by
        simp only [List.mem_cons, List.not_mem_nil, or_false] at hq
        rcases hq with h | h | h | h <;> rw [h]
        · exact off₄ p hp (I, oI') (by simp)
        · exact off₄ p hp (C, oC) (by simp)
        · exact off₄ p hp (kc, okc₂) (by simp)
        · exact off₄ p hp (D, LCg.lst ys) (by simp)
      have zD := (N₄ (D, LCg.lst ys) (by simp)).1
      have hDL : D ≠ L := (N₄ (D, LCg.lst ys) (by simp)).2.1
      have hDn : h₀.get? D = none := (N₄ (D, LCg.lst ys) (by simp)).2.2
      refine append_at (hsz := by show ys.toArray.size ≤ sizeLine; rw [List.size_toArray, hyl, sizeLine_eq]; omega) zD fun h₅ hs₅ hD₅ => ?_
      have N₄' : News h₀ L h₄ ([(I, oI'), (C, oC), (kc, okc₂)] ++ (D, LCg.lst ys) :: news₄) := N₄
      have N₅ := News.setAt N₄' (by
        intro p hp
        simp only [List.mem_cons, List.not_mem_nil, or_false] at hp
        rcases hp with h | h | h <;> rw [h]
        · exact n3
        · exact n5
        · exact n6) (by
        intro p hp
        exact off4 p hp D (by simp)) hs₅ hD₅
      rw [LCg.lst_snoc] at N₅
      refine ⟨n + 1 - (i + 1), by omega, h₅, tk₄, i + 1, ys ++ [y], oI', okc₂, _, news₄, rfl, hlt, rfl, by rw [List.length_append, List.length_singleton, hyl], ?_, F₄.change hs₅ hDL hDn, hd₂, N₅, off4, J₄⟩
      have q := (N₅ (I, oI') (.head _)).1
      show h₅.get? I = some _
      rw [q, ← hget]; exact hst₁
    · obtain rfl : i = n := Nat.le_antisymm hi (Nat.not_lt.mp hlt)
      refine W.done _ _ _ hst' fun h₂ tk₂ hk₂ => ?_
      obtain ⟨F₂, N₂⟩ := next h₂ hk₂
      exact fin h₂ tk₂ ys news' okc hJ F₂ N₂ off'
  exact codeAny_compStart_list loop (W.self 0 _ _ _ hIt loop)
/-- the source of such a comprehension -/
def CvSrc (w : World) (A : Around) (h₀ : Heap) (L : Addr) (m : PySem.Str → Option Value) (env : Env) (elt : Expr) (x : PySem.Str) (scope : Scope) (cl : List (PySem.Str × Addr)) (Q : Value → Shared → Prop) (xv : Value) (s₁ : Shared) : Prop :=
  ∃ (r : Addr) (n : Nat) (t u v : Tok) (news : Led) (J : Nat → List Value → Led → Prop), xv = .ref r ∧ A.handled = none ∧ Fr h₀ L s₁.heap m ∧ News h₀ L s₁.heap news ∧ IsRange s₁.heap r 0 n 1 t u v ∧ n < 1000 ∧ J 0 [] news ∧
      (∀ i ys news₁ I oI C oC kc okc D h tk t (E' : Value → Shared → Prop), i < n → J i ys news₁ → okc.data = .cell (some (.int (i : Int) t)) → Fr h₀ L h m → News h₀ L h ([(I, oI), (C, oC), (kc, okc), (D, LCg.lst ys)] ++ news₁) → (∀ p ∈ news₁, ∀ q ∈ [(I, oI), (C, oC), (kc, okc), (D, LCg.lst ys)], p.1 ≠ q.1) →
        wpAny (model PySem.Challenge.rw_xg0022_01.row.prog w) A (eval elt (compEnvC scope ((x, kc) :: cl) C env)) (ElemEnd h₀ L m { s₁ with heap := h, toks := tk } [(I, oI), (C, oC), (kc, okc), (D, LCg.lst ys)] (fun y n => J (i + 1) (ys ++ [y]) n)) E' { s₁ with heap := h, toks := tk }) ∧
      (∀ D h tk ys news₂, J n ys news₂ → Fr h₀ L h m → News h₀ L h ((D, LCg.lst ys) :: news₂) → (∀ p ∈ news₂, p.1 ≠ D) → Q (.ref D) { s₁ with heap := h, toks := tk })
/-- a comprehension over range(n) whose variable lies in a cell of its own -/
theorem ListComp_cv {w : World} {A : Around} {E : Value → Shared → Prop} {s : Shared} {h₀ : Heap} {L : Addr} {m : PySem.Str → Option Value} {env : Env} {elt iter : Expr} {x : PySem.Str} {px : Pos} {scope : Scope} {cl : List (PySem.Str × Addr)} {pos : Pos} {Q : Value → Shared → Prop}
    (hclos : closureFor scope env = pure cl) (hkind : scope.kind = .function)
    (hnames : ∀ y ∈ scope.names, y.2 = .local → scope.names.lookup y.1 = some .local) (hx : ∀ C cl', (compEnvC scope cl' C env).kindOf x = some .cell)
    (hlay : ∀ a acc, cellsFrom a scope.names acc = (x, a) :: acc) (hpush : ∀ h, pushCells h scope.names = h.push { cls := .type "cell", data := .cell none })
    (h : wpAny (model PySem.Challenge.rw_xg0022_01.row.prog w) A (eval iter env) (CvSrc w A h₀ L m env elt x scope cl Q) E s)
    (hs : ∀ x, foldedSetIterable iter env x = pure x := by intro _; rfl) :
    wpAny (model PySem.Challenge.rw_xg0022_01.row.prog w) A (eval (.ListComp elt [⟨.Name x px, iter, [], 0⟩] scope pos) env) Q E s := by
  rw [eval_ListComp]
  refine wpAny_comprehension_free (use := none) rfl hs hclos hkind hnames (wpAny_mono h (fun xv s₁ h₁ => ?_) fun _ _ e => e)
  obtain ⟨r, n, t, u, v, news, J, rfl, hh, F, N, hr, hn, h0, turn, fin⟩ := h₁
  have esz : Builtin.Range.rangeSize 0 (n : Int) 1 = (n : Int) := by rw [rangeSize_nat]; omega
  refine wpAny_pyIter_range hr (small_one (by omega) (by omega) (by omega) (by omega)) ?_
  rw [esz]
  refine wpAny_newObj_type (newEnv_cell hlay hpush ?_)
  generalize hoI : ({ cls := .type "range_iterator", data := .fields #[rawInt 0, rawInt (n : Int), rawInt 1] } : Obj) = oI
  have N1 := News.push F N oI (by rw [← hoI]; rfl)
  have F1 := F.push oI
  have N2 := News.push F1 N1 { cls := .type "list", dict := none, data := .seq ([] : List Value).toArray } rfl
  have F2 := F1.push { cls := .type "list", dict := none, data := .seq ([] : List Value).toArray }
  have N3 := News.push F2 N2 { cls := .type "dict", data := .dict #[] } rfl
  have F3 := F2.push { cls := .type "dict", data := .dict #[] }
  have N4 := News.push F3 N3 { cls := .type "cell", data := .cell none } rfl
  have F4 := F3.push { cls := .type "cell", data := .cell none }
  have z2 := Heap.size_push s₁.heap oI
  have z3 := Heap.size_push (s₁.heap.push oI) { cls := .type "list", dict := none, data := .seq ([] : List Value).toArray }
  have z4 := Heap.size_push ((s₁.heap.push oI).push { cls := .type "list", dict := none, data := .seq ([] : List Value).toArray }) { cls := .type "dict", data := .dict #[] }
  have hlt : ∀ p ∈ news, p.1 < s₁.heap.objs.size := fun p hp => Heap.lt_size (N p hp).1
  have hIt : IsRangeIter (s₁.heap.push oI) s₁.heap.objs.size (0 + ((0 : Nat) : Int) * 1) ((n : Int) - ((0 : Nat) : Int)) 1 := by
    show (s₁.heap.push oI).get? s₁.heap.objs.size = _
    rw [← hoI]
    simpa using Heap.get?_push_size _ rfl
  have N5 : News h₀ L _ ([(s₁.heap.objs.size, oI), (((s₁.heap.push oI).push { cls := .type "list", dict := none, data := .seq ([] : List Value).toArray }).objs.size, { cls := .type "dict", data := .dict #[] }),
    ((((s₁.heap.push oI).push { cls := .type "list", dict := none, data := .seq ([] : List Value).toArray }).push { cls := .type "dict", data := .dict #[] }).objs.size, { cls := .type "cell", data := .cell none }),
    ((s₁.heap.push oI).objs.size, LCg.lst [])] ++ news) := news_sub N4 (by
    intro q hq
    simp only [List.cons_append, List.nil_append, List.mem_cons] at hq ⊢
    rcases hq with h | h | h | h | h
    · exact .inr (.inr (.inr (.inl h)))
    · exact .inr (.inl h)
    · exact .inl h
    · exact .inr (.inr (.inl h))
    · exact .inr (.inr (.inr (.inr h))))
  have hIt' := fun b o (e : (s₁.heap.push oI).get? b = some o) => Heap.get?_push_of_some ({ cls := .type "cell", data := .cell none } : Obj) (Heap.get?_push_of_some ({ cls := .type "dict", data := .dict #[] } : Obj) (Heap.get?_push_of_some ({ cls := .type "list", dict := none, data := .seq ([] : List Value).toArray } : Obj) e))
  have w1 := pairwise4 z2 z3 z4
  refine cv_run hkind hx hh hn F4 N5 ?_ ?_ rfl (hIt' _ _ hIt) h0 ?_ ?_
  · intro p hp q hq e
    have l := hlt p hp
    rw [e] at l
    simp only [List.mem_cons, List.not_mem_nil, or_false] at hq
    have l' : @LT.lt Nat _ q s₁.heap.objs.size := l
    have key : ∀ a b c d e : Nat, b = a + 1 → c = b + 1 → d = c + 1 → e < a → (e = a ∨ e = c ∨ e = d ∨ e = b) → False := by omega
    exact key _ _ _ _ _ z2 z3 z4 l' hq
  · exact w1
  · intro i ys news₁ oI' okc h tk t E' hi hJ hd F' N' off'
    refine turn i ys news₁ _ oI' _ _ _ okc _ h tk t E' hi hJ hd F' N' fun p hp q hq => ?_
    simp only [List.mem_cons, List.not_mem_nil, or_false] at hq
    rcases hq with e | e | e | e <;> (rw [e]; exact off' p hp _ (by simp))
  · intro h tk ys news₂ okc hJ F' N' off'
    have NC := N' _ (.head _)
    refine ⟨_, LCg.NsObj.ns ⟨#[], 0, rfl, (fun _ he => by simp at he), fun _ => rfl⟩ NC.1, fun h'' hs'' => ?_⟩
    refine fin _ h'' tk ys news₂ hJ (F'.change hs'' NC.2.1 NC.2.2) (fun p hp => ?_) (fun p hp => off' p hp _ (by simp))
    rcases List.mem_cons.mp hp with e | hp
    · have z := N' _ (.tail _ (.tail _ (.head _)))
      rw [e]
      exact ⟨hs''.extBut _ _ (Ne.symm w1.2.2.2.2.1) z.1, z.2⟩
    · have z := N' p (.tail _ (.tail _ (.tail _ hp)))
      exact ⟨hs''.extBut _ _ (off' p hp _ (.tail _ (.head _))) z.1, z.2⟩
end Mine

namespace Mine
local macro_rules | `(tactic| walk_at "exec While Compare") => `(tactic| (k_dflt (k_extra "my while")))
local macro_rules | `(tactic| walk_at "call ref") => `(tactic| (k_dflt (k_extra "my call")))
local macro_rules | `(tactic| ktr_room) => `(tactic| (show (_ : Nat) < _; (try dsimp only [Around.deeper, Around.in1]); (simp only [rec_is] at *); omega))
local macro_rules | `(tactic| ktr_units) => `(tactic| (show (_ : Nat) < _; (try dsimp only [Around.deeper, Around.in1]); (have hcL9 := cLine_is); omega))
local macro_rules | `(tactic| walk_at "callWith") => `(tactic| ((with_reducible show wpAny _ _ (callWith _ (Value.builtin _) [Value.ref _] _ _) _ _ _); k_dflt (refine callWith_method1 ?_)))
local macro_rules | `(tactic| k_updF) => `(tactic| (first | exact upd_c2 (by assumption) (by assumption) | exact upd_c3 (by assumption) (by assumption) | exact upd_c4 (by assumption) (by assumption) | exact upd_c5 (by assumption) (by assumption) | exact upd_c6 (by assumption) (by assumption) | exact upd_c7 (by assumption) (by assumption) | exact upd_c8 (by assumption) (by assumption)))
local macro_rules | `(tactic| walk_at "eval ListComp") => `(tactic| (refine stopHere ?_))
local macro_rules | `(tactic| walk_at "CompSrcT") => `(tactic| (refine stopHere ?_))
local macro_rules | `(tactic| walk_at "CompEnd") => `(tactic| (refine stopHere ?_))
local macro_rules | `(tactic| walk_at "compareOp In ref ref") => `(tactic| (k_dflt (k_extra "my in")))
local macro_rules | `(tactic| walk_at "call builtin:sum") => `(tactic| (k_dflt (k_extra "my sum")))
open LCg LCt in
theorem rest_invT {w : World} {A : Around} {h₀ : Heap} {L : Addr} {m : PySem.Str → Option Value} {env : Env} {ct elt : Expr} {x : PySem.Str} {scope : Scope} {cl : List (PySem.Str × Addr)} {s : Shared} {S : Led → Prop} {P : Nat → Value → Prop}
    {Fin : List Value → Led → Prop} {n : Nat} (J : Nat → List Value → Led → Prop)
    (turn : ∀ i ys news v I oI C oC D m₂ h tk (E' : Value → Shared → Prop), i < n → J i ys news → S news → P i v → NsObj oC m₂ → m₂ x = some v → Fr h₀ L h m → News h₀ L h ((I, oI) :: (C, oC) :: (D, lst ys) :: news) → Off3 I C D news → ((@Ne Nat I C) ∧ (@Ne Nat I D) ∧ (@Ne Nat C D)) →
      wpAny (model PySem.Challenge.rw_xg0022_01.row.prog w) A (isTrue ct (compEnvC scope cl C env) (eval ct (compEnvC scope cl C env))) (fun ok s' => if ok = true then
        wpAny (model PySem.Challenge.rw_xg0022_01.row.prog w) A (eval elt (compEnvC scope cl C env)) (CompEnd h₀ L m { s with heap := h, toks := tk } I oI C oC D (lst ys) S (fun y news' => J (i + 1) (ys ++ [y]) news')) E' s'
        else CompEnd h₀ L m { s with heap := h, toks := tk } I oI C oC D (lst ys) S (fun _ news' => J (i + 1) ys news') Value.none s') E' { s with heap := h, toks := tk })
    (fin : ∀ ys news, J n ys news → S news → Fin ys news) :
    ∀ k i ys news, i + k = n → J i ys news → S news → CompRestT PySem.Challenge.rw_xg0022_01.row.prog w A h₀ L m env ct elt x scope cl s S P Fin k i ys news
  | 0, i, ys, news, e, hJ, hS => CompRestT.zero (fin ys news (by rw [← e]; exact hJ) hS)
  | k + 1, i, ys, news, e, hJ, hS => CompRestT.succ fun v I oI C oC D m₂ h tk E' h1 h2 h3 h4 h5 h6 h7 => by
    refine wpAny_mono (turn i ys news v I oI C oC D m₂ h tk E' (by omega) hJ hS h1 h2 h3 h4 h5 h6 h7) (fun ok s' hq => ?_) fun _ _ e => e
    cases ok with
    | true =>
      simp only [if_true] at hq ⊢
      refine wp_ce hq fun y n hSn q => ?_
      exact rest_invT J turn fin k (i + 1) (ys ++ [y]) n (by omega) q hSn
    | false =>
      simp only [Bool.false_eq_true, if_false] at hq ⊢
      obtain ⟨h', tk', n', e', F', N', o', hS', q'⟩ := hq
      exact ⟨h', tk', n', e', F', N', o', hS', rest_invT J turn fin k (i + 1) ys n' (by omega) q' hS'⟩
/-- pair k crosses pair j -/
def crossB (ps : List Int) (k j : Nat) : Bool := decide (j < k ∧ crossAt ps k j ∨ k < j ∧ crossAt ps j k)
def rowInts (ps : List Int) (k n : Nat) : List Int := ((List.range n).filter (crossB ps k)).map fun j => (2 : Int) ^ j
def rowOf (ps : List Int) (n k : Nat) : Int := (rowInts ps k n).sum
theorem CrossIs.sym {ps : List Int} {n k j : Nat} {nss : List (List Int)} (h : CrossIs ps n 0 nss) (hk : k < n) (hj : j < n) : ([(k : Int), (j : Int)] ∈ nss ∨ [(j : Int), (k : Int)] ∈ nss) ↔ crossB ps k j = true := by
  rw [h, h]
  unfold crossB
  rw [decide_eq_true_eq]
  constructor
  · rintro (⟨a, b, h1, h2, h3, h4⟩ | ⟨a, b, h1, h2, h3, h4⟩)
    · simp only [List.cons.injEq, and_true] at h4
      have e1 : a = k := by omega
      have e2 : b = j := by omega
      subst e1 e2; exact .inl ⟨h1, h3⟩
    · simp only [List.cons.injEq, and_true] at h4
      have e1 : a = j := by omega
      have e2 : b = k := by omega
      subst e1 e2; exact .inr ⟨h1, h3⟩
  · rintro (⟨h1, h3⟩ | ⟨h1, h3⟩)
    · exact .inl ⟨k, j, h1, .inl hk, h3, rfl⟩
    · exact .inr ⟨j, k, h1, .inl hj, h3, rfl⟩
theorem rowInts_succ (ps : List Int) (k n : Nat) : rowInts ps k (n + 1) = if crossB ps k n = true then rowInts ps k n ++ [2 ^ n] else rowInts ps k n := by
  unfold rowInts
  rw [List.range_succ, List.filter_append]
  by_cases h : crossB ps k n = true <;> simp [h]
theorem rowInts_len (ps : List Int) (k n : Nat) : (rowInts ps k n).length ≤ n := by
  unfold rowInts
  have := List.length_filter_le (crossB ps k) (List.range n)
  simp at this ⊢; exact this
theorem sum_N {w : World} {A : Around} {E : Value → Shared → Prop} {s : Shared} {h₀ : Heap} {L l : Addr} {m : PySem.Str → Option Value} {news led : Led} {vs : List Value} {ns : List Int} {Q : Value → Shared → Prop} (hh : A.handled = none) (F : Fr h₀ L s.heap m) (N : News h₀ L s.heap led) (hl : (l, LCg.lst vs) ∈ led) (hi : IntsAre vs ns) (hs : ∀ p ∈ news, p ∈ led)
    (h : ∀ h' tk t', Fr h₀ L h' m → News h₀ L h' news → Q (.int ns.sum t') { s with heap := h', toks := tk }) : wpAny (model PySem.Challenge.rw_xg0022_01.row.prog w) A (call (.builtin "sum") [.ref l]) Q E s :=
  sumK hh F (news_sub N hs) ⟨_, (N _ hl).1, rfl, _, rfl⟩ hi h
section
variable {w : World} {fa : Addr} {cd : Value} {mean : ExcName → Option Value} {mg mb : PySem.Str → Option Value} {dp un : Nat} {gd : Option (List Code)} {outer : List Env} {A₀ : Around} {base h₀ : Heap} {L : Addr} {s : Shared} {Q : Flow → Shared → Prop} {c1 c2 c3 c4 c5 c6 c7 c8 : Addr} {o1 o2 o3 o4 o5 o6 o7 o8 : Obj}
set_option maxHeartbeats 4000000 in
theorem stmt8 {cr r : Addr} {cvs : List Value} {cn n : Nat} {ps : List Int} {nss : List (List Int)} {own : Led} {m : PySem.Str → Option Value} {ta tb tc : Tok} {v7 : Option Value}
   (K : Frag.In (hd.heap_39 w.params) h₀) (B : Below A₀ base outer h₀) (T : Top hd.view_39 theLoose mean mg mb h₀) (hd : dp + 40 < recursionLimit) (hu : un + 400 < cLine)
   (F : Fr h₀ L s.heap m) (N : News h₀ L s.heap ((cr, listOf cvs.toArray cn) :: (c8, o8) :: (c7, o7) :: (c6, o6) :: (c5, o5) :: (c4, o4) :: (c3, o3) :: (c2, o2) :: (c1, o1) :: own))
   (hoff : OwnOff own [cr, c8, c7, c6, c5, c4, c3, c2, c1]) (hcr : ∀ b ∈ [c8, c7, c6, c5, c4, c3, c2, c1], cr ≠ b) (lt : @LT.lt Nat _ c1 c2 ∧ @LT.lt Nat _ c2 c3 ∧ @LT.lt Nat _ c3 c4 ∧ @LT.lt Nat _ c4 c5 ∧ @LT.lt Nat _ c5 c6 ∧ @LT.lt Nat _ c6 c7 ∧ @LT.lt Nat _ c7 c8)
   (d3 : o3.data = .cell (some (.ref r))) (d4 : o4.data = .cell (some (.ref cr))) (d7 : o7.data = .cell v7)
   (hr : (r, rgObj 0 n ta tb tc) ∈ own) (nst : NestAre cvs nss own) (cis : CrossIs ps n 0 nss) (hn : n ≤ 5)
   (hQ : ∀ (D : Addr) (tvs : List Value) (o' : Obj) (h' : Heap) (tk' : Nat), IntsAre tvs ((List.range n).map (rowOf ps n)) → Fr h₀ L h' m → News h₀ L h' ((D, LCg.lst tvs) :: (c8, o8) :: (c7, o') :: (c6, o6) :: (c5, o5) :: (c4, o4) :: (c3, o3) :: (c2, o2) :: (c1, o1) :: own) → o'.data = .cell (some (.ref D)) → (∀ b ∈ [c8, c7, c6, c5, c4, c3, c2, c1], D ≠ b) → (∀ p ∈ own, p.1 ≠ D) → Q .next { s with heap := h', toks := tk' })
   : wpAny (model PySem.Challenge.rw_xg0022_01.row.prog w) (lawA fa cd dp un gd L (lawCl c1 c2 c3 c4 c5 c6 c7 c8) outer) (exec (lawSt 8) (lawEnv fa cd L (lawCl c1 c2 c3 c4 c5 c6 c7 c8))) Q (fun _ _ => False) s := by
  have eI : lawSt 8 = lawSt 8 := rfl
  have eS : lawS = lawS := rfl
  conv at eI => lhs; whnf
  conv at eS => lhs; whnf
  rw [← eI]
  unfold lawA lawEnv at *
  rw [← eS]
  clear eI eS
  revert K
  k_fill
  intro K
  k_steps
  unfold Halt
  refine ListComp_cv (h₀ := h₀) (L := L) (m := m) (by rfl) rfl (by decide) (fun _ _ => rfl) (fun _ _ => rfl) (fun _ => rfl) ?_
  k_steps
  refine ⟨r, n, ta, tb, tc, _, fun i ys news => news = (cr, listOf cvs.toArray cn) :: (c8, o8) :: (c7, o7) :: (c6, o6) :: (c5, o5) :: (c4, o4) :: (c3, o3) :: (c2, o2) :: (c1, o1) :: own ∧ IntsAre ys ((List.range i).map (rowOf ps n)), rfl, rfl, F, N, (N _ (.tail _ (.tail _ (.tail _ (.tail _ (.tail _ (.tail _ (.tail _ (.tail _ (.tail _ hr)))))))))).1, by omega, ⟨rfl, .nil⟩, ?turn, ?fin⟩
  case turn =>
    clear hQ
    rintro k ys _ I oI C oC kc okc D h tk tK E' hk ⟨rfl, hys⟩ dk F1 N1 off1
    simp only [List.cons_append, List.nil_append] at N1
    clear F N
    k_steps
    unfold Halt
    refine LCt.ListComp_T (F₀ := F1) (by rfl) (by decide) (by rfl) (by decide) (by rfl) ?_
    k_steps
    unfold Halt
    have n5 : n ≤ 1000 := by omega
    refine LCt.CompSrcT.range (n := n) rfl F1 N1 (N1 _ (.tail _ (.tail _ (.tail _ (.tail _ (.tail _ (.tail _ (.tail _ (.tail _ (.tail _ (.tail _ (.tail _ (.tail _ (.tail _ hr)))))))))))))).1 (small_one (by omega) (by omega) (by omega) (by omega)) (by rw [rangeSize_nat]; omega) (by rw [sizeLine_eq]; omega) (fun g => ?_)
    refine rest_invT (fun j zs news => news = (I, oI) :: (C, oC) :: (kc, okc) :: (D, LCg.lst ys) :: (cr, listOf cvs.toArray cn) :: (c8, o8) :: (c7, o7) :: (c6, o6) :: (c5, o5) :: (c4, o4) :: (c3, o3) :: (c2, o2) :: (c1, o1) :: own ∧ IntsAre zs (rowInts ps k j)) ?turn2 ?fin2 _ 0 [] _ (Nat.zero_add _) ⟨rfl, .nil⟩ trivial
    case turn2 =>
      rintro j zs _ v I2 oI2 C2 oC2 D2 m₂ h2 tk2 E2 hj ⟨rfl, hzs⟩ - ⟨tv, rfl⟩ hns hx F2 N2 off2 ne2
      have e0 : (0 : Int) + (j : Int) = (j : Int) := by omega
      rw [e0] at hx
      clear F1 N1
      have sy := cis.sym hk hj
      have sc := rowInts_succ ps k j
      k_with "my in" => ((rename News _ _ _ _ => N8); (first | refine in_nest (nss := nss) N8 (.tail _ (.tail _ (.tail _ (.tail _ (.tail _ (.tail _ (.tail _ (.tail _ (.head _))))))))) (.head _) (nst.mono fun p hp => (.tail _ (.tail _ (.tail _ (.tail _ (.tail _ (.tail _ (.tail _ (.tail _ (.tail _ (.tail _ (.tail _ (.tail _ (.tail _ (.tail _ (.tail _ (.tail _ (.tail _ hp)))))))))))))))))) (.cons _ _ (.cons _ _ .nil)) (by ktr_units) ?_ | refine in_nest (nss := nss) N8 (.tail _ (.tail _ (.tail _ (.tail _ (.tail _ (.tail _ (.tail _ (.tail _ (.tail _ (.head _)))))))))) (.head _) (nst.mono fun p hp => (.tail _ (.tail _ (.tail _ (.tail _ (.tail _ (.tail _ (.tail _ (.tail _ (.tail _ (.tail _ (.tail _ (.tail _ (.tail _ (.tail _ (.tail _ (.tail _ (.tail _ (.tail _ hp))))))))))))))))))) (.cons _ _ (.cons _ _ .nil)) (by ktr_units) ?_); (first | rw [decide_eq_true hA] | rw [decide_eq_false hA] | rw [decide_eq_true hB] | rw [decide_eq_false hB]))
      by_cases hA : [(k : Int), (j : Int)] ∈ nss
      · rw [if_pos (sy.mp (.inl hA))] at sc
        k_steps
        unfold Halt
        rename Fr _ _ _ _ => Fz
        rename News _ _ _ _ => Nz
        rw [sc]
        exact LCg.CompEnd.intro Fz Nz _ (fun p hp => .tail _ hp) off2 trivial ⟨rfl, hzs.append (.cons _ _ .nil)⟩
      · by_cases hB : [(j : Int), (k : Int)] ∈ nss
        · rw [if_pos (sy.mp (.inr hB))] at sc
          k_steps
          unfold Halt
          rename Fr _ _ _ _ => Fz
          rename News _ _ _ _ => Nz
          rw [sc]
          exact LCg.CompEnd.intro Fz Nz _ (fun p hp => .tail _ (.tail _ hp)) off2 trivial ⟨rfl, hzs.append (.cons _ _ .nil)⟩
        · rw [if_neg (fun e => by rcases sy.mpr e with e | e; exact hA e; exact hB e)] at sc
          k_steps
          unfold Halt
          rename Fr _ _ _ _ => Fz
          rename News _ _ _ _ => Nz
          rw [sc]
          exact LCg.CompEnd.intro Fz Nz _ (fun p hp => .tail _ (.tail _ hp)) off2 trivial ⟨rfl, hzs⟩
    case fin2 =>
      rintro zs _ ⟨rfl, hzs⟩ -
      unfold LCg.FinE
      intro D2 h2 tk2 F2 N2 o2'
      k_with "my sum" => (refine sum_N (by rfl) (by assumption) (by assumption) (.head _) hzs (fun p hp => .tail _ hp) ?_; intro h9 tk9 t9 F9 N9)
      k_steps
      refine ⟨h9, tk9, _, rfl, F9, N9, off1, rfl, ?_⟩
      rw [List.range_succ, List.map_append]
      exact hys.append (.cons _ _ .nil)
  case fin =>
    rintro D h tk ys _ ⟨rfl, hys⟩ F1 N1 off1
    have N2 : News h₀ L h ((c8, o8) :: (c7, o7) :: (c6, o6) :: (c5, o5) :: (c4, o4) :: (c3, o3) :: (c2, o2) :: (c1, o1) :: (D, LCg.lst ys) :: own) := news_sub N1 (fun q hq => by
      rcases List.mem_append.mp (show q ∈ ((c8, o8) :: (c7, o7) :: (c6, o6) :: (c5, o5) :: (c4, o4) :: (c3, o3) :: (c2, o2) :: (c1, o1) :: []) ++ (D, LCg.lst ys) :: own from hq) with h | h
      · exact .tail _ (.tail _ (List.mem_append_left (bs := own) h))
      · rcases List.mem_cons.mp h with h | h
        · rw [h]; exact .head _
        · exact .tail _ (.tail _ (List.mem_append_right ((c8, o8) :: (c7, o7) :: (c6, o6) :: (c5, o5) :: (c4, o4) :: (c3, o3) :: (c2, o2) :: (c1, o1) :: []) h)))
    have hD := cells_ne9 off1
    have offD : ∀ p ∈ own, p.1 ≠ D := fun p hp => off1 p (.tail _ (.tail _ (.tail _ (.tail _ (.tail _ (.tail _ (.tail _ (.tail _ (.tail _ hp)))))))))
    have oo := off_cons (off_less hoff) (o := LCg.lst ys) (fun b hb => hD b (.tail _ hb))
    refine storeX_C F1 N2 rfl (upd_c7 oo lt) d7 ?_
    intro h' o' F' N' d'
    refine hQ D ys o' h' tk hys F' (news_sub N' ?_) d' (fun b hb => hD b (.tail _ hb)) offD
    exact mv_out (l := (c8, o8) :: (c7, o') :: (c6, o6) :: (c5, o5) :: (c4, o4) :: (c3, o3) :: (c2, o2) :: (c1, o1) :: [])
end
end Mine

namespace Mine
local macro_rules | `(tactic| walk_at "exec While Compare") => `(tactic| (k_dflt (k_extra "my while")))
local macro_rules | `(tactic| walk_at "call ref") => `(tactic| (k_dflt (k_extra "my call")))
local macro_rules | `(tactic| ktr_room) => `(tactic| (show (_ : Nat) < _; (try dsimp only [Around.deeper, Around.in1]); (simp only [rec_is] at *); omega))
local macro_rules | `(tactic| ktr_units) => `(tactic| (show (_ : Nat) < _; (try dsimp only [Around.deeper, Around.in1]); (have hcL9 := cLine_is); omega))
theorem compTurn_two1 (elt t0 i0 t1 i1 : Expr) (scope : Scope) (pos : Pos) (it acc : Value) (env : Env) :
    compTurn (.ListComp elt [⟨t0, i0, [], 0⟩, ⟨t1, i1, [], 0⟩] scope pos) 1 it acc env = (standAt i1.pos >>= fun _ => pyNext it >>= fun r => match r with
      | none => pure (.done .next)
      | some v => letOwnedTupleGo t1 it v >>= fun _ => assign t1 env v >>= fun _ =>
        (eval elt env >>= fun x => call (.builtin "list.append") [acc, x] >>= fun _ => pure ()) >>= fun _ =>
          again (.compLoop (.ListComp elt [⟨t0, i0, [], 0⟩, ⟨t1, i1, [], 0⟩] scope pos) 1 it acc env)) := by rfl
theorem compTurn_two0 (elt t0 i0 t1 i1 : Expr) (scope : Scope) (pos : Pos) (it acc : Value) (env : Env) :
    compTurn (.ListComp elt [⟨t0, i0, [], 0⟩, ⟨t1, i1, [], 0⟩] scope pos) 0 it acc env = (standAt i0.pos >>= fun _ => pyNext it >>= fun r => match r with
      | none => pure (.done .next)
      | some v => letOwnedTupleGo t0 it v >>= fun _ => assign t0 env v >>= fun _ =>
        (eval i1 env >>= fun x => standAt i1.pos >>= fun _ => foldedSetIterable i1 env x >>= fun x => holding [x] (pyIter x) >>= fun it' => runOwn (.compStart (.ListComp elt [⟨t0, i0, [], 0⟩, ⟨t1, i1, [], 0⟩] scope pos) 1 it' acc env) env >>= fun _ =>
          again (.compLoop (.ListComp elt [⟨t0, i0, [], 0⟩, ⟨t1, i1, [], 0⟩] scope pos) 0 it acc env))) := by rfl
/-- all but the addresses S stand as they stood -/
def KB (S : List Addr) (h h' : Heap) : Prop := ∀ b o, b ∉ S → h.get? b = some o → h'.get? b = some o
theorem KB.refl (S : List Addr) (h : Heap) : KB S h h := fun _ _ _ e => e
theorem KB.trans {S : List Addr} {h h' h'' : Heap} (a : KB S h h') (b : KB S h' h'') : KB S h h'' := fun x o n e => b x o n (a x o n e)
theorem KB.more {S T : List Addr} {h h' : Heap} (a : KB S h h') (hs : ∀ x ∈ S, x ∈ T) : KB T h h' := fun x o n e => a x o (fun q => n (hs x q)) e
theorem fr_kb {S : List Addr} {h₀ h h' : Heap} {L : Addr} {m : PySem.Str → Option Value} (F : Fr h₀ L h m) (k : KB S h h') (hS : ∀ a ∈ S, a ≠ L ∧ h₀.get? a = none) : Fr h₀ L h' m :=
  ⟨F.ns.at' fun o e => k L o (fun q => (hS _ q).1 rfl) e, fun b o e => k b o (fun q => by rw [(hS _ q).2] at e; cases e) (F.keep b o e), F.above⟩
theorem news_kb {S : List Addr} {h₀ h h' : Heap} {L : Addr} {news : Led} (N : News h₀ L h news) (k : KB S h h') (off : ∀ p ∈ news, p.1 ∉ S) : News h₀ L h' news := fun p hp => ⟨k _ _ (off p hp) (N p hp).1, (N p hp).2⟩
theorem same_kb {a : Addr} {S : List Addr} {h h' : Heap} (hs : Heap.SameBut a h h') (ha : a ∈ S) : KB S h h' := fun b o n e => hs.extBut b o (fun q => n (q ▸ ha)) e
section
variable {w : World} {A : Around} {E : Value → Shared → Prop} {s₁ : Shared} {h₀ : Heap} {L : Addr} {m : PySem.Str → Option Value} {env : Env} {elt it0 it1 : Expr} {x z : PySem.Str} {px pz : Pos} {scope : Scope} {cl : List (PySem.Str × Addr)} {pos : Pos} {news : Led} {J : Nat → Nat → List Value → Prop}
theorem compStart_two1 {it acc : Value} {env : Env} {R : Result → Shared → Prop} {s : Shared}
    (h0 : codeAny (model PySem.Challenge.rw_xg0022_01.row.prog w) A (.compLoop (.ListComp elt [⟨.Name x px, it0, [], 0⟩, ⟨.Name z pz, it1, [], 0⟩] scope pos) 1 it acc env) R s)
    (h : wpAny (model PySem.Challenge.rw_xg0022_01.row.prog w) A (pyIter it) (fun it' s' => codeAny (model PySem.Challenge.rw_xg0022_01.row.prog w) A (.compLoop (.ListComp elt [⟨.Name x px, it0, [], 0⟩, ⟨.Name z pz, it1, [], 0⟩] scope pos) 1 it' acc env) R s') (notedBy (model PySem.Challenge.rw_xg0022_01.row.prog w) A env fun x s' => R (.error x) s') s) :
    codeAny (model PySem.Challenge.rw_xg0022_01.row.prog w) A (.compStart (.ListComp elt [⟨.Name x px, it0, [], 0⟩, ⟨.Name z pz, it1, [], 0⟩] scope pos) 1 it acc env) R s := by
  refine codeAny_of_tree ?_
  show wpAny _ _ ((compStart (.ListComp elt [⟨.Name x px, it0, [], 0⟩, ⟨.Name z pz, it1, [], 0⟩] scope pos) 1 it acc env).onRaise (fun x => do noteFrame x env; standAt theWindowsPlace)) _ _ s
  refine wpAny_notedAt ?_
  unfold compStart
  show wpAny _ _ (ask >>= _) _ _ s
  refine wpAny_bind (wpAny_askSetting (wpAny_ite ?_))
  split
  · first
      | exact wpAny_bind (wpAny_pure (wpAny_pure (And.intro rfl h0)))
      | exact wpAny_pure (And.intro rfl h0)
  · refine wpAny_bind (wpAny_rule ?_)
    show wpAny _ _ (standAt it1.pos >>= _) _ _ s
    exact wpAny_bind (wpAny_standAt (wpAny_bind (wpAny_mono h (fun it' s' h' => wpAny_pure (And.intro rfl h')) fun _ _ x => x)))
/-- the inner clause over [0, 1] -/
theorem two_inner {R : Result → Shared → Prop} {I2 l C D : Addr} {oC : Obj} {mC : PySem.Str → Option Value} {v : Value} {ys : List Value} {i tk : Nat} {h : Heap} {t0 t1 : Tok}
    (hkind : scope.kind = .function) (hz : scope.names.lookup z = some .local) (hxz : x ≠ z) (hh : A.handled = none)
    (F : Fr h₀ L h m) (N : News h₀ L h news) (hS : ∀ a ∈ [I2, C, D], a ≠ L ∧ h₀.get? a = none) (off : ∀ p ∈ news, p.1 ∉ [I2, C, D])
    (ne : I2 ≠ C ∧ I2 ≠ D ∧ C ≠ D ∧ l ≠ I2 ∧ l ≠ C ∧ l ≠ D) (gC : h.get? C = some oC) (nC : LCg.NsObj oC mC) (xC : mC x = some v) (gD : h.get? D = some (LCg.lst ys))
    (gI : h.IsListIter I2 l 0) (gl : h.IsList l #[Value.int 0 t0, .int 1 t1]) (hJ : J i 0 ys) (hys : ∀ b ys, J i b ys → ys.length ≤ 1000)
    (el : ∀ b ys C oC m₂ h tk t (E' : Value → Shared → Prop), b < 2 → J i b ys → m₂ x = some v → m₂ z = some (.int ((b : Nat) : Int) t) → LCg.NsObj oC m₂ → Fr h₀ L h m → News h₀ L h ((C, oC) :: news) →
      wpAny (model PySem.Challenge.rw_xg0022_01.row.prog w) A (eval elt (compEnvC scope cl C env)) (fun y s₂ => (∃ tk', s₂ = { s₁ with heap := h, toks := tk' }) ∧ J i (b + 1) (ys ++ [y])) E' { s₁ with heap := h, toks := tk })
    (fin : ∀ h' tk' oC' mC' ys', KB [I2, C, D] h h' → h'.get? C = some oC' → LCg.NsObj oC' mC' → h'.get? D = some (LCg.lst ys') → J i 2 ys' → R (.ok .next) { s₁ with heap := h', toks := tk' }) :
    codeAny (model PySem.Challenge.rw_xg0022_01.row.prog w) A (.compStart (.ListComp elt [⟨.Name x px, it0, [], 0⟩, ⟨.Name z pz, it1, [], 0⟩] scope pos) 1 (.ref I2) (.ref D) (compEnvC scope cl C env)) R { s₁ with heap := h, toks := tk } := by
  obtain ⟨n1, n2, n3, n4, n5, n6⟩ := ne
  have W := Walks.list (prog := PySem.Challenge.rw_xg0022_01.row.prog) (w := w) hh I2 l n4 #[Value.int 0 t0, .int 1 t1]
  have loop : codeAny (model PySem.Challenge.rw_xg0022_01.row.prog w) A (.compLoop (.ListComp elt [⟨.Name x px, it0, [], 0⟩, ⟨.Name z pz, it1, [], 0⟩] scope pos) 1 (.ref I2) (.ref D) (compEnvC scope cl C env)) R { s₁ with heap := h, toks := tk } := by
    refine codeAny_loop rfl
      (fun k s' => ∃ h' tk j ys oC mC, s' = { s₁ with heap := h', toks := tk } ∧ j ≤ 2 ∧ k = 3 - j ∧ J i j ys ∧ (h'.IsListIter I2 l j ∧ h'.IsList l #[Value.int 0 t0, .int 1 t1]) ∧ h'.get? C = some oC ∧ LCg.NsObj oC mC ∧ mC x = some v ∧ h'.get? D = some (LCg.lst ys) ∧ KB [I2, C, D] h h') ?_ 3
      ⟨h, tk, 0, ys, oC, mC, rfl, Nat.zero_le _, rfl, hJ, ⟨gI, gl⟩, gC, nC, xC, gD, KB.refl _ _⟩
    rintro k s' ⟨h', tk, j, ys, oC, mC, rfl, hj, rfl, hJ, gI', gC', nC', xC', gD', kb⟩
    show wpAny _ _ ((compTurn (.ListComp elt [⟨.Name x px, it0, [], 0⟩, ⟨.Name z pz, it1, [], 0⟩] scope pos) 1 (.ref I2) (.ref D) (compEnvC scope cl C env)).onRaise (fun x => do noteFrame x (compEnvC scope cl C env); theTreesLotGoes x)) _ _ _
    refine wpAny_noted ?_
    rw [compTurn_two1]
    refine wpAny_bind (wpAny_standAt (wpAny_bind ?_))
    by_cases hlt : j < 2
    · refine W.item j _ _ _ hlt gI' fun v' h₁ tk₁ hP hst₁ hk₁ => ?_
      have kb1 : KB [I2, C, D] h h₁ := kb.trans (fun b o n e => hk₁ b o (fun q => n (by rw [List.mem_singleton.mp q]; exact .head _)) e)
      obtain ⟨tv, rfl⟩ : ∃ tv, v' = Value.int ((j : Nat) : Int) tv := by
        rcases (by omega : j = 0 ∨ j = 1) with h | h <;> subst h <;> simp at hP <;> exact ⟨_, hP.symm⟩
      have gC1 := hk₁ C _ (by simpa using Ne.symm n1) gC'
      have gD1 := hk₁ D _ (by simpa using Ne.symm n2) gD'
      refine wpAny_bind (wpAny_of_eq (rfl : letOwnedTupleGo (.Name z pz) (.ref I2) _ = pure ()) ?_)
      refine wpAny_bind (wpAny_assign_Name (wpAny_storeName_local (lookup_relabel_local hz) (nC'.ns gC1) (fun h₂ hn₂ hs₂ => ?_) (by simp [compEnvC, relabel, hkind])))
      obtain ⟨oC2, gC2, nC2⟩ := LCg.ns_obj hn₂
      have kb2 : KB [I2, C, D] h h₂ := kb1.trans (same_kb hs₂ (by simp [compEnvC]))
      have gD2 : h₂.get? D = some (LCg.lst ys) := hs₂.extBut D _ (Ne.symm n3) gD1
      have F2 := fr_kb F kb2 hS
      have N2 := news_kb N kb2 off
      have hC2 := hS C (by simp)
      refine wpAny_bind (wpAny_bind (wpAny_mono (el j ys C oC2 _ h₂ _ tv _ hlt hJ (by simpa [hxz] using xC') (by simp) nC2 F2 (fun p hp => by
        rcases List.mem_cons.mp hp with rfl | hp
        · exact ⟨gC2, hC2⟩
        · exact N2 p hp)) (fun y s₃ h₃ => ?_) fun _ _ e => e))
      obtain ⟨⟨tk3, rfl⟩, hJ3⟩ := h₃
      have hl := hys _ _ hJ
      refine wpAny_bind (append_at (hsz := by show ys.toArray.size ≤ sizeLine; rw [List.size_toArray, sizeLine_eq]; omega) gD2 fun h₄ hs₄ hD₄ => ?_)
      rw [LCg.lst_snoc] at hD₄
      refine wpAny_pure (wpAny_pure ⟨rfl, 3 - (j + 1), by omega, h₄, _, j + 1, ys ++ [y], oC2, _, rfl, hlt, rfl, hJ3, ⟨?_, ?_⟩, hs₄.extBut C _ n3 gC2, nC2, by simpa [hxz] using xC', hD₄, kb2.trans (same_kb hs₄ (by simp))⟩)
      · exact (hst₁.1.at fun o e => hs₄.extBut _ o n2 (hs₂.extBut _ o (by simpa [compEnvC] using n1) e))
      · exact (hst₁.2.at fun o e => hs₄.extBut _ o n6 (hs₂.extBut _ o (by simpa [compEnvC] using n5) e))
    · obtain rfl : j = 2 := by omega
      refine W.done _ _ _ gI' fun h₁ tk₁ hk₁ => wpAny_pure ?_
      exact fin h₁ tk₁ oC mC ys (kb.trans (fun b o n e => hk₁ b o (fun q => n (by rw [List.mem_singleton.mp q]; exact .head _)) e)) (hk₁ C _ (by simpa using Ne.symm n1) gC') nC' (hk₁ D _ (by simpa using Ne.symm n2) gD') hJ
  exact compStart_two1 loop (W.self 0 _ _ _ ⟨gI, gl⟩ loop)
/-- the inner source stands: a new list [0, 1] -/
def TwoSrc1 (h₀ : Heap) (L : Addr) (m : PySem.Str → Option Value) (s₁ : Shared) (led : Led) (xv : Value) (s₂ : Shared) : Prop :=
  ∃ l h' tk' t0 t1, xv = .ref l ∧ s₂ = { s₁ with heap := h', toks := tk' } ∧ Fr h₀ L h' m ∧ News h₀ L h' ((l, listOf #[Value.int 0 t0, .int 1 t1] 0) :: led) ∧ (∀ p ∈ led, p.1 ≠ l)
/-- both clauses -/
theorem two_run {R : Result → Shared → Prop} {ax I C D : Addr} {oC : Obj} {mC : PySem.Str → Option Value} {its : List Value} {k₀ tk : Nat} {h : Heap}
    (hkind : scope.kind = .function) (hx : scope.names.lookup x = some .local) (hz : scope.names.lookup z = some .local) (hxz : x ≠ z) (hh : A.handled = none) (hs1 : ∀ y env, foldedSetIterable it1 env y = pure y)
    (F : Fr h₀ L h m) (N : News h₀ L h news) (hax : (ax, listOf its.toArray k₀) ∈ news) (hS : ∀ a ∈ [I, C, D], a ≠ L ∧ h₀.get? a = none) (off : ∀ p ∈ news, p.1 ∉ [I, C, D])
    (ne : I ≠ C ∧ I ≠ D ∧ C ≠ D) (gC : h.get? C = some oC) (nC : LCg.NsObj oC mC) (gD : h.get? D = some (LCg.lst [])) (gI : h.IsListIter I ax 0)
    (hJ : J 0 0 []) (hys : ∀ i b ys, J i b ys → ys.length ≤ 1000) (hnext : ∀ i ys, J i 2 ys → J (i + 1) 0 ys)
    (src : ∀ I oI C oC D oD h tk (E' : Value → Shared → Prop), Fr h₀ L h m → News h₀ L h ((I, oI) :: (C, oC) :: (D, oD) :: news) → wpAny (model PySem.Challenge.rw_xg0022_01.row.prog w) A (eval it1 (compEnvC scope cl C env)) (TwoSrc1 h₀ L m s₁ ((I, oI) :: (C, oC) :: (D, oD) :: news)) E' { s₁ with heap := h, toks := tk })
    (el : ∀ i v b ys C oC m₂ h tk t (E' : Value → Shared → Prop), its[i]? = some v → b < 2 → J i b ys → m₂ x = some v → m₂ z = some (.int ((b : Nat) : Int) t) → LCg.NsObj oC m₂ → Fr h₀ L h m → News h₀ L h ((C, oC) :: news) →
      wpAny (model PySem.Challenge.rw_xg0022_01.row.prog w) A (eval elt (compEnvC scope cl C env)) (fun y s₂ => (∃ tk', s₂ = { s₁ with heap := h, toks := tk' }) ∧ J i (b + 1) (ys ++ [y])) E' { s₁ with heap := h, toks := tk })
    (fin : ∀ h' tk' oC' mC' ys', Fr h₀ L h' m → News h₀ L h' ((C, oC') :: (D, LCg.lst ys') :: news) → LCg.NsObj oC' mC' → J its.length 0 ys' → R (.ok .next) { s₁ with heap := h', toks := tk' }) :
    codeAny (model PySem.Challenge.rw_xg0022_01.row.prog w) A (.compStart (.ListComp elt [⟨.Name x px, it0, [], 0⟩, ⟨.Name z pz, it1, [], 0⟩] scope pos) 0 (.ref I) (.ref D) (compEnvC scope cl C env)) R { s₁ with heap := h, toks := tk } := by
  obtain ⟨n1, n2, n3⟩ := ne
  have haxI : ax ≠ I := fun e => off _ hax (by simp [e])
  have W := Walks.list (prog := PySem.Challenge.rw_xg0022_01.row.prog) (w := w) hh I ax haxI its.toArray
  have gl : h.IsList ax its.toArray := ⟨_, (N _ hax).1, rfl, _, rfl⟩
  have loop : codeAny (model PySem.Challenge.rw_xg0022_01.row.prog w) A (.compLoop (.ListComp elt [⟨.Name x px, it0, [], 0⟩, ⟨.Name z pz, it1, [], 0⟩] scope pos) 0 (.ref I) (.ref D) (compEnvC scope cl C env)) R { s₁ with heap := h, toks := tk } := by
    refine codeAny_loop rfl
      (fun k s' => ∃ h' tk i ys oC mC, s' = { s₁ with heap := h', toks := tk } ∧ i ≤ its.length ∧ k = its.length + 1 - i ∧ J i 0 ys ∧ (h'.IsListIter I ax i ∧ h'.IsList ax its.toArray) ∧ h'.get? C = some oC ∧ LCg.NsObj oC mC ∧ h'.get? D = some (LCg.lst ys) ∧ Fr h₀ L h' m ∧ News h₀ L h' news) ?_ (its.length + 1)
      ⟨h, tk, 0, [], oC, mC, rfl, Nat.zero_le _, rfl, hJ, ⟨gI, gl⟩, gC, nC, gD, F, N⟩
    rintro k s' ⟨h', tk, i, ys, oC, mC, rfl, hi, rfl, hJ, gI', gC', nC', gD', F', N'⟩
    show wpAny _ _ ((compTurn (.ListComp elt [⟨.Name x px, it0, [], 0⟩, ⟨.Name z pz, it1, [], 0⟩] scope pos) 0 (.ref I) (.ref D) (compEnvC scope cl C env)).onRaise (fun x => do noteFrame x (compEnvC scope cl C env); theTreesLotGoes x)) _ _ _
    refine wpAny_noted ?_
    rw [compTurn_two0]
    refine wpAny_bind (wpAny_standAt (wpAny_bind ?_))
    by_cases hlt : i < its.length
    · refine W.item i _ _ _ (by simpa using hlt) gI' fun v h₁ tk₁ hP hst₁ hk₁ => ?_
      have hP' : its[i]? = some v := by simpa using hP
      have kb1 : KB [I, C, D] h' h₁ := fun b o n e => hk₁ b o (fun q => n (by rw [List.mem_singleton.mp q]; exact .head _)) e
      have gC1 := hk₁ C _ (by simpa using Ne.symm n1) gC'
      have gD1 := hk₁ D _ (by simpa using Ne.symm n2) gD'
      refine wpAny_bind (wpAny_of_eq (rfl : letOwnedTupleGo (.Name x px) (.ref I) _ = pure ()) ?_)
      refine wpAny_bind (wpAny_assign_Name (wpAny_storeName_local (lookup_relabel_local hx) (nC'.ns gC1) (fun h₂ hn₂ hs₂ => ?_) (by simp [compEnvC, relabel, hkind])))
      obtain ⟨oC2, gC2, nC2⟩ := LCg.ns_obj hn₂
      have kb2 : KB [I, C, D] h' h₂ := kb1.trans (same_kb hs₂ (by simp [compEnvC]))
      have gD2 : h₂.get? D = some (LCg.lst ys) := hs₂.extBut D _ (Ne.symm n3) gD1
      have F2 := fr_kb F' kb2 hS
      have N2 := news_kb N' kb2 off
      have hC2 := hS C (by simp)
      have hD2 := hS D (by simp)
      have hI2 := hS I (by simp)
      have gIa : h₂.IsListIter I ax (i + 1) := hst₁.1.at fun o e => hs₂.extBut _ o (by simpa [compEnvC] using n1) e
      obtain ⟨oI2, gI2, rI2⟩ := id gIa
      refine wpAny_bind (wpAny_mono (src I oI2 C oC2 D _ h₂ _ _ F2 (fun p hp => by
        rcases List.mem_cons.mp hp with rfl | hp
        · exact ⟨gI2, hI2⟩
        rcases List.mem_cons.mp hp with rfl | hp
        · exact ⟨gC2, hC2⟩
        rcases List.mem_cons.mp hp with rfl | hp
        · exact ⟨gD2, hD2⟩
        · exact N2 p hp)) (fun xv s₃ h₃ => ?_) fun _ _ e => e)
      obtain ⟨l, h₃, tk₃, t0, t1, rfl, rfl, F3, N3, off3⟩ := h₃
      have g3 : ∀ p ∈ (I, oI2) :: (C, oC2) :: (D, LCg.lst ys) :: news, h₃.get? p.1 = some p.2 := fun p hp => (N3 p (.tail _ hp)).1
      have gl3 : h₃.get? l = some (listOf #[Value.int 0 t0, .int 1 t1] 0) := (N3 _ (.head _)).1
      refine wpAny_bind (wpAny_standAt (wpAny_bind (wpAny_of_eq (hs1 _ _) (wpAny_bind (wpAny_holding (wpAny_pyIter_list ⟨_, gl3, rfl, 0, rfl⟩ ?_))))))
      have up : ∀ b o, h₃.get? b = some o → (h₃.push { cls := .type "list_iterator", data := .fields #[.ref l, .int 0 0] }).get? b = some o := fun b o e => Heap.get?_push_of_some _ e
      have lt3 : ∀ b o, h₃.get? b = some o → b ≠ h₃.objs.size := fun b o e q => Nat.lt_irrefl _ (by have := Heap.lt_size e; rw [q] at this; exact this)
      have F4 := F3.keeps up
      have N4 : News h₀ L _ news := fun p hp => ⟨up _ _ (N3 p (.tail _ (.tail _ (.tail _ (.tail _ hp))))).1, (N2 p hp).2⟩
      have hS5 : ∀ a ∈ [h₃.objs.size, C, D], a ≠ L ∧ h₀.get? a = none := by
        intro a ha
        simp only [List.mem_cons, List.not_mem_nil, or_false] at ha
        rcases ha with e | e | e <;> rw [e]
        · exact ⟨Ne.symm (Nat.ne_of_lt F3.ns.lt), next_is_new F3⟩
        · exact hC2
        · exact hD2
      have off5 : ∀ p ∈ news, p.1 ∉ [h₃.objs.size, C, D] := by
        intro p hp q
        have := off p hp
        simp only [List.mem_cons, List.not_mem_nil, or_false, not_or] at q this
        rcases q with e | e | e
        · exact lt3 _ _ (g3 p (by simp [hp])) e
        · exact this.2.1 e
        · exact this.2.2 e
      refine wpAny_bind (wpAny_runOwn (two_inner (I2 := h₃.objs.size) (l := l) (J := J) (i := i) (ys := ys) (oC := oC2) (v := v) hkind hz hxz hh F4 N4 hS5 off5 ?_ (up _ _ (g3 (C, oC2) (by simp))) nC2 (by simp) (up _ _ (g3 (D, LCg.lst ys) (by simp))) ⟨_, Heap.get?_push_size _ rfl, rfl, rfl⟩ ⟨_, up _ _ gl3, rfl, 0, rfl⟩ hJ (hys i) (fun b ys C oC m₂ h tk t E' => el i v b ys C oC m₂ h tk t E' hP') ?_))
      · exact ⟨Ne.symm (lt3 _ _ (g3 (C, oC2) (by simp))), Ne.symm (lt3 _ _ (g3 (D, LCg.lst ys) (by simp))), n3, lt3 _ _ gl3, Ne.symm (off3 (C, oC2) (by simp)), Ne.symm (off3 (D, LCg.lst ys) (by simp))⟩
      · intro h₅ tk₅ oC5 mC5 ys5 kb5 gC5 nC5 gD5 hJ5
        have gI5 : h₅.get? I = some oI2 := kb5 I _ (by
          have := lt3 _ _ (g3 (I, oI2) (by simp))
          simp only [List.mem_cons, List.not_mem_nil, or_false, not_or]
          exact ⟨this, n1, n2⟩) (up _ _ (g3 (I, oI2) (by simp)))
        have N5 := news_kb N4 kb5 off5
        exact wpAny_pure ⟨rfl, its.length + 1 - (i + 1), by omega, h₅, _, i + 1, ys5, oC5, mC5, rfl, hlt, rfl, hnext _ _ hJ5, ⟨⟨oI2, gI5, rI2⟩, ⟨_, (N5 _ hax).1, rfl, _, rfl⟩⟩, gC5, nC5, gD5, fr_kb F4 kb5 hS5, N5⟩
    · obtain rfl : i = its.length := by omega
      have gI'' : h'.IsListIter I ax its.toArray.size ∧ h'.IsList ax its.toArray := by simpa using gI'
      refine W.done _ _ _ gI'' fun h₁ tk₁ hk₁ => wpAny_pure ?_
      have kb1 : KB [I, C, D] h' h₁ := fun b o n e => hk₁ b o (fun q => n (by rw [List.mem_singleton.mp q]; exact .head _)) e
      have F1 := fr_kb F' kb1 hS
      have N1 := news_kb N' kb1 off
      refine fin h₁ tk₁ oC mC ys F1 (fun p hp => ?_) nC' hJ
      rcases List.mem_cons.mp hp with rfl | hp
      · exact ⟨hk₁ C _ (by simpa using Ne.symm n1) gC', hS C (by simp)⟩
      rcases List.mem_cons.mp hp with rfl | hp
      · exact ⟨hk₁ D _ (by simpa using Ne.symm n2) gD', hS D (by simp)⟩
      · exact N1 p hp
  exact codeAny_compStart_list loop (W.self 0 _ _ _ ⟨gI, gl⟩ loop)
theorem newEnv_plain {s : Shared} {g : Addr} {qual : PySem.Str} {Q : Env → Shared → Prop}
    (hlay : ∀ a acc, cellsFrom a scope.names acc = acc) (hpush : ∀ h, pushCells h scope.names = h)
    (h : Q (newEnv scope s.heap.objs.size g cl qual none .none (some env) builtinsNs) { s with heap := s.heap.push { cls := .type "dict", data := .dict #[] } }) :
    wpAny (model PySem.Challenge.rw_xg0022_01.row.prog w) A (newFunctionEnv scope g cl [] qual none .none (some env)) Q E s := by
  simp only [newFunctionEnv, Option.isSome_some, if_true]
  refine wpAny_bind (wpAny_alloc ?_)
  refine wpAny_bind (wpAny_layCells _ (fun name kind cells => by cases hkc : kind == NameKind.cell <;> simp) _ _ _ _ ?_)
  rw [hlay, hpush]
  refine wpAny_bind ?_
  rw [List.forIn_nil]
  exact wpAny_pure (wpAny_pure h)
/-- the source of a comprehension with two clauses that a name takes -/
def TwoSrc0 (w : World) (A : Around) (h₀ : Heap) (L : Addr) (m : PySem.Str → Option Value) (env : Env) (elt it1 : Expr) (x z : PySem.Str) (scope : Scope) (cl : List (PySem.Str × Addr)) (y : PySem.Str) (Q : Flow → Shared → Prop) (xv : Value) (s₁ : Shared) : Prop :=
  ∃ (ax : Addr) (its : List Value) (k₀ : Nat) (news : Led) (J : Nat → Nat → List Value → Prop), xv = .ref ax ∧ A.handled = none ∧ Fr h₀ L s₁.heap m ∧ News h₀ L s₁.heap news ∧ (ax, listOf its.toArray k₀) ∈ news ∧ J 0 0 [] ∧ (∀ i b ys, J i b ys → ys.length ≤ 1000) ∧ (∀ i ys, J i 2 ys → J (i + 1) 0 ys) ∧
    (∀ s₂ : Shared, (∃ g, s₂ = { s₁ with heap := g }) →
    (∀ I oI C oC D oD h tk (E' : Value → Shared → Prop), Fr h₀ L h m → News h₀ L h ((I, oI) :: (C, oC) :: (D, oD) :: news) → wpAny (model PySem.Challenge.rw_xg0022_01.row.prog w) A (eval it1 (compEnvC scope cl C env)) (TwoSrc1 h₀ L m s₂ ((I, oI) :: (C, oC) :: (D, oD) :: news)) E' { s₂ with heap := h, toks := tk }) ∧
    (∀ i v b ys C oC m₂ h tk t (E' : Value → Shared → Prop), its[i]? = some v → b < 2 → J i b ys → m₂ x = some v → m₂ z = some (.int ((b : Nat) : Int) t) → LCg.NsObj oC m₂ → Fr h₀ L h m → News h₀ L h ((C, oC) :: news) →
      wpAny (model PySem.Challenge.rw_xg0022_01.row.prog w) A (eval elt (compEnvC scope cl C env)) (fun y s₃ => (∃ tk', s₃ = { s₂ with heap := h, toks := tk' }) ∧ J i (b + 1) (ys ++ [y])) E' { s₂ with heap := h, toks := tk }) ∧
    (∀ D h tk ys, J its.length 0 ys → Fr h₀ L h (fun q => if q = y then some (.ref D) else m q) → News h₀ L h ((D, LCg.lst ys) :: news) → (∀ p ∈ news, p.1 ≠ D) → Q .next { s₂ with heap := h, toks := tk }))
theorem Assign_two {s : Shared} {y : PySem.Str} {py spos : Pos} {Q : Flow → Shared → Prop}
    (hclos : closureFor scope env = pure cl) (hkind : scope.kind = .function) (hnames : ∀ q ∈ scope.names, q.2 = .local → scope.names.lookup q.1 = some .local)
    (hlay : ∀ a acc, cellsFrom a scope.names acc = acc) (hpush : ∀ h, pushCells h scope.names = h)
    (hx : scope.names.lookup x = some .local) (hz : scope.names.lookup z = some .local) (hxz : x ≠ z) (hs1 : ∀ y env, foldedSetIterable it1 env y = pure y)
    (hLe : env.locals = L) (hsw : swapsWith (.ListComp elt [⟨.Name x px, it0, [], 0⟩, ⟨.Name z pz, it1, [], 0⟩] scope pos) (some (.Name y py)) spos.line env = pure true) (hy : env.kindOf y = some .local) (hp : (env.scope.kind == .class || (env.scope.kind == .module && env.locals != env.globals)) = false)
    (h : wpAny (model PySem.Challenge.rw_xg0022_01.row.prog w) A (eval it0 env) (TwoSrc0 w A h₀ L m env elt it1 x z scope cl y Q) E s)
    (hs : ∀ x, foldedSetIterable it0 env x = pure x := by intro _; rfl) :
    wpAny (model PySem.Challenge.rw_xg0022_01.row.prog w) A (exec (.Assign [.Name y py] (.ListComp elt [⟨.Name x px, it0, [], 0⟩, ⟨.Name z pz, it1, [], 0⟩] scope pos) spos) env) Q E s := by
  subst hLe
  rw [exec_Assign_Name_used _ _ _ _ hsw]
  refine wpAny_bind (wpAny_standAt (wpAny_bind ?_))
  show wpAny _ A (do let _ ← comprehension (.ListComp elt [⟨.Name x px, it0, [], 0⟩, ⟨.Name z pz, it1, [], 0⟩] scope pos) scope env _ (newList []) false (eval it0 env) (some (assign (.Name y py) env))) _ _ s
  refine wpAny_bind (wpAny_mono (wpAny_comprehension_free (use := some (assign (.Name y py) env)) (Q := fun _ s' => Q .next s') rfl hs hclos hkind hnames
    (wpAny_mono h (fun xv s₁ h₁ => ?_) fun _ _ e => e)) (fun _ s' hq => wpAny_pure (wpAny_pure hq)) fun _ _ e => e)
  obtain ⟨ax, its, k₀, news, J, rfl, hh, F, N, hax, hJ, hys, hnext, parts⟩ := h₁
  refine wpAny_pyIter_list ⟨_, (N _ hax).1, rfl, _, rfl⟩ ?_
  refine wpAny_newObj_type (newEnv_plain hlay hpush ?_)
  obtain ⟨src, el, fin⟩ := parts s₁ ⟨s₁.heap, rfl⟩
  generalize hoI : ({ cls := .type "list_iterator", data := .fields #[.ref ax, .int 0 0] } : Obj) = oI
  have F1 := F.push oI
  have F2 := F1.push { cls := .type "list", dict := none, data := .seq ([] : List Value).toArray }
  have F3 := F2.push { cls := .type "dict", data := .dict #[] }
  have z2 := Heap.size_push s₁.heap oI
  have z3 := Heap.size_push (s₁.heap.push oI) { cls := .type "list", dict := none, data := .seq ([] : List Value).toArray }
  have hlt : ∀ p ∈ news, p.1 < s₁.heap.objs.size := fun p hp => Heap.lt_size (N p hp).1
  have u1 : ∀ b o, s₁.heap.get? b = some o → (s₁.heap.push oI).get? b = some o := fun b o e => Heap.get?_push_of_some _ e
  have u2 : ∀ b o, (s₁.heap.push oI).get? b = some o → ((s₁.heap.push oI).push { cls := .type "list", dict := none, data := .seq ([] : List Value).toArray }).get? b = some o := fun b o e => Heap.get?_push_of_some _ e
  have u3 : ∀ b o, ((s₁.heap.push oI).push { cls := .type "list", dict := none, data := .seq ([] : List Value).toArray }).get? b = some o → (((s₁.heap.push oI).push { cls := .type "list", dict := none, data := .seq ([] : List Value).toArray }).push { cls := .type "dict", data := .dict #[] }).get? b = some o := fun b o e => Heap.get?_push_of_some _ e
  have key : ∀ a b c e : Nat, b = a + 1 → c = b + 1 → e < a → (e = a ∨ e = c ∨ e = b) → False := by omega
  have key2 : ∀ a b c : Nat, b = a + 1 → c = b + 1 → a ≠ c ∧ a ≠ b ∧ c ≠ b := by omega
  have nes := key2 _ _ _ z2 z3

  refine two_run (ax := ax) (its := its) (k₀ := k₀) (J := J) hkind hx hz hxz hh hs1 F3 (fun p hp => ⟨u3 _ _ (u2 _ _ (u1 _ _ (N p hp).1)), (N p hp).2⟩) hax ?_ ?_ nes (Heap.get?_push_size _ rfl) ⟨#[], 0, rfl, (fun _ he => by simp at he), fun _ => rfl⟩ (u3 _ _ (Heap.get?_push_size _ rfl)) ⟨oI, u3 _ _ (u2 _ _ (Heap.get?_push_size _ (by rw [← hoI]; rfl))), by rw [← hoI], by rw [← hoI]; rfl⟩ hJ hys hnext src el ?_
  · intro a ha
    simp only [List.mem_cons, List.not_mem_nil, or_false] at ha
    rcases ha with e | e | e <;> rw [e]
    · exact ⟨Ne.symm (Nat.ne_of_lt F.ns.lt), next_is_new F⟩
    · exact ⟨Ne.symm (Nat.ne_of_lt F2.ns.lt), next_is_new F2⟩
    · exact ⟨Ne.symm (Nat.ne_of_lt F1.ns.lt), next_is_new F1⟩
  · intro p hp q
    simp only [List.mem_cons, List.not_mem_nil, or_false] at q
    exact key _ _ _ _ z2 z3 (hlt p hp) q
  · intro h' tk' oC' mC' ys' F' N' nC' hJ'
    have hD := N' _ (.tail _ (.head _))
    have hC := N' _ (.head _)
    show wpAny _ A (assign (.Name y py) env (.ref _)) _ _ _
    refine wpAny_assign_Name (wpAny_storeName_local hy F'.ns (fun h₂ hn₂ hs₂ => ?_) hp)
    have hL₀ : h₀.get? env.locals = none := Heap.get?_none_of_le F'.above
    have F₂ : Fr h₀ env.locals h₂ (fun z => if z = y then some (.ref _) else m z) := ⟨hn₂, fun b o e => hs₂.extBut b o (fun q => by rw [q, hL₀] at e; cases e) (F'.keep b o e), F'.above⟩
    refine ⟨mC', (nC'.ns hC.1).sameBut hs₂ hC.2.1, fun h'' hs'' => fin _ h'' _ ys' hJ' (F₂.change hs'' hC.2.1 hC.2.2) (fun p hp => ?_) ?_⟩
    · rcases List.mem_cons.mp hp with e | hp
      · rw [e]
        exact ⟨hs''.extBut _ _ (Ne.symm nes.2.2) (hs₂.extBut _ _ hD.2.1 hD.1), hD.2⟩
      · have z := N' p (.tail _ (.tail _ hp))
        exact ⟨hs''.extBut _ _ (fun q => key _ _ _ _ z2 z3 (hlt p hp) (.inr (.inl q))) (hs₂.extBut _ _ z.2.1 z.1), z.2⟩
    · intro p hp q
      exact key _ _ _ _ z2 z3 (hlt p hp) (.inr (.inr q))
end
end Mine

namespace Mine
local macro_rules | `(tactic| walk_at "exec While Compare") => `(tactic| (k_dflt (k_extra "my while")))
local macro_rules | `(tactic| walk_at "call ref") => `(tactic| (k_dflt (k_extra "my call")))
local macro_rules | `(tactic| ktr_room) => `(tactic| (show (_ : Nat) < _; (try dsimp only [Around.deeper, Around.in1]); (simp only [rec_is] at *); omega))
local macro_rules | `(tactic| ktr_units) => `(tactic| (show (_ : Nat) < _; (try dsimp only [Around.deeper, Around.in1]); (have hcL9 := cLine_is); omega))
local macro_rules | `(tactic| walk_at "callWith") => `(tactic| ((with_reducible show wpAny _ _ (callWith _ (Value.builtin _) [Value.ref _] _ _) _ _ _); k_dflt (refine callWith_method1 ?_)))
local macro_rules | `(tactic| k_updF) => `(tactic| (first | exact upd_c2 (by assumption) (by assumption) | exact upd_c3 (by assumption) (by assumption) | exact upd_c4 (by assumption) (by assumption) | exact upd_c5 (by assumption) (by assumption) | exact upd_c6 (by assumption) (by assumption) | exact upd_c7 (by assumption) (by assumption) | exact upd_c8 (by assumption) (by assumption)))
local macro_rules | `(tactic| walk_at "eval ListComp") => `(tactic| (refine stopHere ?_))
local macro_rules | `(tactic| walk_at "exec Assign cons ListComp") => `(tactic| (refine stopHere ?_))
local macro_rules | `(tactic| walk_at "CompSrcT") => `(tactic| (refine stopHere ?_))
local macro_rules | `(tactic| walk_at "CompSrc") => `(tactic| (refine stopHere ?_))
local macro_rules | `(tactic| walk_at "CompEnd") => `(tactic| (refine stopHere ?_))
local macro_rules | `(tactic| walk_at "subscriptTail") => `(tactic| (k_dflt (k_extra "my item")))
local macro_rules | `(tactic| walk_at "call builtin:len") => `(tactic| (k_dflt (k_extra "my len")))
local macro_rules | `(tactic| walk_at "binaryOp FloorDiv int int") => `(tactic| (k_dflt (k_extra "my div")))
local macro_rules | `(tactic| walk_at "binaryOp BitAnd int int") => `(tactic| (k_dflt (k_extra "my and")))
/-- pair k is in the set c -/
def pick (c k : Nat) : Bool := c / 2 ^ k % 2 == 1
def pickL (c n : Nat) : List Nat := (List.range n).filter (pick c)
def mom (ps : List Int) (q : Nat) : Int := 7200 * ps.getD q 0
def endsL (ps : List Int) (l : List Nat) : List Int := l.flatMap fun k => [mom ps (2 * k), mom ps (2 * k + 1)]
def rowsL (ps : List Int) (n c : Nat) (l : List Nat) : List Int := l.map fun k => Builtin.bitAnd (rowOf ps n k) (c : Int)
theorem pick_iff (c j : Nat) : pick c j = true ↔ ((c : Int).fdiv (2 ^ ((j : Nat) : Int).toNat)).fmod 2 = 1 := by
  unfold pick
  rw [Int.toNat_natCast, fmod2, Int.fdiv_eq_ediv_of_nonneg _ (Int.pow_nonneg (by decide)), beq_iff_eq]
  have e : ((2 : Int) ^ j) = ((2 ^ j : Nat) : Int) := by rw [Int.natCast_pow]; rfl
  rw [e, ← Int.natCast_ediv]
  omega
/-- the ends of the first pairs and b more of the next -/
def endsTo (ps : List Int) (l : List Nat) (a b : Nat) : List Int := endsL ps (l.take a) ++ [mom ps (2 * l.getD a 0), mom ps (2 * l.getD a 0 + 1)].take b
theorem endsTo_next {ps : List Int} {l : List Nat} {a : Nat} (h : a < l.length) : endsTo ps l (a + 1) 0 = endsTo ps l a 2 := by
  unfold endsTo endsL
  have e : l.getD a 0 = l[a] := by rw [List.getD_eq_getElem?_getD, List.getElem?_eq_getElem h]; rfl
  rw [e, List.take_add_one, List.getElem?_eq_getElem h, List.flatMap_append]
  simp [Option.toList]
theorem endsTo_step {ps : List Int} {l : List Nat} {a b k : Nat} (h : l[a]? = some k) (hb : b < 2) : endsTo ps l a (b + 1) = endsTo ps l a b ++ [mom ps (2 * k + b)] := by
  have e : l.getD a 0 = k := by rw [List.getD_eq_getElem?_getD, h]; rfl
  unfold endsTo
  rw [e]
  rcases (by omega : b = 0 ∨ b = 1) with h | h <;> subst h <;> simp
theorem mom_at {ps : List Int} {q : Nat} (h : q < ps.length) : (ps.map (7200 * ·)).getD q 0 = mom ps q := by
  unfold mom
  rw [List.getD_eq_getElem?_getD, List.getD_eq_getElem?_getD, List.getElem?_map, List.getElem?_eq_getElem h]
  rfl
theorem row_at {ps : List Int} {n k : Nat} (h : k < n) : ((List.range n).map (rowOf ps n)).getD k 0 = rowOf ps n k := by
  rw [List.getD_eq_getElem?_getD, List.getElem?_map, List.getElem?_range h]
  rfl
theorem mom_inj {ps : List Int} (h : ps.Nodup) {a b : Nat} (ha : a < ps.length) (hb : b < ps.length) (e : mom ps a = mom ps b) : a = b := by
  unfold mom at e
  rw [List.getD_eq_getElem?_getD, List.getD_eq_getElem?_getD, List.getElem?_eq_getElem ha, List.getElem?_eq_getElem hb] at e
  have e' : ps[a] = ps[b] := by simp only [Option.getD_some] at e; omega
  exact (List.getElem_inj h).mp e'
theorem mem_endsL {ps : List Int} {l : List Nat} {y : Int} : y ∈ endsL ps l ↔ ∃ k ∈ l, y = mom ps (2 * k) ∨ y = mom ps (2 * k + 1) := by
  unfold endsL
  rw [List.mem_flatMap]
  simp
theorem endsL_nodup {ps : List Int} (h : ps.Nodup) : ∀ {l : List Nat}, l.Nodup → (∀ k ∈ l, 2 * k + 1 < ps.length) → (endsL ps l).Nodup
  | [], _, _ => List.nodup_nil
  | a :: l, hl, hk => by
    have ih := endsL_nodup h (List.nodup_cons.mp hl).2 fun k q => hk k (.tail _ q)
    have ha := hk a (.head _)
    have e : endsL ps (a :: l) = mom ps (2 * a) :: mom ps (2 * a + 1) :: endsL ps l := rfl
    have no : ∀ q, q = 2 * a ∨ q = 2 * a + 1 → mom ps q ∉ endsL ps l := fun q hq hm => by
      obtain ⟨k, k1, k2⟩ := mem_endsL.mp hm
      have hk2 := hk k (.tail _ k1)
      have hne : k ≠ a := fun e => (List.nodup_cons.mp hl).1 (e ▸ k1)
      rcases k2 with k2 | k2
      · have := mom_inj h (by omega) (by omega) k2; omega
      · have := mom_inj h (by omega) (by omega) k2; omega
    rw [e, List.nodup_cons, List.nodup_cons]
    refine ⟨fun hm => ?_, no _ (.inr rfl), ih⟩
    rcases List.mem_cons.mp hm with hm | hm
    · have := mom_inj h (by omega) (by omega) hm; omega
    · exact no _ (.inl rfl) hm
theorem pickL_nodup (c n : Nat) : (pickL c n).Nodup := List.Pairwise.filter _ List.nodup_range
theorem endsTo_all (ps : List Int) (l : List Nat) : endsTo ps l l.length 0 = endsL ps l := by
  unfold endsTo; simp
theorem endsL_len (ps : List Int) (l : List Nat) : (endsL ps l).length = 2 * l.length := by
  unfold endsL
  induction l with
  | nil => rfl
  | cons a t ih => rw [List.flatMap_cons, List.length_append, ih]; simp; omega
theorem pickL_succ (c n : Nat) : pickL c (n + 1) = if pick c n = true then pickL c n ++ [n] else pickL c n := by
  unfold pickL
  rw [List.range_succ, List.filter_append]
  by_cases h : pick c n = true <;> simp [h]
theorem pickL_len (c n : Nat) : (pickL c n).length ≤ n := by
  unfold pickL
  have := List.length_filter_le (pick c) (List.range n)
  simp at this; exact this
theorem pickL_lt {c n k : Nat} (h : k ∈ pickL c n) : k < n := by
  unfold pickL at h
  exact List.mem_range.mp (List.mem_filter.mp h).1
noncomputable def body9 : List Stmt := forBody (lawSt 9)
section
variable {w : World} {fa : Addr} {cd : Value} {mean : ExcName → Option Value} {mg mb : PySem.Str → Option Value} {dp un : Nat} {gd : Option (List Code)} {outer : List Env} {A₀ : Around} {base h₀ : Heap} {L : Addr} {s : Shared} {Q : Flow → Shared → Prop} {c1 c2 c3 c4 c5 c6 c7 c8 : Addr} {o1 o2 o3 o4 o5 o6 o7 o8 : Obj}
set_option maxHeartbeats 4000000 in
theorem turn9 {r ml tl : Addr} {mvs tvs : List Value} {mn tn n c : Nat} {ps : List Int} {own : Led} {m : PySem.Str → Option Value} {ta tb tc t8 : Tok}
   (K : Frag.In (hd.heap_39 w.params) h₀) (B : Below A₀ base outer h₀) (T : Top hd.view_39 theLoose mean mg mb h₀) (hd : dp + 40 < recursionLimit) (hu : un + 400 < cLine)
   (F : Fr h₀ L s.heap m) (N : News h₀ L s.heap ((c8, o8) :: (c7, o7) :: (c6, o6) :: (c5, o5) :: (c4, o4) :: (c3, o3) :: (c2, o2) :: (c1, o1) :: own))
   (d1 : o1.data = .cell (some (.ref ml))) (d3 : o3.data = .cell (some (.ref r))) (d7 : o7.data = .cell (some (.ref tl))) (d8 : o8.data = .cell (some (.int (c : Int) t8)))
   (hr : (r, rgObj 0 n ta tb tc) ∈ own) (hml : (ml, listOf mvs.toArray mn) ∈ own) (hm : IntsAre mvs (ps.map (7200 * ·))) (htl : (tl, listOf tvs.toArray tn) ∈ own) (ht : IntsAre tvs ((List.range n).map (rowOf ps n)))
   (hn : n ≤ 5) (hlen : ps.length = 2 * n) (hc : c < 2 ^ n) (hnd : ps.Nodup)
   (cohn : ringsOf (endsL ps (pickL c n)) = 1 + ((pickL c n).length : Int) - rankOf (rowsL ps n c (pickL c n)))
   (hQ : ∀ (m' : PySem.Str → Option Value) (h' : Heap) (tk' : Nat), Fr h₀ L h' m' → News h₀ L h' ((c8, o8) :: (c7, o7) :: (c6, o6) :: (c5, o5) :: (c4, o4) :: (c3, o3) :: (c2, o2) :: (c1, o1) :: own) → Q .next { s with heap := h', toks := tk' })
   : wpAny (model PySem.Challenge.rw_xg0022_01.row.prog w) (lawA fa cd dp un gd L (lawCl c1 c2 c3 c4 c5 c6 c7 c8) outer) (execs body9 (lawEnv fa cd L (lawCl c1 c2 c3 c4 c5 c6 c7 c8))) Q (fun _ _ => False) s := by
  have eI : body9 = body9 := rfl
  have eS : lawS = lawS := rfl
  conv at eI => lhs; whnf
  conv at eS => lhs; whnf
  rw [← eI]
  unfold lawA lawEnv at *
  rw [← eS]
  clear eI eS
  revert K
  k_fill
  intro K
  k_steps
  unfold Halt
  refine LCt.Assign_ListComp_T (F₀ := F) (by rfl) (by with_unfolding_all rfl) (by with_unfolding_all rfl) (by decide) (by rfl) (by decide) (by rfl) (by rfl) (by rfl) ?_
  k_steps
  unfold Halt
  refine LCt.CompSrcT.range (n := n) rfl F N (N _ (.tail _ (.tail _ (.tail _ (.tail _ (.tail _ (.tail _ (.tail _ (.tail _ hr))))))))).1 (small_one (by omega) (by omega) (by omega) (by omega)) (by rw [rangeSize_nat]; omega) (by rw [sizeLine_eq]; omega) (fun g => ?_)
  refine rest_invT (fun j zs news => news = (c8, o8) :: (c7, o7) :: (c6, o6) :: (c5, o5) :: (c4, o4) :: (c3, o3) :: (c2, o2) :: (c1, o1) :: own ∧ IntsAre zs ((pickL c j).map fun (k : Nat) => (k : Int))) ?turn ?fin _ 0 [] _ (Nat.zero_add _) ⟨rfl, .nil⟩ trivial
  case turn =>
    rintro j zs _ v I2 oI2 C2 oC2 D2 m₂ h2 tk2 E2 hj ⟨rfl, hzs⟩ - ⟨tv, rfl⟩ hns hx F2 N2 off2 ne2
    have e0 : (0 : Int) + (j : Int) = (j : Int) := by omega
    rw [e0] at hx
    clear F N hQ
    have ps1 := pick_iff c j
    have ps2 := pickL_succ c j
    k_steps
    · rename_i hp
      unfold Halt
      rename Fr _ _ _ _ => Fz
      rename News _ _ _ _ => Nz
      rw [ps2, if_pos (ps1.mpr hp), List.map_append]
      exact LCg.CompEnd.intro Fz Nz _ (fun p hp => hp) off2 trivial ⟨rfl, hzs.append (.cons _ _ .nil)⟩
    · rename_i hp
      unfold Halt
      rename Fr _ _ _ _ => Fz
      rename News _ _ _ _ => Nz
      rw [ps2, if_neg (fun e => hp (ps1.mp e))]
      exact LCg.CompEnd.intro Fz Nz _ (fun p hp => hp) off2 trivial ⟨rfl, hzs⟩
  case fin =>
    rintro pvs _ ⟨rfl, hpv⟩ -
    unfold LCg.FinA
    intro P h2 tk2 F2 N2 o2'
    clear F N
    generalize hl : pickL c n = l at *
    have hl5 : l.length ≤ n := hl ▸ pickL_len c n
    have hll : ∀ k ∈ l, k < n := fun k hk => pickL_lt (hl ▸ hk)
    have hln : l.Nodup := hl ▸ pickL_nodup c n
    k_steps
    unfold Halt
    refine Assign_two (h₀ := h₀) (L := L) (m := (fun z => if z = Str.ofString "picked" then some (Value.ref P) else m z)) (by rfl) rfl (by decide) (fun _ _ => rfl) (fun _ => rfl) (by rfl) (by rfl) (by decide) (fun _ _ => rfl) rfl (by with_unfolding_all rfl) (by rfl) (by rfl) ?_
    k_steps
    refine ⟨P, pvs, pvs.length, (P, LCg.lst pvs) :: (c8, o8) :: (c7, o7) :: (c6, o6) :: (c5, o5) :: (c4, o4) :: (c3, o3) :: (c2, o2) :: (c1, o1) :: own, fun a b ys => (b = 0 ∨ a < l.length) ∧ b ≤ 2 ∧ IntsAre ys (endsTo ps l a b), rfl, rfl, F2, N2, .head _, ⟨.inl rfl, by omega, by simp [endsTo, endsL]; exact .nil⟩, ?hys, ?hnext, ?parts⟩
    case hys =>
      rintro a b ys ⟨-, -, hi⟩
      rw [hi.length]
      unfold endsTo
      rw [List.length_append, endsL_len, List.length_take, List.length_take]
      simp; omega
    case hnext =>
      rintro a ys ⟨h1, -, hi⟩
      have h1' : a < l.length := by omega
      exact ⟨.inl rfl, by omega, by rw [endsTo_next h1']; exact hi⟩
    case parts =>
      rintro s3 ⟨g3, rfl⟩
      have hpl : pvs.length = l.length := by rw [hpv.length, List.length_map]
      refine ⟨?src, ?el, ?fin3⟩
      case src =>
        intro I3 oI3 C3 oC3 D3 oD3 h4 tk4 E4 F4 N4
        clear F2 N2
        k_steps
        rename_i l3 h3 F3 N3 lt3
        refine ⟨l3, h3, _, _, _, rfl, rfl, F3, N3, ?_⟩
        obtain ⟨b1, b2, b3, b4, b5, b6, b7, b8, b9, b10, b11, b12, bl⟩ := lt3
        intro p hp
        simp only [List.mem_cons] at hp
        rcases hp with h | h | h | h | h | h | h | h | h | h | h | h | h
        all_goals first
          | exact Nat.ne_of_lt (allLt_mem _ bl p h)
          | (rw [h]; exact Nat.ne_of_lt (by assumption))
      case el =>
        rintro a v b ys C3 oC3 m₂ h4 tk4 t4 E4 hv hb ⟨-, hb2, hi⟩ hx hz nC3 F4 N4
        clear F2 N2
        obtain ⟨_, t, e1, rfl⟩ := ints_at hpv hv
        rw [List.getElem?_map] at e1
        obtain ⟨k, e2, rfl⟩ := Option.map_eq_some_iff.mp e1
        have hk := hll k (List.mem_of_getElem? e2)
        have hal : a < l.length := by
          rcases List.getElem?_eq_some_iff.mp e2 with ⟨h, _⟩; exact h
        k_with "my item" => ((rename News _ _ _ _ => N8); refine item_ints (N8 (_, _) (.tail _ (.tail _ (.tail _ (.tail _ (.tail _ (.tail _ (.tail _ (.tail _ (.tail _ (.tail _ hml))))))))))).1 hm ?x1 ?x2 ?x3 ?_; (case x1 => omega); (case x2 => (rw [List.length_map]; omega)); (case x3 => (rw [List.length_map]; omega)); intro t8)
        have eq : (2 * (k : Int) + (b : Int)).toNat = 2 * k + b := by omega
        have es := endsTo_step (ps := ps) e2 hb
        have em := mom_at (ps := ps) (q := 2 * k + b) (by omega)
        k_steps
        · exact .inr hal
        · rw [es, eq, em]
          exact hi.append (.cons _ _ .nil)
      case fin3 =>
        rintro D3 h4 tk4 es' ⟨-, -, hes⟩ F4 N4 off4
        rw [hpl, endsTo_all] at hes
        clear F2 N2
        k_steps
        unfold Halt
        refine LCg.ListComp_U (F₀ := F4) (by rfl) (by decide) (by rfl) (by decide) (by rfl) ?_
        k_steps
        unfold Halt
        refine LCg.CompSrc.ledger (its := pvs.toArray) (k := pvs.length) rfl F4 N4 (.tail _ (.head _)) (by rw [List.size_toArray, hpl, sizeLine_eq]; omega) (fun g => ?_)
        refine rest_inv (fun i ys news => news = (D3, LCg.lst es') :: (P, LCg.lst pvs) :: (c8, o8) :: (c7, o7) :: (c6, o6) :: (c5, o5) :: (c4, o4) :: (c3, o3) :: (c2, o2) :: (c1, o1) :: own ∧ IntsAre ys (rowsL ps n c (l.take i))) ?turn4 ?fin4 _ 0 [] _ (Nat.zero_add _) ⟨rfl, .nil⟩ (.inr ⟨_, .tail _ (.head _), rfl, _, rfl⟩)
        case turn4 =>
          rintro i ys _ v I oI C oC D m₂ h tk E' hi ⟨rfl, hys⟩ hS hv hns hx F5 N5 off ne
          clear F4 N4
          obtain ⟨_, t, e1, rfl⟩ := ints_at hpv (by simpa using hv)
          rw [List.getElem?_map] at e1
          obtain ⟨k, e2, rfl⟩ := Option.map_eq_some_iff.mp e1
          have hk := hll k (List.mem_of_getElem? e2)
          k_with "my item" => ((rename News _ _ _ _ => N8); refine item_ints (N8 (_, _) (.tail _ (.tail _ (.tail _ (.tail _ (.tail _ (.tail _ (.tail _ (.tail _ (.tail _ (.tail _ (.tail _ (.tail _ (.tail _ htl)))))))))))))).1 ht ?x1 ?x2 ?x3 ?_; (case x1 => omega); (case x2 => (rw [List.length_map, List.length_range]; omega)); (case x3 => (rw [List.length_map, List.length_range]; omega)); intro t8)
          have er : rowsL ps n c (l.take (i + 1)) = rowsL ps n c (l.take i) ++ [Builtin.bitAnd (rowOf ps n k) (c : Int)] := by
            unfold rowsL
            rw [List.take_add_one, e2, List.map_append]; rfl
          have ea := row_at (ps := ps) hk
          k_steps
          unfold Halt
          rename Fr _ _ _ _ => Fz
          rename News _ _ _ _ => Nz
          rw [er, ← ea]
          exact LCg.CompEnd.intro Fz Nz _ (fun p hp => hp) off hS ⟨rfl, hys.append (.cons _ _ .nil)⟩
        case fin4 =>
          rintro rws _ ⟨rfl, hrw⟩ -
          unfold LCg.FinE
          intro D h tk F5 N5 o5'
          clear F4 N4
          have hrl : pvs.toArray.size = l.length := by rw [List.size_toArray, hpl]
          rw [hrl, List.take_length] at hrw
          have hel := endsL_len ps l
          k_with "my len" => ((rename News _ _ _ _ => N8); refine len_ints (N8 (_, _) (.tail _ (.tail _ (.head _)))).1 hpv (by rw [List.length_map]; omega) ?_; intro t8 tk8)
          k_with "my call" => (first | (refine' Calls.use (rank_ok w ?hm hrw ?hlen) ?k1 ?k2 ?k3 ?k4 ?k5 ?k6 ?k7 ?k8 ?_; (case k1 => k_asm); (case k2 => k_asm); (case k3 => k_asm); (case k4 => k_asm); (case hm => exact .head _); (case hlen => (unfold rowsL; rw [List.length_map]; omega)); (case k5 => k_asm); (case k6 => first | exact rfl | assumption); (case k7 => ktr_room); (case k8 => ktr_units); intro v9 n9 h9 t9 r9 F9 N9; obtain ⟨rfl, t9, rfl⟩ := r9; (try dsimp only); (try k_fold)) | (refine' Calls.use (rings_ok w ?hm hes ?hlen ?hnd ?hev) ?k1 ?k2 ?k3 ?k4 ?k5 ?k6 ?k7 ?k8 ?_; (case k1 => k_asm); (case k2 => k_asm); (case k3 => k_asm); (case k4 => k_asm); (case hm => exact .tail _ (.head _)); (case hlen => omega); (case hnd => exact endsL_nodup hnd hln (fun k hk => by have := hll k hk; omega)); (case hev => omega); (case k5 => k_asm); (case k6 => first | exact rfl | assumption); (case k7 => ktr_room); (case k8 => ktr_units); intro v9 n9 h9 t9 r9 F9 N9; obtain ⟨rfl, t9, rfl⟩ := r9; (try dsimp only); (try k_fold)))
          k_steps
          · have hx := ‹ringsOf (endsL ps l) ≠ _›
            rw [List.length_map] at hx
            exact absurd cohn hx
          · rename Fr _ _ _ _ => Fz
            rename News _ _ _ _ => Nz
            exact hQ _ _ _ Fz (news_sub Nz (fun p hp => .tail _ (.tail _ (.tail _ hp))))
end
end Mine

namespace Mine
theorem chase_sim {f : Int → Int} {es es' rim rim' : List Int} (hf : ∀ x ∈ rim, ∀ y ∈ rim, f x = f y → x = y) (hfol : ∀ x ∈ rim, follow es rim x ∈ rim ∧ follow es' rim' (f x) = f (follow es rim x)) :
    ∀ (k : Nat) (met : List Int) (spot : Int), (∀ y ∈ met, y ∈ rim) → spot ∈ rim → chase es' rim' k (met.map f) (f spot) = (chase es rim k met spot).map f ∧ ∀ y ∈ chase es rim k met spot, y ∈ rim
  | 0, met, spot, hm, hs => ⟨rfl, hm⟩
  | k + 1, met, spot, hm, hs => by
    have e : f spot ∈ met.map f ↔ spot ∈ met := by
      rw [List.mem_map]
      constructor
      · rintro ⟨y, hy, q⟩; rw [← hf y (hm y hy) spot hs q]; exact hy
      · intro h; exact ⟨spot, h, rfl⟩
    unfold chase
    by_cases h : spot ∈ met
    · rw [if_pos (e.mpr h), if_pos h]; exact ⟨rfl, hm⟩
    · rw [if_neg (fun q => h (e.mp q)), if_neg h]
      obtain ⟨f1, f2⟩ := hfol spot hs
      have hm' : ∀ y ∈ met ++ [spot], y ∈ rim := fun y hy => by
        rcases List.mem_append.mp hy with hy | hy
        · exact hm y hy
        · rw [List.mem_singleton.mp hy]; exact hs
      have := chase_sim hf hfol k (met ++ [spot]) (follow es rim spot) hm' f1
      rw [f2]
      rw [List.map_append] at this
      exact this
theorem rings_sim {f : Int → Int} {es es' : List Int} (hf : ∀ x ∈ rimOf es, ∀ y ∈ rimOf es, f x = f y → x = y) (hr : rimOf es' = (rimOf es).map f)
    (hfol : ∀ x ∈ rimOf es, follow es' (rimOf es') (f x) = f (follow es (rimOf es) x)) : ringsOf es' = ringsOf es := by
  have hlen : es'.length = es.length := by rw [← rim_len es', hr, List.length_map, rim_len]
  have hfol' : ∀ x ∈ rimOf es, follow es (rimOf es) x ∈ rimOf es ∧ follow es' (rimOf es') (f x) = f (follow es (rimOf es) x) := fun x hx =>
    ⟨(mem_rim es _).mpr (fol_mem ((mem_rim es x).mp hx)), hfol x hx⟩
  have key : ∀ (l : List Int) (c : List Int × Int), (∀ y ∈ l, y ∈ rimOf es) → (∀ y ∈ c.1, y ∈ rimOf es) →
      (l.map f).foldl (ringTurn es' (rimOf es')) (c.1.map f, c.2) = ((l.foldl (ringTurn es (rimOf es)) c).1.map f, (l.foldl (ringTurn es (rimOf es)) c).2) := by
    intro l
    induction l with
    | nil => intro c _ _; rfl
    | cons a t ih =>
      intro c hl hc
      have ha := hl a (.head _)
      rw [List.map_cons, List.foldl_cons, List.foldl_cons]
      have e : f a ∈ c.1.map f ↔ a ∈ c.1 := by
        rw [List.mem_map]
        constructor
        · rintro ⟨y, hy, q⟩; rw [← hf y (hc y hy) a ha q]; exact hy
        · intro h; exact ⟨a, h, rfl⟩
      by_cases h : a ∈ c.1
      · have e1 : ringTurn es' (rimOf es') (c.1.map f, c.2) (f a) = (c.1.map f, c.2) := by unfold ringTurn; rw [if_pos (e.mpr h)]
        have e2 : ringTurn es (rimOf es) c a = c := by unfold ringTurn; rw [if_pos h]
        rw [e1, e2]
        exact ih c (fun y hy => hl y (.tail _ hy)) hc
      · obtain ⟨s1, s2⟩ := chase_sim hf hfol' (es.length + 1 - c.1.length) c.1 a hc ha
        have e1 : ringTurn es' (rimOf es') (c.1.map f, c.2) (f a) = ((chase es (rimOf es) (es.length + 1 - c.1.length) c.1 a).map f, c.2 + 1) := by
          unfold ringTurn
          rw [if_neg (fun q => h (e.mp q))]
          simp only [List.length_map, hlen]
          rw [s1]
        have e2 : ringTurn es (rimOf es) c a = (chase es (rimOf es) (es.length + 1 - c.1.length) c.1 a, c.2 + 1) := by unfold ringTurn; rw [if_neg h]
        rw [e1, e2]
        exact ih (_, _) (fun y hy => hl y (.tail _ hy)) s2
  have := key (rimOf es) ([], 0) (fun _ h => h) (fun _ h => nomatch h)
  unfold ringsOf
  rw [← hr] at this
  rw [show (([] : List Int), (0 : Int)) = (([] : List Int).map f, (0 : Int)) from rfl, this]
  rfl
theorem rising_ext : ∀ {l l' : List Int}, Rising l → Rising l' → (∀ x, x ∈ l ↔ x ∈ l') → l = l'
  | [], [], _, _, _ => rfl
  | [], b :: _, _, _, h => nomatch (h b).mpr (.head _)
  | a :: _, [], _, _, h => nomatch (h a).mp (.head _)
  | a :: l, b :: l', h1, h2, h => by
    have e : a = b := by
      rcases List.mem_cons.mp ((h a).mp (.head _)) with q | q
      · exact q
      · rcases List.mem_cons.mp ((h b).mpr (.head _)) with p | p
        · exact p.symm
        · have := h1.1 b p; have := h2.1 a q; omega
    subst e
    rw [rising_ext h1.2 h2.2 fun x => ?_]
    have n1 : a ∉ l := fun q => by have := h1.1 a q; omega
    have n2 : a ∉ l' := fun q => by have := h2.1 a q; omega
    constructor
    · intro hx
      rcases List.mem_cons.mp ((h x).mp (.tail _ hx)) with q | q
      · rw [q] at hx; exact absurd hx n1
      · exact q
    · intro hx
      rcases List.mem_cons.mp ((h x).mpr (.tail _ hx)) with q | q
      · rw [q] at hx; exact absurd hx n2
      · exact q
/-- f rises on the list -/
def Up (f : Int → Int) (l : List Int) : Prop := ∀ x ∈ l, ∀ y ∈ l, x < y → f x < f y
theorem Up.inj {f : Int → Int} {l : List Int} (h : Up f l) : ∀ x ∈ l, ∀ y ∈ l, f x = f y → x = y := fun x hx y hy e => by
  rcases (by omega : x < y ∨ x = y ∨ y < x) with q | q | q
  · have := h x hx y hy q; omega
  · exact q
  · have := h y hy x hx q; omega
theorem Up.lt {f : Int → Int} {l : List Int} (h : Up f l) {x y : Int} (hx : x ∈ l) (hy : y ∈ l) : f x < f y ↔ x < y := by
  constructor
  · intro q
    rcases (by omega : x < y ∨ x = y ∨ y < x) with p | p | p
    · exact p
    · rw [p] at q; omega
    · have := h y hy x hx p; omega
  · exact h x hx y hy
theorem rising_map {f : Int → Int} : ∀ {l : List Int}, Up f l → Rising l → Rising (l.map f)
  | [], _, _ => trivial
  | a :: l, h, hr => ⟨fun b hb => by
      obtain ⟨y, hy, rfl⟩ := List.mem_map.mp hb
      exact h a (.head _) y (.tail _ hy) (hr.1 y hy), rising_map (fun x hx y hy => h x (.tail _ hx) y (.tail _ hy)) hr.2⟩
theorem nodup_map {f : Int → Int} : ∀ {l : List Int}, (∀ x ∈ l, ∀ y ∈ l, f x = f y → x = y) → l.Nodup → (l.map f).Nodup
  | [], _, _ => List.nodup_nil
  | a :: l, h, hn => by
    rw [List.nodup_cons] at hn
    rw [List.map_cons, List.nodup_cons]
    refine ⟨fun q => ?_, nodup_map (fun x hx y hy => h x (.tail _ hx) y (.tail _ hy)) hn.2⟩
    obtain ⟨y, hy, e⟩ := List.mem_map.mp q
    have := h y (.tail _ hy) a (.head _) e
    subst this
    exact hn.1 hy
theorem rim_map {f : Int → Int} {es : List Int} (hn : es.Nodup) (h : Up f es) : rimOf (es.map f) = (rimOf es).map f := by
  have h' : Up f (rimOf es) := fun x hx y hy => h x ((mem_rim es x).mp hx) y ((mem_rim es y).mp hy)
  refine rising_ext (rim_rising _ (nodup_map h.inj hn)) (rising_map h' (rim_rising _ hn)) fun x => ?_
  rw [mem_rim, List.mem_map, List.mem_map]
  constructor
  · rintro ⟨y, hy, e⟩; exact ⟨y, (mem_rim es y).mpr hy, e⟩
  · rintro ⟨y, hy, e⟩; exact ⟨y, (mem_rim es y).mp hy, e⟩
theorem cnt_map {f : Int → Int} {l : List Int} {x : Int} (h : Up f l) (hx : x ∈ l) : cnt (l.map f) (f x) = cnt l x := by
  unfold cnt
  rw [List.countP_map]
  congr 1
  refine List.countP_congr fun y hy => ?_
  have := h.lt hy hx
  simp [this]
theorem idx_map {f : Int → Int} {l : List Int} (h : ∀ x ∈ l, ∀ y ∈ l, f x = f y → x = y) {x : Int} (hx : x ∈ l) : (l.map f).idxOf (f x) = l.idxOf x := by
  induction l with
  | nil => rfl
  | cons a t ih =>
    rw [List.map_cons, List.idxOf_cons, List.idxOf_cons]
    by_cases q : a = x
    · subst q; simp
    · have : f a ≠ f x := fun e => q (h a (.head _) x hx e)
      have hx' : x ∈ t := by
        rcases List.mem_cons.mp hx with e | e
        · exact absurd e.symm q
        · exact e
      simp [beq_eq_false_iff_ne.mpr q, beq_eq_false_iff_ne.mpr this, ih (fun x hx y hy => h x (.tail _ hx) y (.tail _ hy)) hx']
theorem getD_map0 {f : Int → Int} {l : List Int} {i : Nat} (h : i < l.length) : (l.map f).getD i 0 = f (l.getD i 0) := by
  rw [List.getD_eq_getElem?_getD, List.getD_eq_getElem?_getD, List.getElem?_map, List.getElem?_eq_getElem h]; rfl
theorem partner_map {f : Int → Int} {es : List Int} (h : ∀ x ∈ es, ∀ y ∈ es, f x = f y → x = y) (hev : es.length % 2 = 0) {x : Int} (hx : x ∈ es) : partner (es.map f) (f x) = f (partner es x) := by
  unfold partner
  rw [idx_map h hx]
  have := idx_ok hx hev
  exact getD_map0 (by omega)
theorem partner_mem {es : List Int} (hev : es.length % 2 = 0) {x : Int} (hx : x ∈ es) : partner es x ∈ es := by
  have := idx_ok hx hev
  unfold partner
  rw [List.getD_eq_getElem?_getD, List.getElem?_eq_getElem (by omega)]
  exact List.getElem_mem _
theorem follow_map {f : Int → Int} {es : List Int} (hn : es.Nodup) (h : Up f es) (hev : es.length % 2 = 0) {x : Int} (hx : x ∈ es) : follow (es.map f) (rimOf (es.map f)) (f x) = f (follow es (rimOf es) x) := by
  have h' : Up f (rimOf es) := fun x hx y hy => h x ((mem_rim es x).mp hx) y ((mem_rim es y).mp hy)
  unfold follow
  rw [partner_map h.inj hev hx, rim_map hn h, cnt_map h' ((mem_rim es _).mpr (partner_mem hev hx)), List.length_map]
  have := fol_ok (y := partner es x) (rfl : rimOf es = rimOf es) hx
  exact getD_map0 (by omega)
theorem rings_map {f : Int → Int} {es : List Int} (hn : es.Nodup) (h : Up f es) (hev : es.length % 2 = 0) : ringsOf (es.map f) = ringsOf es :=
  rings_sim (f := f) (fun x hx y hy => h.inj x ((mem_rim es x).mp hx) y ((mem_rim es y).mp hy)) (rim_map hn h) fun x hx => follow_map hn h hev ((mem_rim es x).mp hx)
/-- the ends of the chords, one after the other -/
def flat : List (Int × Int) → List Int
  | [] => []
  | c :: r => c.1 :: c.2 :: flat r
theorem flat_len : ∀ cs, (flat cs).length = 2 * cs.length
  | [] => rfl
  | c :: r => by have := flat_len r; simp [flat]; omega
theorem mem_flat {x : Int} : ∀ {cs}, x ∈ flat cs ↔ ∃ c ∈ cs, x = c.1 ∨ x = c.2
  | [] => by simp [flat]
  | c :: r => by
    have := mem_flat (x := x) (cs := r)
    simp only [flat, List.mem_cons, this]
    constructor
    · rintro (h | h | ⟨d, h1, h2⟩)
      · exact ⟨c, .inl rfl, .inl h⟩
      · exact ⟨c, .inl rfl, .inr h⟩
      · exact ⟨d, .inr h1, h2⟩
    · rintro ⟨d, rfl | h1, h2⟩
      · rcases h2 with h | h
        · exact .inl h
        · exact .inr (.inl h)
      · exact .inr (.inr ⟨d, h1, h2⟩)
theorem partner_flat : ∀ {cs : List (Int × Int)}, (flat cs).Nodup → ∀ c ∈ cs, partner (flat cs) c.1 = c.2 ∧ partner (flat cs) c.2 = c.1
  | [], _, c, h => nomatch h
  | d :: r, hn, c, h => by
    have hn' := hn
    rw [show flat (d :: r) = d.1 :: d.2 :: flat r from rfl, List.nodup_cons, List.nodup_cons] at hn'
    obtain ⟨h1, h2, h3⟩ := hn'
    have n12 : d.1 ≠ d.2 := fun e => h1 (by rw [e]; exact .head _)
    rcases List.mem_cons.mp h with rfl | h
    · unfold partner
      rw [show flat (c :: r) = c.1 :: c.2 :: flat r from rfl]
      have i1 : (c.1 :: c.2 :: flat r).idxOf c.1 = 0 := by simp
      have i2 : (c.1 :: c.2 :: flat r).idxOf c.2 = 1 := by simp [List.idxOf_cons, beq_eq_false_iff_ne.mpr n12]
      rw [i1, i2]
      exact ⟨rfl, rfl⟩
    · have ih := partner_flat h3 c h
      have m1 : c.1 ∈ flat r := mem_flat.mpr ⟨c, h, .inl rfl⟩
      have m2 : c.2 ∈ flat r := mem_flat.mpr ⟨c, h, .inr rfl⟩
      have key : ∀ x ∈ flat r, partner (d.1 :: d.2 :: flat r) x = partner (flat r) x := fun x hx => by
        have e1 : d.1 ≠ x := fun e => h1 (by rw [e]; exact .tail _ hx)
        have e2 : d.2 ≠ x := fun e => h2 (by rw [e]; exact hx)
        have hev : (flat r).length % 2 = 0 := by rw [flat_len]; omega
        have ok := idx_ok hx hev
        unfold partner
        have i1 : (d.1 :: d.2 :: flat r).idxOf x = (flat r).idxOf x + 2 := by simp [List.idxOf_cons, beq_eq_false_iff_ne.mpr e1, beq_eq_false_iff_ne.mpr e2]
        rw [i1]
        have e : (((((flat r).idxOf x + 2 : Nat) : Int)) + 1 - 2 * (((flat r).idxOf x + 2 : Nat) : Int).fmod 2).toNat = ((((flat r).idxOf x : Nat) : Int) + 1 - 2 * (((flat r).idxOf x : Nat) : Int).fmod 2).toNat + 2 := by
          rw [fmod2, fmod2] at *
          omega
        rw [e]
        rfl
      rw [show flat (d :: r) = d.1 :: d.2 :: flat r from rfl, key _ m1, key _ m2]
      exact ih
/-- the same chords, in another order and turned -/
theorem rings_same {cs cs' : List (Int × Int)} (hn : (flat cs).Nodup) (hn' : (flat cs').Nodup) (hs : ∀ x, x ∈ flat cs' ↔ x ∈ flat cs) (hc : ∀ c ∈ cs, c ∈ cs' ∨ (c.2, c.1) ∈ cs') : ringsOf (flat cs') = ringsOf (flat cs) := by
  have hr : rimOf (flat cs') = rimOf (flat cs) := rising_ext (rim_rising _ hn') (rim_rising _ hn) fun x => by rw [mem_rim, mem_rim, hs]
  refine rings_sim (f := fun x => x) (fun _ _ _ _ e => e) (by rw [hr]; simp) fun x hx => ?_
  have hx' := (mem_rim _ x).mp hx
  have hp : partner (flat cs') x = partner (flat cs) x := by
    obtain ⟨c, hc1, hc2⟩ := mem_flat.mp hx'
    have p1 := partner_flat hn c hc1
    rcases hc c hc1 with q | q
    · have p2 := partner_flat hn' c q
      rcases hc2 with e | e <;> rw [e]
      · rw [p1.1, p2.1]
      · rw [p1.2, p2.2]
    · have p2 := partner_flat hn' _ q
      rcases hc2 with e | e <;> rw [e]
      · rw [p1.1]; exact p2.2
      · rw [p1.2]; exact p2.1
  show follow (flat cs') (rimOf (flat cs')) x = _
  unfold follow
  rw [hp, hr]
end Mine

namespace Mine
/-- the row of a: a bit for each that a crosses -/
def bitsX {α : Type} (X : α → α → Bool) (a : α) : List α → Int → Int
  | [], _ => 0
  | c :: r, w => (if X a c = true then w else 0) + bitsX X a r (2 * w)
def rk {α : Type} (X : α → α → Bool) (cs : List α) : Int := rankOf (cs.map fun a => bitsX X a cs 1)
theorem bitsX_congr {α β : Type} {X : α → α → Bool} {Y : β → β → Bool} {g : α → β} {a : α} : ∀ {l : List α} {w : Int}, (∀ c ∈ l, Y (g a) (g c) = X a c) → bitsX Y (g a) (l.map g) w = bitsX X a l w
  | [], _, _ => rfl
  | c :: r, w, h => by
    show (if Y (g a) (g c) = true then w else 0) + bitsX Y (g a) (r.map g) (2 * w) = (if X a c = true then w else 0) + bitsX X a r (2 * w)
    rw [h c (.head _), bitsX_congr fun d hd => h d (.tail _ hd)]
theorem rk_map {α β : Type} {X : α → α → Bool} {Y : β → β → Bool} {g : α → β} {cs : List α} (h : ∀ a ∈ cs, ∀ c ∈ cs, Y (g a) (g c) = X a c) : rk Y (cs.map g) = rk X cs := by
  unfold rk
  rw [List.map_map]
  congr 1
  refine List.map_congr_left fun a ha => ?_
  exact bitsX_congr (h a ha)
theorem rk_congr {α : Type} {X Y : α → α → Bool} {cs : List α} (h : ∀ a ∈ cs, ∀ c ∈ cs, Y a c = X a c) : rk Y cs = rk X cs := by
  have := rk_map (g := fun a => a) h
  rwa [List.map_id'] at this
theorem swap_0_0 {α : Type} {X : α → α → Bool} (hs : ∀ a b, X a b = X b a) (hi : ∀ a, X a a = false) (e0 e1 : α) : rk X [e0, e1] = rk X [e1, e0] := by
  unfold rk
  simp only [List.map_cons, List.map_nil, bitsX]
  simp only [hs e1 e0, hi e0, hi e1]
theorem swap_0_1 {α : Type} {X : α → α → Bool} (hs : ∀ a b, X a b = X b a) (hi : ∀ a, X a a = false) (e0 e1 e2 : α) : rk X [e0, e1, e2] = rk X [e1, e0, e2] := by
  unfold rk
  simp only [List.map_cons, List.map_nil, bitsX]
  simp only [hs e1 e0, hs e2 e0, hs e2 e1, hi e0, hi e1, hi e2]
  generalize X e0 e1 = x01
  generalize X e0 e2 = x02
  generalize X e1 e2 = x12
  clear hs hi
  clear e0 e1 e2 X
  revert x01 x02 x12
  decide +kernel
theorem swap_0_2 {α : Type} {X : α → α → Bool} (hs : ∀ a b, X a b = X b a) (hi : ∀ a, X a a = false) (e0 e1 e2 e3 : α) : rk X [e0, e1, e2, e3] = rk X [e1, e0, e2, e3] := by
  unfold rk
  simp only [List.map_cons, List.map_nil, bitsX]
  simp only [hs e1 e0, hs e2 e0, hs e3 e0, hs e2 e1, hs e3 e1, hs e3 e2, hi e0, hi e1, hi e2, hi e3]
  generalize X e0 e1 = x01
  generalize X e0 e2 = x02
  generalize X e0 e3 = x03
  generalize X e1 e2 = x12
  generalize X e1 e3 = x13
  generalize X e2 e3 = x23
  clear hs hi
  clear e0 e1 e2 e3 X
  revert x01 x02 x03 x12 x13 x23
  decide +kernel
theorem swap_0_3 {α : Type} {X : α → α → Bool} (hs : ∀ a b, X a b = X b a) (hi : ∀ a, X a a = false) (e0 e1 e2 e3 e4 : α) : rk X [e0, e1, e2, e3, e4] = rk X [e1, e0, e2, e3, e4] := by
  unfold rk
  simp only [List.map_cons, List.map_nil, bitsX]
  simp only [hs e1 e0, hs e2 e0, hs e3 e0, hs e4 e0, hs e2 e1, hs e3 e1, hs e4 e1, hs e3 e2, hs e4 e2, hs e4 e3, hi e0, hi e1, hi e2, hi e3, hi e4]
  generalize X e0 e1 = x01
  generalize X e0 e2 = x02
  generalize X e0 e3 = x03
  generalize X e0 e4 = x04
  generalize X e1 e2 = x12
  generalize X e1 e3 = x13
  generalize X e1 e4 = x14
  generalize X e2 e3 = x23
  generalize X e2 e4 = x24
  generalize X e3 e4 = x34
  clear hs hi
  clear e0 e1 e2 e3 e4 X
  revert x01 x02 x03 x04 x12 x13 x14 x23 x24 x34
  decide +kernel
theorem swap_1_0 {α : Type} {X : α → α → Bool} (hs : ∀ a b, X a b = X b a) (hi : ∀ a, X a a = false) (e0 e1 e2 : α) : rk X [e0, e1, e2] = rk X [e0, e2, e1] := by
  unfold rk
  simp only [List.map_cons, List.map_nil, bitsX]
  simp only [hs e1 e0, hs e2 e0, hs e2 e1, hi e0, hi e1, hi e2]
  generalize X e0 e1 = x01
  generalize X e0 e2 = x02
  generalize X e1 e2 = x12
  clear hs hi
  clear e0 e1 e2 X
  revert x01 x02 x12
  decide +kernel
theorem swap_1_1 {α : Type} {X : α → α → Bool} (hs : ∀ a b, X a b = X b a) (hi : ∀ a, X a a = false) (e0 e1 e2 e3 : α) : rk X [e0, e1, e2, e3] = rk X [e0, e2, e1, e3] := by
  unfold rk
  simp only [List.map_cons, List.map_nil, bitsX]
  simp only [hs e1 e0, hs e2 e0, hs e3 e0, hs e2 e1, hs e3 e1, hs e3 e2, hi e0, hi e1, hi e2, hi e3]
  generalize X e0 e1 = x01
  generalize X e0 e2 = x02
  generalize X e0 e3 = x03
  generalize X e1 e2 = x12
  generalize X e1 e3 = x13
  generalize X e2 e3 = x23
  clear hs hi
  clear e0 e1 e2 e3 X
  revert x01 x02 x03 x12 x13 x23
  decide +kernel
theorem swap_1_2 {α : Type} {X : α → α → Bool} (hs : ∀ a b, X a b = X b a) (hi : ∀ a, X a a = false) (e0 e1 e2 e3 e4 : α) : rk X [e0, e1, e2, e3, e4] = rk X [e0, e2, e1, e3, e4] := by
  unfold rk
  simp only [List.map_cons, List.map_nil, bitsX]
  simp only [hs e1 e0, hs e2 e0, hs e3 e0, hs e4 e0, hs e2 e1, hs e3 e1, hs e4 e1, hs e3 e2, hs e4 e2, hs e4 e3, hi e0, hi e1, hi e2, hi e3, hi e4]
  generalize X e0 e1 = x01
  generalize X e0 e2 = x02
  generalize X e0 e3 = x03
  generalize X e0 e4 = x04
  generalize X e1 e2 = x12
  generalize X e1 e3 = x13
  generalize X e1 e4 = x14
  generalize X e2 e3 = x23
  generalize X e2 e4 = x24
  generalize X e3 e4 = x34
  clear hs hi
  clear e0 e1 e2 e3 e4 X
  revert x01 x02 x03 x04 x12 x13 x14 x23 x24 x34
  decide +kernel
theorem swap_2_0 {α : Type} {X : α → α → Bool} (hs : ∀ a b, X a b = X b a) (hi : ∀ a, X a a = false) (e0 e1 e2 e3 : α) : rk X [e0, e1, e2, e3] = rk X [e0, e1, e3, e2] := by
  unfold rk
  simp only [List.map_cons, List.map_nil, bitsX]
  simp only [hs e1 e0, hs e2 e0, hs e3 e0, hs e2 e1, hs e3 e1, hs e3 e2, hi e0, hi e1, hi e2, hi e3]
  generalize X e0 e1 = x01
  generalize X e0 e2 = x02
  generalize X e0 e3 = x03
  generalize X e1 e2 = x12
  generalize X e1 e3 = x13
  generalize X e2 e3 = x23
  clear hs hi
  clear e0 e1 e2 e3 X
  revert x01 x02 x03 x12 x13 x23
  decide +kernel
theorem swap_2_1 {α : Type} {X : α → α → Bool} (hs : ∀ a b, X a b = X b a) (hi : ∀ a, X a a = false) (e0 e1 e2 e3 e4 : α) : rk X [e0, e1, e2, e3, e4] = rk X [e0, e1, e3, e2, e4] := by
  unfold rk
  simp only [List.map_cons, List.map_nil, bitsX]
  simp only [hs e1 e0, hs e2 e0, hs e3 e0, hs e4 e0, hs e2 e1, hs e3 e1, hs e4 e1, hs e3 e2, hs e4 e2, hs e4 e3, hi e0, hi e1, hi e2, hi e3, hi e4]
  generalize X e0 e1 = x01
  generalize X e0 e2 = x02
  generalize X e0 e3 = x03
  generalize X e0 e4 = x04
  generalize X e1 e2 = x12
  generalize X e1 e3 = x13
  generalize X e1 e4 = x14
  generalize X e2 e3 = x23
  generalize X e2 e4 = x24
  generalize X e3 e4 = x34
  clear hs hi
  clear e0 e1 e2 e3 e4 X
  revert x01 x02 x03 x04 x12 x13 x14 x23 x24 x34
  decide +kernel
theorem swap_3_0 {α : Type} {X : α → α → Bool} (hs : ∀ a b, X a b = X b a) (hi : ∀ a, X a a = false) (e0 e1 e2 e3 e4 : α) : rk X [e0, e1, e2, e3, e4] = rk X [e0, e1, e2, e4, e3] := by
  unfold rk
  simp only [List.map_cons, List.map_nil, bitsX]
  simp only [hs e1 e0, hs e2 e0, hs e3 e0, hs e4 e0, hs e2 e1, hs e3 e1, hs e4 e1, hs e3 e2, hs e4 e2, hs e4 e3, hi e0, hi e1, hi e2, hi e3, hi e4]
  generalize X e0 e1 = x01
  generalize X e0 e2 = x02
  generalize X e0 e3 = x03
  generalize X e0 e4 = x04
  generalize X e1 e2 = x12
  generalize X e1 e3 = x13
  generalize X e1 e4 = x14
  generalize X e2 e3 = x23
  generalize X e2 e4 = x24
  generalize X e3 e4 = x34
  clear hs hi
  clear e0 e1 e2 e3 e4 X
  revert x01 x02 x03 x04 x12 x13 x14 x23 x24 x34
  decide +kernel
theorem rk_swap {α : Type} {X : α → α → Bool} (hs : ∀ a b, X a b = X b a) (hi : ∀ a, X a a = false) (a b : α) : ∀ (pre post : List α), pre.length + post.length ≤ 3 → rk X (pre ++ a :: b :: post) = rk X (pre ++ b :: a :: post)
  | [], [], _ => swap_0_0 hs hi  a b 
  | [], [q0], _ => swap_0_1 hs hi  a b q0
  | [], [q0, q1], _ => swap_0_2 hs hi  a b q0 q1
  | [], [q0, q1, q2], _ => swap_0_3 hs hi  a b q0 q1 q2
  | [p0], [], _ => swap_1_0 hs hi p0 a b 
  | [p0], [q0], _ => swap_1_1 hs hi p0 a b q0
  | [p0], [q0, q1], _ => swap_1_2 hs hi p0 a b q0 q1
  | [p0, p1], [], _ => swap_2_0 hs hi p0 p1 a b 
  | [p0, p1], [q0], _ => swap_2_1 hs hi p0 p1 a b q0
  | [p0, p1, p2], [], _ => swap_3_0 hs hi p0 p1 p2 a b 
  | [], _ :: _ :: _ :: _ :: _, h => absurd h (by simp)
  | [_], _ :: _ :: _ :: _, h => absurd h (by simp; omega)
  | [_, _], _ :: _ :: _, h => absurd h (by simp; omega)
  | [_, _, _], _ :: _, h => absurd h (by simp)
  | _ :: _ :: _ :: _ :: _, _, h => absurd h (by simp; omega)
theorem rk_perm' {α : Type} {X : α → α → Bool} (hs : ∀ a b, X a b = X b a) (hi : ∀ a, X a a = false) {l₁ l₂ : List α} (p : l₁.Perm l₂) : ∀ pre : List α, pre.length + l₁.length ≤ 5 → rk X (pre ++ l₁) = rk X (pre ++ l₂) := by
  induction p with
  | nil => intro pre _; rfl
  | cons x p ih =>
    intro pre h
    have := ih (pre ++ [x]) (by simp at h ⊢; omega)
    simpa using this
  | swap x y l =>
    intro pre h
    exact rk_swap hs hi y x pre l (by simp at h; omega)
  | trans p q ih1 ih2 =>
    intro pre h
    rw [ih1 pre h, ih2 pre (by rw [← p.length_eq]; exact h)]
theorem rk_perm {α : Type} {X : α → α → Bool} (hs : ∀ a b, X a b = X b a) (hi : ∀ a, X a a = false) {l₁ l₂ : List α} (p : l₁.Perm l₂) (h : l₁.length ≤ 5) : rk X l₁ = rk X l₂ := by
  have := rk_perm' hs hi p [] (by simpa using h)
  simpa using this
theorem bitXor_0 {o : Int} (h : 0 < o) : Builtin.bitXor 0 o = o := by
  rw [bitXor_and]
  have e : Builtin.bitAnd 0 o = 0 := by
    unfold Builtin.bitAnd
    rw [decide_eq_true (by omega : (0 : Int) ≤ 0), decide_eq_true (by omega : (0 : Int) ≤ o)]
    simp
  rw [e]; omega
theorem zero_row : ∀ {basis : List Int}, (∀ o ∈ basis, 0 < o) → basis.foldl xstep 0 = 0
  | [], _ => rfl
  | o :: r, h => by
    have ho := h o (.head _)
    rw [List.foldl_cons]
    have e : xstep 0 o = 0 := by
      unfold xstep
      rw [bitXor_0 ho, if_neg (by omega)]
    rw [e]
    exact zero_row fun q hq => h q (.tail _ hq)
theorem rows_zero : ∀ (rows basis : List Int), (∀ o ∈ basis, 0 < o) → rows.foldl rankTurn basis = (rows.filter (fun x => x != 0)).foldl rankTurn basis
  | [], basis, h => rfl
  | a :: r, basis, h => by
    have pos : ∀ b, ∀ o ∈ rankTurn basis b, 0 < o := fun b o ho => by
      unfold rankTurn at ho
      split at ho
      · rename_i q
        rcases List.mem_append.mp ho with ho | ho
        · exact h o ho
        · rw [List.mem_singleton.mp ho]; exact q
      · exact h o ho
    by_cases q : a = 0
    · subst q
      rw [List.foldl_cons]
      have e : rankTurn basis 0 = basis := by
        unfold rankTurn
        rw [zero_row h, if_neg (by decide)]
      rw [e, rows_zero r basis h]
      rfl
    · rw [List.filter_cons_of_pos (by simpa using q), List.foldl_cons, List.foldl_cons]
      exact rows_zero r _ (pos a)
theorem rank_zero (rows : List Int) : rankOf rows = rankOf (rows.filter (fun x => x != 0)) := by
  unfold rankOf
  rw [rows_zero rows [] fun _ h => nomatch h]
end Mine

namespace Mine
def sumTo (f : Nat → Bool) : Nat → Int
  | 0 => 0
  | n + 1 => sumTo f n + (if f n = true then 2 ^ n else 0)
theorem row_sumTo (ps : List Int) (k m : Nat) : (rowInts ps k m).sum = sumTo (crossB ps k) m := by
  induction m with
  | zero => rfl
  | succ m ih =>
    rw [rowInts_succ]
    unfold sumTo
    split <;> simp [ih]
theorem and_bits (f : Nat → Bool) {n c : Nat} (hn : n ≤ 5) (hc : c < 2 ^ n) (k : Nat) : Builtin.bitAnd (sumTo f n) (c : Int) = bitsX (fun (_ j : Nat) => f j && pick c j) k (List.range n) 1 := by
  have h0 : ∀ b0 b1 b2 b3 b4 : Bool, ∀ c : Fin 32, Builtin.bitAnd (sumTo (fun j => [b0, b1, b2, b3, b4].getD j false) 5) ((c.val : Nat) : Int) = bitsX (fun (_ j : Nat) => [b0, b1, b2, b3, b4].getD j false && pick c.val j) 0 [0, 1, 2, 3, 4] 1 := by decide +kernel
  have h1 : ∀ b0 b1 b2 b3 : Bool, ∀ c : Fin 16, Builtin.bitAnd (sumTo (fun j => [b0, b1, b2, b3].getD j false) 4) ((c.val : Nat) : Int) = bitsX (fun (_ j : Nat) => [b0, b1, b2, b3].getD j false && pick c.val j) 0 [0, 1, 2, 3] 1 := by decide +kernel
  have h2 : ∀ b0 b1 b2 : Bool, ∀ c : Fin 8, Builtin.bitAnd (sumTo (fun j => [b0, b1, b2].getD j false) 3) ((c.val : Nat) : Int) = bitsX (fun (_ j : Nat) => [b0, b1, b2].getD j false && pick c.val j) 0 [0, 1, 2] 1 := by decide +kernel
  have h3 : ∀ b0 b1 : Bool, ∀ c : Fin 4, Builtin.bitAnd (sumTo (fun j => [b0, b1].getD j false) 2) ((c.val : Nat) : Int) = bitsX (fun (_ j : Nat) => [b0, b1].getD j false && pick c.val j) 0 [0, 1] 1 := by decide +kernel
  have h4 : ∀ b0 : Bool, ∀ c : Fin 2, Builtin.bitAnd (sumTo (fun j => [b0].getD j false) 1) ((c.val : Nat) : Int) = bitsX (fun (_ j : Nat) => [b0].getD j false && pick c.val j) 0 [0] 1 := by decide +kernel
  have cases : n = 0 ∨ n = 1 ∨ n = 2 ∨ n = 3 ∨ n = 4 ∨ n = 5 := by omega
  rcases cases with h | h | h | h | h | h <;> subst h
  · have : c = 0 := by omega
    subst this
    show Builtin.bitAnd (0 : Int) ((0 : Nat) : Int) = 0
    decide +kernel
  · exact h4 (f 0) ⟨c, hc⟩
  · exact h3 (f 0) (f 1) ⟨c, hc⟩
  · exact h2 (f 0) (f 1) (f 2) ⟨c, hc⟩
  · exact h1 (f 0) (f 1) (f 2) (f 3) ⟨c, hc⟩
  · exact h0 (f 0) (f 1) (f 2) (f 3) (f 4) ⟨c, hc⟩
theorem crossB_symm (ps : List Int) (k j : Nat) : crossB ps k j = crossB ps j k := by
  unfold crossB
  congr 1
  exact propext ⟨fun h => h.symm, fun h => h.symm⟩
theorem crossB_irr (ps : List Int) (k : Nat) : crossB ps k k = false := by
  unfold crossB
  rw [decide_eq_false_iff_not]
  rintro (⟨h, -⟩ | ⟨h, -⟩) <;> omega
theorem bits_zero {α : Type} {X : α → α → Bool} {a : α} : ∀ {l : List α} {w : Int}, (∀ c ∈ l, X a c = false) → bitsX X a l w = 0
  | [], _, _ => rfl
  | c :: r, w, h => by
    show (if X a c = true then w else 0) + bitsX X a r (2 * w) = 0
    rw [h c (.head _), bits_zero fun d hd => h d (.tail _ hd)]; rfl
theorem bits_front {α : Type} {X : α → α → Bool} {a : α} : ∀ {l r : List α} {w : Int}, (∀ c ∈ r, X a c = false) → bitsX X a (l ++ r) w = bitsX X a l w
  | [], r, w, h => bits_zero h
  | c :: l, r, w, h => by
    show (if X a c = true then w else 0) + bitsX X a (l ++ r) (2 * w) = (if X a c = true then w else 0) + bitsX X a l (2 * w)
    rw [bits_front h]
theorem filter_rows {p : Nat → Bool} {g : Nat → Int} : ∀ {l : List Nat}, (∀ k ∈ l, p k = false → g k = 0) → (l.map g).filter (fun x => x != 0) = ((l.filter p).map g).filter (fun x => x != 0)
  | [], _ => rfl
  | a :: l, h => by
    have ih := filter_rows (p := p) (g := g) (l := l) fun k hk => h k (.tail _ hk)
    by_cases q : p a = true
    · rw [List.filter_cons_of_pos q, List.map_cons, List.map_cons, List.filter_cons, List.filter_cons, ih]
    · have q' : p a = false := by simpa using q
      rw [List.filter_cons_of_neg q, List.map_cons, h a (.head _) q', List.filter_cons_of_neg (by simp), ih]
theorem rank_rows {ps : List Int} {n c : Nat} (hn : n ≤ 5) (hc : c < 2 ^ n) : rankOf (rowsL ps n c (pickL c n)) = rk (crossB ps) (pickL c n) := by
  have hs : ∀ a b, (crossB ps a b && (pick c a && pick c b)) = (crossB ps b a && (pick c b && pick c a)) := fun a b => by rw [crossB_symm, Bool.and_comm (pick c a)]
  have hi : ∀ a, (crossB ps a a && (pick c a && pick c a)) = false := fun a => by rw [crossB_irr]; rfl
  have row : ∀ k, pick c k = true → Builtin.bitAnd (rowOf ps n k) (c : Int) = bitsX (fun a b => crossB ps a b && (pick c a && pick c b)) k (List.range n) 1 := fun k hk => by
    show Builtin.bitAnd ((rowInts ps k n).sum) (c : Int) = _
    rw [row_sumTo, and_bits (crossB ps k) hn hc k]
    have : ∀ (l : List Nat) (w : Int), bitsX (fun (_ j : Nat) => crossB ps k j && pick c j) k l w = bitsX (fun a b => crossB ps a b && (pick c a && pick c b)) k l w := by
      intro l
      induction l with
      | nil => intro w; rfl
      | cons a t ih =>
        intro w
        show (if (crossB ps k a && pick c a) = true then w else 0) + _ = (if (crossB ps k a && (pick c k && pick c a)) = true then w else 0) + _
        rw [ih, hk, Bool.true_and]
    exact this _ _
  have none : ∀ (l : List Nat) (k : Nat) (w : Int), pick c k = false → bitsX (fun a b => crossB ps a b && (pick c a && pick c b)) k l w = 0 := fun l k w hk => bits_zero fun d _ => by simp [hk]
  have e1 : rowsL ps n c (pickL c n) = (pickL c n).map fun k => bitsX (fun a b => crossB ps a b && (pick c a && pick c b)) k (List.range n) 1 := by
    unfold rowsL
    refine List.map_congr_left fun k hk => row k ?_
    exact (List.mem_filter.mp hk).2
  have e2 : rankOf (rowsL ps n c (pickL c n)) = rk (fun a b => crossB ps a b && (pick c a && pick c b)) (List.range n) := by
    unfold rk
    rw [e1, rank_zero, rank_zero ((List.range n).map _)]
    unfold pickL
    rw [← filter_rows (p := pick c) (l := List.range n) fun k _ hk => none _ k 1 hk]
  rw [e2, rk_perm hs hi (List.filter_append_perm (pick c) (List.range n)).symm (by simpa using hn)]
  have e3 : rk (fun a b => crossB ps a b && (pick c a && pick c b)) (pickL c n ++ (List.range n).filter fun x => !pick c x) = rk (fun a b => crossB ps a b && (pick c a && pick c b)) (pickL c n) := by
    unfold rk
    rw [rank_zero, rank_zero ((pickL c n).map _), List.map_append, List.filter_append]
    have z : (((List.range n).filter fun x => !pick c x).map fun a => bitsX (fun a b => crossB ps a b && (pick c a && pick c b)) a (pickL c n ++ (List.range n).filter fun x => !pick c x) 1).filter (fun x => x != 0) = [] := by
      rw [List.filter_eq_nil_iff]
      intro x hx
      obtain ⟨k, hk, rfl⟩ := List.mem_map.mp hx
      have := (List.mem_filter.mp hk).2
      rw [none _ k 1 (by simpa using this)]
      simp
    rw [z, List.append_nil]
    congr 2
    refine List.map_congr_left fun k hk => bits_front fun d hd => ?_
    have := (List.mem_filter.mp hd).2
    simp at this
    simp [this]
  show rk _ (pickL c n ++ _) = _
  rw [e3]
  refine (rk_congr fun a ha b hb => ?_).symm
  have h1 := (List.mem_filter.mp ha).2
  have h2 := (List.mem_filter.mp hb).2
  rw [h1, h2]; simp
end Mine

namespace Mine
/-- a, b, c stand in the wheel's sense of turning -/
def ori (a b c : Int) : Bool := (decide (a < b) && decide (b < c)) || (decide (b < c) && decide (c < a)) || (decide (c < a) && decide (a < b))
theorem ori_iff (a b c : Int) : ori a b c = true ↔ (a < b ∧ b < c) ∨ (b < c ∧ c < a) ∨ (c < a ∧ a < b) := by
  unfold ori; simp [or_assoc]
def interB (c d : Int × Int) : Bool := ori c.1 c.2 d.1 != ori c.1 c.2 d.2
theorem bne_iff' (x y : Bool) : (x != y) = true ↔ ¬ (x = true ↔ y = true) := by cases x <;> cases y <;> decide
theorem inter_iff (a b c d : Int) : interB (a, b) (c, d) = true ↔ ¬ (((a < b ∧ b < c) ∨ (b < c ∧ c < a) ∨ (c < a ∧ a < b)) ↔ ((a < b ∧ b < d) ∨ (b < d ∧ d < a) ∨ (d < a ∧ a < b))) := by
  unfold interB; rw [bne_iff', ori_iff, ori_iff]
def interS (c d : Int × Int) : Bool := interB c d && interB d c
theorem interS_symm (c d : Int × Int) : interS c d = interS d c := Bool.and_comm _ _
theorem interB_self (c : Int × Int) : interB c c = false := by
  obtain ⟨a, b⟩ := c
  have : ¬ interB (a, b) (a, b) = true := by rw [inter_iff]; omega
  simpa using this
theorem interS_irr (c : Int × Int) : interS c c = false := by unfold interS; rw [interB_self]; rfl
theorem flipD {a b : Int} (h : a ≠ b) : decide (b < a) = !decide (a < b) := by
  by_cases q : a < b
  · rw [decide_eq_true q, decide_eq_false (by omega)]; rfl
  · rw [decide_eq_false q, decide_eq_true (by omega)]; rfl
theorem tr1 (a b c : Int) : (decide (a < b) && decide (b < c) && !decide (a < c)) = false := by
  by_cases q : a < c
  · rw [decide_eq_true q]; simp
  · by_cases r : a < b
    · rw [decide_eq_false (by omega : ¬ b < c)]; simp
    · rw [decide_eq_false r]; rfl
theorem tr2 (a b c : Int) : (!decide (a < b) && !decide (b < c) && decide (a < c)) = false := by
  by_cases q : a < c
  · by_cases r : a < b
    · rw [decide_eq_true r]; rfl
    · rw [decide_eq_true (by omega : b < c)]; simp
  · rw [decide_eq_false q]; simp
theorem tab_symm : ∀ ab ac ad bc bd cd : Bool, (ab && bc && !ac) = false → (!ab && !bc && ac) = false → (ab && bd && !ad) = false → (!ab && !bd && ad) = false → (ac && cd && !ad) = false → (!ac && !cd && ad) = false → (bc && cd && !bd) = false → (!bc && !cd && bd) = false →
    (((ab && bc) || (bc && !ac) || (!ac && ab)) != ((ab && bd) || (bd && !ad) || (!ad && ab))) = (((cd && !ad) || (!ad && ac) || (ac && cd)) != ((cd && !bd) || (!bd && bc) || (bc && cd))) := by decide
theorem tab_turn : ∀ ab ac ad bc bd : Bool, (ab && bc && !ac) = false → (!ab && !bc && ac) = false → (ab && bd && !ad) = false → (!ab && !bd && ad) = false →
    (((!ab && ac) || (ac && !bc) || (!bc && !ab)) != ((!ab && ad) || (ad && !bd) || (!bd && !ab))) = (((ab && bc) || (bc && !ac) || (!ac && ab)) != ((ab && bd) || (bd && !ad) || (!ad && ab))) := by decide
theorem interB_symm {a b c d : Int} (h1 : a ≠ b) (h2 : a ≠ c) (h3 : a ≠ d) (h4 : b ≠ c) (h5 : b ≠ d) (h6 : c ≠ d) : interB (a, b) (c, d) = interB (c, d) (a, b) := by
  unfold interB ori
  dsimp only
  rw [flipD h2, flipD h3, flipD h5]
  exact tab_symm _ _ _ _ _ _ (tr1 a b c) (tr2 a b c) (tr1 a b d) (tr2 a b d) (tr1 a c d) (tr2 a c d) (tr1 b c d) (tr2 b c d)
theorem interB_turn {a b c d : Int} (h1 : a ≠ b) (h2 : a ≠ c) (h3 : a ≠ d) (h4 : b ≠ c) (h5 : b ≠ d) (h6 : c ≠ d) : interB (b, a) (c, d) = interB (a, b) (c, d) := by
  unfold interB ori
  dsimp only
  rw [flipD h1, flipD h2, flipD h3, flipD h4, flipD h5]
  exact tab_turn _ _ _ _ _ (tr1 a b c) (tr2 a b c) (tr1 a b d) (tr2 a b d)
theorem interB_turn' (a b c d : Int) : interB (a, b) (d, c) = interB (a, b) (c, d) := by
  unfold interB
  dsimp only
  cases ori a b c <;> cases ori a b d <;> rfl
theorem side_sign : ∀ a b c : Fin 12, a ≠ b → b ≠ c → a ≠ c → (ori (a.val : Int) b.val c.val = true → sideOf (duePt a.val) (duePt b.val) (duePt c.val) < 0) ∧ (ori (a.val : Int) b.val c.val = false → 0 < sideOf (duePt a.val) (duePt b.val) (duePt c.val)) := by decide +kernel
theorem side_sign' {a b c : Int} (a0 : 0 ≤ a) (a1 : a < 12) (b0 : 0 ≤ b) (b1 : b < 12) (c0 : 0 ≤ c) (c1 : c < 12) (h1 : a ≠ b) (h2 : b ≠ c) (h3 : a ≠ c) : (ori a b c = true → sideOf (duePt a) (duePt b) (duePt c) < 0) ∧ (ori a b c = false → 0 < sideOf (duePt a) (duePt b) (duePt c)) := by
  obtain ⟨x, rfl⟩ := Int.eq_ofNat_of_zero_le a0
  obtain ⟨y, rfl⟩ := Int.eq_ofNat_of_zero_le b0
  obtain ⟨z, rfl⟩ := Int.eq_ofNat_of_zero_le c0
  have e1 : (⟨x, by omega⟩ : Fin 12) ≠ ⟨y, by omega⟩ := fun e => h1 (by rw [Fin.mk.injEq] at e; rw [e])
  have e2 : (⟨y, by omega⟩ : Fin 12) ≠ ⟨z, by omega⟩ := fun e => h2 (by rw [Fin.mk.injEq] at e; rw [e])
  have e3 : (⟨x, by omega⟩ : Fin 12) ≠ ⟨z, by omega⟩ := fun e => h3 (by rw [Fin.mk.injEq] at e; rw [e])
  exact side_sign _ _ _ e1 e2 e3
def chord (ps : List Int) (k : Nat) : Int × Int := (ps.getD (2 * k) 0, ps.getD (2 * k + 1) 0)
theorem getD_inj {ps : List Int} (h : ps.Nodup) {a b : Nat} (ha : a < ps.length) (hb : b < ps.length) (hab : a ≠ b) : ps.getD a 0 ≠ ps.getD b 0 := fun e => by
  rw [List.getD_eq_getElem?_getD, List.getD_eq_getElem?_getD, List.getElem?_eq_getElem ha, List.getElem?_eq_getElem hb] at e
  exact hab ((List.getElem_inj h).mp e)
theorem cross_inter {ps : List Int} (hw : Wheel ps) {k j : Nat} (hk : 2 * k + 1 < ps.length) (hj : 2 * j + 1 < ps.length) (hne : k ≠ j) : crossAt ps k j ↔ interB (chord ps k) (chord ps j) = true := by
  have lo : ∀ i, i < ps.length → 0 ≤ ps.getD i 0 := fun i hi => hw.lo _ (getD_mem hi)
  have hi : ∀ i, i < ps.length → ps.getD i 0 < 12 := fun i hi => hw.hi _ (getD_mem hi)
  have ne : ∀ a b, a < ps.length → b < ps.length → a ≠ b → ps.getD a 0 ≠ ps.getD b 0 := fun a b ha hb => getD_inj hw.nodup ha hb
  have s0 := side_sign' (lo (2 * k) (by omega)) (hi (2 * k) (by omega)) (lo (2 * k + 1) hk) (hi (2 * k + 1) hk) (lo (2 * j) (by omega)) (hi (2 * j) (by omega)) (ne _ _ (by omega) (by omega) (by omega)) (ne _ _ (by omega) (by omega) (by omega)) (ne _ _ (by omega) (by omega) (by omega))
  have s1 := side_sign' (lo (2 * k) (by omega)) (hi (2 * k) (by omega)) (lo (2 * k + 1) hk) (hi (2 * k + 1) hk) (lo (2 * j + 1) hj) (hi (2 * j + 1) hj) (ne _ _ (by omega) (by omega) (by omega)) (ne _ _ (by omega) (by omega) (by omega)) (ne _ _ (by omega) (by omega) (by omega))
  unfold crossAt interB chord
  have e0 : sideAt ps k j 0 = sideOf (duePt (ps.getD (2 * k) 0)) (duePt (ps.getD (2 * k + 1) 0)) (duePt (ps.getD (2 * j) 0)) := rfl
  have e1 : sideAt ps k j 1 = sideOf (duePt (ps.getD (2 * k) 0)) (duePt (ps.getD (2 * k + 1) 0)) (duePt (ps.getD (2 * j + 1) 0)) := rfl
  rw [e0, e1, bne_iff']
  generalize sideOf (duePt (ps.getD (2 * k) 0)) (duePt (ps.getD (2 * k + 1) 0)) (duePt (ps.getD (2 * j) 0)) = x at *
  generalize sideOf (duePt (ps.getD (2 * k) 0)) (duePt (ps.getD (2 * k + 1) 0)) (duePt (ps.getD (2 * j + 1) 0)) = y at *
  cases o0 : ori (ps.getD (2 * k) 0) (ps.getD (2 * k + 1) 0) (ps.getD (2 * j) 0) <;> cases o1 : ori (ps.getD (2 * k) 0) (ps.getD (2 * k + 1) 0) (ps.getD (2 * j + 1) 0)
  · have := Int.mul_pos (s0.2 o0) (s1.2 o1); simp; omega
  · have := Int.mul_neg_of_pos_of_neg (s0.2 o0) (s1.1 o1); simp; omega
  · have := Int.mul_neg_of_neg_of_pos (s0.1 o0) (s1.2 o1); simp; omega
  · have := Int.mul_pos_of_neg_of_neg (s0.1 o0) (s1.1 o1); simp; omega
theorem crossB_inter {ps : List Int} (hw : Wheel ps) {k j : Nat} (hk : 2 * k + 1 < ps.length) (hj : 2 * j + 1 < ps.length) : interS (chord ps k) (chord ps j) = crossB ps k j := by
  by_cases hne : k = j
  · subst hne; rw [interS_irr, crossB_irr]
  · have ne : ∀ a b, a < ps.length → b < ps.length → a ≠ b → ps.getD a 0 ≠ ps.getD b 0 := fun a b ha hb => getD_inj hw.nodup ha hb
    have sy : interB (chord ps k) (chord ps j) = interB (chord ps j) (chord ps k) :=
      interB_symm (ne _ _ (by omega) (by omega) (by omega)) (ne _ _ (by omega) (by omega) (by omega)) (ne _ _ (by omega) (by omega) (by omega)) (ne _ _ (by omega) (by omega) (by omega)) (ne _ _ (by omega) (by omega) (by omega)) (ne _ _ (by omega) (by omega) (by omega))
    have c1 := cross_inter hw hk hj hne
    have c2 := cross_inter hw hj hk (Ne.symm hne)
    unfold interS crossB
    rw [← sy, Bool.and_self, Bool.eq_iff_iff, decide_eq_true_eq, ← c1]
    rw [← sy] at c2
    constructor
    · intro h
      by_cases q : j < k
      · exact .inl ⟨q, h⟩
      · exact .inr ⟨by omega, c2.mpr (c1.mp h)⟩
    · rintro (⟨-, h⟩ | ⟨-, h⟩)
      · exact h
      · exact c1.mpr (c2.mp h)
theorem ends_flat (ps : List Int) : ∀ l : List Nat, endsL ps l = (flat (l.map (chord ps))).map (7200 * ·)
  | [] => rfl
  | a :: l => by
    show mom ps (2 * a) :: mom ps (2 * a + 1) :: endsL ps l = _
    rw [ends_flat ps l]; rfl
end Mine

namespace Mine
theorem chord_own : ∀ {cs : List (Int × Int)}, (flat cs).Nodup → ∀ c ∈ cs, c.1 ≠ c.2
  | [], _, c, h => nomatch h
  | d :: r, hn, c, h => by
    rw [show flat (d :: r) = d.1 :: d.2 :: flat r from rfl, List.nodup_cons, List.nodup_cons] at hn
    rcases List.mem_cons.mp h with rfl | h
    · exact fun e => hn.1 (by rw [e]; exact .head _)
    · exact chord_own hn.2.2 c h
theorem chord_apart : ∀ {cs : List (Int × Int)}, (flat cs).Nodup → ∀ a ∈ cs, ∀ c ∈ cs, a = c ∨ (a.1 ≠ c.1 ∧ a.1 ≠ c.2 ∧ a.2 ≠ c.1 ∧ a.2 ≠ c.2)
  | [], _, a, h, _, _ => nomatch h
  | d :: r, hn, a, ha, c, hc => by
    rw [show flat (d :: r) = d.1 :: d.2 :: flat r from rfl, List.nodup_cons, List.nodup_cons] at hn
    obtain ⟨n1, n2, n3⟩ := hn
    have key : ∀ c ∈ r, d.1 ≠ c.1 ∧ d.1 ≠ c.2 ∧ d.2 ≠ c.1 ∧ d.2 ≠ c.2 := fun c hc => by
      have m1 : c.1 ∈ flat r := mem_flat.mpr ⟨c, hc, .inl rfl⟩
      have m2 : c.2 ∈ flat r := mem_flat.mpr ⟨c, hc, .inr rfl⟩
      exact ⟨fun e => n1 (.tail _ (e ▸ m1)), fun e => n1 (.tail _ (e ▸ m2)), fun e => n2 (e ▸ m1), fun e => n2 (e ▸ m2)⟩
    rcases List.mem_cons.mp ha with ea | ha
    · rcases List.mem_cons.mp hc with ec | hc
      · exact .inl (ea.trans ec.symm)
      · rw [ea]; exact .inr (key c hc)
    · rcases List.mem_cons.mp hc with ec | hc
      · obtain ⟨q1, q2, q3, q4⟩ := key a ha
        rw [ec]; exact .inr ⟨Ne.symm q1, Ne.symm q3, Ne.symm q2, Ne.symm q4⟩
      · exact chord_apart n3 a ha c hc
theorem flat_perm {cs ds : List (Int × Int)} (p : cs.Perm ds) : (flat cs).Perm (flat ds) := by
  induction p with
  | nil => exact .nil
  | cons x p ih => exact (ih.cons _).cons _
  | swap x y l =>
    show (y.1 :: y.2 :: x.1 :: x.2 :: flat l).Perm (x.1 :: x.2 :: y.1 :: y.2 :: flat l)
    exact List.perm_append_comm_assoc [y.1, y.2] [x.1, x.2] (flat l)
  | trans p q ih1 ih2 => exact ih1.trans ih2
/-- the lesser end first -/
def turn (c : Int × Int) : Int × Int := if c.1 < c.2 then c else (c.2, c.1)
theorem turn_or (c : Int × Int) : turn c = c ∨ turn c = (c.2, c.1) := by unfold turn; split <;> simp
theorem turn_lt {c : Int × Int} (h : c.1 ≠ c.2) : (turn c).1 < (turn c).2 := by
  unfold turn; split
  · assumption
  · show c.2 < c.1; omega
theorem flat_turn : ∀ cs : List (Int × Int), (flat (cs.map turn)).Perm (flat cs)
  | [] => .nil
  | c :: r => by
    have ih := flat_turn r
    show ((turn c).1 :: (turn c).2 :: flat (r.map turn)).Perm (c.1 :: c.2 :: flat r)
    rcases turn_or c with e | e <;> rw [e]
    · exact (ih.cons _).cons _
    · exact ((ih.cons _).cons _).trans (.swap _ _ _)
theorem interS_turn {cs : List (Int × Int)} (hn : (flat cs).Nodup) : ∀ a ∈ cs, ∀ c ∈ cs, interS (turn a) (turn c) = interS a c := fun a ha c hc => by
  rcases chord_apart hn a ha c hc with e | ⟨q1, q2, q3, q4⟩
  · rw [e, interS_irr, interS_irr]
  · have oa := chord_own hn a ha
    have oc := chord_own hn c hc
    obtain ⟨a1, a2⟩ := a
    obtain ⟨c1, c2⟩ := c
    dsimp only at q1 q2 q3 q4 oa oc
    have t1 := interB_turn oa q1 q2 q3 q4 oc
    have t2 := interB_turn oc (Ne.symm q1) (Ne.symm q3) (Ne.symm q2) (Ne.symm q4) oa
    have t3 := interB_turn' c1 c2 a1 a2
    have t4 := interB_turn' a1 a2 c1 c2
    have t5 := interB_turn' a2 a1 c1 c2
    have t6 := interB_turn' c2 c1 a1 a2
    unfold interS
    rcases turn_or (a1, a2) with e | e <;> rcases turn_or (c1, c2) with e' | e' <;> rw [e, e'] <;> simp_all
theorem cnt_cons (a : Int) (r : List Int) (x : Int) : cnt (a :: r) x = cnt r x + (if a < x then 1 else 0) := by
  unfold cnt
  rw [List.countP_cons]
  by_cases h : a < x <;> simp [h]
theorem cnt_mono {x y : Int} (h : x ≤ y) : ∀ l : List Int, cnt l x ≤ cnt l y
  | [] => Int.le_refl _
  | a :: r => by
    have := cnt_mono h r
    rw [cnt_cons, cnt_cons]
    split <;> split <;> omega
theorem cnt_up {x y : Int} (h : x < y) : ∀ {l : List Int}, x ∈ l → cnt l x < cnt l y
  | a :: r, hx => by
    rw [cnt_cons, cnt_cons]
    rcases List.mem_cons.mp hx with e | hx
    · have := cnt_mono (Int.le_of_lt h) r
      rw [if_neg (by omega), if_pos (by omega)]; omega
    · have := cnt_up h hx
      split <;> split <;> omega
def upTo (n : Nat) : List Int := (List.range n).map fun (i : Nat) => (i : Int)
theorem rim_places {l : List Int} (h : Rising l) : l.map (cnt l) = upTo l.length := by
  unfold upTo
  apply List.ext_getElem
  · simp
  · intro i h1 h2
    simp only [List.length_map] at h1
    simp only [List.getElem_map, List.getElem_range]
    have e1 := rising_cnt l l[i] i h1 h
    have n0 := cnt_nonneg l l[i]
    have n1 := cnt_le l l[i]
    by_cases q : (i : Int) < cnt l l[i]
    · exact absurd (e1.mpr q) (Int.lt_irrefl _)
    · by_cases z : cnt l l[i] = i
      · exact z
      · have hj : (cnt l l[i]).toNat < l.length := by omega
        have e2 := rising_cnt l l[i] (cnt l l[i]).toNat hj h
        have e3 : ∀ {l : List Int}, Rising l → ∀ (a b : Nat) (ha : a < l.length) (hb : b < l.length), a < b → l[a] < l[b] := by
          intro l
          induction l with
          | nil => intro _ a b ha; simp at ha
          | cons x r ih =>
            intro hr a b ha hb hab
            cases b with
            | zero => omega
            | succ b =>
              cases a with
              | zero => exact hr.1 _ (List.getElem_mem _)
              | succ a => exact ih hr.2 a b (by simpa using ha) (by simpa using hb) (by omega)
        have := e3 h _ i hj h1 (by omega)
        have := e2.mp this
        omega
theorem interB_up {f : Int → Int} {l : List Int} (h : Up f l) {a b c d : Int} (ha : a ∈ l) (hb : b ∈ l) (hc : c ∈ l) (hd : d ∈ l) : interB (f a, f b) (f c, f d) = interB (a, b) (c, d) := by
  rw [Bool.eq_iff_iff, inter_iff, inter_iff]
  simp only [h.lt ha hb, h.lt hb hc, h.lt hc ha, h.lt hb hd, h.lt hd ha]
theorem interS_up {f : Int → Int} {cs : List (Int × Int)} (h : Up f (flat cs)) : ∀ a ∈ cs, ∀ c ∈ cs, interS (f a.1, f a.2) (f c.1, f c.2) = interS a c := fun a ha c hc => by
  have a1 : a.1 ∈ flat cs := mem_flat.mpr ⟨a, ha, .inl rfl⟩
  have a2 : a.2 ∈ flat cs := mem_flat.mpr ⟨a, ha, .inr rfl⟩
  have c1 : c.1 ∈ flat cs := mem_flat.mpr ⟨c, hc, .inl rfl⟩
  have c2 : c.2 ∈ flat cs := mem_flat.mpr ⟨c, hc, .inr rfl⟩
  unfold interS
  rw [interB_up h a1 a2 c1 c2, interB_up h c1 c2 a1 a2]
theorem flat_map2 (f : Int → Int) : ∀ cs : List (Int × Int), flat (cs.map fun c => (f c.1, f c.2)) = (flat cs).map f
  | [] => rfl
  | c :: r => by
    show f c.1 :: f c.2 :: flat _ = f c.1 :: f c.2 :: _
    rw [flat_map2 f r]
/-- all ways to join the free places in pairs -/
def allM : Nat → List Int → List (List (Int × Int))
  | 0, _ => [[]]
  | _ + 1, [] => []
  | f + 1, a :: r => r.flatMap fun b => (allM f (r.erase b)).map fun t => (a, b) :: t
theorem rising_nodup : ∀ {l : List Int}, Rising l → l.Nodup
  | [], _ => List.nodup_nil
  | a :: r, h => List.nodup_cons.mpr ⟨fun q => by have := h.1 a q; omega, rising_nodup h.2⟩
theorem rising_erase : ∀ {l : List Int} {b : Int}, Rising l → Rising (l.erase b)
  | [], _, _ => trivial
  | a :: r, b, h => by
    by_cases q : a = b
    · subst q; rw [List.erase_cons_head]; exact h.2
    · rw [List.erase_cons_tail (by simpa using q)]
      exact ⟨fun c hc => h.1 c (List.mem_of_mem_erase hc), rising_erase h.2⟩
theorem allM_mem : ∀ (cs : List (Int × Int)) (free : List Int), Rising free → (flat cs).Nodup → (∀ x, x ∈ free ↔ x ∈ flat cs) → (∀ c ∈ cs, c.1 < c.2) → cs.Pairwise (fun a b => a.1 ≤ b.1) → cs ∈ allM cs.length free
  | [], _, _, _, _, _, _ => .head _
  | c :: t, free, hr, hn, hm, ho, hp => by
    have hn' := hn
    rw [show flat (c :: t) = c.1 :: c.2 :: flat t from rfl, List.nodup_cons, List.nodup_cons] at hn'
    obtain ⟨n1, n2, n3⟩ := hn'
    rw [List.pairwise_cons] at hp
    have hc := ho c (.head _)
    have least : ∀ x ∈ flat (c :: t), c.1 ≤ x := fun x hx => by
      obtain ⟨d, hd, e⟩ := mem_flat.mp hx
      rcases List.mem_cons.mp hd with rfl | hd
      · rcases e with e | e <;> omega
      · have := hp.1 d hd
        have := ho d (.tail _ hd)
        rcases e with e | e <;> omega
    have hcf : c.1 ∈ free := (hm _).mpr (.head _)
    match free, hr, hm, hcf with
    | h :: r, hr, hm, hcf =>
      have e : h = c.1 := by
        rcases List.mem_cons.mp hcf with q | q
        · exact q.symm
        · have := hr.1 _ q
          have := least h ((hm h).mp (.head _))
          omega
      subst e
      have hb : c.2 ∈ r := by
        rcases List.mem_cons.mp ((hm c.2).mpr (.tail _ (.head _))) with q | q
        · omega
        · exact q
      have nr := rising_nodup hr
      rw [List.nodup_cons] at nr
      have ih := allM_mem t (r.erase c.2) (rising_erase hr.2) n3 (fun x => by
        rw [nr.2.mem_erase_iff]
        constructor
        · rintro ⟨x1, x2⟩
          rcases List.mem_cons.mp ((hm x).mp (.tail _ x2)) with q | q
          · rw [q] at x2; exact absurd x2 nr.1
          · rcases List.mem_cons.mp q with q | q
            · exact absurd q x1
            · exact q
        · intro hx
          have x1 : x ≠ c.2 := fun e => n2 (e ▸ hx)
          have x2 : x ≠ c.1 := fun e => n1 (.tail _ (e ▸ hx))
          rcases List.mem_cons.mp ((hm x).mpr (.tail _ (.tail _ hx))) with q | q
          · exact absurd q x2
          · exact ⟨x1, q⟩) (fun d hd => ho d (.tail _ hd)) hp.2
      show (c :: t) ∈ r.flatMap _
      rw [List.mem_flatMap]
      exact ⟨c.2, hb, List.mem_map.mpr ⟨t, ih, rfl⟩⟩
/-- the same, in natural numbers: what the kernel reckons with -/
def elemN (x : Nat) : List Nat → Bool
  | [] => false
  | a :: r => bif Nat.beq a x then true else elemN x r
def lookN (x : Nat) : List (Nat × Nat) → Nat
  | [] => 0
  | c :: r => bif Nat.beq c.1 x then c.2 else bif Nat.beq c.2 x then c.1 else lookN x r
def chaseN (cs : List (Nat × Nat)) (n : Nat) : Nat → List Nat → Nat → List Nat
  | 0, met, _ => met
  | k + 1, met, spot => bif elemN spot met then met else chaseN cs n k (spot :: met) (Nat.mod (Nat.succ (lookN spot cs)) n)
def ringsN (cs : List (Nat × Nat)) (n : Nat) : Nat → Nat → List Nat → Nat → Nat
  | 0, _, _, r => r
  | k + 1, spot, met, r => bif elemN spot met then ringsN cs n k (Nat.succ spot) met r else ringsN cs n k (Nat.succ spot) (chaseN cs n (n + 1 - met.length) met spot) (Nat.succ r)
def eraseN (x : Nat) : List Nat → List Nat
  | [] => []
  | a :: r => bif Nat.beq a x then r else a :: eraseN x r
def allN : Nat → List Nat → List (List (Nat × Nat))
  | 0, _ => [[]]
  | _ + 1, [] => []
  | f + 1, a :: r => r.flatMap fun b => (allN f (eraseN b r)).map fun t => (a, b) :: t
def cI (c : Nat × Nat) : Int × Int := ((c.1 : Int), (c.2 : Int))
def nI (x : Nat) : Int := (x : Int)
theorem eraseN_eq (b : Nat) : ∀ l : List Nat, (eraseN b l).map nI = (l.map nI).erase (nI b)
  | [] => rfl
  | a :: r => by
    unfold eraseN
    by_cases h : a = b
    · subst h
      rw [show Nat.beq a a = true from Nat.beq_refl a, List.map_cons, List.erase_cons_head]; rfl
    · have e : Nat.beq a b = false := by
        cases q : Nat.beq a b
        · rfl
        · exact absurd (Nat.eq_of_beq_eq_true q) h
      have e2 : (nI a == nI b) = false := beq_eq_false_iff_ne.mpr fun q => h (by unfold nI at q; omega)
      rw [e, List.map_cons, List.erase_cons_tail (by rw [e2]; decide), ← eraseN_eq b r]; rfl
theorem allN_eq : ∀ (f : Nat) (l : List Nat), allM f (l.map nI) = (allN f l).map fun cs => cs.map cI
  | 0, _ => rfl
  | _ + 1, [] => rfl
  | f + 1, a :: r => by
    show (r.map nI).flatMap (fun b => (allM f ((r.map nI).erase b)).map fun t => (nI a, b) :: t) = (r.flatMap fun b => (allN f (eraseN b r)).map fun t => (a, b) :: t).map fun cs => cs.map cI
    rw [List.map_flatMap, List.flatMap_map]
    congr 1
    funext b
    rw [← eraseN_eq, allN_eq f, List.map_map, List.map_map]
    rfl
theorem elemN_iff (x : Nat) : ∀ l : List Nat, elemN x l = true ↔ x ∈ l
  | [] => by simp [elemN]
  | a :: r => by
    have ih := elemN_iff x r
    unfold elemN
    by_cases h : a = x
    · subst h
      rw [show Nat.beq a a = true from Nat.beq_refl a]
      simp
    · have e : Nat.beq a x = false := by
        cases q : Nat.beq a x
        · rfl
        · exact absurd (Nat.eq_of_beq_eq_true q) h
      rw [e, List.mem_cons]
      constructor
      · intro q; exact .inr (ih.mp q)
      · rintro (q | q)
        · exact absurd q.symm h
        · exact ih.mpr q
theorem beq_ff {a b : Nat} (h : a ≠ b) : Nat.beq a b = false := by
  cases q : Nat.beq a b
  · rfl
  · exact absurd (Nat.eq_of_beq_eq_true q) h
theorem lookN_spec (x : Nat) : ∀ cs : List (Nat × Nat), (∃ c ∈ cs, x = c.1 ∨ x = c.2) → ∃ c ∈ cs, (c.1 = x ∧ lookN x cs = c.2) ∨ (c.2 = x ∧ lookN x cs = c.1)
  | [], ⟨_, h, _⟩ => nomatch h
  | d :: r, h => by
    unfold lookN
    by_cases h1 : d.1 = x
    · refine ⟨d, .head _, .inl ⟨h1, ?_⟩⟩
      rw [h1, show Nat.beq x x = true from Nat.beq_refl x]; rfl
    · rw [beq_ff h1]
      by_cases h2 : d.2 = x
      · refine ⟨d, .head _, .inr ⟨h2, ?_⟩⟩
        rw [h2, show Nat.beq x x = true from Nat.beq_refl x]; rfl
      · rw [beq_ff h2]
        obtain ⟨c, hc, e⟩ := h
        have hc' : c ∈ r := by
          rcases List.mem_cons.mp hc with q | q
          · subst q; rcases e with e | e
            · exact absurd e.symm h1
            · exact absurd e.symm h2
          · exact q
        obtain ⟨c2, hc2, e2⟩ := lookN_spec x r ⟨c, hc', e⟩
        exact ⟨c2, .tail _ hc2, e2⟩
theorem cnt_upTo (n y : Nat) : cnt (upTo n) (y : Int) = if y ≤ n then (y : Int) else (n : Int) := by
  induction n with
  | zero => unfold upTo; simp [cnt]; omega
  | succ n ih =>
    have e : cnt (upTo (n + 1)) (y : Int) = cnt (upTo n) (y : Int) + (if (n : Int) < y then 1 else 0) := by
      unfold upTo cnt
      rw [List.range_succ, List.map_append, List.countP_append]
      by_cases h : (n : Int) < y <;> simp [h] <;> omega
    rw [e, ih]
    split <;> split <;> split <;> omega
theorem getD_upTo {n i : Nat} (h : i < n) : (upTo n).getD i 0 = (i : Int) := by
  unfold upTo
  rw [List.getD_eq_getElem?_getD, List.getElem?_map, List.getElem?_range h]; rfl
theorem mem_flatI {cs : List (Nat × Nat)} {x : Nat} : (x : Int) ∈ flat (cs.map cI) ↔ ∃ c ∈ cs, x = c.1 ∨ x = c.2 := by
  rw [mem_flat]
  constructor
  · rintro ⟨d, hd, e⟩
    obtain ⟨c, hc, rfl⟩ := List.mem_map.mp hd
    exact ⟨c, hc, by unfold cI at e; dsimp only at e; omega⟩
  · rintro ⟨c, hc, e⟩
    exact ⟨cI c, List.mem_map_of_mem hc, by unfold cI; dsimp only; omega⟩
/-- all that the kernel's reckoning rests on -/
theorem follow_N {cs : List (Nat × Nat)} {n : Nat} (hn : (flat (cs.map cI)).Nodup) (hm : ∀ x : Int, x ∈ upTo n ↔ x ∈ flat (cs.map cI)) (hr : rimOf (flat (cs.map cI)) = upTo n) {x : Nat} (hx : x < n) :
    follow (flat (cs.map cI)) (upTo n) (x : Int) = ((Nat.mod (Nat.succ (lookN x cs)) n : Nat) : Int) := by
  have mem : ∀ y : Nat, y < n ↔ (y : Int) ∈ flat (cs.map cI) := fun y => by
    rw [← hm]; unfold upTo; rw [List.mem_map]
    constructor
    · intro h; exact ⟨y, List.mem_range.mpr h, rfl⟩
    · rintro ⟨z, hz, e⟩; have := List.mem_range.mp hz; omega
  obtain ⟨c, hc, e⟩ := lookN_spec x cs (mem_flatI.mp ((mem x).mp hx))
  have pf := partner_flat hn (cI c) (List.mem_map_of_mem hc)
  have hp : partner (flat (cs.map cI)) (x : Int) = (lookN x cs : Int) ∧ lookN x cs < n := by
    rcases e with ⟨e1, e2⟩ | ⟨e1, e2⟩
    · rw [e2, ← e1]; exact ⟨pf.1, (mem _).mpr (mem_flatI.mpr ⟨c, hc, .inr rfl⟩)⟩
    · rw [e2, ← e1]; exact ⟨pf.2, (mem _).mpr (mem_flatI.mpr ⟨c, hc, .inl rfl⟩)⟩
  unfold follow
  rw [hp.1, cnt_upTo, if_pos (by omega)]
  have hl : (upTo n).length = n := by unfold upTo; simp
  rw [hl]
  have e3 : ((lookN x cs : Int) + 1).fmod (n : Int) = ((Nat.mod (Nat.succ (lookN x cs)) n : Nat) : Int) := by
    rw [Int.fmod_eq_emod_of_nonneg _ (by omega)]
    show _ = (((lookN x cs + 1) % n : Nat) : Int)
    rw [Int.natCast_emod, Int.natCast_add]; rfl
  rw [e3, Int.toNat_natCast]
  exact getD_upTo (Nat.mod_lt _ (by omega))
def Alike (a : List Nat) (b : List Int) : Prop := (∀ x : Nat, x ∈ a ↔ (x : Int) ∈ b) ∧ a.length = b.length
theorem chase_N {cs : List (Nat × Nat)} {n : Nat} (hn : (flat (cs.map cI)).Nodup) (hm : ∀ x : Int, x ∈ upTo n ↔ x ∈ flat (cs.map cI)) (hr : rimOf (flat (cs.map cI)) = upTo n) :
    ∀ (k : Nat) (a : List Nat) (b : List Int) (x : Nat), Alike a b → x < n → Alike (chaseN cs n k a x) (chase (flat (cs.map cI)) (upTo n) k b (x : Int))
  | 0, a, b, x, h, _ => h
  | k + 1, a, b, x, h, hx => by
    unfold chaseN chase
    by_cases q : x ∈ a
    · rw [(elemN_iff x a).mpr q, if_pos ((h.1 x).mp q)]; exact h
    · have e : elemN x a = false := by
        cases z : elemN x a
        · rfl
        · exact absurd ((elemN_iff x a).mp z) q
      rw [e, if_neg (fun z => q ((h.1 x).mpr z)), follow_N hn hm hr hx]
      refine chase_N hn hm hr k (x :: a) (b ++ [(x : Int)]) _ ⟨fun y => ?_, by simp [h.2]⟩ (Nat.mod_lt _ (by omega))
      rw [List.mem_cons, List.mem_append, List.mem_singleton, ← h.1 y]
      constructor
      · rintro (z | z)
        · exact .inr (by omega)
        · exact .inl z
      · rintro (z | z)
        · exact .inr z
        · exact .inl (by omega)
theorem rings_N' {cs : List (Nat × Nat)} {n : Nat} (hn : (flat (cs.map cI)).Nodup) (hm : ∀ x : Int, x ∈ upTo n ↔ x ∈ flat (cs.map cI)) (hr : rimOf (flat (cs.map cI)) = upTo n) (hl : (flat (cs.map cI)).length = n) :
    ∀ (k x : Nat) (a : List Nat) (b : List Int) (r : Nat), x + k = n → Alike a b → (((List.range' x k).map nI).foldl (ringTurn (flat (cs.map cI)) (upTo n)) (b, (r : Int))).2 = (ringsN cs n k x a r : Int)
  | 0, x, a, b, r, _, _ => rfl
  | k + 1, x, a, b, r, hx, h => by
    rw [List.range'_succ, List.map_cons, List.foldl_cons]
    unfold ringsN
    by_cases q : x ∈ a
    · have e1 : ringTurn (flat (cs.map cI)) (upTo n) (b, (r : Int)) (nI x) = (b, (r : Int)) := by unfold ringTurn; exact if_pos ((h.1 x).mp q)
      rw [e1, (elemN_iff x a).mpr q]
      exact rings_N' hn hm hr hl k (x + 1) a b r (by omega) h
    · have e : elemN x a = false := by
        cases z : elemN x a
        · rfl
        · exact absurd ((elemN_iff x a).mp z) q
      have e1 : ringTurn (flat (cs.map cI)) (upTo n) (b, (r : Int)) (nI x) = (chase (flat (cs.map cI)) (upTo n) (n + 1 - a.length) b (x : Int), ((r + 1 : Nat) : Int)) := by
        unfold ringTurn
        refine (if_neg (fun z => q ((h.1 x).mpr z))).trans ?_
        show (chase (flat (cs.map cI)) (upTo n) ((flat (cs.map cI)).length + 1 - b.length) b (x : Int), (r : Int) + 1) = _
        rw [hl, h.2]; rfl
      rw [e1, e]
      exact rings_N' hn hm hr hl k (x + 1) _ _ (r + 1) (by omega) (chase_N hn hm hr _ a b x h (by omega))
theorem rings_N {cs : List (Nat × Nat)} {n : Nat} (hn : (flat (cs.map cI)).Nodup) (hm : ∀ x : Int, x ∈ upTo n ↔ x ∈ flat (cs.map cI)) (hr : rimOf (flat (cs.map cI)) = upTo n) (hl : (flat (cs.map cI)).length = n) :
    ringsOf (flat (cs.map cI)) = max 1 (ringsN cs n n 0 [] 0 : Int) := by
  have := rings_N' hn hm hr hl n 0 [] [] 0 (by omega) ⟨fun x => by simp, rfl⟩
  unfold ringsOf
  rw [hr, ← this]
  unfold upTo
  rw [List.range_eq_range']
  rfl
/-- the chords c and d cross, both with the lesser end first -/
def crossN (c d : Nat × Nat) : Bool := (Nat.blt c.1 d.1 && Nat.blt d.1 c.2 && Nat.blt c.2 d.2) || (Nat.blt d.1 c.1 && Nat.blt c.1 d.2 && Nat.blt d.2 c.2)
theorem blt_dec (a b : Nat) : decide ((a : Int) < (b : Int)) = Nat.blt a b := by
  by_cases h : a < b
  · rw [decide_eq_true (by omega : (a : Int) < b)]
    exact (Nat.ble_eq.mpr h).symm
  · rw [decide_eq_false (by omega : ¬ (a : Int) < b)]
    cases q : Nat.blt a b
    · rfl
    · exact absurd (Nat.le_of_ble_eq_true q) h
theorem tab_cross : ∀ ac ad bc bd : Bool, (bc && !ac) = false → (bd && !ad) = false → (ac && !ad) = false → (bc && !bd) = false →
    (((true && bc) || (bc && !ac) || (!ac && true)) != ((true && bd) || (bd && !ad) || (!ad && true))) = ((ac && !bc && bd) || (!ac && ad && !bd)) := by decide
theorem crossN_inter {cs : List (Nat × Nat)} (hn : (flat (cs.map cI)).Nodup) (ho : ∀ c ∈ cs, c.1 < c.2) : ∀ a ∈ cs, ∀ c ∈ cs, interS (cI a) (cI c) = crossN a c := fun a ha c hc => by
  have oa := ho a ha
  have oc := ho c hc
  rcases chord_apart hn (cI a) (List.mem_map_of_mem ha) (cI c) (List.mem_map_of_mem hc) with h | ⟨h1, h2, h3, h4⟩
  · have e : a = c := by
      unfold cI at h
      rw [Prod.mk.injEq] at h
      exact Prod.ext (by omega) (by omega)
    subst e
    rw [interS_irr]
    have n1 : Nat.blt a.1 a.1 = false := by rw [← blt_dec]; exact decide_eq_false (by omega)
    unfold crossN
    rw [n1]; rfl
  · unfold cI at h1 h2 h3 h4 ⊢
    dsimp only at h1 h2 h3 h4
    unfold interS
    rw [← interB_symm (by omega) h1 h2 h3 h4 (by omega), Bool.and_self]
    have ab : decide ((a.1 : Int) < a.2) = true := decide_eq_true (by omega)
    have cd : decide ((c.1 : Int) < c.2) = true := decide_eq_true (by omega)
    have t1 := tr1 (a.1 : Int) a.2 c.1
    have t2 := tr1 (a.1 : Int) a.2 c.2
    have t3 := tr1 (a.1 : Int) c.1 c.2
    have t4 := tr1 (a.2 : Int) c.1 c.2
    rw [ab, Bool.true_and] at t1 t2
    rw [cd, Bool.and_true] at t3 t4
    unfold crossN
    simp only [← blt_dec]
    rw [flipD h1, flipD h3, flipD h4]
    unfold interB ori
    dsimp only
    rw [flipD h1, flipD h2, ab]
    exact tab_cross _ _ _ _ t1 t2 t3 t4
/-- the count that the kernel makes of each way to join 2 m places in pairs -/
def okN (m : Nat) (cs : List (Nat × Nat)) : Bool := decide (max 1 (ringsN cs (2 * m) (2 * m) 0 [] 0 : Int) = 1 + (m : Int) - rk crossN cs)
theorem all0 : (allN 0 (List.range 0)).all (okN 0) = true := by decide +kernel
theorem all1 : (allN 1 (List.range 2)).all (okN 1) = true := by decide +kernel
theorem all2 : (allN 2 (List.range 4)).all (okN 2) = true := by decide +kernel
theorem all3 : (allN 3 (List.range 6)).all (okN 3) = true := by decide +kernel
theorem all4 : (allN 4 (List.range 8)).all (okN 4) = true := by decide +kernel
theorem all5_1 : ((allN 4 (eraseN 1 [1, 2, 3, 4, 5, 6, 7, 8, 9])).map fun t => (0, 1) :: t).all (okN 5) = true := by decide +kernel
theorem all5_2 : ((allN 4 (eraseN 2 [1, 2, 3, 4, 5, 6, 7, 8, 9])).map fun t => (0, 2) :: t).all (okN 5) = true := by decide +kernel
theorem all5_3 : ((allN 4 (eraseN 3 [1, 2, 3, 4, 5, 6, 7, 8, 9])).map fun t => (0, 3) :: t).all (okN 5) = true := by decide +kernel
theorem all5_4 : ((allN 4 (eraseN 4 [1, 2, 3, 4, 5, 6, 7, 8, 9])).map fun t => (0, 4) :: t).all (okN 5) = true := by decide +kernel
theorem all5_5 : ((allN 4 (eraseN 5 [1, 2, 3, 4, 5, 6, 7, 8, 9])).map fun t => (0, 5) :: t).all (okN 5) = true := by decide +kernel
theorem all5_6 : ((allN 4 (eraseN 6 [1, 2, 3, 4, 5, 6, 7, 8, 9])).map fun t => (0, 6) :: t).all (okN 5) = true := by decide +kernel
theorem all5_7 : ((allN 4 (eraseN 7 [1, 2, 3, 4, 5, 6, 7, 8, 9])).map fun t => (0, 7) :: t).all (okN 5) = true := by decide +kernel
theorem all5_8 : ((allN 4 (eraseN 8 [1, 2, 3, 4, 5, 6, 7, 8, 9])).map fun t => (0, 8) :: t).all (okN 5) = true := by decide +kernel
theorem all5_9 : ((allN 4 (eraseN 9 [1, 2, 3, 4, 5, 6, 7, 8, 9])).map fun t => (0, 9) :: t).all (okN 5) = true := by decide +kernel
theorem all5 : ∀ cs ∈ allN 5 (List.range 10), okN 5 cs = true := fun cs h => by
  have e : allN 5 (List.range 10) = [1, 2, 3, 4, 5, 6, 7, 8, 9].flatMap fun b => (allN 4 (eraseN b [1, 2, 3, 4, 5, 6, 7, 8, 9])).map fun t => (0, b) :: t := rfl
  rw [e, List.mem_flatMap] at h
  obtain ⟨b, hb, hcs⟩ := h
  simp only [List.mem_cons, List.not_mem_nil, or_false] at hb
  rcases hb with h | h | h | h | h | h | h | h | h <;> subst h
  · exact List.all_eq_true.mp all5_1 cs hcs
  · exact List.all_eq_true.mp all5_2 cs hcs
  · exact List.all_eq_true.mp all5_3 cs hcs
  · exact List.all_eq_true.mp all5_4 cs hcs
  · exact List.all_eq_true.mp all5_5 cs hcs
  · exact List.all_eq_true.mp all5_6 cs hcs
  · exact List.all_eq_true.mp all5_7 cs hcs
  · exact List.all_eq_true.mp all5_8 cs hcs
  · exact List.all_eq_true.mp all5_9 cs hcs
theorem all_ok {m : Nat} (h : m ≤ 5) : ∀ cs ∈ allN m (List.range (2 * m)), okN m cs = true := by
  have cases : m = 0 ∨ m = 1 ∨ m = 2 ∨ m = 3 ∨ m = 4 ∨ m = 5 := by omega
  rcases cases with h | h | h | h | h | h <;> subst h
  · exact List.all_eq_true.mp all0
  · exact List.all_eq_true.mp all1
  · exact List.all_eq_true.mp all2
  · exact List.all_eq_true.mp all3
  · exact List.all_eq_true.mp all4
  · exact all5
theorem cohn_chords {cs : List (Int × Int)} (hn : (flat cs).Nodup) (h5 : cs.length ≤ 5) : ringsOf (flat cs) = 1 + (cs.length : Int) - rk interS cs := by
  -- turn
  have p1 := flat_turn cs
  have n1 : (flat (cs.map turn)).Nodup := p1.nodup_iff.mpr hn
  have r1 : rk interS (cs.map turn) = rk interS cs := rk_map (interS_turn hn)
  have g1 : ringsOf (flat (cs.map turn)) = ringsOf (flat cs) := rings_same hn n1 (fun x => p1.mem_iff) fun c hc => by
    have := List.mem_map_of_mem (f := turn) hc
    rcases turn_or c with e | e <;> rw [e] at this
    · exact .inl this
    · exact .inr this
  have o1 : ∀ c ∈ cs.map turn, c.1 < c.2 := fun c hc => by
    obtain ⟨d, hd, rfl⟩ := List.mem_map.mp hc
    exact turn_lt (chord_own hn d hd)
  have l1 : (cs.map turn).length = cs.length := List.length_map ..
  rw [← g1, ← r1, ← l1]
  rw [← l1] at h5
  clear r1 g1 p1 l1 hn
  generalize cs.map turn = ds at *
  clear cs
  -- sort
  have p2 := List.mergeSort_perm ds (fun a b => decide (a.1 ≤ b.1))
  have s2 := List.pairwise_mergeSort (le := fun (a b : Int × Int) => decide (a.1 ≤ b.1)) (fun a b c h1 h2 => by simp at *; omega) (fun a b => by simp; omega) ds
  have n2 : (flat (ds.mergeSort fun a b => decide (a.1 ≤ b.1))).Nodup := (flat_perm p2).nodup_iff.mpr n1
  have r2 := rk_perm interS_symm interS_irr p2.symm h5
  have g2 : ringsOf (flat (ds.mergeSort fun a b => decide (a.1 ≤ b.1))) = ringsOf (flat ds) := rings_same n1 n2 (fun x => (flat_perm p2).mem_iff) fun c hc => .inl (p2.mem_iff.mpr hc)
  have o2 : ∀ c ∈ ds.mergeSort (fun a b => decide (a.1 ≤ b.1)), c.1 < c.2 := fun c hc => o1 c (p2.mem_iff.mp hc)
  rw [← g2, r2, ← p2.length_eq]
  rw [← p2.length_eq] at h5
  clear r2 g2 o1 n1
  generalize ds.mergeSort (fun a b => decide (a.1 ≤ b.1)) = es at *
  clear p2 ds
  -- places
  have hr := rim_rising _ n2
  have up : Up (cnt (rimOf (flat es))) (flat es) := fun x hx y hy h => cnt_up h ((mem_rim _ x).mpr hx)
  have f3 := flat_map2 (cnt (rimOf (flat es))) es
  have g3 := rings_map n2 up (by rw [flat_len]; omega)
  have r3 := rk_map (X := interS) (Y := interS) (g := fun c : Int × Int => (cnt (rimOf (flat es)) c.1, cnt (rimOf (flat es)) c.2)) (interS_up up)
  have n3 := nodup_map up.inj n2
  have len3 : (rimOf (flat es)).length = 2 * es.length := by rw [rim_len, flat_len]
  have up' : Up (cnt (rimOf (flat es))) (rimOf (flat es)) := fun x hx y hy h => cnt_up h hx
  have mem : es.map (fun c : Int × Int => (cnt (rimOf (flat es)) c.1, cnt (rimOf (flat es)) c.2)) ∈ allM (es.map (fun c : Int × Int => (cnt (rimOf (flat es)) c.1, cnt (rimOf (flat es)) c.2))).length (upTo (2 * es.length)) := by
    have e := rim_places hr
    rw [len3] at e
    refine allM_mem _ _ ?_ (by rw [f3]; exact n3) (fun x => ?_) (fun c hc => ?_) ?_
    · rw [← e]; exact rising_map up' hr
    · rw [← e, f3, List.mem_map, List.mem_map]
      constructor
      · rintro ⟨y, hy, q⟩; exact ⟨y, (mem_rim _ y).mp hy, q⟩
      · rintro ⟨y, hy, q⟩; exact ⟨y, (mem_rim _ y).mpr hy, q⟩
    · obtain ⟨d, hd, rfl⟩ := List.mem_map.mp hc
      exact cnt_up (o2 d hd) ((mem_rim _ _).mpr (mem_flat.mpr ⟨d, hd, .inl rfl⟩))
    · rw [List.pairwise_map]
      exact s2.imp fun h => cnt_mono (by simpa using h) _
  rw [List.length_map] at mem
  have e := rim_places hr
  rw [len3] at e
  have hrim : rimOf ((flat es).map (cnt (rimOf (flat es)))) = upTo (2 * es.length) := by rw [rim_map n2 up, e]
  have hmem : ∀ x : Int, x ∈ upTo (2 * es.length) ↔ x ∈ (flat es).map (cnt (rimOf (flat es))) := fun x => by rw [← hrim, mem_rim]
  have ho3 : ∀ c ∈ es.map (fun c : Int × Int => (cnt (rimOf (flat es)) c.1, cnt (rimOf (flat es)) c.2)), c.1 < c.2 := fun c hc => by
    obtain ⟨d, hd, rfl⟩ := List.mem_map.mp hc
    exact cnt_up (o2 d hd) ((mem_rim _ _).mpr (mem_flat.mpr ⟨d, hd, .inl rfl⟩))
  have upN : upTo (2 * es.length) = (List.range (2 * es.length)).map nI := rfl
  rw [upN, allN_eq] at mem
  obtain ⟨ns, hns, ens⟩ := List.mem_map.mp mem
  have ok := all_ok h5 ns hns
  unfold okN at ok
  have ok' := of_decide_eq_true ok
  have fl : flat (ns.map cI) = (flat es).map (cnt (rimOf (flat es))) := by rw [ens, f3]
  have rn := rings_N (cs := ns) (n := 2 * es.length) (by rw [fl]; exact n3) (by rw [fl]; exact hmem) (by rw [fl]; exact hrim) (by rw [fl, List.length_map, flat_len])
  have on : ∀ c ∈ ns, c.1 < c.2 := fun c hc => by
    have := ho3 (cI c) (by rw [← ens]; exact List.mem_map_of_mem hc)
    unfold cI at this
    dsimp only at this
    omega
  have rkn := rk_map (X := crossN) (Y := interS) (g := cI) (cs := ns) (crossN_inter (by rw [fl]; exact n3) on)
  rw [ens] at rkn
  rw [fl] at rn
  rw [← rn, ← rkn, g3, r3] at ok'
  exact ok'
theorem chord_nodup {ps : List Int} (h : ps.Nodup) {l : List Nat} (hl : l.Nodup) (hk : ∀ k ∈ l, 2 * k + 1 < ps.length) : (flat (l.map (chord ps))).Nodup := by
  have e := endsL_nodup h hl hk
  rw [ends_flat] at e
  exact (List.Pairwise.of_map _ (fun a b hab q => hab (by rw [q])) e)
theorem cohn {ps : List Int} {n c : Nat} (hw : Wheel ps) (hlen : ps.length = 2 * n) (hn : n ≤ 5) (hc : c < 2 ^ n) :
    ringsOf (endsL ps (pickL c n)) = 1 + ((pickL c n).length : Int) - rankOf (rowsL ps n c (pickL c n)) := by
  have hk : ∀ k ∈ pickL c n, 2 * k + 1 < ps.length := fun k hk => by have := pickL_lt hk; omega
  have nd := chord_nodup hw.nodup (pickL_nodup c n) hk
  have hl := pickL_len c n
  rw [ends_flat, rings_map nd (fun x _ y _ h => by omega) (by rw [flat_len]; omega), cohn_chords nd (by rw [List.length_map]; omega), rank_rows hn hc, List.length_map,
    rk_map (X := crossB ps) (Y := interS) (g := chord ps) fun a ha b hb => crossB_inter hw (hk a ha) (hk b hb)]
end Mine

namespace Mine
local macro_rules | `(tactic| walk_at "exec While Compare") => `(tactic| (k_dflt (k_extra "my while")))
local macro_rules | `(tactic| walk_at "call ref") => `(tactic| (k_dflt (k_extra "my call")))
local macro_rules | `(tactic| ktr_room) => `(tactic| (show (_ : Nat) < _; (try dsimp only [Around.deeper, Around.in1]); (simp only [rec_is] at *); omega))
local macro_rules | `(tactic| ktr_units) => `(tactic| (show (_ : Nat) < _; (try dsimp only [Around.deeper, Around.in1]); (have hcL9 := cLine_is); omega))
local macro_rules | `(tactic| walk_at "callWith") => `(tactic| ((with_reducible show wpAny _ _ (callWith _ (Value.builtin _) [Value.ref _] _ _) _ _ _); k_dflt (refine callWith_method1 ?_)))
local macro_rules | `(tactic| k_updF) => `(tactic| (first | exact upd_c2 (by assumption) (by assumption) | exact upd_c3 (by assumption) (by assumption) | exact upd_c4 (by assumption) (by assumption) | exact upd_c5 (by assumption) (by assumption) | exact upd_c6 (by assumption) (by assumption) | exact upd_c7 (by assumption) (by assumption) | exact upd_c8 (by assumption) (by assumption)))
local macro_rules | `(tactic| walk_at "call builtin:len") => `(tactic| (k_dflt (k_extra "my len")))
local macro_rules | `(tactic| walk_at "call type:range") => `(tactic| (refine stopHere ?_))
section
variable {w : World} {fa : Addr} {cd : Value} {mean : ExcName → Option Value} {mg mb : PySem.Str → Option Value} {dp un : Nat} {gd : Option (List Code)} {outer : List Env} {A₀ : Around} {base h₀ : Heap} {L : Addr} {s : Shared} {Q : Flow → Shared → Prop} {c1 c2 c3 c4 c5 c6 c7 c8 : Addr} {o1 o2 o3 o4 o5 o6 o7 o8 : Obj}
theorem stmt9 {r ml tl : Addr} {mvs tvs : List Value} {mn tn n : Nat} {ps : List Int} {own : Led} {m : PySem.Str → Option Value} {ta tb tc : Tok} {v8 : Option Value}
   (K : Frag.In (hd.heap_39 w.params) h₀) (B : Below A₀ base outer h₀) (T : Top hd.view_39 theLoose mean mg mb h₀) (hd : dp + 40 < recursionLimit) (hu : un + 400 < cLine)
   (F : Fr h₀ L s.heap m) (N : News h₀ L s.heap ((c8, o8) :: (c7, o7) :: (c6, o6) :: (c5, o5) :: (c4, o4) :: (c3, o3) :: (c2, o2) :: (c1, o1) :: own))
   (hoff : OwnOff own [c8, c7, c6, c5, c4, c3, c2, c1]) (lt : @LT.lt Nat _ c1 c2 ∧ @LT.lt Nat _ c2 c3 ∧ @LT.lt Nat _ c3 c4 ∧ @LT.lt Nat _ c4 c5 ∧ @LT.lt Nat _ c5 c6 ∧ @LT.lt Nat _ c6 c7 ∧ @LT.lt Nat _ c7 c8)
   (d1 : o1.data = .cell (some (.ref ml))) (d3 : o3.data = .cell (some (.ref r))) (d7 : o7.data = .cell (some (.ref tl))) (d8 : o8.data = .cell v8)
   (hr : (r, rgObj 0 n ta tb tc) ∈ own) (hml : (ml, listOf mvs.toArray mn) ∈ own) (hm : IntsAre mvs (ps.map (7200 * ·))) (htl : (tl, listOf tvs.toArray tn) ∈ own) (ht : IntsAre tvs ((List.range n).map (rowOf ps n)))
   (hn : n ≤ 5) (hlen : ps.length = 2 * n) (hnd : ps.Nodup)
   (cohn : ∀ c < 2 ^ n, ringsOf (endsL ps (pickL c n)) = 1 + ((pickL c n).length : Int) - rankOf (rowsL ps n c (pickL c n)))
   (hQ : ∀ (m' : PySem.Str → Option Value) (h' : Heap) (tk' : Nat), Fr h₀ L h' m' → Q .next { s with heap := h', toks := tk' })
   : wpAny (model PySem.Challenge.rw_xg0022_01.row.prog w) (lawA fa cd dp un gd L (lawCl c1 c2 c3 c4 c5 c6 c7 c8) outer) (exec (lawSt 9) (lawEnv fa cd L (lawCl c1 c2 c3 c4 c5 c6 c7 c8))) Q (fun _ _ => False) s := by
  have eI : lawSt 9 = lawSt 9 := rfl
  have eS : lawS = lawS := rfl
  conv at eI => lhs; whnf
  conv at eS => lhs; whnf
  rw [← eI]
  unfold lawA lawEnv at *
  rw [← eS]
  clear eI eS
  revert K
  k_fill
  intro K
  refine for_rangeC (h₀ := h₀) ?_
  k_with "my len" => ((rename News _ _ _ _ => N8); refine call_len_range (n := n) (N8 (_, _) (.tail _ (.tail _ (.tail _ (.tail _ (.tail _ (.tail _ (.tail _ (.tail _ hr))))))))).1 (by rw [rangeSize_nat]; omega) (by omega) ?_)
  k_steps
  unfold Halt
  have e : (2 : Int) ^ ((n : Nat) : Int).toNat = ((2 ^ n : Nat) : Int) := by rw [Int.toNat_natCast, Int.natCast_pow]; rfl
  have e32 : 2 ^ n ≤ 32 := by
    have := Nat.pow_le_pow_right (n := 2) (by omega) hn
    omega
  rw [e]
  refine range_led F N8 ?_
  intro r2 ta2 tb2 tc2 h4 tk4 F4 N4 off4
  refine ⟨r2, 2 ^ n, ta2, tb2, tc2, m, _, fun _ m₁ led => ∃ o8', led = (c8, o8') :: (c7, o7) :: (c6, o6) :: (c5, o5) :: (c4, o4) :: (c3, o3) :: (c2, o2) :: (c1, o1) :: own ∧ ∃ v, o8'.data = .cell v, rfl, rfl, (N4 _ (.head _)).1, by omega, F4, news_tail N4, ⟨o8, rfl, _, d8⟩, ?step, ?fin⟩
  case fin =>
    intro h' tk' m' led F' N' hJ
    exact hQ m' h' tk' F'
  case step =>
    clear hQ N8 F N4 F4 off4
    rintro c I oI m₁ _ h tk tv hc ⟨o8', rfl, v, d8'⟩ F1 N1 off1
    have oo := off_cons hoff (o := oI) (cells_ne off1)
    have N2 : News h₀ L h ((c8, o8') :: (c7, o7) :: (c6, o6) :: (c5, o5) :: (c4, o4) :: (c3, o3) :: (c2, o2) :: (c1, o1) :: (I, oI) :: own) := news_sub N1 (mv_in (l := (c8, o8') :: (c7, o7) :: (c6, o6) :: (c5, o5) :: (c4, o4) :: (c3, o3) :: (c2, o2) :: (c1, o1) :: []))
    refine storeX_C F1 N2 rfl (upd_c8 oo lt) d8' ?_
    intro h3 p8 F3 N3 d8''
    refine turn9 (own := (I, oI) :: own) (ps := ps) (n := n) (c := c) K B T hd hu F3 N3 d1 d3 d7 d8'' (.tail _ hr) (.tail _ hml) hm (.tail _ htl) ht hn hlen hc hnd (cohn c hc) ?_
    intro m' h' tk' F' N'
    show ∃ h' tk' m' news', _
    refine ⟨h', tk', m', (c8, p8) :: (c7, o7) :: (c6, o6) :: (c5, o5) :: (c4, o4) :: (c3, o3) :: (c2, o2) :: (c1, o1) :: own, rfl, F', news_sub N' ?_, ?_, ⟨p8, rfl, _, d8''⟩⟩
    · exact mv_out (l := (c8, p8) :: (c7, o7) :: (c6, o6) :: (c5, o5) :: (c4, o4) :: (c3, o3) :: (c2, o2) :: (c1, o1) :: [])
    · exact mv_off (l := (c8, o8') :: (c7, o7) :: (c6, o6) :: (c5, o5) :: (c4, o4) :: (c3, o3) :: (c2, o2) :: (c1, o1) :: []) (l' := (c8, p8) :: (c7, o7) :: (c6, o6) :: (c5, o5) :: (c4, o4) :: (c3, o3) :: (c2, o2) :: (c1, o1) :: []) off1 rfl (fun p hp => off1 p (.tail _ (.tail _ (.tail _ (.tail _ (.tail _ (.tail _ (.tail _ (.tail _ hp)))))))))
end
end Mine

namespace Mine
local macro_rules | `(tactic| walk_at "exec While Compare") => `(tactic| (k_dflt (k_extra "my while")))
local macro_rules | `(tactic| walk_at "call ref") => `(tactic| (k_dflt (k_extra "my call")))
local macro_rules | `(tactic| ktr_room) => `(tactic| (show (_ : Nat) < _; (try dsimp only [Around.deeper, Around.in1]); (simp only [rec_is] at *); omega))
local macro_rules | `(tactic| ktr_units) => `(tactic| (show (_ : Nat) < _; (try dsimp only [Around.deeper, Around.in1]); (have hcL9 := cLine_is); omega))
local macro_rules | `(tactic| walk_at "callWith") => `(tactic| ((with_reducible show wpAny _ _ (callWith _ (Value.builtin _) [Value.ref _] _ _) _ _ _); k_dflt (refine callWith_method1 ?_)))
local macro_rules | `(tactic| k_updF) => `(tactic| (first | exact upd_c2 (by assumption) (by assumption) | exact upd_c3 (by assumption) (by assumption) | exact upd_c4 (by assumption) (by assumption) | exact upd_c5 (by assumption) (by assumption) | exact upd_c6 (by assumption) (by assumption) | exact upd_c7 (by assumption) (by assumption) | exact upd_c8 (by assumption) (by assumption)))
theorem upd_c1 {c1 c2 c3 c4 c5 c6 c7 c8 : Addr} {o1 o2 o3 o4 o5 o6 o7 o8 : Obj} (lt : @LT.lt Nat _ c1 c2 ∧ @LT.lt Nat _ c2 c3 ∧ @LT.lt Nat _ c3 c4 ∧ @LT.lt Nat _ c4 c5 ∧ @LT.lt Nat _ c5 c6 ∧ @LT.lt Nat _ c6 c7 ∧ @LT.lt Nat _ c7 c8) : UpdF c1 o1 ((c8, o8) :: (c7, o7) :: (c6, o6) :: (c5, o5) :: (c4, o4) :: (c3, o3) :: (c2, o2) :: (c1, o1) :: []) (fun o' => (c8, o8) :: (c7, o7) :: (c6, o6) :: (c5, o5) :: (c4, o4) :: (c3, o3) :: (c2, o2) :: (c1, o') :: []) := by
  have ne : ∀ a b : Nat, a < b ∨ b < a → a ≠ b := fun a b h e => by omega
  refine UpdF.tail (ne _ _ (by dsimp only; omega)) <| UpdF.tail (ne _ _ (by dsimp only; omega)) <| UpdF.tail (ne _ _ (by dsimp only; omega)) <| UpdF.tail (ne _ _ (by dsimp only; omega)) <| UpdF.tail (ne _ _ (by dsimp only; omega)) <| UpdF.tail (ne _ _ (by dsimp only; omega)) <| UpdF.tail (ne _ _ (by dsimp only; omega)) <| UpdF.head ?_
  intro p hp
  cases hp
section
variable {w : World} {fa : Addr} {cd : Value} {mean : ExcName → Option Value} {mg mb : PySem.Str → Option Value} {dp un : Nat} {gd : Option (List Code)} {outer : List Env} {A₀ : Around} {base h₀ : Heap} {L : Addr} {s : Shared} {Q : Flow → Shared → Prop} {c1 c2 c3 c4 c5 c6 c7 c8 : Addr} {o1 o2 o3 o4 o5 o6 o7 o8 : Obj}
theorem lawB_eq : lawB = [lawSt 0, lawSt 1, lawSt 2, lawSt 3, lawSt 4, lawSt 5, lawSt 6, lawSt 7, lawSt 8, lawSt 9, lawSt 10] := by with_unfolding_all rfl
theorem stmt0 {sl : Addr} {u : PySem.Str → Option Value}
   (K : Frag.In (hd.heap_39 w.params) h₀) (B : Below A₀ base outer h₀) (T : Top hd.view_39 theLoose mean mg mb h₀) (hd : dp + 40 < recursionLimit) (hu : un + 400 < cLine)
   (F : Fr h₀ L s.heap (fun y => if y = Str.ofString "script" then some (.ref sl) else u y)) (N : News h₀ L s.heap ((c8, o8) :: (c7, o7) :: (c6, o6) :: (c5, o5) :: (c4, o4) :: (c3, o3) :: (c2, o2) :: (c1, o1) :: []))
   (hQ : ∀ (pl : Addr) (h' : Heap) (tk' : Nat), Fr h₀ L h' (fun y => if y = Str.ofString "places" then some (.ref pl) else if y = Str.ofString "script" then some (.ref sl) else u y) → News h₀ L h' ((pl, listOf ([] : List Value).toArray 0) :: (c8, o8) :: (c7, o7) :: (c6, o6) :: (c5, o5) :: (c4, o4) :: (c3, o3) :: (c2, o2) :: (c1, o1) :: []) → (∀ b ∈ [c8, c7, c6, c5, c4, c3, c2, c1], @LT.lt Nat _ b pl) → Q .next { s with heap := h', toks := tk' })
   : wpAny (model PySem.Challenge.rw_xg0022_01.row.prog w) (lawA fa cd dp un gd L (lawCl c1 c2 c3 c4 c5 c6 c7 c8) outer) (exec (lawSt 0) (lawEnv fa cd L (lawCl c1 c2 c3 c4 c5 c6 c7 c8))) Q (fun _ _ => False) s := by
  have eI : lawSt 0 = lawSt 0 := rfl
  have eS : lawS = lawS := rfl
  conv at eI => lhs; whnf
  conv at eS => lhs; whnf
  rw [← eI]
  unfold lawA lawEnv at *
  rw [← eS]
  clear eI eS
  revert K
  k_fill
  intro K
  k_steps
  rename_i pl h1 l1 h2 F2 N2
  obtain ⟨a8, a7, a6, a5, a4, a3, a2, a1⟩ := l1
  refine hQ pl h2 _ F2 N2 ?_
  intro b hb
  simp only [List.mem_cons, List.not_mem_nil, or_false] at hb
  rcases hb with h | h | h | h | h | h | h | h <;> rw [h] <;> assumption
theorem stmt1 {pl : Addr} {m : PySem.Str → Option Value}
   (K : Frag.In (hd.heap_39 w.params) h₀) (B : Below A₀ base outer h₀) (T : Top hd.view_39 theLoose mean mg mb h₀) (hd : dp + 40 < recursionLimit) (hu : un + 400 < cLine)
   (F : Fr h₀ L s.heap m) (N : News h₀ L s.heap ((pl, listOf ([] : List Value).toArray 0) :: (c8, o8) :: (c7, o7) :: (c6, o6) :: (c5, o5) :: (c4, o4) :: (c3, o3) :: (c2, o2) :: (c1, o1) :: []))
   (lt : @LT.lt Nat _ c1 c2 ∧ @LT.lt Nat _ c2 c3 ∧ @LT.lt Nat _ c3 c4 ∧ @LT.lt Nat _ c4 c5 ∧ @LT.lt Nat _ c5 c6 ∧ @LT.lt Nat _ c6 c7 ∧ @LT.lt Nat _ c7 c8) (hpl : ∀ b ∈ [c8, c7, c6, c5, c4, c3, c2, c1], @LT.lt Nat _ b pl) (d1 : o1.data = .cell none)
   (hQ : ∀ (ml : Addr) (o' : Obj) (h' : Heap) (tk' : Nat), Fr h₀ L h' m → News h₀ L h' ((ml, listOf ([] : List Value).toArray 0) :: (pl, listOf ([] : List Value).toArray 0) :: (c8, o8) :: (c7, o7) :: (c6, o6) :: (c5, o5) :: (c4, o4) :: (c3, o3) :: (c2, o2) :: (c1, o') :: []) → @LT.lt Nat _ pl ml → (∀ b ∈ [c8, c7, c6, c5, c4, c3, c2, c1], @LT.lt Nat _ b ml) → o'.data = .cell (some (.ref ml)) → Q .next { s with heap := h', toks := tk' })
   : wpAny (model PySem.Challenge.rw_xg0022_01.row.prog w) (lawA fa cd dp un gd L (lawCl c1 c2 c3 c4 c5 c6 c7 c8) outer) (exec (lawSt 1) (lawEnv fa cd L (lawCl c1 c2 c3 c4 c5 c6 c7 c8))) Q (fun _ _ => False) s := by
  have eI : lawSt 1 = lawSt 1 := rfl
  have eS : lawS = lawS := rfl
  conv at eI => lhs; whnf
  conv at eS => lhs; whnf
  rw [← eI]
  unfold lawA lawEnv at *
  rw [← eS]
  clear eI eS
  revert K
  k_fill
  intro K
  k_steps
  rename_i ml h1 F1 N1 l1
  have hml : ∀ b ∈ [c8, c7, c6, c5, c4, c3, c2, c1], @LT.lt Nat _ b ml := by
    obtain ⟨-, a8, a7, a6, a5, a4, a3, a2, a1⟩ := l1
    intro b hb
    simp only [List.mem_cons, List.not_mem_nil, or_false] at hb
    rcases hb with h | h | h | h | h | h | h | h <;> rw [h] <;> assumption
  have U : UpdF c1 o1 ((ml, listOf ([] : List Value).toArray 0) :: (pl, listOf ([] : List Value).toArray 0) :: (c8, o8) :: (c7, o7) :: (c6, o6) :: (c5, o5) :: (c4, o4) :: (c3, o3) :: (c2, o2) :: (c1, o1) :: []) (fun o' => (ml, listOf ([] : List Value).toArray 0) :: (pl, listOf ([] : List Value).toArray 0) :: (c8, o8) :: (c7, o7) :: (c6, o6) :: (c5, o5) :: (c4, o4) :: (c3, o3) :: (c2, o2) :: (c1, o') :: []) :=
    UpdF.tail (Ne.symm (Nat.ne_of_lt (hml c1 (by simp)))) (UpdF.tail (Ne.symm (Nat.ne_of_lt (hpl c1 (by simp)))) (upd_c1 lt))
  refine storeX_C F1 N1 rfl U d1 ?_
  intro h' o' F' N' d'
  exact hQ ml o' h' _ F' N' l1.1 hml d'
theorem stmt10 {m : PySem.Str → Option Value}
   (K : Frag.In (hd.heap_39 w.params) h₀) (B : Below A₀ base outer h₀) (T : Top hd.view_39 theLoose mean mg mb h₀) (hd : dp + 40 < recursionLimit) (hu : un + 400 < cLine)
   (F : Fr h₀ L s.heap m)
   (hQ : ∀ (h' : Heap) (tk' : Nat), Fr h₀ L h' m → Q (.ret (.bool true)) { s with heap := h', toks := tk' })
   : wpAny (model PySem.Challenge.rw_xg0022_01.row.prog w) (lawA fa cd dp un gd L (lawCl c1 c2 c3 c4 c5 c6 c7 c8) outer) (exec (lawSt 10) (lawEnv fa cd L (lawCl c1 c2 c3 c4 c5 c6 c7 c8))) Q (fun _ _ => False) s := by
  have eI : lawSt 10 = lawSt 10 := rfl
  have eS : lawS = lawS := rfl
  conv at eI => lhs; whnf
  conv at eS => lhs; whnf
  rw [← eI]
  unfold lawA lawEnv at *
  rw [← eS]
  clear eI eS
  revert K
  k_fill
  intro K
  k_steps
  exact hQ _ _ F
end
end Mine

namespace Mine
local macro_rules | `(tactic| walk_at "exec While Compare") => `(tactic| (k_dflt (k_extra "my while")))
local macro_rules | `(tactic| walk_at "call ref") => `(tactic| (k_dflt (k_extra "my call")))
local macro_rules | `(tactic| ktr_room) => `(tactic| (show (_ : Nat) < _; (try dsimp only [Around.deeper, Around.in1]); (simp only [rec_is] at *); omega))
local macro_rules | `(tactic| ktr_units) => `(tactic| (show (_ : Nat) < _; (try dsimp only [Around.deeper, Around.in1]); (have hcL9 := cLine_is); omega))
section
variable {w : World} {fa : Addr} {cd : Value} {mean : ExcName → Option Value} {mg mb : PySem.Str → Option Value} {dp un : Nat} {gd : Option (List Code)} {outer : List Env} {A₀ : Around} {base h₀ : Heap} {L : Addr} {s : Shared} {Q : Flow → Shared → Prop} {c1 c2 c3 c4 c5 c6 c7 c8 : Addr} {o1 o2 o3 o4 o5 o6 o7 o8 : Obj}
theorem law_walk {sl : Addr} {svs : List Value} {script : List Int} {u : PySem.Str → Option Value}
   (K : Frag.In (hd.heap_39 w.params) h₀) (B : Below A₀ base outer h₀) (T : Top hd.view_39 theLoose mean mg mb h₀) (hd : dp + 40 < recursionLimit) (hu : un + 400 < cLine)
   (F : Fr h₀ L s.heap (fun y => if y = Str.ofString "script" then some (.ref sl) else u y)) (hs : h₀.IsList sl svs.toArray) (hi : IntsAre svs script) (hs63 : script.length ≤ 63)
   (N : News h₀ L s.heap ((c8, o8) :: (c7, o7) :: (c6, o6) :: (c5, o5) :: (c4, o4) :: (c3, o3) :: (c2, o2) :: (c1, o1) :: [])) (lt : @LT.lt Nat _ c1 c2 ∧ @LT.lt Nat _ c2 c3 ∧ @LT.lt Nat _ c3 c4 ∧ @LT.lt Nat _ c4 c5 ∧ @LT.lt Nat _ c5 c6 ∧ @LT.lt Nat _ c6 c7 ∧ @LT.lt Nat _ c7 c8) (e1 : o1.data = .cell none) (e2 : o2.data = .cell none) (e3 : o3.data = .cell none) (e4 : o4.data = .cell none) (e5 : o5.data = .cell none) (e6 : o6.data = .cell none) (e7 : o7.data = .cell none) (e8 : o8.data = .cell none)
   (hQ : ∀ (h' : Heap) (tk' : Nat) (m' : PySem.Str → Option Value), Fr h₀ L h' m' → Q (.ret (.bool true)) { s with heap := h', toks := tk' })
   : wpAny (model PySem.Challenge.rw_xg0022_01.row.prog w) (lawA fa cd dp un gd L (lawCl c1 c2 c3 c4 c5 c6 c7 c8) outer) (execs lawB (lawEnv fa cd L (lawCl c1 c2 c3 c4 c5 c6 c7 c8))) Q (fun _ _ => False) s := by
  rw [lawB_eq]
  refine wpAny_execs_cons (stmt0 K B T hd hu F N ?_)
  intro pl h1 t1 F1 N1 lpl
  refine wpAny_execs_cons (stmt1 K B T hd hu F1 N1 lt lpl e1 ?_)
  intro ml p1 h2 t2 F2 N2 lpm lml d1
  refine wpAny_execs_cons (loop1 (own := []) K B T hd hu F2 hs hi hs63 N2 (fun p hp => nomatch hp) ⟨lt.1, lt.2.1, lt.2.2.1, lt.2.2.2.1, lt.2.2.2.2.1, lt.2.2.2.2.2.1, lt.2.2.2.2.2.2, lpl c8 (by simp), lpm⟩ d1 ?_)
  intro c u3 h3 t3 ok F3 N3
  obtain ⟨n, en⟩ : ∃ n, n = (script.take 2 ++ [360, 543, 169]).length := ⟨_, rfl⟩
  have hn5 : n ≤ 5 := by rw [en]; simp; omega
  rw [← en] at ok
  have hlen := ok.len
  have hl10 : c.ps.length ≤ 10 := by omega
  have N3' : News h₀ L h3 ((c8, o8) :: (c7, o7) :: (c6, o6) :: (c5, o5) :: (c4, o4) :: (c3, o3) :: (c2, o2) :: (c1, p1) :: (ml, listOf c.mv.toArray c.mn) :: (pl, listOf c.pv.toArray c.pn) :: []) := news_sub N3 (by
    intro q hq
    simp only [List.mem_cons] at hq ⊢
    rcases hq with h | h | h | h | h | h | h | h | h | h | h <;> simp [h])
  have off3 : OwnOff [(ml, listOf c.mv.toArray c.mn), (pl, listOf c.pv.toArray c.pn)] [c8, c7, c6, c5, c4, c3, c2, c1] := by
    intro p hp b hb
    simp only [List.mem_cons, List.not_mem_nil, or_false] at hp
    rcases hp with h | h <;> rw [h]
    · exact Ne.symm (Nat.ne_of_lt (lml b hb))
    · exact Ne.symm (Nat.ne_of_lt (lpl b hb))
  refine wpAny_execs_cons (stmt3 (ps := c.ps) K B T hd hu F3 N3' off3 lt d1 e2 (.head _) ok.mi ok.wheel.lo ok.wheel.hi hl10 ?_)
  intro D ys own4 p2 h4 t4 F4 N4 mo4 off4 hD pa d2
  have hml4 := mo4.sub _ (.head _)
  have hpl4 := mo4.sub _ (.tail _ (.head _))
  refine wpAny_execs_cons (stmt4 (ps := c.ps) (pvs := c.pv) (pn := c.pn) (pl := pl) (u := u3) (k := ys.length) K B T hd hu F4 N4 off4 d2 hD pa hpl4 ok.pi ok.wheel.lo ok.wheel.hi hl10 ?_)
  intro h5 t5 F5 N5
  refine wpAny_execs_cons (stmt5 (n := n) (ps := c.ps) (pvs := c.pv) (pn := c.pn) (pl := pl) (u := u3) K B T hd hu F5 N5 off4 lt e3 hpl4 ok.pi hl10 hlen ?_)
  intro r ta tb tc p3 h6 t6 F6 N6 off6 mo6 d3
  refine wpAny_execs_cons (stmt6 K B T hd hu F6 N6 off6 lt e4 ?_)
  intro cr p4 h7 t7 F7 N7 offcr hcr d4
  have off7 : OwnOff ((r, rgObj 0 n ta tb tc) :: own4) [cr, c8, c7, c6, c5, c4, c3, c2, c1] := fun p hp b hb => by
    rcases List.mem_cons.mp hb with e | hb
    · rw [e]; exact offcr p hp _ (.head _)
    · exact off6 p hp b hb
  refine wpAny_execs_cons (stmt7 (ys := ys) (kk := ys.length) (ps := c.ps) (n := n) K B T hd hu F7 N7 off7 hcr lt d2 d3 d4 e5 e6 (.tail _ hD) (.head _) (pa.mono fun p hp => .tail _ hp) ok.wheel.lo ok.wheel.hi hl10 hlen ?_)
  intro m8 led h8 t8 inv F8 N8
  obtain ⟨cvs, cn, nss, ex, q5, q6, rfl, f5, f6, mo8, off8, nst, -, cis, cl, em⟩ := inv
  refine wpAny_execs_cons (stmt8 (ps := c.ps) (n := n) K B T hd hu F8 N8 off8 hcr lt d3 d4 e7 (mo8.sub _ (.head _)) nst cis hn5 ?_)
  intro tl tvs p7 h9 t9 hti F9 N9 d7 hTc hTo
  have N9' : News h₀ L h9 ((c8, o8) :: (c7, p7) :: (c6, q6) :: (c5, q5) :: (c4, p4) :: (c3, p3) :: (c2, p2) :: (c1, p1) :: (tl, LCg.lst tvs) :: ex) := news_sub N9 (mv_in (l := (c8, o8) :: (c7, p7) :: (c6, q6) :: (c5, q5) :: (c4, p4) :: (c3, p3) :: (c2, p2) :: (c1, p1) :: []))
  have off9 := off_cons (off_less off8) (o := LCg.lst tvs) hTc
  refine wpAny_execs_cons (stmt9 (ps := c.ps) (n := n) (ml := ml) (mvs := c.mv) (mn := c.mn) (tl := tl) (tvs := tvs) (tn := tvs.length) K B T hd hu F9 N9' off9 lt d1 d3 d7 e8 (.tail _ (mo8.sub _ (.head _))) (.tail _ (mo8.sub _ (.tail _ hml4))) ok.mi (.head _) hti hn5 hlen ok.wheel.nodup (fun c' hc' => cohn ok.wheel hlen hn5 hc') ?_)
  intro m10 h10 t10 F10
  refine wpAny_execs_cons (stmt10 K B T hd hu F10 ?_)
  intro h11 t11 F11
  exact hQ h11 t11 _ F11
end
end Mine

namespace Mine
theorem lt8 (L : Nat) : @LT.lt Nat _ (L + 1) (L + 1 + 1) ∧ @LT.lt Nat _ (L + 1 + 1) (L + 1 + 1 + 1) ∧ @LT.lt Nat _ (L + 1 + 1 + 1) (L + 1 + 1 + 1 + 1) ∧ @LT.lt Nat _ (L + 1 + 1 + 1 + 1) (L + 1 + 1 + 1 + 1 + 1) ∧ @LT.lt Nat _ (L + 1 + 1 + 1 + 1 + 1) (L + 1 + 1 + 1 + 1 + 1 + 1) ∧ @LT.lt Nat _ (L + 1 + 1 + 1 + 1 + 1 + 1) (L + 1 + 1 + 1 + 1 + 1 + 1 + 1) ∧ @LT.lt Nat _ (L + 1 + 1 + 1 + 1 + 1 + 1 + 1) (L + 1 + 1 + 1 + 1 + 1 + 1 + 1 + 1) := by omega
theorem cohnTop : PySem.Challenge.rw_xg0022_01.Holds := by
  refine hd ?_
  k_go0
  rename_i F w8 w7 w6 w5 w4 w3 w2 w1 l8 l7 l6 l5 l4 l3 l2 r1 N0 X0
  rename Frag.In _ _ => KX
  rename Below _ _ _ _ => K0
  rename Top _ _ _ _ _ _ => TT
  rename IntsAre _ _ => II
  rename Heap.IsList _ _ _ => HL
  rename ¬ (_ < _) => HC
  refine wpAny_mono (law_walk (c1 := _ + 1) (c2 := _ + 1 + 1) KX K0 TT (by decide +kernel) (by rw [cLine_is]; decide +kernel) F HL II (by omega) N0 (lt8 _) r1 l2 l3 l4 l5 l6 l7 l8 ?_) (fun _ _ q => q) fun _ _ f => f.elim
  intro h' tk' m' F9
  clear F l8 l7 l6 l5 l4 l3 l2 r1 N0 X0
  show GoodW _ _ _ _ _ (Except.ok (Flow.ret (Value.bool true))) _
  k_steps
end Mine

theorem PySem.Challenge.cw_xg0022_01_holds : PySem.Challenge.rw_xg0022_01.Holds := by
  exact Mine.cohnTop
