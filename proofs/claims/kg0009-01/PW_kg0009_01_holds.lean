import PyProof.Rows.All
import Wide.All
import OpenK.AllK
import Wide.FinOn
import PySem.Challenge.RW_kg0009_01
open PySem PySem.W PyProof.Rows
set_option Elab.async false

/-! Part 1, the plain law: what the function hands back is the nearest int, the even one of two; there is but one such. -/
namespace Mine

/-- what the function hands back -/
def dr (a b : Int) : Int :=
  if ((0 < b ∧ b < a.fmod b * 2) ∨ (¬ 0 < b ∧ a.fmod b * 2 < b)) ∨ (a.fmod b * 2 = b ∧ (a.fdiv b).fmod 2 = 1) then a.fdiv b + 1 else a.fdiv b

theorem bits_dr {a b : Int} {m : Nat} (ha : PySem.Builtin.Int.intBits a ≤ m) : PySem.Builtin.Int.intBits (dr a b) ≤ max m 1 + 1 := by
  have h0 : PySem.Builtin.Int.intBits (a.fdiv b) ≤ m := bits_fdiv ha
  unfold dr
  split
  · exact bits_add h0 (show PySem.Builtin.Int.intBits 1 ≤ 1 by decide)
  · exact Nat.le_trans h0 (by omega)

/-- e is a nearest int to a / b, and the even one of two -/
def Near (a b e : Int) : Prop :=
  (0 < b → -b ≤ 2 * (e * b - a) ∧ 2 * (e * b - a) ≤ b) ∧ (b < 0 → b ≤ 2 * (e * b - a) ∧ 2 * (e * b - a) ≤ -b) ∧
  (2 * (e * b - a) = b ∨ 2 * (e * b - a) = -b → e % 2 = 0)

theorem fmod_two (q : Int) : q.fmod 2 = q % 2 := Int.fmod_eq_emod_of_nonneg q (by decide)

theorem dr_near {a b : Int} (hb : b ≠ 0) : Near a b (dr a b) := by
  have f := fdiv_fmod_facts a b
  have f1 := f.1
  have f2 := f.2.2.1
  have f3 := f.2.2.2
  have f4 := hb
  unfold Near dr
  rw [fmod_two]
  generalize a.fdiv b = q at *
  generalize a.fmod b = r at *
  split
  · rename_i h
    rw [Int.add_mul, Int.one_mul]
    generalize q * b = p at *
    omega
  · rename_i h
    generalize q * b = p at *
    omega

theorem uniq_pos {a b e e' : Int} (hb : 0 < b) (hlt : e < e') (h : Near a b e) (h' : Near a b e') : False := by
  have k := Int.mul_le_mul_of_nonneg_right (show e + 1 ≤ e' by omega) (Int.le_of_lt hb)
  rw [Int.add_mul, Int.one_mul] at k
  have k2 : e + 2 ≤ e' → e * b + 2 * b ≤ e' * b := fun h2 => by
    have k := Int.mul_le_mul_of_nonneg_right h2 (Int.le_of_lt hb)
    rw [Int.add_mul] at k
    exact k
  unfold Near at h h'
  generalize e * b = p at *
  generalize e' * b = p' at *
  omega

theorem Near.turn {a b e : Int} (h : Near a b e) : Near (0 - a) (0 - b) e := by
  have k : e * (0 - b) = 0 - e * b := by rw [Int.mul_sub e, Int.mul_zero]
  unfold Near at *
  rw [k]
  generalize e * b = p at *
  omega
theorem Near.turnA {a b e : Int} (h : Near a b e) : Near (0 - a) b (0 - e) := by
  have k : (0 - e) * b = 0 - e * b := by rw [Int.sub_mul, Int.zero_mul]
  unfold Near at *
  rw [k]
  generalize e * b = p at *
  omega
theorem Near.turnB {a b e : Int} (h : Near a b e) : Near a (0 - b) (0 - e) := by
  have k : (0 - e) * (0 - b) = e * b := by rw [Int.zero_sub, Int.zero_sub, Int.neg_mul_neg]
  unfold Near at *
  rw [k]
  generalize e * b = p at *
  omega

theorem uniq {a b e e' : Int} (hb : b ≠ 0) (h : Near a b e) (h' : Near a b e') : e = e' := by
  rcases Int.lt_trichotomy e e' with hlt | heq | hgt
  · exfalso
    rcases (show 0 < b ∨ 0 < 0 - b by omega) with hp | hn
    · exact uniq_pos hp hlt h h'
    · exact uniq_pos hn hlt h.turn h'.turn
  · exact heq
  · exfalso
    rcases (show 0 < b ∨ 0 < 0 - b by omega) with hp | hn
    · exact uniq_pos hp hgt h' h
    · exact uniq_pos hn hgt h'.turn h.turn

theorem dr_both {a b : Int} (hb : b ≠ 0) : dr (0 - a) (0 - b) = dr a b :=
  uniq (by omega) (dr_near (by omega)) (dr_near hb).turn
theorem dr_first {a b : Int} (hb : b ≠ 0) : dr (0 - a) b = 0 - dr a b :=
  uniq hb (dr_near hb) (dr_near hb).turnA
theorem dr_second {a b : Int} (hb : b ≠ 0) : dr a (0 - b) = 0 - dr a b :=
  uniq (by omega) (dr_near (by omega)) (dr_near hb).turnB
end Mine

/-! Part 2, the walk: the script's two numbers; the four calls, each joined into one value. -/
namespace Mine
theorem two_of' {ws : List Value} {a b : Int} (h : IntsAre ws [a, b]) : ∃ t u, ws = [.int a t, .int b u] := by
  obtain ⟨t, vs, e1, h1⟩ := h.cons_inv
  obtain ⟨u, us, e2, h2⟩ := h1.cons_inv
  have e3 := h2.nil_inv
  subst e3 e2 e1
  exact ⟨t, u, rfl⟩
theorem take_two (ns : List Int) : List.take 2 (ns ++ [0, 0]) = [ns.getD 0 0, ns.getD 1 0] := by
  match ns with
  | [] => rfl
  | [a] => rfl
  | a :: b :: r => rfl
theorem two_of {ws : List Value} {ns : List Int} (h : IntsAre ws (List.take 2 (ns ++ [0, 0]))) :
    ∃ t u, ws = [.int (ns.getD 0 0) t, .int (ns.getD 1 0) u] := by
  rw [take_two] at h
  exact two_of' h
end Mine
local macro_rules | `(tactic| walk_at "assign Tuple") => `(tactic| (k_here; (rename IntsAre _ (List.take 2 (_ ++ [0, 0])) => cut'); (obtain ⟨t8, u8, e8⟩ := Mine.two_of cut'); clear cut'; subst e8; walk_at "assign Tuple"))
namespace Mine
def Seen (a b : Int) : Prop := a = a ∧ b = b
abbrev Room (a b : Int) : Prop := (0 < b → 0 ≤ a.fmod b ∧ a.fmod b < b) ∧ (b < 0 → b < a.fmod b ∧ a.fmod b ≤ 0)
theorem room (a b : Int) : Room a b := ⟨(fdiv_fmod_facts a b).2.2.1, (fdiv_fmod_facts a b).2.2.2⟩
theorem dr_up {a b : Int} (h : (0 < b → 0 ≤ a.fmod b ∧ a.fmod b < b) → (b < 0 → b < a.fmod b ∧ a.fmod b ≤ 0) → ((0 < b ∧ b < a.fmod b * 2) ∨ (¬ 0 < b ∧ a.fmod b * 2 < b)) ∨ (a.fmod b * 2 = b ∧ (a.fdiv b).fmod 2 = 1)) : dr a b = a.fdiv b + 1 := if_pos (h (room a b).1 (room a b).2)
theorem dr_stays {a b : Int} (h : (0 < b → 0 ≤ a.fmod b ∧ a.fmod b < b) → (b < 0 → b < a.fmod b ∧ a.fmod b ≤ 0) → ¬ (((0 < b ∧ b < a.fmod b * 2) ∨ (¬ 0 < b ∧ a.fmod b * 2 < b)) ∨ (a.fmod b * 2 = b ∧ (a.fdiv b).fmod 2 = 1))) : dr a b = a.fdiv b := if_neg (h (room a b).1 (room a b).2)

theorem join {M : Model} {A : Around} {E : Value → Shared → Prop} {Q : Value → Shared → Prop} {s : Shared} {h₀ : Heap} {L : Addr} {m : Str → Option Value} {news : List (Addr × Obj)} {f : Addr} {a b : Int} {t u : Tok}
    (F : Fr h₀ L s.heap m) (N : News h₀ L s.heap news)
    (hc : KPfMark → wpAny M A (call (.ref f) [.int a t, .int b u]) (fun v s₂ => KCj (fun (x : Int) (k : Tok) => Value.int x k) h₀ L m news s (dr a b) v s₂) E s)
    (hk : ∀ (k : Tok) (h : Heap) (tk : Nat), Fr h₀ L h m → News h₀ L h news → Q (.int (dr a b) k) { s with heap := h, toks := tk }) :
    wpAny M A (call (.ref f) [.int a t, .int b u]) Q E s :=
  kcj (fun (x : Int) (k : Tok) => Value.int x k) (fun _ => dr a b) F N (fun _ h => hc h) hk
/-- the first call: what is known of its value comes along -/
theorem joinFirst {M : Model} {A : Around} {E : Value → Shared → Prop} {Q : Value → Shared → Prop} {s : Shared} {h₀ : Heap} {L : Addr} {m : Str → Option Value} {news : List (Addr × Obj)} {f : Addr} {a b : Int} {t u : Tok}
    (F : Fr h₀ L s.heap m) (N : News h₀ L s.heap news) (hb : b ≠ 0)
    (hc : KPfMark → wpAny M A (call (.ref f) [.int a t, .int b u]) (fun v s₂ => KCj (fun (x : Int) (k : Tok) => Value.int x k) h₀ L m news s (dr a b) v s₂) E s)
    (hk : ∀ (k : Tok) (h : Heap) (tk : Nat), Fr h₀ L h m → News h₀ L h news → Seen a b →
      (0 < b → -b ≤ 2 * (dr a b * b - a) ∧ 2 * (dr a b * b - a) ≤ b) → (b < 0 → b ≤ 2 * (dr a b * b - a) ∧ 2 * (dr a b * b - a) ≤ -b) →
      (2 * (dr a b * b - a) = b ∨ 2 * (dr a b * b - a) = -b → (dr a b).fmod 2 = 0) →
      dr (0 - a) (0 - b) = dr a b → dr (0 - a) b = 0 - dr a b → dr a (0 - b) = 0 - dr a b → Q (.int (dr a b) k) { s with heap := h, toks := tk }) :
    wpAny M A (call (.ref f) [.int a t, .int b u]) Q E s :=
  join F N hc fun k h tk F' N' => hk k h tk F' N' ⟨rfl, rfl⟩ (dr_near hb).1 (dr_near hb).2.1 (fun h => by rw [fmod_two]; exact (dr_near hb).2.2 h) (dr_both hb) (dr_first hb) (dr_second hb)
end Mine
local macro_rules | `(tactic| bits_by_make) => `(tactic| ((with_reducible apply Mine.bits_dr); bits_by_make))
local macro_rules | `(tactic| walk_at "KCj") => `(tactic| ((refine kcj_end ?kce (by with_unfolding_all rfl) rfl (by assumption) (by assumption) (by kcj_all)); (case kce => first | (refine Mine.dr_up (fun rm1' rm2' => ?_); omega) | (refine Mine.dr_stays (fun rm1' rm2' => ?_); omega))))
local macro_rules | `(tactic| walk_at "call ref") => `(tactic| (k_here; (with_reducible show wpAny _ _ (call (Value.ref _) [Value.int _ _, Value.int _ _]) _ _ _); (fail_if_success (rename KPfMark => x9)); (rename Mine.Seen _ _ => sn'); refine' Mine.join ?k1 ?k2 ?_ (fun k' h' tk' F' N' => ?_); (case k1 => k_asm); (case k2 => k_asm); (rename ((0 : Int) < _ → _ ≤ 2 * (Mine.dr _ _ * _ - _) ∧ _) => g1'); (rename (_ < (0 : Int) → _ ≤ 2 * (Mine.dr _ _ * _ - _) ∧ _) => g2'); (rename (_ ∨ _ → (Mine.dr _ _).fmod 2 = 0) => g3'); (rename (Mine.dr (0 - _) (0 - _) = Mine.dr _ _) => g4'); (rename (Mine.dr (0 - _) _ = 0 - Mine.dr _ _) => g5'); (rename (Mine.dr _ (0 - _) = 0 - Mine.dr _ _) => g6'); clear g1' g2' g3' g4' g5' g6'; intro hMark'; (all_goals (try k_fold))))
local macro_rules | `(tactic| walk_at "call ref") => `(tactic| (k_here; (with_reducible show wpAny _ _ (call (Value.ref _) [Value.int _ _, Value.int _ _]) _ _ _); (fail_if_success (rename KPfMark => x9)); (fail_if_success (rename Mine.Seen _ _ => x9)); refine' Mine.joinFirst ?k1 ?k2 ?k3 (fun hMark' => ?_) (fun k' h' tk' F' N' sn' f1' f2' f3' f4' f5' f6' => ?_); (case k1 => k_asm); (case k2 => k_asm); (case k3 => first | decide | omega); (all_goals (try k_fold))))

set_option maxRecDepth 100000 in
set_option maxHeartbeats 8000000 in
theorem PySem.Challenge.cw_kg0009_01_holds : PySem.Challenge.rw_kg0009_01.Holds := by
  open_k
