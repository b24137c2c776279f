import PyProof.Rows.All
import Wide.All
import OpenK.AllK
import Wide.FinOn
import Lean
import PySem.Challenge.RW_sr0069_01

section
open PySem PySem.W PyProof.Rows
set_option Elab.async false
set_option maxRecDepth 100000
set_option maxHeartbeats 8000000
namespace Mine
/-- the program under a name of our own: the head's quick form of it -/
noncomputable def pre.tw11093886942007655425 : Program := PySem.Challenge.pw_sr0069_01
theorem pre.te11093886942007655425 : PySem.Challenge.pw_sr0069_01 = pre.tw11093886942007655425 := rfl
set_option Elab.async true in
theorem pre : (!PySem.Challenge.pw_sr0069_01.main.body.isEmpty) = true := by k_qdec
theorem pre_done : True := trivial
open_top hd for PySem.Challenge.rw_sr0069_01
/-- the head has turned the top's lines on: off again for the functions -/
theorem walk_off : True := by
  w_top off
  trivial
end Mine
end
section
open PySem PySem.W PyProof PyProof.Rows PySem.Spec PySem.Calls
set_option Elab.async false
set_option maxRecDepth 100000
set_option maxHeartbeats 8000000
namespace Mine
abbrev PG : Program := PySem.Challenge.rw_sr0069_01.row.prog
noncomputable abbrev KK (w : World) : Frag := Mine.hd.heap_39 w.params

theorem ne_all {l : List (Addr × Obj)} {c d : Nat} (h : ∀ p ∈ l, p.1 < c) (k : c ≤ d) : ∀ p ∈ l, p.1 ≠ d := fun p hp => Nat.ne_of_lt (Nat.lt_of_lt_of_le (h p hp) k)
theorem of_allLt {c : Nat} : ∀ {l : List (Addr × Obj)}, AllLt c l → ∀ p ∈ l, p.1 < c
  | [], _, _, hp => (nomatch hp)
  | q :: r, h, p, hp => by
    rcases List.mem_cons.mp hp with rfl | hp
    · exact h.1
    · exact of_allLt h.2 p hp
theorem ne_allLt {l : List (Addr × Obj)} {c d : Nat} (h : AllLt c l) (k : c ≤ d) : ∀ p ∈ l, p.1 ≠ d := ne_all (of_allLt h) k

/-- what the walk needs of a caller -/
structure Site (w : World) (p : Program) (loose : List Str) (mean : ExcName → Option Value) (mg mb : Str → Option Value) (cs : Scope) (A₀ : Around) (base : Heap) (outer : List Env) (h₀ : Heap) : Prop where
  below : Below A₀ base outer h₀
  ground : (Mine.hd.heap_39 w.params).In h₀
  top : Top p loose mean mg mb h₀
  kind : cs.kind = .function

abbrev tupOf (its : Array Value) (n : Nat) : Obj := { cls := .type "tuple", data := .seq its n }

section
variable {w : World} {p : Program} {loose : List Str} {mean : ExcName → Option Value} {mg mb : Str → Option Value} {dp un : Nat} {gd : Option (List Code)} {cn : Str} {cs : Scope} {a : Addr} {ccd : Value} {cl : List (Str × Addr)} {outer : List Env} {A₀ : Around} {base h₀ : Heap} {L : Addr} {m : Str → Option Value} {news : List (Addr × Obj)} {s : Shared} {Q E : Value → Shared → Prop}

theorem c_div2 {x y n : Int} {t1 t2 t3 : Tok} (S : Site w p loose mean mg mb cs A₀ base outer h₀) (F : Fr h₀ L s.heap m) (N : News h₀ L s.heap news) (hdp : dp + 1 < recursionLimit)
    (hy : y ≠ 0) (hlog : y.natAbs.log2 < 9000) (hfit : (Builtin.Int.intBits x : Int) - n ≤ 4000)
    (hret : ∀ tk' h' r t t', Fr h₀ L h' m → News h₀ L h' ((r, tupOf #[.int (x.fdiv y) t, .int (x.fmod y) t'] 0) :: news) → (∀ p ∈ news, p.1 < r) → Q (.ref r) {s with heap := h', toks := tk'}) :
    wpAny (model PG w) (ktrTop dp un gd cn cs L a ccd cl outer) (call (.ref 42) [.int x t1, .int y t2, .int n t3]) Q E s := by
  obtain ⟨B, X, T, hk⟩ := S
  have HH : PySem.Challenge.rw_sr0069_01.row.prog = PG ∧ Mine.hd.heap_39 = Mine.hd.heap_39 := ⟨rfl, rfl⟩
  revert HH
  k_fill
  intro HH
  clear HH
  refine wpAny_call ?_
  k_dflt ktr_enter
  k_steps
  · rename News _ _ _ _ => NN
    have hlt := fun p hp => Heap.lt_size (NN p hp).1
    refine divmod_N (by assumption) (by assumption) hy ?_ (Or.inl (noPylong_of_log2 hlog))
    intro h9 F9 N9
    k_steps
    exact hret _ _ _ _ _ (by assumption) (by assumption) hlt
end
end Mine
end
open PySem PySem.W PyProof PyProof.Rows PySem.Spec PySem.Calls
set_option Elab.async false
set_option maxRecDepth 100000
set_option maxHeartbeats 8000000
namespace Mine
local macro_rules | `(tactic| walk_at $s:str) => `(tactic| k_extra $s)
local macro_rules | `(tactic| k_all) => `(tactic| k_extra "k all")
local macro_rules | `(tactic| k_mem) => `(tactic| assumption)
local macro_rules | `(tactic| is_list) => `(tactic| k_extra "is list")
local macro_rules | `(tactic| mul_fits) => `(tactic| k_extra "mul fits")
local macro_rules | `(tactic| omega) => `(tactic| k_extra "omega")
/-- the walk's rows for the lemmas below -/
theorem k_rows : True := by
  k_with_none
  k_with "k all" => (first | exact ne_all (by assumption) (by omega) | exact ne_allLt (by assumption) (by omega) | exact ne_allLt (And.right (by assumption)) (by omega) | exact ne_allLt (And.right (And.right (by assumption))) (by omega) | exact ne_allLt (And.right (And.right (And.right (by assumption)))) (by omega) | exact ne_allLt (And.right (And.right (And.right (And.right (by assumption))))) (by omega) | assumption)
  k_with "is list" => (exact News.isList (by assumption) (by k_mem))
  k_with "mul fits" => (first | exact PySem.IntMulOk.of_right (Mine.fit8 (by with_reducible assumption)) | exact PySem.IntMulOk.of_left (Mine.fit8 (by with_reducible assumption)) | exact PySem.IntMulOk.of_left (Mine.fitL (by decide)) | exact PySem.IntMulOk.of_right (Mine.fitL (by decide)))
  k_with "omega" => (first | with_reducible assumption | exact Mine.rl1 (by with_reducible assumption) (by decide) | exact Mine.rl2 (by with_reducible assumption) (by decide) | exact Mine.rl0 (by with_reducible assumption) | decide | (law_clear; law_purse 20000 => lia))
  trivial
section
theorem fit8 {a : Nat} (h : a < 8) : Builtin.Int.intBits (a : Int) ≤ 64 := intBits_le_iff.mpr (show a < 2 ^ 64 from Nat.lt_of_lt_of_le h (by decide))
theorem fitL {k : Int} (h : k.natAbs < 2 ^ 64) : Builtin.Int.intBits k ≤ 64 := intBits_le_iff.mpr h
theorem mem_ca {x q : Addr × Obj} {fr T S : List (Addr × Obj)} (hq : q ∈ x :: (fr ++ T)) (hx : x ∈ S) (hF : ∀ q ∈ fr, q ∈ S) (hT : ∀ q ∈ T, q ∈ S) : q ∈ S :=
  (List.mem_cons.mp hq).elim (fun e => e ▸ hx) fun hq => (List.mem_append.mp hq).elim (hF q) (hT q)
theorem rl0 {x k n : Nat} (h : x + k < n) : x < n := Nat.lt_of_le_of_lt (Nat.le_add_right x k) h
theorem rl1 {x j k n : Nat} (h : x + k < n) (hj : j ≤ k) : x + j < n := Nat.lt_of_le_of_lt (Nat.add_le_add_left hj x) h
theorem rl2 {x i j k n : Nat} (h : x + k < n) (hj : i + j ≤ k) : x + i + j < n := Nat.add_assoc x i j ▸ rl1 h hj
/-- the goal behind a name, while many parts are taken -/
theorem opG {P : Prop} (h : ∀ G : Prop, (P → G) → G) : P := h P id
/-- many parts taken at once -/
theorem ex4a8 {α1 α2 α3 α4 : Type} {p1 p2 p3 p4 p5 p6 p7 p8 : α1 → α2 → α3 → α4 → Prop} {G : Prop} (h : ∃ x1 x2 x3 x4, p1 x1 x2 x3 x4 ∧ p2 x1 x2 x3 x4 ∧ p3 x1 x2 x3 x4 ∧ p4 x1 x2 x3 x4 ∧ p5 x1 x2 x3 x4 ∧ p6 x1 x2 x3 x4 ∧ p7 x1 x2 x3 x4 ∧ p8 x1 x2 x3 x4) (k : ∀ x1 x2 x3 x4, p1 x1 x2 x3 x4 → p2 x1 x2 x3 x4 → p3 x1 x2 x3 x4 → p4 x1 x2 x3 x4 → p5 x1 x2 x3 x4 → p6 x1 x2 x3 x4 → p7 x1 x2 x3 x4 → p8 x1 x2 x3 x4 → G) : G := h.elim fun x1 h => h.elim fun x2 h => h.elim fun x3 h => h.elim fun x4 h => k x1 x2 x3 x4 h.1 h.2.1 h.2.2.1 h.2.2.2.1 h.2.2.2.2.1 h.2.2.2.2.2.1 h.2.2.2.2.2.2.1 h.2.2.2.2.2.2.2
section
variable {w : World} {p : Program} {loose : List Str} {mean : ExcName → Option Value} {mg mb : Str → Option Value} {dp un : Nat} {gd : Option (List Code)} {cn : Str} {cs : Scope} {a : Addr} {ccd : Value} {cl : List (Str × Addr)} {outer : List Env} {A₀ : Around} {base h₀ : Heap} {L : Addr} {m : Str → Option Value} {news : List (Addr × Obj)} {s : Shared} {Q E : Value → Shared → Prop}

def TabO (q : Str) (ln co : Nat) (o : Obj) (rest : List (Addr × Obj)) : Prop :=
  o = tabObj #[] ∨ ∃ (c' : Addr) (oc : Obj) (vs : Array Value) (tk : Tok), o = tabObj #[rawInt ln, rawInt co, .ref c'] ∧ (c', oc) ∈ rest ∧ oc.data = .fields vs ∧ vs[1]? = some (.str q tk)
def qI : Str := Str.ofString "_int2digits" ++ Str.ofString ".<locals>." ++ Str.ofString "inner"
def qD : Str := Str.ofString "_digits2int" ++ Str.ofString ".<locals>." ++ Str.ofString "inner"
/-- the two code tables and what they name -/
def TabL (T : List (Addr × Obj)) : Prop :=
  ∃ o1 o2 rest, T = (51, o1) :: (58, o2) :: rest ∧ (∀ p ∈ rest, p.1 ≠ 51 ∧ p.1 ≠ 58) ∧ TabO qI 59 4 o1 rest ∧ TabO qD 74 4 o2 rest
def Ap (fr : List (Addr × Obj)) : Prop := ∀ p ∈ fr, p.1 ≠ 51 ∧ p.1 ≠ 58

theorem updF_app {d : Addr} {o : Obj} {r : List (Addr × Obj)} {g : Obj → List (Addr × Obj)} (U : UpdF d o r g) : ∀ {fr : List (Addr × Obj)}, (∀ p ∈ fr, p.1 ≠ d) → UpdF d o (fr ++ r) (fun o' => fr ++ g o')
  | [], _ => U
  | q :: fr, h => UpdF.tail (h q (.head _)) (updF_app U fun p hp => h p (.tail _ hp))
theorem News.sub {h : Heap} {l l' : List (Addr × Obj)} (N : News h₀ L h l) (hs : ∀ p ∈ l', p ∈ l) : News h₀ L h l' := fun p hp => N p (hs p hp)
theorem TabO.more {q : Str} {ln co : Nat} {o : Obj} {rest : List (Addr × Obj)} (x : TabO q ln co o rest) (e : Addr × Obj) : TabO q ln co o (e :: rest) := by
  rcases x with x | ⟨c', oc, vs, tk, h1, h2, h3⟩
  · exact .inl x
  · exact .inr ⟨c', oc, vs, tk, h1, .tail _ h2, h3⟩

theorem nestI {M : Model} {A : Around} {name qual : Str} {params : Arguments} {body : List Stmt} {scope : Scope} {clos : List (Str × Addr)} {pos : Pos} {firstLine : Nat} {fr T : List (Addr × Obj)}
    (F : Fr h₀ L s.heap m) (N : News h₀ L s.heap (fr ++ T)) (TT : TabL T) (hfr : Ap fr) (Tp : Top p loose mean mg mb h₀) (C : CodeHd h₀ 55 51) (hcd : ccd = .ref 55) (hcl : closureFor scope (envX cn cs L a ccd cl) = pure clos)
    (hl : pos.line = 59) (hc : pos.col = 4) (hq : qual = qI)
    (h : ∀ f c' oc vs t ctv doc h' tk T', Fr h₀ L h' m → News h₀ L h' ((f, fnMade name qual params body scope clos doc ((mg "__name__").getD .none) c' ctv) :: (fr ++ T')) → TabL T' → (c', oc) ∈ T' → oc.data = .fields vs → vs[1]? = some (.str qual t) → (∀ q ∈ fr, q.1 < f) → (∀ e ∈ fr, (∀ q ∈ T, q.1 ≠ e.1) → ∀ q ∈ T', q.1 ≠ e.1) → Q (.ref f) {s with heap := h', toks := tk}) :
    wpAny M A (makeFunction name qual params (.stmts body) scope (envX cn cs L a ccd cl) [] [] [] pos firstLine) Q E s := by
  obtain ⟨o1, o2, rest, rfl, hrest, h1, h2⟩ := TT
  rcases h1 with rfl | ⟨c', oc, vs, tk, rfl, hm, hd, hv⟩
  · have U : UpdF 51 (tabObj #[]) (fr ++ (51, tabObj #[]) :: (58, o2) :: rest) (fun o' => fr ++ (51, o') :: (58, o2) :: rest) :=
      updF_app (.head (fun p hp => by
        rcases List.mem_cons.mp hp with rfl | hp
        · exact (show (58 : Nat) ≠ 51 by decide)
        · exact (hrest p hp).1)) fun p hp => (hfr p hp).1
    refine nest_K F N Tp C hcd U trivial rfl hcl fun f c' oc vs t ctv doc h' tk F' N' hd hv hlt hlf => ?_
    have e : (tabObj (#[] ++ #[rawInt pos.line, rawInt pos.col, Value.ref c'])) = tabObj #[rawInt (59 : Nat), rawInt (4 : Nat), .ref c'] := by rw [hl, hc]; rfl
    rw [e] at N'
    have l51 : 51 < c' := hlt (51, tabObj #[]) (List.mem_append_right _ (.head _))
    have l58 : 58 < c' := hlt (58, o2) (List.mem_append_right _ (.tail _ (.head _)))
    refine h f c' oc vs t ctv doc h' tk ((51, tabObj #[rawInt (59 : Nat), rawInt (4 : Nat), .ref c']) :: (58, o2) :: (c', oc) :: rest) F' (News.sub N' ?_) ⟨_, _, _, rfl, ?_, .inr ⟨c', oc, vs, t, rfl, .head _, hd, hq ▸ hv⟩, h2.more _⟩ (.tail _ (.tail _ (.head _))) hd hv ?_ ?_
    · intro q hq
      exact mem_ca hq (.head _) (fun q h => .tail _ (.tail _ (List.mem_append_left _ h))) (List.forall_mem_cons.mpr ⟨.tail _ (.tail _ (List.mem_append_right _ (.head _))), List.forall_mem_cons.mpr ⟨.tail _ (.tail _ (List.mem_append_right _ (.tail _ (.head _)))), List.forall_mem_cons.mpr ⟨.tail _ (.head _), fun q h => .tail _ (.tail _ (List.mem_append_right _ (.tail _ (.tail _ h))))⟩⟩⟩)
    · intro q hq
      rcases List.mem_cons.mp hq with rfl | hq
      · exact ⟨Nat.ne_of_gt l51, Nat.ne_of_gt l58⟩
      · exact hrest q hq
    · intro q hq
      exact Nat.lt_trans (hlt q (List.mem_append_left _ hq)) hlf
    · intro e he hT q hq
      simp only [List.mem_cons] at hq
      rcases hq with rfl | rfl | rfl | hq
      · exact hT (51, tabObj #[]) (.head _)
      · exact hT (58, _) (.tail _ (.head _))
      · exact fun q => Nat.lt_irrefl _ (Nat.lt_of_lt_of_eq (hlt e (List.mem_append_left _ he)) q)
      · exact hT q (.tail _ (.tail _ hq))
  · refine nestHit_K (c' := c') F N Tp C hcd (List.mem_append_right _ (.head _)) (by simp [TriplesOk, rawInt]) (by simp [codeAmong, rawInt, hl, hc]) hcl fun f ctv doc h' tk' F' N' hlt => ?_
    exact h f c' oc vs tk ctv doc h' tk' _ F' N' ⟨_, _, _, rfl, hrest, .inr ⟨c', oc, vs, tk, rfl, hm, hd, hv⟩, h2⟩ (.tail _ (.tail _ hm)) hd (hq ▸ hv) (fun q hq => hlt q (List.mem_append_left _ hq)) (fun _ _ h => h)

theorem nestD {M : Model} {A : Around} {name qual : Str} {params : Arguments} {body : List Stmt} {scope : Scope} {clos : List (Str × Addr)} {pos : Pos} {firstLine : Nat} {fr T : List (Addr × Obj)}
    (F : Fr h₀ L s.heap m) (N : News h₀ L s.heap (fr ++ T)) (TT : TabL T) (hfr : Ap fr) (Tp : Top p loose mean mg mb h₀) (C : CodeHd h₀ 62 58) (hcd : ccd = .ref 62) (hcl : closureFor scope (envX cn cs L a ccd cl) = pure clos)
    (hl : pos.line = 74) (hc : pos.col = 4) (hq : qual = qD)
    (h : ∀ f c' oc vs t ctv doc h' tk T', Fr h₀ L h' m → News h₀ L h' ((f, fnMade name qual params body scope clos doc ((mg "__name__").getD .none) c' ctv) :: (fr ++ T')) → TabL T' → (c', oc) ∈ T' → oc.data = .fields vs → vs[1]? = some (.str qual t) → (∀ q ∈ fr, q.1 < f) → (∀ e ∈ fr, (∀ q ∈ T, q.1 ≠ e.1) → ∀ q ∈ T', q.1 ≠ e.1) → Q (.ref f) {s with heap := h', toks := tk}) :
    wpAny M A (makeFunction name qual params (.stmts body) scope (envX cn cs L a ccd cl) [] [] [] pos firstLine) Q E s := by
  obtain ⟨o1, o2, rest, rfl, hrest, h1, h2⟩ := TT
  rcases h2 with rfl | ⟨c', oc, vs, tk, rfl, hm, hd, hv⟩
  · have U : UpdF 58 (tabObj #[]) (fr ++ (51, o1) :: (58, tabObj #[]) :: rest) (fun o' => fr ++ (51, o1) :: (58, o') :: rest) :=
      updF_app (.tail (show (51 : Nat) ≠ 58 by decide) (.head (fun p hp => (hrest p hp).2))) fun p hp => (hfr p hp).2
    refine nest_K F N Tp C hcd U trivial rfl hcl fun f c' oc vs t ctv doc h' tk F' N' hd hv hlt hlf => ?_
    have e : (tabObj (#[] ++ #[rawInt pos.line, rawInt pos.col, Value.ref c'])) = tabObj #[rawInt (74 : Nat), rawInt (4 : Nat), .ref c'] := by rw [hl, hc]; rfl
    rw [e] at N'
    have l51 : 51 < c' := hlt (51, o1) (List.mem_append_right _ (.head _))
    have l58 : 58 < c' := hlt (58, tabObj #[]) (List.mem_append_right _ (.tail _ (.head _)))
    refine h f c' oc vs t ctv doc h' tk ((51, o1) :: (58, tabObj #[rawInt (74 : Nat), rawInt (4 : Nat), .ref c']) :: (c', oc) :: rest) F' (News.sub N' ?_) ⟨_, _, _, rfl, ?_, h1.more _, .inr ⟨c', oc, vs, t, rfl, .head _, hd, hq ▸ hv⟩⟩ (.tail _ (.tail _ (.head _))) hd hv ?_ ?_
    · intro q hq
      exact mem_ca hq (.head _) (fun q h => .tail _ (.tail _ (List.mem_append_left _ h))) (List.forall_mem_cons.mpr ⟨.tail _ (.tail _ (List.mem_append_right _ (.head _))), List.forall_mem_cons.mpr ⟨.tail _ (.tail _ (List.mem_append_right _ (.tail _ (.head _)))), List.forall_mem_cons.mpr ⟨.tail _ (.head _), fun q h => .tail _ (.tail _ (List.mem_append_right _ (.tail _ (.tail _ h))))⟩⟩⟩)
    · intro q hq
      rcases List.mem_cons.mp hq with rfl | hq
      · exact ⟨Nat.ne_of_gt l51, Nat.ne_of_gt l58⟩
      · exact hrest q hq
    · intro q hq
      exact Nat.lt_trans (hlt q (List.mem_append_left _ hq)) hlf
    · intro e he hT q hq
      simp only [List.mem_cons] at hq
      rcases hq with rfl | rfl | rfl | hq
      · exact hT (51, _) (.head _)
      · exact hT (58, tabObj #[]) (.tail _ (.head _))
      · exact fun q => Nat.lt_irrefl _ (Nat.lt_of_lt_of_eq (hlt e (List.mem_append_left _ he)) q)
      · exact hT q (.tail _ (.tail _ hq))
  · refine nestHit_K (c' := c') F N Tp C hcd (List.mem_append_right _ (.tail _ (.head _))) (by simp [TriplesOk, rawInt]) (by simp [codeAmong, rawInt, hl, hc]) hcl fun f ctv doc h' tk' F' N' hlt => ?_
    exact h f c' oc vs tk ctv doc h' tk' _ F' N' ⟨_, _, _, rfl, hrest, h1, .inr ⟨c', oc, vs, tk, rfl, hm, hd, hv⟩⟩ (.tail _ (.tail _ hm)) hd (hq ▸ hv) (fun q hq => hlt q (List.mem_append_left _ hq)) (fun _ _ h => h)
end
end
section
def dval (n : Nat) : List Int → Int
  | [] => 0
  | d :: r => d + 2 ^ n * dval n r
theorem dval_nil (n : Nat) : dval n [] = 0 := rfl
theorem dval_cons (n : Nat) (d : Int) (r : List Int) : dval n (d :: r) = d + 2 ^ n * dval n r := rfl
theorem dval_append (n : Nat) : ∀ l r : List Int, dval n (l ++ r) = dval n l + 2 ^ (n * l.length) * dval n r
  | [], r => by simp [dval_nil, dval_cons]
  | d :: l, r => by
    rw [List.cons_append, dval_cons, dval_cons, dval_append n l r, List.length_cons, Nat.mul_succ, Int.pow_add]
    generalize (2 : Int) ^ (n * l.length) = p
    generalize (2 : Int) ^ n = q
    rw [Int.mul_add, Int.add_assoc, ← Int.mul_assoc, Int.mul_comm q p]
theorem xor_low {x : Int} (hx : 0 ≤ x) (s : Nat) : Builtin.bitXor x (x.fdiv (2 ^ s) * 2 ^ s) = x % 2 ^ s := by
  have hp : (0 : Int) < 2 ^ s := Int.pow_pos (by decide)
  rw [PyProof.Rows.bitXor_and, Int.fdiv_eq_ediv_of_nonneg _ (Int.le_of_lt hp)]
  obtain ⟨k, rfl⟩ := Int.eq_ofNat_of_zero_le hx
  have e1 : ((k : Int) / 2 ^ s * 2 ^ s) = ((k / 2 ^ s * 2 ^ s : Nat) : Int) := by
    rw [Int.natCast_mul, Int.natCast_ediv, Int.natCast_pow]; rfl
  have e2 : Builtin.bitAnd (k : Int) ((k : Int) / 2 ^ s * 2 ^ s) = ((k / 2 ^ s * 2 ^ s : Nat) : Int) := by
    rw [e1]
    unfold Builtin.bitAnd
    rw [decide_eq_true (Int.natCast_nonneg k), decide_eq_true (Int.natCast_nonneg _)]
    show ((k &&& (k / 2 ^ s * 2 ^ s) : Nat) : Int) = _
    congr 1
    apply Nat.eq_of_testBit_eq
    intro i
    rw [Nat.testBit_and]
    rw [Nat.mul_comm, Nat.testBit_two_pow_mul]
    by_cases h : s ≤ i
    · rw [decide_eq_true h, Bool.true_and, Nat.testBit_div_two_pow, Nat.sub_add_cancel h, Bool.and_self]
    · rw [decide_eq_false h, Bool.false_and, Bool.and_false]
  rw [e2, e1]
  have e3 : (k : Int) % 2 ^ s = ((k % 2 ^ s : Nat) : Int) := by
    rw [Int.natCast_emod, Int.natCast_pow]; rfl
  rw [e3]
  have := Nat.div_add_mod k (2 ^ s)
  rw [Nat.mul_comm] at this
  omega
theorem setL_of : ∀ {l : List Value} {k : Nat} (v : Value), k < l.length → ki_setL l k v = some (l.set k v)
  | _ :: _, 0, _, _ => rfl
  | x :: r, k + 1, v, h => by
    unfold ki_setL
    rw [setL_of v (Nat.lt_of_succ_lt_succ h)]
    rfl
theorem set_mid {α : Type} {l : List α} {k : Nat} (v : α) (h : k < l.length) : l.set k v = l.take k ++ [v] ++ l.drop (k + 1) := by
  rw [List.set_eq_take_append_cons_drop, if_pos h, List.append_assoc]; rfl
theorem IntsAre.setAt {vs : List Value} {ns : List Int} (h : IntsAre vs ns) {k : Nat} (hk : k < ns.length) (x : Int) (t : Tok) : IntsAre (vs.set k (.int x t)) (ns.take k ++ [x] ++ ns.drop (k + 1)) := by
  rw [set_mid _ (by rw [IntsAre.length h]; exact hk)]
  exact IntsAre.append (IntsAre.append (IntsAre.take h k) (.cons x t .nil)) (IntsAre.drop h (k + 1))
end
section
def fnArgs : Stmt → Arguments | .FunctionDef _ a _ _ _ _ _ _ _ _ => a | _ => ⟨[], [], none, [], [], none, []⟩
def fnBody : Stmt → List Stmt | .FunctionDef _ _ b _ _ _ _ _ _ _ => b | _ => []
def fnScope : Stmt → Scope | .FunctionDef _ _ _ _ _ _ s _ _ _ => s | _ => default
def stI : Stmt := (fnBody (PG.main.body.getD 9 (.Pass default))).getD 1 (.Pass default)
def stD : Stmt := (fnBody (PG.main.body.getD 10 (.Pass default))).getD 0 (.Pass default)

structure EnvI (f al cN cA cI c' : Addr) (fo oN oA oI oc : Obj) (rest : List (Addr × Obj)) : Prop where
  mf : (f, fo) ∈ rest
  mN : (cN, oN) ∈ rest
  mA : (cA, oA) ∈ rest
  mI : (cI, oI) ∈ rest
  mc : (c', oc) ∈ rest

def InnerI (w : World) (p : Program) (loose : List Str) (mean : ExcName → Option Value) (mg mb : Str → Option Value) (f al : Addr) (n : Int) (EP : List (Addr × Obj) → Prop) (k : Nat) : Prop :=
  ∀ (dp un : Nat) (gd : Option (List Code)) (cn : Str) (cs : Scope) (a : Addr) (ccd : Value) (cl : List (Str × Addr)) (outer : List Env) (A₀ : Around) (base h₀ : Heap) (L : Addr) (m : Str → Option Value) (rest : List (Addr × Obj)) (s : Shared) (Q E : Value → Shared → Prop)
    (x Lo Hi : Int) (its : List Value) (c : Nat) (ds : List Int) (t1 t2 t3 : Tok),
    Site w p loose mean mg mb cs A₀ base outer h₀ → Fr h₀ L s.heap m → News h₀ L s.heap ((al, W.listOf its.toArray c) :: rest) → (∀ q ∈ rest, q.1 ≠ al) → EP rest → IntsAre its ds →
    0 ≤ Lo → Lo < Hi → Hi ≤ (ds.length : Int) → ds.length ≤ 100 → Hi - Lo = (k : Int) → 0 ≤ x → Builtin.Int.intBits x ≤ 2000 → dp + k + 1 < recursionLimit → un + 8 * (k + 1) < cLine →
    (∀ (its' : List Value) (ds' mid : List Int) (h' : Heap) (tk' : Nat), Fr h₀ L h' m → News h₀ L h' ((al, W.listOf its'.toArray c) :: rest) → IntsAre its' ds' → ds' = ds.take Lo.toNat ++ mid ++ ds.drop Hi.toNat → mid.length = k → dval n.toNat mid = x → (∀ d ∈ mid, 0 ≤ d) →
      Q .none { s with heap := h', toks := tk' }) →
    wpAny (model PG w) (ktrTop dp un gd cn cs L a ccd cl outer) (call (.ref f) [.int x t1, .int Lo t2, .int Hi t3]) Q E s

theorem set_ok {its : List Value} {ds : List Int} {k : Int} (hi : IntsAre its ds) (h0 : 0 ≤ k) (h : k < (ds.length : Int)) : k.toNat < its.toArray.toList.length := by
  show k.toNat < its.length
  rw [IntsAre.length hi]; omega
theorem mid_eq (a b : Int) : (a + b).fdiv (2 ^ Int.toNat 1) = (a + b) / 2 := by
  rw [show (2 : Int) ^ Int.toNat 1 = 2 from rfl, Int.fdiv_eq_ediv_of_nonneg _ (by decide)]
theorem shift_facts {Lo Hi n x : Int} {len : Nat} (h0 : 0 ≤ Lo) (hlt : Lo < Hi) (hle : Hi ≤ (len : Int)) (h100 : len ≤ 100) (hn : 0 < n) (hn2 : n ≤ 2000) (hx : Builtin.Int.intBits x ≤ 2000) :
    0 ≤ ((Lo + Hi).fdiv (2 ^ Int.toNat 1) - Lo) * n ∧ (Builtin.Int.intBits (x.fdiv (2 ^ (((Lo + Hi).fdiv (2 ^ Int.toNat 1) - Lo) * n).toNat)) : Int) + ((Lo + Hi).fdiv (2 ^ Int.toNat 1) - Lo) * n ≤ 2 ^ 27 := by
  rw [mid_eq]
  have h1 : 0 ≤ (Lo + Hi) / 2 - Lo := by omega
  have h2 : (Lo + Hi) / 2 - Lo ≤ 100 := by omega
  have h3 : ((Lo + Hi) / 2 - Lo) * n ≤ 100 * 2000 := Int.mul_le_mul h2 hn2 (by omega) (by decide)
  refine ⟨Int.mul_nonneg h1 (by omega), ?_⟩
  have h4 := intBits_fdiv_le (x := x) (y := 2 ^ (((Lo + Hi) / 2 - Lo) * n).toNat) hx
  generalize Builtin.Int.intBits (x.fdiv (2 ^ (((Lo + Hi) / 2 - Lo) * n).toNat)) = z at h4
  omega
/-- the lower part, the upper part, and how they make up the whole -/
theorem halves {x n : Int} {j : Nat} (hx : 0 ≤ x) (hn : 0 < n) (hb : Builtin.Int.intBits x ≤ 2000) :
    0 ≤ Builtin.bitXor x (x.fdiv (2 ^ ((j : Int) * n).toNat) * 2 ^ ((j : Int) * n).toNat) ∧ Builtin.Int.intBits (Builtin.bitXor x (x.fdiv (2 ^ ((j : Int) * n).toNat) * 2 ^ ((j : Int) * n).toNat)) ≤ 2000 ∧
    0 ≤ x.fdiv (2 ^ ((j : Int) * n).toNat) ∧ Builtin.Int.intBits (x.fdiv (2 ^ ((j : Int) * n).toNat)) ≤ 2000 ∧
    Builtin.bitXor x (x.fdiv (2 ^ ((j : Int) * n).toNat) * 2 ^ ((j : Int) * n).toNat) + 2 ^ (n.toNat * j) * x.fdiv (2 ^ ((j : Int) * n).toNat) = x := by
  have e : ((j : Int) * n).toNat = n.toNat * j := by
    obtain ⟨m, rfl⟩ := Int.eq_ofNat_of_zero_le (Int.le_of_lt hn)
    rw [← Int.natCast_mul, Int.toNat_natCast, Int.toNat_natCast, Nat.mul_comm]
  rw [e]
  generalize n.toNat * j = k
  have hp : (0 : Int) < 2 ^ k := Int.pow_pos (by decide)
  rw [xor_low hx]
  have h1 : 0 ≤ x.fdiv (2 ^ k) := by rw [Int.fdiv_eq_ediv_of_nonneg _ (Int.le_of_lt hp)]; exact Int.ediv_nonneg hx (Int.le_of_lt hp)
  have h2 : 0 ≤ x % 2 ^ k := Int.emod_nonneg _ (Int.ne_of_gt hp)
  have h3 : x % 2 ^ k + 2 ^ k * x.fdiv (2 ^ k) = x := by
    rw [Int.fdiv_eq_ediv_of_nonneg _ (Int.le_of_lt hp)]; exact Int.emod_add_mul_ediv x (2 ^ k)
  have h5 : 0 ≤ 2 ^ k * x.fdiv (2 ^ k) := Int.mul_nonneg (Int.le_of_lt hp) h1
  refine ⟨h2, intBits_le_of_natAbs (by omega) hb, h1, intBits_fdiv_le hb, h3⟩
theorem halves' {x n d : Int} {j : Nat} (hj : d = (j : Int)) (hx : 0 ≤ x) (hn : 0 < n) (hb : Builtin.Int.intBits x ≤ 2000) :
    0 ≤ Builtin.bitXor x (x.fdiv (2 ^ (d * n).toNat) * 2 ^ (d * n).toNat) ∧ Builtin.Int.intBits (Builtin.bitXor x (x.fdiv (2 ^ (d * n).toNat) * 2 ^ (d * n).toNat)) ≤ 2000 ∧
    0 ≤ x.fdiv (2 ^ (d * n).toNat) ∧ Builtin.Int.intBits (x.fdiv (2 ^ (d * n).toNat)) ≤ 2000 ∧
    Builtin.bitXor x (x.fdiv (2 ^ (d * n).toNat) * 2 ^ (d * n).toNat) + 2 ^ (n.toNat * j) * x.fdiv (2 ^ (d * n).toNat) = x := by
  subst hj; exact halves hx hn hb
theorem head_len {α : Type} {ds m1 : List α} {a b : Nat} (hab : a ≤ b) (hb : b ≤ ds.length) (h1 : m1.length = b - a) : (ds.take a ++ m1).length = b := by
  rw [List.length_append, List.length_take, Nat.min_eq_left (Nat.le_trans hab hb), h1, Nat.add_sub_cancel' hab]
theorem take_take_app {α : Type} {ds m1 : List α} {a b : Nat} (hab : a ≤ b) (hb : b ≤ ds.length) (h1 : m1.length = b - a) : (ds.take a ++ m1 ++ ds.drop b).take b = ds.take a ++ m1 :=
  List.take_left' (head_len hab hb h1)
theorem drop_app {α : Type} {ds m1 : List α} {a b c : Nat} (hab : a ≤ b) (hb : b ≤ c) (hc : c ≤ ds.length) (h1 : m1.length = b - a) : (ds.take a ++ m1 ++ ds.drop b).drop c = ds.drop c := by
  have h := head_len hab (Nat.le_trans hb hc) h1
  rw [List.drop_append, List.drop_of_length_le (by rw [h]; exact hb), List.nil_append, List.drop_drop, h, Nat.add_sub_cancel' hb]
theorem len_app {α : Type} {ds m1 : List α} {a b : Nat} (hab : a ≤ b) (hb : b ≤ ds.length) (h1 : m1.length = b - a) : (ds.take a ++ m1 ++ ds.drop b).length = ds.length := by
  rw [List.length_append, head_len hab hb h1, List.length_drop, Nat.add_sub_cancel' hb]
theorem innerI {w : World} {p : Program} {loose : List Str} {mean : ExcName → Option Value} {mg mb : Str → Option Value} {f al cN cA cI c' : Addr} {oN oA oI oc : Obj} {n : Int} {tn t : Tok} {doc pm ctv : Value} {vs : Array Value}
    {params : Arguments} {body : List Stmt} {scope : Scope} (hp : params = fnArgs stI) (hb : body = fnBody stI) (hs : scope = fnScope stI)
    (dN : oN.data = .cell (some (.int n tn))) (dA : oA.data = .cell (some (.ref al))) (dI : oI.data = .cell (some (.ref f))) (dc : oc.data = .fields vs) (dv : vs[1]? = some (.str qI t))
    (hn : 0 < n) (hn2 : n ≤ 2000) : ∀ k,
    InnerI w p loose mean mg mb f al n (EnvI f al cN cA cI c' (fnMade (Str.ofString "inner") qI params body scope [(Str.ofString "n", cN), (Str.ofString "inner", cI), (Str.ofString "a_digits", cA)] doc pm c' ctv) oN oA oI oc) k := by
  conv at hp => rhs; whnf
  conv at hb => rhs; whnf
  conv at hs => rhs; whnf
  subst hp hb hs
  intro k
  induction k using Nat.strongRecOn with
  | ind k IH =>
  unfold InnerI
  intro dp un gd cn cs a ccd cl outer A₀ base h₀ L m rest s Q E x Lo Hi its c ds t1 t2 t3 S F N hne En hi h0 hlt hle h100 hk hx hxb hdp hun hret
  obtain ⟨B, X, T0, hkind⟩ := S
  obtain ⟨mf, mN, mA, mI, mc⟩ := En
  have CH : CodeHd h₀ 55 51 := codeHd_of_K X (by kernel_rfl)
  k_with_none
  k_with "k all" => (first | exact ne_all (by assumption) (by omega) | exact ne_allLt (by assumption) (by omega) | exact ne_allLt (And.right (by assumption)) (by omega) | exact ne_allLt (And.right (And.right (by assumption))) (by omega) | exact ne_allLt (And.right (And.right (And.right (by assumption)))) (by omega) | exact ne_allLt (And.right (And.right (And.right (And.right (by assumption))))) (by omega) | assumption)
  k_with "is list" => (exact News.isList (by assumption) (by k_mem))
  k_with "mul fits" => (first | exact PySem.IntMulOk.of_right (Mine.fit8 (by with_reducible assumption)) | exact PySem.IntMulOk.of_left (Mine.fit8 (by with_reducible assumption)) | exact PySem.IntMulOk.of_left (Mine.fitL (by decide)) | exact PySem.IntMulOk.of_right (Mine.fitL (by decide)))
  k_with "omega" => (first | with_reducible assumption | exact Mine.rl1 (by with_reducible assumption) (by decide) | exact Mine.rl2 (by with_reducible assumption) (by decide) | exact Mine.rl0 (by with_reducible assumption) | decide | (law_clear; law_purse 20000 => lia))
  k_with "exec Assign cons Name" => (with_reducible refine wpAny_Assign_Subscript ?_ ?_; rotate_left; with_unfolding_all rfl)
  k_with "setItem ref int" => (k_dflt (refine' ki_set ?F ?N ?a ?b (setL_of _ ?e) ?U ?_; (case F => k_asm); (case N => k_asm); (case a => omega); (case b => omega); (case e => exact set_ok (by assumption) (by omega) (by omega)); (case U => exact Upd.head (by assumption)); (intro _ _ _)))
  k_with "binaryOp LShift int int" => (with_reducible refine lshift_int ?ls1 ?ls2 ?_; (case ls1 => assumption); (case ls2 => assumption))
  (have HH : PySem.Challenge.rw_sr0069_01.row.prog = PG ∧ Mine.hd.heap_39 = Mine.hd.heap_39 := ⟨rfl, rfl⟩)
  revert HH
  k_fill
  intro HH
  clear HH
  refine wpAny_call ?_
  k_dflt (refine' code_nest (binds := [(Str.ofString "x", .int x t1), (Str.ofString "L", .int Lo t2), (Str.ofString "R", .int Hi t3)]) B F X N T0 ?kA ?kF ?kK (List.mem_cons_of_mem _ mf) (codeRec_news N (List.mem_cons_of_mem _ mc) dc dv) ?k8 ?k9 ?kB ?_ ?c2 ?c3 ?c4 ?c5; (case kA => exact rfl); (case kF => exact rfl); (case kK => assumption); (case k8 => ktr_room); (case k9 => exact BindsTo.of_eq rfl); (case c5 => decide); (case kB => exact locs rfl); (case c2 => exact rfl); (case c3 => exact rfl); (case c4 => exact rfl); k_whole)
  intro g L1 h1 FG F1 N1 B1 X1 T1
  dsimp only
  k_fold
  clear CH
  have CH : CodeHd g 55 51 := codeHd_of_K X1 (by kernel_rfl)
  have hSh := shift_facts (x := x) h0 hlt hle h100 hn hn2 hxb
  have hz18 := hSh
  have hS1 := hz18.1
  have hS2 := hz18.2
  k_steps
  · refine hret _ _ [x] _ _ (by assumption) (by assumption) (IntsAre.setAt hi (by omega) x t1) ?_ ?_ ?_ ?_
    · congr 2; omega
    · simp; omega
    · simp [dval_nil, dval_cons]
    · intro d hd; rw [List.mem_singleton.mp hd]; exact hx
  · have hM := mid_eq Lo Hi
    obtain ⟨j, hj⟩ : ∃ j : Nat, (Lo + Hi).fdiv (2 ^ Int.toNat 1) - Lo = (j : Int) := ⟨((Lo + Hi) / 2 - Lo).toNat, by rw [hM]; omega⟩
    have hz19 := halves' hj hx hn hxb
    have g1 := hz19.1
    have g2 := hz19.2.1
    have g3 := hz19.2.2.1
    have g4 := hz19.2.2.2.1
    have g5 := hz19.2.2.2.2
    have hM1 : Lo < (Lo + Hi).fdiv (2 ^ Int.toNat 1) := by rw [hM]; omega
    have hM2 : (Lo + Hi).fdiv (2 ^ Int.toNat 1) < Hi := by rw [hM]; omega
    clear hM hS1 hS2
    generalize (Lo + Hi).fdiv (2 ^ Int.toNat 1) = M at *
    have I1 := IH j (by omega)
    have I2 := IH (k - j) (by omega)
    unfold InnerI at I1 I2
    refine I1 _ _ _ _ _ _ _ _ _ _ _ _ _ _ rest _ _ _ _ _ _ its c ds _ _ _ ⟨B1, X1, T1, rfl⟩ (by assumption) (by assumption) hne ⟨mf, mN, mA, mI, mc⟩ hi h0 hM1 (by omega) h100 hj g1 g2 (by show dp + 1 + j + 1 < recursionLimit; omega) (by show un + 3 + 8 * (j + 1) < cLine; omega) ?_
    intro its1 ds1 m1 h1' tk1' Fa Na hi1 hds1 hm1 hv1 hn1
    k_steps
    refine I2 _ _ _ _ _ _ _ _ _ _ _ _ _ _ rest _ _ _ _ _ _ its1 c ds1 _ _ _ ⟨B1, X1, T1, rfl⟩ (by assumption) (by assumption) hne ⟨mf, mN, mA, mI, mc⟩ hi1 (by omega) hM2 ?_ ?_ (by omega) g3 g4 (by show dp + 1 + (k - j) + 1 < recursionLimit; omega) (by show un + 3 + 8 * (k - j + 1) < cLine; omega) ?_
    · subst hds1; rw [len_app (by omega) (by omega) (by omega)]; exact hle
    · subst hds1; rw [len_app (by omega) (by omega) (by omega)]; exact h100
    intro its2 ds2 m2 h2' tk2' Fb Nb hi2 hds2 hm2 hv2 hn2
    k_steps
    refine hret its2 ds2 (m1 ++ m2) _ _ (by assumption) (by assumption) hi2 ?_ ?_ ?_ ?_
    · subst hds1
      rw [hds2, take_take_app (by omega) (by omega) (by omega), drop_app (by omega) (by omega) (by omega) (by omega), List.append_assoc (_ ++ _), List.append_assoc, List.append_assoc, List.append_assoc]
    · rw [List.length_append]; omega
    · rw [dval_append, hv1, hv2, hm1]; exact g5
    · intro d hd
      rcases List.mem_append.mp hd with hd | hd
      · exact hn1 d hd
      · exact hn2 d hd
end
section
theorem Ap.cons {fr : List (Addr × Obj)} {c : Addr} {o : Obj} (h : @LT.lt Nat _ 58 c) (k : Ap fr) : Ap ((c, o) :: fr) := by
  intro q hq
  rcases List.mem_cons.mp hq with rfl | hq
  · exact ⟨Nat.ne_of_gt (Nat.lt_trans (by decide) h), Nat.ne_of_gt h⟩
  · exact k q hq
theorem ne_app {l l' : List (Addr × Obj)} {d : Nat} (h : ∀ p ∈ l, p.1 ≠ d) (k : ∀ p ∈ l', p.1 ≠ d) : ∀ p ∈ l ++ l', p.1 ≠ d := fun p hp => (List.mem_append.mp hp).elim (h p) (k p)
theorem News.swap {h₀ h : Heap} {L : Addr} {a b : Addr × Obj} {l : List (Addr × Obj)} (N : News h₀ L h (a :: b :: l)) : News h₀ L h (b :: a :: l) := List.forall_mem_cons.mpr ⟨N _ (.tail _ (.head _)), List.forall_mem_cons.mpr ⟨N _ (.head _), fun q hq => N q (.tail _ (.tail _ hq))⟩⟩
theorem ne_cons {l : List (Addr × Obj)} {c d : Nat} {o : Obj} (h : c ≠ d) (k : ∀ p ∈ l, p.1 ≠ d) : ∀ p ∈ (c, o) :: l, p.1 ≠ d := fun p hp => by
  rcases List.mem_cons.mp hp with rfl | hp
  · exact h
  · exact k p hp
theorem len_i2d {x n : Int} (hn : 0 < n) (hb : (Builtin.Int.intBits x : Int) ≤ 40 * n) : 0 ≤ ((Builtin.Int.intBits x : Int) + n - 1).fdiv n ∧ ((Builtin.Int.intBits x : Int) + n - 1).fdiv n ≤ 40 := by
  rw [Int.fdiv_eq_ediv_of_nonneg _ (by omega)]
  constructor
  · exact Int.ediv_nonneg (by omega) (by omega)
  · have h1 : ((Builtin.Int.intBits x : Int) + n - 1) / n * n ≤ (Builtin.Int.intBits x : Int) + n - 1 := Int.ediv_mul_le _ (by omega)
    by_cases h2 : ((Builtin.Int.intBits x : Int) + n - 1) / n ≤ 40
    · exact h2
    · exfalso
      have h3 : 41 * n ≤ ((Builtin.Int.intBits x : Int) + n - 1) / n * n := Int.mul_le_mul_of_nonneg_right (by omega) (by omega)
      omega
theorem len_pos {x n : Int} (hx : x ≠ 0) (hn : 0 < n) : 0 < ((Builtin.Int.intBits x : Int) + n - 1).fdiv n := by
  rw [Int.fdiv_eq_ediv_of_nonneg _ (by omega)]
  have h1 : 1 ≤ Builtin.Int.intBits x := by
    unfold Builtin.Int.intBits
    rw [if_neg (by simpa using hx)]; omega
  have h2 : n * 1 ≤ (Builtin.Int.intBits x : Int) + n - 1 := by omega
  have h3 : 1 ≤ ((Builtin.Int.intBits x : Int) + n - 1) / n := (Int.le_ediv_iff_mul_le hn).mpr (by omega)
  omega
section
variable {w : World} {p : Program} {loose : List Str} {mean : ExcName → Option Value} {mg mb : Str → Option Value} {dp un : Nat} {gd : Option (List Code)} {cn : Str} {cs : Scope} {a : Addr} {ccd : Value} {cl : List (Str × Addr)} {outer : List Env} {A₀ : Around} {base h₀ : Heap} {L : Addr} {m : Str → Option Value} {news : List (Addr × Obj)} {s : Shared} {Q E : Value → Shared → Prop}

theorem c_i2d {x n : Int} {t1 t2 : Tok} {fr T : List (Addr × Obj)} (S : Site w p loose mean mg mb cs A₀ base outer h₀) (F : Fr h₀ L s.heap m) (N : News h₀ L s.heap (fr ++ T)) (TT : TabL T) (hfr : Ap fr) (hdp : dp + 50 < recursionLimit) (hun : un + 500 < cLine)
    (hx : 0 ≤ x) (hn : 0 < n) (hn2 : n ≤ 2000) (hb : Builtin.Int.intBits x ≤ 2000) (hb2 : (Builtin.Int.intBits x : Int) ≤ 40 * n)
    (hret : ∀ (r : Addr) (its : List Value) (c : Nat) (ds : List Int) (h' : Heap) (tk' : Nat) (T' : List (Addr × Obj)), Fr h₀ L h' m → News h₀ L h' ((r, W.listOf its.toArray c) :: (fr ++ T')) → TabL T' → (∀ q ∈ fr, q.1 < r) → (∀ e ∈ fr, (∀ q ∈ T, q.1 ≠ e.1) → ∀ q ∈ T', q.1 ≠ e.1) → (∀ q ∈ T', q.1 ≠ r) → 58 < r →
      IntsAre its ds → dval n.toNat ds = x → (∀ d ∈ ds, 0 ≤ d) → ds.length ≤ 40 → Q (.ref r) {s with heap := h', toks := tk'}) :
    wpAny (model PG w) (ktrTop dp un gd cn cs L a ccd cl outer) (call (.ref 56) [.int x t1, .int n t2]) Q E s := by
  obtain ⟨B, X, T0, hk⟩ := S
  k_with_none
  k_with "k all" => (first | exact ne_all (by assumption) (by omega) | exact ne_allLt (by assumption) (by omega) | exact ne_allLt (And.right (by assumption)) (by omega) | exact ne_allLt (And.right (And.right (by assumption))) (by omega) | exact ne_allLt (And.right (And.right (And.right (by assumption)))) (by omega) | exact ne_allLt (And.right (And.right (And.right (And.right (by assumption))))) (by omega) | assumption)
  k_with "is list" => (exact News.isList (by assumption) (by k_mem))
  k_with "mul fits" => (first | exact PySem.IntMulOk.of_right (Mine.fit8 (by with_reducible assumption)) | exact PySem.IntMulOk.of_left (Mine.fit8 (by with_reducible assumption)) | exact PySem.IntMulOk.of_left (Mine.fitL (by decide)) | exact PySem.IntMulOk.of_right (Mine.fitL (by decide)))
  k_with "omega" => (first | with_reducible assumption | exact Mine.rl1 (by with_reducible assumption) (by decide) | exact Mine.rl2 (by with_reducible assumption) (by decide) | exact Mine.rl0 (by with_reducible assumption) | decide | (law_clear; law_purse 20000 => lia))
  (have HH : PySem.Challenge.rw_sr0069_01.row.prog = PG ∧ Mine.hd.heap_39 = Mine.hd.heap_39 := ⟨rfl, rfl⟩)
  revert HH
  k_fill
  intro HH
  clear HH
  refine wpAny_call ?_
  (k_dflt (refine' code_defC (binds := [(Str.ofString "a", .int x t1), (Str.ofString "n", .int n t2)]) ?k1 ?k2 ?k3 ?k4 ?k5 ?kA ?kF ?kK ?k6 ?k7 ?k8 ?k9 ?kB ?kD ?_ ?c2 ?c3 ?c4; (case kA => exact rfl); (case kF => exact rfl); (case kK => assumption); (case k1 => k_asm); (case k2 => k_asm); (case k3 => k_asm); (case k4 => k_asm); (case k5 => k_asm); (case k6 => k_is); (case k7 => k_is); (case k8 => ktr_room); (case k9 => exact BindsTo.of_eq rfl); (case kB => exact rfl); (case kD => decide +kernel); (case c2 => exact rfl); (case c3 => exact rfl); (case c4 => exact rfl); k_whole))
  intro g L1 h1 tk1 cells FG F1 N1 Y B1 X1 T1 l1
  dsimp only
  k_fold
  k_cells Y
  rename_i o1 o2 o3 d1 d2 d3
  simp only [List.cons_append, List.nil_append] at N1
  replace d1 : o1.data = .cell none := d1
  replace d2 : o2.data = .cell none := d2
  replace d3 : o3.data = .cell (some (.int n t2)) := d3
  replace F1 : Fr g L1 h1 (fun y => if y = Str.ofString "a" then some (.int x t1) else none) := F1
  have hlen := len_i2d hn hb2
  have CH : CodeHd g 55 51 := codeHd_of_K X1 (by kernel_rfl)
  have h58 : @LT.lt Nat _ 58 L1 := by
    obtain ⟨o1, o2, rest, rfl, _⟩ := TT
    exact l1 (58, o2) (List.mem_append_right _ (.tail _ (.head _)))
  k_steps
  refine nestDef_K rfl rfl rfl ?_
  rename Fr g _ _ _ => F2
  rename News g _ _ _ => N2
  refine nestI (fr := _ :: _ :: _ :: _ :: _ :: fr) (T := T) F2 N2 TT ?_ T1 CH rfl rfl rfl rfl rfl ?_
  · exact Ap.cons (by omega) (Ap.cons (by omega) (Ap.cons (by omega) (Ap.cons (by omega) (Ap.cons (by omega) hfr))))
  intro f c' oc vs t ctv doc h9 tk9 T9 F9 N9 TT9 hm9 hd9 hv9 lt9 ap9
  simp only [List.cons_append] at N9
  replace lt9 := allLt_of lt9
  simp only [AllLt] at lt9
  rename_i l0 _ la dl _ i1 n1 s1 e1 e2 e3 lb _ oA dA
  have lT : ∀ p ∈ T, p.1 < L1 := fun p hp => l1 p (List.mem_append_right _ hp)
  have lF : ∀ p ∈ fr, p.1 < L1 := fun p hp => l1 p (List.mem_append_left _ hp)
  have nI : ∀ p ∈ fr ++ T9, p.1 ≠ L1 + 1 + 1 + 1 := ne_app (ne_all lF (by omega)) (ap9 (L1 + 1 + 1 + 1, o1) (by k_mem) (ne_all lT (by dsimp only; omega)))
  have nA : ∀ p ∈ T9, p.1 ≠ dl := ap9 _ (.head _) (ne_all lT (by dsimp only; omega))
  have nF : ∀ p ∈ fr, p.1 < dl := fun p hp => Nat.lt_trans (lF p hp) (by omega)
  have hap : ∀ e ∈ fr, (∀ q ∈ T, q.1 ≠ e.1) → ∀ q ∈ T9, q.1 ≠ e.1 := fun e he => ap9 e (.tail _ (.tail _ (.tail _ (.tail _ (.tail _ he)))))
  have hdl : @LT.lt Nat _ 58 dl := by omega
  clear ap9
  rename dl < f ∧ _ => lt9
  have e4 := e3 hlen.1
  have hn1 : n1 ≤ 40 := by omega
  have hq1 : ((Builtin.Int.intBits x : Int) + n - 1).fdiv n = (n1 : Int) := by omega
  clear e2 e3 e4 hlen
  generalize hqd : ((Builtin.Int.intBits x : Int) + n - 1).fdiv n = q at *
  generalize hRd : (List.replicate q.toNat [(0 : Int)]).flatten = R at *
  k_steps
  · rename_i oI F3 N3 dI hx0
    have hp := len_pos hx0 hn
    rw [hqd] at hp
    clear hqd hRd
    have I := innerI (w := w) (p := p) (loose := loose) (mean := mean) (mg := mg) (mb := mb) (params := _) (body := _) (scope := _) (doc := doc) (pm := (mg (Str.ofString "__name__")).getD Value.none) (ctv := ctv) (cN := L1 + 1) (cA := L1 + 1 + 1) (cI := L1 + 1 + 1 + 1) (c' := c') (f := f) (al := dl) rfl rfl rfl d3 dA dI hd9 hv9 hn hn2 n1
    unfold InnerI at I
    refine I _ _ _ _ _ _ _ _ _ _ _ _ _ _ _ _ _ _ _ _ _ _ 0 _ _ _ _ ⟨B1, X1, T1, rfl⟩ (by assumption) (News.swap N3) ?_ ⟨.head _, ?_, ?_, ?_, ?_⟩ i1 (by omega) (by omega) ?_ ?_ ?_ hx hb ?_ ?_ ?_
    · exact ne_cons (by omega) (ne_cons (by omega) (ne_cons (by omega) (ne_cons (by omega) (ne_cons (by omega) (ne_app (fun q hq => Nat.ne_of_lt (nF q hq)) nA)))))
    · k_mem
    · k_mem
    · k_mem
    · exact List.mem_cons_of_mem _ (List.mem_cons_of_mem _ (List.mem_cons_of_mem _ (List.mem_cons_of_mem _ (List.mem_cons_of_mem _ (List.mem_append_right _ hm9)))))
    · omega
    · omega
    · omega
    · show dp + 1 + n1 + 1 < recursionLimit; omega
    · show un + 3 + 8 * (n1 + 1) < cLine; omega
    · intro its' ds' mid h' tk' Fa Na hi' hds' hml hdv hnn
      k_steps
      have e : ds' = mid := by
        rw [hds', show (0 : Int).toNat = 0 from rfl, List.take_zero, List.nil_append, List.drop_of_length_le (by omega), List.append_nil]
      refine hret dl its' 0 ds' _ _ T9 (by assumption) (News.sub (by assumption) ?_) TT9 nF hap nA hdl hi' (by rw [e]; exact hdv) (by rw [e]; exact hnn) (by rw [e]; omega)
      intro q hq
      exact mem_ca hq (by repeat (first | exact List.Mem.head _ | apply List.Mem.tail)) (fun q h => by repeat (first | exact List.mem_append_left _ h | apply List.Mem.tail)) (fun q h => by repeat (first | exact List.mem_append_right _ h | apply List.Mem.tail))
  · rename_i hx0
    have hx1 : x = 0 := by omega
    have e0 : q = 0 := by
      rw [← hqd, hx1, show Builtin.Int.intBits 0 = 0 from rfl, Int.fdiv_eq_ediv_of_nonneg _ (by omega)]
      exact Int.ediv_eq_zero_of_lt (by omega) (by omega)
    refine hret dl _ 0 _ _ _ T9 (by assumption) (News.sub (by assumption) ?_) TT9 nF hap nA hdl i1 (by rw [← hRd, e0, hx1]; rfl) (by rw [← hRd, e0]; exact fun d hd => nomatch hd) (by omega)
    intro q hq
    exact mem_ca hq (by repeat (first | exact List.Mem.head _ | apply List.Mem.tail)) (fun q h => by repeat (first | exact List.mem_append_left _ h | apply List.Mem.tail)) (fun q h => by repeat (first | exact List.mem_append_right _ h | apply List.Mem.tail))
end
end
section
theorem dval_bits {n B : Nat} : ∀ {l : List Int}, (∀ d ∈ l, Builtin.Int.intBits d ≤ B) → Builtin.Int.intBits (dval n l) ≤ B + (n + 3) * l.length
  | [], _ => by show Builtin.Int.intBits 0 ≤ _; rw [show Builtin.Int.intBits 0 = 0 from rfl]; omega
  | d :: l, h => by
    have ih := dval_bits (n := n) (l := l) fun d hd => h d (.tail _ hd)
    have h1 := h d (.head _)
    have h2 : Builtin.Int.intBits ((2 : Int) ^ n) ≤ n + 1 := by
      refine intBits_le_iff.mpr ?_
      rw [Int.natAbs_pow]; exact Nat.pow_lt_pow_right (by decide) (Nat.lt_succ_self n)
    have h3 := intBits_add_le h1 (intBits_mul_le h2 ih)
    rw [dval_cons, List.length_cons, Nat.mul_succ]
    have h4 : max B (n + 1 + (B + (n + 3) * l.length)) + 1 ≤ B + ((n + 3) * l.length + (n + 3)) := by omega
    exact Nat.le_trans h3 h4
def slc (ds : List Int) (a b : Nat) : List Int := (ds.drop a).take (b - a)
theorem slc_split {ds : List Int} {a b c : Nat} (h1 : a ≤ b) (h2 : b ≤ c) : slc ds a c = slc ds a b ++ slc ds b c := by
  unfold slc
  have e : c - a = (b - a) + (c - b) := by rw [Nat.add_comm, ← Nat.add_sub_assoc h1, Nat.sub_add_cancel h2]
  rw [e, List.take_add, List.drop_drop, Nat.add_sub_cancel' h1]
theorem slc_one {ds : List Int} {a : Nat} {d : Int} (h : ds[a]? = some d) : slc ds a (a + 1) = [d] := by
  unfold slc
  obtain ⟨h1, h2⟩ := List.getElem?_eq_some_iff.mp h
  rw [List.drop_eq_getElem_cons h1, show a + 1 - a = 1 by omega, h2]; rfl
theorem slc_len {ds : List Int} {a b : Nat} (h1 : a ≤ b) (h2 : b ≤ ds.length) : (slc ds a b).length = b - a := by
  unfold slc; rw [List.length_take, List.length_drop, Nat.min_eq_left (Nat.sub_le_sub_right h2 a)]
theorem slc_mem {ds : List Int} {a b : Nat} {P : Int → Prop} (h : ∀ d ∈ ds, P d) : ∀ d ∈ slc ds a b, P d := fun d hd => h d (List.mem_of_mem_drop (List.mem_of_mem_take hd))
theorem slc_all {ds : List Int} : slc ds 0 ds.length = ds := by unfold slc; simp
/-- how the value of a piece is made up of the values of its two parts -/
theorem dval_join {ds : List Int} {n Lo M Hi : Int} {j : Nat} (hn : 0 < n) (h0 : 0 ≤ Lo) (h1 : Lo < M) (h2 : M < Hi) (h3 : Hi ≤ (ds.length : Int)) (hj : M - Lo = (j : Int)) :
    dval n.toNat (slc ds M.toNat Hi.toNat) * 2 ^ ((M - Lo) * n).toNat + dval n.toNat (slc ds Lo.toNat M.toNat) = dval n.toNat (slc ds Lo.toNat Hi.toNat) := by
  rw [slc_split (a := Lo.toNat) (b := M.toNat) (c := Hi.toNat) (by omega) (by omega), dval_append, slc_len (by omega) (by omega)]
  have e : ((M - Lo) * n).toNat = n.toNat * (M.toNat - Lo.toNat) := by
    rw [hj, show M.toNat - Lo.toNat = j by clear hn h2 h3; omega]
    obtain ⟨m, rfl⟩ := Int.eq_ofNat_of_zero_le (Int.le_of_lt hn)
    rw [← Int.natCast_mul, Int.toNat_natCast, Int.toNat_natCast, Nat.mul_comm]
  rw [e, Int.mul_comm, Int.add_comm]

theorem item_at {prog : Program} {w : World} {A : Around} {E : Value → Shared → Prop} {s : Shared} {value slice : PySem.Expr} {l : Addr} {vs : List Value} {k : Int} {u : Tok} {v : Value} {Q : Value → Shared → Prop}
    (hl : s.heap.IsList l vs.toArray) (h0 : 0 ≤ k) (hhi : k < 2 ^ 63) (hx : vs[k.toNat]? = some v) (h : Q v s)
    (hs : subscripted slice false (.ref l) (.int k u) = operate [.ref l, .int k u] (getItem (.ref l) (.int k u)) := by with_unfolding_all rfl) :
    wpAny (model prog w) A (subscriptTail value slice (.ref l) (.int k u)) Q E s :=
  tail_any hl.typeIs slot_list_getitem.lookup (wpAny_getItem_list hl h0 hhi (by simpa using hx) h) hs

structure EnvD (f dl cN cD cI c' : Addr) (fo oN oD oI oc oL : Obj) (rest : List (Addr × Obj)) : Prop where
  mf : (f, fo) ∈ rest
  mN : (cN, oN) ∈ rest
  mD : (cD, oD) ∈ rest
  mI : (cI, oI) ∈ rest
  mc : (c', oc) ∈ rest
  mL : (dl, oL) ∈ rest

def InnerD (w : World) (p : Program) (loose : List Str) (mean : ExcName → Option Value) (mg mb : Str → Option Value) (f : Addr) (n : Int) (ds : List Int) (EP : List (Addr × Obj) → Prop) (k : Nat) : Prop :=
  ∀ (dp un : Nat) (gd : Option (List Code)) (cn : Str) (cs : Scope) (a : Addr) (ccd : Value) (cl : List (Str × Addr)) (outer : List Env) (A₀ : Around) (base h₀ : Heap) (L : Addr) (m : Str → Option Value) (rest : List (Addr × Obj)) (s : Shared) (Q E : Value → Shared → Prop)
    (Lo Hi : Int) (t2 t3 : Tok),
    Site w p loose mean mg mb cs A₀ base outer h₀ → Fr h₀ L s.heap m → News h₀ L s.heap rest → EP rest →
    0 ≤ Lo → Lo < Hi → Hi ≤ (ds.length : Int) → Hi - Lo = (k : Int) → dp + k + 1 < recursionLimit → un + 8 * (k + 1) < cLine →
    (∀ (h' : Heap) (tk' : Nat) (t' : Tok), Fr h₀ L h' m → News h₀ L h' rest → Q (.int (dval n.toNat (slc ds Lo.toNat Hi.toNat)) t') { s with heap := h', toks := tk' }) →
    wpAny (model PG w) (ktrTop dp un gd cn cs L a ccd cl outer) (call (.ref f) [.int Lo t2, .int Hi t3]) Q E s

theorem innerD {w : World} {p : Program} {loose : List Str} {mean : ExcName → Option Value} {mg mb : Str → Option Value} {f dl cN cD cI c' : Addr} {oN oD oI oc : Obj} {n : Int} {tn t : Tok} {doc pm ctv : Value} {vs : Array Value} {its : List Value} {ds : List Int} {c B : Nat}
    {params : Arguments} {body : List Stmt} {scope : Scope} (hp : params = fnArgs stD) (hb : body = fnBody stD) (hs : scope = fnScope stD)
    (dN : oN.data = .cell (some (.int n tn))) (dD : oD.data = .cell (some (.ref dl))) (dI : oI.data = .cell (some (.ref f))) (dc : oc.data = .fields vs) (dv : vs[1]? = some (.str qD t))
    (hn : 0 < n) (hn2 : n ≤ 2000) (hi : IntsAre its ds) (h100 : ds.length ≤ 100) (hB : ∀ d ∈ ds, Builtin.Int.intBits d ≤ B) (hB2 : B ≤ 100000) : ∀ k,
    InnerD w p loose mean mg mb f n ds (EnvD f dl cN cD cI c' (fnMade (Str.ofString "inner") qD params body scope [(Str.ofString "n", cN), (Str.ofString "inner", cI), (Str.ofString "digits", cD)] doc pm c' ctv) oN oD oI oc (W.listOf its.toArray c)) k := by
  conv at hp => rhs; whnf
  conv at hb => rhs; whnf
  conv at hs => rhs; whnf
  subst hp hb hs
  intro k
  induction k using Nat.strongRecOn with
  | ind k IH =>
  unfold InnerD
  intro dp un gd cn cs a ccd cl outer A₀ base h₀ L m rest s Q E Lo Hi t2 t3 S F N En h0 hlt hle hk hdp hun hret
  obtain ⟨B, X, T0, hkind⟩ := S
  obtain ⟨mf, mN, mD, mI, mc, mL⟩ := En
  have CH : CodeHd h₀ 62 58 := codeHd_of_K X (by kernel_rfl)
  k_with_none
  k_with "k all" => (first | exact ne_all (by assumption) (by omega) | exact ne_allLt (by assumption) (by omega) | exact ne_allLt (And.right (by assumption)) (by omega) | exact ne_allLt (And.right (And.right (by assumption))) (by omega) | exact ne_allLt (And.right (And.right (And.right (by assumption)))) (by omega) | exact ne_allLt (And.right (And.right (And.right (And.right (by assumption))))) (by omega) | assumption)
  k_with "is list" => (exact News.isList (by assumption) (by k_mem))
  k_with "mul fits" => (first | exact PySem.IntMulOk.of_right (Mine.fit8 (by with_reducible assumption)) | exact PySem.IntMulOk.of_left (Mine.fit8 (by with_reducible assumption)) | exact PySem.IntMulOk.of_left (Mine.fitL (by decide)) | exact PySem.IntMulOk.of_right (Mine.fitL (by decide)))
  k_with "omega" => (first | with_reducible assumption | exact Mine.rl1 (by with_reducible assumption) (by decide) | exact Mine.rl2 (by with_reducible assumption) (by decide) | exact Mine.rl0 (by with_reducible assumption) | decide | (law_clear; law_purse 20000 => lia))
  k_with "subscriptTail Name Name ref int" => (k_dflt (refine' item_at (News.isList (by assumption) ?mem) ?i0 ?i1 ?ix ?_; (case mem => assumption); (case ix => assumption); (case i0 => omega); (case i1 => omega)))
  k_with "binaryOp LShift int int" => (with_reducible refine lshift_int ?ls1 ?ls2 ?_; (case ls1 => assumption); (case ls2 => assumption))
  (have HH : PySem.Challenge.rw_sr0069_01.row.prog = PG ∧ Mine.hd.heap_39 = Mine.hd.heap_39 := ⟨rfl, rfl⟩)
  revert HH
  k_fill
  intro HH
  clear HH
  refine wpAny_call ?_
  k_dflt (refine' code_nest (binds := [(Str.ofString "L", .int Lo t2), (Str.ofString "R", .int Hi t3)]) B F X N T0 ?kA ?kF ?kK mf (codeRec_news N mc dc dv) ?k8 ?k9 ?kB ?_ ?c2 ?c3 ?c4 ?c5; (case kA => exact rfl); (case kF => exact rfl); (case kK => assumption); (case k8 => ktr_room); (case k9 => exact BindsTo.of_eq rfl); (case c5 => decide); (case kB => exact locs rfl); (case c2 => exact rfl); (case c3 => exact rfl); (case c4 => exact rfl); k_whole)
  intro g L1 h1 FG F1 N1 B1 X1 T1
  dsimp only
  k_fold
  clear CH
  have CH : CodeHd g 62 58 := codeHd_of_K X1 (by kernel_rfl)
  have hd1 : ds[Lo.toNat]? = some ds[Lo.toNat] := List.getElem?_eq_getElem (by omega)
  obtain ⟨t9, ht9⟩ := IntsAre.get hi Lo.toNat _ hd1
  k_steps
  · have e : dval n.toNat (slc ds Lo.toNat Hi.toNat) = ds[Lo.toNat] := by
      rw [show Hi.toNat = Lo.toNat + 1 by omega, slc_one hd1]; simp [dval_nil, dval_cons]
    rw [← e]
    exact hret _ _ _ (by assumption) (by assumption)
  · have hM := mid_eq Lo Hi
    obtain ⟨j, hj⟩ : ∃ j : Nat, (Lo + Hi).fdiv (2 ^ Int.toNat 1) - Lo = (j : Int) := ⟨((Lo + Hi) / 2 - Lo).toNat, by rw [hM]; omega⟩
    have hM1 : Lo < (Lo + Hi).fdiv (2 ^ Int.toNat 1) := by rw [hM]; omega
    have hM2 : (Lo + Hi).fdiv (2 ^ Int.toNat 1) < Hi := by rw [hM]; omega
    clear hM
    generalize (Lo + Hi).fdiv (2 ^ Int.toNat 1) = M at *
    have hJ := dval_join hn h0 hM1 hM2 hle hj
    have hb1 := dval_bits (n := n.toNat) (slc_mem (a := (M).toNat) (b := Hi.toNat) hB)
    rw [slc_len (by omega) (by omega)] at hb1
    have hsm : (n.toNat + 3) * (Hi.toNat - (M).toNat) ≤ 2003 * 100 := Nat.mul_le_mul (by omega) (by omega)
    have hS1 : 0 ≤ (M - Lo) * n := Int.mul_nonneg (by omega) (by omega)
    have hS2 : (M - Lo) * n ≤ 100 * 2000 := Int.mul_le_mul (by omega) hn2 (by omega) (by decide)
    have hS3 : (Builtin.Int.intBits (dval n.toNat (slc ds (M).toNat Hi.toNat)) : Int) + (M - Lo) * n ≤ 2 ^ 27 := by omega
    clear hS2 hsm hb1
    have I1 := IH (k - j) (by omega)
    have I2 := IH j (by omega)
    unfold InnerD at I1 I2
    refine I1 _ _ _ _ _ _ _ _ _ _ _ _ _ _ rest _ _ _ _ _ _ _ ⟨B1, X1, T1, rfl⟩ (by assumption) (by assumption) ⟨mf, mN, mD, mI, mc, mL⟩ (by omega) hM2 hle (by omega) (by show dp + 1 + (k - j) + 1 < recursionLimit; omega) (by show un + 3 + 8 * (k - j + 1) < cLine; omega) ?_
    intro h1' tk1' t1' Fa Na
    k_steps
    refine I2 _ _ _ _ _ _ _ _ _ _ _ _ _ _ rest _ _ _ _ _ _ _ ⟨B1, X1, T1, rfl⟩ (by assumption) (by assumption) ⟨mf, mN, mD, mI, mc, mL⟩ h0 hM1 (by omega) hj (by show dp + 1 + j + 1 < recursionLimit; omega) (by show un + 3 + 8 * (j + 1) < cLine; omega) ?_
    intro h2' tk2' t2' Fb Nb
    k_steps
    rw [hJ]
    exact hret _ _ _ (by assumption) (by assumption)
end
section
section
variable {w : World} {p : Program} {loose : List Str} {mean : ExcName → Option Value} {mg mb : Str → Option Value} {dp un : Nat} {gd : Option (List Code)} {cn : Str} {cs : Scope} {a : Addr} {ccd : Value} {cl : List (Str × Addr)} {outer : List Env} {A₀ : Around} {base h₀ : Heap} {L : Addr} {m : Str → Option Value} {news : List (Addr × Obj)} {s : Shared} {Q E : Value → Shared → Prop}

theorem c_d2i {n : Int} {dl : Addr} {its : List Value} {ds : List Int} {c Bd : Nat} {t2 : Tok} {fr T : List (Addr × Obj)} (S : Site w p loose mean mg mb cs A₀ base outer h₀) (F : Fr h₀ L s.heap m) (N : News h₀ L s.heap (fr ++ T)) (TT : TabL T) (hfr : Ap fr) (hdp : dp + 50 < recursionLimit) (hun : un + 500 < cLine)
    (hm : (dl, W.listOf its.toArray c) ∈ fr) (hi : IntsAre its ds) (h40 : ds.length ≤ 40) (hB : ∀ d ∈ ds, Builtin.Int.intBits d ≤ Bd) (hB2 : Bd ≤ 100000) (hn : 0 < n) (hn2 : n ≤ 2000)
    (hret : ∀ (h' : Heap) (tk' : Nat) (t' : Tok) (T' : List (Addr × Obj)), Fr h₀ L h' m → News h₀ L h' (fr ++ T') → TabL T' → (∀ e ∈ fr, (∀ q ∈ T, q.1 ≠ e.1) → ∀ q ∈ T', q.1 ≠ e.1) →
      Q (.int (dval n.toNat ds) t') {s with heap := h', toks := tk'}) :
    wpAny (model PG w) (ktrTop dp un gd cn cs L a ccd cl outer) (call (.ref 63) [.ref dl, .int n t2]) Q E s := by
  obtain ⟨B, X, T0, hk⟩ := S
  k_with_none
  k_with "k all" => (first | exact ne_all (by assumption) (by omega) | exact ne_allLt (by assumption) (by omega) | exact ne_allLt (And.right (by assumption)) (by omega) | exact ne_allLt (And.right (And.right (by assumption))) (by omega) | exact ne_allLt (And.right (And.right (And.right (by assumption)))) (by omega) | exact ne_allLt (And.right (And.right (And.right (And.right (by assumption))))) (by omega) | assumption)
  k_with "is list" => (exact News.isList (by assumption) (by k_mem))
  k_with "mul fits" => (first | exact PySem.IntMulOk.of_right (Mine.fit8 (by with_reducible assumption)) | exact PySem.IntMulOk.of_left (Mine.fit8 (by with_reducible assumption)) | exact PySem.IntMulOk.of_left (Mine.fitL (by decide)) | exact PySem.IntMulOk.of_right (Mine.fitL (by decide)))
  k_with "omega" => (first | with_reducible assumption | exact Mine.rl1 (by with_reducible assumption) (by decide) | exact Mine.rl2 (by with_reducible assumption) (by decide) | exact Mine.rl0 (by with_reducible assumption) | decide | (law_clear; law_purse 20000 => lia))
  (have HH : PySem.Challenge.rw_sr0069_01.row.prog = PG ∧ Mine.hd.heap_39 = Mine.hd.heap_39 := ⟨rfl, rfl⟩)
  revert HH
  k_fill
  intro HH
  clear HH
  refine wpAny_call ?_
  (k_dflt (refine' code_defC (binds := [(Str.ofString "digits", .ref dl), (Str.ofString "n", .int n t2)]) ?k1 ?k2 ?k3 ?k4 ?k5 ?kA ?kF ?kK ?k6 ?k7 ?k8 ?k9 ?kB ?kD ?_ ?c2 ?c3 ?c4; (case kA => exact rfl); (case kF => exact rfl); (case kK => assumption); (case k1 => k_asm); (case k2 => k_asm); (case k3 => k_asm); (case k4 => k_asm); (case k5 => k_asm); (case k6 => k_is); (case k7 => k_is); (case k8 => ktr_room); (case k9 => exact BindsTo.of_eq rfl); (case kB => exact rfl); (case kD => decide +kernel); (case c2 => exact rfl); (case c3 => exact rfl); (case c4 => exact rfl); k_whole))
  intro g L1 h1 tk1 cells FG F1 N1 Y B1 X1 T1 l1
  dsimp only
  k_fold
  k_cells Y
  rename_i o1 o2 o3 d1 d2 d3
  simp only [List.cons_append, List.nil_append] at N1
  have CH : CodeHd g 62 58 := codeHd_of_K X1 (by kernel_rfl)
  have h58 : @LT.lt Nat _ 58 L1 := by
    obtain ⟨o1, o2, rest, rfl, _⟩ := TT
    exact l1 (58, o2) (List.mem_append_right _ (.tail _ (.head _)))
  replace d1 : o1.data = .cell none := d1
  replace d2 : o2.data = .cell (some (.int n t2)) := d2
  replace d3 : o3.data = .cell (some (.ref dl)) := d3
  replace F1 : Fr g L1 h1 (fun _ => none) := F1
  k_steps
  refine nestDef_K rfl rfl rfl ?_
  refine nestD (fr := _ :: _ :: _ :: fr) (T := T) F1 N1 TT ?_ T1 CH rfl rfl rfl rfl rfl ?_
  · exact Ap.cons (by omega) (Ap.cons (by omega) (Ap.cons (by omega) hfr))
  intro f c' oc vs t ctv doc h9 tk9 T9 F9 N9 TT9 hm9 hd9 hv9 lt9 ap9
  simp only [List.cons_append] at N9
  replace lt9 := allLt_of lt9
  simp only [AllLt] at lt9
  have lT : ∀ p ∈ T, p.1 < L1 := fun p hp => l1 p (List.mem_append_right _ hp)
  have lF : ∀ p ∈ fr, p.1 < L1 := fun p hp => l1 p (List.mem_append_left _ hp)
  have nI : ∀ p ∈ fr ++ T9, p.1 ≠ L1 + 1 + 1 + 1 := ne_app (ne_all lF (by omega)) (ap9 (L1 + 1 + 1 + 1, o1) (.head _) (ne_all lT (by dsimp only; omega)))
  have hap : ∀ e ∈ fr, (∀ q ∈ T, q.1 ≠ e.1) → ∀ q ∈ T9, q.1 ≠ e.1 := fun e he => ap9 e (.tail _ (.tail _ (.tail _ he)))
  have hmL : (dl, W.listOf its.toArray c) ∈ fr ++ T9 := List.mem_append_left _ hm
  have hsz : its.toArray.size = ds.length := by rw [List.size_toArray]; exact IntsAre.length hi
  clear ap9
  k_steps
  · rename_i oI F3 N3 dI hpos
    have hpos' : 0 < ds.length := by simpa using hpos
    have I := innerD (w := w) (p := p) (loose := loose) (mean := mean) (mg := mg) (mb := mb) (params := _) (body := _) (scope := _) (doc := doc) (pm := (mg (Str.ofString "__name__")).getD Value.none) (ctv := ctv) (cN := L1 + 1 + 1) (cD := L1 + 1) (cI := L1 + 1 + 1 + 1) (c' := c') (f := f) (dl := dl) (c := c) rfl rfl rfl d2 d3 dI hd9 hv9 hn hn2 hi (by omega) hB hB2 ds.length
    unfold InnerD at I
    refine I _ _ _ _ _ _ _ _ _ _ _ _ _ _ _ _ _ _ 0 _ _ _ ⟨B1, X1, T1, rfl⟩ (by assumption) N3 ⟨.head _, ?_, ?_, ?_, ?_, ?_⟩ (by omega) (by omega) (by omega) (by omega) ?_ ?_ ?_
    · k_mem
    · k_mem
    · k_mem
    · exact List.mem_cons_of_mem _ (List.mem_cons_of_mem _ (List.mem_cons_of_mem _ (List.mem_cons_of_mem _ (List.mem_append_right _ hm9))))
    · k_mem
    · show dp + 1 + ds.length + 1 < recursionLimit; omega
    · show un + 3 + 8 * (ds.length + 1) < cLine; omega
    · intro h' tk' t' Fa Na
      k_steps
      rw [show (0 : Int).toNat = 0 from rfl, Int.toNat_natCast, slc_all]
      refine hret _ _ _ T9 (by assumption) (News.sub (by assumption) ?_) TT9 hap
      intro q hq
      exact (List.mem_append.mp hq).elim (fun h => by repeat (first | exact List.mem_append_left _ h | apply List.Mem.tail)) (fun h => by repeat (first | exact List.mem_append_right _ h | apply List.Mem.tail))
  · rename_i hpos _ _ _ _
    have e : ds = [] := List.eq_nil_of_length_eq_zero (by simpa using hpos)
    have e2 : dval n.toNat ds = 0 := by rw [e]; rfl
    rw [← e2]
    refine hret _ _ _ T9 (by assumption) (News.sub (by assumption) ?_) TT9 hap
    intro q hq
    exact (List.mem_append.mp hq).elim (fun h => by repeat (first | exact List.mem_append_left _ h | apply List.Mem.tail)) (fun h => by repeat (first | exact List.mem_append_right _ h | apply List.Mem.tail))
end
end
section
/-- a frame whose map is known at some names -/
theorem Fr.known {h₀ h : Heap} {L : Addr} {m : Str → Option Value} (F : Fr h₀ L h m) (ps : List (Str × Value)) (hk : ∀ p ∈ ps, m p.1 = some p.2) : Fr h₀ L h (kstB m ps) := by
  have e : kstB m ps = m := funext fun z => kstB_eq hk fun _ => rfl
  rw [e]; exact F
theorem drop_last {ds : List Int} {i : Nat} {d : Int} (hd : ds[ds.length - 1 - i]? = some d) (hi : i < ds.length) : ds.drop (ds.length - (i + 1)) = d :: ds.drop (ds.length - i) := by
  obtain ⟨h1, h2⟩ := List.getElem?_eq_some_iff.mp hd
  have e : ds.length - (i + 1) = ds.length - 1 - i := by omega
  rw [e, List.drop_eq_getElem_cons h1, h2, show ds.length - 1 - i + 1 = ds.length - i by omega]
theorem ldiv_step {n : Nat} {ds : List Int} {i : Nat} {d y r Q : Int} (hi : i < ds.length) (hd : ds[ds.length - 1 - i]? = some d) (hV : dval n (ds.drop (ds.length - i)) = y * Q + r) :
    dval n (ds.drop (ds.length - (i + 1))) = y * ((r * 2 ^ n + d).fdiv y + 2 ^ n * Q) + (r * 2 ^ n + d).fmod y := by
  rw [drop_last hd hi, dval_cons, hV]
  have h := Int.fmod_add_mul_fdiv (r * 2 ^ n + d) y
  generalize (r * 2 ^ n + d).fdiv y = a at *
  generalize (r * 2 ^ n + d).fmod y = b at *
  generalize (2 : Int) ^ n = p at *
  rw [Int.mul_add, Int.mul_add, ← Int.mul_assoc y p Q, Int.mul_comm y p, ← Int.mul_assoc p y Q]
  have e : p * r = r * p := Int.mul_comm _ _
  omega
theorem digit_le {n : Nat} : ∀ {ds : List Int}, (∀ d ∈ ds, 0 ≤ d) → 0 ≤ dval n ds ∧ ∀ d ∈ ds, d ≤ dval n ds
  | [], _ => ⟨Int.le_refl _, fun _ h => nomatch h⟩
  | e :: l, h => by
    obtain ⟨h1, h2⟩ := digit_le (n := n) (ds := l) fun d hd => h d (.tail _ hd)
    have h3 := h e (.head _)
    have hp : (1 : Int) ≤ 2 ^ n := Int.pow_pos (by decide)
    have h4 : dval n l ≤ 2 ^ n * dval n l := by
      have := Int.mul_le_mul_of_nonneg_right hp h1
      omega
    rw [dval_cons]
    refine ⟨by omega, fun d hd => ?_⟩
    rcases List.mem_cons.mp hd with rfl | hd
    · omega
    · have := h2 d hd; omega
theorem log_of_bits {y : Int} (h : Builtin.Int.intBits y ≤ 1000) : y.natAbs.log2 < 9000 := by
  unfold Builtin.Int.intBits at h
  split at h
  · rename_i h0
    have : y = 0 := by simpa using h0
    rw [this]; decide
  · omega
theorem bits_step {n : Nat} {y r d : Int} (hn : n ≤ 1000) (hr : Builtin.Int.intBits r ≤ 1000) (hd : Builtin.Int.intBits d ≤ 1000) : Builtin.Int.intBits (r * 2 ^ n + d) ≤ 2100 ∧ Builtin.Int.intBits ((r * 2 ^ n + d).fdiv y) ≤ 2100 := by
  have h2 : Builtin.Int.intBits ((2 : Int) ^ n) ≤ n + 1 := by
    refine intBits_le_iff.mpr ?_
    rw [Int.natAbs_pow]; exact Nat.pow_lt_pow_right (by decide) (Nat.lt_succ_self n)
  have h3 := intBits_add_le (intBits_mul_le hr h2) hd
  have h4 : Builtin.Int.intBits (r * 2 ^ n + d) ≤ 2100 := Nat.le_trans h3 (by omega)
  exact ⟨h4, intBits_fdiv_le h4⟩
theorem Fr.knownX {h₀ h : Heap} {L : Addr} {x : Str} {v : Value} {m : Str → Option Value} (F : Fr h₀ L h (fun y => if y = x then some v else m y)) (ps : List (Str × Value)) (hx : ∀ n ∈ ps.map (·.1), n ≠ x) (hk : ∀ p ∈ ps, m p.1 = some p.2) :
    Fr h₀ L h (kstB (fun y => if y = x then some v else m y) ((x, v) :: ps)) :=
  Fr.known F _ (List.forall_mem_cons.mpr ⟨if_pos rfl, fun p hp => by
    show (if p.1 = x then some v else m p.1) = _
    rw [if_neg (hx p.1 (List.mem_map_of_mem hp))]; exact hk p hp⟩)
section
variable {w : World} {p : Program} {loose : List Str} {mean : ExcName → Option Value} {mg mb : Str → Option Value} {dp un : Nat} {gd : Option (List Code)} {cn : Str} {cs : Scope} {a : Addr} {ccd : Value} {cl : List (Str × Addr)} {outer : List Env} {A₀ : Around} {base h₀ : Heap} {L : Addr} {m : Str → Option Value} {news : List (Addr × Obj)} {s : Shared} {Q E : Value → Shared → Prop}

def revIt (l : Addr) (i : Int) (o : Obj) : Prop := o.cls = .type "list_reverseiterator" ∧ o.data = .fields #[.ref l, rawInt i]
theorem newTuple_lt {vs : List Value} (F : Fr h₀ L s.heap m) (N : News h₀ L s.heap news)
    (h : ∀ t h', Fr h₀ L h' m → News h₀ L h' ((t, tupOf vs.toArray 0) :: news) → (∀ p ∈ news, p.1 < t) → Q (.ref t) { s with heap := h' }) (hsz : vs.length ≤ sizeLine := by size_fits) {A : Around} : wpAny (model PG w) A (newTuple vs) Q E s :=
  newTuple_N F N (fun h' F' N' => h _ h' F' N' fun p hp => Heap.lt_size (N p hp).1) hsz
theorem c_divpos {x y : Int} {t1 t2 : Tok} {fr T : List (Addr × Obj)} (S : Site w p loose mean mg mb cs A₀ base outer h₀) (F : Fr h₀ L s.heap m) (N : News h₀ L s.heap (fr ++ T)) (TT : TabL T) (hfr : Ap fr) (hdp : dp + 60 < recursionLimit) (hun : un + 600 < cLine)
    (hx : 0 ≤ x) (hy : 0 < y) (hxb : Builtin.Int.intBits x ≤ 1000) (hyb : Builtin.Int.intBits y ≤ 1000) (hb2 : Builtin.Int.intBits x ≤ 40 * Builtin.Int.intBits y)
    (hret : ∀ (r : Addr) (t t' : Tok) (h' : Heap) (tk' : Nat) (T' : List (Addr × Obj)), Fr h₀ L h' m → News h₀ L h' ((r, tupOf #[.int (x / y) t, .int (x % y) t'] 0) :: (fr ++ T')) → TabL T' → (∀ q ∈ fr, q.1 < r) → (∀ e ∈ fr, (∀ q ∈ T, q.1 ≠ e.1) → ∀ q ∈ T', q.1 ≠ e.1) → (∀ q ∈ T', q.1 ≠ r) → 58 < r →
      Q (.ref r) {s with heap := h', toks := tk'}) :
    wpAny (model PG w) (ktrTop dp un gd cn cs L a ccd cl outer) (call (.ref 70) [.int x t1, .int y t2]) Q E s := by
  obtain ⟨B, X, T0, hk⟩ := S
  k_with_none
  k_with "k all" => (first | exact ne_all (by assumption) (by omega) | exact ne_allLt (by assumption) (by omega) | exact ne_allLt (And.right (by assumption)) (by omega) | exact ne_allLt (And.right (And.right (by assumption))) (by omega) | exact ne_allLt (And.right (And.right (And.right (by assumption)))) (by omega) | exact ne_allLt (And.right (And.right (And.right (And.right (by assumption))))) (by omega) | assumption)
  k_with "is list" => (exact News.isList (by assumption) (by k_mem))
  k_with "mul fits" => (first | exact PySem.IntMulOk.of_right (Mine.fit8 (by with_reducible assumption)) | exact PySem.IntMulOk.of_left (Mine.fit8 (by with_reducible assumption)) | exact PySem.IntMulOk.of_left (Mine.fitL (by decide)) | exact PySem.IntMulOk.of_right (Mine.fitL (by decide)))
  k_with "omega" => (first | with_reducible assumption | exact Mine.rl1 (by with_reducible assumption) (by decide) | exact Mine.rl2 (by with_reducible assumption) (by decide) | exact Mine.rl0 (by with_reducible assumption) | decide | (law_clear; law_purse 20000 => lia))
  k_with "newTuple" => (k_here; k_dflt (refine' newTuple_lt ?k1 ?k2 ?_ ?k3; (case k1 => k_asm); (case k2 => k_asm); (case k3 => size_fits); k_whole); intro _ _ _ _ _)
  k_with "binaryOp LShift int int" => (with_reducible refine lshift_int ?ls1 ?ls2 ?_; (case ls1 => assumption); (case ls2 => assumption))
  (have HH : PySem.Challenge.rw_sr0069_01.row.prog = PG ∧ Mine.hd.heap_39 = Mine.hd.heap_39 := ⟨rfl, rfl⟩)
  revert HH
  k_fill
  intro HH
  clear HH
  refine wpAny_call ?_
  (k_dflt (refine' code_def (binds := [(Str.ofString "a", .int x t1), (Str.ofString "b", .int y t2)]) ?k1 ?k2 ?k3 ?k4 ?k5 ?kA ?kF ?kK ?k6 ?k7 ?k8 ?k9 ?kB ?_ ?c2 ?c3 ?c4 ?c5; (case kA => exact rfl); (case kF => exact rfl); (case kK => assumption); (case k1 => k_asm); (case k2 => k_asm); (case k3 => k_asm); (case k4 => k_asm); (case k5 => k_asm); (case k6 => k_is); (case k7 => k_is); (case k8 => ktr_room); (case k9 => exact BindsTo.of_eq rfl); (case c5 => decide); (case kB => exact locs rfl); (case c2 => exact rfl); (case c3 => exact rfl); (case c4 => exact rfl); k_whole))
  intro g L1 h1 FG F1 N1 B1 X1 T1
  dsimp only
  k_fold
  have hn1 : 1 ≤ Builtin.Int.intBits y := by
    unfold Builtin.Int.intBits
    rw [if_neg (by simp; omega)]; omega
  k_steps
  refine c_i2d (fr := fr) (T := T) ⟨B1, X1, T1, rfl⟩ (by assumption) (by assumption) TT hfr (by show dp + 1 + 50 < recursionLimit; omega) (by show un + 3 + 500 < cLine; omega) hx (by omega) (by omega) (by omega) (by omega) ?_
  intro da ia ca ds h2 tk2 T2 F2 N2 TT2 lt2 ap2 nr2 h582 hi hdv hnn hlen
  k_steps
  rename_i hC tkC hB q hA lq hZ D hY F3 N3 lD
  replace h582 : @LT.lt Nat _ 58 da := h582
  have hlq : ∀ p ∈ fr ++ T2, p.1 ≠ q := ne_allLt lq.2 (Nat.le_refl _)
  have hlD : ∀ p ∈ fr ++ T2, p.1 ≠ D := ne_allLt lD.2.2 (Nat.le_refl _)
  have hlda : ∀ p ∈ fr ++ T2, p.1 ≠ da := ne_app (fun p hp => Nat.ne_of_lt (lt2 p hp)) nr2
  have hil : ia.length = ds.length := IntsAre.length hi
  have hqda : q ≠ da := Nat.ne_of_gt lq.1
  have hqD : q ≠ D := Nat.ne_of_lt lD.1
  have hdaD : da ≠ D := Nat.ne_of_lt lD.2.1
  refine wpAny_pyIter_revIter ⟨_, (N3 _ (.head _)).1, rfl, rfl⟩ ?_
  refine loop_invN (news := (q, W.listOf #[] 0) :: (fr ++ T2)) (fun i m₁ nx => ∃ (qi : List Value) (qs : List Int) (r : Int) (tr : Tok), nx = (q, W.listOf qi.toArray i) :: (fr ++ T2) ∧ IntsAre qi qs ∧ (∀ p ∈ ([(Str.ofString "r", .int r tr), (Str.ofString "b", .int y t2), (Str.ofString "n", .int (Builtin.Int.intBits y : Nat) (s.toks + 2)), (Str.ofString "q_digits", .ref q)] : List (Str × Value)), m₁ p.1 = some p.2) ∧
      dval (Builtin.Int.intBits y) (ds.drop (ds.length - i)) = y * dval (Builtin.Int.intBits y) qs.reverse + r ∧ 0 ≤ r ∧ r < y ∧ qs.length = i ∧ ∀ e ∈ qs, Builtin.Int.intBits e ≤ 2100)
    (Walks.listRev rfl D da hdaD ia.toArray) ?_ ?_ ?_ ?_ ⟨Nat.zero_le _, ?_, News.isList N3 (.tail _ (.tail _ (.head _)))⟩ F3 (News.sub N3 ?_) ?_ ?_ ?_
  · intro hm
    rcases List.mem_cons.mp hm with e | hm
    · exact (N3 _ (.head _)).2.1 e.symm
    · exact (N3 _ (.tail _ (.tail _ (.head _)))).2.1 (List.mem_singleton.mp hm).symm
  · intro b hb
    rw [List.mem_singleton.mp hb]
    exact (N3 _ (.head _)).2.2
  · intro p hp hm
    exact ne_cons hqD hlD p hp (List.mem_singleton.mp hm)
  · intro p hp hm
    rcases List.mem_cons.mp hm with e | hm
    · exact ne_cons hqD hlD p hp e
    · exact ne_cons hqda hlda p hp (List.mem_singleton.mp hm)
  · refine ⟨_, (N3 _ (.head _)).1, rfl, ?_⟩
    show Data.fields _ = _
    have e : (ia.toArray.size : Int) - 1 - ((0 : Nat) : Int) = (ia.length : Int) - 1 := by simp
    rw [e]
  · intro p hp
    rcases List.mem_cons.mp hp with rfl | hp
    · exact .tail _ (.head _)
    · exact .tail _ (.tail _ (.tail _ hp))
  · refine ⟨[], [], 0, tkC, rfl, .nil, ?_, ?_, Int.le_refl _, hy, rfl, fun _ h => nomatch h⟩
    · exact List.forall_mem_cons.mpr ⟨rfl, List.forall_mem_cons.mpr ⟨rfl, List.forall_mem_cons.mpr ⟨rfl, List.forall_mem_cons.mpr ⟨rfl, List.forall_mem_nil _⟩⟩⟩⟩
    · rw [Nat.sub_zero, List.drop_length]; simp [dval_nil, dval_cons]
  · intro i v m₁ nx hh tkk own hiL hv hadr hoff hIn
    refine ex4a8 hIn (fun qi qs r tr hnx hqi hm1 hV hr0 hry hql hqb => ?_)
    clear hIn
    intro F4 N4
    subst hnx
    have hiL' : i < ds.length := by rw [← hil]; simpa using hiL
    have hd1 : ds[ds.length - 1 - i]? = some ds[ds.length - 1 - i] := List.getElem?_eq_getElem (by omega)
    obtain ⟨t9, ht9⟩ := IntsAre.get hi _ _ hd1
    have hv2 : v = .int ds[ds.length - 1 - i] t9 := by
      have h1 : ia[ds.length - 1 - i]? = some v := by rw [← hil]; simpa using hv
      rw [ht9] at h1; exact (Option.some.inj h1).symm
    subst hv2
    generalize hdd : ds[ds.length - 1 - i] = d at *
    have hd0 : d ∈ ds := List.mem_of_getElem? hd1
    have hdl := digit_le (n := Builtin.Int.intBits y) hnn
    have hdx : dval (Builtin.Int.intBits y) ds = x := hdv
    have hdb : Builtin.Int.intBits d ≤ 1000 := intBits_le_of_natAbs (by have h1 := hdl.2 d hd0; have h2 := hnn d hd0; rw [hdx] at h1; omega) hxb
    have hrb : Builtin.Int.intBits r ≤ 1000 := intBits_le_of_natAbs (by omega) hyb
    obtain ⟨hs1, hs2⟩ := bits_step (y := y) (n := Builtin.Int.intBits y) hyb hrb hdb
    have hst := ldiv_step hiL' hd1 hV
    have hls1 : (0 : Int) ≤ (Builtin.Int.intBits y : Int) := by omega
    have hls2 : (Builtin.Int.intBits r : Int) + (Builtin.Int.intBits y : Int) ≤ 2 ^ 27 := by omega
    have F5 := Fr.knownX F4 [(Str.ofString "r", .int r tr), (Str.ofString "b", .int y t2), (Str.ofString "n", .int (Builtin.Int.intBits y : Nat) (s.toks + 2)), (Str.ofString "q_digits", .ref q)] (by dsimp only [List.map]; decide) hm1
    clear F4
    simp only [List.cons_append] at N4
    have hoq : ∀ p ∈ own, p.1 ≠ q := hoff.ne (.head _)
    have hRq : ∀ p ∈ fr ++ T2 ++ own, p.1 ≠ q := ne_app hlq hoq
    k_steps
    simp only [Int.toNat_natCast]
    refine c_div2 ⟨B1, X1, T1, rfl⟩ (by assumption) (by assumption) (by show dp + 1 + 1 < recursionLimit; omega) (by omega) (log_of_bits hyb) (by omega) ?_
    intro tk3 h3 rt tq tr' F6 N6 lt6
    replace lt6 := allLt_of lt6
    simp only [AllLt] at lt6
    k_steps
    refine InvEndN.intro (nx := (q, W.listOf (qi ++ [Value.int ((r * 2 ^ Builtin.Int.intBits y + d).fdiv y) tq]).toArray (i + 1)) :: (fr ++ T2)) (by assumption) (by assumption)
      ⟨_, qs ++ [(r * 2 ^ Builtin.Int.intBits y + d).fdiv y], (r * 2 ^ Builtin.Int.intBits y + d).fmod y, tr', rfl, IntsAre.append hqi (.cons _ tq .nil), ?_, ?_, fmod_lo _ hy, fmod_hi _ hy, by rw [List.length_append, hql]; rfl, ?_⟩ rfl ?_ ?_
    · exact List.forall_mem_cons.mpr ⟨rfl, List.forall_mem_cons.mpr ⟨rfl, List.forall_mem_cons.mpr ⟨rfl, List.forall_mem_cons.mpr ⟨rfl, List.forall_mem_nil _⟩⟩⟩⟩
    · rw [hst, List.reverse_append]; rfl
    · intro e he
      rcases List.mem_append.mp he with he | he
      · exact hqb e he
      · rw [List.mem_singleton.mp he]; exact hs2
    · intro p hp
      rcases List.mem_cons.mp hp with rfl | hp
      · rw [← List.push_toArray]; exact .tail _ (.head _)
      · exact .tail _ (.tail _ (List.mem_append_left _ hp))
    · intro p hp
      exact .tail _ (.tail _ (List.mem_append_right _ hp))
  · intro m₁ nx hh tkk hIn
    refine ex4a8 hIn (fun qi qs r tr hnx hqi hm1 hV hr0 hry hql hqb => ?_)
    clear hIn
    intro F4 N4
    rw [hnx] at N4
    have hia : ia.toArray.size = ds.length := by simpa using hil
    have hdv2 : dval (Builtin.Int.intBits y) ds = x := hdv
    rw [hia, Nat.sub_self, List.drop_zero, hdv2] at hV
    rw [hia] at hql N4
    replace F4 := Fr.known F4 _ hm1
    dsimp only
    k_steps
    rename_i hR F7 N7 i7
    have e7 : qi.toArray.toList.reverse.length = ds.length := by rw [IntsAre.length i7, List.length_reverse, hql]
    refine c_d2i (fr := (q, W.listOf qi.toArray.toList.reverse.toArray ds.length) :: fr) (T := T2) (Bd := 2100) ⟨B1, X1, T1, rfl⟩ (by assumption) N7 TT2 (Ap.cons (by omega) hfr) (by show dp + 1 + 50 < recursionLimit; omega) (by show un + 3 + 500 < cLine; omega) (.head _) i7 (by rw [List.length_reverse]; omega) (fun e he => hqb e (List.mem_reverse.mp he)) (by omega) (by omega) (by omega) ?_
    intro h8 tk8 t8 T8 F8 N8 TT8 ap8
    simp only [List.cons_append] at N8
    k_steps
    rename_i t9 h9 F9 N9 l9 kF kN _ _
    have hdr : dval (Builtin.Int.intBits y : Int).toNat qs.reverse = dval (Builtin.Int.intBits y) qs.reverse := rfl
    obtain ⟨e1, e2⟩ := (Int.ediv_emod_unique (a := x) (r := r) (q := dval (Builtin.Int.intBits y) qs.reverse) hy).mpr ⟨by rw [hV, Int.add_comm], hr0, hry⟩
    have l58 : @LT.lt Nat _ 58 t9 := by
      obtain ⟨o1, o2, rest, rfl, _⟩ := TT8
      exact l9 (58, o2) (.tail _ (List.mem_append_right _ (.tail _ (.head _))))
    refine hret t9 t8 tr _ _ T8 kF (News.sub kN ?_) TT8 (fun e he => l9 e (.tail _ (List.mem_append_left _ he))) (fun e he hT => ap8 e (.tail _ he) (ap2 e he hT)) (fun e he => Nat.ne_of_lt (l9 e (.tail _ (List.mem_append_right _ he)))) l58
    intro p hp
    rw [e1, e2] at hp
    rcases List.mem_cons.mp hp with rfl | hp
    · exact .head _
    · exact .tail _ (.tail _ hp)
end
end
section
theorem fdm_neg (x y : Int) : (-x).fdiv (-y) = x.fdiv y ∧ -((-x).fmod (-y)) = x.fmod y := by
  have h1 : (-x).fdiv (-y) = x.fdiv y := Int.neg_fdiv_neg x y
  refine ⟨h1, ?_⟩
  have h2 := Int.fmod_add_mul_fdiv x y
  have h3 := Int.fmod_add_mul_fdiv (-x) (-y)
  rw [h1, Int.neg_mul] at h3
  clear h1
  generalize x.fmod y = A at *
  generalize (-x).fmod (-y) = B at *
  generalize y * x.fdiv y = P at *
  omega
theorem fdm_not {x y : Int} (hy : 0 < y) : -(((-x - 1).fdiv y)) - 1 = x.fdiv y ∧ y + (-((-x - 1).fmod y) - 1) = x.fmod y := by
  rw [Int.fdiv_eq_ediv_of_nonneg _ (Int.le_of_lt hy), Int.fdiv_eq_ediv_of_nonneg _ (Int.le_of_lt hy), Int.fmod_eq_emod_of_nonneg _ (Int.le_of_lt hy), Int.fmod_eq_emod_of_nonneg _ (Int.le_of_lt hy)]
  have h1 := Int.emod_add_mul_ediv (-x - 1) y
  have h2 := Int.emod_nonneg (-x - 1) (Int.ne_of_gt hy)
  have h3 := Int.emod_lt_of_pos (-x - 1) hy
  have h4 := (Int.ediv_emod_unique (a := x) (r := y + (-((-x - 1) % y) - 1)) (q := -((-x - 1) / y) - 1) hy).mpr ⟨by
    rw [Int.mul_sub, Int.mul_neg]; omega, by omega, by omega⟩
  exact ⟨h4.1.symm, h4.2.symm⟩
section
variable {w : World} {p : Program} {loose : List Str} {mean : ExcName → Option Value} {mg mb : Str → Option Value} {dp un : Nat} {gd : Option (List Code)} {cn : Str} {cs : Scope} {a : Addr} {ccd : Value} {cl : List (Str × Addr)} {outer : List Env} {A₀ : Around} {base h₀ : Heap} {L : Addr} {m : Str → Option Value} {news : List (Addr × Obj)} {s : Shared} {Q E : Value → Shared → Prop}

def DmRet (h₀ : Heap) (L : Addr) (m : Str → Option Value) (fr T : List (Addr × Obj)) (s : Shared) (Q : Value → Shared → Prop) (a b : Int) : Prop :=
  ∀ (r : Addr) (t t' : Tok) (h' : Heap) (tk' : Nat) (T' : List (Addr × Obj)), Fr h₀ L h' m → News h₀ L h' ((r, tupOf #[.int a t, .int b t'] 0) :: (fr ++ T')) → TabL T' → (∀ q ∈ fr, q.1 < r) → (∀ e ∈ fr, (∀ q ∈ T, q.1 ≠ e.1) → ∀ q ∈ T', q.1 ≠ e.1) → (∀ q ∈ T', q.1 ≠ r) → @LT.lt Nat _ 58 r →
      Q (.ref r) {s with heap := h', toks := tk'}
theorem dm_end {fr T T' : List (Addr × Obj)} {e : Addr × Obj} {a b : Int} {t t' : Tok} {r : Addr} {h' : Heap} {tk' : Nat} (hret : DmRet h₀ L m fr T s Q a b) (TT2 : TabL T')
    (l2 : ∀ e ∈ fr, (∀ q ∈ T, q.1 ≠ e.1) → ∀ q ∈ T', q.1 ≠ e.1) (kF : Fr h₀ L h' m) (kN : News h₀ L h' ((r, tupOf #[.int a t, .int b t'] 0) :: e :: (fr ++ T'))) (l9 : ∀ p ∈ e :: (fr ++ T'), p.1 < r) : Q (.ref r) {s with heap := h', toks := tk'} := by
  have l58 : @LT.lt Nat _ 58 r := by
    obtain ⟨o1, o2, rest, rfl, _⟩ := TT2
    exact l9 (58, o2) (.tail _ (List.mem_append_right _ (.tail _ (.head _))))
  refine hret r t t' h' tk' T' kF (News.sub kN ?_) TT2 (fun e he => l9 e (.tail _ (List.mem_append_left _ he))) l2 (fun e he => Nat.ne_of_lt (l9 e (.tail _ (List.mem_append_right _ he)))) l58
  intro p hp
  rcases List.mem_cons.mp hp with rfl | hp
  · exact .head _
  · exact .tail _ (.tail _ hp)
theorem c_idm0 {x y : Int} {t1 t2 : Tok} {fr T : List (Addr × Obj)} (S : Site w p loose mean mg mb cs A₀ base outer h₀) (F : Fr h₀ L s.heap m) (N : News h₀ L s.heap (fr ++ T)) (TT : TabL T) (hfr : Ap fr) (hdp : dp + 70 < recursionLimit) (hun : un + 700 < cLine)
    (hx : 0 ≤ x) (hy : 0 < y) (hxb : Builtin.Int.intBits x ≤ 1000) (hyb : Builtin.Int.intBits y ≤ 1000) (hb2 : Builtin.Int.intBits x ≤ 40 * Builtin.Int.intBits y)
    (hret : DmRet h₀ L m fr T s Q (x.fdiv y) (x.fmod y)) :
    wpAny (model PG w) (ktrTop dp un gd cn cs L a ccd cl outer) (call (.ref 77) [.int x t1, .int y t2]) Q E s := by
  obtain ⟨B, X, T0, hk⟩ := S
  k_with_none
  k_with "k all" => (first | exact ne_all (by assumption) (by omega) | exact ne_allLt (by assumption) (by omega) | exact ne_allLt (And.right (by assumption)) (by omega) | exact ne_allLt (And.right (And.right (by assumption))) (by omega) | exact ne_allLt (And.right (And.right (And.right (by assumption)))) (by omega) | exact ne_allLt (And.right (And.right (And.right (And.right (by assumption))))) (by omega) | assumption)
  k_with "is list" => (exact News.isList (by assumption) (by k_mem))
  k_with "mul fits" => (first | exact PySem.IntMulOk.of_right (Mine.fit8 (by with_reducible assumption)) | exact PySem.IntMulOk.of_left (Mine.fit8 (by with_reducible assumption)) | exact PySem.IntMulOk.of_left (Mine.fitL (by decide)) | exact PySem.IntMulOk.of_right (Mine.fitL (by decide)))
  k_with "omega" => (first | with_reducible assumption | exact Mine.rl1 (by with_reducible assumption) (by decide) | exact Mine.rl2 (by with_reducible assumption) (by decide) | exact Mine.rl0 (by with_reducible assumption) | decide | (law_clear; law_purse 20000 => lia))
  k_with "newTuple" => (k_here; k_dflt (refine' newTuple_lt ?k1 ?k2 ?_ ?k3; (case k1 => k_asm); (case k2 => k_asm); (case k3 => size_fits); k_whole); intro _ _ _ _ _)
  (have HH : PySem.Challenge.rw_sr0069_01.row.prog = PG ∧ Mine.hd.heap_39 = Mine.hd.heap_39 := ⟨rfl, rfl⟩)
  revert HH
  k_fill
  intro HH
  clear HH
  refine wpAny_call ?_
  (k_dflt (refine' code_def (binds := [(Str.ofString "a", .int x t1), (Str.ofString "b", .int y t2)]) ?k1 ?k2 ?k3 ?k4 ?k5 ?kA ?kF ?kK ?k6 ?k7 ?k8 ?k9 ?kB ?_ ?c2 ?c3 ?c4 ?c5; (case kA => exact rfl); (case kF => exact rfl); (case kK => assumption); (case k1 => k_asm); (case k2 => k_asm); (case k3 => k_asm); (case k4 => k_asm); (case k5 => k_asm); (case k6 => k_is); (case k7 => k_is); (case k8 => ktr_room); (case k9 => exact BindsTo.of_eq rfl); (case c5 => decide); (case kB => exact locs rfl); (case c2 => exact rfl); (case c3 => exact rfl); (case c4 => exact rfl); k_whole))
  intro g L1 h1 FG F1 N1 B1 X1 T1
  dsimp only
  k_fold
  k_steps
  rw [Int.fdiv_eq_ediv_of_nonneg _ (Int.le_of_lt hy), Int.fmod_eq_emod_of_nonneg _ (Int.le_of_lt hy)] at hret
  refine c_divpos (fr := fr) (T := T) ⟨B1, X1, T1, rfl⟩ (by assumption) (by assumption) TT hfr (by show dp + 1 + 60 < recursionLimit; omega) (by show un + 3 + 600 < cLine; omega) hx hy hxb hyb hb2 ?_
  intro r t t' h' tk' T' F2 N2 TT2 l1 l2 l3 l4
  k_steps
  exact hret r t t' _ _ T' (by assumption) (by assumption) TT2 l1 l2 l3 l4

theorem c_idm1 {x y : Int} {t1 t2 : Tok} {fr T : List (Addr × Obj)} (S : Site w p loose mean mg mb cs A₀ base outer h₀) (F : Fr h₀ L s.heap m) (N : News h₀ L s.heap (fr ++ T)) (TT : TabL T) (hfr : Ap fr) (hdp : dp + 72 < recursionLimit) (hun : un + 720 < cLine)
    (hy : 0 < y) (hxb : Builtin.Int.intBits x ≤ 1000) (hyb : Builtin.Int.intBits y ≤ 1000) (hb2 : Builtin.Int.intBits x ≤ 40 * Builtin.Int.intBits y)
    (hret : DmRet h₀ L m fr T s Q (x.fdiv y) (x.fmod y)) :
    wpAny (model PG w) (ktrTop dp un gd cn cs L a ccd cl outer) (call (.ref 77) [.int x t1, .int y t2]) Q E s := by
  by_cases hx : 0 ≤ x
  · exact c_idm0 S F N TT hfr (by omega) (by omega) hx hy hxb hyb hb2 hret
  obtain ⟨B, X, T0, hk⟩ := S
  k_with_none
  k_with "k all" => (first | exact ne_all (by assumption) (by omega) | exact ne_allLt (by assumption) (by omega) | exact ne_allLt (And.right (by assumption)) (by omega) | exact ne_allLt (And.right (And.right (by assumption))) (by omega) | exact ne_allLt (And.right (And.right (And.right (by assumption)))) (by omega) | exact ne_allLt (And.right (And.right (And.right (And.right (by assumption))))) (by omega) | assumption)
  k_with "is list" => (exact News.isList (by assumption) (by k_mem))
  k_with "mul fits" => (first | exact PySem.IntMulOk.of_right (Mine.fit8 (by with_reducible assumption)) | exact PySem.IntMulOk.of_left (Mine.fit8 (by with_reducible assumption)) | exact PySem.IntMulOk.of_left (Mine.fitL (by decide)) | exact PySem.IntMulOk.of_right (Mine.fitL (by decide)))
  k_with "omega" => (first | with_reducible assumption | exact Mine.rl1 (by with_reducible assumption) (by decide) | exact Mine.rl2 (by with_reducible assumption) (by decide) | exact Mine.rl0 (by with_reducible assumption) | decide | (law_clear; law_purse 20000 => lia))
  k_with "newTuple" => (k_here; k_dflt (refine' newTuple_lt ?k1 ?k2 ?_ ?k3; (case k1 => k_asm); (case k2 => k_asm); (case k3 => size_fits); k_whole); intro _ _ _ _ _)
  (have HH : PySem.Challenge.rw_sr0069_01.row.prog = PG ∧ Mine.hd.heap_39 = Mine.hd.heap_39 := ⟨rfl, rfl⟩)
  revert HH
  k_fill
  intro HH
  clear HH
  refine wpAny_call ?_
  (k_dflt (refine' code_def (binds := [(Str.ofString "a", .int x t1), (Str.ofString "b", .int y t2)]) ?k1 ?k2 ?k3 ?k4 ?k5 ?kA ?kF ?kK ?k6 ?k7 ?k8 ?k9 ?kB ?_ ?c2 ?c3 ?c4 ?c5; (case kA => exact rfl); (case kF => exact rfl); (case kK => assumption); (case k1 => k_asm); (case k2 => k_asm); (case k3 => k_asm); (case k4 => k_asm); (case k5 => k_asm); (case k6 => k_is); (case k7 => k_is); (case k8 => ktr_room); (case k9 => exact BindsTo.of_eq rfl); (case c5 => decide); (case kB => exact locs rfl); (case c2 => exact rfl); (case c3 => exact rfl); (case c4 => exact rfl); k_whole))
  intro g L1 h1 FG F1 N1 B1 X1 T1
  dsimp only
  k_fold
  k_steps
  have en : Builtin.bitNot x = -x - 1 := rfl
  rw [en]
  refine c_idm0 (fr := fr) (T := T) ⟨B1, X1, T1, rfl⟩ (by assumption) (by assumption) TT hfr (by show dp + 1 + 70 < recursionLimit; omega) (by show un + 3 + 700 < cLine; omega) (by omega) hy (intBits_le_of_natAbs (by omega) hxb) hyb (Nat.le_trans (intBits_le_of_natAbs (y := x) (by omega) (Nat.le_refl _)) hb2) ?_
  intro r t t' h' tk' T' F2 N2 TT2 l1 l2 l3 l4
  k_steps
  rename_i t9 h9 F9 N9 l9 kF kN _ _
  obtain ⟨e1, e2⟩ := fdm_not (x := x) hy
  have e3 : Builtin.bitNot ((-x - 1).fdiv y) = x.fdiv y := e1
  have e4 : y + Builtin.bitNot ((-x - 1).fmod y) = x.fmod y := e2
  rw [e3, e4] at kN
  exact dm_end hret TT2 l2 kF kN l9

theorem c_idm {x y : Int} {t1 t2 : Tok} {fr T : List (Addr × Obj)} (S : Site w p loose mean mg mb cs A₀ base outer h₀) (F : Fr h₀ L s.heap m) (N : News h₀ L s.heap (fr ++ T)) (TT : TabL T) (hfr : Ap fr) (hdp : dp + 75 < recursionLimit) (hun : un + 750 < cLine)
    (hy : y ≠ 0) (hxb : Builtin.Int.intBits x ≤ 1000) (hyb : Builtin.Int.intBits y ≤ 1000) (hb2 : Builtin.Int.intBits x ≤ 40 * Builtin.Int.intBits y)
    (hret : DmRet h₀ L m fr T s Q (x.fdiv y) (x.fmod y)) :
    wpAny (model PG w) (ktrTop dp un gd cn cs L a ccd cl outer) (call (.ref 77) [.int x t1, .int y t2]) Q E s := by
  by_cases hy1 : 0 < y
  · exact c_idm1 S F N TT hfr (by omega) (by omega) hy1 hxb hyb hb2 hret
  obtain ⟨B, X, T0, hk⟩ := S
  k_with_none
  k_with "k all" => (first | exact ne_all (by assumption) (by omega) | exact ne_allLt (by assumption) (by omega) | exact ne_allLt (And.right (by assumption)) (by omega) | exact ne_allLt (And.right (And.right (by assumption))) (by omega) | exact ne_allLt (And.right (And.right (And.right (by assumption)))) (by omega) | exact ne_allLt (And.right (And.right (And.right (And.right (by assumption))))) (by omega) | assumption)
  k_with "is list" => (exact News.isList (by assumption) (by k_mem))
  k_with "mul fits" => (first | exact PySem.IntMulOk.of_right (Mine.fit8 (by with_reducible assumption)) | exact PySem.IntMulOk.of_left (Mine.fit8 (by with_reducible assumption)) | exact PySem.IntMulOk.of_left (Mine.fitL (by decide)) | exact PySem.IntMulOk.of_right (Mine.fitL (by decide)))
  k_with "omega" => (first | with_reducible assumption | exact Mine.rl1 (by with_reducible assumption) (by decide) | exact Mine.rl2 (by with_reducible assumption) (by decide) | exact Mine.rl0 (by with_reducible assumption) | decide | (law_clear; law_purse 20000 => lia))
  k_with "newTuple" => (k_here; k_dflt (refine' newTuple_lt ?k1 ?k2 ?_ ?k3; (case k1 => k_asm); (case k2 => k_asm); (case k3 => size_fits); k_whole); intro _ _ _ _ _)
  (have HH : PySem.Challenge.rw_sr0069_01.row.prog = PG ∧ Mine.hd.heap_39 = Mine.hd.heap_39 := ⟨rfl, rfl⟩)
  revert HH
  k_fill
  intro HH
  clear HH
  refine wpAny_call ?_
  (k_dflt (refine' code_def (binds := [(Str.ofString "a", .int x t1), (Str.ofString "b", .int y t2)]) ?k1 ?k2 ?k3 ?k4 ?k5 ?kA ?kF ?kK ?k6 ?k7 ?k8 ?k9 ?kB ?_ ?c2 ?c3 ?c4 ?c5; (case kA => exact rfl); (case kF => exact rfl); (case kK => assumption); (case k1 => k_asm); (case k2 => k_asm); (case k3 => k_asm); (case k4 => k_asm); (case k5 => k_asm); (case k6 => k_is); (case k7 => k_is); (case k8 => ktr_room); (case k9 => exact BindsTo.of_eq rfl); (case c5 => decide); (case kB => exact locs rfl); (case c2 => exact rfl); (case c3 => exact rfl); (case c4 => exact rfl); k_whole))
  intro g L1 h1 FG F1 N1 B1 X1 T1
  dsimp only
  k_fold
  k_steps
  refine c_idm1 (fr := fr) (T := T) ⟨B1, X1, T1, rfl⟩ (by assumption) (by assumption) TT hfr (by show dp + 1 + 72 < recursionLimit; omega) (by show un + 3 + 720 < cLine; omega) (by omega) (intBits_le_of_natAbs (Nat.le_of_eq (Int.natAbs_neg _)) hxb) (intBits_le_of_natAbs (Nat.le_of_eq (Int.natAbs_neg _)) hyb)
    (Nat.le_trans (intBits_le_of_natAbs (y := x) (Nat.le_of_eq (Int.natAbs_neg _)) (Nat.le_refl _)) (Nat.le_trans hb2 (Nat.mul_le_mul_left _ (intBits_le_of_natAbs (Nat.le_of_eq (Int.natAbs_neg _).symm) (Nat.le_refl _))))) ?_
  intro r t t' h' tk' T' F2 N2 TT2 l1 l2 l3 l4
  k_steps
  rename_i t9 h9 F9 N9 l9 kF kN _ _
  obtain ⟨e1, e2⟩ := fdm_neg x y
  rw [e1] at kN l9
  rw [e2] at kN
  exact dm_end hret TT2 l2 kF kN l9
end
end
section
/-- a turn's end: the invariant holds again, at a smaller number -/
def Turn (I : Nat → Shared → Prop) (n : Nat) (s : Shared) : Prop := ∃ m, m < n ∧ I m s
theorem while_rule {prog : Program} {w : World} {A : Around} {E : Value → Shared → Prop} {s : Shared} {env : Env} {test : PySem.Expr} {body orelse : List Stmt} {pos : Pos} {Q : Flow → Shared → Prop} (I : Nat → Shared → Prop) (n : Nat) (h : I n s)
    (turn : ∀ n s, I n s → ∀ E' : Value → Shared → Prop, wpAny (model prog w) A (isTrue test env (eval test env)) (fun b s₂ => if b = true then wpAny (model prog w) A (execs body env) (fun f s₃ => match f with
        | .next | .cont => Turn I n s₃
        | .brk => Q .next s₃
        | .ret v => Q (.ret v) s₃) E' s₂ else wpAny (model prog w) A (execs orelse env) Q E' s₂) E' s) :
    wpAny (model prog w) A (exec (.While test body orelse pos) env) Q E s :=
  wpAny_While (codeAny_whileLoop I (fun n s hI => turn n s hI _) n h)
theorem forLoop_rule {prog : Program} {w : World} {A : Around} {E : Value → Shared → Prop} {s : Shared} {env : Env} {x : Str} {px : Pos} {it : Value} {body : List Stmt} {Q : Flow → Shared → Prop} (I : Nat → Shared → Prop) (n : Nat) (h : I n s)
    (turn : ∀ n s, I n s → ∀ E' : Value → Shared → Prop, wpAny (model prog w) A (pyNext it) (fun r s₁ => match r with
      | none => Q .next s₁
      | some v => wpAny (model prog w) A (storeName env x v) (fun _ s₂ => wpAny (model prog w) A (execs body env) (fun f s₃ => match f with
          | .next | .cont => Turn I n s₃
          | .brk => Q .next s₃
          | .ret v => Q (.ret v) s₃) E' s₂) E' s₁) E' s) :
    codeAny (model prog w) A (.forLoop (.Name x px) it body [] env) (fun r s' => match r with | .ok f => Q f s' | .error e => cameBackBy (model prog w) A env E e s') s := by
  refine codeAny_forLoop I (fun n s hI => wpAny_mono (turn n s hI _) (fun r s₁ h₁ => ?_) fun _ _ e => e) n h
  cases r with
  | none => exact wpAny_execs_nil h₁
  | some v => exact wpAny_assign_Name h₁

theorem opq {α : Sort _} {A B : α → Prop} {g : Prop} (v : α) (a : A v) (b : B v) (h : ∀ I, A I → B I → g) : g := h v a b
theorem while_ruleP {prog : Program} {w : World} {A : Around} {E : Value → Shared → Prop} {s : Shared} {env : Env} {test : PySem.Expr} {body orelse : List Stmt} {pos : Pos} {Q : Flow → Shared → Prop} (I : Nat → Shared → Prop) (n : Nat) (h : I n s)
    (turn : ∀ n s, I n s → ∀ (E' : Value → Shared → Prop) (P : Flow → Shared → Prop), (∀ m s, m < n → I m s → P .next s) → (∀ s, Q .next s → P .brk s) → (∀ v s, Q (.ret v) s → P (.ret v) s) → wpAny (model prog w) A (isTrue test env (eval test env)) (fun b s₂ => if b = true then wpAny (model prog w) A (execs body env) P E' s₂ else wpAny (model prog w) A (execs orelse env) Q E' s₂) E' s) :
    wpAny (model prog w) A (exec (.While test body orelse pos) env) Q E s :=
  while_rule I n h (fun n s hI E' => turn n s hI E' (fun f s₃ => match f with
        | .next => Turn I n s₃
        | .cont => Turn I n s₃
        | .brk => Q .next s₃
        | .ret v => Q (.ret v) s₃) (fun m _ hm hi => ⟨m, hm, hi⟩) (fun _ h => h) (fun _ _ h => h))
theorem forLoop_ruleP {prog : Program} {w : World} {A : Around} {E : Value → Shared → Prop} {s : Shared} {env : Env} {x : Str} {px : Pos} {it : Value} {body : List Stmt} {Q : Flow → Shared → Prop} (I : Nat → Shared → Prop) (n : Nat) (h : I n s)
    (turn : ∀ n s, I n s → ∀ (E' : Value → Shared → Prop) (P : Flow → Shared → Prop), (∀ m s, m < n → I m s → P .next s) → (∀ s, Q .next s → P .brk s) → (∀ v s, Q (.ret v) s → P (.ret v) s) → wpAny (model prog w) A (pyNext it) (fun r s₁ => match r with
      | none => Q .next s₁
      | some v => wpAny (model prog w) A (storeName env x v) (fun _ s₂ => wpAny (model prog w) A (execs body env) P E' s₂) E' s₁) E' s) :
    codeAny (model prog w) A (.forLoop (.Name x px) it body [] env) (fun r s' => match r with | .ok f => Q f s' | .error e => cameBackBy (model prog w) A env E e s') s :=
  forLoop_rule I n h (fun n s hI E' => turn n s hI E' (fun f s₃ => match f with
        | .next => Turn I n s₃
        | .cont => Turn I n s₃
        | .brk => Q .next s₃
        | .ret v => Q (.ret v) s₃) (fun m _ hm hi => ⟨m, hm, hi⟩) (fun _ h => h) (fun _ _ h => h))

theorem bits_small {u : Int} {k : Nat} (h0 : 0 ≤ u) (h : u < 2 ^ k) : Builtin.Int.intBits u ≤ k := by
  refine intBits_le_iff.mpr ?_
  have e : ((u.natAbs : Nat) : Int) < ((2 ^ k : Nat) : Int) := by rw [Int.natAbs_of_nonneg h0, Int.natCast_pow]; exact h
  exact Int.ofNat_lt.mp e
theorem bits_pos {u : Int} (h : u ≠ 0) : 1 ≤ Builtin.Int.intBits u := by
  unfold Builtin.Int.intBits
  rw [if_neg (by simpa using h)]; omega
/-- what the law's own gcd gives -/
def comm (a b : Int) : Int := (Nat.gcd a.toNat b.toNat : Nat)
theorem comm_zero {a : Int} (h : 0 ≤ a) : comm a 0 = a := by
  unfold comm
  rw [show (0 : Int).toNat = 0 from rfl, Nat.gcd_zero_right]; omega
theorem comm_step {a b : Int} (ha : 0 ≤ a) (hb : 0 < b) : comm b (a.fmod b) = comm a b := by
  unfold comm
  obtain ⟨m, rfl⟩ := Int.eq_ofNat_of_zero_le ha
  obtain ⟨k, rfl⟩ := Int.eq_ofNat_of_zero_le (Int.le_of_lt hb)
  rw [Int.fmod_eq_emod_of_nonneg _ (Int.natCast_nonneg k), ← Int.natCast_emod, Int.toNat_natCast, Int.toNat_natCast, Int.toNat_natCast]
  rw [Nat.gcd_comm m k, Nat.gcd_rec k m, Nat.gcd_comm]
section
variable {w : World} {p : Program} {loose : List Str} {mean : ExcName → Option Value} {mg mb : Str → Option Value} {dp un : Nat} {gd : Option (List Code)} {cn : Str} {cs : Scope} {a : Addr} {ccd : Value} {cl : List (Str × Addr)} {outer : List Env} {A₀ : Around} {base h₀ : Heap} {L : Addr} {m : Str → Option Value} {news : List (Addr × Obj)} {s : Shared} {Q E : Value → Shared → Prop}

theorem c_common {x y : Int} {t1 t2 : Tok} {fr T : List (Addr × Obj)} (S : Site w p loose mean mg mb cs A₀ base outer h₀) (F : Fr h₀ L s.heap m) (N : News h₀ L s.heap (fr ++ T)) (TT : TabL T) (hfr : Ap fr) (hdp : dp + 80 < recursionLimit) (hun : un + 800 < cLine)
    (hx : 0 ≤ x) (hy : 0 ≤ y) (hx2 : x < 128) (hy2 : y < 128)
    (hret : ∀ (t : Tok) (h' : Heap) (tk' : Nat) (T' : List (Addr × Obj)), Fr h₀ L h' m → News h₀ L h' (fr ++ T') → TabL T' → (∀ e ∈ fr, (∀ q ∈ T, q.1 ≠ e.1) → ∀ q ∈ T', q.1 ≠ e.1) → Q (.int (comm x y) t) {s with heap := h', toks := tk'}) :
    wpAny (model PG w) (ktrTop dp un gd cn cs L a ccd cl outer) (call (.ref 150) [.int x t1, .int y t2]) Q E s := by
  obtain ⟨B, X, T0, hk⟩ := S
  k_with_none
  k_with "k all" => (first | exact ne_all (by assumption) (by omega) | exact ne_allLt (by assumption) (by omega) | exact ne_allLt (And.right (by assumption)) (by omega) | exact ne_allLt (And.right (And.right (by assumption))) (by omega) | exact ne_allLt (And.right (And.right (And.right (by assumption)))) (by omega) | exact ne_allLt (And.right (And.right (And.right (And.right (by assumption))))) (by omega) | assumption)
  k_with "is list" => (exact News.isList (by assumption) (by k_mem))
  k_with "mul fits" => (first | exact PySem.IntMulOk.of_right (Mine.fit8 (by with_reducible assumption)) | exact PySem.IntMulOk.of_left (Mine.fit8 (by with_reducible assumption)) | exact PySem.IntMulOk.of_left (Mine.fitL (by decide)) | exact PySem.IntMulOk.of_right (Mine.fitL (by decide)))
  k_with "omega" => (first | with_reducible assumption | exact Mine.rl1 (by with_reducible assumption) (by decide) | exact Mine.rl2 (by with_reducible assumption) (by decide) | exact Mine.rl0 (by with_reducible assumption) | decide | (law_clear; law_purse 20000 => lia))
  (have HH : PySem.Challenge.rw_sr0069_01.row.prog = PG ∧ Mine.hd.heap_39 = Mine.hd.heap_39 := ⟨rfl, rfl⟩)
  revert HH
  k_fill
  intro HH
  clear HH
  refine wpAny_call ?_
  (k_dflt (refine' code_def (binds := [(Str.ofString "one", .int x t1), (Str.ofString "other", .int y t2)]) ?k1 ?k2 ?k3 ?k4 ?k5 ?kA ?kF ?kK ?k6 ?k7 ?k8 ?k9 ?kB ?_ ?c2 ?c3 ?c4 ?c5; (case kA => exact rfl); (case kF => exact rfl); (case kK => assumption); (case k1 => k_asm); (case k2 => k_asm); (case k3 => k_asm); (case k4 => k_asm); (case k5 => k_asm); (case k6 => k_is); (case k7 => k_is); (case k8 => ktr_room); (case k9 => exact BindsTo.of_eq rfl); (case c5 => decide); (case kB => exact locs rfl); (case c2 => exact rfl); (case c3 => exact rfl); (case c4 => exact rfl); k_whole))
  intro g L1 h1 FG F1 N1 B1 X1 T1
  dsimp only
  k_fold
  refine wpAny_execs_cons ?_
  refine opq (A := fun I : Nat → Shared → Prop => ∀ (n : Nat), ∀ (u v : Int) (tu tv : Tok) (h' : Heap) (tk' : Nat) (m' : Str → Option Value) (T' : List (Addr × Obj)), (Fr g L1 h' m') → (News g L1 h' (fr ++ T')) → (TabL T') → (∀ e ∈ fr, (∀ q ∈ T, q.1 ≠ e.1) → ∀ q ∈ T', q.1 ≠ e.1) → (∀ p ∈ ([(Str.ofString "one", .int u tu), (Str.ofString "other", .int v tv)] : List (Str × Value)), m' p.1 = some p.2) → (0 ≤ u) → (0 ≤ v) → (u < 128) → (v < 128) → (comm u v = comm x y) → (v = n) → I n ({ s with heap := h', toks := tk' })) (B := fun I => ∀ (n : Nat) (GG : Shared → Prop), (∀ (u v : Int) (tu tv : Tok) (h' : Heap) (tk' : Nat) (m' : Str → Option Value) (T' : List (Addr × Obj)), (Fr g L1 h' m') → (News g L1 h' (fr ++ T')) → (TabL T') → (∀ e ∈ fr, (∀ q ∈ T, q.1 ≠ e.1) → ∀ q ∈ T', q.1 ≠ e.1) → (∀ p ∈ ([(Str.ofString "one", .int u tu), (Str.ofString "other", .int v tv)] : List (Str × Value)), m' p.1 = some p.2) → (0 ≤ u) → (0 ≤ v) → (u < 128) → (v < 128) → (comm u v = comm x y) → (v = n) → GG ({ s with heap := h', toks := tk' })) → ∀ (i0 : Shared), I n i0 → GG i0) (fun n i0 => ∀ GG : Shared → Prop, (∀ (u v : Int) (tu tv : Tok) (h' : Heap) (tk' : Nat) (m' : Str → Option Value) (T' : List (Addr × Obj)), (Fr g L1 h' m') → (News g L1 h' (fr ++ T')) → (TabL T') → (∀ e ∈ fr, (∀ q ∈ T, q.1 ≠ e.1) → ∀ q ∈ T', q.1 ≠ e.1) → (∀ p ∈ ([(Str.ofString "one", .int u tu), (Str.ofString "other", .int v tv)] : List (Str × Value)), m' p.1 = some p.2) → (0 ≤ u) → (0 ≤ v) → (u < 128) → (v < 128) → (comm u v = comm x y) → (v = n) → GG ({ s with heap := h', toks := tk' })) → GG i0) (fun n u v tu tv h' tk' m' T' hh0 hh1 hh2 hh3 hh4 hh5 hh6 hh7 hh8 hh9 hh10 GG gg => gg u v tu tv h' tk' m' T' hh0 hh1 hh2 hh3 hh4 hh5 hh6 hh7 hh8 hh9 hh10) (fun n GG gg i0 hh => hh GG gg) (fun I iI eI => ?_)
  refine while_ruleP I y.toNat ?_ ?_
  · exact iI _ x y t1 t2 h1 _ _ T F1 N1 TT (fun _ _ h => h) (List.forall_mem_cons.mpr ⟨rfl, List.forall_mem_cons.mpr ⟨rfl, List.forall_mem_nil _⟩⟩) hx hy hx2 hy2 rfl (by omega)
  · intro n
    refine eI n _ (fun u v tu tv h' tk' m' T' F2 N2 TT2 ap2 hm2 hu hv hu2 hv2 hc hn => ?_)
    intro E' P hnext hbrk hrv
    clear F1 N1
    replace F2 := Fr.known F2 _ hm2
    k_steps
    · rename_i hv0
      have hv0' : v ≠ 0 := by simpa using hv0
      have hbu : Builtin.Int.intBits u ≤ 7 := bits_small hu hu2
      have hbv : Builtin.Int.intBits v ≤ 7 := bits_small hv hv2
      have hbv1 := bits_pos hv0'
      have hvp : 0 < v := by omega
      refine c_idm (fr := fr) (T := T') ⟨B1, X1, T1, rfl⟩ (by assumption) (by assumption) TT2 hfr (by show dp + 1 + 75 < recursionLimit; omega) (by show un + 3 + 750 < cLine; omega) hv0' (by omega) (by omega) (by omega) ?_
      intro r t t' h3 tk3 T3 F3 N3 TT3 l1 l2 l3 l4
      k_steps
      have m0 := fmod_lo u hvp
      have m1 := fmod_hi u hvp
      refine hnext (u.fmod v).toNat _ (by omega) (iI _ v (u.fmod v) tv t' _ _ _ T3 (by assumption) (News.sub (by assumption) ?_) TT3 (fun e he hT => l2 e he (ap2 e he hT)) ?_ hv m0 hv2 (by omega) ((comm_step hu hvp).trans hc) (by omega))
      rotate_left
      · exact List.forall_mem_cons.mpr ⟨rfl, List.forall_mem_cons.mpr ⟨rfl, List.forall_mem_nil _⟩⟩
      · intro p hp
        simp only [List.mem_cons] at hp ⊢
        simp [hp]
    · rename_i hv0 _ _ _ _
      have hv0' : v = 0 := by simpa using hv0
      rw [hv0', comm_zero hu] at hc
      rw [hc]
      exact hret _ _ _ T' (by assumption) (by assumption) TT2 ap2
end
end
section
/-- what the law's Dedekind recursion gives, the unit gone; the number bounds the depth -/
def ded : Nat → Int → Int → Int
  | 0, _, _ => 0
  | n + 1, u, l =>
    let r := u.fmod l
    if r = 0 then 0 else
      let x := r * r + l * l + 1 - 3 * r * l - l * ded n l r
      x.fdiv r + x.fmod r
theorem ded_stop {n : Nat} {u l : Int} (h : u.fmod l = 0) : ded (n + 1) u l = 0 := if_pos h
theorem ded_next {n : Nat} {u l : Int} (h : u.fmod l ≠ 0) : ded (n + 1) u l = (u.fmod l * u.fmod l + l * l + 1 - 3 * u.fmod l * l - l * ded n l (u.fmod l)).fdiv (u.fmod l) + (u.fmod l * u.fmod l + l * l + 1 - 3 * u.fmod l * l - l * ded n l (u.fmod l)).fmod (u.fmod l) := if_neg h
theorem ded_small : ∀ n < 9, ∀ l < 9, ∀ r < 9, (ded n (l : Nat) (r : Nat)).natAbs < 4096 := by decide +kernel
theorem fmod_scale {u l k : Int} (hk : k ≠ 0) : (u * k).fmod (l * k) = k * (u.fmod l) := by
  by_cases h : 0 < k
  · rw [Int.mul_comm u k, Int.mul_comm l k, Int.mul_fmod_mul_of_pos _ _ h]
  · have h2 := (fdm_neg (u * k) (l * k)).2
    rw [← h2, ← Int.mul_neg, ← Int.mul_neg, Int.mul_comm u, Int.mul_comm l, Int.mul_fmod_mul_of_pos _ _ (by omega), Int.neg_mul, Int.neg_neg]
theorem bits_abs {u : Int} {k : Nat} (h : u.natAbs < 2 ^ k) : Builtin.Int.intBits u ≤ k := intBits_le_iff.mpr h
theorem bits_mul {u k : Int} {n b : Nat} (hu : u.natAbs < 2 ^ n) (hk : Builtin.Int.intBits k ≤ b) : Builtin.Int.intBits (u * k) ≤ n + b := by
  refine intBits_le_iff.mpr ?_
  have h := intBits_le_iff.mp hk
  rw [Int.natAbs_mul, Nat.pow_add]
  exact Nat.mul_lt_mul_of_lt_of_lt hu h
theorem bits_mul_ge {l k : Int} (hl : l ≠ 0) : Builtin.Int.intBits k ≤ Builtin.Int.intBits (l * k) := by
  refine intBits_le_of_natAbs (y := l * k) ?_ (Nat.le_refl _)
  rw [Int.natAbs_mul]
  exact Nat.le_mul_of_pos_left _ (by omega)
theorem fmod_lo' (u : Int) {v : Int} (h : 0 < v) : 0 ≤ u.fmod v := fmod_lo u h
/-- bounds of the recursion's second division -/
theorem ded_bits {n : Nat} {l r : Int} (hn : n < 9) (hl0 : 0 < l) (hl : l < 8) (hr0 : 0 < r) (hr : r < 8) :
    Builtin.Int.intBits (r * r + l * l + 1 - 3 * r * l - l * ded n l r) ≤ 16 := by
  have h := ded_small n hn l.toNat (by omega) r.toNat (by omega)
  rw [Int.toNat_of_nonneg (by omega), Int.toNat_of_nonneg (by omega)] at h
  refine bits_abs (Nat.lt_of_lt_of_le (m := 40000) ?_ (by decide))
  generalize ded n l r = d at *
  have a1 : r * r ≤ 7 * 7 := Int.mul_le_mul (by omega) (by omega) (by omega) (by omega)
  have a0 : 0 ≤ r * r := Int.mul_nonneg (by omega) (by omega)
  have a2 : l * l ≤ 7 * 7 := Int.mul_le_mul (by omega) (by omega) (by omega) (by omega)
  have a3 : 0 ≤ l * l := Int.mul_nonneg (by omega) (by omega)
  have a4 : 3 * r * l ≤ 21 * 7 := Int.mul_le_mul (by omega) (by omega) (by omega) (by omega)
  have a5 : 0 ≤ 3 * r * l := Int.mul_nonneg (by omega) (by omega)
  have a6 : (l * d).natAbs ≤ 7 * 4096 := by rw [Int.natAbs_mul]; exact Nat.mul_le_mul (by omega) (by omega)
  clear h
  have a7 : (r * r + l * l + 1 - 3 * r * l).natAbs ≤ 400 := by
    clear a6 hn hl0 hl hr0 hr
    generalize r * r = A at *
    generalize l * l = B at *
    generalize 3 * r * l = C at *
    omega
  exact Nat.lt_of_le_of_lt (Int.natAbs_sub_le _ _) (Nat.lt_of_le_of_lt (Nat.add_le_add a7 a6) (by decide))
section
variable {w : World} {p : Program} {loose : List Str} {mean : ExcName → Option Value} {mg mb : Str → Option Value} {dp un : Nat} {gd : Option (List Code)} {cn : Str} {cs : Scope} {a : Addr} {ccd : Value} {cl : List (Str × Addr)} {outer : List Env} {A₀ : Around} {base h₀ : Heap} {L : Addr} {m : Str → Option Value} {news : List (Addr × Obj)} {s : Shared} {Q E : Value → Shared → Prop}

theorem c_ded (n : Nat) : ∀ {dp un : Nat} {gd : Option (List Code)} {cn : Str} {cs : Scope} {a : Addr} {ccd : Value} {cl : List (Str × Addr)} {outer : List Env} {A₀ : Around} {base h₀ : Heap} {L : Addr} {m : Str → Option Value} {s : Shared} {Q E : Value → Shared → Prop} {u l k : Int} {t1 t2 t3 : Tok} {fr T : List (Addr × Obj)} (_ : Site w p loose mean mg mb cs A₀ base outer h₀) (_ : Fr h₀ L s.heap m) (_ : News h₀ L s.heap (fr ++ T)) (_ : TabL T) (_ : Ap fr) (_ : dp + 80 + n < recursionLimit) (_ : un + 800 + 30 * n < cLine)
    (_ : 0 ≤ u) (_ : u < 64) (_ : 0 < l) (_ : l < 8) (_ : k ≠ 0) (_ : Builtin.Int.intBits k ≤ 300) (_ : l ≤ n) (_ : n < 9)
    (_ : ∀ (t : Tok) (h' : Heap) (tk' : Nat) (T' : List (Addr × Obj)), Fr h₀ L h' m → News h₀ L h' (fr ++ T') → TabL T' → (∀ e ∈ fr, (∀ q ∈ T, q.1 ≠ e.1) → ∀ q ∈ T', q.1 ≠ e.1) → Q (.int (ded n u l) t) {s with heap := h', toks := tk'}),
    wpAny (model PG w) (ktrTop dp un gd cn cs L a ccd cl outer) (call (.ref 157) [.int u t1, .int l t2, .int k t3]) Q E s := by
  induction n with
  | zero => intro dp un gd cn cs a ccd cl outer A₀ base h₀ L m s Q E u l k t1 t2 t3 fr T S F N TT hfr hdp hun hu0 hu hl0 hl hk hkb hln hn hret; exfalso; omega
  | succ n ih =>
  intro dp un gd cn cs a ccd cl outer A₀ base h₀ L m s Q E u l k t1 t2 t3 fr T S F N TT hfr hdp hun hu0 hu hl0 hl hk hkb hln hn hret
  obtain ⟨B, X, T0, hk0⟩ := S
  have k1 := bits_pos hk
  have k2 := bits_mul (k := k) (b := Builtin.Int.intBits k) (n := 6) (u := u) (by omega) (Nat.le_refl _)
  have k3 := bits_mul (k := k) (b := Builtin.Int.intBits k) (n := 3) (u := l) (by omega) (Nat.le_refl _)
  have k4 := bits_mul_ge (l := l) (k := k) (by omega)
  have k5 : l * k ≠ 0 := Int.mul_ne_zero (by omega) hk
  have k6 : Builtin.Int.intBits u ≤ 6 := bits_small hu0 hu
  have k7 : Builtin.Int.intBits l ≤ 3 := bits_small (by omega) hl
  k_with_none
  k_with "k all" => (first | exact ne_all (by assumption) (by omega) | exact ne_allLt (by assumption) (by omega) | exact ne_allLt (And.right (by assumption)) (by omega) | exact ne_allLt (And.right (And.right (by assumption))) (by omega) | exact ne_allLt (And.right (And.right (And.right (by assumption)))) (by omega) | exact ne_allLt (And.right (And.right (And.right (And.right (by assumption))))) (by omega) | assumption)
  k_with "is list" => (exact News.isList (by assumption) (by k_mem))
  k_with "mul fits" => (first | exact PySem.IntMulOk.of_right (Mine.fit8 (by with_reducible assumption)) | exact PySem.IntMulOk.of_left (Mine.fit8 (by with_reducible assumption)) | exact PySem.IntMulOk.of_left (Mine.fitL (by decide)) | exact PySem.IntMulOk.of_right (Mine.fitL (by decide)))
  k_with "omega" => (first | with_reducible assumption | exact Mine.rl1 (by with_reducible assumption) (by decide) | exact Mine.rl2 (by with_reducible assumption) (by decide) | exact Mine.rl0 (by with_reducible assumption) | decide | (law_clear; law_purse 20000 => lia))
  k_with "binaryOp FloorDiv int int" => (k_here; (refine floordiv_int (by assumption) ?_ (Or.inl (PyProof.noPylong_of_log2 (by assumption)))); (rw [Int.mul_fdiv_cancel_left]; rotate_left; assumption))
  (have HH : PySem.Challenge.rw_sr0069_01.row.prog = PG ∧ Mine.hd.heap_39 = Mine.hd.heap_39 := ⟨rfl, rfl⟩)
  revert HH
  k_fill
  intro HH
  clear HH
  refine wpAny_call ?_
  (k_dflt (refine' code_def (binds := [(Str.ofString "upper", .int u t1), (Str.ofString "lower", .int l t2), (Str.ofString "unit", .int k t3)]) ?k1 ?k2 ?k3 ?k4 ?k5 ?kA ?kF ?kK ?k6 ?k7 ?k8 ?k9 ?kB ?_ ?c2 ?c3 ?c4 ?c5; (case kA => exact rfl); (case kF => exact rfl); (case kK => assumption); (case k1 => k_asm); (case k2 => k_asm); (case k3 => k_asm); (case k4 => k_asm); (case k5 => k_asm); (case k6 => k_is); (case k7 => k_is); (case k8 => ktr_room); (case k9 => exact BindsTo.of_eq rfl); (case c5 => decide); (case kB => exact locs rfl); (case c2 => exact rfl); (case c3 => exact rfl); (case c4 => exact rfl); k_whole))
  intro g L1 h1 FG F1 N1 B1 X1 T1
  dsimp only
  k_fold
  k_steps
  refine c_idm (fr := fr) (T := T) ⟨B1, X1, T1, rfl⟩ (by assumption) (by assumption) TT hfr (by show dp + 1 + 75 < recursionLimit; omega) (by show un + 3 + 750 < cLine; omega) k5 (by omega) (by omega) (by omega) ?_
  intro r t t' h3 tk3 T3 F3 N3 TT3 l1 l2 l3 l4
  rw [fmod_scale hk] at N3
  have k8 : k.natAbs.log2 < 9000 := log_of_bits (by omega)
  k_steps
  · rename_i he _ _ _ _
    rw [ded_stop he] at hret
    exact hret _ _ _ T3 (by assumption) (News.sub (by assumption) (fun p hp => .tail _ hp)) TT3 l2
  · rename_i he
    have m0 := fmod_lo u hl0
    have m1 := fmod_hi u hl0
    unfold ded at hret
    simp only [he, if_false] at hret
    refine ih (fr := fr) (T := T3) ⟨B1, X1, T1, rfl⟩ (by assumption) (News.sub (by assumption) (fun p hp => .tail _ hp)) TT3 hfr (by show dp + 1 + 80 + n < recursionLimit; omega) (by show un + 3 + 800 + 30 * n < cLine; omega) (by omega) (by omega) (by omega) (by omega) hk hkb (by omega) (by omega) ?_
    intro t h5 tk5 T5 F5 N5 TT5 ap5
    have kb := ded_bits (n := n) (l := l) (r := u.fmod l) (by omega) hl0 hl (by omega) (by omega)
    have kr := bits_pos he
    have kr3 : Builtin.Int.intBits (u.fmod l) ≤ 3 := bits_small m0 (by omega)
    k_steps
    refine c_idm (fr := fr) (T := T5) ⟨B1, X1, T1, rfl⟩ (by assumption) (by assumption) TT5 hfr (by show dp + 1 + 75 < recursionLimit; omega) (by show un + 3 + 750 < cLine; omega) he (by omega) (by omega) (by omega) ?_
    intro r6 t6 t6' h6 tk6 T6 F6 N6 TT6 l61 l62 l63 l64
    k_steps
    (try rw [ded_next he] at hret)
    exact hret _ _ _ T6 (by assumption) (News.sub (by assumption) (fun p hp => .tail _ hp)) TT6 (fun e he hT => l62 e he (ap5 e he (l2 e he hT)))
end
end
section
/-- a text, by its signs' numbers -/
def chs (l : List Nat) : Str := ⟨l.toArray⟩
theorem chs_length (l : List Nat) : (chs l).length = l.length := by unfold chs Str.length; simp
/-- how many blanks open the list, n at most -/
def lead : Nat → List Nat → Nat
  | 0, _ => 0
  | _ + 1, [] => 0
  | n + 1, c :: l => if c = 32 then lead n l + 1 else 0
def strip (l : List Nat) (n : Nat) : List Nat :=
  (l.take (l.length - lead (n - lead n l) l.reverse)).drop (lead n l)
theorem lead_le : ∀ (n : Nat) (l : List Nat), lead n l ≤ n
  | 0, _ => Nat.le_refl _
  | _ + 1, [] => Nat.zero_le _
  | n + 1, c :: l => by unfold lead; split; exact Nat.succ_le_succ (lead_le n l); exact Nat.zero_le _
theorem lead_not {c : Nat} {l : List Nat} (n : Nat) (h : c ≠ 32) : lead n (c :: l) = 0 := by
  cases n with
  | zero => rfl
  | succ n => exact if_neg h
/-- the state of the walk from the left: p blanks passed, a left -/
def LeadAt (l : List Nat) (n p a : Nat) : Prop := p + a = n ∧ p ≤ l.length ∧ (∀ c ∈ l.take p, c = 32) ∧ lead n l = p + lead a (l.drop p)
theorem LeadAt.zero (l : List Nat) (n : Nat) : LeadAt l n 0 n := ⟨Nat.zero_add _, Nat.zero_le _, by simp, by simp⟩
theorem LeadAt.lt {l : List Nat} {n p a : Nat} (h : LeadAt l n p a) (hc : ∃ c ∈ l, c ≠ 32) : p < l.length := by
  obtain ⟨h1, h2, h3, h4⟩ := h
  rcases Nat.lt_or_ge p l.length with g | g
  · exact g
  · obtain ⟨c, hm, hne⟩ := hc
    rw [List.take_of_length_le g] at h3
    exact absurd (h3 c hm) hne
theorem LeadAt.next {l : List Nat} {n p a : Nat} (h : LeadAt l n p a) (ha : a ≠ 0) (hp : p < l.length) (hc : l[p] = 32) : LeadAt l n (p + 1) (a - 1) := by
  obtain ⟨h1, h2, h3, h4⟩ := h
  refine ⟨by omega, hp, ?_, ?_⟩
  · intro c hm
    rw [List.take_succ_eq_append_getElem hp] at hm
    rcases List.mem_append.mp hm with g | g
    · exact h3 c g
    · rw [List.mem_singleton.mp g]; exact hc
  · rw [h4, List.drop_eq_getElem_cons hp, hc]
    obtain ⟨b, rfl⟩ := Nat.exists_eq_succ_of_ne_zero ha
    rw [show b.succ - 1 = b from rfl]
    rw [show lead b.succ (32 :: l.drop (p + 1)) = lead b (l.drop (p + 1)) + 1 from if_pos rfl]
    omega
theorem LeadAt.done {l : List Nat} {n p a : Nat} (h : LeadAt l n p a) (hc : a = 0 ∨ ∃ hp : p < l.length, l[p] ≠ 32) : p = lead n l ∧ a = n - lead n l := by
  obtain ⟨h1, h2, h3, h4⟩ := h
  have : lead a (l.drop p) = 0 := by
    rcases hc with rfl | ⟨hp, hne⟩
    · rfl
    · rw [List.drop_eq_getElem_cons hp]; exact lead_not a hne
  clear h3 hc
  generalize lead n l = k at *
  omega
theorem lead_blank : ∀ (n : Nat) (l : List Nat) (i : Nat) (h : i < l.length), i < lead n l → l[i] = 32
  | 0, _, _, _, g => absurd g (Nat.not_lt_zero _)
  | _ + 1, [], _, h, _ => absurd h (Nat.not_lt_zero _)
  | n + 1, c :: l, i, h, g => by
    unfold lead at g
    split at g
    · cases i with
      | zero => assumption
      | succ i => exact lead_blank n l i (Nat.lt_of_succ_lt_succ h) (Nat.lt_of_succ_lt_succ g)
    · exact absurd g (Nat.not_lt_zero _)
theorem lead_both {n m : Nat} {l : List Nat} (hc : ∃ c ∈ l, c ≠ 32) : lead n l + lead m l.reverse < l.length := by
  obtain ⟨c, hm, hne⟩ := hc
  obtain ⟨i, hi, e⟩ := List.getElem_of_mem hm
  have h1 : ¬ i < lead n l := fun g => hne (e ▸ lead_blank n l i hi g)
  have h2 : ¬ l.length - 1 - i < lead m l.reverse := fun g => hne (by
    have := lead_blank m l.reverse (l.length - 1 - i) (by rw [List.length_reverse]; omega) g
    rw [List.getElem_reverse] at this
    rw [← e, ← this]
    congr 1
    exact (Nat.sub_sub_self (Nat.le_sub_one_of_lt hi)).symm)
  exact Nat.lt_of_le_of_lt (Nat.add_le_add (Nat.le_of_not_lt h1) (Nat.le_of_not_lt h2)) (by omega)
theorem slice_chs {l : List Nat} {p e : Nat} (h1 : p ≤ e) (h2 : e ≤ l.length) : Txt.slice (chs l) (some (p : Int)) (some (e : Int)) = chs ((l.take e).drop p) := by
  have h := slice_closesL (x := chs l) (i := (p : Int)) (j := (e : Int)) (by omega) (by omega) (by rw [chs_length]; omega)
  rw [beq_iff_eq] at h
  rw [h]
  unfold chs
  simp only [Int.toNat_natCast]
  congr 2
  rw [List.take_drop]
  congr 2
  omega
theorem charAt_chs {l : List Nat} {p : Nat} (hp : p < l.length) : Txt.item (chs l) (p : Int) = chs [l[p]] := by
  unfold Txt.item Txt.charAt
  have e : seqIndex? (p : Int) (chs l).length = some p := by
    rw [chs_length]
    unfold seqIndex?
    have h1 : ¬ ((p : Int) < 0) := by omega
    simp [h1, hp]
  rw [e]
  show (⟨#[(((chs l).cps[p]?).getD 0)]⟩ : Str) = _
  unfold chs
  simp [hp]
theorem charAt_rev {l : List Nat} {q : Nat} (hq : q < l.reverse.length) : Txt.item (chs l) ((l.length : Int) - 1 - (q : Int)) = chs [l.reverse[q]] := by
  have hq2 : q < l.length := by rw [List.length_reverse] at hq; exact hq
  rw [show (l.length : Int) - 1 - (q : Int) = ((l.length - 1 - q : Nat) : Int) by omega, charAt_chs (by omega), List.getElem_reverse]
theorem sp_eq : (chs [32] == Str.ofString " ") = true := by decide +kernel
theorem sp_ne {c : Nat} (h : c ≠ 32) : (chs [c] == Str.ofString " ") = false := by
  have e : Str.ofString " " = chs [32] := by decide +kernel
  rw [e, beq_eq_false_iff_ne]
  intro g
  unfold chs at g
  simp at g
  exact h g
/-- what a frame's map holds -/
def Has (m : Str → Option Value) (ps : List (Str × Value)) : Prop := ∀ p ∈ ps, m p.1 = some p.2
theorem Has.nil {m : Str → Option Value} : Has m [] := List.forall_mem_nil _
theorem Has.cons {m : Str → Option Value} {n : Str} {v : Value} {ps : List (Str × Value)} (h : m n = some v) (r : Has m ps) : Has m ((n, v) :: ps) := List.forall_mem_cons.mpr ⟨h, r⟩
theorem int_val {m : Str → Option Value} {n : Str} {i j : Int} {t : Tok} (e : i = j) (h : m n = some (.int i t)) : m n = some (.int j t) := e ▸ h
/-- the walk's stop -/
def Halt (p : Prop) : Prop := p
theorem halt {p : Prop} (h : Halt p) : p := h
section
variable {w : World} {p : Program} {loose : List Str} {mean : ExcName → Option Value} {mg mb : Str → Option Value} {dp un : Nat} {gd : Option (List Code)} {cn : Str} {cs : Scope} {a : Addr} {ccd : Value} {cl : List (Str × Addr)} {outer : List Env} {A₀ : Around} {base h₀ : Heap} {L : Addr} {m : Str → Option Value} {news : List (Addr × Obj)} {s : Shared} {Q E : Value → Shared → Prop}

theorem c_strip {l : List Nat} {n : Nat} {t1 t2 : Tok} (S : Site w p loose mean mg mb cs A₀ base outer h₀) (F : Fr h₀ L s.heap m) (N : News h₀ L s.heap news) (hdp : dp + 2 < recursionLimit) (hun : un + 30 < cLine)
    (hns : ∃ c ∈ l, c ≠ 32) (hl : l.length < 100000) (hn : n < 100000)
    (hret : ∀ (t : Tok) (h' : Heap) (tk' : Nat), Fr h₀ L h' m → News h₀ L h' news → Q (.str (chs (strip l n)) t) {s with heap := h', toks := tk'}) :
    wpAny (model PG w) (ktrTop dp un gd cn cs L a ccd cl outer) (call (.ref 35) [.str (chs l) t1, .int (n : Nat) t2]) Q E s := by
  obtain ⟨B, X, T0, hk⟩ := S
  k_with_none
  k_with "k all" => (first | exact ne_all (by assumption) (by omega) | exact ne_allLt (by assumption) (by omega) | exact ne_allLt (And.right (by assumption)) (by omega) | exact ne_allLt (And.right (And.right (by assumption))) (by omega) | exact ne_allLt (And.right (And.right (And.right (by assumption)))) (by omega) | exact ne_allLt (And.right (And.right (And.right (And.right (by assumption))))) (by omega) | assumption)
  k_with "is list" => (exact News.isList (by assumption) (by k_mem))
  k_with "mul fits" => (first | exact PySem.IntMulOk.of_right (Mine.fit8 (by with_reducible assumption)) | exact PySem.IntMulOk.of_left (Mine.fit8 (by with_reducible assumption)) | exact PySem.IntMulOk.of_left (Mine.fitL (by decide)) | exact PySem.IntMulOk.of_right (Mine.fitL (by decide)))
  k_with "omega" => (first | with_reducible assumption | exact Mine.rl1 (by with_reducible assumption) (by decide) | exact Mine.rl2 (by with_reducible assumption) (by decide) | exact Mine.rl0 (by with_reducible assumption) | decide | (law_clear; law_purse 20000 => lia))
  k_with "call builtin:len" => (k_here; (refine SBL.len (by rw [chs_length]; omega) ?_); (rw [chs_length]))
  k_with "exec While" => (k_here; refine halt ?_)
  k_with "subscriptTail Name Name str int" => (k_here; (refine item_str (fitsSsize_of (N := 9223372036854775808) (by omega) (by omega) (Int.le_refl _)) (by rw [chs_length]; omega) (by rw [chs_length]; omega) ?_); intro _; (first | (rw [charAt_chs (by omega)]) | (rw [charAt_rev (by omega)])))
  (have HH : PySem.Challenge.rw_sr0069_01.row.prog = PG ∧ Mine.hd.heap_39 = Mine.hd.heap_39 := ⟨rfl, rfl⟩)
  revert HH
  k_fill
  intro HH
  clear HH
  refine wpAny_call ?_
  (k_dflt (refine' code_def (binds := [(Str.ofString "s", .str (chs l) t1), (Str.ofString "amount", .int (n : Nat) t2)]) ?k1 ?k2 ?k3 ?k4 ?k5 ?kA ?kF ?kK ?k6 ?k7 ?k8 ?k9 ?kB ?_ ?c2 ?c3 ?c4 ?c5; (case kA => exact rfl); (case kF => exact rfl); (case kK => assumption); (case k1 => k_asm); (case k2 => k_asm); (case k3 => k_asm); (case k4 => k_asm); (case k5 => k_asm); (case k6 => k_is); (case k7 => k_is); (case k8 => ktr_room); (case k9 => exact BindsTo.of_eq rfl); (case c5 => decide); (case kB => exact locs rfl); (case c2 => exact rfl); (case c3 => exact rfl); (case c4 => exact rfl); k_whole))
  intro g L1 h1 FG F1 N1 B1 X1 T1
  dsimp only
  k_fold
  k_steps
  unfold Halt
  refine opq (A := fun Q1 : Flow → Shared → Prop => ∀ (h' : Heap) (tk' : Nat) (m' : Str → Option Value) (tq ta : Tok), (Fr g L1 h' m') → (News g L1 h' news) → (Has m' [(Str.ofString "s", .str (chs l) t1), (Str.ofString "amount", .int ((n - lead n l : Nat) : Int) ta), (Str.ofString "lpos", .int ((lead n l : Nat) : Int) tq)]) → Q1  (.next) ({ s with heap := h', toks := tk' })) (B := fun Q1 => ∀  (GG : Flow → Shared → Prop), (∀ (h' : Heap) (tk' : Nat) (m' : Str → Option Value) (tq ta : Tok), (Fr g L1 h' m') → (News g L1 h' news) → (Has m' [(Str.ofString "s", .str (chs l) t1), (Str.ofString "amount", .int ((n - lead n l : Nat) : Int) ta), (Str.ofString "lpos", .int ((lead n l : Nat) : Int) tq)]) → GG (.next) ({ s with heap := h', toks := tk' })) → ∀ (i0 : Flow) (i1 : Shared), Q1  i0 i1 → GG i0 i1) (fun  i0 i1 => ∀ GG : Flow → Shared → Prop, (∀ (h' : Heap) (tk' : Nat) (m' : Str → Option Value) (tq ta : Tok), (Fr g L1 h' m') → (News g L1 h' news) → (Has m' [(Str.ofString "s", .str (chs l) t1), (Str.ofString "amount", .int ((n - lead n l : Nat) : Int) ta), (Str.ofString "lpos", .int ((lead n l : Nat) : Int) tq)]) → GG (.next) ({ s with heap := h', toks := tk' })) → GG i0 i1) (fun  h' tk' m' tq ta hh0 hh1 hh2 GG gg => gg h' tk' m' tq ta hh0 hh1 hh2) (fun  GG gg i0 i1 hh => hh GG gg) (fun Q1 iQ1 eQ1 => ?_)
  refine opq (A := fun I : Nat → Shared → Prop => ∀ (k : Nat), ∀ (q : Nat) (h' : Heap) (tk' : Nat) (m' : Str → Option Value) (tq ta : Tok), (Fr g L1 h' m') → (News g L1 h' news) → (LeadAt l n q k) → (Has m' [(Str.ofString "s", .str (chs l) t1), (Str.ofString "amount", .int (k : Nat) ta), (Str.ofString "lpos", .int (q : Nat) tq)]) → I k ({ s with heap := h', toks := tk' })) (B := fun I => ∀ (k : Nat) (GG : Shared → Prop), (∀ (q : Nat) (h' : Heap) (tk' : Nat) (m' : Str → Option Value) (tq ta : Tok), (Fr g L1 h' m') → (News g L1 h' news) → (LeadAt l n q k) → (Has m' [(Str.ofString "s", .str (chs l) t1), (Str.ofString "amount", .int (k : Nat) ta), (Str.ofString "lpos", .int (q : Nat) tq)]) → GG ({ s with heap := h', toks := tk' })) → ∀ (i0 : Shared), I k i0 → GG i0) (fun k i0 => ∀ GG : Shared → Prop, (∀ (q : Nat) (h' : Heap) (tk' : Nat) (m' : Str → Option Value) (tq ta : Tok), (Fr g L1 h' m') → (News g L1 h' news) → (LeadAt l n q k) → (Has m' [(Str.ofString "s", .str (chs l) t1), (Str.ofString "amount", .int (k : Nat) ta), (Str.ofString "lpos", .int (q : Nat) tq)]) → GG ({ s with heap := h', toks := tk' })) → GG i0) (fun k q h' tk' m' tq ta hh0 hh1 hh2 hh3 GG gg => gg q h' tk' m' tq ta hh0 hh1 hh2 hh3) (fun k GG gg i0 hh => hh GG gg) (fun I iI eI => ?_)
  refine wpAny_mono (Q := Q1) (while_ruleP I n ?_ ?_) (eQ1 _ ?_) (fun _ _ e => e)
  · exact iI _ 0 _ _ _ _ _ (by assumption) (by assumption) (LeadAt.zero l n) (.cons rfl (.cons rfl (.cons rfl .nil)))
  · intro k
    refine eI k _ (fun q h' tk' m' tq ta F2 N2 hL hm2 => ?_)
    intro E' P hnext hbrk hrv
    replace F2 := Fr.known F2 _ hm2
    have hq := hL.lt hns
    k_steps
    · rename ((chs _ == _) = true) => hc
      have hc' : l[q] = 32 := by
        rcases Decidable.em (l[q] = 32) with g | g
        · exact g
        · rw [sp_ne g] at hc; exact absurd hc (by decide)
      have hk1 : k ≠ 0 := by omega
      have e1 : (k : Int) - 1 = ((k - 1 : Nat) : Int) := by omega
      exact hnext (k - 1) _ (by omega) (iI _ (q + 1) _ _ _ _ _ (by assumption) (by assumption) (hL.next hk1 hq hc') (.cons rfl (.cons (int_val e1 rfl) (.cons rfl .nil))))
    · rename ((chs _ == _) = false) => hc
      have hc' : l[q] ≠ 32 := by
        intro g
        rw [g] at hc
        rw [sp_eq] at hc; exact absurd hc (by decide)
      obtain ⟨e1, e2⟩ := hL.done (.inr ⟨hq, hc'⟩)
      have e3 : (k : Int) = ((n - lead n l : Nat) : Int) := by omega
      have e4 : (q : Int) = ((lead n l : Nat) : Int) := by omega
      exact iQ1 _ _ _ _ _ (by assumption) (by assumption) (.cons rfl (.cons (int_val e3 rfl) (.cons (int_val e4 rfl) .nil)))
    · obtain ⟨e1, e2⟩ := hL.done (.inl (by omega))
      have e3 : (k : Int) = ((n - lead n l : Nat) : Int) := by omega
      have e4 : (q : Int) = ((lead n l : Nat) : Int) := by omega
      exact iQ1 _ _ _ _ _ (by assumption) (by assumption) (.cons rfl (.cons (int_val e3 rfl) (.cons (int_val e4 rfl) .nil)))
  intro h' tk' m' tq ta F2 N2 hm2
  replace F2 := Fr.known F2 _ hm2
  have hp := lead_le n l
  have hnr : ∃ c ∈ l.reverse, c ≠ 32 := by
    obtain ⟨c, hc, hne⟩ := hns
    exact ⟨c, List.mem_reverse.mpr hc, hne⟩
  have hlr : l.reverse.length = l.length := List.length_reverse
  k_steps
  unfold Halt
  refine opq (A := fun Q1 : Flow → Shared → Prop => ∀ (h' : Heap) (tk' : Nat) (m' : Str → Option Value) (tq tr : Tok), (Fr g L1 h' m') → (News g L1 h' news) → (Has m' [(Str.ofString "s", .str (chs l) t1), (Str.ofString "lpos", .int ((lead n l : Nat) : Int) tq), (Str.ofString "rpos", .int ((l.length : Int) - 1 - ((lead (n - lead n l) l.reverse : Nat) : Int)) tr)]) → Q1  (.next) ({ s with heap := h', toks := tk' })) (B := fun Q1 => ∀  (GG : Flow → Shared → Prop), (∀ (h' : Heap) (tk' : Nat) (m' : Str → Option Value) (tq tr : Tok), (Fr g L1 h' m') → (News g L1 h' news) → (Has m' [(Str.ofString "s", .str (chs l) t1), (Str.ofString "lpos", .int ((lead n l : Nat) : Int) tq), (Str.ofString "rpos", .int ((l.length : Int) - 1 - ((lead (n - lead n l) l.reverse : Nat) : Int)) tr)]) → GG (.next) ({ s with heap := h', toks := tk' })) → ∀ (i0 : Flow) (i1 : Shared), Q1  i0 i1 → GG i0 i1) (fun  i0 i1 => ∀ GG : Flow → Shared → Prop, (∀ (h' : Heap) (tk' : Nat) (m' : Str → Option Value) (tq tr : Tok), (Fr g L1 h' m') → (News g L1 h' news) → (Has m' [(Str.ofString "s", .str (chs l) t1), (Str.ofString "lpos", .int ((lead n l : Nat) : Int) tq), (Str.ofString "rpos", .int ((l.length : Int) - 1 - ((lead (n - lead n l) l.reverse : Nat) : Int)) tr)]) → GG (.next) ({ s with heap := h', toks := tk' })) → GG i0 i1) (fun  h' tk' m' tq tr hh0 hh1 hh2 GG gg => gg h' tk' m' tq tr hh0 hh1 hh2) (fun  GG gg i0 i1 hh => hh GG gg) (fun Q1 iQ1 eQ1 => ?_)
  refine opq (A := fun I : Nat → Shared → Prop => ∀ (k : Nat), ∀ (q : Nat) (h' : Heap) (tk' : Nat) (m' : Str → Option Value) (tq ta tr : Tok), (Fr g L1 h' m') → (News g L1 h' news) → (LeadAt l.reverse (n - lead n l) q k) → (Has m' [(Str.ofString "s", .str (chs l) t1), (Str.ofString "amount", .int (k : Nat) ta), (Str.ofString "lpos", .int ((lead n l : Nat) : Int) tq), (Str.ofString "rpos", .int ((l.length : Int) - 1 - (q : Int)) tr)]) → I k ({ s with heap := h', toks := tk' })) (B := fun I => ∀ (k : Nat) (GG : Shared → Prop), (∀ (q : Nat) (h' : Heap) (tk' : Nat) (m' : Str → Option Value) (tq ta tr : Tok), (Fr g L1 h' m') → (News g L1 h' news) → (LeadAt l.reverse (n - lead n l) q k) → (Has m' [(Str.ofString "s", .str (chs l) t1), (Str.ofString "amount", .int (k : Nat) ta), (Str.ofString "lpos", .int ((lead n l : Nat) : Int) tq), (Str.ofString "rpos", .int ((l.length : Int) - 1 - (q : Int)) tr)]) → GG ({ s with heap := h', toks := tk' })) → ∀ (i0 : Shared), I k i0 → GG i0) (fun k i0 => ∀ GG : Shared → Prop, (∀ (q : Nat) (h' : Heap) (tk' : Nat) (m' : Str → Option Value) (tq ta tr : Tok), (Fr g L1 h' m') → (News g L1 h' news) → (LeadAt l.reverse (n - lead n l) q k) → (Has m' [(Str.ofString "s", .str (chs l) t1), (Str.ofString "amount", .int (k : Nat) ta), (Str.ofString "lpos", .int ((lead n l : Nat) : Int) tq), (Str.ofString "rpos", .int ((l.length : Int) - 1 - (q : Int)) tr)]) → GG ({ s with heap := h', toks := tk' })) → GG i0) (fun k q h' tk' m' tq ta tr hh0 hh1 hh2 hh3 GG gg => gg q h' tk' m' tq ta tr hh0 hh1 hh2 hh3) (fun k GG gg i0 hh => hh GG gg) (fun I iI eI => ?_)
  refine wpAny_mono (Q := Q1) (while_ruleP I (n - lead n l) ?_ ?_) (eQ1 _ ?_) (fun _ _ e => e)
  · have e0 : (l.length : Int) - 1 = (l.length : Int) - 1 - ((0 : Nat) : Int) := by omega
    exact iI _ 0 _ _ _ _ _ _ (by assumption) (by assumption) (LeadAt.zero l.reverse (n - lead n l)) (.cons rfl (.cons rfl (.cons rfl (.cons (int_val e0 rfl) .nil))))
  · intro k
    refine eI k _ (fun q h' tk' m' tq ta tr F2 N2 hL hm2 => ?_)
    intro E' P hnext hbrk hrv
    replace F2 := Fr.known F2 _ hm2
    have hq' := hL.lt hnr
    have hq : q < l.length := by omega
    k_steps
    · rename ((chs _ == _) = true) => hc
      have hc' : l.reverse[q] = 32 := by
        rcases Decidable.em (l.reverse[q] = 32) with g | g
        · exact g
        · rw [sp_ne g] at hc; exact absurd hc (by decide)
      have hk1 : k ≠ 0 := by omega
      have e1 : (k : Int) - 1 = ((k - 1 : Nat) : Int) := by omega
      have e2 : (l.length : Int) - 1 - q - 1 = (l.length : Int) - 1 - ((q + 1 : Nat) : Int) := by omega
      exact hnext (k - 1) _ (by omega) (iI _ (q + 1) _ _ _ _ _ _ (by assumption) (by assumption) (hL.next hk1 hq' hc') (.cons rfl (.cons (int_val e1 rfl) (.cons rfl (.cons (int_val e2 rfl) .nil)))))
    · rename ((chs _ == _) = false) => hc
      have hc' : l.reverse[q] ≠ 32 := by
        intro g
        rw [g] at hc
        rw [sp_eq] at hc; exact absurd hc (by decide)
      obtain ⟨e1, e2⟩ := hL.done (.inr ⟨hq', hc'⟩)
      have e4 : (l.length : Int) - 1 - (q : Int) = (l.length : Int) - 1 - ((lead (n - lead n l) l.reverse : Nat) : Int) := by omega
      exact iQ1 _ _ _ _ _ (by assumption) (by assumption) (.cons rfl (.cons rfl (.cons (int_val e4 rfl) .nil)))
    · obtain ⟨e1, e2⟩ := hL.done (.inl (by omega))
      have e4 : (l.length : Int) - 1 - (q : Int) = (l.length : Int) - 1 - ((lead (n - lead n l) l.reverse : Nat) : Int) := by omega
      exact iQ1 _ _ _ _ _ (by assumption) (by assumption) (.cons rfl (.cons rfl (.cons (int_val e4 rfl) .nil)))
  intro h' tk' m' tq tr F2 N2 hm2
  replace F2 := Fr.known F2 _ hm2
  k_steps
  dsimp only
  have hb := lead_both (n := n) (m := n - lead n l) hns
  have hsz : (chs l).length ≤ sizeLine := by rw [chs_length]; exact Nat.le_trans (Nat.le_of_lt hl) (by decide)
  refine slice_strN_ss (s := ⟨_, _, _, _, _⟩) (by assumption) (by assumption) ?_ (hsz := hsz)
  intro h5 t5 k5 F5 N5
  rw [show (l.length : Int) - 1 - ((lead (n - lead n l) l.reverse : Nat) : Int) + 1 = ((l.length - lead (n - lead n l) l.reverse : Nat) : Int) by omega, slice_chs (by omega) (by omega)]
  k_steps
  exact hret _ _ _ (by assumption) (by assumption)
end
end
section
section
variable {M : Model} {A : Around} {R : GenEnd} {Y : Protocol} {n : Nat} {s₀ : Shared} {c : Code} {fs : List Frame} {s : Shared} {env : Env}
  {K : Flow → Sem Fin} {H : Value → Sem Fin} {gd : Bool → Bool} {lv : List Value → List Value}
theorem seg_stmt {st : Stmt} (h : wpAny M (A.over c fs) (exec st env) (fun f s' => Seg M A R Y n s₀ c (K f) fs s') (fun x s' => Seg M A R Y n s₀ c (H x) fs s') s) :
    Seg M A R Y n s₀ c ((exec st env).wrap K H gd lv) fs s := seg_wrap h
theorem seg_If {test : PySem.Expr} {body orelse : List Stmt} {pos : Pos}
    (h : wpAny M (A.over c fs) (isTrue test env (eval test env)) (fun b s' => if b = true then Seg M A R Y n s₀ c ((execs body env).wrap K H gd lv) fs s' else Seg M A R Y n s₀ c ((execs orelse env).wrap K H gd lv) fs s')
      (fun x s' => Seg M A R Y n s₀ c (H x) fs s') s) :
    Seg M A R Y n s₀ c ((exec (.If test body orelse pos) env).wrap K H gd lv) fs s := by
  rw [exec_If]
  show Seg M A R Y n s₀ c (.at pos fun _ => ((isTrue test env (eval test env)) >>= fun b => if b = true then execs body env else execs orelse env).wrap K H gd lv) fs s
  refine seg_at ?_
  rw [Sem.bind_eq_wrap', Sem.wrap_wrap]
  refine seg_wrap (wpAny_mono h (fun b s' hb => ?_) fun _ _ x => x)
  cases b with
  | true => exact hb
  | false => exact hb
/-- what an own code's end does in the frame that ran it -/
def ownK (env : Env) (K : Flow → Sem Fin) (H : Value → Sem Fin) (gd : Bool → Bool) (lv : List Value → List Value) (r : Result) : Sem Fin :=
  ((match r with | .ok f => (.pure f : Sem Flow) | .error e => .raise e).onRaise fun (x : Value) => do
        if (← field x 1) == Value.none then unsupported "frame.own-activation:exception-without-traceback"
        setFlight x env.frame).wrap K H gd lv
theorem ownK_ok {f : Flow} : ownK env K H gd lv (.ok f) = K f := rfl
theorem seg_For {target iter : PySem.Expr} {body orelse : List Stmt} {pos : Pos}
    (h : wpAny M (A.over c fs) (eval iter env) (fun x s₁ => wpAny M (A.over c fs) (pyIter x) (fun it s₂ => ∀ p, Seg M A R Y n s₀ (.forLoop target it body orelse env) (M.den (.forLoop target it body orelse env))
        (.ret (ownK env K H gd lv) none (gd false) (lv []) c p [] :: fs) s₂) (fun x s' => Seg M A R Y n s₀ c (H x) fs s') s₁) (fun x s' => Seg M A R Y n s₀ c (H x) fs s') s)
    (hs : ∀ x, foldedSetIterable iter env x = pure x := by intro _; rfl) :
    Seg M A R Y n s₀ c ((exec (.For target iter body orelse pos) env).wrap K H gd lv) fs s := by
  rw [exec_For]
  show Seg M A R Y n s₀ c (.at pos fun _ => (eval iter env >>= fun x₀ => foldedSetIterable iter env x₀ >>= fun x => standAt iter.pos >>= fun _ => holding [x] (pyIter x) >>= fun it => runOwn (.forLoop target it body orelse env) env).wrap K H gd lv) fs s
  refine seg_at ?_
  rw [Sem.bind_eq_wrap', Sem.wrap_wrap]
  refine seg_wrap (wpAny_mono h (fun x s₁ h₁ => ?_) fun _ _ x => x)
  rw [hs x]
  show Seg M A R Y n s₀ c (.at iter.pos fun _ => (holding [x] (pyIter x) >>= fun it => runOwn (.forLoop target it body orelse env) env).wrap K H gd lv) fs s₁
  refine seg_at ?_
  rw [Sem.bind_eq_wrap', Sem.wrap_wrap]
  refine seg_wrap (wpAny_holding (wpAny_mono h₁ (fun it s₂ h₂ => ?_) fun _ _ x => x))
  exact seg_call h₂
end
section
variable {prog : Program} {w : World} {A : Around} {R : GenEnd} {Y : Protocol} {n : Nat} {s₀ : Shared} {fs : List Frame} {s : Shared} {env : Env}
/-- the way an error of a loop's turn goes -/
def noteH (env : Env) (e : Value) : Sem Fin := (do noteFrame e env; theTreesLotGoes e : Sem Unit).wrap (fun _ => .raise e) .raise id id
def forK (target : PySem.Expr) (it : Value) (body : List Stmt) (env : Env) (f : Flow) : Sem Fin :=
  match f with
  | .next | .cont => .pure (.again (.forLoop target it body [] env))
  | .brk => .pure (.done .next)
  | .ret v => .pure (.done (.ret v))
theorem seg_forLoop {x : Str} {px : Pos} {it : Value} {body : List Stmt}
    (h : wpAny (model prog w) (A.over (.forLoop (.Name x px) it body [] env) fs) (pyNext it) (fun r s₁ => match r with
      | none => Seg (model prog w) A R Y n s₀ (.forLoop (.Name x px) it body [] env) (.pure (.again (.block [] env))) fs s₁
      | some v => wpAny (model prog w) (A.over (.forLoop (.Name x px) it body [] env) fs) (storeName env x v) (fun _ s₂ =>
          Seg (model prog w) A R Y n s₀ (.forLoop (.Name x px) it body [] env) ((execs body env).wrap (forK (.Name x px) it body env) (noteH env) id id) fs s₂)
          (fun e s' => Seg (model prog w) A R Y n s₀ (.forLoop (.Name x px) it body [] env) (noteH env e) fs s') s₁)
      (fun e s' => Seg (model prog w) A R Y n s₀ (.forLoop (.Name x px) it body [] env) (noteH env e) fs s') s) :
    Seg (model prog w) A R Y n s₀ (.forLoop (.Name x px) it body [] env) ((model prog w).den (.forLoop (.Name x px) it body [] env)) fs s := by
  show Seg _ A R Y n s₀ _ ((forTurn (.Name x px) it body [] env).onRaise (fun x => do noteFrame x env; theTreesLotGoes x)) fs s
  rw [Sem.onRaise_eq_wrap]
  simp only [forTurn]
  show Seg _ A R Y n s₀ _ (.at px fun _ => ((pyNext it).onRaise (fun _ => standAt { px with line := 0 }) >>= fun r => _).wrap .pure _ _ id) fs s
  refine seg_at ?_
  rw [Sem.bind_eq_wrap', Sem.wrap_wrap]
  refine seg_wrap (wpAny_onRaise (wpAny_mono h (fun r s₁ h₁ => ?_) fun e s' he => wpAny_standAt ?_))
  · cases r with
    | none => exact h₁
    | some v =>
      show Seg _ A R Y n s₀ _ ((assign (.Name x px) env v >>= fun _ => execs body env >>= fun f => _).wrap .pure _ _ _) fs s₁
      rw [Sem.bind_eq_wrap', Sem.wrap_wrap]
      refine seg_wrap (wpAny_assign_Name (wpAny_mono h₁ (fun _ s₂ h₂ => ?_) fun e s' he => ?_))
      · rw [Sem.bind_eq_wrap', Sem.wrap_wrap]
        rw [Sem.wrap_congr (execs body env) _ _ (K' := forK (.Name x px) it body env) (H' := noteH env) (fun f => by cases f <;> rfl) (fun e => by first | exact Sem.bind_eq_wrap _ _ | (show (do noteFrame e env; theTreesLotGoes e : Sem Unit).bind (fun _ => .raise e) = _; rw [Sem.bind_eq_wrap]; rfl))]
        exact h₂
      · show Seg _ A R Y n s₀ _ ((do noteFrame e env; theTreesLotGoes e : Sem Unit).bind fun _ => .raise e) fs s'
        rw [Sem.bind_eq_wrap]; exact he
  · show Seg _ A R Y n s₀ _ ((do noteFrame e env; theTreesLotGoes e : Sem Unit).bind fun _ => .raise e) fs s'
    rw [Sem.bind_eq_wrap]; exact he
theorem seg_forLoop_stop {x : Str} {px : Pos} {it : Value} {body : List Stmt} {K : Flow → Sem Fin} {H : Value → Sem Fin} {gd lv h g l c₁ p₁ kp}
    (h0 : Seg (model prog w) A R Y n s₀ c₁ (K .next) fs s) :
    Seg (model prog w) A R Y n s₀ (.forLoop (.Name x px) it body [] env) (.pure (.again (.block [] env))) (.ret (ownK env K H gd lv) h g l c₁ p₁ kp :: fs) s := by
  refine seg_again rfl ?_
  exact seg_leaf (c := .block [] env) (.ok .next) h0
end
end
section
def gStmt : Stmt := PG.main.body.getD 3 (.Pass default)
def gScope : Scope := fnScope gStmt
def gFor : Stmt := (fnBody gStmt).getD 1 (.Pass default)
def forBody : Stmt → List Stmt | .For _ _ b _ _ => b | _ => []
def forPos : Stmt → Pos | .For t _ _ _ _ => t.pos | _ => default
def gBody : List Stmt := forBody gFor
def ifBody : Stmt → List Stmt | .If _ b _ _ => b | _ => []
def gWhile : Stmt := (ifBody (gBody.getD 1 (.Pass default))).getD 1 (.Pass default)
def whileTest : Stmt → PySem.Expr | .While t _ _ _ => t | _ => default
def whileBody : Stmt → List Stmt | .While _ b _ _ => b | _ => []
def gWT : PySem.Expr := whileTest gWhile
def gWB : List Stmt := whileBody gWhile
abbrev gName : Str := Str.ofString "_grouping_intervals"
abbrev nG : Str := Str.ofString "grouping"
abbrev nI : Str := Str.ofString "interval"
abbrev nL : Str := Str.ofString "last_interval"

/-- the i-th value that the generator gives -/
def outv (vals : List Value) (p i : Nat) : Value := if i < p then vals.getD i .none else vals.getD (p - 1) .none
/-- the last value, before the item j -/
def lastv (vals : List Value) (j : Nat) : Value := if j = 0 then .none else vals.getD (j - 1) .none
/-- a list's iterator -/
def ItO (o : Obj) : Prop := o.cls = .type "list_iterator" ∧ ∃ (l i : Nat), o.data = .fields #[.ref l, .int i 0]
def KeepR (Lg : Addr) (h h' : Heap) : Prop := ∀ b o, b ≠ Lg → ¬ ItO o → h.get? b = some o → h'.get? b = some o
theorem KeepR.refl (Lg : Addr) (h : Heap) : KeepR Lg h h := fun _ _ _ _ e => e
theorem KeepR.trans {Lg : Addr} {a b c : Heap} (x : KeepR Lg a b) (y : KeepR Lg b c) : KeepR Lg a c := fun b' o h1 h2 e => y b' o h1 h2 (x b' o h1 h2 e)
def StIn (g h : Heap) : Prop := ∀ b o, g.get? b = some o → h.get? b = some o
/-- suspended, after j values (j ≥ 1) -/
structure GAt (g : Heap) (Lg la Li : Addr) (vals : List Value) (p j : Nat) (h : Heap) : Prop where
  stays : StIn g h
  lst : h.IsList la vals.toArray
  ns : ∃ mg, h.Ns Lg mg ∧ (j ≤ p → mg nG = some (.ref la) ∧ mg nI = some (vals.getD (j - 1) .none)) ∧ (p < j → mg nL = some (vals.getD (p - 1) .none))
  it : j ≤ p → h.IsListIter Li la j ∧ g.get? Li = none ∧ Li ≠ Lg ∧ Li ≠ la
def Since (g : Heap) (Lg : Addr) (s₀ s : Shared) : Prop := ∃ h' tk', s = { s₀ with heap := h', toks := tk' } ∧ KeepR Lg s₀.heap h' ∧ StIn g h'
def YP (g : Heap) (Lg la : Addr) (vals : List Value) (xs : List Int) (p N : Nat) : Protocol := fun m s₀ v s' kap =>
  v = outv vals p (N - 1 - m) ∧ (N - 1 - m < p ∨ xs[p]? = some 0) ∧ Since g Lg s₀ s' ∧ ∃ Li, GAt g Lg la Li vals p (N - m) s'.heap ∧ (m ≠ 0 → ∀ s'', GAt g Lg la Li vals p (N - m) s''.heap → kap (.send .none) s'')
/-- the end comes at the item p alone -/
def RP (g : Heap) (Lg : Addr) (xs : List Int) (p N : Nat) : GenEnd := fun n s₀ r s' => r = .ok (.ret .none) ∧ (N - n = p ∧ (p = xs.length ∨ xs[p]? = some 127) ∧ Since g Lg s₀ s')
section
variable {w : World} {pr : Program} {loose : List Str} {mean : ExcName → Option Value} {mg mb : Str → Option Value} {A : Around} {g : Heap} {Lg la : Addr} {vals : List Value} {xs : List Int} {p N : Nat} {cd : Value}
/-- what a run of items must be -/
structure Items (vals : List Value) (xs : List Int) (p : Nat) : Prop where
  are : IntsAre vals xs
  le : p ≤ xs.length
  go : ∀ (i : Nat) (x : Int), i < p → xs[i]? = some x → x ≠ 0 ∧ x ≠ 127
  len : xs.length < 100000
theorem seg_W {wt : PySem.Expr} {wb : List Stmt} (hwt : wt = gWT) (hwb : wb = gWB) {fs : List Frame} (hfs : splitAtGen fs = none) (hfg : fs.any Frame.guarded = false) (hLg : g.objs.size ≤ Lg) (h0 : xs[p]? = some 0) :
    ∀ (n j : Nat) (s₀ s : Shared), p ≤ j → N = j + (n + 1) → Since g Lg s₀ s → s.heap.IsList la vals.toArray → (∃ m, s.heap.Ns Lg m ∧ m nL = some (vals.getD (p - 1) .none)) →
    Seg (model PG w) A (RP g Lg xs p N) (YP g Lg la vals xs p N) (n + 1) s₀ (.whileLoop wt wb [] (envOf gName gScope Lg 28 cd)) ((model PG w).den (.whileLoop wt wb [] (envOf gName gScope Lg 28 cd))) fs s := by
  k_with_none
  k_with "k all" => (first | exact ne_all (by assumption) (by omega) | exact ne_allLt (by assumption) (by omega) | exact ne_allLt (And.right (by assumption)) (by omega) | exact ne_allLt (And.right (And.right (by assumption))) (by omega) | exact ne_allLt (And.right (And.right (And.right (by assumption)))) (by omega) | exact ne_allLt (And.right (And.right (And.right (And.right (by assumption))))) (by omega) | assumption)
  k_with "is list" => (exact News.isList (by assumption) (by k_mem))
  k_with "mul fits" => (first | exact PySem.IntMulOk.of_right (Mine.fit8 (by with_reducible assumption)) | exact PySem.IntMulOk.of_left (Mine.fit8 (by with_reducible assumption)) | exact PySem.IntMulOk.of_left (Mine.fitL (by decide)) | exact PySem.IntMulOk.of_right (Mine.fitL (by decide)))
  k_with "omega" => (first | with_reducible assumption | exact Mine.rl1 (by with_reducible assumption) (by decide) | exact Mine.rl2 (by with_reducible assumption) (by decide) | exact Mine.rl0 (by with_reducible assumption) | decide | (law_clear; law_purse 20000 => lia))
  intro n
  conv at hwt => rhs; whnf
  conv at hwb => rhs; whnf
  subst hwt
  subst hwb
  induction n with
  | zero =>
    intro j s₀ s hj hN hS hl hns
    obtain ⟨m, hm, hv⟩ := hns
    obtain ⟨h1, tk1, e1, k1, st1⟩ := id hS
    have hst : StIn g s.heap := by rw [e1]; exact st1
    refine seg_whileLoop ?_
    k_steps
    refine seg_execs_cons (seg_Expr_Yield hfs rfl hfg (ld (h₀ := g) ⟨hm, hst, hLg⟩ hv ?_))
    intro kap _
    refine ⟨?_, .inr h0, hS, 0, ⟨hst, hl, ⟨m, hm, fun h => absurd h (by omega), fun _ => hv⟩, fun h => absurd h (by omega)⟩, fun h => absurd rfl h⟩
    unfold outv
    rw [if_neg (by omega)]
  | succ n ih =>
    intro j s₀ s hj hN hS hl hns
    obtain ⟨m, hm, hv⟩ := hns
    obtain ⟨h1, tk1, e1, k1, st1⟩ := id hS
    have hst : StIn g s.heap := by rw [e1]; exact st1
    refine seg_whileLoop ?_
    k_steps
    refine seg_execs_cons (seg_Expr_Yield hfs rfl hfg (ld (h₀ := g) ⟨hm, hst, hLg⟩ hv ?_))
    intro kap hkap
    refine ⟨?_, .inr h0, hS, 0, ⟨hst, hl, ⟨m, hm, fun h => absurd h (by omega), fun _ => hv⟩, fun h => absurd h (by omega)⟩, fun h s'' G => ?_⟩
    · unfold outv
      rw [if_neg (by omega)]
    · refine hkap .none s'' ?_
      obtain ⟨mg, hmg, _, hL⟩ := G.ns
      refine seg_execs_nil (seg_again rfl ?_)
      exact ih (j + 1) s'' s'' (by omega) (by omega) ⟨s''.heap, s''.toks, rfl, KeepR.refl _ _, G.stays⟩ G.lst ⟨mg, hmg, hL (by omega)⟩
end
end
section
section
variable {w : World} {pr : Program} {loose : List Str} {mean : ExcName → Option Value} {mg mb : Str → Option Value} {A : Around} {g : Heap} {Lg la : Addr} {vals : List Value} {xs : List Int} {p N : Nat} {cd : Value}
def funK (f : Flow) : Sem Fin := .pure (.done (.ret (match f with | .ret v => v | _ => .none)))
theorem IsListIter.same {h h' : Heap} {a l b : Addr} {i : Nat} (x : h.IsListIter a l i) (hs : Heap.SameBut b h h') (hab : a ≠ b) : h'.IsListIter a l i := x.extBut hs.extBut hab
theorem KeepR.same {Lg : Addr} {h h' : Heap} (hs : Heap.SameBut Lg h h') : KeepR Lg h h' := fun b o h1 _ e => (hs.2 b h1).trans e
theorem KeepR.iter {Lg Li la : Addr} {h h' : Heap} {j : Nat} (hi : h.IsListIter Li la j) (hs : Heap.ExtBut Li h h') : KeepR Lg h h' := fun b o _ h2 e => by
  refine hs b o (fun hb => ?_) e
  subst hb
  obtain ⟨o', ho', hc, hd⟩ := hi
  rw [ho'] at e
  cases e
  exact h2 ⟨hc, _, _, hd⟩
theorem StIn.ext {g h h' : Heap} {Li : Addr} (x : StIn g h) (hs : Heap.ExtBut Li h h') (hn : g.get? Li = none) : StIn g h' := fun b o e => hs b o (fun hb => by rw [hb, hn] at e; cases e) (x b o e)
theorem seg_F (T1 : Top pr loose mean mg mb g) (X1 : (hd.heap_39 w.params).In g) {body : List Stmt} (hb : body = gBody) {Li : Addr} {px : Pos} {K : Flow → Sem Fin} (hK1 : K .next = funK .next) (hK2 : K (.ret .none) = funK .next) {H : Value → Sem Fin} {l : List Value} {c₁ : Code} {p₁ : Pos} {kp : List Value}
    (hA : A.handled = none) (hLg : g.objs.size ≤ Lg) (hI : Items vals xs p) (hout : p = xs.length ∨ xs[p]? = some 127 ∨ (xs[p]? = some 0 ∧ 0 < p)) (hLi : g.get? Li = none) (hLiL : Li ≠ Lg) (hLia : Li ≠ la) (hLal : Lg ≠ la) :
    ∀ (n j : Nat) (s₀ s : Shared), j ≤ p → N = j + (n + 1) → Since g Lg s₀ s → s.heap.IsList la vals.toArray → s.heap.IsListIter Li la j → (∃ m, s.heap.Ns Lg m ∧ m nG = some (.ref la) ∧ m nL = some (lastv vals j)) →
    Seg (model PG w) A (RP g Lg xs p N) (YP g Lg la vals xs p N) (n + 1) s₀ (.forLoop (.Name nI px) (.ref Li) body [] (envOf gName gScope Lg 28 cd)) ((model PG w).den (.forLoop (.Name nI px) (.ref Li) body [] (envOf gName gScope Lg 28 cd)))
      (.ret (ownK (envOf gName gScope Lg 28 cd) K H id id) none false l c₁ p₁ kp :: []) s := by
  conv at hb => rhs; whnf
  subst hb
  k_with_none
  k_with "k all" => (first | exact ne_all (by assumption) (by omega) | exact ne_allLt (by assumption) (by omega) | exact ne_allLt (And.right (by assumption)) (by omega) | exact ne_allLt (And.right (And.right (by assumption))) (by omega) | exact ne_allLt (And.right (And.right (And.right (by assumption)))) (by omega) | exact ne_allLt (And.right (And.right (And.right (And.right (by assumption))))) (by omega) | assumption)
  k_with "is list" => (exact News.isList (by assumption) (by k_mem))
  k_with "mul fits" => (first | exact PySem.IntMulOk.of_right (Mine.fit8 (by with_reducible assumption)) | exact PySem.IntMulOk.of_left (Mine.fit8 (by with_reducible assumption)) | exact PySem.IntMulOk.of_left (Mine.fitL (by decide)) | exact PySem.IntMulOk.of_right (Mine.fitL (by decide)))
  k_with "omega" => (first | with_reducible assumption | exact Mine.rl1 (by with_reducible assumption) (by decide) | exact Mine.rl2 (by with_reducible assumption) (by decide) | exact Mine.rl0 (by with_reducible assumption) | decide | (law_clear; law_purse 20000 => lia))
  (have HH : PySem.Challenge.rw_sr0069_01.row.prog = PG ∧ Mine.hd.heap_39 = Mine.hd.heap_39 := ⟨rfl, rfl⟩)
  revert HH
  k_fill
  intro HH
  clear HH
  intro n
  induction n using Nat.strongRecOn with
  | ind n ih =>
  intro j s₀ s hj hN hS hl hit hns
  obtain ⟨m, hm, hv1, hv2⟩ := hns
  obtain ⟨h1, tk1, rfl, k1, st1⟩ := hS
  have hlen := IntsAre.length hI.are
  have hple := hI.le
  have stop : ∀ (s' : Shared), j = p → (p = xs.length ∨ xs[p]? = some 127) → Since g Lg s₀ s' → Seg (model PG w) A (RP g Lg xs p N) (YP g Lg la vals xs p N) (n + 1) s₀ c₁ (funK .next) [] s' := fun s' hp hq hs => by
    exact seg_end (.ok (.ret .none)) ⟨rfl, by omega, hq, hs⟩
  refine seg_forLoop ?_
  by_cases hjl : j < xs.length
  · obtain ⟨t, ht⟩ := IntsAre.get hI.are j _ (List.getElem?_eq_getElem hjl)
    have hx' : xs[j]? = some xs[j] := List.getElem?_eq_getElem hjl
    generalize xs[j] = x at ht hx'
    have hvj : vals.getD j .none = .int x t := by rw [List.getD_eq_getElem?_getD, ht]; rfl
    refine wpAny_pyNext_list_item hit hl (x := .int x t) (by simpa using ht) (fun h2 it2 sb2 => ?_)
    have hl2 := hl.extBut sb2.extBut (Ne.symm hLia)
    refine wpAny_storeName_local rfl (hm.sameBut sb2 (Ne.symm hLiL)) (fun h3 hn3 sb3 => ?_) rfl
    have st2 := st1.ext sb2.extBut hLi
    have st3 : StIn g h3 := fun b o e => (sb3.2 b (Nat.ne_of_lt (Nat.lt_of_lt_of_le (Heap.lt_size e) hLg))).trans (st2 b o e)
    have l3 : h3.IsList la vals.toArray := hl2.extBut sb3.extBut (Ne.symm hLal)
    have it3 : h3.IsListIter Li la (j + 1) := IsListIter.same it2 sb3 hLiL
    have k3 : KeepR Lg s₀.heap h3 := (k1.trans (KeepR.iter hit sb2.extBut)).trans (KeepR.same sb3)
    have F3 : Fr g Lg h3 _ := ⟨hn3, st3, hLg⟩
    replace F3 := Fr.known F3 [(nI, .int x t), (nL, lastv vals j)] (List.forall_mem_cons.mpr ⟨rfl, List.forall_mem_cons.mpr ⟨hv2, List.forall_mem_nil _⟩⟩)
    have N3 : News g Lg h3 [] := News.nil
    refine seg_execs_cons (seg_If ?_)
    k_steps
    · rename_i hx
      have hjp : j = p := by
        rcases Nat.lt_or_ge j p with h | h
        · exact absurd hx (hI.go j x h hx').2
        · omega
      refine seg_execs_cons (seg_stmt ?_)
      k_steps
      exact seg_leaf (k := ownK (envOf gName gScope Lg 28 cd) K H id id) (.ok (.ret .none)) (by
        show Seg _ _ _ _ _ _ _ (K (.ret .none)) _ _
        rw [hK2]
        exact stop _ hjp (.inr (by rw [← hjp, hx', hx])) ⟨_, _, rfl, k3, st3⟩)
    · rename_i hx
      refine seg_execs_nil (seg_execs_cons (seg_If ?_))
      k_steps
      · rename_i hx0
        have hjp : j = p := by
          rcases Nat.lt_or_ge j p with h | h
          · exact absurd hx0 (hI.go j x h hx').1
          · omega
        have h0p : xs[p]? = some 0 := by rw [← hjp, hx', hx0]
        have hp0 : 0 < p := by
          rcases hout with h | h | ⟨_, h⟩
          · omega
          · rw [← hjp, hx'] at h; cases h; exact absurd rfl hx
          · exact h
        have hy : j - 1 < xs.length := by omega
        obtain ⟨t', ht'⟩ := IntsAre.get hI.are (j - 1) _ (List.getElem?_eq_getElem hy)
        generalize xs[j - 1] = y at ht'
        have hlv : vals.getD (p - 1) .none = .int y t' := by rw [List.getD_eq_getElem?_getD, ← hjp, ht']; rfl
        have hlj : lastv vals j = .int y t' := by unfold lastv; rw [if_neg (by omega), hjp]; exact hlv
        rw [hlj] at F3
        refine seg_execs_cons (seg_If ?_)
        k_steps
        refine seg_execs_nil (seg_execs_cons (seg_While fun p9 => ?_))
        refine seg_W rfl rfl rfl rfl hLg h0p n j s₀ _ (by omega) hN ⟨_, _, rfl, k3, st3⟩ l3 ⟨_, F3.ns, ?_⟩
        rw [hlv]
        with_unfolding_all rfl
      · rename_i hx0
        have hjp : j < p := by
          rcases Nat.lt_or_ge j p with h | h
          · exact h
          · have e : j = p := by omega
            subst e
            rcases hout with h | h | ⟨h, _⟩
            · omega
            · rw [hx'] at h; cases h; exact absurd rfl hx
            · rw [hx'] at h; cases h; exact absurd rfl hx0
        refine seg_execs_nil (seg_execs_cons (seg_Expr_Yield rfl rfl rfl (ld F3 rfl ?_)))
        intro kap hkap
        refine ⟨?_, .inl (by omega), ⟨_, _, rfl, k3, st3⟩, Li, ⟨st3, l3, ⟨_, F3.ns, fun _ => ⟨?_, ?_⟩, fun h => absurd h (by omega)⟩, fun _ => ⟨?_, hLi, hLiL, hLia⟩⟩, fun h s'' G => ?_⟩
        · unfold outv
          rw [show N - 1 - n = j by omega, if_pos hjp, hvj]
        · with_unfolding_all exact hv1
        · rw [show N - n - 1 = j by omega, hvj]
          with_unfolding_all rfl
        · rw [show N - n = j + 1 by omega]; exact it3
        · refine hkap .none s'' ?_
          rw [show N - n = j + 1 by omega] at G
          obtain ⟨n', rfl⟩ := Nat.exists_eq_succ_of_ne_zero h
          obtain ⟨mg, hmg, hA1, _⟩ := G.ns
          obtain ⟨ha, hb⟩ := hA1 (by omega)
          rw [show j + 1 - 1 = j from rfl, hvj] at hb
          refine seg_execs_cons (seg_stmt (wpAny_Assign_Name (ld ⟨hmg, G.stays, hLg⟩ hb ?_)))
          refine wpAny_storeName_local rfl hmg (fun h6 hn6 sb6 => ?_) rfl
          refine seg_execs_nil (seg_again rfl ?_)
          have st6 : StIn g h6 := fun b o e => (sb6.2 b (Nat.ne_of_lt (Nat.lt_of_lt_of_le (Heap.lt_size e) hLg))).trans (G.stays b o e)
          refine ih n' (by omega) (j + 1) s'' _ (by omega) (by omega) ⟨_, _, rfl, KeepR.same sb6, st6⟩ (G.lst.extBut sb6.extBut (Ne.symm hLal)) (IsListIter.same (G.it (by omega)).1 sb6 hLiL) ⟨_, hn6, ?_, ?_⟩
          · with_unfolding_all exact ha
          · have e9 : lastv vals (j + 1) = .int x t := by
              unfold lastv
              rw [if_neg (Nat.succ_ne_zero j), show j + 1 - 1 = j from rfl, hvj]
            rw [e9]
            with_unfolding_all rfl
  · have hjp : j = p := by omega
    refine wpAny_pyNext_list_end ?_ hit hl (by simp; omega) (fun h2 eb2 => ?_)
    · exact hA
    · refine seg_forLoop_stop ?_
      rw [hK1]
      exact (stop _ hjp (.inl (by omega)) ⟨_, _, rfl, k1.trans (KeepR.iter hit eb2), st1.ext eb2 hLi⟩)
end
end
section
section
variable {prog : Program} {w : World} {A : Around} {E : Value → Shared → Prop} {s : Shared}
theorem next_gen {a : Addr} {g n : Nat} {gs : GenState} {P : Nat → Shared → Shared → Prop} {Y : Protocol} {Q : Option Value → Shared → Prop} (hh : A.handled = none)
    (hl : s.heap.NoLimit) (hroom : A.depth < recursionLimit)
    (hg : s.heap.IsGen a g) (hgs : s.gens[g]? = some gs)
    (hgo : gs.Goes (model prog w) A.in1 (fun n s₀ r s₁ => r = .ok (.ret .none) ∧ P n s₀ s₁) Y n (.send .none) (s.setGen g .running))
    (hY : ∀ v s₁ gs', gs'.bare = true → Y (n - 1) (s.setGen g .running) v s₁ (fun r' s'' => match n with
        | 0 => False
        | m + 1 => gs'.Goes (model prog w) A.in1 (fun n s₀ r s₁ => r = .ok (.ret .none) ∧ P n s₀ s₁) Y m r' s'') → Q (some v) (s₁.setGen g gs'))
    (hP : ∀ s₁, P n (s.setGen g .running) s₁ → ∀ h', (∀ b o, s₁.heap.get? b = some o → h'.get? b = some o) → Q none { s₁.setGen g .finished with heap := h' }) :
    wpAny (model prog w) A (pyNext (.ref a)) Q E s := by
  unfold pyNext
  refine wpAny_bind (wpAny_attempt (wpAny_callSpecial?_slot (name := Str.ofString "__next__") hg.typeIs slot_gen_next
    (wpAny_call_entry slot_gen_next hg.typeIs entry_gen_next ?_ (args_gen_next _))))
  show wpAny _ A.in1 (Builtin.Generator.genWake (.ref a) (.send .none)) _ _ s
  unfold Builtin.Generator.genWake
  refine wpAny_bind (wpAny_holding (wpAny_genNumber hg (wpAny_bind (wpAny_genState hgs ?_))))
  cases gs with
  | running => exact hgo.elim
  | finished => exact hgo.elim
  | _ =>
    refine wpAny_bind (wpAny_roomToWake hl hroom ?_)
    show wpAny _ A.in1 (.resume g (.send .none) [] _) _ _ s
    refine wpAny_resumeQ hgs hgo (fun x s₁ hx => ?_) (fun v s₁ gs' hb hv => ?_)
    · obtain ⟨rfl, hp⟩ := hx
      show wpAny _ A.in1 (newExc (.type "StopIteration") [] >>= _) _ _ _
      refine wpAny_bind ?_
      simp only [newExc, newTuple]
      refine wpAny_bind (wpAny_newObj_type ?_ (by size_fits))
      refine wpAny_bind (m := firstArgMember _ _) (wpAny_of_eq (a := Value.none) (by first | rfl | (simp only [firstArgMember]; rfl)) ?_)
      refine wpAny_newObj_type ?_ (by size_fits)
      simp only [raiseNew]
      refine wpAny_bind (wpAny_bind (wpAny_handled ?_))
      first | rw [show A.in1.handled = none from hh] | rw [hh]
      refine wpAny_throw ?_
      refine wpAny_bind (wpAny_isInstance (T := "StopIteration") (b := true) ⟨_, Heap.get?_push_size _ rfl, rfl⟩ isSubtype_stop ?_)
      exact wpAny_pure (hP s₁ hp _ fun b o hb => Heap.get?_push_of_some _ (Heap.get?_push_of_some _ hb))
    · exact wpAny_pure ⟨v, rfl, wpAny_pure (hY v s₁ gs' hb hv)⟩
end
section
variable {w : World} {pr : Program} {loose : List Str} {mean : ExcName → Option Value} {mg mb : Str → Option Value} {A : Around} {g : Heap} {Lg la : Addr} {vals : List Value} {xs : List Int} {p N : Nat} {cd : Value}
/-- before its first value -/
structure GFresh (g : Heap) (Lg la : Addr) (vals : List Value) (h : Heap) : Prop where
  stays : StIn g h
  lst : h.IsList la vals.toArray
  ns : ∃ m, h.Ns Lg m ∧ m nG = some (.ref la)
theorem seg_new (T1 : Top pr loose mean mg mb g) (X1 : (hd.heap_39 w.params).In g) {body : List Stmt} (hb : body = fnBody gStmt)
    (hA : A.handled = none) (hLg : g.objs.size ≤ Lg) (hI : Items vals xs p) (hout : p = xs.length ∨ xs[p]? = some 127 ∨ (xs[p]? = some 0 ∧ 0 < p)) (hLal : Lg ≠ la) {n : Nat} {s : Shared} (hN : N = n + 1) (G : GFresh g Lg la vals s.heap) :
    Seg (model PG w) A (RP g Lg xs p N) (YP g Lg la vals xs p N) (n + 1) s (.func body (envOf gName gScope Lg 28 cd)) ((model PG w).den (.func body (envOf gName gScope Lg 28 cd))) [] s := by
  conv at hb => rhs; whnf
  subst hb
  obtain ⟨st, hl, m, hm, hv⟩ := G
  refine seg_func (seg_execs_cons (seg_stmt (wpAny_Assign_Name (wpAny_of_eq (a := Value.none) rfl ?_))))
  refine wpAny_storeName_local rfl hm (fun h1 hn1 sb1 => ?_) rfl
  have st1 : StIn g h1 := fun b o e => (sb1.2 b (Nat.ne_of_lt (Nat.lt_of_lt_of_le (Heap.lt_size e) hLg))).trans (st b o e)
  have l1 : h1.IsList la vals.toArray := hl.extBut sb1.extBut (Ne.symm hLal)
  have F1 : Fr g Lg h1 _ := ⟨hn1, st1, hLg⟩
  refine seg_execs_cons (seg_For (ld F1 (v := .ref la) (by with_unfolding_all exact hv) (wpAny_pyIter_list l1 fun p₁ => ?_)))
  have hsz := hn1.lt
  have hla : la < h1.objs.size := let ⟨o, ho, _⟩ := l1; Heap.lt_size ho
  have hsz' : Lg < h1.objs.size := hsz
  have f1 : g.get? h1.objs.size = none := Heap.get?_none_of_le (Nat.le_trans hLg (Nat.le_of_lt hsz'))
  have f2 : h1.objs.size ≠ Lg := Nat.ne_of_gt hsz'
  have f3 : h1.objs.size ≠ la := Nat.ne_of_gt hla
  have f4 : (h1.push { cls := .type "list_iterator", data := .fields #[.ref la, .int 0 0] }).IsListIter h1.objs.size la 0 := ⟨_, Heap.get?_push_size _ rfl, rfl, rfl⟩
  refine seg_F T1 X1 rfl ?_ ?_ hA hLg hI hout f1 f2 f3 hLal n 0 s _ (Nat.zero_le _) (hN.trans (Nat.zero_add _).symm) ⟨_, _, rfl, ?_, ?_⟩ (l1.push _) f4 ⟨_, hn1.push _, ?_, ?_⟩
  · rfl
  · rfl
  · exact fun b o h1' h2' e => Heap.get?_push_of_some _ (KeepR.same sb1 b o h1' h2' e)
  · exact fun b o e => Heap.get?_push_of_some _ (st1 b o e)
  · with_unfolding_all exact hv
  · with_unfolding_all rfl
end
end
section
section
variable {w : World} {pr : Program} {loose : List Str} {mean : ExcName → Option Value} {mg mb : Str → Option Value} {A : Around} {g : Heap} {Lg la : Addr} {vals : List Value} {xs : List Int} {p N : Nat} {cd : Value}
structure GCond (g : Heap) (Lg la Li : Addr) (vals : List Value) (p j : Nat) (h : Heap) : Prop where
  new : j = 0 → GFresh g Lg la vals h
  mid : j ≠ 0 → GAt g Lg la Li vals p j h
theorem GCond.stays {Li : Addr} {j : Nat} {h : Heap} (x : GCond g Lg la Li vals p j h) : StIn g h := by
  by_cases h0 : j = 0
  · exact (x.new h0).stays
  · exact (x.mid h0).stays
def GReady (w : World) (A : Around) (g : Heap) (Lg la : Addr) (vals : List Value) (xs : List Int) (p N : Nat) (Li j : Nat) (gs : GenState) : Prop :=
  ∀ s'' : Shared, GCond g Lg la Li vals p j s''.heap → gs.Goes (model PG w) A (RP g Lg xs p N) (YP g Lg la vals xs p N) (N - j) (.send .none) s''
theorem GReady.new (T1 : Top pr loose mean mg mb g) (X1 : (hd.heap_39 w.params).In g) {body : List Stmt} (hb : body = fnBody gStmt)
    (hA : A.handled = none) (hLg : g.objs.size ≤ Lg) (hI : Items vals xs p) (hout : p = xs.length ∨ xs[p]? = some 127 ∨ (xs[p]? = some 0 ∧ 0 < p)) (hLal : Lg ≠ la) (hN : 0 < N) {Li : Addr} :
    GReady w A g Lg la vals xs p N Li 0 (.fresh (.func body (envOf gName gScope Lg 28 cd))) := by
  intro s'' C
  obtain ⟨n, rfl⟩ := Nat.exists_eq_succ_of_ne_zero (Nat.ne_of_gt hN)
  exact ⟨rfl, seg_new T1 X1 hb hA hLg hI hout hLal rfl (C.new rfl)⟩
def AllBareG (gens : Array GenState) : Prop := ∀ x ∈ gens, x.bare = true
theorem AllBareG.set {gens : Array GenState} {i : Nat} {x : GenState} (h : AllBareG gens) (hx : x.bare = true) : AllBareG (gens.setIfInBounds i x) := by
  intro y hy
  rcases Array.mem_or_eq_of_mem_setIfInBounds hy with h1 | rfl
  · exact h y h1
  · exact hx
theorem left_a {N j : Nat} (h : j < N) : N - 1 - (N - j - 1) = j := by rw [Nat.sub_right_comm N j 1, Nat.sub_sub_self (Nat.le_sub_one_of_lt h)]
theorem left_b {N j : Nat} (h : j < N) : N - (N - j - 1) = j + 1 := by rw [Nat.sub_sub, Nat.sub_sub_self h]
theorem c_next {E : Value → Shared → Prop} {s : Shared} {Q : Option Value → Shared → Prop} {ga gi Li j : Nat} {gs : GenState} (T1 : Top pr loose mean mg mb g) (hh : A.handled = none) (hroom : A.depth < recursionLimit) (hj : j < N)
    (hg : s.heap.IsGen ga gi) (hgs : s.gens[gi]? = some gs) (hb : AllBareG s.gens) (hrd : GReady w A.in1 g Lg la vals xs p N Li j gs) (hc : GCond g Lg la Li vals p j s.heap)
    (hY : ∀ h' tk' gens' gs' Li', (j < p ∨ xs[p]? = some 0) → KeepR Lg s.heap h' → GCond g Lg la Li' vals p (j + 1) h' → AllBareG gens' → gens'[gi]? = some gs' → (j + 1 < N → GReady w A.in1 g Lg la vals xs p N Li' (j + 1) gs') →
      Q (some (outv vals p j)) { s with heap := h', toks := tk', gens := gens' })
    (hS : j = p → (p = xs.length ∨ xs[p]? = some 127) → ∀ h' tk' gens', KeepR Lg s.heap h' → StIn g h' → AllBareG gens' → Q none { s with heap := h', toks := tk', gens := gens' }) :
    wpAny (model PG w) A (pyNext (.ref ga)) Q E s := by
  have hgi : gi < s.gens.size := (Array.getElem?_eq_some_iff.mp hgs).1
  refine next_gen (P := fun n s₀ s₁ => N - n = p ∧ (p = xs.length ∨ xs[p]? = some 127) ∧ Since g Lg s₀ s₁) hh (T1.nolimit.keeps hc.stays) hroom hg hgs (hrd (s.setGen gi .running) hc) ?_ ?_
  · rintro v s₁ gs' hbare ⟨rfl, hp, ⟨h', tk', rfl, kr, st⟩, Li', G, hk⟩
    rw [left_a hj] at hp ⊢
    rw [left_b hj] at G hk
    refine hY h' tk' _ gs' Li' hp kr ⟨fun h => absurd h (Nat.succ_ne_zero j), fun _ => G⟩ ?_ ?_ ?_
    · exact (hb.set rfl).set hbare
    · show ((s.gens.setIfInBounds gi .running).setIfInBounds gi gs')[gi]? = some gs'
      rw [Array.getElem?_setIfInBounds_self_of_lt (by simpa using hgi)]
    · intro hlt s'' C
      have h1 := hk (by omega) s'' (C.mid (Nat.succ_ne_zero j))
      obtain ⟨m, hm⟩ := Nat.exists_eq_succ_of_ne_zero (n := N - j) (by omega)
      rw [hm] at h1
      rw [show N - (j + 1) = m from congrArg Nat.pred hm]
      exact h1
  · rintro s₁ ⟨hjp, hq, ⟨h', tk', rfl, kr, st⟩⟩ h'' hkeep
    refine hS (by omega) hq h'' tk' _ (fun b o h1 h2 e => hkeep b o (kr b o h1 h2 e)) (fun b o e => hkeep b o (st b o e)) ?_
    exact (hb.set rfl).set rfl
end
end
section
section
variable {w : World} {p : Program} {loose : List Str} {mean : ExcName → Option Value} {mg mb : Str → Option Value} {A A₀ : Around} {h₀ : Heap} {L : Addr} {m : Str → Option Value} {news : List (Addr × Obj)} {s : Shared} {prog : Program}
/-- a generator def is called: its object and its frame are new -/
theorem code_gen {K : Frag} {R : Result → Shared → Prop} {name qual : Str} {params : Arguments} {body : List Stmt} {scope : Scope} {dV kV doc pm cdv ct oc : Value} {an od : Option Addr} {osl : Array (Option Value)} {f : Addr} {args : Args} {binds : List (Str × Value)}
    (F : Fr h₀ L s.heap m) (X₀ : K.In h₀) (N : News h₀ L s.heap news) (T : Top p loose mean mg mb h₀)
    (ho : K.lookup f = some ⟨oc, od, .func (fnOf name qual params body scope dV kV doc pm an cdv ct), osl⟩) (hcd : codeIn K cdv qual = true) (hroom : A.depth < recursionLimit)
    (hbind : BindsTo s (fnOf name qual params body scope dV kV doc pm an cdv ct) args binds) (hloc : ∀ y ∈ binds, scope.names.lookup y.1 = some .local)
    (h : ∀ (Lg ga : Addr) (oL oG : Obj) (h' : Heap) (tk' : Nat), Fr h₀ L h' m → News h₀ L h' ((ga, oG) :: (Lg, oL) :: news) → h'.Ns Lg (fun y => binds.reverse.lookup y) → h'.IsGen ga s.gens.size → (∀ p ∈ news, p.1 < Lg) → Lg < ga → h₀.objs.size ≤ Lg →
      oG.cls ≠ .type "list_iterator" →
      R (.ok (.ret (.ref ga))) { s with heap := h', toks := tk', gens := s.gens.push (.fresh (.func body (envOf qual scope Lg f cdv))) })
    (hco : scope.isCoroutine = false) (hgen : scope.isGenerator = true) (hk : scope.kind = .function)
    (hcell : ∀ x ∈ scope.names, x.2 ≠ .cell) : codeAny (model prog w) A (.call (.ref f) args) R s := by
  have X := X₀.keeps F.keep
  have hLt := F.ns.lt
  have hlim := T.nolimit.keeps F.keep
  refine codeAny_call_generator (fd := fnOf name qual params body scope dV kV doc pm an cdv ct) hroom (X _ _ ho) rfl hco hgen rfl (codeRec_of X hcd) (hbind _ _ _ _ ?_)
  refine wpAny_newFunctionEnv hcell hloc (fun h1 hn1 sb1 => ⟨hlim.fresh _ sb1, ?_⟩) hk
  have up : ∀ b o, s.heap.get? b = some o → h1.get? b = some o := fun b o e => sb1.extBut b o (Nat.ne_of_lt (Heap.lt_size e)) (Heap.get?_push_of_some _ e)
  have hL1 := hn1.lt
  obtain ⟨oL, hoL⟩ : ∃ o, h1.get? s.heap.objs.size = some o := let ⟨o, _, _, ho, _⟩ := hn1; ⟨o, ho⟩
  refine h s.heap.objs.size h1.objs.size oL { cls := .type "generator", data := .fields #[.int s.gens.size 0, .str name (s.toks + binds.length), .str qual (s.toks + binds.length + 1)] } _ _ ⟨(F.ns.keeps up).push _, fun b o e => Heap.get?_push_of_some _ (up b o (F.keep b o e)), F.above⟩ (fun q hq => ?_) (hn1.push _) ⟨_, _, _, Heap.get?_push_size _ rfl, rfl, rfl, rfl⟩ (fun p hp => Heap.lt_size (N p hp).1) hL1 (Nat.le_trans F.above (Nat.le_of_lt hLt)) (show Value.type "generator" ≠ .type "list_iterator" by decide)
  rcases List.mem_cons.mp hq with rfl | hq
  · exact ⟨Heap.get?_push_size _ rfl, Nat.ne_of_gt (Nat.lt_trans hLt hL1), Heap.get?_none_of_le (Nat.le_of_lt (Nat.lt_of_le_of_lt F.above (Nat.lt_trans hLt hL1)))⟩
  · rcases List.mem_cons.mp hq with rfl | hq
    · exact ⟨Heap.get?_push_of_some _ hoL, Nat.ne_of_gt hLt, Heap.get?_none_of_le (Nat.le_trans F.above (Nat.le_of_lt hLt))⟩
    · obtain ⟨h1', h2', h3'⟩ := N q hq
      exact ⟨Heap.get?_push_of_some _ (up _ _ h1'), h2', h3'⟩
end
section
variable {w : World} {p : Program} {loose : List Str} {mean : ExcName → Option Value} {mg mb : Str → Option Value} {dp un : Nat} {gd : Option (List Code)} {cn : Str} {cs : Scope} {a : Addr} {ccd : Value} {cl : List (Str × Addr)} {outer : List Env} {A₀ : Around} {base h₀ : Heap} {L : Addr} {m : Str → Option Value} {news : List (Addr × Obj)} {s : Shared} {Q E : Value → Shared → Prop}

theorem c_gen {la : Addr} (S : Site w p loose mean mg mb cs A₀ base outer h₀) (F : Fr h₀ L s.heap m) (N : News h₀ L s.heap news) (hdp : dp < recursionLimit)
    (hret : ∀ (Lg ga : Addr) (oL oG : Obj) (h' : Heap) (tk' : Nat) (cd : Value) (body : List Stmt), body = fnBody gStmt → Fr h₀ L h' m → News h₀ L h' ((ga, oG) :: (Lg, oL) :: news) → (∃ mg, h'.Ns Lg mg ∧ mg nG = some (.ref la)) → h'.IsGen ga s.gens.size → (∀ p ∈ news, p.1 < Lg) → Lg < ga → h₀.objs.size ≤ Lg →
      oG.cls ≠ .type "list_iterator" →
      Q (.ref ga) { s with heap := h', toks := tk', gens := s.gens.push (.fresh (.func body (envOf gName gScope Lg 28 cd))) }) :
    wpAny (model PG w) (ktrTop dp un gd cn cs L a ccd cl outer) (call (.ref 28) [.ref la]) Q E s := by
  obtain ⟨B, X, T0, hk⟩ := S
  k_with_none
  k_with "k all" => (first | exact ne_all (by assumption) (by omega) | exact ne_allLt (by assumption) (by omega) | exact ne_allLt (And.right (by assumption)) (by omega) | exact ne_allLt (And.right (And.right (by assumption))) (by omega) | exact ne_allLt (And.right (And.right (And.right (by assumption)))) (by omega) | exact ne_allLt (And.right (And.right (And.right (And.right (by assumption))))) (by omega) | assumption)
  k_with "is list" => (exact News.isList (by assumption) (by k_mem))
  k_with "mul fits" => (first | exact PySem.IntMulOk.of_right (Mine.fit8 (by with_reducible assumption)) | exact PySem.IntMulOk.of_left (Mine.fit8 (by with_reducible assumption)) | exact PySem.IntMulOk.of_left (Mine.fitL (by decide)) | exact PySem.IntMulOk.of_right (Mine.fitL (by decide)))
  k_with "omega" => (first | with_reducible assumption | exact Mine.rl1 (by with_reducible assumption) (by decide) | exact Mine.rl2 (by with_reducible assumption) (by decide) | exact Mine.rl0 (by with_reducible assumption) | decide | (law_clear; law_purse 20000 => lia))
  (have HH : PySem.Challenge.rw_sr0069_01.row.prog = PG ∧ Mine.hd.heap_39 = Mine.hd.heap_39 := ⟨rfl, rfl⟩)
  revert HH
  k_fill
  intro HH
  clear HH
  refine wpAny_call ?_
  refine code_gen (binds := [(nG, .ref la)]) F X N T0 (by k_is) (by k_is) hdp (BindsTo.of_eq rfl) (locs rfl) ?_ rfl rfl rfl (by decide)
  intro Lg ga oL oG h' tk' F1 N1 n1 g1 l1 l2 l3 d1
  exact hret Lg ga oL oG h' tk' _ _ rfl F1 N1 ⟨_, n1, rfl⟩ g1 l1 l2 l3 d1
end
end
section
section
variable {prog : Program} {w : World} {A : Around} {R : GenEnd} {Y : Protocol} {n : Nat} {s₀ s : Shared} {env : Env}
/-- a generator's code that gives nothing: as a function's -/
theorem seg_plain {body : List Stmt}
    (h : wpAny (model prog w) (A.deeper env) (execs body env) (fun f s' => R n s₀ (.ok (.ret (match f with | .ret v => v | _ => .none))) s')
      (fun e s' => wpAny (model prog w) (A.deeper env) (leaving env e) (fun _ s'' => R n s₀ (.error e) s'') (fun e' s'' => R n s₀ (.error e') s'') s') s) :
    Seg (model prog w) A R Y n s₀ (.func body env) ((model prog w).den (.func body env)) [] s := by
  refine seg_func (seg_wrap ?_)
  have hA : A.over (.func body env) [] = A.deeper env := by
    obtain ⟨a, b, c, d, e⟩ := A
    cases c <;> cases d <;> rfl
  rw [hA]
  refine wpAny_mono h (fun f s' hf => ?_) (fun e s' he => ?_)
  · cases f <;> exact seg_end (.ok (.ret _)) hf
  · refine seg_wrap ?_
    rw [hA]
    exact wpAny_mono he (fun _ s'' h2 => seg_end (.error e) h2) (fun e' s'' h2 => seg_end (.error e') h2)
end
section
variable {w : World} {p : Program} {loose : List Str} {mean : ExcName → Option Value} {mg mb : Str → Option Value} {dp un : Nat} {gd : Option (List Code)} {cn : Str} {cs : Scope} {a : Addr} {ccd : Value} {cl : List (Str × Addr)} {outer : List Env} {A₀ : Around} {base h₀ : Heap} {L : Addr} {m : Str → Option Value} {news : List (Addr × Obj)} {s : Shared} {Q E : Value → Shared → Prop}

/-- the end by the program's own error -/
def RX (base : Heap) (l : List Env) (news : List (Addr × Obj)) (g : Heap) : GenEnd := fun _ s₀ r s' => ∃ (e t : Addr) (tk : Tok) (h' : Heap) (tk' : Nat), r = .error (.ref e) ∧ s' = { s₀ with heap := h', toks := tk' } ∧ RaisedK base l e (.type "ValueError") t [.str (Str.ofString "invalid grouping") tk] news h' ∧ g.UpToSlots h'
theorem seg_raise {g : Heap} {Lg la : Addr} {vals : List Value} {x : Int} {xs : List Int} {cd : Value} {mg' : Str → Option Value} {Y : Protocol} {n : Nat} {A : Around} (hA : A.handled = none) {body : List Stmt} (hb : body = fnBody gStmt) (B : Below A base outer g) (X1 : (hd.heap_39 w.params).In g) (T1 : Top p loose mean mg mb g)
    (F : Fr g Lg s.heap mg') (hm : mg' nG = some (.ref la)) (N : News g Lg s.heap news) (hl : s.heap.IsList la vals.toArray) (hI : IntsAre vals (0 :: xs)) (hLal : Lg ≠ la) :
    Seg (model PG w) A (RX base outer news g) Y n s (.func body (envOf gName gScope Lg 28 cd)) ((model PG w).den (.func body (envOf gName gScope Lg 28 cd))) [] s := by
  conv at hb => rhs; whnf
  subst hb
  k_with_none
  k_with "k all" => (first | exact ne_all (by assumption) (by omega) | exact ne_allLt (by assumption) (by omega) | exact ne_allLt (And.right (by assumption)) (by omega) | exact ne_allLt (And.right (And.right (by assumption))) (by omega) | exact ne_allLt (And.right (And.right (And.right (by assumption)))) (by omega) | exact ne_allLt (And.right (And.right (And.right (And.right (by assumption))))) (by omega) | assumption)
  k_with "is list" => (exact News.isList (by assumption) (by k_mem))
  k_with "mul fits" => (first | exact PySem.IntMulOk.of_right (Mine.fit8 (by with_reducible assumption)) | exact PySem.IntMulOk.of_left (Mine.fit8 (by with_reducible assumption)) | exact PySem.IntMulOk.of_left (Mine.fitL (by decide)) | exact PySem.IntMulOk.of_right (Mine.fitL (by decide)))
  k_with "omega" => (first | with_reducible assumption | exact Mine.rl1 (by with_reducible assumption) (by decide) | exact Mine.rl2 (by with_reducible assumption) (by decide) | exact Mine.rl0 (by with_reducible assumption) | decide | (law_clear; law_purse 20000 => lia))
  k_with "leaving ref" => (k_here; (refine' leave_raiseK ?k1 (Heap.MadeExc.of (by assumption)) ?k2 ?k3 ?_; (case k1 => assumption); (case k2 => assumption); (case k3 => k_asm); k_whole; intro h' t' R' U'; (try dsimp only at R' U' ⊢)))
  k_with "exec Raise some none" => (k_here; refine halt ?_)
  (have HH : PySem.Challenge.rw_sr0069_01.row.prog = PG ∧ Mine.hd.heap_39 = Mine.hd.heap_39 := ⟨rfl, rfl⟩)
  revert HH
  k_fill
  intro HH
  clear HH
  obtain ⟨hA1, hA2, hA3, hA4, hA5⟩ := A
  obtain rfl : hA1 = none := hA
  refine seg_plain ?_
  refine wpAny_execs_cons (wpAny_Assign_Name (wpAny_of_eq (a := Value.none) rfl ?_))
  refine wpAny_storeName_local rfl F.ns (fun h1 hn1 sb1 => ?_) rfl
  have F1 : Fr g Lg h1 _ := F.set hn1 sb1
  have N1 : News g Lg h1 news := N.set sb1
  have hsz : Lg < h1.objs.size := F1.ns.lt
  have l1 : h1.IsList la vals.toArray := hl.extBut sb1.extBut (Ne.symm hLal)
  have hla : la < h1.objs.size := let ⟨o, ho, _⟩ := l1; Heap.lt_size ho
  have hv1 : (fun y => if y = Str.ofString "last_interval" then some Value.none else mg' y) nG = some (.ref la) := by with_unfolding_all exact hm
  refine wpAny_execs_cons (wpAny_For (ld F1 hv1 (wpAny_pyIter_list l1 ?_)))
  have f4 : (h1.push { cls := .type "list_iterator", data := .fields #[.ref la, .int 0 0] }).IsListIter h1.objs.size la 0 := ⟨_, Heap.get?_push_size _ rfl, rfl, rfl⟩
  refine codeAny_forLoop (fun k s' => k = 0 ∧ s' = _) (fun k s' hI => ?_) 0 ⟨rfl, rfl⟩
  obtain ⟨_, rfl⟩ := hI
  obtain ⟨t, vs', rfl, _⟩ := IntsAre.cons_inv hI
  refine wpAny_pyNext_list_item f4 (l1.push _) (x := .int 0 t) rfl (fun h2 it2 sb2 => ?_)
  have F2 : Fr g Lg h2 _ := ⟨(F1.ns.push _).sameBut sb2 (Nat.ne_of_lt hsz), fun b o e => (sb2.2 b (Nat.ne_of_lt (Heap.lt_size (F1.keep b o e)))).trans (Heap.get?_push_of_some _ (F1.keep b o e)), F1.above⟩
  have N2 : News g Lg h2 news := fun q hq => ⟨(sb2.2 q.1 (Nat.ne_of_lt (Heap.lt_size (N1 q hq).1))).trans (Heap.get?_push_of_some _ (N1 q hq).1), (N1 q hq).2⟩
  refine wpAny_assign_Name (stN F2 N2 (fun h3 F3 N3 => ?_))
  refine wpAny_passesOwn (by passes_own) ?_
  replace F3 := Fr.known F3 [(nI, .int 0 t), (nL, .none)] (List.forall_mem_cons.mpr ⟨rfl, List.forall_mem_cons.mpr ⟨by with_unfolding_all rfl, List.forall_mem_nil _⟩⟩)
  clear F1 N1 F2 N2
  k_steps
  unfold Halt
  refine Raise_madeB PySem.F.excCall_ValueError PySem.F.excRaise_ValueError rfl ?_
  refine name_B F3 X1 (by k_asm) (by k_is) PyProof.Rows.Boot.«ValueError» (by decide) ⟨rfl, ?_⟩
  k_steps
  exact ⟨_, _, _, _, _, rfl, rfl, by assumption, by assumption⟩
end
end
section
section
variable {prog : Program} {w : World} {A : Around} {E : Value → Shared → Prop} {s : Shared}
theorem isSubtype_value_stop : isSubtype (.type "ValueError") (.type "StopIteration") = pure false := by with_unfolding_all rfl
theorem next_raise {a : Addr} {g n : Nat} {gs : GenState} {R : GenEnd} {Y : Protocol} {Q : Option Value → Shared → Prop} (hh : A.handled = none)
    (hl : s.heap.NoLimit) (hroom : A.depth < recursionLimit)
    (hg : s.heap.IsGen a g) (hgs : s.gens[g]? = some gs)
    (hgo : gs.Goes (model prog w) A.in1 R Y n (.send .none) (s.setGen g .running))
    (hY : ∀ m s₀ v s₁ k, ¬ Y m s₀ v s₁ k)
    (hR : ∀ r s₁, R n (s.setGen g .running) r s₁ → ∃ e, r = .error (.ref e) ∧ s₁.heap.IsGen a g ∧ s₁.TypeIs (.ref e) "ValueError" ∧ E (.ref e) (s₁.setGen g .finished)) :
    wpAny (model prog w) A (pyNext (.ref a)) Q E s := by
  unfold pyNext
  refine wpAny_bind (wpAny_attempt (wpAny_callSpecial?_slot (name := Str.ofString "__next__") hg.typeIs slot_gen_next
    (wpAny_call_entry slot_gen_next hg.typeIs entry_gen_next ?_ (args_gen_next _))))
  show wpAny _ A.in1 (Builtin.Generator.genWake (.ref a) (.send .none)) _ _ s
  unfold Builtin.Generator.genWake
  refine wpAny_bind (wpAny_holding (wpAny_genNumber hg (wpAny_bind (wpAny_genState hgs ?_))))
  cases gs with
  | running => exact hgo.elim
  | finished => exact hgo.elim
  | _ =>
    refine wpAny_bind (wpAny_roomToWake hl hroom ?_)
    show wpAny _ A.in1 (.resume g (.send .none) [] _) _ _ s
    refine wpAny_resumeQ hgs hgo (fun x s₁ hx => ?_) (fun v s₁ gs' hb hv => absurd hv (hY _ _ _ _ _))
    obtain ⟨e, rfl, ⟨oG, nm, qn, ho, hc, hd, hsl⟩, hT, hE⟩ := hR x s₁ hx
    show wpAny _ A.in1 (Builtin.Generator.genLeft (.ref a) (.ref e)) _ _ _
    unfold Builtin.Generator.genLeft Builtin.Generator.madeByALambda
    refine wpAny_bind (wpAny_bind (wpAny_load ho (wpAny_pure ?_)))
    refine wpAny_bind (wpAny_isInstance (s := s₁.setGen g (End.ret (.error (.ref e))).genState) hT isSubtype_value_stop ?_)
    rw [Bool.and_false, if_neg Bool.false_ne_true]
    unfold Builtin.Generator.genEscaped
    refine wpAny_bind (wpAny_isInstance (s := s₁.setGen g (End.ret (.error (.ref e))).genState) hT isSubtype_value_stop ?_)
    dsimp only
    rw [if_pos (show (!false) = true from rfl)]
    refine wpAny_bind (wpAny_throw ?_)
    refine wpAny_bind (wpAny_isInstance (s := s₁.setGen g (End.ret (.error (.ref e))).genState) hT isSubtype_value_stop ?_)
    rw [if_neg Bool.false_ne_true]
    exact wpAny_throw hE
end
section
variable {w : World} {p : Program} {loose : List Str} {mean : ExcName → Option Value} {mg mb : Str → Option Value} {A A₀ : Around} {base h₀ : Heap} {L : Addr} {m : Str → Option Value} {news : List (Addr × Obj)} {s : Shared} {prog : Program} {env : Env} {outer : List Env}
theorem code_genX {K : Frag} {R : Result → Shared → Prop} {name qual : Str} {params : Arguments} {body : List Stmt} {scope : Scope} {dV kV doc pm cdv ct oc : Value} {an od : Option Addr} {osl : Array (Option Value)} {f : Addr} {args : Args} {binds : List (Str × Value)}
    (B : Below A₀ base outer h₀) (F : Fr h₀ L s.heap m) (X₀ : K.In h₀) (N : News h₀ L s.heap news) (T : Top p loose mean mg mb h₀) (hA : A.frames = some (env :: outer)) (hf : env.frame = some L) (hke : env.scope.kind = .function)
    (ho : K.lookup f = some ⟨oc, od, .func (fnOf name qual params body scope dV kV doc pm an cdv ct), osl⟩) (hcd : codeIn K cdv qual = true) (hroom : A.depth < recursionLimit)
    (hbind : BindsTo s (fnOf name qual params body scope dV kV doc pm an cdv ct) args binds) (hloc : ∀ y ∈ binds, scope.names.lookup y.1 = some .local)
    (h : ∀ (g : Heap) (Lg ga : Addr) (oG : Obj) (h' : Heap) (tk' : Nat), Fr h₀ L g m → Below A base (env :: outer) g → K.In g → Top p loose mean mg mb g → Fr g Lg h' (fun y => binds.reverse.lookup y) → News g Lg h' ((ga, oG) :: news) → h'.IsGen ga s.gens.size → (∀ b o, s.heap.get? b = some o → h'.get? b = some o ∧ b ≠ Lg) →
      R (.ok (.ret (.ref ga))) { s with heap := h', toks := tk', gens := s.gens.push (.fresh (.func body (envOf qual scope Lg f cdv))) })
    (hco : scope.isCoroutine = false) (hgen : scope.isGenerator = true) (hk : scope.kind = .function)
    (hcell : ∀ x ∈ scope.names, x.2 ≠ .cell) : codeAny (model prog w) A (.call (.ref f) args) R s := by
  have X := X₀.keeps F.keep
  have hlim := T.nolimit.keeps F.keep
  obtain ⟨FG, BG, st, _⟩ := groundX (R := R) B F N hA hf hke
  refine codeAny_call_generator (fd := fnOf name qual params body scope dV kV doc pm an cdv ct) hroom (X _ _ ho) rfl hco hgen rfl (codeRec_of X hcd) (hbind _ _ _ _ ?_)
  refine wpAny_newFunctionEnv hcell hloc (fun h1 hn1 sb1 => ⟨hlim.fresh _ sb1, ?_⟩) hk
  have up : ∀ b o, s.heap.get? b = some o → h1.get? b = some o := fun b o e => sb1.extBut b o (Nat.ne_of_lt (Heap.lt_size e)) (Heap.get?_push_of_some _ e)
  have hL1 := hn1.lt
  refine h (hideAll s.heap (news.map fun x : Addr × Obj => x.fst)) s.heap.objs.size h1.objs.size { cls := .type "generator", data := .fields #[.int s.gens.size 0, .str name (s.toks + binds.length), .str qual (s.toks + binds.length + 1)] } _ _ FG BG (X₀.keeps st) (T.keeps st)
    ⟨hn1.push _, fun b o e => Heap.get?_push_of_some _ (up b o (of_hideAll _ e)), Nat.le_of_eq (hideAll_size _ _)⟩ (fun q hq => ?_) ⟨_, _, _, Heap.get?_push_size _ rfl, rfl, rfl, rfl⟩ (fun b o e => ⟨Heap.get?_push_of_some _ (up b o e), Nat.ne_of_lt (Heap.lt_size e)⟩)
  rcases List.mem_cons.mp hq with rfl | hq
  · exact ⟨Heap.get?_push_size _ rfl, Nat.ne_of_gt hL1, Heap.get?_none_of_le (by rw [hideAll_size]; exact Nat.le_of_lt hL1)⟩
  · exact ⟨Heap.get?_push_of_some _ (up _ _ (N q hq).1), Nat.ne_of_lt (Heap.lt_size (N q hq).1), hideAll_none _ (List.mem_map_of_mem hq)⟩
end
section
variable {w : World} {p : Program} {loose : List Str} {mean : ExcName → Option Value} {mg mb : Str → Option Value} {dp un : Nat} {gd : Option (List Code)} {cn : Str} {cs : Scope} {a : Addr} {ccd : Value} {cl : List (Str × Addr)} {outer : List Env} {A₀ : Around} {base h₀ : Heap} {L : Addr} {m : Str → Option Value} {news : List (Addr × Obj)} {s : Shared} {Q E : Value → Shared → Prop}

/-- a new generator over a list that opens with 0: the first turn raises -/
inductive Doomed (w : World) (p : Program) (loose : List Str) (mean : ExcName → Option Value) (mg mb : Str → Option Value) (A : Around) (base : Heap) (env : Env) (outer : List Env) (h₀ : Heap) (L : Addr) (m : Str → Option Value) (news : List (Addr × Obj)) (la ga : Addr) (s : Shared) : Prop
  | mk (g : Heap) (Lg : Addr) (oG : Obj) (cd : Value) (body : List Stmt) (mg' : Str → Option Value) (vals : List Value) (xs : List Int) (gi : Nat) (k0 : body = fnBody gStmt) (k1 : Fr h₀ L g m) (k2 : Below A base (env :: outer) g) (k3 : (hd.heap_39 w.params).In g) (k4 : Top p loose mean mg mb g) (k5 : Fr g Lg s.heap mg') (k6 : mg' nG = some (.ref la)) (k7 : News g Lg s.heap ((ga, oG) :: news)) (k8 : s.heap.IsGen ga gi) (k9 : s.gens[gi]? = some (.fresh (.func body (envOf gName gScope Lg 28 cd)))) (k10 : s.heap.IsList la vals.toArray) (k11 : IntsAre vals (0 :: xs)) (k12 : Lg ≠ la) : Doomed w p loose mean mg mb A base env outer h₀ L m news la ga s
theorem c_genX {la : Addr} {vals : List Value} {xs : List Int} (S : Site w p loose mean mg mb cs A₀ base outer h₀) (F : Fr h₀ L s.heap m) (N : News h₀ L s.heap news) (hdp : dp < recursionLimit) (hl : s.heap.IsList la vals.toArray) (hI : IntsAre vals (0 :: xs))
    (hret : ∀ (ga : Addr) (h' : Heap) (tk' : Nat) (G : GenState), Doomed w p loose mean mg mb (ktrTop dp un gd cn cs L a ccd cl outer) base (envX cn cs L a ccd cl) outer h₀ L m news la ga { s with heap := h', toks := tk', gens := s.gens.push G } → G.bare = true →
      h'.IsGen ga s.gens.size → Q (.ref ga) { s with heap := h', toks := tk', gens := s.gens.push G }) :
    wpAny (model PG w) (ktrTop dp un gd cn cs L a ccd cl outer) (call (.ref 28) [.ref la]) Q E s := by
  obtain ⟨B, X, T0, hk⟩ := S
  k_with_none
  k_with "k all" => (first | exact ne_all (by assumption) (by omega) | exact ne_allLt (by assumption) (by omega) | exact ne_allLt (And.right (by assumption)) (by omega) | exact ne_allLt (And.right (And.right (by assumption))) (by omega) | exact ne_allLt (And.right (And.right (And.right (by assumption)))) (by omega) | exact ne_allLt (And.right (And.right (And.right (And.right (by assumption))))) (by omega) | assumption)
  k_with "is list" => (exact News.isList (by assumption) (by k_mem))
  k_with "mul fits" => (first | exact PySem.IntMulOk.of_right (Mine.fit8 (by with_reducible assumption)) | exact PySem.IntMulOk.of_left (Mine.fit8 (by with_reducible assumption)) | exact PySem.IntMulOk.of_left (Mine.fitL (by decide)) | exact PySem.IntMulOk.of_right (Mine.fitL (by decide)))
  k_with "omega" => (first | with_reducible assumption | exact Mine.rl1 (by with_reducible assumption) (by decide) | exact Mine.rl2 (by with_reducible assumption) (by decide) | exact Mine.rl0 (by with_reducible assumption) | decide | (law_clear; law_purse 20000 => lia))
  (have HH : PySem.Challenge.rw_sr0069_01.row.prog = PG ∧ Mine.hd.heap_39 = Mine.hd.heap_39 := ⟨rfl, rfl⟩)
  revert HH
  k_fill
  intro HH
  clear HH
  refine wpAny_call ?_
  refine code_genX (binds := [(nG, .ref la)]) B F X N T0 rfl rfl hk (by k_is) (by k_is) hdp (BindsTo.of_eq rfl) (locs rfl) ?_ rfl rfl rfl (by decide)
  intro g Lg ga oG h' tk' FG BG XG TG F1 N1 g1 k1
  refine hret ga h' tk' _ ⟨g, Lg, oG, _, _, _, vals, xs, s.gens.size, rfl, FG, BG, XG, TG, F1, rfl, N1, g1, Array.getElem?_push_size, ?_, hI, ?_⟩ rfl g1
  · obtain ⟨o, ho, r⟩ := hl
    exact ⟨o, (k1 _ _ ho).1, r⟩
  · obtain ⟨o, ho, r⟩ := hl
    exact Ne.symm (k1 _ _ ho).2
end
end
section
section
variable {w : World} {p : Program} {loose : List Str} {mean : ExcName → Option Value} {mg mb : Str → Option Value} {dp un : Nat} {gd : Option (List Code)} {cn : Str} {cs : Scope} {a : Addr} {ccd : Value} {cl : List (Str × Addr)} {outer : List Env} {A₀ : Around} {base h₀ : Heap} {L : Addr} {m : Str → Option Value} {news : List (Addr × Obj)} {s : Shared} {Q E : Value → Shared → Prop}

theorem c_doom {A : Around} {env : Env} {la ga : Addr} {Q : Option Value → Shared → Prop} (D : Doomed w p loose mean mg mb A base env outer h₀ L m news la ga s) (hA : A.handled = none) (hroom : A.depth < recursionLimit) (hb : AllBareG s.gens)
    (hE : ∀ (g : Heap) (e t : Addr) (tk : Tok) (h' : Heap) (tk' : Nat) (gens' : Array GenState), Fr h₀ L g m → g.UpToSlots h' → RaisedK base (env :: outer) e (.type "ValueError") t [.str (Str.ofString "invalid grouping") tk] news h' → AllBareG gens' → E (.ref e) { s with heap := h', toks := tk', gens := gens' }) :
    wpAny (model PG w) A (pyNext (.ref ga)) Q E s := by
  obtain ⟨g, Lg, oG, cd, body, mg', vals, xs, gi, hb', FG, BG, XG, TG, F, hm, N, hg, hgs, hl, hI, hLal⟩ := D
  refine next_raise (n := 0) (Y := fun _ _ _ _ _ => False) (R := RX base (env :: outer) ((ga, oG) :: news) g) hA (TG.nolimit.keeps F.keep) hroom hg hgs ⟨rfl, seg_raise (A := A.in1) (x := 0) (vals := vals) (xs := xs) hA hb' ⟨BG.stack, BG.stays, BG.frames⟩ XG TG F hm N hl hI hLal⟩ (fun _ _ _ _ _ h => h) ?_
  rintro r s₁ ⟨e, t, tk, h', tk', rfl, rfl, ⟨⟨B, hB, hn, hfl, hnew⟩, htup⟩, hup⟩
  have hga := hn (ga, oG) (.head _)
  obtain ⟨o2, nm, qn, ho2, hc, hd, hs⟩ := hg
  have e2 := (N (ga, oG) (.head _)).1
  rw [ho2] at e2
  cases e2
  obtain ⟨ob, hob, hobc⟩ := hfl.there
  refine ⟨e, rfl, ⟨_, nm, qn, hfl.1 _ _ hga.1, hc, hd, hs⟩, ⟨ob, hob, hobc⟩, ?_⟩
  exact hE g e t tk h' tk' _ FG hup ⟨⟨B, hB, fun q hq => hn q (.tail _ hq), hfl, hnew⟩, htup⟩ ((hb.set rfl).set rfl)
end
end
section
section
variable {w : World} {p : Program} {loose : List Str} {mean : ExcName → Option Value} {mg mb : Str → Option Value} {dp un : Nat} {gd : Option (List Code)} {cn : Str} {cs : Scope} {a : Addr} {ccd : Value} {cl : List (Str × Addr)} {outer : List Env} {A₀ : Around} {base h₀ : Heap} {L : Addr} {m : Str → Option Value} {news : List (Addr × Obj)} {s : Shared} {Q E : Value → Shared → Prop}

/-- the end at once -/
def RS (Lg : Addr) : GenEnd := fun _ s₀ r s' => r = .ok (.ret .none) ∧ ∃ (h' : Heap) (tk' : Nat), s' = { s₀ with heap := h', toks := tk' } ∧ ∀ b o, b ≠ Lg → s₀.heap.get? b = some o → h'.get? b = some o
theorem seg_stop {g : Heap} {Lg la : Addr} {vals : List Value} {xs : List Int} {cd : Value} {mg' : Str → Option Value} {Y : Protocol} {n : Nat} {A : Around} (hA : A.handled = none) {body : List Stmt} (hb : body = fnBody gStmt) (X1 : (hd.heap_39 w.params).In g) (T1 : Top p loose mean mg mb g)
    (F : Fr g Lg s.heap mg') (hm : mg' nG = some (.ref la)) (hl : s.heap.IsList la vals.toArray) (hI : IntsAre vals (127 :: xs)) (hLal : Lg ≠ la) :
    Seg (model PG w) A (RS Lg) Y n s (.func body (envOf gName gScope Lg 28 cd)) ((model PG w).den (.func body (envOf gName gScope Lg 28 cd))) [] s := by
  conv at hb => rhs; whnf
  subst hb
  k_with_none
  k_with "k all" => (first | exact ne_all (by assumption) (by omega) | exact ne_allLt (by assumption) (by omega) | exact ne_allLt (And.right (by assumption)) (by omega) | exact ne_allLt (And.right (And.right (by assumption))) (by omega) | exact ne_allLt (And.right (And.right (And.right (by assumption)))) (by omega) | exact ne_allLt (And.right (And.right (And.right (And.right (by assumption))))) (by omega) | assumption)
  k_with "is list" => (exact News.isList (by assumption) (by k_mem))
  k_with "mul fits" => (first | exact PySem.IntMulOk.of_right (Mine.fit8 (by with_reducible assumption)) | exact PySem.IntMulOk.of_left (Mine.fit8 (by with_reducible assumption)) | exact PySem.IntMulOk.of_left (Mine.fitL (by decide)) | exact PySem.IntMulOk.of_right (Mine.fitL (by decide)))
  k_with "omega" => (first | with_reducible assumption | exact Mine.rl1 (by with_reducible assumption) (by decide) | exact Mine.rl2 (by with_reducible assumption) (by decide) | exact Mine.rl0 (by with_reducible assumption) | decide | (law_clear; law_purse 20000 => lia))
  (have HH : PySem.Challenge.rw_sr0069_01.row.prog = PG ∧ Mine.hd.heap_39 = Mine.hd.heap_39 := ⟨rfl, rfl⟩)
  revert HH
  k_fill
  intro HH
  clear HH
  obtain ⟨hA1, hA2, hA3, hA4, hA5⟩ := A
  obtain rfl : hA1 = none := hA
  refine seg_plain ?_
  refine wpAny_execs_cons (wpAny_Assign_Name (wpAny_of_eq (a := Value.none) rfl ?_))
  refine wpAny_storeName_local rfl F.ns (fun h1 hn1 sb1 => ?_) rfl
  have F1 : Fr g Lg h1 _ := F.set hn1 sb1
  have hsz : Lg < h1.objs.size := F1.ns.lt
  have l1 : h1.IsList la vals.toArray := hl.extBut sb1.extBut (Ne.symm hLal)
  have hla : la < h1.objs.size := let ⟨o, ho, _⟩ := l1; Heap.lt_size ho
  have hv1 : (fun y => if y = Str.ofString "last_interval" then some Value.none else mg' y) nG = some (.ref la) := by with_unfolding_all exact hm
  refine wpAny_execs_cons (wpAny_For (ld F1 hv1 (wpAny_pyIter_list l1 ?_)))
  have f4 : (h1.push { cls := .type "list_iterator", data := .fields #[.ref la, .int 0 0] }).IsListIter h1.objs.size la 0 := ⟨_, Heap.get?_push_size _ rfl, rfl, rfl⟩
  refine codeAny_forLoop (fun k s' => k = 0 ∧ s' = _) (fun k s' hI => ?_) 0 ⟨rfl, rfl⟩
  obtain ⟨_, rfl⟩ := hI
  obtain ⟨t, vs', rfl, _⟩ := IntsAre.cons_inv hI
  refine wpAny_pyNext_list_item f4 (l1.push _) (x := .int 127 t) rfl (fun h2 it2 sb2 => ?_)
  have hn2 := (hn1.push { cls := .type "list_iterator", data := .fields #[.ref la, .int 0 0] }).sameBut sb2 (Nat.ne_of_lt hsz)
  refine wpAny_assign_Name (wpAny_storeName_local rfl hn2 (fun h3 hn3 sb3 => ?_) rfl)
  have st3 : StIn g h3 := fun b o e => by
    have hb1 := F1.keep b o e
    exact (sb3.2 b (Nat.ne_of_lt (Nat.lt_of_lt_of_le (Heap.lt_size e) F.above))).trans ((sb2.2 b (Nat.ne_of_lt (Heap.lt_size hb1))).trans (Heap.get?_push_of_some _ hb1))
  have F3 : Fr g Lg h3 _ := ⟨hn3, st3, F.above⟩
  replace F3 := Fr.known F3 [(nI, .int 127 t)] (List.forall_mem_cons.mpr ⟨rfl, List.forall_mem_nil _⟩)
  have keep : ∀ b o, b ≠ Lg → s.heap.get? b = some o → h3.get? b = some o := fun b o hb e => by
    have e1 := (sb1.2 b hb).trans e
    exact (sb3.2 b hb).trans ((sb2.2 b (Nat.ne_of_lt (Heap.lt_size e1))).trans (Heap.get?_push_of_some _ e1))
  clear F1
  k_steps
  exact ⟨rfl, _, _, rfl, keep⟩
theorem listgen_walks {g : Heap} {Lg la ga gi : Addr} {vals : List Value} {xs : List Int} {cd : Value} {mg' : Str → Option Value} {A : Around} (hA : A.handled = none) (hroom : A.depth < recursionLimit) {body : List Stmt} (hb : body = fnBody gStmt) (X1 : (hd.heap_39 w.params).In g) (T1 : Top p loose mean mg mb g)
    (hLg : g.objs.size ≤ Lg) (hm : mg' nG = some (.ref la)) (hI : IntsAre vals (127 :: xs)) (hLal : Lg ≠ la) :
    WalksS PG w A ga (Lg :: ga :: la :: List.range g.objs.size) [Lg] (fun a b => AllBareG a → AllBareG b) 0 (fun _ _ => True)
      (fun i s => i = 0 ∧ AllBareG s.gens ∧ StIn g s.heap ∧ s.heap.Ns Lg mg' ∧ s.heap.IsGen ga gi ∧ s.gens[gi]? = some (.fresh (.func body (envOf gName gScope Lg 28 cd))) ∧ s.heap.IsList la vals.toArray) where
  sub := fun b hb => by
    rcases List.mem_cons.mp hb with rfl | hb
    · exact .head _
    · exact nomatch hb
  grefl := fun _ h => h
  gtrans := fun _ _ _ x y h => y (x h)
  frame := fun i s h' tk ⟨h0, hbare, st, hn, hg, hgs, hl⟩ _ hk => by
    refine ⟨h0, hbare, fun b o e => hk b ?_ o (st b o e), hn.at' fun o e => hk _ (.head _) o e, ?_, hgs, ?_⟩
    · exact .tail _ (.tail _ (.tail _ (List.mem_range.mpr (Heap.lt_size e))))
    · obtain ⟨o, nm, qn, ho, r⟩ := hg
      exact ⟨o, nm, qn, hk _ (.tail _ (.head _)) o ho, r⟩
    · obtain ⟨o, ho, r⟩ := hl
      exact ⟨o, hk _ (.tail _ (.tail _ (.head _))) o ho, r⟩
  item := fun i s Q E hi => absurd hi (Nat.not_lt_zero _)
  done := fun s Q E ⟨_, hbare, st, hn, hg, hgs, hl⟩ hQ => by
    refine wpAny_with_toks (Nat.le_refl s.toks) ?_
    refine next_gen (n := 0) (P := fun n s₀ s₁ => ∃ (h' : Heap) (tk' : Nat), s₁ = { s₀ with heap := h', toks := tk' } ∧ ∀ b o, b ≠ Lg → s₀.heap.get? b = some o → h'.get? b = some o) (Y := fun _ _ _ _ _ => False) hA (T1.nolimit.keeps st) hroom hg hgs ⟨rfl, seg_stop (A := A.in1) hA hb X1 T1 ⟨hn, st, hLg⟩ hm hl hI hLal⟩ (fun _ _ _ _ h => h.elim) ?_
    rintro s₁ ⟨h', tk', rfl, hk⟩ h'' hk2 ht
    refine hQ _ ⟨fun b o hb e => hk2 b o (hk b o (fun h => hb (h ▸ .head _)) e), fun h => (h.set rfl).set rfl, rfl, rfl, ht⟩
  self := fun i s Q E ⟨_, _, _, _, hg, _, _⟩ hQ => wpAny_pyIter_gen hg hQ
end
end
section
section
variable {w : World} {p : Program} {loose : List Str} {mean : ExcName → Option Value} {mg mb : Str → Option Value} {dp un : Nat} {gd : Option (List Code)} {cn : Str} {cs : Scope} {a : Addr} {ccd : Value} {cl : List (Str × Addr)} {outer : List Env} {A₀ : Around} {base h₀ : Heap} {L : Addr} {m : Str → Option Value} {news : List (Addr × Obj)} {s : Shared} {Q E : Value → Shared → Prop}

theorem c_listgen {A : Around} {news : List (Addr × Obj)} {Lg la ga gi : Addr} {vals : List Value} {xs : List Int} {cd : Value} {mg' : Str → Option Value} (hA : A.handled = none) (hroom : A.depth < recursionLimit) {body : List Stmt} (hb : body = fnBody gStmt)
    (X1 : (hd.heap_39 w.params).In h₀) (T1 : Top p loose mean mg mb h₀) (F : Fr h₀ L s.heap m) (N : News h₀ L s.heap news) (hbare : AllBareG s.gens)
    (hLg : h₀.objs.size ≤ Lg) (hLL : Lg ≠ L) (hn : s.heap.Ns Lg mg') (hm : mg' nG = some (.ref la)) (hg : s.heap.IsGen ga gi) (hgs : s.gens[gi]? = some (.fresh (.func body (envOf gName gScope Lg 28 cd)))) (hl : s.heap.IsList la vals.toArray) (hI : IntsAre vals (127 :: xs)) (hLal : Lg ≠ la)
    (hnews : ∀ q ∈ news, q.1 ≠ Lg)
    (hret : ∀ (D : Addr) (h' : Heap) (tk' c' : Nat) (gens' : Array GenState), Fr h₀ L h' m → News h₀ L h' ((D, W.listOf #[] c') :: news) → (∀ q ∈ news, q.1 < D) → AllBareG gens' → Q (.ref D) { s with heap := h', toks := tk', gens := gens' }) :
    wpAny (model PG w) A (call (.type "list") [.ref ga]) Q E s := by
  have hgz : ga < s.heap.objs.size := let ⟨o, _, _, ho, _⟩ := hg; Heap.lt_size ho
  have hlz : la < s.heap.objs.size := let ⟨o, ho, _⟩ := hl; Heap.lt_size ho
  have hLz := F.ns.lt
  refine call_list_gen (listgen_walks (A := A.in1.in1) hA hroom hb X1 T1 hLg hm hI hLal) (fun i s' st => st.2.2.2.2.1.typeIs) ⟨rfl, hbare, F.keep, hn, hg, hgs, hl⟩ (fun b hb' => ?_) (.tail _ (.head _)) (fun s' acc' c' hmv hD hit => ?_) (Nat.zero_le _)
  · rcases List.mem_cons.mp hb' with rfl | hb'
    · exact hn.lt
    · rcases List.mem_cons.mp hb' with rfl | hb'
      · exact hgz
      · rcases List.mem_cons.mp hb' with rfl | hb'
        · exact hlz
        · exact Nat.lt_of_lt_of_le (List.mem_range.mp hb') (Nat.le_trans F.above (Nat.le_of_lt hLz))
  · obtain ⟨m1, m2, m3, m4, m5⟩ := hmv
    obtain ⟨hp, g', d', t', o'⟩ := s'
    dsimp only at m1 m2 m3 m4 m5 hD ⊢
    subst m3 m4
    obtain rfl : acc' = #[] := Array.eq_empty_of_size_eq_zero hit.1
    have keep : ∀ b o, b ≠ Lg → s.heap.get? b = some o → hp.get? b = some o := fun b o hb' e => m1 b o (fun hm' => by
      rcases List.mem_cons.mp hm' with rfl | hm'
      · exact absurd (Heap.lt_size e) (Nat.lt_irrefl _)
      · rcases List.mem_cons.mp hm' with rfl | hm'
        · exact hb' rfl
        · exact nomatch hm') (Heap.get?_push_of_some _ e)
    refine hret _ hp t' c' g' ⟨?_, fun b o e => keep b o (Nat.ne_of_lt (Nat.lt_of_lt_of_le (Heap.lt_size e) hLg)) (F.keep b o e), F.above⟩ (fun q hq => ?_) (fun q hq => Heap.lt_size (N q hq).1) (m2 hbare)
    · obtain ⟨o, es, ep, ho, r⟩ := F.ns
      exact ⟨o, es, ep, keep _ _ (Ne.symm hLL) ho, r⟩
    · rcases List.mem_cons.mp hq with rfl | hq
      · exact ⟨hD, Nat.ne_of_gt hLz, Heap.get?_none_of_le (Nat.le_trans F.above (Nat.le_of_lt hLz))⟩
      · exact ⟨keep _ _ (hnews q hq) (N q hq).1, (N q hq).2⟩
end
end
section
/-- one more at the place b, the list grown where it must be -/
def bump (cnt : List Int) (b : Nat) : List Int :=
  let c := if cnt.length ≤ b then cnt ++ List.replicate (b - cnt.length + 1) 0 else cnt
  c.set b (c.getD b 0 + 1)
def wsRun : List Nat → List Int → Nat → Nat → Nat → List Int × Nat × Nat × Nat
  | [], cnt, b, n, nt => (cnt, b, n, nt)
  | ch :: l, cnt, b, n, nt => if ch = 32 then wsRun l cnt (b + 1) (n + 1) nt else if ch = 9 then wsRun l (bump cnt b) 0 (n + 1) (nt + 1) else (cnt, b, n, nt)
theorem wsRun_cons (ch : Nat) (l : List Nat) (cnt : List Int) (b n nt : Nat) : wsRun (ch :: l) cnt b n nt = if ch = 32 then wsRun l cnt (b + 1) (n + 1) nt else if ch = 9 then wsRun l (bump cnt b) 0 (n + 1) (nt + 1) else (cnt, b, n, nt) := rfl
/-- the attributes of a Whitespace -/
def wsDict (w : World) (x : Str) (k1 k2 k3 k4 k5 t1 tn tt : Tok) (n nt : Int) (na : Addr) (sm : Bool) : Obj := dictOf
  [{ hash := PyData.keyHash w.params (Str.ofString "raw"), key := .str (Str.ofString "raw") k1, val := .str x t1 },
   { hash := PyData.keyHash w.params (Str.ofString "n"), key := .str (Str.ofString "n") k2, val := .int n tn },
   { hash := PyData.keyHash w.params (Str.ofString "nt"), key := .str (Str.ofString "nt") k3, val := .int nt tt },
   { hash := PyData.keyHash w.params (Str.ofString "norm"), key := .str (Str.ofString "norm") k4, val := .ref na },
   { hash := PyData.keyHash w.params (Str.ofString "is_simple"), key := .str (Str.ofString "is_simple") k5, val := .bool sm }] 5
theorem bump_length (cnt : List Int) (b : Nat) : (bump cnt b).length = max cnt.length (b + 1) := by
  unfold bump
  dsimp only
  split
  · simp; omega
  · simp; omega
theorem bump_grow {cnt : List Int} {b : Nat} (h : cnt.length ≤ b) : (cnt ++ (List.replicate ((b : Int) - (cnt.length : Int) + 1).toNat [0]).flatten).set (b : Int).toNat ((cnt ++ (List.replicate ((b : Int) - (cnt.length : Int) + 1).toNat [0]).flatten).getD (b : Int).toNat 0 + 1) = bump cnt b := by
  unfold bump
  rw [if_pos h, List.flatten_replicate_singleton, Int.toNat_natCast, show ((b : Int) - (cnt.length : Int) + 1).toNat = b - cnt.length + 1 by omega]
theorem bump_stay {cnt : List Int} {b : Nat} (h : ¬ cnt.length ≤ b) : cnt.set (b : Int).toNat (cnt.getD (b : Int).toNat 0 + 1) = bump cnt b := by
  unfold bump
  rw [if_neg h, Int.toNat_natCast]
theorem tab_eq : (chs [9] == Str.ofString "\t") = true := by decide +kernel
theorem tab_ne {c : Nat} (h : c ≠ 9) : (chs [c] == Str.ofString "\t") = false := by
  have e : Str.ofString "\t" = chs [9] := by decide +kernel
  rw [e, beq_eq_false_iff_ne]
  intro g
  unfold chs at g
  simp at g
  exact h g
theorem Has.put {m : Str → Option Value} {x : Str} {v : Value} {ps : List (Str × Value)} (h : Has m ps) (hx : (ps.all fun p => decide (p.1 ≠ x)) = true) : Has (fun y => if y = x then some v else m y) ((x, v) :: ps) := by
  refine List.forall_mem_cons.mpr ⟨if_pos rfl, fun p hp => ?_⟩
  have := List.all_eq_true.mp hx p hp
  exact (if_neg (of_decide_eq_true this)).trans (h p hp)
theorem iter_step {g h h' : Heap} {L it : Addr} {m : Str → Option Value} {oI oI' : Obj} {ls : List (Addr × Obj)} (F : Fr g L h m) (N : News g L h ((it, oI) :: ls)) (hd : ∀ q ∈ ls, q.1 ≠ it) (sb : Heap.SameBut it h h') (hi : h'.get? it = some oI') :
    Fr g L h' m ∧ News g L h' ((it, oI') :: ls) := by
  have h0 := N (it, oI) (.head _)
  refine ⟨⟨F.ns.sameBut sb (Ne.symm h0.2.1), fun b o e => (sb.2 b (fun hb => by rw [hb, h0.2.2] at e; cases e)).trans (F.keep b o e), F.above⟩, fun q hq => ?_⟩
  rcases List.mem_cons.mp hq with rfl | hq
  · exact ⟨hi, h0.2⟩
  · exact ⟨(sb.2 q.1 (hd q hq)).trans (N q (.tail _ hq)).1, (N q (.tail _ hq)).2⟩
theorem next_sign {w : World} {A : Around} {E : Value → Shared → Prop} {s : Shared} {it : Addr} {l : List Nat} {t : Tok} {i : Nat} {Q : Option Value → Shared → Prop} (hit : s.heap.IsStrIter it "str_ascii_iterator" (chs l) t i) (hi : i < l.length)
    (hQ : ∀ h', h'.IsStrIter it "str_ascii_iterator" (chs l) t (i + 1) → Heap.SameBut it s.heap h' → Q (some (.str (chs [l[i]]) s.toks)) { s with heap := h', toks := s.toks + 1 }) :
    wpAny (model PG w) A (pyNext (.ref it)) Q E s := wpAny_pyNext_ascii_item hit (by unfold chs; simp [hi]) hQ
/-- the loop's state, as the text's rest sees it -/
structure WsAt (l : List Nat) (i b n nt : Nat) (cnt : List Int) : Prop where
  run : wsRun (l.drop i) cnt b n nt = wsRun l [] 0 0 0
  more : ∃ c ∈ l.drop i, c ≠ 32 ∧ c ≠ 9
  lb : b ≤ i
  lc : cnt.length ≤ i
theorem WsAt.lt {l : List Nat} {i b n nt : Nat} {cnt : List Int} (h : WsAt l i b n nt cnt) : i < l.length := by
  rcases Nat.lt_or_ge i l.length with g | g
  · exact g
  · obtain ⟨c, hc, _⟩ := h.more
    rw [List.drop_of_length_le g] at hc
    exact nomatch hc
theorem WsAt.blank {l : List Nat} {i b n nt : Nat} {cnt : List Int} (h : WsAt l i b n nt cnt) (hi : i < l.length) (hc : l[i] = 32) : WsAt l (i + 1) (b + 1) (n + 1) nt cnt := by
  obtain ⟨h1, ⟨c, hm, hne⟩, h3, h4⟩ := h
  rw [List.drop_eq_getElem_cons hi] at h1 hm
  refine ⟨?_, ⟨c, ?_, hne⟩, by omega, by omega⟩
  · rw [← h1, wsRun_cons, if_pos hc]
  · rcases List.mem_cons.mp hm with rfl | hm
    · exact absurd hc hne.1
    · exact hm
theorem WsAt.tab {l : List Nat} {i b n nt : Nat} {cnt : List Int} (h : WsAt l i b n nt cnt) (hi : i < l.length) (hc : l[i] = 9) : WsAt l (i + 1) 0 (n + 1) (nt + 1) (bump cnt b) := by
  obtain ⟨h1, ⟨c, hm, hne⟩, h3, h4⟩ := h
  rw [List.drop_eq_getElem_cons hi] at h1 hm
  refine ⟨?_, ⟨c, ?_, hne⟩, by omega, by rw [bump_length]; omega⟩
  · rw [← h1, wsRun_cons, if_neg (by omega), if_pos hc]
  · rcases List.mem_cons.mp hm with rfl | hm
    · exact absurd hc hne.2
    · exact hm
theorem WsAt.stop {l : List Nat} {i b n nt : Nat} {cnt : List Int} (h : WsAt l i b n nt cnt) (hi : i < l.length) (hc : l[i] ≠ 32) (hc2 : l[i] ≠ 9) : (cnt, b, n, nt) = wsRun l [] 0 0 0 := by
  rw [← h.run, List.drop_eq_getElem_cons hi, wsRun_cons, if_neg hc, if_neg hc2]
section
variable {w : World} {A : Around} {E : Value → Shared → Prop} {s : Shared} {h₀ : Heap} {L : Addr} {m : Str → Option Value} {news : List (Addr × Obj)}
theorem News.drop3 {h : Heap} {a b c : Addr × Obj} {r : List (Addr × Obj)} (N : News h₀ L h (a :: b :: c :: r)) : News h₀ L h (a :: b :: r) := News.sub N fun q hq => by
  rcases List.mem_cons.mp hq with rfl | hq
  · exact .head _
  · rcases List.mem_cons.mp hq with rfl | hq
    · exact .tail _ (.head _)
    · exact .tail _ (.tail _ (.tail _ hq))
theorem tuple_lt {l : Addr} {items : Array Value} {Q : Value → Shared → Prop} (F : Fr h₀ L s.heap m) (N : News h₀ L s.heap news) (hl : s.heap.IsList l items) (hsz : items.size ≤ sizeLine)
    (h : ∀ (D : Addr) (h' : Heap), Fr h₀ L h' m → News h₀ L h' ((D, { cls := .type "tuple", data := .seq items }) :: news) → (∀ q ∈ news, q.1 < D) → Q (.ref D) { s with heap := h' }) :
    wpAny (model PG w) A (call (.type "tuple") [.ref l]) Q E s := by
  refine call_tuple_list hl (fun h' hk => ?_) hsz
  have F' := F.keeps hk
  have hL := F'.ns.lt
  refine h _ _ (F'.push _) (fun q hq => ?_) (fun q hq => Heap.lt_size (hk _ _ (N q hq).1))
  rcases List.mem_cons.mp hq with rfl | hq
  · exact ⟨Heap.get?_push_size _ rfl, Nat.ne_of_gt hL, Heap.get?_none_of_le (Nat.le_trans F'.above (Nat.le_of_lt hL))⟩
  · exact ⟨Heap.get?_push_of_some _ (hk _ _ (N q hq).1), (N q hq).2⟩
end
section
variable {w : World} {p : Program} {loose : List Str} {mean : ExcName → Option Value} {mg mb : Str → Option Value} {dp un : Nat} {gd : Option (List Code)} {cn : Str} {cs : Scope} {a : Addr} {ccd : Value} {cl : List (Str × Addr)} {outer : List Env} {A₀ : Around} {base h₀ : Heap} {L : Addr} {m : Str → Option Value} {news : List (Addr × Obj)} {s : Shared} {Q E : Value → Shared → Prop}

theorem c_ws' {l : List Nat} {t1 : Tok} {b0 n0 nt0 : Nat} {cnt0 : List Int} (hw : wsRun l [] 0 0 0 = (cnt0, b0, n0, nt0)) (S : Site w p loose mean mg mb cs A₀ base outer h₀) (F : Fr h₀ L s.heap m) (N : News h₀ L s.heap news) (hdp : dp + 10 < recursionLimit) (hun : un + 100 < cLine)
    (hasc : l.all (· < 128) = true) (hend : ∃ c ∈ l, c ≠ 32 ∧ c ≠ 9) (hl : l.length < 100000)
    (hret : ∀ (o dx na ta : Addr) (vals : List Value) (k1 k2 k3 k4 k5 t1 tn tt tb : Tok) (sm : Bool) (h' : Heap) (tk' : Nat), IntsAre vals cnt0 → cnt0.length ≤ l.length → b0 ≤ l.length → Fr h₀ L h' m →
      News h₀ L h' ((na, { cls := .type "tuple", data := .seq #[.ref ta, .int b0 tb] }) :: (ta, { cls := .type "tuple", data := .seq vals.toArray }) :: (o, instObj 139 dx) :: (dx, wsDict w (chs l) k1 k2 k3 k4 k5 t1 tn tt n0 nt0 na sm) :: news) → (∀ q ∈ news, q.1 < dx) → dx < o → o < ta → ta < na →
      Q (.ref o) { s with heap := h', toks := tk' }) :
    wpAny (model PG w) (ktrTop dp un gd cn cs L a ccd cl outer) (call (.ref 139) [.str (chs l) t1]) Q E s := by
  obtain ⟨B, X, T0, hk⟩ := S
  k_with_none
  k_with "k all" => (first | exact ne_all (by assumption) (by omega) | exact ne_allLt (by assumption) (by omega) | exact ne_allLt (And.right (by assumption)) (by omega) | exact ne_allLt (And.right (And.right (by assumption))) (by omega) | exact ne_allLt (And.right (And.right (And.right (by assumption)))) (by omega) | exact ne_allLt (And.right (And.right (And.right (And.right (by assumption))))) (by omega) | assumption)
  k_with "is list" => (exact News.isList (by assumption) (by k_mem))
  k_with "mul fits" => (first | exact PySem.IntMulOk.of_right (Mine.fit8 (by with_reducible assumption)) | exact PySem.IntMulOk.of_left (Mine.fit8 (by with_reducible assumption)) | exact PySem.IntMulOk.of_left (Mine.fitL (by decide)) | exact PySem.IntMulOk.of_right (Mine.fitL (by decide)))
  k_with "omega" => (first | with_reducible assumption | exact Mine.rl1 (by with_reducible assumption) (by decide) | exact Mine.rl2 (by with_reducible assumption) (by decide) | exact Mine.rl0 (by with_reducible assumption) | decide | (law_clear; law_purse 20000 => lia))
  k_with "call type:tuple" => (k_here; k_dflt (refine' tuple_lt ?k1 ?k2 ?k3 ?k4 ?_; (case k1 => k_asm); (case k2 => k_asm); (case k3 => is_list); (case k4 => (simp only [List.size_toArray]; rw [IntsAre.length (by assumption)]; exact Nat.le_trans (by omega) (by decide : 100000 ≤ sizeLine))); k_whole); intro _ _ _ _ l1; k_lt l1)
  k_with "exec For Name Attribute cons nil" => (k_here; refine halt ?_)
  (have HH : PySem.Challenge.rw_sr0069_01.row.prog = PG ∧ Mine.hd.heap_39 = Mine.hd.heap_39 := ⟨rfl, rfl⟩)
  revert HH
  k_fill
  intro HH
  clear HH
  refine call_cls F X N (by k_is) (by k_is) (by k_is) ?_
  intro o dx h1 F1 N1 l1 l2
  have l2' : @LT.lt Nat _ dx o := l2
  (k_dflt (refine' code_def (binds := [(Str.ofString "self", .ref o), (Str.ofString "ws", .str (chs l) t1)]) ?k1 ?k2 ?k3 ?k4 ?k5 ?kA ?kF ?kK ?k6 ?k7 ?k8 ?k9 ?kB ?_ ?c2 ?c3 ?c4 ?c5; (case kA => exact rfl); (case kF => exact rfl); (case kK => assumption); (case k1 => k_asm); (case k2 => k_asm); (case k3 => k_asm); (case k4 => k_asm); (case k5 => k_asm); (case k6 => k_is); (case k7 => k_is); (case k8 => ktr_room); (case k9 => exact BindsTo.of_eq rfl); (case c5 => decide); (case kB => exact locs rfl); (case c2 => exact rfl); (case c3 => exact rfl); (case c4 => exact rfl); k_whole))
  intro g L1 h2 FG F2 N2 B1 X1 T1
  dsimp only
  k_fold
  k_steps
  rename_i D1 _ lD _ _ _ _ ca0 _ lca _ _ _ hX kF kN
  have lca' : o < ca0 ∧ dx < ca0 ∧ AllLt ca0 news := lca.2
  have hca : ∀ q ∈ news, q.1 < ca0 := of_allLt lca.2.2.2
  generalize hdic : dictOf _ 1 = dic at kN
  obtain ⟨rest, hrest⟩ : ∃ r, r = (o, instObj 139 dx) :: (dx, dic) :: news := ⟨_, rfl⟩
  have hr0 : ∀ q ∈ rest, q.1 < ca0 := by
    rw [hrest]
    exact List.forall_mem_cons.mpr ⟨lca.2.1, List.forall_mem_cons.mpr ⟨lca.2.2.1, hca⟩⟩
  rw [← hdic] at kN
  unfold Halt
  refine opq (A := fun Q1 : Flow → Shared → Prop => ∀ (vals : List Value) (ca : Addr) (cc : Nat) (h' : Heap) (tk' : Nat) (m' : Str → Option Value) (tb tn tt : Tok), (Fr g L1 h' m') → (News g L1 h' ((ca, W.listOf vals.toArray cc) :: rest)) → (IntsAre vals cnt0) → (∀ q ∈ rest, q.1 < ca) → (cnt0.length ≤ l.length) → (b0 ≤ l.length) → (Has m' [(Str.ofString "self", .ref o), (Str.ofString "count", .ref ca), (Str.ofString "b", .int b0 tb), (Str.ofString "n", .int n0 tn), (Str.ofString "nt", .int nt0 tt)]) → Q1  (.next) ({ s with heap := h', toks := tk' })) (B := fun Q1 => ∀  (GG : Flow → Shared → Prop), (∀ (vals : List Value) (ca : Addr) (cc : Nat) (h' : Heap) (tk' : Nat) (m' : Str → Option Value) (tb tn tt : Tok), (Fr g L1 h' m') → (News g L1 h' ((ca, W.listOf vals.toArray cc) :: rest)) → (IntsAre vals cnt0) → (∀ q ∈ rest, q.1 < ca) → (cnt0.length ≤ l.length) → (b0 ≤ l.length) → (Has m' [(Str.ofString "self", .ref o), (Str.ofString "count", .ref ca), (Str.ofString "b", .int b0 tb), (Str.ofString "n", .int n0 tn), (Str.ofString "nt", .int nt0 tt)]) → GG (.next) ({ s with heap := h', toks := tk' })) → ∀ (i0 : Flow) (i1 : Shared), Q1  i0 i1 → GG i0 i1) (fun  i0 i1 => ∀ GG : Flow → Shared → Prop, (∀ (vals : List Value) (ca : Addr) (cc : Nat) (h' : Heap) (tk' : Nat) (m' : Str → Option Value) (tb tn tt : Tok), (Fr g L1 h' m') → (News g L1 h' ((ca, W.listOf vals.toArray cc) :: rest)) → (IntsAre vals cnt0) → (∀ q ∈ rest, q.1 < ca) → (cnt0.length ≤ l.length) → (b0 ≤ l.length) → (Has m' [(Str.ofString "self", .ref o), (Str.ofString "count", .ref ca), (Str.ofString "b", .int b0 tb), (Str.ofString "n", .int n0 tn), (Str.ofString "nt", .int nt0 tt)]) → GG (.next) ({ s with heap := h', toks := tk' })) → GG i0 i1) (fun  vals ca cc h' tk' m' tb tn tt hh0 hh1 hh2 hh3 hh4 hh5 hh6 GG gg => gg vals ca cc h' tk' m' tb tn tt hh0 hh1 hh2 hh3 hh4 hh5 hh6) (fun  GG gg i0 i1 hh => hh GG gg) (fun Q1 iQ1 eQ1 => ?_)
  refine wpAny_mono (Q := Q1) (wpAny_For ?_) (eQ1 _ ?_) (fun _ _ e => e)
  · k_steps
    refine wpAny_pyIter_ascii (by unfold chs; simpa using hasc) ?_
    rw [hdic] at kN
    have hsz : ca0 < _ := Heap.lt_size (kN _ (.head _)).1
    refine opq (A := fun I : Nat → Shared → Prop => ∀ (k : Nat), ∀ (i b n nt : Nat) (cnt : List Int) (vals : List Value) (ca : Addr) (cc : Nat) (oI : Obj) (h' : Heap) (tk' : Nat) (m' : Str → Option Value) (tb tn tt : Tok), (Fr g L1 h' m') → (News g L1 h' ((hX.objs.size, oI) :: (ca, W.listOf vals.toArray cc) :: rest)) → (oI.cls = .type "str_ascii_iterator") → (oI.data = .fields #[.str (chs l) t1, .int i 0]) → (IntsAre vals cnt) → (∀ q ∈ rest, q.1 < ca) → (ca ≠ hX.objs.size) → (∀ q ∈ rest, q.1 < hX.objs.size) → (WsAt l i b n nt cnt) → (k + i = l.length) → (Has m' [(Str.ofString "self", .ref o), (Str.ofString "S", .str (Str.ofString " ") 314), (Str.ofString "T", .str (Str.ofString "\t") 315), (Str.ofString "count", .ref ca), (Str.ofString "b", .int b tb), (Str.ofString "n", .int n tn), (Str.ofString "nt", .int nt tt)]) → I k ({ s with heap := h', toks := tk' })) (B := fun I => ∀ (k : Nat) (GG : Shared → Prop), (∀ (i b n nt : Nat) (cnt : List Int) (vals : List Value) (ca : Addr) (cc : Nat) (oI : Obj) (h' : Heap) (tk' : Nat) (m' : Str → Option Value) (tb tn tt : Tok), (Fr g L1 h' m') → (News g L1 h' ((hX.objs.size, oI) :: (ca, W.listOf vals.toArray cc) :: rest)) → (oI.cls = .type "str_ascii_iterator") → (oI.data = .fields #[.str (chs l) t1, .int i 0]) → (IntsAre vals cnt) → (∀ q ∈ rest, q.1 < ca) → (ca ≠ hX.objs.size) → (∀ q ∈ rest, q.1 < hX.objs.size) → (WsAt l i b n nt cnt) → (k + i = l.length) → (Has m' [(Str.ofString "self", .ref o), (Str.ofString "S", .str (Str.ofString " ") 314), (Str.ofString "T", .str (Str.ofString "\t") 315), (Str.ofString "count", .ref ca), (Str.ofString "b", .int b tb), (Str.ofString "n", .int n tn), (Str.ofString "nt", .int nt tt)]) → GG ({ s with heap := h', toks := tk' })) → ∀ (i0 : Shared), I k i0 → GG i0) (fun k i0 => ∀ GG : Shared → Prop, (∀ (i b n nt : Nat) (cnt : List Int) (vals : List Value) (ca : Addr) (cc : Nat) (oI : Obj) (h' : Heap) (tk' : Nat) (m' : Str → Option Value) (tb tn tt : Tok), (Fr g L1 h' m') → (News g L1 h' ((hX.objs.size, oI) :: (ca, W.listOf vals.toArray cc) :: rest)) → (oI.cls = .type "str_ascii_iterator") → (oI.data = .fields #[.str (chs l) t1, .int i 0]) → (IntsAre vals cnt) → (∀ q ∈ rest, q.1 < ca) → (ca ≠ hX.objs.size) → (∀ q ∈ rest, q.1 < hX.objs.size) → (WsAt l i b n nt cnt) → (k + i = l.length) → (Has m' [(Str.ofString "self", .ref o), (Str.ofString "S", .str (Str.ofString " ") 314), (Str.ofString "T", .str (Str.ofString "\t") 315), (Str.ofString "count", .ref ca), (Str.ofString "b", .int b tb), (Str.ofString "n", .int n tn), (Str.ofString "nt", .int nt tt)]) → GG ({ s with heap := h', toks := tk' })) → GG i0) (fun k i b n nt cnt vals ca cc oI h' tk' m' tb tn tt hh0 hh1 hh2 hh3 hh4 hh5 hh6 hh7 hh8 hh9 hh10 GG gg => gg i b n nt cnt vals ca cc oI h' tk' m' tb tn tt hh0 hh1 hh2 hh3 hh4 hh5 hh6 hh7 hh8 hh9 hh10) (fun k GG gg i0 hh => hh GG gg) (fun I iI eI => ?_)
    refine forLoop_ruleP I l.length ?_ ?_
    · refine iI _ 0 0 0 0 [] [] ca0 0 { cls := .type "str_ascii_iterator", data := .fields #[.str (chs l) t1, .int 0 0] } _ _ _ _ _ _ (kF.push _) ?_ rfl rfl .nil hr0 (Nat.ne_of_lt hsz) ?_ ⟨rfl, hend, Nat.le_refl _, Nat.le_refl _⟩ rfl (.cons rfl (.cons rfl (.cons rfl (.cons rfl (.cons rfl (.cons rfl (.cons rfl .nil)))))))
      · intro q hq
        have hs2 : L1 < hX.objs.size := kF.ns.lt
        rcases List.mem_cons.mp hq with rfl | hq
        · exact ⟨Heap.get?_push_size _ rfl, Nat.ne_of_gt hs2, Heap.get?_none_of_le (Nat.le_trans kF.above (Nat.le_of_lt hs2))⟩
        · have h5 := kN q (by
            rcases List.mem_cons.mp hq with rfl | hq
            · exact .head _
            · exact .tail _ (.tail _ (hrest ▸ hq)))
          exact ⟨Heap.get?_push_of_some _ h5.1, h5.2⟩
      · exact fun q hq => Nat.lt_trans (hr0 q hq) hsz
    · intro k
      refine eI k _ (fun i b n nt cnt vals ca cc oI h' tk' m' tb tn tt F2 N2 hcl hdt hI hr hne hri hW hki hm2 => ?_)
      intro E' P hnext hbrk hrv
      clear kF kN
      have hi := hW.lt
      refine next_sign ⟨oI, (N2 _ (.head _)).1, hcl, hdt⟩ hi (fun h3 it3 sb3 => ?_)
      obtain ⟨oI', hoI', hcl', hdt'⟩ := it3
      obtain ⟨F3, N3⟩ := iter_step F2 N2 (List.forall_mem_cons.mpr ⟨hne, fun q hq => Nat.ne_of_lt (hri q hq)⟩) sb3 hoI'
      refine stN F3 N3 (fun h4 F4 N4 => ?_)
      replace F4 := Fr.known F4 _ (Has.put hm2 (by kernel_rfl))
      clear F2 F3 N2 N3
      have hlc := hW.lc
      have hlb := hW.lb
      have hvl := IntsAre.length hI
      have eb : (b : Int) + 1 = ((b + 1 : Nat) : Int) := by omega
      have en : (n : Int) + 1 = ((n + 1 : Nat) : Int) := by omega
      have et : (nt : Int) + 1 = ((nt + 1 : Nat) : Int) := by omega
      have ez : (0 : Int) = ((0 : Nat) : Int) := rfl
      k_steps
      · rename ((chs _ == _) = true) => hc
        have hc' : l[i] = 32 := by
          rcases Decidable.em (l[i] = 32) with g | g
          · exact g
          · rw [sp_ne g] at hc; exact absurd hc (by decide)
        exact hnext (k - 1) _ (by omega) (iI _ (i + 1) (b + 1) (n + 1) nt cnt vals ca cc oI' _ _ _ _ _ _ (by assumption) (by assumption) hcl' hdt' hI hr hne hri (hW.blank hi hc') (by omega) (.cons rfl (.cons rfl (.cons rfl (.cons rfl (.cons (int_val eb rfl) (.cons (int_val en rfl) (.cons rfl .nil))))))))
      · rename ((chs _ == Str.ofString "\t") = true) => hc
        rename (IntsAre (List.set _ _ _) _) => hi2
        rename (_ < _ ∧ _ < _ ∧ _ < _ ∧ _ < _ ∧ AllLt _ rest) => lD2
        rename (News g L1 _ _) => kN
        have hc' : l[i] = 9 := by
          rcases Decidable.em (l[i] = 9) with g | g
          · exact g
          · rw [tab_ne g] at hc; exact absurd hc (by decide)
        rw [bump_grow (by omega)] at hi2
        exact hnext (k - 1) _ (by omega) (iI _ (i + 1) 0 (n + 1) (nt + 1) (bump cnt b) _ _ 0 oI' _ _ _ _ _ _ (by assumption) (News.sub kN (fun q hq => (List.mem_cons.mp hq).elim (fun e => e ▸ .tail _ (.tail _ (.tail _ (.head _)))) fun hq => (List.mem_cons.mp hq).elim (fun e => e ▸ .head _) fun hq => .tail _ (.tail _ (.tail _ (.tail _ (.tail _ hq)))))) hcl' hdt' hi2 (of_allLt lD2.2.2.2.2) (Nat.ne_of_gt lD2.2.2.1) hri (hW.tab hi hc') (by omega) (.cons rfl (.cons rfl (.cons rfl (.cons rfl (.cons (int_val ez rfl) (.cons (int_val en rfl) (.cons (int_val et rfl) .nil))))))))
      · rename ((chs _ == Str.ofString "\t") = true) => hc
        rename (Fr g L1 _ _) => kF
        rename (News g L1 _ _) => kN
        have hc' : l[i] = 9 := by
          rcases Decidable.em (l[i] = 9) with g | g
          · exact g
          · rw [tab_ne g] at hc; exact absurd hc (by decide)
        dsimp only
        refine ki_set kF kN (by omega) (by omega) (setL_of _ (set_ok hI (by omega) (by omega))) (Upd.tail (Ne.symm hne) (Upd.head (fun q hq => Nat.ne_of_lt (hr q hq)))) (fun h5 F5 N5 => ?_)
        clear kF kN
        k_steps
        have hi2 : ∀ t, IntsAre (vals.set (b : Int).toNat (.int (cnt.getD (b : Int).toNat 0 + 1) t)) (bump cnt b) := fun t => by
          have h6 := IntsAre.setAt hI (k := (b : Int).toNat) (by omega) (cnt.getD (b : Int).toNat 0 + 1) t
          rw [← set_mid _ (by omega), bump_stay (by omega)] at h6
          exact h6
        exact hnext (k - 1) _ (by omega) (iI _ (i + 1) 0 (n + 1) (nt + 1) (bump cnt b) _ ca cc oI' _ _ _ _ _ _ (by assumption) (by assumption) hcl' hdt' (hi2 _) hr hne hri (hW.tab hi hc') (by omega) (.cons rfl (.cons rfl (.cons rfl (.cons rfl (.cons (int_val ez rfl) (.cons (int_val en rfl) (.cons (int_val et rfl) .nil))))))))
      · rename ((chs _ == Str.ofString "\t") = false) => hc
        rename ((chs _ == Str.ofString " ") = false) => hc2
        have hc' : l[i] ≠ 9 := fun g => by
          rw [g, tab_eq] at hc; exact absurd hc (by decide)
        have hc2' : l[i] ≠ 32 := fun g => by
          rw [g, sp_eq] at hc2; exact absurd hc2 (by decide)
        have he := (hW.stop hi hc2' hc').trans hw
        have e1 : cnt = cnt0 := congrArg (fun p => p.1) he
        have e2 : (b : Int) = (b0 : Nat) := congrArg (fun p => ((p.2.1 : Nat) : Int)) he
        have e3 : (n : Int) = (n0 : Nat) := congrArg (fun p => ((p.2.2.1 : Nat) : Int)) he
        have e4 : (nt : Int) = (nt0 : Nat) := congrArg (fun p => ((p.2.2.2 : Nat) : Int)) he
        exact hbrk _ (iQ1 vals ca cc _ _ _ _ _ _ (by assumption) (News.sub (by assumption) (fun q hq => .tail _ hq)) (e1 ▸ hI) hr (e1 ▸ Nat.le_trans hlc (Nat.le_of_lt hi)) (by omega) (.cons rfl (.cons rfl (.cons (int_val e2 rfl) (.cons (int_val e3 rfl) (.cons (int_val e4 rfl) .nil))))))
  · intro vals ca cc h' tk' m' tb tn tt F3 N3 hI hr hlc hlb hm2
    replace F3 := Fr.known F3 _ hm2
    have hor : o < ca := hr (o, instObj 139 dx) (hrest ▸ .head _)
    have hdr : dx < ca := hr (dx, dic) (hrest ▸ .tail _ (.head _))
    have hnr : ∀ q ∈ news, q.1 < ca := fun q hq => hr q (hrest ▸ .tail _ (.tail _ hq))
    rw [hrest, ← hdic] at N3
    have hvl := IntsAre.length hI
    clear kF kN hr0
    have hor' : @LT.lt Nat _ o ca := hor
    have hdr' : @LT.lt Nat _ dx ca := hdr
    k_steps
    iterate 8 (try (dsimp only; k_steps))
    rename (News h₀ L _ _) => kN
    rename (_ < _ ∧ _ < _ ∧ _ < _ ∧ _ < _ ∧ AllLt _ news) => lN
    rename (_ < _ ∧ _ < _ ∧ _ < _ ∧ AllLt _ news) => lT
    exact hret o dx _ _ vals _ _ _ _ _ t1 tn tt tb _ _ _ hI hlc hlb (by assumption) (News.drop3 kN) l1 l2 lT.2.1 lN.1
end
end
section
/-- the sum over the places below j -/
def ilTo (ts : Nat) (cnt : List Int) : Nat → Int
  | 0 => 0
  | j + 1 => ilTo ts cnt j + if j < ts then 0 else ((j / ts : Nat) : Int) * cnt.getD j 0
theorem ilTo_succ (ts : Nat) (cnt : List Int) (j : Nat) : ilTo ts cnt (j + 1) = ilTo ts cnt j + if j < ts then 0 else ((j / ts : Nat) : Int) * cnt.getD j 0 := rfl
theorem ilTo_low {ts : Nat} {cnt : List Int} : ∀ {j : Nat}, j ≤ ts → ilTo ts cnt j = 0
  | 0, _ => rfl
  | j + 1, h => by rw [ilTo_succ, ilTo_low (Nat.le_of_succ_le h), if_pos (Nat.lt_of_succ_le h)]; rfl
theorem ilTo_step {ts j : Nat} {cnt : List Int} (h : ts ≤ j) : ilTo ts cnt (j + 1) = ilTo ts cnt j + (j : Int).fdiv (ts : Int) * cnt.getD j 0 := by
  rw [ilTo_succ, if_neg (by omega), Int.fdiv_eq_ediv_of_nonneg _ (Int.natCast_nonneg ts), ← Int.natCast_ediv]
theorem iter_ext {g h h' : Heap} {L it : Addr} {m : Str → Option Value} {oI : Obj} {ls : List (Addr × Obj)} (F : Fr g L h m) (N : News g L h ((it, oI) :: ls)) (hd : ∀ q ∈ ls, q.1 ≠ it) (sb : Heap.ExtBut it h h') :
    Fr g L h' m ∧ News g L h' ls := by
  have h0 := N (it, oI) (.head _)
  refine ⟨⟨F.ns.extBut sb (Ne.symm h0.2.1), fun b o e => sb b o (fun hb => by rw [hb, h0.2.2] at e; cases e) (F.keep b o e), F.above⟩, fun q hq => ?_⟩
  exact ⟨sb q.1 q.2 (hd q hq) (N q (.tail _ hq)).1, (N q (.tail _ hq)).2⟩
abbrev rngIt (x left : Int) : Obj := { cls := .type "range_iterator", dict := none, data := .fields #[rawInt x, rawInt left, rawInt 1], slots := #[] }
section
variable {w : World} {p : Program} {loose : List Str} {mean : ExcName → Option Value} {mg mb : Str → Option Value} {dp un : Nat} {gd : Option (List Code)} {cn : Str} {cs : Scope} {a : Addr} {ccd : Value} {cl : List (Str × Addr)} {outer : List Env} {A₀ : Around} {base h₀ : Heap} {L : Addr} {m : Str → Option Value} {news : List (Addr × Obj)} {s : Shared} {Q E : Value → Shared → Prop}

theorem c_indent {v tz : Int} {o dx na ta : Addr} {x : Str} {b n nt ts : Nat} {cnt : List Int} {vals : List Value} {k1 k2 k3 k4 k5 t1 tn tt tb tq : Tok} {sm : Bool} (hz : tz = (ts : Nat)) (hv : (b : Int) + ts * (ilTo ts cnt cnt.length + nt) = v) (S : Site w p loose mean mg mb cs A₀ base outer h₀) (F : Fr h₀ L s.heap m)
    (N : News h₀ L s.heap ((na, { cls := .type "tuple", data := .seq #[.ref ta, .int b tb] }) :: (ta, { cls := .type "tuple", data := .seq vals.toArray }) :: (o, instObj 139 dx) :: (dx, wsDict w x k1 k2 k3 k4 k5 t1 tn tt n nt na sm) :: news))
    (hI : IntsAre vals cnt) (hlc : cnt.length ≤ 100000) (hts : 0 < ts) (hts2 : ts < 1000) (hdp : dp + 10 < recursionLimit) (hun : un + 100 < cLine)
    (hret : ∀ (t : Tok) (h' : Heap) (tk' : Nat), Fr h₀ L h' m → News h₀ L h' ((na, { cls := .type "tuple", data := .seq #[.ref ta, .int b tb] }) :: (ta, { cls := .type "tuple", data := .seq vals.toArray }) :: (o, instObj 139 dx) :: (dx, wsDict w x k1 k2 k3 k4 k5 t1 tn tt n nt na sm) :: news) →
      Q (.int v t) { s with heap := h', toks := tk' }) :
    wpAny (model PG w) (ktrTop dp un gd cn cs L a ccd cl outer) (call (.ref 108) [.ref o, .int tz tq]) Q E s := by
  subst hz hv
  obtain ⟨B, X, T0, hk⟩ := S
  unfold wsDict at N
  k_with_none
  k_with "k all" => (first | exact ne_all (by assumption) (by omega) | exact ne_allLt (by assumption) (by omega) | exact ne_allLt (And.right (by assumption)) (by omega) | exact ne_allLt (And.right (And.right (by assumption))) (by omega) | exact ne_allLt (And.right (And.right (And.right (by assumption)))) (by omega) | exact ne_allLt (And.right (And.right (And.right (And.right (by assumption))))) (by omega) | assumption)
  k_with "is list" => (exact News.isList (by assumption) (by k_mem))
  k_with "mul fits" => (first | exact PySem.IntMulOk.of_right (Mine.fit8 (by with_reducible assumption)) | exact PySem.IntMulOk.of_left (Mine.fit8 (by with_reducible assumption)) | exact PySem.IntMulOk.of_left (Mine.fitL (by decide)) | exact PySem.IntMulOk.of_right (Mine.fitL (by decide)))
  k_with "omega" => (first | with_reducible assumption | exact Mine.rl1 (by with_reducible assumption) (by decide) | exact Mine.rl2 (by with_reducible assumption) (by decide) | exact Mine.rl0 (by with_reducible assumption) | decide | (law_clear; law_purse 20000 => lia))
  k_with "exec For Name Call cons nil" => (k_here; refine halt ?_)
  (have HH : PySem.Challenge.rw_sr0069_01.row.prog = PG ∧ Mine.hd.heap_39 = Mine.hd.heap_39 := ⟨rfl, rfl⟩)
  revert HH
  k_fill
  intro HH
  clear HH
  refine wpAny_call ?_
  (k_dflt (refine' code_def (binds := [(Str.ofString "self", .ref o), (Str.ofString "tabsize", .int ts tq)]) ?k1 ?k2 ?k3 ?k4 ?k5 ?kA ?kF ?kK ?k6 ?k7 ?k8 ?k9 ?kB ?_ ?c2 ?c3 ?c4 ?c5; (case kA => exact rfl); (case kF => exact rfl); (case kK => assumption); (case k1 => k_asm); (case k2 => k_asm); (case k3 => k_asm); (case k4 => k_asm); (case k5 => k_asm); (case k6 => k_is); (case k7 => k_is); (case k8 => ktr_room); (case k9 => exact BindsTo.of_eq rfl); (case c5 => decide); (case kB => exact locs rfl); (case c2 => exact rfl); (case c3 => exact rfl); (case c4 => exact rfl); k_whole))
  intro g L1 h1 FG F1 N1 B1 X1 T1
  dsimp only
  k_fold
  have hvl := IntsAre.length hI
  k_steps
  unfold Halt
  have hts0 : (ts : Int) ≠ 0 := by omega
  have hlog : (ts : Int).natAbs.log2 < 9000 := by
    refine log_of_bits (Nat.le_trans (bits_small (k := 10) (by omega) (by omega)) (by decide))
  generalize hrest : (na, _) :: _ = rest at *
  have hta : (ta, ({ cls := .type "tuple", data := .seq vals.toArray } : Obj)) ∈ rest := by rw [← hrest]; exact .tail _ (.head _)
  refine opq (A := fun Q1 : Flow → Shared → Prop => ∀ (h' : Heap) (tk' : Nat) (m' : Str → Option Value) (ti : Tok), (Fr g L1 h' m') → (News g L1 h' rest) → (Has m' [(Str.ofString "self", .ref o), (Str.ofString "tabsize", .int ts tq), (Str.ofString "trailing", .int b tb), (Str.ofString "il", .int (ilTo ts cnt (ts + (cnt.length - ts))) ti)]) → Q1  (.next) ({ s with heap := h', toks := tk' })) (B := fun Q1 => ∀  (GG : Flow → Shared → Prop), (∀ (h' : Heap) (tk' : Nat) (m' : Str → Option Value) (ti : Tok), (Fr g L1 h' m') → (News g L1 h' rest) → (Has m' [(Str.ofString "self", .ref o), (Str.ofString "tabsize", .int ts tq), (Str.ofString "trailing", .int b tb), (Str.ofString "il", .int (ilTo ts cnt (ts + (cnt.length - ts))) ti)]) → GG (.next) ({ s with heap := h', toks := tk' })) → ∀ (i0 : Flow) (i1 : Shared), Q1  i0 i1 → GG i0 i1) (fun  i0 i1 => ∀ GG : Flow → Shared → Prop, (∀ (h' : Heap) (tk' : Nat) (m' : Str → Option Value) (ti : Tok), (Fr g L1 h' m') → (News g L1 h' rest) → (Has m' [(Str.ofString "self", .ref o), (Str.ofString "tabsize", .int ts tq), (Str.ofString "trailing", .int b tb), (Str.ofString "il", .int (ilTo ts cnt (ts + (cnt.length - ts))) ti)]) → GG (.next) ({ s with heap := h', toks := tk' })) → GG i0 i1) (fun  h' tk' m' ti hh0 hh1 hh2 GG gg => gg h' tk' m' ti hh0 hh1 hh2) (fun  GG gg i0 i1 hh => hh GG gg) (fun Q1 iQ1 eQ1 => ?_)
  refine wpAny_mono (Q := Q1) (wpAny_For ?_) (eQ1 _ ?_) (fun _ _ e => e)
  · k_steps
    refine len_tuple (News.isTup (by assumption) hta) (by simp only [List.size_toArray]; omega) ?_
    rw [show ((vals.toArray.size : Nat) : Int) = ((cnt.length : Nat) : Int) by rw [List.size_toArray, hvl]]
    k_steps
    rename_i hX tk5 t5 u5 v5 hR kF kN kk
    refine wpAny_pyIter_range hR (small_one (by omega) (by omega) (by omega) (by omega)) ?_
    have hrs : ∀ q ∈ rest, q.1 < hX.objs.size := fun q hq => Heap.lt_size (kN q hq).1
    have hLs : L1 < hX.objs.size := kF.ns.lt
    have hsize : Builtin.Range.rangeSize (ts : Int) (cnt.length : Int) 1 = ((cnt.length - ts : Nat) : Int) := by
      rw [rangeSize_one]
      split <;> omega
    rw [hsize]
    refine opq (A := fun I : Nat → Shared → Prop => ∀ (k : Nat), ∀ (j : Nat) (h' : Heap) (tk' : Nat) (m' : Str → Option Value) (ti : Tok), (Fr g L1 h' m') → (News g L1 h' ((hX.objs.size, rngIt j k) :: rest)) → (ts ≤ j) → (k + j = ts + (cnt.length - ts)) → (Has m' [(Str.ofString "self", .ref o), (Str.ofString "tabsize", .int ts tq), (Str.ofString "trailing", .int b tb), (Str.ofString "count", .ref ta), (Str.ofString "il", .int (ilTo ts cnt j) ti)]) → I k ({ s with heap := h', toks := tk' })) (B := fun I => ∀ (k : Nat) (GG : Shared → Prop), (∀ (j : Nat) (h' : Heap) (tk' : Nat) (m' : Str → Option Value) (ti : Tok), (Fr g L1 h' m') → (News g L1 h' ((hX.objs.size, rngIt j k) :: rest)) → (ts ≤ j) → (k + j = ts + (cnt.length - ts)) → (Has m' [(Str.ofString "self", .ref o), (Str.ofString "tabsize", .int ts tq), (Str.ofString "trailing", .int b tb), (Str.ofString "count", .ref ta), (Str.ofString "il", .int (ilTo ts cnt j) ti)]) → GG ({ s with heap := h', toks := tk' })) → ∀ (i0 : Shared), I k i0 → GG i0) (fun k i0 => ∀ GG : Shared → Prop, (∀ (j : Nat) (h' : Heap) (tk' : Nat) (m' : Str → Option Value) (ti : Tok), (Fr g L1 h' m') → (News g L1 h' ((hX.objs.size, rngIt j k) :: rest)) → (ts ≤ j) → (k + j = ts + (cnt.length - ts)) → (Has m' [(Str.ofString "self", .ref o), (Str.ofString "tabsize", .int ts tq), (Str.ofString "trailing", .int b tb), (Str.ofString "count", .ref ta), (Str.ofString "il", .int (ilTo ts cnt j) ti)]) → GG ({ s with heap := h', toks := tk' })) → GG i0) (fun k j h' tk' m' ti hh0 hh1 hh2 hh3 hh4 GG gg => gg j h' tk' m' ti hh0 hh1 hh2 hh3 hh4) (fun k GG gg i0 hh => hh GG gg) (fun I iI eI => ?_)
    refine forLoop_ruleP I (cnt.length - ts) ?_ ?_
    · have e0 : (0 : Int) = ilTo ts cnt ts := (ilTo_low (Nat.le_refl _)).symm
      refine iI _ ts _ _ _ _ (kF.push _) ?_ (Nat.le_refl _) (by omega) (.cons rfl (.cons rfl (.cons rfl (.cons rfl (.cons (by rw [← e0]; rfl) .nil)))))
      intro q hq
      rcases List.mem_cons.mp hq with rfl | hq
      · exact ⟨Heap.get?_push_size _ rfl, Nat.ne_of_gt hLs, Heap.get?_none_of_le (Nat.le_trans kF.above (Nat.le_of_lt hLs))⟩
      · exact ⟨Heap.get?_push_of_some _ (kN q hq).1, (kN q hq).2⟩
    · intro k
      refine eI k _ (fun j h' tk' m' ti F2 N2 hj hkj hm2 => ?_)
      intro E' P hnext hbrk hrv
      clear kF kN kk hR
      rcases k with _ | k
      · refine wpAny_pyNext_range_end rfl (N2 _ (.head _)).1 (by simp) (fun h3 eb3 => ?_)
        obtain ⟨F3, N3⟩ := iter_ext F2 N2 (fun q hq => Nat.ne_of_lt (hrs q hq)) eb3
        have hj2 : ilTo ts cnt j = ilTo ts cnt (ts + (cnt.length - ts)) := congrArg _ (by omega)
        replace F3 := Fr.known F3 _ hm2
        exact iQ1 _ _ _ _ F3 N3 (.cons rfl (.cons rfl (.cons rfl (.cons (int_val hj2 rfl) .nil))))
      · refine wpAny_pyNext_range_item (N2 _ (.head _)).1 (by omega) (fun h3 it3 sb3 => ?_)
        obtain ⟨F3, N3⟩ := iter_step F2 N2 (fun q hq => Nat.ne_of_lt (hrs q hq)) sb3 it3
        refine stN F3 N3 (fun h4 F4 N4 => ?_)
        replace F4 := Fr.known F4 _ (Has.put hm2 (by kernel_rfl))
        clear F2 F3 N2 N3
        have hjl : j < cnt.length := by omega
        k_steps
        dsimp only
        refine mul_int ?_ (IntMulOk.of_left (Nat.le_trans (intBits_fdiv_le (bits_small (k := 17) (by omega) (by omega))) (by decide)))
        k_steps
        have e1 : ilTo ts cnt j + (j : Int).fdiv (ts : Int) * cnt.getD (j : Int).toNat 0 = ilTo ts cnt (j + 1) := by
          rw [ilTo_step hj, Int.toNat_natCast]
        have e2 : ((k + 1 : Nat) : Int) - 1 = (k : Int) := by omega
        exact hnext k _ (by omega) (iI _ (j + 1) _ _ _ _ (by assumption) (e2 ▸ (by assumption)) (by omega) (by omega) (.cons rfl (.cons rfl (.cons rfl (.cons rfl (.cons (int_val e1 rfl) .nil))))))
  · intro h' tk' m' ti F3 N3 hm2
    replace F3 := Fr.known F3 _ hm2
    rw [← hrest] at N3
    have e3 : ilTo ts cnt (ts + (cnt.length - ts)) = ilTo ts cnt cnt.length := by
      rcases Nat.lt_or_ge cnt.length ts with h | h
      · rw [ilTo_low (by omega), ilTo_low (Nat.le_of_lt h)]
      · rw [show ts + (cnt.length - ts) = cnt.length by omega]
    rw [e3] at F3
    rename (Fr g L1 _ _) => kF
    k_steps
    iterate 4 (try (dsimp only; k_steps))
    exact hret _ _ _ (by assumption) (by assumption)
end
end
section
/-- cells: for each gap that many blanks and a tab -/
def gaps (ks : List Nat) : List Nat := ks.flatMap fun k => List.replicate k 32 ++ [9]
theorem gaps_nil : gaps [] = [] := rfl
theorem gaps_app (ks : List Nat) (k : Nat) : gaps (ks ++ [k]) = gaps ks ++ (List.replicate k 32 ++ [9]) := by
  unfold gaps; simp
theorem wsRun_blanks (k : Nat) (l : List Nat) (cnt : List Int) (b n nt : Nat) : wsRun (List.replicate k 32 ++ l) cnt b n nt = wsRun l cnt (b + k) (n + k) nt := by
  induction k generalizing b n with
  | zero => rfl
  | succ k ih =>
    show wsRun (32 :: (List.replicate k 32 ++ l)) cnt b n nt = _
    rw [wsRun_cons, if_pos rfl, ih]
    congr 1 <;> omega
/-- the counts of a run of gaps -/
def cntOf (ks : List Nat) (cnt : List Int) : List Int := ks.foldl bump cnt
theorem wsRun_gaps (ks : List Nat) (l : List Nat) (cnt : List Int) (n nt : Nat) : ∃ n', wsRun (gaps ks ++ l) cnt 0 n nt = wsRun l (cntOf ks cnt) 0 n' (nt + ks.length) := by
  induction ks generalizing cnt n nt with
  | nil => exact ⟨n, rfl⟩
  | cons k ks ih =>
    obtain ⟨n', h⟩ := ih (bump cnt k) (n + k + 1) (nt + 1)
    refine ⟨n', ?_⟩
    have e : gaps (k :: ks) ++ l = List.replicate k 32 ++ (9 :: (gaps ks ++ l)) := by unfold gaps; simp
    rw [e, wsRun_blanks, wsRun_cons, if_neg (by decide), if_pos rfl, Nat.zero_add, h]
    show wsRun l (cntOf ks (bump cnt k)) 0 n' (nt + 1 + ks.length) = wsRun l (cntOf ks (bump cnt k)) 0 n' (nt + (ks.length + 1))
    congr 1
    omega
theorem wsRun_text (ks : List Nat) (r c : Nat) (l : List Nat) (h1 : c ≠ 32) (h2 : c ≠ 9) : ∃ n', wsRun (gaps ks ++ (List.replicate r 32 ++ c :: l)) [] 0 0 0 = (cntOf ks [], r, n', ks.length) := by
  obtain ⟨n', h⟩ := wsRun_gaps ks (List.replicate r 32 ++ c :: l) [] 0 0
  refine ⟨n' + r, ?_⟩
  rw [h, wsRun_blanks, wsRun_cons, if_neg h1, if_neg h2, Nat.zero_add, Nat.zero_add]
theorem getD_bump (cnt : List Int) (b i : Nat) : (bump cnt b).getD i 0 = cnt.getD i 0 + if i = b then 1 else 0 := by
  have key : ∀ c : List Int, b < c.length → (∀ i, c.getD i 0 = cnt.getD i 0) → (c.set b (c.getD b 0 + 1)).getD i 0 = cnt.getD i 0 + if i = b then 1 else 0 := fun c hb hc => by
    rw [List.getD_eq_getElem?_getD, List.getElem?_set]
    by_cases h : b = i
    · subst h
      rw [if_pos rfl, if_pos hb, if_pos rfl, ← hc]
      rfl
    · rw [if_neg h, if_neg (Ne.symm h), Int.add_zero, ← hc, List.getD_eq_getElem?_getD]
  unfold bump
  dsimp only
  split
  · rename_i h
    refine key _ (by simp; omega) (fun i => ?_)
    rw [List.getD_eq_getElem?_getD, List.getD_eq_getElem?_getD, List.getElem?_append]
    split
    · rfl
    · rename_i h2
      rw [List.getElem?_eq_none (l := cnt) (by omega), List.getElem?_replicate]
      split <;> rfl
  · rename_i h
    exact key _ (by omega) (fun _ => rfl)
theorem ilTo_bump {ts : Nat} (hts : 0 < ts) (cnt : List Int) (b j : Nat) : ilTo ts (bump cnt b) j = ilTo ts cnt j + if b < j then ((b / ts : Nat) : Int) else 0 := by
  induction j with
  | zero => rfl
  | succ j ih =>
    rw [ilTo_succ, ilTo_succ, ih, getD_bump]
    by_cases h1 : j < ts
    · rw [if_pos h1, if_pos h1]
      by_cases h2 : b < j + 1
      · have h3 : b / ts = 0 := Nat.div_eq_of_lt (by omega)
        rw [if_pos h2, h3]
        split <;> simp
      · rw [if_neg h2, if_neg (by omega)]
    · rw [if_neg h1, if_neg h1, Int.mul_add]
      by_cases h2 : j = b
      · subst h2
        rw [if_pos rfl, if_neg (Nat.lt_irrefl _), if_pos (Nat.lt_succ_self _)]
        omega
      · rw [if_neg h2]
        by_cases h4 : b < j
        · rw [if_pos h4, if_pos (by omega)]; omega
        · rw [if_neg h4, if_neg (by omega)]; omega
/-- the level of a run of gaps -/
def sumDiv (ts : Nat) (ks : List Nat) : Nat := (ks.map fun k => k / ts).sum
theorem ilTo_cntOf {ts : Nat} (hts : 0 < ts) (ks : List Nat) : ∀ (cnt : List Int) (j : Nat), (∀ k ∈ ks, k < j) → ilTo ts (cntOf ks cnt) j = ilTo ts cnt j + (sumDiv ts ks : Nat) := by
  induction ks with
  | nil => intro cnt j _; simp [cntOf, sumDiv]
  | cons k ks ih =>
    intro cnt j h
    show ilTo ts (cntOf ks (bump cnt k)) j = _
    rw [ih _ _ (fun q hq => h q (.tail _ hq)), ilTo_bump hts, if_pos (h k (.head _))]
    have e : sumDiv ts (k :: ks) = k / ts + sumDiv ts ks := rfl
    rw [e]
    push_cast
    omega
theorem cntOf_length (ks : List Nat) : ∀ (cnt : List Int), cnt.length ≤ (cntOf ks cnt).length ∧ ∀ k ∈ ks, k < (cntOf ks cnt).length := by
  induction ks with
  | nil => intro cnt; exact ⟨Nat.le_refl _, fun _ h => nomatch h⟩
  | cons k ks ih =>
    intro cnt
    obtain ⟨h1, h2⟩ := ih (bump cnt k)
    have h3 := bump_length cnt k
    have e : cntOf (k :: ks) cnt = cntOf ks (bump cnt k) := rfl
    rw [e]
    refine ⟨by omega, fun q hq => ?_⟩
    rcases List.mem_cons.mp hq with rfl | hq
    · omega
    · exact h2 q hq
/-- the level of a text of gaps -/
theorem ilTo_gaps {ts : Nat} (hts : 0 < ts) (ks : List Nat) : ilTo ts (cntOf ks []) (cntOf ks []).length = (sumDiv ts ks : Nat) := by
  rw [ilTo_cntOf hts ks [] _ (cntOf_length ks []).2]
  have : ∀ j, ilTo ts [] j = 0 := fun j => by
    induction j with
    | zero => rfl
    | succ j ih => rw [ilTo_succ, ih]; simp
  rw [this, Int.zero_add]
theorem strip_cell (k : Nat) : strip (List.replicate k 32 ++ [9]) 1 = List.replicate (k - 1) 32 ++ [9] := by
  unfold strip
  have hr : (List.replicate k 32 ++ [9]).reverse = 9 :: List.replicate k 32 := by simp
  rw [hr, lead_not _ (by decide), Nat.sub_zero, List.take_of_length_le (Nat.le_refl _)]
  cases k with
  | zero => rfl
  | succ k =>
    have : lead 1 (List.replicate (k + 1) 32 ++ [9]) = 1 := rfl
    rw [this]
    rfl
theorem lead_all {n k : Nat} (h : n ≤ k) (l : List Nat) : lead n (List.replicate k 32 ++ l) = n := by
  induction n generalizing k with
  | zero => rfl
  | succ n ih =>
    obtain ⟨k', rfl⟩ := Nat.exists_eq_succ_of_ne_zero (n := k) (by omega)
    show lead (n + 1) (32 :: (List.replicate k' 32 ++ l)) = n + 1
    rw [lead, if_pos rfl, ih (by omega)]
theorem strip_tail (x : List Nat) (c t : Nat) (hc : c ≠ 32) : strip ((c :: x) ++ List.replicate (t + 1) 32) t = (c :: x) ++ [32] := by
  unfold strip
  rw [show (c :: x) ++ List.replicate (t + 1) 32 = c :: (x ++ List.replicate (t + 1) 32) from rfl, lead_not _ hc, Nat.sub_zero]
  have hr : (c :: (x ++ List.replicate (t + 1) 32)).reverse = List.replicate (t + 1) 32 ++ (c :: x).reverse := by simp
  rw [hr, lead_all (by omega), List.drop_zero]
  have hl : (c :: (x ++ List.replicate (t + 1) 32)).length - t = (c :: x).length + 1 := by simp; omega
  rw [hl, show c :: (x ++ List.replicate (t + 1) 32) = (c :: x) ++ List.replicate (t + 1) 32 from rfl, List.take_append, List.take_of_length_le (by omega)]
  have : (c :: x).length + 1 - (c :: x).length = 1 := by omega
  rw [this]
  simp
end
section
def lowY (a b t y : Nat) : Nat := a * (t * b - y) % b
def mostY (a b t y : Nat) : Nat := a * (t * b - y) / b
def cellAt (a b c t y j : Nat) : Nat := c * lowY a b t y + j * (b * c)
/-- the gaps of one row -/
def rowTo (a b c t y : Nat) : Nat → List Nat
  | 0 => []
  | j + 1 => rowTo a b c t y j ++ [cellAt a b c t y j]
theorem rowTo_succ (a b c t y j : Nat) : rowTo a b c t y (j + 1) = rowTo a b c t y j ++ [cellAt a b c t y j] := rfl
def innTo (a b c t y : Nat) : Nat → List Nat
  | 0 => []
  | j + 1 => innTo a b c t y j ++ (if 0 < y ∧ j < mostY a b t y then [cellAt a b c t y j - 1] else [])
theorem innTo_succ (a b c t y j : Nat) : innTo a b c t y (j + 1) = innTo a b c t y j ++ (if 0 < y ∧ j < mostY a b t y then [cellAt a b c t y j - 1] else []) := rfl
def cellsTo (a b c t : Nat) : Nat → List Nat
  | 0 => []
  | y + 1 => cellsTo a b c t y ++ rowTo a b c t y (mostY a b t y + 1)
theorem cellsTo_succ (a b c t y : Nat) : cellsTo a b c t (y + 1) = cellsTo a b c t y ++ rowTo a b c t y (mostY a b t y + 1) := rfl
def innerTo (a b c t : Nat) : Nat → List Nat
  | 0 => []
  | y + 1 => innerTo a b c t y ++ innTo a b c t y (mostY a b t y + 1)
theorem innerTo_succ (a b c t y : Nat) : innerTo a b c t (y + 1) = innerTo a b c t y ++ innTo a b c t y (mostY a b t y + 1) := rfl
def cellsAll (a b c t : Nat) : List Nat := cellsTo a b c t (t * b + 1)
def innerAll (a b c t : Nat) : List Nat := innerTo a b c t (t * b + 1)
def squareL (a b c : Int) : Int := a * b + b * c + c * a + 1
def dedT (one two three : Int) : Int := (one * two) ^ 2 - one * two * ded 7 (one * two) three
def linearL (a b c : Int) : Int := 1 + 3 * a * b * c * (a + b + c + 3) + dedT a b c + dedT b c a + dedT c a b
def twelveL (a b c t : Int) : Int := 2 * (a * b * c) ^ 2 * t ^ 3 + 3 * a * b * c * squareL a b c * t ^ 2 + linearL a b c * t + 12 * a * b * c
def pointsL (a b c t : Nat) : Nat := sumDiv (a * b) (cellsAll a b c t) + (cellsAll a b c t).length
def lawOk (a b c t : Nat) : Bool :=
  let p := pointsL a b c t
  decide (twelveL a b c t = 12 * a * b * c * (p : Int)) && decide (p < 100000) &&
  (let f := ((sumDiv (a * b) (innerAll a b c t) : Nat) : Int) - p
   decide (-(squareL a b c * t * t + 4) = 2 * f)) && decide ((cellsAll a b c t).sum + (cellsAll a b c t).length < 30000)
structure Legs (a b c t : Nat) : Prop where
  a0 : 0 < a
  a8 : a < 8
  b0 : 0 < b
  b8 : b < 8
  c0 : 0 < c
  c8 : c < 8
  t0 : 0 < t
  t7 : t < 7
  ab : Nat.gcd a b = 1
  abc : Nat.gcd (a * b) c = 1
  small : t ^ 3 * (a * b) ^ 2 * c ≤ 1800
def legsB (a b c t : Nat) : Bool := decide (0 < a) && decide (0 < b) && decide (0 < c) && decide (0 < t) && decide (Nat.gcd a b = 1) && decide (Nat.gcd (a * b) c = 1) && decide (t ^ 3 * (a * b) ^ 2 * c ≤ 1800)
theorem law_at0 : ∀ b < 8, ∀ c < 8, ∀ t < 7, legsB 0 b c t = true → lawOk 0 b c t = true := by decide +kernel
theorem law_at1 : ∀ b < 8, ∀ c < 8, ∀ t < 7, legsB 1 b c t = true → lawOk 1 b c t = true := by decide +kernel
theorem law_at2 : ∀ b < 8, ∀ c < 8, ∀ t < 7, legsB 2 b c t = true → lawOk 2 b c t = true := by decide +kernel
theorem law_at3 : ∀ b < 8, ∀ c < 8, ∀ t < 7, legsB 3 b c t = true → lawOk 3 b c t = true := by decide +kernel
theorem law_at4 : ∀ b < 8, ∀ c < 8, ∀ t < 7, legsB 4 b c t = true → lawOk 4 b c t = true := by decide +kernel
theorem law_at5 : ∀ b < 8, ∀ c < 8, ∀ t < 7, legsB 5 b c t = true → lawOk 5 b c t = true := by decide +kernel
theorem law_at6 : ∀ b < 8, ∀ c < 8, ∀ t < 7, legsB 6 b c t = true → lawOk 6 b c t = true := by decide +kernel
theorem law_at7 : ∀ b < 8, ∀ c < 8, ∀ t < 7, legsB 7 b c t = true → lawOk 7 b c t = true := by decide +kernel
theorem law_all (a : Nat) (ha : a < 8) : ∀ b < 8, ∀ c < 8, ∀ t < 7, legsB a b c t = true → lawOk a b c t = true := by
  have h : a = 0 ∨ a = 1 ∨ a = 2 ∨ a = 3 ∨ a = 4 ∨ a = 5 ∨ a = 6 ∨ a = 7 := by omega
  rcases h with rfl | rfl | rfl | rfl | rfl | rfl | rfl | rfl
  · exact law_at0
  · exact law_at1
  · exact law_at2
  · exact law_at3
  · exact law_at4
  · exact law_at5
  · exact law_at6
  · exact law_at7
theorem Legs.ok {a b c t : Nat} (h : Legs a b c t) : lawOk a b c t = true := law_all a h.a8 b h.b8 c h.c8 t h.t7 (by
  simp [legsB, h.a0, h.b0, h.c0, h.t0, h.ab, h.abc, h.small])
end
section
def lawStmt : Stmt := PG.main.body.getD 18 (.Pass default)
def lawBody : List Stmt := fnBody lawStmt
def lawScope : Scope := fnScope lawStmt
abbrev lawN : Str := Str.ofString "law"
/-- where the law's own body runs -/
abbrev lawA (dp un : Nat) (gd : Option (List Code)) (L fa : Addr) (cd : Value) : Around := { handled := none, depth := dp, frames := some [envOf lawN lawScope L fa cd], guards := gd, units := un }
/-- a post that the walk does not open -/
def Mid (p : Prop) : Prop := p
theorem mid {p : Prop} (h : p) : Mid p := h
/-- what stays through the law's run -/
structure LawCtx (w : World) (p : Program) (loose : List Str) (mean : ExcName → Option Value) (mg mb : Str → Option Value) (h₀ : Heap) : Prop where
  below : Below callerA h₀ [] h₀
  ground : (hd.heap_39 w.params).In h₀
  top : Top p loose mean mg mb h₀
section
variable {fa : Addr} {w : World} {p : Program} {loose : List Str} {mean : ExcName → Option Value} {mg mb : Str → Option Value} {dp un : Nat} {gd : Option (List Code)} {h₀ : Heap} {L la : Addr} {m : Str → Option Value} {cd : Value} {T : List (Addr × Obj)} {s : Shared} {Q : Flow → Shared → Prop} {E : Value → Shared → Prop} {vs : List Value} {xs : List Int}
theorem draws_five (xs : List Int) : (xs.take 5 ++ ([2, 3, 4, 7, 5] : List Int).drop xs.length).length = 5 := by
  rcases xs with _ | ⟨_, _ | ⟨_, _ | ⟨_, _ | ⟨_, _ | ⟨_, _⟩⟩⟩⟩⟩ <;> first | rfl | simp
/-- the first statement: five draws -/
theorem law1 (C : LawCtx w p loose mean mg mb h₀) (F : Fr h₀ L s.heap (fun x => ([(Str.ofString "script", Value.ref la)] : List (Str × Value)).lookup x)) (N : News h₀ L s.heap T) (hl : h₀.IsList la vs.toArray) (hI : IntsAre vs xs) (hlen : xs.length ≤ 2 ^ 20) (hdp : dp + 100 < recursionLimit) (hun : un + 1000 < cLine) {body : List Stmt} (hb : body = lawBody)
    (hQ : ∀ (D : Addr) (vals : List Value) (ds : List Int) (h' : Heap) (tk' : Nat) (m' : Str → Option Value), ds.length = 5 → IntsAre vals ds → Fr h₀ L h' m' → News h₀ L h' ((D, W.listOf vals.toArray 0) :: T) → (∀ q ∈ T, q.1 < D) → m' (Str.ofString "drawn") = some (.ref D) →
      wpAny (model PG w) (lawA dp un gd L fa cd) (execs (body.drop 1) (envOf lawN lawScope L fa cd)) Q E { s with heap := h', toks := tk' }) :
    wpAny (model PG w) (lawA dp un gd L fa cd) (execs body (envOf lawN lawScope L fa cd)) Q E s := by
  conv at hb => rhs; whnf
  subst hb
  obtain ⟨B, X, T0⟩ := C
  k_with_none
  k_with "k all" => (first | exact ne_all (by assumption) (by omega) | exact ne_allLt (by assumption) (by omega) | exact ne_allLt (And.right (by assumption)) (by omega) | exact ne_allLt (And.right (And.right (by assumption))) (by omega) | exact ne_allLt (And.right (And.right (And.right (by assumption)))) (by omega) | exact ne_allLt (And.right (And.right (And.right (And.right (by assumption))))) (by omega) | assumption)
  k_with "is list" => (exact News.isList (by assumption) (by k_mem))
  k_with "mul fits" => (first | exact PySem.IntMulOk.of_right (Mine.fit8 (by with_reducible assumption)) | exact PySem.IntMulOk.of_left (Mine.fit8 (by with_reducible assumption)) | exact PySem.IntMulOk.of_left (Mine.fitL (by decide)) | exact PySem.IntMulOk.of_right (Mine.fitL (by decide)))
  k_with "omega" => (first | with_reducible assumption | exact Mine.rl1 (by with_reducible assumption) (by decide) | exact Mine.rl2 (by with_reducible assumption) (by decide) | exact Mine.rl0 (by with_reducible assumption) | decide | (law_clear; law_purse 20000 => lia))
  k_with "last subscriptTail" => (k_here; refine halt ?_)
  k_with "exec While" => (k_here; refine halt ?_)
  (have HH : PySem.Challenge.rw_sr0069_01.row.prog = PG ∧ Mine.hd.heap_39 = Mine.hd.heap_39 := ⟨rfl, rfl⟩)
  revert HH
  k_fill
  intro HH
  clear HH
  refine opq (A := fun Q1 : Flow → Shared → Prop => ∀ (D : Addr) (vals : List Value) (ds : List Int) (h' : Heap) (tk' : Nat) (m' : Str → Option Value), (ds.length = 5) → (IntsAre vals ds) → (Fr h₀ L h' m') → (News h₀ L h' ((D, W.listOf vals.toArray 0) :: T)) → (∀ q ∈ T, q.1 < D) → (m' (Str.ofString "drawn") = some (.ref D)) → Q1  (.next) ({ s with heap := h', toks := tk' })) (B := fun Q1 => ∀  (GG : Flow → Shared → Prop), (∀ (D : Addr) (vals : List Value) (ds : List Int) (h' : Heap) (tk' : Nat) (m' : Str → Option Value), (ds.length = 5) → (IntsAre vals ds) → (Fr h₀ L h' m') → (News h₀ L h' ((D, W.listOf vals.toArray 0) :: T)) → (∀ q ∈ T, q.1 < D) → (m' (Str.ofString "drawn") = some (.ref D)) → GG (.next) ({ s with heap := h', toks := tk' })) → ∀ (i0 : Flow) (i1 : Shared), Q1  i0 i1 → GG i0 i1) (fun  i0 i1 => ∀ GG : Flow → Shared → Prop, (∀ (D : Addr) (vals : List Value) (ds : List Int) (h' : Heap) (tk' : Nat) (m' : Str → Option Value), (ds.length = 5) → (IntsAre vals ds) → (Fr h₀ L h' m') → (News h₀ L h' ((D, W.listOf vals.toArray 0) :: T)) → (∀ q ∈ T, q.1 < D) → (m' (Str.ofString "drawn") = some (.ref D)) → GG (.next) ({ s with heap := h', toks := tk' })) → GG i0 i1) (fun  D vals ds h' tk' m' hh0 hh1 hh2 hh3 hh4 hh5 GG gg => gg D vals ds h' tk' m' hh0 hh1 hh2 hh3 hh4 hh5) (fun  GG gg i0 i1 hh => hh GG gg) (fun Q1 iQ1 eQ1 => ?_)
  refine wpAny_execs_cons (wpAny_mono (Q := Q1) ?_ (eQ1 _ ?_) (fun _ _ e => e))
  · k_steps
    unfold Halt
    rename (IntsAre _ (List.take 5 xs)) => hI5
    rename (Fr h₀ L _ _) => kF
    rename (News h₀ L _ _) => kN
    refine kba_turn (value' := .Name (Str.ofString "z") default) (fun _ => rfl) ?_
    refine slice_list kF kN (News.isList kN (.head _)) (.int _ _) .none ?_
    intro h9 F9 N9
    clear kF kN
    generalize hz : slicePick _ _ _ _ = z at N9
    have hS : IntsAre z.toList (([2, 3, 4, 7, 5] : List Int).drop ((xs.length : Nat) : Int).toNat) := by
      rw [← hz]
      exact slice_ints_fromW (.cons _ _ (.cons _ _ (.cons _ _ (.cons _ _ (.cons _ _ .nil))))) (by omega)
    obtain ⟨zs, rfl⟩ : ∃ zs : List Value, z = zs.toArray := ⟨z.toList, by simp⟩
    replace hS : IntsAre zs _ := hS
    clear hz
    k_steps
    rename (Fr h₀ L _ _) => kF
    rename (News h₀ L _ _) => kN
    rename (IntsAre _ (List.take 5 xs ++ _)) => hI6
    rename (_ < _ ∧ _ < _ ∧ _ < _ ∧ AllLt _ T) => lT
    rw [Int.toNat_natCast] at hI6
    exact iQ1 _ _ _ _ _ _ (draws_five xs) hI6 kF (News.sub kN (fun q hq => (List.mem_cons.mp hq).elim (fun e => e ▸ .head _) fun hq => .tail _ (.tail _ (.tail _ (.tail _ hq))))) (of_allLt lT.2.2.2) rfl
  · intro D vals ds h' tk' m' h1 h2 h3 h4 h5 h6
    exact hQ D vals ds h' tk' m' h1 h2 h3 h4 h5 h6
end
end
section
section
variable {fa : Addr} {w : World} {p : Program} {loose : List Str} {mean : ExcName → Option Value} {mg mb : Str → Option Value} {dp un : Nat} {gd : Option (List Code)} {h₀ : Heap} {L D : Addr} {m : Str → Option Value} {cd : Value} {T : List (Addr × Obj)} {s : Shared} {Q : Flow → Shared → Prop} {E : Value → Shared → Prop} {vals : List Value} {ds : List Int}
/-- 1 and the rest by 7 -/
def dr (x : Int) : Nat := 1 + (x.fmod 7).toNat
theorem dr_int (x : Int) : 1 + x.fmod 7 = (dr x : Nat) := by
  have h1 := fmod_lo x (show (0 : Int) < 7 by decide)
  have h2 := fmod_hi x (show (0 : Int) < 7 by decide)
  unfold dr; omega
theorem dr_lt (x : Int) : 0 < dr x ∧ dr x < 8 := by
  have h1 := fmod_lo x (show (0 : Int) < 7 by decide)
  have h2 := fmod_hi x (show (0 : Int) < 7 by decide)
  unfold dr; omega
theorem iv {o : Option Value} {i j : Int} {t : Tok} (e : i = j) (h : o = some (.int i t)) : o = some (.int j t) := e ▸ h
theorem turn7 {b : Nat} (h0 : 0 < b) (h8 : b < 8) (h1 : b ≠ 1) : (1 : Int) + (b : Int).fmod 7 = ((1 + b % 7 : Nat) : Int) ∧ (8 - (1 + b % 7)) % 7 < (8 - b) % 7 ∧ 0 < 1 + b % 7 ∧ 1 + b % 7 < 8 :=
  (by decide : ∀ b < 8, 0 < b → b ≠ 1 → (1 : Int) + ((b : Nat) : Int).fmod 7 = ((1 + b % 7 : Nat) : Int) ∧ (8 - (1 + b % 7)) % 7 < (8 - b) % 7 ∧ 0 < 1 + b % 7 ∧ 1 + b % 7 < 8) b h8 h0 h1
theorem Ap.one {T : List (Addr × Obj)} {D : Addr} {o : Obj} (TT : TabL T) (h : ∀ q ∈ T, q.1 ≠ D) : Ap [(D, o)] := by
  obtain ⟨o1, o2, rest, rfl, _⟩ := TT
  exact List.forall_mem_cons.mpr ⟨⟨fun e => h (51, o1) (.head _) e.symm, fun e => h (58, o2) (.tail _ (.head _)) e.symm⟩, List.forall_mem_nil _⟩
/-- the second and third draws, the first leg, the second found -/
theorem law2 (C : LawCtx w p loose mean mg mb h₀) (F : Fr h₀ L s.heap m) (hm : m (Str.ofString "drawn") = some (.ref D)) (N : News h₀ L s.heap ((D, W.listOf vals.toArray 0) :: T)) (hD : ∀ q ∈ T, q.1 < D) (TT : TabL T) (hI : IntsAre vals ds) (hlen : ds.length = 5) (hdp : dp + 200 < recursionLimit) (hun : un + 2000 < cLine) {body : List Stmt} (hb : body = lawBody.drop 1)
    (hQ : ∀ (a b : Nat) (ta tb : Tok) (h' : Heap) (tk' : Nat) (m' : Str → Option Value) (T' : List (Addr × Obj)), 0 < a → a < 8 → 0 < b → b < 8 → Nat.gcd a b = 1 → Fr h₀ L h' m' → News h₀ L h' ((D, W.listOf vals.toArray 0) :: T') → TabL T' → (∀ q ∈ T', q.1 ≠ D) → Has m' [(Str.ofString "drawn", .ref D), (Str.ofString "a", .int (a : Nat) ta), (Str.ofString "b", .int (b : Nat) tb)] →
      wpAny (model PG w) (lawA dp un gd L fa cd) (execs (body.drop 3) (envOf lawN lawScope L fa cd)) Q E { s with heap := h', toks := tk' }) :
    wpAny (model PG w) (lawA dp un gd L fa cd) (execs body (envOf lawN lawScope L fa cd)) Q E s := by
  conv at hb => rhs; whnf
  subst hb
  obtain ⟨B, X, T0⟩ := C
  k_with_none
  k_with "k all" => (first | exact ne_all (by assumption) (by omega) | exact ne_allLt (by assumption) (by omega) | exact ne_allLt (And.right (by assumption)) (by omega) | exact ne_allLt (And.right (And.right (by assumption))) (by omega) | exact ne_allLt (And.right (And.right (And.right (by assumption)))) (by omega) | exact ne_allLt (And.right (And.right (And.right (And.right (by assumption))))) (by omega) | assumption)
  k_with "is list" => (exact News.isList (by assumption) (by k_mem))
  k_with "mul fits" => (first | exact PySem.IntMulOk.of_right (Mine.fit8 (by with_reducible assumption)) | exact PySem.IntMulOk.of_left (Mine.fit8 (by with_reducible assumption)) | exact PySem.IntMulOk.of_left (Mine.fitL (by decide)) | exact PySem.IntMulOk.of_right (Mine.fitL (by decide)))
  k_with "omega" => (first | with_reducible assumption | exact Mine.rl1 (by with_reducible assumption) (by decide) | exact Mine.rl2 (by with_reducible assumption) (by decide) | exact Mine.rl0 (by with_reducible assumption) | decide | (law_clear; law_purse 20000 => lia))
  k_with "exec While" => (k_here; refine halt ?_)
  (have HH : PySem.Challenge.rw_sr0069_01.row.prog = PG ∧ Mine.hd.heap_39 = Mine.hd.heap_39 := ⟨rfl, rfl⟩)
  revert HH
  k_fill
  intro HH
  clear HH
  have hvl := IntsAre.length hI
  replace F := Fr.known F [(Str.ofString "drawn", .ref D)] (Has.cons hm .nil)
  k_steps
  unfold Halt
  rename (Fr h₀ L _ _) => kF
  rename (News h₀ L _ _) => kN
  refine opq (A := fun Q1 : Flow → Shared → Prop => ∀ (b : Nat) (ta tb : Tok) (h' : Heap) (tk' : Nat) (m' : Str → Option Value) (T' : List (Addr × Obj)), (0 < b) → (b < 8) → (Nat.gcd (dr (ds.getD 0 0)) b = 1) → (Fr h₀ L h' m') → (News h₀ L h' ((D, W.listOf vals.toArray 0) :: T')) → (TabL T') → (∀ q ∈ T', q.1 ≠ D) → (Has m' [(Str.ofString "drawn", .ref D), (Str.ofString "a", .int (dr (ds.getD 0 0) : Nat) ta), (Str.ofString "b", .int (b : Nat) tb)]) → Q1  (.next) ({ s with heap := h', toks := tk' })) (B := fun Q1 => ∀  (GG : Flow → Shared → Prop), (∀ (b : Nat) (ta tb : Tok) (h' : Heap) (tk' : Nat) (m' : Str → Option Value) (T' : List (Addr × Obj)), (0 < b) → (b < 8) → (Nat.gcd (dr (ds.getD 0 0)) b = 1) → (Fr h₀ L h' m') → (News h₀ L h' ((D, W.listOf vals.toArray 0) :: T')) → (TabL T') → (∀ q ∈ T', q.1 ≠ D) → (Has m' [(Str.ofString "drawn", .ref D), (Str.ofString "a", .int (dr (ds.getD 0 0) : Nat) ta), (Str.ofString "b", .int (b : Nat) tb)]) → GG (.next) ({ s with heap := h', toks := tk' })) → ∀ (i0 : Flow) (i1 : Shared), Q1  i0 i1 → GG i0 i1) (fun  i0 i1 => ∀ GG : Flow → Shared → Prop, (∀ (b : Nat) (ta tb : Tok) (h' : Heap) (tk' : Nat) (m' : Str → Option Value) (T' : List (Addr × Obj)), (0 < b) → (b < 8) → (Nat.gcd (dr (ds.getD 0 0)) b = 1) → (Fr h₀ L h' m') → (News h₀ L h' ((D, W.listOf vals.toArray 0) :: T')) → (TabL T') → (∀ q ∈ T', q.1 ≠ D) → (Has m' [(Str.ofString "drawn", .ref D), (Str.ofString "a", .int (dr (ds.getD 0 0) : Nat) ta), (Str.ofString "b", .int (b : Nat) tb)]) → GG (.next) ({ s with heap := h', toks := tk' })) → GG i0 i1) (fun  b ta tb h' tk' m' T' hh0 hh1 hh2 hh3 hh4 hh5 hh6 hh7 GG gg => gg b ta tb h' tk' m' T' hh0 hh1 hh2 hh3 hh4 hh5 hh6 hh7) (fun  GG gg i0 i1 hh => hh GG gg) (fun Q1 iQ1 eQ1 => ?_)
  refine opq (A := fun I : Nat → Shared → Prop => ∀ (k : Nat), ∀ (b : Nat) (ta tb : Tok) (h' : Heap) (tk' : Nat) (m' : Str → Option Value) (T' : List (Addr × Obj)), (k = (8 - b) % 7) → (0 < b) → (b < 8) → (Fr h₀ L h' m') → (News h₀ L h' ((D, W.listOf vals.toArray 0) :: T')) → (TabL T') → (∀ q ∈ T', q.1 ≠ D) → (Has m' [(Str.ofString "drawn", .ref D), (Str.ofString "a", .int (dr (ds.getD 0 0) : Nat) ta), (Str.ofString "b", .int (b : Nat) tb)]) → I k ({ s with heap := h', toks := tk' })) (B := fun I => ∀ (k : Nat) (GG : Shared → Prop), (∀ (b : Nat) (ta tb : Tok) (h' : Heap) (tk' : Nat) (m' : Str → Option Value) (T' : List (Addr × Obj)), (k = (8 - b) % 7) → (0 < b) → (b < 8) → (Fr h₀ L h' m') → (News h₀ L h' ((D, W.listOf vals.toArray 0) :: T')) → (TabL T') → (∀ q ∈ T', q.1 ≠ D) → (Has m' [(Str.ofString "drawn", .ref D), (Str.ofString "a", .int (dr (ds.getD 0 0) : Nat) ta), (Str.ofString "b", .int (b : Nat) tb)]) → GG ({ s with heap := h', toks := tk' })) → ∀ (i0 : Shared), I k i0 → GG i0) (fun k i0 => ∀ GG : Shared → Prop, (∀ (b : Nat) (ta tb : Tok) (h' : Heap) (tk' : Nat) (m' : Str → Option Value) (T' : List (Addr × Obj)), (k = (8 - b) % 7) → (0 < b) → (b < 8) → (Fr h₀ L h' m') → (News h₀ L h' ((D, W.listOf vals.toArray 0) :: T')) → (TabL T') → (∀ q ∈ T', q.1 ≠ D) → (Has m' [(Str.ofString "drawn", .ref D), (Str.ofString "a", .int (dr (ds.getD 0 0) : Nat) ta), (Str.ofString "b", .int (b : Nat) tb)]) → GG ({ s with heap := h', toks := tk' })) → GG i0) (fun k b ta tb h' tk' m' T' hh0 hh1 hh2 hh3 hh4 hh5 hh6 hh7 GG gg => gg b ta tb h' tk' m' T' hh0 hh1 hh2 hh3 hh4 hh5 hh6 hh7) (fun k GG gg i0 hh => hh GG gg) (fun I iI eI => ?_)
  refine wpAny_mono (Q := Q1) (while_ruleP I ((8 - dr (ds.getD 1 0)) % 7) ?_ ?_) (eQ1 _ ?_) (fun _ _ e => e)
  · exact iI _ (dr (ds.getD 1 0)) _ _ _ _ _ T rfl (dr_lt _).1 (dr_lt _).2 kF kN TT (fun q hq => Nat.ne_of_lt (hD q hq)) (.cons rfl (.cons (iv (dr_int (ds.getD 0 0)) rfl) (.cons (iv (dr_int (ds.getD 1 0)) rfl) .nil)))
  · intro k
    refine eI k _ (fun b ta tb h' tk' m' T' hk hb0 hb8 F2 N2 TT2 hT2 hm2 => ?_)
    intro E' P hnext hbrk hrv
    clear kF kN
    replace F2 := Fr.known F2 _ hm2
    have ha := dr_lt (ds.getD 0 0)
    generalize dr (ds.getD 0 0) = a at *
    k_steps
    refine c_common (fr := [(D, W.listOf vals.toArray 0)]) (T := T') (outer := []) (A₀ := callerA) (base := h₀) ⟨B, X, T0, rfl⟩ (by assumption) (by assumption) TT2 (Ap.one TT2 hT2) (by omega) (by omega) (by omega) (by omega) (by omega) (by omega) ?_
    intro t h3 tk3 T3 F3 N3 TT3 ap3
    have hT3 : ∀ q ∈ T3, q.1 ≠ D := ap3 _ (.head _) hT2
    have hg : comm (a : Int) b = (Nat.gcd a b : Nat) := by unfold comm; rw [Int.toNat_natCast, Int.toNat_natCast]
    rw [hg]
    have hg0 : 0 < Nat.gcd a b := Nat.gcd_pos_of_pos_left _ ha.1
    k_steps
    · rename (1 < _) => hlt
      have hb1 : b ≠ 1 := by
        rintro rfl
        rw [Nat.gcd_one_right] at hlt
        exact absurd hlt (by decide)
      have ht := turn7 hb0 hb8 hb1
      exact hnext _ _ (hk ▸ ht.2.1) (iI _ (1 + b % 7) _ _ _ _ _ T3 rfl ht.2.2.1 ht.2.2.2 (by assumption) (by assumption) TT3 hT3 (.cons rfl (.cons rfl (.cons (int_val ht.1 rfl) .nil))))
    · rename (¬ 1 < _) => hlt
      exact iQ1 b _ _ _ _ _ T3 hb0 hb8 (by omega) (by assumption) (by assumption) TT3 hT3 (.cons rfl (.cons rfl (.cons rfl .nil)))
  · intro b ta tb h' tk' m' T' h1 h2 h3 h4 h5 h6 h7 h8
    exact hQ _ b ta tb h' tk' m' T' (dr_lt _).1 (dr_lt _).2 h1 h2 h3 h4 h5 h6 h7 h8
end
end
section
section
variable {fa : Addr} {w : World} {p : Program} {loose : List Str} {mean : ExcName → Option Value} {mg mb : Str → Option Value} {dp un : Nat} {gd : Option (List Code)} {h₀ : Heap} {L D : Addr} {m : Str → Option Value} {cd : Value} {T : List (Addr × Obj)} {s : Shared} {Q : Flow → Shared → Prop} {E : Value → Shared → Prop} {vals : List Value} {ds : List Int} {a b : Nat} {ta tb : Tok}
theorem ab42 : ∀ a < 8, ∀ b < 8, Nat.gcd a b = 1 → a * b ≤ 42 := by decide
theorem law3 (C : LawCtx w p loose mean mg mb h₀) (F : Fr h₀ L s.heap m) (hm : Has m [(Str.ofString "drawn", .ref D), (Str.ofString "a", .int (a : Nat) ta), (Str.ofString "b", .int (b : Nat) tb)]) (N : News h₀ L s.heap ((D, W.listOf vals.toArray 0) :: T)) (hD : ∀ q ∈ T, q.1 ≠ D) (TT : TabL T) (hI : IntsAre vals ds) (hlen : ds.length = 5) (hdp : dp + 200 < recursionLimit) (hun : un + 2000 < cLine) (ha0 : 0 < a) (ha8 : a < 8) (hb0 : 0 < b) (hb8 : b < 8) (hab : Nat.gcd a b = 1) {body : List Stmt} (hb : body = lawBody.drop 4)
    (hQ : ∀ (c : Nat) (ta tb tc : Tok) (h' : Heap) (tk' : Nat) (m' : Str → Option Value) (T' : List (Addr × Obj)), 0 < c → c < 8 → Nat.gcd (a * b) c = 1 → (a * b) ^ 2 * c ≤ 1800 → Fr h₀ L h' m' → News h₀ L h' ((D, W.listOf vals.toArray 0) :: T') → TabL T' → (∀ q ∈ T', q.1 ≠ D) → Has m' [(Str.ofString "drawn", .ref D), (Str.ofString "a", .int (a : Nat) ta), (Str.ofString "b", .int (b : Nat) tb), (Str.ofString "c", .int (c : Nat) tc)] →
      wpAny (model PG w) (lawA dp un gd L fa cd) (execs (body.drop 2) (envOf lawN lawScope L fa cd)) Q E { s with heap := h', toks := tk' }) :
    wpAny (model PG w) (lawA dp un gd L fa cd) (execs body (envOf lawN lawScope L fa cd)) Q E s := by
  conv at hb => rhs; whnf
  subst hb
  obtain ⟨B, X, T0⟩ := C
  k_with_none
  k_with "k all" => (first | exact ne_all (by assumption) (by omega) | exact ne_allLt (by assumption) (by omega) | exact ne_allLt (And.right (by assumption)) (by omega) | exact ne_allLt (And.right (And.right (by assumption))) (by omega) | exact ne_allLt (And.right (And.right (And.right (by assumption)))) (by omega) | exact ne_allLt (And.right (And.right (And.right (And.right (by assumption))))) (by omega) | assumption)
  k_with "is list" => (exact News.isList (by assumption) (by k_mem))
  k_with "mul fits" => (first | exact PySem.IntMulOk.of_right (Mine.fit8 (by with_reducible assumption)) | exact PySem.IntMulOk.of_left (Mine.fit8 (by with_reducible assumption)) | exact PySem.IntMulOk.of_left (Mine.fitL (by decide)) | exact PySem.IntMulOk.of_right (Mine.fitL (by decide)))
  k_with "omega" => (first | with_reducible assumption | exact Mine.rl1 (by with_reducible assumption) (by decide) | exact Mine.rl2 (by with_reducible assumption) (by decide) | exact Mine.rl0 (by with_reducible assumption) | decide | (law_clear; law_purse 20000 => lia))
  k_with "exec While" => (k_here; refine halt ?_)
  (have HH : PySem.Challenge.rw_sr0069_01.row.prog = PG ∧ Mine.hd.heap_39 = Mine.hd.heap_39 := ⟨rfl, rfl⟩)
  revert HH
  k_fill
  intro HH
  clear HH
  have hvl := IntsAre.length hI
  have h42 := ab42 a ha8 b hb8 hab
  have hp0 : 0 < a * b := Nat.mul_pos ha0 hb0
  have ea : (a : Int) * b = ((a * b : Nat) : Int) := (Int.natCast_mul a b).symm
  replace F := Fr.known F _ hm
  k_steps
  unfold Halt
  rename (Fr h₀ L _ _) => kF
  rename (News h₀ L _ _) => kN
  refine opq (A := fun Q1 : Flow → Shared → Prop => ∀ (c : Nat) (ta tb tc : Tok) (h' : Heap) (tk' : Nat) (m' : Str → Option Value) (T' : List (Addr × Obj)), (0 < c) → (c < 8) → (Nat.gcd (a * b) c = 1) → ((a * b) ^ (2 : Nat) * c ≤ 1800) → (Fr h₀ L h' m') → (News h₀ L h' ((D, W.listOf vals.toArray 0) :: T')) → (TabL T') → (∀ q ∈ T', q.1 ≠ D) → (Has m' [(Str.ofString "drawn", .ref D), (Str.ofString "a", .int (a : Nat) ta), (Str.ofString "b", .int (b : Nat) tb), (Str.ofString "c", .int (c : Nat) tc)]) → Q1  (.next) ({ s with heap := h', toks := tk' })) (B := fun Q1 => ∀  (GG : Flow → Shared → Prop), (∀ (c : Nat) (ta tb tc : Tok) (h' : Heap) (tk' : Nat) (m' : Str → Option Value) (T' : List (Addr × Obj)), (0 < c) → (c < 8) → (Nat.gcd (a * b) c = 1) → ((a * b) ^ (2 : Nat) * c ≤ 1800) → (Fr h₀ L h' m') → (News h₀ L h' ((D, W.listOf vals.toArray 0) :: T')) → (TabL T') → (∀ q ∈ T', q.1 ≠ D) → (Has m' [(Str.ofString "drawn", .ref D), (Str.ofString "a", .int (a : Nat) ta), (Str.ofString "b", .int (b : Nat) tb), (Str.ofString "c", .int (c : Nat) tc)]) → GG (.next) ({ s with heap := h', toks := tk' })) → ∀ (i0 : Flow) (i1 : Shared), Q1  i0 i1 → GG i0 i1) (fun  i0 i1 => ∀ GG : Flow → Shared → Prop, (∀ (c : Nat) (ta tb tc : Tok) (h' : Heap) (tk' : Nat) (m' : Str → Option Value) (T' : List (Addr × Obj)), (0 < c) → (c < 8) → (Nat.gcd (a * b) c = 1) → ((a * b) ^ (2 : Nat) * c ≤ 1800) → (Fr h₀ L h' m') → (News h₀ L h' ((D, W.listOf vals.toArray 0) :: T')) → (TabL T') → (∀ q ∈ T', q.1 ≠ D) → (Has m' [(Str.ofString "drawn", .ref D), (Str.ofString "a", .int (a : Nat) ta), (Str.ofString "b", .int (b : Nat) tb), (Str.ofString "c", .int (c : Nat) tc)]) → GG (.next) ({ s with heap := h', toks := tk' })) → GG i0 i1) (fun  c ta tb tc h' tk' m' T' hh0 hh1 hh2 hh3 hh4 hh5 hh6 hh7 hh8 GG gg => gg c ta tb tc h' tk' m' T' hh0 hh1 hh2 hh3 hh4 hh5 hh6 hh7 hh8) (fun  GG gg i0 i1 hh => hh GG gg) (fun Q1 iQ1 eQ1 => ?_)
  refine opq (A := fun I : Nat → Shared → Prop => ∀ (k : Nat), ∀ (c : Nat) (ta tb tc : Tok) (h' : Heap) (tk' : Nat) (m' : Str → Option Value) (T' : List (Addr × Obj)), (k = (8 - c) % 7) → (0 < c) → (c < 8) → (Fr h₀ L h' m') → (News h₀ L h' ((D, W.listOf vals.toArray 0) :: T')) → (TabL T') → (∀ q ∈ T', q.1 ≠ D) → (Has m' [(Str.ofString "drawn", .ref D), (Str.ofString "a", .int (a : Nat) ta), (Str.ofString "b", .int (b : Nat) tb), (Str.ofString "c", .int (c : Nat) tc)]) → I k ({ s with heap := h', toks := tk' })) (B := fun I => ∀ (k : Nat) (GG : Shared → Prop), (∀ (c : Nat) (ta tb tc : Tok) (h' : Heap) (tk' : Nat) (m' : Str → Option Value) (T' : List (Addr × Obj)), (k = (8 - c) % 7) → (0 < c) → (c < 8) → (Fr h₀ L h' m') → (News h₀ L h' ((D, W.listOf vals.toArray 0) :: T')) → (TabL T') → (∀ q ∈ T', q.1 ≠ D) → (Has m' [(Str.ofString "drawn", .ref D), (Str.ofString "a", .int (a : Nat) ta), (Str.ofString "b", .int (b : Nat) tb), (Str.ofString "c", .int (c : Nat) tc)]) → GG ({ s with heap := h', toks := tk' })) → ∀ (i0 : Shared), I k i0 → GG i0) (fun k i0 => ∀ GG : Shared → Prop, (∀ (c : Nat) (ta tb tc : Tok) (h' : Heap) (tk' : Nat) (m' : Str → Option Value) (T' : List (Addr × Obj)), (k = (8 - c) % 7) → (0 < c) → (c < 8) → (Fr h₀ L h' m') → (News h₀ L h' ((D, W.listOf vals.toArray 0) :: T')) → (TabL T') → (∀ q ∈ T', q.1 ≠ D) → (Has m' [(Str.ofString "drawn", .ref D), (Str.ofString "a", .int (a : Nat) ta), (Str.ofString "b", .int (b : Nat) tb), (Str.ofString "c", .int (c : Nat) tc)]) → GG ({ s with heap := h', toks := tk' })) → GG i0) (fun k c ta tb tc h' tk' m' T' hh0 hh1 hh2 hh3 hh4 hh5 hh6 hh7 GG gg => gg c ta tb tc h' tk' m' T' hh0 hh1 hh2 hh3 hh4 hh5 hh6 hh7) (fun k GG gg i0 hh => hh GG gg) (fun I iI eI => ?_)
  refine wpAny_mono (Q := Q1) (while_ruleP I ((8 - dr (ds.getD 2 0)) % 7) ?_ ?_) (eQ1 _ ?_) (fun _ _ e => e)
  · exact iI _ (dr (ds.getD 2 0)) _ _ _ _ _ _ T rfl (dr_lt _).1 (dr_lt _).2 kF kN TT hD (.cons rfl (.cons rfl (.cons rfl (.cons (iv (dr_int (ds.getD 2 0)) rfl) .nil))))
  · intro k
    refine eI k _ (fun c ta tb tc h' tk' m' T' hk hc0 hc8 F2 N2 TT2 hT2 hm2 => ?_)
    intro E' P hnext hbrk hrv
    clear kF kN
    replace F2 := Fr.known F2 _ hm2
    k_steps
    rw [ea]
    refine c_common (fr := [(D, W.listOf vals.toArray 0)]) (T := T') (outer := []) (A₀ := callerA) (base := h₀) ⟨B, X, T0, rfl⟩ (by assumption) (by assumption) TT2 (Ap.one TT2 hT2) (by omega) (by omega) (by omega) (by omega) (by omega) (by omega) ?_
    intro t h3 tk3 T3 F3 N3 TT3 ap3
    have hT3 : ∀ q ∈ T3, q.1 ≠ D := ap3 _ (.head _) hT2
    have hg : comm ((a * b : Nat) : Int) c = (Nat.gcd (a * b) c : Nat) := by unfold comm; rw [Int.toNat_natCast, Int.toNat_natCast]
    rw [hg]
    have hg0 : 0 < Nat.gcd (a * b) c := Nat.gcd_pos_of_pos_left _ hp0
    have e2 : ((a : Int) * b) ^ Int.toNat 2 * c = (((a * b) ^ 2 * c : Nat) : Int) := by
      rw [Int.natCast_mul, Int.natCast_pow, Int.natCast_mul]; rfl
    have hone : c = 1 → (a * b) ^ 2 * c ≤ 1800 := by
      rintro rfl
      have := Nat.pow_le_pow_left h42 2
      omega
    k_steps
    · rename (1 < _) => hlt
      have hb1 : c ≠ 1 := by
        rintro rfl
        rw [Nat.gcd_one_right] at hlt
        exact absurd hlt (by decide)
      have ht := turn7 hc0 hc8 hb1
      exact hnext _ _ (hk ▸ ht.2.1) (iI _ (1 + c % 7) _ _ _ _ _ _ T3 rfl ht.2.2.1 ht.2.2.2 (by assumption) (by assumption) TT3 hT3 (.cons rfl (.cons rfl (.cons rfl (.cons (int_val ht.1 rfl) .nil)))))
    · rename (1800 < _) => hlt
      have hb1 : c ≠ 1 := fun e => by
        have h3 := hone e
        rw [e2] at hlt
        omega
      have ht := turn7 hc0 hc8 hb1
      exact hnext _ _ (hk ▸ ht.2.1) (iI _ (1 + c % 7) _ _ _ _ _ _ T3 rfl ht.2.2.1 ht.2.2.2 (by assumption) (by assumption) TT3 hT3 (.cons rfl (.cons rfl (.cons rfl (.cons (int_val ht.1 rfl) .nil)))))
    · rename (¬ 1 < _) => hlt
      rename (¬ 1800 < _) => hle
      rw [e2] at hle
      exact iQ1 c _ _ _ _ _ _ T3 hc0 hc8 (by omega) (by omega) (by assumption) (by assumption) TT3 hT3 (.cons rfl (.cons rfl (.cons rfl (.cons rfl .nil))))
  · intro c ta tb tc h' tk' m' T' h1 h2 h3 h3' h4 h5 h6 h7 h8
    exact hQ c ta tb tc h' tk' m' T' h1 h2 h3 h3' h4 h5 h6 h7 h8
end
end
section
section
variable {fa : Addr} {w : World} {p : Program} {loose : List Str} {mean : ExcName → Option Value} {mg mb : Str → Option Value} {dp un : Nat} {gd : Option (List Code)} {h₀ : Heap} {L D : Addr} {m : Str → Option Value} {cd : Value} {T : List (Addr × Obj)} {s : Shared} {Q : Flow → Shared → Prop} {E : Value → Shared → Prop} {vals : List Value} {ds : List Int} {a b c : Nat} {ta tb tc : Tok}
def big50 : Int := 10 ^ 50
theorem big50_pos : 0 < big50 := by unfold big50; decide +kernel
theorem big50_lt : big50 < 2 ^ 299 := by unfold big50; decide +kernel
theorem pow_50 {prog : Program} {w : World} {A : Around} {E : Value → Shared → Prop} {s : Shared} {Q : Value → Shared → Prop} {t u : Tok} (h : Q (.int big50 s.toks) { s with toks := s.toks + 1 }) : wpAny (model prog w) A (binaryOp .Pow (.int 10 t) (.int 50 u)) Q E s := pow_int_small (by decide) (by decide) (by decide) h
def unitOf (d : Int) : Int := (1 - 2 * d.fmod 2) * (1 + (d.fdiv 2).fmod big50)
theorem unitOf_ok (d : Int) : unitOf d ≠ 0 ∧ Builtin.Int.intBits (unitOf d) ≤ 300 := by
  have h1 := fmod_lo d (show (0 : Int) < 2 by decide)
  have h2 := fmod_hi d (show (0 : Int) < 2 by decide)
  have h3 := fmod_lo (d.fdiv 2) big50_pos
  have h4 := fmod_hi (d.fdiv 2) big50_pos
  unfold unitOf
  generalize d.fmod 2 = x at *
  generalize (d.fdiv 2).fmod big50 = y at *
  have hx : x = 0 ∨ x = 1 := by omega
  have hzz : 0 ≤ 1 + y := by omega
  have hz : (1 + y) < 2 ^ 300 := Int.lt_of_le_of_lt (Int.add_one_le_of_lt h4 |> fun h => by omega) (Int.lt_trans big50_lt (by decide +kernel))
  have hy : 1 + y ≠ 0 := by omega
  generalize 1 + y = z at *
  have hz0 : 0 ≤ z := hzz
  rcases hx with rfl | rfl
  · refine ⟨by omega, ?_⟩
    rw [show (1 - 2 * 0 : Int) * z = z by omega]
    exact bits_small hz0 hz
  · refine ⟨by omega, ?_⟩
    rw [show (1 - 2 * 1 : Int) * z = -z by omega]
    refine intBits_le_of_natAbs (y := z) (by omega) (bits_small hz0 hz)
def dr6 (x : Int) : Nat := 1 + (x.fmod 6).toNat
theorem dr6_int (x : Int) : 1 + x.fmod 6 = (dr6 x : Nat) := by
  have h1 := fmod_lo x (show (0 : Int) < 6 by decide)
  have h2 := fmod_hi x (show (0 : Int) < 6 by decide)
  unfold dr6; omega
theorem dr6_lt (x : Int) : 0 < dr6 x ∧ dr6 x < 7 := by
  have h1 := fmod_lo x (show (0 : Int) < 6 by decide)
  have h2 := fmod_hi x (show (0 : Int) < 6 by decide)
  unfold dr6; omega
theorem law4 (C : LawCtx w p loose mean mg mb h₀) (F : Fr h₀ L s.heap m) (hm : Has m [(Str.ofString "drawn", .ref D), (Str.ofString "a", .int (a : Nat) ta), (Str.ofString "b", .int (b : Nat) tb), (Str.ofString "c", .int (c : Nat) tc)]) (N : News h₀ L s.heap ((D, W.listOf vals.toArray 0) :: T)) (TT : TabL T) (hI : IntsAre vals ds) (hlen : ds.length = 5) (hdp : dp + 200 < recursionLimit) (hun : un + 2000 < cLine) (ha0 : 0 < a) (ha8 : a < 8) (hb0 : 0 < b) (hb8 : b < 8) (hab : Nat.gcd a b = 1) (hc0 : 0 < c) (hc8 : c < 8) (habc : Nat.gcd (a * b) c = 1) (hsm : (a * b) ^ 2 * c ≤ 1800) {body : List Stmt} (hb : body = lawBody.drop 6)
    (hQ : ∀ (u : Int) (t : Nat) (ta tb tc tu tt : Tok) (h' : Heap) (tk' : Nat) (m' : Str → Option Value), Legs a b c t → u ≠ 0 → Builtin.Int.intBits u ≤ 300 → Fr h₀ L h' m' → News h₀ L h' T → Has m' [(Str.ofString "a", .int (a : Nat) ta), (Str.ofString "b", .int (b : Nat) tb), (Str.ofString "c", .int (c : Nat) tc), (Str.ofString "unit", .int u tu), (Str.ofString "t", .int (t : Nat) tt)] →
      wpAny (model PG w) (lawA dp un gd L fa cd) (execs (body.drop 3) (envOf lawN lawScope L fa cd)) Q E { s with heap := h', toks := tk' }) :
    wpAny (model PG w) (lawA dp un gd L fa cd) (execs body (envOf lawN lawScope L fa cd)) Q E s := by
  conv at hb => rhs; whnf
  subst hb
  obtain ⟨B, X, T0⟩ := C
  k_with_none
  k_with "k all" => (first | exact ne_all (by assumption) (by omega) | exact ne_allLt (by assumption) (by omega) | exact ne_allLt (And.right (by assumption)) (by omega) | exact ne_allLt (And.right (And.right (by assumption))) (by omega) | exact ne_allLt (And.right (And.right (And.right (by assumption)))) (by omega) | exact ne_allLt (And.right (And.right (And.right (And.right (by assumption))))) (by omega) | assumption)
  k_with "is list" => (exact News.isList (by assumption) (by k_mem))
  k_with "mul fits" => (first | exact PySem.IntMulOk.of_right (Mine.fit8 (by with_reducible assumption)) | exact PySem.IntMulOk.of_left (Mine.fit8 (by with_reducible assumption)) | exact PySem.IntMulOk.of_left (Mine.fitL (by decide)) | exact PySem.IntMulOk.of_right (Mine.fitL (by decide)))
  k_with "omega" => (first | with_reducible assumption | exact Mine.rl1 (by with_reducible assumption) (by decide) | exact Mine.rl2 (by with_reducible assumption) (by decide) | exact Mine.rl0 (by with_reducible assumption) | decide | (law_clear; law_purse 20000 => lia))
  k_with "exec While" => (k_here; refine halt ?_)
  k_with "binaryOp Pow int int" => (k_here; (with_reducible refine pow_50 ?_))
  (have HH : PySem.Challenge.rw_sr0069_01.row.prog = PG ∧ Mine.hd.heap_39 = Mine.hd.heap_39 := ⟨rfl, rfl⟩)
  revert HH
  k_fill
  intro HH
  clear HH
  have hvl := IntsAre.length hI
  have h42 := ab42 a ha8 b hb8 hab
  have ea : (a : Int) * b = ((a * b : Nat) : Int) := (Int.natCast_mul a b).symm
  replace F := Fr.known F _ hm
  k_steps
  have hbig0 : big50 ≠ 0 := Int.ne_of_gt big50_pos
  unfold Halt
  rename (Fr h₀ L _ _) => kF
  rename (News h₀ L _ _) => kN
  have hd6 := dr6_lt (ds.getD 4 0)
  have hcs : ∀ t : Nat, ((t : Int) ^ Int.toNat 3 * ((a : Int) * b) ^ Int.toNat 2 * c) = ((t ^ 3 * (a * b) ^ 2 * c : Nat) : Int) := fun t => by
    simp only [Int.natCast_mul, Int.natCast_pow]; rfl
  refine opq (A := fun Q1 : Flow → Shared → Prop => ∀ (t : Nat) (ta tb tc tu tt : Tok) (h' : Heap) (tk' : Nat) (m' : Str → Option Value), (0 < t) → (t < 7) → (t ^ (3 : Nat) * (a * b) ^ (2 : Nat) * c ≤ 1800) → (Fr h₀ L h' m') → (News h₀ L h' ((D, W.listOf vals.toArray 0) :: T)) → (Has m' [(Str.ofString "a", .int (a : Nat) ta), (Str.ofString "b", .int (b : Nat) tb), (Str.ofString "c", .int (c : Nat) tc), (Str.ofString "unit", .int (unitOf (ds.getD 3 0)) tu), (Str.ofString "t", .int (t : Nat) tt)]) → Q1  (.next) ({ s with heap := h', toks := tk' })) (B := fun Q1 => ∀  (GG : Flow → Shared → Prop), (∀ (t : Nat) (ta tb tc tu tt : Tok) (h' : Heap) (tk' : Nat) (m' : Str → Option Value), (0 < t) → (t < 7) → (t ^ (3 : Nat) * (a * b) ^ (2 : Nat) * c ≤ 1800) → (Fr h₀ L h' m') → (News h₀ L h' ((D, W.listOf vals.toArray 0) :: T)) → (Has m' [(Str.ofString "a", .int (a : Nat) ta), (Str.ofString "b", .int (b : Nat) tb), (Str.ofString "c", .int (c : Nat) tc), (Str.ofString "unit", .int (unitOf (ds.getD 3 0)) tu), (Str.ofString "t", .int (t : Nat) tt)]) → GG (.next) ({ s with heap := h', toks := tk' })) → ∀ (i0 : Flow) (i1 : Shared), Q1  i0 i1 → GG i0 i1) (fun  i0 i1 => ∀ GG : Flow → Shared → Prop, (∀ (t : Nat) (ta tb tc tu tt : Tok) (h' : Heap) (tk' : Nat) (m' : Str → Option Value), (0 < t) → (t < 7) → (t ^ (3 : Nat) * (a * b) ^ (2 : Nat) * c ≤ 1800) → (Fr h₀ L h' m') → (News h₀ L h' ((D, W.listOf vals.toArray 0) :: T)) → (Has m' [(Str.ofString "a", .int (a : Nat) ta), (Str.ofString "b", .int (b : Nat) tb), (Str.ofString "c", .int (c : Nat) tc), (Str.ofString "unit", .int (unitOf (ds.getD 3 0)) tu), (Str.ofString "t", .int (t : Nat) tt)]) → GG (.next) ({ s with heap := h', toks := tk' })) → GG i0 i1) (fun  t ta tb tc tu tt h' tk' m' hh0 hh1 hh2 hh3 hh4 hh5 GG gg => gg t ta tb tc tu tt h' tk' m' hh0 hh1 hh2 hh3 hh4 hh5) (fun  GG gg i0 i1 hh => hh GG gg) (fun Q1 iQ1 eQ1 => ?_)
  refine opq (A := fun I : Nat → Shared → Prop => ∀ (k : Nat), ∀ (ta tb tc tu tt : Tok) (h' : Heap) (tk' : Nat) (m' : Str → Option Value), (0 < k) → (k < 7) → (Fr h₀ L h' m') → (News h₀ L h' ((D, W.listOf vals.toArray 0) :: T)) → (Has m' [(Str.ofString "a", .int (a : Nat) ta), (Str.ofString "b", .int (b : Nat) tb), (Str.ofString "c", .int (c : Nat) tc), (Str.ofString "unit", .int (unitOf (ds.getD 3 0)) tu), (Str.ofString "t", .int (k : Nat) tt)]) → I k ({ s with heap := h', toks := tk' })) (B := fun I => ∀ (k : Nat) (GG : Shared → Prop), (∀ (ta tb tc tu tt : Tok) (h' : Heap) (tk' : Nat) (m' : Str → Option Value), (0 < k) → (k < 7) → (Fr h₀ L h' m') → (News h₀ L h' ((D, W.listOf vals.toArray 0) :: T)) → (Has m' [(Str.ofString "a", .int (a : Nat) ta), (Str.ofString "b", .int (b : Nat) tb), (Str.ofString "c", .int (c : Nat) tc), (Str.ofString "unit", .int (unitOf (ds.getD 3 0)) tu), (Str.ofString "t", .int (k : Nat) tt)]) → GG ({ s with heap := h', toks := tk' })) → ∀ (i0 : Shared), I k i0 → GG i0) (fun k i0 => ∀ GG : Shared → Prop, (∀ (ta tb tc tu tt : Tok) (h' : Heap) (tk' : Nat) (m' : Str → Option Value), (0 < k) → (k < 7) → (Fr h₀ L h' m') → (News h₀ L h' ((D, W.listOf vals.toArray 0) :: T)) → (Has m' [(Str.ofString "a", .int (a : Nat) ta), (Str.ofString "b", .int (b : Nat) tb), (Str.ofString "c", .int (c : Nat) tc), (Str.ofString "unit", .int (unitOf (ds.getD 3 0)) tu), (Str.ofString "t", .int (k : Nat) tt)]) → GG ({ s with heap := h', toks := tk' })) → GG i0) (fun k ta tb tc tu tt h' tk' m' hh0 hh1 hh2 hh3 hh4 GG gg => gg ta tb tc tu tt h' tk' m' hh0 hh1 hh2 hh3 hh4) (fun k GG gg i0 hh => hh GG gg) (fun I iI eI => ?_)
  refine wpAny_mono (Q := Q1) (while_ruleP I (dr6 (ds.getD 4 0)) ?_ ?_) (eQ1 _ ?_) (fun _ _ e => e)
  · exact iI _ _ _ _ _ _ _ _ _ hd6.1 hd6.2 kF kN (.cons rfl (.cons rfl (.cons rfl (.cons rfl (.cons (iv (dr6_int (ds.getD 4 0)) rfl) .nil)))))
  · intro k
    refine eI k _ (fun ta tb tc tu tt h' tk' m' hk0 hk7 F2 N2 hm2 => ?_)
    intro E' P hnext hbrk hrv
    clear kF kN
    replace F2 := Fr.known F2 _ hm2
    generalize unitOf (ds.getD 3 0) = u0 at *
    have hk3 : Builtin.Int.intBits ((k : Int) ^ Int.toNat 3) ≤ 8 := by
      have e : (k : Int) ^ Int.toNat 3 = ((k ^ 3 : Nat) : Int) := by rw [Int.natCast_pow]; rfl
      have h7 : k ^ 3 ≤ 6 ^ 3 := Nat.pow_le_pow_left (by omega) 3
      rw [e]
      exact bits_small (by omega) (by omega)
    k_steps
    refine mul_int ?_ (IntMulOk.of_left (Nat.le_trans hk3 (by decide)))
    k_steps
    · rename (1800 < _) => hlt
      rw [hcs] at hlt
      have hb1 : k ≠ 1 := by
        rintro rfl
        rw [Nat.one_pow, Nat.one_mul] at hlt
        omega
      have e1 : (k : Int) - 1 = ((k - 1 : Nat) : Int) := by omega
      exact hnext (k - 1) _ (by omega) (iI _ _ _ _ _ _ _ _ _ (by omega) (by omega) (by assumption) (by assumption) (.cons rfl (.cons rfl (.cons rfl (.cons rfl (.cons (int_val e1 rfl) .nil))))))
    · rename (¬ 1800 < _) => hlt
      rw [hcs] at hlt
      exact iQ1 k _ _ _ _ _ _ _ _ hk0 hk7 (by omega) (by assumption) (by assumption) (.cons rfl (.cons rfl (.cons rfl (.cons rfl (.cons rfl .nil)))))
  · intro t ta tb tc tu tt h' tk' m' h1 h2 h3 h4 h5 h6
    exact hQ _ t ta tb tc tu tt h' tk' m' ⟨ha0, ha8, hb0, hb8, hc0, hc8, h1, h2, hab, habc, h3⟩ (unitOf_ok _).1 (unitOf_ok _).2 h4 (News.sub h5 fun q hq => .tail _ hq) h6
end
end
section
def yFor : Stmt := lawBody.getD 12 (.Pass default)
def yBody : List Stmt := forBody yFor
def rowFor : Stmt := yBody.getD 5 (.Pass default)
def rowBody : List Stmt := forBody rowFor
section
variable {fa : Addr} {w : World} {p : Program} {loose : List Str} {mean : ExcName → Option Value} {mg mb : Str → Option Value} {dp un : Nat} {gd : Option (List Code)} {h₀ : Heap} {L : Addr} {m : Str → Option Value} {cd : Value} {news : List (Addr × Obj)} {s : Shared} {Q : Flow → Shared → Prop} {E : Value → Shared → Prop} {a b c t : Nat} {u : Int} {ta tb tc tu tt : Tok}
theorem cell_txt (n : Int) : Txt.mul (Str.ofString " ") n ++ Str.ofString "\t" = chs (List.replicate n.toNat 32 ++ [9]) := by
  have e1 : Str.ofString " " = ⟨#[32]⟩ := by decide +kernel
  have e2 : Str.ofString "\t" = ⟨#[9]⟩ := by decide +kernel
  rw [e1, e2]
  have h := mul_one_list 32 n
  generalize Txt.mul ⟨#[32]⟩ n = x at *
  obtain ⟨cps⟩ := x
  show (⟨cps ++ #[9]⟩ : Str) = ⟨(List.replicate n.toNat 32 ++ [9]).toArray⟩
  congr 1
  apply Array.ext'
  simp only [Array.toList_append]
  rw [show cps.toList = _ from h]
theorem chs_app (l l' : List Nat) : chs l ++ chs l' = chs (l ++ l') := by
  show (⟨l.toArray ++ l'.toArray⟩ : Str) = ⟨(l ++ l').toArray⟩
  simp
theorem iadd_chs {prog : Program} {w : World} {A : Around} {E : Value → Shared → Prop} {s : Shared} {Q : Value → Shared → Prop} {l l' : List Nat} {t u : Tok} (h : ∀ t' k, Q (.str (chs (l ++ l')) t') { s with toks := k }) (h1 : l.length < 100000) (h2 : l'.length < 100000) : wpAny (model prog w) A (inplaceOp .Add (.str (chs l) t) (.str (chs l') u)) Q E s :=
  SB.iadd (fun t' k => by rw [chs_app]; exact h t' k) (by rw [chs_length, chs_length]; exact Nat.le_trans (by omega) (by decide : 200000 ≤ sizeLine))
/-- what stays through the rows -/
abbrev base5 (a b c t : Nat) (u : Int) (ta tb tc tu tt : Tok) : List (Str × Value) := [(Str.ofString "a", .int (a : Nat) ta), (Str.ofString "b", .int (b : Nat) tb), (Str.ofString "c", .int (c : Nat) tc), (Str.ofString "unit", .int u tu), (Str.ofString "t", .int (t : Nat) tt)]
theorem str_val {o : Option Value} {a b : Str} {t : Tok} (e : a = b) (h : o = some (.str a t)) : o = some (.str b t) := e ▸ h
theorem row_turn {ks is : List Nat} {k y : Nat} {mk sz x : Int} {tk1 tk2 tk3 tk4 tk5 tk6 tk7 : Tok} (C : LawCtx w p loose mean mg mb h₀) (F : Fr h₀ L s.heap m) (N : News h₀ L s.heap news) (hdp : dp + 200 < recursionLimit) (hun : un + 2000 < cLine)
    (hm : Has m ((Str.ofString "size", .int sz tk6) :: (Str.ofString "cells", .str (chs (gaps ks)) tk1) :: (Str.ofString "inner", .str (chs (gaps is)) tk2) :: (Str.ofString "within", .int (is.length : Nat) tk3) :: (Str.ofString "x", .int x tk4) :: (Str.ofString "mark", .int mk tk5) :: (Str.ofString "y", .int (y : Nat) tk7) :: base5 a b c t u ta tb tc tu tt))
    (hk : mk + sz = ((k + 1 : Nat) : Int)) (hk2 : k < 10000) (hks : (gaps ks).length < 40000) (his : (gaps is).length < 40000) {body : List Stmt} (hb : body = rowBody)
    (hQ : ∀ (fl : Flow) (tk1 tk2 tk3 tk4 tk5 : Tok) (h' : Heap) (tk' : Nat) (m' : Str → Option Value), (fl = if x - 1 < 0 ∧ y % 3 = 0 then .brk else .next) → Fr h₀ L h' m' → News h₀ L h' news →
      Has m' ((Str.ofString "cells", .str (chs (gaps (ks ++ [k]))) tk1) :: (Str.ofString "inner", .str (chs (gaps (is ++ if 0 < x ∧ 0 < y then [k - 1] else []))) tk2) :: (Str.ofString "within", .int ((is ++ if 0 < x ∧ 0 < y then [k - 1] else []).length : Nat) tk3) :: (Str.ofString "x", .int (x - 1) tk4) :: (Str.ofString "mark", .int ((k + 1 : Nat) : Int) tk5) :: (Str.ofString "y", .int (y : Nat) tk7) :: base5 a b c t u ta tb tc tu tt) →
      Q fl { s with heap := h', toks := tk' }) :
    wpAny (model PG w) (lawA dp un gd L fa cd) (execs body (envOf lawN lawScope L fa cd)) Q E s := by
  conv at hb => rhs; whnf
  subst hb
  obtain ⟨B, X, T0⟩ := C
  k_with_none
  k_with "k all" => (first | exact ne_all (by assumption) (by omega) | exact ne_allLt (by assumption) (by omega) | exact ne_allLt (And.right (by assumption)) (by omega) | exact ne_allLt (And.right (And.right (by assumption))) (by omega) | exact ne_allLt (And.right (And.right (And.right (by assumption)))) (by omega) | exact ne_allLt (And.right (And.right (And.right (And.right (by assumption))))) (by omega) | assumption)
  k_with "is list" => (exact News.isList (by assumption) (by k_mem))
  k_with "mul fits" => (first | exact PySem.IntMulOk.of_right (Mine.fit8 (by with_reducible assumption)) | exact PySem.IntMulOk.of_left (Mine.fit8 (by with_reducible assumption)) | exact PySem.IntMulOk.of_left (Mine.fitL (by decide)) | exact PySem.IntMulOk.of_right (Mine.fitL (by decide)))
  k_with "omega" => (first | with_reducible assumption | exact Mine.rl1 (by with_reducible assumption) (by decide) | exact Mine.rl2 (by with_reducible assumption) (by decide) | exact Mine.rl0 (by with_reducible assumption) | decide | (law_clear; law_purse 20000 => lia))
  k_with "inplaceOp Add str str" => (k_here; (refine iadd_chs ?_ (by omega) (by omega)); intro _ _)
  (have HH : PySem.Challenge.rw_sr0069_01.row.prog = PG ∧ Mine.hd.heap_39 = Mine.hd.heap_39 := ⟨rfl, rfl⟩)
  revert HH
  k_fill
  intro HH
  clear HH
  replace F := Fr.known F _ hm
  have hlen : (List.replicate k 32 ++ [9]).length = k + 1 := by simp
  have hlen2 : (List.replicate (k - 1) 32 ++ [9]).length = k - 1 + 1 := by simp
  k_steps
  rename (Fr h₀ L _ _) => kF
  rw [cell_txt, show (mk + sz - 1).toNat = k by omega] at kF ⊢
  have hy3 : (y : Int).fmod 3 = ((y % 3 : Nat) : Int) := by rw [Int.fmod_eq_emod_of_nonneg _ (by decide)]; rfl
  k_steps
  · rename (0 < x) => hx0
    rename (0 < (y : Int)) => hy0
    have hx : 0 < x ∧ 0 < y := ⟨hx0, by omega⟩
    have ei : (is ++ if 0 < x ∧ 0 < y then [k - 1] else []) = is ++ [k - 1] := by rw [if_pos hx]
    have ew : ((is.length : Nat) : Int) + 1 = (((is ++ if 0 < x ∧ 0 < y then [k - 1] else []).length : Nat) : Int) := by rw [ei, List.length_append]; rfl
    refine c_strip (l := List.replicate k 32 ++ [9]) (n := 1) (outer := []) (A₀ := callerA) (base := h₀) ⟨B, X, T0, rfl⟩ (by assumption) (by assumption) (by omega) (by omega) ⟨9, by simp, by decide⟩ (by omega) (by omega) ?_
    intro t3 h3 k3 F3 N3
    rw [strip_cell]
    k_steps
    exact hQ _ _ _ _ _ _ _ _ _ (if_neg (by omega)).symm (by assumption) (by assumption) (.cons (str_val (congrArg chs (gaps_app _ _).symm) rfl) (.cons (str_val (congrArg chs ((congrArg gaps ei).trans (gaps_app _ _)).symm) rfl) (.cons (int_val ew rfl) (.cons rfl (.cons (int_val hk rfl) (.cons rfl (.cons rfl (.cons rfl (.cons rfl (.cons rfl (.cons rfl .nil)))))))))))
  · rename (0 < x) => hx0
    rename (¬ 0 < (y : Int)) => hy0
    have hx : ¬ (0 < x ∧ 0 < y) := fun h => by omega
    have ei : (is ++ if 0 < x ∧ 0 < y then [k - 1] else []) = is := by rw [if_neg hx, List.append_nil]
    have ew : ((is.length : Nat) : Int) = (((is ++ if 0 < x ∧ 0 < y then [k - 1] else []).length : Nat) : Int) := by rw [ei]
    exact hQ _ _ _ _ _ _ _ _ _ (if_neg (by omega)).symm (by assumption) (by assumption) (.cons (str_val (congrArg chs (gaps_app _ _).symm) rfl) (.cons (str_val (congrArg chs (congrArg gaps ei).symm) rfl) (.cons (int_val ew rfl) (.cons rfl (.cons (int_val hk rfl) (.cons rfl (.cons rfl (.cons rfl (.cons rfl (.cons rfl (.cons rfl .nil)))))))))))
  · rename (¬ 0 < x) => hx0
    rename (Int.fmod _ _ = 0) => hy0
    have hx : ¬ (0 < x ∧ 0 < y) := fun h => by omega
    have ei : (is ++ if 0 < x ∧ 0 < y then [k - 1] else []) = is := by rw [if_neg hx, List.append_nil]
    have ew : ((is.length : Nat) : Int) = (((is ++ if 0 < x ∧ 0 < y then [k - 1] else []).length : Nat) : Int) := by rw [ei]
    exact hQ _ _ _ _ _ _ _ _ _ (if_pos (by omega)).symm (by assumption) (by assumption) (.cons (str_val (congrArg chs (gaps_app _ _).symm) rfl) (.cons (str_val (congrArg chs (congrArg gaps ei).symm) rfl) (.cons (int_val ew rfl) (.cons rfl (.cons (int_val hk rfl) (.cons rfl (.cons rfl (.cons rfl (.cons rfl (.cons rfl (.cons rfl .nil)))))))))))
  · rename (¬ 0 < x) => hx0
    rename (Int.fmod _ _ ≠ 0) => hy0
    have hx : ¬ (0 < x ∧ 0 < y) := fun h => by omega
    have ei : (is ++ if 0 < x ∧ 0 < y then [k - 1] else []) = is := by rw [if_neg hx, List.append_nil]
    have ew : ((is.length : Nat) : Int) = (((is ++ if 0 < x ∧ 0 < y then [k - 1] else []).length : Nat) : Int) := by rw [ei]
    exact hQ _ _ _ _ _ _ _ _ _ (if_neg (by omega)).symm (by assumption) (by assumption) (.cons (str_val (congrArg chs (gaps_app _ _).symm) rfl) (.cons (str_val (congrArg chs (congrArg gaps ei).symm) rfl) (.cons (int_val ew rfl) (.cons rfl (.cons (int_val hk rfl) (.cons rfl (.cons rfl (.cons rfl (.cons rfl (.cons rfl (.cons rfl .nil)))))))))))
end
end
section
section
variable {fa : Addr} {w : World} {p : Program} {loose : List Str} {mean : ExcName → Option Value} {mg mb : Str → Option Value} {dp un : Nat} {gd : Option (List Code)} {h₀ : Heap} {L : Addr} {m : Str → Option Value} {cd : Value} {news : List (Addr × Obj)} {s : Shared} {Q : Flow → Shared → Prop} {E : Value → Shared → Prop} {a b c t : Nat} {u : Int} {ta tb tc tu tt : Tok}
theorem AllBareG.push {gens : Array GenState} {x : GenState} (h : AllBareG gens) (hx : x.bare = true) : AllBareG (gens.push x) := by
  intro y hy
  rcases Array.mem_push.mp hy with h1 | rfl
  · exact h y h1
  · exact hx
theorem Fr.keepR {Lg : Addr} {h h' : Heap} (F : Fr h₀ L h m) (k : KeepR Lg h h') (st : StIn h₀ h') (hL : Lg ≠ L) : Fr h₀ L h' m := by
  obtain ⟨⟨o, es, ep, ho, hd, r⟩, _, ab⟩ := F
  refine ⟨⟨o, es, ep, k L o (Ne.symm hL) (fun hi => ?_) ho, hd, r⟩, st, ab⟩
  obtain ⟨_, l, i, e⟩ := hi
  rw [hd] at e; cases e
theorem News.keepR {Lg : Addr} {h h' : Heap} {R : List (Addr × Obj)} (N : News h₀ L h R) (k : KeepR Lg h h') (hR : ∀ q ∈ R, ¬ ItO q.2 ∧ q.1 ≠ Lg) : News h₀ L h' R := fun q hq =>
  ⟨k q.1 q.2 (hR q hq).2 (hR q hq).1 (N q hq).1, (N q hq).2⟩
/-- what the list gl of a generator's objects says of its state -/
def CondOf (h₀ : Heap) (L Lg la Li : Addr) (vals : List Value) (p j : Nat) (R : List (Addr × Obj)) : Prop := ∀ h'', StIn h₀ h'' → News h₀ L h'' R → GCond h₀ Lg la Li vals p j h''
theorem cond_news {Lg la Li : Addr} {vals : List Value} {p j cc : Nat} {h : Heap} {R : List (Addr × Obj)} (G : GCond h₀ Lg la Li vals p j h) (F : Fr h₀ L h m) (N : News h₀ L h R) (hL : Lg ≠ L) (hLg : h₀.objs.size ≤ Lg) (hla : (la, W.listOf vals.toArray cc) ∈ R) :
    ∃ gl, News h₀ L h (gl ++ R) ∧ CondOf h₀ L Lg la Li vals p j (gl ++ R) ∧ ∀ q ∈ gl, q.1 = Lg ∨ q.2.cls = .type "list_iterator" := by
  have f0 : h₀.get? Lg = none := Heap.get?_none_of_le hLg
  have isl : ∀ h'', News h₀ L h'' R → h''.IsList la vals.toArray := fun h'' N' => News.isList N' hla
  have add : ∀ {q : Addr × Obj} {l : List (Addr × Obj)}, News h₀ L h l → h.get? q.1 = some q.2 → q.1 ≠ L → h₀.get? q.1 = none → News h₀ L h (q :: l) := fun Nl e1 e2 e3 q' hq' => by
    rcases List.mem_cons.mp hq' with rfl | hq'
    · exact ⟨e1, e2, e3⟩
    · exact Nl q' hq'
  have drop : ∀ {h'' : Heap} {gl : List (Addr × Obj)}, News h₀ L h'' (gl ++ R) → News h₀ L h'' R := fun N' q hq => N' q (List.mem_append_right _ hq)
  refine opG fun G0 hG0 => ?_
  by_cases h0 : j = 0
  · obtain ⟨st, hl, mg, ⟨o, es, ep, ho, hd, r⟩, hv⟩ := G.new h0
    exact hG0 ⟨[(Lg, o)], add N ho hL f0, fun h'' st' N' => ⟨fun _ => ⟨st', isl _ (drop (gl := [(Lg, o)]) N'), mg, ⟨o, es, ep, (N' _ (.head _)).1, hd, r⟩, hv⟩, fun h => absurd h0 h⟩, List.forall_mem_cons.mpr ⟨.inl rfl, List.forall_mem_nil _⟩⟩
  · obtain ⟨st, hl, ⟨mg, ⟨o, es, ep, ho, hd, r⟩, hv1, hv2⟩, hit⟩ := G.mid h0
    by_cases hj : j ≤ p
    · obtain ⟨⟨oi, hoi, hc, hdi⟩, e1, e2, e3⟩ := hit hj
      have hLiL : Li ≠ L := fun e => by
        obtain ⟨oL, _, _, hoL, hdL, _⟩ := F.ns
        rw [← e, hoi] at hoL
        cases hoL
        rw [hdi] at hdL; cases hdL
      exact hG0 ⟨[(Lg, o), (Li, oi)], add (add N hoi hLiL e1) ho hL f0, fun h'' st' N' => ⟨fun h => absurd h h0, fun _ => ⟨st', isl _ (drop (gl := [(Lg, o), (Li, oi)]) N'), ⟨mg, ⟨o, es, ep, (N' _ (.head _)).1, hd, r⟩, hv1, hv2⟩, fun _ => ⟨⟨oi, (N' _ (.tail _ (.head _))).1, hc, hdi⟩, e1, e2, e3⟩⟩⟩, List.forall_mem_cons.mpr ⟨.inl rfl, List.forall_mem_cons.mpr ⟨.inr hc, List.forall_mem_nil _⟩⟩⟩
    · exact hG0 ⟨[(Lg, o)], add N ho hL f0, fun h'' st' N' => ⟨fun h => absurd h h0, fun _ => ⟨st', isl _ (drop (gl := [(Lg, o)]) N'), ⟨mg, ⟨o, es, ep, (N' _ (.head _)).1, hd, r⟩, hv1, hv2⟩, fun h => absurd h hj⟩⟩, List.forall_mem_cons.mpr ⟨.inl rfl, List.forall_mem_nil _⟩⟩
theorem isGen_of {h : Heap} {ga gi : Nat} {oG : Obj} (hg : h.IsGen ga gi) (he : h.get? ga = some oG) : ∀ h' : Heap, h'.get? ga = some oG → h'.IsGen ga gi := fun h' e' => by
  obtain ⟨o, nm, qn, ho, r⟩ := hg
  rw [he] at ho; cases ho
  exact ⟨_, nm, qn, e', r⟩
/-- the mark before the j-th turn -/
def markAt (a b c t y : Nat) (j : Nat) : Int := if j = 0 then 0 else ((cellAt a b c t y (j - 1) + 1 : Nat) : Int)
def sizeAt (a b c t y : Nat) (j : Nat) : Int := if j = 0 then ((c * lowY a b t y + 1 : Nat) : Int) else ((b * c : Nat) : Int)
theorem mark_size (a b c t y j : Nat) : markAt a b c t y j + sizeAt a b c t y j = ((cellAt a b c t y j + 1 : Nat) : Int) := by
  unfold markAt sizeAt cellAt
  cases j with
  | zero => simp
  | succ j =>
    rw [if_neg (by omega), if_neg (by omega), Nat.add_sub_cancel, Nat.succ_mul]
    push_cast
    omega
theorem inn_step (a b c t y j : Nat) (is : List Nat) : (is ++ innTo a b c t y j) ++ (if 0 < ((mostY a b t y : Nat) : Int) - j ∧ 0 < y then [cellAt a b c t y j - 1] else []) = is ++ innTo a b c t y (j + 1) := by
  rw [innTo_succ, List.append_assoc]
  congr 2
  by_cases h : 0 < y ∧ j < mostY a b t y
  · rw [if_pos h, if_pos (by omega)]
  · rw [if_neg h, if_neg (by omega)]
abbrev rowHas (ks is : List Nat) (x mk : Int) (y : Nat) (k1 k2 k3 k4 k5 k6 : Tok) (bs : List (Str × Value)) : List (Str × Value) := (Str.ofString "cells", .str (chs (gaps ks)) k1) :: (Str.ofString "inner", .str (chs (gaps is)) k2) :: (Str.ofString "within", .int (is.length : Nat) k3) :: (Str.ofString "x", .int x k4) :: (Str.ofString "mark", .int mk k5) :: (Str.ofString "y", .int (y : Nat) k6) :: bs
theorem row_loop {la : Addr} {vals : List Value} {xs : List Int} {pp cc y : Nat} {ks is : List Nat} {rest : List (Addr × Obj)} {k1 k2 k3 k4 k5 k6 : Tok} (C : LawCtx w p loose mean mg mb h₀) (F : Fr h₀ L s.heap m) (N : News h₀ L s.heap ((la, W.listOf vals.toArray cc) :: rest)) (hrest : ∀ q ∈ rest, ¬ ItO q.2) (hbare : AllBareG s.gens) (hdp : dp + 200 < recursionLimit) (hun : un + 2000 < cLine)
    (hI : Items vals xs pp) (hout : pp = xs.length ∨ xs[pp]? = some 127 ∨ (xs[pp]? = some 0 ∧ 0 < pp)) (hv : ∀ j, j ≤ mostY a b t y → ∃ tk, outv vals pp j = .int (sizeAt a b c t y j) tk)
    (hz : (y % 3 = 0 ∧ xs[pp]? = some 0) ∨ (y % 3 ≠ 0 ∧ pp = mostY a b t y + 1 ∧ xs[pp]? ≠ some 0))
    (hm : Has m ((Str.ofString "sizes", .ref la) :: rowHas ks is (mostY a b t y : Nat) 0 y k1 k2 k3 k4 k5 k6 (base5 a b c t u ta tb tc tu tt)))
    (hcell : ∀ j, j ≤ mostY a b t y → cellAt a b c t y j < 10000) (hks : ∀ j, j ≤ mostY a b t y → (gaps (ks ++ rowTo a b c t y j)).length < 40000) (his : ∀ j, j ≤ mostY a b t y → (gaps (is ++ innTo a b c t y j)).length < 40000)
    {st : Stmt} (hb : st = rowFor)
    (hQ : ∀ (k1 k2 k3 k4 k5 : Tok) (h' : Heap) (tk' : Nat) (gens' : Array GenState) (mk : Int) (m' : Str → Option Value), AllBareG gens' → Fr h₀ L h' m' → News h₀ L h' rest →
      Has m' (rowHas (ks ++ rowTo a b c t y (mostY a b t y + 1)) (is ++ innTo a b c t y (mostY a b t y + 1)) (-1) mk y k1 k2 k3 k4 k5 k6 (base5 a b c t u ta tb tc tu tt)) →
      Q .next { s with heap := h', toks := tk', gens := gens' }) :
    wpAny (model PG w) (lawA dp un gd L fa cd) (exec st (envOf lawN lawScope L fa cd)) Q E s := by
  conv at hb => rhs; whnf
  subst hb
  obtain ⟨B, X, T0⟩ := C
  k_with_none
  k_with "k all" => (first | exact ne_all (by assumption) (by omega) | exact ne_allLt (by assumption) (by omega) | exact ne_allLt (And.right (by assumption)) (by omega) | exact ne_allLt (And.right (And.right (by assumption))) (by omega) | exact ne_allLt (And.right (And.right (And.right (by assumption)))) (by omega) | exact ne_allLt (And.right (And.right (And.right (And.right (by assumption))))) (by omega) | assumption)
  k_with "is list" => (exact News.isList (by assumption) (by k_mem))
  k_with "mul fits" => (first | exact PySem.IntMulOk.of_right (Mine.fit8 (by with_reducible assumption)) | exact PySem.IntMulOk.of_left (Mine.fit8 (by with_reducible assumption)) | exact PySem.IntMulOk.of_left (Mine.fitL (by decide)) | exact PySem.IntMulOk.of_right (Mine.fitL (by decide)))
  k_with "omega" => (first | with_reducible assumption | exact Mine.rl1 (by with_reducible assumption) (by decide) | exact Mine.rl2 (by with_reducible assumption) (by decide) | exact Mine.rl0 (by with_reducible assumption) | decide | (law_clear; law_purse 20000 => lia))
  k_with "exec For Name Call cons nil" => (k_here; refine halt ?_)
  (have HH : PySem.Challenge.rw_sr0069_01.row.prog = PG ∧ Mine.hd.heap_39 = Mine.hd.heap_39 := ⟨rfl, rfl⟩)
  revert HH
  k_fill
  intro HH
  clear HH
  have F0 := F
  replace F := Fr.known F _ hm
  refine wpAny_For ?_
  k_steps
  generalize hmo : mostY a b t y = most at *
  refine c_gen (outer := []) (A₀ := callerA) (base := h₀) ⟨B, X, T0, rfl⟩ F0 N (by omega) ?_
  intro Lg ga oL oG h1 k9 cd9 body9 hb9 F1 N1 hns1 hg1 l1 l2 l3 d1
  have hLa : Lg ≠ la := Ne.symm (Nat.ne_of_lt (l1 _ (.head _)))
  have hLgL : Lg ≠ L := (N1 (Lg, oL) (.tail _ (.head _))).2.1
  have hgaE := (N1 (ga, oG) (.head _)).1
  have hga := isGen_of hg1 hgaE
  obtain ⟨R, hR⟩ : ∃ R, R = (ga, oG) :: (la, W.listOf vals.toArray cc) :: rest := ⟨_, rfl⟩
  have hRit : ∀ q ∈ R, ¬ ItO q.2 ∧ q.1 ≠ Lg := fun q hq => by
    rw [hR] at hq
    rcases List.mem_cons.mp hq with rfl | hq
    · exact ⟨fun h => d1 h.1, Nat.ne_of_gt l2⟩
    · rcases List.mem_cons.mp hq with rfl | hq
      · exact ⟨fun h => (show Value.type "list" ≠ .type "list_iterator" by decide) h.1, Ne.symm hLa⟩
      · exact ⟨hrest q hq, Nat.ne_of_lt (l1 q (.tail _ hq))⟩
  have hlaR : (la, W.listOf vals.toArray cc) ∈ R := by rw [hR]; exact .tail _ (.head _)
  have hgaR : (ga, oG) ∈ R := by rw [hR]; exact .head _
  have hrR : ∀ q ∈ rest, q ∈ R := fun q hq => by rw [hR]; exact .tail _ (.tail _ hq)
  have N1R : News h₀ L h1 R := News.sub N1 (fun q hq => by
    rw [hR] at hq
    rcases List.mem_cons.mp hq with rfl | hq
    · exact .head _
    · exact .tail _ (.tail _ hq))
  have G1 : GCond h₀ Lg la 0 vals pp 0 h1 := ⟨fun _ => ⟨F1.keep, News.isList N1R hlaR, hns1⟩, fun h => absurd rfl h⟩
  refine opG fun G0 hG0 => ?_
  obtain ⟨gl1, Ng1, Cg1, _⟩ := cond_news G1 F1 N1R hLgL l3 hlaR
  refine hG0 ?_
  clear hG0
  have hrd : GReady w (lawA dp un gd L fa cd).in1 h₀ Lg la vals xs pp (most + 2) 0 0 (.fresh (.func body9 (envOf gName gScope Lg 28 cd9))) := GReady.new T0 X hb9 rfl l3 hI hout hLa (by omega)
  refine wpAny_pyIter_gen hg1 ?_
  refine opq (A := fun I : Nat → Shared → Prop => ∀ (n : Nat), ∀ (j Li : Nat) (gs : GenState) (gl : List (Addr × Obj)) (h' : Heap) (tk' : Nat) (gens' : Array GenState) (m' : Str → Option Value) (k1 k2 k3 k4 k5 : Tok), (n + j = most + 1) → (y % 3 = 0 → j ≤ most) → (AllBareG gens') → (gens'[s.gens.size]? = some gs) → (GReady w (lawA dp un gd L fa cd).in1 h₀ Lg la vals xs pp (most + 2) Li j gs) → (CondOf h₀ L Lg la Li vals pp j (gl ++ R)) → (Fr h₀ L h' m') → (News h₀ L h' (gl ++ R)) → (Has m' (rowHas (ks ++ rowTo a b c t y j) (is ++ innTo a b c t y j) ((most : Int) - j) (markAt a b c t y j) y k1 k2 k3 k4 k5 k6 (base5 a b c t u ta tb tc tu tt))) → I n ({ s with heap := h', toks := tk', gens := gens' })) (B := fun I => ∀ (n : Nat) (GG : Shared → Prop), (∀ (j Li : Nat) (gs : GenState) (gl : List (Addr × Obj)) (h' : Heap) (tk' : Nat) (gens' : Array GenState) (m' : Str → Option Value) (k1 k2 k3 k4 k5 : Tok), (n + j = most + 1) → (y % 3 = 0 → j ≤ most) → (AllBareG gens') → (gens'[s.gens.size]? = some gs) → (GReady w (lawA dp un gd L fa cd).in1 h₀ Lg la vals xs pp (most + 2) Li j gs) → (CondOf h₀ L Lg la Li vals pp j (gl ++ R)) → (Fr h₀ L h' m') → (News h₀ L h' (gl ++ R)) → (Has m' (rowHas (ks ++ rowTo a b c t y j) (is ++ innTo a b c t y j) ((most : Int) - j) (markAt a b c t y j) y k1 k2 k3 k4 k5 k6 (base5 a b c t u ta tb tc tu tt))) → GG ({ s with heap := h', toks := tk', gens := gens' })) → ∀ (i0 : Shared), I n i0 → GG i0) (fun n i0 => ∀ GG : Shared → Prop, (∀ (j Li : Nat) (gs : GenState) (gl : List (Addr × Obj)) (h' : Heap) (tk' : Nat) (gens' : Array GenState) (m' : Str → Option Value) (k1 k2 k3 k4 k5 : Tok), (n + j = most + 1) → (y % 3 = 0 → j ≤ most) → (AllBareG gens') → (gens'[s.gens.size]? = some gs) → (GReady w (lawA dp un gd L fa cd).in1 h₀ Lg la vals xs pp (most + 2) Li j gs) → (CondOf h₀ L Lg la Li vals pp j (gl ++ R)) → (Fr h₀ L h' m') → (News h₀ L h' (gl ++ R)) → (Has m' (rowHas (ks ++ rowTo a b c t y j) (is ++ innTo a b c t y j) ((most : Int) - j) (markAt a b c t y j) y k1 k2 k3 k4 k5 k6 (base5 a b c t u ta tb tc tu tt))) → GG ({ s with heap := h', toks := tk', gens := gens' })) → GG i0) (fun n j Li gs gl h' tk' gens' m' k1 k2 k3 k4 k5 hh0 hh1 hh2 hh3 hh4 hh5 hh6 hh7 hh8 GG gg => gg j Li gs gl h' tk' gens' m' k1 k2 k3 k4 k5 hh0 hh1 hh2 hh3 hh4 hh5 hh6 hh7 hh8) (fun n GG gg i0 hh => hh GG gg) (fun I iI eI => ?_)
  refine forLoop_ruleP I (most + 1) ?_ ?_
  · refine iI _ 0 0 _ gl1 _ _ _ _ k1 k2 k3 k4 k5 rfl (fun _ => Nat.zero_le _) (hbare.push rfl) Array.getElem?_push_size hrd Cg1 F1 Ng1 ?_
    have e1 : ks ++ rowTo a b c t y 0 = ks := List.append_nil _
    have e2 : is ++ innTo a b c t y 0 = is := List.append_nil _
    have e3 : ((most : Int) - ((0 : Nat) : Int)) = (most : Int) := by omega
    rw [e1, e2, e3]
    exact fun q hq => hm q (.tail _ hq)
  · intro n
    refine eI n _ (fun j Li gs gl h' tk' gens' m' k1 k2 k3 k4 k5 hn hjz hb hgs hrd hC F2 N2 hm2 => ?_)
    intro E' P hnext hbrk hrv
    have N2R : News h₀ L h' R := fun q hq => N2 q (List.mem_append_right _ hq)
    have G2 := hC h' F2.keep N2
    have hjm : y % 3 ≠ 0 → j ≠ most + 1 → j ≤ most := fun _ _ => by omega
    refine c_next T0 (s := { s with heap := h', toks := tk', gens := gens' }) rfl (by show dp < recursionLimit; omega) (N := most + 2) (by omega) (hga h' (N2R _ hgaR).1) hgs hb hrd G2 ?_ ?_
    · intro h3 tk3 gens3 gs3 Li3 hgo kr3 G3 hb3 hgs3 hrd3
      have hjle : j ≤ most := by
        rcases hz with ⟨z1, z2⟩ | ⟨z1, z2, z3⟩
        · exact hjz z1
        · rcases hgo with h | h
          · omega
          · exact absurd h z3
      have F3 := Fr.keepR F2 kr3 G3.stays hLgL
      have N3 := News.keepR N2R kr3 hRit
      refine opG fun G0 hG0 => ?_
      obtain ⟨gl3, Ng3, Cg3, _⟩ := cond_news G3 F3 N3 hLgL l3 hlaR
      obtain ⟨tz, etz⟩ := hv j hjle
      refine hG0 ?_
      clear hG0
      rw [etz]
      refine stN (s := { s with heap := h3, toks := tk3, gens := gens3 }) F3 Ng3 (fun h4 F4 N4 => ?_)
      have hm4 := Has.put (v := .int (sizeAt a b c t y j) tz) (x := Str.ofString "size") hm2 (by kernel_rfl)
      refine row_turn (s := { s with heap := h4, toks := tk3 + 1, gens := gens3 }) ⟨B, X, T0⟩ F4 N4 (by omega) (by omega) hm4 (mark_size a b c t y j) (hcell j hjle) (hks j hjle) (his j hjle) ?hb9 ?_
      case hb9 => rfl
      intro fl k1 k2 k3 k4 k5 h5 tk5 m5 hfl F5 N5 hm5
      rw [← hmo, inn_step, List.append_assoc] at hm5
      rw [hfl]
      by_cases hend : ((mostY a b t y : Nat) : Int) - j - 1 < 0 ∧ y % 3 = 0
      · rw [hmo] at hend
        rw [if_pos hend]
        have hjm : j = most := by omega
        have e4 : ((mostY a b t y : Nat) : Int) - j - 1 = -1 := by omega
        rw [e4, hjm] at hm5
        exact hbrk _ (hQ k1 k2 k3 k4 k5 h5 tk5 gens3 _ m5 hb3 F5 (fun q hq => N5 q (List.mem_append_right _ (hrR q hq))) hm5)
      · rw [hmo] at hend
        rw [if_neg hend]
        have e4 : ((mostY a b t y : Nat) : Int) - j - 1 = (most : Int) - ((j + 1 : Nat) : Int) := by omega
        rw [e4] at hm5
        exact hnext (most - j) _ (by omega) (iI _ (j + 1) Li3 gs3 gl3 h5 tk5 gens3 m5 k1 k2 k3 k4 k5 (by omega) (fun _ => by omega) hb3 hgs3 (hrd3 (by omega)) Cg3 F5 N5 hm5)
    · intro hjp hq h3 tk3 gens3 kr3 st3 hb3
      have hzz : y % 3 ≠ 0 ∧ pp = most + 1 := by
        rcases hz with ⟨z1, z2⟩ | ⟨z1, z2, z3⟩
        · exfalso
          rcases hq with h | h
          · rw [List.getElem?_eq_none (by omega)] at z2; cases z2
          · rw [h] at z2; cases z2
        · exact ⟨z1, z2⟩
      have hjm : j = most + 1 := by omega
      rw [hjm] at hm2
      have F3 := Fr.keepR F2 kr3 st3 hLgL
      have N3 := News.keepR N2R kr3 hRit
      have e4 : ((most : Nat) : Int) - ((most + 1 : Nat) : Int) = -1 := by omega
      rw [e4] at hm2
      exact hQ k1 k2 k3 k4 k5 h3 tk3 gens3 _ m' hb3 F3 (fun q hq => N3 q (hrR q hq)) hm2
end
end
section
section
variable {fa : Addr} {w : World} {p : Program} {loose : List Str} {mean : ExcName → Option Value} {mg mb : Str → Option Value} {dp un : Nat} {gd : Option (List Code)} {h₀ : Heap} {L : Addr} {m : Str → Option Value} {cd : Value} {rest : List (Addr × Obj)} {s : Shared} {Q : Flow → Shared → Prop} {E : Value → Shared → Prop} {a b c t : Nat} {u : Int} {ta tb tc tu tt : Tok}
abbrev yHas (ks is : List Nat) (y : Nat) (k1 k2 k3 k6 : Tok) (bs : List (Str × Value)) : List (Str × Value) := (Str.ofString "y", .int (y : Nat) k6) :: (Str.ofString "cells", .str (chs (gaps ks)) k1) :: (Str.ofString "inner", .str (chs (gaps is)) k2) :: (Str.ofString "within", .int (is.length : Nat) k3) :: bs
theorem mostY_int {a b t y : Nat} (hy : y ≤ t * b) : ((a : Int) * ((t : Int) * b - y)).fdiv b = (mostY a b t y : Nat) ∧ ((a : Int) * ((t : Int) * b - y)).fmod b = (lowY a b t y : Nat) := by
  have e : (a : Int) * ((t : Int) * b - y) = ((a * (t * b - y) : Nat) : Int) := by
    rw [Int.natCast_mul, Int.natCast_sub hy, Int.natCast_mul]
  rw [e, Int.fdiv_eq_ediv_of_nonneg _ (Int.natCast_nonneg b), Int.fmod_eq_emod_of_nonneg _ (Int.natCast_nonneg b)]
  exact ⟨rfl, rfl⟩
theorem mostY_le {a b t y : Nat} (b0 : 0 < b) : mostY a b t y ≤ a * t := by
  unfold mostY
  refine (Nat.div_le_iff_le_mul_add_pred b0).mpr ?_
  have h := Nat.mul_le_mul_left a (Nat.sub_le (t * b) y)
  have e : a * (t * b) = b * (a * t) := by rw [← Nat.mul_assoc, Nat.mul_comm]
  omega
theorem lowY_lt {a b t y : Nat} (b0 : 0 < b) : lowY a b t y < b := Nat.mod_lt _ b0
theorem outv_int {vals : List Value} {xs : List Int} {pp : Nat} (hI : IntsAre vals xs) (hp : 0 < pp) (hle : pp ≤ xs.length) (j : Nat) : ∃ tk, outv vals pp j = .int (xs.getD (if j < pp then j else pp - 1) 0) tk := by
  have key : ∀ i, i < pp → ∃ tk, vals.getD i .none = .int (xs.getD i 0) tk := fun i hi => by
    have hx : xs[i]? = some xs[i] := List.getElem?_eq_getElem (by omega)
    obtain ⟨tk, ht⟩ := IntsAre.get hI i _ hx
    exact ⟨tk, by rw [List.getD_eq_getElem?_getD, ht, List.getD_eq_getElem?_getD, hx]; rfl⟩
  unfold outv
  split
  · exact key j (by assumption)
  · exact key (pp - 1) (by omega)
theorem Items.of {vals : List Value} {xs : List Int} {pp : Nat} (hI : IntsAre vals xs) (hle : pp ≤ xs.length) (hlen : xs.length < 100000) (hgo : ∀ i < pp, 0 < xs.getD i 0 ∧ xs.getD i 0 < 127) : Items vals xs pp := by
  refine ⟨hI, hle, fun i x hi hx => ?_, hlen⟩
  have h := hgo i hi
  rw [List.getD_eq_getElem?_getD, hx] at h
  have h' : 0 < x ∧ x < 127 := h
  omega
/-- the steps of a row, by turns -/
theorem steps_at (v d : Int) (n : Nat) (l : List Int) (i : Nat) (hi : i ≤ n) : ([v] ++ (List.replicate n d ++ l)).getD i 0 = if i = 0 then v else d := by
  cases i with
  | zero => rfl
  | succ i =>
    rw [if_neg (Nat.succ_ne_zero i)]
    show (List.replicate n d ++ l).getD i 0 = d
    rw [List.getD_eq_getElem?_getD, List.getElem?_append_left (by simp; omega), List.getElem?_replicate, if_pos (by omega)]
    rfl
theorem y_tail {y : Nat} {ks is : List Nat} {mk : Int} {k1 k2 k3 k4 k5 k6 : Tok} (C : LawCtx w p loose mean mg mb h₀) (F : Fr h₀ L s.heap m) (N : News h₀ L s.heap rest)
    (hm : Has m (rowHas ks is (-1) mk y k1 k2 k3 k4 k5 k6 (base5 a b c t u ta tb tc tu tt)))
    {body : List Stmt} (hb : body = yBody.drop 6)
    (hQ : ∀ (h' : Heap) (tk' : Nat) (m' : Str → Option Value), Fr h₀ L h' m' → News h₀ L h' rest → Has m' (yHas ks is y k1 k2 k3 k6 (base5 a b c t u ta tb tc tu tt)) → Q .next { s with heap := h', toks := tk' }) :
    wpAny (model PG w) (lawA dp un gd L fa cd) (execs body (envOf lawN lawScope L fa cd)) Q E s := by
  conv at hb => rhs; whnf
  subst hb
  obtain ⟨B, X, T0⟩ := C
  k_with_none
  k_with "k all" => (first | exact ne_all (by assumption) (by omega) | exact ne_allLt (by assumption) (by omega) | exact ne_allLt (And.right (by assumption)) (by omega) | exact ne_allLt (And.right (And.right (by assumption))) (by omega) | exact ne_allLt (And.right (And.right (And.right (by assumption)))) (by omega) | exact ne_allLt (And.right (And.right (And.right (And.right (by assumption))))) (by omega) | assumption)
  k_with "is list" => (exact News.isList (by assumption) (by k_mem))
  k_with "mul fits" => (first | exact PySem.IntMulOk.of_right (Mine.fit8 (by with_reducible assumption)) | exact PySem.IntMulOk.of_left (Mine.fit8 (by with_reducible assumption)) | exact PySem.IntMulOk.of_left (Mine.fitL (by decide)) | exact PySem.IntMulOk.of_right (Mine.fitL (by decide)))
  k_with "omega" => (first | with_reducible assumption | exact Mine.rl1 (by with_reducible assumption) (by decide) | exact Mine.rl2 (by with_reducible assumption) (by decide) | exact Mine.rl0 (by with_reducible assumption) | decide | (law_clear; law_purse 20000 => lia))
  k_with "exec For Name Call cons nil" => (k_here; refine halt ?_)
  (have HH : PySem.Challenge.rw_sr0069_01.row.prog = PG ∧ Mine.hd.heap_39 = Mine.hd.heap_39 := ⟨rfl, rfl⟩)
  revert HH
  k_fill
  intro HH
  clear HH
  replace F := Fr.known F _ hm
  k_steps
  all_goals exact hQ _ _ _ (by assumption) (by assumption) (.cons rfl (.cons rfl (.cons rfl (.cons rfl (.cons rfl (.cons rfl (.cons rfl (.cons rfl (.cons rfl .nil)))))))))
theorem y_turn {y : Nat} {ks is : List Nat} {k1 k2 k3 k6 : Tok} (C : LawCtx w p loose mean mg mb h₀) (F : Fr h₀ L s.heap m) (N : News h₀ L s.heap rest) (hrest : ∀ q ∈ rest, ¬ ItO q.2) (hbare : AllBareG s.gens) (hdp : dp + 200 < recursionLimit) (hun : un + 2000 < cLine) (hL : Legs a b c t) (hy : y ≤ t * b)
    (hm : Has m (yHas ks is y k1 k2 k3 k6 (base5 a b c t u ta tb tc tu tt)))
    (hks : ∀ j, j ≤ mostY a b t y → (gaps (ks ++ rowTo a b c t y j)).length < 40000) (his : ∀ j, j ≤ mostY a b t y → (gaps (is ++ innTo a b c t y j)).length < 40000)
    {body : List Stmt} (hb : body = yBody)
    (hQ : ∀ (k1 k2 k3 : Tok) (h' : Heap) (tk' : Nat) (gens' : Array GenState) (m' : Str → Option Value), AllBareG gens' → Fr h₀ L h' m' → News h₀ L h' rest →
      Has m' (yHas (ks ++ rowTo a b c t y (mostY a b t y + 1)) (is ++ innTo a b c t y (mostY a b t y + 1)) y k1 k2 k3 k6 (base5 a b c t u ta tb tc tu tt)) →
      Q .next { s with heap := h', toks := tk', gens := gens' }) :
    wpAny (model PG w) (lawA dp un gd L fa cd) (execs body (envOf lawN lawScope L fa cd)) Q E s := by
  conv at hb => rhs; whnf
  subst hb
  obtain ⟨a0, a8, b0, b8, c0, c8, t0, t7, hab, habc, hsm⟩ := hL
  obtain ⟨B, X, T0⟩ := C
  k_with_none
  k_with "k all" => (first | exact ne_all (by assumption) (by omega) | exact ne_allLt (by assumption) (by omega) | exact ne_allLt (And.right (by assumption)) (by omega) | exact ne_allLt (And.right (And.right (by assumption))) (by omega) | exact ne_allLt (And.right (And.right (And.right (by assumption)))) (by omega) | exact ne_allLt (And.right (And.right (And.right (And.right (by assumption))))) (by omega) | assumption)
  k_with "is list" => (exact News.isList (by assumption) (by k_mem))
  k_with "mul fits" => (first | exact PySem.IntMulOk.of_right (Mine.fit8 (by with_reducible assumption)) | exact PySem.IntMulOk.of_left (Mine.fit8 (by with_reducible assumption)) | exact PySem.IntMulOk.of_left (Mine.fitL (by decide)) | exact PySem.IntMulOk.of_right (Mine.fitL (by decide)))
  k_with "omega" => (first | with_reducible assumption | exact Mine.rl1 (by with_reducible assumption) (by decide) | exact Mine.rl2 (by with_reducible assumption) (by decide) | exact Mine.rl0 (by with_reducible assumption) | decide | (law_clear; law_purse 20000 => lia))
  k_with "exec For Name Call cons nil" => (k_here; refine halt ?_)
  (have HH : PySem.Challenge.rw_sr0069_01.row.prog = PG ∧ Mine.hd.heap_39 = Mine.hd.heap_39 := ⟨rfl, rfl⟩)
  revert HH
  k_fill
  intro HH
  clear HH
  replace F := Fr.known F _ hm
  have hbn : (b : Int) ≠ 0 := by omega
  have hyi := mostY_int (a := a) hy
  have hmle : mostY a b t y ≤ 6 * 7 := Nat.le_trans (mostY_le b0) (Nat.le_trans (Nat.mul_le_mul (Nat.le_of_lt_succ a8) (Nat.le_of_lt_succ t7)) (by decide))
  have hlow := lowY_lt (a := a) (t := t) (y := y) b0
  k_steps
  rename (Fr h₀ L _ _) => kF
  rename (News h₀ L _ _) => kN
  have hz24 := hyi
  have q1 := hz24.1
  have q2 := hz24.2
  rename (IntsAre (List.flatten _) _) => hI1
  rename (IntsAre _ (_ ++ [127, 1])) => hI2
  rw [q1] at kF kN hI1 hI2
  rw [q2] at kF kN
  rw [List.flatten_replicate_singleton, Int.toNat_natCast] at kN hI2
  rw [List.flatten_replicate_singleton, Int.toNat_natCast, List.flatten_replicate_singleton] at hI1
  have hl1 := IntsAre.length hI1
  have hl2 := IntsAre.length hI2
  rw [List.length_replicate] at hl1
  rw [List.length_append, List.length_replicate] at hl2
  have hcl : (c : Int) * (lowY a b t y : Nat) ≤ 7 * 6 := Int.mul_le_mul (by omega) (by omega) (by omega) (by omega)
  have hcl0 : 0 ≤ (c : Int) * (lowY a b t y : Nat) := Int.mul_nonneg (by omega) (by omega)
  have hbc : (b : Int) * c ≤ 7 * 7 := Int.mul_le_mul (by omega) (by omega) (by omega) (by omega)
  have hbc0 : 0 < (b : Int) * c := Int.mul_pos (by omega) (by omega)
  have hcell : ∀ j, j ≤ mostY a b t y → cellAt a b c t y j < 10000 := fun j hj => by
    have h1 : c * lowY a b t y ≤ 7 * 6 := Nat.mul_le_mul (by omega) (by omega)
    have h2 : b * c ≤ 7 * 7 := Nat.mul_le_mul (by omega) (by omega)
    have h3 : j * (b * c) ≤ 42 * 49 := Nat.mul_le_mul (by omega) h2
    unfold cellAt
    omega
  have sizeAt_eq : ∀ j, sizeAt a b c t y j = if j = 0 then (c : Int) * (lowY a b t y : Nat) + 1 else (b : Int) * c := fun j => by
    unfold sizeAt
    push_cast
    rfl
  have hy3 : (y : Int).fmod 3 = ((y % 3 : Nat) : Int) := by rw [Int.fmod_eq_emod_of_nonneg _ (by decide)]; rfl
  have hy4 : y % 3 = 0 ∨ y % 3 = 1 ∨ y % 3 = 2 := by omega
  rw [hy3]
  rcases hy4 with hz | hz | hz
  · rw [hz, Int.natCast_zero]
    k_steps
    unfold Halt
    rename (Fr h₀ L _ _) => kF
    rename (News h₀ L _ _) => kN
    have hsz : ∀ j, j ≤ mostY a b t y → ([(c : Int) * (lowY a b t y : Nat) + 1, (b : Int) * c, 0] : List Int).getD (if j < 2 then j else 2 - 1) 0 = sizeAt a b c t y j := fun j _ => by
      rw [sizeAt_eq]
      rcases j with _ | _ | j
      · rfl
      · rfl
      · rw [if_neg (by omega)]; rfl
    refine' row_loop (s := ⟨_, s.gens, _, _, _⟩) (xs := [(c : Int) * (lowY a b t y : Nat) + 1, (b : Int) * c, 0]) (pp := 2) ⟨B, X, T0⟩ kF ?hN hrest hbare hdp hun ?hI (.inr (.inr ⟨rfl, by decide⟩)) ?hv (.inl ⟨hz, rfl⟩) ?hmR hcell hks his ?hb9 ?fin
    case hmR => exact .cons rfl (.cons rfl (.cons rfl (.cons rfl (.cons rfl (.cons rfl (.cons rfl (.cons rfl (.cons rfl (.cons rfl (.cons rfl (.cons rfl .nil)))))))))))
    case hN => exact News.sub (l' := (_, W.listOf [_, _, _].toArray _) :: rest) kN (fun q hq => (List.mem_cons.mp hq).elim (fun e => e ▸ .head _) fun hq => by repeat (first | exact hq | apply List.Mem.tail))
    case hI =>
      refine Items.of (.cons _ _ (.cons _ _ (.cons _ _ .nil))) (by simp) (by simp) ?_
      intro i hi
      rcases i with _ | _ | i
      · exact ⟨by show (0:Int) < c * (lowY a b t y : Nat) + 1; omega, by show (c : Int) * (lowY a b t y : Nat) + 1 < 127; omega⟩
      · exact ⟨by show (0:Int) < b * c; omega, by show (b : Int) * c < 127; omega⟩
      · omega
    case hv =>
      intro j hj
      obtain ⟨tk, e⟩ := outv_int (pp := 2) (xs := [(c : Int) * (lowY a b t y : Nat) + 1, (b : Int) * c, 0]) (.cons _ _ (.cons _ _ (.cons _ _ .nil))) (by decide) (by simp) j
      exact ⟨tk, by rw [e, hsz j hj]⟩
    case hb9 => rfl
    intro k1 k2 k3 k4 k5 h5 tk5 gens5 mk m5 hb5 F5 N5 hm5
    refine y_tail (s := { s with heap := h5, toks := tk5, gens := gens5 }) ⟨B, X, T0⟩ F5 N5 hm5 ?hb9 ?_
    case hb9 => rfl
    intro h6 tk6 m6 F6 N6 hm6
    exact hQ k1 k2 k3 h6 tk6 gens5 m6 hb5 F6 N6 hm6
  · rw [hz, show ((1 : Nat) : Int) = 1 from rfl]
    k_steps
    unfold Halt
    rename (Fr h₀ L _ _) => kF
    rename (News h₀ L _ _) => kN
    rename (IntsAre _ ([(c : Int) * (lowY a b t y : Nat) + 1] ++ _)) => hI3
    obtain ⟨xs1, hx1⟩ : ∃ x, x = ([(c : Int) * (lowY a b t y : Nat) + 1] ++ (List.replicate (mostY a b t y) ((b : Int) * c) ++ [127, 1])) := ⟨_, rfl⟩
    rw [← hx1] at hI3
    have hlx : xs1.length = mostY a b t y + 3 := by rw [hx1]; simp
    have hxp : xs1[mostY a b t y + 1]? = some 127 := by rw [hx1]; simp [List.getElem?_append]
    have hat : ∀ i, i < mostY a b t y + 1 → xs1.getD i 0 = sizeAt a b c t y i := fun i hi => by
      rw [sizeAt_eq, hx1]
      exact steps_at _ _ _ [127, 1] i (by omega)
    refine' row_loop (s := ⟨_, s.gens, _, _, _⟩) (xs := xs1) (pp := mostY a b t y + 1) ⟨B, X, T0⟩ kF ?hNA hrest hbare hdp hun ?hIA (.inr (.inl ?hoA)) ?hvA (.inr ⟨by omega, rfl, by rw [hxp]; decide⟩) ?hmRA hcell hks his ?hb9A ?finA
    case hmRA => exact .cons rfl (.cons rfl (.cons rfl (.cons rfl (.cons rfl (.cons rfl (.cons rfl (.cons rfl (.cons rfl (.cons rfl (.cons rfl (.cons rfl .nil)))))))))))
    case hNA => exact News.sub (l' := (_, W.listOf (List.toArray _) _) :: rest) kN (fun q hq => (List.mem_cons.mp hq).elim (fun e => e ▸ .head _) fun hq => by repeat (first | exact hq | apply List.Mem.tail))
    case hoA => exact hxp
    case hIA =>
      refine Items.of hI3 (by omega) (by omega) ?_
      intro i hi
      rw [hat i hi, sizeAt_eq]
      split <;> omega
    case hvA =>
      intro j hj
      obtain ⟨tk, e⟩ := outv_int (pp := mostY a b t y + 1) hI3 (by omega) (by omega) j
      exact ⟨tk, by rw [e, if_pos (by omega), hat j (by omega)]⟩
    case hb9A => rfl
    intro k1 k2 k3 k4 k5 h5 tk5 gens5 mk m5 hb5 F5 N5 hm5
    refine y_tail (s := { s with heap := h5, toks := tk5, gens := gens5 }) ⟨B, X, T0⟩ F5 N5 hm5 ?hb9A ?_
    case hb9A => rfl
    intro h6 tk6 m6 F6 N6 hm6
    exact hQ k1 k2 k3 h6 tk6 gens5 m6 hb5 F6 N6 hm6
  · rw [hz, show ((2 : Nat) : Int) = 2 from rfl]
    k_steps
    unfold Halt
    rename (Fr h₀ L _ _) => kF
    rename (News h₀ L _ _) => kN
    rename (IntsAre _ ([(c : Int) * (lowY a b t y : Nat) + 1] ++ _)) => hI3
    obtain ⟨xs1, hx1⟩ : ∃ x, x = ([(c : Int) * (lowY a b t y : Nat) + 1] ++ List.replicate (mostY a b t y) ((b : Int) * c)) := ⟨_, rfl⟩
    rw [← hx1] at hI3
    have hlx : xs1.length = mostY a b t y + 1 := by rw [hx1]; simp
    have hxp : xs1[mostY a b t y + 1]? = none := List.getElem?_eq_none (by omega)
    have hat : ∀ i, i < mostY a b t y + 1 → xs1.getD i 0 = sizeAt a b c t y i := fun i hi => by
      rw [sizeAt_eq, hx1]
      exact (show _ = _ by have h := steps_at ((c : Int) * (lowY a b t y : Nat) + 1) ((b : Int) * c) (mostY a b t y) [] i (by omega); rwa [List.append_nil] at h)
    refine' row_loop (s := ⟨_, s.gens, _, _, _⟩) (xs := xs1) (pp := mostY a b t y + 1) ⟨B, X, T0⟩ kF ?hNB hrest hbare hdp hun ?hIB (.inl ?hoB) ?hvB (.inr ⟨by omega, rfl, by rw [hxp]; decide⟩) ?hmRB hcell hks his ?hb9B ?finB
    case hmRB => exact .cons rfl (.cons rfl (.cons rfl (.cons rfl (.cons rfl (.cons rfl (.cons rfl (.cons rfl (.cons rfl (.cons rfl (.cons rfl (.cons rfl .nil)))))))))))
    case hNB => exact News.sub (l' := (_, W.listOf (List.toArray _) _) :: rest) kN (fun q hq => (List.mem_cons.mp hq).elim (fun e => e ▸ .head _) fun hq => by repeat (first | exact hq | apply List.Mem.tail))
    case hoB => exact hlx.symm
    case hIB =>
      refine Items.of hI3 (by omega) (by omega) ?_
      intro i hi
      rw [hat i hi, sizeAt_eq]
      split <;> omega
    case hvB =>
      intro j hj
      obtain ⟨tk, e⟩ := outv_int (pp := mostY a b t y + 1) hI3 (by omega) (by omega) j
      exact ⟨tk, by rw [e, if_pos (by omega), hat j (by omega)]⟩
    case hb9B => rfl
    intro k1 k2 k3 k4 k5 h5 tk5 gens5 mk m5 hb5 F5 N5 hm5
    refine y_tail (s := { s with heap := h5, toks := tk5, gens := gens5 }) ⟨B, X, T0⟩ F5 N5 hm5 ?hb9B ?_
    case hb9B => rfl
    intro h6 tk6 m6 F6 N6 hm6
    exact hQ k1 k2 k3 h6 tk6 gens5 m6 hb5 F6 N6 hm6
end
end
section
theorem tab_prune {T : List (Addr × Obj)} (TT : TabL T) : ∃ T', (∀ q ∈ T', q ∈ T) ∧ TabL T' ∧ ∀ q ∈ T', ¬ ItO q.2 := by
  obtain ⟨o1, o2, rest, rfl, hrest, h1, h2⟩ := TT
  have key : ∀ {q : Str} {ln co : Nat} {o : Obj}, TabO q ln co o rest → ¬ ItO o ∧ ∃ r, (∀ e ∈ r, e ∈ rest) ∧ (∀ e ∈ r, ¬ ItO e.2) ∧ TabO q ln co o r := fun h => by
    rcases h with rfl | ⟨c', oc, vs, tk, rfl, hm, hd, hv⟩
    · exact ⟨fun h => (show Value.none ≠ .type "list_iterator" by decide) h.1, [], List.forall_mem_nil _, List.forall_mem_nil _, .inl rfl⟩
    · refine ⟨fun h => (show Value.none ≠ .type "list_iterator" by decide) h.1, [(c', oc)], List.forall_mem_cons.mpr ⟨hm, List.forall_mem_nil _⟩, List.forall_mem_cons.mpr ⟨?_, List.forall_mem_nil _⟩, .inr ⟨c', oc, vs, tk, rfl, .head _, hd, hv⟩⟩
      rintro ⟨_, l, i, e⟩
      rw [hd] at e
      cases e
      cases hv
  have more : ∀ {q : Str} {ln co : Nat} {o : Obj} {r r' : List (Addr × Obj)}, (∀ e ∈ r, e ∈ r') → TabO q ln co o r → TabO q ln co o r' := fun hs h => by
    rcases h with rfl | ⟨c', oc, vs, tk, rfl, hm, hd, hv⟩
    · exact .inl rfl
    · exact .inr ⟨c', oc, vs, tk, rfl, hs _ hm, hd, hv⟩
  obtain ⟨n1, r1, s1, i1, t1⟩ := key h1
  obtain ⟨n2, r2, s2, i2, t2⟩ := key h2
  refine ⟨(51, o1) :: (58, o2) :: (r1 ++ r2), fun q hq => ?_, ⟨o1, o2, r1 ++ r2, rfl, fun e he => ?_, more (fun e he => List.mem_append_left _ he) t1, more (fun e he => List.mem_append_right _ he) t2⟩, fun q hq => ?_⟩
  · rcases List.mem_cons.mp hq with rfl | hq
    · exact .head _
    · rcases List.mem_cons.mp hq with rfl | hq
      · exact .tail _ (.head _)
      · exact .tail _ (.tail _ ((List.mem_append.mp hq).elim (s1 q) (s2 q)))
  · exact hrest e ((List.mem_append.mp he).elim (s1 e) (s2 e))
  · rcases List.mem_cons.mp hq with rfl | hq
    · exact n1
    · rcases List.mem_cons.mp hq with rfl | hq
      · exact n2
      · exact (List.mem_append.mp hq).elim (i1 q) (i2 q)
section
variable {fa : Addr} {w : World} {p : Program} {loose : List Str} {mean : ExcName → Option Value} {mg mb : Str → Option Value} {dp un : Nat} {gd : Option (List Code)} {h₀ : Heap} {L : Addr} {m : Str → Option Value} {cd : Value} {rest : List (Addr × Obj)} {s : Shared} {Q : Flow → Shared → Prop} {E : Value → Shared → Prop} {a b c t : Nat} {u : Int} {ta tb tc tu tt : Tok}
/-- the texts grow: a part is no longer than the whole -/
theorem cellsTo_mono {a b c t : Nat} {n k : Nat} (h : n ≤ k) : (gaps (cellsTo a b c t n)).length ≤ (gaps (cellsTo a b c t k)).length := by
  induction k with
  | zero => rw [Nat.le_zero.mp h]; exact Nat.le_refl _
  | succ k ih =>
    rcases Nat.lt_or_ge k n with g | g
    · rw [show n = k + 1 by omega]; exact Nat.le_refl _
    · refine Nat.le_trans (ih g) ?_
      show _ ≤ (gaps (cellsTo a b c t k ++ _)).length
      unfold gaps
      rw [List.flatMap_append, List.length_append]
      exact Nat.le_add_right _ _
theorem rowTo_mono {a b c t y : Nat} {ks : List Nat} {n k : Nat} (h : n ≤ k) : (gaps (ks ++ rowTo a b c t y n)).length ≤ (gaps (ks ++ rowTo a b c t y k)).length := by
  induction k with
  | zero => rw [Nat.le_zero.mp h]; exact Nat.le_refl _
  | succ k ih =>
    rcases Nat.lt_or_ge k n with g | g
    · rw [show n = k + 1 by omega]; exact Nat.le_refl _
    · refine Nat.le_trans (ih g) ?_
      rw [rowTo_succ, ← List.append_assoc]
      unfold gaps
      rw [List.flatMap_append (xs := ks ++ _), List.length_append]
      exact Nat.le_add_right _ _
theorem gaps_len (ks : List Nat) : (gaps ks).length = ks.sum + ks.length := by
  induction ks with
  | nil => rfl
  | cons k ks ih =>
    have e : gaps (k :: ks) = (List.replicate k 32 ++ [9]) ++ gaps ks := rfl
    rw [e, List.length_append, ih]
    simp
    omega
theorem gaps_len_app (x y : List Nat) : (gaps (x ++ y)).length = (gaps x).length + (gaps y).length := by
  unfold gaps; rw [List.flatMap_append, List.length_append]
theorem inn_row_le (a b c t y : Nat) : ∀ n, (gaps (innTo a b c t y n)).length ≤ (gaps (rowTo a b c t y n)).length
  | 0 => Nat.le_refl _
  | n + 1 => by
    rw [innTo_succ, rowTo_succ, gaps_len_app, gaps_len_app]
    have h := inn_row_le a b c t y n
    split
    · rw [gaps_len, gaps_len, gaps_len, gaps_len] at *
      simp
      omega
    · rw [gaps_len []]
      show _ + 0 ≤ _
      omega
theorem inn_cells_le (a b c t : Nat) : ∀ n, (gaps (innerTo a b c t n)).length ≤ (gaps (cellsTo a b c t n)).length
  | 0 => Nat.le_refl _
  | n + 1 => by
    rw [innerTo_succ, cellsTo_succ, gaps_len_app, gaps_len_app]
    exact Nat.add_le_add (inn_cells_le a b c t n) (inn_row_le a b c t n _)
theorem Legs.len {a b c t : Nat} (h : Legs a b c t) : (gaps (cellsAll a b c t)).length < 30000 := by
  have h1 := h.ok
  unfold lawOk at h1
  simp only [Bool.and_eq_true, decide_eq_true_eq] at h1
  rw [gaps_len]
  exact h1.2
theorem Legs.cells_lt {a b c t y : Nat} (h : Legs a b c t) (hy : y ≤ t * b) {j : Nat} (hj : j ≤ mostY a b t y) : (gaps (cellsTo a b c t y ++ rowTo a b c t y j)).length < 40000 := by
  have h1 := rowTo_mono (a := a) (b := b) (c := c) (t := t) (y := y) (ks := cellsTo a b c t y) (Nat.le_succ_of_le hj)
  have h2 := cellsTo_mono (a := a) (b := b) (c := c) (t := t) (Nat.succ_le_succ hy)
  have h3 := h.len
  have e : cellsTo a b c t (y + 1) = cellsTo a b c t y ++ rowTo a b c t y (mostY a b t y + 1) := rfl
  rw [e] at h2
  have e2 : cellsAll a b c t = cellsTo a b c t (t * b).succ := rfl
  rw [e2] at h3
  exact Nat.lt_of_le_of_lt h1 (Nat.lt_of_le_of_lt h2 (Nat.lt_trans h3 (by decide)))
theorem Legs.inner_lt {a b c t y : Nat} (h : Legs a b c t) (hy : y ≤ t * b) {j : Nat} (hj : j ≤ mostY a b t y) : (gaps (innerTo a b c t y ++ innTo a b c t y j)).length < 40000 := by
  have h1 := h.cells_lt hy hj
  rw [gaps_len_app] at h1 ⊢
  have h2 := inn_cells_le a b c t y
  have h3 := inn_row_le a b c t y j
  omega
abbrev tHas (ks is : List Nat) (k1 k2 k3 : Tok) (bs : List (Str × Value)) : List (Str × Value) := (Str.ofString "cells", .str (chs (gaps ks)) k1) :: (Str.ofString "inner", .str (chs (gaps is)) k2) :: (Str.ofString "within", .int (is.length : Nat) k3) :: bs
theorem law5 {T : List (Addr × Obj)} (C : LawCtx w p loose mean mg mb h₀) (F : Fr h₀ L s.heap m) (hm : Has m (base5 a b c t u ta tb tc tu tt)) (N : News h₀ L s.heap T) (hT : ∀ q ∈ T, ¬ ItO q.2) (hbare : AllBareG s.gens) (hdp : dp + 200 < recursionLimit) (hun : un + 2000 < cLine) (hL : Legs a b c t)
    {body : List Stmt} (hb : body = lawBody.drop 9)
    (hQ : ∀ (k1 k2 k3 : Tok) (h' : Heap) (tk' : Nat) (gens' : Array GenState) (m' : Str → Option Value), AllBareG gens' → Fr h₀ L h' m' → News h₀ L h' T → Has m' (tHas (cellsAll a b c t) (innerAll a b c t) k1 k2 k3 (base5 a b c t u ta tb tc tu tt)) →
      wpAny (model PG w) (lawA dp un gd L fa cd) (execs (body.drop 4) (envOf lawN lawScope L fa cd)) Q E { s with heap := h', toks := tk', gens := gens' }) :
    wpAny (model PG w) (lawA dp un gd L fa cd) (execs body (envOf lawN lawScope L fa cd)) Q E s := by
  conv at hb => rhs; whnf
  subst hb
  obtain ⟨a0, a8, b0, b8, c0, c8, t0, t7, hab, habc, hsm⟩ := id hL
  obtain ⟨B, X, T0⟩ := C
  k_with_none
  k_with "k all" => (first | exact ne_all (by assumption) (by omega) | exact ne_allLt (by assumption) (by omega) | exact ne_allLt (And.right (by assumption)) (by omega) | exact ne_allLt (And.right (And.right (by assumption))) (by omega) | exact ne_allLt (And.right (And.right (And.right (by assumption)))) (by omega) | exact ne_allLt (And.right (And.right (And.right (And.right (by assumption))))) (by omega) | assumption)
  k_with "is list" => (exact News.isList (by assumption) (by k_mem))
  k_with "mul fits" => (first | exact PySem.IntMulOk.of_right (Mine.fit8 (by with_reducible assumption)) | exact PySem.IntMulOk.of_left (Mine.fit8 (by with_reducible assumption)) | exact PySem.IntMulOk.of_left (Mine.fitL (by decide)) | exact PySem.IntMulOk.of_right (Mine.fitL (by decide)))
  k_with "omega" => (first | with_reducible assumption | exact Mine.rl1 (by with_reducible assumption) (by decide) | exact Mine.rl2 (by with_reducible assumption) (by decide) | exact Mine.rl0 (by with_reducible assumption) | decide | (law_clear; law_purse 20000 => lia))
  k_with "exec For Name Call cons nil" => (k_here; refine halt ?_)
  (have HH : PySem.Challenge.rw_sr0069_01.row.prog = PG ∧ Mine.hd.heap_39 = Mine.hd.heap_39 := ⟨rfl, rfl⟩)
  revert HH
  k_fill
  intro HH
  clear HH
  have htb : t * b ≤ 6 * 7 := Nat.mul_le_mul (by omega) (by omega)
  have etb : (t : Int) * b = ((t * b : Nat) : Int) := (Int.natCast_mul t b).symm
  replace F := Fr.known F _ hm
  k_steps
  unfold Halt
  refine opq (A := fun Q1 : Flow → Shared → Prop => ∀ (k1 k2 k3 : Tok) (h' : Heap) (tk' : Nat) (gens' : Array GenState) (m' : Str → Option Value), (AllBareG gens') → (Fr h₀ L h' m') → (News h₀ L h' T) → (Has m' (tHas (cellsAll a b c t) (innerAll a b c t) k1 k2 k3 (base5 a b c t u ta tb tc tu tt))) → Q1  (.next) ({ s with heap := h', toks := tk', gens := gens' })) (B := fun Q1 => ∀  (GG : Flow → Shared → Prop), (∀ (k1 k2 k3 : Tok) (h' : Heap) (tk' : Nat) (gens' : Array GenState) (m' : Str → Option Value), (AllBareG gens') → (Fr h₀ L h' m') → (News h₀ L h' T) → (Has m' (tHas (cellsAll a b c t) (innerAll a b c t) k1 k2 k3 (base5 a b c t u ta tb tc tu tt))) → GG (.next) ({ s with heap := h', toks := tk', gens := gens' })) → ∀ (i0 : Flow) (i1 : Shared), Q1  i0 i1 → GG i0 i1) (fun  i0 i1 => ∀ GG : Flow → Shared → Prop, (∀ (k1 k2 k3 : Tok) (h' : Heap) (tk' : Nat) (gens' : Array GenState) (m' : Str → Option Value), (AllBareG gens') → (Fr h₀ L h' m') → (News h₀ L h' T) → (Has m' (tHas (cellsAll a b c t) (innerAll a b c t) k1 k2 k3 (base5 a b c t u ta tb tc tu tt))) → GG (.next) ({ s with heap := h', toks := tk', gens := gens' })) → GG i0 i1) (fun  k1 k2 k3 h' tk' gens' m' hh0 hh1 hh2 hh3 GG gg => gg k1 k2 k3 h' tk' gens' m' hh0 hh1 hh2 hh3) (fun  GG gg i0 i1 hh => hh GG gg) (fun Q1 iQ1 eQ1 => ?_)
  refine wpAny_mono (Q := Q1) (wpAny_For ?_) (eQ1 _ ?_) (fun _ _ e => e)
  · k_steps
    rename_i hX tk5 t5 u5 v5 hR kF kN kk
    refine wpAny_pyIter_range hR (small_one (by omega) (by omega) (by omega) (by omega)) ?_
    have hrs : ∀ q ∈ T, q.1 < hX.objs.size := fun q hq => Heap.lt_size (kN q hq).1
    have hLs : L < hX.objs.size := kF.ns.lt
    have hsize : Builtin.Range.rangeSize (0 : Int) ((t : Int) * b + 1) 1 = ((t * b + 1 : Nat) : Int) := by
      rw [rangeSize_one, etb]
      split <;> omega
    rw [hsize]
    have ee : Str.ofString "" = chs (gaps []) := by decide +kernel
    rw [ee] at kF
    refine opq (A := fun I : Nat → Shared → Prop => ∀ (k : Nat), ∀ (y : Nat) (k1 k2 k3 : Tok) (h' : Heap) (tk' : Nat) (gens' : Array GenState) (m' : Str → Option Value), (k + y = t * b + 1) → (AllBareG gens') → (Fr h₀ L h' m') → (News h₀ L h' ((hX.objs.size, rngIt y k) :: T)) → (Has m' (tHas (cellsTo a b c t y) (innerTo a b c t y) k1 k2 k3 (base5 a b c t u ta tb tc tu tt))) → I k ({ s with heap := h', toks := tk', gens := gens' })) (B := fun I => ∀ (k : Nat) (GG : Shared → Prop), (∀ (y : Nat) (k1 k2 k3 : Tok) (h' : Heap) (tk' : Nat) (gens' : Array GenState) (m' : Str → Option Value), (k + y = t * b + 1) → (AllBareG gens') → (Fr h₀ L h' m') → (News h₀ L h' ((hX.objs.size, rngIt y k) :: T)) → (Has m' (tHas (cellsTo a b c t y) (innerTo a b c t y) k1 k2 k3 (base5 a b c t u ta tb tc tu tt))) → GG ({ s with heap := h', toks := tk', gens := gens' })) → ∀ (i0 : Shared), I k i0 → GG i0) (fun k i0 => ∀ GG : Shared → Prop, (∀ (y : Nat) (k1 k2 k3 : Tok) (h' : Heap) (tk' : Nat) (gens' : Array GenState) (m' : Str → Option Value), (k + y = t * b + 1) → (AllBareG gens') → (Fr h₀ L h' m') → (News h₀ L h' ((hX.objs.size, rngIt y k) :: T)) → (Has m' (tHas (cellsTo a b c t y) (innerTo a b c t y) k1 k2 k3 (base5 a b c t u ta tb tc tu tt))) → GG ({ s with heap := h', toks := tk', gens := gens' })) → GG i0) (fun k y k1 k2 k3 h' tk' gens' m' hh0 hh1 hh2 hh3 hh4 GG gg => gg y k1 k2 k3 h' tk' gens' m' hh0 hh1 hh2 hh3 hh4) (fun k GG gg i0 hh => hh GG gg) (fun I iI eI => ?_)
    refine forLoop_ruleP I (t * b + 1) ?_ ?_
    · refine iI _ 0 _ _ _ _ _ _ _ rfl hbare (kF.push _) ?_ (.cons rfl (.cons rfl (.cons rfl (.cons rfl (.cons rfl (.cons rfl (.cons rfl (.cons rfl .nil))))))))
      intro q hq
      rcases List.mem_cons.mp hq with rfl | hq
      · exact ⟨Heap.get?_push_size _ rfl, Nat.ne_of_gt hLs, Heap.get?_none_of_le (Nat.le_trans kF.above (Nat.le_of_lt hLs))⟩
      · exact ⟨Heap.get?_push_of_some _ (kN q hq).1, (kN q hq).2⟩
    · intro k
      refine eI k _ (fun y k1 k2 k3 h' tk' gens' m' hky hb F2 N2 hm2 => ?_)
      intro E' P hnext hbrk hrv
      clear kF kN kk hR
      rcases k with _ | k
      · refine wpAny_pyNext_range_end rfl (N2 _ (.head _)).1 (by simp) (fun h3 eb3 => ?_)
        obtain ⟨F3, N3⟩ := iter_ext F2 N2 (fun q hq => Nat.ne_of_lt (hrs q hq)) eb3
        have hy1 : y = t * b + 1 := by omega
        rw [hy1] at hm2
        exact iQ1 k1 k2 k3 _ _ _ m' hb F3 N3 hm2
      · refine wpAny_pyNext_range_item (N2 _ (.head _)).1 (by omega) (fun h3 it3 sb3 => ?_)
        obtain ⟨F3, N3⟩ := iter_step F2 N2 (fun q hq => Nat.ne_of_lt (hrs q hq)) sb3 it3
        refine stN F3 N3 (fun h4 F4 N4 => ?_)
        have hy : y ≤ t * b := by omega
        refine y_turn (s := ⟨_, gens', _, _, _⟩) ⟨B, X, T0⟩ F4 N4 ?_ hb hdp hun hL hy (Has.put hm2 (by kernel_rfl)) (fun j hj => hL.cells_lt hy hj) (fun j hj => hL.inner_lt hy hj) ?hb9 ?_
        · exact List.forall_mem_cons.mpr ⟨fun h => (show Value.type "range_iterator" ≠ .type "list_iterator" by decide) h.1, hT⟩
        case hb9 => rfl
        intro k1 k2 k3 h5 tk5 gens5 m5 hb5 F5 N5 hm5
        have e2 : ((k + 1 : Nat) : Int) - 1 = (k : Int) := by omega
        exact hnext k _ (by omega) (iI _ (y + 1) k1 k2 k3 h5 tk5 gens5 m5 (by omega) hb5 F5 (e2 ▸ N5) (fun q hq => hm5 q (.tail _ hq)))
  · intro k1 k2 k3 h' tk' gens' m' h1 h2 h3 h4
    exact hQ k1 k2 k3 h' tk' gens' m' h1 h2 h3 h4
end
end
section
def linFor : Stmt := lawBody.getD 14 (.Pass default)
def forTarget : Stmt → PySem.Expr | .For t _ _ _ _ => t | _ => default
def linBody : List Stmt := forBody linFor
def linTarget : PySem.Expr := forTarget linFor
section
variable {fa : Addr} {w : World} {p : Program} {loose : List Str} {mean : ExcName → Option Value} {mg mb : Str → Option Value} {dp un : Nat} {gd : Option (List Code)} {h₀ : Heap} {L : Addr} {m : Str → Option Value} {cd : Value} {rest : List (Addr × Obj)} {s : Shared} {Q : Flow → Shared → Prop} {E : Value → Shared → Prop} {a b c t : Nat} {u : Int} {ta tb tc tu tt : Tok} {k1 k2 k3 : Tok} {ks is : List Nat}
theorem Fr.has {h : Heap} {m : Str → Option Value} (F : Fr h₀ L h m) (ps : List (Str × Value)) (hm : Has m ps) : Fr h₀ L h (kstB m ps) := Fr.known F ps hm
theorem lin_turn {x y z r : Nat} {acc : Int} {tx ty tz tl : Tok} {T fr : List (Addr × Obj)} (C : LawCtx w p loose mean mg mb h₀) (F : Fr h₀ L s.heap m) (hm : Has m ((Str.ofString "linear", .int acc tl) :: tHas ks is k1 k2 k3 (base5 a b c t u ta tb tc tu tt)))
    (N : News h₀ L s.heap ((r, { cls := .type "tuple", data := .seq #[.int x tx, .int y ty, .int z tz] }) :: (fr ++ T))) (TT : TabL T) (hAp : Ap ((r, { cls := .type "tuple", data := .seq #[.int x tx, .int y ty, .int z tz] }) :: fr)) (hdp : dp + 200 < recursionLimit) (hun : un + 2000 < cLine) (hu : u ≠ 0) (hub : Builtin.Int.intBits u ≤ 300)
    (x8 : x < 8) (y8 : y < 8) (z0 : 0 < z) (z8 : z < 8) {tg : PySem.Expr} {body : List Stmt} (htg : tg = linTarget) (hb : body = linBody)
    (hQ : ∀ (tl : Tok) (h' : Heap) (tk' : Nat) (m' : Str → Option Value) (T' : List (Addr × Obj)), TabL T' → (∀ e ∈ (r, ({ cls := .type "tuple", data := .seq #[.int x tx, .int y ty, .int z tz] } : Obj)) :: fr, (∀ q ∈ T, q.1 ≠ e.1) → ∀ q ∈ T', q.1 ≠ e.1) → Fr h₀ L h' m' → News h₀ L h' ((r, { cls := .type "tuple", data := .seq #[.int x tx, .int y ty, .int z tz] }) :: (fr ++ T')) → Has m' ((Str.ofString "linear", .int (acc + dedT x y z) tl) :: tHas ks is k1 k2 k3 (base5 a b c t u ta tb tc tu tt)) →
      Q .next { s with heap := h', toks := tk' }) :
    wpAny (model PG w) (lawA dp un gd L fa cd) (assign tg (envOf lawN lawScope L fa cd) (.ref r)) (fun _ s₂ => wpAny (model PG w) (lawA dp un gd L fa cd) (execs body (envOf lawN lawScope L fa cd)) Q E s₂) E s := by
  conv at hb => rhs; whnf
  conv at htg => rhs; whnf
  subst hb
  subst htg
  obtain ⟨B, X, T0⟩ := C
  k_with_none
  k_with "k all" => (first | exact ne_all (by assumption) (by omega) | exact ne_allLt (by assumption) (by omega) | exact ne_allLt (And.right (by assumption)) (by omega) | exact ne_allLt (And.right (And.right (by assumption))) (by omega) | exact ne_allLt (And.right (And.right (And.right (by assumption)))) (by omega) | exact ne_allLt (And.right (And.right (And.right (And.right (by assumption))))) (by omega) | assumption)
  k_with "is list" => (exact News.isList (by assumption) (by k_mem))
  k_with "mul fits" => (first | exact PySem.IntMulOk.of_right (Mine.fit8 (by with_reducible assumption)) | exact PySem.IntMulOk.of_left (Mine.fit8 (by with_reducible assumption)) | exact PySem.IntMulOk.of_left (Mine.fitL (by decide)) | exact PySem.IntMulOk.of_right (Mine.fitL (by decide)))
  k_with "omega" => (first | with_reducible assumption | exact Mine.rl1 (by with_reducible assumption) (by decide) | exact Mine.rl2 (by with_reducible assumption) (by decide) | exact Mine.rl0 (by with_reducible assumption) | decide | (law_clear; law_purse 20000 => lia))
  (have HH : PySem.Challenge.rw_sr0069_01.row.prog = PG ∧ Mine.hd.heap_39 = Mine.hd.heap_39 := ⟨rfl, rfl⟩)
  revert HH
  k_fill
  intro HH
  clear HH
  have hxy : x * y ≤ 7 * 7 := Nat.mul_le_mul (by omega) (by omega)
  have exy : (x : Int) * y = ((x * y : Nat) : Int) := (Int.natCast_mul x y).symm
  replace F := Fr.known F _ hm
  k_steps
  have hx0 : (0 : Int) ≤ (x : Int) * y := by omega
  have hx49 : (x : Int) * y < 64 := by omega
  have hb6 : Builtin.Int.intBits ((x : Int) * y) ≤ 6 := bits_small hx0 hx49
  refine c_ded 7 (fr := (r, _) :: fr) (T := T) (outer := []) (A₀ := callerA) (base := h₀) ⟨B, X, T0, rfl⟩ (by assumption) (by assumption) TT hAp (by omega) (by omega) hx0 hx49 (by omega) (by omega) hu hub (by omega) (by omega) ?_
  intro td h3 tk3 T3 F3 N3 TT3 ap3
  have hN3 : News h₀ L h3 ((r, { cls := .type "tuple", data := .seq #[.int x tx, .int y ty, .int z tz] }) :: (fr ++ T3)) := N3
  clear N3
  k_steps
  have e1 : acc + (((x : Int) * y) ^ Int.toNat 2 - (x : Int) * y * ded 7 ((x : Int) * y) z) = acc + dedT x y z := rfl
  exact hQ _ _ _ _ T3 TT3 ap3 (by assumption) (by assumption) (.cons (int_val e1 rfl) (.cons rfl (.cons rfl (.cons rfl (.cons rfl (.cons rfl (.cons rfl (.cons rfl (.cons rfl .nil)))))))))
end
end
section
section
variable {fa : Addr} {w : World} {p : Program} {loose : List Str} {mean : ExcName → Option Value} {mg mb : Str → Option Value} {dp un : Nat} {gd : Option (List Code)} {h₀ : Heap} {L : Addr} {m : Str → Option Value} {cd : Value} {rest : List (Addr × Obj)} {s : Shared} {Q : Flow → Shared → Prop} {E : Value → Shared → Prop} {a b c t : Nat} {u : Int} {ta tb tc tu tt : Tok} {k1 k2 k3 : Tok} {ks is : List Nat}
theorem forLoop_ruleT {prog : Program} {w : World} {A : Around} {E : Value → Shared → Prop} {s : Shared} {env : Env} {tg : PySem.Expr} {it : Value} {body : List Stmt} {Q : Flow → Shared → Prop} (I : Nat → Shared → Prop) (n : Nat) (h : I n s)
    (turn : ∀ n s, I n s → ∀ E' : Value → Shared → Prop, wpAny (model prog w) A (pyNext it) (fun r s₁ => match r with
      | none => Q .next s₁
      | some v => wpAny (model prog w) A (letOwnedTupleGo tg it v) (fun _ s₀ => wpAny (model prog w) A (assign tg env v) (fun _ s₂ => wpAny (model prog w) A (execs body env) (fun f s₃ => match f with
          | .next | .cont => Turn I n s₃
          | .brk => Q .next s₃
          | .ret v => Q (.ret v) s₃) E' s₂) E' s₀) E' s₁) E' s) :
    codeAny (model prog w) A (.forLoop tg it body [] env) (fun r s' => match r with | .ok f => Q f s' | .error e => cameBackBy (model prog w) A env E e s') s := by
  refine codeAny_forLoop_any I (fun n s hI => wpAny_mono (turn n s hI _) (fun r s₁ h₁ => ?_) fun _ _ e => e) n h
  cases r with
  | none => exact wpAny_execs_nil h₁
  | some v => exact h₁
theorem forLoop_ruleTP {prog : Program} {w : World} {A : Around} {E : Value → Shared → Prop} {s : Shared} {env : Env} {tg : PySem.Expr} {it : Value} {body : List Stmt} {Q : Flow → Shared → Prop} (I : Nat → Shared → Prop) (n : Nat) (h : I n s)
    (turn : ∀ n s, I n s → ∀ (E' : Value → Shared → Prop) (P : Flow → Shared → Prop), (∀ m s, m < n → I m s → P .next s) → (∀ s, Q .next s → P .brk s) → (∀ v s, Q (.ret v) s → P (.ret v) s) → wpAny (model prog w) A (pyNext it) (fun r s₁ => match r with
      | none => Q .next s₁
      | some v => wpAny (model prog w) A (letOwnedTupleGo tg it v) (fun _ s₀ => wpAny (model prog w) A (assign tg env v) (fun _ s₂ => wpAny (model prog w) A (execs body env) P E' s₂) E' s₀) E' s₁) E' s) :
    codeAny (model prog w) A (.forLoop tg it body [] env) (fun r s' => match r with | .ok f => Q f s' | .error e => cameBackBy (model prog w) A env E e s') s :=
  forLoop_ruleT I n h (fun n s hI E' => turn n s hI E' (fun f s₃ => match f with
        | .next => Turn I n s₃
        | .cont => Turn I n s₃
        | .brk => Q .next s₃
        | .ret v => Q (.ret v) s₃) (fun m _ hm hi => ⟨m, hm, hi⟩) (fun _ h => h) (fun _ _ h => h))
theorem fa5 {α : Type} {p : α → Prop} {a b c d e : α} (h1 : p a) (h2 : p b) (h3 : p c) (h4 : p d) (h5 : p e) : ∀ x ∈ [a, b, c, d, e], p x :=
  List.forall_mem_cons.mpr ⟨h1, List.forall_mem_cons.mpr ⟨h2, List.forall_mem_cons.mpr ⟨h3, List.forall_mem_cons.mpr ⟨h4, List.forall_mem_cons.mpr ⟨h5, List.forall_mem_nil _⟩⟩⟩⟩⟩
theorem fa5' {α : Type} {p : α → Prop} {a b c d : α} {r : List α} (h1 : p a) (h2 : p b) (h3 : p c) (h4 : p d) (h5 : ∀ x ∈ r, p x) : ∀ x ∈ a :: b :: c :: d :: r, p x :=
  List.forall_mem_cons.mpr ⟨h1, List.forall_mem_cons.mpr ⟨h2, List.forall_mem_cons.mpr ⟨h3, List.forall_mem_cons.mpr ⟨h4, h5⟩⟩⟩⟩
def linTo (a b c : Int) : Nat → Int
  | 0 => 1 + 3 * a * b * c * (a + b + c + 3)
  | 1 => 1 + 3 * a * b * c * (a + b + c + 3) + dedT a b c
  | 2 => 1 + 3 * a * b * c * (a + b + c + 3) + dedT a b c + dedT b c a
  | _ => linearL a b c
abbrev tup3 (x y z : Nat) (tx ty tz : Tok) : Obj := { cls := .type "tuple", data := .seq #[.int x tx, .int y ty, .int z tz] }
theorem News.at_ {h : Heap} {q : Addr × Obj} {S l : List (Addr × Obj)} (N : News h₀ L h S) (hm : q ∈ S) (Nl : News h₀ L h l) : News h₀ L h (q :: l) := fun p hp => (List.mem_cons.mp hp).elim (fun e => e ▸ N q hm) (fun h => Nl p h)
theorem News.pick1 {h : Heap} {i l d3 d2 d1 : Addr × Obj} {r : List (Addr × Obj)} (N : News h₀ L h (i :: l :: d3 :: d2 :: d1 :: r)) : News h₀ L h (d1 :: i :: l :: d3 :: d2 :: r) := News.at_ N (.tail _ (.tail _ (.tail _ (.tail _ (.head _))))) (News.at_ N (.head _) (News.at_ N (.tail _ (.head _)) (News.at_ N (.tail _ (.tail _ (.head _))) (News.at_ N (.tail _ (.tail _ (.tail _ (.head _)))) (fun q hq => N q (.tail _ (.tail _ (.tail _ (.tail _ (.tail _ hq))))))))))
theorem News.put1 {h : Heap} {i l d3 d2 d1 : Addr × Obj} {r : List (Addr × Obj)} (N : News h₀ L h (d1 :: i :: l :: d3 :: d2 :: r)) : News h₀ L h (i :: l :: d3 :: d2 :: d1 :: r) := News.at_ N (.tail _ (.head _)) (News.at_ N (.tail _ (.tail _ (.head _))) (News.at_ N (.tail _ (.tail _ (.tail _ (.head _)))) (News.at_ N (.tail _ (.tail _ (.tail _ (.tail _ (.head _))))) (News.at_ N (.head _) (fun q hq => N q (.tail _ (.tail _ (.tail _ (.tail _ (.tail _ hq))))))))))
theorem News.pick2 {h : Heap} {i l d3 d2 d1 : Addr × Obj} {r : List (Addr × Obj)} (N : News h₀ L h (i :: l :: d3 :: d2 :: d1 :: r)) : News h₀ L h (d2 :: i :: l :: d3 :: d1 :: r) := News.at_ N (.tail _ (.tail _ (.tail _ (.head _)))) (News.at_ N (.head _) (News.at_ N (.tail _ (.head _)) (News.at_ N (.tail _ (.tail _ (.head _))) (News.at_ N (.tail _ (.tail _ (.tail _ (.tail _ (.head _))))) (fun q hq => N q (.tail _ (.tail _ (.tail _ (.tail _ (.tail _ hq))))))))))
theorem News.put2 {h : Heap} {i l d3 d2 d1 : Addr × Obj} {r : List (Addr × Obj)} (N : News h₀ L h (d2 :: i :: l :: d3 :: d1 :: r)) : News h₀ L h (i :: l :: d3 :: d2 :: d1 :: r) := News.at_ N (.tail _ (.head _)) (News.at_ N (.tail _ (.tail _ (.head _))) (News.at_ N (.tail _ (.tail _ (.tail _ (.head _)))) (News.at_ N (.head _) (News.at_ N (.tail _ (.tail _ (.tail _ (.tail _ (.head _))))) (fun q hq => N q (.tail _ (.tail _ (.tail _ (.tail _ (.tail _ hq))))))))))
theorem News.pick3 {h : Heap} {i l d3 d2 d1 : Addr × Obj} {r : List (Addr × Obj)} (N : News h₀ L h (i :: l :: d3 :: d2 :: d1 :: r)) : News h₀ L h (d3 :: i :: l :: d2 :: d1 :: r) := News.at_ N (.tail _ (.tail _ (.head _))) (News.at_ N (.head _) (News.at_ N (.tail _ (.head _)) (News.at_ N (.tail _ (.tail _ (.tail _ (.head _)))) (News.at_ N (.tail _ (.tail _ (.tail _ (.tail _ (.head _))))) (fun q hq => N q (.tail _ (.tail _ (.tail _ (.tail _ (.tail _ hq))))))))))
theorem News.put3 {h : Heap} {i l d3 d2 d1 : Addr × Obj} {r : List (Addr × Obj)} (N : News h₀ L h (d3 :: i :: l :: d2 :: d1 :: r)) : News h₀ L h (i :: l :: d3 :: d2 :: d1 :: r) := News.at_ N (.tail _ (.head _)) (News.at_ N (.tail _ (.tail _ (.head _))) (News.at_ N (.head _) (News.at_ N (.tail _ (.tail _ (.tail _ (.head _)))) (News.at_ N (.tail _ (.tail _ (.tail _ (.tail _ (.head _))))) (fun q hq => N q (.tail _ (.tail _ (.tail _ (.tail _ (.tail _ hq))))))))))
theorem law6 {T : List (Addr × Obj)} (C : LawCtx w p loose mean mg mb h₀) (F : Fr h₀ L s.heap m) (hm : Has m (tHas ks is k1 k2 k3 (base5 a b c t u ta tb tc tu tt))) (N : News h₀ L s.heap T) (TT : TabL T) (hdp : dp + 200 < recursionLimit) (hun : un + 2000 < cLine) (hL : Legs a b c t) (hu : u ≠ 0) (hub : Builtin.Int.intBits u ≤ 300)
    {body : List Stmt} (hb : body = lawBody.drop 13)
    (hQ : ∀ (tl : Tok) (h' : Heap) (tk' : Nat) (m' : Str → Option Value) (T' : List (Addr × Obj)), TabL T' → Fr h₀ L h' m' → News h₀ L h' T' → Has m' ((Str.ofString "linear", .int (linearL a b c) tl) :: tHas ks is k1 k2 k3 (base5 a b c t u ta tb tc tu tt)) →
      wpAny (model PG w) (lawA dp un gd L fa cd) (execs (body.drop 2) (envOf lawN lawScope L fa cd)) Q E { s with heap := h', toks := tk' }) :
    wpAny (model PG w) (lawA dp un gd L fa cd) (execs body (envOf lawN lawScope L fa cd)) Q E s := by
  conv at hb => rhs; whnf
  subst hb
  obtain ⟨a0, a8, b0, b8, c0, c8, t0, t7, hab, habc, hsm⟩ := id hL
  obtain ⟨B, X, T0⟩ := C
  k_with_none
  k_with "k all" => (first | exact ne_all (by assumption) (by omega) | exact ne_allLt (by assumption) (by omega) | exact ne_allLt (And.right (by assumption)) (by omega) | exact ne_allLt (And.right (And.right (by assumption))) (by omega) | exact ne_allLt (And.right (And.right (And.right (by assumption)))) (by omega) | exact ne_allLt (And.right (And.right (And.right (And.right (by assumption))))) (by omega) | assumption)
  k_with "is list" => (exact News.isList (by assumption) (by k_mem))
  k_with "mul fits" => (first | exact PySem.IntMulOk.of_right (Mine.fit8 (by with_reducible assumption)) | exact PySem.IntMulOk.of_left (Mine.fit8 (by with_reducible assumption)) | exact PySem.IntMulOk.of_left (Mine.fitL (by decide)) | exact PySem.IntMulOk.of_right (Mine.fitL (by decide)))
  k_with "omega" => (first | with_reducible assumption | exact Mine.rl1 (by with_reducible assumption) (by decide) | exact Mine.rl2 (by with_reducible assumption) (by decide) | exact Mine.rl0 (by with_reducible assumption) | decide | (law_clear; law_purse 20000 => lia))
  (have HH : PySem.Challenge.rw_sr0069_01.row.prog = PG ∧ Mine.hd.heap_39 = Mine.hd.heap_39 := ⟨rfl, rfl⟩)
  revert HH
  k_fill
  intro HH
  clear HH
  replace F := Fr.known F _ hm
  k_steps
  rename (Fr h₀ L _ _) => kF
  obtain ⟨tlin, kF⟩ : ∃ tl, Fr h₀ L _ (kstB _ ((Str.ofString "linear", .int (1 + 3 * (a : Int) * b * c * (a + b + c + 3)) tl) :: tHas ks is k1 k2 k3 (base5 a b c t u ta tb tc tu tt))) := ⟨_, Fr.has kF ((Str.ofString "linear", .int (1 + 3 * (a : Int) * b * c * (a + b + c + 3)) _) :: tHas ks is k1 k2 k3 (base5 a b c t u ta tb tc tu tt)) (.cons rfl (.cons rfl (.cons rfl (.cons rfl (.cons rfl (.cons rfl (.cons rfl (.cons rfl (.cons rfl .nil)))))))))⟩
  refine opq (A := fun Q1 : Flow → Shared → Prop => ∀ (tl : Tok) (h' : Heap) (tk' : Nat) (m' : Str → Option Value) (T' : List (Addr × Obj)), (TabL T') → (Fr h₀ L h' m') → (News h₀ L h' T') → (Has m' ((Str.ofString "linear", .int (linearL a b c) tl) :: tHas ks is k1 k2 k3 (base5 a b c t u ta tb tc tu tt))) → Q1  (.next) ({ s with heap := h', toks := tk' })) (B := fun Q1 => ∀  (GG : Flow → Shared → Prop), (∀ (tl : Tok) (h' : Heap) (tk' : Nat) (m' : Str → Option Value) (T' : List (Addr × Obj)), (TabL T') → (Fr h₀ L h' m') → (News h₀ L h' T') → (Has m' ((Str.ofString "linear", .int (linearL a b c) tl) :: tHas ks is k1 k2 k3 (base5 a b c t u ta tb tc tu tt))) → GG (.next) ({ s with heap := h', toks := tk' })) → ∀ (i0 : Flow) (i1 : Shared), Q1  i0 i1 → GG i0 i1) (fun  i0 i1 => ∀ GG : Flow → Shared → Prop, (∀ (tl : Tok) (h' : Heap) (tk' : Nat) (m' : Str → Option Value) (T' : List (Addr × Obj)), (TabL T') → (Fr h₀ L h' m') → (News h₀ L h' T') → (Has m' ((Str.ofString "linear", .int (linearL a b c) tl) :: tHas ks is k1 k2 k3 (base5 a b c t u ta tb tc tu tt))) → GG (.next) ({ s with heap := h', toks := tk' })) → GG i0 i1) (fun  tl h' tk' m' T' hh0 hh1 hh2 hh3 GG gg => gg tl h' tk' m' T' hh0 hh1 hh2 hh3) (fun  GG gg i0 i1 hh => hh GG gg) (fun Q1 iQ1 eQ1 => ?_)
  refine wpAny_mono (Q := Q1) (wpAny_For ?_) (eQ1 _ ?_) (fun _ _ e => e)
  · k_steps
    rename_i D1 hA lD1 D2 hB lD2 D3 hC lD3 l hX kF kN lL
    have hsz : ∀ q ∈ (l, W.listOf #[.ref D1, .ref D2, .ref D3] 0) :: (D3, tup3 c a b tc ta tb) :: (D2, tup3 b c a tb tc ta) :: (D1, tup3 a b c ta tb tc) :: T, q.1 < hX.objs.size := fun q hq => Heap.lt_size (kN q hq).1
    have hLs : L < hX.objs.size := kF.ns.lt
    refine wpAny_pyIter_list (News.isList kN (.head _)) ?_
    refine opq (A := fun I : Nat → Shared → Prop => ∀ (n : Nat), ∀ (j : Nat) (h' : Heap) (tk' : Nat) (m' : Str → Option Value) (T' : List (Addr × Obj)) (tl : Tok) (oI : Obj), (n + j = 3) → (TabL T') → (∀ d ∈ [hX.objs.size, l, D3, D2, D1], ∀ q ∈ T', q.1 ≠ d) → (oI.cls = .type "list_iterator") → (oI.data = .fields #[.ref l, .int j 0]) → (Fr h₀ L h' m') → (News h₀ L h' ((hX.objs.size, oI) :: (l, W.listOf #[.ref D1, .ref D2, .ref D3] 0) :: (D3, tup3 c a b tc ta tb) :: (D2, tup3 b c a tb tc ta) :: (D1, tup3 a b c ta tb tc) :: T')) → (Has m' ((Str.ofString "linear", .int (linTo a b c j) tl) :: tHas ks is k1 k2 k3 (base5 a b c t u ta tb tc tu tt))) → I n ({ s with heap := h', toks := tk' })) (B := fun I => ∀ (n : Nat) (GG : Shared → Prop), (∀ (j : Nat) (h' : Heap) (tk' : Nat) (m' : Str → Option Value) (T' : List (Addr × Obj)) (tl : Tok) (oI : Obj), (n + j = 3) → (TabL T') → (∀ d ∈ [hX.objs.size, l, D3, D2, D1], ∀ q ∈ T', q.1 ≠ d) → (oI.cls = .type "list_iterator") → (oI.data = .fields #[.ref l, .int j 0]) → (Fr h₀ L h' m') → (News h₀ L h' ((hX.objs.size, oI) :: (l, W.listOf #[.ref D1, .ref D2, .ref D3] 0) :: (D3, tup3 c a b tc ta tb) :: (D2, tup3 b c a tb tc ta) :: (D1, tup3 a b c ta tb tc) :: T')) → (Has m' ((Str.ofString "linear", .int (linTo a b c j) tl) :: tHas ks is k1 k2 k3 (base5 a b c t u ta tb tc tu tt))) → GG ({ s with heap := h', toks := tk' })) → ∀ (i0 : Shared), I n i0 → GG i0) (fun n i0 => ∀ GG : Shared → Prop, (∀ (j : Nat) (h' : Heap) (tk' : Nat) (m' : Str → Option Value) (T' : List (Addr × Obj)) (tl : Tok) (oI : Obj), (n + j = 3) → (TabL T') → (∀ d ∈ [hX.objs.size, l, D3, D2, D1], ∀ q ∈ T', q.1 ≠ d) → (oI.cls = .type "list_iterator") → (oI.data = .fields #[.ref l, .int j 0]) → (Fr h₀ L h' m') → (News h₀ L h' ((hX.objs.size, oI) :: (l, W.listOf #[.ref D1, .ref D2, .ref D3] 0) :: (D3, tup3 c a b tc ta tb) :: (D2, tup3 b c a tb tc ta) :: (D1, tup3 a b c ta tb tc) :: T')) → (Has m' ((Str.ofString "linear", .int (linTo a b c j) tl) :: tHas ks is k1 k2 k3 (base5 a b c t u ta tb tc tu tt))) → GG ({ s with heap := h', toks := tk' })) → GG i0) (fun n j h' tk' m' T' tl oI hh0 hh1 hh2 hh3 hh4 hh5 hh6 hh7 GG gg => gg j h' tk' m' T' tl oI hh0 hh1 hh2 hh3 hh4 hh5 hh6 hh7) (fun n GG gg i0 hh => hh GG gg) (fun I iI eI => ?_)
    refine forLoop_ruleTP I 3 ?_ ?_
    · refine iI _ 0 _ _ _ T _ { cls := .type "list_iterator", data := .fields #[.ref l, .int 0 0] } rfl TT ?_ rfl rfl (kF.push _) ?_ (.cons rfl (.cons rfl (.cons rfl (.cons rfl (.cons rfl (.cons rfl (.cons rfl (.cons rfl (.cons rfl .nil)))))))))
      · exact fa5 (fun q hq => Nat.ne_of_lt (hsz q (.tail _ (.tail _ (.tail _ (.tail _ hq)))))) (ne_allLt lL.2.2.2 (Nat.le_refl _)) (ne_allLt lD3.2.2 (Nat.le_refl _)) (ne_allLt lD2.2 (Nat.le_refl _)) (fun q hq => Nat.ne_of_lt (lD1 q hq))
      · intro q hq
        rcases List.mem_cons.mp hq with rfl | hq
        · exact ⟨Heap.get?_push_size _ rfl, Nat.ne_of_gt hLs, Heap.get?_none_of_le (Nat.le_trans kF.above (Nat.le_of_lt hLs))⟩
        · exact ⟨Heap.get?_push_of_some _ (kN q hq).1, (kN q hq).2⟩
    · intro n
      refine eI n _ (fun j h' tk' m' T' tl oI hn TT2 hT' hcl hdt F2 N2 hm2 => ?_)
      intro E' P hnext hbrk hrv
      clear kF kN
      have hdis : ∀ q ∈ (l, W.listOf #[.ref D1, .ref D2, .ref D3] 0) :: (D3, tup3 c a b tc ta tb) :: (D2, tup3 b c a tb tc ta) :: (D1, tup3 a b c ta tb tc) :: T', q.1 ≠ hX.objs.size :=
        fa5' (Nat.ne_of_lt (hsz _ (.head _))) (Nat.ne_of_lt (hsz _ (.tail _ (.head _)))) (Nat.ne_of_lt (hsz _ (.tail _ (.tail _ (.head _))))) (Nat.ne_of_lt (hsz _ (.tail _ (.tail _ (.tail _ (.head _)))))) (hT' _ (.head _))
      have hap0 : ∀ e : Addr, e ∈ [hX.objs.size, l, D3, D2, D1] → e ≠ 51 ∧ e ≠ 58 := fun e he => by
        obtain ⟨o1, o2, r9, e9, _⟩ := TT2
        exact ⟨Ne.symm (hT' _ he (51, o1) (e9 ▸ .head _)), Ne.symm (hT' _ he (58, o2) (e9 ▸ .tail _ (.head _)))⟩
      have Ait := hap0 hX.objs.size (.head _)
      have Al := hap0 l (.tail _ (.head _))
      have AD3 := hap0 D3 (.tail _ (.tail _ (.head _)))
      have AD2 := hap0 D2 (.tail _ (.tail _ (.tail _ (.head _))))
      have AD1 := hap0 D1 (.tail _ (.tail _ (.tail _ (.tail _ (.head _)))))
      rcases j with _ | _ | _ | j
      · refine wpAny_pyNext_list_item (x := .ref D1) ⟨oI, (N2 _ (.head _)).1, hcl, hdt⟩ (News.isList N2 (.tail _ (.head _))) rfl (fun h3 it3 sb3 => ?_)
        obtain ⟨oI2, hz1⟩ := it3
        have hoI2 := hz1.1
        have hcl2 := hz1.2.1
        have hdt2 := hz1.2.2
        have hz2 := iter_step F2 N2 hdis sb3 hoI2
        have F3 := hz2.1
        have N3 := hz2.2
        refine wpAny_letOwnedTupleGo_listiter ⟨oI2, (N3 _ (.head _)).1, hcl2, hdt2⟩ ?_
        refine lin_turn (s := ⟨_, s.gens, _, _, _⟩) (r := D1) (tx := ta) (ty := tb) (tz := tc) (fr := (hX.objs.size, oI2) :: (l, W.listOf #[.ref D1, .ref D2, .ref D3] 0) :: (D3, tup3 c a b tc ta tb) :: [(D2, tup3 b c a tb tc ta)]) (T := T') ⟨B, X, T0⟩ F3 hm2 (News.pick1 N3) TT2 ?_ hdp hun hu hub a8 b8 c0 c8 ?hb1 ?hc1 ?_
        · exact List.forall_mem_cons.mpr ⟨AD1, List.forall_mem_cons.mpr ⟨Ait, List.forall_mem_cons.mpr ⟨Al, List.forall_mem_cons.mpr ⟨AD3, List.forall_mem_cons.mpr ⟨AD2, List.forall_mem_nil _⟩⟩⟩⟩⟩
        case hb1 => rfl
        case hc1 => rfl
        intro tl3 h5 tk5 m5 T5 TT5 ap5 F5 N5 hm5
        refine hnext 2 _ (by omega) (iI _ 1 h5 tk5 m5 T5 tl3 oI2 rfl TT5 ?_ hcl2 hdt2 F5 (News.put1 N5) hm5)
        exact fa5 (ap5 (hX.objs.size, oI2) (.tail _ (.head _)) (hT' _ (.head _))) (ap5 (_, W.listOf #[.ref D1, .ref D2, .ref D3] 0) (.tail _ (.tail _ (.head _))) (hT' _ (.tail _ (.head _)))) (ap5 (_, tup3 c a b tc ta tb) (.tail _ (.tail _ (.tail _ (.head _)))) (hT' _ (.tail _ (.tail _ (.head _))))) (ap5 (_, tup3 b c a tb tc ta) (.tail _ (.tail _ (.tail _ (.tail _ (.head _))))) (hT' _ (.tail _ (.tail _ (.tail _ (.head _)))))) (ap5 (_, tup3 a b c ta tb tc) (.head _) (hT' _ (.tail _ (.tail _ (.tail _ (.tail _ (.head _)))))))
      · refine wpAny_pyNext_list_item (x := .ref D2) ⟨oI, (N2 _ (.head _)).1, hcl, hdt⟩ (News.isList N2 (.tail _ (.head _))) rfl (fun h3 it3 sb3 => ?_)
        obtain ⟨oI2, hz3⟩ := it3
        have hoI2 := hz3.1
        have hcl2 := hz3.2.1
        have hdt2 := hz3.2.2
        have hz4 := iter_step F2 N2 hdis sb3 hoI2
        have F3 := hz4.1
        have N3 := hz4.2
        refine wpAny_letOwnedTupleGo_listiter ⟨oI2, (N3 _ (.head _)).1, hcl2, hdt2⟩ ?_
        refine lin_turn (s := ⟨_, s.gens, _, _, _⟩) (r := D2) (tx := tb) (ty := tc) (tz := ta) (fr := (hX.objs.size, oI2) :: (l, W.listOf #[.ref D1, .ref D2, .ref D3] 0) :: (D3, tup3 c a b tc ta tb) :: [(D1, tup3 a b c ta tb tc)]) (T := T') ⟨B, X, T0⟩ F3 hm2 (News.pick2 N3) TT2 ?_ hdp hun hu hub b8 c8 a0 a8 ?hb2 ?hc2 ?_
        · exact List.forall_mem_cons.mpr ⟨AD2, List.forall_mem_cons.mpr ⟨Ait, List.forall_mem_cons.mpr ⟨Al, List.forall_mem_cons.mpr ⟨AD3, List.forall_mem_cons.mpr ⟨AD1, List.forall_mem_nil _⟩⟩⟩⟩⟩
        case hb2 => rfl
        case hc2 => rfl
        intro tl3 h5 tk5 m5 T5 TT5 ap5 F5 N5 hm5
        refine hnext 1 _ (by omega) (iI _ 2 h5 tk5 m5 T5 tl3 oI2 rfl TT5 ?_ hcl2 hdt2 F5 (News.put2 N5) hm5)
        exact fa5 (ap5 (hX.objs.size, oI2) (.tail _ (.head _)) (hT' _ (.head _))) (ap5 (_, W.listOf #[.ref D1, .ref D2, .ref D3] 0) (.tail _ (.tail _ (.head _))) (hT' _ (.tail _ (.head _)))) (ap5 (_, tup3 c a b tc ta tb) (.tail _ (.tail _ (.tail _ (.head _)))) (hT' _ (.tail _ (.tail _ (.head _))))) (ap5 (_, tup3 b c a tb tc ta) (.head _) (hT' _ (.tail _ (.tail _ (.tail _ (.head _)))))) (ap5 (_, tup3 a b c ta tb tc) (.tail _ (.tail _ (.tail _ (.tail _ (.head _))))) (hT' _ (.tail _ (.tail _ (.tail _ (.tail _ (.head _)))))))
      · refine wpAny_pyNext_list_item (x := .ref D3) ⟨oI, (N2 _ (.head _)).1, hcl, hdt⟩ (News.isList N2 (.tail _ (.head _))) rfl (fun h3 it3 sb3 => ?_)
        obtain ⟨oI2, hz5⟩ := it3
        have hoI2 := hz5.1
        have hcl2 := hz5.2.1
        have hdt2 := hz5.2.2
        have hz6 := iter_step F2 N2 hdis sb3 hoI2
        have F3 := hz6.1
        have N3 := hz6.2
        refine wpAny_letOwnedTupleGo_listiter ⟨oI2, (N3 _ (.head _)).1, hcl2, hdt2⟩ ?_
        refine lin_turn (s := ⟨_, s.gens, _, _, _⟩) (r := D3) (tx := tc) (ty := ta) (tz := tb) (fr := (hX.objs.size, oI2) :: (l, W.listOf #[.ref D1, .ref D2, .ref D3] 0) :: (D2, tup3 b c a tb tc ta) :: [(D1, tup3 a b c ta tb tc)]) (T := T') ⟨B, X, T0⟩ F3 hm2 (News.pick3 N3) TT2 ?_ hdp hun hu hub c8 a8 b0 b8 ?hb3 ?hc3 ?_
        · exact List.forall_mem_cons.mpr ⟨AD3, List.forall_mem_cons.mpr ⟨Ait, List.forall_mem_cons.mpr ⟨Al, List.forall_mem_cons.mpr ⟨AD2, List.forall_mem_cons.mpr ⟨AD1, List.forall_mem_nil _⟩⟩⟩⟩⟩
        case hb3 => rfl
        case hc3 => rfl
        intro tl3 h5 tk5 m5 T5 TT5 ap5 F5 N5 hm5
        refine hnext 0 _ (by omega) (iI _ 3 h5 tk5 m5 T5 tl3 oI2 rfl TT5 ?_ hcl2 hdt2 F5 (News.put3 N5) hm5)
        exact fa5 (ap5 (hX.objs.size, oI2) (.tail _ (.head _)) (hT' _ (.head _))) (ap5 (_, W.listOf #[.ref D1, .ref D2, .ref D3] 0) (.tail _ (.tail _ (.head _))) (hT' _ (.tail _ (.head _)))) (ap5 (_, tup3 c a b tc ta tb) (.head _) (hT' _ (.tail _ (.tail _ (.head _))))) (ap5 (_, tup3 b c a tb tc ta) (.tail _ (.tail _ (.tail _ (.head _)))) (hT' _ (.tail _ (.tail _ (.tail _ (.head _)))))) (ap5 (_, tup3 a b c ta tb tc) (.tail _ (.tail _ (.tail _ (.tail _ (.head _))))) (hT' _ (.tail _ (.tail _ (.tail _ (.tail _ (.head _)))))))
      · have hj0 : j = 0 := by omega
        rw [hj0] at hdt hm2
        refine wpAny_pyNext_list_end rfl ⟨oI, (N2 _ (.head _)).1, hcl, hdt⟩ (News.isList N2 (.tail _ (.head _))) rfl (fun h3 eb3 => ?_)
        have hz7 := iter_ext F2 N2 hdis eb3
        have F3 := hz7.1
        have N3 := hz7.2
        exact iQ1 tl h3 tk' m' T' TT2 F3 (News.sub N3 (fun q hq => .tail _ (.tail _ (.tail _ (.tail _ hq))))) hm2
  · intro tl h' tk' m' T' h1 h2 h3 h4
    exact hQ tl h' tk' m' T' h1 h2 h3 h4
end
end
section
section
variable {fa : Addr} {w : World} {p : Program} {loose : List Str} {mean : ExcName → Option Value} {mg mb : Str → Option Value} {dp un : Nat} {gd : Option (List Code)} {h₀ : Heap} {L : Addr} {m : Str → Option Value} {cd : Value} {rest : List (Addr × Obj)} {s : Shared} {Q : Flow → Shared → Prop} {E : Value → Shared → Prop} {a b c t : Nat} {u : Int} {ta tb tc tu tt : Tok} {k1 k2 k3 tl : Tok} {ks is : List Nat}
def fewerL (a b c t : Nat) : Int := ((sumDiv (a * b) (innerAll a b c t) : Nat) : Int) - pointsL a b c t
theorem Legs.twelve {a b c t : Nat} (h : Legs a b c t) : twelveL a b c t = 12 * a * b * c * (pointsL a b c t : Nat) ∧ pointsL a b c t < 100000 ∧ -(squareL a b c * t * t + 4) = 2 * fewerL a b c t := by
  have h1 := h.ok
  unfold lawOk at h1
  simp only [Bool.and_eq_true, decide_eq_true_eq] at h1
  exact ⟨h1.1.1.1, h1.1.1.2, h1.1.2⟩
theorem law7 {T : List (Addr × Obj)} (C : LawCtx w p loose mean mg mb h₀) (F : Fr h₀ L s.heap m) (hm : Has m ((Str.ofString "linear", .int (linearL a b c) tl) :: tHas ks is k1 k2 k3 (base5 a b c t u ta tb tc tu tt))) (N : News h₀ L s.heap T) (TT : TabL T) (hdp : dp + 200 < recursionLimit) (hun : un + 2000 < cLine) (hL : Legs a b c t) (hu : u ≠ 0) (hub : Builtin.Int.intBits u ≤ 300)
    {body : List Stmt} (hb : body = lawBody.drop 15)
    (hQ : ∀ (t1 t2 : Tok) (h' : Heap) (tk' : Nat) (m' : Str → Option Value) (T' : List (Addr × Obj)), TabL T' → Fr h₀ L h' m' → News h₀ L h' T' → Has m' ((Str.ofString "points", .int (pointsL a b c t : Nat) t1) :: (Str.ofString "fewer", .int (fewerL a b c t) t2) :: tHas ks is k1 k2 k3 (base5 a b c t u ta tb tc tu tt)) →
      wpAny (model PG w) (lawA dp un gd L fa cd) (execs (body.drop 5) (envOf lawN lawScope L fa cd)) Q E { s with heap := h', toks := tk' }) :
    wpAny (model PG w) (lawA dp un gd L fa cd) (execs body (envOf lawN lawScope L fa cd)) Q E s := by
  conv at hb => rhs; whnf
  subst hb
  obtain ⟨a0, a8, b0, b8, c0, c8, t0, t7, hab, habc, hsm⟩ := id hL
  obtain ⟨B, X, T0⟩ := C
  k_with_none
  k_with "k all" => (first | exact ne_all (by assumption) (by omega) | exact ne_allLt (by assumption) (by omega) | exact ne_allLt (And.right (by assumption)) (by omega) | exact ne_allLt (And.right (And.right (by assumption))) (by omega) | exact ne_allLt (And.right (And.right (And.right (by assumption)))) (by omega) | exact ne_allLt (And.right (And.right (And.right (And.right (by assumption))))) (by omega) | assumption)
  k_with "is list" => (exact News.isList (by assumption) (by k_mem))
  k_with "mul fits" => (first | exact PySem.IntMulOk.of_right (Mine.fit8 (by with_reducible assumption)) | exact PySem.IntMulOk.of_left (Mine.fit8 (by with_reducible assumption)) | exact PySem.IntMulOk.of_left (Mine.fitL (by decide)) | exact PySem.IntMulOk.of_right (Mine.fitL (by decide)))
  k_with "omega" => (first | with_reducible assumption | exact Mine.rl1 (by with_reducible assumption) (by decide) | exact Mine.rl2 (by with_reducible assumption) (by decide) | exact Mine.rl0 (by with_reducible assumption) | decide | (law_clear; law_purse 20000 => lia))
  k_with "binaryOp Pow int int" => (k_here; (with_reducible show wpAny _ _ (binaryOp _ (Value.int (Nat.cast _) _) (Value.int 2 _)) _ _ _); refine halt ?_)
  k_with "exec If" => (k_here; refine halt ?_)
  (have HH : PySem.Challenge.rw_sr0069_01.row.prog = PG ∧ Mine.hd.heap_39 = Mine.hd.heap_39 := ⟨rfl, rfl⟩)
  revert HH
  k_fill
  intro HH
  clear HH
  have ht3 : Builtin.Int.intBits ((t : Int) ^ Int.toNat 3) ≤ 8 := by
    have e : (t : Int) ^ Int.toNat 3 = ((t ^ 3 : Nat) : Int) := by rw [Int.natCast_pow]; rfl
    have h7 : t ^ 3 ≤ 6 ^ 3 := Nat.pow_le_pow_left (by omega) 3
    rw [e]
    exact bits_small (by omega) (by omega)
  have ht2 : Builtin.Int.intBits ((t : Int) ^ Int.toNat 2) ≤ 8 := by
    have e : (t : Int) ^ Int.toNat 2 = ((t ^ 2 : Nat) : Int) := by rw [Int.natCast_pow]; rfl
    have h7 : t ^ 2 ≤ 6 ^ 2 := Nat.pow_le_pow_left (by omega) 2
    rw [e]
    exact bits_small (by omega) (by omega)
  have eabc : (a : Int) * b * c = ((a * b * c : Nat) : Int) := by rw [Int.natCast_mul, Int.natCast_mul]
  have habc3 : a * b * c ≤ 7 * 7 * 7 := Nat.mul_le_mul (Nat.mul_le_mul (by omega) (by omega)) (by omega)
  have hsq : squareL a b c = ((a * b + b * c + c * a + 1 : Nat) : Int) := by unfold squareL; push_cast; rfl
  have hsq2 : a * b + b * c + c * a + 1 ≤ 148 := by
    have e1 : a * b ≤ 7 * 7 := Nat.mul_le_mul (by omega) (by omega)
    have e2 : b * c ≤ 7 * 7 := Nat.mul_le_mul (by omega) (by omega)
    have e3 : c * a ≤ 7 * 7 := Nat.mul_le_mul (by omega) (by omega)
    omega
  obtain ⟨li, hli⟩ : ∃ x, x = linearL a b c := ⟨_, rfl⟩
  obtain ⟨sq, hsqe⟩ : ∃ x, x = squareL a b c := ⟨_, rfl⟩
  rw [← hli] at hm
  refine opq (A := fun Q1 : Flow → Shared → Prop => ∀ (ts : Tok) (h' : Heap) (tk' : Nat) (m' : Str → Option Value), (Fr h₀ L h' m') → (News h₀ L h' T) → (Has m' ((Str.ofString "square", .int sq ts) :: (Str.ofString "linear", .int li tl) :: tHas ks is k1 k2 k3 (base5 a b c t u ta tb tc tu tt))) → Q1  (.next) ({ s with heap := h', toks := tk' })) (B := fun Q1 => ∀  (GG : Flow → Shared → Prop), (∀ (ts : Tok) (h' : Heap) (tk' : Nat) (m' : Str → Option Value), (Fr h₀ L h' m') → (News h₀ L h' T) → (Has m' ((Str.ofString "square", .int sq ts) :: (Str.ofString "linear", .int li tl) :: tHas ks is k1 k2 k3 (base5 a b c t u ta tb tc tu tt))) → GG (.next) ({ s with heap := h', toks := tk' })) → ∀ (i0 : Flow) (i1 : Shared), Q1  i0 i1 → GG i0 i1) (fun  i0 i1 => ∀ GG : Flow → Shared → Prop, (∀ (ts : Tok) (h' : Heap) (tk' : Nat) (m' : Str → Option Value), (Fr h₀ L h' m') → (News h₀ L h' T) → (Has m' ((Str.ofString "square", .int sq ts) :: (Str.ofString "linear", .int li tl) :: tHas ks is k1 k2 k3 (base5 a b c t u ta tb tc tu tt))) → GG (.next) ({ s with heap := h', toks := tk' })) → GG i0 i1) (fun  ts h' tk' m' hh0 hh1 hh2 GG gg => gg ts h' tk' m' hh0 hh1 hh2) (fun  GG gg i0 i1 hh => hh GG gg) (fun Q1 iQ1 eQ1 => ?_)
  refine wpAny_execs_cons (wpAny_mono (Q := Q1) ?_ (eQ1 _ ?_) (fun _ _ e => e))
  · replace F := Fr.known F _ hm
    clear eabc habc3 hsq2 hsq
    k_steps
    exact iQ1 _ _ _ _ (by assumption) (by assumption) (.cons (by rw [hsqe]; rfl) (.cons rfl (.cons rfl (.cons rfl (.cons rfl (.cons rfl (.cons rfl (.cons rfl (.cons rfl (.cons rfl .nil))))))))))
  intro ts h' tk' m' F2 N2 hm2
  have hsq0 : 0 ≤ sq := by omega
  have hsq9 : sq ≤ 148 := by omega
  refine opq (A := fun Q1 : Flow → Shared → Prop => ∀ (tw : Tok) (h' : Heap) (tk' : Nat) (m' : Str → Option Value), (Fr h₀ L h' m') → (News h₀ L h' T) → (Has m' ((Str.ofString "twelve", .int (twelveL a b c t) tw) :: (Str.ofString "square", .int sq ts) :: tHas ks is k1 k2 k3 (base5 a b c t u ta tb tc tu tt))) → Q1  (.next) ({ s with heap := h', toks := tk' })) (B := fun Q1 => ∀  (GG : Flow → Shared → Prop), (∀ (tw : Tok) (h' : Heap) (tk' : Nat) (m' : Str → Option Value), (Fr h₀ L h' m') → (News h₀ L h' T) → (Has m' ((Str.ofString "twelve", .int (twelveL a b c t) tw) :: (Str.ofString "square", .int sq ts) :: tHas ks is k1 k2 k3 (base5 a b c t u ta tb tc tu tt))) → GG (.next) ({ s with heap := h', toks := tk' })) → ∀ (i0 : Flow) (i1 : Shared), Q1  i0 i1 → GG i0 i1) (fun  i0 i1 => ∀ GG : Flow → Shared → Prop, (∀ (tw : Tok) (h' : Heap) (tk' : Nat) (m' : Str → Option Value), (Fr h₀ L h' m') → (News h₀ L h' T) → (Has m' ((Str.ofString "twelve", .int (twelveL a b c t) tw) :: (Str.ofString "square", .int sq ts) :: tHas ks is k1 k2 k3 (base5 a b c t u ta tb tc tu tt))) → GG (.next) ({ s with heap := h', toks := tk' })) → GG i0 i1) (fun  tw h' tk' m' hh0 hh1 hh2 GG gg => gg tw h' tk' m' hh0 hh1 hh2) (fun  GG gg i0 i1 hh => hh GG gg) (fun Q1 iQ1 eQ1 => ?_)
  refine wpAny_execs_cons (wpAny_mono (Q := Q1) ?_ (eQ1 _ ?_) (fun _ _ e => e))
  · replace F2 := Fr.known F2 _ hm2
    clear F N hsq
    k_steps
    refine mul_int ?_ (IntMulOk.of_right (Nat.le_trans ht3 (by decide)))
    k_steps
    unfold Halt
    refine pow_int_small (by decide) (by decide) (by omega) ?_
    k_here
    refine mul_int ?_ (IntMulOk.of_right (Nat.le_trans ht2 (by decide)))
    k_steps
    have etw : 2 * ((a : Int) * b * c) ^ Int.toNat 2 * (t : Int) ^ Int.toNat 3 + 3 * (a : Int) * b * c * sq * (t : Int) ^ Int.toNat 2 + li * t + 12 * a * b * c = twelveL a b c t := by rw [hsqe, hli]; rfl
    exact iQ1 _ _ _ _ (by assumption) (by assumption) (.cons (int_val etw rfl) (.cons rfl (.cons rfl (.cons rfl (.cons rfl (.cons rfl (.cons rfl (.cons rfl (.cons rfl (.cons rfl .nil))))))))))
  clear F2 N2 hm2 F N hm
  intro tw2 h' tk' m' F2 N2 hm2
  obtain ⟨h12, hp5, hf2⟩ := hL.twelve
  rw [← hsqe] at hf2
  generalize twelveL a b c t = tw at *
  generalize fewerL a b c t = f at *
  generalize pointsL a b c t = pp at *
  have htwn : tw = ((12 * (a * b * c) * pp : Nat) : Int) := by
    rw [h12]
    push_cast
    simp only [Int.mul_assoc]
  have htwl : 12 * (a * b * c) * pp ≤ 12 * 343 * 100000 := Nat.mul_le_mul (Nat.mul_le_mul_left 12 habc3) (Nat.le_of_lt hp5)
  have htw0 : 0 ≤ tw := by omega
  have htw9 : tw < 500000000 := by omega
  have htwb : Builtin.Int.intBits tw ≤ 29 := bits_small htw0 (by omega)
  have habc0 : 0 < a * b * c := Nat.mul_pos (Nat.mul_pos a0 b0) c0
  clear hli hsqe
  have hy : u * 12 * a * b * c ≠ 0 := Int.mul_ne_zero (Int.mul_ne_zero (Int.mul_ne_zero (Int.mul_ne_zero hu (by decide)) (by omega)) (by omega)) (by omega)
  have exy : u * tw = u * 12 * a * b * c * (pp : Int) := by
    rw [h12]
    simp only [Int.mul_assoc]
  have eq1 : (u * tw).fdiv (u * 12 * a * b * c) = (pp : Int) := by rw [exy]; exact Int.mul_fdiv_cancel_left _ hy
  have eq2 : (u * tw).fmod (u * 12 * a * b * c) = 0 := by rw [exy]; exact Int.mul_fmod_right _ _
  have hub1 := bits_pos hu
  have hxb : Builtin.Int.intBits (u * tw) ≤ 29 + Builtin.Int.intBits u := by
    rw [Int.mul_comm]
    exact bits_mul (intBits_le_iff.mp htwb) (Nat.le_refl _)
  have hyb1 : Builtin.Int.intBits u ≤ Builtin.Int.intBits (u * 12 * a * b * c) := by
    have e : u * 12 * a * b * c = (12 * ((a * b * c : Nat) : Int)) * u := by
      push_cast
      simp only [Int.mul_assoc, Int.mul_comm, Int.mul_left_comm]
    rw [e]
    exact bits_mul_ge (by omega)
  have hyb2 : Builtin.Int.intBits (u * 12 * a * b * c) ≤ 13 + Builtin.Int.intBits u := by
    have e : u * 12 * a * b * c = ((12 * (a * b * c) : Nat) : Int) * u := by
      push_cast
      simp only [Int.mul_assoc, Int.mul_comm, Int.mul_left_comm]
    rw [e]
    exact bits_mul (by omega) (Nat.le_refl _)
  replace F2 := Fr.known F2 _ hm2
  clear hsq2 eabc habc3 htwn h12 exy
  k_steps
  refine c_idm (fr := []) (T := T) (outer := []) (A₀ := callerA) (base := h₀) ⟨B, X, T0, rfl⟩ (by assumption) (by assumption) TT (List.forall_mem_nil _) (by omega) (by omega) hy (by omega) (by omega) (by omega) ?_
  rw [eq1, eq2]
  intro r t1 t1' h3 tk3 T3 F3 N3 TT3 l1 l2 l3 l4
  have e5 : (-(sq * (t : Int) * t + 4)).fdiv 2 = f ∧ (-(sq * (t : Int) * t + 4)).fmod 2 = 0 := by
    rw [hf2]
    exact ⟨Int.mul_fdiv_cancel_left _ (by decide), Int.mul_fmod_right _ _⟩
  have hst : sq * (t : Int) ≤ 148 * 6 := Int.mul_le_mul (by omega) (by omega) (by omega) (by omega)
  have hst0 : 0 ≤ sq * (t : Int) := Int.mul_nonneg (by omega) (by omega)
  have hstt : sq * (t : Int) * t ≤ 148 * 6 * 6 := Int.mul_le_mul (by omega) (by omega) (by omega) (by omega)
  have hstt0 : 0 ≤ sq * (t : Int) * t := Int.mul_nonneg (by omega) (by omega)
  have hb5 : Builtin.Int.intBits (-(sq * (t : Int) * t + 4)) ≤ 14 := bits_abs (by omega)
  k_steps
  refine c_idm (fr := []) (T := T3) (outer := []) (A₀ := callerA) (base := h₀) ⟨B, X, T0, rfl⟩ (by assumption) (News.sub (by assumption) (fun q hq => .tail _ hq)) TT3 (List.forall_mem_nil _) (by omega) (by omega) (by decide) (by omega) (by decide) (Nat.le_trans hb5 (by decide)) ?_
  rw [e5.1, e5.2]
  intro r5 t5 t5' h5 tk5 T5 F5 N5 TT5 l5 l6 l7 l8
  k_steps
  unfold Halt
  refine opq (A := fun Q1 : Flow → Shared → Prop => ∀ (t1 t2 : Tok) (h' : Heap) (tk' : Nat) (m' : Str → Option Value) (T' : List (Addr × Obj)), (TabL T') → (Fr h₀ L h' m') → (News h₀ L h' T') → (Has m' ((Str.ofString "points", .int (pp : Nat) t1) :: (Str.ofString "fewer", .int f t2) :: tHas ks is k1 k2 k3 (base5 a b c t u ta tb tc tu tt))) → Q1  (.next) ({ s with heap := h', toks := tk' })) (B := fun Q1 => ∀  (GG : Flow → Shared → Prop), (∀ (t1 t2 : Tok) (h' : Heap) (tk' : Nat) (m' : Str → Option Value) (T' : List (Addr × Obj)), (TabL T') → (Fr h₀ L h' m') → (News h₀ L h' T') → (Has m' ((Str.ofString "points", .int (pp : Nat) t1) :: (Str.ofString "fewer", .int f t2) :: tHas ks is k1 k2 k3 (base5 a b c t u ta tb tc tu tt))) → GG (.next) ({ s with heap := h', toks := tk' })) → ∀ (i0 : Flow) (i1 : Shared), Q1  i0 i1 → GG i0 i1) (fun  i0 i1 => ∀ GG : Flow → Shared → Prop, (∀ (t1 t2 : Tok) (h' : Heap) (tk' : Nat) (m' : Str → Option Value) (T' : List (Addr × Obj)), (TabL T') → (Fr h₀ L h' m') → (News h₀ L h' T') → (Has m' ((Str.ofString "points", .int (pp : Nat) t1) :: (Str.ofString "fewer", .int f t2) :: tHas ks is k1 k2 k3 (base5 a b c t u ta tb tc tu tt))) → GG (.next) ({ s with heap := h', toks := tk' })) → GG i0 i1) (fun  t1 t2 h' tk' m' T' hh0 hh1 hh2 hh3 GG gg => gg t1 t2 h' tk' m' T' hh0 hh1 hh2 hh3) (fun  GG gg i0 i1 hh => hh GG gg) (fun Q1 iQ1 eQ1 => ?_)
  refine wpAny_mono (Q := Q1) ?_ (eQ1 _ ?_) (fun _ _ e => e)
  · refine wpAny_If ?_
    k_steps
    exact iQ1 _ _ _ _ _ T5 TT5 (by assumption) (News.sub (by assumption) (fun q hq => .tail _ hq)) (.cons rfl (.cons rfl (.cons rfl (.cons rfl (.cons rfl (.cons rfl (.cons rfl (.cons rfl (.cons rfl (.cons rfl .nil))))))))))
  · intro t1 t2 h' tk' m' T' h1 h2 h3 h4
    exact hQ t1 t2 h' tk' m' T' h1 h2 h3 h4
end
end
section
theorem gaps_asc (ks : List Nat) : (gaps ks).all (· < 128) = true := by
  induction ks with
  | nil => rfl
  | cons k ks ih =>
    have e : gaps (k :: ks) = (List.replicate k 32 ++ [9]) ++ gaps ks := rfl
    rw [e, List.all_append, ih, List.all_append]
    simp
theorem row_head {a b c t : Nat} : ∀ k, ∃ r, rowTo a b c t 0 (k + 1) = 0 :: r
  | 0 => ⟨[], by show [] ++ [cellAt a b c t 0 0] = [0]; simp [cellAt, lowY, ← Nat.mul_assoc]⟩
  | k + 1 => by
    obtain ⟨r, h⟩ := row_head (a := a) (b := b) (c := c) (t := t) k
    exact ⟨r ++ [cellAt a b c t 0 (k + 1)], by rw [rowTo_succ, h]; rfl⟩
theorem cells_head {a b c t : Nat} : ∀ n, ∃ r, cellsTo a b c t (n + 1) = 0 :: r
  | 0 => by
    obtain ⟨r, h⟩ := row_head (a := a) (b := b) (c := c) (t := t) (mostY a b t 0)
    exact ⟨r, by rw [cellsTo_succ, h]; rfl⟩
  | n + 1 => by
    obtain ⟨r, h⟩ := cells_head (a := a) (b := b) (c := c) (t := t) n
    exact ⟨r ++ rowTo a b c t (n + 1) (mostY a b t (n + 1) + 1), by rw [cellsTo_succ, h]; rfl⟩
theorem mul_txt (n : Int) : Txt.mul (Str.ofString " ") n = chs (List.replicate n.toNat 32) := by
  have e1 : Str.ofString " " = ⟨#[32]⟩ := by decide +kernel
  rw [e1]
  have h := mul_one_list 32 n
  generalize Txt.mul ⟨#[32]⟩ n = x at *
  obtain ⟨cps⟩ := x
  show (⟨cps⟩ : Str) = ⟨(List.replicate n.toNat 32).toArray⟩
  congr 1
  apply Array.ext'
  exact h
theorem x_tab : Str.ofString "x\t" = chs [120, 9] := by decide +kernel
theorem x_sp : Str.ofString "x " = chs [120, 32] := by decide +kernel
theorem add_any {prog : Program} {w : World} {A : Around} {E : Value → Shared → Prop} {s : Shared} {Q : Value → Shared → Prop} {l l' : List Nat} {y : Str} {t u : Tok} (e : y = chs l') (h : ∀ t' k, Q (.str (chs (l ++ l')) t') { s with toks := k }) (h1 : l.length < 100000) (h2 : l'.length < 100000) : wpAny (model prog w) A (binaryOp .Add (.str (chs l) t) (.str y u)) Q E s := by
  subst e
  exact SB.add (fun t' k => by rw [chs_app]; exact h t' k) (by rw [chs_length, chs_length]; exact Nat.le_trans (by omega) (by decide : 200000 ≤ sizeLine))
section
variable {fa : Addr} {w : World} {p : Program} {loose : List Str} {mean : ExcName → Option Value} {mg mb : Str → Option Value} {dp un : Nat} {gd : Option (List Code)} {h₀ : Heap} {L : Addr} {m : Str → Option Value} {cd : Value} {rest : List (Addr × Obj)} {s : Shared} {Q : Flow → Shared → Prop} {E : Value → Shared → Prop} {a b c t : Nat} {u : Int} {ta tb tc tu tt : Tok} {k1 k2 k3 k4 k5 tl : Tok}
theorem News.rot4 {h : Heap} {x1 x2 x3 x4 y1 y2 y3 y4 : Addr × Obj} {r : List (Addr × Obj)} (N : News h₀ L h (x1 :: x2 :: x3 :: x4 :: y1 :: y2 :: y3 :: y4 :: r)) : News h₀ L h (y1 :: y2 :: y3 :: y4 :: x1 :: x2 :: x3 :: x4 :: r) := News.at_ N (.tail _ (.tail _ (.tail _ (.tail _ (.head _))))) (News.at_ N (.tail _ (.tail _ (.tail _ (.tail _ (.tail _ (.head _)))))) (News.at_ N (.tail _ (.tail _ (.tail _ (.tail _ (.tail _ (.tail _ (.head _))))))) (News.at_ N (.tail _ (.tail _ (.tail _ (.tail _ (.tail _ (.tail _ (.tail _ (.head _)))))))) (News.at_ N (.head _) (News.at_ N (.tail _ (.head _)) (News.at_ N (.tail _ (.tail _ (.head _))) (News.at_ N (.tail _ (.tail _ (.tail _ (.head _)))) (fun q hq => N q (.tail _ (.tail _ (.tail _ (.tail _ (.tail _ (.tail _ (.tail _ (.tail _ hq))))))))))))))))
theorem law8 {T : List (Addr × Obj)} (C : LawCtx w p loose mean mg mb h₀) (F : Fr h₀ L s.heap m) (hm : Has m ((Str.ofString "points", .int (pointsL a b c t : Nat) k4) :: (Str.ofString "fewer", .int (fewerL a b c t) k5) :: tHas (cellsAll a b c t) (innerAll a b c t) k1 k2 k3 (base5 a b c t u ta tb tc tu tt))) (N : News h₀ L s.heap T) (hdp : dp + 200 < recursionLimit) (hun : un + 2000 < cLine) (hL : Legs a b c t)
    {body : List Stmt} (hb : body = lawBody.drop 20)
    (hQ : ∀ (h' : Heap) (tk' : Nat) (m' : Str → Option Value), Fr h₀ L h' m' → News h₀ L h' T → Has m' (base5 a b c t u ta tb tc tu tt) →
      wpAny (model PG w) (lawA dp un gd L fa cd) (execs (body.drop 3) (envOf lawN lawScope L fa cd)) Q E { s with heap := h', toks := tk' }) :
    wpAny (model PG w) (lawA dp un gd L fa cd) (execs body (envOf lawN lawScope L fa cd)) Q E s := by
  conv at hb => rhs; whnf
  subst hb
  obtain ⟨a0, a8, b0, b8, c0, c8, t0, t7, hab, habc, hsm⟩ := id hL
  obtain ⟨B, X, T0⟩ := C
  k_with_none
  k_with "k all" => (first | exact ne_all (by assumption) (by omega) | exact ne_allLt (by assumption) (by omega) | exact ne_allLt (And.right (by assumption)) (by omega) | exact ne_allLt (And.right (And.right (by assumption))) (by omega) | exact ne_allLt (And.right (And.right (And.right (by assumption)))) (by omega) | exact ne_allLt (And.right (And.right (And.right (And.right (by assumption))))) (by omega) | assumption)
  k_with "is list" => (exact News.isList (by assumption) (by k_mem))
  k_with "mul fits" => (first | exact PySem.IntMulOk.of_right (Mine.fit8 (by with_reducible assumption)) | exact PySem.IntMulOk.of_left (Mine.fit8 (by with_reducible assumption)) | exact PySem.IntMulOk.of_left (Mine.fitL (by decide)) | exact PySem.IntMulOk.of_right (Mine.fitL (by decide)))
  k_with "omega" => (first | with_reducible assumption | exact Mine.rl1 (by with_reducible assumption) (by decide) | exact Mine.rl2 (by with_reducible assumption) (by decide) | exact Mine.rl0 (by with_reducible assumption) | decide | (law_clear; law_purse 20000 => lia))
  k_with "binaryOp Add str str" => (k_here; (first | refine add_any (mul_txt _) ?_ ?_ ?_ | refine add_any x_tab ?_ ?_ ?_ | refine add_any x_sp ?_ ?_ ?_); rotate_left; (first | omega | (simp only [List.length_replicate]; omega)); (first | omega | (simp only [List.length_replicate]; omega) | exact (by decide)); intro _ _)
  k_with "binaryOp Mult int int" => (k_here; (with_reducible show wpAny _ _ (binaryOp Operator.Mult (Value.int (_ * _) _) (Value.int (_ + _ + _) _)) _ _ _); refine halt ?_)
  k_with "exec If" => (k_here; refine halt ?_)
  (have HH : PySem.Challenge.rw_sr0069_01.row.prog = PG ∧ Mine.hd.heap_39 = Mine.hd.heap_39 := ⟨rfl, rfl⟩)
  revert HH
  k_fill
  intro HH
  clear HH
  have hlen := hL.len
  have hlen2 : (gaps (innerAll a b c t)).length < 30000 := Nat.lt_of_le_of_lt (inn_cells_le a b c t _) hlen
  obtain ⟨f, hf⟩ : ∃ x, x = fewerL a b c t := ⟨_, rfl⟩
  obtain ⟨pp, hpp⟩ : ∃ x, x = pointsL a b c t := ⟨_, rfl⟩
  obtain ⟨ks, hks⟩ : ∃ x, x = cellsAll a b c t := ⟨_, rfl⟩
  obtain ⟨is, his⟩ : ∃ x, x = innerAll a b c t := ⟨_, rfl⟩
  have hp : pp = sumDiv (a * b) ks + ks.length := by rw [hpp, hks]; rfl
  have hfe : f = ((sumDiv (a * b) is : Nat) : Int) - pp := by rw [hf, his, hpp]; rfl
  have hhead : ∃ r, gaps ks = 9 :: r := by
    obtain ⟨r, h⟩ := cells_head (a := a) (b := b) (c := c) (t := t) (t * b)
    exact ⟨gaps r, by rw [hks]; show gaps (cellsTo a b c t (t * b + 1)) = _; rw [h]; rfl⟩
  rw [← hks] at hlen
  rw [← his] at hlen2
  rw [← hf, ← hpp, ← hks, ← his] at hm
  replace F := Fr.known F _ hm
  clear hf hpp hks his
  k_steps
  obtain ⟨r, hr⟩ := hhead
  have hst : strip (gaps ks ++ List.replicate ((t : Int) + 1).toNat 32) t = gaps ks ++ [32] := by
    rw [hr, show ((t : Int) + 1).toNat = t + 1 by omega, strip_tail _ _ _ (by decide)]
  have hsl : (gaps ks ++ List.replicate ((t : Int) + 1).toNat 32).length < 100000 := by
    rw [List.length_append, List.length_replicate]; omega
  refine c_strip (l := gaps ks ++ List.replicate ((t : Int) + 1).toNat 32) (n := t) (outer := []) (A₀ := callerA) (base := h₀) ⟨B, X, T0, rfl⟩ (by assumption) (by assumption) (by omega) (by omega) ⟨9, by rw [hr]; simp, by decide⟩ hsl (by omega) ?_
  intro t3 h3 tk3 F3 N3
  rw [hst]
  have hsl2 : (gaps ks ++ [32]).length < 100000 := by rw [List.length_append]; show _ + 1 < _; omega
  k_steps
  have hll1 : (gaps ks ++ [32] ++ [120, 9]).length < 100000 := by
    rw [List.length_append]; show _ + 2 < _; rw [List.length_append]; show _ + 1 + 2 < _; omega
  obtain ⟨n1, hw1⟩ := wsRun_text ks 1 120 [9] (by decide) (by decide)
  have hl1 : gaps ks ++ (List.replicate 1 32 ++ 120 :: [9]) = gaps ks ++ [32] ++ [120, 9] := by rw [List.append_assoc]; rfl
  rw [hl1] at hw1
  refine c_ws' hw1 (outer := []) (A₀ := callerA) (base := h₀) ⟨B, X, T0, rfl⟩ (by assumption) (by assumption) (by omega) (by omega) ?_ ?_ ?_ ?_
  · rw [List.append_assoc, List.all_append, gaps_asc]; rfl
  · exact ⟨120, by simp, by decide, by decide⟩
  · rw [List.length_append]; show _ + 2 < _; rw [List.length_append]; show _ + 1 + 2 < _; omega
  intro o1 d1 na1 ta1 vals1 q1 q2 q3 q4 q5 q6 q7 q8 q9 sm1 h4 tk4 hI1 hcl1 hbl1 F4 N4 ld1 ld2 ld3 ld4
  k_steps
  have hll2 : (gaps is ++ [120, 32]).length < 100000 := by rw [List.length_append]; show _ + 2 < _; omega
  obtain ⟨n2, hw2⟩ := wsRun_text is 0 120 [32] (by decide) (by decide)
  have hl2 : gaps is ++ (List.replicate 0 32 ++ 120 :: [32]) = gaps is ++ [120, 32] := rfl
  rw [hl2] at hw2
  refine c_ws' hw2 (outer := []) (A₀ := callerA) (base := h₀) ⟨B, X, T0, rfl⟩ (by assumption) (by assumption) (by omega) (by omega) ?_ ?_ ?_ ?_
  · rw [List.all_append, gaps_asc]; rfl
  · exact ⟨120, by simp, by decide, by decide⟩
  · rw [List.length_append]; show _ + 2 < _; omega
  intro o2 d2 na2 ta2 vals2 r1 r2 r3 r4 r5 r6 r7 r8 r9 sm2 h5 tk5 hI2 hcl2 hbl2 F5 N5 le1 le2 le3 le4
  k_steps
  unfold Halt
  refine opq (A := fun Q1 : Flow → Shared → Prop => ∀ (h' : Heap) (tk' : Nat) (m' : Str → Option Value), (Fr h₀ L h' m') → (News h₀ L h' T) → (Has m' (base5 a b c t u ta tb tc tu tt)) → Q1  (.next) ({ s with heap := h', toks := tk' })) (B := fun Q1 => ∀  (GG : Flow → Shared → Prop), (∀ (h' : Heap) (tk' : Nat) (m' : Str → Option Value), (Fr h₀ L h' m') → (News h₀ L h' T) → (Has m' (base5 a b c t u ta tb tc tu tt)) → GG (.next) ({ s with heap := h', toks := tk' })) → ∀ (i0 : Flow) (i1 : Shared), Q1  i0 i1 → GG i0 i1) (fun  i0 i1 => ∀ GG : Flow → Shared → Prop, (∀ (h' : Heap) (tk' : Nat) (m' : Str → Option Value), (Fr h₀ L h' m') → (News h₀ L h' T) → (Has m' (base5 a b c t u ta tb tc tu tt)) → GG (.next) ({ s with heap := h', toks := tk' })) → GG i0 i1) (fun  h' tk' m' hh0 hh1 hh2 GG gg => gg h' tk' m' hh0 hh1 hh2) (fun  GG gg i0 i1 hh => hh GG gg) (fun Q1 iQ1 eQ1 => ?_)
  refine wpAny_mono (Q := Q1) (wpAny_If ?_) (eQ1 _ ?_) (fun _ _ e => e)
  rotate_left
  · intro h' tk' m' h2 h3 h4
    exact hQ h' tk' m' h2 h3 h4
  k_steps
  have ea : (a : Int) * b = ((a * b : Nat) : Int) := (Int.natCast_mul a b).symm
  have hab0 : 0 < a * b := Nat.mul_pos a0 b0
  have hab9 : a * b ≤ 42 := ab42 a a8 b b8 hab
  rename (News h₀ L _ _) => kN
  have ev1 : ((1 : Nat) : Int) + ((a * b : Nat) : Int) * (((sumDiv (a * b) ks : Nat) : Int) + (ks.length : Nat)) = (a : Int) * b * (pp : Nat) + 1 := by
    rw [hp, ea, Int.natCast_add, Int.add_comm]; rfl
  have ev2 : ((0 : Nat) : Int) + ((a * b : Nat) : Int) * (((sumDiv (a * b) is : Nat) : Int) + (is.length : Nat)) = (a : Int) * b * ((is.length : Nat) + (pp : Nat) + f) := by
    rw [ea, hfe, Int.natCast_zero, Int.zero_add]
    congr 1
    omega
  refine c_indent ea (v := (a : Int) * b * (pp : Nat) + 1) (by rw [ilTo_gaps hab0]; exact ev1) (o := o1) (vals := vals1) (cnt := cntOf ks []) (outer := []) (A₀ := callerA) (base := h₀) ⟨B, X, T0, rfl⟩ (by assumption) (News.rot4 kN) hI1 (Nat.le_trans hcl1 (Nat.le_of_lt hll1)) hab0 (by omega) (by omega) (by omega) ?_
  intro t6 h6 tk6 F6 N6
  clear kN
  have N7 := News.rot4 N6
  clear N6
  k_steps
  refine c_indent ea (v := (a : Int) * b * ((is.length : Nat) + (pp : Nat) + f)) (by rw [ilTo_gaps hab0]; exact ev2) (o := o2) (vals := vals2) (cnt := cntOf is []) (outer := []) (A₀ := callerA) (base := h₀) ⟨B, X, T0, rfl⟩ (by assumption) N7 hI2 (Nat.le_trans hcl2 (Nat.le_of_lt hll2)) hab0 (by omega) (by omega) (by omega) ?_
  intro t8 h8 tk8 F8 N8
  have hfb : Builtin.Int.intBits ((a : Int) * b) ≤ 6 := by rw [ea]; exact bits_small (by omega) (by omega)
  k_steps
  unfold Halt
  refine mul_int ?_ (IntMulOk.of_left (Nat.le_trans hfb (by decide)))
  k_steps
  · exact iQ1 _ _ _ (by assumption) (News.sub (by assumption) (fun q hq => .tail _ (.tail _ (.tail _ (.tail _ (.tail _ (.tail _ (.tail _ (.tail _ hq))))))))) (.cons rfl (.cons rfl (.cons rfl (.cons rfl (.cons rfl .nil)))))
end
end
section
section
variable {fa : Addr} {w : World} {p : Program} {loose : List Str} {mean : ExcName → Option Value} {mg mb : Str → Option Value} {dp un : Nat} {gd : Option (List Code)} {h₀ : Heap} {L : Addr} {m : Str → Option Value} {cd : Value} {rest : List (Addr × Obj)} {s : Shared} {Q : Flow → Shared → Prop} {E : Value → Shared → Prop} {a b c t : Nat} {u : Int} {ta tb tc tu tt : Tok}
/-- what the j-th size is -/
def legAt (a b c : Nat) (j : Nat) : Int := if j = 0 then a else if j = 1 then b else c
def legsTo (a b c : Nat) : Nat → List Int
  | 0 => []
  | j + 1 => legsTo a b c j ++ [legAt a b c j]
theorem legsTo_succ (a b c j : Nat) : legsTo a b c (j + 1) = legsTo a b c j ++ [legAt a b c j] := rfl
theorem legsTo_len (a b c : Nat) : ∀ j, (legsTo a b c j).length = j
  | 0 => rfl
  | j + 1 => by rw [legsTo_succ, List.length_append, legsTo_len a b c j]; rfl
def legFor : Stmt := lawBody.getD 24 (.Pass default)
def legBody : List Stmt := forBody legFor
theorem leg_turn {j le cc : Nat} {acc : List Value} {tz : Tok} {R : List (Addr × Obj)} (C : LawCtx w p loose mean mg mb h₀) (F : Fr h₀ L s.heap m) (hm : Has m ((Str.ofString "size", .int (legAt a b c j) tz) :: (Str.ofString "legs", .ref le) :: base5 a b c t u ta tb tc tu tt)) (N : News h₀ L s.heap ((le, W.listOf acc.toArray cc) :: R)) (hR : ∀ q ∈ R, q.1 ≠ le) (hI : IntsAre acc (legsTo a b c j)) (hj : j ≤ 5) (hdp : dp + 200 < recursionLimit) (hun : un + 2000 < cLine)
    {body : List Stmt} (hb : body = legBody)
    (hQ : ∀ (h' : Heap) (tk' cc' : Nat) (m' : Str → Option Value) (acc' : List Value), IntsAre acc' (legsTo a b c (j + 1)) → Fr h₀ L h' m' → News h₀ L h' ((le, W.listOf acc'.toArray cc') :: R) → Has m' ((Str.ofString "legs", .ref le) :: base5 a b c t u ta tb tc tu tt) → Q (if j = 5 then .brk else .next) { s with heap := h', toks := tk' }) :
    wpAny (model PG w) (lawA dp un gd L fa cd) (execs body (envOf lawN lawScope L fa cd)) Q E s := by
  conv at hb => rhs; whnf
  subst hb
  obtain ⟨B, X, T0⟩ := C
  k_with_none
  k_with "k all" => (first | exact ne_all (by assumption) (by omega) | exact ne_allLt (by assumption) (by omega) | exact ne_allLt (And.right (by assumption)) (by omega) | exact ne_allLt (And.right (And.right (by assumption))) (by omega) | exact ne_allLt (And.right (And.right (And.right (by assumption)))) (by omega) | exact ne_allLt (And.right (And.right (And.right (And.right (by assumption))))) (by omega) | assumption)
  k_with "is list" => (exact News.isList (by assumption) (by k_mem))
  k_with "mul fits" => (first | exact PySem.IntMulOk.of_right (Mine.fit8 (by with_reducible assumption)) | exact PySem.IntMulOk.of_left (Mine.fit8 (by with_reducible assumption)) | exact PySem.IntMulOk.of_left (Mine.fitL (by decide)) | exact PySem.IntMulOk.of_right (Mine.fitL (by decide)))
  k_with "omega" => (first | with_reducible assumption | exact Mine.rl1 (by with_reducible assumption) (by decide) | exact Mine.rl2 (by with_reducible assumption) (by decide) | exact Mine.rl0 (by with_reducible assumption) | decide | (law_clear; law_purse 20000 => lia))
  k_with "exec For Name Call cons nil" => (k_here; refine halt ?_)
  (have HH : PySem.Challenge.rw_sr0069_01.row.prog = PG ∧ Mine.hd.heap_39 = Mine.hd.heap_39 := ⟨rfl, rfl⟩)
  revert HH
  k_fill
  intro HH
  clear HH
  have hvl := IntsAre.length hI
  rw [legsTo_len] at hvl
  replace F := Fr.known F _ hm
  k_steps
  rename (News h₀ L _ _) => kN
  refine len_list (News.isList kN (.head _)) ?_ ?_
  · simp; omega
  rw [show (((acc ++ [Value.int (legAt a b c j) tz]).toArray.size : Nat) : Int) = ((j + 1 : Nat) : Int) by simp [hvl]]
  have hI2 : IntsAre (acc ++ [Value.int (legAt a b c j) tz]) (legsTo a b c (j + 1)) := IntsAre.append hI (.cons _ _ .nil)
  k_steps
  · rename (5 < _) => h5
    simp only [if_pos (show j = 5 by omega)] at hQ
    exact hQ _ _ _ _ _ hI2 (by assumption) (by assumption) (.cons rfl (.cons rfl (.cons rfl (.cons rfl (.cons rfl (.cons rfl .nil))))))
  · rename (¬ 5 < _) => h5
    simp only [if_neg (show ¬ j = 5 by omega)] at hQ
    exact hQ _ _ _ _ _ hI2 (by assumption) (by assumption) (.cons rfl (.cons rfl (.cons rfl (.cons rfl (.cons rfl (.cons rfl .nil))))))
theorem legs_loop {T : List (Addr × Obj)} (C : LawCtx w p loose mean mg mb h₀) (F : Fr h₀ L s.heap m) (hm : Has m (base5 a b c t u ta tb tc tu tt)) (N : News h₀ L s.heap T) (hT : ∀ q ∈ T, ¬ ItO q.2) (hbare : AllBareG s.gens) (hdp : dp + 200 < recursionLimit) (hun : un + 2000 < cLine) (hL : Legs a b c t)
    {body : List Stmt} (hb : body = lawBody.drop 23)
    (hQ : ∀ (le cc : Nat) (acc : List Value) (h' : Heap) (tk' : Nat) (gens' : Array GenState) (m' : Str → Option Value), IntsAre acc (legsTo a b c 6) → (∀ q ∈ T, q.1 < le) → AllBareG gens' → Fr h₀ L h' m' → News h₀ L h' ((le, W.listOf acc.toArray cc) :: T) → Has m' ((Str.ofString "legs", .ref le) :: base5 a b c t u ta tb tc tu tt) →
      wpAny (model PG w) (lawA dp un gd L fa cd) (execs (body.drop 2) (envOf lawN lawScope L fa cd)) Q E { s with heap := h', toks := tk', gens := gens' }) :
    wpAny (model PG w) (lawA dp un gd L fa cd) (execs body (envOf lawN lawScope L fa cd)) Q E s := by
  conv at hb => rhs; whnf
  subst hb
  obtain ⟨a0, a8, b0, b8, c0, c8, t0, t7, hab, habc, hsm⟩ := id hL
  obtain ⟨B, X, T0⟩ := C
  k_with_none
  k_with "k all" => (first | exact ne_all (by assumption) (by omega) | exact ne_allLt (by assumption) (by omega) | exact ne_allLt (And.right (by assumption)) (by omega) | exact ne_allLt (And.right (And.right (by assumption))) (by omega) | exact ne_allLt (And.right (And.right (And.right (by assumption)))) (by omega) | exact ne_allLt (And.right (And.right (And.right (And.right (by assumption))))) (by omega) | assumption)
  k_with "is list" => (exact News.isList (by assumption) (by k_mem))
  k_with "mul fits" => (first | exact PySem.IntMulOk.of_right (Mine.fit8 (by with_reducible assumption)) | exact PySem.IntMulOk.of_left (Mine.fit8 (by with_reducible assumption)) | exact PySem.IntMulOk.of_left (Mine.fitL (by decide)) | exact PySem.IntMulOk.of_right (Mine.fitL (by decide)))
  k_with "omega" => (first | with_reducible assumption | exact Mine.rl1 (by with_reducible assumption) (by decide) | exact Mine.rl2 (by with_reducible assumption) (by decide) | exact Mine.rl0 (by with_reducible assumption) | decide | (law_clear; law_purse 20000 => lia))
  k_with "exec For Name Call cons nil" => (k_here; refine halt ?_)
  (have HH : PySem.Challenge.rw_sr0069_01.row.prog = PG ∧ Mine.hd.heap_39 = Mine.hd.heap_39 := ⟨rfl, rfl⟩)
  revert HH
  k_fill
  intro HH
  clear HH
  replace F := Fr.known F _ hm
  k_steps
  unfold Halt
  refine opq (A := fun Q1 : Flow → Shared → Prop => ∀ (le cc : Nat) (acc : List Value) (h' : Heap) (tk' : Nat) (gens' : Array GenState) (m' : Str → Option Value), (IntsAre acc (legsTo a b c 6)) → (∀ q ∈ T, q.1 < le) → (AllBareG gens') → (Fr h₀ L h' m') → (News h₀ L h' ((le, W.listOf acc.toArray cc) :: T)) → (Has m' ((Str.ofString "legs", .ref le) :: base5 a b c t u ta tb tc tu tt)) → Q1  (.next) ({ s with heap := h', toks := tk', gens := gens' })) (B := fun Q1 => ∀  (GG : Flow → Shared → Prop), (∀ (le cc : Nat) (acc : List Value) (h' : Heap) (tk' : Nat) (gens' : Array GenState) (m' : Str → Option Value), (IntsAre acc (legsTo a b c 6)) → (∀ q ∈ T, q.1 < le) → (AllBareG gens') → (Fr h₀ L h' m') → (News h₀ L h' ((le, W.listOf acc.toArray cc) :: T)) → (Has m' ((Str.ofString "legs", .ref le) :: base5 a b c t u ta tb tc tu tt)) → GG (.next) ({ s with heap := h', toks := tk', gens := gens' })) → ∀ (i0 : Flow) (i1 : Shared), Q1  i0 i1 → GG i0 i1) (fun  i0 i1 => ∀ GG : Flow → Shared → Prop, (∀ (le cc : Nat) (acc : List Value) (h' : Heap) (tk' : Nat) (gens' : Array GenState) (m' : Str → Option Value), (IntsAre acc (legsTo a b c 6)) → (∀ q ∈ T, q.1 < le) → (AllBareG gens') → (Fr h₀ L h' m') → (News h₀ L h' ((le, W.listOf acc.toArray cc) :: T)) → (Has m' ((Str.ofString "legs", .ref le) :: base5 a b c t u ta tb tc tu tt)) → GG (.next) ({ s with heap := h', toks := tk', gens := gens' })) → GG i0 i1) (fun  le cc acc h' tk' gens' m' hh0 hh1 hh2 hh3 hh4 hh5 GG gg => gg le cc acc h' tk' gens' m' hh0 hh1 hh2 hh3 hh4 hh5) (fun  GG gg i0 i1 hh => hh GG gg) (fun Q1 iQ1 eQ1 => ?_)
  refine wpAny_mono (Q := Q1) (wpAny_For ?_) (eQ1 _ ?_) (fun _ _ e => e)
  rotate_left
  · intro le cc acc h' tk' gens' m' h1 h2 h3 h4 h5 h6
    exact hQ le cc acc h' tk' gens' m' h1 h2 h3 h4 h5 h6
  k_steps
  rename_i le hA hle hB la hX kF kN lL
  obtain ⟨vals, hvals⟩ : ∃ v : List Value, v = [.int (a : Nat) ta, .int (b : Nat) tb, .int (c : Nat) tc, .int 0 tk, .int (t : Nat) tt] := ⟨_, rfl⟩
  obtain ⟨xs, hxs⟩ : ∃ v : List Int, v = [(a : Int), (b : Int), (c : Int), 0, (t : Int)] := ⟨_, rfl⟩
  have hIx : IntsAre vals xs := by rw [hvals, hxs]; exact .cons _ _ (.cons _ _ (.cons _ _ (.cons _ _ (.cons _ _ .nil))))
  have hxl : xs.length = 5 := by rw [hxs]; rfl
  have hx3 : xs[3]? = some 0 := by rw [hxs]; rfl
  have hxi : ∀ j, xs.getD (if j < 3 then j else 3 - 1) 0 = legAt a b c j := fun j => by
    rw [hxs]
    rcases j with _ | _ | _ | j
    · rfl
    · rfl
    · rfl
    · rw [if_neg (by omega)]; rfl
  have hItems : Items vals xs 3 := Items.of hIx (by omega) (by omega) (fun i hi => by
    have h := hxi i
    rw [if_pos hi] at h
    rw [h]
    unfold legAt
    split
    · omega
    · split <;> omega)
  have kN1 : News h₀ L hX ((la, W.listOf vals.toArray 0) :: (le, W.listOf #[] 0) :: T) := by rw [hvals]; exact kN
  clear kN
  have hlela : @LT.lt Nat _ le la := lL.1
  refine c_gen (outer := []) (A₀ := callerA) (base := h₀) ⟨B, X, T0, rfl⟩ kF kN1 (by omega) ?_
  intro Lg ga oL oG h1 k9 cd9 body9 hb9 F1 N1 hns1 hg1 l1 l2 l3 d1
  have hLa : Lg ≠ la := Ne.symm (Nat.ne_of_lt (l1 _ (.head _)))
  have hLe : le ≠ Lg := Nat.ne_of_lt (l1 (le, _) (.tail _ (.head _)))
  have hLgL : Lg ≠ L := (N1 (Lg, oL) (.tail _ (.head _))).2.1
  have hgaE := (N1 (ga, oG) (.head _)).1
  have hga := isGen_of hg1 hgaE
  have hgale : ga ≠ le := Nat.ne_of_gt (Nat.lt_trans (l1 (le, _) (.tail _ (.head _))) l2)
  obtain ⟨R, hR⟩ : ∃ R, R = (ga, oG) :: (la, W.listOf vals.toArray 0) :: T := ⟨_, rfl⟩
  have hRit : ∀ q ∈ R, ¬ ItO q.2 ∧ q.1 ≠ Lg := fun q hq => by
    rw [hR] at hq
    rcases List.mem_cons.mp hq with rfl | hq
    · exact ⟨fun h => d1 h.1, Nat.ne_of_gt l2⟩
    · rcases List.mem_cons.mp hq with rfl | hq
      · exact ⟨fun h => (show Value.type "list" ≠ .type "list_iterator" by decide) h.1, Ne.symm hLa⟩
      · exact ⟨hT q hq, Nat.ne_of_lt (l1 q (.tail _ (.tail _ hq)))⟩
  have hRle : ∀ q ∈ R, q.1 ≠ le := fun q hq => by
    rw [hR] at hq
    rcases List.mem_cons.mp hq with rfl | hq
    · exact hgale
    · rcases List.mem_cons.mp hq with rfl | hq
      · exact Nat.ne_of_gt hlela
      · exact Nat.ne_of_lt (hle q hq)
  have hlaR : (la, W.listOf vals.toArray 0) ∈ R := by rw [hR]; exact .tail _ (.head _)
  have hgaR : (ga, oG) ∈ R := by rw [hR]; exact .head _
  have hrR : ∀ q ∈ T, q ∈ R := fun q hq => by rw [hR]; exact .tail _ (.tail _ hq)
  have N1R : News h₀ L h1 R := News.sub N1 (fun q hq => by
    rw [hR] at hq
    rcases List.mem_cons.mp hq with rfl | hq
    · exact .head _
    · rcases List.mem_cons.mp hq with rfl | hq
      · exact .tail _ (.tail _ (.head _))
      · exact .tail _ (.tail _ (.tail _ (.tail _ hq))))
  have N1e := N1 (le, W.listOf #[] 0) (.tail _ (.tail _ (.tail _ (.head _))))
  have apart : ∀ {h : Heap} {gl : List (Addr × Obj)} {acc : List Value} {cc : Nat}, News h₀ L h (gl ++ R) → (∀ q ∈ gl, q.1 = Lg ∨ q.2.cls = .type "list_iterator") → h.get? le = some (W.listOf acc.toArray cc) → ∀ q ∈ gl ++ R, q.1 ≠ le := fun Ng hgl he q hq e => by
    rcases List.mem_append.mp hq with h | h
    · rcases hgl q h with e1 | e1
      · exact hLe (e.symm.trans e1)
      · have h2 := (Ng q hq).1
        rw [e, he] at h2
        have h3 := Option.some.inj h2
        rw [← h3] at e1
        exact absurd e1 (show Value.type "list" ≠ .type "list_iterator" by decide)
    · exact hRle q h e
  have putL : ∀ {h : Heap} {gl : List (Addr × Obj)} {o : Obj}, News h₀ L h gl → (h.get? le = some o ∧ le ≠ L ∧ h₀.get? le = none) → News h₀ L h ((le, o) :: gl) := fun Ng he q hq => by
    rcases List.mem_cons.mp hq with rfl | hq
    · exact he
    · exact Ng q hq
  have G1 : GCond h₀ Lg la 0 vals 3 0 h1 := ⟨fun _ => ⟨F1.keep, News.isList N1R hlaR, hns1⟩, fun h => absurd rfl h⟩
  refine opG fun G0 hG0 => ?_
  obtain ⟨gl1, Ng1, Cg1, hgl1⟩ := cond_news G1 F1 N1R hLgL l3 hlaR
  refine hG0 ?_
  clear hG0
  have hrd : GReady w (lawA dp un gd L fa cd).in1 h₀ Lg la vals xs 3 7 0 0 (.fresh (.func body9 (envOf gName gScope Lg 28 cd9))) := GReady.new T0 X hb9 rfl l3 hItems (.inr (.inr ⟨hx3, by decide⟩)) hLa (by decide)
  refine wpAny_pyIter_gen hg1 ?_
  refine opq (A := fun I : Nat → Shared → Prop => ∀ (n : Nat), ∀ (j Li : Nat) (gs : GenState) (gl : List (Addr × Obj)) (h' : Heap) (tk' cc : Nat) (gens' : Array GenState) (m' : Str → Option Value) (acc : List Value), (n + j = 5) → (AllBareG gens') → (gens'[s.gens.size]? = some gs) → (GReady w (lawA dp un gd L fa cd).in1 h₀ Lg la vals xs 3 7 Li j gs) → (CondOf h₀ L Lg la Li vals 3 j (gl ++ R)) → (Fr h₀ L h' m') → (News h₀ L h' ((le, W.listOf acc.toArray cc) :: (gl ++ R))) → (IntsAre acc (legsTo a b c j)) → (Has m' ((Str.ofString "legs", .ref le) :: base5 a b c t u ta tb tc tu tt)) → I n ({ s with heap := h', toks := tk', gens := gens' })) (B := fun I => ∀ (n : Nat) (GG : Shared → Prop), (∀ (j Li : Nat) (gs : GenState) (gl : List (Addr × Obj)) (h' : Heap) (tk' cc : Nat) (gens' : Array GenState) (m' : Str → Option Value) (acc : List Value), (n + j = 5) → (AllBareG gens') → (gens'[s.gens.size]? = some gs) → (GReady w (lawA dp un gd L fa cd).in1 h₀ Lg la vals xs 3 7 Li j gs) → (CondOf h₀ L Lg la Li vals 3 j (gl ++ R)) → (Fr h₀ L h' m') → (News h₀ L h' ((le, W.listOf acc.toArray cc) :: (gl ++ R))) → (IntsAre acc (legsTo a b c j)) → (Has m' ((Str.ofString "legs", .ref le) :: base5 a b c t u ta tb tc tu tt)) → GG ({ s with heap := h', toks := tk', gens := gens' })) → ∀ (i0 : Shared), I n i0 → GG i0) (fun n i0 => ∀ GG : Shared → Prop, (∀ (j Li : Nat) (gs : GenState) (gl : List (Addr × Obj)) (h' : Heap) (tk' cc : Nat) (gens' : Array GenState) (m' : Str → Option Value) (acc : List Value), (n + j = 5) → (AllBareG gens') → (gens'[s.gens.size]? = some gs) → (GReady w (lawA dp un gd L fa cd).in1 h₀ Lg la vals xs 3 7 Li j gs) → (CondOf h₀ L Lg la Li vals 3 j (gl ++ R)) → (Fr h₀ L h' m') → (News h₀ L h' ((le, W.listOf acc.toArray cc) :: (gl ++ R))) → (IntsAre acc (legsTo a b c j)) → (Has m' ((Str.ofString "legs", .ref le) :: base5 a b c t u ta tb tc tu tt)) → GG ({ s with heap := h', toks := tk', gens := gens' })) → GG i0) (fun n j Li gs gl h' tk' cc gens' m' acc hh0 hh1 hh2 hh3 hh4 hh5 hh6 hh7 hh8 GG gg => gg j Li gs gl h' tk' cc gens' m' acc hh0 hh1 hh2 hh3 hh4 hh5 hh6 hh7 hh8) (fun n GG gg i0 hh => hh GG gg) (fun I iI eI => ?_)
  refine forLoop_ruleP I 5 ?_ ?_
  · exact iI _ 0 0 _ gl1 _ _ 0 _ _ [] rfl (hbare.push rfl) Array.getElem?_push_size hrd Cg1 F1 (putL Ng1 N1e) .nil (.cons rfl (.cons rfl (.cons rfl (.cons rfl (.cons rfl (.cons rfl .nil))))))
  · intro n
    refine eI n _ (fun j Li gs gl h' tk' cc gens' m' acc hn hb hgs hrd hC F2 N2 hI2 hm2 => ?_)
    intro E' P hnext hbrk hrv
    have N2R : News h₀ L h' R := fun q hq => N2 q (.tail _ (List.mem_append_right _ hq))
    have G2 := hC h' F2.keep (fun q hq => N2 q (.tail _ hq))
    refine c_next T0 (s := { s with heap := h', toks := tk', gens := gens' }) rfl (by show dp < recursionLimit; omega) (N := 7) (by omega) (hga h' (N2R _ hgaR).1) hgs hb hrd G2 ?_ ?_
    · intro h3 tk3 gens3 gs3 Li3 hgo kr3 G3 hb3 hgs3 hrd3
      have F3 := Fr.keepR F2 kr3 G3.stays hLgL
      have N3 := News.keepR N2R kr3 hRit
      have N3e := News.keepR (R := [(le, W.listOf acc.toArray cc)]) (fun q hq => N2 q (by rcases List.mem_cons.mp hq with rfl | hq; exact .head _; exact nomatch hq)) kr3 (List.forall_mem_cons.mpr ⟨⟨fun h => (show Value.type "list" ≠ .type "list_iterator" by decide) h.1, hLe⟩, List.forall_mem_nil _⟩) _ (.head _)
      refine opG fun G0 hG0 => ?_
      obtain ⟨gl3, Ng3, Cg3, hgl3⟩ := cond_news G3 F3 N3 hLgL l3 hlaR
      obtain ⟨tz, etz⟩ := outv_int hIx (pp := 3) (by decide) (by omega) j
      refine hG0 ?_
      clear hG0
      rw [etz, hxi]
      refine stN (s := { s with heap := h3, toks := tk3, gens := gens3 }) F3 (putL Ng3 N3e) (fun h4 F4 N4 => ?_)
      refine leg_turn (s := { s with heap := h4, toks := tk3 + 1, gens := gens3 }) ⟨B, X, T0⟩ F4 (Has.put hm2 (by kernel_rfl)) N4 (apart Ng3 hgl3 N3e.1) hI2 (by omega) hdp hun ?hb9 ?_
      case hb9 => rfl
      intro h5 tk5 cc5 m5 acc5 hI5 F5 N5 hm5
      by_cases hend : j = 5
      · rw [if_pos hend]
        rw [hend] at hI5
        exact hbrk _ (iQ1 le cc5 acc5 h5 tk5 gens3 m5 hI5 hle hb3 F5 (News.sub N5 (fun q hq => (List.mem_cons.mp hq).elim (fun e => e ▸ .head _) fun hq => .tail _ (List.mem_append_right _ (hrR q hq)))) hm5)
      · rw [if_neg hend]
        exact hnext (4 - j) _ (by omega) (iI _ (j + 1) Li3 gs3 gl3 h5 tk5 cc5 gens3 m5 acc5 (by omega) hb3 hgs3 (hrd3 (by omega)) Cg3 F5 N5 hI5 hm5)
    · intro hjp hq
      rcases hq with h | h
      · omega
      · rw [hx3] at h; exact absurd h (by decide)
end
end
section
section
variable {fa : Addr} {w : World} {p : Program} {loose : List Str} {mean : ExcName → Option Value} {mg mb : Str → Option Value} {dp un : Nat} {gd : Option (List Code)} {h₀ : Heap} {L : Addr} {m : Str → Option Value} {cd : Value} {rest : List (Addr × Obj)} {s : Shared} {Q : Flow → Shared → Prop} {E : Value → Shared → Prop} {a b c t : Nat} {u : Int} {ta tb tc tu tt : Tok}
theorem law9 {T : List (Addr × Obj)} {le cc : Nat} {acc : List Value} (C : LawCtx w p loose mean mg mb h₀) (F : Fr h₀ L s.heap m) (hm : Has m ((Str.ofString "legs", .ref le) :: base5 a b c t u ta tb tc tu tt)) (N : News h₀ L s.heap ((le, W.listOf acc.toArray cc) :: T)) (hI : IntsAre acc (legsTo a b c 6)) (hbare : AllBareG s.gens) (hdp : dp + 200 < recursionLimit) (hun : un + 2000 < cLine) (hL : Legs a b c t)
    {body : List Stmt} (hb : body = lawBody.drop 25)
    (hQ : ∀ (h' : Heap) (tk' : Nat) (gens' : Array GenState) (m' : Str → Option Value), AllBareG gens' → Fr h₀ L h' m' → News h₀ L h' T → Has m' (base5 a b c t u ta tb tc tu tt) →
      wpAny (model PG w) (lawA dp un gd L fa cd) (execs (body.drop 1) (envOf lawN lawScope L fa cd)) Q E { s with heap := h', toks := tk', gens := gens' }) :
    wpAny (model PG w) (lawA dp un gd L fa cd) (execs body (envOf lawN lawScope L fa cd)) Q E s := by
  conv at hb => rhs; whnf
  subst hb
  obtain ⟨a0, a8, b0, b8, c0, c8, t0, t7, hab, habc, hsm⟩ := id hL
  obtain ⟨B, X, T0⟩ := C
  k_with_none
  k_with "k all" => (first | exact ne_all (by assumption) (by omega) | exact ne_allLt (by assumption) (by omega) | exact ne_allLt (And.right (by assumption)) (by omega) | exact ne_allLt (And.right (And.right (by assumption))) (by omega) | exact ne_allLt (And.right (And.right (And.right (by assumption)))) (by omega) | exact ne_allLt (And.right (And.right (And.right (And.right (by assumption))))) (by omega) | assumption)
  k_with "is list" => (exact News.isList (by assumption) (by k_mem))
  k_with "mul fits" => (first | exact PySem.IntMulOk.of_right (Mine.fit8 (by with_reducible assumption)) | exact PySem.IntMulOk.of_left (Mine.fit8 (by with_reducible assumption)) | exact PySem.IntMulOk.of_left (Mine.fitL (by decide)) | exact PySem.IntMulOk.of_right (Mine.fitL (by decide)))
  k_with "omega" => (first | with_reducible assumption | exact Mine.rl1 (by with_reducible assumption) (by decide) | exact Mine.rl2 (by with_reducible assumption) (by decide) | exact Mine.rl0 (by with_reducible assumption) | decide | (law_clear; law_purse 20000 => lia))
  k_with "call type:list" => (k_here; refine halt ?_)
  (have HH : PySem.Challenge.rw_sr0069_01.row.prog = PG ∧ Mine.hd.heap_39 = Mine.hd.heap_39 := ⟨rfl, rfl⟩)
  revert HH
  k_fill
  intro HH
  clear HH
  refine opq (A := fun Q1 : Flow → Shared → Prop => ∀ (h' : Heap) (tk' : Nat) (gens' : Array GenState) (m' : Str → Option Value), (AllBareG gens') → (Fr h₀ L h' m') → (News h₀ L h' T) → (Has m' (base5 a b c t u ta tb tc tu tt)) → Q1  (.next) ({ s with heap := h', toks := tk', gens := gens' })) (B := fun Q1 => ∀  (GG : Flow → Shared → Prop), (∀ (h' : Heap) (tk' : Nat) (gens' : Array GenState) (m' : Str → Option Value), (AllBareG gens') → (Fr h₀ L h' m') → (News h₀ L h' T) → (Has m' (base5 a b c t u ta tb tc tu tt)) → GG (.next) ({ s with heap := h', toks := tk', gens := gens' })) → ∀ (i0 : Flow) (i1 : Shared), Q1  i0 i1 → GG i0 i1) (fun  i0 i1 => ∀ GG : Flow → Shared → Prop, (∀ (h' : Heap) (tk' : Nat) (gens' : Array GenState) (m' : Str → Option Value), (AllBareG gens') → (Fr h₀ L h' m') → (News h₀ L h' T) → (Has m' (base5 a b c t u ta tb tc tu tt)) → GG (.next) ({ s with heap := h', toks := tk', gens := gens' })) → GG i0 i1) (fun  h' tk' gens' m' hh0 hh1 hh2 hh3 GG gg => gg h' tk' gens' m' hh0 hh1 hh2 hh3) (fun  GG gg i0 i1 hh => hh GG gg) (fun Q1 iQ1 eQ1 => ?_)
  refine wpAny_execs_cons (wpAny_mono (Q := Q1) (wpAny_If ?_) (eQ1 _ ?_) (fun _ _ e => e))
  rotate_left
  · intro h' tk' gens' m' h1 h2 h3 h4
    exact hQ h' tk' gens' m' h1 h2 h3 h4
  replace F := Fr.known F _ hm
  have hI6 : IntsAre acc [(a : Int), (b : Int), (c : Int), (c : Int), (c : Int), (c : Int)] := hI
  clear hI
  k_steps
  rename_i l6 hA l16 la hX kF kN lL
  refine c_gen (outer := []) (A₀ := callerA) (base := h₀) ⟨B, X, T0, rfl⟩ kF kN (by omega) ?_
  intro Lg ga oL oG h1 k9 cd9 body9 hb9 F1 N1 hns1 hg1 l1 l2 l3 d1
  obtain ⟨mg', hns2, hmg2⟩ := hns1
  have hLa : Lg ≠ la := Ne.symm (Nat.ne_of_lt (l1 _ (.head _)))
  have hLgL : Lg ≠ L := (N1 (Lg, oL) (.tail _ (.head _))).2.1
  have hll : h1.IsList la (List.toArray [.int 127 s.toks, .int 0 (s.toks + 1), .int (a : Nat) ta]) := News.isList N1 (.tail _ (.tail _ (.head _)))
  have hle : @LT.lt Nat _ le l6 := l16.1
  k_steps
  unfold Halt
  refine c_listgen (s := ⟨_, s.gens.push _, _, _, _⟩) (A := lawA dp un gd L fa cd) (vals := [.int 127 s.toks, .int 0 (s.toks + 1), .int (a : Nat) ta]) (xs := [0, (a : Int)]) rfl (by show dp < recursionLimit; omega) hb9 X T0 F1 (News.sub (l' := (la, _) :: (l6, _) :: (le, _) :: T) N1 (fun q hq => .tail _ (.tail _ hq))) (hbare.push rfl) l3 hLgL hns2 hmg2 hg1 Array.getElem?_push_size hll (.cons _ _ (.cons _ _ (.cons _ _ .nil))) hLa (fun q hq => Nat.ne_of_lt (l1 q hq)) ?_
  intro D h3 tk3 cc3 gens3 F3 N3 lD hb3
  have lDle : @LT.lt Nat _ le D := lD (le, W.listOf acc.toArray cc) (.tail _ (.tail _ (.head _)))
  k_steps
  exact iQ1 _ _ gens3 _ hb3 (by assumption) (News.sub (by assumption) (fun q hq => .tail _ (.tail _ (.tail _ (.tail _ (.tail _ hq)))))) (.cons rfl (.cons rfl (.cons rfl (.cons rfl (.cons rfl .nil)))))
end
end
section
section
variable {fa : Addr} {w : World} {p : Program} {loose : List Str} {mean : ExcName → Option Value} {mg mb : Str → Option Value} {dp un : Nat} {gd : Option (List Code)} {h₀ : Heap} {L : Addr} {m : Str → Option Value} {cd : Value} {rest : List (Addr × Obj)} {s : Shared} {Q : Flow → Shared → Prop} {E : Value → Shared → Prop} {a b c t : Nat} {u : Int} {ta tb tc tu tt : Tok}
/-- the name of the error that the law handles is the builtin one -/
structure NoVE (p : Program) (loose : List Str) : Prop where
  h2 : Str.ofString "ValueError" ∉ loose
  h3 : Str.ofString "ValueError" ∉ (recsOf p).map (·.name)
  h4 : Str.ofString "ValueError" ∉ (litsOf p).map (·.1)
  h5 : Str.ofString "ValueError" ∉ (clssOf p loose).map (·.name)
theorem law10 {T : List (Addr × Obj)} (hA : lawA dp un gd L fa cd = callerA.deeper (envOf lawN lawScope L fa cd)) (NV : NoVE p loose) (C : LawCtx w p loose mean mg mb h₀) (F : Fr h₀ L s.heap m) (hm : Has m (base5 a b c t u ta tb tc tu tt)) (N : News h₀ L s.heap T) (hbare : AllBareG s.gens) (hdp : dp + 200 < recursionLimit) (hun : un + 2000 < cLine)
    {body : List Stmt} (hb : body = lawBody.drop 26)
    (hQ : ∀ (h' : Heap) (tk' : Nat) (gens' : Array GenState) (m' : Str → Option Value), AllBareG gens' → Fr h₀ L h' m' → News h₀ L h' T → Q (.ret (.bool true)) { s with heap := h', toks := tk', gens := gens' }) :
    wpAny (model PG w) (lawA dp un gd L fa cd) (execs body (envOf lawN lawScope L fa cd)) Q E s := by
  conv at hb => rhs; whnf
  subst hb
  obtain ⟨B, X, T0⟩ := C
  k_with_none
  k_with "k all" => (first | exact ne_all (by assumption) (by omega) | exact ne_allLt (by assumption) (by omega) | exact ne_allLt (And.right (by assumption)) (by omega) | exact ne_allLt (And.right (And.right (by assumption))) (by omega) | exact ne_allLt (And.right (And.right (And.right (by assumption)))) (by omega) | exact ne_allLt (And.right (And.right (And.right (And.right (by assumption))))) (by omega) | assumption)
  k_with "is list" => (exact News.isList (by assumption) (by k_mem))
  k_with "mul fits" => (first | exact PySem.IntMulOk.of_right (Mine.fit8 (by with_reducible assumption)) | exact PySem.IntMulOk.of_left (Mine.fit8 (by with_reducible assumption)) | exact PySem.IntMulOk.of_left (Mine.fitL (by decide)) | exact PySem.IntMulOk.of_right (Mine.fitL (by decide)))
  k_with "omega" => (first | with_reducible assumption | exact Mine.rl1 (by with_reducible assumption) (by decide) | exact Mine.rl2 (by with_reducible assumption) (by decide) | exact Mine.rl0 (by with_reducible assumption) | decide | (law_clear; law_purse 20000 => lia))
  k_with "exec For Name Call cons nil" => (k_here; refine halt ?_)
  (have HH : PySem.Challenge.rw_sr0069_01.row.prog = PG ∧ Mine.hd.heap_39 = Mine.hd.heap_39 := ⟨rfl, rfl⟩)
  revert HH
  k_fill
  intro HH
  clear HH
  have F0 := F
  replace F := Fr.known F _ hm
  k_steps
  unfold Halt
  refine wpAny_For ?_
  k_steps
  rename_i la hX kF kN ll
  have kN1 : News h₀ L hX ((la, W.listOf (List.toArray [.int 0 s.toks, .int (a : Nat) ta]) 0) :: T) := kN
  clear kN
  refine c_genX (outer := []) (A₀ := callerA) (base := h₀) (s := ⟨_, s.gens, _, _, _⟩) (vals := [.int 0 s.toks, .int (a : Nat) ta]) (xs := [(a : Int)]) ⟨B, X, T0, rfl⟩ kF kN1 (by omega) (News.isList kN1 (.head _)) (.cons _ _ (.cons _ _ .nil)) ?_
  intro ga h1 tk1 G hD hGb hg1
  refine wpAny_pyIter_gen hg1 ?_
  refine codeAny_forLoop (fun k s' => k = 0 ∧ s' = _) (fun k s' hI => ?_) 0 ⟨rfl, rfl⟩
  obtain ⟨_, rfl⟩ := hI
  refine wpAny_passesOwn ?pass ?_
  case pass => passes_own
  refine c_doom hD rfl (by show dp < recursionLimit; omega) (hbare.push hGb) ?_
  intro g e t9 tk9 h3 tk3 gens3 FG hup hR hb3
  rw [hA]
  refine caught_KB (h2 := NV.h2) (h3 := NV.h3) (h4 := NV.h4) (h4c := NV.h5) (T' := "ValueError") B FG hup hR (by k_asm) PyProof.Rows.Boot.«ValueError» PySem.F.isExc_ValueError PySem.F.notTuple_ValueError (by rw [isSubtype_type]; kernel_rfl) ?_
  intro h5 news5 tk5 F5 N5 G5 Nn5
  k_steps
  rw [show (Str.ofString "invalid grouping" == Str.ofString "invalid grouping") = true by decide +kernel]
  exact hQ _ _ _ _ hb3 (by assumption) (News.sub (by assumption) (fun q hq => .tail _ hq))
end
end
section
section
variable {fa : Addr} {w : World} {p : Program} {loose : List Str} {mean : ExcName → Option Value} {mg mb : Str → Option Value} {dp un : Nat} {gd : Option (List Code)} {h₀ : Heap} {L la : Addr} {cd : Value} {s : Shared} {Q : Flow → Shared → Prop} {E : Value → Shared → Prop} {vs : List Value} {xs : List Int}
theorem law_body (hA : lawA dp un gd L fa cd = callerA.deeper (envOf lawN lawScope L fa cd)) (NV : NoVE p loose) (C : LawCtx w p loose mean mg mb h₀) (F : Fr h₀ L s.heap (fun x => ([(Str.ofString "script", Value.ref la)] : List (Str × Value)).lookup x)) (N : News h₀ L s.heap [(51, tabObj #[]), (58, tabObj #[])]) (hl : h₀.IsList la vs.toArray) (hI : IntsAre vs xs) (hlen : xs.length ≤ 63) (hbare : AllBareG s.gens) (hdp : dp + 200 < recursionLimit) (hun : un + 2000 < cLine) {body : List Stmt} (hb : body = lawBody)
    (hQ : ∀ (h' : Heap) (tk' : Nat) (gens' : Array GenState) (m' : Str → Option Value) (T' : List (Addr × Obj)), AllBareG gens' → TabL T' → Fr h₀ L h' m' → News h₀ L h' T' → Q (.ret (.bool true)) { s with heap := h', toks := tk', gens := gens' }) :
    wpAny (model PG w) (lawA dp un gd L fa cd) (execs body (envOf lawN lawScope L fa cd)) Q E s := by
  have TT : TabL [(51, tabObj #[]), (58, tabObj #[])] := ⟨_, _, [], rfl, List.forall_mem_nil _, .inl rfl, .inl rfl⟩
  refine law1 C F N hl hI (by omega) (by omega) (by omega) hb ?_
  intro D vals ds h1 j1 m1 hds hI1 F1 N1 hD hm1
  refine law2 (s := { s with heap := h1, toks := j1 }) C F1 hm1 N1 hD TT hI1 hds hdp hun (by rw [hb]) ?_
  intro a b ta tb h2 j2 m2 T2 a0 a8 b0 b8 hab F2 N2 TT2 hD2 hm2
  refine law3 (s := { s with heap := h2, toks := j2 }) C F2 hm2 N2 hD2 TT2 hI1 hds hdp hun a0 a8 b0 b8 hab (by rw [hb, List.drop_drop]) ?_
  intro c ta tb tc h3 j3 m3 T3 c0 c8 habc hsm F3 N3 TT3 hD3 hm3
  refine law4 (s := { s with heap := h3, toks := j3 }) C F3 hm3 N3 TT3 hI1 hds hdp hun a0 a8 b0 b8 hab c0 c8 habc hsm (by rw [hb, List.drop_drop, List.drop_drop]) ?_
  intro u t ta tb tc tu tt h4 j4 m4 hL hu hub F4 N4 hm4
  obtain ⟨T4, hs4, TT4, hi4⟩ := tab_prune TT3
  refine law5 (s := { s with heap := h4, toks := j4 }) C F4 hm4 (News.sub N4 hs4) hi4 hbare hdp hun hL (by rw [hb, List.drop_drop, List.drop_drop, List.drop_drop]) ?_
  intro k1 k2 k3 h5 j5 g5 m5 hb5 F5 N5 hm5
  refine law6 (s := { s with heap := h5, toks := j5, gens := g5 }) C F5 hm5 N5 TT4 hdp hun hL hu hub (by rw [hb, List.drop_drop, List.drop_drop, List.drop_drop, List.drop_drop]) ?_
  intro tl h6 j6 m6 T6 TT6 F6 N6 hm6
  refine law7 (s := { s with heap := h6, toks := j6, gens := g5 }) C F6 hm6 N6 TT6 hdp hun hL hu hub (by rw [hb, List.drop_drop, List.drop_drop, List.drop_drop, List.drop_drop, List.drop_drop]) ?_
  intro t1 t2 h7 j7 m7 T7 TT7 F7 N7 hm7
  obtain ⟨T8, hs8, TT8, hi8⟩ := tab_prune TT7
  refine law8 (s := { s with heap := h7, toks := j7, gens := g5 }) C F7 hm7 (News.sub N7 hs8) hdp hun hL (by rw [hb, List.drop_drop, List.drop_drop, List.drop_drop, List.drop_drop, List.drop_drop, List.drop_drop]) ?_
  intro h8 j8 m8 F8 N8 hm8
  refine legs_loop (s := { s with heap := h8, toks := j8, gens := g5 }) C F8 hm8 N8 hi8 hb5 hdp hun hL (by rw [hb, List.drop_drop, List.drop_drop, List.drop_drop, List.drop_drop, List.drop_drop, List.drop_drop, List.drop_drop]) ?_
  intro le cc acc h9 j9 g9 m9 hI9 hle hb9 F9 N9 hm9
  refine law9 (s := { s with heap := h9, toks := j9, gens := g9 }) C F9 hm9 N9 hI9 hb9 hdp hun hL (by rw [hb, List.drop_drop, List.drop_drop, List.drop_drop, List.drop_drop, List.drop_drop, List.drop_drop, List.drop_drop, List.drop_drop]) ?_
  intro h10 j10 g10 m10 hb10 F10 N10 hm10
  refine law10 (s := { s with heap := h10, toks := j10, gens := g10 }) hA NV C F10 hm10 N10 hb10 hdp hun (by rw [hb, List.drop_drop, List.drop_drop, List.drop_drop, List.drop_drop, List.drop_drop, List.drop_drop, List.drop_drop, List.drop_drop, List.drop_drop]) ?_
  intro h11 j11 g11 m11 hb11 F11 N11
  exact hQ h11 j11 g11 m11 T8 hb11 TT8 F11 N11
end
end
section
theorem tabO_grown {q : Str} {ln co : Nat} {o : Obj} {r : List (Addr × Obj)} (h : TabO q ln co o r) : ∃ ps, o = tabObj ps := by
  rcases h with rfl | ⟨_, _, _, _, rfl, _⟩
  · exact ⟨_, rfl⟩
  · exact ⟨_, rfl⟩
/-- the law's end: True, nothing old changed but the two tables -/
theorem good_end {c : ClaimW} {cl : Str → Option Addr} {mean : ExcName → Option Value} {args : List WData} {s₁ s' : Shared} {L : Addr} {m : Str → Option Value} {T' : List (Addr × Obj)} (hT : TabsAt [(62, 58), (55, 51)] s₁.heap) (hr : ∀ cls, c.raises args cls = false) (hp : c.post args (.bool true) args = true) (hb : AllBareG s'.gens)
    (F : Fr (ghostOf s₁.heap [(62, 58), (55, 51)]) L s'.heap m) (N : News (ghostOf s₁.heap [(62, 58), (55, 51)]) L s'.heap T') (TT : TabL T') (hos : s'.os = s₁.os) : GoodWG c cl mean args s₁ (.ok (.ret (.bool true))) s' := by
  obtain ⟨o1, o2, r, rfl, _, t1, t2⟩ := TT
  obtain ⟨p1, rfl⟩ := tabO_grown t1
  obtain ⟨p2, rfl⟩ := tabO_grown t2
  have n51 := (N _ (.head _)).1
  have n58 := (N _ (.tail _ (.head _))).1
  have at51 := hT (55, 51) (.tail _ (.head _))
  have at58 := hT (62, 58) (.head _)
  have c51 := (at51.1.tab at51.2).isCodeTable
  have c58 := (at58.1.tab at58.2).isCodeTable
  refine ⟨.inl ⟨.bool true, .bool true, [], rfl, hr, ReadsW.bool true, hp, fun _ => ⟨List.nodup_nil, fun _ h => nomatch h⟩⟩, ⟨fun b o e => ?_, fun b o e => ?_⟩, hos, hb⟩
  · by_cases h1 : b = 51
    · subst h1
      have e2 := at51.2
      rw [e] at e2
      obtain rfl := Option.some.inj e2
      exact .inr (.inl ⟨c51, rfl, #[], p1, rfl, by rw [Array.empty_append]; exact n51⟩)
    · by_cases h2 : b = 58
      · subst h2
        have e2 := at58.2
        rw [e] at e2
        obtain rfl := Option.some.inj e2
        exact .inr (.inl ⟨c58, rfl, #[], p2, rfl, by rw [Array.empty_append]; exact n58⟩)
      · exact .inl (F.keep b o (ghost_ne e (by simp [h1, h2])))
  · by_cases h1 : b = 51
    · exact ⟨_, h1 ▸ n51⟩
    · by_cases h2 : b = 58
      · exact ⟨_, h2 ▸ n58⟩
      · exact ⟨o, F.keep b o (ghost_ne e (by simp [h1, h2]))⟩
end
end Mine
open Mine
local macro_rules | `(tactic| kn_posts) => `(tactic| skip)
theorem PySem.Challenge.cw_sr0069_01_holds : PySem.Challenge.rw_sr0069_01.Holds := by
  k_with_none
  refine hd ?_
  w_strict k_go0
  rename (Below _ _ _ _) => KB
  rename (Frag.In _ (ghostOf _ _)) => XX
  rename (Top topProg _ _ _ _ _) => TT
  rename (Fr _ _ _ _) => FF
  rename (News _ _ _ _) => NN
  rename (Heap.IsList (ghostOf _ _) _ _) => hl
  rename (IntsAre _ _) => hI
  rename (¬ _ < _) => hlen
  rename (_ = #[]) => hg
  refine' law_body (h₀ := ghostOf _ [(62, 58), (55, 51)]) ?hA ?nv ⟨KB, XX, TT⟩ ?f ?n hl hI ?len ?hbare ?d1 ?d2 ?hb1 ?hend
  case hA => exact rfl
  case f => exact FF
  case n => exact News.sub NN (fun q hq => by rcases List.mem_cons.mp hq with rfl | hq; exact .tail _ (.head _); rcases List.mem_cons.mp hq with rfl | hq; exact .head _; exact nomatch hq)
  case len => omega
  case d1 => decide +kernel
  case d2 => decide +kernel
  case hbare => exact fun y hy => by rw [hg] at hy; simp at hy
  case hb1 => rfl
  case nv => exact ⟨by decide +kernel, by decide +kernel, by decide +kernel, by decide +kernel⟩
  case hend =>
    intro h' tk' gens' m' T' hb TT F N
    exact good_end hT9 (fun _ => rfl) (by first | rfl | wrow_post) hb F N TT rfl
