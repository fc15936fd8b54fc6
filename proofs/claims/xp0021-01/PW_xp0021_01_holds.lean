import PyProof.Rows.All
import Wide.All
import OpenK.AllK
import Wide.FinOn
import PySem.Challenge.RW_xp0021_01
open PySem PySem.W PyProof.Rows
set_option Elab.async false
set_option maxRecDepth 100000
set_option maxHeartbeats 8000000
set_option rowWalk.seconds 0
set_option linter.all false
set_option synthInstance.maxSize 1 in
open_top hd for PySem.Challenge.rw_xp0021_01
noncomputable section
namespace Mine
open PySem.Calls PySem.Spec PySem.Builtin PySem.Builtin.ObjectAttr
@[reducible] def LtL (d : Nat) : List Nat → Prop
  | [] => True
  | a :: as => @LT.lt Nat _ a d ∧ LtL d as
theorem LtL.of {d : Addr} : ∀ {l : List (Addr × Obj)}, (∀ p ∈ l, p.1 < d) → LtL d (l.map (·.1))
  | [], _ => trivial
  | p :: _, h => ⟨h p (.head _), LtL.of fun q hq => h q (.tail _ hq)⟩
def nthA : List Nat → Nat → Option Nat
  | [], _ => none
  | a :: _, 0 => some a
  | _ :: l, i + 1 => nthA l i
theorem LtL.ne {d a : Nat} : ∀ {as : List Nat} (i : Nat), LtL d as → nthA as i = some a → a ≠ d
  | _ :: _, 0, h, e => by cases e; exact Nat.ne_of_lt h.1
  | _ :: _, i + 1, h, e => LtL.ne i h.2 e
  | [], _, _, e => by cases e
theorem LtL.en {d a : Nat} {as : List Nat} (i : Nat) (h : LtL d as) (e : nthA as i = some a) : d ≠ a := (LtL.ne i h e).symm
theorem LtL.lt {d a : Nat} : ∀ {as : List Nat} (i : Nat), LtL d as → nthA as i = some a → @LT.lt Nat _ a d
  | _ :: _, 0, h, e => by cases e; exact h.1
  | _ :: _, i + 1, h, e => LtL.lt i h.2 e
  | [], _, _, e => by cases e
def NeL (d : Nat) : List Nat → Prop
  | [] => True
  | a :: as => a ≠ d ∧ NeL d as
theorem NeL.of {d : Addr} : ∀ {l : List (Addr × Obj)}, (∀ p ∈ l, p.1 ≠ d) → NeL d (l.map (·.1))
  | [], _ => trivial
  | p :: _, h => ⟨h p (.head _), NeL.of fun q hq => h q (.tail _ hq)⟩
theorem NeL.ne {d a : Nat} : ∀ {as : List Nat} (i : Nat), NeL d as → nthA as i = some a → a ≠ d
  | _ :: _, 0, h, e => by cases e; exact h.1
  | _ :: _, i + 1, h, e => NeL.ne i h.2 e
  | [], _, _, e => by cases e
theorem NeL.en {d a : Nat} {as : List Nat} (i : Nat) (h : NeL d as) (e : nthA as i = some a) : d ≠ a := (NeL.ne i h e).symm
theorem neProbe {a b : Nat} (_ : a = b) (k : False) : a ≠ b := k.elim
structure Lts (d : Addr) (news : List (Addr × Obj)) : Prop where
  lt : ∀ p ∈ news, p.1 < d
theorem LtL.all {d : Nat} : ∀ {as : List Nat}, LtL d as → ∀ a ∈ as, @LT.lt Nat _ a d
  | _ :: _, h, _, .head _ => h.1
  | _ :: _, h, _, .tail _ m => LtL.all h.2 _ m
theorem LtL.mk' {d : Nat} : ∀ {as : List Nat}, (∀ a ∈ as, @LT.lt Nat _ a d) → LtL d as
  | [], _ => trivial
  | _ :: _, h => ⟨h _ (.head _), LtL.mk' fun a m => h a (.tail _ m)⟩
theorem LtL.up {d e : Nat} {as : List Nat} (h : LtL d as) (l : @LE.le Nat _ d e) : LtL e as := LtL.mk' fun a m => Nat.lt_of_lt_of_le (h.all a m) l
theorem LtL.ups {d e : Nat} {as : List Nat} (h : LtL d as) (l : @LT.lt Nat _ d e) : LtL e as := h.up (Nat.le_of_lt l)
theorem LtL.notin {x : Nat} {big as tl : List Nat} (i : Nat) (h : LtL x big) (e : big.drop i = as ++ tl) : x ∉ as := fun m =>
  Nat.lt_irrefl x (h.all x (List.mem_of_mem_drop (e ▸ List.mem_append_left tl m : x ∈ big.drop i)))
theorem LtL.dropL {d : Nat} : ∀ {as : List Nat} (n : Nat), LtL d as → LtL d (as.drop n)
  | _, 0, h => h
  | [], _ + 1, h => h
  | _ :: _, n + 1, h => LtL.dropL n h.2
theorem LtL.restLt {d : Nat} {as : List Nat} {rest : List (Addr × Obj)} (n : Nat) (h : LtL d as) (e : as.drop n = rest.map (·.1)) : ∀ q ∈ rest, @LT.lt Nat _ q.1 d := fun q hq =>
  (e ▸ h.dropL n : LtL d (rest.map (·.1))).all q.1 (List.mem_map_of_mem hq)
theorem restLtl {X D : Nat} {as : List Nat} {rest : List (Addr × Obj)} (n : Nat) (hx : @LE.le Nat _ X D) (h : LtL X as) (e : as.drop n = rest.map (·.1)) : ∀ q ∈ rest, @LT.lt Nat _ q.1 D := fun q hq => Nat.lt_of_lt_of_le (h.restLt n e q hq) hx

theorem omA {a k K : Nat} (h : a ≤ k) (e : Nat.ble k K = true) : a ≤ K := Nat.le_trans h (Nat.le_of_ble_eq_true e)
theorem omB {a k K : Nat} (h : a < k) (e : Nat.ble k (K + 1) = true) : a ≤ K := Nat.le_of_lt_succ (Nat.lt_of_lt_of_le h (Nat.le_of_ble_eq_true e))
theorem omC {a k K : Nat} (h : a ≤ k) (e : Nat.ble (k + 1) K = true) : a < K := Nat.lt_of_le_of_lt h (Nat.le_of_ble_eq_true e)
theorem omD {a k K : Nat} (h : a < k) (e : Nat.ble k K = true) : a < K := Nat.lt_of_lt_of_le h (Nat.le_of_ble_eq_true e)
theorem omAp {a c k K : Nat} (h : a ≤ k) (e : Nat.ble (k + c) K = true) : a + c ≤ K := omA (Nat.add_le_add_right h c) e
theorem omBp {a c k K : Nat} (h : a < k) (e : Nat.ble (k + c) (K + 1) = true) : a + c ≤ K := omB (Nat.add_lt_add_right h c) e
theorem omCp {a c k K : Nat} (h : a ≤ k) (e : Nat.ble (k + c + 1) K = true) : a + c < K := omC (Nat.add_le_add_right h c) e
theorem omDp {a c k K : Nat} (h : a < k) (e : Nat.ble (k + c) K = true) : a + c < K := omD (Nat.add_lt_add_right h c) e
theorem omZ {a K : Nat} (h : a ≤ K) : 0 + a ≤ K := (Nat.zero_add a).symm ▸ h
theorem omS {a b i j K : Nat} (h : a ≤ i) (h2 : b ≤ j) (e : Nat.ble (i + j) K = true) : a + b ≤ K := omA (Nat.add_le_add h h2) e
theorem omEl {a b K : Nat} (h : a = b) (r : b ≤ K) : a ≤ K := h ▸ r
theorem omEt {a b K : Nat} (h : a = b) (r : b < K) : a < K := h ▸ r
theorem omLe {a b K : Nat} (r : K < b) (h : a = b) : K < a := h ▸ r
theorem omLq {a b K : Nat} (r : K ≤ b) (h : a = b) : K ≤ a := h ▸ r
theorem omR1 {d b lim a : Nat} (h : d + b < lim) (e : Nat.ble a b = true) : d + a < lim := Nat.lt_of_le_of_lt (Nat.add_le_add_left (Nat.le_of_ble_eq_true e) d) h
theorem omR2 {d b lim a c : Nat} (h : d + b < lim) (e : Nat.ble (a + c) b = true) : d + a + c < lim := Nat.add_assoc d a c ▸ omR1 h e
theorem omR3 {d b lim a c f : Nat} (h : d + b < lim) (e : Nat.ble (a + (c + f)) b = true) : d + a + c + f < lim := Nat.add_assoc (d + a) c f ▸ omR2 h e
theorem omR0 {d b lim : Nat} (h : d + b < lim) : d < lim := Nat.lt_of_le_of_lt (Nat.le_add_right d b) h
theorem omN1 {i d n : Nat} (h : i + (d + 1) = n) : i + 1 + d = n := h ▸ Nat.succ_add i d
theorem omN2 {i d n : Nat} (h : i + (d + 1) = n) : i < n := h ▸ Nat.lt_add_of_pos_right (Nat.succ_pos d)
theorem omM {n i : Nat} (h : i < n) : n + 1 - (i + 1) < n + 1 - i := by rw [Nat.succ_sub_succ, Nat.succ_sub (Nat.le_of_lt h)]; exact Nat.lt_succ_self _
theorem omI {a k : Nat} {M : Int} (h : a ≤ k) (e : decide ((k : Int) < M) = true) : (a : Int) < M := Int.lt_of_le_of_lt (Int.ofNat_le.mpr h) (of_decide_eq_true e)
theorem omIl {a k : Nat} {M : Int} (h : a ≤ k) (e : decide ((k : Int) ≤ M) = true) : (a : Int) ≤ M := Int.le_trans (Int.ofNat_le.mpr h) (of_decide_eq_true e)
theorem omJ {a k : Nat} {M : Int} (h : a < k) (e : decide ((k : Int) ≤ M) = true) : (a : Int) < M := Int.lt_of_lt_of_le (Int.ofNat_lt.mpr h) (of_decide_eq_true e)
theorem omI0 {a : Nat} {M : Int} (e : decide (M ≤ 0) = true) : M ≤ (a : Int) := Int.le_trans (of_decide_eq_true e) (Int.natCast_nonneg a)
theorem omT {a b c : Nat} (h : a < b) (g : b < c) : a < c := Nat.lt_trans h g
theorem lt6 {P : Nat → Prop} (p0 : P 0) (p1 : P 1) (p2 : P 2) (p3 : P 3) (p4 : P 4) (p5 : P 5) : ∀ k, k < 6 → P k
  | 0, _ => p0
  | 1, _ => p1
  | 2, _ => p2
  | 3, _ => p3
  | 4, _ => p4
  | 5, _ => p5
  | _ + 6, h => absurd h (Nat.not_lt_of_le (Nat.le_add_left _ _))
theorem six_list {α : Type} (d : α) (l : List α) (h : l.length = 6) : l = [l.getD 0 d, l.getD 1 d, l.getD 2 d, l.getD 3 d, l.getD 4 d, l.getD 5 d] := by
  have e : ∀ k, k < 6 → l[k]? = some (l.getD k d) := fun k hk => by rw [List.getD_eq_getElem?_getD, List.getElem?_eq_getElem (h ▸ hk), Option.getD_some]
  refine List.ext_getElem? fun i => ?_
  by_cases hi : i < 6
  · exact lt6 (P := fun i => l[i]? = [l.getD 0 d, l.getD 1 d, l.getD 2 d, l.getD 3 d, l.getD 4 d, l.getD 5 d][i]?) (e 0 (by decide)) (e 1 (by decide)) (e 2 (by decide)) (e 3 (by decide)) (e 4 (by decide)) (e 5 (by decide)) i hi
  · rw [List.getElem?_eq_none (h ▸ Nat.le_of_not_lt hi), List.getElem?_eq_none (Nat.le_of_not_lt hi)]
theorem bigN {as : List Nat} {i a : Nat} (_ : Nat.ble 1000 a = true) (f : False) : nthA as i = some a := f.elim
theorem mulS {a X c n : Nat} (h1 : X ≤ c * n) (h2 : a ≤ c) : a + X ≤ c * (n + 1) := by rw [Nat.mul_succ, Nat.add_comm]; exact Nat.add_le_add h1 h2
theorem clampN (j : Nat) : (max 0 (j : Int)).toNat = j := by rw [Int.max_eq_right (Int.natCast_nonneg j)]; rfl
theorem subStep {n i : Nat} (h : i < n) : n - i = n - (i + 1) + 1 := (Nat.sub_add_cancel (Nat.sub_pos_of_lt h)).symm
theorem insLen {j n : Nat} (h : j < n) : min j n + (n - j + 1) = n + 1 := by rw [Nat.min_eq_left (Nat.le_of_lt h), ← Nat.add_assoc, Nat.add_sub_cancel' (Nat.le_of_lt h)]
theorem ltk {i k : Nat} (h : i < k + 1) (n : ¬ i = k) : i < k := Nat.lt_of_le_of_ne (Nat.le_of_lt_succ h) n
theorem lastI (n : Nat) : (-1 : Int) + ((n : Int) + 1) = n := by rw [Int.add_comm, Int.add_neg_cancel_right]
theorem nneg (n : Nat) : ¬ (n : Int) < 0 := Int.not_lt.mpr (Int.natCast_nonneg n)
theorem omN3 {i d n K : Nat} (h : i + (d + 1) = n) (e : Nat.ble (n + 1) K = true) : i + 1 < K := Nat.lt_of_lt_of_le (Nat.succ_lt_succ (omN2 h)) (Nat.le_of_ble_eq_true e)
theorem omN4 {i d n K : Nat} (h : i + (d + 1) = n) (e : Nat.ble n K = true) : i + 1 ≤ K := Nat.le_trans (omN2 h) (Nat.le_of_ble_eq_true e)
theorem omN5 {i d n K : Nat} (h : i + (d + 1) = n) (e : Nat.ble n K = true) : i < K := Nat.lt_of_lt_of_le (omN2 h) (Nat.le_of_ble_eq_true e)
theorem omN6 {i d n K : Nat} (h : i + (d + 1) = n) (e : Nat.ble n K = true) : i ≤ K := Nat.le_of_lt (omN5 h e)
theorem omQ {k c n : Nat} (h : k < c) (g : c ≤ n) : k ≤ n := Nat.le_of_lt (Nat.lt_of_lt_of_le h g)
theorem zz1 {j v : Nat} (h : v ≤ 50) : min j v + (0 + 1) ≤ 1000 := Nat.le_trans (Nat.add_le_add_right (Nat.le_trans (Nat.min_le_right _ _) h) _) (by decide)
theorem zz2 {j v : Nat} (h : v ≤ 50) : min j v + (0 + 1) + (v - j) ≤ 1000 := Nat.le_trans (Nat.add_le_add (Nat.add_le_add_right (Nat.le_trans (Nat.min_le_right _ _) h) _) (Nat.le_trans (Nat.sub_le _ _) h)) (by decide)
theorem intGe {a : Nat} {M : Int} (h : (a : Int) < M) : ¬ (a : Int) ≥ M := Int.not_le.mpr h
theorem offSelf {a : Nat} (k : Nat) : a ≠ a + (k + 1) := Nat.ne_of_lt (Nat.lt_add_of_pos_right (Nat.succ_pos k))
theorem omA0 {i n : Nat} (h : i + 0 = n) : i = n := h
theorem int1 (i : Nat) : (1 + (i : Int)) = ((i + 1 : Nat) : Int) := Int.add_comm 1 i
theorem bigR {a b : Nat} (_ : Nat.ble 1000 b = true) (f : False) : a < b := f.elim
theorem bigL {a b : Nat} (_ : Nat.ble 1000 a = true) (f : False) : a < b := f.elim
theorem bigP {a b : Nat} (_ : Nat.ble 1000 b = true) (f : False) : a ≠ b := f.elim
theorem bigQ {a b : Nat} (_ : Nat.ble 1000 a = true) (f : False) : a ≠ b := f.elim
theorem omE1 {a k K : Nat} (h : a = k) (e : Nat.ble k K = true) : a ≤ K := omEl h (Nat.le_of_ble_eq_true e)
theorem omE2 {a k K : Nat} (h : a = k) (e : Nat.ble (k + 1) K = true) : a < K := omEt h (Nat.le_of_ble_eq_true e)
theorem omG {k a K : Nat} (h : k < a) (e : Nat.ble K k = true) : K < a := Nat.lt_of_le_of_lt (Nat.le_of_ble_eq_true e) h
local macro_rules | `(tactic| walk_at $s:str) => `(tactic| k_extra $s)
local macro_rules | `(tactic| k_ne) => `(tactic| k_extra "k_ne")
local macro_rules | `(tactic| k_all) => `(tactic| k_extra "k_all")
local macro_rules | `(tactic| k_lt $h:ident) => `(tactic| ((try (k_extra "k_lt"; have hWW := Lts.mk $h)); replace $h := LtL.of $h; (try dsimp only [List.map] at $h:ident)))
local macro_rules | `(tactic| omega) => `(tactic| k_extra "OM")

section
@[reducible] noncomputable def pg : Program := PySem.Challenge.rw_xp0021_01.row.toRowW.prog
/-! ## contracts -/
/-- what a call keeps: all but `as` -/
def Kept (H : Heap) (as : List Addr) (h : Heap) : Prop := ∀ b o, H.get? b = some o → b ∉ as → h.get? b = some o
/-- the ledger behind a call -/
def Newly (H : Heap) (as : List Addr) (h : Heap) (news : List (Addr × Obj)) : Prop := ∀ q ∈ news, h.get? q.1 = some q.2 ∧ (q.1 ∈ as ∨ H.get? q.1 = none)
structure GroundOf (H : Heap) (as : List Addr) (g : Heap) : Prop where
  keep : Kept H as g
  sub : ∀ b o, g.get? b = some o → H.get? b = some o
  off : ∀ a ∈ as, g.get? a = none
def MyLeave (H : Heap) (as : List Addr) (g : Heap) (R : Result → Shared → Prop) (v : Value) (s' : Shared) : Prop :=
  ∃ L' m' news', Fr g L' s'.heap m' ∧ News g L' s'.heap news' ∧ (Kept H as s'.heap → Newly H as s'.heap news' → R (.ok (.ret v)) s')
theorem myLeave_ {H g : Heap} {as : List Addr} {L' : Addr} {m' : Str → Option Value} {news' : List (Addr × Obj)} {R : Result → Shared → Prop} {v : Value} {s' : Shared} (F' : Fr g L' s'.heap m') (N' : News g L' s'.heap news')
    (k : Kept H as s'.heap → Newly H as s'.heap news' → R (.ok (.ret v)) s') : MyLeave H as g R v s' := ⟨L', m', news', F', N', k⟩
theorem MyLeave.out {H g : Heap} {as : List Addr} {R : Result → Shared → Prop} {v : Value} {s' : Shared} (G : GroundOf H as g) (x : MyLeave H as g R v s') : R (.ok (.ret v)) s' := by
  obtain ⟨L', m', news', F, N, k⟩ := x
  refine k (fun b o e n => F.keep b o (G.keep b o e n)) fun q hq => ⟨(N q hq).1, ?_⟩
  by_cases hm : q.1 ∈ as
  · exact .inl hm
  · refine .inr ?_
    cases e : H.get? q.1 with
    | none => rfl
    | some o => have := (N q hq).2.2; rw [G.keep _ _ e hm] at this; cases this
theorem groundOf (H : Heap) (as : List Addr) : GroundOf H as (hideAll H as) where
  keep := fun _ _ e n => hideAll_get _ e n
  sub := fun _ _ e => of_hideAll _ e
  off := fun _ h => hideAll_none _ h

section
variable {prog : Program} {w : World} {A₀ A : Around} {s : Shared} {base h₀ : Heap} {outer : List Env} {L : Addr} {m : Str → Option Value} {env : Env} {news : List (Addr × Obj)} {K : Frag} {p : Program} {loose : List Str} {mean : ExcName → Option Value} {mg mb : Str → Option Value}
  {R : Result → Shared → Prop} {name qual : Str} {params : Arguments} {body : List Stmt} {scope : Scope} {dV kV doc pm cdv ct oc : Value} {an od : Option Addr} {osl : Array (Option Value)} {f : Addr} {args : Args} {binds : List (Str × Value)}

theorem enter_plain (B : Below A₀ base outer h₀) (F : Fr h₀ L s.heap m) (X₀ : K.In h₀) (N : News h₀ L s.heap news) (T : Top p loose mean mg mb h₀) (hA : A.frames = some (env :: outer)) (hf : env.frame = some L) (hke : env.scope.kind = .function)
    (ho : K.lookup f = some ⟨oc, od, .func (fnOf name qual params body scope dV kV doc pm an cdv ct), osl⟩) (hcd : codeIn K cdv qual = true) (hroom : A.depth < recursionLimit)
    (hbind : BindsTo s (fnOf name qual params body scope dV kV doc pm an cdv ct) args binds) (hloc : ∀ y ∈ binds, scope.names.lookup y.1 = some .local)
    (h : ∀ g L' h₁, GroundOf s.heap (news.map (·.1)) g → Fr g L' h₁ (fun y => binds.reverse.lookup y) → News g L' h₁ news → Below A base (env :: outer) g → K.In g → Top p loose mean mg mb g → (∀ p ∈ news, p.1 < L') → @LE.le Nat _ s.heap.objs.size L' →
      wpAny (model prog w) (A.deeper (envOf qual scope L' f cdv)) (execs body (envOf qual scope L' f cdv))
        (fun fl s' => MyLeave s.heap (news.map (·.1)) g R (match fl with | .ret v => v | _ => .none) s')
        (fun e s' => wpAny (model prog w) (A.deeper (envOf qual scope L' f cdv)) (leaving (envOf qual scope L' f cdv) e) (fun _ s'' => R (.error e) s'') (fun e' s'' => R (.error e') s'') s')
        { s with heap := h₁, toks := s.toks + binds.length })
    (hco : scope.isCoroutine = false) (hgen : scope.isGenerator = false) (hk : scope.kind = .function)
    (hcell : ∀ x ∈ scope.names, x.2 ≠ .cell) : codeAny (model prog w) A (.call (.ref f) args) R s := by
  obtain ⟨_, BG, st, _⟩ := groundX (R := R) B F N hA hf hke
  have G := groundOf s.heap (news.map (·.1))
  refine codeAny_call_def (fd := fnOf name qual params body scope dV kV doc pm an cdv ct) (body := body) (binds := binds) hroom (X₀.keeps F.keep _ _ ho) rfl (T.nolimit.keeps F.keep) (codeRec_of (X₀.keeps F.keep) hcd) rfl hbind hcell hloc (fun h₁ hns hk₁ => ?_) hco hgen hk
  exact wpAny_mono (h _ s.heap.objs.size h₁ G ⟨hns, fun b o e => hk₁ b o (G.sub _ _ e), Nat.le_of_eq (hideAll_size _ _)⟩
    (fun p hp => ⟨hk₁ _ _ (N p hp).1, Nat.ne_of_lt (Heap.lt_size (N p hp).1), G.off _ (List.mem_map_of_mem hp)⟩) BG (X₀.keeps st) (T.keeps st) (fun p hp => Heap.lt_size (N p hp).1) (Nat.le_refl _)) (fun fl s' hl => hl.out G) fun _ _ y => y

theorem enter_cells (B : Below A₀ base outer h₀) (F : Fr h₀ L s.heap m) (X₀ : K.In h₀) (N : News h₀ L s.heap news) (T : Top p loose mean mg mb h₀) (hA : A.frames = some (env :: outer)) (hf : env.frame = some L) (hke : env.scope.kind = .function)
    (ho : K.lookup f = some ⟨oc, od, .func (fnOf name qual params body scope dV kV doc pm an cdv ct), osl⟩) (hcd : codeIn K cdv qual = true) (hroom : A.depth < recursionLimit)
    (hbind : BindsTo s (fnOf name qual params body scope dV kV doc pm an cdv ct) args binds) (hkind : (binds.all fun y => scope.names.lookup y.1 == some .local || scope.names.lookup y.1 == some .cell) = true)
    (hnd : ((cellsFrom 0 scope.names []).map (·.1)).Nodup)
    (h : ∀ g L' h₁ tk cells, GroundOf s.heap (news.map (·.1)) g → Fr g L' h₁ (bindL (envOfC qual scope L' f cdv).kindOf binds fun _ => none) → News g L' h₁ (cells ++ news) →
      CellsAre (bindC (envOfC qual scope L' f cdv).kindOf binds fun _ => none) (cellsFrom (L' + 1) scope.names []) cells → Below A base (env :: outer) g → K.In g → Top p loose mean mg mb g → (∀ p ∈ news, p.1 < L') → @LE.le Nat _ s.heap.objs.size L' →
      wpAny (model prog w) (A.deeper (envOfC qual scope L' f cdv)) (execs body (envOfC qual scope L' f cdv))
        (fun fl s' => MyLeave s.heap (news.map (·.1)) g R (match fl with | .ret v => v | _ => .none) s')
        (fun e s' => wpAny (model prog w) (A.deeper (envOfC qual scope L' f cdv)) (leaving (envOfC qual scope L' f cdv) e) (fun _ s'' => R (.error e) s'') (fun e' s'' => R (.error e') s'') s')
        { s with heap := h₁, toks := tk })
    (hco : scope.isCoroutine = false) (hgen : scope.isGenerator = false) (hk : scope.kind = .function) : codeAny (model prog w) A (.call (.ref f) args) R s := by
  obtain ⟨_, BG, st, _⟩ := groundX (R := R) B F N hA hf hke
  have G := groundOf s.heap (news.map (·.1))
  refine codeAny_call_function hroom (X₀.keeps F.keep _ _ ho) rfl hco hgen rfl (codeRec_of (X₀.keeps F.keep) hcd) (hbind _ _ _ _ ?_)
  refine wpAny_newFunctionEnv_cells hk (kindsX hkind _) fun env' he s' x => ?_
  subst he
  refine ⟨(T.nolimit.keeps F.keep).keeps x.toInCall.keep, codeAny_func ?_⟩
  obtain ⟨h₁, tk, rfl, _⟩ := x.done
  have hk₁ := x.toInCall.keep
  obtain ⟨cells, NC, Y⟩ := Cl.news (h₀ := s.heap) (Nat.le_refl _) fun n c hm => ⟨x.cell n c (lookup_of_mem_nodup (cellsFrom_names scope.names 0 (s.heap.objs.size + 1) [] [] rfl ▸ hnd) hm), x.above n c hm⟩
  refine wpAny_mono (h _ s.heap.objs.size h₁ tk cells G ⟨x.toInCall.ns, fun b o e => hk₁ b o (G.sub _ _ e), Nat.le_of_eq (hideAll_size _ _)⟩ (fun p hp => ?_) Y BG (X₀.keeps st) (T.keeps st) (fun p hp => Heap.lt_size (N p hp).1) (Nat.le_refl _)) (fun fl s' hl => hl.out G) fun _ _ y => y
  rcases List.mem_append.mp hp with hp | hp
  · refine ⟨(NC p hp).1, (NC p hp).2.1, ?_⟩
    cases q : (hideAll s.heap (news.map (·.1))).get? p.1 with
    | none => rfl
    | some o => have := G.sub _ _ q; rw [(NC p hp).2.2] at this; cases this
  · exact ⟨hk₁ _ _ (N p hp).1, Nat.ne_of_lt (Heap.lt_size (N p hp).1), G.off _ (List.mem_map_of_mem hp)⟩

theorem enter_lam {eb : Expr} {cl : List (Str × Addr)} {pm ctv : Value} {c' : Addr} (B : Below A₀ base outer h₀) (F : Fr h₀ L s.heap m) (X₀ : K.In h₀) (N : News h₀ L s.heap news) (T : Top p loose mean mg mb h₀) (hA : A.frames = some (env :: outer)) (hf : env.frame = some L) (hke : env.scope.kind = .function)
    (ho : (f, kla_obj name qual params eb scope cl pm c' ctv) ∈ news) (hcd : s.heap.CodeRec (.ref c') qual) (hroom : A.depth < recursionLimit)
    (hbind : bindArgs (kla_fn name qual params eb scope cl pm (.ref c') ctv) args = pure binds) (hloc : ∀ y ∈ binds, scope.names.lookup y.1 = some .local)
    (h : ∀ g L' h₁, GroundOf s.heap (news.map (·.1)) g → Fr g L' h₁ (fun y => binds.reverse.lookup y) → News g L' h₁ news → Below A base (env :: outer) g → K.In g → Top p loose mean mg mb g → (∀ p ∈ news, p.1 < L') → @LE.le Nat _ s.heap.objs.size L' →
      wpAny (model prog w) (A.deeper (envX qual scope L' f (.ref c') cl)) (eval eb (envX qual scope L' f (.ref c') cl))
        (fun v s' => MyLeave s.heap (news.map (·.1)) g R v s')
        (fun e s' => wpAny (model prog w) (A.deeper (envX qual scope L' f (.ref c') cl)) (leaving (envX qual scope L' f (.ref c') cl) e) (fun _ s'' => R (.error e) s'') (fun e' s'' => R (.error e') s'') s')
        { s with heap := h₁, toks := s.toks + binds.length })
    (hco : scope.isCoroutine = false) (hgen : scope.isGenerator = false) (hk : scope.kind = .function)
    (hcell : ∀ x ∈ scope.names, x.2 ≠ .cell) : codeAny (model prog w) A (.call (.ref f) args) R s := by
  obtain ⟨_, BG, st, _⟩ := groundX (R := R) B F N hA hf hke
  have G := groundOf s.heap (news.map (·.1))
  refine kla_callFunE hroom (N _ ho).1 rfl hco hgen rfl hcd ?_
  rw [hbind]
  refine wpAny_pure (wpAny_newFunctionEnv hcell hloc (fun h₁ hns hsb => ⟨((T.nolimit).keeps F.keep).fresh _ hsb, ?_⟩) hk)
  show codeAny _ _ (.expr eb (envX qual scope s.heap.objs.size f (.ref c') cl)) _ _
  have hk₁ : ∀ b o, s.heap.get? b = some o → h₁.get? b = some o := fun b o e => hsb.extBut b o (Nat.ne_of_lt (Heap.lt_size e)) (Heap.get?_push_of_some _ e)
  exact kla_codeExpr (wpAny_mono (h _ s.heap.objs.size h₁ G ⟨hns, fun b o e => hk₁ b o (G.sub _ _ e), Nat.le_of_eq (hideAll_size _ _)⟩
    (fun p hp => ⟨hk₁ _ _ (N p hp).1, Nat.ne_of_lt (Heap.lt_size (N p hp).1), G.off _ (List.mem_map_of_mem hp)⟩) BG (X₀.keeps st) (T.keeps st) (fun p hp => Heap.lt_size (N p hp).1) (Nat.le_refl _)) (fun v s' hl => hl.out G) fun _ _ y => y)
end

/-- the contract of a call: any caller; the ledger's part `rel` that it may touch -/
def HC (w : World) (mg mb : Str → Option Value) (f : Value) (vs : List Value) (kw : List (Str × Value)) (dpn unn : Nat) (rel : List (Addr × Obj)) (G : Heap → Prop) (Post : Heap → Value → List (Addr × Obj) → Prop) : Prop :=
  ∀ (p : Program) (loose : List Str) (mean : ExcName → Option Value) (dp un : Nat) (gd : Option (List Code)) (cn : Str) (cs : Scope) (a : Addr) (ccd : Value) (cl : List (Str × Addr)) (outer : List Env) (A₀ : Around) (base h₀ : Heap) (L : Addr) (m : Str → Option Value) (s : Shared) (Q E : Value → Shared → Prop),
    Below A₀ base outer h₀ → Fr h₀ L s.heap m → (hd.heap_39 w.params).In h₀ → News h₀ L s.heap rel → Top p loose mean mg mb h₀ → cs.kind = .function → G base →
    dp + dpn < recursionLimit → un + unn < cLine →
    (∀ v news' h' tk', Kept s.heap (rel.map (·.1)) h' → Newly s.heap (rel.map (·.1)) h' news' → Post s.heap v news' → Q v { s with heap := h', toks := tk' }) →
      wpAny (model pg w) (ktrTop dp un gd cn cs L a ccd cl outer) (call f vs kw) Q E s

theorem HC.use {w : World} {mg mb : Str → Option Value} {f : Value} {vs : List Value} {kw : List (Str × Value)} {dpn unn : Nat} {rel : List (Addr × Obj)} {G : Heap → Prop} {Post : Heap → Value → List (Addr × Obj) → Prop}
    {p : Program} {loose : List Str} {mean : ExcName → Option Value} {dp un : Nat} {gd : Option (List Code)} {cn : Str} {cs : Scope} {a : Addr} {ccd : Value} {cl : List (Str × Addr)} {outer : List Env} {A₀ : Around} {base h₀ : Heap} {L : Addr} {m : Str → Option Value} {s : Shared} {Q E : Value → Shared → Prop} {news rest : List (Addr × Obj)}
    (C : HC w mg mb f vs kw dpn unn rel G Post) (B : Below A₀ base outer h₀) (F : Fr h₀ L s.heap m) (X : (hd.heap_39 w.params).In h₀) (N : News h₀ L s.heap news) (T : Top p loose mean mg mb h₀) (hk : cs.kind = .function) (hG : G base)
    (hd : dp + dpn < recursionLimit) (hu : un + unn < cLine) (hrel : ∀ q ∈ rel, q ∈ news) (hrest : ∀ q ∈ rest, q ∈ news) (hoff : ∀ q ∈ rest, q.1 ∉ rel.map (·.1))
    (k : ∀ v news' h' tk', Fr h₀ L h' m → News h₀ L h' (news' ++ rest) → Post s.heap v news' → Q v { s with heap := h', toks := tk' }) :
    wpAny (model pg w) (ktrTop dp un gd cn cs L a ccd cl outer) (call f vs kw) Q E s := by
  have Nr : News h₀ L s.heap rel := fun q hq => N q (hrel q hq)
  refine C p loose mean dp un gd cn cs a ccd cl outer A₀ base h₀ L m s Q E B F X Nr T hk hG hd hu fun v news' h' tk' kK kN hP => ?_
  have hL : L ∉ rel.map (·.1) := fun q => by
    obtain ⟨r, hr, e⟩ := List.mem_map.mp q
    exact (Nr r hr).2.1 e
  have hr0 : ∀ b, b ∈ rel.map (·.1) → h₀.get? b = none := fun b q => by
    obtain ⟨r, hr, rfl⟩ := List.mem_map.mp q
    exact (Nr r hr).2.2
  obtain ⟨oL, es, ep, hLo, hLr⟩ := F.ns
  refine k v news' h' tk' ⟨⟨oL, es, ep, kK _ _ hLo hL, hLr⟩, fun b o e => kK b o (F.keep b o e) fun q => ?_, F.above⟩ (fun q hq => ?_) hP
  · rw [hr0 b q] at e; cases e
  · rcases List.mem_append.mp hq with hq | hq
    · refine ⟨(kN q hq).1, fun e => ?_, ?_⟩
      · rcases (kN q hq).2 with h | h
        · exact hL (e ▸ h)
        · rw [e, hLo] at h; cases h
      · rcases (kN q hq).2 with h | h
        · exact hr0 _ h
        · cases e : h₀.get? q.1 with
          | none => rfl
          | some o => rw [F.keep _ _ e] at h; cases h
    · exact ⟨kK _ _ (N q (hrest q hq)).1 (hoff q hq), (N q (hrest q hq)).2⟩


/-- the ledger's part that a call leaves alone -/
inductive Split (as : List Addr) : List (Addr × Obj) → List (Addr × Obj) → Prop
  | nil : Split as [] []
  | drop {q news rest} : Split as news rest → Split as (q :: news) rest
  | keep {q news rest} : q.1 ∉ as → Split as news rest → Split as (q :: news) (q :: rest)
theorem Split.mem {as : List Addr} {news rest : List (Addr × Obj)} (x : Split as news rest) : ∀ q ∈ rest, q ∈ news ∧ q.1 ∉ as := by
  induction x with
  | nil => exact fun _ h => nomatch h
  | drop _ ih => exact fun q h => ⟨.tail _ (ih q h).1, (ih q h).2⟩
  | keep hn _ ih =>
    intro q h
    rcases List.mem_cons.mp h with rfl | h
    · exact ⟨.head _, hn⟩
    · exact ⟨.tail _ (ih q h).1, (ih q h).2⟩
theorem HC.at {w : World} {mg mb : Str → Option Value} {f : Value} {vs : List Value} {kw : List (Str × Value)} {dpn unn : Nat} {rel : List (Addr × Obj)} {G : Heap → Prop} {Post : Heap → Value → List (Addr × Obj) → Prop}
    {p : Program} {loose : List Str} {mean : ExcName → Option Value} {dp un : Nat} {gd : Option (List Code)} {cn : Str} {cs : Scope} {a : Addr} {ccd : Value} {cl : List (Str × Addr)} {outer : List Env} {A₀ : Around} {base h₀ : Heap} {L : Addr} {m : Str → Option Value} {s : Shared} {Q E : Value → Shared → Prop} {news rest : List (Addr × Obj)}
    (C : HC w mg mb f vs kw dpn unn rel G Post) (B : Below A₀ base outer h₀) (F : Fr h₀ L s.heap m) (X : (hd.heap_39 w.params).In h₀) (N : News h₀ L s.heap news) (T : Top p loose mean mg mb h₀) (hk : cs.kind = .function) (hG : G base)
    (hd : dp + dpn < recursionLimit) (hu : un + unn < cLine) (hrel : ∀ q ∈ rel, q ∈ news) (sp : Split (rel.map (·.1)) news rest)
    (k : ∀ v news' h' tk', Fr h₀ L h' m → News h₀ L h' (news' ++ rest) → Post s.heap v news' → (∀ o ∈ news, o.1 < s.heap.objs.size) → Q v { s with heap := h', toks := tk' }) :
    wpAny (model pg w) (ktrTop dp un gd cn cs L a ccd cl outer) (call f vs kw) Q E s :=
  HC.use C B F X N T hk hG hd hu hrel (fun q h => (sp.mem q h).1) (fun q h => (sp.mem q h).2) fun v news' h' tk' F' N' P => k v news' h' tk' F' N' P fun o ho => Heap.lt_size (N o ho).1
theorem HC.atO {Out : Heap → (Value → List (Addr × Obj) → Prop) → Prop} {w : World} {mg mb : Str → Option Value} {f : Value} {vs : List Value} {kw : List (Str × Value)} {dpn unn : Nat} {rel : List (Addr × Obj)} {G : Heap → Prop} {Post : Heap → Value → List (Addr × Obj) → Prop}
    {p : Program} {loose : List Str} {mean : ExcName → Option Value} {dp un : Nat} {gd : Option (List Code)} {cn : Str} {cs : Scope} {a : Addr} {ccd : Value} {cl : List (Str × Addr)} {outer : List Env} {A₀ : Around} {base h₀ : Heap} {L : Addr} {m : Str → Option Value} {s : Shared} {Q E : Value → Shared → Prop} {news rest : List (Addr × Obj)}
    (C : HC w mg mb f vs kw dpn unn rel G Post) (hO : ∀ H v n, Post H v n → ∀ P : Value → List (Addr × Obj) → Prop, Out H P → P v n) (B : Below A₀ base outer h₀) (F : Fr h₀ L s.heap m) (X : (hd.heap_39 w.params).In h₀) (N : News h₀ L s.heap news) (T : Top p loose mean mg mb h₀) (hk : cs.kind = .function) (hG : G base)
    (hd : dp + dpn < recursionLimit) (hu : un + unn < cLine) (hrel : ∀ q ∈ rel, q ∈ news) (sp : Split (rel.map (·.1)) news rest)
    (k : ∀ h' tk', Fr h₀ L h' m → (∀ o ∈ news, o.1 < s.heap.objs.size) → Out s.heap (fun v news' => News h₀ L h' (news' ++ rest) → Q v { s with heap := h', toks := tk' })) :
    wpAny (model pg w) (ktrTop dp un gd cn cs L a ccd cl outer) (call f vs kw) Q E s :=
  HC.at C B F X N T hk hG hd hu hrel sp fun v news' h' tk' F' N' P l1 => hO _ _ _ P (fun v news' => News h₀ L h' (news' ++ rest) → Q v { s with heap := h', toks := tk' }) (k h' tk' F' l1) N'
theorem HC.useO {Out : Heap → (Value → List (Addr × Obj) → Prop) → Prop} {w : World} {mg mb : Str → Option Value} {f : Value} {vs : List Value} {kw : List (Str × Value)} {dpn unn : Nat} {rel : List (Addr × Obj)} {G : Heap → Prop} {Post : Heap → Value → List (Addr × Obj) → Prop}
    {p : Program} {loose : List Str} {mean : ExcName → Option Value} {dp un : Nat} {gd : Option (List Code)} {cn : Str} {cs : Scope} {a : Addr} {ccd : Value} {cl : List (Str × Addr)} {outer : List Env} {A₀ : Around} {base h₀ : Heap} {L : Addr} {m : Str → Option Value} {s : Shared} {Q E : Value → Shared → Prop} {news rest : List (Addr × Obj)}
    (C : HC w mg mb f vs kw dpn unn rel G Post) (hO : ∀ H v n, Post H v n → ∀ P : Value → List (Addr × Obj) → Prop, Out H P → P v n) (B : Below A₀ base outer h₀) (F : Fr h₀ L s.heap m) (X : (hd.heap_39 w.params).In h₀) (N : News h₀ L s.heap news) (T : Top p loose mean mg mb h₀) (hk : cs.kind = .function) (hG : G base)
    (hd : dp + dpn < recursionLimit) (hu : un + unn < cLine) (hrel : ∀ q ∈ rel, q ∈ news) (hrest : ∀ q ∈ rest, q ∈ news) (hoff : ∀ q ∈ rest, q.1 ∉ rel.map (·.1))
    (k : ∀ h' tk', Fr h₀ L h' m → Out s.heap (fun v news' => News h₀ L h' (news' ++ rest) → Q v { s with heap := h', toks := tk' })) :
    wpAny (model pg w) (ktrTop dp un gd cn cs L a ccd cl outer) (call f vs kw) Q E s :=
  HC.use C B F X N T hk hG hd hu hrel hrest hoff fun v news' h' tk' F' N' P => hO _ _ _ P (fun v news' => News h₀ L h' (news' ++ rest) → Q v { s with heap := h', toks := tk' }) (k h' tk' F') N'
theorem outE {e v : Value} {l n : List (Addr × Obj)} {P : Value → List (Addr × Obj) → Prop} (h1 : v = e) (h2 : n = l) (k : P e l) : P v n := by subst h1; subst h2; exact k
theorem out00 {e : Value} {l : List (Addr × Obj)} (_ : Heap) (v : Value) (n : List (Addr × Obj)) (h : v = e ∧ n = l) (P : Value → List (Addr × Obj) → Prop) (k : P e l) : P v n := outE h.1 h.2 k
theorem out12 {α : Type} {e : α → Value} {l : α → List (Addr × Obj)} {C1 C2 : Heap → α → Prop} (H : Heap) (v : Value) (n : List (Addr × Obj)) (h : ∃ a, v = e a ∧ n = l a ∧ C1 H a ∧ C2 H a) (P : Value → List (Addr × Obj) → Prop) (k : ∀ a, C1 H a → C2 H a → P (e a) (l a)) : P v n :=
  h.elim fun a h => outE h.1 h.2.1 (k a h.2.2.1 h.2.2.2)
theorem out34 {α β γ : Type} {e : α → β → γ → Value} {l : α → β → γ → List (Addr × Obj)} {C1 C2 C3 C4 : Heap → α → β → γ → Prop} (H : Heap) (v : Value) (n : List (Addr × Obj)) (h : ∃ a b c, v = e a b c ∧ n = l a b c ∧ C1 H a b c ∧ C2 H a b c ∧ C3 H a b c ∧ C4 H a b c)
    (P : Value → List (Addr × Obj) → Prop) (k : ∀ a b c, C1 H a b c → C2 H a b c → C3 H a b c → C4 H a b c → P (e a b c) (l a b c)) : P v n :=
  h.elim fun a h => h.elim fun b h => h.elim fun c h => outE h.1 h.2.1 (k a b c h.2.2.1 h.2.2.2.1 h.2.2.2.2.1 h.2.2.2.2.2)
theorem out66 {α β γ δ ε ζ : Type} {e : α → β → γ → δ → ε → ζ → Value} {l : α → β → γ → δ → ε → ζ → List (Addr × Obj)} {C1 C2 C3 C4 C5 C6 : Heap → α → β → γ → δ → ε → ζ → Prop} (H : Heap) (v : Value) (n : List (Addr × Obj))
    (h : ∃ a b c d x y, v = e a b c d x y ∧ n = l a b c d x y ∧ C1 H a b c d x y ∧ C2 H a b c d x y ∧ C3 H a b c d x y ∧ C4 H a b c d x y ∧ C5 H a b c d x y ∧ C6 H a b c d x y)
    (P : Value → List (Addr × Obj) → Prop) (k : ∀ a b c d x y, C1 H a b c d x y → C2 H a b c d x y → C3 H a b c d x y → C4 H a b c d x y → C5 H a b c d x y → C6 H a b c d x y → P (e a b c d x y) (l a b c d x y)) : P v n :=
  h.elim fun a h => h.elim fun b h => h.elim fun c h => h.elim fun d h => h.elim fun x h => h.elim fun y h => outE h.1 h.2.1 (k a b c d x y h.2.2.1 h.2.2.2.1 h.2.2.2.2.1 h.2.2.2.2.2.1 h.2.2.2.2.2.2.1 h.2.2.2.2.2.2.2)

theorem notin_nil {a : Nat} : a ∉ ([] : List Nat) := fun h => nomatch h
theorem notin_cons {a b : Nat} {l : List Nat} (h : a ≠ b) (h2 : a ∉ l) : a ∉ b :: l := fun q => (List.mem_cons.mp q).elim h h2

end

section
theorem store_function : StoreFacts "function" [.type "function", .type "object"] "object.__setattr__" "object" where
  mro := by kernel_rfl
  slot := .of (owner := "object") (n := "__setattr__") (by rw [typeLookup_type, builtinLookup_eq_fast]; kernel_rfl) (by decide +kernel) (by decide +kernel) (by decide +kernel)
    (by first | exact .inl (by decide +kernel) | exact .inr (by decide +kernel)) (by rw [isSubtype_type]; kernel_rfl)
  entry := F.entry_object_sa
  kind := by decide +kernel
  split := by decide +kernel
  hasOwner := by decide +kernel
  args := fun a b c => by unfold argsOk; kernel_rfl
  passes := fun self => by kernel_rfl
theorem fn_tag : typeLookup (.type "function") "tag" = pure none := by rw [typeLookup_type, builtinLookup_eq_fast]; kernel_rfl
theorem fn_attrib : typeLookup (.type "function") "attrib" = pure none := by rw [typeLookup_type, builtinLookup_eq_fast]; kernel_rfl
theorem fn_inner : typeLookup (.type "function") "inner" = pure none := by rw [typeLookup_type, builtinLookup_eq_fast]; kernel_rfl
theorem fn_make : typeLookup (.type "function") "makeelement" = pure none := by rw [typeLookup_type, builtinLookup_eq_fast]; kernel_rfl
theorem fn_append : typeLookup (.type "function") "append" = pure none := by rw [typeLookup_type, builtinLookup_eq_fast]; kernel_rfl
theorem fn_getattribute : typeLookup (.type "function") "__getattribute__" = pure (some (.builtin "object.__getattribute__")) := by rw [typeLookup_type, builtinLookup_eq_fast]; kernel_rfl
theorem fn_getattr : typeLookup (.type "function") "__getattr__" = pure none := by rw [typeLookup_type, builtinLookup_eq_fast]; kernel_rfl

theorem putL_length (name : Str) (hsh : Int) (key v : Value) : ∀ es : List DictEntry, (putL name hsh key v es).length ≤ es.length + 1
  | [] => Nat.le_refl _
  | e :: r => by
    unfold putL
    split
    · simp
    · have := putL_length name hsh key v r
      simp only [List.length_cons]; omega
theorem store_in_dict {prog : Program} {w : World} {A : Around} {E : Value → Shared → Prop} {Q : Fin → Shared → Prop} {s : Shared} {dx : Addr} {es : List DictEntry} {n : Nat} {name : Str} {tk : Tok} {v : Value}
    (D : s.heap.get? dx = some (dictOf es n)) (hl : (getL name es).isSome = true) (hz : es.length ≤ 1000)
    (h : Q (.done (.ret .none)) { s with heap := s.heap.update dx (Obj.putName name (PyData.keyHash w.params name) (.str name s.toks) v), toks := s.toks + 1 }) :
    wpAny (model prog w) A (storeInDict dx (.str name tk) name v) Q E s := by
  have D' : (s.heap.update dx (Obj.putName name (PyData.keyHash w.params name) (.str name s.toks) v)).get? dx = some (dictOf (putL name (PyData.keyHash w.params name) (.str name s.toks) v es) (putN name es n)) := by
    rw [← putName_dict]
    exact Heap.get?_update_self _ D (by rw [putName_dict]; rfl)
  unfold storeInDict newKeyGuard nsSet
  refine wpAny_bind (wpAny_pure (wpAny_bind ?_))
  refine wpAny_bind (wpAny_bind (wpAny_askSetting (wpAny_pure (wpAny_bind (wpAny_mkText (wpAny_bind (wpAny_loadPart D ?_)))))))
  have c : (!es.toArray.any (·.key.isStr name) && es.toArray.any (·.refKey)) = false := by
    rw [← Array.any_toList, ← Array.any_toList]
    unfold getL at hl
    split at hl
    · rename_i en he
      rw [List.any_eq_true.mpr ⟨en, List.mem_of_find?_eq_some he, List.find?_some he⟩]; rfl
    · split at hl
      · cases hl
      · rename_i z; rw [Bool.not_eq_true] at z; rw [z, Bool.and_false]
  dsimp only
  rw [aRefKeyMayBeTheName_at, c]
  refine wpAny_updatePart D ?_
  refine wpAny_bind (wpAny_lookBehind D' (pastItsLine_dict ?_) ?_)
  · have := putL_length name (PyData.keyHash w.params name) (.str name s.toks) v es
    rw [List.size_toArray, sizeLine_eq]; omega
  exact wpAny_pure h

/-- a function's object -/
abbrev fnObj (d : Option Addr) (fd : FuncData) (sl : Array (Option Value)) : Obj := ⟨.type "function", d, .func fd, sl⟩

theorem fn_set_open {prog : Program} {w : World} {A : Around} {E : Value → Shared → Prop} {Q : Unit → Shared → Prop} {s : Shared} {f : Addr} {od : Option Addr} {fd : FuncData} {sl : Array (Option Value)} {name : Str} {v : Value}
    (hf : s.heap.get? f = some (fnObj od fd sl)) (hT : typeLookup (.type "function") name = pure none)
    (h : wpAny (model prog w) A.in1 (storeInOwnDict (.ref f) (.type "function") (.str name s.toks) name v false)
      (fun fin s' => match fin with | .done (.ret _) => Q () s' | .done _ => False | .again _ => False) E { s with toks := s.toks + 1 }) :
    wpAny (model prog w) A (setAttr (.ref f) name v) Q E s := by
  have SF := store_function
  have hf' : Heap.get? ({ s with toks := s.toks + 1 } : Shared).heap f = some (fnObj od fd sl) := hf
  refine wpAny_bind (wpAny_mkText (wpAny_bind (wpAny_bind (wpAny_bind (wpAny_bind (wpAny_loadPart hf' (wpAny_pure (wpAny_of_eq SF.slot.lookup (wpAny_holding ?_)))))))))
  rw [SF.slot.bind]
  refine wpAny_bind (wpAny_pure (wpAny_bind (wpAny_call ?_)))
  refine codeAny_call_builtin SF.slot.plain SF.entry (SF.slot.check _ _ _ _ _ _ _ _ ?_ (SF.args _ _ _) ?_)
  · exact ⟨_, hf', rfl⟩
  show wpAny _ _ (Builtin.«object.__setattr__» ⟨[.ref f, .str name s.toks, v], []⟩) _ _ _
  rw [osa_eq, refuse_eq]
  refine wpAny_bind (wpAny_bind (wpAny_bind (wpAny_loadPart hf' (wpAny_pure (wpAny_bind (wpAny_of_eq SF.mro ?_))))))
  rw [SF.passes]
  refine wpAny_pure (wpAny_bind (wpAny_bind (wpAny_loadPart hf' (wpAny_pure (wpAny_bind (wpAny_of_eq hT (wpAny_bind (wpAny_pure ?_))))))))
  refine wpAny_mono h (fun fin s' z => ?_) (fun _ _ z => z)
  rcases fin with (v | _ | _ | _) | c <;> first | exact z.elim | skip
  exact wpAny_pure (wpAny_pure z)

theorem fn_has_dict : typeHasDict (.type "function") = true := by kernel_rfl
theorem fn_not_alone : finalisedInACycleAlone "function" = false := by kernel_rfl
theorem fn_own_some {M : Model} {A : Around} {E : Value → Shared → Prop} {Q : Option Addr → Shared → Prop} {s : Shared} {f dx : Addr} {fd : FuncData} {sl : Array (Option Value)} {b : Bool}
    (hf : s.heap.get? f = some (fnObj (some dx) fd sl)) (h : Q (some dx) s) : wpAny M A (instanceDict f b) Q E s := by
  unfold instanceDict
  refine wpAny_bind (wpAny_loadPart hf ?_)
  exact wpAny_pure h
theorem fn_own_none {M : Model} {A : Around} {E : Value → Shared → Prop} {Q : Option Addr → Shared → Prop} {s : Shared} {f : Addr} {fd : FuncData} {sl : Array (Option Value)}
    (hf : s.heap.get? f = some (fnObj none fd sl))
    (h : Q (some s.heap.objs.size) { s with heap := (s.heap.push (dictOf [] 0)).update f fun o => { o with dict := some s.heap.objs.size } }) : wpAny M A (instanceDict f true) Q E s := by
  unfold instanceDict
  refine wpAny_bind (wpAny_loadPart hf ?_)
  dsimp only
  rw [fn_has_dict]
  refine wpAny_bind (wpAny_alloc (wpAny_bind (wpAny_update (Heap.get?_push_of_some _ hf) ?_)))
  unfold dictMade
  dsimp only
  rw [fn_not_alone]
  exact wpAny_bind (wpAny_pure (wpAny_pure h))

theorem fn_store_own {prog : Program} {w : World} {A : Around} {E : Value → Shared → Prop} {Q : Fin → Shared → Prop} {s : Shared} {f : Addr} {name : Str} {tk : Tok} {v : Value} {b : Bool}
    (h : wpAny (model prog w) A (instanceDict f true) (fun r s' => match r with | some d => wpAny (model prog w) A (storeInDict d (.str name tk) name v) Q E s' | none => False) E s) :
    wpAny (model prog w) A (storeInOwnDict (.ref f) (.type "function") (.str name tk) name v b) Q E s := by
  unfold storeInOwnDict ownDictForStores
  have e : ownStreamTells (.ref f) (.type "function") = pure () := rfl
  rw [e]
  refine wpAny_bind (wpAny_pure ?_)
  have e2 : ((Value.type "function") == (Value.type "module")) = false := by decide
  rw [e2]
  refine wpAny_bind (wpAny_mono h (fun r s' z => ?_) fun _ _ z => z)
  cases r with
  | none => exact z.elim
  | some d => exact z

section
variable {prog : Program} {w : World} {A : Around} {E : Value → Shared → Prop} {Q : Unit → Shared → Prop} {s : Shared} {h₀ : Heap} {L : Addr} {m : Str → Option Value} {news news' : List (Addr × Obj)} {gg : Obj → List (Addr × Obj)} {f dx : Addr} {es es' : List DictEntry} {n n' : Nat} {fd : FuncData} {sl : Array (Option Value)} {name : Str} {v : Value}
/-- a store over a function's own dict -/
theorem fn_set_some (F : Fr h₀ L s.heap m) (N : News h₀ L s.heap news) (hf : (f, fnObj (some dx) fd sl) ∈ news) (_hd : (dx, dictOf es n) ∈ news) (hT : typeLookup (.type "function") name = pure none)
    (hl : (getL name es).isSome = true) (e : (putL name (PyData.keyHash w.params name) (.str name (s.toks + 1)) v es, putN name es n) = (es', n'))
    (U : Upd dx (dictOf es n) (dictOf es' n') news news') (hz : es.length ≤ 1000)
    (h : ∀ h', Fr h₀ L h' m → News h₀ L h' news' → Q () { s with heap := h', toks := s.toks + 2 }) :
    wpAny (model prog w) A (setAttr (.ref f) name v) Q E s := by
  obtain ⟨pre, post, rfl, rfl, a, b⟩ := U.split
  obtain ⟨e1, e2⟩ := Prod.mk.inj e
  refine fn_set_open (N.get hf) hT (fn_store_own (fn_own_some (N.get hf) ?_))
  have D := (N (dx, dictOf es n) (by simp)).1
  refine store_in_dict (es := es) (n := n) D hl hz ?_
  obtain ⟨U1, U2⟩ := news_upd (f := Obj.putName name (PyData.keyHash w.params name) (.str name (s.toks + 1)) v) F N a b (by rw [putName_dict, e1, e2]) rfl
  exact h _ U1 U2
/-- the first store on a function -/
theorem fn_set_none (F : Fr h₀ L s.heap m) (N : News h₀ L s.heap news) (hT : typeLookup (.type "function") name = pure none)
    (U : UpdF f (fnObj none fd sl) news gg)
    (h : ∀ d h', Fr h₀ L h' m → News h₀ L h' ((d, dictOf [⟨PyData.keyHash w.params name, .str name (s.toks + 1), v⟩] 1) :: gg (fnObj (some d) fd sl)) → (∀ p ∈ news, p.1 < d) → Q () { s with heap := h', toks := s.toks + 2 }) :
    wpAny (model prog w) A (setAttr (.ref f) name v) Q E s := by
  obtain ⟨pre, post, rfl, hg, a, b⟩ := U.split
  have hf : s.heap.get? f = some (fnObj none fd sl) := (N _ (List.mem_append_right _ (.head _))).1
  refine fn_set_open hf hT (fn_store_own (fn_own_none hf ?_))
  have hlt : ∀ p ∈ pre ++ (f, fnObj none fd sl) :: post, p.1 < s.heap.objs.size := fun p hp => Heap.lt_size (N p hp).1
  have F1 := F.push (dictOf [] 0)
  have N1 := N.push F (dictOf [] 0)
  have U1 := news_upd (f := fun o => { o with dict := some s.heap.objs.size }) (o' := fnObj (some s.heap.objs.size) fd sl) (pre := (s.heap.objs.size, dictOf [] 0) :: pre) F1 N1
    (fun p hp => by
      rcases List.mem_cons.mp hp with rfl | hp
      · exact Nat.ne_of_gt (hlt _ (List.mem_append_right _ (.head _)))
      · exact a p hp) b rfl rfl
  have D := (U1.2 (s.heap.objs.size, dictOf [] 0) (.head _)).1
  refine store_in_dict (es := []) (n := 0) D rfl (Nat.zero_le _) ?_
  obtain ⟨U2, U3⟩ := news_upd (f := Obj.putName name (PyData.keyHash w.params name) (.str name (s.toks + 1)) v) (pre := []) (o' := dictOf [⟨PyData.keyHash w.params name, .str name (s.toks + 1), v⟩] 1) U1.1 U1.2 (fun _ h => nomatch h)
    (fun p hp => by
      rcases List.mem_append.mp hp with hp | hp
      · exact Nat.ne_of_lt (hlt p (List.mem_append_left _ hp))
      · rcases List.mem_cons.mp hp with rfl | hp
        · exact Nat.ne_of_lt (hlt (f, fnObj none fd sl) (List.mem_append_right _ (.head _)))
        · exact Nat.ne_of_lt (hlt p (List.mem_append_right _ (.tail _ hp)))) (by rw [putName_dict]; rfl) rfl
  refine h s.heap.objs.size _ U2 ?_ hlt
  rw [hg]
  exact U3
end

theorem entry_obj_ga : entryFor table "object.__getattribute__" = some Builtin.«object.__getattribute__» := entryFor_of_tree (by kernel_rfl)
theorem slot_fn_ga : Slot "function" "__getattribute__" "object.__getattribute__" :=
  .of (owner := "object") (n := "__getattribute__") fn_getattribute (by decide +kernel) (by decide +kernel) (by decide +kernel)
    (by first | exact .inl (by decide +kernel) | exact .inr (by decide +kernel)) (by rw [isSubtype_type]; kernel_rfl)
theorem args_obj_ga (a b : Value) : argsOk "object.__getattribute__" ⟨[a, b], []⟩ := by unfold argsOk; kernel_rfl
theorem nsGet_of {M : Model} {A : Around} {E : Value → Shared → Prop} {Q : Option Value → Shared → Prop} {s : Shared} {dx : Addr} {es : List DictEntry} {n : Nat} {name : Str} {r : Option Value}
    (D : s.heap.get? dx = some (dictOf es n)) (hl : getL name es = some r) (h : Q r s) : wpAny M A (nsGet dx name) Q E s := by
  unfold nsGet
  refine wpAny_bind (wpAny_loadPart D ?_)
  rw [show nsLook name (dictOf es n) = pure r from ?_]
  · exact wpAny_pure h
  · rw [nsLook_eq]
    unfold nsLookByArray
    dsimp only
    unfold getL at hl
    rw [List.find?_toArray]
    split at hl
    · rename_i e he
      cases hl
      rw [he]
    · rename_i he
      rw [he]
      split at hl
      · cases hl
      · rename_i z
        cases hl
        rw [← Array.any_toList]
        dsimp only
        rw [if_neg z]
theorem fn_get {prog : Program} {w : World} {A : Around} {E : Value → Shared → Prop} {Q : Value → Shared → Prop} {s : Shared} {f dx : Addr} {es : List DictEntry} {n : Nat} {fd : FuncData} {sl : Array (Option Value)} {name : Str} {v : Value} {expr : Bool}
    (hf : s.heap.get? f = some (fnObj (some dx) fd sl)) (D : s.heap.get? dx = some (dictOf es n)) (hT : typeLookup (.type "function") name = pure none)
    (hl : getL name es = some (some v)) (hv : handedIn v = true) (h : Q v { s with toks := s.toks + 1 }) :
    wpAny (model prog w) A (getAttr (.ref f) name expr) Q E s := by
  have hf' : Heap.get? ({ s with toks := s.toks + 1 } : Shared).heap f = some (fnObj (some dx) fd sl) := hf
  have D' : Heap.get? ({ s with toks := s.toks + 1 } : Shared).heap dx = some (dictOf es n) := D
  unfold getAttr getAttrBy
  refine wpAny_bind (wpAny_mkText (wpAny_holding (wpAny_bind (wpAny_bind (wpAny_loadPart hf' (wpAny_pure (wpAny_bind (wpAny_of_eq fn_getattribute ?_))))))))
  show wpAny _ _ (getAttrByItsOwn _ _ _ _ _ _) _ _ _
  unfold getAttrByItsOwn
  refine wpAny_bind (wpAny_pure (wpAny_bind (wpAny_attempt (wpAny_holding ?_))))
  rw [show callGetattribute (.ref f) (.str name s.toks) (.builtin "object.__getattribute__") expr = boundAndCalled (.builtin "object.__getattribute__") (.ref f) (.str name s.toks) from by cases expr <;> rfl]
  unfold boundAndCalled
  rw [slot_fn_ga.bind]
  refine wpAny_bind (wpAny_pure (wpAny_call ?_))
  refine codeAny_call_builtin slot_fn_ga.plain entry_obj_ga (slot_fn_ga.check _ _ _ _ _ _ _ _ ⟨_, hf', rfl⟩ (args_obj_ga _ _) ?_)
  unfold Builtin.«object.__getattribute__»
  refine wpAny_bind (wpAny_pure (wpAny_bind (wpAny_pure (wpAny_bind (wpAny_bind (wpAny_loadPart hf' (wpAny_pure (wpAny_bind ?_))))))))
  unfold find
  refine wpAny_bind (wpAny_of_eq hT (wpAny_bind (wpAny_pure (wpAny_bind (wpAny_pure ?_)))))
  show wpAny _ _ (ownThenClass _ _ _ _) _ _ _
  unfold ownThenClass inOwnDict ObjectAttr.ownDict
  refine wpAny_bind (wpAny_bind (wpAny_bind (wpAny_loadPart hf' (fn_own_some hf' (nsGet_of D' hl ?_)))))
  refine wpAny_bind (wpAny_rule (wpAny_pure ?_))
  refine wpAny_pure ?_
  show wpAny _ _ (handedOut v) _ _ _
  rw [handedOut_of hv]
  exact wpAny_pure h

theorem canon_ga : Manifest.canonical "object.__getattribute__" = "object.__getattribute__" := by kernel_rfl
theorem fn_method {prog : Program} {w : World} {A : Around} {E : Value → Shared → Prop} {Q : Value × List Value → Shared → Prop} {s : Shared} {f dx : Addr} {es : List DictEntry} {n : Nat} {fd : FuncData} {sl : Array (Option Value)} {name : Str} {v : Value} {pl : Sem Bool}
    (hf : s.heap.get? f = some (fnObj (some dx) fd sl)) (D : s.heap.get? dx = some (dictOf es n)) (hT : typeLookup (.type "function") name = pure none)
    (hl : getL name es = some (some v)) (hv : handedIn v = true) (h : Q (v, []) { s with toks := s.toks + 1 }) :
    wpAny (model prog w) A (getMethod (.ref f) name pl) Q E s := by
  have sp : ∀ (n : Str) (r : Option Value) (R : Option Value → Shared → Prop), typeLookup (.type "function") n = pure r → R r s → wpAny (model prog w) A (specialOf (.ref f) n) R E s := fun n r R e q => by
    unfold specialOf
    exact wpAny_bind (wpAny_bind (wpAny_loadPart hf (wpAny_pure (wpAny_of_eq e q))))
  unfold getMethod
  refine wpAny_bind (sp _ _ _ fn_getattribute ?_)
  dsimp only
  rw [canon_ga]
  refine wpAny_bind (sp _ _ _ fn_getattr ?_)
  refine wpAny_bind (sp _ _ _ hT ?_)
  exact wpAny_bind (fn_get hf D hT hl hv (wpAny_pure h))


end

section
theorem su30elem_1 : True := by
  w_top off
  (k_with "MyLeave" => ((fail_if_success k_extra "e1"); ((k_dflt (refine' myLeave_ ?k1z1 ?k2z1 ?_; (case k1z1 => k_asm); (case k2z1 => k_asm)); intro kK kN; (try dsimp only)))))
  (k_with "MyEnterC" => ((fail_if_success k_extra "e2"); ((refine' enter_cells ?k1z2 ?k2z2 ?k3z2 ?k4z2 ?k5z2 ?kAz2 ?kFz2 ?kKz2 ?k6z2 ?k7z2 ?k8z2 ?k9z2 ?kBz2 ?kDz2 ?_ ?c2z2 ?c3z2 ?c4z2; (case kAz2 => exact rfl); (case kFz2 => exact rfl); (case kKz2 => assumption); (case k1z2 => k_asm); (case k2z2 => k_asm); (case k3z2 => k_asm); (case k4z2 => k_asm); (case k5z2 => k_asm); (case k6z2 => k_is); (case k7z2 => k_is); (case k8z2 => ktr_room); (case k9z2 => first | exact BindsTo.of_eq rfl | exact binds_K (by k_in) rfl (by k_is) rfl rfl rfl); (case kBz2 => exact rfl); (case kDz2 => decide +kernel); (case c2z2 => exact rfl); (case c3z2 => exact rfl); (case c4z2 => exact rfl); k_whole; intro g' L' h' tk' cells' GG' F' N' Y' B' X' T' l1 l0; (try k_lt l1); k_cells Y'; (try simp only [List.cons_append, List.nil_append] at N'); (try dsimp only); (try k_lift B'); (try k_fold)))))
  (k_with "MyEnter" => ((fail_if_success k_extra "e3"); ((refine' enter_plain ?k1z3 ?k2z3 ?k3z3 ?k4z3 ?k5z3 ?kAz3 ?kFz3 ?kKz3 ?k6z3 ?k7z3 ?k8z3 ?k9z3 ?kBz3 ?_ ?c2z3 ?c3z3 ?c4z3 ?c5z3; (case kAz3 => exact rfl); (case kFz3 => exact rfl); (case kKz3 => assumption); (case k1z3 => k_asm); (case k2z3 => k_asm); (case k3z3 => k_asm); (case k4z3 => k_asm); (case k5z3 => k_asm); (case k6z3 => k_is); (case k7z3 => k_is); (case k8z3 => ktr_room); (case k9z3 => first | exact BindsTo.of_eq rfl | exact binds_K (by k_in) rfl (by k_is) rfl rfl rfl); (case c5z3 => decide); (case kBz3 => exact locs rfl); (case c2z3 => exact rfl); (case c3z3 => exact rfl); (case c4z3 => exact rfl); k_whole; intro g' L' h' GG' F' N' B' X' T' l1 l0; (try k_lt l1); (try dsimp only); (try k_lift B'); (try k_fold)))))
  (k_with "FnName" => ((fail_if_success k_extra "e4"); (first | with_reducible exact fn_tag | with_reducible exact fn_attrib | with_reducible exact fn_inner | with_reducible exact fn_make | with_reducible exact fn_append | exact fn_tag | exact fn_attrib | exact fn_inner | exact fn_make | exact fn_append)))
  (k_with "setAttr ref" => ((fail_if_success k_extra "e5"); ((k_here; k_dflt (first
  | (refine' fn_set_none ?k1z5 ?k2z5 ?k3z5 ?k4z5 ?_; (case k1z5 => k_asm); (case k2z5 => k_asm); (case k3z5 => k_extra "FnName"); (case k4z5 => k_updF); k_whole; intro d' h' F' N' l1; (try dsimp only at N'); (try k_lt l1); (try k_sweep))
  | (refine' fn_set_some ?k1z5 ?k2z5 ?k3z5 ?kdz5 ?k4z5 ?k5z5 ?k6z5 ?k7z5 ?k8z5 ?_; (case k1z5 => k_asm); (case k2z5 => k_asm); (case k3z5 => k_mem); (case kdz5 => k_mem); (case k4z5 => k_extra "FnName"); (case k5z5 => k_get); (case k6z5 => k_put); (case k7z5 => k_upd); (case k8z5 => exact Nat.le_of_ble_eq_true rfl); k_whole; intro h' F' N'; (try k_sweep)))))))
  (k_with "getAttr ref" => ((fail_if_success k_extra "e6"); ((k_here; k_dflt (refine' fn_get ?k1z6 ?k2z6 ?k3z6 ?k4z6 ?k5z6 ?_; (case k1z6 => exact News.get (by k_asm) (by k_mem)); (case k2z6 => exact News.get (by k_asm) (by k_mem)); (case k3z6 => k_extra "FnName"); (case k4z6 => first | assumption | k_get); (case k5z6 => k_handed); k_whole)))))
  (k_with "getMethod ref" => ((fail_if_success k_extra "e7"); ((k_here; k_dflt (refine' fn_method ?k1z7 ?k2z7 ?k3z7 ?k4z7 ?k5z7 ?_; (case k1z7 => exact News.get (by k_asm) (by k_mem)); (case k2z7 => exact News.get (by k_asm) (by k_mem)); (case k3z7 => k_extra "FnName"); (case k4z7 => first | assumption | k_get); (case k5z7 => k_handed); k_whole)))))
  (k_with "MemAll" => ((fail_if_success k_extra "e8"); (first | exact List.forall_mem_nil _ | (refine' List.forall_mem_cons.mpr ⟨?az8, ?bz8⟩; (case az8 => k_mem); (case bz8 => k_extra "MemAll")))))
  (k_with "MyEnterL" => ((fail_if_success k_extra "e9"); ((refine' enter_lam ?k1z9 ?k2z9 ?k3z9 ?k4z9 ?k5z9 ?kAz9 ?kFz9 ?kKz9 ?k6z9 ?k7z9 ?k8z9 ?k9z9 ?kBz9 ?_ ?c2z9 ?c3z9 ?c4z9 ?c5z9; (case kAz9 => exact rfl); (case kFz9 => exact rfl); (case kKz9 => assumption); (case k1z9 => k_asm); (case k2z9 => k_asm); (case k3z9 => k_asm); (case k4z9 => k_asm); (case k5z9 => k_asm); (case k6z9 => k_mem); (case k7z9 => exact codeRec_news (by k_asm) (by k_mem) (by assumption) (by assumption)); (case k8z9 => ktr_room); (case k9z9 => exact rfl); (case c5z9 => decide); (case kBz9 => exact locs rfl); (case c2z9 => exact rfl); (case c3z9 => exact rfl); (case c4z9 => exact rfl); k_whole; intro g' L' h' GG' F' N' B' X' T' l1 l0; (try k_lt l1); (try dsimp only); (try k_lift B'); (try k_fold)))))
  (k_with "SEG" => ((fail_if_success k_extra "e10"); (first | exact (rfl : List.drop 0 _ = _) | exact (rfl : List.drop 1 _ = _) | exact (rfl : List.drop 2 _ = _) | exact (rfl : List.drop 3 _ = _) | exact (rfl : List.drop 4 _ = _) | exact (rfl : List.drop 5 _ = _) | exact (rfl : List.drop 6 _ = _) | exact (rfl : List.drop 7 _ = _) | exact (rfl : List.drop 8 _ = _) | exact (rfl : List.drop 9 _ = _) | exact (rfl : List.drop 10 _ = _) | exact (rfl : List.drop 11 _ = _) | exact (rfl : List.drop 12 _ = _) | exact (rfl : List.drop 13 _ = _) | exact (rfl : List.drop 14 _ = _) | exact (rfl : List.drop 15 _ = _) | exact (rfl : List.drop 16 _ = _) | exact (rfl : List.drop 17 _ = _) | exact (rfl : List.drop 18 _ = _) | exact (rfl : List.drop 19 _ = _) | exact (rfl : List.drop 20 _ = _) | exact (rfl : List.drop 21 _ = _) | exact (rfl : List.drop 22 _ = _) | exact (rfl : List.drop 23 _ = _) | exact (rfl : List.drop 24 _ = _) | exact (rfl : List.drop 25 _ = _) | exact (rfl : List.drop 26 _ = _) | exact (rfl : List.drop 27 _ = _) | exact (rfl : List.drop 28 _ = _) | exact (rfl : List.drop 29 _ = _))))
  (k_with "LHC" => ((fail_if_success k_extra "e11"); (first | with_reducible assumption | (refine' LtL.up ?hz11 ?lz11; (case lz11 => with_reducible assumption); (case hz11 => with_reducible assumption)) | (refine' LtL.ups ?hz11 ?lz11; (case lz11 => with_reducible assumption); (case hz11 => with_reducible assumption)) | (refine' LtL.ups ?hz11 ?lz11; (case lz11 => with_reducible assumption); (case hz11 => (refine' LtL.up ?h2z11 ?l2z11; (case l2z11 => with_reducible assumption); (case h2z11 => with_reducible assumption)))))))
  (k_with "LHB" => ((fail_if_success k_extra "e12"); (first | with_reducible assumption | ((with_reducible refine' Node.Ok.uf ?qz12 ?rz12); (case qz12 => with_reducible assumption); (case rz12 => k_extra "LHC")) | ((with_reducible refine' Node.Ok.udx ?qz12 ?rz12); (case qz12 => with_reducible assumption); (case rz12 => k_extra "LHC")) | ((with_reducible refine' Node.Ok.ul ?qz12 ?rz12); (case qz12 => with_reducible assumption); (case rz12 => k_extra "LHC")) | ((with_reducible refine' Node.Ok.uf2 ?qz12 ?rz12); (case qz12 => with_reducible assumption); (case rz12 => k_extra "LHC")) | k_extra "LHC")))
  (k_with "NotIn" => ((fail_if_success k_extra "e13"); (first | exact notin_nil | (refine' LtL.notin _ ?hz13 ?ez13; (case hz13 => k_extra "LHB"); (case ez13 => k_extra "SEG")) | (refine' Node.Ok.notlt ?qz13 ?xz13 ?yz13; (case qz13 => with_reducible assumption); (case xz13 => k_extra "LTd"); (case yz13 => k_extra "NotIn")) | (refine' Node.Ok.notin ?qz13 ?xz13 ?yz13; (case qz13 => with_reducible assumption); (case xz13 => k_extra "NH"); (case yz13 => k_extra "NotIn")) | (refine' notin_cons ?az13 ?bz13; (case az13 => k_ne); (case bz13 => k_extra "NotIn")))))
  (k_with "Split" => ((fail_if_success k_extra "e14"); (first | exact Split.nil | (refine' Split.keep ?az14 ?bz14; (case az14 => k_extra "NotIn"); (case bz14 => k_extra "Split")) | (refine' Split.drop ?bz14; (case bz14 => k_extra "Split")))))
  (k_with "MyEnterM" => ((fail_if_success k_extra "e15"); ((refine' enter_more ?k1z15 ?k2z15 ?k3z15 ?k4z15 ?k5z15 ?kAz15 ?kFz15 ?kKz15 ?k6z15 ?k7z15 ?k8z15 ?kTz15 ?kOz15 ?kb1z15 ?kb2z15 ?knz15 ?klz15 ?_ ?c2z15 ?c3z15 ?c4z15 ?c5z15; (case kAz15 => exact rfl); (case kFz15 => exact rfl); (case kKz15 => assumption); (case k1z15 => k_asm); (case k2z15 => k_asm); (case k3z15 => k_asm); (case k4z15 => k_asm); (case k5z15 => k_asm); (case k6z15 => k_is); (case k7z15 => k_is); (case k8z15 => ktr_room); (case kTz15 => k_is); (case kOz15 => exact rfl); (case kb1z15 => assumption); (case kb2z15 => assumption); (case knz15 => assumption); (case klz15 => exact fun _ => locs rfl); (case c5z15 => decide); (case c2z15 => exact rfl); (case c3z15 => exact rfl); (case c4z15 => exact rfl); k_whole; intro D' g' L' h' tk' GG' F' N' B' X' T' l1 l2 l0; (try k_lt l1); (try dsimp only); (try k_lift B'); (try k_fold)))))
  (k_with "DictOfAt" => ((fail_if_success k_extra "e16"); (first
  | exact Heap.dictOf_iff.mpr ⟨_, News.get (by k_asm) (by k_mem), by assumption⟩
  | exact Heap.dictOf_iff.mpr ⟨_, News.get (by k_asm) (by k_mem), kp_isDict _ _ (kwDistinct_nodup (by assumption))⟩
  | exact Heap.dictOf_iff.mpr ⟨_, Frag.In.keeps (by k_asm) (Fr.keep (by k_asm)) _ _ (by k_is), #[], _, ⟨rfl, rfl, rfl⟩, rfl, (fun e he => absurd he (by simp)), Pairs.nil, List.nodup_nil⟩)))
  (k_with "NotMods" => ((fail_if_success k_extra "e17"); (first | assumption | decide | (refine' beq_eq_false_iff_ne.mpr ?_; show _ ≠ (_ : Nat); simp only [sysModules]; omega))))
  (k_with "eval Dict" => ((fail_if_success k_extra "e18"); ((k_here; (with_reducible show wpAny _ _ (PySem.eval (Expr.Dict (none :: _) _ _) _) _ _ _); k_dflt (refine' eval_two ?Fz18 ?Nz18 ?e1z18 ?e2z18 ?d1z18 ?d2z18 ?s1z18 ?s2z18 ?zz18 ?_; (case Fz18 => k_asm); (case Nz18 => k_asm); (case e1z18 => (intro s' Q' F' hq; exact ld F' rfl hq)); (case e2z18 => (intro s' Q' F' hq; exact ld F' rfl hq)); (case d1z18 => k_extra "DictOfAt"); (case d2z18 => k_extra "DictOfAt"); (case s1z18 => k_extra "NotMods"); (case s2z18 => k_extra "NotMods"); (case zz18 => first | assumption | omega | (simp only [List.length_cons, List.length_nil]; omega)); k_whole); intro D' ob' h' F' N' l1 hob'; (try k_lt l1)))))
  (k_with "call ref" => ((fail_if_success k_extra "e19"); ((k_here; kn_here; (with_reducible show wpAny _ _ (call (Value.ref 100) [_, _]) _ _ _); k_dflt (refine' HC.atO (elem1 _ _ _ _ _ _ _) out12 ?Bz19 ?Fz19 ?Xz19 ?Nz19 ?Tz19 ?kz19 ?Gz19 ?dz19 ?uz19 ?rz19 ?sz19 ?_; (case Bz19 => k_asm); (case Fz19 => k_asm); (case Xz19 => k_asm); (case Nz19 => k_asm); (case Tz19 => k_asm); (case kz19 => first | exact rfl | assumption); (case Gz19 => assumption); (case rz19 => k_extra "MemAll"); (case sz19 => k_extra "Split"); (case dz19 => ktr_room); (case uz19 => ktr_units); k_whole); intro h' tk' F' l1 nd' ok' l2' N'; have oA' := ok'.cell; have oB' := ok'.tag; have oC' := ok'.attrib; have oD' := ok'.inner; have oE' := ok'.make; have oF' := ok'.app; have rA' := ok'.o1; have rB' := ok'.o2; have rC' := ok'.o3; have rD' := ok'.o4; (try dsimp only at l2'); (try dsimp only [Node.led, List.cons_append, List.nil_append] at N'); (try k_lt l1); (try dsimp only)))))
  (k_with "call ref" => ((fail_if_success k_extra "e20"); ((k_here; kn_here; (with_reducible show wpAny _ _ (call (Value.ref (Node.f2 _)) [_]) _ _ _); k_dflt (refine' HC.atO (app1 _ _ _ _ _ _ _ _ _ _ _ _ _ ?a1z20 ?a2z20 ?a3z20 ?a4z20 ?a5z20) out00 ?Bz20 ?Fz20 ?Xz20 ?Nz20 ?Tz20 ?kz20 ?Gz20 ?dz20 ?uz20 ?rz20 ?sz20 ?_; (case a1z20 => assumption); (case Bz20 => k_asm); (case Fz20 => k_asm); (case Xz20 => k_asm); (case Nz20 => k_asm); (case Tz20 => k_asm); (case kz20 => first | exact rfl | assumption); (case Gz20 => assumption); (case rz20 => ((try simp only [Node.led, List.cons_append, List.nil_append]); k_extra "MemAll")); (case sz20 => k_extra "Split"); (case a2z20 => assumption); (case a3z20 => assumption); (case a4z20 => omega); (case a5z20 => first | assumption | omega); (case dz20 => ktr_room); (case uz20 => ktr_units); k_whole); intro h' tk' F' l1 N'; (try dsimp only [Node.led, List.cons_append, List.nil_append] at N'); (try k_lt l1); (try dsimp only)))))
  (k_with "NTH" => ((fail_if_success k_extra "e21"); (((fail_if_success (refine' bigN ?hz21 _; (case hz21 => with_reducible_and_instances exact rfl))); first | exact (rfl : nthA _ 0 = _) | exact (rfl : nthA _ 1 = _) | exact (rfl : nthA _ 2 = _) | exact (rfl : nthA _ 3 = _) | exact (rfl : nthA _ 4 = _) | exact (rfl : nthA _ 5 = _) | exact (rfl : nthA _ 6 = _) | exact (rfl : nthA _ 7 = _) | exact (rfl : nthA _ 8 = _) | exact (rfl : nthA _ 9 = _) | exact (rfl : nthA _ 10 = _) | exact (rfl : nthA _ 11 = _) | exact (rfl : nthA _ 12 = _) | exact (rfl : nthA _ 13 = _) | exact (rfl : nthA _ 14 = _) | exact (rfl : nthA _ 15 = _) | exact (rfl : nthA _ 16 = _) | exact (rfl : nthA _ 17 = _) | exact (rfl : nthA _ 18 = _) | exact (rfl : nthA _ 19 = _) | exact (rfl : nthA _ 20 = _) | exact (rfl : nthA _ 21 = _) | exact (rfl : nthA _ 22 = _) | exact (rfl : nthA _ 23 = _) | exact (rfl : nthA _ 24 = _) | exact (rfl : nthA _ 25 = _)))))
  (k_with "LH" => ((fail_if_success k_extra "e22"); (first | with_reducible assumption | (with_reducible refine' Node.Ok.Lf ?qz22; (case qz22 => with_reducible assumption)) | (with_reducible refine' Node.Ok.Ldx ?qz22; (case qz22 => with_reducible assumption)) | (with_reducible refine' Node.Ok.Ll ?qz22; (case qz22 => with_reducible assumption)) | (with_reducible refine' Node.Ok.Lf2 ?qz22; (case qz22 => with_reducible assumption)))))
  (k_with "NH" => ((fail_if_success k_extra "e23"); (first | with_reducible assumption | (with_reducible refine' Node.Ok.offC ?qz23 ?rz23; (case qz23 => with_reducible assumption); (case rz23 => with_reducible assumption)) | (with_reducible refine' Node.Ok.offN ?qz23 ?rz23; (case qz23 => with_reducible assumption); (case rz23 => with_reducible assumption)))))
  (k_with "LTa" => ((fail_if_success k_extra "e24"); (first | with_reducible assumption | (refine' LtL.lt _ ?hz24 ?ez24; (case hz24 => k_extra "LH"); (case ez24 => k_extra "NTH")))))
  (k_with "LTe" => ((fail_if_success k_extra "e25"); (first | k_extra "LTa" | ((refine' Nat.lt_of_lt_of_le ?xz25 ?yz25); (case yz25 => with_reducible assumption); (case xz25 => k_extra "LTa")))))
  (k_with "LTd" => ((fail_if_success k_extra "e26"); (first | k_extra "LTe" | ((refine' Nat.lt_trans ?xz26 ?yz26); (case yz26 => with_reducible assumption); (case xz26 => k_extra "LTe")))))
  (k_with "LTb" => ((fail_if_success k_extra "e27"); (first | k_extra "LTa" | ((with_reducible refine' Node.Ok.gf ?qz27 ?rz27); (case qz27 => with_reducible assumption); (case rz27 => k_extra "LTd")) | ((with_reducible refine' Node.Ok.gdx ?qz27 ?rz27); (case qz27 => with_reducible assumption); (case rz27 => k_extra "LTd")) | ((with_reducible refine' Node.Ok.gl ?qz27 ?rz27); (case qz27 => with_reducible assumption); (case rz27 => k_extra "LTd")) | ((with_reducible refine' Node.Ok.gf2 ?qz27 ?rz27); (case qz27 => with_reducible assumption); (case rz27 => k_extra "LTd")) | ((with_reducible refine' Nat.lt_succ_of_lt ?hz27); (case hz27 => k_extra "LTb")))))
  (k_with "LT" => ((fail_if_success k_extra "e28"); (first | k_extra "LTb" | (refine' Nat.lt_of_lt_of_le ?xz28 ?yz28; (case yz28 => with_reducible assumption); (case xz28 => k_extra "LTb")) | (refine' Nat.lt_trans ?xz28 ?yz28; (case yz28 => with_reducible assumption); (case xz28 => k_extra "LTb")))))
  (k_with "k_ne" => ((fail_if_success k_extra "e29"); (first | with_reducible assumption | ((fail_if_success (refine' neProbe ?hz29 _; (case hz29 => with_reducible exact rfl))); first | (refine' LtL.ne _ ?hz29 ?ez29; (case hz29 => k_extra "LH"); (case ez29 => k_extra "NTH")) | (refine' LtL.en _ ?hz29 ?ez29; (case hz29 => k_extra "LH"); (case ez29 => k_extra "NTH")) | (refine' NeL.ne _ ?hz29 ?ez29; (case hz29 => k_extra "NH"); (case ez29 => k_extra "NTH")) | (refine' NeL.en _ ?hz29 ?ez29; (case hz29 => k_extra "NH"); (case ez29 => k_extra "NTH")) | (refine' Nat.ne_of_lt ?xz29; (case xz29 => k_extra "LT")) | (refine' Nat.ne_of_gt ?xz29; (case xz29 => k_extra "LT")) | (refine neN ?_; (try dsimp only); omega)))))
  (k_with "OL0" => ((fail_if_success k_extra "e30"); (first | with_reducible assumption | ((with_reducible refine' omA ?hz30 ?ez30); (case hz30 => with_reducible assumption); (case ez30 => exact rfl)) | ((with_reducible refine' omB ?hz30 ?ez30); (case hz30 => with_reducible assumption); (case ez30 => exact rfl)) | ((with_reducible refine' omE1 ?hz30 ?ez30); (case hz30 => with_reducible assumption); (case ez30 => exact rfl)))))
  (k_with "OL1" => ((fail_if_success k_extra "e31"); (first | k_extra "OL0" | ((with_reducible refine' omAp ?hz31 ?ez31); (case hz31 => with_reducible assumption); (case ez31 => exact rfl)) | ((with_reducible refine' omBp ?hz31 ?ez31); (case hz31 => with_reducible assumption); (case ez31 => exact rfl)) | ((with_reducible refine' omZ ?hz31); (case hz31 => k_extra "OL0")) | ((with_reducible refine' omS ?hz31 ?gz31 ?ez31); (case hz31 => with_reducible assumption); (case gz31 => with_reducible assumption); (case ez31 => exact rfl)) | (with_reducible exact Nat.le_of_lt (by with_reducible assumption)) | ((with_reducible refine' omN4 ?hz31 ?ez31); (case hz31 => with_reducible assumption); (case ez31 => exact rfl)) | ((with_reducible refine' omN6 ?hz31 ?ez31); (case hz31 => with_reducible assumption); (case ez31 => exact rfl)) | ((with_reducible refine' omQ ?hz31 ?gz31); (case hz31 => with_reducible assumption); (case gz31 => with_reducible assumption)) | ((with_reducible refine' mulS ?hz31 ?gz31); (case hz31 => with_reducible assumption); (case gz31 => with_reducible assumption)) | ((with_reducible refine' zz1 ?hz31); (case hz31 => k_extra "OL0")) | ((with_reducible refine' zz2 ?hz31); (case hz31 => k_extra "OL0")) | ((with_reducible refine' Nat.le_of_lt ?hz31); (case hz31 => k_extra "OT0")))))
  (k_with "OL2" => ((fail_if_success k_extra "e32"); (first | k_extra "OL1" | ((with_reducible refine' omEl ?hz32 ?rz32); (case hz32 => with_reducible assumption); (case rz32 => k_extra "OL1")))))
  (k_with "OL" => ((fail_if_success k_extra "e33"); (first | k_extra "OL2" | ((with_reducible refine' omEl ?hz33 ?rz33); (case hz33 => with_reducible assumption); (case rz33 => k_extra "OL2")) | with_reducible exact Nat.le_refl _ | with_reducible exact Nat.zero_le _ | with_reducible exact Nat.le_add_right _ _)))
  (k_with "OT0" => ((fail_if_success k_extra "e34"); (first | with_reducible assumption | ((with_reducible refine' omD ?hz34 ?ez34); (case hz34 => with_reducible assumption); (case ez34 => exact rfl)) | ((with_reducible refine' omC ?hz34 ?ez34); (case hz34 => with_reducible assumption); (case ez34 => exact rfl)) | ((with_reducible refine' omE2 ?hz34 ?ez34); (case hz34 => with_reducible assumption); (case ez34 => exact rfl)) | ((with_reducible refine' omG ?hz34 ?ez34); (case hz34 => with_reducible assumption); (case ez34 => exact rfl)))))
  (k_with "OT1" => ((fail_if_success k_extra "e35"); (first | k_extra "OT0" | ((with_reducible refine' omR1 ?hz35 ?ez35); (case hz35 => with_reducible assumption); (case ez35 => exact rfl)) | ((with_reducible refine' omR2 ?hz35 ?ez35); (case hz35 => with_reducible assumption); (case ez35 => exact rfl)) | ((with_reducible refine' omR3 ?hz35 ?ez35); (case hz35 => with_reducible assumption); (case ez35 => exact rfl)) | (with_reducible exact omR0 (by with_reducible assumption)) | ((with_reducible refine' omDp ?hz35 ?ez35); (case hz35 => with_reducible assumption); (case ez35 => exact rfl)) | ((with_reducible refine' omCp ?hz35 ?ez35); (case hz35 => with_reducible assumption); (case ez35 => exact rfl)) | (with_reducible exact omN2 (by with_reducible assumption)) | ((with_reducible refine' omN3 ?hz35 ?ez35); (case hz35 => with_reducible assumption); (case ez35 => exact rfl)) | ((with_reducible refine' omN5 ?hz35 ?ez35); (case hz35 => with_reducible assumption); (case ez35 => exact rfl)))))
  (k_with "OT2" => ((fail_if_success k_extra "e36"); (first | k_extra "OT1" | ((with_reducible refine' omEt ?hz36 ?rz36); (case hz36 => with_reducible assumption); (case rz36 => k_extra "OT1")) | ((with_reducible refine' omLe ?rz36 ?hz36); (case hz36 => with_reducible assumption); (case rz36 => k_extra "OT1")))))
  (k_with "OT" => ((fail_if_success k_extra "e37"); (first | k_extra "OT2" | ((with_reducible refine' omEt ?hz37 ?rz37); (case hz37 => with_reducible assumption); (case rz37 => k_extra "OT2")) | (with_reducible exact omM (by with_reducible assumption)) | ((fail_if_success (refine' bigR ?hz37 _; (case hz37 => with_reducible_and_instances exact rfl))); (fail_if_success (refine' bigL ?hz37 _; (case hz37 => with_reducible_and_instances exact rfl))); k_extra "LT"))))
  (k_with "OI" => ((fail_if_success k_extra "e38"); (first | with_reducible assumption | with_reducible exact Int.natCast_nonneg _ | ((with_reducible refine' omI ?hz38 ?ez38); (case hz38 => k_extra "OL0"); (case ez38 => exact rfl)) | ((with_reducible refine' omJ ?hz38 ?ez38); (case hz38 => k_extra "OT0"); (case ez38 => exact rfl)) | ((with_reducible refine' omIl ?hz38 ?ez38); (case hz38 => k_extra "OL0"); (case ez38 => exact rfl)) | ((with_reducible refine' omI0 ?ez38); (case ez38 => exact rfl)))))
  (k_with "OM" => ((fail_if_success k_extra "e39"); (first | with_reducible assumption | with_reducible exact nneg _ | ((with_reducible refine' intGe ?hz39); (case hz39 => k_extra "OI")) | ((with_reducible show @LT.lt Nat _ _ _); k_extra "OT") | ((with_reducible show @LE.le Nat _ _ _); k_extra "OL") | ((with_reducible show @Eq Nat _ _); first | (with_reducible exact omN1 (by with_reducible assumption)) | with_reducible exact rfl | (with_reducible exact subStep (by with_reducible assumption)) | (with_reducible exact Nat.zero_add _) | (with_reducible exact omA0 (by with_reducible assumption)) | (with_reducible exact Nat.succ_add _ _)) | ((with_reducible show @Ne Nat _ _); (fail_if_success (refine' neProbe ?hz39 _; (case hz39 => with_reducible exact rfl))); k_extra "NEq") | with_reducible exact int1 _ | ((with_reducible show @LT.lt Int _ _ _); k_extra "OI") | ((with_reducible show @LE.le Int _ _ _); k_extra "OI"))))
  (k_with "NEq" => ((fail_if_success k_extra "e40"); (((fail_if_success (refine' bigP ?hz40 _; (case hz40 => with_reducible_and_instances exact rfl))); (fail_if_success (refine' bigQ ?hz40 _; (case hz40 => with_reducible_and_instances exact rfl))); (first | ((with_reducible refine' Nat.ne_of_lt ?xz40); (case xz40 => k_extra "OT0")) | ((with_reducible refine' Nat.ne_of_gt ?xz40); (case xz40 => k_extra "OT0")) | with_reducible exact offSelf 0 | with_reducible exact offSelf 1 | with_reducible exact offSelf 2 | with_reducible exact offSelf 3 | with_reducible exact offSelf 4 | with_reducible exact (offSelf 0).symm | with_reducible exact (offSelf 1).symm | with_reducible exact (offSelf 2).symm | with_reducible exact (offSelf 3).symm | with_reducible exact (offSelf 4).symm)))))
  trivial
/-! ## nodes -/
theorem Newly.sub {H : Heap} {as : List Addr} {h : Heap} {l l' : List (Addr × Obj)} (x : Newly H as h l) (hs : ∀ q ∈ l', q ∈ l) : Newly H as h l' := fun q hq => x q (hs q hq)
/-- the body of a def of the text -/
def bodyOf (x : Str) : List Stmt := (PySem.Challenge.pw_xp0021_01.main.body.findSome? fun s => match s with | .FunctionDef n _ b _ _ _ _ _ _ _ => if n == x then some b else none | _ => none).getD []
/-- parts of the text: a statement's expression, its body; an expression's operands; a comprehension's parts -/
def stE : Stmt → Expr
  | .Assign _ e _ => e
  | .AugAssign _ _ e _ => e
  | .If t _ _ _ => t
  | .Return (some e) _ => e
  | _ => default
def stB : Stmt → List Stmt
  | .For _ _ b _ _ => b
  | _ => []
def exK : Expr → List Expr
  | .Call _ a _ _ => a
  | .BinOp l _ r _ => [l, r]
  | .Compare l _ r _ => l :: r
  | .BoolOp _ a _ => a
  | _ => []
def exC : Expr → Expr × List Comprehension × Scope
  | .ListComp e g sc _ => (e, g, sc)
  | _ => default
def stX (l : List Stmt) (i : Nat) : Expr := stE ((l.drop i).headD default)
def stY (l : List Stmt) (i : Nat) : List Stmt := stB ((l.drop i).headD default)
def exI (e : Expr) (i : Nat) : Expr := ((exK e).drop i).headD default
def exG (e : Expr) (i : Nat) : Comprehension := ((exC e).2.1.drop i).headD default
def lamOf : Expr → Arguments × Expr × Scope × Pos
  | .Lambda a b sc p => (a, b, sc, p)
  | _ => default
def lamA : Arguments × Expr × Scope × Pos := lamOf (stX (bodyOf "_law_element") 5)
def lamN : Arguments × Expr × Scope × Pos := lamOf (stX (bodyOf "_law_element") 0)
def lamQ : Str := ("_law_element" ++ ".<locals>.") ++ "<lambda>"
/-- the object of a node's append -/
def lamObj (pm : Value) (ce c2 : Addr) (ct : Value) : Obj := kla_obj "<lambda>" lamQ lamA.1 lamA.2.1 lamA.2.2.1 [("node", ce)] pm c2 ct
structure Node where
  f : Addr
  dx : Addr
  l : Addr
  f2 : Addr
  ce : Addr
  fd : FuncData
  es : List DictEntry
  ct : Value
  oc : Obj
def Node.led (nd : Node) (pm : Value) (c2 : Addr) (items : List Value) (n : Nat) : List (Addr × Obj) :=
  [(nd.f2, lamObj pm nd.ce c2 nd.ct), (nd.f, fnObj (some nd.dx) nd.fd #[]), (nd.dx, dictOf nd.es 5), (nd.l, listOf items.toArray n), (nd.ce, nd.oc)]
structure Node.Ok (nd : Node) (tagv attr : Value) : Prop where
  cell : nd.oc.data = .cell (some (.ref nd.f))
  tag : getL "tag" nd.es = some (some tagv)
  attrib : getL "attrib" nd.es = some (some attr)
  inner : getL "inner" nd.es = some (some (.ref nd.l))
  make : getL "makeelement" nd.es = some (some (.ref 100))
  app : getL "append" nd.es = some (some (.ref nd.f2))
  o1 : @LT.lt Nat _ nd.ce nd.f
  o2 : @LT.lt Nat _ nd.f nd.dx
  o3 : @LT.lt Nat _ nd.dx nd.l
  o4 : @LT.lt Nat _ nd.l nd.f2
theorem Node.Ok.Lf {nd : Node} {t a : Value} (ok : nd.Ok t a) : LtL nd.f [nd.ce] := ⟨ok.o1, trivial⟩
theorem Node.Ok.Ldx {nd : Node} {t a : Value} (ok : nd.Ok t a) : LtL nd.dx [nd.ce, nd.f] := ⟨Nat.lt_trans ok.o1 ok.o2, ok.o2, trivial⟩
theorem Node.Ok.Ll {nd : Node} {t a : Value} (ok : nd.Ok t a) : LtL nd.l [nd.ce, nd.f, nd.dx] := ⟨Nat.lt_trans ok.o1 (Nat.lt_trans ok.o2 ok.o3), Nat.lt_trans ok.o2 ok.o3, ok.o3, trivial⟩
theorem Node.Ok.Lf2 {nd : Node} {t a : Value} (ok : nd.Ok t a) : LtL nd.f2 [nd.ce, nd.f, nd.dx, nd.l] := ⟨Nat.lt_trans ok.o1 (Nat.lt_trans ok.o2 (Nat.lt_trans ok.o3 ok.o4)), Nat.lt_trans ok.o2 (Nat.lt_trans ok.o3 ok.o4), Nat.lt_trans ok.o3 ok.o4, ok.o4, trivial⟩
theorem Node.Ok.gf {nd : Node} {t a : Value} {x : Nat} (ok : nd.Ok t a) (h : @LT.lt Nat _ x nd.ce) : @LT.lt Nat _ x nd.f := Nat.lt_trans h ok.o1
theorem Node.Ok.gdx {nd : Node} {t a : Value} {x : Nat} (ok : nd.Ok t a) (h : @LT.lt Nat _ x nd.ce) : @LT.lt Nat _ x nd.dx := Nat.lt_trans (ok.gf h) ok.o2
theorem Node.Ok.gl {nd : Node} {t a : Value} {x : Nat} (ok : nd.Ok t a) (h : @LT.lt Nat _ x nd.ce) : @LT.lt Nat _ x nd.l := Nat.lt_trans (ok.gdx h) ok.o3
theorem Node.Ok.gf2 {nd : Node} {t a : Value} {x : Nat} (ok : nd.Ok t a) (h : @LT.lt Nat _ x nd.ce) : @LT.lt Nat _ x nd.f2 := Nat.lt_trans (ok.gl h) ok.o4
theorem Node.Ok.offLt {nd : Node} {t a : Value} {x : Nat} (ok : nd.Ok t a) (h : @LT.lt Nat _ x nd.ce) : NeL x [nd.ce, nd.f, nd.dx, nd.l, nd.f2] :=
  ⟨Nat.ne_of_gt h, Nat.ne_of_gt (ok.gf h), Nat.ne_of_gt (ok.gdx h), Nat.ne_of_gt (ok.gl h), Nat.ne_of_gt (ok.gf2 h), trivial⟩
theorem Node.Ok.offC {nd : Node} {t a : Value} {x : Nat} (ok : nd.Ok t a) (h : @LT.lt Nat _ x nd.ce ∨ @LT.lt Nat _ nd.l x ∧ @LT.lt Nat _ x nd.f2) : NeL x [nd.ce, nd.f, nd.dx, nd.l, nd.f2] :=
  h.elim ok.offLt fun h => ⟨Nat.ne_of_lt (Nat.lt_trans ok.Ll.1 h.1), Nat.ne_of_lt (Nat.lt_trans ok.Ll.2.1 h.1), Nat.ne_of_lt (Nat.lt_trans ok.o3 h.1), Nat.ne_of_lt h.1, Nat.ne_of_gt h.2, trivial⟩
theorem Node.Ok.offN {nd : Node} {t a : Value} {x : Nat} (ok : nd.Ok t a) (h : @LT.lt Nat _ nd.f2 x ∨ @LT.lt Nat _ x nd.ce) : NeL x [nd.ce, nd.f, nd.dx, nd.l, nd.f2] :=
  h.elim (fun h => ⟨Nat.ne_of_lt (Nat.lt_trans ok.Lf2.1 h), Nat.ne_of_lt (Nat.lt_trans ok.Lf2.2.1 h), Nat.ne_of_lt (Nat.lt_trans ok.Lf2.2.2.1 h), Nat.ne_of_lt (Nat.lt_trans ok.o4 h), Nat.ne_of_lt h, trivial⟩) ok.offLt
theorem Node.Ok.uf {nd : Node} {t a : Value} {l : List Nat} (ok : nd.Ok t a) (h : LtL nd.ce l) : LtL nd.f l := h.ups ok.o1
theorem Node.Ok.udx {nd : Node} {t a : Value} {l : List Nat} (ok : nd.Ok t a) (h : LtL nd.ce l) : LtL nd.dx l := (ok.uf h).ups ok.o2
theorem Node.Ok.ul {nd : Node} {t a : Value} {l : List Nat} (ok : nd.Ok t a) (h : LtL nd.ce l) : LtL nd.l l := (ok.udx h).ups ok.o3
theorem Node.Ok.uf2 {nd : Node} {t a : Value} {l : List Nat} (ok : nd.Ok t a) (h : LtL nd.ce l) : LtL nd.f2 l := (ok.ul h).ups ok.o4
theorem Node.Ok.notin {nd : Node} {t a : Value} {l : List Nat} {x : Nat} (ok : nd.Ok t a) (h : NeL x [nd.ce, nd.f, nd.dx, nd.l, nd.f2]) (r : x ∉ l) : x ∉ nd.f2 :: nd.f :: nd.dx :: nd.l :: nd.ce :: l := by
  obtain ⟨h1, h2, h3, h4, h5, _⟩ := h
  simp only [List.mem_cons, not_or]
  exact ⟨h5.symm, h2.symm, h3.symm, h4.symm, h1.symm, r⟩
theorem Node.Ok.notlt {nd : Node} {t a : Value} {l : List Nat} {x : Nat} (ok : nd.Ok t a) (h : @LT.lt Nat _ x nd.ce) (r : x ∉ l) : x ∉ nd.f2 :: nd.f :: nd.dx :: nd.l :: nd.ce :: l := ok.notin (ok.offC (.inl h)) r
def tabFull (c1 c2 : Addr) : Obj := tabObj #[rawInt lamN.2.2.2.line, rawInt lamN.2.2.2.col, .ref c1, rawInt lamA.2.2.2.line, rawInt lamA.2.2.2.col, .ref c2]
def pmOf (mg : Str → Option Value) : Value := (mg "__name__").getD .none

theorem elem0 (w : World) (mg mb : Str → Option Value) (tagv attr : Value) :
   HC w mg mb (.ref 100) [tagv, attr] [] 1 8 [(95, tabObj #[])] (fun h => CodeHd h 99 95)
     (fun H v news' => ∃ (nd : Node) (c1 c2 : Addr) (oc2 : Obj) (vs2 : Array Value) (t2 : Tok), v = .ref nd.f ∧ news' = nd.led (pmOf mg) c2 [] 0 ++ [(95, tabFull c1 c2), (c2, oc2)] ∧ nd.Ok tagv attr ∧
       oc2.data = .fields vs2 ∧ vs2[1]? = some (.str lamQ t2) ∧ @LE.le Nat _ H.objs.size nd.ce ∧ @LT.lt Nat _ nd.l c2 ∧ @LT.lt Nat _ c2 nd.f2) := by
  intro p loose mean dp un gd cn cs a ccd cl outer A₀ base h₀ L m s Q E B F X N T hk HG hdp hun hret
  have HG : CodeHd base 99 95 := HG
  refine wpAny_call ?_
  k_dflt (k_extra "MyEnterC")
  k_steps
  refine' hret _ _ _ _ ?kK (Newly.sub ?kN ?hs) ⟨⟨_, _, _, _, _, _, _, _, _⟩, _, _, _, _, _, rfl, rfl, ?ok, ?d1, ?d2, ?l1, ?l2, ?l3⟩
  case kK => assumption
  case kN => assumption
  case hs =>
    (with_reducible rename Newly _ _ _ _ => kN)
    k_dflt (simp only [Node.led, List.cons_append, List.nil_append])
    k_dflt (k_extra "MemAll")
  case d1 => assumption
  case d2 => assumption
  case l1 => (dsimp only; omega)
  case l2 => (dsimp only; omega)
  case l3 => (dsimp only; omega)
  case ok =>
    refine' ⟨?a1, ?a2, ?a3, ?a4, ?a5, ?a6, ?a7, ?a8, ?a9, ?a10⟩
    case a1 => assumption
    case a2 => k_get
    case a3 => k_get
    case a4 => k_get
    case a5 => k_get
    case a6 => k_get
    all_goals (dsimp only; omega)

end

section
theorem su31elem1_1 : True := by
  w_top off
  trivial
theorem elem1 (w : World) (mg mb : Str → Option Value) (tagv attr : Value) (c1 c2 : Addr) :
   HC w mg mb (.ref 100) [tagv, attr] [] 1 8 [(95, tabFull c1 c2)] (fun h => CodeHd h 99 95)
     (fun H v news' => ∃ (nd : Node), v = .ref nd.f ∧ news' = nd.led (pmOf mg) c2 [] 0 ++ [(95, tabFull c1 c2)] ∧ nd.Ok tagv attr ∧ @LE.le Nat _ H.objs.size nd.ce) := by
  intro p loose mean dp un gd cn cs a ccd cl outer A₀ base h₀ L m s Q E B F X N T hk HG hdp hun hret
  have HG : CodeHd base 99 95 := HG
  have N : News h₀ L s.heap [(95, tabObj #[rawInt 127, rawInt 11, .ref c1, rawInt 132, rawInt 18, .ref c2])] := N
  refine wpAny_call ?_
  k_dflt (k_extra "MyEnterC")
  k_steps
  refine' hret _ _ _ _ ?kK (Newly.sub ?kN ?hs) ⟨⟨_, _, _, _, _, _, _, _, _⟩, rfl, rfl, ?ok, ?l1⟩
  case kK => assumption
  case kN => assumption
  case hs =>
    (with_reducible rename Newly _ _ _ _ => kN)
    k_dflt (simp only [Node.led, List.cons_append, List.nil_append])
    k_dflt (k_extra "MemAll")
  case l1 => (dsimp only; omega)
  case ok =>
    refine' ⟨?a1, ?a2, ?a3, ?a4, ?a5, ?a6, ?a7, ?a8, ?a9, ?a10⟩
    case a1 => assumption
    case a2 => k_get
    case a3 => k_get
    case a4 => k_get
    case a5 => k_get
    case a6 => k_get
    all_goals (dsimp only; omega)

end

section
theorem su32app_1 : True := by
  w_top off
  trivial
theorem app1 (w : World) (mg mb : Str → Option Value) (nd : Node) (tagv attr v : Value) (items : List Value) (n : Nat) (c2 : Addr) (oc2 : Obj) (vs2 : Array Value) (t2 : Tok)
   (ok : nd.Ok tagv attr) (hd2 : oc2.data = .fields vs2) (hv2 : vs2[1]? = some (.str lamQ t2)) (hc : @LT.lt Nat _ c2 nd.ce ∨ @LT.lt Nat _ nd.l c2 ∧ @LT.lt Nat _ c2 nd.f2) (hsz : items.length ≤ 100) :
   HC w mg mb (.ref nd.f2) [v] [] 1 8 (nd.led (pmOf mg) c2 items n ++ [(c2, oc2)]) (fun h => CodeHd h 99 95)
     (fun _ r news' => r = .none ∧ news' = nd.led (pmOf mg) c2 (items ++ [v]) (n + 1) ++ [(c2, oc2)]) := by
  intro p loose mean dp un gd cn cs a ccd cl outer A₀ base h₀ L m s Q E B F X N T hk HG hdp hun hret
  have HG : CodeHd base 99 95 := HG
  obtain ⟨f, dx, l, f2, ce, fd, es, ct, oc⟩ := nd
  obtain ⟨o1, o2, o3, o4, o5, o6, r1, r2, r3, r4⟩ := ok
  dsimp only at o1 o2 o3 o4 o5 o6 r1 r2 r3 r4 hc
  have N : News h₀ L s.heap [(f2, kla_obj "<lambda>" lamQ lamA.1 lamA.2.1 lamA.2.2.1 [("node", ce)] (pmOf mg) c2 ct), (f, fnObj (some dx) fd #[]), (dx, dictOf es 5), (l, listOf items.toArray n), (ce, oc), (c2, oc2)] := N
  have e1 : lamA = (Arguments.mk _ _ _ _ _ _ _, Expr.Call _ _ _ _, Scope.mk _ _ _ _ _, Pos.mk _ _ _ _) := rfl
  rw [e1] at N
  dsimp only at N
  refine wpAny_call ?_
  k_dflt (k_extra "MyEnterL")
  k_steps
  refine' hret _ _ _ _ ?kK (Newly.sub ?kN ?hs) ⟨rfl, rfl⟩
  case kK => assumption
  case kN => assumption
  case hs =>
    (with_reducible rename Newly _ _ _ _ => kN)
    simp only [List.push_toArray] at kN ⊢
    k_dflt (simp only [Node.led, List.cons_append, List.nil_append])
    k_dflt (k_extra "MemAll")

end

section
/-! ## dicts -/
section
variable {prog : Program} {w : World} {K : Type} [DecidableEq K] {knd : KeyKind prog w K} {A : Around} {E : Value → Shared → Prop} {s : Shared}
theorem dictPut_pairs {d : Addr} {kvs : List (K × Value)} {k : K} {key v : Value} {Q : Unit → Shared → Prop} (hkey : knd.is k key = true) (hm : s.heap.DictOf knd d kvs)
    (hQ : ∀ h', h'.DictOf knd d (stored kvs k v) → Heap.SameBut d s.heap h' → Q () { s with heap := h' })
    (hsz : kvs.length ≤ sizeLine) :
    wpAny (model prog w) A (dictPut d (knd.hash k) key v) Q E s := by
  have hmm := hm
  obtain ⟨o, es, ep, ho, hc, hd, hk, hp, hn⟩ := hm
  have hes : es.size ≤ sizeLine := by
    have e1 := hp.length
    rw [Array.length_toList] at e1
    exact omEl e1 (by assumption)
  have hidx : (es.findIdx? fun e => knd.is k e.key) = kvs.findIdx? fun kv => decide (kv.1 = k) := by
    rw [← hp.findIdx k]; obtain ⟨l⟩ := es; simp
  unfold dictPut
  refine wpAny_bind (wpAny_dictFind_of hkey ho hd hk ?_)
  rw [hidx]
  cases hi : kvs.findIdx? fun kv => decide (kv.1 = k) with
  | some i =>
    refine wpAny_updateDict ho hd (hQ _ ⟨_, _, ep, Heap.get?_update_self _ ho (Obj.isFreed_of_dict (Obj.data_mapDict hd _)), hc.mapDict _, Obj.data_mapDict hd _, hk.modify _ _, ?_, ?_⟩ (Heap.SameBut.update ..))
    · have hl : (es.toList.findIdx? fun e => knd.is k e.key) = some i := by rw [hp.findIdx k, hi]
      rw [stored, if_pos (any_of_findIdx_some hi), Array.toList_modify]
      exact hp.modify hn hl v
    · rw [stored, if_pos (any_of_findIdx_some hi), keys_map_store]
      exact hn
  | none =>
    have hnot : k ∉ kvs.map (·.1) := not_mem_of_findIdx_none hi
    have hany : ¬ (kvs.any fun kv => decide (kv.1 = k)) = true := fun h => by
      obtain ⟨kv, hkv, he⟩ := List.any_eq_true.mp h
      exact hnot (of_decide_eq_true he ▸ List.mem_map_of_mem hkv)
    refine wpAny_updateDictKeys (hz := hes) ho hd (hQ _ ⟨_, _, ep + 1, Heap.get?_update_self _ ho (Obj.isFreed_of_dict (Obj.data_mapDictKeys hd _)), hc.mapDictKeys _, Obj.data_mapDictKeys hd _, hk.push hkey _, ?_, ?_⟩ (Heap.SameBut.update ..))
    · rw [stored, if_neg hany, Array.toList_push]
      exact hp.append hkey (knd.hash k) v
    · rw [stored, if_neg hany, List.map_append]
      refine List.nodup_append.mpr ⟨hn, by simp, fun a ha b hb e => hnot ?_⟩
      rw [← (List.mem_singleton.mp hb : b = k), ← e]
      exact ha

end
section
variable {prog : Program} {w : World} {A : Around} {E : Value → Shared → Prop} {s : Shared}
theorem merge_in {d o : Addr} {kvs more : List (Str × Value)} {Q : Unit → Shared → Prop} (hdo : d ≠ o) (hoS : (o == sysModules) = false)
    (hd : s.heap.DictOf (strKind prog w) d kvs) (ho : s.heap.DictOf (strKind prog w) o more)
    (hQ : ∀ h', h'.DictOf (strKind prog w) d (merged kvs more) → Heap.SameBut d s.heap h' → Q () { s with heap := h' })
    (hsz : kvs.length + more.length ≤ sizeLine) :
    wpAny (model prog w) A (mergeMapping d (.ref o) false) Q E s := by
  obtain ⟨od, esd, epd, hod, hcd, hdd, hkd, hpd, hnd⟩ := id hd
  obtain ⟨oo, eso, epo, hoo, hco, hdo', hko, hpo, hno⟩ := id ho
  have hT : s.TypeIs (.ref o) "dict" := ⟨oo, hoo, hco.1⟩
  have hsub : isSubtype (.type "dict") (.type "dict") = pure true := by rw [isSubtype_type]; kernel_rfl
  have hsp : typeLookup (.type "dict") "__iter__" = pure (some (.builtin "dict.__iter__")) := by rw [typeLookup_type, builtinLookup_eq_fast]; kernel_rfl
  have hlen : more.length = eso.size := by rw [← hpo.length, Array.length_toList]
  have loop : ∀ (f : Nat → PUnit → Sem (ForInStep PUnit)) (hf : ∀ i u, f i u = (do
        let l ← dictEntries o
        match l[i]? with
        | some e => do
          holding [e.key, e.val] (dictPut d e.hash e.key e.val)
          let ep' ← dictEpoch o
          if (ep' != epo) = true then do
              (unsupported "dict.changed-during-merge" : Sem PUnit)
              pure (ForInStep.yield PUnit.unit)
            else pure (ForInStep.yield PUnit.unit)
        | _ => do
          (unsupported "dict.changed-during-merge" : Sem PUnit)
          pure (ForInStep.yield PUnit.unit) : Sem (ForInStep PUnit))), wpAny (model prog w) A (forIn (List.range eso.size) PUnit.unit f) (fun _ => Q ()) E s := by
    intro f hf
    refine wpAny_forIn_list _
      (fun rest _ s' => ∃ h' i, s' = { s with heap := h' } ∧ rest = List.range' i (eso.size - i) ∧ i ≤ eso.size ∧ h'.DictOf (strKind prog w) d (merged kvs (more.take i)) ∧ h'.get? o = some oo ∧ Heap.SameBut d s.heap h')
      _ ?_ ?_ _ _ ⟨s.heap, 0, rfl, by simp [List.range_eq_range'], Nat.zero_le _, by simpa [merged] using hd, hoo, Heap.SameBut.refl _ _⟩
    · rintro x rest b s' ⟨h', i, rfl, hr, hi, hd', hoo', hs'⟩
      have hlt : i < eso.size := by
        rcases Nat.lt_or_ge i eso.size with h | h
        · exact h
        · rw [Nat.sub_eq_zero_of_le h] at hr; cases hr
      have e : eso.size - i = (eso.size - (i + 1)) + 1 := subStep hlt
      rw [e, List.range'_succ] at hr
      injection hr with h1 h2
      subst h1
      obtain ⟨⟨k, v⟩, hkv⟩ : ∃ kv, more[x]? = some kv := ⟨more[x]'(by rw [hlen]; exact hlt), List.getElem?_eq_getElem _⟩
      have hex : eso[x]? = some eso[x] := Array.getElem?_eq_getElem hlt
      obtain ⟨hkey, hval⟩ := hpo.get? (e := eso[x]) (by rw [Array.getElem?_toList]; exact hex) hkv
      obtain ⟨k', hkey', hhash⟩ := hko eso[x] (Array.getElem_mem hlt)
      obtain rfl : k' = k := (strKind prog w).inj _ _ _ hkey' hkey
      have hmx : (merged kvs (more.take x)).length ≤ sizeLine := by
        have e1 := merged_length_le kvs (more.take x)
        have e2 : (more.take x).length ≤ more.length := by rw [List.length_take]; exact Nat.min_le_right _ _
        exact Nat.le_trans e1 (Nat.le_trans (Nat.add_le_add_left e2 _) (by assumption))
      rw [hf]
      refine wpAny_bind (wpAny_dictEntries hoo' hdo' ?_)
      rw [hex]
      dsimp only
      rw [hhash, hval]
      refine wpAny_bind (wpAny_holding (dictPut_pairs hkey hd' (fun h'' hd'' hs'' => ?_) hmx))
      have hoo'' : h''.get? o = some oo := (hs''.2 o (Ne.symm hdo)).trans hoo'
      refine wpAny_bind (wpAny_dictEpoch hoo'' hdo' ?_)
      rw [if_neg (by simp)]
      exact wpAny_pure ⟨h'', x + 1, rfl, h2, hlt, by rw [merged_take_succ kvs more x (k', v) hkv]; exact hd'', hoo'', hs'.trans hs''⟩
    · rintro b s' ⟨h', i, rfl, hr, hi, hd', hoo', hs'⟩
      have hin : i = eso.size := by
        rcases Nat.lt_or_ge i eso.size with h | h
        · have e : eso.size - i = (eso.size - (i + 1)) + 1 := subStep h
          rw [e, List.range'_succ] at hr; cases hr
        · exact Nat.le_antisymm hi h
      refine hQ h' ?_ hs'
      rw [hin, ← hlen, List.take_length] at hd'
      exact hd'
  unfold mergeMapping
  refine wpAny_bind (wpAny_isInstance hT hsub ?_)
  dsimp only
  refine wpAny_bind (wpAny_specialOf hT hsp (wpAny_bind (wpAny_pure ?_)))
  rw [show (some (Value.builtin "dict.__iter__") == some (Value.builtin "dict.__iter__")) = true from beq_self_eq_true _]
  dsimp only
  rw [hoS]
  simp only [Bool.false_eq_true, if_false]
  have tail : wpAny (model prog w) A (do
      let l ← dictEntries o
      let epoch ← dictEpoch o
      forIn (List.range l.size) PUnit.unit fun i (_ : PUnit) => (do
        let l ← dictEntries o
        match l[i]? with
        | some e => do
          holding [e.key, e.val] (dictPut d e.hash e.key e.val)
          let ep' ← dictEpoch o
          if (ep' != epoch) = true then do
              (unsupported "dict.changed-during-merge" : Sem PUnit)
              pure (ForInStep.yield PUnit.unit)
            else pure (ForInStep.yield PUnit.unit)
        | _ => do
          (unsupported "dict.changed-during-merge" : Sem PUnit)
          pure (ForInStep.yield PUnit.unit) : Sem (ForInStep PUnit))
      pure ()) Q E s := by
    refine wpAny_bind (wpAny_dictEntries hoo hdo' (wpAny_bind (wpAny_dictEpoch hoo hdo' (wpAny_bind (wpAny_mono (loop _ fun _ _ => rfl) (fun _ _ z => wpAny_pure z) fun _ _ z => z)))))
  refine wpAny_bind (wpAny_dictEntries hod hdd ?_)
  split
  · refine wpAny_bind (wpAny_dictEntries hoo hdo' (wpAny_bind ?_))
    rw [← Array.forIn_toList]
    refine wpAny_forIn_list _ (fun rest _ s' => s' = s ∧ ∀ e ∈ rest, e ∈ eso) _ ?_ ?_ _ _ ⟨rfl, fun e he => Array.mem_toList_iff.mp he⟩
    · rintro e rest b s' ⟨rfl, hm⟩
      obtain ⟨k, hk, _⟩ := hko e (hm e (.head _))
      obtain ⟨t, ht⟩ := Value.isStrOf_shape (show Value.isStrOf k e.key = true from hk)
      rw [ht]
      exact wpAny_pure ⟨rfl, fun e he => hm e (.tail _ he)⟩
    · rintro b s' ⟨rfl, _⟩
      exact tail
  · exact tail
/-- `{**a, **b}` of two names -/
theorem eval_two {env : Env} {x1 x2 : Expr} {pos : Pos} {Q : Value → Shared → Prop} {news : List (Addr × Obj)} {h₀ : Heap} {L : Addr} {m : Str → Option Value} {o1 o2 : Addr} {kvs1 kvs2 : List (Str × Value)}
    (F : Fr h₀ L s.heap m) (N : News h₀ L s.heap news)
    (he1 : ∀ (s' : Shared) (Q' : Value → Shared → Prop), Fr h₀ L s'.heap m → Q' (.ref o1) s' → wpAny (model prog w) A (eval x1 env) Q' E s')
    (he2 : ∀ (s' : Shared) (Q' : Value → Shared → Prop), Fr h₀ L s'.heap m → Q' (.ref o2) s' → wpAny (model prog w) A (eval x2 env) Q' E s')
    (hd1 : s.heap.DictOf (strKind prog w) o1 kvs1) (hd2 : s.heap.DictOf (strKind prog w) o2 kvs2) (hS1 : (o1 == sysModules) = false) (hS2 : (o2 == sysModules) = false) (hsz : kvs1.length + kvs2.length ≤ 1000)
    (h : ∀ D ob h', Fr h₀ L h' m → News h₀ L h' ((D, ob) :: news) → (∀ p ∈ news, p.1 < D) → ob.IsDictOf (strKind prog w) (merged (merged [] kvs1) kvs2) → Q (.ref D) { s with heap := h' }) :
    wpAny (model prog w) A (eval (.Dict [none, none] [x1, x2] pos) env) Q E s := by
  rw [arm_eval_Dict]
  refine wpAny_bind (wpAny_standAt ?_)
  show wpAny _ _ (dictDisplay [(none, (do let x ← eval x1 env; standAt pos; pure x)), (none, (do let x ← eval x2 env; standAt pos; pure x))]) _ _ _
  unfold dictDisplay
  simp only [List.forIn_cons, List.forIn_nil, List.isEmpty_nil, if_true, pure_bind, bind_assoc]
  refine wpAny_bind (wpAny_alloc ?_)
  have F1 := F.push (dictOf [] 0)
  have N1 := N.push F (dictOf [] 0)
  have hlt : ∀ p ∈ news, p.1 < s.heap.objs.size := fun p hp => Heap.lt_size (N p hp).1
  have hoff : ∀ p ∈ news, p.1 ≠ s.heap.objs.size := fun p hp => Nat.ne_of_lt (hlt p hp)
  have hD : (s.heap.push (dictOf [] 0)).DictOf (strKind prog w) s.heap.objs.size [] := Heap.dictOf_iff.mpr ⟨_, Heap.get?_push_size _ rfl, #[], 0, ⟨rfl, rfl, rfl⟩, rfl, (fun e he => absurd he (by simp)), Pairs.nil, List.nodup_nil⟩
  have ne : ∀ {a : Addr} {kvs : List (Str × Value)}, s.heap.DictOf (strKind prog w) a kvs → s.heap.objs.size ≠ a := fun hd => by
    obtain ⟨o, e, _⟩ := Heap.dictOf_iff.mp hd
    exact Nat.ne_of_gt (Heap.lt_size e)
  have up : ∀ {a : Addr} {kvs : List (Str × Value)}, s.heap.DictOf (strKind prog w) a kvs → (s.heap.push (dictOf [] 0)).DictOf (strKind prog w) a kvs := fun hd => by
    obtain ⟨o, e, r⟩ := Heap.dictOf_iff.mp hd
    exact Heap.dictOf_iff.mpr ⟨o, Heap.get?_push_of_some _ e, r⟩
  refine wpAny_bind (wpAny_holding (wpAny_bind (he1 _ _ F1 (wpAny_bind (wpAny_standAt (wpAny_pure ?_))))))
  refine wpAny_bind (wpAny_onRaise (wpAny_tryCatch (wpAny_onRaise (wpAny_holding (merge_in (ne hd1) hS1 hD (up hd1) (fun h1 hm1 hs1 => ?_) (by rw [List.length_nil, sizeLine_eq, Nat.zero_add]; exact Nat.le_trans (Nat.le_add_right _ _) (Nat.le_trans (by assumption) (by decide))))))))
  obtain ⟨ob1, e1, r1⟩ := Heap.dictOf_iff.mp hm1
  have F2 := F1.change hs1 (N1 _ (.head _)).2.1 (N1 _ (.head _)).2.2
  have N2 := news_set (pre := []) N1 (fun _ h => nomatch h) hoff hs1 e1
  refine wpAny_bind (wpAny_holding (wpAny_bind (he2 _ _ F2 (wpAny_bind (wpAny_standAt (wpAny_pure ?_))))))
  have hd2' : h1.DictOf (strKind prog w) o2 kvs2 := (up hd2).sameBut hs1 (Ne.symm (ne hd2))
  refine wpAny_bind (wpAny_onRaise (wpAny_tryCatch (wpAny_onRaise (wpAny_holding (merge_in (ne hd2) hS2 hm1 hd2' (fun h2 hm2 hs2 => ?_) ?_)))))
  · obtain ⟨ob2, e2, r2⟩ := Heap.dictOf_iff.mp hm2
    exact wpAny_pure (h _ ob2 h2 (F2.change hs2 (N2 _ (.head _)).2.1 (N2 _ (.head _)).2.2) (news_set (pre := []) N2 (fun _ h => nomatch h) hoff hs2 e2) hlt r2)
  · have := merged_length_le [] kvs1
    rw [List.length_nil, Nat.zero_add] at this
    rw [sizeLine_eq]; exact Nat.le_trans (Nat.add_le_add_right this _) (Nat.le_trans (by assumption) (by decide))
end

end

section
/-! ## a def that takes `**extra` -/
theorem push_below {h : Heap} {o : Obj} {b : Addr} (lt : b < h.objs.size) : (h.push o).get? b = h.get? b := by
  obtain ⟨objs, l⟩ := h
  have e : (objs.push o)[b]? = objs[b]? := by rw [Array.getElem?_push, if_neg (Nat.ne_of_lt lt)]
  show (match (objs.push o)[b]? with | some ⟨_, _, .freed, _⟩ => none | o => o) = (match objs[b]? with | some ⟨_, _, .freed, _⟩ => none | o => o)
  rw [e]
section
variable {prog : Program} {w : World} {A : Around} {E : Value → Shared → Prop}
theorem fill_raw {d : Addr} {Q : PUnit → Shared → Prop} : ∀ (ex : List (Str × Value)) (s : Shared) (es : List DictEntry) (n : Nat), s.heap.get? d = some (dictOf es n) →
    (∀ e ∈ es, ∀ x ∈ ex, e.key.isStr x.1 = false) → (∀ e ∈ es, e.refKey = false) → (ex.map (·.1)).Nodup →
    (∀ h', h'.get? d = some (dictOf (es ++ kwEs w.params s.toks ex) (n + ex.length)) → (∀ b, b ≠ d → h'.get? b = s.heap.get? b) → h'.objs.size = s.heap.objs.size → Q ⟨⟩ { s with heap := h', toks := s.toks + ex.length }) →
    wpAny (model prog w) A (forIn ex PUnit.unit fun x _ => (nsSet d x.1 x.2 >>= fun _ => pure (ForInStep.yield PUnit.unit))) Q E s
  | [], s, es, n, D, _, _, _, h => by
    rw [List.forIn_nil]
    exact wpAny_pure (h s.heap (by show _ = some (dictOf (es ++ []) n); rw [List.append_nil]; exact D) (fun _ _ => rfl) rfl)
  | x :: r, s, es, n, D, hs, hr, hn, h => by
    obtain ⟨hn1, hn2⟩ := List.nodup_cons.mp (show (x.1 :: r.map (·.1)).Nodup from hn)
    have a1 : es.any (·.key.isStr x.1) = false := Bool.eq_false_iff.mpr fun q => by
      obtain ⟨e, he, z⟩ := List.any_eq_true.mp q
      rw [hs e he x (.head _)] at z; cases z
    have a2 : es.any (·.refKey) = false := Bool.eq_false_iff.mpr fun q => by
      obtain ⟨e, he, z⟩ := List.any_eq_true.mp q
      rw [hr e he] at z; cases z
    have e : Obj.putName x.1 (PyData.keyHash w.params x.1) (.str x.1 s.toks) x.2 (dictOf es n) = dictOf (es ++ [⟨PyData.keyHash w.params x.1, .str x.1 s.toks, x.2⟩]) (n + 1) := by
      rw [putName_dict, putL_new fun e he => hs e he x (.head _), putN, a1, if_neg Bool.false_ne_true]
    rw [List.forIn_cons]
    refine wpAny_bind (wpAny_bind ?_)
    unfold nsSet
    refine wpAny_bind (wpAny_bind (wpAny_askSetting (wpAny_pure (wpAny_bind (wpAny_mkText (wpAny_bind (wpAny_loadPart D ?_)))))))
    dsimp only
    rw [aRefKeyMayBeTheName_at, ← Array.any_toList, ← Array.any_toList]
    rw [show (!es.toArray.toList.any (·.key.isStr x.1) && es.toArray.toList.any (·.refKey)) = false from by rw [show es.toArray.toList = es from rfl, a2, Bool.and_false]]
    refine wpAny_updatePart D (wpAny_pure ?_)
    have D1 : (s.heap.update d (Obj.putName x.1 (PyData.keyHash w.params x.1) (.str x.1 s.toks) x.2)).get? d = some (dictOf (es ++ [⟨PyData.keyHash w.params x.1, .str x.1 s.toks, x.2⟩]) (n + 1)) := by
      rw [← e]; exact Heap.get?_update_self _ D (by rw [e]; rfl)
    refine fill_raw r { s with heap := s.heap.update d (Obj.putName x.1 (PyData.keyHash w.params x.1) (.str x.1 s.toks) x.2), toks := s.toks + 1 } _ _ D1 (fun e he y hy => ?_) (fun e he => ?_) hn2 fun h' h1 h2 h3 => ?_
    · rcases List.mem_append.mp he with he | he
      · exact hs e he y (.tail _ hy)
      · obtain rfl := List.mem_singleton.mp he
        exact beq_eq_false_iff_ne.mpr fun q => hn1 (q ▸ List.mem_map_of_mem hy)
    · rcases List.mem_append.mp he with he | he
      · exact hr e he
      · obtain rfl := List.mem_singleton.mp he
        rfl
    · have z := h h' (by
        rw [List.append_assoc, show n + 1 + r.length = n + (r.length + 1) from by omega] at h1
        exact h1) (fun b hb => (h2 b hb).trans (Heap.get?_update_ne _ _ _ _ hb)) (h3.trans (Heap.size_after_update ..))
      rw [show s.toks + (x :: r).length = s.toks + 1 + r.length from by simp; omega] at z
      exact z
end
section
variable {prog : Program} {w : World} {A₀ A : Around} {s : Shared} {base h₀ : Heap} {outer : List Env} {L : Addr} {m : Str → Option Value} {env : Env} {news : List (Addr × Obj)} {K : Frag} {p : Program} {loose : List Str} {mean : ExcName → Option Value} {mg mb : Str → Option Value}
  {R : Result → Shared → Prop} {name qual : Str} {params : Arguments} {body : List Stmt} {scope : Scope} {kV doc pm cdv ct oc : Value} {an od : Option Addr} {osl : Array (Option Value)} {f T0 : Addr} {args : Args} {ex front : List (Str × Value)} {nm : Str} {oT : Obj} {items : Array Value} {nT : Nat} {gg : Option (Array Value) → Sem (List (Str × Value))}
theorem enter_more (B : Below A₀ base outer h₀) (F : Fr h₀ L s.heap m) (X₀ : K.In h₀) (N : News h₀ L s.heap news) (T : Top p loose mean mg mb h₀) (hA : A.frames = some (env :: outer)) (hf : env.frame = some L) (hke : env.scope.kind = .function)
    (ho : K.lookup f = some ⟨oc, od, .func (fnOf name qual params body scope (.ref T0) kV doc pm an cdv ct), osl⟩) (hcd : codeIn K cdv qual = true) (hroom : A.depth < recursionLimit)
    (hT : K.lookup T0 = some oT) (hoT : oT.data = .seq items nT)
    (hb1 : bindArgs (fnOf name qual params body scope (.ref T0) kV doc pm an cdv ct) args = seqItems? (.ref T0) >>= gg)
    (hb2 : gg (some items) = (alloc (dictOf [] 0) >>= fun D => (forIn ex PUnit.unit fun x _ => (nsSet D x.1 x.2 >>= fun _ => pure (ForInStep.yield PUnit.unit))) >>= fun _ => pure (front ++ [(nm, Value.ref D)])))
    (hn : kwDistinct ex = true) (hloc : ∀ D, ∀ y ∈ front ++ [(nm, Value.ref D)], scope.names.lookup y.1 = some .local)
    (h : ∀ D g L' h₁ tk, GroundOf s.heap (news.map (·.1)) g → Fr g L' h₁ (fun y => (front ++ [(nm, Value.ref D)]).reverse.lookup y) → News g L' h₁ ((D, dictOf (kwEs w.params s.toks ex) (0 + ex.length)) :: news) → Below A base (env :: outer) g → K.In g → Top p loose mean mg mb g → (∀ p ∈ news, p.1 < D) → @LT.lt Nat _ D L' → @LE.le Nat _ s.heap.objs.size D →
      wpAny (model prog w) (A.deeper (envOf qual scope L' f cdv)) (execs body (envOf qual scope L' f cdv))
        (fun fl s' => MyLeave s.heap (news.map (·.1)) g R (match fl with | .ret v => v | _ => .none) s')
        (fun e s' => wpAny (model prog w) (A.deeper (envOf qual scope L' f cdv)) (leaving (envOf qual scope L' f cdv) e) (fun _ s'' => R (.error e) s'') (fun e' s'' => R (.error e') s'') s')
        { s with heap := h₁, toks := tk })
    (hco : scope.isCoroutine = false) (hgen : scope.isGenerator = false) (hk : scope.kind = .function)
    (hcell : ∀ x ∈ scope.names, x.2 ≠ .cell) : codeAny (model prog w) A (.call (.ref f) args) R s := by
  refine codeAny_call_function (fd := fnOf name qual params body scope (.ref T0) kV doc pm an cdv ct) (body := body) hroom (X₀.keeps F.keep _ _ ho) rfl hco hgen rfl (codeRec_of (X₀.keeps F.keep) hcd) ?_
  rw [hb1]
  unfold seqItems?
  refine wpAny_bind (wpAny_bind (wpAny_load (X₀.keeps F.keep _ _ hT) ?_))
  rw [hoT]
  refine wpAny_pure ?_
  rw [hb2]
  refine wpAny_bind (wpAny_alloc (wpAny_bind ?_))
  have hD0 : (s.heap.push (dictOf [] 0)).get? s.heap.objs.size = some (dictOf [] 0) := Heap.get?_push_size _ rfl
  refine fill_raw ex { s with heap := s.heap.push (dictOf [] 0) } [] 0 hD0 (fun _ h => nomatch h) (fun _ h => nomatch h) (kwDistinct_nodup hn) fun h' h1 h2 h3 => wpAny_pure ?_
  have kp : ∀ b o, s.heap.get? b = some o → h'.get? b = some o := fun b o e => (h2 b (Nat.ne_of_lt (Heap.lt_size e))).trans (Heap.get?_push_of_some _ e)
  have hnew : h₀.get? s.heap.objs.size = none := by
    cases q : h₀.get? s.heap.objs.size with
    | none => rfl
    | some o => exact absurd (Heap.lt_size (F.keep _ _ q)) (Nat.lt_irrefl _)
  have hlt : ∀ p ∈ news, p.1 < s.heap.objs.size := fun p hp => Heap.lt_size (N p hp).1
  have F2 : Fr h₀ L ({ s with heap := h', toks := s.toks + ex.length } : Shared).heap m := ⟨F.ns.keeps kp, fun b o e => kp _ _ (F.keep b o e), F.above⟩
  have N2 : News h₀ L ({ s with heap := h', toks := s.toks + ex.length } : Shared).heap ((s.heap.objs.size, dictOf (kwEs w.params s.toks ex) (0 + ex.length)) :: news) := fun q hq => by
    rcases List.mem_cons.mp hq with rfl | hq
    · exact ⟨h1, Nat.ne_of_gt F.ns.lt, hnew⟩
    · exact ⟨kp _ _ (N q hq).1, (N q hq).2⟩
  obtain ⟨_, BG, st, _⟩ := groundX (R := R) B F2 N2 hA hf hke
  have G2 := groundOf h' (s.heap.objs.size :: news.map (·.1))
  have G : GroundOf s.heap (news.map (·.1)) (hideAll h' (s.heap.objs.size :: news.map (·.1))) := by
    refine ⟨fun b o e nb => G2.keep b o (kp b o e) fun q => ?_, fun b o e => ?_, fun a ha => G2.off a (.tail _ ha)⟩
    · rcases List.mem_cons.mp q with q | q
      · exact absurd (Heap.lt_size e) (by rw [q]; exact Nat.lt_irrefl _)
      · exact nb q
    · have nb : b ≠ s.heap.objs.size := fun q => by rw [q, G2.off _ (.head _)] at e; cases e
      have e1 := G2.sub _ _ e
      rw [h2 b nb] at e1
      have lt : b < s.heap.objs.size := by
        have := Heap.lt_size e1
        exact Nat.lt_of_le_of_ne (Nat.le_of_lt_succ (Nat.lt_of_lt_of_eq this (Heap.size_push ..))) nb
      rw [push_below lt] at e1
      exact e1
  refine wpAny_newFunctionEnv hcell (hloc _) (fun h₁ hns hsb => ⟨(T.nolimit.keeps F2.keep).fresh _ hsb, codeAny_func ?_⟩) hk
  have hk₁ : ∀ b o, h'.get? b = some o → h₁.get? b = some o := fun b o e => hsb.extBut b o (Nat.ne_of_lt (Heap.lt_size e)) (Heap.get?_push_of_some _ e)
  have hs' : h'.objs.size = s.heap.objs.size + 1 := h3.trans (Heap.size_push ..)
  refine wpAny_mono (h s.heap.objs.size _ h'.objs.size h₁ _ G ⟨hns, fun b o e => hk₁ b o (G2.sub _ _ e), Nat.le_of_eq (hideAll_size _ _)⟩
    (fun q hq => ⟨hk₁ _ _ (N2 q hq).1, Nat.ne_of_lt (Heap.lt_size (N2 q hq).1), ?_⟩) BG (X₀.keeps st) (T.keeps st) hlt (by rw [hs']; exact Nat.lt_succ_self _) (Nat.le_refl _)) (fun fl s' hl => hl.out G) fun _ _ y => y
  refine G2.off _ ?_
  rcases List.mem_cons.mp hq with rfl | hq
  · exact .head _
  · exact .tail _ (List.mem_map_of_mem hq)
end

end

section
theorem su50sub_1 : True := by
  w_top off
  trivial
/-! ## SubElement -/
def subFn (w : World) : FuncData := match (hd.heap_39 w.params).lookup 23 with
  | some ⟨_, _, .func fd, _⟩ => fd
  | _ => default
abbrev SubBind (w : World) (pos : List Value) (kw : List (Str × Value)) (gg : Option (Array Value) → Sem (List (Str × Value))) : Prop := bindArgs (subFn w) ⟨pos, kw⟩ = seqItems? (.ref 16) >>= gg
abbrev SubBind2 (p tag att : Value) (ex : List (Str × Value)) (gg : Option (Array Value) → Sem (List (Str × Value))) : Prop :=
  gg (some #[.ref 15]) = (alloc (dictOf [] 0) >>= fun D => (forIn ex PUnit.unit fun x _ => (nsSet D x.1 x.2 >>= fun _ => pure (ForInStep.yield PUnit.unit))) >>= fun _ => pure ([(("parent" : Str), p), ("tag", tag), ("attrib", att)] ++ [(("extra" : Str), Value.ref D)]))

theorem sub_g (w : World) (mg mb : Str → Option Value) (nd : Node) (tg at0 tagv : Value) (items : List Value) (n : Nat) (c1 c2 : Addr) (oc2 : Obj) (vs2 : Array Value) (t2 : Tok) (ga : Addr) (og : Obj) (kvs ex : List (Str × Value))
   (pos : List Value) (kw : List (Str × Value)) (gg : Option (Array Value) → Sem (List (Str × Value)))
   (ok : nd.Ok tg at0) (hd2 : oc2.data = .fields vs2) (hv2 : vs2[1]? = some (.str lamQ t2)) (hc : @LT.lt Nat _ c2 nd.ce ∨ @LT.lt Nat _ nd.l c2 ∧ @LT.lt Nat _ c2 nd.f2) (hsz : items.length ≤ 100)
   (hog : og.IsDictOf (strKind pg w) kvs) (hkl : kvs.length + ex.length ≤ 1000) (hga : @LT.lt Nat _ nd.f2 ga) (hga2 : @LT.lt Nat _ c2 ga) (h95 : @LT.lt Nat _ 95 nd.ce) (h952 : @LT.lt Nat _ 95 c2)
   (hb1 : SubBind w pos kw gg) (hb2 : SubBind2 (.ref nd.f) tagv (.ref ga) ex gg) (hn : kwDistinct ex = true) :
   HC w mg mb (.ref 23) pos kw 3 24 (nd.led (pmOf mg) c2 items n ++ [(c2, oc2), (95, tabFull c1 c2), (ga, og)]) (fun h => CodeHd h 99 95)
     (fun H v news' => ∃ (nd' : Node) (D : Addr) (ob : Obj), v = .ref nd'.f ∧
       news' = nd'.led (pmOf mg) c2 [] 0 ++ ((D, ob) :: nd.led (pmOf mg) c2 (items ++ [.ref nd'.f]) (n + 1)) ++ [(c2, oc2), (95, tabFull c1 c2), (ga, og)] ∧ nd'.Ok tagv (.ref D) ∧
       ob.IsDictOf (strKind pg w) (merged (merged [] kvs) ex) ∧ @LE.le Nat _ H.objs.size D ∧ @LT.lt Nat _ D nd'.ce) := by
  intro p loose mean dp un gd cn cs a ccd cl outer A₀ base h₀ L m s Q E B F X N T hk HG hdp hun hret
  have HG : CodeHd base 99 95 := HG
  obtain ⟨o1, o2, o3, o4, o5, o6, r1, r2, r3, r4⟩ := id ok
  have N : News h₀ L s.heap [(nd.f2, lamObj (pmOf mg) nd.ce c2 nd.ct), (nd.f, fnObj (some nd.dx) nd.fd #[]), (nd.dx, dictOf nd.es 5), (nd.l, listOf items.toArray n), (nd.ce, nd.oc), (c2, oc2), (95, tabFull c1 c2), (ga, og)] := N
  refine wpAny_call ?_
  k_dflt (k_extra "MyEnterM")
  k_steps
  refine' hret _ _ _ _ ?kK (Newly.sub ?kN ?hs) ⟨_, _, _, rfl, rfl, ?ok, ?ob, ?l1, ?l2⟩
  case kK => assumption
  case kN => assumption
  case ok => assumption
  case ob => assumption
  case hs =>
    (with_reducible rename Newly _ _ _ _ => kN)
    k_dflt (simp only [Node.led, List.cons_append, List.nil_append])
    k_dflt (k_extra "MemAll")
  case l1 => (first | omega | (dsimp only; omega))
  case l2 => (first | omega | (dsimp only; omega))

theorem sub_0 (w : World) (mg mb : Str → Option Value) (nd : Node) (tg at0 tagv : Value) (items : List Value) (n : Nat) (c1 c2 : Addr) (oc2 : Obj) (vs2 : Array Value) (t2 : Tok) (ex : List (Str × Value))
   (pos : List Value) (kw : List (Str × Value)) (gg : Option (Array Value) → Sem (List (Str × Value)))
   (ok : nd.Ok tg at0) (hd2 : oc2.data = .fields vs2) (hv2 : vs2[1]? = some (.str lamQ t2)) (hc : @LT.lt Nat _ c2 nd.ce ∨ @LT.lt Nat _ nd.l c2 ∧ @LT.lt Nat _ c2 nd.f2) (hsz : items.length ≤ 100)
   (hkl : ([] : List (Str × Value)).length + ex.length ≤ 1000) (h95 : @LT.lt Nat _ 95 nd.ce) (h952 : @LT.lt Nat _ 95 c2)
   (hb1 : SubBind w pos kw gg) (hb2 : SubBind2 (.ref nd.f) tagv (.ref 15) ex gg) (hn : kwDistinct ex = true) :
   HC w mg mb (.ref 23) pos kw 3 24 (nd.led (pmOf mg) c2 items n ++ [(c2, oc2), (95, tabFull c1 c2)]) (fun h => CodeHd h 99 95)
     (fun H v news' => ∃ (nd' : Node) (D : Addr) (ob : Obj), v = .ref nd'.f ∧
       news' = nd'.led (pmOf mg) c2 [] 0 ++ ((D, ob) :: nd.led (pmOf mg) c2 (items ++ [.ref nd'.f]) (n + 1)) ++ [(c2, oc2), (95, tabFull c1 c2)] ∧ nd'.Ok tagv (.ref D) ∧
       ob.IsDictOf (strKind pg w) (merged (merged [] []) ex) ∧ @LE.le Nat _ H.objs.size D ∧ @LT.lt Nat _ D nd'.ce) := by
  intro p loose mean dp un gd cn cs a ccd cl outer A₀ base h₀ L m s Q E B F X N T hk HG hdp hun hret
  have HG : CodeHd base 99 95 := HG
  obtain ⟨o1, o2, o3, o4, o5, o6, r1, r2, r3, r4⟩ := id ok
  have N : News h₀ L s.heap [(nd.f2, lamObj (pmOf mg) nd.ce c2 nd.ct), (nd.f, fnObj (some nd.dx) nd.fd #[]), (nd.dx, dictOf nd.es 5), (nd.l, listOf items.toArray n), (nd.ce, nd.oc), (c2, oc2), (95, tabFull c1 c2)] := N
  refine wpAny_call ?_
  k_dflt (k_extra "MyEnterM")
  k_steps
  refine' hret _ _ _ _ ?kK (Newly.sub ?kN ?hs) ⟨_, _, _, rfl, rfl, ?ok, ?ob, ?l1, ?l2⟩
  case kK => assumption
  case kN => assumption
  case ok => assumption
  case ob => assumption
  case hs =>
    (with_reducible rename Newly _ _ _ _ => kN)
    k_dflt (simp only [Node.led, List.cons_append, List.nil_append])
    k_dflt (k_extra "MemAll")
  case l1 => (first | omega | (dsimp only; omega))
  case l2 => (first | omega | (dsimp only; omega))

end

section
theorem sub_g0 (w : World) (mg mb : Str → Option Value) (nd : Node) (tg at0 tagv : Value) (items : List Value) (n : Nat) (c1 c2 : Addr) (oc2 : Obj) (vs2 : Array Value) (t2 : Tok) (ga : Addr) (og : Obj) (kvs : List (Str × Value))  (ok : nd.Ok tg at0) (hd2 : oc2.data = .fields vs2) (hv2 : vs2[1]? = some (.str lamQ t2)) (hc : @LT.lt Nat _ c2 nd.ce ∨ @LT.lt Nat _ nd.l c2 ∧ @LT.lt Nat _ c2 nd.f2) (hsz : items.length ≤ 100)
   (hog : og.IsDictOf (strKind pg w) kvs) (hkl : kvs.length ≤ 900) (hga : @LT.lt Nat _ nd.f2 ga) (hga2 : @LT.lt Nat _ c2 ga) (h95 : @LT.lt Nat _ 95 nd.ce) (h952 : @LT.lt Nat _ 95 c2) :
   HC w mg mb (.ref 23) [.ref nd.f, tagv, .ref ga] [] 3 24 (nd.led (pmOf mg) c2 items n ++ [(c2, oc2), (95, tabFull c1 c2), (ga, og)]) (fun h => CodeHd h 99 95)
     (fun H v news' => ∃ (nd' : Node) (D : Addr) (ob : Obj), v = .ref nd'.f ∧
       news' = nd'.led (pmOf mg) c2 [] 0 ++ ((D, ob) :: nd.led (pmOf mg) c2 (items ++ [.ref nd'.f]) (n + 1)) ++ [(c2, oc2), (95, tabFull c1 c2), (ga, og)] ∧ nd'.Ok tagv (.ref D) ∧
       ob.IsDictOf (strKind pg w) (merged (merged [] kvs) []) ∧ @LE.le Nat _ H.objs.size D ∧ @LT.lt Nat _ D nd'.ce) := by
  obtain ⟨gg, h1, h2⟩ : ∃ gg, SubBind w [.ref nd.f, tagv, .ref ga] [] gg ∧ SubBind2 (.ref nd.f) tagv (.ref ga) [] gg := ⟨_, rfl, rfl⟩
  exact sub_g w mg mb nd tg at0 tagv items n c1 c2 oc2 vs2 t2 ga og kvs [] _ _ gg ok hd2 hv2 hc hsz hog (by simp; omega) hga hga2 h95 h952 h1 h2 rfl
theorem sub_g1 (w : World) (mg mb : Str → Option Value) (nd : Node) (tg at0 tagv : Value) (items : List Value) (n : Nat) (c1 c2 : Addr) (oc2 : Obj) (vs2 : Array Value) (t2 : Tok) (ga : Addr) (og : Obj) (kvs : List (Str × Value)) (gv : Value) (ok : nd.Ok tg at0) (hd2 : oc2.data = .fields vs2) (hv2 : vs2[1]? = some (.str lamQ t2)) (hc : @LT.lt Nat _ c2 nd.ce ∨ @LT.lt Nat _ nd.l c2 ∧ @LT.lt Nat _ c2 nd.f2) (hsz : items.length ≤ 100)
   (hog : og.IsDictOf (strKind pg w) kvs) (hkl : kvs.length ≤ 900) (hga : @LT.lt Nat _ nd.f2 ga) (hga2 : @LT.lt Nat _ c2 ga) (h95 : @LT.lt Nat _ 95 nd.ce) (h952 : @LT.lt Nat _ 95 c2) :
   HC w mg mb (.ref 23) [.ref nd.f, tagv, .ref ga] [("gap", gv)] 3 24 (nd.led (pmOf mg) c2 items n ++ [(c2, oc2), (95, tabFull c1 c2), (ga, og)]) (fun h => CodeHd h 99 95)
     (fun H v news' => ∃ (nd' : Node) (D : Addr) (ob : Obj), v = .ref nd'.f ∧
       news' = nd'.led (pmOf mg) c2 [] 0 ++ ((D, ob) :: nd.led (pmOf mg) c2 (items ++ [.ref nd'.f]) (n + 1)) ++ [(c2, oc2), (95, tabFull c1 c2), (ga, og)] ∧ nd'.Ok tagv (.ref D) ∧
       ob.IsDictOf (strKind pg w) (merged (merged [] kvs) [("gap", gv)]) ∧ @LE.le Nat _ H.objs.size D ∧ @LT.lt Nat _ D nd'.ce) := by
  obtain ⟨gg, h1, h2⟩ : ∃ gg, SubBind w [.ref nd.f, tagv, .ref ga] [("gap", gv)] gg ∧ SubBind2 (.ref nd.f) tagv (.ref ga) [("gap", gv)] gg := ⟨_, rfl, rfl⟩
  exact sub_g w mg mb nd tg at0 tagv items n c1 c2 oc2 vs2 t2 ga og kvs [("gap", gv)] _ _ gg ok hd2 hv2 hc hsz hog (by simp; omega) hga hga2 h95 h952 h1 h2 rfl
theorem sub_k0 (w : World) (mg mb : Str → Option Value) (nd : Node) (tg at0 tagv : Value) (items : List Value) (n : Nat) (c1 c2 : Addr) (oc2 : Obj) (vs2 : Array Value) (t2 : Tok)  (ok : nd.Ok tg at0) (hd2 : oc2.data = .fields vs2) (hv2 : vs2[1]? = some (.str lamQ t2)) (hc : @LT.lt Nat _ c2 nd.ce ∨ @LT.lt Nat _ nd.l c2 ∧ @LT.lt Nat _ c2 nd.f2) (hsz : items.length ≤ 100) (h95 : @LT.lt Nat _ 95 nd.ce) (h952 : @LT.lt Nat _ 95 c2) :
   HC w mg mb (.ref 23) [.ref nd.f, tagv] [] 3 24 (nd.led (pmOf mg) c2 items n ++ [(c2, oc2), (95, tabFull c1 c2)]) (fun h => CodeHd h 99 95)
     (fun H v news' => ∃ (nd' : Node) (D : Addr) (ob : Obj), v = .ref nd'.f ∧
       news' = nd'.led (pmOf mg) c2 [] 0 ++ ((D, ob) :: nd.led (pmOf mg) c2 (items ++ [.ref nd'.f]) (n + 1)) ++ [(c2, oc2), (95, tabFull c1 c2)] ∧ nd'.Ok tagv (.ref D) ∧
       ob.IsDictOf (strKind pg w) (merged (merged [] []) []) ∧ @LE.le Nat _ H.objs.size D ∧ @LT.lt Nat _ D nd'.ce) := by
  obtain ⟨gg, h1, h2⟩ : ∃ gg, SubBind w [.ref nd.f, tagv] [] gg ∧ SubBind2 (.ref nd.f) tagv (.ref 15) [] gg := ⟨_, rfl, rfl⟩
  exact sub_0 w mg mb nd tg at0 tagv items n c1 c2 oc2 vs2 t2 [] _ _ gg ok hd2 hv2 hc hsz (by simp) h95 h952 h1 h2 rfl
theorem sub_k2 (w : World) (mg mb : Str → Option Value) (nd : Node) (tg at0 tagv : Value) (items : List Value) (n : Nat) (c1 c2 : Addr) (oc2 : Obj) (vs2 : Array Value) (t2 : Tok) (gv nv : Value) (ok : nd.Ok tg at0) (hd2 : oc2.data = .fields vs2) (hv2 : vs2[1]? = some (.str lamQ t2)) (hc : @LT.lt Nat _ c2 nd.ce ∨ @LT.lt Nat _ nd.l c2 ∧ @LT.lt Nat _ c2 nd.f2) (hsz : items.length ≤ 100) (h95 : @LT.lt Nat _ 95 nd.ce) (h952 : @LT.lt Nat _ 95 c2) :
   HC w mg mb (.ref 23) [.ref nd.f, tagv] [("gap", gv), ("name", nv)] 3 24 (nd.led (pmOf mg) c2 items n ++ [(c2, oc2), (95, tabFull c1 c2)]) (fun h => CodeHd h 99 95)
     (fun H v news' => ∃ (nd' : Node) (D : Addr) (ob : Obj), v = .ref nd'.f ∧
       news' = nd'.led (pmOf mg) c2 [] 0 ++ ((D, ob) :: nd.led (pmOf mg) c2 (items ++ [.ref nd'.f]) (n + 1)) ++ [(c2, oc2), (95, tabFull c1 c2)] ∧ nd'.Ok tagv (.ref D) ∧
       ob.IsDictOf (strKind pg w) (merged (merged [] []) [("gap", gv), ("name", nv)]) ∧ @LE.le Nat _ H.objs.size D ∧ @LT.lt Nat _ D nd'.ce) := by
  obtain ⟨gg, h1, h2⟩ : ∃ gg, SubBind w [.ref nd.f, tagv] [("gap", gv), ("name", nv)] gg ∧ SubBind2 (.ref nd.f) tagv (.ref 15) [("gap", gv), ("name", nv)] gg := ⟨_, rfl, rfl⟩
  exact sub_0 w mg mb nd tg at0 tagv items n c1 c2 oc2 vs2 t2 [("gap", gv), ("name", nv)] _ _ gg ok hd2 hv2 hc hsz (by simp) h95 h952 h1 h2 rfl
theorem sub_k3 (w : World) (mg mb : Str → Option Value) (nd : Node) (tg at0 tagv : Value) (items : List Value) (n : Nat) (c1 c2 : Addr) (oc2 : Obj) (vs2 : Array Value) (t2 : Tok) (gv nv mv : Value) (ok : nd.Ok tg at0) (hd2 : oc2.data = .fields vs2) (hv2 : vs2[1]? = some (.str lamQ t2)) (hc : @LT.lt Nat _ c2 nd.ce ∨ @LT.lt Nat _ nd.l c2 ∧ @LT.lt Nat _ c2 nd.f2) (hsz : items.length ≤ 100) (h95 : @LT.lt Nat _ 95 nd.ce) (h952 : @LT.lt Nat _ 95 c2) :
   HC w mg mb (.ref 23) [.ref nd.f, tagv] [("gap", gv), ("name", nv), ("more", mv)] 3 24 (nd.led (pmOf mg) c2 items n ++ [(c2, oc2), (95, tabFull c1 c2)]) (fun h => CodeHd h 99 95)
     (fun H v news' => ∃ (nd' : Node) (D : Addr) (ob : Obj), v = .ref nd'.f ∧
       news' = nd'.led (pmOf mg) c2 [] 0 ++ ((D, ob) :: nd.led (pmOf mg) c2 (items ++ [.ref nd'.f]) (n + 1)) ++ [(c2, oc2), (95, tabFull c1 c2)] ∧ nd'.Ok tagv (.ref D) ∧
       ob.IsDictOf (strKind pg w) (merged (merged [] []) [("gap", gv), ("name", nv), ("more", mv)]) ∧ @LE.le Nat _ H.objs.size D ∧ @LT.lt Nat _ D nd'.ce) := by
  obtain ⟨gg, h1, h2⟩ : ∃ gg, SubBind w [.ref nd.f, tagv] [("gap", gv), ("name", nv), ("more", mv)] gg ∧ SubBind2 (.ref nd.f) tagv (.ref 15) [("gap", gv), ("name", nv), ("more", mv)] gg := ⟨_, rfl, rfl⟩
  exact sub_0 w mg mb nd tg at0 tagv items n c1 c2 oc2 vs2 t2 [("gap", gv), ("name", nv), ("more", mv)] _ _ gg ok hd2 hv2 hc hsz (by simp) h95 h952 h1 h2 rfl

end

section
structure RNe (rest : List (Addr × Obj)) (x : Addr) : Prop where
  ne : ∀ p ∈ rest, p.1 ≠ x
inductive TailOf (rest : List (Addr × Obj)) : List (Addr × Obj) → Prop
  | refl : TailOf rest rest
  | cons {q l} : TailOf rest l → TailOf rest (q :: l)
theorem TailOf.mem {rest l : List (Addr × Obj)} (h : TailOf rest l) : ∀ p ∈ rest, p ∈ l := by
  induction h with
  | refl => exact fun _ h => h
  | cons _ ih => exact fun p h => .tail _ (ih p h)
theorem RNe.of_ltl {rest : List (Addr × Obj)} {as : List Nat} {x : Addr} (n : Nat) (h : LtL x as) (e : as.drop n = rest.map (·.1)) : RNe rest x := ⟨fun p hp => Nat.ne_of_lt (h.restLt n e p hp)⟩
theorem RNe.of_lts {rest l : List (Addr × Obj)} {x : Addr} (h : Lts x l) (t : TailOf rest l) : RNe rest x := ⟨fun p hp => Nat.ne_of_lt (h.lt p (t.mem p hp))⟩
theorem Split.tail {as : List Addr} {rest : List (Addr × Obj)} (h : ∀ x ∈ as, RNe rest x) : Split as rest rest := by
  suffices g : ∀ l : List (Addr × Obj), (∀ p ∈ l, p.1 ∉ as) → Split as l l from g rest fun p hp hx => (h _ hx).ne p hp rfl
  clear h
  intro l
  induction l with
  | nil => exact fun _ => .nil
  | cons q l ih => exact fun h => .keep (h q (.head _)) (ih fun p hp => h p (.tail _ hp))
theorem memAll_tail {rest l : List (Addr × Obj)} (t : TailOf rest l) : ∀ p ∈ rest, p ∈ l := t.mem
theorem Fr.pin {h₀ h : Heap} {L : Addr} {m : Str → Option Value} {x : Str} {v : Value} (F : Fr h₀ L h m) (e : m x = some v) : Fr h₀ L h (fun y => if y = x then some v else m y) := by
  have : (fun y => if y = x then some v else m y) = m := by
    funext y
    by_cases hy : y = x
    · rw [if_pos hy, hy, e]
    · rw [if_neg hy]
  rw [this]; exact F
def docBody : List Stmt := stY (bodyOf "_law_document") 2
def docScope (w : World) : Scope := match (hd.heap_39 w.params).lookup 107 with
  | some ⟨_, _, .func fd, _⟩ => fd.scope
  | _ => default
section
variable {prog : Program} {w : World} {A : Around} {E : Value → Shared → Prop} {s : Shared} {h₀ : Heap} {L : Addr} {news : List (Addr × Obj)}
theorem lenS {l : Addr} {items : List Value} {n : Nat} {Q : Value → Shared → Prop} (N : News h₀ L s.heap news) (hm : (l, listOf items.toArray n) ∈ news) (hz : items.length ≤ 100)
    (h : Q (.int items.length (s.toks + 1)) { s with toks := s.toks + 1 + 1 }) : wpAny (model prog w) A (call (.builtin "len") [.ref l]) Q E s :=
  len_list (News.isList N hm) (by simp; omega) (by simpa using h)
theorem lenS1 {l : Addr} {items : List Value} {x : Value} {n : Nat} {Q : Value → Shared → Prop} (N : News h₀ L s.heap news) (hm : (l, listOf (items ++ [x]).toArray n) ∈ news) (hz : items.length ≤ 99)
    (h : Q (.int (items.length + 1) (s.toks + 1)) { s with toks := s.toks + 1 + 1 }) : wpAny (model prog w) A (call (.builtin "len") [.ref l]) Q E s :=
  len_list (News.isList N hm) (by simp; omega) (by simpa using h)
end
section
variable {prog : Program} {w : World} {A : Around} {E : Value → Shared → Prop} {s : Shared} {h₀ : Heap} {L : Addr} {news : List (Addr × Obj)}
theorem neSame {x : Str} {t u : Tok} {Q : Value → Shared → Prop} (h : Q (.bool false) s) : wpAny (model prog w) A (compareOp .NotEq (.str x t) (.str x u)) Q E s :=
  PyProof.Rows.ne_str (by rw [show (x != x) = false from bne_self_eq_false' (a := x)]; exact h)
theorem eqS (A : Around) (x : Str) (t u : Tok) : SeqAt.EqAt A s (.str x t) (.str x u) true := by
  have := SeqAt.EqAt.str_str (A := A) (s := s) x t x u
  simpa using this
theorem dictSame {a b : Addr} {ka kb : List (Str × Value)} {Q : Value → Shared → Prop} (ha : (a == sysModules) = false) (hb : (b == sysModules) = false)
    (da : s.heap.DictOf (strKind prog w) a ka) (db : s.heap.DictOf (strKind prog w) b kb) (hl : ka.length = kb.length) (hits : KeqHits A.in1 s kb ka true) (hu : A.units < cLine) (h : Q (.bool false) s) :
    wpAny (model prog w) A (compareOp .NotEq (.ref a) (.ref b)) Q E s :=
  keq_ne ha hb da db hu (fun _ => hits) (by rw [hl]; simpa using h)
theorem hitS {kb r : List (Str × Value)} {k : Str} {x : Str} {t u : Tok} (h : valueAt kb k = some (.str x u)) (hr : KeqHits A s kb r true) : KeqHits A s kb ((k, .str x t) :: r) true := by
  have := KeqHits.hit (e := true) (v := .str x t) h (eqS A x t u) hr
  exact this
theorem listSize {l : Addr} {items : List Value} {x : Value} {k : Nat} {t : Tok} {Q : Value → Shared → Prop} {n : Nat} (N : News h₀ L s.heap news) (hm : (l, listOf items.toArray n) ∈ news) (hx : items[k]? = some x) (hz : items.length ≤ 100) (h : Q x s) :
    wpAny (model prog w) A (getItem (.ref l) (.int k t)) Q E s :=
  wpAny_getItem_list (News.isList N hm) (Int.natCast_nonneg k) (omJ (Nat.lt_of_lt_of_le (List.getElem?_eq_some_iff.mp hx).1 hz) (by decide)) (by simpa using hx) h
theorem listLast {l : Addr} {items : List Value} {x : Value} {t : Tok} {Q : Value → Shared → Prop} {n : Nat} (N : News h₀ L s.heap news) (hm : (l, listOf (items ++ [x]).toArray n) ∈ news) (hz : items.length ≤ 100) (h : Q x s) :
    wpAny (model prog w) A (getItem (.ref l) (.int (-1) t)) Q E s :=
  wpAny_getItem_list_neg (News.isList N hm) (by decide) (by simp; exact Int.le_add_of_nonneg_left (Int.natCast_nonneg _)) (by decide) (by
    have e : ((-1 : Int) + ((items ++ [x]).toArray.size : Int)).toNat = items.length := by simp; exact congrArg Int.toNat (lastI _)
    rw [e]; simp) h
end
section
variable {prog : Program} {w : World} {A : Around} {E : Value → Shared → Prop} {s : Shared} {h₀ : Heap} {L : Addr} {news : List (Addr × Obj)}
theorem subLast {value slice : Expr} {l : Addr} {items : List Value} {x : Value} {t : Tok} {Q : Value → Shared → Prop} {n : Nat} (N : News h₀ L s.heap news) (hm : (l, listOf (items ++ [x]).toArray n) ∈ news) (hz : items.length ≤ 100) (h : Q x s)
    (hs : subscripted slice false (.ref l) (.int (-1) t) = operate [.ref l, .int (-1) t] (getItem (.ref l) (.int (-1) t)) := by with_unfolding_all rfl) (hg : ∀ r, letTemporaryGo value (.ref l) r = pure () := by intro _; with_unfolding_all rfl) :
    wpAny (model prog w) A (subscriptTail value slice (.ref l) (.int (-1) t)) Q E s :=
  subscriptTail_builtin (News.isList N hm).typeIs slot_list_getitem.lookup (listLast N hm hz h) hs hg
theorem subAt {value slice : Expr} {l : Addr} {items : List Value} {x : Value} {k : Nat} {t : Tok} {Q : Value → Shared → Prop} {n : Nat} (N : News h₀ L s.heap news) (hm : (l, listOf items.toArray n) ∈ news) (hx : items[k]? = some x) (hz : items.length ≤ 100) (h : Q x s)
    (hs : subscripted slice false (.ref l) (.int k t) = operate [.ref l, .int k t] (getItem (.ref l) (.int k t)) := by with_unfolding_all rfl) (hg : ∀ r, letTemporaryGo value (.ref l) r = pure () := by intro _; with_unfolding_all rfl) :
    wpAny (model prog w) A (subscriptTail value slice (.ref l) (.int k t)) Q E s :=
  subscriptTail_builtin (News.isList N hm).typeIs slot_list_getitem.lookup (listSize N hm hx hz h) hs hg
theorem isDict {a b : Addr} {ka kb : List (Str × Value)} {Q : Value → Shared → Prop} (hab : a ≠ b) (da : s.heap.DictOf (strKind prog w) a ka) (db : s.heap.DictOf (strKind prog w) b kb) (h : Q (.bool false) s) :
    wpAny (model prog w) A (compareOp .Is (.ref a) (.ref b)) Q E s := by
  obtain ⟨oa, esa, epa, hoa, hca, hda, hka, hpa, hna⟩ := da
  obtain ⟨ob, esb, epb, hob, hcb, hdb, hkb, hpb, hnb⟩ := db
  exact wpAny_is_ref_other hab hoa hob (by rw [hca.1]; intro e; exact absurd (Value.type.inj e) (by decide)) h
end
theorem neInt {prog : Program} {w : World} {A : Around} {E : Value → Shared → Prop} {s : Shared} {x : Int} {t u : Tok} {Q : Value → Shared → Prop} (h : Q (.bool false) s) : wpAny (model prog w) A (compareOp .NotEq (.int x t) (.int x u)) Q E s := by
  refine PyProof.Rows.ne_int ?_
  simpa using h
theorem Split.dropM {as : List Addr} {q : Addr × Obj} {news rest : List (Addr × Obj)} (_ : q.1 ∈ as) (h : Split as news rest) : Split as (q :: news) rest := .drop h
section
variable {prog : Program} {w : World} {A : Around} {E : Value → Shared → Prop} {s : Shared} {h₀ : Heap} {L : Addr} {news : List (Addr × Obj)}
theorem subAtI {value slice : Expr} {l : Addr} {items : List Value} {x : Value} {k : Int} {t : Tok} {Q : Value → Shared → Prop} {n : Nat} (N : News h₀ L s.heap news) (hm : (l, listOf items.toArray n) ∈ news) (h0 : 0 ≤ k) (hx : items[k.toNat]? = some x) (hz : items.length ≤ 100) (h : Q x s)
    (hs : subscripted slice false (.ref l) (.int k t) = operate [.ref l, .int k t] (getItem (.ref l) (.int k t)) := by with_unfolding_all rfl) (hg : ∀ r, letTemporaryGo value (.ref l) r = pure () := by intro _; with_unfolding_all rfl) :
    wpAny (model prog w) A (subscriptTail value slice (.ref l) (.int k t)) Q E s := by
  obtain ⟨j, rfl⟩ := Int.eq_ofNat_of_zero_le h0
  exact subAt N hm (by simpa using hx) hz h hs hg
end
theorem toArr_size {l : List Value} (h : l.length ≤ 10) : l.toArray.size ≤ sizeLine := Nat.le_trans (by simpa using h) (Nat.le_of_ble_eq_true rfl)
theorem Newss.sub {h₀ : Heap} {L : Addr} {h : Heap} {l l' : List (Addr × Obj)} (N : News h₀ L h l) (hs : ∀ q ∈ l', q ∈ l) : News h₀ L h l' := fun q hq => N q (hs q hq)
theorem restLt {X D : Addr} {rest l : List (Addr × Obj)} (hx : @LE.le Nat _ X D) (h : Lts X l) (t : TailOf rest l) : ∀ q ∈ rest, @LT.lt Nat _ q.1 D := fun q hq => Nat.lt_of_lt_of_le (h.lt q (t.mem q hq)) hx
section
variable {prog : Program} {w : World} {A : Around} {E : Value → Shared → Prop} {s : Shared} {h₀ : Heap} {L : Addr} {news : List (Addr × Obj)} {m : Str → Option Value}
theorem setItemS {d : Addr} {o : Obj} {g : Obj → List (Addr × Obj)} {k : Str} {t : Tok} {v : Value} {kvs : List (Str × Value)} {Q : Unit → Shared → Prop}
    (F : Fr h₀ L s.heap m) (N : News h₀ L s.heap news) (U : UpdF d o news g) (hd : o.IsDictOf (strKind prog w) kvs) (hsz : kvs.length ≤ 900)
    (h : ∀ h' o', Fr h₀ L h' m → News h₀ L h' (g o') → o'.IsDictOf (strKind prog w) (stored kvs k v) → Q () { s with heap := h', toks := s.toks + 1 }) :
    wpAny (model prog w) A (setItem (.ref d) (.str k t) v) Q E s := by
  obtain ⟨own, rest, rfl, hg, h1, h2⟩ := U.split
  have hm := N (d, o) (List.mem_append_right _ (.head _))
  refine wpAny_setItem_pairs (hsz := Nat.le_trans hsz (Nat.le_of_ble_eq_true rfl)) (strKind_is prog w k t) (Heap.dictOf_iff.mpr ⟨o, hm.1, hd⟩) fun h' hmm hs => ?_
  obtain ⟨o', ho', hd'⟩ := Heap.dictOf_iff.mp hmm
  exact h h' o' (F.change hs hm.2.1 hm.2.2) (hg o' ▸ N.setIn h1 h2 hs ho') hd'
end
structure Hold (p : Prop) : Prop where
  out : p
theorem frLt {h₀ h : Heap} {L : Addr} {m : Str → Option Value} (F : Fr h₀ L h m) : @LT.lt Nat _ L h.objs.size := F.ns.lt

end

section
structure DictGN (w : World) (ob : Obj) (y : Str) : Prop where
  out : ∃ kvs, ob.IsDictOf (strKind pg w) kvs ∧ (∃ t, valueAt kvs "gap" = some (.str "..." t)) ∧ ∃ t, valueAt kvs "name" = some (.str y t)
structure MFacts (m : Str → Option Value) (sl nl al nds gr : Addr) : Prop where
  m1 : m "signs" = some (.ref sl)
  m2 : m "names" = some (.ref nl)
  m3 : m "around" = some (.ref al)
  m4 : m "nodes" = some (.ref nds)
  m5 : m "ground" = some (.ref gr)
def parG (gr : Addr) (_ : List Value) (_ : Int) (nd : Node) : Prop := gr = nd.f
def parN (_ : Addr) (nodes : List Value) (j : Int) (nd : Node) : Prop := 0 ≤ j ∧ nodes[j.toNat]? = some (.ref nd.f)
def TurnSlim (w : World) (k : Int) (kn : Nat) (par : Addr → List Value → Int → Node → Prop) : Prop :=
   ∀ (mg mb : Str → Option Value) (nd : Node) (tg at0 : Value) (items : List Value) (n : Nat) (c1 c2 : Addr) (oc2 : Obj) (vs2 : Array Value) (t2 : Tok)
   (_ : nd.Ok tg at0) (_ : oc2.data = .fields vs2) (_ : vs2[1]? = some (.str lamQ t2)) (_ : @LT.lt Nat _ c2 nd.ce ∨ @LT.lt Nat _ nd.l c2 ∧ @LT.lt Nat _ c2 nd.f2) (_ : items.length ≤ 90)
   (_ : @LT.lt Nat _ 95 nd.ce) (_ : @LT.lt Nat _ 95 c2) (_ : @LT.lt Nat _ 138 nd.ce)
   (p : Program) (loose : List Str) (mean : ExcName → Option Value) (dp un : Nat) (gd : Option (List Code)) (a : Addr) (ccd : Value) (cl : List (Str × Addr)) (outer : List Env) (A₀ : Around) (base h₀ : Heap) (L : Addr) (m : Str → Option Value) (Q : Flow → Shared → Prop) (E : Value → Shared → Prop)
   (hp : Heap) (gn : _) (dr : _) (tk0 : Nat) (os : _)
   (sl nl al nds gr : Addr) (S NN AA : List Value) (x y : Str) (j : Int) (u v b : Tok) (nodes : List Value) (nn z1 z2 z3 : Nat) (rest : List (Addr × Obj)) (tk : Tok)
   (_ : Below A₀ base outer h₀) (_ : Fr h₀ L hp (fun y => if y = "k" then some (.int k tk) else m y)) (_ : MFacts m sl nl al nds gr) (_ : (hd.heap_39 w.params).In h₀)
   (_ : News h₀ L hp (nd.led (pmOf mg) c2 items n ++ (nds, listOf nodes.toArray nn) :: (c2, oc2) :: (95, tabFull c1 c2) :: rest))
   (_ : (sl, listOf S.toArray z1) ∈ rest) (_ : (nl, listOf NN.toArray z2) ∈ rest) (_ : (al, listOf AA.toArray z3) ∈ rest) (_ : S.length ≤ 100) (_ : NN.length ≤ 100) (_ : AA.length ≤ 100)
   (_ : S[kn]? = some (.str x u)) (_ : NN[kn]? = some (.str y v)) (_ : AA[kn]? = some (.int j b))
   (_ : Top p loose mean mg mb h₀) (_ : CodeHd base 99 95) (_ : dp + 8 < recursionLimit) (_ : un + 60 < cLine)
   (_ : RNe rest nd.f2) (_ : RNe rest nd.f) (_ : RNe rest nd.dx) (_ : RNe rest nd.l) (_ : RNe rest nd.ce) (_ : RNe rest nds) (_ : RNe rest c2) (_ : RNe rest 95)
   (_ : par gr nodes j nd) (_ : nodes.length ≤ 10) (_ : NeL nds [nd.f2, nd.f, nd.dx, nd.l, nd.ce]) (_ : @LT.lt Nat _ 138 nds) (_ : @LT.lt Nat _ 95 nds) (_ : @LT.lt Nat _ c2 nds)
   (_ : ∀ (tk' : Nat) (h' : Heap) (m' : Str → Option Value) (nd' : Node) (D : Addr) (ob : Obj), Fr h₀ L h' m' → MFacts m' sl nl al nds gr →
     News h₀ L h' (nd'.led (pmOf mg) c2 [] 0 ++ (D, ob) :: nd.led (pmOf mg) c2 (items ++ [.ref nd'.f]) (n + 1) ++ (nds, listOf (nodes ++ [Value.ref nd'.f]).toArray (nn + 1)) :: (c2, oc2) :: (95, tabFull c1 c2) :: rest) →
     nd'.Ok (.str x u) (.ref D) → DictGN w ob y →
     (∀ q ∈ rest, @LT.lt Nat _ q.1 D) → @LT.lt Nat _ nd.f2 D → @LT.lt Nat _ c2 D → @LT.lt Nat _ nds D → @LT.lt Nat _ D nd'.ce → Q .next { heap := h', gens := gn, drawn := dr, toks := tk', os := os }),
   wpAny (model pg w) (ktrTop dp un gd "_law_document" (docScope w) L a ccd cl outer) (execs docBody (envOf "_law_document" (docScope w) L 107 (.ref 106))) Q E { heap := hp, gens := gn, drawn := dr, toks := tk0, os := os }
theorem RNe.consR {rest : List (Addr × Obj)} {q : Addr × Obj} {x : Addr} (h : q.1 ≠ x) (r : RNe rest x) : RNe (q :: rest) x := ⟨fun p hp => (List.mem_cons.mp hp).elim (fun e => e ▸ h) (r.ne p)⟩
theorem Split.dropG {as : List Addr} {a : Addr} {t1 t2 : Tok} {news rest : List (Addr × Obj)} (h : Split as news rest) : Split as ((a, listOf #[.int 0 t1, .int 3 t2] 0) :: news) rest := .drop h

end

section
theorem su61tail_1 : True := by
  w_top off
  (k_with "MemR" => ((fail_if_success k_extra "e41"); (first | exact List.mem_cons_self | with_reducible assumption | (refine' List.mem_cons_of_mem _ ?az41; (case az41 => k_extra "MemR")))))
  (k_with "Tail" => ((fail_if_success k_extra "e42"); (first | exact TailOf.refl | (refine' TailOf.cons ?az42; (case az42 => k_extra "Tail")))))
  (k_with "RNe" => ((fail_if_success k_extra "e43"); (first | assumption | (refine' RNe.of_ltl _ ?hz43 ?ez43; (case hz43 => with_reducible assumption); (case ez43 => k_extra "SEG")))))
  (k_with "k_all" => ((fail_if_success k_extra "e44"); (first | exact List.forall_mem_nil _ | (refine' RNe.ne ?rz44; (case rz44 => k_extra "RNe")) | (refine' List.forall_mem_cons.mpr ⟨?az44, ?bz44⟩; (case az44 => k_ne); (case bz44 => k_extra "k_all")))))
  (k_with "RNeAll" => ((fail_if_success k_extra "e45"); (first | exact List.forall_mem_nil _ | (refine' List.forall_mem_cons.mpr ⟨?az45, ?bz45⟩; (case az45 => k_extra "RNe"); (case bz45 => k_extra "RNeAll")))))
  (k_with "Split2" => ((fail_if_success k_extra "e46"); (first | exact Split.nil | ((with_reducible refine' Split.dropG ?bz46); (case bz46 => k_extra "Split2")) | (refine' Split.dropM ?az46 ?bz46; (case az46 => with_reducible k_mem); (case bz46 => k_extra "Split2")) | (refine' Split.keep ?az46 ?bz46; (case az46 => k_extra "NotIn"); (case bz46 => k_extra "Split2")) | (refine' Split.drop ?bz46; (case bz46 => k_extra "Split2")) | (refine' Split.tail ?az46; (case az46 => k_extra "RNeAll")))))
  (k_with "MemAll2" => ((fail_if_success k_extra "e47"); (first | exact List.forall_mem_nil _ | (refine' List.forall_mem_cons.mpr ⟨?az47, ?bz47⟩; (case az47 => k_mem); (case bz47 => k_extra "MemAll2")) | (refine' memAll_tail ?az47; (case az47 => k_extra "Tail")))))
  (k_with "call builtin:len" => ((fail_if_success k_extra "e48"); ((k_here; (with_reducible show wpAny _ _ (call (Value.builtin "len") [Value.ref _]) _ _ _); k_dflt (first | (refine' lenS1 ?Nz48 ?mz48 ?zz48 ?_; (case Nz48 => k_asm); (case mz48 => k_mem); (case zz48 => omega); k_whole) | (refine' lenS ?Nz48 ?mz48 ?zz48 ?_; (case Nz48 => k_asm); (case mz48 => k_mem); (case zz48 => omega); k_whole))))))
  (k_with "call ref" => ((fail_if_success k_extra "e49"); ((k_here; kn_here; (with_reducible show wpAny _ _ (call (Value.ref 23) [_, _, _] []) _ _ _); k_dflt (refine' HC.atO (sub_g0 _ _ _ _ _ _ _ _ _ _ _ _ _ _ _ _ _ ?a1z49 ?a2z49 ?a3z49 ?a4z49 ?a5z49 ?a6z49 ?a7z49 ?a8z49 ?a9z49 ?b1z49 ?b2z49) out34 ?Bz49 ?Fz49 ?Xz49 ?Nz49 ?Tz49 ?kz49 ?Gz49 ?dz49 ?uz49 ?rz49 ?sz49 ?_; (case a1z49 => assumption); (case Bz49 => k_asm); (case Fz49 => k_asm); (case Xz49 => k_asm); (case Nz49 => k_asm); (case Tz49 => k_asm); (case kz49 => first | exact rfl | assumption); (case Gz49 => assumption); (case rz49 => ((try simp only [Node.led, List.cons_append, List.nil_append]); k_extra "MemAll2")); (case a6z49 => assumption); (case a2z49 => assumption); (case a3z49 => assumption); (case sz49 => k_extra "Split2"); (case a4z49 => omega); (case a5z49 => first | omega | exact Nat.le_of_ble_eq_true rfl); (case a7z49 => first | exact Nat.le_of_ble_eq_true rfl | (simp only [List.length_cons, List.length_nil]; omega)); (case a8z49 => omega); (case a9z49 => omega); (case b1z49 => omega); (case b2z49 => omega); (case dz49 => ktr_room); (case uz49 => ktr_units); k_whole); intro h' tk' F' l1 nd' D' ob' ok' hob' l2' l3' N'; have oA' := ok'.cell; have oB' := ok'.tag; have oC' := ok'.attrib; have oD' := ok'.inner; have oE' := ok'.make; have oF' := ok'.app; have rA' := ok'.o1; have rB' := ok'.o2; have rC' := ok'.o3; have rD' := ok'.o4; (try dsimp only at l2'); (try dsimp only [Node.led, List.cons_append, List.nil_append] at N'); (try k_lt l1); (try dsimp only)))))
  (k_with "call ref" => ((fail_if_success k_extra "e50"); ((k_here; kn_here; (with_reducible show wpAny _ _ (call (Value.ref 23) [_, _, _] _) _ _ _); k_dflt (show wpAny _ _ (call (Value.ref 23) [_, _, _] [("gap", _)]) _ _ _); k_dflt (refine' HC.atO (sub_g1 _ _ _ _ _ _ _ _ _ _ _ _ _ _ _ _ _ _ ?a1z50 ?a2z50 ?a3z50 ?a4z50 ?a5z50 ?a6z50 ?a7z50 ?a8z50 ?a9z50 ?b1z50 ?b2z50) out34 ?Bz50 ?Fz50 ?Xz50 ?Nz50 ?Tz50 ?kz50 ?Gz50 ?dz50 ?uz50 ?rz50 ?sz50 ?_; (case a1z50 => assumption); (case Bz50 => k_asm); (case Fz50 => k_asm); (case Xz50 => k_asm); (case Nz50 => k_asm); (case Tz50 => k_asm); (case kz50 => first | exact rfl | assumption); (case Gz50 => assumption); (case rz50 => ((try simp only [Node.led, List.cons_append, List.nil_append]); k_extra "MemAll2")); (case a6z50 => assumption); (case a2z50 => assumption); (case a3z50 => assumption); (case sz50 => k_extra "Split2"); (case a4z50 => omega); (case a5z50 => first | omega | exact Nat.le_of_ble_eq_true rfl); (case a7z50 => first | exact Nat.le_of_ble_eq_true rfl | (simp only [List.length_cons, List.length_nil]; omega)); (case a8z50 => omega); (case a9z50 => omega); (case b1z50 => omega); (case b2z50 => omega); (case dz50 => ktr_room); (case uz50 => ktr_units); k_whole); intro h' tk' F' l1 nd' D' ob' ok' hob' l2' l3' N'; have oA' := ok'.cell; have oB' := ok'.tag; have oC' := ok'.attrib; have oD' := ok'.inner; have oE' := ok'.make; have oF' := ok'.app; have rA' := ok'.o1; have rB' := ok'.o2; have rC' := ok'.o3; have rD' := ok'.o4; (try dsimp only at l2'); (try dsimp only [Node.led, List.cons_append, List.nil_append] at N'); (try k_lt l1); (try dsimp only)))))
  (k_with "call ref" => ((fail_if_success k_extra "e51"); ((k_here; kn_here; (with_reducible show wpAny _ _ (call (Value.ref 23) [_, _] []) _ _ _); k_dflt (refine' HC.atO (sub_k0 _ _ _ _ _ _ _ _ _ _ _ _ _ _ ?a1z51 ?a2z51 ?a3z51 ?a4z51 ?a5z51 ?b1z51 ?b2z51) out34 ?Bz51 ?Fz51 ?Xz51 ?Nz51 ?Tz51 ?kz51 ?Gz51 ?dz51 ?uz51 ?rz51 ?sz51 ?_; (case a1z51 => assumption); (case Bz51 => k_asm); (case Fz51 => k_asm); (case Xz51 => k_asm); (case Nz51 => k_asm); (case Tz51 => k_asm); (case kz51 => first | exact rfl | assumption); (case Gz51 => assumption); (case rz51 => ((try simp only [Node.led, List.cons_append, List.nil_append]); k_extra "MemAll2")); (case a2z51 => assumption); (case a3z51 => assumption); (case sz51 => k_extra "Split2"); (case a4z51 => omega); (case a5z51 => first | omega | exact Nat.le_of_ble_eq_true rfl); (case b1z51 => omega); (case b2z51 => omega); (case dz51 => ktr_room); (case uz51 => ktr_units); k_whole); intro h' tk' F' l1 nd' D' ob' ok' hob' l2' l3' N'; have oA' := ok'.cell; have oB' := ok'.tag; have oC' := ok'.attrib; have oD' := ok'.inner; have oE' := ok'.make; have oF' := ok'.app; have rA' := ok'.o1; have rB' := ok'.o2; have rC' := ok'.o3; have rD' := ok'.o4; (try dsimp only at l2'); (try dsimp only [Node.led, List.cons_append, List.nil_append] at N'); (try k_lt l1); (try dsimp only)))))
  (k_with "call ref" => ((fail_if_success k_extra "e52"); ((k_here; kn_here; (with_reducible show wpAny _ _ (call (Value.ref 23) [_, _] _) _ _ _); k_dflt (show wpAny _ _ (call (Value.ref 23) [_, _] [("gap", _), ("name", _)]) _ _ _); k_dflt (refine' HC.atO (sub_k2 _ _ _ _ _ _ _ _ _ _ _ _ _ _ _ _ ?a1z52 ?a2z52 ?a3z52 ?a4z52 ?a5z52 ?b1z52 ?b2z52) out34 ?Bz52 ?Fz52 ?Xz52 ?Nz52 ?Tz52 ?kz52 ?Gz52 ?dz52 ?uz52 ?rz52 ?sz52 ?_; (case a1z52 => assumption); (case Bz52 => k_asm); (case Fz52 => k_asm); (case Xz52 => k_asm); (case Nz52 => k_asm); (case Tz52 => k_asm); (case kz52 => first | exact rfl | assumption); (case Gz52 => assumption); (case rz52 => ((try simp only [Node.led, List.cons_append, List.nil_append]); k_extra "MemAll2")); (case a2z52 => assumption); (case a3z52 => assumption); (case sz52 => k_extra "Split2"); (case a4z52 => omega); (case a5z52 => first | omega | exact Nat.le_of_ble_eq_true rfl); (case b1z52 => omega); (case b2z52 => omega); (case dz52 => ktr_room); (case uz52 => ktr_units); k_whole); intro h' tk' F' l1 nd' D' ob' ok' hob' l2' l3' N'; have oA' := ok'.cell; have oB' := ok'.tag; have oC' := ok'.attrib; have oD' := ok'.inner; have oE' := ok'.make; have oF' := ok'.app; have rA' := ok'.o1; have rB' := ok'.o2; have rC' := ok'.o3; have rD' := ok'.o4; (try dsimp only at l2'); (try dsimp only [Node.led, List.cons_append, List.nil_append] at N'); (try k_lt l1); (try dsimp only)))))
  (k_with "call ref" => ((fail_if_success k_extra "e53"); ((k_here; kn_here; (with_reducible show wpAny _ _ (call (Value.ref 23) [_, _] _) _ _ _); k_dflt (show wpAny _ _ (call (Value.ref 23) [_, _] [("gap", _), ("name", _), ("more", _)]) _ _ _); k_dflt (refine' HC.atO (sub_k3 _ _ _ _ _ _ _ _ _ _ _ _ _ _ _ _ _ ?a1z53 ?a2z53 ?a3z53 ?a4z53 ?a5z53 ?b1z53 ?b2z53) out34 ?Bz53 ?Fz53 ?Xz53 ?Nz53 ?Tz53 ?kz53 ?Gz53 ?dz53 ?uz53 ?rz53 ?sz53 ?_; (case a1z53 => assumption); (case Bz53 => k_asm); (case Fz53 => k_asm); (case Xz53 => k_asm); (case Nz53 => k_asm); (case Tz53 => k_asm); (case kz53 => first | exact rfl | assumption); (case Gz53 => assumption); (case rz53 => ((try simp only [Node.led, List.cons_append, List.nil_append]); k_extra "MemAll2")); (case a2z53 => assumption); (case a3z53 => assumption); (case sz53 => k_extra "Split2"); (case a4z53 => omega); (case a5z53 => first | omega | exact Nat.le_of_ble_eq_true rfl); (case b1z53 => omega); (case b2z53 => omega); (case dz53 => ktr_room); (case uz53 => ktr_units); k_whole); intro h' tk' F' l1 nd' D' ob' ok' hob' l2' l3' N'; have oA' := ok'.cell; have oB' := ok'.tag; have oC' := ok'.attrib; have oD' := ok'.inner; have oE' := ok'.make; have oF' := ok'.app; have rA' := ok'.o1; have rB' := ok'.o2; have rC' := ok'.o3; have rD' := ok'.o4; (try dsimp only at l2'); (try dsimp only [Node.led, List.cons_append, List.nil_append] at N'); (try k_lt l1); (try dsimp only)))))
  (k_with "compareOp NotEq str str" => ((fail_if_success k_extra "e54"); ((k_here; k_dflt (refine neSame ?_)))))
  (k_with "Hits" => ((fail_if_success k_extra "e55"); (first | exact KeqHits.nil | (refine' hitS ?vz55 ?rz55; (case vz55 => exact rfl); (case rz55 => k_extra "Hits")))))
  (k_with "compareOp NotEq ref ref" => ((fail_if_success k_extra "e56"); ((k_here; (with_reducible show wpAny _ _ (compareOp CmpOp.NotEq (Value.ref _) (Value.ref _)) _ _ _); k_dflt (refine' dictSame ?haz56 ?hbz56 ?daz56 ?dbz56 ?hlz56 ?hitsz56 ?huz56 ?_; (case daz56 => k_extra "DictOfAt"); (case dbz56 => k_extra "DictOfAt"); (case haz56 => k_extra "NotMods"); (case hbz56 => k_extra "NotMods"); (case hlz56 => first | assumption | exact rfl); (case hitsz56 => k_extra "Hits"); (case huz56 => ktr_units); k_whole)))))
  (k_with "compareOp Is ref ref" => ((fail_if_success k_extra "e57"); ((k_here; (with_reducible show wpAny _ _ (compareOp CmpOp.Is (Value.ref _) (Value.ref _)) _ _ _); k_dflt (refine' isDict ?nz57 ?daz57 ?dbz57 ?_; (case daz57 => k_extra "DictOfAt"); (case dbz57 => k_extra "DictOfAt"); (case nz57 => kto_ne); k_whole)))))
  (k_with "subscriptTail Name Name ref int" => ((fail_if_success k_extra "e58"); ((k_here; k_dflt (refine' subAtI ?Nz58 ?mz58 ?az58 ?xz58 ?zz58 ?_; (case Nz58 => k_asm); (case mz58 => with_reducible k_extra "MemR"); (case az58 => first | decide | assumption); (case xz58 => first | exact rfl | assumption); (case zz58 => first | exact Nat.le_of_ble_eq_true rfl | assumption | omega); k_whole)))))
  (k_with "subscriptTail Name Constant ref int" => ((fail_if_success k_extra "e59"); ((k_here; k_dflt (refine' subAtI ?Nz59 ?mz59 ?az59 ?xz59 ?zz59 ?_; (case Nz59 => k_asm); (case mz59 => with_reducible k_extra "MemR"); (case az59 => first | decide | assumption); (case xz59 => first | exact rfl | assumption); (case zz59 => first | exact Nat.le_of_ble_eq_true rfl | assumption | omega); k_whole)))))
  (k_with "subscriptTail Name Subscript ref int" => ((fail_if_success k_extra "e60"); ((k_here; k_dflt (refine' subAtI ?Nz60 ?mz60 ?az60 ?xz60 ?zz60 ?_; (case Nz60 => k_asm); (case mz60 => with_reducible k_extra "MemR"); (case az60 => first | decide | assumption); (case xz60 => first | exact rfl | assumption); (case zz60 => first | exact Nat.le_of_ble_eq_true rfl | assumption | omega); k_whole)))))
  (k_with "subscriptTail Name UnaryOp ref int" => ((fail_if_success k_extra "e61"); ((k_here; (with_reducible show wpAny _ _ (subscriptTail _ _ (Value.ref _) (Value.int (-1) _)) _ _ _); k_dflt (refine' subLast ?Nz61 ?mz61 ?zz61 ?_; (case Nz61 => k_asm); (case mz61 => with_reducible k_extra "MemR"); (case zz61 => omega); k_whole)))))
  (k_with "compareOp NotEq int int" => ((fail_if_success k_extra "e62"); ((k_here; k_dflt (refine neInt ?_)))))
  (k_with "newList" => ((fail_if_success k_extra "e63"); ((k_here; k_dflt (refine' newList_K ?k1z63 ?k2z63 ?_ ?zz63; (case k1z63 => k_asm); (case k2z63 => k_asm); (case zz63 => exact Nat.le_of_ble_eq_true rfl); k_whole); intro l' h' F' N' l1; (try k_lt l1); (try k_sweep)))))
  (k_with "call builtin:list.append" => ((fail_if_success k_extra "e64"); ((k_here; (with_reducible show wpAny _ _ (call (Value.builtin _) [Value.ref _, _]) _ _ _); k_dflt (refine' append_K ?k1z64 ?k2z64 ?k3z64 ?_ ?zz64; (case k1z64 => k_asm); (case k2z64 => k_asm); (case k3z64 => k_upd); (case zz64 => exact toArr_size (by omega)); k_whole); intro h' F' N'; (try k_sweep)))))
  (k_with "UF" => ((fail_if_success k_extra "e65"); (first | (refine' UpdF.head ?az65; (case az65 => k_extra "KA")) | (refine' UpdF.tail ?az65 ?bz65; (case az65 => k_ne); (case bz65 => k_extra "UF")))))
  (k_with "KA" => ((fail_if_success k_extra "e66"); (first | exact List.forall_mem_nil _ | (refine' List.forall_mem_cons.mpr ⟨?az66, ?bz66⟩; (case az66 => k_ne); (case bz66 => k_extra "KA")) | exact RNe.ne (by k_extra "RNe"))))
  (k_with "setItem ref str" => ((fail_if_success k_extra "e67"); ((k_here; k_dflt (refine' setItemS ?Fz67 ?Nz67 ?Uz67 ?dz67 ?zz67 ?_; (case Fz67 => k_asm); (case Nz67 => k_asm); (case Uz67 => k_extra "UF"); (case dz67 => assumption); (case zz67 => first | exact Nat.le_of_ble_eq_true rfl | assumption | omega); k_whole); intro h' o' F' N' hd'; (try dsimp only at N'); (try k_sweep)))))
  (k_with "RLT" => ((fail_if_success k_extra "e68"); ((refine' restLtl _ ?xz68 ?hz68 ?ez68; (case xz68 => with_reducible assumption); (case hz68 => with_reducible assumption); (case ez68 => k_extra "SEG")))))
  (k_with "KdnMade" => ((fail_if_success k_extra "e69"); ((k_here; k_dflt (refine' kdn_made_strF ?Fz69 ?Nz69 ?Uz69 ?dz69 ?kz69 ?nz69 ?vz69 ?_; (case Fz69 => k_asm); (case Nz69 => k_asm); (case Uz69 => k_updF); (case dz69 => k_asm); (case kz69 => rfl); (case nz69 => exact of_decide_eq_true (by first | rfl | kernel_rfl!)); (case vz69 => rfl); intro h' o' F' N' hd' hf'); (try dsimp only at N'); (try dsimp only at hd'); (try dsimp only at hf'); (try dsimp only)))))
  (k_with "Hits" => ((fail_if_success k_extra "e70"); (first | exact q2 _ _ | exact q4 _ _)))
  trivial
theorem docTail (w : World) (mg mb : Str → Option Value) (nd nd' : Node) (tg at0 : Value) (items : List Value) (n : Nat) (c1 c2 : Addr) (oc2 : Obj) (ok : nd.Ok tg at0) (hsz : items.length ≤ 90)
   (p : Program) (loose : List Str) (mean : ExcName → Option Value) (dp un : Nat) (gd : Option (List Code)) (a : Addr) (ccd : Value) (cl : List (Str × Addr)) (outer : List Env) (A₀ : Around) (base h₀ : Heap) (L : Addr) (m : Str → Option Value) (Q : Flow → Shared → Prop) (E : Value → Shared → Prop)
   (hp : Heap) (gn : _) (dr : _) (tk0 : Nat) (os : _)
   (sl nl al nds gr D g kp du : Addr) (S : List Value) (x : Str) (k : Int) (u u' tkk ct : Tok) (nodes : List Value) (nn z1 : Nat) (rest : List (Addr × Obj)) (ob og okp odu : Obj) (kob kg kkp kdu : List (Str × Value))
   (B : Below A₀ base outer h₀) (F : Fr h₀ L hp m) (M : MFacts m sl nl al nds gr) (X : (hd.heap_39 w.params).In h₀)
   (mk : m "k" = some (.int k tkk)) (mo : m "outer" = some (.ref nd.f)) (mc : m "count" = some (.int items.length ct)) (mgv : m "given" = some (.ref g)) (mkp : m "kept" = some (.ref kp)) (mdu : m "due" = some (.ref du)) (mno : m "node" = some (.ref nd'.f))
   (N : News h₀ L hp (nd'.led (pmOf mg) c2 [] 0 ++ (D, ob) :: nd.led (pmOf mg) c2 (items ++ [.ref nd'.f]) (n + 1) ++ (nds, listOf nodes.toArray nn) :: (g, og) :: (kp, okp) :: (du, odu) :: (c2, oc2) :: (95, tabFull c1 c2) :: rest))
   (i1 : (sl, listOf S.toArray z1) ∈ rest) (g1 : S.length ≤ 100) (k0 : 0 ≤ k) (e1 : S[k.toNat]? = some (.str x u'))
   (T : Top p loose mean mg mb h₀) (HG : CodeHd base 99 95) (hdp : dp + 8 < recursionLimit) (hun : un + 60 < cLine) (ok' : nd'.Ok (.str x u) (.ref D))
   (d1 : ob.IsDictOf (strKind pg w) kob) (d2 : og.IsDictOf (strKind pg w) kg) (d3 : okp.IsDictOf (strKind pg w) kkp) (d4 : odu.IsDictOf (strKind pg w) kdu)
   (q1 : kob.length = kdu.length) (q2 : ∀ A s, KeqHits A s kdu kob true) (q3 : kg.length = kkp.length) (q4 : ∀ A s, KeqHits A s kkp kg true)
   (s1 : (D == sysModules) = false) (s2 : (g == sysModules) = false) (s3 : (kp == sysModules) = false) (s4 : (du == sysModules) = false) (hDg : D ≠ g)
   (hne : NeL nds [nd'.f2, nd'.f, nd'.dx, nd'.l, nd'.ce, D, nd.f2, nd.f, nd.dx, nd.l, nd.ce, g, kp, du, c2, 95]) (r6 : RNe rest nds) (hnl : nodes.length ≤ 10)
   (K : ∀ (tk' : Nat) (h' : Heap) (m' : Str → Option Value), Fr h₀ L h' m' → MFacts m' sl nl al nds gr →
     News h₀ L h' (nd'.led (pmOf mg) c2 [] 0 ++ (D, ob) :: nd.led (pmOf mg) c2 (items ++ [.ref nd'.f]) (n + 1) ++ (nds, listOf (nodes ++ [Value.ref nd'.f]).toArray (nn + 1)) :: (c2, oc2) :: (95, tabFull c1 c2) :: rest) →
     Q .next { heap := h', gens := gn, drawn := dr, toks := tk', os := os }) :
   wpAny (model pg w) (ktrTop dp un gd "_law_document" (docScope w) L a ccd cl outer) (execs (docBody.drop 6) (envOf "_law_document" (docScope w) L 107 (.ref 106))) Q E { heap := hp, gens := gn, drawn := dr, toks := tk0, os := os } := by
  obtain ⟨m1, m2, m3, m4, m5⟩ := M
  have b1 : docBody.drop 6 = [_, _, _] := rfl
  have b2 : docScope w = Scope.mk _ _ _ _ _ := rfl
  rw [b1, b2]
  have o1 := ok.cell
  have o2 := ok.tag
  have o3 := ok.attrib
  have o4 := ok.inner
  have o5 := ok.make
  have o6 := ok.app
  have w1 := ok'.cell
  have w2 := ok'.tag
  have w3 := ok'.attrib
  have w4 := ok'.inner
  have w5 := ok'.make
  have w6 := ok'.app
  have F := Mine.Fr.pin (Mine.Fr.pin (Mine.Fr.pin (Mine.Fr.pin (Mine.Fr.pin F (x := "signs") m1) (x := "names") m2) (x := "around") m3) (x := "nodes") m4) (x := "ground") m5
  have F := Mine.Fr.pin (Mine.Fr.pin (Mine.Fr.pin (Mine.Fr.pin (Mine.Fr.pin (Mine.Fr.pin (Mine.Fr.pin F (x := "k") mk) (x := "outer") mo) (x := "count") mc) (x := "given") mgv) (x := "kept") mkp) (x := "due") mdu) (x := "node") mno
  dsimp only [Node.led, List.cons_append, List.nil_append] at N
  k_steps
  (with_reducible rename News _ _ _ _ => kN)
  try simp only [List.push_toArray] at kN
  refine' K _ _ _ ?F ⟨?m1, ?m2, ?m3, ?m4, ?m5⟩ (Newss.sub kN ?N)
  case F => k_asm
  case m1 => first | rfl | assumption
  case m2 => first | rfl | assumption
  case m3 => first | rfl | assumption
  case m4 => first | rfl | assumption
  case m5 => first | rfl | assumption
  case N =>
    k_dflt (simp only [Node.led, List.cons_append, List.nil_append, List.append_assoc])
    k_dflt (k_extra "MemAll2")

end

section
theorem su61turn0_1 : True := by
  w_top off
  (k_with "e70" => skip)
  trivial
theorem turn_0 (w : World) : TurnSlim w 0 0 parG := by
  intro mg mb nd tg at0 items n c1 c2 oc2 vs2 t2 ok hd2 hv2 hc hsz h95 h952 h100 p loose mean dp un gd a ccd cl outer A₀ base h₀ L m Q E hp gn dr tk0 os sl nl al nds gr S NN AA x y j u v b nodes nn z1 z2 z3 rest tk B F ⟨m1, m2, m3, m4, m5⟩ X N i1 i2 i3 g1 g2 g3 e1 e2 e3 T HG hdp hun r1 r2 r3 r4 r5 r6 r7 r8 hout hnl hne p7 p95 p9 K
  have b1 : docBody = _ :: _ :: _ :: _ :: _ :: _ :: docBody.drop 6 := rfl
  have b2 : docScope w = Scope.mk _ _ _ _ _ := rfl
  rw [b1, b2]
  generalize htl : docBody.drop 6 = tl
  have o1 := ok.cell
  have o2 := ok.tag
  have o3 := ok.attrib
  have o4 := ok.inner
  have o5 := ok.make
  have o6 := ok.app
  have F := Mine.Fr.pin (Mine.Fr.pin (Mine.Fr.pin (Mine.Fr.pin (Mine.Fr.pin F (x := "signs") m1) (x := "names") m2) (x := "around") m3) (x := "nodes") m4) (x := "ground") m5
  have hout : gr = nd.f := hout
  subst hout
  dsimp only [Node.led, List.cons_append, List.nil_append] at N
  k_steps
  subst htl
  (with_reducible rename Fr _ _ _ _ => kF)
  (with_reducible rename News _ _ _ _ => kN)
  refine' docTail w mg mb nd _ tg at0 items n c1 c2 oc2 ok hsz p loose mean dp un gd a ccd cl outer A₀ base h₀ L _ Q E _ gn dr _ os sl nl al nds _ _ _ _ _ S x 0 _ u _ _ nodes nn z1 rest _ _ _ _ _ _ _ _ B kF ⟨?m1, ?m2, ?m3, ?m4, ?m5⟩ X ?nk ?no ?nc ?ng ?nx ?nu ?nn (Newss.sub kN ?N) i1 g1 (by decide) e1 T HG hdp hun ?ok ?d1 ?d2 ?d3 ?d4 ?q1 ?q2 ?q3 ?q4 ?s1 ?s2 ?s3 ?s4 ?Dg ?ne r6 hnl ?K
  case m1 => first | rfl | assumption
  case m2 => first | rfl | assumption
  case m3 => first | rfl | assumption
  case m4 => first | rfl | assumption
  case m5 => first | rfl | assumption
  case nk => rfl
  case no => rfl
  case nc => rfl
  case ng => rfl
  case nx => rfl
  case nu => rfl
  case nn => rfl
  case ok => with_reducible assumption
  case N =>
    k_dflt (simp only [Node.led, List.cons_append, List.nil_append, List.append_assoc])
    k_dflt (k_extra "MemAll2")
  case d1 => assumption
  case d2 => assumption
  case d3 => assumption
  case d4 => assumption
  case q1 => rfl
  case q2 =>
    intro A s
    k_dflt (k_extra "Hits")
  case q3 => rfl
  case q4 =>
    intro A s
    k_dflt (k_extra "Hits")
  case s1 => k_dflt (k_extra "NotMods")
  case s2 => k_dflt (k_extra "NotMods")
  case s3 => k_dflt (k_extra "NotMods")
  case s4 => k_dflt (k_extra "NotMods")
  case Dg => k_ne
  case ne => repeat (first | exact trivial | (refine And.intro (by k_ne) ?_))
  case K =>
    intro tk' h' m' F' M' N'
    refine' K _ _ _ _ _ _ F' M' N' ?ok ⟨_, ?ob, ?u1, ?u2⟩ ?l1 ?l2 ?l3 ?l4 ?l5
    case ok => assumption
    case ob => assumption
    case u1 => exact ⟨_, rfl⟩
    case u2 => exact ⟨_, rfl⟩
    case l1 => k_extra "RLT"
    case l2 => first | k_extra "LT" | omega
    case l3 => first | k_extra "LT" | omega
    case l4 => first | k_extra "LT" | omega
    case l5 => assumption

end

section
theorem su61turn1_1 : True := by
  w_top off
  trivial
theorem turn_1 (w : World) : TurnSlim w 1 1 parN := by
  intro mg mb nd tg at0 items n c1 c2 oc2 vs2 t2 ok hd2 hv2 hc hsz h95 h952 h100 p loose mean dp un gd a ccd cl outer A₀ base h₀ L m Q E hp gn dr tk0 os sl nl al nds gr S NN AA x y j u v b nodes nn z1 z2 z3 rest tk B F ⟨m1, m2, m3, m4, m5⟩ X N i1 i2 i3 g1 g2 g3 e1 e2 e3 T HG hdp hun r1 r2 r3 r4 r5 r6 r7 r8 hout hnl hne p7 p95 p9 K
  have b1 : docBody = _ :: _ :: _ :: _ :: _ :: _ :: docBody.drop 6 := rfl
  have b2 : docScope w = Scope.mk _ _ _ _ _ := rfl
  rw [b1, b2]
  generalize htl : docBody.drop 6 = tl
  have o1 := ok.cell
  have o2 := ok.tag
  have o3 := ok.attrib
  have o4 := ok.inner
  have o5 := ok.make
  have o6 := ok.app
  have F := Mine.Fr.pin (Mine.Fr.pin (Mine.Fr.pin (Mine.Fr.pin (Mine.Fr.pin F (x := "signs") m1) (x := "names") m2) (x := "around") m3) (x := "nodes") m4) (x := "ground") m5
  obtain ⟨hj0, hj⟩ : 0 ≤ j ∧ nodes[j.toNat]? = some (.ref nd.f) := hout
  dsimp only [Node.led, List.cons_append, List.nil_append] at N
  k_steps
  subst htl
  (with_reducible rename Fr _ _ _ _ => kF)
  (with_reducible rename News _ _ _ _ => kN)
  refine' docTail w mg mb nd _ tg at0 items n c1 c2 oc2 ok hsz p loose mean dp un gd a ccd cl outer A₀ base h₀ L _ Q E _ gn dr _ os sl nl al nds _ _ _ _ _ S x 1 _ u _ _ nodes nn z1 rest _ _ _ _ _ _ _ _ B kF ⟨?m1, ?m2, ?m3, ?m4, ?m5⟩ X ?nk ?no ?nc ?ng ?nx ?nu ?nn (Newss.sub kN ?N) i1 g1 (by decide) e1 T HG hdp hun ?ok ?d1 ?d2 ?d3 ?d4 ?q1 ?q2 ?q3 ?q4 ?s1 ?s2 ?s3 ?s4 ?Dg ?ne r6 hnl ?K
  case m1 => first | rfl | assumption
  case m2 => first | rfl | assumption
  case m3 => first | rfl | assumption
  case m4 => first | rfl | assumption
  case m5 => first | rfl | assumption
  case nk => rfl
  case no => rfl
  case nc => rfl
  case ng => rfl
  case nx => rfl
  case nu => rfl
  case nn => rfl
  case ok => with_reducible assumption
  case N =>
    k_dflt (simp only [Node.led, List.cons_append, List.nil_append, List.append_assoc])
    k_dflt (k_extra "MemAll2")
  case d1 => assumption
  case d2 => assumption
  case d3 => assumption
  case d4 => assumption
  case q1 => rfl
  case q2 =>
    intro A s
    k_dflt (k_extra "Hits")
  case q3 => rfl
  case q4 =>
    intro A s
    k_dflt (k_extra "Hits")
  case s1 => k_dflt (k_extra "NotMods")
  case s2 => k_dflt (k_extra "NotMods")
  case s3 => k_dflt (k_extra "NotMods")
  case s4 => k_dflt (k_extra "NotMods")
  case Dg => k_ne
  case ne => repeat (first | exact trivial | (refine And.intro (by k_ne) ?_))
  case K =>
    intro tk' h' m' F' M' N'
    refine' K _ _ _ _ _ _ F' M' N' ?ok ⟨_, ?ob, ?u1, ?u2⟩ ?l1 ?l2 ?l3 ?l4 ?l5
    case ok => assumption
    case ob => assumption
    case u1 => exact ⟨_, rfl⟩
    case u2 => exact ⟨_, rfl⟩
    case l1 => k_extra "RLT"
    case l2 => first | k_extra "LT" | omega
    case l3 => first | k_extra "LT" | omega
    case l4 => first | k_extra "LT" | omega
    case l5 => assumption

end

section
theorem su61turn2_1 : True := by
  w_top off
  trivial
theorem turn_2 (w : World) : TurnSlim w 2 2 parN := by
  intro mg mb nd tg at0 items n c1 c2 oc2 vs2 t2 ok hd2 hv2 hc hsz h95 h952 h100 p loose mean dp un gd a ccd cl outer A₀ base h₀ L m Q E hp gn dr tk0 os sl nl al nds gr S NN AA x y j u v b nodes nn z1 z2 z3 rest tk B F ⟨m1, m2, m3, m4, m5⟩ X N i1 i2 i3 g1 g2 g3 e1 e2 e3 T HG hdp hun r1 r2 r3 r4 r5 r6 r7 r8 hout hnl hne p7 p95 p9 K
  have b1 : docBody = _ :: _ :: _ :: _ :: _ :: _ :: docBody.drop 6 := rfl
  have b2 : docScope w = Scope.mk _ _ _ _ _ := rfl
  rw [b1, b2]
  generalize htl : docBody.drop 6 = tl
  have o1 := ok.cell
  have o2 := ok.tag
  have o3 := ok.attrib
  have o4 := ok.inner
  have o5 := ok.make
  have o6 := ok.app
  have F := Mine.Fr.pin (Mine.Fr.pin (Mine.Fr.pin (Mine.Fr.pin (Mine.Fr.pin F (x := "signs") m1) (x := "names") m2) (x := "around") m3) (x := "nodes") m4) (x := "ground") m5
  obtain ⟨hj0, hj⟩ : 0 ≤ j ∧ nodes[j.toNat]? = some (.ref nd.f) := hout
  dsimp only [Node.led, List.cons_append, List.nil_append] at N
  k_steps
  subst htl
  (with_reducible rename Fr _ _ _ _ => kF)
  (with_reducible rename News _ _ _ _ => kN)
  refine' docTail w mg mb nd _ tg at0 items n c1 c2 oc2 ok hsz p loose mean dp un gd a ccd cl outer A₀ base h₀ L _ Q E _ gn dr _ os sl nl al nds _ _ _ _ _ S x 2 _ u _ _ nodes nn z1 rest _ _ _ _ _ _ _ _ B kF ⟨?m1, ?m2, ?m3, ?m4, ?m5⟩ X ?nk ?no ?nc ?ng ?nx ?nu ?nn (Newss.sub kN ?N) i1 g1 (by decide) e1 T HG hdp hun ?ok ?d1 ?d2 ?d3 ?d4 ?q1 ?q2 ?q3 ?q4 ?s1 ?s2 ?s3 ?s4 ?Dg ?ne r6 hnl ?K
  case m1 => first | rfl | assumption
  case m2 => first | rfl | assumption
  case m3 => first | rfl | assumption
  case m4 => first | rfl | assumption
  case m5 => first | rfl | assumption
  case nk => rfl
  case no => rfl
  case nc => rfl
  case ng => rfl
  case nx => rfl
  case nu => rfl
  case nn => rfl
  case ok => with_reducible assumption
  case N =>
    k_dflt (simp only [Node.led, List.cons_append, List.nil_append, List.append_assoc])
    k_dflt (k_extra "MemAll2")
  case d1 => assumption
  case d2 => assumption
  case d3 => assumption
  case d4 => assumption
  case q1 => rfl
  case q2 =>
    intro A s
    k_dflt (k_extra "Hits")
  case q3 => rfl
  case q4 =>
    intro A s
    k_dflt (k_extra "Hits")
  case s1 => k_dflt (k_extra "NotMods")
  case s2 => k_dflt (k_extra "NotMods")
  case s3 => k_dflt (k_extra "NotMods")
  case s4 => k_dflt (k_extra "NotMods")
  case Dg => k_ne
  case ne => repeat (first | exact trivial | (refine And.intro (by k_ne) ?_))
  case K =>
    intro tk' h' m' F' M' N'
    refine' K _ _ _ _ _ _ F' M' N' ?ok ⟨_, ?ob, ?u1, ?u2⟩ ?l1 ?l2 ?l3 ?l4 ?l5
    case ok => assumption
    case ob => assumption
    case u1 => exact ⟨_, rfl⟩
    case u2 => exact ⟨_, rfl⟩
    case l1 => k_extra "RLT"
    case l2 => first | k_extra "LT" | omega
    case l3 => first | k_extra "LT" | omega
    case l4 => first | k_extra "LT" | omega
    case l5 => assumption

end

section
theorem su61turn3_1 : True := by
  w_top off
  trivial
theorem turn_3 (w : World) : TurnSlim w 3 3 parN := by
  intro mg mb nd tg at0 items n c1 c2 oc2 vs2 t2 ok hd2 hv2 hc hsz h95 h952 h100 p loose mean dp un gd a ccd cl outer A₀ base h₀ L m Q E hp gn dr tk0 os sl nl al nds gr S NN AA x y j u v b nodes nn z1 z2 z3 rest tk B F ⟨m1, m2, m3, m4, m5⟩ X N i1 i2 i3 g1 g2 g3 e1 e2 e3 T HG hdp hun r1 r2 r3 r4 r5 r6 r7 r8 hout hnl hne p7 p95 p9 K
  have b1 : docBody = _ :: _ :: _ :: _ :: _ :: _ :: docBody.drop 6 := rfl
  have b2 : docScope w = Scope.mk _ _ _ _ _ := rfl
  rw [b1, b2]
  generalize htl : docBody.drop 6 = tl
  have o1 := ok.cell
  have o2 := ok.tag
  have o3 := ok.attrib
  have o4 := ok.inner
  have o5 := ok.make
  have o6 := ok.app
  have F := Mine.Fr.pin (Mine.Fr.pin (Mine.Fr.pin (Mine.Fr.pin (Mine.Fr.pin F (x := "signs") m1) (x := "names") m2) (x := "around") m3) (x := "nodes") m4) (x := "ground") m5
  obtain ⟨hj0, hj⟩ : 0 ≤ j ∧ nodes[j.toNat]? = some (.ref nd.f) := hout
  dsimp only [Node.led, List.cons_append, List.nil_append] at N
  k_steps
  subst htl
  (with_reducible rename Fr _ _ _ _ => kF)
  (with_reducible rename News _ _ _ _ => kN)
  refine' docTail w mg mb nd _ tg at0 items n c1 c2 oc2 ok hsz p loose mean dp un gd a ccd cl outer A₀ base h₀ L _ Q E _ gn dr _ os sl nl al nds _ _ _ _ _ S x 3 _ u _ _ nodes nn z1 rest _ _ _ _ _ _ _ _ B kF ⟨?m1, ?m2, ?m3, ?m4, ?m5⟩ X ?nk ?no ?nc ?ng ?nx ?nu ?nn (Newss.sub kN ?N) i1 g1 (by decide) e1 T HG hdp hun ?ok ?d1 ?d2 ?d3 ?d4 ?q1 ?q2 ?q3 ?q4 ?s1 ?s2 ?s3 ?s4 ?Dg ?ne r6 hnl ?K
  case m1 => first | rfl | assumption
  case m2 => first | rfl | assumption
  case m3 => first | rfl | assumption
  case m4 => first | rfl | assumption
  case m5 => first | rfl | assumption
  case nk => rfl
  case no => rfl
  case nc => rfl
  case ng => rfl
  case nx => rfl
  case nu => rfl
  case nn => rfl
  case ok => with_reducible assumption
  case N =>
    k_dflt (simp only [Node.led, List.cons_append, List.nil_append, List.append_assoc])
    k_dflt (k_extra "MemAll2")
  case d1 => assumption
  case d2 => assumption
  case d3 => assumption
  case d4 => assumption
  case q1 => rfl
  case q2 =>
    intro A s
    k_dflt (k_extra "Hits")
  case q3 => rfl
  case q4 =>
    intro A s
    k_dflt (k_extra "Hits")
  case s1 => k_dflt (k_extra "NotMods")
  case s2 => k_dflt (k_extra "NotMods")
  case s3 => k_dflt (k_extra "NotMods")
  case s4 => k_dflt (k_extra "NotMods")
  case Dg => k_ne
  case ne => repeat (first | exact trivial | (refine And.intro (by k_ne) ?_))
  case K =>
    intro tk' h' m' F' M' N'
    refine' K _ _ _ _ _ _ F' M' N' ?ok ⟨_, ?ob, ?u1, ?u2⟩ ?l1 ?l2 ?l3 ?l4 ?l5
    case ok => assumption
    case ob => assumption
    case u1 => exact ⟨_, rfl⟩
    case u2 => exact ⟨_, rfl⟩
    case l1 => k_extra "RLT"
    case l2 => first | k_extra "LT" | omega
    case l3 => first | k_extra "LT" | omega
    case l4 => first | k_extra "LT" | omega
    case l5 => assumption

end

section
theorem su61turn4_1 : True := by
  w_top off
  trivial
theorem turn_4 (w : World) : TurnSlim w 4 4 parN := by
  intro mg mb nd tg at0 items n c1 c2 oc2 vs2 t2 ok hd2 hv2 hc hsz h95 h952 h100 p loose mean dp un gd a ccd cl outer A₀ base h₀ L m Q E hp gn dr tk0 os sl nl al nds gr S NN AA x y j u v b nodes nn z1 z2 z3 rest tk B F ⟨m1, m2, m3, m4, m5⟩ X N i1 i2 i3 g1 g2 g3 e1 e2 e3 T HG hdp hun r1 r2 r3 r4 r5 r6 r7 r8 hout hnl hne p7 p95 p9 K
  have b1 : docBody = _ :: _ :: _ :: _ :: _ :: _ :: docBody.drop 6 := rfl
  have b2 : docScope w = Scope.mk _ _ _ _ _ := rfl
  rw [b1, b2]
  generalize htl : docBody.drop 6 = tl
  have o1 := ok.cell
  have o2 := ok.tag
  have o3 := ok.attrib
  have o4 := ok.inner
  have o5 := ok.make
  have o6 := ok.app
  have F := Mine.Fr.pin (Mine.Fr.pin (Mine.Fr.pin (Mine.Fr.pin (Mine.Fr.pin F (x := "signs") m1) (x := "names") m2) (x := "around") m3) (x := "nodes") m4) (x := "ground") m5
  obtain ⟨hj0, hj⟩ : 0 ≤ j ∧ nodes[j.toNat]? = some (.ref nd.f) := hout
  dsimp only [Node.led, List.cons_append, List.nil_append] at N
  k_steps
  subst htl
  (with_reducible rename Fr _ _ _ _ => kF)
  (with_reducible rename News _ _ _ _ => kN)
  refine' docTail w mg mb nd _ tg at0 items n c1 c2 oc2 ok hsz p loose mean dp un gd a ccd cl outer A₀ base h₀ L _ Q E _ gn dr _ os sl nl al nds _ _ _ _ _ S x 4 _ u _ _ nodes nn z1 rest _ _ _ _ _ _ _ _ B kF ⟨?m1, ?m2, ?m3, ?m4, ?m5⟩ X ?nk ?no ?nc ?ng ?nx ?nu ?nn (Newss.sub kN ?N) i1 g1 (by decide) e1 T HG hdp hun ?ok ?d1 ?d2 ?d3 ?d4 ?q1 ?q2 ?q3 ?q4 ?s1 ?s2 ?s3 ?s4 ?Dg ?ne r6 hnl ?K
  case m1 => first | rfl | assumption
  case m2 => first | rfl | assumption
  case m3 => first | rfl | assumption
  case m4 => first | rfl | assumption
  case m5 => first | rfl | assumption
  case nk => rfl
  case no => rfl
  case nc => rfl
  case ng => rfl
  case nx => rfl
  case nu => rfl
  case nn => rfl
  case ok => with_reducible assumption
  case N =>
    k_dflt (simp only [Node.led, List.cons_append, List.nil_append, List.append_assoc])
    k_dflt (k_extra "MemAll2")
  case d1 => assumption
  case d2 => assumption
  case d3 => assumption
  case d4 => assumption
  case q1 => rfl
  case q2 =>
    intro A s
    k_dflt (k_extra "Hits")
  case q3 => rfl
  case q4 =>
    intro A s
    k_dflt (k_extra "Hits")
  case s1 => k_dflt (k_extra "NotMods")
  case s2 => k_dflt (k_extra "NotMods")
  case s3 => k_dflt (k_extra "NotMods")
  case s4 => k_dflt (k_extra "NotMods")
  case Dg => k_ne
  case ne => repeat (first | exact trivial | (refine And.intro (by k_ne) ?_))
  case K =>
    intro tk' h' m' F' M' N'
    refine' K _ _ _ _ _ _ F' M' N' ?ok ⟨_, ?ob, ?u1, ?u2⟩ ?l1 ?l2 ?l3 ?l4 ?l5
    case ok => assumption
    case ob => assumption
    case u1 => exact ⟨_, rfl⟩
    case u2 => exact ⟨_, rfl⟩
    case l1 => k_extra "RLT"
    case l2 => first | k_extra "LT" | omega
    case l3 => first | k_extra "LT" | omega
    case l4 => first | k_extra "LT" | omega
    case l5 => assumption

end

section
theorem su61turn5_1 : True := by
  w_top off
  trivial
theorem turn_5 (w : World) : TurnSlim w 5 5 parN := by
  intro mg mb nd tg at0 items n c1 c2 oc2 vs2 t2 ok hd2 hv2 hc hsz h95 h952 h100 p loose mean dp un gd a ccd cl outer A₀ base h₀ L m Q E hp gn dr tk0 os sl nl al nds gr S NN AA x y j u v b nodes nn z1 z2 z3 rest tk B F ⟨m1, m2, m3, m4, m5⟩ X N i1 i2 i3 g1 g2 g3 e1 e2 e3 T HG hdp hun r1 r2 r3 r4 r5 r6 r7 r8 hout hnl hne p7 p95 p9 K
  have b1 : docBody = _ :: _ :: _ :: _ :: _ :: _ :: docBody.drop 6 := rfl
  have b2 : docScope w = Scope.mk _ _ _ _ _ := rfl
  rw [b1, b2]
  generalize htl : docBody.drop 6 = tl
  have o1 := ok.cell
  have o2 := ok.tag
  have o3 := ok.attrib
  have o4 := ok.inner
  have o5 := ok.make
  have o6 := ok.app
  have F := Mine.Fr.pin (Mine.Fr.pin (Mine.Fr.pin (Mine.Fr.pin (Mine.Fr.pin F (x := "signs") m1) (x := "names") m2) (x := "around") m3) (x := "nodes") m4) (x := "ground") m5
  obtain ⟨hj0, hj⟩ : 0 ≤ j ∧ nodes[j.toNat]? = some (.ref nd.f) := hout
  dsimp only [Node.led, List.cons_append, List.nil_append] at N
  k_steps
  subst htl
  (with_reducible rename Fr _ _ _ _ => kF)
  (with_reducible rename News _ _ _ _ => kN)
  refine' docTail w mg mb nd _ tg at0 items n c1 c2 oc2 ok hsz p loose mean dp un gd a ccd cl outer A₀ base h₀ L _ Q E _ gn dr _ os sl nl al nds _ _ _ _ _ S x 5 _ u _ _ nodes nn z1 rest _ _ _ _ _ _ _ _ B kF ⟨?m1, ?m2, ?m3, ?m4, ?m5⟩ X ?nk ?no ?nc ?ng ?nx ?nu ?nn (Newss.sub kN ?N) i1 g1 (by decide) e1 T HG hdp hun ?ok ?d1 ?d2 ?d3 ?d4 ?q1 ?q2 ?q3 ?q4 ?s1 ?s2 ?s3 ?s4 ?Dg ?ne r6 hnl ?K
  case m1 => first | rfl | assumption
  case m2 => first | rfl | assumption
  case m3 => first | rfl | assumption
  case m4 => first | rfl | assumption
  case m5 => first | rfl | assumption
  case nk => rfl
  case no => rfl
  case nc => rfl
  case ng => rfl
  case nx => rfl
  case nu => rfl
  case nn => rfl
  case ok => with_reducible assumption
  case N =>
    k_dflt (simp only [Node.led, List.cons_append, List.nil_append, List.append_assoc])
    k_dflt (k_extra "MemAll2")
  case d1 => assumption
  case d2 => assumption
  case d3 => assumption
  case d4 => assumption
  case q1 => rfl
  case q2 =>
    intro A s
    k_dflt (k_extra "Hits")
  case q3 => rfl
  case q4 =>
    intro A s
    k_dflt (k_extra "Hits")
  case s1 => k_dflt (k_extra "NotMods")
  case s2 => k_dflt (k_extra "NotMods")
  case s3 => k_dflt (k_extra "NotMods")
  case s4 => k_dflt (k_extra "NotMods")
  case Dg => k_ne
  case ne => repeat (first | exact trivial | (refine And.intro (by k_ne) ?_))
  case K =>
    intro tk' h' m' F' M' N'
    refine' K _ _ _ _ _ _ F' M' N' ?ok ⟨_, ?ob, ?u1, ?u2⟩ ?l1 ?l2 ?l3 ?l4 ?l5
    case ok => assumption
    case ob => assumption
    case u1 => exact ⟨_, rfl⟩
    case u2 => exact ⟨_, rfl⟩
    case l1 => k_extra "RLT"
    case l2 => first | k_extra "LT" | omega
    case l3 => first | k_extra "LT" | omega
    case l4 => first | k_extra "LT" | omega
    case l5 => assumption

end

section
theorem su62docloop_1 : True := by
  w_top off
  trivial
structure Blk where
  nd : Node
  D : Addr
  ob : Obj
  items : List Value
  n : Nat
def Blk.led (pm : Value) (c2 : Addr) (b : Blk) : List (Addr × Obj) := (b.D, b.ob) :: b.nd.led pm c2 b.items b.n
def kidsOf (ax : Nat → Nat) (k i : Nat) : List Nat := (List.range k).filter fun c => decide (1 ≤ c) && (ax c == i)
def sixS (x : Nat → Str) (u : Nat → Tok) : Array Value := #[.str (x 0) (u 0), .str (x 1) (u 1), .str (x 2) (u 2), .str (x 3) (u 3), .str (x 4) (u 4), .str (x 5) (u 5)]
def sixI (x : Nat → Nat) (u : Nat → Tok) : Array Value := #[.int (x 0) (u 0), .int (x 1) (u 1), .int (x 2) (u 2), .int (x 3) (u 3), .int (x 4) (u 4), .int (x 5) (u 5)]
def midOf (sl nl al nds c1 c2 : Addr) (oc2 : Obj) (sx nx : Nat → Str) (su nv : Nat → Tok) (ax : Nat → Nat) (ab : Nat → Tok) (z1 z2 z3 : Nat) (nodes : List Value) (nn : Nat) : List (Addr × Obj) :=
  [(sl, listOf (sixS sx su) z1), (nl, listOf (sixS nx nv) z2), (al, listOf (sixI ax ab) z3), (nds, listOf nodes.toArray nn), (c2, oc2), (95, tabFull c1 c2)]
def TurnStmt (w : World) (k : Nat) (par : Addr → List Value → Int → Node → Prop) : Prop :=
   ∀ (mg mb : Str → Option Value) (nd : Node) (tg at0 : Value) (items : List Value) (n : Nat) (c1 c2 : Addr) (oc2 : Obj) (vs2 : Array Value) (t2 : Tok)
   (_ : nd.Ok tg at0) (_ : oc2.data = .fields vs2) (_ : vs2[1]? = some (.str lamQ t2)) (_ : @LT.lt Nat _ c2 nd.ce ∨ @LT.lt Nat _ nd.l c2 ∧ @LT.lt Nat _ c2 nd.f2) (_ : items.length ≤ 90)
   (_ : @LT.lt Nat _ 95 nd.ce) (_ : @LT.lt Nat _ 95 c2) (_ : @LT.lt Nat _ 138 nd.ce)
   (p : Program) (loose : List Str) (mean : ExcName → Option Value) (dp un : Nat) (gd : Option (List Code)) (a : Addr) (ccd : Value) (cl : List (Str × Addr)) (outer : List Env) (A₀ : Around) (base h₀ : Heap) (L : Addr) (m : Str → Option Value) (s : Shared) (Q : Flow → Shared → Prop) (E : Value → Shared → Prop)
   (sl nl al nds gr : Addr) (sx nx : Nat → Str) (ax : Nat → Nat) (su nv ab : Nat → Tok) (nodes : List Value) (nn z1 z2 z3 : Nat) (rest : List (Addr × Obj)) (tk : Tok)
   (_ : Below A₀ base outer h₀) (_ : Fr h₀ L s.heap (fun y => if y = "k" then some (.int (k : Nat) tk) else m y))
   (_ : MFacts m sl nl al nds gr)
   (_ : (hd.heap_39 w.params).In h₀)
   (_ : News h₀ L s.heap (nd.led (pmOf mg) c2 items n ++ midOf sl nl al nds c1 c2 oc2 sx nx su nv ax ab z1 z2 z3 nodes nn ++ rest))
   (_ : Top p loose mean mg mb h₀) (_ : CodeHd base 99 95) (_ : dp + 8 < recursionLimit) (_ : un + 60 < cLine)
   (_ : RNe rest nd.f2) (_ : RNe rest nd.f) (_ : RNe rest nd.dx) (_ : RNe rest nd.l) (_ : RNe rest nd.ce) (_ : RNe rest nds) (_ : RNe rest c2) (_ : RNe rest 95)
   (_ : par gr nodes (ax k) nd) (_ : nodes.length ≤ 10) (_ : @LT.lt Nat _ 138 sl) (_ : @LT.lt Nat _ sl nd.ce) (_ : @LT.lt Nat _ sl c2) (_ : @Ne Nat nl 95) (_ : @LT.lt Nat _ nl nd.ce) (_ : @LT.lt Nat _ nl c2) (_ : @LT.lt Nat _ 138 al) (_ : @LT.lt Nat _ al nd.ce) (_ : @LT.lt Nat _ al c2)
   (_ : @LT.lt Nat _ 138 nds) (_ : @LT.lt Nat _ nd.f2 nds ∨ @LT.lt Nat _ nds nd.ce) (_ : @LT.lt Nat _ c2 nds) (_ : @LT.lt Nat _ sl nds) (_ : @LT.lt Nat _ nl nds) (_ : @LT.lt Nat _ al nds)
   (_ : ∀ (tk' : Nat) (h' : Heap) (m' : Str → Option Value) (nd' : Node) (D : Addr) (ob : Obj), Fr h₀ L h' m' → MFacts m' sl nl al nds gr →
     News h₀ L h' (nd'.led (pmOf mg) c2 [] 0 ++ (D, ob) :: nd.led (pmOf mg) c2 (items ++ [.ref nd'.f]) (n + 1) ++ midOf sl nl al nds c1 c2 oc2 sx nx su nv ax ab z1 z2 z3 (nodes ++ [Value.ref nd'.f]) (nn + 1) ++ rest) →
     nd'.Ok (.str (sx k) (su k)) (.ref D) → DictGN w ob (nx k) →
     (∀ q ∈ rest, @LT.lt Nat _ q.1 D) → @LT.lt Nat _ nd.f2 D → @LT.lt Nat _ c2 D → @LT.lt Nat _ nds D → @LT.lt Nat _ D nd'.ce → Q .next { s with heap := h', toks := tk' }),
   wpAny (model pg w) (ktrTop dp un gd "_law_document" (docScope w) L a ccd cl outer) (execs docBody (envOf "_law_document" (docScope w) L 107 (.ref 106))) Q E s
theorem sixGet {α : Type} (f : Nat → α) : ∀ k, k < 6 → [f 0, f 1, f 2, f 3, f 4, f 5][k]? = some (f k)
  | 0, _ => rfl
  | 1, _ => rfl
  | 2, _ => rfl
  | 3, _ => rfl
  | 4, _ => rfl
  | 5, _ => rfl
  | k + 6, h => absurd h (by omega)
theorem slimS {w : World} (k : Nat) {par : Addr → List Value → Int → Node → Prop} (h : TurnSlim w k k par) (hk : k < 6) : TurnStmt w k par := by
  intro mg mb nd tg at0 items n c1 c2 oc2 vs2 t2 ok hd2 hv2 hc hsz h95 h952 h100 p loose mean dp un gd a ccd cl outer A₀ base h₀ L m s Q E sl nl al nds gr sx nx ax su nv ab nodes nn z1 z2 z3 rest tk B F M X N T HG hdp hun r1 r2 r3 r4 r5 r6 r7 r8 hout hnl p1 p2 p3 p4 p5 p6 p4a p5a p6a p7 p8 p9 pa pb pc K
  have q1 : @LT.lt Nat _ 95 sl := Nat.lt_trans (by decide) p1
  have q2 : @LT.lt Nat _ 95 al := Nat.lt_trans (by decide) p4a
  have q3 : @LT.lt Nat _ 95 nds := Nat.lt_trans (by decide) p7
  have e1 := sixGet (fun k => Value.str (sx k) (su k)) k hk
  have e2 := sixGet (fun k => Value.str (nx k) (nv k)) k hk
  have e3 := sixGet (fun k => Value.int (ax k) (ab k)) k hk
  have rn : ∀ x, sl ≠ x → nl ≠ x → al ≠ x → RNe rest x → RNe ((sl, listOf (sixS sx su) z1) :: (nl, listOf (sixS nx nv) z2) :: (al, listOf (sixI ax ab) z3) :: rest) x := fun x u v w r => RNe.consR u (RNe.consR v (RNe.consR w r))
  obtain ⟨hp, gn, dr, tk0, os⟩ := s
  refine h mg mb nd tg at0 items n c1 c2 oc2 vs2 t2 ok hd2 hv2 hc hsz h95 h952 h100 p loose mean dp un gd a ccd cl outer A₀ base h₀ L m Q E hp gn dr tk0 os sl nl al nds gr _ _ _ _ _ _ _ _ _ nodes nn z1 z2 z3
    ((sl, listOf (sixS sx su) z1) :: (nl, listOf (sixS nx nv) z2) :: (al, listOf (sixI ax ab) z3) :: rest) tk B F M X (Newss.sub N ?N) (List.mem_cons_self ..) (List.mem_cons_of_mem _ (List.mem_cons_self ..)) (List.mem_cons_of_mem _ (List.mem_cons_of_mem _ (List.mem_cons_self ..)))
    (Nat.le_of_ble_eq_true rfl) (Nat.le_of_ble_eq_true rfl) (Nat.le_of_ble_eq_true rfl) e1 e2 e3 T HG hdp hun
    (rn _ (by k_ne) (by k_ne) (by k_ne) r1) (rn _ (by k_ne) (by k_ne) (by k_ne) r2) (rn _ (by k_ne) (by k_ne) (by k_ne) r3) (rn _ (by k_ne) (by k_ne) (by k_ne) r4) (rn _ (by k_ne) (by k_ne) (by k_ne) r5) (rn _ (by k_ne) (by k_ne) (by k_ne) r6) (rn _ (by k_ne) (by k_ne) (by k_ne) r7) (rn _ (by k_ne) (by k_ne) (by k_ne) r8)
    hout hnl ?nds p7 q3 p9 fun tk' h' m' nd' D ob F' M' N' ok' ho l1 l2 l3 l4 l5 => K tk' h' m' nd' D ob F' M' (Newss.sub N' ?N') ok' ho (fun q hq => l1 q (.tail _ (.tail _ (.tail _ hq)))) l2 l3 l4 l5
  case nds =>
    have := Node.Ok.offN ok p8
    exact ⟨this.2.2.2.2.1, this.2.1, this.2.2.1, this.2.2.2.1, this.1, trivial⟩
  case N =>
    k_dflt (simp only [midOf, Node.led, List.cons_append, List.nil_append, List.append_assoc])
    k_dflt (k_extra "MemAll2")
  case N' =>
    k_dflt (simp only [midOf, Node.led, List.cons_append, List.nil_append, List.append_assoc])
    k_dflt (k_extra "MemAll2")
theorem turnS_0 (w : World) : TurnStmt w 0 parG := slimS 0 (turn_0 w) (by decide)
theorem turnS_1 (w : World) : TurnStmt w 1 parN := slimS 1 (turn_1 w) (by decide)
theorem turnS_2 (w : World) : TurnStmt w 2 parN := slimS 2 (turn_2 w) (by decide)
theorem turnS_3 (w : World) : TurnStmt w 3 parN := slimS 3 (turn_3 w) (by decide)
theorem turnS_4 (w : World) : TurnStmt w 4 parN := slimS 4 (turn_4 w) (by decide)
theorem turnS_5 (w : World) : TurnStmt w 5 parN := slimS 5 (turn_5 w) (by decide)
theorem turnS (w : World) : ∀ k, 1 ≤ k → k < 6 → TurnStmt w k parN
  | 1, _, _ => turnS_1 w
  | 2, _, _ => turnS_2 w
  | 3, _, _ => turnS_3 w
  | 4, _, _ => turnS_4 w
  | 5, _, _ => turnS_5 w
  | 0, h, _ => absurd h (by decide)
  | k + 6, _, h => absurd h (by omega)

end

section
theorem Node.span {nd : Node} {tg at0 : Value} (ok : nd.Ok tg at0) (pm : Value) (c2 : Addr) (items : List Value) (n : Nat) : ∀ q ∈ nd.led pm c2 items n, @LE.le Nat _ nd.ce q.1 ∧ (@LE.le Nat _ q.1 nd.l ∨ @LE.le Nat _ nd.f2 q.1) ∧ @LE.le Nat _ q.1 nd.f2 := by
  obtain ⟨o1, o2, o3, o4, o5, o6, r1, r2, r3, r4⟩ := ok
  intro q hq
  simp only [Node.led, List.mem_cons, List.not_mem_nil, or_false] at hq
  have b4 := Nat.le_of_lt r4
  have b3 := Nat.le_of_lt r3
  have b2 := Nat.le_trans (Nat.le_of_lt r2) b3
  have a1 := Nat.le_of_lt r1
  have a3 := Nat.le_trans a1 b2
  rcases hq with rfl | rfl | rfl | rfl | rfl
  · exact ⟨Nat.le_trans a3 b4, .inr (Nat.le_refl _), Nat.le_refl _⟩
  · exact ⟨a1, .inl b2, Nat.le_trans b2 b4⟩
  · exact ⟨Nat.le_trans a1 (Nat.le_of_lt r2), .inl b3, Nat.le_trans b3 b4⟩
  · exact ⟨a3, .inl (Nat.le_refl _), b4⟩
  · exact ⟨Nat.le_refl _, .inl a3, Nat.le_trans a3 b4⟩
structure DocAt (w : World) (I : Addr) (sx nx : Nat → Str) (ax : Nat → Nat) (su : Nat → Tok) (k : Nat) (B : Nat → Blk) : Prop where
  ok : ∀ i, i < k → (B i).nd.Ok (.str (sx i) (su i)) (.ref (B i).D)
  dict : ∀ i, i < k → DictGN w (B i).ob (nx i)
  items : ∀ i, i < k → (B i).items = (kidsOf ax k i).map fun c => .ref (B c).nd.f
  dce : ∀ i, i < k → @LT.lt Nat _ (B i).D (B i).nd.ce
  lo : ∀ i, i < k → @LT.lt Nat _ I (B i).D
  ord : ∀ i j, i < j → j < k → @LT.lt Nat _ (B i).nd.f2 (B j).D
theorem DocAt.span {w : World} {I : Addr} {sx nx : Nat → Str} {ax : Nat → Nat} {su : Nat → Tok} {k : Nat} {B : Nat → Blk} (d : DocAt w I sx nx ax su k B) (pm : Value) (c2 : Addr) {i : Nat} (hi : i < k) :
    ∀ q ∈ (B i).led pm c2, @LE.le Nat _ (B i).D q.1 ∧ @LE.le Nat _ q.1 (B i).nd.f2 := by
  intro q hq
  have h1 := d.dce i hi
  rcases List.mem_cons.mp hq with rfl | hq
  · exact ⟨Nat.le_refl _, Nat.le_of_lt ((d.ok i hi).gf2 h1)⟩
  · have := Node.span (d.ok i hi) pm c2 _ _ q hq
    exact ⟨Nat.le_of_lt (Nat.lt_of_lt_of_le h1 this.1), this.2.2⟩
def canonB (pm : Value) (c2 : Addr) (k : Nat) (B : Nat → Blk) : List (Addr × Obj) := (List.range k).flatMap fun i => (B i).led pm c2
theorem mem_canonB {pm : Value} {c2 : Addr} {k : Nat} {B : Nat → Blk} {q : Addr × Obj} : q ∈ canonB pm c2 k B ↔ ∃ i, i < k ∧ q ∈ (B i).led pm c2 := by
  simp only [canonB, List.mem_flatMap, List.mem_range]
def othersB (pm : Value) (c2 : Addr) (k j : Nat) (B : Nat → Blk) : List (Addr × Obj) := ((List.range k).filter (· ≠ j)).flatMap fun i => (B i).led pm c2
theorem mem_othersB {pm : Value} {c2 : Addr} {k j : Nat} {B : Nat → Blk} {q : Addr × Obj} : q ∈ othersB pm c2 k j B ↔ ∃ i, (i < k ∧ i ≠ j) ∧ q ∈ (B i).led pm c2 := by
  simp only [othersB, List.mem_flatMap, List.mem_filter, List.mem_range, decide_eq_true_eq]
/-- the blocks behind a turn -/
def grow (k j : Nat) (B : Nat → Blk) (nd' : Node) (D : Addr) (ob : Obj) : Nat → Blk := fun i => if i = k then ⟨nd', D, ob, [], 0⟩ else if i = j then ⟨(B j).nd, (B j).D, (B j).ob, (B j).items ++ [.ref nd'.f], (B j).n + 1⟩ else B i
theorem kidsOf_succ (ax : Nat → Nat) (k i : Nat) : kidsOf ax (k + 1) i = kidsOf ax k i ++ (if 1 ≤ k ∧ ax k = i then [k] else []) := by
  simp only [kidsOf, List.range_succ, List.filter_append]
  congr 1
  by_cases h1 : 1 ≤ k <;> by_cases h2 : ax k = i <;> simp [h1, h2]
theorem kidsOf_lt {ax : Nat → Nat} {k i c : Nat} (h : c ∈ kidsOf ax k i) : c < k := by
  simp only [kidsOf, List.mem_filter, List.mem_range] at h
  exact h.1
theorem grow_k {k j : Nat} {B : Nat → Blk} {nd' : Node} {D : Addr} {ob : Obj} : grow k j B nd' D ob k = ⟨nd', D, ob, [], 0⟩ := if_pos rfl
theorem grow_j {k j : Nat} {B : Nat → Blk} {nd' : Node} {D : Addr} {ob : Obj} (h : j ≠ k) : grow k j B nd' D ob j = ⟨(B j).nd, (B j).D, (B j).ob, (B j).items ++ [.ref nd'.f], (B j).n + 1⟩ := by
  rw [grow, if_neg h, if_pos rfl]
theorem grow_o {k j i : Nat} {B : Nat → Blk} {nd' : Node} {D : Addr} {ob : Obj} (h : i ≠ k) (h2 : i ≠ j) : grow k j B nd' D ob i = B i := by
  rw [grow, if_neg h, if_neg h2]
theorem grow_nd {k j i : Nat} {B : Nat → Blk} {nd' : Node} {D : Addr} {ob : Obj} (h : i ≠ k) : (grow k j B nd' D ob i).nd = (B i).nd ∧ (grow k j B nd' D ob i).D = (B i).D ∧ (grow k j B nd' D ob i).ob = (B i).ob := by
  by_cases h2 : i = j
  · subst h2; rw [grow_j h]; exact ⟨rfl, rfl, rfl⟩
  · rw [grow_o h h2]; exact ⟨rfl, rfl, rfl⟩
theorem DocAt.grow {w : World} {I : Addr} {sx nx : Nat → Str} {ax : Nat → Nat} {su : Nat → Tok} {k : Nat} {B : Nat → Blk} (d : DocAt w I sx nx ax su k B) {nd' : Node} {D : Addr} {ob : Obj}
    (hax : ∀ c, 1 ≤ c → c ≤ k → ax c < c) (ok' : nd'.Ok (.str (sx k) (su k)) (.ref D)) (dc : DictGN w ob (nx k)) (hD : @LT.lt Nat _ D nd'.ce) (hI : @LT.lt Nat _ I D) (hlt : ∀ i, i < k → @LT.lt Nat _ (B i).nd.f2 D) :
    DocAt w I sx nx ax su (k + 1) (grow k (if k = 0 then 99 else ax k) B nd' D ob) := by
  have hjk : (if k = 0 then 99 else ax k) ≠ k := by
    by_cases h : k = 0
    · rw [if_pos h, h]; decide
    · rw [if_neg h]; exact Nat.ne_of_lt (hax k (Nat.pos_of_ne_zero h) (Nat.le_refl _))
  refine ⟨?_, ?_, ?_, ?_, ?_, ?_⟩
  · intro i hi
    by_cases h : i = k
    · subst h; rw [grow_k]; exact ok'
    · obtain ⟨e1, e2, _⟩ := grow_nd (j := (if k = 0 then 99 else ax k)) (B := B) (nd' := nd') (D := D) (ob := ob) h
      rw [e1, e2]; exact d.ok i (Nat.lt_of_le_of_ne (Nat.le_of_lt_succ hi) h)
  · intro i hi
    by_cases h : i = k
    · subst h; rw [grow_k]; exact dc
    · obtain ⟨_, _, e3⟩ := grow_nd (j := (if k = 0 then 99 else ax k)) (B := B) (nd' := nd') (D := D) (ob := ob) h
      rw [e3]; exact d.dict i (Nat.lt_of_le_of_ne (Nat.le_of_lt_succ hi) h)
  · intro i hi
    have hmap : ∀ l : List Nat, (∀ c ∈ l, c < k) → l.map (fun c => Value.ref (Mine.grow k (if k = 0 then 99 else ax k) B nd' D ob c).nd.f) = l.map fun c => .ref (B c).nd.f := by
      intro l hl
      refine List.map_congr_left fun c hc => ?_
      rw [(grow_nd (B := B) (Nat.ne_of_lt (hl c hc))).1]
    rw [kidsOf_succ, List.map_append, hmap _ fun c hc => kidsOf_lt hc]
    by_cases h : i = k
    · subst h
      rw [grow_k]
      have e1 : kidsOf ax i i = [] := by
        simp only [kidsOf, List.filter_eq_nil_iff, List.mem_range, Bool.and_eq_true, decide_eq_true_eq, beq_iff_eq]
        intro c hc ⟨h1, h2⟩
        exact Nat.lt_asymm hc (h2 ▸ hax c h1 (Nat.le_of_lt hc))
      have e2 : ¬ (1 ≤ i ∧ ax i = i) := fun ⟨h1, h2⟩ => Nat.ne_of_lt (hax i h1 (Nat.le_refl _)) h2
      rw [e1, if_neg e2]; rfl
    · by_cases h2 : i = (if k = 0 then 99 else ax k)
      · have hk0 : k ≠ 0 := by intro e; subst e; exact h (Nat.eq_zero_of_le_zero (Nat.le_of_lt_succ hi))
        rw [if_neg hk0] at h2
        rw [if_neg hk0, ← h2, grow_j h, d.items i (Nat.lt_of_le_of_ne (Nat.le_of_lt_succ hi) h), if_pos ⟨Nat.pos_of_ne_zero hk0, rfl⟩]
        simp [grow_k]
      · rw [grow_o h h2, d.items i (Nat.lt_of_le_of_ne (Nat.le_of_lt_succ hi) h)]
        have e2 : ¬ (1 ≤ k ∧ ax k = i) := fun ⟨h1, h3⟩ => h2 (by rw [if_neg (Nat.ne_of_gt h1)]; exact h3.symm)
        rw [if_neg e2]; simp
  · intro i hi
    by_cases h : i = k
    · subst h; rw [grow_k]; exact hD
    · obtain ⟨e1, e2, _⟩ := grow_nd (j := (if k = 0 then 99 else ax k)) (B := B) (nd' := nd') (D := D) (ob := ob) h
      rw [e1, e2]; exact d.dce i (Nat.lt_of_le_of_ne (Nat.le_of_lt_succ hi) h)
  · intro i hi
    by_cases h : i = k
    · subst h; rw [grow_k]; exact hI
    · obtain ⟨e1, e2, _⟩ := grow_nd (j := (if k = 0 then 99 else ax k)) (B := B) (nd' := nd') (D := D) (ob := ob) h
      rw [e2]; exact d.lo i (Nat.lt_of_le_of_ne (Nat.le_of_lt_succ hi) h)
  · intro i j hij hj
    obtain ⟨e1, _, _⟩ := grow_nd (j := (if k = 0 then 99 else ax k)) (B := B) (nd' := nd') (D := D) (ob := ob) (Nat.ne_of_lt (Nat.lt_of_lt_of_le hij (Nat.le_of_lt_succ hj)))
    rw [e1]
    by_cases h : j = k
    · subst h; rw [grow_k]; exact hlt i hij
    · obtain ⟨_, e2, _⟩ := grow_nd (j := (if k = 0 then 99 else ax k)) (B := B) (nd' := nd') (D := D) (ob := ob) h
      rw [e2]; exact d.ord i j hij (Nat.lt_of_le_of_ne (Nat.le_of_lt_succ hj) h)

end

section
theorem docLoop (w : World) (mg mb : Str → Option Value) (gr : Node) (gt ga : Value) (c1 c2 : Addr) (oc2 : Obj) (vs2 : Array Value) (t2 : Tok) (okg : gr.Ok gt ga) (hd2 : oc2.data = .fields vs2) (hv2 : vs2[1]? = some (.str lamQ t2)) (hg1 : @LT.lt Nat _ gr.l c2) (hg2 : @LT.lt Nat _ c2 gr.f2) (h200 : @LT.lt Nat _ 138 gr.ce)
   (p : Program) (loose : List Str) (mean : ExcName → Option Value) (dp un : Nat) (gd : Option (List Code)) (a : Addr) (ccd : Value) (cl : List (Str × Addr)) (outer : List Env) (A₀ : Around) (base h₀ : Heap) (L : Addr) (s : Shared) (Q : Flow → Shared → Prop) (E : Value → Shared → Prop)
   (sl nl al nds I : Addr) (sx nx : Nat → Str) (ax : Nat → Nat) (su nv ab : Nat → Tok) (z1 z2 z3 : Nat)
   (B₀ : Below A₀ base outer h₀) (X : (hd.heap_39 w.params).In h₀) (T : Top p loose mean mg mb h₀) (HG : CodeHd base 99 95) (hdp : dp + 8 < recursionLimit) (hun : un + 60 < cLine)
   (p1 : @LT.lt Nat _ 138 sl) (p2 : @LT.lt Nat _ sl gr.ce) (p4 : @Ne Nat nl 95) (p5 : @LT.lt Nat _ nl gr.ce) (p4a : @LT.lt Nat _ 138 al) (p5a : @LT.lt Nat _ al gr.ce) (p7 : @LT.lt Nat _ gr.f2 nds) (p8 : @LT.lt Nat _ nds I)
   (hax : ∀ k, 1 ≤ k → k < 6 → ax k < k)
   (done : ∀ h tk m Bk gn nn, DocAt w I sx nx ax su 6 Bk → Fr h₀ L h m → MFacts m sl nl al nds gr.f →
     News h₀ L h (canonB (pmOf mg) c2 6 Bk ++ gr.led (pmOf mg) c2 [.ref (Bk 0).nd.f] gn ++ midOf sl nl al nds c1 c2 oc2 sx nx su nv ax ab z1 z2 z3 ((List.range 6).map fun c => .ref (Bk c).nd.f) nn) → Q .next { s with heap := h, toks := tk }) :
   ∀ d k m Bk gn nn, k + d = 6 → DocAt w I sx nx ax su k Bk → MFacts m sl nl al nds gr.f →
     RangeRest pg w (ktrTop dp un gd "_law_document" (docScope w) L a ccd cl outer) E h₀ (envOf "_law_document" (docScope w) L 107 (.ref 106)) "k" docBody Q s I 0 6 d k m
       (canonB (pmOf mg) c2 k Bk ++ gr.led (pmOf mg) c2 (if k = 0 then [] else [.ref (Bk 0).nd.f]) gn ++ midOf sl nl al nds c1 c2 oc2 sx nx su nv ax ab z1 z2 z3 ((List.range k).map fun c => .ref (Bk c).nd.f) nn) := by
  have gI : @LT.lt Nat _ gr.f2 I := Nat.lt_trans p7 p8
  have ceI : @LT.lt Nat _ gr.ce I := Nat.lt_trans okg.Lf2.1 gI
  have cec2 : @LT.lt Nat _ gr.ce c2 := Nat.lt_trans okg.Ll.1 hg1
  have cends : @LT.lt Nat _ gr.ce nds := Nat.lt_trans okg.Lf2.1 p7
  have c2I : @LT.lt Nat _ c2 I := Nat.lt_trans hg2 gI
  have h95g : @LT.lt Nat _ 95 gr.ce := Nat.lt_trans (by decide) h200
  have h952 : @LT.lt Nat _ 95 c2 := Nat.lt_trans h95g cec2
  have n95 : @LT.lt Nat _ 95 I := Nat.lt_trans h95g ceI
  have slI : @LT.lt Nat _ sl I := Nat.lt_trans p2 ceI
  have nlI : @LT.lt Nat _ nl I := Nat.lt_trans p5 ceI
  have alI : @LT.lt Nat _ al I := Nat.lt_trans p5a ceI
  have hmI : LtL I [sl, nl, al, nds, c2, 95] := ⟨slI, nlI, alI, p8, c2I, n95, trivial⟩
  have h138n : @LT.lt Nat _ 138 nds := Nat.lt_trans h200 cends
  intro d
  induction d with
  | zero =>
    intro k m Bk gn nn hk D M
    obtain rfl : k = 6 := by omega
    exact RangeRest.zero fun h tk F N => done h tk m Bk gn nn D F M (by rw [if_neg (by decide)] at N; exact N)
  | succ d ih =>
    intro k m Bk gn nn hk D M
    refine RangeRest.succ fun t h tk F N => ?_
    by_cases h0 : k = 0
    · subst h0
      have hr : ∀ x : Addr, @LT.lt Nat _ x I → RNe [(I, itR (0 + (((0 : Nat) + 1 : Nat) : Int)) (((6 : Nat) : Int) - (((0 : Nat) + 1 : Nat) : Int)))] x := fun x hx => ⟨fun q hq => by
        obtain rfl := List.mem_singleton.mp hq
        exact Nat.ne_of_gt hx⟩
      refine turnS_0 w mg mb gr gt ga [] gn c1 c2 oc2 vs2 t2 okg hd2 hv2 (.inr ⟨hg1, hg2⟩) (by decide) h95g h952 h200 p loose mean dp un gd a ccd cl outer A₀ base h₀ L m _ _ _ sl nl al nds gr.f sx nx ax su nv ab [] nn z1 z2 z3
        [(I, itR (0 + (((0 : Nat) + 1 : Nat) : Int)) (((6 : Nat) : Int) - (((0 : Nat) + 1 : Nat) : Int)))] t B₀ F M X ?_ T HG hdp hun (hr _ gI) (hr _ (Nat.lt_trans okg.Lf2.2.1 gI)) (hr _ (Nat.lt_trans okg.Lf2.2.2.1 gI)) (hr _ (Nat.lt_trans okg.o4 gI)) (hr _ ceI) (hr _ p8) (hr _ c2I) (hr _ n95) rfl (by decide)
        p1 p2 (Nat.lt_trans p2 cec2) p4 p5 (Nat.lt_trans p5 cec2) p4a p5a (Nat.lt_trans p5a cec2) h138n (.inl p7) (Nat.lt_trans hg2 p7) (Nat.lt_trans p2 cends) (Nat.lt_trans p5 cends) (Nat.lt_trans p5a cends) ?_
      · refine Newss.sub N fun q hq => ?_
        simp only [List.mem_append, List.mem_singleton] at hq
        rcases hq with (hq | hq) | hq
        · exact List.mem_cons_of_mem _ (List.mem_append_left _ (List.mem_append_right _ hq))
        · exact List.mem_cons_of_mem _ (List.mem_append_right _ hq)
        · exact hq ▸ List.mem_cons_self
      · intro tk' h' m' nd' D' ob F' M' N' ok' dc' l1 l2 l3 l4 l5
        have hI : @LT.lt Nat _ I D' := l1 _ List.mem_cons_self
        have D2 : DocAt w I sx nx ax su 1 (grow 0 99 Bk nd' D' ob) := by
          have := D.grow (nd' := nd') (D := D') (ob := ob) (fun c h1 h2 => absurd (Nat.le_trans h1 h2) (by decide)) ok' dc' l5 hI (fun i hi => absurd hi (Nat.not_lt_zero _))
          simpa using this
        have g0 : (grow 0 99 Bk nd' D' ob 0) = ⟨nd', D', ob, [], 0⟩ := grow_k
        refine ⟨h', tk', m', _, rfl, F', Newss.sub N' ?_, ?_, ih 1 m' _ (gn + 1) (nn + 1) ((Nat.succ_add 0 d).trans hk) D2 M'⟩
        · intro q hq
          rcases List.mem_cons.mp hq with rfl | hq
          · exact List.mem_append_right _ List.mem_cons_self
          · rcases List.mem_append.mp hq with hq | hq
            · rcases List.mem_append.mp hq with hq | hq
              · obtain ⟨i, hi, hq⟩ := mem_canonB.mp hq
                obtain rfl : i = 0 := Nat.le_zero.mp (Nat.le_of_lt_succ hi)
                rw [g0] at hq
                refine List.mem_append_left _ (List.mem_append_left _ ?_)
                rcases List.mem_cons.mp hq with rfl | hq
                · exact List.mem_append_right _ List.mem_cons_self
                · exact List.mem_append_left _ hq
              · rw [if_neg (by decide), g0] at hq
                exact List.mem_append_left _ (List.mem_append_left _ (List.mem_append_right _ (List.mem_cons_of_mem _ hq)))
            · refine List.mem_append_left _ (List.mem_append_right _ ?_)
              simpa [g0] using hq
        · intro q hq e
          have hq1 : q.1 = I := e
          rcases List.mem_append.mp hq with hq | hq
          · rcases List.mem_append.mp hq with hq | hq
            · obtain ⟨i, hi, hq⟩ := mem_canonB.mp hq
              exact absurd hq1 (Nat.ne_of_gt (Nat.lt_of_lt_of_le (D2.lo i hi) (D2.span (pmOf mg) c2 hi q hq).1))
            · exact absurd hq1 (Nat.ne_of_lt (Nat.lt_of_le_of_lt (Node.span okg (pmOf mg) c2 _ _ q hq).2.2 gI))
          · exact absurd hq1 (Nat.ne_of_lt (hmI.all q.1 (List.mem_map_of_mem (f := fun p => p.1) hq)))
    · have h1k : 1 ≤ k := Nat.pos_of_ne_zero h0
      have hk6 : k < 6 := Nat.lt_of_lt_of_eq (Nat.lt_add_of_pos_right (Nat.succ_pos d)) hk
      have hj : ax k < k := hax k h1k hk6
      have okj := D.ok _ hj
      have dcej := D.dce _ hj
      have loj := D.lo _ hj
      have Ice : @LT.lt Nat _ I (Bk (ax k)).nd.ce := Nat.lt_trans loj dcej
      have hit : ∀ q ∈ [(I, itR (0 + ((k + 1 : Nat) : Int)) (((6 : Nat) : Int) - ((k + 1 : Nat) : Int)))], @Eq Nat q.1 I := fun q hq => by
        obtain rfl := List.mem_singleton.mp hq; rfl
      have hro : ∀ x : Addr, @LE.le Nat _ (Bk (ax k)).nd.ce x → @LE.le Nat _ x (Bk (ax k)).nd.f2 → RNe ((I, itR (0 + ((k + 1 : Nat) : Int)) (((6 : Nat) : Int) - ((k + 1 : Nat) : Int))) :: ((Bk (ax k)).D, (Bk (ax k)).ob) :: (othersB (pmOf mg) c2 k (ax k) Bk ++ gr.led (pmOf mg) c2 [.ref (Bk 0).nd.f] gn)) x := fun x hx1 hx2 => ⟨fun q hq => by
        rcases List.mem_cons.mp hq with rfl | hq
        · exact Nat.ne_of_lt (Nat.lt_of_lt_of_le Ice hx1)
        · rcases List.mem_cons.mp hq with rfl | hq
          · exact Nat.ne_of_lt (Nat.lt_of_lt_of_le dcej hx1)
          · rcases List.mem_append.mp hq with hq | hq
            · obtain ⟨i, ⟨hi, hij⟩, hq⟩ := mem_othersB.mp hq
              have s1 := D.span (pmOf mg) c2 hi q hq
              rcases Nat.lt_or_gt_of_ne hij with h | h
              · exact Nat.ne_of_lt (Nat.lt_of_le_of_lt s1.2 (Nat.lt_trans (D.ord i (ax k) h hj) (Nat.lt_of_lt_of_le dcej hx1)))
              · exact Nat.ne_of_gt (Nat.lt_of_le_of_lt hx2 (Nat.lt_of_lt_of_le (D.ord (ax k) i h hi) s1.1))
            · exact Nat.ne_of_lt (Nat.lt_of_le_of_lt (Node.span okg (pmOf mg) c2 _ _ q hq).2.2 (Nat.lt_trans gI (Nat.lt_of_lt_of_le Ice hx1)))⟩
      have hrs : ∀ x : Addr, @LT.lt Nat _ x I → (∀ q ∈ gr.led (pmOf mg) c2 [.ref (Bk 0).nd.f] gn, q.1 ≠ x) → RNe ((I, itR (0 + ((k + 1 : Nat) : Int)) (((6 : Nat) : Int) - ((k + 1 : Nat) : Int))) :: ((Bk (ax k)).D, (Bk (ax k)).ob) :: (othersB (pmOf mg) c2 k (ax k) Bk ++ gr.led (pmOf mg) c2 [.ref (Bk 0).nd.f] gn)) x := fun x hx hg => ⟨fun q hq => by
        rcases List.mem_cons.mp hq with rfl | hq
        · exact Nat.ne_of_gt hx
        · rcases List.mem_cons.mp hq with rfl | hq
          · exact Nat.ne_of_gt (Nat.lt_trans hx loj)
          · rcases List.mem_append.mp hq with hq | hq
            · obtain ⟨i, ⟨hi, hij⟩, hq⟩ := mem_othersB.mp hq
              exact Nat.ne_of_gt (Nat.lt_of_lt_of_le (Nat.lt_trans hx (D.lo i hi)) (D.span (pmOf mg) c2 hi q hq).1)
            · exact hg q hq⟩
      have hget : ((List.range k).map fun c => Value.ref (Bk c).nd.f)[(((ax k : Nat) : Int)).toNat]? = some (.ref (Bk (ax k)).nd.f) := by
        simp [hj]
      have hlen : (Bk (ax k)).items.length ≤ 90 := by
        rw [D.items _ hj, List.length_map, kidsOf]
        refine Nat.le_trans (List.length_filter_le _ _) ?_
        simp; omega
      refine turnS w k h1k hk6 mg mb (Bk (ax k)).nd _ _ (Bk (ax k)).items (Bk (ax k)).n c1 c2 oc2 vs2 t2 okj hd2 hv2 (.inl (Nat.lt_trans c2I Ice)) hlen (Nat.lt_trans n95 Ice) h952 (Nat.lt_trans h200 (Nat.lt_trans ceI Ice)) p loose mean dp un gd a ccd cl outer A₀ base h₀ L m _ _ _ sl nl al nds gr.f sx nx ax su nv ab ((List.range k).map fun c => .ref (Bk c).nd.f) nn z1 z2 z3
        _ t B₀ (by rw [Int.zero_add] at F; exact F) M X ?_ T HG hdp hun (hro _ (Nat.le_of_lt okj.Lf2.1) (Nat.le_refl _)) (hro _ (Nat.le_of_lt okj.o1) (Nat.le_of_lt okj.Lf2.2.1)) (hro _ (Nat.le_of_lt okj.Ldx.1) (Nat.le_of_lt okj.Lf2.2.2.1)) (hro _ (Nat.le_of_lt okj.Ll.1) (Nat.le_of_lt okj.o4)) (hro _ (Nat.le_refl _) (Nat.le_of_lt okj.Lf2.1)) (hrs _ p8 fun q hq => Nat.ne_of_lt (Nat.lt_of_le_of_lt (Node.span okg (pmOf mg) c2 _ _ q hq).2.2 p7)) (hrs _ c2I fun q hq => (Node.span okg (pmOf mg) c2 _ _ q hq).2.1.elim (fun h => Nat.ne_of_lt (Nat.lt_of_le_of_lt h hg1)) (fun h => Nat.ne_of_gt (Nat.lt_of_lt_of_le hg2 h))) (hrs _ n95 fun q hq => Nat.ne_of_gt (Nat.lt_of_lt_of_le h95g (Node.span okg (pmOf mg) c2 _ _ q hq).1)) ⟨Int.natCast_nonneg _, hget⟩ (by rw [List.length_map, List.length_range]; exact Nat.le_trans (Nat.le_of_lt hk6) (by decide))
        p1 (Nat.lt_trans slI Ice) (Nat.lt_trans p2 cec2) p4 (Nat.lt_trans nlI Ice) (Nat.lt_trans p5 cec2) p4a (Nat.lt_trans alI Ice) (Nat.lt_trans p5a cec2) h138n (.inr (Nat.lt_trans p8 Ice)) (Nat.lt_trans hg2 p7) (Nat.lt_trans p2 cends) (Nat.lt_trans p5 cends) (Nat.lt_trans p5a cends) ?_
      · rw [if_neg h0] at N
        refine Newss.sub N fun q hq => ?_
        rcases List.mem_append.mp hq with hq | hq
        · rcases List.mem_append.mp hq with hq | hq
          · exact List.mem_cons_of_mem _ (List.mem_append_left _ (List.mem_append_left _ (mem_canonB.mpr ⟨_, hj, List.mem_cons_of_mem _ hq⟩)))
          · exact List.mem_cons_of_mem _ (List.mem_append_right _ hq)
        · rcases List.mem_cons.mp hq with rfl | hq
          · exact List.mem_cons_self
          · rcases List.mem_cons.mp hq with rfl | hq
            · exact List.mem_cons_of_mem _ (List.mem_append_left _ (List.mem_append_left _ (mem_canonB.mpr ⟨_, hj, List.mem_cons_self⟩)))
            · rcases List.mem_append.mp hq with hq | hq
              · obtain ⟨i, ⟨hi, _⟩, hq⟩ := mem_othersB.mp hq
                exact List.mem_cons_of_mem _ (List.mem_append_left _ (List.mem_append_left _ (mem_canonB.mpr ⟨_, hi, hq⟩)))
              · exact List.mem_cons_of_mem _ (List.mem_append_left _ (List.mem_append_right _ hq))
      · intro tk' h' m' nd' D' ob F' M' N' ok' dc' l1 l2 l3 l4 l5
        have hI : @LT.lt Nat _ I D' := l1 _ List.mem_cons_self
        have D2 : DocAt w I sx nx ax su (k + 1) (grow k (ax k) Bk nd' D' ob) := by
          have := D.grow (nd' := nd') (D := D') (ob := ob) (fun c h1 h2 => hax c h1 (Nat.lt_of_le_of_lt h2 hk6)) ok' dc' l5 hI (fun i hi => by
            by_cases hij : i = ax k
            · rw [hij]; exact l2
            · refine l1 ((Bk i).nd.f2, lamObj (pmOf mg) (Bk i).nd.ce c2 (Bk i).nd.ct) (List.mem_cons_of_mem _ (List.mem_cons_of_mem _ (List.mem_append_left _ (mem_othersB.mpr ⟨i, ⟨hi, hij⟩, ?_⟩))))
              exact List.mem_cons_of_mem _ List.mem_cons_self)
          rwa [if_neg h0] at this
        have gk : (grow k (ax k) Bk nd' D' ob k) = ⟨nd', D', ob, [], 0⟩ := grow_k
        have gj := grow_j (B := Bk) (nd' := nd') (D := D') (ob := ob) (Nat.ne_of_lt hj)
        have gnd : ∀ i, i < k → (grow k (ax k) Bk nd' D' ob i).nd = (Bk i).nd := fun i hi => (grow_nd (Nat.ne_of_lt hi)).1
        refine ⟨h', tk', m', _, rfl, F', Newss.sub N' ?_, ?_, ih (k + 1) m' _ gn (nn + 1) ((Nat.succ_add k d).trans hk) D2 M'⟩
        · intro q hq
          rcases List.mem_cons.mp hq with rfl | hq
          · exact List.mem_append_right _ List.mem_cons_self
          · rcases List.mem_append.mp hq with hq | hq
            · rcases List.mem_append.mp hq with hq | hq
              · obtain ⟨i, hi, hq⟩ := mem_canonB.mp hq
                by_cases hik : i = k
                · subst hik
                  rw [gk] at hq
                  refine List.mem_append_left _ (List.mem_append_left _ ?_)
                  rcases List.mem_cons.mp hq with rfl | hq
                  · exact List.mem_append_right _ List.mem_cons_self
                  · exact List.mem_append_left _ hq
                · by_cases hij : i = ax k
                  · subst hij
                    rw [gj] at hq
                    rcases List.mem_cons.mp hq with rfl | hq
                    · exact List.mem_append_right _ (List.mem_cons_of_mem _ List.mem_cons_self)
                    · exact List.mem_append_left _ (List.mem_append_left _ (List.mem_append_right _ (List.mem_cons_of_mem _ hq)))
                  · rw [grow_o hik hij] at hq
                    exact List.mem_append_right _ (List.mem_cons_of_mem _ (List.mem_cons_of_mem _ (List.mem_append_left _ (mem_othersB.mpr ⟨i, ⟨Nat.lt_of_le_of_ne (Nat.le_of_lt_succ hi) hik, hij⟩, hq⟩))))
              · rw [if_neg (Nat.succ_ne_zero k), gnd 0 h1k] at hq
                exact List.mem_append_right _ (List.mem_cons_of_mem _ (List.mem_cons_of_mem _ (List.mem_append_right _ hq)))
            · refine List.mem_append_left _ (List.mem_append_right _ ?_)
              have e : (List.range (k + 1)).map (fun c => Value.ref (grow k (ax k) Bk nd' D' ob c).nd.f) = (List.range k).map (fun c => Value.ref (Bk c).nd.f) ++ [.ref nd'.f] := by
                rw [List.range_succ, List.map_append]
                congr 1
                · exact List.map_congr_left fun c hc => by rw [gnd c (List.mem_range.mp hc)]
                · simp [gk]
              rw [e] at hq
              exact hq
        · intro q hq e
          have h3 : @Eq Nat q.1 I := e
          rcases List.mem_append.mp hq with hq | hq
          · rcases List.mem_append.mp hq with hq | hq
            · obtain ⟨i, hi, hq⟩ := mem_canonB.mp hq
              exact absurd h3 (Nat.ne_of_gt (Nat.lt_of_lt_of_le (D2.lo i hi) (D2.span (pmOf mg) c2 hi q hq).1))
            · exact absurd h3 (Nat.ne_of_lt (Nat.lt_of_le_of_lt (Node.span okg (pmOf mg) c2 _ _ q hq).2.2 gI))
          · exact absurd h3 (Nat.ne_of_lt (hmI.all q.1 (List.mem_map_of_mem (f := fun p => p.1) hq)))

end

section
theorem su65doc_1 : True := by
  w_top off
  (k_with "RangeRest" => ((fail_if_success k_extra "e71"); ((refine Hold.out ?_))))
  (k_with "call ref" => ((fail_if_success k_extra "e72"); ((k_here; kn_here; (with_reducible show wpAny _ _ (call (Value.ref 100) [_, _]) _ _ _); (with_reducible rename Fr _ _ _ _ => kF0); have lF := frLt kF0; k_dflt (refine' HC.atO (elem0 _ _ _ _ _) out66 ?Bz72 ?Fz72 ?Xz72 ?Nz72 ?Tz72 ?kz72 ?Gz72 ?dz72 ?uz72 ?rz72 ?sz72 ?_; (case Bz72 => k_asm); (case Fz72 => k_asm); (case Xz72 => k_asm); (case Nz72 => k_asm); (case Tz72 => k_asm); (case kz72 => first | exact rfl | assumption); (case Gz72 => assumption); (case rz72 => k_extra "MemAll"); (case sz72 => k_extra "Split"); (case dz72 => ktr_room); (case uz72 => ktr_units); k_whole); intro h' tk' F' l1 nd' c1' c2' oc2' vs2' t2' ok' d1' d2' l2' l3' l4' N'; have oA' := ok'.cell; have oB' := ok'.tag; have oC' := ok'.attrib; have oD' := ok'.inner; have oE' := ok'.make; have oF' := ok'.app; have rA' := ok'.o1; have rB' := ok'.o2; have rC' := ok'.o3; have rD' := ok'.o4; (try dsimp only at l2'); (try dsimp only [Node.led, List.cons_append, List.nil_append] at N'); (try k_lt l1); (try dsimp only)))))
  trivial
structure DocPost (w : World) (pm : Value) (sl nl al : Addr) (sx nx : Nat → Str) (ax : Nat → Nat) (su nv ab : Nat → Tok) (z1 z2 z3 : Nat) (H : Heap) (v : Value) (news' : List (Addr × Obj)) : Prop where
  out : ∃ (gr : Node) (gt ga : Value) (c1 c2 I : Addr) (oc2 : Obj) (vs2 : Array Value) (t2 : Tok) (Bk : Nat → Blk) (gn : Nat), v = .ref gr.f ∧ gr.Ok gt ga ∧ oc2.data = .fields vs2 ∧ vs2[1]? = some (.str lamQ t2) ∧ DocAt w I sx nx ax su 6 Bk ∧
    @LE.le Nat _ H.objs.size gr.ce ∧ @LT.lt Nat _ gr.l c2 ∧ @LT.lt Nat _ c2 gr.f2 ∧ @LT.lt Nat _ gr.f2 I ∧
    news' = gr.led pm c2 [.ref (Bk 0).nd.f] gn ++ [(sl, listOf (sixS sx su) z1), (nl, listOf (sixS nx nv) z2), (al, listOf (sixI ax ab) z3), (c2, oc2), (95, tabFull c1 c2)] ++ canonB pm c2 6 Bk
theorem RangeRest.sub {prog : Program} {w : World} {A : Around} {E : Value → Shared → Prop} {h₀ : Heap} {env : Env} {x : Str} {body : List Stmt} {Q : Flow → Shared → Prop} {s : Shared} {I : Addr} {a : Int} {n : Nat} {m : Str → Option Value} {n1 n2 : List (Addr × Obj)} (hs : ∀ q ∈ n1, q ∈ n2) :
    ∀ d k, RangeRest prog w A E h₀ env x body Q s I a n d k m n1 → RangeRest prog w A E h₀ env x body Q s I a n d k m n2
  | 0, _, r => fun h tk F N => r h tk F (Newss.sub N hs)
  | _ + 1, _, r => fun t h tk F N => r t h tk F (Newss.sub N fun q hq => by
      rcases List.mem_cons.mp hq with rfl | hq
      · exact List.mem_cons_self
      · exact List.mem_cons_of_mem _ (hs q hq))
def c1Of {h₀ h : Heap} {L sl nl al nds c1 c2 : Addr} {oc2 : Obj} {sx nx : Nat → Str} {su nv : Nat → Tok} {ax : Nat → Nat} {ab : Nat → Tok} {z1 z2 z3 : Nat} {nodes : List Value} {nn : Nat} {l1 l2 : List (Addr × Obj)} (_ : News h₀ L h (l1 ++ l2 ++ midOf sl nl al nds c1 c2 oc2 sx nx su nv ax ab z1 z2 z3 nodes nn)) : Addr := c1
def c2Of {h₀ h : Heap} {L sl nl al nds c1 c2 : Addr} {oc2 : Obj} {sx nx : Nat → Str} {su nv : Nat → Tok} {ax : Nat → Nat} {ab : Nat → Tok} {z1 z2 z3 : Nat} {nodes : List Value} {nn : Nat} {l1 l2 : List (Addr × Obj)} (_ : News h₀ L h (l1 ++ l2 ++ midOf sl nl al nds c1 c2 oc2 sx nx su nv ax ab z1 z2 z3 nodes nn)) : Addr := c2
def ocOf {h₀ h : Heap} {L sl nl al nds c1 c2 : Addr} {oc2 : Obj} {sx nx : Nat → Str} {su nv : Nat → Tok} {ax : Nat → Nat} {ab : Nat → Tok} {z1 z2 z3 : Nat} {nodes : List Value} {nn : Nat} {l1 l2 : List (Addr × Obj)} (_ : News h₀ L h (l1 ++ l2 ++ midOf sl nl al nds c1 c2 oc2 sx nx su nv ax ab z1 z2 z3 nodes nn)) : Obj := oc2
def nodeOf {nd : Node} {tg at0 : Value} (_ : nd.Ok tg at0) : Node := nd
theorem doc_c (w : World) (mg mb : Str → Option Value) (sl nl al : Addr) (sx nx : Nat → Str) (ax : Nat → Nat) (su nv ab : Nat → Tok) (z1 z2 z3 : Nat) (h1 : @LT.lt Nat _ 138 sl) (h2 : @Ne Nat nl 95) (h3 : @LT.lt Nat _ 138 al)
   (hax : ∀ k, 1 ≤ k → k < 6 → ax k < k) :
   HC w mg mb (.ref 107) [.ref sl, .ref nl, .ref al] [] 10 70 [(sl, listOf (sixS sx su) z1), (nl, listOf (sixS nx nv) z2), (al, listOf (sixI ax ab) z3), (95, tabObj #[])] (fun h => CodeHd h 99 95)
     (DocPost w (pmOf mg) sl nl al sx nx ax su nv ab z1 z2 z3) := by
  intro p loose mean dp un gd cn cs a ccd cl outer A₀ base h₀ L m s Q E B F X N T hk HG hdp hun hret
  have HG : CodeHd base 99 95 := HG
  have N : News h₀ L s.heap [(sl, listOf (sixS sx su) z1), (nl, listOf (sixS nx nv) z2), (al, listOf (sixI ax ab) z3), (95, tabObj #[])] := N
  refine wpAny_call ?_
  k_dflt (k_extra "MyEnter")
  k_steps
  (with_reducible rename Node.Ok _ _ _ => kO)
  (with_reducible rename News _ _ _ _ => kN)
  refine ⟨?_⟩
  refine' Mine.RangeRest.sub ?hs _ _ (docLoop w mg mb _ _ _ _ _ _ _ _ kO ?d1 ?d2 ?g1 ?g2 ?g3 p loose mean _ _ _ _ _ _ _ _ _ _ _ _ _ _ sl nl al _ _ sx nx ax su nv ab z1 z2 z3 ?B ?X ?T ?G ?e1 ?e2 h1 ?p2 h2 ?p5 h3 ?p5a ?p7 ?p8 hax ?done 6 0 _ (fun _ => ⟨nodeOf kO, 0, tabObj #[], [], 0⟩) 0 0 rfl ?D ?M)
  case hs =>
    show ∀ q ∈ Node.led _ _ _ [] 0 ++ [(sl, listOf (sixS sx su) z1), (nl, listOf (sixS nx nv) z2), (al, listOf (sixI ax ab) z3), (_, listOf #[] 0), (_, _), (95, tabFull _ _)], q ∈ _
    k_dflt (simp only [Node.led, List.cons_append, List.nil_append])
    k_dflt (k_extra "MemAll")
  case d1 => assumption
  case d2 => assumption
  case g1 => assumption
  case g2 => assumption
  case g3 => omega
  case B => assumption
  case X => k_asm
  case T => k_asm
  case G => assumption
  case e1 => ktr_room
  case e2 => ktr_units
  case p2 => omega
  case p5 => omega
  case p5a => omega
  case p7 => omega
  case p8 => omega
  case D => exact ⟨fun i hi => absurd hi (Nat.not_lt_zero _), fun i hi => absurd hi (Nat.not_lt_zero _), fun i hi => absurd hi (Nat.not_lt_zero _), fun i hi => absurd hi (Nat.not_lt_zero _), fun i hi => absurd hi (Nat.not_lt_zero _), fun i j _ hj => absurd hj (Nat.not_lt_zero _)⟩
  case M => exact ⟨rfl, rfl, rfl, rfl, rfl⟩
  case done =>
    intro hz tkz mz Bk gn nn D Fz Mz Nz
    have Fz := Mine.Fr.pin Fz (x := "ground") Mz.m5
    k_sweep
    dsimp only
    k_steps
    refine' hret _ _ _ _ ?kK (Newly.sub ?kN ?hs) ⟨⟨_, _, _, c1Of Nz, c2Of Nz, _, ocOf Nz, _, _, Bk, gn, rfl, kO, ?d1, ?d2, D, ?l1, ?l2, ?l3, ?l4, rfl⟩⟩
    case kK => assumption
    case kN => assumption
    case d1 => assumption
    case d2 => assumption
    case hs =>
      (with_reducible rename Newly _ _ _ _ => kN)
      intro q hq
      rcases List.mem_append.mp hq with hq | hq
      · rcases List.mem_append.mp hq with hq | hq
        · exact List.mem_append_left _ (List.mem_append_right _ hq)
        · refine List.mem_append_right _ ?_
          simp only [List.mem_cons, List.not_mem_nil, or_false, midOf, c1Of, c2Of, ocOf] at hq ⊢
          rcases hq with hq | hq | hq | hq | hq <;> simp [hq]
      · exact List.mem_append_left _ (List.mem_append_left _ hq)
    case l1 => omega
    case l2 => (dsimp only [c2Of]; omega)
    case l3 => (dsimp only [c2Of]; omega)
    case l4 => omega

end

section
theorem su70bare_1 : True := by
  w_top off
  (k_with "e72" => skip)
  (k_with "e71" => skip)
  trivial
section
variable {prog : Program} {w : World} {A : Around} {E : Value → Shared → Prop} {s : Shared}
theorem dictSameEq {a b : Addr} {ka kb : List (Str × Value)} {Q : Value → Shared → Prop} (ha : (a == sysModules) = false) (hb : (b == sysModules) = false)
    (da : s.heap.DictOf (strKind prog w) a ka) (db : s.heap.DictOf (strKind prog w) b kb) (hl : ka.length = kb.length) (hits : KeqHits A.in1 s kb ka true) (hu : A.units < cLine) (h : Q (.bool true) s) :
    wpAny (model prog w) A (compareOp .Eq (.ref a) (.ref b)) Q E s :=
  keq_eq ha hb da db hu (fun _ => hits) (by rw [hl]; simpa using h)
theorem isNotDict {a b : Addr} {ka kb : List (Str × Value)} {Q : Value → Shared → Prop} (hab : a ≠ b) (da : s.heap.DictOf (strKind prog w) a ka) (db : s.heap.DictOf (strKind prog w) b kb) (h : Q (.bool true) s) :
    wpAny (model prog w) A (compareOp .IsNot (.ref a) (.ref b)) Q E s := by
  obtain ⟨oa, esa, epa, hoa, hca, hda, hka, hpa, hna⟩ := da
  obtain ⟨ob, esb, epb, hob, hcb, hdb, hkb, hpb, hnb⟩ := db
  exact wpAny_isNot_ref_other hab hoa hob (by rw [hca.1]; intro e; exact absurd (Value.type.inj e) (by decide)) h
end
theorem su70bare_2 : True := by
  (k_with "compareOp Eq ref ref" => ((fail_if_success k_extra "e73"); ((k_here; (with_reducible show wpAny _ _ (compareOp CmpOp.Eq (Value.ref _) (Value.ref _)) _ _ _); k_dflt (refine' dictSameEq ?haz73 ?hbz73 ?daz73 ?dbz73 ?hlz73 ?hitsz73 ?huz73 ?_; (case daz73 => k_extra "DictOfAt"); (case dbz73 => k_extra "DictOfAt"); (case haz73 => k_extra "NotMods"); (case hbz73 => k_extra "NotMods"); (case hlz73 => exact rfl); (case hitsz73 => k_extra "Hits"); (case huz73 => ktr_units); k_whole)))))
  (k_with "compareOp IsNot ref ref" => ((fail_if_success k_extra "e74"); ((k_here; (with_reducible show wpAny _ _ (compareOp CmpOp.IsNot (Value.ref _) (Value.ref _)) _ _ _); k_dflt (refine' isNotDict ?nz74 ?daz74 ?dbz74 ?_; (case daz74 => k_extra "DictOfAt"); (case dbz74 => k_extra "DictOfAt"); (case nz74 => kto_ne); k_whole)))))
  trivial
theorem bare_c (w : World) (mg mb : Str → Option Value) (nd : Node) (tg at0 : Value) (n : Nat) (c1 c2 : Addr) (oc2 : Obj) (vs2 : Array Value) (t2 : Tok)
   (ok : nd.Ok tg at0) (hd2 : oc2.data = .fields vs2) (hv2 : vs2[1]? = some (.str lamQ t2)) (hc : @LT.lt Nat _ c2 nd.ce ∨ @LT.lt Nat _ nd.l c2 ∧ @LT.lt Nat _ c2 nd.f2) (h95 : @LT.lt Nat _ 95 nd.ce) (h952 : @LT.lt Nat _ 95 c2) :
   HC w mg mb (.ref 114) [.ref nd.f] [] 6 40 (nd.led (pmOf mg) c2 [] n ++ [(c2, oc2), (95, tabFull c1 c2)]) (fun h => CodeHd h 99 95)
     (fun _ v news' => v = .bool true ∧ news' = [(c2, oc2), (95, tabFull c1 c2)]) := by
  intro p loose mean dp un gd cn cs a ccd cl outer A₀ base h₀ L m s Q E B F X N T hk HG hdp hun hret
  have HG : CodeHd base 99 95 := HG
  obtain ⟨o1, o2, o3, o4, o5, o6, q1, q2, q3, q4⟩ := id ok
  have N : News h₀ L s.heap [(nd.f2, lamObj (pmOf mg) nd.ce c2 nd.ct), (nd.f, fnObj (some nd.dx) nd.fd #[]), (nd.dx, dictOf nd.es 5), (nd.l, listOf ([] : List Value).toArray n), (nd.ce, nd.oc), (c2, oc2), (95, tabFull c1 c2)] := N
  have hz : ([] : List Value).length ≤ 90 := Nat.zero_le _
  refine wpAny_call ?_
  k_dflt (k_extra "MyEnter")
  k_steps
  refine' hret _ _ _ _ ?kK (Newly.sub ?kN ?hs) ⟨rfl, rfl⟩
  case kK => assumption
  case kN => assumption
  case hs =>
    (with_reducible rename Newly _ _ _ _ => kN)
    k_dflt (k_extra "MemAll")

section
variable {prog : Program} {w : World} {A : Around} {E : Value → Shared → Prop} {s : Shared}
theorem pow100 {e : Nat} {t u : Tok} {Q : Value → Shared → Prop} (he : e ≤ 100) (h : ∀ tk t', Q (.int ((100 ^ e : Nat) : Int) t') { s with toks := tk }) : wpAny (model prog w) A (binaryOp .Pow (.int 100 t) (.int (e : Nat) u)) Q E s := by
  by_cases h0 : e = 0
  · subst h0
    exact AutoIntOps.pow_0 (by decide) (by decide) (h _ _)
  · refine AutoIntOps.pow_4 (Int.natCast_nonneg e) ?_ (by decide) (by decide) ?_ ?_
    · intro q; exact h0 (by simpa using q)
    · have e1 : Builtin.Int.intBits 100 = 7 := by decide +kernel
      rw [e1]
      unfold Builtin.Int.intTooBig
      have : ((7 : Nat) : Int) * (e : Nat) ≤ 700 := Int.mul_le_mul_of_nonneg_left (Int.ofNat_le.mpr he) (by decide)
      have hb : (700 : Int) ≤ ((bitsLine : Nat) : Int) := by decide +kernel
      intro q
      exact absurd (Int.le_trans this hb) (Int.not_le.mpr (of_decide_eq_true q))
    · have : (100 : Int) ^ ((e : Nat) : Int).toNat = ((100 ^ e : Nat) : Int) := by rw [Int.toNat_natCast]; exact (Int.natCast_pow 100 e).symm
      rw [this]
      exact h _ _
end
theorem memb_fdiv (n : Nat) : Int.fdiv (((100 ^ n : Nat) : Int) - 1) 99 = (((100 ^ n - 1) / 99 : Nat) : Int) := by
  rw [show (((100 ^ n : Nat) : Int) - 1) = ((100 ^ n - 1 : Nat) : Int) from (Int.ofNat_sub (Nat.pow_pos (by decide))).symm, Int.fdiv_eq_ediv_of_nonneg _ (by decide)]
  rfl
theorem su70bare_3 : True := by
  (k_with "binaryOp Pow int int" => ((fail_if_success k_extra "e75"); ((k_here; k_dflt (refine' pow100 ?ez75 ?_; (case ez75 => assumption)); intro tk' t'))))
  trivial
theorem members_c (w : World) (mg mb : Str → Option Value) (n : Nat) (t : Tok) (hn : 1 ≤ n ∧ n ≤ 6) :
   HC w mg mb (.ref 133) [.int n t] [] 2 20 [] (fun h => CodeHd h 99 95) (fun _ v news' => ∃ t', v = .int (((100 ^ n - 1) / 99 : Nat)) t' ∧ news' = []) := by
  intro p loose mean dp un gd cn cs a ccd cl outer A₀ base h₀ L m s Q E B F X N T hk HG hdp hun hret
  have he : n ≤ 100 := Nat.le_trans hn.2 (by decide)
  refine wpAny_call ?_
  k_dflt (k_extra "MyEnter")
  k_steps
  refine' hret _ _ _ _ ?kK (Newly.sub ?kN ?hs) ⟨_, ?eq, rfl⟩
  case kK => assumption
  case kN => assumption
  case hs => exact List.forall_mem_nil _
  case eq => exact congrArg (fun z => Value.int z _) (memb_fdiv n)

end

section
theorem su78coll_1 : True := by
  w_top off
  (k_with "e53" => skip)
  (k_with "e52" => skip)
  (k_with "e51" => skip)
  (k_with "e50" => skip)
  (k_with "e49" => skip)
  (k_with "e41" => skip)
  (k_with "e42" => skip)
  (k_with "e43" => skip)
  (k_with "e44" => skip)
  (k_with "e45" => skip)
  (k_with "e46" => skip)
  (k_with "e47" => skip)
  (k_with "e48" => skip)
  (k_with "e54" => skip)
  (k_with "e55" => skip)
  (k_with "e56" => skip)
  (k_with "e57" => skip)
  (k_with "e58" => skip)
  (k_with "e59" => skip)
  (k_with "e60" => skip)
  (k_with "e61" => skip)
  (k_with "e62" => skip)
  (k_with "e63" => skip)
  (k_with "e64" => skip)
  (k_with "e65" => skip)
  (k_with "e66" => skip)
  (k_with "e67" => skip)
  (k_with "e68" => skip)
  (k_with "e69" => skip)
  (k_with "e73" => skip)
  (k_with "e74" => skip)
  (k_with "e75" => skip)
  trivial
def ltS (x y : Str) : Bool := decide (x.cps.toList < y.cps.toList)
def collI (x y : Str) : Int := b2i (ltS y x) - b2i (ltS x y)
theorem coll_c (w : World) (mg mb : Str → Option Value) (x y : Str) (t u : Tok) :
   HC w mg mb (.ref 79) [.str x t, .str y u] [] 2 20 [] (fun h => CodeHd h 99 95) (fun _ v news' => ∃ t', v = .int (collI x y) t' ∧ news' = []) := by
  intro p loose mean dp un gd cn cs a ccd cl outer A₀ base h₀ L m s Q E B F X N T hk HG hdp hun hret
  refine wpAny_call ?_
  k_dflt (k_extra "MyEnter")
  k_steps
  refine' hret _ _ _ _ ?kK (Newly.sub ?kN ?hs) ⟨_, rfl, rfl⟩
  case kK => assumption
  case kN => assumption
  case hs => exact List.forall_mem_nil _

end

section
theorem su80ell_1 : True := by
  w_top off
  trivial
def findI (x y : Str) (a b : Nat) : Int := match Str.occurrences x y a b 1 with
  | k :: _ => (k : Int)
  | [] => -1
theorem gives_find4 (x y : Str) (i j : Nat) (t u v r : Tok) (hj : j ≤ x.length) : Gives (Builtin.«str.find» ⟨[.str x t, .str y u, .int (i : Nat) v, .int (j : Nat) r], []⟩) (.int (findI x y i j)) := by
  have h1 : ((max 0 (if ((i : Nat) : Int) < 0 then ((i : Nat) : Int) + x.length else ((i : Nat) : Int)) : Int)).toNat = i := by
    rw [if_neg (nneg i)]; exact clampN i
  have h2 : min ((max 0 (if ((j : Nat) : Int) < 0 then ((j : Nat) : Int) + x.length else ((j : Nat) : Int)) : Int)).toNat x.length = j := by
    rw [if_neg (nneg j), clampN]; exact Nat.min_eq_left hj
  show Gives (match Str.occurrences x y ((max 0 (if ((i : Nat) : Int) < 0 then ((i : Nat) : Int) + x.length else ((i : Nat) : Int)) : Int)).toNat (min ((max 0 (if ((j : Nat) : Int) < 0 then ((j : Nat) : Int) + x.length else ((j : Nat) : Int)) : Int)).toNat x.length) 1 with | k :: _ => retInt k | [] => (do rule "str.find.not-found"; retInt (-1))) _
  rw [h1, h2]
  unfold findI
  cases Str.occurrences x y i j 1 with
  | nil => exact .rule (.of_eq rfl)
  | cons k _ => exact .of_eq rfl
section
variable {prog : Program} {w : World} {A : Around} {E : Value → Shared → Prop} {s : Shared} {h₀ : Heap} {L : Addr} {news : List (Addr × Obj)} {m : Str → Option Value}
theorem findW {x y : Str} {i j : Nat} {t u v r : Tok} {k : Int} {Q : Value → Shared → Prop} (hk : findI x y i j = k) (hj : j ≤ x.length) (h : Q (.int k s.toks) { s with toks := s.toks + 1 }) :
    wpAny (model prog w) A (call (.builtin "str.find") [.str x t, .str y u, .int (i : Nat) v, .int (j : Nat) r]) Q E s :=
  call_gives F.slot_str_find (typeIs_str _ _ _) F.entry_str_find (F.args_str_find_4 _ _ _ _) (gives_find4 x y i j t u v r hj) (by rw [← hk] at h; exact h)
theorem lenK {l : Addr} {items : List Value} {n k : Nat} {Q : Value → Shared → Prop} (N : News h₀ L s.heap news) (hm : (l, listOf items.toArray n) ∈ news) (hk : items.length = k) (hz : k ≤ 1000)
    (h : Q (.int (k : Nat) (s.toks + 1)) { s with toks := s.toks + 1 + 1 }) : wpAny (model prog w) A (call (.builtin "len") [.ref l]) Q E s :=
  len_list (News.isList N hm) (by simp; omega) (by rw [← hk] at h; simpa using h)
theorem delLast {l : Addr} {items : List Value} {x : Value} {n : Nat} {t : Tok} {news' : List (Addr × Obj)} {Q : Unit → Shared → Prop} (F : Fr h₀ L s.heap m) (N : News h₀ L s.heap news) (hz : items.length ≤ 999)
    (U : Upd l (listOf (items ++ [x]).toArray n) (listOf items.toArray (n + 1)) news news') (h : ∀ h', Fr h₀ L h' m → News h₀ L h' news' → Q () { s with heap := h' }) :
    wpAny (model prog w) A (delItem (.ref l) (.int (-1) t)) Q E s := by
  have e : ∀ (l : List Value), ki_delL (l ++ [x]) l.length = some l := by
    intro l
    induction l with
    | nil => rfl
    | cons a r ih =>
      show ki_delL (a :: (r ++ [x])) (r.length + 1) = some (a :: r)
      unfold ki_delL
      rw [ih]
  refine ki_del (k := items.length) F N rfl ?_ (e items) U ?_ h
  · unfold seqIndex?
    simp
    rw [lastI]
    exact ⟨⟨Int.natCast_nonneg _, Int.lt_add_one_of_le (Int.le_refl _)⟩, rfl⟩
  · simp; exact Nat.le_trans (Nat.succ_le_succ hz : items.length + 1 ≤ 1000) (Nat.le_of_ble_eq_true rfl)
end

def stmtsAt (w : World) (f : Addr) : List Stmt := match (hd.heap_39 w.params).lookup f with
  | some ⟨_, _, .func fd, _⟩ => (match fd.body with | .stmts b => b | _ => [])
  | _ => []
def scopeAt (w : World) (f : Addr) : Scope := match (hd.heap_39 w.params).lookup f with
  | some ⟨_, _, .func fd, _⟩ => fd.scope
  | _ => default
def forBody : List Stmt → List Stmt
  | .For _ _ b _ _ :: _ => b
  | _ :: r => forBody r
  | [] => []
def findAll (y : Str) : List Str → Nat → Nat → Bool
  | [], _, _ => true
  | w :: ws, a, b => match Str.occurrences y w a b 1 with
    | k :: _ => findAll y ws (k + w.length) b
    | [] => false
theorem su80ell_2 : True := by
  (k_with "call builtin:str.find" => ((fail_if_success k_extra "e76"); ((k_here; k_dflt (refine' findW ?faz76 ?fbz76 ?_; (case faz76 => assumption); (case fbz76 => assumption); k_whole)))))
  trivial
theorem ellTurn (w : World) (mg mb : Str → Option Value)
   (p : Program) (loose : List Str) (mean : ExcName → Option Value) (dp un : Nat) (gd : Option (List Code)) (cn : Str) (cs : Scope) (a : Addr) (ccd : Value) (cl : List (Str × Addr)) (outer : List Env) (h₀ : Heap) (L L0 : Addr) (m : Str → Option Value) (s : Shared) (Q : Flow → Shared → Prop) (E : Value → Shared → Prop)
   (x y wv : Str) (tw ty ta tb : Tok) (i j : Nat) (news : List (Addr × Obj))
   (X : (hd.heap_39 w.params).In h₀) (T : Top p loose mean mg mb h₀) (F : Fr h₀ L s.heap (fun z => if z = "w" then some (.str wv tw) else m z)) (N : News h₀ L s.heap news)
   (m1 : m "got" = some (.str y ty)) (m2 : m "startpos" = some (.int (i : Nat) ta)) (m3 : m "endpos" = some (.int (j : Nat) tb)) (hj : j ≤ y.length) (hy : y.length ≤ 100000) (hw : wv.length ≤ 100000)
   (hdp : dp + 2 < recursionLimit) (hun : un + 10 < cLine)
   (Kn : Str.occurrences y wv i j 1 = [] → ∀ h tk m', Fr h₀ L h m' → News h₀ L h news → Q (.ret (.bool false)) { s with heap := h, toks := tk })
   (Kf : ∀ k r, Str.occurrences y wv i j 1 = k :: r → ∀ h tk m' t', Fr h₀ L h m' → News h₀ L h news → m' "got" = some (.str y ty) → m' "startpos" = some (.int ((k + wv.length : Nat) : Nat) t') → m' "endpos" = some (.int (j : Nat) tb) → Q .next { s with heap := h, toks := tk }) :
   wpAny (model pg w) (Around.deeper (ktrTop dp un gd cn cs L0 a ccd cl outer) (envOf "_ellipsis_match" (scopeAt w 72) L 72 (.ref 71))) (execs (forBody (stmtsAt w 72)) (envOf "_ellipsis_match" (scopeAt w 72) L 72 (.ref 71))) Q E s := by
  have e1 : forBody (stmtsAt w 72) = [_, _, _] := rfl
  have e2 : scopeAt w 72 = Scope.mk _ _ _ _ _ := rfl
  rw [e1, e2]
  have F := Mine.Fr.pin (Mine.Fr.pin (Mine.Fr.pin F (x := "got") m1) (x := "startpos") m2) (x := "endpos") m3
  rcases ho : Str.occurrences y wv i j 1 with _ | ⟨k, r⟩
  · have hf : findI y wv i j = -1 := by unfold findI; rw [ho]
    k_steps
    exact Kn ho _ _ _ (by k_asm) (by k_asm)
  · have hf : findI y wv i j = (k : Nat) := by unfold findI; rw [ho]
    k_steps
    exact Kf k r ho _ _ _ _ (by k_asm) (by k_asm) rfl rfl rfl
theorem ellLoop (w : World) (mg mb : Str → Option Value)
   (p : Program) (loose : List Str) (mean : ExcName → Option Value) (dp un : Nat) (gd : Option (List Code)) (cn : Str) (cs : Scope) (a : Addr) (ccd : Value) (cl : List (Str × Addr)) (outer : List Env) (h₀ : Heap) (L L0 : Addr) (s : Shared) (Q : Flow → Shared → Prop) (E : Value → Shared → Prop)
   (y : Str) (ty tb : Tok) (j : Nat) (I : Addr) (lp : Addr × Obj) (nw : List (Addr × Obj)) (hlp : lp ∈ nw) (hI : ∀ q ∈ nw, q.1 ≠ I)
   (X : (hd.heap_39 w.params).In h₀) (T : Top p loose mean mg mb h₀) (hj : j ≤ y.length) (hy : y.length ≤ 100000) (hdp : dp + 2 < recursionLimit) (hun : un + 10 < cLine) :
   ∀ (ws : List Str) (vs : List Value) (i : Nat) (ta : Tok) (m : Str → Option Value), StrsAre vs ws → (∀ x ∈ ws, x.length ≤ 100000) → m "got" = some (.str y ty) → m "startpos" = some (.int (i : Nat) ta) → m "endpos" = some (.int (j : Nat) tb) →
   (findAll y ws i j = false → ∀ h tk m', Fr h₀ L h m' → News h₀ L h nw → Q (.ret (.bool false)) { s with heap := h, toks := tk }) →
   (findAll y ws i j = true → ∀ h tk m', Fr h₀ L h m' → News h₀ L h nw → Q .next { s with heap := h, toks := tk }) →
   ListRest pg w (Around.deeper (ktrTop dp un gd cn cs L0 a ccd cl outer) (envOf "_ellipsis_match" (scopeAt w 72) L 72 (.ref 71))) E h₀ (envOf "_ellipsis_match" (scopeAt w 72) L 72 (.ref 71)) "w" (forBody (stmtsAt w 72)) Q s I lp vs m nw := by
  intro ws
  induction ws with
  | nil =>
    intro vs i ta m hvs _ m1 m2 m3 _ Kt
    cases hvs
    exact ListRest.zero fun h tk F N => Kt rfl h tk m F N
  | cons wv ws ih =>
    intro vs i ta m hvs hws m1 m2 m3 Kf Kt
    cases hvs with
    | cons _ t hr =>
      refine ListRest.succ fun it h tk hit F N => ?_
      refine ellTurn w mg mb p loose mean dp un gd cn cs a ccd cl outer h₀ L L0 m _ _ _ "" y wv t ty ta tb i j _ X T F N m1 m2 m3 hj hy (hws wv (.head _)) hdp hun ?_ ?_
      · intro ho h' tk' m' F' N'
        exact Kf (by rw [findAll, ho]) h' tk' m' F' (Newss.sub N' fun q hq => List.mem_cons_of_mem _ hq)
      · intro k r ho h' tk' m' t' F' N' e1 e2 e3
        refine ⟨h', tk', m', nw, rfl, F', N', hI, hlp, ih _ _ t' m' hr (fun x hx => hws x (.tail _ hx)) e1 e2 e3 ?_ ?_⟩
        · intro hf
          exact Kf (by rw [findAll, ho]; exact hf)
        · intro hf
          exact Kt (by rw [findAll, ho]; exact hf)

end

section
theorem su81ell_1 : True := by
  w_top off
  (k_with "e76" => skip)
  (k_with "OffAll" => ((fail_if_success k_extra "e77"); (first | exact List.forall_mem_nil _ | (refine' List.forall_mem_cons.mpr ⟨?oaz77, ?obz77⟩; (case oaz77 => k_ne); (case obz77 => k_extra "OffAll")))))
  trivial
theorem subLast1000 {prog : Program} {w : World} {A : Around} {E : Value → Shared → Prop} {s : Shared} {h₀ : Heap} {L : Addr} {news : List (Addr × Obj)} {value slice : Expr} {l : Addr} {items : List Value} {x : Value} {t : Tok} {Q : Value → Shared → Prop} {n : Nat} (N : News h₀ L s.heap news) (hm : (l, listOf (items ++ [x]).toArray n) ∈ news) (hz : items.length ≤ 1000) (h : Q x s)
    (hs : subscripted slice false (.ref l) (.int (-1) t) = operate [.ref l, .int (-1) t] (getItem (.ref l) (.int (-1) t)) := by with_unfolding_all rfl) (hg : ∀ r, letTemporaryGo value (.ref l) r = pure () := by intro _; with_unfolding_all rfl) :
    wpAny (model prog w) A (subscriptTail value slice (.ref l) (.int (-1) t)) Q E s :=
  subscriptTail_builtin (News.isList N hm).typeIs slot_list_getitem.lookup (wpAny_getItem_list_neg (News.isList N hm) (by decide) (by simp; omega) (by decide) (by
    have e : ((-1 : Int) + ((items ++ [x]).toArray.size : Int)).toNat = items.length := by simp; omega
    rw [e]; simp) h) hs hg
theorem su81ell_2 : True := by
  (k_with "call builtin:str.split" => ((fail_if_success k_extra "e78"); ((k_here; refine Hold.out ?_))))
  (k_with "pyIter ref" => ((fail_if_success k_extra "e79"); (((with_reducible show wpAny _ _ (pyIter (Value.ref _)) (fun it s₂ => LoopAtV _ _ _ _ _ _ _ _ _ it s₂) _ _); k_dflt (refine' iter_listUnr ?haz79 ?hFz79 ?hNz79 ?hmz79 ?hcz79 ?hdz79 ?_; (case haz79 => exact rfl); (case hFz79 => k_asm); (case hNz79 => k_asm); (case hmz79 => k_mem); (case hcz79 => exact rfl); (case hdz79 => exact rfl)); intro I' l1; (try k_lt l1); refine Hold.out ?_))))
  (k_with "call builtin:len" => ((fail_if_success k_extra "e80"); ((k_here; (with_reducible show wpAny _ _ (call (Value.builtin "len") [Value.ref _]) _ _ _); k_dflt (refine' lenK ?Nz80 ?mz80 ?kz80 ?zz80 ?_; (case Nz80 => k_asm); (case mz80 => k_mem); (case kz80 => assumption); (case zz80 => omega); k_whole)))))
  (k_with "delItem ref int" => ((fail_if_success k_extra "e81"); ((k_here; k_dflt (refine' delLast ?Fz81 ?Nz81 ?zz81 ?Uz81 ?_; (case Fz81 => k_asm); (case Nz81 => k_asm); (case Uz81 => k_upd); (case zz81 => omega)); intro h' F' N'; (try dsimp only [List.nil_append, List.cons_append] at N')))))
  (k_with "subscriptTail Name UnaryOp ref int" => ((fail_if_success k_extra "e82"); ((k_here; (with_reducible show wpAny _ _ (subscriptTail _ _ (Value.ref _) (Value.int (-1) _)) _ _ _); k_dflt (refine' subLast1000 ?Nz82 ?mz82 ?zz82 ?_; (case Nz82 => k_asm); (case mz82 => k_mem); (case zz82 => omega); k_whole)))))
  (k_with "subscriptTail Name Constant ref int" => ((fail_if_success k_extra "e83"); ((k_here; k_dflt (refine' subAtI ?Nz83 ?mz83 ?az83 ?xz83 ?zz83 ?_; (case Nz83 => k_asm); (case mz83 => k_mem); (case az83 => decide); (case xz83 => assumption); (case zz83 => omega); k_whole)))))
  trivial
theorem endsT {prog : Program} {w : World} {A : Around} {E : Value → Shared → Prop} {s : Shared} {x y : Str} {t u : Tok} {Q : Value → Shared → Prop} (h : Txt.endswith x y = true) (hq : Q (.bool true) s) : wpAny (model prog w) A (call (.builtin "str.endswith") [.str x t, .str y u]) Q E s := SC.endswith (by rw [h]; exact hq)
theorem su81ell_3 : True := by
  (k_with "call builtin:str.endswith" => ((fail_if_success k_extra "e84"); ((k_here; k_dflt (refine' endsT ?hz84 ?_; (case hz84 => assumption); k_whole)))))
  trivial
theorem splitForm {l : List (Str × Tok)} {mids : List Str} {last : Str} (e : l.map (·.1) = ⟨#[]⟩ :: (mids ++ [last])) :
    ∃ (items : List Value) (t0 tl : Tok), strValues l = items ++ [.str last tl] ∧ items[0]? = some (.str ⟨#[]⟩ t0) ∧ items.length = mids.length + 1 ∧ StrsAre items (⟨#[]⟩ :: mids) ∧ StrsAre (items ++ [.str last tl]) (⟨#[]⟩ :: (mids ++ [last])) := by
  have ap : ∀ (l1 : List (Str × Tok)), StrsAre (strValues l1) (l1.map (·.1)) := fun l1 => strsAre_of_values l1
  cases l with
  | nil => cases e
  | cons p r =>
    obtain ⟨a, t0⟩ := p
    injection e with e1 e2
    simp only at e1
    subst e1
    obtain ⟨r1, r2, rfl, f1, f2⟩ := List.map_eq_append_iff.mp e2
    cases r2 with
    | nil => cases f2
    | cons q r3 =>
      obtain ⟨b, tl⟩ := q
      injection f2 with g1 g2
      simp only at g1
      subst g1
      obtain rfl := List.map_eq_nil_iff.mp g2
      refine ⟨.str ⟨#[]⟩ t0 :: strValues r1, t0, tl, by simp [strValues], rfl, by simp [strValues, ← f1], ?_, ?_⟩
      · rw [← f1]; exact .cons _ _ (ap r1)
      · have := ap ((⟨#[]⟩, t0) :: (r1 ++ [(b, tl)]))
        simp only [List.map_cons, List.map_append, List.map_nil, f1] at this
        simpa [strValues] using this
def ellV (y : Str) (mids : List Str) (last : Str) : Bool := if last = ⟨#[]⟩ then findAll y (⟨#[]⟩ :: (mids ++ [last])) 0 y.length else findAll y (⟨#[]⟩ :: mids) 0 (y.length - last.length)
theorem strTruth {x : Str} (h : x ≠ ⟨#[]⟩) : (x.length == 0) = false := by
  apply beq_eq_false_iff_ne.mpr
  intro e
  apply h
  obtain ⟨l⟩ := x
  have : l.size = 0 := e
  rw [Array.size_eq_zero_iff.mp this]
def elIf (w : World) : Stmt := ((stmtsAt w 72).drop 7).headD default
theorem ellLast (w : World) (mg mb : Str → Option Value) (y last : Str) (u tl te ts : Tok) (l' : Addr) (its : List Value) (n : Nat)
   (p : Program) (loose : List Str) (mean : ExcName → Option Value) (dp un : Nat) (gd : Option (List Code)) (cn : Str) (cs : Scope) (a : Addr) (ccd : Value) (cl : List (Str × Addr)) (outer : List Env) (h₀ : Heap) (L L0 : Addr) (m : Str → Option Value) (s : Shared) (Q : Flow → Shared → Prop) (E : Value → Shared → Prop)
   (X : (hd.heap_39 w.params).In h₀) (T : Top p loose mean mg mb h₀) (F : Fr h₀ L s.heap m) (N : News h₀ L s.heap [(l', listOf (its ++ [Value.str last tl]).toArray n)])
   (m1 : m "w" = some (.str last tl)) (m2 : m "got" = some (.str y u)) (m3 : m "endpos" = some (.int (y.length : Nat) te)) (m4 : m "ws" = some (.ref l')) (m5 : m "startpos" = some (.int 0 ts))
   (hz : its.length ≤ 999) (hy : y.length ≤ 10000) (hl : last = ⟨#[]⟩ ∨ last ≠ ⟨#[]⟩ ∧ Txt.endswith y last = true ∧ last.length ≤ y.length)
   (K : ∀ h' tk' m' its' n' (ep : Nat) te', Fr h₀ L h' m' → News h₀ L h' [(l', listOf its'.toArray n')] → (last = ⟨#[]⟩ ∧ its' = its ++ [Value.str last tl] ∧ ep = y.length ∨ last ≠ ⟨#[]⟩ ∧ its' = its ∧ ep = y.length - last.length) →
     m' "got" = some (.str y u) → m' "endpos" = some (.int (ep : Nat) te') → m' "ws" = some (.ref l') → m' "startpos" = some (.int 0 ts) → Q .next { s with heap := h', toks := tk' }) :
   wpAny (model pg w) (Around.deeper (ktrTop dp un gd cn cs L0 a ccd cl outer) (envOf "_ellipsis_match" (scopeAt w 72) L 72 (.ref 71))) (exec (elIf w) (envOf "_ellipsis_match" (scopeAt w 72) L 72 (.ref 71))) Q E s := by
  have e1 : elIf w = Stmt.If _ _ _ _ := rfl
  have e2 : scopeAt w 72 = Scope.mk _ _ _ _ _ := rfl
  have F := Mine.Fr.pin (Mine.Fr.pin (Mine.Fr.pin (Mine.Fr.pin (Mine.Fr.pin F (x := "w") m1) (x := "got") m2) (x := "endpos") m3) (x := "ws") m4) (x := "startpos") m5
  rw [e1, e2]
  rcases hl with hl | ⟨hl1, hl2, hl3⟩
  · subst hl
    k_steps
    refine' K _ _ _ _ _ _ _ ?F ?N (.inl ⟨rfl, rfl, rfl⟩) ?n1 ?n2 ?n3 ?n4
    case F => k_asm
    case N => k_asm
    case n1 => exact rfl
    case n2 => exact rfl
    case n3 => exact rfl
    case n4 => exact rfl
  · have q9 : 0 < last.length := by
      rcases Nat.eq_zero_or_pos last.length with h | h
      · have := strTruth hl1; rw [h] at this; cases this
      · exact h
    k_steps
    rotate_left 1
    · exfalso; omega
    refine' K _ _ _ _ _ (y.length - last.length) _ ?Fb ?Nb (.inr ⟨hl1, rfl, rfl⟩) ?b1 ?ep ?b3 ?b4
    case Fb => k_asm
    case Nb => k_asm
    case b1 => exact rfl
    case b3 => exact rfl
    case b4 => exact rfl
    case ep => exact congrArg (fun z : Int => some (Value.int z _)) (Int.ofNat_sub hl3).symm
theorem ellPick {y last : Str} {tl : Tok} {mids : List Str} {its its' : List Value} {ep : Nat} (q4 : StrsAre its (⟨#[]⟩ :: mids)) (q5 : StrsAre (its ++ [Value.str last tl]) (⟨#[]⟩ :: (mids ++ [last]))) (q10 : ∀ z ∈ (⟨#[]⟩ : Str) :: mids, z.length ≤ 100000)
   (h : last = ⟨#[]⟩ ∧ its' = its ++ [Value.str last tl] ∧ ep = y.length ∨ last ≠ ⟨#[]⟩ ∧ its' = its ∧ ep = y.length - last.length) :
   ∃ ss, StrsAre its' ss ∧ (∀ z ∈ ss, z.length ≤ 100000) ∧ ellV y mids last = findAll y ss 0 ep ∧ ep ≤ y.length := by
  rcases h with ⟨h1, rfl, rfl⟩ | ⟨h1, rfl, rfl⟩
  · refine ⟨_, q5, fun z hz => ?_, if_pos h1, Nat.le_refl _⟩
    rw [← List.cons_append] at hz
    rcases List.mem_append.mp hz with hz | hz
    · exact q10 z hz
    · rw [List.mem_singleton.mp hz, h1]; exact Nat.zero_le _
  · exact ⟨_, q4, q10, if_neg h1, Nat.sub_le _ _⟩
theorem su81ell_4 : True := by
  (k_with "exec If" => ((fail_if_success k_extra "e85"); ((k_here; (with_reducible show wpAny _ _ (PySem.exec (Stmt.If (Expr.Name (Str.ofString "w") _) [Stmt.If (Expr.Call (Expr.Attribute _ (Str.ofString "endswith") _) _ _ _) _ _ _] _ _) _) _ _ _); refine Hold.out ?_))))
  trivial
theorem ell_c (w : World) (mg mb : Str → Option Value) (x y : Str) (t u : Tok) (mids : List Str) (last : Str) (hsp : Txt.split x "..." = ⟨#[]⟩ :: (mids ++ [last])) (hin : (Str.occurrences x "..." 0 x.length 1).isEmpty = false)
   (hl : last = ⟨#[]⟩ ∨ last ≠ ⟨#[]⟩ ∧ Txt.endswith y last = true ∧ last.length ≤ y.length) (hx : x.length ≤ 10000) (hy : y.length ≤ 10000) (hm : mids.length ≤ 90) (hms : ∀ x ∈ mids, x.length ≤ 10000) :
   HC w mg mb (.ref 72) [.str x t, .str y u] [] 4 40 [] (fun h => CodeHd h 99 95) (fun _ v news' => v = .bool (ellV y mids last) ∧ news' = []) := by
  intro p loose mean dp un gd cn cs a ccd cl outer A₀ base h₀ L m s Q E B F X N T hk HG hdp hun hret
  refine wpAny_call ?_
  k_dflt (k_extra "MyEnter")
  k_steps
  refine ⟨?_⟩
  refine KSpl.split1 (by k_asm) (by k_asm) (by decide +kernel) ?_ (by rw [sizeLine_eq]; omega)
  intro D' l' h' k' e' a' F' N' l1
  rw [hsp] at e'
  obtain ⟨items, t0, tl, q1, q2, q3, q4, q5⟩ := splitForm e'
  rw [q1] at N'
  clear a' e' q1
  k_lt l1
  have q7 : (items ++ [Value.str last tl])[Int.toNat 0]? = some (.str ⟨#[]⟩ t0) := by
    rw [List.getElem?_append_left (by rw [q3]; exact Nat.succ_pos _)]; exact q2
  have q6 : (items ++ [Value.str last tl]).length = mids.length + 2 := by simp [q3]
  have q8 : (items ++ [Value.str last tl]).length ≤ 100000 := by omega
  have q10 : ∀ z ∈ (⟨#[]⟩ : Str) :: mids, z.length ≤ 100000 := fun z hz => by
    rcases List.mem_cons.mp hz with rfl | hz
    · exact Nat.zero_le _
    · exact Nat.le_trans (hms z hz) (by decide)
  have fin : ∀ (b : Bool), ellV y mids last = b → ∀ (g : Heap) (L' : Addr) (m' : Str → Option Value) (nw : List (Addr × Obj)) (h : Heap) (tk : Nat), Fr g L' h m' → News g L' h nw → MyLeave s.heap (List.map (·.1) ([] : List (Addr × Obj))) g
      (fun r s' => match r with | .ok (.ret v) => Q v s' | .ok _ => False | .error e => E e s') (.bool b) { s with heap := h, toks := tk } := by
    intro b hb g L' m' nw h tk F N
    refine ⟨L', m', [], F, Newss.sub N (List.forall_mem_nil _), fun kK kN => hret _ _ _ _ kK kN ⟨by rw [hb], rfl⟩⟩
  k_steps
  refine ⟨?_⟩
  refine' ellLast w mg mb y last u tl _ _ D' items _ p loose mean _ _ _ _ _ _ _ _ _ _ _ _ _ _ _ _ ?X ?T ?F ?N ?m1 ?m2 ?m3 ?m4 ?m5 ?z hy hl ?K
  case X => assumption
  case T => assumption
  case F => k_asm
  case N => exact Newss.sub (by k_asm) (List.forall_mem_cons.mpr ⟨by k_mem, List.forall_mem_nil _⟩)
  case m1 => exact rfl
  case m2 => exact rfl
  case m3 => exact rfl
  case m4 => exact rfl
  case m5 => exact rfl
  case z => rw [q3]; exact Nat.le_trans (Nat.succ_le_succ hm) (by decide)
  intro h' tk' m' its' n' ep te' F' N' e n1 n2 n3 n4
  have F' := Mine.Fr.pin (Mine.Fr.pin (Mine.Fr.pin (Mine.Fr.pin F' (x := "got") n1) (x := "endpos") n2) (x := "ws") n3) (x := "startpos") n4
  obtain ⟨ss, q5, q11, hV, hep⟩ := ellPick q4 q5 q10 e
  rw [hV] at fin
  have q12 : its'.length ≤ 1000 := by
    rcases e with ⟨_, rfl, _⟩ | ⟨_, rfl, _⟩
    · rw [q6]; exact Nat.le_trans (Nat.add_le_add_right hm 2) (by decide)
    · rw [q3]; exact Nat.le_trans (Nat.succ_le_succ hm) (by decide)
  clear q6 q8 q4 q10 e hl
  k_steps
  all_goals (try (exfalso; omega))
  refine ⟨?_⟩
  refine' ellLoop w mg mb p loose mean _ _ _ _ _ _ _ _ _ _ _ _ _ _ _ y u _ ep _ _ _ ?lp ?hI ?X ?T hep (Nat.le_trans hy (by decide)) ?e1 ?e2 _ _ 0 _ _ q5 q11 rfl rfl rfl ?Kf ?Kt
  case X => k_asm
  case T => k_asm
  case lp => k_mem
  case hI => k_extra "OffAll"
  case e1 => ktr_room
  case e2 => ktr_units
  case Kf => exact fun hf h tk m' F N => fin false hf _ _ _ _ _ _ F N
  case Kt =>
    intro hf h tk m' F N
    show wpAny _ _ (execs _ _) _ _ _
    k_steps
    refine' hret _ _ _ _ ?kK (Newly.sub ?kN (List.forall_mem_nil _)) ⟨by rw [hV, hf], rfl⟩
    case kK => assumption
    case kN => assumption

end

section
theorem setL_of : ∀ (l : List Value) (n : Nat) (v : Value), n < l.length → ki_setL l n v = some (l.set n v)
  | [], _, _, h => absurd h (Nat.not_lt_zero _)
  | _ :: _, 0, _, _ => rfl
  | x :: r, n + 1, v, h => by
    unfold ki_setL
    rw [setL_of r n v (by simpa using h)]
    rfl
section
variable {prog : Program} {w : World} {A : Around} {E : Value → Shared → Prop} {s : Shared} {h₀ : Heap} {L : Addr} {news news' : List (Addr × Obj)} {m : Str → Option Value}
theorem getItemE {l : Addr} {items : List Value} {x : Value} {j : Int} {k : Nat} {t : Tok} {Q : Value → Shared → Prop} {n : Nat} (N : News h₀ L s.heap news) (hm : (l, listOf items.toArray n) ∈ news) (hj : j = (k : Nat)) (hx : items[k]? = some x) (hz : items.length ≤ 100) (h : Q x s) :
    wpAny (model prog w) A (getItem (.ref l) (.int j t)) Q E s := by
  subst hj
  exact listSize N hm hx hz h
theorem setItemE {l : Addr} {items : List Value} {v : Value} {j : Int} {k : Nat} {t : Tok} {Q : Unit → Shared → Prop} {n : Nat} (F : Fr h₀ L s.heap m) (N : News h₀ L s.heap news) (hj : j = (k : Nat)) (hk : k < items.length) (hz : items.length ≤ 100)
    (U : Upd l (listOf items.toArray n) (listOf (items.set k v).toArray n) news news') (h : ∀ h', Fr h₀ L h' m → News h₀ L h' news' → Q () { s with heap := h' }) :
    wpAny (model prog w) A (setItem (.ref l) (.int j t) v) Q E s := by
  subst hj
  exact ki_set (its := items.toArray) (k := (k : Nat)) F N (Int.natCast_nonneg k) (by omega) (setL_of items k v hk) U h
theorem subAtL {value slice : Expr} {l : Addr} {items : List Value} {x : Value} {j : Int} {k : Nat} {t : Tok} {Q : Value → Shared → Prop} (N : s.heap.IsList l items.toArray) (hj : j = (k : Nat)) (hx : items[k]? = some x) (hz : items.length ≤ 100) (h : Q x s)
    (hs : subscripted slice false (.ref l) (.int j t) = operate [.ref l, .int j t] (getItem (.ref l) (.int j t)) := by with_unfolding_all rfl) :
    wpAny (model prog w) A (subscriptTail value slice (.ref l) (.int j t)) Q E s := by
  subst hj
  refine tail_any N.typeIs slot_list_getitem.lookup (wpAny_getItem_list N (by omega) ?_ (by simpa using hx) h) hs
  have := (List.getElem?_eq_some_iff.mp hx).1
  omega
theorem isList_fr {l : Addr} {vs : Array Value} (F : Fr h₀ L s.heap m) (h : h₀.IsList l vs) : s.heap.IsList l vs := by
  obtain ⟨o, ho, hc⟩ := h
  exact ⟨o, F.keep _ _ ho, hc⟩
theorem isList_below {A₀ : Around} {base : Heap} {outer : List Env} {l : Addr} {vs : Array Value} (B : Below A₀ base outer h₀) (h : base.IsList l vs) : h₀.IsList l vs := by
  obtain ⟨o, ho, hc⟩ := h
  exact ⟨o, B.stays _ _ ho, hc⟩
end
theorem IntsAre.set' {vs : List Value} {ns : List Int} (h : IntsAre vs ns) : ∀ (k : Nat) (x : Int) (t : Tok), IntsAre (vs.set k (.int x t)) (ns.set k x) := by
  induction h with
  | nil => exact fun _ _ _ => .nil
  | cons n u _ ih =>
    intro k x t
    cases k with
    | zero => exact .cons x t (by assumption)
    | succ k => exact .cons n u (ih k x t)
theorem newListO {M : Model} {A : Around} {E : Value → Shared → Prop} {s : Shared} {h₀ : Heap} {L : Addr} {news : List (Addr × Obj)} {m : Str → Option Value} {vs : List Value} {Q : Value → Shared → Prop} (F : Fr h₀ L s.heap m) (N : News h₀ L s.heap news)
    (h : ∀ l h', Fr h₀ L h' m → News h₀ L h' ((l, listOf vs.toArray 0) :: news) → (∀ p ∈ news, p.1 < l) → @LT.lt Nat _ L l → Q (.ref l) { s with heap := h' }) (hsz : vs.length ≤ sizeLine) : wpAny M A (newList vs) Q E s :=
  newList_N F N (fun h' F' N' => h _ h' F' N' (fun p hp => Heap.lt_size (N p hp).1) F.ns.lt) hsz
theorem iteF {a b : Prop} (h : b) : if false = true then a else b := by rw [if_neg Bool.false_ne_true]; exact h
theorem iteT {a b : Prop} (h : a) : if true = true then a else b := by rw [if_pos rfl]; exact h

end

section
theorem su76cells_1 : True := by
  w_top off
  (k_with "e80" => skip)
  (k_with "e83" => skip)
  (k_with "e82" => skip)
  (k_with "e77" => skip)
  (k_with "e78" => skip)
  (k_with "e79" => skip)
  (k_with "e81" => skip)
  (k_with "e84" => skip)
  (k_with "e85" => skip)
  (k_with "ite" => ((fail_if_success k_extra "e86"); (first | with_reducible refine iteF ?_ | with_reducible refine iteT ?_)))
  (k_with "newList" => ((fail_if_success k_extra "e87"); ((k_here; k_dflt (refine' newListO ?k1z87 ?k2z87 ?_ ?zz87; (case k1z87 => k_asm); (case k2z87 => k_asm); (case zz87 => exact Nat.le_of_ble_eq_true rfl); k_whole); intro l' h' F' N' l1 l2; (try k_lt l1); (try k_sweep)))))
  (k_with "getItem ref int" => ((fail_if_success k_extra "e88"); ((k_here; k_dflt (refine' getItemE ?Nz88 ?mz88 ?jz88 ?xz88 ?zz88 ?_; (case Nz88 => k_asm); (case mz88 => k_mem); (case jz88 => assumption); (case xz88 => assumption); (case zz88 => omega); k_whole)))))
  (k_with "setItem ref int" => ((fail_if_success k_extra "e89"); ((k_here; k_dflt (refine' setItemE ?Fz89 ?Nz89 ?jz89 ?kz89 ?zz89 ?Uz89 ?_; (case Fz89 => k_asm); (case Nz89 => k_asm); (case jz89 => assumption); (case kz89 => omega); (case zz89 => omega); (case Uz89 => k_upd)); intro h' F' N'; (try dsimp only [List.nil_append, List.cons_append] at N')))))
  (k_with "subscriptTail Name Name ref int" => ((fail_if_success k_extra "e90"); ((k_here; k_dflt (refine' subAtL ?Nz90 ?jz90 ?xz90 ?zz90 ?_; (case Nz90 => exact isList_fr (by k_asm) (by assumption)); (case jz90 => with_reducible exact rfl); (case xz90 => assumption); (case zz90 => omega); k_whole)))))
  trivial
def cellsScope (w : World) : Scope := scopeAt w 86
theorem cellTurn (w : World) (mg mb : Str → Option Value)
   (p : Program) (loose : List Str) (mean : ExcName → Option Value) (dp un : Nat) (gd : Option (List Code)) (cn : Str) (cs : Scope) (a : Addr) (ccd : Value) (cl : List (Str × Addr)) (outer : List Env) (h₀ : Heap) (L L0 : Addr) (m : Str → Option Value) (s : Shared) (Q : Flow → Shared → Prop) (E : Value → Shared → Prop)
   (sc l : Addr) (vs vals : List Value) (ns cells : List Int) (k : Nat) (tk : Tok) (n : Nat) (I : Addr) (it : Obj)
   (X : (hd.heap_39 w.params).In h₀) (T : Top p loose mean mg mb h₀) (F : Fr h₀ L s.heap (fun z => if z = "k" then some (.int (k : Nat) tk) else m z)) (N : News h₀ L s.heap [(I, it), (l, listOf vals.toArray n)])
   (hlI : @LT.lt Nat _ l I) (hS : h₀.IsList sc vs.toArray) (hI : IntsAre vs ns) (hv : IntsAre vals cells) (hk : k < ns.length) (hn : ns.length ≤ 63) (hc : cells.length = 10) (hb : ∀ c ∈ cells, 0 ≤ c ∧ c ≤ 8 + 1000000 * (k : Int))
   (m1 : m "cells" = some (.ref l)) (m2 : m "script" = some (.ref sc))
   (hdp : dp + 2 < recursionLimit) (hun : un + 10 < cLine)
   (K : ∀ h tk' m' vals' cells', Fr h₀ L h m' → News h₀ L h [(I, it), (l, listOf vals'.toArray n)] → m' "cells" = some (.ref l) → m' "script" = some (.ref sc) → IntsAre vals' cells' → cells'.length = 10 → (∀ c ∈ cells', 0 ≤ c ∧ c ≤ 8 + 1000000 * ((k + 1 : Nat) : Int)) → Q .next { s with heap := h, toks := tk' }) :
   wpAny (model pg w) (Around.deeper (ktrTop dp un gd cn cs L0 a ccd cl outer) (envOf "_law_cells" (scopeAt w 86) L 86 (.ref 85))) (execs (forBody (stmtsAt w 86)) (envOf "_law_cells" (scopeAt w 86) L 86 (.ref 85))) Q E s := by
  have e1 : forBody (stmtsAt w 86) = [_] := rfl
  have e2 : scopeAt w 86 = Scope.mk _ _ _ _ _ := rfl
  rw [e1, e2]
  have F := Mine.Fr.pin (Mine.Fr.pin F (x := "cells") m1) (x := "script") m2
  have lv := IntsAre.length hv
  have lvs := IntsAre.length hI
  have hj : Int.fmod (k : Nat) 10 = ((k % 10 : Nat) : Int) := by
    rw [Int.fmod_eq_emod_of_nonneg _ (by decide)]; rfl
  have hkc : k % 10 < cells.length := omLe (Nat.mod_lt k (by decide)) hc
  obtain ⟨tc, hvx⟩ := IntsAre.get hv (k % 10) _ (List.getElem?_eq_getElem hkc)
  obtain ⟨tn, hsx⟩ := IntsAre.get hI k _ (List.getElem?_eq_getElem hk)
  have hkv : k % 10 < vals.length := omLe hkc lv
  have hb0 := hb _ (List.getElem_mem hkc)
  generalize hc0 : cells[k % 10] = c0 at hvx hb0
  generalize hn0 : ns[k] = x0 at hsx
  k_steps
  refine' K _ _ _ _ (cells.set (k % 10) _) (by k_asm) (by k_asm) rfl rfl (IntsAre.set' hv _ _ _) (by rw [List.length_set]; exact hc) ?_
  intro c hcm
  rcases List.mem_or_eq_of_mem_set hcm with h | h
  · exact ⟨(hb c h).1, Int.le_trans (hb c h).2 (Int.add_le_add_left (Int.mul_le_mul_of_nonneg_left (Int.ofNat_le.mpr (Nat.le_succ k)) (by decide)) 8)⟩
  · subst h
    have q1 := Int.fmod_nonneg_of_pos x0 (show (0 : Int) < 1000000 by decide)
    have q2 := Int.fmod_lt_of_pos x0 (show (0 : Int) < 1000000 by decide)
    have e6 : ((10 : Int) ^ 6) = 1000000 := by decide
    constructor
    · refine Int.add_nonneg hb0.1 ?_
      exact q1
    · have : c0 + Int.fmod x0 1000000 ≤ 8 + 1000000 * ((k + 1 : Nat) : Int) := by
        show _ ≤ 8 + 1000000 * ((k : Int) + 1)
        rw [Int.mul_add, Int.mul_one, ← Int.add_assoc]; exact Int.add_le_add hb0.2 (Int.le_of_lt q2)
      exact this
structure CellsOk (vals : List Value) (cells : List Int) (k : Nat) : Prop where
  hints : IntsAre vals cells
  hlen : cells.length = 10
  hbnd : ∀ c ∈ cells, 0 ≤ c ∧ c ≤ 8 + 1000000 * (k : Int)
theorem cellLoop (w : World) (mg mb : Str → Option Value)
   (p : Program) (loose : List Str) (mean : ExcName → Option Value) (dp un : Nat) (gd : Option (List Code)) (cn : Str) (cs : Scope) (a : Addr) (ccd : Value) (cl : List (Str × Addr)) (outer : List Env) (h₀ : Heap) (L L0 : Addr) (s : Shared) (Q : Flow → Shared → Prop) (E : Value → Shared → Prop)
   (sc l : Addr) (vs : List Value) (ns : List Int) (n : Nat) (I : Addr)
   (X : (hd.heap_39 w.params).In h₀) (T : Top p loose mean mg mb h₀)
   (hlI : @LT.lt Nat _ l I) (hS : h₀.IsList sc vs.toArray) (hI : IntsAre vs ns) (hn : ns.length ≤ 63)
   (hdp : dp + 2 < recursionLimit) (hun : un + 10 < cLine)
   (K : ∀ h tk' m' vals' cells', Fr h₀ L h m' → News h₀ L h [(l, listOf vals'.toArray n)] → m' "cells" = some (.ref l) → CellsOk vals' cells' ns.length → Q .next { s with heap := h, toks := tk' }) :
   ∀ d k m vals cells, k + d = ns.length → CellsOk vals cells k → m "cells" = some (.ref l) → m "script" = some (.ref sc) →
     RangeRest pg w (Around.deeper (ktrTop dp un gd cn cs L0 a ccd cl outer) (envOf "_law_cells" (scopeAt w 86) L 86 (.ref 85))) E h₀ (envOf "_law_cells" (scopeAt w 86) L 86 (.ref 85)) "k" (forBody (stmtsAt w 86)) Q s I 0 ns.length d k m [(l, listOf vals.toArray n)] := by
  intro d
  induction d with
  | zero =>
    intro k m vals cells hk C m1 m2
    obtain rfl : k = ns.length := by omega
    exact RangeRest.zero fun h tk F N => K h tk m vals cells F N m1 C
  | succ d ih =>
    intro k m vals cells hk C m1 m2
    refine RangeRest.succ fun t h tk F N => ?_
    rw [Int.zero_add] at F
    refine cellTurn w mg mb p loose mean dp un gd cn cs a ccd cl outer h₀ L L0 m _ _ _ sc l vs vals ns cells k t n I _ X T F N hlI hS hI C.hints (by omega) hn C.hlen C.hbnd m1 m2 hdp hun ?_
    intro h' tk' m' vals' cells' F' N' e1 e2 c1 c2 c3
    refine ⟨h', tk', m', _, rfl, F', N', fun q hq => ?_, ih (k + 1) m' vals' cells' (by omega) ⟨c1, c2, c3⟩ e1 e2⟩
    obtain rfl := List.mem_singleton.mp hq
    exact Nat.ne_of_lt hlI
theorem lenL {prog : Program} {w : World} {A : Around} {E : Value → Shared → Prop} {s : Shared} {l : Addr} {items : List Value} {Q : Value → Shared → Prop} (N : s.heap.IsList l items.toArray) (hz : items.length ≤ 1000)
    (h : Q (.int (items.length : Nat) (s.toks + 1)) { s with toks := s.toks + 1 + 1 }) : wpAny (model prog w) A (call (.builtin "len") [.ref l]) Q E s :=
  len_list N (by simp; omega) (by simpa using h)
theorem su76cells_2 : True := by
  (k_with "call builtin:len" => ((fail_if_success k_extra "e91"); ((k_here; (with_reducible show wpAny _ _ (call (Value.builtin "len") [Value.ref _]) _ _ _); k_dflt (refine' lenL ?Nz91 ?zz91 ?_; (case Nz91 => exact isList_fr (by k_asm) (by assumption)); (case zz91 => omega); k_whole)))))
  (k_with "pyIter ref" => ((fail_if_success k_extra "e92"); (((with_reducible show wpAny _ _ (pyIter (Value.ref _)) (fun it s₂ => LoopAtV _ _ _ _ _ _ _ _ _ it s₂) _ _); refine Hold.out ?_))))
  trivial
theorem cells_c (w : World) (mg mb : Str → Option Value) (sc : Addr) (ns : List Int) (vs : List Value) (hI : IntsAre vs ns) (hn : ns.length ≤ 63) :
   HC w mg mb (.ref 86) [.ref sc] [] 3 20 [] (fun h => h.IsList sc vs.toArray) (fun H v news' => ∃ l vals cells, v = .ref l ∧ news' = [(l, listOf vals.toArray 0)] ∧ CellsOk vals cells ns.length ∧ @LE.le Nat _ H.objs.size l) := by
  intro p loose mean dp un gd cn cs a ccd cl outer A₀ base h₀ L m s Q E B F X N T hk HG hdp hun hret
  have lvs := IntsAre.length hI
  refine wpAny_call ?_
  k_dflt (k_extra "MyEnter")
  (with_reducible rename Below _ _ _ _ => kB)
  have hS := isList_below kB HG
  k_steps
  refine ⟨?_⟩
  (with_reducible rename IsRange _ _ _ _ _ _ _ _ => kR)
  (with_reducible rename News _ _ _ _ => kN0)
  refine' iter_rangeUnr (n := ns.length) (by rfl) kR ?sm ?nn (by k_asm) kN0 ?_
  case sm => exact small_one (by decide) (by decide) (by omega) (by omega)
  case nn => rw [rangeSize_nat]; first | rfl | omega
  intro I' l1
  (try k_lt l1)
  refine' cellLoop w mg mb p loose mean _ _ _ _ _ _ _ _ _ _ _ _ _ _ _ sc _ vs ns _ I' ?X ?T ?l ?S ?I hn ?e1 ?e2 ?K ns.length 0 _ _ [4, 3, 0, 4, 1, 1, 0, 3, 5, 8] (by omega) ⟨?c1, rfl, ?c3⟩ rfl rfl
  case X => k_asm
  case T => k_asm
  case S => assumption
  case I => assumption
  case l => omega
  case e1 => ktr_room
  case e2 => ktr_units
  case c1 => exact .cons _ _ (.cons _ _ (.cons _ _ (.cons _ _ (.cons _ _ (.cons _ _ (.cons _ _ (.cons _ _ (.cons _ _ (.cons _ _ .nil)))))))))
  case c3 => decide
  case K =>
    intro h' tk' m' vals' cells' F' N' e1 C
    have F' := Mine.Fr.pin F' (x := "cells") e1
    dsimp only
    k_steps
    refine' hret _ _ _ _ ?kK (Newly.sub ?kN ?hs) ⟨_, _, _, rfl, rfl, C, ?l⟩
    case kK => assumption
    case kN => assumption
    case l => omega
    case hs => exact fun q hq => hq

end

section
def repL (c : Nat) (r : List Nat) (l : List Nat) : List Nat := l.flatMap fun a => if a = c then r else [a]
theorem repL_app (c : Nat) (r a b : List Nat) : repL c r (a ++ b) = repL c r a ++ repL c r b := by simp [repL]
theorem repL_free (c : Nat) (r : List Nat) : ∀ l : List Nat, c ∉ l → repL c r l = l
  | [], _ => rfl
  | k :: t, h => by
    have h1 : ¬ k = c := fun e => h (e ▸ List.mem_cons_self ..)
    have h2 := repL_free c r t fun m => h (List.mem_cons_of_mem _ m)
    show (if k = c then r else [k]) ++ repL c r t = _
    rw [if_neg h1, h2]; rfl
theorem repL_join (c : Nat) (z : Str) : ∀ parts : List Str, (∀ p ∈ parts, c ∉ p.cps.toList) → repL c z.cps.toList (Str.join ⟨#[c]⟩ parts).cps.toList = (Str.join z parts).cps.toList
  | [], _ => rfl
  | [p], h => repL_free c _ _ (h p (List.mem_singleton.mpr rfl))
  | p :: q :: r, h => by
    have ih := repL_join c z (q :: r) fun a ha => h a (List.mem_cons_of_mem _ ha)
    show repL c _ (p ++ ⟨#[c]⟩ ++ Str.join ⟨#[c]⟩ (q :: r)).cps.toList = (p ++ z ++ Str.join z (q :: r)).cps.toList
    simp only [Str.cps_append, Array.toList_append]
    rw [repL_app, repL_app, ih, repL_free c _ _ (h p (List.mem_cons_self ..))]
    have e : repL c z.cps.toList [c] = z.cps.toList := by simp [repL]
    rw [e]
def repS (c : Nat) (z x : Str) : Str := ⟨(repL c z.cps.toList x.cps.toList).toArray⟩
theorem replace_rep (x z : Str) (c : Nat) : Txt.replace x ⟨#[c]⟩ z = repS c z x := by
  apply StrLaws.mk_of_toList
  rw [StrLaws.replace_one, ← repL_join c z _ (StrLaws.split_free x c), StrLaws.join_split]
theorem repS_free {x z : Str} {c : Nat} (h : (Str.occurrences x ⟨#[c]⟩ 0 x.length 1).isEmpty = true) : repS c z x = x := by
  have h1 := StrLaws.found_one x c
  rw [h] at h1
  have h2 : c ∉ x.cps.toList := of_decide_eq_false h1.symm
  exact (StrLaws.mk_of_toList (repL_free c _ _ h2).symm).symm
theorem repS_length (c : Nat) (z x : Str) (hz : z.length ≤ 8) : (repS c z x).length ≤ 8 * x.length := by
  show (repL c z.cps.toList x.cps.toList).toArray.size ≤ 8 * x.cps.size
  rw [List.size_toArray, ← Array.length_toList (xs := x.cps)]
  have hz' : z.cps.toList.length ≤ 8 := by rw [Array.length_toList]; exact hz
  induction x.cps.toList with
  | nil => exact Nat.zero_le _
  | cons a l ih =>
    show ((if a = c then z.cps.toList else [a]) ++ repL c z.cps.toList l).length ≤ 8 * (l.length + 1)
    rw [List.length_append]
    by_cases h : a = c
    · rw [if_pos h]; omega
    · rw [if_neg h]; simp only [List.length_singleton]; omega

end

section
theorem su72esc_1 : True := by
  w_top off
  (k_with "e91" => skip)
  (k_with "e90" => skip)
  (k_with "e87" => skip)
  (k_with "e92" => skip)
  (k_with "e86" => skip)
  (k_with "e88" => skip)
  (k_with "e89" => skip)
  trivial
theorem gentok {M : Model} {A : Around} {α : Type} {t : Sem α} {Q : α → Shared → Prop} {E : Value → Shared → Prop} {h : Heap} {g : _} {dr : _} {X : Nat} {os : _} (hX : 0 < X) (k : ∀ tk, 0 < tk → wpAny M A t Q E { heap := h, gens := g, drawn := dr, toks := tk, os := os }) :
   wpAny M A t Q E { heap := h, gens := g, drawn := dr, toks := X, os := os } := k X hX
def entL (tab : List (Nat × Str)) (a : Nat) : List Nat := match tab.find? (·.1 == a) with
  | some p => p.2.cps.toList
  | none => [a]
def escS (tab : List (Nat × Str)) (x : Str) : Str := ⟨(x.cps.toList.flatMap (entL tab)).toArray⟩
theorem escS_nil (x : Str) : escS [] x = x := by
  symm
  apply StrLaws.mk_of_toList
  show _ = x.cps.toList.flatMap fun a => [a]
  simp
def tabOk (tab : List (Nat × Str)) (c : Nat) : Bool := tab.all fun p => (p.1 != c) && !(p.2.cps.toList.contains c)
theorem repL_flat (c : Nat) (r : List Nat) (f g : Nat → List Nat) (h : ∀ a, repL c r (f a) = g a) : ∀ l : List Nat, repL c r (l.flatMap f) = l.flatMap g
  | [] => rfl
  | a :: l => by rw [List.flatMap_cons, List.flatMap_cons, repL_app, h, repL_flat c r f g h l]
theorem repL_ent (tab : List (Nat × Str)) (c : Nat) (z : Str) (h : tabOk tab c = true) (a : Nat) : repL c z.cps.toList (entL tab a) = entL (tab ++ [(c, z)]) a := by
  have ht : ∀ p ∈ tab, p.1 ≠ c ∧ c ∉ p.2.cps.toList := fun p hp => by
    have := List.all_eq_true.mp h p hp
    simpa using this
  unfold entL
  rw [List.find?_append]
  cases e : tab.find? (·.1 == a) with
  | some p =>
    exact repL_free c _ _ (ht p (List.mem_of_find?_eq_some e)).2
  | none =>
    by_cases hc : a = c
    · subst hc
      simp [repL]
    · have h1 : (c == a) = false := by simpa using fun e : c = a => hc e.symm
      simp [repL, hc, h1]
theorem repS_esc (tab : List (Nat × Str)) (c : Nat) (z x : Str) (h : tabOk tab c = true) : repS c z (escS tab x) = escS (tab ++ [(c, z)]) x := by
  unfold repS escS
  dsimp only
  rw [repL_flat c z.cps.toList _ _ (repL_ent tab c z h)]
theorem escS_length (tab : List (Nat × Str)) (x : Str) (ht : (tab.all fun p => p.2.length ≤ 8) = true) : (escS tab x).length ≤ 8 * x.length := by
  show (x.cps.toList.flatMap (entL tab)).toArray.size ≤ 8 * x.cps.size
  rw [List.size_toArray, ← Array.length_toList (xs := x.cps)]
  induction x.cps.toList with
  | nil => exact Nat.zero_le _
  | cons a l ih =>
    rw [List.flatMap_cons, List.length_append, List.length_cons]
    have : (entL tab a).length ≤ 8 := by
      unfold entL
      split
      · rename_i p e
        have := List.all_eq_true.mp ht p (List.mem_of_find?_eq_some e)
        rw [Array.length_toList]
        exact of_decide_eq_true this
      · exact Nat.le_of_ble_eq_true rfl
    omega
structure EscJ (tab : List (Nat × Str)) (c : Nat) (z x : Str) (h₀ : Heap) (L : Addr) (m : Str → Option Value) (s : Shared) (fl : Flow) (s' : Shared) : Prop where
  out : ∃ h' tk' t', s' = { s with heap := h', toks := tk' } ∧ fl = .next ∧ Fr h₀ L h' (fun y => if y = "text" then some (.str (escS (tab ++ [(c, z)]) x) t') else m y) ∧ News h₀ L h' []
theorem EscJ.same {tab : List (Nat × Str)} {c : Nat} {cc z x : Str} {t : Tok} {h₀ : Heap} {L : Addr} {m : Str → Option Value} {s : Shared} {h' : Heap} {tk' : Nat} (hc : cc = ⟨#[c]⟩) (hk : tabOk tab c = true) (hm : m "text" = some (.str (escS tab x) t)) (F : Fr h₀ L h' m) (N : News h₀ L h' [])
    (e : (Str.occurrences (escS tab x) cc 0 (escS tab x).length 1).isEmpty = true) : EscJ tab c z x h₀ L m s .next { s with heap := h', toks := tk' } := by
  subst hc
  refine ⟨h', tk', t, rfl, rfl, ?_, N⟩
  rw [← repS_esc tab c z x hk, repS_free e]
  exact Mine.Fr.pin F hm
theorem EscJ.new {tab : List (Nat × Str)} {c : Nat} {cc z x : Str} {t' : Tok} {h₀ : Heap} {L : Addr} {m : Str → Option Value} {s : Shared} {h' : Heap} {tk' : Nat} (hc : cc = ⟨#[c]⟩) (hk : tabOk tab c = true) (F : Fr h₀ L h' (fun y => if y = "text" then some (.str (Txt.replace (escS tab x) cc z) t') else m y)) (N : News h₀ L h' [])
    : EscJ tab c z x h₀ L m s .next { s with heap := h', toks := tk' } := by
  subst hc
  refine ⟨h', tk', t', rfl, rfl, ?_, N⟩
  rw [← repS_esc tab c z x hk, ← replace_rep]
  exact F
structure Todo (l : List (Nat × Str)) : Prop where
  out : True
theorem ifJoinT {pr : Program} {w : World} {A : Around} {st : Sem Flow} {Q : Flow → Shared → Prop} {E : Value → Shared → Prop} {tab : List (Nat × Str)} {c : Nat} {z x : Str} {t : Tok} {h₀ : Heap} {L : Addr} {m : Str → Option Value} {s : Shared} {r : List (Nat × Str)}
    (_ : Todo ((c, z) :: r)) (_ : Fr h₀ L s.heap m) (_ : m "text" = some (.str (escS tab x) t)) (h0 : 0 < s.toks)
    (walk : wpAny (model pr w) A st (EscJ tab c z x h₀ L m s) E s)
    (K : Todo r → ∀ h' tk' t', Fr h₀ L h' (fun y => if y = "text" then some (.str (escS (tab ++ [(c, z)]) x) t') else m y) → News h₀ L h' [] → 0 < tk' → Q .next { s with heap := h', toks := tk' }) :
    wpAny (model pr w) A st Q E s :=
  wpAny_mono (wpAny_toks_of (n := 1) h0 walk) (fun fl s' ⟨hp, h⟩ => by
    obtain ⟨h', tk', t', e1, e2, F', N'⟩ := h.out
    subst e1; subst e2
    exact K ⟨trivial⟩ h' tk' t' F' N' hp) fun _ _ h => h.2
theorem repW {prog : Program} {w : World} {A : Around} {E : Value → Shared → Prop} {s : Shared} {tab : List (Nat × Str)} {x y z : Str} {t u v : Tok} {Q : Value → Shared → Prop} (hu : u ≠ 0) (hv : v ≠ 0) (huv : u ≠ v) (hyz : (y == z) = false) (hx : x.length ≤ 10000) (ht : (tab.all fun p => p.2.length ≤ 8) = true) (hz : z.length ≤ 8)
    (hq : ∀ t' k, 0 < k → Q (.str (Txt.replace (escS tab x) y z) t') { s with toks := k }) (h0 : 0 < s.toks) : wpAny (model prog w) A (call (.builtin "str.replace") [.str (escS tab x) t, .str y u, .str z v]) Q E s := by
  have h1 := escS_length tab x ht
  have e := SC.replaceW (prog := prog) (w := w) (A := A) (E := E) (s := s) (t := t) (Q := fun v s' => ∃ t' k, v = .str (Txt.replace (escS tab x) y z) t' ∧ s' = { s with toks := k }) hu hv huv hyz (by omega) (by omega) fun t' k => ⟨t', k, rfl, rfl⟩
  refine wpAny_mono (wpAny_toks_of (n := 1) h0 e) (fun v s' h => ?_) fun _ _ h => h.2
  obtain ⟨h2, t', k, rfl, rfl⟩ := h
  exact hq t' k h2
theorem repW2 {prog : Program} {w : World} {A : Around} {E : Value → Shared → Prop} {s : Shared} {tab : List (Nat × Str)} {x y z : Str} {t : Tok} {k : Nat} {Q : Value → Shared → Prop} (hk : 0 < k) (hs : s.toks = k + 1 + 1) (hyz : (y == z) = false) (hx : x.length ≤ 10000) (ht : (tab.all fun p => p.2.length ≤ 8) = true) (hz : z.length ≤ 8)
    (hq : ∀ t' k, 0 < k → Q (.str (Txt.replace (escS tab x) y z) t') { s with toks := k }) : wpAny (model prog w) A (call (.builtin "str.replace") [.str (escS tab x) t, .str y k, .str z (k + 1)]) Q E s :=
  repW (Nat.ne_of_gt hk) (Nat.succ_ne_zero _) (Nat.ne_of_lt (Nat.lt_succ_self _)) hyz hx ht hz hq (by rw [hs]; exact Nat.succ_pos _)

end

section
theorem su73esc_1 : True := by
  w_top off
  (k_with "execs cons" => ((fail_if_success k_extra "e93"); ((k_here; (first | (with_reducible show wpAny _ _ _ _ _ (Shared.mk _ _ _ (HAdd.hAdd _ _) _)) | (with_reducible show wpAny _ _ _ _ _ (Shared.mk _ _ _ (Shared.toks (Shared.mk _ _ _ _ _)) _))); k_dflt (refine' gentok ?gpaz93 ?_; (case gpaz93 => first | assumption | omega | (dsimp only; omega) | exact Nat.lt_of_lt_of_le Nat.zero_lt_one (Nat.le_add_left _ _))); intro tk hp'))))
  (k_with "execs nil" => ((fail_if_success k_extra "e94"); ((k_here; (first | (with_reducible show wpAny _ _ _ _ _ (Shared.mk _ _ _ (HAdd.hAdd _ _) _)) | (with_reducible show wpAny _ _ _ _ _ (Shared.mk _ _ _ (Shared.toks (Shared.mk _ _ _ _ _)) _))); k_dflt (refine' gentok ?gpaz94 ?_; (case gpaz94 => first | assumption | omega | (dsimp only; omega) | exact Nat.lt_of_lt_of_le Nat.zero_lt_one (Nat.le_add_left _ _))); intro tk hp'))))
  (k_with "EscJ" => ((fail_if_success k_extra "e95"); (k_dflt (first
  | (refine' EscJ.same ?az95 ?bz95 rfl ?dz95 ?ez95 ?gz95; (case gz95 => assumption); (case az95 => assumption); (case bz95 => assumption); (case dz95 => k_asm); (case ez95 => k_asm))
  | (refine' EscJ.new ?az95 ?bz95 ?dz95 ?ez95; (case dz95 => k_asm); (case ez95 => k_asm); (case az95 => assumption); (case bz95 => assumption))))))
  (k_with "call builtin:str.replace" => ((fail_if_success k_extra "e96"); ((k_here; k_dflt (refine' repW2 ?raz96 ?rbz96 ?rdz96 ?rez96 ?rfz96 ?rgz96 ?_; (case raz96 => first | assumption | omega); (case rbz96 => exact rfl); (case rdz96 => assumption); (case rez96 => assumption); (case rfz96 => assumption); (case rgz96 => assumption); k_whole); intro t' k' hp'))))
  (k_with "eval Call Attribute" => ((fail_if_success k_extra "e97"); ((k_here; (with_reducible show wpAny _ _ (PySem.eval (Expr.Call (Expr.Attribute (Expr.Name _ _) _ _) [_, _] _ _) _) _ _ _); k_dflt (refine MethodCall_ ?_ he)))))
  trivial
@[reducible] def escSC : Scope := { kind := .function, names := [("text", .local), ("TypeError", .globalImplicit), ("AttributeError", .globalImplicit), ("_raise_serialization_error", .globalImplicit)], isGenerator := false, isCoroutine := false }
theorem escOne (w : World) (mg mb : Str → Option Value) (p : Program) (loose : List Str) (mean : ExcName → Option Value) (dp un : Nat) (gd : Option (List Code)) (cn : Str) (cs : Scope) (L a : Addr) (ccd : Value) (cl : List (Str × Addr)) (outer : List Env) (h₀ : Heap) (L' : Addr) (m : Str → Option Value) (E : Value → Shared → Prop)
   (q : Str) (f : Addr) (cd : Value) (hp : Heap) (gn : _) (dr : _) (tk : Nat) (os : _) (tab : List (Nat × Str)) (c : Nat) (cc z x : Str) (t : Tok) (k1 k2 k3 : Nat) (p1 p2 p3 p4 p5 p6 p7 p8 p9 pa pb : Pos)
   (X : (hd.heap_39 w.params).In h₀) (T : Top p loose mean mg mb h₀) (F : Fr h₀ L' hp m) (N : News h₀ L' hp []) (hm : m "text" = some (.str (escS tab x) t)) (htk : 0 < tk) (hdp : dp + 2 < recursionLimit) (hun : un + 20 < cLine)
   (hcc : cc = ⟨#[c]⟩) (hk : tabOk tab c = true) (hyz : (cc == z) = false) (hx : x.length ≤ 10000) (ht : (tab.all fun p => p.2.length ≤ 8) = true) (hz : z.length ≤ 8) (pl : Sem Bool)
   (he : eval (.Call (.Attribute (.Name "text" p5) "replace" p6) [.Constant (.str cc) k2 p7, .Constant (.str z) k3 p8] [] p9) (envOf q escSC L' f cd) = (do
      let ov ← eval (.Name "text" p5) (envOf q escSC L' f cd)
      standAt p6.atName
      let (g, first) ← holding [ov] (getMethod ov "replace" pl)
      callWith p9 g first (backTo p9 (starEach [.Constant (.str cc) k2 p7, .Constant (.str z) k3 p8] (envOf q escSC L' f cd))) [])) :
   wpAny (model pg w) ((ktrTop dp un gd cn cs L a ccd cl outer).deeper (envOf q escSC L' f cd))
     (PySem.exec (.If (.Compare (.Constant (.str cc) k1 p1) [.In] [.Name "text" p2] p3) [.Assign [.Name "text" p4] (.Call (.Attribute (.Name "text" p5) "replace" p6) [.Constant (.str cc) k2 p7, .Constant (.str z) k3 p8] [] p9) pa] [] pb) (envOf q escSC L' f cd))
     (EscJ tab c z x h₀ L' m { heap := hp, gens := gn, drawn := dr, toks := tk, os := os }) E { heap := hp, gens := gn, drawn := dr, toks := tk, os := os } := by
  have e : m = fun (y : Str) => if y = "text" then some (.str (escS tab x) t) else m y := by
    funext y
    by_cases hy : y = "text"
    · rw [if_pos hy, hy, hm]
    · rw [if_neg hy]
  rw [e] at F ⊢
  clear e hm
  k_steps
theorem su73esc_2 : True := by
  (k_with "exec If" => ((fail_if_success k_extra "e98"); ((k_here; (with_reducible show wpAny _ _ (PySem.exec (Stmt.If (Expr.Compare (Expr.Constant (Const.str _) _ _) _ [Expr.Name _ _] _) [Stmt.Assign _ (Expr.Call _ [Expr.Constant _ _ _, Expr.Constant (Const.str _) _ _] _ _) _] _ _) _) _ _ _); (with_reducible rename Todo _ => kT0); k_dflt (refine' ifJoinT kT0 ?Fz98 ?hmz98 ?hzz98 (escOne _ _ _ _ _ _ _ _ _ _ _ _ _ _ _ _ _ _ _ _ _ _ _ _ _ _ _ _ _ _ _ _ _ _ _ _ _ _ _ _ _ _ _ _ _ _ _ _ ?Xz98 ?Tz98 ?F2z98 ?Nz98 ?hm2z98 ?hz2z98 ?dpz98 ?unz98 ?ccz98 ?okz98 ?yzz98 ?xlz98 ?alz98 ?zlz98 _ ?hez98) ?_; (case Fz98 => k_asm); (case hmz98 => first | exact rfl | assumption); (case hzz98 => assumption); (case Xz98 => k_asm); (case Tz98 => k_asm); (case F2z98 => k_asm); (case Nz98 => k_asm); (case hm2z98 => first | exact rfl | assumption); (case hz2z98 => assumption); (case dpz98 => assumption); (case unz98 => assumption); (case ccz98 => decide +kernel); (case okz98 => decide +kernel); (case yzz98 => decide +kernel); (case xlz98 => assumption); (case alz98 => decide +kernel); (case zlz98 => decide +kernel); (case hez98 => exact rfl)); clear kT0; intro T' h' tk' t' F' N' hp'; (try k_sweep)))))
  trivial
def tab1 : List (Nat × Str) := [(38, "&amp;"), (60, "&lt;"), (62, "&gt;")]
theorem esc1_c (w : World) (mg mb : Str → Option Value) (x : Str) (t : Tok) (hx : x.length ≤ 10000) :
   HC w mg mb (.ref 37) [.str (escS [] x) t] [] 2 20 [] (fun h => CodeHd h 99 95) (fun _ v news' => ∃ t', v = .str (escS tab1 x) t' ∧ news' = []) := by
  intro p loose mean dp un gd cn cs a ccd cl outer A₀ base h₀ L m s Q E B F X N T hk HG hdp hun hret
  have TD : Todo [(38, "&amp;"), (60, "&lt;"), (62, "&gt;")] := ⟨trivial⟩
  refine wpAny_call ?_
  k_dflt (k_extra "MyEnter")
  k_steps
  refine' hret _ _ _ _ ?kK (Newly.sub ?kN ?hs) ⟨_, rfl, rfl⟩
  case kK => assumption
  case kN => assumption
  case hs => exact List.forall_mem_nil _
def tab2 : List (Nat × Str) := [(38, "&amp;"), (60, "&lt;"), (62, "&gt;"), (34, "&quot;"), (13, "&#13;"), (10, "&#10;"), (9, "&#09;")]
theorem esc2_c (w : World) (mg mb : Str → Option Value) (x : Str) (t : Tok) (hx : x.length ≤ 10000) :
   HC w mg mb (.ref 44) [.str (escS [] x) t] [] 2 20 [] (fun h => CodeHd h 99 95) (fun _ v news' => ∃ t', v = .str (escS tab2 x) t' ∧ news' = []) := by
  intro p loose mean dp un gd cn cs a ccd cl outer A₀ base h₀ L m s Q E B F X N T hk HG hdp hun hret
  have TD : Todo [(38, "&amp;"), (60, "&lt;"), (62, "&gt;"), (34, "&quot;"), (13, "&#13;"), (10, "&#10;"), (9, "&#09;")] := ⟨trivial⟩
  refine wpAny_call ?_
  k_dflt (k_extra "MyEnter")
  k_steps
  refine' hret _ _ _ _ ?kK (Newly.sub ?kN ?hs) ⟨_, rfl, rfl⟩
  case kK => assumption
  case kN => assumption
  case hs => exact List.forall_mem_nil _
def tab3 : List (Nat × Str) := [(38, "&amp;"), (62, "&gt;"), (34, "&quot;")]
theorem esc3_c (w : World) (mg mb : Str → Option Value) (x : Str) (t : Tok) (hx : x.length ≤ 10000) :
   HC w mg mb (.ref 51) [.str (escS [] x) t] [] 2 20 [] (fun h => CodeHd h 99 95) (fun _ v news' => ∃ t', v = .str (escS tab3 x) t' ∧ news' = []) := by
  intro p loose mean dp un gd cn cs a ccd cl outer A₀ base h₀ L m s Q E B F X N T hk HG hdp hun hret
  have TD : Todo [(38, "&amp;"), (62, "&gt;"), (34, "&quot;")] := ⟨trivial⟩
  refine wpAny_call ?_
  k_dflt (k_extra "MyEnter")
  k_steps
  refine' hret _ _ _ _ ?kK (Newly.sub ?kN ?hs) ⟨_, rfl, rfl⟩
  case kK => assumption
  case kN => assumption
  case hs => exact List.forall_mem_nil _
def tab4 : List (Nat × Str) := [(38, "&amp;"), (60, "&lt;"), (62, "&gt;"), (13, "&#xD;")]
theorem esc4_c (w : World) (mg mb : Str → Option Value) (x : Str) (t : Tok) (hx : x.length ≤ 10000) :
   HC w mg mb (.ref 58) [.str (escS [] x) t] [] 2 20 [] (fun h => CodeHd h 99 95) (fun _ v news' => ∃ t', v = .str (escS tab4 x) t' ∧ news' = []) := by
  intro p loose mean dp un gd cn cs a ccd cl outer A₀ base h₀ L m s Q E B F X N T hk HG hdp hun hret
  have TD : Todo [(38, "&amp;"), (60, "&lt;"), (62, "&gt;"), (13, "&#xD;")] := ⟨trivial⟩
  refine wpAny_call ?_
  k_dflt (k_extra "MyEnter")
  k_steps
  refine' hret _ _ _ _ ?kK (Newly.sub ?kN ?hs) ⟨_, rfl, rfl⟩
  case kK => assumption
  case kN => assumption
  case hs => exact List.forall_mem_nil _
def tab5 : List (Nat × Str) := [(38, "&amp;"), (60, "&lt;"), (34, "&quot;"), (9, "&#x9;"), (10, "&#xA;"), (13, "&#xD;")]
theorem esc5_c (w : World) (mg mb : Str → Option Value) (x : Str) (t : Tok) (hx : x.length ≤ 10000) :
   HC w mg mb (.ref 65) [.str (escS [] x) t] [] 2 20 [] (fun h => CodeHd h 99 95) (fun _ v news' => ∃ t', v = .str (escS tab5 x) t' ∧ news' = []) := by
  intro p loose mean dp un gd cn cs a ccd cl outer A₀ base h₀ L m s Q E B F X N T hk HG hdp hun hret
  have TD : Todo [(38, "&amp;"), (60, "&lt;"), (34, "&quot;"), (9, "&#x9;"), (10, "&#xA;"), (13, "&#xD;")] := ⟨trivial⟩
  refine wpAny_call ?_
  k_dflt (k_extra "MyEnter")
  k_steps
  refine' hret _ _ _ _ ?kK (Newly.sub ?kN ?hs) ⟨_, rfl, rfl⟩
  case kK => assumption
  case kN => assumption
  case hs => exact List.forall_mem_nil _

end

section
def sel5 {α : Type} (a0 a1 a2 a3 a4 : α) : Nat → α
  | 0 => a0 | 1 => a1 | 2 => a2 | 3 => a3 | _ => a4
def sel10 {α : Type} (a0 a1 a2 a3 a4 a5 a6 a7 a8 a9 : α) : Nat → α
  | 0 => a0 | 1 => a1 | 2 => a2 | 3 => a3 | 4 => a4 | 5 => a5 | 6 => a6 | 7 => a7 | 8 => a8 | _ => a9
theorem pick5 {a0 a1 a2 a3 a4 : Str} {t0 t1 t2 t3 t4 : Tok} : ∀ k, k < 5 → ([Value.str a0 t0, .str a1 t1, .str a2 t2, .str a3 t3, .str a4 t4])[k]? = some (.str (sel5 a0 a1 a2 a3 a4 k) (sel5 t0 t1 t2 t3 t4 k))
  | 0, _ => rfl | 1, _ => rfl | 2, _ => rfl | 3, _ => rfl | 4, _ => rfl
  | n + 5, h => absurd h (by omega)
theorem pick10 {a0 a1 a2 a3 a4 a5 a6 a7 a8 a9 : Str} {t0 t1 t2 t3 t4 t5 t6 t7 t8 t9 : Tok} : ∀ k, k < 10 → ([Value.str a0 t0, .str a1 t1, .str a2 t2, .str a3 t3, .str a4 t4, .str a5 t5, .str a6 t6, .str a7 t7, .str a8 t8, .str a9 t9])[k]? = some (.str (sel10 a0 a1 a2 a3 a4 a5 a6 a7 a8 a9 k) (sel10 t0 t1 t2 t3 t4 t5 t6 t7 t8 t9 k))
  | 0, _ => rfl | 1, _ => rfl | 2, _ => rfl | 3, _ => rfl | 4, _ => rfl | 5, _ => rfl | 6, _ => rfl | 7, _ => rfl | 8, _ => rfl | 9, _ => rfl
  | n + 10, h => absurd h (by omega)
def every7 : Str := "&<>\"\r\n\t"
def spT : Nat → Str := sel5 "&<>" "&<>\"\r\n\t" "&>\"" "&<>\r" "&<\"\r\n\t"
def tabW : Nat → List (Nat × Str) := sel5 tab1 tab2 tab3 tab4 tab5
def ent10 : Nat → Str := sel10 "amp" "lt" "gt" "quot" "#13" "#10" "#09" "#xD" "#xA" "#x9"
def spell (k c : Nat) : Str := escS (tabW k) ⟨#[c]⟩
theorem spell_in : ∀ k, k < 5 → ∀ c ∈ (spT k).cps.toList, ∃ i, i < 7 ∧ Str.occurrences every7 ⟨#[c]⟩ 0 every7.length 1 = [i] ∧ spell k c = ((("&" : Str) ++ ent10 (if 2 < k ∧ 3 < i then i + 3 else i)) ++ (";" : Str)) := by
  have go : ∀ (k : Fin 5), ((spT k.val).cps.toList.all fun c => (List.range 7).any fun i => (Str.occurrences every7 ⟨#[c]⟩ 0 every7.length 1 == [i]) && (spell k.val c == ((("&" : Str) ++ ent10 (if 2 < k.val ∧ 3 < i then i + 3 else i)) ++ (";" : Str)))) = true := by decide +kernel
  intro k hk c hc
  obtain ⟨i, hi, h⟩ := List.any_eq_true.mp (List.all_eq_true.mp (go ⟨k, hk⟩) c hc)
  rw [Bool.and_eq_true, beq_iff_eq, beq_iff_eq] at h
  exact ⟨i, List.mem_range.mp hi, h.1, h.2⟩
theorem spell_out (k c : Nat) (hk : k < 5) (hc : c ∉ (spT k).cps.toList) : spell k c = ⟨#[c]⟩ := by
  have go : ∀ (k : Fin 5), ((tabW k.val).map (·.1)).all (fun c => (spT k.val).cps.toList.contains c) = true := by decide +kernel
  have h1 : (tabW k).find? (·.1 == c) = none := by
    rw [List.find?_eq_none]
    intro p hp e
    have e : p.1 = c := by simpa using e
    have := List.all_eq_true.mp (go ⟨k, hk⟩) p.1 (List.mem_map_of_mem hp)
    rw [e] at this
    exact hc (by simpa using this)
  unfold spell escS entL
  simp [h1]

end

section
theorem su75spell_1 : True := by
  w_top off
  (k_with "e98" => skip)
  (k_with "e93" => skip)
  (k_with "e94" => skip)
  (k_with "e95" => skip)
  (k_with "e96" => skip)
  (k_with "e97" => skip)
  (k_with "ite" => ((fail_if_success k_extra "e99"); (first | with_reducible refine iteF ?_ | with_reducible refine iteT ?_)))
  trivial
theorem pickT {t0 t1 t2 t3 t4 : Tok} (k : Nat) (h : k < 5) : ([Value.str "&<>" t0, .str "&<>\"\r\n\t" t1, .str "&>\"" t2, .str "&<>\r" t3, .str "&<\"\r\n\t" t4])[k]? = some (.str (spT k) (sel5 t0 t1 t2 t3 t4 k)) := pick5 k h
theorem pickE {t0 t1 t2 t3 t4 t5 t6 t7 t8 t9 : Tok} (k : Nat) (h : k < 10) : ([Value.str "amp" t0, .str "lt" t1, .str "gt" t2, .str "quot" t3, .str "#13" t4, .str "#10" t5, .str "#09" t6, .str "#xD" t7, .str "#xA" t8, .str "#x9" t9])[k]? = some (.str (ent10 k) (sel10 t0 t1 t2 t3 t4 t5 t6 t7 t8 t9 k)) := pick10 k h
theorem ent10_len : ∀ k, (ent10 k).length ≤ 4
  | 0 => by decide +kernel | 1 => by decide +kernel | 2 => by decide +kernel | 3 => by decide +kernel | 4 => by decide +kernel | 5 => by decide +kernel | 6 => by decide +kernel | 7 => by decide +kernel | 8 => by decide +kernel | _ + 9 => by show Str.length "#x9" ≤ 4; decide +kernel
section
variable {prog : Program} {w : World} {A : Around} {E : Value → Shared → Prop} {s : Shared} {h₀ : Heap} {L : Addr} {news : List (Addr × Obj)}
theorem subAtE {value slice : Expr} {l : Addr} {items : List Value} {x : Value} {j : Int} {k : Nat} {t : Tok} {Q : Value → Shared → Prop} {n : Nat} (N : News h₀ L s.heap news) (hm : (l, listOf items.toArray n) ∈ news) (hj : j = (k : Nat)) (hx : items[k]? = some x) (hz : items.length ≤ 100) (h : Q x s)
    (hs : subscripted slice false (.ref l) (.int j t) = operate [.ref l, .int j t] (getItem (.ref l) (.int j t)) := by with_unfolding_all rfl) :
    wpAny (model prog w) A (subscriptTail value slice (.ref l) (.int j t)) Q E s := by
  subst hj
  exact tail_any (News.isList N hm).typeIs slot_list_getitem.lookup (listSize N hm hx hz h) hs
theorem notInS {x y : Str} {t u : Tok} {b : Bool} {Q : Value → Shared → Prop} (hb : (Str.occurrences x y 0 x.length 1).isEmpty = b) (h : Q (.bool b) s) : wpAny (model prog w) A (compareOp .NotIn (.str y u) (.str x t)) Q E s :=
  PyProof.Rows.notIn_str (by rw [Bool.not_not, hb]; exact h)
theorem indexS {x y : Str} {t u : Tok} {i : Nat} {r : List Nat} {Q : Value → Shared → Prop} (ho : Str.occurrences x y 0 x.length 1 = i :: r) (h : Q (.int (i : Nat) s.toks) { s with toks := s.toks + 1 }) : wpAny (model prog w) A (call (.builtin "str.index") [.str x t, .str y u]) Q E s :=
  SC.index ho h
theorem addS {x y : Str} {t u : Tok} {Q : Value → Shared → Prop} (hx : x.length ≤ 100000) (hy : y.length ≤ 100000) (h : ∀ t' tk, Q (.str (x ++ y) t') { s with toks := tk }) : wpAny (model prog w) A (binaryOp .Add (.str x t) (.str y u)) Q E s :=
  PyProof.Rows.add_str h (by rw [sizeLine_eq]; omega)
end
theorem su75spell_2 : True := by
  (k_with "compareOp NotIn str str" => ((fail_if_success k_extra "e100"); ((k_here; k_dflt (refine' notInS ?nhz99 ?_; (case nhz99 => assumption); k_whole)))))
  (k_with "call builtin:str.index" => ((fail_if_success k_extra "e101"); ((k_here; k_dflt (refine' indexS ?nhz100 ?_; (case nhz100 => assumption); k_whole)))))
  (k_with "binaryOp Add str str" => ((fail_if_success k_extra "e102"); ((k_here; (with_reducible show wpAny _ _ (binaryOp Operator.Add (Value.str _ _) (Value.str _ _)) _ _ _); k_dflt (refine' addS ?nhz101 ?niz101 ?_; (case nhz101 => first | decide +kernel | assumption | (simp only [StrLaws.length_append]; omega)); (case niz101 => first | decide +kernel | assumption | omega)); intro t' tk'))))
  (k_with "subscriptTail List cons Name ref int" => ((fail_if_success k_extra "e103"); ((k_here; k_dflt (first
  | ((with_reducible show wpAny _ _ (subscriptTail (Expr.List [_, _, _, _, _] _) _ _ _) _ _ _); refine' subAtE ?Nz102 ?mz102 ?jz102 (pickT _ ?kz102) ?zz102 ?_; (case Nz102 => k_asm); (case mz102 => k_mem); (case jz102 => first | with_reducible exact rfl | assumption); (case kz102 => omega); (case zz102 => exact Nat.le_of_ble_eq_true rfl); k_whole)
  | ((with_reducible show wpAny _ _ (subscriptTail (Expr.List [_, _, _, _, _, _, _, _, _, _] _) _ _ _) _ _ _); refine' subAtE ?Nz102 ?mz102 ?jz102 (pickE _ ?kz102) ?zz102 ?_; (case Nz102 => k_asm); (case mz102 => k_mem); (case jz102 => first | with_reducible exact rfl | assumption); (case kz102 => omega); (case zz102 => exact Nat.le_of_ble_eq_true rfl); k_whole))))))
  trivial
def spIf (w : World) : Stmt := ((stmtsAt w 93).drop 2).headD default
def plc (k i : Nat) : Nat := if 2 < k ∧ 3 < i then i + 3 else i
theorem ifPlace (w : World) (mg mb : Str → Option Value) (k i : Nat) (u ti : Tok)
   (p : Program) (loose : List Str) (mean : ExcName → Option Value) (dp un : Nat) (gd : Option (List Code)) (cn : Str) (cs : Scope) (a : Addr) (ccd : Value) (cl : List (Str × Addr)) (outer : List Env) (h₀ : Heap) (L L0 : Addr) (m : Str → Option Value) (s : Shared) (Q : Flow → Shared → Prop) (E : Value → Shared → Prop)
   (X : (hd.heap_39 w.params).In h₀) (T : Top p loose mean mg mb h₀) (news : List (Addr × Obj)) (F : Fr h₀ L s.heap m) (N : News h₀ L s.heap news)
   (m1 : m "which" = some (.int (k : Nat) u)) (m2 : m "place" = some (.int (i : Nat) ti))
   (K : ∀ h' tk' m' t', Fr h₀ L h' m' → News h₀ L h' news → m' "place" = some (.int ((plc k i : Nat) : Int) t') → Q .next { s with heap := h', toks := tk' }) :
   wpAny (model pg w) (Around.deeper (ktrTop dp un gd cn cs L0 a ccd cl outer) (envOf "_law_spelled" (scopeAt w 93) L 93 (.ref 92))) (exec (spIf w) (envOf "_law_spelled" (scopeAt w 93) L 93 (.ref 92))) Q E s := by
  have e1 : spIf w = Stmt.If _ _ _ _ := rfl
  have e2 : scopeAt w 93 = Scope.mk _ _ _ _ _ := rfl
  have F := Mine.Fr.pin (Mine.Fr.pin F (x := "which") m1) (x := "place") m2
  rw [e1, e2]
  by_cases h2 : 2 < k
  · have hd2 : decide ((2 : Int) < (k : Int)) = true := decide_eq_true (Int.ofNat_lt.mpr h2)
    by_cases h3 : 3 < i
    · have hd3 : decide ((3 : Int) < (i : Int)) = true := decide_eq_true (Int.ofNat_lt.mpr h3)
      rw [show plc k i = i + 3 from if_pos ⟨h2, h3⟩] at K
      k_steps
      exact K _ _ _ _ (by k_asm) (by k_asm) rfl
    · have hd3 : ¬ decide ((3 : Int) < (i : Int)) = true := fun q => h3 (Int.ofNat_lt.mp (of_decide_eq_true q))
      rw [show plc k i = i from if_neg fun q => h3 q.2] at K
      k_steps
      exact K _ _ _ _ (by k_asm) (by k_asm) rfl
  · have hd2 : ¬ decide ((2 : Int) < (k : Int)) = true := fun q => h2 (Int.ofNat_lt.mp (of_decide_eq_true q))
    rw [show plc k i = i from if_neg fun q => h2 q.1] at K
    k_steps
    exact K _ _ _ _ (by k_asm) (by k_asm) rfl
theorem su75spell_3 : True := by
  (k_with "exec If" => ((fail_if_success k_extra "e104"); ((k_here; (with_reducible show wpAny _ _ (PySem.exec (Stmt.If (Expr.BoolOp _ _ _) _ _ _) _) _ _ _); refine Hold.out ?_))))
  trivial
theorem spell_c (w : World) (mg mb : Str → Option Value) (k c : Nat) (t u : Tok) (hk : k < 5) :
   HC w mg mb (.ref 93) [.str ⟨#[c]⟩ t, .int (k : Nat) u] [] 2 30 [] (fun h => CodeHd h 99 95) (fun _ v news' => ∃ t', v = .str (spell k c) t' ∧ news' = []) := by
  intro p loose mean dp un gd cn cs a ccd cl outer A₀ base h₀ L m s Q E B F X N T hk9 HG hdp hun hret
  by_cases hc : c ∈ (spT k).cps.toList
  · obtain ⟨i, hi, ho, he⟩ := spell_in k hk c hc
    have hin : (Str.occurrences (spT k) ⟨#[c]⟩ 0 (spT k).length 1).isEmpty = false := by
      have := StrLaws.found_one (spT k) c
      rw [decide_eq_true hc] at this
      simpa using this
    have ho : Str.occurrences "&<>\"\r\n\t" ⟨#[c]⟩ 0 (Str.length "&<>\"\r\n\t") 1 = [i] := ho
    have he : spell k c = (("&" : Str) ++ ent10 (plc k i)) ++ ";" := he
    have hp : plc k i < 10 := by
      unfold plc
      split
      · exact Nat.add_lt_add_right hi 3
      · exact Nat.lt_trans hi (by decide)
    have l0 := ent10_len (plc k i)
    refine wpAny_call ?_
    k_dflt (k_extra "MyEnter")
    k_steps
    refine ⟨?_⟩
    refine' ifPlace w mg mb k i _ _ p loose mean _ _ _ _ _ _ _ _ _ _ _ _ _ _ _ _ ?X ?T _ ?F ?N ?m1 ?m2 ?K
    case X => assumption
    case T => assumption
    case F => k_asm
    case N => k_asm
    case m1 => exact rfl
    case m2 => exact rfl
    intro h' tk' m' t' F' N' e1
    have F' := Mine.Fr.pin F' (x := "place") e1
    k_steps
    refine' hret _ _ _ _ ?kK (Newly.sub ?kN ?hs) ⟨_, by rw [he], rfl⟩
    case kK => assumption
    case kN => assumption
    case hs => exact List.forall_mem_nil _
  · have hin : (Str.occurrences (spT k) ⟨#[c]⟩ 0 (spT k).length 1).isEmpty = true := by
      have := StrLaws.found_one (spT k) c
      rw [decide_eq_false hc] at this
      simpa using this
    have he := spell_out k c hk hc
    refine wpAny_call ?_
    k_dflt (k_extra "MyEnter")
    k_steps
    refine' hret _ _ _ _ ?kK (Newly.sub ?kN ?hs) ⟨_, by rw [he], rfl⟩
    case kK => assumption
    case kN => assumption
    case hs => exact List.forall_mem_nil _

end

section
theorem su82wants_1 : True := by
  w_top off
  (k_with "e104" => skip)
  (k_with "e99" => skip)
  (k_with "e100" => skip)
  (k_with "e101" => skip)
  (k_with "e102" => skip)
  (k_with "e103" => skip)
  trivial
theorem ListRest.sub {prog : Program} {w : World} {A : Around} {E : Value → Shared → Prop} {h₀ : Heap} {env : Env} {x : Str} {body : List Stmt} {Q : Flow → Shared → Prop} {s : Shared} {I : Addr} {lp : Addr × Obj} {n1 n2 : List (Addr × Obj)} (hs : ∀ q ∈ n1, q ∈ n2) :
    ∀ vs m, ListRest prog w A E h₀ env x body Q s I lp vs m n1 → ListRest prog w A E h₀ env x body Q s I lp vs m n2
  | [], _, r => fun h tk F N => r h tk F (Newss.sub N hs)
  | _ :: _, _, r => fun it h tk hit F N => r it h tk hit F (Newss.sub N fun q hq => by
      rcases List.mem_cons.mp hq with rfl | hq
      · exact List.mem_cons_self
      · exact List.mem_cons_of_mem _ (hs q hq))
theorem su82wants_2 : True := by
  (k_with "call ref" => ((fail_if_success k_extra "e105"); ((k_here; kn_here; refine Hold.out ?_))))
  trivial
theorem wantTurn (w : World) (mg mb : Str → Option Value)
   (p : Program) (loose : List Str) (mean : ExcName → Option Value) (dp un : Nat) (gd : Option (List Code)) (a : Addr) (ccd : Value) (cl : List (Str × Addr)) (outer : List Env) (A₀ : Around) (base h₀ : Heap) (L : Addr) (m : Str → Option Value) (s : Shared) (Q : Flow → Shared → Prop) (E : Value → Shared → Prop)
   (x wd I : Addr) (b : Str) (tb : Tok) (it : Obj) (rel : List (Addr × Obj)) (dpn unn : Nat) (Post : Heap → Value → List (Addr × Obj) → Prop)
   (C : HC w mg mb (.ref 121) [.ref x, .str b tb, .ref wd] [] dpn unn rel (fun _ => True) Post)
   (B : Below A₀ base outer h₀) (F : Fr h₀ L s.heap (fun z => if z = "one" then some (.ref x) else m z)) (X : (hd.heap_39 w.params).In h₀) (N : News h₀ L s.heap ((I, it) :: rel)) (hI : ∀ q ∈ rel, q.1 ≠ I) (T : Top p loose mean mg mb h₀)
   (m1 : m "behind" = some (.str b tb)) (m2 : m "wants" = some (.ref wd)) (hdp : dp + dpn < recursionLimit) (hun : un + unn < cLine)
   (K : ∀ v news' h' tk' m', Fr h₀ L h' m' → m' "behind" = some (.str b tb) → m' "wants" = some (.ref wd) → News h₀ L h' (news' ++ [(I, it)]) → Post s.heap v news' → Q .next { s with heap := h', toks := tk' }) :
   wpAny (model pg w) (ktrTop dp un gd "_law_wants" (scopeAt w 121) L a ccd cl outer) (execs (forBody (stmtsAt w 121)) (envOf "_law_wants" (scopeAt w 121) L 121 (.ref 120))) Q E s := by
  have e1 : forBody (stmtsAt w 121) = [_] := rfl
  have e2 : scopeAt w 121 = Scope.mk _ _ _ _ _ := rfl
  rw [e1, e2]
  have F := Mine.Fr.pin (Mine.Fr.pin F (x := "behind") m1) (x := "wants") m2
  k_steps
  refine' HC.use (rest := [(I, it)]) C B ?F X N T ?sk trivial hdp hun (fun q hq => List.mem_cons_of_mem _ hq) (fun q hq => ?_) (fun q hq => ?_) ?_
  case F => k_asm
  case sk => exact rfl
  · rw [List.mem_singleton.mp hq]; exact List.mem_cons_self
  · rw [List.mem_singleton.mp hq]
    intro hm
    obtain ⟨r, hr, e⟩ := List.mem_map.mp hm
    exact hI r hr e
  · intro v' news' h' tk' F' N' P'
    k_steps
    exact K _ _ _ _ _ (by k_asm) rfl rfl N' P'
inductive Desc (ax : Nat → Nat) : Nat → Nat → Prop
  | refl (k : Nat) : Desc ax k k
  | step {k c d : Nat} : 1 ≤ c → c < 6 → ax c = k → Desc ax c d → Desc ax k d
structure Good (W : Nat → Str) (sx : Nat → Str) (kvs : List (Str × Value)) (S : Nat → Prop) : Prop where
  out : ∀ d, S d → d < 6 → ∃ t, valueAt kvs (sx d) = some (.str (W d) t)
structure WPost (w : World) (W : Nat → Str) (sx : Nat → Str) (wd : Addr) (fix : List (Addr × Obj)) (top : Nat) (S : Nat → Prop) (v : Value) (news' : List (Addr × Obj)) : Prop where
  out : v = .ref wd ∧ ∃ wob' kvs', news' = fix ++ [(wd, wob')] ∧ wob'.IsDictOf (strKind pg w) kvs' ∧ kvs'.length ≤ top ∧ Good W sx kvs' S
def WantsHC (w : World) (mg mb : Str → Option Value) (W Bt sx : Nat → Str) (ax : Nat → Nat) (wd : Addr) (fix : List (Addr × Obj)) (fd : Nat → Addr) (k : Nat) : Prop :=
  ∀ (t : Tok) (kvs : List (Str × Value)) (wob : Obj) (S : Nat → Prop), wob.IsDictOf (strKind pg w) kvs → kvs.length + 6 ^ (6 - k) ≤ 100000 → Good W sx kvs S →
   HC w mg mb (.ref 121) [.ref (fd k), .str (Bt k) t, .ref wd] [] (2 * (7 - k)) (20 * (7 - k)) (fix ++ [(wd, wob)]) (fun _ => True)
     (fun _ v news' => WPost w W sx wd fix (kvs.length + 6 ^ (6 - k)) (fun d => S d ∨ Desc ax k d) v news')
theorem Good.mono {W sx : Nat → Str} {kvs : List (Str × Value)} {S S' : Nat → Prop} (g : Good W sx kvs S) (h : ∀ d, S' d → S d) : Good W sx kvs S' := ⟨fun d hd hd6 => g.out d (h d hd) hd6⟩
theorem wantLoop (w : World) (mg mb : Str → Option Value) (W Bt sx : Nat → Str) (ax : Nat → Nat) (wd : Addr) (fix : List (Addr × Obj)) (fd : Nat → Addr) (k : Nat)
   (ih : ∀ c, k < c → c < 6 → WantsHC w mg mb W Bt sx ax wd fix fd c) (hB : ∀ c, 1 ≤ c → c < 6 → Bt c = W (ax c))
   (p : Program) (loose : List Str) (mean : ExcName → Option Value) (dp un : Nat) (gd : Option (List Code)) (a : Addr) (ccd : Value) (cl : List (Str × Addr)) (outer : List Env) (A₀ : Around) (base h₀ : Heap) (L : Addr) (s : Shared) (Q : Flow → Shared → Prop) (E : Value → Shared → Prop)
   (I : Addr) (tb : Tok) (lp : Addr × Obj) (hlp : lp ∈ fix) (hfI : ∀ q ∈ fix, q.1 ≠ I) (hwI : wd ≠ I)
   (B : Below A₀ base outer h₀) (X : (hd.heap_39 w.params).In h₀) (T : Top p loose mean mg mb h₀) (hdp : dp + 2 * (6 - k) < recursionLimit) (hun : un + 20 * (6 - k) < cLine) (top : Nat) (htop : top ≤ 100000) :
   ∀ (cs : List Nat), (∀ c ∈ cs, (k < c ∧ 1 ≤ c ∧ c < 6) ∧ ax c = k) → ∀ (m : Str → Option Value) (kvs : List (Str × Value)) (wob : Obj) (S : Nat → Prop), wob.IsDictOf (strKind pg w) kvs → kvs.length + cs.length * 6 ^ (5 - k) ≤ top → Good W sx kvs S →
     m "behind" = some (.str (W k) tb) → m "wants" = some (.ref wd) →
     (∀ h' tk' m' wob' kvs', Fr h₀ L h' m' → m' "wants" = some (.ref wd) → News h₀ L h' (fix ++ [(wd, wob')]) → wob'.IsDictOf (strKind pg w) kvs' → kvs'.length ≤ top → Good W sx kvs' (fun d => S d ∨ ∃ c, c ∈ cs ∧ Desc ax c d) → Q .next { s with heap := h', toks := tk' }) →
     ListRest pg w (ktrTop dp un gd "_law_wants" (scopeAt w 121) L a ccd cl outer) E h₀ (envOf "_law_wants" (scopeAt w 121) L 121 (.ref 120)) "one" (forBody (stmtsAt w 121)) Q s I lp (cs.map fun c => .ref (fd c)) m (fix ++ [(wd, wob)]) := by
  intro cs
  induction cs with
  | nil =>
    intro _ m kvs wob S hd hl g m1 m2 K
    exact ListRest.zero fun h tk F N => K h tk m wob kvs F m2 N hd (by simpa using hl) (g.mono fun d hd => hd.elim id fun ⟨c, hc, _⟩ => absurd hc List.not_mem_nil)
  | cons c cs ihc =>
    intro hcs m kvs wob S hd hl g m1 m2 K
    refine ListRest.succ fun it h tk hit F N => ?_
    obtain ⟨⟨c1, c2, c3⟩, c4⟩ := hcs c (.head _)
    have hp : 6 ^ (6 - c) ≤ 6 ^ (5 - k) := Nat.pow_le_pow_right (by decide) (Nat.succ_sub_succ 5 k ▸ Nat.sub_le_sub_left c1 6)
    have h7 : 7 - c ≤ 6 - k := Nat.succ_sub_succ 6 k ▸ Nat.sub_le_sub_left c1 7
    have hl' : kvs.length + 6 ^ (5 - k) + cs.length * 6 ^ (5 - k) ≤ top := by
      rw [List.length_cons, Nat.succ_mul] at hl
      rw [Nat.add_assoc, Nat.add_comm (6 ^ (5 - k))]
      exact hl
    have C := ih c c1 c3 tb kvs wob S hd (Nat.le_trans (Nat.add_le_add_left hp _) (Nat.le_trans (Nat.le_trans (Nat.le_add_right _ _) hl') htop)) g
    rw [hB c c2 c3, c4] at C
    refine wantTurn w mg mb p loose mean dp un gd a ccd cl outer A₀ base h₀ L m _ _ _ (fd c) wd I (W k) tb it _ _ _ _ C B F X N (fun q hq => ?_) T m1 m2 (Nat.lt_of_le_of_lt (Nat.add_le_add_left (Nat.mul_le_mul_left 2 h7) dp) hdp) (Nat.lt_of_le_of_lt (Nat.add_le_add_left (Nat.mul_le_mul_left 20 h7) un) hun) ?_
    · rcases List.mem_append.mp hq with hq | hq
      · exact hfI q hq
      · rw [List.mem_singleton.mp hq]; exact hwI
    · intro v news' h' tk' m' F' e1 e2 N' P
      obtain ⟨_, wob', kvs', rfl, hd', hl2, g'⟩ := P.out
      refine ⟨h', tk', m', fix ++ [(wd, wob')], rfl, F', Newss.sub N' fun q hq => ?_, fun q hq => ?_, List.mem_append_left _ hlp, ihc (fun x hx => hcs x (.tail _ hx)) m' kvs' wob' _ hd' (Nat.le_trans (Nat.add_le_add_right (Nat.le_trans hl2 (Nat.add_le_add_left hp _)) _) hl') g' e1 e2 ?_⟩
      · rcases List.mem_cons.mp hq with rfl | hq
        · exact List.mem_append_right _ List.mem_cons_self
        · exact List.mem_append_left _ hq
      · rcases List.mem_append.mp hq with hq | hq
        · exact hfI q hq
        · rw [List.mem_singleton.mp hq]; exact hwI
      · intro h2 tk2 m2' wob2 kvs2 F2 e3 N2 hd2 hl3 g2
        exact K h2 tk2 m2' wob2 kvs2 F2 e3 N2 hd2 hl3 (g2.mono fun d hd => by
          rcases hd with hd | ⟨x, hx, hd⟩
          · exact .inl (.inl hd)
          · rcases List.mem_cons.mp hx with rfl | hx
            · exact .inl (.inr hd)
            · exact .inr ⟨x, hx, hd⟩)

end

section
theorem valueAt_stored' {kvs : List (Str × Value)} {k x : Str} {v : Value} : valueAt (stored kvs k v) x = if k = x then some v else valueAt kvs x := by
  unfold stored
  by_cases h : kvs.any (fun kv => kv.1 = k) = true
  · rw [if_pos h]
    unfold valueAt
    induction kvs with
    | nil => simp at h
    | cons p r ih =>
      by_cases hp : p.1 = k
      · by_cases hx : k = x
        · simp [List.find?_cons, hp, hx]
        · have hx' : ¬ p.1 = x := fun e => hx (hp ▸ e)
          simp only [List.map_cons, if_pos hp, List.find?_cons, hx', decide_false]
          rw [if_neg hx]
          by_cases hr : r.any (fun kv => kv.1 = k) = true
          · have := ih hr
            rw [if_neg hx] at this
            exact this
          · have : r.map (fun kv => if kv.1 = k then (kv.1, v) else kv) = r := by
              rw [List.map_congr_left (g := fun a => a)]
              · simp
              · intro a ha
                exact if_neg fun e => hr (List.any_eq_true.mpr ⟨a, ha, by simp [e]⟩)
            rw [this]
      · have hr : r.any (fun kv => kv.1 = k) = true := by
          rw [List.any_cons] at h
          simpa [hp] using h
        simp only [List.map_cons, if_neg hp, List.find?_cons]
        by_cases hx : p.1 = x
        · have : ¬ k = x := fun e => hp (hx.trans e.symm)
          simp [hx, this]
        · simp only [hx, decide_false]
          exact ih hr
  · rw [if_neg h]
    unfold valueAt
    rw [List.find?_append]
    by_cases hx : k = x
    · rw [if_pos hx]
      have : kvs.find? (fun kv => decide (kv.1 = x)) = none := by
        rw [List.find?_eq_none]
        intro a ha e
        exact h (List.any_eq_true.mpr ⟨a, ha, by simpa [hx] using e⟩)
      rw [this]
      simp [hx]
    · rw [if_neg hx]
      cases kvs.find? (fun kv => decide (kv.1 = x)) with
      | some p => rfl
      | none => simp [hx]
theorem stored_length {kvs : List (Str × Value)} {k : Str} {v : Value} : (stored kvs k v).length ≤ kvs.length + 1 := by
  unfold stored
  split <;> simp

end

section
theorem su84wants_1 : True := by
  w_top off
  (k_with "e105" => skip)
  (k_with "MemR" => ((fail_if_success k_extra "e106"); (first | exact List.mem_cons_self | with_reducible assumption | (refine' List.mem_cons_of_mem _ ?az41; (case az41 => k_extra "MemR")))))
  (k_with "Tail" => ((fail_if_success k_extra "e107"); (first | exact TailOf.refl | (refine' TailOf.cons ?az42; (case az42 => k_extra "Tail")))))
  (k_with "RNe" => ((fail_if_success k_extra "e108"); (first | assumption | (refine' RNe.of_ltl _ ?hz43 ?ez43; (case hz43 => with_reducible assumption); (case ez43 => k_extra "SEG")))))
  (k_with "k_all" => ((fail_if_success k_extra "e109"); (first | exact List.forall_mem_nil _ | (refine' RNe.ne ?rz44; (case rz44 => k_extra "RNe")) | (refine' List.forall_mem_cons.mpr ⟨?az44, ?bz44⟩; (case az44 => k_ne); (case bz44 => k_extra "k_all")))))
  (k_with "RNeAll" => ((fail_if_success k_extra "e110"); (first | exact List.forall_mem_nil _ | (refine' List.forall_mem_cons.mpr ⟨?az45, ?bz45⟩; (case az45 => k_extra "RNe"); (case bz45 => k_extra "RNeAll")))))
  (k_with "Split2" => ((fail_if_success k_extra "e111"); (first | exact Split.nil | ((with_reducible refine' Split.dropG ?bz46); (case bz46 => k_extra "Split2")) | (refine' Split.dropM ?az46 ?bz46; (case az46 => with_reducible k_mem); (case bz46 => k_extra "Split2")) | (refine' Split.keep ?az46 ?bz46; (case az46 => k_extra "NotIn"); (case bz46 => k_extra "Split2")) | (refine' Split.drop ?bz46; (case bz46 => k_extra "Split2")) | (refine' Split.tail ?az46; (case az46 => k_extra "RNeAll")))))
  (k_with "MemAll2" => ((fail_if_success k_extra "e112"); (first | exact List.forall_mem_nil _ | (refine' List.forall_mem_cons.mpr ⟨?az47, ?bz47⟩; (case az47 => k_mem); (case bz47 => k_extra "MemAll2")) | (refine' memAll_tail ?az47; (case az47 => k_extra "Tail")))))
  (k_with "call builtin:len" => ((fail_if_success k_extra "e113"); ((k_here; (with_reducible show wpAny _ _ (call (Value.builtin "len") [Value.ref _]) _ _ _); k_dflt (first | (refine' lenS1 ?Nz48 ?mz48 ?zz48 ?_; (case Nz48 => k_asm); (case mz48 => k_mem); (case zz48 => omega); k_whole) | (refine' lenS ?Nz48 ?mz48 ?zz48 ?_; (case Nz48 => k_asm); (case mz48 => k_mem); (case zz48 => omega); k_whole))))))
  (k_with "call ref" => ((fail_if_success k_extra "e114"); ((k_here; kn_here; (with_reducible show wpAny _ _ (call (Value.ref 23) [_, _, _] []) _ _ _); k_dflt (refine' HC.atO (sub_g0 _ _ _ _ _ _ _ _ _ _ _ _ _ _ _ _ _ ?a1z49 ?a2z49 ?a3z49 ?a4z49 ?a5z49 ?a6z49 ?a7z49 ?a8z49 ?a9z49 ?b1z49 ?b2z49) out34 ?Bz49 ?Fz49 ?Xz49 ?Nz49 ?Tz49 ?kz49 ?Gz49 ?dz49 ?uz49 ?rz49 ?sz49 ?_; (case a1z49 => assumption); (case Bz49 => k_asm); (case Fz49 => k_asm); (case Xz49 => k_asm); (case Nz49 => k_asm); (case Tz49 => k_asm); (case kz49 => first | exact rfl | assumption); (case Gz49 => assumption); (case rz49 => ((try simp only [Node.led, List.cons_append, List.nil_append]); k_extra "MemAll2")); (case a6z49 => assumption); (case a2z49 => assumption); (case a3z49 => assumption); (case sz49 => k_extra "Split2"); (case a4z49 => omega); (case a5z49 => first | omega | exact Nat.le_of_ble_eq_true rfl); (case a7z49 => first | exact Nat.le_of_ble_eq_true rfl | (simp only [List.length_cons, List.length_nil]; omega)); (case a8z49 => omega); (case a9z49 => omega); (case b1z49 => omega); (case b2z49 => omega); (case dz49 => ktr_room); (case uz49 => ktr_units); k_whole); intro h' tk' F' l1 nd' D' ob' ok' hob' l2' l3' N'; have oA' := ok'.cell; have oB' := ok'.tag; have oC' := ok'.attrib; have oD' := ok'.inner; have oE' := ok'.make; have oF' := ok'.app; have rA' := ok'.o1; have rB' := ok'.o2; have rC' := ok'.o3; have rD' := ok'.o4; (try dsimp only at l2'); (try dsimp only [Node.led, List.cons_append, List.nil_append] at N'); (try k_lt l1); (try dsimp only)))))
  (k_with "call ref" => ((fail_if_success k_extra "e115"); ((k_here; kn_here; (with_reducible show wpAny _ _ (call (Value.ref 23) [_, _, _] _) _ _ _); k_dflt (show wpAny _ _ (call (Value.ref 23) [_, _, _] [("gap", _)]) _ _ _); k_dflt (refine' HC.atO (sub_g1 _ _ _ _ _ _ _ _ _ _ _ _ _ _ _ _ _ _ ?a1z50 ?a2z50 ?a3z50 ?a4z50 ?a5z50 ?a6z50 ?a7z50 ?a8z50 ?a9z50 ?b1z50 ?b2z50) out34 ?Bz50 ?Fz50 ?Xz50 ?Nz50 ?Tz50 ?kz50 ?Gz50 ?dz50 ?uz50 ?rz50 ?sz50 ?_; (case a1z50 => assumption); (case Bz50 => k_asm); (case Fz50 => k_asm); (case Xz50 => k_asm); (case Nz50 => k_asm); (case Tz50 => k_asm); (case kz50 => first | exact rfl | assumption); (case Gz50 => assumption); (case rz50 => ((try simp only [Node.led, List.cons_append, List.nil_append]); k_extra "MemAll2")); (case a6z50 => assumption); (case a2z50 => assumption); (case a3z50 => assumption); (case sz50 => k_extra "Split2"); (case a4z50 => omega); (case a5z50 => first | omega | exact Nat.le_of_ble_eq_true rfl); (case a7z50 => first | exact Nat.le_of_ble_eq_true rfl | (simp only [List.length_cons, List.length_nil]; omega)); (case a8z50 => omega); (case a9z50 => omega); (case b1z50 => omega); (case b2z50 => omega); (case dz50 => ktr_room); (case uz50 => ktr_units); k_whole); intro h' tk' F' l1 nd' D' ob' ok' hob' l2' l3' N'; have oA' := ok'.cell; have oB' := ok'.tag; have oC' := ok'.attrib; have oD' := ok'.inner; have oE' := ok'.make; have oF' := ok'.app; have rA' := ok'.o1; have rB' := ok'.o2; have rC' := ok'.o3; have rD' := ok'.o4; (try dsimp only at l2'); (try dsimp only [Node.led, List.cons_append, List.nil_append] at N'); (try k_lt l1); (try dsimp only)))))
  (k_with "call ref" => ((fail_if_success k_extra "e116"); ((k_here; kn_here; (with_reducible show wpAny _ _ (call (Value.ref 23) [_, _] []) _ _ _); k_dflt (refine' HC.atO (sub_k0 _ _ _ _ _ _ _ _ _ _ _ _ _ _ ?a1z51 ?a2z51 ?a3z51 ?a4z51 ?a5z51 ?b1z51 ?b2z51) out34 ?Bz51 ?Fz51 ?Xz51 ?Nz51 ?Tz51 ?kz51 ?Gz51 ?dz51 ?uz51 ?rz51 ?sz51 ?_; (case a1z51 => assumption); (case Bz51 => k_asm); (case Fz51 => k_asm); (case Xz51 => k_asm); (case Nz51 => k_asm); (case Tz51 => k_asm); (case kz51 => first | exact rfl | assumption); (case Gz51 => assumption); (case rz51 => ((try simp only [Node.led, List.cons_append, List.nil_append]); k_extra "MemAll2")); (case a2z51 => assumption); (case a3z51 => assumption); (case sz51 => k_extra "Split2"); (case a4z51 => omega); (case a5z51 => first | omega | exact Nat.le_of_ble_eq_true rfl); (case b1z51 => omega); (case b2z51 => omega); (case dz51 => ktr_room); (case uz51 => ktr_units); k_whole); intro h' tk' F' l1 nd' D' ob' ok' hob' l2' l3' N'; have oA' := ok'.cell; have oB' := ok'.tag; have oC' := ok'.attrib; have oD' := ok'.inner; have oE' := ok'.make; have oF' := ok'.app; have rA' := ok'.o1; have rB' := ok'.o2; have rC' := ok'.o3; have rD' := ok'.o4; (try dsimp only at l2'); (try dsimp only [Node.led, List.cons_append, List.nil_append] at N'); (try k_lt l1); (try dsimp only)))))
  (k_with "call ref" => ((fail_if_success k_extra "e117"); ((k_here; kn_here; (with_reducible show wpAny _ _ (call (Value.ref 23) [_, _] _) _ _ _); k_dflt (show wpAny _ _ (call (Value.ref 23) [_, _] [("gap", _), ("name", _)]) _ _ _); k_dflt (refine' HC.atO (sub_k2 _ _ _ _ _ _ _ _ _ _ _ _ _ _ _ _ ?a1z52 ?a2z52 ?a3z52 ?a4z52 ?a5z52 ?b1z52 ?b2z52) out34 ?Bz52 ?Fz52 ?Xz52 ?Nz52 ?Tz52 ?kz52 ?Gz52 ?dz52 ?uz52 ?rz52 ?sz52 ?_; (case a1z52 => assumption); (case Bz52 => k_asm); (case Fz52 => k_asm); (case Xz52 => k_asm); (case Nz52 => k_asm); (case Tz52 => k_asm); (case kz52 => first | exact rfl | assumption); (case Gz52 => assumption); (case rz52 => ((try simp only [Node.led, List.cons_append, List.nil_append]); k_extra "MemAll2")); (case a2z52 => assumption); (case a3z52 => assumption); (case sz52 => k_extra "Split2"); (case a4z52 => omega); (case a5z52 => first | omega | exact Nat.le_of_ble_eq_true rfl); (case b1z52 => omega); (case b2z52 => omega); (case dz52 => ktr_room); (case uz52 => ktr_units); k_whole); intro h' tk' F' l1 nd' D' ob' ok' hob' l2' l3' N'; have oA' := ok'.cell; have oB' := ok'.tag; have oC' := ok'.attrib; have oD' := ok'.inner; have oE' := ok'.make; have oF' := ok'.app; have rA' := ok'.o1; have rB' := ok'.o2; have rC' := ok'.o3; have rD' := ok'.o4; (try dsimp only at l2'); (try dsimp only [Node.led, List.cons_append, List.nil_append] at N'); (try k_lt l1); (try dsimp only)))))
  (k_with "call ref" => ((fail_if_success k_extra "e118"); ((k_here; kn_here; (with_reducible show wpAny _ _ (call (Value.ref 23) [_, _] _) _ _ _); k_dflt (show wpAny _ _ (call (Value.ref 23) [_, _] [("gap", _), ("name", _), ("more", _)]) _ _ _); k_dflt (refine' HC.atO (sub_k3 _ _ _ _ _ _ _ _ _ _ _ _ _ _ _ _ _ ?a1z53 ?a2z53 ?a3z53 ?a4z53 ?a5z53 ?b1z53 ?b2z53) out34 ?Bz53 ?Fz53 ?Xz53 ?Nz53 ?Tz53 ?kz53 ?Gz53 ?dz53 ?uz53 ?rz53 ?sz53 ?_; (case a1z53 => assumption); (case Bz53 => k_asm); (case Fz53 => k_asm); (case Xz53 => k_asm); (case Nz53 => k_asm); (case Tz53 => k_asm); (case kz53 => first | exact rfl | assumption); (case Gz53 => assumption); (case rz53 => ((try simp only [Node.led, List.cons_append, List.nil_append]); k_extra "MemAll2")); (case a2z53 => assumption); (case a3z53 => assumption); (case sz53 => k_extra "Split2"); (case a4z53 => omega); (case a5z53 => first | omega | exact Nat.le_of_ble_eq_true rfl); (case b1z53 => omega); (case b2z53 => omega); (case dz53 => ktr_room); (case uz53 => ktr_units); k_whole); intro h' tk' F' l1 nd' D' ob' ok' hob' l2' l3' N'; have oA' := ok'.cell; have oB' := ok'.tag; have oC' := ok'.attrib; have oD' := ok'.inner; have oE' := ok'.make; have oF' := ok'.app; have rA' := ok'.o1; have rB' := ok'.o2; have rC' := ok'.o3; have rD' := ok'.o4; (try dsimp only at l2'); (try dsimp only [Node.led, List.cons_append, List.nil_append] at N'); (try k_lt l1); (try dsimp only)))))
  (k_with "compareOp NotEq str str" => ((fail_if_success k_extra "e119"); ((k_here; k_dflt (refine neSame ?_)))))
  (k_with "Hits" => ((fail_if_success k_extra "e120"); (first | exact KeqHits.nil | (refine' hitS ?vz55 ?rz55; (case vz55 => exact rfl); (case rz55 => k_extra "Hits")))))
  (k_with "compareOp NotEq ref ref" => ((fail_if_success k_extra "e121"); ((k_here; (with_reducible show wpAny _ _ (compareOp CmpOp.NotEq (Value.ref _) (Value.ref _)) _ _ _); k_dflt (refine' dictSame ?haz56 ?hbz56 ?daz56 ?dbz56 ?hlz56 ?hitsz56 ?huz56 ?_; (case daz56 => k_extra "DictOfAt"); (case dbz56 => k_extra "DictOfAt"); (case haz56 => k_extra "NotMods"); (case hbz56 => k_extra "NotMods"); (case hlz56 => first | assumption | exact rfl); (case hitsz56 => k_extra "Hits"); (case huz56 => ktr_units); k_whole)))))
  (k_with "compareOp Is ref ref" => ((fail_if_success k_extra "e122"); ((k_here; (with_reducible show wpAny _ _ (compareOp CmpOp.Is (Value.ref _) (Value.ref _)) _ _ _); k_dflt (refine' isDict ?nz57 ?daz57 ?dbz57 ?_; (case daz57 => k_extra "DictOfAt"); (case dbz57 => k_extra "DictOfAt"); (case nz57 => kto_ne); k_whole)))))
  (k_with "subscriptTail Name Name ref int" => ((fail_if_success k_extra "e123"); ((k_here; k_dflt (refine' subAtI ?Nz58 ?mz58 ?az58 ?xz58 ?zz58 ?_; (case Nz58 => k_asm); (case mz58 => with_reducible k_extra "MemR"); (case az58 => first | decide | assumption); (case xz58 => first | exact rfl | assumption); (case zz58 => first | exact Nat.le_of_ble_eq_true rfl | assumption | omega); k_whole)))))
  (k_with "subscriptTail Name Constant ref int" => ((fail_if_success k_extra "e124"); ((k_here; k_dflt (refine' subAtI ?Nz59 ?mz59 ?az59 ?xz59 ?zz59 ?_; (case Nz59 => k_asm); (case mz59 => with_reducible k_extra "MemR"); (case az59 => first | decide | assumption); (case xz59 => first | exact rfl | assumption); (case zz59 => first | exact Nat.le_of_ble_eq_true rfl | assumption | omega); k_whole)))))
  (k_with "subscriptTail Name Subscript ref int" => ((fail_if_success k_extra "e125"); ((k_here; k_dflt (refine' subAtI ?Nz60 ?mz60 ?az60 ?xz60 ?zz60 ?_; (case Nz60 => k_asm); (case mz60 => with_reducible k_extra "MemR"); (case az60 => first | decide | assumption); (case xz60 => first | exact rfl | assumption); (case zz60 => first | exact Nat.le_of_ble_eq_true rfl | assumption | omega); k_whole)))))
  (k_with "subscriptTail Name UnaryOp ref int" => ((fail_if_success k_extra "e126"); ((k_here; (with_reducible show wpAny _ _ (subscriptTail _ _ (Value.ref _) (Value.int (-1) _)) _ _ _); k_dflt (refine' subLast ?Nz61 ?mz61 ?zz61 ?_; (case Nz61 => k_asm); (case mz61 => with_reducible k_extra "MemR"); (case zz61 => omega); k_whole)))))
  (k_with "compareOp NotEq int int" => ((fail_if_success k_extra "e127"); ((k_here; k_dflt (refine neInt ?_)))))
  (k_with "newList" => ((fail_if_success k_extra "e128"); ((k_here; k_dflt (refine' newList_K ?k1z63 ?k2z63 ?_ ?zz63; (case k1z63 => k_asm); (case k2z63 => k_asm); (case zz63 => exact Nat.le_of_ble_eq_true rfl); k_whole); intro l' h' F' N' l1; (try k_lt l1); (try k_sweep)))))
  (k_with "call builtin:list.append" => ((fail_if_success k_extra "e129"); ((k_here; (with_reducible show wpAny _ _ (call (Value.builtin _) [Value.ref _, _]) _ _ _); k_dflt (refine' append_K ?k1z64 ?k2z64 ?k3z64 ?_ ?zz64; (case k1z64 => k_asm); (case k2z64 => k_asm); (case k3z64 => k_upd); (case zz64 => exact toArr_size (by omega)); k_whole); intro h' F' N'; (try k_sweep)))))
  (k_with "UF" => ((fail_if_success k_extra "e130"); (first | (refine' UpdF.head ?az65; (case az65 => k_extra "KA")) | (refine' UpdF.tail ?az65 ?bz65; (case az65 => k_ne); (case bz65 => k_extra "UF")))))
  (k_with "KA" => ((fail_if_success k_extra "e131"); (first | exact List.forall_mem_nil _ | (refine' List.forall_mem_cons.mpr ⟨?az66, ?bz66⟩; (case az66 => k_ne); (case bz66 => k_extra "KA")) | exact RNe.ne (by k_extra "RNe"))))
  (k_with "setItem ref str" => ((fail_if_success k_extra "e132"); ((k_here; k_dflt (refine' setItemS ?Fz67 ?Nz67 ?Uz67 ?dz67 ?zz67 ?_; (case Fz67 => k_asm); (case Nz67 => k_asm); (case Uz67 => k_extra "UF"); (case dz67 => assumption); (case zz67 => first | exact Nat.le_of_ble_eq_true rfl | assumption | omega); k_whole); intro h' o' F' N' hd'; (try dsimp only at N'); (try k_sweep)))))
  (k_with "RLT" => ((fail_if_success k_extra "e133"); ((refine' restLtl _ ?xz68 ?hz68 ?ez68; (case xz68 => with_reducible assumption); (case hz68 => with_reducible assumption); (case ez68 => k_extra "SEG")))))
  (k_with "KdnMade" => ((fail_if_success k_extra "e134"); ((k_here; k_dflt (refine' kdn_made_strF ?Fz69 ?Nz69 ?Uz69 ?dz69 ?kz69 ?nz69 ?vz69 ?_; (case Fz69 => k_asm); (case Nz69 => k_asm); (case Uz69 => k_updF); (case dz69 => k_asm); (case kz69 => rfl); (case nz69 => exact of_decide_eq_true (by first | rfl | kernel_rfl!)); (case vz69 => rfl); intro h' o' F' N' hd' hf'); (try dsimp only at N'); (try dsimp only at hd'); (try dsimp only at hf'); (try dsimp only)))))
  trivial
theorem itemD {prog : Program} {w : World} {A : Around} {E : Value → Shared → Prop} {s : Shared} {h₀ : Heap} {L : Addr} {news : List (Addr × Obj)} {value slice : Expr} {Q : Value → Shared → Prop} {d : Addr} {o : Obj} {kvs : List (Str × Value)} {k : Str} {t : Tok} {v : Value} (N : News h₀ L s.heap news) (hp : (d, o) ∈ news) (hd : o.IsDictOf (strKind prog w) kvs) (hl : valueAt kvs k = some v) (h : Q v { s with toks := s.toks + 1 })
    (hs : subscripted slice false (.ref d) (.str k t) = operate [.ref d, .str k t] (getItem (.ref d) (.str k t)) := by with_unfolding_all rfl) :
    wpAny (model prog w) A (subscriptTail value slice (.ref d) (.str k t)) Q E s :=
  have hD := kda_dict N hp hd
  tail_any hD.typeIs slot_dict_getitem.lookup (wpAny_getItem_of (strKind_is prog w k t) hD.mapOf hl h) hs
theorem setItemB {prog : Program} {w : World} {A : Around} {E : Value → Shared → Prop} {s : Shared} {h₀ : Heap} {L : Addr} {news : List (Addr × Obj)} {m : Str → Option Value} {d : Addr} {o : Obj} {g : Obj → List (Addr × Obj)} {k : Str} {t : Tok} {v : Value} {kvs : List (Str × Value)} {Q : Unit → Shared → Prop}
    (F : Fr h₀ L s.heap m) (N : News h₀ L s.heap news) (U : UpdF d o news g) (hd : o.IsDictOf (strKind prog w) kvs) (hsz : kvs.length ≤ 100000)
    (h : ∀ h' o', Fr h₀ L h' m → News h₀ L h' (g o') → o'.IsDictOf (strKind prog w) (stored kvs k v) → Q () { s with heap := h', toks := s.toks + 1 }) :
    wpAny (model prog w) A (setItem (.ref d) (.str k t) v) Q E s := by
  obtain ⟨own, rest, rfl, hg, h1, h2⟩ := U.split
  have hm := N (d, o) (List.mem_append_right _ (.head _))
  refine wpAny_setItem_pairs (hsz := Nat.le_trans hsz (by rw [sizeLine_eq]; decide)) (strKind_is prog w k t) (Heap.dictOf_iff.mpr ⟨o, hm.1, hd⟩) fun h' hmm hs => ?_
  obtain ⟨o', ho', hd'⟩ := Heap.dictOf_iff.mp hmm
  exact h h' o' (F.change hs hm.2.1 hm.2.2) (hg o' ▸ N.setIn h1 h2 hs ho') hd'
theorem su84wants_2 : True := by
  (k_with "subscriptTail" => ((fail_if_success k_extra "e135"); ((k_here; (with_reducible show wpAny _ _ (subscriptTail _ _ (Value.ref _) (Value.str _ _)) _ _ _); k_dflt (refine' itemD ?Nz105 ?mz105 ?dz105 ?lz105 ?_; (case Nz105 => k_asm); (case mz105 => k_mem); (case dz105 => assumption); (case lz105 => assumption); k_whole)))))
  (k_with "setItem ref str" => ((fail_if_success k_extra "e136"); ((k_here; k_dflt (refine' setItemB ?Fz106 ?Nz106 ?Uz106 ?dz106 ?zz106 ?_; (case Fz106 => k_asm); (case Nz106 => k_asm); (case Uz106 => k_extra "UF"); (case dz106 => assumption); (case zz106 => first | exact Nat.le_trans (Nat.le_add_right _ _) (by assumption) | omega)); intro h' o' F' N' hd'; (try dsimp only at N'); (try k_sweep)))))
  (k_with "binaryOp Add str str" => ((fail_if_success k_extra "e137"); ((k_here; (with_reducible show wpAny _ _ (binaryOp Operator.Add (Value.str _ _) (Value.str _ _)) _ _ _); k_dflt (refine' addS ?nhz107 ?niz107 ?_; (case nhz107 => first | assumption | (simp only [StrLaws.length_append]; omega)); (case niz107 => first | assumption | omega)); intro t' tk'))))
  (k_with "pyIter ref" => ((fail_if_success k_extra "e138"); (((with_reducible show wpAny _ _ (pyIter (Value.ref _)) (fun it s₂ => LoopAtV _ _ _ _ _ _ _ _ _ it s₂) _ _); k_dflt (refine' iter_listUnr ?haz79 ?hFz79 ?hNz79 ?hmz79 ?hcz79 ?hdz79 ?_; (case haz79 => exact rfl); (case hFz79 => k_asm); (case hNz79 => k_asm); (case hmz79 => k_mem); (case hcz79 => exact rfl); (case hdz79 => exact rfl)); intro I' l1; (try k_lt l1); refine Hold.out ?_))))
  trivial
theorem Kept.mono {H : Heap} {as as' : List Addr} {h : Heap} (hs : ∀ a ∈ as, a ∈ as') (k : Kept H as h) : Kept H as' h := fun b o e n => k b o e fun q => n (hs b q)
theorem Newly.mono {H : Heap} {as as' : List Addr} {h : Heap} {l : List (Addr × Obj)} (hs : ∀ a ∈ as, a ∈ as') (k : Newly H as h l) : Newly H as' h l := fun q hq => ⟨(k q hq).1, (k q hq).2.imp (hs _) fun h => h⟩
theorem mapSub {l l' : List (Addr × Obj)} (h : ∀ q ∈ l, q ∈ l') : ∀ a ∈ l.map (·.1), a ∈ l'.map (·.1) := fun a ha => by
  obtain ⟨q, hq, e⟩ := List.mem_map.mp ha
  exact List.mem_map.mpr ⟨q, h q hq, e⟩
theorem wants_len {a l P R : Nat} (h1 : l ≤ 5 * P) (h5 : R = 6 * P) (hp : 1 ≤ P) : a + 1 + l ≤ a + R := by
  rw [h5, Nat.succ_mul 5 P, Nat.add_assoc, Nat.add_comm 1]; exact Nat.add_le_add_left (Nat.add_le_add h1 hp) a
theorem wroom {a c x y lim e : Nat} (h : a + c * y < lim) (hy : y = x + 1) (he : e ≤ c) : a + e + c * x < lim := by
  rw [hy, Nat.mul_succ] at h
  rw [Nat.add_assoc, Nat.add_comm e]
  exact Nat.lt_of_le_of_lt (Nat.add_le_add_left (Nat.add_le_add_left he _) a) h
theorem wants_step (w : World) (mg mb : Str → Option Value) (W Bt sx nx : Nat → Str) (ax : Nat → Nat) (su : Nat → Tok) (wd c2 I : Addr) (Bk : Nat → Blk) (D : DocAt w I sx nx ax su 6 Bk) (hax : ∀ k, 1 ≤ k → k < 6 → ax k < k)
   (hW : ∀ c, c < 6 → W c = ("..." : Str) ++ nx c ++ Bt c) (hB : ∀ c, 1 ≤ c → c < 6 → Bt c = W (ax c)) (hn : ∀ c, c < 6 → (nx c).length ≤ 1000) (hb : ∀ c, c < 6 → (Bt c).length ≤ 10000) (hdist : ∀ c d, c < 6 → d < 6 → sx c = sx d → c = d)
   (hwd : ∀ q ∈ canonB (pmOf mg) c2 6 Bk, q.1 ≠ wd) (k : Nat) (hk : k < 6)
   (ih : ∀ c, k < c → c < 6 → WantsHC w mg mb W Bt sx ax wd (canonB (pmOf mg) c2 6 Bk) (fun c => (Bk c).nd.f) c) :
   WantsHC w mg mb W Bt sx ax wd (canonB (pmOf mg) c2 6 Bk) (fun c => (Bk c).nd.f) k := by
  intro t kvs wob S hd0 hlen g p loose mean dp un gd cn cs a ccd cl outer A₀ base h₀ L m s Q E B F X N T hk9 HG hdp hun hret
  have okj := D.ok k hk
  obtain ⟨kk, hdk, ⟨tg, hg1⟩, ⟨tn, hg2⟩⟩ := (D.dict k hk).out
  have hit := D.items k hk
  have hp5 : 6 ^ (6 - k) = 6 * 6 ^ (5 - k) := by
    have : 6 - k = (5 - k) + 1 := Nat.succ_sub (Nat.le_of_lt_succ hk)
    rw [this, Nat.pow_succ, Nat.mul_comm]
  have hp1 : 1 ≤ 6 ^ (5 - k) := Nat.pow_pos (by decide)
  have hnk := hn k hk
  have hbk := hb k hk
  have h3 : (Str.ofString "...").length = 3 := by decide +kernel
  have hsub : ∀ q ∈ (Bk k).led (pmOf mg) c2, q ∈ canonB (pmOf mg) c2 6 Bk := fun q hq => mem_canonB.mpr ⟨k, hk, hq⟩
  generalize hfix : canonB (pmOf mg) c2 6 Bk = rest at *
  have hlp : ((Bk k).nd.l, listOf (Bk k).items.toArray (Bk k).n) ∈ rest := hsub _ (by simp [Blk.led, Node.led])
  show wpAny (model pg w) (ktrTop dp un gd cn cs L a ccd cl outer) (call (Value.ref 121) [Value.ref (Bk k).nd.f, Value.str (Bt k) t, Value.ref wd] []) Q E s
  generalize hbe : Bk k = b at *
  obtain ⟨nd, Da, ob, items, n⟩ := b
  dsimp only at *
  have g1 : (nd.f, fnObj (some nd.dx) nd.fd #[]) ∈ rest := hsub _ (List.Mem.tail _ (List.Mem.tail _ (List.Mem.head _)))
  have g2 : (nd.dx, dictOf nd.es 5) ∈ rest := hsub _ (List.Mem.tail _ (List.Mem.tail _ (List.Mem.tail _ (List.Mem.head _))))
  have g3 : (nd.l, listOf items.toArray n) ∈ rest := hsub _ (List.Mem.tail _ (List.Mem.tail _ (List.Mem.tail _ (List.Mem.tail _ (List.Mem.head _)))))
  have g4 : (Da, ob) ∈ rest := hsub _ (List.Mem.head _)
  have hE : ∀ q ∈ ([(nd.f, fnObj (some nd.dx) nd.fd #[]), (nd.dx, dictOf nd.es 5), (nd.l, listOf items.toArray n), (Da, ob), (wd, wob)] ++ rest), q ∈ rest ++ [(wd, wob)] := fun q hq => by
    rcases List.mem_append.mp hq with hq | hq
    · simp only [List.mem_cons, List.not_mem_nil, or_false] at hq
      rcases hq with rfl | rfl | rfl | rfl | rfl
      · exact List.mem_append_left _ g1
      · exact List.mem_append_left _ g2
      · exact List.mem_append_left _ g3
      · exact List.mem_append_left _ g4
      · exact List.mem_append_right _ List.mem_cons_self
    · exact List.mem_append_left _ hq
  have N : News h₀ L s.heap ([(nd.f, fnObj (some nd.dx) nd.fd #[]), (nd.dx, dictOf nd.es 5), (nd.l, listOf items.toArray n), (Da, ob), (wd, wob)] ++ rest) := Newss.sub N hE
  have hE1 := mapSub hE
  have hret : ∀ (v : Value) (news' : List (Addr × Obj)) (h' : Heap) (tk' : Nat), Kept s.heap (List.map (·.1) ([(nd.f, fnObj (some nd.dx) nd.fd #[]), (nd.dx, dictOf nd.es 5), (nd.l, listOf items.toArray n), (Da, ob), (wd, wob)] ++ rest)) h' → Newly s.heap (List.map (·.1) ([(nd.f, fnObj (some nd.dx) nd.fd #[]), (nd.dx, dictOf nd.es 5), (nd.l, listOf items.toArray n), (Da, ob), (wd, wob)] ++ rest)) h' news' → WPost w W sx wd rest (kvs.length + 6 ^ (6 - k)) (fun d => S d ∨ Desc ax k d) v news' → Q v { s with heap := h', toks := tk' } :=
    fun v news' h' tk' a b c => hret v news' h' tk' (Kept.mono hE1 a) (Newly.mono hE1 b) c
  clear hE1 hE
  have r1 : RNe rest wd := ⟨hwd⟩
  have v2 : @Ne Nat nd.f wd := hwd _ g1
  have v3 : @Ne Nat nd.dx wd := hwd _ g2
  have v4 : @Ne Nat nd.l wd := hwd _ g3
  have v6 : @Ne Nat Da wd := hwd _ g4
  have o1 := okj.cell
  have o2 := okj.tag
  have o3 := okj.attrib
  have o4 := okj.inner
  have o5 := okj.make
  have o6 := okj.app
  clear g1 g2 g3 g4
  clear hsub
  refine wpAny_call ?_
  k_dflt (k_extra "MyEnter")
  k_steps
  refine ⟨?_⟩
  have hkid : (kidsOf ax 6 k).length ≤ 5 := by
    show (List.filter _ [0, 1, 2, 3, 4, 5]).length ≤ 5
    rw [List.filter_cons_of_neg (by simp)]
    exact List.length_filter_le _ _
  have hkx := Nat.mul_le_mul_right (6 ^ (5 - k)) hkid
  subst hit
  refine' Mine.ListRest.sub ?hs _ _ (wantLoop w mg mb W Bt sx ax wd rest (fun c => (Bk c).nd.f) k ih hB p loose mean _ _ _ _ _ _ _ _ _ _ _ _ _ _ _ _ _ hlp ?hfI ?hwI ?B ?X ?T ?e1 ?e2 (kvs.length + 6 ^ (6 - k)) hlen (kidsOf ax 6 k) ?hcs _ _ _ (fun d => S d ∨ d = k) ?hd ?hl ?hg ?m1 ?m2 ?K)
  case hd => assumption
  case hs =>
    intro q hq
    rcases List.mem_append.mp hq with hq | hq
    · exact memAll_tail (by k_extra "Tail") q hq
    · rw [List.mem_singleton.mp hq]; k_mem
  case hfI => exact RNe.ne (by k_extra "RNe")
  case hwI => k_ne
  case B => assumption
  case X => k_asm
  case T => k_asm
  case e1 => first | exact wroom hdp (Nat.succ_sub (Nat.le_of_lt hk)) (by decide) | ktr_room
  case e2 => first | exact wroom hun (Nat.succ_sub (Nat.le_of_lt hk)) (by decide) | ktr_units
  case hcs =>
    intro c hc
    simp only [kidsOf, List.mem_filter, List.mem_range, Bool.and_eq_true, decide_eq_true_eq, beq_iff_eq] at hc
    obtain ⟨h1, h2, h3⟩ := hc
    exact ⟨⟨h3 ▸ hax c h2 h1, h2, h1⟩, h3⟩
  case hl =>
    exact Nat.le_trans (Nat.add_le_add_right stored_length _) (wants_len hkx hp5 hp1)
  case hg =>
    refine ⟨fun d hd hd6 => ?_⟩
    rw [valueAt_stored']
    by_cases e : sx k = sx d
    · obtain rfl := hdist _ _ hk hd6 e
      rw [if_pos rfl, hW _ hk]
      exact ⟨_, rfl⟩
    · rw [if_neg e]
      rcases hd with hd | rfl
      · exact g.out d hd hd6
      · exact absurd rfl e
  case m1 => rw [hW k hk]; rfl
  case m2 => exact rfl
  case K =>
    intro h' tk' m' wob' kvs' F' e1 N' hd2 hl2 g2
    have F' := Mine.Fr.pin F' (x := "wants") e1
    show wpAny _ _ (execs _ _) _ _ _
    k_steps
    refine' hret _ (rest ++ [(wd, wob')]) _ _ ?kK (Newly.sub ?kN fun q hq => hq) ⟨rfl, wob', kvs', rfl, hd2, hl2, g2.mono fun d hd => ?_⟩
    case kK => assumption
    case kN => assumption
    rcases hd with hd | hd
    · exact .inl (.inl hd)
    · cases hd with
      | refl => exact .inl (.inr rfl)
      | step h1 h2 h3 h4 => exact .inr ⟨_, by simp only [kidsOf, List.mem_filter, List.mem_range, Bool.and_eq_true, decide_eq_true_eq, beq_iff_eq]; exact ⟨h2, h1, h3⟩, h4⟩
theorem wants_c (w : World) (mg mb : Str → Option Value) (W Bt sx nx : Nat → Str) (ax : Nat → Nat) (su : Nat → Tok) (wd c2 I : Addr) (Bk : Nat → Blk) (D : DocAt w I sx nx ax su 6 Bk) (hax : ∀ k, 1 ≤ k → k < 6 → ax k < k)
   (hW : ∀ c, c < 6 → W c = ("..." : Str) ++ nx c ++ Bt c) (hB : ∀ c, 1 ≤ c → c < 6 → Bt c = W (ax c)) (hn : ∀ c, c < 6 → (nx c).length ≤ 1000) (hb : ∀ c, c < 6 → (Bt c).length ≤ 10000) (hdist : ∀ c d, c < 6 → d < 6 → sx c = sx d → c = d)
   (hwd : ∀ q ∈ canonB (pmOf mg) c2 6 Bk, q.1 ≠ wd) : ∀ d k, k + d = 5 → WantsHC w mg mb W Bt sx ax wd (canonB (pmOf mg) c2 6 Bk) (fun c => (Bk c).nd.f) k := by
  intro d
  induction d using Nat.strongRecOn with
  | _ d ih =>
    intro k hk
    refine wants_step w mg mb W Bt sx nx ax su wd c2 I Bk D hax hW hB hn hb hdist hwd k (Nat.lt_succ_of_le (hk ▸ Nat.le_add_right k d)) fun c h1 h2 => ?_
    exact ih (5 - c) (Nat.sub_lt_left_of_lt_add (Nat.le_of_lt_succ h2) (hk ▸ Nat.add_lt_add_right h1 d)) c (Nat.add_sub_cancel' (Nat.le_of_lt_succ h2))
theorem Desc.bot {ax : Nat → Nat} {k d : Nat} (h : Desc ax k d) : ∀ e, 1 ≤ e → e < 6 → ax e = d → Desc ax k e := by
  induction h with
  | refl => intro e h1 h2 h3; exact .step h1 h2 h3 (.refl e)
  | step a b c _ ih => intro e h1 h2 h3; exact .step a b c (ih e h1 h2 h3)
theorem Desc.all {ax : Nat → Nat} (hax : ∀ k, 1 ≤ k → k < 6 → ax k < k) : ∀ d, d < 6 → Desc ax 0 d := by
  intro d
  induction d using Nat.strongRecOn with
  | _ d ih =>
    intro hd
    rcases Nat.eq_zero_or_pos d with rfl | h
    · exact .refl 0
    · exact (ih (ax d) (hax d h hd) (Nat.lt_trans (hax d h hd) hd)).bot d h hd rfl

end

section
section
variable {prog : Program} {w : World} {A : Around} {E : Value → Shared → Prop} {R : Result → Shared → Prop} {s : Shared}
theorem turn_outer (elt t1 i1 t2 i2 : Expr) (scope : Scope) (pos : Pos) (it acc : Value) (env : Env) :
    compTurn (.ListComp elt [⟨t1, i1, [], 0⟩, ⟨t2, i2, [], 0⟩] scope pos) 0 it acc env = (standAt i1.pos >>= fun _ => pyNext it >>= fun r => match r with
      | none => pure (.done .next)
      | some v => letOwnedTupleGo t1 it v >>= fun _ => assign t1 env v >>= fun _ =>
        (eval i2 env >>= fun x => standAt i2.pos >>= fun _ => foldedSetIterable i2 env x >>= fun x => holding [x] (pyIter x) >>= fun it2 => runOwn (.compStart (.ListComp elt [⟨t1, i1, [], 0⟩, ⟨t2, i2, [], 0⟩] scope pos) 1 it2 acc env) env >>= fun _ =>
          again (.compLoop (.ListComp elt [⟨t1, i1, [], 0⟩, ⟨t2, i2, [], 0⟩] scope pos) 0 it acc env))) := by rfl
theorem turn_inner (elt t1 i1 t2 i2 : Expr) (scope : Scope) (pos : Pos) (it acc : Value) (env : Env) :
    compTurn (.ListComp elt [⟨t1, i1, [], 0⟩, ⟨t2, i2, [], 0⟩] scope pos) 1 it acc env = (standAt i2.pos >>= fun _ => pyNext it >>= fun r => match r with
      | none => pure (.done .next)
      | some v => letOwnedTupleGo t2 it v >>= fun _ => assign t2 env v >>= fun _ =>
        (eval elt env >>= fun x => call (.builtin "list.append") [acc, x] >>= fun _ => pure ()) >>= fun _ =>
          again (.compLoop (.ListComp elt [⟨t1, i1, [], 0⟩, ⟨t2, i2, [], 0⟩] scope pos) 1 it acc env)) := by rfl
theorem loop_inner {elt t1 i1 t2 i2 : Expr} {scope : Scope} {pos : Pos} {it acc : Value} {env : Env} (I : Nat → Shared → Prop)
    (turn : ∀ n s, I n s → wpAny (model prog w) A (pyNext it) (fun r s₁ => match r with
      | none => R (.ok .next) s₁
      | some v => wpAny (model prog w) A (assign t2 env v) (fun _ s₂ => wpAny (model prog w) A (eval elt env) (fun x s₃ =>
          wpAny (model prog w) A (call (.builtin "list.append") [acc, x]) (fun _ s₄ => ∃ m, m < n ∧ I m s₄) (notedBy (model prog w) A env fun e s' => R (.error e) s') s₃)
          (notedBy (model prog w) A env fun e s' => R (.error e) s') s₂) (notedBy (model prog w) A env fun e s' => R (.error e) s') s₁) (notedBy (model prog w) A env fun e s' => R (.error e) s') s)
    (n : Nat) (h : I n s) (ht : ∀ v, letOwnedTupleGo t2 it v = pure ()) :
    codeAny (model prog w) A (.compLoop (.ListComp elt [⟨t1, i1, [], 0⟩, ⟨t2, i2, [], 0⟩] scope pos) 1 it acc env) R s := by
  refine codeAny_loop rfl I (fun n s hI => ?_) n h
  show wpAny _ _ ((compTurn (.ListComp elt [⟨t1, i1, [], 0⟩, ⟨t2, i2, [], 0⟩] scope pos) 1 it acc env).onRaise (fun x => do noteFrame x env; theTreesLotGoes x)) _ _ s
  refine wpAny_noted ?_
  rw [turn_inner]
  refine wpAny_bind (wpAny_standAt (wpAny_bind (wpAny_mono (turn n s hI) (fun r s₁ h₁ => ?_) fun _ _ h' => h')))
  cases r with
  | none => exact wpAny_pure h₁
  | some v =>
    refine wpAny_bind (wpAny_of_eq (ht v) ?_)
    exact wpAny_bind (wpAny_mono h₁ (fun _ s₂ h₂ => wpAny_bind (wpAny_bind (wpAny_mono h₂ (fun x s₃ h₃ => wpAny_bind (wpAny_mono h₃
      (fun _ s₄ h₄ => wpAny_pure (wpAny_pure ⟨rfl, h₄⟩)) fun _ _ h' => h')) fun _ _ h' => h'))) fun _ _ h' => h')
theorem loop_outer {elt t1 i1 t2 i2 : Expr} {scope : Scope} {pos : Pos} {it acc : Value} {env : Env} (I : Nat → Shared → Prop)
    (turn : ∀ n s, I n s → wpAny (model prog w) A (pyNext it) (fun r s₁ => match r with
      | none => R (.ok .next) s₁
      | some v => wpAny (model prog w) A (assign t1 env v) (fun _ s₂ => wpAny (model prog w) A (eval i2 env) (fun x s₃ => wpAny (model prog w) A (pyIter x) (fun it2 s₄ =>
          codeAny (model prog w) (A.mark none) (.compStart (.ListComp elt [⟨t1, i1, [], 0⟩, ⟨t2, i2, [], 0⟩] scope pos) 1 it2 acc env) (fun r s' => match r with | .ok _ => ∃ m, m < n ∧ I m s' | .error e => cameBackBy (model prog w) A env (notedBy (model prog w) A env fun e s' => R (.error e) s') e s') s₄)
          (notedBy (model prog w) A env fun e s' => R (.error e) s') s₃) (notedBy (model prog w) A env fun e s' => R (.error e) s') s₂) (notedBy (model prog w) A env fun e s' => R (.error e) s') s₁) (notedBy (model prog w) A env fun e s' => R (.error e) s') s)
    (n : Nat) (h : I n s) (ht : ∀ v, letOwnedTupleGo t1 it v = pure ()) (hs : ∀ x, foldedSetIterable i2 env x = pure x) :
    codeAny (model prog w) A (.compLoop (.ListComp elt [⟨t1, i1, [], 0⟩, ⟨t2, i2, [], 0⟩] scope pos) 0 it acc env) R s := by
  refine codeAny_loop rfl I (fun n s hI => ?_) n h
  show wpAny _ _ ((compTurn (.ListComp elt [⟨t1, i1, [], 0⟩, ⟨t2, i2, [], 0⟩] scope pos) 0 it acc env).onRaise (fun x => do noteFrame x env; theTreesLotGoes x)) _ _ s
  refine wpAny_noted ?_
  rw [turn_outer]
  refine wpAny_bind (wpAny_standAt (wpAny_bind (wpAny_mono (turn n s hI) (fun r s₁ h₁ => ?_) fun _ _ h' => h')))
  cases r with
  | none => exact wpAny_pure h₁
  | some v =>
    refine wpAny_bind (wpAny_of_eq (ht v) ?_)
    refine wpAny_bind (wpAny_mono h₁ (fun _ s₂ h₂ => wpAny_bind (wpAny_mono h₂ (fun x s₃ h₃ => ?_) fun _ _ h' => h')) fun _ _ h' => h')
    refine wpAny_bind (wpAny_standAt (wpAny_bind (wpAny_of_eq (hs x) (wpAny_bind (wpAny_holding (wpAny_mono h₃ (fun it2 s₄ h₄ => ?_) fun _ _ h' => h'))))))
    refine wpAny_bind (wpAny_runOwn (codeAny_mono h₄ fun r s' q => ?_))
    cases r with
    | ok f => exact wpAny_pure ⟨rfl, q⟩
    | error e => exact q
theorem start_inner {elt t1 i1 t2 i2 : Expr} {scope : Scope} {pos : Pos} {it acc : Value} {env : Env}
    (h0 : codeAny (model prog w) A (.compLoop (.ListComp elt [⟨t1, i1, [], 0⟩, ⟨t2, i2, [], 0⟩] scope pos) 1 it acc env) R s)
    (h : wpAny (model prog w) A (pyIter it) (fun it' s' => codeAny (model prog w) A (.compLoop (.ListComp elt [⟨t1, i1, [], 0⟩, ⟨t2, i2, [], 0⟩] scope pos) 1 it' acc env) R s')
      (notedBy (model prog w) A env fun x s' => R (.error x) s') s) :
    codeAny (model prog w) A (.compStart (.ListComp elt [⟨t1, i1, [], 0⟩, ⟨t2, i2, [], 0⟩] scope pos) 1 it acc env) R s := by
  refine codeAny_of_tree ?_
  show wpAny _ _ ((compStart (.ListComp elt [⟨t1, i1, [], 0⟩, ⟨t2, i2, [], 0⟩] scope pos) 1 it acc env).onRaise (fun x => do noteFrame x env; standAt theWindowsPlace)) _ _ s
  refine wpAny_notedAt ?_
  unfold compStart
  show wpAny _ _ (ask >>= _) _ _ s
  refine wpAny_bind (wpAny_askSetting (wpAny_ite ?_))
  split
  · first
      | exact wpAny_bind (wpAny_pure (wpAny_pure (And.intro rfl h0)))
      | exact wpAny_pure (And.intro rfl h0)
  · refine wpAny_bind (wpAny_rule ?_)
    show wpAny _ _ (standAt i2.pos >>= _) _ _ s
    exact wpAny_bind (wpAny_standAt (wpAny_bind (wpAny_mono h (fun it' s' h' => wpAny_pure (And.intro rfl h')) fun _ _ x => x)))
end

end

section
open PyProof.Rows.LCg
structure TwoEnd (h₀ : Heap) (L : Addr) (m : Str → Option Value) (s₁ : Shared) (fix : List (Addr × Obj)) (rest : Value → List (Addr × Obj) → Prop) (y : Value) (s₂ : Shared) : Prop where
  out : ∃ h' tk nw', s₂ = { s₁ with heap := h', toks := tk } ∧ Fr h₀ L h' m ∧ News h₀ L h' (fix ++ nw') ∧ (∀ p ∈ nw', ∀ q ∈ fix, p.1 ≠ q.1) ∧ rest y nw'
structure IterEnd (h₀ : Heap) (L : Addr) (m : Str → Option Value) (s₁ : Shared) (all : List (Addr × Obj)) (n : Nat) (y : Value) (s₂ : Shared) : Prop where
  out : ∃ r t u v h' tk, y = .ref r ∧ s₂ = { s₁ with heap := h', toks := tk } ∧ Fr h₀ L h' m ∧ News h₀ L h' all ∧ IsRange h' r 0 (n : Nat) 1 t u v
structure OffL (l nw : List (Addr × Obj)) : Prop where
  out : ∀ p ∈ nw, ∀ q ∈ l, p.1 ≠ q.1
section
variable {prog : Program} {w : World} {A : Around} {E : Value → Shared → Prop} {h₀ : Heap} {L : Addr} {m : Str → Option Value} {env : Env}
theorem two_inner {elt iter1 iter2 : Expr} {x y : Str} {px py : Pos} {scope : Scope} {cl : List (Str × Addr)} {pos : Pos} {s₂ : Shared} {I C D I2 : Addr} {oI : Obj} {v : Value} {n : Nat} {Inv : Nat → List Value → List (Addr × Obj) → Prop} {RR : Result → Shared → Prop}
    (hh : A.handled = none) (hkind : scope.kind = .function) (hxy : x ≠ y) (hy : scope.names.lookup y = some .local)
    (hLI : I ≠ L) (hLC : C ≠ L) (hLD : D ≠ L) (hL2 : I2 ≠ L) (hI₀ : h₀.get? I = none) (hC₀ : h₀.get? C = none) (hD₀ : h₀.get? D = none) (h2₀ : h₀.get? I2 = none)
    (d1 : I ≠ C) (d2 : I ≠ D) (d3 : C ≠ D) (d4 : I2 ≠ I) (d5 : I2 ≠ C) (d6 : I2 ≠ D)
    (hsz : ∀ j ys nw, Inv j ys nw → ys.length ≤ sizeLine)
    (helt : ∀ j ys nw oI2 oC m₂ h tk tj (E' : Value → Shared → Prop), j < n → Inv j ys nw → NsObj oC m₂ → m₂ x = some v → m₂ y = some (.int (j : Nat) tj) → Fr h₀ L h m → News h₀ L h ([(I2, oI2), (I, oI), (C, oC), (D, lst ys)] ++ nw) → OffL [(I2, oI2), (I, oI), (C, oC), (D, lst ys)] nw →
      wpAny (model prog w) A (eval elt (compEnvC scope cl C env)) (TwoEnd h₀ L m { s₂ with heap := h, toks := tk } [(I2, oI2), (I, oI), (C, oC), (D, lst ys)] (fun z nw' => Inv (j + 1) (ys ++ [z]) nw')) E' { s₂ with heap := h, toks := tk })
    (done : ∀ h tk m₂ ys nw, Fr h₀ L h m → News h₀ L h ((I, oI) :: (D, lst ys) :: nw) → h.Ns C m₂ → (∀ p ∈ nw, p.1 ≠ I ∧ p.1 ≠ C ∧ p.1 ≠ D) → Inv n ys nw → RR (.ok .next) { s₂ with heap := h, toks := tk })
    {h : Heap} {tk : Nat} {m₂ : Str → Option Value} {ys : List Value} {nw : List (Addr × Obj)}
    (F : Fr h₀ L h m) (N : News h₀ L h ((I, oI) :: (D, lst ys) :: nw)) (hN : h.Ns C m₂) (hx2 : m₂ x = some v) (off : ∀ p ∈ nw, p.1 ≠ I ∧ p.1 ≠ C ∧ p.1 ≠ D ∧ p.1 ≠ I2) (st : IsRangeIter h I2 (0 + ((0 : Nat) : Int) * 1) ((n : Int) - ((0 : Nat) : Int)) 1) (inv : Inv 0 ys nw) :
    codeAny (model prog w) A (.compStart (.ListComp elt [⟨.Name x px, iter1, [], 0⟩, ⟨.Name y py, iter2, [], 0⟩] scope pos) 1 (.ref I2) (.ref D) (compEnvC scope cl C env)) RR { s₂ with heap := h, toks := tk } := by
  have W : Walks prog w A I2 [I2] [I2] n (fun i v => ∃ t, v = .int (0 + (i : Int)) t) (fun i h => IsRangeIter h I2 (0 + (i : Nat) * 1) ((n : Int) - (i : Nat)) 1) := range_walks hh 0 n
  have loop : codeAny (model prog w) A (.compLoop (.ListComp elt [⟨.Name x px, iter1, [], 0⟩, ⟨.Name y py, iter2, [], 0⟩] scope pos) 1 (.ref I2) (.ref D) (compEnvC scope cl C env)) RR { s₂ with heap := h, toks := tk } := by
    refine loop_inner (fun k s' => ∃ h' tk' j ys m₂ nw, s' = { s₂ with heap := h', toks := tk' } ∧ j ≤ n ∧ k = n + 1 - j ∧ IsRangeIter h' I2 (0 + (j : Nat) * 1) ((n : Int) - (j : Nat)) 1 ∧ Fr h₀ L h' m ∧ h'.Ns C m₂ ∧ m₂ x = some v ∧ News h₀ L h' ((I, oI) :: (D, lst ys) :: nw) ∧
      (∀ p ∈ nw, p.1 ≠ I ∧ p.1 ≠ C ∧ p.1 ≠ D ∧ p.1 ≠ I2) ∧ Inv j ys nw) ?_ (n + 1) ⟨h, tk, 0, ys, m₂, nw, rfl, Nat.zero_le _, rfl, st, F, hN, hx2, N, off, inv⟩ (fun _ => rfl)
    rintro k s' ⟨h', tk', j, ys, m₂, nw, rfl, hj, rfl, st', F', hN', hx', N', off', inv'⟩
    by_cases hlt : j < n
    · refine W.item j _ _ _ hlt st' fun vv h₂ tk₂ hPv st₂ hk₂ => ?_
      obtain ⟨tj, rfl⟩ := hPv
      have N₂ : News h₀ L h₂ ((I, oI) :: (D, lst ys) :: nw) := news_but N' hk₂ fun p hp => by
        rcases List.mem_cons.mp hp with rfl | hp
        · exact Ne.symm d4
        · rcases List.mem_cons.mp hp with rfl | hp
          · exact Ne.symm d6
          · exact (off' p hp).2.2.2
      have F₂ := fr_but F' hk₂ (Ne.symm hL2) h2₀
      refine wpAny_assign_Name (wpAny_storeName_local (lookup_relabel_local hy) (hN'.at' fun o e => hk₂ _ o (by simpa using Ne.symm d5) e) (fun h₃ hn₃ hs₃ => ?_) (by simp [compEnvC, relabel, hkind]))
      obtain ⟨oC, heC, hoC⟩ := ns_obj hn₃
      have F₃ := F₂.change hs₃ hLC hC₀
      have st₃ : IsRangeIter h₃ I2 (0 + ((j + 1 : Nat)) * 1) ((n : Int) - ((j + 1 : Nat))) 1 := W.frame _ _ _ st₂ fun b hb o e => hs₃.extBut b o (fun q => d5 (by rw [← List.mem_singleton.mp hb]; exact q)) e
      have st₃' : h₃.get? I2 = some _ := st₃
      have N₃ : News h₀ L h₃ ([(I2, _), (I, oI), (C, oC), (D, lst ys)] ++ nw) := fun p hp => by
        rcases List.mem_cons.mp hp with rfl | hp
        · exact ⟨st₃', hL2, h2₀⟩
        · rcases List.mem_cons.mp hp with rfl | hp
          · have z := N₂ (I, oI) List.mem_cons_self
            exact ⟨hs₃.extBut _ _ d1 z.1, z.2⟩
          · rcases List.mem_cons.mp hp with rfl | hp
            · exact ⟨heC, hLC, hC₀⟩
            · rcases List.mem_cons.mp hp with rfl | hp
              · have z := N₂ (D, lst ys) (List.mem_cons_of_mem _ List.mem_cons_self)
                exact ⟨hs₃.extBut _ _ (Ne.symm d3) z.1, z.2⟩
              · have z := N₂ p (List.mem_cons_of_mem _ (List.mem_cons_of_mem _ hp))
                exact ⟨hs₃.extBut _ _ (off' p hp).2.1 z.1, z.2⟩
      have hoff : ∀ oI2 : Obj, OffL [(I2, oI2), (I, oI), (C, oC), (D, lst ys)] nw := fun oI2 => ⟨fun p hp q hq => by
        simp only [List.mem_cons, List.not_mem_nil, or_false] at hq
        rcases hq with rfl | rfl | rfl | rfl
        · exact (off' p hp).2.2.2
        · exact (off' p hp).1
        · exact (off' p hp).2.1
        · exact (off' p hp).2.2.1⟩
      refine wpAny_mono (helt j ys nw _ oC _ h₃ _ tj _ hlt inv' hoC (by simp [hxy, hx']) (by simp) F₃ N₃ (hoff _)) (fun z s₄ q₄ => ?_) fun _ _ e => e
      obtain ⟨h₄, tk₄, nw₄, rfl, F₄, N₄, off₄, inv₄⟩ := q₄.out
      have z2 := (N₄ (I2, _) List.mem_cons_self).1
      have zI := (N₄ (I, oI) (List.mem_cons_of_mem _ List.mem_cons_self)).1
      have zC := (N₄ (C, oC) (List.mem_cons_of_mem _ (List.mem_cons_of_mem _ List.mem_cons_self))).1
      have zD := (N₄ (D, lst ys) (List.mem_cons_of_mem _ (List.mem_cons_of_mem _ (List.mem_cons_of_mem _ List.mem_cons_self)))).1
      refine append_at (hsz := by show ys.toArray.size ≤ sizeLine; rw [List.size_toArray]; exact hsz _ _ _ inv') zD fun h₅ hs₅ hD₅ => ?_
      refine ⟨n + 1 - (j + 1), omM hlt, h₅, tk₄, j + 1, ys ++ [z], _, nw₄, rfl, hlt, rfl, ?_, F₄.change hs₅ hLD hD₀, (hoC.ns zC).sameBut hs₅ d3, by simp [hxy, hx'], fun p hp => ?_, fun p hp => ?_, inv₄⟩
      · exact W.frame _ h₄ _ z2 fun b hb o e => hs₅.extBut b o (fun q => d6 (by rw [← List.mem_singleton.mp hb]; exact q)) e
      · rcases List.mem_cons.mp hp with rfl | hp
        · exact ⟨hs₅.extBut _ _ d2 zI, hLI, hI₀⟩
        · rcases List.mem_cons.mp hp with rfl | hp
          · exact ⟨hD₅.trans (congrArg some (lst_snoc ys z)), hLD, hD₀⟩
          · have q := N₄ p (List.mem_append_right _ hp)
            exact ⟨hs₅.extBut _ _ (off₄ p hp (D, lst ys) (by simp)) q.1, q.2⟩
      · exact ⟨off₄ p hp (I, oI) (by simp), off₄ p hp (C, oC) (by simp), off₄ p hp (D, lst ys) (by simp), off₄ p hp (I2, _) List.mem_cons_self⟩
    · obtain rfl : j = n := Nat.le_antisymm hj (Nat.not_lt.mp hlt)
      refine W.done _ _ _ st' fun h₂ tk₂ hk₂ => ?_
      refine done h₂ tk₂ m₂ ys nw (fr_but F' hk₂ (Ne.symm hL2) h2₀) (news_but N' hk₂ fun p hp => ?_) (hN'.at' fun o e => hk₂ _ o (by simpa using Ne.symm d5) e) (fun p hp => ⟨(off' p hp).1, (off' p hp).2.1, (off' p hp).2.2.1⟩) inv'
      rcases List.mem_cons.mp hp with rfl | hp
      · exact Ne.symm d4
      · rcases List.mem_cons.mp hp with rfl | hp
        · exact Ne.symm d6
        · exact (off' p hp).2.2.2
  exact start_inner loop (W.self 0 _ _ _ st loop)
end

end

section
open PyProof.Rows.LCg
section
variable {prog : Program} {w : World} {A : Around} {E : Value → Shared → Prop} {h₀ : Heap} {L : Addr} {m : Str → Option Value} {env : Env}
theorem two_block {elt iter1 iter2 : Expr} {x y : Str} {px py : Pos} {scope : Scope} {cl : List (Str × Addr)} {pos : Pos} {s₂ : Shared} {I ax : Addr} {its : Array Value} {ln : Nat → Nat} {Inv : Nat → Nat → List Value → List (Addr × Obj) → Prop} {news : List (Addr × Obj)}
    {RR : Value → Addr → Result → Shared → Prop}
    (hh : A.handled = none) (hh2 : (A.mark none).handled = none) (hne : ax ≠ I) (hst : s₂.heap.IsListIter I ax 0 ∧ s₂.heap.IsList ax its)
    (hcell : ∀ y ∈ scope.names, y.2 ≠ .cell) (hkind : scope.kind = .function) (hxy : x ≠ y) (hx : scope.names.lookup x = some .local) (hy : scope.names.lookup y = some .local)
    (F : Fr h₀ L s₂.heap m) (N : News h₀ L s₂.heap news) (hIL : L ≠ I) (hI₀ : h₀.get? I = none) (off : ∀ p ∈ news, p.1 ≠ I) (hs2 : ∀ x, foldedSetIterable iter2 (compEnvC scope cl (s₂.heap.objs.size + 1) env) x = pure x)
    (hS : ∀ i j ys nw, Inv i j ys nw → SrcAt h₀ ax its nw) (hsz : ∀ i j ys nw, Inv i j ys nw → ys.length ≤ sizeLine) (hln : ∀ i, ln i ≤ 1000)
    (h0 : Inv 0 0 [] news) (hnext : ∀ i ys nw, i < its.size → Inv i (ln i) ys nw → Inv (i + 1) 0 ys nw)
    (hiter : ∀ i v ys nw I C D oI oC m₂ h tk (E' : Value → Shared → Prop), i < its.size → its[i]? = some v → Inv i 0 ys nw → NsObj oC m₂ → m₂ x = some v → Fr h₀ L h m → News h₀ L h ([(I, oI), (C, oC), (D, lst ys)] ++ nw) → OffL [(I, oI), (C, oC), (D, lst ys)] nw →
      wpAny (model prog w) A (eval iter2 (compEnvC scope cl C env)) (IterEnd h₀ L m { s₂ with heap := h, toks := tk } ([(I, oI), (C, oC), (D, lst ys)] ++ nw) (ln i)) E' { s₂ with heap := h, toks := tk })
    (helt : ∀ i v, i < its.size → its[i]? = some v → ∀ j ys nw I2 I C D oI oI2 oC m₂ h tk tj (E' : Value → Shared → Prop), j < ln i → Inv i j ys nw → NsObj oC m₂ → m₂ x = some v → m₂ y = some (.int (j : Nat) tj) → Fr h₀ L h m → News h₀ L h ([(I2, oI2), (I, oI), (C, oC), (D, lst ys)] ++ nw) → OffL [(I2, oI2), (I, oI), (C, oC), (D, lst ys)] nw →
      wpAny (model prog w) (A.mark none) (eval elt (compEnvC scope cl C env)) (TwoEnd h₀ L m { s₂ with heap := h, toks := tk } [(I2, oI2), (I, oI), (C, oC), (D, lst ys)] (fun z nw' => Inv i (j + 1) (ys ++ [z]) nw')) E' { s₂ with heap := h, toks := tk })
    (hRR : ∀ D C h tk m' ys news', Fr h₀ L h m → News h₀ L h ((D, lst ys) :: news') → Off1 D news' → h.Ns C m' → h₀.get? C = none → h₀.get? D = none → C ≠ L → D ≠ L → C ≠ D → (∀ p ∈ news', p.1 ≠ C) → Inv its.size 0 ys news' → RR (.ref D) C (.ok .next) { s₂ with heap := h, toks := tk }) :
    wpAny (model prog w) A (newList []) (fun acc s₃ => wpAny (model prog w) A (newFunctionEnv scope env.globals cl [] env.qual none .none (some env)) (fun cenv s₄ =>
      codeAny (model prog w) A (.compStart (.ListComp elt [⟨.Name x px, iter1, [], 0⟩, ⟨.Name y py, iter2, [], 0⟩] scope pos) 0 (.ref I) acc { cenv with scope := relabel scope env }) (RR acc cenv.locals) s₄) E s₃) E s₂ := by
  have W := Walks.list (prog := prog) (w := w) hh I ax hne its
  refine wpAny_newObj_type (wpAny_newFunctionEnv hcell (by intro y hy; simp at hy) (fun h₁ hns₁ hsb₁ => ?_) hkind)
  dsimp only at hns₁ hsb₁ ⊢
  generalize hH2 : s₂.heap.push { cls := .type "list", dict := none, data := .seq ([] : List Value).toArray } = H2 at hns₁ hsb₁ ⊢
  have hC : H2.objs.size = s₂.heap.objs.size + 1 := by rw [← hH2, Heap.size_push]
  rw [← hC] at hs2
  have hDC : s₂.heap.objs.size ≠ H2.objs.size := by rw [hC]; exact Nat.ne_of_lt (Nat.lt_succ_self _)
  have below : ∀ b, b < s₂.heap.objs.size → b ≠ H2.objs.size ∧ b ≠ s₂.heap.objs.size := fun b hb => ⟨by rw [hC]; exact Nat.ne_of_lt (Nat.lt_succ_of_lt hb), Nat.ne_of_lt hb⟩
  have hIlt : I < s₂.heap.objs.size := by obtain ⟨o, e, _⟩ := hst.1; exact Heap.lt_size e
  have haxlt : ax < s₂.heap.objs.size := by obtain ⟨o, e, _⟩ := hst.2; exact Heap.lt_size e
  have hfp : ∀ b ∈ [I, ax], b ≠ H2.objs.size ∧ b ≠ s₂.heap.objs.size := fun b hb => by
    rcases List.mem_cons.mp hb with rfl | hb
    · exact below _ hIlt
    · rw [List.mem_singleton.mp hb]; exact below _ haxlt
  have old : ∀ b o, s₂.heap.get? b = some o → h₁.get? b = some o := fun b o e => hsb₁.extBut b o (below b (Heap.lt_size e)).1 (Heap.get?_push_of_some _ (hH2 ▸ Heap.get?_push_of_some _ e))
  have hacc : h₁.get? s₂.heap.objs.size = some (lst []) := hsb₁.extBut _ _ hDC (Heap.get?_push_of_some _ (hH2 ▸ Heap.get?_push_size _ rfl))
  have hst₁ : h₁.IsListIter I ax 0 ∧ h₁.IsList ax its := W.frame _ _ _ hst fun b _ o e => old b o e
  have fresh : ∀ a, s₂.heap.objs.size ≤ a → s₂.heap.get? a = none := fun a ha => by
    cases e : s₂.heap.get? a with
    | none => rfl
    | some o' => exact absurd (Heap.lt_size e) (Nat.not_lt.mpr ha)
  have fresh₀ : ∀ a, s₂.heap.objs.size ≤ a → h₀.get? a = none := fun a ha => by
    cases e : h₀.get? a with
    | none => rfl
    | some o' => have := F.keep a o' e; rw [fresh a ha] at this; cases this
  have hD₀ : h₀.get? s₂.heap.objs.size = none := fresh₀ _ (Nat.le_refl _)
  have hC₀ : h₀.get? H2.objs.size = none := fresh₀ _ (by rw [hC]; exact Nat.le_succ _)
  have hLlt : L < s₂.heap.objs.size := F.ns.lt
  have hDL : s₂.heap.objs.size ≠ L := Ne.symm (below L hLlt).2
  have hCL : H2.objs.size ≠ L := Ne.symm (below L hLlt).1
  have hCI : I ≠ H2.objs.size := (below I hIlt).1
  have hDI : I ≠ s₂.heap.objs.size := (below I hIlt).2
  have off₀ : Off3 I H2.objs.size s₂.heap.objs.size news := Off3.of fun p hp => ⟨off p hp, (below _ (Heap.lt_size (N p hp).1)).1, (below _ (Heap.lt_size (N p hp).1)).2⟩
  have loop : ∀ s₃ : Shared, s₃ = { s₂ with heap := h₁, toks := s₂.toks + ([] : List (Str × Value)).length } →
      codeAny (model prog w) A (.compLoop (.ListComp elt [⟨.Name x px, iter1, [], 0⟩, ⟨.Name y py, iter2, [], 0⟩] scope pos) 0 (.ref I) (.ref s₂.heap.objs.size) (compEnvC scope cl H2.objs.size env))
        (RR (.ref s₂.heap.objs.size) H2.objs.size) s₃ := by
    rintro s₃ rfl
    refine loop_outer
      (fun k s' => ∃ h' tk i ys m' news', s' = { s₂ with heap := h', toks := tk } ∧ i ≤ its.size ∧ k = its.size + 1 - i ∧ (h'.IsListIter I ax i ∧ h'.IsList ax its) ∧ Fr h₀ L h' m ∧ h'.Ns H2.objs.size m' ∧ News h₀ L h' ((s₂.heap.objs.size, lst ys) :: news') ∧
        Off3 I H2.objs.size s₂.heap.objs.size news' ∧ Inv i 0 ys news') ?_ (its.size + 1)
      ⟨h₁, _, 0, [], _, news, rfl, Nat.zero_le _, rfl, hst₁, F.keeps old, hns₁, fun p hp => ?_, off₀, h0⟩ (fun _ => rfl) hs2
    · rintro k s' ⟨h', tk, i, ys, m', news', rfl, hi, rfl, hst', F', hn', N', off', inv'⟩
      by_cases hlt : i < its.size
      · refine W.item i _ _ _ hlt hst' fun v h₂ tk₂ hPv hst₂ hk₂ => ?_
        refine wpAny_assign_Name (wpAny_storeName_local (lookup_relabel_local hx) (hn'.at' fun o e => hk₂ _ o (by simpa using Ne.symm hCI) e) (fun h₃ hn₃ hs₃ => ?_) (by simp [compEnvC, relabel, hkind]))
        have hst₃ : h₃.IsListIter I ax (i + 1) ∧ h₃.IsList ax its := W.frame _ _ _ hst₂ fun b hb o e => hs₃.extBut b o (fun q => (hfp b (by simpa [or_comm] using hb)).1 q) e
        obtain ⟨oI, heI, rI⟩ := hst₃.1
        obtain ⟨oC, heC, hoC⟩ := ns_obj hn₃
        have F₃ : Fr h₀ L h₃ m := (fr_but F' hk₂ hIL hI₀).change hs₃ hCL hC₀
        have off3 := off'.mem
        have N₂ : News h₀ L h₂ ((s₂.heap.objs.size, lst ys) :: news') := news_but N' hk₂ fun p hp => by
          rcases List.mem_cons.mp hp with rfl | hp
          · exact Ne.symm hDI
          · exact (off3 p hp).1
        have N₃ : News h₀ L h₃ ([(I, oI), (H2.objs.size, oC), (s₂.heap.objs.size, lst ys)] ++ news') := fun p hp => by
          rcases List.mem_cons.mp hp with rfl | hp
          · exact ⟨heI, Ne.symm hIL, hI₀⟩
          · rcases List.mem_cons.mp hp with rfl | hp
            · exact ⟨heC, hCL, hC₀⟩
            · have z := N₂ p hp
              refine ⟨hs₃.extBut _ _ ?_ z.1, z.2⟩
              rcases List.mem_cons.mp hp with rfl | hp
              · exact hDC
              · exact (off3 p hp).2.1
        have hoff : OffL [(I, oI), (H2.objs.size, oC), (s₂.heap.objs.size, lst ys)] news' := ⟨fun p hp q hq => by
          simp only [List.mem_cons, List.not_mem_nil, or_false] at hq
          rcases hq with rfl | rfl | rfl
          · exact (off3 p hp).1
          · exact (off3 p hp).2.1
          · exact (off3 p hp).2.2⟩
        refine wpAny_mono (hiter i v ys news' I H2.objs.size s₂.heap.objs.size oI oC _ h₃ _ _ hlt hPv inv' hoC (by simp) F₃ N₃ hoff) (fun xv s₄ q₄ => ?_) fun _ _ e => e
        obtain ⟨r, t, u, vv, h₄, tk₄, rfl, rfl, F₄, N₄, hr⟩ := q₄.out
        refine wpAny_pyIter_range hr (small_one (by decide) (by decide) (by omega) (by have := hln i; omega)) ?_
        have hsz4 : ∀ a, a < h₄.objs.size → h₄.objs.size ≠ a := fun a ha => Nat.ne_of_gt ha
        have up : ∀ (o : Obj) b o', h₄.get? b = some o' → (h₄.push o).get? b = some o' := fun o b o' e => Heap.get?_push_of_some _ e
        have zI := (N₄ (I, oI) List.mem_cons_self).1
        have zC := (N₄ (H2.objs.size, oC) (List.mem_cons_of_mem _ List.mem_cons_self)).1
        have zD := (N₄ (s₂.heap.objs.size, lst ys) (List.mem_cons_of_mem _ (List.mem_cons_of_mem _ List.mem_cons_self))).1
        have hrs : Builtin.Range.rangeSize 0 ((ln i : Nat) : Int) 1 = ((ln i : Nat) : Int) := by rw [rangeSize_nat]; first | rfl | omega
        refine two_inner (s₂ := s₂) (I := I) (C := H2.objs.size) (D := s₂.heap.objs.size) (I2 := h₄.objs.size) (oI := oI) (v := v) (n := ln i) (Inv := fun j ys nw => Inv i j ys nw) hh2 hkind hxy hy (Ne.symm hIL) hCL hDL (hsz4 _ F₄.ns.lt) hI₀ hC₀ hD₀ ?_ hCI hDI (Ne.symm hDC) (hsz4 _ (Heap.lt_size zI)) (hsz4 _ (Heap.lt_size zC)) (hsz4 _ (Heap.lt_size zD)) (fun j => hsz i j)
          (fun j ys nw oI2 oC m₂ h tk tj E' hj inv a b c d e f => helt i v hlt hPv j ys nw _ _ _ _ oI oI2 oC m₂ h tk tj E' hj inv a b c d e f) ?_ (h := h₄.push _) (tk := tk₄) (m₂ := _) (ys := ys) (nw := news') (F₄.push _) ?_ ((hoC.ns zC).at' fun o e => up _ _ _ e) (by simp) ?_ ?_ inv'
        · cases e : h₀.get? h₄.objs.size with
          | none => rfl
          | some o' => exact absurd (Heap.lt_size (F₄.keep _ _ e)) (Nat.lt_irrefl _)
        · intro h tk m₂ ys₂ nw F₅ N₅ hN₅ off₅ inv₅
          have z := N₅ (I, oI) List.mem_cons_self
          have N₅' : News h₀ L h ((s₂.heap.objs.size, lst ys₂) :: nw) := fun p hp => N₅ p (List.mem_cons_of_mem _ hp)
          exact ⟨its.size + 1 - (i + 1), omM hlt, h, tk, i + 1, ys₂, m₂, nw, rfl, hlt, rfl, ⟨⟨oI, z.1, rI⟩, (hS _ _ _ _ inv₅).list F₅.keep (fun p hp => N₅' p (List.mem_cons_of_mem _ hp))⟩, F₅, hN₅, N₅', Off3.of fun p hp => off₅ p hp, hnext i ys₂ nw hlt inv₅⟩
        · exact fun p hp => by
            have q : p ∈ [(I, oI), (H2.objs.size, oC), (s₂.heap.objs.size, lst ys)] ++ news' := by
              rcases List.mem_cons.mp hp with rfl | hp
              · exact List.mem_cons_self
              · exact List.mem_cons_of_mem _ (List.mem_cons_of_mem _ hp)
            exact ⟨up _ _ _ (N₄ p q).1, (N₄ p q).2⟩
        · intro p hp
          have q := N₄ p (List.mem_append_right _ hp)
          exact ⟨(off3 p hp).1, (off3 p hp).2.1, (off3 p hp).2.2, Nat.ne_of_lt (Heap.lt_size q.1)⟩
        · show IsRangeIter _ _ _ _ _
          rw [hrs]
          simpa using Heap.get?_push_size _ rfl
      · obtain rfl : i = its.size := Nat.le_antisymm hi (Nat.not_lt.mp hlt)
        refine W.done _ _ _ hst' fun h₂ tk₂ hk₂ => ?_
        have off3 := off'.mem
        exact hRR _ _ h₂ tk₂ _ ys news' (fr_but F' hk₂ hIL hI₀) (news_but N' hk₂ fun p hp => by
          rcases List.mem_cons.mp hp with rfl | hp
          · exact Ne.symm hDI
          · exact (off3 p hp).1) off'.one (hn'.at' fun o e => hk₂ _ o (by simpa using Ne.symm hCI) e) hC₀ hD₀ hCL hDL (Ne.symm hDC) (fun p hp => (off3 p hp).2.1) inv'
    · rcases List.mem_cons.mp hp with rfl | hp
      · exact ⟨hacc, hDL, hD₀⟩
      · exact ⟨old _ _ (N p hp).1, (N p hp).2⟩
  exact codeAny_compStart_list (loop _ rfl) (W.self 0 _ _ _ hst₁ (loop _ rfl))
end

end

section
open PyProof.Rows.LCg
section
variable {prog : Program} {w : World} {A : Around} {E : Value → Shared → Prop} {s : Shared} {h₀ : Heap} {L : Addr} {m : Str → Option Value} {env : Env}
theorem Assign_two {elt iter1 iter2 : Expr} {x y z : Str} {px py pz : Pos} {scope : Scope} {cl : List (Str × Addr)} {pos spos : Pos} {ax : Addr} {its : Array Value} {ln : Nat → Nat} {Inv : Nat → Nat → List Value → List (Addr × Obj) → Prop} {news : List (Addr × Obj)} {Q : Flow → Shared → Prop}
    (F : Fr h₀ L s.heap m) (N : News h₀ L s.heap news) (hLe : env.locals = L) (he : ∀ Q' : Value → Shared → Prop, Q' (.ref ax) s → wpAny (model prog w) A (eval iter1 env) Q' E s)
    (hsw : swapsWith (.ListComp elt [⟨.Name x px, iter1, [], 0⟩, ⟨.Name y py, iter2, [], 0⟩] scope pos) (some (.Name z pz)) spos.line env = pure true)
    (hclos : closureFor scope env = pure cl) (hcell : ∀ y ∈ scope.names, y.2 ≠ .cell) (hkind : scope.kind = .function) (hnames : ∀ y ∈ scope.names, y.2 = .local → scope.names.lookup y.1 = some .local)
    (hxy : x ≠ y) (hx : scope.names.lookup x = some .local) (hy : scope.names.lookup y = some .local) (hz : env.kindOf z = some .local)
    (hp : (env.scope.kind == .class || (env.scope.kind == .module && env.locals != env.globals)) = false)
    (hh : A.handled = none) (hh2 : (A.mark none).handled = none) (hm : SrcAt h₀ ax its news)
    (hs1 : ∀ x, foldedSetIterable iter1 env x = pure x) (hs2 : ∀ C x, foldedSetIterable iter2 (compEnvC scope cl C env) x = pure x)
    (hS : ∀ i j ys nw, Inv i j ys nw → SrcAt h₀ ax its nw) (hsz : ∀ i j ys nw, Inv i j ys nw → ys.length ≤ sizeLine) (hln : ∀ i, ln i ≤ 1000)
    (h0 : Inv 0 0 [] news) (hnext : ∀ i ys nw, i < its.size → Inv i (ln i) ys nw → Inv (i + 1) 0 ys nw)
    (hiter : ∀ i v ys nw I C D oI oC m₂ h tk (E' : Value → Shared → Prop), i < its.size → its[i]? = some v → Inv i 0 ys nw → NsObj oC m₂ → m₂ x = some v → Fr h₀ L h m → News h₀ L h ([(I, oI), (C, oC), (D, lst ys)] ++ nw) → OffL [(I, oI), (C, oC), (D, lst ys)] nw →
      wpAny (model prog w) A (eval iter2 (compEnvC scope cl C env)) (IterEnd h₀ L m { s with heap := h, toks := tk } ([(I, oI), (C, oC), (D, lst ys)] ++ nw) (ln i)) E' { s with heap := h, toks := tk })
    (helt : ∀ i v, i < its.size → its[i]? = some v → ∀ j ys nw I2 I C D oI oI2 oC m₂ h tk tj (E' : Value → Shared → Prop), j < ln i → Inv i j ys nw → NsObj oC m₂ → m₂ x = some v → m₂ y = some (.int (j : Nat) tj) → Fr h₀ L h m → News h₀ L h ([(I2, oI2), (I, oI), (C, oC), (D, lst ys)] ++ nw) → OffL [(I2, oI2), (I, oI), (C, oC), (D, lst ys)] nw →
      wpAny (model prog w) (A.mark none) (eval elt (compEnvC scope cl C env)) (TwoEnd h₀ L m { s with heap := h, toks := tk } [(I2, oI2), (I, oI), (C, oC), (D, lst ys)] (fun z nw' => Inv i (j + 1) (ys ++ [z]) nw')) E' { s with heap := h, toks := tk })
    (fin : ∀ ys nw, Inv its.size 0 ys nw → FinA h₀ L m s z Q ys nw) :
    wpAny (model prog w) A (exec (.Assign [.Name z pz] (.ListComp elt [⟨.Name x px, iter1, [], 0⟩, ⟨.Name y py, iter2, [], 0⟩] scope pos) spos) env) Q E s := by
  subst hLe
  rw [exec_Assign_Name_used _ _ _ _ hsw]
  refine wpAny_bind (wpAny_standAt (wpAny_bind ?_))
  show wpAny _ A (do let _ ← comprehension (.ListComp elt [⟨.Name x px, iter1, [], 0⟩, ⟨.Name y py, iter2, [], 0⟩] scope pos) scope env _ (newList []) false (eval iter1 env) (some (assign (.Name z pz) env))) _ _ s
  refine wpAny_bind (wpAny_mono (wpAny_comprehension_free (use := some (assign (.Name z pz) env)) (Q := fun _ s' => Q .next s') rfl hs1 hclos hkind hnames (he _ ?_)) (fun _ s' hq => wpAny_pure (wpAny_pure hq)) fun _ _ e => e)
  have hl := hm.list F.keep N
  have hlt : ax < s.heap.objs.size := by obtain ⟨_, e, _⟩ := hl; exact Heap.lt_size e
  refine wpAny_pyIter_list hl ?_
  have up : ∀ b o, s.heap.get? b = some o → (s.heap.push { cls := .type "list_iterator", data := .fields #[.ref ax, .int 0 0] }).get? b = some o := fun b o e => Heap.get?_push_of_some _ e
  refine two_block (ln := ln) (Inv := Inv) hh hh2 (Nat.ne_of_lt hlt) ⟨⟨_, Heap.get?_push_size _ rfl, rfl, rfl⟩, hl.push _⟩ hcell hkind hxy hx hy (F.keeps up) (N.grown up) (Nat.ne_of_lt F.ns.lt) (next_is_new F) (fun p hp => Nat.ne_of_lt (Heap.lt_size (N p hp).1)) (hs2 _) hS hsz hln h0 hnext hiter helt ?_
  intro D C h' tk m' ys news' F' N' o1 hn hC₀ hD₀ hCL hDL hCD offC inv
  show wpAny _ A (assign (.Name z pz) env (.ref D)) _ _ _
  refine wpAny_assign_Name (wpAny_storeName_local hz F'.ns (fun h₂ hn₂ hs₂ => ?_) hp)
  have hL₀ : h₀.get? env.locals = none := Heap.get?_none_of_le F'.above
  have F₂ : Fr h₀ env.locals h₂ (fun q => if q = z then some (.ref D) else m q) := ⟨hn₂, fun b o e => hs₂.extBut b o (fun q => by rw [q, hL₀] at e; cases e) (F'.keep b o e), F'.above⟩
  refine ⟨m', hn.sameBut hs₂ hCL, fun h'' hs'' => fin ys news' inv D h'' _ (F₂.change hs'' hCL hC₀) (fun p hp => ?_) o1⟩
  have zz : h₂.get? p.1 = some p.2 := hs₂.extBut _ _ (N' p hp).2.1 (N' p hp).1
  refine ⟨hs''.extBut _ _ ?_ zz, (N' p hp).2⟩
  rcases List.mem_cons.mp hp with rfl | hp
  · exact Ne.symm hCD
  · exact offC p hp
end

end

section
structure Ord where
  ad : Addr
  vals : List Value
  n : Nat
def Ord.led (o : Ord) : Addr × Obj := (o.ad, listOf o.vals.toArray o.n)
inductive OrdsAre : List Ord → List (List Nat) → Prop
  | nil : OrdsAre [] []
  | cons {o l os ls} : IntsAre o.vals (l.map fun x : Nat => (x : Int)) → OrdsAre os ls → OrdsAre (o :: os) (l :: ls)
theorem OrdsAre.length {os : List Ord} {ls : List (List Nat)} (h : OrdsAre os ls) : os.length = ls.length := by
  induction h with
  | nil => rfl
  | cons _ _ ih => rw [List.length_cons, List.length_cons, ih]
theorem OrdsAre.at {os : List Ord} {ls : List (List Nat)} (h : OrdsAre os ls) : ∀ (i : Nat) (o : Ord), os[i]? = some o → ∃ l : List Nat, ls[i]? = some l ∧ IntsAre o.vals (l.map fun x : Nat => (x : Int)) := by
  induction h with
  | nil => intro i o e; cases e
  | cons a _ ih =>
    intro i o e
    cases i with
    | zero => cases e; exact ⟨_, rfl, a⟩
    | succ i => exact ih i o e
theorem OrdsAre.snoc {os : List Ord} {ls : List (List Nat)} {o : Ord} {l : List Nat} (h : OrdsAre os ls) (a : IntsAre o.vals (l.map fun x : Nat => (x : Int))) : OrdsAre (os ++ [o]) (ls ++ [l]) := by
  induction h with
  | nil => exact .cons a .nil
  | cons b _ ih => exact .cons b ih
def ins1 (k : Nat) (l : List Nat) (j : Nat) : List Nat := l.take j ++ [k] ++ l.drop j
def insAll (k : Nat) (l : List Nat) : List (List Nat) := (List.range l.length).map (ins1 k l)
theorem intsAre_take {vs : List Value} {ns : List Int} (h : IntsAre vs ns) : ∀ j, IntsAre (vs.take j) (ns.take j) := by
  induction h with
  | nil => intro j; cases j <;> exact .nil
  | cons n t _ ih => intro j; cases j with
    | zero => exact .nil
    | succ j => exact .cons n t (ih j)
theorem intsAre_drop {vs : List Value} {ns : List Int} (h : IntsAre vs ns) : ∀ j, IntsAre (vs.drop j) (ns.drop j) := by
  induction h with
  | nil => intro j; cases j <;> exact .nil
  | cons n t hr ih => intro j; cases j with
    | zero => exact .cons n t hr
    | succ j => exact ih j
theorem intsAre_app {vs vs' : List Value} {ns ns' : List Int} (h : IntsAre vs ns) (h' : IntsAre vs' ns') : IntsAre (vs ++ vs') (ns ++ ns') := by
  induction h with
  | nil => exact h'
  | cons n t _ ih => exact .cons n t ih
theorem ins1_ints {vs : List Value} {l : List Nat} (h : IntsAre vs (l.map fun x : Nat => (x : Int))) (k j : Nat) (t : Tok) : IntsAre (vs.take j ++ [.int (k : Nat) t] ++ vs.drop j) ((ins1 k l j).map fun x : Nat => (x : Int)) := by
  unfold ins1
  rw [List.map_append, List.map_append, List.map_take, List.map_drop]
  exact intsAre_app (intsAre_app (intsAre_take h j) (.cons _ t .nil)) (intsAre_drop h j)
section
variable {prog : Program} {w : World} {A : Around} {E : Value → Shared → Prop} {s : Shared} {h₀ : Heap} {L l : Addr} {m : Str → Option Value} {news : List (Addr × Obj)}
theorem sliceTo {value slice : Expr} {vs : List Value} {n j : Nat} {t : Tok} {Q : Value → Shared → Prop} (F : Fr h₀ L s.heap m) (N : News h₀ L s.heap news) (hm : (l, listOf vs.toArray n) ∈ news) (hj : j ≤ vs.length) (hz : vs.length ≤ 1000)
    (h : ∀ D h', Fr h₀ L h' m → News h₀ L h' ((D, listOf (vs.take j).toArray 0) :: news) → (∀ p ∈ news, p.1 < D) → Q (.ref D) { s with heap := h' })
    (hs : subscripted slice false (.ref l) (.ref s.heap.objs.size) = operate [.ref s.heap.objs.size, .ref l] (getItem (.ref l) (.ref s.heap.objs.size)) := by with_unfolding_all rfl) (ht : ∀ r, letTemporaryGo value (.ref l) r = pure () := by intro _; with_unfolding_all rfl) :
    wpAny (model prog w) A (subscriptTail value slice (.ref l) (.ref s.heap.objs.size)) Q E { s with heap := s.heap.push { cls := .type "slice", data := .fields #[.none, .int (j : Nat) t, .none] } } := by
  refine kms_slice_lit F N (News.isList N hm) (by kmk_part) (by kmk_part) ?_ h hs ht (by simp; exact Nat.le_trans hz (Nat.le_of_ble_eq_true rfl))
  unfold kms_pick kms_lo kms_hi
  dsimp only
  rw [if_neg (nneg j)]
  have e : min ((j : Nat) : Int).toNat vs.length = j := Nat.min_eq_left hj
  simp only [List.drop_zero, Nat.sub_zero]
  rw [e]
theorem sliceFrom {value slice : Expr} {vs : List Value} {n j : Nat} {t : Tok} {Q : Value → Shared → Prop} (F : Fr h₀ L s.heap m) (N : News h₀ L s.heap news) (hm : (l, listOf vs.toArray n) ∈ news) (hj : j ≤ vs.length) (hz : vs.length ≤ 1000)
    (h : ∀ D h', Fr h₀ L h' m → News h₀ L h' ((D, listOf (vs.drop j).toArray 0) :: news) → (∀ p ∈ news, p.1 < D) → Q (.ref D) { s with heap := h' })
    (hs : subscripted slice false (.ref l) (.ref s.heap.objs.size) = operate [.ref s.heap.objs.size, .ref l] (getItem (.ref l) (.ref s.heap.objs.size)) := by with_unfolding_all rfl) (ht : ∀ r, letTemporaryGo value (.ref l) r = pure () := by intro _; with_unfolding_all rfl) :
    wpAny (model prog w) A (subscriptTail value slice (.ref l) (.ref s.heap.objs.size)) Q E { s with heap := s.heap.push { cls := .type "slice", data := .fields #[.int (j : Nat) t, .none, .none] } } := by
  refine kms_slice_lit F N (News.isList N hm) (by kmk_part) (by kmk_part) ?_ h hs ht (by simp; exact Nat.le_trans hz (Nat.le_of_ble_eq_true rfl))
  unfold kms_pick kms_lo kms_hi
  dsimp only
  rw [if_neg (nneg j)]
  have e : min ((j : Nat) : Int).toNat vs.length = j := Nat.min_eq_left hj
  rw [e]
  exact List.take_of_length_le (by simp)
theorem addL {l b : Addr} {vs ws : List Value} {n k : Nat} {Q : Value → Shared → Prop} (F : Fr h₀ L s.heap m) (N : News h₀ L s.heap news) (hm : (l, listOf vs.toArray n) ∈ news) (hb : (b, listOf ws.toArray k) ∈ news) (hz : vs.length + ws.length ≤ 1000)
    (h : ∀ D h', Fr h₀ L h' m → News h₀ L h' ((D, listOf (vs ++ ws).toArray 0) :: news) → (∀ p ∈ news, p.1 < D) → Q (.ref D) { s with heap := h' }) :
    wpAny (model prog w) A (binaryOp .Add (.ref l) (.ref b)) Q E s :=
  add_arrays F N (News.isList N hm) (News.isList N hb) (fun h' F' N' => h _ h' F' N' fun p hp => Heap.lt_size (N p hp).1) (by simp; exact Nat.le_trans hz (Nat.le_of_ble_eq_true rfl))
end

end

section
open PyProof.Rows.LCg
theorem su90ord_1 : True := by
  w_top off
  (k_with "e118" => skip)
  (k_with "e117" => skip)
  (k_with "e116" => skip)
  (k_with "e115" => skip)
  (k_with "e114" => skip)
  (k_with "e106" => skip)
  (k_with "e108" => skip)
  (k_with "e111" => skip)
  (k_with "e113" => skip)
  (k_with "e119" => skip)
  (k_with "e120" => skip)
  (k_with "e121" => skip)
  (k_with "e122" => skip)
  (k_with "e123" => skip)
  (k_with "e124" => skip)
  (k_with "e125" => skip)
  (k_with "e126" => skip)
  (k_with "e127" => skip)
  (k_with "e128" => skip)
  (k_with "e129" => skip)
  (k_with "e136" => skip)
  (k_with "e132" => skip)
  (k_with "e133" => skip)
  (k_with "e134" => skip)
  (k_with "e138" => skip)
  (k_with "e137" => skip)
  (k_with "e135" => skip)
  (k_with "MemR" => ((fail_if_success k_extra "e139"); (first | exact List.mem_cons_self | (refine' List.mem_cons_of_mem _ ?az108; (case az108 => k_extra "MemR")))))
  (k_with "k_lt" => ((fail_if_success k_extra "e140"); (skip)))
  (k_with "RNe" => ((fail_if_success k_extra "e141"); (first | assumption | (refine' RNe.of_ltl _ ?hz110 ?ez110; (case hz110 => with_reducible assumption); (case ez110 => k_extra "SEG")) | exact RNe.of_lts (by assumption) (by k_extra "Tail"))))
  (k_with "Split2" => ((fail_if_success k_extra "e142"); (first | exact Split.nil | (refine' Split.dropM ?az111 ?bz111; (case az111 => with_reducible k_mem); (case bz111 => k_extra "Split2")) | (refine' Split.keep ?az111 ?bz111; (case az111 => k_extra "NotIn"); (case bz111 => k_extra "Split2")) | (refine' Split.drop ?bz111; (case bz111 => k_extra "Split2")) | (refine' Split.tail ?az111; (case az111 => k_extra "RNeAll")))))
  (k_with "subscriptTail Name Slice ref ref" => ((fail_if_success k_extra "e143"); ((k_here; k_dflt (first
  | (refine' sliceTo ?Fz112 ?Nz112 ?mz112 ?jz112 ?zz112 ?_; (case Fz112 => k_asm); (case Nz112 => k_asm); (case mz112 => k_mem); (case jz112 => omega); (case zz112 => omega))
  | (refine' sliceFrom ?Fz112 ?Nz112 ?mz112 ?jz112 ?zz112 ?_; (case Fz112 => k_asm); (case Nz112 => k_asm); (case mz112 => k_mem); (case jz112 => omega); (case zz112 => omega))); intro D' h' F' N' l1; (try k_lt l1); (try k_sweep)))))
  (k_with "binaryOp Add ref ref" => ((fail_if_success k_extra "e144"); ((k_here; (with_reducible show wpAny _ _ (binaryOp _ (Value.ref _) (Value.ref _)) _ _ _); k_dflt (refine' addL ?Fz113 ?Nz113 ?az113 ?bz113 ?zz113 ?_; (case Fz113 => k_asm); (case Nz113 => k_asm); (case az113 => k_mem); (case bz113 => k_mem); (case zz113 => (simp only [List.length_append, List.length_take, List.length_drop, List.length_cons, List.length_nil]; first | (refine' zz1 ?hz113; (case hz113 => k_extra "OL")) | (refine' zz2 ?hz113; (case hz113 => k_extra "OL")) | omega))); intro D' h' F' N' l1; (try k_lt l1); (try k_sweep)))))
  trivial
def compOf (e : Expr) : Expr × Expr × Scope := ((exC e).1, (exG e 1).iter, (exC e).2.2)
def ordE (w : World) : Expr × Expr × Scope := compOf (stX (forBody (stmtsAt w 126)) 0)
theorem ordElt (w : World) (mg mb : Str → Option Value)
   (p : Program) (loose : List Str) (mean : ExcName → Option Value) (A : Around) (h₀ : Heap) (L : Addr) (m : Str → Option Value) (s : Shared) (Q : Value → Shared → Prop) (E : Value → Shared → Prop)
   (X : (hd.heap_39 w.params).In h₀) (T : Top p loose mean mg mb h₀) (F : Fr h₀ L s.heap m)
   (I2 I C D ck oa : Addr) (oI2 oI oC oD okc : Obj) (m₂ : Str → Option Value) (vals : List Value) (n : Nat) (ns : List Int) (rest : List (Addr × Obj)) (k j : Nat) (tk tj : Tok) (cl : List (Str × Addr)) (hcl : cl = [(("k" : Str), ck)])
   (N : News h₀ L s.heap ([(I2, oI2), (I, oI), (C, oC), (D, oD), (ck, okc), (oa, listOf vals.toArray n)] ++ rest)) (hok : okc.data = .cell (some (.int (k : Nat) tk))) (hI : IntsAre vals ns) (hlen : ns.length ≤ 50) (hj : j < ns.length)
   (hC : NsObj oC m₂) (e1 : m₂ "order" = some (.ref oa)) (e2 : m₂ "j" = some (.int (j : Nat) tj))
   (K : ∀ (D' : Addr) (h' : Heap) (tk' : Nat) (t1 : Tok), Fr h₀ L h' m → News h₀ L h' ((D', listOf (vals.take j ++ [Value.int (k : Nat) t1] ++ vals.drop j).toArray 0) :: ([(I2, oI2), (I, oI), (C, oC), (D, oD), (ck, okc), (oa, listOf vals.toArray n)] ++ rest)) → (∀ q ∈ [(I2, oI2), (I, oI), (C, oC), (D, oD), (ck, okc), (oa, listOf vals.toArray n)] ++ rest, @LT.lt Nat _ q.1 D') → Q (.ref D') { s with heap := h', toks := tk' }) :
   wpAny (model pg w) A (eval (ordE w).1 (compEnvC (ordE w).2.2 cl C (envOfC "_law_orders" (scopeAt w 126) L 126 (.ref 125)))) Q E s := by
  have q1 : ordE w = (Expr.BinOp _ _ _ _, Expr.Call _ _ _ _, Scope.mk _ _ _ _ _) := rfl
  have q2 : scopeAt w 126 = Scope.mk _ _ _ _ _ := rfl
  rw [q1, q2]
  dsimp only
  subst hcl
  have lv := IntsAre.length hI
  k_steps
  (with_reducible rename Lts _ _ => kL)
  refine' K _ _ _ _ ?F (Newss.sub (by k_asm) ?N) ?l
  case F => k_asm
  case N =>
    k_dflt (simp only [List.cons_append, List.nil_append, List.append_assoc])
    k_dflt (k_extra "MemAll2")
  case l =>
    intro q hq
    refine kL.lt q ?_
    revert q
    k_dflt (simp only [List.cons_append, List.nil_append, List.append_assoc])
    k_dflt (k_extra "MemAll2")

end

section
open PyProof.Rows.LCg
theorem su91ord_1 : True := by
  w_top off
  (k_with "e141" => skip)
  (k_with "e140" => skip)
  (k_with "e143" => skip)
  (k_with "e144" => skip)
  (k_with "RNe" => ((fail_if_success k_extra "e145"); (first | assumption | (refine' RNe.of_ltl _ ?hz43 ?ez43; (case hz43 => with_reducible assumption); (case ez43 => k_extra "SEG")))))
  (k_with "call builtin:len" => ((fail_if_success k_extra "e146"); ((k_here; (with_reducible show wpAny _ _ (call (Value.builtin "len") [Value.ref _]) _ _ _); k_dflt (refine' lenK ?Nz80 ?mz80 ?kz80 ?zz80 ?_; (case Nz80 => k_asm); (case mz80 => k_mem); (case kz80 => assumption); (case zz80 => omega); k_whole)))))
  trivial
theorem ordIter (w : World) (mg mb : Str → Option Value)
   (p : Program) (loose : List Str) (mean : ExcName → Option Value) (A : Around) (h₀ : Heap) (L : Addr) (m : Str → Option Value) (s : Shared) (Q : Value → Shared → Prop) (E : Value → Shared → Prop)
   (X : (hd.heap_39 w.params).In h₀) (T : Top p loose mean mg mb h₀) (F : Fr h₀ L s.heap m)
   (I C D oa : Addr) (oI oC oD : Obj) (m₂ : Str → Option Value) (vals : List Value) (n k : Nat) (rest : List (Addr × Obj)) (cl : List (Str × Addr)) (ck : Addr) (hcl : cl = [(("k" : Str), ck)])
   (N : News h₀ L s.heap ([(I, oI), (C, oC), (D, oD), (oa, listOf vals.toArray n)] ++ rest)) (hlen : vals.length = k) (hk : k ≤ 50)
   (hC : NsObj oC m₂) (e1 : m₂ "order" = some (.ref oa))
   (K : ∀ (r : Addr) (h' : Heap) (tk' : Nat) (t u v : Tok), Fr h₀ L h' m → News h₀ L h' ([(I, oI), (C, oC), (D, oD), (oa, listOf vals.toArray n)] ++ rest) → IsRange h' r 0 (k : Nat) 1 t u v → Q (.ref r) { s with heap := h', toks := tk' }) :
   wpAny (model pg w) A (eval (ordE w).2.1 (compEnvC (ordE w).2.2 cl C (envOfC "_law_orders" (scopeAt w 126) L 126 (.ref 125)))) Q E s := by
  have q1 : ordE w = (Expr.BinOp _ _ _ _, Expr.Call _ _ _ _, Scope.mk _ _ _ _ _) := rfl
  have q2 : scopeAt w 126 = Scope.mk _ _ _ _ _ := rfl
  rw [q1, q2]
  dsimp only
  subst hcl
  k_steps
  refine' K _ _ _ _ _ _ ?F (Newss.sub (by k_asm) ?N) (by assumption)
  case F => k_asm
  case N => exact fun q hq => hq
theorem ordLen {l : List Nat} {vs : List Value} (h : IntsAre vs (l.map fun x : Nat => (x : Int))) : vs.length = l.length := by
  rw [IntsAre.length h, List.length_map]
def refsOf (os : List Ord) : List Value := os.map fun o => .ref o.ad
structure LongInv (k : Nat) (ls : List (List Nat)) (base : List (Addr × Obj)) (i j : Nat) (ys : List Value) (nw : List (Addr × Obj)) : Prop where
  out : ∃ ps : List Ord, nw = ps.map Ord.led ++ base ∧ ys = refsOf ps ∧ OrdsAre ps ((ls.take i).flatMap (insAll k) ++ (insAll k (ls.getD i [])).take j)
theorem insAll_length (k : Nat) (l : List Nat) : (insAll k l).length = l.length := by simp [insAll]
theorem LongInv.next {k : Nat} {ls : List (List Nat)} {base : List (Addr × Obj)} {i : Nat} {ys : List Value} {nw : List (Addr × Obj)} (hi : i < ls.length) (h : LongInv k ls base i (ls.getD i []).length ys nw) : LongInv k ls base (i + 1) 0 ys nw := by
  obtain ⟨ps, e1, e2, e3⟩ := h.out
  refine ⟨ps, e1, e2, ?_⟩
  have ht : ls.take (i + 1) = ls.take i ++ [ls.getD i []] := by
    rw [List.take_add_one, List.getD_eq_getElem?_getD, List.getElem?_eq_getElem hi]; rfl
  have ht2 : (insAll k (ls.getD i [])).take (ls.getD i []).length = insAll k (ls.getD i []) := List.take_of_length_le (by rw [insAll_length]; exact Nat.le_refl _)
  rw [ht2] at e3
  rw [ht, List.flatMap_append, List.take_zero, List.append_nil, List.flatMap_cons, List.flatMap_nil, List.append_nil]
  exact e3
theorem LongInv.start (k : Nat) (ls : List (List Nat)) (base : List (Addr × Obj)) : LongInv k ls base 0 0 [] base := ⟨[], rfl, rfl, by simpa using OrdsAre.nil⟩
theorem LongInv.add {k : Nat} {ls : List (List Nat)} {base : List (Addr × Obj)} {i j : Nat} {ys : List Value} {ps : List Ord} {o : Ord} (hj : j < (ls.getD i []).length) (e2 : ys = refsOf ps) (e3 : OrdsAre ps ((ls.take i).flatMap (insAll k) ++ (insAll k (ls.getD i [])).take j))
    (ho : IntsAre o.vals ((ins1 k (ls.getD i []) j).map fun x : Nat => (x : Int))) : LongInv k ls base i (j + 1) (ys ++ [.ref o.ad]) ((ps ++ [o]).map Ord.led ++ base) := by
  refine ⟨ps ++ [o], rfl, by rw [e2]; simp [refsOf], ?_⟩
  have ht : (insAll k (ls.getD i [])).take (j + 1) = (insAll k (ls.getD i [])).take j ++ [ins1 k (ls.getD i []) j] := by
    rw [List.take_add_one]
    congr 1
    unfold insAll
    rw [List.getElem?_map, List.getElem?_range hj]
    rfl
  rw [ht, ← List.append_assoc]
  exact e3.snoc ho
theorem flatIns (c k : Nat) : ∀ ms : List (List Nat), (∀ l ∈ ms, l.length ≤ c) → (ms.flatMap (insAll k)).length ≤ c * ms.length
  | [], _ => Nat.zero_le _
  | a :: r, hm => by
    rw [List.flatMap_cons, List.length_append, insAll_length, List.length_cons]
    exact mulS (flatIns c k r fun l hl => hm l (.tail _ hl)) (hm a (.head _))
theorem ords_len {ps : List Ord} {k : Nat} {ls : List (List Nat)} {i j : Nat} (h : OrdsAre ps ((ls.take i).flatMap (insAll k) ++ (insAll k (ls.getD i [])).take j)) (hb : ∀ l ∈ ls, l.length ≤ 50) (hn : ls.length ≤ 10000) : ps.length ≤ 600000 := by
  rw [h.length, List.length_append, List.length_take, insAll_length]
  have h2 := flatIns 50 k (ls.take i) fun l hl => hb l (List.mem_of_mem_take hl)
  have h3 : (ls.take i).length ≤ ls.length := by rw [List.length_take]; exact Nat.min_le_right _ _
  have h4 : (ls.getD i []).length ≤ 50 := by
    by_cases hi : i < ls.length
    · rw [List.getD_eq_getElem?_getD, List.getElem?_eq_getElem hi]
      exact hb _ (List.getElem_mem hi)
    · rw [List.getD_eq_getElem?_getD, List.getElem?_eq_none (Nat.le_of_not_lt hi)]
      exact Nat.zero_le _
  exact Nat.le_trans (Nat.add_le_add (Nat.le_trans h2 (Nat.mul_le_mul_left 50 (Nat.le_trans h3 hn))) (Nat.le_trans (Nat.min_le_right _ _) h4)) (by decide)

end

section
open PyProof.Rows.LCg
theorem su92ord_1 : True := by
  w_top off
  (k_with "e139" => skip)
  (k_with "e107" => skip)
  (k_with "e145" => skip)
  (k_with "e109" => skip)
  (k_with "e110" => skip)
  (k_with "e142" => skip)
  (k_with "e112" => skip)
  (k_with "e146" => skip)
  (k_with "e130" => skip)
  (k_with "e131" => skip)
  trivial
theorem led_off {fix nw : List (Addr × Obj)} (h : OffL fix nw) {p q : Addr × Obj} (hp : p ∈ nw) (hq : q ∈ fix) : p.1 ≠ q.1 := h.out p hp q hq
theorem off1_mem {D : Addr} : ∀ {l : List (Addr × Obj)}, Off1 D l → ∀ q ∈ l, q.1 ≠ D
  | [], _, _, h => nomatch h
  | _ :: _, x, q, h => by
    rcases List.mem_cons.mp h with rfl | h
    · exact x.1
    · exact off1_mem x.2 q h
theorem ordLong (w : World) (mg mb : Str → Option Value)
   (p : Program) (loose : List Str) (mean : ExcName → Option Value) (dp un : Nat) (gd : Option (List Code)) (a : Addr) (ccd : Value) (cl : List (Str × Addr)) (outer : List Env) (h₀ : Heap) (L : Addr) (m : Str → Option Value) (s : Shared) (Q : Flow → Shared → Prop) (E : Value → Shared → Prop)
   (X : (hd.heap_39 w.params).In h₀) (T : Top p loose mean mg mb h₀) (F : Fr h₀ L s.heap m)
   (oA : Addr) (nA : Nat) (okc : Obj) (os : List Ord) (ls : List (List Nat)) (base : List (Addr × Obj)) (k : Nat) (tk : Tok)
   (N : News h₀ L s.heap base) (hb1 : (L + 1 + 1, okc) ∈ base) (hb2 : (oA, listOf (refsOf os).toArray nA) ∈ base) (hb3 : ∀ o ∈ os, o.led ∈ base) (hok : okc.data = .cell (some (.int (k : Nat) tk))) (hos : OrdsAre os ls) (hlen : ∀ l ∈ ls, l.length ≤ 50) (hn : ls.length ≤ 10000)
   (hm : m "orders" = some (.ref oA))
   (K : ∀ (D : Addr) (h' : Heap) (tk' : Nat) (ps : List Ord), OrdsAre ps (ls.flatMap (insAll k)) → Fr h₀ L h' (fun z => if z = "longer" then some (.ref D) else m z) → News h₀ L h' ((D, listOf (refsOf ps).toArray (refsOf ps).length) :: (ps.map Ord.led ++ base)) → (∀ q ∈ ps.map Ord.led ++ base, q.1 ≠ D) → Q .next { s with heap := h', toks := tk' })
   (st : Stmt) (hst : st = (forBody (stmtsAt w 126)).headD default) :
   wpAny (model pg w) (ktrTop dp un gd "_law_orders" (scopeAt w 126) L a ccd cl outer) (exec st (envOfC "_law_orders" (scopeAt w 126) L 126 (.ref 125))) Q E s := by
  have e0 : st = Stmt.Assign [Expr.Name "longer" _] (.ListComp (ordE w).1 [⟨.Name "order" _, .Name "orders" _, [], 0⟩, ⟨.Name "j" _, (ordE w).2.1, [], 0⟩] (ordE w).2.2 _) _ := hst
  rw [e0]
  have lo : (refsOf os).length = ls.length := by rw [← hos.length]; simp [refsOf]
  have get : ∀ (i : Nat) (v : Value), (refsOf os).toArray[i]? = some v → ∃ (o : Ord) (l : List Nat), v = Value.ref o.ad ∧ o ∈ os ∧ ls[i]? = some l ∧ IntsAre o.vals (l.map fun x : Nat => (x : Int)) := by
    intro i v hv
    have hv : (refsOf os)[i]? = some v := by simpa using hv
    rw [refsOf, List.getElem?_map] at hv
    cases ho : os[i]? with
    | none => rw [ho] at hv; cases hv
    | some o =>
      rw [ho] at hv
      cases hv
      obtain ⟨l, h1, h2⟩ := hos.at i o ho
      exact ⟨o, l, rfl, List.mem_of_getElem? ho, h1, h2⟩
  have F' := Mine.Fr.pin F (x := "orders") hm
  refine Assign_two (ax := oA) (its := (refsOf os).toArray) (ln := fun i => (ls.getD i []).length) (Inv := LongInv k ls base) (news := base) (cl := [(("k" : Str), L + 1 + 1)]) F N rfl (fun Q' hq => ?_) ?hsw ?hclos ?hcell ?hkind ?hnames ?hxy ?hx ?hy ?hz ?hp rfl rfl (.inr ⟨_, hb2, rfl, nA, rfl⟩) ?hs1 ?hs2 ?hS ?hsz ?hln (LongInv.start k ls base) ?hnext ?hiter ?helt ?fin
  case hsw => rfl
  case hclos => rfl
  case hcell =>
    have e : (ordE w).2.2 = Scope.mk _ _ _ _ _ := rfl
    rw [e]; decide
  case hkind => rfl
  case hnames =>
    have e : (ordE w).2.2 = Scope.mk _ _ _ _ _ := rfl
    rw [e]; decide +kernel
  case hxy => decide +kernel
  case hx => rfl
  case hy => rfl
  case hz => rfl
  case hp => rfl
  case hs1 => exact fun _ => rfl
  case hs2 => exact fun _ _ => rfl
  case hS =>
    intro i j ys nw inv
    obtain ⟨ps, rfl, _, _⟩ := inv.out
    exact .inr ⟨_, List.mem_append_right _ hb2, rfl, nA, rfl⟩
  case hsz =>
    intro i j ys nw inv
    obtain ⟨ps, _, rfl, e3⟩ := inv.out
    have := ords_len e3 hlen hn
    rw [refsOf, List.length_map, sizeLine_eq]
    omega
  case hln =>
    intro i
    show (ls.getD i []).length ≤ 1000
    by_cases hi : i < ls.length
    · rw [List.getD_eq_getElem?_getD, List.getElem?_eq_getElem hi]
      exact Nat.le_trans (hlen _ (List.getElem_mem hi)) (by decide)
    · rw [List.getD_eq_getElem?_getD, List.getElem?_eq_none (by omega)]
      exact Nat.zero_le _
  case hnext =>
    intro i ys nw hi inv
    exact inv.next (by simpa [lo] using hi)
  case hiter =>
    intro i v ys nw I C D oI oC m₂ h tk' E' hi hv inv hC e1 F2 N2 off
    obtain ⟨o, l, rfl, ho, hl, hI⟩ := get i v hv
    obtain ⟨ps, hnw, _, _⟩ := inv.out
    have hol : o.led ∈ nw := by rw [hnw]; exact List.mem_append_right _ (hb3 o ho)
    have hgl : ls.getD i [] = l := by rw [List.getD_eq_getElem?_getD, hl]; rfl
    have hl50 : l.length ≤ 50 := hlen l (List.mem_of_getElem? hl)
    refine ordIter w mg mb p loose mean _ h₀ L m { s with heap := h, toks := tk' } _ E' X T F2 I C D o.ad oI oC (lst ys) m₂ o.vals o.n l.length nw _ (L + 1 + 1) rfl (Newss.sub N2 fun q hq => ?_) (ordLen hI) hl50 hC e1 ?_
    · simp only [List.cons_append, List.nil_append, List.mem_cons] at hq ⊢
      rcases hq with hq | hq | hq | hq | hq
      · exact .inl hq
      · exact .inr (.inl hq)
      · exact .inr (.inr (.inl hq))
      · exact .inr (.inr (.inr (hq ▸ hol)))
      · exact .inr (.inr (.inr hq))
    · intro r h' tk2 t u v F3 N3 hr
      refine ⟨r, t, u, v, h', tk2, rfl, rfl, F3, Newss.sub N3 fun q hq => ?_, by show IsRange h' r 0 (((ls.getD i []).length : Nat) : Int) 1 t u v; rw [hgl]; exact hr⟩
      simp only [List.cons_append, List.nil_append, List.mem_cons] at hq ⊢
      rcases hq with hq | hq | hq | hq
      · exact .inl hq
      · exact .inr (.inl hq)
      · exact .inr (.inr (.inl hq))
      · exact .inr (.inr (.inr (.inr hq)))
  case helt =>
    intro i v hi hv j ys nw I2 I C D oI oI2 oC m₂ h tk' tj E' hj inv hC e1 e2 F2 N2 off
    obtain ⟨o, l, rfl, ho, hl, hI⟩ := get i v hv
    obtain ⟨ps, hnw, hys, hps⟩ := inv.out
    have hol : o.led ∈ nw := by rw [hnw]; exact List.mem_append_right _ (hb3 o ho)
    have hck : (L + 1 + 1, okc) ∈ nw := by rw [hnw]; exact List.mem_append_right _ hb1
    have hgl : ls.getD i [] = l := by rw [List.getD_eq_getElem?_getD, hl]; rfl
    have hl50 : l.length ≤ 50 := hlen l (List.mem_of_getElem? hl)
    have hj' : j < l.length := by rw [← hgl]; exact hj
    refine ordElt w mg mb p loose mean _ h₀ L m { s with heap := h, toks := tk' } _ E' X T F2 I2 I C D (L + 1 + 1) o.ad oI2 oI oC (lst ys) okc m₂ o.vals o.n _ nw k j tk tj _ rfl (Newss.sub N2 fun q hq => ?_) hok hI (by rw [List.length_map]; exact hl50) (by rw [List.length_map]; exact hj') hC e1 e2 ?_
    · simp only [List.cons_append, List.nil_append, List.mem_cons] at hq ⊢
      rcases hq with hq | hq | hq | hq | hq | hq | hq
      · exact .inl hq
      · exact .inr (.inl hq)
      · exact .inr (.inr (.inl hq))
      · exact .inr (.inr (.inr (.inl hq)))
      · exact .inr (.inr (.inr (.inr (hq ▸ hck))))
      · exact .inr (.inr (.inr (.inr (hq ▸ hol))))
      · exact .inr (.inr (.inr (.inr hq)))
    · intro D' h' tk2 t1 F3 N3 hlt
      have hadd := LongInv.add (base := base) (o := ⟨D', o.vals.take j ++ [.int (k : Nat) t1] ++ o.vals.drop j, 0⟩) (by rw [hgl]; exact hj') hys hps (by rw [hgl]; exact ins1_ints hI k j t1)
      refine ⟨h', tk2, _, rfl, F3, Newss.sub N3 fun q hq => ?_, fun q hq r hr => ?_, hadd⟩
      · rcases List.mem_append.mp hq with hq | hq
        · exact List.mem_cons_of_mem _ (List.mem_append_left _ (by
            simp only [List.mem_cons, List.not_mem_nil, or_false] at hq ⊢
            rcases hq with hq | hq | hq | hq
            · exact .inl hq
            · exact .inr (.inl hq)
            · exact .inr (.inr (.inl hq))
            · exact .inr (.inr (.inr (.inl hq)))))
        · rw [List.map_append, List.append_assoc] at hq
          rcases List.mem_append.mp hq with hq | hq
          · exact List.mem_cons_of_mem _ (List.mem_append_right _ (hnw ▸ List.mem_append_left _ hq))
          · rcases List.mem_append.mp hq with hq | hq
            · rw [List.map_cons, List.map_nil, List.mem_singleton] at hq
              rw [hq]; exact List.mem_cons_self
            · exact List.mem_cons_of_mem _ (List.mem_append_right _ (hnw ▸ List.mem_append_right _ hq))
      · have hr' : @LT.lt Nat _ r.1 D' := hlt r (List.mem_append_left _ (by
            simp only [List.mem_cons, List.not_mem_nil, or_false] at hr ⊢
            rcases hr with hr | hr | hr | hr
            · exact .inl hr
            · exact .inr (.inl hr)
            · exact .inr (.inr (.inl hr))
            · exact .inr (.inr (.inr (.inl hr)))))
        rw [List.map_append, List.append_assoc] at hq
        rcases List.mem_append.mp hq with hq | hq
        · exact off.out q (hnw ▸ List.mem_append_left _ hq) r hr
        · rcases List.mem_append.mp hq with hq | hq
          · rw [List.map_cons, List.map_nil, List.mem_singleton] at hq
            rw [hq]; exact Nat.ne_of_gt hr'
          · exact off.out q (hnw ▸ List.mem_append_right _ hq) r hr
  case fin =>
    intro ys nw inv D h' tk' F2 N2 o1
    obtain ⟨ps, rfl, rfl, e3⟩ := inv.out
    refine K D h' tk' ps ?_ F2 N2 ?_
    · have : (refsOf os).toArray.size = ls.length := by simpa using lo
      rw [this, List.take_length, List.take_zero, List.append_nil] at e3
      exact e3
    · exact off1_mem o1
  · have q2 : scopeAt w 126 = Scope.mk _ _ _ _ _ := rfl
    rw [q2]
    k_steps
    exact hq

end

section
open PyProof.Rows.LCg
theorem su93ord_1 : True := by
  w_top off
  (k_with "MemR" => ((fail_if_success k_extra "e147"); (first | exact List.mem_cons_self | (refine' List.mem_cons_of_mem _ ?az108; (case az108 => k_extra "MemR")))))
  (k_with "Tail" => ((fail_if_success k_extra "e148"); (first | exact TailOf.refl | (refine' TailOf.cons ?az42; (case az42 => k_extra "Tail")))))
  (k_with "RNe" => ((fail_if_success k_extra "e149"); (first | assumption | (refine' RNe.of_ltl _ ?hz43 ?ez43; (case hz43 => with_reducible assumption); (case ez43 => k_extra "SEG")))))
  (k_with "k_all" => ((fail_if_success k_extra "e150"); (first | exact List.forall_mem_nil _ | (refine' RNe.ne ?rz44; (case rz44 => k_extra "RNe")) | (refine' List.forall_mem_cons.mpr ⟨?az44, ?bz44⟩; (case az44 => k_ne); (case bz44 => k_extra "k_all")))))
  (k_with "RNeAll" => ((fail_if_success k_extra "e151"); (first | exact List.forall_mem_nil _ | (refine' List.forall_mem_cons.mpr ⟨?az45, ?bz45⟩; (case az45 => k_extra "RNe"); (case bz45 => k_extra "RNeAll")))))
  (k_with "Split2" => ((fail_if_success k_extra "e152"); (first | exact Split.nil | (refine' Split.dropM ?az111 ?bz111; (case az111 => with_reducible k_mem); (case bz111 => k_extra "Split2")) | (refine' Split.keep ?az111 ?bz111; (case az111 => k_extra "NotIn"); (case bz111 => k_extra "Split2")) | (refine' Split.drop ?bz111; (case bz111 => k_extra "Split2")) | (refine' Split.tail ?az111; (case az111 => k_extra "RNeAll")))))
  (k_with "MemAll2" => ((fail_if_success k_extra "e153"); (first | exact List.forall_mem_nil _ | (refine' List.forall_mem_cons.mpr ⟨?az47, ?bz47⟩; (case az47 => k_mem); (case bz47 => k_extra "MemAll2")) | (refine' memAll_tail ?az47; (case az47 => k_extra "Tail")))))
  (k_with "UF" => ((fail_if_success k_extra "e154"); (first | (refine' UpdF.head ?az65; (case az65 => k_extra "KA")) | (refine' UpdF.tail ?az65 ?bz65; (case az65 => k_ne); (case bz65 => k_extra "UF")))))
  (k_with "KA" => ((fail_if_success k_extra "e155"); (first | exact List.forall_mem_nil _ | (refine' List.forall_mem_cons.mpr ⟨?az66, ?bz66⟩; (case az66 => k_ne); (case bz66 => k_extra "KA")) | exact RNe.ne (by k_extra "RNe"))))
  trivial
def joinE (w : World) : Expr × Scope :=
  let c := exC (exI (exI (exI (exI (stX (stY (forBody (stmtsAt w 126)) 2) 0) 0) 1) 0) 0)
  (c.1, c.2.2)
def sixL (x : Nat → Str) (u : Nat → Tok) : List Value := [.str (x 0) (u 0), .str (x 1) (u 1), .str (x 2) (u 2), .str (x 3) (u 3), .str (x 4) (u 4), .str (x 5) (u 5)]
theorem sixL_at (x : Nat → Str) (u : Nat → Tok) : ∀ k, k < 6 → (sixL x u)[k]? = some (.str (x k) (u k))
  | 0, _ => rfl | 1, _ => rfl | 2, _ => rfl | 3, _ => rfl | 4, _ => rfl | 5, _ => rfl
  | n + 6, h => absurd h (by omega)
theorem su93ord_2 : True := by
  (k_with "subscriptTail Name Name ref int" => ((fail_if_success k_extra "e156"); ((k_here; k_dflt (refine' subAtE ?Nz114 ?mz114 ?jz114 ?xz114 ?zz114 ?_; (case Nz114 => k_asm); (case mz114 => k_mem); (case jz114 => with_reducible exact rfl); (case xz114 => assumption); (case zz114 => exact Nat.le_of_ble_eq_true rfl); k_whole)))))
  trivial
theorem joinElt (w : World) (mg mb : Str → Option Value)
   (p : Program) (loose : List Str) (mean : ExcName → Option Value) (A : Around) (h₀ : Heap) (L : Addr) (m : Str → Option Value) (s : Shared) (Q : Value → Shared → Prop) (E : Value → Shared → Prop)
   (X : (hd.heap_39 w.params).In h₀) (T : Top p loose mean mg mb h₀) (F : Fr h₀ L s.heap m)
   (C cn nl : Addr) (oC onc : Obj) (m₂ : Str → Option Value) (nx : Nat → Str) (nv : Nat → Tok) (z : Nat) (rest : List (Addr × Obj)) (j : Nat) (tj : Tok) (cl : List (Str × Addr)) (hcl : cl = [(("names" : Str), cn)])
   (N : News h₀ L s.heap ([(C, oC), (cn, onc), (nl, listOf (sixL nx nv).toArray z)] ++ rest)) (hok : onc.data = .cell (some (.ref nl))) (hj : j < 6)
   (hC : NsObj oC m₂) (e2 : m₂ "j" = some (.int (j : Nat) tj))
   (K : ∀ (h' : Heap) (tk' : Nat), Fr h₀ L h' m → News h₀ L h' ([(C, oC), (cn, onc), (nl, listOf (sixL nx nv).toArray z)] ++ rest) → Q (.str (nx j) (nv j)) { s with heap := h', toks := tk' }) :
   wpAny (model pg w) A (eval (joinE w).1 (compEnvC (joinE w).2 cl C (envOfC "_law_orders" (scopeAt w 126) L 126 (.ref 125)))) Q E s := by
  have q1 : joinE w = (Expr.Subscript _ _ _, Scope.mk _ _ _ _ _) := rfl
  have q2 : scopeAt w 126 = Scope.mk _ _ _ _ _ := rfl
  rw [q1, q2]
  dsimp only
  subst hcl
  have hx := sixL_at nx nv j hj
  k_steps
  exact K _ _ (by k_asm) (by k_asm)

end

section
open PyProof.Rows.LCg
theorem su94ord_1 : True := by
  w_top off
  (k_with "e147" => skip)
  (k_with "e148" => skip)
  (k_with "e149" => skip)
  (k_with "e150" => skip)
  (k_with "e151" => skip)
  (k_with "e152" => skip)
  (k_with "e153" => skip)
  (k_with "e156" => skip)
  (k_with "e154" => skip)
  (k_with "e155" => skip)
  trivial
theorem strsAre_snoc {ys : List Value} {xs : List Str} (h : StrsAre ys xs) (x : Str) (t : Tok) : StrsAre (ys ++ [.str x t]) (xs ++ [x]) := by
  induction h with
  | nil => exact .cons x t .nil
  | cons y u _ ih => exact .cons y u ih
theorem joinComp (w : World) (mg mb : Str → Option Value)
   (p : Program) (loose : List Str) (mean : ExcName → Option Value) (dp un : Nat) (gd : Option (List Code)) (a : Addr) (ccd : Value) (cl : List (Str × Addr)) (outer : List Env) (h₀ : Heap) (L : Addr) (m : Str → Option Value) (s : Shared) (Q : Value → Shared → Prop) (E : Value → Shared → Prop)
   (X : (hd.heap_39 w.params).In h₀) (T : Top p loose mean mg mb h₀) (F : Fr h₀ L s.heap m)
   (oa nl : Addr) (onc : Obj) (nx : Nat → Str) (nv : Nat → Tok) (z n : Nat) (vals : List Value) (l : List Nat) (news : List (Addr × Obj)) (N : News h₀ L s.heap news)
   (hb1 : (L + 1, onc) ∈ news) (hb2 : (nl, listOf (sixL nx nv).toArray z) ∈ news) (hb3 : (oa, listOf vals.toArray n) ∈ news) (hok : onc.data = .cell (some (.ref nl))) (hI : IntsAre vals (l.map fun x : Nat => (x : Int))) (hl6 : ∀ x ∈ l, x < 6) (hl50 : l.length ≤ 50)
   (hm : m "order" = some (.ref oa)) (px py pz : Pos) (hpx : px = px)
   (K : ∀ (D : Addr) (ys : List Value) (h' : Heap) (tk' : Nat), StrsAre ys (l.map nx) → Fr h₀ L h' m → News h₀ L h' ((D, listOf ys.toArray ys.length) :: news) → (∀ q ∈ news, q.1 ≠ D) → Q (.ref D) { s with heap := h', toks := tk' }) :
   wpAny (model pg w) (ktrTop dp un gd "_law_orders" (scopeAt w 126) L a ccd cl outer) (eval (.ListComp (joinE w).1 [⟨.Name "j" px, .Name "order" py, [], 0⟩] (joinE w).2 pz) (envOfC "_law_orders" (scopeAt w 126) L 126 (.ref 125))) Q E s := by
  have rest : ∀ d i ys (g : Heap), i + d = l.length → StrsAre ys ((l.take i).map nx) → CompRest pg w (ktrTop dp un gd "_law_orders" (scopeAt w 126) L a ccd cl outer) h₀ L m (envOfC "_law_orders" (scopeAt w 126) L 126 (.ref 125)) (joinE w).1 "j" (joinE w).2 [(("names" : Str), L + 1)] { s with heap := g } (SrcAt h₀ oa vals.toArray) (fun i v => vals.toArray[i]? = some v) (FinE h₀ L m { s with heap := g } Q) d i ys news := by
    intro d
    induction d with
    | zero =>
      intro i ys g hi hys
      refine CompRest.zero fun D h tk F' N' o1 => ?_
      rw [show i = l.length by omega, List.take_length] at hys
      exact K D ys h tk hys F' N' (off1_mem o1)
    | succ d ih =>
      intro i ys g hi hys
      refine CompRest.succ fun v I oI C oC D m₂ h tk E' hP hC e2 F' N' off hne => ?_
      have hlt : i < l.length := by omega
      have hv : vals[i]? = some v := by simpa using hP
      obtain ⟨t, ht⟩ := IntsAre.get hI i (l[i] : Nat) (by simp [hlt])
      rw [hv] at ht
      cases ht
      refine joinElt w mg mb p loose mean _ h₀ L m _ _ E' X T F' C (L + 1) nl oC onc m₂ nx nv z ((I, oI) :: (D, lst ys) :: news) l[i] t _ rfl (Newss.sub N' fun q hq => ?_) hok (hl6 _ (List.getElem_mem hlt)) hC e2 ?_
      · simp only [List.cons_append, List.nil_append, List.mem_cons] at hq ⊢
        rcases hq with hq | hq | hq | hq | hq | hq
        · exact .inr (.inl hq)
        · exact .inr (.inr (.inr (hq ▸ hb1)))
        · exact .inr (.inr (.inr (hq ▸ hb2)))
        · exact .inl hq
        · exact .inr (.inr (.inl hq))
        · exact .inr (.inr (.inr hq))
      · intro h' tk' F2 N2
        refine ⟨h', tk', news, rfl, F2, Newss.sub N2 fun q hq => ?_, off, .inr ⟨_, hb3, rfl, n, rfl⟩, ih (i + 1) _ g (by omega) ?_⟩
        · simp only [List.cons_append, List.nil_append, List.mem_cons] at hq ⊢
          rcases hq with hq | hq | hq | hq
          · exact .inr (.inr (.inr (.inl hq)))
          · exact .inl hq
          · exact .inr (.inr (.inr (.inr (.inl hq))))
          · exact .inr (.inr (.inr (.inr (.inr hq))))
        · rw [List.take_add_one, List.getElem?_eq_getElem hlt, List.map_append]
          exact strsAre_snoc hys _ _
  refine ListComp_U (x := "j") (cl := [(("names" : Str), L + 1)]) F rfl ?hcell rfl ?hnames rfl ?h (fun _ => rfl)
  case hcell =>
    have e : (joinE w).2 = Scope.mk _ _ _ _ _ := rfl
    rw [e]; decide
  case hnames =>
    have e : (joinE w).2 = Scope.mk _ _ _ _ _ := rfl
    rw [e]; decide +kernel
  case h =>
    have F' := Mine.Fr.pin F (x := "order") hm
    have done : CompSrc pg w (ktrTop dp un gd "_law_orders" (scopeAt w 126) L a ccd cl outer) h₀ L m (envOfC "_law_orders" (scopeAt w 126) L 126 (.ref 125)) (joinE w).1 "j" (joinE w).2 [(("names" : Str), L + 1)] (fun s₂ => FinE h₀ L m s₂ Q) (.ref oa) s := by
      refine CompSrc.ledger rfl F N hb3 ?_ fun g => ?_
      · rw [List.size_toArray, ordLen hI, sizeLine_eq]; omega
      · rw [List.size_toArray, ordLen hI]
        exact rest l.length 0 [] g (by omega) .nil
    generalize hP : CompSrc pg w (ktrTop dp un gd "_law_orders" (scopeAt w 126) L a ccd cl outer) h₀ L m (envOfC "_law_orders" (scopeAt w 126) L 126 (.ref 125)) (joinE w).1 "j" (joinE w).2 [(("names" : Str), L + 1)] (fun s₂ => FinE h₀ L m s₂ Q) = P at done ⊢
    have q2 : scopeAt w 126 = Scope.mk _ _ _ _ _ := rfl
    rw [q2]
    k_steps
    exact done

end

section
open PyProof.Rows.LCg
theorem su95ord_1 : True := by
  w_top off
  (k_with "MemR" => ((fail_if_success k_extra "e157"); (first | exact List.mem_cons_self | (refine' List.mem_cons_of_mem _ ?az108; (case az108 => k_extra "MemR")))))
  (k_with "Tail" => ((fail_if_success k_extra "e158"); (first | exact TailOf.refl | (refine' TailOf.cons ?az42; (case az42 => k_extra "Tail")))))
  (k_with "RNe" => ((fail_if_success k_extra "e159"); (first | assumption | (refine' RNe.of_ltl _ ?hz43 ?ez43; (case hz43 => with_reducible assumption); (case ez43 => k_extra "SEG")))))
  (k_with "k_all" => ((fail_if_success k_extra "e160"); (first | exact List.forall_mem_nil _ | (refine' RNe.ne ?rz44; (case rz44 => k_extra "RNe")) | (refine' List.forall_mem_cons.mpr ⟨?az44, ?bz44⟩; (case az44 => k_ne); (case bz44 => k_extra "k_all")))))
  (k_with "RNeAll" => ((fail_if_success k_extra "e161"); (first | exact List.forall_mem_nil _ | (refine' List.forall_mem_cons.mpr ⟨?az45, ?bz45⟩; (case az45 => k_extra "RNe"); (case bz45 => k_extra "RNeAll")))))
  (k_with "Split2" => ((fail_if_success k_extra "e162"); (first | exact Split.nil | (refine' Split.dropM ?az111 ?bz111; (case az111 => with_reducible k_mem); (case bz111 => k_extra "Split2")) | (refine' Split.keep ?az111 ?bz111; (case az111 => k_extra "NotIn"); (case bz111 => k_extra "Split2")) | (refine' Split.drop ?bz111; (case bz111 => k_extra "Split2")) | (refine' Split.tail ?az111; (case az111 => k_extra "RNeAll")))))
  (k_with "MemAll2" => ((fail_if_success k_extra "e163"); (first | exact List.forall_mem_nil _ | (refine' List.forall_mem_cons.mpr ⟨?az47, ?bz47⟩; (case az47 => k_mem); (case bz47 => k_extra "MemAll2")) | (refine' memAll_tail ?az47; (case az47 => k_extra "Tail")))))
  (k_with "UF" => ((fail_if_success k_extra "e164"); (first | (refine' UpdF.head ?az65; (case az65 => k_extra "KA")) | (refine' UpdF.tail ?az65 ?bz65; (case az65 => k_ne); (case bz65 => k_extra "UF")))))
  (k_with "KA" => ((fail_if_success k_extra "e165"); (first | exact List.forall_mem_nil _ | (refine' List.forall_mem_cons.mpr ⟨?az66, ?bz66⟩; (case az66 => k_ne); (case bz66 => k_extra "KA")) | exact RNe.ne (by k_extra "RNe"))))
  trivial
def innerBody (w : World) : List Stmt := stY (forBody (stmtsAt w 126)) 2
theorem toArr_big {l : List Value} (h : l.length ≤ 1000000) : l.toArray.size ≤ sizeLine := Nat.le_trans (by simpa using h) (by rw [sizeLine_eq]; decide)
theorem joinS {prog : Program} {w : World} {A : Around} {E : Value → Shared → Prop} {s : Shared} {h₀ : Heap} {L : Addr} {news : List (Addr × Obj)} {D : Addr} {ys : List Value} {xs : List Str} {k : Nat} {x : Str} {t : Tok} {Q : Value → Shared → Prop} (N : News h₀ L s.heap news) (hm : (D, listOf ys.toArray k) ∈ news) (hi : StrsAre ys xs) (hsep : x.length ≤ 16) (hw : (xs.map (·.length)).sum + xs.length ≤ 1048576)
    (h : ∀ t' tk, Q (.str (Str.join x xs) t') { s with toks := tk }) : wpAny (model prog w) A (call (.builtin "str.join") [.str x t, .ref D]) Q E s :=
  join_listW (News.isList N hm) hi hsep hw fun t' k => by
    have := h t' k
    rw [← StrLaws.glued_eq_join] at this
    exact this
theorem su95ord_2 : True := by
  (k_with "subscriptTail Name Name ref int" => ((fail_if_success k_extra "e166"); ((k_here; k_dflt (refine' subAtE ?Nz114 ?mz114 ?jz114 ?xz114 ?zz114 ?_; (case Nz114 => k_asm); (case mz114 => k_mem); (case jz114 => with_reducible exact rfl); (case xz114 => assumption); (case zz114 => exact Nat.le_of_ble_eq_true rfl); k_whole)))))
  (k_with "subscriptTail" => ((fail_if_success k_extra "e167"); ((k_here; (with_reducible show wpAny _ _ (subscriptTail _ _ (Value.ref _) (Value.str _ _)) _ _ _); k_dflt (refine' itemD ?Nz105 ?mz105 ?dz105 ?lz105 ?_; (case Nz105 => k_asm); (case mz105 => k_mem); (case dz105 => assumption); (case lz105 => assumption); k_whole)))))
  (k_with "eval ListComp" => ((fail_if_success k_extra "e168"); ((k_here; k_dflt (refine' joinComp _ _ _ _ _ _ _ _ _ _ _ _ _ _ _ _ _ _ _ ?Xz115 ?Tz115 ?Fz115 _ _ _ _ _ _ _ _ _ _ ?Nz115 ?b1z115 ?b2z115 ?b3z115 ?okz115 ?Iz115 ?l6z115 ?l50z115 ?hmz115 _ _ _ rfl ?_; (case Xz115 => k_asm); (case Tz115 => k_asm); (case Fz115 => k_asm); (case Nz115 => k_asm); (case b1z115 => k_mem); (case okz115 => assumption); (case b2z115 => k_mem); (case hmz115 => exact rfl); (case b3z115 => k_mem); (case Iz115 => assumption); (case l6z115 => assumption); (case l50z115 => assumption)); intro D' ys' h' tk' hys' F' N' l1; (try k_sweep)))))
  (k_with "call builtin:str.join" => ((fail_if_success k_extra "e169"); ((k_here; k_dflt (refine' joinS ?Nz116 ?mz116 ?iz116 ?sz116 ?wz116 ?_; (case Nz116 => k_asm); (case mz116 => k_mem); (case iz116 => assumption); (case sz116 => decide +kernel); (case wz116 => assumption)); intro t' tk'))))
  (k_with "binaryOp Add str str" => ((fail_if_success k_extra "e170"); ((k_here; (with_reducible show wpAny _ _ (binaryOp Operator.Add (Value.str _ _) (Value.str _ _)) _ _ _); k_dflt (refine' addS ?nhz117 ?niz117 ?_; (case nhz117 => assumption); (case niz117 => assumption)); intro t' tk'))))
  (k_with "call ref" => ((fail_if_success k_extra "e171"); ((k_here; (with_reducible show wpAny _ _ (call (Value.ref 72) [_, _]) _ _ _); refine Hold.out ?_))))
  (k_with "call builtin:list.append" => ((fail_if_success k_extra "e172"); ((k_here; (with_reducible show wpAny _ _ (call (Value.builtin _) [Value.ref _, _]) _ _ _); k_dflt (refine' append_K ?k1z119 ?k2z119 ?k3z119 ?_ ?zz119; (case k1z119 => k_asm); (case k2z119 => k_asm); (case k3z119 => k_upd); (case zz119 => exact toArr_big (by omega)); k_whole); intro h' F' N'; (try k_sweep)))))
  trivial
theorem pickTurn (w : World) (mg mb : Str → Option Value)
   (p : Program) (loose : List Str) (mean : ExcName → Option Value) (dp un : Nat) (gd : Option (List Code)) (a : Addr) (ccd : Value) (cl : List (Str × Addr)) (outer : List Env) (A₀ : Around) (base h₀ : Heap) (L : Addr) (m : Str → Option Value) (s : Shared) (Q : Flow → Shared → Prop) (E : Value → Shared → Prop)
   (B : Below A₀ base outer h₀) (X : (hd.heap_39 w.params).In h₀) (T : Top p loose mean mg mb h₀)
   (oa nl sl wd oA : Addr) (onc okc wob : Obj) (sx nx W : Nat → Str) (su nv : Nat → Tok) (z1 z2 n nA k : Nat) (tk tW tt : Tok) (tail : Str) (kvs : List (Str × Value)) (vals acc : List Value) (l : List Nat) (rest : List (Addr × Obj)) (mids : List Str) (last : Str)
   (F : Fr h₀ L s.heap (fun z => if z = "order" then some (.ref oa) else m z))
   (N : News h₀ L s.heap ([(L + 1, onc), (L + 1 + 1, okc), (sl, listOf (sixL sx su).toArray z1), (nl, listOf (sixL nx nv).toArray z2), (wd, wob), (oA, listOf acc.toArray nA), (oa, listOf vals.toArray n)] ++ rest))
   (hok : onc.data = .cell (some (.ref nl))) (hkc : okc.data = .cell (some (.int (k : Nat) tk))) (hI : IntsAre vals (l.map fun x : Nat => (x : Int))) (hl6 : ∀ x ∈ l, x < 6) (hl50 : l.length ≤ 50) (hk : k < 6)
   (hd0 : wob.IsDictOf (strKind pg w) kvs) (hW : valueAt kvs (sx k) = some (.str (W k) tW)) (hacc : acc.length ≤ 1000000)
   (m1 : m "signs" = some (.ref sl)) (m2 : m "wants" = some (.ref wd)) (m3 : m "tail" = some (.str tail tt)) (m4 : m "orders" = some (.ref oA))
   (hnx : ∀ c, c < 6 → (nx c).length ≤ 100) (htl : tail.length ≤ 100)
   (hsp : Txt.split (W k) "..." = ⟨#[]⟩ :: (mids ++ [last])) (hin : (Str.occurrences (W k) "..." 0 (W k).length 1).isEmpty = false)
   (hlast : last = ⟨#[]⟩ ∨ last ≠ ⟨#[]⟩ ∧ Txt.endswith (Str.join "" (l.map nx) ++ tail) last = true ∧ last.length ≤ (Str.join "" (l.map nx) ++ tail).length) (hWl : (W k).length ≤ 10000) (hml : mids.length ≤ 90) (hms : ∀ x ∈ mids, x.length ≤ 10000)
   (r1 : RNe rest oA) (d1 : @Ne Nat (L + 1) oA) (d2 : @Ne Nat (L + 1 + 1) oA) (d3 : @Ne Nat sl oA) (d4 : @Ne Nat nl oA) (d5 : @Ne Nat wd oA) (d6 : @Ne Nat oa oA) (hdp : dp + 6 < recursionLimit) (hun : un + 60 < cLine) (HG : CodeHd base 99 95)
   (K : ∀ (h' : Heap) (tk' : Nat) (m' : Str → Option Value) (acc' : List Value) (nA' : Nat), Fr h₀ L h' m' → News h₀ L h' ([(L + 1, onc), (L + 1 + 1, okc), (sl, listOf (sixL sx su).toArray z1), (nl, listOf (sixL nx nv).toArray z2), (wd, wob), (oA, listOf acc'.toArray nA'), (oa, listOf vals.toArray n)] ++ rest) →
     acc' = acc ++ (if ellV (Str.join "" (l.map nx) ++ tail) mids last = true then [.ref oa] else []) →
     m' "signs" = some (.ref sl) → m' "wants" = some (.ref wd) → m' "tail" = some (.str tail tt) → m' "orders" = some (.ref oA) → Q .next { s with heap := h', toks := tk' }) :
   wpAny (model pg w) (ktrTop dp un gd "_law_orders" (scopeAt w 126) L a ccd cl outer) (execs (innerBody w) (envOfC "_law_orders" (scopeAt w 126) L 126 (.ref 125))) Q E s := by
  have e1 : innerBody w = [_] := rfl
  have e2 : scopeAt w 126 = Scope.mk _ _ _ _ _ := rfl
  rw [e1, e2]
  have F := Mine.Fr.pin (Mine.Fr.pin (Mine.Fr.pin (Mine.Fr.pin F (x := "signs") m1) (x := "wants") m2) (x := "tail") m3) (x := "orders") m4
  have hxs := sixL_at sx su k hk
  have hsum : ((l.map nx).map (·.length)).sum ≤ (l.map nx).length * 100 := StrLaws.sumLen_le _ fun y hy => by
    obtain ⟨c, hc, rfl⟩ := List.mem_map.mp hy
    exact hnx c (hl6 c hc)
  have hlm : (l.map nx).length = l.length := List.length_map _
  have hjl : (Str.join "" (l.map nx)).length ≤ 5000 := by
    have q1 := StrLaws.join_length_le "" (l.map nx)
    have q2 : (Str.ofString "").length = 0 := by decide +kernel
    rw [q2, Nat.mul_zero, Nat.add_zero] at q1
    omega
  have hjl1 : (Str.join "" (l.map nx)).length ≤ 100000 := by omega
  have htl1 : tail.length ≤ 100000 := by omega
  have hw : ((l.map nx).map (·.length)).sum + (l.map nx).length ≤ 1048576 := by omega
  k_steps
  refine ⟨?_⟩
  refine' HC.at (ell_c w mg mb _ _ _ _ mids last hsp hin hlast hWl ?hy hml hms) B ?F X ?N T ?sk HG ?d ?u (List.forall_mem_nil _) ?s ?_
  case hy => rw [Str.length_append]; omega
  case F => k_asm
  case N => k_asm
  case sk => exact rfl
  case d => omega
  case u => omega
  case s => k_extra "Split2"
  intro v' news' h' tk' F' N' P' l1
  obtain ⟨rfl, rfl⟩ := P'
  simp only [List.nil_append] at N'
  replace N' := Newss.sub N' (fun q hq => List.mem_cons_of_mem _ hq)
  rcases hb : ellV (Str.join "" (l.map nx) ++ tail) mids last with _ | _
  · rw [hb] at K
    dsimp only
    k_steps
    refine' K _ _ _ acc nA (by k_asm) (by k_asm) (by simp) rfl rfl rfl rfl
  · rw [hb] at K
    dsimp only
    k_steps
    (with_reducible rename News _ _ _ _ => kN)
    simp only [List.push_toArray] at kN
    refine' K _ _ _ _ _ (by k_asm) kN (by simp) rfl rfl rfl rfl

end

section
structure PickIn (w : World) (nx W : Nat → Str) (tail : Str) (k : Nat) (mids : List Str) (last : Str) : Prop where
  hnx : ∀ c, c < 6 → (nx c).length ≤ 100
  htl : tail.length ≤ 100
  hsp : Txt.split (W k) "..." = ⟨#[]⟩ :: (mids ++ [last])
  hin : (Str.occurrences (W k) "..." 0 (W k).length 1).isEmpty = false
  hWl : (W k).length ≤ 10000
  hml : mids.length ≤ 90
  hms : ∀ x ∈ mids, x.length ≤ 10000
structure GoodL (nx : Nat → Str) (tail last : Str) (l : List Nat) : Prop where
  h6 : ∀ x ∈ l, x < 6
  h50 : l.length ≤ 50
  hl : last = ⟨#[]⟩ ∨ last ≠ ⟨#[]⟩ ∧ Txt.endswith (Str.join "" (l.map nx) ++ tail) last = true ∧ last.length ≤ (Str.join "" (l.map nx) ++ tail).length
def pick (nx : Nat → Str) (tail : Str) (mids : List Str) (last : Str) (l : List Nat) : Bool := ellV (Str.join "" (l.map nx) ++ tail) mids last
def six6 (L sl nl wd oA : Addr) (onc okc wob : Obj) (sx nx : Nat → Str) (su nv : Nat → Tok) (z1 z2 : Nat) (acc : List Value) (nA : Nat) : List (Addr × Obj) :=
  [(L + 1, onc), (L + 1 + 1, okc), (sl, listOf (sixL sx su).toArray z1), (nl, listOf (sixL nx nv).toArray z2), (wd, wob), (oA, listOf acc.toArray nA)]
theorem pickLoop (w : World) (mg mb : Str → Option Value)
   (p : Program) (loose : List Str) (mean : ExcName → Option Value) (dp un : Nat) (gd : Option (List Code)) (a : Addr) (ccd : Value) (cl : List (Str × Addr)) (outer : List Env) (A₀ : Around) (base h₀ : Heap) (L : Addr) (s : Shared) (Q : Flow → Shared → Prop) (E : Value → Shared → Prop)
   (B : Below A₀ base outer h₀) (X : (hd.heap_39 w.params).In h₀) (T : Top p loose mean mg mb h₀)
   (nl sl wd oA : Addr) (onc okc wob : Obj) (sx nx W : Nat → Str) (su nv : Nat → Tok) (z1 z2 k : Nat) (tk tW tt : Tok) (tail : Str) (kvs : List (Str × Value)) (rest : List (Addr × Obj)) (mids : List Str) (last : Str) (I : Addr) (lp : Addr × Obj)
   (hok : onc.data = .cell (some (.ref nl))) (hkc : okc.data = .cell (some (.int (k : Nat) tk))) (hk : k < 6) (P : PickIn w nx W tail k mids last)
   (hd0 : wob.IsDictOf (strKind pg w) kvs) (hW : valueAt kvs (sx k) = some (.str (W k) tW))
   (r1 : RNe rest oA) (d1 : @Ne Nat (L + 1) oA) (d2 : @Ne Nat (L + 1 + 1) oA) (d3 : @Ne Nat sl oA) (d4 : @Ne Nat nl oA) (d5 : @Ne Nat wd oA)
   (i1 : @Ne Nat (L + 1) I) (i2 : @Ne Nat (L + 1 + 1) I) (i3 : @Ne Nat sl I) (i4 : @Ne Nat nl I) (i5 : @Ne Nat wd I) (i6 : @Ne Nat oA I) (i7 : RNe rest I) (hlp : lp ∈ rest)
   (hdp : dp + 6 < recursionLimit) (hun : un + 60 < cLine) (HG : CodeHd base 99 95) :
   ∀ (qs : List Ord) (ms : List (List Nat)), OrdsAre qs ms → (∀ o ∈ qs, o.led ∈ rest) → (∀ l ∈ ms, GoodL nx tail last l) → ∀ (m : Str → Option Value) (as : List Ord) (ns : List (List Nat)) (nA : Nat), OrdsAre as ns → (∀ o ∈ as, o.led ∈ rest) → as.length + qs.length ≤ 700000 →
     m "signs" = some (.ref sl) → m "wants" = some (.ref wd) → m "tail" = some (.str tail tt) → m "orders" = some (.ref oA) →
     (∀ (h' : Heap) (tk' : Nat) (m' : Str → Option Value) (as' : List Ord) (nA' : Nat), Fr h₀ L h' m' → News h₀ L h' (six6 L sl nl wd oA onc okc wob sx nx su nv z1 z2 (refsOf as') nA' ++ rest) → OrdsAre as' (ns ++ ms.filter (pick nx tail mids last)) → (∀ o ∈ as', o.led ∈ rest) →
       m' "signs" = some (.ref sl) → m' "wants" = some (.ref wd) → m' "tail" = some (.str tail tt) → m' "orders" = some (.ref oA) → Q .next { s with heap := h', toks := tk' }) →
     ListRest pg w (ktrTop dp un gd "_law_orders" (scopeAt w 126) L a ccd cl outer) E h₀ (envOfC "_law_orders" (scopeAt w 126) L 126 (.ref 125)) "order" (innerBody w) Q s I lp (refsOf qs) m (six6 L sl nl wd oA onc okc wob sx nx su nv z1 z2 (refsOf as) nA ++ rest) := by
  intro qs
  induction qs with
  | nil =>
    intro ms hq _ _ m as ns nA ha har _ m1 m2 m3 m4 K
    cases hq
    exact ListRest.zero fun h tk F N => K h tk m as nA F N (by simpa using ha) har m1 m2 m3 m4
  | cons o qs ih =>
    intro ms hq hqr hg m as ns nA ha har hlen m1 m2 m3 m4 K
    cases hq with
    | cons hI hq =>
      rename_i l ms
      refine ListRest.succ fun it h tk hit F N => ?_
      have g := hg l (.head _)
      have hoA : @Ne Nat o.ad oA := r1.ne o.led (hqr o (.head _))
      refine pickTurn w mg mb p loose mean dp un gd a ccd cl outer A₀ base h₀ L m _ _ _ B X T o.ad nl sl wd oA onc okc wob sx nx W su nv z1 z2 o.n nA k _ tW tt tail kvs o.vals (refsOf as) l ((I, it) :: rest) mids last F (Newss.sub N fun q hq => ?_) hok hkc hI g.h6 g.h50 hk hd0 hW ?_ m1 m2 m3 m4 P.hnx P.htl P.hsp P.hin g.hl P.hWl P.hml P.hms
        ⟨fun q hq => ?_⟩ d1 d2 d3 d4 d5 hoA hdp hun HG ?_
      · simp only [six6, List.cons_append, List.nil_append, List.mem_cons] at hq ⊢
        rcases hq with hq | hq | hq | hq | hq | hq | hq | hq | hq
        · exact .inr (.inl hq)
        · exact .inr (.inr (.inl hq))
        · exact .inr (.inr (.inr (.inl hq)))
        · exact .inr (.inr (.inr (.inr (.inl hq))))
        · exact .inr (.inr (.inr (.inr (.inr (.inl hq)))))
        · exact .inr (.inr (.inr (.inr (.inr (.inr (.inl hq))))))
        · exact .inr (.inr (.inr (.inr (.inr (.inr (.inr (hq ▸ hqr o (.head _))))))))
        · exact .inl hq
        · exact .inr (.inr (.inr (.inr (.inr (.inr (.inr hq))))))
      · rw [refsOf, List.length_map]
        rw [List.length_cons] at hlen
        omega
      · rcases List.mem_cons.mp hq with rfl | hq
        · exact Ne.symm i6
        · exact r1.ne q hq
      · intro h' tk' m' acc' nA' F' N' hacc e1 e2 e3 e4
        have key : ∃ as' : List Ord, acc' = refsOf as' ∧ OrdsAre as' (ns ++ [l].filter (pick nx tail mids last)) ∧ (∀ o ∈ as', o.led ∈ rest) ∧ as'.length ≤ as.length + 1 := by
          by_cases hp : pick nx tail mids last l = true
          · rw [show ellV (Str.join "" (l.map nx) ++ tail) mids last = true from hp, if_pos rfl] at hacc
            refine ⟨as ++ [o], by rw [hacc]; simp [refsOf], ?_, fun x hx => ?_, by simp⟩
            · rw [List.filter_cons_of_pos hp, List.filter_nil]
              exact ha.snoc hI
            · rcases List.mem_append.mp hx with hx | hx
              · exact har x hx
              · rw [List.mem_singleton.mp hx]; exact hqr o (.head _)
          · rw [if_neg (show ¬ ellV (Str.join "" (l.map nx) ++ tail) mids last = true from hp), List.append_nil] at hacc
            refine ⟨as, hacc, ?_, har, Nat.le_succ _⟩
            rw [List.filter_cons_of_neg hp, List.filter_nil, List.append_nil]
            exact ha
        obtain ⟨as', rfl, ha', har', hl'⟩ := key
        refine ⟨h', tk', m', six6 L sl nl wd oA onc okc wob sx nx su nv z1 z2 (refsOf as') nA' ++ rest, rfl, F', Newss.sub N' fun q hq => ?_, fun q hq => ?_, List.mem_append_right _ hlp, ih ms hq (fun x hx => hqr x (.tail _ hx)) (fun x hx => hg x (.tail _ hx)) m' as' _ nA' ha' har' ?_ e1 e2 e3 e4 ?_⟩
        · simp only [six6, List.cons_append, List.nil_append, List.mem_cons] at hq ⊢
          rcases hq with hq | hq | hq | hq | hq | hq | hq | hq
          · exact .inr (.inr (.inr (.inr (.inr (.inr (.inr (.inl hq)))))))
          · exact .inl hq
          · exact .inr (.inl hq)
          · exact .inr (.inr (.inl hq))
          · exact .inr (.inr (.inr (.inl hq)))
          · exact .inr (.inr (.inr (.inr (.inl hq))))
          · exact .inr (.inr (.inr (.inr (.inr (.inl hq)))))
          · exact .inr (.inr (.inr (.inr (.inr (.inr (.inr (.inr hq)))))))
        · simp only [six6, List.cons_append, List.nil_append, List.mem_cons] at hq
          rcases hq with hq | hq | hq | hq | hq | hq | hq
          · rw [hq]; exact i1
          · rw [hq]; exact i2
          · rw [hq]; exact i3
          · rw [hq]; exact i4
          · rw [hq]; exact i5
          · rw [hq]; exact i6
          · exact i7.ne q hq
        · rw [List.length_cons] at hlen
          omega
        · intro h2 tk2 m2' as2 nA2 F2 N2 a2 r2 f1 f2 f3 f4
          refine K h2 tk2 m2' as2 nA2 F2 N2 ?_ r2 f1 f2 f3 f4
          rw [List.append_assoc, ← List.filter_append] at a2
          exact a2

end

section
open PyProof.Rows.LCg
theorem su97ord_1 : True := by
  w_top off
  (k_with "e171" => skip)
  (k_with "e159" => skip)
  (k_with "e166" => skip)
  (k_with "e172" => skip)
  (k_with "e170" => skip)
  (k_with "e167" => skip)
  (k_with "e168" => skip)
  (k_with "e169" => skip)
  (k_with "k_lt" => ((fail_if_success k_extra "e173"); (skip)))
  (k_with "RNe" => ((fail_if_success k_extra "e174"); (first | assumption | (refine' RNe.of_ltl _ ?hz110 ?ez110; (case hz110 => with_reducible assumption); (case ez110 => k_extra "SEG")) | exact RNe.of_lts (by assumption) (by k_extra "Tail"))))
  trivial
theorem news_ne {h₀ h : Heap} {L : Addr} {l : List (Addr × Obj)} (N : News h₀ L h l) {q r : Addr × Obj} (hq : q ∈ l) (hr : r ∈ l) (hd : q.2.data ≠ r.2.data) : q.1 ≠ r.1 := fun e => by
  have h1 := (N q hq).1
  have h2 := (N r hr).1
  rw [e, h2] at h1
  exact hd (congrArg Obj.data (Option.some.inj h1)).symm
def ltsTop {d : Addr} {l : List (Addr × Obj)} (_ : Lts d l) : Addr := d
def itemsOk (k : Nat) (ls : List (List Nat)) : Prop := ∀ l ∈ ls, l.length ≤ k
theorem su97ord_2 : True := by
  (k_with "newList" => ((fail_if_success k_extra "e175"); ((k_here; k_dflt (refine' newListO ?k1z87 ?k2z87 ?_ ?zz87; (case k1z87 => k_asm); (case k2z87 => k_asm); (case zz87 => exact Nat.le_of_ble_eq_true rfl); k_whole); intro l' h' F' N' l1 l2; (try k_lt l1); (try k_sweep)))))
  (k_with "exec For Name Name cons nil" => ((fail_if_success k_extra "e176"); ((k_here; k_dflt (refine' For_invVF (hE := ?ez120) ?Fz120 ?az120 ?bz120 ?_; (case ez120 => assumption); (case Fz120 => k_asm); (case az120 => exact rfl); (case bz120 => exact rfl))))))
  (k_with "pyIter ref" => ((fail_if_success k_extra "e177"); (((with_reducible show wpAny _ _ (pyIter (Value.ref _)) (fun it s₂ => LoopAtV _ _ _ _ _ _ _ _ _ it s₂) _ _); refine Hold.out ?_))))
  (k_with "exec Assign cons ListComp" => ((fail_if_success k_extra "e178"); ((k_here; refine Hold.out ?_))))
  trivial
theorem ordTurn (w : World) (mg mb : Str → Option Value)
   (p : Program) (loose : List Str) (mean : ExcName → Option Value) (dp un : Nat) (gd : Option (List Code)) (a : Addr) (ccd : Value) (cl : List (Str × Addr)) (outer : List Env) (A₀ : Around) (base h₀ : Heap) (L : Addr) (m : Str → Option Value) (s : Shared) (Q : Flow → Shared → Prop) (E : Value → Shared → Prop)
   (B : Below A₀ base outer h₀) (X : (hd.heap_39 w.params).In h₀) (T : Top p loose mean mg mb h₀)
   (nl sl wd oA : Addr) (onc okc wob : Obj) (sx nx W : Nat → Str) (su nv : Nat → Tok) (z1 z2 nA k : Nat) (tk tW tt : Tok) (tail : Str) (kvs : List (Str × Value)) (rest : List (Addr × Obj)) (mids : List Str) (last : Str) (os : List Ord) (ls : List (List Nat)) (v0 : Option Value) (pos : Pos)
   (F : Fr h₀ L s.heap m) (N : News h₀ L s.heap (six6 L sl nl wd oA onc okc wob sx nx su nv z1 z2 (refsOf os) nA ++ rest)) (hrest : ∀ o ∈ os, o.led ∈ rest) (r0 : RNe rest (L + 1 + 1)) (kp : List (Addr × Obj)) (hkp : ∀ q ∈ kp, q ∈ rest)
   (hok : onc.data = .cell (some (.ref nl))) (hkc : okc.data = .cell v0) (hk : k < 6) (P : PickIn w nx W tail k mids last)
   (hd0 : wob.IsDictOf (strKind pg w) kvs) (hW : valueAt kvs (sx k) = some (.str (W k) tW)) (hos : OrdsAre os ls) (hlen : ∀ l ∈ ls, l.length ≤ 50) (hn : ls.length ≤ 10000)
   (hg : ∀ l ∈ ls.flatMap (insAll k), GoodL nx tail last l)
   (m1 : m "signs" = some (.ref sl)) (m2 : m "wants" = some (.ref wd)) (m3 : m "tail" = some (.str tail tt)) (m4 : m "orders" = some (.ref oA))
   (hdp : dp + 6 < recursionLimit) (hun : un + 60 < cLine) (HG : CodeHd base 99 95)
   (hE : PassesOwn (model pg w) (ktrTop dp un gd "_law_orders" (scopeAt w 126) L a ccd cl outer) (envOfC "_law_orders" (scopeAt w 126) L 126 (.ref 125)) E)
   (K : ∀ (h' : Heap) (tk' : Nat) (m' : Str → Option Value) (as' : List Ord) (A' : Addr) (nA' : Nat) (okc' : Obj) (v' : Option Value) (r1 : List (Addr × Obj)), Fr h₀ L h' m' → News h₀ L h' (six6 L sl nl wd A' onc okc' wob sx nx su nv z1 z2 (refsOf as') nA' ++ (r1 ++ kp)) → (∀ o ∈ as', o.led ∈ r1 ++ kp) → (∀ q ∈ r1, q.2.cls = .type "list" ∧ ∃ xs n, q.2.data = .seq xs n) → (∀ q ∈ kp, q.1 ≠ A') → okc'.data = .cell v' →
       OrdsAre as' ((ls.flatMap (insAll k)).filter (pick nx tail mids last)) →
       m' "signs" = some (.ref sl) → m' "wants" = some (.ref wd) → m' "tail" = some (.str tail tt) → m' "orders" = some (.ref A') → Q .next { s with heap := h', toks := tk' }) :
   wpAny (model pg w) (ktrTop dp un gd "_law_orders" (scopeAt w 126) L a ccd cl outer) (assign (.Name "k" pos) (envOfC "_law_orders" (scopeAt w 126) L 126 (.ref 125)) (.int (k : Nat) tk)) (fun _ s₂ => wpAny (model pg w) (ktrTop dp un gd "_law_orders" (scopeAt w 126) L a ccd cl outer) (execs (forBody (stmtsAt w 126)) (envOfC "_law_orders" (scopeAt w 126) L 126 (.ref 125))) Q E s₂) E s := by
  have c1 : @Ne Nat sl (L + 1 + 1) := news_ne N (q := (sl, listOf (sixL sx su).toArray z1)) (r := (L + 1 + 1, okc)) (by simp [six6]) (by simp [six6]) (by dsimp only; rw [hkc]; exact fun e => nomatch e)
  have c2 : @Ne Nat nl (L + 1 + 1) := news_ne N (q := (nl, listOf (sixL nx nv).toArray z2)) (r := (L + 1 + 1, okc)) (by simp [six6]) (by simp [six6]) (by dsimp only; rw [hkc]; exact fun e => nomatch e)
  have c3 : @Ne Nat oA (L + 1 + 1) := news_ne N (q := (oA, listOf (refsOf os).toArray nA)) (r := (L + 1 + 1, okc)) (by simp [six6]) (by simp [six6]) (by dsimp only; rw [hkc]; exact fun e => nomatch e)
  have c4 : @Ne Nat wd (L + 1 + 1) := by
    obtain ⟨es, ep, _, hdd, _⟩ := id hd0
    exact news_ne N (q := (wd, wob)) (r := (L + 1 + 1, okc)) (by simp [six6]) (by simp [six6]) (by dsimp only; rw [hkc, hdd]; exact fun e => nomatch e)
  have e1 : forBody (stmtsAt w 126) = [_, _, _] := rfl
  have e2 : scopeAt w 126 = Scope.mk _ _ _ _ _ := rfl
  rw [e1, e2]
  rw [e2] at hE
  have F := Mine.Fr.pin (Mine.Fr.pin (Mine.Fr.pin (Mine.Fr.pin F (x := "signs") m1) (x := "wants") m2) (x := "tail") m3) (x := "orders") m4
  simp only [six6, List.cons_append, List.nil_append] at N
  k_steps
  refine ⟨?_⟩
  (with_reducible rename News _ _ _ _ => kN0)
  refine' ordLong w mg mb p loose mean _ _ _ _ _ _ _ h₀ L _ _ _ _ X T ?F oA nA _ os ls _ k tk kN0 ?b1 ?b2 ?b3 ?ok hos hlen hn ?hm ?K _ rfl
  case F => k_asm
  case b1 => k_mem
  case b2 => k_mem
  case b3 =>
    intro o ho
    exact memAll_tail (by k_extra "Tail") _ (hrest o ho)
  case ok => first | assumption | rfl
  case hm => rfl
  case K =>
    intro D h' tk' ps hps F2 N2 hD
    obtain ⟨rB, hrB⟩ : ∃ r, r = (D, listOf (refsOf ps).toArray (refsOf ps).length) :: ps.map Ord.led := ⟨_, rfl⟩
    obtain ⟨rA, hrA⟩ : ∃ r, r = rB ++ kp := ⟨_, rfl⟩
    have hmD : (D, listOf (refsOf ps).toArray (refsOf ps).length) ∈ rA := by rw [hrA, hrB]; exact List.mem_cons_self
    have hps2 : ∀ o ∈ ps, o.led ∈ rA := fun o ho => by rw [hrA, hrB]; exact List.mem_cons_of_mem _ (List.mem_append_left _ (List.mem_map_of_mem ho))
    have hkp2 : ∀ q ∈ kp, q ∈ rA := fun q hq => by rw [hrA]; exact List.mem_append_right _ hq
    have hrk2 : ∀ q ∈ rB, q.2.cls = .type "list" ∧ ∃ xs n, q.2.data = .seq xs n := fun q hq => by
      rw [hrB] at hq
      rcases List.mem_cons.mp hq with rfl | hq
      · exact ⟨rfl, _, _, rfl⟩
      · obtain ⟨o, _, rfl⟩ := List.mem_map.mp hq
        exact ⟨rfl, _, _, rfl⟩
    replace N2 := Newss.sub N2 (l' := [(L + 1, onc), (L + 1 + 1, _), (sl, listOf (sixL sx su).toArray z1), (nl, listOf (sixL nx nv).toArray z2), (wd, wob)] ++ rA) (fun q hq => by
      simp only [List.cons_append, List.nil_append, List.mem_cons, hrA, hrB, List.mem_append] at hq ⊢
      rcases hq with hq | hq | hq | hq | hq | hq | hq | hq
      · exact .inr (.inr (.inl hq))
      · exact .inr (.inr (.inr (.inl hq)))
      · exact .inr (.inr (.inr (.inr (.inl hq))))
      · exact .inr (.inr (.inr (.inr (.inr (.inl hq)))))
      · exact .inr (.inr (.inr (.inr (.inr (.inr (.inl hq))))))
      · exact .inl hq
      · exact .inr (.inl hq)
      · exact .inr (.inr (.inr (.inr (.inr (.inr (.inr (.inr (hkp q hq)))))))))
    clear hrB hD
    simp only [List.cons_append, List.nil_append] at N2
    dsimp only
    k_steps
    refine ⟨?_⟩
    (with_reducible rename News _ _ _ _ => kN1)
    (with_reducible rename Lts _ _ => kL1)
    obtain ⟨A2, hA2⟩ : ∃ x : Addr, x = ltsTop kL1 := ⟨_, rfl⟩
    unfold ltsTop at hA2
    subst hA2
    refine' iter_listUnr rfl (by k_asm) kN1 (memAll_tail (by k_extra "Tail") _ hmD) rfl rfl ?_
    intro I' l1
    have kL2 := Lts.mk l1
    replace l1 := allLt_of l1
    simp only [AllLt, and_true] at l1
    have hpl : ps.length ≤ 500000 := by
      rw [hps.length]; exact Nat.le_trans (flatIns 50 k ls hlen) (Nat.mul_le_mul_left 50 (show ls.length ≤ 10000 by assumption))
    refine' Mine.ListRest.sub ?hs _ _ (pickLoop w mg mb p loose mean _ _ _ _ _ _ _ A₀ base h₀ L _ _ _ B X T nl sl wd A2 onc _ wob sx nx W su nv z1 z2 k _ tW tt tail kvs rA mids last I' (D, listOf (refsOf ps).toArray (refsOf ps).length) hok ?kc hk P hd0 hW ?r1 ?d1 ?d2 ?d3 ?d4 ?d5 ?i1 ?i2 ?i3 ?i4 ?i5 ?i6 ?i7 hmD hdp hun HG ps _ hps hps2 hg _ [] [] 0 .nil (fun _ h => nomatch h) ?len ?m1 ?m2 ?m3 ?m4 ?K2)
    case kc => assumption
    case r1 => exact RNe.of_lts kL1 (by k_extra "Tail")
    case i7 => exact RNe.of_lts kL2 (by k_extra "Tail")
    case d1 => omega
    case d2 => omega
    case d3 => omega
    case d4 => omega
    case d5 => omega
    case i1 => first | with_reducible exact Nat.ne_of_lt l1.1 | with_reducible exact Nat.ne_of_gt l1.1 | with_reducible exact Nat.ne_of_lt l1.2.1 | with_reducible exact Nat.ne_of_gt l1.2.1 | with_reducible exact Nat.ne_of_lt l1.2.2.1 | with_reducible exact Nat.ne_of_gt l1.2.2.1 | with_reducible exact Nat.ne_of_lt l1.2.2.2.1 | with_reducible exact Nat.ne_of_gt l1.2.2.2.1 | with_reducible exact Nat.ne_of_lt l1.2.2.2.2.1 | with_reducible exact Nat.ne_of_gt l1.2.2.2.2.1 | with_reducible exact Nat.ne_of_lt l1.2.2.2.2.2.1 | with_reducible exact Nat.ne_of_gt l1.2.2.2.2.2.1 | with_reducible exact Nat.ne_of_lt l1.2.2.2.2.2.2 | with_reducible exact Nat.ne_of_gt l1.2.2.2.2.2.2 | omega
    case i2 => first | with_reducible exact Nat.ne_of_lt l1.1 | with_reducible exact Nat.ne_of_gt l1.1 | with_reducible exact Nat.ne_of_lt l1.2.1 | with_reducible exact Nat.ne_of_gt l1.2.1 | with_reducible exact Nat.ne_of_lt l1.2.2.1 | with_reducible exact Nat.ne_of_gt l1.2.2.1 | with_reducible exact Nat.ne_of_lt l1.2.2.2.1 | with_reducible exact Nat.ne_of_gt l1.2.2.2.1 | with_reducible exact Nat.ne_of_lt l1.2.2.2.2.1 | with_reducible exact Nat.ne_of_gt l1.2.2.2.2.1 | with_reducible exact Nat.ne_of_lt l1.2.2.2.2.2.1 | with_reducible exact Nat.ne_of_gt l1.2.2.2.2.2.1 | with_reducible exact Nat.ne_of_lt l1.2.2.2.2.2.2 | with_reducible exact Nat.ne_of_gt l1.2.2.2.2.2.2 | omega
    case i3 => first | with_reducible exact Nat.ne_of_lt l1.1 | with_reducible exact Nat.ne_of_gt l1.1 | with_reducible exact Nat.ne_of_lt l1.2.1 | with_reducible exact Nat.ne_of_gt l1.2.1 | with_reducible exact Nat.ne_of_lt l1.2.2.1 | with_reducible exact Nat.ne_of_gt l1.2.2.1 | with_reducible exact Nat.ne_of_lt l1.2.2.2.1 | with_reducible exact Nat.ne_of_gt l1.2.2.2.1 | with_reducible exact Nat.ne_of_lt l1.2.2.2.2.1 | with_reducible exact Nat.ne_of_gt l1.2.2.2.2.1 | with_reducible exact Nat.ne_of_lt l1.2.2.2.2.2.1 | with_reducible exact Nat.ne_of_gt l1.2.2.2.2.2.1 | with_reducible exact Nat.ne_of_lt l1.2.2.2.2.2.2 | with_reducible exact Nat.ne_of_gt l1.2.2.2.2.2.2 | omega
    case i4 => first | with_reducible exact Nat.ne_of_lt l1.1 | with_reducible exact Nat.ne_of_gt l1.1 | with_reducible exact Nat.ne_of_lt l1.2.1 | with_reducible exact Nat.ne_of_gt l1.2.1 | with_reducible exact Nat.ne_of_lt l1.2.2.1 | with_reducible exact Nat.ne_of_gt l1.2.2.1 | with_reducible exact Nat.ne_of_lt l1.2.2.2.1 | with_reducible exact Nat.ne_of_gt l1.2.2.2.1 | with_reducible exact Nat.ne_of_lt l1.2.2.2.2.1 | with_reducible exact Nat.ne_of_gt l1.2.2.2.2.1 | with_reducible exact Nat.ne_of_lt l1.2.2.2.2.2.1 | with_reducible exact Nat.ne_of_gt l1.2.2.2.2.2.1 | with_reducible exact Nat.ne_of_lt l1.2.2.2.2.2.2 | with_reducible exact Nat.ne_of_gt l1.2.2.2.2.2.2 | omega
    case i5 => first | with_reducible exact Nat.ne_of_lt l1.1 | with_reducible exact Nat.ne_of_gt l1.1 | with_reducible exact Nat.ne_of_lt l1.2.1 | with_reducible exact Nat.ne_of_gt l1.2.1 | with_reducible exact Nat.ne_of_lt l1.2.2.1 | with_reducible exact Nat.ne_of_gt l1.2.2.1 | with_reducible exact Nat.ne_of_lt l1.2.2.2.1 | with_reducible exact Nat.ne_of_gt l1.2.2.2.1 | with_reducible exact Nat.ne_of_lt l1.2.2.2.2.1 | with_reducible exact Nat.ne_of_gt l1.2.2.2.2.1 | with_reducible exact Nat.ne_of_lt l1.2.2.2.2.2.1 | with_reducible exact Nat.ne_of_gt l1.2.2.2.2.2.1 | with_reducible exact Nat.ne_of_lt l1.2.2.2.2.2.2 | with_reducible exact Nat.ne_of_gt l1.2.2.2.2.2.2 | omega
    case i6 => first | with_reducible exact Nat.ne_of_lt l1.1 | with_reducible exact Nat.ne_of_gt l1.1 | with_reducible exact Nat.ne_of_lt l1.2.1 | with_reducible exact Nat.ne_of_gt l1.2.1 | with_reducible exact Nat.ne_of_lt l1.2.2.1 | with_reducible exact Nat.ne_of_gt l1.2.2.1 | with_reducible exact Nat.ne_of_lt l1.2.2.2.1 | with_reducible exact Nat.ne_of_gt l1.2.2.2.1 | with_reducible exact Nat.ne_of_lt l1.2.2.2.2.1 | with_reducible exact Nat.ne_of_gt l1.2.2.2.2.1 | with_reducible exact Nat.ne_of_lt l1.2.2.2.2.2.1 | with_reducible exact Nat.ne_of_gt l1.2.2.2.2.2.1 | with_reducible exact Nat.ne_of_lt l1.2.2.2.2.2.2 | with_reducible exact Nat.ne_of_gt l1.2.2.2.2.2.2 | omega
    case len => rw [List.length_nil]; omega
    case m1 => rfl
    case m2 => rfl
    case m3 => rfl
    case m4 => rfl
    case hs =>
      intro q hq
      simp only [six6, List.cons_append, List.nil_append, List.mem_cons] at hq ⊢
      rcases hq with hq | hq | hq | hq | hq | hq | hq
      · exact .inr (.inl hq)
      · exact .inr (.inr (.inl hq))
      · exact .inr (.inr (.inr (.inl hq)))
      · exact .inr (.inr (.inr (.inr (.inl hq))))
      · exact .inr (.inr (.inr (.inr (.inr (.inl hq)))))
      · exact .inl hq
      · exact .inr (.inr (.inr (.inr (.inr (.inr hq)))))
    case K2 =>
      intro h2 tk2 m2' as2 nA2 F3 N3 a2 r2 f1 f2 f3 f4
      show wpAny _ _ (execs [] _) _ _ _
      refine wpAny_execs_nil ?_
      rw [List.nil_append] at a2
      subst hrA
      exact K h2 tk2 m2' as2 _ nA2 _ _ rB F3 N3 r2 hrk2 (fun q hq => (RNe.of_lts kL1 (by k_extra "Tail") : RNe (rB ++ kp) A2).ne q (List.mem_append_right _ hq)) (by assumption) a2 f1 f2 f3 f4

end

section
open PyProof.Rows.LCg
section
variable {prog : Program} {w : World} {A : Around} {E : Value → Shared → Prop} {s : Shared} {h₀ : Heap} {env : Env} {body : List Stmt} {Q : Flow → Shared → Prop}
theorem iter_rangeTurns {x : Str} {px : Pos} {r : Addr} {a b : Int} {t u v : Tok} {n : Nat} {m₀ : Str → Option Value} {news : List (Addr × Obj)}
    (hh : A.handled = none) (hr : IsRange s.heap r a b 1 t u v) (hsm : Builtin.Range.small a b 1 = true) (hn : Builtin.Range.rangeSize a b 1 = (n : Int)) (F : Fr h₀ env.locals s.heap m₀) (N : News h₀ env.locals s.heap news)
    (rest₀ : ∀ I : Addr, (∀ p ∈ news, p.1 < I) → ItemsRest prog w A E h₀ env (.Name x px) body Q s [(I, "range_iterator")] [] ((List.range n).map fun i : Nat => Itm.tok fun t => Value.int (a + (i : Int)) t) m₀ news) :
    wpAny (model prog w) A (pyIter (.ref r)) (fun it s₂ => TurnsAt prog w A h₀ env (.Name x px) body Q E it s₂) E s := by
  refine wpAny_pyIter_range hr hsm ?_
  have W : Walks prog w A s.heap.objs.size [s.heap.objs.size] [s.heap.objs.size] n (fun i v => i < n ∧ ∃ t, v = .int (a + i * 1) t) (fun i h => IsRangeIter h s.heap.objs.size (a + (i : Nat) * 1) ((n : Int) - (i : Nat)) 1) := (Walks.range hh _ a 1 n).bound
  refine ktu_core (tk0 := s.toks) (keep := []) (KTurns.ofWalks W fun i v s Q E st q => wpAny_pure q) (by simp) (fun i v h hp => ?_) (fun i h st => ?_) (fun b hb => ?_) (fun b hb => by simpa using hb) (fun b hb => ?_) ?_ (fun p hp hI => ?_) ?_ (F.push _) (fun p hp => ⟨Heap.get?_push_of_some _ (N p hp).1, (N p hp).2⟩) trivial (rest₀ _ fun p hp => Heap.lt_size (N p hp).1)
  · obtain ⟨hi, t, rfl⟩ := hp
    refine ⟨Itm.tok fun t => Value.int (a + (i : Int)) t, by rw [List.getElem?_map, List.getElem?_range hi]; rfl, ?_⟩
    exact ⟨t, by rw [Int.mul_one]⟩
  · exact ⟨[(s.heap.objs.size, _)], ⟨⟨rfl, rfl⟩, trivial⟩, fun p hp => by rw [List.mem_singleton.mp hp]; exact st⟩
  · have hb' : b = s.heap.objs.size := by simpa using hb
    rw [hb']
    exact ⟨List.mem_cons_self .., next_is_new F⟩
  · have hb' : b = s.heap.objs.size := by simpa using hb
    exact .inl (by simp [hb'])
  · intro hI
    exact absurd F.ns.lt ((List.mem_singleton.mp hI) ▸ Nat.lt_irrefl _)
  · exact absurd (Heap.lt_size (N p hp).1) ((List.mem_singleton.mp hI) ▸ Nat.lt_irrefl _)
  · show IsRangeIter _ _ _ _ _
    rw [hn]
    simpa using Heap.get?_push_size _ rfl
end

structure OrdIn (w : World) (sx nx W : Nat → Str) (tail last : Str) (mids : Nat → List Str) (kvs : List (Str × Value)) : Prop where
  pk : ∀ k, 1 ≤ k → k < 6 → PickIn w nx W tail k (mids k) last
  hW : ∀ k, k < 6 → ∃ t, valueAt kvs (sx k) = some (.str (W k) t)
  hl : ∀ l : List Nat, (∀ x ∈ l, x < 6) → l.getLast? = some 0 → l.length ≤ 50 → GoodL nx tail last l
def ordsAt (nx : Nat → Str) (tail last : Str) (mids : Nat → List Str) : Nat → List (List Nat)
  | 0 => [[0]]
  | k + 1 => ((ordsAt nx tail last mids k).flatMap (insAll (k + 1))).filter (pick nx tail (mids (k + 1)) last)
theorem ins_ok {k n : Nat} (hk : k < 6) {ls : List (List Nat)} (h : ∀ l ∈ ls, l.length = n ∧ (∀ x ∈ l, x < 6) ∧ l.getLast? = some 0) : ∀ l ∈ ls.flatMap (insAll k), l.length = n + 1 ∧ (∀ x ∈ l, x < 6) ∧ l.getLast? = some 0 := by
  intro l hl
  rw [List.mem_flatMap] at hl
  obtain ⟨l0, hl0, hm⟩ := hl
  obtain ⟨e1, e2, e3⟩ := h l0 hl0
  rw [insAll, List.mem_map] at hm
  obtain ⟨j, hj, rfl⟩ := hm
  rw [List.mem_range] at hj
  refine ⟨?_, ?_, ?_⟩
  · show ((l0.take j ++ [k]) ++ l0.drop j).length = n + 1
    rw [List.length_append, List.length_append, List.length_take, List.length_drop, e1, Nat.add_assoc, Nat.add_comm [k].length]
    exact insLen (e1 ▸ hj)
  · intro x hx
    simp only [ins1, List.mem_append, List.mem_singleton] at hx
    rcases hx with (hx | hx) | hx
    · exact e2 x (List.mem_of_mem_take hx)
    · exact hx ▸ hk
    · exact e2 x (List.mem_of_mem_drop hx)
  · rw [ins1, List.getLast?_append, List.getLast?_drop]
    rw [if_neg (Nat.not_le_of_lt hj), e3]
    rfl
theorem ordsAt_ok (nx : Nat → Str) (tail last : Str) (mids : Nat → List Str) : ∀ k, k < 6 → (∀ l ∈ ordsAt nx tail last mids k, l.length = k + 1 ∧ (∀ x ∈ l, x < 6) ∧ l.getLast? = some 0) ∧ (ordsAt nx tail last mids k).length ≤ 6 ^ k
  | 0, _ => ⟨fun l hl => by rw [ordsAt, List.mem_singleton] at hl; subst hl; exact ⟨rfl, fun x hx => by rw [List.mem_singleton.mp hx]; decide, rfl⟩, Nat.le_refl _⟩
  | k + 1, hk => by
    obtain ⟨h1, h2⟩ := ordsAt_ok nx tail last mids k (Nat.lt_of_succ_lt hk)
    refine ⟨fun l hl => ins_ok hk h1 l (List.mem_filter.mp hl).1, ?_⟩
    rw [ordsAt, Nat.pow_succ, Nat.mul_comm]
    exact Nat.le_trans (List.length_filter_le _ _) (Nat.le_trans (flatIns 6 (k + 1) _ fun l hl => (h1 l hl).1 ▸ Nat.le_of_lt hk) (Nat.mul_le_mul_left 6 h2))

end

section
open PyProof.Rows.LCg
theorem news_neC {h₀ h : Heap} {L : Addr} {l : List (Addr × Obj)} (N : News h₀ L h l) {q r : Addr × Obj} (hq : q ∈ l) (hr : r ∈ l) (hd : q.2.cls ≠ r.2.cls) : q.1 ≠ r.1 := fun e => by
  have h1 := (N q hq).1
  have h2 := (N r hr).1
  rw [e, h2] at h1
  exact hd (congrArg Obj.cls (Option.some.inj h1)).symm
theorem ordLoop (w : World) (mg mb : Str → Option Value)
   (p : Program) (loose : List Str) (mean : ExcName → Option Value) (dp un : Nat) (gd : Option (List Code)) (a : Addr) (ccd : Value) (cl : List (Str × Addr)) (outer : List Env) (A₀ : Around) (base h₀ : Heap) (L : Addr) (s : Shared) (Q : Flow → Shared → Prop) (E : Value → Shared → Prop)
   (B : Below A₀ base outer h₀) (X : (hd.heap_39 w.params).In h₀) (T : Top p loose mean mg mb h₀)
   (nl sl wd I : Addr) (onc wob : Obj) (sx nx W : Nat → Str) (su nv : Nat → Tok) (z1 z2 : Nat) (tt : Tok) (tail : Str) (kvs : List (Str × Value)) (mids : Nat → List Str) (last : Str) (pos : Pos)
   (hok : onc.data = .cell (some (.ref nl))) (O : OrdIn w sx nx W tail last mids kvs) (hd0 : wob.IsDictOf (strKind pg w) kvs)
   (i1 : @Ne Nat (L + 1) I) (i2 : @Ne Nat (L + 1 + 1) I) (i3 : @Ne Nat sl I) (i4 : @Ne Nat nl I) (i5 : @Ne Nat wd I)
   (hdp : dp + 6 < recursionLimit) (hun : un + 60 < cLine) (HG : CodeHd base 99 95)
   (hE : PassesOwn (model pg w) (ktrTop dp un gd "_law_orders" (scopeAt w 126) L a ccd cl outer) (envOfC "_law_orders" (scopeAt w 126) L 126 (.ref 125)) E)
   (K : ∀ (h' : Heap) (tk' : Nat) (m' : Str → Option Value) (os : List Ord) (oA : Addr) (nA : Nat) (okc : Obj) (r1 : List (Addr × Obj)), Fr h₀ L h' m' → News h₀ L h' (six6 L sl nl wd oA onc okc wob sx nx su nv z1 z2 (refsOf os) nA ++ r1) → (∀ o ∈ os, o.led ∈ r1) → OrdsAre os (ordsAt nx tail last mids 5) → m' "orders" = some (.ref oA) → Q .next { s with heap := h', toks := tk' }) :
   ∀ d i m os oA nA okc v0 r1, i + d = 5 → OrdsAre os (ordsAt nx tail last mids i) → (∀ o ∈ os, o.led ∈ r1) → (∀ q ∈ r1, q.2.cls = .type "list" ∧ ∃ xs n, q.2.data = .seq xs n) → okc.data = .cell v0 → @Ne Nat oA I →
     m "signs" = some (.ref sl) → m "wants" = some (.ref wd) → m "tail" = some (.str tail tt) → m "orders" = some (.ref oA) →
     ItemsRest pg w (ktrTop dp un gd "_law_orders" (scopeAt w 126) L a ccd cl outer) E h₀ (envOfC "_law_orders" (scopeAt w 126) L 126 (.ref 125)) (.Name "k" pos) (forBody (stmtsAt w 126)) Q s [(I, "range_iterator")] [] ((List.range' i d).map fun i : Nat => Itm.tok fun t => Value.int (1 + (i : Int)) t) m
       (six6 L sl nl wd oA onc okc wob sx nx su nv z1 z2 (refsOf os) nA ++ r1) := by
  intro d
  induction d with
  | zero =>
    intro i m os oA nA okc v0 r1 hi hos hr hk hkc hA m1 m2 m3 m4
    obtain rfl : i = 5 := by omega
    exact ItemsRest.zero fun h tk F N => K h tk m os oA nA okc r1 F N hr hos m4
  | succ d ih =>
    intro i m os oA nA okc v0 r1 hi hos hr hk hkc hA m1 m2 m3 m4
    rw [List.range'_succ, List.map_cons]
    refine ItemsRest.tok fun t h tk F o ho N => ?_
    have hv : (1 + (i : Int)) = ((i + 1 : Nat) : Int) := by omega
    show wpAny _ _ (assign _ _ (.int (1 + (i : Int)) t)) _ _ _
    rw [hv]
    obtain ⟨tW, hW⟩ := O.hW (i + 1) (by omega)
    obtain ⟨ok1, ok2⟩ := ordsAt_ok nx tail last mids i (by omega)
    have h6 : 6 ^ i ≤ 6 ^ 5 := Nat.pow_le_pow_right (by decide) (by omega)
    have h65 : (6 : Nat) ^ 5 = 7776 := by decide
    have hmem : (L + 1 + 1, okc) ∈ [(I, o)] ++ (six6 L sl nl wd oA onc okc wob sx nx su nv z1 z2 (refsOf os) nA ++ r1) := List.mem_append_right _ (List.mem_append_left _ (by simp [six6]))
    refine ordTurn w mg mb p loose mean dp un gd a ccd cl outer A₀ base h₀ L m _ _ _ B X T nl sl wd oA onc okc wob sx nx W su nv z1 z2 nA (i + 1) t tW tt tail kvs ((I, o) :: r1) (mids (i + 1)) last os (ordsAt nx tail last mids i) v0 pos F (Newss.sub N fun q hq => ?_) (fun x hx => List.mem_cons_of_mem _ (hr x hx)) ⟨fun q hq => ?_⟩ [(I, o)] (fun q hq => by rw [List.mem_singleton.mp hq]; exact List.mem_cons_self) hok hkc (by omega) (O.pk (i + 1) (by omega) (by omega)) hd0 hW hos
      (fun l hl => by rw [(ok1 l hl).1]; omega) (by omega) (fun l hl => ?_) m1 m2 m3 m4 hdp hun HG hE ?_
    · rcases List.mem_append.mp hq with hq | hq
      · exact List.mem_append_right _ (List.mem_append_left _ hq)
      · rcases List.mem_cons.mp hq with hq | hq
        · exact List.mem_append_left _ (by rw [hq]; exact List.mem_cons_self)
        · exact List.mem_append_right _ (List.mem_append_right _ hq)
    · rcases List.mem_cons.mp hq with rfl | hq
      · exact Ne.symm i2
      · refine news_ne N (List.mem_append_right _ (List.mem_append_right _ hq)) hmem ?_
        obtain ⟨_, xs, n, e⟩ := hk q hq
        dsimp only
        rw [hkc, e]
        exact fun e => nomatch e
    · obtain ⟨g1, g2, g3⟩ := ins_ok (k := i + 1) (by omega) ok1 l hl
      exact O.hl l g2 g3 (by omega)
    · intro h' tk' m' as' A' nA' okc' v' r1' F' N' q1 q2 q3 q4 q5 f1 f2 f3 f4
      have hlast : ∀ o' ∈ as', o'.led ∈ r1' := fun o' ho' => by
        rcases List.mem_append.mp (q1 o' ho') with hq | hq
        · exact hq
        · have e1 := List.mem_singleton.mp hq
          have e2 : o'.led.2.cls = o.cls := by rw [e1]
          rw [ho] at e2
          exact absurd (Value.type.inj e2) (by decide : ¬ ("list" = "range_iterator"))
      refine ⟨h', tk', m', six6 L sl nl wd A' onc okc' wob sx nx su nv z1 z2 (refsOf as') nA' ++ r1', rfl, F', Newss.sub N' fun q hq => ?_, fun q hq r hr' => ?_, trivial, ih (i + 1) m' as' A' nA' okc' v' r1' (by omega) q5 hlast q2 q4 (Ne.symm (q3 (I, o) List.mem_cons_self)) f1 f2 f3 f4⟩
      · rcases List.mem_append.mp hq with hq | hq
        · exact List.mem_append_right _ (List.mem_append_right _ hq)
        · rcases List.mem_append.mp hq with hq | hq
          · exact List.mem_append_left _ hq
          · exact List.mem_append_right _ (List.mem_append_left _ hq)
      · obtain rfl := List.mem_singleton.mp hr'
        rcases List.mem_append.mp hq with hq | hq
        · simp only [six6, List.mem_cons, List.not_mem_nil, or_false] at hq
          rcases hq with rfl | rfl | rfl | rfl | rfl | rfl
          · exact i1
          · exact i2
          · exact i3
          · exact i4
          · exact i5
          · exact Ne.symm (q3 (I, o) List.mem_cons_self)
        · refine news_neC N' (List.mem_append_right _ (List.mem_append_left _ hq)) (List.mem_append_right _ (List.mem_append_right _ List.mem_cons_self)) ?_
          rw [(q2 q hq).1]
          dsimp only
          rw [ho]
          exact fun e => absurd (Value.type.inj e) (by decide : ¬ ("list" = "range_iterator"))

end

section
open PyProof.Rows.LCg
theorem su99ordc_1 : True := by
  w_top off
  (k_with "e177" => skip)
  (k_with "e176" => skip)
  (k_with "e178" => skip)
  (k_with "exec For Name Call cons nil" => ((fail_if_success k_extra "e179"); ((k_here; k_dflt (refine' For_turns ?Fz122 ?_; (case Fz122 => k_asm))))))
  (k_with "pyIter ref" => ((fail_if_success k_extra "e180"); ((k_here; refine Hold.out ?_))))
  trivial
theorem ItemsRest.sub {prog : Program} {w : World} {A : Around} {E : Value → Shared → Prop} {h₀ : Heap} {env : Env} {target : Expr} {body : List Stmt} {Q : Flow → Shared → Prop} {s : Shared} {I : Addr} {nm : String} {n1 n2 : List (Addr × Obj)} (hs : ∀ q ∈ n1, q ∈ n2) :
    ∀ xs m, ItemsRest prog w A E h₀ env target body Q s [(I, nm)] [] xs m n1 → ItemsRest prog w A E h₀ env target body Q s [(I, nm)] [] xs m n2
  | [], _, r => fun h tk F N => r h tk F (Newss.sub N hs)
  | _ :: _, _, r => fun v h tk hv F o ho N => r v h tk hv F o ho (Newss.sub N fun q hq => by
      rcases List.mem_append.mp hq with hq | hq
      · exact List.mem_append_left _ hq
      · exact List.mem_append_right _ (hs q hq))
def nA1 {h₀ h : Heap} {L a b c d : Addr} {x y z v : Obj} {r : List (Addr × Obj)} (_ : News h₀ L h ((a, x) :: (b, y) :: (c, z) :: (d, v) :: r)) : Addr := a
def nA2 {h₀ h : Heap} {L a b c d : Addr} {x y z v : Obj} {r : List (Addr × Obj)} (_ : News h₀ L h ((a, x) :: (b, y) :: (c, z) :: (d, v) :: r)) : Addr := b
def nO3 {h₀ h : Heap} {L a b c d : Addr} {x y z v : Obj} {r : List (Addr × Obj)} (_ : News h₀ L h ((a, x) :: (b, y) :: (c, z) :: (d, v) :: r)) : Obj := z
def nO4 {h₀ h : Heap} {L a b c d : Addr} {x y z v : Obj} {r : List (Addr × Obj)} (_ : News h₀ L h ((a, x) :: (b, y) :: (c, z) :: (d, v) :: r)) : Obj := v
def nT {h₀ h : Heap} {L a b : Addr} {x : Obj} {t : Tok} {r : List (Addr × Obj)} (_ : News h₀ L h ((a, x) :: (b, listOf #[.int 0 t] 0) :: r)) : Tok := t
theorem orders_c (w : World) (mg mb : Str → Option Value) (sl nl wd : Addr) (sx nx W : Nat → Str) (su nv : Nat → Tok) (z1 z2 : Nat) (wob : Obj) (kvs : List (Str × Value)) (tail last : Str) (tt : Tok) (mids : Nat → List Str) (hd0 : wob.IsDictOf (strKind pg w) kvs) (O : OrdIn w sx nx W tail last mids kvs) :
   HC w mg mb (.ref 126) [.ref sl, .ref nl, .ref wd, .str tail tt] [] 10 100 [(sl, listOf (sixL sx su).toArray z1), (nl, listOf (sixL nx nv).toArray z2), (wd, wob)] (fun h => CodeHd h 99 95)
     (fun _ v news' => ∃ (os : List Ord) (oA : Addr) (nA : Nat), v = .ref oA ∧ OrdsAre os (ordsAt nx tail last mids 5) ∧ news' = [(oA, listOf (refsOf os).toArray nA), (sl, listOf (sixL sx su).toArray z1), (nl, listOf (sixL nx nv).toArray z2), (wd, wob)] ++ os.map Ord.led) := by
  intro p loose mean dp un gd cn cs a ccd cl outer A₀ base h₀ L m s Q E B F X N T hk HG hdp hun hret
  have HG : CodeHd base 99 95 := HG
  refine wpAny_call ?_
  k_dflt (k_extra "MyEnterC")
  k_steps
  refine ⟨?_⟩
  (with_reducible rename IsRange _ _ _ _ _ _ _ _ => kR)
  (with_reducible rename News _ _ _ _ => kN0)
  refine' iter_rangeTurns (n := 5) (by rfl) kR (by decide +kernel) (by decide +kernel) (by k_asm) kN0 ?_
  intro I' l1
  have kL2 := Lts.mk l1
  replace l1 := allLt_of l1
  simp only [AllLt, and_true] at l1
  obtain ⟨A1, hA1⟩ : ∃ x : Addr, x = nA1 kN0 := ⟨_, rfl⟩
  obtain ⟨A2, hA2⟩ : ∃ x : Addr, x = nA2 kN0 := ⟨_, rfl⟩
  obtain ⟨t5, ht5⟩ : ∃ x : Tok, x = nT kN0 := ⟨_, rfl⟩
  unfold nT at ht5
  subst ht5
  obtain ⟨o3, ho3⟩ : ∃ x : Obj, x = nO3 kN0 := ⟨_, rfl⟩
  obtain ⟨o4, ho4⟩ : ∃ x : Obj, x = nO4 kN0 := ⟨_, rfl⟩
  unfold nA1 at hA1
  unfold nA2 at hA2
  unfold nO3 at ho3
  unfold nO4 at ho4
  subst hA1
  subst hA2
  subst ho3
  subst ho4
  refine' Mine.ItemsRest.sub ?hs _ _ (ordLoop w mg mb p loose mean _ _ _ _ _ _ _ _ base _ _ _ _ _ ?B ?X ?T nl sl wd I' o4 wob sx nx W su nv z1 z2 tt tail kvs mids last _ ?ok O hd0 ?i1 ?i2 ?i3 ?i4 ?i5 ?e1 ?e2 HG ?hE ?K 5 0 _ [⟨A2, [.int 0 t5], 0⟩] A1 0 o3 _ [(A2, listOf #[.int 0 t5] 0)] rfl ?os ?led ?kd ?kc ?i6 ?m1 ?m2 ?m3 ?m4)
  case B => assumption
  case X => k_asm
  case T => k_asm
  case ok => assumption
  case kc => assumption
  case i1 => first | with_reducible exact Nat.ne_of_lt l1.1 | with_reducible exact Nat.ne_of_gt l1.1 | with_reducible exact Nat.ne_of_lt l1.2.1 | with_reducible exact Nat.ne_of_gt l1.2.1 | with_reducible exact Nat.ne_of_lt l1.2.2.1 | with_reducible exact Nat.ne_of_gt l1.2.2.1 | with_reducible exact Nat.ne_of_lt l1.2.2.2.1 | with_reducible exact Nat.ne_of_gt l1.2.2.2.1 | with_reducible exact Nat.ne_of_lt l1.2.2.2.2.1 | with_reducible exact Nat.ne_of_gt l1.2.2.2.2.1 | with_reducible exact Nat.ne_of_lt l1.2.2.2.2.2.1 | with_reducible exact Nat.ne_of_gt l1.2.2.2.2.2.1 | with_reducible exact Nat.ne_of_lt l1.2.2.2.2.2.2 | with_reducible exact Nat.ne_of_gt l1.2.2.2.2.2.2 | omega
  case i2 => first | with_reducible exact Nat.ne_of_lt l1.1 | with_reducible exact Nat.ne_of_gt l1.1 | with_reducible exact Nat.ne_of_lt l1.2.1 | with_reducible exact Nat.ne_of_gt l1.2.1 | with_reducible exact Nat.ne_of_lt l1.2.2.1 | with_reducible exact Nat.ne_of_gt l1.2.2.1 | with_reducible exact Nat.ne_of_lt l1.2.2.2.1 | with_reducible exact Nat.ne_of_gt l1.2.2.2.1 | with_reducible exact Nat.ne_of_lt l1.2.2.2.2.1 | with_reducible exact Nat.ne_of_gt l1.2.2.2.2.1 | with_reducible exact Nat.ne_of_lt l1.2.2.2.2.2.1 | with_reducible exact Nat.ne_of_gt l1.2.2.2.2.2.1 | with_reducible exact Nat.ne_of_lt l1.2.2.2.2.2.2 | with_reducible exact Nat.ne_of_gt l1.2.2.2.2.2.2 | omega
  case i3 => first | with_reducible exact Nat.ne_of_lt l1.1 | with_reducible exact Nat.ne_of_gt l1.1 | with_reducible exact Nat.ne_of_lt l1.2.1 | with_reducible exact Nat.ne_of_gt l1.2.1 | with_reducible exact Nat.ne_of_lt l1.2.2.1 | with_reducible exact Nat.ne_of_gt l1.2.2.1 | with_reducible exact Nat.ne_of_lt l1.2.2.2.1 | with_reducible exact Nat.ne_of_gt l1.2.2.2.1 | with_reducible exact Nat.ne_of_lt l1.2.2.2.2.1 | with_reducible exact Nat.ne_of_gt l1.2.2.2.2.1 | with_reducible exact Nat.ne_of_lt l1.2.2.2.2.2.1 | with_reducible exact Nat.ne_of_gt l1.2.2.2.2.2.1 | with_reducible exact Nat.ne_of_lt l1.2.2.2.2.2.2 | with_reducible exact Nat.ne_of_gt l1.2.2.2.2.2.2 | omega
  case i4 => first | with_reducible exact Nat.ne_of_lt l1.1 | with_reducible exact Nat.ne_of_gt l1.1 | with_reducible exact Nat.ne_of_lt l1.2.1 | with_reducible exact Nat.ne_of_gt l1.2.1 | with_reducible exact Nat.ne_of_lt l1.2.2.1 | with_reducible exact Nat.ne_of_gt l1.2.2.1 | with_reducible exact Nat.ne_of_lt l1.2.2.2.1 | with_reducible exact Nat.ne_of_gt l1.2.2.2.1 | with_reducible exact Nat.ne_of_lt l1.2.2.2.2.1 | with_reducible exact Nat.ne_of_gt l1.2.2.2.2.1 | with_reducible exact Nat.ne_of_lt l1.2.2.2.2.2.1 | with_reducible exact Nat.ne_of_gt l1.2.2.2.2.2.1 | with_reducible exact Nat.ne_of_lt l1.2.2.2.2.2.2 | with_reducible exact Nat.ne_of_gt l1.2.2.2.2.2.2 | omega
  case i5 => first | with_reducible exact Nat.ne_of_lt l1.1 | with_reducible exact Nat.ne_of_gt l1.1 | with_reducible exact Nat.ne_of_lt l1.2.1 | with_reducible exact Nat.ne_of_gt l1.2.1 | with_reducible exact Nat.ne_of_lt l1.2.2.1 | with_reducible exact Nat.ne_of_gt l1.2.2.1 | with_reducible exact Nat.ne_of_lt l1.2.2.2.1 | with_reducible exact Nat.ne_of_gt l1.2.2.2.1 | with_reducible exact Nat.ne_of_lt l1.2.2.2.2.1 | with_reducible exact Nat.ne_of_gt l1.2.2.2.2.1 | with_reducible exact Nat.ne_of_lt l1.2.2.2.2.2.1 | with_reducible exact Nat.ne_of_gt l1.2.2.2.2.2.1 | with_reducible exact Nat.ne_of_lt l1.2.2.2.2.2.2 | with_reducible exact Nat.ne_of_gt l1.2.2.2.2.2.2 | omega
  case i6 => first | with_reducible exact Nat.ne_of_lt l1.1 | with_reducible exact Nat.ne_of_gt l1.1 | with_reducible exact Nat.ne_of_lt l1.2.1 | with_reducible exact Nat.ne_of_gt l1.2.1 | with_reducible exact Nat.ne_of_lt l1.2.2.1 | with_reducible exact Nat.ne_of_gt l1.2.2.1 | with_reducible exact Nat.ne_of_lt l1.2.2.2.1 | with_reducible exact Nat.ne_of_gt l1.2.2.2.1 | with_reducible exact Nat.ne_of_lt l1.2.2.2.2.1 | with_reducible exact Nat.ne_of_gt l1.2.2.2.2.1 | with_reducible exact Nat.ne_of_lt l1.2.2.2.2.2.1 | with_reducible exact Nat.ne_of_gt l1.2.2.2.2.2.1 | with_reducible exact Nat.ne_of_lt l1.2.2.2.2.2.2 | with_reducible exact Nat.ne_of_gt l1.2.2.2.2.2.2 | omega
  case e1 => ktr_room
  case e2 => ktr_units
  case hE => passes_own
  case os => exact .cons (.cons 0 _ .nil) .nil
  case led => intro o ho; rw [List.mem_singleton.mp ho]; exact List.mem_singleton.mpr rfl
  case kd => intro q hq; rw [List.mem_singleton.mp hq]; exact ⟨rfl, _, _, rfl⟩
  case m1 => rfl
  case m2 => rfl
  case m3 => rfl
  case m4 => rfl
  case hs =>
    intro q hq
    simp only [six6, List.cons_append, List.nil_append, List.mem_cons, List.not_mem_nil, or_false] at hq ⊢
    rcases hq with hq | hq | hq | hq | hq | hq | hq
    · exact .inr (.inr (.inr (.inl hq)))
    · exact .inr (.inr (.inl hq))
    · exact .inr (.inr (.inr (.inr (.inl hq))))
    · exact .inr (.inr (.inr (.inr (.inr (.inl hq)))))
    · exact .inr (.inr (.inr (.inr (.inr (.inr hq)))))
    · exact .inl hq
    · exact .inr (.inl hq)
  case K =>
    intro h' tk' m' os oA nA okc r1 F2 N2 hr hos f4
    have F2 := Mine.Fr.pin F2 (x := "orders") f4
    replace N2 := Newss.sub N2 (l' := [(oA, listOf (refsOf os).toArray nA), (sl, listOf (sixL sx su).toArray z1), (nl, listOf (sixL nx nv).toArray z2), (wd, wob)] ++ os.map Ord.led) (fun q hq => by
      rcases List.mem_append.mp hq with hq | hq
      · refine List.mem_append_left _ ?_
        simp only [six6, List.mem_cons, List.not_mem_nil, or_false] at hq ⊢
        rcases hq with hq | hq | hq | hq
        · exact .inr (.inr (.inr (.inr (.inr hq))))
        · exact .inr (.inr (.inl hq))
        · exact .inr (.inr (.inr (.inl hq)))
        · exact .inr (.inr (.inr (.inr (.inl hq))))
      · obtain ⟨o, ho, rfl⟩ := List.mem_map.mp hq
        exact List.mem_append_right _ (hr o ho))
    dsimp only
    k_steps
    refine' hret _ _ _ _ ?kK (Newly.sub ?kN fun q hq => hq) ⟨os, oA, nA, rfl, hos, rfl⟩
    case kK => assumption
    case kN => assumption

end

section
open PyProof.Rows.LCg
section
variable {prog : Program} {w : World} {A : Around} {E : Value → Shared → Prop} {s : Shared} {h₀ : Heap} {L : Addr} {m : Str → Option Value} {env : Env}
theorem ListComp_S {elt iter : Expr} {x : Str} {px : Pos} {scope : Scope} {cl : List (Str × Addr)} {pos : Pos} {Q : Value → Shared → Prop} {news : List (Addr × Obj)} {tx : Str}
    (F₀ : Fr h₀ L s.heap m) (hh : A.handled = none)
    (hclos : closureFor scope env = pure cl) (hcell : ∀ y ∈ scope.names, y.2 ≠ .cell) (hkind : scope.kind = .function)
    (hnames : ∀ y ∈ scope.names, y.2 = .local → scope.names.lookup y.1 = some .local) (hx : scope.names.lookup x = some .local) (hw : tx.cps.all (· < 128) = false) (hz : tx.cps.size ≤ sizeLine)
    (h : wpAny (model prog w) A (eval iter env) (fun xv s₁ => ∃ t g tk, xv = .str tx t ∧ s₁ = { s with heap := g, toks := tk } ∧ Fr h₀ L g m ∧ News h₀ L g news) E s)
    (rest : ∀ g tk, CompRest prog w A h₀ L m env elt x scope cl { s with heap := g, toks := tk } (fun _ => True) (SignAt tx) (FinE h₀ L m { s with heap := g, toks := tk } Q) tx.cps.size 0 [] news)
    (hs : ∀ x, foldedSetIterable iter env x = pure x := by intro _; rfl) :
    wpAny (model prog w) A (eval (.ListComp elt [⟨.Name x px, iter, [], 0⟩] scope pos) env) Q E s := by
  rw [eval_ListComp]
  refine wpAny_comprehension_free (use := none) rfl hs hclos hkind hnames (wpAny_mono h (fun xv s₁ h₁ => ?_) fun _ _ e => e)
  obtain ⟨t, g, tk, rfl, rfl, F, N⟩ := h₁
  refine wpAny_pyIter_wide hw ?_
  have up : ∀ (o : Obj) b o', g.get? b = some o' → (g.push o).get? b = some o' := fun o b o' e => Heap.get?_push_of_some _ e
  refine block_U (S := fun _ => True) (St := fun i h => h.IsStrIter g.objs.size "str_iterator" tx t i) (Fin := FinE h₀ L m { s with heap := g.push { cls := .type "str_iterator", data := .fields #[.str tx t, .int 0 0] }, toks := tk } Q) (Walks.strWide hh g.objs.size tx t) hz (fun i h st => by obtain ⟨o, e, _⟩ := st; exact ⟨o, e⟩) (fun i h h' o nw st e e' _ _ _ => by obtain ⟨o', q, r⟩ := st; rw [e] at q; cases q; exact ⟨o, e', r⟩) hcell hkind hx ⟨_, Heap.get?_push_size _ rfl, rfl, rfl⟩ (fun b hb => ?_)
    (F.keeps (up _)) (N.grown (up _)) (Nat.ne_of_lt F.ns.lt) (next_is_new F) (fun p hp => Nat.ne_of_lt (Heap.lt_size (N p hp).1)) trivial ?_ ?_
  · rw [List.mem_singleton.mp hb]
    show g.objs.size < (g.push _).objs.size
    rw [Heap.size_push]; exact Nat.lt_succ_self _
  · exact rest _ tk
  · intro D C h' tk' m' ys news' F' N' o1 hn hC₀ hD₀ hCL hDL hCD offC fin
    refine ⟨m', hn, fun h'' hs'' => fin D h'' tk' (F'.change hs'' hCL hC₀) (fun p hp => ?_) o1⟩
    refine ⟨hs''.extBut _ _ ?_ (N' p hp).1, (N' p hp).2⟩
    rcases List.mem_cons.mp hp with rfl | hp
    · exact Ne.symm hCD
    · exact offC p hp
end

end

section
open PyProof.Rows.LCg
theorem sua2seg_1 : True := by
  w_top off
  (k_with "e174" => skip)
  (k_with "e180" => skip)
  (k_with "e173" => skip)
  (k_with "e179" => skip)
  (k_with "RNe" => ((fail_if_success k_extra "e181"); (first | assumption | (refine' RNe.of_ltl _ ?hz43 ?ez43; (case hz43 => with_reducible assumption); (case ez43 => k_extra "SEG")))))
  (k_with "ite" => ((fail_if_success k_extra "e182"); (first | with_reducible refine iteF ?_ | with_reducible refine iteT ?_)))
  trivial
def escF (k : Nat) : Addr := sel5 37 44 51 58 65 k
theorem esc_c (w : World) (mg mb : Str → Option Value) (x : Str) (t : Tok) (hx : x.length ≤ 10000) : ∀ k, k < 5 →
   HC w mg mb (.ref (escF k)) [.str x t] [] 2 20 [] (fun h => CodeHd h 99 95) (fun _ v news' => ∃ t', v = .str (escS (tabW k) x) t' ∧ news' = [])
  | 0, _ => by have := esc1_c w mg mb x t hx; rw [escS_nil] at this; exact this
  | 1, _ => by have := esc2_c w mg mb x t hx; rw [escS_nil] at this; exact this
  | 2, _ => by have := esc3_c w mg mb x t hx; rw [escS_nil] at this; exact this
  | 3, _ => by have := esc4_c w mg mb x t hx; rw [escS_nil] at this; exact this
  | 4, _ => by have := esc5_c w mg mb x t hx; rw [escS_nil] at this; exact this
  | n + 5, h => absurd h (by omega)
def lawB : List Stmt := bodyOf "law"
theorem pickF : ∀ k, k < 5 → ([Value.ref 37, .ref 44, .ref 51, .ref 58, .ref 65])[k]? = some (.ref (escF k))
  | 0, _ => rfl | 1, _ => rfl | 2, _ => rfl | 3, _ => rfl | 4, _ => rfl
  | n + 5, h => absurd h (by omega)
theorem chrS {prog : Program} {w : World} {A : Around} {E : Value → Shared → Prop} {s : Shared} {i : Int} {n : Nat} {t : Tok} {Q : Value → Shared → Prop} (hi : i = (n : Nat)) (hn : n < 55296) (h : ∀ t' tk, Q (.str ⟨#[n]⟩ t') { s with toks := tk }) :
    wpAny (model prog w) A (call (.builtin "chr") [.int i t]) Q E s := by
  subst hi
  exact chr_of_range (by omega) (by omega) (by simpa using h s.toks (s.toks + 1))

end

section
open PyProof.Rows.LCg
theorem sua3seg_1 : True := by
  w_top off
  trivial
def cel6 (L : Addr) (o1 o2 o3 o4 o5 o6 : Obj) : List (Addr × Obj) := [(L + 1, o1), (L + 1 + 1, o2), (L + 1 + 1 + 1, o3), (L + 1 + 1 + 1 + 1, o4), (L + 1 + 1 + 1 + 1 + 1, o5), (L + 1 + 1 + 1 + 1 + 1 + 1, o6)]
theorem sua3seg_2 : True := by
  (k_with "call ref" => ((fail_if_success k_extra "e183"); ((k_here; (with_reducible show wpAny _ _ (call (Value.ref 86) [_]) _ _ _); refine Hold.out ?_))))
  (k_with "call builtin:chr" => ((fail_if_success k_extra "e184"); ((k_here; k_dflt (refine' chrS ?hiz125 ?hnz125 ?_; (case hiz125 => assumption); (case hnz125 => assumption)); intro t' tk'))))
  (k_with "subscriptTail Name Constant ref int" => ((fail_if_success k_extra "e185"); ((k_here; k_dflt (refine' subAtI ?Nz83 ?mz83 ?az83 ?xz83 ?zz83 ?_; (case Nz83 => k_asm); (case mz83 => k_mem); (case az83 => decide); (case xz83 => assumption); (case zz83 => omega); k_whole)))))
  (k_with "subscriptTail List cons Name ref int" => ((fail_if_success k_extra "e186"); ((k_here; k_dflt (refine' subAtE ?Nz126 ?mz126 ?jz126 (pickF _ ?kz126) ?zz126 ?_; (case Nz126 => k_asm); (case mz126 => k_mem); (case jz126 => assumption); (case kz126 => assumption); (case zz126 => exact Nat.le_of_ble_eq_true rfl); k_whole)))))
  (k_with "binaryOp Add str str" => ((fail_if_success k_extra "e187"); ((k_here; (with_reducible show wpAny _ _ (binaryOp Operator.Add (Value.str _ _) (Value.str _ _)) _ _ _); k_dflt (refine' addS ?nhz127 ?niz127 ?_; (case nhz127 => decide +kernel); (case niz127 => exact Nat.le_of_ble_eq_true rfl)); intro t' tk'))))
  trivial
theorem seg1 (w : World) (mg mb : Str → Option Value) (fa : Addr) (cd : Value)
   (p : Program) (loose : List Str) (mean : ExcName → Option Value) (dp un : Nat) (gd : Option (List Code)) (a : Addr) (ccd : Value) (cl : List (Str × Addr)) (outer : List Env) (A₀ : Around) (base h₀ : Heap) (L : Addr) (m : Str → Option Value) (s : Shared) (Q : Flow → Shared → Prop) (E : Value → Shared → Prop)
   (B : Below A₀ base outer h₀) (X : (hd.heap_39 w.params).In h₀) (T : Top p loose mean mg mb h₀) (F : Fr h₀ L s.heap m)
   (o1 o2 o3 o4 o5 o6 t95 : Obj) (v1 v2 : Option Value) (sc : Addr) (vs : List Value) (ns : List Int) (hS : base.IsList sc vs.toArray) (hI : IntsAre vs ns) (hn : ns.length ≤ 63)
   (N : News h₀ L s.heap (cel6 L o1 o2 o3 o4 o5 o6 ++ [(95, t95)])) (h95 : @LT.lt Nat _ 95 L) (k1 : o1.data = .cell v1) (k2 : o2.data = .cell v2)
   (m1 : m "script" = some (.ref sc)) (hdp : dp + 40 < recursionLimit) (hun : un + 400 < cLine)
   (K : ∀ (h' : Heap) (tk' : Nat) (m' : Str → Option Value) (o1' o2' : Obj) (l : Addr) (vals : List Value) (cells : List Int) (kw c : Nat) (tw te : Tok), Fr h₀ L h' m' → News h₀ L h' (cel6 L o1' o2' o3 o4 o5 o6 ++ [(95, t95), (l, listOf vals.toArray 0)]) → CellsOk vals cells ns.length → kw < 5 → 256 ≤ c → c < 55296 →
      o1'.data = .cell (some (.int (kw : Nat) tw)) → o2'.data = .cell (some (.ref (escF kw))) → m' "cells" = some (.ref l) → m' "every" = some (.str (every7 ++ ⟨#[c]⟩) te) → @LT.lt Nat _ (L + 1 + 1 + 1 + 1 + 1 + 1) l →
      wpAny (model pg w) (ktrTop dp un gd "law" (scopeAt w 138) L a ccd cl outer) (execs (lawB.drop 5) (envOfC "law" (scopeAt w 138) L fa cd)) Q E { s with heap := h', toks := tk' }) :
   wpAny (model pg w) (ktrTop dp un gd "law" (scopeAt w 138) L a ccd cl outer) (execs lawB (envOfC "law" (scopeAt w 138) L fa cd)) Q E s := by
  have e1 : lawB = _ :: _ :: _ :: _ :: _ :: lawB.drop 5 := rfl
  have e2 : scopeAt w 138 = Scope.mk _ _ _ _ _ := rfl
  generalize hR : lawB.drop 5 = R at *
  rw [e1]
  rw [e2] at K ⊢
  have F := Mine.Fr.pin F (x := "script") m1
  simp only [cel6, List.cons_append, List.nil_append] at N
  k_steps
  refine ⟨?_⟩
  refine' HC.at (cells_c w mg mb sc ns vs hI hn) B ?F X ?N T ?sk ?G ?d ?u (List.forall_mem_nil _) ?s ?_
  case F => k_asm
  case N => k_asm
  case sk => exact rfl
  case G => exact hS
  case d => omega
  case u => omega
  case s => k_extra "Split2"
  intro v' news' h' tk' F' N' P' l1
  obtain ⟨l, vals, cells, rfl, rfl, C, hl⟩ := P'
  simp only [List.cons_append, List.nil_append] at N'
  k_lt l1
  have lv := IntsAre.length C.hints
  have lc := C.hlen
  obtain ⟨tc, hv0⟩ := IntsAre.get C.hints 0 _ (List.getElem?_eq_getElem (by rw [lc]; decide))
  have hb0 := C.hbnd _ (List.getElem_mem (by rw [lc]; decide : 0 < cells.length))
  generalize cells[0]'(by rw [lc]; decide) = c0 at hv0 hb0
  have hv0 : vals[Int.toNat 0]? = some (.int c0 tc) := hv0
  obtain ⟨kw, hkw, hkw5⟩ : ∃ kw : Nat, Int.fmod c0 5 = (kw : Nat) ∧ kw < 5 := ⟨(Int.fmod c0 5).toNat, by have := Int.fmod_nonneg_of_pos c0 (show (0 : Int) < 5 by decide); omega, by have := Int.fmod_lt_of_pos c0 (show (0 : Int) < 5 by decide); have := Int.fmod_nonneg_of_pos c0 (show (0 : Int) < 5 by decide); omega⟩
  obtain ⟨c, hc, hc1, hc2⟩ : ∃ c : Nat, 256 + Int.fmod (Int.fdiv c0 5) 55000 = (c : Nat) ∧ 256 ≤ c ∧ c < 55296 := ⟨(256 + Int.fmod (Int.fdiv c0 5) 55000).toNat, by have := Int.fmod_nonneg_of_pos (Int.fdiv c0 5) (show (0 : Int) < 55000 by decide); omega, by have := Int.fmod_nonneg_of_pos (Int.fdiv c0 5) (show (0 : Int) < 55000 by decide); omega, by have := Int.fmod_lt_of_pos (Int.fdiv c0 5) (show (0 : Int) < 55000 by decide); have := Int.fmod_nonneg_of_pos (Int.fdiv c0 5) (show (0 : Int) < 55000 by decide); omega⟩
  k_steps
  dsimp only
  refine' K _ _ _ _ _ l vals cells kw c _ _ ?F (Newss.sub (by k_asm) ?N) C hkw5 hc1 hc2 ?d1 ?d2 ?m1 ?m2 ?l
  case F => k_asm
  case N =>
    k_dflt (simp only [cel6, List.cons_append, List.nil_append])
    k_dflt (k_extra "MemAll2")
  case m1 => exact rfl
  case m2 => exact rfl
  case d1 => rw [← hkw]; assumption
  case d2 => assumption
  case l => omega

end

section
open PyProof.Rows.LCg
theorem sua4seg_1 : True := by
  w_top off
  (k_with "e183" => skip)
  (k_with "e185" => skip)
  (k_with "e187" => skip)
  (k_with "e186" => skip)
  (k_with "e184" => skip)
  trivial
def exS (e : Expr) : Expr × Scope := ((exC e).1, (exC e).2.2)
def spE1 : Expr × Scope := exS (exI (exI (stX lawB 5) 1) 0)
def spE2 : Expr × Scope := exS (exI (stX lawB 10) 1)
def spSc : Scope := spE1.2
theorem spSc2 : spE2.2 = spSc := rfl
theorem sua4seg_2 : True := by
  (k_with "call ref" => ((fail_if_success k_extra "e188"); ((k_here; (with_reducible show wpAny _ _ (call (Value.ref 93) [_, _]) _ _ _); refine Hold.out ?_))))
  (k_with "binaryOp Add str str" => ((fail_if_success k_extra "e189"); ((k_here; (with_reducible show wpAny _ _ (binaryOp Operator.Add (Value.str _ _) (Value.str _ _)) _ _ _); k_dflt (refine' addS ?nhz117 ?niz117 ?_; (case nhz117 => assumption); (case niz117 => assumption)); intro t' tk'))))
  trivial
theorem spellElt (w : World) (mg mb : Str → Option Value) (fa : Addr) (cd : Value)
   (p : Program) (loose : List Str) (mean : ExcName → Option Value) (dp un : Nat) (gd : Option (List Code)) (a : Addr) (ccd : Value) (cl : List (Str × Addr)) (outer : List Env) (A₀ : Around) (base h₀ : Heap) (L : Addr) (m : Str → Option Value) (s : Shared) (Q : Value → Shared → Prop) (E : Value → Shared → Prop)
   (B : Below A₀ base outer h₀) (X : (hd.heap_39 w.params).In h₀) (T : Top p loose mean mg mb h₀) (F : Fr h₀ L s.heap m) (HG : CodeHd base 99 95)
   (C cw : Addr) (oC o1 : Obj) (m₂ : Str → Option Value) (kw c : Nat) (tw t : Tok) (rest : List (Addr × Obj)) (cl2 : List (Str × Addr)) (hcl : cl2 = [(("which" : Str), cw)]) (p1 p2 p3 p4 : Pos)
   (N : News h₀ L s.heap ([(C, oC), (cw, o1)] ++ rest)) (hok : o1.data = .cell (some (.int (kw : Nat) tw))) (hkw : kw < 5)
   (hC : NsObj oC m₂) (e1 : m₂ "sign" = some (.str ⟨#[c]⟩ t)) (hdp : dp + 10 < recursionLimit) (hun : un + 100 < cLine)
   (K : ∀ (h' : Heap) (tk' : Nat) (t' : Tok), Fr h₀ L h' m → News h₀ L h' ([(C, oC), (cw, o1)] ++ rest) → Q (.str (spell kw c) t') { s with heap := h', toks := tk' }) :
   wpAny (model pg w) (ktrTop dp un gd "law" (scopeAt w 138) L a ccd cl outer) (eval (.Call (.Name "_law_spelled" p1) [.Name "sign" p2, .Name "which" p3] [] p4) (compEnvC spSc cl2 C (envOfC "law" (scopeAt w 138) L fa cd))) Q E s := by
  have q1 : spSc = Scope.mk _ _ _ _ _ := rfl
  have q2 : scopeAt w 138 = Scope.mk _ _ _ _ _ := rfl
  rw [q1, q2]
  subst hcl
  k_steps
  refine ⟨?_⟩
  refine' HC.use (rest := [(C, oC), (cw, o1)] ++ rest) (spell_c w mg mb kw c _ _ hkw) B ?F X ?N T ?sk HG (by omega) (by omega) (List.forall_mem_nil _) (fun q hq => hq) (fun q hq h => nomatch h) ?_
  case F => k_asm
  case N => k_asm
  case sk => exact rfl
  intro v' news' h' tk' F' N' P'
  obtain ⟨t', rfl, rfl⟩ := P'
  exact K h' tk' t' F' N'
theorem emptyS : (Str.ofString "") = ⟨#[]⟩ := by decide +kernel
theorem joinNil : ∀ xs : List Str, (Str.join "" xs).cps.toList = xs.flatMap (·.cps.toList)
  | [] => rfl
  | [x] => by simp [Str.join]
  | x :: y :: r => by
    have ih := joinNil (y :: r)
    show (x ++ (Str.ofString "") ++ Str.join "" (y :: r)).cps.toList = _
    rw [emptyS, Str.cps_append, Str.cps_append, Array.toList_append, Array.toList_append]
    rw [emptyS] at ih
    rw [ih]
    simp
theorem spell_join (kw : Nat) (l : List Nat) : Str.join "" (l.map (spell kw)) = escS (tabW kw) ⟨l.toArray⟩ := by
  apply StrLaws.mk_of_toList
  rw [joinNil, List.flatMap_map]
  show _ = l.flatMap (entL (tabW kw))
  congr 1
  funext a
  show ([a].flatMap (entL (tabW kw))) = _
  simp
theorem spellStr (w : World) (mg mb : Str → Option Value) (fa : Addr) (cd : Value)
   (p : Program) (loose : List Str) (mean : ExcName → Option Value) (dp un : Nat) (gd : Option (List Code)) (a : Addr) (ccd : Value) (cl : List (Str × Addr)) (outer : List Env) (A₀ : Around) (base h₀ : Heap) (L : Addr) (m : Str → Option Value) (s : Shared) (Q : Value → Shared → Prop) (E : Value → Shared → Prop)
   (B : Below A₀ base outer h₀) (X : (hd.heap_39 w.params).In h₀) (T : Top p loose mean mg mb h₀) (F : Fr h₀ L s.heap m) (HG : CodeHd base 99 95)
   (o1 : Obj) (kw : Nat) (tw te : Tok) (news : List (Addr × Obj)) (ev : Str) (p1 p2 p3 p4 p5 p6 p7 p8 p9 : Pos)
   (N : News h₀ L s.heap news) (hb : (L + 1, o1) ∈ news) (hok : o1.data = .cell (some (.int (kw : Nat) tw))) (hkw : kw < 5) (hm : m "every" = some (.str ev te)) (hev : ev.length ≤ 1000) (hwide : (ev ++ ev).cps.all (· < 128) = false)
   (hdp : dp + 10 < recursionLimit) (hun : un + 100 < cLine)
   (K : ∀ (D : Addr) (ys : List Value) (h' : Heap) (tk' : Nat), StrsAre ys ((ev ++ ev).cps.toList.map (spell kw)) → Fr h₀ L h' m → News h₀ L h' ((D, listOf ys.toArray ys.length) :: news) → (∀ q ∈ news, q.1 ≠ D) → Q (.ref D) { s with heap := h', toks := tk' }) :
   wpAny (model pg w) (ktrTop dp un gd "law" (scopeAt w 138) L a ccd cl outer) (eval (.ListComp (.Call (.Name "_law_spelled" p1) [.Name "sign" p2, .Name "which" p3] [] p4) [⟨.Name "sign" p5, .BinOp (.Name "every" p6) .Add (.Name "every" p7) p8, [], 0⟩] spSc p9) (envOfC "law" (scopeAt w 138) L fa cd)) Q E s := by
  have rest : ∀ d i ys (g : Heap) (tk : Nat), i + d = (ev ++ ev).cps.toList.length → StrsAre ys (((ev ++ ev).cps.toList.take i).map (spell kw)) → CompRest pg w (ktrTop dp un gd "law" (scopeAt w 138) L a ccd cl outer) h₀ L m (envOfC "law" (scopeAt w 138) L fa cd) (.Call (.Name "_law_spelled" p1) [.Name "sign" p2, .Name "which" p3] [] p4) "sign" spSc [(("which" : Str), L + 1)] { s with heap := g, toks := tk } (fun _ => True) (SignAt (ev ++ ev)) (FinE h₀ L m { s with heap := g, toks := tk } Q) d i ys news := by
    intro d
    induction d with
    | zero =>
      intro i ys g tk hi hys
      refine CompRest.zero fun D h tk F' N' o1 => ?_
      rw [show i = (ev ++ ev).cps.toList.length by omega, List.take_length] at hys
      exact K D ys h tk hys F' N' (off1_mem o1)
    | succ d ih =>
      intro i ys g tk hi hys
      refine CompRest.succ fun v I oI C oC D m₂ h tk2 E' hP hC e2 F' N' off hne => ?_
      obtain ⟨c, u, hc, rfl⟩ := hP
      have hlt : i < (ev ++ ev).cps.toList.length := by omega
      refine spellElt w mg mb fa cd p loose mean dp un gd a ccd cl outer A₀ base h₀ L m _ _ E' B X T F' HG C (L + 1) oC o1 m₂ kw c tw u ((I, oI) :: (D, lst ys) :: news) _ rfl p1 p2 p3 p4 (Newss.sub N' fun q hq => ?_) hok hkw hC e2 hdp hun ?_
      · simp only [List.cons_append, List.nil_append, List.mem_cons] at hq ⊢
        rcases hq with hq | hq | hq | hq | hq
        · exact .inr (.inl hq)
        · exact .inr (.inr (.inr (hq ▸ hb)))
        · exact .inl hq
        · exact .inr (.inr (.inl hq))
        · exact .inr (.inr (.inr hq))
      · intro h' tk' t' F2 N2
        refine ⟨h', tk', news, rfl, F2, Newss.sub N2 fun q hq => ?_, off, trivial, ih (i + 1) _ g tk (by omega) ?_⟩
        · simp only [List.cons_append, List.nil_append, List.mem_cons] at hq ⊢
          rcases hq with hq | hq | hq | hq
          · exact .inr (.inr (.inl hq))
          · exact .inl hq
          · exact .inr (.inr (.inr (.inl hq)))
          · exact .inr (.inr (.inr (.inr hq)))
        · have hci : (ev ++ ev).cps.toList[i]? = some c := by rw [Array.getElem?_toList]; exact hc
          rw [List.take_add_one, hci, List.map_append]
          exact strsAre_snoc hys _ _
  refine ListComp_S (x := "sign") (cl := [(("which" : Str), L + 1)]) (news := news) (tx := ev ++ ev) F rfl rfl ?hcell rfl ?hnames rfl hwide ?hz ?h ?rest (fun _ => rfl)
  case hcell =>
    have e : spSc = Scope.mk _ _ _ _ _ := rfl
    rw [e]; decide
  case hnames =>
    have e : spSc = Scope.mk _ _ _ _ _ := rfl
    rw [e]; decide +kernel
  case hz =>
    have : (ev ++ ev).cps.size = ev.length + ev.length := Str.length_append ev ev
    rw [this, sizeLine_eq]; omega
  case rest => exact fun g tk => by rw [← Array.length_toList]; exact rest _ 0 [] g tk (by omega) .nil
  case h =>
    have F' := Mine.Fr.pin F (x := "every") hm
    have q2 : scopeAt w 138 = Scope.mk _ _ _ _ _ := rfl
    rw [q2]
    have hev1 : ev.length ≤ 100000 := by omega
    generalize hP : (fun (xv : Value) (s₁ : Shared) => ∃ t g tk, xv = .str (ev ++ ev) t ∧ s₁ = { s with heap := g, toks := tk } ∧ Fr h₀ L g m ∧ News h₀ L g news) = P
    k_steps
    subst hP
    exact ⟨_, _, _, rfl, rfl, by k_asm, by k_asm⟩

end

section
open PyProof.Rows.LCg
theorem sua5seg_1 : True := by
  w_top off
  (k_with "e188" => skip)
  (k_with "e189" => skip)
  trivial
theorem joinS2 {prog : Program} {w : World} {A : Around} {E : Value → Shared → Prop} {s : Shared} {h₀ : Heap} {L : Addr} {news : List (Addr × Obj)} {D : Addr} {ys : List Value} {xs : List Str} {k : Nat} {x z : Str} {t : Tok} {Q : Value → Shared → Prop} (N : News h₀ L s.heap news) (hm : (D, listOf ys.toArray k) ∈ news) (hi : StrsAre ys xs) (hz : Str.join x xs = z) (hsep : x.length ≤ 16) (hw : (xs.map (·.length)).sum + xs.length ≤ 1048576)
    (h : ∀ t' tk, Q (.str z t') { s with toks := tk }) : wpAny (model prog w) A (call (.builtin "str.join") [.str x t, .ref D]) Q E s := joinS N hm hi hsep hw (fun t' tk => by rw [hz]; exact h t' tk)
theorem sua5seg_2 : True := by
  (k_with "call ref" => ((fail_if_success k_extra "e190"); ((k_here; (with_reducible show wpAny _ _ (call (Value.ref (escF _)) [Value.str _ _]) _ _ _); k_dflt (refine' HC.use (esc_c _ _ _ _ _ ?xz129 _ ?hkz129) ?Bz129 ?Fz129 ?Xz129 ?Nz129 ?Tz129 ?skz129 ?Gz129 ?dz129 ?uz129 (List.forall_mem_nil _) (fun q hq => hq) (fun q hq h => nomatch h) ?_; (case xz129 => omega); (case hkz129 => assumption); (case Bz129 => k_asm); (case Fz129 => k_asm); (case Xz129 => k_asm); (case Nz129 => k_asm); (case Tz129 => k_asm); (case skz129 => exact rfl); (case Gz129 => assumption); (case dz129 => omega); (case uz129 => omega); intro v' news' h' tk' F' N' P'; obtain ⟨t', e1', e2'⟩ := P'; subst e1' e2')))))
  (k_with "binaryOp Add str str" => ((fail_if_success k_extra "e191"); ((k_here; (with_reducible show wpAny _ _ (binaryOp Operator.Add (Value.str _ _) (Value.str _ _)) _ _ _); k_dflt (refine' addS ?nhz117 ?niz117 ?_; (case nhz117 => assumption); (case niz117 => assumption)); intro t' tk'))))
  (k_with "eval ListComp" => ((fail_if_success k_extra "e192"); ((k_here; k_dflt (refine' spellStr _ _ _ _ _ _ _ _ _ _ _ _ _ _ _ _ _ _ _ _ _ _ _ ?Bz130 ?Xz130 ?Tz130 ?Fz130 ?Gz130 _ _ _ _ _ _ _ _ _ _ _ _ _ _ _ ?Nz130 ?b1z130 ?okz130 ?hkz130 ?hmz130 ?lz130 ?wz130 ?dz130 ?uz130 ?_; (case Bz130 => assumption); (case Xz130 => k_asm); (case Tz130 => k_asm); (case Fz130 => k_asm); (case Gz130 => assumption); (case Nz130 => k_asm); (case okz130 => assumption); (case b1z130 => k_mem); (case hkz130 => assumption); (case hmz130 => exact rfl); (case lz130 => assumption); (case wz130 => assumption); (case dz130 => omega); (case uz130 => omega)); intro D' ys' h' tk' hys' F' N' l1; (try k_sweep)))))
  (k_with "call builtin:str.join" => ((fail_if_success k_extra "e193"); ((k_here; k_dflt (refine' joinS2 ?Nz131 ?mz131 ?iz131 ?ez131 ?sz131 ?wz131 ?_; (case Nz131 => k_asm); (case mz131 => k_mem); (case iz131 => assumption); (case ez131 => assumption); (case sz131 => decide +kernel); (case wz131 => assumption)); intro t' tk'))))
  (k_with "compareOp NotEq str str" => ((fail_if_success k_extra "e194"); ((k_here; k_dflt (refine neSame ?_)))))
  trivial
theorem escLook (w : World) : ∀ k, k < 5 → ∃ o fd, (hd.heap_39 w.params).lookup (escF k) = some o ∧ o.data = .func fd
  | 0, _ => ⟨_, _, rfl, rfl⟩ | 1, _ => ⟨_, _, rfl, rfl⟩ | 2, _ => ⟨_, _, rfl, rfl⟩ | 3, _ => ⟨_, _, rfl, rfl⟩ | 4, _ => ⟨_, _, rfl, rfl⟩
  | n + 5, h => absurd h (by omega)
theorem callWith_esc {prog : Program} {w : World} {A : Around} {E : Value → Shared → Prop} {s : Shared} {env : Env} {pos : Pos} {k : Nat} {e : Expr} {rest : List Expr} {Q : Value → Shared → Prop} (hk : k < 5)
    (h : wpAny (model prog w) A (spliced (backTo pos (starEach (e :: rest) env))) (fun vs s₁ => (hd.heap_39 w.params).In s₁.heap ∧ wpAny (model prog w) A (call (.ref (escF k)) vs) Q E s₁) E s)
    (he : starEach (e :: rest) env = (false, eval e env) :: starEach rest env := by rfl) :
    wpAny (model prog w) A (callWith pos (.ref (escF k)) [] (backTo pos (starEach (e :: rest) env)) []) Q E s := by
  obtain ⟨o, fd, h1, h2⟩ := escLook w k hk
  exact PyProof.Rows.callWith_def (o := o) (fd := fd) h2 (wpAny_mono h (fun vs s₁ q => ⟨q.1 _ _ h1, q.2⟩) fun _ _ x => x) he
theorem sua5seg_3 : True := by
  (k_with "callWith ref" => ((fail_if_success k_extra "e195"); ((k_here; k_dflt (refine' callWith_esc ?kz132 ?_; (case kz132 => assumption))))))
  trivial
theorem tabW_le : ∀ k, ((tabW k).all fun p => p.2.length ≤ 8) = true
  | 0 => by decide +kernel | 1 => by decide +kernel | 2 => by decide +kernel | 3 => by decide +kernel | 4 => by decide +kernel
  | _ + 5 => (by decide +kernel : (tab5.all fun p => p.2.length ≤ 8) = true)
theorem escS_le (k : Nat) (x : Str) : (escS (tabW k) x).length ≤ 8 * x.length := escS_length _ x (tabW_le k)
theorem spells_le (k : Nat) : ∀ l : List Nat, ((l.map (spell k)).map (·.length)).sum ≤ 8 * l.length
  | [] => Nat.le_refl _
  | c :: r => by
    have h1 := spells_le k r
    have h2 : (spell k c).length ≤ 8 := escS_le k ⟨#[c]⟩
    simp only [List.map_cons, List.sum_cons, List.length_cons]
    omega
theorem seg2 (w : World) (mg mb : Str → Option Value) (fa : Addr) (cd : Value)
   (p : Program) (loose : List Str) (mean : ExcName → Option Value) (dp un : Nat) (gd : Option (List Code)) (a : Addr) (ccd : Value) (cl : List (Str × Addr)) (outer : List Env) (A₀ : Around) (base h₀ : Heap) (L : Addr) (m : Str → Option Value) (s : Shared) (Q : Flow → Shared → Prop) (E : Value → Shared → Prop)
   (B : Below A₀ base outer h₀) (X : (hd.heap_39 w.params).In h₀) (T : Top p loose mean mg mb h₀) (F : Fr h₀ L s.heap m) (HG : CodeHd base 99 95)
   (o1 o2 o3 o4 o5 o6 t95 : Obj) (l : Addr) (vals : List Value) (kw c : Nat) (tw te : Tok)
   (N : News h₀ L s.heap (cel6 L o1 o2 o3 o4 o5 o6 ++ [(95, t95), (l, listOf vals.toArray 0)])) (k1 : o1.data = .cell (some (.int (kw : Nat) tw))) (k2 : o2.data = .cell (some (.ref (escF kw)))) (hkw : kw < 5) (hc1 : 256 ≤ c)
   (m1 : m "cells" = some (.ref l)) (m2 : m "every" = some (.str (every7 ++ ⟨#[c]⟩) te)) (hdp : dp + 40 < recursionLimit) (hun : un + 400 < cLine)
   (K : ∀ (h' : Heap) (tk' : Nat) (m' : Str → Option Value), Fr h₀ L h' m' → News h₀ L h' (cel6 L o1 o2 o3 o4 o5 o6 ++ [(95, t95), (l, listOf vals.toArray 0)]) → m' "cells" = some (.ref l) → m' "every" = some (.str (every7 ++ ⟨#[c]⟩) te) →
      wpAny (model pg w) (ktrTop dp un gd "law" (scopeAt w 138) L a ccd cl outer) (execs (lawB.drop 6) (envOfC "law" (scopeAt w 138) L fa cd)) Q E { s with heap := h', toks := tk' }) :
   wpAny (model pg w) (ktrTop dp un gd "law" (scopeAt w 138) L a ccd cl outer) (execs (lawB.drop 5) (envOfC "law" (scopeAt w 138) L fa cd)) Q E s := by
  have e1 : lawB.drop 5 = _ :: lawB.drop 6 := rfl
  have e2 : scopeAt w 138 = Scope.mk _ _ _ _ _ := rfl
  generalize hR : lawB.drop 6 = R at *
  rw [e1]
  rw [e2] at K ⊢
  generalize hev : every7 ++ ⟨#[c]⟩ = ev at *
  have hl8 : ev.length = 8 := by rw [← hev, Str.length_append]; rfl
  have hl1 : ev.length ≤ 1000 := by omega
  have hl2 : ev.length ≤ 100000 := by omega
  have hl16 : (ev ++ ev).length = 16 := by rw [Str.length_append, hl8]
  have hwide : (ev ++ ev).cps.all (· < 128) = false := by
    rw [← hev]
    apply Bool.eq_false_iff.mpr
    intro hq
    rw [Array.all_eq_true_iff_forall_mem] at hq
    have := hq c (by simp [Str.cps_append])
    simp at this
    omega
  have hjz : Str.join "" ((ev ++ ev).cps.toList.map (spell kw)) = escS (tabW kw) (ev ++ ev) := by
    rw [spell_join]
  have hjw : (((ev ++ ev).cps.toList.map (spell kw)).map (·.length)).sum + ((ev ++ ev).cps.toList.map (spell kw)).length ≤ 1048576 := by
    have h1 := spells_le kw (ev ++ ev).cps.toList
    have h2 : (ev ++ ev).cps.toList.length = 16 := by rw [Array.length_toList]; exact hl16
    rw [List.length_map, h2]
    omega
  have F := Mine.Fr.pin (Mine.Fr.pin F (x := "cells") m1) (x := "every") m2
  simp only [cel6, List.cons_append, List.nil_append] at N
  k_steps
  dsimp only
  refine' K _ _ _ ?oF (Newss.sub (by k_asm) ?oN) ?oa ?ob
  case oF => k_asm
  case oN =>
    k_dflt (simp only [cel6, List.cons_append, List.nil_append])
    k_dflt (k_extra "MemAll2")
  case oa => exact rfl
  case ob => exact rfl

end

section
open PyProof.Rows.LCg
theorem sua6pop_1 : True := by
  w_top off
  (k_with "e190" => skip)
  (k_with "e194" => skip)
  (k_with "e191" => skip)
  (k_with "e192" => skip)
  (k_with "e193" => skip)
  (k_with "e195" => skip)
  (k_with "getItem ref int" => ((fail_if_success k_extra "e196"); ((k_here; k_dflt (refine' getItemE ?Nz88 ?mz88 ?jz88 ?xz88 ?zz88 ?_; (case Nz88 => k_asm); (case mz88 => k_mem); (case jz88 => assumption); (case xz88 => assumption); (case zz88 => omega); k_whole)))))
  trivial
theorem strsAre_signs {y : Str} {vs : List Value} (hlen : vs.length = y.cps.size) (hP : ∀ (j : Nat) (v : Value), vs[j]? = some v → SignAt y j v) : StrsAre vs (y.cps.toList.map fun c => ⟨#[c]⟩) := by
  have go : ∀ (l : List Nat) (vs : List Value), vs.length = l.length → (∀ (j : Nat) (v : Value), vs[j]? = some v → ∃ c u, l[j]? = some c ∧ v = .str ⟨#[c]⟩ u) → StrsAre vs (l.map fun c => ⟨#[c]⟩) := by
    intro l
    induction l with
    | nil =>
      intro vs h _
      obtain rfl := List.length_eq_zero_iff.mp h
      exact .nil
    | cons c r ih =>
      intro vs h hp
      cases vs with
      | nil => cases h
      | cons v vs =>
        obtain ⟨c', u, h1, rfl⟩ := hp 0 v rfl
        obtain rfl : c = c' := by simpa using h1
        exact .cons _ u (ih vs (by simpa using h) fun j w hw => by simpa using hp (j + 1) w (by simpa using hw))
  refine go _ vs (by rw [hlen, Array.length_toList]) fun j v hv => ?_
  obtain ⟨c, u, hc, rfl⟩ := hP j v hv
  exact ⟨c, u, by rw [Array.getElem?_toList]; exact hc, rfl⟩
theorem cut_of : ∀ (l : List Value) (k : Nat) (y : Value), l[k]? = some y → kl_cut l k = some (l.take k, y, l.drop (k + 1))
  | [], _, _, h => by cases h
  | x :: r, 0, y, h => by
    obtain rfl : x = y := by simpa using h
    rfl
  | x :: r, k + 1, y, h => by
    unfold kl_cut
    rw [cut_of r k y (by simpa using h)]
    rfl
section
variable {prog : Program} {w : World} {A : Around} {E : Value → Shared → Prop} {s : Shared} {h₀ : Heap} {L : Addr} {m : Str → Option Value} {news news' : List (Addr × Obj)}
theorem listStrO {x : Str} {t : Tok} {Q : Value → Shared → Prop} (hh : A.handled = none) (F : Fr h₀ L s.heap m) (N : News h₀ L s.heap news) (hx : x.length ≤ 1000)
    (h : ∀ l h' tk c vs, StrsAre vs (x.cps.toList.map fun c => ⟨#[c]⟩) → Fr h₀ L h' m → News h₀ L h' ((l, listOf vs.toArray c) :: news) → (∀ p ∈ news, p.1 < l) → @LT.lt Nat _ L l → Q (.ref l) { s with heap := h', toks := tk }) :
    wpAny (model prog w) A (call (.type "list") [.str x t]) Q E s := by
  refine call_list_str hh x t (fun h' tk acc c hk hS hi => ?_) (by have : x.cps.size ≤ 1000 := hx; rw [sizeLine_eq]; omega)
  have q := h s.heap.objs.size h' tk c acc.toList (strsAre_signs (by rw [Array.length_toList]; exact hi.1) fun j v hv => hi.2 j v (by simpa using hv)) (F.keeps hk)
  refine q (fun p hp => ?_) (fun p hp => Heap.lt_size (N p hp).1) F.ns.lt
  rcases List.mem_cons.mp hp with rfl | hp
  · refine ⟨?_, Nat.ne_of_gt F.ns.lt, next_is_new F⟩
    rw [Array.toArray_toList]
    exact hS
  · exact N.grown hk p hp
theorem popE {D : Addr} {items : List Value} {n : Nat} {j : Int} {k : Nat} {t : Tok} {y : Value} {Q : Value → Shared → Prop} (F : Fr h₀ L s.heap m) (N : News h₀ L s.heap news) (hj : j = (k : Nat)) (hy : items[k]? = some y) (hz : items.length ≤ 100)
    (U : Upd D (listOf items.toArray n) (listOf (items.eraseIdx k).toArray (n + 1)) news news') (h : ∀ h', Fr h₀ L h' m → News h₀ L h' news' → Q y { s with heap := h' }) :
    wpAny (model prog w) A (call (.builtin "list.pop") [.ref D, .int j t]) Q E s := by
  subst hj
  have hk := (List.getElem?_eq_some_iff.mp hy).1
  refine kl_popAt (p := items.take k) (q := items.drop (k + 1)) (y := y) (k := k) F N ?f ?k (cut_of items k y hy) (by rw [← List.eraseIdx_eq_take_drop_succ]; exact U) (by simp only [sizeLine_eq]; omega) h
  case f =>
    unfold Builtin.List.listFitsIndex
    rw [Bool.and_eq_true, decide_eq_true_eq, decide_eq_true_eq]
    omega
  case k =>
    have h0 : ¬ ((k : Nat) : Int) < 0 := by omega
    have h1 : ((k : Nat) : Int) < ((items.toArray.size : Nat) : Int) := by rw [List.size_toArray]; omega
    simp only [seqIndex?, h0, if_false, h1, Int.natCast_nonneg, decide_true, Bool.and_self, if_true, Int.toNat_natCast]
end

end

section
open PyProof.Rows.LCg
theorem sua7seg_1 : True := by
  w_top off
  (k_with "e196" => skip)
  (k_with "getItem ref int" => ((fail_if_success k_extra "e197"); ((k_here; k_dflt (refine' getItemE ?Nz133 ?mz133 ?jz133 ?xz133 ?zz133 ?_; (case Nz133 => k_asm); (case mz133 => k_mem); (case jz133 => with_reducible exact rfl); (case xz133 => assumption); (case zz133 => omega); k_whole)))))
  (k_with "call builtin:list.pop" => ((fail_if_success k_extra "e198"); ((k_here; k_dflt (refine' popE ?Fz134 ?Nz134 ?jz134 ?yz134 ?zz134 ?Uz134 ?_; (case Fz134 => k_asm); (case Nz134 => k_asm); (case jz134 => assumption); (case yz134 => assumption); (case zz134 => omega); (case Uz134 => k_upd)); intro h' F' N'; (try dsimp only [List.nil_append, List.cons_append] at N')))))
  (k_with "call builtin:len" => ((fail_if_success k_extra "e199"); ((k_here; (with_reducible show wpAny _ _ (call (Value.builtin "len") [Value.ref _]) _ _ _); k_dflt (refine' lenL ?Nz135 ?zz135 ?_; (case Nz135 => exact News.isList (by k_asm) (by k_mem)); (case zz135 => omega); k_whole)))))
  trivial
theorem strsAre_erase {ys : List Value} {xs : List Str} (h : StrsAre ys xs) (j : Nat) : StrsAre (ys.eraseIdx j) (xs.eraseIdx j) := by
  rw [List.eraseIdx_eq_take_drop_succ, List.eraseIdx_eq_take_drop_succ]
  exact StrsAre.append' (StrsAre.take' h j) (StrsAre.drop' h (j + 1))
theorem erase_perm : ∀ (ls : List Str) (j : Nat) (h : j < ls.length), List.Perm (ls[j] :: ls.eraseIdx j) ls
  | x :: r, 0, _ => List.Perm.refl _
  | x :: r, j + 1, h => by
    have := erase_perm r j (by simpa using h)
    exact (List.Perm.swap _ _ _).trans (this.cons x)
theorem popTurn (w : World) (mg mb : Str → Option Value) (fa : Addr) (cd : Value)
   (p : Program) (loose : List Str) (mean : ExcName → Option Value) (dp un : Nat) (gd : Option (List Code)) (a : Addr) (ccd : Value) (cl : List (Str × Addr)) (outer : List Env) (h₀ : Heap) (L : Addr) (m : Str → Option Value) (s : Shared) (Q : Flow → Shared → Prop) (E : Value → Shared → Prop)
   (X : (hd.heap_39 w.params).In h₀) (T : Top p loose mean mg mb h₀)
   (it : Obj) (l lf sg I : Addr) (vals lv sv : List Value) (cells : List Int) (nl ns k j : Nat) (tk : Tok) (v : Value) (rest : List (Addr × Obj))
   (F : Fr h₀ L s.heap (fun z => if z = "k" then some (.int ((1 : Int) + (k : Nat)) tk) else m z))
   (N : News h₀ L s.heap ((I, it) :: (sg, listOf sv.toArray ns) :: (lf, listOf lv.toArray nl) :: (l, listOf vals.toArray 0) :: rest))
   (h3 : @LT.lt Nat _ l lf) (h4 : @LT.lt Nat _ lf sg) (h5 : @LT.lt Nat _ sg I) (Rl : RNe rest lf) (Rs : RNe rest sg) (RI : RNe rest I)
   (hc : IntsAre vals cells) (hcl : cells.length = 10) (hlv : lv.length ≤ 8) (hlp : 0 < lv.length) (hsv : sv.length ≤ 8) (hk : k < 6)
   (hj : Int.fmod (List.getD cells (Int.toNat (1 + (k : Nat))) 0) (lv.length : Nat) = (j : Nat)) (hv : lv[j]? = some v)
   (m1 : m "cells" = some (.ref l)) (m2 : m "left" = some (.ref lf)) (m3 : m "signs" = some (.ref sg))
   (hdp : dp + 40 < recursionLimit) (hun : un + 400 < cLine)
   (K : ∀ h tk' m', Fr h₀ L h m' → News h₀ L h ((I, it) :: (sg, listOf (sv ++ [v]).toArray (ns + 1)) :: (lf, listOf (lv.eraseIdx j).toArray (nl + 1)) :: (l, listOf vals.toArray 0) :: rest) → (∀ z : Str, z ≠ ("k" : Str) → m' z = m z) → Q .next { s with heap := h, toks := tk' }) :
   wpAny (model pg w) (ktrTop dp un gd "law" (scopeAt w 138) L a ccd cl outer) (execs (forBody (lawB.drop 8)) (envOfC "law" (scopeAt w 138) L fa cd)) Q E s := by
  have e1 : forBody (lawB.drop 8) = [_] := rfl
  have e2 : scopeAt w 138 = Scope.mk _ _ _ _ _ := rfl
  rw [e1, e2]
  have F := Mine.Fr.pin (Mine.Fr.pin (Mine.Fr.pin F (x := "cells") m1) (x := "left") m2) (x := "signs") m3
  have lc := IntsAre.length hc
  have hlvn : ((lv.length : Nat) : Int) ≠ 0 := fun e => Nat.ne_of_gt ‹0 < lv.length› (Int.ofNat.inj e)
  have h35 : @LT.lt Nat _ l sg := Nat.lt_trans h3 h4
  have h45 : @LT.lt Nat _ lf I := Nat.lt_trans h4 h5
  have h36 : @LT.lt Nat _ l I := Nat.lt_trans h35 h5
  k_steps
  dsimp only
  (with_reducible rename News _ _ _ _ => kN)
  rw [List.push_toArray] at kN
  refine' K _ _ _ (by k_asm) kN ?zz
  intro z hz
  by_cases q1 : z = ("signs" : Str)
  · subst q1; exact m3.symm
  by_cases q2 : z = ("left" : Str)
  · subst q2; exact m2.symm
  by_cases q3 : z = ("cells" : Str)
  · subst q3; exact m1.symm
  exact (if_neg q1).trans ((if_neg q2).trans ((if_neg q3).trans (if_neg hz)))
theorem popLoop (w : World) (mg mb : Str → Option Value) (fa : Addr) (cd : Value)
   (p : Program) (loose : List Str) (mean : ExcName → Option Value) (dp un : Nat) (gd : Option (List Code)) (a : Addr) (ccd : Value) (cl : List (Str × Addr)) (outer : List Env) (h₀ : Heap) (L : Addr) (s : Shared) (Q : Flow → Shared → Prop) (E : Value → Shared → Prop)
   (X : (hd.heap_39 w.params).In h₀) (T : Top p loose mean mg mb h₀)
   (l lf sg I : Addr) (vals : List Value) (cells : List Int) (whole : List Str) (rest : List (Addr × Obj))
   (h3 : @LT.lt Nat _ l lf) (h4 : @LT.lt Nat _ lf sg) (h5 : @LT.lt Nat _ sg I) (Rl : RNe rest lf) (Rs : RNe rest sg) (RI : RNe rest I)
   (hc : IntsAre vals cells) (hcl : cells.length = 10) (hcb : ∀ c ∈ cells, 0 ≤ c) (hw : whole.length = 8)
   (hdp : dp + 40 < recursionLimit) (hun : un + 400 < cLine)
   (K : ∀ h tk' m' lv sv ls ss nl ns, Fr h₀ L h m' → News h₀ L h ((sg, listOf sv.toArray ns) :: (lf, listOf lv.toArray nl) :: (l, listOf vals.toArray 0) :: rest) → StrsAre lv ls → StrsAre sv ss → List.Perm (ss ++ ls) whole → ss.length = 6 →
      m' "cells" = some (.ref l) → m' "signs" = some (.ref sg) → Q .next { s with heap := h, toks := tk' }) :
   ∀ d k m lv sv ls ss nl ns, k + d = 6 → StrsAre lv ls → StrsAre sv ss → List.Perm (ss ++ ls) whole → ss.length = k → m "cells" = some (.ref l) → m "left" = some (.ref lf) → m "signs" = some (.ref sg) →
     RangeRest pg w (ktrTop dp un gd "law" (scopeAt w 138) L a ccd cl outer) E h₀ (envOfC "law" (scopeAt w 138) L fa cd) "k" (forBody (lawB.drop 8)) Q s I 1 6 d k m ((sg, listOf sv.toArray ns) :: (lf, listOf lv.toArray nl) :: (l, listOf vals.toArray 0) :: rest) := by
  intro d
  induction d with
  | zero =>
    intro k m lv sv ls ss nl ns hk S1 S2 P hl m1 m2 m3
    obtain rfl : k = 6 := by omega
    exact RangeRest.zero fun h tk F N => K h tk m lv sv ls ss nl ns F N S1 S2 P hl m1 m3
  | succ d ih =>
    intro k m lv sv ls ss nl ns hk S1 S2 P hl m1 m2 m3
    refine RangeRest.succ fun t h tk F N => ?_
    have e1 := P.length_eq
    rw [List.length_append] at e1
    have e2 := StrsAre.length S1
    have e3 := StrsAre.length S2
    have hk6 : k < 6 := omN2 hk
    have hls : k + ls.length = 8 := by rw [← hl, e1, hw]
    have hlv : lv.length ≤ 8 := omEl e2 (hls ▸ Nat.le_add_left _ _)
    have hlv0 : 0 < lv.length := omLe (Nat.lt_of_add_lt_add_left (n := k) (hls.symm ▸ Nat.lt_trans hk6 (by decide) : k + 0 < k + ls.length)) e2
    have hpos : (0 : Int) < ((lv.length : Nat) : Int) := Int.ofNat_lt.mpr hlv0
    have g1 := Int.fmod_nonneg_of_pos (List.getD cells (Int.toNat (1 + (k : Nat))) 0) hpos
    have g2 := Int.fmod_lt_of_pos (List.getD cells (Int.toNat (1 + (k : Nat))) 0) hpos
    obtain ⟨j, hj⟩ : ∃ j : Nat, Int.fmod (List.getD cells (Int.toNat (1 + (k : Nat))) 0) ((lv.length : Nat) : Int) = (j : Nat) := ⟨_, (Int.toNat_of_nonneg g1).symm⟩
    have hjl : j < ls.length := e2 ▸ Int.ofNat_lt.mp (hj ▸ g2)
    obtain ⟨tv, hv⟩ := StrsAre.get S1 j _ (List.getElem?_eq_getElem hjl)
    refine popTurn w mg mb fa cd p loose mean dp un gd a ccd cl outer h₀ L m _ _ _ X T _ l lf sg I vals lv sv cells nl ns k j t _ rest F N h3 h4 h5 Rl Rs RI hc hcl hlv hlv0 (omEl (e3.trans hl) (Nat.le_of_lt (Nat.lt_trans hk6 (by decide)))) hk6 hj hv m1 m2 m3 hdp hun ?_
    intro h' tk' m' F' N' hm'
    refine ⟨h', tk', m', _, rfl, F', N', fun q hq => ?_, ih (k + 1) m' _ _ (ls.eraseIdx j) (ss ++ [ls[j]]) _ _ (by omega) (strsAre_erase S1 j) (strsAre_snoc S2 _ _) ?_ (by rw [List.length_append, hl]; rfl) ?_ ?_ ?_⟩
    · rcases List.mem_cons.mp hq with rfl | hq
      · exact Nat.ne_of_lt h5
      rcases List.mem_cons.mp hq with rfl | hq
      · exact Nat.ne_of_lt (Nat.lt_trans h4 h5)
      rcases List.mem_cons.mp hq with rfl | hq
      · exact Nat.ne_of_lt (Nat.lt_trans h3 (Nat.lt_trans h4 h5))
      · exact RI.ne q hq
    · refine List.Perm.trans ?_ P
      rw [List.append_assoc]
      refine List.Perm.append_left ss ?_
      exact erase_perm ls j hjl
    · rw [hm' _ (by decide)]; exact m1
    · rw [hm' _ (by decide)]; exact m2
    · rw [hm' _ (by decide)]; exact m3

end

section
open PyProof.Rows.LCg
theorem sua8seg_1 : True := by
  w_top off
  (k_with "e199" => skip)
  (k_with "e197" => skip)
  (k_with "e198" => skip)
  (k_with "call type:list" => ((fail_if_success k_extra "e200"); ((k_here; (with_reducible show wpAny _ _ (call (Value.type _) [Value.str _ _]) _ _ _); k_dflt (refine' listStrO rfl ?Fz136 ?Nz136 ?xz136 ?_; (case Fz136 => k_asm); (case Nz136 => k_asm); (case xz136 => omega)); intro l' h' tk' c' vs' S' F' N' l1 l2; (try k_lt l1); (try k_sweep)))))
  (k_with "pyIter ref" => ((fail_if_success k_extra "e201"); (((with_reducible show wpAny _ _ (pyIter (Value.ref _)) (fun it s₂ => LoopAtV _ _ _ _ _ _ _ _ _ it s₂) _ _); refine Hold.out ?_))))
  (k_with "exec For Name Call cons nil" => ((fail_if_success k_extra "e202"); ((k_here; k_dflt (refine' For_invVF (hE := ?ez137) ?Fz137 ?az137 ?bz137 ?_; (case ez137 => assumption); (case Fz137 => k_asm); (case az137 => exact rfl); (case bz137 => exact rfl))))))
  trivial
theorem seg3 (w : World) (mg mb : Str → Option Value) (fa : Addr) (cd : Value)
   (p : Program) (loose : List Str) (mean : ExcName → Option Value) (dp un : Nat) (gd : Option (List Code)) (a : Addr) (ccd : Value) (cl : List (Str × Addr)) (outer : List Env) (A₀ : Around) (base h₀ : Heap) (L : Addr) (m : Str → Option Value) (s : Shared) (Q : Flow → Shared → Prop) (E : Value → Shared → Prop)
   (B : Below A₀ base outer h₀) (X : (hd.heap_39 w.params).In h₀) (T : Top p loose mean mg mb h₀) (F : Fr h₀ L s.heap m)
   (o1 o2 o3 o4 o5 o6 t95 : Obj) (l : Addr) (vals : List Value) (cells : List Int) (c : Nat) (te : Tok)
   (N : News h₀ L s.heap (cel6 L o1 o2 o3 o4 o5 o6 ++ [(95, t95), (l, listOf vals.toArray 0)]))
   (h1 : @LT.lt Nat _ 95 L) (h2 : @LT.lt Nat _ (L + 6) l) (hc : IntsAre vals cells) (hcl : cells.length = 10) (hcb : ∀ c ∈ cells, 0 ≤ c)
   (m1 : m "cells" = some (.ref l)) (m2 : m "every" = some (.str (every7 ++ ⟨#[c]⟩) te)) (hdp : dp + 40 < recursionLimit) (hun : un + 400 < cLine)
   (hE : PassesOwn (model pg w) (ktrTop dp un gd "law" (scopeAt w 138) L a ccd cl outer) (envOfC "law" (scopeAt w 138) L fa cd) E)
   (K : ∀ (h' : Heap) (tk' : Nat) (m' : Str → Option Value) (sg : Addr) (sv : List Value) (ss ls : List Str) (ns : Nat), Fr h₀ L h' m' → News h₀ L h' ((sg, listOf sv.toArray ns) :: (cel6 L o1 o2 o3 o4 o5 o6 ++ [(95, t95), (l, listOf vals.toArray 0)])) → StrsAre sv ss → List.Perm (ss ++ ls) ((every7 ++ ⟨#[c]⟩).cps.toList.map fun c => ⟨#[c]⟩) → ss.length = 6 → m' "cells" = some (.ref l) → m' "signs" = some (.ref sg) → @LT.lt Nat _ l sg →
      wpAny (model pg w) (ktrTop dp un gd "law" (scopeAt w 138) L a ccd cl outer) (execs (lawB.drop 9) (envOfC "law" (scopeAt w 138) L fa cd)) Q E { s with heap := h', toks := tk' }) :
   wpAny (model pg w) (ktrTop dp un gd "law" (scopeAt w 138) L a ccd cl outer) (execs (lawB.drop 6) (envOfC "law" (scopeAt w 138) L fa cd)) Q E s := by
  have e1 : lawB.drop 6 = _ :: _ :: _ :: lawB.drop 9 := rfl
  have e2 : scopeAt w 138 = Scope.mk _ _ _ _ _ := rfl
  generalize hR : lawB.drop 9 = R at *
  rw [e1]
  rw [e2] at K hE ⊢
  generalize hev : every7 ++ ⟨#[c]⟩ = ev at *
  have hl8 : ev.length = 8 := by rw [← hev, Str.length_append]; rfl
  have F := Mine.Fr.pin (Mine.Fr.pin F (x := "cells") m1) (x := "every") m2
  simp only [cel6, List.cons_append, List.nil_append] at N
  k_steps
  refine ⟨?_⟩
  (with_reducible rename IsRange _ _ _ _ _ _ _ _ => kR)
  (with_reducible rename News _ _ _ _ => kN0)
  (with_reducible rename StrsAre _ _ => kS)
  refine' iter_rangeUnr (n := 6) (by rfl) kR ?sm ?nn (by k_asm) kN0 ?_
  case sm => exact small_one (by decide) (by decide) (by omega) (by omega)
  case nn => decide
  intro I' l1
  (try k_lt l1)
  have rn : ∀ x : Addr, L + 1 ≠ x → L + 1 + 1 ≠ x → L + 1 + 1 + 1 ≠ x → L + 1 + 1 + 1 + 1 ≠ x → L + 1 + 1 + 1 + 1 + 1 ≠ x → L + 1 + 1 + 1 + 1 + 1 + 1 ≠ x → 95 ≠ x → RNe (cel6 L o1 o2 o3 o4 o5 o6 ++ [(95, t95)]) x := fun x d e f g h i j =>
    RNe.consR d (RNe.consR e (RNe.consR f (RNe.consR g (RNe.consR h (RNe.consR i (RNe.consR j ⟨fun _ h => nomatch h⟩))))))
  have hwl : (ev.cps.toList.map fun c => (⟨#[c]⟩ : Str)).length = 8 := by rw [List.length_map, Array.length_toList]; exact hl8
  refine' Mine.RangeRest.sub ?oS _ _ (popLoop w mg mb fa cd p loose mean dp un gd a ccd cl outer h₀ L _ _ E X T l _ _ I' vals cells _ (cel6 L o1 o2 o3 o4 o5 o6 ++ [(95, t95)]) ?o3 ?o4 ?o5 (rn _ ?r1 ?r2 ?r3 ?r4 ?r5 ?r6 ?r7) (rn _ ?s1 ?s2 ?s3 ?s4 ?s5 ?s6 ?s7) (rn _ ?t1 ?t2 ?t3 ?t4 ?t5 ?t6 ?t7) hc hcl hcb hwl hdp hun ?oK 6 0 _ _ [] _ [] _ 0 (by omega) kS .nil (List.Perm.refl _) rfl ?oa ?ob ?oc)
  case oS =>
    k_dflt (simp only [cel6, List.cons_append, List.nil_append])
    k_dflt (k_extra "MemAll2")
  case oa => exact rfl
  case ob => exact rfl
  case oc => exact rfl
  case o3 => k_extra "LT"
  case o4 => k_extra "LT"
  case o5 => k_extra "LT"
  case r1 => k_ne
  case r2 => k_ne
  case r3 => k_ne
  case r4 => k_ne
  case r5 => k_ne
  case r6 => k_ne
  case r7 => k_ne
  case s1 => k_ne
  case s2 => k_ne
  case s3 => k_ne
  case s4 => k_ne
  case s5 => k_ne
  case s6 => k_ne
  case s7 => k_ne
  case t1 => k_ne
  case t2 => k_ne
  case t3 => k_ne
  case t4 => k_ne
  case t5 => k_ne
  case t6 => k_ne
  case t7 => k_ne
  case oK =>
    intro h' tk' m' lv sv ls ss nl ns F' N' S1 S2 P hl q1 q2
    dsimp only
    refine' K _ _ _ _ sv ss ls ns F' (Newss.sub N' fun q hq => ?_) S2 P hl q1 q2 ?oz
    · revert q
      k_dflt (simp only [cel6, List.cons_append, List.nil_append])
      k_dflt (k_extra "MemAll2")
    · omega

end

section
open PyProof.Rows.LCg
theorem sua9comp_1 : True := by
  w_top off
  (k_with "e201" => skip)
  (k_with "e202" => skip)
  (k_with "e200" => skip)
  trivial
theorem mapStrs {prog : Program} {w : World} {A : Around} {E : Value → Shared → Prop} {h₀ : Heap} {env : Env} {s : Shared} {m : Str → Option Value} {Q : Value → Shared → Prop} {elt iter : Expr} {x : Str} {px pos : Pos} {sc : Scope} {cl : List (Str × Addr)}
   (f : Str → Str) (src : Addr) (sv : List Value) (ss : List Str) (n : Nat) (news : List (Addr × Obj)) (hh : A.handled = none) (F : Fr h₀ env.locals s.heap m) (N : News h₀ env.locals s.heap news) (hb3 : (src, listOf sv.toArray n) ∈ news) (hS : StrsAre sv ss) (hl : ss.length ≤ 50)
   (hclos : closureFor sc env = pure cl) (hcell : ∀ y ∈ sc.names, y.2 ≠ .cell) (hkind : sc.kind = .function)
   (hnames : ∀ y ∈ sc.names, y.2 = .local → sc.names.lookup y.1 = some .local) (hx : sc.names.lookup x = some .local)
   (hit : ∀ P : Value → Shared → Prop, P (.ref src) s → wpAny (model prog w) A (eval iter env) P E s) (hs : ∀ x, foldedSetIterable iter env x = pure x)
   (helt : ∀ (C : Addr) (oC : Obj) (m₂ : Str → Option Value) (y : Str) (t : Tok) (s₁ : Shared) (E' : Value → Shared → Prop) (Q' : Value → Shared → Prop) (n1 : List (Addr × Obj)), NsObj oC m₂ → m₂ x = some (.str y t) → y ∈ ss → Fr h₀ env.locals s₁.heap m → News h₀ env.locals s₁.heap ((C, oC) :: (n1 ++ news)) →
      (∀ h' tk' t', Fr h₀ env.locals h' m → News h₀ env.locals h' ((C, oC) :: (n1 ++ news)) → Q' (.str (f y) t') { s₁ with heap := h', toks := tk' }) → wpAny (model prog w) A (eval elt (compEnvC sc cl C env)) Q' E' s₁)
   (K : ∀ (D : Addr) (ys : List Value) (h' : Heap) (tk' : Nat), StrsAre ys (ss.map f) → Fr h₀ env.locals h' m → News h₀ env.locals h' ((D, listOf ys.toArray ys.length) :: news) → (∀ q ∈ news, q.1 ≠ D) → Q (.ref D) { s with heap := h', toks := tk' }) :
   wpAny (model prog w) A (eval (.ListComp elt [⟨.Name x px, iter, [], 0⟩] sc pos) env) Q E s := by
  have lv := StrsAre.length hS
  have rest : ∀ d i ys (g : Heap), i + d = ss.length → StrsAre ys ((ss.take i).map f) → CompRest prog w A h₀ env.locals m env elt x sc cl { s with heap := g } (SrcAt h₀ src sv.toArray) (fun i v => sv.toArray[i]? = some v) (FinE h₀ env.locals m { s with heap := g } Q) d i ys news := by
    intro d
    induction d with
    | zero =>
      intro i ys g hi hys
      refine CompRest.zero fun D h tk F' N' o1 => ?_
      rw [show i = ss.length by omega, List.take_length] at hys
      exact K D ys h tk hys F' N' (off1_mem o1)
    | succ d ih =>
      intro i ys g hi hys
      refine CompRest.succ fun v I oI C oC D m₂ h tk E' hP hC e2 F' N' off hne => ?_
      have hlt : i < ss.length := by omega
      have hv : sv[i]? = some v := by simpa using hP
      obtain ⟨t, ht⟩ := StrsAre.get hS i ss[i] (by simp [hlt])
      rw [hv] at ht
      cases ht
      refine helt C oC m₂ ss[i] t _ E' _ [(I, oI), (D, lst ys)] hC e2 (List.getElem_mem hlt) F' (Newss.sub N' fun q hq => ?_) ?_
      · simp only [List.cons_append, List.nil_append, List.mem_cons] at hq ⊢
        rcases hq with hq | hq | hq | hq
        · exact .inr (.inl hq)
        · exact .inl hq
        · exact .inr (.inr (.inl hq))
        · exact .inr (.inr (.inr hq))
      · intro h' tk' t' F2 N2
        refine ⟨h', tk', news, rfl, F2, Newss.sub N2 fun q hq => ?_, off, .inr ⟨_, hb3, rfl, n, rfl⟩, ih (i + 1) _ g (by omega) ?_⟩
        · simp only [List.cons_append, List.nil_append, List.mem_cons] at hq ⊢
          rcases hq with hq | hq | hq | hq
          · exact .inr (.inl hq)
          · exact .inl hq
          · exact .inr (.inr (.inl hq))
          · exact .inr (.inr (.inr hq))
        · rw [List.take_add_one, List.getElem?_eq_getElem hlt, List.map_append]
          exact strsAre_snoc hys _ _
  refine ListComp_U (x := x) (cl := cl) F hclos hcell hkind hnames hx (hit _ ?_) hs
  refine CompSrc.ledger hh F N hb3 ?_ fun g => ?_
  · rw [List.size_toArray, lv, sizeLine_eq]; omega
  · rw [List.size_toArray, lv]
    exact rest ss.length 0 [] g (by omega) .nil
theorem mapSrc {prog : Program} {w : World} {A : Around} {h₀ : Heap} {env : Env} {s : Shared} {m : Str → Option Value} {Fin : Shared → List Value → List (Addr × Obj) → Prop} {elt : Expr} {x : Str} {sc : Scope} {cl : List (Str × Addr)}
   {L : Addr} (hL : env.locals = L) (f : Str → Str) (src : Addr) (sv : List Value) (ss : List Str) (n : Nat) (news : List (Addr × Obj)) (hh : A.handled = none) (F : Fr h₀ L s.heap m) (N : News h₀ L s.heap news) (hb3 : (src, listOf sv.toArray n) ∈ news) (hS : StrsAre sv ss) (hl : ss.length ≤ 50)
      (helt : ∀ (C : Addr) (oC : Obj) (m₂ : Str → Option Value) (y : Str) (t : Tok) (s₁ : Shared) (E' : Value → Shared → Prop) (Q' : Value → Shared → Prop) (n1 : List (Addr × Obj)), NsObj oC m₂ → m₂ x = some (.str y t) → y ∈ ss → Fr h₀ L s₁.heap m → News h₀ L s₁.heap ((C, oC) :: (n1 ++ news)) →
      (∀ h' tk' t', Fr h₀ L h' m → News h₀ L h' ((C, oC) :: (n1 ++ news)) → Q' (.str (f y) t') { s₁ with heap := h', toks := tk' }) → wpAny (model prog w) A (eval elt (compEnvC sc cl C env)) Q' E' s₁)
   (K : ∀ (g : Heap) (ys : List Value), StrsAre ys (ss.map f) → Fin { s with heap := g } ys news) :
   CompSrc prog w A h₀ L m env elt x sc cl Fin (.ref src) s := by
  subst hL
  have lv := StrsAre.length hS
  have rest : ∀ d i ys (g : Heap), i + d = ss.length → StrsAre ys ((ss.take i).map f) → CompRest prog w A h₀ env.locals m env elt x sc cl { s with heap := g } (SrcAt h₀ src sv.toArray) (fun i v => sv.toArray[i]? = some v) (Fin { s with heap := g }) d i ys news := by
    intro d
    induction d with
    | zero =>
      intro i ys g hi hys
      rw [show i = ss.length by omega, List.take_length] at hys
      exact CompRest.zero (K g ys hys)
    | succ d ih =>
      intro i ys g hi hys
      refine CompRest.succ fun v I oI C oC D m₂ h tk E' hP hC e2 F' N' off hne => ?_
      have hlt : i < ss.length := by omega
      have hv : sv[i]? = some v := by simpa using hP
      obtain ⟨t, ht⟩ := StrsAre.get hS i ss[i] (by simp [hlt])
      rw [hv] at ht
      cases ht
      refine helt C oC m₂ ss[i] t _ E' _ [(I, oI), (D, lst ys)] hC e2 (List.getElem_mem hlt) F' (Newss.sub N' fun q hq => ?_) ?_
      · simp only [List.cons_append, List.nil_append, List.mem_cons] at hq ⊢
        rcases hq with hq | hq | hq | hq
        · exact .inr (.inl hq)
        · exact .inl hq
        · exact .inr (.inr (.inl hq))
        · exact .inr (.inr (.inr hq))
      · intro h' tk' t' F2 N2
        refine ⟨h', tk', news, rfl, F2, Newss.sub N2 fun q hq => ?_, off, .inr ⟨_, hb3, rfl, n, rfl⟩, ih (i + 1) _ g (by omega) ?_⟩
        · simp only [List.cons_append, List.nil_append, List.mem_cons] at hq ⊢
          rcases hq with hq | hq | hq | hq
          · exact .inr (.inl hq)
          · exact .inl hq
          · exact .inr (.inr (.inl hq))
          · exact .inr (.inr (.inr hq))
        · rw [List.take_add_one, List.getElem?_eq_getElem hlt, List.map_append]
          exact strsAre_snoc hys _ _
  refine CompSrc.ledger hh F N hb3 ?_ fun g => ?_
  · rw [List.size_toArray, lv, sizeLine_eq]; omega
  · rw [List.size_toArray, lv]
    exact rest ss.length 0 [] g (by omega) .nil

end

section
open PyProof.Rows.LCg

theorem sub1names_1 : True := by
  w_top off
  (k_with "call ref" => ((fail_if_success k_extra "e203"); ((k_here; (with_reducible show wpAny _ _ (call (Value.ref (escF _)) [Value.str _ _]) _ _ _); k_dflt (refine' HC.use (esc_c _ _ _ _ _ ?xz129 _ ?hkz129) ?Bz129 ?Fz129 ?Xz129 ?Nz129 ?Tz129 ?skz129 ?Gz129 ?dz129 ?uz129 (List.forall_mem_nil _) (fun q hq => hq) (fun q hq h => nomatch h) ?_; (case xz129 => omega); (case hkz129 => assumption); (case Bz129 => k_asm); (case Fz129 => k_asm); (case Xz129 => k_asm); (case Nz129 => k_asm); (case Tz129 => k_asm); (case skz129 => exact rfl); (case Gz129 => assumption); (case dz129 => omega); (case uz129 => omega); intro v' news' h' tk' F' N' P'; obtain ⟨t', e1', e2'⟩ := P'; subst e1' e2')))))
  (k_with "callWith ref" => ((fail_if_success k_extra "e204"); ((k_here; k_dflt (refine' callWith_esc ?kz132 ?_; (case kz132 => assumption))))))
  trivial
def nmE : Expr × Scope := exS (stX lawB 9)
def nmSc : Scope := nmE.2
theorem escElt (w : World) (mg mb : Str → Option Value) (fa : Addr) (cd : Value)
   (p : Program) (loose : List Str) (mean : ExcName → Option Value) (dp un : Nat) (gd : Option (List Code)) (a : Addr) (ccd : Value) (cl : List (Str × Addr)) (outer : List Env) (A₀ : Around) (base h₀ : Heap) (L : Addr) (m : Str → Option Value) (s : Shared) (Q : Value → Shared → Prop) (E : Value → Shared → Prop)
   (B : Below A₀ base outer h₀) (X : (hd.heap_39 w.params).In h₀) (T : Top p loose mean mg mb h₀) (F : Fr h₀ L s.heap m) (HG : CodeHd base 99 95)
   (C cw : Addr) (oC o2 : Obj) (m₂ : Str → Option Value) (kw : Nat) (y : Str) (t : Tok) (rest : List (Addr × Obj)) (cl2 : List (Str × Addr)) (hcl : cl2 = [(("escape" : Str), cw)]) (p1 p2 p4 : Pos)
   (N : News h₀ L s.heap ([(C, oC), (cw, o2)] ++ rest)) (hok : o2.data = .cell (some (.ref (escF kw)))) (hkw : kw < 5)
   (hC : NsObj oC m₂) (e1 : m₂ "sign" = some (.str y t)) (hy : y.length ≤ 1000) (hdp : dp + 40 < recursionLimit) (hun : un + 400 < cLine)
   (K : ∀ (h' : Heap) (tk' : Nat) (t' : Tok), Fr h₀ L h' m → News h₀ L h' ([(C, oC), (cw, o2)] ++ rest) → Q (.str (escS (tabW kw) y) t') { s with heap := h', toks := tk' }) :
   wpAny (model pg w) (ktrTop dp un gd "law" (scopeAt w 138) L a ccd cl outer) (eval (.Call (.Name "escape" p1) [.Name "sign" p2] [] p4) (compEnvC nmSc cl2 C (envOfC "law" (scopeAt w 138) L fa cd))) Q E s := by
  have q1 : nmSc = Scope.mk _ _ _ _ _ := rfl
  have q2 : scopeAt w 138 = Scope.mk _ _ _ _ _ := rfl
  rw [q1, q2]
  subst hcl
  k_steps

  exact K _ _ _ (by k_asm) (by k_asm)

end

section
open PyProof.Rows.LCg
open PySem.Spec PyProof.V PySem.SeqAt
theorem sub2cmp_1 : True := by
  w_top off
  (k_with "e203" => skip)
  (k_with "e204" => skip)
  trivial
theorem reads_of_strs {h : Heap} {a : Addr} {vs : List Value} {ss : List Str} (hl : h.IsList a vs.toArray) (hi : StrsAre vs ss) : Reads h (.ref a) (.list (ss.map PyData.str)) [a] := by
  obtain ⟨o, ho, hc, n, hd⟩ := hl
  exact Reads.list ho hc hd (by simpa using StrsAre.reads h hi)
theorem canLayAll0_strs : ∀ ss : List Str, (∀ x ∈ ss, PyData.strOk x = true) → PyData.canLayAll0 (ss.map PyData.str) = true
  | [], _ => by simp [PyData.canLayAll0]
  | x :: r, h => by
    simp only [List.map_cons, PyData.canLayAll0, PyData.canLay0, h x List.mem_cons_self, canLayAll0_strs r fun y hy => h y (List.mem_cons_of_mem _ hy), Bool.and_self]
theorem depthAll_strs : ∀ ss : List Str, PyData.depthAll (ss.map PyData.str) ≤ 1
  | [] => by simp [PyData.depthAll]
  | n :: r => by
    have := depthAll_strs r
    simp only [List.map_cons, PyData.depthAll, PyData.depth]
    omega
theorem shaped_strs (ss : List Str) (h : ∀ x ∈ ss, PyData.strOk x = true) : shaped (.list (ss.map PyData.str)) = true := by
  have h1 := depthAll_strs ss
  have h2 : PyData.depth (.list (ss.map PyData.str)) ≤ 64 := by simp only [PyData.depth]; omega
  show (PyData.canLay0 (.list (ss.map PyData.str)) && decide (PyData.depth (.list (ss.map PyData.str)) ≤ 64)) = true
  rw [Bool.and_eq_true]
  exact ⟨by simp only [PyData.canLay0]; exact canLayAll0_strs ss h, decide_eq_true h2⟩
theorem noMix_strs : ∀ ns ms : List Str, noMixAll (ns.map PyData.str) (ms.map PyData.str) = true
  | [], [] => by simp [noMixAll]
  | [], _ :: _ => by simp [noMixAll]
  | _ :: _, [] => by simp [noMixAll]
  | _ :: r, _ :: q => by simp [noMixAll, noMix, noMix_strs r q]
theorem ne_strsSame {prog : Program} {w : World} {A : Around} {E : Value → Shared → Prop} {s : Shared} {a b : Addr} {vs us : List Value} {ss : List Str} {Q : Value → Shared → Prop} (hl : s.heap.IsList a vs.toArray) (hi : StrsAre vs ss) (hl' : s.heap.IsList b us.toArray) (hi' : StrsAre us ss) (hok : ∀ x ∈ ss, PyData.strOk x = true) (hu : A.units + 64 < cLine)
    (h : Q (.bool false) s) : wpAny (model prog w) A (compareOp .NotEq (.ref a) (.ref b)) Q E s :=
  ne_dataH_same (reads_of_strs hl hi) (reads_of_strs hl' hi') (shaped_strs ss hok) (shaped_strs ss hok) hu (by simp only [noMix]; exact noMix_strs ss ss) (by rw [same_refl]; exact h)

end

section
open PyProof.Rows.LCg
theorem sub3seg_1 : True := by
  w_top off
  (k_with "eval ListComp" => ((fail_if_success k_extra "e205"); ((k_here; refine Hold.out ?_))))
  (k_with "compareOp NotEq ref ref" => ((fail_if_success k_extra "e206"); ((k_here; refine Hold.out ?_))))
  trivial
theorem spSc_ok : spE2.2 = spSc := rfl
theorem tabW_ok : ∀ k, ((tabW k).all fun p => p.2.cps.toList.all (· < 1114112)) = true
  | 0 => by decide +kernel
  | 1 => by decide +kernel
  | 2 => by decide +kernel
  | 3 => by decide +kernel
  | _ + 4 => by
    show ((tab5).all fun p => p.2.cps.toList.all (· < 1114112)) = true
    decide +kernel
theorem spell_ok (k c : Nat) (hc : c < 55296) : PyData.strOk (spell k c) = true := by
  unfold PyData.strOk
  rw [← Array.all_toList, List.all_eq_true]
  intro x hx
  have hx : x ∈ [c].flatMap (entL (tabW k)) := hx
  rw [List.flatMap_singleton] at hx
  unfold entL at hx
  split at hx
  · rename_i q e
    have h1 := List.all_eq_true.mp (tabW_ok k) _ (List.mem_of_find?_eq_some e)
    exact List.all_eq_true.mp h1 x hx
  · rw [List.mem_singleton.mp hx]
    exact decide_eq_true (by omega)
theorem seg4 (w : World) (mg mb : Str → Option Value) (fa : Addr) (cd : Value)
   (p : Program) (loose : List Str) (mean : ExcName → Option Value) (dp un : Nat) (gd : Option (List Code)) (a : Addr) (ccd : Value) (cl : List (Str × Addr)) (outer : List Env) (A₀ : Around) (base h₀ : Heap) (L : Addr) (m : Str → Option Value) (s : Shared) (Q : Flow → Shared → Prop) (E : Value → Shared → Prop)
   (B : Below A₀ base outer h₀) (X : (hd.heap_39 w.params).In h₀) (T : Top p loose mean mg mb h₀) (F : Fr h₀ L s.heap m) (HG : CodeHd base 99 95)
   (o1 o2 o3 o4 o5 o6 t95 : Obj) (l sg : Addr) (vals sv : List Value) (kw ns : Nat) (cs : List Nat) (tw : Tok)
   (N : News h₀ L s.heap ((sg, listOf sv.toArray ns) :: (cel6 L o1 o2 o3 o4 o5 o6 ++ [(95, t95), (l, listOf vals.toArray 0)])))
   (h1 : @LT.lt Nat _ 95 L) (h2 : @LT.lt Nat _ (L + 6) l) (h3 : @LT.lt Nat _ l sg) (k1 : o1.data = .cell (some (.int (kw : Nat) tw))) (k2 : o2.data = .cell (some (.ref (escF kw)))) (hkw : kw < 5)
   (hS : StrsAre sv (cs.map fun c => ⟨#[c]⟩)) (hl6 : cs.length = 6) (hcs : ∀ c ∈ cs, c < 55296)
   (m1 : m "cells" = some (.ref l)) (m2 : m "signs" = some (.ref sg)) (hdp : dp + 40 < recursionLimit) (hun : un + 500 < cLine)
   (K : ∀ (h' : Heap) (tk' : Nat) (m' : Str → Option Value) (nl : Addr) (nv : List Value) (nn : Nat), Fr h₀ L h' m' → News h₀ L h' ((nl, listOf nv.toArray nn) :: (sg, listOf sv.toArray ns) :: (cel6 L o1 o2 o3 o4 o5 o6 ++ [(95, t95), (l, listOf vals.toArray 0)])) → StrsAre nv (cs.map (spell kw)) → m' "cells" = some (.ref l) → m' "signs" = some (.ref sg) → m' "names" = some (.ref nl) → (∀ q ∈ ((sg, listOf sv.toArray ns) :: (cel6 L o1 o2 o3 o4 o5 o6 ++ [(95, t95), (l, listOf vals.toArray 0)])), q.1 ≠ nl) →
      wpAny (model pg w) (ktrTop dp un gd "law" (scopeAt w 138) L a ccd cl outer) (execs (lawB.drop 11) (envOfC "law" (scopeAt w 138) L fa cd)) Q E { s with heap := h', toks := tk' }) :
   wpAny (model pg w) (ktrTop dp un gd "law" (scopeAt w 138) L a ccd cl outer) (execs (lawB.drop 9) (envOfC "law" (scopeAt w 138) L fa cd)) Q E s := by
  have e1 : lawB.drop 9 = _ :: _ :: lawB.drop 11 := rfl
  have e2 : scopeAt w 138 = Scope.mk _ _ _ _ _ := rfl
  generalize hR : lawB.drop 11 = R at *
  rw [e1]
  rw [e2] at K ⊢
  have F := Mine.Fr.pin (Mine.Fr.pin F (x := "cells") m1) (x := "signs") m2
  simp only [cel6, List.cons_append, List.nil_append] at N
  k_steps
  refine' mapSrc ?qL (escS (tabW kw)) sg sv _ ns _ ?qh ?qF ?qN ?qm hS ?ql ?qe ?qK
  case qL => exact rfl
  case qh => exact rfl
  case qF => k_asm
  case qN => k_asm
  case qm => k_mem
  case ql => rw [List.length_map]; omega
  case qe =>
    intro C oC m₂ y t s₁ E' Q' n1 hC e1 hy F1 N1 K1
    obtain ⟨c, hc, rfl⟩ := List.mem_map.mp hy
    refine escElt w mg mb fa cd p loose mean dp un gd a ccd cl outer A₀ base h₀ L _ _ _ _ B X T F1 HG C (L + 1 + 1) oC o2 m₂ kw _ t (n1 ++ ((sg, listOf sv.toArray ns) :: (cel6 L o1 o2 o3 o4 o5 o6 ++ [(95, t95), (l, listOf vals.toArray 0)]))) _ rfl _ _ _ (Newss.sub N1 fun q hq => ?_) k2 hkw hC e1 (by show 1 ≤ 1000; omega) hdp (by omega) ?_
    · rcases List.mem_cons.mp hq with rfl | hq
      · exact List.mem_cons_self
      rcases List.mem_cons.mp hq with rfl | hq
      · exact List.mem_cons_of_mem _ (List.mem_append_right _ (by k_mem))
      · exact List.mem_cons_of_mem _ hq
    · intro h' tk' t' F2 N2
      exact K1 h' tk' t' F2 (Newss.sub N2 fun q hq => by
        rcases List.mem_cons.mp hq with rfl | hq
        · exact List.mem_cons_self
        · exact List.mem_cons_of_mem _ (List.mem_cons_of_mem _ hq))
  case qK =>
    intro g ys hys D h' tk' F' N' u1
    dsimp only
    k_steps
    refine ⟨?_⟩
    refine' mapStrs (cl := [(("which" : Str), L + 1)]) (fun y => escS (tabW kw) y) sg sv _ ns _ ?rh ?rF ?rN ?rm hS ?rl ?rc ?rd ?re ?rf ?rg ?rt ?rs ?ru ?rK
    case rh => exact rfl
    case rF => exact F'
    case rN => exact N'
    case rm => k_dflt (k_mem)
    case rl => rw [List.length_map]; omega
    case rc => exact rfl
    case rd => decide
    case re => exact rfl
    case rf => decide +kernel
    case rg => exact rfl
    case rs => exact fun _ => rfl
    case rt =>
      intro P hP
      k_steps
      exact hP
    case ru =>
      intro C oC m₂ y t s₁ E' Q' n1 hC e1 hy F1 N1 K1
      obtain ⟨c, hc, rfl⟩ := List.mem_map.mp hy
      refine spellElt w mg mb fa cd p loose mean dp un gd a ccd cl outer A₀ base h₀ L _ _ _ _ B X T F1 HG C (L + 1) oC o1 m₂ kw c tw t (n1 ++ ((D, lst ys) :: (sg, listOf sv.toArray ns) :: (cel6 L o1 o2 o3 o4 o5 o6 ++ [(95, t95), (l, listOf vals.toArray 0)]))) _ rfl _ _ _ _ (Newss.sub N1 fun q hq => ?_) k1 hkw hC e1 (by omega) (by omega) ?_
      · rcases List.mem_cons.mp hq with rfl | hq
        · exact List.mem_cons_self
        rcases List.mem_cons.mp hq with rfl | hq
        · exact List.mem_cons_of_mem _ (List.mem_append_right _ (by k_mem))
        · exact List.mem_cons_of_mem _ hq
      · intro h' tk' t' F2 N2
        exact K1 h' tk' t' F2 (Newss.sub N2 fun q hq => by
          rcases List.mem_cons.mp hq with rfl | hq
          · exact List.mem_cons_self
          · exact List.mem_cons_of_mem _ (List.mem_cons_of_mem _ hq))
    case rK =>
      intro D' ys' h'' tk'' hys' F'' N'' o1'
      k_steps
      refine ⟨?_⟩
      have hys0 : StrsAre ys (cs.map (spell kw)) := by rw [List.map_map] at hys; exact hys
      have hys1 : StrsAre ys' (cs.map (spell kw)) := by rw [List.map_map] at hys'; exact hys'
      refine ne_strsSame (vs := ys) (us := ys') (ss := cs.map (spell kw)) ?sa hys0 ?sc hys1 ?se ?sf ?sg
      case sg =>
        k_steps
        dsimp only
        refine' K _ _ _ D ys ys.length ?ta ?tb hys0 ?td ?te ?tf (off1_mem u1)
        case ta => k_asm
        case tb => exact Newss.sub N'' (fun q hq => by
          rcases List.mem_cons.mp hq with rfl | hq
          · k_mem
          · exact List.mem_cons_of_mem _ (List.mem_cons_of_mem _ hq))
        case td => exact rfl
        case te => exact rfl
        case tf => exact rfl
      case sa => exact News.isList N'' (by k_mem)
      case sc => exact News.isList N'' (by k_mem)
      case se =>
        intro x hx
        obtain ⟨c, hc, rfl⟩ := List.mem_map.mp hx
        exact spell_ok kw c (hcs c hc)
      case sf => show un + 64 < cLine; omega

end

section
def memb : Nat → Nat
  | 0 => 0
  | n + 1 => memb n + 100 ^ n
def facB : Nat → Nat
  | 0 => 1
  | n + 1 => memb (n + 1) * facB n
def qbG (f : Nat → Nat) (a : Nat) : Nat → Nat
  | 0 => 1
  | b + 1 => f (b + 1) + 100 ^ (a + 1) * qbG f a b
def qb : Nat → Nat → Nat
  | 0 => fun _ => 1
  | a + 1 => qbG (qb a) a
theorem memb_add (a : Nat) : ∀ b, memb (a + b) = memb a + 100 ^ a * memb b
  | 0 => by simp [memb]
  | b + 1 => by
    show memb (a + b) + 100 ^ (a + b) = memb a + 100 ^ a * (memb b + 100 ^ b)
    rw [memb_add a b, Nat.mul_add, Nat.pow_add, Nat.add_assoc]
theorem memb_pos (n : Nat) : 0 < memb (n + 1) := by
  show 0 < memb n + 100 ^ n
  have := Nat.pow_pos (n := n) (show 0 < 100 by decide)
  omega
theorem facB_pos : ∀ n, 0 < facB n
  | 0 => Nat.one_pos
  | n + 1 => Nat.mul_pos (memb_pos n) (facB_pos n)
theorem qb_n (b : Nat) : qb 0 b = 1 := rfl
theorem qb_zero : ∀ a : Nat, qb a 0 = 1
  | 0 => rfl
  | _ + 1 => rfl
theorem qb_ss (a b : Nat) : qb (a + 1) (b + 1) = qb a (b + 1) + 100 ^ (a + 1) * qb (a + 1) b := rfl
/-- a double recursion, the first argument down with any second, then the second -/
theorem lex2 {α β : Type} {P : List α → List β → Prop} (h1 : ∀ b, P [] b) (h2 : ∀ x a, P (x :: a) []) (h3 : ∀ x a y b, P a (y :: b) → P (x :: a) b → P (x :: a) (y :: b)) : ∀ a b, P a b
  | [] => h1
  | x :: a => fun b => by
    induction b with
    | nil => exact h2 x a
    | cons y b ih => exact h3 x a y b (lex2 h1 h2 h3 a _) ih
theorem mulA (P U N V q R M X : Nat) (h1 : P * (U * (N * V)) = X) (h2 : R * (M * U * V) = X) : (P + q * R) * (M * U * (N * V)) = (M + q * N) * X := by
  rw [Nat.add_mul, Nat.add_mul]
  congr 1
  · rw [← h1]; simp only [Nat.mul_left_comm, Nat.mul_assoc]
  · rw [← h2]; simp only [Nat.mul_left_comm, Nat.mul_assoc]
theorem qb_fac : ∀ a b, qb a b * (facB a * facB b) = facB (a + b)
  | 0, b => by rw [qb_n, Nat.one_mul, Nat.zero_add]; exact Nat.one_mul _
  | a + 1, b => by
    induction b with
    | zero => rw [qb_zero, Nat.one_mul]; exact Nat.mul_one _
    | succ b ih =>
      have h1 := qb_fac a (b + 1)
      have ih : qb (a + 1) b * (memb (a + 1) * facB a * facB b) = facB (a + (b + 1)) := ih.trans (congrArg facB (Nat.succ_add_eq_add_succ a b))
      rw [qb_ss, Nat.succ_add]
      show _ = memb (a + (b + 1) + 1) * facB (a + (b + 1))
      rw [show a + (b + 1) + 1 = (a + 1) + (b + 1) from (Nat.succ_add _ _).symm, memb_add (a + 1) (b + 1)]
      exact mulA _ _ _ _ _ _ _ _ h1 ih
theorem mulB (P U N V q R M X : Nat) (h1 : P * (U * (N * V)) = X) (h2 : R * (M * U * V) = X) : (N + q * M) * X = (q * P + R) * (M * U * (N * V)) := by
  rw [Nat.add_mul, Nat.add_mul, Nat.add_comm]
  congr 1
  · rw [← h1]; simp only [Nat.mul_left_comm, Nat.mul_assoc]
  · rw [← h2]; simp only [Nat.mul_left_comm, Nat.mul_assoc]
theorem qb_pas (a b : Nat) : qb (a + 1) (b + 1) = 100 ^ (b + 1) * qb a (b + 1) + qb (a + 1) b := by
  have h2 := qb_fac (a + 1) b
  rw [Nat.succ_add] at h2
  refine Nat.eq_of_mul_eq_mul_right (Nat.mul_pos (facB_pos (a + 1)) (facB_pos (b + 1))) ?_
  rw [qb_fac (a + 1) (b + 1), Nat.add_comm (a + 1) (b + 1), Nat.add_succ (b + 1) a]
  show memb (b + 1 + (a + 1)) * facB (b + 1 + a) = _
  rw [memb_add, Nat.add_comm (b + 1) a]
  exact mulB _ _ _ _ _ _ _ _ (qb_fac a (b + 1)) h2
def rshGo (x : Nat) (a : List Nat) (f : List Nat → List (List Nat)) : List Nat → List (List Nat)
  | [] => [x :: a]
  | y :: b => (f (y :: b)).map (x :: ·) ++ (rshGo x a f b).map (y :: ·)
def rsh : List Nat → List Nat → List (List Nat)
  | [] => fun b => [b]
  | x :: a => rshGo x a (rsh a)
theorem rsh_cc (x : Nat) (a : List Nat) (y : Nat) (b : List Nat) : rsh (x :: a) (y :: b) = (rsh a (y :: b)).map (x :: ·) ++ (rsh (x :: a) b).map (y :: ·) := rfl
theorem rsh_cn (x : Nat) (a : List Nat) : rsh (x :: a) [] = [x :: a] := rfl
theorem rsh_n (b : List Nat) : rsh [] b = [b] := rfl
theorem rsh_len : ∀ a b, ∀ l ∈ rsh a b, l.length = a.length + b.length := by
  refine lex2 ?_ ?_ ?_
  · intro b l h
    rw [List.mem_singleton.mp h]; exact (Nat.zero_add _).symm
  · intro x a l h
    rw [List.mem_singleton.mp h]; rfl
  · intro x a y b i1 i2 l h
    rcases List.mem_append.mp h with h | h
    · obtain ⟨l', h', rfl⟩ := List.mem_map.mp h
      rw [List.length_cons, i1 l' h']; exact (Nat.succ_add _ _).symm
    · obtain ⟨l', h', rfl⟩ := List.mem_map.mp h
      rw [List.length_cons, i2 l' h']; rfl
/-- the reversed row's falls, with z behind -/
def rmaj (key : Nat → Nat) (z : Nat) : List Nat → Nat
  | [] => 0
  | x :: l => (if key z < key x then l.length + 1 else 0) + rmaj key x l
def sumq (key : Nat → Nat) (z : Nat) (L : List (List Nat)) : Nat := (L.map fun l => 100 ^ rmaj key z l).sum
theorem sumq_app (key : Nat → Nat) (z : Nat) (L M : List (List Nat)) : sumq key z (L ++ M) = sumq key z L + sumq key z M := by simp [sumq]
theorem sumq_cons (key : Nat → Nat) (z x n : Nat) : ∀ L : List (List Nat), (∀ l ∈ L, l.length = n) → sumq key z (L.map (x :: ·)) = 100 ^ (if key z < key x then n + 1 else 0) * sumq key x L
  | [], _ => by simp [sumq]
  | l :: L, h => by
    have ih := sumq_cons key z x n L (fun l hl => h l (List.mem_cons_of_mem _ hl))
    have hl := h l (List.mem_cons_self ..)
    simp only [sumq, List.map_cons, List.sum_cons] at ih ⊢
    rw [Nat.mul_add, ← ih, rmaj, hl, Nat.pow_add]
theorem pw {p q : Prop} [Decidable p] (h : p ↔ q) [Decidable q] (n : Nat) : (if p then n else 0) = if q then n else 0 := by simp only [h]
theorem mulC (T P R q r W : Nat) (p1 : T = P + q * R) (p2 : T = r * P + R) (x y z : Nat) (hxy : x ≠ y) (A B C D E F : Nat)
    (hA : A = if z < x then q * r else 1) (hB : B = if x < y then r else 1) (hC : C = if z < y then q * r else 1) (hD : D = if y < x then q else 1)
    (hE : E = if z < x then q else 1) (hF : F = if z < y then r else 1) :
    A * (P * (B * W)) + C * (R * (D * W)) = T * (E * F * W) := by
  have e : ∀ A P s : Nat, A * (P * (s * W)) = s * P * (A * W) := fun A P s => by rw [← Nat.mul_assoc P, Nat.mul_left_comm A, Nat.mul_comm P]
  have gen : ∀ A s t : Nat, A * (P * (s * W)) + A * (R * (t * W)) = (s * P + t * R) * (A * W) := fun A s t => by rw [e, e, ← Nat.add_mul]
  have k1 : q * r * (P * (r * W)) + q * r * (R * (1 * W)) = T * (q * r * W) := by rw [gen, p2, Nat.one_mul]
  have k2 : q * r * (P * (1 * W)) + q * r * (R * (q * W)) = T * (q * r * W) := by rw [gen, p1, Nat.one_mul]
  have k3 : 1 * (P * (r * W)) + 1 * (R * (1 * W)) = T * (1 * 1 * W) := by rw [gen, p2, Nat.one_mul R]
  have k4 : 1 * (P * (1 * W)) + 1 * (R * (q * W)) = T * (1 * 1 * W) := by rw [gen, p1, Nat.one_mul P]
  have k5 : 1 * (P * (r * W)) + q * r * (R * (1 * W)) = T * (1 * r * W) := by
    rw [Nat.one_mul, Nat.one_mul, Nat.one_mul, p1, Nat.add_mul, Nat.mul_assoc q r, Nat.mul_left_comm r R, ← Nat.mul_assoc q R]
  have k6 : q * r * (P * (1 * W)) + 1 * (R * (q * W)) = T * (q * 1 * W) := by
    rw [Nat.one_mul, Nat.one_mul, Nat.mul_one, p2, Nat.add_mul, Nat.mul_comm q, Nat.mul_assoc r q, Nat.mul_left_comm q, ← Nat.mul_assoc r]
  subst hA hB hC hD hE hF
  rcases Nat.lt_or_gt_of_ne hxy with h | h
  · rw [if_pos h, if_neg (Nat.lt_asymm h)]
    by_cases hx : z < x
    · rw [if_pos hx, if_pos hx, if_pos (Nat.lt_trans hx h), if_pos (Nat.lt_trans hx h)]; exact k1
    · rw [if_neg hx, if_neg hx]
      by_cases hy : z < y
      · rw [if_pos hy, if_pos hy]; exact k5
      · rw [if_neg hy, if_neg hy]; exact k3
  · rw [if_pos h, if_neg (Nat.lt_asymm h)]
    by_cases hy : z < y
    · rw [if_pos hy, if_pos hy, if_pos (Nat.lt_trans hy h), if_pos (Nat.lt_trans hy h)]; exact k2
    · rw [if_neg hy, if_neg hy]
      by_cases hx : z < x
      · rw [if_pos hx, if_pos hx]; exact k6
      · rw [if_neg hx, if_neg hx]; exact k4
theorem powIte {p : Prop} [Decidable p] (n : Nat) : 100 ^ (if p then n else 0) = if p then 100 ^ n else 1 := apply_ite (100 ^ ·) p n 0
theorem rsh_sum (key : Nat → Nat) : ∀ a b z, (∀ x ∈ a, ∀ y ∈ b, key x ≠ key y) → sumq key z (rsh a b) = qb a.length b.length * 100 ^ (rmaj key z a + rmaj key z b) := by
  refine lex2 ?_ ?_ ?_
  · intro b z _
    show 100 ^ rmaj key z b + 0 = 1 * 100 ^ (0 + rmaj key z b)
    rw [Nat.one_mul, Nat.zero_add, Nat.add_zero]
  · intro x a z _
    show 100 ^ rmaj key z (x :: a) + 0 = qb _ 0 * 100 ^ (rmaj key z (x :: a) + 0)
    rw [qb_zero, Nat.one_mul, Nat.add_zero, Nat.add_zero]
  · intro x a y b i1 i2 z h
    rw [rsh_cc, sumq_app, sumq_cons key z x _ _ (rsh_len _ _), sumq_cons key z y _ _ (rsh_len _ _),
      i1 x (fun u hu v hv => h u (List.mem_cons_of_mem _ hu) v hv), i2 y (fun u hu v hv => h u hu v (List.mem_cons_of_mem _ hv))]
    show 100 ^ (if key z < key x then a.length + (b.length + 1) + 1 else 0) * (qb a.length (b.length + 1) * 100 ^ (rmaj key x a + ((if key x < key y then b.length + 1 else 0) + rmaj key y b)))
      + 100 ^ (if key z < key y then (a.length + 1) + b.length + 1 else 0) * (qb (a.length + 1) b.length * 100 ^ (((if key y < key x then a.length + 1 else 0) + rmaj key x a) + rmaj key y b))
      = qb (a.length + 1) (b.length + 1) * 100 ^ (((if key z < key x then a.length + 1 else 0) + rmaj key x a) + ((if key z < key y then b.length + 1 else 0) + rmaj key y b))
    have e : a.length + (b.length + 1) + 1 = (a.length + 1) + (b.length + 1) := (Nat.succ_add _ _).symm
    have f : (a.length + 1) + b.length + 1 = (a.length + 1) + (b.length + 1) := rfl
    have g1 : ∀ s t u : Nat, 100 ^ (t + (s + u)) = 100 ^ s * 100 ^ (t + u) := fun s t u => by rw [Nat.add_left_comm, Nat.pow_add]
    have g2 : ∀ s t u : Nat, 100 ^ ((s + t) + u) = 100 ^ s * 100 ^ (t + u) := fun s t u => by rw [Nat.add_assoc, Nat.pow_add]
    have g3 : ∀ s t u v : Nat, 100 ^ ((s + t) + (u + v)) = 100 ^ s * 100 ^ u * 100 ^ (t + v) := fun s t u v => by rw [Nat.add_add_add_comm, Nat.pow_add, Nat.pow_add]
    rw [e, f, g1, g2 (ite _ _ _), g3]
    simp only [powIte]
    exact mulC _ _ _ _ _ _ (qb_ss _ _) (qb_pas _ _) _ _ _ (h x (List.mem_cons_self ..) y (List.mem_cons_self ..)) _ _ _ _ _ _ (by rw [Nat.pow_add]) rfl (by rw [Nat.pow_add]) rfl rfl rfl
inductive Fo
  | nil
  | cons (r : Nat) (c s : Fo)
def Fo.size : Fo → Nat
  | .nil => 0
  | .cons _ c s => c.size + 1 + s.size
def Fo.nodes : Fo → List Nat
  | .nil => []
  | .cons r c s => r :: (c.nodes ++ s.nodes)
def Fo.lin : Fo → List (List Nat)
  | .nil => [[]]
  | .cons r c s => c.lin.flatMap fun a => s.lin.flatMap fun b => rsh (r :: a) b
/-- node, the one it is in, its weight -/
def Fo.ent (z : Nat) : Fo → List (Nat × Nat × Nat)
  | .nil => []
  | .cons r c s => (r, z, c.size + 1) :: (Fo.ent r c ++ Fo.ent z s)
def hookE (l : List (Nat × Nat × Nat)) : Nat := (l.map fun e => memb e.2.2).foldr (· * ·) 1
def fallE (key : Nat → Nat) (l : List (Nat × Nat × Nat)) : Nat := (l.map fun e => if key e.2.1 < key e.1 then 100 ^ e.2.2 else 1).foldr (· * ·) 1
theorem foldr_mul (l m : List Nat) : (l ++ m).foldr (· * ·) 1 = l.foldr (· * ·) 1 * m.foldr (· * ·) 1 := by
  induction l with
  | nil => simp
  | cons a l ih => simp only [List.cons_append, List.foldr_cons, ih, Nat.mul_assoc]
theorem hookE_app (l m) : hookE (l ++ m) = hookE l * hookE m := by unfold hookE; rw [List.map_append, foldr_mul]
theorem fallE_app (key) (l m) : fallE key (l ++ m) = fallE key l * fallE key m := by unfold fallE; rw [List.map_append, foldr_mul]
theorem rsh_mem : ∀ a b, ∀ l ∈ rsh a b, ∀ x ∈ l, x ∈ a ∨ x ∈ b := by
  refine lex2 ?_ ?_ ?_
  · intro b l h x hx
    rw [List.mem_singleton.mp h] at hx; exact .inr hx
  · intro y a l h x hx
    rw [List.mem_singleton.mp h] at hx; exact .inl hx
  · intro u a y b i1 i2 l h x hx
    rcases List.mem_append.mp h with h | h
    · obtain ⟨l', h', rfl⟩ := List.mem_map.mp h
      exact (List.mem_cons.mp hx).elim (fun e => .inl (e ▸ List.mem_cons_self ..)) fun hx => (i1 l' h' x hx).imp (List.mem_cons_of_mem _) id
    · obtain ⟨l', h', rfl⟩ := List.mem_map.mp h
      exact (List.mem_cons.mp hx).elim (fun e => .inr (e ▸ List.mem_cons_self ..)) fun hx => (i2 l' h' x hx).imp id (List.mem_cons_of_mem _)
theorem lin_ok : ∀ F : Fo, ∀ l ∈ F.lin, l.length = F.size ∧ ∀ x ∈ l, x ∈ F.nodes
  | .nil, l, h => by
    have h : l ∈ [[]] := h
    rw [List.mem_singleton.mp h]
    exact ⟨rfl, fun x hx => nomatch hx⟩
  | .cons r c s, l, h => by
    rw [Fo.lin, List.mem_flatMap] at h
    obtain ⟨a, ha, h⟩ := h
    rw [List.mem_flatMap] at h
    obtain ⟨b, hb, h⟩ := h
    obtain ⟨a1, a2⟩ := lin_ok c a ha
    obtain ⟨b1, b2⟩ := lin_ok s b hb
    refine ⟨?_, ?_⟩
    · rw [rsh_len _ _ l h, List.length_cons, a1, b1]; rfl
    · intro x hx
      show x ∈ r :: (c.nodes ++ s.nodes)
      rcases rsh_mem _ _ l h x hx with h | h
      · rcases List.mem_cons.mp h with rfl | h
        · exact List.mem_cons_self ..
        · exact List.mem_cons_of_mem _ (List.mem_append.mpr (.inl (a2 x h)))
      · exact List.mem_cons_of_mem _ (List.mem_append.mpr (.inr (b2 x h)))
def DistK (key : Nat → Nat) (l : List Nat) : Prop := l.Pairwise fun x y => key x ≠ key y
theorem sumq_flat {α : Type} (key : Nat → Nat) (z k : Nat) (f : α → List (List Nat)) (g : α → Nat) : ∀ L : List α, (∀ a ∈ L, sumq key z (f a) = k * g a) → sumq key z (L.flatMap f) = k * (L.map g).sum
  | [], _ => by simp [sumq]
  | a :: L, h => by
    rw [List.flatMap_cons, sumq_app, h a (List.mem_cons_self ..), sumq_flat key z k f g L fun b hb => h b (List.mem_cons_of_mem _ hb), List.map_cons, List.sum_cons, Nat.mul_add]
theorem sum_mul (k : Nat) {α : Type} (g : α → Nat) : ∀ L : List α, (L.map fun a => k * g a).sum = k * (L.map g).sum
  | [] => by simp
  | a :: L => by rw [List.map_cons, List.sum_cons, sum_mul k g L, List.map_cons, List.sum_cons, Nat.mul_add]
theorem bw (key : Nat → Nat) : ∀ (F : Fo) (z : Nat), DistK key F.nodes → sumq key z F.lin * hookE (F.ent z) = facB F.size * fallE key (F.ent z)
  | .nil, z, _ => by simp [Fo.lin, sumq, rmaj, hookE, Fo.ent, facB, Fo.size, fallE]
  | .cons r c s, z, hd => by
    have hd : (r :: (c.nodes ++ s.nodes)).Pairwise fun x y => key x ≠ key y := hd
    rw [List.pairwise_cons, List.pairwise_append] at hd
    obtain ⟨h0, h1, h2, h3⟩ := hd
    have i1 := bw key c r h1
    have i2 := bw key s z h2
    have e0 : ∀ a ∈ c.lin, ∀ b ∈ s.lin, sumq key z (rsh (r :: a) b) = (qb (c.size + 1) s.size * 100 ^ (if key z < key r then c.size + 1 else 0) * 100 ^ rmaj key r a) * 100 ^ rmaj key z b := by
      intro a ha b hb
      obtain ⟨a1, a2⟩ := lin_ok c a ha
      obtain ⟨b1, b2⟩ := lin_ok s b hb
      rw [rsh_sum key (r :: a) b z, List.length_cons, a1, b1, rmaj, a1, Nat.pow_add, Nat.pow_add]
      · simp only [Nat.mul_assoc]
      · intro x hx y hy
        rcases List.mem_cons.mp hx with rfl | hx
        · exact h0 y (List.mem_append.mpr (.inr (b2 y hy)))
        · exact h3 x (a2 x hx) y (b2 y hy)
    have e1 : ∀ a ∈ c.lin, sumq key z (s.lin.flatMap fun b => rsh (r :: a) b) = (qb (c.size + 1) s.size * 100 ^ (if key z < key r then c.size + 1 else 0) * sumq key z s.lin) * 100 ^ rmaj key r a := by
      intro a ha
      rw [sumq_flat key z _ _ (fun b => 100 ^ rmaj key z b) s.lin (e0 a ha)]
      show _ * sumq key z s.lin = _
      generalize sumq key z s.lin = S
      generalize qb (c.size + 1) s.size = T
      generalize 100 ^ rmaj key r a = U
      generalize (100 ^ if key z < key r then c.size + 1 else 0) = V
      grind
    have e2 : sumq key z (Fo.lin (.cons r c s)) = (qb (c.size + 1) s.size * 100 ^ (if key z < key r then c.size + 1 else 0) * sumq key z s.lin) * sumq key r c.lin :=
      sumq_flat key z _ _ (fun a => 100 ^ rmaj key r a) c.lin e1
    rw [e2]
    have e3 : hookE (Fo.ent z (.cons r c s)) = memb (c.size + 1) * (hookE (c.ent r) * hookE (s.ent z)) := by
      show hookE ([(r, z, c.size + 1)] ++ (Fo.ent r c ++ Fo.ent z s)) = _
      rw [hookE_app, hookE_app]
      show memb (c.size + 1) * 1 * _ = _
      rw [Nat.mul_one]
    have e4 : fallE key (Fo.ent z (.cons r c s)) = 100 ^ (if key z < key r then c.size + 1 else 0) * (fallE key (c.ent r) * fallE key (s.ent z)) := by
      show fallE key ([(r, z, c.size + 1)] ++ (Fo.ent r c ++ Fo.ent z s)) = _
      rw [fallE_app, fallE_app]
      show (if key z < key r then 100 ^ (c.size + 1) else 1) * 1 * _ = _
      rw [Nat.mul_one]
      congr 1
      split <;> simp
    rw [e3, e4]
    have e5 : facB (Fo.size (.cons r c s)) = qb (c.size + 1) s.size * (memb (c.size + 1) * facB c.size * facB s.size) := (qb_fac (c.size + 1) s.size).symm
    rw [e5]
    generalize sumq key z s.lin = S at *
    generalize sumq key r c.lin = R at *
    generalize qb (c.size + 1) s.size = T at *
    generalize (100 ^ if key z < key r then c.size + 1 else 0) = V at *
    generalize hookE (c.ent r) = A at *
    generalize hookE (s.ent z) = B at *
    generalize fallE key (c.ent r) = C at *
    generalize fallE key (s.ent z) = D at *
    generalize memb (c.size + 1) = M at *
    generalize facB c.size = X at *
    generalize facB s.size = Y at *
    clear e0 e1 e2 e3 e4 e5 h0 h1 h2 h3
    calc T * V * S * R * (M * (A * B)) = T * V * M * ((R * A) * (S * B)) := by grind
      _ = T * V * M * ((X * C) * (Y * D)) := by rw [i1, i2]
      _ = _ := by grind

end

section
def around6 (a3 a4 a5 : Nat) : List Nat := [0, 0, 1, a3, a4, a5]
def foA (ar : List Nat) : Nat → Nat → List Nat → Fo
  | 0, _, _ => .nil
  | _ + 1, _, [] => .nil
  | f + 1, p, k :: ks => if ar.getD k 0 = p then .cons k (foA ar f k [1, 2, 3, 4, 5]) (foA ar f p ks) else foA ar f p ks
def before (l : List Nat) (a b : Nat) : Bool := l.idxOf a < l.idxOf b
def insP (k : Nat) (l : List Nat) : List (List Nat) := (List.range l.length).map fun j => l.take j ++ [k] ++ l.drop j
def ordsP (ar : List Nat) : Nat → List (List Nat)
  | 0 => [[0]]
  | k + 1 => ((ordsP ar k).flatMap (insP (k + 1))).filter fun l => before l (k + 1) (ar.getD (k + 1) 0)
def sizesP (ar : List Nat) : List Nat := [5, 4, 3, 2, 1].foldl (fun s k => s.set (ar.getD k 0) (s.getD (ar.getD k 0) 0 + s.getD k 0)) [1, 1, 1, 1, 1, 1]
def entP (ar : List Nat) : List (Nat × Nat × Nat) := [1, 2, 3, 4, 5].map fun k => (k, ar.getD k 0, (sizesP ar).getD k 0)
def codeL (l : List Nat) : Nat := l.foldl (fun a x => a * 6 + x) 0
def treeOk (ar : List Nat) : Bool :=
  let F := foA ar 30 0 [1, 2, 3, 4, 5]
  (List.isPerm (F.ent 0) (entP ar)) && (List.isPerm (F.lin.map fun l => l.reverse ++ [0]) (ordsP ar 5)) && (F.size == 5) && (F.nodes.isPerm [1, 2, 3, 4, 5])
theorem treesOk : ∀ a3, a3 < 3 → ∀ a4, a4 < 4 → ∀ a5, a5 < 5 → treeOk (around6 a3 a4 a5) = true := by decide +kernel
def fmajGo (key : Nat → Nat) : Nat → List Nat → Nat
  | i, x :: y :: r => (if key y < key x then i else 0) + fmajGo key (i + 1) (y :: r)
  | _, _ => 0
theorem fmaj_rev (key : Nat → Nat) (l : List Nat) (h : l.length = 5) : fmajGo key 1 (l.reverse ++ [0]) = rmaj key 0 l := by
  match l, h with
  | [a, b, c, d, e], _ =>
    show (if key d < key e then 1 else 0) + ((if key c < key d then 2 else 0) + ((if key b < key c then 3 else 0) + ((if key a < key b then 4 else 0) + ((if key 0 < key a then 5 else 0) + 0)))) =
      (if key 0 < key a then 5 else 0) + ((if key a < key b then 4 else 0) + ((if key b < key c then 3 else 0) + ((if key c < key d then 2 else 0) + ((if key d < key e then 1 else 0) + 0))))
    omega
theorem prod_perm {l m : List Nat} (h : l.Perm m) : l.foldr (· * ·) 1 = m.foldr (· * ·) 1 := by
  induction h with
  | nil => rfl
  | cons x _ ih => simp only [List.foldr_cons, ih]
  | swap x y l => simp only [List.foldr_cons]; exact Nat.mul_left_comm ..
  | trans _ _ h1 h2 => exact h1.trans h2
theorem told_due (a3 a4 a5 : Nat) (h3 : a3 < 3) (h4 : a4 < 4) (h5 : a5 < 5) (key : Nat → Nat) (hk : ∀ i, i < 6 → ∀ j, j < 6 → i ≠ j → key i ≠ key j) :
    ((ordsP (around6 a3 a4 a5) 5).map fun l => 100 ^ fmajGo key 1 l).sum * hookE (entP (around6 a3 a4 a5)) = facB 5 * fallE key (entP (around6 a3 a4 a5)) := by
  have h := treesOk a3 h3 a4 h4 a5 h5
  unfold treeOk at h
  simp only [Bool.and_eq_true, beq_iff_eq] at h
  obtain ⟨⟨⟨p1, p2⟩, p3⟩, p4⟩ := h
  rw [List.isPerm_iff] at p1 p2 p4
  generalize ordsP (around6 a3 a4 a5) 5 = O at *
  generalize entP (around6 a3 a4 a5) = En at *
  generalize foA (around6 a3 a4 a5) 30 0 [1, 2, 3, 4, 5] = F at *
  have hd : DistK key F.nodes := by
    refine List.Perm.pairwise (R := fun x y => key x ≠ key y) p4.symm ?_ (fun h => h.symm)
    refine .cons ?_ (.cons ?_ (.cons ?_ (.cons ?_ (.cons ?_ .nil))))
    all_goals (intro j hj; (have hj2 : j < 6 := by (simp at hj; try omega)); refine hk _ (by decide) _ hj2 ?_; (simp at hj; try omega))
  have hb := bw key F 0 hd
  rw [p3] at hb
  have e1 : hookE En = hookE (F.ent 0) := (prod_perm (p1.map _)).symm
  have e2 : fallE key En = fallE key (F.ent 0) := (prod_perm (p1.map _)).symm
  rw [e1, e2, ← hb]
  have p2' := p2.map fun l => 100 ^ fmajGo key 1 l
  have e3 : sumq key 0 F.lin = ((F.lin.map fun l => l.reverse ++ [0]).map fun l => 100 ^ fmajGo key 1 l).sum := by
    rw [List.map_map]
    show (F.lin.map fun l => 100 ^ rmaj key 0 l).sum = _
    have : (F.lin.map fun l => 100 ^ rmaj key 0 l) = F.lin.map ((fun l => 100 ^ fmajGo key 1 l) ∘ fun l => l.reverse ++ [0]) := by
      refine List.map_congr_left fun l hl => ?_
      show _ = 100 ^ fmajGo key 1 (l.reverse ++ [0])
      rw [fmaj_rev key l (by rw [(lin_ok F l hl).1, p3])]
    rw [this]
  rw [e3, p2'.sum_nat]

end

section
open PyProof.Rows.LCg
theorem sub4seg_1 : True := by
  w_top off
  (k_with "e181" => skip)
  (k_with "e206" => skip)
  (k_with "e205" => skip)
  (k_with "RNe" => ((fail_if_success k_extra "e207"); (first | assumption | (refine' RNe.of_ltl _ ?hz140 ?ez140; (case hz140 => k_extra "LHB"); (case ez140 => k_extra "SEG")))))
  trivial
theorem strsAre_zip {vs : List Value} {ss : List Str} (h : StrsAre vs ss) : ∃ ts : List Tok, ts.length = ss.length ∧ vs = List.zipWith Value.str ss ts := by
  induction h with
  | nil => exact ⟨[], rfl, rfl⟩
  | cons x t _ ih => exact ih.elim fun ts q => ⟨t :: ts, congrArg (· + 1) q.1, congrArg (Value.str x t :: ·) q.2⟩
theorem strsAre_six {vs : List Value} {cs : List Nat} {f : Nat → Str} (h : StrsAre vs (cs.map f)) (h6 : cs.length = 6) : ∃ u : Nat → Tok, vs = sixL (fun k => f (cs.getD k 0)) u := by
  obtain ⟨ts, h7, e⟩ := strsAre_zip h
  rw [List.length_map, h6] at h7
  rw [e, six_list 0 cs h6, six_list default ts h7]
  exact ⟨fun k => ts.getD k default, rfl⟩
theorem news_ax {h₀ h : Heap} {L l' : Addr} {n : Nat} {rest : List (Addr × Obj)} {t0 t1 t2 t3 t4 t5 : Tok} {x0 x1 x2 x3 x4 x5 : Int} (ax : Nat → Nat) (e0 : x0 = (ax 0 : Nat)) (e1 : x1 = (ax 1 : Nat)) (e2 : x2 = (ax 2 : Nat)) (e3 : x3 = (ax 3 : Nat)) (e4 : x4 = (ax 4 : Nat)) (e5 : x5 = (ax 5 : Nat))
   (N : News h₀ L h ((l', listOf #[.int x0 t0, .int x1 t1, .int x2 t2, .int x3 t3, .int x4 t4, .int x5 t5] n) :: rest)) : ∃ ab : Nat → Tok, News h₀ L h ((l', listOf (sixI ax ab) n) :: rest) := by
  subst e0 e1 e2 e3 e4 e5
  exact ⟨fun k => [t0, t1, t2, t3, t4, t5].getD k t0, N⟩
theorem fmod_nat (x : Int) (b : Nat) (hb : 0 < b) : ∃ n : Nat, Int.fmod x b = (n : Int) ∧ n < b := by
  have h0 := Int.fmod_nonneg_of_pos x (b := (b : Int)) (by omega)
  have h1 := Int.fmod_lt_of_pos x (b := (b : Int)) (by omega)
  exact ⟨(Int.fmod x b).toNat, by omega, by omega⟩
theorem around_lt {a3 a4 a5 : Nat} (h3 : a3 < 3) (h4 : a4 < 4) (h5 : a5 < 5) : ∀ k, 1 ≤ k → k < 6 → (around6 a3 a4 a5).getD k 0 < k :=
  fun k h1 h => lt6 (P := fun k => 1 ≤ k → (around6 a3 a4 a5).getD k 0 < k) (fun h => absurd h (by decide)) (fun _ => Nat.zero_lt_one) (fun _ => Nat.lt_succ_self 1) (fun _ => h3) (fun _ => h4) (fun _ => h5) k h h1
theorem sub4seg_2 : True := by
  (k_with "call ref" => ((fail_if_success k_extra "e208"); ((k_here; refine Hold.out ?_))))
  trivial
theorem doc_out {w : World} {pm : Value} {sl nl al : Addr} {sx nx : Nat → Str} {ax : Nat → Nat} {su nv ab : Nat → Tok} {z1 z2 z3 : Nat} (H : Heap) (v : Value) (n : List (Addr × Obj)) (h : DocPost w pm sl nl al sx nx ax su nv ab z1 z2 z3 H v n)
    (P : Value → List (Addr × Obj) → Prop) (k : ∀ (gr : Node) (gt ga : Value) (c1 c2 I : Addr) (oc2 : Obj) (vs2 : Array Value) (t2 : Tok) (Bk : Nat → Blk) (gn : Nat), gr.Ok gt ga → oc2.data = .fields vs2 → vs2[1]? = some (.str lamQ t2) → DocAt w I sx nx ax su 6 Bk →
      @LE.le Nat _ H.objs.size gr.ce → @LT.lt Nat _ gr.l c2 → @LT.lt Nat _ c2 gr.f2 → @LT.lt Nat _ gr.f2 I →
      P (.ref gr.f) (gr.led pm c2 [.ref (Bk 0).nd.f] gn ++ [(sl, listOf (sixS sx su) z1), (nl, listOf (sixS nx nv) z2), (al, listOf (sixI ax ab) z3), (c2, oc2), (95, tabFull c1 c2)] ++ canonB pm c2 6 Bk)) : P v n := by
  obtain ⟨gr, gt, ga, c1, c2, I, oc2, vs2, t2, Bk, gn, r1, r2, r3, r4, r5, r6, r7, r8, r9, r10⟩ := h.out
  subst r1 r10
  exact k gr gt ga c1 c2 I oc2 vs2 t2 Bk gn r2 r3 r4 r5 r6 r7 r8 r9
theorem seg5s (w : World) (mg mb : Str → Option Value) (fa : Addr) (cd : Value)
   (p : Program) (loose : List Str) (mean : ExcName → Option Value) (dp un : Nat) (gd : Option (List Code)) (a : Addr) (ccd : Value) (cl : List (Str × Addr)) (outer : List Env) (A₀ : Around) (base h₀ : Heap) (L : Addr) (m : Str → Option Value) (s : Shared) (Q : Flow → Shared → Prop) (E : Value → Shared → Prop)
   (B : Below A₀ base outer h₀) (X : (hd.heap_39 w.params).In h₀) (T : Top p loose mean mg mb h₀) (F : Fr h₀ L s.heap m) (HG : CodeHd base 99 95)
   (l sg nl : Addr) (vals : List Value) (cells : List Int) (sx nx : Nat → Str) (su nv : Nat → Tok) (ns nn : Nat) (rest : List (Addr × Obj))
   (N : News h₀ L s.heap ((nl, listOf (sixL nx nv).toArray nn) :: (sg, listOf (sixL sx su).toArray ns) :: (95, tabObj #[]) :: (l, listOf vals.toArray 0) :: rest))
   (p1 : @LT.lt Nat _ 138 sg) (z95 : @Ne Nat nl 95) (q95 : @LT.lt Nat _ 95 l) (ls : @LT.lt Nat _ l sg) (lnl : @Ne Nat l nl) (Rn : RNe rest nl) (Rs : RNe rest sg) (R95 : RNe rest 95)
   (hc : IntsAre vals cells) (hcl : cells.length = 10) (hcb : ∀ x ∈ cells, 0 ≤ x)
   (m1 : m "cells" = some (.ref l)) (m2 : m "signs" = some (.ref sg)) (m3 : m "names" = some (.ref nl)) (hdp : dp + 40 < recursionLimit) (hun : un + 500 < cLine)
   (K : ∀ (h' : Heap) (tk' : Nat) (m' : Str → Option Value) (al : Addr) (a3 a4 a5 : Nat) (ab : Nat → Tok) (gr : Node) (gt ga : Value) (c1 c2 I : Addr) (oc2 : Obj) (vs2 : Array Value) (t2 : Tok) (Bk : Nat → Blk) (gn : Nat), a3 < 3 → a4 < 4 → a5 < 5 → Fr h₀ L h' m' →
      News h₀ L h' (gr.led (pmOf mg) c2 [.ref (Bk 0).nd.f] gn ++ [(sg, listOf (sixS sx su) ns), (nl, listOf (sixS nx nv) nn), (al, listOf (sixI (fun k => (around6 a3 a4 a5).getD k 0) ab) 0), (c2, oc2), (95, tabFull c1 c2)] ++ canonB (pmOf mg) c2 6 Bk ++ ((l, listOf vals.toArray 0) :: rest)) →
      gr.Ok gt ga → oc2.data = .fields vs2 → vs2[1]? = some (.str lamQ t2) → DocAt w I sx nx (fun k => (around6 a3 a4 a5).getD k 0) su 6 Bk → @LT.lt Nat _ sg al → @LT.lt Nat _ nl al → @LT.lt Nat _ al gr.ce → @LT.lt Nat _ gr.l c2 → @LT.lt Nat _ c2 gr.f2 → @LT.lt Nat _ gr.f2 I →
      m' "signs" = some (.ref sg) → m' "names" = some (.ref nl) → m' "cells" = some (.ref l) → m' "around" = some (.ref al) → m' "ground" = some (.ref gr.f) →
      wpAny (model pg w) (ktrTop dp un gd "law" (scopeAt w 138) L a ccd cl outer) (execs (lawB.drop 13) (envOfC "law" (scopeAt w 138) L fa cd)) Q E { s with heap := h', toks := tk' }) :
   wpAny (model pg w) (ktrTop dp un gd "law" (scopeAt w 138) L a ccd cl outer) (execs (lawB.drop 11) (envOfC "law" (scopeAt w 138) L fa cd)) Q E s := by
  have e1 : lawB.drop 11 = _ :: _ :: lawB.drop 13 := rfl
  have e2 : scopeAt w 138 = Scope.mk _ _ _ _ _ := rfl
  generalize hR : lawB.drop 13 = R at *
  rw [e1]
  rw [e2] at K ⊢
  have F := Mine.Fr.pin (Mine.Fr.pin (Mine.Fr.pin F (x := "cells") m1) (x := "signs") m2) (x := "names") m3
  refine Exists.elim (fmod_nat (List.getD cells (Int.toNat 7) 0) 3 (by decide)) fun a3 f3 => ?_
  refine Exists.elim (fmod_nat (List.getD cells (Int.toNat 8) 0) 4 (by decide)) fun a4 f4 => ?_
  refine Exists.elim (fmod_nat (List.getD cells (Int.toNat 9) 0) 5 (by decide)) fun a5 f5 => ?_
  have e3 := f3.1
  have ha3 := f3.2
  have e4 := f4.1
  have ha4 := f4.2
  have e5 := f5.1
  have ha5 := f5.2
  k_steps
  refine ⟨?_⟩
  (with_reducible rename News _ _ _ _ => kN)
  refine Exists.elim (news_ax (fun k => (around6 a3 a4 a5).getD k 0) rfl rfl rfl e3 e4 e5 kN) fun ab kN9 => ?_
  clear kN
  refine' HC.atO (doc_c w mg mb sg nl _ sx nx (fun k => (around6 a3 a4 a5).getD k 0) su nv ab ns nn 0 p1 z95 ?p3 (around_lt ha3 ha4 ha5)) doc_out ?pB ?pF ?pX kN9 ?pT ?pk ?pG ?pd ?pu ?pr ?ps ?_
  case p3 => exact Nat.lt_trans p1 (by k_extra "LT")
  case pB => k_asm
  case pF => k_asm
  case pX => k_asm
  case pT => k_asm
  case pk => first | exact rfl | assumption
  case pG => assumption
  case pr => k_extra "MemAll"
  case ps => k_extra "Split2"
  case pd => exact Nat.lt_of_le_of_lt (Nat.add_le_add_left (by decide) dp) hdp
  case pu => exact Nat.lt_of_le_of_lt (Nat.add_le_add_left (by decide) un) hun
  intro h' tk' F' l1 gr gt ga c1 c2 I oc2 vs2 t2 Bk gn r2 r3 r4 r5 r6 r7 r8 r9 N'
  k_lt l1
  dsimp only at r6
  k_steps
  dsimp only
  refine' K _ _ _ _ a3 a4 a5 ab gr gt ga c1 c2 I oc2 vs2 t2 Bk gn ha3 ha4 ha5 ?qF (Newss.sub (by k_asm) ?oN) r2 r3 r4 r5 ?q1 ?q2 ?q3 r7 r8 r9 ?q4 ?q5 ?q6 ?q7 ?q8
  case qF => k_asm
  case q4 => exact rfl
  case q5 => exact rfl
  case q6 => exact rfl
  case q7 => exact rfl
  case q8 => exact rfl
  case q1 => k_extra "LT"
  case q2 => k_extra "LT"
  case q3 => k_extra "LT"
  case oN =>
    intro q hq
    rcases List.mem_append.mp hq with h | h
    · exact List.mem_append_left _ h
    · refine List.mem_append_right _ ?_
      clear hq
      revert q
      k_dflt (k_extra "MemAll2")
theorem seg5 (w : World) (mg mb : Str → Option Value) (fa : Addr) (cd : Value)
   (p : Program) (loose : List Str) (mean : ExcName → Option Value) (dp un : Nat) (gd : Option (List Code)) (a : Addr) (ccd : Value) (cl : List (Str × Addr)) (outer : List Env) (A₀ : Around) (base h₀ : Heap) (L : Addr) (m : Str → Option Value) (s : Shared) (Q : Flow → Shared → Prop) (E : Value → Shared → Prop)
   (B : Below A₀ base outer h₀) (X : (hd.heap_39 w.params).In h₀) (T : Top p loose mean mg mb h₀) (F : Fr h₀ L s.heap m) (HG : CodeHd base 99 95)
   (o1 o2 o3 o4 o5 o6 : Obj) (l sg nl : Addr) (vals : List Value) (cells : List Int) (sx nx : Nat → Str) (su nv : Nat → Tok) (ns nn : Nat)
   (N : News h₀ L s.heap ((nl, listOf (sixL nx nv).toArray nn) :: (sg, listOf (sixL sx su).toArray ns) :: (cel6 L o1 o2 o3 o4 o5 o6 ++ [(95, tabObj #[]), (l, listOf vals.toArray 0)])))
   (h1 : @LT.lt Nat _ 138 L) (h2 : @LT.lt Nat _ (L + 6) l) (h3 : @LT.lt Nat _ l sg) (hnl : ∀ q ∈ ((sg, listOf (sixL sx su).toArray ns) :: (cel6 L o1 o2 o3 o4 o5 o6 ++ [(95, tabObj #[]), (l, listOf vals.toArray 0)])), q.1 ≠ nl)
   (hc : IntsAre vals cells) (hcl : cells.length = 10) (hcb : ∀ x ∈ cells, 0 ≤ x)
   (m1 : m "cells" = some (.ref l)) (m2 : m "signs" = some (.ref sg)) (m3 : m "names" = some (.ref nl)) (hdp : dp + 40 < recursionLimit) (hun : un + 500 < cLine)
   (K : ∀ (h' : Heap) (tk' : Nat) (m' : Str → Option Value) (al : Addr) (a3 a4 a5 : Nat) (ab : Nat → Tok) (gr : Node) (gt ga : Value) (c1 c2 I : Addr) (oc2 : Obj) (vs2 : Array Value) (t2 : Tok) (Bk : Nat → Blk) (gn : Nat), a3 < 3 → a4 < 4 → a5 < 5 → Fr h₀ L h' m' →
      News h₀ L h' (gr.led (pmOf mg) c2 [.ref (Bk 0).nd.f] gn ++ ([(sg, listOf (sixS sx su) ns), (nl, listOf (sixS nx nv) nn), (al, listOf (sixI (fun k => (around6 a3 a4 a5).getD k 0) ab) 0), (c2, oc2), (95, tabFull c1 c2)] ++ (cel6 L o1 o2 o3 o4 o5 o6 ++ ((l, listOf vals.toArray 0) :: canonB (pmOf mg) c2 6 Bk)))) →
      gr.Ok gt ga → oc2.data = .fields vs2 → vs2[1]? = some (.str lamQ t2) → DocAt w I sx nx (fun k => (around6 a3 a4 a5).getD k 0) su 6 Bk → @LT.lt Nat _ sg al → @LT.lt Nat _ nl al → @LT.lt Nat _ al gr.ce → @LT.lt Nat _ gr.l c2 → @LT.lt Nat _ c2 gr.f2 → @LT.lt Nat _ gr.f2 I →
      m' "signs" = some (.ref sg) → m' "names" = some (.ref nl) → m' "cells" = some (.ref l) → m' "around" = some (.ref al) → m' "ground" = some (.ref gr.f) →
      wpAny (model pg w) (ktrTop dp un gd "law" (scopeAt w 138) L a ccd cl outer) (execs (lawB.drop 13) (envOfC "law" (scopeAt w 138) L fa cd)) Q E { s with heap := h', toks := tk' }) :
   wpAny (model pg w) (ktrTop dp un gd "law" (scopeAt w 138) L a ccd cl outer) (execs (lawB.drop 11) (envOfC "law" (scopeAt w 138) L fa cd)) Q E s := by
  have h95 : @LT.lt Nat _ 95 L := Nat.lt_trans (by decide) h1
  have hl6 : ∀ k, k ≤ 6 → @LT.lt Nat _ (L + k) l := fun k hk => Nat.lt_of_le_of_lt (Nat.add_le_add_left hk L) h2
  have hsL : LtL sg [L + 1, L + 1 + 1, L + 1 + 1 + 1, L + 1 + 1 + 1 + 1, L + 1 + 1 + 1 + 1 + 1, L + 1 + 1 + 1 + 1 + 1 + 1] :=
    ⟨Nat.lt_trans (hl6 1 (by decide)) h3, Nat.lt_trans (hl6 2 (by decide)) h3, Nat.lt_trans (hl6 3 (by decide)) h3, Nat.lt_trans (hl6 4 (by decide)) h3, Nat.lt_trans (hl6 5 (by decide)) h3, Nat.lt_trans (hl6 6 (by decide)) h3, trivial⟩
  have hnL : NeL nl [sg, L + 1, L + 1 + 1, L + 1 + 1 + 1, L + 1 + 1 + 1 + 1, L + 1 + 1 + 1 + 1 + 1, L + 1 + 1 + 1 + 1 + 1 + 1, 95, l] := NeL.of hnl
  have rn : ∀ x : Addr, L + 1 ≠ x → L + 1 + 1 ≠ x → L + 1 + 1 + 1 ≠ x → L + 1 + 1 + 1 + 1 ≠ x → L + 1 + 1 + 1 + 1 + 1 ≠ x → L + 1 + 1 + 1 + 1 + 1 + 1 ≠ x → RNe (cel6 L o1 o2 o3 o4 o5 o6) x := fun x d e f g h i =>
    RNe.consR d (RNe.consR e (RNe.consR f (RNe.consR g (RNe.consR h (RNe.consR i ⟨fun _ h => nomatch h⟩)))))
  refine seg5s w mg mb fa cd p loose mean dp un gd a ccd cl outer A₀ base h₀ L m s Q E B X T F HG l sg nl vals cells sx nx su nv ns nn (cel6 L o1 o2 o3 o4 o5 o6) (Newss.sub N ?N)
    (Nat.lt_trans h1 (Nat.lt_trans (hl6 0 (by decide)) h3)) (by k_ne) (Nat.lt_trans h95 (hl6 0 (by decide))) h3 (by k_ne)
    (rn nl (by k_ne) (by k_ne) (by k_ne) (by k_ne) (by k_ne) (by k_ne)) (rn sg (by k_ne) (by k_ne) (by k_ne) (by k_ne) (by k_ne) (by k_ne)) (rn 95 (by k_ne) (by k_ne) (by k_ne) (by k_ne) (by k_ne) (by k_ne)) hc hcl hcb m1 m2 m3 hdp hun
    fun h' tk' m' al a3 a4 a5 ab gr gt ga c1 c2 I oc2 vs2 t2 Bk gn b3 b4 b5 F' N' => K h' tk' m' al a3 a4 a5 ab gr gt ga c1 c2 I oc2 vs2 t2 Bk gn b3 b4 b5 F' (Newss.sub N' ?N')
  case N =>
    k_dflt (simp only [cel6, List.cons_append, List.nil_append])
    k_dflt (k_extra "MemAll2")
  case N' =>
    intro q hq
    rcases List.mem_append.mp hq with h | h
    · exact List.mem_append_left _ (List.mem_append_left _ (List.mem_append_left _ h))
    rcases List.mem_append.mp h with h | h
    · exact List.mem_append_left _ (List.mem_append_left _ (List.mem_append_right _ h))
    rcases List.mem_append.mp h with h | h
    · exact List.mem_append_right _ (List.mem_cons_of_mem _ h)
    rcases List.mem_cons.mp h with rfl | h
    · exact List.mem_append_right _ (List.mem_cons_self ..)
    · exact List.mem_append_left _ (List.mem_append_right _ h)

end

section
open PyProof.Rows.LCg
theorem sub5seg_1 : True := by
  w_top off
  trivial
def dotsOf (ev : Bool) : Str := if ev then "..." else ""
def tailOf (ev : Bool) : Str := if ev then "x" else ""
theorem seg6s (w : World) (mg mb : Str → Option Value) (fa : Addr) (cd : Value)
   (p : Program) (loose : List Str) (mean : ExcName → Option Value) (dp un : Nat) (gd : Option (List Code)) (a : Addr) (ccd : Value) (cl : List (Str × Addr)) (outer : List Env) (A₀ : Around) (base h₀ : Heap) (L : Addr) (m : Str → Option Value) (s : Shared) (Q : Flow → Shared → Prop) (E : Value → Shared → Prop)
   (B : Below A₀ base outer h₀) (X : (hd.heap_39 w.params).In h₀) (T : Top p loose mean mg mb h₀) (F : Fr h₀ L s.heap m) (HG : CodeHd base 99 95)
   (l sg nl al c1 c2 gf : Addr) (oc2 : Obj) (vs2 : Array Value) (t2 : Tok) (vals : List Value) (cells : List Int) (rest : List (Addr × Obj))
   (N : News h₀ L s.heap ((c2, oc2) :: (95, tabFull c1 c2) :: (l, listOf vals.toArray 0) :: rest)) (h952 : @LT.lt Nat _ 95 c2) (h95l : @LT.lt Nat _ 95 l) (hl2 : @LT.lt Nat _ l c2)
   (R95 : RNe rest 95) (Rc2 : RNe rest c2) (hd2 : oc2.data = .fields vs2) (hv2 : vs2[1]? = some (.str lamQ t2))
   (hc : IntsAre vals cells) (hcl : cells.length = 10)
   (m1 : m "cells" = some (.ref l)) (m2 : m "signs" = some (.ref sg)) (m3 : m "names" = some (.ref nl)) (m4 : m "around" = some (.ref al)) (m5 : m "ground" = some (.ref gf)) (hdp : dp + 40 < recursionLimit) (hun : un + 500 < cLine)
   (K : ∀ (h' : Heap) (tk' : Nat) (m' : Str → Option Value) (ev : Bool) (t1 t2 : Tok), Fr h₀ L h' m' →
      News h₀ L h' ((c2, oc2) :: (95, tabFull c1 c2) :: (l, listOf vals.toArray 0) :: rest) →
      m' "signs" = some (.ref sg) → m' "names" = some (.ref nl) → m' "around" = some (.ref al) → m' "ground" = some (.ref gf) → m' "dots" = some (.str (dotsOf ev) t1) → m' "tail" = some (.str (tailOf ev) t2) →
      wpAny (model pg w) (ktrTop dp un gd "law" (scopeAt w 138) L a ccd cl outer) (execs (lawB.drop 15) (envOfC "law" (scopeAt w 138) L fa cd)) Q E { s with heap := h', toks := tk' }) :
   wpAny (model pg w) (ktrTop dp un gd "law" (scopeAt w 138) L a ccd cl outer) (execs (lawB.drop 13) (envOfC "law" (scopeAt w 138) L fa cd)) Q E s := by
  have e1 : lawB.drop 13 = _ :: _ :: lawB.drop 15 := rfl
  have e2 : scopeAt w 138 = Scope.mk _ _ _ _ _ := rfl
  generalize hR : lawB.drop 15 = R at *
  rw [e1]
  rw [e2] at K ⊢
  have F := Mine.Fr.pin (Mine.Fr.pin (Mine.Fr.pin (Mine.Fr.pin (Mine.Fr.pin F (x := "cells") m1) (x := "signs") m2) (x := "names") m3) (x := "around") m4) (x := "ground") m5
  k_steps
  refine ⟨?_⟩
  refine' HC.atO (elem1 w mg mb _ _ c1 c2) out12 ?pB ?pF ?pX ?pN ?pT ?pk ?pG ?pd ?pu ?pr ?ps ?_
  case pB => k_asm
  case pF => k_asm
  case pX => k_asm
  case pN => k_asm
  case pT => k_asm
  case pk => first | exact rfl | assumption
  case pG => assumption
  case pr => k_extra "MemAll"
  case ps => k_extra "Split2"
  case pd => exact Nat.lt_of_le_of_lt (Nat.add_le_add_left (by decide) dp) hdp
  case pu => exact Nat.lt_of_le_of_lt (Nat.add_le_add_left (by decide) un) hun
  intro h' tk' F' l1 bn r3 r4 N'
  have oA := r3.cell
  have oB := r3.tag
  have oC := r3.attrib
  have oD := r3.inner
  have oE := r3.make
  have oF := r3.app
  k_lt l1
  dsimp only at r4
  dsimp only [Node.led, List.cons_append, List.nil_append] at N'
  k_steps
  refine ⟨?_⟩
  refine' HC.atO (bare_c w mg mb bn _ _ 0 c1 c2 oc2 vs2 t2 r3 hd2 hv2 (Or.inl ?oc) ?o95 h952) out00 ?tB ?tF ?tX ?tN ?tT ?tk ?tG ?td ?tu ?tr ?ts ?_
  case oc => k_extra "LT"
  case o95 => k_extra "LT"
  case tB => k_asm
  case tF => k_asm
  case tX => k_asm
  case tN => k_asm
  case tT => k_asm
  case tk => first | exact rfl | assumption
  case tG => assumption
  case tr => k_extra "MemAll"
  case ts => k_extra "Split2"
  case td => exact Nat.lt_of_le_of_lt (Nat.add_le_add_left (by decide) dp) hdp
  case tu => exact Nat.lt_of_le_of_lt (Nat.add_le_add_left (by decide) un) hun
  intro h' tk' F' l1 N'
  clear l1
  k_steps
  all_goals dsimp only
  all_goals (first
    | exact K _ _ _ true _ _ (by k_asm) (Newss.sub (by k_asm) (by k_dflt (k_extra "MemAll2"))) (by exact rfl) (by exact rfl) (by exact rfl) (by exact rfl) (by exact rfl) (by exact rfl)
    | exact K _ _ _ false _ _ (by k_asm) (Newss.sub (by k_asm) (by k_dflt (k_extra "MemAll2"))) (by exact rfl) (by exact rfl) (by exact rfl) (by exact rfl) (by exact rfl) (by exact rfl))
theorem seg6 (w : World) (mg mb : Str → Option Value) (fa : Addr) (cd : Value)
   (p : Program) (loose : List Str) (mean : ExcName → Option Value) (dp un : Nat) (gd : Option (List Code)) (a : Addr) (ccd : Value) (cl : List (Str × Addr)) (outer : List Env) (A₀ : Around) (base h₀ : Heap) (L : Addr) (m : Str → Option Value) (s : Shared) (Q : Flow → Shared → Prop) (E : Value → Shared → Prop)
   (B : Below A₀ base outer h₀) (X : (hd.heap_39 w.params).In h₀) (T : Top p loose mean mg mb h₀) (F : Fr h₀ L s.heap m) (HG : CodeHd base 99 95)
   (o1 o2 o3 o4 o5 o6 : Obj) (l sg nl al c1 c2 gf : Addr) (oc2 : Obj) (vs2 : Array Value) (t2 : Tok) (vals : List Value) (cells : List Int) (sv nv av : Array Value) (ns nn na : Nat) (rest : List (Addr × Obj))
   (N : News h₀ L s.heap ([(sg, listOf sv ns), (nl, listOf nv nn), (al, listOf av na), (c2, oc2), (95, tabFull c1 c2)] ++ (cel6 L o1 o2 o3 o4 o5 o6 ++ ((l, listOf vals.toArray 0) :: rest))))
   (h1 : @LT.lt Nat _ 138 L) (h2 : @LT.lt Nat _ (L + 6) l) (h3 : @LT.lt Nat _ l sg) (h4 : @LT.lt Nat _ sg al) (h5 : @LT.lt Nat _ nl al) (h6 : @LT.lt Nat _ al c2) (hnl : ∀ q ∈ ((sg, listOf sv ns) :: (cel6 L o1 o2 o3 o4 o5 o6 ++ [(95, tabObj #[]), (l, listOf vals.toArray 0)])), q.1 ≠ nl)
   (R95 : RNe rest 95) (Rc2 : RNe rest c2) (hd2 : oc2.data = .fields vs2) (hv2 : vs2[1]? = some (.str lamQ t2))
   (hc : IntsAre vals cells) (hcl : cells.length = 10)
   (m1 : m "cells" = some (.ref l)) (m2 : m "signs" = some (.ref sg)) (m3 : m "names" = some (.ref nl)) (m4 : m "around" = some (.ref al)) (m5 : m "ground" = some (.ref gf)) (hdp : dp + 40 < recursionLimit) (hun : un + 500 < cLine)
   (K : ∀ (h' : Heap) (tk' : Nat) (m' : Str → Option Value) (ev : Bool) (t1 t2 : Tok), Fr h₀ L h' m' →
      News h₀ L h' ([(sg, listOf sv ns), (nl, listOf nv nn), (al, listOf av na), (c2, oc2), (95, tabFull c1 c2)] ++ (cel6 L o1 o2 o3 o4 o5 o6 ++ ((l, listOf vals.toArray 0) :: rest))) →
      m' "signs" = some (.ref sg) → m' "names" = some (.ref nl) → m' "around" = some (.ref al) → m' "ground" = some (.ref gf) → m' "dots" = some (.str (dotsOf ev) t1) → m' "tail" = some (.str (tailOf ev) t2) →
      wpAny (model pg w) (ktrTop dp un gd "law" (scopeAt w 138) L a ccd cl outer) (execs (lawB.drop 15) (envOfC "law" (scopeAt w 138) L fa cd)) Q E { s with heap := h', toks := tk' }) :
   wpAny (model pg w) (ktrTop dp un gd "law" (scopeAt w 138) L a ccd cl outer) (execs (lawB.drop 13) (envOfC "law" (scopeAt w 138) L fa cd)) Q E s := by
  have h95 : @LT.lt Nat _ 95 L := Nat.lt_trans (by decide) h1
  have hl6 : ∀ k, k ≤ 6 → @LT.lt Nat _ (L + k) l := fun k hk => Nat.lt_of_le_of_lt (Nat.add_le_add_left hk L) h2
  have h95l : @LT.lt Nat _ 95 l := Nat.lt_trans h95 (hl6 0 (by decide))
  have hl2 : @LT.lt Nat _ l c2 := Nat.lt_trans h3 (Nat.lt_trans h4 h6)
  have hsc : @LT.lt Nat _ sg c2 := Nat.lt_trans h4 h6
  have hnc : @LT.lt Nat _ nl c2 := Nat.lt_trans h5 h6
  have hcL : LtL c2 [L + 1, L + 1 + 1, L + 1 + 1 + 1, L + 1 + 1 + 1 + 1, L + 1 + 1 + 1 + 1 + 1, L + 1 + 1 + 1 + 1 + 1 + 1] :=
    ⟨Nat.lt_trans (hl6 1 (by decide)) hl2, Nat.lt_trans (hl6 2 (by decide)) hl2, Nat.lt_trans (hl6 3 (by decide)) hl2, Nat.lt_trans (hl6 4 (by decide)) hl2, Nat.lt_trans (hl6 5 (by decide)) hl2, Nat.lt_trans (hl6 6 (by decide)) hl2, trivial⟩
  have h95s : @LT.lt Nat _ 95 sg := Nat.lt_trans h95l h3
  have h95a : @LT.lt Nat _ 95 al := Nat.lt_trans h95s h4
  have rn : ∀ x : Addr, sg ≠ x → nl ≠ x → al ≠ x → L + 1 ≠ x → L + 1 + 1 ≠ x → L + 1 + 1 + 1 ≠ x → L + 1 + 1 + 1 + 1 ≠ x → L + 1 + 1 + 1 + 1 + 1 ≠ x → L + 1 + 1 + 1 + 1 + 1 + 1 ≠ x → RNe rest x →
      RNe ((sg, listOf sv ns) :: (nl, listOf nv nn) :: (al, listOf av na) :: (cel6 L o1 o2 o3 o4 o5 o6 ++ rest)) x := fun x a b c d e f g h i r =>
    RNe.consR a (RNe.consR b (RNe.consR c (RNe.consR d (RNe.consR e (RNe.consR f (RNe.consR g (RNe.consR h (RNe.consR i r))))))))
  have h95n : @Ne Nat nl 95 := (hnl (95, tabObj #[]) (List.mem_cons_of_mem _ (List.mem_append_right _ (List.mem_cons_self ..)))).symm
  refine seg6s w mg mb fa cd p loose mean dp un gd a ccd cl outer A₀ base h₀ L m s Q E B X T F HG l sg nl al c1 c2 gf oc2 vs2 t2 vals cells
    ((sg, listOf sv ns) :: (nl, listOf nv nn) :: (al, listOf av na) :: (cel6 L o1 o2 o3 o4 o5 o6 ++ rest)) (Newss.sub N ?N) (Nat.lt_trans h95l hl2) h95l hl2
    (rn 95 (by k_ne) h95n (by k_ne) (by k_ne) (by k_ne) (by k_ne) (by k_ne) (by k_ne) (by k_ne) R95) (rn c2 (by k_ne) (by k_ne) (by k_ne) (by k_ne) (by k_ne) (by k_ne) (by k_ne) (by k_ne) (by k_ne) Rc2) hd2 hv2 hc hcl m1 m2 m3 m4 m5 hdp hun
    fun h' tk' m' ev t1 t2 F' N' => K h' tk' m' ev t1 t2 F' (Newss.sub N' ?N')
  case N =>
    k_dflt (simp only [cel6, List.cons_append, List.nil_append])
    k_dflt (k_extra "MemAll2")
  case N' =>
    k_dflt (simp only [cel6, List.cons_append, List.nil_append])
    k_dflt (k_extra "MemAll2")

end

section
open PyProof.Rows.LCg
theorem sub6seg_1 : True := by
  w_top off
  (k_with "subscriptTail Name Constant ref int" => ((fail_if_success k_extra "e209"); ((k_here; k_dflt (refine' subAtE (k := 0) ?Nz142 ?mz142 ?jz142 ?xz142 ?zz142 ?_; (case Nz142 => k_asm); (case mz142 => k_mem); (case jz142 => exact rfl); (case xz142 => exact rfl); (case zz142 => exact Nat.le_of_ble_eq_true rfl); k_whole)))))
  (k_with "LtAll" => ((fail_if_success k_extra "e210"); (first | exact List.forall_mem_nil _ | (refine' List.forall_mem_cons.mpr ⟨?az143, ?bz143⟩; (case az143 => ((try dsimp only); omega)); (case bz143 => k_extra "LtAll")))))
  (k_with "NotInAll" => ((fail_if_success k_extra "e211"); (first | exact List.forall_mem_nil _ | (refine' List.forall_mem_cons.mpr ⟨?az144, ?bz144⟩; (case az144 => k_extra "NotIn"); (case bz144 => k_extra "NotInAll")))))
  trivial
theorem desc_snoc {ax : Nat → Nat} {k c : Nat} (h : Desc ax k c) : ∀ d, 1 ≤ d → d < 6 → ax d = c → Desc ax k d := by
  induction h with
  | refl k => exact fun d h1 h2 h3 => .step h1 h2 h3 (.refl d)
  | step a b e _ ih => exact fun d h1 h2 h3 => .step a b e (ih d h1 h2 h3)
theorem desc_all {ax : Nat → Nat} (hax : ∀ k, 1 ≤ k → k < 6 → ax k < k) : ∀ d, d < 6 → Desc ax 0 d := by
  intro d
  induction d using Nat.strongRecOn with
  | _ d ih =>
    intro hd
    by_cases h0 : d = 0
    · subst h0; exact .refl 0
    · exact desc_snoc (ih (ax d) (hax d (by omega) hd) (by have := hax d (by omega) hd; omega)) d (by omega) hd rfl
theorem canon_gt {w : World} {I : Addr} {sx nx : Nat → Str} {ax : Nat → Nat} {su : Nat → Tok} {k : Nat} {Bk : Nat → Blk} (D : DocAt w I sx nx ax su k Bk) (pm : Value) (c2 : Addr) : ∀ q ∈ canonB pm c2 k Bk, @LT.lt Nat _ I q.1 := by
  intro q hq
  obtain ⟨i, hi, hq⟩ := mem_canonB.mp hq
  have h1 := D.lo i hi
  have h2 := (D.span pm c2 hi q hq).1
  exact Nat.lt_of_lt_of_le h1 h2
theorem off_doc {w : World} {I wd : Addr} {o : Obj} {sx nx : Nat → Str} {ax : Nat → Nat} {su : Nat → Tok} {k : Nat} {Bk : Nat → Blk} (D : DocAt w I sx nx ax su k Bk) (pm : Value) (c2 : Addr) {rest : List (Addr × Obj)} (hI : ∀ q ∈ rest, @LT.lt Nat _ q.1 I) (hw : ∀ q ∈ rest, @LT.lt Nat _ q.1 wd) :
    ∀ q ∈ rest, q.1 ∉ (canonB pm c2 k Bk ++ [(wd, o)]).map (·.1) := by
  intro q hq hm
  obtain ⟨u, hu, e⟩ := List.mem_map.mp hm
  rcases List.mem_append.mp hu with hu | hu
  · have g1 := hI q hq
    have g2 := canon_gt D pm c2 u hu
    rw [e] at g2
    exact Nat.lt_asymm g1 g2
  · rw [List.mem_singleton.mp hu] at e
    have g3 := hw q hq
    rw [← e] at g3
    exact Nat.lt_irrefl _ g3
theorem mem_skip {q : Addr × Obj} {l1 l2 : List (Addr × Obj)} (h : q ∈ l2) : q ∈ l1 ++ l2 := List.mem_append_right _ h
theorem sub6seg_2 : True := by
  (k_with "MemC" => ((fail_if_success k_extra "e212"); (first | k_mem | (refine' List.mem_append_right _ ?az145; (case az145 => k_extra "MemC")) | (refine' List.mem_append_left _ ?az145; (case az145 => k_extra "MemC")))))
  (k_with "MemAllC" => ((fail_if_success k_extra "e213"); (first | exact List.forall_mem_nil _ | (refine' List.forall_mem_cons.mpr ⟨?az146, ?bz146⟩; (case az146 => k_extra "MemC"); (case bz146 => k_extra "MemAllC")))))
  trivial
theorem wants_out {w : World} {W sx : Nat → Str} {wd : Addr} {fix : List (Addr × Obj)} {top : Nat} {S : Nat → Prop} (H : Heap) (v : Value) (n : List (Addr × Obj)) (h : WPost w W sx wd fix top S v n)
    (P : Value → List (Addr × Obj) → Prop) (k : ∀ (wob' : Obj) (kvs' : List (Str × Value)), wob'.IsDictOf (strKind pg w) kvs' → Good W sx kvs' S → P (.ref wd) (fix ++ [(wd, wob')])) : P v n := by
  obtain ⟨r1, wob', kvs', r2, r3, r4, r5⟩ := h.out
  subst r1 r2
  exact k wob' kvs' r3 r5
theorem orders_out {l : List (List Nat)} {r : List (Addr × Obj)} (H : Heap) (v : Value) (n : List (Addr × Obj)) (h : ∃ (os : List Ord) (oA : Addr) (nA : Nat), v = .ref oA ∧ OrdsAre os l ∧ n = (oA, listOf (refsOf os).toArray nA) :: (r ++ os.map Ord.led))
    (P : Value → List (Addr × Obj) → Prop) (k : ∀ (os : List Ord) (oA : Addr) (nA : Nat), OrdsAre os l → P (.ref oA) ((oA, listOf (refsOf os).toArray nA) :: (r ++ os.map Ord.led))) : P v n := by
  obtain ⟨os, oA, nA, g1, g2, g3⟩ := h
  subst g1 g3
  exact k os oA nA g2
theorem seg7s (w : World) (mg mb : Str → Option Value) (fa : Addr) (cd : Value)
   (p : Program) (loose : List Str) (mean : ExcName → Option Value) (dp un : Nat) (gd : Option (List Code)) (a : Addr) (ccd : Value) (cl : List (Str × Addr)) (outer : List Env) (A₀ : Around) (base h₀ : Heap) (L : Addr) (m : Str → Option Value) (s : Shared) (Q : Flow → Shared → Prop) (E : Value → Shared → Prop)
   (B : Below A₀ base outer h₀) (X : (hd.heap_39 w.params).In h₀) (T : Top p loose mean mg mb h₀) (F : Fr h₀ L s.heap m) (HG : CodeHd base 99 95)
   (sg nl al c2 I : Addr) (gr : Node) (gt ga : Value) (gn : Nat) (sx nx W Bt : Nat → Str) (ax : Nat → Nat) (su nv : Nat → Tok) (ns nn : Nat) (Bk : Nat → Blk) (tail last : Str) (mids : Nat → List Str) (t3 t4 : Tok) (rest : List (Addr × Obj))
   (N : News h₀ L s.heap ((sg, listOf (sixS sx su) ns) :: (nl, listOf (sixS nx nv) nn) :: (gr.f, fnObj (some gr.dx) gr.fd #[]) :: (gr.dx, dictOf gr.es 5) :: (gr.l, listOf [.ref (Bk 0).nd.f].toArray gn) :: (rest ++ canonB (pmOf mg) c2 6 Bk)))
   (hsI : @LT.lt Nat _ sg I) (hnI : @LT.lt Nat _ nl I) (hrI : ∀ q ∈ rest, @LT.lt Nat _ q.1 I) (Rs : RNe rest sg) (Rn : RNe rest nl)
   (ok : gr.Ok gt ga) (D : DocAt w I sx nx ax su 6 Bk) (hax : ∀ k, 1 ≤ k → k < 6 → ax k < k)
   (hW : ∀ c, c < 6 → W c = ("..." : Str) ++ nx c ++ Bt c) (hB : ∀ c, 1 ≤ c → c < 6 → Bt c = W (ax c)) (hn : ∀ c, c < 6 → (nx c).length ≤ 1000) (hb : ∀ c, c < 6 → (Bt c).length ≤ 10000) (hdist : ∀ c d, c < 6 → d < 6 → sx c = sx d → c = d)
   (hO : ∀ kvs : List (Str × Value), (∀ k, k < 6 → ∃ t, valueAt kvs (sx k) = some (.str (W k) t)) → OrdIn w sx nx W tail last mids kvs)
   (m2 : m "signs" = some (.ref sg)) (m3 : m "names" = some (.ref nl)) (m4 : m "around" = some (.ref al)) (m5 : m "ground" = some (.ref gr.f)) (m6 : m "dots" = some (.str (Bt 0) t3)) (m7 : m "tail" = some (.str tail t4)) (hdp : dp + 40 < recursionLimit) (hun : un + 500 < cLine)
   (K : ∀ (h' : Heap) (tk' : Nat) (m' : Str → Option Value) (oA : Addr) (nA : Nat) (os : List Ord), Fr h₀ L h' m' → OrdsAre os (ordsAt nx tail last mids 5) →
      News h₀ L h' ((oA, listOf (refsOf os).toArray nA) :: (sg, listOf (sixS sx su) ns) :: (nl, listOf (sixS nx nv) nn) :: (rest ++ os.map Ord.led)) →
      m' "signs" = some (.ref sg) → m' "names" = some (.ref nl) → m' "around" = some (.ref al) → m' "orders" = some (.ref oA) →
      wpAny (model pg w) (ktrTop dp un gd "law" (scopeAt w 138) L a ccd cl outer) (execs (lawB.drop 16) (envOfC "law" (scopeAt w 138) L fa cd)) Q E { s with heap := h', toks := tk' }) :
   wpAny (model pg w) (ktrTop dp un gd "law" (scopeAt w 138) L a ccd cl outer) (execs (lawB.drop 15) (envOfC "law" (scopeAt w 138) L fa cd)) Q E s := by
  have e1 : lawB.drop 15 = _ :: lawB.drop 16 := rfl
  have e2 : scopeAt w 138 = Scope.mk _ _ _ _ _ := rfl
  generalize hR : lawB.drop 16 = R at *
  rw [e1]
  rw [e2] at K ⊢
  have F := Mine.Fr.pin (Mine.Fr.pin (Mine.Fr.pin (Mine.Fr.pin (Mine.Fr.pin (Mine.Fr.pin F (x := "dots") m6) (x := "signs") m2) (x := "names") m3) (x := "around") m4) (x := "ground") m5) (x := "tail") m7
  have oA := ok.cell
  have oB := ok.tag
  have oC := ok.attrib
  have oD := ok.inner
  have oE := ok.make
  have oF := ok.app
  k_steps
  refine ⟨?_⟩
  (with_reducible rename News _ _ _ _ => kN)
  (with_reducible rename LtL _ _ => kL)
  have hRD := LtL.restLt (rest := rest ++ canonB (pmOf mg) c2 6 Bk) 5 kL rfl
  refine' HC.useO (rest := (sg, listOf (sixS sx su) ns) :: (nl, listOf (sixS nx nv) nn) :: rest) (wants_c w mg mb W Bt sx nx ax su _ c2 I Bk D hax hW hB hn hb hdist (fun q hq => Nat.ne_of_lt (hRD q (List.mem_append_right _ hq))) 5 0 rfl t3 [] _ (fun _ => False) ?hdi ?hle ⟨fun _ h => h.elim⟩) wants_out ?pB ?pF ?pX kN ?pT ?pk trivial ?pd ?pu ?pr ?ps ?po ?_
  case hdi => assumption
  case hle => decide
  case pB => k_asm
  case pF => k_asm
  case pX => k_asm
  case pT => k_asm
  case pk => first | exact rfl | assumption
  case pd => exact Nat.lt_of_le_of_lt (Nat.add_le_add_left (by decide) dp) hdp
  case pu => exact Nat.lt_of_le_of_lt (Nat.add_le_add_left (by decide) un) hun
  case pr =>
    intro q hq
    rcases List.mem_append.mp hq with hq | hq
    · exact TailOf.mem (rest := rest ++ canonB (pmOf mg) c2 6 Bk) (by k_extra "Tail") q (List.mem_append_right _ hq)
    · rw [List.mem_singleton.mp hq]; k_mem
  case ps => exact List.forall_mem_cons.mpr ⟨by k_mem, List.forall_mem_cons.mpr ⟨by k_mem, fun q hq => TailOf.mem (rest := rest ++ canonB (pmOf mg) c2 6 Bk) (by k_extra "Tail") q (List.mem_append_left _ hq)⟩⟩
  case po => exact off_doc D (pmOf mg) c2 (List.forall_mem_cons.mpr ⟨hsI, List.forall_mem_cons.mpr ⟨hnI, hrI⟩⟩) (List.forall_mem_cons.mpr ⟨kL.1, List.forall_mem_cons.mpr ⟨kL.2.1, fun q hq => hRD q (List.mem_append_left _ hq)⟩⟩)
  intro h' tk' F' wob' kvs' r3 r5 N'
  k_steps
  refine ⟨?_⟩
  have r6 : ∀ k, k < 6 → ∃ t, valueAt kvs' (sx k) = some (.str (W k) t) := fun k hk => r5.out k (Or.inr (desc_all hax k hk)) hk
  refine' HC.useO (rest := rest) (orders_c w mg mb sg nl _ sx nx W su nv ns nn wob' kvs' tail last t4 mids r3 (hO kvs' r6)) orders_out ?tB ?tF ?tX ?tN ?tT ?tk ?tG ?td ?tu ?tr ?ts ?to ?_
  case tB => k_asm
  case tF => k_asm
  case tX => k_asm
  case tN => k_asm
  case tT => k_asm
  case tk => first | exact rfl | assumption
  case tG => assumption
  case td => exact Nat.lt_of_le_of_lt (Nat.add_le_add_left (by decide) dp) hdp
  case tu => exact Nat.lt_of_le_of_lt (Nat.add_le_add_left (by decide) un) hun
  case tr =>
    refine List.forall_mem_cons.mpr ⟨List.mem_append_right _ (List.mem_cons_self ..), List.forall_mem_cons.mpr ⟨List.mem_append_right _ (List.mem_cons_of_mem _ (List.mem_cons_self ..)), List.forall_mem_cons.mpr ⟨List.mem_append_left _ (List.mem_append_right _ (List.mem_cons_self ..)), List.forall_mem_nil _⟩⟩⟩
  case ts => exact fun q hq => List.mem_append_right _ (List.mem_cons_of_mem _ (List.mem_cons_of_mem _ hq))
  case to => exact fun q hq => notin_cons (Rs.ne q hq) (notin_cons (Rn.ne q hq) (notin_cons (Nat.ne_of_lt (hRD q (List.mem_append_left _ hq))) notin_nil))
  intro h' tk' F' os oA nA g2 N'
  k_steps
  dsimp only
  refine' K _ _ _ oA nA os (by k_asm) g2 (Newss.sub (by k_asm) ?oN) (by exact rfl) (by exact rfl) (by exact rfl) (by exact rfl)
  intro q hq
  rcases List.mem_cons.mp hq with rfl | hq
  · exact List.mem_append_left _ (List.mem_cons_self ..)
  rcases List.mem_cons.mp hq with rfl | hq
  · exact List.mem_append_left _ (List.mem_cons_of_mem _ (List.mem_append_left _ (List.mem_cons_self ..)))
  rcases List.mem_cons.mp hq with rfl | hq
  · exact List.mem_append_left _ (List.mem_cons_of_mem _ (List.mem_append_left _ (List.mem_cons_of_mem _ (List.mem_cons_self ..))))
  rcases List.mem_append.mp hq with hq | hq
  · exact List.mem_append_right _ hq
  · exact List.mem_append_left _ (List.mem_cons_of_mem _ (List.mem_append_right _ hq))
theorem seg7 (w : World) (mg mb : Str → Option Value) (fa : Addr) (cd : Value)
   (p : Program) (loose : List Str) (mean : ExcName → Option Value) (dp un : Nat) (gd : Option (List Code)) (a : Addr) (ccd : Value) (cl : List (Str × Addr)) (outer : List Env) (A₀ : Around) (base h₀ : Heap) (L : Addr) (m : Str → Option Value) (s : Shared) (Q : Flow → Shared → Prop) (E : Value → Shared → Prop)
   (B : Below A₀ base outer h₀) (X : (hd.heap_39 w.params).In h₀) (T : Top p loose mean mg mb h₀) (F : Fr h₀ L s.heap m) (HG : CodeHd base 99 95)
   (o1 o2 o3 o4 o5 o6 : Obj) (l sg nl al c1 c2 I : Addr) (oc2 : Obj) (gr : Node) (gt ga : Value) (gn : Nat) (vals : List Value) (sx nx W Bt : Nat → Str) (ax : Nat → Nat) (su nv ab : Nat → Tok) (ns nn na : Nat) (Bk : Nat → Blk) (tail last : Str) (mids : Nat → List Str) (t3 t4 : Tok)
   (N : News h₀ L s.heap ([(sg, listOf (sixS sx su) ns), (nl, listOf (sixS nx nv) nn), (al, listOf (sixI ax ab) na), (c2, oc2), (95, tabFull c1 c2)] ++ (cel6 L o1 o2 o3 o4 o5 o6 ++ ((l, listOf vals.toArray 0) :: (gr.led (pmOf mg) c2 [.ref (Bk 0).nd.f] gn ++ canonB (pmOf mg) c2 6 Bk)))))
   (h1 : @LT.lt Nat _ 138 L) (h2 : @LT.lt Nat _ (L + 6) l) (h3 : @LT.lt Nat _ l sg) (h4 : @LT.lt Nat _ sg al) (h5 : @LT.lt Nat _ nl al) (h6 : @LT.lt Nat _ al gr.ce) (h7 : @LT.lt Nat _ gr.l c2) (h8 : @LT.lt Nat _ c2 gr.f2) (h9 : @LT.lt Nat _ gr.f2 I)
   (hnl : ∀ q ∈ ((sg, listOf (sixL sx su).toArray ns) :: (cel6 L o1 o2 o3 o4 o5 o6 ++ [(95, tabObj #[]), (l, listOf vals.toArray 0)])), q.1 ≠ nl)
   (ok : gr.Ok gt ga) (D : DocAt w I sx nx ax su 6 Bk) (hax : ∀ k, 1 ≤ k → k < 6 → ax k < k)
   (hW : ∀ c, c < 6 → W c = ("..." : Str) ++ nx c ++ Bt c) (hB : ∀ c, 1 ≤ c → c < 6 → Bt c = W (ax c)) (hn : ∀ c, c < 6 → (nx c).length ≤ 1000) (hb : ∀ c, c < 6 → (Bt c).length ≤ 10000) (hdist : ∀ c d, c < 6 → d < 6 → sx c = sx d → c = d)
   (hO : ∀ kvs : List (Str × Value), (∀ k, k < 6 → ∃ t, valueAt kvs (sx k) = some (.str (W k) t)) → OrdIn w sx nx W tail last mids kvs)
   (m2 : m "signs" = some (.ref sg)) (m3 : m "names" = some (.ref nl)) (m4 : m "around" = some (.ref al)) (m5 : m "ground" = some (.ref gr.f)) (m6 : m "dots" = some (.str (Bt 0) t3)) (m7 : m "tail" = some (.str tail t4)) (hdp : dp + 40 < recursionLimit) (hun : un + 500 < cLine)
   (K : ∀ (h' : Heap) (tk' : Nat) (m' : Str → Option Value) (oA : Addr) (nA : Nat) (os : List Ord), Fr h₀ L h' m' → OrdsAre os (ordsAt nx tail last mids 5) →
      News h₀ L h' ((oA, listOf (refsOf os).toArray nA) :: ([(nl, listOf (sixS nx nv) nn), (al, listOf (sixI ax ab) na), (sg, listOf (sixS sx su) ns), (95, tabFull c1 c2)] ++ (cel6 L o1 o2 o3 o4 o5 o6 ++ os.map Ord.led))) →
      m' "signs" = some (.ref sg) → m' "names" = some (.ref nl) → m' "around" = some (.ref al) → m' "orders" = some (.ref oA) →
      wpAny (model pg w) (ktrTop dp un gd "law" (scopeAt w 138) L a ccd cl outer) (execs (lawB.drop 16) (envOfC "law" (scopeAt w 138) L fa cd)) Q E { s with heap := h', toks := tk' }) :
   wpAny (model pg w) (ktrTop dp un gd "law" (scopeAt w 138) L a ccd cl outer) (execs (lawB.drop 15) (envOfC "law" (scopeAt w 138) L fa cd)) Q E s := by
  have h95 : @LT.lt Nat _ 95 L := Nat.lt_trans (by decide) h1
  have hl6 : ∀ k, k ≤ 6 → @LT.lt Nat _ (L + k) l := fun k hk => Nat.lt_of_le_of_lt (Nat.add_le_add_left hk L) h2
  have h95s : @LT.lt Nat _ 95 sg := Nat.lt_trans (Nat.lt_trans h95 (hl6 0 (by decide))) h3
  have hcI : @LT.lt Nat _ gr.ce I := Nat.lt_trans ok.Lf2.1 h9
  have haI : @LT.lt Nat _ al I := Nat.lt_trans h6 hcI
  have hsI : @LT.lt Nat _ sg I := Nat.lt_trans h4 haI
  have hsL : LtL sg [L + 1, L + 1 + 1, L + 1 + 1 + 1, L + 1 + 1 + 1 + 1, L + 1 + 1 + 1 + 1 + 1, L + 1 + 1 + 1 + 1 + 1 + 1] :=
    ⟨Nat.lt_trans (hl6 1 (by decide)) h3, Nat.lt_trans (hl6 2 (by decide)) h3, Nat.lt_trans (hl6 3 (by decide)) h3, Nat.lt_trans (hl6 4 (by decide)) h3, Nat.lt_trans (hl6 5 (by decide)) h3, Nat.lt_trans (hl6 6 (by decide)) h3, trivial⟩
  have hnL : NeL nl [sg, L + 1, L + 1 + 1, L + 1 + 1 + 1, L + 1 + 1 + 1 + 1, L + 1 + 1 + 1 + 1 + 1, L + 1 + 1 + 1 + 1 + 1 + 1, 95, l] := NeL.of hnl
  have rn : ∀ x : Addr, al ≠ x → 95 ≠ x → L + 1 ≠ x → L + 1 + 1 ≠ x → L + 1 + 1 + 1 ≠ x → L + 1 + 1 + 1 + 1 ≠ x → L + 1 + 1 + 1 + 1 + 1 ≠ x → L + 1 + 1 + 1 + 1 + 1 + 1 ≠ x → RNe ((al, listOf (sixI ax ab) na) :: (95, tabFull c1 c2) :: cel6 L o1 o2 o3 o4 o5 o6) x := fun x a b d e f g h i =>
    RNe.consR a (RNe.consR b (RNe.consR d (RNe.consR e (RNe.consR f (RNe.consR g (RNe.consR h (RNe.consR i ⟨fun _ h => nomatch h⟩)))))))
  have hrI : ∀ q ∈ (al, listOf (sixI ax ab) na) :: (95, tabFull c1 c2) :: cel6 L o1 o2 o3 o4 o5 o6, @LT.lt Nat _ q.1 I := fun q hq =>
    LtL.all (d := I) (as := [al, 95, L + 1, L + 1 + 1, L + 1 + 1 + 1, L + 1 + 1 + 1 + 1, L + 1 + 1 + 1 + 1 + 1, L + 1 + 1 + 1 + 1 + 1 + 1])
      ⟨haI, Nat.lt_trans h95s hsI, Nat.lt_trans hsL.1 hsI, Nat.lt_trans hsL.2.1 hsI, Nat.lt_trans hsL.2.2.1 hsI, Nat.lt_trans hsL.2.2.2.1 hsI, Nat.lt_trans hsL.2.2.2.2.1 hsI, Nat.lt_trans hsL.2.2.2.2.2.1 hsI, trivial⟩ q.1 (List.mem_map_of_mem (f := fun p => p.1) hq)
  refine seg7s w mg mb fa cd p loose mean dp un gd a ccd cl outer A₀ base h₀ L m s Q E B X T F HG sg nl al c2 I gr gt ga gn sx nx W Bt ax su nv ns nn Bk tail last mids t3 t4
    ((al, listOf (sixI ax ab) na) :: (95, tabFull c1 c2) :: cel6 L o1 o2 o3 o4 o5 o6) (Newss.sub N ?N) hsI (Nat.lt_trans h5 haI) hrI
    (rn sg (by k_ne) (by k_ne) (by k_ne) (by k_ne) (by k_ne) (by k_ne) (by k_ne) (by k_ne)) (rn nl (by k_ne) (by k_ne) (by k_ne) (by k_ne) (by k_ne) (by k_ne) (by k_ne) (by k_ne)) ok D hax hW hB hn hb hdist hO m2 m3 m4 m5 m6 m7 hdp hun
    fun h' tk' m' oA nA os F' g2 N' => K h' tk' m' oA nA os F' g2 (Newss.sub N' ?N')
  case N =>
    k_dflt (simp only [cel6, Node.led, List.cons_append, List.nil_append])
    k_dflt (k_extra "MemAll2")
  case N' =>
    k_dflt (simp only [cel6, List.cons_append, List.nil_append])
    k_dflt (k_extra "MemAll2")

end

section
open PyProof.Rows.LCg
theorem sub7idx_1 : True := by
  w_top off
  (k_with "e208" => skip)
  (k_with "e207" => skip)
  (k_with "e209" => skip)
  (k_with "e210" => skip)
  (k_with "e211" => skip)
  (k_with "e212" => skip)
  (k_with "e213" => skip)
  (k_with "RNe" => ((fail_if_success k_extra "e214"); (first | assumption | (refine' RNe.of_ltl _ ?hz43 ?ez43; (case hz43 => with_reducible assumption); (case ez43 => k_extra "SEG")))))
  trivial
/-- one value a text -/
inductive MapR (R : Str → Value → Prop) : List Value → List Str → Prop
  | nil : MapR R [] []
  | cons {y v ys xs} : R y v → MapR R ys xs → MapR R (v :: ys) (y :: xs)
theorem MapR.snoc {R : Str → Value → Prop} {ys xs} (h : MapR R ys xs) {y v} (r : R y v) : MapR R (ys ++ [v]) (xs ++ [y]) := by
  induction h with
  | nil => exact .cons r .nil
  | cons a _ ih => exact .cons a ih
theorem MapR.ints {f : Str → Nat} {ys xs} (h : MapR (fun y v => ∃ t, v = .int (f y : Nat) t) ys xs) : IntsAre ys (xs.map fun y => ((f y : Nat) : Int)) := by
  induction h with
  | nil => exact .nil
  | cons a _ ih => obtain ⟨t, rfl⟩ := a; exact .cons _ t ih
theorem mapSrcR {prog : Program} {w : World} {A : Around} {h₀ : Heap} {env : Env} {s : Shared} {m : Str → Option Value} {Fin : Shared → List Value → List (Addr × Obj) → Prop} {elt : Expr} {x : Str} {sc : Scope} {cl : List (Str × Addr)}
   {L : Addr} (R : Str → Value → Prop) (src : Addr) (sv : List Value) (ss : List Str) (n : Nat) (news : List (Addr × Obj)) (hh : A.handled = none) (F : Fr h₀ L s.heap m) (N : News h₀ L s.heap news) (hb3 : (src, listOf sv.toArray n) ∈ news) (hS : StrsAre sv ss) (hl : ss.length ≤ 50)
      (helt : ∀ (C : Addr) (oC : Obj) (m₂ : Str → Option Value) (y : Str) (t : Tok) (s₁ : Shared) (E' : Value → Shared → Prop) (Q' : Value → Shared → Prop) (n1 : List (Addr × Obj)), NsObj oC m₂ → m₂ x = some (.str y t) → y ∈ ss → Fr h₀ L s₁.heap m → News h₀ L s₁.heap ((C, oC) :: (n1 ++ news)) →
      (∀ v h' tk', R y v → Fr h₀ L h' m → News h₀ L h' ((C, oC) :: (n1 ++ news)) → Q' v { s₁ with heap := h', toks := tk' }) → wpAny (model prog w) A (eval elt (compEnvC sc cl C env)) Q' E' s₁)
   (K : ∀ (g : Heap) (ys : List Value), MapR R ys ss → Fin { s with heap := g } ys news) :
   CompSrc prog w A h₀ L m env elt x sc cl Fin (.ref src) s := by
  have lv := StrsAre.length hS
  have rest : ∀ d i ys (g : Heap), i + d = ss.length → MapR R ys (ss.take i) → CompRest prog w A h₀ L m env elt x sc cl { s with heap := g } (SrcAt h₀ src sv.toArray) (fun i v => sv.toArray[i]? = some v) (Fin { s with heap := g }) d i ys news := by
    intro d
    induction d with
    | zero =>
      intro i ys g hi hys
      rw [show i = ss.length by omega, List.take_length] at hys
      exact CompRest.zero (K g ys hys)
    | succ d ih =>
      intro i ys g hi hys
      refine CompRest.succ fun v I oI C oC D m₂ h tk E' hP hC e2 F' N' off hne => ?_
      have hlt : i < ss.length := by omega
      have hv : sv[i]? = some v := by simpa using hP
      obtain ⟨t, ht⟩ := StrsAre.get hS i ss[i] (by simp [hlt])
      rw [hv] at ht
      cases ht
      refine helt C oC m₂ ss[i] t _ E' _ [(I, oI), (D, lst ys)] hC e2 (List.getElem_mem hlt) F' (Newss.sub N' fun q hq => ?_) ?_
      · simp only [List.cons_append, List.nil_append, List.mem_cons] at hq ⊢
        rcases hq with hq | hq | hq | hq
        · exact .inr (.inl hq)
        · exact .inl hq
        · exact .inr (.inr (.inl hq))
        · exact .inr (.inr (.inr hq))
      · intro v h' tk' hR F2 N2
        refine ⟨h', tk', news, rfl, F2, Newss.sub N2 fun q hq => ?_, off, .inr ⟨_, hb3, rfl, n, rfl⟩, ih (i + 1) _ g (by omega) ?_⟩
        · simp only [List.cons_append, List.nil_append, List.mem_cons] at hq ⊢
          rcases hq with hq | hq | hq | hq
          · exact .inr (.inl hq)
          · exact .inl hq
          · exact .inr (.inr (.inl hq))
          · exact .inr (.inr (.inr hq))
        · rw [List.take_add_one, List.getElem?_eq_getElem hlt]
          exact hys.snoc hR
  refine CompSrc.ledger hh F N hb3 ?_ fun g => ?_
  · rw [List.size_toArray, lv, sizeLine_eq]; omega
  · rw [List.size_toArray, lv]
    exact rest ss.length 0 [] g (by omega) .nil
def isStrV (y : Str) : Value → Bool
  | .str x _ => x.cps.toList == y.cps.toList
  | _ => false
theorem strsAre_at {vs : List Value} {ss : List Str} (h : StrsAre vs ss) : ∀ (j : Nat) (hj : j < vs.length) (hk : j < ss.length), ∃ t, vs[j] = .str ss[j] t := by
  induction h with
  | nil => intro j hj; exact absurd hj (Nat.not_lt_zero _)
  | cons x t _ ih =>
    intro j hj hk
    cases j with
    | zero => exact ⟨t, rfl⟩
    | succ j => exact ih j (Nat.lt_of_succ_lt_succ hj) (Nat.lt_of_succ_lt_succ hk)
theorem strIndex {prog : Program} {w : World} {A : Around} {E : Value → Shared → Prop} {s : Shared} {h₀ : Heap} {L D : Addr} {news : List (Addr × Obj)} {vs : List Value} {rs : List Str} {n j : Nat} {y : Str} {t : Tok} {Q : Value → Shared → Prop}
    (N : News h₀ L s.heap news) (hm : (D, listOf vs.toArray n) ∈ news) (hS : StrsAre vs rs) (hj : j < rs.length) (hy : rs[j] = y) (hno : ∀ i (hi : i < rs.length), i < j → rs[i] ≠ y) (hz : rs.length ≤ 1000)
    (h : Q (.int (j : Nat) s.toks) { s with toks := s.toks + 1 }) : wpAny (model prog w) A (call (.builtin "list.index") [.ref D, .str y t]) Q E s := by
  have hl := StrsAre.length hS
  have hsz : vs.toArray.size = vs.length := by simp
  refine call_meets PySem.F.slot_list_index ⟨_, (N _ hm).1, rfl⟩ PySem.F.entry_list_index (PySem.F.args_list_index_2 _ _)
    (MeetsSeq.list_index D vs.toArray n (.str y t) (isStrV y) (fun v hv => ?_) j (by omega) (by omega) ?_ (fun i hi hlt => ?_)) ⟨(N _ hm).1, h⟩
  · obtain ⟨x, u, rfl⟩ := hS.all v (by simpa using hv)
    exact PySem.SeqRoads2.EqGives.str x y u t
  · obtain ⟨u, hu⟩ := strsAre_at hS j (by omega) hj
    simp only [List.getElem_toArray, hu, isStrV, hy, beq_self_eq_true]
  · obtain ⟨u, hu⟩ := strsAre_at hS i (by omega) (by omega)
    simp only [List.getElem_toArray, hu, isStrV]
    exact beq_eq_false_iff_ne.mpr fun e => hno i (by omega) hlt (StrLaws.mk_of_toList e)
theorem idx_no {rs : List Str} {y : Str} : ∀ i (hi : i < rs.length), i < rs.idxOf y → rs[i] ≠ y := fun i hi hlt e => by
  have := List.not_of_lt_findIdx hlt
  rw [e] at this
  simp at this
theorem strIndexM {prog : Program} {w : World} {A : Around} {E : Value → Shared → Prop} {s : Shared} {h₀ : Heap} {L D : Addr} {news : List (Addr × Obj)} {vs : List Value} {rs : List Str} {n : Nat} {y : Str} {t : Tok} {Q : Value → Shared → Prop}
    (N : News h₀ L s.heap news) (hm : (D, listOf vs.toArray n) ∈ news) (hS : StrsAre vs rs) (hy : y ∈ rs) (hz : rs.length ≤ 1000)
    (h : Q (.int (rs.idxOf y : Nat) s.toks) { s with toks := s.toks + 1 }) : wpAny (model prog w) A (call (.builtin "list.index") [.ref D, .str y t]) Q E s := by
  refine strIndex (j := rs.idxOf y) N hm hS (List.idxOf_lt_length_iff.mpr hy) (List.getElem_idxOf _) (fun i hi hlt e => ?_) hz h
  have := List.not_of_lt_findIdx hlt
  rw [e] at this
  simp at this

end

section
open PyProof.Rows.LCg
theorem sub8rk_1 : True := by
  w_top off
  (k_with "call builtin:list.index" => ((fail_if_success k_extra "e215"); ((k_here; refine Hold.out ?_))))
  trivial
def rkE : Expr × Scope := exS (stX lawB 17)
def rkSc : Scope := rkE.2
theorem idxElt (w : World) (mg mb : Str → Option Value) (fa : Addr) (cd : Value)
   (p : Program) (loose : List Str) (mean : ExcName → Option Value) (dp un : Nat) (gd : Option (List Code)) (a : Addr) (ccd : Value) (cl : List (Str × Addr)) (outer : List Env) (A₀ : Around) (base h₀ : Heap) (L : Addr) (m : Str → Option Value) (s : Shared) (Q : Value → Shared → Prop) (E : Value → Shared → Prop)
   (B : Below A₀ base outer h₀) (X : (hd.heap_39 w.params).In h₀) (T : Top p loose mean mg mb h₀) (F : Fr h₀ L s.heap m)
   (C cr rk : Addr) (oC o3 : Obj) (m₂ : Str → Option Value) (rv : List Value) (rs : List Str) (ne j : Nat) (y : Str) (t : Tok) (rest : List (Addr × Obj)) (cl2 : List (Str × Addr)) (hcl : cl2 = [(("ranked" : Str), cr)])
   (N : News h₀ L s.heap ([(C, oC), (cr, o3), (rk, listOf rv.toArray ne)] ++ rest)) (hok : o3.data = .cell (some (.ref rk)))
   (hS : StrsAre rv rs) (hj : j < rs.length) (hy : rs[j] = y) (hno : ∀ i (hi : i < rs.length), i < j → rs[i] ≠ y) (hz : rs.length ≤ 1000)
   (hC : NsObj oC m₂) (e1 : m₂ "name" = some (.str y t)) (hdp : dp + 40 < recursionLimit) (hun : un + 400 < cLine)
   (K : ∀ (h' : Heap) (tk' : Nat) (t' : Tok), Fr h₀ L h' m → News h₀ L h' ([(C, oC), (cr, o3), (rk, listOf rv.toArray ne)] ++ rest) → Q (.int (j : Nat) t') { s with heap := h', toks := tk' }) :
   wpAny (model pg w) (ktrTop dp un gd "law" (scopeAt w 138) L a ccd cl outer) (eval rkE.1 (compEnvC rkSc cl2 C (envOfC "law" (scopeAt w 138) L fa cd))) Q E s := by
  have q1 : rkSc = Scope.mk _ _ _ _ _ := rfl
  have q2 : scopeAt w 138 = Scope.mk _ _ _ _ _ := rfl
  have q3 : rkE.1 = Expr.Call _ _ _ _ := rfl
  rw [q1, q2, q3]
  subst hcl
  k_steps
  refine ⟨?_⟩
  refine strIndex (by k_asm) (by k_mem) hS hj hy hno hz ?_
  k_steps
  exact K _ _ _ (by k_asm) (by k_asm)

end

section
open PyProof.Rows.LCg
theorem sub9seg_1 : True := by
  w_top off
  (k_with "e215" => skip)
  (k_with "call builtin:sorted" => ((fail_if_success k_extra "e216"); ((k_here; refine Hold.out ?_))))
  (k_with "CompSrc" => ((fail_if_success k_extra "e217"); ((refine Hold.out ?_))))
  trivial
def six6s (x : Nat → Str) : List Str := [x 0, x 1, x 2, x 3, x 4, x 5]
theorem sixL_strs (x : Nat → Str) (u : Nat → Tok) : StrsAre (sixL x u) (six6s x) := .cons _ _ (.cons _ _ (.cons _ _ (.cons _ _ (.cons _ _ (.cons _ _ .nil)))))
theorem sortedE {prog : Program} {w : World} {A : Around} {E : Value → Shared → Prop} {s : Shared} {h₀ : Heap} {L : Addr} {m : Str → Option Value} {news : List (Addr × Obj)} {l : Addr} {vs : List Value} {ss : List Str} {n : Nat} {Q : Value → Shared → Prop}
    (F : Fr h₀ L s.heap m) (N : News h₀ L s.heap news) (hm : (l, listOf vs.toArray n) ∈ news) (hS : StrsAre vs ss) (h64 : vs.length < 64)
    (h : ∀ (D : Addr) (h' : Heap) (vs' : List Value) (ss' : List Str) (e : Nat), Fr h₀ L h' m → News h₀ L h' ((D, listOf vs'.toArray e) :: news) → (∀ q ∈ news, q.1 < D) →
      StrsAre vs' ss' → ss'.Perm ss → sortedS ss' = true → Q (.ref D) { s with heap := h' }) :
    wpAny (model prog w) A (call (.builtin "sorted") [.ref l]) Q E s :=
  sorted_N_str F N (News.isList N hm) hS h64 fun h' vs' ss' e F' N' a b c => h _ h' vs' ss' e F' N' (fun q hq => Nat.lt_succ_of_lt (Heap.lt_size (N q hq).1)) a b c
theorem seg8 (w : World) (mg mb : Str → Option Value) (fa : Addr) (cd : Value)
   (p : Program) (loose : List Str) (mean : ExcName → Option Value) (dp un : Nat) (gd : Option (List Code)) (a : Addr) (ccd : Value) (cl : List (Str × Addr)) (outer : List Env) (A₀ : Around) (base h₀ : Heap) (L : Addr) (m : Str → Option Value) (s : Shared) (Q : Flow → Shared → Prop) (E : Value → Shared → Prop)
   (B : Below A₀ base outer h₀) (X : (hd.heap_39 w.params).In h₀) (T : Top p loose mean mg mb h₀) (F : Fr h₀ L s.heap m) (HG : CodeHd base 99 95)
   (o1 o2 o3 o4 o5 o6 : Obj) (sg nl al oA : Addr) (nx : Nat → Str) (nv : Nat → Tok) (nn : Nat) (rest : List (Addr × Obj))
   (N : News h₀ L s.heap ((nl, listOf (sixS nx nv) nn) :: (cel6 L o1 o2 o3 o4 o5 o6 ++ rest)))
   (R3 : RNe rest (L + 1 + 1 + 1)) (R4 : RNe rest (L + 1 + 1 + 1 + 1)) (hnl : ∀ q ∈ cel6 L o1 o2 o3 o4 o5 o6, q.1 ≠ nl) (kc3 : ∃ x, o3.data = .cell x) (kc4 : ∃ x, o4.data = .cell x)
   (m2 : m "signs" = some (.ref sg)) (m3 : m "names" = some (.ref nl)) (m4 : m "around" = some (.ref al)) (m5 : m "orders" = some (.ref oA)) (hdp : dp + 40 < recursionLimit) (hun : un + 500 < cLine)
   (K : ∀ (h' : Heap) (tk' : Nat) (m' : Str → Option Value) (o3' o4' : Obj) (rk rn : Addr) (rv kv : List Value) (rs : List Str) (e n4 : Nat), Fr h₀ L h' m' →
      News h₀ L h' ((rn, listOf kv.toArray n4) :: (rk, listOf rv.toArray e) :: (nl, listOf (sixS nx nv) nn) :: (cel6 L o1 o2 o3' o4' o5 o6 ++ rest)) →
      o3'.data = .cell (some (.ref rk)) → o4'.data = .cell (some (.ref rn)) → StrsAre rv rs → rs.Perm (six6s nx) → sortedS rs = true → IntsAre kv ((six6s nx).map fun y => ((rs.idxOf y : Nat) : Int)) →
      m' "signs" = some (.ref sg) → m' "names" = some (.ref nl) → m' "around" = some (.ref al) → m' "orders" = some (.ref oA) →
      wpAny (model pg w) (ktrTop dp un gd "law" (scopeAt w 138) L a ccd cl outer) (execs (lawB.drop 18) (envOfC "law" (scopeAt w 138) L fa cd)) Q E { s with heap := h', toks := tk' }) :
   wpAny (model pg w) (ktrTop dp un gd "law" (scopeAt w 138) L a ccd cl outer) (execs (lawB.drop 16) (envOfC "law" (scopeAt w 138) L fa cd)) Q E s := by
  have e1 : lawB.drop 16 = _ :: _ :: lawB.drop 18 := rfl
  have e2 : scopeAt w 138 = Scope.mk _ _ _ _ _ := rfl
  generalize hR : lawB.drop 18 = R at *
  rw [e1]
  rw [e2] at K ⊢
  have F := Mine.Fr.pin (Mine.Fr.pin (Mine.Fr.pin (Mine.Fr.pin F (x := "signs") m2) (x := "names") m3) (x := "around") m4) (x := "orders") m5
  simp only [cel6, List.cons_append, List.nil_append] at N hnl
  simp only [List.forall_mem_cons] at hnl
  obtain ⟨z2, z3, z4, z5, z6, z7, _⟩ := hnl
  have y2 := z2.symm
  have y3 := z3.symm
  have y4 := z4.symm
  have y5 := z5.symm
  have y6 := z6.symm
  have y7 := z7.symm
  obtain ⟨x3, kc3⟩ := kc3
  obtain ⟨x4, kc4⟩ := kc4
  k_steps
  refine ⟨?_⟩
  refine sortedE (vs := sixL nx nv) (ss := six6s nx) (by k_asm) (by k_asm) (by k_mem) (sixL_strs nx nv) (by show 6 < 64; decide) ?_
  intro rk h' rv rs e F' N' l1 S1 P1 S2
  k_lt l1
  have rl : rs.length ≤ 1000 := by rw [P1.length_eq]; show 6 ≤ 1000; decide
  k_steps
  refine ⟨?_⟩
  rename Obj => o3'
  refine' mapSrcR (fun y v => ∃ t, v = .int (rs.idxOf y : Nat) t) nl (sixL nx nv) (six6s nx) nn _ ?qh ?qF ?qN ?qm (sixL_strs nx nv) ?ql ?qe ?qK
  case qh => exact rfl
  case qF => k_asm
  case qN => k_asm
  case qm => k_mem
  case ql => show 6 ≤ 50; decide
  case qe =>
    intro C oC m₂ y t s₁ E' Q' n1 hC e1 hy F1 N1 K1
    have hy' : y ∈ rs := P1.mem_iff.mpr hy
    refine idxElt w mg mb fa cd p loose mean dp un gd a ccd cl outer A₀ base h₀ L _ _ _ _ B X T F1 C (L + 1 + 1 + 1) rk oC o3' m₂ rv rs e (rs.idxOf y) y t (n1 ++ ((rk, listOf rv.toArray e) :: (nl, listOf (sixS nx nv) nn) :: (cel6 L o1 o2 o3' o4 o5 o6 ++ rest))) _ rfl (Newss.sub N1 fun q hq => ?_) (by assumption) S1 (List.idxOf_lt_length_iff.mpr hy') (List.getElem_idxOf _) idx_no rl hC e1 hdp (by omega) ?_
    · rcases List.mem_cons.mp hq with rfl | hq
      · exact List.mem_cons_self
      rcases List.mem_cons.mp hq with rfl | hq
      · exact List.mem_cons_of_mem _ (List.mem_append_right _ (by k_mem))
      rcases List.mem_cons.mp hq with rfl | hq
      · exact List.mem_cons_of_mem _ (List.mem_append_right _ (by k_mem))
      · exact List.mem_cons_of_mem _ hq
    · intro h' tk' t' F2 N2
      exact K1 _ h' tk' ⟨t', rfl⟩ F2 (Newss.sub N2 fun q hq => by
        rcases List.mem_cons.mp hq with rfl | hq
        · exact List.mem_cons_self
        · exact List.mem_cons_of_mem _ (List.mem_cons_of_mem _ (List.mem_cons_of_mem _ hq)))
  case qK =>
    intro g ys hys D h' tk' F' N' u1
    dsimp only
    have u2 := off1_mem u1
    simp only [List.forall_mem_cons] at u2
    obtain ⟨v0, v1, v2, v3, v4, v5, v6, v7, v9⟩ := u2
    have w0 := v0.symm
    have w1 := v1.symm
    have w2 := v2.symm
    have w3 := v3.symm
    have w4 := v4.symm
    have w5 := v5.symm
    have w6 := v6.symm
    have w7 := v7.symm
    k_steps
    dsimp only
    refine' K _ _ _ o3' _ rk D rv ys rs e ys.length (by k_asm) (Newss.sub (by k_asm) ?oN) (by assumption) (by assumption) S1 P1 S2 hys.ints (by exact rfl) (by exact rfl) (by exact rfl) (by exact rfl)
    exact fun q hq => hq

end

section
open PyProof.Rows.LCg
open PySem.Spec
theorem suc3comp_1 : True := by
  w_top off
  (k_with "e216" => skip)
  (k_with "e217" => skip)
  trivial
theorem newEnv1 {M : Model} {A : Around} {E : Value → Shared → Prop} {s : Shared} {scope : Scope} {globals : Addr} {closure : List (Str × Addr)} {x qual : Str} {func : Option Addr} {code : Value} {outer : Env} {builtins : Addr} {Q : Env → Shared → Prop}
    (hcf : ∀ a acc, cellsFrom a scope.names acc = (x, a) :: acc) (hpc : ∀ h, pushCells h scope.names = h.push { cls := .type "cell", data := .cell none })
    (hQ : Q (newEnv scope s.heap.objs.size globals ((x, s.heap.objs.size + 1) :: closure) qual func code (some outer) builtins) { s with heap := (s.heap.push { cls := .type "dict", data := .dict #[] }).push { cls := .type "cell", data := .cell none } }) :
    wpAny M A (newFunctionEnv scope globals closure [] qual func code (some outer) builtins) Q E s := by
  simp only [newFunctionEnv, Option.isSome_some, if_true]
  refine wpAny_bind (wpAny_alloc ?_)
  refine wpAny_bind (wpAny_layCells _ (fun name kind cells => by cases hkc : kind == NameKind.cell <;> simp [hkc]) _ _ _ _ ?_)
  rw [hcf, hpc, show ({ s with heap := s.heap.push { cls := .type "dict", data := .dict #[] } } : Shared).heap.objs.size = s.heap.objs.size + 1 from Heap.size_push ..]
  rw [List.forIn_nil]
  exact wpAny_bind (wpAny_pure (wpAny_pure hQ))
def Off4 (I C X D : Addr) (l : List (Addr × Obj)) : Prop := ∀ p ∈ l, p.1 ≠ I ∧ p.1 ≠ C ∧ p.1 ≠ X ∧ p.1 ≠ D
def CompEndK (h₀ : Heap) (L : Addr) (m : Str → Option Value) (s₁ : Shared) (I : Addr) (oI : Obj) (C : Addr) (oC : Obj) (X : Addr) (oX : Obj) (D : Addr) (oD : Obj) (S : List (Addr × Obj) → Prop) (rest : Value → List (Addr × Obj) → Prop) (y : Value) (s₂ : Shared) : Prop :=
  ∃ h' tk news', s₂ = { s₁ with heap := h', toks := tk } ∧ Fr h₀ L h' m ∧ News h₀ L h' ((I, oI) :: (C, oC) :: (X, oX) :: (D, oD) :: news') ∧ Off4 I C X D news' ∧ S news' ∧ rest y news'
def CompRestK (prog : Program) (w : World) (A : Around) (h₀ : Heap) (L : Addr) (m : Str → Option Value) (env : Env) (elt : Expr) (x : Str) (scope : Scope) (cl : List (Str × Addr)) (s : Shared) (S : List (Addr × Obj) → Prop) (P : Nat → Value → Prop)
    (Fin : List Value → List (Addr × Obj) → Prop) : Nat → Nat → List Value → List (Addr × Obj) → Prop
  | 0, _, ys, news => Fin ys news
  | k + 1, i, ys, news => ∀ v I oI C oC X oX D h tk (E' : Value → Shared → Prop), P i v → NsObj oC (fun _ => none) → oX.data = .cell (some v) → Fr h₀ L h m → News h₀ L h ((I, oI) :: (C, oC) :: (X, oX) :: (D, lst ys) :: news) → Off4 I C X D news →
      (I ≠ C ∧ I ≠ X ∧ I ≠ D ∧ C ≠ X ∧ C ≠ D ∧ X ≠ D) →
      wpAny (model prog w) A (eval elt (compEnvC scope ((x, X) :: cl) C env)) (CompEndK h₀ L m { s with heap := h, toks := tk } I oI C oC X oX D (lst ys) S (fun y news' => CompRestK prog w A h₀ L m env elt x scope cl s S P Fin k (i + 1) (ys ++ [y]) news')) E' { s with heap := h, toks := tk }
section
variable {prog : Program} {w : World} {A : Around} {E : Value → Shared → Prop} {s : Shared} {h₀ : Heap} {L : Addr} {m : Str → Option Value} {env : Env}
theorem CompRestK.succ {elt : Expr} {x : Str} {scope : Scope} {cl : List (Str × Addr)} {S : List (Addr × Obj) → Prop} {P : Nat → Value → Prop} {Fin : List Value → List (Addr × Obj) → Prop} {k i : Nat} {ys : List Value} {news : List (Addr × Obj)}
    (h : ∀ v I oI C oC X oX D h tk (E' : Value → Shared → Prop), P i v → NsObj oC (fun _ => none) → oX.data = .cell (some v) → Fr h₀ L h m → News h₀ L h ((I, oI) :: (C, oC) :: (X, oX) :: (D, lst ys) :: news) → Off4 I C X D news →
      (I ≠ C ∧ I ≠ X ∧ I ≠ D ∧ C ≠ X ∧ C ≠ D ∧ X ≠ D) →
      wpAny (model prog w) A (eval elt (compEnvC scope ((x, X) :: cl) C env)) (CompEndK h₀ L m { s with heap := h, toks := tk } I oI C oC X oX D (lst ys) S (fun y news' => CompRestK prog w A h₀ L m env elt x scope cl s S P Fin k (i + 1) (ys ++ [y]) news')) E' { s with heap := h, toks := tk }) :
    CompRestK prog w A h₀ L m env elt x scope cl s S P Fin (k + 1) i ys news := h
theorem block_K {elt iter : Expr} {x : Str} {px : Pos} {scope : Scope} {cl : List (Str × Addr)} {pos : Pos} {s₂ : Shared} {I : Addr} {fp : List Addr} {n : Nat} {P : Nat → Value → Prop} {St : Nat → Heap → Prop} {S : List (Addr × Obj) → Prop} {news : List (Addr × Obj)}
    {Fin : List Value → List (Addr × Obj) → Prop} {RR : Value → Addr → Result → Shared → Prop}
    (W : Walks prog w A I fp [I] n P St) (hsz : n ≤ sizeLine) (hIo : ∀ i h, St i h → ∃ o, h.get? I = some o)
    (hSt : ∀ i h h' o nw, St i h → h.get? I = some o → h'.get? I = some o → (∀ b o, h₀.get? b = some o → h'.get? b = some o) → News h₀ L h' nw → S nw → St i h')
    (hcf : ∀ a acc, cellsFrom a scope.names acc = (x, a) :: acc) (hpc : ∀ h, pushCells h scope.names = h.push { cls := .type "cell", data := .cell none })
    (hkind : scope.kind = .function) (hkx : ∀ cs C, (compEnvC scope cs C env).kindOf x = some .cell) (hst : St 0 s₂.heap) (hfp : ∀ b ∈ fp, b < s₂.heap.objs.size)
    (F : Fr h₀ L s₂.heap m) (N : News h₀ L s₂.heap news) (hIL : L ≠ I) (hI₀ : h₀.get? I = none) (off : ∀ p ∈ news, p.1 ≠ I) (hS : S news)
    (R : CompRestK prog w A h₀ L m env elt x scope cl s₂ S P Fin n 0 [] news)
    (hRR : ∀ D C h tk m' ys news', Fr h₀ L h m → News h₀ L h ((D, lst ys) :: news') → (∀ p ∈ news', p.1 ≠ D) → h.Ns C m' → h₀.get? C = none → h₀.get? D = none → C ≠ L → D ≠ L → C ≠ D → (∀ p ∈ news', p.1 ≠ C) → Fin ys news' → RR (.ref D) C (.ok .next) { s₂ with heap := h, toks := tk }) :
    wpAny (model prog w) A (newList []) (fun acc s₃ => wpAny (model prog w) A (newFunctionEnv scope env.globals cl [] env.qual none .none (some env)) (fun cenv s₄ =>
      codeAny (model prog w) A (.compStart (.ListComp elt [⟨.Name x px, iter, [], 0⟩] scope pos) 0 (.ref I) acc { cenv with scope := relabel scope env }) (RR acc cenv.locals) s₄) E s₃) E s₂ := by
  refine wpAny_newObj_type (newEnv1 hcf hpc ?_)
  dsimp only
  generalize hH2 : s₂.heap.push { cls := .type "list", dict := none, data := .seq ([] : List Value).toArray } = H2
  have hC : H2.objs.size = s₂.heap.objs.size + 1 := by rw [← hH2, Heap.size_push]
  generalize hH3 : H2.push { cls := .type "dict", data := .dict #[] } = H3
  have hX : H3.objs.size = H2.objs.size + 1 := by rw [← hH3, Heap.size_push]
  rw [← hX]
  generalize hH4 : H3.push { cls := .type "cell", data := .cell none } = h₁
  have up3 : ∀ b o, H2.get? b = some o → H3.get? b = some o := fun b o e => by rw [← hH3]; exact Heap.get?_push_of_some _ e
  have up4 : ∀ b o, H3.get? b = some o → h₁.get? b = some o := fun b o e => by rw [← hH4]; exact Heap.get?_push_of_some _ e
  have hns₁ : h₁.Ns H2.objs.size (fun _ => none) := by
    have := Heap.Ns.new H2 (.type "dict")
    rw [hH3] at this
    exact this.keeps up4
  have hcell₁ : h₁.IsCell H3.objs.size none := by rw [← hH4]; exact ⟨_, Heap.get?_push_size _ rfl, rfl⟩
  have hDC : s₂.heap.objs.size ≠ H2.objs.size := by rw [hC]; exact Nat.ne_of_lt (Nat.lt_succ_self _)
  have hCX : H2.objs.size ≠ H3.objs.size := by rw [hX]; exact Nat.ne_of_lt (Nat.lt_succ_self _)
  have hDX : s₂.heap.objs.size ≠ H3.objs.size := by rw [hX, hC]; exact Nat.ne_of_lt (Nat.lt_succ_of_lt (Nat.lt_succ_self _))
  have below : ∀ b, b < s₂.heap.objs.size → b ≠ H2.objs.size ∧ b ≠ s₂.heap.objs.size ∧ b ≠ H3.objs.size := fun b hb => ⟨by rw [hC]; exact Nat.ne_of_lt (Nat.lt_succ_of_lt hb), Nat.ne_of_lt hb, by rw [hX, hC]; exact Nat.ne_of_lt (Nat.lt_succ_of_lt (Nat.lt_succ_of_lt hb))⟩
  have hDf : s₂.heap.objs.size ∉ fp := fun hm => Nat.lt_irrefl _ (hfp _ hm)
  have hXf : H3.objs.size ∉ fp := fun hm => by have := hfp _ hm; rw [hX, hC] at this; exact Nat.lt_irrefl _ (Nat.lt_of_succ_lt (Nat.lt_of_succ_lt this))
  have hIf : I ∈ fp := W.sub I (List.mem_singleton.mpr rfl)
  have hIlt : I < s₂.heap.objs.size := hfp I hIf
  have old : ∀ b o, s₂.heap.get? b = some o → h₁.get? b = some o := fun b o e => up4 b o (up3 b o (hH2 ▸ Heap.get?_push_of_some _ e))
  have hacc : h₁.get? s₂.heap.objs.size = some (lst []) := up4 _ _ (up3 _ _ (hH2 ▸ Heap.get?_push_size _ rfl))
  have hst₁ : St 0 h₁ := W.frame _ _ _ hst fun b _ o e => old b o e
  have fresh : ∀ a, s₂.heap.objs.size ≤ a → s₂.heap.get? a = none := fun a ha => by
    cases e : s₂.heap.get? a with
    | none => rfl
    | some o' => exact absurd (Heap.lt_size e) (Nat.not_lt.mpr ha)
  have fresh₀ : ∀ a, s₂.heap.objs.size ≤ a → h₀.get? a = none := fun a ha => by
    cases e : h₀.get? a with
    | none => rfl
    | some o' => have := F.keep a o' e; rw [fresh a ha] at this; cases this
  have hD₀ : h₀.get? s₂.heap.objs.size = none := fresh₀ _ (Nat.le_refl _)
  have hC₀ : h₀.get? H2.objs.size = none := fresh₀ _ (by rw [hC]; exact Nat.le_succ _)
  have hX₀ : h₀.get? H3.objs.size = none := fresh₀ _ (by rw [hX, hC]; exact Nat.le_succ_of_le (Nat.le_succ _))
  have hLlt : L < s₂.heap.objs.size := F.ns.lt
  have hDL : s₂.heap.objs.size ≠ L := Ne.symm (below L hLlt).2.1
  have hCL : H2.objs.size ≠ L := Ne.symm (below L hLlt).1
  have hXL : H3.objs.size ≠ L := Ne.symm (below L hLlt).2.2
  have hCI : I ≠ H2.objs.size := (below I hIlt).1
  have hDI : I ≠ s₂.heap.objs.size := (below I hIlt).2.1
  have hXI : I ≠ H3.objs.size := (below I hIlt).2.2
  have off₀ : Off4 I H2.objs.size H3.objs.size s₂.heap.objs.size news := fun p hp => ⟨off p hp, (below _ (Heap.lt_size (N p hp).1)).1, (below _ (Heap.lt_size (N p hp).1)).2.2, (below _ (Heap.lt_size (N p hp).1)).2.1⟩
  have loop : ∀ s₃ : Shared, s₃ = { s₂ with heap := h₁ } →
      codeAny (model prog w) A (.compLoop (.ListComp elt [⟨.Name x px, iter, [], 0⟩] scope pos) 0 (.ref I) (.ref s₂.heap.objs.size) (compEnvC scope ((x, H3.objs.size) :: cl) H2.objs.size env))
        (RR (.ref s₂.heap.objs.size) H2.objs.size) s₃ := by
    rintro s₃ rfl
    refine codeAny_compLoop_tests
      (fun k s' => ∃ h' tk i ys news' v₀, s' = { s₂ with heap := h', toks := tk } ∧ i ≤ n ∧ k = n + 1 - i ∧ ys.length = i ∧ St i h' ∧ Fr h₀ L h' m ∧ h'.Ns H2.objs.size (fun _ => none) ∧ h'.IsCell H3.objs.size v₀ ∧ News h₀ L h' ((s₂.heap.objs.size, lst ys) :: news') ∧
        Off4 I H2.objs.size H3.objs.size s₂.heap.objs.size news' ∧ S news' ∧ CompRestK prog w A h₀ L m env elt x scope cl s₂ S P Fin (n - i) i ys news') ?_ (n + 1)
      ⟨h₁, _, 0, [], news, none, rfl, Nat.zero_le _, rfl, rfl, hst₁, F.keeps old, hns₁, hcell₁, fun p hp => ?_, off₀, hS, R⟩
    · rintro k s' ⟨h', tk, i, ys, news', v₀, rfl, hi, rfl, hyl, hst', F', hn', hc', N', off', hS', R'⟩
      by_cases hlt : i < n
      · obtain ⟨j, hj⟩ : ∃ j, n - i = j + 1 := ⟨n - i - 1, subStep hlt⟩
        rw [hj] at R'
        refine W.item i _ _ _ hlt hst' fun v h₂ tk₂ hPv hst₂ hk₂ => ?_
        have hc₂ : h₂.IsCell H3.objs.size v₀ := by obtain ⟨o, e, d⟩ := hc'; exact ⟨o, hk₂ _ o (by simpa using Ne.symm hXI) e, d⟩
        refine wpAny_assign_Name (wpAny_storeName_cell hkind (hkx _ _) (by show List.lookup x ((x, H3.objs.size) :: cl) = _; rw [List.lookup_cons, beq_self_eq_true]) hc₂ (fun h₃ hc₃ hs₃ => ?_))
        refine wpAny_tests_nil ?_
        simp only [if_true]
        have hst₃ : St (i + 1) h₃ := W.frame _ _ _ hst₂ fun b hb o e => hs₃.extBut b o (fun q => hXf (by have q' : b = H3.objs.size := q; rw [← q']; exact hb)) e
        obtain ⟨oI, heI⟩ := hIo _ _ hst₃
        have hn₂ : h₂.Ns H2.objs.size (fun _ => none) := hn'.at' fun o e => hk₂ _ o (by simpa using Ne.symm hCI) e
        have hn₃ : h₃.Ns H2.objs.size (fun _ => none) := hn₂.sameBut hs₃ hCX
        obtain ⟨oC, heC, hoC⟩ := ns_obj hn₃
        obtain ⟨oX, heX, hoX⟩ := hc₃
        have F₃ : Fr h₀ L h₃ m := (fr_but F' hk₂ hIL hI₀).change hs₃ hXL hX₀
        have N₂ : News h₀ L h₂ ((s₂.heap.objs.size, lst ys) :: news') := news_but N' hk₂ fun p hp => by
          rcases List.mem_cons.mp hp with rfl | hp
          · exact Ne.symm hDI
          · exact (off' p hp).1
        have N₃ : News h₀ L h₃ ((I, oI) :: (H2.objs.size, oC) :: (H3.objs.size, oX) :: (s₂.heap.objs.size, lst ys) :: news') := fun p hp => by
          rcases List.mem_cons.mp hp with rfl | hp
          · exact ⟨heI, Ne.symm hIL, hI₀⟩
          rcases List.mem_cons.mp hp with rfl | hp
          · exact ⟨heC, hCL, hC₀⟩
          rcases List.mem_cons.mp hp with rfl | hp
          · exact ⟨heX, hXL, hX₀⟩
          · have z := N₂ p hp
            refine ⟨hs₃.extBut _ _ ?_ z.1, z.2⟩
            rcases List.mem_cons.mp hp with rfl | hp
            · exact hDX
            · exact (off' p hp).2.2.1
        refine wpAny_mono (R' v I oI H2.objs.size oC H3.objs.size oX s₂.heap.objs.size h₃ _ _ hPv hoC hoX F₃ N₃ off' ⟨hCI, hXI, hDI, hCX, Ne.symm hDC, Ne.symm hDX⟩) (fun y s₄ h₄ => ?_) fun _ _ e => e
        obtain ⟨h₄, tk₄, news₄, rfl, F₄, N₄, off₄, hS₄, R₄⟩ := h₄
        have zI := (N₄ (I, oI) List.mem_cons_self).1
        have zC := (N₄ (H2.objs.size, oC) (List.mem_cons_of_mem _ List.mem_cons_self)).1
        have zX := (N₄ (H3.objs.size, oX) (List.mem_cons_of_mem _ (List.mem_cons_of_mem _ List.mem_cons_self))).1
        have zD := (N₄ (s₂.heap.objs.size, lst ys) (List.mem_cons_of_mem _ (List.mem_cons_of_mem _ (List.mem_cons_of_mem _ List.mem_cons_self)))).1
        have N₄' : News h₀ L h₄ news₄ := fun p hp => N₄ p (List.mem_cons_of_mem _ (List.mem_cons_of_mem _ (List.mem_cons_of_mem _ (List.mem_cons_of_mem _ hp))))
        have hst₄ : St (i + 1) h₄ := hSt _ _ _ _ _ hst₃ heI zI F₄.keep N₄' hS₄
        refine append_at (hsz := by show ys.toArray.size ≤ sizeLine; rw [List.size_toArray, hyl]; exact Nat.le_trans hi hsz) zD fun h₅ hs₅ hD₅ => ?_
        refine ⟨n + 1 - (i + 1), omM hlt, h₅, tk₄, i + 1, ys ++ [y], news₄, some v, rfl, hlt, rfl, by rw [List.length_append, List.length_singleton, hyl], W.frame _ _ _ hst₄ fun b hb o e => hs₅.extBut b o (fun q => hDf (q ▸ hb)) e, F₄.change hs₅ hDL hD₀,
          (hoC.ns zC).sameBut hs₅ (Ne.symm hDC), ⟨oX, hs₅.extBut _ _ (Ne.symm hDX) zX, hoX⟩, fun p hp => ?_, off₄, hS₄, ?_⟩
        · rcases List.mem_cons.mp hp with rfl | hp
          · exact ⟨hD₅.trans (congrArg some (lst_snoc ys y)), hDL, hD₀⟩
          · exact ⟨hs₅.extBut _ _ (off₄ p hp).2.2.2 (N₄' p hp).1, (N₄' p hp).2⟩
        · rw [show n - (i + 1) = j from Nat.succ.inj ((subStep hlt).symm.trans hj)]
          exact R₄
      · obtain rfl : i = n := Nat.le_antisymm hi (Nat.not_lt.mp hlt)
        rw [Nat.sub_self] at R'
        refine W.done _ _ _ hst' fun h₂ tk₂ hk₂ => ?_
        exact hRR _ _ h₂ tk₂ _ ys news' (fr_but F' hk₂ hIL hI₀) (news_but N' hk₂ fun p hp => by
          rcases List.mem_cons.mp hp with rfl | hp
          · exact Ne.symm hDI
          · exact (off' p hp).1) (fun p hp => (off' p hp).2.2.2) (hn'.at' fun o e => hk₂ _ o (by simpa using Ne.symm hCI) e) hC₀ hD₀ hCL hDL (Ne.symm hDC) (fun p hp => (off' p hp).2.1) R'
    · rcases List.mem_cons.mp hp with rfl | hp
      · exact ⟨hacc, hDL, hD₀⟩
      · exact ⟨old _ _ (N p hp).1, (N p hp).2⟩
  exact codeAny_compStart_list (loop _ rfl) (W.self 0 _ _ _ hst₁ (loop _ rfl))
theorem ListComp_K {elt iter : Expr} {x : Str} {px : Pos} {scope : Scope} {cl : List (Str × Addr)} {pos : Pos} {Q : Value → Shared → Prop} {ax : Addr} {its : Array Value} {k : Nat} {news : List (Addr × Obj)}
    (hh : A.handled = none) (F : Fr h₀ L s.heap m) (N : News h₀ L s.heap news) (hm : (ax, ({ cls := .type "list", data := .seq its k } : Obj)) ∈ news) (hsz : its.size ≤ sizeLine)
    (hclos : closureFor scope env = pure cl) (hcf : ∀ a acc, cellsFrom a scope.names acc = (x, a) :: acc) (hpc : ∀ h, pushCells h scope.names = h.push { cls := .type "cell", data := .cell none })
    (hkind : scope.kind = .function) (hkx : ∀ cs C, (compEnvC scope cs C env).kindOf x = some .cell)
    (hnames : ∀ y ∈ scope.names, y.2 = .local → scope.names.lookup y.1 = some .local)
    (hit : ∀ P : Value → Shared → Prop, P (.ref ax) s → wpAny (model prog w) A (eval iter env) P E s) (hs : ∀ x, foldedSetIterable iter env x = pure x)
    (R : ∀ g : Heap, CompRestK prog w A h₀ L m env elt x scope cl { s with heap := g } (SrcAt h₀ ax its) (fun i v => its[i]? = some v) (fun ys news' => ∀ D h tk, Fr h₀ L h m → News h₀ L h ((D, lst ys) :: news') → (∀ p ∈ news', p.1 ≠ D) → Q (.ref D) { s with heap := h, toks := tk }) its.size 0 [] news) :
    wpAny (model prog w) A (eval (.ListComp elt [⟨.Name x px, iter, [], 0⟩] scope pos) env) Q E s := by
  rw [eval_ListComp]
  refine wpAny_comprehension_free (use := none) rfl hs hclos hkind hnames (hit _ ?_)
  have S : SrcAt h₀ ax its news := .inr ⟨_, hm, rfl, _, rfl⟩
  have hl := S.list F.keep N
  have hlt : ax < s.heap.objs.size := by obtain ⟨_, e, _⟩ := hl; exact Heap.lt_size e
  refine wpAny_pyIter_list hl ?_
  have up : ∀ b o, s.heap.get? b = some o → (s.heap.push { cls := .type "list_iterator", data := .fields #[.ref ax, .int 0 0] }).get? b = some o := fun b o e => Heap.get?_push_of_some _ e
  refine block_K (Walks.list hh s.heap.objs.size ax (Nat.ne_of_lt hlt) its) hsz (fun i h st => by obtain ⟨o, e, _⟩ := st.1; exact ⟨o, e⟩) list_st hcf hpc hkind hkx ⟨⟨_, Heap.get?_push_size _ rfl, rfl, rfl⟩, hl.push _⟩ (fun b hb => ?_)
    (F.keeps up) (N.grown up) (Nat.ne_of_lt F.ns.lt) (next_is_new F) (fun p hp => Nat.ne_of_lt (Heap.lt_size (N p hp).1)) S (R _) ?_
  · show b < (s.heap.push _).objs.size
    rw [Heap.size_push]
    rcases List.mem_cons.mp hb with rfl | hb
    · exact Nat.lt_succ_self _
    · rw [List.mem_singleton.mp hb]; exact Nat.lt_succ_of_lt hlt
  · intro D C h tk m' ys news' F' N' o1 hn hC₀ hD₀ hCL hDL hCD offC fin
    refine ⟨m', hn, fun h'' hs'' => fin D h'' tk (F'.change hs'' hCL hC₀) (fun p hp => ?_) o1⟩
    refine ⟨hs''.extBut _ _ ?_ (N' p hp).1, (N' p hp).2⟩
    rcases List.mem_cons.mp hp with rfl | hp
    · exact Ne.symm hCD
    · exact offC p hp
end

end

section
open PyProof.Rows.LCg
theorem suc4tab_1 : True := by
  w_top off
  (k_with "CompSrc" => ((fail_if_success k_extra "e218"); ((refine Hold.out ?_))))
  (k_with "call ref" => ((fail_if_success k_extra "e219"); ((k_here; refine Hold.out ?_))))
  trivial
def tbOut : Expr × Scope := exS (stX lawB 18)
def tbIn : Expr × Scope := exS tbOut.1
def tbOs : Scope := tbOut.2
def tbIs : Scope := tbIn.2
theorem collElt (w : World) (mg mb : Str → Option Value) (fa : Addr) (cd : Value)
   (p : Program) (loose : List Str) (mean : ExcName → Option Value) (dp un : Nat) (gd : Option (List Code)) (a : Addr) (ccd : Value) (cl : List (Str × Addr)) (outer : List Env) (A₀ : Around) (base h₀ : Heap) (L : Addr) (m : Str → Option Value) (s : Shared) (Q : Value → Shared → Prop) (E : Value → Shared → Prop)
   (B : Below A₀ base outer h₀) (X : (hd.heap_39 w.params).In h₀) (T : Top p loose mean mg mb h₀) (F : Fr h₀ L s.heap m) (HG : CodeHd base 99 95)
   (C2 X1 C1 c3 : Addr) (oC2 oX : Obj) (m₂ : Str → Option Value) (x y : Str) (tx t : Tok) (rest : List (Addr × Obj))
   (N : News h₀ L s.heap ([(C2, oC2), (X1, oX)] ++ rest)) (hok : oX.data = .cell (some (.str x tx)))
   (hC : NsObj oC2 m₂) (e1 : m₂ "y" = some (.str y t)) (hdp : dp + 40 < recursionLimit) (hun : un + 400 < cLine)
   (K : ∀ (h' : Heap) (tk' : Nat) (t' : Tok), Fr h₀ L h' m → News h₀ L h' ([(C2, oC2), (X1, oX)] ++ rest) → Q (.int (collI x y) t') { s with heap := h', toks := tk' }) :
   wpAny (model pg w) (ktrTop dp un gd "law" (scopeAt w 138) L a ccd cl outer) (eval tbIn.1 (compEnvC tbIs [(("x" : Str), X1)] C2 (compEnvC tbOs [(("x" : Str), X1), (("ranked" : Str), c3)] C1 (envOfC "law" (scopeAt w 138) L fa cd)))) Q E s := by
  have q1 : tbIs = Scope.mk _ _ _ _ _ := rfl
  have q1' : tbOs = Scope.mk _ _ _ _ _ := rfl
  have q2 : scopeAt w 138 = Scope.mk _ _ _ _ _ := rfl
  have q3 : tbIn.1 = Expr.Call _ _ _ _ := rfl
  rw [q1, q1', q2, q3]
  k_steps
  refine ⟨?_⟩
  refine' HC.use (rest := [(C2, oC2), (X1, oX)] ++ rest) (coll_c w mg mb x y _ _) ?B ?F ?X ?N ?T ?sk ?G ?d ?u (List.forall_mem_nil _) (fun q hq => hq) (fun q hq h => nomatch h) ?_
  case B => k_asm
  case F => k_asm
  case X => k_asm
  case N => k_asm
  case T => k_asm
  case sk => exact rfl
  case G => assumption
  case d => omega
  case u => omega
  intro v' news' h' tk' F' N' P'
  obtain ⟨t', e1', e2'⟩ := P'
  subst e1' e2'
  exact K _ _ _ F' N'
theorem MapR.ints2 {f : Str → Int} {ys xs} (h : MapR (fun y v => ∃ t, v = .int (f y) t) ys xs) : IntsAre ys (xs.map f) := by
  induction h with
  | nil => exact .nil
  | cons a _ ih => obtain ⟨t, rfl⟩ := a; exact .cons _ t ih
/-- a row of the table -/
theorem rowComp (w : World) (mg mb : Str → Option Value) (fa : Addr) (cd : Value)
   (p : Program) (loose : List Str) (mean : ExcName → Option Value) (dp un : Nat) (gd : Option (List Code)) (a : Addr) (ccd : Value) (cl : List (Str × Addr)) (outer : List Env) (A₀ : Around) (base h₀ : Heap) (L : Addr) (m : Str → Option Value) (s : Shared) (Q : Value → Shared → Prop) (E : Value → Shared → Prop)
   (B : Below A₀ base outer h₀) (X : (hd.heap_39 w.params).In h₀) (T : Top p loose mean mg mb h₀) (F : Fr h₀ L s.heap m) (HG : CodeHd base 99 95)
   (C1 X1 c3 rk : Addr) (oC oX o3 : Obj) (x : Str) (tx : Tok) (rv : List Value) (rs : List Str) (e : Nat) (rest : List (Addr × Obj))
   (N : News h₀ L s.heap ((C1, oC) :: (X1, oX) :: (c3, o3) :: (rk, listOf rv.toArray e) :: rest)) (hok : oX.data = .cell (some (.str x tx))) (hr : o3.data = .cell (some (.ref rk)))
   (hS : StrsAre rv rs) (hl : rs.length ≤ 50) (hdp : dp + 40 < recursionLimit) (hun : un + 400 < cLine)
   (K : ∀ (D : Addr) (ys : List Value) (h' : Heap) (tk' : Nat), IntsAre ys (rs.map (collI x)) → Fr h₀ L h' m → News h₀ L h' ((D, lst ys) :: (C1, oC) :: (X1, oX) :: (c3, o3) :: (rk, listOf rv.toArray e) :: rest) → (∀ q ∈ (C1, oC) :: (X1, oX) :: (c3, o3) :: (rk, listOf rv.toArray e) :: rest, q.1 ≠ D) → Q (.ref D) { s with heap := h', toks := tk' }) :
   wpAny (model pg w) (ktrTop dp un gd "law" (scopeAt w 138) L a ccd cl outer) (eval tbOut.1 (compEnvC tbOs [(("x" : Str), X1), (("ranked" : Str), c3)] C1 (envOfC "law" (scopeAt w 138) L fa cd))) Q E s := by
  have q3 : tbOut.1 = Expr.ListComp tbIn.1 [⟨.Name "y" _, .Name "ranked" _, [], 0⟩] tbIs _ := rfl
  rw [q3]
  refine ListComp_U (x := "y") (cl := [(("x" : Str), X1)]) F ?hc ?hcell ?hk ?hn ?hx ?hit ?hs
  case hc => exact rfl
  case hcell => decide
  case hk => exact rfl
  case hn => decide +kernel
  case hx => exact rfl
  case hs => exact fun _ => rfl
  case hit =>
    have q1' : tbOs = Scope.mk _ _ _ _ _ := rfl
    have q2 : scopeAt w 138 = Scope.mk _ _ _ _ _ := rfl
    have fin : CompSrc pg w (ktrTop dp un gd "law" (scopeAt w 138) L a ccd cl outer) h₀ L m (compEnvC tbOs [(("x" : Str), X1), (("ranked" : Str), c3)] C1 (envOfC "law" (scopeAt w 138) L fa cd)) tbIn.1 "y" tbIs [(("x" : Str), X1)] (fun s₂ => FinE h₀ L m s₂ Q) (.ref rk) s := by
      refine mapSrcR (fun y v => ∃ t, v = .int (collI x y) t) rk rv rs e ((C1, oC) :: (X1, oX) :: (c3, o3) :: (rk, listOf rv.toArray e) :: rest) rfl F N (by k_mem) hS hl ?_ ?_
      · intro C2 oC2 m₂ y t s₁ E' Q' n1 hC e1 hy F1 N1 K1
        refine collElt w mg mb fa cd p loose mean dp un gd a ccd cl outer A₀ base h₀ L _ _ _ _ B X T F1 HG C2 X1 C1 c3 oC2 oX m₂ x y tx t (n1 ++ ((C1, oC) :: (X1, oX) :: (c3, o3) :: (rk, listOf rv.toArray e) :: rest)) (Newss.sub N1 fun q hq => ?_) hok hC e1 hdp hun ?_
        · rcases List.mem_cons.mp hq with rfl | hq
          · exact List.mem_cons_self
          rcases List.mem_cons.mp hq with rfl | hq
          · exact List.mem_cons_of_mem _ (List.mem_append_right _ (by k_mem))
          · exact List.mem_cons_of_mem _ hq
        · intro h' tk' t' F2 N2
          exact K1 _ h' tk' ⟨t', rfl⟩ F2 (Newss.sub N2 fun q hq => by
            rcases List.mem_cons.mp hq with rfl | hq
            · exact List.mem_cons_self
            · exact List.mem_cons_of_mem _ (List.mem_cons_of_mem _ hq))
      · intro g ys hys D h tk F' N' o1
        exact K D ys h tk hys.ints2 F' N' (off1_mem o1)
    rw [q1', q2] at fin ⊢
    k_steps
    exact ⟨fin⟩
inductive RowsAre (rs : List Str) : List Ord → List Str → Prop
  | nil : RowsAre rs [] []
  | cons {o x os xs} : IntsAre o.vals (rs.map (collI x)) → RowsAre rs os xs → RowsAre rs (o :: os) (x :: xs)
theorem RowsAre.snoc {rs : List Str} {os xs} (h : RowsAre rs os xs) {o x} (a : IntsAre o.vals (rs.map (collI x))) : RowsAre rs (os ++ [o]) (xs ++ [x]) := by
  induction h with
  | nil => exact .cons a .nil
  | cons b _ ih => exact .cons b ih
theorem tabComp (w : World) (mg mb : Str → Option Value) (fa : Addr) (cd : Value)
   (p : Program) (loose : List Str) (mean : ExcName → Option Value) (dp un : Nat) (gd : Option (List Code)) (a : Addr) (ccd : Value) (cl : List (Str × Addr)) (outer : List Env) (A₀ : Around) (base h₀ : Heap) (L : Addr) (m : Str → Option Value) (s : Shared) (Q : Value → Shared → Prop) (E : Value → Shared → Prop)
   (B : Below A₀ base outer h₀) (X : (hd.heap_39 w.params).In h₀) (T : Top p loose mean mg mb h₀) (F : Fr h₀ L s.heap m) (HG : CodeHd base 99 95)
   (rk : Addr) (o3 : Obj) (rv : List Value) (rs : List Str) (e : Nat) (rest : List (Addr × Obj)) (px : Pos) (iter : Expr) (pos : Pos)
   (N : News h₀ L s.heap ((L + 1 + 1 + 1, o3) :: (rk, listOf rv.toArray e) :: rest)) (hr : o3.data = .cell (some (.ref rk)))
   (hit : ∀ P : Value → Shared → Prop, P (.ref rk) s → wpAny (model pg w) (ktrTop dp un gd "law" (scopeAt w 138) L a ccd cl outer) (eval iter (envOfC "law" (scopeAt w 138) L fa cd)) P E s) (hsf : ∀ x, foldedSetIterable iter (envOfC "law" (scopeAt w 138) L fa cd) x = pure x)
   (hS : StrsAre rv rs) (hl : rs.length ≤ 50) (hdp : dp + 40 < recursionLimit) (hun : un + 400 < cLine)
   (K : ∀ (D : Addr) (os : List Ord) (h' : Heap) (tk' : Nat), RowsAre rs os rs → Fr h₀ L h' m → News h₀ L h' ((D, lst (refsOf os)) :: (os.map Ord.led ++ ((L + 1 + 1 + 1, o3) :: (rk, listOf rv.toArray e) :: rest))) → (∀ q ∈ os.map Ord.led ++ ((L + 1 + 1 + 1, o3) :: (rk, listOf rv.toArray e) :: rest), q.1 ≠ D) → Q (.ref D) { s with heap := h', toks := tk' }) :
   wpAny (model pg w) (ktrTop dp un gd "law" (scopeAt w 138) L a ccd cl outer) (eval (.ListComp tbOut.1 [⟨.Name "x" px, iter, [], 0⟩] tbOs pos) (envOfC "law" (scopeAt w 138) L fa cd)) Q E s := by
  have lv := StrsAre.length hS
  have rest_ : ∀ d i os (g : Heap), i + d = rs.length → RowsAre rs os (rs.take i) → CompRestK pg w (ktrTop dp un gd "law" (scopeAt w 138) L a ccd cl outer) h₀ L m (envOfC "law" (scopeAt w 138) L fa cd) tbOut.1 "x" tbOs [(("ranked" : Str), L + 1 + 1 + 1)] { s with heap := g } (SrcAt h₀ rk rv.toArray) (fun i v => rv.toArray[i]? = some v)
      (fun ys news' => ∀ D h tk, Fr h₀ L h m → News h₀ L h ((D, lst ys) :: news') → (∀ p ∈ news', p.1 ≠ D) → Q (.ref D) { s with heap := h, toks := tk }) d i (refsOf os) (os.map Ord.led ++ ((L + 1 + 1 + 1, o3) :: (rk, listOf rv.toArray e) :: rest)) := by
    intro d
    induction d with
    | zero =>
      intro i os g hi hos
      rw [show i = rs.length by omega, List.take_length] at hos
      show ∀ D h tk, _ → _ → _ → _
      intro D h tk F' N' o1
      exact K D os h tk hos F' N' o1
    | succ d ih =>
      intro i os g hi hos
      refine CompRestK.succ fun v I oI C oC X1 oX D h tk E' hP hC hX F' N' off hne => ?_
      have hlt : i < rs.length := by omega
      have hv : rv[i]? = some v := by simpa using hP
      obtain ⟨t, ht⟩ := StrsAre.get hS i rs[i] (by simp [hlt])
      rw [hv] at ht
      cases ht
      refine rowComp w mg mb fa cd p loose mean dp un gd a ccd cl outer A₀ base h₀ L m _ _ E' B X T F' HG C X1 (L + 1 + 1 + 1) rk oC oX o3 rs[i] t rv rs e ((I, oI) :: (D, lst (refsOf os)) :: (os.map Ord.led ++ rest)) (Newss.sub N' fun q hq => ?_) hX hr hS hl hdp hun ?_
      · simp only [List.mem_cons, List.mem_append] at hq ⊢
        rcases hq with hq | hq | hq | hq | hq | hq | hq | hq
        · exact .inr (.inl hq)
        · exact .inr (.inr (.inl hq))
        · exact .inr (.inr (.inr (.inr (.inr (.inl hq)))))
        · exact .inr (.inr (.inr (.inr (.inr (.inr (.inl hq))))))
        · exact .inl hq
        · exact .inr (.inr (.inr (.inl hq)))
        · exact .inr (.inr (.inr (.inr (.inl hq))))
        · exact .inr (.inr (.inr (.inr (.inr (.inr (.inr hq))))))
      · intro D2 ys h' tk' hys F2 N2 o2
        have z := ih (i + 1) (os ++ [⟨D2, ys, ys.length⟩]) g (by omega) (by
          rw [List.take_add_one, List.getElem?_eq_getElem hlt]
          exact hos.snoc hys)
        have er : refsOf (os ++ [⟨D2, ys, ys.length⟩]) = refsOf os ++ [.ref D2] := by unfold refsOf; rw [List.map_append]; rfl
        rw [er] at z
        refine ⟨h', tk', _, rfl, F2, Newss.sub N2 fun q hq => ?_, fun q hq => ?_, .inr ⟨_, List.mem_append_right _ (List.mem_cons_of_mem _ (List.mem_cons_self ..)), rfl, _, rfl⟩, z⟩
        · rw [List.map_append] at hq
          simp only [List.mem_cons, List.mem_append, List.map_cons, List.map_nil, List.not_mem_nil, or_false] at hq ⊢
          rcases hq with hq | hq | hq | hq | (hq | hq) | hq | hq | hq
          · exact .inr (.inr (.inr (.inr (.inr (.inl hq)))))
          · exact .inr (.inl hq)
          · exact .inr (.inr (.inl hq))
          · exact .inr (.inr (.inr (.inr (.inr (.inr (.inl hq))))))
          · exact .inr (.inr (.inr (.inr (.inr (.inr (.inr (.inl hq)))))))
          · exact .inl hq
          · exact .inr (.inr (.inr (.inl hq)))
          · exact .inr (.inr (.inr (.inr (.inl hq))))
          · exact .inr (.inr (.inr (.inr (.inr (.inr (.inr (.inr hq)))))))
        · rw [List.map_append] at hq
          rcases List.mem_append.mp hq with hq | hq
          · rcases List.mem_append.mp hq with hq | hq
            · exact off q (List.mem_append_left _ hq)
            · rw [List.mem_singleton.mp hq]
              exact ⟨(o2 (I, oI) (by k_mem)).symm, (o2 (C, oC) (by k_mem)).symm, (o2 (X1, oX) (by k_mem)).symm, (o2 (D, lst (refsOf os)) (by k_mem)).symm⟩
          · exact off q (List.mem_append_right _ hq)
  refine ListComp_K (cl := [(("ranked" : Str), L + 1 + 1 + 1)]) rfl F N (List.mem_cons_of_mem _ (List.mem_cons_self ..)) ?z1 ?z2 ?z3 ?z4 ?z5 ?z6 ?z7 hit hsf ?z8
  case z1 => rw [List.size_toArray, lv, sizeLine_eq]; omega
  case z2 => exact rfl
  case z3 => exact fun _ _ => rfl
  case z4 => exact fun _ => rfl
  case z5 => exact rfl
  case z6 => exact fun _ _ => rfl
  case z7 => decide +kernel
  case z8 =>
    intro g
    rw [List.size_toArray, lv]
    exact rest_ rs.length 0 [] g (by omega) .nil

end

section
open PyProof.Rows.LCg
theorem suc5seg_1 : True := by
  w_top off
  (k_with "e219" => skip)
  (k_with "e218" => skip)
  (k_with "eval ListComp" => ((fail_if_success k_extra "e220"); ((k_here; refine Hold.out ?_))))
  trivial
theorem RNe.app {a b : List (Addr × Obj)} {x : Addr} (h : RNe a x) (g : RNe b x) : RNe (a ++ b) x := ⟨fun q hq => (List.mem_append.mp hq).elim (h.ne q) (g.ne q)⟩
theorem rneOrd {h₀ h : Heap} {L : Addr} {l : List (Addr × Obj)} (N : News h₀ L h l) {ts : List Ord} (hs : ∀ q ∈ ts.map Ord.led, q ∈ l) {c : Addr} {o : Obj} {x : Option Value} (hc : (c, o) ∈ l) (hd : o.data = .cell x) : RNe (ts.map Ord.led) c :=
  ⟨fun q hq => news_ne N (hs q hq) hc (by
    obtain ⟨t, _, rfl⟩ := List.mem_map.mp hq
    show (listOf t.vals.toArray t.n).data ≠ o.data
    rw [hd]
    intro h
    cases h)⟩
theorem seg9 (w : World) (mg mb : Str → Option Value) (fa : Addr) (cd : Value)
   (p : Program) (loose : List Str) (mean : ExcName → Option Value) (dp un : Nat) (gd : Option (List Code)) (a : Addr) (ccd : Value) (cl : List (Str × Addr)) (outer : List Env) (A₀ : Around) (base h₀ : Heap) (L : Addr) (m : Str → Option Value) (s : Shared) (Q : Flow → Shared → Prop) (E : Value → Shared → Prop)
   (B : Below A₀ base outer h₀) (X : (hd.heap_39 w.params).In h₀) (T : Top p loose mean mg mb h₀) (F : Fr h₀ L s.heap m) (HG : CodeHd base 99 95)
   (o1 o2 o3 o4 o5 o6 onl orn : Obj) (sg nl al oA rk rn : Addr) (rv : List Value) (rs : List Str) (e : Nat) (rest : List (Addr × Obj))
   (N : News h₀ L s.heap ((rn, orn) :: (rk, listOf rv.toArray e) :: (nl, onl) :: (cel6 L o1 o2 o3 o4 o5 o6 ++ rest)))
   (R5 : RNe rest (L + 1 + 1 + 1 + 1 + 1)) (hrn : rn ≠ (L + 1 + 1 + 1 + 1 + 1)) (hrk : rk ≠ (L + 1 + 1 + 1 + 1 + 1)) (hnl : nl ≠ (L + 1 + 1 + 1 + 1 + 1)) (kc3 : o3.data = .cell (some (.ref rk))) (kc5 : ∃ x, o5.data = .cell x) (hS : StrsAre rv rs) (hl : rs.length ≤ 50)
   (m2 : m "signs" = some (.ref sg)) (m3 : m "names" = some (.ref nl)) (m4 : m "around" = some (.ref al)) (m5 : m "orders" = some (.ref oA)) (hdp : dp + 40 < recursionLimit) (hun : un + 500 < cLine)
   (K : ∀ (h' : Heap) (tk' : Nat) (m' : Str → Option Value) (o5' : Obj) (tb : Addr) (ts : List Ord) (t0 : Tok), Fr h₀ L h' m' →
      News h₀ L h' ((tb, lst (refsOf ts)) :: (rn, orn) :: (rk, listOf rv.toArray e) :: (nl, onl) :: (cel6 L o1 o2 o3 o4 o5' o6 ++ (ts.map Ord.led ++ rest))) →
      o5'.data = .cell (some (.ref tb)) → RowsAre rs ts rs → (∀ q ∈ (rn, orn) :: (rk, listOf rv.toArray e) :: (nl, onl) :: (cel6 L o1 o2 o3 o4 o5 o6 ++ (ts.map Ord.led ++ rest)), q.1 ≠ tb) →
      m' "signs" = some (.ref sg) → m' "names" = some (.ref nl) → m' "around" = some (.ref al) → m' "orders" = some (.ref oA) → m' "told" = some (.int 0 t0) →
      wpAny (model pg w) (ktrTop dp un gd "law" (scopeAt w 138) L a ccd cl outer) (execs (lawB.drop 20) (envOfC "law" (scopeAt w 138) L fa cd)) Q E { s with heap := h', toks := tk' }) :
   wpAny (model pg w) (ktrTop dp un gd "law" (scopeAt w 138) L a ccd cl outer) (execs (lawB.drop 18) (envOfC "law" (scopeAt w 138) L fa cd)) Q E s := by
  have e1 : lawB.drop 18 = _ :: _ :: lawB.drop 20 := rfl
  have e2 : scopeAt w 138 = Scope.mk _ _ _ _ _ := rfl
  generalize hR : lawB.drop 20 = R at *
  rw [e1]
  rw [e2] at K ⊢
  have F := Mine.Fr.pin (Mine.Fr.pin (Mine.Fr.pin (Mine.Fr.pin F (x := "signs") m2) (x := "names") m3) (x := "around") m4) (x := "orders") m5
  simp only [cel6, List.cons_append, List.nil_append] at N
  have y1 := hrn.symm
  have y2 := hrk.symm
  have y3 := hnl.symm
  obtain ⟨x5, kc5⟩ := kc5
  k_steps
  refine ⟨?_⟩
  refine' tabComp w mg mb fa cd p loose mean dp un gd a ccd cl outer A₀ base h₀ L _ _ _ _ B X T (by k_asm) HG rk o3 rv rs e ((rn, orn) :: (nl, onl) :: (L + 1, o1) :: (L + 1 + 1, o2) :: (L + 1 + 1 + 1 + 1, o4) :: (L + 1 + 1 + 1 + 1 + 1, o5) :: (L + 1 + 1 + 1 + 1 + 1 + 1, o6) :: rest) _ _ _ (Newss.sub (by k_asm) ?oN) kc3 ?hit (fun _ => rfl) hS hl (by omega) (by omega) ?K
  case oN => k_dflt (k_extra "MemAll2")
  case hit =>
    intro P hP
    rw [e2]
    k_steps
    exact hP
  intro D ts h' tk' hts F' N' o1'
  have N2 : News h₀ L h' ((D, lst (refsOf ts)) :: (rn, orn) :: (rk, listOf rv.toArray e) :: (nl, onl) :: (cel6 L o1 o2 o3 o4 o5 o6 ++ (ts.map Ord.led ++ rest))) := Newss.sub N' fun q hq => by
    simp only [cel6, List.mem_cons, List.mem_append, List.not_mem_nil, or_false] at hq ⊢
    rcases hq with hq | hq | hq | hq | (hq | hq | hq | hq | hq | hq) | hq | hq <;> simp only [hq, true_or, or_true]
  have off2 : ∀ q ∈ (rn, orn) :: (rk, listOf rv.toArray e) :: (nl, onl) :: (cel6 L o1 o2 o3 o4 o5 o6 ++ (ts.map Ord.led ++ rest)), q.1 ≠ D := fun q hq => o1' q (by
    simp only [cel6, List.mem_cons, List.mem_append, List.not_mem_nil, or_false] at hq ⊢
    rcases hq with hq | hq | hq | (hq | hq | hq | hq | hq | hq) | hq | hq <;> simp only [hq, true_or, or_true])
  have R5' : RNe (ts.map Ord.led ++ rest) (L + 1 + 1 + 1 + 1 + 1) := RNe.app (rneOrd N' (fun q hq => List.mem_cons_of_mem _ (List.mem_append_left _ hq)) (c := L + 1 + 1 + 1 + 1 + 1) (o := o5) (by
    refine List.mem_cons_of_mem _ (List.mem_append_right _ ?_)
    k_mem) kc5) R5
  clear N'
  generalize hrest : ts.map Ord.led ++ rest = rest2 at *
  have off3 := off2
  simp only [cel6, List.cons_append, List.nil_append] at N2 off3
  simp only [List.forall_mem_cons] at off3
  obtain ⟨v0, v1, v2, v3, v4, v5, v6, v7, v8, v9⟩ := off3
  have w7 := v7.symm
  k_steps
  dsimp only
  subst hrest
  rename Obj => o5'
  exact K _ _ _ o5' D ts _ (by k_asm) (Newss.sub (by k_asm) fun q hq => hq) (by assumption) hts off2 (by exact rfl) (by exact rfl) (by exact rfl) (by exact rfl) (by exact rfl)

end

section
open PyProof.Rows.LCg
theorem suc6told_1 : True := by
  w_top off
  (k_with "e220" => skip)
  (k_with "subscriptTail Name Name ref int" => ((fail_if_success k_extra "e221"); ((k_here; k_dflt (refine' subAtE ?Nz150 ?mz150 ?jz150 ?xz150 ?zz150 ?_; (case Nz150 => k_asm); (case mz150 => k_mem); (case jz150 => first | with_reducible exact rfl | exact (Int.natCast_succ _).symm); (case xz150 => assumption); (case zz150 => assumption); k_whole)))))
  (k_with "subscriptTail Name BinOp ref int" => ((fail_if_success k_extra "e222"); ((k_here; k_dflt (refine' subAtE ?Nz151 ?mz151 ?jz151 ?xz151 ?zz151 ?_; (case Nz151 => k_asm); (case mz151 => k_mem); (case jz151 => first | with_reducible exact rfl | exact (Int.natCast_succ _).symm); (case xz151 => assumption); (case zz151 => assumption); k_whole)))))
  (k_with "subscriptTail Name Subscript ref int" => ((fail_if_success k_extra "e223"); ((k_here; k_dflt (refine' subAtE ?Nz152 ?mz152 ?jz152 ?xz152 ?zz152 ?_; (case Nz152 => k_asm); (case mz152 => k_mem); (case jz152 => first | with_reducible exact rfl | exact (Int.natCast_succ _).symm); (case xz152 => assumption); (case zz152 => assumption); k_whole)))))
  (k_with "subscriptTail Subscript Subscript ref int" => ((fail_if_success k_extra "e224"); ((k_here; k_dflt (refine' subAtE ?Nz153 ?mz153 ?jz153 ?xz153 ?zz153 ?_; (case Nz153 => k_asm); (case mz153 => k_mem); (case jz153 => first | with_reducible exact rfl | exact (Int.natCast_succ _).symm); (case xz153 => assumption); (case zz153 => assumption); k_whole)))))
  (k_with "subscriptTail Subscript Name ref int" => ((fail_if_success k_extra "e225"); ((k_here; k_dflt (refine' subAtE ?Nz154 ?mz154 ?jz154 ?xz154 ?zz154 ?_; (case Nz154 => k_asm); (case mz154 => k_mem); (case jz154 => first | with_reducible exact rfl | exact (Int.natCast_succ _).symm); (case xz154 => assumption); (case zz154 => assumption); k_whole)))))
  trivial
def forB (l : List Stmt) : List Stmt := stY l 0
def tdC : Expr := exI (exI (stX (forB (lawB.drop 20)) 0) 1) 0
def tdP : Expr × Expr × Scope := ((exG tdC 0).ifs.headD default, (exC tdC).1, (exC tdC).2.2)
def tdSc : Scope := tdP.2.2
theorem tdTest (w : World) (mg mb : Str → Option Value) (fa : Addr) (cd : Value)
   (p : Program) (loose : List Str) (mean : ExcName → Option Value) (dp un : Nat) (gd : Option (List Code)) (a : Addr) (ccd : Value) (cl : List (Str × Addr)) (outer : List Env) (A₀ : Around) (base h₀ : Heap) (L : Addr) (m : Str → Option Value) (s : Shared) (Q : Bool → Shared → Prop) (E : Value → Shared → Prop)
   (B : Below A₀ base outer h₀) (X : (hd.heap_39 w.params).In h₀) (T : Top p loose mean mg mb h₀) (F : Fr h₀ L s.heap m)
   (C c4 c5 c6 rn tb od rw : Addr) (oC o4 o5 o6 : Obj) (m₂ : Str → Option Value) (kv tv ov wv : List Value) (n4 n5 no nw i u1 u2 ra rb : Nat) (z : Int) (t ta ta' tr tr' tz : Tok) (rest : List (Addr × Obj))
   (N : News h₀ L s.heap ([(C, oC), (c6, o6), (c4, o4), (c5, o5), (rn, listOf kv.toArray n4), (tb, listOf tv.toArray n5), (od, listOf ov.toArray no), (rw, listOf wv.toArray nw)] ++ rest)) (k4 : o4.data = .cell (some (.ref rn))) (k5 : o5.data = .cell (some (.ref tb))) (k6 : o6.data = .cell (some (.ref od)))
   (hC : NsObj oC m₂) (e1 : m₂ "j" = some (.int (i : Nat) t))
   (x1 : ov[i]? = some (.int (u1 : Nat) ta)) (x2 : ov[i + 1]? = some (.int (u2 : Nat) ta')) (x3 : kv[u1]? = some (.int (ra : Nat) tr)) (x4 : kv[u2]? = some (.int (rb : Nat) tr')) (x5 : tv[ra]? = some (.ref rw)) (x6 : wv[rb]? = some (.int z tz))
   (l1 : kv.length ≤ 100) (l2 : tv.length ≤ 100) (l3 : ov.length ≤ 100) (l4 : wv.length ≤ 100)
   (K : ∀ (h' : Heap) (tk' : Nat), Fr h₀ L h' m → News h₀ L h' ([(C, oC), (c6, o6), (c4, o4), (c5, o5), (rn, listOf kv.toArray n4), (tb, listOf tv.toArray n5), (od, listOf ov.toArray no), (rw, listOf wv.toArray nw)] ++ rest) → Q (decide (z = 1)) { s with heap := h', toks := tk' }) :
   wpAny (model pg w) (ktrTop dp un gd "law" (scopeAt w 138) L a ccd cl outer) (isTrue tdP.1 (compEnvC tdSc [(("table" : Str), c5), (("ranks" : Str), c4), (("order" : Str), c6)] C (envOfC "law" (scopeAt w 138) L fa cd)) (eval tdP.1 (compEnvC tdSc [(("table" : Str), c5), (("ranks" : Str), c4), (("order" : Str), c6)] C (envOfC "law" (scopeAt w 138) L fa cd)))) Q E s := by
  have q1 : tdSc = Scope.mk _ _ _ _ _ := rfl
  have q2 : scopeAt w 138 = Scope.mk _ _ _ _ _ := rfl
  have q3 : tdP.1 = Expr.Compare _ _ _ _ := rfl
  rw [q1, q2, q3]
  k_steps
  exact K _ _ (by k_asm) (by k_asm)
theorem tdElt (w : World) (mg mb : Str → Option Value) (fa : Addr) (cd : Value)
   (p : Program) (loose : List Str) (mean : ExcName → Option Value) (dp un : Nat) (gd : Option (List Code)) (a : Addr) (ccd : Value) (cl : List (Str × Addr)) (outer : List Env) (A₀ : Around) (base h₀ : Heap) (L : Addr) (m : Str → Option Value) (s : Shared) (Q : Value → Shared → Prop) (E : Value → Shared → Prop)
   (B : Below A₀ base outer h₀) (X : (hd.heap_39 w.params).In h₀) (T : Top p loose mean mg mb h₀) (F : Fr h₀ L s.heap m)
   (C : Addr) (oC : Obj) (m₂ : Str → Option Value) (i : Nat) (t : Tok) (rest : List (Addr × Obj)) (cl2 : List (Str × Addr))
   (N : News h₀ L s.heap ((C, oC) :: rest)) (hC : NsObj oC m₂) (e1 : m₂ "j" = some (.int (i : Nat) t))
   (K : ∀ (h' : Heap) (tk' : Nat) (t' : Tok), Fr h₀ L h' m → News h₀ L h' ((C, oC) :: rest) → Q (.int ((i : Nat) + 1) t') { s with heap := h', toks := tk' }) :
   wpAny (model pg w) (ktrTop dp un gd "law" (scopeAt w 138) L a ccd cl outer) (eval tdP.2.1 (compEnvC tdSc cl2 C (envOfC "law" (scopeAt w 138) L fa cd))) Q E s := by
  have q1 : tdSc = Scope.mk _ _ _ _ _ := rfl
  have q2 : scopeAt w 138 = Scope.mk _ _ _ _ _ := rfl
  have q3 : tdP.2.1 = Expr.BinOp _ _ _ _ := rfl
  rw [q1, q2, q3]
  k_steps
  exact K _ _ _ (by k_asm) (by k_asm)
theorem intsGet {vs : List Value} {ns : List Int} (h : IntsAre vs ns) : ∀ (i : Nat) (z : Int), ns[i]? = some z → ∃ t, vs[i]? = some (.int z t) := by
  induction h with
  | nil => intro i z e; cases e
  | cons n t _ ih =>
    intro i z e
    cases i with
    | zero => cases e; exact ⟨t, rfl⟩
    | succ i => exact ih i z e
theorem RowsAre.get {rs : List Str} {os xs} (h : RowsAre rs os xs) : ∀ (i : Nat) (x : Str), xs[i]? = some x → ∃ o, os[i]? = some o ∧ IntsAre o.vals (rs.map (collI x)) := by
  induction h with
  | nil => intro i x e; cases e
  | cons a _ ih =>
    intro i x e
    cases i with
    | zero => cases e; exact ⟨_, rfl, a⟩
    | succ i => exact ih i x e
theorem RowsAre.length {rs : List Str} {os xs} (h : RowsAre rs os xs) : os.length = xs.length := by
  induction h with
  | nil => rfl
  | cons _ _ ih => rw [List.length_cons, List.length_cons, ih]
/-- the places at which a row falls -/
def gtR (rs : List Str) (ks : List Nat) (u v : Nat) : Bool := decide (collI (rs.getD (ks.getD u 0) ⟨#[]⟩) (rs.getD (ks.getD v 0) ⟨#[]⟩) = 1)
def stepsG (g : Nat → Nat → Bool) (l : List Nat) (i : Nat) : List Int := ((List.range i).filter fun j => g (l.getD j 0) (l.getD (j + 1) 0)).map fun j => ((j : Nat) : Int) + 1
theorem stepsG_succ (g : Nat → Nat → Bool) (l : List Nat) (i : Nat) : stepsG g l (i + 1) = stepsG g l i ++ if g (l.getD i 0) (l.getD (i + 1) 0) = true then [((i : Nat) : Int) + 1] else [] := by
  unfold stepsG
  rw [List.range_succ, List.filter_append, List.map_append]
  congr 1
  rw [List.filter_cons]
  split <;> rfl
theorem tdRest (w : World) (mg mb : Str → Option Value) (fa : Addr) (cd : Value)
   (p : Program) (loose : List Str) (mean : ExcName → Option Value) (dp un : Nat) (gd : Option (List Code)) (a : Addr) (ccd : Value) (cl : List (Str × Addr)) (outer : List Env) (A₀ : Around) (base h₀ : Heap) (L : Addr) (m : Str → Option Value) (s : Shared)
   (B : Below A₀ base outer h₀) (X : (hd.heap_39 w.params).In h₀) (T : Top p loose mean mg mb h₀)
   (c4 c5 c6 rn tb od : Addr) (o4 o5 o6 : Obj) (kv ov : List Value) (n4 n5 no : Nat) (rs : List Str) (ks l : List Nat) (ts : List Ord) (news : List (Addr × Obj)) (Fin : List Value → List (Addr × Obj) → Prop)
   (hn : ∀ q ∈ [(c6, o6), (c4, o4), (c5, o5), (rn, listOf kv.toArray n4), (tb, listOf (refsOf ts).toArray n5), (od, listOf ov.toArray no)], q ∈ news) (hts : ∀ q ∈ ts.map Ord.led, q ∈ news)
   (k4 : o4.data = .cell (some (.ref rn))) (k5 : o5.data = .cell (some (.ref tb))) (k6 : o6.data = .cell (some (.ref od)))
   (R : RowsAre rs ts rs) (hrs : rs.length = 6) (hk : IntsAre kv (ks.map fun x : Nat => (x : Int))) (hks : ks.length = 6) (hkb : ∀ x ∈ ks, x < 6) (ho : IntsAre ov (l.map fun x : Nat => (x : Int))) (hl : l.length = 6) (hlb : ∀ x ∈ l, x < 6)
   (hF : ∀ ys, IntsAre ys (stepsG (gtR rs ks) l 5) → Fin ys news) :
   ∀ d i ys, i + d = 5 → IntsAre ys (stepsG (gtR rs ks) l i) → LCt.CompRestT pg w (ktrTop dp un gd "law" (scopeAt w 138) L a ccd cl outer) h₀ L m (envOfC "law" (scopeAt w 138) L fa cd) tdP.1 tdP.2.1 "j" tdSc [(("table" : Str), c5), (("ranks" : Str), c4), (("order" : Str), c6)] s (fun _ => True) (fun i v => ∃ t, v = .int (0 + (i : Int)) t) Fin d i ys news := by
  intro d
  induction d with
  | zero =>
    intro i ys hi hys
    obtain rfl : i = 5 := by omega
    exact LCt.CompRestT.zero (hF ys hys)
  | succ d ih =>
    intro i ys hi hys
    refine LCt.CompRestT.succ fun v I oI C oC D m₂ h tk E' hP hC e2 F' N' off hne => ?_
    obtain ⟨t, rfl⟩ := hP
    rw [Int.zero_add] at e2
    have i1 : i < l.length := by omega
    have i2 : i + 1 < l.length := by omega
    obtain ⟨ta, x1⟩ := intsGet ho i l[i] (by simp [i1])
    obtain ⟨ta', x2⟩ := intsGet ho (i + 1) l[i + 1] (by simp [i2])
    have j1 : l[i] < ks.length := by rw [hks]; exact hlb _ (List.getElem_mem i1)
    have j2 : l[i + 1] < ks.length := by rw [hks]; exact hlb _ (List.getElem_mem i2)
    obtain ⟨tr, x3⟩ := intsGet hk l[i] ks[l[i]] (by simp [j1])
    obtain ⟨tr', x4⟩ := intsGet hk l[i + 1] ks[l[i + 1]] (by simp [j2])
    have r1 : ks[l[i]] < rs.length := by rw [hrs]; exact hkb _ (List.getElem_mem j1)
    have r2 : ks[l[i + 1]] < rs.length := by rw [hrs]; exact hkb _ (List.getElem_mem j2)
    obtain ⟨o, ho1, ho2⟩ := R.get ks[l[i]] rs[ks[l[i]]] (by simp [r1])
    obtain ⟨tz, x6⟩ := intsGet ho2 ks[l[i + 1]] (collI rs[ks[l[i]]] rs[ks[l[i + 1]]]) (by simp [r2])
    have x5 : (refsOf ts)[ks[l[i]]]? = some (.ref o.ad) := by unfold refsOf; rw [List.getElem?_map, ho1]; rfl
    have om : Ord.led o ∈ ts.map Ord.led := List.mem_map_of_mem (List.mem_of_getElem? ho1)
    have lkv : kv.length ≤ 100 := by have := IntsAre.length hk; rw [List.length_map] at this; omega
    have ltv : (refsOf ts).length ≤ 100 := by have := R.length; unfold refsOf; rw [List.length_map]; omega
    have lov : ov.length ≤ 100 := by have := IntsAre.length ho; rw [List.length_map] at this; omega
    have lwv : o.vals.length ≤ 100 := by have := IntsAre.length ho2; rw [List.length_map] at this; omega
    have hsub : ∀ q ∈ [(C, oC), (c6, o6), (c4, o4), (c5, o5), (rn, listOf kv.toArray n4), (tb, listOf (refsOf ts).toArray n5), (od, listOf ov.toArray no), (o.ad, listOf o.vals.toArray o.n)] ++ ((I, oI) :: (D, lst ys) :: news), q ∈ (I, oI) :: (C, oC) :: (D, lst ys) :: news := by
      intro q hq
      rcases List.mem_append.mp hq with hq | hq
      · rcases List.mem_cons.mp hq with rfl | hq
        · exact List.mem_cons_of_mem _ (List.mem_cons_self ..)
        · refine List.mem_cons_of_mem _ (List.mem_cons_of_mem _ (List.mem_cons_of_mem _ ?_))
          have hq' : q ∈ [(c6, o6), (c4, o4), (c5, o5), (rn, listOf kv.toArray n4), (tb, listOf (refsOf ts).toArray n5), (od, listOf ov.toArray no)] ++ [(o.ad, listOf o.vals.toArray o.n)] := hq
          rcases List.mem_append.mp hq' with hq | hq
          · exact hn q hq
          · rw [List.mem_singleton.mp hq]; exact hts _ om
      · rcases List.mem_cons.mp hq with rfl | hq
        · exact List.mem_cons_self ..
        · exact List.mem_cons_of_mem _ (List.mem_cons_of_mem _ hq)
    have back : ∀ {h' : Heap}, News h₀ L h' ([(C, oC), (c6, o6), (c4, o4), (c5, o5), (rn, listOf kv.toArray n4), (tb, listOf (refsOf ts).toArray n5), (od, listOf ov.toArray no), (o.ad, listOf o.vals.toArray o.n)] ++ ((I, oI) :: (D, lst ys) :: news)) → News h₀ L h' ((I, oI) :: (C, oC) :: (D, lst ys) :: news) := fun N => Newss.sub N fun q hq => by
      rcases List.mem_cons.mp hq with rfl | hq
      · exact List.mem_append_right _ (List.mem_cons_self ..)
      rcases List.mem_cons.mp hq with rfl | hq
      · exact List.mem_append_left _ (List.mem_cons_self ..)
      · exact List.mem_append_right _ (List.mem_cons_of_mem _ hq)
    have hg : gtR rs ks (l.getD i 0) (l.getD (i + 1) 0) = decide (collI rs[ks[l[i]]] rs[ks[l[i + 1]]] = 1) := by
      unfold gtR
      simp only [List.getD_eq_getElem?_getD, List.getElem?_eq_getElem i1, List.getElem?_eq_getElem i2, Option.getD_some, List.getElem?_eq_getElem j1, List.getElem?_eq_getElem j2, List.getElem?_eq_getElem r1, List.getElem?_eq_getElem r2]
    refine tdTest w mg mb fa cd p loose mean dp un gd a ccd cl outer A₀ base h₀ L _ _ _ _ B X T F' C c4 c5 c6 rn tb od o.ad oC o4 o5 o6 m₂ kv (refsOf ts) ov o.vals n4 n5 no o.n i l[i] l[i + 1] ks[l[i]] ks[l[i + 1]] _ t ta ta' tr tr' tz ((I, oI) :: (D, lst ys) :: news) (Newss.sub N' hsub) k4 k5 k6 hC e2 x1 x2 x3 x4 x5 x6 lkv ltv lov lwv ?_
    intro h' tk' F2 N2
    rw [← hg]
    have z := stepsG_succ (gtR rs ks) l i
    cases hb : gtR rs ks (l.getD i 0) (l.getD (i + 1) 0) with
    | true =>
      rw [hb] at z
      simp only [if_true] at z ⊢
      refine tdElt w mg mb fa cd p loose mean dp un gd a ccd cl outer A₀ base h₀ L _ _ _ _ B X T F2 C oC m₂ i t ((I, oI) :: (D, lst ys) :: news) _ (Newss.sub (back N2) fun q hq => by
        rcases List.mem_cons.mp hq with rfl | hq
        · exact List.mem_cons_of_mem _ (List.mem_cons_self ..)
        rcases List.mem_cons.mp hq with rfl | hq
        · exact List.mem_cons_self ..
        · exact List.mem_cons_of_mem _ (List.mem_cons_of_mem _ hq)) hC e2 ?_
      intro h3 tk3 t3 F3 N3
      refine ⟨h3, tk3, news, rfl, F3, Newss.sub N3 fun q hq => by
        rcases List.mem_cons.mp hq with rfl | hq
        · exact List.mem_cons_of_mem _ (List.mem_cons_self ..)
        rcases List.mem_cons.mp hq with rfl | hq
        · exact List.mem_cons_self ..
        · exact List.mem_cons_of_mem _ (List.mem_cons_of_mem _ hq), off, trivial, ih (i + 1) _ (by omega) ?_⟩
      rw [z]
      exact intsAre_app hys (.cons _ _ .nil)
    | false =>
      rw [hb] at z
      simp only [Bool.false_eq_true, if_false, List.append_nil] at z ⊢
      exact ⟨h', tk', news, rfl, F2, back N2, off, trivial, ih (i + 1) ys (by omega) (by rw [z]; exact hys)⟩

end

section
open PyProof.Rows.LCg
theorem suc7told_1 : True := by
  w_top off
  (k_with "e221" => skip)
  (k_with "e223" => skip)
  (k_with "e222" => skip)
  (k_with "e224" => skip)
  (k_with "e225" => skip)
  trivial
section
variable {prog : Program} {w : World} {A : Around} {E : Value → Shared → Prop} {s : Shared} {h₀ : Heap} {L t : Addr} {m : Str → Option Value} {news : List (Addr × Obj)}
theorem sumListK {vs : List Value} {ns : List Int} {n : Nat} {Q : Value → Shared → Prop} (hh : A.handled = none) (F : Fr h₀ L s.heap m) (N : News h₀ L s.heap news) (hm : (t, listOf vs.toArray n) ∈ news) (hi : IntsAre vs ns)
    (h : ∀ h' tk t', Fr h₀ L h' m → News h₀ L h' news → Q (.int ns.sum t') { s with heap := h', toks := tk }) :
    wpAny (model prog w) A (call (.builtin "sum") [.ref t]) Q E s := by
  have hl : s.heap.IsList t vs.toArray := News.isList N hm
  obtain ⟨xs, hx⟩ := hi.allInts.items
  have hn : numsOf vs.toArray.toList = ns := by rw [show vs.toArray.toList = vs from rfl, hi.numsOf]
  rw [hx] at hl hn
  rw [nums_intItems] at hn
  refine sum_intListG hh hl fun h' tk t' hk => ?_
  have := h h' tk t' (F.keeps hk) (N.grown hk)
  rw [preSum_eq, List.take_of_length_le (by simp), hn]
  exact this
end
theorem suc7told_2 : True := by
  (k_with "CompSrcT" => ((fail_if_success k_extra "e226"); ((refine Hold.out ?_))))
  trivial
theorem tdComp (w : World) (mg mb : Str → Option Value) (fa : Addr) (cd : Value)
   (p : Program) (loose : List Str) (mean : ExcName → Option Value) (dp un : Nat) (gd : Option (List Code)) (a : Addr) (ccd : Value) (cl : List (Str × Addr)) (outer : List Env) (A₀ : Around) (base h₀ : Heap) (L : Addr) (m : Str → Option Value) (s : Shared) (Q : Value → Shared → Prop) (E : Value → Shared → Prop)
   (B : Below A₀ base outer h₀) (X : (hd.heap_39 w.params).In h₀) (T : Top p loose mean mg mb h₀) (F : Fr h₀ L s.heap m)
   (rn tb od : Addr) (o4 o5 o6 : Obj) (kv ov : List Value) (n4 n5 no : Nat) (rs : List Str) (ks l : List Nat) (ts : List Ord) (news : List (Addr × Obj)) (N : News h₀ L s.heap news)
   (hn : ∀ q ∈ [(L + 1 + 1 + 1 + 1 + 1 + 1, o6), (L + 1 + 1 + 1 + 1, o4), (L + 1 + 1 + 1 + 1 + 1, o5), (rn, listOf kv.toArray n4), (tb, listOf (refsOf ts).toArray n5), (od, listOf ov.toArray no)], q ∈ news) (hts : ∀ q ∈ ts.map Ord.led, q ∈ news)
   (k4 : o4.data = .cell (some (.ref rn))) (k5 : o5.data = .cell (some (.ref tb))) (k6 : o6.data = .cell (some (.ref od)))
   (R : RowsAre rs ts rs) (hrs : rs.length = 6) (hk : IntsAre kv (ks.map fun x : Nat => (x : Int))) (hks : ks.length = 6) (hkb : ∀ x ∈ ks, x < 6) (ho : IntsAre ov (l.map fun x : Nat => (x : Int))) (hl : l.length = 6) (hlb : ∀ x ∈ l, x < 6)
   (K : ∀ (D : Addr) (ys : List Value) (h' : Heap) (tk' : Nat), IntsAre ys (stepsG (gtR rs ks) l 5) → Fr h₀ L h' m → News h₀ L h' ((D, lst ys) :: news) → (∀ q ∈ news, q.1 ≠ D) → Q (.ref D) { s with heap := h', toks := tk' }) :
   wpAny (model pg w) (ktrTop dp un gd "law" (scopeAt w 138) L a ccd cl outer) (eval tdC (envOfC "law" (scopeAt w 138) L fa cd)) Q E s := by
  have q3 : tdC = Expr.ListComp tdP.2.1 [⟨.Name "j" _, Expr.Call _ _ _ _, [tdP.1], 0⟩] tdSc _ := rfl
  rw [q3]
  refine LCt.ListComp_T (x := "j") (cl := [(("table" : Str), L + 1 + 1 + 1 + 1 + 1), (("ranks" : Str), L + 1 + 1 + 1 + 1), (("order" : Str), L + 1 + 1 + 1 + 1 + 1 + 1)]) F ?hc ?hcell ?hk ?hn ?hx ?hit ?hs
  case hc => exact rfl
  case hcell => decide
  case hk => exact rfl
  case hn => decide +kernel
  case hx => exact rfl
  case hs => exact fun _ => rfl
  case hit =>
    generalize hH : (fun s₂ => FinE h₀ L m s₂ Q) = Fin0
    have q2 : scopeAt w 138 = Scope.mk _ _ _ _ _ := rfl
    have fin : ∀ s' : Shared, (∀ ys, IntsAre ys (stepsG (gtR rs ks) l 5) → Fin0 s' ys news) → LCt.CompRestT pg w (ktrTop dp un gd "law" (scopeAt w 138) L a ccd cl outer) h₀ L m (envOfC "law" (scopeAt w 138) L fa cd) tdP.1 tdP.2.1 "j" tdSc [(("table" : Str), L + 1 + 1 + 1 + 1 + 1), (("ranks" : Str), L + 1 + 1 + 1 + 1), (("order" : Str), L + 1 + 1 + 1 + 1 + 1 + 1)] s' (fun _ => True) (fun i v => ∃ t, v = .int (0 + (i : Int)) t) (Fin0 s') 5 0 [] news := fun s' hF =>
      tdRest w mg mb fa cd p loose mean dp un gd a ccd cl outer A₀ base h₀ L m s' B X T _ _ _ rn tb od o4 o5 o6 kv ov n4 n5 no rs ks l ts news (Fin0 s') hn hts k4 k5 k6 R hrs hk hks hkb ho hl hlb hF 5 0 [] rfl .nil
    have kF : ∀ (h' : Heap) (tk' : Nat) (h2 : Heap) ys, IntsAre ys (stepsG (gtR rs ks) l 5) → Fin0 { s with heap := h2, toks := tk' } ys news := by
      intro h' tk' h2 ys hys
      rw [← hH]
      intro D h tk F' N' o1
      exact K D ys h tk hys F' N' (off1_mem o1)
    clear K
    generalize tdP.1 = ct at *
    generalize tdP.2.1 = el at *
    generalize tdSc = sc at *
    rw [q2] at fin ⊢
    k_steps
    refine ⟨?_⟩
    (with_reducible rename IsRange _ _ _ _ _ _ _ _ => kR)
    refine LCt.CompSrcT.range (a := 0) (b := 5) (n := 5) rfl (by k_asm) (by k_asm) kR (by decide +kernel) (by decide +kernel) (by rw [sizeLine_eq]; decide) fun g => fin _ ?_
    exact kF g _ g

end

section
open PyProof.Rows.LCg
theorem suc8told_1 : True := by
  w_top off
  (k_with "e226" => skip)
  (k_with "eval ListComp" => ((fail_if_success k_extra "e227"); ((k_here; refine Hold.out ?_))))
  (k_with "call builtin:sum" => ((fail_if_success k_extra "e228"); ((k_here; refine Hold.out ?_))))
  (k_with "binaryOp Pow int int" => ((fail_if_success k_extra "e229"); ((k_here; k_dflt (refine' pow100 ?ez75 ?_; (case ez75 => assumption)); intro tk' t'))))
  trivial
def fmN (g : Nat → Nat → Bool) (l : List Nat) : Nat → Nat
  | 0 => 0
  | i + 1 => fmN g l i + if g (l.getD i 0) (l.getD (i + 1) 0) = true then i + 1 else 0
theorem stepsG_sum (g : Nat → Nat → Bool) (l : List Nat) : ∀ i, (stepsG g l i).sum = ((fmN g l i : Nat) : Int)
  | 0 => rfl
  | i + 1 => by
    rw [stepsG_succ, List.sum_append_int, stepsG_sum g l i]
    show _ = ((fmN g l i + (if g (l.getD i 0) (l.getD (i + 1) 0) = true then i + 1 else 0) : Nat) : Int)
    by_cases h : g (l.getD i 0) (l.getD (i + 1) 0) = true
    · rw [if_pos h, if_pos h]; simp
    · rw [if_neg h, if_neg h]; simp
theorem fmN_le (g : Nat → Nat → Bool) (l : List Nat) : fmN g l 5 ≤ 15 := by
  simp only [fmN]
  repeat' split
  all_goals omega
theorem tdTurn (w : World) (mg mb : Str → Option Value) (fa : Addr) (cd : Value)
   (p : Program) (loose : List Str) (mean : ExcName → Option Value) (dp un : Nat) (gd : Option (List Code)) (a : Addr) (ccd : Value) (cl : List (Str × Addr)) (outer : List Env) (A₀ : Around) (base h₀ : Heap) (L : Addr) (m : Str → Option Value) (s : Shared) (Q : Flow → Shared → Prop) (E : Value → Shared → Prop)
   (B : Below A₀ base outer h₀) (X : (hd.heap_39 w.params).In h₀) (T : Top p loose mean mg mb h₀) (F : Fr h₀ L s.heap m)
   (rn tb od sg nl al : Addr) (o4 o5 o6 : Obj) (v0 : Option Value) (kv ov : List Value) (n4 n5 no : Nat) (rs : List Str) (ks l : List Nat) (ts : List Ord) (rest : List (Addr × Obj)) (T0 : Int) (t0 : Tok) (pos : Pos)
   (N : News h₀ L s.heap ((L + 1 + 1 + 1 + 1 + 1 + 1, o6) :: rest)) (R6 : RNe rest (L + 1 + 1 + 1 + 1 + 1 + 1))
   (hn : ∀ q ∈ [(L + 1 + 1 + 1 + 1, o4), (L + 1 + 1 + 1 + 1 + 1, o5), (rn, listOf kv.toArray n4), (tb, listOf (refsOf ts).toArray n5), (od, listOf ov.toArray no)], q ∈ rest) (hts : ∀ q ∈ ts.map Ord.led, q ∈ rest)
   (k4 : o4.data = .cell (some (.ref rn))) (k5 : o5.data = .cell (some (.ref tb))) (k6 : o6.data = .cell v0)
   (R : RowsAre rs ts rs) (hrs : rs.length = 6) (hk : IntsAre kv (ks.map fun x : Nat => (x : Int))) (hks : ks.length = 6) (hkb : ∀ x ∈ ks, x < 6) (ho : IntsAre ov (l.map fun x : Nat => (x : Int))) (hl : l.length = 6) (hlb : ∀ x ∈ l, x < 6)
   (m1 : m "told" = some (.int T0 t0)) (m2 : m "signs" = some (.ref sg)) (m3 : m "names" = some (.ref nl)) (m4 : m "around" = some (.ref al)) (hdp : dp + 40 < recursionLimit) (hun : un + 500 < cLine)
   (K : ∀ (h' : Heap) (tk' : Nat) (m' : Str → Option Value) (o6' : Obj) (t' : Tok), Fr h₀ L h' m' → News h₀ L h' ((L + 1 + 1 + 1 + 1 + 1 + 1, o6') :: rest) → o6'.data = .cell (some (.ref od)) → m' "told" = some (.int (T0 + ((100 ^ fmN (gtR rs ks) l 5 : Nat) : Int)) t') → m' "signs" = some (.ref sg) → m' "names" = some (.ref nl) → m' "around" = some (.ref al) → Q .next { s with heap := h', toks := tk' }) :
   wpAny (model pg w) (ktrTop dp un gd "law" (scopeAt w 138) L a ccd cl outer) (assign (.Name "order" pos) (envOfC "law" (scopeAt w 138) L fa cd) (.ref od)) (fun _ s₂ => wpAny (model pg w) (ktrTop dp un gd "law" (scopeAt w 138) L a ccd cl outer) (execs (forB (lawB.drop 20)) (envOfC "law" (scopeAt w 138) L fa cd)) Q E s₂) E s := by
  have e2 : scopeAt w 138 = Scope.mk _ _ _ _ _ := rfl
  have e1 : forB (lawB.drop 20) = [Stmt.AugAssign _ _ (.BinOp _ _ (.Call _ [tdC] _ _) _) _] := rfl
  have q3 : tdC = Expr.ListComp tdP.2.1 [⟨.Name "j" _, Expr.Call _ _ _ _, [tdP.1], 0⟩] tdSc _ := rfl
  have F := Mine.Fr.pin (Mine.Fr.pin (Mine.Fr.pin (Mine.Fr.pin F (x := "told") m1) (x := "signs") m2) (x := "names") m3) (x := "around") m4
  have hle : fmN (gtR rs ks) l 5 ≤ 100 := Nat.le_trans (fmN_le _ _) (by decide)
  have C := fun (s : Shared) (Q : Value → Shared → Prop) (m : Str → Option Value) (F : Fr h₀ L s.heap m) (o6 : Obj) (N : News h₀ L s.heap ((L + 1 + 1 + 1 + 1 + 1 + 1, o6) :: rest)) (k6 : o6.data = .cell (some (.ref od))) => tdComp w mg mb fa cd p loose mean dp un gd a ccd cl outer A₀ base h₀ L m s Q E B X T F rn tb od o4 o5 o6 kv ov n4 n5 no rs ks l ts ((L + 1 + 1 + 1 + 1 + 1 + 1, o6) :: rest) N
    (fun q hq => by
      rcases List.mem_cons.mp hq with rfl | hq
      · exact List.mem_cons_self ..
      · exact List.mem_cons_of_mem _ (hn q hq)) (fun q hq => List.mem_cons_of_mem _ (hts q hq)) k4 k5 k6 R hrs hk hks hkb ho hl hlb
  rw [q3] at C
  rw [e1, q3]
  generalize tdP.1 = ct at *
  generalize tdP.2.1 = el at *
  generalize tdSc = sc at *
  rw [e2] at C ⊢
  k_steps
  refine ⟨?_⟩
  refine C _ _ _ (by k_asm) _ (by k_asm) (by assumption) ?_
  intro D ys h' tk' hys F' N' o1
  k_steps
  refine ⟨?_⟩
  refine sumListK rfl (by k_asm) (by k_asm) (by k_mem) hys ?_
  intro h2 tk2 t2 F2 N2
  rw [stepsG_sum]
  k_steps
  dsimp only
  rename Obj => o6'
  exact K _ _ _ o6' _ (by k_asm) (Newss.sub (by k_asm) fun q hq => List.mem_cons_of_mem _ hq) (by assumption) (by exact rfl) (by exact rfl) (by exact rfl) (by exact rfl)

end

section
open PyProof.Rows.LCg
theorem suc9told_1 : True := by
  w_top off
  (k_with "e229" => skip)
  (k_with "e227" => skip)
  (k_with "e228" => skip)
  (k_with "exec For Name Name cons nil" => ((fail_if_success k_extra "e230"); ((k_here; refine Hold.out ?_))))
  (k_with "pyIter ref" => ((fail_if_success k_extra "e231"); ((refine Hold.out ?_))))
  trivial
def toldG (g : Nat → Nat → Bool) (ls : List (List Nat)) : Nat := (ls.map fun l => 100 ^ fmN g l 5).sum
theorem tdLoop (w : World) (mg mb : Str → Option Value) (fa : Addr) (cd : Value)
   (p : Program) (loose : List Str) (mean : ExcName → Option Value) (dp un : Nat) (gd : Option (List Code)) (a : Addr) (ccd : Value) (cl : List (Str × Addr)) (outer : List Env) (A₀ : Around) (base h₀ : Heap) (L : Addr) (s : Shared) (Q : Flow → Shared → Prop) (E : Value → Shared → Prop)
   (B : Below A₀ base outer h₀) (X : (hd.heap_39 w.params).In h₀) (T : Top p loose mean mg mb h₀)
   (rn tb sg nl al I oA : Addr) (o4 o5 : Obj) (kv : List Value) (n4 n5 nA : Nat) (rs : List Str) (ks : List Nat) (ts os : List Ord) (rest : List (Addr × Obj)) (pos : Pos)
   (R6 : RNe rest (L + 1 + 1 + 1 + 1 + 1 + 1)) (hI : ∀ q ∈ rest, q.1 ≠ I) (hcI : (L + 1 + 1 + 1 + 1 + 1 + 1) ≠ I)
   (hn : ∀ q ∈ [(L + 1 + 1 + 1 + 1, o4), (L + 1 + 1 + 1 + 1 + 1, o5), (rn, listOf kv.toArray n4), (tb, listOf (refsOf ts).toArray n5), (oA, listOf (refsOf os).toArray nA)], q ∈ rest) (hts : ∀ q ∈ ts.map Ord.led, q ∈ rest) (hos : ∀ q ∈ os.map Ord.led, q ∈ rest)
   (k4 : o4.data = .cell (some (.ref rn))) (k5 : o5.data = .cell (some (.ref tb)))
   (R : RowsAre rs ts rs) (hrs : rs.length = 6) (hk : IntsAre kv (ks.map fun x : Nat => (x : Int))) (hks : ks.length = 6) (hkb : ∀ x ∈ ks, x < 6)
   (hdp : dp + 40 < recursionLimit) (hun : un + 500 < cLine) (total : Nat)
   (K : ∀ (h' : Heap) (tk' : Nat) (m' : Str → Option Value) (o6' : Obj) (v' : Option Value) (t' : Tok), Fr h₀ L h' m' → News h₀ L h' ((L + 1 + 1 + 1 + 1 + 1 + 1, o6') :: rest) → o6'.data = .cell v' → m' "told" = some (.int (total : Nat) t') → m' "signs" = some (.ref sg) → m' "names" = some (.ref nl) → m' "around" = some (.ref al) → Q .next { s with heap := h', toks := tk' }) :
   ∀ (os' : List Ord) (ls' : List (List Nat)) (T0 : Nat) (t0 : Tok) (m : Str → Option Value) (o6 : Obj) (v0 : Option Value), OrdsAre os' ls' → (∀ o ∈ os', o ∈ os) → (∀ l ∈ ls', l.length = 6 ∧ ∀ x ∈ l, x < 6) → T0 + toldG (gtR rs ks) ls' = total → o6.data = .cell v0 →
     m "told" = some (.int (T0 : Nat) t0) → m "signs" = some (.ref sg) → m "names" = some (.ref nl) → m "around" = some (.ref al) →
     ItemsRest pg w (ktrTop dp un gd "law" (scopeAt w 138) L a ccd cl outer) E h₀ (envOfC "law" (scopeAt w 138) L fa cd) (.Name "order" pos) (forB (lawB.drop 20)) Q s [(I, "list_iterator")] [(oA, listOf (refsOf os).toArray nA)] ((refsOf os').map .val) m ((L + 1 + 1 + 1 + 1 + 1 + 1, o6) :: rest) := by
  intro os' ls'
  induction os' generalizing ls' with
  | nil =>
    intro T0 t0 m o6 v0 hO _ _ ht k6 m1 m2 m3 m4
    cases hO
    refine ItemsRest.zero fun h tk F N => K h tk m o6 v0 t0 F N k6 ?_ m2 m3 m4
    rw [m1, ← ht]
    rfl
  | cons o os' ih =>
    intro T0 t0 m o6 v0 hO hsub hl ht k6 m1 m2 m3 m4
    cases hO with
    | @cons _ l _ ls hv hO =>
    refine ItemsRest.val fun h tk F oI hoI N => ?_
    have F : Fr h₀ L h m := F
    have N : News h₀ L h ((I, oI) :: (L + 1 + 1 + 1 + 1 + 1 + 1, o6) :: rest) := N
    have ho : o.led ∈ rest := hos _ (List.mem_map_of_mem (hsub o (List.mem_cons_self ..)))
    obtain ⟨l6, lb⟩ := hl l (List.mem_cons_self ..)
    refine tdTurn w mg mb fa cd p loose mean dp un gd a ccd cl outer A₀ base h₀ L m { s with heap := h, toks := tk } _ E B X T F rn tb o.ad sg nl al o4 o5 o6 v0 kv o.vals n4 n5 o.n rs ks l ts ((I, oI) :: rest) T0 t0 pos (Newss.sub N fun q hq => ?_) ⟨fun q hq => ?_⟩ (fun q hq => ?_) (fun q hq => List.mem_cons_of_mem _ (hts q hq)) k4 k5 k6 R hrs hk hks hkb hv l6 lb m1 m2 m3 m4 hdp hun ?_
    · rcases List.mem_cons.mp hq with rfl | hq
      · exact List.mem_cons_of_mem _ (List.mem_cons_self ..)
      rcases List.mem_cons.mp hq with rfl | hq
      · exact List.mem_cons_self ..
      · exact List.mem_cons_of_mem _ (List.mem_cons_of_mem _ hq)
    · rcases List.mem_cons.mp hq with rfl | hq
      · exact Ne.symm hcI
      · exact R6.ne q hq
    · refine List.mem_cons_of_mem _ ?_
      rcases List.mem_cons.mp hq with rfl | hq
      · exact hn _ (by k_mem)
      rcases List.mem_cons.mp hq with rfl | hq
      · exact hn _ (by k_mem)
      rcases List.mem_cons.mp hq with rfl | hq
      · exact hn _ (by k_mem)
      rcases List.mem_cons.mp hq with rfl | hq
      · exact hn _ (by k_mem)
      · rw [List.mem_singleton.mp hq]; exact ho
    · intro h' tk' m' o6' t' F' N' k6' q1 q2 q3 q4
      refine ⟨h', tk', m', (L + 1 + 1 + 1 + 1 + 1 + 1, o6') :: rest, rfl, F', Newss.sub N' fun q hq => ?_, fun q hq r hr' => ?_, ⟨List.mem_cons_of_mem _ (hn _ (by k_mem)), trivial⟩, ih ls (T0 + 100 ^ fmN (gtR rs ks) l 5) t' m' o6' _ hO (fun x hx => hsub x (List.mem_cons_of_mem _ hx)) (fun x hx => hl x (List.mem_cons_of_mem _ hx)) ?_ k6' ?_ q2 q3 q4⟩
      · rcases List.mem_append.mp hq with hq | hq
        · rw [List.mem_singleton.mp hq]; exact List.mem_cons_of_mem _ (List.mem_cons_self ..)
        rcases List.mem_cons.mp hq with rfl | hq
        · exact List.mem_cons_self ..
        · exact List.mem_cons_of_mem _ (List.mem_cons_of_mem _ hq)
      · obtain rfl := List.mem_singleton.mp hr'
        rcases List.mem_cons.mp hq with rfl | hq
        · exact hcI
        · exact hI q hq
      · rw [← ht]
        show _ = T0 + ((l :: ls).map fun l => 100 ^ fmN (gtR rs ks) l 5).sum
        rw [List.map_cons, List.sum_cons]
        show _ + toldG _ ls = T0 + (_ + toldG _ ls)
        omega
      · rw [q1]
        congr 2
theorem seg10 (w : World) (mg mb : Str → Option Value) (fa : Addr) (cd : Value)
   (p : Program) (loose : List Str) (mean : ExcName → Option Value) (dp un : Nat) (gd : Option (List Code)) (a : Addr) (ccd : Value) (cl : List (Str × Addr)) (outer : List Env) (A₀ : Around) (base h₀ : Heap) (L : Addr) (m : Str → Option Value) (s : Shared) (Q : Flow → Shared → Prop) (E : Value → Shared → Prop)
   (B : Below A₀ base outer h₀) (X : (hd.heap_39 w.params).In h₀) (T : Top p loose mean mg mb h₀) (F : Fr h₀ L s.heap m)
   (rn tb sg nl al oA : Addr) (o4 o5 o6 : Obj) (v0 : Option Value) (kv : List Value) (n4 n5 nA : Nat) (rs : List Str) (ks : List Nat) (ts os : List Ord) (ls : List (List Nat)) (rest : List (Addr × Obj)) (t0 : Tok)
   (N : News h₀ L s.heap ((L + 1 + 1 + 1 + 1 + 1 + 1, o6) :: rest)) (R6 : RNe rest (L + 1 + 1 + 1 + 1 + 1 + 1))
   (hn : ∀ q ∈ [(L + 1 + 1 + 1 + 1, o4), (L + 1 + 1 + 1 + 1 + 1, o5), (rn, listOf kv.toArray n4), (tb, listOf (refsOf ts).toArray n5), (oA, listOf (refsOf os).toArray nA)], q ∈ rest) (hts : ∀ q ∈ ts.map Ord.led, q ∈ rest) (hos : ∀ q ∈ os.map Ord.led, q ∈ rest)
   (k4 : o4.data = .cell (some (.ref rn))) (k5 : o5.data = .cell (some (.ref tb))) (k6 : o6.data = .cell v0)
   (R : RowsAre rs ts rs) (hrs : rs.length = 6) (hk : IntsAre kv (ks.map fun x : Nat => (x : Int))) (hks : ks.length = 6) (hkb : ∀ x ∈ ks, x < 6)
   (hO : OrdsAre os ls) (hl : ∀ l ∈ ls, l.length = 6 ∧ ∀ x ∈ l, x < 6)
   (m1 : m "told" = some (.int 0 t0)) (m2 : m "signs" = some (.ref sg)) (m3 : m "names" = some (.ref nl)) (m4 : m "around" = some (.ref al)) (m5 : m "orders" = some (.ref oA)) (hdp : dp + 40 < recursionLimit) (hun : un + 500 < cLine)
   (hE : PassesOwn (model pg w) (ktrTop dp un gd "law" (scopeAt w 138) L a ccd cl outer) (envOfC "law" (scopeAt w 138) L fa cd) E)
   (K : ∀ (h' : Heap) (tk' : Nat) (m' : Str → Option Value) (o6' : Obj) (v' : Option Value) (t' : Tok), Fr h₀ L h' m' → News h₀ L h' ((L + 1 + 1 + 1 + 1 + 1 + 1, o6') :: rest) → o6'.data = .cell v' → m' "told" = some (.int (toldG (gtR rs ks) ls : Nat) t') → m' "signs" = some (.ref sg) → m' "names" = some (.ref nl) → m' "around" = some (.ref al) →
      wpAny (model pg w) (ktrTop dp un gd "law" (scopeAt w 138) L a ccd cl outer) (execs (lawB.drop 21) (envOfC "law" (scopeAt w 138) L fa cd)) Q E { s with heap := h', toks := tk' }) :
   wpAny (model pg w) (ktrTop dp un gd "law" (scopeAt w 138) L a ccd cl outer) (execs (lawB.drop 20) (envOfC "law" (scopeAt w 138) L fa cd)) Q E s := by
  have e1 : lawB.drop 20 = _ :: lawB.drop 21 := rfl
  have e2 : scopeAt w 138 = Scope.mk _ _ _ _ _ := rfl
  have loop := fun (s : Shared) (Q : Flow → Shared → Prop) (I : Addr) (hI : ∀ q ∈ (L + 1 + 1 + 1 + 1 + 1 + 1, o6) :: rest, q.1 < I) K (m : Str → Option Value) f1 f2 f3 f4 => tdLoop w mg mb fa cd p loose mean dp un gd a ccd cl outer A₀ base h₀ L s Q E B X T rn tb sg nl al I oA o4 o5 kv n4 n5 nA rs ks ts os rest (⟨203, 8, 203, 13⟩ : Pos) R6 (fun q hq => Nat.ne_of_lt (hI q (List.mem_cons_of_mem _ hq))) (Nat.ne_of_lt (hI (L + 1 + 1 + 1 + 1 + 1 + 1, o6) (List.mem_cons_self ..))) hn hts hos k4 k5 R hrs hk hks hkb hdp hun (toldG (gtR rs ks) ls) K os ls 0 t0 m o6 v0 hO (fun x hx => hx) hl (Nat.zero_add _) k6 f1 f2 f3 f4
  generalize hR : lawB.drop 21 = R1 at *
  rw [e1]
  rw [e2] at K hE loop ⊢
  have F := Mine.Fr.pin (Mine.Fr.pin (Mine.Fr.pin (Mine.Fr.pin (Mine.Fr.pin F (x := "told") m1) (x := "signs") m2) (x := "names") m3) (x := "around") m4) (x := "orders") m5
  k_steps
  refine ⟨?_⟩
  refine For_turns (by k_asm) ?_ (fun _ => rfl) hE
  k_steps
  refine ⟨?_⟩
  refine iter_listTurns (ax := oA) (vs := refsOf os) (n := nA) (lo := listOf (refsOf os).toArray nA) (news := (L + 1 + 1 + 1 + 1 + 1 + 1, o6) :: rest) rfl (by k_asm) (by k_asm) (List.mem_cons_of_mem _ (hn _ (by k_mem))) rfl rfl fun I hI => ?_
  refine loop _ _ I hI ?_ _ ?f1 ?f2 ?f3 ?f4
  case f1 => exact rfl
  case f2 => exact rfl
  case f3 => exact rfl
  case f4 => exact rfl
  intro h' tk' m' o6' v' t' F' N' k6' q1 q2 q3 q4
  dsimp only
  exact K h' tk' m' o6' v' t' F' N' k6' q1 q2 q3 q4

end

section
open PyProof.Rows.LCg
theorem sud1siz_1 : True := by
  w_top off
  (k_with "e231" => skip)
  (k_with "e230" => skip)
  (k_with "getItem ref int" => ((fail_if_success k_extra "e232"); ((k_here; k_dflt (refine' getItemE ?Nz159 ?mz159 ?jz159 ?xz159 ?zz159 ?_; (case Nz159 => k_asm); (case mz159 => first | k_mem | assumption); (case jz159 => with_reducible exact rfl); (case xz159 => assumption); (case zz159 => omega); k_whole)))))
  (k_with "setItem ref int" => ((fail_if_success k_extra "e233"); ((k_here; k_dflt (refine' setItemE ?Fz160 ?Nz160 ?jz160 ?kz160 ?zz160 ?Uz160 ?_; (case Fz160 => k_asm); (case Nz160 => k_asm); (case jz160 => with_reducible exact rfl); (case kz160 => omega); (case zz160 => omega); (case Uz160 => k_upd)); intro h' F' N'; (try dsimp only [List.nil_append, List.cons_append] at N')))))
  (k_with "subscriptTail Name Name ref int" => ((fail_if_success k_extra "e234"); ((k_here; k_dflt (refine' subAtE ?Nz161 ?mz161 ?jz161 ?xz161 ?zz161 ?_; (case Nz161 => k_asm); (case mz161 => first | k_mem | (refine' List.mem_cons_of_mem _ ?mmz161; (case mmz161 => assumption))); (case jz161 => with_reducible exact rfl); (case xz161 => assumption); (case zz161 => omega); k_whole)))))
  trivial
theorem ItemsRest.subK {prog : Program} {w : World} {A : Around} {E : Value → Shared → Prop} {h₀ : Heap} {env : Env} {target : Expr} {body : List Stmt} {Q : Flow → Shared → Prop} {s : Shared} {I : Addr} {nm : String} {keep n1 n2 : List (Addr × Obj)} (hs : ∀ q ∈ n1, q ∈ n2) :
    ∀ xs m, ItemsRest prog w A E h₀ env target body Q s [(I, nm)] keep xs m n1 → ItemsRest prog w A E h₀ env target body Q s [(I, nm)] keep xs m n2
  | [], _, r => fun h tk F N => r h tk F (Newss.sub N hs)
  | _ :: _, _, r => fun v h tk hv F o ho N => r v h tk hv F o ho (Newss.sub N fun q hq => by
      rcases List.mem_append.mp hq with hq | hq
      · exact List.mem_append_left _ hq
      · exact List.mem_append_right _ (hs q hq))
theorem szTurn (w : World) (mg mb : Str → Option Value) (fa : Addr) (cd : Value)
   (p : Program) (loose : List Str) (mean : ExcName → Option Value) (dp un : Nat) (gd : Option (List Code)) (a : Addr) (ccd : Value) (cl : List (Str × Addr)) (outer : List Env) (A₀ : Around) (base h₀ : Heap) (L : Addr) (m : Str → Option Value) (s : Shared) (Q : Flow → Shared → Prop) (E : Value → Shared → Prop)
   (B : Below A₀ base outer h₀) (X : (hd.heap_39 w.params).In h₀) (T : Top p loose mean mg mb h₀) (F : Fr h₀ L s.heap m)
   (sz sg nl al : Addr) (sv av : List Value) (n na k : Nat) (S ar : List Nat) (T0 : Int) (t0 tk : Tok) (rest : List (Addr × Obj)) (pos : Pos)
   (N : News h₀ L s.heap ((sz, listOf sv.toArray n) :: rest)) (Rz : RNe rest sz) (hal : (al, listOf av.toArray na) ∈ rest)
   (hS : IntsAre sv (S.map fun x : Nat => (x : Int))) (hS6 : S.length = 6) (hA : IntsAre av (ar.map fun x : Nat => (x : Int))) (hA6 : ar.length = 6) (hk : k < 6) (hAk : ar.getD k 0 < 6)
   (m0 : m "sizes" = some (.ref sz)) (m1 : m "told" = some (.int T0 t0)) (m2 : m "signs" = some (.ref sg)) (m3 : m "names" = some (.ref nl)) (m4 : m "around" = some (.ref al)) (hdp : dp + 40 < recursionLimit) (hun : un + 500 < cLine)
   (K : ∀ (h' : Heap) (tk' : Nat) (m' : Str → Option Value) (sv' : List Value), Fr h₀ L h' m' → News h₀ L h' ((sz, listOf sv'.toArray n) :: rest) → IntsAre sv' ((S.set (ar.getD k 0) (S.getD (ar.getD k 0) 0 + S.getD k 0)).map fun x : Nat => (x : Int)) → m' "sizes" = some (.ref sz) → m' "told" = some (.int T0 t0) → m' "signs" = some (.ref sg) → m' "names" = some (.ref nl) → m' "around" = some (.ref al) → Q .next { s with heap := h', toks := tk' }) :
   wpAny (model pg w) (ktrTop dp un gd "law" (scopeAt w 138) L a ccd cl outer) (assign (.Name "k" pos) (envOfC "law" (scopeAt w 138) L fa cd) (.int (k : Nat) tk)) (fun _ s₂ => wpAny (model pg w) (ktrTop dp un gd "law" (scopeAt w 138) L a ccd cl outer) (execs (forB (lawB.drop 22)) (envOfC "law" (scopeAt w 138) L fa cd)) Q E s₂) E s := by
  have e2 : scopeAt w 138 = Scope.mk _ _ _ _ _ := rfl
  have e1 : forB (lawB.drop 22) = [_] := rfl
  have F := Mine.Fr.pin (Mine.Fr.pin (Mine.Fr.pin (Mine.Fr.pin (Mine.Fr.pin F (x := "sizes") m0) (x := "told") m1) (x := "signs") m2) (x := "names") m3) (x := "around") m4
  have lsv := IntsAre.length hS
  have lav := IntsAre.length hA
  rw [List.length_map] at lsv lav
  have k1 : k < ar.length := omLe hk hA6
  have k2 : k < S.length := omLe hk hS6
  have ec : ar.getD k 0 = ar[k] := by simp [List.getD_eq_getElem?_getD, k1]
  rw [ec] at hAk K
  have k3 : ar[k] < S.length := omLe hAk hS6
  have es : S.getD k 0 = S[k] := by simp [List.getD_eq_getElem?_getD, k2]
  have et : S.getD ar[k] 0 = S[ar[k]] := by simp [List.getD_eq_getElem?_getD, k3]
  rw [es, et] at K
  obtain ⟨ta, x1⟩ := intsGet hA k ar[k] (by simp [k1])
  obtain ⟨tb, x2⟩ := intsGet hS ar[k] S[ar[k]] (by simp [k3])
  obtain ⟨tc, x3⟩ := intsGet hS k S[k] (by simp [k2])
  generalize hc : ar[k] = c at *
  generalize hy : S[c] = y at *
  generalize hz : S[k] = z at *
  rw [e1, e2]
  k_steps
  dsimp only
  refine' K _ _ _ (sv.set c _) (by k_asm) (Newss.sub (by k_asm) fun q hq => hq) ?_ (by exact rfl) (by exact rfl) (by exact rfl) (by exact rfl) (by exact rfl)
  rw [List.map_set]
  exact IntsAre.set' hS _ _ _
def newsL {h₀ h : Heap} {L : Addr} {l : List (Addr × Obj)} (_ : News h₀ L h l) : List (Addr × Obj) := l
def nz1 {h₀ h : Heap} {L a b : Addr} {x y : Obj} {r : List (Addr × Obj)} (_ : News h₀ L h ((a, x) :: (b, y) :: r)) : Addr := a
def nz2 {h₀ h : Heap} {L a b : Addr} {x y : Obj} {r : List (Addr × Obj)} (_ : News h₀ L h ((a, x) :: (b, y) :: r)) : Addr := b
theorem sud1siz_2 : True := by
  (k_with "exec For Name List cons nil" => ((fail_if_success k_extra "e235"); ((k_here; refine Hold.out ?_))))
  (k_with "pyIter ref" => ((fail_if_success k_extra "e236"); ((refine Hold.out ?_))))
  trivial
def szStep (ar : List Nat) (S : List Nat) (k : Nat) : List Nat := S.set (ar.getD k 0) (S.getD (ar.getD k 0) 0 + S.getD k 0)
theorem szLoop (w : World) (mg mb : Str → Option Value) (fa : Addr) (cd : Value)
   (p : Program) (loose : List Str) (mean : ExcName → Option Value) (dp un : Nat) (gd : Option (List Code)) (a : Addr) (ccd : Value) (cl : List (Str × Addr)) (outer : List Env) (A₀ : Around) (base h₀ : Heap) (L : Addr) (s : Shared) (Q : Flow → Shared → Prop) (E : Value → Shared → Prop)
   (B : Below A₀ base outer h₀) (X : (hd.heap_39 w.params).In h₀) (T : Top p loose mean mg mb h₀)
   (sz sg nl al I lk : Addr) (av : List Value) (n na : Nat) (lo : Obj) (ar Sf : List Nat) (T0 : Int) (t0 : Tok) (rest : List (Addr × Obj)) (pos : Pos)
   (Rz : RNe rest sz) (hal : (al, listOf av.toArray na) ∈ rest) (hlk : (lk, lo) ∈ rest) (hI : ∀ q ∈ rest, q.1 ≠ I) (hzI : sz ≠ I)
   (hA : IntsAre av (ar.map fun x : Nat => (x : Int))) (hA6 : ar.length = 6) (hAb : ∀ k, k < 6 → ar.getD k 0 < 6)
   (hdp : dp + 40 < recursionLimit) (hun : un + 500 < cLine)
   (K : ∀ (h' : Heap) (tk' : Nat) (m' : Str → Option Value) (sv' : List Value), Fr h₀ L h' m' → News h₀ L h' ((sz, listOf sv'.toArray n) :: rest) → IntsAre sv' (Sf.map fun x : Nat => (x : Int)) → m' "sizes" = some (.ref sz) → m' "told" = some (.int T0 t0) → m' "signs" = some (.ref sg) → m' "names" = some (.ref nl) → m' "around" = some (.ref al) → Q .next { s with heap := h', toks := tk' }) :
   ∀ (vs : List Value) (kl S : List Nat) (sv : List Value) (m : Str → Option Value), IntsAre vs (kl.map fun x : Nat => (x : Int)) → (∀ k ∈ kl, k < 6) → IntsAre sv (S.map fun x : Nat => (x : Int)) → S.length = 6 → kl.foldl (szStep ar) S = Sf →
     m "sizes" = some (.ref sz) → m "told" = some (.int T0 t0) → m "signs" = some (.ref sg) → m "names" = some (.ref nl) → m "around" = some (.ref al) →
     ItemsRest pg w (ktrTop dp un gd "law" (scopeAt w 138) L a ccd cl outer) E h₀ (envOfC "law" (scopeAt w 138) L fa cd) (.Name "k" pos) (forB (lawB.drop 22)) Q s [(I, "list_iterator")] [(lk, lo)] (vs.map .val) m ((sz, listOf sv.toArray n) :: rest) := by
  intro vs kl
  induction kl generalizing vs with
  | nil =>
    intro S sv m hv _ hS h6 hf m0 m1 m2 m3 m4
    cases hv
    exact ItemsRest.zero fun h tk F N => K h tk m sv F N (by rw [← hf]; exact hS) m0 m1 m2 m3 m4
  | cons k kl ih =>
    intro S sv m hv hkl hS h6 hf m0 m1 m2 m3 m4
    rw [List.map_cons] at hv
    cases hv with
    | cons _ tk hv =>
    refine ItemsRest.val fun h tk1 F oI hoI N => ?_
    have F : Fr h₀ L h m := F
    have N : News h₀ L h ((I, oI) :: (sz, listOf sv.toArray n) :: rest) := N
    have hk := hkl k (List.mem_cons_self ..)
    refine szTurn w mg mb fa cd p loose mean dp un gd a ccd cl outer A₀ base h₀ L m { s with heap := h, toks := tk1 } _ E B X T F sz sg nl al sv av n na k S ar T0 t0 tk ((I, oI) :: rest) pos (Newss.sub N fun q hq => ?_) ⟨fun q hq => ?_⟩ (List.mem_cons_of_mem _ hal) hS h6 hA hA6 hk (hAb k hk) m0 m1 m2 m3 m4 hdp hun ?_
    · rcases List.mem_cons.mp hq with rfl | hq
      · exact List.mem_cons_of_mem _ (List.mem_cons_self ..)
      rcases List.mem_cons.mp hq with rfl | hq
      · exact List.mem_cons_self ..
      · exact List.mem_cons_of_mem _ (List.mem_cons_of_mem _ hq)
    · rcases List.mem_cons.mp hq with rfl | hq
      · exact Ne.symm hzI
      · exact Rz.ne q hq
    · intro h' tk' m' sv' F' N' hS' q0 q1 q2 q3 q4
      refine ⟨h', tk', m', (sz, listOf sv'.toArray n) :: rest, rfl, F', Newss.sub N' fun q hq => ?_, fun q hq r hr' => ?_, ⟨List.mem_cons_of_mem _ hlk, trivial⟩, ih _ (szStep ar S k) sv' m' hv (fun x hx => hkl x (List.mem_cons_of_mem _ hx)) hS' (by unfold szStep; rw [List.length_set]; exact h6) hf q0 q1 q2 q3 q4⟩
      · rcases List.mem_append.mp hq with hq | hq
        · rw [List.mem_singleton.mp hq]; exact List.mem_cons_of_mem _ (List.mem_cons_self ..)
        rcases List.mem_cons.mp hq with rfl | hq
        · exact List.mem_cons_self ..
        · exact List.mem_cons_of_mem _ (List.mem_cons_of_mem _ hq)
      · obtain rfl := List.mem_singleton.mp hr'
        rcases List.mem_cons.mp hq with rfl | hq
        · exact hzI
        · exact hI q hq
theorem seg11 (w : World) (mg mb : Str → Option Value) (fa : Addr) (cd : Value)
   (p : Program) (loose : List Str) (mean : ExcName → Option Value) (dp un : Nat) (gd : Option (List Code)) (a : Addr) (ccd : Value) (cl : List (Str × Addr)) (outer : List Env) (A₀ : Around) (base h₀ : Heap) (L : Addr) (m : Str → Option Value) (s : Shared) (Q : Flow → Shared → Prop) (E : Value → Shared → Prop)
   (B : Below A₀ base outer h₀) (X : (hd.heap_39 w.params).In h₀) (T : Top p loose mean mg mb h₀) (F : Fr h₀ L s.heap m)
   (sg nl al : Addr) (av : List Value) (na : Nat) (ar : List Nat) (T0 : Int) (t0 : Tok) (rest : List (Addr × Obj))
   (N : News h₀ L s.heap rest) (hal : (al, listOf av.toArray na) ∈ rest)
   (hA : IntsAre av (ar.map fun x : Nat => (x : Int))) (hA6 : ar.length = 6) (hAb : ∀ k, k < 6 → ar.getD k 0 < 6)
   (m1 : m "told" = some (.int T0 t0)) (m2 : m "signs" = some (.ref sg)) (m3 : m "names" = some (.ref nl)) (m4 : m "around" = some (.ref al)) (hdp : dp + 40 < recursionLimit) (hun : un + 500 < cLine)
   (hE : PassesOwn (model pg w) (ktrTop dp un gd "law" (scopeAt w 138) L a ccd cl outer) (envOfC "law" (scopeAt w 138) L fa cd) E)
   (K : ∀ (h' : Heap) (tk' : Nat) (m' : Str → Option Value) (sz : Addr) (sv' : List Value) (n : Nat), Fr h₀ L h' m' → News h₀ L h' ((sz, listOf sv'.toArray n) :: rest) → IntsAre sv' ((sizesP ar).map fun x : Nat => (x : Int)) → m' "sizes" = some (.ref sz) → m' "told" = some (.int T0 t0) → m' "signs" = some (.ref sg) → m' "names" = some (.ref nl) → m' "around" = some (.ref al) →
      wpAny (model pg w) (ktrTop dp un gd "law" (scopeAt w 138) L a ccd cl outer) (execs (lawB.drop 23) (envOfC "law" (scopeAt w 138) L fa cd)) Q E { s with heap := h', toks := tk' }) :
   wpAny (model pg w) (ktrTop dp un gd "law" (scopeAt w 138) L a ccd cl outer) (execs (lawB.drop 21) (envOfC "law" (scopeAt w 138) L fa cd)) Q E s := by
  have e1 : lawB.drop 21 = _ :: _ :: lawB.drop 23 := rfl
  have e2 : scopeAt w 138 = Scope.mk _ _ _ _ _ := rfl
  have loop := fun (s : Shared) (Q : Flow → Shared → Prop) => szLoop w mg mb fa cd p loose mean dp un gd a ccd cl outer A₀ base h₀ L s Q E B X T
  generalize hR : lawB.drop 23 = R1 at *
  rw [e1]
  rw [e2] at K hE loop ⊢
  have F := Mine.Fr.pin (Mine.Fr.pin (Mine.Fr.pin (Mine.Fr.pin F (x := "told") m1) (x := "signs") m2) (x := "names") m3) (x := "around") m4
  k_steps
  refine ⟨?_⟩
  refine For_turns (by k_asm) ?_ (fun _ => rfl) hE
  k_steps
  refine ⟨?_⟩
  (with_reducible rename News _ _ _ _ => kN)
  obtain ⟨lk, hlk⟩ : ∃ x : Addr, x = nz1 kN := ⟨_, rfl⟩
  obtain ⟨sz, hsz⟩ : ∃ x : Addr, x = nz2 kN := ⟨_, rfl⟩
  unfold nz1 at hlk
  unfold nz2 at hsz
  subst hlk hsz
  refine iter_listTurns rfl (by k_asm) kN (List.mem_cons_self ..) rfl (by exact rfl) fun I hI => ?_
  have hI1 : lk < I := hI _ (List.mem_cons_self ..)
  have hI2 : sz < I := hI _ (List.mem_cons_of_mem _ (List.mem_cons_self ..))
  have Rz : RNe rest sz := by k_extra "RNe"
  have hlz : lk ≠ sz := by k_ne
  obtain ⟨sv0, hv0, kM⟩ : ∃ sv0 : List Value, IntsAre sv0 (([1, 1, 1, 1, 1, 1] : List Nat).map fun x : Nat => (x : Int)) ∧ (sz, listOf sv0.toArray 0) ∈ newsL kN := ⟨[.int 1 _, .int 1 _, .int 1 _, .int 1 _, .int 1 _, .int 1 _], .cons 1 _ (.cons 1 _ (.cons 1 _ (.cons 1 _ (.cons 1 _ (.cons 1 _ .nil))))), List.mem_cons_of_mem _ (List.mem_cons_self ..)⟩
  unfold newsL at kM
  refine' Mine.ItemsRest.subK (n1 := (sz, listOf sv0.toArray 0) :: (lk, _) :: rest) ?hs _ _ (loop _ _ sz sg nl al I lk av 0 na _ ar (sizesP ar) T0 t0 ((lk, _) :: rest) _ ?Rz (List.mem_cons_of_mem _ hal) (List.mem_cons_self ..) ?hI (Nat.ne_of_lt hI2) hA hA6 hAb hdp hun ?K _ [5, 4, 3, 2, 1] [1, 1, 1, 1, 1, 1] sv0 _ ?v1 (by decide) hv0 rfl rfl ?f0 ?f1 ?f2 ?f3 ?f4)
  case f0 => exact rfl
  case f1 => exact rfl
  case f2 => exact rfl
  case f3 => exact rfl
  case f4 => exact rfl
  case v1 => exact .cons 5 _ (.cons 4 _ (.cons 3 _ (.cons 2 _ (.cons 1 _ .nil))))
  case Rz =>
    refine ⟨fun q hq => ?_⟩
    rcases List.mem_cons.mp hq with rfl | hq
    · exact hlz
    · exact Rz.ne q hq
  case hI =>
    intro q hq
    rcases List.mem_cons.mp hq with rfl | hq
    · exact Nat.ne_of_lt hI1
    · exact Nat.ne_of_lt (hI q (TailOf.mem (by k_extra "Tail") q hq))
  case hs =>
    intro q hq
    rcases List.mem_cons.mp hq with rfl | hq
    · exact kM
    rcases List.mem_cons.mp hq with rfl | hq
    · exact List.mem_cons_self ..
    · exact TailOf.mem (by k_extra "Tail") q hq
  case K =>
    intro h' tk' m' sv' F' N' hS' q0 q1 q2 q3 q4
    dsimp only
    exact K h' tk' m' sz sv' 0 F' (Newss.sub N' fun q hq => by
      rcases List.mem_cons.mp hq with rfl | hq
      · exact List.mem_cons_self ..
      · exact List.mem_cons_of_mem _ (List.mem_cons_of_mem _ hq)) hS' q0 q1 q2 q3 q4

end

section
open PyProof.Rows.LCg
theorem sud2due_1 : True := by
  w_top off
  (k_with "e234" => skip)
  (k_with "e236" => skip)
  (k_with "e232" => skip)
  (k_with "e233" => skip)
  (k_with "e235" => skip)
  (k_with "subscriptTail Name Name ref int" => ((fail_if_success k_extra "e237"); ((k_here; k_dflt (refine' subAtE ?Nz163 ?mz163 ?jz163 ?xz163 ?zz163 ?_; (case Nz163 => k_asm); (case mz163 => first | k_mem | assumption); (case jz163 => with_reducible exact rfl); (case xz163 => assumption); (case zz163 => omega); k_whole)))))
  (k_with "subscriptTail Name Subscript ref int" => ((fail_if_success k_extra "e238"); ((k_here; k_dflt (refine' subAtE ?Nz164 ?mz164 ?jz164 ?xz164 ?zz164 ?_; (case Nz164 => k_asm); (case mz164 => first | k_mem | assumption); (case jz164 => with_reducible exact rfl); (case xz164 => assumption); (case zz164 => omega); k_whole)))))
  (k_with "binaryOp Pow int int" => ((fail_if_success k_extra "e239"); ((k_here; k_dflt (refine' pow100 ?ez75 ?_; (case ez75 => assumption)); intro tk' t'))))
  (k_with "call ref" => ((fail_if_success k_extra "e240"); ((k_here; (with_reducible show wpAny _ _ (call (Value.ref 133) [Value.int _ _]) _ _ _); k_dflt (refine' HC.use (members_c _ _ _ _ _ ?xz165) ?Bz165 ?Fz165 ?Xz165 ?Nz165 ?Tz165 ?skz165 ?Gz165 ?dz165 ?uz165 (List.forall_mem_nil _) (fun q hq => hq) (fun q hq h => nomatch h) ?_; (case xz165 => assumption); (case Bz165 => k_asm); (case Fz165 => k_asm); (case Xz165 => k_asm); (case Nz165 => k_asm); (case Tz165 => k_asm); (case skz165 => exact rfl); (case Gz165 => assumption); (case dz165 => omega); (case uz165 => omega); intro v' news' h' tk' F' N' P'; obtain ⟨t', e1', e2'⟩ := P'; subst e1' e2')))))
  trivial
theorem imulN {prog : Program} {w : World} {A : Around} {E : Value → Shared → Prop} {s : Shared} {a b : Nat} {t u : Tok} {Q : Value → Shared → Prop} (hb : b < 2 ^ 64) (h : ∀ tk t', Q (.int ((a * b : Nat) : Int) t') { s with toks := tk }) : wpAny (model prog w) A (inplaceOp .Mult (.int (a : Nat) t) (.int (b : Nat) u)) Q E s := by
  refine imul_int ?_ (hm := IntMulOk.of_right ?_)
  · have := h (s.toks + 1) s.toks
    rw [Int.natCast_mul] at this
    exact this
  · unfold Builtin.Int.intBits
    split
    · decide
    · rename_i h0
      have h1 : b ≠ 0 := fun e => h0 (by subst e; rfl)
      have : (b : Int).natAbs.log2 < 64 := by
        rw [Int.natAbs_natCast]
        exact (Nat.log2_lt h1).mpr hb
      omega
theorem pow_small (n : Nat) (h : n ≤ 6) : 100 ^ n < 2 ^ 64 ∧ (100 ^ n - 1) / 99 < 2 ^ 64 :=
  (by decide +kernel : ∀ n, n < 7 → 100 ^ n < 2 ^ 64 ∧ (100 ^ n - 1) / 99 < 2 ^ 64) n (Nat.lt_succ_of_le h)
theorem sud2due_2 : True := by
  (k_with "inplaceOp Mult int int" => ((fail_if_success k_extra "e241"); ((k_here; k_dflt (refine' imulN ?bz166 ?_; (case bz166 => assumption)); intro tk' t'))))
  trivial
theorem memb_div (n : Nat) (h : 1 ≤ n ∧ n ≤ 6) : (100 ^ n - 1) / 99 = memb n :=
  (by decide +kernel : ∀ n, n < 7 → (100 ^ n - 1) / 99 = memb n) n (Nat.lt_succ_of_le h.2)
/-- due's factor at k -/
def dueF (ks ar S : List Nat) (k : Nat) : Nat := memb k * if ks.getD (ar.getD k 0) 0 < ks.getD k 0 then 100 ^ S.getD k 0 else 1
theorem dueTurn (w : World) (mg mb : Str → Option Value) (fa : Addr) (cd : Value)
   (p : Program) (loose : List Str) (mean : ExcName → Option Value) (dp un : Nat) (gd : Option (List Code)) (a : Addr) (ccd : Value) (cl : List (Str × Addr)) (outer : List Env) (A₀ : Around) (base h₀ : Heap) (L : Addr) (m : Str → Option Value) (s : Shared) (Q : Flow → Shared → Prop) (E : Value → Shared → Prop)
   (B : Below A₀ base outer h₀) (X : (hd.heap_39 w.params).In h₀) (T : Top p loose mean mg mb h₀) (F : Fr h₀ L s.heap m) (HG : CodeHd base 99 95)
   (sz sg nl al rn : Addr) (o4 : Obj) (sv av kv : List Value) (n na n4 k : Nat) (S ar ks : List Nat) (T0 D0 : Nat) (t0 t1 tk : Tok) (news : List (Addr × Obj)) (pos : Pos)
   (N : News h₀ L s.heap news) (hsz : (sz, listOf sv.toArray n) ∈ news) (hal : (al, listOf av.toArray na) ∈ news) (hrn : (rn, listOf kv.toArray n4) ∈ news) (hc4 : (L + 1 + 1 + 1 + 1, o4) ∈ news) (k4 : o4.data = .cell (some (.ref rn)))
   (hS : IntsAre sv (S.map fun x : Nat => (x : Int))) (hS6 : S.length = 6) (hA : IntsAre av (ar.map fun x : Nat => (x : Int))) (hA6 : ar.length = 6) (hK : IntsAre kv (ks.map fun x : Nat => (x : Int))) (hK6 : ks.length = 6) (hk : 1 ≤ k ∧ k ≤ 5) (hAk : ar.getD k 0 < 6) (hSk : 1 ≤ S.getD k 0 ∧ S.getD k 0 ≤ 6)
   (m0 : m "sizes" = some (.ref sz)) (m1 : m "told" = some (.int (T0 : Nat) t0)) (m5 : m "due" = some (.int (D0 : Nat) t1)) (m2 : m "signs" = some (.ref sg)) (m3 : m "names" = some (.ref nl)) (m4 : m "around" = some (.ref al)) (hdp : dp + 40 < recursionLimit) (hun : un + 500 < cLine)
   (K : ∀ (h' : Heap) (tk' : Nat) (m' : Str → Option Value) (t0' t1' : Tok), Fr h₀ L h' m' → News h₀ L h' news → m' "sizes" = some (.ref sz) → m' "told" = some (.int ((T0 * memb (S.getD k 0) : Nat) : Int) t0') → m' "due" = some (.int ((D0 * dueF ks ar S k : Nat) : Int) t1') → m' "signs" = some (.ref sg) → m' "names" = some (.ref nl) → m' "around" = some (.ref al) → Q .next { s with heap := h', toks := tk' }) :
   wpAny (model pg w) (ktrTop dp un gd "law" (scopeAt w 138) L a ccd cl outer) (assign (.Name "k" pos) (envOfC "law" (scopeAt w 138) L fa cd) (.int (k : Nat) tk)) (fun _ s₂ => wpAny (model pg w) (ktrTop dp un gd "law" (scopeAt w 138) L a ccd cl outer) (execs (forB (lawB.drop 24)) (envOfC "law" (scopeAt w 138) L fa cd)) Q E s₂) E s := by
  have e2 : scopeAt w 138 = Scope.mk _ _ _ _ _ := rfl
  have e1 : forB (lawB.drop 24) = [_, _, _] := rfl
  have F := Mine.Fr.pin (Mine.Fr.pin (Mine.Fr.pin (Mine.Fr.pin (Mine.Fr.pin (Mine.Fr.pin F (x := "sizes") m0) (x := "told") m1) (x := "signs") m2) (x := "names") m3) (x := "around") m4) (x := "due") m5
  have lsv := IntsAre.length hS
  have lav := IntsAre.length hA
  have lkv := IntsAre.length hK
  rw [List.length_map] at lsv lav lkv
  have k6 : k < 6 := Nat.lt_succ_of_le hk.2
  have k1 : k < ar.length := omLe k6 hA6
  have k2 : k < S.length := omLe k6 hS6
  have k3 : k < ks.length := omLe k6 hK6
  have ec : ar.getD k 0 = ar[k] := by simp [List.getD_eq_getElem?_getD, k1]
  rw [ec] at hAk
  have k5 : ar[k] < ks.length := omLe hAk hK6
  have es : S.getD k 0 = S[k] := by simp [List.getD_eq_getElem?_getD, k2]
  have er : ks.getD k 0 = ks[k] := by simp [List.getD_eq_getElem?_getD, k3]
  have eq : ks.getD ar[k] 0 = ks[ar[k]] := by simp [List.getD_eq_getElem?_getD, k5]
  unfold dueF at K
  rw [ec, es, er, eq] at K
  rw [es] at hSk
  obtain ⟨ta, x1⟩ := intsGet hA k ar[k] (by simp [k1])
  obtain ⟨tb, x2⟩ := intsGet hK ar[k] ks[ar[k]] (by simp [k5])
  obtain ⟨tc, x3⟩ := intsGet hS k S[k] (by simp [k2])
  obtain ⟨td, x4⟩ := intsGet hK k ks[k] (by simp [k3])
  have hk' : 1 ≤ k ∧ k ≤ 6 := ⟨hk.1, Nat.le_of_lt k6⟩
  generalize hc : ar[k] = c at *
  generalize hy : S[k] = y at *
  generalize hz : ks[k] = z at *
  generalize hu : ks[c] = u at *
  have hy100 : y ≤ 100 := Nat.le_trans hSk.2 (by decide)
  obtain ⟨s1, s2⟩ := pow_small y hSk.2
  obtain ⟨s3, s4⟩ := pow_small k hk'.2
  rw [← memb_div y hSk, ← memb_div k hk'] at K
  rw [e1, e2]
  k_steps
  all_goals (try dsimp only)
  · have hlt : u < z := by first | exact Int.ofNat_lt.mp (by assumption) | omega
    rw [if_pos hlt, ← Nat.mul_assoc] at K
    exact K _ _ _ _ _ (by k_asm) (by k_asm) (by exact rfl) (by exact rfl) (by exact rfl) (by exact rfl) (by exact rfl) (by exact rfl)
  · have hlt : ¬ u < z := by first | exact fun h => absurd (Int.ofNat_lt.mpr h) (by assumption) | omega
    rw [if_neg hlt, Nat.mul_one] at K
    exact K _ _ _ _ _ (by k_asm) (by k_asm) (by exact rfl) (by exact rfl) (by exact rfl) (by exact rfl) (by exact rfl) (by exact rfl)

theorem sud2due_3 : True := by
  (k_with "exec For Name Call cons nil" => ((fail_if_success k_extra "e242"); ((k_here; refine Hold.out ?_))))
  (k_with "pyIter ref" => ((fail_if_success k_extra "e243"); ((refine Hold.out ?_))))
  trivial
def prodF (f : Nat → Nat) : Nat → Nat
  | 0 => 1
  | n + 1 => prodF f n * f (n + 1)
theorem dueLoop (w : World) (mg mb : Str → Option Value) (fa : Addr) (cd : Value)
   (p : Program) (loose : List Str) (mean : ExcName → Option Value) (dp un : Nat) (gd : Option (List Code)) (a : Addr) (ccd : Value) (cl : List (Str × Addr)) (outer : List Env) (A₀ : Around) (base h₀ : Heap) (L : Addr) (s : Shared) (Q : Flow → Shared → Prop) (E : Value → Shared → Prop)
   (B : Below A₀ base outer h₀) (X : (hd.heap_39 w.params).In h₀) (T : Top p loose mean mg mb h₀) (HG : CodeHd base 99 95)
   (sz sg nl al rn I : Addr) (o4 : Obj) (sv av kv : List Value) (n na n4 : Nat) (S ar ks : List Nat) (T0 : Nat) (news : List (Addr × Obj)) (pos : Pos)
   (hsz : (sz, listOf sv.toArray n) ∈ news) (hal : (al, listOf av.toArray na) ∈ news) (hrn : (rn, listOf kv.toArray n4) ∈ news) (hc4 : (L + 1 + 1 + 1 + 1, o4) ∈ news) (k4 : o4.data = .cell (some (.ref rn))) (hI : ∀ q ∈ news, q.1 ≠ I)
   (hS : IntsAre sv (S.map fun x : Nat => (x : Int))) (hS6 : S.length = 6) (hA : IntsAre av (ar.map fun x : Nat => (x : Int))) (hA6 : ar.length = 6) (hK : IntsAre kv (ks.map fun x : Nat => (x : Int))) (hK6 : ks.length = 6) (hAb : ∀ k, k < 6 → ar.getD k 0 < 6) (hSb : ∀ k, k < 6 → 1 ≤ S.getD k 0 ∧ S.getD k 0 ≤ 6)
   (hdp : dp + 40 < recursionLimit) (hun : un + 500 < cLine)
   (K : ∀ (h' : Heap) (tk' : Nat) (m' : Str → Option Value) (t0' t1' : Tok), Fr h₀ L h' m' → News h₀ L h' news → m' "told" = some (.int ((T0 * prodF (fun k => memb (S.getD k 0)) 5 : Nat) : Int) t0') → m' "due" = some (.int ((prodF (dueF ks ar S) 5 : Nat) : Int) t1') → m' "signs" = some (.ref sg) → m' "names" = some (.ref nl) → m' "around" = some (.ref al) → Q .next { s with heap := h', toks := tk' }) :
   ∀ (d i : Nat) (t0 t1 : Tok) (m : Str → Option Value), i + d = 5 →
     m "sizes" = some (.ref sz) → m "told" = some (.int ((T0 * prodF (fun k => memb (S.getD k 0)) i : Nat) : Int) t0) → m "due" = some (.int ((prodF (dueF ks ar S) i : Nat) : Int) t1) → m "signs" = some (.ref sg) → m "names" = some (.ref nl) → m "around" = some (.ref al) →
     ItemsRest pg w (ktrTop dp un gd "law" (scopeAt w 138) L a ccd cl outer) E h₀ (envOfC "law" (scopeAt w 138) L fa cd) (.Name "k" pos) (forB (lawB.drop 24)) Q s [(I, "range_iterator")] [] ((List.range' i d).map fun i : Nat => Itm.tok fun t => Value.int (1 + (i : Int)) t) m news := by
  intro d
  induction d with
  | zero =>
    intro i t0 t1 m hi m0 m1 m5 m2 m3 m4
    obtain rfl : i = 5 := by omega
    exact ItemsRest.zero fun h tk F N => K h tk m t0 t1 F N m1 m5 m2 m3 m4
  | succ d ih =>
    intro i t0 t1 m hi m0 m1 m5 m2 m3 m4
    rw [List.range'_succ, List.map_cons]
    refine ItemsRest.tok fun t h tk F oI hoI N => ?_
    have hv : (1 + (i : Int)) = ((i + 1 : Nat) : Int) := by omega
    show wpAny _ _ (assign _ _ (.int (1 + (i : Int)) t)) _ _ _
    rw [hv]
    have F : Fr h₀ L h m := F
    have N : News h₀ L h ((I, oI) :: news) := N
    refine dueTurn w mg mb fa cd p loose mean dp un gd a ccd cl outer A₀ base h₀ L m { s with heap := h, toks := tk } _ E B X T F HG sz sg nl al rn o4 sv av kv n na n4 (i + 1) S ar ks _ _ t0 t1 t ((I, oI) :: news) pos N (List.mem_cons_of_mem _ hsz) (List.mem_cons_of_mem _ hal) (List.mem_cons_of_mem _ hrn) (List.mem_cons_of_mem _ hc4) k4 hS hS6 hA hA6 hK hK6 (by omega) (hAb _ (by omega)) (hSb _ (by omega)) m0 m1 m5 m2 m3 m4 hdp hun ?_
    intro h' tk' m' t0' t1' F' N' q0 q1 q5 q2 q3 q4
    refine ⟨h', tk', m', news, rfl, F', N', fun q hq r hr' => ?_, trivial, ih (i + 1) t0' t1' m' (by omega) q0 ?_ ?_ q2 q3 q4⟩
    · obtain rfl := List.mem_singleton.mp hr'
      exact hI q hq
    · rw [q1]
      show _ = some (Value.int ((T0 * (prodF (fun k => memb (S.getD k 0)) i * memb (S.getD (i + 1) 0)) : Nat) : Int) t0')
      rw [Nat.mul_assoc]
    · rw [q5]
      rfl
theorem seg12 (w : World) (mg mb : Str → Option Value) (fa : Addr) (cd : Value)
   (p : Program) (loose : List Str) (mean : ExcName → Option Value) (dp un : Nat) (gd : Option (List Code)) (a : Addr) (ccd : Value) (cl : List (Str × Addr)) (outer : List Env) (A₀ : Around) (base h₀ : Heap) (L : Addr) (m : Str → Option Value) (s : Shared) (Q : Flow → Shared → Prop) (E : Value → Shared → Prop)
   (B : Below A₀ base outer h₀) (X : (hd.heap_39 w.params).In h₀) (T : Top p loose mean mg mb h₀) (F : Fr h₀ L s.heap m) (HG : CodeHd base 99 95)
   (sz sg nl al rn : Addr) (o4 : Obj) (sv av kv : List Value) (n na n4 : Nat) (S ar ks : List Nat) (T0 : Nat) (t0 : Tok) (news : List (Addr × Obj))
   (N : News h₀ L s.heap news) (hsz : (sz, listOf sv.toArray n) ∈ news) (hal : (al, listOf av.toArray na) ∈ news) (hrn : (rn, listOf kv.toArray n4) ∈ news) (hc4 : (L + 1 + 1 + 1 + 1, o4) ∈ news) (k4 : o4.data = .cell (some (.ref rn)))
   (hS : IntsAre sv (S.map fun x : Nat => (x : Int))) (hS6 : S.length = 6) (hA : IntsAre av (ar.map fun x : Nat => (x : Int))) (hA6 : ar.length = 6) (hK : IntsAre kv (ks.map fun x : Nat => (x : Int))) (hK6 : ks.length = 6) (hAb : ∀ k, k < 6 → ar.getD k 0 < 6) (hSb : ∀ k, k < 6 → 1 ≤ S.getD k 0 ∧ S.getD k 0 ≤ 6)
   (m0 : m "sizes" = some (.ref sz)) (m1 : m "told" = some (.int (T0 : Nat) t0)) (m2 : m "signs" = some (.ref sg)) (m3 : m "names" = some (.ref nl)) (m4 : m "around" = some (.ref al)) (hdp : dp + 40 < recursionLimit) (hun : un + 500 < cLine)
   (hE : PassesOwn (model pg w) (ktrTop dp un gd "law" (scopeAt w 138) L a ccd cl outer) (envOfC "law" (scopeAt w 138) L fa cd) E)
   (K : ∀ (h' : Heap) (tk' : Nat) (m' : Str → Option Value) (t0' t1' : Tok), Fr h₀ L h' m' → News h₀ L h' news → m' "told" = some (.int ((T0 * prodF (fun k => memb (S.getD k 0)) 5 : Nat) : Int) t0') → m' "due" = some (.int ((prodF (dueF ks ar S) 5 : Nat) : Int) t1') → m' "signs" = some (.ref sg) → m' "names" = some (.ref nl) →
      wpAny (model pg w) (ktrTop dp un gd "law" (scopeAt w 138) L a ccd cl outer) (execs (lawB.drop 25) (envOfC "law" (scopeAt w 138) L fa cd)) Q E { s with heap := h', toks := tk' }) :
   wpAny (model pg w) (ktrTop dp un gd "law" (scopeAt w 138) L a ccd cl outer) (execs (lawB.drop 23) (envOfC "law" (scopeAt w 138) L fa cd)) Q E s := by
  have e1 : lawB.drop 23 = _ :: _ :: lawB.drop 25 := rfl
  have e2 : scopeAt w 138 = Scope.mk _ _ _ _ _ := rfl
  have loop := fun (s : Shared) (Q : Flow → Shared → Prop) (pos : Pos) (I : Addr) (hI : ∀ q ∈ news, q.1 ≠ I) => dueLoop w mg mb fa cd p loose mean dp un gd a ccd cl outer A₀ base h₀ L s Q E B X T HG sz sg nl al rn I o4 sv av kv n na n4 S ar ks T0 news pos hsz hal hrn hc4 k4 hI hS hS6 hA hA6 hK hK6 hAb hSb hdp hun
  generalize hR : lawB.drop 25 = R1 at *
  rw [e1]
  rw [e2] at K hE loop ⊢
  have F := Mine.Fr.pin (Mine.Fr.pin (Mine.Fr.pin (Mine.Fr.pin (Mine.Fr.pin F (x := "told") m1) (x := "signs") m2) (x := "names") m3) (x := "around") m4) (x := "sizes") m0
  k_steps
  refine ⟨?_⟩
  refine For_turns (by k_asm) ?_ (fun _ => rfl) hE
  k_steps
  refine ⟨?_⟩
  (with_reducible rename IsRange _ _ _ _ _ _ _ _ => kR)
  refine iter_rangeTurns (n := 5) (by rfl) kR (by decide +kernel) (by decide +kernel) (by k_asm) (news := news) (by k_asm) fun I hI => ?_
  refine' loop _ _ _ I (fun q hq => Nat.ne_of_lt (hI q hq)) ?fK 5 0 t0 _ _ rfl ?f0 ?f1 ?f2 ?f3 ?f4 ?f5
  case fK =>
    intro h' tk' m' t0' t1' F' N' q1 q5 q2 q3 q4
    dsimp only
    exact K h' tk' m' t0' t1' F' N' q1 q5 q2 q3
  case f0 => exact rfl
  case f1 => rw [show T0 * prodF (fun k => memb (S.getD k 0)) 0 = T0 from Nat.mul_one _]; exact rfl
  case f2 => exact rfl
  case f3 => exact rfl
  case f4 => exact rfl
  case f5 => exact rfl

end

section
open PyProof.Rows.LCg
section
variable {prog : Program} {w : World} {A : Around} {E : Value → Shared → Prop} {R : Result → Shared → Prop} {s : Shared}
theorem turn_outer_t (elt t1 i1 t2 i2 ct : Expr) (scope : Scope) (pos : Pos) (it acc : Value) (env : Env) :
    compTurn (.ListComp elt [⟨t1, i1, [], 0⟩, ⟨t2, i2, [ct], 0⟩] scope pos) 0 it acc env = (standAt i1.pos >>= fun _ => pyNext it >>= fun r => match r with
      | none => pure (.done .next)
      | some v => letOwnedTupleGo t1 it v >>= fun _ => assign t1 env v >>= fun _ =>
        (eval i2 env >>= fun x => standAt i2.pos >>= fun _ => foldedSetIterable i2 env x >>= fun x => holding [x] (pyIter x) >>= fun it2 => runOwn (.compStart (.ListComp elt [⟨t1, i1, [], 0⟩, ⟨t2, i2, [ct], 0⟩] scope pos) 1 it2 acc env) env >>= fun _ =>
          again (.compLoop (.ListComp elt [⟨t1, i1, [], 0⟩, ⟨t2, i2, [ct], 0⟩] scope pos) 0 it acc env))) := by rfl
theorem turn_inner_t (elt t1 i1 t2 i2 ct : Expr) (scope : Scope) (pos : Pos) (it acc : Value) (env : Env) :
    compTurn (.ListComp elt [⟨t1, i1, [], 0⟩, ⟨t2, i2, [ct], 0⟩] scope pos) 1 it acc env = (do
      standAt i2.pos
      match ← pyNext it with
      | none => pure (.done .next)
      | some v =>
        letOwnedTupleGo t2 it v
        assign t2 env v
        let mut ok := true
        for c in [ct] do
          if ok then ok ← isTrue c env (eval c env)
        if ok then
          (do let _ ← call (.builtin "list.append") [acc, ← eval elt env])
        again (.compLoop (.ListComp elt [⟨t1, i1, [], 0⟩, ⟨t2, i2, [ct], 0⟩] scope pos) 1 it acc env)) := by rfl
theorem loop_inner_t {elt t1 i1 t2 i2 ct : Expr} {scope : Scope} {pos : Pos} {it acc : Value} {env : Env} (I : Nat → Shared → Prop)
    (turn : ∀ n s, I n s → wpAny (model prog w) A (pyNext it) (fun r s₁ => match r with
      | none => R (.ok .next) s₁
      | some v => wpAny (model prog w) A (assign t2 env v) (fun _ s₂ => wpAny (model prog w) A (isTrue ct env (eval ct env)) (fun ok s₃ => ok = false ∧ ∃ m, m < n ∧ I m s₃)
          (notedBy (model prog w) A env fun e s' => R (.error e) s') s₂) (notedBy (model prog w) A env fun e s' => R (.error e) s') s₁) (notedBy (model prog w) A env fun e s' => R (.error e) s') s)
    (n : Nat) (h : I n s) (ht : ∀ v, letOwnedTupleGo t2 it v = pure ()) :
    codeAny (model prog w) A (.compLoop (.ListComp elt [⟨t1, i1, [], 0⟩, ⟨t2, i2, [ct], 0⟩] scope pos) 1 it acc env) R s := by
  refine codeAny_loop rfl I (fun n s hI => ?_) n h
  show wpAny _ _ ((compTurn (.ListComp elt [⟨t1, i1, [], 0⟩, ⟨t2, i2, [ct], 0⟩] scope pos) 1 it acc env).onRaise (fun x => do noteFrame x env; theTreesLotGoes x)) _ _ s
  refine wpAny_noted ?_
  rw [turn_inner_t]
  refine wpAny_bind (wpAny_standAt (wpAny_bind (wpAny_mono (turn n s hI) (fun r s₁ h₁ => ?_) fun _ _ h' => h')))
  cases r with
  | none => exact wpAny_pure h₁
  | some v =>
    refine wpAny_bind (wpAny_of_eq (ht v) ?_)
    refine wpAny_bind (wpAny_mono h₁ (fun _ s₂ h₂ => wpAny_bind (wpAny_tests_one (wpAny_mono h₂ (fun ok s₃ h₃ => ?_) fun _ _ h' => h'))) fun _ _ h' => h')
    obtain ⟨rfl, h₃⟩ := h₃
    exact wpAny_pure ⟨rfl, h₃⟩
theorem loop_outer_t {elt t1 i1 t2 i2 ct : Expr} {scope : Scope} {pos : Pos} {it acc : Value} {env : Env} (I : Nat → Shared → Prop)
    (turn : ∀ n s, I n s → wpAny (model prog w) A (pyNext it) (fun r s₁ => match r with
      | none => R (.ok .next) s₁
      | some v => wpAny (model prog w) A (assign t1 env v) (fun _ s₂ => wpAny (model prog w) A (eval i2 env) (fun x s₃ => wpAny (model prog w) A (pyIter x) (fun it2 s₄ =>
          codeAny (model prog w) (A.mark none) (.compStart (.ListComp elt [⟨t1, i1, [], 0⟩, ⟨t2, i2, [ct], 0⟩] scope pos) 1 it2 acc env) (fun r s' => match r with | .ok _ => ∃ m, m < n ∧ I m s' | .error e => cameBackBy (model prog w) A env (notedBy (model prog w) A env fun e s' => R (.error e) s') e s') s₄)
          (notedBy (model prog w) A env fun e s' => R (.error e) s') s₃) (notedBy (model prog w) A env fun e s' => R (.error e) s') s₂) (notedBy (model prog w) A env fun e s' => R (.error e) s') s₁) (notedBy (model prog w) A env fun e s' => R (.error e) s') s)
    (n : Nat) (h : I n s) (ht : ∀ v, letOwnedTupleGo t1 it v = pure ()) (hs : ∀ x, foldedSetIterable i2 env x = pure x) :
    codeAny (model prog w) A (.compLoop (.ListComp elt [⟨t1, i1, [], 0⟩, ⟨t2, i2, [ct], 0⟩] scope pos) 0 it acc env) R s := by
  refine codeAny_loop rfl I (fun n s hI => ?_) n h
  show wpAny _ _ ((compTurn (.ListComp elt [⟨t1, i1, [], 0⟩, ⟨t2, i2, [ct], 0⟩] scope pos) 0 it acc env).onRaise (fun x => do noteFrame x env; theTreesLotGoes x)) _ _ s
  refine wpAny_noted ?_
  rw [turn_outer_t]
  refine wpAny_bind (wpAny_standAt (wpAny_bind (wpAny_mono (turn n s hI) (fun r s₁ h₁ => ?_) fun _ _ h' => h')))
  cases r with
  | none => exact wpAny_pure h₁
  | some v =>
    refine wpAny_bind (wpAny_of_eq (ht v) ?_)
    refine wpAny_bind (wpAny_mono h₁ (fun _ s₂ h₂ => wpAny_bind (wpAny_mono h₂ (fun x s₃ h₃ => ?_) fun _ _ h' => h')) fun _ _ h' => h')
    refine wpAny_bind (wpAny_standAt (wpAny_bind (wpAny_of_eq (hs x) (wpAny_bind (wpAny_holding (wpAny_mono h₃ (fun it2 s₄ h₄ => ?_) fun _ _ h' => h'))))))
    refine wpAny_bind (wpAny_runOwn (codeAny_mono h₄ fun r s' q => ?_))
    cases r with
    | ok f => exact wpAny_pure ⟨rfl, q⟩
    | error e => exact q
theorem start_inner_t {elt t1 i1 t2 i2 ct : Expr} {scope : Scope} {pos : Pos} {it acc : Value} {env : Env}
    (h0 : codeAny (model prog w) A (.compLoop (.ListComp elt [⟨t1, i1, [], 0⟩, ⟨t2, i2, [ct], 0⟩] scope pos) 1 it acc env) R s)
    (h : wpAny (model prog w) A (pyIter it) (fun it' s' => codeAny (model prog w) A (.compLoop (.ListComp elt [⟨t1, i1, [], 0⟩, ⟨t2, i2, [ct], 0⟩] scope pos) 1 it' acc env) R s')
      (notedBy (model prog w) A env fun x s' => R (.error x) s') s) :
    codeAny (model prog w) A (.compStart (.ListComp elt [⟨t1, i1, [], 0⟩, ⟨t2, i2, [ct], 0⟩] scope pos) 1 it acc env) R s := by
  refine codeAny_of_tree ?_
  show wpAny _ _ ((compStart (.ListComp elt [⟨t1, i1, [], 0⟩, ⟨t2, i2, [ct], 0⟩] scope pos) 1 it acc env).onRaise (fun x => do noteFrame x env; standAt theWindowsPlace)) _ _ s
  refine wpAny_notedAt ?_
  unfold compStart
  show wpAny _ _ (ask >>= _) _ _ s
  refine wpAny_bind (wpAny_askSetting (wpAny_ite ?_))
  split
  · first
      | exact wpAny_bind (wpAny_pure (wpAny_pure (And.intro rfl h0)))
      | exact wpAny_pure (And.intro rfl h0)
  · refine wpAny_bind (wpAny_rule ?_)
    show wpAny _ _ (standAt i2.pos >>= _) _ _ s
    exact wpAny_bind (wpAny_standAt (wpAny_bind (wpAny_mono h (fun it' s' h' => wpAny_pure (And.intro rfl h')) fun _ _ x => x)))
end
section
variable {prog : Program} {w : World} {A : Around} {E : Value → Shared → Prop} {h₀ : Heap} {L : Addr} {m : Str → Option Value} {env : Env}
/-- the inner clause: its test is always false -/
theorem none_inner {elt iter1 iter2 ct : Expr} {x y : Str} {px py : Pos} {scope : Scope} {cl : List (Str × Addr)} {pos : Pos} {s₂ : Shared} {C D I2 ax2 : Addr} {its2 : Array Value} {RR : Result → Shared → Prop}
    (hh : A.handled = none) (hkind : scope.kind = .function) (hy : scope.names.lookup y = some .local) (hne : ax2 ≠ I2)
    (hLC : C ≠ L) (hL2 : I2 ≠ L) (hC₀ : h₀.get? C = none) (h2₀ : h₀.get? I2 = none) (d5 : I2 ≠ C) (d7 : ax2 ≠ C)
    (htest : ∀ (oC : Obj) (m₂ : Str → Option Value) (v : Value) (h : Heap) (tk : Nat) (E' : Value → Shared → Prop), v ∈ its2 → NsObj oC m₂ → m₂ y = some v → Fr h₀ L h m → News h₀ L h [(C, oC)] → wpAny (model prog w) A (isTrue ct (compEnvC scope cl C env) (eval ct (compEnvC scope cl C env))) (fun ok s' => ok = false ∧ ∃ tk', s' = { s₂ with heap := h, toks := tk' }) E' { s₂ with heap := h, toks := tk })
    (done : ∀ h tk m₂, Fr h₀ L h m → h.Ns C m₂ → (∀ b o, b ≠ I2 → b ≠ C → h₁.get? b = some o → h.get? b = some o) → RR (.ok .next) { s₂ with heap := h, toks := tk })
    {tk : Nat} {m₂ : Str → Option Value}
    (F : Fr h₀ L h₁ m) (hN : h₁.Ns C m₂) (st : h₁.IsListIter I2 ax2 0 ∧ h₁.IsList ax2 its2) :
    codeAny (model prog w) A (.compStart (.ListComp elt [⟨.Name x px, iter1, [], 0⟩, ⟨.Name y py, iter2, [ct], 0⟩] scope pos) 1 (.ref I2) (.ref D) (compEnvC scope cl C env)) RR { s₂ with heap := h₁, toks := tk } := by
  have W := Walks.list (prog := prog) (w := w) hh I2 ax2 hne its2
  have loop : codeAny (model prog w) A (.compLoop (.ListComp elt [⟨.Name x px, iter1, [], 0⟩, ⟨.Name y py, iter2, [ct], 0⟩] scope pos) 1 (.ref I2) (.ref D) (compEnvC scope cl C env)) RR { s₂ with heap := h₁, toks := tk } := by
    refine loop_inner_t (fun k s' => ∃ h' tk' j m₂, s' = { s₂ with heap := h', toks := tk' } ∧ j ≤ its2.size ∧ k = its2.size + 1 - j ∧ (h'.IsListIter I2 ax2 j ∧ h'.IsList ax2 its2) ∧ Fr h₀ L h' m ∧ h'.Ns C m₂ ∧ (∀ b o, b ≠ I2 → b ≠ C → h₁.get? b = some o → h'.get? b = some o)) ?_ (its2.size + 1) ⟨h₁, tk, 0, m₂, rfl, Nat.zero_le _, rfl, st, F, hN, fun _ _ _ _ e => e⟩ (fun _ => rfl)
    rintro k s' ⟨h', tk', j, m₂, rfl, hj, rfl, st', F', hN', keep⟩
    by_cases hlt : j < its2.size
    · refine W.item j _ _ _ hlt st' fun vv h₂ tk₂ hPv st₂ hk₂ => ?_
      have hPv : its2[j]? = some vv := hPv
      have F₂ := fr_but F' hk₂ (Ne.symm hL2) h2₀
      refine wpAny_assign_Name (wpAny_storeName_local (lookup_relabel_local hy) (hN'.at' fun o e => hk₂ _ o (by simpa using Ne.symm d5) e) (fun h₃ hn₃ hs₃ => ?_) (by simp [compEnvC, relabel, hkind]))
      obtain ⟨oC, heC, hoC⟩ := ns_obj hn₃
      have F₃ := F₂.change hs₃ hLC hC₀
      have st₃ : h₃.IsListIter I2 ax2 (j + 1) ∧ h₃.IsList ax2 its2 := W.frame _ _ _ st₂ fun b hb o e => hs₃.extBut b o (fun q => by
        rcases List.mem_cons.mp hb with hb | hb
        · exact d5 (by rw [← hb]; exact q)
        · exact d7 (by rw [← List.mem_singleton.mp hb]; exact q)) e
      refine wpAny_mono (htest oC _ vv h₃ _ _ (Array.mem_of_getElem? hPv) hoC (by simp) F₃ (fun p hp => by rw [List.mem_singleton.mp hp]; exact ⟨heC, hLC, hC₀⟩)) (fun ok s₄ q₄ => ?_) fun _ _ e => e
      obtain ⟨rfl, tk₄, rfl⟩ := q₄
      exact ⟨rfl, its2.size + 1 - (j + 1), omM hlt, h₃, tk₄, j + 1, _, rfl, hlt, rfl, st₃, F₃, hn₃, fun b o b1 b2 e => hs₃.extBut b o b2 (hk₂ b o (by simpa using b1) (keep b o b1 b2 e))⟩
    · obtain rfl : j = its2.size := Nat.le_antisymm hj (Nat.not_lt.mp hlt)
      refine W.done _ _ _ st' fun h₂ tk₂ hk₂ => ?_
      exact done h₂ tk₂ m₂ (fr_but F' hk₂ (Ne.symm hL2) h2₀) (hN'.at' fun o e => hk₂ _ o (by simpa using Ne.symm d5) e) fun b o b1 b2 e => hk₂ b o (by simpa using b1) (keep b o b1 b2 e)
  exact start_inner_t loop (W.self 0 _ _ _ st loop)
end
section
variable {prog : Program} {w : World} {A : Around} {E : Value → Shared → Prop} {s : Shared} {h₀ : Heap} {L : Addr} {m : Str → Option Value} {env : Env}
theorem none_block {elt iter1 iter2 ct : Expr} {x y : Str} {px py : Pos} {scope : Scope} {cl : List (Str × Addr)} {pos : Pos} {s₂ : Shared} {I ax : Addr} {its : List Value} {news : List (Addr × Obj)}
    {RR : Value → Addr → Result → Shared → Prop}
    (hh : A.handled = none) (hh2 : (A.mark none).handled = none) (hne : ax ≠ I) (hst : s₂.heap.IsListIter I ax 0 ∧ s₂.heap.IsList ax its.toArray)
    (hcell : ∀ y ∈ scope.names, y.2 ≠ .cell) (hkind : scope.kind = .function) (hx : scope.names.lookup x = some .local) (hy : scope.names.lookup y = some .local)
    (F : Fr h₀ L s₂.heap m) (N : News h₀ L s₂.heap news) (hIL : L ≠ I) (hI₀ : h₀.get? I = none) (off : ∀ p ∈ news, p.1 ≠ I) (hs2 : ∀ C x, foldedSetIterable iter2 (compEnvC scope cl C env) x = pure x)
    (hrows : ∀ v ∈ its, ∃ (a : Addr) (vs : List Value) (k : Nat), v = .ref a ∧ (a, listOf vs.toArray k) ∈ news ∧ ∀ u ∈ vs, ∃ z t, u = Value.int z t)
    (hiter : ∀ (C : Addr) (oC : Obj) (m₂ : Str → Option Value) (v : Value) (h : Heap) (tk : Nat) (E' : Value → Shared → Prop) (P : Value → Shared → Prop), v ∈ its → NsObj oC m₂ → m₂ x = some v → Fr h₀ L h m → News h₀ L h [(C, oC)] → P v { s₂ with heap := h, toks := tk } → wpAny (model prog w) A (eval iter2 (compEnvC scope cl C env)) P E' { s₂ with heap := h, toks := tk })
    (htest : ∀ (C : Addr) (oC : Obj) (m₂ : Str → Option Value) (z : Int) (t : Tok) (h : Heap) (tk : Nat) (E' : Value → Shared → Prop), NsObj oC m₂ → m₂ y = some (.int z t) → Fr h₀ L h m → News h₀ L h [(C, oC)] → wpAny (model prog w) (A.mark none) (isTrue ct (compEnvC scope cl C env) (eval ct (compEnvC scope cl C env))) (fun ok s' => ok = false ∧ ∃ tk', s' = { s₂ with heap := h, toks := tk' }) E' { s₂ with heap := h, toks := tk })
    (hsz : its.length ≤ sizeLine)
    (hRR : ∀ D C h tk m', Fr h₀ L h m → News h₀ L h ((D, lst []) :: news) → (∀ p ∈ news, p.1 ≠ D) → h.Ns C m' → h₀.get? C = none → h₀.get? D = none → C ≠ L → D ≠ L → C ≠ D → (∀ p ∈ news, p.1 ≠ C) → RR (.ref D) C (.ok .next) { s₂ with heap := h, toks := tk }) :
    wpAny (model prog w) A (newList []) (fun acc s₃ => wpAny (model prog w) A (newFunctionEnv scope env.globals cl [] env.qual none .none (some env)) (fun cenv s₄ =>
      codeAny (model prog w) A (.compStart (.ListComp elt [⟨.Name x px, iter1, [], 0⟩, ⟨.Name y py, iter2, [ct], 0⟩] scope pos) 0 (.ref I) acc { cenv with scope := relabel scope env }) (RR acc cenv.locals) s₄) E s₃) E s₂ := by
  have W := Walks.list (prog := prog) (w := w) hh I ax hne its.toArray
  refine wpAny_newObj_type (wpAny_newFunctionEnv hcell (by intro y hy; simp at hy) (fun h₁ hns₁ hsb₁ => ?_) hkind)
  dsimp only at hns₁ hsb₁ ⊢
  generalize hH2 : s₂.heap.push { cls := .type "list", dict := none, data := .seq ([] : List Value).toArray } = H2 at hns₁ hsb₁ ⊢
  have hC : H2.objs.size = s₂.heap.objs.size + 1 := by rw [← hH2, Heap.size_push]
  have hDC : s₂.heap.objs.size ≠ H2.objs.size := by rw [hC]; exact Nat.ne_of_lt (Nat.lt_succ_self _)
  have below : ∀ b, b < s₂.heap.objs.size → b ≠ H2.objs.size ∧ b ≠ s₂.heap.objs.size := fun b hb => ⟨by rw [hC]; exact Nat.ne_of_lt (Nat.lt_succ_of_lt hb), Nat.ne_of_lt hb⟩
  have hIlt : I < s₂.heap.objs.size := by obtain ⟨o, e, _⟩ := hst.1; exact Heap.lt_size e
  have haxlt : ax < s₂.heap.objs.size := by obtain ⟨o, e, _⟩ := hst.2; exact Heap.lt_size e
  have hfp : ∀ b ∈ [I, ax], b ≠ H2.objs.size ∧ b ≠ s₂.heap.objs.size := fun b hb => by
    rcases List.mem_cons.mp hb with rfl | hb
    · exact below _ hIlt
    · rw [List.mem_singleton.mp hb]; exact below _ haxlt
  have old : ∀ b o, s₂.heap.get? b = some o → h₁.get? b = some o := fun b o e => hsb₁.extBut b o (below b (Heap.lt_size e)).1 (Heap.get?_push_of_some _ (hH2 ▸ Heap.get?_push_of_some _ e))
  have hacc : h₁.get? s₂.heap.objs.size = some (lst []) := hsb₁.extBut _ _ hDC (Heap.get?_push_of_some _ (hH2 ▸ Heap.get?_push_size _ rfl))
  have hst₁ : h₁.IsListIter I ax 0 ∧ h₁.IsList ax its.toArray := W.frame _ _ _ hst fun b _ o e => old b o e
  have fresh : ∀ a, s₂.heap.objs.size ≤ a → s₂.heap.get? a = none := fun a ha => by
    cases e : s₂.heap.get? a with
    | none => rfl
    | some o' => exact absurd (Heap.lt_size e) (Nat.not_lt.mpr ha)
  have fresh₀ : ∀ a, s₂.heap.objs.size ≤ a → h₀.get? a = none := fun a ha => by
    cases e : h₀.get? a with
    | none => rfl
    | some o' => have := F.keep a o' e; rw [fresh a ha] at this; cases this
  have hD₀ : h₀.get? s₂.heap.objs.size = none := fresh₀ _ (Nat.le_refl _)
  have hC₀ : h₀.get? H2.objs.size = none := fresh₀ _ (by rw [hC]; exact Nat.le_succ _)
  have hLlt : L < s₂.heap.objs.size := F.ns.lt
  have hDL : s₂.heap.objs.size ≠ L := Ne.symm (below L hLlt).2
  have hCL : H2.objs.size ≠ L := Ne.symm (below L hLlt).1
  have hCI : I ≠ H2.objs.size := (below I hIlt).1
  have hDI : I ≠ s₂.heap.objs.size := (below I hIlt).2
  have nlt : ∀ p ∈ news, p.1 < s₂.heap.objs.size := fun p hp => Heap.lt_size (N p hp).1
  have loop : ∀ s₃ : Shared, s₃ = { s₂ with heap := h₁, toks := s₂.toks + ([] : List (Str × Value)).length } →
      codeAny (model prog w) A (.compLoop (.ListComp elt [⟨.Name x px, iter1, [], 0⟩, ⟨.Name y py, iter2, [ct], 0⟩] scope pos) 0 (.ref I) (.ref s₂.heap.objs.size) (compEnvC scope cl H2.objs.size env))
        (RR (.ref s₂.heap.objs.size) H2.objs.size) s₃ := by
    rintro s₃ rfl
    refine loop_outer_t
      (fun k s' => ∃ h' tk i m', s' = { s₂ with heap := h', toks := tk } ∧ i ≤ its.toArray.size ∧ k = its.toArray.size + 1 - i ∧ (h'.IsListIter I ax i ∧ h'.IsList ax its.toArray) ∧ Fr h₀ L h' m ∧ h'.Ns H2.objs.size m' ∧ News h₀ L h' ((s₂.heap.objs.size, lst []) :: news)) ?_ (its.toArray.size + 1)
      ⟨h₁, _, 0, _, rfl, Nat.zero_le _, rfl, hst₁, F.keeps old, hns₁, fun p hp => ?_⟩ (fun _ => rfl) (hs2 _)
    · rintro k s' ⟨h', tk, i, m', rfl, hi, rfl, hst', F', hn', N'⟩
      by_cases hlt : i < its.toArray.size
      · refine W.item i _ _ _ hlt hst' fun v h₂ tk₂ hPv hst₂ hk₂ => ?_
        have hPv : its.toArray[i]? = some v := hPv
        have hv : v ∈ its := by simpa using Array.mem_of_getElem? hPv
        refine wpAny_assign_Name (wpAny_storeName_local (lookup_relabel_local hx) (hn'.at' fun o e => hk₂ _ o (by simpa using Ne.symm hCI) e) (fun h₃ hn₃ hs₃ => ?_) (by simp [compEnvC, relabel, hkind]))
        have hst₃ : h₃.IsListIter I ax (i + 1) ∧ h₃.IsList ax its.toArray := W.frame _ _ _ hst₂ fun b hb o e => hs₃.extBut b o (fun q => (hfp b (by simpa [or_comm] using hb)).1 q) e
        obtain ⟨oI, heI, rI⟩ := hst₃.1
        obtain ⟨oC, heC, hoC⟩ := ns_obj hn₃
        have F₃ : Fr h₀ L h₃ m := (fr_but F' hk₂ hIL hI₀).change hs₃ hCL hC₀
        have N₂ : News h₀ L h₂ ((s₂.heap.objs.size, lst []) :: news) := news_but N' hk₂ fun p hp => by
          rcases List.mem_cons.mp hp with rfl | hp
          · exact Ne.symm hDI
          · exact off p hp
        have N₃ : News h₀ L h₃ ((s₂.heap.objs.size, lst []) :: news) := fun p hp => by
          have z := N₂ p hp
          refine ⟨hs₃.extBut _ _ ?_ z.1, z.2⟩
          rcases List.mem_cons.mp hp with rfl | hp
          · exact hDC
          · exact (below _ (nlt p hp)).1
        obtain ⟨a, vs, k', rfl, hrow, hints⟩ := hrows v hv
        refine hiter _ oC _ _ h₃ _ _ _ hv hoC (by simp) F₃ (fun p hp => by rw [List.mem_singleton.mp hp]; exact ⟨heC, hCL, hC₀⟩) ?_
        have hl₃ : h₃.IsList a vs.toArray := News.isList N₃ (List.mem_cons_of_mem _ hrow)
        refine wpAny_pyIter_list hl₃ ?_
        have up : ∀ b o, h₃.get? b = some o → (h₃.push { cls := .type "list_iterator", data := .fields #[.ref a, .int 0 0] }).get? b = some o := fun b o e => Heap.get?_push_of_some _ e
        have I2n : ∀ b, b < h₃.objs.size → h₃.objs.size ≠ b := fun b hb => Nat.ne_of_gt hb
        refine none_inner (s₂ := s₂) (C := H2.objs.size) (D := s₂.heap.objs.size) (I2 := h₃.objs.size) (ax2 := a) (its2 := vs.toArray) hh2 hkind hy (Ne.symm (I2n _ (Heap.lt_size (N₃ _ (List.mem_cons_of_mem _ hrow)).1))) hCL (I2n _ F₃.ns.lt) hC₀ ?_ (I2n _ (Heap.lt_size heC)) (below _ (nlt _ hrow)).1
          (fun oC m₂ v h tk E' hv a1 a2 a3 a4 => ?_) (fun h tk m₂ F₄ hN₄ keep => ?_) (F₃.push _) (hn₃.at' fun o e => up _ _ e) ⟨⟨_, Heap.get?_push_size _ rfl, rfl, rfl⟩, hl₃.push _⟩
        · cases e : h₀.get? h₃.objs.size with
          | none => rfl
          | some o' => exact absurd (Heap.lt_size (F₃.keep _ _ e)) (Nat.lt_irrefl _)
        · obtain ⟨z, t, rfl⟩ := hints v (by simpa using hv)
          exact htest _ oC m₂ z t h tk E' a1 a2 a3 a4
        · have keep2 : ∀ b o, b ≠ H2.objs.size → h₃.get? b = some o → h.get? b = some o := fun b o b1 e => keep b o (fun q => I2n _ (Heap.lt_size e) q.symm) b1 (up b o e)
          refine ⟨its.toArray.size + 1 - (i + 1), omM hlt, h, tk, i + 1, m₂, rfl, hlt, rfl, ⟨⟨oI, keep2 _ _ hCI heI, rI⟩, ?_⟩, F₄, hN₄, fun p hp => ⟨keep2 _ _ ?_ (N₃ p hp).1, (N₃ p hp).2⟩⟩
          · obtain ⟨o, e, r⟩ := hst₃.2
            exact ⟨o, keep2 _ _ (below _ haxlt).1 e, r⟩
          · rcases List.mem_cons.mp hp with rfl | hp
            · exact hDC
            · exact (below _ (nlt p hp)).1
      · obtain rfl : i = its.toArray.size := Nat.le_antisymm hi (Nat.not_lt.mp hlt)
        refine W.done _ _ _ hst' fun h₂ tk₂ hk₂ => ?_
        exact hRR _ _ h₂ tk₂ _ (fr_but F' hk₂ hIL hI₀) (news_but N' hk₂ fun p hp => by
          rcases List.mem_cons.mp hp with rfl | hp
          · exact Ne.symm hDI
          · exact off p hp) (fun p hp => (below _ (nlt p hp)).2) (hn'.at' fun o e => hk₂ _ o (by simpa using Ne.symm hCI) e) hC₀ hD₀ hCL hDL (Ne.symm hDC) (fun p hp => (below _ (nlt p hp)).1)
    · rcases List.mem_cons.mp hp with rfl | hp
      · exact ⟨hacc, hDL, hD₀⟩
      · exact ⟨old _ _ (N p hp).1, (N p hp).2⟩
  exact codeAny_compStart_list (loop _ rfl) (W.self 0 _ _ _ hst₁ (loop _ rfl))
theorem ListComp_none {elt iter1 iter2 ct : Expr} {x y : Str} {px py : Pos} {scope : Scope} {cl : List (Str × Addr)} {pos : Pos} {ax : Addr} {its : List Value} {n : Nat} {news : List (Addr × Obj)} {Q : Value → Shared → Prop}
    (hh : A.handled = none) (hh2 : (A.mark none).handled = none) (F : Fr h₀ L s.heap m) (N : News h₀ L s.heap news) (hm : (ax, listOf its.toArray n) ∈ news)
    (hclos : closureFor scope env = pure cl) (hcell : ∀ y ∈ scope.names, y.2 ≠ .cell) (hkind : scope.kind = .function) (hnames : ∀ y ∈ scope.names, y.2 = .local → scope.names.lookup y.1 = some .local) (hx : scope.names.lookup x = some .local) (hy : scope.names.lookup y = some .local)
    (hit : ∀ P : Value → Shared → Prop, P (.ref ax) s → wpAny (model prog w) A (eval iter1 env) P E s)
    (hs1 : ∀ x, foldedSetIterable iter1 env x = pure x) (hs2 : ∀ C x, foldedSetIterable iter2 (compEnvC scope cl C env) x = pure x)
    (hrows : ∀ v ∈ its, ∃ (a : Addr) (vs : List Value) (k : Nat), v = .ref a ∧ (a, listOf vs.toArray k) ∈ news ∧ ∀ u ∈ vs, ∃ z t, u = Value.int z t)
    (hiter : ∀ (s₂ : Shared) (C : Addr) (oC : Obj) (m₂ : Str → Option Value) (v : Value) (E' : Value → Shared → Prop) (P : Value → Shared → Prop), v ∈ its → NsObj oC m₂ → m₂ x = some v → Fr h₀ L s₂.heap m → News h₀ L s₂.heap [(C, oC)] → P v s₂ → wpAny (model prog w) A (eval iter2 (compEnvC scope cl C env)) P E' s₂)
    (htest : ∀ (s₂ : Shared) (C : Addr) (oC : Obj) (m₂ : Str → Option Value) (z : Int) (t : Tok) (E' : Value → Shared → Prop), NsObj oC m₂ → m₂ y = some (.int z t) → Fr h₀ L s₂.heap m → News h₀ L s₂.heap [(C, oC)] → wpAny (model prog w) (A.mark none) (isTrue ct (compEnvC scope cl C env) (eval ct (compEnvC scope cl C env))) (fun ok s' => ok = false ∧ ∃ tk', s' = { s₂ with toks := tk' }) E' s₂)
    (hsz : its.length ≤ sizeLine)
    (K : ∀ D h tk, Fr h₀ L h m → News h₀ L h ((D, lst []) :: news) → (∀ p ∈ news, p.1 ≠ D) → Q (.ref D) { s with heap := h, toks := tk }) :
    wpAny (model prog w) A (eval (.ListComp elt [⟨.Name x px, iter1, [], 0⟩, ⟨.Name y py, iter2, [ct], 0⟩] scope pos) env) Q E s := by
  rw [eval_ListComp]
  refine wpAny_comprehension_free (use := none) rfl hs1 hclos hkind hnames (hit _ ?_)
  have hl : s.heap.IsList ax its.toArray := News.isList N hm
  have hlt : ax < s.heap.objs.size := by obtain ⟨_, e, _⟩ := hl; exact Heap.lt_size e
  refine wpAny_pyIter_list hl ?_
  have up : ∀ b o, s.heap.get? b = some o → (s.heap.push { cls := .type "list_iterator", data := .fields #[.ref ax, .int 0 0] }).get? b = some o := fun b o e => Heap.get?_push_of_some _ e
  refine none_block hh hh2 (Nat.ne_of_lt hlt) ⟨⟨_, Heap.get?_push_size _ rfl, rfl, rfl⟩, hl.push _⟩ hcell hkind hx hy (F.keeps up) (N.grown up) (Nat.ne_of_lt F.ns.lt) (next_is_new F) (fun p hp => Nat.ne_of_lt (Heap.lt_size (N p hp).1)) hs2 hrows
    (fun C oC m₂ v h tk E' P a b c d e f => hiter { s with heap := h, toks := tk } C oC m₂ v E' P a b c d e f) (fun C oC m₂ z t h tk E' a b c d => htest { s with heap := h, toks := tk } C oC m₂ z t E' a b c d) hsz ?_
  intro D C h tk m' F' N' o1 hn hC₀ hD₀ hCL hDL hCD offC
  refine ⟨m', hn, fun h'' hs'' => K D h'' tk (F'.change hs'' hCL hC₀) (fun p hp => ?_) o1⟩
  refine ⟨hs''.extBut _ _ ?_ (N' p hp).1, (N' p hp).2⟩
  rcases List.mem_cons.mp hp with rfl | hp
  · exact Ne.symm hCD
  · exact offC p hp
end

end

section
open PyProof.Rows.LCg
theorem sud4seg_1 : True := by
  w_top off
  (k_with "e240" => skip)
  (k_with "e237" => skip)
  (k_with "e238" => skip)
  (k_with "e239" => skip)
  (k_with "e243" => skip)
  (k_with "e242" => skip)
  (k_with "e241" => skip)
  (k_with "eval ListComp" => ((fail_if_success k_extra "e244"); ((k_here; refine Hold.out ?_))))
  (k_with "compareOp NotEq ref ref" => ((fail_if_success k_extra "e245"); ((k_here; refine Hold.out ?_))))
  trivial
def nzC : Expr := exI (exI (stX lawB 25) 1) 0
def nzP : Expr × Expr × Scope := ((exG nzC 1).ifs.headD default, (exG nzC 1).iter, (exC nzC).2.2)
def nzSc : Scope := nzP.2.2
theorem nzTest (w : World) (mg mb : Str → Option Value) (fa : Addr) (cd : Value) (p : Program) (loose : List Str) (mean : ExcName → Option Value) (A : Around) (h₀ : Heap) (L : Addr) (m : Str → Option Value) (s : Shared) (Q : Bool → Shared → Prop) (E : Value → Shared → Prop)
   (X : (hd.heap_39 w.params).In h₀) (T : Top p loose mean mg mb h₀) (F : Fr h₀ L s.heap m) (C : Addr) (oC : Obj) (m₂ : Str → Option Value) (z : Int) (t : Tok) (cl2 : List (Str × Addr))
   (N : News h₀ L s.heap [(C, oC)]) (hC : NsObj oC m₂) (e1 : m₂ "one" = some (.int z t)) (hA : A.handled = none)
   (K : ∀ tk', Q false { s with toks := tk' }) :
   wpAny (model pg w) A (isTrue nzP.1 (compEnvC nzSc cl2 C (envOfC "law" (scopeAt w 138) L fa cd)) (eval nzP.1 (compEnvC nzSc cl2 C (envOfC "law" (scopeAt w 138) L fa cd)))) Q E s := by
  have q1 : nzSc = Scope.mk _ _ _ _ _ := rfl
  have q2 : scopeAt w 138 = Scope.mk _ _ _ _ _ := rfl
  have q3 : nzP.1 = Expr.BoolOp _ _ _ := rfl
  rw [q1, q2, q3]
  k_steps
  exact K _
theorem nzIter (w : World) (mg mb : Str → Option Value) (fa : Addr) (cd : Value) (p : Program) (loose : List Str) (mean : ExcName → Option Value) (A : Around) (h₀ : Heap) (L : Addr) (m : Str → Option Value) (s : Shared) (Q : Value → Shared → Prop) (E : Value → Shared → Prop)
   (X : (hd.heap_39 w.params).In h₀) (T : Top p loose mean mg mb h₀) (F : Fr h₀ L s.heap m) (C : Addr) (oC : Obj) (m₂ : Str → Option Value) (v : Value) (cl2 : List (Str × Addr))
   (N : News h₀ L s.heap [(C, oC)]) (hC : NsObj oC m₂) (e1 : m₂ "line" = some v)
   (K : Q v s) :
   wpAny (model pg w) A (eval nzP.2.1 (compEnvC nzSc cl2 C (envOfC "law" (scopeAt w 138) L fa cd))) Q E s := by
  have q1 : nzSc = Scope.mk _ _ _ _ _ := rfl
  have q2 : scopeAt w 138 = Scope.mk _ _ _ _ _ := rfl
  have q3 : nzP.2.1 = Expr.Name _ _ := rfl
  rw [q1, q2, q3]
  k_steps
  exact K
theorem sud4seg_2 : True := by
  (k_with "call builtin:list.append" => ((fail_if_success k_extra "e246"); ((k_here; (with_reducible show wpAny _ _ (call (Value.builtin _) [Value.ref _, _]) _ _ _); k_dflt (refine' append_K ?k1z168 ?k2z168 ?k3z168 ?_ ?zz168; (case k1z168 => k_asm); (case k2z168 => k_asm); (case k3z168 => k_upd); (case zz168 => assumption); k_whole); intro h' F' N'; (try k_sweep)))))
  trivial
theorem spell_cx (w : World) (mg mb : Str → Option Value) (k c : Nat) (x : Str) (t u : Tok) (hk : k < 5) (hx : x = ⟨#[c]⟩) :
   HC w mg mb (.ref 93) [.str x t, .int (k : Nat) u] [] 2 30 [] (fun h => CodeHd h 99 95) (fun _ v news' => ∃ t', v = .str (spell k c) t' ∧ news' = []) := by
  subst hx
  exact spell_c w mg mb k c t u hk
theorem sud4seg_3 : True := by
  (k_with "call ref" => ((fail_if_success k_extra "e247"); ((k_here; (with_reducible show wpAny _ _ (call (Value.ref 79) [Value.str _ _, Value.str _ _]) _ _ _); k_dflt (refine' HC.use (coll_c _ _ _ _ _ _ _) ?Bz169 ?Fz169 ?Xz169 ?Nz169 ?Tz169 ?skz169 ?Gz169 ?dz169 ?uz169 (List.forall_mem_nil _) (fun q hq => hq) (fun q hq h => nomatch h) ?_; (case Bz169 => k_asm); (case Fz169 => k_asm); (case Xz169 => k_asm); (case Nz169 => k_asm); (case Tz169 => k_asm); (case skz169 => exact rfl); (case Gz169 => assumption); (case dz169 => omega); (case uz169 => omega); intro v' news' h' tk' F' N' P'; obtain ⟨t', e1', e2'⟩ := P'; subst e1' e2'; simp only [List.nil_append] at N')))))
  (k_with "call ref" => ((fail_if_success k_extra "e248"); ((k_here; (with_reducible show wpAny _ _ (call (Value.ref 93) [Value.str _ _, Value.int _ _]) _ _ _); k_dflt (refine' HC.use (spell_cx _ _ _ _ _ _ _ _ ?hkz170 ?hxz170) ?Bz170 ?Fz170 ?Xz170 ?Nz170 ?Tz170 ?skz170 ?Gz170 ?dz170 ?uz170 (List.forall_mem_nil _) (fun q hq => hq) (fun q hq h => nomatch h) ?_; (case hkz170 => assumption); (case hxz170 => assumption); (case Bz170 => k_asm); (case Fz170 => k_asm); (case Xz170 => k_asm); (case Nz170 => k_asm); (case Tz170 => k_asm); (case skz170 => exact rfl); (case Gz170 => assumption); (case dz170 => omega); (case uz170 => omega); intro v' news' h' tk' F' N' P'; obtain ⟨t', e1', e2'⟩ := P'; subst e1' e2'; simp only [List.nil_append] at N')))))
  (k_with "subscriptTail Name Constant ref int" => ((fail_if_success k_extra "e249"); ((k_here; k_dflt (first
  | (refine' subAtE (k := 0) ?Nz171 ?mz171 ?jz171 ?xz171 ?zz171 ?_; (case jz171 => exact rfl); (case Nz171 => k_asm); (case mz171 => k_mem); (case xz171 => exact rfl); (case zz171 => exact Nat.le_of_ble_eq_true rfl); k_whole)
  | (refine' subAtE (k := 1) ?Nz171 ?mz171 ?jz171 ?xz171 ?zz171 ?_; (case jz171 => exact rfl); (case Nz171 => k_asm); (case mz171 => k_mem); (case xz171 => exact rfl); (case zz171 => exact Nat.le_of_ble_eq_true rfl); k_whole))))))
  (k_with "binaryOp Add str str" => ((fail_if_success k_extra "e250"); ((k_here; k_dflt (refine' addS ?nhz172 ?niz172 ?_; (case nhz172 => assumption); (case niz172 => assumption)); intro t' tk'))))
  trivial
theorem RowsAre.ints {rs : List Str} {os xs} (h : RowsAre rs os xs) : ∀ o ∈ os, ∀ u ∈ o.vals, ∃ z t, u = Value.int z t := by
  induction h with
  | nil => exact fun o ho => nomatch ho
  | cons a _ ih =>
    intro o ho
    rcases List.mem_cons.mp ho with rfl | ho
    · intro u hu
      have : ∀ {vs : List Value} {ns : List Int}, IntsAre vs ns → ∀ u ∈ vs, ∃ z t, u = Value.int z t := by
        intro vs ns h
        induction h with
        | nil => exact fun u hu => nomatch hu
        | cons n t _ ih => exact fun u hu => (List.mem_cons.mp hu).elim (fun e => ⟨n, t, e⟩) (ih u)
      exact this a u hu
    · exact ih o ho
theorem lstEmpty {h₀ h : Heap} {L D : Addr} {r : List (Addr × Obj)} (N : News h₀ L h ((D, lst []) :: r)) : h.IsList D ([] : List Value).toArray := News.isList N (List.mem_cons_self ..)
theorem nzComp (w : World) (mg mb : Str → Option Value) (fa : Addr) (cd : Value)
   (p : Program) (loose : List Str) (mean : ExcName → Option Value) (dp un : Nat) (gd : Option (List Code)) (a : Addr) (ccd : Value) (cl : List (Str × Addr)) (outer : List Env) (A₀ : Around) (base h₀ : Heap) (L : Addr) (m : Str → Option Value) (s : Shared) (Q : Value → Shared → Prop) (E : Value → Shared → Prop)
   (B : Below A₀ base outer h₀) (X : (hd.heap_39 w.params).In h₀) (T : Top p loose mean mg mb h₀) (F : Fr h₀ L s.heap m)
   (o5 : Obj) (tb : Addr) (rs : List Str) (ts : List Ord) (rest : List (Addr × Obj))
   (N : News h₀ L s.heap ((tb, lst (refsOf ts)) :: (L + 1 + 1 + 1 + 1 + 1, o5) :: rest)) (hts : ∀ q ∈ ts.map Ord.led, q ∈ rest) (R : RowsAre rs ts rs) (hrs : rs.length = 6) (k5 : o5.data = .cell (some (.ref tb)))
   (K : ∀ D h tk, Fr h₀ L h m → News h₀ L h ((D, lst []) :: (tb, lst (refsOf ts)) :: (L + 1 + 1 + 1 + 1 + 1, o5) :: rest) → (∀ p ∈ (tb, lst (refsOf ts)) :: (L + 1 + 1 + 1 + 1 + 1, o5) :: rest, p.1 ≠ D) → Q (.ref D) { s with heap := h, toks := tk }) :
   wpAny (model pg w) (ktrTop dp un gd "law" (scopeAt w 138) L a ccd cl outer) (eval nzC (envOfC "law" (scopeAt w 138) L fa cd)) Q E s := by
  have q5 : nzC = Expr.ListComp _ [⟨.Name "line" _, .Name "table" _, [], 0⟩, ⟨.Name "one" _, nzP.2.1, [nzP.1], 0⟩] nzSc _ := rfl
  rw [q5]
  refine ListComp_none (x := "line") (y := "one") (cl := []) (its := refsOf ts) (ax := tb) (n := (refsOf ts).length) rfl rfl F N (List.mem_cons_self ..) rfl (by decide) rfl (by decide +kernel) rfl rfl ?hit (fun _ => rfl) (fun _ _ => rfl) (fun v hv => ?hr)
      (fun s₂ C oC m₂ v E' P _ hC e1 F' N' k => nzIter w mg mb fa cd p loose mean _ h₀ L m s₂ P E' X T F' C oC m₂ v [] N' hC e1 k)
      (fun s₂ C oC m₂ z t E' hC e1 F' N' => nzTest w mg mb fa cd p loose mean _ h₀ L m s₂ _ E' X T F' C oC m₂ z t [] N' hC e1 rfl fun tk' => ⟨rfl, tk', rfl⟩) ?hz K
  case hr =>
    obtain ⟨o, ho, rfl⟩ := List.mem_map.mp hv
    exact ⟨o.ad, o.vals, o.n, rfl, List.mem_cons_of_mem _ (List.mem_cons_of_mem _ (hts _ (List.mem_map_of_mem ho))), R.ints o ho⟩
  case hz =>
    rw [sizeLine_eq]
    have := R.length
    unfold refsOf
    rw [List.length_map]
    omega
  case hit =>
    intro P hP
    have e2 : scopeAt w 138 = Scope.mk _ _ _ _ _ := rfl
    rw [e2]
    k_steps
    exact hP
theorem seg13 (w : World) (mg mb : Str → Option Value) (fa : Addr) (cd : Value)
   (p : Program) (loose : List Str) (mean : ExcName → Option Value) (dp un : Nat) (gd : Option (List Code)) (a : Addr) (ccd : Value) (cl : List (Str × Addr)) (outer : List Env) (A₀ : Around) (base h₀ : Heap) (L : Addr) (m : Str → Option Value) (s : Shared) (Q : Flow → Shared → Prop) (E : Value → Shared → Prop)
   (B : Below A₀ base outer h₀) (X : (hd.heap_39 w.params).In h₀) (T : Top p loose mean mg mb h₀) (F : Fr h₀ L s.heap m) (HG : CodeHd base 99 95)
   (o1 o5 : Obj) (sg nl tb : Addr) (sx nx : Nat → Str) (su nv : Nat → Tok) (ns nn kw v : Nat) (c0 : Nat) (tw t0 t1 : Tok) (rs : List Str) (ts : List Ord) (rest : List (Addr × Obj))
   (N : News h₀ L s.heap ((tb, lst (refsOf ts)) :: (L + 1, o1) :: (L + 1 + 1 + 1 + 1 + 1, o5) :: (nl, listOf (sixL nx nv).toArray nn) :: (sg, listOf (sixL sx su).toArray ns) :: rest))
   (Rt : RNe rest tb) (q1 : L + 1 ≠ tb) (q2 : L + 1 + 1 + 1 + 1 + 1 ≠ tb) (q3 : nl ≠ tb) (q4 : sg ≠ tb) (hts : ∀ q ∈ ts.map Ord.led, q ∈ rest) (R : RowsAre rs ts rs) (hrs : rs.length = 6)
   (k1 : o1.data = .cell (some (.int (kw : Nat) tw))) (hkw : kw < 5) (k5 : o5.data = .cell (some (.ref tb))) (hs0 : sx 0 = ⟨#[c0]⟩) (hl0 : (nx 0).length ≤ 100000) (hl1 : (nx 1).length ≤ 100000)
   (m1 : m "told" = some (.int (v : Nat) t0)) (m5 : m "due" = some (.int (v : Nat) t1)) (m2 : m "signs" = some (.ref sg)) (m3 : m "names" = some (.ref nl)) (hdp : dp + 40 < recursionLimit) (hun : un + 500 < cLine)
   (K : ∀ (h' : Heap) (tk' : Nat) (m' : Str → Option Value) (r4 : Addr) (v4 : List Value) (n4 n5 : Nat), Fr h₀ L h' m' → News h₀ L h' ((r4, listOf v4.toArray n4) :: (tb, listOf (refsOf ts ++ [Value.ref r4]).toArray n5) :: (L + 1, o1) :: (L + 1 + 1 + 1 + 1 + 1, o5) :: rest) →
      IntsAre v4 [collI "" (nx 0), collI (nx 0 ++ nx 1) (nx 0), collI (nx 0) (spell kw c0), collI "Z" "a"] →
      wpAny (model pg w) (ktrTop dp un gd "law" (scopeAt w 138) L a ccd cl outer) (execs (lawB.drop 27) (envOfC "law" (scopeAt w 138) L fa cd)) Q E { s with heap := h', toks := tk' }) :
   wpAny (model pg w) (ktrTop dp un gd "law" (scopeAt w 138) L a ccd cl outer) (execs (lawB.drop 25) (envOfC "law" (scopeAt w 138) L fa cd)) Q E s := by
  have e1 : lawB.drop 25 = _ :: _ :: lawB.drop 27 := rfl
  have e2 : scopeAt w 138 = Scope.mk _ _ _ _ _ := rfl
  have F := Mine.Fr.pin (Mine.Fr.pin (Mine.Fr.pin (Mine.Fr.pin F (x := "told") m1) (x := "due") m5) (x := "signs") m2) (x := "names") m3
  have y1 := q1.symm
  have y2 := q2.symm
  have y3 := q3.symm
  have y4 := q4.symm
  have q5 : nzC = Expr.ListComp (Expr.Name _ _) [⟨_, _, _, _⟩, ⟨_, _, _, _⟩] _ _ := rfl
  have C := fun (s : Shared) (Q : Value → Shared → Prop) (m : Str → Option Value) (F : Fr h₀ L s.heap m) (r2 : List (Addr × Obj)) (hr2 : ∀ q ∈ ts.map Ord.led, q ∈ r2) (N : News h₀ L s.heap ((tb, lst (refsOf ts)) :: (L + 1 + 1 + 1 + 1 + 1, o5) :: r2)) => nzComp w mg mb fa cd p loose mean dp un gd a ccd cl outer A₀ base h₀ L m s Q E B X T F o5 tb rs ts r2 N hr2 R hrs k5
  generalize hR : lawB.drop 27 = R1 at *
  rw [e1]
  rw [q5, e2] at C
  rw [e2] at K ⊢
  k_steps
  · exfalso
    first | omega | simp_all
  · refine ⟨?_⟩
    refine C _ _ _ (by k_asm) ((L + 1, o1) :: (nl, listOf (sixL nx nv).toArray nn) :: (sg, listOf (sixL sx su).toArray ns) :: rest) (fun q hq => List.mem_cons_of_mem _ (List.mem_cons_of_mem _ (List.mem_cons_of_mem _ (hts q hq)))) (Newss.sub (by k_asm) (by k_dflt (k_extra "MemAll2"))) ?_
    intro D h tk F' N' o'
    have d1 : tb ≠ D := o' _ (List.mem_cons_self ..)
    have d2 := d1.symm
    have hzz : (refsOf ts).toArray.size ≤ sizeLine := by
      rw [sizeLine_eq]
      have := R.length
      unfold refsOf
      simp only [List.size_toArray, List.length_map]
      omega
    k_steps
    refine ⟨?_⟩
    refine ne_strsSame (vs := []) (us := []) (ss := []) (News.isList (by k_asm) (by k_mem)) .nil (News.isList (by k_asm) (by k_mem)) .nil (fun x hx => nomatch hx) (by show un + 64 < cLine; omega) ?_
    k_steps
    dsimp only
    (with_reducible rename News _ _ _ _ => kN)
    rw [List.push_toArray] at kN
    exact K _ _ _ _ _ _ _ (by k_asm) (Newss.sub kN (by k_dflt (k_extra "MemAll2"))) (.cons _ _ (.cons _ _ (.cons _ _ (.cons _ _ .nil))))

end

section
open PyProof.Rows.LCg
theorem sud5seg_1 : True := by
  w_top off
  (k_with "e248" => skip)
  (k_with "e247" => skip)
  (k_with "e214" => skip)
  (k_with "e245" => skip)
  (k_with "e249" => skip)
  (k_with "e246" => skip)
  (k_with "e250" => skip)
  (k_with "e244" => skip)
  (k_with "k_lt" => ((fail_if_success k_extra "e251"); (skip)))
  (k_with "RNe" => ((fail_if_success k_extra "e252"); (first | assumption | (refine' RNe.of_ltl _ ?hz110 ?ez110; (case hz110 => with_reducible assumption); (case ez110 => k_extra "SEG")) | exact RNe.of_lts (by assumption) (by k_extra "Tail"))))
  trivial
def rwC : Expr := exI (exI (stX lawB 27) 1) 0
def rwP : Expr × Scope := exS rwC
def rwSc : Scope := rwP.2
def rowE (k : Nat) : List Int := List.flatten (List.replicate (Int.toNat (k : Int)) [1]) ++ [0] ++ List.flatten (List.replicate (Int.toNat (5 - (k : Int))) [-1])
theorem rwElt (w : World) (mg mb : Str → Option Value) (fa : Addr) (cd : Value)
   (p : Program) (loose : List Str) (mean : ExcName → Option Value) (dp un : Nat) (gd : Option (List Code)) (a : Addr) (ccd : Value) (cl : List (Str × Addr)) (outer : List Env) (A₀ : Around) (base h₀ : Heap) (L : Addr) (m : Str → Option Value) (s : Shared) (Q : Value → Shared → Prop) (E : Value → Shared → Prop)
   (B : Below A₀ base outer h₀) (X : (hd.heap_39 w.params).In h₀) (T : Top p loose mean mg mb h₀) (F : Fr h₀ L s.heap m)
   (C : Addr) (oC : Obj) (m₂ : Str → Option Value) (k : Nat) (t : Tok) (rest : List (Addr × Obj)) (cl2 : List (Str × Addr)) (hk : k < 6)
   (N : News h₀ L s.heap ((C, oC) :: rest)) (hC : NsObj oC m₂) (e1 : m₂ "k" = some (.int (k : Nat) t))
   (K : ∀ (D : Addr) (ys : List Value) (h' : Heap) (tk' : Nat), IntsAre ys (rowE k) → Fr h₀ L h' m → News h₀ L h' ((D, listOf ys.toArray 0) :: (C, oC) :: rest) → (∀ q ∈ (C, oC) :: rest, q.1 < D) → Q (.ref D) { s with heap := h', toks := tk' }) :
   wpAny (model pg w) (ktrTop dp un gd "law" (scopeAt w 138) L a ccd cl outer) (eval rwP.1 (compEnvC rwSc cl2 C (envOfC "law" (scopeAt w 138) L fa cd))) Q E s := by
  have q1 : rwSc = Scope.mk _ _ _ _ _ := rfl
  have q2 : scopeAt w 138 = Scope.mk _ _ _ _ _ := rfl
  have q3 : rwP.1 = Expr.BinOp _ _ _ _ := rfl
  rw [q1, q2, q3]
  k_steps
  (with_reducible rename IntsAre _ _ => kI)
  (with_reducible rename Lts _ _ => kL)
  (with_reducible rename News _ _ _ _ => kN)
  exact K _ _ _ _ kI (by k_asm) (Newss.sub kN (by k_dflt (k_extra "MemAll2"))) fun q hq => kL.lt q (TailOf.mem (by k_extra "Tail") q hq)
/-- rows of whole numbers -/
inductive RowsI : List Ord → List (List Int) → Prop
  | nil : RowsI [] []
  | cons {o l os ls} : IntsAre o.vals l → RowsI os ls → RowsI (o :: os) (l :: ls)
theorem RowsI.snoc {os ls} (h : RowsI os ls) {o l} (a : IntsAre o.vals l) : RowsI (os ++ [o]) (ls ++ [l]) := by
  induction h with
  | nil => exact .cons a .nil
  | cons b _ ih => exact .cons b ih
theorem RowsI.of {rs : List Str} {os xs} (h : RowsAre rs os xs) : RowsI os (xs.map fun x => rs.map (collI x)) := by
  induction h with
  | nil => exact .nil
  | cons a _ ih => exact .cons a ih
theorem refsOf_snoc (os : List Ord) (o : Ord) : refsOf (os ++ [o]) = refsOf os ++ [.ref o.ad] := by unfold refsOf; rw [List.map_append]; rfl
theorem rwRest (w : World) (mg mb : Str → Option Value) (fa : Addr) (cd : Value)
   (p : Program) (loose : List Str) (mean : ExcName → Option Value) (dp un : Nat) (gd : Option (List Code)) (a : Addr) (ccd : Value) (cl : List (Str × Addr)) (outer : List Env) (A₀ : Around) (base h₀ : Heap) (L : Addr) (m : Str → Option Value) (s : Shared)
   (B : Below A₀ base outer h₀) (X : (hd.heap_39 w.params).In h₀) (T : Top p loose mean mg mb h₀) (news : List (Addr × Obj)) (Fin : List Value → List (Addr × Obj) → Prop)
   (hF : ∀ os, RowsI os ((List.range 6).map rowE) → Fin (refsOf os) (os.map Ord.led ++ news)) :
   ∀ d i os, i + d = 6 → RowsI os ((List.range i).map rowE) → CompRest pg w (ktrTop dp un gd "law" (scopeAt w 138) L a ccd cl outer) h₀ L m (envOfC "law" (scopeAt w 138) L fa cd) rwP.1 "k" rwSc [] s (fun _ => True) (fun i v => ∃ t, v = .int (0 + (i : Int)) t) Fin d i (refsOf os) (os.map Ord.led ++ news) := by
  intro d
  induction d with
  | zero =>
    intro i os hi hos
    obtain rfl : i = 6 := by omega
    exact CompRest.zero (hF os hos)
  | succ d ih =>
    intro i os hi hos
    refine CompRest.succ fun v I oI C oC D m₂ h tk E' hP hC e2 F' N' off hne => ?_
    obtain ⟨t, rfl⟩ := hP
    rw [Int.zero_add] at e2
    refine rwElt w mg mb fa cd p loose mean dp un gd a ccd cl outer A₀ base h₀ L m _ _ E' B X T F' C oC m₂ i t ((I, oI) :: (D, lst (refsOf os)) :: (os.map Ord.led ++ news)) [] (by omega) (Newss.sub N' fun q hq => ?_) hC e2 ?_
    · rcases List.mem_cons.mp hq with rfl | hq
      · exact List.mem_cons_of_mem _ (List.mem_cons_self ..)
      rcases List.mem_cons.mp hq with rfl | hq
      · exact List.mem_cons_self ..
      · exact List.mem_cons_of_mem _ (List.mem_cons_of_mem _ hq)
    · intro D2 ys h' tk' hys F2 N2 lt2
      have z := ih (i + 1) (os ++ [⟨D2, ys, 0⟩]) (by omega) (by
        rw [List.range_succ, List.map_append]
        exact hos.snoc hys)
      rw [refsOf_snoc] at z
      refine ⟨h', tk', _, rfl, F2, Newss.sub N2 fun q hq => ?_, Off3.of fun q hq => ?_, trivial, z⟩
      · rw [List.map_append] at hq
        simp only [List.mem_cons, List.mem_append, List.map_cons, List.map_nil, List.not_mem_nil, or_false] at hq ⊢
        rcases hq with hq | hq | hq | (hq | hq) | hq
        · exact .inr (.inr (.inl hq))
        · exact .inr (.inl hq)
        · exact .inr (.inr (.inr (.inl hq)))
        · exact .inr (.inr (.inr (.inr (.inl hq))))
        · exact .inl hq
        · exact .inr (.inr (.inr (.inr (.inr hq))))
      · rw [List.map_append] at hq
        rcases List.mem_append.mp hq with hq | hq
        · rcases List.mem_append.mp hq with hq | hq
          · exact off.mem q (List.mem_append_left _ hq)
          · rw [List.mem_singleton.mp hq]
            exact ⟨Nat.ne_of_gt (lt2 (I, oI) (by k_mem)), Nat.ne_of_gt (lt2 (C, oC) (by k_mem)), Nat.ne_of_gt (lt2 (D, lst (refsOf os)) (by k_mem))⟩
        · exact off.mem q (List.mem_append_right _ hq)
theorem sud5seg_2 : True := by
  (k_with "CompSrc" => ((fail_if_success k_extra "e253"); ((refine Hold.out ?_))))
  trivial
theorem rwComp (w : World) (mg mb : Str → Option Value) (fa : Addr) (cd : Value)
   (p : Program) (loose : List Str) (mean : ExcName → Option Value) (dp un : Nat) (gd : Option (List Code)) (a : Addr) (ccd : Value) (cl : List (Str × Addr)) (outer : List Env) (A₀ : Around) (base h₀ : Heap) (L : Addr) (m : Str → Option Value) (s : Shared) (Q : Value → Shared → Prop) (E : Value → Shared → Prop)
   (B : Below A₀ base outer h₀) (X : (hd.heap_39 w.params).In h₀) (T : Top p loose mean mg mb h₀) (F : Fr h₀ L s.heap m)
   (news : List (Addr × Obj)) (N : News h₀ L s.heap news)
   (K : ∀ (D : Addr) (os : List Ord) (h' : Heap) (tk' : Nat), RowsI os ((List.range 6).map rowE) → Fr h₀ L h' m → News h₀ L h' ((D, lst (refsOf os)) :: (os.map Ord.led ++ news)) → (∀ q ∈ os.map Ord.led ++ news, q.1 ≠ D) → Q (.ref D) { s with heap := h', toks := tk' }) :
   wpAny (model pg w) (ktrTop dp un gd "law" (scopeAt w 138) L a ccd cl outer) (eval rwC (envOfC "law" (scopeAt w 138) L fa cd)) Q E s := by
  have q3 : rwC = Expr.ListComp rwP.1 [⟨.Name "k" _, Expr.Call _ _ _ _, [], 0⟩] rwSc _ := rfl
  rw [q3]
  refine ListComp_U (x := "k") (cl := []) F ?hc ?hcell ?hk ?hn ?hx ?hit ?hs
  case hc => exact rfl
  case hcell => decide
  case hk => exact rfl
  case hn => decide +kernel
  case hx => exact rfl
  case hs => exact fun _ => rfl
  case hit =>
    generalize hH : (fun s₂ => FinE h₀ L m s₂ Q) = Fin0
    have q2 : scopeAt w 138 = Scope.mk _ _ _ _ _ := rfl
    have fin : ∀ s' : Shared, (∀ os, RowsI os ((List.range 6).map rowE) → Fin0 s' (refsOf os) (os.map Ord.led ++ news)) → CompRest pg w (ktrTop dp un gd "law" (scopeAt w 138) L a ccd cl outer) h₀ L m (envOfC "law" (scopeAt w 138) L fa cd) rwP.1 "k" rwSc [] s' (fun _ => True) (fun i v => ∃ t, v = .int (0 + (i : Int)) t) (Fin0 s') 6 0 [] news := fun s' hF =>
      rwRest w mg mb fa cd p loose mean dp un gd a ccd cl outer A₀ base h₀ L m s' B X T news (Fin0 s') hF 6 0 [] rfl .nil
    have kF : ∀ (h' : Heap) (tk' : Nat) (h2 : Heap) os, RowsI os ((List.range 6).map rowE) → Fin0 { s with heap := h2, toks := tk' } (refsOf os) (os.map Ord.led ++ news) := by
      intro h' tk' h2 os hos
      rw [← hH]
      intro D h tk F' N' o1
      exact K D os h tk hos F' N' (off1_mem o1)
    clear K
    generalize rwP.1 = el at *
    generalize rwSc = sc at *
    rw [q2] at fin ⊢
    k_steps
    refine ⟨?_⟩
    (with_reducible rename IsRange _ _ _ _ _ _ _ _ => kR)
    refine CompSrc.range (a := 0) (b := 6) (n := 6) rfl (by k_asm) (by k_asm) kR (by decide +kernel) (by decide +kernel) (by rw [sizeLine_eq]; decide) fun g => fin _ ?_
    exact kF g _ g

end

section
open PyProof.Rows.LCg
open PySem.Spec PyProof.V PySem.SeqAt
theorem sud6seg_1 : True := by
  w_top off
  (k_with "e252" => skip)
  (k_with "e251" => skip)
  (k_with "e253" => skip)
  (k_with "RNe" => ((fail_if_success k_extra "e254"); (first | assumption | (refine' RNe.of_ltl _ ?hz43 ?ez43; (case hz43 => with_reducible assumption); (case ez43 => k_extra "SEG")))))
  (k_with "eval ListComp" => ((fail_if_success k_extra "e255"); ((k_here; refine Hold.out ?_))))
  (k_with "binaryOp Add ref ref" => ((fail_if_success k_extra "e256"); ((k_here; refine Hold.out ?_))))
  (k_with "compareOp Eq ref ref" => ((fail_if_success k_extra "e257"); ((k_here; refine Hold.out ?_))))
  trivial
def dataI (l : List Int) : PyData := .list (l.map PyData.int)
theorem RowsI.length {os ls} (h : RowsI os ls) : os.length = ls.length := by
  induction h with
  | nil => rfl
  | cons _ _ ih => rw [List.length_cons, List.length_cons, ih]
theorem readsInts {h : Heap} {vs : List Value} {ns : List Int} (i : IntsAre vs ns) : ReadsAll h vs (ns.map PyData.int) [] := by
  induction i with
  | nil => exact .nil
  | cons n t _ ih => exact ReadsAll.cons (as := []) (.int n t) ih
theorem readsRow {h : Heap} {o : Ord} {l : List Int} (i : IntsAre o.vals l) (g : h.get? o.ad = some (listOf o.vals.toArray o.n)) : Reads h (.ref o.ad) (dataI l) [o.ad] :=
  Reads.list g rfl rfl (readsInts i)
theorem readsRows {h : Heap} {os ls} (r : RowsI os ls) : (∀ q ∈ os.map Ord.led, h.get? q.1 = some q.2) → ∃ as, ReadsAll h (refsOf os) (ls.map dataI) as := by
  induction r with
  | nil => exact fun _ => ⟨[], .nil⟩
  | cons i _ ih =>
    intro g
    obtain ⟨as, ra⟩ := ih fun q hq => g q (List.mem_cons_of_mem _ hq)
    exact ⟨_, .cons (readsRow i (g _ (List.mem_cons_self ..))) ra⟩
def expRows : List (List Int) := (List.range 6).map rowE ++ [[-1, 1, 0, -1]]
def expD : PyData := .list (expRows.map dataI)
theorem expD_shaped : shaped expD = true := by decide +kernel
theorem expD_noMix : noMix expD expD = true := by decide +kernel
theorem readsTab {h₀ h : Heap} {L tb r4 : Addr} {l : List (Addr × Obj)} {os : List Ord} {v4 : List Value} {n n4 : Nat} (N : News h₀ L h l) (r : RowsI os ((List.range 6).map rowE)) (hos : ∀ q ∈ os.map Ord.led, q ∈ l) (h4 : (r4, listOf v4.toArray n4) ∈ l) (i4 : IntsAre v4 [-1, 1, 0, -1]) (ht : (tb, listOf (refsOf os ++ [Value.ref r4]).toArray n) ∈ l) : ∃ as, Reads h (.ref tb) expD as := by
  have r2 := r.snoc (o := ⟨r4, v4, n4⟩) i4
  obtain ⟨as, ra⟩ := readsRows (h := h) r2 fun q hq => by
    rw [List.map_append] at hq
    rcases List.mem_append.mp hq with hq | hq
    · exact (N q (hos q hq)).1
    · rw [List.mem_singleton.mp hq]; exact (N _ h4).1
  rw [refsOf_snoc] at ra
  exact ⟨_, Reads.list (N _ ht).1 rfl rfl ra⟩
theorem seg14 (w : World) (mg mb : Str → Option Value) (fa : Addr) (cd : Value)
   (p : Program) (loose : List Str) (mean : ExcName → Option Value) (dp un : Nat) (gd : Option (List Code)) (a : Addr) (ccd : Value) (cl : List (Str × Addr)) (outer : List Env) (A₀ : Around) (base h₀ : Heap) (L : Addr) (m : Str → Option Value) (s : Shared) (Q : Flow → Shared → Prop) (E : Value → Shared → Prop)
   (B : Below A₀ base outer h₀) (X : (hd.heap_39 w.params).In h₀) (T : Top p loose mean mg mb h₀) (F : Fr h₀ L s.heap m)
   (o5 : Obj) (tb r4 : Addr) (v4 : List Value) (n4 n5 : Nat) (ts : List Ord) (rest : List (Addr × Obj))
   (N : News h₀ L s.heap ((r4, listOf v4.toArray n4) :: (tb, listOf (refsOf ts ++ [Value.ref r4]).toArray n5) :: (L + 1 + 1 + 1 + 1 + 1, o5) :: rest))
   (hts : ∀ q ∈ ts.map Ord.led, q ∈ rest) (R : RowsI ts ((List.range 6).map rowE)) (i4 : IntsAre v4 [-1, 1, 0, -1]) (k5 : o5.data = .cell (some (.ref tb)))
   (hdp : dp + 40 < recursionLimit) (hun : un + 500 < cLine)
   (K : ∀ (h' : Heap) (tk' : Nat) (m' : Str → Option Value), Fr h₀ L h' m' → News h₀ L h' rest → Q (.ret (.bool true)) { s with heap := h', toks := tk' }) :
   wpAny (model pg w) (ktrTop dp un gd "law" (scopeAt w 138) L a ccd cl outer) (execs (lawB.drop 27) (envOfC "law" (scopeAt w 138) L fa cd)) Q E s := by
  have e1 : lawB.drop 27 = [_] := rfl
  have e2 : scopeAt w 138 = Scope.mk _ _ _ _ _ := rfl
  have q5 : rwC = Expr.ListComp (Expr.BinOp _ _ _ _) [⟨_, _, _, _⟩] _ _ := rfl
  have C := fun (s : Shared) (Q : Value → Shared → Prop) (m : Str → Option Value) (F : Fr h₀ L s.heap m) (news : List (Addr × Obj)) (N : News h₀ L s.heap news) => rwComp w mg mb fa cd p loose mean dp un gd a ccd cl outer A₀ base h₀ L m s Q E B X T F news N
  rw [q5, e2] at C
  rw [e1, e2]
  k_steps
  refine ⟨?_⟩
  refine C _ _ _ (by k_asm) ((r4, listOf v4.toArray n4) :: (tb, listOf (refsOf ts ++ [Value.ref r4]).toArray n5) :: (L + 1 + 1 + 1 + 1 + 1, o5) :: rest) (by k_asm) ?_
  intro D os h tk hos F' N' o'
  have N2 : News h₀ L h ((D, lst (refsOf os)) :: (r4, listOf v4.toArray n4) :: (tb, listOf (refsOf ts ++ [Value.ref r4]).toArray n5) :: (L + 1 + 1 + 1 + 1 + 1, o5) :: (os.map Ord.led ++ rest)) := Newss.sub N' fun q hq => by
    simp only [List.mem_cons, List.mem_append] at hq ⊢
    rcases hq with hq | hq | hq | hq | hq | hq <;> simp only [hq, true_or, or_true]
  clear N' o'
  obtain ⟨r2, hr2⟩ : ∃ r2, r2 = os.map Ord.led ++ rest := ⟨_, rfl⟩
  rw [← hr2] at N2
  have hA : ∀ q ∈ ts.map Ord.led, q ∈ r2 := fun q hq => by rw [hr2]; exact List.mem_append_right _ (hts q hq)
  have hB : ∀ q ∈ os.map Ord.led, q ∈ r2 := fun q hq => by rw [hr2]; exact List.mem_append_left _ hq
  have hC : ∀ q ∈ rest, q ∈ r2 := fun q hq => by rw [hr2]; exact List.mem_append_right _ hq
  clear hr2
  k_steps
  refine ⟨?_⟩
  refine addL (vs := refsOf os) (ws := [Value.ref _]) (by k_asm) (by k_asm) (by k_mem) (by k_mem) ?_ ?_
  · have := hos.length
    unfold refsOf
    simp only [List.length_map, List.length_singleton, List.length_range] at this ⊢
    omega
  intro D3 h3 F3 N3 l3
  k_steps
  refine ⟨?_⟩
  (with_reducible rename News _ _ _ _ => kN)
  obtain ⟨as, ra⟩ := readsTab (tb := tb) (r4 := r4) (v4 := v4) (n := n5) (n4 := n4) kN R (fun q hq => TailOf.mem (rest := r2) (by k_extra "Tail") q (hA q hq)) (by k_mem) i4 (by k_mem)
  obtain ⟨bs, rb⟩ := readsTab (tb := D3) (v4 := [Value.int (-1) _, .int 1 _, .int 0 _, .int (-1) _]) (n := 0) (n4 := 0) kN hos (fun q hq => TailOf.mem (rest := r2) (by k_extra "Tail") q (hB q hq)) (List.mem_cons_of_mem _ (List.mem_cons_of_mem _ (List.mem_cons_self ..))) (.cons _ _ (.cons _ _ (.cons _ _ (.cons _ _ .nil)))) (List.mem_cons_self ..)
  refine eq_dataH_same ra rb expD_shaped expD_shaped (by show un + 64 < cLine; omega) expD_noMix ?_
  rw [same_refl]
  dsimp only
  exact K _ _ _ (by k_asm) (Newss.sub kN fun q hq => TailOf.mem (rest := r2) (by k_extra "Tail") q (hC q hq))

end

section
def tailC : List Nat := [97, 109, 112, 108, 116, 103, 113, 117, 111, 35, 49, 51, 48, 57, 120, 68, 65, 59]
def NameOk (n : List Nat) : Prop := (∃ c, n = [c] ∧ c ∉ tailC ∧ c ≠ 38) ∨ (∃ u, n = 38 :: (u ++ [59]) ∧ ∀ x ∈ u, x ∈ tailC ∧ x ≠ 59)
theorem nm_head {n : List Nat} (h : NameOk n) : ∃ a t, n = a :: t ∧ a ∉ tailC ∧ ∀ x ∈ t, x ∈ tailC := by
  rcases h with ⟨c, rfl, hc, _⟩ | ⟨u, rfl, hu⟩
  · exact ⟨c, [], rfl, hc, fun x hx => nomatch hx⟩
  · refine ⟨38, u ++ [59], rfl, by decide, fun x hx => ?_⟩
    rcases List.mem_append.mp hx with hx | hx
    · exact (hu x hx).1
    · rw [List.mem_singleton.mp hx]; decide
theorem semi_eq : ∀ (u v r : List Nat), (∀ x ∈ u, x ≠ 59) → (∀ x ∈ v, x ≠ 59) → (u ++ [59]) <+: (v ++ 59 :: r) → u = v
  | [], [], _, _, _, _ => rfl
  | [], b :: v, r, _, hv, h => by
    have := (List.cons_prefix_cons.mp h).1
    exact absurd this.symm (hv b (List.mem_cons_self ..))
  | a :: u, [], r, hu, _, h => by
    have := (List.cons_prefix_cons.mp h).1
    exact absurd this (hu a (List.mem_cons_self ..))
  | a :: u, b :: v, r, hu, hv, h => by
    have h' := List.cons_prefix_cons.mp h
    rw [h'.1, semi_eq u v r (fun x hx => hu x (List.mem_cons_of_mem _ hx)) (fun x hx => hv x (List.mem_cons_of_mem _ hx)) h'.2]
theorem prefix_eq {n m r : List Nat} (hn : NameOk n) (hm : NameOk m) (h : n <+: m ++ r) : n = m := by
  rcases hn with ⟨c, rfl, _, hc⟩ | ⟨u, rfl, hu⟩ <;> rcases hm with ⟨d, rfl, _, hd⟩ | ⟨v, rfl, hv⟩
  · rw [(List.cons_prefix_cons.mp h).1]
  · exact absurd (List.cons_prefix_cons.mp h).1 hc
  · exact absurd (List.cons_prefix_cons.mp h).1.symm hd
  · have h' : u ++ [59] <+: (v ++ [59]) ++ r := (List.cons_prefix_cons.mp h).2
    rw [List.append_assoc] at h'
    rw [semi_eq u v r (fun x hx => (hu x hx).2) (fun x hx => (hv x hx).2) h']
theorem head_not {n : List Nat} (h : NameOk n) {t : List Nat} (ht : ∀ x ∈ t, x ∈ tailC) {r : List Nat} (hne : t ≠ []) : ¬ n <+: t ++ r := by
  obtain ⟨a, s, rfl, ha, _⟩ := nm_head h
  intro hp
  cases t with
  | nil => exact hne rfl
  | cons b t =>
    have := (List.cons_prefix_cons.mp hp).1
    exact ha (this ▸ ht b (List.mem_cons_self ..))
theorem at_pos : ∀ (ns : List (List Nat)) (t : List Nat) (i : Nat) (n : List Nat), (∀ m ∈ ns, NameOk m) → (∀ x ∈ t, x ∈ tailC) → NameOk n → n <+: (ns.flatten ++ t).drop i →
    ∃ k, k < ns.length ∧ i = (ns.take k).flatten.length ∧ ns[k]? = some n
  | [], t, i, n, _, ht, hn, h => by
    exfalso
    have h : n <+: t.drop i := h
    obtain ⟨a, s, rfl, ha, _⟩ := nm_head hn
    have : a ∈ t.drop i := h.subset (List.mem_cons_self ..)
    exact ha (ht a (List.mem_of_mem_drop this))
  | m :: ns, t, i, n, hns, ht, hn, h => by
    have hm := hns m (List.mem_cons_self ..)
    by_cases h0 : i = 0
    · subst h0
      refine ⟨0, Nat.zero_lt_succ _, rfl, ?_⟩
      have : n <+: m ++ (ns.flatten ++ t) := by
        have h' : n <+: (m :: ns).flatten ++ t := h
        rwa [List.flatten_cons, List.append_assoc] at h'
      rw [prefix_eq hn hm this]
      rfl
    · by_cases h1 : i < m.length
      · exfalso
        obtain ⟨a, s, rfl, _, hs⟩ := nm_head hm
        have e : ((a :: s) :: ns).flatten ++ t = (a :: s) ++ (ns.flatten ++ t) := by rw [List.flatten_cons, List.append_assoc]
        rw [e, List.drop_append_of_le_length (Nat.le_of_lt h1)] at h
        obtain ⟨j, rfl⟩ : ∃ j, i = j + 1 := ⟨i - 1, (Nat.succ_pred_eq_of_ne_zero h0).symm⟩
        rw [List.drop_succ_cons] at h
        refine head_not hn (t := s.drop j) (fun x hx => hs x (List.mem_of_mem_drop hx)) ?_ h
        intro e
        have := congrArg List.length e
        simp only [List.length_drop, List.length_nil, List.length_cons] at this h1
        exact absurd (Nat.le_of_sub_eq_zero this) (Nat.not_le_of_lt (Nat.lt_of_succ_lt_succ h1))
      · have e : (m :: ns).flatten ++ t = m ++ (ns.flatten ++ t) := by rw [List.flatten_cons, List.append_assoc]
        rw [e, List.drop_append, List.drop_eq_nil_of_le (Nat.le_of_not_lt h1), List.nil_append] at h
        obtain ⟨k, hk, e1, e2⟩ := at_pos ns t (i - m.length) n (fun x hx => hns x (List.mem_cons_of_mem _ hx)) ht hn h
        refine ⟨k + 1, Nat.succ_lt_succ hk, ?_, e2⟩
        rw [List.take_succ_cons, List.flatten_cons, List.length_append, ← e1]
        exact (Nat.add_sub_cancel' (Nat.le_of_not_lt h1)).symm
/-- where the k-th name begins -/
def bnd (ns : List (List Nat)) (k : Nat) : Nat := (ns.take k).flatten.length
theorem bnd_succ {ns : List (List Nat)} {k : Nat} {n : List Nat} (h : ns[k]? = some n) : bnd ns (k + 1) = bnd ns k + n.length := by
  unfold bnd
  rw [List.take_add_one, h]
  simp
theorem bnd_step {ns : List (List Nat)} (hns : ∀ m ∈ ns, NameOk m) (k : Nat) (h : k < ns.length) : bnd ns k < bnd ns (k + 1) := by
  obtain ⟨n, hn⟩ : ∃ n, ns[k]? = some n := ⟨ns[k], List.getElem?_eq_getElem h⟩
  rw [bnd_succ hn]
  obtain ⟨a, s, rfl, _⟩ := nm_head (hns n (List.mem_of_getElem? hn))
  exact Nat.lt_add_of_pos_right (Nat.succ_pos _)
theorem bnd_lt {ns : List (List Nat)} (hns : ∀ m ∈ ns, NameOk m) : ∀ (j k : Nat), k < j → j ≤ ns.length → bnd ns k < bnd ns j
  | 0, _, h, _ => absurd h (Nat.not_lt_zero _)
  | j + 1, k, h, hj => (Nat.lt_or_eq_of_le (Nat.le_of_lt_succ h)).elim (fun h => Nat.lt_trans (bnd_lt hns j k h (Nat.le_of_succ_le hj)) (bnd_step hns j hj)) fun e => e ▸ bnd_step hns j hj
theorem bnd_le {ns : List (List Nat)} (hns : ∀ m ∈ ns, NameOk m) {j k : Nat} (hj : j ≤ ns.length) (hk : k ≤ ns.length) : bnd ns j ≤ bnd ns k ↔ j ≤ k :=
  ⟨fun h => Nat.le_of_not_lt fun hn => Nat.not_lt_of_le h (bnd_lt hns j k hn hj),
   fun h => (Nat.lt_or_eq_of_le h).elim (fun h => Nat.le_of_lt (bnd_lt hns k j h hk)) fun e => e ▸ Nat.le_refl _⟩
theorem at_bnd {ns : List (List Nat)} {t n : List Nat} {k : Nat} (h : ns[k]? = some n) : n <+: (ns.flatten ++ t).drop (bnd ns k) := by
  obtain ⟨hk, e⟩ := List.getElem?_eq_some_iff.mp h
  have e1 : ns.flatten = (ns.take k).flatten ++ (n ++ (ns.drop (k + 1)).flatten) := by
    have : ns = ns.take k ++ n :: ns.drop (k + 1) := by
      rw [← e, ← List.drop_eq_getElem_cons hk, List.take_append_drop]
    have e2 := congrArg List.flatten this
    rw [List.flatten_append, List.flatten_cons] at e2
    exact e2
  rw [e1, List.append_assoc]
  unfold bnd
  rw [List.drop_left, List.append_assoc]
  exact List.prefix_append _ _

end

section
open Builtin Builtin.Str StrLaws in
theorem occ_run (s sub : Str) (hi : Nat) : ∀ (l : List Nat) (free : Nat), (∀ i ∈ l, free ≤ i) →
    (forIn l ((#[] : Array Nat), free) (occBody s sub hi 1)).run.fst.toList = (match l.find? fun i => decide (i + sub.length ≤ hi) && PySem.Builtin.Str.subAt s sub i with | some i => [i] | none => []) := by
  have full : ∀ (l : List Nat) (a f : Nat), (forIn l ((#[a] : Array Nat), f) (occBody s sub hi 1)).run.fst = #[a] := by
    intro l
    induction l with
    | nil => intro a f; rfl
    | cons b l ih =>
      intro a f
      rw [List.forIn_cons]
      unfold occBody
      rw [if_neg (fun h => absurd h.1.1.1 (by simp))]
      exact ih a f
  intro l
  induction l with
  | nil => intro free _; rfl
  | cons a l ih =>
    intro free hf
    rw [List.forIn_cons, List.find?_cons]
    unfold occBody
    have ha : free ≤ a := hf a (List.mem_cons_self ..)
    by_cases hc : a + sub.length ≤ hi ∧ PySem.Builtin.Str.subAt s sub a = true
    · rw [if_pos ⟨⟨⟨by simp, ha⟩, hc.1⟩, hc.2⟩]
      have e : (decide (a + sub.length ≤ hi) && PySem.Builtin.Str.subAt s sub a) = true := by rw [Bool.and_eq_true, decide_eq_true_eq]; exact hc
      rw [e]
      have := full l a (a + sub.length)
      show (forIn l ((#[] : Array Nat).push a, a + sub.length) (occBody s sub hi 1)).run.fst.toList = [a]
      rw [show (#[] : Array Nat).push a = #[a] from rfl, this]
    · rw [if_neg (fun h => hc ⟨h.1.2, h.2⟩)]
      have e : (decide (a + sub.length ≤ hi) && PySem.Builtin.Str.subAt s sub a) = false := by
        rw [Bool.eq_false_iff]
        intro h
        rw [Bool.and_eq_true, decide_eq_true_eq] at h
        exact hc h
      rw [e]
      exact ih free (fun i hi' => hf i (List.mem_cons_of_mem _ hi'))
open Builtin Builtin.Str StrLaws in
theorem occ_one {s sub : Str} {lo hi p : Nat} (hp : PySem.Builtin.Str.subAt s sub p = true) (hu : ∀ i, PySem.Builtin.Str.subAt s sub i = true → i = p) :
    occurrences s sub lo hi 1 = if lo ≤ p ∧ p + sub.length ≤ hi then [p] else [] := by
  rw [occ_eq, occ_run s sub hi _ lo (fun i hi' => by rw [List.mem_range'_1] at hi'; exact hi'.1)]
  by_cases h : lo ≤ p ∧ p + sub.length ≤ hi
  · rw [if_pos h]
    cases e : (List.range' lo (hi + 1 - lo)).find? fun i => decide (i + sub.length ≤ hi) && PySem.Builtin.Str.subAt s sub i with
    | none =>
      have := List.find?_eq_none.mp e p (by rw [List.mem_range'_1, Nat.add_sub_cancel' (Nat.le_trans h.1 (Nat.le_trans (Nat.le_add_right _ _) (Nat.le_succ_of_le h.2)))]; exact ⟨h.1, Nat.lt_succ_of_le (Nat.le_trans (Nat.le_add_right _ _) h.2)⟩)
      rw [hp, Bool.and_true, decide_eq_true_eq] at this
      exact absurd h.2 this
    | some i =>
      have h1 := List.find?_some e
      rw [Bool.and_eq_true] at h1
      rw [hu i h1.2]
  · rw [if_neg h]
    cases e : (List.range' lo (hi + 1 - lo)).find? fun i => decide (i + sub.length ≤ hi) && PySem.Builtin.Str.subAt s sub i with
    | none => rfl
    | some i =>
      exfalso
      have h1 := List.find?_some e
      have h2 := List.mem_of_find?_eq_some e
      rw [Bool.and_eq_true, decide_eq_true_eq] at h1
      rw [List.mem_range'_1] at h2
      have := hu i h1.2
      subst this
      exact h ⟨h2.1, h1.1⟩
open Builtin Builtin.Str StrLaws in
theorem subAt_pre (s sub : Str) (i : Nat) : PySem.Builtin.Str.subAt s sub i = true ↔ sub.cps.toList <+: s.cps.toList.drop i := by
  rw [subAt_eq, beq_iff_eq, List.prefix_iff_eq_take]
  have : sub.length = sub.cps.toList.length := by simp [Str.length]
  rw [this]
  exact eq_comm
open Builtin Builtin.Str StrLaws in
theorem occ_empty {s : Str} {lo hi : Nat} (h : lo ≤ hi) : occurrences s ⟨#[]⟩ lo hi 1 = [lo] := by
  rw [occ_eq, occ_run s ⟨#[]⟩ hi _ lo (fun i hi' => by rw [List.mem_range'_1] at hi'; exact hi'.1)]
  have e : hi + 1 - lo = (hi - lo) + 1 := Nat.succ_sub h
  rw [e, List.range'_succ, List.find?_cons]
  have : (decide (lo + (⟨#[]⟩ : Str).length ≤ hi) && PySem.Builtin.Str.subAt s ⟨#[]⟩ lo) = true := by
    rw [Bool.and_eq_true, decide_eq_true_eq]
    exact ⟨h, (subAt_pre s ⟨#[]⟩ lo).mpr (List.nil_prefix)⟩
  rw [this]
/-- the places of ks in l, each behind the one before -/
def incrP (l : List Nat) : Nat → List Nat → Bool
  | _, [] => true
  | j, k :: ks => decide (j ≤ l.idxOf k) && incrP l (l.idxOf k + 1) ks
section
variable {nx : Nat → Str} {l : List Nat} {t : List Nat} {y : Str}
open Builtin Builtin.Str in
theorem name_at (hok : ∀ k ∈ l, NameOk (nx k).cps.toList) (hinj : ∀ i ∈ l, ∀ j ∈ l, nx i = nx j → i = j) (hnd : l.Nodup) (ht : ∀ x ∈ t, x ∈ tailC) (hy : y.cps.toList = (l.map fun k => (nx k).cps.toList).flatten ++ t) {k : Nat} (hk : k ∈ l) (lo hi : Nat) :
    occurrences y (nx k) lo hi 1 = if lo ≤ bnd (l.map fun k => (nx k).cps.toList) (l.idxOf k) ∧ bnd (l.map fun k => (nx k).cps.toList) (l.idxOf k) + (nx k).length ≤ hi then [bnd (l.map fun k => (nx k).cps.toList) (l.idxOf k)] else [] := by
  have hi1 : l.idxOf k < l.length := List.idxOf_lt_length_iff.mpr hk
  have hget : (l.map fun k => (nx k).cps.toList)[l.idxOf k]? = some (nx k).cps.toList := by
    rw [List.getElem?_map, List.getElem?_eq_getElem hi1, List.getElem_idxOf]
    rfl
  have hall : ∀ m ∈ l.map (fun k => (nx k).cps.toList), NameOk m := fun m hm => by
    obtain ⟨i, hi, rfl⟩ := List.mem_map.mp hm
    exact hok i hi
  refine occ_one ?_ ?_
  · rw [subAt_pre, hy]
    exact at_bnd hget
  · intro i hi2
    rw [subAt_pre, hy] at hi2
    obtain ⟨j, hj, e1, e2⟩ := at_pos _ t i _ hall ht (hok k hk) hi2
    rw [List.length_map] at hj
    rw [List.getElem?_map, List.getElem?_eq_getElem hj] at e2
    have e3 : (nx l[j]).cps.toList = (nx k).cps.toList := Option.some.inj e2
    have e4 : nx l[j] = nx k := by
      have a1 := StrLaws.mk_of_toList e3
      have a2 := StrLaws.mk_of_toList (rfl : (nx k).cps.toList = (nx k).cps.toList)
      rw [a1, ← a2]
    have e5 := hinj _ (List.getElem_mem hj) k hk e4
    have e6 : l.idxOf k = j := by
      rw [← e5]
      exact List.Nodup.idxOf_getElem hnd j hj
    rw [e6]
    exact e1
theorem find_incr (hok : ∀ k ∈ l, NameOk (nx k).cps.toList) (hinj : ∀ i ∈ l, ∀ j ∈ l, nx i = nx j → i = j) (hnd : l.Nodup) (ht : ∀ x ∈ t, x ∈ tailC) (hy : y.cps.toList = (l.map fun k => (nx k).cps.toList).flatten ++ t) (hi : Nat) (es : List Str)
   (hes : ∀ a, a ≤ hi → findAll y es a hi = true) : ∀ (ks : List Nat) (j : Nat), (∀ k ∈ ks, k ∈ l ∧ bnd (l.map fun k => (nx k).cps.toList) (l.idxOf k + 1) ≤ hi) → j ≤ l.length → bnd (l.map fun k => (nx k).cps.toList) j ≤ hi →
    findAll y (ks.map nx ++ es) (bnd (l.map fun k => (nx k).cps.toList) j) hi = incrP l j ks
  | [], j, _, _, hb => hes _ hb
  | k :: ks, j, hks, hj, hb => by
    obtain ⟨hk, hb2⟩ := hks k (List.mem_cons_self ..)
    have hi1 : l.idxOf k < l.length := List.idxOf_lt_length_iff.mpr hk
    have hall : ∀ m ∈ l.map (fun k => (nx k).cps.toList), NameOk m := fun m hm => by
      obtain ⟨i, hi, rfl⟩ := List.mem_map.mp hm
      exact hok i hi
    have hget : (l.map fun k => (nx k).cps.toList)[l.idxOf k]? = some (nx k).cps.toList := by
      rw [List.getElem?_map, List.getElem?_eq_getElem hi1, List.getElem_idxOf]
      rfl
    have hs := bnd_succ hget
    have hlen : (nx k).length = (nx k).cps.toList.length := by simp [Str.length]
    show (match Builtin.Str.occurrences y (nx k) (bnd (l.map fun k => (nx k).cps.toList) j) hi 1 with | i :: _ => findAll y (ks.map nx ++ es) (i + (nx k).length) hi | [] => false) = _
    rw [name_at hok hinj hnd ht hy hk]
    rw [hlen, ← hs]
    have hle := bnd_le hall (j := j) (k := l.idxOf k) (by rw [List.length_map]; exact hj) (by rw [List.length_map]; exact Nat.le_of_lt hi1)
    unfold incrP
    by_cases h : j ≤ l.idxOf k
    · rw [if_pos ⟨hle.mpr h, hb2⟩]
      dsimp only
      rw [← hs, find_incr hok hinj hnd ht hy hi es hes ks (l.idxOf k + 1) (fun x hx => hks x (List.mem_cons_of_mem _ hx)) hi1 hb2]
      rw [decide_eq_true h, Bool.true_and]
    · rw [if_neg (fun q => h (hle.mp q.1))]
      dsimp only
      rw [decide_eq_false h, Bool.false_and]
end

end

section
def nameB : List Nat → Bool
  | [] => false
  | [c] => !(tailC.contains c) && c != 38
  | c :: r => c == 38 && (r.getLast? == some 59 && r.dropLast.all fun x => tailC.contains x && x != 59)
theorem nameB_ok : ∀ n : List Nat, nameB n = true → NameOk n
  | [], h => by cases h
  | [c], h => by
    have h : (!(tailC.contains c) && c != 38) = true := h
    simp only [Bool.and_eq_true, Bool.not_eq_true', bne_iff_ne, ne_eq] at h
    refine .inl ⟨c, rfl, ?_, h.2⟩
    intro hc
    have := List.contains_iff_mem.mpr hc
    rw [this] at h
    exact absurd h.1 (by decide)
  | c :: d :: r, h => by
    have h : (c == 38 && ((d :: r).getLast? == some 59 && (d :: r).dropLast.all fun x => tailC.contains x && x != 59)) = true := h
    simp only [Bool.and_eq_true, beq_iff_eq] at h
    obtain ⟨rfl, h1, h2⟩ := h
    refine .inr ⟨(d :: r).dropLast, ?_, fun x hx => ?_⟩
    · obtain ⟨ys, hys⟩ := List.getLast?_eq_some_iff.mp h1
      rw [hys, List.dropLast_concat]
    · have := List.all_eq_true.mp h2 x hx
      simp only [Bool.and_eq_true, bne_iff_ne, ne_eq] at this
      exact ⟨List.contains_iff_mem.mp this.1, this.2⟩
def seven : List Nat := [38, 60, 62, 34, 13, 10, 9]
theorem seven_ok : ∀ kw, kw < 5 → ∀ d ∈ seven, nameB (entL (tabW kw) d) = true ∧ (entL (tabW kw) d).length ≤ 8 ∧ ∀ x ∈ entL (tabW kw) d, x < 256 := by decide +kernel
theorem seven_inj : ∀ kw, kw < 5 → ∀ d ∈ seven, ∀ e ∈ seven, entL (tabW kw) d = entL (tabW kw) e → d = e := by decide +kernel
theorem tab_small : ∀ kw, kw < 5 → ((tabW kw).all fun p => p.1 < 256) = true := by decide +kernel
theorem ent_big {kw c : Nat} (hkw : kw < 5) (hc : 256 ≤ c) : entL (tabW kw) c = [c] := by
  unfold entL
  rw [List.find?_eq_none.mpr]
  intro p hp
  have := List.all_eq_true.mp (tab_small kw hkw) p hp
  have := of_decide_eq_true this
  simp only [beq_iff_eq]
  omega
theorem spell_cps (kw c : Nat) : (spell kw c).cps.toList = entL (tabW kw) c := by
  show ([c].flatMap (entL (tabW kw))).toArray.toList = _
  simp
theorem mem_seven {d c : Nat} (hd : d ∈ [38, 60, 62, 34, 13, 10, 9, c]) : d ∈ seven ∨ d = c := (List.mem_append.mp (show d ∈ seven ++ [c] from hd)).imp_right List.mem_singleton.mp
theorem tail_small : ∀ x ∈ tailC, x < 256 := by decide
theorem spell_name {kw c d : Nat} (hkw : kw < 5) (hc : 256 ≤ c) (hd : d ∈ [38, 60, 62, 34, 13, 10, 9, c]) : NameOk (spell kw d).cps.toList ∧ (spell kw d).length ≤ 8 := by
  have hlen : (spell kw d).length = (entL (tabW kw) d).length := by
    rw [← spell_cps]
    simp [Str.length]
  rw [spell_cps, hlen]
  rcases mem_seven hd with h | rfl
  · obtain ⟨a, b, _⟩ := seven_ok kw hkw d h
    exact ⟨nameB_ok _ a, b⟩
  · rw [ent_big hkw hc]
    refine ⟨.inl ⟨d, rfl, ?_, by omega⟩, by show 1 ≤ 8; decide⟩
    exact fun hm => absurd (tail_small d hm) (Nat.not_lt.mpr hc)
theorem spell_inj {kw c d e : Nat} (hkw : kw < 5) (hc : 256 ≤ c) (hd : d ∈ [38, 60, 62, 34, 13, 10, 9, c]) (he : e ∈ [38, 60, 62, 34, 13, 10, 9, c]) (h : spell kw d = spell kw e) : d = e := by
  have h' : entL (tabW kw) d = entL (tabW kw) e := by rw [← spell_cps, ← spell_cps, h]
  have hd' := mem_seven hd
  have he' := mem_seven he
  rcases hd' with hd' | rfl <;> rcases he' with he' | rfl
  · exact seven_inj kw hkw d hd' e he' h'
  · exfalso
    rw [ent_big hkw hc] at h'
    have := (seven_ok kw hkw d hd').2.2 e (by rw [h']; exact List.mem_cons_self ..)
    omega
  · exfalso
    rw [ent_big hkw hc] at h'
    have := (seven_ok kw hkw e he').2.2 d (by rw [← h']; exact List.mem_cons_self ..)
    omega
  · rfl

end

section
def jlD : List Str → List Nat
  | [] => []
  | [p] => p.cps.toList
  | p :: q :: r => p.cps.toList ++ ([46, 46, 46] ++ jlD (q :: r))
theorem jlD_flat : ∀ (ns : List Str) (p : Str), jlD (p :: ns) = p.cps.toList ++ ns.flatMap fun n => [46, 46, 46] ++ n.cps.toList
  | [], p => by
    show p.cps.toList = _
    simp
  | q :: r, p => by
    show p.cps.toList ++ ([46, 46, 46] ++ jlD (q :: r)) = _
    rw [jlD_flat r q, List.flatMap_cons, List.append_assoc]
theorem dot3 : ("..." : Str).cps.toList = [46, 46, 46] := by decide +kernel
theorem dot3_len : ("..." : Str).length = 3 := by decide +kernel
open StrLaws Builtin Builtin.Str in
theorem parts_dots (x : Str) : ∀ (parts : List Str) (a f : Nat) (cuts : List Nat), parts ≠ [] → (∀ p ∈ parts, 46 ∉ p.cps.toList) → a ≤ x.length → x.cps.toList.drop a = jlD parts →
    ChainG x "..." x.length a cuts f → (∀ k, f ≤ k → ¬ At x "..." x.length k) → partsFrom x 3 a cuts = parts
  | [], _, _, _, h, _, _, _, _, _ => absurd rfl h
  | [p], a, f, cuts, _, hf, ha, hx, hG, hn => by
    have hx : x.cps.toList.drop a = p.cps.toList := hx
    cases cuts with
    | nil =>
      show [strSub x a x.length] = [p]
      have e : (strSub x a x.length).cps.toList = p.cps.toList := by
        rw [strSub_toList, hx]
        refine List.take_of_length_le ?_
        have := congrArg List.length hx
        rw [List.length_drop] at this
        simp only [Str.length, Array.length_toList] at this ⊢
        exact Nat.le_of_eq this.symm
      rw [mk_of_toList e]
    | cons c r =>
      exfalso
      obtain ⟨h1, h2, _⟩ := hG
      have h3 := (subAt_pre x "..." c).mp h2.2
      rw [dot3] at h3
      have h4 : 46 ∈ x.cps.toList.drop c := h3.subset (List.mem_cons_self ..)
      have h5 : x.cps.toList.drop c = (x.cps.toList.drop a).drop (c - a) := by rw [List.drop_drop, Nat.add_sub_cancel' h1]
      rw [h5, hx] at h4
      exact hf p (List.mem_cons_self ..) (List.mem_of_mem_drop h4)
  | p :: q :: r, a, f, cuts, _, hf, ha, hx, hG, hn => by
    have hx : x.cps.toList.drop a = p.cps.toList ++ ([46, 46, 46] ++ jlD (q :: r)) := hx
    have hxl : x.length = x.cps.toList.length := by simp [Str.length]
    have hlen := congrArg List.length hx
    rw [List.length_drop, List.length_append, List.length_append, ← hxl] at hlen
    have hge : a + p.cps.toList.length + 3 ≤ x.length := by
      rw [← Nat.add_sub_cancel' ha, hlen, Nat.add_assoc]
      exact Nat.add_le_add_left (Nat.add_le_add_left (Nat.le_add_right 3 _) _) a
    have hd : x.cps.toList.drop (a + p.cps.toList.length) = [46, 46, 46] ++ jlD (q :: r) := by
      rw [← List.drop_drop, hx, List.drop_left]
    have hAt : At x "..." x.length (a + p.cps.toList.length) := by
      refine ⟨by rw [dot3_len]; exact hge, (subAt_pre x "..." _).mpr ?_⟩
      rw [dot3, hd]
      exact List.prefix_append _ _
    cases cuts with
    | nil =>
      have hG : f = a := hG
      exact absurd hAt (hn _ (Nat.le_trans (Nat.le_of_eq hG) (Nat.le_add_right _ _)))
    | cons c cs =>
      obtain ⟨h1, h2, h4, h5⟩ := hG
      have hc : c = a + p.cps.toList.length := by
        rcases Nat.lt_trichotomy c (a + p.cps.toList.length) with h | h | h
        · exfalso
          have h6 := (subAt_pre x "..." c).mp h2.2
          rw [dot3] at h6
          have h7 : x.cps.toList.drop c = p.cps.toList.drop (c - a) ++ ([46, 46, 46] ++ jlD (q :: r)) := by
            rw [show c = a + (c - a) from (Nat.add_sub_cancel' h1).symm, ← List.drop_drop, hx, List.drop_append_of_le_length (Nat.sub_le_of_le_add (Nat.le_trans (Nat.le_of_lt h) (Nat.le_of_eq (Nat.add_comm _ _)))), Nat.add_sub_cancel_left]
          rw [h7] at h6
          cases e : p.cps.toList.drop (c - a) with
          | nil =>
            have := congrArg List.length e
            rw [List.length_drop, List.length_nil] at this
            exact absurd (Nat.le_of_sub_eq_zero this) (Nat.not_le_of_lt (Nat.sub_lt_left_of_lt_add h1 h))
          | cons b s =>
            rw [e] at h6
            have h8 := (List.cons_prefix_cons.mp h6).1
            have h9 : b ∈ p.cps.toList.drop (c - a) := by rw [e]; exact List.mem_cons_self ..
            exact hf p (List.mem_cons_self ..) (h8 ▸ List.mem_of_mem_drop h9)
        · exact h
        · exact absurd hAt (h4 _ (Nat.le_add_right _ _) h)
      show strSub x a c :: partsFrom x 3 (c + 3) cs = p :: q :: r
      have e1 : strSub x a c = p := by
        have e : (strSub x a c).cps.toList = p.cps.toList := by
          rw [strSub_toList, hx, hc, Nat.add_sub_cancel_left, List.take_left]
        rw [mk_of_toList e]
      have e2 : x.cps.toList.drop (c + 3) = jlD (q :: r) := by
        rw [← List.drop_drop, hc, hd]
        rfl
      rw [dot3_len] at h5
      rw [e1, parts_dots x (q :: r) (c + 3) f cs (by simp) (fun y hy => hf y (List.mem_cons_of_mem _ hy)) (by rw [hc]; exact hge) e2 h5 hn]
open StrLaws Builtin Builtin.Str in
theorem split_dots (x : Str) (p q : Str) (r : List Str) (hf : ∀ y ∈ p :: q :: r, 46 ∉ y.cps.toList) (hx : x.cps.toList = jlD (p :: q :: r)) : Txt.split x "..." = p :: q :: r := by
  obtain ⟨f, hG, hn⟩ := occ_tight x "..." (by rw [dot3_len]; decide)
  have hxl : x.length = x.cps.toList.length := by simp [Str.length]
  have hl : 3 ≤ x.length := by
    rw [hxl, hx]
    show 3 ≤ (p.cps.toList ++ ([46, 46, 46] ++ jlD (q :: r))).length
    rw [List.length_append, List.length_append]
    show 3 ≤ _ + (3 + _)
    exact Nat.le_trans (Nat.le_add_right 3 _) (Nat.le_add_left _ _)
  have hp := parts_dots x (p :: q :: r) 0 f _ (by simp) hf (Nat.zero_le _) (by rw [List.drop_zero]; exact hx) hG (fun k hk hA => hn k hk hA)
  have hk : 1 ≤ PySem.Builtin.Str.strKind x := by
    unfold PySem.Builtin.Str.strKind
    split
    · exact Nat.le_refl _
    · split <;> decide
  have hk2 : PySem.Builtin.Str.strKind ("..." : Str) = 1 := by decide +kernel
  unfold Txt.split
  rw [if_neg (by
    rw [Bool.or_eq_true, decide_eq_true_eq, decide_eq_true_eq, dot3_len, hk2]
    exact fun h => h.elim (Nat.not_lt_of_le hl) (Nat.not_lt_of_le hk)), partsBetween_eq, dot3_len]
  split
  · rename_i he
    have e0 : occurrences x "..." 0 x.length (x.length + 1) = [] := List.isEmpty_iff.mp he
    rw [e0] at hp
    have : partsFrom x 3 0 [] = [strSub x 0 x.length] := rfl
    rw [this] at hp
    cases hp
  · exact hp

end

section
structure Signs (c : Nat) (cs : List Nat) : Prop where
  len : cs.length = 6
  nd : cs.Nodup
  mem : ∀ x ∈ cs, x ∈ [38, 60, 62, 34, 13, 10, 9, c]
  c1 : 256 ≤ c
  c2 : c < 55296
def sxOf (cs : List Nat) (k : Nat) : Str := ⟨#[cs.getD k 0]⟩
def nxOf (kw : Nat) (cs : List Nat) (k : Nat) : Str := spell kw (cs.getD k 0)
def chainP (ar : List Nat) : Nat → Nat → List Nat
  | 0, _ => []
  | f + 1, k => k :: if k = 0 then [] else chainP ar f (ar.getD k 0)
def wL (dots : List Nat) (nx : Nat → Str) (ar : List Nat) (k : Nat) : List Nat := (chainP ar 6 k).flatMap (fun c => [46, 46, 46] ++ (nx c).cps.toList) ++ dots
def Wof (ev : Bool) (nx : Nat → Str) (ar : List Nat) (k : Nat) : Str := ⟨(wL (dotsOf ev).cps.toList nx ar k).toArray⟩
def Bof (ev : Bool) (nx : Nat → Str) (ar : List Nat) (k : Nat) : Str := if k = 0 then dotsOf ev else Wof ev nx ar (ar.getD k 0)
def lastOf (ev : Bool) (nx : Nat → Str) : Str := if ev then ⟨#[]⟩ else nx 0
def midsOf (ev : Bool) (nx : Nat → Str) (ar : List Nat) (k : Nat) : List Str := (if ev then chainP ar 6 k else (chainP ar 6 k).dropLast).map nx
theorem strExt {a b : Str} (h : a.cps.toList = b.cps.toList) : a = b := by
  rw [StrLaws.mk_of_toList h]
theorem every_cps (c : Nat) : (every7 ++ ⟨#[c]⟩ : Str).cps.toList = [38, 60, 62, 34, 13, 10, 9, c] := by
  rw [Str.cps_append, Array.toList_append]
  have : every7.cps.toList = [38, 60, 62, 34, 13, 10, 9] := by decide +kernel
  rw [this]
  rfl
theorem dots3 : ("..." : Str).cps.toList = [46, 46, 46] := by decide +kernel
theorem dots_cps (ev : Bool) : (dotsOf ev).cps.toList = if ev then [46, 46, 46] else [] := by
  cases ev
  · decide +kernel
  · decide +kernel
theorem tail_cps (ev : Bool) : (tailOf ev).cps.toList = if ev then [120] else [] := by
  cases ev
  · decide +kernel
  · decide +kernel
theorem strLen (x : Str) : x.length = x.cps.toList.length := by simp [Str.length]
theorem chain_len (ar : List Nat) : ∀ f k, (chainP ar f k).length ≤ f
  | 0, _ => Nat.le_refl _
  | f + 1, k => by
    show (k :: if k = 0 then [] else chainP ar f (ar.getD k 0)).length ≤ f + 1
    rw [List.length_cons]
    split
    · exact Nat.succ_le_succ (Nat.zero_le _)
    · exact Nat.succ_le_succ (chain_len ar f _)
theorem chain_step : ∀ a3, a3 < 3 → ∀ a4, a4 < 4 → ∀ a5, a5 < 5 → ∀ k, k < 6 → (k = 0 ∨ chainP (around6 a3 a4 a5) 6 k = k :: chainP (around6 a3 a4 a5) 6 ((around6 a3 a4 a5).getD k 0)) := by decide +kernel
theorem Signs.at {c : Nat} {cs : List Nat} (S : Signs c cs) {k : Nat} (hk : k < 6) : cs.getD k 0 ∈ cs := by
  have h : k < cs.length := by rw [S.len]; exact hk
  rw [List.getD_eq_getElem?_getD, List.getElem?_eq_getElem h]
  exact List.getElem_mem h
theorem Signs.inj {c : Nat} {cs : List Nat} (S : Signs c cs) {i j : Nat} (hi : i < 6) (hj : j < 6) (h : cs.getD i 0 = cs.getD j 0) : i = j := by
  have h1 : i < cs.length := by rw [S.len]; exact hi
  have h2 : j < cs.length := by rw [S.len]; exact hj
  rw [List.getD_eq_getElem?_getD, List.getElem?_eq_getElem h1, List.getD_eq_getElem?_getD, List.getElem?_eq_getElem h2] at h
  have e1 := List.Nodup.idxOf_getElem S.nd i h1
  have e2 := List.Nodup.idxOf_getElem S.nd j h2
  have h : cs[i] = cs[j] := h
  rw [← e1, h, e2]
theorem wL_len {dots : List Nat} {nx : Nat → Str} {ar : List Nat} (hd : dots.length ≤ 3) (hn : ∀ c, (nx c).length ≤ 100) (k : Nat) : (wL dots nx ar k).length ≤ 700 := by
  have : ∀ l : List Nat, (l.flatMap fun c => [46, 46, 46] ++ (nx c).cps.toList).length ≤ 103 * l.length := by
    intro l
    induction l with
    | nil => exact Nat.le_refl _
    | cons a l ih =>
      have h1 := hn a
      rw [strLen] at h1
      rw [List.flatMap_cons, List.length_append, List.length_append]
      exact mulS ih (Nat.add_le_add_left h1 3)
  have h2 := this (chainP ar 6 k)
  have h3 := chain_len ar 6 k
  unfold wL
  rw [List.length_append]
  exact Nat.le_trans (Nat.add_le_add (Nat.le_trans h2 (Nat.mul_le_mul_left 103 h3)) hd) (by decide)
theorem rising_all : ∀ (l : List Str) (p : Str), risingS p l = true → (∀ x ∈ l, ¬ x.cps.toList < p.cps.toList) ∧ l.Pairwise fun a b => ¬ b.cps.toList < a.cps.toList
  | [], _, _ => ⟨fun x hx => (nomatch hx), .nil⟩
  | x :: r, p, h => by
    have h : (!PySem.Spec.ltCps x.cps.toList p.cps.toList && risingS x r) = true := h
    rw [Bool.and_eq_true, ltCps_eq, Bool.not_eq_true', decide_eq_false_iff_not] at h
    obtain ⟨i1, i2⟩ := rising_all r x h.2
    refine ⟨fun y hy => ?_, List.pairwise_cons.mpr ⟨i1, i2⟩⟩
    rcases List.mem_cons.mp hy with rfl | hy
    · exact h.1
    · exact List.not_lt.mpr (List.le_trans (List.not_lt.mp h.1) (List.not_lt.mp (i1 y hy)))
theorem sorted_all {l : List Str} (h : sortedS l = true) : l.Pairwise fun a b => ¬ b.cps.toList < a.cps.toList := by
  cases l with
  | nil => exact .nil
  | cons x r => exact List.pairwise_cons.mpr (rising_all r x h)
theorem rows_lt {rs : List Str} (hs : sortedS rs = true) (hd : rs.Nodup) {i j : Nat} (hi : i < rs.length) (hj : j < rs.length) (hij : i < j) : rs[i].cps.toList < rs[j].cps.toList ∧ ¬ rs[j].cps.toList < rs[i].cps.toList := by
  have h1 := List.pairwise_iff_getElem.mp (sorted_all hs) i j hi hj hij
  refine ⟨?_, h1⟩
  apply Classical.byContradiction
  intro h2
  have e := List.le_antisymm (List.not_lt.mp h1) (List.not_lt.mp h2)
  have e2 : rs[i] = rs[j] := strExt e
  have := List.pairwise_iff_getElem.mp hd i j hi hj hij
  exact this e2
theorem coll_at {rs : List Str} (hs : sortedS rs = true) (hd : rs.Nodup) {i j : Nat} (hi : i < rs.length) (hj : j < rs.length) : collI rs[i] rs[j] = if j < i then 1 else if i = j then 0 else -1 := by
  unfold collI ltS
  rcases Nat.lt_trichotomy i j with h | h | h
  · obtain ⟨a, b⟩ := rows_lt hs hd hi hj h
    rw [decide_eq_false b, decide_eq_true a, if_neg (Nat.lt_asymm h), if_neg (Nat.ne_of_lt h)]
    rfl
  · subst h
    have : ¬ rs[i].cps.toList < rs[i].cps.toList := List.lt_irrefl _
    rw [decide_eq_false this, if_neg (Nat.lt_irrefl _), if_pos rfl]
    rfl
  · obtain ⟨a, b⟩ := rows_lt hs hd hj hi h
    rw [decide_eq_false b, decide_eq_true a, if_pos h]
    rfl
theorem app_lt : ∀ (a b : List Nat), b ≠ [] → a < a ++ b ∧ ¬ a ++ b < a
  | [], [], h => absurd rfl h
  | [], b :: r, _ => ⟨by simp, by simp⟩
  | x :: a, b, h => by
    obtain ⟨h1, h2⟩ := app_lt a b h
    refine ⟨?_, ?_⟩
    · rw [List.cons_append, List.cons_lt_cons_iff]
      exact .inr ⟨rfl, h1⟩
    · rw [List.cons_append, List.cons_lt_cons_iff]
      rintro (q | ⟨_, q⟩)
      · exact Nat.lt_irrefl _ q
      · exact h2 q
theorem rowE_ok : ((List.range 6).map fun i => (List.range 6).map fun j => if j < i then (1 : Int) else if i = j then 0 else -1) = (List.range 6).map rowE := by decide +kernel
theorem fmN_maj {g : Nat → Nat → Bool} {key : Nat → Nat} (hg : ∀ u v, u < 6 → v < 6 → g u v = decide (key v < key u)) : ∀ l : List Nat, l.length = 6 → (∀ x ∈ l, x < 6) → fmN g l 5 = fmajGo key 1 l
  | [a, b, c, d, e, f], _, hb => by
    have ha := hb a (by simp)
    have hb' := hb b (by simp)
    have hc := hb c (by simp)
    have hd := hb d (by simp)
    have he := hb e (by simp)
    have hf := hb f (by simp)
    show 0 + (if g a b = true then 0 + 1 else 0) + (if g b c = true then 1 + 1 else 0) + (if g c d = true then 2 + 1 else 0) + (if g d e = true then 3 + 1 else 0) + (if g e f = true then 4 + 1 else 0) =
      (if key b < key a then 1 else 0) + ((if key c < key b then 2 else 0) + ((if key d < key c then 3 else 0) + ((if key e < key d then 4 else 0) + ((if key f < key e then 5 else 0) + 0))))
    rw [hg a b ha hb', hg b c hb' hc, hg c d hc hd, hg d e hd he, hg e f he hf]
    simp only [decide_eq_true_eq, Nat.zero_add, Nat.reduceAdd, Nat.add_zero, Nat.add_assoc]
theorem hook_prod (ar : List Nat) : prodF (fun k => memb ((sizesP ar).getD k 0)) 5 = hookE (entP ar) := by
  show 1 * memb ((sizesP ar).getD 1 0) * memb ((sizesP ar).getD 2 0) * memb ((sizesP ar).getD 3 0) * memb ((sizesP ar).getD 4 0) * memb ((sizesP ar).getD 5 0) =
    memb ((sizesP ar).getD 1 0) * (memb ((sizesP ar).getD 2 0) * (memb ((sizesP ar).getD 3 0) * (memb ((sizesP ar).getD 4 0) * (memb ((sizesP ar).getD 5 0) * 1))))
  simp only [Nat.one_mul, Nat.mul_one, Nat.mul_assoc]
theorem mul5 (a b c d e f g h i j : Nat) : 1 * (a * f) * (b * g) * (c * h) * (d * i) * (e * j) = e * (d * (c * (b * (a * 1)))) * (f * (g * (h * (i * (j * 1))))) := by
  simp only [Nat.one_mul, Nat.mul_one]
  ac_rfl
theorem due_prod (ks ar : List Nat) : prodF (dueF ks ar (sizesP ar)) 5 = facB 5 * fallE (fun i => ks.getD i 0) (entP ar) := by
  have e1 : prodF (dueF ks ar (sizesP ar)) 5 = 1 * dueF ks ar (sizesP ar) 1 * dueF ks ar (sizesP ar) 2 * dueF ks ar (sizesP ar) 3 * dueF ks ar (sizesP ar) 4 * dueF ks ar (sizesP ar) 5 := rfl
  have e2 : facB 5 = memb 5 * (memb 4 * (memb 3 * (memb 2 * (memb 1 * 1)))) := by simp only [facB]
  rw [e1, e2]
  unfold fallE entP
  simp only [List.map_cons, List.map_nil, List.foldr_cons, List.foldr_nil]
  unfold dueF
  exact mul5 _ _ _ _ _ _ _ _ _ _
def pickOk (ar : List Nat) (k : Nat) : Bool := ((ordsP ar k).flatMap (insP (k + 1))).all fun l =>
  decide l.Nodup && (l.all fun x => x < 6) && (l.getLast? == some 0) && ((chainP ar 6 (k + 1)).all fun c => l.contains c) && (incrP l 0 (chainP ar 6 (k + 1)) == before l (k + 1) (ar.getD (k + 1) 0)) &&
  (incrP l 0 (chainP ar 6 (k + 1)).dropLast == before l (k + 1) (ar.getD (k + 1) 0)) && ((chainP ar 6 (k + 1)).dropLast.all fun c => l.idxOf c + 2 ≤ l.length)
theorem picksOk : ∀ a3, a3 < 3 → ∀ a4, a4 < 4 → ∀ a5, a5 < 5 → ∀ k, k < 5 → pickOk (around6 a3 a4 a5) k = true := by decide +kernel
theorem bnd_tot (ns : List (List Nat)) (k : Nat) : bnd ns k ≤ ns.flatten.length := by
  unfold bnd
  have : ns.flatten = (ns.take k).flatten ++ (ns.drop k).flatten := by rw [← List.flatten_append, List.take_append_drop]
  rw [this, List.length_append]
  exact Nat.le_add_right _ _
theorem lead_empty (y : Str) (ws : List Str) (hi : Nat) : findAll y (⟨#[]⟩ :: ws) 0 hi = findAll y ws 0 hi := by
  show (match Builtin.Str.occurrences y ⟨#[]⟩ 0 hi 1 with | i :: _ => findAll y ws (i + (⟨#[]⟩ : Str).length) hi | [] => false) = _
  rw [occ_empty (Nat.zero_le _)]
  rfl
theorem end_empty (y : Str) (hi a : Nat) (h : a ≤ hi) : findAll y [⟨#[]⟩] a hi = true := by
  show (match Builtin.Str.occurrences y ⟨#[]⟩ a hi 1 with | i :: _ => findAll y [] (i + (⟨#[]⟩ : Str).length) hi | [] => false) = _
  rw [occ_empty h]
  rfl
theorem join_flat (nx : Nat → Str) (l : List Nat) (t : Str) : (Str.join "" (l.map nx) ++ t).cps.toList = (l.map fun k => (nx k).cps.toList).flatten ++ t.cps.toList := by
  rw [Str.cps_append, Array.toList_append, joinNil, List.flatMap_map, List.flatMap_def]
theorem empty_ne {x : Str} (h : x.cps.toList ≠ []) : x ≠ ⟨#[]⟩ := fun e => h (by rw [e])
theorem seven_dot : ∀ kw, kw < 5 → ∀ d ∈ seven, 46 ∉ entL (tabW kw) d := by decide +kernel
theorem chain_l1 : ∀ a3, a3 < 3 → ∀ a4, a4 < 4 → ∀ a5, a5 < 5 → ∀ k, k < 6 → chainP (around6 a3 a4 a5) 6 k = (chainP (around6 a3 a4 a5) 6 k).dropLast ++ [0] := by decide +kernel
theorem chain_l2 : ∀ a3, a3 < 3 → ∀ a4, a4 < 4 → ∀ a5, a5 < 5 → ∀ k, k < 6 → ∀ c ∈ chainP (around6 a3 a4 a5) 6 k, c < 6 := by decide +kernel
theorem chain_last (a3 : Nat) (h3 : a3 < 3) (a4 : Nat) (h4 : a4 < 4) (a5 : Nat) (h5 : a5 < 5) (k : Nat) (hk : k < 6) : chainP (around6 a3 a4 a5) 6 k = (chainP (around6 a3 a4 a5) 6 k).dropLast ++ [0] ∧ (∀ c ∈ chainP (around6 a3 a4 a5) 6 k, c < 6) ∧ chainP (around6 a3 a4 a5) 6 k ≠ [] :=
  ⟨chain_l1 a3 h3 a4 h4 a5 h5 k hk, chain_l2 a3 h3 a4 h4 a5 h5 k hk, fun e => by have := chain_l1 a3 h3 a4 h4 a5 h5 k hk; rw [e] at this; simp at this⟩
theorem seven_small : ∀ x ∈ seven, x < 256 := by decide
theorem signs_of {c : Nat} (c1 : 256 ≤ c) (c2 : c < 55296) {ss ls : List Str} (hp : List.Perm (ss ++ ls) ((every7 ++ ⟨#[c]⟩).cps.toList.map fun c => ⟨#[c]⟩)) (h6 : ss.length = 6) : ∃ cs : List Nat, ss = cs.map (fun c => ⟨#[c]⟩) ∧ Signs c cs := by
  rw [every_cps] at hp
  have hm : ∀ s ∈ ss, ∃ x ∈ [38, 60, 62, 34, 13, 10, 9, c], (⟨#[x]⟩ : Str) = s := fun s hs => List.mem_map.mp (hp.mem_iff.mp (List.mem_append_left _ hs))
  let g : Str → Nat := fun s => s.cps.toList.headD 0
  have hgf : ∀ x : Nat, g ⟨#[x]⟩ = x := fun _ => rfl
  have hp2 : ((ss.map g) ++ (ls.map g)).Perm [38, 60, 62, 34, 13, 10, 9, c] := by
    have := hp.map g
    rw [List.map_append, List.map_map] at this
    have e : (g ∘ fun c => (⟨#[c]⟩ : Str)) = _root_.id := funext hgf
    rw [e, List.map_id] at this
    exact this
  have hx : ([38, 60, 62, 34, 13, 10, 9, c] : List Nat).Nodup := by
    show (seven ++ [c]).Nodup
    exact List.nodup_append.mpr ⟨by decide, List.nodup_cons.mpr ⟨fun h => (nomatch h), List.nodup_nil⟩, fun x hx y hy e => absurd (seven_small x hx) (Nat.not_lt.mpr (by rw [e, List.mem_singleton.mp hy]; exact c1))⟩
  refine ⟨ss.map g, ?_, ⟨by rw [List.length_map]; exact h6, (List.nodup_append.mp (hp2.nodup_iff.mpr hx)).1, fun x hx => hp2.mem_iff.mp (List.mem_append_left _ hx), c1, c2⟩⟩
  rw [List.map_map]
  have : ss.map ((fun c => (⟨#[c]⟩ : Str)) ∘ g) = ss.map _root_.id := List.map_congr_left fun s hs => by
    obtain ⟨x, _, rfl⟩ := hm s hs
    rfl
  rw [this, List.map_id]
section
variable {kw c a3 a4 a5 : Nat} {ev : Bool} {cs : List Nat} (hkw : kw < 5) (S : Signs c cs) (h3 : a3 < 3) (h4 : a4 < 4) (h5 : a5 < 5)
include hkw S h3 h4 h5
theorem pl_W : ∀ k, k < 6 → Wof ev (nxOf kw cs) (around6 a3 a4 a5) k = ("..." : Str) ++ nxOf kw cs k ++ Bof ev (nxOf kw cs) (around6 a3 a4 a5) k := by
  intro k hk
  apply strExt
  rw [Str.cps_append, Array.toList_append, Str.cps_append, Array.toList_append, dots3]
  show wL _ _ _ k = _
  unfold Bof
  by_cases h0 : k = 0
  · subst h0
    rw [if_pos rfl]
    show ([0].flatMap fun c => [46, 46, 46] ++ (nxOf kw cs c).cps.toList) ++ _ = _
    rw [List.flatMap_singleton]
  · rw [if_neg h0]
    show ((chainP (around6 a3 a4 a5) 6 k).flatMap fun c => [46, 46, 46] ++ (nxOf kw cs c).cps.toList) ++ _ = _
    rw [(chain_step a3 h3 a4 h4 a5 h5 k hk).resolve_left h0, List.flatMap_cons, List.append_assoc]
    rfl
omit hkw S h3 h4 h5 in
theorem pl_B : ∀ k, 1 ≤ k → k < 6 → Bof ev (nxOf kw cs) (around6 a3 a4 a5) k = Wof ev (nxOf kw cs) (around6 a3 a4 a5) ((around6 a3 a4 a5).getD k 0) := fun k h1 h2 => by
  unfold Bof
  rw [if_neg (Nat.ne_of_gt h1)]
theorem pl_n : ∀ k, k < 6 → (nxOf kw cs k).length ≤ 100 := by
  intro k hk
  exact Nat.le_trans (spell_name hkw S.c1 (S.mem _ (S.at hk))).2 (by decide)
theorem pl_b : ∀ k, k < 6 → (Bof ev (nxOf kw cs) (around6 a3 a4 a5) k).length ≤ 10000 := by
  intro k hk
  have hn : ∀ c, (nxOf kw cs c).length ≤ 100 := fun j => by
    show (escS (tabW kw) ⟨#[cs.getD j 0]⟩).length ≤ 100
    exact Nat.le_trans (escS_le kw _) (by show 8 * 1 ≤ 100; decide)
  have hd : ((dotsOf ev).cps.toList).length ≤ 3 := by rw [dots_cps]; cases ev <;> decide
  unfold Bof
  split
  · rw [strLen]; exact Nat.le_trans hd (by decide)
  · rw [strLen]
    exact Nat.le_trans (wL_len hd hn _) (by decide)
theorem pl_dist : ∀ i j, i < 6 → j < 6 → sxOf cs i = sxOf cs j → i = j := by
  intro i j hi hj h
  have : (sxOf cs i).cps.toList = (sxOf cs j).cps.toList := by rw [h]
  exact S.inj hi hj (List.cons.inj this).1
omit h3 h4 h5 in
theorem pl_inj : ∀ i j, i < 6 → j < 6 → nxOf kw cs i = nxOf kw cs j → i = j := fun i j hi hj h => S.inj hi hj (spell_inj hkw S.c1 (S.mem _ (S.at hi)) (S.mem _ (S.at hj)) h)
omit h3 h4 h5 in
theorem pl_nd : (six6s (nxOf kw cs)).Nodup := by
  have e : six6s (nxOf kw cs) = [0, 1, 2, 3, 4, 5].map (nxOf kw cs) := rfl
  rw [e]
  refine List.pairwise_map.mpr ?_
  have h6 : ∀ x ∈ [0, 1, 2, 3, 4, 5], x < 6 := by decide
  have nd : ([0, 1, 2, 3, 4, 5] : List Nat).Pairwise (fun a b => a ≠ b) := by decide
  exact List.Pairwise.imp_of_mem (fun {a b} ha hb hab e => hab (pl_inj hkw S a b (h6 a ha) (h6 b hb) e)) nd
omit h3 h4 h5 in
theorem pl_name : ∀ k, k < 6 → NameOk (nxOf kw cs k).cps.toList := fun k hk => (spell_name hkw S.c1 (S.mem _ (S.at hk))).1
omit h3 h4 h5 in
theorem pl_dot : ∀ k, k < 6 → 46 ∉ (nxOf kw cs k).cps.toList := fun k hk => by
  show 46 ∉ (spell kw (cs.getD k 0)).cps.toList
  rw [spell_cps]
  have hd := S.mem _ (S.at hk)
  have h1 := S.c1
  generalize cs.getD k 0 = d at hd
  rcases mem_seven hd with h | rfl
  · exact seven_dot kw hkw d h
  · rw [ent_big hkw h1]
    intro hm
    have := List.mem_singleton.mp hm
    exact absurd (this ▸ h1 : 256 ≤ 46) (by decide)
omit h3 h4 h5 in
theorem pl_ne : lastOf false (nxOf kw cs) ≠ ⟨#[]⟩ := by
  refine empty_ne fun e => ?_
  obtain ⟨a, s, e2, _⟩ := nm_head (pl_name hkw S 0 (by decide))
  have e : (nxOf kw cs 0).cps.toList = [] := e
  rw [e2] at e
  cases e
theorem pl_split {k : Nat} (hk : k < 6) : Txt.split (Wof ev (nxOf kw cs) (around6 a3 a4 a5) k) "..." = ⟨#[]⟩ :: (midsOf ev (nxOf kw cs) (around6 a3 a4 a5) k ++ [lastOf ev (nxOf kw cs)]) := by
  obtain ⟨g1, g2, g3⟩ := chain_last a3 h3 a4 h4 a5 h5 k hk
  have hfree : ∀ y ∈ (⟨#[]⟩ : Str) :: (midsOf ev (nxOf kw cs) (around6 a3 a4 a5) k ++ [lastOf ev (nxOf kw cs)]), 46 ∉ y.cps.toList := by
    intro y hy
    rcases List.mem_cons.mp hy with rfl | hy
    · exact fun h => nomatch h
    rcases List.mem_append.mp hy with hy | hy
    · unfold midsOf at hy
      obtain ⟨c, hc, rfl⟩ := List.mem_map.mp hy
      refine pl_dot hkw S c (g2 c ?_)
      cases ev
      · exact List.dropLast_subset _ hc
      · exact hc
    · rw [List.mem_singleton.mp hy]
      cases ev
      · exact pl_dot hkw S 0 (by decide)
      · exact fun h => nomatch h
  have hx : (Wof ev (nxOf kw cs) (around6 a3 a4 a5) k).cps.toList = jlD (⟨#[]⟩ :: (midsOf ev (nxOf kw cs) (around6 a3 a4 a5) k ++ [lastOf ev (nxOf kw cs)])) := by
    rw [jlD_flat]
    show wL _ _ _ k = [] ++ _
    rw [List.nil_append, List.flatMap_append, List.flatMap_singleton]
    unfold wL midsOf
    rw [dots_cps, List.flatMap_map]
    cases ev
    · show _ ++ [] = ((chainP (around6 a3 a4 a5) 6 k).dropLast.flatMap _) ++ ([46, 46, 46] ++ (nxOf kw cs 0).cps.toList)
      rw [List.append_nil]
      conv => lhs; rw [g1]
      rw [List.flatMap_append, List.flatMap_singleton]
    · rfl
  cases e : midsOf ev (nxOf kw cs) (around6 a3 a4 a5) k ++ [lastOf ev (nxOf kw cs)] with
  | nil => exact absurd e (by simp)
  | cons q r =>
    rw [e] at hfree hx
    exact split_dots _ _ _ _ hfree hx
theorem pl_O (w : World) (kvs : List (Str × Value)) (h : ∀ k, k < 6 → ∃ t, valueAt kvs (sxOf cs k) = some (.str (Wof ev (nxOf kw cs) (around6 a3 a4 a5) k) t)) :
    OrdIn w (sxOf cs) (nxOf kw cs) (Wof ev (nxOf kw cs) (around6 a3 a4 a5)) (tailOf ev) (lastOf ev (nxOf kw cs)) (midsOf ev (nxOf kw cs) (around6 a3 a4 a5)) kvs := by
  have hn6 : ∀ c, (nxOf kw cs c).length ≤ 100 := fun j => by
    show (escS (tabW kw) ⟨#[cs.getD j 0]⟩).length ≤ 100
    exact Nat.le_trans (escS_le kw _) (by show 8 * 1 ≤ 100; decide)
  have hd : ((dotsOf ev).cps.toList).length ≤ 3 := by rw [dots_cps]; cases ev <;> decide
  have hWlen : ∀ k, (Wof ev (nxOf kw cs) (around6 a3 a4 a5) k).length ≤ 700 := fun k => by
    rw [strLen]
    exact wL_len hd hn6 k
  refine ⟨fun k hk1 hk => ⟨fun c _ => hn6 c, ?_, pl_split hkw S h3 h4 h5 hk, ?_, Nat.le_trans (hWlen k) (by decide), ?_, ?_⟩, h, fun l h6 hlast h50 => ⟨h6, h50, ?_⟩⟩
  · rw [strLen, tail_cps]
    cases ev <;> decide
  · have : (!(Builtin.Str.occurrences (Wof ev (nxOf kw cs) (around6 a3 a4 a5) k) "..." 0 (Wof ev (nxOf kw cs) (around6 a3 a4 a5) k).length 1).isEmpty) = true := by
      rw [StrLaws.found_iff]
      obtain ⟨g1, g2, g3⟩ := chain_last a3 h3 a4 h4 a5 h5 k hk
      have hpre : [46, 46, 46] <+: (Wof ev (nxOf kw cs) (around6 a3 a4 a5) k).cps.toList := by
        show [46, 46, 46] <+: wL _ _ _ k
        unfold wL
        cases e : chainP (around6 a3 a4 a5) 6 k with
        | nil => exact absurd e g3
        | cons c r =>
          rw [List.flatMap_cons, List.append_assoc, List.append_assoc]
          exact List.prefix_append _ _
      refine ⟨0, ?_, ?_⟩
      · rw [dot3_len, strLen]
        have := hpre.length_le
        exact this
      · rw [subAt_pre, dot3, List.drop_zero]
        exact hpre
    simpa using this
  · unfold midsOf
    rw [List.length_map]
    have := chain_len (around6 a3 a4 a5) 6 k
    cases ev
    · show (chainP (around6 a3 a4 a5) 6 k).dropLast.length ≤ 90
      rw [List.length_dropLast]; exact Nat.le_trans (Nat.sub_le _ _) (Nat.le_trans this (by decide))
    · show (chainP (around6 a3 a4 a5) 6 k).length ≤ 90
      exact Nat.le_trans this (by decide)
  · intro x hx
    unfold midsOf at hx
    obtain ⟨c, _, rfl⟩ := List.mem_map.mp hx
    exact Nat.le_trans (hn6 c) (by decide)
  · cases ev with
    | true => exact .inl rfl
    | false =>
      refine .inr ⟨pl_ne hkw S, ?_⟩
      obtain ⟨l', rfl⟩ := List.getLast?_eq_some_iff.mp hlast
      have hy := join_flat (nxOf kw cs) (l' ++ [0]) (tailOf false)
      generalize Str.join "" ((l' ++ [0]).map (nxOf kw cs)) ++ tailOf false = y at hy
      have e1 : (tailOf false).cps.toList = [] := by rw [tail_cps]; rfl
      have e2 : (lastOf false (nxOf kw cs)).cps.toList = (nxOf kw cs 0).cps.toList := rfl
      rw [e1, List.append_nil, List.map_append, List.flatten_append] at hy
      have hy2 : y.cps.toList = (l'.map fun k => (nxOf kw cs k).cps.toList).flatten ++ (nxOf kw cs 0).cps.toList := by
        rw [hy]; simp
      have hl1 : y.length = (l'.map fun k => (nxOf kw cs k).cps.toList).flatten.length + (nxOf kw cs 0).cps.toList.length := by rw [strLen, hy2, List.length_append]
      have hl2 : (lastOf false (nxOf kw cs)).length = (nxOf kw cs 0).cps.toList.length := by rw [strLen, e2]
      refine ⟨?_, by first | (rw [hl1, hl2, Nat.zero_add]; exact Nat.le_add_left _ _) | omega⟩
      unfold Txt.endswith
      rw [Bool.and_eq_true, decide_eq_true_eq]
      refine ⟨by first | (rw [hl1, hl2, Nat.zero_add]; exact Nat.le_add_left _ _) | (rw [hl1, hl2]; exact Nat.le_add_left _ _) | omega, ?_⟩
      rw [subAt_pre, e2, hy2, hl1, hl2, Nat.add_sub_cancel, List.drop_left]
      exact List.prefix_refl _
theorem pl_pick {k : Nat} (hk : k < 5) {l : List Nat} (hl : l ∈ (ordsP (around6 a3 a4 a5) k).flatMap (insP (k + 1))) :
    pick (nxOf kw cs) (tailOf ev) (midsOf ev (nxOf kw cs) (around6 a3 a4 a5) (k + 1)) (lastOf ev (nxOf kw cs)) l = before l (k + 1) ((around6 a3 a4 a5).getD (k + 1) 0) := by
  have h := List.all_eq_true.mp (picksOk a3 h3 a4 h4 a5 h5 k hk) l hl
  simp only [Bool.and_eq_true, decide_eq_true_eq, beq_iff_eq, List.all_eq_true, List.contains_iff_mem] at h
  obtain ⟨⟨⟨⟨⟨⟨hnd, hb⟩, hlast⟩, hmem⟩, hin1⟩, hin2⟩, hpos⟩ := h
  have hok : ∀ j ∈ l, NameOk (nxOf kw cs j).cps.toList := fun j hj => pl_name hkw S j (hb j hj)
  have hinj : ∀ i ∈ l, ∀ j ∈ l, nxOf kw cs i = nxOf kw cs j → i = j := fun i hi j hj e => pl_inj hkw S i j (hb i hi) (hb j hj) e
  have hy := join_flat (nxOf kw cs) l (tailOf ev)
  have ht : ∀ x ∈ (tailOf ev).cps.toList, x ∈ tailC := by
    rw [tail_cps]
    cases ev
    · exact fun x hx => nomatch hx
    · intro x hx
      rw [List.mem_singleton.mp hx]
      decide
  have hall : ∀ m ∈ l.map (fun k => (nxOf kw cs k).cps.toList), NameOk m := fun m hm => by
    obtain ⟨i, hi, rfl⟩ := List.mem_map.mp hm
    exact hok i hi
  unfold pick
  generalize hY : Str.join "" (l.map (nxOf kw cs)) ++ tailOf ev = y at hy
  have hlen : y.length = (l.map fun k => (nxOf kw cs k).cps.toList).flatten.length + (tailOf ev).cps.toList.length := by rw [strLen, hy, List.length_append]
  unfold ellV
  cases ev with
  | true =>
    rw [show lastOf true (nxOf kw cs) = ⟨#[]⟩ from rfl, if_pos rfl, lead_empty]
    show findAll y ((chainP (around6 a3 a4 a5) 6 (k + 1)).map (nxOf kw cs) ++ [⟨#[]⟩]) (bnd (l.map fun k => (nxOf kw cs k).cps.toList) 0) y.length = _
    rw [find_incr hok hinj hnd ht hy y.length [⟨#[]⟩] (fun a ha => end_empty y _ a ha) _ 0 (fun c hc => ⟨hmem c hc, Nat.le_trans (bnd_tot _ _) (by first | (rw [hlen]; exact Nat.le_add_right _ _) | omega)⟩) (Nat.zero_le _) (Nat.zero_le _)]
    exact hin1
  | false =>
    have hne : lastOf false (nxOf kw cs) ≠ ⟨#[]⟩ := by
      refine empty_ne fun e => ?_
      obtain ⟨a, s, e2, _⟩ := nm_head (pl_name hkw S 0 (by decide))
      have e : (nxOf kw cs 0).cps.toList = [] := e
      rw [e2] at e
      cases e
    rw [if_neg hne, lead_empty]
    obtain ⟨l', rfl⟩ := List.getLast?_eq_some_iff.mp hlast
    have hb1 : y.length - (lastOf false (nxOf kw cs)).length = bnd ((l' ++ [0]).map fun k => (nxOf kw cs k).cps.toList) l'.length := by
      rw [hlen]
      have e1 : (tailOf false).cps.toList.length = 0 := by rw [tail_cps]; rfl
      have e2 : (lastOf false (nxOf kw cs)).length = (nxOf kw cs 0).cps.toList.length := by rw [strLen]; rfl
      rw [e1, e2]
      unfold bnd
      rw [List.map_append, List.flatten_append, List.length_append, List.take_append_of_le_length (by simp), List.take_of_length_le (by simp)]
      simp
    rw [hb1]
    have hln : (l' ++ [0]).length = l'.length + 1 := by simp
    have := find_incr hok hinj hnd ht hy (bnd ((l' ++ [0]).map fun k => (nxOf kw cs k).cps.toList) l'.length) [] (fun a ha => rfl) (chainP (around6 a3 a4 a5) 6 (k + 1)).dropLast 0 (fun c hc => ⟨hmem c (List.dropLast_subset _ hc), (bnd_le hall (by rw [List.length_map]; exact Nat.le_of_succ_le (hpos c hc)) (by rw [List.length_map, hln]; exact Nat.le_succ _)).mpr (Nat.le_of_succ_le_succ (hln ▸ hpos c hc))⟩) (Nat.zero_le _) (Nat.zero_le _)
    rw [List.append_nil] at this
    show findAll y (((chainP (around6 a3 a4 a5) 6 (k + 1)).dropLast).map (nxOf kw cs)) (bnd ((l' ++ [0]).map fun k => (nxOf kw cs k).cps.toList) 0) _ = _
    rw [this]
    exact hin2
theorem pl_ord : ordsAt (nxOf kw cs) (tailOf ev) (lastOf ev (nxOf kw cs)) (midsOf ev (nxOf kw cs) (around6 a3 a4 a5)) 5 = ordsP (around6 a3 a4 a5) 5 := by
  have : ∀ k, k ≤ 5 → ordsAt (nxOf kw cs) (tailOf ev) (lastOf ev (nxOf kw cs)) (midsOf ev (nxOf kw cs) (around6 a3 a4 a5)) k = ordsP (around6 a3 a4 a5) k := by
    intro k
    induction k with
    | zero => exact fun _ => rfl
    | succ k ih =>
      intro hk
      show ((ordsAt _ _ _ _ k).flatMap (insAll (k + 1))).filter (pick _ _ _ _) = ((ordsP (around6 a3 a4 a5) k).flatMap (insP (k + 1))).filter _
      rw [ih (Nat.le_of_succ_le hk)]
      refine List.filter_congr fun l hl => ?_
      exact pl_pick hkw S h3 h4 h5 hk hl
  exact this 5 (Nat.le_refl _)
omit hkw S in
theorem pl_ordok : ∀ l ∈ ordsP (around6 a3 a4 a5) 5, l.length = 6 ∧ ∀ x ∈ l, x < 6 := by
  have : ∀ a3, a3 < 3 → ∀ a4, a4 < 4 → ∀ a5, a5 < 5 → ∀ l ∈ ordsP (around6 a3 a4 a5) 5, l.length = 6 ∧ ∀ x ∈ l, x < 6 := by decide +kernel
  exact this a3 h3 a4 h4 a5 h5
theorem pl_told {rs : List Str} (hp : rs.Perm (six6s (nxOf kw cs))) (hs : sortedS rs = true) :
    toldG (gtR rs ((six6s (nxOf kw cs)).map rs.idxOf)) (ordsP (around6 a3 a4 a5) 5) * prodF (fun k => memb ((sizesP (around6 a3 a4 a5)).getD k 0)) 5 = prodF (dueF ((six6s (nxOf kw cs)).map rs.idxOf) (around6 a3 a4 a5) (sizesP (around6 a3 a4 a5))) 5 := by
  have hd : rs.Nodup := hp.nodup_iff.mpr (pl_nd hkw S)
  have hl : rs.length = 6 := hp.length_eq
  have hm : ∀ i, i < 6 → nxOf kw cs i ∈ rs := fun i hi => hp.mem_iff.mpr (by
    have : ∀ i, i < 6 → nxOf kw cs i ∈ six6s (nxOf kw cs)
      | 0, _ => by simp [six6s]
      | 1, _ => by simp [six6s]
      | 2, _ => by simp [six6s]
      | 3, _ => by simp [six6s]
      | 4, _ => by simp [six6s]
      | 5, _ => by simp [six6s]
    exact this i hi)
  have hk : ∀ i, i < 6 → ((six6s (nxOf kw cs)).map rs.idxOf).getD i 0 = rs.idxOf (nxOf kw cs i)
    | 0, _ => rfl
    | 1, _ => rfl
    | 2, _ => rfl
    | 3, _ => rfl
    | 4, _ => rfl
    | 5, _ => rfl
  have hlt : ∀ i, i < 6 → rs.idxOf (nxOf kw cs i) < rs.length := fun i hi => List.idxOf_lt_length_iff.mpr (hm i hi)
  have hget : ∀ i (hi : i < 6), rs[rs.idxOf (nxOf kw cs i)]'(hlt i hi) = nxOf kw cs i := fun i hi => List.getElem_idxOf _
  have hg : ∀ u v, u < 6 → v < 6 → gtR rs ((six6s (nxOf kw cs)).map rs.idxOf) u v = decide (((six6s (nxOf kw cs)).map rs.idxOf).getD v 0 < ((six6s (nxOf kw cs)).map rs.idxOf).getD u 0) := by
    intro u v hu hv
    unfold gtR
    rw [hk u hu, hk v hv, List.getD_eq_getElem?_getD, List.getElem?_eq_getElem (hlt u hu), List.getD_eq_getElem?_getD, List.getElem?_eq_getElem (hlt v hv), Option.getD_some, Option.getD_some, coll_at hs hd (hlt u hu) (hlt v hv)]
    by_cases h : rs.idxOf (nxOf kw cs v) < rs.idxOf (nxOf kw cs u)
    · rw [if_pos h, decide_eq_true h]; rfl
    · rw [if_neg h, decide_eq_false h]
      split <;> rfl
  have hinj : ∀ i, i < 6 → ∀ j, j < 6 → i ≠ j → ((six6s (nxOf kw cs)).map rs.idxOf).getD i 0 ≠ ((six6s (nxOf kw cs)).map rs.idxOf).getD j 0 := by
    intro i hi j hj hij e
    rw [hk i hi, hk j hj] at e
    have e1 := hget i hi
    have e2 := hget j hj
    simp only [e] at e1
    rw [e2] at e1
    exact hij (pl_inj hkw S j i hj hi e1).symm
  rw [hook_prod, due_prod]
  have h := told_due a3 a4 a5 h3 h4 h5 (fun i => ((six6s (nxOf kw cs)).map rs.idxOf).getD i 0) hinj
  rw [← h]
  refine congrArg (fun z => z * hookE (entP (around6 a3 a4 a5))) ?_
  unfold toldG
  refine congrArg List.sum (List.map_congr_left fun l hl => ?_)
  obtain ⟨o1, o2⟩ := pl_ordok h3 h4 h5 l hl
  rw [fmN_maj hg l o1 o2]
omit h3 h4 h5 in
theorem pl_rank {rs : List Str} (hp : rs.Perm (six6s (nxOf kw cs))) : ∀ x ∈ (six6s (nxOf kw cs)).map rs.idxOf, x < 6 := by
  intro x hx
  obtain ⟨y, hy, rfl⟩ := List.mem_map.mp hx
  have h1 := List.idxOf_lt_length_iff.mpr (hp.mem_iff.mpr hy)
  rw [hp.length_eq] at h1
  exact h1
omit h3 h4 h5 in
theorem pl_rows {rs : List Str} (hp : rs.Perm (six6s (nxOf kw cs))) (hs : sortedS rs = true) : (rs.map fun x => rs.map (collI x)) = (List.range 6).map rowE := by
  have hd : rs.Nodup := hp.nodup_iff.mpr (pl_nd hkw S)
  have hl : rs.length = 6 := hp.length_eq
  rw [← rowE_ok]
  refine List.ext_getElem (by simp [hl]) fun i h1 h2 => ?_
  rw [List.getElem_map, List.getElem_map, List.getElem_range]
  refine List.ext_getElem (by simp [hl]) fun j h3 h4 => ?_
  rw [List.getElem_map, List.getElem_map, List.getElem_range]
  exact coll_at hs hd _ _
omit h3 h4 h5 in
theorem pl_four : [collI "" (nxOf kw cs 0), collI (nxOf kw cs 0 ++ nxOf kw cs 1) (nxOf kw cs 0), collI (nxOf kw cs 0) (spell kw (cs.getD 0 0)), collI "Z" "a"] = [-1, 1, 0, -1] := by
  have hne : ∀ k, k < 6 → (nxOf kw cs k).cps.toList ≠ [] := fun k hk e => by
    obtain ⟨a, t, e2, _⟩ := nm_head (spell_name hkw S.c1 (S.mem _ (S.at hk))).1
    have e : (spell kw (cs.getD k 0)).cps.toList = [] := e
    rw [e2] at e
    cases e
  have f1 : collI "" (nxOf kw cs 0) = -1 := by
    unfold collI ltS
    have e0 : ("" : Str).cps.toList = [] := by decide +kernel
    rw [e0]
    have h := hne 0 (by decide)
    generalize (nxOf kw cs 0).cps.toList = n at h
    obtain ⟨a, b⟩ := app_lt [] n h
    rw [List.nil_append] at a b
    rw [decide_eq_false b, decide_eq_true a]
    rfl
  have f2 : collI (nxOf kw cs 0 ++ nxOf kw cs 1) (nxOf kw cs 0) = 1 := by
    unfold collI ltS
    rw [Str.cps_append, Array.toList_append]
    obtain ⟨a, b⟩ := app_lt (nxOf kw cs 0).cps.toList (nxOf kw cs 1).cps.toList (hne 1 (by decide))
    rw [decide_eq_false b, decide_eq_true a]
    rfl
  have f3 : collI (nxOf kw cs 0) (spell kw (cs.getD 0 0)) = 0 := by
    show collI (nxOf kw cs 0) (nxOf kw cs 0) = 0
    unfold collI
    exact Int.sub_self _
  have f4 : collI "Z" "a" = -1 := by decide +kernel
  rw [f1, f2, f3, f4]
omit hkw S in
theorem pl_sizes : ∀ k, k < 6 → 1 ≤ (sizesP (around6 a3 a4 a5)).getD k 0 ∧ (sizesP (around6 a3 a4 a5)).getD k 0 ≤ 6 := by
  have : ∀ a3, a3 < 3 → ∀ a4, a4 < 4 → ∀ a5, a5 < 5 → ∀ k, k < 6 → 1 ≤ (sizesP (around6 a3 a4 a5)).getD k 0 ∧ (sizesP (around6 a3 a4 a5)).getD k 0 ≤ 6 := by decide +kernel
  exact this a3 h3 a4 h4 a5 h5
omit hkw S in
theorem pl_ar : ∀ k, k < 6 → (around6 a3 a4 a5).getD k 0 < 6 := by
  have : ∀ a3, a3 < 3 → ∀ a4, a4 < 4 → ∀ a5, a5 < 5 → ∀ k, k < 6 → (around6 a3 a4 a5).getD k 0 < 6 := by decide +kernel
  exact this a3 h3 a4 h4 a5 h5
end

end

section
open PyProof.Rows.LCg
theorem sue1body_1 : True := by
  w_top off
  (k_with "e157" => skip)
  (k_with "e158" => skip)
  (k_with "e254" => skip)
  (k_with "e160" => skip)
  (k_with "e161" => skip)
  (k_with "e162" => skip)
  (k_with "e163" => skip)
  (k_with "e175" => skip)
  (k_with "e164" => skip)
  (k_with "e165" => skip)
  (k_with "e257" => skip)
  (k_with "e182" => skip)
  (k_with "e256" => skip)
  (k_with "e255" => skip)
  trivial
theorem sizesP_len (ar : List Nat) : (sizesP ar).length = 6 := by simp [sizesP]
theorem Signs.lt {c : Nat} {cs : List Nat} (S : Signs c cs) : ∀ x ∈ cs, x < 55296 := fun x hx => by
  exact (List.mem_append.mp (S.mem x hx : x ∈ [38, 60, 62, 34, 13, 10, 9] ++ [c])).elim ((by decide : ∀ y ∈ [38, 60, 62, 34, 13, 10, 9], y < 55296) x) fun h => List.mem_singleton.mp h ▸ S.c2
theorem led_ne {gr : Node} {gt ga : Value} (ok : gr.Ok gt ga) (pm : Value) (c2 : Addr) (items : List Value) (n : Nat) {x : Addr} (h : @LT.lt Nat _ x gr.ce ∨ @LT.lt Nat _ gr.l x ∧ @LT.lt Nat _ x gr.f2) : RNe (gr.led pm c2 items n) x := ⟨by
  have N := ok.offC h
  intro q hq
  simp only [Node.led, List.mem_cons, List.not_mem_nil, or_false] at hq
  rcases hq with rfl | rfl | rfl | rfl | rfl
  · exact NeL.ne 4 N rfl
  · exact NeL.ne 1 N rfl
  · exact NeL.ne 2 N rfl
  · exact NeL.ne 3 N rfl
  · exact NeL.ne 0 N rfl⟩
theorem cell_ne {h₀ h : Heap} {L : Addr} {l : List (Addr × Obj)} (N : News h₀ L h l) {rest : List (Addr × Obj)} (hs : ∀ q ∈ rest, q ∈ l) (hnc : ∀ q ∈ rest, ∀ x, q.2.data ≠ .cell x) {c : Addr} {o : Obj} {x : Option Value} (hc : (c, o) ∈ l) (hd : o.data = .cell x) : RNe rest c :=
  ⟨fun q hq => news_ne N (hs q hq) hc (by show q.2.data ≠ o.data; rw [hd]; exact hnc q hq x)⟩
theorem ords_nc (os : List Ord) : ∀ q ∈ os.map Ord.led, ∀ x, q.2.data ≠ .cell x := by
  intro q hq x
  obtain ⟨o, _, rfl⟩ := List.mem_map.mp hq
  exact fun e => nomatch e
theorem RNe.cons {q : Addr × Obj} {r : List (Addr × Obj)} {x : Addr} (h : q.1 ≠ x) (g : RNe r x) : RNe (q :: r) x := ⟨fun p hp => (List.mem_cons.mp hp).elim (fun e => e ▸ h) (g.ne p)⟩
theorem top_lt {w : World} {h₀ h : Heap} {L : Addr} {m : Str → Option Value} (X : (hd.heap_39 w.params).In h₀) (F : Fr h₀ L h m) : @LT.lt Nat _ 138 L := by
  obtain ⟨o, ho⟩ : ∃ o, (hd.heap_39 w.params).lookup 138 = some o := ⟨_, rfl⟩
  exact Nat.lt_of_lt_of_le (Heap.lt_size (X 138 o ho)) F.above
theorem law_body (w : World) (mg mb : Str → Option Value) (fa : Addr) (cd : Value)
   (p : Program) (loose : List Str) (mean : ExcName → Option Value) (dp un : Nat) (gd : Option (List Code)) (a : Addr) (ccd : Value) (cl : List (Str × Addr)) (outer : List Env) (A₀ : Around) (base h₀ : Heap) (L : Addr) (m : Str → Option Value) (s : Shared) (Q : Flow → Shared → Prop) (E : Value → Shared → Prop)
   (B : Below A₀ base outer h₀) (X : (hd.heap_39 w.params).In h₀) (T : Top p loose mean mg mb h₀) (F : Fr h₀ L s.heap m) (HG : CodeHd base 99 95)
   (o1 o2 o3 o4 o5 o6 : Obj) (v1 v2 v3 v4 v5 v6 : Option Value) (sc : Addr) (vs : List Value) (ns : List Int) (hS : base.IsList sc vs.toArray) (hI : IntsAre vs ns) (hn : ns.length ≤ 63)
   (N : News h₀ L s.heap (cel6 L o1 o2 o3 o4 o5 o6 ++ [(95, tabObj #[])])) (k1 : o1.data = .cell v1) (k2 : o2.data = .cell v2) (k3 : o3.data = .cell v3) (k4 : o4.data = .cell v4) (k5 : o5.data = .cell v5) (k6 : o6.data = .cell v6)
   (m1 : m "script" = some (.ref sc)) (hdp : dp + 40 < recursionLimit) (hun : un + 500 < cLine)
   (hE : PassesOwn (model pg w) (ktrTop dp un gd "law" (scopeAt w 138) L a ccd cl outer) (envOfC "law" (scopeAt w 138) L fa cd) E)
   (K : ∀ (h' : Heap) (tk' : Nat) (m' : Str → Option Value) (c1 c2 : Addr), Fr h₀ L h' m' → News h₀ L h' [(95, tabFull c1 c2)] → Q (.ret (.bool true)) { s with heap := h', toks := tk' }) :
   wpAny (model pg w) (ktrTop dp un gd "law" (scopeAt w 138) L a ccd cl outer) (execs lawB (envOfC "law" (scopeAt w 138) L fa cd)) Q E s := by
  have h200 := top_lt X F
  refine seg1 w mg mb fa cd p loose mean dp un gd a ccd cl outer A₀ base h₀ L m s Q E B X T F o1 o2 o3 o4 o5 o6 (tabObj #[]) v1 v2 sc vs ns hS hI hn N (by omega) k1 k2 m1 hdp (by omega) ?_
  intro h1 tk1 m1' o1' o2' l vals cells kw c tw te F1 N1 CO hkw hc1 hc2 q1 q2 e1 e2 hl
  refine seg2 w mg mb fa cd p loose mean dp un gd a ccd cl outer A₀ base h₀ L m1' { s with heap := h1, toks := tk1 } Q E B X T F1 HG o1' o2' o3 o4 o5 o6 (tabObj #[]) l vals kw c tw te N1 q1 q2 hkw hc1 e1 e2 hdp (by omega) ?_
  intro h2 tk2 m2' F2 N2 e1 e2
  refine seg3 w mg mb fa cd p loose mean dp un gd a ccd cl outer A₀ base h₀ L m2' { s with heap := h2, toks := tk2 } Q E B X T F2 o1' o2' o3 o4 o5 o6 (tabObj #[]) l vals cells c te N2 (by omega) (by omega) CO.hints CO.hlen (fun x hx => (CO.hbnd x hx).1) e1 e2 hdp (by omega) hE ?_
  intro h3 tk3 m3' sg sv ss ls ns' F3 N3 hs3 hp3 h6 e1 e2 hlsg
  obtain ⟨cs, rfl, S⟩ := signs_of hc1 hc2 hp3 h6
  refine seg4 w mg mb fa cd p loose mean dp un gd a ccd cl outer A₀ base h₀ L m3' { s with heap := h3, toks := tk3 } Q E B X T F3 HG o1' o2' o3 o4 o5 o6 (tabObj #[]) l sg vals sv kw ns' cs tw N3 (by omega) (by omega) hlsg q1 q2 hkw hs3 S.len S.lt e1 e2 hdp hun ?_
  intro h4 tk4 m4' nl nv nn F4 N4 hnv e1 e2 e3 off4
  obtain ⟨su, rfl⟩ := strsAre_six hs3 S.len
  obtain ⟨nu, rfl⟩ := strsAre_six hnv S.len
  refine seg5 w mg mb fa cd p loose mean dp un gd a ccd cl outer A₀ base h₀ L m4' { s with heap := h4, toks := tk4 } Q E B X T F4 HG o1' o2' o3 o4 o5 o6 l sg nl vals cells (sxOf cs) (nxOf kw cs) su nu ns' nn N4 h200 (by omega) hlsg off4 CO.hints CO.hlen (fun x hx => (CO.hbnd x hx).1) e1 e2 e3 hdp hun ?_
  intro h5 tk5 m5' al a3 a4 a5 ab gr gt ga c1 c2 I oc2 vs2 t2 Bk gn ha3 ha4 ha5 F5 N5 ok hd2 hv2 D g1 g2 g3 g4 g5 g6 e2 e3 e1 e4 e5
  have N5' : News h₀ L h5 ([(sg, listOf (sixS (sxOf cs) su) ns'), (nl, listOf (sixS (nxOf kw cs) nu) nn), (al, listOf (sixI (fun k => (around6 a3 a4 a5).getD k 0) ab) 0), (c2, oc2), (95, tabFull c1 c2)] ++ (cel6 L o1' o2' o3 o4 o5 o6 ++ ((l, listOf vals.toArray 0) :: (gr.led (pmOf mg) c2 [.ref (Bk 0).nd.f] gn ++ canonB (pmOf mg) c2 6 Bk)))) := Newss.sub N5 fun q hq => by
    simp only [List.mem_append, List.mem_cons] at hq ⊢
    rcases hq with hq | hq | hq | hq | hq
    · exact .inr (.inl hq)
    · exact .inr (.inr (.inl hq))
    · exact .inr (.inr (.inr (.inl hq)))
    · exact .inl hq
    · exact .inr (.inr (.inr (.inr hq)))
  have p1 : @LT.lt Nat _ 95 gr.ce := Nat.lt_trans (Nat.lt_trans (Nat.lt_trans (Nat.lt_trans (Nat.lt_trans (by decide) h200) (Nat.lt_of_le_of_lt (Nat.le_add_right L 6) hl)) hlsg) g1) g3
  have cI : ∀ {x : Addr}, @LT.lt Nat _ x I → RNe (canonB (pmOf mg) c2 6 Bk) x := fun {x} hx => ⟨fun q hq => Nat.ne_of_gt (Nat.lt_trans hx (canon_gt D (pmOf mg) c2 q hq))⟩
  refine seg6 w mg mb fa cd p loose mean dp un gd a ccd cl outer A₀ base h₀ L m5' { s with heap := h5, toks := tk5 } Q E B X T F5 HG o1' o2' o3 o4 o5 o6 l sg nl al c1 c2 gr.f oc2 vs2 t2 vals cells _ _ _ ns' nn 0 (gr.led (pmOf mg) c2 [.ref (Bk 0).nd.f] gn ++ canonB (pmOf mg) c2 6 Bk) N5' h200 (by omega) hlsg g1 g2 (Nat.lt_trans (ok.gl g3) g4) off4
    (RNe.app (led_ne ok _ _ _ _ (.inl p1)) (cI (Nat.lt_trans (ok.gf2 p1) g6))) (RNe.app (led_ne ok _ _ _ _ (.inr ⟨g4, g5⟩)) (cI (Nat.lt_trans g5 g6))) hd2 hv2 CO.hints CO.hlen e1 e2 e3 e4 e5 hdp hun ?_
  intro h6 tk6 m6' ev t3 t4 F6 N6 e2 e3 e4 e5 e6 e7
  refine seg7 w mg mb fa cd p loose mean dp un gd a ccd cl outer A₀ base h₀ L m6' { s with heap := h6, toks := tk6 } Q E B X T F6 HG o1' o2' o3 o4 o5 o6 l sg nl al c1 c2 I oc2 gr gt ga gn vals (sxOf cs) (nxOf kw cs) (Wof ev (nxOf kw cs) (around6 a3 a4 a5)) (Bof ev (nxOf kw cs) (around6 a3 a4 a5)) (fun k => (around6 a3 a4 a5).getD k 0) su nu ab ns' nn 0 Bk (tailOf ev) (lastOf ev (nxOf kw cs)) (midsOf ev (nxOf kw cs) (around6 a3 a4 a5)) t3 t4 N6 h200 (by omega) hlsg g1 g2 g3 g4 g5 g6 off4 ok D (around_lt ha3 ha4 ha5)
    (pl_W hkw S ha3 ha4 ha5) pl_B (fun k hk => Nat.le_trans (pl_n hkw S ha3 ha4 ha5 k hk) (by decide)) (pl_b hkw S ha3 ha4 ha5) (fun i j hi hj => pl_dist hkw S ha3 ha4 ha5 i j hi hj) (pl_O hkw S ha3 ha4 ha5 w) e2 e3 e4 e5 e6 e7 hdp hun ?_
  intro h7 tk7 m7' oA nA os F7 hO7 N7 e2 e3 e4 e5
  have hnlc : ∀ q ∈ cel6 L o1' o2' o3 o4 o5 o6, q.1 ≠ nl := fun q hq => off4 q (List.mem_cons_of_mem _ (List.mem_append_left _ hq))
  obtain ⟨rest, hrest⟩ : ∃ r, r = (oA, listOf (refsOf os).toArray nA) :: (al, listOf (sixI (fun k => (around6 a3 a4 a5).getD k 0) ab) 0) :: (sg, listOf (sixS (sxOf cs) su) ns') :: (95, tabFull c1 c2) :: os.map Ord.led := ⟨_, rfl⟩
  have hoA : (oA, listOf (refsOf os).toArray nA) ∈ rest := by rw [hrest]; exact List.mem_cons_self ..
  have hal : (al, listOf (sixI (fun k => (around6 a3 a4 a5).getD k 0) ab) 0) ∈ rest := by rw [hrest]; exact List.mem_cons_of_mem _ (List.mem_cons_self ..)
  have hsg : (sg, listOf (sixS (sxOf cs) su) ns') ∈ rest := by rw [hrest]; exact List.mem_cons_of_mem _ (List.mem_cons_of_mem _ (List.mem_cons_self ..))
  have h95 : (95, tabFull c1 c2) ∈ rest := by rw [hrest]; exact List.mem_cons_of_mem _ (List.mem_cons_of_mem _ (List.mem_cons_of_mem _ (List.mem_cons_self ..)))
  have hos : ∀ q ∈ os.map Ord.led, q ∈ rest := fun q hq => by rw [hrest]; exact List.mem_cons_of_mem _ (List.mem_cons_of_mem _ (List.mem_cons_of_mem _ (List.mem_cons_of_mem _ hq)))
  have hnc : ∀ q ∈ rest, ∀ x, q.2.data ≠ .cell x := by
    intro q hq x
    rw [hrest] at hq
    rcases List.mem_cons.mp hq with rfl | hq
    · exact fun e => nomatch e
    rcases List.mem_cons.mp hq with rfl | hq
    · exact fun e => nomatch e
    rcases List.mem_cons.mp hq with rfl | hq
    · exact fun e => nomatch e
    rcases List.mem_cons.mp hq with rfl | hq
    · exact fun e => nomatch e
    · exact ords_nc os q hq x
  have N7' : News h₀ L h7 ((nl, listOf (sixS (nxOf kw cs) nu) nn) :: (cel6 L o1' o2' o3 o4 o5 o6 ++ rest)) := Newss.sub N7 fun q hq => by
    rw [hrest] at hq
    simp only [List.mem_append, List.mem_cons, List.not_mem_nil, or_false] at hq ⊢
    rcases hq with hq | hq | hq | hq | hq | hq | hq <;> simp only [hq, true_or, or_true]
  have inr7 : ∀ {o : Obj} {x : Addr}, (x, o) ∈ cel6 L o1' o2' o3 o4 o5 o6 → ∀ {v : Option Value}, o.data = .cell v → RNe rest x := fun {o x} hx {v} hv => cell_ne N7' (fun q hq => List.mem_cons_of_mem _ (List.mem_append_right _ hq)) hnc (List.mem_cons_of_mem _ (List.mem_append_left _ hx)) hv
  refine seg8 w mg mb fa cd p loose mean dp un gd a ccd cl outer A₀ base h₀ L m7' { s with heap := h7, toks := tk7 } Q E B X T F7 HG o1' o2' o3 o4 o5 o6 sg nl al oA (nxOf kw cs) nu nn rest N7' (inr7 (o := o3) (by k_mem) k3) (inr7 (o := o4) (by k_mem) k4) hnlc ⟨v3, k3⟩ ⟨v4, k4⟩ e2 e3 e4 e5 hdp hun ?_
  intro h8 tk8 m8' o3' o4' rk rn rv kv rs e n4 F8 N8 d3 d4 hrv hperm hsort hkv e2 e3 e4 e5
  have hrs : rs.length = 6 := hperm.length_eq
  have n5 : ∀ {q : Addr × Obj}, q ∈ ((rn, listOf kv.toArray n4) :: (rk, listOf rv.toArray e) :: (nl, listOf (sixS (nxOf kw cs) nu) nn) :: (cel6 L o1' o2' o3' o4' o5 o6 ++ rest)) → (∀ x, q.2.data ≠ .cell x) → q.1 ≠ L + 1 + 1 + 1 + 1 + 1 := fun {q} hq hc => news_ne N8 hq (r := (L + 1 + 1 + 1 + 1 + 1, o5)) (List.mem_cons_of_mem _ (List.mem_cons_of_mem _ (List.mem_cons_of_mem _ (List.mem_append_left _ (by k_mem))))) (by show q.2.data ≠ o5.data; rw [k5]; exact hc _)
  refine seg9 w mg mb fa cd p loose mean dp un gd a ccd cl outer A₀ base h₀ L m8' { s with heap := h8, toks := tk8 } Q E B X T F8 HG o1' o2' o3' o4' o5 o6 (listOf (sixS (nxOf kw cs) nu) nn) (listOf kv.toArray n4) sg nl al oA rk rn rv rs e rest N8 (inr7 (o := o5) (by k_mem) k5) (n5 (q := (rn, listOf kv.toArray n4)) (by k_mem) (fun _ e => nomatch e)) (n5 (q := (rk, listOf rv.toArray e)) (by k_mem) (fun _ e => nomatch e)) (n5 (q := (nl, listOf (sixS (nxOf kw cs) nu) nn)) (by k_mem) (fun _ e => nomatch e)) d3 ⟨v5, k5⟩ hrv (by omega) e2 e3 e4 e5 hdp hun ?_
  intro h9 tk9 m9' o5' tb ts t0 F9 N9 d5 hts off9 e2 e3 e4 e5 e6
  obtain ⟨rest10, hrest10⟩ : ∃ r, r = (tb, lst (refsOf ts)) :: (rn, listOf kv.toArray n4) :: (rk, listOf rv.toArray e) :: (nl, listOf (sixS (nxOf kw cs) nu) nn) :: (L + 1, o1') :: (L + 1 + 1, o2') :: (L + 1 + 1 + 1, o3') :: (L + 1 + 1 + 1 + 1, o4') :: (L + 1 + 1 + 1 + 1 + 1, o5') :: (ts.map Ord.led ++ rest) := ⟨_, rfl⟩
  have N9' : News h₀ L h9 ((L + 1 + 1 + 1 + 1 + 1 + 1, o6) :: rest10) := Newss.sub N9 fun q hq => by
    rw [hrest10] at hq
    simp only [cel6, List.mem_append, List.mem_cons, List.not_mem_nil, or_false] at hq ⊢
    rcases hq with hq | hq | hq | hq | hq | hq | hq | hq | hq | hq | hq | hq <;> simp only [hq, true_or, or_true]
  have m10 : ∀ q ∈ [(tb, lst (refsOf ts)), (rn, listOf kv.toArray n4), (rk, listOf rv.toArray e), (nl, listOf (sixS (nxOf kw cs) nu) nn), (L + 1, o1'), (L + 1 + 1, o2'), (L + 1 + 1 + 1, o3'), (L + 1 + 1 + 1 + 1, o4'), (L + 1 + 1 + 1 + 1 + 1, o5')], q ∈ rest10 := fun q hq => by
    rw [hrest10]
    exact List.mem_append_left (bs := ts.map Ord.led ++ rest) hq
  have mts : ∀ q ∈ ts.map Ord.led, q ∈ rest10 := fun q hq => by
    rw [hrest10]
    exact List.mem_append_right [(tb, lst (refsOf ts)), (rn, listOf kv.toArray n4), (rk, listOf rv.toArray e), (nl, listOf (sixS (nxOf kw cs) nu) nn), (L + 1, o1'), (L + 1 + 1, o2'), (L + 1 + 1 + 1, o3'), (L + 1 + 1 + 1 + 1, o4'), (L + 1 + 1 + 1 + 1 + 1, o5')] (List.mem_append_left _ hq)
  have mre : ∀ q ∈ rest, q ∈ rest10 := fun q hq => by
    rw [hrest10]
    exact List.mem_append_right [(tb, lst (refsOf ts)), (rn, listOf kv.toArray n4), (rk, listOf rv.toArray e), (nl, listOf (sixS (nxOf kw cs) nu) nn), (L + 1, o1'), (L + 1 + 1, o2'), (L + 1 + 1 + 1, o3'), (L + 1 + 1 + 1 + 1, o4'), (L + 1 + 1 + 1 + 1 + 1, o5')] (List.mem_append_right _ hq)
  have n6 : ∀ {q : Addr × Obj}, q ∈ rest10 → (∀ x, q.2.data ≠ .cell x) → q.1 ≠ L + 1 + 1 + 1 + 1 + 1 + 1 := fun {q} hq hc => news_ne N9' (List.mem_cons_of_mem _ hq) (r := (L + 1 + 1 + 1 + 1 + 1 + 1, o6)) (List.mem_cons_self ..) (by show q.2.data ≠ o6.data; rw [k6]; exact hc _)
  have R6 : RNe rest10 (L + 1 + 1 + 1 + 1 + 1 + 1) := by
    have c1 := n6 (q := (tb, lst (refsOf ts))) (m10 _ (by k_mem)) (fun _ e => nomatch e)
    have c2 := n6 (q := (rn, listOf kv.toArray n4)) (m10 _ (by k_mem)) (fun _ e => nomatch e)
    have c3 := n6 (q := (rk, listOf rv.toArray e)) (m10 _ (by k_mem)) (fun _ e => nomatch e)
    have c4 := n6 (q := (nl, listOf (sixS (nxOf kw cs) nu) nn)) (m10 _ (by k_mem)) (fun _ e => nomatch e)
    have c5 : RNe (ts.map Ord.led ++ rest) (L + 1 + 1 + 1 + 1 + 1 + 1) := ⟨fun q hq => by
      rcases List.mem_append.mp hq with hq | hq
      · exact n6 (mts q hq) (ords_nc ts q hq)
      · exact n6 (mre q hq) (hnc q hq)⟩
    rw [hrest10]
    refine .cons c1 (.cons c2 (.cons c3 (.cons c4 (.cons ?_ (.cons ?_ (.cons ?_ (.cons ?_ (.cons ?_ c5))))))))
    all_goals (refine neN ?_; dsimp only; omega)
  have hkv' : IntsAre kv (((six6s (nxOf kw cs)).map rs.idxOf).map fun x : Nat => (x : Int)) := by rw [List.map_map]; exact hkv
  rw [pl_ord hkw S ha3 ha4 ha5] at hO7
  refine seg10 w mg mb fa cd p loose mean dp un gd a ccd cl outer A₀ base h₀ L m9' { s with heap := h9, toks := tk9 } Q E B X T F9 rn tb sg nl al oA o4' o5' o6 v6 kv n4 (refsOf ts).length nA rs ((six6s (nxOf kw cs)).map rs.idxOf) ts os (ordsP (around6 a3 a4 a5) 5) rest10 t0 N9' R6
    (fun q hq => by
      rcases List.mem_cons.mp hq with rfl | hq
      · exact m10 _ (by k_mem)
      rcases List.mem_cons.mp hq with rfl | hq
      · exact m10 _ (by k_mem)
      rcases List.mem_cons.mp hq with rfl | hq
      · exact m10 _ (by k_mem)
      rcases List.mem_cons.mp hq with rfl | hq
      · exact m10 _ (by k_mem)
      · rw [List.mem_singleton.mp hq]; exact mre _ hoA) mts (fun q hq => mre q (hos q hq)) d4 d5 k6 hts hrs hkv' (by rfl) (pl_rank hkw S hperm) hO7 (pl_ordok ha3 ha4 ha5) e6 e2 e3 e4 e5 hdp hun hE ?_
  intro h10 tk10 m10' o6' v6' t0' F10 N10 d6 e0 e2 e3 e4
  refine seg11 w mg mb fa cd p loose mean dp un gd a ccd cl outer A₀ base h₀ L m10' { s with heap := h10, toks := tk10 } Q E B X T F10 sg nl al [.int ((0 : Nat) : Int) (ab 0), .int ((0 : Nat) : Int) (ab 1), .int ((1 : Nat) : Int) (ab 2), .int (a3 : Nat) (ab 3), .int (a4 : Nat) (ab 4), .int (a5 : Nat) (ab 5)] 0 (around6 a3 a4 a5) _ t0' ((L + 1 + 1 + 1 + 1 + 1 + 1, o6') :: rest10) N10 (List.mem_cons_of_mem _ (mre _ hal)) (.cons _ _ (.cons _ _ (.cons _ _ (.cons _ _ (.cons _ _ (.cons _ _ .nil)))))) rfl (pl_ar ha3 ha4 ha5) e0 e2 e3 e4 hdp hun hE ?_
  intro h11 tk11 m11' sz sv' n11 F11 N11 hsz e1 e0 e2 e3 e4
  refine seg12 w mg mb fa cd p loose mean dp un gd a ccd cl outer A₀ base h₀ L m11' { s with heap := h11, toks := tk11 } Q E B X T F11 HG sz sg nl al rn o4' sv' [.int ((0 : Nat) : Int) (ab 0), .int ((0 : Nat) : Int) (ab 1), .int ((1 : Nat) : Int) (ab 2), .int (a3 : Nat) (ab 3), .int (a4 : Nat) (ab 4), .int (a5 : Nat) (ab 5)] kv n11 0 n4 (sizesP (around6 a3 a4 a5)) (around6 a3 a4 a5) ((six6s (nxOf kw cs)).map rs.idxOf) _ t0' ((sz, listOf sv'.toArray n11) :: (L + 1 + 1 + 1 + 1 + 1 + 1, o6') :: rest10) N11
    (List.mem_cons_self ..) (List.mem_cons_of_mem _ (List.mem_cons_of_mem _ (mre _ hal))) (List.mem_cons_of_mem _ (List.mem_cons_of_mem _ (m10 _ (by k_mem)))) (List.mem_cons_of_mem _ (List.mem_cons_of_mem _ (m10 _ (by k_mem)))) d4 hsz (sizesP_len _) (.cons _ _ (.cons _ _ (.cons _ _ (.cons _ _ (.cons _ _ (.cons _ _ .nil)))))) rfl hkv' (by rfl) (pl_ar ha3 ha4 ha5) (pl_sizes ha3 ha4 ha5) e1 e0 e2 e3 e4 hdp hun hE ?_
  intro h12 tk12 m12' t0'' t1'' F12 N12 e0 e1 e2 e3
  rw [pl_told hkw S ha3 ha4 ha5 hperm hsort] at e0
  obtain ⟨rest13, hrest13⟩ : ∃ r, r = (95, tabFull c1 c2) :: ts.map Ord.led := ⟨_, rfl⟩
  have tof : ∀ q ∈ (rn, listOf kv.toArray n4) :: (rk, listOf rv.toArray e) :: (nl, listOf (sixS (nxOf kw cs) nu) nn) :: (cel6 L o1' o2' o3' o4' o5 o6 ++ (ts.map Ord.led ++ rest)), q.1 ≠ tb := off9
  have t1 : L + 1 ≠ tb := tof (L + 1, o1') (List.mem_cons_of_mem _ (List.mem_cons_of_mem _ (List.mem_cons_of_mem _ (List.mem_append_left _ (by k_mem)))))
  have t5 : L + 1 + 1 + 1 + 1 + 1 ≠ tb := tof (L + 1 + 1 + 1 + 1 + 1, o5) (List.mem_cons_of_mem _ (List.mem_cons_of_mem _ (List.mem_cons_of_mem _ (List.mem_append_left _ (by k_mem)))))
  have tn : nl ≠ tb := tof (nl, listOf (sixS (nxOf kw cs) nu) nn) (List.mem_cons_of_mem _ (List.mem_cons_of_mem _ (List.mem_cons_self ..)))
  have ts' : sg ≠ tb := tof _ (List.mem_cons_of_mem _ (List.mem_cons_of_mem _ (List.mem_cons_of_mem _ (List.mem_append_right _ (List.mem_append_right _ hsg)))))
  have Rt : RNe rest13 tb := by
    rw [hrest13]
    refine .cons (tof _ (List.mem_cons_of_mem _ (List.mem_cons_of_mem _ (List.mem_cons_of_mem _ (List.mem_append_right _ (List.mem_append_right _ h95)))))) ⟨fun q hq => tof q (List.mem_cons_of_mem _ (List.mem_cons_of_mem _ (List.mem_cons_of_mem _ (List.mem_append_right _ (List.mem_append_left _ hq)))))⟩
  have up12 : ∀ q ∈ rest10, q ∈ (sz, listOf sv'.toArray n11) :: (L + 1 + 1 + 1 + 1 + 1 + 1, o6') :: rest10 := fun q hq => List.mem_cons_of_mem _ (List.mem_cons_of_mem _ hq)
  have N12' : News h₀ L h12 ((tb, lst (refsOf ts)) :: (L + 1, o1') :: (L + 1 + 1 + 1 + 1 + 1, o5') :: (nl, listOf (sixL (nxOf kw cs) nu).toArray nn) :: (sg, listOf (sixL (sxOf cs) su).toArray ns') :: rest13) := Newss.sub N12 fun q hq => by
    rcases List.mem_cons.mp hq with rfl | hq
    · exact up12 _ (m10 _ (by k_mem))
    rcases List.mem_cons.mp hq with rfl | hq
    · exact up12 _ (m10 _ (by k_mem))
    rcases List.mem_cons.mp hq with rfl | hq
    · exact up12 _ (m10 _ (by k_mem))
    rcases List.mem_cons.mp hq with rfl | hq
    · exact up12 _ (m10 (nl, listOf (sixS (nxOf kw cs) nu) nn) (by k_mem))
    rcases List.mem_cons.mp hq with rfl | hq
    · exact up12 _ (mre _ hsg)
    rw [hrest13] at hq
    rcases List.mem_cons.mp hq with rfl | hq
    · exact up12 _ (mre _ h95)
    · exact up12 _ (mts _ hq)
  have hl100 : ∀ k, k < 6 → (nxOf kw cs k).length ≤ 100000 := fun k hk => Nat.le_trans (pl_n hkw S ha3 ha4 ha5 k hk) (by decide)
  refine seg13 w mg mb fa cd p loose mean dp un gd a ccd cl outer A₀ base h₀ L m12' { s with heap := h12, toks := tk12 } Q E B X T F12 HG o1' o5' sg nl tb (sxOf cs) (nxOf kw cs) su nu ns' nn kw _ (cs.getD 0 0) tw t0'' t1'' rs ts rest13 N12' Rt t1 t5 tn ts' (fun q hq => by rw [hrest13]; exact List.mem_cons_of_mem _ hq) hts hrs q1 hkw d5 rfl (hl100 0 (by decide)) (hl100 1 (by decide)) e0 e1 e2 e3 hdp hun ?_
  intro h13 tk13 m13' rr4 v4' n4' n5' F13 N13 hv4
  have hrows := RowsI.of hts
  rw [pl_rows hkw S hperm hsort] at hrows
  rw [pl_four hkw S] at hv4
  refine seg14 w mg mb fa cd p loose mean dp un gd a ccd cl outer A₀ base h₀ L m13' { s with heap := h13, toks := tk13 } Q E B X T F13 o5' tb rr4 v4' n4' n5' ts rest13 (Newss.sub N13 fun q hq => ?_) (fun q hq => by rw [hrest13]; exact List.mem_cons_of_mem _ hq) hrows hv4 d5 hdp hun ?_
  · rcases List.mem_cons.mp hq with rfl | hq
    · exact List.mem_cons_self ..
    rcases List.mem_cons.mp hq with rfl | hq
    · exact List.mem_cons_of_mem _ (List.mem_cons_self ..)
    · exact List.mem_cons_of_mem _ (List.mem_cons_of_mem _ (List.mem_cons_of_mem _ hq))
  · intro h14 tk14 m14' F14 N14
    exact K h14 tk14 m14' c1 c2 F14 (Newss.sub N14 fun q hq => by rw [List.mem_singleton.mp hq, hrest13]; exact List.mem_cons_self ..)

end

theorem suz1top_1 : True := by
  w_top off
  trivial

end Mine
theorem PySem.Challenge.cw_xp0021_01_holds : PySem.Challenge.rw_xp0021_01.Holds :=
  hd (by
  k_go0
  (with_reducible rename News _ _ _ _ => kN)
  refine' Mine.law_body _ _ _ _ _ _ _ _ _ _ _ _ _ _ _ callerA _ _ _ _ _ _ _ ?aB ?aX ?aT ?aF ?aHG _ _ _ _ _ _ _ _ _ _ _ _ _ _ _ lifted ?ahI ?ahn (Mine.Newss.sub kN (List.forall_mem_cons.mpr ⟨List.mem_cons_of_mem _ (List.mem_cons_of_mem _ (List.mem_cons_of_mem _ (List.mem_cons_of_mem _ (List.mem_cons_of_mem _ (List.mem_cons_self ..))))), List.forall_mem_cons.mpr ⟨List.mem_cons_of_mem _ (List.mem_cons_of_mem _ (List.mem_cons_of_mem _ (List.mem_cons_of_mem _ (List.mem_cons_self ..)))), List.forall_mem_cons.mpr ⟨List.mem_cons_of_mem _ (List.mem_cons_of_mem _ (List.mem_cons_of_mem _ (List.mem_cons_self ..))), List.forall_mem_cons.mpr ⟨List.mem_cons_of_mem _ (List.mem_cons_of_mem _ (List.mem_cons_self ..)), List.forall_mem_cons.mpr ⟨List.mem_cons_of_mem _ (List.mem_cons_self ..), List.forall_mem_cons.mpr ⟨List.mem_cons_self .., List.forall_mem_cons.mpr ⟨List.mem_cons_of_mem _ (List.mem_cons_of_mem _ (List.mem_cons_of_mem _ (List.mem_cons_of_mem _ (List.mem_cons_of_mem _ (List.mem_cons_of_mem _ (List.mem_cons_self ..)))))), List.forall_mem_nil _⟩⟩⟩⟩⟩⟩⟩)) ?ak1 ?ak2 ?ak3 ?ak4 ?ak5 ?ak6 ?am1 ?ahdp ?ahun ?ahE ?aK
  case aB => exact below_caller _
  case aX => k_asm
  case aT => k_asm
  case aF => k_asm
  case aHG => exact codeHd
  case ahI => assumption
  case ahn => omega
  case ak1 => assumption
  case ak2 => assumption
  case ak3 => assumption
  case ak4 => assumption
  case ak5 => assumption
  case ak6 => assumption
  case am1 => with_unfolding_all rfl
  case ahdp => decide +kernel
  case ahun => decide +kernel
  case ahE => passes_own
  case aK =>
    intro h' tk' m' c1 c2 F N
    k_steps)
