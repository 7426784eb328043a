import PyProof.Rows.All
import Wide.All
import OpenK.AllK
import Wide.FinOn
import PySem.Challenge.RW_pg0294_02
open PySem PySem.W PyProof.Rows
set_option Elab.async false
set_option maxRecDepth 100000
set_option maxHeartbeats 8000000
open_top hd02 for PySem.Challenge.rw_pg0294_02
open PySem.Spec PySem.Calls
set_option maxHeartbeats 2000000
set_option linter.all false
namespace Mine
theorem calm_plain1 : True := by w_top off; exact True.intro
section
theorem lk {K : Frag} {f : Addr} {o : Obj} {P : Prop} (h : K.lookup f = some o) (k : K.lookup f = some o → P) : P := k h
def Stop (P : Prop) : Prop := P
theorem Stop.mk {P : Prop} (h : Stop P) : P := h
theorem Stop.out {P : Prop} (h : P) : Stop P := h
def dsum (N : Nat) : List Int → Int
  | [] => 0
  | d :: r => d + 2 ^ N * dsum N r
theorem dsum_append (N : Nat) (a b : List Int) : dsum N (a ++ b) = dsum N a + 2 ^ (N * a.length) * dsum N b := by
  induction a with
  | nil => simp [dsum]
  | cons d r ih =>
    simp only [List.cons_append, dsum, ih, List.length_cons]
    rw [Nat.mul_add, Nat.mul_one, Int.pow_add, Int.mul_add]
    rw [Int.mul_comm (2 ^ (N * r.length)) (2 ^ N), Int.mul_assoc]
    omega
theorem dsum_bound {N : Nat} : ∀ {l : List Int}, (∀ d ∈ l, 0 ≤ d ∧ d < 2 ^ N) → 0 ≤ dsum N l ∧ dsum N l < 2 ^ (N * l.length)
  | [], _ => by simp [dsum]
  | d :: r, h => by
    have hd := h d (.head _)
    have hr := dsum_bound (l := r) fun x hx => h x (.tail _ hx)
    have hp : (0 : Int) < 2 ^ N := Int.pow_pos (by omega)
    have h1 : (2 : Int) ^ N * dsum N r ≤ 2 ^ N * (2 ^ (N * r.length) - 1) := Int.mul_le_mul_of_nonneg_left (by omega) (by omega)
    have h2 : (0 : Int) ≤ 2 ^ N * dsum N r := Int.mul_nonneg (by omega) hr.1
    have h3 : (2 : Int) ^ (N * (d :: r).length) = 2 ^ N * 2 ^ (N * r.length) := by
      rw [List.length_cons, Nat.mul_add, Nat.mul_one, Int.pow_add, Int.mul_comm]
    simp only [dsum]
    rw [h3]
    rw [Int.mul_sub, Int.mul_one] at h1
    omega
def dcut (ns : List Int) (i j : Int) : List Int := (ns.take j.toNat).drop i.toNat
theorem dcut_split {ns : List Int} {i m j : Int} (h0 : 0 ≤ i) (h1 : i ≤ m) (h2 : m ≤ j) : dcut ns i j = dcut ns i m ++ dcut ns m j := by
  obtain ⟨i, rfl⟩ := Int.eq_ofNat_of_zero_le h0
  obtain ⟨m, rfl⟩ := Int.eq_ofNat_of_zero_le (a := m) (by omega)
  obtain ⟨j, rfl⟩ := Int.eq_ofNat_of_zero_le (a := j) (by omega)
  simp only [dcut, Int.toNat_natCast]
  have e : ns.take m = (ns.take j).take m := by rw [List.take_take, Nat.min_eq_left (by omega)]
  rw [e]
  generalize ns.take j = l
  conv => lhs; rw [← List.take_append_drop m l]
  rw [List.drop_append]
  congr 1
  by_cases hl : m ≤ l.length
  · have : (l.take m).length = m := by rw [List.length_take]; omega
    rw [this, show i - m = 0 by omega, List.drop_zero]
  · rw [List.drop_eq_nil_of_le (as := l) (by omega), List.drop_nil]
theorem dcut_length {ns : List Int} {i j : Int} (h0 : 0 ≤ i) (h1 : i ≤ j) (h2 : j ≤ ns.length) : (dcut ns i j).length = (j - i).toNat := by
  simp only [dcut, List.length_drop, List.length_take]
  omega
theorem dcut_mem {ns : List Int} {i j : Int} {P : Int → Prop} (h : ∀ d ∈ ns, P d) : ∀ d ∈ dcut ns i j, P d := fun d hd => h d (List.mem_of_mem_take (List.mem_of_mem_drop hd))
theorem dcut_one {ns : List Int} {i : Int} (h0 : 0 ≤ i) (h1 : i < ns.length) : dcut ns i (i + 1) = [ns.getD i.toNat 0] := by
  obtain ⟨i, rfl⟩ := Int.eq_ofNat_of_zero_le h0
  have hi : i < ns.length := by omega
  have e : ((i : Int) + 1).toNat = i + 1 := by omega
  simp only [dcut, e, Int.toNat_natCast]
  have e2 := List.drop_eq_getElem_cons hi
  rw [List.drop_take, show i + 1 - i = 1 by omega, e2, List.take_succ_cons, List.take_zero, List.getD_eq_getElem?_getD, List.getElem?_eq_getElem hi]
  rfl

section
variable {h₀ h : Heap} {L : Addr} {a b c d e x y z : Addr × Obj} {r : List (Addr × Obj)}
theorem news_swap5 (N : News h₀ L h (a :: b :: c :: d :: e :: x :: y :: r)) : News h₀ L h (a :: b :: c :: d :: e :: y :: x :: r) := fun p hp => N p (by
  simp only [List.mem_cons] at hp ⊢
  rcases hp with h | h | h | h | h | h | h | h <;> simp [h])
theorem news_sw6 (N : News h₀ L h (a :: c :: d :: e :: x :: b :: y :: r)) : News h₀ L h (a :: b :: c :: d :: e :: y :: x :: r) := fun p hp => N p (by
  simp only [List.mem_cons] at hp ⊢
  rcases hp with h | h | h | h | h | h | h | h <;> simp [h])
theorem news_pk6 (N : News h₀ L h (a :: c :: d :: e :: x :: b :: y :: r)) : News h₀ L h (b :: x :: y :: r) := fun p hp => N p (by
  simp only [List.mem_cons] at hp ⊢
  rcases hp with h | h | h | h <;> simp [h])
theorem news_pick5 (N : News h₀ L h (a :: b :: c :: d :: e :: x :: y :: r)) : News h₀ L h (b :: y :: x :: r) := fun p hp => N p (by
  simp only [List.mem_cons] at hp ⊢
  rcases hp with h | h | h | h <;> simp [h])
theorem news_pick5' (N : News h₀ L h (a :: b :: c :: d :: e :: x :: y :: r)) : News h₀ L h (b :: x :: y :: r) := fun p hp => N p (by
  simp only [List.mem_cons] at hp ⊢
  rcases hp with h | h | h | h <;> simp [h])
end
end
theorem calm_d2i_inner : True := by w_top off; exact True.intro
section
section
local macro_rules | `(tactic| k_room) => `(tactic| ktr_room)
local macro_rules | `(tactic| is_list) => `(tactic| exact News.isList (by k_asm) (by k_mem))
local macro_rules | `(tactic| cell_enter) => `(tactic| (refine' code_nest ?k1 ?k2 ?k3 ?k4 ?k5 ?kA ?kF ?kK ?k6 ?k7 ?k8 ?k9 ?kB ?_ ?c2 ?c3 ?c4 ?c5; (case kA => exact rfl); (case kF => exact rfl); (case kK => assumption); (case k1 => k_asm); (case k2 => k_asm); (case k3 => k_asm); (case k4 => k_asm); (case k5 => k_asm); (case k6 => k_mem); (case k7 => exact codeRec_news (by k_asm) (by k_mem) (by assumption) (by assumption)); (case k8 => ktr_room); (case k9 => exact BindsTo.of_eq rfl); (case c5 => decide); (case kB => exact locs rfl); (case c2 => exact rfl); (case c3 => exact rfl); (case c4 => exact rfl); k_whole; intro g' L' h' FG' F' N' B' X' T'; (try dsimp only); (try k_lift B'); (try k_fold)))
local macro_rules | `(tactic| walk_at "call ref") => `(tactic| (refine Stop.mk ?_))
local macro_rules | `(tactic| walk_at "binaryOp RShift int int") => `(tactic| (refine wpAny_rshift1_int (by omega) ?_))
local macro_rules | `(tactic| walk_at "binaryOp Mult int int") => `(tactic| (refine PyProof.Rows.mul_int ?_ (PySem.IntMulOk.of_left (PySem.intBits_le_64 (by omega) (by omega)))))
local macro_rules | `(tactic| walk_at "subscriptTail Name Name ref int") => `(tactic| (refine item_anyK (by is_list) (by assumption) (by omega) (by omega) (by omega) ?_; intro _))
local macro_rules | `(tactic| walk_at "binaryOp LShift int int") => `(tactic| (refine lshift_int (by assumption) (by assumption) ?_))
theorem bits_cut {N : Int} {ns : List Int} {i j : Int} (hN : 0 ≤ N ∧ N ≤ 1000) (hb : ∀ d ∈ ns, 0 ≤ d ∧ d < 2 ^ N.toNat) (h0 : 0 ≤ i) (h1 : i ≤ j) (h2 : j ≤ ns.length) (hl : ns.length ≤ 64) :
    (Builtin.Int.intBits (dsum N.toNat (dcut ns i j)) : Int) ≤ 64000 := by
  have b := dsum_bound (N := N.toNat) (dcut_mem (i := i) (j := j) hb)
  rw [dcut_length h0 h1 h2] at b
  obtain ⟨x, hx⟩ := Int.eq_ofNat_of_zero_le b.1
  have hk : N.toNat * (j - i).toNat ≤ 64000 := by
    have h3 : N.toNat ≤ 1000 := by omega
    have h4 : (j - i).toNat ≤ 64 := by omega
    exact Nat.le_trans (Nat.mul_le_mul h3 h4) (by omega)
  have hb2 : Builtin.Int.intBits (dsum N.toNat (dcut ns i j)) ≤ N.toNat * (j - i).toNat := intBits_le (by
    have h5 := b.2
    rw [hx] at h5 ⊢
    have h6 : ((2 : Int) ^ (N.toNat * (j - i).toNat)) = ((2 ^ (N.toNat * (j - i).toNat) : Nat) : Int) := by rw [Int.natCast_pow]; rfl
    rw [h6] at h5
    rw [Int.natAbs_natCast]
    exact Int.ofNat_lt.mp h5)
  omega
theorem mid_nonneg {i j N : Int} (h0 : 0 ≤ i) (hij : i < j) (hN : 0 ≤ N) : 0 ≤ ((i + j) / 2 - i) * N := Int.mul_nonneg (by omega) hN
theorem mid_le {i j N : Int} (h0 : 0 ≤ i) (hij : i < j) (hj : j ≤ 64) (hN : 0 ≤ N) (hN' : N ≤ 1000) : ((i + j) / 2 - i) * N ≤ 64000 := by
  have h1 : ((i + j) / 2 - i) * N ≤ 64 * N := Int.mul_le_mul_of_nonneg_right (by omega) hN
  omega
theorem mid_sum {ns : List Int} {i j N : Int} (h0 : 0 ≤ i) (hij : i + 1 < j) (hj : j ≤ ns.length) (hN : 0 ≤ N) :
    dsum N.toNat (dcut ns ((i + j) / 2) j) * 2 ^ (((i + j) / 2 - i) * N).toNat + dsum N.toNat (dcut ns i ((i + j) / 2)) = dsum N.toNat (dcut ns i j) := by
  rw [dcut_split (ns := ns) (i := i) (m := (i + j) / 2) (j := j) h0 (by omega) (by omega), dsum_append, dcut_length h0 (by omega) (by omega)]
  have e : (((i + j) / 2 - i) * N).toNat = N.toNat * ((i + j) / 2 - i).toNat := by
    rw [Int.toNat_mul (by omega) hN, Nat.mul_comm]
  rw [e, Int.mul_comm (dsum _ _) (2 ^ _)]
  omega
theorem inner_d2i (w : World) (p : Program) (loose : List Str) (mean : ExcName → Option Value) (mg mb : Str → Option Value)
  {n66 q66 : Str} {p66 : Arguments} {more : List Stmt} {sc66 : Scope} {dV kV dc pm66 cd66 ct66 oc66 : Value} {an66 od66 : Option Addr} {osl : Array (Option Value)}
  {name name2 qual : Str} {params : Arguments} {body : List Stmt} {scope : Scope} {pos : Pos}
  (hq : (hd02.heap_39 w.params).lookup 66 = some ⟨oc66, od66, .func (fnOf n66 q66 p66 (.FunctionDef name params body [] none [] scope none name2 pos :: more) sc66 dV kV dc pm66 an66 cd66 ct66), osl⟩)
  (hqual : qual = Str.ofString "_digits2int.<locals>.inner") (N : Int) (ns : List Int) (vs : List Value) (hi : IntsAre vs ns) (hN0 : 0 ≤ N ∧ N ≤ 1000) (hb : ∀ d ∈ ns, 0 ≤ d ∧ d < 2 ^ N.toNat) (hl : ns.length ≤ 64)
  (k : Nat) : ∀ (dp un : Nat) (gd : Option (List Code)) (cn : Str) (cs : Scope) (a : Addr) (ccd : Value) (cl : List (Str × Addr)) (outer : List Env) (A₀ : Around) (base h₀ : Heap) (L : Addr) (m : Str → Option Value) (s : Shared) (Q E : Value → Shared → Prop) (rest : List (Addr × Obj))
  (_hB : Below A₀ base outer h₀) (_hF : Fr h₀ L s.heap m) (_hX : (hd02.heap_39 w.params).In h₀) (_hT : Top p loose mean mg mb h₀) (_hC : CodeHd base 65 61) (_hk : cs.kind = .function)
  (_hd : dp + k < recursionLimit) (_hu : un + 8 * k + 100 < cLine)
  (f c' c1 c2 c3 l : Addr) (oc o1 o2 o3 : Obj) (doc pm ctv : Value) (vsc : Array Value) (tq tN ti tj : Tok) (kn : Nat)
  (_hN : News h₀ L s.heap ((f, fnMade name qual params body scope [(Str.ofString "n", c2), (Str.ofString "inner", c3), (Str.ofString "digits", c1)] doc pm c' ctv) :: (c', oc) :: (c3, o3) :: (c2, o2) :: (c1, o1) :: (l, listOf vs.toArray kn) :: rest))
  (_d0 : oc.data = .fields vsc) (_d1 : vsc[1]? = some (.str qual tq)) (_d3 : o3.data = .cell (some (.ref f))) (_d2 : o2.data = .cell (some (.int N tN))) (_d1 : o1.data = .cell (some (.ref l)))
  (i j : Int) (_h0 : 0 ≤ i) (_hij : i < j) (_hj : j ≤ ns.length) (_hk : j ≤ i + k)
  (_hret : ∀ (t : Tok) (h' : Heap) (tk' : Nat), Fr h₀ L h' m → News h₀ L h' ((f, fnMade name qual params body scope [(Str.ofString "n", c2), (Str.ofString "inner", c3), (Str.ofString "digits", c1)] doc pm c' ctv) :: (c', oc) :: (c3, o3) :: (c2, o2) :: (c1, o1) :: (l, listOf vs.toArray kn) :: rest) → Q (.int (dsum N.toNat (dcut ns i j)) t) { s with heap := h', toks := tk' }),
  wpAny (model PySem.Challenge.rw_pg0294_02.row.prog w) (ktrTop dp un gd cn cs L a ccd cl outer) (call (.ref f) [.int i ti, .int j tj]) Q E s := by
  refine' lk (K := hd02.heap_39 w.params) (f := 66) ?hk (fun hx => ?_)
  (case hk => k_is)
  have he := Option.some.inj (hx.symm.trans hq)
  clear hx hq
  have hb := congrArg (fun o : Obj => match o.data with | .func fd => fd.body | _ => .stmts []) he
  clear he
  dsimp only [fnOf] at hb
  injection hb with hb
  injection hb with hb _
  injection hb with e1 e2 e3 _ _ _ e4 _ e5 e6
  subst e1 e2 e3 e4 e5 e6 hqual
  induction k with
  | zero => intros; omega
  | succ k ih =>
    intro dp un gd cn cs a ccd cl outer A₀ base h₀ L m s Q E rest hB hF hX hT hC hk hd hu f c' c1 c2 c3 l oc o1 o2 o3 doc pm ctv vsc tq tN ti tj kn hN d0 d1 d3 d2 d1' i j h0 hij hj hjk hret
    refine wpAny_call ?_
    k_dflt cell_enter
    have hl64 : j ≤ 64 := by omega
    k_steps
    · -- one digit
      have e : j = i + 1 := by omega
      subst e
      have e2 := dcut_one (ns := ns) h0 (by omega)
      have e3 : ns.getD i.toNat 0 = dsum N.toNat (dcut ns i (i + 1)) := by rw [e2]; simp [dsum]
      rw [e3]
      exact hret _ _ _ (by k_asm) (by k_asm)
    · refine' Stop.out (ih _ _ _ _ _ _ _ _ _ _ _ _ _ _ _ _ _ _ ?B ?F ?X ?T ?C ?K ?D ?U _ _ _ _ _ _ _ _ _ _ _ _ _ _ _ _ _ _ _ ?N ?d0 ?d1 ?d3 ?d2 ?d4 _ _ ?g0 ?g1 ?g2 ?g3 ?ret)
      (case B => k_asm)
      (case F => k_asm)
      (case X => k_asm)
      (case T => k_asm)
      (case C => assumption)
      (case K => exact rfl)
      (case D => ktr_room)
      (case U => ktr_units)
      (case N => k_asm)
      (case d0 => assumption)
      (case d1 => assumption)
      (case d3 => assumption)
      (case d2 => assumption)
      (case d4 => assumption)
      (case g0 => omega)
      (case g1 => omega)
      (case g2 => omega)
      (case g3 => omega)
      intro t9 h9 tk9 F9 N9
      (try dsimp only)
      have hs1 := bits_cut (i := (i + j) / 2) (j := j) hN0 hb (by omega) (by omega) hj hl
      have hs2 := mid_nonneg h0 hij hN0.1
      have hs3 := mid_le h0 hij hl64 hN0.1 hN0.2
      have hs4 := mid_sum (ns := ns) h0 (by omega : i + 1 < j) hj hN0.1
      have hs5 : (Builtin.Int.intBits (dsum N.toNat (dcut ns ((i + j) / 2) j)) : Int) + ((i + j) / 2 - i) * N ≤ 2 ^ 27 := Int.le_trans (Int.add_le_add hs1 hs3) (by decide)
      k_steps
      refine' Stop.out (ih _ _ _ _ _ _ _ _ _ _ _ _ _ _ _ _ _ _ ?Bb ?Fb ?Xb ?Tb ?Cb ?Kb ?Db ?Ub _ _ _ _ _ _ _ _ _ _ _ _ _ _ _ _ _ _ _ ?Nb ?d0b ?d1b ?d3b ?d2b ?d4b _ _ ?g0b ?g1b ?g2b ?g3b ?retb)
      (case Bb => k_asm)
      (case Fb => k_asm)
      (case Xb => k_asm)
      (case Tb => k_asm)
      (case Cb => assumption)
      (case Kb => exact rfl)
      (case Db => ktr_room)
      (case Ub => ktr_units)
      (case Nb => k_asm)
      (case d0b => assumption)
      (case d1b => assumption)
      (case d3b => assumption)
      (case d2b => assumption)
      (case d4b => assumption)
      (case g0b => omega)
      (case g1b => omega)
      (case g2b => omega)
      (case g3b => omega)
      intro t9 h9 tk9 F9 N9
      (try dsimp only)
      k_steps
      rw [hs4]
      exact hret _ _ _ (by k_asm) (by k_asm)
end
end
local macro_rules | `(tactic| walk_at "idle") => `(tactic| fail)
local macro_rules | `(tactic| walk_at "idle") => `(tactic| fail)
local macro_rules | `(tactic| walk_at "idle") => `(tactic| fail)
local macro_rules | `(tactic| walk_at "idle") => `(tactic| fail)
local macro_rules | `(tactic| walk_at "idle") => `(tactic| fail)
local macro_rules | `(tactic| walk_at "idle") => `(tactic| fail)
local macro_rules | `(tactic| walk_at "idle") => `(tactic| fail)
local macro_rules | `(tactic| walk_at "idle") => `(tactic| fail)
local macro_rules | `(tactic| walk_at "idle") => `(tactic| fail)
theorem calm_d2i : True := by w_top off; exact True.intro
section
theorem ne_allLt {d b : Nat} : ∀ {r : List (Addr × Obj)}, AllLt d r → d ≤ b → ∀ p ∈ r, p.1 ≠ b
  | [], _, _ => fun _ h => nomatch h
  | q :: r, h, hb => fun p hp => by
    rcases List.mem_cons.mp hp with rfl | hp
    · exact Nat.ne_of_lt (Nat.lt_of_lt_of_le h.1 hb)
    · exact ne_allLt h.2 hb p hp
section
local macro_rules | `(tactic| cell_enter) => `(tactic| (refine' code_defC ?k1 ?k2 ?k3 ?k4 ?k5 ?kA ?kF ?kK ?k6 ?k7 ?k8 ?k9 ?kB ?kD ?_ ?c2 ?c3 ?c4; (case kA => exact rfl); (case kF => exact rfl); (case kK => assumption); (case k1 => k_asm); (case k2 => k_asm); (case k3 => k_asm); (case k4 => k_asm); (case k5 => k_asm); (case k6 => k_is); (case k7 => k_is); (case k8 => ktr_room); (case k9 => exact BindsTo.of_eq rfl); (case kB => exact rfl); (case kD => decide +kernel); (case c2 => exact rfl); (case c3 => exact rfl); (case c4 => exact rfl); k_whole; intro g' L' h' tk' cells' FG' F' N' Y' B' X' T' l1; (try k_lt l1); k_cells Y'; (try simp only [List.cons_append, List.nil_append] at N'); (try dsimp only); (try k_lift B'); (try k_fold)))
local macro_rules | `(tactic| k_all) => `(tactic| first | assumption | exact ne_allLt (And.right (by assumption)) (by omega) | exact ne_allLt (And.right (And.right (by assumption))) (by omega))
local macro_rules | `(tactic| k_room) => `(tactic| ktr_room)
local macro_rules | `(tactic| is_list) => `(tactic| exact News.isList (by k_asm) (by k_mem))
local macro_rules | `(tactic| walk_at "call ref") => `(tactic| (refine Stop.mk ?_))
theorem d2i_first (w : World) (p : Program) (loose : List Str) (mean : ExcName → Option Value) (mg mb : Str → Option Value)
  (N : Int) (ns : List Int) (vs : List Value) (hi : IntsAre vs ns) (hN0 : 0 ≤ N ∧ N ≤ 1000) (hb : ∀ d ∈ ns, 0 ≤ d ∧ d < 2 ^ N.toNat) (hl : ns.length ≤ 64)
  (dp un : Nat) (gd : Option (List Code)) (cn : Str) (cs : Scope) (a : Addr) (ccd : Value) (cl : List (Str × Addr)) (outer : List Env) (A₀ : Around) (base h₀ : Heap) (L : Addr) (m : Str → Option Value) (s : Shared) (Q E : Value → Shared → Prop) (rest : List (Addr × Obj))
  (hB : Below A₀ base outer h₀) (hF : Fr h₀ L s.heap m) (hX : (hd02.heap_39 w.params).In h₀) (hT : Top p loose mean mg mb h₀) (hC : CodeHd base 65 61) (hk : cs.kind = .function)
  (hd : dp + 100 < recursionLimit) (hu : un + 1000 < cLine)
  (l : Addr) (kn : Nat) (tl tN : Tok) (hl61 : l ≠ 61) (hne : ∀ p ∈ rest, p.1 ≠ 61)
  (hN : News h₀ L s.heap ((61, tabObj #[]) :: (l, listOf vs.toArray kn) :: rest))
  (hret : ∀ (t : Tok) (h' : Heap) (tk' : Nat) (c' : Addr) (oc : Obj) (vsc : Array Value) (tq : Tok), Fr h₀ L h' m → oc.data = .fields vsc → vsc[1]? = some (.str (Str.ofString "_digits2int.<locals>.inner") tq) →
    News h₀ L h' ((c', oc) :: (61, tabObj #[rawInt 51, rawInt 4, .ref c']) :: (l, listOf vs.toArray kn) :: rest) → Q (.int (dsum N.toNat ns) t) { s with heap := h', toks := tk' }) :
  wpAny (model PySem.Challenge.rw_pg0294_02.row.prog w) (ktrTop dp un gd cn cs L a ccd cl outer) (call (.ref 66) [.ref l, .int N tN]) Q E s := by
  refine wpAny_call ?_
  k_dflt cell_enter
  k_steps
  ·
    refine' Stop.out (inner_d2i w p loose mean mg mb ?hq ?hql N ns vs hi hN0 hb hl ns.length _ _ _ _ _ _ _ _ _ _ _ _ _ _ _ _ _ _ ?B ?F ?X ?T ?C ?K ?D ?U _ _ _ _ _ _ _ _ _ _ _ _ _ _ _ _ _ _ _ ?N ?d0 ?d1 ?d3 ?d2 ?d4 _ _ ?g0 ?g1 ?g2 ?g3 ?ret)
    (case B => k_asm)
    (case F => k_asm)
    (case X => k_asm)
    (case T => k_asm)
    (case C => assumption)
    (case K => exact rfl)
    (case D => ktr_room)
    (case U => ktr_units)
    (case N => exact news_swap5 (by k_asm))
    (case hq => k_is)
    (case hql => rfl)
    (case d0 => assumption)
    (case d1 => assumption)
    (case d3 => assumption)
    (case d2 => assumption)
    (case d4 => assumption)
    (case g0 => omega)
    (case g1 => omega)
    (case g2 => omega)
    (case g3 => omega)
    intro t9 h9 tk9 F9 N9
    (try dsimp only)
    k_steps
    have e : dcut ns 0 ns.length = ns := by simp [dcut]
    rw [e]
    exact hret _ _ _ _ _ _ _ (by k_asm) (by assumption) (by assumption) (news_pick5 (by k_asm))
  · have e : ns = [] := List.eq_nil_of_length_eq_zero (by omega)
    have e2 : (0 : Int) = dsum N.toNat ns := by rw [e]; rfl
    rw [e2]
    exact hret _ _ _ _ _ _ _ (by k_asm) (by assumption) (by assumption) (news_pick5' (by k_asm))
theorem d2i_again (w : World) (p : Program) (loose : List Str) (mean : ExcName → Option Value) (mg mb : Str → Option Value)
  (N : Int) (ns : List Int) (vs : List Value) (hi : IntsAre vs ns) (hN0 : 0 ≤ N ∧ N ≤ 1000) (hb : ∀ d ∈ ns, 0 ≤ d ∧ d < 2 ^ N.toNat) (hl : ns.length ≤ 64)
  (dp un : Nat) (gd : Option (List Code)) (cn : Str) (cs : Scope) (a : Addr) (ccd : Value) (cl : List (Str × Addr)) (outer : List Env) (A₀ : Around) (base h₀ : Heap) (L : Addr) (m : Str → Option Value) (s : Shared) (Q E : Value → Shared → Prop) (rest : List (Addr × Obj))
  (hB : Below A₀ base outer h₀) (hF : Fr h₀ L s.heap m) (hX : (hd02.heap_39 w.params).In h₀) (hT : Top p loose mean mg mb h₀) (hC : CodeHd base 65 61) (hk : cs.kind = .function)
  (hd : dp + 100 < recursionLimit) (hu : un + 1000 < cLine)
  (l : Addr) (kn : Nat) (tl tN : Tok) (hl61 : l ≠ 61) (hne : ∀ p ∈ rest, p.1 ≠ 61)
  (c0 : Addr) (oc0 : Obj) (vsc0 : Array Value) (tq0 : Tok) (hoc0 : oc0.data = .fields vsc0) (hv0 : vsc0[1]? = some (.str (Str.ofString "_digits2int.<locals>.inner") tq0)) (hc0 : c0 ≠ 61)
  (hN : News h₀ L s.heap ((61, tabObj #[rawInt 51, rawInt 4, .ref c0]) :: (c0, oc0) :: (l, listOf vs.toArray kn) :: rest))
  (hret : ∀ (t : Tok) (h' : Heap) (tk' : Nat) (c' : Addr) (oc : Obj) (vsc : Array Value) (tq : Tok), Fr h₀ L h' m → oc.data = .fields vsc → vsc[1]? = some (.str (Str.ofString "_digits2int.<locals>.inner") tq) →
    News h₀ L h' ((c', oc) :: (61, tabObj #[rawInt 51, rawInt 4, .ref c']) :: (l, listOf vs.toArray kn) :: rest) → Q (.int (dsum N.toNat ns) t) { s with heap := h', toks := tk' }) :
  wpAny (model PySem.Challenge.rw_pg0294_02.row.prog w) (ktrTop dp un gd cn cs L a ccd cl outer) (call (.ref 66) [.ref l, .int N tN]) Q E s := by
  refine wpAny_call ?_
  k_dflt cell_enter
  k_steps
  ·
    refine' Stop.out (inner_d2i w p loose mean mg mb ?hq ?hql N ns vs hi hN0 hb hl ns.length _ _ _ _ _ _ _ _ _ _ _ _ _ _ _ _ _ _ ?B ?F ?X ?T ?C ?K ?D ?U _ _ _ _ _ _ _ _ _ _ _ _ _ _ _ _ _ _ _ ?N ?d0 ?d1 ?d3 ?d2 ?d4 _ _ ?g0 ?g1 ?g2 ?g3 ?ret)
    (case B => k_asm)
    (case F => k_asm)
    (case X => k_asm)
    (case T => k_asm)
    (case C => assumption)
    (case K => exact rfl)
    (case D => ktr_room)
    (case U => ktr_units)
    (case N => exact news_sw6 (by k_asm))
    (case hq => k_is)
    (case hql => rfl)
    (case d0 => assumption)
    (case d1 => assumption)
    (case d3 => assumption)
    (case d2 => assumption)
    (case d4 => assumption)
    (case g0 => omega)
    (case g1 => omega)
    (case g2 => omega)
    (case g3 => omega)
    intro t9 h9 tk9 F9 N9
    (try dsimp only)
    k_steps
    have e : dcut ns 0 ns.length = ns := by simp [dcut]
    rw [e]
    exact hret _ _ _ _ _ _ _ (by k_asm) (by assumption) (by assumption) (news_pick5 (by k_asm))
  · have e : ns = [] := List.eq_nil_of_length_eq_zero (by omega)
    have e2 : (0 : Int) = dsum N.toNat ns := by rw [e]; rfl
    rw [e2]
    exact hret _ _ _ _ _ _ _ (by k_asm) (by assumption) (by assumption) (news_pk6 (by k_asm))
end
end
local macro_rules | `(tactic| walk_at "idle") => `(tactic| fail)
local macro_rules | `(tactic| walk_at "idle") => `(tactic| fail)
local macro_rules | `(tactic| walk_at "idle") => `(tactic| fail)
local macro_rules | `(tactic| walk_at "idle") => `(tactic| fail)
local macro_rules | `(tactic| walk_at "idle") => `(tactic| fail)
local macro_rules | `(tactic| walk_at "idle") => `(tactic| fail)
theorem calm_i2d_plain : True := by w_top off; exact True.intro
section
theorem foldl_ones (v : Value) : ∀ (n : Nat) (a : Array Value), List.foldl (fun x1 x2 => x1 ++ x2) a (List.replicate n #[v]) = a ++ (List.replicate n v).toArray
  | 0, a => by simp
  | n + 1, a => by rw [List.replicate_succ, List.foldl_cons, foldl_ones v n, List.replicate_succ, Array.append_assoc]; congr 1; exact List.append_toArray [v] _
theorem ints_zeros (t : Tok) : ∀ n, IntsAre (List.replicate n (Value.int 0 t)) (List.replicate n 0)
  | 0 => .nil
  | n + 1 => .cons _ _ (ints_zeros t n)
theorem zeros_K {prog : Program} {w : World} {A : Around} {E : Value → Shared → Prop} {s : Shared} {h₀ : Heap} {L l : Addr} {m : Str → Option Value} {news : List (Addr × Obj)} {k kn : Nat} {x : Int} {t0 u : Tok} {Q : Value → Shared → Prop}
    (F : Fr h₀ L s.heap m) (N : News h₀ L s.heap news) (hl : (l, listOf #[.int 0 t0] kn) ∈ news) (hx : x = (k : Int)) (hk : k ≤ 1000)
    (h : ∀ l' h' vs ns, IntsAre vs ns → ns = List.replicate k 0 → ns.length = k → Fr h₀ L h' m → News h₀ L h' ((l', listOf vs.toArray 0) :: news) → (∀ p ∈ news, p.1 < l') → Q (.ref l') { s with heap := h' }) :
    wpAny (model prog w) A (binaryOp .Mult (.ref l) (.int x u)) Q E s := by
  subst hx
  refine PyProof.Rows.mul_list F N (N.get hl) (by omega) (by omega) (by simp; omega) (fun h' F' N' => h _ h' _ _ (ints_zeros t0 k) rfl (List.length_replicate ..) F' ?_ (fun p hp => Heap.lt_size (N p hp).1))
  have e := foldl_ones (.int 0 t0) k #[]
  simp only [Int.toNat_natCast, Array.isEmpty, List.size_toArray, List.length_cons, List.length_nil] at N'
  simp only [Array.empty_append] at e
  rw [show (decide (0 + 1 = 0)) = false from rfl] at N'
  simp only [Bool.false_eq_true, if_false] at N'
  rw [e] at N'
  exact N'

def digs (N : Nat) : Nat → Int → List Int
  | 0, _ => []
  | k + 1, x => x % 2 ^ N :: digs N k (x / 2 ^ N)
def setd (N : Nat) (ns : List Int) (x i j : Int) : List Int := ns.take i.toNat ++ (digs N (j - i).toNat x ++ ns.drop j.toNat)
theorem digs_length (N : Nat) : ∀ (k : Nat) (x : Int), (digs N k x).length = k
  | 0, _ => rfl
  | k + 1, x => by rw [digs, List.length_cons, digs_length N k]
theorem pow_pos2 (n : Nat) : (0 : Int) < 2 ^ n := Int.pow_pos (by omega)
theorem emod_mul_div {x p q : Int} (hp : 0 < p) : x % (p * q) / p = x / p % q := by
  refine ((Int.ediv_emod_unique hp (r := x % p)).mpr ⟨?_, Int.emod_nonneg _ (by omega), Int.emod_lt_of_pos _ hp⟩).1
  have e1 := Int.emod_add_mul_ediv x (p * q)
  have e2 := Int.emod_add_mul_ediv x p
  have e3 := Int.emod_add_mul_ediv (x / p) q
  rw [Int.ediv_ediv_of_nonneg (by omega)] at e3
  have e4 : p * (x / p % q) = p * (x / p) - p * q * (x / (p * q)) := by
    have : x / p % q = x / p - q * (x / (p * q)) := by omega
    rw [this, Int.mul_sub, Int.mul_assoc]
  omega
theorem digs_split (N : Nat) : ∀ (a b : Nat) (x : Int), 0 ≤ x → digs N (a + b) x = digs N a (x % 2 ^ (N * a)) ++ digs N b (x / 2 ^ (N * a))
  | 0, b, x, _ => by simp [digs]
  | a + 1, b, x, h => by
    have hp := pow_pos2 N
    have e : a + 1 + b = (a + b) + 1 := by omega
    have e2 : (2 : Int) ^ (N * (a + 1)) = 2 ^ N * 2 ^ (N * a) := by rw [Nat.mul_add, Nat.mul_one, Int.pow_add, Int.mul_comm]
    rw [e, digs, digs, digs_split N a b (x / 2 ^ N) (Int.ediv_nonneg h (by omega)), e2, List.cons_append]
    have e3 : x % (2 ^ N * 2 ^ (N * a)) % 2 ^ N = x % 2 ^ N := Int.emod_emod_of_dvd _ (Int.dvd_mul_right ..)
    have e4 : x % (2 ^ N * 2 ^ (N * a)) / 2 ^ N = x / 2 ^ N % 2 ^ (N * a) := by
      exact emod_mul_div hp
    rw [e3, e4, Int.ediv_ediv_of_nonneg (by omega)]
theorem setd_one {N : Nat} {ns : List Int} {x i : Int} (h0 : 0 ≤ i) (h1 : i < ns.length) (hx0 : 0 ≤ x) (hx : x < 2 ^ N) : setd N ns x i (i + 1) = ns.set i.toNat x := by
  obtain ⟨i, rfl⟩ := Int.eq_ofNat_of_zero_le h0
  have e : ((i : Int) + 1 - i).toNat = 1 := by omega
  have e2 : ((i : Int) + 1).toNat = i + 1 := by omega
  simp only [setd, e, e2, Int.toNat_natCast, digs, Int.emod_eq_of_lt hx0 hx]
  rw [List.set_eq_take_append_cons_drop, if_pos (by omega)]
  rfl
theorem setd_two {N : Nat} {ns : List Int} {x i m j : Int} (h0 : 0 ≤ i) (h1 : i ≤ m) (h2 : m ≤ j) (h3 : j ≤ ns.length) (hx0 : 0 ≤ x) :
    setd N (setd N ns (x % 2 ^ (N * (m - i).toNat)) i m) (x / 2 ^ (N * (m - i).toNat)) m j = setd N ns x i j := by
  obtain ⟨i, rfl⟩ := Int.eq_ofNat_of_zero_le h0
  obtain ⟨m, rfl⟩ := Int.eq_ofNat_of_zero_le (a := m) (by omega)
  obtain ⟨j, rfl⟩ := Int.eq_ofNat_of_zero_le (a := j) (by omega)
  have e : ((j : Int) - i).toNat = ((m : Int) - i).toNat + ((j : Int) - m).toNat := by omega
  have l1 : (ns.take i).length = i := by rw [List.length_take]; omega
  have l2 : (ns.take i ++ digs N ((m : Int) - i).toNat (x % 2 ^ (N * ((m : Int) - i).toNat))).length = m := by rw [List.length_append, l1, digs_length]; omega
  simp only [setd, Int.toNat_natCast]
  rw [e, digs_split N _ _ x hx0]
  rw [← List.append_assoc (ns.take i), List.take_left' l2, List.drop_append, l2, List.drop_eq_nil_of_le (by omega), List.nil_append, List.drop_drop]
  rw [show m + (j - m) = j by omega]
  simp only [List.append_assoc]
theorem setd_length {N : Nat} {ns : List Int} {x i j : Int} (h0 : 0 ≤ i) (h1 : i ≤ j) (h2 : j ≤ ns.length) : (setd N ns x i j).length = ns.length := by
  simp only [setd, List.length_append, digs_length, List.length_take, List.length_drop]
  omega
theorem xor_low {x : Int} (h : 0 ≤ x) (S : Nat) : Builtin.bitXor x (x.fdiv (2 ^ S) * 2 ^ S) = x % 2 ^ S := by
  have hp := pow_pos2 S
  rw [Int.fdiv_eq_ediv_of_nonneg _ (by omega)]
  have hd : 0 ≤ x / 2 ^ S := Int.ediv_nonneg h (by omega)
  have hy : 0 ≤ x / 2 ^ S * 2 ^ S := Int.mul_nonneg hd (by omega)
  have e : Builtin.bitAnd x (x / 2 ^ S * 2 ^ S) = x / 2 ^ S * 2 ^ S := by
    rw [bitAnd_pp h hy]
    obtain ⟨n, rfl⟩ := Int.eq_ofNat_of_zero_le h
    have e1 : ((n : Int) / 2 ^ S * 2 ^ S) = ((n / 2 ^ S * 2 ^ S : Nat) : Int) := by simp
    rw [e1, Int.toNat_natCast, Int.toNat_natCast]
    congr 1
    apply Nat.eq_of_testBit_eq
    intro k
    rw [Nat.testBit_and, Nat.testBit_mul_two_pow]
    by_cases hk : S ≤ k
    · rw [Nat.testBit_div_two_pow, Nat.sub_add_cancel hk]; simp [hk]
    · simp [hk]
  rw [bitXor_and, e]
  have := Int.emod_add_mul_ediv x (2 ^ S)
  rw [Int.mul_comm] at this
  omega
theorem bits_of_lt {x : Int} {k : Nat} (h0 : 0 ≤ x) (h : x < 2 ^ k) : Builtin.Int.intBits x ≤ k := intBits_le (by
  obtain ⟨n, rfl⟩ := Int.eq_ofNat_of_zero_le h0
  have e : ((2 : Int) ^ k) = ((2 ^ k : Nat) : Int) := by rw [Int.natCast_pow]; rfl
  rw [e] at h
  rw [Int.natAbs_natCast]
  exact Int.ofNat_lt.mp h)
theorem div_lt_pow {x : Int} {a b : Nat} (h0 : 0 ≤ x) (h : x < 2 ^ (a + b)) : x / 2 ^ a < 2 ^ b := by
  apply Int.ediv_lt_of_lt_mul (pow_pos2 a)
  rw [← Int.pow_add, Nat.add_comm]
  exact h
theorem news_i1 {h₀ h : Heap} {L : Addr} {f c l z o3 o2 o1 t : Addr × Obj} {r : List (Addr × Obj)} (N : News h₀ L h (f :: c :: l :: z :: o3 :: o2 :: o1 :: t :: r)) : News h₀ L h (f :: c :: l :: o3 :: o2 :: o1 :: z :: t :: r) := fun p hp => N p (by
  simp only [List.mem_cons, List.not_mem_nil, or_false] at hp ⊢
  rcases hp with h | h | h | h | h | h | h | h | h <;> simp [h])
theorem news_i2 {h₀ h : Heap} {L : Addr} {f c l o3 o2 o1 z t : Addr × Obj} {r : List (Addr × Obj)} (N : News h₀ L h (f :: c :: l :: o3 :: o2 :: o1 :: z :: t :: r)) : News h₀ L h (l :: c :: t :: r) := fun p hp => N p (by
  simp only [List.mem_cons, List.not_mem_nil, or_false] at hp ⊢
  rcases hp with h | h | h | h <;> simp [h])
theorem news_i3 {h₀ h : Heap} {L : Addr} {f c l z o3 o2 o1 t : Addr × Obj} {r : List (Addr × Obj)} (N : News h₀ L h (f :: c :: l :: z :: o3 :: o2 :: o1 :: t :: r)) : News h₀ L h (l :: c :: t :: r) := fun p hp => N p (by
  simp only [List.mem_cons, List.not_mem_nil, or_false] at hp ⊢
  rcases hp with h | h | h | h <;> simp [h])
theorem news_i4 {h₀ h : Heap} {L : Addr} {f l z o3 o2 o1 t c : Addr × Obj} {r : List (Addr × Obj)} (N : News h₀ L h (f :: l :: z :: o3 :: o2 :: o1 :: t :: c :: r)) : News h₀ L h (f :: c :: l :: o3 :: o2 :: o1 :: z :: t :: r) := fun p hp => N p (by
  simp only [List.mem_cons, List.not_mem_nil, or_false] at hp ⊢
  rcases hp with h | h | h | h | h | h | h | h | h <;> simp [h])
theorem news_i5 {h₀ h : Heap} {L : Addr} {f l z o3 o2 o1 t c : Addr × Obj} {r : List (Addr × Obj)} (N : News h₀ L h (f :: l :: z :: o3 :: o2 :: o1 :: t :: c :: r)) : News h₀ L h (l :: c :: t :: r) := fun p hp => N p (by
  simp only [List.mem_cons, List.not_mem_nil, or_false] at hp ⊢
  rcases hp with h | h | h | h <;> simp [h])
theorem digs_zero (N : Nat) : ∀ k, digs N k 0 = List.replicate k 0
  | 0 => rfl
  | k + 1 => by rw [digs, Int.zero_emod, Int.zero_ediv, digs_zero N k, List.replicate_succ]
theorem setd_whole {N k : Nat} {x : Int} {ns : List Int} (h : ns.length = k) : setd N ns x 0 k = digs N k x := by
  have e : ns.drop k = [] := List.drop_eq_nil_of_le (by omega)
  simp [setd, e]
end
theorem calm_i2d_inner : True := by w_top off; exact True.intro
section
section
local macro_rules | `(tactic| k_room) => `(tactic| ktr_room)
local macro_rules | `(tactic| is_list) => `(tactic| exact News.isList (by k_asm) (by k_mem))
local macro_rules | `(tactic| cell_enter) => `(tactic| (refine' code_nest ?k1 ?k2 ?k3 ?k4 ?k5 ?kA ?kF ?kK ?k6 ?k7 ?k8 ?k9 ?kB ?_ ?c2 ?c3 ?c4 ?c5; (case kA => exact rfl); (case kF => exact rfl); (case kK => assumption); (case k1 => k_asm); (case k2 => k_asm); (case k3 => k_asm); (case k4 => k_asm); (case k5 => k_asm); (case k6 => k_mem); (case k7 => exact codeRec_news (by k_asm) (by k_mem) (by assumption) (by assumption)); (case k8 => ktr_room); (case k9 => exact BindsTo.of_eq rfl); (case c5 => decide); (case kB => exact locs rfl); (case c2 => exact rfl); (case c3 => exact rfl); (case c4 => exact rfl); k_whole; intro g' L' h' FG' F' N' B' X' T'; (try dsimp only); (try k_lift B'); (try k_fold)))
local macro_rules | `(tactic| walk_at "call ref") => `(tactic| (refine Stop.mk ?_))
local macro_rules | `(tactic| walk_at "binaryOp RShift int int") => `(tactic| (refine wpAny_rshift1_int (by omega) ?_))
local macro_rules | `(tactic| walk_at "binaryOp Mult int int") => `(tactic| (refine PyProof.Rows.mul_int ?_ (PySem.IntMulOk.of_left (PySem.intBits_le_64 (by omega) (by omega)))))
local macro_rules | `(tactic| walk_at "subscriptTail Name Name ref int") => `(tactic| (refine item_anyK (by is_list) (by assumption) (by omega) (by omega) (by omega) ?_; intro _))
local macro_rules | `(tactic| walk_at "binaryOp LShift int int") => `(tactic| (refine lshift_int (by assumption) (by assumption) ?_))
local macro_rules | `(tactic| k_all) => `(tactic| assumption)
local macro_rules | `(tactic| walk_at "binaryOp LShift int int") => `(tactic| (refine lshift_int (by assumption) (by assumption) ?_))
local macro_rules | `(tactic| walk_at "binaryOp RShift int int") => `(tactic| (first | refine wpAny_rshift1_int (by omega) ?_ | refine rshift_int (by assumption) ?_))
theorem mid_nat {i j N : Int} (h0 : 0 ≤ i) (hij : i < j) (hN : 0 ≤ N) : (((i + j) / 2 - i) * N).toNat = N.toNat * ((i + j) / 2 - i).toNat := by
  rw [Int.toNat_mul (by omega) hN, Nat.mul_comm]
theorem mid_cut {i j N x : Int} (h0 : 0 ≤ i) (hij : i < j) (hx0 : 0 ≤ x) (hx : x < 2 ^ (N.toNat * (j - i).toNat)) :
    x / 2 ^ (N.toNat * ((i + j) / 2 - i).toNat) < 2 ^ (N.toNat * (j - (i + j) / 2).toNat) := by
  apply div_lt_pow hx0
  rw [← Nat.mul_add, show ((i + j) / 2 - i).toNat + (j - (i + j) / 2).toNat = (j - i).toNat by omega]
  exact hx
theorem mid_bits {i j N x : Int} (h0 : 0 ≤ i) (hij : i < j) (hj : j ≤ 64) (hN : 0 ≤ N) (hN' : N ≤ 1000) (hx0 : 0 ≤ x) (hx : x < 2 ^ (N.toNat * (j - i).toNat)) :
    (Builtin.Int.intBits (x.fdiv (2 ^ (((i + j) / 2 - i) * N).toNat)) : Int) + ((i + j) / 2 - i) * N ≤ 2 ^ 27 := by
  have hp := pow_pos2 (((i + j) / 2 - i) * N).toNat
  rw [Int.fdiv_eq_ediv_of_nonneg _ (by omega), mid_nat h0 hij hN]
  have b := bits_of_lt (Int.ediv_nonneg hx0 (Int.le_of_lt (pow_pos2 _))) (mid_cut h0 hij hx0 hx)
  have h3 : N.toNat * (j - (i + j) / 2).toNat ≤ 1000 * 64 := Nat.mul_le_mul (by omega) (by omega)
  have h4 := mid_le h0 hij hj hN hN'
  have : (2 : Int) ^ 27 = 134217728 := by decide
  omega
theorem inner_i2d (w : World) (p : Program) (loose : List Str) (mean : ExcName → Option Value) (mg mb : Str → Option Value)
  {n66 q66 : Str} {p66 : Arguments} {more : List Stmt} {sc66 : Scope} {dV kV dc pm66 cd66 ct66 oc66 : Value} {an66 od66 : Option Addr} {osl : Array (Option Value)}
  {st0 : Stmt} {name name2 qual : Str} {params : Arguments} {body : List Stmt} {scope : Scope} {pos : Pos}
  (hq : (hd02.heap_39 w.params).lookup 59 = some ⟨oc66, od66, .func (fnOf n66 q66 p66 (st0 :: .FunctionDef name params body [] none [] scope none name2 pos :: more) sc66 dV kV dc pm66 an66 cd66 ct66), osl⟩)
  (hqual : qual = Str.ofString "_int2digits.<locals>.inner") (N : Int) (hN0 : 1 ≤ N ∧ N ≤ 1000)
  (k : Nat) : ∀ (dp un : Nat) (gd : Option (List Code)) (cn : Str) (cs : Scope) (a : Addr) (ccd : Value) (cl : List (Str × Addr)) (outer : List Env) (A₀ : Around) (base h₀ : Heap) (L : Addr) (m : Str → Option Value) (s : Shared) (Q E : Value → Shared → Prop) (rest : List (Addr × Obj))
  (_hB : Below A₀ base outer h₀) (_hF : Fr h₀ L s.heap m) (_hX : (hd02.heap_39 w.params).In h₀) (_hT : Top p loose mean mg mb h₀) (_hC : CodeHd base 58 54) (_hk : cs.kind = .function)
  (_hd : dp + k < recursionLimit) (_hu : un + 8 * k + 100 < cLine)
  (f c' c1 c2 c3 l : Addr) (oc o1 o2 o3 : Obj) (doc pm ctv : Value) (vsc : Array Value) (tq tN tx ti tj : Tok) (kn : Nat) (ns : List Int) (vs : List Value)
  (_hN : News h₀ L s.heap ((f, fnMade name qual params body scope [(Str.ofString "n", c1), (Str.ofString "inner", c3), (Str.ofString "a_digits", c2)] doc pm c' ctv) :: (c', oc) :: (l, listOf vs.toArray kn) :: (c3, o3) :: (c2, o2) :: (c1, o1) :: rest))
  (_hi : IntsAre vs ns) (_hl : ns.length ≤ 64) (_d0 : oc.data = .fields vsc) (_d1 : vsc[1]? = some (.str qual tq)) (_d3 : o3.data = .cell (some (.ref f))) (_d2 : o2.data = .cell (some (.ref l))) (_d1 : o1.data = .cell (some (.int N tN)))
  (_e1 : @Ne Nat f l ∧ @Ne Nat c' l ∧ @Ne Nat c1 l ∧ @Ne Nat c2 l ∧ @Ne Nat c3 l) (_e2 : ∀ p ∈ rest, p.1 ≠ l)
  (x i j : Int) (_h0 : 0 ≤ i) (_hij : i < j) (_hj : j ≤ ns.length) (_hk : j ≤ i + k) (_hx0 : 0 ≤ x) (_hx : x < 2 ^ (N.toNat * (j - i).toNat))
  (_hret : ∀ (vs' : List Value) (kn' : Nat) (h' : Heap) (tk' : Nat), IntsAre vs' (setd N.toNat ns x i j) → Fr h₀ L h' m → News h₀ L h' ((f, fnMade name qual params body scope [(Str.ofString "n", c1), (Str.ofString "inner", c3), (Str.ofString "a_digits", c2)] doc pm c' ctv) :: (c', oc) :: (l, listOf vs'.toArray kn') :: (c3, o3) :: (c2, o2) :: (c1, o1) :: rest) → Q .none { s with heap := h', toks := tk' }),
  wpAny (model PySem.Challenge.rw_pg0294_02.row.prog w) (ktrTop dp un gd cn cs L a ccd cl outer) (call (.ref f) [.int x tx, .int i ti, .int j tj]) Q E s := by
  refine' lk (K := hd02.heap_39 w.params) (f := 59) ?hk (fun hx => ?_)
  (case hk => k_is)
  have he := Option.some.inj (hx.symm.trans hq)
  clear hx hq
  have hb := congrArg (fun o : Obj => match o.data with | .func fd => fd.body | _ => .stmts []) he
  clear he
  dsimp only [fnOf] at hb
  injection hb with hb
  injection hb with _ hb
  injection hb with hb _
  injection hb with e1 e2 e3 _ _ _ e4 _ e5 e6
  subst e1 e2 e3 e4 e5 e6 hqual
  induction k with
  | zero => intros; omega
  | succ k ih =>
    intro dp un gd cn cs a ccd cl outer A₀ base h₀ L m s Q E rest hB hF hX hT hC hk hd hu f c' c1 c2 c3 l oc o1 o2 o3 doc pm ctv vsc tq tN tx ti tj kn ns vs hN hi hl d0 d1 d3 d2 d1' e1 e2 x i j h0 hij hj hjk hx0 hx hret
    refine wpAny_call ?_
    k_dflt cell_enter
    have hl64 : j ≤ 64 := by omega
    have hs2 := mid_nonneg h0 hij (by omega : 0 ≤ N)
    have hs5 := mid_bits h0 hij hl64 (by omega) hN0.2 hx0 hx
    have hxl := xor_low hx0 (((i + j) / 2 - i) * N).toNat
    have hup : 0 ≤ x / 2 ^ (N.toNat * ((i + j) / 2 - i).toNat) ∧ x / 2 ^ (N.toNat * ((i + j) / 2 - i).toNat) < 2 ^ (N.toNat * (j - (i + j) / 2).toNat) := ⟨Int.ediv_nonneg hx0 (Int.le_of_lt (pow_pos2 _)), mid_cut h0 hij hx0 hx⟩
    have hlow : 0 ≤ x % 2 ^ (N.toNat * ((i + j) / 2 - i).toNat) ∧ x % 2 ^ (N.toNat * ((i + j) / 2 - i).toNat) < 2 ^ (N.toNat * ((i + j) / 2 - i).toNat) := ⟨Int.emod_nonneg _ (Int.ne_of_gt (pow_pos2 _)), Int.emod_lt_of_pos _ (pow_pos2 _)⟩
    have hfd : x.fdiv (2 ^ (((i + j) / 2 - i) * N).toNat) = x / 2 ^ (N.toNat * ((i + j) / 2 - i).toNat) := by
      rw [Int.fdiv_eq_ediv_of_nonneg _ (Int.le_of_lt (pow_pos2 _)), mid_nat h0 hij (by omega)]
    have hsm := mid_nat h0 hij (by omega : 0 ≤ N)
    k_steps
    · have e : j = i + 1 := by omega
      subst e
      have e3 : (i + 1 - i).toNat = 1 := by omega
      rw [e3, Nat.mul_one] at hx
      have e4 := setd_one h0 (by omega) hx0 hx (ns := ns)
      refine hret _ _ _ _ ?_ (by k_asm) (by k_asm)
      rw [e4]
      assumption
    · rw [hxl, hsm]
      refine' Stop.out (ih _ _ _ _ _ _ _ _ _ _ _ _ _ _ _ _ _ _ ?B ?F ?X ?T ?C ?K ?D ?U _ _ _ _ _ _ _ _ _ _ _ _ _ _ _ _ _ _ _ _ _ _ ?N ?hi ?hl ?d0 ?d1 ?d3 ?d2 ?d4 e1 e2 _ _ _ ?g0 ?g1 ?g2 ?g3 ?g4 ?g5 ?ret)
      (case B => k_asm)
      (case F => k_asm)
      (case X => k_asm)
      (case T => k_asm)
      (case C => assumption)
      (case K => exact rfl)
      (case D => ktr_room)
      (case U => ktr_units)
      (case N => k_asm)
      (case hi => assumption)
      (case hl => omega)
      (case d0 => assumption)
      (case d1 => assumption)
      (case d3 => assumption)
      (case d2 => assumption)
      (case d4 => assumption)
      (case g0 => omega)
      (case g1 => omega)
      (case g2 => omega)
      (case g3 => omega)
      (case g4 => first | exact hlow.1 | exact hup.1)
      (case g5 => first | exact hlow.2 | exact hup.2)
      intro vs9 kn9 h9 tk9 i9 F9 N9
      (try dsimp only)

      have hsl := setd_length (N := N.toNat) (ns := ns) (x := x % 2 ^ (N.toNat * ((i + j) / 2 - i).toNat)) (i := i) (j := (i + j) / 2) h0 (by omega) (by omega)
      k_steps
      rw [hfd]
      refine' Stop.out (ih _ _ _ _ _ _ _ _ _ _ _ _ _ _ _ _ _ _ ?Bb ?Fb ?Xb ?Tb ?Cb ?Kb ?Db ?Ub _ _ _ _ _ _ _ _ _ _ _ _ _ _ _ _ _ _ _ _ _ _ ?Nb ?hib ?hlb ?d0b ?d1b ?d3b ?d2b ?d4b e1 e2 _ _ _ ?g0b ?g1b ?g2b ?g3b ?g4b ?g5b ?retb)
      (case Bb => k_asm)
      (case Fb => k_asm)
      (case Xb => k_asm)
      (case Tb => k_asm)
      (case Cb => assumption)
      (case Kb => exact rfl)
      (case Db => ktr_room)
      (case Ub => ktr_units)
      (case Nb => k_asm)
      (case hib => assumption)
      (case hlb => omega)
      (case d0b => assumption)
      (case d1b => assumption)
      (case d3b => assumption)
      (case d2b => assumption)
      (case d4b => assumption)
      (case g0b => omega)
      (case g1b => omega)
      (case g2b => omega)
      (case g3b => omega)
      (case g4b => first | exact hlow.1 | exact hup.1)
      (case g5b => first | exact hlow.2 | exact hup.2)
      intro vs9 kn9 h9 tk9 i9 F9 N9
      (try dsimp only)

      k_steps
      refine hret _ _ _ _ ?_ (by k_asm) (by k_asm)
      rw [← setd_two (N := N.toNat) (ns := ns) (x := x) (i := i) (m := (i + j) / 2) (j := j) h0 (by omega) (by omega) hj hx0]
      assumption
end
end
local macro_rules | `(tactic| walk_at "idle") => `(tactic| fail)
local macro_rules | `(tactic| walk_at "idle") => `(tactic| fail)
local macro_rules | `(tactic| walk_at "idle") => `(tactic| fail)
local macro_rules | `(tactic| walk_at "idle") => `(tactic| fail)
local macro_rules | `(tactic| walk_at "idle") => `(tactic| fail)
local macro_rules | `(tactic| walk_at "idle") => `(tactic| fail)
local macro_rules | `(tactic| walk_at "idle") => `(tactic| fail)
local macro_rules | `(tactic| walk_at "idle") => `(tactic| fail)
local macro_rules | `(tactic| walk_at "idle") => `(tactic| fail)
local macro_rules | `(tactic| walk_at "idle") => `(tactic| fail)
local macro_rules | `(tactic| walk_at "idle") => `(tactic| fail)
local macro_rules | `(tactic| walk_at "idle") => `(tactic| fail)
theorem calm_i2d : True := by w_top off; exact True.intro
section
section
local macro_rules | `(tactic| cell_enter) => `(tactic| (refine' code_defC ?k1 ?k2 ?k3 ?k4 ?k5 ?kA ?kF ?kK ?k6 ?k7 ?k8 ?k9 ?kB ?kD ?_ ?c2 ?c3 ?c4; (case kA => exact rfl); (case kF => exact rfl); (case kK => assumption); (case k1 => k_asm); (case k2 => k_asm); (case k3 => k_asm); (case k4 => k_asm); (case k5 => k_asm); (case k6 => k_is); (case k7 => k_is); (case k8 => ktr_room); (case k9 => exact BindsTo.of_eq rfl); (case kB => exact rfl); (case kD => decide +kernel); (case c2 => exact rfl); (case c3 => exact rfl); (case c4 => exact rfl); k_whole; intro g' L' h' tk' cells' FG' F' N' Y' B' X' T' l1; (try k_lt l1); k_cells Y'; (try simp only [List.cons_append, List.nil_append] at N'); (try dsimp only); (try k_lift B'); (try k_fold)))
local macro_rules | `(tactic| k_all) => `(tactic| first | assumption | exact ne_allLt (And.right (by assumption)) (by omega) | exact ne_allLt (And.right (And.right (by assumption))) (by omega))
local macro_rules | `(tactic| k_room) => `(tactic| ktr_room)
local macro_rules | `(tactic| is_list) => `(tactic| exact News.isList (by k_asm) (by k_mem))
local macro_rules | `(tactic| walk_at "call ref") => `(tactic| (refine Stop.mk ?_))
local macro_rules | `(tactic| walk_at "binaryOp Mult ref int") => `(tactic| (refine zeros_K (by k_asm) (by k_asm) (by k_mem) (by assumption) (by omega) ?_; intro l' h' vs' ns' i' e1' e2' F' N' l1; (try k_lt l1)))
theorem i2d_first (w : World) (p : Program) (loose : List Str) (mean : ExcName → Option Value) (mg mb : Str → Option Value)
  (x N : Int) (hN0 : 1 ≤ N ∧ N ≤ 1000) (hx0 : 0 ≤ x) (k : Nat) (hlen : ((Builtin.Int.intBits x : Int) + N - 1).fdiv N = (k : Int)) (hk64 : k ≤ 64) (hxk : x < 2 ^ (N.toNat * k)) (hk1 : x ≠ 0 → 1 ≤ k)
  (dp un : Nat) (gd : Option (List Code)) (cn : Str) (cs : Scope) (a : Addr) (ccd : Value) (cl : List (Str × Addr)) (outer : List Env) (A₀ : Around) (base h₀ : Heap) (L : Addr) (m : Str → Option Value) (s : Shared) (Q E : Value → Shared → Prop) (rest : List (Addr × Obj))
  (hB : Below A₀ base outer h₀) (hF : Fr h₀ L s.heap m) (hX : (hd02.heap_39 w.params).In h₀) (hT : Top p loose mean mg mb h₀) (hC : CodeHd base 58 54) (hk : cs.kind = .function)
  (hd : dp + 100 < recursionLimit) (hu : un + 1000 < cLine)
  (tx tN : Tok) (hne : ∀ p ∈ rest, p.1 ≠ 54)
  (hN : News h₀ L s.heap ((54, tabObj #[]) :: rest))
  (hret : ∀ (l' : Addr) (vs' : List Value) (kn' : Nat) (h' : Heap) (tk' : Nat) (c' : Addr) (oc : Obj) (vsc : Array Value) (tq : Tok), Fr h₀ L h' m → IntsAre vs' (digs N.toNat k x) → oc.data = .fields vsc → vsc[1]? = some (.str (Str.ofString "_int2digits.<locals>.inner") tq) →
    News h₀ L h' ((l', listOf vs'.toArray kn') :: (c', oc) :: (54, tabObj #[rawInt 36, rawInt 4, .ref c']) :: rest) → Q (.ref l') { s with heap := h', toks := tk' }) :
  wpAny (model PySem.Challenge.rw_pg0294_02.row.prog w) (ktrTop dp un gd cn cs L a ccd cl outer) (call (.ref 59) [.int x tx, .int N tN]) Q E s := by
  refine wpAny_call ?_
  k_dflt cell_enter
  k_steps
  ·
    refine' Stop.out (inner_i2d w p loose mean mg mb ?hq ?hql N hN0 k _ _ _ _ _ _ _ _ _ _ _ _ _ _ _ _ _ _ ?B ?F ?X ?T ?C ?K ?D ?U _ _ _ _ _ _ _ _ _ _ _ _ _ _ _ _ _ _ _ _ _ _ ?N ?hi ?hl ?d0 ?d1 ?d3 ?d2 ?d4 ?e1 ?e2 _ _ _ ?g0 ?g1 ?g2 ?g3 ?g4 ?g5 ?ret)
    (case B => k_asm)
    (case F => k_asm)
    (case X => k_asm)
    (case T => k_asm)
    (case C => assumption)
    (case K => exact rfl)
    (case D => ktr_room)
    (case U => ktr_units)
    (case N => exact news_i1 (by k_asm))
    (case hq => k_is)
    (case hql => rfl)
    (case hi => assumption)
    (case hl => omega)
    (case d0 => assumption)
    (case d1 => assumption)
    (case d3 => assumption)
    (case d2 => assumption)
    (case d4 => assumption)
    (case e1 => exact ⟨by omega, by omega, by omega, by omega, by omega⟩)
    (case e2 => exact List.forall_mem_cons.mpr ⟨Nat.ne_of_lt (by first | assumption | omega), List.forall_mem_cons.mpr ⟨Nat.ne_of_lt (by dsimp only; omega), ne_allLt (And.right (And.right (And.right (And.right (And.right (by assumption)))))) (Nat.le_refl _)⟩⟩)
    (case g0 => omega)
    (case g1 => omega)
    (case g2 => omega)
    (case g3 => omega)
    (case g4 => exact hx0)
    (case g5 => (rename (List.length _ = k) => hlk); rw [hlk, show ((k : Int) - 0).toNat = k by omega]; exact hxk)
    intro vs9 kn9 h9 tk9 i9 F9 N9
    (try dsimp only)
    k_steps
    refine hret _ _ _ _ _ _ _ _ _ (by k_asm) ?_ (by assumption) (by assumption) (news_i2 (by k_asm))
    rename (List.length _ = k) => hlk
    rw [hlk, setd_whole hlk] at i9
    exact i9
  · refine hret _ _ _ _ _ _ _ _ _ (by k_asm) ?_ (by assumption) (by assumption) (news_i3 (by k_asm))
    rename (_ = List.replicate k 0) => hrep
    have hx9 : x = 0 := by omega
    rw [hx9, digs_zero, ← hrep]
    assumption
theorem i2d_again (w : World) (p : Program) (loose : List Str) (mean : ExcName → Option Value) (mg mb : Str → Option Value)
  (x N : Int) (hN0 : 1 ≤ N ∧ N ≤ 1000) (hx0 : 0 ≤ x) (k : Nat) (hlen : ((Builtin.Int.intBits x : Int) + N - 1).fdiv N = (k : Int)) (hk64 : k ≤ 64) (hxk : x < 2 ^ (N.toNat * k)) (hk1 : x ≠ 0 → 1 ≤ k)
  (dp un : Nat) (gd : Option (List Code)) (cn : Str) (cs : Scope) (a : Addr) (ccd : Value) (cl : List (Str × Addr)) (outer : List Env) (A₀ : Around) (base h₀ : Heap) (L : Addr) (m : Str → Option Value) (s : Shared) (Q E : Value → Shared → Prop) (rest : List (Addr × Obj))
  (hB : Below A₀ base outer h₀) (hF : Fr h₀ L s.heap m) (hX : (hd02.heap_39 w.params).In h₀) (hT : Top p loose mean mg mb h₀) (hC : CodeHd base 58 54) (hk : cs.kind = .function)
  (hd : dp + 100 < recursionLimit) (hu : un + 1000 < cLine)
  (tx tN : Tok) (hne : ∀ p ∈ rest, p.1 ≠ 54)
  (c0 : Addr) (oc0 : Obj) (vsc0 : Array Value) (tq0 : Tok) (hoc0 : oc0.data = .fields vsc0) (hv0 : vsc0[1]? = some (.str (Str.ofString "_int2digits.<locals>.inner") tq0)) (hc0 : c0 ≠ 54)
  (hN : News h₀ L s.heap ((54, tabObj #[rawInt 36, rawInt 4, .ref c0]) :: (c0, oc0) :: rest))
  (hret : ∀ (l' : Addr) (vs' : List Value) (kn' : Nat) (h' : Heap) (tk' : Nat) (c' : Addr) (oc : Obj) (vsc : Array Value) (tq : Tok), Fr h₀ L h' m → IntsAre vs' (digs N.toNat k x) → oc.data = .fields vsc → vsc[1]? = some (.str (Str.ofString "_int2digits.<locals>.inner") tq) →
    News h₀ L h' ((l', listOf vs'.toArray kn') :: (c', oc) :: (54, tabObj #[rawInt 36, rawInt 4, .ref c']) :: rest) → Q (.ref l') { s with heap := h', toks := tk' }) :
  wpAny (model PySem.Challenge.rw_pg0294_02.row.prog w) (ktrTop dp un gd cn cs L a ccd cl outer) (call (.ref 59) [.int x tx, .int N tN]) Q E s := by
  refine wpAny_call ?_
  k_dflt cell_enter
  k_steps
  ·
    refine' Stop.out (inner_i2d w p loose mean mg mb ?hq ?hql N hN0 k _ _ _ _ _ _ _ _ _ _ _ _ _ _ _ _ _ _ ?B ?F ?X ?T ?C ?K ?D ?U _ _ _ _ _ _ _ _ _ _ _ _ _ _ _ _ _ _ _ _ _ _ ?N ?hi ?hl ?d0 ?d1 ?d3 ?d2 ?d4 ?e1 ?e2 _ _ _ ?g0 ?g1 ?g2 ?g3 ?g4 ?g5 ?ret)
    (case B => k_asm)
    (case F => k_asm)
    (case X => k_asm)
    (case T => k_asm)
    (case C => assumption)
    (case K => exact rfl)
    (case D => ktr_room)
    (case U => ktr_units)
    (case N => exact news_i4 (by k_asm))
    (case hq => k_is)
    (case hql => rfl)
    (case hi => assumption)
    (case hl => omega)
    (case d0 => assumption)
    (case d1 => assumption)
    (case d3 => assumption)
    (case d2 => assumption)
    (case d4 => assumption)
    (case e1 => exact ⟨by omega, by omega, by omega, by omega, by omega⟩)
    (case e2 => exact List.forall_mem_cons.mpr ⟨Nat.ne_of_lt (by first | assumption | omega), List.forall_mem_cons.mpr ⟨Nat.ne_of_lt (by dsimp only; omega), ne_allLt (And.right (And.right (And.right (And.right (And.right (And.right (by assumption))))))) (Nat.le_refl _)⟩⟩)
    (case g0 => omega)
    (case g1 => omega)
    (case g2 => omega)
    (case g3 => omega)
    (case g4 => exact hx0)
    (case g5 => (rename (List.length _ = k) => hlk); rw [hlk, show ((k : Int) - 0).toNat = k by omega]; exact hxk)
    intro vs9 kn9 h9 tk9 i9 F9 N9
    (try dsimp only)
    k_steps
    refine hret _ _ _ _ _ _ _ _ _ (by k_asm) ?_ (by assumption) (by assumption) (news_i2 (by k_asm))
    rename (List.length _ = k) => hlk
    rw [hlk, setd_whole hlk] at i9
    exact i9
  · refine hret _ _ _ _ _ _ _ _ _ (by k_asm) ?_ (by assumption) (by assumption) (news_i5 (by k_asm))
    rename (_ = List.replicate k 0) => hrep
    have hx9 : x = 0 := by omega
    rw [hx9, digs_zero, ← hrep]
    assumption
end
end
local macro_rules | `(tactic| walk_at "idle") => `(tactic| fail)
local macro_rules | `(tactic| walk_at "idle") => `(tactic| fail)
local macro_rules | `(tactic| walk_at "idle") => `(tactic| fail)
local macro_rules | `(tactic| walk_at "idle") => `(tactic| fail)
local macro_rules | `(tactic| walk_at "idle") => `(tactic| fail)
local macro_rules | `(tactic| walk_at "idle") => `(tactic| fail)
local macro_rules | `(tactic| walk_at "idle") => `(tactic| fail)
theorem calm_tabs : True := by w_top off; exact True.intro
section
/-- a code table within a ledger: empty, or with the one code made from it -/
def TabIn (line : Int) (qual : Str) (ps : Array Value) (rest : List (Addr × Obj)) : Prop :=
  ps = #[] ∨ ∃ c oc vsc tq, ps = #[rawInt line, rawInt 4, .ref c] ∧ (c, oc) ∈ rest ∧ oc.data = .fields vsc ∧ vsc[1]? = some (.str qual tq)
theorem TabIn.full {line : Int} {qual : Str} {c : Addr} {oc : Obj} {vsc : Array Value} {tq : Tok} {rest : List (Addr × Obj)} (hm : (c, oc) ∈ rest) (hd : oc.data = .fields vsc) (hv : vsc[1]? = some (.str qual tq)) : TabIn line qual #[rawInt line, rawInt 4, .ref c] rest :=
  .inr ⟨c, oc, vsc, tq, rfl, hm, hd, hv⟩
theorem TabIn.mono {line : Int} {qual : Str} {ps : Array Value} {rest rest' : List (Addr × Obj)} (h : TabIn line qual ps rest) (hs : ∀ p ∈ rest, p ∈ rest') : TabIn line qual ps rest' := by
  rcases h with h | ⟨c, oc, vsc, tq, e, hm, hd, hv⟩
  · exact .inl h
  · exact .inr ⟨c, oc, vsc, tq, e, hs _ hm, hd, hv⟩
theorem news_cons {h₀ h : Heap} {L : Addr} {x : Addr × Obj} {r : List (Addr × Obj)} (N : News h₀ L h r) (hm : x ∈ r) : News h₀ L h (x :: r) := fun p hp => by
  rcases List.mem_cons.mp hp with rfl | hp
  · exact N _ hm
  · exact N _ hp
theorem news_second {h₀ h : Heap} {L : Addr} {x y : Addr × Obj} {r : List (Addr × Obj)} (N : News h₀ L h (x :: r)) (hm : y ∈ r) : News h₀ L h (x :: y :: r) := fun p hp => by
  rcases List.mem_cons.mp hp with rfl | hp
  · exact N _ (.head _)
  · rcases List.mem_cons.mp hp with rfl | hp
    · exact N _ (.tail _ hm)
    · exact N _ (.tail _ hp)
theorem news_drop3 {h₀ h : Heap} {L : Addr} {x y z : Addr × Obj} {r : List (Addr × Obj)} (N : News h₀ L h (x :: y :: z :: r)) : News h₀ L h (x :: y :: r) := fun p hp => by
  rcases List.mem_cons.mp hp with rfl | hp
  · exact N _ (.head _)
  · rcases List.mem_cons.mp hp with rfl | hp
    · exact N _ (.tail _ (.head _))
    · exact N _ (.tail _ (.tail _ (.tail _ hp)))
theorem news_drop4 {h₀ h : Heap} {L : Addr} {x y z u : Addr × Obj} {r : List (Addr × Obj)} (N : News h₀ L h (x :: y :: z :: u :: r)) : News h₀ L h (x :: y :: z :: r) := fun p hp => by
  rcases List.mem_cons.mp hp with rfl | hp
  · exact N _ (.head _)
  · rcases List.mem_cons.mp hp with rfl | hp
    · exact N _ (.tail _ (.head _))
    · rcases List.mem_cons.mp hp with rfl | hp
      · exact N _ (.tail _ (.tail _ (.head _)))
      · exact N _ (.tail _ (.tail _ (.tail _ (.tail _ hp))))
theorem ne_second {d : Addr} {y : Addr × Obj} {r : List (Addr × Obj)} (hne : ∀ p ∈ r, p.1 ≠ d) (hm : y ∈ r) : ∀ p ∈ y :: r, p.1 ≠ d := fun p hp => by
  rcases List.mem_cons.mp hp with rfl | hp
  · exact hne _ hm
  · exact hne _ hp
theorem tab_ne {h₀ h : Heap} {L c T : Addr} {news rest : List (Addr × Obj)} {oc : Obj} {vsc ps : Array Value} {q q' : Str} {tq : Tok} {line : Int} (N : News h₀ L h news) (hc : (c, oc) ∈ news) (hd : oc.data = .fields vsc) (hv : vsc[1]? = some (.str q tq))
    (hT : (T, tabObj ps) ∈ news) (hps : TabIn line q' ps rest) : c ≠ T := by
  intro e
  subst e
  have h1 := (N _ hc).1
  have h2 := (N _ hT).1
  rw [h1] at h2
  have h3 : oc = tabObj ps := Option.some.inj h2
  rw [h3] at hd
  have h4 : ps = vsc := by injection hd
  subst h4
  rcases hps with rfl | ⟨c, oc, vsc, tq, rfl, _⟩
  · simp at hv
  · simp [rawInt] at hv
theorem i2d_any (w : World) (p : Program) (loose : List Str) (mean : ExcName → Option Value) (mg mb : Str → Option Value)
  (x N : Int) (hN0 : 1 ≤ N ∧ N ≤ 1000) (hx0 : 0 ≤ x) (k : Nat) (hlen : ((Builtin.Int.intBits x : Int) + N - 1).fdiv N = (k : Int)) (hk64 : k ≤ 64) (hxk : x < 2 ^ (N.toNat * k)) (hk1 : x ≠ 0 → 1 ≤ k)
  (dp un : Nat) (gd : Option (List Code)) (cn : Str) (cs : Scope) (a : Addr) (ccd : Value) (cl : List (Str × Addr)) (outer : List Env) (A₀ : Around) (base h₀ : Heap) (L : Addr) (m : Str → Option Value) (s : Shared) (Q E : Value → Shared → Prop) (rest : List (Addr × Obj))
  (hB : Below A₀ base outer h₀) (hF : Fr h₀ L s.heap m) (hX : (hd02.heap_39 w.params).In h₀) (hT : Top p loose mean mg mb h₀) (hC : CodeHd base 58 54) (hk : cs.kind = .function)
  (hd : dp + 100 < recursionLimit) (hu : un + 1000 < cLine)
  (tx tN : Tok) (hne : ∀ p ∈ rest, p.1 ≠ 54) (ps : Array Value) (hps : TabIn 36 (Str.ofString "_int2digits.<locals>.inner") ps rest)
  (hN : News h₀ L s.heap ((54, tabObj ps) :: rest))
  (hret : ∀ (l' : Addr) (vs' : List Value) (kn' : Nat) (h' : Heap) (tk' : Nat) (c' : Addr) (oc : Obj) (vsc : Array Value) (tq : Tok), Fr h₀ L h' m → IntsAre vs' (digs N.toNat k x) → oc.data = .fields vsc → vsc[1]? = some (.str (Str.ofString "_int2digits.<locals>.inner") tq) →
    News h₀ L h' ((l', listOf vs'.toArray kn') :: (c', oc) :: (54, tabObj #[rawInt 36, rawInt 4, .ref c']) :: rest) → Q (.ref l') { s with heap := h', toks := tk' }) :
  wpAny (model PySem.Challenge.rw_pg0294_02.row.prog w) (ktrTop dp un gd cn cs L a ccd cl outer) (call (.ref 59) [.int x tx, .int N tN]) Q E s := by
  rcases hps with rfl | ⟨c, oc, vsc, tq, rfl, hm, hdt, hv⟩
  · exact i2d_first w p loose mean mg mb x N hN0 hx0 k hlen hk64 hxk hk1 dp un gd cn cs a ccd cl outer A₀ base h₀ L m s Q E rest hB hF hX hT hC hk hd hu tx tN hne hN hret
  · refine i2d_again w p loose mean mg mb x N hN0 hx0 k hlen hk64 hxk hk1 dp un gd cn cs a ccd cl outer A₀ base h₀ L m s Q E rest hB hF hX hT hC hk hd hu tx tN hne c oc vsc tq hdt hv (hne _ hm) (news_second hN hm) hret
theorem d2i_any (w : World) (p : Program) (loose : List Str) (mean : ExcName → Option Value) (mg mb : Str → Option Value)
  (N : Int) (ns : List Int) (vs : List Value) (hi : IntsAre vs ns) (hN0 : 0 ≤ N ∧ N ≤ 1000) (hb : ∀ d ∈ ns, 0 ≤ d ∧ d < 2 ^ N.toNat) (hl : ns.length ≤ 64)
  (dp un : Nat) (gd : Option (List Code)) (cn : Str) (cs : Scope) (a : Addr) (ccd : Value) (cl : List (Str × Addr)) (outer : List Env) (A₀ : Around) (base h₀ : Heap) (L : Addr) (m : Str → Option Value) (s : Shared) (Q E : Value → Shared → Prop) (rest : List (Addr × Obj))
  (hB : Below A₀ base outer h₀) (hF : Fr h₀ L s.heap m) (hX : (hd02.heap_39 w.params).In h₀) (hT : Top p loose mean mg mb h₀) (hC : CodeHd base 65 61) (hk : cs.kind = .function)
  (hd : dp + 100 < recursionLimit) (hu : un + 1000 < cLine)
  (l : Addr) (kn : Nat) (tN : Tok) (hne : ∀ p ∈ rest, p.1 ≠ 61) (hml : (l, listOf vs.toArray kn) ∈ rest) (ps : Array Value) (hps : TabIn 51 (Str.ofString "_digits2int.<locals>.inner") ps rest)
  (hN : News h₀ L s.heap ((61, tabObj ps) :: rest))
  (hret : ∀ (t : Tok) (h' : Heap) (tk' : Nat) (c' : Addr) (oc : Obj) (vsc : Array Value) (tq : Tok), Fr h₀ L h' m → oc.data = .fields vsc → vsc[1]? = some (.str (Str.ofString "_digits2int.<locals>.inner") tq) →
    News h₀ L h' ((c', oc) :: (61, tabObj #[rawInt 51, rawInt 4, .ref c']) :: rest) → Q (.int (dsum N.toNat ns) t) { s with heap := h', toks := tk' }) :
  wpAny (model PySem.Challenge.rw_pg0294_02.row.prog w) (ktrTop dp un gd cn cs L a ccd cl outer) (call (.ref 66) [.ref l, .int N tN]) Q E s := by
  rcases hps with rfl | ⟨c, oc, vsc, tq, rfl, hm, hdt, hv⟩
  · exact d2i_first w p loose mean mg mb N ns vs hi hN0 hb hl dp un gd cn cs a ccd cl outer A₀ base h₀ L m s Q E rest hB hF hX hT hC hk hd hu l kn 0 tN (hne _ hml) hne (news_second hN hml) (fun t h' tk' c' oc vsc tq F' d1 d2 N' => hret t h' tk' c' oc vsc tq F' d1 d2 (news_drop3 N'))
  · exact d2i_again w p loose mean mg mb N ns vs hi hN0 hb hl dp un gd cn cs a ccd cl outer A₀ base h₀ L m s Q E rest hB hF hX hT hC hk hd hu l kn 0 tN (hne _ hml) hne c oc vsc tq hdt hv (hne _ hm) (news_second (news_second hN hml) (.tail _ hm)) (fun t h' tk' c' oc vsc tq F' d1 d2 N' => hret t h' tk' c' oc vsc tq F' d1 d2 (news_drop3 N'))
end
theorem calm_div2 : True := by w_top off; exact True.intro
section
section
theorem divmod_K {prog : Program} {w : World} {A : Around} {E : Value → Shared → Prop} {s : Shared} {h₀ : Heap} {L : Addr} {m : Str → Option Value} {news : List (Addr × Obj)} {a b : Int} {t u : Tok} {Q : Value → Shared → Prop}
    (F : Fr h₀ L s.heap m) (N : News h₀ L s.heap news) (hb : b ≠ 0) (hp : Builtin.divisionGoesByPylong a b = false)
    (h : ∀ r t1 t2 h' tk', Fr h₀ L h' m → News h₀ L h' ((r, { cls := .type "tuple", data := .seq #[.int (a.fdiv b) t1, .int (a.fmod b) t2] }) :: news) → (∀ p ∈ news, p.1 < r) → Q (.ref r) { s with heap := h', toks := tk' }) :
    wpAny (model prog w) A (call (.builtin "divmod") [.int a t, .int b u]) Q E s :=
  divmod_N F N hb (fun h' F' N' => h _ _ _ h' _ F' N' (fun p hp => Heap.lt_size (N p hp).1)) (.inl hp)
local macro_rules | `(tactic| walk_at "call builtin:divmod") => `(tactic| ((with_reducible show wpAny _ _ (call (Value.builtin _) [Value.int _ _, Value.int _ _]) _ _ _); refine divmod_K (by assumption) (by assumption) (by omega) (by assumption) ?_; intro _ _ _ _ _ _ _ l9))
theorem c_div2n1n (w : World) (p : Program) (loose : List Str) (mean : ExcName → Option Value) (mg mb : Str → Option Value)
  (dp un : Nat) (gd : Option (List Code)) (cn : Str) (cs : Scope) (a : Addr) (ccd : Value) (cl : List (Str × Addr)) (outer : List Env) (A₀ : Around) (base h₀ : Heap) (L : Addr) (m : Str → Option Value) (s : Shared) (Q E : Value → Shared → Prop) (rest : List (Addr × Obj))
  (hB : Below A₀ base outer h₀) (hF : Fr h₀ L s.heap m) (hX : (hd02.heap_39 w.params).In h₀) (hT : Top p loose mean mg mb h₀) (hk : cs.kind = .function)
  (hd : dp + 20 < recursionLimit) (hu : un + 200 < cLine)
  (x y n : Int) (tx ty tn : Tok) (hy : 0 < y) (hbits : (Builtin.Int.intBits x : Int) - n ≤ 4000) (hpy : Builtin.divisionGoesByPylong x y = false)
  (hN : News h₀ L s.heap rest)
  (hret : ∀ (r : Addr) (t1 t2 : Tok) (h' : Heap) (tk' : Nat), Fr h₀ L h' m → News h₀ L h' ((r, { cls := .type "tuple", data := .seq #[.int (Int.fdiv x y) t1, .int (Int.fmod x y) t2] }) :: rest) → (∀ p ∈ rest, p.1 < r) → Q (.ref r) { s with heap := h', toks := tk' }) :
  wpAny (model PySem.Challenge.rw_pg0294_02.row.prog w) (ktrTop dp un gd cn cs L a ccd cl outer) (call (.ref 45) [.int x tx, .int y ty, .int n tn]) Q E s := by
  refine wpAny_call ?_
  k_dflt cell_enter
  k_steps
  all_goals exact hret _ _ _ _ _ (by k_asm) (by k_asm) (by assumption)
end
end
local macro_rules | `(tactic| walk_at "idle") => `(tactic| fail)
local macro_rules | `(tactic| walk_at "idle") => `(tactic| fail)
theorem calm_divpos_plain : True := by w_top off; exact True.intro
section
theorem div_step {u y B d : Int} (hy : 0 < y) (_hu : 0 ≤ u) : (u * B + d) / y = B * (u / y) + (u % y * B + d) / y ∧ (u * B + d) % y = (u % y * B + d) % y := by
  have e := Int.emod_add_mul_ediv u y
  have e2 : u * B + d = (u % y * B + d) + y * (B * (u / y)) := by
    have : u * B = (u % y + y * (u / y)) * B := by rw [e]
    rw [this, Int.add_mul, Int.mul_assoc, Int.mul_comm (u / y) B]
    omega
  constructor
  · rw [e2, Int.add_mul_ediv_left _ _ (by omega)]; omega
  · rw [e2, Int.add_mul_emod_self_left]
theorem divstep_lt {r y B d : Int} (hy : 0 < y) (h0 : 0 ≤ r) (h1 : r < y) (hd0 : 0 ≤ d) (hd : d < B) : 0 ≤ r * B + d ∧ r * B + d < y * B ∧ 0 ≤ (r * B + d) / y ∧ (r * B + d) / y < B := by
  have h2 : 0 ≤ r * B := Int.mul_nonneg h0 (by omega)
  have h3 : r * B ≤ (y - 1) * B := Int.mul_le_mul_of_nonneg_right (by omega) (by omega)
  rw [Int.sub_mul, Int.one_mul] at h3
  have h4 : r * B + d < y * B := by omega
  refine ⟨by omega, h4, Int.ediv_nonneg (by omega) (by omega), Int.ediv_lt_of_lt_mul hy ?_⟩
  have h5 := Int.mul_comm y B; omega
theorem dsum_digs (N : Nat) : ∀ (k : Nat) (x : Int), 0 ≤ x → x < 2 ^ (N * k) → dsum N (digs N k x) = x
  | 0, x, h0, h => by simp at h; simp [digs, dsum]; omega
  | k + 1, x, h0, h => by
    rw [digs, dsum, dsum_digs N k (x / 2 ^ N) (Int.ediv_nonneg h0 (Int.le_of_lt (pow_pos2 N))) (div_lt_pow h0 (by rw [Nat.mul_add, Nat.mul_one, Nat.add_comm] at h; exact h))]
    exact Int.emod_add_mul_ediv x (2 ^ N)
theorem turn_plain {n : Nat} {x y u r d : Int} {qs ns : List Int} (hy : 0 < y) (hu : 0 ≤ u) (hr : r = u % y) (hQ : dsum n qs.reverse = u / y) (hx : x = u * 2 ^ (n * (d :: ns).length) + dsum n (d :: ns).reverse) (hd : 0 ≤ d ∧ d < 2 ^ n)
    (hq : ∀ e ∈ qs, 0 ≤ e ∧ e < 2 ^ n) :
    (∀ e ∈ qs ++ [(r * 2 ^ n + d).fdiv y], 0 ≤ e ∧ e < 2 ^ n) ∧ 0 ≤ u * 2 ^ n + d ∧ x = (u * 2 ^ n + d) * 2 ^ (n * ns.length) + dsum n ns.reverse ∧ dsum n (qs ++ [(r * 2 ^ n + d).fdiv y]).reverse = (u * 2 ^ n + d) / y ∧ (r * 2 ^ n + d).fmod y = (u * 2 ^ n + d) % y := by
  have hr0 : 0 ≤ r := by rw [hr]; exact Int.emod_nonneg _ (by omega)
  have hr1 : r < y := by rw [hr]; exact Int.emod_lt_of_pos _ hy
  have hs := divstep_lt hy hr0 hr1 hd.1 hd.2
  have hst := div_step (d := d) (B := 2 ^ n) hy hu
  rw [← hr] at hst
  have hp := pow_pos2 n
  rw [Int.fdiv_eq_ediv_of_nonneg _ (by omega), Int.fmod_eq_emod_of_nonneg _ (by omega)]
  refine ⟨fun e he => ?_, ?_, ?_, ?_, hst.2.symm⟩
  · rcases List.mem_append.mp he with he | he
    · exact hq e he
    · rw [List.mem_singleton.mp he]; exact ⟨hs.2.2.1, hs.2.2.2⟩
  · have := Int.mul_nonneg hu (Int.le_of_lt hp)
    omega
  · rw [hx, List.reverse_cons, dsum_append, List.length_reverse, List.length_cons, Nat.mul_add, Nat.mul_one, Nat.add_comm, Int.pow_add, Int.add_mul, Int.mul_assoc]
    simp only [dsum, Int.mul_zero, Int.add_zero]
    rw [Int.mul_comm (2 ^ (n * ns.length)) d]
    omega
  · rw [List.reverse_append, List.reverse_singleton, List.singleton_append, dsum, hQ, hst.1]
    omega
theorem news_e1 {h₀ h : Heap} {L : Addr} {q l c t d : Addr × Obj} {r : List (Addr × Obj)} (N : News h₀ L h (q :: l :: c :: t :: d :: r)) : News h₀ L h (d :: q :: c :: t :: r) := fun p hp => N p (by
  simp only [List.mem_cons, List.not_mem_nil, or_false] at hp ⊢
  rcases hp with h | h | h | h | h <;> simp [h])
theorem news_e2 {h₀ h : Heap} {L : Addr} {z c2 t2 q c t : Addr × Obj} {r : List (Addr × Obj)} (N : News h₀ L h (z :: c2 :: t2 :: q :: c :: t :: r)) : News h₀ L h (z :: c :: t :: c2 :: t2 :: r) := fun p hp => N p (by
  simp only [List.mem_cons, List.not_mem_nil, or_false] at hp ⊢
  rcases hp with h | h | h | h | h | h <;> simp [h])
theorem lt_bits {x : Int} (h : 0 ≤ x) : x < 2 ^ Builtin.Int.intBits x := by
  obtain ⟨n, rfl⟩ := Int.eq_ofNat_of_zero_le h
  by_cases z : n = 0
  · subst z; decide
  · have e : Builtin.Int.intBits (n : Int) = n.log2 + 1 := by
      unfold Builtin.Int.intBits
      have : ((n : Int) == 0) = false := by simp [z]
      rw [this]; simp
    rw [e]
    have := Nat.lt_log2_self (n := n)
    have h2 : ((2 : Int) ^ (n.log2 + 1)) = ((2 ^ (n.log2 + 1) : Nat) : Int) := by rw [Int.natCast_pow]; rfl
    rw [h2]
    exact Int.ofNat_lt.mpr this
theorem bits_pos {x : Int} (h : x ≠ 0) : 1 ≤ Builtin.Int.intBits x := by
  unfold Builtin.Int.intBits
  have : (x == 0) = false := by simp [h]
  rw [this]; simp
theorem places {x : Int} {n : Nat} (hx : 0 ≤ x) (hn : 1 ≤ n) (h : x < 2 ^ (64 * n)) :
    ((Builtin.Int.intBits x : Int) + (n : Int) - 1).fdiv n = (((Builtin.Int.intBits x + n - 1) / n : Nat) : Int) ∧ (Builtin.Int.intBits x + n - 1) / n ≤ 64 ∧ x < 2 ^ (n * ((Builtin.Int.intBits x + n - 1) / n)) ∧ (x ≠ 0 → 1 ≤ (Builtin.Int.intBits x + n - 1) / n) := by
  have hb := bits_of_lt hx h
  refine ⟨?_, ?_, ?_, fun hz => ?_⟩
  · rw [Int.fdiv_eq_ediv_of_nonneg _ (by omega)]
    have : (Builtin.Int.intBits x : Int) + (n : Int) - 1 = ((Builtin.Int.intBits x + n - 1 : Nat) : Int) := by omega
    rw [this, Int.natCast_ediv]
  · apply Nat.le_of_lt_succ
    apply (Nat.div_lt_iff_lt_mul (by omega)).mpr
    omega
  · apply Int.lt_of_lt_of_le (lt_bits hx)
    have h3 : Builtin.Int.intBits x ≤ n * ((Builtin.Int.intBits x + n - 1) / n) := by
      have := Nat.div_add_mod (Builtin.Int.intBits x + n - 1) n
      have := Nat.mod_lt (Builtin.Int.intBits x + n - 1) (by omega : 0 < n)
      omega
    have h4 := Nat.pow_le_pow_right (by omega : 0 < 2) h3
    have c (k : Nat) : ((2 : Int) ^ k) = ((2 ^ k : Nat) : Int) := by rw [Int.natCast_pow]; rfl
    rw [c, c]
    exact Int.ofNat_le.mpr h4
  · have := bits_pos hz
    exact (Nat.le_div_iff_mul_le (by omega)).mpr (by omega)
theorem news_g1 {h₀ h : Heap} {L : Addr} {a b c d e f : Addr × Obj} {r : List (Addr × Obj)} (N : News h₀ L h (a :: b :: c :: d :: e :: f :: r)) : News h₀ L h (a :: c :: d :: e :: f :: r) := fun p hp => N p (by
  simp only [List.mem_cons, List.not_mem_nil, or_false] at hp ⊢
  rcases hp with h | h | h | h | h | h <;> simp [h])
theorem dm_neg {x y : Int} (hy : 0 < y) : Builtin.bitNot ((-x - 1).fdiv y) = x.fdiv y ∧ y + Builtin.bitNot ((-x - 1).fmod y) = x.fmod y := by
  rw [Int.fdiv_eq_ediv_of_nonneg _ (by omega), Int.fdiv_eq_ediv_of_nonneg _ (by omega), Int.fmod_eq_emod_of_nonneg _ (by omega), Int.fmod_eq_emod_of_nonneg _ (by omega)]
  have e := Int.emod_add_mul_ediv (-x - 1) y
  have h0 := Int.emod_nonneg (-x - 1) (by omega : y ≠ 0)
  have h1 := Int.emod_lt_of_pos (-x - 1) hy
  have u := (Int.ediv_emod_unique (a := x) (q := -((-x - 1) / y) - 1) (r := y - 1 - (-x - 1) % y) hy).mpr ⟨by rw [Int.mul_sub, Int.mul_neg]; omega, by omega, by omega⟩
  unfold Builtin.bitNot
  omega
theorem dm_flip {x y : Int} (hy : y < 0) : (-x).fdiv (-y) = x.fdiv y ∧ -((-x).fmod (-y)) = x.fmod y := by
  have e : (-x).fdiv (-y) = x.fdiv y := Int.neg_fdiv_neg ..
  refine ⟨e, ?_⟩
  rw [Int.fmod_def, Int.fmod_def, e, Int.neg_mul]
  omega
end
theorem calm_divpos : True := by w_top off; exact True.intro
section
section
local macro_rules | `(tactic| k_all) => `(tactic| first | assumption | exact ne_allLt (And.right (by assumption)) (by omega) | exact ne_allLt (And.right (And.right (by assumption))) (by omega))
local macro_rules | `(tactic| k_room) => `(tactic| ktr_room)
local macro_rules | `(tactic| is_list) => `(tactic| exact News.isList (by k_asm) (by k_mem))
local macro_rules | `(tactic| walk_at "eval Name") => `(tactic| (k_here; k_dflt (refine' ld ?k1 ?k2 ?_; (case k1 => k_asm); (case k2 => first | assumption | exact if_pos rfl | exact (if_neg (by decide)).trans (by assumption) | exact (if_neg (by decide)).trans (if_pos rfl) | exact (if_neg (by decide)).trans ((if_neg (by decide)).trans (by assumption)) | exact (if_neg (by decide)).trans ((if_neg (by decide)).trans (if_pos rfl)) | exact (if_neg (by decide)).trans ((if_neg (by decide)).trans ((if_neg (by decide)).trans (by assumption))) | exact rfl); k_whole)))
theorem ints_rev {vs : List Value} {ns : List Int} (h : IntsAre vs ns) : IntsAre vs.reverse ns.reverse := by
  induction h with
  | nil => exact .nil
  | cons i t h ih => rw [List.reverse_cons, List.reverse_cons]; exact IntsAre.append ih (.cons i t .nil)
theorem offI_of {I : Addr} {it : Obj} : ∀ {l : List (Addr × Obj)}, (∀ p ∈ l, p.1 ≠ I) → OffI I it l
  | [], _ => trivial
  | p :: r, h => ⟨.inl (h p (.head _)), offI_of fun q hq => h q (.tail _ hq)⟩
theorem digs_mem (N : Nat) : ∀ (k : Nat) (x : Int), ∀ d ∈ digs N k x, 0 ≤ d ∧ d < 2 ^ N
  | 0, _, d, h => nomatch h
  | k + 1, x, d, h => by
    rw [digs] at h
    rcases List.mem_cons.mp h with rfl | h
    · exact ⟨Int.emod_nonneg _ (Int.ne_of_gt (pow_pos2 N)), Int.emod_lt_of_pos _ (pow_pos2 N)⟩
    · exact digs_mem N k _ d h
local macro_rules | `(tactic| walk_at "binaryOp LShift int int") => `(tactic| (refine lshift_int (by assumption) (by assumption) ?_))
theorem noPylong_bits {x y : Int} {n : Nat} (h0 : 0 ≤ y) (h : y < 2 ^ n) (hn : n ≤ 9000) : Builtin.divisionGoesByPylong x y = false := by
  apply PyProof.noPylong_of_log2
  by_cases z : y.natAbs = 0
  · rw [z]; decide
  · apply Nat.lt_of_lt_of_le ((Nat.log2_lt z).mpr ?_) hn
    obtain ⟨k, rfl⟩ := Int.eq_ofNat_of_zero_le h0
    have e : ((2 : Int) ^ n) = ((2 ^ n : Nat) : Int) := by rw [Int.natCast_pow]; rfl
    rw [e] at h
    rw [Int.natAbs_natCast]
    exact Int.ofNat_lt.mp h
local macro_rules | `(tactic| walk_at "call ref") => `(tactic| (refine Stop.mk ?_))
theorem c_divpos (w : World) (p : Program) (loose : List Str) (mean : ExcName → Option Value) (mg mb : Str → Option Value)
  (dp un : Nat) (gd : Option (List Code)) (cn : Str) (cs : Scope) (a : Addr) (ccd : Value) (cl : List (Str × Addr)) (outer : List Env) (A₀ : Around) (base h₀ : Heap) (L : Addr) (m : Str → Option Value) (s : Shared) (Q E : Value → Shared → Prop) (rest : List (Addr × Obj))
  (hB : Below A₀ base outer h₀) (hF : Fr h₀ L s.heap m) (hX : (hd02.heap_39 w.params).In h₀) (hT : Top p loose mean mg mb h₀) (hCi : CodeHd base 58 54) (hCd : CodeHd base 65 61) (hk : cs.kind = .function)
  (hd : dp + 110 < recursionLimit) (hu : un + 1100 < cLine)
  (x y N : Int) (tx ty : Tok) (k : Nat) (hy : 0 < y) (hN : (Builtin.Int.intBits y : Int) = N) (hN0 : 1 ≤ N ∧ N ≤ 1000) (hyN : y < 2 ^ N.toNat) (hx0 : 0 ≤ x) (hlen : ((Builtin.Int.intBits x : Int) + N - 1).fdiv N = (k : Int)) (hk3 : k ≤ 64) (hxk : x < 2 ^ (N.toNat * k)) (hk1 : x ≠ 0 → 1 ≤ k)
  (hne1 : ∀ p ∈ rest, p.1 ≠ 54) (hne2 : ∀ p ∈ rest, p.1 ≠ 61) (p1 p2 : Array Value)
  (hp1 : TabIn 36 (Str.ofString "_int2digits.<locals>.inner") p1 rest) (hp2 : TabIn 51 (Str.ofString "_digits2int.<locals>.inner") p2 rest)
  (hNw : News h₀ L s.heap ((54, tabObj p1) :: (61, tabObj p2) :: rest))
  (hret : ∀ (r : Addr) (t1 t2 : Tok) (h' : Heap) (tk' : Nat) (ci : Addr) (oci : Obj) (vsci : Array Value) (tqi : Tok) (cd : Addr) (ocd : Obj) (vscd : Array Value) (tqd : Tok), Fr h₀ L h' m →
    oci.data = .fields vsci → vsci[1]? = some (.str (Str.ofString "_int2digits.<locals>.inner") tqi) → ocd.data = .fields vscd → vscd[1]? = some (.str (Str.ofString "_digits2int.<locals>.inner") tqd) →
    News h₀ L h' ((r, { cls := .type "tuple", data := .seq #[.int (Int.fdiv x y) t1, .int (Int.fmod x y) t2] }) :: (ci, oci) :: (54, tabObj #[rawInt 36, rawInt 4, .ref ci]) :: (cd, ocd) :: (61, tabObj #[rawInt 51, rawInt 4, .ref cd]) :: rest) → Q (.ref r) { s with heap := h', toks := tk' }) :
  wpAny (model PySem.Challenge.rw_pg0294_02.row.prog w) (ktrTop dp un gd cn cs L a ccd cl outer) (call (.ref 73) [.int x tx, .int y ty]) Q E s := by
  subst hN
  refine wpAny_call ?_
  k_dflt cell_enter
  k_steps
  refine' Stop.out (i2d_any w p loose mean mg mb x _ hN0 hx0 k hlen (by omega) hxk hk1 _ _ _ _ _ _ _ _ _ _ _ _ _ _ _ _ _ ((61, tabObj p2) :: rest) ?B ?F ?X ?T hCi ?K ?D ?U _ _ ?ne p1 ?ps ?N ?ret)
  (case B => k_asm)
  (case F => k_asm)
  (case X => k_asm)
  (case T => k_asm)
  (case K => exact rfl)
  (case D => ktr_room)
  (case U => ktr_units)
  (case ne => exact List.forall_mem_cons.mpr ⟨by dsimp only; decide, hne1⟩)
  (case ps => exact hp1.mono (fun _ h => .tail _ h))
  (case N => k_asm)
  intro l9 vs9 kn9 h9 tk9 ci oci vsci tqi F9 i9 d9 v9 N9
  (try dsimp only)
  k_steps
  have h8 : ∀ d ∈ digs (Builtin.Int.intBits y) k x, 0 ≤ d ∧ d < 2 ^ (Builtin.Int.intBits y) := digs_mem _ _ _
  rename_i QL _ hlt _ DD _ _ _ hltD
  refine iter_revUnr (lo := listOf vs9.toArray kn9) (vs := vs9) rfl (by k_asm) (by k_asm) ?off (by k_mem) rfl rfl ?_
  (case off => (refine offI_of ?_; k_all))
  refine' (?H : ∀ (rem : List Value) (ds : List Int), IntsAre rem ds → (∀ d ∈ ds, 0 ≤ d ∧ d < 2 ^ Builtin.Int.intBits y) → ∀ (qs : List Int) (vq : List Value) (kq : Nat) (u r : Int) (tr tn : Tok) (m : Str → Option Value),
      IntsAre vq qs → (∀ d ∈ qs, 0 ≤ d ∧ d < 2 ^ Builtin.Int.intBits y) → qs.length + ds.length ≤ 64 → 0 ≤ u → x = u * 2 ^ (Builtin.Int.intBits y * ds.length) + dsum (Builtin.Int.intBits y) ds.reverse → dsum (Builtin.Int.intBits y) qs.reverse = u / y → r = u % y →
      m (Str.ofString "q_digits") = some (.ref QL) → m (Str.ofString "n") = some (.int (Builtin.Int.intBits y) tn) → m (Str.ofString "b") = some (.int y ty) → m (Str.ofString "r") = some (.int r tr) →
      RevRest _ _ _ _ _ _ _ _ _ _ _ _ rem m ((QL, listOf vq.toArray kq) :: _)) vs9.reverse (digs (Builtin.Int.intBits y) k x).reverse ?i1 ?i2 [] [] 0 0 0 _ _ _ ?i3 ?i4 ?i5 ?i6 ?i7 ?i8 ?i9 ?i10 ?i11 ?i12 ?i13
  (case i1 => exact ints_rev i9)
  (case i2 => exact fun d hd => h8 d (List.mem_reverse.mp hd))
  (case i3 => exact .nil)
  (case i4 => exact fun d hd => nomatch hd)
  (case i5 => rw [List.length_reverse, digs_length]; exact (by simpa using hk3))
  (case i6 => exact Int.le_refl _)
  (case i7 => rw [List.reverse_reverse, Int.zero_mul, Int.zero_add]; exact (dsum_digs _ _ _ hx0 hxk).symm)
  (case i8 => simp [dsum])
  (case i9 => simp)
  (case i10 => exact if_pos rfl)
  (case i11 => rfl)
  (case i12 => rfl)
  (case i13 => rfl)
  intro rem
  induction rem with
  | nil =>
    intro ds hi hds qs vq kq u r tr tn m hq hqd hlen2 hu0 hxu hQ hr m1 m2 m3 m4
    refine RevRest.zero (fun h' tk' F' N' => ?_)
    cases hi
    dsimp only
    k_steps
    try dsimp only
    have hvl := IntsAre.length hq
    simp only [List.length_nil, Nat.add_zero] at hlen2
    refine kl_reverse (by k_asm) (by k_asm) (show vq.toArray.toList.reverse = vq.reverse by simp) (by k_upd) ?hz ?_
    (case hz => (rw [sizeLine_eq]; simp only [List.toList_toArray]; omega))
    intro h8 F8 N8
    k_steps
    have hci : ci ≠ 61 := tab_ne N8 (.tail _ (.tail _ (.head _))) d9 v9 (.tail _ (.tail _ (.tail _ (.tail _ (.head _))))) hp2
    refine' Stop.out (d2i_any w p loose mean mg mb _ qs.reverse vq.reverse (ints_rev hq) ⟨by omega, hN0.2⟩ (fun d hd => hqd d (List.mem_reverse.mp hd)) (by rw [List.length_reverse]; exact hlen2) _ _ _ _ _ _ _ _ _ _ _ _ _ _ _ _ _ _ ?B3 ?F3 ?X3 ?T3 hCd ?K3 ?D3 ?U3 QL kq _ ?ne3 (.head _) p2 (TabIn.mono hp2 (fun _ h => .tail _ (.tail _ (.tail _ h)))) (news_e1 N8) ?ret3)
    (case B3 => k_asm)
    (case F3 => k_asm)
    (case X3 => k_asm)
    (case T3 => k_asm)
    (case K3 => exact rfl)
    (case D3 => ktr_room)
    (case U3 => ktr_units)
    (case ne3 => exact List.forall_mem_cons.mpr ⟨Nat.ne_of_gt (by omega), List.forall_mem_cons.mpr ⟨hci, List.forall_mem_cons.mpr ⟨by dsimp only; decide, hne2⟩⟩⟩)
    intro t9 h9 tk9 cd ocd vscd tqd F9 d10 v10 N9
    (try dsimp only)
    k_steps
    have hux : u = x := by
      rw [hxu]; simp [dsum]
    have hq1 : dsum (Builtin.Int.intBits y : Int).toNat qs.reverse = x.fdiv y := by
      rw [Int.toNat_natCast, hQ, hux, Int.fdiv_eq_ediv_of_nonneg _ (Int.le_of_lt hy)]
    have hr1 : r = x.fmod y := by rw [hr, hux, Int.fmod_eq_emod_of_nonneg _ (Int.le_of_lt hy)]
    rename News h₀ L _ _ => N7
    rw [hq1, hr1] at N7
    refine hret _ _ _ _ _ ci oci vsci tqi cd ocd vscd tqd (by k_asm) d9 v9 d10 v10 (news_e2 N7)
  | cons v rem ih =>
    intro ds hi hds qs vq kq u r tr tn m hq hqd hlen2 hu0 hxu hQ hr m1 m2 m3 m4
    refine RevRest.succ (fun it' h' tk' hit' F' N' => ?_)
    cases hi with | cons d td hi
    have hr0 : 0 ≤ r := by rw [hr]; exact Int.emod_nonneg _ (by omega)
    have hr1 : r < y := by rw [hr]; exact Int.emod_lt_of_pos _ hy
    have hd0 := hds d (.head _)
    have hn0 : (0 : Int) ≤ (Builtin.Int.intBits y : Int) := by omega
    have hrb := bits_of_lt hr0 (Int.lt_trans hr1 hyN)
    have hsz : (Builtin.Int.intBits r : Int) + (Builtin.Int.intBits y : Int) ≤ 2 ^ 27 := by
      rw [Int.toNat_natCast] at hrb
      have : (2 : Int) ^ 27 = 134217728 := by decide
      omega
    have hst := divstep_lt (B := 2 ^ (Builtin.Int.intBits y : Int).toNat) hy hr0 hr1 hd0.1 hd0.2
    have hxb : (Builtin.Int.intBits (r * 2 ^ (Builtin.Int.intBits y : Int).toNat + d) : Int) - (Builtin.Int.intBits y : Int) ≤ 4000 := by
      have h9 : r * 2 ^ (Builtin.Int.intBits y : Int).toNat + d < 2 ^ ((Builtin.Int.intBits y : Int).toNat + (Builtin.Int.intBits y : Int).toNat) := by
        rw [Int.pow_add]
        exact Int.lt_of_lt_of_le hst.2.1 (Int.mul_le_mul_of_nonneg_right (Int.le_of_lt hyN) (Int.le_of_lt (pow_pos2 _)))
      have h10 := bits_of_lt hst.1 h9
      rw [Int.toNat_natCast] at h10 ⊢
      omega
    k_steps
    refine' Stop.out (c_div2n1n w p loose mean mg mb _ _ _ _ _ _ _ _ _ _ _ _ _ _ _ _ _ _ ?B2 ?F2 ?X2 ?T2 ?K2 ?D2 ?U2 _ _ _ _ _ _ hy hxb (noPylong_bits (Int.le_of_lt hy) hyN (by omega)) ?N2 ?ret2)
    (case B2 => k_asm)
    (case F2 => k_asm)
    (case X2 => k_asm)
    (case T2 => k_asm)
    (case K2 => exact rfl)
    (case D2 => ktr_room)
    (case U2 => ktr_units)
    (case N2 => k_asm)
    intro r9 t19 t29 h9 tk9 F9 N9 l9r
    (try k_lt l9r)
    (try dsimp only)
    k_steps
    have htp := turn_plain (n := (Builtin.Int.intBits y : Int).toNat) hy hu0 hr hQ hxu hd0 hqd
    rename News _ _ _ (_ :: _ :: _ :: (l9, _) :: _) => N8
    rw [List.push_toArray] at N8
    refine UnrEnd.intro (by k_asm) (fun p hp => N8 p (.tail _ hp)) _ (fun _ h => h) (ne_allLt (d := DD) hltD (Nat.le_refl _)) ⟨.tail _ (.head _), ?_⟩
    refine ih _ hi (fun d hd => hds d (.tail _ hd)) (qs ++ [_]) (vq ++ [_]) (kq + 1) (u * 2 ^ (Builtin.Int.intBits y : Int).toNat + d) _ t29 tn _ (IntsAre.append hq (.cons _ _ .nil)) htp.1 ?_ htp.2.1 htp.2.2.1 htp.2.2.2.1 htp.2.2.2.2 ?_ ?_ ?_ (if_pos rfl)
    · rw [List.length_append]; simp only [List.length_cons, List.length_nil] at hlen2 ⊢; omega
    · exact (if_neg (by decide)).trans ((if_neg (by decide)).trans ((if_neg (by decide)).trans m1))
    · exact (if_neg (by decide)).trans ((if_neg (by decide)).trans ((if_neg (by decide)).trans m2))
    · exact (if_neg (by decide)).trans ((if_neg (by decide)).trans ((if_neg (by decide)).trans m3))
end
end
local macro_rules | `(tactic| walk_at "idle") => `(tactic| fail)
local macro_rules | `(tactic| walk_at "idle") => `(tactic| fail)
local macro_rules | `(tactic| walk_at "idle") => `(tactic| fail)
local macro_rules | `(tactic| walk_at "idle") => `(tactic| fail)
local macro_rules | `(tactic| walk_at "idle") => `(tactic| fail)
local macro_rules | `(tactic| walk_at "idle") => `(tactic| fail)
local macro_rules | `(tactic| walk_at "idle") => `(tactic| fail)
theorem calm_dm : True := by w_top off; exact True.intro
section
section
local macro_rules | `(tactic| k_room) => `(tactic| ktr_room)
local macro_rules | `(tactic| walk_at "call ref") => `(tactic| (refine Stop.mk ?_))
theorem c_dm_pos (w : World) (p : Program) (loose : List Str) (mean : ExcName → Option Value) (mg mb : Str → Option Value)
  (dp un : Nat) (gd : Option (List Code)) (cn : Str) (cs : Scope) (a : Addr) (ccd : Value) (cl : List (Str × Addr)) (outer : List Env) (A₀ : Around) (base h₀ : Heap) (L : Addr) (m : Str → Option Value) (s : Shared) (Q E : Value → Shared → Prop) (rest : List (Addr × Obj))
  (hB : Below A₀ base outer h₀) (hF : Fr h₀ L s.heap m) (hX : (hd02.heap_39 w.params).In h₀) (hT : Top p loose mean mg mb h₀) (hCi : CodeHd base 58 54) (hCd : CodeHd base 65 61) (hk : cs.kind = .function)
  (hd : dp + 115 < recursionLimit) (hu : un + 1150 < cLine)
  (x y : Int) (tx ty : Tok) (hx0 : 0 ≤ x) (hy : 0 < y) (hyN : Builtin.Int.intBits y ≤ 1000) (hxN : x < 2 ^ (64 * Builtin.Int.intBits y))
  (hne1 : ∀ p ∈ rest, p.1 ≠ 54) (hne2 : ∀ p ∈ rest, p.1 ≠ 61) (p1 p2 : Array Value)
  (hp1 : TabIn 36 (Str.ofString "_int2digits.<locals>.inner") p1 rest) (hp2 : TabIn 51 (Str.ofString "_digits2int.<locals>.inner") p2 rest)
  (hNw : News h₀ L s.heap ((54, tabObj p1) :: (61, tabObj p2) :: rest))
  (hret : ∀ (r : Addr) (t1 t2 : Tok) (h' : Heap) (tk' : Nat) (ci : Addr) (oci : Obj) (vsci : Array Value) (tqi : Tok) (cd : Addr) (ocd : Obj) (vscd : Array Value) (tqd : Tok), Fr h₀ L h' m →
    oci.data = .fields vsci → vsci[1]? = some (.str (Str.ofString "_int2digits.<locals>.inner") tqi) → ocd.data = .fields vscd → vscd[1]? = some (.str (Str.ofString "_digits2int.<locals>.inner") tqd) →
    News h₀ L h' ((r, { cls := .type "tuple", data := .seq #[.int (Int.fdiv x y) t1, .int (Int.fmod x y) t2] }) :: (ci, oci) :: (54, tabObj #[rawInt 36, rawInt 4, .ref ci]) :: (cd, ocd) :: (61, tabObj #[rawInt 51, rawInt 4, .ref cd]) :: rest) → Q (.ref r) { s with heap := h', toks := tk' }) :
  wpAny (model PySem.Challenge.rw_pg0294_02.row.prog w) (ktrTop dp un gd cn cs L a ccd cl outer) (call (.ref 80) [.int x tx, .int y ty]) Q E s := by
  refine wpAny_call ?_
  k_dflt cell_enter
  k_steps
  · exact absurd ‹y = 0› (by omega)
  · have hn1 := bits_pos (x := y) (by omega)
    have hpl := places hx0 hn1 hxN
    refine' Stop.out (c_divpos w p loose mean mg mb _ _ _ _ _ _ _ _ _ _ _ _ _ _ _ _ _ rest ?B ?F ?X ?T hCi hCd ?K ?D ?U x y _ _ _ _ hy rfl ⟨by omega, by omega⟩ (by rw [Int.toNat_natCast]; exact lt_bits (Int.le_of_lt hy)) hx0 hpl.1 hpl.2.1 (by rw [Int.toNat_natCast]; exact hpl.2.2.1) hpl.2.2.2 hne1 hne2 p1 p2 hp1 hp2 ?N ?ret)
    (case B => k_asm)
    (case F => k_asm)
    (case X => k_asm)
    (case T => k_asm)
    (case K => exact rfl)
    (case D => ktr_room)
    (case U => ktr_units)
    (case N => k_asm)
    intro r9 t19 t29 h9 tk9 ci oci vsci tqi cd ocd vscd tqd F9 d9 v9 d10 v10 N9
    (try dsimp only)
    k_steps
    exact hret _ _ _ _ _ ci oci vsci tqi cd ocd vscd tqd (by k_asm) d9 v9 d10 v10 (by k_asm)
theorem c_dm_neg (w : World) (p : Program) (loose : List Str) (mean : ExcName → Option Value) (mg mb : Str → Option Value)
  (dp un : Nat) (gd : Option (List Code)) (cn : Str) (cs : Scope) (a : Addr) (ccd : Value) (cl : List (Str × Addr)) (outer : List Env) (A₀ : Around) (base h₀ : Heap) (L : Addr) (m : Str → Option Value) (s : Shared) (Q E : Value → Shared → Prop) (rest : List (Addr × Obj))
  (hB : Below A₀ base outer h₀) (hF : Fr h₀ L s.heap m) (hX : (hd02.heap_39 w.params).In h₀) (hT : Top p loose mean mg mb h₀) (hCi : CodeHd base 58 54) (hCd : CodeHd base 65 61) (hk : cs.kind = .function)
  (hd : dp + 120 < recursionLimit) (hu : un + 1200 < cLine)
  (x y : Int) (tx ty : Tok) (hx0 : x < 0) (hy : 0 < y) (hyN : Builtin.Int.intBits y ≤ 1000) (hxN : -x ≤ 2 ^ (64 * Builtin.Int.intBits y))
  (hne1 : ∀ p ∈ rest, p.1 ≠ 54) (hne2 : ∀ p ∈ rest, p.1 ≠ 61) (p1 p2 : Array Value)
  (hp1 : TabIn 36 (Str.ofString "_int2digits.<locals>.inner") p1 rest) (hp2 : TabIn 51 (Str.ofString "_digits2int.<locals>.inner") p2 rest)
  (hNw : News h₀ L s.heap ((54, tabObj p1) :: (61, tabObj p2) :: rest))
  (hret : ∀ (r : Addr) (t1 t2 : Tok) (h' : Heap) (tk' : Nat) (ci : Addr) (oci : Obj) (vsci : Array Value) (tqi : Tok) (cd : Addr) (ocd : Obj) (vscd : Array Value) (tqd : Tok), Fr h₀ L h' m →
    oci.data = .fields vsci → vsci[1]? = some (.str (Str.ofString "_int2digits.<locals>.inner") tqi) → ocd.data = .fields vscd → vscd[1]? = some (.str (Str.ofString "_digits2int.<locals>.inner") tqd) →
    News h₀ L h' ((r, { cls := .type "tuple", data := .seq #[.int (Int.fdiv x y) t1, .int (Int.fmod x y) t2] }) :: (ci, oci) :: (54, tabObj #[rawInt 36, rawInt 4, .ref ci]) :: (cd, ocd) :: (61, tabObj #[rawInt 51, rawInt 4, .ref cd]) :: rest) → Q (.ref r) { s with heap := h', toks := tk' }) :
  wpAny (model PySem.Challenge.rw_pg0294_02.row.prog w) (ktrTop dp un gd cn cs L a ccd cl outer) (call (.ref 80) [.int x tx, .int y ty]) Q E s := by
  refine wpAny_call ?_
  k_dflt cell_enter
  k_steps
  · exact absurd ‹y = 0› (by omega)
  · have hdm := dm_neg (x := x) hy
    rw [show Builtin.bitNot x = -x - 1 from by unfold Builtin.bitNot; omega]
    refine' Stop.out (c_dm_pos w p loose mean mg mb _ _ _ _ _ _ _ _ _ _ _ _ _ _ _ _ _ rest ?Ba ?Fa ?Xa ?Ta hCi hCd ?Ka ?Da ?Ua (-x - 1) y _ _ (by omega) hy hyN (by omega) hne1 hne2 p1 p2 hp1 hp2 ?Na ?reta)
    (case Ba => k_asm)
    (case Fa => k_asm)
    (case Xa => k_asm)
    (case Ta => k_asm)
    (case Ka => exact rfl)
    (case Da => ktr_room)
    (case Ua => ktr_units)
    (case Na => k_asm)
    intro r9 t19 t29 h9 tk9 ci oci vsci tqi cd ocd vscd tqd F9 d9 v9 d10 v10 N9
    (try dsimp only)
    k_steps
    rename News h₀ L _ _ => N7
    rw [hdm.1, hdm.2] at N7
    exact hret _ _ _ _ _ ci oci vsci tqi cd ocd vscd tqd (by k_asm) d9 v9 d10 v10 (news_g1 N7)
theorem c_dm_b (w : World) (p : Program) (loose : List Str) (mean : ExcName → Option Value) (mg mb : Str → Option Value)
  (dp un : Nat) (gd : Option (List Code)) (cn : Str) (cs : Scope) (a : Addr) (ccd : Value) (cl : List (Str × Addr)) (outer : List Env) (A₀ : Around) (base h₀ : Heap) (L : Addr) (m : Str → Option Value) (s : Shared) (Q E : Value → Shared → Prop) (rest : List (Addr × Obj))
  (hB : Below A₀ base outer h₀) (hF : Fr h₀ L s.heap m) (hX : (hd02.heap_39 w.params).In h₀) (hT : Top p loose mean mg mb h₀) (hCi : CodeHd base 58 54) (hCd : CodeHd base 65 61) (hk : cs.kind = .function)
  (hd : dp + 130 < recursionLimit) (hu : un + 1300 < cLine)
  (x y : Int) (tx ty : Tok) (hy : y < 0) (hyN : Builtin.Int.intBits (-y) ≤ 1000) (hxN : -(2 ^ (64 * Builtin.Int.intBits (-y))) < x ∧ x ≤ 2 ^ (64 * Builtin.Int.intBits (-y)))
  (hne1 : ∀ p ∈ rest, p.1 ≠ 54) (hne2 : ∀ p ∈ rest, p.1 ≠ 61) (p1 p2 : Array Value)
  (hp1 : TabIn 36 (Str.ofString "_int2digits.<locals>.inner") p1 rest) (hp2 : TabIn 51 (Str.ofString "_digits2int.<locals>.inner") p2 rest)
  (hNw : News h₀ L s.heap ((54, tabObj p1) :: (61, tabObj p2) :: rest))
  (hret : ∀ (r : Addr) (t1 t2 : Tok) (h' : Heap) (tk' : Nat) (ci : Addr) (oci : Obj) (vsci : Array Value) (tqi : Tok) (cd : Addr) (ocd : Obj) (vscd : Array Value) (tqd : Tok), Fr h₀ L h' m →
    oci.data = .fields vsci → vsci[1]? = some (.str (Str.ofString "_int2digits.<locals>.inner") tqi) → ocd.data = .fields vscd → vscd[1]? = some (.str (Str.ofString "_digits2int.<locals>.inner") tqd) →
    News h₀ L h' ((r, { cls := .type "tuple", data := .seq #[.int (Int.fdiv x y) t1, .int (Int.fmod x y) t2] }) :: (ci, oci) :: (54, tabObj #[rawInt 36, rawInt 4, .ref ci]) :: (cd, ocd) :: (61, tabObj #[rawInt 51, rawInt 4, .ref cd]) :: rest) → Q (.ref r) { s with heap := h', toks := tk' }) :
  wpAny (model PySem.Challenge.rw_pg0294_02.row.prog w) (ktrTop dp un gd cn cs L a ccd cl outer) (call (.ref 80) [.int x tx, .int y ty]) Q E s := by
  refine wpAny_call ?_
  k_dflt cell_enter
  k_steps
  · exact absurd ‹y = 0› (by omega)
  · have hdm := dm_flip (x := x) hy
    by_cases hs : 0 ≤ -x
    · skip
      refine' Stop.out (c_dm_pos w p loose mean mg mb _ _ _ _ _ _ _ _ _ _ _ _ _ _ _ _ _ rest ?Ba ?Fa ?Xa ?Ta hCi hCd ?Ka ?Da ?Ua (-x) (-y) _ _ hs (by omega) hyN (by omega) hne1 hne2 p1 p2 hp1 hp2 ?Na ?reta)
      (case Ba => k_asm)
      (case Fa => k_asm)
      (case Xa => k_asm)
      (case Ta => k_asm)
      (case Ka => exact rfl)
      (case Da => ktr_room)
      (case Ua => ktr_units)
      (case Na => k_asm)
      intro r9 t19 t29 h9 tk9 ci oci vsci tqi cd ocd vscd tqd F9 d9 v9 d10 v10 N9
      (try dsimp only)
      k_steps
      rename News h₀ L _ _ => N7
      rw [hdm.1, hdm.2] at N7
      exact hret _ _ _ _ _ ci oci vsci tqi cd ocd vscd tqd (by k_asm) d9 v9 d10 v10 (news_g1 N7)
    · skip
      refine' Stop.out (c_dm_neg w p loose mean mg mb _ _ _ _ _ _ _ _ _ _ _ _ _ _ _ _ _ rest ?Bb ?Fb ?Xb ?Tb hCi hCd ?Kb ?Db ?Ub (-x) (-y) _ _ (by omega) (by omega) hyN (by omega) hne1 hne2 p1 p2 hp1 hp2 ?Nb ?retb)
      (case Bb => k_asm)
      (case Fb => k_asm)
      (case Xb => k_asm)
      (case Tb => k_asm)
      (case Kb => exact rfl)
      (case Db => ktr_room)
      (case Ub => ktr_units)
      (case Nb => k_asm)
      intro r9 t19 t29 h9 tk9 ci oci vsci tqi cd ocd vscd tqd F9 d9 v9 d10 v10 N9
      (try dsimp only)
      k_steps
      rename News h₀ L _ _ => N7
      rw [hdm.1, hdm.2] at N7
      exact hret _ _ _ _ _ ci oci vsci tqi cd ocd vscd tqd (by k_asm) d9 v9 d10 v10 (news_g1 N7)
end
end
local macro_rules | `(tactic| walk_at "idle") => `(tactic| fail)
local macro_rules | `(tactic| walk_at "idle") => `(tactic| fail)
local macro_rules | `(tactic| walk_at "idle") => `(tactic| fail)
theorem calm_tw : True := by w_top off; exact True.intro
section
-- the tables of codes, wherever they stand in the ledger
theorem news_neC {h : Heap} {a b : Addr} {o o' : Obj} (e1 : h.get? a = some o) (e2 : h.get? b = some o') (hc : o.cls ≠ o'.cls) : a ≠ b := fun e => hc (by
  subst e
  rw [e1] at e2
  cases e2
  rfl)
def TabsW (h₀ : Heap) (L : Addr) (h : Heap) (front : List (Addr × Obj)) (p1 p2 : Array Value) (ex : List (Addr × Obj)) : Prop :=
  TabIn 36 (Str.ofString "_int2digits.<locals>.inner") p1 ex ∧ TabIn 51 (Str.ofString "_digits2int.<locals>.inner") p2 ex ∧ (∀ p ∈ ex, p.1 ≠ 54 ∧ p.1 ≠ 61) ∧ News h₀ L h (front ++ (54, tabObj p1) :: (61, tabObj p2) :: ex)
def Tabs (h₀ : Heap) (L : Addr) (h : Heap) (front : List (Addr × Obj)) : Prop := ∃ p1 p2 ex, TabsW h₀ L h front p1 p2 ex
theorem Tabs.news {h₀ h : Heap} {L : Addr} {front : List (Addr × Obj)} (T : Tabs h₀ L h front) : News h₀ L h front := by
  obtain ⟨p1, p2, ex, _, _, _, N⟩ := T
  exact fun p hp => N p (List.mem_append.mpr (.inl hp))
theorem Tabs.sub {h₀ h : Heap} {L : Addr} {front front' : List (Addr × Obj)} (T : Tabs h₀ L h front) (hs : ∀ p ∈ front', p ∈ front) : Tabs h₀ L h front' := by
  obtain ⟨p1, p2, ex, a, b, c, N⟩ := T
  exact ⟨p1, p2, ex, a, b, c, fun p hp => N p (by
    rcases List.mem_append.mp hp with hp | hp
    · exact List.mem_append.mpr (.inl (hs _ hp))
    · exact List.mem_append.mpr (.inr hp))⟩
theorem Tabs.cons {h₀ h : Heap} {L : Addr} {x : Addr × Obj} {front : List (Addr × Obj)} (T : Tabs h₀ L h front) (N : News h₀ L h [x]) : Tabs h₀ L h (x :: front) := by
  obtain ⟨p1, p2, ex, a, b, c, N'⟩ := T
  exact ⟨p1, p2, ex, a, b, c, fun p hp => by
    rcases List.mem_cons.mp hp with rfl | hp
    · exact N _ (.head _)
    · exact N' p hp⟩
theorem news_off {h₀ h : Heap} {L T : Addr} {ps : Array Value} {news front : List (Addr × Obj)} (N : News h₀ L h news) (hT : (T, tabObj ps) ∈ news) (hs : ∀ p ∈ front, p ∈ news) (hoff : ∀ p ∈ front, p.2.cls ≠ .none) : ∀ p ∈ front, p.1 ≠ T := fun p hp =>
  news_neC (N _ (hs p hp)).1 (N _ hT).1 (hoff p hp)
theorem T_d2i (w : World) (p : Program) (loose : List Str) (mean : ExcName → Option Value) (mg mb : Str → Option Value)
  (dp un : Nat) (gd : Option (List Code)) (cn : Str) (cs : Scope) (a : Addr) (ccd : Value) (cl : List (Str × Addr)) (outer : List Env) (A₀ : Around) (base h₀ : Heap) (L : Addr) (m : Str → Option Value) (s : Shared) (Q E : Value → Shared → Prop)
  (hB : Below A₀ base outer h₀) (hF : Fr h₀ L s.heap m) (hX : (hd02.heap_39 w.params).In h₀) (hT : Top p loose mean mg mb h₀) (hCi : CodeHd base 58 54) (hCd : CodeHd base 65 61) (hk : cs.kind = .function)
  (hd : dp + 200 < recursionLimit) (hu : un + 2000 < cLine) (front : List (Addr × Obj)) (hoff : ∀ p ∈ front, p.2.cls ≠ .none) (hTb : Tabs h₀ L s.heap front)
  (N : Int) (ns : List Int) (vs : List Value) (hi : IntsAre vs ns) (hN0 : 0 ≤ N ∧ N ≤ 1000) (hb : ∀ d ∈ ns, 0 ≤ d ∧ d < 2 ^ N.toNat) (hl : ns.length ≤ 64) (l : Addr) (kn : Nat) (tN : Tok) (hml : (l, listOf vs.toArray kn) ∈ front)
  (hret : ∀ (t : Tok) (h' : Heap) (tk' : Nat), Fr h₀ L h' m → Tabs h₀ L h' front → Q (.int (dsum N.toNat ns) t) { s with heap := h', toks := tk' }) :
  wpAny (model PySem.Challenge.rw_pg0294_02.row.prog w) (ktrTop dp un gd cn cs L a ccd cl outer) (call (.ref 66) [.ref l, .int N tN]) Q E s := by
  obtain ⟨p1, p2, ex, t1, t2, oe, hN⟩ := hTb
  have of1 := news_off (front := front) hN (List.mem_append.mpr (.inr (.head _))) (fun p hp => List.mem_append.mpr (.inl hp)) hoff
  have of2 := news_off (front := front) hN (List.mem_append.mpr (.inr (.tail _ (.head _)))) (fun p hp => List.mem_append.mpr (.inl hp)) hoff
  refine d2i_any w p loose mean mg mb N ns vs hi hN0 hb hl dp un gd cn cs a ccd cl outer A₀ base h₀ L m s Q E (front ++ (54, tabObj p1) :: ex) hB hF hX hT hCd hk (by omega) (by omega) l kn tN ?_ (List.mem_append.mpr (.inl hml)) p2 (t2.mono fun p hp => List.mem_append.mpr (.inr (.tail _ hp))) ?_ ?_
  · intro p hp
    rcases List.mem_append.mp hp with hp | hp
    · exact of2 p hp
    · rcases List.mem_cons.mp hp with rfl | hp
      · dsimp only; decide
      · exact (oe p hp).2
  · intro p hp
    rcases List.mem_cons.mp hp with rfl | hp
    · exact hN _ (List.mem_append.mpr (.inr (.tail _ (.head _))))
    · rcases List.mem_append.mp hp with hp | hp
      · exact hN p (List.mem_append.mpr (.inl hp))
      · rcases List.mem_cons.mp hp with rfl | hp
        · exact hN _ (List.mem_append.mpr (.inr (.head _)))
        · exact hN p (List.mem_append.mpr (.inr (.tail _ (.tail _ hp))))
  · intro t h' tk' c' oc vsc tq F' d1 d2 N'
    have hc1 : c' ≠ 54 := tab_ne N' (.head _) d1 d2 (.tail _ (.tail _ (List.mem_append.mpr (.inr (.head _))))) t1
    have hc2 : c' ≠ 61 := tab_ne N' (.head _) d1 d2 (.tail _ (.head _)) (TabIn.full (line := 51) (rest := [(c', oc)]) (.head _) d1 d2)
    refine hret t h' tk' F' ⟨p1, _, (c', oc) :: ex, t1.mono (fun _ h => .tail _ h), TabIn.full (.head _) d1 d2, List.forall_mem_cons.mpr ⟨⟨hc1, hc2⟩, oe⟩, fun p hp => ?_⟩
    rcases List.mem_append.mp hp with hp | hp
    · exact N' p (.tail _ (.tail _ (List.mem_append.mpr (.inl hp))))
    · rcases List.mem_cons.mp hp with rfl | hp
      · exact N' _ (.tail _ (.tail _ (List.mem_append.mpr (.inr (.head _)))))
      · rcases List.mem_cons.mp hp with rfl | hp
        · exact N' _ (.tail _ (.head _))
        · rcases List.mem_cons.mp hp with rfl | hp
          · exact N' _ (.head _)
          · exact N' p (.tail _ (.tail _ (List.mem_append.mpr (.inr (.tail _ hp)))))
theorem T_i2d (w : World) (p : Program) (loose : List Str) (mean : ExcName → Option Value) (mg mb : Str → Option Value)
  (dp un : Nat) (gd : Option (List Code)) (cn : Str) (cs : Scope) (a : Addr) (ccd : Value) (cl : List (Str × Addr)) (outer : List Env) (A₀ : Around) (base h₀ : Heap) (L : Addr) (m : Str → Option Value) (s : Shared) (Q E : Value → Shared → Prop)
  (hB : Below A₀ base outer h₀) (hF : Fr h₀ L s.heap m) (hX : (hd02.heap_39 w.params).In h₀) (hT : Top p loose mean mg mb h₀) (hCi : CodeHd base 58 54) (hCd : CodeHd base 65 61) (hk : cs.kind = .function)
  (hd : dp + 200 < recursionLimit) (hu : un + 2000 < cLine) (front : List (Addr × Obj)) (hoff : ∀ p ∈ front, p.2.cls ≠ .none) (hTb : Tabs h₀ L s.heap front)
  (x N : Int) (hN0 : 1 ≤ N ∧ N ≤ 1000) (hx0 : 0 ≤ x) (k : Nat) (hlen : ((Builtin.Int.intBits x : Int) + N - 1).fdiv N = (k : Int)) (hk64 : k ≤ 64) (hxk : x < 2 ^ (N.toNat * k)) (hk1 : x ≠ 0 → 1 ≤ k) (tx tN : Tok)
  (hret : ∀ (l' : Addr) (vs' : List Value) (kn' : Nat) (h' : Heap) (tk' : Nat), Fr h₀ L h' m → IntsAre vs' (digs N.toNat k x) → Tabs h₀ L h' ((l', listOf vs'.toArray kn') :: front) → Q (.ref l') { s with heap := h', toks := tk' }) :
  wpAny (model PySem.Challenge.rw_pg0294_02.row.prog w) (ktrTop dp un gd cn cs L a ccd cl outer) (call (.ref 59) [.int x tx, .int N tN]) Q E s := by
  obtain ⟨p1, p2, ex, t1, t2, oe, hN⟩ := hTb
  have of1 := news_off (front := front) hN (List.mem_append.mpr (.inr (.head _))) (fun p hp => List.mem_append.mpr (.inl hp)) hoff
  refine i2d_any w p loose mean mg mb x N hN0 hx0 k hlen hk64 hxk hk1 dp un gd cn cs a ccd cl outer A₀ base h₀ L m s Q E (front ++ (61, tabObj p2) :: ex) hB hF hX hT hCi hk (by omega) (by omega) tx tN ?_ p1 (t1.mono fun p hp => List.mem_append.mpr (.inr (.tail _ hp))) ?_ ?_
  · intro p hp
    rcases List.mem_append.mp hp with hp | hp
    · exact of1 p hp
    · rcases List.mem_cons.mp hp with rfl | hp
      · dsimp only; decide
      · exact (oe p hp).1
  · intro p hp
    rcases List.mem_cons.mp hp with rfl | hp
    · exact hN _ (List.mem_append.mpr (.inr (.head _)))
    · rcases List.mem_append.mp hp with hp | hp
      · exact hN p (List.mem_append.mpr (.inl hp))
      · rcases List.mem_cons.mp hp with rfl | hp
        · exact hN _ (List.mem_append.mpr (.inr (.tail _ (.head _))))
        · exact hN p (List.mem_append.mpr (.inr (.tail _ (.tail _ hp))))
  · intro l' vs' kn' h' tk' c' oc vsc tq F' i' d1 d2 N'
    have hc2 : c' ≠ 61 := tab_ne N' (.tail _ (.head _)) d1 d2 (.tail _ (.tail _ (.tail _ (List.mem_append.mpr (.inr (.head _)))))) t2
    have hc1 : c' ≠ 54 := tab_ne N' (.tail _ (.head _)) d1 d2 (.tail _ (.tail _ (.head _))) (TabIn.full (line := 36) (rest := [(c', oc)]) (.head _) d1 d2)
    refine hret l' vs' kn' h' tk' F' i' ⟨_, p2, (c', oc) :: ex, TabIn.full (.head _) d1 d2, t2.mono (fun _ h => .tail _ h), List.forall_mem_cons.mpr ⟨⟨hc1, hc2⟩, oe⟩, fun p hp => ?_⟩
    rcases List.mem_cons.mp hp with rfl | hp
    · exact N' _ (.head _)
    rcases List.mem_append.mp hp with hp | hp
    · exact N' p (.tail _ (.tail _ (.tail _ (List.mem_append.mpr (.inl hp)))))
    · rcases List.mem_cons.mp hp with rfl | hp
      · exact N' _ (.tail _ (.tail _ (.head _)))
      · rcases List.mem_cons.mp hp with rfl | hp
        · exact N' _ (.tail _ (.tail _ (.tail _ (List.mem_append.mpr (.inr (.head _))))))
        · rcases List.mem_cons.mp hp with rfl | hp
          · exact N' _ (.tail _ (.head _))
          · exact N' p (.tail _ (.tail _ (.tail _ (List.mem_append.mpr (.inr (.tail _ hp))))))
theorem T_dm (w : World) (p : Program) (loose : List Str) (mean : ExcName → Option Value) (mg mb : Str → Option Value)
  (dp un : Nat) (gd : Option (List Code)) (cn : Str) (cs : Scope) (a : Addr) (ccd : Value) (cl : List (Str × Addr)) (outer : List Env) (A₀ : Around) (base h₀ : Heap) (L : Addr) (m : Str → Option Value) (s : Shared) (Q E : Value → Shared → Prop)
  (hB : Below A₀ base outer h₀) (hF : Fr h₀ L s.heap m) (hX : (hd02.heap_39 w.params).In h₀) (hT : Top p loose mean mg mb h₀) (hCi : CodeHd base 58 54) (hCd : CodeHd base 65 61) (hk : cs.kind = .function)
  (hd : dp + 200 < recursionLimit) (hu : un + 2000 < cLine) (front : List (Addr × Obj)) (hoff : ∀ p ∈ front, p.2.cls ≠ .none) (hTb : Tabs h₀ L s.heap front)
  (x y : Int) (tx ty : Tok) (hy : y ≠ 0) (hyN : Builtin.Int.intBits y ≤ 1000) (hxN : -(2 ^ (64 * Builtin.Int.intBits y)) < x ∧ x < 2 ^ (64 * Builtin.Int.intBits y))
  (hret : ∀ (r : Addr) (t1 t2 : Tok) (h' : Heap) (tk' : Nat), Fr h₀ L h' m → Tabs h₀ L h' ((r, { cls := .type "tuple", data := .seq #[.int (Int.fdiv x y) t1, .int (Int.fmod x y) t2] }) :: front) → Q (.ref r) { s with heap := h', toks := tk' }) :
  wpAny (model PySem.Challenge.rw_pg0294_02.row.prog w) (ktrTop dp un gd cn cs L a ccd cl outer) (call (.ref 80) [.int x tx, .int y ty]) Q E s := by
  obtain ⟨p1, p2, ex, t1, t2, oe, hN⟩ := hTb
  have of1 := news_off (front := front) hN (List.mem_append.mpr (.inr (.head _))) (fun p hp => List.mem_append.mpr (.inl hp)) hoff
  have of2 := news_off (front := front) hN (List.mem_append.mpr (.inr (.tail _ (.head _)))) (fun p hp => List.mem_append.mpr (.inl hp)) hoff
  have ne1 : ∀ p ∈ front ++ ex, p.1 ≠ 54 := fun p hp => by
    rcases List.mem_append.mp hp with hp | hp
    · exact of1 p hp
    · exact (oe p hp).1
  have ne2 : ∀ p ∈ front ++ ex, p.1 ≠ 61 := fun p hp => by
    rcases List.mem_append.mp hp with hp | hp
    · exact of2 p hp
    · exact (oe p hp).2
  have hN' : News h₀ L s.heap ((54, tabObj p1) :: (61, tabObj p2) :: (front ++ ex)) := fun p hp => by
    rcases List.mem_cons.mp hp with rfl | hp
    · exact hN _ (List.mem_append.mpr (.inr (.head _)))
    · rcases List.mem_cons.mp hp with rfl | hp
      · exact hN _ (List.mem_append.mpr (.inr (.tail _ (.head _))))
      · rcases List.mem_append.mp hp with hp | hp
        · exact hN p (List.mem_append.mpr (.inl hp))
        · exact hN p (List.mem_append.mpr (.inr (.tail _ (.tail _ hp))))
  have fin : ∀ (r : Addr) (u1 u2 : Tok) (h' : Heap) (tk' : Nat) (ci : Addr) (oci : Obj) (vsci : Array Value) (tqi : Tok) (cd : Addr) (ocd : Obj) (vscd : Array Value) (tqd : Tok), Fr h₀ L h' m →
    oci.data = .fields vsci → vsci[1]? = some (.str (Str.ofString "_int2digits.<locals>.inner") tqi) → ocd.data = .fields vscd → vscd[1]? = some (.str (Str.ofString "_digits2int.<locals>.inner") tqd) →
    News h₀ L h' ((r, { cls := .type "tuple", data := .seq #[.int (Int.fdiv x y) u1, .int (Int.fmod x y) u2] }) :: (ci, oci) :: (54, tabObj #[rawInt 36, rawInt 4, .ref ci]) :: (cd, ocd) :: (61, tabObj #[rawInt 51, rawInt 4, .ref cd]) :: (front ++ ex)) → Q (.ref r) { s with heap := h', toks := tk' } := by
    intro r u1 u2 h' tk' ci oci vsci tqi cd ocd vscd tqd F' d1 d2 d3 d4 N'
    have q1 : TabIn 36 (Str.ofString "_int2digits.<locals>.inner") #[rawInt 36, rawInt 4, .ref ci] ((ci, oci) :: (cd, ocd) :: ex) := TabIn.full (.head _) d1 d2
    have q2 : TabIn 51 (Str.ofString "_digits2int.<locals>.inner") #[rawInt 51, rawInt 4, .ref cd] ((ci, oci) :: (cd, ocd) :: ex) := TabIn.full (.tail _ (.head _)) d3 d4
    have mI : (54, tabObj #[rawInt 36, rawInt 4, .ref ci]) ∈ ((r, ({ cls := .type "tuple", data := .seq #[.int (Int.fdiv x y) u1, .int (Int.fmod x y) u2] } : Obj)) :: (ci, oci) :: (54, tabObj #[rawInt 36, rawInt 4, .ref ci]) :: (cd, ocd) :: (61, tabObj #[rawInt 51, rawInt 4, .ref cd]) :: (front ++ ex)) := .tail _ (.tail _ (.head _))
    have mD : (61, tabObj #[rawInt 51, rawInt 4, .ref cd]) ∈ ((r, ({ cls := .type "tuple", data := .seq #[.int (Int.fdiv x y) u1, .int (Int.fmod x y) u2] } : Obj)) :: (ci, oci) :: (54, tabObj #[rawInt 36, rawInt 4, .ref ci]) :: (cd, ocd) :: (61, tabObj #[rawInt 51, rawInt 4, .ref cd]) :: (front ++ ex)) := .tail _ (.tail _ (.tail _ (.tail _ (.head _))))
    have c1 : ci ≠ 54 := tab_ne N' (.tail _ (.head _)) d1 d2 mI q1
    have c2 : ci ≠ 61 := tab_ne N' (.tail _ (.head _)) d1 d2 mD q2
    have c3 : cd ≠ 54 := tab_ne N' (.tail _ (.tail _ (.tail _ (.head _)))) d3 d4 mI q1
    have c4 : cd ≠ 61 := tab_ne N' (.tail _ (.tail _ (.tail _ (.head _)))) d3 d4 mD q2
    refine hret r u1 u2 h' tk' F' ⟨_, _, (ci, oci) :: (cd, ocd) :: ex, q1, q2, List.forall_mem_cons.mpr ⟨⟨c1, c2⟩, List.forall_mem_cons.mpr ⟨⟨c3, c4⟩, oe⟩⟩, fun p hp => ?_⟩
    rcases List.mem_cons.mp hp with rfl | hp
    · exact N' _ (.head _)
    rcases List.mem_append.mp hp with hp | hp
    · exact N' p (.tail _ (.tail _ (.tail _ (.tail _ (.tail _ (List.mem_append.mpr (.inl hp)))))))
    rcases List.mem_cons.mp hp with rfl | hp
    · exact N' _ mI
    rcases List.mem_cons.mp hp with rfl | hp
    · exact N' _ mD
    rcases List.mem_cons.mp hp with rfl | hp
    · exact N' _ (.tail _ (.head _))
    rcases List.mem_cons.mp hp with rfl | hp
    · exact N' _ (.tail _ (.tail _ (.tail _ (.head _))))
    exact N' p (.tail _ (.tail _ (.tail _ (.tail _ (.tail _ (List.mem_append.mpr (.inr hp)))))))
  have m1 : TabIn 36 (Str.ofString "_int2digits.<locals>.inner") p1 (front ++ ex) := t1.mono fun p hp => List.mem_append.mpr (.inr hp)
  have m2 : TabIn 51 (Str.ofString "_digits2int.<locals>.inner") p2 (front ++ ex) := t2.mono fun p hp => List.mem_append.mpr (.inr hp)
  rcases Int.lt_trichotomy y 0 with h | h | h
  · have e : Builtin.Int.intBits (-y) = Builtin.Int.intBits y := by
      unfold Builtin.Int.intBits
      rw [Int.natAbs_neg, if_neg (by simp; omega), if_neg (by simp; omega)]
    exact c_dm_b w p loose mean mg mb dp un gd cn cs a ccd cl outer A₀ base h₀ L m s Q E (front ++ ex) hB hF hX hT hCi hCd hk (by omega) (by omega) x y tx ty h (by rw [e]; exact hyN) (by rw [e]; omega) ne1 ne2 p1 p2 m1 m2 hN' fin
  · exact absurd h hy
  · by_cases hx : 0 ≤ x
    · exact c_dm_pos w p loose mean mg mb dp un gd cn cs a ccd cl outer A₀ base h₀ L m s Q E (front ++ ex) hB hF hX hT hCi hCd hk (by omega) (by omega) x y tx ty hx h hyN (by omega) ne1 ne2 p1 p2 m1 m2 hN' fin
    · exact c_dm_neg w p loose mean mg mb dp un gd cn cs a ccd cl outer A₀ base h₀ L m s Q E (front ++ ex) hB hF hX hT hCi hCd hk (by omega) (by omega) x y tx ty (by omega) h hyN (by omega) ne1 ne2 p1 p2 m1 m2 hN' fin
end
theorem calm_num_plain : True := by w_top off; exact True.intro
section
theorem ints_reps (i : Int) (t : Tok) : ∀ n, IntsAre (List.replicate n (Value.int i t)) (List.replicate n i)
  | 0 => .nil
  | n + 1 => .cons _ _ (ints_reps i t n)
theorem reps_K {prog : Program} {w : World} {A : Around} {E : Value → Shared → Prop} {s : Shared} {h₀ : Heap} {L l : Addr} {m : Str → Option Value} {news : List (Addr × Obj)} {k kn : Nat} {i x : Int} {t0 u : Tok} {Q : Value → Shared → Prop}
    (F : Fr h₀ L s.heap m) (N : News h₀ L s.heap news) (hl : (l, listOf #[.int i t0] kn) ∈ news) (hx : x = (k : Int)) (hk : k ≤ 1000)
    (h : ∀ l' h', Fr h₀ L h' m → News h₀ L h' ((l', listOf (List.replicate k (Value.int i t0)).toArray 0) :: news) → (∀ p ∈ news, p.1 < l') → Q (.ref l') { s with heap := h' }) :
    wpAny (model prog w) A (binaryOp .Mult (.ref l) (.int x u)) Q E s := by
  subst hx
  refine PyProof.Rows.mul_list F N (N.get hl) (by omega) (by omega) (by simp; omega) (fun h' F' N' => h _ h' F' ?_ (fun p hp => Heap.lt_size (N p hp).1))
  have e := foldl_ones (.int i t0) k #[]
  simp only [Int.toNat_natCast, Array.isEmpty, List.size_toArray, List.length_cons, List.length_nil] at N'
  simp only [Array.empty_append] at e
  rw [show (decide (0 + 1 = 0)) = false from rfl] at N'
  simp only [Bool.false_eq_true, if_false] at N'
  rw [e] at N'
  exact N'
theorem news_plain {g h : Heap} {L D : Addr} {m : Str → Option Value} {news : List (Addr × Obj)} {items : Array Value} (N : News g L h news) (F : Fr g L h m) (hp : NewPlain h news D items) (e : g.get? D = none) : ∃ c, News g L h ((D, listOf items c) :: news) := by
  obtain ⟨⟨c, ec⟩, off⟩ := id hp
  refine ⟨c, fun p hp' => ?_⟩
  rcases List.mem_cons.mp hp' with rfl | hp'
  · exact ⟨ec, hp.ne_locals F, e⟩
  · exact N p hp'
theorem one_beq (c d : Nat) : (((⟨#[c]⟩ : Str) == (⟨#[d]⟩ : Str)) = true) ↔ c = d := by
  rw [beq_iff_eq]
  constructor
  · intro h
    have := congrArg (fun x : Str => x.cps.toList) h
    simpa using this
  · rintro rfl; rfl
theorem signs_codes (t : Str) : signs t = t.cps.toList.map fun c => (⟨#[c]⟩ : Str) := rfl
def isP (c : Nat) : Int := if c = 112 then 1 else 0
theorem carried_p {ys : List Value} {t : Str} (h : CarriedAll ys (List.map (fun a => if (a == Str.ofString "p") = true then PyData.int 1 else PyData.int 0) (List.filter (fun _ => true) (signs t)))) : IntsAre ys (t.cps.toList.map isP) := by
  refine IntsAre.ofCarried ?_
  rw [show List.filter (fun _ => true) (signs t) = signs t from List.filter_eq_self.mpr fun _ _ => rfl, signs_codes, List.map_map] at h
  rw [List.map_map]
  refine (congrArg (CarriedAll ys) (List.map_congr_left fun c _ => ?_)).mp h
  show (if ((⟨#[c]⟩ : Str) == Str.ofString "p") = true then PyData.int 1 else PyData.int 0) = PyData.int (isP c)
  rw [show Str.ofString "p" = (⟨#[112]⟩ : Str) from by decide +kernel]
  unfold isP
  by_cases hc : c = 112
  · rw [if_pos ((one_beq _ _).mpr hc), if_pos hc]
  · rw [if_neg (fun q => hc ((one_beq _ _).mp q)), if_neg hc]
def numOf8 (cs : List Nat) : Int := 2 * dsum 8 (cs.map isP) - dsum 8 (List.replicate cs.length 1)
theorem isP_small {cs : List Nat} : ∀ d ∈ cs.map isP, 0 ≤ d ∧ d < 2 ^ Int.toNat 8 := fun d hd => by
  obtain ⟨c, _, rfl⟩ := List.mem_map.mp hd
  unfold isP
  split <;> decide
theorem off_ty {x : Addr × Obj} {n : String} {front : List (Addr × Obj)} (h1 : x.2.cls = .type n) (h2 : ∀ p ∈ front, p.2.cls ≠ .none) : ∀ p ∈ x :: front, p.2.cls ≠ .none := fun p hp => by
  rcases List.mem_cons.mp hp with rfl | hp
  · rw [h1]; exact fun e => nomatch e
  · exact h2 p hp
theorem off_rf {x : Addr × Obj} {a : Addr} {front : List (Addr × Obj)} (h1 : x.2.cls = .ref a) (h2 : ∀ p ∈ front, p.2.cls ≠ .none) : ∀ p ∈ x :: front, p.2.cls ≠ .none := fun p hp => by
  rcases List.mem_cons.mp hp with rfl | hp
  · rw [h1]; exact fun e => nomatch e
  · exact h2 p hp
theorem reps_small {n : Nat} : ∀ d ∈ List.replicate n (1 : Int), 0 ≤ d ∧ d < 2 ^ Int.toNat 8 := fun d hd => by rw [List.eq_of_mem_replicate hd]; decide
end
theorem calm_re_plain : True := by w_top off; exact True.intro
section
abbrev nameCode : Array Nat := #[14, 10, 4, 1, 1, 22, 0, 31, 16, 127, 0, 13, 7, 22, 0, 31, 16, 127, 0, 1]
abbrev valueCode : Array Nat := #[14, 14, 4, 1, 1, 9, 4294966783, 0, 0, 2147483648, 0, 0, 0, 0, 0, 13, 11, 9, 4294966783, 0, 0, 2147483648, 0, 0, 0, 0, 0, 1]
def Safe (t : Str) : Prop := ∀ c ∈ t.cps.toList, 31 < c ∧ c ≠ 127
def OutOf (code : Array Nat) (c : Nat) : Prop := ∀ seen, ∃ seen', Sre.inSet code c code.size 5 true seen = .ok (false, seen')
theorem out_name {c : Nat} (h1 : 31 < c) (h2 : c ≠ 127) : OutOf nameCode c := fun seen => by
  refine ⟨((seen.add 22).add 16).add 0, ?_⟩
  have e1 : Sre.inSet nameCode c 20 5 true seen = if (0 ≤ c && c ≤ 31) = true then .ok (true, seen.add 22) else Sre.inSet nameCode c 19 8 true (seen.add 22) := rfl
  have e2 : Sre.inSet nameCode c 19 8 true (seen.add 22) = if (c == 127) = true then .ok (true, (seen.add 22).add 16) else Sre.inSet nameCode c 18 10 true ((seen.add 22).add 16) := rfl
  have e3 : Sre.inSet nameCode c 18 10 true ((seen.add 22).add 16) = .ok (false, ((seen.add 22).add 16).add 0) := rfl
  show Sre.inSet nameCode c 20 5 true seen = _
  rw [e1, if_neg (by simp; omega), e2, if_neg (by simp; omega), e3]
theorem bits_value (c : Nat) (h : c < 256) (h1 : 31 < c) (h2 : c ≠ 127) : (valueCode.getD (5 + (1 + c / 32)) 0).testBit (c % 32) = false := by
  have : ∀ c < 256, 31 < c → c ≠ 127 → (valueCode.getD (5 + (1 + c / 32)) 0).testBit (c % 32) = false := by decide +kernel
  exact this c h h1 h2
theorem out_value {c : Nat} (h1 : 31 < c) (h2 : c ≠ 127) : OutOf valueCode c := fun seen => by
  refine ⟨(seen.add 9).add 0, ?_⟩
  have e1 : Sre.inSet valueCode c 28 5 true seen = if (c < 256 && (valueCode.getD (5 + (1 + c / 32)) 0).testBit (c % 32)) = true then .ok (true, seen.add 9) else Sre.inSet valueCode c 27 14 true (seen.add 9) := rfl
  have e3 : Sre.inSet valueCode c 27 14 true (seen.add 9) = .ok (false, (seen.add 9).add 0) := rfl
  show Sre.inSet valueCode c 28 5 true seen = _
  rw [e1, if_neg ?_, e3]
  intro q
  rw [Bool.and_eq_true] at q
  rw [bits_value c (by simpa using q.1) h1 h2] at q
  exact Bool.false_ne_true q.2
theorem admitted_none (m : Sre.M) (h : ∀ i, i < m.lim → OutOf m.code (m.text.getD i 0)) : ∀ fuel s seen, ∃ seen', Sre.M.admitted m fuel s seen = .ok (none, seen')
  | 0, s, seen => ⟨seen, rfl⟩
  | fuel + 1, s, seen => by
    by_cases hs : s ≥ m.lim
    · exact ⟨seen, by rw [Sre.M.admitted, if_pos hs]⟩
    · obtain ⟨seen', e⟩ := h s (by omega) seen
      obtain ⟨seen'', e'⟩ := admitted_none m h fuel (s + 1) seen'
      exact ⟨seen'', by rw [Sre.M.admitted, if_neg hs, e]; exact e'⟩
def Said (m : Sre.M) : Prop := m.answer = some false ∧ m.frames = [] ∧ m.outcome = none
theorem said_run {m : Sre.M} (h : Said m) : (m.runFor 4).outcome = some .failed := by
  obtain ⟨h1, h2, h3⟩ := h
  have e : m.step = { m with outcome := some .failed } := by
    unfold Sre.M.step
    rw [h1, h2, h3]
    rfl
  show (if m.outcome.isSome then m else Sre.M.runFor 3 m.step).outcome = _
  rw [h3, e]
  rfl
theorem attempt_said (m : Sre.M) (s : Nat) (first : Bool) (hf : m.hasFirstSet = true) (h : ∀ i, i < m.lim → OutOf m.code (m.text.getD i 0)) (h2 : m.frames = []) (h3 : m.outcome = none) :
    Said (m.attemptFrom s first) := by
  obtain ⟨seen', e⟩ := admitted_none m h (m.lim + 1 - s) s m.seen
  unfold Sre.M.attemptFrom
  rw [hf, e]
  exact ⟨rfl, h2, h3⟩
theorem search_said (code text : Array Nat) (groups pos lim : Nat) (hop : Sre.ops[code.getD 0 0]? = some .INFO) (h4 : code.getD 2 0 = 4) (h : ∀ i, i < lim → OutOf code (text.getD i 0)) :
    Said (Sre.forSearch code text groups pos lim false) := by
  unfold Sre.forSearch
  extract_lets m least hinted
  split
  · exact ⟨rfl, rfl, rfl⟩
  · refine attempt_said _ _ _ ?_ h rfl rfl
    show ((match Sre.ops[code.getD 0 0]? with | some .INFO => true | _ => false) && code.getD 2 0 == 4) = true
    rw [hop, h4]
    rfl
theorem drive_said {M : Model} {A : Around} {E : Value → Shared → Prop} {s : Shared} (m : Sre.M) (h : Said m) (n : Nat) {Q : Sre.M → Shared → Prop} (hq : ∀ m', m'.outcome = some .failed → Q m' s) :
    wpAny M A (Builtin.Re.reDrive (n + 1) m) Q E s := by
  unfold Builtin.Re.reDrive
  have e : (m.runFor Builtin.Re.reTurnSteps).outcome = some .failed := said_run h
  simp only [e, Option.isSome_some, if_true]
  exact wpAny_pure (hq _ e)
theorem runToEnd_said {M : Model} {A : Around} {E : Value → Shared → Prop} {s : Shared} (m : Sre.M) (h : Said m) {Q : Option Sre.M → Shared → Prop} (hq : Q none s) :
    wpAny M A (Builtin.Re.reRunToEnd m) Q E s := by
  unfold Builtin.Re.reRunToEnd
  refine wpAny_bind ?_
  refine drive_said m h (2 ^ 64 - 1) fun m' e => ?_
  refine wpAny_bind ?_
  refine wpAny_forIn_list _ (fun _ _ s' => s' = s) _ ?_ ?_ _ _ rfl
  · rintro x rest b _ rfl
    split
    · exact wpAny_bind (wpAny_rule (wpAny_pure rfl))
    · exact wpAny_pure rfl
  · rintro b _ rfl
    rw [e]
    exact wpAny_pure hq
theorem named_one (v : Value) : Builtin.Re.reNamed "re.Pattern.search" "search" ["string", "pos", "endpos"] 1 [v] [] = pure [some v, none, none] := rfl
theorem re_search_none (l c : Addr) (t : Str) (tk : Tok) (o oc : Obj) (fs : Array Value) (cs : Array Value) (n : Nat) (code : Array Nat) (hd : o.data = .fields fs) (hc : fs.getD 5 .none = .ref c) (hk : Builtin.Re.reRawNat (fs.getD 6 .none) = 0)
    (hdc : oc.data = .seq cs n) (hcs : (cs.map Builtin.Re.reRawOf).map (·.toNat) = code) (hop : Sre.ops[code.getD 0 0]? = some .INFO) (h4 : code.getD 2 0 = 4) (h : ∀ i, i < t.cps.size → OutOf code (t.cps.getD i 0)) :
    Meets (Builtin.«re.Pattern.search» ⟨[.ref l, .str t tk], []⟩) (fun _ R s => s.heap.get? l = some o ∧ s.heap.get? c = some oc ∧ R (.ok (.ret .none)) s) :=
  .of_wp fun prog w A R s hs => by
    obtain ⟨hl, hlc, hR⟩ := hs
    unfold Builtin.«re.Pattern.search»
    refine wpAny_bind ?_
    unfold Builtin.Re.reTarget
    simp only [named_one, pure_bind]
    refine wpAny_bind ?_
    unfold fieldsOf
    refine wpAny_bind (wpAny_load hl ?_)
    rw [hd]
    refine wpAny_pure ?_
    have e1 : Builtin.Re.reTextOf (Value.str t tk) = pure (t.cps, 0) := rfl
    have e2 : Builtin.Re.reNoCollectionInside (Value.str t tk) 0 = pure () := rfl
    have c1 : ((Builtin.Re.reRawNat (fs.getD 6 Value.none) == 0 && (0 : Nat) == 1) = true) = False := by simp
    have c2 : ((Builtin.Re.reRawNat (fs.getD 6 Value.none) == 1 && (0 : Nat) == 0) = true) = False := by rw [hk]; simp
    simp only [e1, e2, pure_bind, c1, c2, if_false]
    refine wpAny_bind ?_
    rw [hc]
    unfold Builtin.Re.reRawItems
    refine wpAny_bind ?_
    show wpAny _ _ (do match (← load c).data with | .seq xs _ => pure (some xs) | _ => pure none) _ _ _
    refine wpAny_bind (wpAny_load hlc ?_)
    rw [hdc]
    refine wpAny_pure (wpAny_pure (wpAny_pure ?_))
    show wpAny _ _ (Builtin.Re.reAnswer _ (Sre.forSearch (((cs.map Builtin.Re.reRawOf).map (·.toNat))) t.cps _ _ (min (2 ^ 63 - 1 : Int).toNat t.cps.size) false)) _ _ _
    rw [hcs]
    have hS := search_said code t.cps (Builtin.Re.reRawNat (fs.getD 2 Value.none)) (min (Int.toNat 0) t.cps.size) (min (2 ^ 63 - 1 : Int).toNat t.cps.size) hop h4 (fun i hi => h i (Nat.lt_of_lt_of_le hi (Nat.min_le_right _ _)))
    unfold Builtin.Re.reAnswer
    refine wpAny_bind (runToEnd_said _ hS ?_)
    exact wpAny_pure ⟨_, rfl, hR⟩
theorem safe_at {t : Str} (h : Safe t) (i : Nat) (hi : i < t.cps.size) : 31 < t.cps.getD i 0 ∧ t.cps.getD i 0 ≠ 127 := by
  have e : t.cps.getD i 0 = t.cps[i] := by simp [hi]
  rw [e]
  exact h _ (Array.getElem_mem_toList hi)
theorem slot_search : Slot "re.Pattern" "search" "re.Pattern.search" :=
  .of (owner := "re.Pattern") (n := "search") (by rw [typeLookup_type, builtinLookup_eq_fast]; kernel_rfl) (by decide +kernel) (by decide +kernel) (by decide +kernel)
    (by first | exact .inl (by decide +kernel) | exact .inr (by decide +kernel)) (by rw [isSubtype_type]; kernel_rfl)
theorem entry_search : entryFor table "re.Pattern.search" = some Builtin.«re.Pattern.search» := entryFor_of_tree (by kernel_rfl)
theorem type_search : typeOf (.builtin "re.Pattern.search") = pure (.type "method_descriptor") := by show builtinType _ = _; rw [builtinType_eq_fast]; kernel_rfl
theorem plainAttrs_pattern : PlainAttrs "re.Pattern" :=
  ⟨⟨"object.__getattribute__", by rw [typeLookup_type, builtinLookup_eq_fast]; kernel_rfl, by decide +kernel⟩, by rw [typeLookup_type, builtinLookup_eq_fast]; kernel_rfl⟩
theorem owner_pattern : Manifest.owners.lookup (String.ofList ['n', 'r', 'e', 't', 't', 'a', 'P', '.', 'e', 'r'].reverse) = some Manifest.sig_re_Pattern := by kernel_rfl
theorem args_search (a b : Value) : argsOk "re.Pattern.search" ⟨[a, b], []⟩ := by
  unfold argsOk; rw [signature?_of (id := "re.Pattern.search") (n := ['h', 'c', 'r', 'a', 'e', 's']) (o := ['n', 'r', 'e', 't', 't', 'a', 'P', '.', 'e', 'r']) (by kernel_rfl) owner_pattern]; kernel_rfl
end
theorem calm_re_k : True := by w_top off; exact True.intro
section
theorem pat_of {K : Frag} {a c : Addr} {o : Obj} {fs : Array Value} (h : K.lookup a = some o) (h2 : o.data = .fields fs) (h3 : fs.getD 5 .none = .ref c) (h4 : Builtin.Re.reRawNat (fs.getD 6 .none) = 0) (h5 : o.cls = .type "re.Pattern") (h6 : o.dict = none) :
  ∃ o fs, K.lookup a = some o ∧ o.data = .fields fs ∧ fs.getD 5 .none = .ref c ∧ Builtin.Re.reRawNat (fs.getD 6 .none) = 0 ∧ o.cls = .type "re.Pattern" ∧ o.dict = none := ⟨o, fs, h, h2, h3, h4, h5, h6⟩
theorem cod_of {K : Frag} {c : Addr} {o : Obj} {cs : Array Value} {n : Nat} {code : Array Nat} (h : K.lookup c = some o) (h2 : o.data = .seq cs n) (h3 : (cs.map Builtin.Re.reRawOf).map (·.toNat) = code) :
  ∃ o cs n, K.lookup c = some o ∧ o.data = .seq cs n ∧ (cs.map Builtin.Re.reRawOf).map (·.toNat) = code := ⟨o, cs, n, h, h2, h3⟩
theorem pat_name (P : Params) : ∃ o fs, (hd02.heap_39 P).lookup 92 = some o ∧ o.data = .fields fs ∧ fs.getD 5 .none = .ref 91 ∧ Builtin.Re.reRawNat (fs.getD 6 .none) = 0 ∧ o.cls = .type "re.Pattern" ∧ o.dict = none := by
  refine' pat_of ?h ?h2 ?h3 ?h4 ?h5 ?h6
  (case h => k_is)
  (case h2 => exact rfl)
  (case h3 => exact rfl)
  (case h4 => exact rfl)
  (case h5 => exact rfl)
  (case h6 => exact rfl)
theorem pat_value (P : Params) : ∃ o fs, (hd02.heap_39 P).lookup 97 = some o ∧ o.data = .fields fs ∧ fs.getD 5 .none = .ref 96 ∧ Builtin.Re.reRawNat (fs.getD 6 .none) = 0 ∧ o.cls = .type "re.Pattern" ∧ o.dict = none := by
  refine' pat_of ?h ?h2 ?h3 ?h4 ?h5 ?h6
  (case h => k_is)
  (case h2 => exact rfl)
  (case h3 => exact rfl)
  (case h4 => exact rfl)
  (case h5 => exact rfl)
  (case h6 => exact rfl)
theorem cod_name (P : Params) : ∃ o cs n, (hd02.heap_39 P).lookup 91 = some o ∧ o.data = .seq cs n ∧ (cs.map Builtin.Re.reRawOf).map (·.toNat) = nameCode := by
  refine' cod_of ?h ?h2 ?h3
  (case h => k_is)
  (case h2 => exact rfl)
  (case h3 => simp [Builtin.Re.reRawOf])
theorem cod_value (P : Params) : ∃ o cs n, (hd02.heap_39 P).lookup 96 = some o ∧ o.data = .seq cs n ∧ (cs.map Builtin.Re.reRawOf).map (·.toNat) = valueCode := by
  refine' cod_of ?h ?h2 ?h3
  (case h => k_is)
  (case h2 => exact rfl)
  (case h3 => simp [Builtin.Re.reRawOf])
section
variable {prog : Program} {w : World} {A : Around} {E : Value → Shared → Prop} {s : Shared} {h₀ : Heap} {L : Addr} {m : Str → Option Value} {P : Params}
theorem search_method {name : Str} {a : Addr} {pl : Sem Bool} {Q : Value × List Value → Shared → Prop} (F : Fr h₀ L s.heap m) (X : (hd02.heap_39 P).In h₀) (hn : name = Str.ofString "search")
    (ha : ∃ o fs, (hd02.heap_39 P).lookup a = some o ∧ o.data = .fields fs ∧ o.cls = .type "re.Pattern" ∧ o.dict = none) (h : Q (.builtin "re.Pattern.search", [.ref a]) s) : wpAny (model prog w) A (getMethod (.ref a) name pl) Q E s := by
  subst hn
  obtain ⟨o, fs, hl, _, hc, hd⟩ := ha
  have z := F.keep _ _ (X _ _ hl)
  exact getMethod_builtin ⟨_, z, hc⟩ plainAttrs_pattern slot_search type_search (fun b e => by cases e; exact ⟨_, z, hd⟩) h
theorem search_run {a c : Addr} {code : Array Nat} {t : Str} {tk : Tok} {Q : Value → Shared → Prop} (F : Fr h₀ L s.heap m) (X : (hd02.heap_39 P).In h₀)
    (ha : ∃ o fs, (hd02.heap_39 P).lookup a = some o ∧ o.data = .fields fs ∧ fs.getD 5 .none = .ref c ∧ Builtin.Re.reRawNat (fs.getD 6 .none) = 0 ∧ o.cls = .type "re.Pattern" ∧ o.dict = none)
    (hc : ∃ o cs n, (hd02.heap_39 P).lookup c = some o ∧ o.data = .seq cs n ∧ (cs.map Builtin.Re.reRawOf).map (·.toNat) = code)
    (hop : Sre.ops[code.getD 0 0]? = some .INFO) (h4 : code.getD 2 0 = 4) (hs : ∀ i, i < t.cps.size → OutOf code (t.cps.getD i 0)) (h : Q .none s) : wpAny (model prog w) A (call (.builtin "re.Pattern.search") [.ref a, .str t tk]) Q E s := by
  obtain ⟨o, fs, hl, hd, h5, h6, hcl, hdi⟩ := ha
  obtain ⟨oc, cs, n, hlc, hdc, hcs⟩ := hc
  have z := F.keep _ _ (X _ _ hl)
  have zc := F.keep _ _ (X _ _ hlc)
  exact call_meets slot_search ⟨_, z, hcl⟩ entry_search (args_search _ _) (re_search_none a c t tk o oc fs cs n code hd h5 h6 hdc hcs hop h4 hs) ⟨z, zc, h⟩
theorem method_name {name : Str} {pl : Sem Bool} {Q : Value × List Value → Shared → Prop} (F : Fr h₀ L s.heap m) (X : (hd02.heap_39 P).In h₀) (hn : name = Str.ofString "search")
    (h : Q (.builtin "re.Pattern.search", [.ref 92]) s) : wpAny (model prog w) A (getMethod (.ref 92) name pl) Q E s :=
  search_method F X hn (let ⟨o, fs, a, b, _, _, c, d⟩ := pat_name P; ⟨o, fs, a, b, c, d⟩) h
theorem method_value {name : Str} {pl : Sem Bool} {Q : Value × List Value → Shared → Prop} (F : Fr h₀ L s.heap m) (X : (hd02.heap_39 P).In h₀) (hn : name = Str.ofString "search")
    (h : Q (.builtin "re.Pattern.search", [.ref 97]) s) : wpAny (model prog w) A (getMethod (.ref 97) name pl) Q E s :=
  search_method F X hn (let ⟨o, fs, a, b, _, _, c, d⟩ := pat_value P; ⟨o, fs, a, b, c, d⟩) h
theorem run_name {t : Str} {tk : Tok} {Q : Value → Shared → Prop} (F : Fr h₀ L s.heap m) (X : (hd02.heap_39 P).In h₀) (hs : Safe t) (h : Q .none s) : wpAny (model prog w) A (call (.builtin "re.Pattern.search") [.ref 92, .str t tk]) Q E s :=
  search_run F X (pat_name P) (cod_name P) rfl rfl (fun i hi => let z := safe_at hs i hi; out_name z.1 z.2) h
theorem run_value {t : Str} {tk : Tok} {Q : Value → Shared → Prop} (F : Fr h₀ L s.heap m) (X : (hd02.heap_39 P).In h₀) (hs : Safe t) (h : Q .none s) : wpAny (model prog w) A (call (.builtin "re.Pattern.search") [.ref 97, .str t tk]) Q E s :=
  search_run F X (pat_value P) (cod_value P) rfl rfl (fun i hi => let z := safe_at hs i hi; out_value z.1 z.2) h
end



theorem unrEnd_one {h₀ : Heap} {L I : Addr} {o : Obj} {rest : (Str → Option Value) → List (Addr × Obj) → Prop} {s₁ : Shared} {h' : Heap} {tk : Nat} {m' : Str → Option Value} {news' : List (Addr × Obj)} (F : Fr h₀ L h' m') (N : News h₀ L h' ((I, o) :: news')) (off : ∀ p ∈ news', p.1 ≠ I) (r : rest m' news') :
    UnrEndW h₀ L s₁ [(I, o)] rest { s₁ with heap := h', toks := tk } := ⟨h', tk, m', news', rfl, F, N, fun p hp q hq => by rw [List.mem_singleton.mp hq]; exact off p hp, r⟩
theorem allLt_off {d : Nat} : ∀ {r : List (Addr × Obj)}, AllLt d r → ∀ p ∈ r, p.1 ≠ d
  | [], _ => fun _ h => nomatch h
  | q :: r, h => fun p hp => by
    rcases List.mem_cons.mp hp with rfl | hp
    · exact Nat.ne_of_lt h.1
    · exact allLt_off h.2 p hp
theorem off_nil {I : Addr} : ∀ p ∈ ([] : List (Addr × Obj)), p.1 ≠ I := fun _ h => (List.not_mem_nil h).elim
abbrev hdDict (w : World) (D : Addr) (tt : Tok) : Obj := dictOf [{ hash := PyData.keyHash w.params (Str.ofString "_headers"), key := .str (Str.ofString "_headers") tt, val := .ref D }] 1
abbrev pairObj (k : Str) (u : Tok) (a : Str) (v : Tok) (n : Nat) : Obj := { cls := .type "tuple", data := .seq #[.str k u, .str a v] n }

theorem allLt_le {d b : Nat} {r : List (Addr × Obj)} (h : AllLt d r) (hb : d ≤ b) : ∀ p ∈ r, p.1 ≠ b := fun p hp => by
  induction r with
  | nil => exact (List.not_mem_nil hp).elim
  | cons q r ih =>
    rcases List.mem_cons.mp hp with rfl | hp
    · exact Nat.ne_of_lt (Nat.lt_of_lt_of_le h.1 hb)
    · exact ih h.2 hp
end
local macro_rules | `(tactic| walk_at "rest_off") => `(tactic| first | exact allLt_le (by assumption) (by omega) | ((rename AllLt _ _ => hz9); clear hz9; walk_at "rest_off") | ((rename (_ ∧ _) => hz9); (obtain ⟨_, hz8⟩ := hz9); walk_at "rest_off"))
local macro_rules | `(tactic| walk_at "getMethod ref") => `(tactic| ((k_here; (with_reducible show wpAny _ _ (getMethod (Value.ref _) (PySem.Str.ofString "search") _) _ _ _); k_dflt (first | (refine' method_name ?F ?X rfl ?_; (case F => k_asm); (case X => k_asm)) | (refine' method_value ?F ?X rfl ?_; (case F => k_asm); (case X => k_asm))))))
local macro_rules | `(tactic| walk_at "call builtin:re.Pattern.search") => `(tactic| ((k_here; k_dflt (first | (refine' run_name ?F ?X ?S ?_; (case F => k_asm); (case X => k_asm); (case S => (first | assumption | (unfold Safe; decide +kernel)))) | (refine' run_value ?F ?X ?S ?_; (case F => k_asm); (case X => k_asm); (case S => (first | assumption | (unfold Safe; decide +kernel))))))))
local macro_rules | `(tactic| walk_at "off_all") => `(tactic| first | exact allLt_off (by assumption) | exact off_nil | (refine List.forall_mem_cons.mpr ⟨?hd, ?tl⟩; (case hd => (first | exact Nat.ne_of_lt (by omega) | exact Nat.ne_of_gt (by omega))); (case tl => walk_at "off_all")))
local macro_rules | `(tactic| walk_at "UnrEndW") => `(tactic| (refine' unrEnd_one ?F ?N ?O ⟨?S, ?_⟩; (case F => k_asm); (case N => k_asm); (case O => walk_at "off_all"); (case S => k_subL)))
local macro_rules | `(tactic| k_all) => `(tactic| first | assumption | walk_at "rest_off")
local macro_rules | `(tactic| walk_at "off_all") => `(tactic| walk_at "rest_off")
theorem calm_num : True := by w_top off; exact True.intro
section
section
local macro_rules | `(tactic| k_room) => `(tactic| ktr_room)
local macro_rules | `(tactic| is_list) => `(tactic| exact News.isList (by k_asm) (by k_mem))
local macro_rules | `(tactic| walk_at "call ref") => `(tactic| (refine Stop.mk ?_))
local macro_rules | `(tactic| walk_at "binaryOp Mult ref int") => `(tactic| (refine reps_K (k := 8) (by k_asm) (by k_asm) (by k_mem) (by assumption) (by omega) ?_; intro l' h' F' N' l1; (try k_lt l1)))
local macro_rules | `(tactic| walk_at "binaryOp Mult int int") => `(tactic| (refine PyProof.Rows.mul_int ?_ (PySem.IntMulOk.of_left (PySem.intBits_le_64 (by omega) (by omega)))))
theorem c_num (w : World) (p : Program) (loose : List Str) (mean : ExcName → Option Value) (mg mb : Str → Option Value)
  (dp un : Nat) (gd : Option (List Code)) (cn : Str) (cs : Scope) (a : Addr) (ccd : Value) (cl : List (Str × Addr)) (outer : List Env) (A₀ : Around) (base h₀ : Heap) (L : Addr) (m : Str → Option Value) (s : Shared) (Q E : Value → Shared → Prop)
  (hB : Below A₀ base outer h₀) (hF : Fr h₀ L s.heap m) (hX : (hd02.heap_39 w.params).In h₀) (hT : Top p loose mean mg mb h₀) (hCi : CodeHd base 58 54) (hCd : CodeHd base 65 61) (hk : cs.kind = .function)
  (hd : dp + 220 < recursionLimit) (hu : un + 2200 < cLine) (front : List (Addr × Obj)) (hoff : ∀ p ∈ front, p.2.cls ≠ .none) (hTb : Tabs h₀ L s.heap front)
  (t : Str) (tt : Tok) (hl : t.length = 8)
  (hret : ∀ (u : Tok) (h' : Heap) (tk' : Nat), Fr h₀ L h' m → Tabs h₀ L h' front → Q (.int (numOf8 t.cps.toList) u) { s with heap := h', toks := tk' }) :
  wpAny (model PySem.Challenge.rw_pg0294_02.row.prog w) (ktrTop dp un gd cn cs L a ccd cl outer) (call (.ref 241) [.str t tt]) Q E s := by
  obtain ⟨p1, p2, ex, t1, t2, oe, hN⟩ := hTb
  have hl' : ((t.length : Nat) : Int) = ((8 : Nat) : Int) := congrArg _ hl
  have hl2 : (t.cps.toList.map isP).length = 8 := by rw [List.length_map, Array.length_toList]; exact hl
  generalize hr : front ++ (54, tabObj p1) :: (61, tabObj p2) :: ex = rest at hN
  refine wpAny_call ?_
  k_dflt ((refine' code_def ?k1 ?k2 ?k3 ?k4 ?k5 ?kA ?kF ?kK ?k6 ?k7 ?k8 ?k9 ?kB ?_ ?c2 ?c3 ?c4 ?c5; (case kA => exact rfl); (case kF => exact rfl); (case kK => first | exact rfl | assumption); (case k1 => k_asm); (case k2 => k_asm); (case k3 => k_asm); (case k4 => k_asm); (case k5 => k_asm); (case k6 => k_is); (case k7 => k_is); (case k8 => ktr_room); (case k9 => first | exact BindsTo.of_eq rfl | exact binds_K (by k_in) rfl (by k_is) rfl rfl rfl); (case c5 => decide); (case kB => exact locs rfl); (case c2 => exact rfl); (case c3 => exact rfl); (case c4 => exact rfl); k_whole; intro g' L' h' FG' F' N' B' X' T'; (try dsimp only); (try k_lift B'); (try k_fold)))
  k_steps
  rename NewPlain _ _ _ _ => hNP
  rename CarriedAll _ _ => hCA
  have hI := carried_p hCA
  rename News _ _ _ _ => kN
  rename Fr _ _ _ _ => kF
  obtain ⟨cD, kN2⟩ := news_plain kN kF hNP (by assumption)
  subst hr
  refine' Stop.out (T_d2i w p loose mean mg mb _ _ _ _ _ _ _ _ _ _ _ _ _ _ _ _ _ ?B ?F ?X ?T hCi hCd ?K ?D ?U (_ :: front) ?off ⟨p1, p2, ex, t1, t2, oe, kN2⟩ 8 _ _ hI ⟨by decide, by decide⟩ ?hb ?hl _ _ _ (.head _) ?ret)
  (case B => k_asm)
  (case F => k_asm)
  (case X => k_asm)
  (case T => k_asm)
  (case K => exact rfl)
  (case D => ktr_room)
  (case U => ktr_units)
  (case off => exact off_ty rfl hoff)
  (case hb => exact isP_small)
  (case hl => omega)
  clear kN kN2 kF hN hNP
  intro u9 h9 tk9 F9 T9
  clear t1 t2 oe
  obtain ⟨p1, p2, ex, t1, t2, oe, hN⟩ := T9
  rw [List.cons_append] at hN
  generalize hr : front ++ (54, tabObj p1) :: (61, tabObj p2) :: ex = rest at hN
  (try dsimp only)
  k_steps
  rename News _ _ _ _ => kN
  subst hr
  refine' Stop.out (T_d2i w p loose mean mg mb _ _ _ _ _ _ _ _ _ _ _ _ _ _ _ _ _ ?Bb ?Fb ?Xb ?Tb hCi hCd ?Kb ?Db ?Ub (_ :: _ :: _ :: front) ?offb ⟨p1, p2, ex, t1, t2, oe, kN⟩ 8 _ _ (ints_reps 1 _ 8) ⟨by decide, by decide⟩ ?hbb ?hlb _ _ _ (.head _) ?retb)
  (case Bb => k_asm)
  (case Fb => k_asm)
  (case Xb => k_asm)
  (case Tb => k_asm)
  (case Kb => exact rfl)
  (case Db => ktr_room)
  (case Ub => ktr_units)
  (case offb => exact off_ty rfl (off_ty rfl (off_ty rfl hoff)))
  (case hbb => intro d hd; rw [List.eq_of_mem_replicate hd]; decide)
  (case hlb => decide)
  clear kN
  intro u9 h9 tk9 F9 T9
  clear t1 t2 oe
  obtain ⟨p1, p2, ex, t1, t2, oe, hN⟩ := T9
  simp only [List.cons_append] at hN
  generalize hr : front ++ (54, tabObj p1) :: (61, tabObj p2) :: ex = rest at hN
  (try dsimp only)
  k_steps
  rename News h₀ L _ _ => Nz
  subst hr
  have e8 : t.cps.toList.length = 8 := by rw [Array.length_toList]; exact hl
  have e9 : 2 * dsum (Int.toNat 8) (t.cps.toList.map isP) - dsum (Int.toNat 8) (List.replicate 8 1) = numOf8 t.cps.toList := by unfold numOf8; rw [e8]; rfl
  rw [e9]
  exact hret _ _ _ (by k_asm) ⟨p1, p2, ex, t1, t2, oe, fun p hp => Nz p (.tail _ (.tail _ (.tail _ hp)))⟩
end
end
local macro_rules | `(tactic| walk_at "idle") => `(tactic| fail)
local macro_rules | `(tactic| walk_at "idle") => `(tactic| fail)
local macro_rules | `(tactic| walk_at "idle") => `(tactic| fail)
local macro_rules | `(tactic| walk_at "idle") => `(tactic| fail)
local macro_rules | `(tactic| walk_at "idle") => `(tactic| fail)
local macro_rules | `(tactic| walk_at "idle") => `(tactic| fail)
theorem calm_hd_new : True := by w_top off; exact True.intro
section
section
local macro_rules | `(tactic| k_room) => `(tactic| ktr_room)
local macro_rules | `(tactic| walk_at "exec For Tuple Name cons nil") => `(tactic| (k_here; (rename Fr _ _ _ _ => lF'); (with_unfolding_all refine' For_turns lF' ?_; k_whole)))
theorem c_new (w : World) (p : Program) (loose : List Str) (mean : ExcName → Option Value) (mg mb : Str → Option Value)
  (dp un : Nat) (gd : Option (List Code)) (cn : Str) (cs : Scope) (a : Addr) (ccd : Value) (cl : List (Str × Addr)) (outer : List Env) (A₀ : Around) (base h₀ : Heap) (L : Addr) (m : Str → Option Value) (s : Shared) (Q E : Value → Shared → Prop) (rest : List (Addr × Obj))
  (hB : Below A₀ base outer h₀) (hF : Fr h₀ L s.heap m) (hX : (hd02.heap_39 w.params).In h₀) (hT : Top p loose mean mg mb h₀) (hk : cs.kind = .function)
  (hd : dp + 20 < recursionLimit) (hu : un + 100 < cLine)
  (D t1 t2 : Addr) (n n1 n2 : Nat) (k1 k2 a1 a2 : Str) (u1 u2 u3 u4 : Tok) (s1 : Safe k1) (s2 : Safe k2) (s3 : Safe a1) (s4 : Safe a2)
  (hNw : News h₀ L s.heap ((D, listOf #[.ref t1, .ref t2] n) :: (t1, pairObj k1 u1 a1 u2 n1) :: (t2, pairObj k2 u3 a2 u4 n2) :: rest))
  (hret : ∀ (r dx : Addr) (tt : Tok) (h' : Heap) (tk' : Nat), Fr h₀ L h' m → (∀ p ∈ (D, listOf #[.ref t1, .ref t2] n) :: (t1, pairObj k1 u1 a1 u2 n1) :: (t2, pairObj k2 u3 a2 u4 n2) :: rest, p.1 < dx) → dx < r →
    News h₀ L h' ((r, instObj 220 dx) :: (dx, hdDict w D tt) :: (D, listOf #[.ref t1, .ref t2] n) :: (t1, pairObj k1 u1 a1 u2 n1) :: (t2, pairObj k2 u3 a2 u4 n2) :: rest) → Q (.ref r) { s with heap := h', toks := tk' }) :
  wpAny (model PySem.Challenge.rw_pg0294_02.row.prog w) (ktrTop dp un gd cn cs L a ccd cl outer) (call (.ref 220) [.ref D]) Q E s := by
  k_here
  k_dflt (refine' call_cls ?k1 ?k2 ?k3 ?k4 ?k5 ?k6 ?_; (case k1 => k_asm); (case k2 => k_asm); (case k3 => k_asm); (case k4 => k_is); (case k5 => k_is); (case k6 => k_is))
  intro x' d' h' F' N' l1 l2
  have l0 := l1
  (try k_lt l1)
  (try k_lt2 l2)
  (try k_sweep)
  k_dflt ((refine' code_def ?k1 ?k2 ?k3 ?k4 ?k5 ?kA ?kF ?kK ?k6 ?k7 ?k8 ?k9 ?kB ?_ ?c2 ?c3 ?c4 ?c5; (case kA => exact rfl); (case kF => exact rfl); (case kK => first | exact rfl | assumption); (case k1 => k_asm); (case k2 => k_asm); (case k3 => k_asm); (case k4 => k_asm); (case k5 => k_asm); (case k6 => k_is); (case k7 => k_is); (case k8 => ktr_room); (case k9 => first | exact BindsTo.of_eq rfl | exact binds_K (by k_in) rfl (by k_is) rfl rfl rfl); (case c5 => decide); (case kB => exact locs rfl); (case c2 => exact rfl); (case c3 => exact rfl); (case c4 => exact rfl); k_whole; intro g' L' h' FG' F' N' B' X' T'; (try dsimp only); (try k_lift B'); (try k_fold)))
  k_steps
  refine' iter_listTurns (lo := listOf #[.ref t1, .ref t2] n) (vs := [.ref t1, .ref t2]) (by with_unfolding_all rfl) (by k_asm) (by k_asm) (by k_mem) rfl rfl ?_
  intro i' l3
  try k_lt l3
  have hr : AllLt i' rest := l3.2.2.2.2.2
  k_steps
  exact hret _ _ _ _ _ (by k_asm) l0 l2 (by k_asm)
end
end
local macro_rules | `(tactic| walk_at "idle") => `(tactic| fail)
local macro_rules | `(tactic| walk_at "idle") => `(tactic| fail)
local macro_rules | `(tactic| walk_at "idle") => `(tactic| fail)
theorem calm_hd_get : True := by w_top off; exact True.intro
section
section
local macro_rules | `(tactic| k_room) => `(tactic| ktr_room)
local macro_rules | `(tactic| walk_at "exec For Tuple Name cons nil") => `(tactic| (k_here; (rename Fr _ _ _ _ => lF'); (with_unfolding_all refine' For_turns lF' ?_; k_whole)))
local macro_rules | `(tactic| walk_at "exec For Tuple Attribute cons nil") => `(tactic| (k_here; (rename Fr _ _ _ _ => lF'); (with_unfolding_all refine' For_turns lF' ?_; k_whole)))
theorem lowerK {prog : Program} {w : World} {A : Around} {E : Value → Shared → Prop} {s : Shared} {x y : Str} {t : Tok} {Q : Value → Shared → Prop} (e : Txt.lower x = y) (hl : Builtin.Str.tooLong y.length = false) (h : ∀ t' k, Q (.str y t') { s with toks := k }) :
    wpAny (model prog w) A (call (.builtin "str.lower") [.str x t]) Q E s := KXw.lower e (by rw [e]; exact hl) h
local macro_rules | `(tactic| walk_at "call builtin:str.lower") => `(tactic| (k_here; (with_reducible show wpAny _ _ (call (Value.builtin "str.lower") [Value.str _ _]) _ _ _); (refine lowerK (by assumption) (by decide +kernel) ?_); intro _ _))
theorem c_get1 (w : World) (p : Program) (loose : List Str) (mean : ExcName → Option Value) (mg mb : Str → Option Value)
  (dp un : Nat) (gd : Option (List Code)) (cn : Str) (cs : Scope) (a : Addr) (ccd : Value) (cl : List (Str × Addr)) (outer : List Env) (A₀ : Around) (base h₀ : Heap) (L : Addr) (m : Str → Option Value) (s : Shared) (Q E : Value → Shared → Prop) (rest : List (Addr × Obj))
  (hB : Below A₀ base outer h₀) (hF : Fr h₀ L s.heap m) (hX : (hd02.heap_39 w.params).In h₀) (hT : Top p loose mean mg mb h₀) (hk : cs.kind = .function)
  (hd : dp + 20 < recursionLimit) (hu : un + 100 < cLine)
  (T dx D t1 t2 : Addr) (n n1 n2 : Nat) (tt : Tok) (k1 k2 a1 a2 name : Str) (u1 u2 u3 u4 tn : Tok) (e1 : Txt.lower k1 = Str.ofString "one") (e2 : Txt.lower k2 = Str.ofString "two") (en : Txt.lower name = Str.ofString "one")
  (hNw : News h₀ L s.heap ((T, instObj 220 dx) :: (dx, hdDict w D tt) :: (D, listOf #[.ref t1, .ref t2] n) :: (t1, pairObj k1 u1 a1 u2 n1) :: (t2, pairObj k2 u3 a2 u4 n2) :: rest))
  (hret : ∀ (h' : Heap) (tk' : Nat), Fr h₀ L h' m → News h₀ L h' ((T, instObj 220 dx) :: (dx, hdDict w D tt) :: (D, listOf #[.ref t1, .ref t2] n) :: (t1, pairObj k1 u1 a1 u2 n1) :: (t2, pairObj k2 u3 a2 u4 n2) :: rest) → Q (.str a1 u2) { s with heap := h', toks := tk' }) :
  wpAny (model PySem.Challenge.rw_pg0294_02.row.prog w) (ktrTop dp un gd cn cs L a ccd cl outer) (call (.ref 145) [.ref T, .str name tn]) Q E s := by
  refine wpAny_call ?_
  k_dflt ((refine' code_def ?k1 ?k2 ?k3 ?k4 ?k5 ?kA ?kF ?kK ?k6 ?k7 ?k8 ?k9 ?kB ?_ ?c2 ?c3 ?c4 ?c5; (case kA => exact rfl); (case kF => exact rfl); (case kK => first | exact rfl | assumption); (case k1 => k_asm); (case k2 => k_asm); (case k3 => k_asm); (case k4 => k_asm); (case k5 => k_asm); (case k6 => k_is); (case k7 => k_is); (case k8 => ktr_room); (case k9 => first | exact BindsTo.of_eq rfl | exact binds_K (by k_in) rfl (by k_is) rfl rfl rfl); (case c5 => decide); (case kB => exact locs rfl); (case c2 => exact rfl); (case c3 => exact rfl); (case c4 => exact rfl); k_whole; intro g' L' h' FG' F' N' B' X' T'; (try dsimp only); (try k_lift B'); (try k_fold)))
  k_steps
  refine' iter_listTurns (lo := listOf #[.ref t1, .ref t2] n) (vs := [.ref t1, .ref t2]) (by with_unfolding_all rfl) (by k_asm) (by k_asm) (by k_mem) rfl rfl ?_
  intro i' l3
  try k_lt l3
  k_steps
  exact hret _ _ (by k_asm) (fun p hp => (by k_asm : News _ _ _ _) p (.tail _ hp))
theorem c_get2 (w : World) (p : Program) (loose : List Str) (mean : ExcName → Option Value) (mg mb : Str → Option Value)
  (dp un : Nat) (gd : Option (List Code)) (cn : Str) (cs : Scope) (a : Addr) (ccd : Value) (cl : List (Str × Addr)) (outer : List Env) (A₀ : Around) (base h₀ : Heap) (L : Addr) (m : Str → Option Value) (s : Shared) (Q E : Value → Shared → Prop) (rest : List (Addr × Obj))
  (hB : Below A₀ base outer h₀) (hF : Fr h₀ L s.heap m) (hX : (hd02.heap_39 w.params).In h₀) (hT : Top p loose mean mg mb h₀) (hk : cs.kind = .function)
  (hd : dp + 20 < recursionLimit) (hu : un + 100 < cLine)
  (T dx D t1 t2 : Addr) (n n1 n2 : Nat) (tt : Tok) (k1 k2 a1 a2 name : Str) (u1 u2 u3 u4 tn : Tok) (e1 : Txt.lower k1 = Str.ofString "one") (e2 : Txt.lower k2 = Str.ofString "two") (en : Txt.lower name = Str.ofString "two")
  (hNw : News h₀ L s.heap ((T, instObj 220 dx) :: (dx, hdDict w D tt) :: (D, listOf #[.ref t1, .ref t2] n) :: (t1, pairObj k1 u1 a1 u2 n1) :: (t2, pairObj k2 u3 a2 u4 n2) :: rest))
  (hret : ∀ (h' : Heap) (tk' : Nat), Fr h₀ L h' m → News h₀ L h' ((T, instObj 220 dx) :: (dx, hdDict w D tt) :: (D, listOf #[.ref t1, .ref t2] n) :: (t1, pairObj k1 u1 a1 u2 n1) :: (t2, pairObj k2 u3 a2 u4 n2) :: rest) → Q (.str a2 u4) { s with heap := h', toks := tk' }) :
  wpAny (model PySem.Challenge.rw_pg0294_02.row.prog w) (ktrTop dp un gd cn cs L a ccd cl outer) (call (.ref 145) [.ref T, .str name tn]) Q E s := by
  refine wpAny_call ?_
  k_dflt ((refine' code_def ?k1 ?k2 ?k3 ?k4 ?k5 ?kA ?kF ?kK ?k6 ?k7 ?k8 ?k9 ?kB ?_ ?c2 ?c3 ?c4 ?c5; (case kA => exact rfl); (case kF => exact rfl); (case kK => first | exact rfl | assumption); (case k1 => k_asm); (case k2 => k_asm); (case k3 => k_asm); (case k4 => k_asm); (case k5 => k_asm); (case k6 => k_is); (case k7 => k_is); (case k8 => ktr_room); (case k9 => first | exact BindsTo.of_eq rfl | exact binds_K (by k_in) rfl (by k_is) rfl rfl rfl); (case c5 => decide); (case kB => exact locs rfl); (case c2 => exact rfl); (case c3 => exact rfl); (case c4 => exact rfl); k_whole; intro g' L' h' FG' F' N' B' X' T'; (try dsimp only); (try k_lift B'); (try k_fold)))
  k_steps
  refine' iter_listTurns (lo := listOf #[.ref t1, .ref t2] n) (vs := [.ref t1, .ref t2]) (by with_unfolding_all rfl) (by k_asm) (by k_asm) (by k_mem) rfl rfl ?_
  intro i' l3
  try k_lt l3
  have hr : AllLt i' rest := l3.2.2.2.2.2
  k_steps
  exact hret _ _ (by k_asm) (fun p hp => (by k_asm : News _ _ _ _) p (.tail _ hp))
end
end
local macro_rules | `(tactic| walk_at "idle") => `(tactic| fail)
local macro_rules | `(tactic| walk_at "idle") => `(tactic| fail)
local macro_rules | `(tactic| walk_at "idle") => `(tactic| fail)
local macro_rules | `(tactic| walk_at "idle") => `(tactic| fail)
local macro_rules | `(tactic| walk_at "idle") => `(tactic| fail)
theorem calm_slice_set : True := by w_top off; exact True.intro
section
section
variable {prog : Program} {w : World} {A : Around} {E : Value → Shared → Prop} {s : Shared}
theorem set_all {l sl v : Addr} {items new : Array Value} {n n2 : Nat} {Q : Unit → Shared → Prop} (ho : s.heap.get? l = some (listOf items n)) (hs : s.heap.IsSliceOf sl .none .none .none) (hv : s.heap.get? v = some (listOf new n2)) (hlv : l ≠ v)
    (hsz : items.size + new.size ≤ sizeLine)
    (hQ : Q () { s with heap := s.heap.update l (Obj.mapSeq fun xs => xs.extract 0 0 ++ new ++ xs.extract items.size xs.size) }) :
    wpAny (model prog w) A (setItem (.ref l) (.ref sl) (.ref v)) Q E s := by
  have hl : s.heap.IsList l items := PySem.IsL.isList (n := n) ho
  obtain ⟨os, hos, hcs, hds⟩ := id hs
  have hTs : s.TypeIs (.ref sl) "slice" := ⟨os, hos, hcs⟩
  unfold setItem
  try with_reducible refine wpAny_holding ?_
  first | refine wpAny_bind (wpAny_pure ?_) | skip
  refine wpAny_bind (wpAny_sequenceKey hl.typeIs (by decide) ?_)
  refine wpAny_bind (wpAny_callSpecial?_slot (name := Str.ofString "__setitem__") hl.typeIs slot_list_setitem
    (wpAny_call_entry slot_list_setitem hl.typeIs entry_list_setitem ?_ (args_list_setitem _ _ _)))
  show wpAny _ _ (Builtin.List.listSubscript? (.ref sl) >>= _) _ _ s
  refine wpAny_bind ?_
  unfold Builtin.List.listSubscript?
  refine wpAny_bind (wpAny_specialOf hTs slice_no_index ?_)
  simp only [Option.isNone_none, if_true]
  refine wpAny_pure ?_
  show wpAny _ _ (typeOf (.ref sl) >>= _) _ _ s
  refine wpAny_bind (wpAny_typeOf hTs ?_)
  rw [if_neg (by decide)]
  rw [listSliceParts_eq]
  refine wpAny_bind (wpAny_bind (wpAny_field hos hds (x := .none) rfl (wpAny_bind (wpAny_listPart .none ?_))))
  rw [if_neg (show ¬ ((rawPart none == rawInt 0) = true) from Bool.false_ne_true)]
  refine wpAny_bind (wpAny_field hos hds (x := .none) rfl (wpAny_bind (wpAny_listPart .none ?_)))
  refine wpAny_bind (wpAny_field hos hds (x := .none) rfl (wpAny_bind (wpAny_listPart .none (wpAny_pure ?_))))
  rw [if_neg (show ¬ (Builtin.List.listSameRef (.ref l) (.ref v) = true) from by simpa [Builtin.List.listSameRef] using hlv)]
  have hTv : s.TypeIs (.ref v) "list" := ⟨_, hv, rfl⟩
  have items_of : ∀ {x : Addr} {xs : Array Value} {k : Nat} {Q' : Array Value → Shared → Prop} {E' : Value → Shared → Prop} {A' : Around}, s.heap.get? x = some (listOf xs k) → Q' xs s → wpAny (model prog w) A' (Builtin.List.listItems (.ref x)) Q' E' s := by
    intro x xs k Q' E' A' hx hq
    unfold Builtin.List.listItems
    exact wpAny_bind (wpAny_seqItems hx rfl (wpAny_pure hq))
  refine wpAny_bind ?_
  unfold Builtin.List.listAllItems
  refine wpAny_bind (wpAny_typeOf hTv ?_)
  rw [if_pos (by decide)]
  refine items_of hv ?_
  refine wpAny_bind (items_of ho ?_)
  refine wpAny_bind (wpAny_of_eq (sliceIndices_raw none none none items.size (by simp)) ?_)
  have e : sliceBounds none none none items.size = (0, (items.size : Int), 1) := by simp [sliceBounds]
  rw [e]
  rw [if_pos (show ((1 : Int) == 1) = true from rfl)]
  refine wpAny_bind (wpAny_rule ?_)
  rw [if_neg (show ¬ (Builtin.List.listTooLong (items.size + new.size) = true) from by unfold Builtin.List.listTooLong; simp; omega)]
  have e2 : (max (0 : Int) (items.size : Int)).toNat = items.size := by omega
  dsimp only
  rw [e2]
  refine wpAny_bind ?_
  unfold Builtin.List.listUpdate
  refine wpAny_updateSeq ho rfl ?_ (by omega) (by simp; omega)
  refine wpAny_bind (wpAny_letGo ?_)
  exact wpAny_pure ⟨.none, rfl, wpAny_pure hQ⟩
theorem kset_all {h₀ : Heap} {L D sl v : Addr} {m : Str → Option Value} {items new : Array Value} {n n2 : Nat} {news news' : List (Addr × Obj)} {Q : Unit → Shared → Prop} (F : Fr h₀ L s.heap m) (N : News h₀ L s.heap news) (hs : s.heap.IsSliceOf sl .none .none .none)
    (hv : (v, listOf new n2) ∈ news) (U : Upd D (listOf items n) (listOf new (n + 1)) news news') (hlv : D ≠ v) (hsz : items.size + new.size ≤ sizeLine) (hne : new.size ≠ items.size)
    (h : ∀ h', Fr h₀ L h' m → News h₀ L h' news' → Q () { s with heap := h' }) : wpAny (model prog w) A (setItem (.ref D) (.ref sl) (.ref v)) Q E s := by
  obtain ⟨pre, post, rfl, rfl, a, c⟩ := U.split
  have z := N (D, listOf items n) (List.mem_append.mpr (.inr (.head _)))
  refine set_all z.1 hs (N _ hv).1 hlv hsz (h _ (F.change (Heap.SameBut.update ..) z.2.1 z.2.2) (kl_turn _ N a c ?_ hne))
  apply Array.toList_inj.mp
  simp
end
end
local macro_rules | `(tactic| walk_at "upd_D") => `(tactic| first
  | exact Upd.head (List.forall_mem_cons.mpr ⟨Ne.symm (by assumption), List.forall_mem_cons.mpr ⟨Ne.symm (by assumption), by assumption⟩⟩)
  | (refine Upd.tail (by first | exact Ne.symm (by assumption) | (show @Ne Nat _ _; omega)) ?_; walk_at "upd_D"))
theorem calm_hd_set : True := by w_top off; exact True.intro
section
theorem news_ne {h₀ h : Heap} {L : Addr} {news : List (Addr × Obj)} (N : News h₀ L h news) {a b : Addr} {o o' : Obj} (hp : (a, o) ∈ news) (hq : (b, o') ∈ news) (hc : o.cls ≠ o'.cls) : @Ne Nat a b := fun e => hc (by
  have h1 : h.get? a = some o := (N _ hp).1
  have h2 : h.get? b = some o' := (N _ hq).1
  have e' : a = b := e
  rw [e', h2] at h1
  rw [Option.some.inj h1])
theorem hdel_K {M : Model} {A : Around} {E : Value → Shared → Prop} {s : Shared} {K : Frag} {x C L f : Addr} {h₀ : Heap} {m : Str → Option Value} {ox : Obj} {od : Option Obj} {i : Value} {Q : Unit → Shared → Prop} (F : Fr h₀ L s.heap m) (X₀ : K.In h₀) (I : InstAt s.heap x ox C od) (hq : noSeq K C = true) (hs : findIn K (.ref C) "__delitem__" = some (some (.ref f))) (hf : isFn K (.ref f) = true)
    (h : wpAny M A (call (.ref f) [.ref x, i]) (fun _ s' => Q () s') E s) : wpAny M A (delItem (.ref x) i) Q E s := by
  have X := X₀.keeps F.keep
  unfold delItem sequenceKey
  refine wpAny_holding (wpAny_bind (wpAny_bind (I.type.here ?_)))
  refine wpAny_bind ((anyM_none X hq).here ?_)
  rw [if_pos (show (!false) = true from rfl)]
  exact wpAny_pure (wpAny_bind (special_fn X I hs (beq_iff_eq.mp hf) (wpAny_mono h (fun _ _ z => wpAny_pure z) fun _ _ z => z)))
theorem comp_end {h₀ : Heap} {L I C D : Addr} {m : Str → Option Value} {s₁ : Shared} {oI oC oD : Obj} {S : List (Addr × Obj) → Prop} {rest : Value → List (Addr × Obj) → Prop} {y : Value} {h' : Heap} {tk : Nat} {news' : List (Addr × Obj)}
    (F : Fr h₀ L h' m) (N : News h₀ L h' ((I, oI) :: (C, oC) :: (D, oD) :: news')) (off : LCg.Off3 I C D news') (hS : S news') (r : rest y news') :
    LCg.CompEnd h₀ L m s₁ I oI C oC D oD S rest y { s₁ with heap := h', toks := tk } := ⟨h', tk, news', rfl, F, N, off, hS, r⟩
theorem news_s1 {h₀ h : Heap} {L : Addr} {a3 x1 x2 pT pd pD p1 p2 : Addr × Obj} {rest : List (Addr × Obj)} (N : News h₀ L h (a3 :: x1 :: x2 :: pT :: pd :: pD :: p1 :: p2 :: rest)) : News h₀ L h (pT :: pd :: pD :: p2 :: a3 :: rest) := fun p hp => N p (by
  rcases List.mem_cons.mp hp with h | hp
  · rw [h]; exact .tail _ (.tail _ (.tail _ (.head _)))
  rcases List.mem_cons.mp hp with h | hp
  · rw [h]; exact .tail _ (.tail _ (.tail _ (.tail _ (.head _))))
  rcases List.mem_cons.mp hp with h | hp
  · rw [h]; exact .tail _ (.tail _ (.tail _ (.tail _ (.tail _ (.head _)))))
  rcases List.mem_cons.mp hp with h | hp
  · rw [h]; exact .tail _ (.tail _ (.tail _ (.tail _ (.tail _ (.tail _ (.tail _ (.head _)))))))
  rcases List.mem_cons.mp hp with h | hp
  · rw [h]; exact .head _
  exact .tail _ (.tail _ (.tail _ (.tail _ (.tail _ (.tail _ (.tail _ (.tail _ hp))))))))
def Halt (P : Prop) : Prop := P
theorem Halt.mk {P : Prop} (h : Halt P) : P := h
section
local macro_rules | `(tactic| k_upd) => `(tactic| walk_at "upd_D")
local macro_rules | `(tactic| walk_at "call builtin:list.append") => `(tactic| refine Halt.mk ?_)
local macro_rules | `(tactic| walk_at "CompEnd") => `(tactic| (k_here; (refine' comp_end ?F ?N ?O ?S ?_); (case F => k_asm); (case N => k_asm); (case O => with_unfolding_all assumption); (case S => exact Or.inr ⟨_, by k_mem, rfl, _, rfl⟩)))
local macro_rules | `(tactic| walk_at "delItem ref str") => `(tactic| (k_here; k_dflt (refine' hdel_K ?k1 ?k2 ?k3 ?k4 ?k5 ?k6 ?_; (case k1 => k_asm); (case k2 => k_asm); (case k3 => k_inst); (case k4 => k_is); (case k5 => k_is); (case k6 => k_is); k_whole)))
local macro_rules | `(tactic| k_room) => `(tactic| ktr_room)
local macro_rules | `(tactic| walk_at "call builtin:str.lower") => `(tactic| (k_here; (with_reducible show wpAny _ _ (call (Value.builtin "str.lower") [Value.str _ _]) _ _ _); (refine lowerK (by assumption) (by decide +kernel) ?_); intro _ _))
set_option maxHeartbeats 1000000 in
theorem c_set1 (w : World) (p : Program) (loose : List Str) (mean : ExcName → Option Value) (mg mb : Str → Option Value)
  (dp un : Nat) (gd : Option (List Code)) (cn : Str) (cs : Scope) (a : Addr) (ccd : Value) (cl : List (Str × Addr)) (outer : List Env) (A₀ : Around) (base h₀ : Heap) (L : Addr) (m : Str → Option Value) (s : Shared) (Q E : Value → Shared → Prop) (rest : List (Addr × Obj))
  (hB : Below A₀ base outer h₀) (hF : Fr h₀ L s.heap m) (hX : (hd02.heap_39 w.params).In h₀) (hT : Top p loose mean mg mb h₀) (hk : cs.kind = .function)
  (hd : dp + 20 < recursionLimit) (hu : un + 100 < cLine)
  (T dx D t1 t2 : Addr) (n n1 n2 : Nat) (tt : Tok) (k1 k2 a1 a2 name val : Str) (u1 u2 u3 u4 tn tv : Tok) (e1 : Txt.lower k1 = Str.ofString "one") (e2 : Txt.lower k2 = Str.ofString "two") (en : Txt.lower name = Str.ofString "one") (sn : Safe name) (sv : Safe val)
  (hneD : ∀ p ∈ rest, p.1 ≠ D)
  (hNw : News h₀ L s.heap ((T, instObj 220 dx) :: (dx, hdDict w D tt) :: (D, listOf #[.ref t1, .ref t2] n) :: (t1, pairObj k1 u1 a1 u2 n1) :: (t2, pairObj k2 u3 a2 u4 n2) :: rest))
  (hret : ∀ (t3 : Addr) (n' n3 : Nat) (u5 u6 : Tok) (h' : Heap) (tk' : Nat), Fr h₀ L h' m → News h₀ L h' ((T, instObj 220 dx) :: (dx, hdDict w D tt) :: (D, listOf #[.ref t2, .ref t3] n') :: (t2, pairObj k2 u3 a2 u4 n2) :: (t3, pairObj name u5 val u6 n3) :: rest) → Q .none { s with heap := h', toks := tk' }) :
  wpAny (model PySem.Challenge.rw_pg0294_02.row.prog w) (ktrTop dp un gd cn cs L a ccd cl outer) (call (.ref 133) [.ref T, .str name tn, .str val tv]) Q E s := by
  have d1 := news_ne (a := D) (b := T) hNw (.tail _ (.tail _ (.head _))) (.head _) (by (first | (intro e; cases e; done) | (intro e; exact absurd (Value.type.inj e) (by decide))))
  have d2 := news_ne (a := D) (b := dx) hNw (.tail _ (.tail _ (.head _))) (.tail _ (.head _)) (by (first | (intro e; cases e; done) | (intro e; exact absurd (Value.type.inj e) (by decide))))
  have d3 := news_ne (a := D) (b := t1) hNw (.tail _ (.tail _ (.head _))) (.tail _ (.tail _ (.tail _ (.head _)))) (by (first | (intro e; cases e; done) | (intro e; exact absurd (Value.type.inj e) (by decide))))
  have d4 := news_ne (a := D) (b := t2) hNw (.tail _ (.tail _ (.head _))) (.tail _ (.tail _ (.tail _ (.tail _ (.head _))))) (by (first | (intro e; cases e; done) | (intro e; exact absurd (Value.type.inj e) (by decide))))
  refine wpAny_call ?_
  k_dflt ((refine' code_def ?k1 ?k2 ?k3 ?k4 ?k5 ?kA ?kF ?kK ?k6 ?k7 ?k8 ?k9 ?kB ?_ ?c2 ?c3 ?c4 ?c5; (case kA => exact rfl); (case kF => exact rfl); (case kK => first | exact rfl | assumption); (case k1 => k_asm); (case k2 => k_asm); (case k3 => k_asm); (case k4 => k_asm); (case k5 => k_asm); (case k6 => k_is); (case k7 => k_is); (case k8 => ktr_room); (case k9 => first | exact BindsTo.of_eq rfl | exact binds_K (by k_in) rfl (by k_is) rfl rfl rfl); (case c5 => decide); (case kB => exact locs rfl); (case c2 => exact rfl); (case c3 => exact rfl); (case c4 => exact rfl); k_whole; intro g' L' h' FG' F' N' B' X' T'; (try dsimp only); (try k_lift B'); (try k_fold)))
  k_steps
  rename Fr _ _ _ _ => kF
  rename News _ _ _ _ => kN
  refine' kset_all (kF.push _) (News.pushKeep kN _) (Heap.IsSliceOf.new _ _ _ _) (.head _) ?U ?ne ?sz ?sn ?_
  (case U => exact .tail (by k_ne) (.tail (by k_ne) (.tail (Ne.symm d1) (.tail (Ne.symm d2) (.head (List.forall_mem_cons.mpr ⟨Ne.symm d3, List.forall_mem_cons.mpr ⟨Ne.symm d4, hneD⟩⟩))))))
  (case ne => k_ne)
  (case sz => exact Nat.le_of_ble_eq_true rfl)
  (case sn => show 1 ≠ 2; decide)
  intro h' F' N'
  clear kF kN
  (try dsimp only)
  k_steps
  refine' append_K (its := #[.ref t2]) (n := n + 1) ?Fa ?Na ?Ua ?_ ?za
  (case Fa => k_asm)
  (case Na => k_asm)
  (case Ua => exact .tail (Nat.ne_of_gt (by omega)) (.tail (show @Ne Nat _ _ by omega) (.tail (Nat.ne_of_gt (by omega)) (.tail (Ne.symm d1) (.tail (Ne.symm d2) (.head (List.forall_mem_cons.mpr ⟨Ne.symm d3, List.forall_mem_cons.mpr ⟨Ne.symm d4, hneD⟩⟩)))))))
  (case za => show 1 ≤ sizeLine; rw [sizeLine_eq]; decide)
  intro h9 F9 N9
  (try dsimp only)
  k_steps
  rename News h₀ L _ _ => Nz
  exact hret _ _ _ _ _ _ _ (by k_asm) (news_s1 Nz)
end
end
local macro_rules | `(tactic| walk_at "idle") => `(tactic| fail)
local macro_rules | `(tactic| walk_at "idle") => `(tactic| fail)
local macro_rules | `(tactic| walk_at "idle") => `(tactic| fail)
local macro_rules | `(tactic| walk_at "idle") => `(tactic| fail)
local macro_rules | `(tactic| walk_at "idle") => `(tactic| fail)
local macro_rules | `(tactic| walk_at "idle") => `(tactic| fail)
local macro_rules | `(tactic| walk_at "idle") => `(tactic| fail)
theorem calm_hd_set2 : True := by w_top off; exact True.intro
section
section
local macro_rules | `(tactic| k_upd) => `(tactic| walk_at "upd_D")
local macro_rules | `(tactic| walk_at "call builtin:list.append") => `(tactic| refine Halt.mk ?_)
local macro_rules | `(tactic| walk_at "CompEnd") => `(tactic| (k_here; (refine' comp_end ?F ?N ?O ?S ?_); (case F => k_asm); (case N => k_asm); (case O => with_unfolding_all assumption); (case S => exact Or.inr ⟨_, by k_mem, rfl, _, rfl⟩)))
local macro_rules | `(tactic| walk_at "delItem ref str") => `(tactic| (k_here; k_dflt (refine' hdel_K ?k1 ?k2 ?k3 ?k4 ?k5 ?k6 ?_; (case k1 => k_asm); (case k2 => k_asm); (case k3 => k_inst); (case k4 => k_is); (case k5 => k_is); (case k6 => k_is); k_whole)))
local macro_rules | `(tactic| k_room) => `(tactic| ktr_room)
local macro_rules | `(tactic| walk_at "call builtin:str.lower") => `(tactic| (k_here; (with_reducible show wpAny _ _ (call (Value.builtin "str.lower") [Value.str _ _]) _ _ _); (refine lowerK (by assumption) (by decide +kernel) ?_); intro _ _))
set_option maxHeartbeats 1000000 in
theorem c_set2 (w : World) (p : Program) (loose : List Str) (mean : ExcName → Option Value) (mg mb : Str → Option Value)
  (dp un : Nat) (gd : Option (List Code)) (cn : Str) (cs : Scope) (a : Addr) (ccd : Value) (cl : List (Str × Addr)) (outer : List Env) (A₀ : Around) (base h₀ : Heap) (L : Addr) (m : Str → Option Value) (s : Shared) (Q E : Value → Shared → Prop) (rest : List (Addr × Obj))
  (hB : Below A₀ base outer h₀) (hF : Fr h₀ L s.heap m) (hX : (hd02.heap_39 w.params).In h₀) (hT : Top p loose mean mg mb h₀) (hk : cs.kind = .function)
  (hd : dp + 20 < recursionLimit) (hu : un + 100 < cLine)
  (T dx D t1 t2 : Addr) (n n1 n2 : Nat) (tt : Tok) (k1 k2 a1 a2 name val : Str) (u1 u2 u3 u4 tn tv : Tok) (e1 : Txt.lower k1 = Str.ofString "two") (e2 : Txt.lower k2 = Str.ofString "one") (en : Txt.lower name = Str.ofString "two") (sn : Safe name) (sv : Safe val)
  (hneD : ∀ p ∈ rest, p.1 ≠ D)
  (hNw : News h₀ L s.heap ((T, instObj 220 dx) :: (dx, hdDict w D tt) :: (D, listOf #[.ref t1, .ref t2] n) :: (t1, pairObj k1 u1 a1 u2 n1) :: (t2, pairObj k2 u3 a2 u4 n2) :: rest))
  (hret : ∀ (t3 : Addr) (n' n3 : Nat) (u5 u6 : Tok) (h' : Heap) (tk' : Nat), Fr h₀ L h' m → News h₀ L h' ((T, instObj 220 dx) :: (dx, hdDict w D tt) :: (D, listOf #[.ref t2, .ref t3] n') :: (t2, pairObj k2 u3 a2 u4 n2) :: (t3, pairObj name u5 val u6 n3) :: rest) → Q .none { s with heap := h', toks := tk' }) :
  wpAny (model PySem.Challenge.rw_pg0294_02.row.prog w) (ktrTop dp un gd cn cs L a ccd cl outer) (call (.ref 133) [.ref T, .str name tn, .str val tv]) Q E s := by
  have d1 := news_ne (a := D) (b := T) hNw (.tail _ (.tail _ (.head _))) (.head _) (by (first | (intro e; cases e; done) | (intro e; exact absurd (Value.type.inj e) (by decide))))
  have d2 := news_ne (a := D) (b := dx) hNw (.tail _ (.tail _ (.head _))) (.tail _ (.head _)) (by (first | (intro e; cases e; done) | (intro e; exact absurd (Value.type.inj e) (by decide))))
  have d3 := news_ne (a := D) (b := t1) hNw (.tail _ (.tail _ (.head _))) (.tail _ (.tail _ (.tail _ (.head _)))) (by (first | (intro e; cases e; done) | (intro e; exact absurd (Value.type.inj e) (by decide))))
  have d4 := news_ne (a := D) (b := t2) hNw (.tail _ (.tail _ (.head _))) (.tail _ (.tail _ (.tail _ (.tail _ (.head _))))) (by (first | (intro e; cases e; done) | (intro e; exact absurd (Value.type.inj e) (by decide))))
  refine wpAny_call ?_
  k_dflt ((refine' code_def ?k1 ?k2 ?k3 ?k4 ?k5 ?kA ?kF ?kK ?k6 ?k7 ?k8 ?k9 ?kB ?_ ?c2 ?c3 ?c4 ?c5; (case kA => exact rfl); (case kF => exact rfl); (case kK => first | exact rfl | assumption); (case k1 => k_asm); (case k2 => k_asm); (case k3 => k_asm); (case k4 => k_asm); (case k5 => k_asm); (case k6 => k_is); (case k7 => k_is); (case k8 => ktr_room); (case k9 => first | exact BindsTo.of_eq rfl | exact binds_K (by k_in) rfl (by k_is) rfl rfl rfl); (case c5 => decide); (case kB => exact locs rfl); (case c2 => exact rfl); (case c3 => exact rfl); (case c4 => exact rfl); k_whole; intro g' L' h' FG' F' N' B' X' T'; (try dsimp only); (try k_lift B'); (try k_fold)))
  k_steps
  rename Fr _ _ _ _ => kF
  rename News _ _ _ _ => kN
  refine' kset_all (kF.push _) (News.pushKeep kN _) (Heap.IsSliceOf.new _ _ _ _) (.head _) ?U ?ne ?sz ?sn ?_
  (case U => exact .tail (by k_ne) (.tail (by k_ne) (.tail (Ne.symm d1) (.tail (Ne.symm d2) (.head (List.forall_mem_cons.mpr ⟨Ne.symm d3, List.forall_mem_cons.mpr ⟨Ne.symm d4, hneD⟩⟩))))))
  (case ne => k_ne)
  (case sz => exact Nat.le_of_ble_eq_true rfl)
  (case sn => show 1 ≠ 2; decide)
  intro h' F' N'
  clear kF kN
  (try dsimp only)
  k_steps
  refine' append_K (its := #[.ref t2]) (n := n + 1) ?Fa ?Na ?Ua ?_ ?za
  (case Fa => k_asm)
  (case Na => k_asm)
  (case Ua => exact .tail (Nat.ne_of_gt (by omega)) (.tail (show @Ne Nat _ _ by omega) (.tail (Nat.ne_of_gt (by omega)) (.tail (Ne.symm d1) (.tail (Ne.symm d2) (.head (List.forall_mem_cons.mpr ⟨Ne.symm d3, List.forall_mem_cons.mpr ⟨Ne.symm d4, hneD⟩⟩)))))))
  (case za => show 1 ≤ sizeLine; rw [sizeLine_eq]; decide)
  intro h9 F9 N9
  (try dsimp only)
  k_steps
  rename News h₀ L _ _ => Nz
  exact hret _ _ _ _ _ _ _ (by k_asm) (news_s1 Nz)
end
end
local macro_rules | `(tactic| walk_at "idle") => `(tactic| fail)
local macro_rules | `(tactic| walk_at "idle") => `(tactic| fail)
local macro_rules | `(tactic| walk_at "idle") => `(tactic| fail)
local macro_rules | `(tactic| walk_at "idle") => `(tactic| fail)
local macro_rules | `(tactic| walk_at "idle") => `(tactic| fail)
local macro_rules | `(tactic| walk_at "idle") => `(tactic| fail)
local macro_rules | `(tactic| walk_at "idle") => `(tactic| fail)
theorem calm_rep_plain : True := by w_top off; exact True.intro
section
/-- one step of replace: x' is x with z for each y -/
structure Rep (x y z x' : Str) : Prop where
  e : Txt.join z (Txt.split x y) = x'
  w : ((Txt.split x y).map (·.length)).sum + (Txt.split x y).length ≤ 1048576
  l : x.length ≤ 1000000
  y : (y.length == 0) = false
  z : z.length ≤ 16
theorem rep_split {prog : Program} {w : World} {A : Around} {E : Value → Shared → Prop} {s : Shared} {h₀ : Heap} {L : Addr} {m : PySem.Str → Option Value} {news : List (Addr × Obj)} {x y z x' : PySem.Str} {t u : Tok} {Q : Value → Shared → Prop}
    (R : Rep x y z x') (hF : Fr h₀ L s.heap m) (hN : News h₀ L s.heap news)
    (h : ∀ D l h' k, l.map (·.1) = Txt.split x y → StrsAre (strValues l) (l.map (·.1)) → Fr h₀ L h' m → News h₀ L h' ((D, listOf (strValues l).toArray 0) :: news) → (∀ p ∈ news, p.1 < D) → Q (.ref D) { s with heap := h', toks := k }) :
    wpAny (model prog w) A (call (.builtin "str.split") [.str x t, .str y u]) Q E s :=
  KSpl.split1 hF hN R.y h (by have := R.l; rw [sizeLine_eq]; omega)
theorem rep_join {prog : Program} {w : World} {A : Around} {E : Value → Shared → Prop} {s : Shared} {x y z x' : PySem.Str} {t : Tok} {Q : Value → Shared → Prop} {D : Addr} {l : List (Str × Tok)}
    (hl : s.heap.IsList D (strValues l).toArray) (hi : StrsAre (strValues l) (l.map (·.1))) (e : l.map (·.1) = Txt.split x y) (R : Rep x y z x') (h : ∀ t' k, Q (.str x' t') { s with toks := k }) :
    wpAny (model prog w) A (call (.builtin "str.join") [.str z t, .ref D]) Q E s := by
  rw [e] at hi
  have := R.e
  subst this
  exact join_listW hl hi R.z R.w h
theorem tup_from {prog : Program} {w : World} {A : Around} {E : Value → Shared → Prop} {s : Shared} {h₀ : Heap} {L : Addr} {m : Str → Option Value} {news : List (Addr × Obj)} {value slice : PySem.Expr} {t : Addr} {vs : List Value} {k : Nat} {a : Int} {u : Tok} {Q : Value → Shared → Prop}
    (F : Fr h₀ L s.heap m) (N : News h₀ L s.heap news) (ht : (t, ({ cls := .type "tuple", data := .seq vs.toArray k } : Obj)) ∈ news) (h1 : 1 ≤ a) (ha : a.toNat ≤ vs.length)
    (h : ∀ D h', Fr h₀ L h' m → News h₀ L h' ((D, { cls := .type "tuple", data := .seq (vs.drop a.toNat).toArray }) :: news) → (∀ p ∈ news, p.1 < D) → Q (.ref D) { s with heap := h' })
    (hs : subscripted slice false (.ref t) (.ref s.heap.objs.size) = operate [.ref s.heap.objs.size, .ref t] (getItem (.ref t) (.ref s.heap.objs.size)))
    (hg : ∀ r, letTemporaryGo value (.ref t) r = pure ()) (hsz : vs.length ≤ sizeLine) :
    wpAny (model prog w) A (subscriptTail value slice (.ref t) (.ref s.heap.objs.size)) Q E { s with heap := s.heap.push { cls := .type "slice", data := .fields #[.int a u, .none, .none] } } := by
  obtain ⟨b, rfl⟩ := Int.eq_ofNat_of_zero_le (a := a) (by omega)
  refine slice_tuple_from F N (News.isTup N ht) (by omega) (by simpa using ha) (fun h' F' N' => h _ h' F' N' fun p hp => Nat.lt_succ_of_lt (Heap.lt_size (N p hp).1)) hs hg (by simpa using hsz)
end
theorem calm_chg : True := by w_top off; exact True.intro
section
section
local macro_rules | `(tactic| k_room) => `(tactic| ktr_room)
local macro_rules | `(tactic| walk_at "exec While") => `(tactic| (k_here; k_dflt (refine whl_start 100 ?_)))
local macro_rules | `(tactic| is_list) => `(tactic| exact News.isList (by k_asm) (by k_mem))
local macro_rules | `(tactic| walk_at "call builtin:str.split") => `(tactic| (k_here; (refine rep_split (by assumption) (by k_asm) (by k_asm) ?_); intro D' l' h' k' e' a' F' N' l1; (try k_lt l1)))
local macro_rules | `(tactic| walk_at "call builtin:str.join") => `(tactic| (k_here; (refine rep_join (by is_list) (by assumption) (by assumption) (by assumption) ?_); intro _ _))
local macro_rules | `(tactic| walk_at "subscriptTail Name Slice ref ref") => `(tactic| (k_here; (with_reducible show wpAny _ _ (subscriptTail _ _ (Value.ref _) (Value.ref _)) _ _ _); k_dflt (refine' tup_from ?F ?N ?l ?p ?q ?_ ?s ?t ?z; (case F => k_asm); (case N => k_asm); (case l => k_mem); (case p => decide); (case q => exact Nat.le_of_ble_eq_true rfl); (case s => with_unfolding_all rfl); (case t => kmk_pure); (case z => exact Nat.le_of_ble_eq_true rfl)); intro D' h' F' N' l1; (try k_lt l1); (try dsimp only [List.drop, Int.toNat])))
theorem c_chg (w : World) (p : Program) (loose : List Str) (mean : ExcName → Option Value) (mg mb : Str → Option Value)
  (dp un : Nat) (gd : Option (List Code)) (cn : Str) (cs : Scope) (a : Addr) (ccd : Value) (cl : List (Str × Addr)) (outer : List Env) (A₀ : Around) (base h₀ : Heap) (L : Addr) (m : Str → Option Value) (s : Shared) (Q E : Value → Shared → Prop) (rest : List (Addr × Obj))
  (hB : Below A₀ base outer h₀) (hF : Fr h₀ L s.heap m) (hX : (hd02.heap_39 w.params).In h₀) (hT : Top p loose mean mg mb h₀) (hk : cs.kind = .function)
  (hd : dp + 20 < recursionLimit) (hu : un + 100 < cLine)
  (t t1 t2 t3 : Str) (tt : Tok) (r1 : Rep t (Str.ofString "p") (Str.ofString "x") t1) (r2 : Rep t1 (Str.ofString "m") (Str.ofString "p") t2) (r3 : Rep t2 (Str.ofString "x") (Str.ofString "m") t3)
  (hNw : News h₀ L s.heap rest)
  (hret : ∀ (u : Tok) (h' : Heap) (tk' : Nat), Fr h₀ L h' m → News h₀ L h' rest → Q (.str t3 u) { s with heap := h', toks := tk' }) :
  wpAny (model PySem.Challenge.rw_pg0294_02.row.prog w) (ktrTop dp un gd cn cs L a ccd cl outer) (call (.ref 231) [.str t tt]) Q E s := by
  refine wpAny_call ?_
  k_dflt ((refine' code_def ?k1 ?k2 ?k3 ?k4 ?k5 ?kA ?kF ?kK ?k6 ?k7 ?k8 ?k9 ?kB ?_ ?c2 ?c3 ?c4 ?c5; (case kA => exact rfl); (case kF => exact rfl); (case kK => first | exact rfl | assumption); (case k1 => k_asm); (case k2 => k_asm); (case k3 => k_asm); (case k4 => k_asm); (case k5 => k_asm); (case k6 => k_is); (case k7 => k_is); (case k8 => ktr_room); (case k9 => first | exact BindsTo.of_eq rfl | exact binds_K (by k_in) rfl (by k_is) rfl rfl rfl); (case c5 => decide); (case kB => exact locs rfl); (case c2 => exact rfl); (case c3 => exact rfl); (case c4 => exact rfl); k_whole; intro g' L' h' FG' F' N' B' X' T'; (try dsimp only); (try k_lift B'); (try k_fold)))
  k_steps
  rename News h₀ L _ _ => Nz
  exact hret _ _ _ (by k_asm) (fun p hp => Nz p (by repeat (first | exact hp | refine List.Mem.tail _ ?_)))
end
end
local macro_rules | `(tactic| walk_at "idle") => `(tactic| fail)
local macro_rules | `(tactic| walk_at "idle") => `(tactic| fail)
local macro_rules | `(tactic| walk_at "idle") => `(tactic| fail)
local macro_rules | `(tactic| walk_at "idle") => `(tactic| fail)
local macro_rules | `(tactic| walk_at "idle") => `(tactic| fail)
local macro_rules | `(tactic| walk_at "idle") => `(tactic| fail)
local macro_rules | `(tactic| walk_at "idle") => `(tactic| fail)
theorem calm_comp2 : True := by w_top off; exact True.intro
section
section
variable {prog : Program} {w : World} {A : Around} {E : Value → Shared → Prop} {R : Result → Shared → Prop} {s : Shared}
theorem compTurn_two0 (elt t1 i1 t2 i2 : PySem.Expr) (scope : Scope) (pos : Pos) (it acc : Value) (env : Env) :
    compTurn (.ListComp elt [⟨t1, i1, [], 0⟩, ⟨t2, i2, [], 0⟩] scope pos) 0 it acc env = (standAt i1.pos >>= fun _ => pyNext it >>= fun r => match r with
      | none => pure (.done .next)
      | some v => letOwnedTupleGo t1 it v >>= fun _ => assign t1 env v >>= fun _ =>
        eval i2 env >>= fun x => standAt i2.pos >>= fun _ => foldedSetIterable i2 env x >>= fun x => holding [x] (pyIter x) >>= fun j => runOwn (.compStart (.ListComp elt [⟨t1, i1, [], 0⟩, ⟨t2, i2, [], 0⟩] scope pos) 1 j acc env) env >>= fun _ =>
          again (.compLoop (.ListComp elt [⟨t1, i1, [], 0⟩, ⟨t2, i2, [], 0⟩] scope pos) 0 it acc env)) := by rfl
theorem compTurn_two1 (elt t1 i1 t2 i2 : PySem.Expr) (scope : Scope) (pos : Pos) (it acc : Value) (env : Env) :
    compTurn (.ListComp elt [⟨t1, i1, [], 0⟩, ⟨t2, i2, [], 0⟩] scope pos) 1 it acc env = (standAt i2.pos >>= fun _ => pyNext it >>= fun r => match r with
      | none => pure (.done .next)
      | some v => letOwnedTupleGo t2 it v >>= fun _ => assign t2 env v >>= fun _ =>
        (eval elt env >>= fun x => call (.builtin "list.append") [acc, x] >>= fun _ => pure ()) >>= fun _ =>
          again (.compLoop (.ListComp elt [⟨t1, i1, [], 0⟩, ⟨t2, i2, [], 0⟩] scope pos) 1 it acc env)) := by rfl
theorem compStart_two1 {elt t1 i1 t2 i2 scope pos it acc env}
    (h0 : codeAny (model prog w) A (.compLoop (.ListComp elt [⟨t1, i1, [], 0⟩, ⟨t2, i2, [], 0⟩] scope pos) 1 it acc env) R s)
    (h : wpAny (model prog w) A (pyIter it) (fun it' s' => codeAny (model prog w) A (.compLoop (.ListComp elt [⟨t1, i1, [], 0⟩, ⟨t2, i2, [], 0⟩] scope pos) 1 it' acc env) R s')
      (notedBy (model prog w) A env fun x s' => R (.error x) s') s) :
    codeAny (model prog w) A (.compStart (.ListComp elt [⟨t1, i1, [], 0⟩, ⟨t2, i2, [], 0⟩] scope pos) 1 it acc env) R s := by
  refine codeAny_of_tree ?_
  show wpAny _ _ ((compStart (.ListComp elt [⟨t1, i1, [], 0⟩, ⟨t2, i2, [], 0⟩] scope pos) 1 it acc env).onRaise (fun x => do noteFrame x env; standAt theWindowsPlace)) _ _ s
  refine wpAny_notedAt ?_
  unfold compStart
  show wpAny _ _ (ask >>= _) _ _ s
  refine wpAny_bind (wpAny_askSetting (wpAny_ite ?_))
  split
  · first
      | exact wpAny_bind (wpAny_pure (wpAny_pure (And.intro rfl h0)))
      | exact wpAny_pure (And.intro rfl h0)
  · first
      | exact wpAny_bind (wpAny_rule (wpAny_bind (wpAny_standAt (wpAny_bind (wpAny_mono h (fun it' s' h' => wpAny_pure (And.intro rfl h')) fun _ _ x => x)))))
      | (refine wpAny_bind (wpAny_rule ?_); show wpAny _ _ (standAt i2.pos >>= _) _ _ s; exact wpAny_bind (wpAny_standAt (wpAny_bind (wpAny_mono h (fun it' s' h' => wpAny_pure (And.intro rfl h')) fun _ _ x => x))))
theorem compLoop_two1 {elt t1 i1 t2 i2 : PySem.Expr} {scope : Scope} {pos : Pos} {it acc : Value} {env : Env} (I : Nat → Shared → Prop)
    (turn : ∀ n s, I n s → wpAny (model prog w) A (pyNext it) (fun r s₁ => match r with
      | none => R (.ok .next) s₁
      | some v => wpAny (model prog w) A (assign t2 env v) (fun _ s₂ => wpAny (model prog w) A (eval elt env) (fun x s₃ =>
          wpAny (model prog w) A (call (.builtin "list.append") [acc, x]) (fun _ s₄ => ∃ m, m < n ∧ I m s₄) (notedBy (model prog w) A env fun e s' => R (.error e) s') s₃)
          (notedBy (model prog w) A env fun e s' => R (.error e) s') s₂) (notedBy (model prog w) A env fun e s' => R (.error e) s') s₁) (notedBy (model prog w) A env fun e s' => R (.error e) s') s)
    (n : Nat) (h : I n s) (ht : ∀ v, letOwnedTupleGo t2 it v = pure ()) :
    codeAny (model prog w) A (.compLoop (.ListComp elt [⟨t1, i1, [], 0⟩, ⟨t2, i2, [], 0⟩] scope pos) 1 it acc env) R s := by
  refine codeAny_loop rfl I (fun n s hI => ?_) n h
  show wpAny _ _ ((compTurn (.ListComp elt [⟨t1, i1, [], 0⟩, ⟨t2, i2, [], 0⟩] scope pos) 1 it acc env).onRaise (fun x => do noteFrame x env; theTreesLotGoes x)) _ _ s
  refine wpAny_noted ?_
  rw [compTurn_two1]
  refine wpAny_bind (wpAny_standAt (wpAny_bind (wpAny_mono (turn n s hI) (fun r s₁ h₁ => ?_) fun _ _ h' => h')))
  cases r with
  | none => exact wpAny_pure h₁
  | some v =>
    refine wpAny_bind (wpAny_of_eq (ht v) ?_)
    exact wpAny_bind (wpAny_mono h₁ (fun _ s₂ h₂ => wpAny_bind (wpAny_bind (wpAny_mono h₂ (fun x s₃ h₃ => wpAny_bind (wpAny_mono h₃
      (fun _ s₄ h₄ => wpAny_pure (wpAny_pure ⟨rfl, h₄⟩)) fun _ _ h' => h')) fun _ _ h' => h'))) fun _ _ h' => h')
theorem compLoop_two0 {elt t1 i1 t2 i2 : PySem.Expr} {scope : Scope} {pos : Pos} {it acc : Value} {env : Env} (I : Nat → Shared → Prop)
    (turn : ∀ n s, I n s → wpAny (model prog w) A (pyNext it) (fun r s₁ => match r with
      | none => R (.ok .next) s₁
      | some v => wpAny (model prog w) A (assign t1 env v) (fun _ s₂ => wpAny (model prog w) A (eval i2 env) (fun x s₃ =>
          wpAny (model prog w) A (pyIter x) (fun j s₄ => ∀ R' : Result → Shared → Prop, (∀ f s₅, (∃ m, m < n ∧ I m s₅) → R' (.ok f) s₅) →
            codeAny (model prog w) (A.mark none) (.compStart (.ListComp elt [⟨t1, i1, [], 0⟩, ⟨t2, i2, [], 0⟩] scope pos) 1 j acc env) R' s₄) (notedBy (model prog w) A env fun e s' => R (.error e) s') s₃)
          (notedBy (model prog w) A env fun e s' => R (.error e) s') s₂) (notedBy (model prog w) A env fun e s' => R (.error e) s') s₁) (notedBy (model prog w) A env fun e s' => R (.error e) s') s)
    (n : Nat) (h : I n s) (ht : ∀ v, letOwnedTupleGo t1 it v = pure ()) (hf : ∀ x, foldedSetIterable i2 env x = pure x) :
    codeAny (model prog w) A (.compLoop (.ListComp elt [⟨t1, i1, [], 0⟩, ⟨t2, i2, [], 0⟩] scope pos) 0 it acc env) R s := by
  refine codeAny_loop rfl I (fun n s hI => ?_) n h
  show wpAny _ _ ((compTurn (.ListComp elt [⟨t1, i1, [], 0⟩, ⟨t2, i2, [], 0⟩] scope pos) 0 it acc env).onRaise (fun x => do noteFrame x env; theTreesLotGoes x)) _ _ s
  refine wpAny_noted ?_
  rw [compTurn_two0]
  refine wpAny_bind (wpAny_standAt (wpAny_bind (wpAny_mono (turn n s hI) (fun r s₁ h₁ => ?_) fun _ _ h' => h')))
  cases r with
  | none => exact wpAny_pure h₁
  | some v =>
    refine wpAny_bind (wpAny_of_eq (ht v) ?_)
    refine wpAny_bind (wpAny_mono h₁ (fun _ s₂ h₂ => wpAny_bind (wpAny_mono h₂ (fun x s₃ h₃ => wpAny_bind (wpAny_standAt (wpAny_bind (wpAny_of_eq (hf x) (wpAny_bind (wpAny_holding (wpAny_mono h₃ (fun j s₄ h₄ => ?_) fun _ _ h' => h'))))))) fun _ _ h' => h')) fun _ _ h' => h')
    refine wpAny_bind (wpAny_runOwn (h₄ _ ?_))
    intro f s₅ h₅
    exact wpAny_pure ⟨rfl, h₅⟩
end
end
theorem calm_comp2b : True := by w_top off; exact True.intro
section
def TupObj (o : Obj) : Prop := o.cls = .type "tuple" ∧ ∃ xs k, o.data = .seq xs k
def Sm (fp : List Addr) (h h' : Heap) : Prop := ∀ b o, (b ∈ fp ∨ TupObj o) → h.get? b = some o → h'.get? b = some o
theorem Sm.refl {fp : List Addr} {h : Heap} : Sm fp h h := fun _ _ _ e => e
theorem Sm.trans {fp : List Addr} {h h' h'' : Heap} (a : Sm fp h h') (b : Sm fp h' h'') : Sm fp h h'' := fun c o x e => b c o x (a c o x e)
theorem Sm.of {fp : List Addr} {h h' : Heap} (a : ∀ b o, h.get? b = some o → h'.get? b = some o) : Sm fp h h' := fun b o _ e => a b o e
theorem Sm.but {fp : List Addr} {h h' : Heap} {J : Addr} {oJ : Obj} (hJ : J ∉ fp) (eJ : h.get? J = some oJ) (nJ : ¬ TupObj oJ) (a : ∀ b o, b ≠ J → h.get? b = some o → h'.get? b = some o) : Sm fp h h' := fun b o x e =>
  a b o (by
    rintro rfl
    rcases x with x | x
    · exact hJ x
    · rw [e] at eJ; cases eJ; exact nJ x) e
theorem not_tup_dict {o : Obj} {es ep} (h : o.data = .dict es ep) : ¬ TupObj o := fun ⟨_, xs, k, e⟩ => by rw [h] at e; cases e
theorem not_tup_lst {ys : List Value} : ¬ TupObj (LCg.lst ys) := fun ⟨e, _⟩ => absurd (Value.type.inj e) (by decide)
theorem ns_not_tup {h : Heap} {C : Addr} {m : Str → Option Value} (x : h.Ns C m) : ∃ o, h.get? C = some o ∧ ¬ TupObj o := let ⟨o, es, ep, e, hd, r⟩ := x; ⟨o, e, not_tup_dict hd⟩
structure Outer (prog : Program) (w : World) (A : Around) (I : Addr) (fp wr : List Addr) (n : Nat) (P : Nat → Value → Heap → Prop) (St : Nat → Heap → Prop) : Prop where
  sub : ∀ b ∈ wr, b ∈ fp
  frame : ∀ i h h', St i h → Sm fp h h' → St i h'
  pframe : ∀ i v h h', P i v h → Sm fp h h' → P i v h'
  item : ∀ i (s : Shared) (Q : Option Value → Shared → Prop) (E : Value → Shared → Prop), i < n → St i s.heap →
    (∀ v h' tk, P i v h' → St (i + 1) h' → (∀ b o, b ∉ wr → s.heap.get? b = some o → h'.get? b = some o) → Q (some v) { s with heap := h', toks := tk }) → wpAny (model prog w) A (pyNext (.ref I)) Q E s
  done : ∀ (s : Shared) (Q : Option Value → Shared → Prop) (E : Value → Shared → Prop), St n s.heap →
    (∀ h' tk, (∀ b o, b ∉ wr → s.heap.get? b = some o → h'.get? b = some o) → Q none { s with heap := h', toks := tk }) → wpAny (model prog w) A (pyNext (.ref I)) Q E s
  self : ∀ i (s : Shared) (Q : Value → Shared → Prop) (E : Value → Shared → Prop), St i s.heap → Q (.ref I) s → wpAny (model prog w) A (pyIter (.ref I)) Q E s
theorem Outer.ofWalks {prog : Program} {w : World} {A : Around} {I : Addr} {fp wr : List Addr} {n : Nat} {P : Nat → Value → Prop} {St : Nat → Heap → Prop} (W : Walks prog w A I fp wr n P St) :
    Outer prog w A I fp wr n (fun i v _ => P i v) St where
  sub := W.sub
  frame := fun i h h' st x => W.frame i h h' st fun b hb o e => x b o (.inl hb) e
  pframe := fun _ _ _ _ p _ => p
  item := fun i s Q E hi st hQ => W.item i s Q E hi st fun v h' tk p st' k => hQ v h' tk p st' k
  done := W.done
  self := W.self
inductive Pairs (G : Value → Value → Prop) : List Value → List Value → Prop
  | nil : Pairs G [] []
  | cons {u z us zs} : G u z → Pairs G us zs → Pairs G (u :: us) (z :: zs)
theorem Pairs.snoc {G : Value → Value → Prop} {us zs : List Value} {u z : Value} (h : Pairs G us zs) (g : G u z) : Pairs G (us ++ [u]) (zs ++ [z]) := by
  induction h with
  | nil => exact .cons g .nil
  | cons a _ ih => exact .cons a ih
theorem Pairs.length {G : Value → Value → Prop} {us zs : List Value} (h : Pairs G us zs) : zs.length = us.length := by
  induction h with
  | nil => rfl
  | cons a _ ih => simp [ih]
theorem news_upd {h₀ h h' : Heap} {L D : Addr} {news : List (Addr × Obj)} (N : News h₀ L h news) (hs : ∀ b o, b ≠ D → h.get? b = some o → h'.get? b = some o) (off : ∀ p ∈ news, p.1 ≠ D) : News h₀ L h' news :=
  fun p hp => ⟨hs _ _ (off p hp) (N p hp).1, (N p hp).2⟩
section
variable {prog : Program} {w : World} {A : Around} {R : Result → Shared → Prop} {s : Shared} {h₀ : Heap} {L : Addr} {m : Str → Option Value} {env : Env}
theorem inner_all {elt t1 i1 i2 : PySem.Expr} {x y : Str} {py : Pos} {scope : Scope} {cl : List (Str × Addr)} {pos : Pos} {C D J l : Addr} {its ys : List Value} {v : Value} {G : Value → Value → Prop} {mC : Str → Option Value}
    {news : List (Addr × Obj)} {fp : List Addr} {St2 : Nat → Heap → Prop}
    (W2 : Walks prog w A J [J, l] [J] its.length (fun j u => its[j]? = some u) St2) (hJo : ∀ j h, St2 j h → ∃ o, h.get? J = some o ∧ ¬ TupObj o) (hst : St2 0 s.heap)
    (hyx : y ≠ x) (hx : scope.names.lookup y = some .local) (hkind : scope.kind = .function)
    (hJC : J ≠ C) (hJD : J ≠ D) (hlC : l ≠ C) (hlD : l ≠ D) (hCD : C ≠ D) (hCL : C ≠ L) (hDL : D ≠ L) (hJL : J ≠ L) (hC₀ : h₀.get? C = none) (hD₀ : h₀.get? D = none) (hJ₀ : h₀.get? J = none)
    (hCf : C ∉ fp) (hDf : D ∉ fp) (hJf : J ∉ fp) (offC : ∀ p ∈ news, p.1 ≠ C) (offD : ∀ p ∈ news, p.1 ≠ D) (offJ : ∀ p ∈ news, p.1 ≠ J)
    (F : Fr h₀ L s.heap m) (N : News h₀ L s.heap ((D, LCg.lst ys) :: news)) (hn : s.heap.Ns C mC) (hv : mC x = some v) (hsz : ys.length + its.length ≤ sizeLine)
    (helt : ∀ (E' : Value → Shared → Prop) (u : Value) (s' : Shared) (m₂ : Str → Option Value), u ∈ its → s'.heap.Ns C m₂ → m₂ x = some v → m₂ y = some u → Fr h₀ L s'.heap m → News h₀ L s'.heap news →
      wpAny (model prog w) A (eval elt (compEnvC scope cl C env)) (fun z s'' => G u z ∧ Keeps s' s'') E' s')
    (hR : ∀ h' tk zs m', Pairs G its zs → Fr h₀ L h' m → News h₀ L h' ((D, LCg.lst (ys ++ zs)) :: news) → h'.Ns C m' → Sm fp s.heap h' → R (.ok .next) { s with heap := h', toks := tk }) :
    codeAny (model prog w) A (.compStart (.ListComp elt [⟨t1, i1, [], 0⟩, ⟨.Name y py, i2, [], 0⟩] scope pos) 1 (.ref J) (.ref D) (compEnvC scope cl C env)) R s := by
  have loop : codeAny (model prog w) A (.compLoop (.ListComp elt [⟨t1, i1, [], 0⟩, ⟨.Name y py, i2, [], 0⟩] scope pos) 1 (.ref J) (.ref D) (compEnvC scope cl C env)) R s := by
    refine compLoop_two1
      (fun k s' => ∃ h' tk j zs m', s' = { s with heap := h', toks := tk } ∧ j ≤ its.length ∧ k = its.length + 1 - j ∧ Pairs G (its.take j) zs ∧ St2 j h' ∧ Fr h₀ L h' m ∧ h'.Ns C m' ∧ m' x = some v ∧
        News h₀ L h' ((D, LCg.lst (ys ++ zs)) :: news) ∧ Sm fp s.heap h') ?_ (its.length + 1)
      ⟨s.heap, s.toks, 0, [], mC, rfl, Nat.zero_le _, rfl, by rw [List.take_zero]; exact .nil, hst, F, hn, hv, by rw [List.append_nil]; exact N, .refl⟩ (fun _ => rfl)
    rintro k s' ⟨h', tk, j, zs, m', rfl, hj, rfl, hP, hst', F', hn', hv', N', S'⟩
    by_cases hlt : j < its.length
    · refine W2.item j _ _ _ hlt hst' fun u h₂ tk₂ hu hst₂ hk₂ => ?_
      obtain ⟨oJ, eJ, nJ⟩ := hJo _ _ hst'
      have hn₂ : h₂.Ns C m' := hn'.at' fun o e => hk₂ _ o (by simpa using Ne.symm hJC) e
      have S₂ : Sm fp s.heap h₂ := S'.trans (Sm.but hJf eJ nJ fun b o hb e => hk₂ b o (by simpa using hb) e)
      have N₂ : News h₀ L h₂ ((D, LCg.lst (ys ++ zs)) :: news) := news_upd N' (fun b o hb e => hk₂ b o (by simpa using hb) e) (List.forall_mem_cons.mpr ⟨Ne.symm hJD, offJ⟩)
      have F₂ : Fr h₀ L h₂ m := LCg.fr_but F' hk₂ (Ne.symm hJL) hJ₀
      refine wpAny_assign_Name (wpAny_storeName_local (lookup_relabel_local hx) hn₂ (fun h₃ hn₃ hs₃ => ?_) (by simp [compEnvC, relabel, hkind]))
      replace hs₃ : Heap.SameBut C h₂ h₃ := hs₃
      obtain ⟨oC, eC, nC⟩ := ns_not_tup hn₂
      have S₃ : Sm fp s.heap h₃ := S₂.trans (Sm.but hCf eC nC fun b o hb e => hs₃.extBut b o hb e)
      have N₃ : News h₀ L h₃ ((D, LCg.lst (ys ++ zs)) :: news) := news_upd N₂ (fun b o hb e => hs₃.extBut b o hb e) (List.forall_mem_cons.mpr ⟨Ne.symm hCD, offC⟩)
      have F₃ : Fr h₀ L h₃ m := F₂.change hs₃ hCL hC₀
      have hst₃ : St2 (j + 1) h₃ := W2.frame _ _ _ hst₂ fun b hb o e => hs₃.extBut b o (by rcases List.mem_cons.mp hb with rfl | hb; exact hJC; rw [List.mem_singleton.mp hb]; exact hlC) e
      refine wpAny_mono (helt _ u _ _ (List.mem_of_getElem? hu) hn₃ ((if_neg (Ne.symm hyx)).trans hv') (if_pos rfl) F₃ (fun p hp => N₃ p (.tail _ hp))) (fun z s₄ h₄ => ?_) fun _ _ e => e
      obtain ⟨g, h₄, tk₄, rfl, k₄⟩ := h₄
      have zD := k₄ _ _ (N₃ (D, LCg.lst (ys ++ zs)) (.head _)).1
      have hz := hP.length
      rw [List.length_take, Nat.min_eq_left hj] at hz
      refine append_at (hsz := by show (ys ++ zs).toArray.size ≤ sizeLine; rw [List.size_toArray, List.length_append]; omega) zD fun h₅ hs₅ hD₅ => ?_
      replace hs₅ : Heap.SameBut D h₄ h₅ := hs₅
      have N₄ : News h₀ L h₄ ((D, LCg.lst (ys ++ zs)) :: news) := fun p hp => ⟨k₄ _ _ (N₃ p hp).1, (N₃ p hp).2⟩
      refine ⟨its.length + 1 - (j + 1), by omega, h₅, tk₄, j + 1, zs ++ [z], (fun q => if q = y then some u else m' q), rfl, hlt, rfl, ?_, ?_, ?_, ?_, (if_neg (Ne.symm hyx)).trans hv', ?_, ?_⟩
      · have : its.take (j + 1) = its.take j ++ [u] := by rw [List.take_succ, hu]; rfl
        rw [this]; exact hP.snoc g
      · exact W2.frame _ _ _ hst₃ fun b hb o e => hs₅.extBut b o (by rcases List.mem_cons.mp hb with rfl | hb; exact hJD; rw [List.mem_singleton.mp hb]; exact hlD) (k₄ _ _ e)
      · exact (F₃.keeps k₄).change hs₅ hDL hD₀
      · exact (hn₃.at' fun o e => hs₅.extBut _ _ hCD (k₄ _ _ e))
      · intro p hp
        rcases List.mem_cons.mp hp with rfl | hp
        · refine ⟨hD₅.trans (congrArg some ?_), hDL, hD₀⟩
          rw [← List.append_assoc]
          exact LCg.lst_snoc (ys ++ zs) z
        · exact ⟨hs₅.extBut _ _ (offD p hp) (N₄ p (.tail _ hp)).1, (N₄ p (.tail _ hp)).2⟩
      · exact S₃.trans (Sm.trans (Sm.of k₄) (Sm.but hDf zD not_tup_lst fun b o hb e => hs₅.extBut b o hb e))
    · obtain rfl : j = its.length := Nat.le_antisymm hj (Nat.not_lt.mp hlt)
      obtain ⟨oJ, eJ, nJ⟩ := hJo _ _ hst'
      refine W2.done _ _ _ hst' fun h₂ tk₂ hk₂ => ?_
      rw [List.take_length] at hP
      exact hR h₂ tk₂ zs m' hP (LCg.fr_but F' hk₂ (Ne.symm hJL) hJ₀) (news_upd N' (fun b o hb e => hk₂ b o (by simpa using hb) e) (List.forall_mem_cons.mpr ⟨Ne.symm hJD, offJ⟩))
        (hn'.at' fun o e => hk₂ _ o (by simpa using Ne.symm hJC) e) (S'.trans (Sm.but hJf eJ nJ fun b o hb e => hk₂ b o (by simpa using hb) e))
  exact compStart_two1 loop (W2.self 0 _ _ _ hst loop)
end
end
theorem calm_comp2c : True := by w_top off; exact True.intro
section
theorem fr_wr {h₀ h h' : Heap} {L : Addr} {wr : List Addr} {m : Str → Option Value} (F : Fr h₀ L h m) (hk : ∀ b o, b ∉ wr → h.get? b = some o → h'.get? b = some o) (hw : ∀ b ∈ wr, h₀.get? b = none ∧ b ≠ L) : Fr h₀ L h' m :=
  ⟨F.ns.at' fun o e => hk L o (fun x => (hw L x).2 rfl) e, fun b o e => hk b o (fun hm => by rw [(hw b hm).1] at e; cases e) (F.keep b o e), F.above⟩
theorem news_wr {h₀ h h' : Heap} {L : Addr} {wr : List Addr} {news : List (Addr × Obj)} (N : News h₀ L h news) (hk : ∀ b o, b ∉ wr → h.get? b = some o → h'.get? b = some o) (off : ∀ p ∈ news, p.1 ∉ wr) : News h₀ L h' news :=
  fun p hp => ⟨hk _ _ (off p hp) (N p hp).1, (N p hp).2⟩
def SubSrc (news : List (Addr × Obj)) (h : Heap) (l : Addr) (its : List Value) : Prop := h.IsTuple l its.toArray ∨ ∃ k, (l, ({ cls := .type "list", data := .seq its.toArray k } : Obj)) ∈ news
structure TwoSrc (prog : Program) (w : World) (A : Around) (h₀ : Heap) (L : Addr) (m : Str → Option Value) (env : Env) (elt : PySem.Expr) (x : Str) (i2 : PySem.Expr) (y : Str) (scope : Scope) (cl : List (Str × Addr)) (news : List (Addr × Obj)) (s₂ : Shared)
    (I : Addr) (fp wr : List Addr) (n : Nat) (P : Nat → Value → Heap → Prop) (St : Nat → Heap → Prop) (Inv : Nat → List Value → Prop) (IR : Nat → Value → List Value → Prop) (G : Value → Value → Value → Prop) : Prop where
  W : Outer prog w A I fp wr n P St
  st : St 0 s₂.heap
  fpl : ∀ b ∈ fp, b < s₂.heap.objs.size
  wrl : ∀ b ∈ wr, h₀.get? b = none ∧ b ≠ L
  off : ∀ p ∈ news, p.1 ∉ wr
  F : Fr h₀ L s₂.heap m
  N : News h₀ L s₂.heap news
  i0 : Inv 0 []
  i1 : ∀ i v ys its zs, i < n → Inv i ys → IR i v its → Pairs (G v) its zs → Inv (i + 1) (ys ++ zs)
  sz : ∀ i v ys its, i < n → Inv i ys → IR i v its → ys.length + its.length ≤ sizeLine
  sub : ∀ C i v s' mC (E' : Value → Shared → Prop), i < n → P i v s'.heap → s'.heap.Ns C mC → mC x = some v → Fr h₀ L s'.heap m → News h₀ L s'.heap news →
    wpAny (model prog w) A (eval i2 (compEnvC scope cl C env)) (fun xv s'' => Keeps s' s'' ∧ ∃ l its, xv = .ref l ∧ IR i v its ∧ SubSrc news s''.heap l its) E' s'
  elt : ∀ C i v its u s' m₂ (E' : Value → Shared → Prop), i < n → IR i v its → u ∈ its → s'.heap.Ns C m₂ → m₂ x = some v → m₂ y = some u → Fr h₀ L s'.heap m → News h₀ L s'.heap news →
    wpAny (model prog w) (A.mark none) (eval elt (compEnvC scope cl C env)) (fun z s'' => G v u z ∧ Keeps s' s'') E' s'
section
variable {prog : Program} {w : World} {A : Around} {E : Value → Shared → Prop} {s : Shared} {h₀ : Heap} {L : Addr} {m : Str → Option Value} {env : Env}
theorem block_two {elt i1 i2 : PySem.Expr} {x y : Str} {px py : Pos} {scope : Scope} {cl : List (Str × Addr)} {pos : Pos} {s₂ : Shared} {I : Addr} {fp wr : List Addr} {n : Nat} {P : Nat → Value → Heap → Prop} {St : Nat → Heap → Prop}
    {Inv : Nat → List Value → Prop} {IR : Nat → Value → List Value → Prop} {G : Value → Value → Value → Prop} {news : List (Addr × Obj)} {RR : Value → Addr → Result → Shared → Prop}
    (T : TwoSrc prog w A h₀ L m env elt x i2 y scope cl news s₂ I fp wr n P St Inv IR G) (hh : (A.mark none).handled = none)
    (hcell : ∀ y ∈ scope.names, y.2 ≠ .cell) (hkind : scope.kind = .function) (hx : scope.names.lookup x = some .local) (hy : scope.names.lookup y = some .local) (hyx : y ≠ x) (hf : ∀ C v, foldedSetIterable i2 (compEnvC scope cl C env) v = pure v)
    (hRR : ∀ D C h tk m' ys, Inv n ys → Fr h₀ L h m → News h₀ L h ((D, LCg.lst ys) :: news) → (∀ p ∈ news, p.1 ≠ D) → h.Ns C m' → h₀.get? C = none → h₀.get? D = none → C ≠ L → D ≠ L → C ≠ D → (∀ p ∈ news, p.1 ≠ C) → RR (.ref D) C (.ok .next) { s₂ with heap := h, toks := tk }) :
    wpAny (model prog w) A (newList []) (fun acc s₃ => wpAny (model prog w) A (newFunctionEnv scope env.globals cl [] env.qual none .none (some env)) (fun cenv s₄ =>
      codeAny (model prog w) A (.compStart (.ListComp elt [⟨.Name x px, i1, [], 0⟩, ⟨.Name y py, i2, [], 0⟩] scope pos) 0 (.ref I) acc { cenv with scope := relabel scope env }) (RR acc cenv.locals) s₄) E s₃) E s₂ := by
  obtain ⟨W, hst, hfp, hwr, off, F, N, I0, I1, hsz, hsub, helt⟩ := T
  refine wpAny_newObj_type (wpAny_newFunctionEnv hcell (by intro y hy; simp at hy) (fun h₁ hns₁ hsb₁ => ?_) hkind)
  dsimp only at hns₁ hsb₁ ⊢
  generalize hH2 : s₂.heap.push { cls := .type "list", dict := none, data := .seq ([] : List Value).toArray } = H2 at hns₁ hsb₁ ⊢
  have hC : H2.objs.size = s₂.heap.objs.size + 1 := by rw [← hH2, Heap.size_push]
  have hDC : s₂.heap.objs.size ≠ H2.objs.size := by rw [hC]; exact Nat.ne_of_lt (Nat.lt_succ_self _)
  have below : ∀ b, b < s₂.heap.objs.size → b ≠ H2.objs.size ∧ b ≠ s₂.heap.objs.size := fun b hb => ⟨by rw [hC]; exact Nat.ne_of_lt (Nat.lt_succ_of_lt hb), Nat.ne_of_lt hb⟩
  have hDf : s₂.heap.objs.size ∉ fp := fun hm => Nat.lt_irrefl _ (hfp _ hm)
  have hCf : H2.objs.size ∉ fp := fun hm => by have := hfp _ hm; rw [hC] at this; exact Nat.lt_irrefl _ (Nat.lt_of_succ_lt this)
  have hDw : s₂.heap.objs.size ∉ wr := fun hm => hDf (W.sub _ hm)
  have hCw : H2.objs.size ∉ wr := fun hm => hCf (W.sub _ hm)
  have old : ∀ b o, s₂.heap.get? b = some o → h₁.get? b = some o := fun b o e => hsb₁.extBut b o (below b (Heap.lt_size e)).1 (Heap.get?_push_of_some _ (hH2 ▸ Heap.get?_push_of_some _ e))
  have hacc : h₁.get? s₂.heap.objs.size = some (LCg.lst []) := hsb₁.extBut _ _ hDC (Heap.get?_push_of_some _ (hH2 ▸ Heap.get?_push_size _ rfl))
  have hst₁ : St 0 h₁ := W.frame _ _ _ hst (Sm.of old)
  have fresh : ∀ a, s₂.heap.objs.size ≤ a → s₂.heap.get? a = none := fun a ha => by
    cases e : s₂.heap.get? a with
    | none => rfl
    | some o' => exact absurd (Heap.lt_size e) (Nat.not_lt.mpr ha)
  have fresh₀ : ∀ a, s₂.heap.objs.size ≤ a → h₀.get? a = none := fun a ha => by
    cases e : h₀.get? a with
    | none => rfl
    | some o' => have := F.keep a o' e; rw [fresh a ha] at this; cases this
  have hD₀ : h₀.get? s₂.heap.objs.size = none := fresh₀ _ (Nat.le_refl _)
  have hC₀ : h₀.get? H2.objs.size = none := fresh₀ _ (by rw [hC]; exact Nat.le_succ _)
  have hLlt : L < s₂.heap.objs.size := F.ns.lt
  have hDL : s₂.heap.objs.size ≠ L := Ne.symm (below L hLlt).2
  have hCL : H2.objs.size ≠ L := Ne.symm (below L hLlt).1
  have offD : ∀ p ∈ news, p.1 ≠ s₂.heap.objs.size := fun p hp => (below _ (Heap.lt_size (N p hp).1)).2
  have offC : ∀ p ∈ news, p.1 ≠ H2.objs.size := fun p hp => (below _ (Heap.lt_size (N p hp).1)).1
  have loop : ∀ s₃ : Shared, s₃ = { s₂ with heap := h₁, toks := s₂.toks + ([] : List (Str × Value)).length } →
      codeAny (model prog w) A (.compLoop (.ListComp elt [⟨.Name x px, i1, [], 0⟩, ⟨.Name y py, i2, [], 0⟩] scope pos) 0 (.ref I) (.ref s₂.heap.objs.size) (compEnvC scope cl H2.objs.size env))
        (RR (.ref s₂.heap.objs.size) H2.objs.size) s₃ := by
    rintro s₃ rfl
    refine compLoop_two0
      (fun k s' => ∃ h' tk i ys m', s' = { s₂ with heap := h', toks := tk } ∧ i ≤ n ∧ k = n + 1 - i ∧ Inv i ys ∧ St i h' ∧ Fr h₀ L h' m ∧ h'.Ns H2.objs.size m' ∧ News h₀ L h' ((s₂.heap.objs.size, LCg.lst ys) :: news)) ?_ (n + 1)
      ⟨h₁, _, 0, [], _, rfl, Nat.zero_le _, rfl, I0, hst₁, F.keeps old, hns₁, fun p hp => ?_⟩ (fun _ => rfl) (hf _)
    · rintro k s' ⟨h', tk, i, ys, m', rfl, hi, rfl, hI, hst', F', hn', N'⟩
      by_cases hlt : i < n
      · refine W.item i _ _ _ hlt hst' fun v h₂ tk₂ hPv hst₂ hk₂ => ?_
        refine wpAny_assign_Name (wpAny_storeName_local (lookup_relabel_local hx) (hn'.at' fun o e => hk₂ _ o hCw e) (fun h₃ hn₃ hs₃ => ?_) (by simp [compEnvC, relabel, hkind]))
        replace hs₃ : Heap.SameBut H2.objs.size h₂ h₃ := hs₃
        obtain ⟨oC, eC, nC⟩ := ns_not_tup (hn'.at' fun o e => hk₂ _ o hCw e)
        have S₃ : Sm fp h₂ h₃ := Sm.but hCf eC nC fun b o hb e => hs₃.extBut b o hb e
        have F₃ : Fr h₀ L h₃ m := (fr_wr F' hk₂ hwr).change hs₃ hCL hC₀
        have N₂ : News h₀ L h₂ ((s₂.heap.objs.size, LCg.lst ys) :: news) := news_wr N' hk₂ (List.forall_mem_cons.mpr ⟨hDw, off⟩)
        have N₃ : News h₀ L h₃ ((s₂.heap.objs.size, LCg.lst ys) :: news) := news_upd N₂ (fun b o hb e => hs₃.extBut b o hb e) (List.forall_mem_cons.mpr ⟨hDC, offC⟩)
        refine wpAny_mono (hsub _ i v _ _ _ hlt (W.pframe _ _ _ _ hPv S₃) hn₃ (if_pos rfl) F₃ (fun p hp => N₃ p (.tail _ hp))) (fun xv s₄ h₄ => ?_) fun _ _ e => e
        obtain ⟨⟨h₄, tk₄, rfl, k₄⟩, l, its, rfl, hIR, hsrc⟩ := h₄
        replace k₄ : ∀ b o, h₃.get? b = some o → h₄.get? b = some o := k₄
        replace hsrc : SubSrc news h₄ l its := hsrc
        have F₄ : Fr h₀ L h₄ m := F₃.keeps k₄
        have N₄ : News h₀ L h₄ ((s₂.heap.objs.size, LCg.lst ys) :: news) := N₃.grown k₄
        have hn₄ : h₄.Ns H2.objs.size _ := hn₃.keeps k₄
        have hst₄ : St (i + 1) h₄ := W.frame _ _ _ hst₂ (S₃.trans (Sm.of k₄))
        obtain ⟨oC4, eC4, nC4⟩ := ns_not_tup hn₄
        have zD := (N₄ (s₂.heap.objs.size, LCg.lst ys) (.head _)).1
        have hJC : h₄.objs.size ≠ H2.objs.size := Nat.ne_of_gt (Heap.lt_size eC4)
        have hJD : h₄.objs.size ≠ s₂.heap.objs.size := Nat.ne_of_gt (Heap.lt_size zD)
        have hJL : h₄.objs.size ≠ L := Nat.ne_of_gt F₄.ns.lt
        have hJ₀ : h₀.get? h₄.objs.size = none := by
          cases e : h₀.get? h₄.objs.size with
          | none => rfl
          | some o' => exact absurd (Heap.lt_size (F₄.keep _ _ e)) (Nat.lt_irrefl _)
        have hle : s₂.heap.objs.size ≤ h₄.objs.size := Nat.le_of_lt (Heap.lt_size zD)
        have hJf : h₄.objs.size ∉ fp := fun hm => Nat.lt_irrefl _ (Nat.lt_of_lt_of_le (hfp _ hm) hle)
        have offJ : ∀ p ∈ news, p.1 ≠ h₄.objs.size := fun p hp => Nat.ne_of_lt (Heap.lt_size (N₄ p (.tail _ hp)).1)
        have up : ∀ (o : Obj) b o', h₄.get? b = some o' → (h₄.push o).get? b = some o' := fun _ _ _ e => Heap.get?_push_of_some _ e
        have fin : ∀ (o : Obj) (St2 : Nat → Heap → Prop), (∀ A' : Around, A'.handled = none → Walks prog w A' h₄.objs.size [h₄.objs.size, l] [h₄.objs.size] its.length (fun j u => its[j]? = some u) St2) → (∀ j h, St2 j h → ∃ o, h.get? h₄.objs.size = some o ∧ ¬ TupObj o) → St2 0 (h₄.push o) →
            l ≠ H2.objs.size → l ≠ s₂.heap.objs.size → ∀ (R' : Result → Shared → Prop), (∀ f s₅, (∃ k', k' < n + 1 - i ∧ ∃ h' tk i ys m', s₅ = { s₂ with heap := h', toks := tk } ∧ i ≤ n ∧ k' = n + 1 - i ∧ Inv i ys ∧ St i h' ∧ Fr h₀ L h' m ∧ h'.Ns H2.objs.size m' ∧ News h₀ L h' ((s₂.heap.objs.size, LCg.lst ys) :: news)) → R' (.ok f) s₅) →
            codeAny (model prog w) (A.mark none) (.compStart (.ListComp elt [⟨.Name x px, i1, [], 0⟩, ⟨.Name y py, i2, [], 0⟩] scope pos) 1 (.ref h₄.objs.size) (.ref s₂.heap.objs.size) (compEnvC scope cl H2.objs.size env)) R' { s₂ with heap := h₄.push o, toks := tk₄ } := by
          intro o St2 W2 hJo hst2 hlC hlD R' hR'
          refine inner_all (G := G v) (W2 _ hh) hJo hst2 hyx hy hkind hJC hJD hlC hlD (Ne.symm hDC) hCL hDL hJL hC₀ hD₀ hJ₀ hCf hDf hJf offC offD offJ (F₄.push _) (N₄.grown (up o)) (hn₄.keeps (up o)) (if_pos rfl) (hsz i v ys its hlt hI hIR)
            (fun E' u s' m₂ hu a1 a2 a3 a4 a5 => helt _ i v its u s' m₂ E' hlt hIR hu a1 a2 a3 a4 a5) (fun h₅ tk₅ zs m₅ hP F₅ N₅ n₅ S₅ => ?_)
          refine hR' _ _ ⟨n + 1 - (i + 1), by omega, h₅, tk₅, i + 1, ys ++ zs, m₅, rfl, hlt, rfl, I1 i v ys its zs hlt hI hIR hP, ?_, F₅, n₅, N₅⟩
          exact W.frame _ _ _ hst₄ ((Sm.of (up o)).trans S₅)
        rcases hsrc with ht | ⟨kl, hm⟩
        · have hlt4 : l < h₄.objs.size := by obtain ⟨_, e, _⟩ := ht; exact Heap.lt_size e
          have hlC : l ≠ H2.objs.size := by
            rintro rfl
            obtain ⟨o, e, c, k, d⟩ := ht
            rw [eC4] at e; cases e
            exact nC4 ⟨c, _, k, d⟩
          have hlD : l ≠ s₂.heap.objs.size := by
            rintro rfl
            obtain ⟨o, e, c, k, d⟩ := ht
            rw [zD] at e; cases e
            exact not_tup_lst ⟨c, _, k, d⟩
          refine wpAny_pyIter_tuple ht ?_
          refine fin _ (fun i h => h.IsTupleIter h₄.objs.size l i ∧ h.IsTuple l its.toArray) (fun A' hA => ?_) (fun j h st => ?_) ⟨?_, ht.push _⟩ hlC hlD
          · have := Walks.tuple (prog := prog) (w := w) hA h₄.objs.size l (Nat.ne_of_lt hlt4) its.toArray
            simpa using this
          · obtain ⟨o, e, c, d⟩ := st.1
            exact ⟨o, e, fun ⟨c', _⟩ => by rw [c] at c'; exact absurd (Value.type.inj c') (by decide)⟩
          · exact ⟨_, Heap.get?_push_size _ rfl, rfl, rfl⟩
        · have hl4 : h₄.IsList l its.toArray := ⟨_, (N₄ _ (.tail _ hm)).1, rfl, _, rfl⟩
          have hlt4 : l < h₄.objs.size := by obtain ⟨_, e, _⟩ := hl4; exact Heap.lt_size e
          refine wpAny_pyIter_list hl4 ?_
          refine fin _ (fun i h => h.IsListIter h₄.objs.size l i ∧ h.IsList l its.toArray) (fun A' hA => ?_) (fun j h st => ?_) ⟨?_, hl4.push _⟩ (offC _ hm) (offD _ hm)
          · have := Walks.list (prog := prog) (w := w) hA h₄.objs.size l (Nat.ne_of_lt hlt4) its.toArray
            simpa using this
          · obtain ⟨o, e, c, d⟩ := st.1
            exact ⟨o, e, fun ⟨c', _⟩ => by rw [c] at c'; exact absurd (Value.type.inj c') (by decide)⟩
          · exact ⟨_, Heap.get?_push_size _ rfl, rfl, rfl⟩
      · obtain rfl : i = n := Nat.le_antisymm hi (Nat.not_lt.mp hlt)
        refine W.done _ _ _ hst' fun h₂ tk₂ hk₂ => ?_
        exact hRR _ _ h₂ tk₂ _ ys hI (fr_wr F' hk₂ hwr) (news_wr N' hk₂ (List.forall_mem_cons.mpr ⟨hDw, off⟩)) offD (hn'.at' fun o e => hk₂ _ o hCw e) hC₀ hD₀ hCL hDL (Ne.symm hDC) offC
    · rcases List.mem_cons.mp hp with rfl | hp
      · exact ⟨hacc, hDL, hD₀⟩
      · exact ⟨old _ _ (N p hp).1, (N p hp).2⟩
  exact codeAny_compStart_list (loop _ rfl) (W.self 0 _ _ _ hst₁ (loop _ rfl))
end
end
theorem calm_zipd : True := by w_top off; exact True.intro
section
abbrev ZipAt (h : Heap) (z TI TO : Addr) (f0 f1 : Value) : Prop :=
  h.get? z = some { cls := .type "zip", dict := none, data := .fields #[f0, f1, .bool false, .ref TI, .ref TO], slots := #[] }
structure ZA (z TI TO i1 i2 : Addr) (fp1 fp2 : List Addr) : Prop where
  zTI : z ≠ TI
  zTO : z ≠ TO
  zi1 : z ≠ i1
  zi2 : z ≠ i2
  TITO : TI ≠ TO
  TIi1 : TI ≠ i1
  TIi2 : TI ≠ i2
  TOi1 : TO ≠ i1
  TOi2 : TO ≠ i2
  i12 : i1 ≠ i2
  zf1 : z ∉ fp1
  zf2 : z ∉ fp2
  Tf1 : TO ∉ fp1
  Tf2 : TO ∉ fp2
  if2 : i1 ∉ fp2
  if1 : i2 ∉ fp1
section
variable {prog : Program} {w : World} {A : Around} {E : Value → Shared → Prop} {s : Shared}
theorem wpAny_ifAlive {a : Addr} {o : Obj} {Q : Option Obj → Shared → Prop} (ho : s.heap.get? a = some o) (h : Q (some o) s) : wpAny (model prog w) A (loadIfAlive a) Q E s := fun Γ p _ => by
  show Q (s.heap.get? a) s
  rw [ho]; exact h
theorem zip_notFree {z TI TO T : Addr} {oT : Obj} {b1 : Bool} {Q : Bool → Shared → Prop} (hz : ZipAt s.heap z TI TO (rawInt T) (.bool b1)) (hT : s.heap.get? T = some oT)
    (h : ∀ h₁, ZipAt h₁ z TI TO (rawInt T) (.bool true) → h₁.objs.size = s.heap.objs.size → Heap.ExtBut z s.heap h₁ → Q false { s with heap := h₁ }) :
    wpAny (model prog w) A (Builtin.SmallTypes.ownedTupleIsFree (.ref z)) Q E s := by
  unfold Builtin.SmallTypes.ownedTupleIsFree
  refine wpAny_bind (wpAny_field hz rfl (x := rawInt T) rfl ?_)
  show wpAny _ _ (loadIfAlive (Int.toNat (T : Int)) >>= _) _ _ _
  rw [Int.toNat_natCast]
  refine wpAny_bind (wpAny_ifAlive hT ?_)
  rw [if_neg (show ¬ ((some oT).isNone = true) from Bool.false_ne_true)]
  refine wpAny_bind (wpAny_field hz rfl (x := .bool b1) rfl ?_)
  cases b1 with
  | true =>
    rw [if_neg (show ¬ ((Value.bool true != Value.bool true) = true) from by decide)]
    exact wpAny_pure (h _ hz rfl fun _ _ _ e => e)
  | false =>
    rw [if_pos (show ((Value.bool false != Value.bool true) = true) from by decide)]
    exact wpAny_bind (wpAny_setField_rec hz (by simp) fun h' hz' hs' => wpAny_pure (h h' hz' hs'.1 hs'.extBut))
theorem zipD_more {z TI TO i1 i2 T : Addr} {fp1 fp2 : List Addr} {n k : Nat} {P1 P2 : Nat → Value → Prop} {S1 S2 : Nat → Heap → Prop} {oT : Obj} {b1 : Bool} {Q : Value → Shared → Prop} (D : ZA z TI TO i1 i2 fp1 fp2)
    (D1 : Draws prog w A i1 fp1 n P1 S1) (D2 : Draws prog w A i2 fp2 n P2 S2)
    (hz : ZipAt s.heap z TI TO (rawInt T) (.bool b1)) (hTI : IsPair s.heap TI (.ref i1) (.ref i2)) (hT : s.heap.get? T = some oT)
    (h1 : S1 k s.heap) (h2 : S2 k s.heap) (hk : k < n)
    (hQ : ∀ h' tk x y, P1 k x → P2 k y → ZipAt h' z TI TO (rawInt T) (.bool true) → S1 (k + 1) h' → S2 (k + 1) h' → IsPair h' s.heap.objs.size x y → 
      (∀ c o, c ≠ z → c ≠ i1 → c ≠ i2 → s.heap.get? c = some o → h'.get? c = some o) → Q (.ref s.heap.objs.size) { s with heap := h', toks := tk }) :
    wpAny (model prog w) A (Builtin.«zip.__next__» ⟨[.ref z], []⟩) (fun fin s' => ∃ v, fin = .done (.ret v) ∧ Q v s') E s := by
  show wpAny _ _ (field (.ref z) 2 >>= _) _ _ _
  refine wpAny_bind (wpAny_field hz rfl (x := .bool false) rfl ?_)
  show wpAny _ _ (field (.ref z) 3 >>= _) _ _ _
  refine wpAny_bind (wpAny_field hz rfl (x := .ref TI) rfl ?_)
  refine wpAny_bind (wpAny_seqItems hTI rfl ?_)
  show wpAny _ _ (Builtin.SmallTypes.ownedTupleIsFree (.ref z) >>= _) _ _ _
  refine wpAny_bind (zip_notFree hz hT fun h₁ hz₁ hsz₁ hs₁ => ?_)
  rw [if_neg Bool.false_ne_true]
  show wpAny _ _ (forIn #[Value.ref i1, Value.ref i2] _ _ >>= _) _ _ _
  refine wpAny_bind ?_
  simp only [← Array.forIn_toList, List.forIn_cons, List.forIn_nil]
  have a1 : S1 k h₁ := D1.frame _ _ _ h1 fun b hb o e => hs₁ b o (fun q => D.zf1 (q ▸ hb)) e
  have a2 : S2 k h₁ := D2.frame _ _ _ h2 fun b hb o e => hs₁ b o (fun q => D.zf2 (q ▸ hb)) e
  refine wpAny_bind (wpAny_bind (wpAny_holding ?_))
  show wpAny _ _ (Builtin.SmallTypes.nextOf (.ref i1) >>= _) _ _ _
  refine wpAny_bind (D1.item k _ _ _ hk a1 fun x h₂ tk₂ p1 b1' hs₂ => wpAny_pure (wpAny_pure ?_))
  replace hs₂ : Heap.SameBut i1 h₁ h₂ := hs₂
  have a3 : S2 k h₂ := D2.frame _ _ _ a2 fun b hb o e => hs₂.extBut b o (fun q => D.if2 (q ▸ hb)) e
  refine wpAny_bind (wpAny_bind (wpAny_holding ?_))
  show wpAny _ _ (Builtin.SmallTypes.nextOf (.ref i2) >>= _) _ _ _
  refine wpAny_bind (D2.item k _ _ _ hk a3 fun y h₃ tk₃ p2 b2' hs₃ => wpAny_pure (wpAny_pure (wpAny_pure ?_)))
  replace hs₃ : Heap.SameBut i2 h₂ h₃ := hs₃
  have b3 : S1 (k + 1) h₃ := D1.frame _ _ _ b1' fun b hb o e => hs₃.extBut b o (fun q => D.if1 (q ▸ hb)) e
  have hsz : h₃.objs.size = s.heap.objs.size := by rw [hs₃.1, hs₂.1, hsz₁]
  show wpAny _ _ (newTuple [x, y] >>= fun v => ret v) _ _ _
  refine wpAny_bind (wpAny_newTuple ?_)
  show wpAny _ _ (ret (.ref h₃.objs.size)) _ _ _
  have up : ∀ (o : Obj) c o', h₃.get? c = some o' → (h₃.push o).get? c = some o' := fun _ _ _ e => Heap.get?_push_of_some _ e
  refine wpAny_pure ⟨_, rfl, ?_⟩
  rw [hsz]
  refine hQ (h₃.push _) tk₃ x y p1 p2 (up _ _ _ (hs₃.extBut _ _ D.zi2 (hs₂.extBut _ _ D.zi1 hz₁))) (D1.frame _ _ _ b3 fun b _ o e => up _ _ _ e) (D2.frame _ _ _ b2' fun b _ o e => up _ _ _ e) ?_ fun c o c1 c2 c3 e => up _ _ _ (hs₃.extBut _ _ c3 (hs₂.extBut _ _ c2 (hs₁ _ _ c1 e)))
  rw [← hsz]
  exact Heap.get?_push_size _ rfl
theorem zipD_end {z TI TO i1 i2 T : Addr} {fp1 fp2 : List Addr} {n : Nat} {P1 : Nat → Value → Prop} {S1 : Nat → Heap → Prop} {oT : Obj} {b1 : Bool} {Q : PySem.Fin → Shared → Prop} (D : ZA z TI TO i1 i2 fp1 fp2)
    (D1 : Draws prog w A.in1 i1 fp1 n P1 S1)
    (hz : ZipAt s.heap z TI TO (rawInt T) (.bool b1)) (hTI : IsPair s.heap TI (.ref i1) (.ref i2)) (hT : s.heap.get? T = some oT) (h1 : S1 n s.heap)
    (hE : ∀ h' e, (∀ c o, c ≠ z → c ≠ i1 → s.heap.get? c = some o → h'.get? c = some o) → (∃ o, h'.get? e = some o ∧ o.cls = .type "StopIteration") → E (.ref e) { s with heap := h' }) :
    wpAny (model prog w) A.in1 (Builtin.«zip.__next__» ⟨[.ref z], []⟩) Q E s := by
  show wpAny _ _ (field (.ref z) 2 >>= _) _ _ _
  refine wpAny_bind (wpAny_field hz rfl (x := .bool false) rfl ?_)
  show wpAny _ _ (field (.ref z) 3 >>= _) _ _ _
  refine wpAny_bind (wpAny_field hz rfl (x := .ref TI) rfl ?_)
  refine wpAny_bind (wpAny_seqItems hTI rfl ?_)
  show wpAny _ _ (Builtin.SmallTypes.ownedTupleIsFree (.ref z) >>= _) _ _ _
  refine wpAny_bind (zip_notFree hz hT fun h₁ hz₁ hsz₁ hs₁ => ?_)
  rw [if_neg Bool.false_ne_true]
  show wpAny _ _ (forIn #[Value.ref i1, Value.ref i2] _ _ >>= _) _ _ _
  refine wpAny_bind ?_
  simp only [← Array.forIn_toList, List.forIn_cons, List.forIn_nil]
  have a1 : S1 n h₁ := D1.frame _ _ _ h1 fun b hb o e => hs₁ b o (fun q => D.zf1 (q ▸ hb)) e
  refine wpAny_bind (wpAny_bind (wpAny_holding ?_))
  show wpAny _ _ (Builtin.SmallTypes.nextOf (.ref i1) >>= _) _ _ _
  exact wpAny_bind (D1.done _ _ _ a1 fun h₂ e hs₂ he => hE h₂ e (fun c o c1 c2 x => hs₂ _ _ c2 (hs₁ _ _ c1 x)) he)
theorem zipD_first {z TI TO i1 i2 : Addr} {fp1 fp2 : List Addr} {n k : Nat} {P1 P2 : Nat → Value → Prop} {S1 S2 : Nat → Heap → Prop} {a b : Value} {Q : Value → Shared → Prop} (D : ZA z TI TO i1 i2 fp1 fp2)
    (D1 : Draws prog w A i1 fp1 n P1 S1) (D2 : Draws prog w A i2 fp2 n P2 S2)
    (hz : ZipAt s.heap z TI TO .none (.bool false)) (hTI : IsPair s.heap TI (.ref i1) (.ref i2)) (hTO : IsPair s.heap TO a b)
    (h1 : S1 k s.heap) (h2 : S2 k s.heap) (hk : k < n)
    (hQ : ∀ h' tk x y, P1 k x → P2 k y → ZipAt h' z TI TO (rawInt s.heap.objs.size) (.bool false) → S1 (k + 1) h' → S2 (k + 1) h' → IsPair h' s.heap.objs.size x y → (∃ a b, IsPair h' TO a b) →
      (∀ c o, c ≠ z → c ≠ TO → c ≠ i1 → c ≠ i2 → s.heap.get? c = some o → h'.get? c = some o) → Q (.ref s.heap.objs.size) { s with heap := h', toks := tk }) :
    wpAny (model prog w) A (Builtin.«zip.__next__» ⟨[.ref z], []⟩) (fun fin s' => ∃ v, fin = .done (.ret v) ∧ Q v s') E s := by
  show wpAny _ _ (field (.ref z) 2 >>= _) _ _ _
  refine wpAny_bind (wpAny_field hz rfl (x := .bool false) rfl ?_)
  show wpAny _ _ (field (.ref z) 3 >>= _) _ _ _
  refine wpAny_bind (wpAny_field hz rfl (x := .ref TI) rfl ?_)
  refine wpAny_bind (wpAny_seqItems hTI rfl ?_)
  show wpAny _ _ (Builtin.SmallTypes.ownedTupleIsFree (.ref z) >>= _) _ _ _
  refine wpAny_bind ?_
  unfold Builtin.SmallTypes.ownedTupleIsFree
  refine wpAny_bind (wpAny_field hz rfl (x := .none) rfl (wpAny_pure ?_))
  simp only [if_true]
  refine wpAny_bind (wpAny_rule ?_)
  refine wpAny_bind (wpAny_field hz rfl (x := .ref TO) rfl ?_)
  refine wpAny_bind (wpAny_setField_rec hz (by simp) fun h₁ hz₁ hs₁ => ?_)
  replace hz₁ : ZipAt h₁ z TI TO .ellipsis (.bool false) := hz₁
  replace hs₁ : Heap.SameBut z s.heap h₁ := hs₁
  have a1 : S1 k h₁ := D1.frame _ _ _ h1 fun b hb o e => hs₁.extBut b o (fun q => D.zf1 (q ▸ hb)) e
  have a2 : S2 k h₁ := D2.frame _ _ _ h2 fun b hb o e => hs₁.extBut b o (fun q => D.zf2 (q ▸ hb)) e
  refine wpAny_bind ?_
  simp only [List.zipIdx_cons, List.zipIdx_nil, List.forIn_cons, List.forIn_nil]
  refine wpAny_bind (wpAny_bind (wpAny_onRaise ?_))
  show wpAny _ _ (Builtin.SmallTypes.nextOf (.ref i1) >>= _) _ _ _
  refine wpAny_bind (D1.item k _ _ _ hk a1 fun x h₂ tk₂ p1 b1' hs₂ => wpAny_pure ?_)
  replace hs₂ : Heap.SameBut i1 h₁ h₂ := hs₂
  have hTO₂ : IsPair h₂ TO a b := hs₂.extBut _ _ D.TOi1 (hs₁.extBut _ _ (Ne.symm D.zTO) hTO)
  refine wpAny_bind (wpAny_seqItems hTO₂ rfl ?_)
  refine wpAny_bind (wpAny_updateSeq_pair hTO₂ fun h₃ hTO₃ hs₃ => ?_)
  replace hTO₃ : IsPair h₃ TO x b := hTO₃
  replace hs₃ : Heap.SameBut TO h₂ h₃ := hs₃
  refine wpAny_bind (wpAny_letGo (wpAny_pure ?_))
  have a3 : S2 k h₃ := D2.frame _ _ _ a2 fun b hb o e => hs₃.extBut b o (fun q => D.Tf2 (q ▸ hb)) (hs₂.extBut b o (fun q => D.if2 (q ▸ hb)) e)
  refine wpAny_bind (wpAny_bind (wpAny_onRaise ?_))
  show wpAny _ _ (Builtin.SmallTypes.nextOf (.ref i2) >>= _) _ _ _
  refine wpAny_bind (D2.item k _ _ _ hk a3 fun y h₄ tk₄ p2 b2' hs₄ => wpAny_pure ?_)
  replace hs₄ : Heap.SameBut i2 h₃ h₄ := hs₄
  have hTO₄ : IsPair h₄ TO x b := hs₄.extBut _ _ D.TOi2 hTO₃
  refine wpAny_bind (wpAny_seqItems hTO₄ rfl ?_)
  refine wpAny_bind (wpAny_updateSeq_pair hTO₄ fun h₅ hTO₅ hs₅ => ?_)
  replace hTO₅ : IsPair h₅ TO x y := hTO₅
  replace hs₅ : Heap.SameBut TO h₄ h₅ := hs₅
  refine wpAny_bind (wpAny_letGo (wpAny_pure (wpAny_pure ?_)))
  refine wpAny_bind (wpAny_seqItems hTO₅ rfl ?_)
  refine wpAny_bind (wpAny_newTuple ?_)
  have hsz : h₅.objs.size = s.heap.objs.size := by rw [hs₅.1, hs₄.1, hs₃.1, hs₂.1, hs₁.1]
  have hz₅ : ZipAt h₅ z TI TO .ellipsis (.bool false) := hs₅.extBut _ _ D.zTO (hs₄.extBut _ _ D.zi2 (hs₃.extBut _ _ D.zTO (hs₂.extBut _ _ D.zi1 hz₁)))
  have hzlt : z < h₅.objs.size := Heap.lt_size hz₅
  have b4 : S1 (k + 1) h₅ := D1.frame _ _ _ b1' fun b hb o e => hs₅.extBut b o (fun q => D.Tf1 (q ▸ hb)) (hs₄.extBut b o (fun q => D.if1 (q ▸ hb)) (hs₃.extBut b o (fun q => D.Tf1 (q ▸ hb)) e))
  have b5 : S2 (k + 1) h₅ := D2.frame _ _ _ b2' fun b hb o e => hs₅.extBut b o (fun q => D.Tf2 (q ▸ hb)) e
  have hk₅ : ∀ c o, c ≠ z → c ≠ TO → c ≠ i1 → c ≠ i2 → s.heap.get? c = some o → h₅.get? c = some o := fun c o c1 c2 c3 c4 e =>
    hs₅.extBut _ _ c2 (hs₄.extBut _ _ c4 (hs₃.extBut _ _ c2 (hs₂.extBut _ _ c3 (hs₁.extBut _ _ c1 e))))
  show wpAny _ _ (Builtin.SmallTypes.ownedTupleHandOut (.ref z) (.ref h₅.objs.size) >>= _) _ _ _
  refine wpAny_bind ?_
  unfold Builtin.SmallTypes.ownedTupleHandOut
  have hz₆ : ZipAt (h₅.push { cls := .type "tuple", data := .seq #[x, y] }) z TI TO .ellipsis (.bool false) := Heap.get?_push_of_some _ hz₅
  refine wpAny_bind (wpAny_setField_rec hz₆ (by simp) fun h₇ hz₇ hs₇ => ?_)
  replace hz₇ : ZipAt h₇ z TI TO (rawInt h₅.objs.size) (.bool false) := hz₇
  replace hs₇ : Heap.SameBut z (h₅.push { cls := .type "tuple", data := .seq #[x, y] }) h₇ := hs₇
  refine wpAny_setField_rec hz₇ (by simp) fun h₈ hz₈ hs₈ => ?_
  replace hz₈ : ZipAt h₈ z TI TO (rawInt h₅.objs.size) (.bool false) := hz₈
  replace hs₈ : Heap.SameBut z h₇ h₈ := hs₈
  have up : ∀ c o, c ≠ z → h₅.get? c = some o → h₈.get? c = some o := fun c o c1 e => hs₈.extBut _ _ c1 (hs₇.extBut _ _ c1 (Heap.get?_push_of_some _ e))
  have hT₈ : IsPair h₈ h₅.objs.size x y := hs₈.extBut _ _ (Nat.ne_of_gt hzlt) (hs₇.extBut _ _ (Nat.ne_of_gt hzlt) (Heap.get?_push_size _ rfl))
  rw [hsz] at hz₈ hT₈
  refine wpAny_pure ⟨_, rfl, ?_⟩
  show Q (.ref h₅.objs.size) _
  rw [hsz]
  exact hQ h₈ _ x y p1 p2 hz₈ (D1.frame _ _ _ b4 fun b hb o e => up b o (fun q => D.zf1 (q ▸ hb)) e) (D2.frame _ _ _ b5 fun b hb o e => up b o (fun q => D.zf2 (q ▸ hb)) e) hT₈ ⟨x, y, up _ _ (Ne.symm D.zTO) hTO₅⟩ fun c o c1 c2 c3 c4 e => up c o c1 (hk₅ c o c1 c2 c3 c4 e)
end
end
theorem calm_zipe : True := by w_top off; exact True.intro
section
abbrev zG2 (h : Heap) (o1 o2 : Obj) : Heap := (h.push o1).push o2
abbrev zG3 (h : Heap) (o1 o2 : Obj) : Heap := (zG2 h o1 o2).push { cls := .type "tuple", data := .seq #[.ref h.objs.size, .ref (h.push o1).objs.size] }
abbrev zG4 (h : Heap) (o1 o2 : Obj) : Heap := (zG3 h o1 o2).push { cls := .type "tuple", data := .seq #[.none, .none] }
abbrev zG5 (h : Heap) (o1 o2 : Obj) : Heap := (zG4 h o1 o2).push { cls := .type "zip", data := .fields #[.none, .bool false, .bool false, .ref (zG2 h o1 o2).objs.size, .ref (zG3 h o1 o2).objs.size] }
abbrev strIt (x : Str) (t : Tok) : Obj := { cls := .type "str_ascii_iterator", data := .fields #[.str x t, .int 0 0] }
abbrev lstIt (l : Addr) : Obj := { cls := .type "list_iterator", data := .fields #[.ref l, .int 0 0] }
theorem meets_zip_strs (x y : Str) (t u : Tok) (hx : x.cps.all (· < 128) = true) (hy : y.cps.all (· < 128) = true) :
    Meets (Builtin.«zip.__new__» ⟨[.type "zip", .str x t, .str y u], []⟩) (fun _ R s => R (.ok (.ret (.ref (zG4 s.heap (strIt x t) (strIt y u)).objs.size))) { s with heap := zG5 s.heap (strIt x t) (strIt y u) }) :=
  .of_wp fun prog w A R s h => by
    obtain ⟨hp, g, d, tk, os⟩ := s
    show wpAny _ _ (Builtin.SmallTypes.newClass "zip" _ >>= _) _ _ _
    refine wpAny_bind ?_
    unfold Builtin.SmallTypes.newClass
    show wpAny _ _ (isType (.type "zip") >>= _) _ _ _
    refine wpAny_bind (wpAny_of_eq (a := true) rfl ?_)
    rw [if_neg (by decide)]
    refine wpAny_bind (wpAny_of_eq sub_zip ?_)
    rw [if_neg (by decide)]
    refine wpAny_pure ?_
    dsimp only
    rw [if_neg (show ¬ (([] : List (Str × Value)).length > 1) from by decide)]
    show wpAny _ _ (Builtin.SmallTypes.iterAll [.str x t, .str y u] >>= fun its => newTuple its >>= fun a => newTuple (its.map fun _ => .none) >>= fun b => Builtin.SmallTypes.newRecord (.type "zip") (Builtin.SmallTypes.ownedTupleFields ++ [.bool false, a, b]) >>= fun v => ret v) _ _ _
    refine wpAny_bind ?_
    unfold Builtin.SmallTypes.iterAll
    simp only [List.forIn_cons, List.forIn_nil]
    refine wpAny_bind (wpAny_bind (wpAny_bind (wpAny_holding (wpAny_pyIter_ascii hx (wpAny_pure (wpAny_bind (wpAny_bind (wpAny_holding (wpAny_pyIter_ascii hy (wpAny_pure (wpAny_pure (wpAny_pure ?_)))))))))))) 
    show wpAny _ _ (newTuple [.ref hp.objs.size, .ref (hp.push (strIt x t)).objs.size] >>= _) _ _ ⟨zG2 hp (strIt x t) (strIt y u), g, d, tk, os⟩
    refine wpAny_bind (wpAny_newTuple ?_)
    show wpAny _ _ (newTuple [.none, .none] >>= _) _ _ ⟨zG3 hp (strIt x t) (strIt y u), g, d, tk, os⟩
    refine wpAny_bind (wpAny_newTuple ?_)
    show wpAny _ _ (newObj (.type "zip") (.fields #[.none, .bool false, .bool false, .ref (zG2 hp (strIt x t) (strIt y u)).objs.size, .ref (zG3 hp (strIt x t) (strIt y u)).objs.size]) >>= _) _ _ ⟨zG4 hp (strIt x t) (strIt y u), g, d, tk, os⟩
    exact wpAny_bind (wpAny_newObj_type (wpAny_pure ⟨_, rfl, h⟩))
structure ZipNew (h h' : Heap) (o1 o2 : Obj) : Prop where
  z : ZipAt h' (h.objs.size + 4) (h.objs.size + 2) (h.objs.size + 3) .none (.bool false)
  TI : IsPair h' (h.objs.size + 2) (.ref h.objs.size) (.ref (h.objs.size + 1))
  TO : IsPair h' (h.objs.size + 3) .none .none
  g1 : h'.get? h.objs.size = some o1
  g2 : h'.get? (h.objs.size + 1) = some o2
  sz : h'.objs.size = h.objs.size + 5
  up : ∀ c o, h.get? c = some o → h'.get? c = some o
theorem zipNew {h : Heap} {o1 o2 : Obj} (f1 : o1.isFreed = false) (f2 : o2.isFreed = false) : ZipNew h (zG5 h o1 o2) o1 o2 := by
  have z1 : (h.push o1).objs.size = h.objs.size + 1 := Heap.size_push ..
  have z2 : (zG2 h o1 o2).objs.size = h.objs.size + 2 := by rw [Heap.size_push, z1]
  have z3 : (zG3 h o1 o2).objs.size = h.objs.size + 3 := by rw [Heap.size_push, z2]
  have z4 : (zG4 h o1 o2).objs.size = h.objs.size + 4 := by rw [Heap.size_push, z3]
  have z5 : (zG5 h o1 o2).objs.size = h.objs.size + 5 := by rw [Heap.size_push, z4]
  have g5 : (zG5 h o1 o2).get? (zG4 h o1 o2).objs.size = some _ := Heap.get?_push_size _ rfl
  have g4 : (zG5 h o1 o2).get? (zG3 h o1 o2).objs.size = some _ := Heap.get?_push_of_some _ (Heap.get?_push_size _ rfl)
  have g3 : (zG5 h o1 o2).get? (zG2 h o1 o2).objs.size = some _ := Heap.get?_push_of_some _ (Heap.get?_push_of_some _ (Heap.get?_push_size _ rfl))
  have g2 : (zG5 h o1 o2).get? (h.push o1).objs.size = some o2 := Heap.get?_push_of_some _ (Heap.get?_push_of_some _ (Heap.get?_push_of_some _ (Heap.get?_push_size _ f2)))
  have g1 : (zG5 h o1 o2).get? h.objs.size = some o1 := Heap.get?_push_of_some _ (Heap.get?_push_of_some _ (Heap.get?_push_of_some _ (Heap.get?_push_of_some _ (Heap.get?_push_size _ f1))))
  rw [z2, z3, z4] at g5
  rw [z1, z2] at g3
  rw [z3] at g4
  rw [z1] at g2
  exact ⟨g5, g3, g4, g1, g2, z5, fun c o x => Heap.get?_push_of_some _ (Heap.get?_push_of_some _ (Heap.get?_push_of_some _ (Heap.get?_push_of_some _ (Heap.get?_push_of_some _ x))))⟩
section
variable {prog : Program} {w : World} {A : Around} {E : Value → Shared → Prop} {s : Shared}
theorem call_zip_strs {x y : Str} {t u : Tok} {Q : Value → Shared → Prop} (hx : x.cps.all (· < 128) = true) (hy : y.cps.all (· < 128) = true)
    (h : ∀ h', ZipNew s.heap h' (strIt x t) (strIt y u) → Q (.ref (s.heap.objs.size + 4)) { s with heap := h' }) :
    wpAny (model prog w) A (call (.type "zip") [.str x t, .str y u]) Q E s := by
  refine callType_new F.called_zip (by decide) (F.typeCall_zip_2 _ _) (F.newCall_zip_2 _ _) (fun obj => F.args_object_init_3 obj _ _) F.entry_zip_new
    (meets_zip_strs x y t u hx hy) ?_
  have Z := zipNew (h := s.heap) (o1 := strIt x t) (o2 := strIt y u) rfl rfl
  have z4 : (zG4 s.heap (strIt x t) (strIt y u)).objs.size = s.heap.objs.size + 4 := by have := Z.sz; rw [Heap.size_push] at this; omega
  show _ ∧ _
  rw [z4]
  exact ⟨⟨_, Z.z, rfl⟩, h _ Z⟩
theorem call_zip_lsts {l1 l2 : Addr} {xs ys : Array Value} {Q : Value → Shared → Prop} (h1 : s.heap.IsList l1 xs) (h2 : s.heap.IsList l2 ys)
    (h : ∀ h', ZipNew s.heap h' (lstIt l1) (lstIt l2) → Q (.ref (s.heap.objs.size + 4)) { s with heap := h' }) :
    wpAny (model prog w) A (call (.type "zip") [.ref l1, .ref l2]) Q E s := by
  refine callType_new F.called_zip (by decide) (F.typeCall_zip_2 _ _) (F.newCall_zip_2 _ _) (fun obj => F.args_object_init_3 obj _ _) F.entry_zip_new
    (meets_zip_new l1 l2 xs ys) ⟨h1, h2, ?_⟩
  have Z := zipNew (h := s.heap) (o1 := lstIt l1) (o2 := lstIt l2) rfl rfl
  have z4 : (zG4 s.heap (lstIt l1) (lstIt l2)).objs.size = s.heap.objs.size + 4 := by have := Z.sz; rw [Heap.size_push] at this; omega
  show _ ∧ _
  show (∃ o, _ ∧ _) ∧ _
  have e : (zipH4 s.heap l1 l2).objs.size = s.heap.objs.size + 4 := z4
  rw [e]
  exact ⟨⟨_, Z.z, rfl⟩, h _ Z⟩
def ZSt (z TI TO i1 i2 : Addr) (S1 S2 : Nat → Heap → Prop) (i : Nat) (h : Heap) : Prop :=
  ((i = 0 ∧ ZipAt h z TI TO .none (.bool false)) ∨ (0 < i ∧ ∃ T oT b1, TupObj oT ∧ h.get? T = some oT ∧ T ≠ z ∧ T ≠ TO ∧ T ≠ i1 ∧ T ≠ i2 ∧ ZipAt h z TI TO (rawInt T) (.bool b1))) ∧ IsPair h TI (.ref i1) (.ref i2) ∧ (∃ a b, IsPair h TO a b) ∧ S1 i h ∧ S2 i h
def ZP (P1 P2 : Nat → Value → Prop) (i : Nat) (v : Value) (h : Heap) : Prop := ∃ T x y, v = .ref T ∧ h.IsTuple T #[x, y] ∧ P1 i x ∧ P2 i y
theorem pair_tup {x y : Value} : TupObj { cls := .type "tuple", data := .seq #[x, y] } := ⟨rfl, _, _, rfl⟩
theorem Outer.zip {z TI TO i1 i2 : Addr} {fp1 fp2 : List Addr} {n : Nat} {P1 P2 : Nat → Value → Prop} {S1 S2 : Nat → Heap → Prop} (D : ZA z TI TO i1 i2 fp1 fp2) (hn : 0 < n)
    (D1 : Draws prog w A.in1 i1 fp1 n P1 S1) (D2 : Draws prog w A.in1 i2 fp2 n P2 S2) :
    Outer prog w A z ([z, TI, TO, i1, i2] ++ fp1 ++ fp2) [z, TO, i1, i2] n (ZP P1 P2) (ZSt z TI TO i1 i2 S1 S2) where
  sub := fun b hb => by simp at hb ⊢; rcases hb with rfl | rfl | rfl | rfl <;> simp
  frame := fun i h h' st x => by
    obtain ⟨c, hTI, ⟨a, b, hTO⟩, h1, h2⟩ := st
    refine ⟨?_, x _ _ (.inl (by simp)) hTI, ⟨a, b, x _ _ (.inl (by simp)) hTO⟩, D1.frame _ _ _ h1 fun b hb o e => x b o (.inl (by simp [hb])) e, D2.frame _ _ _ h2 fun b hb o e => x b o (.inl (by simp [hb])) e⟩
    rcases c with ⟨rfl, hz⟩ | ⟨hi, T, oT, b1, t1, t2, n1, n2, n3, n4, hz⟩
    · exact .inl ⟨rfl, x _ _ (.inl (by simp)) hz⟩
    · exact .inr ⟨hi, T, oT, b1, t1, x _ _ (.inr t1) t2, n1, n2, n3, n4, x _ _ (.inl (by simp)) hz⟩
  pframe := fun i v h h' p x => by
    obtain ⟨T, a, b, rfl, ⟨o, e, c, k, d⟩, p1, p2⟩ := p
    exact ⟨T, a, b, rfl, ⟨o, x _ _ (.inr ⟨c, _, k, d⟩) e, c, k, d⟩, p1, p2⟩
  item := fun i s Q E hi st hQ => by
    obtain ⟨c, hTI, ⟨a, b, hTO⟩, h1, h2⟩ := st
    have new : ∀ {c o}, s.heap.get? c = some o → s.heap.objs.size ≠ c := fun e => Nat.ne_of_gt (Heap.lt_size e)
    have i1l : s.heap.objs.size ≠ i1 := by obtain ⟨o, e⟩ := D1.live _ _ h1; exact new e
    have i2l : s.heap.objs.size ≠ i2 := by obtain ⟨o, e⟩ := D2.live _ _ h2; exact new e
    rcases c with ⟨rfl, hz⟩ | ⟨hi0, T, oT, b1, t1, t2, n1, n2, n3, n4, hz⟩
    · have hT : s.TypeIs (.ref z) "zip" := ⟨_, hz, rfl⟩
      unfold pyNext
      refine wpAny_bind (wpAny_attempt (wpAny_callSpecial?_slot (name := Str.ofString "__next__") hT F.slot_zip_next
        (wpAny_call_entry F.slot_zip_next hT F.entry_zip_next
          (zipD_first D D1 D2 hz hTI hTO h1 h2 hi fun h' tk x y p1 p2 a1 a2 a3 a4 a5 k => wpAny_pure (hQ _ h' tk ⟨_, x, y, rfl, ⟨_, a4, rfl, _, rfl⟩, p1, p2⟩ ⟨.inr ⟨Nat.succ_pos _, _, _, false, pair_tup, a4, new hz, new hTO, i1l, i2l, a1⟩, k _ _ (Ne.symm D.zTI) D.TITO D.TIi1 D.TIi2 hTI, a5, a2, a3⟩ fun c o hc e => ?_)) (F.args_zip_next_1 _))))
      simp at hc; exact k c o hc.1 hc.2.1 hc.2.2.1 hc.2.2.2 e
    · have hT : s.TypeIs (.ref z) "zip" := ⟨_, hz, rfl⟩
      unfold pyNext
      refine wpAny_bind (wpAny_attempt (wpAny_callSpecial?_slot (name := Str.ofString "__next__") hT F.slot_zip_next
        (wpAny_call_entry F.slot_zip_next hT F.entry_zip_next
          (zipD_more D D1 D2 hz hTI t2 h1 h2 hi fun h' tk x y p1 p2 a1 a2 a3 a4 k => wpAny_pure (hQ _ h' tk ⟨_, x, y, rfl, ⟨_, a4, rfl, _, rfl⟩, p1, p2⟩ ⟨.inr ⟨Nat.succ_pos _, T, oT, true, t1, k _ _ n1 n3 n4 t2, n1, n2, n3, n4, a1⟩, k _ _ (Ne.symm D.zTI) D.TIi1 D.TIi2 hTI, ⟨a, b, k _ _ (Ne.symm D.zTO) D.TOi1 D.TOi2 hTO⟩, a2, a3⟩ fun c o hc e => ?_)) (F.args_zip_next_1 _))))
      simp at hc; exact k c o hc.1 hc.2.2.1 hc.2.2.2 e
  done := fun s Q E st hQ => by
    obtain ⟨c, hTI, ⟨a, b, hTO⟩, h1, h2⟩ := st
    rcases c with ⟨rfl, hz⟩ | ⟨hi0, T, oT, b1, t1, t2, n1, n2, n3, n4, hz⟩
    · exact absurd hn (Nat.lt_irrefl _)
    · have hT : s.TypeIs (.ref z) "zip" := ⟨_, hz, rfl⟩
      unfold pyNext
      refine wpAny_bind (wpAny_attempt (wpAny_callSpecial?_slot (name := Str.ofString "__next__") hT F.slot_zip_next
        (wpAny_call_entry F.slot_zip_next hT F.entry_zip_next (zipD_end D D1 hz hTI t2 h1 fun h' e hk he => ?_) (F.args_zip_next_1 _))))
      obtain ⟨o, ho, hc⟩ := he
      refine wpAny_bind (wpAny_isInstance (T := "StopIteration") (b := true) ⟨o, ho, hc⟩ isSubtype_stop ?_)
      exact wpAny_pure (hQ h' s.toks fun c o hc e => by simp at hc; exact hk c o hc.1 hc.2.2.1 e)
  self := fun i s Q E st hQ => by
    obtain ⟨c, _⟩ := st
    rcases c with ⟨rfl, hz⟩ | ⟨hi0, T, oT, b1, t1, t2, n1, n2, n3, n4, hz⟩
    all_goals
      have hT : s.TypeIs (.ref z) "zip" := ⟨_, hz, rfl⟩
      refine wpAny_pyIter_slot hT F.slot_zip_iter (wpAny_call_entry F.slot_zip_iter hT F.entry_zip_iter ?_ (F.args_zip_iter_1 _))
      show wpAny _ _ (ret (.ref z)) _ _ s
      exact wpAny_pure ⟨_, rfl, "zip", _, hT, F.slot_zip_next.lookup, hQ⟩
end
end
theorem calm_weave : True := by w_top off; exact True.intro
section
def weave {α : Type} : List α → List α → List α
  | a :: as, b :: bs => a :: b :: weave as bs
  | _, _ => []
theorem weave_snoc {α : Type} {a b : α} : ∀ {as bs : List α}, as.length = bs.length → weave (as ++ [a]) (bs ++ [b]) = weave as bs ++ [a, b]
  | [], [], _ => rfl
  | x :: as, y :: bs, h => by simp only [List.cons_append, weave]; rw [weave_snoc (by simpa using h)]
  | [], _ :: _, h => by simp at h
  | _ :: _, [], h => by simp at h
theorem weave_length {α : Type} : ∀ {as bs : List α}, as.length = bs.length → (weave as bs).length = 2 * as.length
  | [], [], _ => rfl
  | x :: as, y :: bs, h => by simp only [List.length_cons, weave]; rw [weave_length (by simpa using h)]; omega
  | [], _ :: _, h => by simp at h
  | _ :: _, [], h => by simp at h
def TwoAt (prog : Program) (w : World) (A : Around) (h₀ : Heap) (L : Addr) (m : Str → Option Value) (env : Env) (elt : PySem.Expr) (x : Str) (i2 : PySem.Expr) (y : Str) (scope : Scope) (cl : List (Str × Addr)) (Q : Value → Shared → Prop) (it : Value) (s₂ : Shared) : Prop :=
  ∃ I fp wr n P St Inv IR G news, it = .ref I ∧ TwoSrc prog w A h₀ L m env elt x i2 y scope cl news s₂ I fp wr n P St Inv IR G ∧
    ∀ D ys h tk, Inv n ys → Fr h₀ L h m → News h₀ L h ((D, LCg.lst ys) :: news) → (∀ p ∈ news, p.1 ≠ D) → Q (.ref D) { s₂ with heap := h, toks := tk }
section
variable {prog : Program} {w : World} {A : Around} {E : Value → Shared → Prop} {s : Shared} {h₀ : Heap} {L : Addr} {m : Str → Option Value} {env : Env}
theorem ListComp_two {elt i1 i2 : PySem.Expr} {x y : Str} {px py : Pos} {scope : Scope} {cl : List (Str × Addr)} {pos : Pos} {Q : Value → Shared → Prop} (_F₀ : Fr h₀ L s.heap m)
    (hclos : closureFor scope env = pure cl) (hcell : ∀ y ∈ scope.names, y.2 ≠ .cell) (hkind : scope.kind = .function)
    (hnames : ∀ y ∈ scope.names, y.2 = .local → scope.names.lookup y.1 = some .local) (hx : scope.names.lookup x = some .local) (hy : scope.names.lookup y = some .local) (hyx : y ≠ x)
    (hh : (A.mark none).handled = none) (hf : ∀ C v, foldedSetIterable i2 (compEnvC scope cl C env) v = pure v) (hs : ∀ x, foldedSetIterable i1 env x = pure x)
    (h : wpAny (model prog w) A (eval i1 env) (fun xv s₁ => wpAny (model prog w) A (pyIter xv) (TwoAt prog w A h₀ L m env elt x i2 y scope cl Q) E s₁) E s) :
    wpAny (model prog w) A (eval (.ListComp elt [⟨.Name x px, i1, [], 0⟩, ⟨.Name y py, i2, [], 0⟩] scope pos) env) Q E s := by
  rw [eval_ListComp]
  refine wpAny_comprehension_free (use := none) rfl hs hclos hkind hnames (wpAny_mono h (fun xv s₁ h₁ => wpAny_mono h₁ (fun it s₂ h₂ => ?_) fun _ _ e => e) fun _ _ e => e)
  obtain ⟨I, fp, wr, n, P, St, Inv, IR, G, news, rfl, T, fin⟩ := h₂
  refine block_two T hh hcell hkind hx hy hyx hf ?_
  intro D C h tk m' ys hI F' N' o1 hn hC₀ hD₀ hCL hDL hCD offC
  refine ⟨m', hn, fun h'' hs'' => fin D ys h'' tk hI (F'.change hs'' hCL hC₀) (fun p hp => ?_) o1⟩
  refine ⟨hs''.extBut _ _ ?_ (N' p hp).1, (N' p hp).2⟩
  rcases List.mem_cons.mp hp with rfl | hp
  · exact Ne.symm hCD
  · exact offC p hp
theorem pairs_eq {its zs : List Value} (h : Pairs (fun u z => z = u) its zs) : zs = its := by
  induction h with
  | nil => rfl
  | cons e _ ih => rw [e, ih]
def WInv (P1 P2 : Nat → Value → Prop) (i : Nat) (ys : List Value) : Prop := ∃ as bs : List Value, as.length = i ∧ bs.length = i ∧ (∀ j v, as[j]? = some v → P1 j v) ∧ (∀ j v, bs[j]? = some v → P2 j v) ∧ ys = weave as bs
theorem snoc_at {P : Nat → Value → Prop} {as : List Value} {a : Value} (h : ∀ j v, as[j]? = some v → P j v) (ha : P as.length a) : ∀ j v, (as ++ [a])[j]? = some v → P j v := fun j v e => by
  rcases Nat.lt_trichotomy j as.length with q | q | q
  · rw [List.getElem?_append_left q] at e; exact h j v e
  · subst q; simp at e; rw [← e]; exact ha
  · rw [List.getElem?_eq_none (by rw [List.length_append, List.length_singleton]; omega)] at e; cases e
theorem weave_src {x y : Str} {px2 py2 : Pos} {scope : Scope} {cl : List (Str × Addr)} {news : List (Addr × Obj)} {z TI TO i1 i2 : Addr} {fp1 fp2 : List Addr} {n : Nat} {P1 P2 : Nat → Value → Prop} {S1 S2 : Nat → Heap → Prop} (D : ZA z TI TO i1 i2 fp1 fp2) (hn : 0 < n)
    (D1 : Draws prog w A.in1 i1 fp1 n P1 S1) (D2 : Draws prog w A.in1 i2 fp2 n P2 S2)
    (st : ZSt z TI TO i1 i2 S1 S2 0 s.heap) (hfp : ∀ b ∈ [z, TI, TO, i1, i2] ++ fp1 ++ fp2, b < s.heap.objs.size) (hw : ∀ b ∈ [z, TO, i1, i2], h₀.get? b = none ∧ b ≠ L) (off : ∀ p ∈ news, p.1 ∉ [z, TO, i1, i2])
    (F : Fr h₀ L s.heap m) (N : News h₀ L s.heap news) (hsz : 2 * n ≤ sizeLine)
    (hkind : scope.kind = .function) (hx : scope.names.lookup x = some .local) (hy : scope.names.lookup y = some .local) (dx : (x == ("__debug__" : Str)) = false) (dy : (y == ("__debug__" : Str)) = false) :
    TwoSrc prog w A h₀ L m env (.Name y py2) x (.Name x px2) y scope cl news s z ([z, TI, TO, i1, i2] ++ fp1 ++ fp2) [z, TO, i1, i2] n (ZP P1 P2) (ZSt z TI TO i1 i2 S1 S2) (WInv P1 P2) (fun i _ its => ∃ a b, its = [a, b] ∧ P1 i a ∧ P2 i b) (fun _ u z => z = u) where
  W := Outer.zip D hn D1 D2
  st := st
  fpl := hfp
  wrl := hw
  off := off
  F := F
  N := N
  i0 := ⟨[], [], rfl, rfl, fun _ _ e => by simp at e, fun _ _ e => by simp at e, rfl⟩
  i1 := fun i v ys its zs hi hI hIR hP => by
    obtain ⟨as, bs, e1, e2, p1, p2, rfl⟩ := hI
    obtain ⟨a, b, rfl, q1, q2⟩ := hIR
    rw [pairs_eq hP]
    exact ⟨as ++ [a], bs ++ [b], by simp [e1], by simp [e2], snoc_at p1 (e1 ▸ q1), snoc_at p2 (e2 ▸ q2), (weave_snoc (e1.trans e2.symm)).symm⟩
  sz := fun i v ys its hi hI hIR => by
    obtain ⟨as, bs, e1, e2, p1, p2, rfl⟩ := hI
    obtain ⟨a, b, rfl, q1, q2⟩ := hIR
    rw [weave_length (e1.trans e2.symm), e1]
    simp only [List.length_cons, List.length_nil]
    omega
  sub := fun C i v s' mC E' hi hP hnC hv _ _ => by
    obtain ⟨T, a, b, rfl, hT, q1, q2⟩ := hP
    refine ldVarK (hk := hkind) (hl := lookup_relabel_local hx) (hd := dx) hnC hv ?_
    exact ⟨⟨_, _, rfl, fun _ _ e => e⟩, T, [a, b], rfl, ⟨a, b, rfl, q1, q2⟩, .inl hT⟩
  elt := fun C i v its u s' m₂ E' hi hIR hu hn hv hu' _ _ => by
    refine ldVarK (hk := hkind) (hl := lookup_relabel_local hy) (hd := dy) hn hu' ?_
    exact ⟨rfl, ⟨_, _, rfl, fun _ _ e => e⟩⟩
def SignsAre (vs : List Value) (cs : List Nat) : Prop := StrsAre vs (cs.map fun c => ⟨#[c]⟩)
theorem signs_of : ∀ (vs : List Value) (cs : List Nat), vs.length = cs.length → (∀ (j : Nat) (v : Value), vs[j]? = some v → ∃ c u, cs[j]? = some c ∧ v = Value.str ⟨#[c]⟩ u) → SignsAre vs cs
  | [], [], _, _ => .nil
  | v :: vs, c :: cs, hl, h => by
    obtain ⟨c', u, e, rfl⟩ := h 0 v rfl
    have e' : c = c' := Option.some.inj e
    subst e'
    exact .cons _ _ (signs_of vs cs (by simpa using hl) fun j v e => by have := h (j + 1) v (by simpa using e); simpa using this)
  | [], _ :: _, h, _ => by simp at h
  | _ :: _, [], h, _ => by simp at h
theorem signs_weave : ∀ {as bs : List Value} {cs ds : List Nat}, SignsAre as cs → SignsAre bs ds → SignsAre (weave as bs) (weave cs ds)
  | _, _, [], [], .nil, .nil => .nil
  | _, _, [], _ :: _, .nil, .cons .. => .nil
  | _, _, _ :: _, [], .cons .., .nil => .nil
  | _, _, _ :: _, _ :: _, .cons _ _ h1, .cons _ _ h2 => .cons _ _ (.cons _ _ (signs_weave h1 h2))
theorem ints_weave : ∀ {as bs : List Value} {cs ds : List Int}, IntsAre as cs → IntsAre bs ds → IntsAre (weave as bs) (weave cs ds)
  | _, _, [], [], .nil, .nil => .nil
  | _, _, [], _ :: _, .nil, .cons .. => .nil
  | _, _, _ :: _, [], .cons .., .nil => .nil
  | _, _, _ :: _, _ :: _, .cons _ _ h1, .cons _ _ h2 => .cons _ _ (.cons _ _ (ints_weave h1 h2))
theorem za_new {n : Nat} {fp1 fp2 : List Addr} (h1 : ∀ b ∈ fp1, b < n + 1) (h2 : ∀ b ∈ fp2, b < n ∨ b = n + 1) : ZA (n + 4) (n + 2) (n + 3) n (n + 1) fp1 fp2 where
  zTI := fun e => by have e' : n + 4 = n + 2 := e; omega
  zTO := fun e => by have e' : n + 4 = n + 3 := e; omega
  zi1 := fun e => by have e' : n + 4 = n := e; omega
  zi2 := fun e => by have e' : n + 4 = n + 1 := e; omega
  TITO := fun e => by have e' : n + 2 = n + 3 := e; omega
  TIi1 := fun e => by have e' : n + 2 = n := e; omega
  TIi2 := fun e => by have e' : n + 2 = n + 1 := e; omega
  TOi1 := fun e => by have e' : n + 3 = n := e; omega
  TOi2 := fun e => by have e' : n + 3 = n + 1 := e; omega
  i12 := fun e => by have e' : n = n + 1 := e; omega
  zf1 := fun hm => by have := h1 _ hm; have e' : n + 4 < n + 1 := this; omega
  zf2 := fun hm => by rcases h2 _ hm with q | q; (have q' : n + 4 < n := q; omega); (have q' : n + 4 = n + 1 := q; omega)
  Tf1 := fun hm => by have := h1 _ hm; have e' : n + 3 < n + 1 := this; omega
  Tf2 := fun hm => by rcases h2 _ hm with q | q; (have q' : n + 3 < n := q; omega); (have q' : n + 3 = n + 1 := q; omega)
  if2 := fun hm => by rcases h2 _ hm with q | q; (have q' : n < n := q; omega); (have q' : n = n + 1 := q; omega)
  if1 := fun hm => by have := h1 _ hm; have e' : n + 1 < n + 1 := this; omega
theorem nat_lt5 {n b : Nat} (h : b = n + 4 ∨ b = n + 2 ∨ b = n + 3 ∨ b = n ∨ b = n + 1) : b < n + 5 := by omega
theorem nat_ne {n b : Nat} (h : b < n) (k : Nat) : n + k ≠ b := by omega
theorem nat_absurd {n b : Nat} (h : b < n) (q : b = n + 4 ∨ b = n + 3 ∨ b = n ∨ b = n + 1) : False := by omega
theorem nat_new {n k : Nat} (h : n + k < n) : False := by omega
theorem weave_strs {x y a b : Str} {t u : Tok} {px2 py2 : Pos} {scope : Scope} {cl : List (Str × Addr)} {news : List (Addr × Obj)} {Q : Value → Shared → Prop} (hh : A.in1.handled = none) (F : Fr h₀ L s.heap m) (N : News h₀ L s.heap news)
    (ha : a.cps.all (· < 128) = true) (hb : b.cps.all (· < 128) = true) (hl : b.cps.size = a.cps.size) (hpos : 0 < a.cps.size) (hsz : 2 * a.cps.size ≤ sizeLine)
    (hkind : scope.kind = .function) (hx : scope.names.lookup x = some .local) (hy : scope.names.lookup y = some .local) (dx : (x == ("__debug__" : Str)) = false) (dy : (y == ("__debug__" : Str)) = false)
    (hQ : ∀ ys D h tk, SignsAre ys (weave a.cps.toList b.cps.toList) → Fr h₀ L h m → News h₀ L h ((D, LCg.lst ys) :: news) → (∀ p ∈ news, p.1 ≠ D) → Q (.ref D) { s with heap := h, toks := tk }) :
    wpAny (model prog w) A (call (.type "zip") [.str a t, .str b u]) (fun xv s₁ => wpAny (model prog w) A (pyIter xv) (TwoAt prog w A h₀ L m env (.Name y py2) x (.Name x px2) y scope cl Q) E s₁) E s := by
  refine call_zip_strs ha hb fun h' Z => ?_
  have D1 : Draws prog w A.in1 s.heap.objs.size [s.heap.objs.size] a.cps.size _ _ := Draws.strAscii hh s.heap.objs.size a t
  have D2 : Draws prog w A.in1 (s.heap.objs.size + 1) [s.heap.objs.size + 1] a.cps.size _ _ := hl ▸ Draws.strAscii hh (s.heap.objs.size + 1) b u
  have D : ZA (s.heap.objs.size + 4) (s.heap.objs.size + 2) (s.heap.objs.size + 3) s.heap.objs.size (s.heap.objs.size + 1) [s.heap.objs.size] [s.heap.objs.size + 1] :=
    za_new (fun b hb => by rw [List.mem_singleton.mp hb]; exact Nat.lt_succ_self _) (fun b hb => .inr (List.mem_singleton.mp hb))
  have st : ZSt (s.heap.objs.size + 4) (s.heap.objs.size + 2) (s.heap.objs.size + 3) s.heap.objs.size (s.heap.objs.size + 1) (fun i h => h.IsStrIter s.heap.objs.size "str_ascii_iterator" a t i) (fun i h => h.IsStrIter (s.heap.objs.size + 1) "str_ascii_iterator" b u i) 0 h' :=
    ⟨.inl ⟨rfl, Z.z⟩, Z.TI, ⟨_, _, Z.TO⟩, ⟨_, Z.g1, rfl, rfl⟩, ⟨_, Z.g2, rfl, rfl⟩⟩
  have new₀ : ∀ k, h₀.get? (s.heap.objs.size + k) = none := fun k => by
    cases e : h₀.get? (s.heap.objs.size + k) with
    | none => rfl
    | some o => exact (nat_new (Heap.lt_size (F.keep _ _ e))).elim
  have hL := F.ns.lt
  refine (Outer.zip (A := A) D hpos D1 D2).self 0 _ _ _ st ?_
  refine ⟨_, _, _, _, _, _, _, _, _, news, rfl, weave_src D hpos D1 D2 st ?_ ?_ ?_ (F.keeps Z.up) (N.grown Z.up) hsz hkind hx hy dx dy, ?_⟩
  · intro b hb
    show b < h'.objs.size
    rw [Z.sz]
    refine nat_lt5 ?_
    simp at hb
    rcases hb with h | h | h | h | h | h | h <;> rw [h] <;> simp
  · intro b hb
    simp at hb
    rcases hb with rfl | rfl | rfl | rfl
    · exact ⟨new₀ 4, nat_ne hL 4⟩
    · exact ⟨new₀ 3, nat_ne hL 3⟩
    · exact ⟨new₀ 0, nat_ne hL 0⟩
    · exact ⟨new₀ 1, nat_ne hL 1⟩
  · intro p hp hm
    have := Heap.lt_size (N p hp).1
    simp at hm
    exact nat_absurd this hm
  · intro D' ys h tk hI F' N' off
    obtain ⟨as, bs, e1, e2, p1, p2, rfl⟩ := hI
    exact hQ _ D' h tk (signs_weave (signs_of as _ (by simpa using e1) fun j v e => by simpa using p1 j v e) (signs_of bs _ (by simpa [hl] using e2) fun j v e => by simpa using p2 j v e)) F' N' off
theorem list_of_get : ∀ (vs cs : List Value), vs.length = cs.length → (∀ (j : Nat) (v : Value), vs[j]? = some v → cs[j]? = some v) → vs = cs
  | [], [], _, _ => rfl
  | v :: vs, c :: cs, hl, h => by
    have e := h 0 v rfl
    have e' : c = v := Option.some.inj e
    rw [e', list_of_get vs cs (by simpa using hl) fun j v e => by have := h (j + 1) v (by simpa using e); simpa using this]
  | [], _ :: _, h, _ => by simp at h
  | _ :: _, [], h, _ => by simp at h
theorem weave_lsts {x y : Str} {l1 l2 : Addr} {vs1 vs2 : List Value} {px2 py2 : Pos} {scope : Scope} {cl : List (Str × Addr)} {news : List (Addr × Obj)} {Q : Value → Shared → Prop} (hh : A.in1.handled = none) (F : Fr h₀ L s.heap m) (N : News h₀ L s.heap news)
    (ha : s.heap.IsList l1 vs1.toArray) (hb : s.heap.IsList l2 vs2.toArray) (hl : vs2.length = vs1.length) (hpos : 0 < vs1.length) (hsz : 2 * vs1.length ≤ sizeLine)
    (hkind : scope.kind = .function) (hx : scope.names.lookup x = some .local) (hy : scope.names.lookup y = some .local) (dx : (x == ("__debug__" : Str)) = false) (dy : (y == ("__debug__" : Str)) = false)
    (hQ : ∀ D h tk, Fr h₀ L h m → News h₀ L h ((D, LCg.lst (weave vs1 vs2)) :: news) → (∀ p ∈ news, p.1 ≠ D) → Q (.ref D) { s with heap := h, toks := tk }) :
    wpAny (model prog w) A (call (.type "zip") [.ref l1, .ref l2]) (fun xv s₁ => wpAny (model prog w) A (pyIter xv) (TwoAt prog w A h₀ L m env (.Name y py2) x (.Name x px2) y scope cl Q) E s₁) E s := by
  refine call_zip_lsts ha hb fun h' Z => ?_
  have ll1 : l1 < s.heap.objs.size := by obtain ⟨_, e, _⟩ := ha; exact Heap.lt_size e
  have ll2 : l2 < s.heap.objs.size := by obtain ⟨_, e, _⟩ := hb; exact Heap.lt_size e
  have D1 : Draws prog w A.in1 s.heap.objs.size [s.heap.objs.size, l1] vs1.length (fun i v => vs1[i]? = some v) (fun i h => h.IsListIter s.heap.objs.size l1 i ∧ h.IsList l1 vs1.toArray) := by
    have := Draws.list (prog := prog) (w := w) hh s.heap.objs.size l1 (Nat.ne_of_lt ll1) vs1.toArray
    simpa using this
  have D2 : Draws prog w A.in1 (s.heap.objs.size + 1) [s.heap.objs.size + 1, l2] vs1.length (fun i v => vs2[i]? = some v) (fun i h => h.IsListIter (s.heap.objs.size + 1) l2 i ∧ h.IsList l2 vs2.toArray) := by
    have := Draws.list (prog := prog) (w := w) hh (s.heap.objs.size + 1) l2 (Nat.ne_of_lt (Nat.lt_succ_of_lt ll2)) vs2.toArray
    rw [show vs2.toArray.size = vs1.length from by simp [hl]] at this
    simpa using this
  have D : ZA (s.heap.objs.size + 4) (s.heap.objs.size + 2) (s.heap.objs.size + 3) s.heap.objs.size (s.heap.objs.size + 1) [s.heap.objs.size, l1] [s.heap.objs.size + 1, l2] :=
    za_new (fun b hb => by rcases List.mem_cons.mp hb with q | q; rw [q]; exact Nat.lt_succ_self _; rw [List.mem_singleton.mp q]; exact Nat.lt_succ_of_lt ll1) (fun b hb => by rcases List.mem_cons.mp hb with q | q; exact .inr q; rw [List.mem_singleton.mp q]; exact .inl ll2)
  have st : ZSt (s.heap.objs.size + 4) (s.heap.objs.size + 2) (s.heap.objs.size + 3) s.heap.objs.size (s.heap.objs.size + 1) (fun i h => h.IsListIter s.heap.objs.size l1 i ∧ h.IsList l1 vs1.toArray) (fun i h => h.IsListIter (s.heap.objs.size + 1) l2 i ∧ h.IsList l2 vs2.toArray) 0 h' :=
    ⟨.inl ⟨rfl, Z.z⟩, Z.TI, ⟨_, _, Z.TO⟩, ⟨⟨_, Z.g1, rfl, rfl⟩, ha.at fun o e => Z.up _ _ e⟩, ⟨⟨_, Z.g2, rfl, rfl⟩, hb.at fun o e => Z.up _ _ e⟩⟩
  have new₀ : ∀ k, h₀.get? (s.heap.objs.size + k) = none := fun k => by
    cases e : h₀.get? (s.heap.objs.size + k) with
    | none => rfl
    | some o => exact (nat_new (Heap.lt_size (F.keep _ _ e))).elim
  have hL := F.ns.lt
  refine (Outer.zip (A := A) D hpos D1 D2).self 0 _ _ _ st ?_
  refine ⟨_, _, _, _, _, _, _, _, _, news, rfl, weave_src D hpos D1 D2 st ?_ ?_ ?_ (F.keeps Z.up) (N.grown Z.up) hsz hkind hx hy dx dy, ?_⟩
  · intro b hb
    show b < h'.objs.size
    rw [Z.sz]
    simp at hb
    rcases hb with h | h | h | h | h | h | h | h | h
    · exact nat_lt5 (by rw [h]; simp)
    · exact nat_lt5 (by rw [h]; simp)
    · exact nat_lt5 (by rw [h]; simp)
    · exact nat_lt5 (by rw [h]; simp)
    · exact nat_lt5 (by rw [h]; simp)
    · exact nat_lt5 (by rw [h]; simp)
    · rw [h]; exact Nat.lt_add_right 5 ll1
    · exact nat_lt5 (by rw [h]; simp)
    · rw [h]; exact Nat.lt_add_right 5 ll2
  · intro b hb
    simp at hb
    rcases hb with rfl | rfl | rfl | rfl
    · exact ⟨new₀ 4, nat_ne hL 4⟩
    · exact ⟨new₀ 3, nat_ne hL 3⟩
    · exact ⟨new₀ 0, nat_ne hL 0⟩
    · exact ⟨new₀ 1, nat_ne hL 1⟩
  · intro p hp hm
    have := Heap.lt_size (N p hp).1
    simp at hm
    exact nat_absurd this hm
  · intro D' ys h tk hI F' N' off
    obtain ⟨as, bs, e1, e2, p1, p2, rfl⟩ := hI
    rw [list_of_get as vs1 e1 (fun j v e => by simpa using p1 j v e), list_of_get bs vs2 (e2.trans hl.symm) (fun j v e => by simpa using p2 j v e)] at N'
    exact hQ D' h tk F' N' off
end
end
theorem calm_laid : True := by w_top off; exact True.intro
section
theorem laid_ListK {A : Around} {prog : Program} {w : World} {E : Value → Shared → Prop} {s : Shared} {h₀ : Heap} {L : Addr} {m : Str → Option Value} {news : List (Addr × Obj)} {x : Str} {t : Tok} {Q : Value → Shared → Prop} (hh : A.handled = none) (F : Fr h₀ L s.heap m) (N : News h₀ L s.heap news)
    (hQ : ∀ D h' tk ys c, SignsAre ys x.cps.toList → Fr h₀ L h' m → News h₀ L h' ((D, listOf ys.toArray c) :: news) → (∀ p ∈ news, p.1 < D) → Q (.ref D) { s with heap := h', toks := tk }) (hsz : x.length ≤ sizeLine) :
    wpAny (model prog w) A (call (.type "list") [.str x t]) Q E s := by
  refine call_list_str hh x t (hn := hsz) fun h' tk acc' c' hk hS' hacc => ?_
  refine hQ s.heap.objs.size h' tk acc'.toList c' (signs_of _ _ (by simpa using hacc.1) fun j v hv => ?_) (F.keeps hk) (fun p hp => ?_) (fun p hp => Heap.lt_size (N p hp).1)
  · obtain ⟨c, u, hc, rfl⟩ := hacc.2 j v (by simpa using hv)
    exact ⟨c, u, by simpa using hc, rfl⟩
  · rcases List.mem_cons.mp hp with rfl | hp
    · refine ⟨by simpa using hS', Nat.ne_of_gt F.ns.lt, ?_⟩
      cases e : h₀.get? s.heap.objs.size with
      | none => rfl
      | some o => exact absurd (Heap.lt_size (F.keep _ _ e)) (Nat.lt_irrefl _)
    · exact ⟨hk _ _ (N p hp).1, (N p hp).2⟩
theorem strsAre_append {vs ws : List Value} {cs ds : List Str} (h1 : StrsAre vs cs) (h2 : StrsAre ws ds) : StrsAre (vs ++ ws) (cs ++ ds) := by
  induction h1 with
  | nil => exact h2
  | cons y t _ ih => exact .cons y t ih
theorem strsAre_length {vs : List Value} {cs : List Str} (h1 : StrsAre vs cs) : vs.length = cs.length := by
  induction h1 with
  | nil => rfl
  | cons y t _ ih => simp [ih]
theorem add_vals {prog : Program} {w : World} {A : Around} {E : Value → Shared → Prop} {s : Shared} {h₀ : Heap} {L a b : Addr} {m : Str → Option Value} {news : List (Addr × Obj)} {vs ws : List Value} {Q : Value → Shared → Prop}
    (F : Fr h₀ L s.heap m) (N : News h₀ L s.heap news) (ha : s.heap.IsList a vs.toArray) (hb : s.heap.IsList b ws.toArray)
    (h : ∀ D h', Fr h₀ L h' m → News h₀ L h' ((D, listOf (vs ++ ws).toArray 0) :: news) → (∀ p ∈ news, p.1 < D) → Q (.ref D) { s with heap := h' })
    (hz : vs.length + ws.length ≤ sizeLine) : wpAny (model prog w) A (binaryOp .Add (.ref a) (.ref b)) Q E s :=
  kmk_add_lit F N ha hb rfl h (by simpa using hz)
theorem signs_append {vs ws : List Value} {cs ds : List Nat} (h1 : SignsAre vs cs) (h2 : SignsAre ws ds) : SignsAre (vs ++ ws) (cs ++ ds) := by
  unfold SignsAre at *
  rw [List.map_append]
  exact strsAre_append h1 h2
theorem signs_length {vs : List Value} {cs : List Nat} (h : SignsAre vs cs) : vs.length = cs.length := by
  have := strsAre_length h
  simpa using this
theorem news_first {h₀ h : Heap} {L : Addr} {x : Addr × Obj} {l r : List (Addr × Obj)} (N : News h₀ L h (x :: l)) (s : ∀ p ∈ r, p ∈ x :: l) : News h₀ L h (x :: r) := fun p hp => by
  rcases List.mem_cons.mp hp with rfl | hp
  · exact N _ (.head _)
  · exact N _ (s p hp)
theorem add_signs {prog : Program} {w : World} {A : Around} {E : Value → Shared → Prop} {s : Shared} {h₀ : Heap} {L a b : Addr} {m : Str → Option Value} {news : List (Addr × Obj)} {vs ws : List Value} {cs ds : List Nat} {Q : Value → Shared → Prop}
    (F : Fr h₀ L s.heap m) (N : News h₀ L s.heap news) (ha : s.heap.IsList a vs.toArray) (hb : s.heap.IsList b ws.toArray) (h1 : SignsAre vs cs) (h2 : SignsAre ws ds)
    (hz : cs.length + ds.length ≤ sizeLine)
    (h : ∀ D h', SignsAre (vs ++ ws) (cs ++ ds) → Fr h₀ L h' m → News h₀ L h' ((D, listOf (vs ++ ws).toArray 0) :: news) → (∀ p ∈ news, p.1 < D) → Q (.ref D) { s with heap := h' }) :
    wpAny (model prog w) A (binaryOp .Add (.ref a) (.ref b)) Q E s :=
  add_vals F N ha hb (fun D h' F' N' l1 => h D h' (signs_append h1 h2) F' N' l1) (by rw [signs_length h1, signs_length h2]; exact hz)
section
local macro_rules | `(tactic| k_room) => `(tactic| ktr_room)
local macro_rules | `(tactic| is_list) => `(tactic| exact News.isList (by k_asm) (by k_mem))
local macro_rules | `(tactic| walk_at "call type:list") => `(tactic| (k_here; (with_reducible show wpAny _ _ (call (Value.type "list") [Value.str _ _]) _ _ _); (refine laid_ListK rfl (by k_asm) (by k_asm) ?_ (by assumption)); intro D' h' k' ys' c' e' F' N' l1; (try k_lt l1)))
local macro_rules | `(tactic| walk_at "binaryOp Add ref ref") => `(tactic| (k_here; k_dflt (refine' add_signs ?F ?N ?a ?b ?i ?j ?z ?_; (case F => k_asm); (case N => k_asm); (case a => is_list); (case b => is_list); (case i => assumption); (case j => assumption); (case z => assumption)); intro D' h' e' F' N' l1; (try k_lt l1)))
local macro_rules | `(tactic| walk_at "eval ListComp") => `(tactic| (k_here; k_dflt (refine' ListComp_two ?c0 ?c1 ?c2 ?c3 ?c4 ?c5 ?c6 ?c7 ?c8 ?c9 ?ca ?_; (case c0 => k_asm); (case c1 => rfl); (case c2 => decide); (case c3 => rfl); (case c4 => decide); (case c5 => rfl); (case c6 => rfl); (case c7 => decide); (case c8 => exact rfl); (case c9 => intros; rfl); (case ca => intros; rfl); k_whole)))
local macro_rules | `(tactic| walk_at "call type:zip") => `(tactic| (k_here; k_dflt (refine' weave_strs ?c0 ?c1 ?c2 ?c3 ?c4 ?c5 ?c6 ?c7 ?c8 ?c9 ?ca ?cb ?cc ?_; (case c0 => exact rfl); (case c1 => k_asm); (case c2 => k_asm); (case c3 => assumption); (case c4 => assumption); (case c5 => assumption); (case c6 => assumption); (case c7 => assumption); (case c8 => exact rfl); (case c9 => rfl); (case ca => rfl); (case cb => decide); (case cc => decide)); intro ys' D' h' k' e' F' N' o1))
theorem c_laid0 (w : World) (p : Program) (loose : List Str) (mean : ExcName → Option Value) (mg mb : Str → Option Value)
  (dp un : Nat) (gd : Option (List Code)) (cn : Str) (cs : Scope) (a : Addr) (ccd : Value) (cl : List (Str × Addr)) (outer : List Env) (A₀ : Around) (base h₀ : Heap) (L : Addr) (m : Str → Option Value) (s : Shared) (Q E : Value → Shared → Prop) (rest : List (Addr × Obj))
  (hB : Below A₀ base outer h₀) (hF : Fr h₀ L s.heap m) (hX : (hd02.heap_39 w.params).In h₀) (hT : Top p loose mean mg mb h₀) (hk : cs.kind = .function)
  (hd : dp + 20 < recursionLimit) (hu : un + 100 < cLine)
  (t1 t2 : Str) (ti tt1 tt2 : Tok) (z1 : t1.length ≤ sizeLine) (z2 : t2.length ≤ sizeLine) (z3 : t1.cps.toList.length + t2.cps.toList.length ≤ sizeLine)
  (hNw : News h₀ L s.heap rest)
  (hret : ∀ (D : Addr) (k : Nat) (ys : List Value) (h' : Heap) (tk' : Nat), SignsAre ys (t1.cps.toList ++ t2.cps.toList) → Fr h₀ L h' m → News h₀ L h' ((D, listOf ys.toArray k) :: rest) → Q (.ref D) { s with heap := h', toks := tk' }) :
  wpAny (model PySem.Challenge.rw_pg0294_02.row.prog w) (ktrTop dp un gd cn cs L a ccd cl outer) (call (.ref 236) [.int 0 ti, .str t1 tt1, .str t2 tt2]) Q E s := by
  refine wpAny_call ?_
  k_dflt ((refine' code_def ?k1 ?k2 ?k3 ?k4 ?k5 ?kA ?kF ?kK ?k6 ?k7 ?k8 ?k9 ?kB ?_ ?c2 ?c3 ?c4 ?c5; (case kA => exact rfl); (case kF => exact rfl); (case kK => first | exact rfl | assumption); (case k1 => k_asm); (case k2 => k_asm); (case k3 => k_asm); (case k4 => k_asm); (case k5 => k_asm); (case k6 => k_is); (case k7 => k_is); (case k8 => ktr_room); (case k9 => first | exact BindsTo.of_eq rfl | exact binds_K (by k_in) rfl (by k_is) rfl rfl rfl); (case c5 => decide); (case kB => exact locs rfl); (case c2 => exact rfl); (case c3 => exact rfl); (case c4 => exact rfl); k_whole; intro g' L' h' FG' F' N' B' X' T'; (try dsimp only); (try k_lift B'); (try k_fold)))
  k_steps
  rename News h₀ L _ _ => Nz
  exact hret _ _ _ _ _ (by assumption) (by k_asm) (news_first Nz (fun p hp => by repeat (first | exact hp | refine List.Mem.tail _ ?_)))
theorem c_laid1 (w : World) (p : Program) (loose : List Str) (mean : ExcName → Option Value) (mg mb : Str → Option Value)
  (dp un : Nat) (gd : Option (List Code)) (cn : Str) (cs : Scope) (a : Addr) (ccd : Value) (cl : List (Str × Addr)) (outer : List Env) (A₀ : Around) (base h₀ : Heap) (L : Addr) (m : Str → Option Value) (s : Shared) (Q E : Value → Shared → Prop) (rest : List (Addr × Obj))
  (hB : Below A₀ base outer h₀) (hF : Fr h₀ L s.heap m) (hX : (hd02.heap_39 w.params).In h₀) (hT : Top p loose mean mg mb h₀) (hk : cs.kind = .function)
  (hd : dp + 20 < recursionLimit) (hu : un + 100 < cLine)
  (t1 t2 : Str) (ti tt1 tt2 : Tok) (a1 : t1.cps.all (· < 128) = true) (a2 : t2.cps.all (· < 128) = true) (hl : t2.cps.size = t1.cps.size) (hpos : 0 < t1.cps.size) (hsz : 2 * t1.cps.size ≤ sizeLine)
  (hNw : News h₀ L s.heap rest)
  (hret : ∀ (D : Addr) (k : Nat) (ys : List Value) (h' : Heap) (tk' : Nat), SignsAre ys (weave t1.cps.toList t2.cps.toList) → Fr h₀ L h' m → News h₀ L h' ((D, listOf ys.toArray k) :: rest) → Q (.ref D) { s with heap := h', toks := tk' }) :
  wpAny (model PySem.Challenge.rw_pg0294_02.row.prog w) (ktrTop dp un gd cn cs L a ccd cl outer) (call (.ref 236) [.int 1 ti, .str t1 tt1, .str t2 tt2]) Q E s := by
  refine wpAny_call ?_
  k_dflt ((refine' code_def ?k1 ?k2 ?k3 ?k4 ?k5 ?kA ?kF ?kK ?k6 ?k7 ?k8 ?k9 ?kB ?_ ?c2 ?c3 ?c4 ?c5; (case kA => exact rfl); (case kF => exact rfl); (case kK => first | exact rfl | assumption); (case k1 => k_asm); (case k2 => k_asm); (case k3 => k_asm); (case k4 => k_asm); (case k5 => k_asm); (case k6 => k_is); (case k7 => k_is); (case k8 => ktr_room); (case k9 => first | exact BindsTo.of_eq rfl | exact binds_K (by k_in) rfl (by k_is) rfl rfl rfl); (case c5 => decide); (case kB => exact locs rfl); (case c2 => exact rfl); (case c3 => exact rfl); (case c4 => exact rfl); k_whole; intro g' L' h' FG' F' N' B' X' T'; (try dsimp only); (try k_lift B'); (try k_fold)))
  k_steps
  rename News h₀ L _ _ => Nz
  exact hret _ _ _ _ _ (by assumption) (by k_asm) (news_first Nz (fun p hp => by repeat (first | exact hp | refine List.Mem.tail _ ?_)))
end
section
local macro_rules | `(tactic| k_room) => `(tactic| ktr_room)
local macro_rules | `(tactic| is_list) => `(tactic| exact News.isList (by k_asm) (by k_mem))
local macro_rules | `(tactic| walk_at "call type:list") => `(tactic| (k_here; (with_reducible show wpAny _ _ (call (Value.type "list") [Value.ref _]) _ _ _); (refine list_copyK (by k_asm) (by k_asm) (by is_list) ?_ (by simp only [List.size_toArray]; assumption)); intro D' c' h' F' N' l1; (try k_lt l1)))
local macro_rules | `(tactic| walk_at "binaryOp Add ref ref") => `(tactic| (k_here; k_dflt (refine' add_vals ?F ?N ?a ?b ?_ ?z; (case F => k_asm); (case N => k_asm); (case a => is_list); (case b => is_list); (case z => assumption)); intro D' h' F' N' l1; (try k_lt l1)))
local macro_rules | `(tactic| walk_at "eval ListComp") => `(tactic| (k_here; k_dflt (refine' ListComp_two ?c0 ?c1 ?c2 ?c3 ?c4 ?c5 ?c6 ?c7 ?c8 ?c9 ?ca ?_; (case c0 => k_asm); (case c1 => rfl); (case c2 => decide); (case c3 => rfl); (case c4 => decide); (case c5 => rfl); (case c6 => rfl); (case c7 => decide); (case c8 => exact rfl); (case c9 => intros; rfl); (case ca => intros; rfl); k_whole)))
local macro_rules | `(tactic| walk_at "call type:zip") => `(tactic| (k_here; k_dflt (refine' weave_lsts ?c0 ?c1 ?c2 ?c3 ?c4 ?c5 ?c6 ?c7 ?c8 ?c9 ?ca ?cb ?cc ?_; (case c0 => exact rfl); (case c1 => k_asm); (case c2 => k_asm); (case c3 => is_list); (case c4 => is_list); (case c5 => assumption); (case c6 => assumption); (case c7 => assumption); (case c8 => exact rfl); (case c9 => rfl); (case ca => rfl); (case cb => decide); (case cc => decide)); intro D' h' k' F' N' o1))
theorem c_laidL0 (w : World) (p : Program) (loose : List Str) (mean : ExcName → Option Value) (mg mb : Str → Option Value)
  (dp un : Nat) (gd : Option (List Code)) (cn : Str) (cs : Scope) (a : Addr) (ccd : Value) (cl : List (Str × Addr)) (outer : List Env) (A₀ : Around) (base h₀ : Heap) (L : Addr) (m : Str → Option Value) (s : Shared) (Q E : Value → Shared → Prop) (rest : List (Addr × Obj))
  (hB : Below A₀ base outer h₀) (hF : Fr h₀ L s.heap m) (hX : (hd02.heap_39 w.params).In h₀) (hT : Top p loose mean mg mb h₀) (hk : cs.kind = .function)
  (hd : dp + 20 < recursionLimit) (hu : un + 100 < cLine)
  (l1 l2 : Addr) (ti : Tok) (vs1 vs2 : List Value) (k1 k2 : Nat) (z1 : vs1.length ≤ sizeLine) (z2 : vs2.length ≤ sizeLine) (z3 : vs1.length + vs2.length ≤ sizeLine)
  (hNw : News h₀ L s.heap ((l1, listOf vs1.toArray k1) :: (l2, listOf vs2.toArray k2) :: rest))
  (hret : ∀ (D : Addr) (k : Nat) (h' : Heap) (tk' : Nat), Fr h₀ L h' m → News h₀ L h' ((D, listOf (vs1 ++ vs2).toArray k) :: (l1, listOf vs1.toArray k1) :: (l2, listOf vs2.toArray k2) :: rest) → Q (.ref D) { s with heap := h', toks := tk' }) :
  wpAny (model PySem.Challenge.rw_pg0294_02.row.prog w) (ktrTop dp un gd cn cs L a ccd cl outer) (call (.ref 236) [.int 0 ti, .ref l1, .ref l2]) Q E s := by
  refine wpAny_call ?_
  k_dflt ((refine' code_def ?k1 ?k2 ?k3 ?k4 ?k5 ?kA ?kF ?kK ?k6 ?k7 ?k8 ?k9 ?kB ?_ ?c2 ?c3 ?c4 ?c5; (case kA => exact rfl); (case kF => exact rfl); (case kK => first | exact rfl | assumption); (case k1 => k_asm); (case k2 => k_asm); (case k3 => k_asm); (case k4 => k_asm); (case k5 => k_asm); (case k6 => k_is); (case k7 => k_is); (case k8 => ktr_room); (case k9 => first | exact BindsTo.of_eq rfl | exact binds_K (by k_in) rfl (by k_is) rfl rfl rfl); (case c5 => decide); (case kB => exact locs rfl); (case c2 => exact rfl); (case c3 => exact rfl); (case c4 => exact rfl); k_whole; intro g' L' h' FG' F' N' B' X' T'; (try dsimp only); (try k_lift B'); (try k_fold)))
  k_steps
  rename News h₀ L _ _ => Nz
  exact hret _ _ _ _ (by k_asm) (news_first Nz (fun p hp => by repeat (first | exact hp | refine List.Mem.tail _ ?_)))
end
end
local macro_rules | `(tactic| walk_at "idle") => `(tactic| fail)
local macro_rules | `(tactic| walk_at "idle") => `(tactic| fail)
local macro_rules | `(tactic| walk_at "idle") => `(tactic| fail)
local macro_rules | `(tactic| walk_at "idle") => `(tactic| fail)
local macro_rules | `(tactic| walk_at "idle") => `(tactic| fail)
local macro_rules | `(tactic| walk_at "idle") => `(tactic| fail)
local macro_rules | `(tactic| walk_at "idle") => `(tactic| fail)
local macro_rules | `(tactic| walk_at "idle") => `(tactic| fail)
local macro_rules | `(tactic| walk_at "idle") => `(tactic| fail)
local macro_rules | `(tactic| walk_at "idle") => `(tactic| fail)
local macro_rules | `(tactic| walk_at "idle") => `(tactic| fail)
local macro_rules | `(tactic| walk_at "idle") => `(tactic| fail)
local macro_rules | `(tactic| walk_at "idle") => `(tactic| fail)
theorem calm_laid2 : True := by w_top off; exact True.intro
section
section
local macro_rules | `(tactic| k_room) => `(tactic| ktr_room)
local macro_rules | `(tactic| is_list) => `(tactic| exact News.isList (by k_asm) (by k_mem))
local macro_rules | `(tactic| walk_at "call type:list") => `(tactic| (k_here; (with_reducible show wpAny _ _ (call (Value.type "list") [Value.ref _]) _ _ _); (refine list_copyK (by k_asm) (by k_asm) (by is_list) ?_ (by simp only [List.size_toArray]; assumption)); intro D' c' h' F' N' l1; (try k_lt l1)))
local macro_rules | `(tactic| walk_at "binaryOp Add ref ref") => `(tactic| (k_here; k_dflt (refine' add_vals ?F ?N ?a ?b ?_ ?z; (case F => k_asm); (case N => k_asm); (case a => is_list); (case b => is_list); (case z => assumption)); intro D' h' F' N' l1; (try k_lt l1)))
local macro_rules | `(tactic| walk_at "eval ListComp") => `(tactic| (k_here; k_dflt (refine' ListComp_two ?c0 ?c1 ?c2 ?c3 ?c4 ?c5 ?c6 ?c7 ?c8 ?c9 ?ca ?_; (case c0 => k_asm); (case c1 => rfl); (case c2 => decide); (case c3 => rfl); (case c4 => decide); (case c5 => rfl); (case c6 => rfl); (case c7 => decide); (case c8 => exact rfl); (case c9 => intros; rfl); (case ca => intros; rfl); k_whole)))
local macro_rules | `(tactic| walk_at "call type:zip") => `(tactic| (refine Stop.mk ?_))
theorem c_laidL1 (w : World) (p : Program) (loose : List Str) (mean : ExcName → Option Value) (mg mb : Str → Option Value)
  (dp un : Nat) (gd : Option (List Code)) (cn : Str) (cs : Scope) (a : Addr) (ccd : Value) (cl : List (Str × Addr)) (outer : List Env) (A₀ : Around) (base h₀ : Heap) (L : Addr) (m : Str → Option Value) (s : Shared) (Q E : Value → Shared → Prop) (rest : List (Addr × Obj))
  (hB : Below A₀ base outer h₀) (hF : Fr h₀ L s.heap m) (hX : (hd02.heap_39 w.params).In h₀) (hT : Top p loose mean mg mb h₀) (hk : cs.kind = .function)
  (hd : dp + 20 < recursionLimit) (hu : un + 100 < cLine)
  (l1 l2 : Addr) (ti : Tok) (vs1 vs2 : List Value) (k1 k2 : Nat) (hl : vs2.length = vs1.length) (hpos : 0 < vs1.length) (hsz : 2 * vs1.length ≤ sizeLine)
  (hNw : News h₀ L s.heap ((l1, listOf vs1.toArray k1) :: (l2, listOf vs2.toArray k2) :: rest))
  (hret : ∀ (D : Addr) (k : Nat) (h' : Heap) (tk' : Nat), Fr h₀ L h' m → News h₀ L h' ((D, listOf (weave vs1 vs2).toArray k) :: (l1, listOf vs1.toArray k1) :: (l2, listOf vs2.toArray k2) :: rest) → Q (.ref D) { s with heap := h', toks := tk' }) :
  wpAny (model PySem.Challenge.rw_pg0294_02.row.prog w) (ktrTop dp un gd cn cs L a ccd cl outer) (call (.ref 236) [.int 1 ti, .ref l1, .ref l2]) Q E s := by
  refine wpAny_call ?_
  k_dflt ((refine' code_def ?k1 ?k2 ?k3 ?k4 ?k5 ?kA ?kF ?kK ?k6 ?k7 ?k8 ?k9 ?kB ?_ ?c2 ?c3 ?c4 ?c5; (case kA => exact rfl); (case kF => exact rfl); (case kK => first | exact rfl | assumption); (case k1 => k_asm); (case k2 => k_asm); (case k3 => k_asm); (case k4 => k_asm); (case k5 => k_asm); (case k6 => k_is); (case k7 => k_is); (case k8 => ktr_room); (case k9 => first | exact BindsTo.of_eq rfl | exact binds_K (by k_in) rfl (by k_is) rfl rfl rfl); (case c5 => decide); (case kB => exact locs rfl); (case c2 => exact rfl); (case c3 => exact rfl); (case c4 => exact rfl); k_whole; intro g' L' h' FG' F' N' B' X' T'; (try dsimp only); (try k_lift B'); (try k_fold)))
  k_steps
  refine Stop.out ?_
  k_here
  refine' weave_lsts ?c0 ?c1 ?c2 ?c3 ?c4 ?c5 ?c6 ?c7 ?c8 ?c9 ?ca ?cb ?cc ?_
  (case c0 => exact rfl)
  (case c1 => k_asm)
  (case c2 => k_asm)
  (case c3 => is_list)
  (case c4 => is_list)
  (case c5 => assumption); (case c6 => assumption); (case c7 => assumption); (case c8 => exact rfl); (case c9 => rfl); (case ca => rfl); (case cb => decide); (case cc => decide)
  intro D' h' k' F' N' o1
  (try dsimp only)
  k_steps
  rename News h₀ L _ _ => Nz
  exact hret _ _ _ _ (by k_asm) (news_first Nz (fun p hp => by repeat (first | exact hp | refine List.Mem.tail _ ?_)))
end
def laidOf {α : Type} (i : Int) (a b : List α) : List α := if i = 0 then a ++ b else weave a b
theorem c_laidL (w : World) (p : Program) (loose : List Str) (mean : ExcName → Option Value) (mg mb : Str → Option Value)
  (dp un : Nat) (gd : Option (List Code)) (cn : Str) (cs : Scope) (a : Addr) (ccd : Value) (cl : List (Str × Addr)) (outer : List Env) (A₀ : Around) (base h₀ : Heap) (L : Addr) (m : Str → Option Value) (s : Shared) (Q E : Value → Shared → Prop) (rest : List (Addr × Obj))
  (hB : Below A₀ base outer h₀) (hF : Fr h₀ L s.heap m) (hX : (hd02.heap_39 w.params).In h₀) (hT : Top p loose mean mg mb h₀) (hk : cs.kind = .function)
  (hd : dp + 20 < recursionLimit) (hu : un + 100 < cLine)
  (l1 l2 : Addr) (i : Int) (hi : i = 0 ∨ i = 1) (ti : Tok) (vs1 vs2 : List Value) (k1 k2 : Nat) (hl : vs2.length = vs1.length) (hpos : 0 < vs1.length) (hsz : 2 * vs1.length ≤ sizeLine)
  (hNw : News h₀ L s.heap ((l1, listOf vs1.toArray k1) :: (l2, listOf vs2.toArray k2) :: rest))
  (hret : ∀ (D : Addr) (k : Nat) (h' : Heap) (tk' : Nat), Fr h₀ L h' m → News h₀ L h' ((D, listOf (laidOf i vs1 vs2).toArray k) :: (l1, listOf vs1.toArray k1) :: (l2, listOf vs2.toArray k2) :: rest) → Q (.ref D) { s with heap := h', toks := tk' }) :
  wpAny (model PySem.Challenge.rw_pg0294_02.row.prog w) (ktrTop dp un gd cn cs L a ccd cl outer) (call (.ref 236) [.int i ti, .ref l1, .ref l2]) Q E s := by
  rcases hi with rfl | rfl
  · exact c_laidL0 w p loose mean mg mb dp un gd cn cs a ccd cl outer A₀ base h₀ L m s Q E rest hB hF hX hT hk hd hu l1 l2 ti vs1 vs2 k1 k2 (by omega) (by omega) (by omega) hNw hret
  · exact c_laidL1 w p loose mean mg mb dp un gd cn cs a ccd cl outer A₀ base h₀ L m s Q E rest hB hF hX hT hk hd hu l1 l2 ti vs1 vs2 k1 k2 hl hpos hsz hNw hret
theorem c_laid (w : World) (p : Program) (loose : List Str) (mean : ExcName → Option Value) (mg mb : Str → Option Value)
  (dp un : Nat) (gd : Option (List Code)) (cn : Str) (cs : Scope) (a : Addr) (ccd : Value) (cl : List (Str × Addr)) (outer : List Env) (A₀ : Around) (base h₀ : Heap) (L : Addr) (m : Str → Option Value) (s : Shared) (Q E : Value → Shared → Prop) (rest : List (Addr × Obj))
  (hB : Below A₀ base outer h₀) (hF : Fr h₀ L s.heap m) (hX : (hd02.heap_39 w.params).In h₀) (hT : Top p loose mean mg mb h₀) (hk : cs.kind = .function)
  (hd : dp + 20 < recursionLimit) (hu : un + 100 < cLine)
  (i : Int) (hi : i = 0 ∨ i = 1) (t1 t2 : Str) (ti tt1 tt2 : Tok) (a1 : t1.cps.all (· < 128) = true) (a2 : t2.cps.all (· < 128) = true) (hl : t2.cps.size = t1.cps.size) (hpos : 0 < t1.cps.size) (hsz : 2 * t1.cps.size ≤ sizeLine)
  (hNw : News h₀ L s.heap rest)
  (hret : ∀ (D : Addr) (k : Nat) (ys : List Value) (h' : Heap) (tk' : Nat), SignsAre ys (laidOf i t1.cps.toList t2.cps.toList) → Fr h₀ L h' m → News h₀ L h' ((D, listOf ys.toArray k) :: rest) → Q (.ref D) { s with heap := h', toks := tk' }) :
  wpAny (model PySem.Challenge.rw_pg0294_02.row.prog w) (ktrTop dp un gd cn cs L a ccd cl outer) (call (.ref 236) [.int i ti, .str t1 tt1, .str t2 tt2]) Q E s := by
  have e1 : t1.length = t1.cps.size := rfl
  have e2 : t2.length = t2.cps.size := rfl
  rcases hi with rfl | rfl
  · exact c_laid0 w p loose mean mg mb dp un gd cn cs a ccd cl outer A₀ base h₀ L m s Q E rest hB hF hX hT hk hd hu t1 t2 ti tt1 tt2 (by omega) (by omega) (by rw [Array.length_toList, Array.length_toList]; omega) hNw hret
  · exact c_laid1 w p loose mean mg mb dp un gd cn cs a ccd cl outer A₀ base h₀ L m s Q E rest hB hF hX hT hk hd hu t1 t2 ti tt1 tt2 a1 a2 hl hpos hsz hNw hret
end
local macro_rules | `(tactic| walk_at "idle") => `(tactic| fail)
local macro_rules | `(tactic| walk_at "idle") => `(tactic| fail)
local macro_rules | `(tactic| walk_at "idle") => `(tactic| fail)
local macro_rules | `(tactic| walk_at "idle") => `(tactic| fail)
local macro_rules | `(tactic| walk_at "idle") => `(tactic| fail)
local macro_rules | `(tactic| walk_at "idle") => `(tactic| fail)
local macro_rules | `(tactic| walk_at "idle") => `(tactic| fail)
theorem calm_mid : True := by w_top off; exact True.intro
section
def MidAt (h₀ : Heap) (L : Addr) (s : Shared) (P : (Str → Option Value) → List (Addr × Obj) → Prop) (f : Flow) (s' : Shared) : Prop :=
  f = .next ∧ ∃ h' tk' m' news', s' = { s with heap := h', toks := tk' } ∧ Fr h₀ L h' m' ∧ News h₀ L h' news' ∧ P m' news'
theorem mid_at {M : Model} {A : Around} {E : Value → Shared → Prop} {s : Shared} {h₀ : Heap} {L : Addr} {m : Str → Option Value} {t : Sem Flow} {Q : Flow → Shared → Prop} (_F : Fr h₀ L s.heap m) (P : (Str → Option Value) → List (Addr × Obj) → Prop)
    (h1 : wpAny M A t (MidAt h₀ L s P) E s) (h2 : ∀ h' tk' m' news', Fr h₀ L h' m' → News h₀ L h' news' → P m' news' → Q .next { s with heap := h', toks := tk' }) : wpAny M A t Q E s :=
  wpAny_mono h1 (fun f s' h => by
    obtain ⟨rfl, h', tk', m', news', rfl, F, N, p⟩ := h
    exact h2 h' tk' m' news' F N p) fun _ _ e => e
theorem MidAt.intro {h₀ : Heap} {L : Addr} {s : Shared} {P : (Str → Option Value) → List (Addr × Obj) → Prop} {h' : Heap} {tk' : Nat} {m' : Str → Option Value} {news' : List (Addr × Obj)} (F : Fr h₀ L h' m') (N : News h₀ L h' news') (p : P m' news') :
    MidAt h₀ L s P .next { s with heap := h', toks := tk' } := ⟨rfl, h', tk', m', news', rfl, F, N, p⟩
end
theorem calm_lists_plain : True := by w_top off; exact True.intro
section
section
variable {prog : Program} {w : World} {A : Around} {E : Value → Shared → Prop} {s : Shared} {h₀ : Heap} {L : Addr} {m : Str → Option Value} {env : Env}
theorem rev_vals {l : Addr} {news : List (Addr × Obj)} {value slice : PySem.Expr} {vs : List Value} {vk : Value} {ops : List Value} {Q : Value → Shared → Prop}
    (F : Fr h₀ L s.heap m) (N : News h₀ L s.heap news) (hl : s.heap.IsList l vs.toArray) (pk : IsPart vk (some (-1))) (hz : vs.length ≤ sizeLine)
    (h : ∀ D h', Fr h₀ L h' m → News h₀ L h' ((D, listOf vs.reverse.toArray 0) :: news) → (∀ p ∈ news, p.1 < D) → Q (.ref D) { s with heap := h' })
    (hs : subscripted slice false (.ref l) (.ref s.heap.objs.size) = operate ops (getItem (.ref l) (.ref s.heap.objs.size))) (ht : ∀ r, letTemporaryGo value (.ref l) r = pure ()) :
    wpAny (model prog w) A (subscriptTail value slice (.ref l) (.ref s.heap.objs.size)) Q E { s with heap := s.heap.push { cls := .type "slice", data := .fields #[.none, .none, vk] } } :=
  krv_lit (its := vs.toArray) (zs := vs.reverse) F N hl pk rfl h hs ht (by simpa using hz)
theorem negs_rest {x : Str} {px pu : Pos} {scope : Scope} {cl : List (Str × Addr)} {Fin : List Value → List (Addr × Obj) → Prop} {ax : Addr} {kx : Nat} {vs : List Value} {ns : List Int} {news : List (Addr × Obj)}
    (hi : IntsAre vs ns) (hm : (ax, ({ cls := .type "list", data := .seq vs.toArray kx } : Obj)) ∈ news) (hkind : scope.kind = .function) (hx : scope.names.lookup x = some .local) (dx : (x == ("__debug__" : Str)) = false)
    (fin : ∀ ys, IntsAre ys (ns.map (- ·)) → Fin ys news) :
    LCg.CompRest prog w A h₀ L m env (.UnaryOp .USub (.Name x px) pu) x scope cl s (LCg.SrcAt h₀ ax vs.toArray) (fun i v => vs.toArray[i]? = some v) Fin vs.toArray.size 0 [] news := by
  have hl := hi.length
  have go : ∀ (k i : Nat) (ys : List Value), i + k = vs.length → IntsAre ys ((ns.take i).map (- ·)) →
      LCg.CompRest prog w A h₀ L m env (.UnaryOp .USub (.Name x px) pu) x scope cl s (LCg.SrcAt h₀ ax vs.toArray) (fun i v => vs.toArray[i]? = some v) Fin k i ys news := by
    intro k
    induction k with
    | zero =>
      intro i ys hik hy
      refine LCg.CompRest.zero (fin ys ?_)
      rw [List.take_of_length_le (by omega)] at hy
      exact hy
    | succ k ih =>
      intro i ys hik hy
      refine LCg.CompRest.succ (fun v I oI C oC D m₂ h tk E' hv hC hmx F N off ne => ?_)
      have hlt : i < ns.length := by omega
      have hv' : vs[i]? = some v := by simpa using hv
      obtain ⟨t, ht⟩ := IntsAre.get hi i ns[i] (List.getElem?_eq_getElem hlt)
      have hvt : v = .int ns[i] t := Option.some.inj (hv'.symm.trans ht)
      subst hvt
      refine UnaryOp_ (ldVarK (hk := hkind) (hl := lookup_relabel_local hx) (hd := dx) (hC.ns (N _ (.tail _ (.head _))).1) hmx (neg_int ?_))
      refine ⟨h, _, news, rfl, F, N, off, .inr ⟨_, hm, rfl, _, rfl⟩, ih (i + 1) _ (by omega) ?_⟩
      have e : ns.take (i + 1) = ns.take i ++ [ns[i]] := by rw [List.take_succ, List.getElem?_eq_getElem hlt]; rfl
      rw [e, List.map_append]
      exact IntsAre.append hy (.cons _ _ .nil)
  have e : vs.toArray.size = vs.length := by simp
  rw [e]
  exact go vs.length 0 [] (by omega) .nil
end
theorem off_cons {I : Addr} {x : Addr × Obj} {l : List (Addr × Obj)} (h : x.1 ≠ I) (r : ∀ p ∈ l, p.1 ≠ I) : ∀ p ∈ x :: l, p.1 ≠ I := fun p hp => by
  rcases List.mem_cons.mp hp with rfl | hp
  · exact h
  · exact r p hp
end
theorem calm_lists : True := by w_top off; exact True.intro
section
def gstep (v : Int) (r : List Int × List Int) : List Int × List Int :=
  let s := if (v.fdiv 2).fmod 2 ≠ 0 then r.2.reverse else r.2
  let f := if (v.fdiv 4).fmod 2 ≠ 0 then r.1.map (- ·) else r.1
  (laidOf (v.fmod 2) f s, laidOf (v.fmod 2) f (s.map (- ·)))
theorem laid_length {α : Type} {i : Int} {a b : List α} (h : a.length = b.length) : (laidOf i a b).length = 2 * a.length := by
  unfold laidOf
  split
  · rw [List.length_append]; omega
  · exact weave_length h
theorem ints_laid {i : Int} {va vb : List Value} {na nb : List Int} (h1 : IntsAre va na) (h2 : IntsAre vb nb) : IntsAre (laidOf i va vb) (laidOf i na nb) := by
  unfold laidOf
  split
  · exact IntsAre.append h1 h2
  · exact ints_weave h1 h2
theorem if_len {p : Prop} [Decidable p] {α : Type} {a b : List α} {k : Nat} (h1 : a.length = k) (h2 : b.length = k) : (if p then a else b).length = k := by split <;> assumption
theorem sub_cons {α : Type} {x : α} {l l' : List α} (hx : x ∈ l) (h : ∀ p ∈ l', p ∈ l) : ∀ p ∈ x :: l', p ∈ l := fun p hp => by
  rcases List.mem_cons.mp hp with rfl | hp
  · exact hx
  · exact h p hp
theorem news_sub {h₀ h : Heap} {L : Addr} {l l' : List (Addr × Obj)} (N : News h₀ L h l) (s : ∀ p ∈ l', p ∈ l) : News h₀ L h l' := fun p hp => N p (s p hp)
theorem ne_cls {h₀ h : Heap} {L : Addr} {news : List (Addr × Obj)} {a b : Addr} {o o' : Obj} {n n' : String} (N : News h₀ L h news) (hp : (a, o) ∈ news) (hq : (b, o') ∈ news) (c1 : o.cls = .type n) (c2 : o'.cls = .type n') (hn : n ≠ n') : a ≠ b := by
  rintro rfl
  have h1 := (N _ hp).1
  have h2 := (N _ hq).1
  rw [h1] at h2
  cases h2
  rw [c1] at c2
  exact hn (Value.type.inj c2)
theorem fmod2 (n : Int) : n.fmod 2 = 0 ∨ n.fmod 2 = 1 := by
  rw [Int.fmod_eq_emod_of_nonneg _ (by decide)]; omega
section
local macro_rules | `(tactic| k_room) => `(tactic| ktr_room)
local macro_rules | `(tactic| is_list) => `(tactic| exact News.isList (by k_asm) (by k_mem))
local macro_rules | `(tactic| walk_at "exec For Name Name cons nil") => `(tactic| (k_here; (rename Fr _ _ _ _ => lF'); (with_unfolding_all refine' For_turns lF' ?_; k_whole)))
local macro_rules | `(tactic| walk_at "pyIter ref") => `(tactic| (refine Stop.mk ?_))
local macro_rules | `(tactic| walk_at "exec If") => `(tactic| (refine Stop.mk ?_))
local macro_rules | `(tactic| walk_at "subscriptTail Name Slice ref ref") => `(tactic| (k_here; k_dflt (refine' rev_vals ?F ?N ?l ?k ?z ?_ ?s ?t; (case F => k_asm); (case N => k_asm); (case l => is_list); (case k => exact IsPart.int _ _); (case z => assumption); (case s => with_unfolding_all rfl); (case t => kmk_pure)); intro D' h' F' N' l1; (try k_lt l1)))
local macro_rules | `(tactic| walk_at "exec Assign cons ListComp") => `(tactic| (k_here; k_dflt (refine LCg.Assign_ListComp_U (F₀ := by k_asm) (by rfl) (by with_unfolding_all rfl) (by rfl) (by decide) (by rfl) (by decide) (by rfl) (by rfl) (by rfl) ?_); k_dflt lcg_toSrc))
local macro_rules | `(tactic| walk_at "CompSrc") => `(tactic| (k_here; k_dflt (refine' LCg.CompSrc.ledger ?c1 ?c2 ?c3 ?c4 ?c5 ?_; (case c1 => rfl); (case c2 => k_asm); (case c3 => k_asm); (case c4 => k_mem); (case c5 => simp only [List.size_toArray]; assumption)); intro g'; k_dflt (refine' negs_rest ?d1 ?d2 ?d3 ?d4 ?d5 ?_; (case d1 => assumption); (case d2 => k_mem); (case d3 => rfl); (case d4 => rfl); (case d5 => decide)); intro ys' hy'))
local macro_rules | `(tactic| walk_at "UnrEndW") => `(tactic| (refine Stop.mk ?_))
local macro_rules | `(tactic| walk_at "call ref") => `(tactic| (refine Stop.mk ?_))
local macro_rules | `(tactic| walk_at "eval Name") => `(tactic| (k_here; k_dflt (refine' ld ?k1 ?k2 ?_; (case k1 => k_asm); (case k2 => first | assumption | exact if_pos rfl | exact (if_neg (by decide)).trans (by assumption) | exact (if_neg (by decide)).trans (if_pos rfl) | exact (if_neg (by decide)).trans ((if_neg (by decide)).trans (by assumption)) | exact (if_neg (by decide)).trans ((if_neg (by decide)).trans (if_pos rfl)) | exact (if_neg (by decide)).trans ((if_neg (by decide)).trans ((if_neg (by decide)).trans (by assumption))) | exact rfl); k_whole)))
theorem c_lists (w : World) (p : Program) (loose : List Str) (mean : ExcName → Option Value) (mg mb : Str → Option Value)
  (dp un : Nat) (gd : Option (List Code)) (cn : Str) (cs : Scope) (a : Addr) (ccd : Value) (cl : List (Str × Addr)) (outer : List Env) (A₀ : Around) (base h₀ : Heap) (L : Addr) (m : Str → Option Value) (s : Shared) (Q E : Value → Shared → Prop) (rest : List (Addr × Obj))
  (hB : Below A₀ base outer h₀) (hF : Fr h₀ L s.heap m) (hX : (hd02.heap_39 w.params).In h₀) (hT : Top p loose mean mg mb h₀) (hk : cs.kind = .function)
  (hd : dp + 40 < recursionLimit) (hu : un + 200 < cLine)
  (l : Addr) (kl : Nat) (vs : List Value) (ns : List Int) (hi : IntsAre vs ns) (hl : ns.length = 3)
  (hNw : News h₀ L s.heap ((l, listOf vs.toArray kl) :: rest))
  (hret : ∀ (r d1 d2 : Addr) (k1 k2 kt : Nat) (ys1 ys2 : List Value) (h' : Heap) (tk' : Nat), IntsAre ys1 (ns.foldl (fun r v => gstep v r) ([1], [1])).1 → IntsAre ys2 (ns.foldl (fun r v => gstep v r) ([1], [1])).2 → Fr h₀ L h' m →
    News h₀ L h' ((r, ({ cls := .type "tuple", data := .seq #[.ref d1, .ref d2] kt } : Obj)) :: (d1, listOf ys1.toArray k1) :: (d2, listOf ys2.toArray k2) :: (l, listOf vs.toArray kl) :: rest) → Q (.ref r) { s with heap := h', toks := tk' }) :
  wpAny (model PySem.Challenge.rw_pg0294_02.row.prog w) (ktrTop dp un gd cn cs L a ccd cl outer) (call (.ref 246) [.ref l]) Q E s := by
  refine wpAny_call ?_
  k_dflt ((refine' code_def ?k1 ?k2 ?k3 ?k4 ?k5 ?kA ?kF ?kK ?k6 ?k7 ?k8 ?k9 ?kB ?_ ?c2 ?c3 ?c4 ?c5; (case kA => exact rfl); (case kF => exact rfl); (case kK => first | exact rfl | assumption); (case k1 => k_asm); (case k2 => k_asm); (case k3 => k_asm); (case k4 => k_asm); (case k5 => k_asm); (case k6 => k_is); (case k7 => k_is); (case k8 => ktr_room); (case k9 => first | exact BindsTo.of_eq rfl | exact binds_K (by k_in) rfl (by k_is) rfl rfl rfl); (case c5 => decide); (case kB => exact locs rfl); (case c2 => exact rfl); (case c3 => exact rfl); (case c4 => exact rfl); k_whole; intro g' L' h' FG' F' N' B' X' T'; (try dsimp only); (try k_lift B'); (try k_fold)))
  k_steps
  refine Stop.out ?_
  refine' iter_listTurns (lo := listOf vs.toArray kl) (vs := vs) (by with_unfolding_all rfl) (by k_asm) (by k_asm) (by k_mem) rfl rfl ?_
  intro i' l3
  try k_lt l3
  have hlI : l ≠ i' := Nat.ne_of_lt (by omega)
  have hrI : AllLt i' rest := l3.2.2.2
  have hf0 : _ ≠ i' := Nat.ne_of_lt l3.2.1
  have hg0 : _ ≠ i' := Nat.ne_of_lt l3.1
  refine' (?H : ∀ (rem : List Value) (ns' : List Int), IntsAre rem ns' → ∀ (r1 r2 : List Int) (vf vg : List Value) (f g : Addr) (kf kg : Nat) (m : Str → Option Value), IntsAre vf r1 → IntsAre vg r2 → r2.length = r1.length → 0 < r1.length → r1.length * 2 ^ ns'.length ≤ 8 →
      ns'.foldl (fun r v => gstep v r) (r1, r2) = ns.foldl (fun r v => gstep v r) ([1], [1]) → f ≠ i' → g ≠ i' →
      m (Str.ofString "first") = some (.ref f) → m (Str.ofString "second") = some (.ref g) →
      ItemsRest _ _ _ _ _ _ _ _ _ _ _ _ (rem.map .val) m ((g, listOf vg.toArray kg) :: (f, listOf vf.toArray kf) :: (l, listOf vs.toArray kl) :: rest)) vs ns hi [1] [1] [.int 1 _] [.int 1 _] _ _ _ _ _ (.cons _ _ .nil) (.cons _ _ .nil) rfl (by decide) (by rw [hl]; decide) rfl hf0 hg0 rfl rfl
  intro rem
  induction rem with
  | nil =>
    intro ns' hi' r1 r2 vf vg f g kf kg m i1 i2 hl2 hp hsz hfo hfI hgI m1 m2
    cases hi'
    refine ItemsRest.zero (fun h9 tk9 F9 N9 => ?_)
    (try dsimp only)
    k_steps
    rename News h₀ L _ _ => Nz
    have e9 : (r1, r2) = ns.foldl (fun r v => gstep v r) ([1], [1]) := hfo
    rw [← e9] at hret
    exact hret _ f g kf kg _ vf vg _ _ i1 i2 (by k_asm) (fun p hp => Nz p (by
      rcases List.mem_cons.mp hp with rfl | hp
      · exact .head _
      rcases List.mem_cons.mp hp with rfl | hp
      · exact .tail _ (.tail _ (.head _))
      rcases List.mem_cons.mp hp with rfl | hp
      · exact .tail _ (.head _)
      exact .tail _ (.tail _ (.tail _ hp))))
  | cons v rem ih =>
    intro ns' hi' r1 r2 vf vg f g kf kg m i1 i2 hl2 hp hsz hfo hfI hgI m1 m2
    cases hi' with | cons n tn hi' =>
    refine ItemsRest.val (fun h9 tk9 F9 => AllObj.cons fun o9 c9 => AllObj.nil fun N9 => ?_)
    (try simp only [List.cons_append, List.nil_append] at N9)
    (try dsimp only)
    k_steps
    refine Stop.out (mid_at (by k_asm) (fun m' news' => ∃ g' kg' ws, m' (Str.ofString "second") = some (.ref g') ∧ m' (Str.ofString "first") = some (.ref f) ∧ m' (Str.ofString "v") = some (.int n tn) ∧ IntsAre ws (if (n.fdiv 2).fmod 2 ≠ 0 then r2.reverse else r2) ∧ g' ≠ i' ∧ news' = (i', o9) :: (g', listOf ws.toArray kg') :: (f, listOf vf.toArray kf) :: (l, listOf vs.toArray kl) :: rest) ?_ ?_)
    · k_here
      have q2 := i2.length
      have hr8 : r1.length ≤ 8 := Nat.le_trans (Nat.le_mul_of_pos_right _ (Nat.two_pow_pos _)) hsz
      have hzg : vg.length ≤ sizeLine := by rw [sizeLine_eq]; omega
      refine wpAny_If ?_
      k_steps
      · rename News _ _ _ _ => kN
        rename ((n.fdiv 2).fmod 2 ≠ 0) => hc
        refine MidAt.intro (by k_asm) (news_sub kN ?_) ⟨_, 0, vg.reverse, by exact if_pos rfl, by exact (if_neg (by decide)).trans ((if_neg (by decide)).trans m1), by exact (if_neg (by decide)).trans (if_pos rfl), ?_, ?_, rfl⟩
        · exact sub_cons (.tail _ (.head _)) (sub_cons (.head _) (fun p hp => .tail _ (.tail _ (.tail _ hp))))
        · rw [if_pos hc]; exact IntsAre.reverse i2
        · exact ne_cls kN (o := listOf _ _) (o' := o9) (.head _) (.tail _ (.head _)) rfl c9 (show "list" ≠ "list_iterator" from by decide)
      · rename News _ _ _ _ => kN
        rename ((n.fdiv 2).fmod 2 = 0) => hc
        refine MidAt.intro (by k_asm) kN ⟨g, kg, vg, by exact (if_neg (by decide)).trans m2, by exact (if_neg (by decide)).trans m1, by exact if_pos rfl, ?_, hgI, rfl⟩
        rw [if_neg (by omega)]; exact i2
    · intro h8 tk8 m8 news8 F8 N8 M8
      obtain ⟨g8, kg8, ws8, e1, e2, e3, i8, hg8, rfl⟩ := M8
      (try dsimp only)
      have q1 := i1.length
      have q2 := i2.length
      have hr8 : r1.length ≤ 8 := Nat.le_trans (Nat.le_mul_of_pos_right _ (Nat.two_pow_pos _)) hsz
      have hzf : vf.length ≤ sizeLine := by rw [sizeLine_eq]; omega
      have q8 : ws8.length = r1.length := i8.length.trans (if_len (by rw [List.length_reverse, hl2]) hl2)
      have hz8 : ws8.length ≤ sizeLine := by rw [sizeLine_eq]; omega
      k_steps
      refine Stop.out (mid_at (by k_asm) (fun m' news' => ∃ f' kf' ws, m' (Str.ofString "first") = some (.ref f') ∧ m' (Str.ofString "second") = some (.ref g8) ∧ m' (Str.ofString "v") = some (.int n tn) ∧ IntsAre ws (if (n.fdiv 4).fmod 2 ≠ 0 then r1.map (- ·) else r1) ∧ f' ≠ i' ∧ news' = (f', listOf ws.toArray kf') :: (i', o9) :: (g8, listOf ws8.toArray kg8) :: (l, listOf vs.toArray kl) :: rest) ?_ ?_)
      · k_here
        refine wpAny_If ?_
        k_steps
        · rename News _ _ _ _ => kN
          rename ((n.fdiv 4).fmod 2 ≠ 0) => hc
          rename_i yT hyT DT hT' tT FT oT
          refine MidAt.intro (by k_asm) (news_sub kN ?_) ⟨DT, yT.length, yT, by exact if_pos rfl, by exact (if_neg (by decide)).trans e1, by exact (if_neg (by decide)).trans e3, ?_, ?_, rfl⟩
          · exact sub_cons (.head _) (sub_cons (.tail _ (.head _)) (sub_cons (.tail _ (.tail _ (.head _))) (fun p hp => .tail _ (.tail _ (.tail _ (.tail _ hp))))))
          · rw [if_pos hc]; exact hyT
          · exact ne_cls kN (o := LCg.lst _) (o' := o9) (.head _) (.tail _ (.head _)) rfl c9 (show "list" ≠ "list_iterator" from by decide)
        · rename News _ _ _ _ => kN
          rename ((n.fdiv 4).fmod 2 = 0) => hc
          refine MidAt.intro (by k_asm) (news_sub kN (sub_cons ?_ (sub_cons ?_ (sub_cons ?_ (fun p hp => .tail _ (.tail _ (.tail _ hp))))))) ⟨f, kf, vf, e2, e1, e3, ?_, hfI, rfl⟩
          · exact .tail _ (.tail _ (.head _))
          · exact .head _
          · exact .tail _ (.head _)
          · rw [if_neg (by omega)]; exact i1
      · intro h8 tk8 m8 news8 F8 N8 M8
        obtain ⟨f8, kf8, wf8, e1, e2, e3, i8, hf8, rfl⟩ := M8
        (try dsimp only)
        have w8 : wf8.length = r1.length := IntsAre.length (by assumption : IntsAre wf8 _) |>.trans (if_len (by rw [List.length_map]) rfl)
        have hzf : wf8.length ≤ sizeLine := by rw [sizeLine_eq]; omega
        have hl8 : ws8.length = wf8.length := by omega
        have hp8 : 0 < wf8.length := by omega
        have hs8 : 2 * wf8.length ≤ sizeLine := by rw [sizeLine_eq]; omega
        k_steps
        rename_i yT hyT DT hT' tT FT kN oT
        refine' Stop.out (c_laidL w p loose mean mg mb _ _ _ _ _ _ _ _ _ _ _ _ _ _ _ _ _ _ ?B ?F ?X ?T ?K ?D ?U f8 g8 _ ?hi _ wf8 ws8 _ _ hl8 hp8 hs8 (news_cons (news_cons kN ?m2) ?m1) ?ret)
        (case B => k_asm)
        (case F => k_asm)
        (case X => k_asm)
        (case T => k_asm)
        (case K => exact rfl)
        (case D => ktr_room)
        (case U => ktr_units)
        (case hi => exact fmod2 _)
        (case m2 => k_mem)
        (case m1 => exact .tail _ (by k_mem))
        intro D7 k7 h7 tk7 F7 N7
        replace N7 := news_first (r := _) N7 (fun p hp => .tail _ (.tail _ (.tail _ hp)))
        clear kN
        (try dsimp only)
        k_steps
        have hy8 := hyT
        rename News _ _ _ ((D7, _) :: (_, _) :: _) => kN
        refine' Stop.out (c_laidL w p loose mean mg mb _ _ _ _ _ _ _ _ _ _ _ _ _ _ _ _ _ _ ?Bb ?Fb ?Xb ?Tb ?Kb ?Db ?Ub f8 DT _ ?hib _ wf8 yT kf8 yT.length ?hl9 hp8 hs8 (news_cons (news_cons kN ?m2b) ?m1b) ?retb)
        (case Bb => k_asm)
        (case Fb => k_asm)
        (case Xb => k_asm)
        (case Tb => k_asm)
        (case Kb => exact rfl)
        (case Db => ktr_room)
        (case Ub => ktr_units)
        (case hib => exact fmod2 _)
        (case m2b => exact .tail _ (.head _))
        (case m1b => exact .tail _ (by k_mem))
        (case hl9 => exact (hy8.length.trans (by rw [List.length_map]; exact if_len (by rw [List.length_reverse, hl2]) hl2)).trans w8.symm)
        intro D6 k6 h6 tk6 F6 N6
        replace N6 := news_first (r := _) N6 (fun p hp => .tail _ (.tail _ (.tail _ hp)))
        clear kN
        (try dsimp only)
        k_steps
        rename News _ _ _ _ => kN
        have n7 : D7 ≠ i' := ne_cls kN (o := listOf _ _) (o' := o9) (by k_mem) (by k_mem) rfl c9 (show "list" ≠ "list_iterator" from by decide)
        have n6 : D6 ≠ i' := ne_cls kN (o := listOf _ _) (o' := o9) (by k_mem) (by k_mem) rfl c9 (show "list" ≠ "list_iterator" from by decide)
        refine Stop.out (unrEnd_one (news' := (D6, listOf (laidOf (n.fmod 2) wf8 yT).toArray k6) :: (D7, listOf (laidOf (n.fmod 2) wf8 ws8).toArray k7) :: (l, listOf vs.toArray kl) :: rest) (by k_asm)
          (news_sub kN (sub_cons (by k_mem) (sub_cons (by k_mem) (sub_cons (by k_mem) (sub_cons (by k_mem) (fun p hp => by repeat (first | exact hp | refine List.Mem.tail _ ?_))))))) ?O ⟨?S, ?_⟩)
        (case O => exact off_cons n6 (off_cons n7 (off_cons hlI (allLt_off hrI))))
        (case S => k_subL)
        have lf : (if (n.fdiv 4).fmod 2 ≠ 0 then r1.map (- ·) else r1).length = r1.length := if_len (by rw [List.length_map]) rfl
        have ls : (if (n.fdiv 2).fmod 2 ≠ 0 then r2.reverse else r2).length = r1.length := if_len (by rw [List.length_reverse, hl2]) hl2
        refine ih _ hi' (laidOf (n.fmod 2) (if (n.fdiv 4).fmod 2 ≠ 0 then r1.map (- ·) else r1) (if (n.fdiv 2).fmod 2 ≠ 0 then r2.reverse else r2)) (laidOf (n.fmod 2) (if (n.fdiv 4).fmod 2 ≠ 0 then r1.map (- ·) else r1) ((if (n.fdiv 2).fmod 2 ≠ 0 then r2.reverse else r2).map (- ·))) _ _ D7 D6 k7 k6 _ (ints_laid (by assumption) (by assumption)) (ints_laid (by assumption) hy8) ?_ ?_ ?_ hfo n7 n6 ?_ ?_
        · rw [laid_length (lf.trans ls.symm), laid_length (lf.trans (by rw [List.length_map]; exact ls.symm))]
        · rw [laid_length (lf.trans ls.symm), lf]; omega
        · rw [laid_length (lf.trans ls.symm), lf]
          rw [List.length_cons, Nat.pow_succ] at hsz
          rw [Nat.mul_comm 2 r1.length, Nat.mul_assoc, Nat.mul_comm 2]
          exact hsz
        · exact (if_neg (by decide)).trans (if_pos rfl)
        · exact if_pos rfl
end
end
local macro_rules | `(tactic| walk_at "idle") => `(tactic| fail)
local macro_rules | `(tactic| walk_at "idle") => `(tactic| fail)
local macro_rules | `(tactic| walk_at "idle") => `(tactic| fail)
local macro_rules | `(tactic| walk_at "idle") => `(tactic| fail)
local macro_rules | `(tactic| walk_at "idle") => `(tactic| fail)
local macro_rules | `(tactic| walk_at "idle") => `(tactic| fail)
local macro_rules | `(tactic| walk_at "idle") => `(tactic| fail)
local macro_rules | `(tactic| walk_at "idle") => `(tactic| fail)
local macro_rules | `(tactic| walk_at "idle") => `(tactic| fail)
local macro_rules | `(tactic| walk_at "idle") => `(tactic| fail)
local macro_rules | `(tactic| walk_at "idle") => `(tactic| fail)
local macro_rules | `(tactic| walk_at "idle") => `(tactic| fail)
theorem calm_law_plain : True := by w_top off; exact True.intro
section
theorem script_size {vs : List Value} {ns : List Int} (h : IntsAre vs ns) (h63 : ¬ ((63 : Nat) : Int) < (ns.length : Int)) : vs.length ≤ sizeLine := by
  rw [h.length, sizeLine_eq]; omega
theorem pick_head (l : List Value) (k : Nat) : kms_pick l none (some (k : Int)) = l.take k := by
  unfold kms_pick kms_lo kms_hi
  simp only [if_neg (show ¬ (k : Int) < 0 by omega), Int.toNat_natCast, List.drop_zero, Nat.sub_zero]
  rw [← List.take_eq_take_min]
theorem pick_tail (l : List Value) (k : Nat) : kms_pick l (some (k : Int)) none = l.drop k := by
  unfold kms_pick kms_lo kms_hi
  simp only [if_neg (show ¬ (k : Int) < 0 by omega), Int.toNat_natCast]
  rcases Nat.le_total k l.length with h | h
  · rw [Nat.min_eq_left h, List.take_of_length_le (by rw [List.length_drop]; exact Nat.le_refl _)]
  · rw [Nat.min_eq_right h, List.drop_eq_nil_of_le (Nat.le_refl _), List.drop_eq_nil_of_le h, List.take_nil]
def nums3 (ns : List Int) : List Int := ns.take 3 ++ [1, 4, 2].drop ns.length
theorem nums3_len (ns : List Int) : (nums3 ns).length = 3 := by
  unfold nums3
  rw [List.length_append, List.length_take, List.length_drop]
  simp only [List.length_cons, List.length_nil]
  omega
theorem nums3_are {vs : List Value} {ns : List Int} (hI : IntsAre vs ns) (ta tb tc : Tok) :
    IntsAre (kms_pick vs.toArray.toList none (some 3) ++ kms_pick (#[.int 1 ta, .int 4 tb, .int 2 tc] : Array Value).toList (some (ns.length : Int)) none) (nums3 ns) := by
  have e1 := pick_head vs.toArray.toList 3
  have e2 := pick_tail (#[.int 1 ta, .int 4 tb, .int 2 tc] : Array Value).toList ns.length
  rw [show ((3 : Nat) : Int) = (3 : Int) from rfl] at e1
  rw [e1, e2]
  exact IntsAre.append (by simpa using IntsAre.take hI 3) (IntsAre.drop (.cons 1 ta (.cons 4 tb (.cons 2 tc .nil))) _)
theorem pick_small (vs : List Value) (x y z : Value) (k : Nat) : (kms_pick vs.toArray.toList none (some 3)).length + (kms_pick (#[x, y, z] : Array Value).toList (some (k : Int)) none).length ≤ sizeLine := by
  have e1 := pick_head vs.toArray.toList 3
  have e2 := pick_tail (#[x, y, z] : Array Value).toList k
  rw [show ((3 : Nat) : Int) = (3 : Int) from rfl] at e1
  rw [e1, e2, List.length_take, List.length_drop, sizeLine_eq]
  simp only [List.length_cons, List.length_nil]
  omega
end
theorem calm_law_plain2 : True := by w_top off; exact True.intro
section
def code (k : Int) : Nat := if k = 1 then 112 else 109
def tx (z : List Int) : Str := ⟨(z.map code).toArray⟩
def Sg (z : List Int) : Prop := ∀ k ∈ z, k = 1 ∨ k = -1
theorem Sg.rev {z : List Int} (h : Sg z) : Sg z.reverse := fun k hk => h k (List.mem_reverse.mp hk)
theorem Sg.neg {z : List Int} (h : Sg z) : Sg (z.map (- ·)) := fun k hk => by
  obtain ⟨j, hj, rfl⟩ := List.mem_map.mp hk
  rcases h j hj with rfl | rfl
  · exact .inr rfl
  · exact .inl rfl
theorem mem_weave {α : Type} {x : α} : ∀ {a b : List α}, x ∈ weave a b → x ∈ a ∨ x ∈ b
  | [], _, h => by simp [weave] at h
  | _ :: _, [], h => by simp [weave] at h
  | y :: a, z :: b, h => by
    simp only [weave, List.mem_cons] at h ⊢
    rcases h with h | h | h
    · exact .inl (.inl h)
    · exact .inr (.inl h)
    · rcases mem_weave h with h | h
      · exact .inl (.inr h)
      · exact .inr (.inr h)
theorem Sg.laid {i : Int} {a b : List Int} (h1 : Sg a) (h2 : Sg b) : Sg (laidOf i a b) := fun k hk => by
  unfold laidOf at hk
  split at hk
  · rcases List.mem_append.mp hk with h | h
    · exact h1 k h
    · exact h2 k h
  · rcases mem_weave hk with h | h
    · exact h1 k h
    · exact h2 k h
theorem Sg.ite {p : Prop} [Decidable p] {a b : List Int} (h1 : Sg a) (h2 : Sg b) : Sg (if p then a else b) := by split <;> assumption
theorem tx_codes (z : List Int) : (tx z).cps.toList = z.map code := rfl
theorem tx_size (z : List Int) : (tx z).cps.size = z.length := by simp [tx]
theorem tx_len (z : List Int) : (tx z).length = z.length := tx_size z
theorem code_two (k : Int) : code k = 112 ∨ code k = 109 := by unfold code; split <;> simp
theorem tx_ascii (z : List Int) : (tx z).cps.all (· < 128) = true := by
  rw [Array.all_eq_true]
  intro i hi
  have : (tx z).cps[i] ∈ (tx z).cps.toList := by simp
  rw [tx_codes] at this
  obtain ⟨k, _, e⟩ := List.mem_map.mp this
  rw [← e]
  rcases code_two k with h | h <;> rw [h] <;> decide
theorem tx_safe (z : List Int) : Safe (tx z) := fun c hc => by
  rw [tx_codes] at hc
  obtain ⟨k, _, rfl⟩ := List.mem_map.mp hc
  rcases code_two k with h | h <;> rw [h] <;> decide
theorem map_weave {α β : Type} (f : α → β) : ∀ (a b : List α), (weave a b).map f = weave (a.map f) (b.map f)
  | [], _ => rfl
  | _ :: _, [] => rfl
  | _ :: a, _ :: b => by simp only [weave, List.map_cons, map_weave f a b]
theorem map_laid {α β : Type} (f : α → β) (i : Int) (a b : List α) : (laidOf i a b).map f = laidOf i (a.map f) (b.map f) := by
  unfold laidOf
  split
  · exact List.map_append
  · exact map_weave f a b
theorem join_signs : ∀ cs : List Nat, Txt.join (Str.ofString "") (cs.map fun c => (⟨#[c]⟩ : Str)) = ⟨cs.toArray⟩ := by
  have e0 : Str.ofString "" = (⟨#[]⟩ : Str) := by decide +kernel
  have add : ∀ a b : List Nat, (⟨a.toArray⟩ : Str) ++ (⟨b.toArray⟩ : Str) = ⟨(a ++ b).toArray⟩ := fun a b => by
    refine Str.ext' ?_
    rw [Str.cps_append]
    simp
  intro cs
  show Builtin.Str.glued _ _ = _
  rw [StrLaws.glued_eq_join, e0]
  induction cs with
  | nil => rfl
  | cons c r ih =>
    cases r with
    | nil => rfl
    | cons d r =>
      show (⟨[c].toArray⟩ : Str) ++ (⟨([] : List Nat).toArray⟩ : Str) ++ Str.join _ ((d :: r).map fun c => (⟨#[c]⟩ : Str)) = _
      rw [ih, add, add]
      rfl
theorem join_laid (i : Int) (a b : List Int) : Txt.join (Str.ofString "") ((laidOf i (tx a).cps.toList (tx b).cps.toList).map fun c => (⟨#[c]⟩ : Str)) = tx (laidOf i a b) := by
  rw [join_signs, tx_codes, tx_codes, ← map_laid]
  rfl
def sg (b : Bool) : Int := if b then 1 else -1
theorem sg_list : ∀ {z : List Int}, Sg z → ∃ b : List Bool, z = b.map sg ∧ b.length = z.length
  | [], _ => ⟨[], rfl, rfl⟩
  | k :: z, h => by
    obtain ⟨b, e, l⟩ := sg_list (z := z) fun j hj => h j (.tail _ hj)
    rcases h k (.head _) with rfl | rfl
    · exact ⟨true :: b, by rw [e]; rfl, by simp [l]⟩
    · exact ⟨false :: b, by rw [e]; rfl, by simp [l]⟩
def bools : Nat → List (List Bool)
  | 0 => [[]]
  | n + 1 => (bools n).flatMap fun b => [true :: b, false :: b]
theorem mem_bools : ∀ b : List Bool, b ∈ bools b.length
  | [] => .head _
  | x :: b => by
    rw [List.length_cons, bools, List.mem_flatMap]
    refine ⟨b, mem_bools b, ?_⟩
    cases x <;> simp
def midP (z : List Int) : Str := ⟨(z.map fun k => if k = 1 then 120 else 109).toArray⟩
def midM (z : List Int) : Str := ⟨(z.map fun k => if k = 1 then 120 else 112).toArray⟩
def repB (x y z x' : Str) : Bool := decide (Txt.join z (Txt.split x y) = x') && decide (((Txt.split x y).map (·.length)).sum + (Txt.split x y).length ≤ 1048576) && decide (x.length ≤ 1000000) && decide ((y.length == 0) = false) && decide (z.length ≤ 16)
theorem repB_rep {x y z x' : Str} (h : repB x y z x' = true) : Rep x y z x' := by
  unfold repB at h
  rw [Bool.and_eq_true, Bool.and_eq_true, Bool.and_eq_true, Bool.and_eq_true] at h
  obtain ⟨⟨⟨⟨a, b⟩, c⟩, d⟩, e⟩ := h
  exact ⟨of_decide_eq_true a, of_decide_eq_true b, of_decide_eq_true c, of_decide_eq_true d, of_decide_eq_true e⟩
theorem chg_repsB : ∀ n ∈ [1, 2, 4], ∀ b ∈ bools n, repB (tx (b.map sg)) (Str.ofString "p") (Str.ofString "x") (midP (b.map sg)) = true ∧ repB (midP (b.map sg)) (Str.ofString "m") (Str.ofString "p") (midM (b.map sg)) = true ∧ repB (midM (b.map sg)) (Str.ofString "x") (Str.ofString "m") (tx ((b.map sg).map (- ·))) = true := by
  decide +kernel
theorem chg_reps (n : Nat) (hn : n ∈ [1, 2, 4]) (b : List Bool) (hb : b ∈ bools n) : Rep (tx (b.map sg)) (Str.ofString "p") (Str.ofString "x") (midP (b.map sg)) ∧ Rep (midP (b.map sg)) (Str.ofString "m") (Str.ofString "p") (midM (b.map sg)) ∧ Rep (midM (b.map sg)) (Str.ofString "x") (Str.ofString "m") (tx ((b.map sg).map (- ·))) :=
  ⟨repB_rep (chg_repsB n hn b hb).1, repB_rep (chg_repsB n hn b hb).2.1, repB_rep (chg_repsB n hn b hb).2.2⟩
theorem chg_rep {z : List Int} (h : Sg z) (hn : z.length ∈ [1, 2, 4]) : Rep (tx z) (Str.ofString "p") (Str.ofString "x") (midP z) ∧ Rep (midP z) (Str.ofString "m") (Str.ofString "p") (midM z) ∧ Rep (midM z) (Str.ofString "x") (Str.ofString "m") (tx (z.map (- ·))) := by
  obtain ⟨b, rfl, hb⟩ := sg_list h
  rw [← hb] at hn
  exact chg_reps _ hn b (mem_bools b)
theorem two_item {prog : Program} {w : World} {A : Around} {E : Value → Shared → Prop} {s : Shared} {value slice : PySem.Expr} {l : Addr} {a b : Str} {ta tb : Tok} {i : Int} {u : Tok} {Q : Value → Shared → Prop}
    (hl : s.heap.IsList l #[.str a ta, .str b tb]) (hi : i = 0 ∨ i = 1) (h : ∀ x t, x = a ∨ x = b → Q (.str x t) s)
    (hs : subscripted slice false (.ref l) (.int i u) = operate [.ref l, .int i u] (getItem (.ref l) (.int i u))) :
    wpAny (model prog w) A (subscriptTail value slice (.ref l) (.int i u)) Q E s := by
  rcases hi with rfl | rfl
  · exact tail_any hl.typeIs slot_list_getitem.lookup (wpAny_getItem_list hl (by decide) (by decide) rfl (h _ _ (.inl rfl))) hs
  · exact tail_any hl.typeIs slot_list_getitem.lookup (wpAny_getItem_list hl (by decide) (by decide) rfl (h _ _ (.inr rfl))) hs
theorem join_laid_K {prog : Program} {w : World} {A : Around} {E : Value → Shared → Prop} {s : Shared} {D : Addr} {t : Tok} {ys : List Value} {i : Int} {a b : List Int} {Q : Value → Shared → Prop} (hl : s.heap.IsList D ys.toArray) (hs : SignsAre ys (laidOf i (tx a).cps.toList (tx b).cps.toList))
    (hsz : (laidOf i a b).length ≤ 1000) (h : ∀ t' k, Q (.str (tx (laidOf i a b)) t') { s with toks := k }) : wpAny (model prog w) A (call (.builtin "str.join") [.str (Str.ofString "") t, .ref D]) Q E s := by
  have e : (laidOf i (tx a).cps.toList (tx b).cps.toList).length = (laidOf i a b).length := by rw [tx_codes, tx_codes, ← map_laid, List.length_map]
  refine join_listW hl hs (by decide) ?_ ?_
  · rw [List.map_map, List.length_map, e]
    have h1 : ∀ l : List Nat, (l.map ((fun x : Str => x.length) ∘ fun c => (⟨#[c]⟩ : Str))).sum = l.length := fun l => by
      induction l with
      | nil => rfl
      | cons c r ih => rw [List.map_cons, List.sum_cons, ih, List.length_cons]; show 1 + _ = _; omega
    rw [h1, e]
    omega
  · rw [join_laid]; exact h
theorem len124 {a k : Nat} (h : a * 2 ^ (k + 1) = 8) : a ∈ [1, 2, 4] ∧ (2 * a) * 2 ^ k = 8 := by
  have h2 : (2 * a) * 2 ^ k = 8 := by rw [← h, Nat.pow_succ, Nat.mul_comm 2 a, Nat.mul_assoc, Nat.mul_comm 2]
  refine ⟨?_, h2⟩
  rcases k with _ | _ | _ | k
  · have : a = 4 := by omega
    subst this; simp
  · have : a = 2 := by omega
    subst this; simp
  · have : a = 1 := by omega
    subst this; simp
  · have e : a * 2 ^ (k + 3 + 1) = 16 * (a * 2 ^ k) := by rw [Nat.pow_add 2 k 4, ← Nat.mul_assoc, Nat.mul_comm]
    rw [show k + 1 + 1 + 1 + 1 = k + 3 + 1 from rfl] at h
    omega
theorem rev_range (l : List Nat) : ((List.range l.length).map fun k => l.toArray.getD (l.length - 1 - k) 0) = l.reverse := by
  apply List.ext_getElem
  · simp
  · intro i h1 h2
    simp only [List.length_map, List.length_range] at h1
    have h3 : l.length - 1 - i < l.length := by omega
    simp [Array.getD, List.getElem_reverse, h3]
theorem sliceBy_tx (z : List Int) (u : Tok) : Txt.sliceBy (tx z) none none (-1, u) = tx z.reverse := by
  have h := step_rev_list (tx z) u
  have e : (tx z).length = (z.map code).length := by rw [tx_len, List.length_map]
  rw [e] at h
  have h2 : (Txt.sliceBy (tx z) none none (-1, u)).cps.toList = (z.map code).reverse := h.trans (rev_range _)
  refine Str.ext' ?_
  apply Array.toList_inj.mp
  rw [h2, tx_codes, List.map_reverse]
theorem rev_tx {prog : Program} {w : World} {A : Around} {E : Value → Shared → Prop} {s : Shared} {value slice : PySem.Expr} {z : List Int} {t uk : Tok} {h₀ : Heap} {L : Addr} {m : Str → Option Value} {news : List (Addr × Obj)} {Q : Value → Shared → Prop} (hF : Fr h₀ L s.heap m) (hN : News h₀ L s.heap news) (hz : z.length ≤ 1000)
    (h : ∀ h' t' c, Fr h₀ L h' m → News h₀ L h' news → Q (.str (tx z.reverse) t') { s with heap := h', toks := c })
    (hs : subscripted slice false (.str (tx z) t) (.ref s.heap.objs.size) = operate [.ref s.heap.objs.size, .str (tx z) t] (getItem (.str (tx z) t) (.ref s.heap.objs.size)))
    (ht : ∀ r, letTemporaryGo value (.str (tx z) t) r = pure ()) :
    wpAny (model prog w) A (subscriptTail value slice (.str (tx z) t) (.ref s.heap.objs.size)) Q E { s with heap := s.heap.push { cls := .type "slice", data := .fields #[.none, .none, .int (-1) uk] } } := by
  refine slice_strK_nn hF hN (by decide) (fun h' t' c F' N' => ?_) hs ht (by rw [tx_len, sizeLine_eq]; omega)
  rw [sliceBy_tx]
  exact h h' t' c F' N'
end
theorem calm_hd_len : True := by w_top off; exact True.intro
section
section
local macro_rules | `(tactic| k_room) => `(tactic| ktr_room)
theorem c_len (w : World) (p : Program) (loose : List Str) (mean : ExcName → Option Value) (mg mb : Str → Option Value)
  (dp un : Nat) (gd : Option (List Code)) (cn : Str) (cs : Scope) (a : Addr) (ccd : Value) (cl : List (Str × Addr)) (outer : List Env) (A₀ : Around) (base h₀ : Heap) (L : Addr) (m : Str → Option Value) (s : Shared) (Q E : Value → Shared → Prop) (rest : List (Addr × Obj))
  (hB : Below A₀ base outer h₀) (hF : Fr h₀ L s.heap m) (hX : (hd02.heap_39 w.params).In h₀) (hT : Top p loose mean mg mb h₀) (hk : cs.kind = .function)
  (hd : dp + 20 < recursionLimit) (hu : un + 100 < cLine)
  (T dx D t1 t2 : Addr) (n : Nat) (tt : Tok)
  (hNw : News h₀ L s.heap ((T, instObj 220 dx) :: (dx, hdDict w D tt) :: (D, listOf #[.ref t1, .ref t2] n) :: rest))
  (hret : ∀ (u : Tok) (h' : Heap) (tk' : Nat), Fr h₀ L h' m → News h₀ L h' ((T, instObj 220 dx) :: (dx, hdDict w D tt) :: (D, listOf #[.ref t1, .ref t2] n) :: rest) → Q (.int 2 u) { s with heap := h', toks := tk' }) :
  wpAny (model PySem.Challenge.rw_pg0294_02.row.prog w) (ktrTop dp un gd cn cs L a ccd cl outer) (call (.ref 126) [.ref T]) Q E s := by
  refine wpAny_call ?_
  k_dflt ((refine' code_def ?k1 ?k2 ?k3 ?k4 ?k5 ?kA ?kF ?kK ?k6 ?k7 ?k8 ?k9 ?kB ?_ ?c2 ?c3 ?c4 ?c5; (case kA => exact rfl); (case kF => exact rfl); (case kK => first | exact rfl | assumption); (case k1 => k_asm); (case k2 => k_asm); (case k3 => k_asm); (case k4 => k_asm); (case k5 => k_asm); (case k6 => k_is); (case k7 => k_is); (case k8 => ktr_room); (case k9 => first | exact BindsTo.of_eq rfl | exact binds_K (by k_in) rfl (by k_is) rfl rfl rfl); (case c5 => decide); (case kB => exact locs rfl); (case c2 => exact rfl); (case c3 => exact rfl); (case c4 => exact rfl); k_whole; intro g' L' h' FG' F' N' B' X' T'; (try dsimp only); (try k_lift B'); (try k_fold)))
  k_steps
  rename News h₀ L _ _ => Nz
  exact hret _ _ _ (by k_asm) Nz
end
end
local macro_rules | `(tactic| walk_at "idle") => `(tactic| fail)
local macro_rules | `(tactic| walk_at "idle") => `(tactic| fail)
theorem calm_comp3 : True := by w_top off; exact True.intro
section
def TupAt (ax : Addr) (its : Array Value) (news : List (Addr × Obj)) : Prop := False ∨ ∃ o, (ax, o) ∈ news ∧ o.cls = .type "tuple" ∧ ∃ n, o.data = .seq its n
theorem TupAt.tup {h₀ h : Heap} {L ax : Addr} {its : Array Value} {news : List (Addr × Obj)} (x : TupAt ax its news) (N : News h₀ L h news) : h.IsTuple ax its := by
  rcases x with x | ⟨o, hm, r⟩
  · exact x.elim
  · exact ⟨o, (N _ hm).1, r⟩
section
variable {prog : Program} {w : World} {A : Around} {E : Value → Shared → Prop} {s : Shared} {h₀ : Heap} {L : Addr} {m : Str → Option Value} {env : Env}
def CompSrcT (prog : Program) (w : World) (A : Around) (h₀ : Heap) (L : Addr) (m : Str → Option Value) (env : Env) (elt : PySem.Expr) (x : Str) (scope : Scope) (cl : List (Str × Addr)) (Fin : Shared → List Value → List (Addr × Obj) → Prop) (xv : Value) (s₁ : Shared) : Prop :=
  ∃ ax its news, xv = .ref ax ∧ A.handled = none ∧ Fr h₀ L s₁.heap m ∧ News h₀ L s₁.heap news ∧ TupAt ax its news ∧ its.size ≤ sizeLine ∧
    ∀ s₂ : Shared, (∃ h, s₂ = { s₁ with heap := h }) → LCg.CompRest prog w A h₀ L m env elt x scope cl s₂ (TupAt ax its) (fun i v => its[i]? = some v) (Fin s₂) its.size 0 [] news
theorem CompSrcT.ledger {elt : PySem.Expr} {x : Str} {scope : Scope} {cl : List (Str × Addr)} {Fin : Shared → List Value → List (Addr × Obj) → Prop} {ax : Addr} {its : Array Value} {k : Nat} {news : List (Addr × Obj)} {s₁ : Shared}
    (hh : A.handled = none) (F : Fr h₀ L s₁.heap m) (N : News h₀ L s₁.heap news) (hm : (ax, ({ cls := .type "tuple", data := .seq its k } : Obj)) ∈ news) (hsz : its.size ≤ sizeLine)
    (h : ∀ g, LCg.CompRest prog w A h₀ L m env elt x scope cl { s₁ with heap := g } (TupAt ax its) (fun i v => its[i]? = some v) (Fin { s₁ with heap := g }) its.size 0 [] news) :
    CompSrcT prog w A h₀ L m env elt x scope cl Fin (.ref ax) s₁ := ⟨ax, its, news, rfl, hh, F, N, .inr ⟨_, hm, rfl, _, rfl⟩, hsz, fun _ ⟨g, e⟩ => e ▸ h g⟩
theorem ListComp_T {elt iter : PySem.Expr} {x : Str} {px : Pos} {scope : Scope} {cl : List (Str × Addr)} {pos : Pos} {Q : Value → Shared → Prop} (_F₀ : Fr h₀ L s.heap m)
    (hclos : closureFor scope env = pure cl) (hcell : ∀ y ∈ scope.names, y.2 ≠ .cell) (hkind : scope.kind = .function)
    (hnames : ∀ y ∈ scope.names, y.2 = .local → scope.names.lookup y.1 = some .local) (hx : scope.names.lookup x = some .local) (hs : ∀ x, foldedSetIterable iter env x = pure x)
    (h : wpAny (model prog w) A (eval iter env) (CompSrcT prog w A h₀ L m env elt x scope cl (fun s₂ => LCg.FinE h₀ L m s₂ Q)) E s) :
    wpAny (model prog w) A (eval (.ListComp elt [⟨.Name x px, iter, [], 0⟩] scope pos) env) Q E s := by
  rw [eval_ListComp]
  refine wpAny_comprehension_free (use := none) rfl hs hclos hkind hnames (wpAny_mono h (fun xv s₁ h₁ => ?_) fun _ _ e => e)
  obtain ⟨ax, its, news, rfl, hh, F, N, S, hsz, R⟩ := h₁
  have hl := S.tup N
  have hlt : ax < s₁.heap.objs.size := by obtain ⟨_, e, _⟩ := hl; exact Heap.lt_size e
  refine wpAny_pyIter_tuple hl ?_
  have up : ∀ b o, s₁.heap.get? b = some o → (s₁.heap.push { cls := .type "tuple_iterator", data := .fields #[.ref ax, .int 0 0] }).get? b = some o := fun b o e => Heap.get?_push_of_some _ e
  refine LCg.block_U (Walks.tuple hh s₁.heap.objs.size ax (Nat.ne_of_lt hlt) its) hsz (fun i h st => by obtain ⟨o, e, _⟩ := st.1; exact ⟨o, e⟩)
    (fun i h h' o nw st e e' _ N' S' => ⟨by obtain ⟨o', q, r⟩ := st.1; rw [e] at q; cases q; exact ⟨o, e', r⟩, S'.tup N'⟩) hcell hkind hx ⟨⟨_, Heap.get?_push_size _ rfl, rfl, rfl⟩, hl.push _⟩ (fun b hb => ?_)
    (F.keeps up) (N.grown up) (Nat.ne_of_lt F.ns.lt) (next_is_new F) (fun p hp => Nat.ne_of_lt (Heap.lt_size (N p hp).1)) S (R _ ⟨_, rfl⟩) ?_
  · show b < (s₁.heap.push _).objs.size
    rw [Heap.size_push]
    rcases List.mem_cons.mp hb with rfl | hb
    · exact Nat.lt_succ_self _
    · rw [List.mem_singleton.mp hb]; exact Nat.lt_succ_of_lt hlt
  · intro D C h tk m' ys news' F' N' o1 hn hC₀ hD₀ hCL hDL hCD offC fin
    refine ⟨m', hn, fun h'' hs'' => fin D h'' tk (F'.change hs'' hCL hC₀) (fun p hp => ?_) o1⟩
    refine ⟨hs''.extBut _ _ ?_ (N' p hp).1, (N' p hp).2⟩
    rcases List.mem_cons.mp hp with rfl | hp
    · exact Ne.symm hCD
    · exact offC p hp
local macro_rules | `(tactic| walk_at "eval Name") => `(tactic| (refine ldVarK (by assumption) (by assumption) ?_ (by assumption) (by assumption) (by assumption)))
theorem codes_elt {x : Str} {p1 p2 p3 p4 p5 p6 : Pos} {k1 k2 k3 : Nat} {scope : Scope} {cl : List (Str × Addr)} {C : Addr} {mC : Str → Option Value} {k : Int} {t : Tok} {Q : Value → Shared → Prop} (hn : s.heap.Ns (compEnvC scope cl C env).locals mC) (hv : mC x = some (.int k t))
    (hk : (compEnvC scope cl C env).scope.kind = .function) (hl : (compEnvC scope cl C env).kindOf x = some .local) (hd : (x == ("__debug__" : Str)) = false)
    (h : ∀ u tk, Q (.str ⟨#[code k]⟩ u) { s with toks := tk }) :
    wpAny (model prog w) A (eval (.IfExp (.Compare (.Name x p1) [.Eq] [.Constant (.int 1) k1 p2] p3) (.Constant (.str (Str.ofString "p")) k2 p4) (.Constant (.str (Str.ofString "m")) k3 p5) p6) (compEnvC scope cl C env)) Q E s := by
  walk1
  walk1
  walk1
  walk1
  walk1
  walk1
  split
  · rename_i hc
    have hk1 : k = 1 := by simpa using hc
    walk1
    subst hk1
    have e : Str.ofString "p" = (⟨#[code 1]⟩ : Str) := by decide +kernel
    rw [e]
    exact h _ _
  · rename_i hc
    have hk1 : k ≠ 1 := by simpa using hc
    walk1
    have e : Str.ofString "m" = (⟨#[109]⟩ : Str) := by decide +kernel
    rw [e, show (109 : Nat) = code k from (if_neg hk1).symm]
    exact h _ _
theorem codes_rest {x : Str} {p1 p2 p3 p4 p5 p6 : Pos} {k1 k2 k3 : Nat} {scope : Scope} {cl : List (Str × Addr)} {Fin : List Value → List (Addr × Obj) → Prop} {ax : Addr} {kx : Nat} {vs : List Value} {ns : List Int} {news : List (Addr × Obj)}
    (hi : IntsAre vs ns) (hm : (ax, ({ cls := .type "list", data := .seq vs.toArray kx } : Obj)) ∈ news) (hkind : scope.kind = .function) (hx : scope.names.lookup x = some .local) (dx : (x == ("__debug__" : Str)) = false)
    (fin : ∀ ys, SignsAre ys (ns.map code) → Fin ys news) :
    LCg.CompRest prog w A h₀ L m env (.IfExp (.Compare (.Name x p1) [.Eq] [.Constant (.int 1) k1 p2] p3) (.Constant (.str (Str.ofString "p")) k2 p4) (.Constant (.str (Str.ofString "m")) k3 p5) p6) x scope cl s (LCg.SrcAt h₀ ax vs.toArray) (fun i v => vs.toArray[i]? = some v) Fin vs.toArray.size 0 [] news := by
  have hl := hi.length
  have go : ∀ (k i : Nat) (ys : List Value), i + k = vs.length → SignsAre ys ((ns.take i).map code) →
      LCg.CompRest prog w A h₀ L m env (.IfExp (.Compare (.Name x p1) [.Eq] [.Constant (.int 1) k1 p2] p3) (.Constant (.str (Str.ofString "p")) k2 p4) (.Constant (.str (Str.ofString "m")) k3 p5) p6) x scope cl s (LCg.SrcAt h₀ ax vs.toArray) (fun i v => vs.toArray[i]? = some v) Fin k i ys news := by
    intro k
    induction k with
    | zero =>
      intro i ys hik hy
      refine LCg.CompRest.zero (fin ys ?_)
      rw [List.take_of_length_le (by omega)] at hy
      exact hy
    | succ k ih =>
      intro i ys hik hy
      refine LCg.CompRest.succ (fun v I oI C oC D m₂ h tk E' hv hC hmx F N off ne => ?_)
      have hlt : i < ns.length := by omega
      have hv' : vs[i]? = some v := by simpa using hv
      obtain ⟨t, ht⟩ := IntsAre.get hi i ns[i] (List.getElem?_eq_getElem hlt)
      have hvt : v = .int ns[i] t := Option.some.inj (hv'.symm.trans ht)
      subst hvt
      refine codes_elt (hC.ns (N _ (.tail _ (.head _))).1) hmx hkind (lookup_relabel_local hx) dx (fun u tk' => ?_)
      refine ⟨h, _, news, rfl, F, N, off, .inr ⟨_, hm, rfl, _, rfl⟩, ih (i + 1) _ (by omega) ?_⟩
      have e : ns.take (i + 1) = ns.take i ++ [ns[i]] := by rw [List.take_succ, List.getElem?_eq_getElem hlt]; rfl
      rw [e, List.map_append]
      exact signs_append hy (.cons _ _ .nil)
  have e : vs.toArray.size = vs.length := by simp
  rw [e]
  exact go vs.length 0 [] (by omega) .nil
end
theorem news_drop_3 {h₀ h : Heap} {L : Addr} {a b c : Addr × Obj} {l : List (Addr × Obj)} (N : News h₀ L h (a :: b :: c :: l)) : News h₀ L h l := fun p hp => N p (.tail _ (.tail _ (.tail _ hp)))
theorem news_drop_4th {h₀ h : Heap} {L : Addr} {a b c d : Addr × Obj} {l : List (Addr × Obj)} (N : News h₀ L h (a :: b :: c :: d :: l)) : News h₀ L h (a :: b :: c :: l) := fun p hp => by
  rcases List.mem_cons.mp hp with rfl | hp
  · exact N _ (.head _)
  rcases List.mem_cons.mp hp with rfl | hp
  · exact N _ (.tail _ (.head _))
  rcases List.mem_cons.mp hp with rfl | hp
  · exact N _ (.tail _ (.tail _ (.head _)))
  exact N p (.tail _ (.tail _ (.tail _ (.tail _ hp))))
theorem join_codes_K {prog : Program} {w : World} {A : Around} {E : Value → Shared → Prop} {s : Shared} {D : Addr} {t : Tok} {ys : List Value} {z : List Int} {Q : Value → Shared → Prop} (hl : s.heap.IsList D ys.toArray) (hs : SignsAre ys (z.map code))
    (hsz : z.length ≤ 1000) (h : ∀ t' k, Q (.str (tx z) t') { s with toks := k }) : wpAny (model prog w) A (call (.builtin "str.join") [.str (Str.ofString "") t, .ref D]) Q E s := by
  refine join_listW hl hs (by decide) ?_ ?_
  · rw [List.map_map, List.length_map]
    have h1 : ∀ l : List Nat, (l.map ((fun x : Str => x.length) ∘ fun c => (⟨#[c]⟩ : Str))).sum = l.length := fun l => by
      induction l with
      | nil => rfl
      | cons c r ih => rw [List.map_cons, List.sum_cons, ih, List.length_cons]; show 1 + _ = _; omega
    rw [h1, List.length_map]
    omega
  · rw [join_signs]; exact h
theorem ne_two {prog : Program} {w : World} {A : Around} {E : Value → Shared → Prop} {s : Shared} {a b : Addr} {x y : Str} {t1 t2 t3 t4 : Tok} {Q : Value → Shared → Prop} (ha : s.heap.IsList a #[.str x t1, .str y t2]) (hb : s.heap.IsList b #[.str x t3, .str y t4]) (hu : A.units + 64 < cLine) (ox : PyData.strOk x = true) (oy : PyData.strOk y = true) (h : Q (.bool false) s) :
    wpAny (model prog w) A (compareOp .NotEq (.ref a) (.ref b)) Q E s := by
  have c : ∀ u v : Tok, CarriedAll [Value.str x u, Value.str y v] [PyData.str x, PyData.str y] := fun u v => .cons (.str _ _) (.cons (.str _ _) .nil)
  have sh : SeqAt.shaped (.list [PyData.str x, PyData.str y]) = true := by
    simp [SeqAt.shaped, PyData.canLay0, PyData.canLayAll0, PyData.depth, PyData.depthAll, ox, oy]
  refine ne_dataH (reads_newData (ys := [Value.str x t1, Value.str y t2]) ha (c _ _)) (reads_newData (ys := [Value.str x t3, Value.str y t4]) hb (c _ _)) sh sh hu ?_
  have e : PyData.eqv (.list [PyData.str x, PyData.str y]) (.list [PyData.str x, PyData.str y]) = true := by
    simp [PyData.eqv, PyData.eqvAll]
  rw [e]
  exact h
theorem tx_ok (z : List Int) : PyData.strOk (tx z) = true := by
  unfold PyData.strOk
  have h := tx_ascii z
  rw [Array.all_eq_true] at h ⊢
  intro i hi
  have := h i hi
  simp only [decide_eq_true_eq] at this ⊢
  omega
end
local macro_rules | `(tactic| walk_at "idle") => `(tactic| fail)
local macro_rules | `(tactic| walk_at "idle") => `(tactic| fail)
theorem calm_law_plain3 : True := by w_top off; exact True.intro
section
def two (k : Int) : Int := if k = 1 then 2 else 0
def ONES : Int := dsum 8 (List.replicate 8 1)
def NN (z : List Int) : Int := numOf8 (z.map code)
def kOf (x : Int) : Nat := (Builtin.Int.intBits x + 7) / 8
structure OkZ (z : List Int) : Prop where
  b : -(2 ^ 62) ≤ NN z ∧ NN z ≤ 2 ^ 62
  n : NN z ≠ 0
  bits : 2 ≤ Builtin.Int.intBits (NN z) ∧ Builtin.Int.intBits (NN z) ≤ 64
  x0 : 0 ≤ NN z + ONES
  k : kOf (NN z + ONES) ≤ 8
  xk : NN z + ONES < 2 ^ (8 * kOf (NN z + ONES))
  k1 : NN z + ONES ≠ 0 → 1 ≤ kOf (NN z + ONES)
  dg : digs 8 (kOf (NN z + ONES)) (NN z + ONES) ++ List.replicate (8 - kOf (NN z + ONES)) 0 = z.map two
def okB (z : List Int) : Bool := decide (-(2 ^ 62) ≤ NN z ∧ NN z ≤ 2 ^ 62) && decide (NN z ≠ 0) && decide (2 ≤ Builtin.Int.intBits (NN z) ∧ Builtin.Int.intBits (NN z) ≤ 64) && decide (0 ≤ NN z + ONES) && decide (kOf (NN z + ONES) ≤ 8) &&
  decide (NN z + ONES < 2 ^ (8 * kOf (NN z + ONES))) && decide (NN z + ONES ≠ 0 → 1 ≤ kOf (NN z + ONES)) && decide (digs 8 (kOf (NN z + ONES)) (NN z + ONES) ++ List.replicate (8 - kOf (NN z + ONES)) 0 = z.map two)
theorem okB_all : ∀ b ∈ bools 8, okB (b.map sg) = true := by decide +kernel
theorem okZ {z : List Int} (h : Sg z) (hn : z.length = 8) : OkZ z := by
  obtain ⟨b, rfl, hb⟩ := sg_list h
  rw [hn] at hb
  have h2 := okB_all b (hb ▸ mem_bools b)
  unfold okB at h2
  simp only [Bool.and_eq_true, decide_eq_true_eq] at h2
  obtain ⟨⟨⟨⟨⟨⟨⟨a1, a2⟩, a3⟩, a4⟩, a5⟩, a6⟩, a7⟩, a8⟩ := h2
  exact ⟨a1, a2, a3, a4, a5, a6, a7, a8⟩
theorem kOf_len (x : Int) : ((Builtin.Int.intBits x : Int) + 8 - 1).fdiv 8 = (kOf x : Int) := by
  unfold kOf
  rw [Int.fdiv_eq_ediv_of_nonneg _ (by decide)]
  omega
def gst (b : Bool × Bool × Bool) (r : List Int × List Int) : List Int × List Int :=
  let s := if b.2.1 then r.2.reverse else r.2
  let f := if b.2.2 then r.1.map (- ·) else r.1
  if b.1 then (f ++ s, f ++ s.map (- ·)) else (weave f s, weave f (s.map (- ·)))
def bit3 (v : Int) : Bool × Bool × Bool := (decide (v.fmod 2 = 0), decide ((v.fdiv 2).fmod 2 ≠ 0), decide ((v.fdiv 4).fmod 2 ≠ 0))
theorem gstep_gst (v : Int) (r : List Int × List Int) : gstep v r = gst (bit3 v) r := by
  unfold gstep gst bit3 laidOf
  by_cases h1 : v.fmod 2 = 0 <;> by_cases h2 : (v.fdiv 2).fmod 2 = 0 <;> by_cases h3 : (v.fdiv 4).fmod 2 = 0 <;> simp [h1, h2, h3]
def golOk (r : List Int × List Int) : Bool := decide (NN r.1 * NN r.1.reverse + NN r.2 * NN r.2.reverse = 16 * 256 ^ 7)
def allB : List (Bool × Bool × Bool) := [(true, true, true), (true, true, false), (true, false, true), (true, false, false), (false, true, true), (false, true, false), (false, false, true), (false, false, false)]
theorem mem_allB : ∀ b : Bool × Bool × Bool, b ∈ allB := by
  rintro ⟨a, b, c⟩
  cases a <;> cases b <;> cases c <;> decide
theorem gol_all : ∀ a ∈ allB, ∀ b ∈ allB, ∀ c ∈ allB, golOk (gst c (gst b (gst a ([1], [1])))) = true := by decide +kernel
theorem gol {ns : List Int} (h : ns.length = 3) {z1 z2 : List Int} (e : (z1, z2) = ns.foldl (fun r v => gstep v r) ([1], [1])) : NN z1 * NN z1.reverse + NN z2 * NN z2.reverse = 16 * 256 ^ 7 := by
  match ns, h with
  | [a, b, c], _ =>
    have g := gol_all (bit3 a) (mem_allB _) (bit3 b) (mem_allB _) (bit3 c) (mem_allB _)
    simp only [List.foldl_cons, List.foldl_nil, gstep_gst] at e
    rw [← e] at g
    exact of_decide_eq_true g
theorem left_dm {za zb : List Int} (oa : OkZ za) (e : NN za * NN za.reverse + NN zb * NN zb.reverse = 16 * 256 ^ 7) (X : Int) (hX : X = 16 * 256 ^ 7) : (X - NN zb * NN zb.reverse).fdiv (NN za) = NN za.reverse ∧ (X - NN zb * NN zb.reverse).fmod (NN za) = 0 := by
  have h : X - NN zb * NN zb.reverse = NN za * NN za.reverse := by omega
  rw [h]
  exact ⟨Int.mul_fdiv_cancel_left _ oa.n, Int.mul_fmod_right _ _⟩
theorem prod_small {a b : Int} (ha : -(2 ^ 62) ≤ a ∧ a ≤ 2 ^ 62) (hb : -(2 ^ 62) ≤ b ∧ b ≤ 2 ^ 62) : -(2 ^ 124) ≤ a * b ∧ a * b ≤ 2 ^ 124 := by
  have h1 : (a * b).natAbs ≤ 2 ^ 62 * 2 ^ 62 := by
    rw [Int.natAbs_mul]
    exact Nat.mul_le_mul (by omega) (by omega)
  have h2 : (2 : Nat) ^ 62 * 2 ^ 62 = 2 ^ 124 := by decide
  rw [h2] at h1
  omega
theorem left_small {za zb : List Int} (oa : OkZ za) (ob : OkZ zb) (or : OkZ zb.reverse) (X : Int) (hX : X = 16 * 256 ^ 7) : -(2 ^ (64 * Builtin.Int.intBits (NN za))) < X - NN zb * NN zb.reverse ∧ X - NN zb * NN zb.reverse < 2 ^ (64 * Builtin.Int.intBits (NN za)) := by
  have p := prod_small ob.b or.b
  have h1 : (2 : Int) ^ 128 ≤ 2 ^ (64 * Builtin.Int.intBits (NN za)) := by
    have h2 : (2 : Nat) ^ 128 ≤ 2 ^ (64 * Builtin.Int.intBits (NN za)) := Nat.pow_le_pow_right (by decide) (by have := oa.bits.1; omega)
    have h3 : ((2 ^ 128 : Nat) : Int) ≤ ((2 ^ (64 * Builtin.Int.intBits (NN za)) : Nat) : Int) := Int.ofNat_le.mpr h2
    simpa using h3
  have h4 : (16 * 256 ^ 7 : Int) = 1152921504606846976 := by decide
  have h5 : (2 : Int) ^ 124 = 21267647932558653966460912964485513216 := by decide
  have h6 : (2 : Int) ^ 128 = 340282366920938463463374607431768211456 := by decide
  omega
structure PairOk (za zb : List Int) : Prop where
  sa : Sg za
  sb : Sg zb
  la : za.length = 8
  lb : zb.length = 8
  e : NN za * NN za.reverse + NN zb * NN zb.reverse = 16 * 256 ^ 7
theorem num_tx (z : List Int) : numOf8 (tx z).cps.toList = NN z := rfl
theorem ones_is : dsum (Int.toNat 8) (List.replicate 8 1) = ONES := rfl
def isTwo (c : Nat) : Int := if c = 112 then 2 else 0
theorem carried_two {ys : List Value} {z : List Int} (h : CarriedAll ys (List.map (fun a => if (a == Str.ofString "p") = true then PyData.int 2 else PyData.int 0) (List.filter (fun _ => true) (signs (tx z))))) : IntsAre ys (z.map two) := by
  have e : z.map two = ((tx z).cps.toList).map isTwo := by
    rw [tx_codes, List.map_map]
    refine List.map_congr_left fun k _ => ?_
    show two k = isTwo (code k)
    unfold two isTwo code
    split <;> simp
  rw [e]
  refine IntsAre.ofCarried ?_
  rw [show List.filter (fun _ => true) (signs (tx z)) = signs (tx z) from List.filter_eq_self.mpr fun _ _ => rfl, signs_codes, List.map_map] at h
  rw [List.map_map]
  refine (congrArg (CarriedAll ys) (List.map_congr_left fun c _ => ?_)).mp h
  show (if ((⟨#[c]⟩ : Str) == Str.ofString "p") = true then PyData.int 2 else PyData.int 0) = PyData.int (isTwo c)
  rw [show Str.ofString "p" = (⟨#[112]⟩ : Str) from by decide +kernel]
  unfold isTwo
  by_cases hc : c = 112
  · rw [if_pos ((one_beq _ _).mpr hc), if_pos hc]
  · rw [if_neg (fun q => hc ((one_beq _ _).mp q)), if_neg hc]
theorem len_told {prog : Program} {w : World} {A : Around} {E : Value → Shared → Prop} {s : Shared} {l : Addr} {vs : List Value} {k : Nat} {Q : Value → Shared → Prop} (hl : s.heap.IsList l vs.toArray) (hv : vs.length = k) (hk : k ≤ 8) (h : ∀ u tk, Q (.int (k : Int) u) { s with toks := tk }) :
    wpAny (model prog w) A (call (.builtin "len") [.ref l]) Q E s := by
  have e : vs.toArray.size = k := by simpa using hv
  refine Calls.call_len_list hl (by rw [e]; omega) ?_
  rw [e]
  exact h _ _
theorem sub_nat {k : Nat} (h : k ≤ 8) : (8 - (k : Int)) = ((8 - k : Nat) : Int) := by omega
theorem add_small {vs : List Value} {k : Nat} {v : Value} (h : vs.length = k) (hk : k ≤ 8) : vs.length + (List.replicate (8 - k) v).length ≤ sizeLine := by
  rw [List.length_replicate, h, sizeLine_eq]; omega
end
theorem calm_forl : True := by w_top off; exact True.intro
section
section
variable {prog : Program} {w : World} {A : Around} {E : Value → Shared → Prop} {s : Shared} {env : Env} {h₀ : Heap} {target : PySem.Expr} {body : List Stmt} {Q : Flow → Shared → Prop}
/-- what is left of a for over a list of the ledger; the iterator's data is told -/
def LRest (prog : Program) (w : World) (A : Around) (E : Value → Shared → Prop) (h₀ : Heap) (env : Env) (target : PySem.Expr) (body : List Stmt) (Q : Flow → Shared → Prop) (s : Shared) (I ax : Addr) (lo : Obj) : List Value → (Str → Option Value) → List (Addr × Obj) → Prop
  | [], m, news => ∀ h tk, Fr h₀ env.locals h m → News h₀ env.locals h news → Q .next { s with heap := h, toks := tk }
  | v :: r, m, news => ∀ h tk (o : Obj) (i : Int), o.cls = .type "list_iterator" → o.data = .fields #[.ref ax, .int i 0] → Fr h₀ env.locals h m → News h₀ env.locals h ((I, o) :: news) →
      wpAny (model prog w) A (assign target env v) (fun _ s₂ => wpAny (model prog w) A (execs body env) (UnrPostW h₀ env.locals { s with heap := h, toks := tk } [(I, o)] (fun m' n' => (ax, lo) ∈ n' ∧ LRest prog w A E h₀ env target body Q s I ax lo r m' n') Q) E s₂) E { s with heap := h, toks := tk }
theorem iter_lst {ax : Addr} {lo : Obj} {vs : List Value} {n : Nat} {m₀ : Str → Option Value} {news : List (Addr × Obj)}
    (hh : A.handled = none) (F : Fr h₀ env.locals s.heap m₀) (N : News h₀ env.locals s.heap news) (hm : (ax, lo) ∈ news) (hc : lo.cls = .type "list") (hd : lo.data = .seq vs.toArray n)
    (rest₀ : ∀ I : Addr, (∀ p ∈ news, p.1 < I) → LRest prog w A E h₀ env target body Q s I ax lo vs m₀ news) :
    wpAny (model prog w) A (pyIter (.ref ax)) (fun it s₂ => TurnsAt prog w A h₀ env target body Q E it s₂) E s := by
  have hax := N _ hm
  have hl : s.heap.IsList ax vs.toArray := ⟨lo, hax.1, hc, n, hd⟩
  have hlt : ax < s.heap.objs.size := Heap.lt_size hax.1
  have hI₀ : h₀.get? s.heap.objs.size = none := next_is_new F
  refine wpAny_pyIter_list hl ?_
  refine ⟨s.heap.objs.size, _, _, _, _, _, _, m₀, news, (fun i m₁ news₁ => (ax, lo) ∈ news₁ ∧ LRest prog w A E h₀ env target body Q s s.heap.objs.size ax lo (vs.drop i) m₁ news₁), rfl,
    KTurns.ofWalks (Walks.list hh s.heap.objs.size ax (Nat.ne_of_lt hlt) vs.toArray) (fun i v s Q E st q => letGo_listiter st.1 q), ?_, ?_, ?_, ⟨⟨_, Heap.get?_push_size _ rfl, rfl, rfl⟩, hl.push _⟩, F.push _, N.grown (fun _ _ e => Heap.get?_push_of_some _ e), ⟨hm, rest₀ _ fun p hp => Heap.lt_size (N p hp).1⟩, ?_, ?_⟩
  · intro h
    rcases List.mem_cons.mp h with e | e
    · exact absurd F.ns.lt (e ▸ Nat.lt_irrefl _)
    · exact hax.2.1 (List.mem_singleton.mp e).symm
  · intro b hb
    rw [List.mem_singleton.mp hb]
    exact hI₀
  · intro p hp hI
    exact absurd (Heap.lt_size (N p hp).1) ((List.mem_singleton.mp hI) ▸ Nat.lt_irrefl _)
  · intro i v m₁ news₁ h₁ tk₁ own hi hP hJ _ hown hget hall st F₁ N₁
    obtain ⟨hmem, hR⟩ := hJ
    obtain ⟨o, ho, hco, hdo⟩ := st.1
    have hdrop : vs.drop i = v :: vs.drop (i + 1) := by
      have hlt' : i < vs.length := by simpa using hi
      rw [List.drop_eq_getElem_cons hlt']
      have hv : vs[i]? = some v := by simpa using hP
      rw [List.getElem?_eq_getElem hlt'] at hv
      rw [Option.some.inj hv]
    rw [hdrop] at hR
    have mI : (s.heap.objs.size, o) ∈ own := hall _ (.head _) hI₀ o ho
    have N₂ : News h₀ env.locals h₁ ((s.heap.objs.size, o) :: news₁) := fun p hp => by
      rcases List.mem_cons.mp hp with rfl | hp
      · exact N₁ _ (List.mem_append_left _ mI)
      · exact N₁ _ (List.mem_append_right _ hp)
    have fin : ∀ s₃, UnrEndW h₀ env.locals { s with heap := h₁, toks := tk₁ } [(s.heap.objs.size, o)] (fun m' n' => (ax, lo) ∈ n' ∧ LRest prog w A E h₀ env target body Q s s.heap.objs.size ax lo (vs.drop (i + 1)) m' n') s₃ →
        LoopStepU h₀ env.locals [s.heap.objs.size] own (fun m' n' => (ax, lo) ∈ n' ∧ LRest prog w A E h₀ env target body Q s s.heap.objs.size ax lo (vs.drop (i + 1)) m' n') { s with heap := h₁, toks := tk₁ } .next s₃ := by
      rintro s₃ ⟨h', tk, m', news', e, F', N', hoff, hk', r⟩
      refine ⟨rfl, h', tk, m', news', e, F', fun p hp => ?_, fun p hp hI => hoff p hp _ (.head _) (List.mem_singleton.mp hI), hk', r⟩
      rcases List.mem_append.mp hp with hp | hp
      · have h2 := hget p hp
        rcases List.mem_cons.mp (hown p hp) with e1 | e1
        · have : p = (s.heap.objs.size, o) := by
            obtain ⟨pa, po⟩ := p
            have e2 : pa = s.heap.objs.size := e1
            subst e2
            have h3 : h₁.get? s.heap.objs.size = some po := h2
            rw [ho] at h3
            rw [Option.some.inj h3]
          rw [this]
          exact N' _ (.head _)
        · have : p = (ax, lo) := by
            obtain ⟨pa, po⟩ := p
            have e2 : pa = ax := List.mem_singleton.mp e1
            subst e2
            have h3 : h₁.get? pa = some po := h2
            rw [(N₁ _ (List.mem_append_right _ hmem)).1] at h3
            exact congrArg (Prod.mk pa) (Option.some.inj h3).symm
          rw [this]
          exact N' _ (List.mem_append_right _ hk')
      · exact N' _ (List.mem_append_right _ hp)
    refine wpAny_mono (hR h₁ tk₁ o _ hco hdo F₁ N₂) (fun _ s₂ h₂ => wpAny_mono h₂ (fun f s₃ p => ?_) fun _ _ e => e) fun _ _ e => e
    cases f with
    | ret v => exact .ret p
    | brk => exact .brk p
    | next => exact .next (fin _ p)
    | cont => exact .cont (fin _ p)
  · intro h' tk m' news' F' N' _ hJ
    have z : vs.drop vs.toArray.size = [] := List.drop_eq_nil_of_le (by simp)
    have hJ' := hJ.2
    rw [z] at hJ'
    exact hJ' h' tk F' N'
end
theorem code_off {h₀ h : Heap} {L I ax c : Addr} {o oc : Obj} {i : Int} {vsc : Array Value} {q : Str} {tq : Tok} {news : List (Addr × Obj)} (N : News h₀ L h news) (hI : (I, o) ∈ news) (hd : o.data = .fields #[.ref ax, .int i 0]) (hc : (c, oc) ∈ news) (hdc : oc.data = .fields vsc) (hv : vsc[1]? = some (.str q tq)) : c ≠ I := by
  rintro rfl
  have h1 := (N _ hI).1
  have h2 := (N _ hc).1
  rw [h1] at h2
  cases h2
  rw [hd] at hdc
  cases hdc
  simp at hv
/-- the tables with no more than their own codes behind them -/
theorem tabs_lean {h₀ h : Heap} {L I ax : Addr} {o : Obj} {i : Int} {l1 l2 : Int} {q1 q2 : Str} {p1 p2 : Array Value} {ex news : List (Addr × Obj)} (t1 : TabIn l1 q1 p1 ex) (t2 : TabIn l2 q2 p2 ex) {T1 T2 : Addr} (ho : ∀ p ∈ ex, p.1 ≠ T1 ∧ p.1 ≠ T2)
    (N : News h₀ L h news) (hs : ∀ p ∈ ex, p ∈ news) (hI : (I, o) ∈ news) (hd : o.data = .fields #[.ref ax, .int i 0]) :
    ∃ ex', TabIn l1 q1 p1 ex' ∧ TabIn l2 q2 p2 ex' ∧ (∀ p ∈ ex', p.1 ≠ T1 ∧ p.1 ≠ T2) ∧ (∀ p ∈ ex', p ∈ ex) ∧ ∀ p ∈ ex', p.1 ≠ I := by
  have one : ∀ {l : Int} {q : Str} {p : Array Value}, TabIn l q p ex → ∃ e, TabIn l q p e ∧ (∀ p ∈ e, p ∈ ex) ∧ ∀ p ∈ e, p.1 ≠ I := by
    intro l q p t
    rcases t with rfl | ⟨c, oc, vsc, tq, rfl, hm, hdt, hv⟩
    · exact ⟨[], .inl rfl, fun _ h => (List.not_mem_nil h).elim, fun _ h => (List.not_mem_nil h).elim⟩
    · refine ⟨[(c, oc)], .inr ⟨c, oc, vsc, tq, rfl, .head _, hdt, hv⟩, fun p hp => by rw [List.mem_singleton.mp hp]; exact hm, fun p hp => ?_⟩
      rw [List.mem_singleton.mp hp]
      exact code_off N hI hd (hs _ hm) hdt hv
  obtain ⟨e1, a1, b1, c1⟩ := one t1
  obtain ⟨e2, a2, b2, c2⟩ := one t2
  refine ⟨e1 ++ e2, a1.mono fun _ h => List.mem_append_left _ h, a2.mono fun _ h => List.mem_append_right _ h, fun p hp => ?_, fun p hp => ?_, fun p hp => ?_⟩
  · rcases List.mem_append.mp hp with h | h
    · exact ho p (b1 p h)
    · exact ho p (b2 p h)
  · rcases List.mem_append.mp hp with h | h
    · exact b1 p h
    · exact b2 p h
  · rcases List.mem_append.mp hp with h | h
    · exact c1 p h
    · exact c2 p h
theorem sub_pair {α : Type} {P : α → Prop} {x : α} {l : List α} (h : P x) (r : ∀ p ∈ l, P p) : ∀ p ∈ x :: l, P p := fun p hp => by
  rcases List.mem_cons.mp hp with rfl | hp
  · exact h
  · exact r p hp
theorem mem_pre {α : Type} {x a b c : α} {l : List α} (h : x ∈ [a, b, c]) : x ∈ a :: b :: c :: l := by
  simp only [List.mem_cons, List.not_mem_nil, or_false] at h ⊢
  rcases h with h | h | h
  · exact .inl h
  · exact .inr (.inl h)
  · exact .inr (.inr (.inl h))
theorem lrest_ind {prog : Program} {w : World} {A : Around} {E : Value → Shared → Prop} {s : Shared} {env : Env} {h₀ : Heap} {target : PySem.Expr} {body : List Stmt} {Q : Flow → Shared → Prop} {I ax : Addr} {lo : Obj} {α : Type} (f : α → Value) (OK : α → Prop) (INV : (Str → Option Value) → List (Addr × Obj) → Prop)
    (nil : ∀ m news, INV m news → LRest prog w A E h₀ env target body Q s I ax lo [] m news)
    (step : ∀ p vs, OK p → ∀ m news, INV m news → (∀ m' news', INV m' news' → LRest prog w A E h₀ env target body Q s I ax lo vs m' news') → LRest prog w A E h₀ env target body Q s I ax lo (f p :: vs) m news) :
    ∀ ps : List α, (∀ p ∈ ps, OK p) → ∀ m news, INV m news → LRest prog w A E h₀ env target body Q s I ax lo (ps.map f) m news
  | [], _, m, news, h => nil m news h
  | p :: ps, hp, m, news, h => step p _ (hp p (.head _)) m news h (lrest_ind f OK INV nil step ps fun q hq => hp q (.tail _ hq))
theorem not_ne {a b : List Int} (h : a = b) : (!decide (a = b)) = false := by rw [decide_eq_true h]; rfl
theorem leaf_pos {c : Bool} {D1 D2 : PyData} {v : Value} {s s' : Shared} (h : c = true) (hv : Carried v D1) (k : Keeps s s') : SeqLeaf (Carried v (if c = true then D1 else D2) ∧ Keeps s s') := SeqLeaf.intro ⟨by rw [if_pos h]; exact hv, k⟩
theorem leaf_neg {c : Bool} {D1 D2 : PyData} {v : Value} {s s' : Shared} (h : c = false) (hv : Carried v D2) (k : Keeps s s') : SeqLeaf (Carried v (if c = true then D1 else D2) ∧ Keeps s s') := SeqLeaf.intro ⟨by rw [if_neg (by rw [h]; decide)]; exact hv, k⟩
end
theorem calm_law2 : True := by w_top off; exact True.intro
section
section
local macro_rules | `(tactic| k_room) => `(tactic| ktr_room)
local macro_rules | `(tactic| walk_at "call ref") => `(tactic| (refine Stop.mk ?_))
local macro_rules | `(tactic| is_list) => `(tactic| exact News.isList (by k_asm) (by k_mem))
local macro_rules | `(tactic| walk_at "binaryOp Add ref ref") => `(tactic| (k_here; k_dflt (refine' add_vals ?F ?N ?a ?b ?_ ?z; (case F => k_asm); (case N => k_asm); (case a => is_list); (case b => is_list); (case z => first | exact pick_small _ _ _ _ _ | exact add_small (by assumption) (by assumption))); intro D' h' F' N' l1; (try k_lt l1)))
local macro_rules | `(tactic| walk_at "MidAt") => `(tactic| (refine Stop.mk ?_))
local macro_rules | `(tactic| walk_at "subscriptTail Name Slice ref ref") => `(tactic| (k_here; k_dflt (refine' kms_slice_lit ?F ?N ?l ?p ?q rfl ?_ ?s ?t ?z; (case F => k_asm); (case N => k_asm); (case l => kmk_list); (case p => kmk_part); (case q => kmk_part); (case s => with_unfolding_all rfl); (case t => kmk_pure); (case z => simp only [List.size_toArray]; assumption)); intro D' h' F' N' l1; (try k_lt l1)))
local macro_rules | `(tactic| walk_at "subscriptTail") => `(tactic| (k_here; (with_reducible show wpAny _ _ (subscriptTail (PySem.Expr.List _ _) _ (Value.ref _) (Value.ref _)) _ _ _); k_dflt (refine kba_turn (value' := PySem.Expr.Name (PySem.Str.ofString "_") ⟨0, 0, 0, 0⟩) (fun _ => rfl) ?_); k_dflt (refine' kms_slice_lit ?F ?N ?l ?p ?q rfl ?_ ?s ?t ?z; (case F => k_asm); (case N => k_asm); (case l => kmk_list); (case p => kmk_part); (case q => kmk_part); (case s => with_unfolding_all rfl); (case t => kmk_pure); (case z => exact Nat.le_of_ble_eq_true rfl)); intro D' h' F' N' l1; (try k_lt l1)))
local macro_rules | `(tactic| walk_at "pyIter ref") => `(tactic| (refine Stop.mk ?_))
local macro_rules | `(tactic| walk_at "exec For Name Name cons nil") => `(tactic| (k_here; (rename Fr _ _ _ _ => lF'); (with_unfolding_all refine' For_turns lF' ?_; k_whole)))
local macro_rules | `(tactic| walk_at "eval Name") => `(tactic| (k_here; k_dflt (refine' ld ?k1 ?k2 ?_; (case k1 => k_asm); (case k2 => first | assumption | exact if_pos rfl | exact (if_neg (by decide)).trans (by assumption) | exact (if_neg (by decide)).trans (if_pos rfl) | exact (if_neg (by decide)).trans ((if_neg (by decide)).trans (by assumption)) | exact (if_neg (by decide)).trans ((if_neg (by decide)).trans (if_pos rfl)) | exact (if_neg (by decide)).trans ((if_neg (by decide)).trans ((if_neg (by decide)).trans (by assumption))) | exact rfl); k_whole)))
local macro_rules | `(tactic| walk_at "exec If") => `(tactic| (refine Stop.mk ?_))
local macro_rules | `(tactic| walk_at "subscriptTail") => `(tactic| (k_here; (with_reducible show wpAny _ _ (subscriptTail _ _ (Value.str (tx _) _) (Value.ref _)) _ _ _); k_dflt (refine' rev_tx ?F ?N ?z ?_ ?s ?t; (case F => k_asm); (case N => k_asm); (case z => assumption); (case s => with_unfolding_all rfl); (case t => kmk_pure)); intro h' t' c' F' N'))
local macro_rules | `(tactic| walk_at "subscriptTail") => `(tactic| (k_here; (with_reducible show wpAny _ _ (subscriptTail (PySem.Expr.List _ _) _ (Value.ref _) (Value.int _ _)) _ _ _); k_dflt (refine' two_item ?l ?i ?_ ?s; (case l => is_list); (case i => exact fmod2 _); (case s => with_unfolding_all rfl)); intro x' t' hx'))
local macro_rules | `(tactic| walk_at "eval ListComp Call") => `(tactic| (k_here; k_dflt (refine' ListComp_T ?c0 ?c1 ?c2 ?c3 ?c4 ?c5 ?c6 ?_; (case c0 => k_asm); (case c1 => rfl); (case c2 => decide); (case c3 => rfl); (case c4 => decide); (case c5 => rfl); (case c6 => intros; rfl); k_whole)))
local macro_rules | `(tactic| walk_at "compareOp NotEq ref ref") => `(tactic| ((rename CarriedAll _ _ => hcar); refine Stop.mk ?_))
local macro_rules | `(tactic| walk_at "compareOp NotEq ref ref") => `(tactic| (k_here; refine ne_two (by is_list) (by is_list) (by ke_room) (tx_ok _) (tx_ok _) ?_))
local macro_rules | `(tactic| walk_at "binaryOp Mult ref int") => `(tactic| ((first | (refine reps_K (k := 8) (by k_asm) (by k_asm) (by k_mem) rfl (by omega) ?_) | (refine reps_K (by k_asm) (by k_asm) (by k_mem) (sub_nat (by assumption)) (by omega) ?_)); intro l' h' F' N' l1; (try k_lt l1)))
local macro_rules | `(tactic| walk_at "call builtin:len") => `(tactic| (k_here; (with_reducible show wpAny _ _ (call (Value.builtin "len") [Value.ref _]) _ _ _); (refine len_told (by is_list) (by assumption) (by assumption) ?_); intro _ _))
local macro_rules | `(tactic| walk_at "binaryOp Mult int int") => `(tactic| (k_here; (with_reducible show wpAny _ _ (binaryOp Operator.Mult (Value.int (NN _) _) (Value.int (NN _) _)) _ _ _); (refine PyProof.Rows.mul_int ?_ (PySem.IntMulOk.of_left (PySem.intBits_le_64 (by omega) (by omega))))))
local macro_rules | `(tactic| walk_at "SeqLeaf") => `(tactic| first | exact leaf_neg (by assumption) (.int _ _) ⟨_, _, rfl, fun _ _ e => e⟩ | exact leaf_pos (by assumption) (.int _ _) ⟨_, _, rfl, fun _ _ e => e⟩)
local macro_rules | `(tactic| walk_at "CompEnd") => `(tactic| (refine Stop.mk ?_))
local macro_rules | `(tactic| walk_at "UnrEndW") => `(tactic| (refine Stop.mk ?_))
local macro_rules | `(tactic| walk_at "call builtin:str.join") => `(tactic| (k_here; (first | (refine join_laid_K (by is_list) (by assumption) (by assumption) ?_) | (refine join_codes_K (by is_list) (by assumption) (by assumption) ?_)); intro _ _))
local macro_rules | `(tactic| walk_at "CompSrcT") => `(tactic| (k_here; k_dflt (refine' CompSrcT.ledger ?c1 ?c2 ?c3 ?c4 ?c5 ?_; (case c1 => rfl); (case c2 => k_asm); (case c3 => k_asm); (case c4 => k_mem); (case c5 => exact Nat.le_of_ble_eq_true rfl)); intro g'; lcg_lit))
local macro_rules | `(tactic| walk_at "eval ListComp Name") => `(tactic| (k_here; k_dflt (refine LCg.ListComp_U (F₀ := by k_asm) (by rfl) (by decide) (by rfl) (by decide) (by rfl) ?_); k_dflt lcg_toSrc))
local macro_rules | `(tactic| walk_at "CompSrc") => `(tactic| (k_here; k_dflt (refine' LCg.CompSrc.ledger ?c1 ?c2 ?c3 ?c4 ?c5 ?_; (case c1 => rfl); (case c2 => k_asm); (case c3 => k_asm); (case c4 => k_mem); (case c5 => simp only [List.size_toArray]; assumption)); intro g'; k_dflt (refine' codes_rest ?d1 ?d2 ?d3 ?d4 ?d5 ?_; (case d1 => assumption); (case d2 => k_mem); (case d3 => rfl); (case d4 => rfl); (case d5 => decide)); intro ys' hy'))
set_option maxHeartbeats 0 in
theorem law : PySem.Challenge.rw_pg0294_02.Holds := hd02 (by
  k_go0
  all_goals (try k_fold)
  rename (IntsAre _ _) => hI
  rename World => ww
  rename (CodeHd _ ((65, 61) : Addr × Addr).fst _) => hCd
  rename (CodeHd _ ((58, 54) : Addr × Addr).fst _) => hCi
  replace hCd : CodeHd _ 65 61 := hCd
  replace hCi : CodeHd _ 58 54 := hCi
  rename (¬ ((63 : Nat) : Int) < _) => h63
  have hz := script_size hI h63
  iterate 1 (first | walk1 | (dsimp only; walk1))
  refine mid_at (by k_asm) (fun m' news' => ∃ l kl vs ns', m' (Str.ofString "numbers") = some (.ref l) ∧ IntsAre vs ns' ∧ ns'.length = 3 ∧ news' = [(l, listOf vs.toArray kl), (61, tabObj #[]), (54, tabObj #[])]) ?_ ?_
  · k_steps
    refine Stop.out ?_
    rename News _ _ _ _ => kN
    exact MidAt.intro (by k_asm) (news_sub kN (sub_cons (.head _) (fun p hp => by repeat (first | exact hp | refine List.Mem.tail _ ?_)))) ⟨_, _, _, _, by exact if_pos rfl, nums3_are hI _ _ _, nums3_len _, rfl⟩
  intro h8 tk8 m8 news8 F8 N8 M8
  obtain ⟨nl, kl, nvs, nns, e1, hI2, hl3, rfl⟩ := M8
  clear hI h63 hz
  (try dsimp only)
  k_steps
  rename_i xt1 xh1 xl1 xt2 xh2 xl2 xD xh3 kF kN xl3
  refine' Stop.out (c_new _ _ _ _ _ _ _ _ _ _ _ _ _ _ _ _ _ _ _ _ _ _ _ [(nl, listOf nvs.toArray kl), (61, tabObj #[]), (54, tabObj #[])] ?zB ?zF ?zX ?zT ?zK ?zD ?zU xD xt1 xt2 0 0 0 (Str.ofString "one") (Str.ofString "Two") (Str.ofString "p") (Str.ofString "p") tk8 (tk8 + 1) (tk8 + 1 + 1) (tk8 + 1 + 1 + 1) (by unfold Safe; decide +kernel) (by unfold Safe; decide +kernel) (by unfold Safe; decide +kernel) (by unfold Safe; decide +kernel) ?zN ?zret)
  (case zB => k_asm)
  (case zF => k_asm)
  (case zX => k_asm)
  (case zT => k_asm)
  (case zK => exact rfl)
  (case zD => ktr_room)
  (case zU => ktr_units)
  (case zN => exact news_sub kN (sub_cons (.head _) (sub_cons (.tail _ (.tail _ (.head _))) (sub_cons (.tail _ (.head _)) (fun p hp => .tail _ (.tail _ (.tail _ hp)))))))
  intro xT xdx xtt h9 tk9 F9 l9 l10 N9
  rw [show Str.ofString "p" = tx [1] from by decide +kernel] at N9
  clear kN kF
  (try dsimp only)
  k_steps
  refine Stop.out ?_
  refine' iter_listTurns (lo := listOf nvs.toArray kl) (vs := nvs) (by with_unfolding_all rfl) (by k_asm) (by k_asm) (by k_mem) rfl rfl ?_
  intro i9 l3
  have d1 : xT ≠ i9 := Nat.ne_of_lt (l3 (xT, _) (.head _))
  have d2 : xdx ≠ i9 := Nat.ne_of_lt (l3 (xdx, _) (.tail _ (.head _)))
  have d0 : xD ≠ i9 := Nat.ne_of_lt (l3 (xD, _) (.tail _ (.tail _ (.head _))))
  have d3 : xt1 ≠ i9 := Nat.ne_of_lt (l3 (xt1, _) (.tail _ (.tail _ (.tail _ (.head _)))))
  have d4 : xt2 ≠ i9 := Nat.ne_of_lt (l3 (xt2, _) (.tail _ (.tail _ (.tail _ (.tail _ (.head _))))))
  have d5 : nl ≠ i9 := Nat.ne_of_lt (l3 (nl, _) (.tail _ (.tail _ (.tail _ (.tail _ (.tail _ (.head _)))))))
  have d6 : 61 ≠ i9 := Nat.ne_of_lt (l3 (61, _) (.tail _ (.tail _ (.tail _ (.tail _ (.tail _ (.tail _ (.head _))))))))
  have d7 : 54 ≠ i9 := Nat.ne_of_lt (l3 (54, _) (.tail _ (.tail _ (.tail _ (.tail _ (.tail _ (.tail _ (.tail _ (.head _)))))))))
  have g1 : nl ≠ xD := Nat.ne_of_lt xl3.2.2.1
  have g2 : 61 ≠ xD := Nat.ne_of_lt xl3.2.2.2.1
  have g3 : 54 ≠ xD := Nat.ne_of_lt xl3.2.2.2.2
  clear l3 l9 xl3 xl2 xl1
  refine' (?H : ∀ (rem : List Value) (ns' : List Int), IntsAre rem ns' → ∀ (z1 z2 : List Int) (t1 t2 : Addr) (n n1 n2 : Nat) (k1 k2 : Str) (u1 u2 u3 u4 : Tok) (m : Str → Option Value), Sg z1 → Sg z2 → z2.length = z1.length → z1.length * 2 ^ ns'.length = 8 → Txt.lower k1 = Str.ofString "one" → Txt.lower k2 = Str.ofString "two" →
      ns'.foldl (fun r v => gstep v r) (z1, z2) = nns.foldl (fun r v => gstep v r) ([1], [1]) → t1 ≠ i9 → t2 ≠ i9 → m (Str.ofString "table") = some (.ref xT) → m (Str.ofString "numbers") = some (.ref nl) →
      ItemsRest _ _ _ _ _ _ _ _ _ _ _ _ (rem.map .val) m ((xT, instObj 220 xdx) :: (xdx, hdDict ww xD xtt) :: (xD, listOf #[.ref t1, .ref t2] n) :: (t1, pairObj k1 u1 (tx z1) u2 n1) :: (t2, pairObj k2 u3 (tx z2) u4 n2) :: (nl, listOf nvs.toArray kl) :: (61, tabObj #[]) :: [(54, tabObj #[])])) nvs nns hI2 [1] [1] _ _ _ _ _ _ _ _ _ _ _ _ (by unfold Sg; decide) (by unfold Sg; decide) rfl (by rw [hl3]; decide) (by decide +kernel) (by decide +kernel) rfl d3 d4 ?zm1 ?zm2
  (case zm1 => rfl)
  (case zm2 => exact (if_neg (by decide)).trans e1)
  intro rem
  induction rem with
  | nil =>
    intro ns' hi' z1 z2 t1 t2 n n1 n2 k1 k2 u1 u2 u3 u4 m sg1 sg2 hzl hz8 hk1 hk2 hfo ht1 ht2 m1 m2
    cases hi'
    refine ItemsRest.zero (fun h9 tk9 F9 N9 => ?_)
    (try dsimp only)
    clear d1 d2 d0 d3 d4 d5 d6 d7
    have hz1 : z1.length = 8 := by simpa using hz8
    have hgo : (z1, z2) = nns.foldl (fun r v => gstep v r) ([1], [1]) := hfo
    k_steps
    rename News _ _ _ _ => kN
    refine' Stop.out (c_get1 _ _ _ _ _ _ _ _ _ _ _ _ _ _ _ _ _ _ _ _ _ _ _  ((nl, listOf nvs.toArray kl) :: (61, tabObj #[]) :: [(54, tabObj #[])]) ?q3B ?q3F ?q3X ?q3T ?q3K ?q3D ?q3U xT xdx xD t1 t2 n n1 n2 xtt k1 k2 (tx z1) (tx z2) (Str.ofString "one") u1 u2 u3 u4 _ hk1 hk2 (by decide +kernel) ?q3N ?q3R)
    (case q3B => k_asm)
    (case q3F => k_asm)
    (case q3X => k_asm)
    (case q3T => k_asm)
    (case q3K => exact rfl)
    (case q3D => ktr_room)
    (case q3U => ktr_units)
    (case q3N => exact news_sub kN (sub_cons (by k_mem) (sub_cons (by k_mem) (sub_cons (by k_mem) (sub_cons (by k_mem) (sub_cons (by k_mem) (sub_cons (by k_mem) (sub_cons (by k_mem) (sub_cons (by k_mem) (fun _ h => nomatch h))))))))))
    intro h9 tk9 F9 N9
    clear kN
    (try dsimp only)
    k_steps
    rename News _ _ _ _ => kN
    refine' Stop.out (c_get2 _ _ _ _ _ _ _ _ _ _ _ _ _ _ _ _ _ _ _ _ _ _ _  ((nl, listOf nvs.toArray kl) :: (61, tabObj #[]) :: [(54, tabObj #[])]) ?q4B ?q4F ?q4X ?q4T ?q4K ?q4D ?q4U xT xdx xD t1 t2 n n1 n2 xtt k1 k2 (tx z1) (tx z2) (Str.ofString "two") u1 u2 u3 u4 _ hk1 hk2 (by decide +kernel) ?q4N ?q4R)
    (case q4B => k_asm)
    (case q4F => k_asm)
    (case q4X => k_asm)
    (case q4T => k_asm)
    (case q4K => exact rfl)
    (case q4D => ktr_room)
    (case q4U => ktr_units)
    (case q4N => exact news_sub kN (sub_cons (by k_mem) (sub_cons (by k_mem) (sub_cons (by k_mem) (sub_cons (by k_mem) (sub_cons (by k_mem) (sub_cons (by k_mem) (sub_cons (by k_mem) (sub_cons (by k_mem) (fun _ h => nomatch h))))))))))
    intro h9 tk9 F9 N9
    clear kN
    (try dsimp only)
    k_steps
    rename_i yR hR lR hR2 FR NR
    refine Stop.out ?_
    k_here
    refine wpAny_If ?_
    k_steps
    rename News _ _ _ _ => kN
    refine' Stop.out (c_len _ _ _ _ _ _ _ _ _ _ _ _ _ _ _ _ _ _ _ _ _ _ _  _ ?q5B ?q5F ?q5X ?q5T ?q5K ?q5D ?q5U xT xdx xD t1 t2 n xtt (news_cons (news_cons (news_cons kN ?q5c) ?q5b) ?q5a) ?q5R)
    (case q5B => k_asm)
    (case q5F => k_asm)
    (case q5X => k_asm)
    (case q5T => k_asm)
    (case q5K => exact rfl)
    (case q5D => ktr_room)
    (case q5U => ktr_units)
    (case q5c => k_mem)
    (case q5b => exact .tail _ (by k_mem))
    (case q5a => exact .tail _ (.tail _ (by k_mem)))
    intro u9 h9 tk9 F9 N9
    replace N9 := news_drop_3 N9
    clear kN
    dsimp only [PySem.W.LenBack]
    refine ⟨⟨by decide, by decide⟩, ?_⟩
    (try dsimp only)
    k_steps
    rename News _ _ _ _ => kN
    refine' Stop.out (c_lists _ _ _ _ _ _ _ _ _ _ _ _ _ _ _ _ _ _ _ _ _ _ _  _ ?q6B ?q6F ?q6X ?q6T ?q6K ?q6D ?q6U nl kl nvs nns hI2 hl3 (news_cons kN ?q6c) ?q6R)
    (case q6B => k_asm)
    (case q6F => k_asm)
    (case q6X => k_asm)
    (case q6T => k_asm)
    (case q6K => exact rfl)
    (case q6D => ktr_room)
    (case q6U => ktr_units)
    (case q6c => k_mem)
    intro r9 dd1 dd2 kk1 kk2 kkt ys1 ys2 h9 tk9 iy1 iy2 F9 N9
    rw [← hgo] at iy1 iy2
    dsimp only at iy1 iy2
    replace N9 := news_drop_4th N9
    clear kN
    have hz2 : z2.length = 8 := hzl.trans hz1
    have hq1 : z1.length ≤ 1000 := by omega
    have hq2 : z2.length ≤ 1000 := by omega
    have hy1 : ys1.length ≤ sizeLine := by rw [iy1.length, sizeLine_eq]; omega
    have hy2 : ys2.length ≤ sizeLine := by rw [iy2.length, sizeLine_eq]; omega
    (try dsimp only)
    k_steps
    rename News _ _ _ _ => kN
    refine Stop.out (comp_end (by k_asm) (fun p hp => kN p (.tail _ hp)) (by simp only [LCg.Off3, and_true]; assumption) (Or.inr ⟨_, by k_mem, rfl, _, rfl⟩) ?_)
    clear kN
    k_steps
    rename News _ _ _ _ => kN
    refine Stop.out (comp_end (by k_asm) (fun p hp => kN p (.tail _ hp)) (by simp only [LCg.Off3, and_true]; assumption) (Or.inr ⟨_, by k_mem, rfl, _, rfl⟩) ?_)
    clear kN
    k_steps
    rename_i yO hO FO kN lO
    refine' Stop.out (T_d2i _ _ _ _ _ _ _ _ _ _ _ _ _ _ _ _ _ _ _ _ _ _ _ ?q7B ?q7F ?q7X ?q7T hCi hCd ?q7K ?q7D ?q7U [(yO, listOf (List.replicate 8 (Value.int 1 _)).toArray 0), (yR, listOf #[.str (tx z1) u2, .str (tx z2) u4] 0)] (off_ty rfl (off_ty rfl (fun _ h => nomatch h))) ⟨#[], #[], [], .inl rfl, .inl rfl, (fun _ h => nomatch h), news_sub kN (sub_cons (.head _) (sub_cons (by k_mem) (sub_cons (by k_mem) (sub_cons (by k_mem) (fun _ h => nomatch h)))))⟩ 8 _ _ (ints_reps 1 _ 8) ⟨by decide, by decide⟩ reps_small (by decide) _ _ _ (.head _) ?q7R)
    (case q7B => k_asm)
    (case q7F => k_asm)
    (case q7X => k_asm)
    (case q7T => k_asm)
    (case q7K => exact rfl)
    (case q7D => ktr_room)
    (case q7U => ktr_units)
    intro u9 h9 tk9 F9 T9
    clear kN
    obtain ⟨p1, p2, ex, ti1, ti2, oex, N9⟩ := T9
    simp only [List.cons_append, List.nil_append] at N9
    (try dsimp only)
    k_steps
    rename_i wA hA lA wB hB' lB wL hL FL kN lL
    refine Stop.out ?_
    rw [ones_is] at FL
    refine' iter_lst (lo := listOf #[.ref wA, .ref wB] 0) (vs := [.ref wA, .ref wB]) (news := (wL, listOf #[.ref wA, .ref wB] 0) :: (wB, pairObj (tx z2) u4 (tx z1) u2 0) :: (wA, pairObj (tx z1) u2 (tx z2) u4 0) :: (54, tabObj p1) :: (61, tabObj p2) :: ex) rfl FL (news_sub kN (sub_cons (.head _) (sub_cons (.tail _ (.head _)) (sub_cons (.tail _ (.tail _ (.head _))) (fun p hp => .tail _ (.tail _ (.tail _ (.tail _ (.tail _ hp))))))))) (.head _) rfl rfl ?_
    intro iI lI
    have nI1 : wL ≠ iI := Nat.ne_of_lt (lI (wL, _) (.head _))
    have nI2 : wB ≠ iI := Nat.ne_of_lt (lI (wB, _) (.tail _ (.head _)))
    have nI3 : wA ≠ iI := Nat.ne_of_lt (lI (wA, _) (.tail _ (.tail _ (.head _))))
    have nI4 : 54 ≠ iI := Nat.ne_of_lt (lI (54, _) (.tail _ (.tail _ (.tail _ (.head _)))))
    have nI5 : 61 ≠ iI := Nat.ne_of_lt (lI (61, _) (.tail _ (.tail _ (.tail _ (.tail _ (.head _))))))
    have nI6 : ∀ p ∈ ex, p.1 ≠ iI := fun p hp => Nat.ne_of_lt (lI p (.tail _ (.tail _ (.tail _ (.tail _ (.tail _ hp))))))
    have og := gol hl3 hgo
    have pA : PairOk z1 z2 := ⟨sg1, sg2, hz1, hz2, og⟩
    have pB : PairOk z2 z1 := ⟨sg2, sg1, hz2, hz1, by omega⟩
    clear lI og kN FL
    show LRest _ _ _ _ _ _ _ _ _ _ iI wL (listOf #[.ref wA, .ref wB] 0) (List.map (fun p : Addr × List Int × Tok × List Int × Tok => Value.ref p.1) [(wA, z1, u2, z2, u4), (wB, z2, u4, z1, u2)]) _ ((wL, listOf #[.ref wA, .ref wB] 0) :: (wB, pairObj (tx z2) u4 (tx z1) u2 0) :: (wA, pairObj (tx z1) u2 (tx z2) u4 0) :: (54, tabObj p1) :: (61, tabObj p2) :: ex)
    refine lrest_ind _ (fun p => (p.1, pairObj (tx p.2.1) p.2.2.1 (tx p.2.2.2.1) p.2.2.2.2 0) ∈ (wL, listOf #[.ref wA, .ref wB] 0) :: (wB, pairObj (tx z2) u4 (tx z1) u2 0) :: (wA, pairObj (tx z1) u2 (tx z2) u4 0) :: [] ∧ PairOk p.2.1 p.2.2.2.1) (fun m news => m (Str.ofString "ones") = some (.int ONES u9) ∧ ∃ (p1 p2 : Array Value) (ex : List (Addr × Obj)), TabIn 36 (Str.ofString "_int2digits.<locals>.inner") p1 ex ∧ TabIn 51 (Str.ofString "_digits2int.<locals>.inner") p2 ex ∧ (∀ p ∈ ex, p.1 ≠ 54 ∧ p.1 ≠ 61) ∧ (∀ p ∈ ex, p.1 ≠ iI) ∧ news = (wL, listOf #[.ref wA, .ref wB] 0) :: (wB, pairObj (tx z2) u4 (tx z1) u2 0) :: (wA, pairObj (tx z1) u2 (tx z2) u4 0) :: (54, tabObj p1) :: (61, tabObj p2) :: ex) ?_ ?_ _ (sub_pair ⟨.tail _ (.tail _ (.head _)), pA⟩ (sub_pair ⟨.tail _ (.head _), pB⟩ (fun _ h => (List.not_mem_nil h).elim))) _ _ ⟨by first | exact if_pos rfl | rfl, p1, p2, ex, ti1, ti2, oex, nI6, rfl⟩
    · rintro m news ⟨mo, p1, p2, ex, ti1, ti2, oex, nI6, rfl⟩ h9 tk9 F9 N9
      (try dsimp only)
      k_steps
    · rintro ⟨wP, za, ua, zb, ub⟩ vs9 ⟨hm0, hp0⟩ m news ⟨mo, p1, p2, ex, ti1, ti2, oex, nI6, rfl⟩ ih2 h9 tk9 o9 i9' c9 d9 F9 N9
      dsimp only at hm0 hp0
      have oka := okZ hp0.sa hp0.la
      have okb := okZ hp0.sb hp0.lb
      have okar := okZ hp0.sa.rev (by rw [List.length_reverse]; exact hp0.la)
      have okbr := okZ hp0.sb.rev (by rw [List.length_reverse]; exact hp0.lb)
      have ob1 := okb.b
      have oar1 := okar.b
      have oa1 := oka.b
      have hq1 : zb.length ≤ 1000 := by rw [hp0.lb]; decide
      have hq2 : za.length ≤ 1000 := by rw [hp0.la]; decide
      replace N9 := news_cons N9 (List.Mem.tail _ (mem_pre hm0))
      (try dsimp only)
      k_steps
      clear nI6
      rename News _ _ _ _ => kN
      refine' Stop.out (c_num _ _ _ _ _ _ _ _ _ _ _ _ _ _ _ _ _ _ _ _ _ _ _ ?q8B ?q8F ?q8X ?q8T hCi hCd ?q8K ?q8D ?q8U ((wP, pairObj (tx za) ua (tx zb) ub 0) :: (iI, o9) :: (wL, listOf #[.ref wA, .ref wB] 0) :: (wB, pairObj (tx z2) u4 (tx z1) u2 0) :: (wA, pairObj (tx z1) u2 (tx z2) u4 0) :: []) (off_ty rfl (off_ty c9 (off_ty rfl (off_ty rfl (off_ty rfl (fun _ h => (List.not_mem_nil h).elim)))))) ⟨p1, p2, ex, ti1, ti2, oex, news_sub kN (sub_cons (by k_mem) (sub_cons (by k_mem) (sub_cons (by k_mem) (sub_cons (by k_mem) (sub_cons (by k_mem) (sub_cons (by k_mem) (sub_cons (by k_mem) (fun p hp => by repeat (first | exact hp | refine List.Mem.tail _ ?_)))))))))⟩ (tx zb) _ (by rw [tx_len]; first | exact hp0.la | exact hp0.lb) ?q8R)
      (case q8B => k_asm)
      (case q8F => k_asm)
      (case q8X => k_asm)
      (case q8T => k_asm)
      (case q8K => exact rfl)
      (case q8D => ktr_room)
      (case q8U => ktr_units)
      intro u8 h9 tk9 F9 T9
      rw [num_tx]
      clear ti1 ti2 oex kN
      obtain ⟨p1, p2, ex, ti1, ti2, oex, N9⟩ := T9
      simp only [List.cons_append, List.nil_append] at N9
      (try dsimp only)
      k_steps
      rename News _ _ _ _ => kN
      refine' Stop.out (c_num _ _ _ _ _ _ _ _ _ _ _ _ _ _ _ _ _ _ _ _ _ _ _ ?q9B ?q9F ?q9X ?q9T hCi hCd ?q9K ?q9D ?q9U ((wP, pairObj (tx za) ua (tx zb) ub 0) :: (iI, o9) :: (wL, listOf #[.ref wA, .ref wB] 0) :: (wB, pairObj (tx z2) u4 (tx z1) u2 0) :: (wA, pairObj (tx z1) u2 (tx z2) u4 0) :: []) (off_ty rfl (off_ty c9 (off_ty rfl (off_ty rfl (off_ty rfl (fun _ h => (List.not_mem_nil h).elim)))))) ⟨p1, p2, ex, ti1, ti2, oex, news_sub kN (sub_cons (by k_mem) (sub_cons (by k_mem) (sub_cons (by k_mem) (sub_cons (by k_mem) (sub_cons (by k_mem) (sub_cons (by k_mem) (sub_cons (by k_mem) (fun p hp => by repeat (first | exact hp | refine List.Mem.tail _ ?_)))))))))⟩ (tx zb.reverse) _ (by rw [tx_len, List.length_reverse]; first | exact hp0.la | exact hp0.lb) ?q9R)
      (case q9B => k_asm)
      (case q9F => k_asm)
      (case q9X => k_asm)
      (case q9T => k_asm)
      (case q9K => exact rfl)
      (case q9D => ktr_room)
      (case q9U => ktr_units)
      intro u8 h9 tk9 F9 T9
      rw [num_tx]
      clear ti1 ti2 oex kN
      obtain ⟨p1, p2, ex, ti1, ti2, oex, N9⟩ := T9
      simp only [List.cons_append, List.nil_append] at N9
      (try dsimp only)
      k_steps
      rename News _ _ _ _ => kN
      refine' Stop.out (c_num _ _ _ _ _ _ _ _ _ _ _ _ _ _ _ _ _ _ _ _ _ _ _ ?q10B ?q10F ?q10X ?q10T hCi hCd ?q10K ?q10D ?q10U ((wP, pairObj (tx za) ua (tx zb) ub 0) :: (iI, o9) :: (wL, listOf #[.ref wA, .ref wB] 0) :: (wB, pairObj (tx z2) u4 (tx z1) u2 0) :: (wA, pairObj (tx z1) u2 (tx z2) u4 0) :: []) (off_ty rfl (off_ty c9 (off_ty rfl (off_ty rfl (off_ty rfl (fun _ h => (List.not_mem_nil h).elim)))))) ⟨p1, p2, ex, ti1, ti2, oex, news_sub kN (sub_cons (by k_mem) (sub_cons (by k_mem) (sub_cons (by k_mem) (sub_cons (by k_mem) (sub_cons (by k_mem) (sub_cons (by k_mem) (sub_cons (by k_mem) (fun p hp => by repeat (first | exact hp | refine List.Mem.tail _ ?_)))))))))⟩ (tx za) _ (by rw [tx_len]; first | exact hp0.la | exact hp0.lb) ?q10R)
      (case q10B => k_asm)
      (case q10F => k_asm)
      (case q10X => k_asm)
      (case q10T => k_asm)
      (case q10K => exact rfl)
      (case q10D => ktr_room)
      (case q10U => ktr_units)
      intro u8 h9 tk9 F9 T9
      rw [num_tx]
      clear ti1 ti2 oex kN
      obtain ⟨p1, p2, ex, ti1, ti2, oex, N9⟩ := T9
      simp only [List.cons_append, List.nil_append] at N9
      (try dsimp only)
      k_steps
      rename News _ _ _ _ => kN
      have dm := left_dm oka hp0.e (16 * 256 ^ Int.toNat 7) (by decide)
      refine' Stop.out (T_dm _ _ _ _ _ _ _ _ _ _ _ _ _ _ _ _ _ _ _ _ _ _ _ ?q1B ?q1F ?q1X ?q1T hCi hCd ?q1K ?q1D ?q1U ((wP, pairObj (tx za) ua (tx zb) ub 0) :: (iI, o9) :: (wL, listOf #[.ref wA, .ref wB] 0) :: (wB, pairObj (tx z2) u4 (tx z1) u2 0) :: (wA, pairObj (tx z1) u2 (tx z2) u4 0) :: []) (off_ty rfl (off_ty c9 (off_ty rfl (off_ty rfl (off_ty rfl (fun _ h => (List.not_mem_nil h).elim)))))) ⟨p1, p2, ex, ti1, ti2, oex, news_sub kN (sub_cons (by k_mem) (sub_cons (by k_mem) (sub_cons (by k_mem) (sub_cons (by k_mem) (sub_cons (by k_mem) (sub_cons (by k_mem) (sub_cons (by k_mem) (fun p hp => by repeat (first | exact hp | refine List.Mem.tail _ ?_)))))))))⟩ _ _ _ _ oka.n (Nat.le_trans oka.bits.2 (by decide)) (left_small oka okb okbr _ (by decide)) ?q1R)
      (case q1B => k_asm)
      (case q1F => k_asm)
      (case q1X => k_asm)
      (case q1T => k_asm)
      (case q1K => exact rfl)
      (case q1D => ktr_room)
      (case q1U => ktr_units)
      intro wr v1 v2 h9 tk9 F9 T9
      rw [dm.1, dm.2] at T9
      clear ti1 ti2 oex kN
      obtain ⟨p1, p2, ex, ti1, ti2, oex, N9⟩ := T9
      simp only [List.cons_append, List.nil_append] at N9
      (try dsimp only)
      k_steps
      rename News _ _ _ _ => kN
      refine' Stop.out (T_i2d _ _ _ _ _ _ _ _ _ _ _ _ _ _ _ _ _ _ _ _ _ _ _ ?q2B ?q2F ?q2X ?q2T hCi hCd ?q2K ?q2D ?q2U ((wP, pairObj (tx za) ua (tx zb) ub 0) :: (iI, o9) :: (wL, listOf #[.ref wA, .ref wB] 0) :: (wB, pairObj (tx z2) u4 (tx z1) u2 0) :: (wA, pairObj (tx z1) u2 (tx z2) u4 0) :: []) (off_ty rfl (off_ty c9 (off_ty rfl (off_ty rfl (off_ty rfl (fun _ h => (List.not_mem_nil h).elim)))))) ⟨p1, p2, ex, ti1, ti2, oex, news_sub kN (sub_cons (by k_mem) (sub_cons (by k_mem) (sub_cons (by k_mem) (sub_cons (by k_mem) (sub_cons (by k_mem) (sub_cons (by k_mem) (sub_cons (by k_mem) (fun p hp => by repeat (first | exact hp | refine List.Mem.tail _ ?_)))))))))⟩ _ 8 ⟨by decide, by decide⟩ okar.x0 _ (kOf_len _) (Nat.le_trans okar.k (by decide)) okar.xk okar.k1 _ _ ?q2R)
      (case q2B => k_asm)
      (case q2F => k_asm)
      (case q2X => k_asm)
      (case q2T => k_asm)
      (case q2K => exact rfl)
      (case q2D => ktr_room)
      (case q2U => ktr_units)
      intro wt vst knt h9 tk9 F9 iT T9
      have hk8 := okar.k
      have hvl := iT.length.trans (digs_length _ _ _)
      clear ti1 ti2 oex kN
      obtain ⟨p1, p2, ex, ti1, ti2, oex, N9⟩ := T9
      simp only [List.cons_append, List.nil_append] at N9
      (try dsimp only)
      k_steps
      refine Stop.out ?_
      k_here
      refine wpAny_If ?_
      have iT2 : IntsAre vst (digs 8 (kOf (NN za.reverse + ONES)) (NN za.reverse + ONES)) := iT
      have hsz9 : (tx za.reverse).length ≤ sizeLine := by rw [tx_len, List.length_reverse, hp0.la, sizeLine_eq]; decide
      k_steps
      rename News _ _ _ _ => kN
      rename CarriedAll _ _ => hcar
      refine Stop.out (ke_ne_ints (News.isList kN (by k_mem)) (by assumption) (IntsAre.append iT2 (ints_reps 0 _ _)) (carried_two hcar) (by ke_room) ?_)
      rw [not_ne okar.dg]
      k_steps
      rename News _ _ _ _ => kN
      obtain ⟨ex', tj1, tj2, oex', hsub9, hoff9⟩ := tabs_lean ti1 ti2 oex kN (fun p hp => by repeat (first | exact hp | refine List.Mem.tail _ ?_)) (by k_mem) d9
      refine Stop.out (unrEnd_one (news' := (wL, listOf #[.ref wA, .ref wB] 0) :: (wB, pairObj (tx z2) u4 (tx z1) u2 0) :: (wA, pairObj (tx z1) u2 (tx z2) u4 0) :: (54, tabObj p1) :: (61, tabObj p2) :: ex') (by k_asm) (news_sub kN (sub_cons (by k_mem) (sub_cons (by k_mem) (sub_cons (by k_mem) (sub_cons (by k_mem) (sub_cons (by k_mem) (sub_cons (by k_mem) (fun p hp => by replace hp := hsub9 p hp; repeat (first | exact hp | refine List.Mem.tail _ ?_))))))))) (off_cons nI1 (off_cons nI2 (off_cons nI3 (off_cons nI4 (off_cons nI5 hoff9))))) ⟨.head _, ih2 _ _ ⟨?_, p1, p2, ex', tj1, tj2, oex', hoff9, rfl⟩⟩)
      repeat (first | exact mo | refine (if_neg (by decide)).trans ?_)
  | cons v rem ih =>
    intro ns' hi' z1 z2 t1 t2 n n1 n2 k1 k2 u1 u2 u3 u4 m sg1 sg2 hzl hz8 hk1 hk2 hfo ht1 ht2 m1 m2
    cases hi' with | cons v tv hi' =>
    have hlen := len124 hz8
    have hz4 : z1.length ≤ 4 := by
      have := hlen.1
      simp only [List.mem_cons, List.not_mem_nil, or_false] at this
      omega
    refine ItemsRest.val (fun h9 tk9 F9 => AllObj.cons fun o9 c9 => AllObj.nil fun N9 => ?_)
    (try simp only [List.cons_append, List.nil_append] at N9)
    (try dsimp only)
    k_steps
    rename News _ _ _ _ => kN
    refine' Stop.out (c_get1 _ _ _ _ _ _ _ _ _ _ _ _ _ _ _ _ _ _ _ _ _ _ _  ((i9, o9) :: (nl, listOf nvs.toArray kl) :: (61, tabObj #[]) :: [(54, tabObj #[])]) ?q11B ?q11F ?q11X ?q11T ?q11K ?q11D ?q11U xT xdx xD t1 t2 n n1 n2 xtt k1 k2 (tx z1) (tx z2) (Str.ofString "One") u1 u2 u3 u4 _ hk1 hk2 (by decide +kernel) ?q11N ?q11R)
    (case q11B => k_asm)
    (case q11F => k_asm)
    (case q11X => k_asm)
    (case q11T => k_asm)
    (case q11K => exact rfl)
    (case q11D => ktr_room)
    (case q11U => ktr_units)
    (case q11N => exact news_sub kN (sub_cons (by k_mem) (sub_cons (by k_mem) (sub_cons (by k_mem) (sub_cons (by k_mem) (sub_cons (by k_mem) (sub_cons (by k_mem) (sub_cons (by k_mem) (sub_cons (by k_mem) (sub_cons (by k_mem) (fun _ h => nomatch h)))))))))))
    intro h9 tk9 F9 N9
    clear kN
    (try dsimp only)
    k_steps
    rename News _ _ _ _ => kN
    refine' Stop.out (c_get2 _ _ _ _ _ _ _ _ _ _ _ _ _ _ _ _ _ _ _ _ _ _ _  ((i9, o9) :: (nl, listOf nvs.toArray kl) :: (61, tabObj #[]) :: [(54, tabObj #[])]) ?q12B ?q12F ?q12X ?q12T ?q12K ?q12D ?q12U xT xdx xD t1 t2 n n1 n2 xtt k1 k2 (tx z1) (tx z2) (Str.ofString "TWO") u1 u2 u3 u4 _ hk1 hk2 (by decide +kernel) ?q12N ?q12R)
    (case q12B => k_asm)
    (case q12F => k_asm)
    (case q12X => k_asm)
    (case q12T => k_asm)
    (case q12K => exact rfl)
    (case q12D => ktr_room)
    (case q12U => ktr_units)
    (case q12N => exact news_sub kN (sub_cons (by k_mem) (sub_cons (by k_mem) (sub_cons (by k_mem) (sub_cons (by k_mem) (sub_cons (by k_mem) (sub_cons (by k_mem) (sub_cons (by k_mem) (sub_cons (by k_mem) (sub_cons (by k_mem) (fun _ h => nomatch h)))))))))))
    intro h9 tk9 F9 N9
    clear kN
    (try dsimp only)
    k_steps
    rename News _ _ _ _ => kN
    refine Stop.out (mid_at (by k_asm) (fun m' news' => ∃ u, m' (Str.ofString "second") = some (.str (tx (if (v.fdiv 2).fmod 2 ≠ 0 then z2.reverse else z2)) u) ∧ m' (Str.ofString "first") = some (.str (tx z1) u2) ∧ m' (Str.ofString "v") = some (.int v tv) ∧ m' (Str.ofString "table") = some (.ref xT) ∧ m' (Str.ofString "numbers") = some (.ref nl) ∧ news' = (xT, instObj 220 xdx) :: (xdx, hdDict ww xD xtt) :: (xD, listOf #[.ref t1, .ref t2] n) :: (t1, pairObj k1 u1 (tx z1) u2 n1) :: (t2, pairObj k2 u3 (tx z2) u4 n2) :: (i9, o9) :: (nl, listOf nvs.toArray kl) :: (61, tabObj #[]) :: [(54, tabObj #[])]) ?_ ?_)
    · k_here
      have hzz : z2.length ≤ 1000 := by omega
      refine wpAny_If ?_
      k_steps
      · rename News _ _ _ _ => kN
        rename ((v.fdiv 2).fmod 2 ≠ 0) => hc
        refine Stop.out (MidAt.intro (by k_asm) kN ⟨_, by rw [if_pos hc]; exact if_pos rfl, by exact (if_neg (by decide)).trans ((if_neg (by decide)).trans (if_pos rfl)), by exact (if_neg (by decide)).trans ((if_neg (by decide)).trans ((if_neg (by decide)).trans (if_pos rfl))), ?_, ?_, rfl⟩)
        · exact (if_neg (by decide)).trans ((if_neg (by decide)).trans ((if_neg (by decide)).trans ((if_neg (by decide)).trans m1)))
        · exact (if_neg (by decide)).trans ((if_neg (by decide)).trans ((if_neg (by decide)).trans ((if_neg (by decide)).trans m2)))
      · rename News _ _ _ _ => kN
        rename ((v.fdiv 2).fmod 2 = 0) => hc
        refine Stop.out (MidAt.intro (by k_asm) kN ⟨_, by rw [if_neg (show ¬ ((v.fdiv 2).fmod 2 ≠ 0) from fun h => h hc)]; exact if_pos rfl, by exact (if_neg (by decide)).trans (if_pos rfl), by exact (if_neg (by decide)).trans ((if_neg (by decide)).trans (if_pos rfl)), ?_, ?_, rfl⟩)
        · exact (if_neg (by decide)).trans ((if_neg (by decide)).trans ((if_neg (by decide)).trans m1))
        · exact (if_neg (by decide)).trans ((if_neg (by decide)).trans ((if_neg (by decide)).trans m2))
    · intro h8 tk8 m8 news8 F8 N8 M8
      obtain ⟨us, e1, e2, e3, e4, e5, rfl⟩ := M8
      clear kN
      (try dsimp only)
      k_steps
      rename News _ _ _ _ => kN
      refine Stop.out (mid_at (by k_asm) (fun m' news' => ∃ uf, m' (Str.ofString "first") = some (.str (tx (if (v.fdiv 4).fmod 2 ≠ 0 then z1.map (- ·) else z1)) uf) ∧ m' (Str.ofString "second") = some (.str (tx (if (v.fdiv 2).fmod 2 ≠ 0 then z2.reverse else z2)) us) ∧ m' (Str.ofString "v") = some (.int v tv) ∧ m' (Str.ofString "table") = some (.ref xT) ∧ m' (Str.ofString "numbers") = some (.ref nl) ∧ news' = (xT, instObj 220 xdx) :: (xdx, hdDict ww xD xtt) :: (xD, listOf #[.ref t1, .ref t2] n) :: (t1, pairObj k1 u1 (tx z1) u2 n1) :: (t2, pairObj k2 u3 (tx z2) u4 n2) :: (i9, o9) :: (nl, listOf nvs.toArray kl) :: (61, tabObj #[]) :: [(54, tabObj #[])]) ?_ ?_)
      · k_here
        refine wpAny_If ?_
        k_steps
        · rename News _ _ _ _ => kN
          rename ((v.fdiv 4).fmod 2 ≠ 0) => hc
          refine' Stop.out (c_chg _ _ _ _ _ _ _ _ _ _ _ _ _ _ _ _ _ _ _ _ _ _ _  ((xT, instObj 220 xdx) :: (xdx, hdDict ww xD xtt) :: (xD, listOf #[.ref t1, .ref t2] n) :: (t1, pairObj k1 u1 (tx z1) u2 n1) :: (t2, pairObj k2 u3 (tx z2) u4 n2) :: (i9, o9) :: (nl, listOf nvs.toArray kl) :: (61, tabObj #[]) :: [(54, tabObj #[])]) ?q13B ?q13F ?q13X ?q13T ?q13K ?q13D ?q13U (tx z1) (midP z1) (midM z1) (tx (z1.map (- ·))) _ (chg_rep sg1 hlen.1).1 (chg_rep sg1 hlen.1).2.1 (chg_rep sg1 hlen.1).2.2 kN ?q13R)
          (case q13B => k_asm)
          (case q13F => k_asm)
          (case q13X => k_asm)
          (case q13T => k_asm)
          (case q13K => exact rfl)
          (case q13D => ktr_room)
          (case q13U => ktr_units)
          intro uf h9 tk9 F9 N9
          clear kN
          (try dsimp only)
          k_steps
          rename News _ _ _ _ => kN
          refine Stop.out (MidAt.intro (by k_asm) kN ⟨_, by rw [if_pos hc]; exact if_pos rfl, by exact (if_neg (by decide)).trans e1, by exact (if_neg (by decide)).trans e3, by exact (if_neg (by decide)).trans e4, by exact (if_neg (by decide)).trans e5, rfl⟩)
        · rename News _ _ _ _ => kN
          rename ((v.fdiv 4).fmod 2 = 0) => hc
          exact Stop.out (MidAt.intro (by k_asm) kN ⟨_, by rw [if_neg (show ¬ ((v.fdiv 4).fmod 2 ≠ 0) from fun h => h hc)]; exact e2, e1, e3, e4, e5, rfl⟩)
      · intro h8 tk8 m8 news8 F8 N8 M8
        obtain ⟨uf, e2, e1, e3, e4, e5, rfl⟩ := M8
        clear kN
        have sgf : Sg (if (v.fdiv 4).fmod 2 ≠ 0 then z1.map (- ·) else z1) := Sg.ite sg1.neg sg1
        have sgs : Sg (if (v.fdiv 2).fmod 2 ≠ 0 then z2.reverse else z2) := Sg.ite sg2.rev sg2
        have lef : (if (v.fdiv 4).fmod 2 ≠ 0 then z1.map (- ·) else z1).length = z1.length := if_len (by rw [List.length_map]) rfl
        have les : (if (v.fdiv 2).fmod 2 ≠ 0 then z2.reverse else z2).length = z1.length := if_len (by rw [List.length_reverse, hzl]) hzl
        have hfo2 : List.foldl (fun r v => gstep v r) (laidOf (v.fmod 2) (if (v.fdiv 4).fmod 2 ≠ 0 then z1.map (- ·) else z1) (if (v.fdiv 2).fmod 2 ≠ 0 then z2.reverse else z2), laidOf (v.fmod 2) (if (v.fdiv 4).fmod 2 ≠ 0 then z1.map (- ·) else z1) ((if (v.fdiv 2).fmod 2 ≠ 0 then z2.reverse else z2).map (- ·))) _ = _ := hfo
        generalize (if (v.fdiv 4).fmod 2 ≠ 0 then z1.map (- ·) else z1) = zf at *
        generalize (if (v.fdiv 2).fmod 2 ≠ 0 then z2.reverse else z2) = zs at *
        (try dsimp only)
        k_steps
        rename News _ _ _ _ => kN
        refine' Stop.out (c_chg _ _ _ _ _ _ _ _ _ _ _ _ _ _ _ _ _ _ _ _ _ _ _  ((xT, instObj 220 xdx) :: (xdx, hdDict ww xD xtt) :: (xD, listOf #[.ref t1, .ref t2] n) :: (t1, pairObj k1 u1 (tx z1) u2 n1) :: (t2, pairObj k2 u3 (tx z2) u4 n2) :: (i9, o9) :: (nl, listOf nvs.toArray kl) :: (61, tabObj #[]) :: [(54, tabObj #[])]) ?q14B ?q14F ?q14X ?q14T ?q14K ?q14D ?q14U (tx zs) (midP zs) (midM zs) (tx (zs.map (- ·))) _ (chg_rep sgs (les ▸ hlen.1)).1 (chg_rep sgs (les ▸ hlen.1)).2.1 (chg_rep sgs (les ▸ hlen.1)).2.2 kN ?q14R)
        (case q14B => k_asm)
        (case q14F => k_asm)
        (case q14X => k_asm)
        (case q14T => k_asm)
        (case q14K => exact rfl)
        (case q14D => ktr_room)
        (case q14U => ktr_units)
        intro ut h9 tk9 F9 N9
        clear kN
        have hzp : 0 < z1.length := by
          have := hlen.1
          simp only [List.mem_cons, List.not_mem_nil, or_false] at this
          omega
        have lh1 : zs.length = zf.length := les.trans lef.symm
        have sgl1 : (laidOf (v.fmod 2) zf zs).length ≤ 1000 := by rw [laid_length lh1.symm]; omega
        have sgl2 : (laidOf (v.fmod 2) zf (zs.map (- ·))).length ≤ 1000 := by rw [laid_length (by rw [List.length_map]; exact lh1.symm)]; omega
        (try dsimp only)
        k_steps
        rename News _ _ _ _ => kN
        refine' Stop.out (c_laid _ _ _ _ _ _ _ _ _ _ _ _ _ _ _ _ _ _ _ _ _ _ _  ((xT, instObj 220 xdx) :: (xdx, hdDict ww xD xtt) :: (xD, listOf #[.ref t1, .ref t2] n) :: (t1, pairObj k1 u1 (tx z1) u2 n1) :: (t2, pairObj k2 u3 (tx z2) u4 n2) :: (i9, o9) :: (nl, listOf nvs.toArray kl) :: (61, tabObj #[]) :: [(54, tabObj #[])]) ?q15B ?q15F ?q15X ?q15T ?q15K ?q15D ?q15U _ (fmod2 _) (tx zf) (tx zs) _ _ _ (tx_ascii _) (tx_ascii _) (by rw [tx_size, tx_size]; exact lh1) (by rw [tx_size]; omega) (by rw [tx_size, sizeLine_eq]; omega) kN ?q15R)
        (case q15B => k_asm)
        (case q15F => k_asm)
        (case q15X => k_asm)
        (case q15T => k_asm)
        (case q15K => exact rfl)
        (case q15D => ktr_room)
        (case q15U => ktr_units)
        intro yD yk ys h9 tk9 hys F9 N9
        clear kN
        (try dsimp only)
        k_steps
        rename News _ _ _ _ => kN
        refine' Stop.out (c_set1 _ _ _ _ _ _ _ _ _ _ _ _ _ _ _ _ _ _ _ _ _ _ _  ((i9, o9) :: (nl, listOf nvs.toArray kl) :: (61, tabObj #[]) :: [(54, tabObj #[])]) ?q16B ?q16F ?q16X ?q16T ?q16K ?q16D ?q16U xT xdx xD t1 t2 n n1 n2 xtt k1 k2 (tx z1) (tx z2) (Str.ofString "One") (tx (laidOf (v.fmod 2) zf zs)) u1 u2 u3 u4 _ _ hk1 hk2 (by decide +kernel) (by unfold Safe; decide +kernel) (tx_safe _) ?q16G ?q16N ?q16R)
        (case q16B => k_asm)
        (case q16F => k_asm)
        (case q16X => k_asm)
        (case q16T => k_asm)
        (case q16K => exact rfl)
        (case q16D => ktr_room)
        (case q16U => ktr_units)
        (case q16N => exact news_sub kN (sub_cons (by k_mem) (sub_cons (by k_mem) (sub_cons (by k_mem) (sub_cons (by k_mem) (sub_cons (by k_mem) (sub_cons (by k_mem) (sub_cons (by k_mem) (sub_cons (by k_mem) (sub_cons (by k_mem) (fun _ h => nomatch h)))))))))))
        (case q16G => exact off_cons (fun e => d0 e.symm) (off_cons g1 (off_cons g2 (off_cons g3 (fun _ h => nomatch h)))))
        intro t3 n' n3 u5 u6 h9 tk9 F9 N9
        clear kN
        (try dsimp only)
        k_steps
        rename News _ _ _ _ => kN
        refine' Stop.out (c_laid _ _ _ _ _ _ _ _ _ _ _ _ _ _ _ _ _ _ _ _ _ _ _  _ ?q17B ?q17F ?q17X ?q17T ?q17K ?q17D ?q17U _ (fmod2 _) (tx zf) (tx (zs.map (- ·))) _ _ _ (tx_ascii _) (tx_ascii _) (by rw [tx_size, tx_size, List.length_map]; exact lh1) (by rw [tx_size]; omega) (by rw [tx_size, sizeLine_eq]; omega) kN ?q17R)
        (case q17B => k_asm)
        (case q17F => k_asm)
        (case q17X => k_asm)
        (case q17T => k_asm)
        (case q17K => exact rfl)
        (case q17D => ktr_room)
        (case q17U => ktr_units)
        intro yD2 yk2 ys2 h9 tk9 hys2 F9 N9
        clear kN
        (try dsimp only)
        k_steps
        rename (_ = Str.ofString "two" ∨ _ = Str.ofString "TWO") => hx
        rename News _ _ _ _ => kN
        refine' Stop.out (c_set2 _ _ _ _ _ _ _ _ _ _ _ _ _ _ _ _ _ _ _ _ _ _ _  ((i9, o9) :: (nl, listOf nvs.toArray kl) :: (61, tabObj #[]) :: [(54, tabObj #[])]) ?q18B ?q18F ?q18X ?q18T ?q18K ?q18D ?q18U xT xdx xD t2 t3 n' n2 n3 xtt k2 (Str.ofString "One") (tx z2) (tx (laidOf (v.fmod 2) zf zs)) _ (tx (laidOf (v.fmod 2) zf (zs.map (- ·)))) u3 u4 u5 u6 _ _ hk2 (by decide +kernel) ?q18E ?q18S (tx_safe _) ?q18G ?q18N ?q18R)
        (case q18B => k_asm)
        (case q18F => k_asm)
        (case q18X => k_asm)
        (case q18T => k_asm)
        (case q18K => exact rfl)
        (case q18D => ktr_room)
        (case q18U => ktr_units)
        (case q18E => (rcases hx with h | h <;> rw [h] <;> decide +kernel))
        (case q18S => (rcases hx with h | h <;> rw [h] <;> (unfold Safe; decide +kernel)))
        (case q18N => exact news_sub kN (sub_cons (by k_mem) (sub_cons (by k_mem) (sub_cons (by k_mem) (sub_cons (by k_mem) (sub_cons (by k_mem) (sub_cons (by k_mem) (sub_cons (by k_mem) (sub_cons (by k_mem) (sub_cons (by k_mem) (fun _ h => nomatch h)))))))))))
        (case q18G => exact off_cons (fun e => d0 e.symm) (off_cons g1 (off_cons g2 (off_cons g3 (fun _ h => nomatch h)))))
        intro t4 n4' n4 u7 u8 h9 tk9 F9 N9
        clear kN
        (try dsimp only)
        k_steps
        rename News _ _ _ _ => kN
        have n3 : t3 ≠ i9 := ne_cls kN (o := pairObj _ _ _ _ _) (o' := o9) (by k_mem) (by k_mem) rfl c9 (show "tuple" ≠ "list_iterator" from by decide)
        have n4 : t4 ≠ i9 := ne_cls kN (o := pairObj _ _ _ _ _) (o' := o9) (by k_mem) (by k_mem) rfl c9 (show "tuple" ≠ "list_iterator" from by decide)
        refine Stop.out (unrEnd_one (news' := (xT, instObj 220 xdx) :: (xdx, hdDict ww xD xtt) :: (xD, listOf #[.ref t3, .ref t4] n4') :: (t3, pairObj (Str.ofString "One") u5 (tx (laidOf (v.fmod 2) zf zs)) u6 _) :: (t4, pairObj _ u7 (tx (laidOf (v.fmod 2) zf (zs.map (- ·)))) u8 _) :: (nl, listOf nvs.toArray kl) :: (61, tabObj #[]) :: [(54, tabObj #[])]) (by k_asm) (news_sub kN (sub_cons (by k_mem) (sub_cons (by k_mem) (sub_cons (by k_mem) (sub_cons (by k_mem) (sub_cons (by k_mem) (sub_cons (by k_mem) (sub_cons (by k_mem) (sub_cons (by k_mem) (sub_cons (by k_mem) (fun _ h => nomatch h))))))))))) (off_cons d1 (off_cons d2 (off_cons d0 (off_cons n3 (off_cons n4 (off_cons d5 (off_cons d6 (off_cons d7 (fun _ h => nomatch h))))))))) ⟨by k_subL, ?_⟩)
        refine ih _ hi' (laidOf (v.fmod 2) zf zs) (laidOf (v.fmod 2) zf (zs.map (- ·))) t3 t4 n4' _ _ (Str.ofString "One") _ u5 u6 u7 u8 _ (sgf.laid sgs) (sgf.laid sgs.neg) ?_ ?_ (by decide +kernel) ?_ hfo2 n3 n4 ?_ ?_
        · rw [laid_length lh1.symm, laid_length (by rw [List.length_map]; exact lh1.symm)]
        · rw [laid_length lh1.symm, lef]; exact hlen.2
        · rcases hx with h | h <;> rw [h] <;> decide +kernel
        · exact (if_neg (by decide)).trans e4
        · exact (if_neg (by decide)).trans e5)
end
end
local macro_rules | `(tactic| walk_at "idle") => `(tactic| fail)
local macro_rules | `(tactic| walk_at "idle") => `(tactic| fail)
local macro_rules | `(tactic| walk_at "idle") => `(tactic| fail)
local macro_rules | `(tactic| walk_at "idle") => `(tactic| fail)
local macro_rules | `(tactic| walk_at "idle") => `(tactic| fail)
local macro_rules | `(tactic| walk_at "idle") => `(tactic| fail)
local macro_rules | `(tactic| walk_at "idle") => `(tactic| fail)
local macro_rules | `(tactic| walk_at "idle") => `(tactic| fail)
local macro_rules | `(tactic| walk_at "idle") => `(tactic| fail)
local macro_rules | `(tactic| walk_at "idle") => `(tactic| fail)
local macro_rules | `(tactic| walk_at "idle") => `(tactic| fail)
local macro_rules | `(tactic| walk_at "idle") => `(tactic| fail)
local macro_rules | `(tactic| walk_at "idle") => `(tactic| fail)
local macro_rules | `(tactic| walk_at "idle") => `(tactic| fail)
local macro_rules | `(tactic| walk_at "idle") => `(tactic| fail)
local macro_rules | `(tactic| walk_at "idle") => `(tactic| fail)
local macro_rules | `(tactic| walk_at "idle") => `(tactic| fail)
local macro_rules | `(tactic| walk_at "idle") => `(tactic| fail)
local macro_rules | `(tactic| walk_at "idle") => `(tactic| fail)
local macro_rules | `(tactic| walk_at "idle") => `(tactic| fail)
local macro_rules | `(tactic| walk_at "idle") => `(tactic| fail)
local macro_rules | `(tactic| walk_at "idle") => `(tactic| fail)
local macro_rules | `(tactic| walk_at "idle") => `(tactic| fail)
local macro_rules | `(tactic| walk_at "idle") => `(tactic| fail)
local macro_rules | `(tactic| walk_at "idle") => `(tactic| fail)
local macro_rules | `(tactic| walk_at "idle") => `(tactic| fail)
local macro_rules | `(tactic| walk_at "idle") => `(tactic| fail)
end Mine
theorem PySem.Challenge.cw_pg0294_02_holds : PySem.Challenge.rw_pg0294_02.Holds := by
  exact Mine.law
