import PyProof.Rows.All
import OpenK.AllK
import Wide.All
import Wide.FinOn
import PySem.Challenge.RW_pg0294_01
open PySem PySem.W PyProof.Rows
set_option Elab.async false
set_option maxRecDepth 100000
set_option maxHeartbeats 8000000
open_top hd01 for PySem.Challenge.rw_pg0294_01
open PySem.Spec PySem.Calls
set_option maxHeartbeats 2000000
set_option linter.all false
namespace Mine
theorem calm_plain1 : True := by w_top off; exact True.intro
section
theorem lk {K : Frag} {f : Addr} {o : Obj} {P : Prop} (h : K.lookup f = some o) (k : K.lookup f = some o → P) : P := k h
def Stop (P : Prop) : Prop := P
theorem Stop.mk {P : Prop} (h : Stop P) : P := h
theorem Stop.out {P : Prop} (h : P) : Stop P := h
def dsum (N : Nat) : List Int → Int
  | [] => 0
  | d :: r => d + 2 ^ N * dsum N r
theorem dsum_append (N : Nat) (a b : List Int) : dsum N (a ++ b) = dsum N a + 2 ^ (N * a.length) * dsum N b := by
  induction a with
  | nil => simp [dsum]
  | cons d r ih =>
    simp only [List.cons_append, dsum, ih, List.length_cons]
    rw [Nat.mul_add, Nat.mul_one, Int.pow_add, Int.mul_add]
    rw [Int.mul_comm (2 ^ (N * r.length)) (2 ^ N), Int.mul_assoc]
    omega
theorem dsum_bound {N : Nat} : ∀ {l : List Int}, (∀ d ∈ l, 0 ≤ d ∧ d < 2 ^ N) → 0 ≤ dsum N l ∧ dsum N l < 2 ^ (N * l.length)
  | [], _ => by simp [dsum]
  | d :: r, h => by
    have hd := h d (.head _)
    have hr := dsum_bound (l := r) fun x hx => h x (.tail _ hx)
    have hp : (0 : Int) < 2 ^ N := Int.pow_pos (by omega)
    have h1 : (2 : Int) ^ N * dsum N r ≤ 2 ^ N * (2 ^ (N * r.length) - 1) := Int.mul_le_mul_of_nonneg_left (by omega) (by omega)
    have h2 : (0 : Int) ≤ 2 ^ N * dsum N r := Int.mul_nonneg (by omega) hr.1
    have h3 : (2 : Int) ^ (N * (d :: r).length) = 2 ^ N * 2 ^ (N * r.length) := by
      rw [List.length_cons, Nat.mul_add, Nat.mul_one, Int.pow_add, Int.mul_comm]
    simp only [dsum]
    rw [h3]
    rw [Int.mul_sub, Int.mul_one] at h1
    omega
def dcut (ns : List Int) (i j : Int) : List Int := (ns.take j.toNat).drop i.toNat
theorem dcut_split {ns : List Int} {i m j : Int} (h0 : 0 ≤ i) (h1 : i ≤ m) (h2 : m ≤ j) : dcut ns i j = dcut ns i m ++ dcut ns m j := by
  obtain ⟨i, rfl⟩ := Int.eq_ofNat_of_zero_le h0
  obtain ⟨m, rfl⟩ := Int.eq_ofNat_of_zero_le (a := m) (by omega)
  obtain ⟨j, rfl⟩ := Int.eq_ofNat_of_zero_le (a := j) (by omega)
  simp only [dcut, Int.toNat_natCast]
  have e : ns.take m = (ns.take j).take m := by rw [List.take_take, Nat.min_eq_left (by omega)]
  rw [e]
  generalize ns.take j = l
  conv => lhs; rw [← List.take_append_drop m l]
  rw [List.drop_append]
  congr 1
  by_cases hl : m ≤ l.length
  · have : (l.take m).length = m := by rw [List.length_take]; omega
    rw [this, show i - m = 0 by omega, List.drop_zero]
  · rw [List.drop_eq_nil_of_le (as := l) (by omega), List.drop_nil]
theorem dcut_length {ns : List Int} {i j : Int} (h0 : 0 ≤ i) (h1 : i ≤ j) (h2 : j ≤ ns.length) : (dcut ns i j).length = (j - i).toNat := by
  simp only [dcut, List.length_drop, List.length_take]
  omega
theorem dcut_mem {ns : List Int} {i j : Int} {P : Int → Prop} (h : ∀ d ∈ ns, P d) : ∀ d ∈ dcut ns i j, P d := fun d hd => h d (List.mem_of_mem_take (List.mem_of_mem_drop hd))
theorem dcut_one {ns : List Int} {i : Int} (h0 : 0 ≤ i) (h1 : i < ns.length) : dcut ns i (i + 1) = [ns.getD i.toNat 0] := by
  obtain ⟨i, rfl⟩ := Int.eq_ofNat_of_zero_le h0
  have hi : i < ns.length := by omega
  have e : ((i : Int) + 1).toNat = i + 1 := by omega
  simp only [dcut, e, Int.toNat_natCast]
  have e2 := List.drop_eq_getElem_cons hi
  rw [List.drop_take, show i + 1 - i = 1 by omega, e2, List.take_succ_cons, List.take_zero, List.getD_eq_getElem?_getD, List.getElem?_eq_getElem hi]
  rfl

section
variable {h₀ h : Heap} {L : Addr} {a b c d e x y z : Addr × Obj} {r : List (Addr × Obj)}
theorem news_swap5 (N : News h₀ L h (a :: b :: c :: d :: e :: x :: y :: r)) : News h₀ L h (a :: b :: c :: d :: e :: y :: x :: r) := fun p hp => N p (by
  simp only [List.mem_cons] at hp ⊢
  rcases hp with h | h | h | h | h | h | h | h <;> simp [h])
theorem news_sw6 (N : News h₀ L h (a :: c :: d :: e :: x :: b :: y :: r)) : News h₀ L h (a :: b :: c :: d :: e :: y :: x :: r) := fun p hp => N p (by
  simp only [List.mem_cons] at hp ⊢
  rcases hp with h | h | h | h | h | h | h | h <;> simp [h])
theorem news_pk6 (N : News h₀ L h (a :: c :: d :: e :: x :: b :: y :: r)) : News h₀ L h (b :: x :: y :: r) := fun p hp => N p (by
  simp only [List.mem_cons] at hp ⊢
  rcases hp with h | h | h | h <;> simp [h])
theorem news_pick5 (N : News h₀ L h (a :: b :: c :: d :: e :: x :: y :: r)) : News h₀ L h (b :: y :: x :: r) := fun p hp => N p (by
  simp only [List.mem_cons] at hp ⊢
  rcases hp with h | h | h | h <;> simp [h])
theorem news_pick5' (N : News h₀ L h (a :: b :: c :: d :: e :: x :: y :: r)) : News h₀ L h (b :: x :: y :: r) := fun p hp => N p (by
  simp only [List.mem_cons] at hp ⊢
  rcases hp with h | h | h | h <;> simp [h])
end
end
theorem calm_d2i_inner : True := by w_top off; exact True.intro
section
section
local macro_rules | `(tactic| k_room) => `(tactic| ktr_room)
local macro_rules | `(tactic| is_list) => `(tactic| exact News.isList (by k_asm) (by k_mem))
local macro_rules | `(tactic| cell_enter) => `(tactic| (refine' code_nest ?k1 ?k2 ?k3 ?k4 ?k5 ?kA ?kF ?kK ?k6 ?k7 ?k8 ?k9 ?kB ?_ ?c2 ?c3 ?c4 ?c5; (case kA => exact rfl); (case kF => exact rfl); (case kK => assumption); (case k1 => k_asm); (case k2 => k_asm); (case k3 => k_asm); (case k4 => k_asm); (case k5 => k_asm); (case k6 => k_mem); (case k7 => exact codeRec_news (by k_asm) (by k_mem) (by assumption) (by assumption)); (case k8 => ktr_room); (case k9 => exact BindsTo.of_eq rfl); (case c5 => decide); (case kB => exact locs rfl); (case c2 => exact rfl); (case c3 => exact rfl); (case c4 => exact rfl); k_whole; intro g' L' h' FG' F' N' B' X' T'; (try dsimp only); (try k_lift B'); (try k_fold)))
local macro_rules | `(tactic| walk_at "call ref") => `(tactic| (refine Stop.mk ?_))
local macro_rules | `(tactic| walk_at "binaryOp RShift int int") => `(tactic| (refine wpAny_rshift1_int (by omega) ?_))
local macro_rules | `(tactic| walk_at "binaryOp Mult int int") => `(tactic| (refine PyProof.Rows.mul_int ?_ (PySem.IntMulOk.of_left (PySem.intBits_le_64 (by omega) (by omega)))))
local macro_rules | `(tactic| walk_at "subscriptTail Name Name ref int") => `(tactic| (refine item_anyK (by is_list) (by assumption) (by omega) (by omega) (by omega) ?_; intro _))
local macro_rules | `(tactic| walk_at "binaryOp LShift int int") => `(tactic| (refine lshift_int (by assumption) (by assumption) ?_))
theorem bits_cut {N : Int} {ns : List Int} {i j : Int} (hN : 0 ≤ N ∧ N ≤ 1000) (hb : ∀ d ∈ ns, 0 ≤ d ∧ d < 2 ^ N.toNat) (h0 : 0 ≤ i) (h1 : i ≤ j) (h2 : j ≤ ns.length) (hl : ns.length ≤ 64) :
    (Builtin.Int.intBits (dsum N.toNat (dcut ns i j)) : Int) ≤ 64000 := by
  have b := dsum_bound (N := N.toNat) (dcut_mem (i := i) (j := j) hb)
  rw [dcut_length h0 h1 h2] at b
  obtain ⟨x, hx⟩ := Int.eq_ofNat_of_zero_le b.1
  have hk : N.toNat * (j - i).toNat ≤ 64000 := by
    have h3 : N.toNat ≤ 1000 := by omega
    have h4 : (j - i).toNat ≤ 64 := by omega
    exact Nat.le_trans (Nat.mul_le_mul h3 h4) (by omega)
  have hb2 : Builtin.Int.intBits (dsum N.toNat (dcut ns i j)) ≤ N.toNat * (j - i).toNat := intBits_le (by
    have h5 := b.2
    rw [hx] at h5 ⊢
    have h6 : ((2 : Int) ^ (N.toNat * (j - i).toNat)) = ((2 ^ (N.toNat * (j - i).toNat) : Nat) : Int) := by rw [Int.natCast_pow]; rfl
    rw [h6] at h5
    rw [Int.natAbs_natCast]
    exact Int.ofNat_lt.mp h5)
  omega
theorem mid_nonneg {i j N : Int} (h0 : 0 ≤ i) (hij : i < j) (hN : 0 ≤ N) : 0 ≤ ((i + j) / 2 - i) * N := Int.mul_nonneg (by omega) hN
theorem mid_le {i j N : Int} (h0 : 0 ≤ i) (hij : i < j) (hj : j ≤ 64) (hN : 0 ≤ N) (hN' : N ≤ 1000) : ((i + j) / 2 - i) * N ≤ 64000 := by
  have h1 : ((i + j) / 2 - i) * N ≤ 64 * N := Int.mul_le_mul_of_nonneg_right (by omega) hN
  omega
theorem mid_sum {ns : List Int} {i j N : Int} (h0 : 0 ≤ i) (hij : i + 1 < j) (hj : j ≤ ns.length) (hN : 0 ≤ N) :
    dsum N.toNat (dcut ns ((i + j) / 2) j) * 2 ^ (((i + j) / 2 - i) * N).toNat + dsum N.toNat (dcut ns i ((i + j) / 2)) = dsum N.toNat (dcut ns i j) := by
  rw [dcut_split (ns := ns) (i := i) (m := (i + j) / 2) (j := j) h0 (by omega) (by omega), dsum_append, dcut_length h0 (by omega) (by omega)]
  have e : (((i + j) / 2 - i) * N).toNat = N.toNat * ((i + j) / 2 - i).toNat := by
    rw [Int.toNat_mul (by omega) hN, Nat.mul_comm]
  rw [e, Int.mul_comm (dsum _ _) (2 ^ _)]
  omega
theorem inner_d2i (w : World) (p : Program) (loose : List Str) (mean : ExcName → Option Value) (mg mb : Str → Option Value)
  {n66 q66 : Str} {p66 : Arguments} {more : List Stmt} {sc66 : Scope} {dV kV dc pm66 cd66 ct66 oc66 : Value} {an66 od66 : Option Addr} {osl : Array (Option Value)}
  {name name2 qual : Str} {params : Arguments} {body : List Stmt} {scope : Scope} {pos : Pos}
  (hq : (hd01.heap_39 w.params).lookup 214 = some ⟨oc66, od66, .func (fnOf n66 q66 p66 (.FunctionDef name params body [] none [] scope none name2 pos :: more) sc66 dV kV dc pm66 an66 cd66 ct66), osl⟩)
  (hqual : qual = Str.ofString "_digits2int.<locals>.inner") (N : Int) (ns : List Int) (vs : List Value) (hi : IntsAre vs ns) (hN0 : 0 ≤ N ∧ N ≤ 1000) (hb : ∀ d ∈ ns, 0 ≤ d ∧ d < 2 ^ N.toNat) (hl : ns.length ≤ 64)
  (k : Nat) : ∀ (dp un : Nat) (gd : Option (List Code)) (cn : Str) (cs : Scope) (a : Addr) (ccd : Value) (cl : List (Str × Addr)) (outer : List Env) (A₀ : Around) (base h₀ : Heap) (L : Addr) (m : Str → Option Value) (s : Shared) (Q E : Value → Shared → Prop) (rest : List (Addr × Obj))
  (_hB : Below A₀ base outer h₀) (_hF : Fr h₀ L s.heap m) (_hX : (hd01.heap_39 w.params).In h₀) (_hT : Top p loose mean mg mb h₀) (_hC : CodeHd base 213 209) (_hk : cs.kind = .function)
  (_hd : dp + k < recursionLimit) (_hu : un + 8 * k + 100 < cLine)
  (f c' c1 c2 c3 l : Addr) (oc o1 o2 o3 : Obj) (doc pm ctv : Value) (vsc : Array Value) (tq tN ti tj : Tok) (kn : Nat)
  (_hN : News h₀ L s.heap ((f, fnMade name qual params body scope [(Str.ofString "n", c2), (Str.ofString "inner", c3), (Str.ofString "digits", c1)] doc pm c' ctv) :: (c', oc) :: (c3, o3) :: (c2, o2) :: (c1, o1) :: (l, listOf vs.toArray kn) :: rest))
  (_d0 : oc.data = .fields vsc) (_d1 : vsc[1]? = some (.str qual tq)) (_d3 : o3.data = .cell (some (.ref f))) (_d2 : o2.data = .cell (some (.int N tN))) (_d1 : o1.data = .cell (some (.ref l)))
  (i j : Int) (_h0 : 0 ≤ i) (_hij : i < j) (_hj : j ≤ ns.length) (_hk : j ≤ i + k)
  (_hret : ∀ (t : Tok) (h' : Heap) (tk' : Nat), Fr h₀ L h' m → News h₀ L h' ((f, fnMade name qual params body scope [(Str.ofString "n", c2), (Str.ofString "inner", c3), (Str.ofString "digits", c1)] doc pm c' ctv) :: (c', oc) :: (c3, o3) :: (c2, o2) :: (c1, o1) :: (l, listOf vs.toArray kn) :: rest) → Q (.int (dsum N.toNat (dcut ns i j)) t) { s with heap := h', toks := tk' }),
  wpAny (model PySem.Challenge.rw_pg0294_01.row.prog w) (ktrTop dp un gd cn cs L a ccd cl outer) (call (.ref f) [.int i ti, .int j tj]) Q E s := by
  refine' lk (K := hd01.heap_39 w.params) (f := 214) ?hk (fun hx => ?_)
  (case hk => k_is)
  have he := Option.some.inj (hx.symm.trans hq)
  clear hx hq
  have hb := congrArg (fun o : Obj => match o.data with | .func fd => fd.body | _ => .stmts []) he
  clear he
  dsimp only [fnOf] at hb
  injection hb with hb
  injection hb with hb _
  injection hb with e1 e2 e3 _ _ _ e4 _ e5 e6
  subst e1 e2 e3 e4 e5 e6 hqual
  induction k with
  | zero => intros; omega
  | succ k ih =>
    intro dp un gd cn cs a ccd cl outer A₀ base h₀ L m s Q E rest hB hF hX hT hC hk hd hu f c' c1 c2 c3 l oc o1 o2 o3 doc pm ctv vsc tq tN ti tj kn hN d0 d1 d3 d2 d1' i j h0 hij hj hjk hret
    refine wpAny_call ?_
    k_dflt cell_enter
    have hl64 : j ≤ 64 := by omega
    k_steps
    · -- one digit
      have e : j = i + 1 := by omega
      subst e
      have e2 := dcut_one (ns := ns) h0 (by omega)
      have e3 : ns.getD i.toNat 0 = dsum N.toNat (dcut ns i (i + 1)) := by rw [e2]; simp [dsum]
      rw [e3]
      exact hret _ _ _ (by k_asm) (by k_asm)
    · refine' Stop.out (ih _ _ _ _ _ _ _ _ _ _ _ _ _ _ _ _ _ _ ?B ?F ?X ?T ?C ?K ?D ?U _ _ _ _ _ _ _ _ _ _ _ _ _ _ _ _ _ _ _ ?N ?d0 ?d1 ?d3 ?d2 ?d4 _ _ ?g0 ?g1 ?g2 ?g3 ?ret)
      (case B => k_asm)
      (case F => k_asm)
      (case X => k_asm)
      (case T => k_asm)
      (case C => assumption)
      (case K => exact rfl)
      (case D => ktr_room)
      (case U => ktr_units)
      (case N => k_asm)
      (case d0 => assumption)
      (case d1 => assumption)
      (case d3 => assumption)
      (case d2 => assumption)
      (case d4 => assumption)
      (case g0 => omega)
      (case g1 => omega)
      (case g2 => omega)
      (case g3 => omega)
      intro t9 h9 tk9 F9 N9
      (try dsimp only)
      have hs1 := bits_cut (i := (i + j) / 2) (j := j) hN0 hb (by omega) (by omega) hj hl
      have hs2 := mid_nonneg h0 hij hN0.1
      have hs3 := mid_le h0 hij hl64 hN0.1 hN0.2
      have hs4 := mid_sum (ns := ns) h0 (by omega : i + 1 < j) hj hN0.1
      have hs5 : (Builtin.Int.intBits (dsum N.toNat (dcut ns ((i + j) / 2) j)) : Int) + ((i + j) / 2 - i) * N ≤ 2 ^ 27 := Int.le_trans (Int.add_le_add hs1 hs3) (by decide)
      k_steps
      refine' Stop.out (ih _ _ _ _ _ _ _ _ _ _ _ _ _ _ _ _ _ _ ?Bb ?Fb ?Xb ?Tb ?Cb ?Kb ?Db ?Ub _ _ _ _ _ _ _ _ _ _ _ _ _ _ _ _ _ _ _ ?Nb ?d0b ?d1b ?d3b ?d2b ?d4b _ _ ?g0b ?g1b ?g2b ?g3b ?retb)
      (case Bb => k_asm)
      (case Fb => k_asm)
      (case Xb => k_asm)
      (case Tb => k_asm)
      (case Cb => assumption)
      (case Kb => exact rfl)
      (case Db => ktr_room)
      (case Ub => ktr_units)
      (case Nb => k_asm)
      (case d0b => assumption)
      (case d1b => assumption)
      (case d3b => assumption)
      (case d2b => assumption)
      (case d4b => assumption)
      (case g0b => omega)
      (case g1b => omega)
      (case g2b => omega)
      (case g3b => omega)
      intro t9 h9 tk9 F9 N9
      (try dsimp only)
      k_steps
      rw [hs4]
      exact hret _ _ _ (by k_asm) (by k_asm)
end
end
theorem calm_d2i : True := by w_top off; exact True.intro
section
theorem ne_allLt {d b : Nat} : ∀ {r : List (Addr × Obj)}, AllLt d r → d ≤ b → ∀ p ∈ r, p.1 ≠ b
  | [], _, _ => fun _ h => nomatch h
  | q :: r, h, hb => fun p hp => by
    rcases List.mem_cons.mp hp with rfl | hp
    · exact Nat.ne_of_lt (Nat.lt_of_lt_of_le h.1 hb)
    · exact ne_allLt h.2 hb p hp
section
local macro_rules | `(tactic| cell_enter) => `(tactic| (refine' code_defC ?k1 ?k2 ?k3 ?k4 ?k5 ?kA ?kF ?kK ?k6 ?k7 ?k8 ?k9 ?kB ?kD ?_ ?c2 ?c3 ?c4; (case kA => exact rfl); (case kF => exact rfl); (case kK => assumption); (case k1 => k_asm); (case k2 => k_asm); (case k3 => k_asm); (case k4 => k_asm); (case k5 => k_asm); (case k6 => k_is); (case k7 => k_is); (case k8 => ktr_room); (case k9 => exact BindsTo.of_eq rfl); (case kB => exact rfl); (case kD => decide +kernel); (case c2 => exact rfl); (case c3 => exact rfl); (case c4 => exact rfl); k_whole; intro g' L' h' tk' cells' FG' F' N' Y' B' X' T' l1; (try k_lt l1); k_cells Y'; (try simp only [List.cons_append, List.nil_append] at N'); (try dsimp only); (try k_lift B'); (try k_fold)))
local macro_rules | `(tactic| k_all) => `(tactic| first | assumption | exact ne_allLt (And.right (by assumption)) (by omega) | exact ne_allLt (And.right (And.right (by assumption))) (by omega))
local macro_rules | `(tactic| k_room) => `(tactic| ktr_room)
local macro_rules | `(tactic| is_list) => `(tactic| exact News.isList (by k_asm) (by k_mem))
local macro_rules | `(tactic| walk_at "call ref") => `(tactic| (refine Stop.mk ?_))
theorem d2i_first (w : World) (p : Program) (loose : List Str) (mean : ExcName → Option Value) (mg mb : Str → Option Value)
  (N : Int) (ns : List Int) (vs : List Value) (hi : IntsAre vs ns) (hN0 : 0 ≤ N ∧ N ≤ 1000) (hb : ∀ d ∈ ns, 0 ≤ d ∧ d < 2 ^ N.toNat) (hl : ns.length ≤ 64)
  (dp un : Nat) (gd : Option (List Code)) (cn : Str) (cs : Scope) (a : Addr) (ccd : Value) (cl : List (Str × Addr)) (outer : List Env) (A₀ : Around) (base h₀ : Heap) (L : Addr) (m : Str → Option Value) (s : Shared) (Q E : Value → Shared → Prop) (rest : List (Addr × Obj))
  (hB : Below A₀ base outer h₀) (hF : Fr h₀ L s.heap m) (hX : (hd01.heap_39 w.params).In h₀) (hT : Top p loose mean mg mb h₀) (hC : CodeHd base 213 209) (hk : cs.kind = .function)
  (hd : dp + 100 < recursionLimit) (hu : un + 1000 < cLine)
  (l : Addr) (kn : Nat) (tl tN : Tok) (hl61 : l ≠ 209) (hne : ∀ p ∈ rest, p.1 ≠ 209)
  (hN : News h₀ L s.heap ((209, tabObj #[]) :: (l, listOf vs.toArray kn) :: rest))
  (hret : ∀ (t : Tok) (h' : Heap) (tk' : Nat) (c' : Addr) (oc : Obj) (vsc : Array Value) (tq : Tok), Fr h₀ L h' m → oc.data = .fields vsc → vsc[1]? = some (.str (Str.ofString "_digits2int.<locals>.inner") tq) →
    News h₀ L h' ((c', oc) :: (209, tabObj #[rawInt 146, rawInt 4, .ref c']) :: (l, listOf vs.toArray kn) :: rest) → Q (.int (dsum N.toNat ns) t) { s with heap := h', toks := tk' }) :
  wpAny (model PySem.Challenge.rw_pg0294_01.row.prog w) (ktrTop dp un gd cn cs L a ccd cl outer) (call (.ref 214) [.ref l, .int N tN]) Q E s := by
  refine wpAny_call ?_
  k_dflt cell_enter
  k_steps
  ·
    refine' Stop.out (inner_d2i w p loose mean mg mb ?hq ?hql N ns vs hi hN0 hb hl ns.length _ _ _ _ _ _ _ _ _ _ _ _ _ _ _ _ _ _ ?B ?F ?X ?T ?C ?K ?D ?U _ _ _ _ _ _ _ _ _ _ _ _ _ _ _ _ _ _ _ ?N ?d0 ?d1 ?d3 ?d2 ?d4 _ _ ?g0 ?g1 ?g2 ?g3 ?ret)
    (case B => k_asm)
    (case F => k_asm)
    (case X => k_asm)
    (case T => k_asm)
    (case C => assumption)
    (case K => exact rfl)
    (case D => ktr_room)
    (case U => ktr_units)
    (case N => exact news_swap5 (by k_asm))
    (case hq => k_is)
    (case hql => rfl)
    (case d0 => assumption)
    (case d1 => assumption)
    (case d3 => assumption)
    (case d2 => assumption)
    (case d4 => assumption)
    (case g0 => omega)
    (case g1 => omega)
    (case g2 => omega)
    (case g3 => omega)
    intro t9 h9 tk9 F9 N9
    (try dsimp only)
    k_steps
    have e : dcut ns 0 ns.length = ns := by simp [dcut]
    rw [e]
    exact hret _ _ _ _ _ _ _ (by k_asm) (by assumption) (by assumption) (news_pick5 (by k_asm))
  · have e : ns = [] := List.eq_nil_of_length_eq_zero (by omega)
    have e2 : (0 : Int) = dsum N.toNat ns := by rw [e]; rfl
    rw [e2]
    exact hret _ _ _ _ _ _ _ (by k_asm) (by assumption) (by assumption) (news_pick5' (by k_asm))
theorem d2i_again (w : World) (p : Program) (loose : List Str) (mean : ExcName → Option Value) (mg mb : Str → Option Value)
  (N : Int) (ns : List Int) (vs : List Value) (hi : IntsAre vs ns) (hN0 : 0 ≤ N ∧ N ≤ 1000) (hb : ∀ d ∈ ns, 0 ≤ d ∧ d < 2 ^ N.toNat) (hl : ns.length ≤ 64)
  (dp un : Nat) (gd : Option (List Code)) (cn : Str) (cs : Scope) (a : Addr) (ccd : Value) (cl : List (Str × Addr)) (outer : List Env) (A₀ : Around) (base h₀ : Heap) (L : Addr) (m : Str → Option Value) (s : Shared) (Q E : Value → Shared → Prop) (rest : List (Addr × Obj))
  (hB : Below A₀ base outer h₀) (hF : Fr h₀ L s.heap m) (hX : (hd01.heap_39 w.params).In h₀) (hT : Top p loose mean mg mb h₀) (hC : CodeHd base 213 209) (hk : cs.kind = .function)
  (hd : dp + 100 < recursionLimit) (hu : un + 1000 < cLine)
  (l : Addr) (kn : Nat) (tl tN : Tok) (hl61 : l ≠ 209) (hne : ∀ p ∈ rest, p.1 ≠ 209)
  (c0 : Addr) (oc0 : Obj) (vsc0 : Array Value) (tq0 : Tok) (hoc0 : oc0.data = .fields vsc0) (hv0 : vsc0[1]? = some (.str (Str.ofString "_digits2int.<locals>.inner") tq0)) (hc0 : c0 ≠ 209)
  (hN : News h₀ L s.heap ((209, tabObj #[rawInt 146, rawInt 4, .ref c0]) :: (c0, oc0) :: (l, listOf vs.toArray kn) :: rest))
  (hret : ∀ (t : Tok) (h' : Heap) (tk' : Nat) (c' : Addr) (oc : Obj) (vsc : Array Value) (tq : Tok), Fr h₀ L h' m → oc.data = .fields vsc → vsc[1]? = some (.str (Str.ofString "_digits2int.<locals>.inner") tq) →
    News h₀ L h' ((c', oc) :: (209, tabObj #[rawInt 146, rawInt 4, .ref c']) :: (l, listOf vs.toArray kn) :: rest) → Q (.int (dsum N.toNat ns) t) { s with heap := h', toks := tk' }) :
  wpAny (model PySem.Challenge.rw_pg0294_01.row.prog w) (ktrTop dp un gd cn cs L a ccd cl outer) (call (.ref 214) [.ref l, .int N tN]) Q E s := by
  refine wpAny_call ?_
  k_dflt cell_enter
  k_steps
  ·
    refine' Stop.out (inner_d2i w p loose mean mg mb ?hq ?hql N ns vs hi hN0 hb hl ns.length _ _ _ _ _ _ _ _ _ _ _ _ _ _ _ _ _ _ ?B ?F ?X ?T ?C ?K ?D ?U _ _ _ _ _ _ _ _ _ _ _ _ _ _ _ _ _ _ _ ?N ?d0 ?d1 ?d3 ?d2 ?d4 _ _ ?g0 ?g1 ?g2 ?g3 ?ret)
    (case B => k_asm)
    (case F => k_asm)
    (case X => k_asm)
    (case T => k_asm)
    (case C => assumption)
    (case K => exact rfl)
    (case D => ktr_room)
    (case U => ktr_units)
    (case N => exact news_sw6 (by k_asm))
    (case hq => k_is)
    (case hql => rfl)
    (case d0 => assumption)
    (case d1 => assumption)
    (case d3 => assumption)
    (case d2 => assumption)
    (case d4 => assumption)
    (case g0 => omega)
    (case g1 => omega)
    (case g2 => omega)
    (case g3 => omega)
    intro t9 h9 tk9 F9 N9
    (try dsimp only)
    k_steps
    have e : dcut ns 0 ns.length = ns := by simp [dcut]
    rw [e]
    exact hret _ _ _ _ _ _ _ (by k_asm) (by assumption) (by assumption) (news_pick5 (by k_asm))
  · have e : ns = [] := List.eq_nil_of_length_eq_zero (by omega)
    have e2 : (0 : Int) = dsum N.toNat ns := by rw [e]; rfl
    rw [e2]
    exact hret _ _ _ _ _ _ _ (by k_asm) (by assumption) (by assumption) (news_pk6 (by k_asm))
end
end
theorem calm_i2d_plain : True := by w_top off; exact True.intro
section
theorem foldl_ones (v : Value) : ∀ (n : Nat) (a : Array Value), List.foldl (fun x1 x2 => x1 ++ x2) a (List.replicate n #[v]) = a ++ (List.replicate n v).toArray
  | 0, a => by simp
  | n + 1, a => by rw [List.replicate_succ, List.foldl_cons, foldl_ones v n, List.replicate_succ, Array.append_assoc]; congr 1; exact List.append_toArray [v] _
theorem ints_zeros (t : Tok) : ∀ n, IntsAre (List.replicate n (Value.int 0 t)) (List.replicate n 0)
  | 0 => .nil
  | n + 1 => .cons _ _ (ints_zeros t n)
theorem zeros_K {prog : Program} {w : World} {A : Around} {E : Value → Shared → Prop} {s : Shared} {h₀ : Heap} {L l : Addr} {m : Str → Option Value} {news : List (Addr × Obj)} {k kn : Nat} {x : Int} {t0 u : Tok} {Q : Value → Shared → Prop}
    (F : Fr h₀ L s.heap m) (N : News h₀ L s.heap news) (hl : (l, listOf #[.int 0 t0] kn) ∈ news) (hx : x = (k : Int)) (hk : k ≤ 1000)
    (h : ∀ l' h' vs ns, IntsAre vs ns → ns = List.replicate k 0 → ns.length = k → Fr h₀ L h' m → News h₀ L h' ((l', listOf vs.toArray 0) :: news) → (∀ p ∈ news, p.1 < l') → Q (.ref l') { s with heap := h' }) :
    wpAny (model prog w) A (binaryOp .Mult (.ref l) (.int x u)) Q E s := by
  subst hx
  refine PyProof.Rows.mul_list F N (N.get hl) (by omega) (by omega) (by simp; omega) (fun h' F' N' => h _ h' _ _ (ints_zeros t0 k) rfl (List.length_replicate ..) F' ?_ (fun p hp => Heap.lt_size (N p hp).1))
  have e := foldl_ones (.int 0 t0) k #[]
  simp only [Int.toNat_natCast, Array.isEmpty, List.size_toArray, List.length_cons, List.length_nil] at N'
  simp only [Array.empty_append] at e
  rw [show (decide (0 + 1 = 0)) = false from rfl] at N'
  simp only [Bool.false_eq_true, if_false] at N'
  rw [e] at N'
  exact N'

def digs (N : Nat) : Nat → Int → List Int
  | 0, _ => []
  | k + 1, x => x % 2 ^ N :: digs N k (x / 2 ^ N)
def setd (N : Nat) (ns : List Int) (x i j : Int) : List Int := ns.take i.toNat ++ (digs N (j - i).toNat x ++ ns.drop j.toNat)
theorem digs_length (N : Nat) : ∀ (k : Nat) (x : Int), (digs N k x).length = k
  | 0, _ => rfl
  | k + 1, x => by rw [digs, List.length_cons, digs_length N k]
theorem pow_pos2 (n : Nat) : (0 : Int) < 2 ^ n := Int.pow_pos (by omega)
theorem emod_mul_div {x p q : Int} (hp : 0 < p) : x % (p * q) / p = x / p % q := by
  refine ((Int.ediv_emod_unique hp (r := x % p)).mpr ⟨?_, Int.emod_nonneg _ (by omega), Int.emod_lt_of_pos _ hp⟩).1
  have e1 := Int.emod_add_mul_ediv x (p * q)
  have e2 := Int.emod_add_mul_ediv x p
  have e3 := Int.emod_add_mul_ediv (x / p) q
  rw [Int.ediv_ediv_of_nonneg (by omega)] at e3
  have e4 : p * (x / p % q) = p * (x / p) - p * q * (x / (p * q)) := by
    have : x / p % q = x / p - q * (x / (p * q)) := by omega
    rw [this, Int.mul_sub, Int.mul_assoc]
  omega
theorem digs_split (N : Nat) : ∀ (a b : Nat) (x : Int), 0 ≤ x → digs N (a + b) x = digs N a (x % 2 ^ (N * a)) ++ digs N b (x / 2 ^ (N * a))
  | 0, b, x, _ => by simp [digs]
  | a + 1, b, x, h => by
    have hp := pow_pos2 N
    have e : a + 1 + b = (a + b) + 1 := by omega
    have e2 : (2 : Int) ^ (N * (a + 1)) = 2 ^ N * 2 ^ (N * a) := by rw [Nat.mul_add, Nat.mul_one, Int.pow_add, Int.mul_comm]
    rw [e, digs, digs, digs_split N a b (x / 2 ^ N) (Int.ediv_nonneg h (by omega)), e2, List.cons_append]
    have e3 : x % (2 ^ N * 2 ^ (N * a)) % 2 ^ N = x % 2 ^ N := Int.emod_emod_of_dvd _ (Int.dvd_mul_right ..)
    have e4 : x % (2 ^ N * 2 ^ (N * a)) / 2 ^ N = x / 2 ^ N % 2 ^ (N * a) := by
      exact emod_mul_div hp
    rw [e3, e4, Int.ediv_ediv_of_nonneg (by omega)]
theorem setd_one {N : Nat} {ns : List Int} {x i : Int} (h0 : 0 ≤ i) (h1 : i < ns.length) (hx0 : 0 ≤ x) (hx : x < 2 ^ N) : setd N ns x i (i + 1) = ns.set i.toNat x := by
  obtain ⟨i, rfl⟩ := Int.eq_ofNat_of_zero_le h0
  have e : ((i : Int) + 1 - i).toNat = 1 := by omega
  have e2 : ((i : Int) + 1).toNat = i + 1 := by omega
  simp only [setd, e, e2, Int.toNat_natCast, digs, Int.emod_eq_of_lt hx0 hx]
  rw [List.set_eq_take_append_cons_drop, if_pos (by omega)]
  rfl
theorem setd_two {N : Nat} {ns : List Int} {x i m j : Int} (h0 : 0 ≤ i) (h1 : i ≤ m) (h2 : m ≤ j) (h3 : j ≤ ns.length) (hx0 : 0 ≤ x) :
    setd N (setd N ns (x % 2 ^ (N * (m - i).toNat)) i m) (x / 2 ^ (N * (m - i).toNat)) m j = setd N ns x i j := by
  obtain ⟨i, rfl⟩ := Int.eq_ofNat_of_zero_le h0
  obtain ⟨m, rfl⟩ := Int.eq_ofNat_of_zero_le (a := m) (by omega)
  obtain ⟨j, rfl⟩ := Int.eq_ofNat_of_zero_le (a := j) (by omega)
  have e : ((j : Int) - i).toNat = ((m : Int) - i).toNat + ((j : Int) - m).toNat := by omega
  have l1 : (ns.take i).length = i := by rw [List.length_take]; omega
  have l2 : (ns.take i ++ digs N ((m : Int) - i).toNat (x % 2 ^ (N * ((m : Int) - i).toNat))).length = m := by rw [List.length_append, l1, digs_length]; omega
  simp only [setd, Int.toNat_natCast]
  rw [e, digs_split N _ _ x hx0]
  rw [← List.append_assoc (ns.take i), List.take_left' l2, List.drop_append, l2, List.drop_eq_nil_of_le (by omega), List.nil_append, List.drop_drop]
  rw [show m + (j - m) = j by omega]
  simp only [List.append_assoc]
theorem setd_length {N : Nat} {ns : List Int} {x i j : Int} (h0 : 0 ≤ i) (h1 : i ≤ j) (h2 : j ≤ ns.length) : (setd N ns x i j).length = ns.length := by
  simp only [setd, List.length_append, digs_length, List.length_take, List.length_drop]
  omega
theorem xor_low {x : Int} (h : 0 ≤ x) (S : Nat) : Builtin.bitXor x (x.fdiv (2 ^ S) * 2 ^ S) = x % 2 ^ S := by
  have hp := pow_pos2 S
  rw [Int.fdiv_eq_ediv_of_nonneg _ (by omega)]
  have hd : 0 ≤ x / 2 ^ S := Int.ediv_nonneg h (by omega)
  have hy : 0 ≤ x / 2 ^ S * 2 ^ S := Int.mul_nonneg hd (by omega)
  have e : Builtin.bitAnd x (x / 2 ^ S * 2 ^ S) = x / 2 ^ S * 2 ^ S := by
    rw [bitAnd_pp h hy]
    obtain ⟨n, rfl⟩ := Int.eq_ofNat_of_zero_le h
    have e1 : ((n : Int) / 2 ^ S * 2 ^ S) = ((n / 2 ^ S * 2 ^ S : Nat) : Int) := by simp
    rw [e1, Int.toNat_natCast, Int.toNat_natCast]
    congr 1
    apply Nat.eq_of_testBit_eq
    intro k
    rw [Nat.testBit_and, Nat.testBit_mul_two_pow]
    by_cases hk : S ≤ k
    · rw [Nat.testBit_div_two_pow, Nat.sub_add_cancel hk]; simp [hk]
    · simp [hk]
  rw [bitXor_and, e]
  have := Int.emod_add_mul_ediv x (2 ^ S)
  rw [Int.mul_comm] at this
  omega
theorem bits_of_lt {x : Int} {k : Nat} (h0 : 0 ≤ x) (h : x < 2 ^ k) : Builtin.Int.intBits x ≤ k := intBits_le (by
  obtain ⟨n, rfl⟩ := Int.eq_ofNat_of_zero_le h0
  have e : ((2 : Int) ^ k) = ((2 ^ k : Nat) : Int) := by rw [Int.natCast_pow]; rfl
  rw [e] at h
  rw [Int.natAbs_natCast]
  exact Int.ofNat_lt.mp h)
theorem div_lt_pow {x : Int} {a b : Nat} (h0 : 0 ≤ x) (h : x < 2 ^ (a + b)) : x / 2 ^ a < 2 ^ b := by
  apply Int.ediv_lt_of_lt_mul (pow_pos2 a)
  rw [← Int.pow_add, Nat.add_comm]
  exact h
theorem news_i1 {h₀ h : Heap} {L : Addr} {f c l z o3 o2 o1 t : Addr × Obj} {r : List (Addr × Obj)} (N : News h₀ L h (f :: c :: l :: z :: o3 :: o2 :: o1 :: t :: r)) : News h₀ L h (f :: c :: l :: o3 :: o2 :: o1 :: z :: t :: r) := fun p hp => N p (by
  simp only [List.mem_cons, List.not_mem_nil, or_false] at hp ⊢
  rcases hp with h | h | h | h | h | h | h | h | h <;> simp [h])
theorem news_i2 {h₀ h : Heap} {L : Addr} {f c l o3 o2 o1 z t : Addr × Obj} {r : List (Addr × Obj)} (N : News h₀ L h (f :: c :: l :: o3 :: o2 :: o1 :: z :: t :: r)) : News h₀ L h (l :: c :: t :: r) := fun p hp => N p (by
  simp only [List.mem_cons, List.not_mem_nil, or_false] at hp ⊢
  rcases hp with h | h | h | h <;> simp [h])
theorem news_i3 {h₀ h : Heap} {L : Addr} {f c l z o3 o2 o1 t : Addr × Obj} {r : List (Addr × Obj)} (N : News h₀ L h (f :: c :: l :: z :: o3 :: o2 :: o1 :: t :: r)) : News h₀ L h (l :: c :: t :: r) := fun p hp => N p (by
  simp only [List.mem_cons, List.not_mem_nil, or_false] at hp ⊢
  rcases hp with h | h | h | h <;> simp [h])
theorem news_i4 {h₀ h : Heap} {L : Addr} {f l z o3 o2 o1 t c : Addr × Obj} {r : List (Addr × Obj)} (N : News h₀ L h (f :: l :: z :: o3 :: o2 :: o1 :: t :: c :: r)) : News h₀ L h (f :: c :: l :: o3 :: o2 :: o1 :: z :: t :: r) := fun p hp => N p (by
  simp only [List.mem_cons, List.not_mem_nil, or_false] at hp ⊢
  rcases hp with h | h | h | h | h | h | h | h | h <;> simp [h])
theorem news_i5 {h₀ h : Heap} {L : Addr} {f l z o3 o2 o1 t c : Addr × Obj} {r : List (Addr × Obj)} (N : News h₀ L h (f :: l :: z :: o3 :: o2 :: o1 :: t :: c :: r)) : News h₀ L h (l :: c :: t :: r) := fun p hp => N p (by
  simp only [List.mem_cons, List.not_mem_nil, or_false] at hp ⊢
  rcases hp with h | h | h | h <;> simp [h])
theorem digs_zero (N : Nat) : ∀ k, digs N k 0 = List.replicate k 0
  | 0 => rfl
  | k + 1 => by rw [digs, Int.zero_emod, Int.zero_ediv, digs_zero N k, List.replicate_succ]
theorem setd_whole {N k : Nat} {x : Int} {ns : List Int} (h : ns.length = k) : setd N ns x 0 k = digs N k x := by
  have e : ns.drop k = [] := List.drop_eq_nil_of_le (by omega)
  simp [setd, e]
end
theorem calm_i2d_inner : True := by w_top off; exact True.intro
section
section
local macro_rules | `(tactic| k_room) => `(tactic| ktr_room)
local macro_rules | `(tactic| is_list) => `(tactic| exact News.isList (by k_asm) (by k_mem))
local macro_rules | `(tactic| cell_enter) => `(tactic| (refine' code_nest ?k1 ?k2 ?k3 ?k4 ?k5 ?kA ?kF ?kK ?k6 ?k7 ?k8 ?k9 ?kB ?_ ?c2 ?c3 ?c4 ?c5; (case kA => exact rfl); (case kF => exact rfl); (case kK => assumption); (case k1 => k_asm); (case k2 => k_asm); (case k3 => k_asm); (case k4 => k_asm); (case k5 => k_asm); (case k6 => k_mem); (case k7 => exact codeRec_news (by k_asm) (by k_mem) (by assumption) (by assumption)); (case k8 => ktr_room); (case k9 => exact BindsTo.of_eq rfl); (case c5 => decide); (case kB => exact locs rfl); (case c2 => exact rfl); (case c3 => exact rfl); (case c4 => exact rfl); k_whole; intro g' L' h' FG' F' N' B' X' T'; (try dsimp only); (try k_lift B'); (try k_fold)))
local macro_rules | `(tactic| walk_at "call ref") => `(tactic| (refine Stop.mk ?_))
local macro_rules | `(tactic| walk_at "binaryOp RShift int int") => `(tactic| (refine wpAny_rshift1_int (by omega) ?_))
local macro_rules | `(tactic| walk_at "binaryOp Mult int int") => `(tactic| (refine PyProof.Rows.mul_int ?_ (PySem.IntMulOk.of_left (PySem.intBits_le_64 (by omega) (by omega)))))
local macro_rules | `(tactic| walk_at "subscriptTail Name Name ref int") => `(tactic| (refine item_anyK (by is_list) (by assumption) (by omega) (by omega) (by omega) ?_; intro _))
local macro_rules | `(tactic| walk_at "binaryOp LShift int int") => `(tactic| (refine lshift_int (by assumption) (by assumption) ?_))
local macro_rules | `(tactic| k_all) => `(tactic| assumption)
local macro_rules | `(tactic| walk_at "binaryOp LShift int int") => `(tactic| (refine lshift_int (by assumption) (by assumption) ?_))
local macro_rules | `(tactic| walk_at "binaryOp RShift int int") => `(tactic| (first | refine wpAny_rshift1_int (by omega) ?_ | refine rshift_int (by assumption) ?_))
theorem mid_nat {i j N : Int} (h0 : 0 ≤ i) (hij : i < j) (hN : 0 ≤ N) : (((i + j) / 2 - i) * N).toNat = N.toNat * ((i + j) / 2 - i).toNat := by
  rw [Int.toNat_mul (by omega) hN, Nat.mul_comm]
theorem mid_cut {i j N x : Int} (h0 : 0 ≤ i) (hij : i < j) (hx0 : 0 ≤ x) (hx : x < 2 ^ (N.toNat * (j - i).toNat)) :
    x / 2 ^ (N.toNat * ((i + j) / 2 - i).toNat) < 2 ^ (N.toNat * (j - (i + j) / 2).toNat) := by
  apply div_lt_pow hx0
  rw [← Nat.mul_add, show ((i + j) / 2 - i).toNat + (j - (i + j) / 2).toNat = (j - i).toNat by omega]
  exact hx
theorem mid_bits {i j N x : Int} (h0 : 0 ≤ i) (hij : i < j) (hj : j ≤ 64) (hN : 0 ≤ N) (hN' : N ≤ 1000) (hx0 : 0 ≤ x) (hx : x < 2 ^ (N.toNat * (j - i).toNat)) :
    (Builtin.Int.intBits (x.fdiv (2 ^ (((i + j) / 2 - i) * N).toNat)) : Int) + ((i + j) / 2 - i) * N ≤ 2 ^ 27 := by
  have hp := pow_pos2 (((i + j) / 2 - i) * N).toNat
  rw [Int.fdiv_eq_ediv_of_nonneg _ (by omega), mid_nat h0 hij hN]
  have b := bits_of_lt (Int.ediv_nonneg hx0 (Int.le_of_lt (pow_pos2 _))) (mid_cut h0 hij hx0 hx)
  have h3 : N.toNat * (j - (i + j) / 2).toNat ≤ 1000 * 64 := Nat.mul_le_mul (by omega) (by omega)
  have h4 := mid_le h0 hij hj hN hN'
  have : (2 : Int) ^ 27 = 134217728 := by decide
  omega
theorem inner_i2d (w : World) (p : Program) (loose : List Str) (mean : ExcName → Option Value) (mg mb : Str → Option Value)
  {n66 q66 : Str} {p66 : Arguments} {more : List Stmt} {sc66 : Scope} {dV kV dc pm66 cd66 ct66 oc66 : Value} {an66 od66 : Option Addr} {osl : Array (Option Value)}
  {st0 : Stmt} {name name2 qual : Str} {params : Arguments} {body : List Stmt} {scope : Scope} {pos : Pos}
  (hq : (hd01.heap_39 w.params).lookup 207 = some ⟨oc66, od66, .func (fnOf n66 q66 p66 (st0 :: .FunctionDef name params body [] none [] scope none name2 pos :: more) sc66 dV kV dc pm66 an66 cd66 ct66), osl⟩)
  (hqual : qual = Str.ofString "_int2digits.<locals>.inner") (N : Int) (hN0 : 1 ≤ N ∧ N ≤ 1000)
  (k : Nat) : ∀ (dp un : Nat) (gd : Option (List Code)) (cn : Str) (cs : Scope) (a : Addr) (ccd : Value) (cl : List (Str × Addr)) (outer : List Env) (A₀ : Around) (base h₀ : Heap) (L : Addr) (m : Str → Option Value) (s : Shared) (Q E : Value → Shared → Prop) (rest : List (Addr × Obj))
  (_hB : Below A₀ base outer h₀) (_hF : Fr h₀ L s.heap m) (_hX : (hd01.heap_39 w.params).In h₀) (_hT : Top p loose mean mg mb h₀) (_hC : CodeHd base 206 202) (_hk : cs.kind = .function)
  (_hd : dp + k < recursionLimit) (_hu : un + 8 * k + 100 < cLine)
  (f c' c1 c2 c3 l : Addr) (oc o1 o2 o3 : Obj) (doc pm ctv : Value) (vsc : Array Value) (tq tN tx ti tj : Tok) (kn : Nat) (ns : List Int) (vs : List Value)
  (_hN : News h₀ L s.heap ((f, fnMade name qual params body scope [(Str.ofString "n", c1), (Str.ofString "inner", c3), (Str.ofString "a_digits", c2)] doc pm c' ctv) :: (c', oc) :: (l, listOf vs.toArray kn) :: (c3, o3) :: (c2, o2) :: (c1, o1) :: rest))
  (_hi : IntsAre vs ns) (_hl : ns.length ≤ 64) (_d0 : oc.data = .fields vsc) (_d1 : vsc[1]? = some (.str qual tq)) (_d3 : o3.data = .cell (some (.ref f))) (_d2 : o2.data = .cell (some (.ref l))) (_d1 : o1.data = .cell (some (.int N tN)))
  (_e1 : @Ne Nat f l ∧ @Ne Nat c' l ∧ @Ne Nat c1 l ∧ @Ne Nat c2 l ∧ @Ne Nat c3 l) (_e2 : ∀ p ∈ rest, p.1 ≠ l)
  (x i j : Int) (_h0 : 0 ≤ i) (_hij : i < j) (_hj : j ≤ ns.length) (_hk : j ≤ i + k) (_hx0 : 0 ≤ x) (_hx : x < 2 ^ (N.toNat * (j - i).toNat))
  (_hret : ∀ (vs' : List Value) (kn' : Nat) (h' : Heap) (tk' : Nat), IntsAre vs' (setd N.toNat ns x i j) → Fr h₀ L h' m → News h₀ L h' ((f, fnMade name qual params body scope [(Str.ofString "n", c1), (Str.ofString "inner", c3), (Str.ofString "a_digits", c2)] doc pm c' ctv) :: (c', oc) :: (l, listOf vs'.toArray kn') :: (c3, o3) :: (c2, o2) :: (c1, o1) :: rest) → Q .none { s with heap := h', toks := tk' }),
  wpAny (model PySem.Challenge.rw_pg0294_01.row.prog w) (ktrTop dp un gd cn cs L a ccd cl outer) (call (.ref f) [.int x tx, .int i ti, .int j tj]) Q E s := by
  refine' lk (K := hd01.heap_39 w.params) (f := 207) ?hk (fun hx => ?_)
  (case hk => k_is)
  have he := Option.some.inj (hx.symm.trans hq)
  clear hx hq
  have hb := congrArg (fun o : Obj => match o.data with | .func fd => fd.body | _ => .stmts []) he
  clear he
  dsimp only [fnOf] at hb
  injection hb with hb
  injection hb with _ hb
  injection hb with hb _
  injection hb with e1 e2 e3 _ _ _ e4 _ e5 e6
  subst e1 e2 e3 e4 e5 e6 hqual
  induction k with
  | zero => intros; omega
  | succ k ih =>
    intro dp un gd cn cs a ccd cl outer A₀ base h₀ L m s Q E rest hB hF hX hT hC hk hd hu f c' c1 c2 c3 l oc o1 o2 o3 doc pm ctv vsc tq tN tx ti tj kn ns vs hN hi hl d0 d1 d3 d2 d1' e1 e2 x i j h0 hij hj hjk hx0 hx hret
    refine wpAny_call ?_
    k_dflt cell_enter
    have hl64 : j ≤ 64 := by omega
    have hs2 := mid_nonneg h0 hij (by omega : 0 ≤ N)
    have hs5 := mid_bits h0 hij hl64 (by omega) hN0.2 hx0 hx
    have hxl := xor_low hx0 (((i + j) / 2 - i) * N).toNat
    have hup : 0 ≤ x / 2 ^ (N.toNat * ((i + j) / 2 - i).toNat) ∧ x / 2 ^ (N.toNat * ((i + j) / 2 - i).toNat) < 2 ^ (N.toNat * (j - (i + j) / 2).toNat) := ⟨Int.ediv_nonneg hx0 (Int.le_of_lt (pow_pos2 _)), mid_cut h0 hij hx0 hx⟩
    have hlow : 0 ≤ x % 2 ^ (N.toNat * ((i + j) / 2 - i).toNat) ∧ x % 2 ^ (N.toNat * ((i + j) / 2 - i).toNat) < 2 ^ (N.toNat * ((i + j) / 2 - i).toNat) := ⟨Int.emod_nonneg _ (Int.ne_of_gt (pow_pos2 _)), Int.emod_lt_of_pos _ (pow_pos2 _)⟩
    have hfd : x.fdiv (2 ^ (((i + j) / 2 - i) * N).toNat) = x / 2 ^ (N.toNat * ((i + j) / 2 - i).toNat) := by
      rw [Int.fdiv_eq_ediv_of_nonneg _ (Int.le_of_lt (pow_pos2 _)), mid_nat h0 hij (by omega)]
    have hsm := mid_nat h0 hij (by omega : 0 ≤ N)
    k_steps
    · have e : j = i + 1 := by omega
      subst e
      have e3 : (i + 1 - i).toNat = 1 := by omega
      rw [e3, Nat.mul_one] at hx
      have e4 := setd_one h0 (by omega) hx0 hx (ns := ns)
      refine hret _ _ _ _ ?_ (by k_asm) (by k_asm)
      rw [e4]
      assumption
    · rw [hxl, hsm]
      refine' Stop.out (ih _ _ _ _ _ _ _ _ _ _ _ _ _ _ _ _ _ _ ?B ?F ?X ?T ?C ?K ?D ?U _ _ _ _ _ _ _ _ _ _ _ _ _ _ _ _ _ _ _ _ _ _ ?N ?hi ?hl ?d0 ?d1 ?d3 ?d2 ?d4 e1 e2 _ _ _ ?g0 ?g1 ?g2 ?g3 ?g4 ?g5 ?ret)
      (case B => k_asm)
      (case F => k_asm)
      (case X => k_asm)
      (case T => k_asm)
      (case C => assumption)
      (case K => exact rfl)
      (case D => ktr_room)
      (case U => ktr_units)
      (case N => k_asm)
      (case hi => assumption)
      (case hl => omega)
      (case d0 => assumption)
      (case d1 => assumption)
      (case d3 => assumption)
      (case d2 => assumption)
      (case d4 => assumption)
      (case g0 => omega)
      (case g1 => omega)
      (case g2 => omega)
      (case g3 => omega)
      (case g4 => first | exact hlow.1 | exact hup.1)
      (case g5 => first | exact hlow.2 | exact hup.2)
      intro vs9 kn9 h9 tk9 i9 F9 N9
      (try dsimp only)

      have hsl := setd_length (N := N.toNat) (ns := ns) (x := x % 2 ^ (N.toNat * ((i + j) / 2 - i).toNat)) (i := i) (j := (i + j) / 2) h0 (by omega) (by omega)
      k_steps
      rw [hfd]
      refine' Stop.out (ih _ _ _ _ _ _ _ _ _ _ _ _ _ _ _ _ _ _ ?Bb ?Fb ?Xb ?Tb ?Cb ?Kb ?Db ?Ub _ _ _ _ _ _ _ _ _ _ _ _ _ _ _ _ _ _ _ _ _ _ ?Nb ?hib ?hlb ?d0b ?d1b ?d3b ?d2b ?d4b e1 e2 _ _ _ ?g0b ?g1b ?g2b ?g3b ?g4b ?g5b ?retb)
      (case Bb => k_asm)
      (case Fb => k_asm)
      (case Xb => k_asm)
      (case Tb => k_asm)
      (case Cb => assumption)
      (case Kb => exact rfl)
      (case Db => ktr_room)
      (case Ub => ktr_units)
      (case Nb => k_asm)
      (case hib => assumption)
      (case hlb => omega)
      (case d0b => assumption)
      (case d1b => assumption)
      (case d3b => assumption)
      (case d2b => assumption)
      (case d4b => assumption)
      (case g0b => omega)
      (case g1b => omega)
      (case g2b => omega)
      (case g3b => omega)
      (case g4b => first | exact hlow.1 | exact hup.1)
      (case g5b => first | exact hlow.2 | exact hup.2)
      intro vs9 kn9 h9 tk9 i9 F9 N9
      (try dsimp only)

      k_steps
      refine hret _ _ _ _ ?_ (by k_asm) (by k_asm)
      rw [← setd_two (N := N.toNat) (ns := ns) (x := x) (i := i) (m := (i + j) / 2) (j := j) h0 (by omega) (by omega) hj hx0]
      assumption
end
end
theorem calm_i2d : True := by w_top off; exact True.intro
section
section
local macro_rules | `(tactic| cell_enter) => `(tactic| (refine' code_defC ?k1 ?k2 ?k3 ?k4 ?k5 ?kA ?kF ?kK ?k6 ?k7 ?k8 ?k9 ?kB ?kD ?_ ?c2 ?c3 ?c4; (case kA => exact rfl); (case kF => exact rfl); (case kK => assumption); (case k1 => k_asm); (case k2 => k_asm); (case k3 => k_asm); (case k4 => k_asm); (case k5 => k_asm); (case k6 => k_is); (case k7 => k_is); (case k8 => ktr_room); (case k9 => exact BindsTo.of_eq rfl); (case kB => exact rfl); (case kD => decide +kernel); (case c2 => exact rfl); (case c3 => exact rfl); (case c4 => exact rfl); k_whole; intro g' L' h' tk' cells' FG' F' N' Y' B' X' T' l1; (try k_lt l1); k_cells Y'; (try simp only [List.cons_append, List.nil_append] at N'); (try dsimp only); (try k_lift B'); (try k_fold)))
local macro_rules | `(tactic| k_all) => `(tactic| first | assumption | exact ne_allLt (And.right (by assumption)) (by omega) | exact ne_allLt (And.right (And.right (by assumption))) (by omega))
local macro_rules | `(tactic| k_room) => `(tactic| ktr_room)
local macro_rules | `(tactic| is_list) => `(tactic| exact News.isList (by k_asm) (by k_mem))
local macro_rules | `(tactic| walk_at "call ref") => `(tactic| (refine Stop.mk ?_))
local macro_rules | `(tactic| walk_at "binaryOp Mult ref int") => `(tactic| (refine zeros_K (by k_asm) (by k_asm) (by k_mem) (by assumption) (by omega) ?_; intro l' h' vs' ns' i' e1' e2' F' N' l1; (try k_lt l1)))
theorem i2d_first (w : World) (p : Program) (loose : List Str) (mean : ExcName → Option Value) (mg mb : Str → Option Value)
  (x N : Int) (hN0 : 1 ≤ N ∧ N ≤ 1000) (hx0 : 0 ≤ x) (k : Nat) (hlen : ((Builtin.Int.intBits x : Int) + N - 1).fdiv N = (k : Int)) (hk64 : k ≤ 64) (hxk : x < 2 ^ (N.toNat * k)) (hk1 : x ≠ 0 → 1 ≤ k)
  (dp un : Nat) (gd : Option (List Code)) (cn : Str) (cs : Scope) (a : Addr) (ccd : Value) (cl : List (Str × Addr)) (outer : List Env) (A₀ : Around) (base h₀ : Heap) (L : Addr) (m : Str → Option Value) (s : Shared) (Q E : Value → Shared → Prop) (rest : List (Addr × Obj))
  (hB : Below A₀ base outer h₀) (hF : Fr h₀ L s.heap m) (hX : (hd01.heap_39 w.params).In h₀) (hT : Top p loose mean mg mb h₀) (hC : CodeHd base 206 202) (hk : cs.kind = .function)
  (hd : dp + 100 < recursionLimit) (hu : un + 1000 < cLine)
  (tx tN : Tok) (hne : ∀ p ∈ rest, p.1 ≠ 202)
  (hN : News h₀ L s.heap ((202, tabObj #[]) :: rest))
  (hret : ∀ (l' : Addr) (vs' : List Value) (kn' : Nat) (h' : Heap) (tk' : Nat) (c' : Addr) (oc : Obj) (vsc : Array Value) (tq : Tok), Fr h₀ L h' m → IntsAre vs' (digs N.toNat k x) → oc.data = .fields vsc → vsc[1]? = some (.str (Str.ofString "_int2digits.<locals>.inner") tq) →
    News h₀ L h' ((l', listOf vs'.toArray kn') :: (c', oc) :: (202, tabObj #[rawInt 131, rawInt 4, .ref c']) :: rest) → Q (.ref l') { s with heap := h', toks := tk' }) :
  wpAny (model PySem.Challenge.rw_pg0294_01.row.prog w) (ktrTop dp un gd cn cs L a ccd cl outer) (call (.ref 207) [.int x tx, .int N tN]) Q E s := by
  refine wpAny_call ?_
  k_dflt cell_enter
  k_steps
  ·
    refine' Stop.out (inner_i2d w p loose mean mg mb ?hq ?hql N hN0 k _ _ _ _ _ _ _ _ _ _ _ _ _ _ _ _ _ _ ?B ?F ?X ?T ?C ?K ?D ?U _ _ _ _ _ _ _ _ _ _ _ _ _ _ _ _ _ _ _ _ _ _ ?N ?hi ?hl ?d0 ?d1 ?d3 ?d2 ?d4 ?e1 ?e2 _ _ _ ?g0 ?g1 ?g2 ?g3 ?g4 ?g5 ?ret)
    (case B => k_asm)
    (case F => k_asm)
    (case X => k_asm)
    (case T => k_asm)
    (case C => assumption)
    (case K => exact rfl)
    (case D => ktr_room)
    (case U => ktr_units)
    (case N => exact news_i1 (by k_asm))
    (case hq => k_is)
    (case hql => rfl)
    (case hi => assumption)
    (case hl => omega)
    (case d0 => assumption)
    (case d1 => assumption)
    (case d3 => assumption)
    (case d2 => assumption)
    (case d4 => assumption)
    (case e1 => exact ⟨by omega, by omega, by omega, by omega, by omega⟩)
    (case e2 => exact List.forall_mem_cons.mpr ⟨Nat.ne_of_lt (by first | assumption | omega), List.forall_mem_cons.mpr ⟨Nat.ne_of_lt (by dsimp only; omega), ne_allLt (And.right (And.right (And.right (And.right (And.right (by assumption)))))) (Nat.le_refl _)⟩⟩)
    (case g0 => omega)
    (case g1 => omega)
    (case g2 => omega)
    (case g3 => omega)
    (case g4 => exact hx0)
    (case g5 => (rename (List.length _ = k) => hlk); rw [hlk, show ((k : Int) - 0).toNat = k by omega]; exact hxk)
    intro vs9 kn9 h9 tk9 i9 F9 N9
    (try dsimp only)
    k_steps
    refine hret _ _ _ _ _ _ _ _ _ (by k_asm) ?_ (by assumption) (by assumption) (news_i2 (by k_asm))
    rename (List.length _ = k) => hlk
    rw [hlk, setd_whole hlk] at i9
    exact i9
  · refine hret _ _ _ _ _ _ _ _ _ (by k_asm) ?_ (by assumption) (by assumption) (news_i3 (by k_asm))
    rename (_ = List.replicate k 0) => hrep
    have hx9 : x = 0 := by omega
    rw [hx9, digs_zero, ← hrep]
    assumption
theorem i2d_again (w : World) (p : Program) (loose : List Str) (mean : ExcName → Option Value) (mg mb : Str → Option Value)
  (x N : Int) (hN0 : 1 ≤ N ∧ N ≤ 1000) (hx0 : 0 ≤ x) (k : Nat) (hlen : ((Builtin.Int.intBits x : Int) + N - 1).fdiv N = (k : Int)) (hk64 : k ≤ 64) (hxk : x < 2 ^ (N.toNat * k)) (hk1 : x ≠ 0 → 1 ≤ k)
  (dp un : Nat) (gd : Option (List Code)) (cn : Str) (cs : Scope) (a : Addr) (ccd : Value) (cl : List (Str × Addr)) (outer : List Env) (A₀ : Around) (base h₀ : Heap) (L : Addr) (m : Str → Option Value) (s : Shared) (Q E : Value → Shared → Prop) (rest : List (Addr × Obj))
  (hB : Below A₀ base outer h₀) (hF : Fr h₀ L s.heap m) (hX : (hd01.heap_39 w.params).In h₀) (hT : Top p loose mean mg mb h₀) (hC : CodeHd base 206 202) (hk : cs.kind = .function)
  (hd : dp + 100 < recursionLimit) (hu : un + 1000 < cLine)
  (tx tN : Tok) (hne : ∀ p ∈ rest, p.1 ≠ 202)
  (c0 : Addr) (oc0 : Obj) (vsc0 : Array Value) (tq0 : Tok) (hoc0 : oc0.data = .fields vsc0) (hv0 : vsc0[1]? = some (.str (Str.ofString "_int2digits.<locals>.inner") tq0)) (hc0 : c0 ≠ 202)
  (hN : News h₀ L s.heap ((202, tabObj #[rawInt 131, rawInt 4, .ref c0]) :: (c0, oc0) :: rest))
  (hret : ∀ (l' : Addr) (vs' : List Value) (kn' : Nat) (h' : Heap) (tk' : Nat) (c' : Addr) (oc : Obj) (vsc : Array Value) (tq : Tok), Fr h₀ L h' m → IntsAre vs' (digs N.toNat k x) → oc.data = .fields vsc → vsc[1]? = some (.str (Str.ofString "_int2digits.<locals>.inner") tq) →
    News h₀ L h' ((l', listOf vs'.toArray kn') :: (c', oc) :: (202, tabObj #[rawInt 131, rawInt 4, .ref c']) :: rest) → Q (.ref l') { s with heap := h', toks := tk' }) :
  wpAny (model PySem.Challenge.rw_pg0294_01.row.prog w) (ktrTop dp un gd cn cs L a ccd cl outer) (call (.ref 207) [.int x tx, .int N tN]) Q E s := by
  refine wpAny_call ?_
  k_dflt cell_enter
  k_steps
  ·
    refine' Stop.out (inner_i2d w p loose mean mg mb ?hq ?hql N hN0 k _ _ _ _ _ _ _ _ _ _ _ _ _ _ _ _ _ _ ?B ?F ?X ?T ?C ?K ?D ?U _ _ _ _ _ _ _ _ _ _ _ _ _ _ _ _ _ _ _ _ _ _ ?N ?hi ?hl ?d0 ?d1 ?d3 ?d2 ?d4 ?e1 ?e2 _ _ _ ?g0 ?g1 ?g2 ?g3 ?g4 ?g5 ?ret)
    (case B => k_asm)
    (case F => k_asm)
    (case X => k_asm)
    (case T => k_asm)
    (case C => assumption)
    (case K => exact rfl)
    (case D => ktr_room)
    (case U => ktr_units)
    (case N => exact news_i4 (by k_asm))
    (case hq => k_is)
    (case hql => rfl)
    (case hi => assumption)
    (case hl => omega)
    (case d0 => assumption)
    (case d1 => assumption)
    (case d3 => assumption)
    (case d2 => assumption)
    (case d4 => assumption)
    (case e1 => exact ⟨by omega, by omega, by omega, by omega, by omega⟩)
    (case e2 => exact List.forall_mem_cons.mpr ⟨Nat.ne_of_lt (by first | assumption | omega), List.forall_mem_cons.mpr ⟨Nat.ne_of_lt (by dsimp only; omega), ne_allLt (And.right (And.right (And.right (And.right (And.right (And.right (by assumption))))))) (Nat.le_refl _)⟩⟩)
    (case g0 => omega)
    (case g1 => omega)
    (case g2 => omega)
    (case g3 => omega)
    (case g4 => exact hx0)
    (case g5 => (rename (List.length _ = k) => hlk); rw [hlk, show ((k : Int) - 0).toNat = k by omega]; exact hxk)
    intro vs9 kn9 h9 tk9 i9 F9 N9
    (try dsimp only)
    k_steps
    refine hret _ _ _ _ _ _ _ _ _ (by k_asm) ?_ (by assumption) (by assumption) (news_i2 (by k_asm))
    rename (List.length _ = k) => hlk
    rw [hlk, setd_whole hlk] at i9
    exact i9
  · refine hret _ _ _ _ _ _ _ _ _ (by k_asm) ?_ (by assumption) (by assumption) (news_i5 (by k_asm))
    rename (_ = List.replicate k 0) => hrep
    have hx9 : x = 0 := by omega
    rw [hx9, digs_zero, ← hrep]
    assumption
end
end
theorem calm_tabs : True := by w_top off; exact True.intro
section
/-- a code table within a ledger: empty, or with the one code made from it -/
def TabIn (line : Int) (qual : Str) (ps : Array Value) (rest : List (Addr × Obj)) : Prop :=
  ps = #[] ∨ ∃ c oc vsc tq, ps = #[rawInt line, rawInt 4, .ref c] ∧ (c, oc) ∈ rest ∧ oc.data = .fields vsc ∧ vsc[1]? = some (.str qual tq)
theorem TabIn.full {line : Int} {qual : Str} {c : Addr} {oc : Obj} {vsc : Array Value} {tq : Tok} {rest : List (Addr × Obj)} (hm : (c, oc) ∈ rest) (hd : oc.data = .fields vsc) (hv : vsc[1]? = some (.str qual tq)) : TabIn line qual #[rawInt line, rawInt 4, .ref c] rest :=
  .inr ⟨c, oc, vsc, tq, rfl, hm, hd, hv⟩
theorem TabIn.mono {line : Int} {qual : Str} {ps : Array Value} {rest rest' : List (Addr × Obj)} (h : TabIn line qual ps rest) (hs : ∀ p ∈ rest, p ∈ rest') : TabIn line qual ps rest' := by
  rcases h with h | ⟨c, oc, vsc, tq, e, hm, hd, hv⟩
  · exact .inl h
  · exact .inr ⟨c, oc, vsc, tq, e, hs _ hm, hd, hv⟩
theorem news_cons {h₀ h : Heap} {L : Addr} {x : Addr × Obj} {r : List (Addr × Obj)} (N : News h₀ L h r) (hm : x ∈ r) : News h₀ L h (x :: r) := fun p hp => by
  rcases List.mem_cons.mp hp with rfl | hp
  · exact N _ hm
  · exact N _ hp
theorem news_second {h₀ h : Heap} {L : Addr} {x y : Addr × Obj} {r : List (Addr × Obj)} (N : News h₀ L h (x :: r)) (hm : y ∈ r) : News h₀ L h (x :: y :: r) := fun p hp => by
  rcases List.mem_cons.mp hp with rfl | hp
  · exact N _ (.head _)
  · rcases List.mem_cons.mp hp with rfl | hp
    · exact N _ (.tail _ hm)
    · exact N _ (.tail _ hp)
theorem news_drop3 {h₀ h : Heap} {L : Addr} {x y z : Addr × Obj} {r : List (Addr × Obj)} (N : News h₀ L h (x :: y :: z :: r)) : News h₀ L h (x :: y :: r) := fun p hp => by
  rcases List.mem_cons.mp hp with rfl | hp
  · exact N _ (.head _)
  · rcases List.mem_cons.mp hp with rfl | hp
    · exact N _ (.tail _ (.head _))
    · exact N _ (.tail _ (.tail _ (.tail _ hp)))
theorem news_drop4 {h₀ h : Heap} {L : Addr} {x y z u : Addr × Obj} {r : List (Addr × Obj)} (N : News h₀ L h (x :: y :: z :: u :: r)) : News h₀ L h (x :: y :: z :: r) := fun p hp => by
  rcases List.mem_cons.mp hp with rfl | hp
  · exact N _ (.head _)
  · rcases List.mem_cons.mp hp with rfl | hp
    · exact N _ (.tail _ (.head _))
    · rcases List.mem_cons.mp hp with rfl | hp
      · exact N _ (.tail _ (.tail _ (.head _)))
      · exact N _ (.tail _ (.tail _ (.tail _ (.tail _ hp))))
theorem ne_second {d : Addr} {y : Addr × Obj} {r : List (Addr × Obj)} (hne : ∀ p ∈ r, p.1 ≠ d) (hm : y ∈ r) : ∀ p ∈ y :: r, p.1 ≠ d := fun p hp => by
  rcases List.mem_cons.mp hp with rfl | hp
  · exact hne _ hm
  · exact hne _ hp
theorem tab_ne {h₀ h : Heap} {L c T : Addr} {news rest : List (Addr × Obj)} {oc : Obj} {vsc ps : Array Value} {q q' : Str} {tq : Tok} {line : Int} (N : News h₀ L h news) (hc : (c, oc) ∈ news) (hd : oc.data = .fields vsc) (hv : vsc[1]? = some (.str q tq))
    (hT : (T, tabObj ps) ∈ news) (hps : TabIn line q' ps rest) : c ≠ T := by
  intro e
  subst e
  have h1 := (N _ hc).1
  have h2 := (N _ hT).1
  rw [h1] at h2
  have h3 : oc = tabObj ps := Option.some.inj h2
  rw [h3] at hd
  have h4 : ps = vsc := by injection hd
  subst h4
  rcases hps with rfl | ⟨c, oc, vsc, tq, rfl, _⟩
  · simp at hv
  · simp [rawInt] at hv
theorem i2d_any (w : World) (p : Program) (loose : List Str) (mean : ExcName → Option Value) (mg mb : Str → Option Value)
  (x N : Int) (hN0 : 1 ≤ N ∧ N ≤ 1000) (hx0 : 0 ≤ x) (k : Nat) (hlen : ((Builtin.Int.intBits x : Int) + N - 1).fdiv N = (k : Int)) (hk64 : k ≤ 64) (hxk : x < 2 ^ (N.toNat * k)) (hk1 : x ≠ 0 → 1 ≤ k)
  (dp un : Nat) (gd : Option (List Code)) (cn : Str) (cs : Scope) (a : Addr) (ccd : Value) (cl : List (Str × Addr)) (outer : List Env) (A₀ : Around) (base h₀ : Heap) (L : Addr) (m : Str → Option Value) (s : Shared) (Q E : Value → Shared → Prop) (rest : List (Addr × Obj))
  (hB : Below A₀ base outer h₀) (hF : Fr h₀ L s.heap m) (hX : (hd01.heap_39 w.params).In h₀) (hT : Top p loose mean mg mb h₀) (hC : CodeHd base 206 202) (hk : cs.kind = .function)
  (hd : dp + 100 < recursionLimit) (hu : un + 1000 < cLine)
  (tx tN : Tok) (hne : ∀ p ∈ rest, p.1 ≠ 202) (ps : Array Value) (hps : TabIn 131 (Str.ofString "_int2digits.<locals>.inner") ps rest)
  (hN : News h₀ L s.heap ((202, tabObj ps) :: rest))
  (hret : ∀ (l' : Addr) (vs' : List Value) (kn' : Nat) (h' : Heap) (tk' : Nat) (c' : Addr) (oc : Obj) (vsc : Array Value) (tq : Tok), Fr h₀ L h' m → IntsAre vs' (digs N.toNat k x) → oc.data = .fields vsc → vsc[1]? = some (.str (Str.ofString "_int2digits.<locals>.inner") tq) →
    News h₀ L h' ((l', listOf vs'.toArray kn') :: (c', oc) :: (202, tabObj #[rawInt 131, rawInt 4, .ref c']) :: rest) → Q (.ref l') { s with heap := h', toks := tk' }) :
  wpAny (model PySem.Challenge.rw_pg0294_01.row.prog w) (ktrTop dp un gd cn cs L a ccd cl outer) (call (.ref 207) [.int x tx, .int N tN]) Q E s := by
  rcases hps with rfl | ⟨c, oc, vsc, tq, rfl, hm, hdt, hv⟩
  · exact i2d_first w p loose mean mg mb x N hN0 hx0 k hlen hk64 hxk hk1 dp un gd cn cs a ccd cl outer A₀ base h₀ L m s Q E rest hB hF hX hT hC hk hd hu tx tN hne hN hret
  · refine i2d_again w p loose mean mg mb x N hN0 hx0 k hlen hk64 hxk hk1 dp un gd cn cs a ccd cl outer A₀ base h₀ L m s Q E rest hB hF hX hT hC hk hd hu tx tN hne c oc vsc tq hdt hv (hne _ hm) (news_second hN hm) hret
theorem d2i_any (w : World) (p : Program) (loose : List Str) (mean : ExcName → Option Value) (mg mb : Str → Option Value)
  (N : Int) (ns : List Int) (vs : List Value) (hi : IntsAre vs ns) (hN0 : 0 ≤ N ∧ N ≤ 1000) (hb : ∀ d ∈ ns, 0 ≤ d ∧ d < 2 ^ N.toNat) (hl : ns.length ≤ 64)
  (dp un : Nat) (gd : Option (List Code)) (cn : Str) (cs : Scope) (a : Addr) (ccd : Value) (cl : List (Str × Addr)) (outer : List Env) (A₀ : Around) (base h₀ : Heap) (L : Addr) (m : Str → Option Value) (s : Shared) (Q E : Value → Shared → Prop) (rest : List (Addr × Obj))
  (hB : Below A₀ base outer h₀) (hF : Fr h₀ L s.heap m) (hX : (hd01.heap_39 w.params).In h₀) (hT : Top p loose mean mg mb h₀) (hC : CodeHd base 213 209) (hk : cs.kind = .function)
  (hd : dp + 100 < recursionLimit) (hu : un + 1000 < cLine)
  (l : Addr) (kn : Nat) (tN : Tok) (hne : ∀ p ∈ rest, p.1 ≠ 209) (hml : (l, listOf vs.toArray kn) ∈ rest) (ps : Array Value) (hps : TabIn 146 (Str.ofString "_digits2int.<locals>.inner") ps rest)
  (hN : News h₀ L s.heap ((209, tabObj ps) :: rest))
  (hret : ∀ (t : Tok) (h' : Heap) (tk' : Nat) (c' : Addr) (oc : Obj) (vsc : Array Value) (tq : Tok), Fr h₀ L h' m → oc.data = .fields vsc → vsc[1]? = some (.str (Str.ofString "_digits2int.<locals>.inner") tq) →
    News h₀ L h' ((c', oc) :: (209, tabObj #[rawInt 146, rawInt 4, .ref c']) :: rest) → Q (.int (dsum N.toNat ns) t) { s with heap := h', toks := tk' }) :
  wpAny (model PySem.Challenge.rw_pg0294_01.row.prog w) (ktrTop dp un gd cn cs L a ccd cl outer) (call (.ref 214) [.ref l, .int N tN]) Q E s := by
  rcases hps with rfl | ⟨c, oc, vsc, tq, rfl, hm, hdt, hv⟩
  · exact d2i_first w p loose mean mg mb N ns vs hi hN0 hb hl dp un gd cn cs a ccd cl outer A₀ base h₀ L m s Q E rest hB hF hX hT hC hk hd hu l kn 0 tN (hne _ hml) hne (news_second hN hml) (fun t h' tk' c' oc vsc tq F' d1 d2 N' => hret t h' tk' c' oc vsc tq F' d1 d2 (news_drop3 N'))
  · exact d2i_again w p loose mean mg mb N ns vs hi hN0 hb hl dp un gd cn cs a ccd cl outer A₀ base h₀ L m s Q E rest hB hF hX hT hC hk hd hu l kn 0 tN (hne _ hml) hne c oc vsc tq hdt hv (hne _ hm) (news_second (news_second hN hml) (.tail _ hm)) (fun t h' tk' c' oc vsc tq F' d1 d2 N' => hret t h' tk' c' oc vsc tq F' d1 d2 (news_drop3 N'))
end
theorem calm_div2 : True := by w_top off; exact True.intro
section
local macro_rules | `(tactic| walk_at "idle") => `(tactic| fail)
local macro_rules | `(tactic| walk_at "idle") => `(tactic| fail)
local macro_rules | `(tactic| walk_at "idle") => `(tactic| fail)
section
theorem divmod_K {prog : Program} {w : World} {A : Around} {E : Value → Shared → Prop} {s : Shared} {h₀ : Heap} {L : Addr} {m : Str → Option Value} {news : List (Addr × Obj)} {a b : Int} {t u : Tok} {Q : Value → Shared → Prop}
    (F : Fr h₀ L s.heap m) (N : News h₀ L s.heap news) (hb : b ≠ 0) (hp : Builtin.divisionGoesByPylong a b = false)
    (h : ∀ r t1 t2 h' tk', Fr h₀ L h' m → News h₀ L h' ((r, { cls := .type "tuple", data := .seq #[.int (a.fdiv b) t1, .int (a.fmod b) t2] }) :: news) → (∀ p ∈ news, p.1 < r) → Q (.ref r) { s with heap := h', toks := tk' }) :
    wpAny (model prog w) A (call (.builtin "divmod") [.int a t, .int b u]) Q E s :=
  divmod_N F N hb (fun h' F' N' => h _ _ _ h' _ F' N' (fun p hp => Heap.lt_size (N p hp).1)) (.inl hp)
local macro_rules | `(tactic| walk_at "call builtin:divmod") => `(tactic| ((with_reducible show wpAny _ _ (call (Value.builtin _) [Value.int _ _, Value.int _ _]) _ _ _); refine divmod_K (by assumption) (by assumption) (by omega) (by assumption) ?_; intro _ _ _ _ _ _ _ l9))
theorem c_div2n1n (w : World) (p : Program) (loose : List Str) (mean : ExcName → Option Value) (mg mb : Str → Option Value)
  (dp un : Nat) (gd : Option (List Code)) (cn : Str) (cs : Scope) (a : Addr) (ccd : Value) (cl : List (Str × Addr)) (outer : List Env) (A₀ : Around) (base h₀ : Heap) (L : Addr) (m : Str → Option Value) (s : Shared) (Q E : Value → Shared → Prop) (rest : List (Addr × Obj))
  (hB : Below A₀ base outer h₀) (hF : Fr h₀ L s.heap m) (hX : (hd01.heap_39 w.params).In h₀) (hT : Top p loose mean mg mb h₀) (hk : cs.kind = .function)
  (hd : dp + 20 < recursionLimit) (hu : un + 200 < cLine)
  (x y n : Int) (tx ty tn : Tok) (hy : 0 < y) (hbits : (Builtin.Int.intBits x : Int) - n ≤ 4000) (hpy : Builtin.divisionGoesByPylong x y = false)
  (hN : News h₀ L s.heap rest)
  (hret : ∀ (r : Addr) (t1 t2 : Tok) (h' : Heap) (tk' : Nat), Fr h₀ L h' m → News h₀ L h' ((r, { cls := .type "tuple", data := .seq #[.int (Int.fdiv x y) t1, .int (Int.fmod x y) t2] }) :: rest) → (∀ p ∈ rest, p.1 < r) → Q (.ref r) { s with heap := h', toks := tk' }) :
  wpAny (model PySem.Challenge.rw_pg0294_01.row.prog w) (ktrTop dp un gd cn cs L a ccd cl outer) (call (.ref 193) [.int x tx, .int y ty, .int n tn]) Q E s := by
  refine wpAny_call ?_
  k_dflt cell_enter
  k_steps
  all_goals exact hret _ _ _ _ _ (by k_asm) (by k_asm) (by assumption)
end
end
theorem calm_divpos_plain : True := by w_top off; exact True.intro
section
theorem div_step {u y B d : Int} (hy : 0 < y) (_hu : 0 ≤ u) : (u * B + d) / y = B * (u / y) + (u % y * B + d) / y ∧ (u * B + d) % y = (u % y * B + d) % y := by
  have e := Int.emod_add_mul_ediv u y
  have e2 : u * B + d = (u % y * B + d) + y * (B * (u / y)) := by
    have : u * B = (u % y + y * (u / y)) * B := by rw [e]
    rw [this, Int.add_mul, Int.mul_assoc, Int.mul_comm (u / y) B]
    omega
  constructor
  · rw [e2, Int.add_mul_ediv_left _ _ (by omega)]; omega
  · rw [e2, Int.add_mul_emod_self_left]
theorem divstep_lt {r y B d : Int} (hy : 0 < y) (h0 : 0 ≤ r) (h1 : r < y) (hd0 : 0 ≤ d) (hd : d < B) : 0 ≤ r * B + d ∧ r * B + d < y * B ∧ 0 ≤ (r * B + d) / y ∧ (r * B + d) / y < B := by
  have h2 : 0 ≤ r * B := Int.mul_nonneg h0 (by omega)
  have h3 : r * B ≤ (y - 1) * B := Int.mul_le_mul_of_nonneg_right (by omega) (by omega)
  rw [Int.sub_mul, Int.one_mul] at h3
  have h4 : r * B + d < y * B := by omega
  refine ⟨by omega, h4, Int.ediv_nonneg (by omega) (by omega), Int.ediv_lt_of_lt_mul hy ?_⟩
  have h5 := Int.mul_comm y B; omega
theorem dsum_digs (N : Nat) : ∀ (k : Nat) (x : Int), 0 ≤ x → x < 2 ^ (N * k) → dsum N (digs N k x) = x
  | 0, x, h0, h => by simp at h; simp [digs, dsum]; omega
  | k + 1, x, h0, h => by
    rw [digs, dsum, dsum_digs N k (x / 2 ^ N) (Int.ediv_nonneg h0 (Int.le_of_lt (pow_pos2 N))) (div_lt_pow h0 (by rw [Nat.mul_add, Nat.mul_one, Nat.add_comm] at h; exact h))]
    exact Int.emod_add_mul_ediv x (2 ^ N)
theorem turn_plain {n : Nat} {x y u r d : Int} {qs ns : List Int} (hy : 0 < y) (hu : 0 ≤ u) (hr : r = u % y) (hQ : dsum n qs.reverse = u / y) (hx : x = u * 2 ^ (n * (d :: ns).length) + dsum n (d :: ns).reverse) (hd : 0 ≤ d ∧ d < 2 ^ n)
    (hq : ∀ e ∈ qs, 0 ≤ e ∧ e < 2 ^ n) :
    (∀ e ∈ qs ++ [(r * 2 ^ n + d).fdiv y], 0 ≤ e ∧ e < 2 ^ n) ∧ 0 ≤ u * 2 ^ n + d ∧ x = (u * 2 ^ n + d) * 2 ^ (n * ns.length) + dsum n ns.reverse ∧ dsum n (qs ++ [(r * 2 ^ n + d).fdiv y]).reverse = (u * 2 ^ n + d) / y ∧ (r * 2 ^ n + d).fmod y = (u * 2 ^ n + d) % y := by
  have hr0 : 0 ≤ r := by rw [hr]; exact Int.emod_nonneg _ (by omega)
  have hr1 : r < y := by rw [hr]; exact Int.emod_lt_of_pos _ hy
  have hs := divstep_lt hy hr0 hr1 hd.1 hd.2
  have hst := div_step (d := d) (B := 2 ^ n) hy hu
  rw [← hr] at hst
  have hp := pow_pos2 n
  rw [Int.fdiv_eq_ediv_of_nonneg _ (by omega), Int.fmod_eq_emod_of_nonneg _ (by omega)]
  refine ⟨fun e he => ?_, ?_, ?_, ?_, hst.2.symm⟩
  · rcases List.mem_append.mp he with he | he
    · exact hq e he
    · rw [List.mem_singleton.mp he]; exact ⟨hs.2.2.1, hs.2.2.2⟩
  · have := Int.mul_nonneg hu (Int.le_of_lt hp)
    omega
  · rw [hx, List.reverse_cons, dsum_append, List.length_reverse, List.length_cons, Nat.mul_add, Nat.mul_one, Nat.add_comm, Int.pow_add, Int.add_mul, Int.mul_assoc]
    simp only [dsum, Int.mul_zero, Int.add_zero]
    rw [Int.mul_comm (2 ^ (n * ns.length)) d]
    omega
  · rw [List.reverse_append, List.reverse_singleton, List.singleton_append, dsum, hQ, hst.1]
    omega
theorem news_e1 {h₀ h : Heap} {L : Addr} {q l c t d : Addr × Obj} {r : List (Addr × Obj)} (N : News h₀ L h (q :: l :: c :: t :: d :: r)) : News h₀ L h (d :: q :: c :: t :: r) := fun p hp => N p (by
  simp only [List.mem_cons, List.not_mem_nil, or_false] at hp ⊢
  rcases hp with h | h | h | h | h <;> simp [h])
theorem news_e2 {h₀ h : Heap} {L : Addr} {z c2 t2 q c t : Addr × Obj} {r : List (Addr × Obj)} (N : News h₀ L h (z :: c2 :: t2 :: q :: c :: t :: r)) : News h₀ L h (z :: c :: t :: c2 :: t2 :: r) := fun p hp => N p (by
  simp only [List.mem_cons, List.not_mem_nil, or_false] at hp ⊢
  rcases hp with h | h | h | h | h | h <;> simp [h])
theorem lt_bits {x : Int} (h : 0 ≤ x) : x < 2 ^ Builtin.Int.intBits x := by
  obtain ⟨n, rfl⟩ := Int.eq_ofNat_of_zero_le h
  by_cases z : n = 0
  · subst z; decide
  · have e : Builtin.Int.intBits (n : Int) = n.log2 + 1 := by
      unfold Builtin.Int.intBits
      have : ((n : Int) == 0) = false := by simp [z]
      rw [this]; simp
    rw [e]
    have := Nat.lt_log2_self (n := n)
    have h2 : ((2 : Int) ^ (n.log2 + 1)) = ((2 ^ (n.log2 + 1) : Nat) : Int) := by rw [Int.natCast_pow]; rfl
    rw [h2]
    exact Int.ofNat_lt.mpr this
theorem bits_pos {x : Int} (h : x ≠ 0) : 1 ≤ Builtin.Int.intBits x := by
  unfold Builtin.Int.intBits
  have : (x == 0) = false := by simp [h]
  rw [this]; simp
theorem places {x : Int} {n : Nat} (hx : 0 ≤ x) (hn : 1 ≤ n) (h : x < 2 ^ (64 * n)) :
    ((Builtin.Int.intBits x : Int) + (n : Int) - 1).fdiv n = (((Builtin.Int.intBits x + n - 1) / n : Nat) : Int) ∧ (Builtin.Int.intBits x + n - 1) / n ≤ 64 ∧ x < 2 ^ (n * ((Builtin.Int.intBits x + n - 1) / n)) ∧ (x ≠ 0 → 1 ≤ (Builtin.Int.intBits x + n - 1) / n) := by
  have hb := bits_of_lt hx h
  refine ⟨?_, ?_, ?_, fun hz => ?_⟩
  · rw [Int.fdiv_eq_ediv_of_nonneg _ (by omega)]
    have : (Builtin.Int.intBits x : Int) + (n : Int) - 1 = ((Builtin.Int.intBits x + n - 1 : Nat) : Int) := by omega
    rw [this, Int.natCast_ediv]
  · apply Nat.le_of_lt_succ
    apply (Nat.div_lt_iff_lt_mul (by omega)).mpr
    omega
  · apply Int.lt_of_lt_of_le (lt_bits hx)
    have h3 : Builtin.Int.intBits x ≤ n * ((Builtin.Int.intBits x + n - 1) / n) := by
      have := Nat.div_add_mod (Builtin.Int.intBits x + n - 1) n
      have := Nat.mod_lt (Builtin.Int.intBits x + n - 1) (by omega : 0 < n)
      omega
    have h4 := Nat.pow_le_pow_right (by omega : 0 < 2) h3
    have c (k : Nat) : ((2 : Int) ^ k) = ((2 ^ k : Nat) : Int) := by rw [Int.natCast_pow]; rfl
    rw [c, c]
    exact Int.ofNat_le.mpr h4
  · have := bits_pos hz
    exact (Nat.le_div_iff_mul_le (by omega)).mpr (by omega)
theorem news_g1 {h₀ h : Heap} {L : Addr} {a b c d e f : Addr × Obj} {r : List (Addr × Obj)} (N : News h₀ L h (a :: b :: c :: d :: e :: f :: r)) : News h₀ L h (a :: c :: d :: e :: f :: r) := fun p hp => N p (by
  simp only [List.mem_cons, List.not_mem_nil, or_false] at hp ⊢
  rcases hp with h | h | h | h | h | h <;> simp [h])
theorem dm_neg {x y : Int} (hy : 0 < y) : Builtin.bitNot ((-x - 1).fdiv y) = x.fdiv y ∧ y + Builtin.bitNot ((-x - 1).fmod y) = x.fmod y := by
  rw [Int.fdiv_eq_ediv_of_nonneg _ (by omega), Int.fdiv_eq_ediv_of_nonneg _ (by omega), Int.fmod_eq_emod_of_nonneg _ (by omega), Int.fmod_eq_emod_of_nonneg _ (by omega)]
  have e := Int.emod_add_mul_ediv (-x - 1) y
  have h0 := Int.emod_nonneg (-x - 1) (by omega : y ≠ 0)
  have h1 := Int.emod_lt_of_pos (-x - 1) hy
  have u := (Int.ediv_emod_unique (a := x) (q := -((-x - 1) / y) - 1) (r := y - 1 - (-x - 1) % y) hy).mpr ⟨by rw [Int.mul_sub, Int.mul_neg]; omega, by omega, by omega⟩
  unfold Builtin.bitNot
  omega
theorem dm_flip {x y : Int} (hy : y < 0) : (-x).fdiv (-y) = x.fdiv y ∧ -((-x).fmod (-y)) = x.fmod y := by
  have e : (-x).fdiv (-y) = x.fdiv y := Int.neg_fdiv_neg ..
  refine ⟨e, ?_⟩
  rw [Int.fmod_def, Int.fmod_def, e, Int.neg_mul]
  omega
end
theorem calm_divpos : True := by w_top off; exact True.intro
section
local macro_rules | `(tactic| walk_at "idle") => `(tactic| fail)
local macro_rules | `(tactic| walk_at "idle") => `(tactic| fail)
local macro_rules | `(tactic| walk_at "idle") => `(tactic| fail)
local macro_rules | `(tactic| walk_at "idle") => `(tactic| fail)
local macro_rules | `(tactic| walk_at "idle") => `(tactic| fail)
local macro_rules | `(tactic| walk_at "idle") => `(tactic| fail)
local macro_rules | `(tactic| walk_at "idle") => `(tactic| fail)
section
local macro_rules | `(tactic| k_all) => `(tactic| first | assumption | exact ne_allLt (And.right (by assumption)) (by omega) | exact ne_allLt (And.right (And.right (by assumption))) (by omega))
local macro_rules | `(tactic| k_room) => `(tactic| ktr_room)
local macro_rules | `(tactic| is_list) => `(tactic| exact News.isList (by k_asm) (by k_mem))
local macro_rules | `(tactic| walk_at "eval Name") => `(tactic| (k_here; k_dflt (refine' ld ?k1 ?k2 ?_; (case k1 => k_asm); (case k2 => first | assumption | exact if_pos rfl | exact (if_neg (by decide)).trans (by assumption) | exact (if_neg (by decide)).trans (if_pos rfl) | exact (if_neg (by decide)).trans ((if_neg (by decide)).trans (by assumption)) | exact (if_neg (by decide)).trans ((if_neg (by decide)).trans (if_pos rfl)) | exact (if_neg (by decide)).trans ((if_neg (by decide)).trans ((if_neg (by decide)).trans (by assumption))) | exact rfl); k_whole)))
theorem ints_rev {vs : List Value} {ns : List Int} (h : IntsAre vs ns) : IntsAre vs.reverse ns.reverse := by
  induction h with
  | nil => exact .nil
  | cons i t h ih => rw [List.reverse_cons, List.reverse_cons]; exact IntsAre.append ih (.cons i t .nil)
theorem offI_of {I : Addr} {it : Obj} : ∀ {l : List (Addr × Obj)}, (∀ p ∈ l, p.1 ≠ I) → OffI I it l
  | [], _ => trivial
  | p :: r, h => ⟨.inl (h p (.head _)), offI_of fun q hq => h q (.tail _ hq)⟩
theorem digs_mem (N : Nat) : ∀ (k : Nat) (x : Int), ∀ d ∈ digs N k x, 0 ≤ d ∧ d < 2 ^ N
  | 0, _, d, h => nomatch h
  | k + 1, x, d, h => by
    rw [digs] at h
    rcases List.mem_cons.mp h with rfl | h
    · exact ⟨Int.emod_nonneg _ (Int.ne_of_gt (pow_pos2 N)), Int.emod_lt_of_pos _ (pow_pos2 N)⟩
    · exact digs_mem N k _ d h
local macro_rules | `(tactic| walk_at "binaryOp LShift int int") => `(tactic| (refine lshift_int (by assumption) (by assumption) ?_))
theorem noPylong_bits {x y : Int} {n : Nat} (h0 : 0 ≤ y) (h : y < 2 ^ n) (hn : n ≤ 9000) : Builtin.divisionGoesByPylong x y = false := by
  apply PyProof.noPylong_of_log2
  by_cases z : y.natAbs = 0
  · rw [z]; decide
  · apply Nat.lt_of_lt_of_le ((Nat.log2_lt z).mpr ?_) hn
    obtain ⟨k, rfl⟩ := Int.eq_ofNat_of_zero_le h0
    have e : ((2 : Int) ^ n) = ((2 ^ n : Nat) : Int) := by rw [Int.natCast_pow]; rfl
    rw [e] at h
    rw [Int.natAbs_natCast]
    exact Int.ofNat_lt.mp h
local macro_rules | `(tactic| walk_at "call ref") => `(tactic| (refine Stop.mk ?_))
theorem c_divpos (w : World) (p : Program) (loose : List Str) (mean : ExcName → Option Value) (mg mb : Str → Option Value)
  (dp un : Nat) (gd : Option (List Code)) (cn : Str) (cs : Scope) (a : Addr) (ccd : Value) (cl : List (Str × Addr)) (outer : List Env) (A₀ : Around) (base h₀ : Heap) (L : Addr) (m : Str → Option Value) (s : Shared) (Q E : Value → Shared → Prop) (rest : List (Addr × Obj))
  (hB : Below A₀ base outer h₀) (hF : Fr h₀ L s.heap m) (hX : (hd01.heap_39 w.params).In h₀) (hT : Top p loose mean mg mb h₀) (hCi : CodeHd base 206 202) (hCd : CodeHd base 213 209) (hk : cs.kind = .function)
  (hd : dp + 110 < recursionLimit) (hu : un + 1100 < cLine)
  (x y N : Int) (tx ty : Tok) (k : Nat) (hy : 0 < y) (hN : (Builtin.Int.intBits y : Int) = N) (hN0 : 1 ≤ N ∧ N ≤ 1000) (hyN : y < 2 ^ N.toNat) (hx0 : 0 ≤ x) (hlen : ((Builtin.Int.intBits x : Int) + N - 1).fdiv N = (k : Int)) (hk3 : k ≤ 64) (hxk : x < 2 ^ (N.toNat * k)) (hk1 : x ≠ 0 → 1 ≤ k)
  (hne1 : ∀ p ∈ rest, p.1 ≠ 202) (hne2 : ∀ p ∈ rest, p.1 ≠ 209) (p1 p2 : Array Value)
  (hp1 : TabIn 131 (Str.ofString "_int2digits.<locals>.inner") p1 rest) (hp2 : TabIn 146 (Str.ofString "_digits2int.<locals>.inner") p2 rest)
  (hNw : News h₀ L s.heap ((202, tabObj p1) :: (209, tabObj p2) :: rest))
  (hret : ∀ (r : Addr) (t1 t2 : Tok) (h' : Heap) (tk' : Nat) (ci : Addr) (oci : Obj) (vsci : Array Value) (tqi : Tok) (cd : Addr) (ocd : Obj) (vscd : Array Value) (tqd : Tok), Fr h₀ L h' m →
    oci.data = .fields vsci → vsci[1]? = some (.str (Str.ofString "_int2digits.<locals>.inner") tqi) → ocd.data = .fields vscd → vscd[1]? = some (.str (Str.ofString "_digits2int.<locals>.inner") tqd) →
    News h₀ L h' ((r, { cls := .type "tuple", data := .seq #[.int (Int.fdiv x y) t1, .int (Int.fmod x y) t2] }) :: (ci, oci) :: (202, tabObj #[rawInt 131, rawInt 4, .ref ci]) :: (cd, ocd) :: (209, tabObj #[rawInt 146, rawInt 4, .ref cd]) :: rest) → Q (.ref r) { s with heap := h', toks := tk' }) :
  wpAny (model PySem.Challenge.rw_pg0294_01.row.prog w) (ktrTop dp un gd cn cs L a ccd cl outer) (call (.ref 221) [.int x tx, .int y ty]) Q E s := by
  subst hN
  refine wpAny_call ?_
  k_dflt cell_enter
  k_steps
  refine' Stop.out (i2d_any w p loose mean mg mb x _ hN0 hx0 k hlen (by omega) hxk hk1 _ _ _ _ _ _ _ _ _ _ _ _ _ _ _ _ _ ((209, tabObj p2) :: rest) ?B ?F ?X ?T hCi ?K ?D ?U _ _ ?ne p1 ?ps ?N ?ret)
  (case B => k_asm)
  (case F => k_asm)
  (case X => k_asm)
  (case T => k_asm)
  (case K => exact rfl)
  (case D => ktr_room)
  (case U => ktr_units)
  (case ne => exact List.forall_mem_cons.mpr ⟨by dsimp only; decide, hne1⟩)
  (case ps => exact hp1.mono (fun _ h => .tail _ h))
  (case N => k_asm)
  intro l9 vs9 kn9 h9 tk9 ci oci vsci tqi F9 i9 d9 v9 N9
  (try dsimp only)
  k_steps
  have h8 : ∀ d ∈ digs (Builtin.Int.intBits y) k x, 0 ≤ d ∧ d < 2 ^ (Builtin.Int.intBits y) := digs_mem _ _ _
  rename_i QL _ hlt _ DD _ _ _ hltD
  refine iter_revUnr (lo := listOf vs9.toArray kn9) (vs := vs9) rfl (by k_asm) (by k_asm) ?off (by k_mem) rfl rfl ?_
  (case off => (refine offI_of ?_; k_all))
  refine' (?H : ∀ (rem : List Value) (ds : List Int), IntsAre rem ds → (∀ d ∈ ds, 0 ≤ d ∧ d < 2 ^ Builtin.Int.intBits y) → ∀ (qs : List Int) (vq : List Value) (kq : Nat) (u r : Int) (tr tn : Tok) (m : Str → Option Value),
      IntsAre vq qs → (∀ d ∈ qs, 0 ≤ d ∧ d < 2 ^ Builtin.Int.intBits y) → qs.length + ds.length ≤ 64 → 0 ≤ u → x = u * 2 ^ (Builtin.Int.intBits y * ds.length) + dsum (Builtin.Int.intBits y) ds.reverse → dsum (Builtin.Int.intBits y) qs.reverse = u / y → r = u % y →
      m (Str.ofString "q_digits") = some (.ref QL) → m (Str.ofString "n") = some (.int (Builtin.Int.intBits y) tn) → m (Str.ofString "b") = some (.int y ty) → m (Str.ofString "r") = some (.int r tr) →
      RevRest _ _ _ _ _ _ _ _ _ _ _ _ rem m ((QL, listOf vq.toArray kq) :: _)) vs9.reverse (digs (Builtin.Int.intBits y) k x).reverse ?i1 ?i2 [] [] 0 0 0 _ _ _ ?i3 ?i4 ?i5 ?i6 ?i7 ?i8 ?i9 ?i10 ?i11 ?i12 ?i13
  (case i1 => exact ints_rev i9)
  (case i2 => exact fun d hd => h8 d (List.mem_reverse.mp hd))
  (case i3 => exact .nil)
  (case i4 => exact fun d hd => nomatch hd)
  (case i5 => rw [List.length_reverse, digs_length]; exact (by simpa using hk3))
  (case i6 => exact Int.le_refl _)
  (case i7 => rw [List.reverse_reverse, Int.zero_mul, Int.zero_add]; exact (dsum_digs _ _ _ hx0 hxk).symm)
  (case i8 => simp [dsum])
  (case i9 => simp)
  (case i10 => exact if_pos rfl)
  (case i11 => rfl)
  (case i12 => rfl)
  (case i13 => rfl)
  intro rem
  induction rem with
  | nil =>
    intro ds hi hds qs vq kq u r tr tn m hq hqd hlen2 hu0 hxu hQ hr m1 m2 m3 m4
    refine RevRest.zero (fun h' tk' F' N' => ?_)
    cases hi
    dsimp only
    k_steps
    try dsimp only
    have hvl := IntsAre.length hq
    simp only [List.length_nil, Nat.add_zero] at hlen2
    refine kl_reverse (by k_asm) (by k_asm) (show vq.toArray.toList.reverse = vq.reverse by simp) (by k_upd) ?hz ?_
    (case hz => (rw [sizeLine_eq]; simp only [List.toList_toArray]; omega))
    intro h8 F8 N8
    k_steps
    have hci : ci ≠ 209 := tab_ne N8 (.tail _ (.tail _ (.head _))) d9 v9 (.tail _ (.tail _ (.tail _ (.tail _ (.head _))))) hp2
    refine' Stop.out (d2i_any w p loose mean mg mb _ qs.reverse vq.reverse (ints_rev hq) ⟨by omega, hN0.2⟩ (fun d hd => hqd d (List.mem_reverse.mp hd)) (by rw [List.length_reverse]; exact hlen2) _ _ _ _ _ _ _ _ _ _ _ _ _ _ _ _ _ _ ?B3 ?F3 ?X3 ?T3 hCd ?K3 ?D3 ?U3 QL kq _ ?ne3 (.head _) p2 (TabIn.mono hp2 (fun _ h => .tail _ (.tail _ (.tail _ h)))) (news_e1 N8) ?ret3)
    (case B3 => k_asm)
    (case F3 => k_asm)
    (case X3 => k_asm)
    (case T3 => k_asm)
    (case K3 => exact rfl)
    (case D3 => ktr_room)
    (case U3 => ktr_units)
    (case ne3 => exact List.forall_mem_cons.mpr ⟨Nat.ne_of_gt (by omega), List.forall_mem_cons.mpr ⟨hci, List.forall_mem_cons.mpr ⟨by dsimp only; decide, hne2⟩⟩⟩)
    intro t9 h9 tk9 cd ocd vscd tqd F9 d10 v10 N9
    (try dsimp only)
    k_steps
    have hux : u = x := by
      rw [hxu]; simp [dsum]
    have hq1 : dsum (Builtin.Int.intBits y : Int).toNat qs.reverse = x.fdiv y := by
      rw [Int.toNat_natCast, hQ, hux, Int.fdiv_eq_ediv_of_nonneg _ (Int.le_of_lt hy)]
    have hr1 : r = x.fmod y := by rw [hr, hux, Int.fmod_eq_emod_of_nonneg _ (Int.le_of_lt hy)]
    rename News h₀ L _ _ => N7
    rw [hq1, hr1] at N7
    refine hret _ _ _ _ _ ci oci vsci tqi cd ocd vscd tqd (by k_asm) d9 v9 d10 v10 (news_e2 N7)
  | cons v rem ih =>
    intro ds hi hds qs vq kq u r tr tn m hq hqd hlen2 hu0 hxu hQ hr m1 m2 m3 m4
    refine RevRest.succ (fun it' h' tk' hit' F' N' => ?_)
    cases hi with | cons d td hi
    have hr0 : 0 ≤ r := by rw [hr]; exact Int.emod_nonneg _ (by omega)
    have hr1 : r < y := by rw [hr]; exact Int.emod_lt_of_pos _ hy
    have hd0 := hds d (.head _)
    have hn0 : (0 : Int) ≤ (Builtin.Int.intBits y : Int) := by omega
    have hrb := bits_of_lt hr0 (Int.lt_trans hr1 hyN)
    have hsz : (Builtin.Int.intBits r : Int) + (Builtin.Int.intBits y : Int) ≤ 2 ^ 27 := by
      rw [Int.toNat_natCast] at hrb
      have : (2 : Int) ^ 27 = 134217728 := by decide
      omega
    have hst := divstep_lt (B := 2 ^ (Builtin.Int.intBits y : Int).toNat) hy hr0 hr1 hd0.1 hd0.2
    have hxb : (Builtin.Int.intBits (r * 2 ^ (Builtin.Int.intBits y : Int).toNat + d) : Int) - (Builtin.Int.intBits y : Int) ≤ 4000 := by
      have h9 : r * 2 ^ (Builtin.Int.intBits y : Int).toNat + d < 2 ^ ((Builtin.Int.intBits y : Int).toNat + (Builtin.Int.intBits y : Int).toNat) := by
        rw [Int.pow_add]
        exact Int.lt_of_lt_of_le hst.2.1 (Int.mul_le_mul_of_nonneg_right (Int.le_of_lt hyN) (Int.le_of_lt (pow_pos2 _)))
      have h10 := bits_of_lt hst.1 h9
      rw [Int.toNat_natCast] at h10 ⊢
      omega
    k_steps
    refine' Stop.out (c_div2n1n w p loose mean mg mb _ _ _ _ _ _ _ _ _ _ _ _ _ _ _ _ _ _ ?B2 ?F2 ?X2 ?T2 ?K2 ?D2 ?U2 _ _ _ _ _ _ hy hxb (noPylong_bits (Int.le_of_lt hy) hyN (by omega)) ?N2 ?ret2)
    (case B2 => k_asm)
    (case F2 => k_asm)
    (case X2 => k_asm)
    (case T2 => k_asm)
    (case K2 => exact rfl)
    (case D2 => ktr_room)
    (case U2 => ktr_units)
    (case N2 => k_asm)
    intro r9 t19 t29 h9 tk9 F9 N9 l9r
    (try k_lt l9r)
    (try dsimp only)
    k_steps
    have htp := turn_plain (n := (Builtin.Int.intBits y : Int).toNat) hy hu0 hr hQ hxu hd0 hqd
    rename News _ _ _ (_ :: _ :: _ :: (l9, _) :: _) => N8
    rw [List.push_toArray] at N8
    refine UnrEnd.intro (by k_asm) (fun p hp => N8 p (.tail _ hp)) _ (fun _ h => h) (ne_allLt (d := DD) hltD (Nat.le_refl _)) ⟨.tail _ (.head _), ?_⟩
    refine ih _ hi (fun d hd => hds d (.tail _ hd)) (qs ++ [_]) (vq ++ [_]) (kq + 1) (u * 2 ^ (Builtin.Int.intBits y : Int).toNat + d) _ t29 tn _ (IntsAre.append hq (.cons _ _ .nil)) htp.1 ?_ htp.2.1 htp.2.2.1 htp.2.2.2.1 htp.2.2.2.2 ?_ ?_ ?_ (if_pos rfl)
    · rw [List.length_append]; simp only [List.length_cons, List.length_nil] at hlen2 ⊢; omega
    · exact (if_neg (by decide)).trans ((if_neg (by decide)).trans ((if_neg (by decide)).trans m1))
    · exact (if_neg (by decide)).trans ((if_neg (by decide)).trans ((if_neg (by decide)).trans m2))
    · exact (if_neg (by decide)).trans ((if_neg (by decide)).trans ((if_neg (by decide)).trans m3))
end
end
theorem calm_dm : True := by w_top off; exact True.intro
section
local macro_rules | `(tactic| walk_at "idle") => `(tactic| fail)
local macro_rules | `(tactic| walk_at "idle") => `(tactic| fail)
local macro_rules | `(tactic| walk_at "idle") => `(tactic| fail)
local macro_rules | `(tactic| walk_at "idle") => `(tactic| fail)
local macro_rules | `(tactic| walk_at "idle") => `(tactic| fail)
section
local macro_rules | `(tactic| k_room) => `(tactic| ktr_room)
local macro_rules | `(tactic| walk_at "call ref") => `(tactic| (refine Stop.mk ?_))
theorem c_dm_pos (w : World) (p : Program) (loose : List Str) (mean : ExcName → Option Value) (mg mb : Str → Option Value)
  (dp un : Nat) (gd : Option (List Code)) (cn : Str) (cs : Scope) (a : Addr) (ccd : Value) (cl : List (Str × Addr)) (outer : List Env) (A₀ : Around) (base h₀ : Heap) (L : Addr) (m : Str → Option Value) (s : Shared) (Q E : Value → Shared → Prop) (rest : List (Addr × Obj))
  (hB : Below A₀ base outer h₀) (hF : Fr h₀ L s.heap m) (hX : (hd01.heap_39 w.params).In h₀) (hT : Top p loose mean mg mb h₀) (hCi : CodeHd base 206 202) (hCd : CodeHd base 213 209) (hk : cs.kind = .function)
  (hd : dp + 115 < recursionLimit) (hu : un + 1150 < cLine)
  (x y : Int) (tx ty : Tok) (hx0 : 0 ≤ x) (hy : 0 < y) (hyN : Builtin.Int.intBits y ≤ 1000) (hxN : x < 2 ^ (64 * Builtin.Int.intBits y))
  (hne1 : ∀ p ∈ rest, p.1 ≠ 202) (hne2 : ∀ p ∈ rest, p.1 ≠ 209) (p1 p2 : Array Value)
  (hp1 : TabIn 131 (Str.ofString "_int2digits.<locals>.inner") p1 rest) (hp2 : TabIn 146 (Str.ofString "_digits2int.<locals>.inner") p2 rest)
  (hNw : News h₀ L s.heap ((202, tabObj p1) :: (209, tabObj p2) :: rest))
  (hret : ∀ (r : Addr) (t1 t2 : Tok) (h' : Heap) (tk' : Nat) (ci : Addr) (oci : Obj) (vsci : Array Value) (tqi : Tok) (cd : Addr) (ocd : Obj) (vscd : Array Value) (tqd : Tok), Fr h₀ L h' m →
    oci.data = .fields vsci → vsci[1]? = some (.str (Str.ofString "_int2digits.<locals>.inner") tqi) → ocd.data = .fields vscd → vscd[1]? = some (.str (Str.ofString "_digits2int.<locals>.inner") tqd) →
    News h₀ L h' ((r, { cls := .type "tuple", data := .seq #[.int (Int.fdiv x y) t1, .int (Int.fmod x y) t2] }) :: (ci, oci) :: (202, tabObj #[rawInt 131, rawInt 4, .ref ci]) :: (cd, ocd) :: (209, tabObj #[rawInt 146, rawInt 4, .ref cd]) :: rest) → Q (.ref r) { s with heap := h', toks := tk' }) :
  wpAny (model PySem.Challenge.rw_pg0294_01.row.prog w) (ktrTop dp un gd cn cs L a ccd cl outer) (call (.ref 228) [.int x tx, .int y ty]) Q E s := by
  refine wpAny_call ?_
  k_dflt cell_enter
  k_steps
  · exact absurd ‹y = 0› (by omega)
  · have hn1 := bits_pos (x := y) (by omega)
    have hpl := places hx0 hn1 hxN
    refine' Stop.out (c_divpos w p loose mean mg mb _ _ _ _ _ _ _ _ _ _ _ _ _ _ _ _ _ rest ?B ?F ?X ?T hCi hCd ?K ?D ?U x y _ _ _ _ hy rfl ⟨by omega, by omega⟩ (by rw [Int.toNat_natCast]; exact lt_bits (Int.le_of_lt hy)) hx0 hpl.1 hpl.2.1 (by rw [Int.toNat_natCast]; exact hpl.2.2.1) hpl.2.2.2 hne1 hne2 p1 p2 hp1 hp2 ?N ?ret)
    (case B => k_asm)
    (case F => k_asm)
    (case X => k_asm)
    (case T => k_asm)
    (case K => exact rfl)
    (case D => ktr_room)
    (case U => ktr_units)
    (case N => k_asm)
    intro r9 t19 t29 h9 tk9 ci oci vsci tqi cd ocd vscd tqd F9 d9 v9 d10 v10 N9
    (try dsimp only)
    k_steps
    exact hret _ _ _ _ _ ci oci vsci tqi cd ocd vscd tqd (by k_asm) d9 v9 d10 v10 (by k_asm)
theorem c_dm_neg (w : World) (p : Program) (loose : List Str) (mean : ExcName → Option Value) (mg mb : Str → Option Value)
  (dp un : Nat) (gd : Option (List Code)) (cn : Str) (cs : Scope) (a : Addr) (ccd : Value) (cl : List (Str × Addr)) (outer : List Env) (A₀ : Around) (base h₀ : Heap) (L : Addr) (m : Str → Option Value) (s : Shared) (Q E : Value → Shared → Prop) (rest : List (Addr × Obj))
  (hB : Below A₀ base outer h₀) (hF : Fr h₀ L s.heap m) (hX : (hd01.heap_39 w.params).In h₀) (hT : Top p loose mean mg mb h₀) (hCi : CodeHd base 206 202) (hCd : CodeHd base 213 209) (hk : cs.kind = .function)
  (hd : dp + 120 < recursionLimit) (hu : un + 1200 < cLine)
  (x y : Int) (tx ty : Tok) (hx0 : x < 0) (hy : 0 < y) (hyN : Builtin.Int.intBits y ≤ 1000) (hxN : -x ≤ 2 ^ (64 * Builtin.Int.intBits y))
  (hne1 : ∀ p ∈ rest, p.1 ≠ 202) (hne2 : ∀ p ∈ rest, p.1 ≠ 209) (p1 p2 : Array Value)
  (hp1 : TabIn 131 (Str.ofString "_int2digits.<locals>.inner") p1 rest) (hp2 : TabIn 146 (Str.ofString "_digits2int.<locals>.inner") p2 rest)
  (hNw : News h₀ L s.heap ((202, tabObj p1) :: (209, tabObj p2) :: rest))
  (hret : ∀ (r : Addr) (t1 t2 : Tok) (h' : Heap) (tk' : Nat) (ci : Addr) (oci : Obj) (vsci : Array Value) (tqi : Tok) (cd : Addr) (ocd : Obj) (vscd : Array Value) (tqd : Tok), Fr h₀ L h' m →
    oci.data = .fields vsci → vsci[1]? = some (.str (Str.ofString "_int2digits.<locals>.inner") tqi) → ocd.data = .fields vscd → vscd[1]? = some (.str (Str.ofString "_digits2int.<locals>.inner") tqd) →
    News h₀ L h' ((r, { cls := .type "tuple", data := .seq #[.int (Int.fdiv x y) t1, .int (Int.fmod x y) t2] }) :: (ci, oci) :: (202, tabObj #[rawInt 131, rawInt 4, .ref ci]) :: (cd, ocd) :: (209, tabObj #[rawInt 146, rawInt 4, .ref cd]) :: rest) → Q (.ref r) { s with heap := h', toks := tk' }) :
  wpAny (model PySem.Challenge.rw_pg0294_01.row.prog w) (ktrTop dp un gd cn cs L a ccd cl outer) (call (.ref 228) [.int x tx, .int y ty]) Q E s := by
  refine wpAny_call ?_
  k_dflt cell_enter
  k_steps
  · exact absurd ‹y = 0› (by omega)
  · have hdm := dm_neg (x := x) hy
    rw [show Builtin.bitNot x = -x - 1 from by unfold Builtin.bitNot; omega]
    refine' Stop.out (c_dm_pos w p loose mean mg mb _ _ _ _ _ _ _ _ _ _ _ _ _ _ _ _ _ rest ?Ba ?Fa ?Xa ?Ta hCi hCd ?Ka ?Da ?Ua (-x - 1) y _ _ (by omega) hy hyN (by omega) hne1 hne2 p1 p2 hp1 hp2 ?Na ?reta)
    (case Ba => k_asm)
    (case Fa => k_asm)
    (case Xa => k_asm)
    (case Ta => k_asm)
    (case Ka => exact rfl)
    (case Da => ktr_room)
    (case Ua => ktr_units)
    (case Na => k_asm)
    intro r9 t19 t29 h9 tk9 ci oci vsci tqi cd ocd vscd tqd F9 d9 v9 d10 v10 N9
    (try dsimp only)
    k_steps
    rename News h₀ L _ _ => N7
    rw [hdm.1, hdm.2] at N7
    exact hret _ _ _ _ _ ci oci vsci tqi cd ocd vscd tqd (by k_asm) d9 v9 d10 v10 (news_g1 N7)
theorem c_dm_b (w : World) (p : Program) (loose : List Str) (mean : ExcName → Option Value) (mg mb : Str → Option Value)
  (dp un : Nat) (gd : Option (List Code)) (cn : Str) (cs : Scope) (a : Addr) (ccd : Value) (cl : List (Str × Addr)) (outer : List Env) (A₀ : Around) (base h₀ : Heap) (L : Addr) (m : Str → Option Value) (s : Shared) (Q E : Value → Shared → Prop) (rest : List (Addr × Obj))
  (hB : Below A₀ base outer h₀) (hF : Fr h₀ L s.heap m) (hX : (hd01.heap_39 w.params).In h₀) (hT : Top p loose mean mg mb h₀) (hCi : CodeHd base 206 202) (hCd : CodeHd base 213 209) (hk : cs.kind = .function)
  (hd : dp + 130 < recursionLimit) (hu : un + 1300 < cLine)
  (x y : Int) (tx ty : Tok) (hy : y < 0) (hyN : Builtin.Int.intBits (-y) ≤ 1000) (hxN : -(2 ^ (64 * Builtin.Int.intBits (-y))) < x ∧ x ≤ 2 ^ (64 * Builtin.Int.intBits (-y)))
  (hne1 : ∀ p ∈ rest, p.1 ≠ 202) (hne2 : ∀ p ∈ rest, p.1 ≠ 209) (p1 p2 : Array Value)
  (hp1 : TabIn 131 (Str.ofString "_int2digits.<locals>.inner") p1 rest) (hp2 : TabIn 146 (Str.ofString "_digits2int.<locals>.inner") p2 rest)
  (hNw : News h₀ L s.heap ((202, tabObj p1) :: (209, tabObj p2) :: rest))
  (hret : ∀ (r : Addr) (t1 t2 : Tok) (h' : Heap) (tk' : Nat) (ci : Addr) (oci : Obj) (vsci : Array Value) (tqi : Tok) (cd : Addr) (ocd : Obj) (vscd : Array Value) (tqd : Tok), Fr h₀ L h' m →
    oci.data = .fields vsci → vsci[1]? = some (.str (Str.ofString "_int2digits.<locals>.inner") tqi) → ocd.data = .fields vscd → vscd[1]? = some (.str (Str.ofString "_digits2int.<locals>.inner") tqd) →
    News h₀ L h' ((r, { cls := .type "tuple", data := .seq #[.int (Int.fdiv x y) t1, .int (Int.fmod x y) t2] }) :: (ci, oci) :: (202, tabObj #[rawInt 131, rawInt 4, .ref ci]) :: (cd, ocd) :: (209, tabObj #[rawInt 146, rawInt 4, .ref cd]) :: rest) → Q (.ref r) { s with heap := h', toks := tk' }) :
  wpAny (model PySem.Challenge.rw_pg0294_01.row.prog w) (ktrTop dp un gd cn cs L a ccd cl outer) (call (.ref 228) [.int x tx, .int y ty]) Q E s := by
  refine wpAny_call ?_
  k_dflt cell_enter
  k_steps
  · exact absurd ‹y = 0› (by omega)
  · have hdm := dm_flip (x := x) hy
    by_cases hs : 0 ≤ -x
    · skip
      refine' Stop.out (c_dm_pos w p loose mean mg mb _ _ _ _ _ _ _ _ _ _ _ _ _ _ _ _ _ rest ?Ba ?Fa ?Xa ?Ta hCi hCd ?Ka ?Da ?Ua (-x) (-y) _ _ hs (by omega) hyN (by omega) hne1 hne2 p1 p2 hp1 hp2 ?Na ?reta)
      (case Ba => k_asm)
      (case Fa => k_asm)
      (case Xa => k_asm)
      (case Ta => k_asm)
      (case Ka => exact rfl)
      (case Da => ktr_room)
      (case Ua => ktr_units)
      (case Na => k_asm)
      intro r9 t19 t29 h9 tk9 ci oci vsci tqi cd ocd vscd tqd F9 d9 v9 d10 v10 N9
      (try dsimp only)
      k_steps
      rename News h₀ L _ _ => N7
      rw [hdm.1, hdm.2] at N7
      exact hret _ _ _ _ _ ci oci vsci tqi cd ocd vscd tqd (by k_asm) d9 v9 d10 v10 (news_g1 N7)
    · skip
      refine' Stop.out (c_dm_neg w p loose mean mg mb _ _ _ _ _ _ _ _ _ _ _ _ _ _ _ _ _ rest ?Bb ?Fb ?Xb ?Tb hCi hCd ?Kb ?Db ?Ub (-x) (-y) _ _ (by omega) (by omega) hyN (by omega) hne1 hne2 p1 p2 hp1 hp2 ?Nb ?retb)
      (case Bb => k_asm)
      (case Fb => k_asm)
      (case Xb => k_asm)
      (case Tb => k_asm)
      (case Kb => exact rfl)
      (case Db => ktr_room)
      (case Ub => ktr_units)
      (case Nb => k_asm)
      intro r9 t19 t29 h9 tk9 ci oci vsci tqi cd ocd vscd tqd F9 d9 v9 d10 v10 N9
      (try dsimp only)
      k_steps
      rename News h₀ L _ _ => N7
      rw [hdm.1, hdm.2] at N7
      exact hret _ _ _ _ _ ci oci vsci tqi cd ocd vscd tqd (by k_asm) d9 v9 d10 v10 (news_g1 N7)
end
end
theorem calm_tw : True := by w_top off; exact True.intro
section
-- the tables of codes, wherever they stand in the ledger
theorem news_neC {h : Heap} {a b : Addr} {o o' : Obj} (e1 : h.get? a = some o) (e2 : h.get? b = some o') (hc : o.cls ≠ o'.cls) : a ≠ b := fun e => hc (by
  subst e
  rw [e1] at e2
  cases e2
  rfl)
def TabsW (h₀ : Heap) (L : Addr) (h : Heap) (front : List (Addr × Obj)) (p1 p2 : Array Value) (ex : List (Addr × Obj)) : Prop :=
  TabIn 131 (Str.ofString "_int2digits.<locals>.inner") p1 ex ∧ TabIn 146 (Str.ofString "_digits2int.<locals>.inner") p2 ex ∧ (∀ p ∈ ex, p.1 ≠ 202 ∧ p.1 ≠ 209) ∧ News h₀ L h (front ++ (202, tabObj p1) :: (209, tabObj p2) :: ex)
def Tabs (h₀ : Heap) (L : Addr) (h : Heap) (front : List (Addr × Obj)) : Prop := ∃ p1 p2 ex, TabsW h₀ L h front p1 p2 ex
theorem Tabs.news {h₀ h : Heap} {L : Addr} {front : List (Addr × Obj)} (T : Tabs h₀ L h front) : News h₀ L h front := by
  obtain ⟨p1, p2, ex, _, _, _, N⟩ := T
  exact fun p hp => N p (List.mem_append.mpr (.inl hp))
theorem Tabs.sub {h₀ h : Heap} {L : Addr} {front front' : List (Addr × Obj)} (T : Tabs h₀ L h front) (hs : ∀ p ∈ front', p ∈ front) : Tabs h₀ L h front' := by
  obtain ⟨p1, p2, ex, a, b, c, N⟩ := T
  exact ⟨p1, p2, ex, a, b, c, fun p hp => N p (by
    rcases List.mem_append.mp hp with hp | hp
    · exact List.mem_append.mpr (.inl (hs _ hp))
    · exact List.mem_append.mpr (.inr hp))⟩
theorem Tabs.cons {h₀ h : Heap} {L : Addr} {x : Addr × Obj} {front : List (Addr × Obj)} (T : Tabs h₀ L h front) (N : News h₀ L h [x]) : Tabs h₀ L h (x :: front) := by
  obtain ⟨p1, p2, ex, a, b, c, N'⟩ := T
  exact ⟨p1, p2, ex, a, b, c, fun p hp => by
    rcases List.mem_cons.mp hp with rfl | hp
    · exact N _ (.head _)
    · exact N' p hp⟩
theorem news_off {h₀ h : Heap} {L T : Addr} {ps : Array Value} {news front : List (Addr × Obj)} (N : News h₀ L h news) (hT : (T, tabObj ps) ∈ news) (hs : ∀ p ∈ front, p ∈ news) (hoff : ∀ p ∈ front, p.2.cls ≠ .none) : ∀ p ∈ front, p.1 ≠ T := fun p hp =>
  news_neC (N _ (hs p hp)).1 (N _ hT).1 (hoff p hp)
theorem T_d2i (w : World) (p : Program) (loose : List Str) (mean : ExcName → Option Value) (mg mb : Str → Option Value)
  (dp un : Nat) (gd : Option (List Code)) (cn : Str) (cs : Scope) (a : Addr) (ccd : Value) (cl : List (Str × Addr)) (outer : List Env) (A₀ : Around) (base h₀ : Heap) (L : Addr) (m : Str → Option Value) (s : Shared) (Q E : Value → Shared → Prop)
  (hB : Below A₀ base outer h₀) (hF : Fr h₀ L s.heap m) (hX : (hd01.heap_39 w.params).In h₀) (hT : Top p loose mean mg mb h₀) (hCi : CodeHd base 206 202) (hCd : CodeHd base 213 209) (hk : cs.kind = .function)
  (hd : dp + 200 < recursionLimit) (hu : un + 2000 < cLine) (front : List (Addr × Obj)) (hoff : ∀ p ∈ front, p.2.cls ≠ .none) (hTb : Tabs h₀ L s.heap front)
  (N : Int) (ns : List Int) (vs : List Value) (hi : IntsAre vs ns) (hN0 : 0 ≤ N ∧ N ≤ 1000) (hb : ∀ d ∈ ns, 0 ≤ d ∧ d < 2 ^ N.toNat) (hl : ns.length ≤ 64) (l : Addr) (kn : Nat) (tN : Tok) (hml : (l, listOf vs.toArray kn) ∈ front)
  (hret : ∀ (t : Tok) (h' : Heap) (tk' : Nat), Fr h₀ L h' m → Tabs h₀ L h' front → Q (.int (dsum N.toNat ns) t) { s with heap := h', toks := tk' }) :
  wpAny (model PySem.Challenge.rw_pg0294_01.row.prog w) (ktrTop dp un gd cn cs L a ccd cl outer) (call (.ref 214) [.ref l, .int N tN]) Q E s := by
  obtain ⟨p1, p2, ex, t1, t2, oe, hN⟩ := hTb
  have of1 := news_off (front := front) hN (List.mem_append.mpr (.inr (.head _))) (fun p hp => List.mem_append.mpr (.inl hp)) hoff
  have of2 := news_off (front := front) hN (List.mem_append.mpr (.inr (.tail _ (.head _)))) (fun p hp => List.mem_append.mpr (.inl hp)) hoff
  refine d2i_any w p loose mean mg mb N ns vs hi hN0 hb hl dp un gd cn cs a ccd cl outer A₀ base h₀ L m s Q E (front ++ (202, tabObj p1) :: ex) hB hF hX hT hCd hk (by omega) (by omega) l kn tN ?_ (List.mem_append.mpr (.inl hml)) p2 (t2.mono fun p hp => List.mem_append.mpr (.inr (.tail _ hp))) ?_ ?_
  · intro p hp
    rcases List.mem_append.mp hp with hp | hp
    · exact of2 p hp
    · rcases List.mem_cons.mp hp with rfl | hp
      · dsimp only; decide
      · exact (oe p hp).2
  · intro p hp
    rcases List.mem_cons.mp hp with rfl | hp
    · exact hN _ (List.mem_append.mpr (.inr (.tail _ (.head _))))
    · rcases List.mem_append.mp hp with hp | hp
      · exact hN p (List.mem_append.mpr (.inl hp))
      · rcases List.mem_cons.mp hp with rfl | hp
        · exact hN _ (List.mem_append.mpr (.inr (.head _)))
        · exact hN p (List.mem_append.mpr (.inr (.tail _ (.tail _ hp))))
  · intro t h' tk' c' oc vsc tq F' d1 d2 N'
    have hc1 : c' ≠ 202 := tab_ne N' (.head _) d1 d2 (.tail _ (.tail _ (List.mem_append.mpr (.inr (.head _))))) t1
    have hc2 : c' ≠ 209 := tab_ne N' (.head _) d1 d2 (.tail _ (.head _)) (TabIn.full (line := 146) (rest := [(c', oc)]) (.head _) d1 d2)
    refine hret t h' tk' F' ⟨p1, _, (c', oc) :: ex, t1.mono (fun _ h => .tail _ h), TabIn.full (.head _) d1 d2, List.forall_mem_cons.mpr ⟨⟨hc1, hc2⟩, oe⟩, fun p hp => ?_⟩
    rcases List.mem_append.mp hp with hp | hp
    · exact N' p (.tail _ (.tail _ (List.mem_append.mpr (.inl hp))))
    · rcases List.mem_cons.mp hp with rfl | hp
      · exact N' _ (.tail _ (.tail _ (List.mem_append.mpr (.inr (.head _)))))
      · rcases List.mem_cons.mp hp with rfl | hp
        · exact N' _ (.tail _ (.head _))
        · rcases List.mem_cons.mp hp with rfl | hp
          · exact N' _ (.head _)
          · exact N' p (.tail _ (.tail _ (List.mem_append.mpr (.inr (.tail _ hp)))))
theorem T_i2d (w : World) (p : Program) (loose : List Str) (mean : ExcName → Option Value) (mg mb : Str → Option Value)
  (dp un : Nat) (gd : Option (List Code)) (cn : Str) (cs : Scope) (a : Addr) (ccd : Value) (cl : List (Str × Addr)) (outer : List Env) (A₀ : Around) (base h₀ : Heap) (L : Addr) (m : Str → Option Value) (s : Shared) (Q E : Value → Shared → Prop)
  (hB : Below A₀ base outer h₀) (hF : Fr h₀ L s.heap m) (hX : (hd01.heap_39 w.params).In h₀) (hT : Top p loose mean mg mb h₀) (hCi : CodeHd base 206 202) (hCd : CodeHd base 213 209) (hk : cs.kind = .function)
  (hd : dp + 200 < recursionLimit) (hu : un + 2000 < cLine) (front : List (Addr × Obj)) (hoff : ∀ p ∈ front, p.2.cls ≠ .none) (hTb : Tabs h₀ L s.heap front)
  (x N : Int) (hN0 : 1 ≤ N ∧ N ≤ 1000) (hx0 : 0 ≤ x) (k : Nat) (hlen : ((Builtin.Int.intBits x : Int) + N - 1).fdiv N = (k : Int)) (hk64 : k ≤ 64) (hxk : x < 2 ^ (N.toNat * k)) (hk1 : x ≠ 0 → 1 ≤ k) (tx tN : Tok)
  (hret : ∀ (l' : Addr) (vs' : List Value) (kn' : Nat) (h' : Heap) (tk' : Nat), Fr h₀ L h' m → IntsAre vs' (digs N.toNat k x) → Tabs h₀ L h' ((l', listOf vs'.toArray kn') :: front) → Q (.ref l') { s with heap := h', toks := tk' }) :
  wpAny (model PySem.Challenge.rw_pg0294_01.row.prog w) (ktrTop dp un gd cn cs L a ccd cl outer) (call (.ref 207) [.int x tx, .int N tN]) Q E s := by
  obtain ⟨p1, p2, ex, t1, t2, oe, hN⟩ := hTb
  have of1 := news_off (front := front) hN (List.mem_append.mpr (.inr (.head _))) (fun p hp => List.mem_append.mpr (.inl hp)) hoff
  refine i2d_any w p loose mean mg mb x N hN0 hx0 k hlen hk64 hxk hk1 dp un gd cn cs a ccd cl outer A₀ base h₀ L m s Q E (front ++ (209, tabObj p2) :: ex) hB hF hX hT hCi hk (by omega) (by omega) tx tN ?_ p1 (t1.mono fun p hp => List.mem_append.mpr (.inr (.tail _ hp))) ?_ ?_
  · intro p hp
    rcases List.mem_append.mp hp with hp | hp
    · exact of1 p hp
    · rcases List.mem_cons.mp hp with rfl | hp
      · dsimp only; decide
      · exact (oe p hp).1
  · intro p hp
    rcases List.mem_cons.mp hp with rfl | hp
    · exact hN _ (List.mem_append.mpr (.inr (.head _)))
    · rcases List.mem_append.mp hp with hp | hp
      · exact hN p (List.mem_append.mpr (.inl hp))
      · rcases List.mem_cons.mp hp with rfl | hp
        · exact hN _ (List.mem_append.mpr (.inr (.tail _ (.head _))))
        · exact hN p (List.mem_append.mpr (.inr (.tail _ (.tail _ hp))))
  · intro l' vs' kn' h' tk' c' oc vsc tq F' i' d1 d2 N'
    have hc2 : c' ≠ 209 := tab_ne N' (.tail _ (.head _)) d1 d2 (.tail _ (.tail _ (.tail _ (List.mem_append.mpr (.inr (.head _)))))) t2
    have hc1 : c' ≠ 202 := tab_ne N' (.tail _ (.head _)) d1 d2 (.tail _ (.tail _ (.head _))) (TabIn.full (line := 131) (rest := [(c', oc)]) (.head _) d1 d2)
    refine hret l' vs' kn' h' tk' F' i' ⟨_, p2, (c', oc) :: ex, TabIn.full (.head _) d1 d2, t2.mono (fun _ h => .tail _ h), List.forall_mem_cons.mpr ⟨⟨hc1, hc2⟩, oe⟩, fun p hp => ?_⟩
    rcases List.mem_cons.mp hp with rfl | hp
    · exact N' _ (.head _)
    rcases List.mem_append.mp hp with hp | hp
    · exact N' p (.tail _ (.tail _ (.tail _ (List.mem_append.mpr (.inl hp)))))
    · rcases List.mem_cons.mp hp with rfl | hp
      · exact N' _ (.tail _ (.tail _ (.head _)))
      · rcases List.mem_cons.mp hp with rfl | hp
        · exact N' _ (.tail _ (.tail _ (.tail _ (List.mem_append.mpr (.inr (.head _))))))
        · rcases List.mem_cons.mp hp with rfl | hp
          · exact N' _ (.tail _ (.head _))
          · exact N' p (.tail _ (.tail _ (.tail _ (List.mem_append.mpr (.inr (.tail _ hp))))))
theorem T_dm (w : World) (p : Program) (loose : List Str) (mean : ExcName → Option Value) (mg mb : Str → Option Value)
  (dp un : Nat) (gd : Option (List Code)) (cn : Str) (cs : Scope) (a : Addr) (ccd : Value) (cl : List (Str × Addr)) (outer : List Env) (A₀ : Around) (base h₀ : Heap) (L : Addr) (m : Str → Option Value) (s : Shared) (Q E : Value → Shared → Prop)
  (hB : Below A₀ base outer h₀) (hF : Fr h₀ L s.heap m) (hX : (hd01.heap_39 w.params).In h₀) (hT : Top p loose mean mg mb h₀) (hCi : CodeHd base 206 202) (hCd : CodeHd base 213 209) (hk : cs.kind = .function)
  (hd : dp + 200 < recursionLimit) (hu : un + 2000 < cLine) (front : List (Addr × Obj)) (hoff : ∀ p ∈ front, p.2.cls ≠ .none) (hTb : Tabs h₀ L s.heap front)
  (x y : Int) (tx ty : Tok) (hy : y ≠ 0) (hyN : Builtin.Int.intBits y ≤ 1000) (hxN : -(2 ^ (64 * Builtin.Int.intBits y)) < x ∧ x < 2 ^ (64 * Builtin.Int.intBits y))
  (hret : ∀ (r : Addr) (t1 t2 : Tok) (h' : Heap) (tk' : Nat), Fr h₀ L h' m → Tabs h₀ L h' ((r, { cls := .type "tuple", data := .seq #[.int (Int.fdiv x y) t1, .int (Int.fmod x y) t2] }) :: front) → Q (.ref r) { s with heap := h', toks := tk' }) :
  wpAny (model PySem.Challenge.rw_pg0294_01.row.prog w) (ktrTop dp un gd cn cs L a ccd cl outer) (call (.ref 228) [.int x tx, .int y ty]) Q E s := by
  obtain ⟨p1, p2, ex, t1, t2, oe, hN⟩ := hTb
  have of1 := news_off (front := front) hN (List.mem_append.mpr (.inr (.head _))) (fun p hp => List.mem_append.mpr (.inl hp)) hoff
  have of2 := news_off (front := front) hN (List.mem_append.mpr (.inr (.tail _ (.head _)))) (fun p hp => List.mem_append.mpr (.inl hp)) hoff
  have ne1 : ∀ p ∈ front ++ ex, p.1 ≠ 202 := fun p hp => by
    rcases List.mem_append.mp hp with hp | hp
    · exact of1 p hp
    · exact (oe p hp).1
  have ne2 : ∀ p ∈ front ++ ex, p.1 ≠ 209 := fun p hp => by
    rcases List.mem_append.mp hp with hp | hp
    · exact of2 p hp
    · exact (oe p hp).2
  have hN' : News h₀ L s.heap ((202, tabObj p1) :: (209, tabObj p2) :: (front ++ ex)) := fun p hp => by
    rcases List.mem_cons.mp hp with rfl | hp
    · exact hN _ (List.mem_append.mpr (.inr (.head _)))
    · rcases List.mem_cons.mp hp with rfl | hp
      · exact hN _ (List.mem_append.mpr (.inr (.tail _ (.head _))))
      · rcases List.mem_append.mp hp with hp | hp
        · exact hN p (List.mem_append.mpr (.inl hp))
        · exact hN p (List.mem_append.mpr (.inr (.tail _ (.tail _ hp))))
  have fin : ∀ (r : Addr) (u1 u2 : Tok) (h' : Heap) (tk' : Nat) (ci : Addr) (oci : Obj) (vsci : Array Value) (tqi : Tok) (cd : Addr) (ocd : Obj) (vscd : Array Value) (tqd : Tok), Fr h₀ L h' m →
    oci.data = .fields vsci → vsci[1]? = some (.str (Str.ofString "_int2digits.<locals>.inner") tqi) → ocd.data = .fields vscd → vscd[1]? = some (.str (Str.ofString "_digits2int.<locals>.inner") tqd) →
    News h₀ L h' ((r, { cls := .type "tuple", data := .seq #[.int (Int.fdiv x y) u1, .int (Int.fmod x y) u2] }) :: (ci, oci) :: (202, tabObj #[rawInt 131, rawInt 4, .ref ci]) :: (cd, ocd) :: (209, tabObj #[rawInt 146, rawInt 4, .ref cd]) :: (front ++ ex)) → Q (.ref r) { s with heap := h', toks := tk' } := by
    intro r u1 u2 h' tk' ci oci vsci tqi cd ocd vscd tqd F' d1 d2 d3 d4 N'
    have q1 : TabIn 131 (Str.ofString "_int2digits.<locals>.inner") #[rawInt 131, rawInt 4, .ref ci] ((ci, oci) :: (cd, ocd) :: ex) := TabIn.full (.head _) d1 d2
    have q2 : TabIn 146 (Str.ofString "_digits2int.<locals>.inner") #[rawInt 146, rawInt 4, .ref cd] ((ci, oci) :: (cd, ocd) :: ex) := TabIn.full (.tail _ (.head _)) d3 d4
    have mI : (202, tabObj #[rawInt 131, rawInt 4, .ref ci]) ∈ ((r, ({ cls := .type "tuple", data := .seq #[.int (Int.fdiv x y) u1, .int (Int.fmod x y) u2] } : Obj)) :: (ci, oci) :: (202, tabObj #[rawInt 131, rawInt 4, .ref ci]) :: (cd, ocd) :: (209, tabObj #[rawInt 146, rawInt 4, .ref cd]) :: (front ++ ex)) := .tail _ (.tail _ (.head _))
    have mD : (209, tabObj #[rawInt 146, rawInt 4, .ref cd]) ∈ ((r, ({ cls := .type "tuple", data := .seq #[.int (Int.fdiv x y) u1, .int (Int.fmod x y) u2] } : Obj)) :: (ci, oci) :: (202, tabObj #[rawInt 131, rawInt 4, .ref ci]) :: (cd, ocd) :: (209, tabObj #[rawInt 146, rawInt 4, .ref cd]) :: (front ++ ex)) := .tail _ (.tail _ (.tail _ (.tail _ (.head _))))
    have c1 : ci ≠ 202 := tab_ne N' (.tail _ (.head _)) d1 d2 mI q1
    have c2 : ci ≠ 209 := tab_ne N' (.tail _ (.head _)) d1 d2 mD q2
    have c3 : cd ≠ 202 := tab_ne N' (.tail _ (.tail _ (.tail _ (.head _)))) d3 d4 mI q1
    have c4 : cd ≠ 209 := tab_ne N' (.tail _ (.tail _ (.tail _ (.head _)))) d3 d4 mD q2
    refine hret r u1 u2 h' tk' F' ⟨_, _, (ci, oci) :: (cd, ocd) :: ex, q1, q2, List.forall_mem_cons.mpr ⟨⟨c1, c2⟩, List.forall_mem_cons.mpr ⟨⟨c3, c4⟩, oe⟩⟩, fun p hp => ?_⟩
    rcases List.mem_cons.mp hp with rfl | hp
    · exact N' _ (.head _)
    rcases List.mem_append.mp hp with hp | hp
    · exact N' p (.tail _ (.tail _ (.tail _ (.tail _ (.tail _ (List.mem_append.mpr (.inl hp)))))))
    rcases List.mem_cons.mp hp with rfl | hp
    · exact N' _ mI
    rcases List.mem_cons.mp hp with rfl | hp
    · exact N' _ mD
    rcases List.mem_cons.mp hp with rfl | hp
    · exact N' _ (.tail _ (.head _))
    rcases List.mem_cons.mp hp with rfl | hp
    · exact N' _ (.tail _ (.tail _ (.tail _ (.head _))))
    exact N' p (.tail _ (.tail _ (.tail _ (.tail _ (.tail _ (List.mem_append.mpr (.inr hp)))))))
  have m1 : TabIn 131 (Str.ofString "_int2digits.<locals>.inner") p1 (front ++ ex) := t1.mono fun p hp => List.mem_append.mpr (.inr hp)
  have m2 : TabIn 146 (Str.ofString "_digits2int.<locals>.inner") p2 (front ++ ex) := t2.mono fun p hp => List.mem_append.mpr (.inr hp)
  rcases Int.lt_trichotomy y 0 with h | h | h
  · have e : Builtin.Int.intBits (-y) = Builtin.Int.intBits y := by
      unfold Builtin.Int.intBits
      rw [Int.natAbs_neg, if_neg (by simp; omega), if_neg (by simp; omega)]
    exact c_dm_b w p loose mean mg mb dp un gd cn cs a ccd cl outer A₀ base h₀ L m s Q E (front ++ ex) hB hF hX hT hCi hCd hk (by omega) (by omega) x y tx ty h (by rw [e]; exact hyN) (by rw [e]; omega) ne1 ne2 p1 p2 m1 m2 hN' fin
  · exact absurd h hy
  · by_cases hx : 0 ≤ x
    · exact c_dm_pos w p loose mean mg mb dp un gd cn cs a ccd cl outer A₀ base h₀ L m s Q E (front ++ ex) hB hF hX hT hCi hCd hk (by omega) (by omega) x y tx ty hx h hyN (by omega) ne1 ne2 p1 p2 m1 m2 hN' fin
    · exact c_dm_neg w p loose mean mg mb dp un gd cn cs a ccd cl outer A₀ base h₀ L m s Q E (front ++ ex) hB hF hX hT hCi hCd hk (by omega) (by omega) x y tx ty (by omega) h hyN (by omega) ne1 ne2 p1 p2 m1 m2 hN' fin
end
theorem calm_re_plain : True := by w_top off; exact True.intro
section
abbrev nameCode : Array Nat := #[14, 10, 4, 1, 1, 22, 0, 31, 16, 127, 0, 13, 7, 22, 0, 31, 16, 127, 0, 1]
abbrev valueCode : Array Nat := #[14, 14, 4, 1, 1, 9, 4294966783, 0, 0, 2147483648, 0, 0, 0, 0, 0, 13, 11, 9, 4294966783, 0, 0, 2147483648, 0, 0, 0, 0, 0, 1]
def Safe (t : Str) : Prop := ∀ c ∈ t.cps.toList, 31 < c ∧ c ≠ 127
def OutOf (code : Array Nat) (c : Nat) : Prop := ∀ seen, ∃ seen', Sre.inSet code c code.size 5 true seen = .ok (false, seen')
theorem out_name {c : Nat} (h1 : 31 < c) (h2 : c ≠ 127) : OutOf nameCode c := fun seen => by
  refine ⟨((seen.add 22).add 16).add 0, ?_⟩
  have e1 : Sre.inSet nameCode c 20 5 true seen = if (0 ≤ c && c ≤ 31) = true then .ok (true, seen.add 22) else Sre.inSet nameCode c 19 8 true (seen.add 22) := rfl
  have e2 : Sre.inSet nameCode c 19 8 true (seen.add 22) = if (c == 127) = true then .ok (true, (seen.add 22).add 16) else Sre.inSet nameCode c 18 10 true ((seen.add 22).add 16) := rfl
  have e3 : Sre.inSet nameCode c 18 10 true ((seen.add 22).add 16) = .ok (false, ((seen.add 22).add 16).add 0) := rfl
  show Sre.inSet nameCode c 20 5 true seen = _
  rw [e1, if_neg (by simp; omega), e2, if_neg (by simp; omega), e3]
theorem bits_value (c : Nat) (h : c < 256) (h1 : 31 < c) (h2 : c ≠ 127) : (valueCode.getD (5 + (1 + c / 32)) 0).testBit (c % 32) = false := by
  have : ∀ c < 256, 31 < c → c ≠ 127 → (valueCode.getD (5 + (1 + c / 32)) 0).testBit (c % 32) = false := by decide +kernel
  exact this c h h1 h2
theorem out_value {c : Nat} (h1 : 31 < c) (h2 : c ≠ 127) : OutOf valueCode c := fun seen => by
  refine ⟨(seen.add 9).add 0, ?_⟩
  have e1 : Sre.inSet valueCode c 28 5 true seen = if (c < 256 && (valueCode.getD (5 + (1 + c / 32)) 0).testBit (c % 32)) = true then .ok (true, seen.add 9) else Sre.inSet valueCode c 27 14 true (seen.add 9) := rfl
  have e3 : Sre.inSet valueCode c 27 14 true (seen.add 9) = .ok (false, (seen.add 9).add 0) := rfl
  show Sre.inSet valueCode c 28 5 true seen = _
  rw [e1, if_neg ?_, e3]
  intro q
  rw [Bool.and_eq_true] at q
  rw [bits_value c (by simpa using q.1) h1 h2] at q
  exact Bool.false_ne_true q.2
theorem admitted_none (m : Sre.M) (h : ∀ i, i < m.lim → OutOf m.code (m.text.getD i 0)) : ∀ fuel s seen, ∃ seen', Sre.M.admitted m fuel s seen = .ok (none, seen')
  | 0, s, seen => ⟨seen, rfl⟩
  | fuel + 1, s, seen => by
    by_cases hs : s ≥ m.lim
    · exact ⟨seen, by rw [Sre.M.admitted, if_pos hs]⟩
    · obtain ⟨seen', e⟩ := h s (by omega) seen
      obtain ⟨seen'', e'⟩ := admitted_none m h fuel (s + 1) seen'
      exact ⟨seen'', by rw [Sre.M.admitted, if_neg hs, e]; exact e'⟩
def Said (m : Sre.M) : Prop := m.answer = some false ∧ m.frames = [] ∧ m.outcome = none
theorem said_run {m : Sre.M} (h : Said m) : (m.runFor 4).outcome = some .failed := by
  obtain ⟨h1, h2, h3⟩ := h
  have e : m.step = { m with outcome := some .failed } := by
    unfold Sre.M.step
    rw [h1, h2, h3]
    rfl
  show (if m.outcome.isSome then m else Sre.M.runFor 3 m.step).outcome = _
  rw [h3, e]
  rfl
theorem attempt_said (m : Sre.M) (s : Nat) (first : Bool) (hf : m.hasFirstSet = true) (h : ∀ i, i < m.lim → OutOf m.code (m.text.getD i 0)) (h2 : m.frames = []) (h3 : m.outcome = none) :
    Said (m.attemptFrom s first) := by
  obtain ⟨seen', e⟩ := admitted_none m h (m.lim + 1 - s) s m.seen
  unfold Sre.M.attemptFrom
  rw [hf, e]
  exact ⟨rfl, h2, h3⟩
theorem search_said (code text : Array Nat) (groups pos lim : Nat) (hop : Sre.ops[code.getD 0 0]? = some .INFO) (h4 : code.getD 2 0 = 4) (h : ∀ i, i < lim → OutOf code (text.getD i 0)) :
    Said (Sre.forSearch code text groups pos lim false) := by
  unfold Sre.forSearch
  extract_lets m least hinted
  split
  · exact ⟨rfl, rfl, rfl⟩
  · refine attempt_said _ _ _ ?_ h rfl rfl
    show ((match Sre.ops[code.getD 0 0]? with | some .INFO => true | _ => false) && code.getD 2 0 == 4) = true
    rw [hop, h4]
    rfl
theorem drive_said {M : Model} {A : Around} {E : Value → Shared → Prop} {s : Shared} (m : Sre.M) (h : Said m) (n : Nat) {Q : Sre.M → Shared → Prop} (hq : ∀ m', m'.outcome = some .failed → Q m' s) :
    wpAny M A (Builtin.Re.reDrive (n + 1) m) Q E s := by
  unfold Builtin.Re.reDrive
  have e : (m.runFor Builtin.Re.reTurnSteps).outcome = some .failed := said_run h
  simp only [e, Option.isSome_some, if_true]
  exact wpAny_pure (hq _ e)
theorem runToEnd_said {M : Model} {A : Around} {E : Value → Shared → Prop} {s : Shared} (m : Sre.M) (h : Said m) {Q : Option Sre.M → Shared → Prop} (hq : Q none s) :
    wpAny M A (Builtin.Re.reRunToEnd m) Q E s := by
  unfold Builtin.Re.reRunToEnd
  refine wpAny_bind ?_
  refine drive_said m h (2 ^ 64 - 1) fun m' e => ?_
  refine wpAny_bind ?_
  refine wpAny_forIn_list _ (fun _ _ s' => s' = s) _ ?_ ?_ _ _ rfl
  · rintro x rest b _ rfl
    split
    · exact wpAny_bind (wpAny_rule (wpAny_pure rfl))
    · exact wpAny_pure rfl
  · rintro b _ rfl
    rw [e]
    exact wpAny_pure hq
theorem named_one (v : Value) : Builtin.Re.reNamed "re.Pattern.search" "search" ["string", "pos", "endpos"] 1 [v] [] = pure [some v, none, none] := rfl
theorem re_search_none (l c : Addr) (t : Str) (tk : Tok) (o oc : Obj) (fs : Array Value) (cs : Array Value) (n : Nat) (code : Array Nat) (hd : o.data = .fields fs) (hc : fs.getD 5 .none = .ref c) (hk : Builtin.Re.reRawNat (fs.getD 6 .none) = 0)
    (hdc : oc.data = .seq cs n) (hcs : (cs.map Builtin.Re.reRawOf).map (·.toNat) = code) (hop : Sre.ops[code.getD 0 0]? = some .INFO) (h4 : code.getD 2 0 = 4) (h : ∀ i, i < t.cps.size → OutOf code (t.cps.getD i 0)) :
    Meets (Builtin.«re.Pattern.search» ⟨[.ref l, .str t tk], []⟩) (fun _ R s => s.heap.get? l = some o ∧ s.heap.get? c = some oc ∧ R (.ok (.ret .none)) s) :=
  .of_wp fun prog w A R s hs => by
    obtain ⟨hl, hlc, hR⟩ := hs
    unfold Builtin.«re.Pattern.search»
    refine wpAny_bind ?_
    unfold Builtin.Re.reTarget
    simp only [named_one, pure_bind]
    refine wpAny_bind ?_
    unfold fieldsOf
    refine wpAny_bind (wpAny_load hl ?_)
    rw [hd]
    refine wpAny_pure ?_
    have e1 : Builtin.Re.reTextOf (Value.str t tk) = pure (t.cps, 0) := rfl
    have e2 : Builtin.Re.reNoCollectionInside (Value.str t tk) 0 = pure () := rfl
    have c1 : ((Builtin.Re.reRawNat (fs.getD 6 Value.none) == 0 && (0 : Nat) == 1) = true) = False := by simp
    have c2 : ((Builtin.Re.reRawNat (fs.getD 6 Value.none) == 1 && (0 : Nat) == 0) = true) = False := by rw [hk]; simp
    simp only [e1, e2, pure_bind, c1, c2, if_false]
    refine wpAny_bind ?_
    rw [hc]
    unfold Builtin.Re.reRawItems
    refine wpAny_bind ?_
    show wpAny _ _ (do match (← load c).data with | .seq xs _ => pure (some xs) | _ => pure none) _ _ _
    refine wpAny_bind (wpAny_load hlc ?_)
    rw [hdc]
    refine wpAny_pure (wpAny_pure (wpAny_pure ?_))
    show wpAny _ _ (Builtin.Re.reAnswer _ (Sre.forSearch (((cs.map Builtin.Re.reRawOf).map (·.toNat))) t.cps _ _ (min (2 ^ 63 - 1 : Int).toNat t.cps.size) false)) _ _ _
    rw [hcs]
    have hS := search_said code t.cps (Builtin.Re.reRawNat (fs.getD 2 Value.none)) (min (Int.toNat 0) t.cps.size) (min (2 ^ 63 - 1 : Int).toNat t.cps.size) hop h4 (fun i hi => h i (Nat.lt_of_lt_of_le hi (Nat.min_le_right _ _)))
    unfold Builtin.Re.reAnswer
    refine wpAny_bind (runToEnd_said _ hS ?_)
    exact wpAny_pure ⟨_, rfl, hR⟩
theorem safe_at {t : Str} (h : Safe t) (i : Nat) (hi : i < t.cps.size) : 31 < t.cps.getD i 0 ∧ t.cps.getD i 0 ≠ 127 := by
  have e : t.cps.getD i 0 = t.cps[i] := by simp [hi]
  rw [e]
  exact h _ (Array.getElem_mem_toList hi)
theorem slot_search : Slot "re.Pattern" "search" "re.Pattern.search" :=
  .of (owner := "re.Pattern") (n := "search") (by rw [typeLookup_type, builtinLookup_eq_fast]; kernel_rfl) (by decide +kernel) (by decide +kernel) (by decide +kernel)
    (by first | exact .inl (by decide +kernel) | exact .inr (by decide +kernel)) (by rw [isSubtype_type]; kernel_rfl)
theorem entry_search : entryFor table "re.Pattern.search" = some Builtin.«re.Pattern.search» := entryFor_of_tree (by kernel_rfl)
theorem type_search : typeOf (.builtin "re.Pattern.search") = pure (.type "method_descriptor") := by show builtinType _ = _; rw [builtinType_eq_fast]; kernel_rfl
theorem plainAttrs_pattern : PlainAttrs "re.Pattern" :=
  ⟨⟨"object.__getattribute__", by rw [typeLookup_type, builtinLookup_eq_fast]; kernel_rfl, by decide +kernel⟩, by rw [typeLookup_type, builtinLookup_eq_fast]; kernel_rfl⟩
theorem owner_pattern : Manifest.owners.lookup (String.ofList ['n', 'r', 'e', 't', 't', 'a', 'P', '.', 'e', 'r'].reverse) = some Manifest.sig_re_Pattern := by kernel_rfl
theorem args_search (a b : Value) : argsOk "re.Pattern.search" ⟨[a, b], []⟩ := by
  unfold argsOk; rw [signature?_of (id := "re.Pattern.search") (n := ['h', 'c', 'r', 'a', 'e', 's']) (o := ['n', 'r', 'e', 't', 't', 'a', 'P', '.', 'e', 'r']) (by kernel_rfl) owner_pattern]; kernel_rfl
end
theorem calm_re_k : True := by w_top off; exact True.intro
section
theorem pat_of {K : Frag} {a c : Addr} {o : Obj} {fs : Array Value} (h : K.lookup a = some o) (h2 : o.data = .fields fs) (h3 : fs.getD 5 .none = .ref c) (h4 : Builtin.Re.reRawNat (fs.getD 6 .none) = 0) (h5 : o.cls = .type "re.Pattern") (h6 : o.dict = none) :
  ∃ o fs, K.lookup a = some o ∧ o.data = .fields fs ∧ fs.getD 5 .none = .ref c ∧ Builtin.Re.reRawNat (fs.getD 6 .none) = 0 ∧ o.cls = .type "re.Pattern" ∧ o.dict = none := ⟨o, fs, h, h2, h3, h4, h5, h6⟩
theorem cod_of {K : Frag} {c : Addr} {o : Obj} {cs : Array Value} {n : Nat} {code : Array Nat} (h : K.lookup c = some o) (h2 : o.data = .seq cs n) (h3 : (cs.map Builtin.Re.reRawOf).map (·.toNat) = code) :
  ∃ o cs n, K.lookup c = some o ∧ o.data = .seq cs n ∧ (cs.map Builtin.Re.reRawOf).map (·.toNat) = code := ⟨o, cs, n, h, h2, h3⟩
theorem pat_name (P : Params) : ∃ o fs, (hd01.heap_39 P).lookup 48 = some o ∧ o.data = .fields fs ∧ fs.getD 5 .none = .ref 47 ∧ Builtin.Re.reRawNat (fs.getD 6 .none) = 0 ∧ o.cls = .type "re.Pattern" ∧ o.dict = none := by
  refine' pat_of ?h ?h2 ?h3 ?h4 ?h5 ?h6
  (case h => k_is)
  (case h2 => exact rfl)
  (case h3 => exact rfl)
  (case h4 => exact rfl)
  (case h5 => exact rfl)
  (case h6 => exact rfl)
theorem pat_value (P : Params) : ∃ o fs, (hd01.heap_39 P).lookup 53 = some o ∧ o.data = .fields fs ∧ fs.getD 5 .none = .ref 52 ∧ Builtin.Re.reRawNat (fs.getD 6 .none) = 0 ∧ o.cls = .type "re.Pattern" ∧ o.dict = none := by
  refine' pat_of ?h ?h2 ?h3 ?h4 ?h5 ?h6
  (case h => k_is)
  (case h2 => exact rfl)
  (case h3 => exact rfl)
  (case h4 => exact rfl)
  (case h5 => exact rfl)
  (case h6 => exact rfl)
theorem cod_name (P : Params) : ∃ o cs n, (hd01.heap_39 P).lookup 47 = some o ∧ o.data = .seq cs n ∧ (cs.map Builtin.Re.reRawOf).map (·.toNat) = nameCode := by
  refine' cod_of ?h ?h2 ?h3
  (case h => k_is)
  (case h2 => exact rfl)
  (case h3 => simp [Builtin.Re.reRawOf])
theorem cod_value (P : Params) : ∃ o cs n, (hd01.heap_39 P).lookup 52 = some o ∧ o.data = .seq cs n ∧ (cs.map Builtin.Re.reRawOf).map (·.toNat) = valueCode := by
  refine' cod_of ?h ?h2 ?h3
  (case h => k_is)
  (case h2 => exact rfl)
  (case h3 => simp [Builtin.Re.reRawOf])
section
variable {prog : Program} {w : World} {A : Around} {E : Value → Shared → Prop} {s : Shared} {h₀ : Heap} {L : Addr} {m : Str → Option Value} {P : Params}
theorem search_method {name : Str} {a : Addr} {pl : Sem Bool} {Q : Value × List Value → Shared → Prop} (F : Fr h₀ L s.heap m) (X : (hd01.heap_39 P).In h₀) (hn : name = Str.ofString "search")
    (ha : ∃ o fs, (hd01.heap_39 P).lookup a = some o ∧ o.data = .fields fs ∧ o.cls = .type "re.Pattern" ∧ o.dict = none) (h : Q (.builtin "re.Pattern.search", [.ref a]) s) : wpAny (model prog w) A (getMethod (.ref a) name pl) Q E s := by
  subst hn
  obtain ⟨o, fs, hl, _, hc, hd⟩ := ha
  have z := F.keep _ _ (X _ _ hl)
  exact getMethod_builtin ⟨_, z, hc⟩ plainAttrs_pattern slot_search type_search (fun b e => by cases e; exact ⟨_, z, hd⟩) h
theorem search_run {a c : Addr} {code : Array Nat} {t : Str} {tk : Tok} {Q : Value → Shared → Prop} (F : Fr h₀ L s.heap m) (X : (hd01.heap_39 P).In h₀)
    (ha : ∃ o fs, (hd01.heap_39 P).lookup a = some o ∧ o.data = .fields fs ∧ fs.getD 5 .none = .ref c ∧ Builtin.Re.reRawNat (fs.getD 6 .none) = 0 ∧ o.cls = .type "re.Pattern" ∧ o.dict = none)
    (hc : ∃ o cs n, (hd01.heap_39 P).lookup c = some o ∧ o.data = .seq cs n ∧ (cs.map Builtin.Re.reRawOf).map (·.toNat) = code)
    (hop : Sre.ops[code.getD 0 0]? = some .INFO) (h4 : code.getD 2 0 = 4) (hs : ∀ i, i < t.cps.size → OutOf code (t.cps.getD i 0)) (h : Q .none s) : wpAny (model prog w) A (call (.builtin "re.Pattern.search") [.ref a, .str t tk]) Q E s := by
  obtain ⟨o, fs, hl, hd, h5, h6, hcl, hdi⟩ := ha
  obtain ⟨oc, cs, n, hlc, hdc, hcs⟩ := hc
  have z := F.keep _ _ (X _ _ hl)
  have zc := F.keep _ _ (X _ _ hlc)
  exact call_meets slot_search ⟨_, z, hcl⟩ entry_search (args_search _ _) (re_search_none a c t tk o oc fs cs n code hd h5 h6 hdc hcs hop h4 hs) ⟨z, zc, h⟩
theorem method_name {name : Str} {pl : Sem Bool} {Q : Value × List Value → Shared → Prop} (F : Fr h₀ L s.heap m) (X : (hd01.heap_39 P).In h₀) (hn : name = Str.ofString "search")
    (h : Q (.builtin "re.Pattern.search", [.ref 48]) s) : wpAny (model prog w) A (getMethod (.ref 48) name pl) Q E s :=
  search_method F X hn (let ⟨o, fs, a, b, _, _, c, d⟩ := pat_name P; ⟨o, fs, a, b, c, d⟩) h
theorem method_value {name : Str} {pl : Sem Bool} {Q : Value × List Value → Shared → Prop} (F : Fr h₀ L s.heap m) (X : (hd01.heap_39 P).In h₀) (hn : name = Str.ofString "search")
    (h : Q (.builtin "re.Pattern.search", [.ref 53]) s) : wpAny (model prog w) A (getMethod (.ref 53) name pl) Q E s :=
  search_method F X hn (let ⟨o, fs, a, b, _, _, c, d⟩ := pat_value P; ⟨o, fs, a, b, c, d⟩) h
theorem run_name {t : Str} {tk : Tok} {Q : Value → Shared → Prop} (F : Fr h₀ L s.heap m) (X : (hd01.heap_39 P).In h₀) (hs : Safe t) (h : Q .none s) : wpAny (model prog w) A (call (.builtin "re.Pattern.search") [.ref 48, .str t tk]) Q E s :=
  search_run F X (pat_name P) (cod_name P) rfl rfl (fun i hi => let z := safe_at hs i hi; out_name z.1 z.2) h
theorem run_value {t : Str} {tk : Tok} {Q : Value → Shared → Prop} (F : Fr h₀ L s.heap m) (X : (hd01.heap_39 P).In h₀) (hs : Safe t) (h : Q .none s) : wpAny (model prog w) A (call (.builtin "re.Pattern.search") [.ref 53, .str t tk]) Q E s :=
  search_run F X (pat_value P) (cod_value P) rfl rfl (fun i hi => let z := safe_at hs i hi; out_value z.1 z.2) h
end



theorem unrEnd_one {h₀ : Heap} {L I : Addr} {o : Obj} {rest : (Str → Option Value) → List (Addr × Obj) → Prop} {s₁ : Shared} {h' : Heap} {tk : Nat} {m' : Str → Option Value} {news' : List (Addr × Obj)} (F : Fr h₀ L h' m') (N : News h₀ L h' ((I, o) :: news')) (off : ∀ p ∈ news', p.1 ≠ I) (r : rest m' news') :
    UnrEndW h₀ L s₁ [(I, o)] rest { s₁ with heap := h', toks := tk } := ⟨h', tk, m', news', rfl, F, N, fun p hp q hq => by rw [List.mem_singleton.mp hq]; exact off p hp, r⟩
theorem allLt_off {d : Nat} : ∀ {r : List (Addr × Obj)}, AllLt d r → ∀ p ∈ r, p.1 ≠ d
  | [], _ => fun _ h => nomatch h
  | q :: r, h => fun p hp => by
    rcases List.mem_cons.mp hp with rfl | hp
    · exact Nat.ne_of_lt h.1
    · exact allLt_off h.2 p hp
theorem off_nil {I : Addr} : ∀ p ∈ ([] : List (Addr × Obj)), p.1 ≠ I := fun _ h => (List.not_mem_nil h).elim
abbrev hdDict (w : World) (D : Addr) (tt : Tok) : Obj := dictOf [{ hash := PyData.keyHash w.params (Str.ofString "_headers"), key := .str (Str.ofString "_headers") tt, val := .ref D }] 1
abbrev pairObj (k : Str) (u : Tok) (a : Str) (v : Tok) (n : Nat) : Obj := { cls := .type "tuple", data := .seq #[.str k u, .str a v] n }

theorem allLt_le {d b : Nat} {r : List (Addr × Obj)} (h : AllLt d r) (hb : d ≤ b) : ∀ p ∈ r, p.1 ≠ b := fun p hp => by
  induction r with
  | nil => exact (List.not_mem_nil hp).elim
  | cons q r ih =>
    rcases List.mem_cons.mp hp with rfl | hp
    · exact Nat.ne_of_lt (Nat.lt_of_lt_of_le h.1 hb)
    · exact ih h.2 hp
end
local macro_rules | `(tactic| walk_at "rest_cut") => `(tactic| first | exact allLt_le (by assumption) (by omega) | ((rename AllLt _ _ => hz9); clear hz9; walk_at "rest_cut") | ((fail_if_success (rename AllLt _ _ => hz9)); (rename (_ ∧ _) => hz9); (obtain ⟨_, hz8⟩ := hz9); walk_at "rest_cut"))
local macro_rules | `(tactic| walk_at "rest_off") => `(tactic| ((fail_if_success (refine List.forall_mem_cons.mpr ⟨?_, ?_⟩)); walk_at "rest_cut"))
local macro_rules | `(tactic| walk_at "getMethod ref") => `(tactic| ((k_here; (with_reducible show wpAny _ _ (getMethod (Value.ref _) (PySem.Str.ofString "search") _) _ _ _); k_dflt (first | (refine' method_name ?F ?X rfl ?_; (case F => k_asm); (case X => k_asm)) | (refine' method_value ?F ?X rfl ?_; (case F => k_asm); (case X => k_asm))))))
local macro_rules | `(tactic| walk_at "call builtin:re.Pattern.search") => `(tactic| ((k_here; k_dflt (first | (refine' run_name ?F ?X ?S ?_; (case F => k_asm); (case X => k_asm); (case S => (first | assumption | (unfold Safe; decide +kernel)))) | (refine' run_value ?F ?X ?S ?_; (case F => k_asm); (case X => k_asm); (case S => (first | assumption | (unfold Safe; decide +kernel))))))))
local macro_rules | `(tactic| walk_at "off_all") => `(tactic| first | exact allLt_off (by assumption) | exact off_nil | (refine List.forall_mem_cons.mpr ⟨?hd, ?tl⟩; (case hd => (first | exact Nat.ne_of_lt (by omega) | exact Nat.ne_of_gt (by omega))); (case tl => walk_at "off_all")))
local macro_rules | `(tactic| walk_at "UnrEndW") => `(tactic| (refine' unrEnd_one ?F ?N ?O ⟨?S, ?_⟩; (case F => k_asm); (case N => k_asm); (case O => walk_at "off_all"); (case S => k_subL)))
local macro_rules | `(tactic| k_all) => `(tactic| first | assumption | walk_at "rest_off")
local macro_rules | `(tactic| walk_at "off_all") => `(tactic| walk_at "rest_off")
theorem calm_rep_plain : True := by w_top off; exact True.intro
section
/-- one step of replace: x' is x with z for each y -/
structure Rep (x y z x' : Str) : Prop where
  e : Txt.join z (Txt.split x y) = x'
  w : ((Txt.split x y).map (·.length)).sum + (Txt.split x y).length ≤ 1048576
  l : x.length ≤ 1000000
  y : (y.length == 0) = false
  z : z.length ≤ 16
theorem rep_split {prog : Program} {w : World} {A : Around} {E : Value → Shared → Prop} {s : Shared} {h₀ : Heap} {L : Addr} {m : PySem.Str → Option Value} {news : List (Addr × Obj)} {x y z x' : PySem.Str} {t u : Tok} {Q : Value → Shared → Prop}
    (R : Rep x y z x') (hF : Fr h₀ L s.heap m) (hN : News h₀ L s.heap news)
    (h : ∀ D l h' k, l.map (·.1) = Txt.split x y → StrsAre (strValues l) (l.map (·.1)) → Fr h₀ L h' m → News h₀ L h' ((D, listOf (strValues l).toArray 0) :: news) → (∀ p ∈ news, p.1 < D) → Q (.ref D) { s with heap := h', toks := k }) :
    wpAny (model prog w) A (call (.builtin "str.split") [.str x t, .str y u]) Q E s :=
  KSpl.split1 hF hN R.y h (by have := R.l; rw [sizeLine_eq]; omega)
theorem rep_join {prog : Program} {w : World} {A : Around} {E : Value → Shared → Prop} {s : Shared} {x y z x' : PySem.Str} {t : Tok} {Q : Value → Shared → Prop} {D : Addr} {l : List (Str × Tok)}
    (hl : s.heap.IsList D (strValues l).toArray) (hi : StrsAre (strValues l) (l.map (·.1))) (e : l.map (·.1) = Txt.split x y) (R : Rep x y z x') (h : ∀ t' k, Q (.str x' t') { s with toks := k }) :
    wpAny (model prog w) A (call (.builtin "str.join") [.str z t, .ref D]) Q E s := by
  rw [e] at hi
  have := R.e
  subst this
  exact join_listW hl hi R.z R.w h
theorem tup_from {prog : Program} {w : World} {A : Around} {E : Value → Shared → Prop} {s : Shared} {h₀ : Heap} {L : Addr} {m : Str → Option Value} {news : List (Addr × Obj)} {value slice : PySem.Expr} {t : Addr} {vs : List Value} {k : Nat} {a : Int} {u : Tok} {Q : Value → Shared → Prop}
    (F : Fr h₀ L s.heap m) (N : News h₀ L s.heap news) (ht : (t, ({ cls := .type "tuple", data := .seq vs.toArray k } : Obj)) ∈ news) (h1 : 1 ≤ a) (ha : a.toNat ≤ vs.length)
    (h : ∀ D h', Fr h₀ L h' m → News h₀ L h' ((D, { cls := .type "tuple", data := .seq (vs.drop a.toNat).toArray }) :: news) → (∀ p ∈ news, p.1 < D) → Q (.ref D) { s with heap := h' })
    (hs : subscripted slice false (.ref t) (.ref s.heap.objs.size) = operate [.ref s.heap.objs.size, .ref t] (getItem (.ref t) (.ref s.heap.objs.size)))
    (hg : ∀ r, letTemporaryGo value (.ref t) r = pure ()) (hsz : vs.length ≤ sizeLine) :
    wpAny (model prog w) A (subscriptTail value slice (.ref t) (.ref s.heap.objs.size)) Q E { s with heap := s.heap.push { cls := .type "slice", data := .fields #[.int a u, .none, .none] } } := by
  obtain ⟨b, rfl⟩ := Int.eq_ofNat_of_zero_le (a := a) (by omega)
  refine slice_tuple_from F N (News.isTup N ht) (by omega) (by simpa using ha) (fun h' F' N' => h _ h' F' N' fun p hp => Nat.lt_succ_of_lt (Heap.lt_size (N p hp).1)) hs hg (by simpa using hsz)
end
theorem calm_hd_new : True := by w_top off; exact True.intro
section
local macro_rules | `(tactic| walk_at "idle") => `(tactic| fail)
local macro_rules | `(tactic| walk_at "idle") => `(tactic| fail)
local macro_rules | `(tactic| walk_at "idle") => `(tactic| fail)
section
local macro_rules | `(tactic| k_room) => `(tactic| ktr_room)
local macro_rules | `(tactic| walk_at "exec For Tuple Name cons nil") => `(tactic| (k_here; (rename Fr _ _ _ _ => lF'); (with_unfolding_all refine' For_turns lF' ?_; k_whole)))
theorem c_new (w : World) (p : Program) (loose : List Str) (mean : ExcName → Option Value) (mg mb : Str → Option Value)
  (dp un : Nat) (gd : Option (List Code)) (cn : Str) (cs : Scope) (a : Addr) (ccd : Value) (cl : List (Str × Addr)) (outer : List Env) (A₀ : Around) (base h₀ : Heap) (L : Addr) (m : Str → Option Value) (s : Shared) (Q E : Value → Shared → Prop) (rest : List (Addr × Obj))
  (hB : Below A₀ base outer h₀) (hF : Fr h₀ L s.heap m) (hX : (hd01.heap_39 w.params).In h₀) (hT : Top p loose mean mg mb h₀) (hk : cs.kind = .function)
  (hd : dp + 20 < recursionLimit) (hu : un + 100 < cLine)
  (D t1 t2 : Addr) (n n1 n2 : Nat) (k1 k2 a1 a2 : Str) (u1 u2 u3 u4 : Tok) (s1 : Safe k1) (s2 : Safe k2) (s3 : Safe a1) (s4 : Safe a2)
  (hNw : News h₀ L s.heap ((D, listOf #[.ref t1, .ref t2] n) :: (t1, pairObj k1 u1 a1 u2 n1) :: (t2, pairObj k2 u3 a2 u4 n2) :: rest))
  (hret : ∀ (r dx : Addr) (tt : Tok) (h' : Heap) (tk' : Nat), Fr h₀ L h' m → (∀ p ∈ (D, listOf #[.ref t1, .ref t2] n) :: (t1, pairObj k1 u1 a1 u2 n1) :: (t2, pairObj k2 u3 a2 u4 n2) :: rest, p.1 < dx) → dx < r →
    News h₀ L h' ((r, instObj 182 dx) :: (dx, hdDict w D tt) :: (D, listOf #[.ref t1, .ref t2] n) :: (t1, pairObj k1 u1 a1 u2 n1) :: (t2, pairObj k2 u3 a2 u4 n2) :: rest) → Q (.ref r) { s with heap := h', toks := tk' }) :
  wpAny (model PySem.Challenge.rw_pg0294_01.row.prog w) (ktrTop dp un gd cn cs L a ccd cl outer) (call (.ref 182) [.ref D]) Q E s := by
  k_here
  k_dflt (refine' call_cls ?k1 ?k2 ?k3 ?k4 ?k5 ?k6 ?_; (case k1 => k_asm); (case k2 => k_asm); (case k3 => k_asm); (case k4 => k_is); (case k5 => k_is); (case k6 => k_is))
  intro x' d' h' F' N' l1 l2
  have l0 := l1
  (try k_lt l1)
  (try k_lt2 l2)
  (try k_sweep)
  k_dflt ((refine' code_def ?k1 ?k2 ?k3 ?k4 ?k5 ?kA ?kF ?kK ?k6 ?k7 ?k8 ?k9 ?kB ?_ ?c2 ?c3 ?c4 ?c5; (case kA => exact rfl); (case kF => exact rfl); (case kK => first | exact rfl | assumption); (case k1 => k_asm); (case k2 => k_asm); (case k3 => k_asm); (case k4 => k_asm); (case k5 => k_asm); (case k6 => k_is); (case k7 => k_is); (case k8 => ktr_room); (case k9 => first | exact BindsTo.of_eq rfl | exact binds_K (by k_in) rfl (by k_is) rfl rfl rfl); (case c5 => decide); (case kB => exact locs rfl); (case c2 => exact rfl); (case c3 => exact rfl); (case c4 => exact rfl); k_whole; intro g' L' h' FG' F' N' B' X' T'; (try dsimp only); (try k_lift B'); (try k_fold)))
  k_steps
  refine' iter_listTurns (lo := listOf #[.ref t1, .ref t2] n) (vs := [.ref t1, .ref t2]) (by with_unfolding_all rfl) (by k_asm) (by k_asm) (by k_mem) rfl rfl ?_
  intro i' l3
  try k_lt l3
  have hr : AllLt i' rest := l3.2.2.2.2.2
  k_steps
  exact hret _ _ _ _ _ (by k_asm) l0 l2 (by k_asm)
end
end
theorem calm_mid : True := by w_top off; exact True.intro
section
def MidAt (h₀ : Heap) (L : Addr) (s : Shared) (P : (Str → Option Value) → List (Addr × Obj) → Prop) (f : Flow) (s' : Shared) : Prop :=
  f = .next ∧ ∃ h' tk' m' news', s' = { s with heap := h', toks := tk' } ∧ Fr h₀ L h' m' ∧ News h₀ L h' news' ∧ P m' news'
theorem mid_at {M : Model} {A : Around} {E : Value → Shared → Prop} {s : Shared} {h₀ : Heap} {L : Addr} {m : Str → Option Value} {t : Sem Flow} {Q : Flow → Shared → Prop} (_F : Fr h₀ L s.heap m) (P : (Str → Option Value) → List (Addr × Obj) → Prop)
    (h1 : wpAny M A t (MidAt h₀ L s P) E s) (h2 : ∀ h' tk' m' news', Fr h₀ L h' m' → News h₀ L h' news' → P m' news' → Q .next { s with heap := h', toks := tk' }) : wpAny M A t Q E s :=
  wpAny_mono h1 (fun f s' h => by
    obtain ⟨rfl, h', tk', m', news', rfl, F, N, p⟩ := h
    exact h2 h' tk' m' news' F N p) fun _ _ e => e
theorem MidAt.intro {h₀ : Heap} {L : Addr} {s : Shared} {P : (Str → Option Value) → List (Addr × Obj) → Prop} {h' : Heap} {tk' : Nat} {m' : Str → Option Value} {news' : List (Addr × Obj)} (F : Fr h₀ L h' m') (N : News h₀ L h' news') (p : P m' news') :
    MidAt h₀ L s P .next { s with heap := h', toks := tk' } := ⟨rfl, h', tk', m', news', rfl, F, N, p⟩
end
theorem calm_comp2 : True := by w_top off; exact True.intro
section
section
variable {prog : Program} {w : World} {A : Around} {E : Value → Shared → Prop} {R : Result → Shared → Prop} {s : Shared}
theorem compTurn_two0 (elt t1 i1 t2 i2 : PySem.Expr) (scope : Scope) (pos : Pos) (it acc : Value) (env : Env) :
    compTurn (.ListComp elt [⟨t1, i1, [], 0⟩, ⟨t2, i2, [], 0⟩] scope pos) 0 it acc env = (standAt i1.pos >>= fun _ => pyNext it >>= fun r => match r with
      | none => pure (.done .next)
      | some v => letOwnedTupleGo t1 it v >>= fun _ => assign t1 env v >>= fun _ =>
        eval i2 env >>= fun x => standAt i2.pos >>= fun _ => foldedSetIterable i2 env x >>= fun x => holding [x] (pyIter x) >>= fun j => runOwn (.compStart (.ListComp elt [⟨t1, i1, [], 0⟩, ⟨t2, i2, [], 0⟩] scope pos) 1 j acc env) env >>= fun _ =>
          again (.compLoop (.ListComp elt [⟨t1, i1, [], 0⟩, ⟨t2, i2, [], 0⟩] scope pos) 0 it acc env)) := by rfl
theorem compTurn_two1 (elt t1 i1 t2 i2 : PySem.Expr) (scope : Scope) (pos : Pos) (it acc : Value) (env : Env) :
    compTurn (.ListComp elt [⟨t1, i1, [], 0⟩, ⟨t2, i2, [], 0⟩] scope pos) 1 it acc env = (standAt i2.pos >>= fun _ => pyNext it >>= fun r => match r with
      | none => pure (.done .next)
      | some v => letOwnedTupleGo t2 it v >>= fun _ => assign t2 env v >>= fun _ =>
        (eval elt env >>= fun x => call (.builtin "list.append") [acc, x] >>= fun _ => pure ()) >>= fun _ =>
          again (.compLoop (.ListComp elt [⟨t1, i1, [], 0⟩, ⟨t2, i2, [], 0⟩] scope pos) 1 it acc env)) := by rfl
theorem compStart_two1 {elt t1 i1 t2 i2 scope pos it acc env}
    (h0 : codeAny (model prog w) A (.compLoop (.ListComp elt [⟨t1, i1, [], 0⟩, ⟨t2, i2, [], 0⟩] scope pos) 1 it acc env) R s)
    (h : wpAny (model prog w) A (pyIter it) (fun it' s' => codeAny (model prog w) A (.compLoop (.ListComp elt [⟨t1, i1, [], 0⟩, ⟨t2, i2, [], 0⟩] scope pos) 1 it' acc env) R s')
      (notedBy (model prog w) A env fun x s' => R (.error x) s') s) :
    codeAny (model prog w) A (.compStart (.ListComp elt [⟨t1, i1, [], 0⟩, ⟨t2, i2, [], 0⟩] scope pos) 1 it acc env) R s := by
  refine codeAny_of_tree ?_
  show wpAny _ _ ((compStart (.ListComp elt [⟨t1, i1, [], 0⟩, ⟨t2, i2, [], 0⟩] scope pos) 1 it acc env).onRaise (fun x => do noteFrame x env; standAt theWindowsPlace)) _ _ s
  refine wpAny_notedAt ?_
  unfold compStart
  show wpAny _ _ (ask >>= _) _ _ s
  refine wpAny_bind (wpAny_askSetting (wpAny_ite ?_))
  split
  · first
      | exact wpAny_bind (wpAny_pure (wpAny_pure (And.intro rfl h0)))
      | exact wpAny_pure (And.intro rfl h0)
  · first
      | exact wpAny_bind (wpAny_rule (wpAny_bind (wpAny_standAt (wpAny_bind (wpAny_mono h (fun it' s' h' => wpAny_pure (And.intro rfl h')) fun _ _ x => x)))))
      | (refine wpAny_bind (wpAny_rule ?_); show wpAny _ _ (standAt i2.pos >>= _) _ _ s; exact wpAny_bind (wpAny_standAt (wpAny_bind (wpAny_mono h (fun it' s' h' => wpAny_pure (And.intro rfl h')) fun _ _ x => x))))
theorem compLoop_two1 {elt t1 i1 t2 i2 : PySem.Expr} {scope : Scope} {pos : Pos} {it acc : Value} {env : Env} (I : Nat → Shared → Prop)
    (turn : ∀ n s, I n s → wpAny (model prog w) A (pyNext it) (fun r s₁ => match r with
      | none => R (.ok .next) s₁
      | some v => wpAny (model prog w) A (assign t2 env v) (fun _ s₂ => wpAny (model prog w) A (eval elt env) (fun x s₃ =>
          wpAny (model prog w) A (call (.builtin "list.append") [acc, x]) (fun _ s₄ => ∃ m, m < n ∧ I m s₄) (notedBy (model prog w) A env fun e s' => R (.error e) s') s₃)
          (notedBy (model prog w) A env fun e s' => R (.error e) s') s₂) (notedBy (model prog w) A env fun e s' => R (.error e) s') s₁) (notedBy (model prog w) A env fun e s' => R (.error e) s') s)
    (n : Nat) (h : I n s) (ht : ∀ v, letOwnedTupleGo t2 it v = pure ()) :
    codeAny (model prog w) A (.compLoop (.ListComp elt [⟨t1, i1, [], 0⟩, ⟨t2, i2, [], 0⟩] scope pos) 1 it acc env) R s := by
  refine codeAny_loop rfl I (fun n s hI => ?_) n h
  show wpAny _ _ ((compTurn (.ListComp elt [⟨t1, i1, [], 0⟩, ⟨t2, i2, [], 0⟩] scope pos) 1 it acc env).onRaise (fun x => do noteFrame x env; theTreesLotGoes x)) _ _ s
  refine wpAny_noted ?_
  rw [compTurn_two1]
  refine wpAny_bind (wpAny_standAt (wpAny_bind (wpAny_mono (turn n s hI) (fun r s₁ h₁ => ?_) fun _ _ h' => h')))
  cases r with
  | none => exact wpAny_pure h₁
  | some v =>
    refine wpAny_bind (wpAny_of_eq (ht v) ?_)
    exact wpAny_bind (wpAny_mono h₁ (fun _ s₂ h₂ => wpAny_bind (wpAny_bind (wpAny_mono h₂ (fun x s₃ h₃ => wpAny_bind (wpAny_mono h₃
      (fun _ s₄ h₄ => wpAny_pure (wpAny_pure ⟨rfl, h₄⟩)) fun _ _ h' => h')) fun _ _ h' => h'))) fun _ _ h' => h')
theorem compLoop_two0 {elt t1 i1 t2 i2 : PySem.Expr} {scope : Scope} {pos : Pos} {it acc : Value} {env : Env} (I : Nat → Shared → Prop)
    (turn : ∀ n s, I n s → wpAny (model prog w) A (pyNext it) (fun r s₁ => match r with
      | none => R (.ok .next) s₁
      | some v => wpAny (model prog w) A (assign t1 env v) (fun _ s₂ => wpAny (model prog w) A (eval i2 env) (fun x s₃ =>
          wpAny (model prog w) A (pyIter x) (fun j s₄ => ∀ R' : Result → Shared → Prop, (∀ f s₅, (∃ m, m < n ∧ I m s₅) → R' (.ok f) s₅) →
            codeAny (model prog w) (A.mark none) (.compStart (.ListComp elt [⟨t1, i1, [], 0⟩, ⟨t2, i2, [], 0⟩] scope pos) 1 j acc env) R' s₄) (notedBy (model prog w) A env fun e s' => R (.error e) s') s₃)
          (notedBy (model prog w) A env fun e s' => R (.error e) s') s₂) (notedBy (model prog w) A env fun e s' => R (.error e) s') s₁) (notedBy (model prog w) A env fun e s' => R (.error e) s') s)
    (n : Nat) (h : I n s) (ht : ∀ v, letOwnedTupleGo t1 it v = pure ()) (hf : ∀ x, foldedSetIterable i2 env x = pure x) :
    codeAny (model prog w) A (.compLoop (.ListComp elt [⟨t1, i1, [], 0⟩, ⟨t2, i2, [], 0⟩] scope pos) 0 it acc env) R s := by
  refine codeAny_loop rfl I (fun n s hI => ?_) n h
  show wpAny _ _ ((compTurn (.ListComp elt [⟨t1, i1, [], 0⟩, ⟨t2, i2, [], 0⟩] scope pos) 0 it acc env).onRaise (fun x => do noteFrame x env; theTreesLotGoes x)) _ _ s
  refine wpAny_noted ?_
  rw [compTurn_two0]
  refine wpAny_bind (wpAny_standAt (wpAny_bind (wpAny_mono (turn n s hI) (fun r s₁ h₁ => ?_) fun _ _ h' => h')))
  cases r with
  | none => exact wpAny_pure h₁
  | some v =>
    refine wpAny_bind (wpAny_of_eq (ht v) ?_)
    refine wpAny_bind (wpAny_mono h₁ (fun _ s₂ h₂ => wpAny_bind (wpAny_mono h₂ (fun x s₃ h₃ => wpAny_bind (wpAny_standAt (wpAny_bind (wpAny_of_eq (hf x) (wpAny_bind (wpAny_holding (wpAny_mono h₃ (fun j s₄ h₄ => ?_) fun _ _ h' => h'))))))) fun _ _ h' => h')) fun _ _ h' => h')
    refine wpAny_bind (wpAny_runOwn (h₄ _ ?_))
    intro f s₅ h₅
    exact wpAny_pure ⟨rfl, h₅⟩
end
end
theorem calm_comp2b : True := by w_top off; exact True.intro
section
def TupObj (o : Obj) : Prop := o.cls = .type "tuple" ∧ ∃ xs k, o.data = .seq xs k
def Sm (fp : List Addr) (h h' : Heap) : Prop := ∀ b o, (b ∈ fp ∨ TupObj o) → h.get? b = some o → h'.get? b = some o
theorem Sm.refl {fp : List Addr} {h : Heap} : Sm fp h h := fun _ _ _ e => e
theorem Sm.trans {fp : List Addr} {h h' h'' : Heap} (a : Sm fp h h') (b : Sm fp h' h'') : Sm fp h h'' := fun c o x e => b c o x (a c o x e)
theorem Sm.of {fp : List Addr} {h h' : Heap} (a : ∀ b o, h.get? b = some o → h'.get? b = some o) : Sm fp h h' := fun b o _ e => a b o e
theorem Sm.but {fp : List Addr} {h h' : Heap} {J : Addr} {oJ : Obj} (hJ : J ∉ fp) (eJ : h.get? J = some oJ) (nJ : ¬ TupObj oJ) (a : ∀ b o, b ≠ J → h.get? b = some o → h'.get? b = some o) : Sm fp h h' := fun b o x e =>
  a b o (by
    rintro rfl
    rcases x with x | x
    · exact hJ x
    · rw [e] at eJ; cases eJ; exact nJ x) e
theorem not_tup_dict {o : Obj} {es ep} (h : o.data = .dict es ep) : ¬ TupObj o := fun ⟨_, xs, k, e⟩ => by rw [h] at e; cases e
theorem not_tup_lst {ys : List Value} : ¬ TupObj (LCg.lst ys) := fun ⟨e, _⟩ => absurd (Value.type.inj e) (by decide)
theorem ns_not_tup {h : Heap} {C : Addr} {m : Str → Option Value} (x : h.Ns C m) : ∃ o, h.get? C = some o ∧ ¬ TupObj o := let ⟨o, es, ep, e, hd, r⟩ := x; ⟨o, e, not_tup_dict hd⟩
structure Outer (prog : Program) (w : World) (A : Around) (I : Addr) (fp wr : List Addr) (n : Nat) (P : Nat → Value → Heap → Prop) (St : Nat → Heap → Prop) : Prop where
  sub : ∀ b ∈ wr, b ∈ fp
  frame : ∀ i h h', St i h → Sm fp h h' → St i h'
  pframe : ∀ i v h h', P i v h → Sm fp h h' → P i v h'
  item : ∀ i (s : Shared) (Q : Option Value → Shared → Prop) (E : Value → Shared → Prop), i < n → St i s.heap →
    (∀ v h' tk, P i v h' → St (i + 1) h' → (∀ b o, b ∉ wr → s.heap.get? b = some o → h'.get? b = some o) → Q (some v) { s with heap := h', toks := tk }) → wpAny (model prog w) A (pyNext (.ref I)) Q E s
  done : ∀ (s : Shared) (Q : Option Value → Shared → Prop) (E : Value → Shared → Prop), St n s.heap →
    (∀ h' tk, (∀ b o, b ∉ wr → s.heap.get? b = some o → h'.get? b = some o) → Q none { s with heap := h', toks := tk }) → wpAny (model prog w) A (pyNext (.ref I)) Q E s
  self : ∀ i (s : Shared) (Q : Value → Shared → Prop) (E : Value → Shared → Prop), St i s.heap → Q (.ref I) s → wpAny (model prog w) A (pyIter (.ref I)) Q E s
theorem Outer.ofWalks {prog : Program} {w : World} {A : Around} {I : Addr} {fp wr : List Addr} {n : Nat} {P : Nat → Value → Prop} {St : Nat → Heap → Prop} (W : Walks prog w A I fp wr n P St) :
    Outer prog w A I fp wr n (fun i v _ => P i v) St where
  sub := W.sub
  frame := fun i h h' st x => W.frame i h h' st fun b hb o e => x b o (.inl hb) e
  pframe := fun _ _ _ _ p _ => p
  item := fun i s Q E hi st hQ => W.item i s Q E hi st fun v h' tk p st' k => hQ v h' tk p st' k
  done := W.done
  self := W.self
inductive Pairs (G : Value → Value → Prop) : List Value → List Value → Prop
  | nil : Pairs G [] []
  | cons {u z us zs} : G u z → Pairs G us zs → Pairs G (u :: us) (z :: zs)
theorem Pairs.snoc {G : Value → Value → Prop} {us zs : List Value} {u z : Value} (h : Pairs G us zs) (g : G u z) : Pairs G (us ++ [u]) (zs ++ [z]) := by
  induction h with
  | nil => exact .cons g .nil
  | cons a _ ih => exact .cons a ih
theorem Pairs.length {G : Value → Value → Prop} {us zs : List Value} (h : Pairs G us zs) : zs.length = us.length := by
  induction h with
  | nil => rfl
  | cons a _ ih => simp [ih]
theorem news_upd {h₀ h h' : Heap} {L D : Addr} {news : List (Addr × Obj)} (N : News h₀ L h news) (hs : ∀ b o, b ≠ D → h.get? b = some o → h'.get? b = some o) (off : ∀ p ∈ news, p.1 ≠ D) : News h₀ L h' news :=
  fun p hp => ⟨hs _ _ (off p hp) (N p hp).1, (N p hp).2⟩
section
variable {prog : Program} {w : World} {A : Around} {R : Result → Shared → Prop} {s : Shared} {h₀ : Heap} {L : Addr} {m : Str → Option Value} {env : Env}
theorem inner_all {elt t1 i1 i2 : PySem.Expr} {x y : Str} {py : Pos} {scope : Scope} {cl : List (Str × Addr)} {pos : Pos} {C D J l : Addr} {its ys : List Value} {v : Value} {G : Value → Value → Prop} {mC : Str → Option Value}
    {news : List (Addr × Obj)} {fp : List Addr} {St2 : Nat → Heap → Prop}
    (W2 : Walks prog w A J [J, l] [J] its.length (fun j u => its[j]? = some u) St2) (hJo : ∀ j h, St2 j h → ∃ o, h.get? J = some o ∧ ¬ TupObj o) (hst : St2 0 s.heap)
    (hyx : y ≠ x) (hx : scope.names.lookup y = some .local) (hkind : scope.kind = .function)
    (hJC : J ≠ C) (hJD : J ≠ D) (hlC : l ≠ C) (hlD : l ≠ D) (hCD : C ≠ D) (hCL : C ≠ L) (hDL : D ≠ L) (hJL : J ≠ L) (hC₀ : h₀.get? C = none) (hD₀ : h₀.get? D = none) (hJ₀ : h₀.get? J = none)
    (hCf : C ∉ fp) (hDf : D ∉ fp) (hJf : J ∉ fp) (offC : ∀ p ∈ news, p.1 ≠ C) (offD : ∀ p ∈ news, p.1 ≠ D) (offJ : ∀ p ∈ news, p.1 ≠ J)
    (F : Fr h₀ L s.heap m) (N : News h₀ L s.heap ((D, LCg.lst ys) :: news)) (hn : s.heap.Ns C mC) (hv : mC x = some v) (hsz : ys.length + its.length ≤ sizeLine)
    (helt : ∀ (E' : Value → Shared → Prop) (u : Value) (s' : Shared) (m₂ : Str → Option Value), u ∈ its → s'.heap.Ns C m₂ → m₂ x = some v → m₂ y = some u → Fr h₀ L s'.heap m → News h₀ L s'.heap news →
      wpAny (model prog w) A (eval elt (compEnvC scope cl C env)) (fun z s'' => G u z ∧ Keeps s' s'') E' s')
    (hR : ∀ h' tk zs m', Pairs G its zs → Fr h₀ L h' m → News h₀ L h' ((D, LCg.lst (ys ++ zs)) :: news) → h'.Ns C m' → Sm fp s.heap h' → R (.ok .next) { s with heap := h', toks := tk }) :
    codeAny (model prog w) A (.compStart (.ListComp elt [⟨t1, i1, [], 0⟩, ⟨.Name y py, i2, [], 0⟩] scope pos) 1 (.ref J) (.ref D) (compEnvC scope cl C env)) R s := by
  have loop : codeAny (model prog w) A (.compLoop (.ListComp elt [⟨t1, i1, [], 0⟩, ⟨.Name y py, i2, [], 0⟩] scope pos) 1 (.ref J) (.ref D) (compEnvC scope cl C env)) R s := by
    refine compLoop_two1
      (fun k s' => ∃ h' tk j zs m', s' = { s with heap := h', toks := tk } ∧ j ≤ its.length ∧ k = its.length + 1 - j ∧ Pairs G (its.take j) zs ∧ St2 j h' ∧ Fr h₀ L h' m ∧ h'.Ns C m' ∧ m' x = some v ∧
        News h₀ L h' ((D, LCg.lst (ys ++ zs)) :: news) ∧ Sm fp s.heap h') ?_ (its.length + 1)
      ⟨s.heap, s.toks, 0, [], mC, rfl, Nat.zero_le _, rfl, by rw [List.take_zero]; exact .nil, hst, F, hn, hv, by rw [List.append_nil]; exact N, .refl⟩ (fun _ => rfl)
    rintro k s' ⟨h', tk, j, zs, m', rfl, hj, rfl, hP, hst', F', hn', hv', N', S'⟩
    by_cases hlt : j < its.length
    · refine W2.item j _ _ _ hlt hst' fun u h₂ tk₂ hu hst₂ hk₂ => ?_
      obtain ⟨oJ, eJ, nJ⟩ := hJo _ _ hst'
      have hn₂ : h₂.Ns C m' := hn'.at' fun o e => hk₂ _ o (by simpa using Ne.symm hJC) e
      have S₂ : Sm fp s.heap h₂ := S'.trans (Sm.but hJf eJ nJ fun b o hb e => hk₂ b o (by simpa using hb) e)
      have N₂ : News h₀ L h₂ ((D, LCg.lst (ys ++ zs)) :: news) := news_upd N' (fun b o hb e => hk₂ b o (by simpa using hb) e) (List.forall_mem_cons.mpr ⟨Ne.symm hJD, offJ⟩)
      have F₂ : Fr h₀ L h₂ m := LCg.fr_but F' hk₂ (Ne.symm hJL) hJ₀
      refine wpAny_assign_Name (wpAny_storeName_local (lookup_relabel_local hx) hn₂ (fun h₃ hn₃ hs₃ => ?_) (by simp [compEnvC, relabel, hkind]))
      replace hs₃ : Heap.SameBut C h₂ h₃ := hs₃
      obtain ⟨oC, eC, nC⟩ := ns_not_tup hn₂
      have S₃ : Sm fp s.heap h₃ := S₂.trans (Sm.but hCf eC nC fun b o hb e => hs₃.extBut b o hb e)
      have N₃ : News h₀ L h₃ ((D, LCg.lst (ys ++ zs)) :: news) := news_upd N₂ (fun b o hb e => hs₃.extBut b o hb e) (List.forall_mem_cons.mpr ⟨Ne.symm hCD, offC⟩)
      have F₃ : Fr h₀ L h₃ m := F₂.change hs₃ hCL hC₀
      have hst₃ : St2 (j + 1) h₃ := W2.frame _ _ _ hst₂ fun b hb o e => hs₃.extBut b o (by rcases List.mem_cons.mp hb with rfl | hb; exact hJC; rw [List.mem_singleton.mp hb]; exact hlC) e
      refine wpAny_mono (helt _ u _ _ (List.mem_of_getElem? hu) hn₃ ((if_neg (Ne.symm hyx)).trans hv') (if_pos rfl) F₃ (fun p hp => N₃ p (.tail _ hp))) (fun z s₄ h₄ => ?_) fun _ _ e => e
      obtain ⟨g, h₄, tk₄, rfl, k₄⟩ := h₄
      have zD := k₄ _ _ (N₃ (D, LCg.lst (ys ++ zs)) (.head _)).1
      have hz := hP.length
      rw [List.length_take, Nat.min_eq_left hj] at hz
      refine append_at (hsz := by show (ys ++ zs).toArray.size ≤ sizeLine; rw [List.size_toArray, List.length_append]; omega) zD fun h₅ hs₅ hD₅ => ?_
      replace hs₅ : Heap.SameBut D h₄ h₅ := hs₅
      have N₄ : News h₀ L h₄ ((D, LCg.lst (ys ++ zs)) :: news) := fun p hp => ⟨k₄ _ _ (N₃ p hp).1, (N₃ p hp).2⟩
      refine ⟨its.length + 1 - (j + 1), by omega, h₅, tk₄, j + 1, zs ++ [z], (fun q => if q = y then some u else m' q), rfl, hlt, rfl, ?_, ?_, ?_, ?_, (if_neg (Ne.symm hyx)).trans hv', ?_, ?_⟩
      · have : its.take (j + 1) = its.take j ++ [u] := by rw [List.take_succ, hu]; rfl
        rw [this]; exact hP.snoc g
      · exact W2.frame _ _ _ hst₃ fun b hb o e => hs₅.extBut b o (by rcases List.mem_cons.mp hb with rfl | hb; exact hJD; rw [List.mem_singleton.mp hb]; exact hlD) (k₄ _ _ e)
      · exact (F₃.keeps k₄).change hs₅ hDL hD₀
      · exact (hn₃.at' fun o e => hs₅.extBut _ _ hCD (k₄ _ _ e))
      · intro p hp
        rcases List.mem_cons.mp hp with rfl | hp
        · refine ⟨hD₅.trans (congrArg some ?_), hDL, hD₀⟩
          rw [← List.append_assoc]
          exact LCg.lst_snoc (ys ++ zs) z
        · exact ⟨hs₅.extBut _ _ (offD p hp) (N₄ p (.tail _ hp)).1, (N₄ p (.tail _ hp)).2⟩
      · exact S₃.trans (Sm.trans (Sm.of k₄) (Sm.but hDf zD not_tup_lst fun b o hb e => hs₅.extBut b o hb e))
    · obtain rfl : j = its.length := Nat.le_antisymm hj (Nat.not_lt.mp hlt)
      obtain ⟨oJ, eJ, nJ⟩ := hJo _ _ hst'
      refine W2.done _ _ _ hst' fun h₂ tk₂ hk₂ => ?_
      rw [List.take_length] at hP
      exact hR h₂ tk₂ zs m' hP (LCg.fr_but F' hk₂ (Ne.symm hJL) hJ₀) (news_upd N' (fun b o hb e => hk₂ b o (by simpa using hb) e) (List.forall_mem_cons.mpr ⟨Ne.symm hJD, offJ⟩))
        (hn'.at' fun o e => hk₂ _ o (by simpa using Ne.symm hJC) e) (S'.trans (Sm.but hJf eJ nJ fun b o hb e => hk₂ b o (by simpa using hb) e))
  exact compStart_two1 loop (W2.self 0 _ _ _ hst loop)
end
end
theorem calm_comp2c : True := by w_top off; exact True.intro
section
theorem fr_wr {h₀ h h' : Heap} {L : Addr} {wr : List Addr} {m : Str → Option Value} (F : Fr h₀ L h m) (hk : ∀ b o, b ∉ wr → h.get? b = some o → h'.get? b = some o) (hw : ∀ b ∈ wr, h₀.get? b = none ∧ b ≠ L) : Fr h₀ L h' m :=
  ⟨F.ns.at' fun o e => hk L o (fun x => (hw L x).2 rfl) e, fun b o e => hk b o (fun hm => by rw [(hw b hm).1] at e; cases e) (F.keep b o e), F.above⟩
theorem news_wr {h₀ h h' : Heap} {L : Addr} {wr : List Addr} {news : List (Addr × Obj)} (N : News h₀ L h news) (hk : ∀ b o, b ∉ wr → h.get? b = some o → h'.get? b = some o) (off : ∀ p ∈ news, p.1 ∉ wr) : News h₀ L h' news :=
  fun p hp => ⟨hk _ _ (off p hp) (N p hp).1, (N p hp).2⟩
def SubSrc (news : List (Addr × Obj)) (h : Heap) (l : Addr) (its : List Value) : Prop := h.IsTuple l its.toArray ∨ ∃ k, (l, ({ cls := .type "list", data := .seq its.toArray k } : Obj)) ∈ news
structure TwoSrc (prog : Program) (w : World) (A : Around) (h₀ : Heap) (L : Addr) (m : Str → Option Value) (env : Env) (elt : PySem.Expr) (x : Str) (i2 : PySem.Expr) (y : Str) (scope : Scope) (cl : List (Str × Addr)) (news : List (Addr × Obj)) (s₂ : Shared)
    (I : Addr) (fp wr : List Addr) (n : Nat) (P : Nat → Value → Heap → Prop) (St : Nat → Heap → Prop) (Inv : Nat → List Value → Prop) (IR : Nat → Value → List Value → Prop) (G : Value → Value → Value → Prop) : Prop where
  W : Outer prog w A I fp wr n P St
  st : St 0 s₂.heap
  fpl : ∀ b ∈ fp, b < s₂.heap.objs.size
  wrl : ∀ b ∈ wr, h₀.get? b = none ∧ b ≠ L
  off : ∀ p ∈ news, p.1 ∉ wr
  F : Fr h₀ L s₂.heap m
  N : News h₀ L s₂.heap news
  i0 : Inv 0 []
  i1 : ∀ i v ys its zs, i < n → Inv i ys → IR i v its → Pairs (G v) its zs → Inv (i + 1) (ys ++ zs)
  sz : ∀ i v ys its, i < n → Inv i ys → IR i v its → ys.length + its.length ≤ sizeLine
  sub : ∀ C i v s' mC (E' : Value → Shared → Prop), i < n → P i v s'.heap → s'.heap.Ns C mC → mC x = some v → Fr h₀ L s'.heap m → News h₀ L s'.heap news →
    wpAny (model prog w) A (eval i2 (compEnvC scope cl C env)) (fun xv s'' => Keeps s' s'' ∧ ∃ l its, xv = .ref l ∧ IR i v its ∧ SubSrc news s''.heap l its) E' s'
  elt : ∀ C i v its u s' m₂ (E' : Value → Shared → Prop), i < n → IR i v its → u ∈ its → s'.heap.Ns C m₂ → m₂ x = some v → m₂ y = some u → Fr h₀ L s'.heap m → News h₀ L s'.heap news →
    wpAny (model prog w) (A.mark none) (eval elt (compEnvC scope cl C env)) (fun z s'' => G v u z ∧ Keeps s' s'') E' s'
section
variable {prog : Program} {w : World} {A : Around} {E : Value → Shared → Prop} {s : Shared} {h₀ : Heap} {L : Addr} {m : Str → Option Value} {env : Env}
theorem block_two {elt i1 i2 : PySem.Expr} {x y : Str} {px py : Pos} {scope : Scope} {cl : List (Str × Addr)} {pos : Pos} {s₂ : Shared} {I : Addr} {fp wr : List Addr} {n : Nat} {P : Nat → Value → Heap → Prop} {St : Nat → Heap → Prop}
    {Inv : Nat → List Value → Prop} {IR : Nat → Value → List Value → Prop} {G : Value → Value → Value → Prop} {news : List (Addr × Obj)} {RR : Value → Addr → Result → Shared → Prop}
    (T : TwoSrc prog w A h₀ L m env elt x i2 y scope cl news s₂ I fp wr n P St Inv IR G) (hh : (A.mark none).handled = none)
    (hcell : ∀ y ∈ scope.names, y.2 ≠ .cell) (hkind : scope.kind = .function) (hx : scope.names.lookup x = some .local) (hy : scope.names.lookup y = some .local) (hyx : y ≠ x) (hf : ∀ C v, foldedSetIterable i2 (compEnvC scope cl C env) v = pure v)
    (hRR : ∀ D C h tk m' ys, Inv n ys → Fr h₀ L h m → News h₀ L h ((D, LCg.lst ys) :: news) → (∀ p ∈ news, p.1 ≠ D) → h.Ns C m' → h₀.get? C = none → h₀.get? D = none → C ≠ L → D ≠ L → C ≠ D → (∀ p ∈ news, p.1 ≠ C) → RR (.ref D) C (.ok .next) { s₂ with heap := h, toks := tk }) :
    wpAny (model prog w) A (newList []) (fun acc s₃ => wpAny (model prog w) A (newFunctionEnv scope env.globals cl [] env.qual none .none (some env)) (fun cenv s₄ =>
      codeAny (model prog w) A (.compStart (.ListComp elt [⟨.Name x px, i1, [], 0⟩, ⟨.Name y py, i2, [], 0⟩] scope pos) 0 (.ref I) acc { cenv with scope := relabel scope env }) (RR acc cenv.locals) s₄) E s₃) E s₂ := by
  obtain ⟨W, hst, hfp, hwr, off, F, N, I0, I1, hsz, hsub, helt⟩ := T
  refine wpAny_newObj_type (wpAny_newFunctionEnv hcell (by intro y hy; simp at hy) (fun h₁ hns₁ hsb₁ => ?_) hkind)
  dsimp only at hns₁ hsb₁ ⊢
  generalize hH2 : s₂.heap.push { cls := .type "list", dict := none, data := .seq ([] : List Value).toArray } = H2 at hns₁ hsb₁ ⊢
  have hC : H2.objs.size = s₂.heap.objs.size + 1 := by rw [← hH2, Heap.size_push]
  have hDC : s₂.heap.objs.size ≠ H2.objs.size := by rw [hC]; exact Nat.ne_of_lt (Nat.lt_succ_self _)
  have below : ∀ b, b < s₂.heap.objs.size → b ≠ H2.objs.size ∧ b ≠ s₂.heap.objs.size := fun b hb => ⟨by rw [hC]; exact Nat.ne_of_lt (Nat.lt_succ_of_lt hb), Nat.ne_of_lt hb⟩
  have hDf : s₂.heap.objs.size ∉ fp := fun hm => Nat.lt_irrefl _ (hfp _ hm)
  have hCf : H2.objs.size ∉ fp := fun hm => by have := hfp _ hm; rw [hC] at this; exact Nat.lt_irrefl _ (Nat.lt_of_succ_lt this)
  have hDw : s₂.heap.objs.size ∉ wr := fun hm => hDf (W.sub _ hm)
  have hCw : H2.objs.size ∉ wr := fun hm => hCf (W.sub _ hm)
  have old : ∀ b o, s₂.heap.get? b = some o → h₁.get? b = some o := fun b o e => hsb₁.extBut b o (below b (Heap.lt_size e)).1 (Heap.get?_push_of_some _ (hH2 ▸ Heap.get?_push_of_some _ e))
  have hacc : h₁.get? s₂.heap.objs.size = some (LCg.lst []) := hsb₁.extBut _ _ hDC (Heap.get?_push_of_some _ (hH2 ▸ Heap.get?_push_size _ rfl))
  have hst₁ : St 0 h₁ := W.frame _ _ _ hst (Sm.of old)
  have fresh : ∀ a, s₂.heap.objs.size ≤ a → s₂.heap.get? a = none := fun a ha => by
    cases e : s₂.heap.get? a with
    | none => rfl
    | some o' => exact absurd (Heap.lt_size e) (Nat.not_lt.mpr ha)
  have fresh₀ : ∀ a, s₂.heap.objs.size ≤ a → h₀.get? a = none := fun a ha => by
    cases e : h₀.get? a with
    | none => rfl
    | some o' => have := F.keep a o' e; rw [fresh a ha] at this; cases this
  have hD₀ : h₀.get? s₂.heap.objs.size = none := fresh₀ _ (Nat.le_refl _)
  have hC₀ : h₀.get? H2.objs.size = none := fresh₀ _ (by rw [hC]; exact Nat.le_succ _)
  have hLlt : L < s₂.heap.objs.size := F.ns.lt
  have hDL : s₂.heap.objs.size ≠ L := Ne.symm (below L hLlt).2
  have hCL : H2.objs.size ≠ L := Ne.symm (below L hLlt).1
  have offD : ∀ p ∈ news, p.1 ≠ s₂.heap.objs.size := fun p hp => (below _ (Heap.lt_size (N p hp).1)).2
  have offC : ∀ p ∈ news, p.1 ≠ H2.objs.size := fun p hp => (below _ (Heap.lt_size (N p hp).1)).1
  have loop : ∀ s₃ : Shared, s₃ = { s₂ with heap := h₁, toks := s₂.toks + ([] : List (Str × Value)).length } →
      codeAny (model prog w) A (.compLoop (.ListComp elt [⟨.Name x px, i1, [], 0⟩, ⟨.Name y py, i2, [], 0⟩] scope pos) 0 (.ref I) (.ref s₂.heap.objs.size) (compEnvC scope cl H2.objs.size env))
        (RR (.ref s₂.heap.objs.size) H2.objs.size) s₃ := by
    rintro s₃ rfl
    refine compLoop_two0
      (fun k s' => ∃ h' tk i ys m', s' = { s₂ with heap := h', toks := tk } ∧ i ≤ n ∧ k = n + 1 - i ∧ Inv i ys ∧ St i h' ∧ Fr h₀ L h' m ∧ h'.Ns H2.objs.size m' ∧ News h₀ L h' ((s₂.heap.objs.size, LCg.lst ys) :: news)) ?_ (n + 1)
      ⟨h₁, _, 0, [], _, rfl, Nat.zero_le _, rfl, I0, hst₁, F.keeps old, hns₁, fun p hp => ?_⟩ (fun _ => rfl) (hf _)
    · rintro k s' ⟨h', tk, i, ys, m', rfl, hi, rfl, hI, hst', F', hn', N'⟩
      by_cases hlt : i < n
      · refine W.item i _ _ _ hlt hst' fun v h₂ tk₂ hPv hst₂ hk₂ => ?_
        refine wpAny_assign_Name (wpAny_storeName_local (lookup_relabel_local hx) (hn'.at' fun o e => hk₂ _ o hCw e) (fun h₃ hn₃ hs₃ => ?_) (by simp [compEnvC, relabel, hkind]))
        replace hs₃ : Heap.SameBut H2.objs.size h₂ h₃ := hs₃
        obtain ⟨oC, eC, nC⟩ := ns_not_tup (hn'.at' fun o e => hk₂ _ o hCw e)
        have S₃ : Sm fp h₂ h₃ := Sm.but hCf eC nC fun b o hb e => hs₃.extBut b o hb e
        have F₃ : Fr h₀ L h₃ m := (fr_wr F' hk₂ hwr).change hs₃ hCL hC₀
        have N₂ : News h₀ L h₂ ((s₂.heap.objs.size, LCg.lst ys) :: news) := news_wr N' hk₂ (List.forall_mem_cons.mpr ⟨hDw, off⟩)
        have N₃ : News h₀ L h₃ ((s₂.heap.objs.size, LCg.lst ys) :: news) := news_upd N₂ (fun b o hb e => hs₃.extBut b o hb e) (List.forall_mem_cons.mpr ⟨hDC, offC⟩)
        refine wpAny_mono (hsub _ i v _ _ _ hlt (W.pframe _ _ _ _ hPv S₃) hn₃ (if_pos rfl) F₃ (fun p hp => N₃ p (.tail _ hp))) (fun xv s₄ h₄ => ?_) fun _ _ e => e
        obtain ⟨⟨h₄, tk₄, rfl, k₄⟩, l, its, rfl, hIR, hsrc⟩ := h₄
        replace k₄ : ∀ b o, h₃.get? b = some o → h₄.get? b = some o := k₄
        replace hsrc : SubSrc news h₄ l its := hsrc
        have F₄ : Fr h₀ L h₄ m := F₃.keeps k₄
        have N₄ : News h₀ L h₄ ((s₂.heap.objs.size, LCg.lst ys) :: news) := N₃.grown k₄
        have hn₄ : h₄.Ns H2.objs.size _ := hn₃.keeps k₄
        have hst₄ : St (i + 1) h₄ := W.frame _ _ _ hst₂ (S₃.trans (Sm.of k₄))
        obtain ⟨oC4, eC4, nC4⟩ := ns_not_tup hn₄
        have zD := (N₄ (s₂.heap.objs.size, LCg.lst ys) (.head _)).1
        have hJC : h₄.objs.size ≠ H2.objs.size := Nat.ne_of_gt (Heap.lt_size eC4)
        have hJD : h₄.objs.size ≠ s₂.heap.objs.size := Nat.ne_of_gt (Heap.lt_size zD)
        have hJL : h₄.objs.size ≠ L := Nat.ne_of_gt F₄.ns.lt
        have hJ₀ : h₀.get? h₄.objs.size = none := by
          cases e : h₀.get? h₄.objs.size with
          | none => rfl
          | some o' => exact absurd (Heap.lt_size (F₄.keep _ _ e)) (Nat.lt_irrefl _)
        have hle : s₂.heap.objs.size ≤ h₄.objs.size := Nat.le_of_lt (Heap.lt_size zD)
        have hJf : h₄.objs.size ∉ fp := fun hm => Nat.lt_irrefl _ (Nat.lt_of_lt_of_le (hfp _ hm) hle)
        have offJ : ∀ p ∈ news, p.1 ≠ h₄.objs.size := fun p hp => Nat.ne_of_lt (Heap.lt_size (N₄ p (.tail _ hp)).1)
        have up : ∀ (o : Obj) b o', h₄.get? b = some o' → (h₄.push o).get? b = some o' := fun _ _ _ e => Heap.get?_push_of_some _ e
        have fin : ∀ (o : Obj) (St2 : Nat → Heap → Prop), (∀ A' : Around, A'.handled = none → Walks prog w A' h₄.objs.size [h₄.objs.size, l] [h₄.objs.size] its.length (fun j u => its[j]? = some u) St2) → (∀ j h, St2 j h → ∃ o, h.get? h₄.objs.size = some o ∧ ¬ TupObj o) → St2 0 (h₄.push o) →
            l ≠ H2.objs.size → l ≠ s₂.heap.objs.size → ∀ (R' : Result → Shared → Prop), (∀ f s₅, (∃ k', k' < n + 1 - i ∧ ∃ h' tk i ys m', s₅ = { s₂ with heap := h', toks := tk } ∧ i ≤ n ∧ k' = n + 1 - i ∧ Inv i ys ∧ St i h' ∧ Fr h₀ L h' m ∧ h'.Ns H2.objs.size m' ∧ News h₀ L h' ((s₂.heap.objs.size, LCg.lst ys) :: news)) → R' (.ok f) s₅) →
            codeAny (model prog w) (A.mark none) (.compStart (.ListComp elt [⟨.Name x px, i1, [], 0⟩, ⟨.Name y py, i2, [], 0⟩] scope pos) 1 (.ref h₄.objs.size) (.ref s₂.heap.objs.size) (compEnvC scope cl H2.objs.size env)) R' { s₂ with heap := h₄.push o, toks := tk₄ } := by
          intro o St2 W2 hJo hst2 hlC hlD R' hR'
          refine inner_all (G := G v) (W2 _ hh) hJo hst2 hyx hy hkind hJC hJD hlC hlD (Ne.symm hDC) hCL hDL hJL hC₀ hD₀ hJ₀ hCf hDf hJf offC offD offJ (F₄.push _) (N₄.grown (up o)) (hn₄.keeps (up o)) (if_pos rfl) (hsz i v ys its hlt hI hIR)
            (fun E' u s' m₂ hu a1 a2 a3 a4 a5 => helt _ i v its u s' m₂ E' hlt hIR hu a1 a2 a3 a4 a5) (fun h₅ tk₅ zs m₅ hP F₅ N₅ n₅ S₅ => ?_)
          refine hR' _ _ ⟨n + 1 - (i + 1), by omega, h₅, tk₅, i + 1, ys ++ zs, m₅, rfl, hlt, rfl, I1 i v ys its zs hlt hI hIR hP, ?_, F₅, n₅, N₅⟩
          exact W.frame _ _ _ hst₄ ((Sm.of (up o)).trans S₅)
        rcases hsrc with ht | ⟨kl, hm⟩
        · have hlt4 : l < h₄.objs.size := by obtain ⟨_, e, _⟩ := ht; exact Heap.lt_size e
          have hlC : l ≠ H2.objs.size := by
            rintro rfl
            obtain ⟨o, e, c, k, d⟩ := ht
            rw [eC4] at e; cases e
            exact nC4 ⟨c, _, k, d⟩
          have hlD : l ≠ s₂.heap.objs.size := by
            rintro rfl
            obtain ⟨o, e, c, k, d⟩ := ht
            rw [zD] at e; cases e
            exact not_tup_lst ⟨c, _, k, d⟩
          refine wpAny_pyIter_tuple ht ?_
          refine fin _ (fun i h => h.IsTupleIter h₄.objs.size l i ∧ h.IsTuple l its.toArray) (fun A' hA => ?_) (fun j h st => ?_) ⟨?_, ht.push _⟩ hlC hlD
          · have := Walks.tuple (prog := prog) (w := w) hA h₄.objs.size l (Nat.ne_of_lt hlt4) its.toArray
            simpa using this
          · obtain ⟨o, e, c, d⟩ := st.1
            exact ⟨o, e, fun ⟨c', _⟩ => by rw [c] at c'; exact absurd (Value.type.inj c') (by decide)⟩
          · exact ⟨_, Heap.get?_push_size _ rfl, rfl, rfl⟩
        · have hl4 : h₄.IsList l its.toArray := ⟨_, (N₄ _ (.tail _ hm)).1, rfl, _, rfl⟩
          have hlt4 : l < h₄.objs.size := by obtain ⟨_, e, _⟩ := hl4; exact Heap.lt_size e
          refine wpAny_pyIter_list hl4 ?_
          refine fin _ (fun i h => h.IsListIter h₄.objs.size l i ∧ h.IsList l its.toArray) (fun A' hA => ?_) (fun j h st => ?_) ⟨?_, hl4.push _⟩ (offC _ hm) (offD _ hm)
          · have := Walks.list (prog := prog) (w := w) hA h₄.objs.size l (Nat.ne_of_lt hlt4) its.toArray
            simpa using this
          · obtain ⟨o, e, c, d⟩ := st.1
            exact ⟨o, e, fun ⟨c', _⟩ => by rw [c] at c'; exact absurd (Value.type.inj c') (by decide)⟩
          · exact ⟨_, Heap.get?_push_size _ rfl, rfl, rfl⟩
      · obtain rfl : i = n := Nat.le_antisymm hi (Nat.not_lt.mp hlt)
        refine W.done _ _ _ hst' fun h₂ tk₂ hk₂ => ?_
        exact hRR _ _ h₂ tk₂ _ ys hI (fr_wr F' hk₂ hwr) (news_wr N' hk₂ (List.forall_mem_cons.mpr ⟨hDw, off⟩)) offD (hn'.at' fun o e => hk₂ _ o hCw e) hC₀ hD₀ hCL hDL (Ne.symm hDC) offC
    · rcases List.mem_cons.mp hp with rfl | hp
      · exact ⟨hacc, hDL, hD₀⟩
      · exact ⟨old _ _ (N p hp).1, (N p hp).2⟩
  exact codeAny_compStart_list (loop _ rfl) (W.self 0 _ _ _ hst₁ (loop _ rfl))
end
end
theorem calm_forl : True := by w_top off; exact True.intro
section
section
variable {prog : Program} {w : World} {A : Around} {E : Value → Shared → Prop} {s : Shared} {env : Env} {h₀ : Heap} {target : PySem.Expr} {body : List Stmt} {Q : Flow → Shared → Prop}
/-- what is left of a for over a list of the ledger; the iterator's data is told -/
def LRest (prog : Program) (w : World) (A : Around) (E : Value → Shared → Prop) (h₀ : Heap) (env : Env) (target : PySem.Expr) (body : List Stmt) (Q : Flow → Shared → Prop) (s : Shared) (I ax : Addr) (lo : Obj) : List Value → (Str → Option Value) → List (Addr × Obj) → Prop
  | [], m, news => ∀ h tk, Fr h₀ env.locals h m → News h₀ env.locals h news → Q .next { s with heap := h, toks := tk }
  | v :: r, m, news => ∀ h tk (o : Obj) (i : Int), o.cls = .type "list_iterator" → o.data = .fields #[.ref ax, .int i 0] → Fr h₀ env.locals h m → News h₀ env.locals h ((I, o) :: news) →
      wpAny (model prog w) A (assign target env v) (fun _ s₂ => wpAny (model prog w) A (execs body env) (UnrPostW h₀ env.locals { s with heap := h, toks := tk } [(I, o)] (fun m' n' => (ax, lo) ∈ n' ∧ LRest prog w A E h₀ env target body Q s I ax lo r m' n') Q) E s₂) E { s with heap := h, toks := tk }
theorem iter_lst {ax : Addr} {lo : Obj} {vs : List Value} {n : Nat} {m₀ : Str → Option Value} {news : List (Addr × Obj)}
    (hh : A.handled = none) (F : Fr h₀ env.locals s.heap m₀) (N : News h₀ env.locals s.heap news) (hm : (ax, lo) ∈ news) (hc : lo.cls = .type "list") (hd : lo.data = .seq vs.toArray n)
    (rest₀ : ∀ I : Addr, (∀ p ∈ news, p.1 < I) → LRest prog w A E h₀ env target body Q s I ax lo vs m₀ news) :
    wpAny (model prog w) A (pyIter (.ref ax)) (fun it s₂ => TurnsAt prog w A h₀ env target body Q E it s₂) E s := by
  have hax := N _ hm
  have hl : s.heap.IsList ax vs.toArray := ⟨lo, hax.1, hc, n, hd⟩
  have hlt : ax < s.heap.objs.size := Heap.lt_size hax.1
  have hI₀ : h₀.get? s.heap.objs.size = none := next_is_new F
  refine wpAny_pyIter_list hl ?_
  refine ⟨s.heap.objs.size, _, _, _, _, _, _, m₀, news, (fun i m₁ news₁ => (ax, lo) ∈ news₁ ∧ LRest prog w A E h₀ env target body Q s s.heap.objs.size ax lo (vs.drop i) m₁ news₁), rfl,
    KTurns.ofWalks (Walks.list hh s.heap.objs.size ax (Nat.ne_of_lt hlt) vs.toArray) (fun i v s Q E st q => letGo_listiter st.1 q), ?_, ?_, ?_, ⟨⟨_, Heap.get?_push_size _ rfl, rfl, rfl⟩, hl.push _⟩, F.push _, N.grown (fun _ _ e => Heap.get?_push_of_some _ e), ⟨hm, rest₀ _ fun p hp => Heap.lt_size (N p hp).1⟩, ?_, ?_⟩
  · intro h
    rcases List.mem_cons.mp h with e | e
    · exact absurd F.ns.lt (e ▸ Nat.lt_irrefl _)
    · exact hax.2.1 (List.mem_singleton.mp e).symm
  · intro b hb
    rw [List.mem_singleton.mp hb]
    exact hI₀
  · intro p hp hI
    exact absurd (Heap.lt_size (N p hp).1) ((List.mem_singleton.mp hI) ▸ Nat.lt_irrefl _)
  · intro i v m₁ news₁ h₁ tk₁ own hi hP hJ _ hown hget hall st F₁ N₁
    obtain ⟨hmem, hR⟩ := hJ
    obtain ⟨o, ho, hco, hdo⟩ := st.1
    have hdrop : vs.drop i = v :: vs.drop (i + 1) := by
      have hlt' : i < vs.length := by simpa using hi
      rw [List.drop_eq_getElem_cons hlt']
      have hv : vs[i]? = some v := by simpa using hP
      rw [List.getElem?_eq_getElem hlt'] at hv
      rw [Option.some.inj hv]
    rw [hdrop] at hR
    have mI : (s.heap.objs.size, o) ∈ own := hall _ (.head _) hI₀ o ho
    have N₂ : News h₀ env.locals h₁ ((s.heap.objs.size, o) :: news₁) := fun p hp => by
      rcases List.mem_cons.mp hp with rfl | hp
      · exact N₁ _ (List.mem_append_left _ mI)
      · exact N₁ _ (List.mem_append_right _ hp)
    have fin : ∀ s₃, UnrEndW h₀ env.locals { s with heap := h₁, toks := tk₁ } [(s.heap.objs.size, o)] (fun m' n' => (ax, lo) ∈ n' ∧ LRest prog w A E h₀ env target body Q s s.heap.objs.size ax lo (vs.drop (i + 1)) m' n') s₃ →
        LoopStepU h₀ env.locals [s.heap.objs.size] own (fun m' n' => (ax, lo) ∈ n' ∧ LRest prog w A E h₀ env target body Q s s.heap.objs.size ax lo (vs.drop (i + 1)) m' n') { s with heap := h₁, toks := tk₁ } .next s₃ := by
      rintro s₃ ⟨h', tk, m', news', e, F', N', hoff, hk', r⟩
      refine ⟨rfl, h', tk, m', news', e, F', fun p hp => ?_, fun p hp hI => hoff p hp _ (.head _) (List.mem_singleton.mp hI), hk', r⟩
      rcases List.mem_append.mp hp with hp | hp
      · have h2 := hget p hp
        rcases List.mem_cons.mp (hown p hp) with e1 | e1
        · have : p = (s.heap.objs.size, o) := by
            obtain ⟨pa, po⟩ := p
            have e2 : pa = s.heap.objs.size := e1
            subst e2
            have h3 : h₁.get? s.heap.objs.size = some po := h2
            rw [ho] at h3
            rw [Option.some.inj h3]
          rw [this]
          exact N' _ (.head _)
        · have : p = (ax, lo) := by
            obtain ⟨pa, po⟩ := p
            have e2 : pa = ax := List.mem_singleton.mp e1
            subst e2
            have h3 : h₁.get? pa = some po := h2
            rw [(N₁ _ (List.mem_append_right _ hmem)).1] at h3
            exact congrArg (Prod.mk pa) (Option.some.inj h3).symm
          rw [this]
          exact N' _ (List.mem_append_right _ hk')
      · exact N' _ (List.mem_append_right _ hp)
    refine wpAny_mono (hR h₁ tk₁ o _ hco hdo F₁ N₂) (fun _ s₂ h₂ => wpAny_mono h₂ (fun f s₃ p => ?_) fun _ _ e => e) fun _ _ e => e
    cases f with
    | ret v => exact .ret p
    | brk => exact .brk p
    | next => exact .next (fin _ p)
    | cont => exact .cont (fin _ p)
  · intro h' tk m' news' F' N' _ hJ
    have z : vs.drop vs.toArray.size = [] := List.drop_eq_nil_of_le (by simp)
    have hJ' := hJ.2
    rw [z] at hJ'
    exact hJ' h' tk F' N'
end
theorem code_off {h₀ h : Heap} {L I ax c : Addr} {o oc : Obj} {i : Int} {vsc : Array Value} {q : Str} {tq : Tok} {news : List (Addr × Obj)} (N : News h₀ L h news) (hI : (I, o) ∈ news) (hd : o.data = .fields #[.ref ax, .int i 0]) (hc : (c, oc) ∈ news) (hdc : oc.data = .fields vsc) (hv : vsc[1]? = some (.str q tq)) : c ≠ I := by
  rintro rfl
  have h1 := (N _ hI).1
  have h2 := (N _ hc).1
  rw [h1] at h2
  cases h2
  rw [hd] at hdc
  cases hdc
  simp at hv
/-- the tables with no more than their own codes behind them -/
theorem tabs_lean {h₀ h : Heap} {L I ax : Addr} {o : Obj} {i : Int} {l1 l2 : Int} {q1 q2 : Str} {p1 p2 : Array Value} {ex news : List (Addr × Obj)} (t1 : TabIn l1 q1 p1 ex) (t2 : TabIn l2 q2 p2 ex) {T1 T2 : Addr} (ho : ∀ p ∈ ex, p.1 ≠ T1 ∧ p.1 ≠ T2)
    (N : News h₀ L h news) (hs : ∀ p ∈ ex, p ∈ news) (hI : (I, o) ∈ news) (hd : o.data = .fields #[.ref ax, .int i 0]) :
    ∃ ex', TabIn l1 q1 p1 ex' ∧ TabIn l2 q2 p2 ex' ∧ (∀ p ∈ ex', p.1 ≠ T1 ∧ p.1 ≠ T2) ∧ (∀ p ∈ ex', p ∈ ex) ∧ ∀ p ∈ ex', p.1 ≠ I := by
  have one : ∀ {l : Int} {q : Str} {p : Array Value}, TabIn l q p ex → ∃ e, TabIn l q p e ∧ (∀ p ∈ e, p ∈ ex) ∧ ∀ p ∈ e, p.1 ≠ I := by
    intro l q p t
    rcases t with rfl | ⟨c, oc, vsc, tq, rfl, hm, hdt, hv⟩
    · exact ⟨[], .inl rfl, fun _ h => (List.not_mem_nil h).elim, fun _ h => (List.not_mem_nil h).elim⟩
    · refine ⟨[(c, oc)], .inr ⟨c, oc, vsc, tq, rfl, .head _, hdt, hv⟩, fun p hp => by rw [List.mem_singleton.mp hp]; exact hm, fun p hp => ?_⟩
      rw [List.mem_singleton.mp hp]
      exact code_off N hI hd (hs _ hm) hdt hv
  obtain ⟨e1, a1, b1, c1⟩ := one t1
  obtain ⟨e2, a2, b2, c2⟩ := one t2
  refine ⟨e1 ++ e2, a1.mono fun _ h => List.mem_append_left _ h, a2.mono fun _ h => List.mem_append_right _ h, fun p hp => ?_, fun p hp => ?_, fun p hp => ?_⟩
  · rcases List.mem_append.mp hp with h | h
    · exact ho p (b1 p h)
    · exact ho p (b2 p h)
  · rcases List.mem_append.mp hp with h | h
    · exact b1 p h
    · exact b2 p h
  · rcases List.mem_append.mp hp with h | h
    · exact c1 p h
    · exact c2 p h
theorem sub_pair {α : Type} {P : α → Prop} {x : α} {l : List α} (h : P x) (r : ∀ p ∈ l, P p) : ∀ p ∈ x :: l, P p := fun p hp => by
  rcases List.mem_cons.mp hp with rfl | hp
  · exact h
  · exact r p hp
theorem mem_pre {α : Type} {x a b c : α} {l : List α} (h : x ∈ [a, b, c]) : x ∈ a :: b :: c :: l := by
  simp only [List.mem_cons, List.not_mem_nil, or_false] at h ⊢
  rcases h with h | h | h
  · exact .inl h
  · exact .inr (.inl h)
  · exact .inr (.inr (.inl h))
theorem lrest_ind {prog : Program} {w : World} {A : Around} {E : Value → Shared → Prop} {s : Shared} {env : Env} {h₀ : Heap} {target : PySem.Expr} {body : List Stmt} {Q : Flow → Shared → Prop} {I ax : Addr} {lo : Obj} {α : Type} (f : α → Value) (OK : α → Prop) (INV : (Str → Option Value) → List (Addr × Obj) → Prop)
    (nil : ∀ m news, INV m news → LRest prog w A E h₀ env target body Q s I ax lo [] m news)
    (step : ∀ p vs, OK p → ∀ m news, INV m news → (∀ m' news', INV m' news' → LRest prog w A E h₀ env target body Q s I ax lo vs m' news') → LRest prog w A E h₀ env target body Q s I ax lo (f p :: vs) m news) :
    ∀ ps : List α, (∀ p ∈ ps, OK p) → ∀ m news, INV m news → LRest prog w A E h₀ env target body Q s I ax lo (ps.map f) m news
  | [], _, m, news, h => nil m news h
  | p :: ps, hp, m, news, h => step p _ (hp p (.head _)) m news h (lrest_ind f OK INV nil step ps fun q hq => hp q (.tail _ hq))
theorem not_ne {a b : List Int} (h : a = b) : (!decide (a = b)) = false := by rw [decide_eq_true h]; rfl
theorem leaf_pos {c : Bool} {D1 D2 : PyData} {v : Value} {s s' : Shared} (h : c = true) (hv : Carried v D1) (k : Keeps s s') : SeqLeaf (Carried v (if c = true then D1 else D2) ∧ Keeps s s') := SeqLeaf.intro ⟨by rw [if_pos h]; exact hv, k⟩
theorem leaf_neg {c : Bool} {D1 D2 : PyData} {v : Value} {s s' : Shared} (h : c = false) (hv : Carried v D2) (k : Keeps s s') : SeqLeaf (Carried v (if c = true then D1 else D2) ∧ Keeps s s') := SeqLeaf.intro ⟨by rw [if_neg (by rw [h]; decide)]; exact hv, k⟩
end
theorem calm_l1_seq : True := by w_top off; exact True.intro
section
/-- truth that may take new marks -/
def TruthTk (prog : Program) (w : World) (A : Around) (P : Nat → Value → Prop) (tr : Nat → Bool) : Prop :=
  ∀ i v (s : Shared) (Q : Bool → Shared → Prop) (E : Value → Shared → Prop), P i v → (∀ tk, Q (tr i) { s with toks := tk }) → wpAny (model prog w) A (truthy v) Q E s
section
variable {prog : Program} {w : World} {A : Around} {R : Result → Shared → Prop} {I : Addr} {fp wr : List Addr} {n : Nat} {P : Nat → Value → Prop} {St : Nat → Heap → Prop}
theorem all_loopT (W : Walks prog w A.in1 I fp wr n P St) (tr : Nat → Bool) (htr : TruthTk prog w A.in1 P tr) : ∀ (k i : Nat) (s : Shared), n - i = k → i ≤ n → St i s.heap →
    (∀ h' tk, (∀ b o, b ∉ wr → s.heap.get? b = some o → h'.get? b = some o) → R (.ok (.ret (.bool (((List.range n).drop i).all tr)))) { s with heap := h', toks := tk }) →
    codeAny (model prog w) A (.builtin "all.loop" ⟨[.ref I], []⟩) R s := by
  intro k
  induction k with
  | zero =>
    intro i s hk hi hst hR
    have hin : i = n := by omega
    subst hin
    refine codeAny_builtin F.entry_all_loop ?_
    rw [Around.under_plainId F.plain_all_loop _]
    show wpAny _ A.in1 (pyNext (.ref I) >>= _) _ _ s
    refine wpAny_bind (W.done s _ _ hst fun h' tk hk' => ?_)
    refine wpAny_bind (wpAny_rule (wpAny_pure ?_))
    have := hR h' tk hk'
    rw [List.drop_of_length_le (by simp)] at this
    exact this
  | succ k ih =>
    intro i s hk hi hst hR
    have hlt : i < n := by omega
    have hd : (List.range n).drop i = i :: (List.range n).drop (i + 1) := by
      rw [List.drop_eq_getElem_cons (by simpa using hlt)]; simp
    refine codeAny_builtin F.entry_all_loop ?_
    rw [Around.under_plainId F.plain_all_loop _]
    show wpAny _ A.in1 (pyNext (.ref I) >>= _) _ _ s
    refine wpAny_bind (W.item i s _ _ hlt hst fun v h' tk hP hst' hk' => ?_)
    refine wpAny_bind (wpAny_holding (htr i v _ _ _ hP fun tk2 => ?_))
    refine wpAny_bind (wpAny_letGo ?_)
    cases hb : tr i with
    | true =>
      simp only [if_true]
      refine wpAny_pure ⟨plainId_quiet F.plain_all_loop _, ih (i + 1) _ (by omega) hlt hst' fun h'' tk'' hk'' => ?_⟩
      have := hR h'' tk'' fun b o hbw e => hk'' b o hbw (hk' b o hbw e)
      rw [hd, List.all_cons, hb, Bool.true_and] at this
      exact this
    | false =>
      simp only [Bool.false_eq_true, if_false]
      refine wpAny_bind (wpAny_rule (wpAny_pure ?_))
      have := hR h' tk2 hk'
      rw [hd, List.all_cons, hb, Bool.false_and] at this
      exact this
end
section
variable {prog : Program} {w : World} {A : Around} {E : Value → Shared → Prop} {s : Shared} {h₀ : Heap} {L : Addr} {m : Str → Option Value} {news : List (Addr × Obj)}
theorem call_all_T {x : Value} {Q : Value → Shared → Prop}
    (h : wpAny (model prog w) A.in1 (pyIter x) (fun it s₂ => ∃ I fp wr n P St tr, it = .ref I ∧ Walks prog w A.in1 I fp wr n P St ∧ St 0 s₂.heap ∧ TruthTk prog w A.in1 P tr ∧
      ∀ h' tk, (∀ b o, b ∉ wr → s₂.heap.get? b = some o → h'.get? b = some o) → Q (.bool ((List.range n).all tr)) { s₂ with heap := h', toks := tk }) E s) :
    wpAny (model prog w) A (call (.builtin "all") [x]) Q E s := by
  refine call_function_tree F.kind_all F.plain_all F.entry_all (F.args_all1 _) ?_
  unfold Builtin.«all»
  refine wpAny_bind (m := oneArg "all" _) (wpAny_pure ?_)
  refine wpAny_bind (wpAny_mono h (fun it s₂ h₂ => ?_) fun _ _ e => e)
  obtain ⟨I, fp, wr, n, P, St, tr, rfl, W, hst, htr, hQ⟩ := h₂
  exact wpAny_pure ⟨plainId_quiet F.plain_all_loop _, all_loopT W tr htr n 0 s₂ rfl (Nat.zero_le _) hst fun h' tk hk => by simpa using hQ h' tk hk⟩
/-- all of a list of texts: none is empty -/
theorem all_strs {l : Addr} {vs : List Value} {ys : List Str} {Q : Value → Shared → Prop} (F : Fr h₀ L s.heap m) (N : News h₀ L s.heap news) (hh : A.handled = none) (hl : s.heap.IsList l vs.toArray) (hi : StrsAre vs ys) (hsz : ∀ y ∈ ys, y.length ≤ 1000)
    (h : ∀ h' tk, Fr h₀ L h' m → News h₀ L h' news → Q (.bool (ys.all fun y => decide (y.length ≠ 0))) { s with heap := h', toks := tk }) : wpAny (model prog w) A (call (.builtin "all") [.ref l]) Q E s := by
  have hlt : l < s.heap.objs.size := by obtain ⟨_, e, _⟩ := hl; exact Heap.lt_size e
  refine call_all_T (wpAny_pyIter_list hl ?_)
  refine ⟨s.heap.objs.size, [s.heap.objs.size, l], [s.heap.objs.size], vs.toArray.size, _, _, fun i => decide ((ys.getD i default).length ≠ 0), rfl, Walks.list (A := A.in1) hh _ l (Nat.ne_of_lt hlt) vs.toArray,
    ⟨⟨_, Heap.get?_push_size _ rfl, rfl, rfl⟩, hl.push _⟩, fun i v s' Q' E' hP hQ => ?_, fun h' tk hk => ?_⟩
  · obtain ⟨y, t, rfl, e⟩ := hi.item i v (by simpa using hP)
    have hz := hsz y (List.mem_of_getElem? e)
    have ey : ys.getD i default = y := by rw [List.getD_eq_getElem?_getD, e]; rfl
    dsimp only at hQ
    rw [ey] at hQ
    refine P.truthy_str (by omega) ?_
    have e2 : (((y.length : Int) != 0) : Bool) = decide (y.length ≠ 0) := by
      by_cases h0 : y.length = 0
      · simp [h0]
      · have : (y.length : Int) ≠ 0 := by omega
        simp [h0]
    rw [e2]
    exact hQ _
  · have e : ((List.range vs.toArray.size).all fun i => decide ((ys.getD i default).length ≠ 0)) = ys.all fun y => decide (y.length ≠ 0) := by
      rw [List.size_toArray, hi.len_eq]
      clear h hi hl
      induction ys with
      | nil => rfl
      | cons y r ih =>
        rw [List.length_cons, List.range_succ_eq_map, List.all_cons, List.all_cons, List.all_map, ← ih (fun z hz => hsz z (.tail _ hz))]
        rfl
    rw [e]
    exact h h' tk (F.keeps (LSm.kept_iter hk)) (N.grown (LSm.kept_iter hk))
def ltS (x y : Str) : Bool := decide (x.cps.toList < y.cps.toList)
def minS (ys : List Str) : Str := ys.getD (argBest (fun i j => ltS (ys.getD i default) (ys.getD j default)) (ys.length - 1)) default
theorem min_strs {l : Addr} {vs : List Value} {ys : List Str} {Q : Value → Shared → Prop} (hh : A.handled = none) (F : Fr h₀ L s.heap m) (N : News h₀ L s.heap news)
    (hl : s.heap.IsList l vs.toArray) (hi : StrsAre vs ys) (hne : 0 < ys.length)
    (h : ∀ h' (t : Tok) tk, Fr h₀ L h' m → News h₀ L h' news → Q (.str (minS ys) t) { s with heap := h', toks := tk }) :
    wpAny (model prog w) A (call (.builtin "min") [.ref l]) Q E s := by
  have hlt : l < s.heap.objs.size := by obtain ⟨_, e, _⟩ := hl; exact Heap.lt_size e
  refine call_min_walk (wpAny_pyIter_list hl ?_)
  refine ⟨s.heap.objs.size, [s.heap.objs.size, l], [s.heap.objs.size], vs.toArray.size, _, _, fun i j => ltS (ys.getD i default) (ys.getD j default), rfl, Walks.list (A := A.in1) hh _ l (Nat.ne_of_lt hlt) vs.toArray,
    ⟨⟨_, Heap.get?_push_size _ rfl, rfl, rfl⟩, hl.push _⟩, ?_, ?_, ?_, ?_⟩
  · intro b hb
    show b < (s.heap.push _).objs.size
    rw [Heap.size_push]
    rcases List.mem_cons.mp hb with rfl | hb
    · exact Nat.lt_succ_self _
    · rw [List.mem_singleton.mp hb]; exact Nat.lt_succ_of_lt hlt
  · rw [List.size_toArray, hi.len_eq]; exact hne
  · intro i j vi vj s' Q' E' h1 h2 hQ
    obtain ⟨y, t, rfl, e⟩ := hi.item i vi (by simpa using h1)
    obtain ⟨z, u, rfl, e2⟩ := hi.item j vj (by simpa using h2)
    have ey : ys.getD i default = y := by rw [List.getD_eq_getElem?_getD, e]; rfl
    have ez : ys.getD j default = z := by rw [List.getD_eq_getElem?_getD, e2]; rfl
    dsimp only at hQ
    rw [ey, ez] at hQ
    exact richCompare_gives (op := .Lt) (typeIs_str s' y t) (typeIs_str s' z u) PySem.F.slot_str_lt PySem.F.entry_str_lt (PySem.F.args_str_lt_2 _ _) (gives_str_lt y z t u) (fun e => nomatch e) hQ
  · intro v h' tk hP hk
    rw [List.size_toArray, hi.len_eq] at hP
    obtain ⟨y, t, rfl, e⟩ := hi.item _ v (by rw [← List.getElem?_toArray]; exact hP)
    have ey : minS ys = y := by unfold minS; rw [List.getD_eq_getElem?_getD, e]; rfl
    have := h h' t tk (F.keeps (LSm.kept_iter hk)) (N.grown (LSm.kept_iter hk))
    rw [ey] at this
    exact this
end
end
theorem calm_l1_ent : True := by w_top off; exact True.intro
section
abbrev ch (c : Nat) : Str := ⟨#[c]⟩
structure Ent where
  a : Addr
  k : Nat
  u : Tok
  v : Nat
  t : Tok
  n : Nat
  l : Nat
abbrev Ent.obj (e : Ent) : Obj := pairObj (ch e.k) e.u (ch e.v) e.t e.n
structure EntOk (e : Ent) : Prop where
  low : Txt.lower (ch e.k) = ch e.l
  val : e.v = 97 ∨ e.v = 98 ∨ e.v = 99
def entVals (es : List Ent) : List Value := es.map fun e => .ref e.a
def EntsIn (es : List Ent) (rest : List (Addr × Obj)) : Prop := ∀ e ∈ es, EntOk e ∧ (e.a, e.obj) ∈ rest
theorem EntsIn.mono {es : List Ent} {r r' : List (Addr × Obj)} (h : EntsIn es r) (s : ∀ p ∈ r, p ∈ r') : EntsIn es r' := fun e he => ⟨(h e he).1, s _ (h e he).2⟩
def onw (es : List Ent) (l : Nat) : List Nat := (es.filter fun e => decide (e.l = l)).map (·.v)
def LetsAre (vs : List Value) (cs : List Nat) : Prop := StrsAre vs (cs.map ch)
theorem LetsAre.snoc {vs : List Value} {cs : List Nat} {c : Nat} {t : Tok} (h : LetsAre vs cs) : LetsAre (vs ++ [.str (ch c) t]) (cs ++ [c]) := by
  unfold LetsAre at h ⊢
  rw [List.map_append]
  exact strsAre_append h (.cons _ _ .nil)
theorem ch_inj {a b : Nat} (h : ch a = ch b) : a = b := by
  have := congrArg (fun s : Str => s.cps.toList) h
  simpa using this
theorem ch_beq (a b : Nat) : (ch a == ch b) = decide (a = b) := by
  by_cases h : a = b
  · subst h; simp
  · have h2 : ch a ≠ ch b := fun e => h (ch_inj e)
    rw [decide_eq_false h]
    exact beq_eq_false_iff_ne.mpr h2
theorem onw_yes {pre : List Ent} {e : Ent} {l : Nat} (h : (ch e.l == ch l) = true) : onw (pre ++ [e]) l = onw pre l ++ [e.v] := by
  rw [ch_beq] at h
  unfold onw
  rw [List.filter_append, List.map_append]
  simp only [List.filter_cons, h, if_true, List.filter_nil, List.map_cons, List.map_nil]
theorem onw_no {pre : List Ent} {e : Ent} {l : Nat} (h : (ch e.l == ch l) = false) : onw (pre ++ [e]) l = onw pre l := by
  rw [ch_beq] at h
  unfold onw
  rw [List.filter_append, List.map_append]
  simp only [List.filter_cons, h, Bool.false_eq_true, if_false, List.filter_nil, List.map_nil, List.append_nil]
theorem pre_size {pre : List Ent} (e : Ent) : (pre ++ [e]).length = pre.length + 1 := by simp
theorem join_one {prog : Program} {w : World} {A : Around} {E : Value → Shared → Prop} {s : Shared} {D : Addr} {z : Str} {t u : Tok} {c : Nat} {Q : Value → Shared → Prop} (hl : s.heap.IsList D #[.str (ch c) u]) (hz : z.length ≤ 16) (h : ∀ t' k, Q (.str (ch c) t') { s with toks := k }) :
    wpAny (model prog w) A (call (.builtin "str.join") [.str z t, .ref D]) Q E s := by
  refine join_listW (ys := [ch c]) hl (.cons _ _ .nil) hz (by show (1 : Nat) + 0 + 1 ≤ 1048576; decide) ?_
  have e : Txt.join z [ch c] = ch c := by simp [Txt.join, Builtin.Str.glued]
  rw [e]
  exact h
theorem ent_push {es : List Ent} {e : Ent} : (entVals (es ++ [e])).toArray = (entVals es).toArray.push (.ref e.a) := by simp [entVals]
theorem allLt_lt {d : Nat} : ∀ {r : List (Addr × Obj)}, AllLt d r → ∀ p ∈ r, p.1 < d
  | [], _ => fun _ h => (List.not_mem_nil h).elim
  | q :: r, h => fun p hp => by
    rcases List.mem_cons.mp hp with rfl | hp
    · exact h.1
    · exact allLt_lt h.2 p hp
theorem add_news {h₀ h : Heap} {L : Addr} {t x1 x2 x3 pT pd pD : Addr × Obj} {rest : List (Addr × Obj)} (N : News h₀ L h (t :: x1 :: x2 :: x3 :: pT :: pd :: pD :: rest)) : News h₀ L h (pT :: pd :: pD :: t :: rest) := fun p hp => N p (by
  simp only [List.mem_cons] at hp ⊢
  rcases hp with h | h | h | h | h <;> simp [h])
end
theorem calm_l1_tools : True := by w_top off; exact True.intro
section
theorem comp_end {h₀ : Heap} {L I C D : Addr} {m : Str → Option Value} {s₁ : Shared} {oI oC oD : Obj} {S : List (Addr × Obj) → Prop} {rest : Value → List (Addr × Obj) → Prop} {y : Value} {h' : Heap} {tk : Nat} {news' : List (Addr × Obj)}
    (F : Fr h₀ L h' m) (N : News h₀ L h' ((I, oI) :: (C, oC) :: (D, oD) :: news')) (off : LCg.Off3 I C D news') (hS : S news') (r : rest y news') :
    LCg.CompEnd h₀ L m s₁ I oI C oC D oD S rest y { s₁ with heap := h', toks := tk } := ⟨h', tk, news', rfl, F, N, off, hS, r⟩
theorem news_ne {h₀ h : Heap} {L : Addr} {news : List (Addr × Obj)} (N : News h₀ L h news) {a b : Addr} {o o' : Obj} (hp : (a, o) ∈ news) (hq : (b, o') ∈ news) (hc : o.cls ≠ o'.cls) : @Ne Nat a b := fun e => hc (by
  have h1 : h.get? a = some o := (N _ hp).1
  have h2 : h.get? b = some o' := (N _ hq).1
  have e' : a = b := e
  rw [e', h2] at h1
  rw [Option.some.inj h1])
theorem lowerK {prog : Program} {w : World} {A : Around} {E : Value → Shared → Prop} {s : Shared} {x y : Str} {t : Tok} {Q : Value → Shared → Prop} (e : Txt.lower x = y) (hl : Builtin.Str.tooLong y.length = false) (h : ∀ t' k, Q (.str y t') { s with toks := k }) :
    wpAny (model prog w) A (call (.builtin "str.lower") [.str x t]) Q E s := KXw.lower e (by rw [e]; exact hl) h
theorem sub_cons {α : Type} {x : α} {l l' : List α} (hx : x ∈ l) (h : ∀ p ∈ l', p ∈ l) : ∀ p ∈ x :: l', p ∈ l := fun p hp => by
  rcases List.mem_cons.mp hp with rfl | hp
  · exact hx
  · exact h p hp
theorem news_sub {h₀ h : Heap} {L : Addr} {l l' : List (Addr × Obj)} (N : News h₀ L h l) (s : ∀ p ∈ l', p ∈ l) : News h₀ L h l' := fun p hp => N p (s p hp)
theorem ne_cls {h₀ h : Heap} {L : Addr} {news : List (Addr × Obj)} {a b : Addr} {o o' : Obj} {n n' : String} (N : News h₀ L h news) (hp : (a, o) ∈ news) (hq : (b, o') ∈ news) (c1 : o.cls = .type n) (c2 : o'.cls = .type n') (hn : n ≠ n') : a ≠ b := by
  rintro rfl
  have h1 := (N _ hp).1
  have h2 := (N _ hq).1
  rw [h1] at h2
  cases h2
  rw [c1] at c2
  exact hn (Value.type.inj c2)
theorem off_cons {I : Addr} {x : Addr × Obj} {l : List (Addr × Obj)} (h : x.1 ≠ I) (r : ∀ p ∈ l, p.1 ≠ I) : ∀ p ∈ x :: l, p.1 ≠ I := fun p hp => by
  rcases List.mem_cons.mp hp with rfl | hp
  · exact h
  · exact r p hp
theorem script_size {vs : List Value} {ns : List Int} (h : IntsAre vs ns) (h63 : ¬ ((63 : Nat) : Int) < (ns.length : Int)) : vs.length ≤ sizeLine := by
  rw [h.length, sizeLine_eq]; omega
theorem pick_head (l : List Value) (k : Nat) : kms_pick l none (some (k : Int)) = l.take k := by
  unfold kms_pick kms_lo kms_hi
  simp only [if_neg (show ¬ (k : Int) < 0 by omega), Int.toNat_natCast, List.drop_zero, Nat.sub_zero]
  rw [← List.take_eq_take_min]
theorem pick_tail (l : List Value) (k : Nat) : kms_pick l (some (k : Int)) none = l.drop k := by
  unfold kms_pick kms_lo kms_hi
  simp only [if_neg (show ¬ (k : Int) < 0 by omega), Int.toNat_natCast]
  rcases Nat.le_total k l.length with h | h
  · rw [Nat.min_eq_left h, List.take_of_length_le (by rw [List.length_drop]; exact Nat.le_refl _)]
  · rw [Nat.min_eq_right h, List.drop_eq_nil_of_le (Nat.le_refl _), List.drop_eq_nil_of_le h, List.take_nil]
theorem news_first {h₀ h : Heap} {L : Addr} {x : Addr × Obj} {l r : List (Addr × Obj)} (N : News h₀ L h (x :: l)) (s : ∀ p ∈ r, p ∈ x :: l) : News h₀ L h (x :: r) := fun p hp => by
  rcases List.mem_cons.mp hp with rfl | hp
  · exact N _ (.head _)
  · exact N _ (s p hp)
def Seen : Prop := True
theorem Seen.i : Seen := True.intro
theorem off1_all {D : Addr} : ∀ {l : List (Addr × Obj)}, LCg.Off1 D l → ∀ p ∈ l, p.1 ≠ D
  | [], _ => fun _ h => (List.not_mem_nil h).elim
  | q :: r, h => fun p hp => by
    rcases List.mem_cons.mp hp with rfl | hp
    · exact h.1
    · exact off1_all h.2 p hp
theorem all_off1 {D : Addr} : ∀ {l : List (Addr × Obj)}, (∀ p ∈ l, p.1 ≠ D) → LCg.Off1 D l
  | [], _ => trivial
  | q :: r, h => ⟨h q (.head _), all_off1 fun p hp => h p (.tail _ hp)⟩
theorem off3_all {I C D : Addr} {l : List (Addr × Obj)} (h : LCg.Off3 I C D l) : ∀ p ∈ l, p.1 ≠ I ∧ p.1 ≠ C ∧ p.1 ≠ D := h.mem
end
theorem calm_l1_kv : True := by w_top off; exact True.intro
section
theorem abc_size : (Str.ofString "abc").cps.size = 3 := by decide +kernel
theorem abc_at {i c : Nat} (hi : i < 3) (h : (Str.ofString "abc").cps[i]? = some c) : c = 97 + i := by
  have e : ∀ j : Fin 3, (Str.ofString "abc").cps[j.val]? = some (97 + j.val) := by decide +kernel
  have := e ⟨i, hi⟩
  rw [h] at this
  exact Option.some.inj this
theorem low_abc {i : Nat} (h : i < 3) : Txt.lower (ch (97 + i)) = ch (97 + i) := by
  have e : ∀ j : Fin 3, Txt.lower (ch (97 + j.val)) = ch (97 + j.val) := by decide +kernel
  exact e ⟨i, h⟩
theorem low_ABC {i : Nat} (h : i < 3) : Txt.lower (ch (65 + i)) = ch (97 + i) := by
  have e : ∀ j : Fin 3, Txt.lower (ch (65 + j.val)) = ch (97 + j.val) := by decide +kernel
  exact e ⟨i, h⟩
theorem safe_ch {c : Nat} (h : 31 < c ∧ c ≠ 127) : Safe (ch c) := fun d hd => by
  have : d = c := by simpa using hd
  rw [this]; exact h
/-- the first i letters' rows in a dict, their lists in the ledger -/
def KvOk (es : List Ent) (kvs : List (Str × Value)) (rest : List (Addr × Obj)) (i : Nat) : Prop :=
  kvs.length = i ∧ ∀ j, j < i → ∃ l vs n, kvs[j]? = some (ch (97 + j), .ref l) ∧ (l, listOf vs.toArray n) ∈ rest ∧ LetsAre vs (onw es (97 + j))
theorem KvOk.nil {es : List Ent} {rest : List (Addr × Obj)} : KvOk es [] rest 0 := ⟨rfl, fun _ h => absurd h (Nat.not_lt_zero _)⟩
theorem KvOk.step {es : List Ent} {kvs : List (Str × Value)} {rest : List (Addr × Obj)} {i l n : Nat} {vs : List Value} (h : KvOk es kvs rest i) (hv : LetsAre vs (onw es (97 + i))) :
    KvOk es (stored kvs (ch (97 + i)) (.ref l)) ((l, listOf vs.toArray n) :: rest) (i + 1) := by
  obtain ⟨hl, hk⟩ := h
  have hno : (kvs.any fun p => p.1 == ch (97 + i)) = false := by
    rw [List.any_eq_false]
    intro p hp
    obtain ⟨j, hj, e⟩ := List.mem_iff_getElem.mp hp
    obtain ⟨l', vs', n', e1, _⟩ := hk j (by omega)
    rw [List.getElem?_eq_getElem hj, e] at e1
    have := Option.some.inj e1
    rw [this]
    dsimp only
    rw [ch_beq, decide_eq_true_eq]
    omega
  have e : stored kvs (ch (97 + i)) (.ref l) = kvs ++ [(ch (97 + i), .ref l)] := by
    unfold stored
    have hno' : ¬ (kvs.any (fun p => decide (p.1 = ch (97 + i))) = true) := by
      rw [Bool.not_eq_true, List.any_eq_false]
      intro p hp
      rw [List.any_eq_false] at hno
      have := hno p hp
      simpa using this
    rw [if_neg (by simpa using hno')]
  refine ⟨by rw [e, List.length_append, hl]; rfl, fun j hj => ?_⟩
  rw [e]
  by_cases hji : j < i
  · obtain ⟨l', vs', n', e1, e2, e3⟩ := hk j hji
    exact ⟨l', vs', n', by rw [List.getElem?_append_left (by omega)]; exact e1, .tail _ e2, e3⟩
  · have : j = i := by omega
    subst this
    exact ⟨l, vs, n, by rw [List.getElem?_append_right (by omega), hl, Nat.sub_self]; rfl, .head _, hv⟩
theorem KvOk.look {es : List Ent} {kvs : List (Str × Value)} {rest : List (Addr × Obj)} (h : KvOk es kvs rest 3) {c : Nat} (hc : c = 97 ∨ c = 98 ∨ c = 99) :
    ∃ l vs n, valueAt kvs (ch c) = some (.ref l) ∧ (l, listOf vs.toArray n) ∈ rest ∧ LetsAre vs (onw es c) := by
  obtain ⟨hl, hk⟩ := h
  obtain ⟨l0, v0, n0, a0, b0, c0⟩ := hk 0 (by omega)
  obtain ⟨l1, v1, n1, a1, b1, c1⟩ := hk 1 (by omega)
  obtain ⟨l2, v2, n2, a2, b2, c2⟩ := hk 2 (by omega)
  have e : kvs = [(ch 97, .ref l0), (ch 98, .ref l1), (ch 99, .ref l2)] := by
    match kvs, hl with
    | [x, y, z], _ =>
      simp at a0 a1 a2
      rw [a0, a1, a2]
  subst e
  rcases hc with rfl | rfl | rfl
  · exact ⟨l0, v0, n0, rfl, b0, c0⟩
  · exact ⟨l1, v1, n1, rfl, b1, c1⟩
  · exact ⟨l2, v2, n2, rfl, b2, c2⟩
end
theorem calm_l1_getall : True := by w_top off; exact True.intro
section
local macro_rules | `(tactic| walk_at "idle") => `(tactic| fail)
local macro_rules | `(tactic| walk_at "idle") => `(tactic| fail)
local macro_rules | `(tactic| walk_at "idle") => `(tactic| fail)
section
local macro_rules | `(tactic| cell_enter) => `(tactic| (refine' code_defC ?k1 ?k2 ?k3 ?k4 ?k5 ?kA ?kF ?kK ?k6 ?k7 ?k8 ?k9 ?kB ?kD ?_ ?c2 ?c3 ?c4; (case kA => exact rfl); (case kF => exact rfl); (case kK => assumption); (case k1 => k_asm); (case k2 => k_asm); (case k3 => k_asm); (case k4 => k_asm); (case k5 => k_asm); (case k6 => k_is); (case k7 => k_is); (case k8 => ktr_room); (case k9 => exact BindsTo.of_eq rfl); (case kB => exact rfl); (case kD => decide +kernel); (case c2 => exact rfl); (case c3 => exact rfl); (case c4 => exact rfl); k_whole; intro g' L' h' tk' cells' FG' F' N' Y' B' X' T' l1; (try k_lt l1); k_cells Y'; (try simp only [List.cons_append, List.nil_append] at N'); (try dsimp only); (try k_lift B'); (try k_fold)))
local macro_rules | `(tactic| k_room) => `(tactic| ktr_room)
local macro_rules | `(tactic| walk_at "call builtin:str.lower") => `(tactic| (k_here; (with_reducible show wpAny _ _ (call (Value.builtin "str.lower") [Value.str _ _]) _ _ _); (refine lowerK (by assumption) (by show Builtin.Str.tooLong 1 = false; decide +kernel) ?_); intro _ _))
local macro_rules | `(tactic| walk_at "CompSrcT") => `(tactic| (refine Stop.mk ?_))
theorem c_getall (w : World) (p : Program) (loose : List Str) (mean : ExcName → Option Value) (mg mb : Str → Option Value)
  (dp un : Nat) (gd : Option (List Code)) (cn : Str) (cs : Scope) (a : Addr) (ccd : Value) (cl : List (Str × Addr)) (outer : List Env) (A₀ : Around) (base h₀ : Heap) (L : Addr) (m : Str → Option Value) (s : Shared) (Q E : Value → Shared → Prop) (rest : List (Addr × Obj))
  (hB : Below A₀ base outer h₀) (hF : Fr h₀ L s.heap m) (hX : (hd01.heap_39 w.params).In h₀) (hT : Top p loose mean mg mb h₀) (hk : cs.kind = .function)
  (hd : dp + 20 < recursionLimit) (hu : un + 100 < cLine)
  (T dx D : Addr) (n : Nat) (tt : Tok) (es : List Ent) (nm lm : Nat) (tn : Tok) (en : Txt.lower (ch nm) = ch lm) (sn : Safe (ch lm)) (hes : es.length ≤ 1000) (hE : EntsIn es rest)
  (hNw : News h₀ L s.heap ((T, instObj 182 dx) :: (dx, hdDict w D tt) :: (D, listOf (entVals es).toArray n) :: rest))
  (hret : ∀ (l' : Addr) (vs' : List Value) (h' : Heap) (tk' : Nat), LetsAre vs' (onw es lm) → (∀ p ∈ (T, instObj 182 dx) :: (dx, hdDict w D tt) :: (D, listOf (entVals es).toArray n) :: rest, p.1 ≠ l') → Fr h₀ L h' m → News h₀ L h' ((l', listOf vs'.toArray vs'.length) :: (T, instObj 182 dx) :: (dx, hdDict w D tt) :: (D, listOf (entVals es).toArray n) :: rest) → Q (.ref l') { s with heap := h', toks := tk' }) :
  wpAny (model PySem.Challenge.rw_pg0294_01.row.prog w) (ktrTop dp un gd cn cs L a ccd cl outer) (call (.ref 121) [.ref T, .str (ch nm) tn]) Q E s := by
  refine wpAny_call ?_
  k_dflt cell_enter
  k_steps
  refine Stop.out ?_
  refine Stop.out ?_
  rename News _ _ _ _ => kN
  refine LCt.CompSrcT.ledger (by rfl) (by k_asm) kN (by k_mem) (by rw [sizeLine_eq]; simp [entVals]; omega) ?_
  intro g9
  rw [show (entVals es).toArray.size = es.length from by simp [entVals]]
  refine' (?H : ∀ (r pre : List Ent) (ys : List Value), es = pre ++ r → LetsAre ys (onw pre lm) → LCt.CompRestT _ _ _ _ _ _ _ _ _ _ _ _ _ _ _ _ r.length pre.length ys _) es [] [] rfl .nil
  clear kN
  intro r
  induction r with
  | nil =>
    intro pre ys e1 hy
    refine LCt.CompRestT.zero ?_
    rw [List.append_nil] at e1
    subst e1
    k_steps
    rename News h₀ L _ _ => Nz
    rename (_ ≠ _ ∧ _) => o9
    exact hret _ _ _ _ hy (off1_all (l := (T, instObj 182 dx) :: (dx, hdDict w D tt) :: (D, listOf (entVals es).toArray n) :: rest) (by simp only [LCg.Off1]; exact o9.2)) (by k_asm) (fun p hp => Nz p (by
      rcases List.mem_cons.mp hp with rfl | hp
      · exact .head _
      · exact .tail _ (.tail _ hp)))
  | cons e r ih =>
    intro pre ys e1 hy
    refine LCt.CompRestT.succ ?_
    intro v I oI C oC D' m₂ h9 tk9 E' hv hC hx F9 N9 off ne
    simp only [LCg.Off3, and_true] at off
    have hev : v = .ref e.a := by
      subst e1
      simp [entVals] at hv
      exact hv.symm
    subst hev
    obtain ⟨hok, hm⟩ := hE e (by rw [e1]; simp)
    have hlo := hok.low
    have N8 := news_cons (x := (e.a, e.obj)) N9 (by repeat (first | exact hm | refine List.Mem.tail _ ?_))
    k_steps
    · rename_i hc
      have Z := ih (pre ++ [e]) (ys ++ [.str (ch e.v) e.t]) (by rw [e1]; simp) (by rw [onw_yes hc]; exact hy.snoc)
      rw [pre_size] at Z
      exact comp_end (by k_asm) N9 (by simp only [LCg.Off3, and_true]; exact off) (Or.inr ⟨_, by k_mem, rfl, _, rfl⟩) Z
    · rename_i hc
      have Z := ih (pre ++ [e]) ys (by rw [e1]; simp) (by rw [onw_no hc]; exact hy)
      rw [pre_size] at Z
      exact comp_end (by k_asm) N9 (by simp only [LCg.Off3, and_true]; exact off) (Or.inr ⟨_, by k_mem, rfl, _, rfl⟩) Z
end
end
theorem calm_l1_add : True := by w_top off; exact True.intro
section
local macro_rules | `(tactic| walk_at "idle") => `(tactic| fail)
local macro_rules | `(tactic| walk_at "idle") => `(tactic| fail)
local macro_rules | `(tactic| walk_at "idle") => `(tactic| fail)
local macro_rules | `(tactic| walk_at "idle") => `(tactic| fail)
local macro_rules | `(tactic| walk_at "idle") => `(tactic| fail)
section
local macro_rules | `(tactic| k_room) => `(tactic| ktr_room)
local macro_rules | `(tactic| cell_enter) => `(tactic| (refine' kp_more ?k1 ?k2 ?k3 ?k4 ?k5 ?kA ?kF ?kK ?k6 ?k7 ?k8 ?kX ?kM ?kN ?kD ?kR ?kP ?kT ?kB ?_ ?c2 ?c3 ?c4 ?c5; (case kA => exact rfl); (case kF => exact rfl); (case kK => assumption); (case k1 => k_asm); (case k2 => k_asm); (case k3 => k_asm); (case k4 => k_asm); (case k5 => k_asm); (case k6 => k_is); (case k7 => k_is); (case k8 => k_room); (case kX => kp_lit); (case kM => exact rfl); (case kN => exact rfl); (case kD => kp_flats); (case kR => exact rfl); (case kP => exact rfl); (case kT => exact fun _ => rfl); (case kB => exact fun _ => locs rfl); (case c5 => decide); (case c2 => exact rfl); (case c3 => exact rfl); (case c4 => exact rfl); k_whole; intro D' o' g' L' h' tk' l1 lo' hs' fs' FG' F' N' B' X' T'; (try k_lt l1); (try dsimp only); (try k_lift B'); (try k_fold)))
local macro_rules | `(tactic| walk_at "exec For Tuple Call cons nil") => `(tactic| ((fail_if_success (rename Seen => hs9)); refine Stop.mk ?_))
theorem c_add (w : World) (p : Program) (loose : List Str) (mean : ExcName → Option Value) (mg mb : Str → Option Value)
  (dp un : Nat) (gd : Option (List Code)) (cn : Str) (cs : Scope) (a : Addr) (ccd : Value) (cl : List (Str × Addr)) (outer : List Env) (A₀ : Around) (base h₀ : Heap) (L : Addr) (m : Str → Option Value) (s : Shared) (Q E : Value → Shared → Prop) (rest : List (Addr × Obj))
  (hB : Below A₀ base outer h₀) (hF : Fr h₀ L s.heap m) (hX : (hd01.heap_39 w.params).In h₀) (hT : Top p loose mean mg mb h₀) (hk : cs.kind = .function)
  (hd : dp + 20 < recursionLimit) (hu : un + 100 < cLine)
  (T dx D : Addr) (n : Nat) (tt : Tok) (es : List Ent) (nm lm lt : Nat) (tn tv : Tok) (en : Txt.lower (ch nm) = ch lm) (ev : lt = 97 ∨ lt = 98 ∨ lt = 99) (sn : Safe (ch nm)) (sv : Safe (ch lt)) (hes : es.length ≤ 1000) (hE : EntsIn es rest)
  (hneD : ∀ p ∈ rest, p.1 ≠ D)
  (hNw : News h₀ L s.heap ((T, instObj 182 dx) :: (dx, hdDict w D tt) :: (D, listOf (entVals es).toArray n) :: rest))
  (hret : ∀ (e : Ent) (n' : Nat) (h' : Heap) (tk' : Nat), e.k = nm → e.l = lm → e.v = lt → EntOk e → D < e.a → (∀ p ∈ (T, instObj 182 dx) :: (dx, hdDict w D tt) :: (D, listOf (entVals es).toArray n) :: rest, p.1 < e.a) → Fr h₀ L h' m → News h₀ L h' ((T, instObj 182 dx) :: (dx, hdDict w D tt) :: (D, listOf (entVals (es ++ [e])).toArray n') :: (e.a, e.obj) :: rest) → Q .none { s with heap := h', toks := tk' }) :
  wpAny (model PySem.Challenge.rw_pg0294_01.row.prog w) (ktrTop dp un gd cn cs L a ccd cl outer) (call (.ref 179) [.ref T, .str (ch nm) tn, .str (ch lt) tv]) Q E s := by
  have d1 := news_ne (a := D) (b := T) hNw (.tail _ (.tail _ (.head _))) (.head _) (by intro e; cases e)
  have d2 := news_ne (a := D) (b := dx) hNw (.tail _ (.tail _ (.head _))) (.tail _ (.head _)) (by intro e; exact absurd (Value.type.inj e) (by decide))
  have lE : ∀ p ∈ (T, instObj 182 dx) :: (dx, hdDict w D tt) :: (D, listOf (entVals es).toArray n) :: rest, p.1 < s.heap.objs.size := fun p hp => Heap.lt_size (hNw p hp).1
  refine wpAny_call ?_
  k_dflt cell_enter
  k_steps
  have sn9 := Seen.i
  rename News _ _ _ _ => kN
  have q9 : D < _ := Heap.lt_size (kN (D, _) (by k_mem)).1
  refine Stop.out ?_
  k_steps
  refine join_one (News.isList (by k_asm) (by k_mem)) (by decide) ?_
  intro jt jk
  k_steps
  refine' append_K (its := (entVals es).toArray) (n := n) ?Fa ?Na ?Ua ?_ ?za
  (case Fa => k_asm)
  (case Na => k_asm)
  (case Ua => exact .tail (Nat.ne_of_gt (by omega)) (.tail (Nat.ne_of_gt q9) (.tail (Nat.ne_of_gt (by omega)) (.tail (Nat.ne_of_gt (by omega)) (.tail (Ne.symm d1) (.tail (Ne.symm d2) (.head hneD)))))))
  (case za => rw [sizeLine_eq]; simp [entVals]; omega)
  intro h9 F9 N9
  (try dsimp only)
  k_steps
  rename News h₀ L _ _ => Nz
  rename (_ < _ ∧ _) => lA
  have l3 := lA.2.2.2
  refine hret ⟨_, nm, tn, lt, jt, 0, lm⟩ (n + 1) _ _ rfl rfl rfl ⟨en, ev⟩ l3.2.2.1 (List.forall_mem_cons.mpr ⟨l3.1, List.forall_mem_cons.mpr ⟨l3.2.1, List.forall_mem_cons.mpr ⟨l3.2.2.1, allLt_lt l3.2.2.2⟩⟩⟩) (by k_asm) ?_
  rw [ent_push]
  exact add_news Nz
end
end
theorem calm_l1_rep : True := by w_top off; exact True.intro
section
local macro_rules | `(tactic| walk_at "idle") => `(tactic| fail)
local macro_rules | `(tactic| walk_at "idle") => `(tactic| fail)
local macro_rules | `(tactic| walk_at "idle") => `(tactic| fail)
section
local macro_rules | `(tactic| k_room) => `(tactic| ktr_room)
local macro_rules | `(tactic| walk_at "exec While") => `(tactic| (k_here; k_dflt (refine whl_start 100 ?_)))
local macro_rules | `(tactic| is_list) => `(tactic| exact News.isList (by k_asm) (by k_mem))
local macro_rules | `(tactic| walk_at "call builtin:str.split") => `(tactic| (k_here; (refine rep_split (by assumption) (by k_asm) (by k_asm) ?_); intro D' l' h' k' e' a' F' N' l1; (try k_lt l1)))
local macro_rules | `(tactic| walk_at "call builtin:str.join") => `(tactic| (k_here; (refine rep_join (by is_list) (by assumption) (by assumption) (by assumption) ?_); intro _ _))
local macro_rules | `(tactic| walk_at "subscriptTail Name Slice ref ref") => `(tactic| (k_here; (with_reducible show wpAny _ _ (subscriptTail _ _ (Value.ref _) (Value.ref _)) _ _ _); k_dflt (refine' tup_from ?F ?N ?l ?p ?q ?_ ?s ?t ?z; (case F => k_asm); (case N => k_asm); (case l => k_mem); (case p => decide); (case q => exact Nat.le_of_ble_eq_true rfl); (case s => with_unfolding_all rfl); (case t => kmk_pure); (case z => exact Nat.le_of_ble_eq_true rfl)); intro D' h' F' N' l1; (try k_lt l1); (try dsimp only [List.drop, Int.toNat])))
local macro_rules | `(tactic| cell_enter) => `(tactic| ((refine' kp_rest ?k1 ?k2 ?k3 ?k4 ?k5 ?kA ?kF ?kK ?k6 ?k7 ?k8 ?kV ?kP ?kG ?kB ?_ ?c2 ?c3 ?c4 ?c5; (case kA => exact rfl); (case kF => exact rfl); (case kK => assumption); (case k1 => k_asm); (case k2 => k_asm); (case k3 => k_asm); (case k4 => k_asm); (case k5 => k_asm); (case k6 => k_is); (case k7 => k_is); (case k8 => k_room); (case kV => kl_lit); (case kP => exact rfl); (case kG => exact fun _ => rfl); (case kB => exact fun _ => locs rfl); (case c5 => decide); (case c2 => exact rfl); (case c3 => exact rfl); (case c4 => exact rfl); k_whole; intro D' g' L' h' l1 FG' F' N' B' X' T'; (try k_lt l1); (try dsimp only); (try k_lift B'); (try k_fold))))
theorem c_rep1 (w : World) (p : Program) (loose : List Str) (mean : ExcName → Option Value) (mg mb : Str → Option Value)
  (dp un : Nat) (gd : Option (List Code)) (cn : Str) (cs : Scope) (a : Addr) (ccd : Value) (cl : List (Str × Addr)) (outer : List Env) (A₀ : Around) (base h₀ : Heap) (L : Addr) (m : Str → Option Value) (s : Shared) (Q E : Value → Shared → Prop) (rest : List (Addr × Obj))
  (hB : Below A₀ base outer h₀) (hF : Fr h₀ L s.heap m) (hX : (hd01.heap_39 w.params).In h₀) (hT : Top p loose mean mg mb h₀) (hk : cs.kind = .function)
  (hd : dp + 20 < recursionLimit) (hu : un + 100 < cLine)
  (x y z x' : Str) (t1 t2 t3 : Tok) (r1 : Rep x y z x')
  (hNw : News h₀ L s.heap rest)
  (hret : ∀ (u : Tok) (h' : Heap) (tk' : Nat), Fr h₀ L h' m → News h₀ L h' rest → Q (.str x' u) { s with heap := h', toks := tk' }) :
  wpAny (model PySem.Challenge.rw_pg0294_01.row.prog w) (ktrTop dp un gd cn cs L a ccd cl outer) (call (.ref 235) [.str x t1, .str y t2, .str z t3]) Q E s := by
  refine wpAny_call ?_
  k_dflt cell_enter
  k_steps
  rename News h₀ L _ _ => Nz
  exact hret _ _ _ (by k_asm) (fun p hp => Nz p (by repeat (first | exact hp | refine List.Mem.tail _ ?_)))
end
end
theorem calm_l1_dict : True := by w_top off; exact True.intro
section
section
/-- what is left of a dict comprehension over a text -/
def DRest (prog : Program) (w : World) (A : Around) (h₀ : Heap) (L : Addr) (m : Str → Option Value) (env : Env) (kx vx : PySem.Expr) (x : Str) (scope : Scope) (cl : List (Str × Addr)) (s : Shared) (P : Nat → Value → Prop)
    (Fin : List (Str × Value) → List (Addr × Obj) → Prop) : Nat → Nat → List (Str × Value) → List (Addr × Obj) → Prop
  | 0, _, kvs, news => Fin kvs news
  | k + 1, i, kvs, news => ∀ v I oI C oC D oD m₂ h tk (E' : Value → Shared → Prop), P i v → LCg.NsObj oC m₂ → m₂ x = some v → oD.IsDictOf (strKind prog w) kvs → Fr h₀ L h m → News h₀ L h ((I, oI) :: (C, oC) :: (D, oD) :: news) → LCg.Off3 I C D news → ((@Ne Nat I C) ∧ (@Ne Nat I D) ∧ (@Ne Nat C D)) →
      wpAny (model prog w) A (eval kx (compEnvC scope cl C env)) (fun kv s₄ => wpAny (model prog w) A (eval vx (compEnvC scope cl C env)) (fun vv s₅ => ∃ key t, kv = .str key t ∧
        LCg.CompEnd h₀ L m { s with heap := h, toks := tk } I oI C oC D oD (fun _ => True) (fun y news' => DRest prog w A h₀ L m env kx vx x scope cl s P Fin k (i + 1) (stored kvs key y) news') vv s₅) E' s₄) E' { s with heap := h, toks := tk }
variable {prog : Program} {w : World} {A : Around} {E : Value → Shared → Prop} {s : Shared} {h₀ : Heap} {L : Addr} {m : Str → Option Value} {env : Env}
theorem block_D {kx vx iter : PySem.Expr} {x : Str} {px : Pos} {scope : Scope} {cl : List (Str × Addr)} {pos : Pos} {s₂ : Shared} {I : Addr} {n : Nat} {P : Nat → Value → Prop} {St : Nat → Heap → Prop} {news : List (Addr × Obj)}
    {Fin : List (Str × Value) → List (Addr × Obj) → Prop} {RR : Value → Addr → Result → Shared → Prop}
    (W : Walks prog w A I [I] [I] n P St) (hsz : n ≤ 1000) (hIo : ∀ i h, St i h → ∃ o, h.get? I = some o)
    (hSt : ∀ i h h' o, St i h → h.get? I = some o → h'.get? I = some o → St i h')
    (hcell : ∀ y ∈ scope.names, y.2 ≠ .cell) (hkind : scope.kind = .function) (hx : scope.names.lookup x = some .local) (hst : St 0 s₂.heap) (hIlt : I < s₂.heap.objs.size)
    (F : Fr h₀ L s₂.heap m) (N : News h₀ L s₂.heap news) (hIL : L ≠ I) (hI₀ : h₀.get? I = none) (off : ∀ p ∈ news, p.1 ≠ I)
    (R : DRest prog w A h₀ L m env kx vx x scope cl s₂ P Fin n 0 [] news)
    (hRR : ∀ D oD C h tk m' kvs news', Fr h₀ L h m → oD.IsDictOf (strKind prog w) kvs → News h₀ L h ((D, oD) :: news') → LCg.Off1 D news' → h.Ns C m' → h₀.get? C = none → h₀.get? D = none → C ≠ L → D ≠ L → C ≠ D → (∀ p ∈ news', p.1 ≠ C) → Fin kvs news' → RR (.ref D) C (.ok .next) { s₂ with heap := h, toks := tk }) :
    wpAny (model prog w) A newDict (fun acc s₃ => wpAny (model prog w) A (newFunctionEnv scope env.globals cl [] env.qual none .none (some env)) (fun cenv s₄ =>
      codeAny (model prog w) A (.compStart (.DictComp kx vx [⟨.Name x px, iter, [], 0⟩] scope pos) 0 (.ref I) acc { cenv with scope := relabel scope env }) (RR acc cenv.locals) s₄) E s₃) E s₂ := by
  refine wpAny_newObj_type (wpAny_newFunctionEnv hcell (by intro y hy; simp at hy) (fun h₁ hns₁ hsb₁ => ?_) hkind)
  dsimp only at hns₁ hsb₁ ⊢
  have hnew : (s₂.heap.push { cls := .type "dict", dict := none, data := .dict #[] }).DictOf (strKind prog w) s₂.heap.objs.size [] := Heap.DictOf.new s₂.heap
  generalize hH2 : s₂.heap.push { cls := .type "dict", dict := none, data := .dict #[] } = H2 at hns₁ hsb₁ hnew ⊢
  have hC : H2.objs.size = s₂.heap.objs.size + 1 := by rw [← hH2, Heap.size_push]
  have hDC : s₂.heap.objs.size ≠ H2.objs.size := by rw [hC]; exact Nat.ne_of_lt (Nat.lt_succ_self _)
  have below : ∀ b, b < s₂.heap.objs.size → b ≠ H2.objs.size ∧ b ≠ s₂.heap.objs.size := fun b hb => ⟨by rw [hC]; exact Nat.ne_of_lt (Nat.lt_succ_of_lt hb), Nat.ne_of_lt hb⟩
  have old : ∀ b o, s₂.heap.get? b = some o → h₁.get? b = some o := fun b o e => hsb₁.extBut b o (below b (Heap.lt_size e)).1 (Heap.get?_push_of_some _ (hH2 ▸ Heap.get?_push_of_some _ e))
  have hacc : h₁.DictOf (strKind prog w) s₂.heap.objs.size [] := hnew.at fun o e => hsb₁.extBut _ _ hDC (Heap.get?_push_of_some _ e)
  have hst₁ : St 0 h₁ := W.frame _ _ _ hst fun b _ o e => old b o e
  have fresh : ∀ a, s₂.heap.objs.size ≤ a → s₂.heap.get? a = none := fun a ha => by
    cases e : s₂.heap.get? a with
    | none => rfl
    | some o' => exact absurd (Heap.lt_size e) (Nat.not_lt.mpr ha)
  have fresh₀ : ∀ a, s₂.heap.objs.size ≤ a → h₀.get? a = none := fun a ha => by
    cases e : h₀.get? a with
    | none => rfl
    | some o' => have := F.keep a o' e; rw [fresh a ha] at this; cases this
  have hD₀ : h₀.get? s₂.heap.objs.size = none := fresh₀ _ (Nat.le_refl _)
  have hC₀ : h₀.get? H2.objs.size = none := fresh₀ _ (by rw [hC]; exact Nat.le_succ _)
  have hLlt : L < s₂.heap.objs.size := F.ns.lt
  have hDL : s₂.heap.objs.size ≠ L := Ne.symm (below L hLlt).2
  have hCL : H2.objs.size ≠ L := Ne.symm (below L hLlt).1
  have hCI : I ≠ H2.objs.size := (below I hIlt).1
  have hDI : I ≠ s₂.heap.objs.size := (below I hIlt).2
  have off₀ : LCg.Off3 I H2.objs.size s₂.heap.objs.size news := LCg.Off3.of fun p hp => ⟨off p hp, (below _ (Heap.lt_size (N p hp).1)).1, (below _ (Heap.lt_size (N p hp).1)).2⟩
  obtain ⟨oD0, heD0, hoD0⟩ := Heap.dictOf_iff.mp hacc
  have loop : ∀ s₃ : Shared, s₃ = { s₂ with heap := h₁, toks := s₂.toks + ([] : List (Str × Value)).length } →
      codeAny (model prog w) A (.compLoop (.DictComp kx vx [⟨.Name x px, iter, [], 0⟩] scope pos) 0 (.ref I) (.ref s₂.heap.objs.size) (compEnvC scope cl H2.objs.size env))
        (RR (.ref s₂.heap.objs.size) H2.objs.size) s₃ := by
    rintro s₃ rfl
    refine codeAny_compLoop_testsD
      (fun k s' => ∃ h' tk i kvs oD m' news', s' = { s₂ with heap := h', toks := tk } ∧ i ≤ n ∧ k = n + 1 - i ∧ kvs.length ≤ i ∧ St i h' ∧ Fr h₀ L h' m ∧ h'.Ns H2.objs.size m' ∧ oD.IsDictOf (strKind prog w) kvs ∧ News h₀ L h' ((s₂.heap.objs.size, oD) :: news') ∧
        LCg.Off3 I H2.objs.size s₂.heap.objs.size news' ∧ DRest prog w A h₀ L m env kx vx x scope cl s₂ P Fin (n - i) i kvs news') ?_ (n + 1)
      ⟨h₁, _, 0, [], oD0, _, news, rfl, Nat.zero_le _, rfl, Nat.le_refl _, hst₁, F.keeps old, hns₁, hoD0, fun p hp => ?_, off₀, R⟩
    · rintro k s' ⟨h', tk, i, kvs, oD, m', news', rfl, hi, rfl, hyl, hst', F', hn', hoD, N', off', R'⟩
      by_cases hlt : i < n
      · obtain ⟨j, hj⟩ : ∃ j, n - i = j + 1 := ⟨n - i - 1, by omega⟩
        rw [hj] at R'
        refine W.item i _ _ _ hlt hst' fun v h₂ tk₂ hPv hst₂ hk₂ => ?_
        refine wpAny_assign_Name (wpAny_storeName_local (lookup_relabel_local hx) (hn'.at' fun o e => hk₂ _ o (by simpa using Ne.symm hCI) e) (fun h₃ hn₃ hs₃ => ?_) (by simp [compEnvC, relabel, hkind]))
        refine wpAny_tests_nil ?_
        simp only [if_true]
        have hst₃ : St (i + 1) h₃ := W.frame _ _ _ hst₂ fun b hb o e => hs₃.extBut b o (fun q => hCI (by have q' : b = H2.objs.size := q; rw [← q']; exact (List.mem_singleton.mp hb).symm)) e
        obtain ⟨oI, heI⟩ := hIo _ _ hst₃
        obtain ⟨oC, heC, hoC⟩ := LCg.ns_obj hn₃
        have F₃ : Fr h₀ L h₃ m := (LCg.fr_but F' hk₂ hIL hI₀).change hs₃ hCL hC₀
        have off3 := off'.mem
        have N₂ : News h₀ L h₂ ((s₂.heap.objs.size, oD) :: news') := LCg.news_but N' hk₂ fun p hp => by
          rcases List.mem_cons.mp hp with rfl | hp
          · exact Ne.symm hDI
          · exact (off3 p hp).1
        have N₃ : News h₀ L h₃ ((I, oI) :: (H2.objs.size, oC) :: (s₂.heap.objs.size, oD) :: news') := fun p hp => by
          rcases List.mem_cons.mp hp with rfl | hp
          · exact ⟨heI, Ne.symm hIL, hI₀⟩
          · rcases List.mem_cons.mp hp with rfl | hp
            · exact ⟨heC, hCL, hC₀⟩
            · have z := N₂ p hp
              refine ⟨hs₃.extBut _ _ ?_ z.1, z.2⟩
              rcases List.mem_cons.mp hp with rfl | hp
              · exact hDC
              · exact (off3 p hp).2.1
        refine wpAny_mono (R' v I oI H2.objs.size oC s₂.heap.objs.size oD _ h₃ _ _ hPv hoC (by simp) hoD F₃ N₃ off' ⟨hCI, hDI, Ne.symm hDC⟩) (fun kv s₄ h₄ => ?_) fun _ _ e => e
        refine wpAny_mono h₄ (fun vv s₅ h₅ => ?_) fun _ _ e => e
        obtain ⟨key, t, rfl, h₄, tk₄, news₄, rfl, F₄, N₄, off₄, _, R₄⟩ := h₅
        have zI := (N₄ (I, oI) List.mem_cons_self).1
        have zC := (N₄ (H2.objs.size, oC) (List.mem_cons_of_mem _ List.mem_cons_self)).1
        have zD := (N₄ (s₂.heap.objs.size, oD) (List.mem_cons_of_mem _ (List.mem_cons_of_mem _ List.mem_cons_self))).1
        have N₄' : News h₀ L h₄ news₄ := fun p hp => N₄ p (List.mem_cons_of_mem _ (List.mem_cons_of_mem _ (List.mem_cons_of_mem _ hp)))
        have hst₄ : St (i + 1) h₄ := hSt _ _ _ _ hst₃ heI zI
        refine wpAny_dictSet_pairs (knd := strKind prog w) (hsz := by rw [sizeLine_eq]; omega) (strKind_is _ _ _ _) (Heap.dictOf_iff.mpr ⟨oD, zD, hoD⟩) fun h₅ hl₅ hs₅ => ?_
        obtain ⟨oD', heD', hoD'⟩ := Heap.dictOf_iff.mp hl₅
        have off4 := off₄.mem
        refine ⟨n + 1 - (i + 1), by omega, h₅, _, i + 1, stored kvs key vv, oD', _, news₄, rfl, hlt, rfl, ?_, W.frame _ _ _ hst₄ fun b hb o e => hs₅.extBut b o (fun q => hDI (by have q' : b = s₂.heap.objs.size := q; rw [← q']; exact (List.mem_singleton.mp hb).symm)) e, F₄.change hs₅ hDL hD₀,
          (hoC.ns zC).sameBut hs₅ (Ne.symm hDC), hoD', fun p hp => ?_, off₄, ?_⟩
        · have := stored_length_le kvs key vv
          omega
        · rcases List.mem_cons.mp hp with rfl | hp
          · exact ⟨heD', hDL, hD₀⟩
          · exact ⟨hs₅.extBut _ _ (off4 p hp).2.2 (N₄' p hp).1, (N₄' p hp).2⟩
        · rw [show n - (i + 1) = j by omega]
          exact R₄
      · obtain rfl : i = n := Nat.le_antisymm hi (Nat.not_lt.mp hlt)
        rw [Nat.sub_self] at R'
        refine W.done _ _ _ hst' fun h₂ tk₂ hk₂ => ?_
        have off3 := off'.mem
        exact hRR _ oD _ h₂ tk₂ _ kvs news' (LCg.fr_but F' hk₂ hIL hI₀) hoD (LCg.news_but N' hk₂ fun p hp => by
          rcases List.mem_cons.mp hp with rfl | hp
          · exact Ne.symm hDI
          · exact (off3 p hp).1) off'.one (hn'.at' fun o e => hk₂ _ o (by simpa using Ne.symm hCI) e) hC₀ hD₀ hCL hDL (Ne.symm hDC) (fun p hp => (off3 p hp).2.1) R'
    · rcases List.mem_cons.mp hp with rfl | hp
      · exact ⟨heD0, hDL, hD₀⟩
      · exact ⟨old _ _ (N p hp).1, (N p hp).2⟩
  exact codeAny_compStart_dict (loop _ rfl) (W.self 0 _ _ _ hst₁ (loop _ rfl))
def FinD (prog : Program) (w : World) (h₀ : Heap) (L : Addr) (m : Str → Option Value) (s : Shared) (Q : Value → Shared → Prop) (kvs : List (Str × Value)) (news : List (Addr × Obj)) : Prop :=
  ∀ D oD h tk, oD.IsDictOf (strKind prog w) kvs → Fr h₀ L h m → News h₀ L h ((D, oD) :: news) → LCg.Off1 D news → Q (.ref D) { s with heap := h, toks := tk }
def DSrc (prog : Program) (w : World) (A : Around) (h₀ : Heap) (L : Addr) (m : Str → Option Value) (env : Env) (kx vx : PySem.Expr) (x : Str) (scope : Scope) (cl : List (Str × Addr)) (Q : Value → Shared → Prop) (xv : Value) (s₁ : Shared) : Prop :=
  ∃ z t news, xv = .str z t ∧ A.handled = none ∧ z.cps.size ≤ 1000 ∧ Fr h₀ L s₁.heap m ∧ News h₀ L s₁.heap news ∧
      ∀ s₂ : Shared, (∃ h, s₂ = { s₁ with heap := h }) → DRest prog w A h₀ L m env kx vx x scope cl s₂ (SignAt z) (FinD prog w h₀ L m s₂ Q) z.cps.size 0 [] news
theorem DictComp_S {kx vx iter : PySem.Expr} {x : Str} {px : Pos} {scope : Scope} {cl : List (Str × Addr)} {pos : Pos} {Q : Value → Shared → Prop} (_F₀ : Fr h₀ L s.heap m)
    (hclos : closureFor scope env = pure cl) (hcell : ∀ z ∈ scope.names, z.2 ≠ .cell) (hkind : scope.kind = .function)
    (hnames : ∀ z ∈ scope.names, z.2 = .local → scope.names.lookup z.1 = some .local) (hx : scope.names.lookup x = some .local)
    (h : wpAny (model prog w) A (eval iter env) (DSrc prog w A h₀ L m env kx vx x scope cl Q) E s)
    (hs : ∀ x, foldedSetIterable iter env x = pure x := by intro _; rfl) :
    wpAny (model prog w) A (eval (.DictComp kx vx [⟨.Name x px, iter, [], 0⟩] scope pos) env) Q E s := by
  rw [arm_eval_DictComp]
  refine wpAny_comprehension_free (use := none) rfl hs hclos hkind hnames (wpAny_mono h (fun xv s₁ h₁ => ?_) fun _ _ e => e)
  obtain ⟨z, t, news, rfl, hh, hsz, F, N, R⟩ := h₁
  have fin : ∀ (o : Obj) (St : Nat → Heap → Prop), (∀ A' : Around, A'.handled = none → Walks prog w A' s₁.heap.objs.size [s₁.heap.objs.size] [s₁.heap.objs.size] z.cps.size (SignAt z) St) → St 0 (s₁.heap.push o) → (∀ i h, St i h → ∃ o, h.get? s₁.heap.objs.size = some o) →
      (∀ i h h' o, St i h → h.get? s₁.heap.objs.size = some o → h'.get? s₁.heap.objs.size = some o → St i h') → wpAny (model prog w) A newDict (fun acc s₃ => wpAny (model prog w) A (newFunctionEnv scope env.globals cl [] env.qual none .none (some env)) (fun cenv s₄ =>
      codeAny (model prog w) A (.compStart (.DictComp kx vx [⟨.Name x px, iter, [], 0⟩] scope pos) 0 (.ref s₁.heap.objs.size) acc { cenv with scope := relabel scope env }) (compPost (model prog w) A E none Q acc cenv.locals) s₄) E s₃) E { s₁ with heap := s₁.heap.push o } := by
    intro o St W hst hIo hSt
    refine block_D (W A hh) hsz hIo hSt hcell hkind hx hst (by show s₁.heap.objs.size < (s₁.heap.push _).objs.size; rw [Heap.size_push]; exact Nat.lt_succ_self _)
      (F.keeps fun _ _ e => Heap.get?_push_of_some _ e) (N.grown fun _ _ e => Heap.get?_push_of_some _ e) (Nat.ne_of_lt F.ns.lt) (next_is_new F) (fun p hp => Nat.ne_of_lt (Heap.lt_size (N p hp).1)) (R _ ⟨_, rfl⟩) ?_
    intro D oD C h' tk m' kvs news' F' hoD N' o1 hn hC₀ hD₀ hCL hDL hCD offC fin
    refine ⟨m', hn, fun h'' hs'' => fin D oD h'' tk hoD (F'.change hs'' hCL hC₀) (fun p hp => ?_) o1⟩
    refine ⟨hs''.extBut _ _ ?_ (N' p hp).1, (N' p hp).2⟩
    rcases List.mem_cons.mp hp with rfl | hp
    · exact Ne.symm hCD
    · exact offC p hp
  cases ha : z.cps.all (· < 128)
  · refine wpAny_pyIter_wide ha (fin _ (fun i h => h.IsStrIter s₁.heap.objs.size "str_iterator" z t i) (fun A' hA => Walks.strWide hA _ z t) ⟨_, Heap.get?_push_size _ rfl, rfl, rfl⟩ (fun i h st => by obtain ⟨o, e, _⟩ := st; exact ⟨o, e⟩) fun i h h' o st e e' => by
      obtain ⟨o', q, r⟩ := st; rw [e] at q; cases q; exact ⟨o, e', r⟩)
  · refine wpAny_pyIter_ascii ha (fin _ (fun i h => h.IsStrIter s₁.heap.objs.size "str_ascii_iterator" z t i) (fun A' hA => Walks.strAscii hA _ z t) ⟨_, Heap.get?_push_size _ rfl, rfl, rfl⟩ (fun i h st => by obtain ⟨o, e, _⟩ := st; exact ⟨o, e⟩) fun i h h' o st e e' => by
      obtain ⟨o', q, r⟩ := st; rw [e] at q; cases q; exact ⟨o, e', r⟩)
end
section
variable {prog : Program} {w : World} {A : Around} {E : Value → Shared → Prop} {s : Shared} {h₀ : Heap} {L : Addr} {m : Str → Option Value} {env : Env}
theorem DRest.zero {kx vx : PySem.Expr} {x : Str} {scope : Scope} {cl : List (Str × Addr)} {P : Nat → Value → Prop} {Fin : List (Str × Value) → List (Addr × Obj) → Prop} {i : Nat} {kvs : List (Str × Value)} {news : List (Addr × Obj)} (h : Fin kvs news) :
    DRest prog w A h₀ L m env kx vx x scope cl s P Fin 0 i kvs news := h
theorem DRest.succ {kx vx : PySem.Expr} {x : Str} {scope : Scope} {cl : List (Str × Addr)} {P : Nat → Value → Prop} {Fin : List (Str × Value) → List (Addr × Obj) → Prop} {k i : Nat} {kvs : List (Str × Value)} {news : List (Addr × Obj)}
    (h : ∀ v I oI C oC D oD m₂ h tk (E' : Value → Shared → Prop), P i v → LCg.NsObj oC m₂ → m₂ x = some v → oD.IsDictOf (strKind prog w) kvs → Fr h₀ L h m → News h₀ L h ((I, oI) :: (C, oC) :: (D, oD) :: news) → LCg.Off3 I C D news → ((@Ne Nat I C) ∧ (@Ne Nat I D) ∧ (@Ne Nat C D)) →
      wpAny (model prog w) A (eval kx (compEnvC scope cl C env)) (fun kv s₄ => wpAny (model prog w) A (eval vx (compEnvC scope cl C env)) (fun vv s₅ => ∃ key t, kv = .str key t ∧
        LCg.CompEnd h₀ L m { s with heap := h, toks := tk } I oI C oC D oD (fun _ => True) (fun y news' => DRest prog w A h₀ L m env kx vx x scope cl s P Fin k (i + 1) (stored kvs key y) news') vv s₅) E' s₄) E' { s with heap := h, toks := tk }) :
    DRest prog w A h₀ L m env kx vx x scope cl s P Fin (k + 1) i kvs news := h
end
end
theorem calm_l1_words : True := by w_top off; exact True.intro
section
abbrev wd (l : List Nat) : Str := ⟨l.toArray⟩
def isL (c : Nat) : Prop := c = 97 ∨ c = 98 ∨ c = 99
structure IsW (n : Nat) (l : List Nat) : Prop where
  len : l.length = n
  all : ∀ c ∈ l, isL c
def WordsAre (vs : List Value) (ws : List (List Nat)) : Prop := StrsAre vs (ws.map wd)
def wordsL : Nat → List (List Nat)
  | 0 => [[]]
  | n + 1 => (wordsL n).map (97 :: ·) ++ ((wordsL n).map (98 :: ·) ++ (wordsL n).map (99 :: ·))
theorem mem_words : ∀ {n : Nat} {l : List Nat}, IsW n l → l ∈ wordsL n
  | 0, [], _ => .head _
  | 0, _ :: _, h => by have := h.len; simp at this
  | n + 1, [], h => by have := h.len; simp at this
  | n + 1, c :: l, h => by
    have hl : IsW n l := ⟨by have := h.len; simpa using this, fun d hd => h.all d (.tail _ hd)⟩
    have hm := mem_words hl
    rcases h.all c (.head _) with rfl | rfl | rfl
    · exact List.mem_append_left _ (List.mem_map_of_mem hm)
    · exact List.mem_append_right _ (List.mem_append_left _ (List.mem_map_of_mem hm))
    · exact List.mem_append_right _ (List.mem_append_right _ (List.mem_map_of_mem hm))
theorem by_words {P : Nat → List Nat → Bool} (h : ((List.range 5).all fun n => (wordsL n).all fun l => P n l) = true) {n : Nat} (hn : n ≤ 4) {l : List Nat} (hw : IsW n l) : P n l = true := by
  rw [List.all_eq_true] at h
  have h1 := h n (List.mem_range.mpr (by omega))
  rw [List.all_eq_true] at h1
  exact h1 l (mem_words hw)
theorem wd_len (l : List Nat) : (wd l).length = l.length := by show l.toArray.size = _; simp
theorem wd_append (a b : List Nat) : wd a ++ wd b = wd (a ++ b) := by
  show (⟨a.toArray ++ b.toArray⟩ : Str) = ⟨(a ++ b).toArray⟩
  rw [List.append_toArray]
theorem wd_ch (c : Nat) : ch c = wd [c] := rfl
theorem item_facts {n : Nat} (hn : 1 ≤ n ∧ n ≤ 4) {l : List Nat} (hw : IsW n l) : Txt.item (wd l) 0 = ch (l.headD 0) ∧ Txt.item (wd l) (-1) = ch (l.getLastD 0) ∧ isL (l.getLastD 0) ∧ isL (l.headD 0) := by
  have := by_words (P := fun n l => decide (n = 0) || (decide (Txt.item (wd l) 0 = ch (l.headD 0)) && decide (Txt.item (wd l) (-1) = ch (l.getLastD 0)) && (l.getLastD 0 == 97 || (l.getLastD 0 == 98 || l.getLastD 0 == 99)) && (l.headD 0 == 97 || (l.headD 0 == 98 || l.headD 0 == 99)))) (by decide +kernel) hn.2 hw
  have hz : decide (n = 0) = false := decide_eq_false (by omega)
  rw [hz] at this
  simp only [Bool.false_or, Bool.and_eq_true, Bool.or_eq_true, decide_eq_true_eq, beq_iff_eq] at this
  exact ⟨this.1.1.1, this.1.1.2, this.1.2, this.2⟩
theorem isl_from {l : List Nat} {k : Int} (h0 : 0 ≤ k) (hk : k ≤ l.length) : Txt.slice (wd l) (some k) none = wd (l.drop k.toNat) := by
  rw [slice_from_eq h0 (by rw [wd_len]; exact hk) (b := (l.length : Int)) (by rw [wd_len])]
  show (⟨_⟩ : Str) = ⟨_⟩
  congr 2
  rw [List.take_of_length_le]
  show (l.toArray.toList.drop _).length ≤ _
  simp only [List.length_drop]
  omega
theorem isl_to {l : List Nat} {k : Int} (h0 : 0 ≤ k) (hk : k ≤ l.length) : Txt.slice (wd l) none (some k) = wd (l.take k.toNat) := by
  have e := beq_iff_eq.mp (slice_closes_toL (x := wd l) h0 (by rw [wd_len]; exact hk))
  rw [e]
  show (⟨_⟩ : Str) = ⟨_⟩
  congr 2
  show ((l.toArray.toList.drop _).take _) = _
  simp
section
variable {prog : Program} {w : World} {A : Around} {E : Value → Shared → Prop} {s : Shared} {value slice : PySem.Expr} {t u : Tok} {h₀ : Heap} {L : Addr} {m : Str → Option Value} {news : List (Addr × Obj)} {Q : Value → Shared → Prop} {l a b : List Nat} {n : Nat}
theorem first_K (hw : IsW n l) (hn : 1 ≤ n ∧ n ≤ 4) (h : ∀ t' k, Q (.str (ch (l.headD 0)) t') { s with toks := k })
    (hs : subscripted slice false (.str (wd l) t) (.int 0 u) = operate [.str (wd l) t, .int 0 u] (getItem (.str (wd l) t) (.int 0 u)))
    (ht : ∀ r, letTemporaryGo value (.str (wd l) t) r = pure ()) : wpAny (model prog w) A (subscriptTail value slice (.str (wd l) t) (.int 0 u)) Q E s :=
  KXi.item (n := n) (by rw [wd_len, hw.len]) (by omega) (by omega) (by omega) (fun _ => by rw [(item_facts hn hw).1]; exact h _ _) hs ht
theorem last_K (hw : IsW n l) (hn : 1 ≤ n ∧ n ≤ 4) (h : ∀ t' k, Q (.str (ch (l.getLastD 0)) t') { s with toks := k })
    (hs : subscripted slice false (.str (wd l) t) (.int (-1) u) = operate [.str (wd l) t, .int (-1) u] (getItem (.str (wd l) t) (.int (-1) u)))
    (ht : ∀ r, letTemporaryGo value (.str (wd l) t) r = pure ()) : wpAny (model prog w) A (subscriptTail value slice (.str (wd l) t) (.int (-1) u)) Q E s :=
  KXi.item (n := n) (by rw [wd_len, hw.len]) (by omega) (by omega) (by omega) (fun _ => by rw [(item_facts hn hw).2.1]; exact h _ _) hs ht
theorem from_K {k : Int} (hF : Fr h₀ L s.heap m) (hN : News h₀ L s.heap news) (h0 : 0 ≤ k) (hk : k ≤ l.length) (hl : l.length ≤ 4) (h : ∀ h' t' c, Fr h₀ L h' m → News h₀ L h' news → Q (.str (wd (l.drop k.toNat)) t') { s with heap := h', toks := c })
    (hs : subscripted slice false (.str (wd l) t) (.ref s.heap.objs.size) = operate [.ref s.heap.objs.size, .str (wd l) t] (getItem (.str (wd l) t) (.ref s.heap.objs.size)))
    (ht : ∀ r, letTemporaryGo value (.str (wd l) t) r = pure ()) :
    wpAny (model prog w) A (subscriptTail value slice (.str (wd l) t) (.ref s.heap.objs.size)) Q E { s with heap := s.heap.push { cls := .type "slice", data := .fields #[.int k u, .none, .none] } } :=
  slice_strN_sn hF hN (fun h' t' c F' N' => by rw [isl_from h0 hk]; exact h h' t' c F' N') hs ht (by rw [wd_len, sizeLine_eq]; omega)
theorem to_K {k : Int} (hF : Fr h₀ L s.heap m) (hN : News h₀ L s.heap news) (h0 : 0 ≤ k) (hk : k ≤ l.length) (hl : l.length ≤ 4) (h : ∀ h' t' c, Fr h₀ L h' m → News h₀ L h' news → Q (.str (wd (l.take k.toNat)) t') { s with heap := h', toks := c })
    (hs : subscripted slice false (.str (wd l) t) (.ref s.heap.objs.size) = operate [.ref s.heap.objs.size, .str (wd l) t] (getItem (.str (wd l) t) (.ref s.heap.objs.size)))
    (ht : ∀ r, letTemporaryGo value (.str (wd l) t) r = pure ()) :
    wpAny (model prog w) A (subscriptTail value slice (.str (wd l) t) (.ref s.heap.objs.size)) Q E { s with heap := s.heap.push { cls := .type "slice", data := .fields #[.none, .int k u, .none] } } :=
  slice_strN_ns hF hN (fun h' t' c F' N' => by rw [isl_to h0 hk]; exact h h' t' c F' N') hs ht (by rw [wd_len, sizeLine_eq]; omega)
theorem glue_K (ha : a.length ≤ 4) (hb : b.length ≤ 4) (h : ∀ t' k, Q (.str (wd (a ++ b)) t') { s with toks := k }) : wpAny (model prog w) A (binaryOp .Add (.str (wd a) t) (.str (wd b) u)) Q E s :=
  PyProof.Rows.add_str (fun t' k => by rw [wd_append]; exact h t' k) (by rw [wd_len, wd_len, sizeLine_eq]; omega)
end
/-- what replace leaves of a word without its beginning -/
def rp (l : List Nat) (k : Nat) : Str := Txt.join (Str.ofString "") (Txt.split (wd l) (wd (l.take k)))
theorem rep_word {n : Nat} (hn : n ≤ 4) {l : List Nat} (hw : IsW n l) {k : Nat} (hk : 1 ≤ k) (hkn : k < n) : Rep (wd l) (wd (l.take k)) (Str.ofString "") (rp l k) := by
  have := by_words (P := fun n l => (List.range n).all fun k => decide (((Txt.split (wd l) (wd (l.take k))).map (·.length)).sum + (Txt.split (wd l) (wd (l.take k))).length ≤ 1048576)) (by decide +kernel) hn hw
  rw [List.all_eq_true] at this
  refine ⟨rfl, of_decide_eq_true (this k (List.mem_range.mpr hkn)), by rw [wd_len, hw.len]; omega, ?_, by decide +kernel⟩
  rw [wd_len, List.length_take, hw.len]
  exact beq_eq_false_iff_ne.mpr (by omega)
theorem rp_len {n : Nat} (hn : n ≤ 4) {l : List Nat} (hw : IsW n l) {k : Nat} (hkn : k < n) : (rp l k).length ≤ 1000 := by
  have := by_words (P := fun n l => (List.range n).all fun k => decide ((rp l k).length ≤ 1000)) (by decide +kernel) hn hw
  rw [List.all_eq_true] at this
  exact of_decide_eq_true (this k (List.mem_range.mpr hkn))
def rot (l : List Nat) (k : Nat) : List Nat := l.drop k ++ l.take k
def rots (n : Nat) (l : List Nat) : List Str := (List.range n).map fun k => wd (rot l k)
def reps (n : Nat) (l : List Nat) : List Str := (List.range (n - 1)).map fun k => rp l (1 + k)
def ow (es : List Ent) (l : List Nat) : List Nat := onw es (l.getLastD 0)
def closedW (es : List Ent) (l : List Nat) : Bool := ((ow es l).map ch).any (· == ch (l.headD 0))
def primeW (n : Nat) (l : List Nat) : Bool := (wd l == minS (rots n l)) && (reps n l).all fun y => decide (y.length ≠ 0)
def isRing (es : List Ent) (n : Nat) (l : List Nat) : Bool := closedW es l && primeW n l
def stepW (es : List Ent) (ws : List (List Nat)) : List (List Nat) := ws.flatMap fun l => (ow es l).map fun c => l ++ [c]
def walksAt (es : List Ent) : Nat → List (List Nat)
  | 0 => [[97], [98], [99]]
  | n + 1 => stepW es (walksAt es n)
/-- the rings that the first n sizes give -/
def ringsTo (es : List Ent) : Nat → List (List Nat)
  | 0 => []
  | n + 1 => ringsTo es n ++ (walksAt es n).filter (isRing es (n + 1))
theorem ow_isL {es : List Ent} {rest : List (Addr × Obj)} (hE : EntsIn es rest) {c : Nat} {k : Nat} (h : c ∈ onw es k) : isL c := by
  unfold onw at h
  obtain ⟨e, he, rfl⟩ := List.mem_map.mp h
  exact (hE e (List.mem_filter.mp he).1).1.val
theorem walks_are {es : List Ent} {rest : List (Addr × Obj)} (hE : EntsIn es rest) : ∀ n, ∀ l ∈ walksAt es n, IsW (n + 1) l
  | 0, l, h => by
    simp only [walksAt, List.mem_cons, List.not_mem_nil, or_false] at h
    rcases h with rfl | rfl | rfl <;> exact ⟨rfl, fun c hc => by rw [List.mem_singleton.mp hc]; unfold isL; omega⟩
  | n + 1, l, h => by
    simp only [walksAt, stepW, List.mem_flatMap, List.mem_map] at h
    obtain ⟨l', hl', c, hc, rfl⟩ := h
    have := walks_are hE n l' hl'
    refine ⟨by rw [List.length_append, this.len]; rfl, fun d hd => ?_⟩
    rcases List.mem_append.mp hd with hd | hd
    · exact this.all d hd
    · rw [List.mem_singleton.mp hd]; exact ow_isL hE hc
theorem onw_len (es : List Ent) (k : Nat) : (onw es k).length ≤ es.length := by
  unfold onw
  rw [List.length_map]
  exact List.length_filter_le _ _
theorem flat_len {α β : Type} {f : α → List β} {K : Nat} : ∀ (ws : List α), (∀ x ∈ ws, (f x).length ≤ K) → (ws.flatMap f).length ≤ ws.length * K
  | [], _ => by simp
  | x :: ws, h => by
    rw [List.flatMap_cons, List.length_append, List.length_cons, Nat.succ_mul]
    have h1 := h x (.head _)
    have h2 := flat_len ws fun y hy => h y (.tail _ hy)
    omega
theorem walks_len {es : List Ent} (he : es.length ≤ 6) : ∀ n, n ≤ 4 → (walksAt es n).length ≤ 3 * 6 ^ n
  | 0, _ => by simp [walksAt]
  | n + 1, hn => by
    have h := walks_len he n (by omega)
    have h2 := flat_len (f := fun l => (ow es l).map fun c => l ++ [c]) (K := 6) (walksAt es n) fun l _ => by
      rw [List.length_map]
      exact Nat.le_trans (onw_len es _) he
    simp only [walksAt, stepW]
    rw [Nat.pow_succ]
    omega
theorem rings_len {es : List Ent} (he : es.length ≤ 6) : ∀ n, n ≤ 4 → (ringsTo es n).length ≤ n * 648
  | 0, _ => by simp [ringsTo]
  | n + 1, hn => by
    have h := rings_len he n (by omega)
    have h2 := walks_len he n (by omega)
    have h3 : (6 : Nat) ^ n ≤ 6 ^ 3 := Nat.pow_le_pow_right (by decide) (by omega)
    have h4 := List.length_filter_le (isRing es (n + 1)) (walksAt es n)
    simp only [ringsTo, List.length_append]
    omega
theorem size_range {i : Nat} (h : i < 4) : (Builtin.Range.small 0 (1 + (i : Int)) 1 = true ∧ Builtin.Range.rangeSize 0 (1 + (i : Int)) 1 = ((i + 1 : Nat) : Int)) ∧ (Builtin.Range.small 1 (1 + (i : Int)) 1 = true ∧ Builtin.Range.rangeSize 1 (1 + (i : Int)) 1 = ((i : Nat) : Int)) := by
  have e : ∀ j : Fin 4, (Builtin.Range.small 0 (1 + (j.val : Int)) 1 = true ∧ Builtin.Range.rangeSize 0 (1 + (j.val : Int)) 1 = ((j.val + 1 : Nat) : Int)) ∧ (Builtin.Range.small 1 (1 + (j.val : Int)) 1 = true ∧ Builtin.Range.rangeSize 1 (1 + (j.val : Int)) 1 = ((j.val : Nat) : Int)) := by decide +kernel
  exact e ⟨i, h⟩
theorem strs_snoc1 {vs : List Value} {ys : List Str} {y : Str} {t : Tok} (h : StrsAre vs ys) : StrsAre (vs ++ [.str y t]) (ys ++ [y]) := strsAre_append h (.cons _ _ .nil)
theorem start_words (t u v : Tok) : WordsAre [Value.str (Str.ofString "a") t, Value.str (Str.ofString "b") u, Value.str (Str.ofString "c") v] [[97], [98], [99]] := by
  rw [show Str.ofString "a" = wd [97] from by decide +kernel, show Str.ofString "b" = wd [98] from by decide +kernel, show Str.ofString "c" = wd [99] from by decide +kernel]
  exact .cons _ _ (.cons _ _ (.cons _ _ .nil))
theorem filt_no {pre : List (List Nat)} {l : List Nat} {p : List Nat → Bool} (h : p l = false) : (pre ++ [l]).filter p = pre.filter p := by
  rw [List.filter_append]
  simp only [List.filter_cons, h, Bool.false_eq_true, if_false, List.filter_nil, List.append_nil]
theorem filt_yes {pre : List (List Nat)} {l : List Nat} {p : List Nat → Bool} (h : p l = true) : (pre ++ [l]).filter p = pre.filter p ++ [l] := by
  rw [List.filter_append]
  simp only [List.filter_cons, h, if_true, List.filter_nil]
theorem ring_no1 {es : List Ent} {n : Nat} {l : List Nat} (h : closedW es l = false) : isRing es n l = false := by
  unfold isRing; rw [h]; rfl
theorem ring_no2 {es : List Ent} {n : Nat} {l : List Nat} (h : (wd l == minS (rots n l)) = false) : isRing es n l = false := by
  unfold isRing primeW; rw [h, Bool.false_and, Bool.and_false]
theorem ring_no3 {es : List Ent} {n : Nat} {l : List Nat} (h : ((reps n l).all fun y => decide (y.length ≠ 0)) = false) : isRing es n l = false := by
  unfold isRing primeW; rw [h, Bool.and_false, Bool.and_false]
theorem ring_yes {es : List Ent} {n : Nat} {l : List Nat} (h1 : closedW es l = true) (h2 : (wd l == minS (rots n l)) = true) (h3 : ((reps n l).all fun y => decide (y.length ≠ 0)) = true) : isRing es n l = true := by
  unfold isRing primeW; rw [h1, h2, h3]; rfl
theorem words_snoc {vs : List Value} {ws : List (List Nat)} {l : List Nat} {t : Tok} (h : WordsAre vs ws) : WordsAre (vs ++ [.str (wd l) t]) (ws ++ [l]) := by
  unfold WordsAre at h ⊢
  rw [List.map_append]
  exact strs_snoc1 h
end
theorem calm_l1_two : True := by w_top off; exact True.intro
section
local macro_rules | `(tactic| walk_at "idle") => `(tactic| fail)
local macro_rules | `(tactic| walk_at "idle") => `(tactic| fail)
local macro_rules | `(tactic| walk_at "idle") => `(tactic| fail)
local macro_rules | `(tactic| walk_at "idle") => `(tactic| fail)
local macro_rules | `(tactic| walk_at "idle") => `(tactic| fail)
local macro_rules | `(tactic| walk_at "idle") => `(tactic| fail)
local macro_rules | `(tactic| walk_at "idle") => `(tactic| fail)
local macro_rules | `(tactic| walk_at "idle") => `(tactic| fail)
/-- what stands behind the first clause's source; the list is stored as y -/
def TwoAs (prog : Program) (w : World) (A : Around) (h₀ : Heap) (L : Addr) (m : Str → Option Value) (env : Env) (elt : PySem.Expr) (x : Str) (i2 : PySem.Expr) (y : Str) (scope : Scope) (cl : List (Str × Addr)) (z : Str) (Q : Flow → Shared → Prop) (it : Value) (s₂ : Shared) : Prop :=
  ∃ I fp wr n P St Inv IR G news, it = .ref I ∧ TwoSrc prog w A h₀ L m env elt x i2 y scope cl news s₂ I fp wr n P St Inv IR G ∧
    ∀ D ys h tk, Inv n ys → Fr h₀ L h (fun q => if q = z then some (.ref D) else m q) → News h₀ L h ((D, LCg.lst ys) :: news) → (∀ p ∈ news, p.1 ≠ D) → Q .next { s₂ with heap := h, toks := tk }
section
variable {prog : Program} {w : World} {A : Around} {E : Value → Shared → Prop} {s : Shared} {h₀ : Heap} {L : Addr} {m : Str → Option Value} {env : Env}
theorem Assign_two {elt i1 i2 : PySem.Expr} {x y z : Str} {px py pz : Pos} {scope : Scope} {cl : List (Str × Addr)} {pos spos : Pos} {Q : Flow → Shared → Prop} (_F₀ : Fr h₀ L s.heap m) (hLe : env.locals = L)
    (hsw : swapsWith (.ListComp elt [⟨.Name x px, i1, [], 0⟩, ⟨.Name y py, i2, [], 0⟩] scope pos) (some (.Name z pz)) spos.line env = pure true)
    (hclos : closureFor scope env = pure cl) (hcell : ∀ y ∈ scope.names, y.2 ≠ .cell) (hkind : scope.kind = .function)
    (hnames : ∀ y ∈ scope.names, y.2 = .local → scope.names.lookup y.1 = some .local) (hx : scope.names.lookup x = some .local) (hy : scope.names.lookup y = some .local) (hyx : y ≠ x)
    (hz : env.kindOf z = some .local) (hp : (env.scope.kind == .class || (env.scope.kind == .module && env.locals != env.globals)) = false)
    (hh : (A.mark none).handled = none) (hf : ∀ C v, foldedSetIterable i2 (compEnvC scope cl C env) v = pure v) (hs : ∀ x, foldedSetIterable i1 env x = pure x)
    (h : wpAny (model prog w) A (eval i1 env) (fun xv s₁ => wpAny (model prog w) A (pyIter xv) (TwoAs prog w A h₀ L m env elt x i2 y scope cl z Q) E s₁) E s) :
    wpAny (model prog w) A (exec (.Assign [.Name z pz] (.ListComp elt [⟨.Name x px, i1, [], 0⟩, ⟨.Name y py, i2, [], 0⟩] scope pos) spos) env) Q E s := by
  subst hLe
  rw [exec_Assign_Name_used _ _ _ _ hsw]
  refine wpAny_bind (wpAny_standAt (wpAny_bind ?_))
  show wpAny _ A (do let _ ← comprehension (.ListComp elt [⟨.Name x px, i1, [], 0⟩, ⟨.Name y py, i2, [], 0⟩] scope pos) scope env _ (newList []) false (eval i1 env) (some (assign (.Name z pz) env))) _ _ s
  refine wpAny_bind (wpAny_mono (wpAny_comprehension_free (use := some (assign (.Name z pz) env)) (Q := fun _ s' => Q .next s') rfl hs hclos hkind hnames
    (wpAny_mono h (fun xv s₁ h₁ => wpAny_mono h₁ (fun it s₂ h₂ => ?_) fun _ _ e => e) fun _ _ e => e)) (fun _ s' hq => wpAny_pure (wpAny_pure hq)) fun _ _ e => e)
  obtain ⟨I, fp, wr, n, P, St, Inv, IR, G, news, rfl, T, fin⟩ := h₂
  refine block_two T hh hcell hkind hx hy hyx hf ?_
  intro D C h' tk m' ys hI F' N' o1 hn hC₀ hD₀ hCL hDL hCD offC
  show wpAny _ A (assign (.Name z pz) env (.ref D)) _ _ _
  refine wpAny_assign_Name (wpAny_storeName_local hz F'.ns (fun h₂ hn₂ hs₂ => ?_) hp)
  have hL₀ : h₀.get? env.locals = none := Heap.get?_none_of_le F'.above
  have F₂ : Fr h₀ env.locals h₂ (fun q => if q = z then some (.ref D) else m q) := ⟨hn₂, fun b o e => hs₂.extBut b o (fun q => by rw [q, hL₀] at e; cases e) (F'.keep b o e), F'.above⟩
  refine ⟨m', hn.sameBut hs₂ hCL, fun h'' hs'' => fin D ys h'' _ hI (F₂.change hs'' hCL hC₀) (fun p hp => ?_) o1⟩
  have z : h₂.get? p.1 = some p.2 := hs₂.extBut _ _ (N' p hp).2.1 (N' p hp).1
  refine ⟨hs''.extBut _ _ ?_ z, (N' p hp).2⟩
  rcases List.mem_cons.mp hp with rfl | hp
  · exact Ne.symm hCD
  · exact offC p hp
end
section
variable {prog : Program} {w : World} {A : Around} {E : Value → Shared → Prop} {s : Shared} {h₀ : Heap} {L : Addr} {m : Str → Option Value} {env : Env}
theorem strs_mem {vs : List Value} {ys : List Str} (h : StrsAre vs ys) {u : Value} (hu : u ∈ vs) : ∃ y t, u = .str y t ∧ y ∈ ys := by
  induction h with
  | nil => exact (List.not_mem_nil hu).elim
  | cons y t _ ih =>
    rcases List.mem_cons.mp hu with rfl | hu
    · exact ⟨y, t, rfl, .head _⟩
    · obtain ⟨y', t', e, hm⟩ := ih hu
      exact ⟨y', t', e, .tail _ hm⟩
theorem step_snoc (es : List Ent) (a : List (List Nat)) (l : List Nat) : stepW es (a ++ [l]) = stepW es a ++ (ow es l).map fun c => l ++ [c] := by
  unfold stepW
  rw [List.flatMap_append]
  simp
def GW (v u z : Value) : Prop := ∀ l t c t', v = .str (wd l) t → u = .str (ch c) t' → ∃ t'', z = .str (wd (l ++ [c])) t''
theorem pairs_words {l : List Nat} {t : Tok} : ∀ {its zs : List Value} {cs : List Nat}, Pairs (GW (.str (wd l) t)) its zs → LetsAre its cs → WordsAre zs (cs.map fun c => l ++ [c])
  | _, _, [], .nil, _ => .nil
  | _, _, [], .cons _ _, h => nomatch h
  | _, _, c :: cs, .nil, h => nomatch h
  | _, _, c :: cs, .cons g r, .cons _ _ h => by
    obtain ⟨t'', e⟩ := g l t c _ rfl rfl
    rw [e]
    exact .cons _ _ (pairs_words r h)
section
local macro_rules | `(tactic| walk_at "eval Name") => `(tactic| (refine (ldVarK (by assumption) (by assumption) ?_ (by assumption) (by assumption) (by assumption))))
theorem last_sub {x : Str} {p1 p2 p3 p4 : Pos} {k : Nat} {scope : Scope} {cl : List (Str × Addr)} {C : Addr} {mC : Str → Option Value} {n : Nat} {l : List Nat} {t : Tok} {Q : Value → Shared → Prop} (hn : s.heap.Ns (compEnvC scope cl C env).locals mC) (hv : mC x = some (.str (wd l) t))
    (hk : (compEnvC scope cl C env).scope.kind = .function) (hl : (compEnvC scope cl C env).kindOf x = some .local) (hd : (x == ("__debug__" : Str)) = false) (hw : IsW n l) (h4 : 1 ≤ n ∧ n ≤ 4)
    (h : ∀ u tk, Q (.str (ch (l.getLastD 0)) u) { s with toks := tk }) :
    wpAny (model prog w) A (eval (.Subscript (.Name x p1) (.UnaryOp .USub (.Constant (.int 1) k p2) p3) p4) (compEnvC scope cl C env)) Q E s := by
  refine Subscript_ ?_
  walk1
  walk1
  walk1
  walk1
  refine last_K hw h4 (fun u tk => ?_) (by with_unfolding_all rfl) (fun _ => rfl)
  exact h _ _
theorem glue_elt {x y : Str} {p1 p2 p3 : Pos} {scope : Scope} {cl : List (Str × Addr)} {C : Addr} {mC : Str → Option Value} {l : List Nat} {c : Nat} {t t' : Tok} {Q : Value → Shared → Prop} (hn : s.heap.Ns (compEnvC scope cl C env).locals mC) (hv : mC x = some (.str (wd l) t)) (hv2 : mC y = some (.str (ch c) t'))
    (hk : (compEnvC scope cl C env).scope.kind = .function) (hl : (compEnvC scope cl C env).kindOf x = some .local) (hd : (x == ("__debug__" : Str)) = false) (hl2 : (compEnvC scope cl C env).kindOf y = some .local) (hd2 : (y == ("__debug__" : Str)) = false) (h4 : l.length ≤ 4)
    (h : ∀ u tk, Q (.str (wd (l ++ [c])) u) { s with toks := tk }) :
    wpAny (model prog w) A (eval (.BinOp (.Name x p1) .Add (.Name y p2) p3) (compEnvC scope cl C env)) Q E s := by
  walk1
  refine ldVarK hn hv ?_ hk hl hd
  refine ldVarK hn hv2 ?_ hk hl2 hd2
  exact glue_K (a := l) (b := [c]) h4 (by decide : (1 : Nat) ≤ 4) fun u tk => h u tk
end
theorem walks_src {x y on : Str} {p1 p2 p3 p4 p5 p6 p7 p8 p9 : Pos} {kc : Nat} {scope : Scope} {cl : List (Str × Addr)} {news rest : List (Addr × Obj)} {es : List Ent} {ws : List (List Nat)} {vs : List Value} {wl D0 c : Addr} {oc oD : Obj} {kw i : Nat} {kvs : List (Str × Value)}
    (hh : A.handled = none) (hws : WordsAre vs ws) (hW : ∀ l ∈ ws, IsW (i + 1) l) (hi : i < 4) (hkv : KvOk es kvs rest 3) (hsub : ∀ p ∈ rest, p ∈ news) (he : es.length ≤ 6) (hlen : ws.length ≤ 648)
    (hwl : (wl, listOf vs.toArray kw) ∈ news) (hoc : (c, oc) ∈ news) (hocd : oc.data = .cell (some (.ref D0))) (hD : (D0, oD) ∈ news) (hoD : oD.IsDictOf (strKind prog w) kvs) (hcl : cl.lookup on = some c)
    (F : Fr h₀ L s.heap m) (N : News h₀ L s.heap news)
    (hkind : scope.kind = .function) (hx : scope.names.lookup x = some .local) (hy : scope.names.lookup y = some .local) (hon : ∀ C, (compEnvC scope cl C env).kindOf on = some .cell) (dx : (x == ("__debug__" : Str)) = false) (dy : (y == ("__debug__" : Str)) = false) (don : (on == ("__debug__" : Str)) = false) :
    TwoSrc prog w A h₀ L m env (.BinOp (.Name x p1) .Add (.Name y p2) p3) x (.Subscript (.Name on p4) (.Subscript (.Name x p5) (.UnaryOp .USub (.Constant (.int 1) kc p6) p7) p8) p9) y scope cl news { s with heap := s.heap.push { cls := .type "list_iterator", data := .fields #[.ref wl, .int 0 0] } } s.heap.objs.size [s.heap.objs.size, wl] [s.heap.objs.size] vs.toArray.size (fun j v _ => vs.toArray[j]? = some v)
      (fun j h => h.IsListIter s.heap.objs.size wl j ∧ h.IsList wl vs.toArray) (fun j ys => WordsAre ys (stepW es (ws.take j))) (fun j v its => ∃ l t, ws[j]? = some l ∧ v = Value.str (wd l) t ∧ LetsAre its (ow es l)) GW := by
  have hlw : s.heap.IsList wl vs.toArray := News.isList N hwl
  have hlt : wl < s.heap.objs.size := by obtain ⟨_, e, _⟩ := hlw; exact Heap.lt_size e
  have hat : ∀ j v, vs.toArray[j]? = some v → ∃ l t, ws[j]? = some l ∧ v = Value.str (wd l) t := fun j v hv => by
    obtain ⟨y, t, rfl, e⟩ := StrsAre.item hws j v (by rw [← List.getElem?_toArray]; exact hv)
    rw [List.getElem?_map, Option.map_eq_some_iff] at e
    obtain ⟨l, e1, rfl⟩ := e
    exact ⟨l, t, e1, rfl⟩
  have hsz : vs.toArray.size = ws.length := by rw [List.size_toArray, hws.len_eq, List.length_map]
  refine { W := Outer.ofWalks (Walks.list hh _ wl (Nat.ne_of_lt hlt) vs.toArray), st := ⟨⟨_, Heap.get?_push_size _ rfl, rfl, rfl⟩, hlw.push _⟩, fpl := ?_, wrl := ?_, off := ?_, F := F.push _, N := N.grown fun _ _ e => Heap.get?_push_of_some _ e, i0 := by simp only [List.take_zero]; exact .nil, i1 := ?_, sz := ?_, sub := ?_, elt := ?_ }
  · intro b hb
    show b < (s.heap.push _).objs.size
    rw [Heap.size_push]
    rcases List.mem_cons.mp hb with rfl | hb
    · exact Nat.lt_succ_self _
    · rw [List.mem_singleton.mp hb]; exact Nat.lt_succ_of_lt hlt
  · intro b hb
    rw [List.mem_singleton.mp hb]
    exact ⟨next_is_new F, Ne.symm (Nat.ne_of_lt F.ns.lt)⟩
  · intro p hp hm
    rw [List.mem_singleton] at hm
    exact absurd (Heap.lt_size (N p hp).1) (hm ▸ Nat.lt_irrefl _)
  · rintro j v ys its zs hj hI ⟨l, t, el, rfl, hlet⟩ hP
    have e : ws.take (j + 1) = ws.take j ++ [l] := by rw [List.take_add_one, el]; rfl
    rw [e, step_snoc]
    show StrsAre _ _
    rw [List.map_append]
    exact strsAre_append hI (pairs_words hP hlet)
  · rintro j v ys its hj hI ⟨l, t, el, rfl, hlet⟩
    have h1 := hI.len_eq
    have h2 := hlet.len_eq
    rw [List.length_map] at h1 h2
    have h3 := flat_len (f := fun l => (ow es l).map fun c => l ++ [c]) (K := 6) (ws.take j) fun l _ => by
      rw [List.length_map]; exact Nat.le_trans (onw_len es _) he
    have h4 : (ws.take j).length ≤ 648 := Nat.le_trans (by rw [List.length_take]; omega) hlen
    have h5 : (ow es l).length ≤ 6 := Nat.le_trans (onw_len es _) he
    have h6 : (stepW es (ws.take j)).length ≤ (ws.take j).length * 6 := h3
    rw [sizeLine_eq]
    omega
  · intro C j v s' mC E' hj hP hnC hv F' N'
    obtain ⟨l, t, el, rfl⟩ := hat j v hP
    have hw := hW l (List.mem_of_getElem? el)
    obtain ⟨lo, vlo, nlo, e1, e2, e3⟩ := hkv.look (item_facts ⟨by omega, by omega⟩ hw).2.2.1
    refine Subscript_ (lcf_cell N' hcl hoc hocd ?_ hkind (hon C) don)
    refine last_sub hnC hv hkind (lookup_relabel_local hx) dx hw ⟨by omega, by omega⟩ fun u tk => ?_
    refine kda_item (knd := strKind prog w) (s := { s' with toks := tk }) N' hD hoD (strKind_is _ _ _ _) e1 ?_ (by with_unfolding_all rfl) (fun _ => rfl)
    exact ⟨⟨_, _, rfl, fun _ _ e => e⟩, lo, vlo, rfl, ⟨l, t, el, rfl, e3⟩, .inr ⟨nlo, hsub _ e2⟩⟩
  · rintro C j v its u s' m₂ E' hj ⟨l, t, el, rfl, hlet⟩ hu hn hv hu' F' N'
    obtain ⟨z, t', rfl, hz⟩ := strs_mem hlet hu
    obtain ⟨c', hc', rfl⟩ := List.mem_map.mp hz
    have hw := hW l (List.mem_of_getElem? el)
    refine glue_elt hn hv hu' hkind (lookup_relabel_local hx) dx (lookup_relabel_local hy) dy (by have := hw.len; omega) fun u tk => ?_
    refine ⟨fun l1 t1 c1 t2 ea eb => ?_, ⟨_, _, rfl, fun _ _ e => e⟩⟩
    have e1 : l1 = l := by injection ea with ea _; injection ea with ea; exact (by simpa using ea : l = l1).symm
    have e2 : c1 = c' := by injection eb with eb _; exact (ch_inj eb).symm
    rw [e1, e2]
    exact ⟨_, rfl⟩
end
end
theorem calm_l1_rings : True := by w_top off; exact True.intro
section
section
local macro_rules | `(tactic| k_room) => `(tactic| ktr_room)
local macro_rules | `(tactic| cell_enter) => `(tactic| (refine' code_defC ?k1 ?k2 ?k3 ?k4 ?k5 ?kA ?kF ?kK ?k6 ?k7 ?k8 ?k9 ?kB ?kD ?_ ?c2 ?c3 ?c4; (case kA => exact rfl); (case kF => exact rfl); (case kK => assumption); (case k1 => k_asm); (case k2 => k_asm); (case k3 => k_asm); (case k4 => k_asm); (case k5 => k_asm); (case k6 => k_is); (case k7 => k_is); (case k8 => ktr_room); (case k9 => exact BindsTo.of_eq rfl); (case kB => exact rfl); (case kD => decide +kernel); (case c2 => exact rfl); (case c3 => exact rfl); (case c4 => exact rfl); k_whole; intro g' L' h' tk' cells' FG' F' N' Y' B' X' T' l1; (try k_lt l1); k_cells Y'; (try simp only [List.cons_append, List.nil_append] at N'); (try dsimp only); (try k_lift B'); (try k_fold)))
local macro_rules | `(tactic| walk_at "call ref") => `(tactic| (refine Stop.mk ?_))
local macro_rules | `(tactic| is_list) => `(tactic| exact News.isList (by k_asm) (by k_mem))
local macro_rules | `(tactic| walk_at "eval DictComp") => `(tactic| (k_here; k_dflt (refine' DictComp_S ?F ?c1 ?c2 ?c3 ?c4 ?c5 ?_ ?c6; (case F => k_asm); (case c1 => first | rfl | (with_unfolding_all rfl)); (case c2 => decide); (case c3 => rfl); (case c4 => decide); (case c5 => rfl); (case c6 => intro _; rfl); k_whole)))
local macro_rules | `(tactic| walk_at "DSrc") => `(tactic| (refine Stop.mk ?_))
local macro_rules | `(tactic| walk_at "RangeRest") => `(tactic| (refine Stop.mk ?_))
local macro_rules | `(tactic| walk_at "eval Name") => `(tactic| (k_here; k_dflt (refine' nameX_L ?F ?v ?_ ?a ?b; (case F => k_asm); (case a => rfl); (case b => rfl); (case v => first | assumption | exact if_pos rfl | exact (if_neg (by decide)).trans (by assumption) | exact (if_neg (by decide)).trans (if_pos rfl) | exact (if_neg (by decide)).trans ((if_neg (by decide)).trans (by assumption))); k_whole)))
local macro_rules | `(tactic| walk_at "pyIter ref") => `(tactic| ((fail_if_success (rename IsRange _ _ _ _ _ _ _ _ => hr9)); refine Stop.mk ?_))
local macro_rules | `(tactic| walk_at "exec For Name Name cons nil") => `(tactic| (k_here; (rename Fr _ _ _ _ => lF'); (with_unfolding_all refine' For_turns lF' ?_; k_whole)))
local macro_rules | `(tactic| walk_at "subscriptTail Name Constant str int") => `(tactic| (k_here; (with_reducible show wpAny _ _ (subscriptTail _ _ (Value.str (wd _) _) (Value.int 0 _)) _ _ _); k_dflt (refine' first_K ?a ?b ?_ ?s ?t; (case a => assumption); (case b => omega); (case s => with_unfolding_all rfl); (case t => kmk_pure)); intro t' k'))
local macro_rules | `(tactic| walk_at "subscriptTail Name UnaryOp str int") => `(tactic| (k_here; (with_reducible show wpAny _ _ (subscriptTail _ _ (Value.str (wd _) _) (Value.int (-1) _)) _ _ _); k_dflt (refine' last_K ?a ?b ?_ ?s ?t; (case a => assumption); (case b => omega); (case s => with_unfolding_all rfl); (case t => kmk_pure)); intro t' k'))
local macro_rules | `(tactic| walk_at "subscriptTail") => `(tactic| (k_here; (with_reducible show wpAny _ _ (subscriptTail _ _ (Value.ref _) (Value.str (ch _) _)) _ _ _); k_dflt (refine' kda_item (knd := strKind _ _) ?n ?m ?d (strKind_is _ _ _ _) ?v ?_ ?s ?g; (case n => k_asm); (case m => k_mem); (case d => k_asm); (case v => assumption); (case s => with_unfolding_all rfl); (case g => intro _; with_unfolding_all rfl))))
local macro_rules | `(tactic| walk_at "compareOp In str ref") => `(tactic| (k_here; refine in_list_strs (by is_list) (by assumption) ?_))
local macro_rules | `(tactic| walk_at "exec Assign cons ListComp") => `(tactic| (k_here; k_dflt (refine' Assign_two ?F ?L ?sw ?c1 ?c2 ?c3 ?c4 ?c5 ?c6 ?c7 ?c8 ?c9 ?d1 ?d2 ?d3 ?_; (case F => k_asm); (case L => rfl); (case sw => with_unfolding_all rfl); (case c1 => with_unfolding_all rfl); (case c2 => decide); (case c3 => rfl); (case c4 => decide); (case c5 => rfl); (case c6 => rfl); (case c7 => decide); (case c8 => rfl); (case c9 => rfl); (case d1 => rfl); (case d2 => intros; rfl); (case d3 => intros; rfl); k_whole)))
local macro_rules | `(tactic| walk_at "CompSrc") => `(tactic| (refine Stop.mk ?_))
local macro_rules | `(tactic| walk_at "subscriptTail Name Slice str ref") => `(tactic| (k_here; (with_reducible show wpAny _ _ (subscriptTail _ _ (Value.str (wd _) _) (Value.ref _)) _ _ _); k_dflt (first | (refine' from_K ?F ?N ?a ?b ?c ?_ ?s ?t; (case F => k_asm); (case N => k_asm); (case a => omega); (case b => omega); (case c => omega); (case s => with_unfolding_all rfl); (case t => kmk_pure)) | (refine' to_K ?F ?N ?a ?b ?c ?_ ?s ?t; (case F => k_asm); (case N => k_asm); (case a => omega); (case b => omega); (case c => omega); (case s => with_unfolding_all rfl); (case t => kmk_pure))); intro h' t' c' F' N'))
local macro_rules | `(tactic| walk_at "binaryOp Add str str") => `(tactic| (k_here; (refine glue_K (by simp only [List.length_drop, List.length_take]; omega) (by simp only [List.length_drop, List.length_take]; omega) ?_); intro t' k'))
local macro_rules | `(tactic| walk_at "call builtin:min") => `(tactic| (k_here; (refine' min_strs ?h ?F ?N ?l ?i ?z ?_; (case h => rfl); (case F => k_asm); (case N => k_asm); (case l => is_list); (case i => assumption); (case z => simp only [List.length_map, List.length_range]; omega)); intro h' t' k' F' N'))
local macro_rules | `(tactic| walk_at "call builtin:all") => `(tactic| (k_here; (refine' all_strs ?F ?N ?h ?l ?i ?z ?_; (case h => rfl); (case F => k_asm); (case N => k_asm); (case l => is_list); (case i => assumption); (case z => assumption)); intro h' k' F' N'))
set_option maxHeartbeats 0 in
theorem c_rings (w : World) (p : Program) (loose : List Str) (mean : ExcName → Option Value) (mg mb : Str → Option Value)
  (dp un : Nat) (gd : Option (List Code)) (cn : Str) (cs : Scope) (a : Addr) (ccd : Value) (cl : List (Str × Addr)) (outer : List Env) (A₀ : Around) (base h₀ : Heap) (L : Addr) (m : Str → Option Value) (s : Shared) (Q E : Value → Shared → Prop) (rest : List (Addr × Obj))
  (hB : Below A₀ base outer h₀) (hF : Fr h₀ L s.heap m) (hX : (hd01.heap_39 w.params).In h₀) (hT : Top p loose mean mg mb h₀) (hk : cs.kind = .function)
  (hd : dp + 40 < recursionLimit) (hu : un + 200 < cLine)
  (T dx D : Addr) (n : Nat) (tt : Tok) (es : List Ent) (hes6 : es.length ≤ 6) (hE : EntsIn es rest)
  (hNw : News h₀ L s.heap ((T, instObj 182 dx) :: (dx, hdDict w D tt) :: (D, listOf (entVals es).toArray n) :: rest))
  (hret : ∀ (rl : Addr) (kr : Nat) (vsr : List Value) (h' : Heap) (tk' : Nat), WordsAre vsr (ringsTo es 4) → (∀ p ∈ (T, instObj 182 dx) :: (dx, hdDict w D tt) :: (D, listOf (entVals es).toArray n) :: rest, p.1 < rl) → Fr h₀ L h' m → News h₀ L h' ((rl, listOf vsr.toArray kr) :: (T, instObj 182 dx) :: (dx, hdDict w D tt) :: (D, listOf (entVals es).toArray n) :: rest) → Q (.ref rl) { s with heap := h', toks := tk' }) :
  wpAny (model PySem.Challenge.rw_pg0294_01.row.prog w) (ktrTop dp un gd cn cs L a ccd cl outer) (call (.ref 240) [.ref T]) Q E s := by
  have hes : es.length ≤ 1000 := by omega
  refine wpAny_call ?_
  k_dflt cell_enter
  k_steps
  rename_i gC LC hC tkC FGC FC BC XC TC l1C oc1 oc2 oc3 dc1 dc2 dc3 NC
  have hsf : ∀ i, i < 3 → Safe (ch (97 + i)) := fun i hi => safe_ch ⟨by omega, by omega⟩
  refine Stop.out ⟨_, _, _, rfl, rfl, by rw [abc_size]; decide, by k_asm, by k_asm, ?_⟩
  rintro s₂ ⟨g9, rfl⟩
  rw [abc_size]
  refine' (?H : ∀ (k i : Nat) (kvs : List (Str × Value)) (rest' : List (Addr × Obj)), i + k = 3 → EntsIn es rest' → (∀ p ∈ rest, p ∈ rest') → KvOk es kvs rest' i → (∀ p ∈ rest', p.1 ≠ LC + 1) → (∀ p ∈ rest', p.1 ≠ LC + 1 + 1) → (∀ p ∈ rest', p.1 ≠ LC + 1 + 1 + 1) → DRest _ _ _ _ _ _ _ _ _ _ _ _ _ _ _ k i kvs (_ :: _ :: _ :: _ :: _ :: _ :: rest')) 3 0 [] rest rfl hE (fun _ h => h) KvOk.nil (allLt_le l1C.2.2.2 (by omega)) (allLt_le l1C.2.2.2 (by omega)) (allLt_le l1C.2.2.2 (by omega))
  intro k
  induction k with
  | zero =>
    intro i kvs rest' hik hE' hsb hkv hr1 hr2 hr3
    obtain rfl : i = 3 := hik
    refine DRest.zero ?_
    intro D0 oD0 h9 tk9 hdi F9 N9 o9
    simp only [LCg.Off1, and_true] at o9
    (try dsimp only)
    k_steps
    rename_i rl zh1 zl1 zh2 ztk wl0 zh3 zl2 zh4 zF zN zh5 ztk2 zt zu zv zr zk zi zl3
    refine' Stop.out ((?H2 : ∀ (k i : Nat) (m : Str → Option Value) (oc : Obj) (ov : Option Value) (wl : Addr) (kw kr : Nat) (vsw vsr : List Value), i + k = 4 → oc.data = .cell ov → WordsAre vsw (walksAt es i) → WordsAre vsr (ringsTo es i) → @Ne Nat wl (LC + 1 + 1 + 1) → @Ne Nat D0 wl → @Ne Nat rl wl →
      m (Str.ofString "rings") = some (.ref rl) → m (Str.ofString "walks") = some (.ref wl) → RangeRest _ _ _ _ _ _ _ _ _ _ _ _ _ k i m ((wl, listOf vsw.toArray kw) :: (rl, listOf vsr.toArray kr) :: (D0, oD0) :: (LC + 1 + 1 + 1, oc) :: (LC + 1 + 1, _) :: (LC + 1, oc3) :: (T, instObj 182 dx) :: (dx, hdDict w D tt) :: (D, listOf (entVals es).toArray n) :: rest')) 4 0 _ _ _ _ _ _ _ _ rfl dc1 (start_words _ _ _) .nil ?z1 ?z2 ?z3 ?z4 ?z5)
    (case z1 => exact Nat.ne_of_gt zl2.2.2.1)
    (case z2 => exact Nat.ne_of_lt zl2.2.1)
    (case z3 => exact Nat.ne_of_lt zl2.1)
    (case z4 => rfl)
    (case z5 => rfl)
    intro k
    induction k with
    | zero =>
      intro i m oc ov wl kw kr vsw vsr hik hoc hW hR lw1 lw2 lw3 m1 m2
      obtain rfl : i = 4 := hik
      refine RangeRest.zero (fun h9 tk9 F9 N9 => ?_)
      (try dsimp only)
      k_steps
      rename News h₀ L _ _ => Nz
      have zr9 := zl1.2.2.2.2
      exact hret _ _ _ _ _ hR (List.forall_mem_cons.mpr ⟨zr9.1, List.forall_mem_cons.mpr ⟨zr9.2.1, List.forall_mem_cons.mpr ⟨zr9.2.2.1, fun p hp => allLt_lt zr9.2.2.2 p (hsb p hp)⟩⟩⟩) (by k_asm) (news_sub Nz (sub_cons (by k_mem) (sub_cons (by k_mem) (sub_cons (by k_mem) (sub_cons (by k_mem) (fun p hp => by repeat (first | exact hsb p hp | refine List.Mem.tail _ ?_)))))))
    | succ k ih =>
      intro i m oc ov wl kw kr vsw vsr hik hoc hW hR lw1 lw2 lw3 m1 m2
      refine RangeRest.succ (fun t9 h9 tk9 F9 N9 => ?_)
      (try dsimp only)
      k_steps
      have hi4 : i < 4 := by omega
      have hWi := walks_are hE i
      refine' Stop.out (iter_lst (lo := listOf vsw.toArray kw) (vs := vsw) (n := kw) (by with_unfolding_all rfl) (by k_asm) (by k_asm) (by k_mem) rfl rfl ?_)
      intro I2 l2
      try k_lt l2
      refine' (?H3 : ∀ (r : List (List Nat)) (rem : List Value) (pre : List (List Nat)) (m : Str → Option Value) (oc : Obj) (ov : Option Value) (kr : Nat) (vsr : List Value), WordsAre rem r → walksAt es i = pre ++ r → oc.data = .cell ov → WordsAre vsr (ringsTo es i ++ pre.filter (isRing es (i + 1))) →
        m (Str.ofString "rings") = some (.ref rl) → m (Str.ofString "walks") = some (.ref wl) → m (Str.ofString "size") = some (.int (1 + (i : Int)) t9) → LRest _ _ _ _ _ _ _ _ _ _ I2 wl (listOf vsw.toArray kw) rem m (_ :: (wl, listOf vsw.toArray kw) :: (rl, listOf vsr.toArray kr) :: (D0, oD0) :: (LC + 1 + 1 + 1, oc) :: (LC + 1 + 1, _) :: (LC + 1, oc3) :: (T, instObj 182 dx) :: (dx, hdDict w D tt) :: (D, listOf (entVals es).toArray n) :: rest')) (walksAt es i) vsw [] _ _ _ _ _ hW rfl hoc ?y1 ?y2 ?y3 ?y4
      (case y1 => rw [List.filter_nil, List.append_nil]; exact hR)
      (case y2 => exact (if_neg (by decide)).trans m1)
      (case y3 => exact (if_neg (by decide)).trans m2)
      (case y4 => exact if_pos rfl)
      intro r
      induction r with
      | nil =>
        intro rem pre m oc ov kr vsr hrem hpre hoc hR m1 m2 m3
        cases hrem
        rw [List.append_nil] at hpre
        intro h9 tk9 F9 N9
        (try dsimp only)
        subst hpre
        k_steps
        rename News _ _ _ _ => kN
        refine Stop.out (wpAny_pyIter_list (News.isList kN (by k_mem)) ?_)
        refine' ⟨_, _, _, _, _, _, _, _, _, _, rfl, walks_src (i := i) (es := es) (ws := walksAt es i) (vs := vsw) (rest := rest') (wl := wl) (kw := kw) (c := LC + 1 + 1) (D0 := D0) (oD := oD0) (kvs := kvs) ?r0 hW hWi hi4 hkv ?ss hes6 ?sl ?m1 ?m2 ?m3 ?m4 hdi ?r1 ?r2 kN ?r3 ?r4 ?r5 ?r6 ?d1 ?d2 ?d3, ?fin⟩
        (case r0 => rfl)
        (case m1 => k_mem)
        (case m2 => k_mem)
        (case m3 => assumption)
        (case m4 => k_mem)
        (case r1 => rfl)
        (case r2 => k_asm)
        (case r3 => rfl)
        (case r4 => rfl)
        (case r5 => rfl)
        (case r6 => exact fun _ => rfl)
        (case d1 => decide)
        (case d2 => decide)
        (case d3 => decide)
        (case ss => exact fun p hp => by repeat (first | exact hp | refine List.Mem.tail _ ?_))
        (case sl => exact Nat.le_trans (walks_len hes6 i (by omega)) (Nat.le_trans (Nat.mul_le_mul_left 3 (Nat.pow_le_pow_right (by decide) (show i ≤ 3 by omega))) (by decide)))
        intro D9 ys9 h9 tk9 hI9 F9 N9 o9'
        (try dsimp only)
        k_steps
        have hlw : (walksAt es i).length ≤ vsw.toArray.size := by rw [List.size_toArray, hW.len_eq, List.length_map]; exact Nat.le_refl _
        rw [List.take_of_length_le hlw] at hI9
        have nz : @Ne Nat zi D9 := o9' (zi, _) (by k_mem)
        have nr : @Ne Nat rl D9 := o9' (rl, _) (by k_mem)
        have nD : @Ne Nat D0 D9 := o9' (D0, _) (by k_mem)
        have nC : @Ne Nat (LC + 1 + 1 + 1) D9 := o9' (LC + 1 + 1 + 1, _) (by k_mem)
        refine UnrEnd.intro (by k_asm) N9 ((D9, listOf ys9.toArray ys9.length) :: (rl, listOf vsr.toArray kr) :: (D0, oD0) :: (LC + 1 + 1 + 1, oc) :: (LC + 1 + 1, _) :: (LC + 1, oc3) :: (T, instObj 182 dx) :: (dx, hdDict w D tt) :: (D, listOf (entVals es).toArray n) :: rest') (sub_cons (by k_mem) (sub_cons (by k_mem) (sub_cons (by k_mem) (sub_cons (by k_mem) (sub_cons (by k_mem) (sub_cons (by k_mem) (sub_cons (by k_mem) (sub_cons (by k_mem) (sub_cons (by k_mem) (sub_cons (by k_mem) (fun p hp => by repeat (first | exact hp | refine List.Mem.tail _ ?_)))))))))))) ?off (ih (i + 1) _ oc ov D9 ys9.length kr ys9 vsr (by omega) hoc hI9 hR (Ne.symm nC) nD nr ?n1 ?n2)
        (case off => exact List.forall_mem_cons.mpr ⟨Ne.symm nz, List.forall_mem_cons.mpr ⟨Nat.ne_of_lt zl3.2.1, List.forall_mem_cons.mpr ⟨Nat.ne_of_lt zl3.2.2.1, List.forall_mem_cons.mpr ⟨Nat.ne_of_lt zl3.2.2.2.1, List.forall_mem_cons.mpr ⟨Nat.ne_of_lt zl3.2.2.2.2.1, List.forall_mem_cons.mpr ⟨Nat.ne_of_lt zl3.2.2.2.2.2.1, List.forall_mem_cons.mpr ⟨Nat.ne_of_lt zl3.2.2.2.2.2.2.1, List.forall_mem_cons.mpr ⟨Nat.ne_of_lt zl3.2.2.2.2.2.2.2.1, List.forall_mem_cons.mpr ⟨Nat.ne_of_lt zl3.2.2.2.2.2.2.2.2.1, allLt_off zl3.2.2.2.2.2.2.2.2.2⟩⟩⟩⟩⟩⟩⟩⟩⟩)
        (case n1 => exact (if_neg (by decide)).trans m1)
        (case n2 => exact if_pos rfl)
      | cons l r ihr =>
        intro rem pre m oc ov kr vsr hrem hpre hoc hR m1 m2 m3
        cases hrem with | cons _ lt hrem =>
        have hl : IsW (i + 1) l := hWi l (by rw [hpre]; simp)
        obtain ⟨lo, vlo, nlo, e1, e2, e3⟩ := hkv.look (item_facts ⟨by omega, by omega⟩ hl).2.2.1
        have hlo : @Ne Nat lo (LC + 1 + 1 + 1) := hr3 _ e2
        intro h9 tk9 oI iI cI dI F9 N9
        have N8 := news_cons (x := (lo, listOf vlo.toArray nlo)) N9 (by repeat (first | exact e2 | refine List.Mem.tail _ ?_))
        (try dsimp only)
        have hll : l.length = i + 1 := hl.len
        have hrsz : vsr.toArray.size ≤ sizeLine := by
          have h1 := hR.len_eq
          have h2 := rings_len hes6 i (by omega)
          have h3 := walks_len hes6 i (by omega)
          have h4 : (6 : Nat) ^ i ≤ 6 ^ 3 := Nat.pow_le_pow_right (by decide) (by omega)
          have h5 := List.length_filter_le (isRing es (i + 1)) pre
          have h6 : pre.length ≤ (walksAt es i).length := by rw [hpre, List.length_append]; omega
          rw [List.length_map, List.length_append] at h1
          rw [List.size_toArray, sizeLine_eq]
          omega
        k_steps
        rotate_left
        · rename (_ = false) => hcl
          rename News _ _ _ _ => kN
          rename (Obj.data _ = Data.cell (some (Value.str (wd l) _))) => dW
          refine unrEnd_one (I := I2) (o := oI) (news' := (zi, _) :: (wl, listOf vsw.toArray kw) :: (rl, listOf vsr.toArray kr) :: (D0, oD0) :: (LC + 1 + 1 + 1, _) :: (LC + 1 + 1, _) :: (LC + 1, oc3) :: (T, instObj 182 dx) :: (dx, hdDict w D tt) :: (D, listOf (entVals es).toArray n) :: rest') (by k_asm) (news_sub kN (sub_cons (by k_mem) (sub_cons (by k_mem) (sub_cons (by k_mem) (sub_cons (by k_mem) (sub_cons (by k_mem) (sub_cons (by k_mem) (sub_cons (by k_mem) (sub_cons (by k_mem) (sub_cons (by k_mem) (sub_cons (by k_mem) (sub_cons (by k_mem) (fun p hp => by repeat (first | exact hp | refine List.Mem.tail _ ?_)))))))))))))) (by walk_at "off_all") ⟨by k_mem, ihr _ (pre ++ [l]) _ _ _ (kr) vsr hrem (by rw [hpre]; simp) dW ?_ m1 m2 m3⟩
          rw [filt_no (ring_no1 hcl)]; exact hR
        rename (_ = true) => hcl
        refine' Stop.out (LCg.CompSrc.range (n := i + 1) (by rfl) (by k_asm) (by k_asm) (by assumption) (size_range hi4).1.1 (size_range hi4).1.2 (by rw [sizeLine_eq]; omega) ?_)
        intro g8
        refine' (?H4 : ∀ (k j : Nat) (ys : List Value), j + k = i + 1 → StrsAre ys ((List.range j).map fun q => wd (rot l q)) → LCg.CompRest _ _ _ _ _ _ _ _ _ _ _ _ _ _ _ k j ys _) (i + 1) 0 [] (by omega) .nil
        intro k
        induction k with
        | succ k ihk =>
          intro j ys hjk hys
          refine LCg.CompRest.succ ?_
          intro v I oI' C oC D' m₂ h9 tk9 E' hv hC hx F9 N9 off ne
          simp only [LCg.Off3, and_true] at off
          obtain ⟨tv, rfl⟩ := hv
          have hj4 : j ≤ i := by omega
          k_steps
          refine comp_end (by k_asm) (by k_asm) (by simp only [LCg.Off3, and_true]; exact off) True.intro (ihk (j + 1) _ (by omega) ?_)
          rw [List.range_succ, List.map_append, show ((0 : Int) + (j : Int)).toNat = j from by omega]
          exact strs_snoc1 hys
        | zero =>
          intro j ys hjk hys
          obtain rfl : j = i + 1 := by omega
          refine LCg.CompRest.zero ?_
          k_steps
          rotate_left
          · rename (_ = false) => hmi
            rename News _ _ _ _ => kN
            rename (Obj.data _ = Data.cell (some (Value.str (wd l) _))) => dW
            refine unrEnd_one (I := I2) (o := oI) (news' := (zi, _) :: (wl, listOf vsw.toArray kw) :: (rl, listOf vsr.toArray kr) :: (D0, oD0) :: (LC + 1 + 1 + 1, _) :: (LC + 1 + 1, _) :: (LC + 1, oc3) :: (T, instObj 182 dx) :: (dx, hdDict w D tt) :: (D, listOf (entVals es).toArray n) :: rest') (by k_asm) (news_sub kN (sub_cons (by k_mem) (sub_cons (by k_mem) (sub_cons (by k_mem) (sub_cons (by k_mem) (sub_cons (by k_mem) (sub_cons (by k_mem) (sub_cons (by k_mem) (sub_cons (by k_mem) (sub_cons (by k_mem) (sub_cons (by k_mem) (sub_cons (by k_mem) (fun p hp => by repeat (first | exact hp | refine List.Mem.tail _ ?_)))))))))))))) (by walk_at "off_all") ⟨by k_mem, ihr _ (pre ++ [l]) _ _ _ (kr) vsr hrem (by rw [hpre]; simp) dW ?_ m1 m2 m3⟩
            rw [filt_no (ring_no2 hmi)]; exact hR
          rename (_ = true) => hmi
          refine' Stop.out (LCg.CompSrc.range (n := i) (by rfl) (by k_asm) (by k_asm) (by assumption) (size_range hi4).2.1 (size_range hi4).2.2 (by rw [sizeLine_eq]; omega) ?_)
          intro g8
          refine' (?H5 : ∀ (k j : Nat) (ys : List Value), j + k = i → StrsAre ys ((List.range j).map fun q => rp l (1 + q)) → LCg.CompRest _ _ _ _ _ _ _ _ _ _ _ _ _ _ _ k j ys _) i 0 [] (by omega) .nil
          intro k
          induction k with
          | succ k ihk =>
            intro j ys hjk hys
            refine LCg.CompRest.succ ?_
            intro v I oI' C oC D' m₂ h9 tk9 E' hv hC hx F9 N9 off ne
            simp only [LCg.Off3, and_true] at off
            obtain ⟨tv, rfl⟩ := hv
            have hj4 : j < i := by omega
            k_steps
            rename News _ _ _ _ => kN
            rw [show ((1 : Int) + (j : Int)).toNat = 1 + j from by omega]
            refine' Stop.out (c_rep1 _ _ _ _ _ _ _ _ _ _ _ _ _ _ _ _ _ _ _ _ _ _ _ _ ?q2B ?q2F ?q2X ?q2T ?q2K ?q2D ?q2U _ _ _ _ _ _ _ (rep_word (n := i + 1) (by omega) hl (by omega) (by omega)) kN ?q2r)
            (case q2B => k_asm)
            (case q2F => k_asm)
            (case q2X => k_asm)
            (case q2T => k_asm)
            (case q2K => first | exact rfl | assumption)
            (case q2D => ktr_room)
            (case q2U => ktr_units)
            intro u8 h8 tk8 F8 N8
            (try dsimp only)
            k_steps
            refine comp_end (by k_asm) (by k_asm) (by simp only [LCg.Off3, and_true]; exact off) True.intro (ihk (j + 1) _ (by omega) ?_)
            rw [List.range_succ, List.map_append]
            exact strs_snoc1 hys
          | zero =>
            intro j ys hjk hys
            obtain rfl : i = j := by omega
            refine LCg.CompRest.zero ?_
            have hrl : ∀ y ∈ (List.range i).map fun q => rp l (1 + q), y.length ≤ 1000 := fun y hy => by
              obtain ⟨q, hq, rfl⟩ := List.mem_map.mp hy
              exact rp_len (by omega) hl (by have := List.mem_range.mp hq; omega)
            k_steps
            rotate_left
            · rename (_ = false) => hal
              rename News _ _ _ _ => kN
              rename (Obj.data _ = Data.cell (some (Value.str (wd l) _))) => dW
              refine unrEnd_one (I := I2) (o := oI) (news' := (zi, _) :: (wl, listOf vsw.toArray kw) :: (rl, listOf vsr.toArray kr) :: (D0, oD0) :: (LC + 1 + 1 + 1, _) :: (LC + 1 + 1, _) :: (LC + 1, oc3) :: (T, instObj 182 dx) :: (dx, hdDict w D tt) :: (D, listOf (entVals es).toArray n) :: rest') (by k_asm) (news_sub kN (sub_cons (by k_mem) (sub_cons (by k_mem) (sub_cons (by k_mem) (sub_cons (by k_mem) (sub_cons (by k_mem) (sub_cons (by k_mem) (sub_cons (by k_mem) (sub_cons (by k_mem) (sub_cons (by k_mem) (sub_cons (by k_mem) (sub_cons (by k_mem) (fun p hp => by repeat (first | exact hp | refine List.Mem.tail _ ?_)))))))))))))) (by walk_at "off_all") ⟨by k_mem, ihr _ (pre ++ [l]) _ _ _ (kr) vsr hrem (by rw [hpre]; simp) dW ?_ m1 m2 m3⟩
              rw [filt_no (ring_no3 (n := i + 1) hal)]; exact hR
            rename (_ = true) => hal
            rename News _ _ _ _ => kN
            have Nq : News _ _ _ ((rl, listOf vsr.toArray kr) :: (I2, oI) :: (zi, _) :: (wl, listOf vsw.toArray kw) :: (D0, oD0) :: (LC + 1 + 1 + 1, _) :: (LC + 1 + 1, _) :: (LC + 1, oc3) :: (T, instObj 182 dx) :: (dx, hdDict w D tt) :: (D, listOf (entVals es).toArray n) :: rest') := news_sub kN (sub_cons (by k_mem) (sub_cons (by k_mem) (sub_cons (by k_mem) (sub_cons (by k_mem) (sub_cons (by k_mem) (sub_cons (by k_mem) (sub_cons (by k_mem) (sub_cons (by k_mem) (sub_cons (by k_mem) (sub_cons (by k_mem) (sub_cons (by k_mem) (fun p hp => by repeat (first | exact hp | refine List.Mem.tail _ ?_)))))))))))))
            refine append_K (its := vsr.toArray) (n := kr) (by k_asm) Nq (Upd.head ?off) ?_ ?sz
            (case off => exact List.forall_mem_cons.mpr ⟨Nat.ne_of_gt l2.2.2.1, List.forall_mem_cons.mpr ⟨Nat.ne_of_gt zl3.2.1, List.forall_mem_cons.mpr ⟨Ne.symm lw3, List.forall_mem_cons.mpr ⟨Nat.ne_of_lt zl1.1, List.forall_mem_cons.mpr ⟨Nat.ne_of_lt zl1.2.1, List.forall_mem_cons.mpr ⟨Nat.ne_of_lt zl1.2.2.1, List.forall_mem_cons.mpr ⟨Nat.ne_of_lt zl1.2.2.2.1, List.forall_mem_cons.mpr ⟨Nat.ne_of_lt zl1.2.2.2.2.1, List.forall_mem_cons.mpr ⟨Nat.ne_of_lt zl1.2.2.2.2.2.1, List.forall_mem_cons.mpr ⟨Nat.ne_of_lt zl1.2.2.2.2.2.2.1, allLt_off zl1.2.2.2.2.2.2.2⟩⟩⟩⟩⟩⟩⟩⟩⟩⟩)
            (case sz => exact hrsz)
            intro h9 F9 N9
            rw [List.push_toArray] at N9
            clear kN
            (try dsimp only)
            k_steps
            rename News _ _ _ _ => kN
            rename (Obj.data _ = Data.cell (some (Value.str (wd l) _))) => dW
            refine unrEnd_one (I := I2) (o := oI) (news' := (zi, _) :: (wl, listOf vsw.toArray kw) :: (rl, listOf (vsr ++ [Value.str (wd l) lt]).toArray (kr + 1)) :: (D0, oD0) :: (LC + 1 + 1 + 1, _) :: (LC + 1 + 1, _) :: (LC + 1, oc3) :: (T, instObj 182 dx) :: (dx, hdDict w D tt) :: (D, listOf (entVals es).toArray n) :: rest') (by k_asm) (news_sub kN (sub_cons (by k_mem) (sub_cons (by k_mem) (sub_cons (by k_mem) (sub_cons (by k_mem) (sub_cons (by k_mem) (sub_cons (by k_mem) (sub_cons (by k_mem) (sub_cons (by k_mem) (sub_cons (by k_mem) (sub_cons (by k_mem) (sub_cons (by k_mem) (fun p hp => by repeat (first | exact hp | refine List.Mem.tail _ ?_)))))))))))))) (by walk_at "off_all") ⟨by k_mem, ihr _ (pre ++ [l]) _ _ _ ((kr + 1)) (vsr ++ [Value.str (wd l) lt]) hrem (by rw [hpre]; simp) dW ?_ m1 m2 m3⟩
            rw [filt_yes (ring_yes (n := i + 1) hcl hmi hal), ← List.append_assoc]
            exact words_snoc hR
  | succ k ih =>
    intro i kvs rest' hik hE' hsb hkv hr1 hr2 hr3
    refine DRest.succ ?_
    intro v I oI C oC D' oD m₂ h9 tk9 E' hv hC hx hoD F9 N9 off ne
    simp only [LCg.Off3, and_true] at off
    obtain ⟨c, u, hc, rfl⟩ := hv
    obtain rfl := abc_at (by omega) hc
    have hi3 : i < 3 := by omega
    k_steps
    rename News _ _ _ _ => kN
    refine' Stop.out (c_getall _ _ _ _ _ _ _ _ _ _ _ _ _ _ _ _ _ _ _ _ _ _ _ ((I, oI) :: (C, oC) :: (D', oD) :: (LC + 1 + 1 + 1, oc1) :: (LC + 1 + 1, oc2) :: (LC + 1, oc3) :: rest') ?q1B ?q1F ?q1X ?q1T ?q1K ?q1D ?q1U T dx D n tt es (97 + i) (97 + i) _ (low_abc hi3) (hsf i hi3) hes (hE'.mono ?q1m) (news_sub kN ?q1N) ?q1r)
    (case q1B => k_asm)
    (case q1F => k_asm)
    (case q1X => k_asm)
    (case q1T => k_asm)
    (case q1K => first | exact rfl | assumption)
    (case q1D => ktr_room)
    (case q1U => ktr_units)
    (case q1m => exact fun p hp => by repeat (first | exact hp | refine List.Mem.tail _ ?_))
    (case q1N => exact (sub_cons (by k_mem) (sub_cons (by k_mem) (sub_cons (by k_mem) (sub_cons (by k_mem) (sub_cons (by k_mem) (sub_cons (by k_mem) (sub_cons (by k_mem) (sub_cons (by k_mem) (sub_cons (by k_mem) (fun p hp => by repeat (first | exact hp | refine List.Mem.tail _ ?_))))))))))))
    intro l8 vs8 h8 tk8 hl8 fr8 F8 N8
    (try dsimp only)
    k_steps
    have f1 := fr8 (LC + 1 + 1 + 1, oc1) (by k_mem)
    have f2 := fr8 (LC + 1 + 1, oc2) (by k_mem)
    have f3 := fr8 (LC + 1, oc3) (by k_mem)
    have Z := ih (i + 1) (stored kvs (ch (97 + i)) (.ref l8)) ((l8, listOf vs8.toArray vs8.length) :: rest') (by omega) (hE'.mono fun p hp => .tail _ hp) (fun p hp => .tail _ (hsb p hp)) (hkv.step hl8) (List.forall_mem_cons.mpr ⟨Ne.symm f3, hr1⟩) (List.forall_mem_cons.mpr ⟨Ne.symm f2, hr2⟩) (List.forall_mem_cons.mpr ⟨Ne.symm f1, hr3⟩)
    refine comp_end (by k_asm) (news_sub N8 (sub_cons (by k_mem) (sub_cons (by k_mem) (sub_cons (by k_mem) (sub_cons (by k_mem) (sub_cons (by k_mem) (sub_cons (by k_mem) (sub_cons (by k_mem) (sub_cons (by k_mem) (sub_cons (by k_mem) (sub_cons (by k_mem) (fun p hp => by repeat (first | exact hp | refine List.Mem.tail _ ?_))))))))))))) ?_ True.intro Z
    have fI := fr8 (I, oI) (by k_mem)
    have fC := fr8 (C, oC) (by k_mem)
    have fD := fr8 (D', oD) (by k_mem)
    simp only [LCg.Off3]
    exact ⟨off.1, off.2.1, off.2.2.1, off.2.2.2.1, off.2.2.2.2.1, off.2.2.2.2.2.1, ⟨Ne.symm fI, Ne.symm fC, Ne.symm fD⟩, off.2.2.2.2.2.2⟩
end
end
theorem calm_l1_lawp : True := by w_top off; exact True.intro
section
/-- the place of a number's link among the nine -/
def rz (v : Int) : Nat := (v.fmod 9).toNat
theorem rz_lt (v : Int) : rz v < 9 := by
  unfold rz
  rw [Int.fmod_eq_emod_of_nonneg _ (by decide)]
  omega
theorem rz_from (v : Int) : ((v.fdiv 3).fmod 3) = ((rz v / 3 : Nat) : Int) := by
  unfold rz
  rw [Int.fmod_eq_emod_of_nonneg _ (by decide), Int.fmod_eq_emod_of_nonneg _ (by decide), Int.fdiv_eq_ediv_of_nonneg _ (by decide)]
  omega
theorem rz_to (v : Int) : (v.fmod 3) = ((rz v % 3 : Nat) : Int) := by
  unfold rz
  rw [Int.fmod_eq_emod_of_nonneg _ (by decide), Int.fmod_eq_emod_of_nonneg _ (by decide)]
  omega
theorem rz_int (v : Int) : v.fmod 9 = ((rz v : Nat) : Int) := by
  unfold rz
  rw [Int.fmod_eq_emod_of_nonneg _ (by decide)]
  omega
def lstep (ls : List Nat) (r : Nat) : List Nat := if r ∈ ls then ls else ls ++ [r]
def linksOf (ns : List Int) : List Nat := ns.foldl (fun ls v => lstep ls (rz v)) [1, 3]
structure LOk (ls : List Nat) : Prop where
  nd : ls.Nodup
  lt : ∀ r ∈ ls, r < 9
  h1 : 1 ∈ ls
  h3 : 3 ∈ ls
theorem LOk.start : LOk [1, 3] := ⟨by decide, by decide, by decide, by decide⟩
theorem LOk.step {ls : List Nat} (h : LOk ls) {r : Nat} (hr : r < 9) : LOk (lstep ls r) := by
  unfold lstep
  split
  · exact h
  · rename_i hn
    refine ⟨?_, fun x hx => ?_, List.mem_append_left _ h.h1, List.mem_append_left _ h.h3⟩
    · rw [List.nodup_append]
      refine ⟨h.nd, by simp, fun a ha b hb => ?_⟩
      rw [List.mem_singleton.mp hb]
      exact fun e => hn (e ▸ ha)
    · rcases List.mem_append.mp hx with hx | hx
      · exact h.lt x hx
      · rw [List.mem_singleton.mp hx]; exact hr
theorem LOk.fold : ∀ (ns : List Int) {ls : List Nat}, LOk ls → LOk (ns.foldl (fun ls v => lstep ls (rz v)) ls)
  | [], _, h => h
  | v :: ns, _, h => LOk.fold ns (h.step (rz_lt v))
theorem mem_lstep {ls : List Nat} {r k : Nat} : k ∈ lstep ls r ↔ k ∈ ls ∨ k = r := by
  unfold lstep
  split
  · rename_i h
    exact ⟨.inl, fun q => q.elim id fun e => e ▸ h⟩
  · rw [List.mem_append, List.mem_singleton]
theorem mem_linksF : ∀ (ns : List Int) {ls : List Nat} {k : Nat}, k ∈ ns.foldl (fun ls v => lstep ls (rz v)) ls ↔ k ∈ ls ∨ ∃ v ∈ ns, rz v = k
  | [], _, _ => by simp
  | v :: ns, ls, k => by
    rw [List.foldl_cons, mem_linksF ns, mem_lstep]
    simp only [List.mem_cons]
    constructor
    · rintro ((h | h) | ⟨x, hx, e⟩)
      · exact .inl h
      · exact .inr ⟨v, .inl rfl, h.symm⟩
      · exact .inr ⟨x, .inr hx, e⟩
    · rintro (h | ⟨x, rfl | hx, e⟩)
      · exact .inl (.inl h)
      · exact .inl (.inr e.symm)
      · exact .inr ⟨x, hx, e⟩
/-- the script's list of links -/
def linkInts (ns : List Int) : List Int := [1, 3] ++ ns.map fun v => v.fmod 9
theorem mem_linkInts (ns : List Int) (k : Nat) : ((k : Int) ∈ linkInts ns) ↔ k ∈ linksOf ns := by
  unfold linkInts linksOf
  rw [mem_linksF, List.mem_append, List.mem_map]
  constructor
  · rintro (h | ⟨v, hv, e⟩)
    · left
      simp only [List.mem_cons, List.not_mem_nil, or_false] at h ⊢
      omega
    · right
      rw [rz_int] at e
      exact ⟨v, hv, by omega⟩
  · rintro (h | ⟨v, hv, e⟩)
    · left
      simp only [List.mem_cons, List.not_mem_nil, or_false] at h ⊢
      omega
    · right
      exact ⟨v, hv, by rw [rz_int, e]⟩
/-- an entry that stands for a link -/
def entOf (r : Nat) : Ent := ⟨0, 97 + r / 3, 0, 97 + r % 3, 0, 0, 97 + r / 3⟩
def Links (es : List Ent) (ls : List Nat) : Prop := es.map (fun e => (e.l, e.v)) = ls.map fun r => (97 + r / 3, 97 + r % 3)
theorem onw_pairs (es : List Ent) (k : Nat) : onw es k = ((es.map fun e => (e.l, e.v)).filter fun p => decide (p.1 = k)).map (·.2) := by
  unfold onw
  rw [List.filter_map, List.map_map]
  rfl
theorem links_onw {es : List Ent} {ls : List Nat} (h : Links es ls) (k : Nat) : onw es k = onw (ls.map entOf) k := by
  rw [onw_pairs, onw_pairs, h, List.map_map]
  rfl
theorem onw_mem {es : List Ent} {ls : List Nat} (h : Links es ls) (hl : ∀ r ∈ ls, r < 9) {r : Nat} : (97 + r % 3) ∈ onw es (97 + r / 3) ↔ r ∈ ls := by
  rw [onw_pairs, h]
  simp only [List.mem_map, List.mem_filter, decide_eq_true_eq]
  constructor
  · rintro ⟨p, ⟨⟨x, hx, rfl⟩, e1⟩, e2⟩
    dsimp only at e1 e2
    have : x = r := by omega
    exact this ▸ hx
  · intro hr
    exact ⟨_, ⟨⟨r, hr, rfl⟩, rfl⟩, rfl⟩
theorem any_mem (cs : List Nat) (c : Nat) : (cs.map ch).any (· == ch c) = decide (c ∈ cs) := by
  induction cs with
  | nil => simp
  | cons x r ih =>
    rw [List.map_cons, List.any_cons, ih, ch_beq]
    by_cases h : x = c
    · simp [h]
    · have h' : ¬ c = x := fun e => h e.symm
      simp [h, h']
theorem Links.snoc {es : List Ent} {ls : List Nat} (h : Links es ls) {e : Ent} {r : Nat} (hl : e.l = 97 + r / 3) (hv : e.v = 97 + r % 3) : Links (es ++ [e]) (ls ++ [r]) := by
  unfold Links at h ⊢
  rw [List.map_append, List.map_append, h]
  simp [hl, hv]
theorem walks_eq {es es' : List Ent} (h : ∀ k, onw es k = onw es' k) : ∀ n, walksAt es n = walksAt es' n
  | 0 => rfl
  | n + 1 => by
    simp only [walksAt, stepW, ow, walks_eq h n, h]
theorem isRing_eq {es es' : List Ent} (h : ∀ k, onw es k = onw es' k) (n : Nat) : isRing es n = isRing es' n := by
  funext l
  simp only [isRing, closedW, ow, h]
theorem rings_eq {es es' : List Ent} (h : ∀ k, onw es k = onw es' k) : ∀ n, ringsTo es n = ringsTo es' n
  | 0 => rfl
  | n + 1 => by
    simp only [ringsTo, rings_eq h n, walks_eq h n, isRing_eq h]
def cntR (es : List Ent) (n : Nat) : Nat := ((walksAt es n).filter (isRing es (n + 1))).length
def lens (es : List Ent) : Nat → List Nat
  | 0 => []
  | n + 1 => lens es n ++ List.replicate (cntR es n) (n + 1)
theorem walks_long (es : List Ent) : ∀ n, ∀ l ∈ walksAt es n, l.length = n + 1
  | 0, l, h => by
    simp only [walksAt, List.mem_cons, List.not_mem_nil, or_false] at h
    rcases h with rfl | rfl | rfl <;> rfl
  | n + 1, l, h => by
    simp only [walksAt, stepW, List.mem_flatMap, List.mem_map] at h
    obtain ⟨l', hl', c, hc, rfl⟩ := h
    rw [List.length_append, walks_long es n l' hl']
    rfl
theorem map_const {α : Type} {f : α → Nat} {k : Nat} : ∀ (l : List α), (∀ x ∈ l, f x = k) → l.map f = List.replicate l.length k
  | [], _ => rfl
  | x :: l, h => by
    rw [List.map_cons, h x (.head _), map_const l fun y hy => h y (.tail _ hy)]
    rfl
theorem rings_lens (es : List Ent) : ∀ n, (ringsTo es n).map List.length = lens es n
  | 0 => rfl
  | n + 1 => by
    rw [ringsTo, List.map_append, rings_lens es n, lens, map_const _ fun l hl => walks_long es n l (List.mem_filter.mp hl).1]
    rfl
theorem onw_perm {ls ls' : List Nat} (h : ls.Perm ls') (k : Nat) : (onw (ls.map entOf) k).Perm (onw (ls'.map entOf) k) := ((h.map entOf).filter _).map _
theorem flat_perm {α β : Type} {f g : α → List β} : ∀ (l : List α), (∀ x ∈ l, (f x).Perm (g x)) → (l.flatMap f).Perm (l.flatMap g)
  | [], _ => .refl _
  | x :: l, h => by
    rw [List.flatMap_cons, List.flatMap_cons]
    exact (h x (.head _)).append (flat_perm l fun y hy => h y (.tail _ hy))
theorem walks_perm {ls ls' : List Nat} (h : ls.Perm ls') : ∀ n, (walksAt (ls.map entOf) n).Perm (walksAt (ls'.map entOf) n)
  | 0 => .refl _
  | n + 1 => by
    simp only [walksAt, stepW]
    refine ((walks_perm h n).flatMap_right _).trans ?_
    exact flat_perm _ fun l _ => (onw_perm h _).map _
theorem ring_perm {ls ls' : List Nat} (h : ls.Perm ls') (n : Nat) : isRing (ls.map entOf) n = isRing (ls'.map entOf) n := by
  funext l
  unfold isRing closedW
  rw [any_mem, any_mem]
  congr 1
  exact decide_eq_decide.mpr (onw_perm h _).mem_iff
theorem cnt_perm {ls ls' : List Nat} (h : ls.Perm ls') (n : Nat) : cntR (ls.map entOf) n = cntR (ls'.map entOf) n := by
  unfold cntR
  rw [ring_perm h]
  exact ((walks_perm h n).filter _).length_eq
theorem lens_perm {ls ls' : List Nat} (h : ls.Perm ls') : ∀ n, lens (ls.map entOf) n = lens (ls'.map entOf) n
  | 0 => rfl
  | n + 1 => by rw [lens, lens, lens_perm h n, cnt_perm h n]
def canon (ls : List Nat) : List Nat := (List.range 9).filter fun r => decide (r ∈ ls)
theorem canon_perm {ls : List Nat} (h : LOk ls) : ls.Perm (canon ls) := by
  refine (List.perm_ext_iff_of_nodup h.nd (List.Pairwise.filter _ List.nodup_range)).mpr fun r => ?_
  rw [List.mem_filter, List.mem_range, decide_eq_true_eq]
  exact ⟨fun hr => ⟨h.lt r hr, hr⟩, fun hr => hr.2⟩
/-- a word less than each of its turns -/
def ltL : List Nat → List Nat → Bool
  | a :: l, b :: r => decide (a < b) || (decide (a = b) && ltL l r)
  | _, _ => false
def lyn (n : Nat) (l : List Nat) : Bool := (List.range n).all fun k => decide (k = 0) || ltL l (rot l k)
theorem prime_lyn {n : Nat} (hn : n ≤ 3) {l : List Nat} (hw : IsW (n + 1) l) : primeW (n + 1) l = lyn (n + 1) l := by
  have := by_words (P := fun n l => decide (n = 0) || (primeW n l == lyn n l)) (by decide +kernel) (show n + 1 ≤ 4 by omega) hw
  have hz : decide (n + 1 = 0) = false := decide_eq_false (by omega)
  rw [hz, Bool.false_or] at this
  exact beq_iff_eq.mp this
def closedL (ls : List Nat) (l : List Nat) : Bool := ls.contains (3 * (l.getLastD 0 - 97) + (l.headD 0 - 97))
def onL (ls : List Nat) (c : Nat) : List Nat := (ls.filter fun r => Nat.beq (97 + r / 3) c).map fun r => 97 + r % 3
def walksL (ls : List Nat) : Nat → List (List Nat)
  | 0 => [[97], [98], [99]]
  | n + 1 => (walksL ls n).flatMap fun l => (onL ls (l.getLastD 0)).map fun c => l ++ [c]
theorem onL_eq (ls : List Nat) (c : Nat) : onw (ls.map entOf) c = onL ls c := by
  unfold onw onL
  rw [List.filter_map, List.map_map]
  refine congrArg (List.map _) (List.filter_congr fun r _ => ?_)
  show decide (97 + r / 3 = c) = Nat.beq _ _
  cases h : Nat.beq (97 + r / 3) c
  · exact decide_eq_false (fun e => by rw [e, Nat.beq_refl] at h; cases h)
  · exact decide_eq_true (Nat.eq_of_beq_eq_true h)
theorem walksL_eq (ls : List Nat) : ∀ n, walksAt (ls.map entOf) n = walksL ls n
  | 0 => rfl
  | n + 1 => by simp only [walksAt, stepW, walksL, walksL_eq ls n, ow, onL_eq]
/-- the flags, the divisor, the bags -/
def fl (ls : List Nat) (k : Nat) : Int := if k ∈ ls then 1 else 0
def belowF (p q r s t u v w x : Int) : Int := 2 ^ 48 - (p + t + x) * 2 ^ 32 + (p * t - q * s + p * x - r * v + t * x - u * w) * 2 ^ 16 - (p * (t * x - u * w) - q * (s * x - u * v) + r * (s * w - t * v))
def belowL (ls : List Nat) : Int := belowF (fl ls 0) (fl ls 1) (fl ls 2) (fl ls 3) (fl ls 4) (fl ls 5) (fl ls 6) (fl ls 7) (fl ls 8)
def bagAt (n : Nat) (b : List Int) (k : Nat) : List Int := b.set k (b.getD k 0 + b.getD (k - n) 0)
def bagOne (b : List Int) (n : Nat) : List Int := (List.range' n (5 - n)).foldl (bagAt n) b
def bagsOf (ns : List Nat) : List Int := ns.foldl bagOne [1, 0, 0, 0, 0]
def quo (b : Int) : Int := Int.fdiv (2 ^ 112) b
structure BagOk (b : Int) (bags : List Int) : Prop where
  pos : 2 ^ 40 ≤ b ∧ b ≤ 2 ^ 60
  n0 : b ≠ 0
  bits : 2 ≤ Builtin.Int.intBits b ∧ Builtin.Int.intBits b ≤ 64
  q0 : 0 ≤ quo b
  qk : ((Builtin.Int.intBits (quo b) : Int) + 16 - 1).fdiv 16 = 5
  qx : quo b < 2 ^ (16 * 5)
  dg : (digs 16 5 (quo b)).reverse = bags
def bagOkB (b : Int) (bags : List Int) : Bool := decide (2 ^ 40 ≤ b ∧ b ≤ 2 ^ 60) && decide (b ≠ 0) && decide (2 ≤ Builtin.Int.intBits b ∧ Builtin.Int.intBits b ≤ 64) && decide (0 ≤ quo b) && decide (((Builtin.Int.intBits (quo b) : Int) + 16 - 1).fdiv 16 = 5) && decide (quo b < 2 ^ (16 * 5)) && decide ((digs 16 5 (quo b)).reverse = bags)
theorem bagOk {b : Int} {bags : List Int} (h : bagOkB b bags = true) : BagOk b bags := by
  unfold bagOkB at h
  simp only [Bool.and_eq_true, decide_eq_true_eq] at h
  obtain ⟨⟨⟨⟨⟨⟨a1, a2⟩, a3⟩, a4⟩, a5⟩, a6⟩, a7⟩ := h
  exact ⟨a1, a2, a3, a4, a5, a6, a7⟩
def cntL (ls : List Nat) (n : Nat) : Nat := ((walksL ls n).filter fun l => closedL ls l && lyn (n + 1) l).length
def lensL (ls : List Nat) : Nat → List Nat
  | 0 => []
  | n + 1 => lensL ls n ++ List.replicate (cntL ls n) (n + 1)
def pickS : List Bool → List Nat → List Nat
  | true :: bs, r :: rs => r :: pickS bs rs
  | false :: bs, _ :: rs => pickS bs rs
  | _, _ => []
def okS (ls : List Nat) : Bool := bagOkB (belowL ls) (bagsOf (lensL ls 4))
def sel (b0 b2 b4 b5 b6 b7 b8 : Bool) : List Nat := pickS [b0, true, b2, true, b4, b5, b6, b7, b8] [0, 1, 2, 3, 4, 5, 6, 7, 8]
theorem all_sets : ∀ b0 b2 b4 b5 b6 b7 b8 : Bool, okS (sel b0 b2 b4 b5 b6 b7 b8) = true := by decide +kernel
theorem walksL_are (ls : List Nat) : ∀ n, ∀ l ∈ walksL ls n, IsW (n + 1) l
  | 0, l, h => by
    simp only [walksL, List.mem_cons, List.not_mem_nil, or_false] at h
    rcases h with rfl | rfl | rfl <;> exact ⟨rfl, fun c hc => by rw [List.mem_singleton.mp hc]; unfold isL; omega⟩
  | n + 1, l, h => by
    simp only [walksL, onL, List.mem_flatMap, List.mem_map] at h
    obtain ⟨l', hl', c, ⟨r, hr, rfl⟩, rfl⟩ := h
    have := walksL_are ls n l' hl'
    refine ⟨by rw [List.length_append, this.len]; rfl, fun d hd => ?_⟩
    rcases List.mem_append.mp hd with hd | hd
    · exact this.all d hd
    · rw [List.mem_singleton.mp hd]; unfold isL; omega
theorem closed_eq {ls : List Nat} {n : Nat} (hn : n ≤ 3) {l : List Nat} (hw : IsW (n + 1) l) : closedW (ls.map entOf) l = closedL ls l := by
  obtain ⟨_, _, h3, h4⟩ := item_facts ⟨by omega, by omega⟩ hw
  unfold closedW closedL ow
  rw [any_mem]
  unfold isL at h3 h4
  cases hc : ls.contains (3 * (l.getLastD 0 - 97) + (l.headD 0 - 97))
  · refine decide_eq_false fun hm => ?_
    have hc' : ¬ (3 * (l.getLastD 0 - 97) + (l.headD 0 - 97)) ∈ ls := fun hm => by
      rw [List.contains_iff_mem.mpr hm] at hc; cases hc
    rw [onL_eq] at hm
    unfold onL at hm
    obtain ⟨r, hr, e⟩ := List.mem_map.mp hm
    obtain ⟨hr1, hr2⟩ := List.mem_filter.mp hr
    have e2 := Nat.eq_of_beq_eq_true hr2
    have : 3 * (l.getLastD 0 - 97) + (l.headD 0 - 97) = r := by omega
    exact hc' (this ▸ hr1)
  · have hm : (3 * (l.getLastD 0 - 97) + (l.headD 0 - 97)) ∈ ls := List.contains_iff_mem.mp hc
    refine decide_eq_true ?_
    rw [onL_eq]
    unfold onL
    refine List.mem_map.mpr ⟨_, List.mem_filter.mpr ⟨hm, ?_⟩, by omega⟩
    have : 97 + (3 * (l.getLastD 0 - 97) + (l.headD 0 - 97)) / 3 = l.getLastD 0 := by omega
    rw [this]
    exact Nat.beq_refl _
theorem cntL_eq (ls : List Nat) {n : Nat} (hn : n ≤ 3) : cntR (ls.map entOf) n = cntL ls n := by
  unfold cntR cntL
  rw [walksL_eq]
  congr 1
  refine List.filter_congr fun l hl => ?_
  have hw := walksL_are ls n l hl
  unfold isRing
  rw [closed_eq hn hw, prime_lyn hn hw]
theorem lensL_eq (ls : List Nat) : ∀ n, n ≤ 4 → lens (ls.map entOf) n = lensL ls n
  | 0, _ => rfl
  | n + 1, h => by rw [lens, lensL, lensL_eq ls n (by omega), cntL_eq ls (by omega)]
theorem canon_sel {ls : List Nat} (h : LOk ls) : canon ls = sel (decide (0 ∈ ls)) (decide (2 ∈ ls)) (decide (4 ∈ ls)) (decide (5 ∈ ls)) (decide (6 ∈ ls)) (decide (7 ∈ ls)) (decide (8 ∈ ls)) := by
  have h1 := decide_eq_true h.h1
  have h3 := decide_eq_true h.h3
  unfold canon
  rw [show List.range 9 = [0, 1, 2, 3, 4, 5, 6, 7, 8] from by decide]
  simp only [List.filter_cons, h1, h3, List.filter_nil, if_true]
  cases decide (0 ∈ ls) <;> cases decide (2 ∈ ls) <;> cases decide (4 ∈ ls) <;> cases decide (5 ∈ ls) <;> cases decide (6 ∈ ls) <;> cases decide (7 ∈ ls) <;> cases decide (8 ∈ ls) <;> rfl
theorem fl_perm {ls ls' : List Nat} (h : ls.Perm ls') (k : Nat) : fl ls k = fl ls' k := by
  unfold fl
  have := h.mem_iff (a := k)
  by_cases h1 : k ∈ ls
  · rw [if_pos h1, if_pos (this.mp h1)]
  · rw [if_neg h1, if_neg (fun q => h1 (this.mpr q))]
theorem law_bags {es : List Ent} {ls : List Nat} (hE : Links es ls) (h : LOk ls) : BagOk (belowL ls) (bagsOf ((ringsTo es 4).map List.length)) := by
  have hp := canon_perm h
  have e1 : belowL ls = belowL (canon ls) := by
    unfold belowL
    simp only [fl_perm hp]
  rw [rings_eq (links_onw hE), rings_lens, lens_perm hp, lensL_eq _ 4 (by omega), e1]
  refine bagOk ?_
  have := all_sets (decide (0 ∈ ls)) (decide (2 ∈ ls)) (decide (4 ∈ ls)) (decide (5 ∈ ls)) (decide (6 ∈ ls)) (decide (7 ∈ ls)) (decide (8 ∈ ls))
  rw [← canon_sel h] at this
  exact this
end
theorem calm_l1_lawk : True := by w_top off; exact True.intro
section
local macro_rules | `(tactic| walk_at "idle") => `(tactic| fail)
local macro_rules | `(tactic| walk_at "idle") => `(tactic| fail)
local macro_rules | `(tactic| walk_at "idle") => `(tactic| fail)
local macro_rules | `(tactic| walk_at "idle") => `(tactic| fail)
local macro_rules | `(tactic| walk_at "idle") => `(tactic| fail)
local macro_rules | `(tactic| walk_at "idle") => `(tactic| fail)
local macro_rules | `(tactic| walk_at "idle") => `(tactic| fail)
local macro_rules | `(tactic| walk_at "idle") => `(tactic| fail)
local macro_rules | `(tactic| walk_at "idle") => `(tactic| fail)
local macro_rules | `(tactic| walk_at "idle") => `(tactic| fail)
theorem add_vals {prog : Program} {w : World} {A : Around} {E : Value → Shared → Prop} {s : Shared} {h₀ : Heap} {L a b : Addr} {m : Str → Option Value} {news : List (Addr × Obj)} {vs ws : List Value} {Q : Value → Shared → Prop}
    (F : Fr h₀ L s.heap m) (N : News h₀ L s.heap news) (ha : s.heap.IsList a vs.toArray) (hb : s.heap.IsList b ws.toArray)
    (h : ∀ D h', Fr h₀ L h' m → News h₀ L h' ((D, listOf (vs ++ ws).toArray 0) :: news) → (∀ p ∈ news, p.1 < D) → Q (.ref D) { s with heap := h' })
    (hz : vs.length + ws.length ≤ sizeLine) : wpAny (model prog w) A (binaryOp .Add (.ref a) (.ref b)) Q E s :=
  kmk_add_lit F N ha hb rfl h (by simpa using hz)
theorem two_item {prog : Program} {w : World} {A : Around} {E : Value → Shared → Prop} {s : Shared} {value slice : PySem.Expr} {l : Addr} {a b : Str} {ta tb : Tok} {i : Int} {u : Tok} {Q : Value → Shared → Prop}
    (hl : s.heap.IsList l #[.str a ta, .str b tb]) (hi : i = 0 ∨ i = 1) (h : ∀ x t, x = a ∨ x = b → Q (.str x t) s)
    (hs : subscripted slice false (.ref l) (.int i u) = operate [.ref l, .int i u] (getItem (.ref l) (.int i u))) :
    wpAny (model prog w) A (subscriptTail value slice (.ref l) (.int i u)) Q E s := by
  rcases hi with rfl | rfl
  · exact tail_any hl.typeIs slot_list_getitem.lookup (wpAny_getItem_list hl (by decide) (by decide) rfl (h _ _ (.inl rfl))) hs
  · exact tail_any hl.typeIs slot_list_getitem.lookup (wpAny_getItem_list hl (by decide) (by decide) rfl (h _ _ (.inr rfl))) hs
theorem fmod2 (n : Int) : n.fmod 2 = 0 ∨ n.fmod 2 = 1 := by
  rw [Int.fmod_eq_emod_of_nonneg _ (by decide)]; omega
theorem abc_item : ∀ j : Fin 3, Txt.item (Str.ofString "abc") (j.val : Int) = ch (97 + j.val) := by decide +kernel
theorem ABC_item : ∀ j : Fin 3, Txt.item (Str.ofString "ABC") (j.val : Int) = ch (65 + j.val) := by decide +kernel
theorem abc_len : (Str.ofString "abc").length = 3 := by decide +kernel
theorem ABC_len : (Str.ofString "ABC").length = 3 := by decide +kernel
section
variable {prog : Program} {w : World} {A : Around} {E : Value → Shared → Prop} {s : Shared} {value slice : PySem.Expr} {t u : Tok} {Q : Value → Shared → Prop}
theorem abc_K {i : Int} {j : Nat} (hj : j < 3) (hi : i = (j : Int)) (h : ∀ t' k, Q (.str (ch (97 + j)) t') { s with toks := k })
    (hs : subscripted slice false (.str (Str.ofString "abc") t) (.int i u) = operate [.str (Str.ofString "abc") t, .int i u] (getItem (.str (Str.ofString "abc") t) (.int i u)))
    (ht : ∀ r, letTemporaryGo value (.str (Str.ofString "abc") t) r = pure ()) : wpAny (model prog w) A (subscriptTail value slice (.str (Str.ofString "abc") t) (.int i u)) Q E s := by
  subst hi
  exact KXi.item (n := 3) abc_len (by omega) (by omega) (by omega) (fun _ => by rw [abc_item ⟨j, hj⟩]; exact h _ _) hs ht
theorem name_K {i : Int} {j : Nat} {x : Str} (hx : x = Str.ofString "abc" ∨ x = Str.ofString "ABC") (hj : j < 3) (hi : i = (j : Int)) (h : ∀ nm t' k, Txt.lower (ch nm) = ch (97 + j) → Safe (ch nm) → Q (.str (ch nm) t') { s with toks := k })
    (hs : subscripted slice false (.str x t) (.int i u) = operate [.str x t, .int i u] (getItem (.str x t) (.int i u)))
    (ht : ∀ r, letTemporaryGo value (.str x t) r = pure ()) : wpAny (model prog w) A (subscriptTail value slice (.str x t) (.int i u)) Q E s := by
  subst hi
  rcases hx with rfl | rfl
  · exact KXi.item (n := 3) abc_len (by omega) (by omega) (by omega) (fun _ => by rw [abc_item ⟨j, hj⟩]; exact h _ _ _ (low_abc hj) (safe_ch ⟨by show 31 < 97 + j; omega, by show 97 + j ≠ 127; omega⟩)) hs ht
  · exact KXi.item (n := 3) ABC_len (by omega) (by omega) (by omega) (fun _ => by rw [ABC_item ⟨j, hj⟩]; exact h _ _ _ (low_ABC hj) (safe_ch ⟨by show 31 < 65 + j; omega, by show 65 + j ≠ 127; omega⟩)) hs ht
end
def nums4 (ns : List Int) : List Int := ns.take 4 ++ [0, 14, 6, 0].drop ns.length
theorem nums4_len (ns : List Int) : (nums4 ns).length = 4 := by
  unfold nums4
  rw [List.length_append, List.length_take, List.length_drop]
  simp only [List.length_cons, List.length_nil]
  omega
theorem nums4_are {vs : List Value} {ns : List Int} (hI : IntsAre vs ns) (ta tb tc td : Tok) :
    IntsAre (kms_pick vs.toArray.toList none (some 4) ++ kms_pick (#[.int 0 ta, .int 14 tb, .int 6 tc, .int 0 td] : Array Value).toList (some (ns.length : Int)) none) (nums4 ns) := by
  have e1 := pick_head vs.toArray.toList 4
  have e2 := pick_tail (#[.int 0 ta, .int 14 tb, .int 6 tc, .int 0 td] : Array Value).toList ns.length
  rw [show ((4 : Nat) : Int) = (4 : Int) from rfl] at e1
  rw [e1, e2]
  exact IntsAre.append (by simpa using IntsAre.take hI 4) (IntsAre.drop (.cons 0 ta (.cons 14 tb (.cons 6 tc (.cons 0 td .nil)))) _)
theorem pick_small (vs : List Value) (x y z u : Value) (k : Nat) : (kms_pick vs.toArray.toList none (some 4)).length + (kms_pick (#[x, y, z, u] : Array Value).toList (some (k : Int)) none).length ≤ sizeLine := by
  have e1 := pick_head vs.toArray.toList 4
  have e2 := pick_tail (#[x, y, z, u] : Array Value).toList k
  rw [show ((4 : Nat) : Int) = (4 : Int) from rfl] at e1
  rw [e1, e2, List.length_take, List.length_drop, sizeLine_eq]
  simp only [List.length_cons, List.length_nil]
  omega
section
variable {prog : Program} {w : World} {A : Around} {E : Value → Shared → Prop} {s : Shared} {h₀ : Heap} {L : Addr} {m : Str → Option Value}
theorem rev_vals {l : Addr} {news : List (Addr × Obj)} {value slice : PySem.Expr} {vs : List Value} {vk : Value} {ops : List Value} {Q : Value → Shared → Prop}
    (F : Fr h₀ L s.heap m) (N : News h₀ L s.heap news) (hl : s.heap.IsList l vs.toArray) (pk : IsPart vk (some (-1))) (hz : vs.length ≤ sizeLine)
    (h : ∀ D h', Fr h₀ L h' m → News h₀ L h' ((D, listOf vs.reverse.toArray 0) :: news) → (∀ p ∈ news, p.1 < D) → Q (.ref D) { s with heap := h' })
    (hs : subscripted slice false (.ref l) (.ref s.heap.objs.size) = operate ops (getItem (.ref l) (.ref s.heap.objs.size))) (ht : ∀ r, letTemporaryGo value (.ref l) r = pure ()) :
    wpAny (model prog w) A (subscriptTail value slice (.ref l) (.ref s.heap.objs.size)) Q E { s with heap := s.heap.push { cls := .type "slice", data := .fields #[.none, .none, vk] } } :=
  krv_lit (its := vs.toArray) (zs := vs.reverse) F N hl pk rfl h hs ht (by simpa using hz)
end
theorem start_links (a1 a2 : Addr) (u1 t1 u2 t2 : Tok) (n1 n2 : Nat) : Links [⟨a1, 97, u1, 98, t1, n1, 97⟩, ⟨a2, 98, u2, 97, t2, n2, 98⟩] [1, 3] := rfl
theorem start_ents {a1 a2 : Addr} {u1 t1 u2 t2 : Tok} {n1 n2 : Nat} {rest : List (Addr × Obj)} (h1 : (a1, pairObj (ch 97) u1 (ch 98) t1 n1) ∈ rest) (h2 : (a2, pairObj (ch 98) u2 (ch 97) t2 n2) ∈ rest) : EntsIn [⟨a1, 97, u1, 98, t1, n1, 97⟩, ⟨a2, 98, u2, 97, t2, n2, 98⟩] rest := fun e he => by
  rcases List.mem_cons.mp he with rfl | he
  · exact ⟨⟨low_abc (i := 0) (by omega), .inr (.inl rfl)⟩, h1⟩
  · rw [List.mem_singleton] at he
    subst he
    exact ⟨⟨low_abc (i := 1) (by omega), .inl rfl⟩, h2⟩
theorem lstep_yes {ls : List Nat} {r : Nat} (h : r ∈ ls) : lstep ls r = ls := if_pos h
theorem lstep_no {ls : List Nat} {r : Nat} (h : ¬ r ∈ ls) : lstep ls r = ls ++ [r] := if_neg h
theorem any_yes {es : List Ent} {ls : List Nat} (hL : Links es ls) (hO : LOk ls) {r : Nat} (h : ((onw es (97 + r / 3)).map ch).any (fun x => x == ch (97 + r % 3)) = true) : lstep ls r = ls := by
  rw [any_mem, decide_eq_true_eq, onw_mem hL hO.lt] at h
  exact lstep_yes h
theorem any_no {es : List Ent} {ls : List Nat} (hL : Links es ls) (hO : LOk ls) {r : Nat} (h : ((onw es (97 + r / 3)).map ch).any (fun x => x == ch (97 + r % 3)) = false) : lstep ls r = ls ++ [r] := by
  rw [any_mem, decide_eq_false_iff_not, onw_mem hL hO.lt] at h
  exact lstep_no h
theorem ents_snoc {es : List Ent} {rest : List (Addr × Obj)} (h : EntsIn es rest) {e : Ent} (he : EntOk e) : EntsIn (es ++ [e]) ((e.a, e.obj) :: rest) := fun x hx => by
  rcases List.mem_append.mp hx with hx | hx
  · exact ⟨(h x hx).1, .tail _ (h x hx).2⟩
  · rw [List.mem_singleton.mp hx]
    exact ⟨he, .head _⟩
section
variable {prog : Program} {w : World} {A : Around} {E : Value → Shared → Prop} {s : Shared} {h₀ : Heap} {L : Addr} {m : Str → Option Value} {env : Env}
section
local macro_rules | `(tactic| walk_at "eval Name") => `(tactic| (refine ldVarK (by assumption) (by assumption) ?_ (by assumption) (by assumption) (by assumption)))
theorem mods_elt {x : Str} {p1 p2 p3 : Pos} {k1 : Nat} {scope : Scope} {cl : List (Str × Addr)} {C : Addr} {mC : Str → Option Value} {k : Int} {t : Tok} {Q : Value → Shared → Prop} (hn : s.heap.Ns (compEnvC scope cl C env).locals mC) (hv : mC x = some (.int k t))
    (hk : (compEnvC scope cl C env).scope.kind = .function) (hl : (compEnvC scope cl C env).kindOf x = some .local) (hd : (x == ("__debug__" : Str)) = false)
    (h : ∀ u tk, Q (.int (k.fmod 9) u) { s with toks := tk }) :
    wpAny (model prog w) A (eval (.BinOp (.Name x p1) .Mod (.Constant (.int 9) k1 p2) p3) (compEnvC scope cl C env)) Q E s := by
  walk1
  walk1
  walk1
  refine mod_int' (by decide) ?_
  exact h _ _
end
theorem mods_rest {x : Str} {p1 p2 p3 : Pos} {k1 : Nat} {scope : Scope} {cl : List (Str × Addr)} {Fin : List Value → List (Addr × Obj) → Prop} {ax : Addr} {kx : Nat} {vs : List Value} {ns : List Int} {news : List (Addr × Obj)}
    (hi : IntsAre vs ns) (hm : (ax, ({ cls := .type "list", data := .seq vs.toArray kx } : Obj)) ∈ news) (hkind : scope.kind = .function) (hx : scope.names.lookup x = some .local) (dx : (x == ("__debug__" : Str)) = false)
    (fin : ∀ ys, IntsAre ys (ns.map fun v => v.fmod 9) → Fin ys news) :
    LCg.CompRest prog w A h₀ L m env (.BinOp (.Name x p1) .Mod (.Constant (.int 9) k1 p2) p3) x scope cl s (LCg.SrcAt h₀ ax vs.toArray) (fun i v => vs.toArray[i]? = some v) Fin vs.toArray.size 0 [] news := by
  have hl := hi.length
  have go : ∀ (k i : Nat) (ys : List Value), i + k = vs.length → IntsAre ys ((ns.take i).map fun v => v.fmod 9) →
      LCg.CompRest prog w A h₀ L m env (.BinOp (.Name x p1) .Mod (.Constant (.int 9) k1 p2) p3) x scope cl s (LCg.SrcAt h₀ ax vs.toArray) (fun i v => vs.toArray[i]? = some v) Fin k i ys news := by
    intro k
    induction k with
    | zero =>
      intro i ys hik hy
      refine LCg.CompRest.zero (fin ys ?_)
      rw [List.take_of_length_le (by omega)] at hy
      exact hy
    | succ k ih =>
      intro i ys hik hy
      refine LCg.CompRest.succ (fun v I oI C oC D m₂ h tk E' hv hC hmx F N off ne => ?_)
      have hlt : i < ns.length := by omega
      have hv' : vs[i]? = some v := by simpa using hv
      obtain ⟨t, ht⟩ := IntsAre.get hi i ns[i] (List.getElem?_eq_getElem hlt)
      have hvt : v = .int ns[i] t := Option.some.inj (hv'.symm.trans ht)
      subst hvt
      refine mods_elt (hC.ns (N _ (.tail _ (.head _))).1) hmx hkind (lookup_relabel_local hx) dx (fun u tk' => ?_)
      refine ⟨h, _, news, rfl, F, N, off, .inr ⟨_, hm, rfl, _, rfl⟩, ih (i + 1) _ (by omega) ?_⟩
      have e : ns.take (i + 1) = ns.take i ++ [ns[i]] := by rw [List.take_succ, List.getElem?_eq_getElem hlt]; rfl
      rw [e, List.map_append]
      exact IntsAre.append hy (.cons _ _ .nil)
  have e : vs.toArray.size = vs.length := by simp
  rw [e]
  exact go vs.length 0 [] (by omega) .nil
end
theorem add_two {a b : Value} {ys : List Value} (h : ys.length = 4) : [a, b].length + ys.length ≤ sizeLine := by
  rw [h, sizeLine_eq]; exact Nat.le_of_ble_eq_true rfl
theorem links_are {ys : List Value} {ns : List Int} {t u : Tok} (h : IntsAre ys (ns.map fun v => v.fmod 9)) : IntsAre ([Value.int 1 t, Value.int 3 u] ++ ys) (linkInts ns) := .cons _ _ (.cons _ _ h)
theorem any_int (ns : List Int) (k : Nat) : ((linkInts ns).any fun x => x == 0 + (k : Int)) = decide (k ∈ linksOf ns) := by
  have e : ((linkInts ns).any fun x => x == 0 + (k : Int)) = decide ((k : Int) ∈ linkInts ns) := by
    rw [Int.zero_add]
    generalize linkInts ns = l
    induction l with
    | nil => simp
    | cons x r ih =>
      rw [List.any_cons, ih]
      by_cases h : x = (k : Int)
      · simp [h]
      · have h' : ¬ (k : Int) = x := fun e => h e.symm
        simp [h, h']
  rw [e]
  exact decide_eq_decide.mpr (mem_linkInts ns k)
theorem flags_yes {ys : List Value} {ns : List Int} {j : Nat} {t : Tok} (hy : IntsAre ys ((List.range j).map fun q => fl (linksOf ns) q)) (h : ((linkInts ns).any fun x => x == 0 + (j : Int)) = true) : IntsAre (ys ++ [.int 1 t]) ((List.range (j + 1)).map fun q => fl (linksOf ns) q) := by
  rw [any_int, decide_eq_true_eq] at h
  rw [List.range_succ, List.map_append]
  have e : fl (linksOf ns) j = 1 := if_pos h
  refine IntsAre.append hy ?_
  rw [List.map_cons, List.map_nil, e]
  exact .cons _ _ .nil
theorem flags_no {ys : List Value} {ns : List Int} {j : Nat} {t : Tok} (hy : IntsAre ys ((List.range j).map fun q => fl (linksOf ns) q)) (h : ((linkInts ns).any fun x => x == 0 + (j : Int)) = false) : IntsAre (ys ++ [.int 0 t]) ((List.range (j + 1)).map fun q => fl (linksOf ns) q) := by
  rw [any_int, decide_eq_false_iff_not] at h
  rw [List.range_succ, List.map_append]
  have e : fl (linksOf ns) j = 0 := if_neg h
  refine IntsAre.append hy ?_
  rw [List.map_cons, List.map_nil, e]
  exact .cons _ _ .nil
theorem nine {ys : List Value} {f : Nat → Int} (h : IntsAre ys ((List.range 9).map f)) : ∃ t0 t1 t2 t3 t4 t5 t6 t7 t8 : Tok, ys = [.int (f 0) t0, .int (f 1) t1, .int (f 2) t2, .int (f 3) t3, .int (f 4) t4, .int (f 5) t5, .int (f 6) t6, .int (f 7) t7, .int (f 8) t8] := by
  rw [show List.range 9 = [0, 1, 2, 3, 4, 5, 6, 7, 8] from by decide] at h
  simp only [List.map_cons, List.map_nil] at h
  obtain _ | ⟨_, t0, h⟩ := h
  obtain _ | ⟨_, t1, h⟩ := h
  obtain _ | ⟨_, t2, h⟩ := h
  obtain _ | ⟨_, t3, h⟩ := h
  obtain _ | ⟨_, t4, h⟩ := h
  obtain _ | ⟨_, t5, h⟩ := h
  obtain _ | ⟨_, t6, h⟩ := h
  obtain _ | ⟨_, t7, h⟩ := h
  obtain _ | ⟨_, t8, h⟩ := h
  cases h
  exact ⟨t0, t1, t2, t3, t4, t5, t6, t7, t8, rfl⟩
theorem fl_bd (ls : List Nat) (k : Nat) : 0 ≤ fl ls k ∧ fl ls k ≤ 1 := by
  unfold fl
  split <;> decide
theorem fl_mul {a b : Int} (ha : 0 ≤ a ∧ a ≤ 1) (hb : 0 ≤ b ∧ b ≤ 1) : 0 ≤ a * b ∧ a * b ≤ 1 := by
  have h1 : a = 0 ∨ a = 1 := by omega
  rcases h1 with rfl | rfl
  · simp
  · rw [Int.one_mul]; exact hb
def Small (a : Int) : Prop := -1000 ≤ a ∧ a ≤ 1000
theorem Small.bits {a : Int} (h : Small a) : Builtin.Int.intBits a ≤ 64 := PySem.intBits_le_64 (by unfold Small at h; omega) (by unfold Small at h; omega)
theorem small_fl (ls : List Nat) (k : Nat) : Small (fl ls k) := by
  have := fl_bd ls k
  unfold Small
  omega
theorem small_tr (ls : List Nat) : Small (fl ls 0 + fl ls 4 + fl ls 8) := by
  have g0 := fl_bd ls 0
  have g4 := fl_bd ls 4
  have g8 := fl_bd ls 8
  unfold Small
  omega
theorem small_pairs (ls : List Nat) : Small (fl ls 0 * fl ls 4 - fl ls 1 * fl ls 3 + fl ls 0 * fl ls 8 - fl ls 2 * fl ls 6 + fl ls 4 * fl ls 8 - fl ls 5 * fl ls 7) := by
  have m04 := fl_mul (fl_bd ls 0) (fl_bd ls 4)
  have m13 := fl_mul (fl_bd ls 1) (fl_bd ls 3)
  have m08 := fl_mul (fl_bd ls 0) (fl_bd ls 8)
  have m26 := fl_mul (fl_bd ls 2) (fl_bd ls 6)
  have m48 := fl_mul (fl_bd ls 4) (fl_bd ls 8)
  have m57 := fl_mul (fl_bd ls 5) (fl_bd ls 7)
  unfold Small
  omega
theorem bags_are (a b c d e : Tok) : IntsAre [Value.int 1 a, Value.int 0 b, Value.int 0 c, Value.int 0 d, Value.int 0 e] [1, 0, 0, 0, 0] := .cons _ _ (.cons _ _ (.cons _ _ (.cons _ _ (.cons _ _ .nil))))
theorem rings_long (es : List Ent) : ∀ n, ∀ l ∈ ringsTo es n, 1 ≤ l.length ∧ l.length ≤ n
  | 0, l, h => (List.not_mem_nil h).elim
  | n + 1, l, h => by
    rw [ringsTo] at h
    rcases List.mem_append.mp h with h | h
    · have := rings_long es n l h
      omega
    · have := walks_long es n l (List.mem_filter.mp h).1
      omega
theorem rng_five {n : Nat} (h : 1 ≤ n ∧ n ≤ 4) : Builtin.Range.small (n : Int) 5 1 = true ∧ Builtin.Range.rangeSize (n : Int) 5 1 = ((5 - n : Nat) : Int) := by
  have e : ∀ j : Fin 5, Builtin.Range.small (j.val : Int) 5 1 = true ∧ Builtin.Range.rangeSize (j.val : Int) 5 1 = ((5 - j.val : Nat) : Int) := by decide +kernel
  exact e ⟨n, by omega⟩
theorem len_wd {prog : Program} {w : World} {A : Around} {E : Value → Shared → Prop} {s : Shared} {l : List Nat} {t : Tok} {Q : Value → Shared → Prop} (hl : l.length ≤ 4) (h : ∀ u k, Q (.int (l.length : Int) u) { s with toks := k }) : wpAny (model prog w) A (call (.builtin "len") [.str (wd l) t]) Q E s := by
  refine len_str (by rw [wd_len]; omega) ?_
  rw [wd_len]
  exact h _ _
theorem bag_step {n i k : Nat} {bs : List Int} {R : List Int} (h : (List.range' (n + i) (k + 1)).foldl (bagAt n) bs = R) :
    (List.range' (n + (i + 1)) k).foldl (bagAt n) (bs.set (Int.toNat ((n : Int) + (i : Int))) (bs.getD (Int.toNat ((n : Int) + (i : Int))) 0 + bs.getD (Int.toNat ((n : Int) + (i : Int) - (n : Int))) 0)) = R := by
  have e1 : Int.toNat ((n : Int) + (i : Int)) = n + i := by omega
  have e2 : Int.toNat ((n : Int) + (i : Int) - (n : Int)) = n + i - n := by omega
  rw [e1, e2]
  rw [List.range'_succ, List.foldl_cons] at h
  exact h
theorem off_ty {x : Addr × Obj} {n : String} {front : List (Addr × Obj)} (h1 : x.2.cls = .type n) (h2 : ∀ p ∈ front, p.2.cls ≠ .none) : ∀ p ∈ x :: front, p.2.cls ≠ .none := fun p hp => by
  rcases List.mem_cons.mp hp with rfl | hp
  · rw [h1]; exact fun e => nomatch e
  · exact h2 p hp
theorem dm_small {b : Int} {bags : List Int} (h : BagOk b bags) (X : Int) (hX : X = 2 ^ 112) : -(2 ^ (64 * Builtin.Int.intBits b)) < X ∧ X < 2 ^ (64 * Builtin.Int.intBits b) := by
  have h1 : (2 : Int) ^ 128 ≤ 2 ^ (64 * Builtin.Int.intBits b) := by
    have h2 : (2 : Nat) ^ 128 ≤ 2 ^ (64 * Builtin.Int.intBits b) := Nat.pow_le_pow_right (by decide) (by have := h.bits.1; omega)
    have h3 : ((2 ^ 128 : Nat) : Int) ≤ ((2 ^ (64 * Builtin.Int.intBits b) : Nat) : Int) := Int.ofNat_le.mpr h2
    simpa using h3
  have h5 : (2 : Int) ^ 112 = 5192296858534827628530496329220096 := by decide
  have h6 : (2 : Int) ^ 128 = 340282366920938463463374607431768211456 := by decide
  omega
end
theorem calm_law1 : True := by w_top off; exact True.intro
section
section
local macro_rules | `(tactic| k_room) => `(tactic| ktr_room)
local macro_rules | `(tactic| walk_at "call ref") => `(tactic| (refine Stop.mk ?_))
local macro_rules | `(tactic| is_list) => `(tactic| exact News.isList (by k_asm) (by k_mem))
local macro_rules | `(tactic| walk_at "binaryOp Add ref ref") => `(tactic| (k_here; k_dflt (refine' add_vals ?F ?N ?a ?b ?_ ?z; (case F => k_asm); (case N => k_asm); (case a => is_list); (case b => is_list); (case z => first | exact pick_small _ _ _ _ _ _ | exact add_two (by assumption))); intro D' h' F' N' l1; (try k_lt l1)))
local macro_rules | `(tactic| walk_at "exec If") => `(tactic| (refine Stop.mk ?_))
local macro_rules | `(tactic| walk_at "MidAt") => `(tactic| (refine Stop.mk ?_))
local macro_rules | `(tactic| walk_at "subscriptTail Name Slice ref ref") => `(tactic| (k_here; k_dflt (refine' kms_slice_lit ?F ?N ?l ?p ?q rfl ?_ ?s ?t ?z; (case F => k_asm); (case N => k_asm); (case l => kmk_list); (case p => kmk_part); (case q => kmk_part); (case s => with_unfolding_all rfl); (case t => kmk_pure); (case z => simp only [List.size_toArray]; assumption)); intro D' h' F' N' l1; (try k_lt l1)))
local macro_rules | `(tactic| walk_at "subscriptTail") => `(tactic| (k_here; (with_reducible show wpAny _ _ (subscriptTail (PySem.Expr.List _ _) _ (Value.ref _) (Value.ref _)) _ _ _); k_dflt (refine kba_turn (value' := PySem.Expr.Name (PySem.Str.ofString "_") ⟨0, 0, 0, 0⟩) (fun _ => rfl) ?_); k_dflt (refine' kms_slice_lit ?F ?N ?l ?p ?q rfl ?_ ?s ?t ?z; (case F => k_asm); (case N => k_asm); (case l => kmk_list); (case p => kmk_part); (case q => kmk_part); (case s => with_unfolding_all rfl); (case t => kmk_pure); (case z => exact Nat.le_of_ble_eq_true rfl)); intro D' h' F' N' l1; (try k_lt l1)))
local macro_rules | `(tactic| walk_at "pyIter ref") => `(tactic| (refine Stop.mk ?_))
local macro_rules | `(tactic| walk_at "exec For Name Name cons nil") => `(tactic| (k_here; (rename Fr _ _ _ _ => lF'); (with_unfolding_all refine' For_turns lF' ?_; k_whole)))
local macro_rules | `(tactic| walk_at "look") => `(tactic| (first | assumption | exact if_pos rfl | (refine (if_neg (by decide)).trans ?_; walk_at "look")))
local macro_rules | `(tactic| walk_at "eval Name") => `(tactic| (k_here; k_dflt (refine' nameX_L ?F ?v ?_ ?a ?b; (case F => k_asm); (case a => rfl); (case b => rfl); (case v => walk_at "look"); k_whole)))
local macro_rules | `(tactic| walk_at "subscriptTail") => `(tactic| (k_here; (with_reducible show wpAny _ _ (subscriptTail (PySem.Expr.List _ _) _ (Value.ref _) (Value.int _ _)) _ _ _); k_dflt (refine' two_item ?l ?i ?_ ?s; (case l => is_list); (case i => exact fmod2 _); (case s => with_unfolding_all rfl)); intro x' t' hx'))
local macro_rules | `(tactic| walk_at "subscriptTail") => `(tactic| (k_here; (with_reducible show wpAny _ _ (subscriptTail _ _ (Value.str _ _) (Value.int (Int.fmod (Int.fdiv _ _) _) _)) _ _ _); k_dflt (refine' name_K ?a ?b ?c ?_ ?s ?t; (case a => assumption); (case c => exact rz_from _); (case b => omega); (case s => with_unfolding_all rfl); (case t => kmk_pure)); intro nm' t' k' hlow hsafe))
local macro_rules | `(tactic| walk_at "subscriptTail") => `(tactic| (k_here; (with_reducible show wpAny _ _ (subscriptTail (PySem.Expr.Constant _ _ _) _ (Value.str _ _) (Value.int (Int.fmod _ _) _)) _ _ _); k_dflt (refine' abc_K ?b ?c ?_ ?s ?t; (case c => exact rz_to _); (case b => omega); (case s => with_unfolding_all rfl); (case t => kmk_pure)); intro t' k'))
local macro_rules | `(tactic| walk_at "compareOp NotIn str ref") => `(tactic| (k_here; refine notin_list_strs (by is_list) (by assumption) ?_))
local macro_rules | `(tactic| walk_at "execs cons") => `(tactic| (k_here; (with_reducible refine wpAny_execs_cons ?_); try dsimp only))
local macro_rules | `(tactic| walk_at "eval ListComp") => `(tactic| (k_here; k_dflt (refine LCg.ListComp_U (F₀ := by k_asm) (by rfl) (by decide) (by rfl) (by decide) (by rfl) ?_); k_dflt lcg_toSrc))
local macro_rules | `(tactic| walk_at "CompSrc") => `(tactic| (refine Stop.mk ?_))
local macro_rules | `(tactic| walk_at "compareOp In int ref") => `(tactic| (k_here; refine in_list_ints (by is_list) (links_are (by assumption)) ?_))
local macro_rules | `(tactic| walk_at "binaryOp Mult int int") => `(tactic| (k_here; (refine PyProof.Rows.mul_int ?_ (PySem.IntMulOk.of_left (Small.bits (by first | exact small_fl _ _ | exact small_tr _ | exact small_pairs _))))))
local macro_rules | `(tactic| walk_at "binaryOp Pow int int") => `(tactic| (k_here; (with_reducible refine pow_int_small ?kb1 ?kb2 ?kb3 ?_); (case kb1 => decide); (case kb2 => decide); (case kb3 => decide)))
local macro_rules | `(tactic| walk_at "exec For Name Call cons nil") => `(tactic| (k_here; (with_reducible show wpAny _ _ (exec (PySem.Stmt.For _ (PySem.Expr.Call (PySem.Expr.Name _ _) [PySem.Expr.Name _ _] _ _) _ _ _) _) _ _ _); (rename Fr _ _ _ _ => lF'); (with_unfolding_all refine' For_turns lF' ?_; k_whole)))
local macro_rules | `(tactic| walk_at "exec For Name Call cons nil") => `(tactic| (k_here; (with_reducible show wpAny _ _ (exec (PySem.Stmt.For _ (PySem.Expr.Call (PySem.Expr.Name _ _) [PySem.Expr.Call _ _ _ _, PySem.Expr.Constant _ _ _] _ _) _ _ _) _) _ _ _); (rename Fr _ _ _ _ => lF'); (with_unfolding_all refine' For_invVF lF' ?k1 ?k2 ?_; (case k1 => exact rfl); (case k2 => exact rfl); k_whole)))
local macro_rules | `(tactic| walk_at "call builtin:len") => `(tactic| (k_here; (with_reducible show wpAny _ _ (call (Value.builtin "len") [Value.str (wd _) _]) _ _ _); (refine len_wd (by omega) ?_); intro _ _))
local macro_rules | `(tactic| walk_at "getItem ref int") => `(tactic| (k_here; k_dflt (refine' ksa_get ?k1 ?k2 ?k3 ?k4 ?k5 ?k6 ?_; (case k1 => k_asm); (case k2 => k_mem); (case k3 => assumption); (case k4 => omega); (case k5 => omega); (case k6 => omega); k_whole); intro _))
local macro_rules | `(tactic| walk_at "subscriptTail") => `(tactic| (k_here; (with_reducible show wpAny _ _ (subscriptTail _ _ (Value.ref _) (Value.int (_ - _) _)) _ _ _); k_dflt (refine' ksa_sub ?k1 ?k2 ?k3 ?k4 ?k5 ?k6 ?_ ?k7; (case k1 => k_asm); (case k2 => k_mem); (case k3 => assumption); (case k4 => omega); (case k5 => omega); (case k6 => omega); (case k7 => with_unfolding_all rfl); k_whole); intro _))
local macro_rules | `(tactic| walk_at "setItem ref int") => `(tactic| (refine Stop.mk ?_))
local macro_rules | `(tactic| walk_at "execs nil") => `(tactic| (k_here; refine wpAny_execs_nil ?_))
local macro_rules | `(tactic| walk_at "subscriptTail") => `(tactic| (k_here; (with_reducible show wpAny _ _ (subscriptTail (PySem.Expr.Call _ _ _ _) _ (Value.ref _) (Value.ref _)) _ _ _); k_dflt (refine kba_turn (value' := PySem.Expr.Name (PySem.Str.ofString "_") ⟨0, 0, 0, 0⟩) (fun _ => rfl) ?_); k_dflt (refine' rev_vals ?F ?N ?l ?k ?z ?_ ?s ?t; (case F => k_asm); (case N => k_asm); (case l => is_list); (case k => exact IsPart.int _ _); (case z => assumption); (case s => with_unfolding_all rfl); (case t => kmk_pure)); intro D' h' F' N' l1; (try k_lt l1)))
local macro_rules | `(tactic| walk_at "compareOp Eq ref ref") => `(tactic| (refine Stop.mk ?_))
local macro_rules | `(tactic| walk_at "UnrEndW") => `(tactic| (refine Stop.mk ?_))
set_option maxHeartbeats 0 in
theorem law : PySem.Challenge.rw_pg0294_01.Holds := hd01 (by
  k_go0
  all_goals (try k_fold)
  rename (IntsAre _ _) => hI
  rename (¬ ((63 : Nat) : Int) < _) => h63
  have hz := script_size hI h63
  iterate 1 (first | walk1 | (dsimp only; walk1))
  rename (Obj.data _ = Data.cell _) => hcd0
  rename Obj => oc0
  rename Shared => s1
  rename World => ww
  refine mid_at (by k_asm) (fun m' news' => ∃ l kl vs ns', m' (Str.ofString "numbers") = some (.ref l) ∧ IntsAre vs ns' ∧ ns'.length = 4 ∧ news' = [(l, listOf vs.toArray kl), (s1.heap.objs.size + 1, oc0), (209, tabObj #[]), (202, tabObj #[])]) ?_ ?_
  · k_steps
    refine Stop.out ?_
    rename News _ _ _ _ => kN
    exact MidAt.intro (by k_asm) (news_sub kN (sub_cons (.head _) (fun p hp => by repeat (first | exact hp | refine List.Mem.tail _ ?_)))) ⟨_, _, _, _, by exact if_pos rfl, nums4_are hI _ _ _ _, nums4_len _, rfl⟩
  intro h8 tk8 m8 news8 F8 N8 M8
  obtain ⟨nl, kl, nvs, nns, e1, hI2, hl4, rfl⟩ := M8
  clear hI h63 hz
  obtain ⟨ov0, hcd0⟩ : ∃ ov, oc0.data = .cell ov := ⟨_, hcd0⟩
  rename (CodeHd _ ((213, 209) : Addr × Addr).fst _) => hCd
  rename (CodeHd _ ((206, 202) : Addr × Addr).fst _) => hCi
  replace hCd : CodeHd _ 213 209 := hCd
  replace hCi : CodeHd _ 206 202 := hCi
  (try dsimp only)
  k_steps
  rename_i xt1 xh1 xl1 xt2 xh2 xl2 xD xh3 kF kN xl3
  rw [show Str.ofString "a" = ch 97 from by decide +kernel, show Str.ofString "b" = ch 98 from by decide +kernel] at kN
  have hsf : ∀ i, i < 3 → Safe (ch (97 + i)) := fun i hi => safe_ch ⟨by omega, by omega⟩
  refine' Stop.out (c_new _ _ _ _ _ _ _ _ _ _ _ _ _ _ _ _ _ _ _ _ _ _ _ [(nl, listOf nvs.toArray kl), (s1.heap.objs.size + 1, oc0), (209, tabObj #[]), (202, tabObj #[])] ?q1B ?q1F ?q1X ?q1T ?q1K ?q1D ?q1U xD xt1 xt2 0 0 0 (ch 97) (ch 98) (ch 98) (ch 97) _ _ _ _ (hsf 0 (by omega)) (hsf 1 (by omega)) (hsf 1 (by omega)) (hsf 0 (by omega)) ?q1N ?q1R)
  (case q1B => k_asm)
  (case q1F => k_asm)
  (case q1X => k_asm)
  (case q1T => k_asm)
  (case q1K => first | exact rfl | assumption)
  (case q1D => ktr_room)
  (case q1U => ktr_units)
  (case q1N => exact news_sub kN (sub_cons (by k_mem) (sub_cons (by k_mem) (sub_cons (by k_mem) (fun p hp => by repeat (first | exact hp | refine List.Mem.tail _ ?_))))))
  intro xT xdx xtt h9 tk9 F9 l9 l10 N9
  clear kN kF
  (try dsimp only)
  k_steps
  refine Stop.out ?_
  rename News _ _ _ _ => kN
  refine' iter_lst (lo := listOf nvs.toArray kl) (vs := nvs) (news := (xT, instObj 182 xdx) :: (xdx, hdDict ww xD xtt) :: (xD, listOf #[.ref xt1, .ref xt2] 0) :: (nl, listOf nvs.toArray kl) :: (s1.heap.objs.size + 1, oc0) :: (209, tabObj #[]) :: (202, tabObj #[]) :: (xt1, pairObj (ch 97) _ (ch 98) _ 0) :: (xt2, pairObj (ch 98) _ (ch 97) _ 0) :: []) (by with_unfolding_all rfl) (by k_asm) (news_sub kN (sub_cons (by k_mem) (sub_cons (by k_mem) (sub_cons (by k_mem) (sub_cons (by k_mem) (sub_cons (by k_mem) (sub_cons (by k_mem) (sub_cons (by k_mem) (sub_cons (by k_mem) (sub_cons (by k_mem) (fun _ h => nomatch h))))))))))) (by k_mem) rfl rfl ?_
  intro I2 l2
  have dT : xT ≠ I2 := Nat.ne_of_lt (l2 (xT, _) (by k_mem))
  have dX : xdx ≠ I2 := Nat.ne_of_lt (l2 (xdx, _) (by k_mem))
  have dD : xD ≠ I2 := Nat.ne_of_lt (l2 (xD, _) (by k_mem))
  have dN : nl ≠ I2 := Nat.ne_of_lt (l2 (nl, _) (by k_mem))
  have dC : s1.heap.objs.size + 1 ≠ I2 := Nat.ne_of_lt (l2 (s1.heap.objs.size + 1, _) (by k_mem))
  have d61 : 209 ≠ I2 := Nat.ne_of_lt (l2 (209, _) (by k_mem))
  have d54 : 202 ≠ I2 := Nat.ne_of_lt (l2 (202, _) (by k_mem))
  have dt1 : xt1 ≠ I2 := Nat.ne_of_lt (l2 (xt1, _) (by k_mem))
  have dt2 : xt2 ≠ I2 := Nat.ne_of_lt (l2 (xt2, _) (by k_mem))
  have eN : nl ≠ xD := Nat.ne_of_lt xl3.2.2.1
  have eC : s1.heap.objs.size + 1 ≠ xD := Nat.ne_of_lt xl3.2.2.2.1
  have e61 : 209 ≠ xD := Nat.ne_of_lt xl3.2.2.2.2.1
  have e54 : 202 ≠ xD := Nat.ne_of_lt xl3.2.2.2.2.2
  have et1 : xt1 ≠ xD := Nat.ne_of_lt xl3.2.1
  have et2 : xt2 ≠ xD := Nat.ne_of_lt xl3.1
  have ft1 : s1.heap.objs.size + 1 < xt1 := xl1.2.1
  have ft2 : s1.heap.objs.size + 1 < xt2 := xl2.2.2.1
  have fX : s1.heap.objs.size + 1 < xdx := l9 (s1.heap.objs.size + 1, _) (by k_mem)
  have fT : s1.heap.objs.size + 1 < xT := Nat.lt_trans fX l10
  have fD : s1.heap.objs.size + 1 < xD := xl3.2.2.2.1
  have f61 : 209 < s1.heap.objs.size := by omega
  have f54 : 202 < s1.heap.objs.size := by omega
  clear l2 kN l9 l10 xl1 xl2 xl3
  refine' (?H : ∀ (rem : List Value) (ns' : List Int), IntsAre rem ns' → ∀ (es : List Ent) (ls : List Nat) (n : Nat) (rest' : List (Addr × Obj)) (m : Str → Option Value), Links es ls → LOk ls → es.length + ns'.length ≤ 6 → ns'.foldl (fun ls v => lstep ls (rz v)) ls = linksOf nns → EntsIn es rest' → (∀ p ∈ rest', p.1 ≠ I2) → (∀ p ∈ rest', p.1 ≠ xD) → (∀ p ∈ rest', s1.heap.objs.size + 1 < p.1) →
      m (Str.ofString "table") = some (.ref xT) → m (Str.ofString "numbers") = some (.ref nl) → LRest _ _ _ _ _ _ _ _ _ _ I2 nl (listOf nvs.toArray kl) rem m ((xT, instObj 182 xdx) :: (xdx, hdDict ww xD xtt) :: (xD, listOf (entVals es).toArray n) :: (nl, listOf nvs.toArray kl) :: (s1.heap.objs.size + 1, oc0) :: (209, tabObj #[]) :: (202, tabObj #[]) :: rest')) nvs nns hI2 [⟨xt1, 97, _, 98, _, _, 97⟩, ⟨xt2, 98, _, 97, _, _, 98⟩] [1, 3] _ [(xt1, _), (xt2, _)] _ (start_links _ _ _ _ _ _ _ _) LOk.start (by rw [hl4]; exact Nat.le_refl 6) rfl (start_ents (.head _) (.tail _ (.head _))) (sub_pair dt1 (sub_pair dt2 (fun _ h => nomatch h))) (sub_pair et1 (sub_pair et2 (fun _ h => nomatch h))) (sub_pair ft1 (sub_pair ft2 (fun _ h => nomatch h))) ?zm1 ?zm2
  (case zm1 => walk_at "look")
  (case zm2 => walk_at "look")
  intro rem
  induction rem with
  | nil =>
    intro ns' hi' es ls n rest' m hL hO hlen hfo hE hr1 hr2 hr3 m1 m2
    cases hi'
    intro h9 tk9 F9 N9
    (try dsimp only)
    k_steps
    refine Stop.out ?_
    rename News _ _ _ _ => kN
    have hnl := hI2.length
    refine' LCg.CompSrc.ledger ?c1 ?c2 kN ?c4 ?c5 ?_
    (case c1 => rfl)
    (case c2 => k_asm)
    (case c4 => k_mem)
    (case c5 => rw [List.size_toArray, hnl, hl4, sizeLine_eq]; decide)
    intro g7
    refine' mods_rest hI2 ?d2 ?d3 ?d4 ?d5 ?_
    (case d2 => k_mem)
    (case d3 => rfl)
    (case d4 => rfl)
    (case d5 => decide)
    intro ys7 hy7
    have hy4 : ys7.length = 4 := by rw [hy7.length, List.length_map, hl4]
    clear kN
    (try dsimp only)
    k_steps
    rename News _ _ _ _ => kN
    rename (_ < _ ∧ _) => lA
    rename Addr => lk
    have fk : s1.heap.objs.size + 1 < lk := by omega
    refine storeX_C (c := s1.heap.objs.size + 1) (news := (s1.heap.objs.size + 1, oc0) :: (lk, _) :: (xT, instObj 182 xdx) :: (xdx, hdDict ww xD xtt) :: (xD, listOf (entVals es).toArray n) :: (209, tabObj #[]) :: (202, tabObj #[]) :: rest') (by k_asm) (news_sub kN (sub_cons (by k_mem) (sub_cons (by k_mem) (sub_cons (by k_mem) (sub_cons (by k_mem) (sub_cons (by k_mem) (sub_cons (by k_mem) (sub_cons (by k_mem) (fun p hp => by repeat (first | exact hp | refine List.Mem.tail _ ?_)))))))))) rfl (UpdF.head ?off) hcd0 ?_
    (case off => exact off_cons (Nat.ne_of_gt fk) (off_cons (Nat.ne_of_gt fT) (off_cons (Nat.ne_of_gt fX) (off_cons (Nat.ne_of_gt fD) (off_cons (Nat.ne_of_lt (by omega)) (off_cons (Nat.ne_of_lt (by omega)) fun p hp => Nat.ne_of_gt (hr3 p hp)))))))
    intro h9 oc9 F9 N9 hc9
    clear kN
    (try dsimp only)
    k_steps
    refine' Stop.out (LCg.CompSrc.range (n := 9) (by rfl) (by k_asm) (by k_asm) (by assumption) (by decide +kernel) (by decide +kernel) (by rw [sizeLine_eq]; decide) ?_)
    intro g8
    refine' (?H4 : ∀ (k j : Nat) (ys : List Value), j + k = 9 → IntsAre ys ((List.range j).map fun q => fl (linksOf nns) q) → LCg.CompRest _ _ _ _ _ _ _ _ _ _ _ _ _ _ _ k j ys _) 9 0 [] rfl .nil
    intro k
    induction k with
    | succ k ihk =>
      intro j ys hjk hys
      refine LCg.CompRest.succ ?_
      intro v I oI' C oC D' m₂ h9 tk9 E' hv hC hx F9 N9 off ne
      simp only [LCg.Off3, and_true] at off
      obtain ⟨tv, rfl⟩ := hv
      k_steps
      · rename (List.any _ _ = true) => hc
        exact comp_end (by k_asm) (by k_asm) (by simp only [LCg.Off3, and_true]; exact off) True.intro (ihk (j + 1) _ (by omega) (flags_yes hys hc))
      · rename (List.any _ _ = false) => hc
        exact comp_end (by k_asm) (by k_asm) (by simp only [LCg.Off3, and_true]; exact off) True.intro (ihk (j + 1) _ (by omega) (flags_no hys hc))
    | zero =>
      intro j ys hjk hys
      obtain rfl : j = 9 := by omega
      obtain ⟨t0, t1, t2, t3, t4, t5, t6, t7, t8, rfl⟩ := nine hys
      clear hys
      refine LCg.CompRest.zero ?_
      k_steps
      rename News _ _ _ _ => kN
      rename Addr => bg
      rename (_ < _ ∧ _) => lB
      have b0 : s1.heap.objs.size + 1 < bg := by omega
      clear lB
      refine' Stop.out (c_rings _ _ _ _ _ _ _ _ _ _ _ _ _ _ _ _ _ _ _ _ _ _ _ ((bg, listOf #[.int 1 _, .int 0 _, .int 0 _, .int 0 _, .int 0 _] 0) :: (209, tabObj #[]) :: (202, tabObj #[]) :: rest') ?q4B ?q4F ?q4X ?q4T ?q4K ?q4D ?q4U xT xdx xD n xtt es (by simpa using hlen) (hE.mono ?q4m) (news_sub kN ?q4N) ?q4r)
      (case q4B => k_asm)
      (case q4F => k_asm)
      (case q4X => k_asm)
      (case q4T => k_asm)
      (case q4K => first | exact rfl | assumption)
      (case q4D => ktr_room)
      (case q4U => ktr_units)
      (case q4m => exact fun p hp => by repeat (first | exact hp | refine List.Mem.tail _ ?_))
      (case q4N => exact (sub_cons (by k_mem) (sub_cons (by k_mem) (sub_cons (by k_mem) (sub_cons (by k_mem) (sub_cons (by k_mem) (sub_cons (by k_mem) (fun p hp => by repeat (first | exact hp | refine List.Mem.tail _ ?_)))))))))
      intro rl kr vsr h9 tk9 hwr hlt F9 N9
      have hls : ls = linksOf nns := hfo
      have hL' : Links es (linksOf nns) := hls ▸ hL
      have hO' : LOk (linksOf nns) := hls ▸ hO
      clear kN
      (try dsimp only)
      k_steps
      refine Stop.out ?_
      rename News _ _ _ _ => kN
      refine' iter_lst (lo := listOf vsr.toArray kr) (vs := vsr) (news := ((bg, listOf [.int 1 _, .int 0 _, .int 0 _, .int 0 _, .int 0 _].toArray 0) :: (rl, listOf vsr.toArray kr) :: (209, tabObj #[]) :: (202, tabObj #[]) :: [])) (by with_unfolding_all rfl) (by k_asm) (news_sub kN (sub_cons (by k_mem) (sub_cons (by k_mem) (sub_cons (by k_mem) (sub_cons (by k_mem) (fun _ h => nomatch h)))))) (by k_mem) rfl rfl ?_
      intro I3 l3
      have bI : bg < I3 := l3 (bg, _) (by k_mem)
      have rI : rl < I3 := l3 (rl, _) (by k_mem)
      have bR : bg < rl := hlt (bg, _) (by k_mem)
      have b61 : 209 < bg := Nat.lt_trans f61 (Nat.lt_trans (Nat.lt_succ_self _) b0)
      have b54 : 202 < bg := Nat.lt_trans f54 (Nat.lt_trans (Nat.lt_succ_self _) b0)
      have c61 : 209 < I3 := Nat.lt_trans b61 bI
      have c54 : 202 < I3 := Nat.lt_trans b54 bI
      clear l3 hlt kN
      refine' (?H5 : ∀ (rem : List Value) (r : List (List Nat)), WordsAre rem r → (∀ l ∈ r, 1 ≤ l.length ∧ l.length ≤ 4) → ∀ (bvs : List Value) (bs : List Int) (m : Str → Option Value) (tb : Tok), IntsAre bvs bs → bs.length = 5 → (r.map List.length).foldl bagOne bs = bagsOf ((ringsTo es 4).map List.length) →
        m (Str.ofString "bags") = some (.ref bg) → m (Str.ofString "below") = some (.int (belowL (linksOf nns)) tb) → LRest _ _ _ _ _ _ _ _ _ _ I3 rl (listOf vsr.toArray kr) rem m ((bg, listOf bvs.toArray 0) :: (rl, listOf vsr.toArray kr) :: (209, tabObj #[]) :: (202, tabObj #[]) :: [])) vsr (ringsTo es 4) hwr (rings_long es 4) _ [1, 0, 0, 0, 0] _ _ (bags_are _ _ _ _ _) rfl rfl ?zb1 ?zb2
      (case zb1 => walk_at "look")
      (case zb2 => walk_at "look")
      intro rem
      induction rem with
      | nil =>
        intro r hr hlr bvs bs m tb hbi hb5 hfo2 m1 m2
        cases r with
        | cons _ _ => cases hr
        | nil =>
        intro h9 tk9 F9 N9
        (try dsimp only)
        have bk := law_bags hL' hO'
        rw [← show bs = bagsOf ((ringsTo es 4).map List.length) from hfo2] at bk
        k_steps
        rename News _ _ _ _ => kN
        refine' Stop.out (T_dm _ _ _ _ _ _ _ _ _ _ _ _ _ _ _ _ _ _ _ _ _ _ _ ?w1B ?w1F ?w1X ?w1T hCi hCd ?w1K ?w1D ?w1U ((bg, listOf bvs.toArray 0) :: []) (off_ty rfl (fun _ h => (List.not_mem_nil h).elim)) ⟨#[], #[], [], .inl rfl, .inl rfl, (fun _ h => (List.not_mem_nil h).elim), news_sub kN (sub_cons (by k_mem) (sub_cons (by k_mem) (sub_cons (by k_mem) (fun _ h => (List.not_mem_nil h).elim))))⟩ _ _ _ _ bk.n0 (Nat.le_trans bk.bits.2 (by decide)) (dm_small bk _ rfl) ?w1R)
        (case w1B => k_asm)
        (case w1F => k_asm)
        (case w1X => k_asm)
        (case w1T => k_asm)
        (case w1K => exact rfl)
        (case w1D => ktr_room)
        (case w1U => ktr_units)
        intro wr v1 v2 h9 tk9 F9 T9
        clear kN
        rw [show Int.fdiv (2 ^ Int.toNat 112) (belowL (linksOf nns)) = quo (belowL (linksOf nns)) from rfl] at T9
        obtain ⟨p1, p2, ex, ti1, ti2, oex, N9⟩ := T9
        simp only [List.cons_append, List.nil_append] at N9
        (try dsimp only)
        k_steps
        rename News _ _ _ _ => kN
        refine' Stop.out (T_i2d _ _ _ _ _ _ _ _ _ _ _ _ _ _ _ _ _ _ _ _ _ _ _ ?w2B ?w2F ?w2X ?w2T hCi hCd ?w2K ?w2D ?w2U ((bg, listOf bvs.toArray 0) :: []) (off_ty rfl (fun _ h => (List.not_mem_nil h).elim)) ⟨p1, p2, ex, ti1, ti2, oex, news_sub kN (sub_cons (by k_mem) (fun p hp => by repeat (first | exact hp | refine List.Mem.tail _ ?_)))⟩ _ 16 ⟨by decide, by decide⟩ bk.q0 5 bk.qk (by decide) bk.qx (fun _ => by decide) _ _ ?w2R)
        (case w2B => k_asm)
        (case w2F => k_asm)
        (case w2X => k_asm)
        (case w2T => k_asm)
        (case w2K => exact rfl)
        (case w2D => ktr_room)
        (case w2U => ktr_units)
        intro wt vst knt h9 tk9 F9 iT T9
        clear kN
        have hvl : vst.length ≤ sizeLine := by rw [iT.length, digs_length, sizeLine_eq]; decide
        clear ti1 ti2 oex
        obtain ⟨p1', p2', ex', ti1', ti2', oex', N9⟩ := T9
        simp only [List.cons_append, List.nil_append] at N9
        (try dsimp only)
        k_steps
        refine Stop.out ?_
        rename News _ _ _ _ => kN
        refine ke_eq_ints (News.isList kN (by k_mem)) (News.isList kN (by k_mem)) (ints_rev iT) hbi (by ke_room) ?_
        rw [show decide ((digs (Int.toNat 16) 5 (quo (belowL (linksOf nns)))).reverse = bs) = true from decide_eq_true bk.dg]
        k_steps
      | cons v rem ihr =>
        intro r hr hlr bvs bs m tb hbi hb5 hfo2 m1 m2
        cases r with
        | nil => cases hr
        | cons l r =>
        cases hr with | cons _ lt hr =>
        have hln := hlr l (.head _)
        intro h9 tk9 oI iI cI dI F9 N9
        (try dsimp only)
        k_steps
        refine Stop.out ?_
        rename News _ _ _ _ => kN
        rename IsRange _ _ _ _ _ _ _ _ => hir
        refine' iter_rangeUnr (n := 5 - l.length) (by rfl) hir (rng_five hln).1 (rng_five hln).2 (by k_asm) kN ?_
        intro I9 l9
        have k3 : I3 < I9 := l9 (I3, _) (by k_mem)
        have k9 : bg < I9 := Nat.lt_trans bI k3
        clear l9 hir kN
        refine' (?H6 : ∀ (k i : Nat) (m : Str → Option Value) (bvs : List Value) (bs' : List Int), i + k = 5 - l.length → IntsAre bvs bs' → bs'.length = 5 → (List.range' (l.length + i) k).foldl (bagAt l.length) bs' = bagOne bs l.length →
          m (Str.ofString "bags") = some (.ref bg) → m (Str.ofString "ring") = some (.str (wd l) lt) → m (Str.ofString "below") = some (.int (belowL (linksOf nns)) tb) → RangeRest _ _ _ _ _ _ _ _ _ _ _ _ _ k i m ((I3, oI) :: (bg, listOf bvs.toArray 0) :: (rl, listOf vsr.toArray kr) :: (209, tabObj #[]) :: (202, tabObj #[]) :: [])) (5 - l.length) 0 _ bvs bs (by omega) hbi hb5 rfl ?zc1 ?zc2 ?zc3
        (case zc1 => walk_at "look")
        (case zc2 => walk_at "look")
        (case zc3 => walk_at "look")
        clear hbi hb5 m1 m2
        intro k
        induction k with
        | zero =>
          intro i m bvs bs' hik hbi hb5 hfd m1 m3 m2
          refine RangeRest.zero (fun h9 tk9 F9 N9 => ?_)
          (try dsimp only)
          k_steps
          rename News _ _ _ _ => kN
          refine Stop.out ?_
          refine unrEnd_one (I := I3) (o := oI) (news' := ((bg, listOf bvs.toArray 0) :: (rl, listOf vsr.toArray kr) :: (209, tabObj #[]) :: (202, tabObj #[]) :: [])) (by k_asm) (news_sub kN (sub_cons (by k_mem) (sub_cons (by k_mem) (sub_cons (by k_mem) (sub_cons (by k_mem) (sub_cons (by k_mem) (fun _ h => nomatch h))))))) (off_cons (Nat.ne_of_lt bI) (off_cons (Nat.ne_of_lt rI) (off_cons (Nat.ne_of_lt c61) (off_cons (Nat.ne_of_lt c54) (fun _ h => (List.not_mem_nil h).elim))))) ⟨by k_mem, ihr _ hr (fun q hq => hlr q (.tail _ hq)) bvs bs' _ tb hbi hb5 (by rw [show bs' = bagOne bs l.length from hfd]; exact hfo2) m1 m2⟩
        | succ k ihk =>
          intro i m bvs bs' hik hbi hb5 hfd m1 m3 m2
          refine RangeRest.succ (fun t9 h9 tk9 F9 N9 => ?_)
          (try dsimp only)
          k_steps
          refine Stop.out ?_
          rename News _ _ _ _ => kN
          refine ksa_set (by k_asm) kN (.tail (Nat.ne_of_gt k9) (.tail (Nat.ne_of_gt bI) (.head (off_cons (Nat.ne_of_gt bR) (off_cons (Nat.ne_of_lt b61) (off_cons (Nat.ne_of_lt b54) (fun _ h => (List.not_mem_nil h).elim))))))) hbi (by omega) (by omega) (by omega) ?_
          intro h9 F9 N9 hi9 hl9 hs9
          clear kN
          (try dsimp only)
          k_steps
          refine ihk (i + 1) _ _ _ (by omega) hi9 (hl9.trans hb5) (bag_step hfd) ?_ ?_ ?_
          · walk_at "look"
          · walk_at "look"
          · walk_at "look"
  | cons v rem ih =>
    intro ns' hi' es ls n rest' m hL hO hlen hfo hE hr1 hr2 hr3 m1 m2
    cases hi' with | cons v tv hi' =>
    rw [List.length_cons] at hlen
    intro h9 tk9 oI iI cI dI F9 N9
    have hj1 : rz v / 3 < 3 := by have := rz_lt v; omega
    have hj2 : rz v % 3 < 3 := by omega
    (try dsimp only)
    k_steps
    refine Stop.out ?_
    k_here
    refine wpAny_If ?_
    k_steps
    rename News _ _ _ _ => kN
    rename (Txt.lower _ = _) => hlow
    rename (Safe _) => hsafe
    refine' Stop.out (c_getall _ _ _ _ _ _ _ _ _ _ _ _ _ _ _ _ _ _ _ _ _ _ _ ((I2, oI) :: (nl, listOf nvs.toArray kl) :: (s1.heap.objs.size + 1, oc0) :: (209, tabObj #[]) :: (202, tabObj #[]) :: rest') ?q2B ?q2F ?q2X ?q2T ?q2K ?q2D ?q2U xT xdx xD n xtt es _ _ _ hlow (hsf _ hj1) (by omega) (hE.mono ?q2m) (news_sub kN ?q2N) ?q2r)
    (case q2B => k_asm)
    (case q2F => k_asm)
    (case q2X => k_asm)
    (case q2T => k_asm)
    (case q2K => first | exact rfl | assumption)
    (case q2D => ktr_room)
    (case q2U => ktr_units)
    (case q2m => exact fun p hp => by repeat (first | exact hp | refine List.Mem.tail _ ?_))
    (case q2N => exact (sub_cons (by k_mem) (sub_cons (by k_mem) (sub_cons (by k_mem) (sub_cons (by k_mem) (sub_cons (by k_mem) (sub_cons (by k_mem) (sub_cons (by k_mem) (sub_cons (by k_mem) (fun p hp => by repeat (first | exact hp | refine List.Mem.tail _ ?_)))))))))))
    intro l8 vs8 h8 tk8 hl8 fr8 F8 N8
    clear kN
    (try dsimp only)
    k_steps
    · rename (List.any _ _ = true) => hc
      rename News _ _ _ _ => kN
      have hst := any_yes hL hO hc
      have hfo' : List.foldl (fun ls v => lstep ls (rz v)) (lstep ls (rz v)) _ = linksOf nns := hfo
      rw [hst] at hfo'
      refine Stop.out ?_
      refine unrEnd_one (I := I2) (o := oI) (news' := (xT, instObj 182 xdx) :: (xdx, hdDict ww xD xtt) :: (xD, listOf (entVals es).toArray n) :: (nl, listOf nvs.toArray kl) :: (s1.heap.objs.size + 1, oc0) :: (209, tabObj #[]) :: (202, tabObj #[]) :: rest') (by k_asm) (news_sub kN (sub_cons (by k_mem) (sub_cons (by k_mem) (sub_cons (by k_mem) (sub_cons (by k_mem) (sub_cons (by k_mem) (sub_cons (by k_mem) (sub_cons (by k_mem) (sub_cons (by k_mem) (fun p hp => by repeat (first | exact hp | refine List.Mem.tail _ ?_))))))))))) (off_cons dT (off_cons dX (off_cons dD (off_cons dN (off_cons dC (off_cons d61 (off_cons d54 hr1))))))) ⟨by k_mem, ih _ hi' es ls n rest' _ hL hO (by omega) hfo' hE hr1 hr2 hr3 ?_ ?_⟩
      · walk_at "look"
      · walk_at "look"
    · rename (List.any _ _ = false) => hc
      rename News _ _ _ _ => kN
      have hst := any_no hL hO hc
      have hfo' : List.foldl (fun ls v => lstep ls (rz v)) (lstep ls (rz v)) _ = linksOf nns := hfo
      have hO' := hO.step (rz_lt v)
      rw [hst] at hfo' hO'
      refine' Stop.out (c_add _ _ _ _ _ _ _ _ _ _ _ _ _ _ _ _ _ _ _ _ _ _ _ ((I2, oI) :: (nl, listOf nvs.toArray kl) :: (s1.heap.objs.size + 1, oc0) :: (209, tabObj #[]) :: (202, tabObj #[]) :: rest') ?q3B ?q3F ?q3X ?q3T ?q3K ?q3D ?q3U xT xdx xD n xtt es _ _ _ _ _ hlow (by omega) hsafe (hsf _ hj2) (by omega) (hE.mono ?q3m) ?q3o (news_sub kN ?q3N) ?q3r)
      (case q3B => k_asm)
      (case q3F => k_asm)
      (case q3X => k_asm)
      (case q3T => k_asm)
      (case q3K => first | exact rfl | assumption)
      (case q3D => ktr_room)
      (case q3U => ktr_units)
      (case q3m => exact fun p hp => by repeat (first | exact hp | refine List.Mem.tail _ ?_))
      (case q3N => exact (sub_cons (by k_mem) (sub_cons (by k_mem) (sub_cons (by k_mem) (sub_cons (by k_mem) (sub_cons (by k_mem) (sub_cons (by k_mem) (sub_cons (by k_mem) (sub_cons (by k_mem) (fun p hp => by repeat (first | exact hp | refine List.Mem.tail _ ?_)))))))))))
      (case q3o => exact off_cons (Ne.symm dD) (off_cons eN (off_cons eC (off_cons e61 (off_cons e54 hr2)))))
      intro e n' h9 tk9 q1 q2 q3 q4 q5 q6 F9 N9
      clear kN
      (try dsimp only)
      k_steps
      rename News _ _ _ _ => kN
      refine Stop.out ?_
      refine unrEnd_one (I := I2) (o := oI) (news' := (xT, instObj 182 xdx) :: (xdx, hdDict ww xD xtt) :: (xD, listOf (entVals (es ++ [e])).toArray n') :: (nl, listOf nvs.toArray kl) :: (s1.heap.objs.size + 1, oc0) :: (209, tabObj #[]) :: (202, tabObj #[]) :: (e.a, e.obj) :: rest') (by k_asm) (news_sub kN (sub_cons (by k_mem) (sub_cons (by k_mem) (sub_cons (by k_mem) (sub_cons (by k_mem) (sub_cons (by k_mem) (sub_cons (by k_mem) (sub_cons (by k_mem) (sub_cons (by k_mem) (sub_cons (by k_mem) (fun p hp => by repeat (first | exact hp | refine List.Mem.tail _ ?_)))))))))))) (off_cons dT (off_cons dX (off_cons dD (off_cons dN (off_cons dC (off_cons d61 (off_cons d54 (off_cons (Nat.ne_of_gt (q6 (I2, oI) (by k_mem))) hr1)))))))) ⟨by k_mem, ih _ hi' (es ++ [e]) (ls ++ [rz v]) n' ((e.a, e.obj) :: rest') _ (hL.snoc q2 q3) hO' (by rw [List.length_append]; simp only [List.length_cons, List.length_nil]; omega) hfo' (ents_snoc hE q4) (sub_pair (Nat.ne_of_gt (q6 (I2, oI) (by k_mem))) hr1) (sub_pair (Nat.ne_of_gt q5) hr2) (sub_pair (q6 (s1.heap.objs.size + 1, oc0) (by k_mem)) hr3) ?_ ?_⟩
      · walk_at "look"
      · walk_at "look")
end
end
end Mine
theorem PySem.Challenge.cw_pg0294_01_holds : PySem.Challenge.rw_pg0294_01.Holds := by
  exact Mine.law
