import PyProof.Rows.All
import Wide.All
import OpenK.AllK
import Wide.FinOn
import PySem.Challenge.RW_ai0010_01
set_option linter.unusedVariables false
open PySem PySem.W PyProof.Rows PySem.Spec PySem.Calls
set_option Elab.async false
set_option maxRecDepth 100000
namespace Mine
theorem left_fast {p q : Program} {loose : List Str} {Xt : Shared → Bool} {α : Type} {Yf : Shared → α} {Ya : World → α} {N m₀ : Nat} {ann : Option Value} {g0 : Bool}
    (ho : opening p = plainProg p.main.scope.names) (hN : Nat.ble 600 N = true) (hf : ∀ s, fenceModules? p s = some s)
    (size : ∀ w : World, ((boot_heap w.params).isNs mainGlobals, (boot_heap w.params).objs.size, (boot_heap w.params).nsMap mainGlobals "__annotations__") = (true, m₀, ann))
    (run : ∀ w : World, (fun os : OsState => (topRun treeTable p w m₀ ann N ⟨boot_heap w.params, Array.mk [], boot_drawn, boot_toks, os⟩ (topStub p)).map fun s =>
       ((staticsOk (importedModules p.main.body) (boot_heap w.params) s.heap && namesBound p s.heap && gensDone s && laidKept (boot_heap w.params) s.heap), openSeen q loose (importedModules p.main.body) Xt g0 s, Yf s)) = fun _ => some (true, openGood q loose, Ya w)) :
    LeftO p q loose Xt Yf Ya N g0 := fun w => by
  obtain ⟨⟨h, gs, d, k, os⟩, e, e'⟩ := Option.map_eq_some_iff.mp (boot_open ho hN hf w)
  obtain ⟨rfl, rfl, rfl, rfl⟩ : h = boot_heap w.params ∧ gs = Array.mk [] ∧ d = boot_drawn ∧ k = boot_toks := by simpa using e'
  obtain ⟨z1, z2, z3⟩ : _ ∧ _ ∧ _ := by simpa only [Prod.mk.injEq] using size w
  obtain ⟨s, r, l⟩ := Option.map_eq_some_iff.mp (congrFun (run w) os)
  obtain ⟨l1, l2, l3⟩ : _ ∧ _ ∧ _ := by simpa only [Prod.mk.injEq] using l
  have t : topFrom treeTable p w N ⟨boot_heap w.params, Array.mk [], boot_drawn, boot_toks, os⟩ = some s := by
    unfold topFrom
    dsimp only
    rw [z1, z2, z3]
    show Option.bind (topRun treeTable p w m₀ ann N _ _) _ = _
    rw [r]
    show (match staticsOk (importedModules p.main.body) (boot_heap w.params) s.heap && namesBound p s.heap && gensDone s && laidKept (boot_heap w.params) s.heap with | true => some s | false => _) = _
    rw [l1]
  unfold openEnds
  rw [e]
  show (topFrom treeTable p w N _).map _ = _
  rw [t]
  exact congrArg some (Prod.ext l2 l3)
theorem left_tw {p q : Program} {loose : List Str} {Xt : Shared → Bool} {α : Type} {Yf : Shared → α} {Ya : World → α} {N m₀ : Nat} {ann : Option Value} {g0 : Bool}
    (ho : opening p = plainProg p.main.scope.names) (hN : Nat.ble 600 N = true) (hf : ∀ s, fenceModules? p s = some s)
    (size : ∀ w : World, ((boot_heap w.params).isNs mainGlobals, (boot_heap w.params).objs.size, (boot_heap w.params).nsMap mainGlobals "__annotations__") = (true, m₀, ann))
    (run : ∀ w : World, (fun os : OsState => (PySem.W.Fast.tw14082659384304107361 PySem.W.Fast.tw14364793385576792824 p w m₀ ann N ⟨boot_heap w.params, Array.mk [], boot_drawn, boot_toks, os⟩ (topStub p)).map fun s =>
       ((staticsOk (PySem.W.Fast.tw5923862056798008813 p.main.body) (boot_heap w.params) s.heap && namesBound p s.heap && gensDone s && laidKept (boot_heap w.params) s.heap), PySem.W.Fast.tw4187177175401517315 q loose (PySem.W.Fast.tw5923862056798008813 p.main.body) Xt g0 s, Yf s)) = fun _ => some (true, openGood q loose, Ya w)) :
    LeftO p q loose Xt Yf Ya N g0 := left_fast ho hN hf size fun w => by
  rw [PySem.W.Fast.te14082659384304107361, PySem.W.Fast.te14364793385576792824, PySem.W.Fast.te5923862056798008813, PySem.W.Fast.te4187177175401517315]
  exact run w
theorem wp : PySem.Challenge.rw_ai0010_01.wellSaid = true := by
  rw [PySem.W.Fast.te9446332074065402090]
  kernel_rfl
section
local macro_rules | `(tactic| first | refine $e | fail $_s:str) => `(tactic| (refine $e; (case hl => exact left_tw (m₀ := 11) (ann := some (.ref 6)) (by kernel_rfl) (by decide) (fun s => by kernel_rfl) (fun w => by kernel_rfl) (fun w => by kernel_rfl))))
local macro_rules | `(tactic| o_law) => `(tactic| refine holds_law wp fun said => ?_)
open_top hd for PySem.Challenge.rw_ai0010_01
end
noncomputable section
local macro_rules | `(tactic| walk_at $s:str) => `(tactic| k_extra $s)
local macro_rules | `(tactic| k_mem) => `(tactic| k_extra "K:k_mem")
local macro_rules | `(tactic| k_room) => `(tactic| k_extra "K:k_room")
local macro_rules | `(tactic| k_units) => `(tactic| k_extra "K:k_units")
local macro_rules | `(tactic| k_qdec) => `(tactic| first | (rw [PySem.W.Fast.te17448422675489707002, PySem.W.Fast.te821141287760084731]; kernel_rfl) | (rw [PySem.W.Fast.te2458874890965802552]; kernel_rfl))
set_option rowWalk.seconds 0
set_option maxHeartbeats 100000000
set_option linter.defProp false
def Keep (P : Prop) : Prop := P
theorem Kf {P : Prop} (h : Keep P) : P := h
theorem Kn {P : Prop} (h : P) : Keep P = True := eq_true h
inductive Lock (P : Prop) : Prop where
  | mk (h : P) : Lock P
theorem Lock.out {P : Prop} : Lock P → P := fun l => Lock.rec (fun h => h) l
def Dom11 {P G : Prop} (_ : Lock P → G) : Prop := P
def Dom21 {P Q G : Prop} (_ : Lock P → Lock Q → G) : Prop := P
def Dom22 {P Q G : Prop} (_ : Lock P → Lock Q → G) : Prop := Q
def Flg (_n : Nat) : Prop := True
theorem U (n : Nat) : Flg n := trivial
theorem om1 {a b c n : Nat} (h : a + b < n) (e : c ≤ b) : a + c < n := by omega
theorem om2 {a b p q n : Nat} (h : a + b < n) (e : p + q ≤ b) : a + p + q < n := by omega
theorem om3 {a b p q r n : Nat} (h : a + b < n) (e : p + q + r ≤ b) : a + p + q + r < n := by omega
theorem omc {i : Nat} : 0 + (i : Int) * 1 = i := by omega
theorem omi {i m : Nat} {z : Int} (h : i < m) (e : (m : Int) ≤ z) : (i : Int) < z := by omega
theorem omp {k i : Nat} (h : k < i + 1) (g : k ≠ i) : k < i := by omega
theorem omd {a b : Nat} (h : ¬ a = b) : ¬ (a : Int) = b := by omega
theorem omn {a : Nat} : ¬ (a : Int) < 0 := by omega
theorem omq1 {a b i : Nat} (h : a ≤ b + i) : a ≤ b + (i + 1) := Nat.le_succ_of_le h
theorem omq2 {a b i : Nat} (h : a ≤ b + i) : a + 1 ≤ b + (i + 1) := Nat.succ_le_succ h
theorem omq3 {a b i n N : Nat} (h : a ≤ b + i) (g : i < n) (e : b + n ≤ N) : a ≤ N := Nat.le_trans h (Nat.le_trans (Nat.add_le_add_left (Nat.le_of_lt g) b) e)
theorem omq4 {a b i n N : Nat} (h : a ≤ b + i) (g : i ≤ n) (e : b + n ≤ N) : a ≤ N := Nat.le_trans h (Nat.le_trans (Nat.add_le_add_left g b) e)
theorem omq5 {i m : Nat} {z : Int} (h : i ≤ m) (e : (m : Int) < z) : (i : Int) < z := Int.lt_of_le_of_lt (Int.ofNat_le.mpr h) e
theorem omq6 {i : Nat} {z : Int} (e : z ≤ 0) : z ≤ (i : Int) := Int.le_trans e (Int.natCast_nonneg _)
theorem omq7 {a n : Nat} (k : Nat) (h : a < n) : a / k < n := Nat.lt_of_le_of_lt (Nat.div_le_self _ _) h
theorem omq8 {a c k m N : Nat} (h : a = c * k) (g : k ≤ m) (e : c * m ≤ N) : a ≤ N := by rw [h]; exact Nat.le_trans (Nat.mul_le_mul_left c g) e
theorem omq9 {a c n N : Nat} (h : a ≤ c ∧ c ≤ n) (e : n < N) : c < N := Nat.lt_of_le_of_lt h.2 e
theorem omqa {a b : Nat} (h : ¬ a = b) (g : (a : Int) = b) : False := h (Int.ofNat.inj g)
theorem omqb {a b n N : Nat} (h : a = b) (g : b ≤ n) (e : n ≤ N) : a ≤ N := h ▸ Nat.le_trans g e
theorem omqc {a b n N : Nat} (h : a = b) (g : b < n) (e : n ≤ N) : a < N := h ▸ Nat.lt_of_lt_of_le g e
theorem omqd {a b n N i : Nat} (h : a = b) (g : b ≤ n + i) (l : i < N) {K : Nat} (e : n + N ≤ K) : a ≤ K := h ▸ omq3 g l e
theorem omqe {i k n : Nat} (h : i + (k + 1) = n) : i + 1 + k = n := by rw [← h, Nat.add_assoc, Nat.add_comm 1 k]
theorem omqf {i k n : Nat} (h : i + (k + 1) = n) : i < n := by rw [← h]; exact Nat.lt_add_of_pos_right (Nat.succ_pos k)
theorem omqg {k i : Nat} {P : Prop} (h : k < i ∧ P) : k < i + 1 := Nat.lt_succ_of_lt h.1
theorem omqh {i n m : Nat} {z : Int} (h : i < n) (g : n ≤ m) (e : (m : Int) ≤ z) : (i : Int) < z := Int.lt_of_lt_of_le (Int.ofNat_lt.mpr (Nat.lt_of_lt_of_le h g)) e
theorem omqi {i n m N : Nat} (h : i < n) (g : n ≤ m) (e : m ≤ N) : i < N := Nat.lt_of_lt_of_le h (Nat.le_trans g e)
theorem omqj {a b n N : Nat} (h : a ≤ b) (g : b ≤ n) (e : n ≤ N) : a ≤ N := Nat.le_trans h (Nat.le_trans g e)
theorem omqk {a b n : Nat} {z : Int} (h : a = b) (g : b ≤ n) (e : (n : Int) < z) : (a : Int) < z := omq5 (h ▸ g) e
theorem omr1 {n : Nat} : (-1 + ((n + 1 : Nat) : Int)).toNat = n := by omega
theorem omr2 {n : Nat} (h : 0 < n) : (-1 + (n : Int)).toNat = n - 1 := by omega
theorem omr3 {d v : Nat} (g : d + 1 ≤ 5) (h : v ≤ 100 - (d + 1 + 1)) : v + 1 ≤ 100 - (d + 1) := by omega
theorem omr3' {d v : Nat} (g : d + 1 ≤ 5) (h : v ≤ 100 - (d + 1 + 1)) : v + 1 ≤ 100 - 0 := by omega
theorem omr4 {v d k N : Nat} (h : v ≤ k - d) (e : k ≤ N) : v ≤ N := Nat.le_trans h (Nat.le_trans (Nat.sub_le k d) e)
theorem omr5 {a k : Nat} (h : a = 2 * k) (g : k = 20 ∨ k = 32) : a = 40 ∨ a = 64 := by omega
theorem omr6 {k : Nat} : (if 0 < 2 * (k : Int) then (2 * (k : Int) - 1) / 2 + 1 else 0) = (k : Int) := by omega
theorem omr7 {o a b c : Nat} {z : Int} (h : a ≤ o ∧ o ≤ b) (e : c ≤ a) (ez : (c : Int) = z) : a ≤ o ∧ o ≤ b ∧ ((o - c : Nat) : Int) = (o : Int) - z := by omega
theorem omr8 {n i k : Nat} (h : n - i = k + 1) : n - (i + 1) = k := by omega
theorem omr9 {n i : Nat} (h : i < n) : n + 1 - (i + 1) < n + 1 - i := by omega
theorem omra {d n : Nat} (h : d ≤ n) : d + (n - d) = n := Nat.add_sub_cancel' h
theorem omra' {d n : Nat} (h : d < n) : d + (n - d) = n := Nat.add_sub_cancel' (Nat.le_of_lt h)
theorem omrb {n k : Nat} (h : n = k + 1) : n - 1 = k := by omega
theorem omrc {n m N : Nat} (h : n ≤ m) (e : m + 1 ≤ N) : 0 + 1 + (n - 1) ≤ N := by omega
theorem omrc1 {n m N k : Nat} (h : n ≤ m) (e : m + k ≤ N) : n + k ≤ N := by omega
theorem omrc2 {n m N : Nat} (h : n ≤ m) (e : m + m ≤ N) : n + n ≤ N := by omega
theorem omrc3 {n m N k : Nat} (h : n ≤ m) (e : k + m ≤ N) : k + n ≤ N := by omega
theorem omre {n : Nat} (h : 0 < n) : n - 1 < n := Nat.sub_lt h Nat.one_pos
theorem omrf {n : Nat} (h : n ≠ 40) (g : n ≠ 64) : ¬ 40 = (n : Int) ∧ ¬ 64 = (n : Int) := by omega
theorem omrg {a b i : Nat} (h : a = b) : b ≤ a - i + i := by omega
theorem omrh {a i k : Nat} (h : a = 2 * k) (g : i < k) : (0 + (i : Int) * 2 + 1).toNat < a := by omega
theorem omri {a i k : Nat} (h : a = 2 * k) (g : i < k) : (0 + (i : Int) * 2).toNat < a := by omega
theorem omrj {a i k : Nat} (h : a = 2 * k) (g : i < k) : 0 + (i : Int) * 2 + 1 < (a : Int) := by omega
theorem omrk {a i k : Nat} (h : a = 2 * k) (g : i < k) : 0 + (i : Int) * 2 < (a : Int) := by omega
theorem omrl {i : Nat} : 0 ≤ 0 + (i : Int) * 2 + 1 := by omega
theorem omrm {i : Nat} : 0 ≤ 0 + (i : Int) * 2 := by omega
theorem wd : True := by
  w_top off
  k_with_none
  k_with "W" => (first
    | (with_reducible first
      | refine wpAny_pure ?_
      | refine wpAny_bind ?_
      | refine wpAny_holding ?_
      | refine wpAny_standAt ?_
      | refine wpAny_point ?_
      | refine wpAny_rule ?_
      | refine wpAny_letGo ?_
      | refine wpAny_mkInt' ?_
      | refine wpAny_fresh' ?_
      | refine wpAny_alloc' ?_
      | refine wpAny_attempt ?_
      | refine wpAny_throw ?_
      | (refine' wpAny_of_eq ?_ ?_; rotate_right 2; assumption)
      | (refine' wpAny_typeOf ?_ ?_; rotate_right 2; assumption)
      | refine wpAny_specialOf_val (by assumption) (by assumption) ?_
      | refine wpAny_specialOf (by assumption) (by assumption) ?_
      | refine wpAny_isInstance_val (by assumption) (by assumption) ?_
      | refine wpAny_isInstance (by assumption) (by assumption) ?_
      | refine wpAny_call ?_
      | refine wpAny_runValue ?_
      | refine wpAny_run ?_)
    | ((with_reducible refine' wpAny_load' ?_ ?_); rotate_right 2; focus (heap_get; done))
    | ((with_reducible refine' wpAny_update' ?_ ?_); rotate_right 2; focus (heap_get; done))
    | ((with_reducible refine' wpAny_loadPart' ?_ ?_); rotate_right 2; focus (heap_get; done))
    | ((with_reducible refine' wpAny_handled_none ?_ ?_); rotate_right 2; assumption)
    | ((with_reducible refine' wpAny_ite_false ?_ ?_); rotate_right 2; focus (rfl; done))
    | ((with_reducible refine' wpAny_ite_true ?_ ?_); rotate_right 2; focus (rfl; done))
    | ((with_reducible refine' wpAny_ite_false ?_ ?_); rotate_right 2; focus (simp [*]; done))
    | ((with_reducible refine' wpAny_ite_true ?_ ?_); rotate_right 2; focus (simp [*]; done))
    | wp_delta
    | with_reducible_and_instances refine wpAny_pure ?_
    | with_reducible_and_instances refine wpAny_bind ?_)
  k_with "subscriptTail Name Constant ref int" => (k_extra "subscriptTail")
  k_with "subscriptTail Name" => (k_extra "subscriptTail")
  k_with "subscriptTail Name Name ref int" => (k_extra "subscriptTail")
  k_with "subscriptTail Name BinOp ref int" => (k_extra "subscriptTail")
  k_with "subscriptTail Subscript" => (k_extra "subscriptTail")
  k_with "subscriptTail" => (k_here; (with_reducible show wpAny _ _ (subscriptTail _ _ (Value.ref _) (Value.int _ _)) _ _ _); k_dflt ((first | with_reducible refine' item_tupleT ?_ ?_ ?_ ?_ ?_ ?_ | refine' item_tupleT ?_ ?_ ?_ ?_ ?_ ?_); rotate_right 6; (focus (refine' News.isTup ?_ ?_; rotate_right 2; k_asm; k_mem; done)); decide; decide; rfl; rfl; k_whole))
  k_with "M:om" => (focus (first
    | (exact (by decide))
    | (with_reducible first
      | assumption
      | (refine' om2 ?_ ?_; rotate_right 2; assumption; decide; done)
      | (refine' om1 ?_ ?_; rotate_right 2; assumption; decide; done)
      | (refine' om3 ?_ ?_; rotate_right 2; assumption; decide; done)
      | exact Int.natCast_nonneg _
      | exact omc
      | (refine' Nat.lt_of_lt_of_le ?_ ?_; rotate_right 2; assumption; decide; done)
      | (refine' Nat.lt_of_le_of_lt ?_ ?_; rotate_right 2; assumption; decide; done)
      | (refine' Nat.le_trans ?_ ?_; rotate_right 2; assumption; decide; done)
      | (refine' omi ?_ ?_; rotate_right 2; assumption; decide; done)
      | exact Nat.lt_succ_self _
      | (refine' Nat.le_of_lt ?_; rotate_right 1; assumption; done)
      | (refine' Nat.lt_succ_of_lt ?_; rotate_right 1; assumption; done)
      | (refine' omp ?_ ?_; rotate_right 2; assumption; assumption; done)
      | (refine' omq1 ?_; rotate_right 1; assumption; done)
      | (refine' omq2 ?_; rotate_right 1; assumption; done)
      | (refine' omq3 ?_ ?_ ?_; rotate_right 3; assumption; assumption; decide; done)
      | (refine' omq4 ?_ ?_ ?_; rotate_right 3; assumption; assumption; decide; done)
      | (refine' omq5 ?_ ?_; rotate_right 2; assumption; decide; done)
      | (refine' omq6 ?_; rotate_right 1; decide; done)
      | (refine' omq7 _ ?_; rotate_right 1; assumption; done)
      | (refine' omq7 _ (omq7 _ ?_); rotate_right 1; assumption; done)
      | (refine' omq7 _ (omq7 _ (omq7 _ ?_)); rotate_right 1; assumption; done)
      | (refine' omq7 _ (omq7 _ (omq7 _ (omq7 _ ?_))); rotate_right 1; assumption; done)
      | (refine' omq8 ?_ ?_ ?_; rotate_right 3; assumption; assumption; decide; done)
      | (refine' omq9 ?_ ?_; rotate_right 2; assumption; decide; done)
      | (refine' omqa ?_ ?_; rotate_right 2; assumption; assumption; done)
      | (refine' omqb ?_ ?_ ?_; rotate_right 3; assumption; assumption; decide; done)
      | (refine' omqc ?_ ?_ ?_; rotate_right 3; assumption; assumption; decide; done)
      | (refine' omqh ?_ ?_ ?_; rotate_right 3; assumption; assumption; decide; done)
      | (refine' omqi ?_ ?_ ?_; rotate_right 3; assumption; assumption; decide; done)
      | (refine' omqj ?_ ?_ ?_; rotate_right 3; assumption; assumption; decide; done)
      | (refine' omqk ?_ ?_ ?_; rotate_right 3; assumption; assumption; decide; done)
      | exact Nat.min_le_left _ _
      | (refine' omqe ?_; rotate_right 1; assumption; done)
      | (refine' omqf ?_; rotate_right 1; assumption; done)
      | (refine' omqg ?_; rotate_right 1; assumption; done)
      | (refine' Nat.mod_lt _ ?_; rotate_right 1; decide; done)
      | (refine' omi (Nat.mod_lt _ ?_) ?_; rotate_right 2; decide; decide; done)
      | exact omr1
      | (refine' omr2 ?_; rotate_right 1; assumption; done)
      | (refine' omr3 ?_ ?_; rotate_right 2; assumption; assumption; done)
      | (refine' omr3' ?_ ?_; rotate_right 2; assumption; assumption; done)
      | (refine' omr4 ?_ ?_; rotate_right 2; assumption; decide; done)
      | (refine' omr5 ?_ ?_; rotate_right 2; assumption; assumption; done)
      | exact omr6
      | (refine' omr7 ?_ ?_ ?_; rotate_right 3; assumption; decide; decide; done)
      | (refine' omr8 ?_; rotate_right 1; assumption; done)
      | (refine' omr9 ?_; rotate_right 1; assumption; done)
      | (refine' omra ?_; rotate_right 1; assumption; done)
      | (refine' omra' ?_; rotate_right 1; assumption; done)
      | (refine' omrb ?_; rotate_right 1; assumption; done)
      | (refine' omrc ?_ ?_; rotate_right 2; assumption; decide; done)
      | (refine' omrc1 ?_ ?_; rotate_right 2; assumption; decide; done)
      | (refine' omrc2 ?_ ?_; rotate_right 2; assumption; decide; done)
      | (refine' omrc3 ?_ ?_; rotate_right 2; assumption; decide; done)
      | (refine' omre ?_; rotate_right 1; assumption; done)
      | (refine' omrf ?_ ?_; rotate_right 2; assumption; assumption; done)
      | (refine' omrg ?_; rotate_right 1; assumption; done)
      | (refine' omrh ?_ ?_; rotate_right 2; assumption; assumption; done)
      | (refine' omri ?_ ?_; rotate_right 2; assumption; assumption; done)
      | (refine' omrj ?_ ?_; rotate_right 2; assumption; assumption; done)
      | (refine' omrk ?_ ?_; rotate_right 2; assumption; assumption; done)
      | exact omrl
      | exact omrm
      | (refine' omd ?_; rotate_right 1; assumption; done)
      | exact omn)
    | omega (splitDisjunctions := true)))
  k_with "D" => (first | decide | decide +kernel)
  k_with "K:k_room" => (guard_hyp zF1; ((k_dflt (first | exact room_ab hdp rfl | exact room_a hdp rfl | exact room_abc hdp rfl | exact room_at (k := 0) hdp rfl rfl | exact room_at (k := 1) hdp rfl rfl | exact room_at (k := 2) hdp rfl rfl | exact room_at (k := 3) hdp rfl rfl | exact room_at (k := 4) hdp rfl rfl | ((try simp only [depth_mark, depth_under_make, depth_under_kw, depth_in1, depth_deeper, recursionLimit]); (try simp only [recursionLimit] at *); omega)))))
  k_with "K:k_units" => (guard_hyp zF1; ((k_dflt (first | exact unit_ab hu rfl | exact unit_a hu rfl | exact unit_abc hu rfl | exact unit_at (k := 0) hu rfl rfl | exact unit_at (k := 1) hu rfl rfl | exact unit_at (k := 2) hu rfl rfl | exact unit_at (k := 3) hu rfl rfl | exact unit_at (k := 4) hu rfl rfl | exact unit_at (k := 5) hu rfl rfl | exact unit_at (k := 6) hu rfl rfl | exact unit_at (k := 7) hu rfl rfl | exact unit_at (k := 8) hu rfl rfl | exact unit_at (k := 9) hu rfl rfl | exact unit_at (k := 10) hu rfl rfl | exact unit_at (k := 11) hu rfl rfl | ((try simp only [units_in1, units_deeper, Around.mark_units, cLine]); (try simp only [cLine] at *); omega)))))
  k_with "M:enter" => (guard_hyp zF1; ((refine wpAny_call ?_; k_dflt ((first | with_reducible refine' code_def ?_ ?_ ?_ ?_ ?_ ?_ ?_ ?_ ?_ ?_ ?_ ?_ ?_ ?_ ?_ ?_ ?_ ?_ | refine' code_def ?_ ?_ ?_ ?_ ?_ ?_ ?_ ?_ ?_ ?_ ?_ ?_ ?_ ?_ ?_ ?_ ?_ ?_); (rotate_right 13; exact rfl; exact rfl; assumption; rotate_left 10); (rotate_right 15; k_asm; k_asm; k_asm; k_asm; k_asm; k_is; k_is; k_room; (first | exact BindsTo.of_eq rfl | exact binds_K (by k_in) rfl (by k_is) rfl rfl rfl); rotate_left 6); (rotate_right 1; decide); (rotate_right 5; exact locs rfl; rotate_left 4); (rotate_right 3; exact rfl; exact rfl; exact rfl)); intro g'w L'w h'w FG'w F'w N'w B'w X'w T'w; (try dsimp only); (try k_fold))))
  k_with "K:k_mem" => (guard_hyp zF1; (assumption))
  k_with "M:isdict" => (guard_hyp zF1; (first | assumption | exact isDict_nil (by assumption)))
  k_with "M:val" => (guard_hyp zF1; (first | assumption | exact rfl))
  k_with "M:news" => (guard_hyp zF1; (first | assumption | exact cb_drop (by assumption) (fun _ hp => List.Mem.tail _ hp) | exact cb_drop (by assumption) (fun _ hp => List.Mem.tail _ (List.Mem.tail _ hp)) | exact cb_drop (by assumption) (fun _ hp => List.Mem.tail _ (List.Mem.tail _ (List.Mem.tail _ hp)))))
  k_with "getMethod ref" => (guard_hyp zF1; ((k_here; (with_reducible show wpAny _ _ (getMethod (Value.ref _) (PySem.Str.ofString "get") _) _ _ _); k_dflt ((first | with_reducible refine' dict_meth (knd := bytesKind _ _) PySem.F.slot_dict_get PySem.F.type_dict_get ?_ ?_ ?_ ?_ | refine' dict_meth (knd := bytesKind _ _) PySem.F.slot_dict_get PySem.F.type_dict_get ?_ ?_ ?_ ?_); (rotate_right 4; k_asm; (focus (k_mem; done)); (focus (k_extra "M:isdict"; done)); rotate_left 1); k_whole))))
  k_with "call builtin:dict.get" => (guard_hyp zF1; ((k_here; (with_reducible show wpAny _ _ (call (Value.builtin "dict.get") [Value.ref _, Value.bytes _ _, _]) _ _ _); k_dflt ((first | with_reducible refine' dict_get2 ?_ ?_ ?_ ?_ ?_ ?_ | refine' dict_get2 ?_ ?_ ?_ ?_ ?_ ?_); (rotate_right 6; k_asm; (focus (k_mem; done)); (focus (k_extra "M:isdict"; done)); assumption; (focus (k_extra "M:val"; done)); rotate_left 1); k_whole); (try dsimp only [Option.getD]))))
  k_with "truthy bytes" => (guard_hyp zF1; ((k_here; (refine' truthy_pos ?_ ?_ ?_; (rotate_right 3; assumption; assumption; rotate_left 1)); intro tkw)))
  k_with "exec While" => (guard_hyp zF1; ((k_here; refine stopM ?_)))
  k_with "exec While BoolOp" => (guard_hyp zF1; ((k_here; refine stopM ?_)))
  k_with "K:k_room" => (guard_hyp zF10; ((k_dflt (first | exact room_ab hdp rfl | exact room_a hdp rfl | exact room_abc hdp rfl | exact room_at (k := 0) hdp rfl rfl | exact room_at (k := 1) hdp rfl rfl | exact room_at (k := 2) hdp rfl rfl | exact room_at (k := 3) hdp rfl rfl | exact room_at (k := 4) hdp rfl rfl | ((try simp only [depth_mark, depth_under_make, depth_under_kw, depth_in1, depth_deeper, recursionLimit]); (try simp only [recursionLimit] at *); omega)))))
  k_with "K:k_units" => (guard_hyp zF10; ((k_dflt (first | exact unit_ab hu rfl | exact unit_a hu rfl | exact unit_abc hu rfl | exact unit_at (k := 0) hu rfl rfl | exact unit_at (k := 1) hu rfl rfl | exact unit_at (k := 2) hu rfl rfl | exact unit_at (k := 3) hu rfl rfl | exact unit_at (k := 4) hu rfl rfl | exact unit_at (k := 5) hu rfl rfl | exact unit_at (k := 6) hu rfl rfl | exact unit_at (k := 7) hu rfl rfl | exact unit_at (k := 8) hu rfl rfl | exact unit_at (k := 9) hu rfl rfl | exact unit_at (k := 10) hu rfl rfl | exact unit_at (k := 11) hu rfl rfl | ((try simp only [units_in1, units_deeper, Around.mark_units, cLine]); (try simp only [cLine] at *); omega)))))
  k_with "M:enter" => (guard_hyp zF10; ((refine wpAny_call ?_; k_dflt ((first | with_reducible refine' code_def ?_ ?_ ?_ ?_ ?_ ?_ ?_ ?_ ?_ ?_ ?_ ?_ ?_ ?_ ?_ ?_ ?_ ?_ | refine' code_def ?_ ?_ ?_ ?_ ?_ ?_ ?_ ?_ ?_ ?_ ?_ ?_ ?_ ?_ ?_ ?_ ?_ ?_); (rotate_right 13; exact rfl; assumption; assumption; rotate_left 10); (rotate_right 15; k_asm; k_asm; k_asm; k_asm; k_asm; k_is; k_is; k_room; (first | exact BindsTo.of_eq rfl | exact binds_K (by k_in) rfl (by k_is) rfl rfl rfl); rotate_left 6); (rotate_right 1; decide); (rotate_right 5; exact locs rfl; rotate_left 4); (rotate_right 3; exact rfl; exact rfl; exact rfl)); intro g'w L'w h'w FG'w F'w N'w B'w X'w T'w; (try dsimp only); (try k_fold))))
  k_with "M:enterS" => (guard_hyp zF10; ((refine wpAny_call ?_; k_dflt ((first | with_reducible refine' enterS ?_ ?_ ?_ ?_ ?_ ?_ ?_ ?_ ?_ ?_ ?_ ?_ ?_ ?_ ?_ ?_ ?_ ?_ ?_ ?_ ?_ ?_ | refine' enterS ?_ ?_ ?_ ?_ ?_ ?_ ?_ ?_ ?_ ?_ ?_ ?_ ?_ ?_ ?_ ?_ ?_ ?_ ?_ ?_ ?_ ?_); (rotate_right 13; exact rfl; assumption; assumption; rotate_left 10); (rotate_right 18; k_asm; rotate_left 17); (rotate_right 18; k_asm; rotate_left 17); (rotate_right 14; assumption; assumption; assumption; assumption; rotate_left 10); (rotate_right 13; k_asm; k_asm; k_asm; k_is; k_is; k_room; (first | exact BindsTo.of_eq rfl | exact binds_K (by k_in) rfl (by k_is) rfl rfl rfl); rotate_left 6); (rotate_right 1; decide); (rotate_right 5; exact locs rfl; rotate_left 4); (rotate_right 3; exact rfl; exact rfl; exact rfl)); intro g'w L'w h'w FG'w F'w N'w B'w X'w T'w D'w; (try dsimp only); (try k_lift B'w); (try k_fold))))
  k_with "K:k_mem" => (guard_hyp zF10; (assumption))
  k_with "M:news" => (guard_hyp zF10; (first | assumption | exact cb_drop (by assumption) (fun _ hp => List.Mem.tail _ hp) | exact cb_drop (by assumption) (fun _ hp => List.Mem.tail _ (List.Mem.tail _ hp)) | exact cb_drop (by assumption) (fun _ hp => List.Mem.tail _ (List.Mem.tail _ (List.Mem.tail _ hp)))))
  k_with "M:enterC" => (guard_hyp zF10; ((refine wpAny_call ?_; k_dflt ((first | with_reducible refine' code_defC ?_ ?_ ?_ ?_ ?_ ?_ ?_ ?_ ?_ ?_ ?_ ?_ ?_ ?_ ?_ ?_ ?_ ?_ | refine' code_defC ?_ ?_ ?_ ?_ ?_ ?_ ?_ ?_ ?_ ?_ ?_ ?_ ?_ ?_ ?_ ?_ ?_ ?_); (rotate_right 13; exact rfl; assumption; assumption; rotate_left 10); (rotate_right 15; k_asm; k_asm; k_asm; k_asm; k_asm; k_is; k_is; k_room; (first | exact BindsTo.of_eq rfl | exact binds_K (by k_in) rfl (by k_is) rfl rfl rfl); exact rfl; (focus (decide +kernel; done)); rotate_left 4); (rotate_right 3; exact rfl; exact rfl; exact rfl)); intro g'w L'w h'w tk'w cells'w FG'w F'w N'w Y'w B'w X'w T'w l1w; (try k_lt l1w); k_cells Y'w; (try simp only [List.cons_append, List.nil_append] at N'w); (try dsimp only); (try k_lift B'w); (try k_fold))))
  k_with "M:enter" => (guard_hyp zF2; ((k_dflt ((first | with_reducible refine' call3 ?_ ?_ ?_ ?_ ?_ ?_ ?_ ?_ ?_ ?_ ?_ ?_ ?_ ?_ ?_ ?_ | refine' call3 ?_ ?_ ?_ ?_ ?_ ?_ ?_ ?_ ?_ ?_ ?_ ?_ ?_ ?_ ?_ ?_); (rotate_right 11; exact rfl; (first | assumption | exact rfl); (first | assumption | exact rfl); rotate_left 8); (rotate_right 13; k_asm; k_asm; k_asm; k_asm; k_asm; k_is; k_is; k_room; exact rfl; rotate_left 4); (rotate_right 1; decide); (rotate_right 3; exact rfl; rotate_left 2); (rotate_right 1; exact rfl)); intro g'w L'w h'w tkqw qkw ekw FG'w F'w N'w B'w X'w T'w)))
  k_with "call ref" => (guard_hyp zF2; ((k_here; k_dflt (first | ((first | with_reducible refine' call_meth ?_ ?_ ?_ | refine' call_meth ?_ ?_ ?_); (rotate_right 3; k_asm; (focus (k_mem; done)); rotate_left 1); k_whole) | skip); k_extra "M:enter")))
  k_with "storeName" => (guard_hyp zF2; ((k_here; k_dflt ((first | with_reducible refine' storeX_P ?_ ?_ ?_ ?_ | refine' storeX_P ?_ ?_ ?_ ?_); (rotate_right 4; k_asm; k_asm; rotate_left 2); (rotate_right 1; rfl); k_whole); intro h'w tkqw mqw F'w N'w; (try k_sweep))))
  k_with "M:enterS" => (guard_hyp zF2; ((k_dflt ((first | with_reducible refine' callS3 ?_ ?_ ?_ ?_ ?_ ?_ ?_ ?_ ?_ ?_ ?_ ?_ ?_ ?_ ?_ ?_ ?_ ?_ ?_ ?_ | refine' callS3 ?_ ?_ ?_ ?_ ?_ ?_ ?_ ?_ ?_ ?_ ?_ ?_ ?_ ?_ ?_ ?_ ?_ ?_ ?_ ?_); (rotate_right 11; exact rfl; assumption; assumption; rotate_left 8); (rotate_right 16; k_asm; rotate_left 15); (rotate_right 16; k_asm; rotate_left 15); (rotate_right 12; assumption; assumption; assumption; assumption; rotate_left 8); (rotate_right 11; k_asm; k_asm; k_asm; k_is; k_is; k_room; exact rfl; rotate_left 4); (rotate_right 1; decide); (rotate_right 3; exact rfl; rotate_left 2); (rotate_right 1; exact rfl)); intro g'w L'w h'w tkqw qkw ekw FG'w F'w N'w B'w X'w T'w D'w; (try k_lift B'w))))
  k_with "LeaveK" => (guard_hyp zF2; (((first | (((with_reducible refine' x_lev ?_ ?_ ?_); rotate_right 3; k_dflt k_asm; k_dflt k_asm; rotate_left 1)) | (((with_reducible refine' x_len ?_ ?_ ?_); rotate_right 3; k_dflt k_asm; k_dflt k_asm; rotate_left 1))); k_whole; intro kFw kNw; (try clear T'w); (try clear X'w); (try clear B'w))))
  k_with "exec If" => (guard_hyp zF3; ((k_here; with_reducible refine x_if ?_)))
  k_with "ite" => (guard_hyp zF3; (first | (with_reducible refine x_ift ?_) | (with_reducible refine x_ife ?_) | (unfold qif)))
  k_with "exec Assign" => (guard_hyp zF3; ((k_here; ((with_reducible refine' x_asg ?_ ?_); rotate_right 1; k_dflt rfl))))
  k_with "isTrue Compare" => (guard_hyp zF3; ((k_here; ((with_reducible refine' x_cmt ?_ ?_); rotate_right 1; with_unfolding_all rfl))))
  k_with "eval Compare" => (guard_hyp zF3; ((k_here; ((with_reducible refine' x_cmp ?_ ?_); rotate_right 1; with_unfolding_all rfl))))
  k_with "eval BinOp" => (guard_hyp zF3; ((k_here; with_reducible refine x_bin ?_)))
  k_with "eval Subscript" => (guard_hyp zF3; ((k_here; with_reducible refine x_sub ?_)))
  k_with "isTrue" => (guard_hyp zF3; ((k_here; ((with_reducible refine' x_tru ?_ ?_); rotate_right 1; k_dflt rfl))))
  k_with "eval Tuple" => (guard_hyp zF3; ((k_here; with_reducible refine x_tup ?_)))
  k_with "eval List" => (guard_hyp zF3; ((k_here; with_reducible refine x_lst ?_)))
  k_with "spliced" => (guard_hyp zF3; ((k_here; first | (((with_reducible refine' x_arg ?_ ?_); rotate_right 1; k_dflt rfl)) | (with_reducible refine args_nil ?_))))
  k_with "And" => (guard_hyp zF3; ((k_here; first | (((with_reducible refine' x_and1 ?_ ?_); rotate_right 2; (first | with_reducible assumption | (focus (refine' Frag.In.keeps ?_ (Fr.keep ?_); rotate_right 2; k_asm; k_asm; done)) | k_in); rotate_left 1)) | (((with_reducible refine' x_and0 ?_ ?_); rotate_right 2; (first | with_reducible assumption | (focus (refine' Frag.In.keeps ?_ (Fr.keep ?_); rotate_right 2; k_asm; k_asm; done)) | k_in); rotate_left 1)))))
  k_with "callWith ref" => (guard_hyp zF3; ((k_here; k_dflt (((first | with_reducible refine' x_cwK ?_ ?_ ?_ ?_ ?_ | refine' x_cwK ?_ ?_ ?_ ?_ ?_); rotate_right 5; k_asm; k_is; rotate_left 3; rotate_right 2; rfl; rfl); k_whole))))
  k_with "callWith builtin:len" => (guard_hyp zF3; ((k_here; ((with_reducible refine' x_cwB ?_ ?_ ?_); rotate_right 2; k_dflt rfl; k_dflt rfl))))
  k_with "callWith" => (guard_hyp zF3; ((k_here; first | (((with_reducible refine' x_cwB ?_ ?_ ?_); rotate_right 2; k_dflt rfl; k_dflt rfl)) | (((with_reducible refine' x_cwM ?_ ?_ ?_); rotate_right 2; k_dflt rfl; k_dflt rfl)))))
  k_with "eval Call" => (guard_hyp zF3; ((k_here; ((with_reducible refine' x_cal ?_ ?_); rotate_right 1; k_dflt rfl))))
  k_with "eval Call Attribute" => (guard_hyp zF3; ((k_here; ((with_reducible refine' x_mca ?_ ?_); rotate_right 1; k_dflt rfl))))
  k_with "eval Attribute Name" => (guard_hyp zF3; ((k_here; ((with_reducible refine' x_atn ?_ ?_); rotate_right 1; k_dflt rfl))))
  k_with "eval Name" => (guard_hyp zF3; ((k_here; k_dflt (first | (((first | with_reducible refine' x_nam ?_ ?_ ?_ ?_ | refine' x_nam ?_ ?_ ?_ ?_); rotate_right 4; k_asm; rfl; rotate_left 2; rotate_right 1; rfl)) | (((first | with_reducible refine' x_glk ?_ ?_ ?_ ?_ ?_ ?_ | refine' x_glk ?_ ?_ ?_ ?_ ?_ ?_); rotate_right 6; k_asm; k_asm; k_asm; k_is; rotate_left 2; rotate_right 1; rfl)) | (((first | with_reducible refine' x_glb ?_ ?_ ?_ ?_ ?_ ?_ ?_ | refine' x_glb ?_ ?_ ?_ ?_ ?_ ?_ ?_); rotate_right 7; k_asm; k_asm; k_asm; k_is; boot_fast; rotate_left 2; rotate_right 1; rfl))); k_whole)))
  k_with "execs cons" => (guard_hyp zF3; ((k_here; (try dsimp only); (try (with_reducible refine tok_add fun tkq => ?_)); refine x_cons ?_)))
  k_with "eval Constant int" => (guard_hyp zF3; ((with_reducible refine x_int ?_)))
  k_with "eval Constant str" => (guard_hyp zF3; ((with_reducible refine x_str ?_)))
  k_with "eval Constant bytes" => (guard_hyp zF3; ((with_reducible refine x_byt ?_)))
  k_with "getAttr ref" => (guard_hyp zF3; ((k_here; k_dflt ((first | with_reducible refine' x_own ?_ ?_ ?_ ?_ ?_ ?_ ?_ ?_ ?_ ?_ | refine' x_own ?_ ?_ ?_ ?_ ?_ ?_ ?_ ?_ ?_ ?_); (rotate_right 10; k_asm; k_asm; k_inst; k_is; k_is; k_is; k_is; k_get; k_handed; rotate_left 1); k_whole))))
  k_with "eval Slice" => (guard_hyp zF3; ((k_here; with_reducible refine x_sli ?_)))
  k_with "setAttr ref" => (guard_hyp zF4; ((k_here; (with_reducible show wpAny _ _ (setAttr (Value.ref _) (PySem.Str.ofString "ref") _) _ _ _); k_dflt ((first | with_reducible refine' set_exc1 ?_ ?_ ?_ ?_ ?_ | refine' set_exc1 ?_ ?_ ?_ ?_ ?_); (rotate_right 5; k_asm; k_asm; k_asm; assumption; rotate_left 1); k_whole); intro h'w tk'w d'w F'w N'w n1w n2w n3w n4w n5w; (try k_sweep))))
  k_with "setAttr ref" => (guard_hyp zF4; ((k_here; (with_reducible show wpAny _ _ (setAttr (Value.ref _) (PySem.Str.ofString "depth") _) _ _ _); k_dflt ((first | with_reducible refine' set_exc2 ?_ ?_ ?_ ?_ ?_ ?_ ?_ ?_ ?_ ?_ | refine' set_exc2 ?_ ?_ ?_ ?_ ?_ ?_ ?_ ?_ ?_ ?_); (rotate_right 10; k_asm; k_asm; k_asm; assumption; assumption; assumption; assumption; assumption; assumption; rotate_left 1); k_whole); intro h'w tk'w F'w N'w; (try k_sweep))))
  k_with "binaryOp Add bytes bytes" => (guard_hyp zF5; ((k_here; (refine' sym_add ?_ ?_; (rotate_right 2; assumption; rotate_left 1)); intro t'w k'w)))
  k_with "getMethod bytes" => (guard_hyp zF5; ((k_here; first | (with_reducible show wpAny _ _ (getMethod (Value.bytes _ _) (PySem.Str.ofString "startswith") _) _ _ _; with_reducible refine bytes_meth FB.slot_bytes_startswith FB.type_bytes_startswith ?_) | (with_reducible show wpAny _ _ (getMethod (Value.bytes _ _) (PySem.Str.ofString "endswith") _) _ _ _; with_reducible refine bytes_meth FB.slot_bytes_endswith FB.type_bytes_endswith ?_))))
  k_with "call builtin:bytes.startswith" => (guard_hyp zF5; ((k_here; with_reducible refine' starts_b ?_ ?_; (rotate_right 2; (first | exact oct_starts_l (by assumption) | exact oct_starts_r (by assumption) | decide); rotate_left 1))))
  k_with "subscriptTail" => (guard_hyp zF5; ((k_here; (with_reducible show wpAny _ _ (subscriptTail _ _ (Value.bytes (List.toArray (oct (Sum.inl _))) _) (Value.ref _)) _ _ _); k_dflt ((first | with_reducible refine' sym_cut ?_ ?_ ?_ ?_ | refine' sym_cut ?_ ?_ ?_ ?_); (rotate_right 4; assumption; k_asm; k_asm; rotate_left 1)); intro h'w t'w k'w F'w N'w; (try k_sweep))))
  k_with "call ref" => (guard_hyp zF6; ((k_here; (with_reducible show wpAny _ _ (call (Value.ref 182) [Value.ref _, Value.bytes _ _]) _ _ _); k_dflt (first | ((first | with_reducible refine' c_read_none ?_ ?_ ?_ ?_ ?_ ?_ ?_ ?_ ?_ ?_ ?_ ?_ ?_ ?_ ?_ ?_ ?_ | refine' c_read_none ?_ ?_ ?_ ?_ ?_ ?_ ?_ ?_ ?_ ?_ ?_ ?_ ?_ ?_ ?_ ?_ ?_); (rotate_right 2; assumption; rotate_left 1); (rotate_right 16; k_asm; k_asm; k_asm; k_asm; k_asm; exact rfl; k_room; k_units; (focus (k_mem; done)); (focus (k_mem; done)); (focus (k_mem; done)); assumption; assumption; assumption; assumption; rotate_left 1); k_whole) | ((first | with_reducible refine' c_read_some ?_ ?_ ?_ ?_ ?_ ?_ ?_ ?_ ?_ ?_ ?_ ?_ ?_ ?_ ?_ ?_ ?_ | refine' c_read_some ?_ ?_ ?_ ?_ ?_ ?_ ?_ ?_ ?_ ?_ ?_ ?_ ?_ ?_ ?_ ?_ ?_); (rotate_right 2; assumption; rotate_left 1); (rotate_right 16; k_asm; k_asm; k_asm; k_asm; k_asm; exact rfl; k_room; k_units; (focus (k_mem; done)); (focus (k_mem; done)); (focus (k_mem; done)); assumption; assumption; assumption; assumption; rotate_left 1); k_whole)); intro tv'w h'w tk'w F'w N'w; (try k_sweep))))
  k_with "exec Raise some none" => (guard_hyp zF7; ((k_here; (with_reducible show wpAny _ _ (exec (Stmt.Raise (some (Expr.Call (Expr.Name (PySem.Str.ofString "SymrefLoop") _) _ _ _)) none _) _) _ _ _); refine' raise_107 rfl ?_)))
  k_with "call ref" => (guard_hyp zF7; ((k_here; (with_reducible show wpAny _ _ (call (Value.ref 107) [_, _]) _ _ _); k_dflt ((first | with_reducible refine' c_loop ?_ ?_ ?_ ?_ ?_ ?_ ?_ ?_ ?_ | refine' c_loop ?_ ?_ ?_ ?_ ?_ ?_ ?_ ?_ ?_); (rotate_right 9; k_asm; k_asm; k_asm; k_asm; k_asm; exact rfl; k_room; k_units; rotate_left 1); k_whole); intro e'w h'w tk'w t'w d'w F'w N'w n'w; (try k_sweep))))
  k_with "leaving ref" => (guard_hyp zF7; ((k_here; k_dflt ((first | with_reducible refine' leave_excS ?_ ?_ ?_ ?_ ?_ ?_ ?_ | refine' leave_excS ?_ ?_ ?_ ?_ ?_ ?_ ?_); (rotate_right 5; assumption; assumption; rotate_left 3); (rotate_right 4; assumption; rotate_left 3); (rotate_right 4; assumption; exact rfl; exact rfl; rotate_left 1)); intro h'w S'w R'w U'w)))
  k_with "call ref" => (guard_hyp zF11; ((k_here; (with_reducible show wpAny _ _ (call (Value.ref 41) [Value.int _ _]) _ _ _); k_dflt ((first | with_reducible refine' c_digit ?_ ?_ ?_ ?_ ?_ ?_ ?_ ?_ ?_ ?_ ?_ | refine' c_digit ?_ ?_ ?_ ?_ ?_ ?_ ?_ ?_ ?_ ?_ ?_); (rotate_right 2; assumption; rotate_left 1); (rotate_right 10; k_asm; k_asm; k_asm; k_asm; k_asm; exact rfl; exact rfl; k_room; k_units; rotate_left 1); k_whole); intro t'w h'w tk'w F'w N'w; (try k_sweep))))
  k_with "subscriptTail" => (guard_hyp zF11; ((k_here; (with_reducible show wpAny _ _ (subscriptTail _ _ (Value.bytes (List.toArray _) _) (Value.int _ _)) _ _ _); ((refine' KBy.item_N ?_ ?_ ?_ ?_; rotate_right 4; omega; omega; omega; rotate_left 1)))))
  k_with "call ref" => (guard_hyp zF14; ((k_here; (with_reducible show wpAny _ _ (call (Value.ref 60) [_, Value.bytes _ _]) _ _ _); k_dflt (first | ((first | with_reducible refine' c_unhex ?_ ?_ ?_ ?_ ?_ ?_ ?_ ?_ ?_ ?_ ?_ ?_ ?_ | refine' c_unhex ?_ ?_ ?_ ?_ ?_ ?_ ?_ ?_ ?_ ?_ ?_ ?_ ?_); (rotate_right 2; assumption; rotate_left 1); (rotate_right 3; assumption; assumption; rotate_left 1); (rotate_right 10; k_asm; k_asm; k_asm; k_asm; k_asm; exact rfl; exact rfl; k_room; k_units; rotate_left 1); k_whole)); intro v'w h'w tk'w F'w N'w; (try k_sweep))))
  k_with "call ref" => (guard_hyp zF14; ((k_here; (with_reducible show wpAny _ _ (call (Value.ref 60) [_, Value.bytes _ _]) _ _ _); k_dflt (first | ((first | with_reducible refine' c_unhex_no ?_ ?_ ?_ ?_ ?_ ?_ ?_ ?_ ?_ ?_ ?_ ?_ ?_ ?_ ?_ ?_ ?_ ?_ | refine' c_unhex_no ?_ ?_ ?_ ?_ ?_ ?_ ?_ ?_ ?_ ?_ ?_ ?_ ?_ ?_ ?_ ?_ ?_ ?_); (rotate_right 2; assumption; rotate_left 1); (rotate_right 4; assumption; assumption; assumption; rotate_left 1); (rotate_right 14; k_asm; k_asm; k_asm; k_asm; k_asm; exact rfl; exact rfl; assumption; assumption; assumption; exact KtsTurn.refl; k_room; k_units; rotate_left 1); k_whole)); intro e'w h'w tk'w G'w FG'w RS'w UG'w)))
  k_with "getMethod bytes" => (guard_hyp zF16; ((k_here; first | (with_reducible show wpAny _ _ (getMethod (Value.bytes _ _) (PySem.Str.ofString "startswith") _) _ _ _; with_reducible refine bytes_meth FB.slot_bytes_startswith FB.type_bytes_startswith ?_) | (with_reducible show wpAny _ _ (getMethod (Value.bytes _ _) (PySem.Str.ofString "endswith") _) _ _ _; with_reducible refine bytes_meth FB.slot_bytes_endswith FB.type_bytes_endswith ?_))))
  k_with "call builtin:bytes.startswith" => (guard_hyp zF16; ((k_here; with_reducible refine' starts_b ?_ ?_; (rotate_right 2; (first | assumption | decide); rotate_left 1))))
  k_with "call ref" => (guard_hyp zF16; ((k_here; (with_reducible show wpAny _ _ (call (Value.ref 83) [Value.bytes _ _]) _ _ _); k_dflt (first | ((first | with_reducible refine' c_valid_ok ?_ ?_ ?_ ?_ ?_ ?_ ?_ ?_ ?_ ?_ ?_ ?_ ?_ ?_ | refine' c_valid_ok ?_ ?_ ?_ ?_ ?_ ?_ ?_ ?_ ?_ ?_ ?_ ?_ ?_ ?_); (rotate_right 2; assumption; rotate_left 1); (rotate_right 4; assumption; assumption; assumption; rotate_left 1); (rotate_right 10; k_asm; k_asm; k_asm; k_asm; k_asm; exact rfl; exact rfl; k_room; k_units; rotate_left 1); k_whole) | ((first | with_reducible refine' c_valid_len ?_ ?_ ?_ ?_ ?_ ?_ ?_ ?_ ?_ ?_ ?_ ?_ ?_ | refine' c_valid_len ?_ ?_ ?_ ?_ ?_ ?_ ?_ ?_ ?_ ?_ ?_ ?_ ?_); (rotate_right 3; assumption; assumption; rotate_left 1); (rotate_right 2; assumption; rotate_left 1); (rotate_right 10; k_asm; k_asm; k_asm; k_asm; k_asm; exact rfl; exact rfl; k_room; k_units; rotate_left 1); k_whole)); intro h'w tk'w F'w N'w; (try k_sweep))))
  k_with "compareOp In bytes bytes" => (guard_hyp zF19; ((k_here; k_dflt ((first | with_reducible refine' in_bytes ?_ ?_ ?_ ?_ ?_ | refine' in_bytes ?_ ?_ ?_ ?_ ?_); (rotate_right 2; assumption; rotate_left 1); (rotate_right 4; k_asm; k_asm; exact rfl; rotate_left 1)); intro h'w tk'w F'w N'w; (try k_sweep))))
  k_with "compareOp NotIn bytes bytes" => (guard_hyp zF19; ((k_here; k_dflt ((first | with_reducible refine' notin_bytes ?_ ?_ ?_ ?_ ?_ | refine' notin_bytes ?_ ?_ ?_ ?_ ?_); (rotate_right 2; assumption; rotate_left 1); (rotate_right 4; k_asm; k_asm; exact rfl; rotate_left 1)); intro h'w tk'w F'w N'w; (try k_sweep))))
  k_with "exec For Tuple Call" => (guard_hyp zF20; ((k_here; (try k_fold); (with_reducible show wpAny _ _ (exec (Stmt.For (Expr.Tuple _ _ _) (Expr.Call (Expr.Name (PySem.Str.ofString "enumerate") _) _ _ _) _ _ _) _) _ _ _); (rename Fr _ _ _ _ => F'w); (with_reducible apply For_pair3F); (case _F => with_unfolding_all exact F'w); (case hh => with_unfolding_all rfl); (case hxi => with_unfolding_all rfl); (case hxc => with_unfolding_all rfl); (case hp => with_unfolding_all rfl); (case hs => (intro _; with_unfolding_all rfl)))))
  k_with "call type:enumerate" => (guard_hyp zF20; ((k_here; (with_reducible show wpAny _ _ (call (Value.type _) [Value.bytes _ _]) _ _ _); k_dflt ((first | with_reducible refine' enum_bytes ?_ ?_ ?_ ?_ | refine' enum_bytes ?_ ?_ ?_ ?_); (rotate_right 4; exact rfl; k_asm; k_asm; rotate_left 1)); intro h'w e'w F'w N'w S'w; (try k_sweep))))
  k_with "pyIter ref" => (guard_hyp zF20; ((k_here; (with_reducible show wpAny _ _ _ (fun it s₂ => PairAt3 _ _ _ _ _ _ _ _ _ _ it s₂) _ _); refine stopM ?_)))
  k_with "subscriptTail" => (guard_hyp zF20; ((k_here; (with_reducible show wpAny _ _ (subscriptTail _ _ (Value.bytes _ _) (Value.ref _)) _ _ _); k_dflt ((first | with_reducible refine' cut1 ?_ ?_ ?_ ?_ ?_ ?_ ?_ | refine' cut1 ?_ ?_ ?_ ?_ ?_ ?_ ?_); (rotate_right 5; assumption; assumption; rotate_left 3); (rotate_right 5; k_asm; k_asm; rotate_left 3); (rotate_right 2; with_unfolding_all rfl; (focus (intro _; with_unfolding_all rfl; done)))); intro h'w t'w k'w F'w N'w kp'w; (try k_sweep))))
  k_with "subscriptTail" => (guard_hyp zF20; ((k_here; (with_reducible show wpAny _ _ (subscriptTail _ _ (Value.bytes _ _) (Value.int _ _)) _ _ _); k_dflt ((first | with_reducible refine' last_item ?_ ?_ ?_ ?_ ?_ | refine' last_item ?_ ?_ ?_ ?_ ?_); (rotate_right 5; decide; assumption; rotate_left 3); (rotate_right 2; with_unfolding_all rfl; (focus (intro _; with_unfolding_all rfl; done)))))))
  k_with "call builtin:ord" => (guard_hyp zF20; ((k_here; with_reducible refine ord_byte ?_)))
  k_with "compareOp In int bytes" => (guard_hyp zF20; ((k_here; k_dflt ((first | with_reducible refine' in_octet ?_ ?_ ?_ | refine' in_octet ?_ ?_ ?_); (rotate_right 3; (first | assumption | decide); assumption; rotate_left 1)))))
  k_with "getMethod bytes" => (guard_hyp zF20; ((k_here; (with_reducible show wpAny _ _ (getMethod (Value.bytes _ _) (PySem.Str.ofString "split") _) _ _ _); with_reducible refine bytes_meth slot_bytes_split type_bytes_split ?_)))
  k_with "call builtin:bytes.split" => (guard_hyp zF20; ((k_here; k_dflt ((first | with_reducible refine' split_two ?_ ?_ ?_ ?_ ?_ ?_ | refine' split_two ?_ ?_ ?_ ?_ ?_ ?_); (rotate_right 6; assumption; assumption; assumption; k_asm; k_asm; rotate_left 1)); intro l'w h'w t1'w t2'w k'w F'w N'w; (try k_sweep))))
  k_with "truthy bool" => (guard_hyp zF20; ((k_here; refine' truthy_is ?_ ?_; (rotate_right 2; assumption; rotate_left 1))))
  k_with "truthy bytes" => (guard_hyp zF20; ((k_here; (refine' truthy_pos ?_ ?_ ?_; (rotate_right 3; assumption; assumption; rotate_left 1)); intro tkw)))
  k_with "call builtin:bytes.endswith" => (guard_hyp zF20; ((k_here; with_reducible refine' ends_b ?_ ?_; (rotate_right 2; (first | assumption | decide); rotate_left 1))))
  k_with "pyIter ref" => (guard_hyp zF20; ((k_here; (with_reducible show wpAny _ _ (pyIter _) (fun it s₂ => LoopAtV _ _ _ _ _ _ _ _ _ it s₂) _ _); refine stopM ?_)))
  k_with "call ref" => (guard_hyp zF23; ((k_here; (with_reducible show wpAny _ _ (call (Value.ref 175) [_, Value.bytes (List.toArray (oct _)) _]) _ _ _); k_dflt ((first | with_reducible refine' c_check_cell ?_ ?_ ?_ ?_ ?_ ?_ ?_ ?_ ?_ ?_ ?_ | refine' c_check_cell ?_ ?_ ?_ ?_ ?_ ?_ ?_ ?_ ?_ ?_ ?_); (rotate_right 2; assumption; rotate_left 1); (rotate_right 10; k_asm; k_asm; k_asm; k_asm; k_asm; exact rfl; exact rfl; k_room; k_units; rotate_left 1); k_whole); intro h'w tk'w F'w N'w; (try k_sweep))))
  k_with "call ref" => (guard_hyp zF23; ((k_here; (with_reducible show wpAny _ _ (call (Value.ref 168) [_, Value.bytes (List.toArray (nm _)) _]) _ _ _); k_dflt ((first | with_reducible refine' c_name_ok ?_ ?_ ?_ ?_ ?_ ?_ ?_ ?_ ?_ ?_ ?_ | refine' c_name_ok ?_ ?_ ?_ ?_ ?_ ?_ ?_ ?_ ?_ ?_ ?_); (rotate_right 2; assumption; rotate_left 1); (rotate_right 10; k_asm; k_asm; k_asm; k_asm; k_asm; exact rfl; exact rfl; k_room; k_units; rotate_left 1); k_whole); intro h'w tk'w F'w N'w; (try k_sweep))))
  k_with "M:isdict" => (guard_hyp zF23; (assumption))
  k_with "M:val" => (guard_hyp zF23; (first | assumption | exact rfl))
  k_with "getMethod ref" => (guard_hyp zF23; ((k_here; (with_reducible show wpAny _ _ (getMethod (Value.ref _) (PySem.Str.ofString "get") _) _ _ _); k_dflt ((first | with_reducible refine' dict_meth (knd := bytesKind _ _) PySem.F.slot_dict_get PySem.F.type_dict_get ?_ ?_ ?_ ?_ | refine' dict_meth (knd := bytesKind _ _) PySem.F.slot_dict_get PySem.F.type_dict_get ?_ ?_ ?_ ?_); (rotate_right 4; k_asm; (focus (first | exact .head _ | k_mem; done)); (focus (k_extra "M:isdict"; done)); rotate_left 1); k_whole))))
  k_with "call builtin:dict.get" => (guard_hyp zF23; ((k_here; (with_reducible show wpAny _ _ (call (Value.builtin "dict.get") [Value.ref _, Value.bytes _ _, _]) _ _ _); k_dflt ((first | with_reducible refine' dict_get2 ?_ ?_ ?_ ?_ ?_ ?_ | refine' dict_get2 ?_ ?_ ?_ ?_ ?_ ?_); (rotate_right 6; k_asm; (focus (first | exact .head _ | k_mem; done)); (focus (k_extra "M:isdict"; done)); assumption; (focus (k_extra "M:val"; done)); rotate_left 1); k_whole); (try dsimp only [Option.getD]))))
  k_with "call builtin:dict.get" => (guard_hyp zF23; ((k_here; (with_reducible show wpAny _ _ (call (Value.builtin "dict.get") [Value.ref _, Value.bytes _ _]) _ _ _); k_dflt ((first | with_reducible refine' dict_get1 ?_ ?_ ?_ ?_ ?_ ?_ | refine' dict_get1 ?_ ?_ ?_ ?_ ?_ ?_); (rotate_right 6; k_asm; (focus (first | exact .head _ | k_mem; done)); (focus (k_extra "M:isdict"; done)); assumption; (focus (k_extra "M:val"; done)); rotate_left 1); k_whole))))
  k_with "setItem ref" => (guard_hyp zF23; ((k_here; (with_reducible show wpAny _ _ (setItem (Value.ref _) (Value.bytes (List.toArray (nm _)) _) (Value.bytes (List.toArray (oct _)) _)) _ _ _); k_dflt ((first | with_reducible refine' set_refs ?_ ?_ ?_ ?_ ?_ ?_ ?_ ?_ | refine' set_refs ?_ ?_ ?_ ?_ ?_ ?_ ?_ ?_); (rotate_right 5; assumption; assumption; assumption; assumption; rotate_left 1); (rotate_right 2; assumption; rotate_left 1); (rotate_right 3; k_asm; k_asm; rotate_left 1); k_whole); intro o'w kvs'w h'w tk'w hO'w RK'w F'w N'w; (try k_sweep))))
  k_with "call ref" => (guard_hyp zF25; ((k_here; (with_reducible show wpAny _ _ (call (Value.ref 175) [_, Value.bytes _ _]) _ _ _); k_dflt ((first | with_reducible refine' c_check_no ?_ ?_ ?_ ?_ ?_ ?_ ?_ ?_ ?_ ?_ ?_ ?_ ?_ ?_ ?_ | refine' c_check_no ?_ ?_ ?_ ?_ ?_ ?_ ?_ ?_ ?_ ?_ ?_ ?_ ?_ ?_ ?_); (rotate_right 2; assumption; rotate_left 1); (rotate_right 14; k_asm; k_asm; k_asm; k_asm; k_asm; exact rfl; exact rfl; assumption; assumption; assumption; exact KtsTurn.refl; k_room; k_units; rotate_left 1); k_whole); intro e'w g'w h'w tk'w G'w T'w FG'w K'w X'w P'w D'w RS'w UG'w)))
  k_with "call ref" => (guard_hyp zF25; ((k_here; (with_reducible show wpAny _ _ (call (Value.ref 168) [_, Value.bytes (List.toArray (wr _)) _]) _ _ _); k_dflt ((first | with_reducible refine' c_name_no ?_ ?_ ?_ ?_ ?_ ?_ ?_ ?_ ?_ ?_ ?_ ?_ ?_ ?_ ?_ | refine' c_name_no ?_ ?_ ?_ ?_ ?_ ?_ ?_ ?_ ?_ ?_ ?_ ?_ ?_ ?_ ?_); (rotate_right 2; assumption; rotate_left 1); (rotate_right 14; k_asm; k_asm; k_asm; k_asm; k_asm; exact rfl; exact rfl; assumption; assumption; assumption; exact KtsTurn.refl; k_room; k_units; rotate_left 1); k_whole); intro e'w h'w tk'w G'w FG'w RS'w UG'w)))
  k_with "compareOp In bytes ref" => (guard_hyp zF26; ((k_here; (with_reducible show wpAny _ _ (compareOp CmpOp.In (Value.bytes _ _) (Value.ref _)) _ _ _); k_dflt ((first | with_reducible refine' in_refs ?_ ?_ ?_ ?_ ?_ ?_ | refine' in_refs ?_ ?_ ?_ ?_ ?_ ?_); (rotate_right 2; assumption; rotate_left 1); (rotate_right 5; k_asm; (focus (first | exact .head _ | k_mem; done)); assumption; assumption; rotate_left 1); k_whole))))
  k_with "M:look" => (guard_hyp zF8; (first | with_reducible assumption | (with_reducible refine (if_neg (by decide)).trans ?_; with_reducible assumption) | (with_reducible refine (if_neg (by decide)).trans ?_; with_reducible refine (if_neg (by decide)).trans ?_; with_reducible assumption) | (with_reducible refine (if_neg (by decide)).trans ?_; with_reducible refine (if_neg (by decide)).trans ?_; with_reducible refine (if_neg (by decide)).trans ?_; with_reducible assumption)))
  k_with "eval Name" => (guard_hyp zF8; ((k_here; k_dflt (((first | with_reducible refine' x_nam ?_ ?_ ?_ ?_ | refine' x_nam ?_ ?_ ?_ ?_); rotate_right 4; k_asm; (focus (k_extra "M:look"; done)); rotate_left 2; rotate_right 1; rfl); k_whole))))
  k_with "loadName" => (guard_hyp zF8; ((k_here; k_dflt (((first | with_reducible refine' ldn ?_ ?_ ?_ | refine' ldn ?_ ?_ ?_); rotate_right 3; k_asm; (focus (k_extra "M:look"; done)); rotate_left 1); k_whole))))
  k_with "getMethod ref" => (guard_hyp zF28; ((k_here; (with_reducible show wpAny _ _ (getMethod (Value.ref _) (PySem.Str.ofString "pop") _) _ _ _); k_dflt ((first | with_reducible refine' dict_meth (knd := bytesKind _ _) PySem.F.slot_dict_pop PySem.F.type_dict_pop ?_ ?_ ?_ ?_ | refine' dict_meth (knd := bytesKind _ _) PySem.F.slot_dict_pop PySem.F.type_dict_pop ?_ ?_ ?_ ?_); (rotate_right 2; assumption; rotate_left 1); (rotate_right 3; k_asm; (focus (first | exact .head _ | k_mem; done)); rotate_left 1); k_whole))))
  k_with "call builtin:dict.pop" => (guard_hyp zF28; ((k_here; (with_reducible show wpAny _ _ (call (Value.builtin "dict.pop") [Value.ref _, Value.bytes _ _]) _ _ _); k_dflt (first | ((first | with_reducible refine' pop_there ?_ ?_ ?_ ?_ ?_ ?_ ?_ ?_ | refine' pop_there ?_ ?_ ?_ ?_ ?_ ?_ ?_ ?_); (rotate_right 2; assumption; rotate_left 1); (rotate_right 4; assumption; assumption; assumption; rotate_left 1); (rotate_right 2; assumption; rotate_left 1); (rotate_right 3; k_asm; k_asm; rotate_left 1); k_whole)); intro o'w kvs'w h'w tk'w hO'w RK'w F'w N'w; (try k_sweep))))
  k_with "call builtin:dict.pop" => (guard_hyp zF28; ((k_here; (with_reducible show wpAny _ _ (call (Value.builtin "dict.pop") [Value.ref _, Value.bytes _ _]) _ _ _); k_dflt ( ((first | with_reducible refine' pop_miss ?_ ?_ ?_ ?_ ?_ ?_ ?_ | refine' pop_miss ?_ ?_ ?_ ?_ ?_ ?_ ?_); (rotate_right 2; assumption; rotate_left 1); (rotate_right 4; assumption; assumption; exact rfl; rotate_left 1); (rotate_right 3; k_asm; (focus (first | exact .head _ | k_mem; done)); rotate_left 1); k_whole)); intro h'w e'w hx'w)))
  k_with "noteFrame ref" => (guard_hyp zF29; ((k_here; (rename Heap.NewExc _ _ _ _ => tiXw); k_dflt ((first | with_reducible refine' noted_own tiXw ?_ ?_ ?_ ?_ | refine' noted_own tiXw ?_ ?_ ?_ ?_); (rotate_right 4; assumption; assumption; assumption; rotate_left 1); k_whole); intro G'w h'w FG'w RS'w UG'w; clear tiXw)))
  k_with "binaryOp Add bytes bytes" => (guard_hyp zF31; ((k_here; (refine' sym_add ?_ ?_; (rotate_right 2; assumption; rotate_left 1)); intro t'w k'w)))
  k_with "setItem ref" => (guard_hyp zF31; ((k_here; (with_reducible show wpAny _ _ (setItem (Value.ref _) (Value.bytes (List.toArray (nm _)) _) (Value.bytes (List.toArray (oct _)) _)) _ _ _); k_dflt ((first | with_reducible refine' set_refs ?_ ?_ ?_ ?_ ?_ ?_ ?_ ?_ | refine' set_refs ?_ ?_ ?_ ?_ ?_ ?_ ?_ ?_); (rotate_right 6; assumption; assumption; assumption; assumption; assumption; rotate_left 1); (rotate_right 3; k_asm; (focus (k_extra "M:news"; done)); rotate_left 1); k_whole); intro o'w kvs'w h'w tk'w hO'w RK'w F'w N'w; (try k_sweep))))
  k_with "call ref" => (guard_hyp zF33; ((k_here; (with_reducible show wpAny _ _ (call (Value.ref 280) [_, Value.bytes (List.toArray (nm _)) _, Value.none, Value.bytes (List.toArray (oct _)) _]) _ _ _); k_dflt ((first | with_reducible refine' c_set_true (ov := Value.none) ?_ ?_ ?_ ?_ ?_ ?_ ?_ ?_ ?_ ?_ ?_ ?_ ?_ ?_ ?_ ?_ ?_ ?_ | refine' c_set_true (ov := Value.none) ?_ ?_ ?_ ?_ ?_ ?_ ?_ ?_ ?_ ?_ ?_ ?_ ?_ ?_ ?_ ?_ ?_ ?_); (rotate_right 4; assumption; rotate_left 3); (rotate_right 6; assumption; rotate_left 5); (rotate_right 4; assumption; rotate_left 3); (rotate_right 6; assumption; assumption; assumption; assumption; assumption; rotate_left 1); (rotate_right 10; k_asm; k_asm; k_asm; (focus (k_extra "M:news"; done)); k_asm; exact rfl; exact rfl; k_room; k_units; rotate_left 1); k_whole); intro o'w kvs'w h'w tk'w hO'w RK'w F'w N'w; (try k_sweep))))
  k_with "call ref" => (guard_hyp zF33; ((k_here; (with_reducible show wpAny _ _ (call (Value.ref 280) [_, Value.bytes (List.toArray (wr _)) _, Value.none, Value.bytes (List.toArray (oct _)) _]) _ _ _); k_dflt ((first | with_reducible refine' c_set_name ?_ ?_ ?_ ?_ ?_ ?_ ?_ ?_ ?_ ?_ ?_ ?_ ?_ ?_ ?_ ?_ ?_ ?_ ?_ ?_ ?_ ?_ | refine' c_set_name ?_ ?_ ?_ ?_ ?_ ?_ ?_ ?_ ?_ ?_ ?_ ?_ ?_ ?_ ?_ ?_ ?_ ?_ ?_ ?_ ?_ ?_); (rotate_right 2; assumption; rotate_left 1); (rotate_right 2; assumption; rotate_left 1); (rotate_right 2; assumption; rotate_left 1); (rotate_right 3; assumption; assumption; rotate_left 1); (rotate_right 2; (first | exact .head _ | assumption); rotate_left 1); (rotate_right 3; assumption; assumption; rotate_left 1); (rotate_right 14; k_asm; k_asm; k_asm; k_asm; k_asm; exact rfl; exact rfl; assumption; assumption; assumption; exact KtsTurn.refl; k_room; k_units; rotate_left 1); k_whole); intro e'w h'w tk'w G'w FG'w RS'w UG'w)))
  k_with "call ref" => (guard_hyp zF34; ((k_here; (with_reducible show wpAny _ _ (call (Value.ref 280) [_, Value.bytes (List.toArray (nm _)) _, Value.bytes (List.toArray _) _, Value.bytes (List.toArray (oct _)) _]) _ _ _); k_dflt ((first | with_reducible refine' c_swap ?_ ?_ ?_ ?_ ?_ ?_ ?_ ?_ ?_ ?_ ?_ ?_ ?_ ?_ ?_ ?_ ?_ ?_ ?_ | refine' c_swap ?_ ?_ ?_ ?_ ?_ ?_ ?_ ?_ ?_ ?_ ?_ ?_ ?_ ?_ ?_ ?_ ?_ ?_ ?_); (rotate_right 5; assumption; rotate_left 4); (rotate_right 7; assumption; rotate_left 6); (rotate_right 5; assumption; rotate_left 4); (rotate_right 7; assumption; assumption; assumption; assumption; assumption; rotate_left 2); (rotate_right 8; (focus (k_extra "M:news"; done)); rotate_left 7); (rotate_right 10; k_asm; k_asm; k_asm; k_asm; exact rfl; exact rfl; k_room; k_units; rotate_left 2)); (all_goals (first | (intro hcdw o'w kvs'w h'w tk'w hO'w RK'w F'w N'w) | (intro hcdw h'w tk'w F'w N'w))); (all_goals (try k_sweep)))))
  k_with "call ref" => (guard_hyp zF34; ((k_here; (with_reducible show wpAny _ _ (call (Value.ref 280) [_, Value.bytes (List.toArray (nm _)) _, Value.none, Value.bytes (List.toArray (oct _)) _]) _ _ _); k_dflt ((first | with_reducible refine' c_set_true (ov := Value.none) ?_ ?_ ?_ ?_ ?_ ?_ ?_ ?_ ?_ ?_ ?_ ?_ ?_ ?_ ?_ ?_ ?_ ?_ | refine' c_set_true (ov := Value.none) ?_ ?_ ?_ ?_ ?_ ?_ ?_ ?_ ?_ ?_ ?_ ?_ ?_ ?_ ?_ ?_ ?_ ?_); (rotate_right 4; assumption; rotate_left 3); (rotate_right 6; assumption; rotate_left 5); (rotate_right 4; assumption; rotate_left 3); (rotate_right 6; assumption; assumption; assumption; assumption; assumption; rotate_left 1); (rotate_right 7; (focus (k_extra "M:news"; done)); rotate_left 6); (rotate_right 9; k_asm; k_asm; k_asm; k_asm; exact rfl; exact rfl; k_room; k_units; rotate_left 1)); intro o'w kvs'w h'w tk'w hO'w RK'w F'w N'w; (try k_sweep))))
  k_with "call ref" => (guard_hyp zF34; ((k_here; (with_reducible show wpAny _ _ (call (Value.ref 287) [_, Value.bytes (List.toArray (nm _)) _, Value.bytes (List.toArray (oct _)) _]) _ _ _); k_dflt ((first | with_reducible refine' c_add ?_ ?_ ?_ ?_ ?_ ?_ ?_ ?_ ?_ ?_ ?_ ?_ ?_ ?_ ?_ ?_ ?_ ?_ ?_ | refine' c_add ?_ ?_ ?_ ?_ ?_ ?_ ?_ ?_ ?_ ?_ ?_ ?_ ?_ ?_ ?_ ?_ ?_ ?_ ?_); (rotate_right 5; assumption; rotate_left 4); (rotate_right 7; assumption; rotate_left 6); (rotate_right 5; assumption; rotate_left 4); (rotate_right 7; assumption; assumption; assumption; assumption; assumption; rotate_left 2); (rotate_right 8; (focus (k_extra "M:news"; done)); rotate_left 7); (rotate_right 10; k_asm; k_asm; k_asm; k_asm; exact rfl; exact rfl; k_room; k_units; rotate_left 2)); (all_goals (first | (intro hcdw o'w kvs'w h'w tk'w hO'w RK'w F'w N'w) | (intro hcdw h'w tk'w F'w N'w))); (all_goals (try k_sweep)))))
  k_with "call ref" => (guard_hyp zF34; ((k_here; (with_reducible show wpAny _ _ (call (Value.ref 210) [_, Value.bytes (List.toArray (nm _)) _, Value.bytes (List.toArray (oct _)) _]) _ _ _); k_dflt ((first | with_reducible refine' c_put ?_ ?_ ?_ ?_ ?_ ?_ ?_ ?_ ?_ ?_ ?_ ?_ ?_ ?_ ?_ ?_ ?_ ?_ | refine' c_put ?_ ?_ ?_ ?_ ?_ ?_ ?_ ?_ ?_ ?_ ?_ ?_ ?_ ?_ ?_ ?_ ?_ ?_); (rotate_right 4; assumption; rotate_left 3); (rotate_right 6; assumption; rotate_left 5); (rotate_right 4; assumption; rotate_left 3); (rotate_right 6; assumption; assumption; assumption; assumption; assumption; rotate_left 1); (rotate_right 7; (focus (k_extra "M:news"; done)); rotate_left 6); (rotate_right 9; k_asm; k_asm; k_asm; k_asm; exact rfl; exact rfl; k_room; k_units; rotate_left 1)); intro o'w kvs'w h'w tk'w hO'w RK'w F'w N'w; (try k_sweep))))
  k_with "call ref" => (guard_hyp zF34; ((k_here; (with_reducible show wpAny _ _ (call (Value.ref 294) [_, Value.bytes (List.toArray (nm _)) _, Value.none]) _ _ _); k_dflt ((first | with_reducible refine' c_rem_there (tb := 0) (ov := Value.none) (ob := []) ?_ ?_ ?_ ?_ ?_ ?_ ?_ ?_ ?_ ?_ ?_ ?_ ?_ ?_ ?_ ?_ ?_ ?_ | refine' c_rem_there (tb := 0) (ov := Value.none) (ob := []) ?_ ?_ ?_ ?_ ?_ ?_ ?_ ?_ ?_ ?_ ?_ ?_ ?_ ?_ ?_ ?_ ?_ ?_); (rotate_right 4; assumption; rotate_left 3); (rotate_right 6; assumption; rotate_left 5); (rotate_right 4; assumption; rotate_left 3); (rotate_right 6; assumption; assumption; assumption; assumption; assumption; rotate_left 1); (rotate_right 7; (focus (k_extra "M:news"; done)); rotate_left 6); (rotate_right 9; k_asm; k_asm; k_asm; k_asm; exact rfl; exact rfl; k_room; k_units; rotate_left 1)); intro o'w kvs'w h'w tk'w hO'w RK'w F'w N'w; (try k_sweep))))
  k_with "call ref" => (guard_hyp zF34; ((k_here; (with_reducible show wpAny _ _ (call (Value.ref 294) [_, Value.bytes (List.toArray (nm _)) _, Value.none]) _ _ _); k_dflt ((first | with_reducible refine' c_rem_miss (tb := 0) (ov := Value.none) (ob := []) ?_ ?_ ?_ ?_ ?_ ?_ ?_ ?_ ?_ ?_ ?_ ?_ ?_ ?_ ?_ ?_ ?_ ?_ ?_ ?_ ?_ ?_ | refine' c_rem_miss (tb := 0) (ov := Value.none) (ob := []) ?_ ?_ ?_ ?_ ?_ ?_ ?_ ?_ ?_ ?_ ?_ ?_ ?_ ?_ ?_ ?_ ?_ ?_ ?_ ?_ ?_ ?_); (rotate_right 4; assumption; rotate_left 3); (rotate_right 6; assumption; rotate_left 5); (rotate_right 4; assumption; rotate_left 3); (rotate_right 6; assumption; assumption; assumption; assumption; assumption; rotate_left 1); (rotate_right 11; (focus (k_extra "M:news"; done)); rotate_left 10); (rotate_right 13; k_asm; k_asm; k_asm; k_asm; exact rfl; exact rfl; rotate_left 7); (rotate_right 3; k_room; k_units; rotate_left 1); (rotate_right 5; assumption; assumption; assumption; exact KtsTurn.refl; rotate_left 1)); intro g'w h'w tk'w T'w F'w N'w K'w X'w P'w D'w; (try k_lift K'w); (try k_sweep))))
  k_with "call ref" => (guard_hyp zF34; ((k_here; (with_reducible show wpAny _ _ (call (Value.ref 294) [_, Value.bytes (List.toArray (nm _)) _, Value.bytes (List.toArray _) _]) _ _ _); k_dflt ((first | with_reducible refine' c_rem_there_b (ov := Value.none) ?_ ?_ ?_ ?_ ?_ ?_ ?_ ?_ ?_ ?_ ?_ ?_ ?_ ?_ ?_ ?_ ?_ ?_ ?_ | refine' c_rem_there_b (ov := Value.none) ?_ ?_ ?_ ?_ ?_ ?_ ?_ ?_ ?_ ?_ ?_ ?_ ?_ ?_ ?_ ?_ ?_ ?_ ?_); (rotate_right 5; assumption; rotate_left 4); (rotate_right 7; assumption; rotate_left 6); (rotate_right 5; assumption; rotate_left 4); (rotate_right 7; assumption; assumption; assumption; assumption; assumption; rotate_left 2); (rotate_right 8; (focus (k_extra "M:news"; done)); rotate_left 7); (rotate_right 10; k_asm; k_asm; k_asm; k_asm; exact rfl; exact rfl; k_room; k_units; rotate_left 2)); (all_goals (first | (intro hcdw o'w kvs'w h'w tk'w hO'w RK'w F'w N'w) | (intro hcdw h'w tk'w F'w N'w))); (all_goals (try k_sweep)))))
  k_with "call ref" => (guard_hyp zF34; ((k_here; (with_reducible show wpAny _ _ (call (Value.ref 294) [_, Value.bytes (List.toArray (nm _)) _, Value.bytes (List.toArray _) _]) _ _ _); k_dflt ((first | with_reducible refine' c_rem_miss_b (ov := Value.none) ?_ ?_ ?_ ?_ ?_ ?_ ?_ ?_ ?_ ?_ ?_ ?_ ?_ ?_ ?_ ?_ ?_ ?_ ?_ ?_ ?_ ?_ ?_ | refine' c_rem_miss_b (ov := Value.none) ?_ ?_ ?_ ?_ ?_ ?_ ?_ ?_ ?_ ?_ ?_ ?_ ?_ ?_ ?_ ?_ ?_ ?_ ?_ ?_ ?_ ?_ ?_); (rotate_right 5; assumption; rotate_left 4); (rotate_right 7; assumption; rotate_left 6); (rotate_right 5; assumption; rotate_left 4); (rotate_right 7; assumption; assumption; assumption; assumption; assumption; rotate_left 2); (rotate_right 12; (focus (k_extra "M:news"; done)); rotate_left 11); (rotate_right 14; k_asm; k_asm; k_asm; k_asm; exact rfl; exact rfl; rotate_left 8); (rotate_right 4; k_room; k_units; rotate_left 2); (rotate_right 6; assumption; assumption; assumption; exact KtsTurn.refl; rotate_left 2)); (all_goals (first | (intro hcdw g'w h'w tk'w T'w F'w N'w K'w X'w P'w D'w; (try k_lift K'w)) | (intro hcdw h'w tk'w F'w N'w))); (all_goals (try k_sweep)))))
  k_with "call ref" => (guard_hyp zF34; ((k_here; (with_reducible show wpAny _ _ (call (Value.ref 273) [_, Value.bytes (List.toArray (nm _)) _, Value.bytes (List.toArray (nm _)) _]) _ _ _); k_dflt ((first | with_reducible refine' c_point ?_ ?_ ?_ ?_ ?_ ?_ ?_ ?_ ?_ ?_ ?_ ?_ ?_ ?_ ?_ ?_ ?_ ?_ ?_ ?_ ?_ ?_ ?_ | refine' c_point ?_ ?_ ?_ ?_ ?_ ?_ ?_ ?_ ?_ ?_ ?_ ?_ ?_ ?_ ?_ ?_ ?_ ?_ ?_ ?_ ?_ ?_ ?_); (rotate_right 5; assumption; rotate_left 4); (rotate_right 7; assumption; rotate_left 6); (rotate_right 5; assumption; rotate_left 4); (rotate_right 7; assumption; assumption; assumption; assumption; assumption; rotate_left 2); (rotate_right 12; (focus (k_extra "M:news"; done)); rotate_left 11); (rotate_right 14; k_asm; k_asm; k_asm; k_asm; exact rfl; exact rfl; rotate_left 8); (rotate_right 4; k_room; k_units; rotate_left 2); (rotate_right 6; assumption; assumption; assumption; exact KtsTurn.refl; rotate_left 2)); (all_goals (first | (intro hcdw o'w kvs'w h'w tk'w hO'w RK'w F'w N'w; (try k_sweep)) | (intro hcdw e'w h'w tk'w G'w FG'w RS'w UG'w))))))
  k_with "subscriptTail" => (guard_hyp zF35; ((k_here; (with_reducible show wpAny _ _ (subscriptTail _ _ (Value.bytes (List.toArray (oct (Sum.inl _))) _) (Value.ref _)) _ _ _); k_dflt ((first | with_reducible refine' sym_cut ?_ ?_ ?_ ?_ | refine' sym_cut ?_ ?_ ?_ ?_); (rotate_right 4; assumption; k_asm; k_asm; rotate_left 1)); intro h'w t'w k'w F'w N'w; (try k_sweep))))
  k_with "call ref" => (guard_hyp zF36; ((k_here; (with_reducible show wpAny _ _ (call (Value.ref 189) [Value.ref _, Value.bytes (List.toArray (nm _)) _]) _ _ _); k_dflt ((first | with_reducible refine' c_follow ?_ ?_ ?_ ?_ ?_ ?_ ?_ ?_ ?_ ?_ ?_ ?_ ?_ ?_ ?_ ?_ ?_ | refine' c_follow ?_ ?_ ?_ ?_ ?_ ?_ ?_ ?_ ?_ ?_ ?_ ?_ ?_ ?_ ?_ ?_ ?_); (rotate_right 9; assumption; assumption; assumption; assumption; assumption; assumption; assumption; rotate_left 2); (rotate_right 10; k_asm; k_asm; k_asm; k_asm; k_asm; exact rfl; k_room; k_units; rotate_left 2)); (all_goals (first | (intro ksw cw xw lw evw vsw nw h'w tk'w hfow hevw hnvw F'w N'w; (try k_sweep)) | (intro hfow e'w h'w tk'w G'w FG'w RS'w RN'w UG'w; clear RN'w))))))
  k_with "subscriptTail" => (guard_hyp zF37; ((k_here; (with_reducible show wpAny _ _ (subscriptTail _ _ (Value.ref 307) (Value.int _ _)) _ _ _); k_dflt ((first | with_reducible refine' names_item ?_ ?_ ?_ ?_ ?_ ?_ | refine' names_item ?_ ?_ ?_ ?_ ?_ ?_); (rotate_right 4; assumption; rotate_left 3); (rotate_right 5; k_asm; k_asm; rotate_left 3); (rotate_right 2; with_unfolding_all rfl; (focus (intro _; with_unfolding_all rfl; done))); k_whole); intro tnw)))
  k_with "binaryOp Add bytes bytes" => (guard_hyp zF37; ((k_here; (refine' sym_add ?_ ?_; (rotate_right 2; assumption; rotate_left 1)); intro t'w k'w)))
  k_with "call ref" => (guard_hyp zF42; ((k_here; (with_reducible show wpAny _ _ (call (Value.ref 368) [_, Value.str _ _, Value.bytes (List.toArray (nm _)) _, Value.bytes (List.toArray _) _, _]) _ _ _); k_dflt ((first | with_reducible refine' u_refuse ?_ ?_ ?_ ?_ ?_ ?_ ?_ ?_ ?_ ?_ ?_ ?_ ?_ ?_ ?_ ?_ ?_ ?_ ?_ ?_ ?_ ?_ | refine' u_refuse ?_ ?_ ?_ ?_ ?_ ?_ ?_ ?_ ?_ ?_ ?_ ?_ ?_ ?_ ?_ ?_ ?_ ?_ ?_ ?_ ?_ ?_); (rotate_right 4; assumption; rotate_left 3); (rotate_right 6; assumption; rotate_left 5); (rotate_right 4; assumption; rotate_left 3); (rotate_right 6; assumption; assumption; assumption; assumption; assumption; rotate_left 1); (rotate_right 11; (focus (k_extra "M:news"; done)); rotate_left 10); (rotate_right 13; k_asm; k_asm; k_asm; k_asm; exact rfl; exact rfl; rotate_left 7); (rotate_right 3; k_room; k_units; rotate_left 1); (rotate_right 5; assumption; assumption; assumption; (first | assumption | exact KtsTurn.refl); rotate_left 1)); intro h'w tk'w F'w N'w; (try k_sweep))))
  k_with "call ref" => (guard_hyp zF42; ((k_here; (with_reducible show wpAny _ _ (call (Value.ref 368) [_, Value.str _ _, Value.bytes (List.toArray (nm _)) _, Value.bytes (List.toArray _) _, _]) _ _ _); k_dflt ((first | with_reducible refine' u_drop ?_ ?_ ?_ ?_ ?_ ?_ ?_ ?_ ?_ ?_ ?_ ?_ ?_ ?_ ?_ ?_ ?_ ?_ ?_ ?_ ?_ ?_ ?_ | refine' u_drop ?_ ?_ ?_ ?_ ?_ ?_ ?_ ?_ ?_ ?_ ?_ ?_ ?_ ?_ ?_ ?_ ?_ ?_ ?_ ?_ ?_ ?_ ?_); (rotate_right 5; assumption; rotate_left 4); (rotate_right 7; assumption; rotate_left 6); (rotate_right 5; assumption; rotate_left 4); (rotate_right 7; assumption; assumption; assumption; assumption; assumption; assumption; rotate_left 1); (rotate_right 11; (focus (k_extra "M:news"; done)); rotate_left 10); (rotate_right 13; k_asm; k_asm; k_asm; k_asm; exact rfl; exact rfl; rotate_left 7); (rotate_right 3; k_room; k_units; rotate_left 1); (rotate_right 5; assumption; assumption; assumption; (first | assumption | exact KtsTurn.refl); rotate_left 1)); intro o'w kvs'w h'w tk'w hO'w RK'w F'w N'w; (try k_sweep))))
  k_with "call ref" => (guard_hyp zF42; ((k_here; (with_reducible show wpAny _ _ (call (Value.ref 368) [_, Value.str _ _, Value.bytes (List.toArray (nm _)) _, Value.bytes (List.toArray _) _, Value.bytes (List.toArray (oct _)) _]) _ _ _); k_dflt ((first | with_reducible refine' u_swap ?_ ?_ ?_ ?_ ?_ ?_ ?_ ?_ ?_ ?_ ?_ ?_ ?_ ?_ ?_ ?_ ?_ ?_ ?_ ?_ ?_ ?_ ?_ | refine' u_swap ?_ ?_ ?_ ?_ ?_ ?_ ?_ ?_ ?_ ?_ ?_ ?_ ?_ ?_ ?_ ?_ ?_ ?_ ?_ ?_ ?_ ?_ ?_); (rotate_right 5; assumption; rotate_left 4); (rotate_right 7; assumption; rotate_left 6); (rotate_right 5; assumption; rotate_left 4); (rotate_right 7; assumption; assumption; assumption; assumption; assumption; assumption; rotate_left 1); (rotate_right 11; (focus (k_extra "M:news"; done)); rotate_left 10); (rotate_right 13; k_asm; k_asm; k_asm; k_asm; exact rfl; exact rfl; rotate_left 7); (rotate_right 3; k_room; k_units; rotate_left 1); (rotate_right 5; assumption; assumption; assumption; (first | assumption | exact KtsTurn.refl); rotate_left 1)); intro o'w kvs'w h'w tk'w hO'w RK'w F'w N'w; (try k_sweep))))
  k_with "call ref" => (guard_hyp zF42; ((k_here; (with_reducible show wpAny _ _ (call (Value.ref 368) [_, Value.str _ _, Value.bytes (List.toArray (nm _)) _, _, Value.bytes (List.toArray (oct _)) _]) _ _ _); k_dflt ((first | with_reducible refine' u_add ?_ ?_ ?_ ?_ ?_ ?_ ?_ ?_ ?_ ?_ ?_ ?_ ?_ ?_ ?_ ?_ ?_ ?_ ?_ ?_ ?_ ?_ ?_ | refine' u_add ?_ ?_ ?_ ?_ ?_ ?_ ?_ ?_ ?_ ?_ ?_ ?_ ?_ ?_ ?_ ?_ ?_ ?_ ?_ ?_ ?_ ?_ ?_); (rotate_right 5; assumption; rotate_left 4); (rotate_right 7; assumption; rotate_left 6); (rotate_right 5; assumption; rotate_left 4); (rotate_right 7; assumption; assumption; assumption; assumption; assumption; assumption; rotate_left 1); (rotate_right 11; (focus (k_extra "M:news"; done)); rotate_left 10); (rotate_right 13; k_asm; k_asm; k_asm; k_asm; exact rfl; exact rfl; rotate_left 7); (rotate_right 3; k_room; k_units; rotate_left 1); (rotate_right 5; assumption; assumption; assumption; (first | assumption | exact KtsTurn.refl); rotate_left 1)); intro o'w kvs'w h'w tk'w hO'w RK'w F'w N'w; (try k_sweep))))
  k_with "call ref" => (guard_hyp zF42; ((k_here; (with_reducible show wpAny _ _ (call (Value.ref 328) [_]) _ _ _); k_dflt ((first | with_reducible refine' c_oct_some ?_ ?_ ?_ ?_ ?_ ?_ ?_ ?_ ?_ ?_ ?_ ?_ | refine' c_oct_some ?_ ?_ ?_ ?_ ?_ ?_ ?_ ?_ ?_ ?_ ?_ ?_); (rotate_right 3; assumption; assumption; rotate_left 1); (rotate_right 7; k_asm; rotate_left 6); (rotate_right 9; k_asm; k_asm; k_asm; k_asm; exact rfl; exact rfl; k_room; k_units; rotate_left 1)); intro t'w h'w tk'w F'w N'w; (try k_sweep))))
  k_with "call ref" => (guard_hyp zF42; ((k_here; (with_reducible show wpAny _ _ (call (Value.ref 328) [Value.none]) _ _ _); k_dflt ((first | with_reducible refine' c_oct_none ?_ ?_ ?_ ?_ ?_ ?_ ?_ ?_ ?_ ?_ | refine' c_oct_none ?_ ?_ ?_ ?_ ?_ ?_ ?_ ?_ ?_ ?_); (rotate_right 7; k_asm; rotate_left 6); (rotate_right 9; k_asm; k_asm; k_asm; k_asm; exact rfl; exact rfl; k_room; k_units; rotate_left 1)); intro h'w tk'w F'w N'w; (try k_sweep))))
  k_with "call ref" => (guard_hyp zF42; ((k_here; (with_reducible show wpAny _ _ (call (Value.ref 335) [_]) _ _ _); k_dflt ((first | with_reducible refine' c_old ?_ ?_ ?_ ?_ ?_ ?_ ?_ ?_ ?_ ?_ ?_ ?_ | refine' c_old ?_ ?_ ?_ ?_ ?_ ?_ ?_ ?_ ?_ ?_ ?_ ?_); (rotate_right 3; assumption; assumption; rotate_left 1); (rotate_right 7; k_asm; rotate_left 6); (rotate_right 9; k_asm; k_asm; k_asm; k_asm; exact rfl; exact rfl; k_room; k_units; rotate_left 1)); intro t'w h'w tk'w F'w N'w; (try k_sweep))))
  k_with "call ref" => (guard_hyp zF42; ((k_here; (with_reducible show wpAny _ _ (call (Value.ref 375) [Value.bool _, Value.bool _]) _ _ _); k_dflt ((first | with_reducible refine' c_alike_bool ?_ ?_ ?_ ?_ ?_ ?_ ?_ ?_ ?_ ?_ | refine' c_alike_bool ?_ ?_ ?_ ?_ ?_ ?_ ?_ ?_ ?_ ?_); (rotate_right 7; k_asm; rotate_left 6); (rotate_right 9; k_asm; k_asm; k_asm; k_asm; exact rfl; exact rfl; k_room; k_units; rotate_left 1)); intro h'w tk'w F'w N'w; (try k_sweep))))
  k_with "call ref" => (guard_hyp zF43; ((k_here; (with_reducible show wpAny _ _ (call (Value.ref 182) [Value.ref _, Value.bytes _ _]) _ _ _); k_dflt (first | ((first | with_reducible refine' c_read_none ?_ ?_ ?_ ?_ ?_ ?_ ?_ ?_ ?_ ?_ ?_ ?_ ?_ ?_ ?_ ?_ ?_ | refine' c_read_none ?_ ?_ ?_ ?_ ?_ ?_ ?_ ?_ ?_ ?_ ?_ ?_ ?_ ?_ ?_ ?_ ?_); (rotate_right 4; assumption; rotate_left 3); (rotate_right 2; assumption; rotate_left 1); (rotate_right 2; assumption; rotate_left 1); (rotate_right 14; k_asm; k_asm; k_asm; k_asm; k_asm; exact rfl; k_room; k_units; (first | assumption | exact .tail _ (by assumption)); (first | assumption | exact .tail _ (by assumption)); exact .head _; assumption; assumption; rotate_left 1)) | ((first | with_reducible refine' c_read_some ?_ ?_ ?_ ?_ ?_ ?_ ?_ ?_ ?_ ?_ ?_ ?_ ?_ ?_ ?_ ?_ ?_ | refine' c_read_some ?_ ?_ ?_ ?_ ?_ ?_ ?_ ?_ ?_ ?_ ?_ ?_ ?_ ?_ ?_ ?_ ?_); (rotate_right 4; assumption; rotate_left 3); (rotate_right 2; assumption; rotate_left 1); (rotate_right 2; assumption; rotate_left 1); (rotate_right 14; k_asm; k_asm; k_asm; k_asm; k_asm; exact rfl; k_room; k_units; (first | assumption | exact .tail _ (by assumption)); (first | assumption | exact .tail _ (by assumption)); exact .head _; assumption; assumption; rotate_left 1))); intro tv'w h'w tk'w F'w N'w; (try k_sweep))))
  k_with "compareOp NotEq none bytes" => (guard_hyp zF44; ((k_here; with_reducible refine ne_none_bytes ?_)))
  k_with "compareOp NotEq bytes none" => (guard_hyp zF44; ((k_here; with_reducible refine ne_bytes_none ?_)))
  k_with "compareOp Eq none bytes" => (guard_hyp zF44; ((k_here; with_reducible refine eq_none_bytes ?_)))
  k_with "compareOp Eq bytes none" => (guard_hyp zF44; ((k_here; with_reducible refine eq_bytes_none ?_)))
  k_with "compareOp NotEq int bytes" => (guard_hyp zF44; ((k_here; with_reducible refine ne_int_bytes ?_)))
  k_with "compareOp NotEq bytes int" => (guard_hyp zF44; ((k_here; with_reducible refine ne_bytes_int ?_)))
  k_with "compareOp Is none" => (guard_hyp zF45; ((k_here; k_dflt ((first | with_reducible refine' is_some_cell ?_ ?_ | refine' is_some_cell ?_ ?_); (rotate_right 2; assumption; rotate_left 1); k_whole))))
  k_with "compareOp NotEq none" => (guard_hyp zF45; ((k_here; k_dflt (first | ((first | with_reducible refine' ne_none_cell ?_ ?_ | refine' ne_none_cell ?_ ?_); (rotate_right 2; assumption; rotate_left 1)) | ((first | with_reducible refine' ne_cell_none ?_ ?_ | refine' ne_cell_none ?_ ?_); (rotate_right 2; assumption; rotate_left 1))))))
  k_with "compareOp NotEq" => (guard_hyp zF45; ((k_here; k_dflt (first | ((first | with_reducible refine' ne_cells_same ?_ ?_ ?_ | refine' ne_cells_same ?_ ?_ ?_); (rotate_right 3; assumption; assumption; rotate_left 1)) | ((first | with_reducible refine' ne_cells ?_ ?_ ?_ ?_ ?_ ?_ | refine' ne_cells ?_ ?_ ?_ ?_ ?_ ?_); (rotate_right 6; assumption; assumption; assumption; assumption; assumption; rotate_left 1))))))
  k_with "subscriptTail" => (guard_hyp zF48; ((k_here; (with_reducible show wpAny _ _ (subscriptTail _ _ (Value.ref _) (Value.ref _)) _ _ _); k_dflt ((first | with_reducible refine' kms_slice_lit ?_ ?_ ?_ ?_ ?_ ?_ ?_ ?_ ?_ ?_ | refine' kms_slice_lit ?_ ?_ ?_ ?_ ?_ ?_ ?_ ?_ ?_ ?_); (rotate_right 10; k_asm; k_asm; exact News.isList (by k_asm) (by k_mem); (first | exact .none | exact .int _ _); (first | exact .none | exact .int _ _); assumption; rotate_left 4); (rotate_right 1; assumption); (rotate_right 2; with_unfolding_all rfl; (focus (intro _; with_unfolding_all rfl; done)))); intro D'w h'w F'w N'w l1'w; (try k_sweep))))
  k_with "subscriptTail" => (guard_hyp zF48; ((k_here; (with_reducible show wpAny _ _ (subscriptTail _ _ (Value.ref _) (Value.int _ _)) _ _ _); k_dflt ((first | with_reducible refine' item_L ?_ ?_ ?_ ?_ ?_ ?_ ?_ | refine' item_L ?_ ?_ ?_ ?_ ?_ ?_ ?_); (rotate_right 7; k_asm; (focus (k_mem; done)); omega; omega; assumption; rotate_left 2); (rotate_right 1; with_unfolding_all rfl); k_whole))))
  k_with "subscriptTail" => (guard_hyp zF48; ((k_here; (with_reducible show wpAny _ _ (subscriptTail _ _ (Value.ref _) (Value.int _ _)) _ _ _); k_dflt ((first | with_reducible refine' item_Ln ?_ ?_ ?_ ?_ ?_ ?_ ?_ ?_ | refine' item_Ln ?_ ?_ ?_ ?_ ?_ ?_ ?_ ?_); (rotate_right 8; k_asm; (focus (k_mem; done)); omega; rotate_left 5); (rotate_right 4; omega; assumption; rotate_left 2); (rotate_right 3; assumption; rotate_left 2); (rotate_right 1; with_unfolding_all rfl); k_whole))))
  k_with "K:k_mem" => (guard_hyp zF48; (((repeat (first | (with_reducible assumption) | (refine List.mem_cons_of_mem _ ?_))); done)))
  k_with "call builtin:len" => (guard_hyp zF48; ((k_here; (with_reducible show wpAny _ _ (call (Value.builtin "len") [Value.ref _]) _ _ _); k_dflt ((first | with_reducible refine' len_L ?_ ?_ ?_ ?_ ?_ | refine' len_L ?_ ?_ ?_ ?_ ?_); (rotate_right 5; k_asm; (focus (k_mem; done)); assumption; omega; rotate_left 1)); intro tnw knw)))
  k_with "compareOp Eq" => (guard_hyp zF48; ((k_here; k_dflt ((first | with_reducible refine' cell_eq ?_ ?_ ?_ ?_ ?_ | refine' cell_eq ?_ ?_ ?_ ?_ ?_); (rotate_right 5; assumption; assumption; assumption; assumption; rotate_left 1); k_whole))))
  k_with "call ref" => (guard_hyp zF53; ((k_here; (with_reducible show wpAny _ _ (call (Value.ref 182) [Value.ref _, Value.bytes _ _]) _ _ _); k_dflt ((first | with_reducible refine' r_ref ?_ ?_ ?_ ?_ ?_ ?_ ?_ ?_ ?_ ?_ ?_ ?_ ?_ ?_ ?_ ?_ ?_ | refine' r_ref ?_ ?_ ?_ ?_ ?_ ?_ ?_ ?_ ?_ ?_ ?_ ?_ ?_ ?_ ?_ ?_ ?_); (rotate_right 3; assumption; assumption; rotate_left 1); (rotate_right 15; k_asm; k_asm; k_asm; k_asm; k_asm; exact rfl; exact rfl; k_room; k_units; (focus ((repeat (first | (with_reducible assumption) | (first | with_reducible refine List.mem_cons_of_mem _ ?_ | refine List.mem_cons_of_mem _ ?_))); done)); (focus ((repeat (first | (with_reducible assumption) | (first | with_reducible refine List.mem_cons_of_mem _ ?_ | refine List.mem_cons_of_mem _ ?_))); done)); (focus ((repeat (first | (with_reducible assumption) | (first | with_reducible refine List.mem_cons_of_mem _ ?_ | refine List.mem_cons_of_mem _ ?_))); done)); assumption; assumption; rotate_left 1)); intro v'w h'w tk'w hov'w F'w N'w; (try k_sweep))))
  k_with "call ref" => (guard_hyp zF41; ((k_here; (with_reducible show wpAny _ _ (call (Value.ref 328) [_]) _ _ _); k_dflt ((first | with_reducible refine' c_octets ?_ ?_ ?_ ?_ ?_ ?_ ?_ ?_ ?_ ?_ ?_ ?_ | refine' c_octets ?_ ?_ ?_ ?_ ?_ ?_ ?_ ?_ ?_ ?_ ?_ ?_); (rotate_right 3; assumption; assumption; rotate_left 1); (rotate_right 10; k_asm; k_asm; k_asm; k_asm; k_asm; exact rfl; exact rfl; k_room; k_units; rotate_left 1)); intro v'w h'w tk'w hv'w F'w N'w; (try k_sweep))))
  k_with "newTuple" => (guard_hyp zF49; ((k_here; k_dflt ((first | with_reducible refine' newTuple_P ?_ ?_ ?_ ?_ | refine' newTuple_P ?_ ?_ ?_ ?_); (rotate_right 4; k_asm; k_asm; rotate_left 2); (rotate_right 1; (focus (kmk_size; done)))); intro D'w h'w nqw F'w N'w; (try k_sweep))))
  k_with "newList" => (guard_hyp zF49; ((k_here; k_dflt ((first | with_reducible refine' newList_P ?_ ?_ ?_ ?_ | refine' newList_P ?_ ?_ ?_ ?_); (rotate_right 4; k_asm; k_asm; rotate_left 2); (rotate_right 1; (focus (size_fits; done)))); intro D'w h'w nqw F'w N'w; (try k_sweep))))
  k_with "call ref" => (guard_hyp zF61; ((k_here; (with_reducible show wpAny _ _ (call (Value.ref 280) [_, Value.bytes (List.toArray _) _, _, Value.bytes (List.toArray _) _]) _ _ _); k_dflt ((first | with_reducible refine' c_set_bad ?_ ?_ ?_ ?_ ?_ ?_ ?_ ?_ ?_ ?_ ?_ ?_ ?_ ?_ ?_ ?_ ?_ | refine' c_set_bad ?_ ?_ ?_ ?_ ?_ ?_ ?_ ?_ ?_ ?_ ?_ ?_ ?_ ?_ ?_ ?_ ?_); (rotate_right 2; assumption; rotate_left 1); (rotate_right 3; assumption; assumption; rotate_left 1); (rotate_right 11; k_asm; rotate_left 10); (rotate_right 13; k_asm; k_asm; k_asm; k_asm; exact rfl; exact rfl; rotate_left 7); (rotate_right 3; k_room; k_units; rotate_left 1); (rotate_right 5; assumption; assumption; assumption; exact KtsTurn.refl; rotate_left 1)); intro e'w g'w h'w tk'w G'w T'w FG'w K'w X'w P'w D'w RS'w UG'w)))
  k_with "call ref" => (guard_hyp zF61; ((k_here; (with_reducible show wpAny _ _ (call (Value.ref 287) [_, Value.bytes (List.toArray _) _, Value.bytes (List.toArray _) _]) _ _ _); k_dflt ((first | with_reducible refine' c_add_bad ?_ ?_ ?_ ?_ ?_ ?_ ?_ ?_ ?_ ?_ ?_ ?_ ?_ ?_ ?_ ?_ ?_ | refine' c_add_bad ?_ ?_ ?_ ?_ ?_ ?_ ?_ ?_ ?_ ?_ ?_ ?_ ?_ ?_ ?_ ?_ ?_); (rotate_right 2; assumption; rotate_left 1); (rotate_right 3; assumption; assumption; rotate_left 1); (rotate_right 11; k_asm; rotate_left 10); (rotate_right 13; k_asm; k_asm; k_asm; k_asm; exact rfl; exact rfl; rotate_left 7); (rotate_right 3; k_room; k_units; rotate_left 1); (rotate_right 5; assumption; assumption; assumption; exact KtsTurn.refl; rotate_left 1)); intro e'w g'w h'w tk'w G'w T'w FG'w K'w X'w P'w D'w RS'w UG'w)))
  k_with "call ref" => (guard_hyp zF62; ((k_here; (with_reducible show wpAny _ _ (call (Value.ref 280) [_, Value.bytes (List.toArray (wr _)) _, Value.bytes (List.toArray _) _, Value.bytes (List.toArray (oct _)) _]) _ _ _); k_dflt ((first | with_reducible refine' c_swap_name ?_ ?_ ?_ ?_ ?_ ?_ ?_ ?_ ?_ ?_ ?_ ?_ ?_ ?_ ?_ ?_ ?_ ?_ ?_ ?_ ?_ ?_ | refine' c_swap_name ?_ ?_ ?_ ?_ ?_ ?_ ?_ ?_ ?_ ?_ ?_ ?_ ?_ ?_ ?_ ?_ ?_ ?_ ?_ ?_ ?_ ?_); (rotate_right 3; assumption; assumption; rotate_left 1); (rotate_right 7; assumption; assumption; (first | exact .head _ | assumption); assumption; assumption; assumption; rotate_left 1); (rotate_right 11; k_asm; rotate_left 10); (rotate_right 13; k_asm; k_asm; k_asm; k_asm; exact rfl; exact rfl; rotate_left 7); (rotate_right 3; k_room; k_units; rotate_left 1); (rotate_right 5; assumption; assumption; assumption; exact KtsTurn.refl; rotate_left 1)); intro e'w h'w tk'w G'w FG'w RS'w UG'w)))
  k_with "call ref" => (guard_hyp zF62; ((k_here; (with_reducible show wpAny _ _ (call (Value.ref 210) [_, Value.bytes (List.toArray (wr _)) _, Value.bytes (List.toArray (oct _)) _]) _ _ _); k_dflt ((first | with_reducible refine' c_put_name ?_ ?_ ?_ ?_ ?_ ?_ ?_ ?_ ?_ ?_ ?_ ?_ ?_ ?_ ?_ ?_ ?_ ?_ ?_ ?_ ?_ ?_ | refine' c_put_name ?_ ?_ ?_ ?_ ?_ ?_ ?_ ?_ ?_ ?_ ?_ ?_ ?_ ?_ ?_ ?_ ?_ ?_ ?_ ?_ ?_ ?_); (rotate_right 3; assumption; assumption; rotate_left 1); (rotate_right 7; assumption; assumption; (first | exact .head _ | assumption); assumption; assumption; assumption; rotate_left 1); (rotate_right 11; k_asm; rotate_left 10); (rotate_right 13; k_asm; k_asm; k_asm; k_asm; exact rfl; exact rfl; rotate_left 7); (rotate_right 3; k_room; k_units; rotate_left 1); (rotate_right 5; assumption; assumption; assumption; exact KtsTurn.refl; rotate_left 1)); intro e'w h'w tk'w G'w FG'w RS'w UG'w)))
  k_with "binaryOp Mod int int" => (guard_hyp zF63; ((k_here; (first | (refine' mod_nat (k := 7) rfl ?_ ?_; rotate_right 2; decide; rotate_left 1) | (refine' mod_nat (k := 8) rfl ?_ ?_; rotate_right 2; decide; rotate_left 1) | (refine' mod_nat (k := 2) rfl ?_ ?_; rotate_right 2; decide; rotate_left 1)); intro t'w k'w)))
  k_with "binaryOp FloorDiv int int" => (guard_hyp zF63; ((k_here; (first | (refine' div_nat (k := 7) rfl ?_ ?_ ?_ ?_; rotate_right 4; decide; omega; decide; rotate_left 1) | (refine' div_nat (k := 56) rfl ?_ ?_ ?_ ?_; rotate_right 4; decide; omega; decide; rotate_left 1)); intro t'w k'w)))
  k_with "binaryOp Add int int" => (guard_hyp zF63; ((k_here; (first | refine add_nat (k := 1) rfl ?_ | refine add_nat (k := 2) rfl ?_ | refine add_nat rfl ?_); intro t'w k'w)))
  k_with "call builtin:divmod" => (guard_hyp zF63; ((k_here; (first | (refine' divmod_nat (k := 3) rfl ?_ ?_ ?_ ?_ ?_ ?_; rotate_right 6; decide; omega; decide; k_asm; k_asm; rotate_left 1) | (refine' divmod_nat (k := 10) rfl ?_ ?_ ?_ ?_ ?_ ?_; rotate_right 6; decide; omega; decide; k_asm; k_asm; rotate_left 1) | (refine' divmod_nat (k := 7) rfl ?_ ?_ ?_ ?_ ?_ ?_; rotate_right 6; decide; omega; decide; k_asm; k_asm; rotate_left 1)); intro D'w h'w t1'w t2'w tk'w F'w N'w; (try k_sweep))))
  k_with "exec For Name Call" => (guard_hyp zF63; ((k_here; (try k_fold); (rename Fr _ _ _ _ => lF'w); (with_unfolding_all refine For_invVF lF'w rfl rfl ?_); k_whole)))
  k_with "exec For Name Call cons nil" => (guard_hyp zF63; ((k_here; (try k_fold); (rename Fr _ _ _ _ => lF'w); (with_unfolding_all refine For_invVF lF'w rfl rfl ?_); k_whole)))
  k_with "pyIter ref" => (guard_hyp zF63; ((k_here; (with_reducible show wpAny _ _ (pyIter _) (fun it s₂ => LoopAtV _ _ _ _ _ _ _ _ _ it s₂) _ _); refine stopM ?_)))
  k_with "pyIter ref" => (guard_hyp zF63; ((k_here; (with_reducible show wpAny _ _ (pyIter _) (fun it s₂ => LoopAtT _ _ _ _ _ _ _ _ _ it s₂) _ _); refine stopM ?_)))
  k_with "storeName" => (guard_hyp zF63; ((k_here; (with_reducible show wpAny _ _ (storeName _ (PySem.Str.ofString "spot") _) _ _ _); refine stopM ?_)))
  k_with "setItem ref" => (guard_hyp zF63; ((k_here; refine stopM ?_)))
  k_with "setItem ref int" => (guard_hyp zF63; ((k_here; refine stopM ?_)))
  k_with "call builtin:list.append" => (guard_hyp zF63; ((k_here; refine stopM ?_)))
  k_with "call ref" => (guard_hyp zF63; ((k_here; (with_reducible show wpAny _ _ (call (Value.ref 368) _) _ _ _); refine stopM ?_)))
  k_with "call ref" => (guard_hyp zF63; ((k_here; (with_reducible show wpAny _ _ (call (Value.ref 385) _) _ _ _); refine stopM ?_)))
  k_with "call ref" => (guard_hyp zF63; ((k_here; (with_reducible show wpAny _ _ (call (Value.ref 380) _) _ _ _); refine stopM ?_)))
  k_with "call ref" => (guard_hyp zF63; ((k_here; (with_reducible show wpAny _ _ (call (Value.ref 328) [Value.int (Nat.cast _) _]) _ _ _); k_dflt ((first | with_reducible refine' c_oct_some (x := .inl _) ?_ ?_ ?_ ?_ ?_ ?_ ?_ ?_ ?_ ?_ ?_ ?_ | refine' c_oct_some (x := .inl _) ?_ ?_ ?_ ?_ ?_ ?_ ?_ ?_ ?_ ?_ ?_ ?_); (rotate_right 3; exact cv_int _ _; (first | assumption | exact Nat.mod_lt _ (by decide)); rotate_left 1); (rotate_right 7; k_asm; rotate_left 6); (rotate_right 9; k_asm; k_asm; k_asm; k_asm; exact rfl; exact rfl; k_room; k_units; rotate_left 1)); intro t'w h'w tk'w F'w N'w; (try k_sweep))))
  k_with "subscriptTail" => (guard_hyp zF63; ((k_here; (with_reducible show wpAny _ _ (subscriptTail _ _ (Value.ref 307) (Value.int _ _)) _ _ _); k_dflt ((first | with_reducible refine' names_item ?_ ?_ ?_ ?_ ?_ ?_ | refine' names_item ?_ ?_ ?_ ?_ ?_ ?_); (rotate_right 4; (first | assumption | exact Nat.mod_lt _ (by decide)); rotate_left 3); (rotate_right 5; k_asm; k_asm; rotate_left 3); (rotate_right 2; with_unfolding_all rfl; (focus (intro _; with_unfolding_all rfl; done))); k_whole); intro tnw)))
  k_with "call type:range" => (guard_hyp zF63; ((k_here; (rename Fr _ _ _ _ => Fz'w); (rename News _ _ _ _ => Nz'w); first | (with_unfolding_all refine range1_rows Fz'w Nz'w ?_; intro _ _ _ _ _ _ _ _ _; (try k_sweep)) | (with_unfolding_all refine range2_rows Fz'w Nz'w ?_; intro _ _ _ _ _ _ _ _ _; (try k_sweep)))))
  k_with "eval Name" => (guard_hyp zF63; ((k_here; k_dflt (((first | with_reducible refine' x_nam ?_ ?_ ?_ ?_ | refine' x_nam ?_ ?_ ?_ ?_); rotate_right 4; k_asm; (focus (k_extra "M:look"; done)); rotate_left 2; rotate_right 1; rfl); k_whole))))
  k_with "eval Name" => (guard_hyp zF63; ((k_here; (first | (with_reducible show wpAny _ _ (eval (Expr.Name (PySem.Str.ofString "spot") _) _) _ _ _) | (with_reducible show wpAny _ _ (eval (Expr.Name (PySem.Str.ofString "rows") _) _) _ _ _)); k_dflt (((first | with_reducible refine' nameX_C ?_ ?_ ?_ ?_ ?_ ?_ ?_ | refine' nameX_C ?_ ?_ ?_ ?_ ?_ ?_ ?_); rotate_right 7; k_asm; rfl; (focus ((repeat (first | exact List.Mem.head _ | refine List.Mem.tail _ ?_)); done)); assumption; rotate_left 3; rotate_right 2; rfl; rfl); k_whole))))
  k_with "K:k_room" => (guard_hyp zF63; ((first | exact (by decide : 1 + claimMargin + 60 < recursionLimit) | (refine Nat.lt_of_le_of_lt ?_ (by decide : 1 + claimMargin + 60 < recursionLimit); decide) | decide)))
  k_with "K:k_units" => (guard_hyp zF63; (decide))
  k_with "call ref" => (guard_hyp zF63; ((k_here; (with_reducible show wpAny _ _ (call (Value.ref 321) [_]) _ _ _); k_dflt (first | ((first | with_reducible refine' c_value (c := 1) ?_ ?_ ?_ ?_ ?_ ?_ ?_ ?_ ?_ ?_ ?_ | refine' c_value (c := 1) ?_ ?_ ?_ ?_ ?_ ?_ ?_ ?_ ?_ ?_ ?_); rotate_right 11; decide; rotate_left 10); (rotate_right 7; k_asm; rotate_left 6); (rotate_right 9; k_asm; k_asm; k_asm; k_asm; exact rfl; exact rfl; k_room; k_units; rotate_left 1)); intro t'w h'w tk'w F'w N'w; (try k_sweep))))
  k_with "binaryOp Add ref ref" => (guard_hyp zF63; ((k_here; k_dflt ((first | with_reducible refine' add_L ?_ ?_ ?_ ?_ ?_ ?_ | refine' add_L ?_ ?_ ?_ ?_ ?_ ?_); (rotate_right 6; k_asm; k_asm; (focus (k_extra "M:in"; done)); (focus (k_extra "M:in"; done)); assumption; rotate_left 1)); intro D'w h'w F'w N'w l1'w; (try k_sweep))))
  k_with "M:in" => (guard_hyp zF63; ((repeat (first | exact List.Mem.head _ | assumption | refine List.Mem.tail _ ?_))))
  k_with "compareOp Is none" => (guard_hyp zF63; ((k_here; k_dflt ((first | with_reducible refine' is_none_cell ?_ ?_ | refine' is_none_cell ?_ ?_); (rotate_right 2; assumption; rotate_left 1); k_whole))))
  k_with "truthy bool" => (guard_hyp zF63; ((k_here; refine' truthy_is ?_ ?_; (rotate_right 2; assumption; rotate_left 1))))
  k_with "M:look" => (guard_hyp zF63; ((k_dflt (first | exact rfl | exact m1 | exact m2 | exact m3 | exact m4 | exact m5 | exact m6 | exact m7 | exact m8))))
  k_with "binaryOp Mult ref int" => (guard_hyp zF63; ((k_here; k_dflt (((first | with_reducible refine' KMa.mul (vs := [Value.ref _]) (ws := [Value.ref _, Value.ref _, Value.ref _]) ?_ ?_ (News.isList (by k_asm) (List.Mem.head _)) ?_ ?_ (Nat.le_of_ble_eq_true rfl) rfl ?_ | refine' KMa.mul (vs := [Value.ref _]) (ws := [Value.ref _, Value.ref _, Value.ref _]) ?_ ?_ (News.isList (by k_asm) (List.Mem.head _)) ?_ ?_ (Nat.le_of_ble_eq_true rfl) rfl ?_); rotate_right 5; k_asm; k_asm; decide; decide; rotate_left 1)); intro D'w h'w F'w N'w l1'w; (try k_sweep))))
  k_with "newTuple" => (guard_hyp zF63; ((k_here; k_dflt ((first | with_reducible refine' newTuple_Q ?_ ?_ ?_ ?_ | refine' newTuple_Q ?_ ?_ ?_ ?_); (rotate_right 4; k_asm; k_asm; rotate_left 2); (rotate_right 1; (focus (kmk_size; done)))); intro D'w h'w F'w N'w l1w; (try k_lt l1w); (try k_sweep))))
  k_with "newList" => (guard_hyp zF63; ((k_here; k_dflt ((first | with_reducible refine' newList_Q ?_ ?_ ?_ ?_ | refine' newList_Q ?_ ?_ ?_ ?_); (rotate_right 4; k_asm; k_asm; rotate_left 2); (rotate_right 1; (focus (first | kmk_size | size_fits; done)))); intro D'w h'w F'w N'w l1w; (try k_lt l1w); (try k_sweep))))
  k_with "call ref" => (guard_hyp zF9; ((k_here; (with_reducible show wpAny _ _ (call (Value.ref 182) _) _ _ _); refine stopM ?_)))
  k_with "eval ListComp BinOp cons" => (guard_hyp zF12; ((k_here; refine stopM ?_)))
  k_with "call ref" => (guard_hyp zF13; ((k_here; (with_reducible show wpAny _ _ (call (Value.ref 41) [Value.int _ _]) _ _ _); k_dflt ((first | with_reducible refine' c_digit_no ?_ ?_ ?_ ?_ ?_ ?_ ?_ ?_ ?_ ?_ ?_ ?_ ?_ ?_ ?_ | refine' c_digit_no ?_ ?_ ?_ ?_ ?_ ?_ ?_ ?_ ?_ ?_ ?_ ?_ ?_ ?_ ?_); (rotate_right 2; assumption; rotate_left 1); (rotate_right 14; k_asm; k_asm; k_asm; k_asm; k_asm; exact rfl; exact rfl; assumption; assumption; assumption; exact KtsTurn.refl; k_room; k_units; rotate_left 1); k_whole); intro e'w h'w tk'w G'w FG'w RS'w UG'w)))
  k_with "subscriptTail" => (guard_hyp zF13; ((k_here; (with_reducible show wpAny _ _ (subscriptTail _ _ (Value.bytes (List.toArray _) _) (Value.int _ _)) _ _ _); ((refine' KBy.item_N ?_ ?_ ?_ ?_; rotate_right 4; omega; omega; omega; rotate_left 1)))))
  k_with "eval ListComp BinOp cons" => (guard_hyp zF13; ((k_here; refine stopM ?_)))
  k_with "truthy bool" => (guard_hyp zF15; ((k_here; refine' truthy_is ?_ ?_; (rotate_right 2; assumption; rotate_left 1))))
  k_with "truthy bool" => (guard_hyp zF17; ((k_here; refine' truthy_is ?_ ?_; (rotate_right 2; assumption; rotate_left 1))))
  k_with "pyReprObj bytes" => (guard_hyp zF18; ((k_here; refine' repr_bytes ?_ ?_; (rotate_right 2; assumption; rotate_left 1); intro txtw hRLw)))
  k_with "joinParts" => (guard_hyp zF18; ((k_here; (with_reducible show wpAny _ _ (joinParts (Str.empty ++ _ ++ _) (evalEach [] _)) _ _ _); (refine' joins_txt ?_ ?_ ?_; (rotate_right 3; assumption; (focus (decide +kernel; done)); rotate_left 1)); intro outw)))
  k_with "call ref" => (guard_hyp zF18; ((k_here; (with_reducible show wpAny _ _ (call (Value.ref 83) [Value.bytes _ _]) _ _ _); k_dflt ( ((first | with_reducible refine' c_valid_no ?_ ?_ ?_ ?_ ?_ ?_ ?_ ?_ ?_ ?_ ?_ ?_ ?_ ?_ ?_ ?_ ?_ ?_ ?_ | refine' c_valid_no ?_ ?_ ?_ ?_ ?_ ?_ ?_ ?_ ?_ ?_ ?_ ?_ ?_ ?_ ?_ ?_ ?_ ?_ ?_); (rotate_right 2; assumption; rotate_left 1); (rotate_right 5; assumption; assumption; assumption; assumption; rotate_left 1); (rotate_right 14; k_asm; k_asm; k_asm; k_asm; k_asm; exact rfl; exact rfl; assumption; assumption; assumption; exact KtsTurn.refl; k_room; k_units; rotate_left 1); k_whole)); intro g'w h'w tk'w T'w F'w N'w K'w X'w P'w D'w; (try k_lift K'w); (try k_sweep))))
  k_with "compareOp In bytes ref" => (guard_hyp zF21; ((k_here; (with_reducible show wpAny _ _ (compareOp CmpOp.In (Value.bytes _ _) (Value.ref _)) _ _ _); k_dflt ((first | with_reducible refine' in_pair ?_ ?_ ?_ ?_ | refine' in_pair ?_ ?_ ?_ ?_); (rotate_right 4; k_asm; exact .head _; exact rfl; rotate_left 1); k_whole))))
  k_with "truthy bool" => (guard_hyp zF21; ((k_here; refine' truthy_is ?_ ?_; (rotate_right 2; assumption; rotate_left 1))))
  k_with "subscriptTail" => (guard_hyp zF21; ((k_here; (with_reducible show wpAny _ _ (subscriptTail _ _ (Value.bytes _ _) (Value.ref _)) _ _ _); k_dflt ((first | with_reducible refine' cut5 ?_ ?_ ?_ ?_ ?_ ?_ ?_ ?_ | refine' cut5 ?_ ?_ ?_ ?_ ?_ ?_ ?_ ?_); (rotate_right 5; assumption; rotate_left 4); (rotate_right 5; assumption; assumption; rotate_left 3); (rotate_right 5; k_asm; k_asm; rotate_left 3); (rotate_right 2; with_unfolding_all rfl; (focus (intro _; with_unfolding_all rfl; done)))); intro h'w t'w k'w F'w N'w; (try k_sweep))))
  k_with "call ref" => (guard_hyp zF21; ((k_here; (with_reducible show wpAny _ _ (call (Value.ref 124) [Value.bytes _ _]) _ _ _); k_dflt ((first | with_reducible refine' fmt_ok ?_ ?_ ?_ ?_ ?_ ?_ ?_ ?_ ?_ ?_ ?_ ?_ ?_ | refine' fmt_ok ?_ ?_ ?_ ?_ ?_ ?_ ?_ ?_ ?_ ?_ ?_ ?_ ?_); (rotate_right 4; assumption; assumption; assumption; rotate_left 1); (rotate_right 10; k_asm; k_asm; k_asm; k_asm; k_asm; exact rfl; exact rfl; k_room; k_units; rotate_left 1)); intro h'w tk'w F'w N'w; (try k_sweep))))
  k_with "compareOp In bytes ref" => (guard_hyp zF22; ((k_here; (with_reducible show wpAny _ _ (compareOp CmpOp.In (Value.bytes _ _) (Value.ref _)) _ _ _); k_dflt ((first | with_reducible refine' in_pair ?_ ?_ ?_ ?_ | refine' in_pair ?_ ?_ ?_ ?_); (rotate_right 4; k_asm; exact .head _; exact rfl; rotate_left 1); k_whole))))
  k_with "truthy bool" => (guard_hyp zF22; ((k_here; refine' truthy_is ?_ ?_; (rotate_right 2; assumption; rotate_left 1))))
  k_with "subscriptTail" => (guard_hyp zF22; ((k_here; (with_reducible show wpAny _ _ (subscriptTail _ _ (Value.bytes _ _) (Value.ref _)) _ _ _); k_dflt ((first | with_reducible refine' cut5 ?_ ?_ ?_ ?_ ?_ ?_ ?_ ?_ | refine' cut5 ?_ ?_ ?_ ?_ ?_ ?_ ?_ ?_); (rotate_right 5; assumption; rotate_left 4); (rotate_right 5; assumption; assumption; rotate_left 3); (rotate_right 5; k_asm; k_asm; rotate_left 3); (rotate_right 2; with_unfolding_all rfl; (focus (intro _; with_unfolding_all rfl; done)))); intro h'w t'w k'w F'w N'w; (try k_sweep))))
  k_with "call ref" => (guard_hyp zF22; ((k_here; (with_reducible show wpAny _ _ (call (Value.ref 124) [Value.bytes _ _]) _ _ _); k_dflt ((first | with_reducible refine' fmt_no ?_ ?_ ?_ ?_ ?_ ?_ ?_ ?_ ?_ ?_ ?_ ?_ | refine' fmt_no ?_ ?_ ?_ ?_ ?_ ?_ ?_ ?_ ?_ ?_ ?_ ?_); (rotate_right 3; assumption; assumption; rotate_left 1); (rotate_right 10; k_asm; k_asm; k_asm; k_asm; k_asm; exact rfl; exact rfl; k_room; k_units; rotate_left 1)); intro h'w tk'w F'w N'w; (try k_sweep))))
  k_with "compareOp In bytes bytes" => (guard_hyp zF22; ((k_here; k_dflt ((first | with_reducible refine' in_bytes ?_ ?_ ?_ ?_ ?_ | refine' in_bytes ?_ ?_ ?_ ?_ ?_); (rotate_right 2; assumption; rotate_left 1); (rotate_right 4; k_asm; k_asm; exact rfl; rotate_left 1)); intro h'w tk'w F'w N'w; (try k_sweep))))
  k_with "truthy bool" => (guard_hyp zF24; ((k_here; refine' truthy_is ?_ ?_; (rotate_right 2; assumption; rotate_left 1))))
  k_with "truthy bool" => (guard_hyp zF27; ((k_here; refine' truthy_is ?_ ?_; (rotate_right 2; assumption; rotate_left 1))))
  k_with "truthy bool" => (guard_hyp zF30; ((k_here; refine' truthy_is ?_ ?_; (rotate_right 2; assumption; rotate_left 1))))
  k_with "call ref" => (guard_hyp zF32; ((k_here; (with_reducible show wpAny _ _ (call (Value.ref 189) [Value.ref _, Value.bytes (List.toArray (nm _)) _]) _ _ _); refine stopM ?_)))
  k_with "subscriptTail" => (guard_hyp zF38; ((k_here; (with_reducible show wpAny _ _ (subscriptTail _ _ (Value.bytes _ _) (Value.int _ _)) _ _ _); k_dflt ((first | with_reducible refine' val_item ?_ ?_ ?_ ?_ | refine' val_item ?_ ?_ ?_ ?_); (rotate_right 4; assumption; rotate_left 3); (rotate_right 2; with_unfolding_all rfl; (focus (intro _; with_unfolding_all rfl; done)))); intro t'w k'w)))
  k_with "call ref" => (guard_hyp zF39; ((k_here; (with_reducible show wpAny _ _ (call (Value.ref 189) [Value.ref _, Value.bytes (List.toArray (nm _)) _]) _ _ _); refine stopM ?_)))
  k_with "getMethod bytes" => (guard_hyp zF40; ((k_here; (with_reducible show wpAny _ _ (getMethod (Value.bytes _ _) (PySem.Str.ofString "rstrip") _) _ _ _); with_reducible refine bytes_meth slot_bytes_rstrip type_bytes_rstrip ?_)))
  k_with "call builtin:bytes.rstrip" => (guard_hyp zF40; ((k_here; (refine' strip_name ?_ ?_; (rotate_right 2; assumption; rotate_left 1)))))
  k_with "truthy bool" => (guard_hyp zF46; ((k_here; refine' truthy_is ?_ ?_; (rotate_right 2; assumption; rotate_left 1))))
  k_with "truthy bool" => (guard_hyp zF47; ((k_here; refine' truthy_is ?_ ?_; (rotate_right 2; assumption; rotate_left 1))))
  k_with "eval ListComp" => (guard_hyp zF50; ((k_here; refine stopM ?_)))
  k_with "exec Assign cons ListComp" => (guard_hyp zF50; ((k_here; refine stopM ?_)))
  k_with "call ref" => (guard_hyp zF51; ((k_here; (with_reducible show wpAny _ _ (call (Value.ref 347) [_, _]) _ _ _); k_dflt ((first | with_reducible refine' c_calm ?_ ?_ ?_ ?_ ?_ ?_ ?_ ?_ ?_ ?_ ?_ ?_ ?_ ?_ ?_ | refine' c_calm ?_ ?_ ?_ ?_ ?_ ?_ ?_ ?_ ?_ ?_ ?_ ?_ ?_ ?_ ?_); (rotate_right 12; k_asm; rotate_left 11); (rotate_right 5; (focus (((first | with_reducible refine' RowsV.mono ?_ ?_ | refine' RowsV.mono ?_ ?_); rotate_right 1; assumption); intro pw hpw; (repeat (first | exact hpw | refine List.Mem.tail _ ?_)); done)); rotate_left 4); (rotate_right 5; (focus ((repeat (first | assumption | refine List.Mem.tail _ ?_)); done)); (focus ((repeat (first | assumption | refine List.Mem.tail _ ?_)); done)); assumption; assumption; rotate_left 1); (rotate_right 9; k_asm; k_asm; k_asm; k_asm; exact rfl; exact rfl; k_room; k_units; rotate_left 1)); intro h'w tk'w F'w N'w; (try k_sweep))))
  k_with "call ref" => (guard_hyp zF51; ((k_here; (with_reducible show wpAny _ _ (call (Value.ref 335) [_]) _ _ _); k_dflt ((first | with_reducible refine' c_old ?_ ?_ ?_ ?_ ?_ ?_ ?_ ?_ ?_ ?_ ?_ ?_ | refine' c_old ?_ ?_ ?_ ?_ ?_ ?_ ?_ ?_ ?_ ?_ ?_ ?_); (rotate_right 3; assumption; assumption; rotate_left 1); (rotate_right 10; k_asm; k_asm; k_asm; k_asm; k_asm; exact rfl; exact rfl; k_room; k_units; rotate_left 1)); intro t'w h'w tk'w F'w N'w; (try k_sweep))))
  k_with "compareOp Is none" => (guard_hyp zF51; ((k_here; k_dflt ((first | with_reducible refine' is_none_cell ?_ ?_ | refine' is_none_cell ?_ ?_); (rotate_right 2; assumption; rotate_left 1); k_whole))))
  k_with "eval IfExp" => (guard_hyp zF52; ((k_here; refine stopM ?_)))
  k_with "subscriptTail" => (guard_hyp zF52; ((k_here; (with_reducible show wpAny _ _ (subscriptTail _ _ (Value.ref _) (Value.int _ _)) _ _ _); refine stopM ?_)))
  k_with "subscriptTail" => (guard_hyp zF52; ((k_here; (with_reducible show wpAny _ _ (subscriptTail _ _ (Value.ref _) (Value.int _ _)) _ _ _); k_dflt ((first | with_reducible refine' item_tupleT ?_ ?_ ?_ ?_ ?_ ?_ | refine' item_tupleT ?_ ?_ ?_ ?_ ?_ ?_); (rotate_right 6; exact News.isTup (by k_asm) (by k_mem); decide; decide; exact rfl; exact rfl; rotate_left 1); k_whole))))
  k_with "subscriptTail" => (guard_hyp zF52; ((k_here; (with_reducible show wpAny _ _ (subscriptTail _ _ (Value.ref _) (Value.int _ _)) _ _ _); k_dflt ((first | with_reducible refine' item_B ?_ ?_ ?_ ?_ ?_ ?_ ?_ ?_ | refine' item_B ?_ ?_ ?_ ?_ ?_ ?_ ?_ ?_); (rotate_right 8; k_asm; (focus ((repeat (first | exact List.Mem.head _ | (with_reducible assumption) | refine List.Mem.tail _ ?_)); done)); (first | exact BytesL.consE _ (BytesL.cons _ (BytesL.cons _ (BytesL.cons _ BytesL.nil))) | exact BytesL.consE _ (BytesL.cons _ (BytesL.cons _ (BytesL.cons _ (BytesL.cons _ (BytesL.cons _ (BytesL.cons _ BytesL.nil))))))); (first | exact rfl | assumption); (first | exact ⟨(rfl : _ = 4), by decide⟩ | exact ⟨(rfl : _ = 7), by decide⟩); assumption; rotate_left 2); (rotate_right 1; with_unfolding_all rfl)); intro tBw)))
  k_with "subscriptTail" => (guard_hyp zF52; ((k_here; (with_reducible show wpAny _ _ (subscriptTail _ _ (Value.ref 307) (Value.int _ _)) _ _ _); k_dflt ((first | with_reducible refine' names_item ?_ ?_ ?_ ?_ ?_ ?_ | refine' names_item ?_ ?_ ?_ ?_ ?_ ?_); (rotate_right 4; assumption; rotate_left 3); (rotate_right 5; k_asm; k_asm; rotate_left 3); (rotate_right 2; with_unfolding_all rfl; (focus (intro _; with_unfolding_all rfl; done))); k_whole); intro tnw)))
  k_with "subscriptTail" => (guard_hyp zF52; ((k_here; (with_reducible show wpAny _ _ (subscriptTail _ _ (Value.bytes _ _) (Value.ref _)) _ _ _); k_dflt (first | ((first | with_reducible refine' cut_tail ?_ ?_ ?_ ?_ ?_ ?_ ?_ | refine' cut_tail ?_ ?_ ?_ ?_ ?_ ?_ ?_); (rotate_right 5; omega; omega; rotate_left 3); (rotate_right 5; k_asm; k_asm; rotate_left 3); (rotate_right 2; with_unfolding_all rfl; (focus (intro _; with_unfolding_all rfl; done)))) | ((first | with_reducible refine' cut_last ?_ ?_ ?_ ?_ ?_ ?_ ?_ | refine' cut_last ?_ ?_ ?_ ?_ ?_ ?_ ?_); (rotate_right 5; omega; omega; rotate_left 3); (rotate_right 5; k_asm; k_asm; rotate_left 3); (rotate_right 2; with_unfolding_all rfl; (focus (intro _; with_unfolding_all rfl; done))))); intro h'w t'w k'w F'w N'w; (try k_sweep))))
  k_with "binaryOp Add bytes bytes" => (guard_hyp zF52; ((k_here; (refine' add_BL ?_ ?_; (rotate_right 2; (focus (((try simp only [List.length_drop, List.length_cons, List.length_nil]); omega); done)); rotate_left 1)); intro t'w k'w)))
  k_with "call ref" => (guard_hyp zF52; ((k_here; (with_reducible show wpAny _ _ (call (Value.ref 335) [_]) _ _ _); k_dflt ((first | with_reducible refine' c_old ?_ ?_ ?_ ?_ ?_ ?_ ?_ ?_ ?_ ?_ ?_ ?_ | refine' c_old ?_ ?_ ?_ ?_ ?_ ?_ ?_ ?_ ?_ ?_ ?_ ?_); (rotate_right 3; assumption; assumption; rotate_left 1); (rotate_right 10; k_asm; k_asm; k_asm; k_asm; k_asm; exact rfl; exact rfl; k_room; k_units; rotate_left 1)); intro t'w h'w tk'w F'w N'w; (try k_sweep))))
  k_with "K:k_mem" => (guard_hyp zF54; (((repeat (first | (with_reducible assumption) | (refine List.mem_cons_of_mem _ ?_))); done)))
  k_with "compareOp Eq ref ref" => (guard_hyp zF54; ((k_here; k_dflt ((first | with_reducible refine' octs_eq ?_ ?_ ?_ ?_ ?_ ?_ ?_ ?_ | refine' octs_eq ?_ ?_ ?_ ?_ ?_ ?_ ?_ ?_); (rotate_right 8; k_asm; (first | exact List.Mem.head _ | exact List.Mem.tail _ (List.Mem.head _)); (first | exact List.Mem.head _ | exact List.Mem.tail _ (List.Mem.head _)); assumption; assumption; assumption; k_units; rotate_left 1)))))
  k_with "eval ListComp" => (guard_hyp zF54; ((k_here; refine stopM ?_)))
  k_with "getMethod ref" => (guard_hyp zF55; ((k_here; (with_reducible show wpAny _ _ (getMethod (Value.ref _) (PySem.Str.ofString "keys") _) _ _ _); k_dflt ((first | with_reducible refine' dict_meth (knd := bytesKind _ _) PySem.F.slot_dict_keys PySem.F.type_dict_keys ?_ ?_ ?_ ?_ | refine' dict_meth (knd := bytesKind _ _) PySem.F.slot_dict_keys PySem.F.type_dict_keys ?_ ?_ ?_ ?_); (rotate_right 2; assumption; rotate_left 1); (rotate_right 3; k_asm; (focus (k_mem; done)); rotate_left 1); k_whole))))
  k_with "call builtin:dict.keys" => (guard_hyp zF55; ((k_here; k_dflt ((first | with_reducible refine' kdl_view_keys (knd := bytesKind _ _) ?_ ?_ ?_ ?_ ?_ ?_ | refine' kdl_view_keys (knd := bytesKind _ _) ?_ ?_ ?_ ?_ ?_ ?_); (rotate_right 3; assumption; assumption; rotate_left 1); (rotate_right 4; k_asm; k_asm; (focus (k_mem; done)); rotate_left 1)); intro D'w h'w F'w N'w l1'w; (try k_sweep))))
  k_with "call type:set" => (guard_hyp zF55; ((k_here; (with_reducible show wpAny _ _ (call (Value.type _) [Value.ref _]) _ _ _); k_dflt ((first | with_reducible refine' set_keys_N ?_ ?_ ?_ ?_ ?_ ?_ ?_ ?_ | refine' set_keys_N ?_ ?_ ?_ ?_ ?_ ?_ ?_ ?_); (rotate_right 4; assumption; assumption; rotate_left 2); (rotate_right 5; k_asm; rotate_left 4); (rotate_right 5; k_asm; exact List.Mem.head _; exact List.Mem.tail _ (by assumption); exact rfl; rotate_left 1)); intro S'w h'w tk'w os'w es'w hX'w hE'w F'w N'w l1'w; (try k_sweep))))
  k_with "call type:set cons nil" => (guard_hyp zF55; ((k_here; (with_reducible show wpAny _ _ (call (Value.type _) [Value.ref _]) _ _ _); k_dflt ((first | with_reducible refine' set_keys_N ?_ ?_ ?_ ?_ ?_ ?_ ?_ ?_ | refine' set_keys_N ?_ ?_ ?_ ?_ ?_ ?_ ?_ ?_); (rotate_right 4; assumption; assumption; rotate_left 2); (rotate_right 5; k_asm; rotate_left 4); (rotate_right 5; k_asm; exact List.Mem.head _; exact List.Mem.tail _ (by assumption); exact rfl; rotate_left 1)); intro S'w h'w tk'w os'w es'w hX'w hE'w F'w N'w l1'w; (try k_sweep))))
  k_with "call ref" => (guard_hyp zF56; ((k_here; (with_reducible show wpAny _ _ (call (Value.ref 252) _) _ _ _); refine stopM ?_)))
  k_with "eval Dict nil nil" => (guard_hyp zF57; ((k_here; k_dflt ((first | with_reducible refine' newDict_K ?_ ?_ (TopRead.nolimit (by k_asm)) ?_ | refine' newDict_K ?_ ?_ (TopRead.nolimit (by k_asm)) ?_); (rotate_right 3; k_asm; k_asm; rotate_left 1); k_whole); intro Drw h'w o'w F'w N'w l1w lo'w hs'w fs'w hi'w fi'w; (try k_sweep))))
  k_with "call ref" => (guard_hyp zF57; ((k_here; (with_reducible show wpAny _ _ (call (Value.ref 146) _) _ _ _); refine stopM ?_)))
  k_with "call ref" => (guard_hyp zF57; ((k_here; (with_reducible show wpAny _ _ (call (Value.ref 203) _) _ _ _); refine stopM ?_)))
  k_with "pyIter ref" => (guard_hyp zF57; ((k_here; refine stopM ?_)))
  k_with "exec For Name Name" => (guard_hyp zF57; ((k_here; (try k_fold); k_dflt ((first | with_reducible refine For_code ?_ (fun _ => rfl) | refine For_code ?_ (fun _ => rfl))); k_whole)))
  k_with "exec For Name Name cons nil" => (guard_hyp zF57; ((k_here; (try k_fold); k_dflt ((first | with_reducible refine For_code ?_ (fun _ => rfl) | refine For_code ?_ (fun _ => rfl))); k_whole)))
  k_with "getMethod bytes" => (guard_hyp zF57; ((k_here; (with_reducible show wpAny _ _ (getMethod (Value.bytes _ _) (PySem.Str.ofString "strip") _) _ _ _); with_reducible refine bytes_meth slot_bytes_strip type_bytes_strip ?_)))
  k_with "binaryOp Add bytes bytes" => (guard_hyp zF57; ((k_here; (refine' add_slash ?_ ?_; (rotate_right 2; assumption; rotate_left 1)); intro t'w k'w)))
  k_with "binaryOp Add bytes bytes" => (guard_hyp zF57; ((k_here; (refine' add_pre ?_); intro t'w k'w)))
  k_with "call builtin:bytes.strip" => (guard_hyp zF57; ((k_here; (refine' strip_slash ?_ ?_; (rotate_right 2; assumption; rotate_left 1)); intro t'w k'w)))
  k_with "setItem ref bytes bytes" => (guard_hyp zF57; ((k_here; refine stopM ?_)))
  k_with "eval Dict nil nil" => (guard_hyp zF58; ((k_here; k_dflt ((first | with_reducible refine' newDict_K ?_ ?_ (TopRead.nolimit (by k_asm)) ?_ | refine' newDict_K ?_ ?_ (TopRead.nolimit (by k_asm)) ?_); (rotate_right 3; k_asm; k_asm; rotate_left 1); k_whole); intro Drw h'w o'w F'w N'w l1w lo'w hs'w fs'w hi'w fi'w; (try k_sweep))))
  k_with "call ref" => (guard_hyp zF58; ((k_here; (with_reducible show wpAny _ _ (call (Value.ref 252) _) _ _ _); refine stopM ?_)))
  k_with "call ref" => (guard_hyp zF58; ((k_here; (with_reducible show wpAny _ _ (call (Value.ref 182) _) _ _ _); refine stopM ?_)))
  k_with "call ref" => (guard_hyp zF58; ((k_here; (with_reducible show wpAny _ _ (call (Value.ref 117) _) _ _ _); refine stopM ?_)))
  k_with "pyIter ref" => (guard_hyp zF58; ((k_here; refine stopM ?_)))
  k_with "exec For Name Call" => (guard_hyp zF58; ((k_here; (try k_fold); k_dflt ((first | with_reducible refine For_code ?_ (fun _ => rfl) | refine For_code ?_ (fun _ => rfl))); k_whole)))
  k_with "exec For Name Call cons nil" => (guard_hyp zF58; ((k_here; (try k_fold); k_dflt ((first | with_reducible refine For_code ?_ (fun _ => rfl) | refine For_code ?_ (fun _ => rfl))); k_whole)))
  k_with "setItem ref bytes bytes" => (guard_hyp zF58; ((k_here; refine stopM ?_)))
  k_with "compareOp Is none" => (guard_hyp zF59; ((k_here; k_dflt ((first | with_reducible refine' is_none_cell ?_ ?_ | refine' is_none_cell ?_ ?_); (rotate_right 2; assumption; rotate_left 1); k_whole))))
  k_with "exec For Name Call" => (guard_hyp zF59; ((k_here; (try k_fold); (rename Fr _ _ _ _ => lF'w); (with_unfolding_all refine For_invVF lF'w rfl rfl ?_); k_whole)))
  k_with "exec For Name Call cons nil" => (guard_hyp zF59; ((k_here; (try k_fold); (rename Fr _ _ _ _ => lF'w); (with_unfolding_all refine For_invVF lF'w rfl rfl ?_); k_whole)))
  k_with "pyIter ref" => (guard_hyp zF59; ((k_here; (with_reducible show wpAny _ _ (pyIter _) (fun it s₂ => LoopAtV _ _ _ _ _ _ _ _ _ it s₂) _ _); refine stopM ?_)))
  k_with "pyIter ref" => (guard_hyp zF59; ((k_here; (with_reducible show wpAny _ _ (pyIter _) (fun it s₂ => LoopAtT _ _ _ _ _ _ _ _ _ it s₂) _ _); refine stopM ?_)))
  k_with "setItem ref" => (guard_hyp zF59; ((k_here; refine stopM ?_)))
  k_with "setItem ref int" => (guard_hyp zF59; ((k_here; refine stopM ?_)))
  k_with "setItem ref int ref" => (guard_hyp zF59; ((k_here; refine stopM ?_)))
  k_with "compareOp NotIn int ref" => (guard_hyp zF59; ((k_here; k_dflt ((first | with_reducible refine' notin_F ?_ ?_ ?_ ?_ ?_ ?_ | refine' notin_F ?_ ?_ ?_ ?_ ?_ ?_); (rotate_right 3; assumption; rotate_left 2); (rotate_right 3; assumption; assumption; rotate_left 1); (rotate_right 3; k_asm; (focus (k_mem; done)); rotate_left 1); k_whole))))
  k_with "compareOp In int ref" => (guard_hyp zF59; ((k_here; k_dflt ((first | with_reducible refine' in_F ?_ ?_ ?_ ?_ ?_ ?_ | refine' in_F ?_ ?_ ?_ ?_ ?_ ?_); (rotate_right 3; assumption; rotate_left 2); (rotate_right 3; assumption; assumption; rotate_left 1); (rotate_right 3; k_asm; (focus (k_mem; done)); rotate_left 1); k_whole))))
  k_with "subscriptTail" => (guard_hyp zF59; ((k_here; (with_reducible show wpAny _ _ (subscriptTail _ _ (Value.ref _) (Value.int _ _)) _ _ _); k_dflt ((first | with_reducible refine' get_F ?_ ?_ ?_ ?_ ?_ ?_ | refine' get_F ?_ ?_ ?_ ?_ ?_ ?_); (rotate_right 4; assumption; assumption; rotate_left 2); (rotate_right 4; k_asm; (focus (k_mem; done)); rotate_left 2); (rotate_right 1; with_unfolding_all rfl); k_whole))))
  k_with "call builtin:list.append" => (guard_hyp zF59; ((k_here; refine stopM ?_)))
  k_with "compareOp Eq ref ref" => (guard_hyp zF59; ((k_here; k_dflt ((first | with_reducible refine' cmp_empty ?_ ?_ ?_ ?_ ?_ | refine' cmp_empty ?_ ?_ ?_ ?_ ?_); (rotate_right 5; k_asm; (focus (k_mem; done)); (focus (k_mem; done)); k_units; rotate_left 1); k_whole))))
  k_with "exec For Tuple Name" => (guard_hyp zF59; ((k_here; (try k_fold); (rename Fr _ _ _ _ => lF'w); (with_unfolding_all refine For_invTF lF'w ?_ (fun _ => rfl)); k_whole)))
  k_with "exec For Tuple Name cons nil" => (guard_hyp zF59; ((k_here; (try k_fold); (rename Fr _ _ _ _ => lF'w); (with_unfolding_all refine For_invTF lF'w ?_ (fun _ => rfl)); k_whole)))
  k_with "binaryOp Add ref ref" => (guard_hyp zF59; ((k_here; k_dflt ((first | with_reducible refine' add_L ?_ ?_ ?_ ?_ ?_ ?_ | refine' add_L ?_ ?_ ?_ ?_ ?_ ?_); (rotate_right 6; k_asm; k_asm; (focus (k_mem; done)); (focus (k_mem; done)); assumption; rotate_left 1)); intro D'w h'w F'w N'w l1'w; (try k_sweep))))
  k_with "truthy bool" => (guard_hyp zF59; ((k_here; refine' truthy_is ?_ ?_; (rotate_right 2; assumption; rotate_left 1))))
  k_with "M:in" => (guard_hyp zF59; ((repeat (first | exact List.Mem.head _ | assumption | refine List.Mem.tail _ ?_))))
  k_with "eval ListComp" => (guard_hyp zF60; ((k_here; refine stopM ?_)))
  k_with "call ref" => (guard_hyp zF60; ((k_here; (with_reducible show wpAny _ _ (call (Value.ref 368) _) _ _ _); refine stopM ?_)))
  k_with "call ref" => (guard_hyp zF60; ((k_here; (with_reducible show wpAny _ _ (call (Value.ref 342) [_]) _ _ _); k_dflt ((first | with_reducible refine' c_chains ?_ ?_ ?_ ?_ ?_ ?_ ?_ ?_ ?_ ?_ ?_ ?_ ?_ | refine' c_chains ?_ ?_ ?_ ?_ ?_ ?_ ?_ ?_ ?_ ?_ ?_ ?_ ?_); (rotate_right 4; assumption; assumption; assumption; rotate_left 1); (rotate_right 10; k_asm; k_asm; k_asm; k_asm; k_asm; exact rfl; exact rfl; k_room; k_units; rotate_left 1)); intro Fd'w o'w f'w rest'w h'w tk'w lo'w hsub'w hF'w hok'w F'w N'w; (try k_sweep))))
  k_with "compareOp NotIn int ref" => (guard_hyp zF60; ((k_here; k_dflt ((first | with_reducible refine' notin_F ?_ ?_ ?_ ?_ ?_ ?_ | refine' notin_F ?_ ?_ ?_ ?_ ?_ ?_); (rotate_right 3; assumption; rotate_left 2); (rotate_right 3; assumption; assumption; rotate_left 1); (rotate_right 3; k_asm; (focus (k_mem; done)); rotate_left 1); k_whole))))
  k_with "subscriptTail" => (guard_hyp zF60; ((k_here; (with_reducible show wpAny _ _ (subscriptTail _ _ (Value.ref _) (Value.int (Nat.cast _) _)) _ _ _); k_dflt ((first | with_reducible refine' get_F ?_ ?_ ?_ ?_ ?_ ?_ | refine' get_F ?_ ?_ ?_ ?_ ?_ ?_); (rotate_right 4; assumption; assumption; rotate_left 2); (rotate_right 4; k_asm; (focus (k_mem; done)); rotate_left 2); (rotate_right 1; with_unfolding_all rfl); k_whole))))
  k_with "compareOp Eq ref ref" => (guard_hyp zF60; ((k_here; k_dflt ((first | with_reducible refine' told_eq ?_ ?_ ?_ ?_ ?_ ?_ ?_ ?_ ?_ ?_ ?_ ?_ | refine' told_eq ?_ ?_ ?_ ?_ ?_ ?_ ?_ ?_ ?_ ?_ ?_ ?_); (rotate_right 12; k_asm; (focus ((repeat (first | exact List.Mem.head _ | assumption | refine List.Mem.tail _ ?_)); done)); (focus ((repeat (first | exact List.Mem.head _ | assumption | refine List.Mem.tail _ ?_)); done)); (focus ((repeat (first | exact List.Mem.head _ | assumption | refine List.Mem.tail _ ?_)); done)); (focus ((repeat (first | exact List.Mem.head _ | assumption | refine List.Mem.tail _ ?_)); done)); rotate_left 7); (rotate_right 4; assumption; assumption; rotate_left 2); (rotate_right 5; assumption; assumption; assumption; k_units; rotate_left 1)))))
  k_with "eval IfExp" => (guard_hyp zF64; ((k_here; (rename Flag 1 => flgw); clear flgw; refine stopM ?_)))
  k_with "exec If" => (guard_hyp zF65; ((k_here; (rename Flag 2 => flgw); clear flgw; refine stopM ?_)))
  k_with "exec If BoolOp" => (guard_hyp zF65; ((k_here; (rename Flag 2 => flgw); clear flgw; refine stopM ?_)))
  k_with "exec If" => (guard_hyp zF66; ((k_here; (rename Flag 3 => flgw); clear flgw; refine stopM ?_)))
  k_with "exec If Compare" => (guard_hyp zF66; ((k_here; (rename Flag 3 => flgw); clear flgw; refine stopM ?_)))
  k_with "exec If Compare cons" => (guard_hyp zF66; ((k_here; (rename Flag 3 => flgw); clear flgw; refine stopM ?_)))
  k_with "exec If" => (guard_hyp zF67; ((k_here; (rename Flag 4 => flgw); clear flgw; refine stopM ?_)))
  k_with "exec If Compare" => (guard_hyp zF67; ((k_here; (rename Flag 4 => flgw); clear flgw; refine stopM ?_)))
  k_with "exec If Compare cons" => (guard_hyp zF67; ((k_here; (rename Flag 4 => flgw); clear flgw; refine stopM ?_)))
  k_with "exec If Compare cons cons" => (guard_hyp zF67; ((k_here; (rename Flag 4 => flgw); clear flgw; refine stopM ?_)))
  k_with "call ref" => (guard_hyp zF67; ((k_here; (with_reducible show wpAny _ _ (call (Value.ref 321) [_]) _ _ _); k_dflt (first | (first | with_reducible refine' c_value ?_ ?_ ?_ ?_ ?_ ?_ ?_ ?_ ?_ ?_ ?_ | refine' c_value ?_ ?_ ?_ ?_ ?_ ?_ ?_ ?_ ?_ ?_ ?_); (rotate_right 11; assumption; rotate_left 10); (rotate_right 7; k_asm; rotate_left 6); (rotate_right 9; k_asm; k_asm; k_asm; k_asm; exact rfl; exact rfl; k_room; k_units; rotate_left 1)); intro t'w h'w tk'w F'w N'w; (try k_sweep))))
  k_with "call ref" => (guard_hyp zF68; ((k_here; (with_reducible show wpAny _ _ (call (Value.ref 361) _) _ _ _); refine stopM ?_)))
  k_with "call ref" => (guard_hyp zF68; ((k_here; (with_reducible show wpAny _ _ (call (Value.ref 354) _) _ _ _); refine stopM ?_)))
  k_with "call ref" => (guard_hyp zF68; ((k_here; (with_reducible show wpAny _ _ (call (Value.ref 375) _) _ _ _); refine stopM ?_)))
  k_with "call ref" => (guard_hyp zF69; ((k_here; (with_reducible show wpAny _ _ (call (Value.ref 375) _) _ _ _); refine stopM ?_)))
  k_with "call ref" => (guard_hyp zF70; ((k_here; (with_reducible show wpAny _ _ (call (Value.ref 328) _) _ _ _); refine stopM ?_)))
  k_with "call ref" => (guard_hyp zF71; ((k_here; (with_reducible show wpAny _ _ (call (Value.ref 342) _) _ _ _); refine stopM ?_)))
  k_with "call ref" => (guard_hyp zF71; ((k_here; (with_reducible show wpAny _ _ (call (Value.ref 375) _) _ _ _); refine stopM ?_)))
  k_with "compareOp Eq str str" => (guard_hyp zF71; ((k_here; (refine' str_eq_deed ?_ ?_; rotate_right 2; assumption; rotate_left 1))))
  k_with "call ref" => (guard_hyp zF72; ((k_here; (with_reducible show wpAny _ _ (call (Value.ref 375) _) _ _ _); refine stopM ?_)))
  k_with "compareOp NotIn int ref" => (guard_hyp zF72; ((k_here; refine stopM ?_)))
  k_with "compareOp IsNot none" => (guard_hyp zF74; ((k_here; k_dflt ((first | with_reducible refine' isnot_none_cell ?_ ?_ ?_ | refine' isnot_none_cell ?_ ?_ ?_); (rotate_right 3; assumption; assumption; rotate_left 1); k_whole))))
  k_with "compareOp IsNot none" => (guard_hyp zF73; ((k_here; k_dflt ((first | with_reducible refine' isnot_none_cell ?_ ?_ ?_ | refine' isnot_none_cell ?_ ?_ ?_); (rotate_right 3; assumption; assumption; rotate_left 1); k_whole))))
  k_with "call ref" => (guard_hyp zF75; ((k_here; (with_reducible show wpAny _ _ (call (Value.ref 375) _) _ _ _); refine stopM ?_)))
  k_with "compareOp NotIn int ref" => (guard_hyp zF75; ((k_here; refine stopM ?_)))
  k_with "eval IfExp" => (guard_hyp zF76; ((k_here; refine stopM ?_)))
  k_with "eval IfExp Compare" => (guard_hyp zF76; ((k_here; refine stopM ?_)))
  k_with "call ref" => (guard_hyp zF77; ((k_here; (with_reducible show wpAny _ _ (call (Value.ref 342) _) _ _ _); refine stopM ?_)))
  k_with "exec For Name Call cons nil" => (guard_hyp zF78; ((k_here; (try k_fold); (rename Fr _ _ _ _ => lF'w); (with_unfolding_all refine For_invTF lF'w ?_ (fun _ => rfl)); k_whole)))
  k_with "exec If" => (guard_hyp zF79; ((k_here; refine stopM ?_)))
  k_with "exec If BoolOp" => (guard_hyp zF79; ((k_here; refine stopM ?_)))
  k_with "compareOp In int ref" => (guard_hyp zF80; ((k_here; k_dflt ((first | with_reducible refine' in_F ?_ ?_ ?_ ?_ ?_ ?_ | refine' in_F ?_ ?_ ?_ ?_ ?_ ?_); (rotate_right 6; k_asm; (focus (k_extra "M:in"; done)); assumption; assumption; assumption; rotate_left 1)))))
  k_with "subscriptTail" => (guard_hyp zF80; ((k_here; (with_reducible show wpAny _ _ (subscriptTail _ _ (Value.ref _) (Value.int _ _)) _ _ _); k_dflt ((first | with_reducible refine' get_F ?_ ?_ ?_ ?_ ?_ ?_ | refine' get_F ?_ ?_ ?_ ?_ ?_ ?_); (rotate_right 6; k_asm; (focus (k_extra "M:in"; done)); assumption; assumption; rotate_left 2); (rotate_right 1; with_unfolding_all rfl)))))
  k_with "compareOp IsNot none" => (guard_hyp zF80; ((k_here; k_dflt ((first | with_reducible refine' isnot_none_cell ?_ ?_ ?_ | refine' isnot_none_cell ?_ ?_ ?_); (rotate_right 3; assumption; assumption; rotate_left 1); k_whole))))
  k_with "subscriptTail" => (guard_hyp zF80; ((k_here; (with_reducible show wpAny _ _ (subscriptTail _ _ (Value.ref _) (Value.int _ _)) _ _ _); k_dflt ((first | with_reducible refine' item_tupleT ?_ ?_ ?_ ?_ ?_ ?_ | refine' item_tupleT ?_ ?_ ?_ ?_ ?_ ?_); (rotate_right 6; exact News.isTup (by k_asm) (by k_extra "M:in"); decide; decide; exact rfl; exact rfl; rotate_left 1); k_whole))))
  k_with "call ref" => (guard_hyp zF81; ((k_here; (with_reducible show wpAny _ _ (call (Value.ref 161) _) _ _ _); refine stopM ?_)))
  k_with "call ref" => (guard_hyp zF81; ((k_here; (with_reducible show wpAny _ _ (call (Value.ref 224) _) _ _ _); refine stopM ?_)))
  k_with "compareOp NotEq" => (guard_hyp zF81; ((k_here; refine stopM ?_)))
  k_with "compareOp NotEq ref ref" => (guard_hyp zF81; ((k_here; refine stopM ?_)))
  k_with "call ref" => (guard_hyp zF82; ((k_here; (with_reducible show wpAny _ _ (call (Value.ref 161) _) _ _ _); refine stopM ?_)))
  k_with "call ref" => (guard_hyp zF82; ((k_here; (with_reducible show wpAny _ _ (call (Value.ref 224) _) _ _ _); refine stopM ?_)))
  k_with "compareOp NotEq" => (guard_hyp zF82; ((k_here; refine stopM ?_)))
  k_with "compareOp NotEq ref ref" => (guard_hyp zF82; ((k_here; refine stopM ?_)))
  k_with "binaryOp Mod int int" => (guard_hyp zF83; ((k_here; (refine' mod_nat rfl ?_ ?_; rotate_right 2; (focus (first | omega | assumption; done)); rotate_left 1); intro t'w k'w)))
  k_with "eval ListComp" => (guard_hyp zF84; ((k_here; refine stopM ?_)))
  k_with "eval Name" => (guard_hyp zF85; ((k_here; (with_reducible show wpAny _ _ (eval (Expr.Name _ _) (compEnvC _ _ _ _)) _ _ _); k_dflt (first | ((first | with_reducible refine' LCgL.ld_own ?_ ?_ ?_ ?_ ?_ | refine' LCgL.ld_own ?_ ?_ ?_ ?_ ?_); rotate_right 5; k_asm; (focus (k_extra "M:in"; done)); assumption; assumption; rotate_left 1) | ((first | with_reducible refine' kcf_cell ?_ ?_ ?_ ?_ ?_ | refine' kcf_cell ?_ ?_ ?_ ?_ ?_); rotate_right 5; k_asm; rfl; (focus (k_extra "M:in"; done)); k_asm; rotate_left 1)))))
  k_with "call builtin:max" => (guard_hyp zF85; ((k_here; refine stopM ?_)))
  k_with "CompSrcT" => (guard_hyp zF85; ((k_here; refine stopM ?_)))
  k_with "call ref" => (guard_hyp zF86; ((k_here; (with_reducible show wpAny _ _ (call (Value.ref 392) _) _ _ _); refine stopM ?_)))
  k_with "storeName" => (guard_hyp zF87; ((k_here; (with_reducible show wpAny _ _ (storeName _ (PySem.Str.ofString "rows") _) _ _ _); refine stopM ?_)))
  k_with "call ref" => (guard_hyp zF88; ((k_here; (with_reducible show wpAny _ _ (call (Value.ref 252) _) _ _ _); refine stopM ?_)))
  k_with "call builtin:sorted" => (guard_hyp zF88; ((k_here; refine stopM ?_)))
  k_with "compareOp Eq ref ref" => (guard_hyp zF88; ((k_here; refine stopM ?_)))
  trivial
local macro_rules | `(tactic| omega) => `(tactic| k_extra "M:om")
noncomputable abbrev loose : List Str := looseW hd.view_1 [Str.ofString "binascii", Str.ofString "_law_names"]
noncomputable abbrev PG : Program := PySem.Challenge.rw_ai0010_01.prog
abbrev AA (dp un : Nat) (gd : Option (List Code)) (outer : List Env) : Around := { handled := none, depth := dp, frames := some outer, guards := gd, units := un }
/-! the data -/
def nm : Nat → List UInt8
  | 0 => [72, 69, 65, 68]
  | 1 => [114, 101, 102, 115, 47, 104, 101, 97, 100, 115, 47, 97]
  | 2 => [114, 101, 102, 115, 47, 104, 101, 97, 100, 115, 47, 98]
  | 3 => [114, 101, 102, 115, 47, 115, 116, 97, 115, 104]
  | 4 => [114, 101, 102, 115, 47, 116, 97, 103, 115, 47, 118]
  | 5 => [114, 101, 102, 115, 47, 110, 111, 116, 101, 115, 47, 110]
  | 6 => [114, 101, 102, 115, 47, 112, 117, 108, 108, 47, 49]
  | _ => []
def pat : Nat → UInt8
  | 0 => 48 | 1 => 97 | 2 => 50 | 3 => 99 | 4 => 52 | 5 => 101 | 6 => 54 | 7 => 66
  | _ => 0
def lv (c : Nat) : List UInt8 := (List.replicate (if c = 4 then 32 else 20) [pat c, 49]).flatten
def SYM : List UInt8 := [114, 101, 102, 58, 32]
def ZRO : List UInt8 := List.replicate 40 48
abbrev Cell := Option (Sum Nat Nat)
def CellOk : Cell → Prop
  | none => True
  | some (.inl j) => j < 7
  | some (.inr c) => 1 ≤ c ∧ c ≤ 7
def oct : Sum Nat Nat → List UInt8
  | .inl j => SYM ++ nm j
  | .inr c => lv c
def CellV : Cell → Value → Prop
  | none, v => v = .none
  | some (.inl j), v => ∃ t, v = .int j t
  | some (.inr c), v => ∃ t, v = .bytes (lv c).toArray t
def OctV : Cell → Value → Prop
  | none, v => v = .none
  | some x, v => ∃ t, v = .bytes (oct x).toArray t
noncomputable abbrev BK (w : World) := bytesKind PG w
structure RefsKV (kvs : List (List UInt8 × Value)) (H : Nat → Cell) : Prop where
  ok : ∀ i, i < 7 → CellOk (H i)
  nodup : (kvs.map (·.1)).Nodup
  sound : ∀ kv ∈ kvs, ∃ i, i < 7 ∧ kv.1 = nm i ∧ H i ≠ none ∧ OctV (H i) kv.2
  full : ∀ i, i < 7 → H i ≠ none → ∃ v, (nm i, v) ∈ kvs
theorem nm_inj : ∀ {i j : Nat}, i < 7 → j < 7 → nm i = nm j → i = j := by
  intro i j hi hj h
  have : ∀ i : Fin 7, ∀ j : Fin 7, nm i = nm j → i = j := by decide
  exact congrArg Fin.val (this ⟨i, hi⟩ ⟨j, hj⟩ h)
theorem valueAt_mem {kvs : List (List UInt8 × Value)} {k : List UInt8} {v : Value} (h : valueAt kvs k = some v) : (k, v) ∈ kvs := by
  unfold valueAt at h
  obtain ⟨kv, hk, rfl⟩ := Option.map_eq_some_iff.mp h
  have h1 := List.find?_some hk
  have h2 := List.mem_of_find?_eq_some hk
  have : kv.1 = k := by simpa using h1
  subst this; exact h2
theorem mem_valueAt {kvs : List (List UInt8 × Value)} {k : List UInt8} {v : Value} (hn : (kvs.map (·.1)).Nodup) (h : (k, v) ∈ kvs) : valueAt kvs k = some v := by
  obtain ⟨i, hi, e⟩ := List.mem_iff_getElem.mp h
  exact valueAt_of_get hn (i := i) (by rw [List.getElem?_eq_getElem hi, e])
theorem valueAt_none {kvs : List (List UInt8 × Value)} {k : List UInt8} (h : k ∉ kvs.map (·.1)) : valueAt kvs k = none := by
  cases e : valueAt kvs k with
  | none => rfl
  | some v => exact absurd (List.mem_map.mpr ⟨_, valueAt_mem e, rfl⟩) h
theorem RefsKV.at_ {kvs : List (List UInt8 × Value)} {H : Nat → Cell} (R : RefsKV kvs H) {i : Nat} (hi : i < 7) : OctV (H i) ((valueAt kvs (nm i)).getD .none) ∧ ((valueAt kvs (nm i)).isSome = (H i).isSome) := by
  cases hH : H i with
  | none =>
    have : valueAt kvs (nm i) = none := by
      cases e : valueAt kvs (nm i) with
      | none => rfl
      | some v =>
        obtain ⟨j, hj, e1, e2, _⟩ := R.sound _ (valueAt_mem e)
        have := nm_inj hi hj e1
        subst this
        exact absurd hH e2
    rw [this]; exact ⟨rfl, rfl⟩
  | some x =>
    obtain ⟨v, hv⟩ := R.full i hi (by rw [hH]; intro h; cases h)
    have e := mem_valueAt R.nodup hv
    obtain ⟨j, hj, e1, _, e3⟩ := R.sound _ hv
    have := nm_inj hi hj e1
    subst this
    rw [e, ← hH]
    exact ⟨e3, by rw [hH]; rfl⟩
theorem RefsKV.some_ {kvs : List (List UInt8 × Value)} {H : Nat → Cell} (R : RefsKV kvs H) {i : Nat} (hi : i < 7) {x : Sum Nat Nat} (hx : H i = some x) : ∃ t, valueAt kvs (nm i) = some (.bytes (oct x).toArray t) := by
  have := R.at_ hi
  rw [hx] at this
  obtain ⟨⟨t, h1⟩, h2⟩ := this
  cases e : valueAt kvs (nm i) with
  | none => rw [e] at h2; cases h2
  | some v => rw [e] at h1; exact ⟨t, congrArg some h1⟩
theorem RefsKV.none_ {kvs : List (List UInt8 × Value)} {H : Nat → Cell} (R : RefsKV kvs H) {i : Nat} (hi : i < 7) (hx : H i = none) : valueAt kvs (nm i) = none := by
  have := (R.at_ hi).2
  rw [hx] at this
  cases e : valueAt kvs (nm i) with
  | none => rfl
  | some v => rw [e] at this; cases this
theorem RefsKV.other {kvs : List (List UInt8 × Value)} {H : Nat → Cell} (R : RefsKV kvs H) {k : List UInt8} (hk : ∀ i, i < 7 → k ≠ nm i) : valueAt kvs k = none := by
  refine valueAt_none fun hm => ?_
  obtain ⟨kv, h1, rfl⟩ := List.mem_map.mp hm
  obtain ⟨i, hi, e, _⟩ := R.sound _ h1
  exact hk i hi e
def setH (H : Nat → Cell) (i : Nat) (c : Cell) : Nat → Cell := fun j => if j = i then c else H j
theorem RefsKV.stored {kvs : List (List UInt8 × Value)} {H : Nat → Cell} (R : RefsKV kvs H) {i : Nat} (hi : i < 7) {x : Sum Nat Nat} (hx : CellOk (some x)) (t : Tok) :
    RefsKV (stored kvs (nm i) (.bytes (oct x).toArray t)) (setH H i (some x)) := by
  refine ⟨fun j hj => ?_, ?_, ?_, ?_⟩
  · unfold setH; split
    · exact hx
    · exact R.ok j hj
  · unfold PySem.stored
    split
    · rw [keys_map_store]; exact R.nodup
    · rename_i h
      rw [List.map_append, List.nodup_append]
      refine ⟨R.nodup, by simp, ?_⟩
      intro a ha b hb e
      simp only [List.map_cons, List.map_nil, List.mem_singleton] at hb
      obtain ⟨kv, hkv, rfl⟩ := List.mem_map.mp ha
      exact h (List.any_eq_true.mpr ⟨kv, hkv, decide_eq_true (e.trans hb)⟩)
  · intro kv hkv
    unfold PySem.stored at hkv
    split at hkv
    · obtain ⟨kv', h1, rfl⟩ := List.mem_map.mp hkv
      obtain ⟨j, hj, e1, e2, e3⟩ := R.sound _ h1
      by_cases q : kv'.1 = nm i
      · refine ⟨i, hi, ?_, ?_, ?_⟩
        · rw [if_pos q]; exact q
        · simp [setH]
        · rw [if_pos q]; simp only [setH, if_true]; exact ⟨t, rfl⟩
      · have hne : j ≠ i := fun z => q (by rw [e1, z])
        refine ⟨j, hj, ?_, ?_, ?_⟩
        · rw [if_neg q]; exact e1
        · simp only [setH, if_neg hne]; exact e2
        · rw [if_neg q]; simp only [setH, if_neg hne]; exact e3
    · rename_i h
      rcases List.mem_append.mp hkv with h1 | h1
      · obtain ⟨j, hj, e1, e2, e3⟩ := R.sound _ h1
        have hne : j ≠ i := fun z => h (List.any_eq_true.mpr ⟨kv, h1, decide_eq_true (by rw [e1, z])⟩)
        exact ⟨j, hj, e1, by simp only [setH, if_neg hne]; exact e2, by simp only [setH, if_neg hne]; exact e3⟩
      · rw [List.mem_singleton.mp h1]
        exact ⟨i, hi, rfl, by simp [setH], by simp only [setH, if_true]; exact ⟨t, rfl⟩⟩
  · intro j hj hH
    unfold PySem.stored
    by_cases q : j = i
    · subst q
      split
      · rename_i h
        obtain ⟨kv, h1, h2⟩ := List.any_eq_true.mp h
        exact ⟨_, List.mem_map.mpr ⟨kv, h1, by rw [if_pos (of_decide_eq_true h2), of_decide_eq_true h2]⟩⟩
      · exact ⟨_, List.mem_append_right _ (.head _)⟩
    · have hH' : H j ≠ none := by simpa [setH, q] using hH
      obtain ⟨v, hv⟩ := R.full j hj hH'
      split
      · refine ⟨v, List.mem_map.mpr ⟨_, hv, ?_⟩⟩
        rw [if_neg (fun z => q (nm_inj hj hi z))]
      · exact ⟨v, List.mem_append_left _ hv⟩
theorem RefsKV.without {kvs : List (List UInt8 × Value)} {H : Nat → Cell} (R : RefsKV kvs H) {i : Nat} (hi : i < 7) : RefsKV (without kvs (nm i)) (setH H i none) := by
  refine ⟨fun j hj => ?_, nodup_without R.nodup _, ?_, ?_⟩
  · unfold setH; split
    · trivial
    · exact R.ok j hj
  · intro kv hkv
    unfold PySem.without at hkv
    obtain ⟨h1, h2⟩ := List.mem_filter.mp hkv
    obtain ⟨j, hj, e1, e2, e3⟩ := R.sound _ h1
    have hne : j ≠ i := fun z => by have := of_decide_eq_true h2; exact this (by rw [e1, z])
    exact ⟨j, hj, e1, by simp only [setH, if_neg hne]; exact e2, by simp only [setH, if_neg hne]; exact e3⟩
  · intro j hj hH
    by_cases q : j = i
    · exact absurd (by simp [setH, q]) hH
    · obtain ⟨v, hv⟩ := R.full j hj (by simpa [setH, q] using hH)
      exact ⟨v, List.mem_filter.mpr ⟨hv, decide_eq_true fun z => q (nm_inj hj hi z)⟩⟩
theorem RefsKV.nil : RefsKV [] (fun _ => none) := ⟨fun _ _ => trivial, List.nodup_nil, (fun _ h => nomatch h), (fun _ _ h => absurd rfl h)⟩
theorem RefsKV.len {kvs : List (List UInt8 × Value)} {H : Nat → Cell} (R : RefsKV kvs H) : kvs.length ≤ 7 := by
  have h1 : ∀ k ∈ kvs.map (·.1), k ∈ (List.range 7).map nm := by
    intro k hk
    obtain ⟨kv, hkv, rfl⟩ := List.mem_map.mp hk
    obtain ⟨i, hi, e, _⟩ := R.sound _ hkv
    exact List.mem_map.mpr ⟨i, List.mem_range.mpr hi, e.symm⟩
  have := R.nodup.length_le_of_subset (l₂ := (List.range 7).map nm) h1
  simpa using this
theorem room_at {x dp C k : Nat} (h : dp + C < recursionLimit) (e : x = dp + k) (hk : Nat.ble k C = true) : x < recursionLimit := by
  subst e; exact Nat.lt_of_le_of_lt (Nat.add_le_add_left (Nat.le_of_ble_eq_true hk) dp) h
theorem unit_at {x un C k : Nat} (h : un + C < cLine) (e : x = un + k) (hk : Nat.ble k C = true) : x < cLine := by
  subst e; exact Nat.lt_of_le_of_lt (Nat.add_le_add_left (Nat.le_of_ble_eq_true hk) un) h
def frm (ps : List Str) (vs : List Value) : Str → Option Value := fun y => (ps.zip vs).reverse.lookup y
theorem tok_any {α : Type} {M : Model} {A : Around} {c : Sem α} {Q : α → Shared → Prop} {E : Value → Shared → Prop} {h : Heap} {g : Array GenState} {d : Drawn} {t : Nat} {o : OsState} (k : ∀ t, wpAny M A c Q E ⟨h, g, d, t, o⟩) : wpAny M A c Q E ⟨h, g, d, t, o⟩ := k t
section
variable {p : Program} {loose : List Str} {A A₀ : Around} {base h₀ g₀ : Heap} {L : Addr} {m : Str → Option Value} {s : Shared} {news : List (Addr × Obj)} {K : Frag} {mean : ExcName → Option Value} {mg mb : Str → Option Value} {prog : Program} {w : World}
    {env : Env} {outer : List Env} {R : Result → Shared → Prop} {name qual : Str} {params : Arguments} {body : List Stmt} {scope : Scope} {dV kV doc pm cdv ct oc : Value} {an od : Option Addr} {osl : Array (Option Value)} {f : Addr} {vs : List Value}
theorem code_def2 {sh : Heap} {sg : Array GenState} {sd : Drawn} {sk : Nat} {so : OsState}
    (B : Below A₀ base outer h₀) (F : Fr h₀ L sh m) (X₀ : K.In h₀) (N : News h₀ L sh news) (T : Top p loose mean mg mb h₀) (hA : A.frames = some (env :: outer)) (hf : env.frame = some L) (hke : env.scope.kind = .function)
    (ho : K.lookup f = some ⟨oc, od, .func (fnOf name qual params body scope dV kV doc pm an cdv ct), osl⟩) (hcd : codeIn K cdv qual = true) (hroom : A.depth < recursionLimit)
    (hbind : BindsTo ⟨sh, sg, sd, sk, so⟩ (fnOf name qual params body scope dV kV doc pm an cdv ct) ⟨vs, []⟩ ((params.args.map (·.arg)).zip vs)) (hloc : ∀ y ∈ (params.args.map (·.arg)).zip vs, scope.names.lookup y.1 = some .local)
    (h : ∀ g L' h₁ tk, let qk : Flow → Shared → Prop := fun fl s' => LeaveK h₀ L m g R (match fl with | .ret v => v | _ => .none) s'
      let ek : Value → Shared → Prop := fun e s' => wpAny (model prog w) (A.deeper (envOf qual scope L' f cdv)) (leaving (envOf qual scope L' f cdv) e) (fun _ s'' => R (.error e) s'') (fun e' s'' => R (.error e') s'') s'
      Fr h₀ L g m → Fr g L' h₁ (frm (params.args.map (·.arg)) vs) → News g L' h₁ news → Below A base (env :: outer) g → K.In g → Top p loose mean mg mb g →
      wpAny (model prog w) (A.deeper (envOf qual scope L' f cdv)) (execs body (envOf qual scope L' f cdv))
        qk ek
        ⟨h₁, sg, sd, tk, so⟩)
    (hco : scope.isCoroutine = false) (hgen : scope.isGenerator = false) (hk : scope.kind = .function)
    (hcell : ∀ x ∈ scope.names, x.2 ≠ .cell) : codeAny (model prog w) A (.call (.ref f) ⟨vs, []⟩) R ⟨sh, sg, sd, sk, so⟩ :=
  code_def B F X₀ N T hA hf hke ho hcd hroom hbind hloc (fun g L' h₁ => h g L' h₁ _) hco hgen hk hcell
end
section
variable {M : Model} {A : Around} {E : Value → Shared → Prop} {s : Shared} {h₀ : Heap} {L : Addr} {m : Str → Option Value} {news : List (Addr × Obj)} {x : Str} {v : Value} {vs : List Value} {cn : Str} {cs : Scope} {ccd : Value} {a : Addr} {cl : List (Str × Addr)}
@[reducible] def upm (m : Str → Option Value) (x : Str) (v : Value) : Str → Option Value := fun y => if y = x then some v else m y
theorem storeX_P {sh : Heap} {sg : Array GenState} {sd : Drawn} {sk : Nat} {so : OsState} {Q : Unit → Shared → Prop} (F : Fr h₀ L sh m) (N : News h₀ L sh news)
    (h : ∀ h' tk, let q := upm m x v; Fr h₀ L h' q → News h₀ L h' news → Q () ⟨h', sg, sd, tk, so⟩)
    (g : (cs.kind == .function && (cs.names.lookup x == some .local)) = true) : wpAny M A (storeName (envX cn cs L a ccd cl) x v) Q E ⟨sh, sg, sd, sk, so⟩ :=
  storeX_L F N (fun h' F' N' => h h' _ F' N') (eq_of_beq (Bool.and_eq_true_iff.mp g).1) (eq_of_beq (Bool.and_eq_true_iff.mp g).2)
theorem newTuple_P {sh : Heap} {sg : Array GenState} {sd : Drawn} {sk : Nat} {so : OsState} {Q : Value → Shared → Prop} (F : Fr h₀ L sh m) (N : News h₀ L sh news)
    (h : ∀ D h', let q := (D, ({ cls := .type "tuple", data := .seq vs.toArray } : Obj)) :: news; Fr h₀ L h' m → News h₀ L h' q → Q (.ref D) ⟨h', sg, sd, sk, so⟩) (hz : vs.length ≤ sizeLine) : wpAny M A (newTuple vs) Q E ⟨sh, sg, sd, sk, so⟩ :=
  kup_newTuple F N (fun D h' F' N' _ => h D h' F' N') hz
theorem newList_P {sh : Heap} {sg : Array GenState} {sd : Drawn} {sk : Nat} {so : OsState} {Q : Value → Shared → Prop} (F : Fr h₀ L sh m) (N : News h₀ L sh news)
    (h : ∀ D h', let q := (D, W.listOf vs.toArray 0) :: news; Fr h₀ L h' m → News h₀ L h' q → Q (.ref D) ⟨h', sg, sd, sk, so⟩) (hz : vs.length ≤ sizeLine) : wpAny M A (newList vs) Q E ⟨sh, sg, sd, sk, so⟩ :=
  newList_K F N (fun D h' F' N' _ => h D h' F' N') hz
end
section
/-! continuations as applied names: no binder, so a term met again is the same term -/
@[reducible] def qx (M : Model) (A : Around) (E : Value → Shared → Prop) (env : Env) (rest : List Stmt) (Q : Flow → Shared → Prop) (f : Flow) (s : Shared) : Prop :=
  Flow.casesOn f (wpAny M A (execs rest env) Q E s) (Q .brk s) (Q .cont s) (fun v => Q (.ret v) s)
@[reducible] def qst (M : Model) (A : Around) (E : Value → Shared → Prop) (env : Env) (x : Str) (Q : Flow → Shared → Prop) (v : Value) (s : Shared) : Prop :=
  wpAny M A (storeName env x v) (fun _ => Q .next) E s
@[reducible] def qif (M : Model) (A : Around) (E : Value → Shared → Prop) (env : Env) (body orelse : List Stmt) (Q : Flow → Shared → Prop) (b : Bool) (s : Shared) : Prop :=
  if b = true then wpAny M A (execs body env) Q E s else wpAny M A (execs orelse env) Q E s
@[reducible] def qtr (M : Model) (A : Around) (E : Value → Shared → Prop) (Q : Bool → Shared → Prop) (v : Value) (s : Shared) : Prop := wpAny M A (truthy v) Q E s
@[reducible] def qcp (M : Model) (A : Around) (E : Value → Shared → Prop) (op : CmpOp) (a : Value) (Q : Value → Shared → Prop) (b : Value) (s : Shared) : Prop := wpAny M A (compareOp op a b) Q E s
@[reducible] def qcl (M : Model) (A : Around) (E : Value → Shared → Prop) (env : Env) (op : CmpOp) (r : Expr) (Q : Value → Shared → Prop) (a : Value) (s : Shared) : Prop := wpAny M A (eval r env) (qcp M A E op a Q) E s
@[reducible] def qbo (M : Model) (A : Around) (E : Value → Shared → Prop) (op : Operator) (a : Value) (Q : Value → Shared → Prop) (b : Value) (s : Shared) : Prop := wpAny M A (binaryOp op a b) Q E s
@[reducible] def qbl (M : Model) (A : Around) (E : Value → Shared → Prop) (env : Env) (op : Operator) (r : Expr) (Q : Value → Shared → Prop) (a : Value) (s : Shared) : Prop := wpAny M A (eval r env) (qbo M A E op a Q) E s
@[reducible] def qsu (M : Model) (A : Around) (E : Value → Shared → Prop) (value slice : Expr) (o : Value) (Q : Value → Shared → Prop) (i : Value) (s : Shared) : Prop := wpAny M A (subscriptTail value slice o i) Q E s
@[reducible] def qsv (M : Model) (A : Around) (E : Value → Shared → Prop) (env : Env) (value slice : Expr) (Q : Value → Shared → Prop) (o : Value) (s : Shared) : Prop := wpAny M A (eval slice env) (qsu M A E value slice o Q) E s
@[reducible] def qat (M : Model) (A : Around) (E : Value → Shared → Prop) (attr : Str) (Q : Value → Shared → Prop) (o : Value) (s : Shared) : Prop := wpAny M A (getAttr o attr true) Q E s
@[reducible] def qcw (M : Model) (A : Around) (E : Value → Shared → Prop) (env : Env) (pos : Pos) (args : List Expr) (Q : Value → Shared → Prop) (f : Value) (s : Shared) : Prop := wpAny M A (callWith pos f [] (backTo pos (starEach args env)) []) Q E s
@[reducible] def qmw (M : Model) (A : Around) (E : Value → Shared → Prop) (env : Env) (pos : Pos) (args : List Expr) (Q : Value → Shared → Prop) (fx : Value × List Value) (s : Shared) : Prop := Prod.casesOn fx fun f first => wpAny M A (callWith pos f first (backTo pos (starEach args env)) []) Q E s
@[reducible] def qme (M : Model) (A : Around) (E : Value → Shared → Prop) (env : Env) (name : Str) (pos : Pos) (args : List Expr) (pl : Sem Bool) (Q : Value → Shared → Prop) (o : Value) (s : Shared) : Prop := wpAny M A (getMethod o name pl) (qmw M A E env pos args Q) E s
@[reducible] def qco (v : Value) (Q : List Value → Shared → Prop) (vs : List Value) (s : Shared) : Prop := Q (v :: vs) s
@[reducible] def qar (M : Model) (A : Around) (E : Value → Shared → Prop) (env : Env) (rest : List Expr) (pos : Pos) (Q : List Value → Shared → Prop) (v : Value) (s : Shared) : Prop := wpAny M A (spliced (backTo pos (starEach rest env))) (qco v Q) E s
@[reducible] def qcK (K : Frag) (M : Model) (A : Around) (E : Value → Shared → Prop) (f : Value) (first : List Value) (Q : Value → Shared → Prop) (vs : List Value) (s : Shared) : Prop := K.In s.heap ∧ wpAny M A (call f (first ++ vs)) Q E s
@[reducible] def qcB (M : Model) (A : Around) (E : Value → Shared → Prop) (f : Value) (Q : Value → Shared → Prop) (vs : List Value) (s : Shared) : Prop := wpAny M A (call f vs) Q E s
@[reducible] def qcM (M : Model) (A : Around) (E : Value → Shared → Prop) (f x : Value) (Q : Value → Shared → Prop) (vs : List Value) (s : Shared) : Prop := wpAny M A (call f (x :: vs)) Q E s
@[reducible] def qtu (M : Model) (A : Around) (E : Value → Shared → Prop) (Q : Value → Shared → Prop) (vs : List Value) (s : Shared) : Prop := wpAny M A (newTuple vs) Q E s
@[reducible] def qli (M : Model) (A : Around) (E : Value → Shared → Prop) (Q : Value → Shared → Prop) (vs : List Value) (s : Shared) : Prop := wpAny M A (newList vs) Q E s
def plainTest : Expr → Bool
  | .UnaryOp .Not _ _ => false
  | .BoolOp _ _ _ => false
  | .IfExp _ _ _ _ => false
  | .Compare _ _ _ _ => false
  | _ => true
theorem plainTest_eq {e : Expr} {env : Env} {whole : Sem Value} (g : plainTest e = true) : isTrue e env whole = (do let v ← whole; standAt e.pos; holding [v] (truthy v)) := by
  cases e
  case UnaryOp op _ _ => cases op <;> first | rfl | (exact absurd g Bool.false_ne_true)
  all_goals first | rfl | (exact absurd g Bool.false_ne_true)
def plainArg : Expr → Bool
  | .Starred _ _ => false
  | _ => true
theorem plainArg_eq {e : Expr} {rest : List Expr} {env : Env} (g : plainArg e = true) : starEach (e :: rest) env = (false, eval e env) :: starEach rest env := by
  cases e <;> first | rfl | (exact absurd g Bool.false_ne_true)
theorem plainArgs_eq {rest : List Expr} {env : Env} {pos : Pos} (g : rest.all plainArg = true) : (backTo pos (starEach rest env)).any (·.1) = false := by
  have : ∀ rest : List Expr, rest.all plainArg = true → ∀ x ∈ starEach rest env, x.1 = false := by
    intro rest
    induction rest with
    | nil => intro _ x h; cases h
    | cons e r ih =>
      intro g x h
      obtain ⟨g1, g2⟩ := Bool.and_eq_true_iff.mp (show (plainArg e && r.all plainArg) = true from g)
      rw [plainArg_eq g1] at h
      cases h with
      | head => rfl
      | tail _ h => exact ih g2 x h
  have b := this rest g
  refine List.any_eq_false.mpr fun x hx => ?_
  unfold backTo at hx
  obtain ⟨y, hy, rfl⟩ := List.mem_map.mp hx
  show ¬ y.1 = true
  rw [b y hy]
  exact Bool.false_ne_true
def plainVal : Expr → Bool
  | .ListComp _ _ _ _ => false
  | .SetComp _ _ _ _ => false
  | .DictComp _ _ _ _ _ => false
  | _ => true
theorem plainVal_eq {e : Expr} {t : Option Expr} {line : Nat} {env : Env} (g : plainVal e = true) : swapsWith e t line env = pure false := by
  cases e <;> first | rfl | (exact absurd g Bool.false_ne_true)
def locIn (cs : Scope) (x : Str) : Bool := cs.kind == .function && (cs.names.lookup x == some .local && !(x == ("__debug__" : Str)))
variable {M : Model} {A : Around} {E : Value → Shared → Prop} {s : Shared} {env : Env} {K : Frag}
theorem x_cons {st : Stmt} {rest : List Stmt} {Q : Flow → Shared → Prop} (h : wpAny M A (exec st env) (qx M A E env rest Q) E s) : wpAny M A (execs (st :: rest) env) Q E s :=
  wpAny_execs_cons (wpAny_mono h (fun f s h => by cases f <;> exact h) (fun _ _ h => h))
theorem x_asg {x : Str} {pos' pos : Pos} {value : Expr} {Q : Flow → Shared → Prop} (h : wpAny M A (eval value env) (qst M A E env x Q) E s) (g : plainVal value = true := by rfl) :
    wpAny M A (exec (.Assign [.Name x pos'] value pos) env) Q E s := wpAny_Assign_Name h (plainVal_eq g)
theorem x_if {test : Expr} {body orelse : List Stmt} {pos : Pos} {Q : Flow → Shared → Prop} (h : wpAny M A (isTrue test env (eval test env)) (qif M A E env body orelse Q) E s) : wpAny M A (exec (.If test body orelse pos) env) Q E s := wpAny_If h
theorem x_ift {body orelse : List Stmt} {Q : Flow → Shared → Prop} (h : wpAny M A (execs body env) Q E s) : qif M A E env body orelse Q true s := h
theorem x_ife {body orelse : List Stmt} {Q : Flow → Shared → Prop} (h : wpAny M A (execs orelse env) Q E s) : qif M A E env body orelse Q false s := h
theorem x_iff {body orelse : List Stmt} {Q : Flow → Shared → Prop} {b : Bool} (h : if b = true then wpAny M A (execs body env) Q E s else wpAny M A (execs orelse env) Q E s) : qif M A E env body orelse Q b s := h
theorem x_cmt {l r : Expr} {op : CmpOp} {pos : Pos} {whole : Sem Value} {Q : Bool → Shared → Prop} (h : wpAny M A (eval l env) (qcl M A E env op r (qtr M A E Q)) E s) (g : behindInMarks op r = false := by with_unfolding_all rfl) :
    wpAny M A (isTrue (.Compare l [op] [r] pos) env whole) Q E s := wpAny_isTrue_Compare1 h g
theorem x_cmp {l r : Expr} {op : CmpOp} {pos : Pos} {Q : Value → Shared → Prop} (h : wpAny M A (eval l env) (qcl M A E env op r Q) E s) (g : behindInMarks op r = false := by with_unfolding_all rfl) :
    wpAny M A (eval (.Compare l [op] [r] pos) env) Q E s := wpAny_Compare1 h g
theorem x_bin {l r : Expr} {op : Operator} {pos : Pos} {Q : Value → Shared → Prop} (h : wpAny M A (eval l env) (qbl M A E env op r Q) E s) : wpAny M A (eval (.BinOp l op r pos) env) Q E s := wpAny_BinOp h
theorem x_sub {value slice : Expr} {pos : Pos} {Q : Value → Shared → Prop} (h : wpAny M A (eval value env) (qsv M A E env value slice Q) E s) : wpAny M A (eval (.Subscript value slice pos) env) Q E s := Subscript_ h
theorem x_tru {e : Expr} {whole : Sem Value} {Q : Bool → Shared → Prop} (h : wpAny M A whole (qtr M A E Q) E s) (g : plainTest e = true := by rfl) :
    wpAny M A (isTrue e env whole) Q E s := isTrue_plain h (plainTest_eq g)
theorem x_tup {elts : List Expr} {k : Nat} {pos : Pos} {Q : Value → Shared → Prop} (h : wpAny M A (spliced (backTo pos (starEach elts env))) (qtu M A E Q) E s) : wpAny M A (eval (.Tuple elts k pos) env) Q E s := Tuple_ h
theorem x_lst {elts : List Expr} {pos : Pos} {Q : Value → Shared → Prop} (h : wpAny M A (spliced (backTo pos (starEach elts env))) (qli M A E Q) E s) : wpAny M A (eval (.List elts pos) env) Q E s := List_ h
theorem x_arg {e : Expr} {rest : List Expr} {pos : Pos} {Q : List Value → Shared → Prop} (h : wpAny M A (eval e env) (qar M A E env rest pos Q) E s) (g : plainArg e = true := by rfl) :
    wpAny M A (spliced (backTo pos (starEach (e :: rest) env))) Q E s := args_cons h (plainArg_eq g)
theorem x_nam {h₀ : Heap} {L a : Addr} {m : Str → Option Value} {cn : Str} {cs : Scope} {ccd : Value} {cl : List (Str × Addr)} {x : Str} {pos : Pos} {v : Value} {Q : Value → Shared → Prop}
    (F : Fr h₀ L s.heap m) (hv : m x = some v) (h : Q v s) (g : locIn cs x = true := by rfl) : wpAny M A (eval (.Name x pos) (envX cn cs L a ccd cl)) Q E s := by
  obtain ⟨g1, g2⟩ := Bool.and_eq_true_iff.mp g
  obtain ⟨g2, g3⟩ := Bool.and_eq_true_iff.mp g2
  exact nameX_L F hv h (eq_of_beq g1) (eq_of_beq g2) (by simpa using g3)
theorem x_cal {func : Expr} {args : List Expr} {pos : Pos} {Q : Value → Shared → Prop} (h : wpAny M A (eval func env) (qcw M A E env pos args Q) E s)
    (g : eval (.Call func args [] pos) env = (do callWith pos (← eval func env) [] (backTo pos (starEach args env)) (backToKw pos (keywordEach [] env))) := by rfl) : wpAny M A (eval (.Call func args [] pos) env) Q E s := Call_ h g
theorem x_mca {o : Expr} {name : Str} {apos pos : Pos} {args : List Expr} {pl : Sem Bool} {Q : Value → Shared → Prop} (h : wpAny M A (eval o env) (qme M A E env name pos args pl Q) E s)
    (g : eval (.Call (.Attribute o name apos) args [] pos) env = (do
        let ov ← eval o env
        standAt apos.atName
        let (f, first) ← holding [ov] (getMethod ov name pl)
        callWith pos f first (backTo pos (starEach args env)) []) := by rfl) : wpAny M A (eval (.Call (.Attribute o name apos) args [] pos) env) Q E s := MethodCall_ h g
theorem x_atn {x attr : Str} {xp pos : Pos} {Q : Value → Shared → Prop} (h : wpAny M A (eval (.Name x xp) env) (qat M A E attr Q) E s)
    (g : eval (.Attribute (.Name x xp) attr pos) env = (do
        let o ← eval (.Name x xp) env
        standAt pos.atName
        let r ← holding [o] (getAttr o attr true)
        letTemporaryGo (.Name x xp) o r
        pure r) := by rfl) : wpAny M A (eval (.Attribute (.Name x xp) attr pos) env) Q E s := Attribute_Name_ h g
theorem x_cwK {pos : Pos} {f : Value} {first : List Value} {Q : Value → Shared → Prop} {h₀ : Heap} {e : Expr} {rest : List Expr} (X : K.In h₀) (hk : keepIn K f = true)
    (h : wpAny M A (spliced (backTo pos (starEach (e :: rest) env))) (qcK K M A E f first Q) E s) (g : plainArg e = true := by rfl) (g' : rest.all plainArg = true := by rfl) :
    wpAny M A (callWith pos f first (backTo pos (starEach (e :: rest) env)) []) Q E s := callWith_K X hk h (plainArg_eq g) (plainArgs_eq g')
theorem x_cwB {pos : Pos} {id : String} {Q : Value → Shared → Prop} {e : Expr} {rest : List Expr}
    (h : wpAny M A (spliced (backTo pos (starEach (e :: rest) env))) (qcB M A E (.builtin id) Q) E s) (g : plainArg e = true := by rfl) (g' : rest.all plainArg = true := by rfl) :
    wpAny M A (callWith pos (.builtin id) [] (backTo pos (starEach (e :: rest) env)) []) Q E s := PyProof.Rows.callWith_builtin1 h (plainArg_eq g) (plainArgs_eq g')
theorem x_cwM {pos : Pos} {id : String} {x : Value} {Q : Value → Shared → Prop} {e : Expr} {rest : List Expr}
    (h : wpAny M A (spliced (backTo pos (starEach (e :: rest) env))) (qcM M A E (.builtin id) x Q) E s) (g : plainArg e = true := by rfl) (g' : rest.all plainArg = true := by rfl) :
    wpAny M A (callWith pos (.builtin id) [x] (backTo pos (starEach (e :: rest) env)) []) Q E s := PyProof.Rows.callWith_method1 h (plainArg_eq g) (plainArgs_eq g')
theorem x_and0 {f : Value} {Q : Value → Shared → Prop} {vs : List Value} (X : K.In s.heap) (h : wpAny M A (call f vs) Q E s) : qcK K M A E f [] Q vs s := ⟨X, h⟩
theorem x_and1 {f x : Value} {Q : Value → Shared → Prop} {vs : List Value} (X : K.In s.heap) (h : wpAny M A (call f (x :: vs)) Q E s) : qcK K M A E f [x] Q vs s := ⟨X, h⟩
end
section
variable {α : Type} {M : Model} {A : Around} {E : Value → Shared → Prop} {env : Env} {K : Frag} {h : Heap} {g : Array GenState} {d : Drawn} {t : Nat} {o : OsState}
theorem tok_add {c : Sem α} {Q : α → Shared → Prop} {n : Nat} (k : ∀ t, wpAny M A c Q E ⟨h, g, d, t, o⟩) : wpAny M A c Q E ⟨h, g, d, t + n, o⟩ := k _
theorem x_int {i : Int} {k : Nat} {pos : Pos} {Q : Value → Shared → Prop} (q : Q (.int i t) ⟨h, g, d, t + 1, o⟩) : wpAny M A (eval (.Constant (.int i) k pos) env) Q E ⟨h, g, d, t, o⟩ := wpAny_Constant_int q
theorem x_str {x : Str} {k : Nat} {pos : Pos} {Q : Value → Shared → Prop} (q : Q (.str x t) ⟨h, g, d, t + 1, o⟩) : wpAny M A (eval (.Constant (.str x) k pos) env) Q E ⟨h, g, d, t, o⟩ := Constant_str q
theorem x_byt {x : List UInt8} {k : Nat} {pos : Pos} {Q : Value → Shared → Prop} (q : Q (.bytes x.toArray t) ⟨h, g, d, t + 1, o⟩) : wpAny M A (eval (.Constant (.bytes x) k pos) env) Q E ⟨h, g, d, t, o⟩ := Constant_bytes q
theorem x_own {prog : Program} {w : World} {x C L : Addr} {h₀ : Heap} {m : Str → Option Value} {ox : Obj} {es : List DictEntry} {n : Nat} {name : Str} {v : Value} {expr : Bool} {Q : Value → Shared → Prop} {attr : Option Value}
    (F : Fr h₀ L h m) (X : K.In h₀) (I : InstAt h x ox C (some (dictOf es n))) (p : plainGet K C name = true) (p2 : hasDictIn K C = true) (f : findIn K (.ref C) name = some attr) (ng : noGet K attr = true) (gl : getL name es = some (some v)) (hv : handedIn v = true)
    (q : Q v ⟨h, g, d, t + 1, o⟩) : wpAny (model prog w) A (getAttr (.ref x) name expr) Q E ⟨h, g, d, t, o⟩ :=
  get_own F X I p p2 f ng gl hv q
end
section
@[reducible] def qrs (Q E : Value → Shared → Prop) (r : Result) (s : Shared) : Prop := Except.casesOn r (fun e => E e s) (fun fl => Flow.casesOn fl False False False (fun v => Q v s))
@[reducible] def qlv (h₀ : Heap) (L : Addr) (m : Str → Option Value) (g : Heap) (R : Result → Shared → Prop) (fl : Flow) (s : Shared) : Prop :=
  Flow.casesOn fl (LeaveK h₀ L m g R .none s) (LeaveK h₀ L m g R .none s) (LeaveK h₀ L m g R .none s) (fun v => LeaveK h₀ L m g R v s)
@[reducible] def qle (M : Model) (A : Around) (env : Env) (R : Result → Shared → Prop) (e : Value) (s : Shared) : Prop := wpAny M A (leaving env e) (fun _ s'' => R (.error e) s'') (fun e' s'' => R (.error e') s'') s
theorem x_call {M : Model} {A : Around} {E Q : Value → Shared → Prop} {s : Shared} {f : Value} {pos : List Value} {kw : List (Str × Value)} (h : codeAny M A (.call f ⟨pos, kw⟩) (qrs Q E) s) : wpAny M A (call f pos kw) Q E s :=
  wpAny_call (codeAny_mono h fun r s h => by
    cases r with
    | error e => exact h
    | ok fl => cases fl <;> exact h)
theorem x_lev {h₀ g : Heap} {L L' : Addr} {m m' : Str → Option Value} {news' : List (Addr × Obj)} {Q E : Value → Shared → Prop} {v : Value} {h : Heap} {sg : Array GenState} {sd : Drawn} {sk : Nat} {so : OsState} (F' : Fr g L' h m') (N' : News g L' h news')
    (k : Fr h₀ L h m → News h₀ L h news' → Q v ⟨h, sg, sd, sk, so⟩) : qlv h₀ L m g (qrs Q E) (.ret v) ⟨h, sg, sd, sk, so⟩ := leaveK_ F' N' k
theorem x_len {h₀ g : Heap} {L L' : Addr} {m m' : Str → Option Value} {news' : List (Addr × Obj)} {Q E : Value → Shared → Prop} {h : Heap} {sg : Array GenState} {sd : Drawn} {sk : Nat} {so : OsState} (F' : Fr g L' h m') (N' : News g L' h news')
    (k : Fr h₀ L h m → News h₀ L h news' → Q .none ⟨h, sg, sd, sk, so⟩) : qlv h₀ L m g (qrs Q E) .next ⟨h, sg, sd, sk, so⟩ := leaveK_ F' N' k
theorem call3 {qual name : Str} {params : Arguments} {body : List Stmt} {scope : Scope} {dV kV doc pm cdv ct oc : Value} {an od : Option Addr} {osl : Array (Option Value)} {f : Addr} {p : Program} {loose : List Str} {prog : Program} {w : World} {K : Frag} {mean : ExcName → Option Value} {mg mb : Str → Option Value}
    {A A₀ : Around} {base : Heap} {env : Env} {outer : List Env} {h₀ : Heap} {L : Addr} {m : Str → Option Value} {news : List (Addr × Obj)} {sh : Heap} {sg : Array GenState} {sd : Drawn} {sk : Nat} {so : OsState} {Q E : Value → Shared → Prop} {vs : List Value}
    (B : Below A₀ base outer h₀) (F : Fr h₀ L sh m) (X₀ : K.In h₀) (N : News h₀ L sh news) (T : Top p loose mean mg mb h₀) (hA : A.frames = some (env :: outer)) (hf : env.frame = some L) (hke : env.scope.kind = .function)
    (ho : K.lookup f = some ⟨oc, od, .func (fnOf name qual params body scope dV kV doc pm an cdv ct), osl⟩) (hcd : codeIn K cdv qual = true) (hroom : A.depth < recursionLimit)
    (hbind : bindArgs (fnOf name qual params body scope dV kV doc pm an cdv ct) ⟨vs, []⟩ = pure ((params.args.map (·.arg)).zip vs)) (hloc : (((params.args.map (·.arg)).zip vs).all fun x => decide (scope.names.lookup x.1 = some .local)) = true)
    (h : ∀ g L' h₁ tk, let qk := qlv h₀ L m g (qrs Q E); let ek := qle (model prog w) (A.deeper (envOf qual scope L' f cdv)) (envOf qual scope L' f cdv) (qrs Q E)
      Fr h₀ L g m → Fr g L' h₁ (frm (params.args.map (·.arg)) vs) → News g L' h₁ news → Below A base (env :: outer) g → K.In g → Top p loose mean mg mb g →
      wpAny (model prog w) (A.deeper (envOf qual scope L' f cdv)) (execs body (envOf qual scope L' f cdv)) qk ek ⟨h₁, sg, sd, tk, so⟩)
    (hk : (scope.kind == .function && (scope.isCoroutine == false && scope.isGenerator == false)) = true)
    (hcell : ∀ x ∈ scope.names, x.2 ≠ .cell) : wpAny (model prog w) A (call (.ref f) vs) Q E ⟨sh, sg, sd, sk, so⟩ := by
  obtain ⟨k1, k2⟩ := Bool.and_eq_true_iff.mp hk
  obtain ⟨k2, k3⟩ := Bool.and_eq_true_iff.mp k2
  refine x_call (code_def2 B F X₀ N T hA hf hke ho hcd hroom (BindsTo.of_eq hbind) (locs hloc) (fun g L' h₁ tk => ?_) (eq_of_beq k2) (eq_of_beq k3) (eq_of_beq k1) hcell)
  intro qk ek FG F' N' B' X' T'
  exact wpAny_mono (h g L' h₁ tk FG F' N' B' X' T') (fun fl s h => by cases fl <;> exact h) (fun _ _ h => h)
end
def gloIn (cs : Scope) (x : Str) : Bool := cs.kind == .function && (cs.names.lookup x == some .globalImplicit && !(x == ("__debug__" : Str)))
section
variable {M : Model} {A : Around} {E : Value → Shared → Prop} {s : Shared} {K : Frag} {h₀ : Heap} {L a : Addr} {m mg mb : Str → Option Value} {mean : ExcName → Option Value} {p : Program} {loose : List Str} {cn : Str} {cs : Scope} {ccd : Value} {cl : List (Str × Addr)} {x : Str} {pos : Pos} {v : Value} {Q : Value → Shared → Prop}
theorem x_glk (F : Fr h₀ L s.heap m) (X : K.In h₀) (T : Top p loose mean mg mb h₀) (e : nsIn K mainGlobals x = some (some v)) (h : Q v s) (g : gloIn cs x = true := by rfl) : wpAny M A (eval (.Name x pos) (envX cn cs L a ccd cl)) Q E s := by
  obtain ⟨g1, g2⟩ := Bool.and_eq_true_iff.mp g
  obtain ⟨g2, g3⟩ := Bool.and_eq_true_iff.mp g2
  exact nameX_K F X (topRead_of T) e h (eq_of_beq g1) (eq_of_beq g2) (by simpa using g3)
theorem x_glb (F : Fr h₀ L s.heap m) (X : K.In h₀) (T : Top p loose mean mg mb h₀) (e : nsIn K mainGlobals x = some none) (hv : bootBuiltins x = some v) (h : Q v s) (g : (gloIn cs x && !(x == ("__name__" : Str))) = true := by rfl) : wpAny M A (eval (.Name x pos) (envX cn cs L a ccd cl)) Q E s := by
  obtain ⟨g, g0⟩ := Bool.and_eq_true_iff.mp g
  obtain ⟨g1, g2⟩ := Bool.and_eq_true_iff.mp g
  obtain ⟨g2, g3⟩ := Bool.and_eq_true_iff.mp g2
  exact nameX_B F X (topRead_of T) e hv (by simpa using g0) h (eq_of_beq g1) (eq_of_beq g2) (by simpa using g3)
end
section
variable {M : Model} {A : Around} {E : Value → Shared → Prop} {h₀ : Heap} {L : Addr} {m : Str → Option Value} {news : List (Addr × Obj)} {vs : List Value} {sh : Heap} {sg : Array GenState} {sd : Drawn} {sk : Nat} {so : OsState} {Q : Value → Shared → Prop}
theorem newTuple_Q (F : Fr h₀ L sh m) (N : News h₀ L sh news)
    (h : ∀ D h', Fr h₀ L h' m → News h₀ L h' ((D, ({ cls := .type "tuple", data := .seq vs.toArray } : Obj)) :: news) → (∀ p ∈ news, p.1 < D) → Q (.ref D) ⟨h', sg, sd, sk, so⟩) (hz : vs.length ≤ sizeLine) : wpAny M A (newTuple vs) Q E ⟨sh, sg, sd, sk, so⟩ := kup_newTuple F N h hz
theorem newList_Q (F : Fr h₀ L sh m) (N : News h₀ L sh news)
    (h : ∀ D h', Fr h₀ L h' m → News h₀ L h' ((D, W.listOf vs.toArray 0) :: news) → (∀ p ∈ news, p.1 < D) → Q (.ref D) ⟨h', sg, sd, sk, so⟩) (hz : vs.length ≤ sizeLine) : wpAny M A (newList vs) Q E ⟨sh, sg, sd, sk, so⟩ := newList_K F N h hz
end
section
variable {M : Model} {A : Around} {E : Value → Shared → Prop} {s : Shared} {env : Env} {K : Frag}
@[reducible] def qs3 (Q : Value → Shared → Prop) (l u st : Value) (s : Shared) : Prop := Q (.ref s.heap.objs.size) { s with heap := s.heap.push { cls := .type "slice", data := .fields #[l, u, st] } }
@[reducible] def qs2 (M : Model) (A : Around) (E : Value → Shared → Prop) (env : Env) (step : Option Expr) (Q : Value → Shared → Prop) (l u : Value) (s : Shared) : Prop := wpAny M A (evalPart step env) (qs3 Q l u) E s
@[reducible] def qs1 (M : Model) (A : Around) (E : Value → Shared → Prop) (env : Env) (upper step : Option Expr) (Q : Value → Shared → Prop) (l : Value) (s : Shared) : Prop := wpAny M A (evalPart upper env) (qs2 M A E env step Q l) E s
theorem x_sli {lower upper step : Option Expr} {p : Pos} {Q : Value → Shared → Prop} (h : wpAny M A (evalPart lower env) (qs1 M A E env upper step Q) E s) : wpAny M A (eval (.Slice lower upper step p) env) Q E s := wpAny_Slice h
end
theorem pick_of {α : Type} {have_ want : List α} (idx : List Nat) (k : Nat) (e : idx.filterMap (have_[·]?) ++ have_.drop k = want) : ∀ p ∈ want, p ∈ have_ := fun p hp => by
  rw [← e] at hp
  rcases List.mem_append.mp hp with h | h
  · obtain ⟨i, _, hi⟩ := List.mem_filterMap.mp h
    exact List.mem_of_getElem? hi
  · exact List.mem_of_mem_drop h
section
variable {prog : Program} {w : World} {A : Around} {E : Value → Shared → Prop} {s : Shared} {h₀ : Heap} {L d : Addr} {m : Str → Option Value} {news : List (Addr × Obj)} {o : Obj} {kvs : List (List UInt8 × Value)}
theorem isDict_nil {K₁ K₂ : Type} [DecidableEq K₁] [DecidableEq K₂] {k₁ : KeyKind prog w K₁} {k₂ : KeyKind prog w K₂} {o : Obj} (h : o.IsDictOf k₁ []) : o.IsDictOf k₂ [] := by
  obtain ⟨es, ep, h1, h2, h3, h4, h5⟩ := h
  have h6 : es = #[] := by
    have := h4.length
    exact Array.eq_empty_of_size_eq_zero (by simpa using this)
  subst h6
  exact ⟨#[], ep, h1, h2, (fun e he => by simp at he), Pairs.nil, List.nodup_nil⟩
theorem dict_at {K : Type} [DecidableEq K] {knd : KeyKind prog w K} {kvs : List (K × Value)} (N : News h₀ L s.heap news) (hm : (d, o) ∈ news) (hO : o.IsDictOf knd kvs) : s.heap.DictOf knd d kvs := Heap.dictOf_iff.mpr ⟨o, (N _ hm).1, hO⟩
theorem dict_meth {K : Type} [DecidableEq K] {knd : KeyKind prog w K} {kvs : List (K × Value)} {name : Str} {id : String} {pl : Sem Bool} {Q : Value × List Value → Shared → Prop} (slot : Slot "dict" name id) (hty : typeOf (.builtin id) = pure (.type "method_descriptor"))
    (N : News h₀ L s.heap news) (hm : (d, o) ∈ news) (hO : o.IsDictOf knd kvs) (h : Q (.builtin id, [.ref d]) s) : wpAny (model prog w) A (getMethod (.ref d) name pl) Q E s :=
  getMethod_builtin (dict_at N hm hO).typeIs PySem.F.plainAttrs_dict slot hty (dict_at N hm hO).mapOf.noDict h
theorem bk_is (b : Array UInt8) (t : Tok) : (bytesKind prog w).is b.toList (.bytes b t) = true := by simp [bytesKind, isBytes]
theorem dict_get2 {b : Array UInt8} {t : Tok} {dflt : Value} {r : Option Value} {Q : Value → Shared → Prop} (N : News h₀ L s.heap news) (hm : (d, o) ∈ news) (hO : o.IsDictOf (bytesKind prog w) kvs) (lo : (d == sysModules) = false)
    (hr : valueAt kvs b.toList = r) (h : Q (r.getD dflt) { s with toks := s.toks + 1 }) : wpAny (model prog w) A (call (.builtin "dict.get") [.ref d, .bytes b t, dflt]) Q E s :=
  call_meetsIn PySem.F.slot_dict_get (dict_at N hm hO).typeIs PySem.F.entry_dict_get (PySem.F.args_dict_get_3 _ _ _) (meets_dict_get_default (bytesKind prog w) d (bk_is b t) lo dflt) ⟨_, (dict_at N hm hO).mapOf, by rw [hr]; exact h⟩
theorem truthy_pos {b : Array UInt8} {t : Tok} {Q : Bool → Shared → Prop} (h1 : 0 < b.size) (h2 : b.size ≤ 1000) (h : ∀ tk, Q true { s with toks := tk }) : wpAny (model prog w) A (truthy (.bytes b t)) Q E s := by
  refine truthy_bytes (by omega) ?_
  have h0 : (b.size : Int) ≠ 0 := by omega
  rw [show ((b.size : Int) != 0) = true from by simpa using h0]
  exact h _
end
def MStop (P : Prop) : Prop := P
theorem stopM {P : Prop} (h : MStop P) : P := h
theorem oct_pos {x : Sum Nat Nat} (h : CellOk (some x)) : 0 < (oct x).toArray.size ∧ (oct x).toArray.size ≤ 1000 := by
  cases x with
  | inl j =>
    have : ∀ j : Fin 7, 0 < (oct (.inl j)).toArray.size ∧ (oct (.inl j)).toArray.size ≤ 1000 := by decide
    exact this ⟨j, h⟩
  | inr c =>
    have : ∀ c : Fin 8, 0 < (oct (.inr c)).toArray.size ∧ (oct (.inr c)).toArray.size ≤ 1000 := by decide +kernel
    exact this ⟨c, Nat.lt_succ_of_le h.2⟩
theorem fillK1 : hd.heap_1 = hd.heap_1 ∧ PySem.Challenge.rw_ai0010_01 = PySem.Challenge.rw_ai0010_01 := by
  k_fill
  exact ⟨rfl, rfl⟩
section
variable {dp un : Nat} {gd : Option (List Code)} {cn : Str} {cs : Scope} {a : Addr} {ccd : Value} {outer : List Env} {A₀ : Around} {base h₀ : Heap} {L : Addr} {m : Str → Option Value} {mean : ExcName → Option Value} {mg mb : Str → Option Value} {w : World} {s : Shared} {Q E : Value → Shared → Prop} {news : List (Addr × Obj)}
   {R D Ad P : Addr} {o : Obj} {kvs : List (List UInt8 × Value)} {H : Nat → Cell} {i1 i2 : Int} {t1 t2 : Tok}
theorem c_read_ref {i : Nat} {t : Tok}
   (B : Below (AA dp un gd outer) base outer h₀) (F : Fr h₀ L s.heap m) (X : (hd.heap_1 w.params).In h₀) (N : News h₀ L s.heap news) (T : Top hd.view_1 loose mean mg mb h₀) (hk : cs.kind = .function)
   (hdp : dp + 4 < recursionLimit) (hu : un + 40 < cLine)
   (hR : (R, instObj 304 D) ∈ news) (hD : (D, dictOf [⟨i1, .str (Str.ofString "_refs") t1, .ref Ad⟩, ⟨i2, .str (Str.ofString "_peeled") t2, .ref P⟩] 2) ∈ news) (hA : (Ad, o) ∈ news) (hO : o.IsDictOf (bytesKind PG w) kvs) (hAs : (Ad == sysModules) = false)
   (RK : RefsKV kvs H) (hi : i < 7)
   (hret : ∀ v h' tk', OctV (H i) v → Fr h₀ L h' m → News h₀ L h' news → Q v { s with heap := h', toks := tk' }) :
   wpAny (model PG w) ((AA dp un gd outer).deeper (envOf cn cs L a ccd)) (call (.ref 182) [.ref R, .bytes (nm i).toArray t]) Q E s := by
  refine Kf ?_
  simp (disch := (refine @id _ ?_; k_dflt (
   have zF1 := U 1; have zF2 := U 2; have zF3 := U 3
   cases hH : H i with
   | none =>
     have hval : valueAt kvs (nm i).toArray.toList = none := RK.none_ hi hH
     rw [hH] at hret
     clear RK hH
     k_extra "M:enter"
     k_steps
     all_goals exact hret _ _ _ rfl (by assumption) (by k_extra "M:news")
   | some x =>
     obtain ⟨tv, hval⟩ : ∃ t, valueAt kvs (nm i).toArray.toList = some (.bytes (oct x).toArray t) := RK.some_ hi hH
     obtain ⟨hx1, hx2⟩ := oct_pos (hH ▸ RK.ok i hi)
     rw [hH] at hret
     clear RK hH
     k_extra "M:enter"
     k_steps
     all_goals exact hret _ _ _ ⟨_, rfl⟩ (by assumption) (by k_extra "M:news")))) only [↓Kn]
theorem c_read_none {i : Nat} {t : Tok}
   (B : Below (AA dp un gd outer) base outer h₀) (F : Fr h₀ L s.heap m) (X : (hd.heap_1 w.params).In h₀) (N : News h₀ L s.heap news) (T : Top hd.view_1 loose mean mg mb h₀) (hk : cs.kind = .function)
   (hdp : dp + 4 < recursionLimit) (hu : un + 40 < cLine)
   (hR : (R, instObj 304 D) ∈ news) (hD : (D, dictOf [⟨i1, .str (Str.ofString "_refs") t1, .ref Ad⟩, ⟨i2, .str (Str.ofString "_peeled") t2, .ref P⟩] 2) ∈ news) (hA : (Ad, o) ∈ news) (hO : o.IsDictOf (bytesKind PG w) kvs) (hAs : (Ad == sysModules) = false)
   (RK : RefsKV kvs H) (hi : i < 7) (hH : H i = none)
   (hret : ∀ (_t : Tok) h' tk', Fr h₀ L h' m → News h₀ L h' news → Q .none { s with heap := h', toks := tk' }) :
   wpAny (model PG w) ((AA dp un gd outer).deeper (envOf cn cs L a ccd)) (call (.ref 182) [.ref R, .bytes (nm i).toArray t]) Q E s :=
  c_read_ref B F X N T hk hdp hu hR hD hA hO hAs RK hi fun v h' tk' ov F' N' => by rw [hH] at ov; rw [show v = .none from ov]; exact hret 0 h' tk' F' N'
theorem c_read_some {i : Nat} {x : Sum Nat Nat} {t : Tok}
   (B : Below (AA dp un gd outer) base outer h₀) (F : Fr h₀ L s.heap m) (X : (hd.heap_1 w.params).In h₀) (N : News h₀ L s.heap news) (T : Top hd.view_1 loose mean mg mb h₀) (hk : cs.kind = .function)
   (hdp : dp + 4 < recursionLimit) (hu : un + 40 < cLine)
   (hR : (R, instObj 304 D) ∈ news) (hD : (D, dictOf [⟨i1, .str (Str.ofString "_refs") t1, .ref Ad⟩, ⟨i2, .str (Str.ofString "_peeled") t2, .ref P⟩] 2) ∈ news) (hA : (Ad, o) ∈ news) (hO : o.IsDictOf (bytesKind PG w) kvs) (hAs : (Ad == sysModules) = false)
   (RK : RefsKV kvs H) (hi : i < 7) (hH : H i = some x)
   (hret : ∀ (tv : Tok) h' tk', Fr h₀ L h' m → News h₀ L h' news → Q (.bytes (oct x).toArray tv) { s with heap := h', toks := tk' }) :
   wpAny (model PG w) ((AA dp un gd outer).deeper (envOf cn cs L a ccd)) (call (.ref 182) [.ref R, .bytes (nm i).toArray t]) Q E s :=
  c_read_ref B F X N T hk hdp hu hR hD hA hO hAs RK hi fun v h' tk' ov F' N' => by rw [hH] at ov; obtain ⟨tv, rfl⟩ := ov; exact hret tv h' tk' F' N'
end
open Builtin Builtin.ObjectAttr in
section
variable {prog : Program} {w : World} {A : Around} {E : Value → Shared → Prop} {h : Heap} {g : Array GenState} {d : Drawn} {t : Nat} {os : OsState}
variable {nm q : Str} {C N x : Addr} {bs bm : List Value} {sn : List Str} {sub : List Value} {ab : Bool} {col : Option Bool} {dd : Option Addr} {k0 k1 k2 k3 k5 : Option Value} {B newId sa owner : String}
  {mN : Str → Option Value} {name : Str} {v : Value} {vs : Array Value}
theorem exc_first {Q : Unit → Shared → Prop} (SF : StoreFacts B bm sa owner)
    (hC : h.get? C = some (excClassObj nm q C N bs bm true sn sub ab col dd k0 k1 k2 k3 k5 newId)) (hn : h.Ns N mN) (hns : mN "__setattr__" = none) (hna : mN name = none)
    (hB : typeLookup (.type B) name = pure none) {o : Obj} (hx : h.get? x = some o) (hc : o.cls = .ref C) (hdn : o.dict = none) (hnc : ∀ c, o.data ≠ .cls c)
    (hq : ∀ h' tk', h'.get? x = some { o with dict := some h.objs.size } → h'.Ns1 h.objs.size (fun y => if y = name then some v else none) → (∀ b o, b ≠ x → h.get? b = some o → h'.get? b = some o) → Q () ⟨h', g, d, tk', os⟩) :
    wpAny (model prog w) A (setAttr (.ref x) name v) Q E ⟨h, g, d, t, os⟩ := by
  have f3 := SF.slot.bind (.ref x)
  have hpass := SF.passes (.ref x)
  unfold setAttr callSpecial? specialOf
  repeat (any_goals (first | assumption | (with_reducible refine wpAny_loadPart_at hx ?_; rw [hc]) | (with_reducible refine wpAny_typeLookup_exc hC hn SF.mro SF.slot.lookup ?_; rw [hns]) | k_extra "W"))
  refine codeAny_call_builtin SF.slot.plain SF.entry (wpAny_check_sa SF hC hx hc ?_)
  unfold Builtin.«object.__setattr__»
  repeat (first | rw [refuse_eq] | (rw [refuseLoop_ref, hpass]) | (with_reducible refine wpAny_loadPart_at hx ?_; rw [hc]) | with_reducible refine wpAny_mroOf_exc hC ?_ | (with_reducible refine wpAny_typeLookup_exc hC hn SF.mro hB ?_; rw [hna]) | k_extra "W")
  have hx₁ : (h.push { cls := .type "dict", data := .dict #[] }).get? x = some o := Heap.get?_push_of_some _ hx
  have hxs : x ≠ h.objs.size := Nat.ne_of_lt (Heap.lt_size hx)
  rw [hdn, if_neg (by simp [typeHasDict])]
  split
  · rename_i hcd
    cases hcd
  split
  · rename_i c hcd
    exact absurd hcd (hnc c)
  refine wpAny_bind (wpAny_alloc' ?_)
  refine wpAny_bind (wpAny_update' hx₁ ?_)
  refine wpAny_pure ?_
  have hgd : ((h.push { cls := .type "dict", data := .dict #[] }).update x fun o => { cls := o.cls, dict := some h.objs.size, data := o.data, slots := o.slots }).get? h.objs.size
      = some { cls := .type "dict", data := .dict #[] } := (Heap.get?_update_ne _ _ _ _ hxs.symm).trans (Heap.get?_push_at rfl rfl)
  have hnd : ((h.push { cls := .type "dict", data := .dict #[] }).update x fun o => { cls := o.cls, dict := some h.objs.size, data := o.data, slots := o.slots }).Ns h.objs.size (fun _ => none) :=
    ⟨_, #[], _, hgd, rfl, fun e he => absurd he (by simp), fun _ => rfl⟩
  show wpAny _ _ (storeInDict h.objs.size _ name v) _ _ _
  unfold storeInDict newKeyGuard
  refine wpAny_bind (wpAny_pure (wpAny_bind (wpAny_nsSet1 (Heap.Ns1.of_empty hnd) fun h' hn' hs => ?_)))
  obtain ⟨oD, esD, epD, hoD, hdD, hcD⟩ := hn'.count (Within.cons name v Within.nil)
  refine wpAny_bind (wpAny_lookBehind hoD (by rw [hdD]; exact pastItsLine_dict (Nat.le_trans hcD (by rw [List.length_cons, List.length_nil, sizeLine_eq]; omega))) ?_)
  repeat k_extra "W"
  repeat (any_goals (first | assumption | k_extra "W"))
  refine hq h' _ ?_ hn' (fun b ob hbx hb => (hs.2 b (Nat.ne_of_lt (Heap.lt_size hb))).trans ((Heap.get?_update_ne _ _ _ _ hbx).trans (Heap.get?_push_of_some _ hb)))
  refine (hs.2 x hxs).trans (Heap.get?_update_self _ hx₁ ?_)
  have hfr := (Heap.get?_some_iff.mp hx).2
  obtain ⟨oc, od, odt, osl⟩ := o
  cases odt <;> first | rfl | exact hfr
end
theorem ns_get_of {K : Frag} {h : Heap} {N : Addr} {mg : Str → Option Value} {n : Str} {v : Value} (X : K.In h) (G : h.Ns N mg) (e : nsIn K N n = some (some v)) : mg n = some v := by
  obtain ⟨o, es, ep, ho, hd, _, hf⟩ := G
  unfold nsIn at e
  split at e
  · rename_i c d es' n' sl q
    have := X _ _ q
    rw [ho] at this
    cases this
    cases hd
    split at e
    · rename_i en he
      cases e
      rw [← hf]
      unfold nsFind findBy
      rw [← Array.find?_toList, he]
      rfl
    · split at e <;> cases e
  · cases e
theorem fillK2 : hd.heap_1 = hd.heap_1 ∧ PySem.Challenge.rw_ai0010_01 = PySem.Challenge.rw_ai0010_01 := by
  k_fill
  exact ⟨rfl, rfl⟩
theorem ns_106 {w : World} {h : Heap} (X : (hd.heap_1 w.params).In h) : ∃ mN, h.Ns 106 mN ∧ mN "__init__" = some (.ref 104) ∧ mN "__setattr__" = none ∧ mN "ref" = none ∧ mN "depth" = none := by
  have hn : h.Ns 106 (h.nsMap 106) := .of_isNs (isNs_of_in X (by kernel_rfl))
  refine ⟨_, hn, ?_, ?_, ?_, ?_⟩
  · obtain ⟨o, es, ep, ho, hd', _, hf⟩ := hn
    exact (ns_get_of X ⟨o, es, ep, ho, hd', ‹_›, hf⟩ (by k_is))
  · exact ns_none_of X hn (by k_is)
  · exact ns_none_of X hn (by k_is)
  · exact ns_none_of X hn (by k_is)
structure NewExcV (h h' : Heap) (e : Addr) (cls : Value) : Prop where
  keeps : ∀ b o, h.get? b = some o → h'.get? b = some o
  new : h.get? e = none
  there : ∃ ob t, h'.get? e = some ob ∧ ob.cls = cls ∧ ob.data = .fields #[t, .none, .none, .none, .bool false, .none]
section
variable {A : Around} {E : Value → Shared → Prop} {s : Shared} {h₀ : Heap} {L e : Addr} {m : Str → Option Value} {news : List (Addr × Obj)} {w : World} {vs : Array Value} {v : Value} {Q : Unit → Shared → Prop}
theorem none_of_size {h₀ h : Heap} {L : Addr} {m : Str → Option Value} (F : Fr h₀ L h m) {b : Addr} (hb : h.objs.size ≤ b) : h₀.get? b = none := by
  cases q : h₀.get? b with
  | none => rfl
  | some o => exact absurd (Nat.lt_of_lt_of_le (Heap.lt_size (F.keep b o q)) hb) (Nat.lt_irrefl _)
theorem set_exc1 (F : Fr h₀ L s.heap m) (X₀ : (hd.heap_1 w.params).In h₀) (N : News h₀ L s.heap ((e, ⟨.ref 107, none, .fields vs, #[]⟩) :: news)) (hne : ∀ p ∈ news, p.1 ≠ e)
    (hq : ∀ h' tk' d, Fr h₀ L h' m → News h₀ L h' ((e, ⟨.ref 107, some d, .fields vs, #[]⟩) :: news) → h'.Ns1 d (fun y => if y = "ref" then some v else none) → h₀.get? d = none → d ≠ L → d ≠ e → (∀ p ∈ news, p.1 ≠ d) → Q () { s with heap := h', toks := tk' }) :
    wpAny (model PG w) A (setAttr (.ref e) "ref" v) Q E s := by
  obtain ⟨h, g, dr, t, os⟩ := s
  have X := X₀.keeps F.keep
  obtain ⟨mN, hn, _, h2, h3, _⟩ := ns_106 X
  have hE := (N _ (.head _))
  refine exc_first PySem.F.store_Exception (X 107 _ (by k_is)) hn h2 h3 (by rw [typeLookup_type, builtinLookup_eq_fast]; kernel_rfl) hE.1 rfl rfl (fun _ q => nomatch q) ?_
  intro h' tk' a1 a2 a3
  have hL : L < h.objs.size := F.ns.lt
  refine hq h' tk' _ ⟨F.ns.at' (fun o q => a3 _ _ (Ne.symm hE.2.1) q), fun b o q => a3 _ _ (fun z => ?_) (F.keep b o q), F.above⟩ (fun p hp => ?_) a2 (none_of_size F (Nat.le_refl _)) (Nat.ne_of_gt hL) (Nat.ne_of_gt (Heap.lt_size hE.1)) (fun p hp => Nat.ne_of_lt (Heap.lt_size (N p (.tail _ hp)).1))
  · have := hE.2.2; rw [← z, q] at this; cases this
  · rcases List.mem_cons.mp hp with rfl | hp
    · exact ⟨a1, hE.2⟩
    · exact ⟨a3 _ _ (hne p hp) (N p (.tail _ hp)).1, (N p (.tail _ hp)).2⟩
theorem set_exc2 {d : Addr} (F : Fr h₀ L s.heap m) (X₀ : (hd.heap_1 w.params).In h₀) (N : News h₀ L s.heap ((e, ⟨.ref 107, some d, .fields vs, #[]⟩) :: news)) (hne : ∀ p ∈ news, p.1 ≠ e)
    (hn1 : s.heap.Ns1 d (fun y => if y = "ref" then some v else none)) (hd0 : h₀.get? d = none) (hdL : d ≠ L) (hde : d ≠ e) (hdn : ∀ p ∈ news, p.1 ≠ d) {v2 : Value}
    (hq : ∀ h' tk', Fr h₀ L h' m → News h₀ L h' ((e, ⟨.ref 107, some d, .fields vs, #[]⟩) :: news) → Q () { s with heap := h', toks := tk' }) :
    wpAny (model PG w) A (setAttr (.ref e) "depth" v2) Q E s := by
  obtain ⟨h, g, dr, t, os⟩ := s
  have X := X₀.keeps F.keep
  obtain ⟨mN, hn, _, h2, _, h3⟩ := ns_106 X
  have hE := (N _ (.head _))
  have h107 : h₀.get? 107 ≠ none := by rw [X₀ 107 _ (by k_is)]; intro z; cases z
  refine store_attr (ns := ["ref"]) PySem.F.store_Exception (X 107 _ (by k_is)) hn h2 h3 (by rw [typeLookup_type, builtinLookup_eq_fast]; kernel_rfl) (fun z => h107 (z ▸ hE.2.2)) ⟨_, hE.1, rfl, (fun _ q => nomatch q), .inr ⟨d, rfl, hde, hn1⟩⟩ ?_ (by within_ways)
  intro h' tk' _ a3 a1
  obtain ⟨o₁, b1, b2, b3, b4, b5⟩ := a1 _ hE.1
  have e1 : o₁ = ⟨.ref 107, some d, .fields vs, #[]⟩ := by
    obtain ⟨oc, od, odt, osl⟩ := o₁
    have := b5 d rfl
    simp only at b2 b3 b4 this
    subst b2 b3 b4 this; rfl
  subst e1
  have k : ∀ b o, b ≠ e → b ≠ d → h.get? b = some o → h'.get? b = some o := fun b o n1 n2 q => a3 b o n1 (fun o₀ dx z1 z2 => by
    have := hE.1.symm.trans z1
    cases this
    cases z2
    exact n2) q
  refine hq h' tk' ⟨F.ns.at' (fun o q => k _ _ (Ne.symm hE.2.1) (Ne.symm hdL) q), fun b o q => k _ _ (fun z => ?_) (fun z => ?_) (F.keep b o q), F.above⟩ (fun p hp => ?_)
  · have := hE.2.2; rw [← z, q] at this; cases this
  · rw [z, hd0] at q; cases q
  · rcases List.mem_cons.mp hp with rfl | hp
    · exact ⟨b1, hE.2⟩
    · exact ⟨k _ _ (hne p hp) (hdn p hp) (N p (.tail _ hp)).1, (N p (.tail _ hp)).2⟩
end
section
variable {dp un : Nat} {gd : Option (List Code)} {cn : Str} {cs : Scope} {a : Addr} {ccd : Value} {outer : List Env} {A₀ : Around} {base h₀ : Heap} {L : Addr} {m : Str → Option Value} {mean : ExcName → Option Value} {mg mb : Str → Option Value} {w : World} {s : Shared} {Q E : Value → Shared → Prop} {news : List (Addr × Obj)}
theorem c_loop {n d : Value}
   (B : Below (AA dp un gd outer) base outer h₀) (F : Fr h₀ L s.heap m) (X : (hd.heap_1 w.params).In h₀) (N : News h₀ L s.heap news) (T : Top hd.view_1 loose mean mg mb h₀) (hk : cs.kind = .function)
   (hdp : dp + 4 < recursionLimit) (hu : un + 40 < cLine)
   (hret : ∀ e h' tk' t0 d', Fr h₀ L h' m → News h₀ L h' ((e, ⟨.ref 107, some d', .fields #[.ref t0, .none, .none, .none, .bool false, .none], #[]⟩) :: news) → (∀ p ∈ news, p.1 ≠ e) → Q (.ref e) { s with heap := h', toks := tk' }) :
   wpAny (model PG w) ((AA dp un gd outer).deeper (envOf cn cs L a ccd)) (call (.ref 107) [n, d]) Q E s := by
  refine Kf ?_
  simp (disch := (refine @id _ ?_; k_dflt (
   have zF1 := U 1; have zF2 := U 2; have zF3 := U 3; have zF4 := U 4
   obtain ⟨h, g, dr, t, os⟩ := s
   have XX := X.keeps F.keep
   obtain ⟨mN, hn, hi, h2, h3, h4⟩ := ns_106 XX
   refine wpAny_call_exc_init PySem.F.excBase_Exception (XX 107 _ (by k_is)) hn hi (XX 104 _ (by k_is)) rfl ?_
   intro h1 e hm
   obtain ⟨t0, e1, e2, e3⟩ := hm.there
   have F1 : Fr h₀ L h1 m := F.keeps hm.keeps
   have hL : L < h.objs.size := F.ns.lt
   obtain ⟨oL, _, _, hLo, _⟩ := id F.ns
   have heL : e ≠ L := fun z => by have := hm.new; rw [z, hLo] at this; cases this
   have he0 : h₀.get? e = none := by
     cases q : h₀.get? e with
     | none => rfl
     | some o => have := hm.new; rw [F.keep _ _ q] at this; cases this
   have N1 : News h₀ L h1 ((e, ⟨.ref 107, none, .fields #[.ref t0, .none, .none, .none, .bool false, .none], #[]⟩) :: news) := by
     intro p hp
     rcases List.mem_cons.mp hp with rfl | hp
     · exact ⟨e1, heL, he0⟩
     · exact ⟨hm.keeps _ _ (N p hp).1, (N p hp).2⟩
   refine wpAny_mono (Q := fun r s' => r = .none ∧ Q (.ref e) s') ?_ (fun _ _ z => z) (fun _ _ z => z)
   have hne : ∀ p ∈ news, p.1 ≠ e := fun p hp z => by have := hm.new; rw [← z, (N p hp).1] at this; cases this
   k_extra "M:enter"
   k_steps
   all_goals exact hret _ _ _ _ _ (by assumption) (by assumption) hne))) only [↓Kn]
end
open Builtin in
section
variable {b p : Array UInt8} {t u : Tok}
theorem bytes_not_tuple : isInstance (.bytes b t) (.type "tuple") = pure false := by
  have e : isInstance (.bytes b t) (.type "tuple") = isSubtype (.type "bytes") (.type "tuple") := rfl
  rw [e, isSubtype_type]; kernel_rfl
def startsB (b p : Array UInt8) : Bool := decide (p.size ≤ b.size) && (b.extract 0 p.size == p)
def endsB (b p : Array UInt8) : Bool := decide (p.size ≤ b.size) && (b.extract (b.size - p.size) b.size == p)
theorem gives_starts : Gives («bytes.startswith» ⟨[.bytes b t, .bytes p u], []⟩) (.val (.bool (startsB b p))) := by
  refine .of_wp fun M A E s Q hq => ?_
  have hq : Q (.bool (startsB b p)) s := hq
  show wpAny M A (isInstance (.bytes p u) (.type "tuple") >>= fun r => _) _ E s
  refine wpAny_bind (wpAny_of_eq bytes_not_tuple ?_)
  show wpAny M A (Bytes.buffer? "bytes.startswith" (.bytes p u) >>= fun r => _) _ E s
  refine wpAny_bind (wpAny_of_eq KBy.buffer_eq ?_)
  refine wpAny_pure ⟨_, rfl, ?_⟩
  have e : (if (↑b.size - (0:Int)) < ↑p.size then false else b.extract (0:Int).toNat ((0:Int).toNat + p.size) == p) = startsB b p := by
    unfold startsB
    by_cases h : p.size ≤ b.size
    · rw [if_neg (by omega)]; simp [h]
    · rw [if_pos (by omega)]; simp [h]
  have e2 : (min (b.size : Int) (if (b.size : Int) < 0 then max 0 ((b.size : Int) + b.size) else b.size)) = b.size := by
    rw [if_neg (by omega)]; omega
  simp only [Option.getD, e2]
  rw [← e] at hq
  simpa using hq
theorem gives_ends : Gives («bytes.endswith» ⟨[.bytes b t, .bytes p u], []⟩) (.val (.bool (endsB b p))) := by
  refine .of_wp fun M A E s Q hq => ?_
  have hq : Q (.bool (endsB b p)) s := hq
  show wpAny M A (isInstance (.bytes p u) (.type "tuple") >>= fun r => _) _ E s
  refine wpAny_bind (wpAny_of_eq bytes_not_tuple ?_)
  show wpAny M A (Bytes.buffer? "bytes.endswith" (.bytes p u) >>= fun r => _) _ E s
  refine wpAny_bind (wpAny_of_eq KBy.buffer_eq ?_)
  refine wpAny_pure ⟨_, rfl, ?_⟩
  have e2 : (min (b.size : Int) (if (b.size : Int) < 0 then max 0 ((b.size : Int) + b.size) else b.size)) = b.size := by
    rw [if_neg (by omega)]; omega
  have e : (if (↑b.size - (0:Int)) < ↑p.size then false else b.extract ((b.size : Int).toNat - p.size) (b.size : Int).toNat == p) = endsB b p := by
    unfold endsB
    by_cases h : p.size ≤ b.size
    · rw [if_neg (by omega)]; simp [h]
    · rw [if_pos (by omega)]; simp [h]
  simp only [Option.getD, e2]
  rw [← e] at hq
  simpa using hq
end
section
variable {prog : Program} {w : World} {A : Around} {E : Value → Shared → Prop} {s : Shared} {h₀ : Heap} {L : Addr} {m : Str → Option Value} {news : List (Addr × Obj)} {b p : Array UInt8} {t u : Tok}
theorem bytes_meth {name : Str} {id : String} {pl : Sem Bool} {Q : Value × List Value → Shared → Prop} (slot : Slot "bytes" name id) (hty : typeOf (.builtin id) = pure (.type "method_descriptor"))
    (h : Q (.builtin id, [.bytes b t]) s) : wpAny (model prog w) A (getMethod (.bytes b t) name pl) Q E s :=
  getMethod_builtin rfl FB.plainAttrs_bytes slot hty (fun _ e => nomatch e) h
theorem starts_b {r : Bool} {Q : Value → Shared → Prop} (hr : startsB b p = r) (h : Q (.bool r) s) : wpAny (model prog w) A (call (.builtin "bytes.startswith") [.bytes b t, .bytes p u]) Q E s :=
  call_gives FB.slot_bytes_startswith rfl FB.entry_bytes_startswith (FB.args_bytes_startswith_2 _ _) gives_starts (by rw [hr]; exact h)
theorem ends_b {r : Bool} {Q : Value → Shared → Prop} (hr : endsB b p = r) (h : Q (.bool r) s) : wpAny (model prog w) A (call (.builtin "bytes.endswith") [.bytes b t, .bytes p u]) Q E s :=
  call_gives FB.slot_bytes_endswith rfl FB.entry_bytes_endswith (FB.args_bytes_endswith_2 _ _) gives_ends (by rw [hr]; exact h)
theorem sym_add {i : Nat} {Q : Value → Shared → Prop} (hi : i < 7) (h : ∀ t' k, Q (.bytes (oct (.inl i)).toArray t') { s with toks := k }) : wpAny (model prog w) A (binaryOp .Add (.bytes #[114, 101, 102, 58, 32] t) (.bytes (nm i).toArray u)) Q E s := by
  refine KBy.add_bytes ?_ fun t' k => ?_
  · have : ∀ i : Fin 7, (#[114, 101, 102, 58, 32] : Array UInt8).size + (nm i).toArray.size ≤ 16777216 := by decide
    exact this ⟨i, hi⟩
  · have e : (#[114, 101, 102, 58, 32] : Array UInt8) ++ (nm i).toArray = (oct (.inl i)).toArray := by simp [oct, SYM]
    rw [e]; exact h t' k
theorem oct_starts_l {j : Nat} (hj : j < 7) : startsB (oct (.inl j)).toArray #[114, 101, 102, 58, 32] = true := by
  have : ∀ j : Fin 7, startsB (oct (.inl j)).toArray #[114, 101, 102, 58, 32] = true := by decide
  exact this ⟨j, hj⟩
theorem oct_starts_r {c : Nat} (h : 1 ≤ c ∧ c ≤ 7) : startsB (oct (.inr c)).toArray #[114, 101, 102, 58, 32] = false := by
  have : ∀ c : Fin 8, startsB (oct (.inr c)).toArray #[114, 101, 102, 58, 32] = false := by decide +kernel
  exact this ⟨c, Nat.lt_succ_of_le h.2⟩
theorem sym_cut {j : Nat} {value slice : Expr} {tk5 : Tok} {Q : Value → Shared → Prop} (hj : j < 7) (hF : Fr h₀ L s.heap m) (hN : News h₀ L s.heap news)
    (h : ∀ h' t' k, Fr h₀ L h' m → News h₀ L h' news → Q (.bytes (nm j).toArray t') { s with heap := h', toks := k })
    (hs : subscripted slice false (.bytes (oct (.inl j)).toArray t) (.ref s.heap.objs.size) = operate [.ref s.heap.objs.size, .bytes (oct (.inl j)).toArray t] (getItem (.bytes (oct (.inl j)).toArray t) (.ref s.heap.objs.size)) := by with_unfolding_all rfl)
    (ht : ∀ r, letTemporaryGo value (.bytes (oct (.inl j)).toArray t) r = pure () := by intro _; with_unfolding_all rfl) :
    wpAny (model prog w) A (subscriptTail value slice (.bytes (oct (.inl j)).toArray t) (.ref s.heap.objs.size)) Q E { s with heap := s.heap.push { cls := .type "slice", data := .fields #[.int 5 tk5, .none, .none] } } := by
  have e1 : KBy.whole (oct (.inl j)).toArray (some 5) none = false := by
    have : ∀ j : Fin 7, KBy.whole (oct (.inl j)).toArray (some 5) none = false := by decide
    exact this ⟨j, hj⟩
  have e2 : KBy.picked (oct (.inl j)).toArray (some 5) none = (nm j).toArray := by
    have : ∀ j : Fin 7, KBy.picked (oct (.inl j)).toArray (some 5) none = (nm j).toArray := by decide
    exact this ⟨j, hj⟩
  refine KBy.slice_N (lo := some 5) (hi := none) hF hN (by first | exact .int _ _ | constructor) (by first | exact .none | constructor) e1 ?_ ?_ hs ht
  · rw [e2]
    have : ∀ j : Fin 7, (nm j).toArray.size ≤ 16777216 := by decide
    exact this ⟨j, hj⟩
  · rw [e2]; exact h
end
theorem fillK3 : hd.heap_1 = hd.heap_1 ∧ PySem.Challenge.rw_ai0010_01 = PySem.Challenge.rw_ai0010_01 := by
  k_fill
  exact ⟨rfl, rfl⟩
section
variable {M : Model} {A : Around} {E : Value → Shared → Prop} {s : Shared} {env : Env}
theorem raise_v {C : Addr} {nm q : Str} {N : Addr} {bs bm : List Value} {hdct : Bool} {sn : List Str} {sub : List Value} {ab : Bool} {col : Option Bool} {dd : Option Addr} {k0 k1 k2 k3 k5 : Option Value} {newId : String} {x : Expr} {pos : Pos} {Q : Flow → Shared → Prop}
    (hbase : bm.contains (.type "BaseException") = true) (hh : A.handled = none)
    (h : wpAny M A (eval x env) (fun v s₁ => ∃ e od t, v = .ref e ∧ s₁.heap.get? C = some (excClassObj nm q C N bs bm hdct sn sub ab col dd k0 k1 k2 k3 k5 newId) ∧
      s₁.heap.get? e = some { cls := .ref C, dict := od, data := .fields #[.ref t, .none, .none, .none, .bool false, .none] } ∧ E (.ref e) s₁) E s) :
    wpAny M A (exec (.Raise (some x) none pos) env) Q E s := by
  have hcB : (Value.ref C :: bm).contains (.type "BaseException") = true := by rw [List.contains_cons, hbase, Bool.or_true]
  rw [arm_exec_Raise]
  refine wpAny_bind (wpAny_standAt ?_)
  show wpAny M A (raiseStmt env (some (do let v ← eval x env; standAt pos; pure v)) none) Q E s
  unfold raiseStmt
  refine wpAny_bind (wpAny_bind (wpAny_mono h (fun v s₁ h₁ => wpAny_bind (wpAny_standAt (wpAny_pure ?_))) fun _ _ x => x))
  obtain ⟨e, od, t, rfl, hC, he, hE⟩ := h₁
  obtain ⟨hp, g, d, tk, os⟩ := s₁
  repeat (first | with_reducible refine wpAny_loadPart_at he ?_ | with_reducible refine wpAny_loadPart_at hC ?_ | (with_reducible refine wpAny_isSubtype_exc hC ?_; rw [hcB]) | k_extra "W")
  exact wpAny_raiseNew_none hh hE
def RaiseEnd (K : Frag) (E : Value → Shared → Prop) (v : Value) (s₁ : Shared) : Prop :=
  ∃ e od t, v = .ref e ∧ K.In s₁.heap ∧ s₁.heap.get? e = some { cls := .ref 107, dict := od, data := .fields #[.ref t, .none, .none, .none, .bool false, .none] } ∧ E (.ref e) s₁
def WEnd (I : Nat → Shared → Prop) (n : Nat) (Q : Flow → Shared → Prop) (f : Flow) (s : Shared) : Prop := match f with
  | .next | .cont => ∃ m, m < n ∧ I m s
  | .brk => Q .next s
  | .ret v => Q (.ret v) s
end
theorem leave_excS {M : Model} {A : Around} {E : Value → Shared → Prop} {s' : Shared} {base g : Heap} {outer : List Env} {L a e : Addr} {m : Str → Option Value} {name : Str} {scope : Scope} {cd cls tp : Value} {Q : Unit → Shared → Prop} {news : List (Addr × Obj)} {ob : Obj}
    (K : Below A base outer g) (F : Fr g L s'.heap m) (N : News g L s'.heap ((e, ob) :: news)) (hne : ∀ p ∈ news, p.1 ≠ e) (hc : ob.cls = cls) (hd : ob.data = .fields #[tp, .none, .none, .none, .bool false, .none])
    (hQ : ∀ h', RaisedSN base g outer e cls news h' → RaisedN base outer e cls news h' → g.UpToSlots h' → Q () { s' with heap := h' }) (hk : scope.kind = .function := by rfl) :
    wpAny M (A.deeper (envOf name scope L a cd)) (leaving (envOf name scope L a cd) (.ref e)) Q E s' := by
  have K' := K.push (name := name) (a := a) (cd := cd) F hk
  have hE := N _ (.head _)
  have hin : ∀ env ∈ (envOf name scope L a cd :: outer), ∀ b, env.frame = some b → b ∈ e :: (envOf name scope L a cd :: outer).filterMap (·.frame) := fun env he b hb => .tail _ (List.mem_filterMap.mpr ⟨env, he, hb⟩)
  have be : base.get? e = none := fresh_of_stays K.stays hE.2.2
  have st : base.StaysIn (hideAll s'.heap (e :: (envOf name scope L a cd :: outer).filterMap (·.frame))) := fun b o q => hideAll_get _ (K'.stays b o q) fun hm => by
    rcases List.mem_cons.mp hm with rfl | hm
    · rw [be] at q; cases q
    · rw [(K'.frames.mem hm).1] at q; cases q
  have sg : ∀ b o, g.get? b = some o → b ∉ outer.filterMap (·.frame) → (hideAll s'.heap (e :: (envOf name scope L a cd :: outer).filterMap (·.frame))).get? b = some o := fun b o q nm => hideAll_get _ (F.keep b o q) fun hm => by
    rcases List.mem_cons.mp hm with rfl | hm
    · rw [hE.2.2] at q; cases q
    · rcases kts_mem hm with z | z
      · rw [z, kts_self F] at q
        cases q
      · exact nm z
  have hl : ∀ q ∈ news, (hideAll s'.heap (e :: (envOf name scope L a cd :: outer).filterMap (·.frame))).get? q.1 = some q.2 ∧ g.get? q.1 = none ∧ base.get? q.1 = none := fun q hq => by
    have Nq := N q (.tail _ hq)
    refine ⟨hideAll_get _ Nq.1 fun hm => ?_, Nq.2.2, fresh_of_stays K.stays Nq.2.2⟩
    rcases List.mem_cons.mp hm with z | hm
    · exact hne q hq z
    obtain ⟨env, he, hf⟩ := List.mem_filterMap.mp hm
    rcases List.mem_cons.mp he with rfl | he
    · exact Nq.2.1 (Option.some.inj hf).symm
    · obtain ⟨o, ho, _⟩ := (K.frames.mem (List.mem_filterMap.mpr ⟨env, he, hf⟩)).2
      rw [Nq.2.2] at ho; cases ho
  have hen : (hideAll s'.heap (e :: (envOf name scope L a cd :: outer).filterMap (·.frame))).get? e = none := hideAll_none _ (.head _)
  refine wpAny_leaving_firstW (a0 := tp) K'.stack (funFrames_hide K'.frames hin) rfl hE.1 (fun b o hb => of_hideAll _ hb) hen hd rfl rfl fun h' hL => ?_
  obtain ⟨k1, ⟨_, _, k2⟩, k3, k4⟩ := hL
  have R : RaisedSN base g outer e cls news h' := ⟨_, tp, st, sg, hl, k1, hen, k2, by rw [← hc]; exact k3⟩
  exact hQ h' R R.toN ((Heap.UpToSlots.of_keeps F.keep).trans k4)
theorem raisedSN_sub {base G h : Heap} {l : List Env} {e : Addr} {cls : Value} {news news' : List (Addr × Obj)} (R : RaisedSN base G l e cls news' h) (hs : ∀ p ∈ news, p ∈ news') : RaisedSN base G l e cls news h := by
  obtain ⟨B, a0, h1, h2, h3, h4⟩ := R
  exact ⟨B, a0, h1, h2, fun q hq => h3 q (hs q hq), h4⟩
theorem raise_107 {w : World} {A : Around} {E : Value → Shared → Prop} {s : Shared} {env : Env} {x : Expr} {pos : Pos} {Q : Flow → Shared → Prop} (hh : A.handled = none)
    (h : wpAny (model PG w) A (eval x env) (fun v s₁ => RaiseEnd (hd.heap_1 w.params) E v s₁) E s) : wpAny (model PG w) A (exec (.Raise (some x) none pos) env) Q E s := by
  refine' raise_v (C := 107) (bm := [.type "Exception", .type "BaseException", .type "object"]) (by decide) hh (wpAny_mono h (fun v s₁ h₁ => ?zq_m) fun _ _ z => z)
  case zq_m =>
  obtain ⟨e, od, t, rfl, X, he, hE⟩ := h₁
  exact ⟨e, od, t, rfl, X 107 _ (by k_is), he, hE⟩
theorem while_ind {w : World} {A : Around} {E : Value → Shared → Prop} {s : Shared} {env : Env} {test : Expr} {body : List Stmt} {pos : Pos} {Q : Flow → Shared → Prop} (I : Nat → Shared → Prop) (n : Nat) (h : I n s) (hE : PassesOwn (model PG w) A env E)
    (turn : ∀ n s, I n s → wpAny (model PG w) A (isTrue test env (eval test env)) (fun b s₂ => if b = true then wpAny (model PG w) A (execs body env) (WEnd I n Q) E s₂ else Q .next s₂) E s) :
    wpAny (model PG w) A (exec (.While test body [] pos) env) Q E s := by
  refine wpAny_While (codeAny_whileLoop (R := fun r s' => match r with | .ok f => Q f s' | .error e => cameBackBy (model PG w) A env E e s') I (fun n s hI => ?_) n h)
  refine wpAny_passesOwn hE (wpAny_mono (turn n s hI) (fun b s₂ h₂ => ?_) fun _ _ z => z)
  cases b with
  | false => exact wpAny_execs_nil h₂
  | true =>
    refine wpAny_passesOwn hE (wpAny_mono h₂ (fun f s₃ h₃ => ?_) fun _ _ z => z)
    cases f <;> exact h₃
inductive NamesV : List Value → List Nat → Prop
  | nil : NamesV [] []
  | cons {vs : List Value} {ks : List Nat} {k : Nat} (t : Tok) : NamesV vs ks → NamesV (.bytes (nm k).toArray t :: vs) (k :: ks)
theorem NamesV.append {vs vs' : List Value} {ks ks' : List Nat} (h : NamesV vs ks) (h' : NamesV vs' ks') : NamesV (vs ++ vs') (ks ++ ks') := by
  induction h with
  | nil => exact h'
  | cons t _ ih => exact .cons t ih
theorem NamesV.push {vs : Array Value} {ks : List Nat} {k : Nat} {t : Tok} (h : NamesV vs.toList ks) : NamesV (vs.push (.bytes (nm k).toArray t)).toList (ks ++ [k]) := by
  rw [Array.toList_push]; exact h.append (.cons t .nil)
def fol (H : Nat → Cell) : Nat → Nat → Option (List Nat × Cell)
  | d, i => match H i with
    | none => some ([i], none)
    | some x => match d with
      | 0 => none
      | d + 1 => match x with
        | .inr c => some ([i], some (.inr c))
        | .inl j => (fol H d j).map fun r => (i :: r.1, r.2)
theorem fol_none {H : Nat → Cell} {d j : Nat} (h : H j = none) : fol H d j = some ([j], none) := by unfold fol; simp only [h]
theorem fol_zero {H : Nat → Cell} {j : Nat} {x : Sum Nat Nat} (h : H j = some x) : fol H 0 j = none := by unfold fol; simp only [h]
theorem fol_val {H : Nat → Cell} {d j c : Nat} (h : H j = some (.inr c)) : fol H (d + 1) j = some ([j], some (.inr c)) := by unfold fol; simp only [h]
theorem fol_sym {H : Nat → Cell} {d j k : Nat} (h : H j = some (.inl k)) : fol H (d + 1) j = (fol H d k).map fun r => (j :: r.1, r.2) := by
  conv => lhs; unfold fol
  simp only [h]
inductive FSt (H : Nat → Cell) (i n : Nat) (pre : List Nat) (m : Str → Option Value) : Prop
  | sym : ∀ d j tc t5, n = d + 1 → d ≤ 5 → j < 7 → m "contents" = some (.bytes (oct (.inl j)).toArray tc) → m "depth" = some (.int (5 - (d : Int)) t5) → fol H 5 i = (fol H d j).map (fun r => (pre ++ r.1, r.2)) → FSt H i n pre m
  | val : ∀ k tc, n = 0 → (1 ≤ k ∧ k ≤ 7) → m "contents" = some (.bytes (oct (.inr k)).toArray tc) → fol H 5 i = some (pre, some (.inr k)) → FSt H i n pre m
inductive FInv (s : Shared) (g : Heap) (L l R : Addr) (news : List (Addr × Obj)) (H : Nat → Cell) (i : Nat) (nv : Value) (n : Nat) (s₁ : Shared) : Prop
  | mk : ∀ h tk m vs c pre, s₁ = { s with heap := h, toks := tk } → Fr g L h m → News g L h ((l, W.listOf vs c) :: news) → m "self" = some (.ref R) → m "name" = some nv → m "refnames" = some (.ref l) → NamesV vs.toList pre → vs.size ≤ 100 - n → n ≤ 6 → FSt H i n pre m → FInv s g L l R news H i nv n s₁
section
variable {dp un : Nat} {gd : Option (List Code)} {cn : Str} {cs : Scope} {a : Addr} {ccd : Value} {outer : List Env} {A₀ : Around} {base h₀ : Heap} {L : Addr} {m : Str → Option Value} {mean : ExcName → Option Value} {mg mb : Str → Option Value} {w : World} {s : Shared} {Q E : Value → Shared → Prop} {news : List (Addr × Obj)}
   {R D Ad P : Addr} {o : Obj} {kvs : List (List UInt8 × Value)} {H : Nat → Cell} {i1 i2 : Int} {t1 t2 : Tok}
theorem c_follow {i : Nat} {t : Tok}
   (B : Below (AA dp un gd outer) base outer h₀) (F : Fr h₀ L s.heap m) (X : (hd.heap_1 w.params).In h₀) (N : News h₀ L s.heap news) (T : Top hd.view_1 loose mean mg mb h₀) (hk : cs.kind = .function)
   (hdp : dp + 8 < recursionLimit) (hu : un + 80 < cLine)
   (hR : (R, instObj 304 D) ∈ news) (hD : (D, dictOf [⟨i1, .str (Str.ofString "_refs") t1, .ref Ad⟩, ⟨i2, .str (Str.ofString "_peeled") t2, .ref P⟩] 2) ∈ news) (hA : (Ad, o) ∈ news) (hO : o.IsDictOf (bytesKind PG w) kvs) (hAs : (Ad == sysModules) = false)
   (RK : RefsKV kvs H) (hi : i < 7)
   (hloop : fol H 5 i = none → ∀ e h' tk' G, Fr h₀ L G m → RaisedSN base G (envOf cn cs L a ccd :: outer) e (.ref 107) news h' → RaisedN base (envOf cn cs L a ccd :: outer) e (.ref 107) news h' → G.UpToSlots h' → E (.ref e) { s with heap := h', toks := tk' })
   (hret : ∀ ks c x l ev vs n h' tk', fol H 5 i = some (ks, c) → OctV c ev → NamesV vs.toList ks → Fr h₀ L h' m → News h₀ L h' ((x, { cls := .type "tuple", data := .seq #[.ref l, ev] }) :: (l, W.listOf vs n) :: news) → Q (.ref x) { s with heap := h', toks := tk' }) :
   wpAny (model PG w) ((AA dp un gd outer).deeper (envOf cn cs L a ccd)) (call (.ref 189) [.ref R, .bytes (nm i).toArray t]) Q E s := by
    refine Kf ?_
    simp (disch := (refine @id _ ?_; k_dflt (
     have zF1 := U 1; have zF2 := U 2; have zF3 := U 3; have zF5 := U 5; have zF6 := U 6; have zF7 := U 7; have zF8 := U 8; have zF9 := U 9
     k_extra "M:enter"
     k_steps
     unfold MStop
     refine' while_ind (FInv s ?zq_g ?zq_L ?zq_l R news H i (.bytes (nm i).toArray t)) 6 ?zq_h ?zq_e ?zq_t
     case zq_h =>
       exact ⟨_, _, _, _, _, [], rfl, by assumption, by assumption, rfl, rfl, rfl, .nil, by decide, by decide, .sym 5 i _ _ rfl (Nat.le_refl _) hi rfl rfl (by simp)⟩
     case zq_e => passes_own
     case zq_t =>
       rintro n s₁ ⟨h, tk, m₁, vs, c, pre, rfl, F₁, N₁, m1, m2, m3, hv, hsz, hn6, ⟨d, j, tc, t5, rfl, hd5, hj, m4, m5, hf⟩ | ⟨k, tc, rfl, hk7, m4, hf⟩⟩
       · obtain ⟨p1, p2⟩ := oct_pos (x := .inl j) hj
         k_steps
         unfold MStop
         k_dflt (refine' c_read_ref ?zq_rB ?zq_rF ?zq_rX ?zq_rN ?zq_rT rfl ?zq_rd ?zq_ru ?zq_rR ?zq_rD ?zq_rA hO hAs RK hj ?_)
         (case zq_rB => k_asm); (case zq_rF => k_asm); (case zq_rX => k_asm); (case zq_rN => k_asm); (case zq_rT => k_asm); (case zq_rd => k_room); (case zq_ru => k_units); (case zq_rR => k_mem); (case zq_rD => k_mem); (case zq_rA => k_mem)
         intro rv h2 tk2 hov F2 N2
         (try k_sweep)
         cases hH : H j with
         | none =>
           have hfol := fol_none (d := d) hH
           rw [hH] at hov
           have hov : rv = .none := hov
           subst hov
           k_steps
           dsimp only [qx, WEnd]
           k_steps
           exact hret _ none _ _ _ _ _ _ _ (by rw [hf, hfol]; rfl) rfl hv.push (by assumption) (by assumption)
         | some x =>
           have ho : CellOk (some x) := hH ▸ RK.ok j hj
           obtain ⟨q1, q2⟩ := oct_pos ho
           rw [hH] at hov
           obtain ⟨tv, rfl⟩ := hov
           cases d with
           | zero =>
             have hfn : fol H 5 i = none := by rw [hf, fol_zero hH]; rfl
             k_steps
             refine' ⟨_, _, _, rfl, ?zq_zzX, ?zq_zze, ?zq_zzE⟩
             case zq_zze => exact News.get (by assumption) (.head _)
             case zq_zzX => exact Frag.In.keeps (by assumption) (Fr.keep (by assumption))
             case zq_zzE =>
               k_steps
               refine' hloop hfn _ _ _ _ ?zq_zzG ?zq_zzS ?zq_zzN ?zq_zzU
               case zq_zzS => exact raisedSN_sub (by assumption) (fun _ hp => .tail _ hp)
               case zq_zzN => exact RaisedSN.toN (raisedSN_sub (by assumption) (fun _ hp => .tail _ hp))
               case zq_zzG => assumption
               case zq_zzU => assumption
           | succ d =>
             k_steps
             cases x with
             | inl k =>
               refine' ⟨d + 1, Nat.lt_succ_self _, _, _, _, _, _, pre ++ [j], rfl, ?zq_zzF, ?zq_zzN, ?zq_zza, ?zq_zzb, ?zq_zzc, hv.push, ?zq_zzz, ?zq_zzy, .sym d k _ _ rfl ?zq_zzx ho ?zq_zzp ?zq_zzq ?zq_zzr⟩
               case zq_zzF => assumption
               case zq_zzN => assumption
               case zq_zza => exact m1
               case zq_zzb => exact m2
               case zq_zzc => exact m3
               case zq_zzz => simp only [Array.size_push]; omega
               case zq_zzy => omega
               case zq_zzx => omega
               case zq_zzp => exact rfl
               case zq_zzq => rw [show (5 - (d : Int)) = 5 - ((d + 1 : Nat) : Int) + 1 from by omega]; exact rfl
               case zq_zzr => rw [hf, fol_sym hH]; simp [Option.map_map, Function.comp_def]
             | inr k =>
               refine' ⟨0, Nat.succ_pos _, _, _, _, _, _, pre ++ [j], rfl, ?zq_zzF, ?zq_zzN, ?zq_zza, ?zq_zzb, ?zq_zzc, hv.push, ?zq_zzz, ?zq_zzy, .val k _ rfl ho ?zq_zzp ?zq_zzr⟩
               case zq_zzF => assumption
               case zq_zzN => assumption
               case zq_zza => exact m1
               case zq_zzb => exact m2
               case zq_zzc => exact m3
               case zq_zzz => simp only [Array.size_push]; omega
               case zq_zzy => omega
               case zq_zzp => exact rfl
               case zq_zzr => rw [hf, fol_val hH]; rfl
       · obtain ⟨p1, p2⟩ := oct_pos (x := .inr k) hk7
         k_steps
         exact hret _ _ _ _ _ _ _ _ _ hf ⟨_, rfl⟩ hv (by assumption) (by assumption)))) only [↓Kn]
end
section
variable {prog : Program} {w : World} {A₀ A : Around} {s : Shared} {base h₀ g₀ : Heap} {outer : List Env} {L : Addr} {env : Env} {m : Str → Option Value} {news : List (Addr × Obj)} {K : Frag} {p : Program} {loose : List Str} {mean : ExcName → Option Value} {mg mb : Str → Option Value}
    {R : Result → Shared → Prop} {name qual : Str} {params : Arguments} {body : List Stmt} {scope : Scope} {dV kV doc pm cdv ct oc : Value} {an od : Option Addr} {osl : Array (Option Value)} {f : Addr} {args : Args} {binds : List (Str × Value)}
theorem frames_of {L : Addr} {env : Env} {outer : List Env} (hf : env.frame = some L) : (env :: outer).filterMap (·.frame) = L :: outer.filterMap (·.frame) := by rw [List.filterMap_cons, hf]
theorem dicts_in {g : Heap} (hf : env.frame = some L) (FG : Fr h₀ L g m) (D : KtsDicts (outer.filterMap (·.frame)) h₀) : KtsDicts ((env :: outer).filterMap (·.frame)) g := fun b hb => by
  rw [frames_of hf] at hb
  rcases List.mem_cons.mp hb with rfl | hb
  · obtain ⟨o, es, ep, h1, h2, _⟩ := FG.ns
    exact ⟨o, es, ep, h1, h2⟩
  · obtain ⟨o, es, n, h1, h2⟩ := D b hb
    exact ⟨o, es, n, FG.keep b o h1, h2⟩
theorem back_turned {g g' : Heap} {L' : Addr} {m' : Str → Option Value} {news' : List (Addr × Obj)} {s' : Shared} {P : Prop}
    (B : Below A₀ base outer h₀) (F : Fr h₀ L s.heap m) (XB : K.In base) (TB : Top p loose mean mg mb base) (D : KtsDicts (outer.filterMap (·.frame)) h₀) (T0 : KtsTurn (outer.filterMap (·.frame)) g₀ h₀) (hf : env.frame = some L)
    (FG : Fr h₀ L g m) (T' : KtsTurn ((env :: outer).filterMap (·.frame)) g g') (F' : Fr g' L' s'.heap m') (N' : News g' L' s'.heap news')
    (k : ∀ h₀', KtsTurn (outer.filterMap (·.frame)) g₀ h₀' → Fr h₀' L s'.heap m → News h₀' L s'.heap news' → Below A₀ base outer h₀' → K.In h₀' → Top p loose mean mg mb h₀' → KtsDicts (outer.filterMap (·.frame)) h₀' → P) : P := by
  rw [frames_of hf] at T'
  have nL : h₀.get? L = none := kts_self F
  obtain ⟨oL, es, ep, hL, hd, hk, hff⟩ := FG.ns
  obtain ⟨sl, hs⟩ := T'.up hL
  have off : ∀ b o, h₀.get? b = some o → b ∉ outer.filterMap (·.frame) → b ∉ L :: outer.filterMap (·.frame) := fun b o e q z => by
    rcases List.mem_cons.mp z with z | z
    · rw [z, nL] at e; cases e
    · exact q z
  obtain ⟨T₁, S₁⟩ := kts_turn_at (h := s'.heap) (fs := outer.filterMap (·.frame)) (g := h₀) (fun b hb => by obtain ⟨_, o, ho', _⟩ := B.frames.mem hb; exact ⟨o, ho'⟩)
    (fun b o e q => F'.keep b o (T'.other b o (FG.keep b o e) (off b o e q)))
    (fun b o e q => by obtain ⟨sl', hs'⟩ := T'.up (FG.keep b o e); exact ⟨sl', F'.keep _ _ hs'⟩)
  have B₃ : Below A₀ base outer (ktsHeap s'.heap (outer.filterMap (·.frame)) h₀) :=
    ⟨B.stack, (fun b o e => T₁.other b o (B.stays b o e) fun hm => by rw [(B.frames.mem hm).1] at e; cases e), B.frames.of_keeps fun b o e _ => by obtain ⟨sl', hs'⟩ := T₁.up e; exact ⟨_, hs', rfl⟩⟩
  refine k _ (T0.trans T₁) ⟨⟨_, es, ep, F'.keep _ _ hs, hd, hk, hff⟩, S₁, by rw [T₁.size]; exact F.above⟩ (fun q hq => ⟨(N' q hq).1, fun z => ?_, T₁.none_ _ ?_⟩) B₃ (XB.keeps B₃.stays) (TB.keeps B₃.stays) (D.turn T₁)
  · have := (N' q hq).2.2; rw [z, hs] at this; cases this
  · cases e : h₀.get? q.1 with
    | none => rfl
    | some o => obtain ⟨sl', hs'⟩ := T'.up (FG.keep _ _ e); have := (N' q hq).2.2; rw [hs'] at this; cases this
theorem turn_up {g g' : Heap} {P : Prop} (B : Below A₀ base outer h₀) (XB : K.In base) (TB : Top p loose mean mg mb base) (D : KtsDicts (outer.filterMap (·.frame)) h₀) (T0 : KtsTurn (outer.filterMap (·.frame)) g₀ h₀) (hf : env.frame = some L)
    (FG : Fr h₀ L g m) (T' : KtsTurn ((env :: outer).filterMap (·.frame)) g g')
    (k : ∀ h₁, KtsTurn (outer.filterMap (·.frame)) g₀ h₁ → Fr h₁ L g' m → Below A₀ base outer h₁ → K.In h₁ → Top p loose mean mg mb h₁ → KtsDicts (outer.filterMap (·.frame)) h₁ → P) : P := by
  rw [frames_of hf] at T'
  have nL : h₀.get? L = none := kts_self FG
  obtain ⟨oL, es, ep, hL, hd, hk, hff⟩ := FG.ns
  obtain ⟨sl, hs⟩ := T'.up hL
  have off : ∀ b o, h₀.get? b = some o → b ∉ outer.filterMap (·.frame) → b ∉ L :: outer.filterMap (·.frame) := fun b o e q z => by
    rcases List.mem_cons.mp z with z | z
    · rw [z, nL] at e; cases e
    · exact q z
  obtain ⟨T₁, S₁⟩ := kts_turn_at (h := g') (fs := outer.filterMap (·.frame)) (g := h₀) (fun b hb => by obtain ⟨_, o, ho', _⟩ := B.frames.mem hb; exact ⟨o, ho'⟩)
    (fun b o e q => T'.other b o (FG.keep b o e) (off b o e q)) (fun b o e q => T'.up (FG.keep b o e))
  have B₃ : Below A₀ base outer (ktsHeap g' (outer.filterMap (·.frame)) h₀) :=
    ⟨B.stack, (fun b o e => T₁.other b o (B.stays b o e) fun hm => by rw [(B.frames.mem hm).1] at e; cases e), B.frames.of_keeps fun b o e _ => by obtain ⟨sl', hs'⟩ := T₁.up e; exact ⟨_, hs', rfl⟩⟩
  exact k _ (T0.trans T₁) ⟨⟨_, es, ep, hs, hd, hk, hff⟩, S₁, by rw [T₁.size]; exact FG.above⟩ B₃ (XB.keeps B₃.stays) (TB.keeps B₃.stays) (D.turn T₁)
theorem enterS (B : Below A₀ base outer h₀) (F : Fr h₀ L s.heap m) (X₀ : K.In h₀) (N : News h₀ L s.heap news) (T : Top p loose mean mg mb h₀) (XB : K.In base) (TB : Top p loose mean mg mb base) (D : KtsDicts (outer.filterMap (·.frame)) h₀)
    (T0 : KtsTurn (outer.filterMap (·.frame)) g₀ h₀) (hA : A.frames = some (env :: outer)) (hf : env.frame = some L) (hke : env.scope.kind = .function)
    (ho : K.lookup f = some ⟨oc, od, .func (fnOf name qual params body scope dV kV doc pm an cdv ct), osl⟩) (hcd : codeIn K cdv qual = true) (hroom : A.depth < recursionLimit)
    (hbind : BindsTo s (fnOf name qual params body scope dV kV doc pm an cdv ct) args binds) (hloc : ∀ y ∈ binds, scope.names.lookup y.1 = some .local)
    (h : ∀ g L' h₁, Fr h₀ L g m → Fr g L' h₁ (fun y => binds.reverse.lookup y) → News g L' h₁ news → Below A base (env :: outer) g → K.In g → Top p loose mean mg mb g → KtsDicts ((env :: outer).filterMap (·.frame)) g →
      wpAny (model prog w) (A.deeper (envOf qual scope L' f cdv)) (execs body (envOf qual scope L' f cdv))
        (fun fl s' => LeaveS ((env :: outer).filterMap (·.frame)) A₀ base outer K p loose mean mg mb g₀ h₀ L m g R (match fl with | .ret v => v | _ => .none) s')
        (fun e s' => wpAny (model prog w) (A.deeper (envOf qual scope L' f cdv)) (leaving (envOf qual scope L' f cdv) e) (fun _ s'' => R (.error e) s'') (fun e' s'' => R (.error e') s'') s')
        { s with heap := h₁, toks := s.toks + binds.length })
    (hco : scope.isCoroutine = false) (hgen : scope.isGenerator = false) (hk : scope.kind = .function)
    (hcell : ∀ x ∈ scope.names, x.2 ≠ .cell) : codeAny (model prog w) A (.call (.ref f) args) R s := by
  obtain ⟨FG, BG, st, lv⟩ := groundX (R := R) B F N hA hf hke
  have X := X₀.keeps F.keep
  refine codeAny_call_def (fd := fnOf name qual params body scope dV kV doc pm an cdv ct) (body := body) (binds := binds) hroom (X _ _ ho) rfl (T.nolimit.keeps F.keep) (codeRec_of X hcd) rfl hbind hcell hloc (fun h₁ hns hk₁ => ?_) hco hgen hk
  refine wpAny_mono (h _ s.heap.objs.size h₁ FG ⟨hns, fun b o e => hk₁ b o (of_hideAll _ e), Nat.le_of_eq (hideAll_size _ _)⟩
    (fun p hp => ⟨hk₁ _ _ (N p hp).1, Nat.ne_of_lt (Heap.lt_size (N p hp).1), hideAll_none _ (List.mem_map_of_mem hp)⟩) BG (X₀.keeps st) (T.keeps st) (dicts_in hf FG D)) (fun fl s' hl => ?_) fun _ _ y => y
  rcases hl with ⟨L', m', news', F', N', k⟩ | ⟨g', L', m', news', T', F', N', k⟩
  · exact lv _ _ ⟨L', m', news', F', N', k⟩
  · exact back_turned B F XB TB D T0 hf FG T' F' N' k
theorem enterS2 {sh : Heap} {sg : Array GenState} {sd : Drawn} {sk : Nat} {so : OsState} {vs : List Value} (B : Below A₀ base outer h₀) (F : Fr h₀ L sh m) (X₀ : K.In h₀) (N : News h₀ L sh news) (T : Top p loose mean mg mb h₀) (XB : K.In base) (TB : Top p loose mean mg mb base) (D : KtsDicts (outer.filterMap (·.frame)) h₀)
    (T0 : KtsTurn (outer.filterMap (·.frame)) g₀ h₀) (hA : A.frames = some (env :: outer)) (hf : env.frame = some L) (hke : env.scope.kind = .function)
    (ho : K.lookup f = some ⟨oc, od, .func (fnOf name qual params body scope dV kV doc pm an cdv ct), osl⟩) (hcd : codeIn K cdv qual = true) (hroom : A.depth < recursionLimit)
    (hbind : BindsTo ⟨sh, sg, sd, sk, so⟩ (fnOf name qual params body scope dV kV doc pm an cdv ct) ⟨vs, []⟩ ((params.args.map (·.arg)).zip vs)) (hloc : ∀ y ∈ (params.args.map (·.arg)).zip vs, scope.names.lookup y.1 = some .local)
    (h : ∀ g L' h₁ tk, let qk : Flow → Shared → Prop := fun fl s' => LeaveS ((env :: outer).filterMap (·.frame)) A₀ base outer K p loose mean mg mb g₀ h₀ L m g R (match fl with | .ret v => v | _ => .none) s'
      let ek : Value → Shared → Prop := fun e s' => wpAny (model prog w) (A.deeper (envOf qual scope L' f cdv)) (leaving (envOf qual scope L' f cdv) e) (fun _ s'' => R (.error e) s'') (fun e' s'' => R (.error e') s'') s'
      Fr h₀ L g m → Fr g L' h₁ (frm (params.args.map (·.arg)) vs) → News g L' h₁ news → Below A base (env :: outer) g → K.In g → Top p loose mean mg mb g → KtsDicts ((env :: outer).filterMap (·.frame)) g →
      wpAny (model prog w) (A.deeper (envOf qual scope L' f cdv)) (execs body (envOf qual scope L' f cdv))
        qk ek
        ⟨h₁, sg, sd, tk, so⟩)
    (hco : scope.isCoroutine = false) (hgen : scope.isGenerator = false) (hk : scope.kind = .function)
    (hcell : ∀ x ∈ scope.names, x.2 ≠ .cell) : codeAny (model prog w) A (.call (.ref f) ⟨vs, []⟩) R ⟨sh, sg, sd, sk, so⟩ :=
  enterS B F X₀ N T XB TB D T0 hA hf hke ho hcd hroom hbind hloc (fun g L' h₁ => h g L' h₁ _) hco hgen hk hcell
end
section
@[reducible] def qls (fs : List Addr) (A₀ : Around) (base : Heap) (outer : List Env) (K : Frag) (p : Program) (loose : List Str) (mean : ExcName → Option Value) (mg mb : Str → Option Value) (g₀ h₀ : Heap) (L : Addr) (m : Str → Option Value) (g : Heap) (R : Result → Shared → Prop) (fl : Flow) (s : Shared) : Prop :=
  Flow.casesOn fl (LeaveS fs A₀ base outer K p loose mean mg mb g₀ h₀ L m g R .none s) (LeaveS fs A₀ base outer K p loose mean mg mb g₀ h₀ L m g R .none s) (LeaveS fs A₀ base outer K p loose mean mg mb g₀ h₀ L m g R .none s) (fun v => LeaveS fs A₀ base outer K p loose mean mg mb g₀ h₀ L m g R v s)
theorem callS3 {qual name : Str} {params : Arguments} {body : List Stmt} {scope : Scope} {dV kV doc pm cdv ct oc : Value} {an od : Option Addr} {osl : Array (Option Value)} {f : Addr} {p : Program} {loose : List Str} {prog : Program} {w : World} {K : Frag} {mean : ExcName → Option Value} {mg mb : Str → Option Value}
    {A A₀ : Around} {base g₀ : Heap} {env : Env} {outer : List Env} {h₀ : Heap} {L : Addr} {m : Str → Option Value} {news : List (Addr × Obj)} {sh : Heap} {sg : Array GenState} {sd : Drawn} {sk : Nat} {so : OsState} {Q E : Value → Shared → Prop} {vs : List Value}
    (B : Below A₀ base outer h₀) (F : Fr h₀ L sh m) (X₀ : K.In h₀) (N : News h₀ L sh news) (T : Top p loose mean mg mb h₀) (XB : K.In base) (TB : Top p loose mean mg mb base) (D : KtsDicts (outer.filterMap (·.frame)) h₀)
    (T0 : KtsTurn (outer.filterMap (·.frame)) g₀ h₀) (hA : A.frames = some (env :: outer)) (hf : env.frame = some L) (hke : env.scope.kind = .function)
    (ho : K.lookup f = some ⟨oc, od, .func (fnOf name qual params body scope dV kV doc pm an cdv ct), osl⟩) (hcd : codeIn K cdv qual = true) (hroom : A.depth < recursionLimit)
    (hbind : bindArgs (fnOf name qual params body scope dV kV doc pm an cdv ct) ⟨vs, []⟩ = pure ((params.args.map (·.arg)).zip vs)) (hloc : (((params.args.map (·.arg)).zip vs).all fun x => decide (scope.names.lookup x.1 = some .local)) = true)
    (h : ∀ g L' h₁ tk, let qk := qls ((env :: outer).filterMap (·.frame)) A₀ base outer K p loose mean mg mb g₀ h₀ L m g (qrs Q E); let ek := qle (model prog w) (A.deeper (envOf qual scope L' f cdv)) (envOf qual scope L' f cdv) (qrs Q E)
      Fr h₀ L g m → Fr g L' h₁ (frm (params.args.map (·.arg)) vs) → News g L' h₁ news → Below A base (env :: outer) g → K.In g → Top p loose mean mg mb g → KtsDicts ((env :: outer).filterMap (·.frame)) g →
      wpAny (model prog w) (A.deeper (envOf qual scope L' f cdv)) (execs body (envOf qual scope L' f cdv)) qk ek ⟨h₁, sg, sd, tk, so⟩)
    (hk : (scope.kind == .function && (scope.isCoroutine == false && scope.isGenerator == false)) = true)
    (hcell : ∀ x ∈ scope.names, x.2 ≠ .cell) : wpAny (model prog w) A (call (.ref f) vs) Q E ⟨sh, sg, sd, sk, so⟩ := by
  obtain ⟨k1, k2⟩ := Bool.and_eq_true_iff.mp hk
  obtain ⟨k2, k3⟩ := Bool.and_eq_true_iff.mp k2
  refine x_call (enterS2 B F X₀ N T XB TB D T0 hA hf hke ho hcd hroom (BindsTo.of_eq hbind) (locs hloc) (fun g L' h₁ tk => ?_) (eq_of_beq k2) (eq_of_beq k3) (eq_of_beq k1) hcell)
  intro qk ek FG F' N' B' X' T' D'
  exact wpAny_mono (h g L' h₁ tk FG F' N' B' X' T' D') (fun fl s h => by cases fl <;> exact h) (fun _ _ h => h)
end
theorem fillK4 : hd.heap_1 = hd.heap_1 ∧ PySem.Challenge.rw_ai0010_01 = PySem.Challenge.rw_ai0010_01 := by
  k_fill
  exact ⟨rfl, rfl⟩
def hexV (o : Nat) : Option Nat := if 48 ≤ o ∧ o ≤ 57 then some (o - 48) else if 65 ≤ o ∧ o ≤ 70 then some (o - 55) else if 97 ≤ o ∧ o ≤ 102 then some (o - 87) else none
theorem hexV_lt {o v : Nat} (h : hexV o = some v) : v < 16 := by
  unfold hexV at h
  split at h
  · cases h; omega
  · split at h
    · cases h; omega
    · split at h
      · cases h; omega
      · cases h
section
variable {dp un : Nat} {gd : Option (List Code)} {env : Env} {outer : List Env} {A₀ : Around} {base h₀ g₀ : Heap} {L : Addr} {m : Str → Option Value} {mean : ExcName → Option Value} {mg mb : Str → Option Value} {w : World} {s : Shared} {Q E : Value → Shared → Prop} {news : List (Addr × Obj)}
theorem c_digit {o : Nat} {v : Nat} {t : Tok} (B : Below (AA dp un gd outer) base outer h₀) (F : Fr h₀ L s.heap m) (X : (hd.heap_1 w.params).In h₀) (N : News h₀ L s.heap news) (T : Top hd.view_1 loose mean mg mb h₀) (hf : env.frame = some L) (hke : env.scope.kind = .function)
   (hdp : dp + 4 < recursionLimit) (hu : un + 40 < cLine) (hv : hexV o = some v)
   (hret : ∀ t' h' tk', Fr h₀ L h' m → News h₀ L h' news → Q (.int (v : Int) t') { s with heap := h', toks := tk' }) :
   wpAny (model PG w) ((AA dp un gd outer).deeper env) (call (.ref 41) [.int (o : Int) t]) Q E s := by
   refine Kf ?_
   simp (disch := (refine @id _ ?_; k_dflt (
    have zF10 := U 10; have zF2 := U 2; have zF3 := U 3
    have hv' : (48 ≤ o ∧ o ≤ 57 ∧ (v : Int) = (o : Int) - 48) ∨ (65 ≤ o ∧ o ≤ 70 ∧ (v : Int) = (o : Int) - 55) ∨ (97 ≤ o ∧ o ≤ 102 ∧ (v : Int) = (o : Int) - 87) := by
      unfold hexV at hv
      split at hv
      · left; cases hv; omega
      · split at hv
        · right; left; cases hv; omega
        · split at hv
          · right; right; cases hv; omega
          · cases hv
    clear hv
    k_extra "M:enter"
    rcases hv' with ⟨h1, h2, h3⟩ | ⟨h1, h2, h3⟩ | ⟨h1, h2, h3⟩
    all_goals k_steps
    all_goals (rw [← h3]; exact hret _ _ _ (by assumption) (by assumption))))) only [↓Kn]
theorem c_digit_no {o : Nat} {t : Tok} (B : Below (AA dp un gd outer) base outer h₀) (F : Fr h₀ L s.heap m) (X : (hd.heap_1 w.params).In h₀) (N : News h₀ L s.heap news) (T : Top hd.view_1 loose mean mg mb h₀) (hf : env.frame = some L) (hke : env.scope.kind = .function) (XB : (hd.heap_1 w.params).In base) (TB : Top hd.view_1 loose mean mg mb base) (D : KtsDicts (outer.filterMap (·.frame)) h₀) (T0 : KtsTurn (outer.filterMap (·.frame)) g₀ h₀)
   (hdp : dp + 4 < recursionLimit) (hu : un + 40 < cLine) (hv : o = 103 ∨ o = 32) 
   (hno : ∀ e h' tk' G, Fr h₀ L G m → RaisedSN base G (env :: outer) e (.type "ValueError") news h' → G.UpToSlots h' → E (.ref e) { s with heap := h', toks := tk' }) :
   wpAny (model PG w) ((AA dp un gd outer).deeper env) (call (.ref 41) [.int (o : Int) t]) Q E s := by
   refine Kf ?_
   simp (disch := (refine @id _ ?_; k_dflt (
    have zF10 := U 10; have zF2 := U 2; have zF3 := U 3
    k_extra "M:enterS"
    rcases hv with rfl | rfl
    all_goals k_steps
    all_goals (rename RaisedS _ _ _ _ _ _ _ _ _ => rS; exact hno _ _ _ _ (by assumption) rS.toSN (by assumption))))) only [↓Kn]
end
section
open PyProof.Rows.LCg
variable {prog : Program} {w : World} {A : Around} {E : Value → Shared → Prop} {s : Shared} {h₀ : Heap} {L : Addr} {m : Str → Option Value} {env : Env}
inductive CompR (prog : Program) (w : World) (A : Around) (h₀ : Heap) (L : Addr) (m : Str → Option Value) (env : Env) (elt : PySem.Expr) (x : Str) (scope : Scope) (cl : List (Str × Addr)) (Q : Value → Shared → Prop) (xv : Value) (s₁ : Shared) : Prop
  | mk : ∀ r a b c t u v n news, xv = .ref r → A.handled = none → Fr h₀ L s₁.heap m → News h₀ L s₁.heap news → IsRange s₁.heap r a b c t u v → Builtin.Range.small a b c = true → Builtin.Range.rangeSize a b c = ((n : Nat) : Int) → n ≤ sizeLine → (∀ s₂ : Shared, (∃ h, s₂ = { s₁ with heap := h }) → CompRest prog w A h₀ L m env elt x scope cl s₂ (fun _ => True) (fun i v => ∃ t, v = .int (a + (i : Int) * c) t) (FinE h₀ L m s₂ Q) n 0 [] news) → CompR prog w A h₀ L m env elt x scope cl Q xv s₁
theorem comp_range {elt iter : PySem.Expr} {x : Str} {px : Pos} {scope : Scope} {cl : List (Str × Addr)} {pos : Pos} {Q : Value → Shared → Prop} (F₀ : Fr h₀ L s.heap m)
    (hclos : closureFor scope env = pure cl) (hcell : ∀ y ∈ scope.names, y.2 ≠ .cell) (hkind : scope.kind = .function)
    (hnames : ∀ y ∈ scope.names, y.2 = .local → scope.names.lookup y.1 = some .local) (hx : scope.names.lookup x = some .local)
    (h : wpAny (model prog w) A (eval iter env) (CompR prog w A h₀ L m env elt x scope cl Q) E s)
    (hs : ∀ x, foldedSetIterable iter env x = pure x := by intro _; rfl) :
    wpAny (model prog w) A (eval (.ListComp elt [⟨.Name x px, iter, [], 0⟩] scope pos) env) Q E s := by
  rw [eval_ListComp]
  refine wpAny_comprehension_free (use := none) rfl hs hclos hkind hnames (wpAny_mono h (fun xv s₁ h₁ => ?_) fun _ _ e => e)
  obtain ⟨r, a, b, c, t, u, v, n, news, rfl, hh, F, N, hr, hsm, hn, hsz, R⟩ := h₁
  refine wpAny_pyIter_range hr hsm ?_
  have up : ∀ b' o', s₁.heap.get? b' = some o' → (s₁.heap.push { cls := .type "range_iterator", data := .fields #[rawInt a, rawInt (Builtin.Range.rangeSize a b c), rawInt c] }).get? b' = some o' := fun _ _ e => Heap.get?_push_of_some _ e
  refine block_U (Walks.range hh s₁.heap.objs.size a c n) hsz (fun i h st => ⟨_, st⟩) (fun i h h' o nw st e e' _ _ _ => by
      have st' : h.get? s₁.heap.objs.size = some _ := st
      show h'.get? s₁.heap.objs.size = some _
      rw [e', ← e]; exact st') hcell hkind hx (by show IsRangeIter _ _ _ _ _; rw [hn]; simpa using Heap.get?_push_size _ rfl) (fun b' hb => ?_)
    (F.keeps up) (N.grown up) (Nat.ne_of_lt F.ns.lt) (next_is_new F) (fun p hp => Nat.ne_of_lt (Heap.lt_size (N p hp).1)) trivial (R _ ⟨_, rfl⟩) ?_
  · rw [List.mem_singleton.mp hb]
    show s₁.heap.objs.size < (s₁.heap.push _).objs.size
    rw [Heap.size_push]; exact Nat.lt_succ_self _
  · intro D C h' tk m' ys news' F' N' o1 hn' hC₀ hD₀ hCL hDL hCD offC fin
    refine ⟨m', hn', fun h'' hs'' => fin D h'' tk (F'.change hs'' hCL hC₀) (fun p hp => ⟨hs''.extBut _ _ ?_ (N' p hp).1, (N' p hp).2⟩) o1⟩
    rcases List.mem_cons.mp hp with rfl | hp
    · exact Ne.symm hCD
    · exact offC p hp
theorem compRest_all {elt : PySem.Expr} {x : Str} {scope : Scope} {cl : List (Str × Addr)} {S : List (Addr × Obj) → Prop} {P : Nat → Value → Prop} {Fin : List Value → List (Addr × Obj) → Prop} {news : List (Addr × Obj)} {n : Nat}
    (I : Nat → List Value → Prop)
    (hS : S news)
    (turn : ∀ i ys v C oC oI D Ia m₂ h tk (E' : Value → Shared → Prop) (Q' : Value → Shared → Prop), i < n → I i ys → P i v → NsObj oC m₂ → m₂ x = some v → Fr h₀ L h m → News h₀ L h ((Ia, oI) :: (C, oC) :: (D, lst ys) :: news) →
      (∀ y h' tk', I (i + 1) (ys ++ [y]) → Fr h₀ L h' m → News h₀ L h' ((Ia, oI) :: (C, oC) :: (D, lst ys) :: news) → Q' y { s with heap := h', toks := tk' }) →
      wpAny (model prog w) A (eval elt (compEnvC scope cl C env)) Q' E' { s with heap := h, toks := tk })
    (fin : ∀ ys, I n ys → Fin ys news) : ∀ k i ys, i + k = n → I i ys → CompRest prog w A h₀ L m env elt x scope cl s S P Fin k i ys news
  | 0, i, ys, e, hI => CompRest.zero (fin ys (by rw [← e]; exact hI))
  | k + 1, i, ys, e, hI => CompRest.succ fun v Ia oI C oC D m₂ h tk E' hP hC hx F N off ne =>
      turn i ys v C oC oI D Ia m₂ h tk E' _ (by omega) hI hP hC hx F N fun y h' tk' hI' F' N' => ⟨h', tk', news, rfl, F', N', off, hS, compRest_all I hS turn fin k (i + 1) (ys ++ [y]) (by omega) hI'⟩
end
def HexB (bl : List UInt8) : Prop := ∀ j, j < bl.length → ∃ v, hexV (bl.getD j 0).toNat = some v
def Octet (v : Value) : Prop := ∃ (n : Nat) (t : Tok), n < 256 ∧ v = .int (n : Int) t
theorem small2 : ∀ k : Fin 41, Builtin.Range.small 0 ((2 * k.val : Nat) : Int) 2 = true := by decide +kernel
theorem octets : ∀ {ys : List Value}, (∀ y ∈ ys, Octet y) → ∃ ns, IntsAre ys ns ∧ ∀ n ∈ ns, 0 ≤ n ∧ n < 256
  | [], _ => ⟨[], .nil, fun _ h => nomatch h⟩
  | y :: ys, h => by
    obtain ⟨ns, h1, h2⟩ := octets fun z hz => h z (.tail _ hz)
    obtain ⟨n, t, hn, rfl⟩ := h y (.head _)
    refine ⟨n :: ns, .cons _ _ h1, fun k hk => ?_⟩
    rcases List.mem_cons.mp hk with rfl | hk
    · omega
    · exact h2 k hk
section
variable {dp un : Nat} {gd : Option (List Code)} {env : Env} {outer : List Env} {A₀ : Around} {base h₀ g₀ : Heap} {L : Addr} {m : Str → Option Value} {mean : ExcName → Option Value} {mg mb : Str → Option Value} {w : World} {s : Shared} {Q E : Value → Shared → Prop} {news : List (Addr × Obj)}
theorem c_unhex {bl : List UInt8} {k : Nat} {t : Tok} {self : Value} (B : Below (AA dp un gd outer) base outer h₀) (F : Fr h₀ L s.heap m) (X : (hd.heap_1 w.params).In h₀) (N : News h₀ L s.heap news) (T : Top hd.view_1 loose mean mg mb h₀) (hf : env.frame = some L) (hke : env.scope.kind = .function)
   (hdp : dp + 8 < recursionLimit) (hu : un + 80 < cLine) (hb : bl.length = 2 * k) (hk : k ≤ 40) (hx : HexB bl)
   (hret : ∀ v h' tk', Fr h₀ L h' m → News h₀ L h' news → Q v { s with heap := h', toks := tk' }) :
   wpAny (model PG w) ((AA dp un gd outer).deeper env) (call (.ref 60) [self, .bytes bl.toArray t]) Q E s := by
   refine Kf ?_
   simp (disch := (refine @id _ ?_; k_dflt (
    have zF10 := U 10; have zF2 := U 2; have zF3 := U 3; have zF11 := U 11; have zF12 := U 12
    have hb' : bl.toArray.size = 2 * k := by simpa using hb
    have hfm : ¬ (((bl.toArray.size : Int).fmod 2 != 0) = true) := by rw [hb', Int.fmod_eq_emod_of_nonneg _ (by decide)]; simp
    k_extra "M:enterC"
    iterate 14 (first | walk1 | (dsimp only; walk1))
    refine ite_neg hfm ?_
    k_steps
    unfold MStop
    refine comp_range (by k_asm) (by with_unfolding_all rfl) (by decide) (by rfl) (by decide) (by rfl) ?_
    k_steps
    refine ⟨_, _, _, _, _, _, _, k, _, rfl, rfl, by k_asm, by k_asm, by assumption, ?_, ?_, ?_, ?_⟩
    · rw [hb']; exact small2 ⟨k, Nat.lt_succ_of_le hk⟩
    · rw [hb']; unfold Builtin.Range.rangeSize; simp; omega
    · exact Nat.le_trans hk (by decide)
    rintro s₂ ⟨h2, rfl⟩
    refine compRest_all (fun i ys => ys.length = i ∧ ∀ y ∈ ys, Octet y) trivial ?_ ?_ k 0 [] (Nat.zero_add _) ⟨rfl, fun _ h => nomatch h⟩
    · intro i ys v C oC oI D Ia m₂ h tk E' Q' hi hI hP hC hxx F N hq
      obtain ⟨t', rfl⟩ := hP
      have hi1 : (0 + (i : Int) * 2).toNat < bl.length := by omega
      have hi2 : (0 + (i : Int) * 2 + 1).toNat < bl.length := by omega
      obtain ⟨v1, hv1⟩ := hx _ hi1
      obtain ⟨v2, hv2⟩ := hx _ hi2
      try dsimp only at *
      k_steps
      have q1 := hexV_lt hv1
      have q2 := hexV_lt hv2
      refine hq _ _ _ ⟨by simp [hI.1], fun y hy => ?_⟩ (by assumption) (by assumption)
      rcases List.mem_append.mp hy with hy | hy
      · exact hI.2 y hy
      · rw [List.mem_singleton.mp hy]
        exact ⟨v1 * 16 + v2, _, by omega, by rw [show ((v1 * 16 + v2 : Nat) : Int) = (v1 : Int) * 16 + v2 from by omega]⟩
    · intro ys hI D h tk F N off
      obtain ⟨ns, h1, h2⟩ := octets hI.2
      k_steps
      all_goals exact hret _ _ _ (by assumption) (by k_extra "M:news")))) only [↓Kn]
end
section
variable {M : Model} {A : Around} {E : Value → Shared → Prop} {s : Shared} {base : Heap} {env : Env} {outer : List Env} {L e : Addr} {cls a0 fl : Value}
theorem noteFrame_same {env env' : Env} (h : env'.frame = env.frame) (e : Value) : noteFrame e env' = noteFrame e env := by unfold noteFrame PySem.frameOf; rw [h]
def AtW (base : Heap) (l : List Env) (e : Addr) (cls a0 fl : Value) (h : Heap) : Prop := base.StaysIn h ∧ base.get? e = none ∧ h.FunFrames base l ∧ h.TracedAtW base e cls a0 fl
theorem leaving_any {Q : Unit → Shared → Prop} (hfr : A.frames = some (env :: outer)) (hf : env.frame = some L) (ha : AtW base (env :: outer) e cls a0 fl s.heap)
    (hQ : ∀ h', Heap.FlyingW base outer e cls a0 h' → s.heap.UpToSlots h' → Q () { s with heap := h' }) : wpAny M A (leaving env (.ref e)) Q E s := by
  obtain ⟨hb, hen, hl, ht⟩ := ha
  by_cases q : fl = rawInt L
  · subst q
    unfold leaving
    refine wpAny_bind (wpAny_noteFrame_againW hf ht ?_)
    refine wpAny_landsW ⟨hb, hen, hl, ht⟩ fun h' hfl hs => ?_
    obtain ⟨k1, k2, ⟨_, _, k3⟩, k4⟩ := hfl
    exact hQ h' ⟨k1, k2, k3, k4⟩ hs
  · obtain ⟨oe, vs, T, oT, ts, he, ⟨hcls, h0⟩, hd, h1, hnT, hTe, hT, hdT, h3⟩ := ht
    subst hcls
    unfold leaving noteFrame
    simp only [hf]
    refine wpAny_bind (wpAny_bind (wpAny_field he hd h1 ?_))
    rw [if_pos (show (Value.ref T != Value.none) = true from by simp)]
    refine wpAny_bind (wpAny_field hT hdT h3 ?_)
    rw [if_neg (show ¬ ((fl == rawInt L) = true) from by simpa using q)]
    refine wpAny_bind (wpAny_setField hT hdT (Array.getElem?_eq_some_iff.mp h3).1 ?_)
    have other : ∀ b, b ≠ T → (s.heap.update T (Obj.mapFields (·.setIfInBounds 3 Value.none))).get? b = s.heap.get? b := fun b n => Heap.get?_update_other _ _ (Ne.symm n)
    have plain : ∀ b o, s.heap.get? b = some o → (∀ vs, o.data ≠ .fields vs) → b ≠ T := fun b o hb hnf z => by
      rw [z, hT] at hb; injection hb with hb; subst hb; exact hnf ts hdT
    refine wpAny_newEntryW hfr (hl.of_keeps fun b o hb hnf => ⟨o, (other b (plain b o hb hnf)).trans hb, rfl⟩) hf ((other e (Ne.symm hTe)).trans he)
      (fun b o hbo => (other b fun z => by rw [z, hnT] at hbo; cases hbo).trans (hb b o hbo)) hen hd (Array.getElem?_eq_some_iff.mp h1).1 h0 fun h' x => ?_
    obtain ⟨x1, ⟨_, _, x2⟩, x3, x4⟩ := x
    exact hQ h' ⟨x1, hen, x2, x3⟩ fun b o hb hnf => x4 b o ((other b (plain b o hb hnf)).trans hb) hnf
theorem passOn_any {α : Type} {what : String} {cenv : Env} {Q : α → Shared → Prop} {l : List Env} (ha : AtW base l e cls a0 fl s.heap)
    (hE : ∀ h' fl', AtW base l e cls a0 fl' h' → s.heap.UpToSlots h' → E (.ref e) { s with heap := h' }) : wpAny M A (PySem.passOn what (.ref e) cenv) Q E s := by
  obtain ⟨hb, hen, hl, ht⟩ := ha
  obtain ⟨oe, vs, T, oT, ts, he, ⟨hcls, h0⟩, hd, h1, hnT, hTe, hT, hdT, h3⟩ := ht
  subst hcls
  have hsz : 3 < ts.size := (Array.getElem?_eq_some_iff.mp h3).1
  unfold PySem.passOn
  refine wpAny_bind (wpAny_field he hd h1 ?_)
  rw [if_neg (show ¬ ((Value.ref T == Value.none) = true) from by simp)]
  refine wpAny_bind ?_
  unfold setFlight
  refine wpAny_bind (wpAny_field he hd h1 ?_)
  rw [if_pos (show (Value.ref T != Value.none) = true from by simp)]
  refine wpAny_setField hT hdT hsz (wpAny_throw ?_)
  generalize hx : (cenv.frame.elim Value.none fun f => rawInt f) = x
  have other : ∀ b, b ≠ T → (s.heap.update T (Obj.mapFields (·.setIfInBounds 3 x))).get? b = s.heap.get? b := fun b n => Heap.get?_update_other _ _ (Ne.symm n)
  have plain : ∀ b o, s.heap.get? b = some o → (∀ vs, o.data ≠ .fields vs) → b ≠ T := fun b o hb hnf z => by
    rw [z, hT] at hb; injection hb with hb; subst hb; exact hnf ts hdT
  refine hE _ x ⟨fun b o q => (other b fun z => by rw [z, hnT] at q; cases q).trans (hb b o q), hen, hl.of_keeps fun b o q hnf => ⟨o, (other b (plain b o q hnf)).trans q, rfl⟩,
    ⟨oe, vs, T, _, _, (other e (Ne.symm hTe)).trans he, ⟨rfl, h0⟩, hd, h1, hnT, hTe, Heap.get?_update_self _ hT (Obj.isFreed_of_fields (Obj.data_mapFields hdT _)), Obj.data_mapFields hdT _, by simp [hsz]⟩⟩ fun b o q hnf => ⟨o.slots, (other b (plain b o q hnf)).trans q⟩
theorem AtW.but {h h' : Heap} {C : Addr} {l : List Env} (ha : AtW base l e cls a0 fl h) (hC : ∃ o, base.get? C = some o) (hl : ∀ env ∈ l, env.frame ≠ some C) (hs : Heap.SameBut C h h') : AtW (hideAll base [C]) l e cls a0 fl h' := by
  obtain ⟨hb, hen, hfr, oe, vs, T, oT, ts, he, hcls, hd, h1, hnT, hTe, hT, hdT, h3⟩ := ha
  obtain ⟨o, hC⟩ := hC
  have none_ : ∀ b, base.get? b = none → (hideAll base [C]).get? b = none := fun b q => by
    cases z : (hideAll base [C]).get? b with
    | none => rfl
    | some o => rw [of_hideAll _ z] at q; cases q
  have eC : e ≠ C := fun z => by rw [z, hC] at hen; cases hen
  have TC : T ≠ C := fun z => by rw [z, hC] at hnT; cases hnT
  have bC : ∀ b o, (hideAll base [C]).get? b = some o → b ≠ C := fun b o q z => by rw [z, hideAll_none _ (.head _)] at q; cases q
  have st : (hideAll base [C]).StaysIn base := fun b o q => of_hideAll _ q
  refine ⟨fun b o q => hs.extBut b o (bC b o q) (hb b o (of_hideAll _ q)), none_ e hen, ?_, oe, vs, T, oT, ts, hs.extBut _ _ eC he, hcls, hd, h1, none_ T hnT, hTe, hs.extBut _ _ TC hT, hdT, h3⟩
  refine (funFrames_base st (funFrames_hideAll (as := [C]) hfr fun env he b hbm => by rw [List.mem_singleton.mp hbm]; exact hl env he)).of_keeps fun b o q hnf => ⟨o, hs.extBut b o (fun z => ?_) (of_hideAll _ q), rfl⟩
  rw [z, hideAll_none _ (.head _)] at q; cases q
end
section
open PyProof.Rows.LCg
variable {prog : Program} {w : World} {A : Around} {E : Value → Shared → Prop} {s : Shared} {h₀ base : Heap} {L : Addr} {m : Str → Option Value} {env : Env} {outer : List Env}
theorem note_as {M : Model} {A : Around} {E : Value → Shared → Prop} {s : Shared} {Q : Unit → Shared → Prop} {env ce : Env} {v : Value} (h : ce.frame = env.frame) (k : wpAny M A (noteFrame v env) Q E s) : wpAny M A (noteFrame v ce) Q E s := by rw [noteFrame_same h]; exact k
inductive CompX (prog : Program) (w : World) (A : Around) (E : Value → Shared → Prop) (base h₀ : Heap) (L : Addr) (m : Str → Option Value) (env : Env) (outer : List Env) (elt : PySem.Expr) (x : Str) (scope : Scope) (cl : List (Str × Addr)) (cls : Value) (xv : Value) (s₁ : Shared) : Prop
  | mk : ∀ r a b c t u v n news, xv = .ref r → A.handled = none → Fr h₀ L s₁.heap m → News h₀ L s₁.heap news → IsRange s₁.heap r a b c t u v → Builtin.Range.small a b c = true → Builtin.Range.rangeSize a b c = ((n : Nat) : Int) → 0 < n → (∀ t I oI C oC D m₂ h tk (E' : Value → Shared → Prop), NsObj oC m₂ → m₂ x = some (.int a t) → Fr h₀ L h m → News h₀ L h ((I, oI) :: (C, oC) :: (D, lst []) :: news) → (∀ e h' tk' G, Fr h₀ L G m → RaisedSN base G (env :: outer) e cls ((I, oI) :: (C, oC) :: (D, lst []) :: news) h' → G.UpToSlots h' → E' (.ref e) { s₁ with heap := h', toks := tk' }) → wpAny (model prog w) A (eval elt (compEnvC scope cl C env)) (fun _ _ => False) E' { s₁ with heap := h, toks := tk }) → (∀ e h' tk' G fl Bb a0, Fr h₀ L G m → base.StaysIn Bb → (∀ b o, G.get? b = some o → b ∉ (env :: outer).filterMap (·.frame) → Bb.get? b = some o) → (∀ q ∈ news, Bb.get? q.1 = some q.2 ∧ G.get? q.1 = none ∧ base.get? q.1 = none) → AtW Bb (env :: outer) e cls a0 fl h' → G.UpToSlots h' → E (.ref e) { s₁ with heap := h', toks := tk' }) → CompX prog w A E base h₀ L m env outer elt x scope cl cls xv s₁
theorem comp_raise {elt iter : PySem.Expr} {x : Str} {px : Pos} {scope : Scope} {cl : List (Str × Addr)} {pos : Pos} {Q : Value → Shared → Prop} (cls : Value) (F₀ : Fr h₀ L s.heap m)
    (hclos : closureFor scope env = pure cl) (hcell : ∀ y ∈ scope.names, y.2 ≠ .cell) (hkind : scope.kind = .function)
    (hnames : ∀ y ∈ scope.names, y.2 = .local → scope.names.lookup y.1 = some .local) (hx : scope.names.lookup x = some .local)
    (hA : A.frames = some (env :: outer)) (hf : env.frame = some L) (hbL : base.StaysIn h₀)
    (h : wpAny (model prog w) A (eval iter env) (CompX prog w A E base h₀ L m env outer elt x scope cl cls) E s)
    (hs : ∀ x, foldedSetIterable iter env x = pure x := by intro _; rfl) :
    wpAny (model prog w) A (eval (.ListComp elt [⟨.Name x px, iter, [], 0⟩] scope pos) env) Q E s := by
  rw [eval_ListComp]
  refine wpAny_comprehension_free (use := none) rfl hs hclos hkind hnames (wpAny_mono h (fun xv s₁ h₁ => ?_) fun _ _ e => e)
  obtain ⟨r, a, b, c, t, u, v, n, news, rfl, hh, F, N, hr, hsm, hn, hpos, R, hE⟩ := h₁
  refine wpAny_pyIter_range hr hsm ?_
  have up : ∀ b' o', s₁.heap.get? b' = some o' → (s₁.heap.push { cls := .type "range_iterator", data := .fields #[rawInt a, rawInt (Builtin.Range.rangeSize a b c), rawInt c] }).get? b' = some o' := fun _ _ e => Heap.get?_push_of_some _ e
  have hI0 : h₀.get? s₁.heap.objs.size = none := next_is_new F
  have hIL : s₁.heap.objs.size ≠ L := Nat.ne_of_gt F.ns.lt
  have Iold : ∀ p ∈ news, p.1 ≠ s₁.heap.objs.size := fun p hp => Nat.ne_of_lt (Heap.lt_size (N p hp).1)
  have F1 := F.keeps up
  have N1 := N.grown up
  generalize hIi : s₁.heap.objs.size = I at *
  have st : IsRangeIter (s₁.heap.push { cls := .type "range_iterator", data := .fields #[rawInt a, rawInt (Builtin.Range.rangeSize a b c), rawInt c] }) I (a + (0 : Nat) * c) ((n : Int) - (0 : Nat)) c := by
    show IsRangeIter _ _ _ _ _
    rw [hn, ← hIi]; simpa using Heap.get?_push_size _ rfl
  generalize s₁.heap.push { cls := .type "range_iterator", data := .fields #[rawInt a, rawInt (Builtin.Range.rangeSize a b c), rawInt c] } = h1 at *
  refine wpAny_newObj_type (wpAny_newFunctionEnv hcell (by intro y hy; simp at hy) (fun h₁ hns₁ hsb₁ => ?_) hkind)
  dsimp only at hns₁ hsb₁ ⊢
  have F2 : Fr h₀ L (h1.push { cls := .type "list", dict := none, data := .seq ([] : List Value).toArray }) m := F1.push _
  have hD0 : h₀.get? h1.objs.size = none := next_is_new F1
  have hDL : h1.objs.size ≠ L := Nat.ne_of_gt F1.ns.lt
  have hDg : (h1.push { cls := .type "list", dict := none, data := .seq ([] : List Value).toArray }).get? h1.objs.size = some (lst []) := Heap.get?_push_size _ rfl
  have up2 : ∀ b o, h1.get? b = some o → (h1.push { cls := .type "list", dict := none, data := .seq ([] : List Value).toArray }).get? b = some o := fun b o e => Heap.get?_push_of_some _ e
  have hID : I ≠ h1.objs.size := Nat.ne_of_lt (Heap.lt_size st)
  have Nd : ∀ p ∈ news, p.1 ≠ h1.objs.size := fun p hp => Nat.ne_of_lt (Heap.lt_size (N1 p hp).1)
  generalize hDd : h1.objs.size = D at *
  have N2 := N1.grown up2
  have st2 : IsRangeIter (h1.push { cls := .type "list", dict := none, data := .seq ([] : List Value).toArray }) I (a + (0 : Nat) * c) ((n : Int) - (0 : Nat)) c := up2 _ _ st
  generalize h1.push { cls := .type "list", dict := none, data := .seq ([] : List Value).toArray } = h2 at *
  have hC0 : h₀.get? h2.objs.size = none := next_is_new F2
  have hCL : h2.objs.size ≠ L := Nat.ne_of_gt F2.ns.lt
  have hIC : I ≠ h2.objs.size := Nat.ne_of_lt (Heap.lt_size st2)
  have hDC : D ≠ h2.objs.size := Nat.ne_of_lt (Heap.lt_size hDg)
  have Nc : ∀ p ∈ news, p.1 ≠ h2.objs.size := fun p hp => Nat.ne_of_lt (Heap.lt_size (N2 p hp).1)
  have old : ∀ b o, h2.get? b = some o → h₁.get? b = some o := fun b o e => hsb₁.extBut b o (Nat.ne_of_lt (Heap.lt_size e)) (Heap.get?_push_of_some _ e)
  have st3 : IsRangeIter h₁ I (a + (0 : Nat) * c) ((n : Int) - (0 : Nat)) c := old _ _ st2
  have F3 : Fr h₀ L h₁ m := F2.keeps old
  have N3 := N2.grown old
  have hD3 := old _ _ hDg
  generalize h2.objs.size = C at *
  let W := Walks.range (prog := prog) (w := w) hh I a c n
  refine codeAny_compStart_list ?_ (W.self 0 _ _ _ st3 ?_) <;>
  · refine codeAny_compLoop_tests (fun k s' => k = 1 ∧ ∃ tk, s' = { s₁ with heap := h₁, toks := tk }) ?_ 1 ⟨rfl, _, rfl⟩
    rintro k s' ⟨rfl, tk, rfl⟩
    refine W.item 0 _ _ _ hpos st3 fun v h₂ tk₂ hPv hst₂ hk₂ => ?_
    obtain ⟨t', rfl⟩ := hPv
    rw [show a + ((0 : Nat) : Int) * c = a from by simp]
    refine wpAny_assign_Name (wpAny_storeName_local (lookup_relabel_local hx) (hns₁.at' fun o e => hk₂ _ o (by simpa using Ne.symm hIC) e) (fun h₃ hn₃ hs₃ => ?_) (by simp [compEnvC, relabel, hkind]))
    refine wpAny_tests_nil ?_
    simp only [if_true]
    obtain ⟨oC, heC, hoC⟩ := ns_obj hn₃
    have heI : h₃.get? I = some _ := hs₃.extBut _ _ hIC hst₂
    have F4 : Fr h₀ L h₃ m := (fr_but F3 hk₂ (Ne.symm hIL) hI0).change hs₃ hCL hC0
    have N4 : News h₀ L h₃ ((I, _) :: (C, oC) :: (D, lst []) :: news) := fun p hp => by
      rcases List.mem_cons.mp hp with rfl | hp
      · exact ⟨heI, hIL, hI0⟩
      rcases List.mem_cons.mp hp with rfl | hp
      · exact ⟨heC, hCL, hC0⟩
      rcases List.mem_cons.mp hp with rfl | hp
      · exact ⟨hs₃.extBut _ _ hDC (hk₂ _ _ (by simpa using Ne.symm hID) hD3), hDL, hD0⟩
      · exact ⟨hs₃.extBut _ _ (Nc p hp) (hk₂ _ _ (by simpa using Iold p hp) (N3 p hp).1), (N3 p hp).2⟩
    refine wpAny_mono (R t' I _ C oC D _ h₃ _ _ hoC (by simp) F4 N4 fun e h' tk' G FG RG hG => ?_) (fun _ _ f => f.elim) fun _ _ z => z
    obtain ⟨Bb, a0, r1, r2, r3, r4⟩ := RG
    unfold notedBy
    refine note_as (env := env) rfl ?_
    refine wpAny_looks_onW hA hf r4 fun h₄ held sm₄ => ?_
    have eC := r3 (C, oC) (.tail _ (.head _))
    refine ⟨_, hoC.ns (held.1 _ _ eC.1), fun h₅ hs₅ cenv' _ => ?_⟩
    have at4 : AtW (hideAll Bb [C]) (env :: outer) e cls a0 (rawInt L) h₅ := AtW.but held ⟨_, eC.1⟩ (fun en he q => by
      have := (held.2.2.1.mem (List.mem_filterMap.mpr ⟨en, he, q⟩)).1
      rw [eC.1] at this; cases this) hs₅
    refine passOn_any at4 fun h₆ fl' at5 sm₆ => ?_
    have bne : ∀ b o, G.get? b = some o → b ≠ C := fun b o q z => by rw [z, eC.2.1] at q; cases q
    refine hE e h₆ _ G fl' (hideAll Bb [C]) a0 FG (fun b o q => hideAll_get _ (r1 b o q) fun z => ?_) (fun b o q nm => hideAll_get _ (r2 b o q nm) fun z => bne b o q (List.mem_singleton.mp z)) (fun q hq => ⟨hideAll_get _ (r3 q (.tail _ (.tail _ (.tail _ hq)))).1 fun z => Nc q hq (List.mem_singleton.mp z), (r3 q (.tail _ (.tail _ (.tail _ hq)))).2⟩) at5 ?_
    · rw [List.mem_singleton.mp z] at q
      rw [hbL _ _ q] at hC0; cases hC0
    · have g4 : G.UpToSlots h₄ := hG.trans sm₄
      have g5 : G.UpToSlots h₅ := fun b o q hnf => let ⟨sl, z⟩ := g4 b o q hnf; ⟨sl, hs₅.extBut _ _ (bne b o q) z⟩
      exact g5.trans sm₆
end
theorem leave_any {M : Model} {A : Around} {E : Value → Shared → Prop} {s' : Shared} {base g G Bb : Heap} {outer : List Env} {env : Env} {L e : Addr} {m : Str → Option Value} {cls a0 fl : Value} {Q : Unit → Shared → Prop} {news : List (Addr × Obj)}
    (hfr : A.frames = some (env :: outer)) (hf : env.frame = some L) (F : Fr g L G m)
    (r1 : base.StaysIn Bb) (r2 : ∀ b o, G.get? b = some o → b ∉ (env :: outer).filterMap (·.frame) → Bb.get? b = some o) (r3 : ∀ q ∈ news, Bb.get? q.1 = some q.2 ∧ G.get? q.1 = none ∧ base.get? q.1 = none)
    (ha : AtW Bb (env :: outer) e cls a0 fl s'.heap) (hsm : G.UpToSlots s'.heap)
    (hQ : ∀ h', RaisedSN base g outer e cls news h' → g.UpToSlots h' → Q () { s' with heap := h' }) : wpAny M A (leaving env (.ref e)) Q E s' :=
  leaving_any hfr hf ha fun h' x1 x2 => hQ h' ⟨Bb, a0, r1, fun b o q nm => r2 b o (F.keep b o q) (fun hm => by
    rw [frames_of hf] at hm
    rcases List.mem_cons.mp hm with z | z
    · rw [z, kts_self F] at q; cases q
    · exact nm z), fun q hq => ⟨(r3 q hq).1, kts_none F.keep (r3 q hq).2.1, (r3 q hq).2.2⟩, x1⟩ ((Heap.UpToSlots.of_keeps F.keep).trans (hsm.trans x2))
section
variable {dp un : Nat} {gd : Option (List Code)} {env : Env} {outer : List Env} {A₀ : Around} {base h₀ g₀ : Heap} {L : Addr} {m : Str → Option Value} {mean : ExcName → Option Value} {mg mb : Str → Option Value} {w : World} {s : Shared} {Q E : Value → Shared → Prop} {news : List (Addr × Obj)}
theorem c_unhex_no {bl : List UInt8} {k : Nat} {t : Tok} {self : Value} (B : Below (AA dp un gd outer) base outer h₀) (F : Fr h₀ L s.heap m) (X : (hd.heap_1 w.params).In h₀) (N : News h₀ L s.heap news) (T : Top hd.view_1 loose mean mg mb h₀) (hf : env.frame = some L) (hke : env.scope.kind = .function) (XB : (hd.heap_1 w.params).In base) (TB : Top hd.view_1 loose mean mg mb base) (D : KtsDicts (outer.filterMap (·.frame)) h₀) (T0 : KtsTurn (outer.filterMap (·.frame)) g₀ h₀)
   (hdp : dp + 8 < recursionLimit) (hu : un + 80 < cLine) (hb : bl.length = 2 * k) (hk : k ≤ 40) (hk0 : 0 < k) (hx : (bl.getD 0 0).toNat = 103 ∨ (bl.getD 0 0).toNat = 32)
   (hno : ∀ e h' tk' G, Fr h₀ L G m → RaisedSN base G (env :: outer) e (.type "ValueError") news h' → G.UpToSlots h' → E (.ref e) { s with heap := h', toks := tk' }) :
   wpAny (model PG w) ((AA dp un gd outer).deeper env) (call (.ref 60) [self, .bytes bl.toArray t]) Q E s := by
   refine Kf ?_
   simp (disch := (refine @id _ ?_; k_dflt (
    have zF10 := U 10; have zF2 := U 2; have zF3 := U 3; have zF13 := U 13
    have hb' : bl.toArray.size = 2 * k := by simpa using hb
    have hfm : ¬ (((bl.toArray.size : Int).fmod 2 != 0) = true) := by rw [hb', Int.fmod_eq_emod_of_nonneg _ (by decide)]; simp
    k_extra "M:enterC"
    have D' := dicts_in hf (by assumption : Fr h₀ L _ m) D
    iterate 14 (first | walk1 | (dsimp only; walk1))
    refine ite_neg hfm ?_
    k_steps
    unfold MStop
    refine comp_raise (.type "ValueError") (by k_asm) (by with_unfolding_all rfl) (by decide) (by rfl) (by decide) (by rfl) (Around.frames_deeper rfl) rfl (Below.stays (by k_asm)) ?_
    k_steps
    refine ⟨_, _, _, _, _, _, _, k, _, rfl, rfl, by k_asm, by k_asm, by assumption, ?_, ?_, hk0, ?_, ?_⟩
    · rw [hb']; exact small2 ⟨k, Nat.lt_succ_of_le hk⟩
    · rw [hb']; unfold Builtin.Range.rangeSize; simp; omega
    · intro t Ia oI C oC D m₂ h tk E' hC hxx F N hq
      have hi1 : (0 : Int).toNat < bl.length := by simp; omega
      k_steps
      all_goals exact hq _ _ _ _ (by assumption) (by assumption) (by assumption)
    · intro e h' tk' G fl Bb a0 FG r1 r2 r3 ha hG
      refine leave_any (Around.frames_deeper rfl) rfl FG r1 r2 (fun q hq => r3 q (.tail _ hq)) ha hG fun h'' RS US => ?_
      k_steps
      all_goals exact hno _ _ _ _ (by assumption) RS US))) only [↓Kn]
end
theorem truthy_is {M : Model} {A : Around} {E : Value → Shared → Prop} {s : Shared} {b r : Bool} {Q : Bool → Shared → Prop} (e : b = r) (h : Q r s) : wpAny M A (truthy (.bool b)) Q E s := by
  subst e; exact wpAny_pure h
theorem len_no {n : Nat} (h1 : n ≠ 40) (h2 : n ≠ 64) : (!([40, 64] : List Int).any fun x => x == (n : Int)) = true := by
  simp; omega
theorem len_in {n : Nat} (h : n = 40 ∨ n = 64) : (!([40, 64] : List Int).any fun x => x == (n : Int)) = false := by
  rcases h with rfl | rfl <;> decide
section
variable {dp un : Nat} {gd : Option (List Code)} {env : Env} {outer : List Env} {A₀ : Around} {base h₀ g₀ : Heap} {L : Addr} {m : Str → Option Value} {mean : ExcName → Option Value} {mg mb : Str → Option Value} {w : World} {s : Shared} {Q E : Value → Shared → Prop} {news : List (Addr × Obj)}
theorem c_valid_len {bl : List UInt8} {t : Tok} (B : Below (AA dp un gd outer) base outer h₀) (F : Fr h₀ L s.heap m) (X : (hd.heap_1 w.params).In h₀) (N : News h₀ L s.heap news) (T : Top hd.view_1 loose mean mg mb h₀) (hf : env.frame = some L) (hke : env.scope.kind = .function)
   (hdp : dp + 12 < recursionLimit) (hu : un + 120 < cLine) (hb : bl.length ≤ 200) (hb1 : bl.length ≠ 40) (hb2 : bl.length ≠ 64)
   (hret : ∀ h' tk', Fr h₀ L h' m → News h₀ L h' news → Q (.bool false) { s with heap := h', toks := tk' }) :
   wpAny (model PG w) ((AA dp un gd outer).deeper env) (call (.ref 83) [.bytes bl.toArray t]) Q E s := by
   refine Kf ?_
   simp (disch := (refine @id _ ?_; k_dflt (
    have zF10 := U 10; have zF2 := U 2; have zF3 := U 3; have zF14 := U 14; have zF15 := U 15
    have hV : (!([40, 64] : List Int).any fun x => x == (bl.toArray.size : Int)) = true := len_no (by simpa using hb1) (by simpa using hb2)
    k_extra "M:enter"
    k_steps
    all_goals exact hret _ _ (by assumption) (by k_extra "M:news")))) only [↓Kn]
theorem c_valid_ok {bl : List UInt8} {k : Nat} {t : Tok} (B : Below (AA dp un gd outer) base outer h₀) (F : Fr h₀ L s.heap m) (X : (hd.heap_1 w.params).In h₀) (N : News h₀ L s.heap news) (T : Top hd.view_1 loose mean mg mb h₀) (hf : env.frame = some L) (hke : env.scope.kind = .function)
   (hdp : dp + 12 < recursionLimit) (hu : un + 120 < cLine) (hb : bl.length = 2 * k) (hk : k ≤ 40) (hk' : k = 20 ∨ k = 32) (hx : HexB bl)
   (hret : ∀ h' tk', Fr h₀ L h' m → News h₀ L h' news → Q (.bool true) { s with heap := h', toks := tk' }) :
   wpAny (model PG w) ((AA dp un gd outer).deeper env) (call (.ref 83) [.bytes bl.toArray t]) Q E s := by
   refine Kf ?_
   simp (disch := (refine @id _ ?_; k_dflt (
    have zF10 := U 10; have zF2 := U 2; have zF3 := U 3; have zF14 := U 14; have zF15 := U 15
    have hV : (!([40, 64] : List Int).any fun x => x == (bl.toArray.size : Int)) = false := len_in (by simp; omega)
    k_extra "M:enter"
    k_steps
    all_goals exact hret _ _ (by assumption) (by k_extra "M:news")))) only [↓Kn]
theorem c_valid_no {bl : List UInt8} {k : Nat} {t : Tok} (B : Below (AA dp un gd outer) base outer h₀) (F : Fr h₀ L s.heap m) (X : (hd.heap_1 w.params).In h₀) (N : News h₀ L s.heap news) (T : Top hd.view_1 loose mean mg mb h₀) (hf : env.frame = some L) (hke : env.scope.kind = .function) (XB : (hd.heap_1 w.params).In base) (TB : Top hd.view_1 loose mean mg mb base) (D : KtsDicts (outer.filterMap (·.frame)) h₀) (T0 : KtsTurn (outer.filterMap (·.frame)) g₀ h₀)
   (hdp : dp + 12 < recursionLimit) (hu : un + 120 < cLine) (hb : bl.length = 2 * k) (hk : k ≤ 40) (hk0 : 0 < k) (hk' : k = 20 ∨ k = 32) (hx : (bl.getD 0 0).toNat = 103 ∨ (bl.getD 0 0).toNat = 32)
   (hret : ∀ h₁ h' tk', KtsTurn (outer.filterMap (·.frame)) g₀ h₁ → Fr h₁ L h' m → News h₁ L h' news → Below (AA dp un gd outer) base outer h₁ → (hd.heap_1 w.params).In h₁ → Top hd.view_1 loose mean mg mb h₁ → KtsDicts (outer.filterMap (·.frame)) h₁ → Q (.bool false) { s with heap := h', toks := tk' }) :
   wpAny (model PG w) ((AA dp un gd outer).deeper env) (call (.ref 83) [.bytes bl.toArray t]) Q E s := by
   refine Kf ?_
   simp (disch := (refine @id _ ?_; k_dflt (
    have zF10 := U 10; have zF2 := U 2; have zF3 := U 3; have zF14 := U 14; have zF15 := U 15
    have hV : (!([40, 64] : List Int).any fun x => x == (bl.toArray.size : Int)) = false := len_in (by simp; omega)
    k_extra "M:enterS"
    k_steps
    all_goals exact hret _ _ _ (by assumption) (by assumption) (by k_extra "M:news") (by assumption) (by assumption) (by assumption) (by assumption)))) only [↓Kn]
end
section
open Builtin
theorem slot_repr : Slot "bytes" "__repr__" "bytes.__repr__" :=
  .of (owner := "bytes") (n := "__repr__") (by rw [typeLookup_type, builtinLookup_eq_fast]; kernel_rfl) (by decide +kernel) (by decide +kernel) (by decide +kernel)
    (by first | exact .inl (by decide +kernel) | exact .inr (by decide +kernel)) (by rw [isSubtype_type]; kernel_rfl)
theorem entry_repr : entryFor table "bytes.__repr__" = some Builtin.«bytes.__repr__» := entryFor_of_tree (by kernel_rfl)
theorem args_repr (a : Value) : argsOk "bytes.__repr__" ⟨[a], []⟩ := by
  unfold argsOk; rw [signature?_of (id := "bytes.__repr__") (n := ['_', '_', 'r', 'p', 'e', 'r', '_', '_']) (o := ['s', 'e', 't', 'y', 'b']) (by kernel_rfl) FB.owner_bytes]; kernel_rfl
def shownB (b : Array UInt8) : Str := Bytes.literal b false
theorem shown_len (b : Array UInt8) : (shownB b).length ≤ 4 * b.size + 3 := by
  unfold shownB Bytes.literal
  simp only [Str.length, Array.size_push]
  have : ∀ (f : Array Nat → UInt8 → Array Nat), (∀ a c, (f a c).size ≤ a.size + 4) → ∀ (l : List UInt8) (a : Array Nat), (l.foldl f a).size ≤ a.size + 4 * l.length := by
    intro f hf l
    induction l with
    | nil => intro a; simp
    | cons x r ih => intro a; have := ih (f a x); have := hf a x; simp only [List.foldl_cons, List.length_cons]; omega
  rw [← Array.foldl_toList]
  refine Nat.le_trans (Nat.succ_le_succ (this _ (fun a c => ?_) b.toList _)) ?_
  · rw [Array.size_append]
    refine Nat.add_le_add_left ?_ _
    repeat' split
    all_goals simp
  · simp; omega
theorem gives_repr {b : Array UInt8} {t : Tok} (hb : b.size ≤ 200) : Gives («bytes.__repr__» ⟨[.bytes b t], []⟩) (.str (shownB b)) := by
  have e : Bytes.literalAsked b = pure (shownB b) := by
    unfold Bytes.literalAsked
    have z : Bytes.tooLong (4 * b.size + 3 + 0) = false := decide_eq_false (by rw [sizeLine_eq]; omega)
    simp only [z, Bool.false_and, Bool.false_eq_true, if_false]
    rfl
  exact .of_eq (by show (Bytes.literalAsked b >>= fun x => retStr x) = _; rw [e]; rfl)
theorem repr_bytes {prog : Program} {w : World} {A : Around} {E : Value → Shared → Prop} {s : Shared} {b : Array UInt8} {t : Tok} {Q : Value → Shared → Prop} (hb : b.size ≤ 200) (h : ∀ txt : Str, txt.length ≤ 1000 → Q (.str txt s.toks) { s with toks := s.toks + 1 }) : wpAny (model prog w) A (pyReprObj (.bytes b t)) Q E s := by
  have hl : (shownB b).length ≤ 1000 := Nat.le_trans (shown_len b) (by omega)
  exact wpAny_pyReprObj_gives (typeIs_bytes _ _ _) slot_repr entry_repr (args_repr _) (gives_repr hb) (h _ hl) (hx := Nat.le_trans hl (by decide))
theorem joins_txt {M : Model} {A : Around} {E : Value → Shared → Prop} {s : Shared} {env : Env} {txt lit : Str} {Q : Value → Shared → Prop} (h1 : txt.length ≤ 1000) (h2 : lit.length ≤ 1000) (h : ∀ out : Str, Q (.str out s.toks) { s with toks := s.toks + 1 }) :
    wpAny M A (joinParts (Str.empty ++ txt ++ lit) (evalEach [] env)) Q E s := by
  refine joinParts_nilE (joinParts_nil (h _) ?_)
  have e : (Str.empty ++ txt ++ lit).length = txt.length + lit.length := by
    show ((#[] ++ txt.cps) ++ lit.cps).size = txt.cps.size + lit.cps.size
    simp
  rw [e, sizeLine_eq]; omega
end
section
variable {dp un : Nat} {gd : Option (List Code)} {env : Env} {outer : List Env} {A₀ : Around} {base h₀ g₀ : Heap} {L : Addr} {m : Str → Option Value} {mean : ExcName → Option Value} {mg mb : Str → Option Value} {w : World} {s : Shared} {Q E : Value → Shared → Prop} {news : List (Addr × Obj)}
theorem c_check_ok {bl : List UInt8} {k : Nat} {t : Tok} {self : Value} (B : Below (AA dp un gd outer) base outer h₀) (F : Fr h₀ L s.heap m) (X : (hd.heap_1 w.params).In h₀) (N : News h₀ L s.heap news) (T : Top hd.view_1 loose mean mg mb h₀) (hf : env.frame = some L) (hke : env.scope.kind = .function)
   (hdp : dp + 16 < recursionLimit) (hu : un + 160 < cLine) (hb : bl.length = 2 * k) (hk : k ≤ 40) (hk' : k = 20 ∨ k = 32) (hx : HexB bl)
   (hret : ∀ h' tk', Fr h₀ L h' m → News h₀ L h' news → Q .none { s with heap := h', toks := tk' }) :
   wpAny (model PG w) ((AA dp un gd outer).deeper env) (call (.ref 175) [self, .bytes bl.toArray t]) Q E s := by
   refine Kf ?_
   simp (disch := (refine @id _ ?_; k_dflt (
    have zF10 := U 10; have zF2 := U 2; have zF3 := U 3; have zF16 := U 16; have zF17 := U 17
    k_extra "M:enter"
    k_steps
    all_goals exact hret _ _ (by assumption) (by k_extra "M:news")))) only [↓Kn]
theorem c_check_sym {bl : List UInt8} {t : Tok} {self : Value} (B : Below (AA dp un gd outer) base outer h₀) (F : Fr h₀ L s.heap m) (X : (hd.heap_1 w.params).In h₀) (N : News h₀ L s.heap news) (T : Top hd.view_1 loose mean mg mb h₀) (hf : env.frame = some L) (hke : env.scope.kind = .function)
   (hdp : dp + 16 < recursionLimit) (hu : un + 160 < cLine) (hb : bl.length ≤ 200) (hb1 : bl.length ≠ 40) (hb2 : bl.length ≠ 64) (hS : startsB bl.toArray #[114, 101, 102, 58, 32] = true)
   (hret : ∀ h' tk', Fr h₀ L h' m → News h₀ L h' news → Q .none { s with heap := h', toks := tk' }) :
   wpAny (model PG w) ((AA dp un gd outer).deeper env) (call (.ref 175) [self, .bytes bl.toArray t]) Q E s := by
   refine Kf ?_
   simp (disch := (refine @id _ ?_; k_dflt (
    have zF10 := U 10; have zF2 := U 2; have zF3 := U 3; have zF16 := U 16; have zF17 := U 17
    k_extra "M:enter"
    k_steps
    all_goals exact hret _ _ (by assumption) (by k_extra "M:news")))) only [↓Kn]
theorem c_check_len {bl : List UInt8} {t : Tok} {self : Value} (B : Below (AA dp un gd outer) base outer h₀) (F : Fr h₀ L s.heap m) (X : (hd.heap_1 w.params).In h₀) (N : News h₀ L s.heap news) (T : Top hd.view_1 loose mean mg mb h₀) (hf : env.frame = some L) (hke : env.scope.kind = .function) (XB : (hd.heap_1 w.params).In base) (TB : Top hd.view_1 loose mean mg mb base) (D : KtsDicts (outer.filterMap (·.frame)) h₀) (T0 : KtsTurn (outer.filterMap (·.frame)) g₀ h₀)
   (hdp : dp + 16 < recursionLimit) (hu : un + 160 < cLine) (hb : bl.length ≤ 200) (hb1 : bl.length ≠ 40) (hb2 : bl.length ≠ 64) (hS : startsB bl.toArray #[114, 101, 102, 58, 32] = false)
   (hno : ∀ e h' tk' G, Fr h₀ L G m → RaisedSN base G (env :: outer) e (.type "ValueError") news h' → G.UpToSlots h' → E (.ref e) { s with heap := h', toks := tk' }) :
   wpAny (model PG w) ((AA dp un gd outer).deeper env) (call (.ref 175) [self, .bytes bl.toArray t]) Q E s := by
   refine Kf ?_
   simp (disch := (refine @id _ ?_; k_dflt (
    have zF10 := U 10; have zF2 := U 2; have zF3 := U 3; have zF16 := U 16; have zF17 := U 17; have zF18 := U 18
    have hbs : bl.toArray.size ≤ 200 := by simpa using hb
    k_extra "M:enterS"
    k_steps
    all_goals (rename RaisedS _ _ _ _ _ _ _ _ _ => rS; exact hno _ _ _ _ (by assumption) (raisedSN_sub rS.toSN (by intro p hp; first | exact hp | exact .tail _ hp)) (by assumption))))) only [↓Kn]
theorem c_check_bad {bl : List UInt8} {k : Nat} {t : Tok} {self : Value} (B : Below (AA dp un gd outer) base outer h₀) (F : Fr h₀ L s.heap m) (X : (hd.heap_1 w.params).In h₀) (N : News h₀ L s.heap news) (T : Top hd.view_1 loose mean mg mb h₀) (hf : env.frame = some L) (hke : env.scope.kind = .function) (XB : (hd.heap_1 w.params).In base) (TB : Top hd.view_1 loose mean mg mb base) (D : KtsDicts (outer.filterMap (·.frame)) h₀) (T0 : KtsTurn (outer.filterMap (·.frame)) g₀ h₀)
   (hdp : dp + 16 < recursionLimit) (hu : un + 160 < cLine) (hb : bl.length = 2 * k) (hk : k ≤ 40) (hk0 : 0 < k) (hk' : k = 20 ∨ k = 32) (hx : (bl.getD 0 0).toNat = 103 ∨ (bl.getD 0 0).toNat = 32) (hS : startsB bl.toArray #[114, 101, 102, 58, 32] = false)
   (hno : ∀ e h₁ h' tk' G, KtsTurn (outer.filterMap (·.frame)) g₀ h₁ → Fr h₁ L G m → Below (AA dp un gd outer) base outer h₁ → (hd.heap_1 w.params).In h₁ → Top hd.view_1 loose mean mg mb h₁ → KtsDicts (outer.filterMap (·.frame)) h₁ → RaisedSN base G (env :: outer) e (.type "ValueError") news h' → G.UpToSlots h' → E (.ref e) { s with heap := h', toks := tk' }) :
   wpAny (model PG w) ((AA dp un gd outer).deeper env) (call (.ref 175) [self, .bytes bl.toArray t]) Q E s := by
   refine Kf ?_
   simp (disch := (refine @id _ ?_; k_dflt (
    have zF10 := U 10; have zF2 := U 2; have zF3 := U 3; have zF16 := U 16; have zF17 := U 17; have zF18 := U 18
    have hbs : bl.toArray.size ≤ 200 := by simp; omega
    k_extra "M:enterS"
    k_steps
    all_goals (rename RaisedS _ _ _ _ _ _ _ _ _ => rS; rename KtsTurn ((env :: outer).filterMap _) _ _ => rT; refine' turn_up B XB TB D T0 hf (by assumption : Fr h₀ L _ m) rT fun h₁ k1 k2 k3 k4 k5 k6 => hno _ _ _ _ _ k1 k2 k3 k4 k5 k6 (raisedSN_sub rS.toSN (by intro p hp; first | exact hp | exact .tail _ hp)) (by assumption))))) only [↓Kn]
end
section
open Builtin
variable {prog : Program} {w : World} {A : Around} {E : Value → Shared → Prop} {s : Shared} {Q : Value → Shared → Prop} {b : Array UInt8} {t u : Tok} {a : Int}
theorem sub_None_bytes : isSubtype (.type "NoneType") (.type "bytes") = pure false := by rw [isSubtype_type]; kernel_rfl
theorem declines_ne {x : Value} {Tx : String} (hx : ∀ s : Shared, s.TypeIs x Tx) (hsub : isSubtype (.type Tx) (.type "bytes") = pure false) : Gives («bytes.__ne__» ⟨[.bytes b t, x], []⟩) (.val .notImplemented) := by
  refine .of_wp fun M A E s Q hq => ?_
  show wpAny M A (isInstance x (.type "bytes") >>= fun r => _) _ E s
  refine wpAny_bind (wpAny_isInstance (b := false) (hx s) hsub ?_)
  exact wpAny_bind (wpAny_rule (wpAny_pure ⟨_, rfl, hq⟩))
theorem declines_eq {x : Value} {Tx : String} (hx : ∀ s : Shared, s.TypeIs x Tx) (hsub : isSubtype (.type Tx) (.type "bytes") = pure false) : Gives («bytes.__eq__» ⟨[.bytes b t, x], []⟩) (.val .notImplemented) := by
  refine .of_wp fun M A E s Q hq => ?_
  show wpAny M A (isInstance x (.type "bytes") >>= fun r => _) _ E s
  refine wpAny_bind (wpAny_isInstance (b := false) (hx s) hsub ?_)
  exact wpAny_bind (wpAny_rule (wpAny_pure ⟨_, rfl, hq⟩))
theorem none_ne : Gives («NoneType.__ne__» ⟨[.none, .bytes b t], []⟩) (.val .notImplemented) := by
  refine .of_wp fun M A E s Q hq => ?_
  exact wpAny_pure ⟨_, rfl, hq⟩
theorem none_eq : Gives («NoneType.__eq__» ⟨[.none, .bytes b t], []⟩) (.val .notImplemented) := by
  refine .of_wp fun M A E s Q hq => ?_
  exact wpAny_pure ⟨_, rfl, hq⟩
theorem ne_none_bytes (h : Q (.bool true) s) : wpAny (model prog w) A (compareOp .NotEq .none (.bytes b t)) Q E s := by
  show wpAny _ A (richCompare .NotEq _ _) Q E s
  exact EqNone.wpAny_richCompare_ne_decline (k := false) (fun _ => rfl) (fun s' => typeIs_bytes s' b t) (by decide) PySem.F.sub_bytes_NoneType PySem.F.slot_NoneType_ne FB.slot_bytes_ne rfl
    (call_gives PySem.F.slot_NoneType_ne rfl PySem.F.entry_NoneType_ne (PySem.F.args_NoneType_ne_2 _ _) none_ne
      ⟨rfl, call_gives FB.slot_bytes_ne (typeIs_bytes s b t) FB.entry_bytes_ne (FB.args_bytes_ne_2 _ _) (declines_ne (Tx := "NoneType") (fun _ => rfl) sub_None_bytes) ⟨rfl, h⟩⟩)
theorem ne_bytes_none (h : Q (.bool true) s) : wpAny (model prog w) A (compareOp .NotEq (.bytes b t) .none) Q E s := by
  show wpAny _ A (richCompare .NotEq _ _) Q E s
  exact EqNone.wpAny_richCompare_ne_decline (k := false) (fun s' => typeIs_bytes s' b t) (fun _ => rfl) (by decide) sub_None_bytes FB.slot_bytes_ne PySem.F.slot_NoneType_ne_refl rfl
    (call_gives FB.slot_bytes_ne (typeIs_bytes s b t) FB.entry_bytes_ne (FB.args_bytes_ne_2 _ _) (declines_ne (Tx := "NoneType") (fun _ => rfl) sub_None_bytes)
      ⟨rfl, call_gives PySem.F.slot_NoneType_ne_refl rfl PySem.F.entry_NoneType_ne (PySem.F.args_NoneType_ne_2 _ _) none_ne ⟨rfl, h⟩⟩)
theorem eq_none_bytes (h : Q (.bool false) s) : wpAny (model prog w) A (compareOp .Eq .none (.bytes b t)) Q E s := by
  show wpAny _ A (richCompare .Eq _ _) Q E s
  exact EqNone.wpAny_richCompare_eq_decline (k := false) (fun _ => rfl) (fun s' => typeIs_bytes s' b t) (by decide) PySem.F.sub_bytes_NoneType PySem.F.slot_NoneType_eq FB.slot_bytes_eq rfl
    (call_gives PySem.F.slot_NoneType_eq rfl PySem.F.entry_NoneType_eq (PySem.F.args_NoneType_eq_2 _ _) none_eq
      ⟨rfl, call_gives FB.slot_bytes_eq (typeIs_bytes s b t) FB.entry_bytes_eq (FB.args_bytes_eq_2 _ _) (declines_eq (Tx := "NoneType") (fun _ => rfl) sub_None_bytes) ⟨rfl, h⟩⟩)
theorem eq_bytes_none (h : Q (.bool false) s) : wpAny (model prog w) A (compareOp .Eq (.bytes b t) .none) Q E s := by
  show wpAny _ A (richCompare .Eq _ _) Q E s
  exact EqNone.wpAny_richCompare_eq_decline (k := false) (fun s' => typeIs_bytes s' b t) (fun _ => rfl) (by decide) sub_None_bytes FB.slot_bytes_eq PySem.F.slot_NoneType_eq_refl rfl
    (call_gives FB.slot_bytes_eq (typeIs_bytes s b t) FB.entry_bytes_eq (FB.args_bytes_eq_2 _ _) (declines_eq (Tx := "NoneType") (fun _ => rfl) sub_None_bytes)
      ⟨rfl, call_gives PySem.F.slot_NoneType_eq_refl rfl PySem.F.entry_NoneType_eq (PySem.F.args_NoneType_eq_2 _ _) none_eq ⟨rfl, h⟩⟩)
theorem int_ne : Gives («int.__ne__» ⟨[.int a u, .bytes b t], []⟩) (.val .notImplemented) := .of_wp fun M A E s Q h => by obtain ⟨hp, g, d, tk, os⟩ := s; wp_walk; exact ⟨_, rfl, h⟩
theorem int_eq : Gives («int.__eq__» ⟨[.int a u, .bytes b t], []⟩) (.val .notImplemented) := .of_wp fun M A E s Q h => by obtain ⟨hp, g, d, tk, os⟩ := s; wp_walk; exact ⟨_, rfl, h⟩
theorem ne_int_bytes (h : Q (.bool true) s) : wpAny (model prog w) A (compareOp .NotEq (.int a u) (.bytes b t)) Q E s := by
  show wpAny _ A (richCompare .NotEq _ _) Q E s
  exact EqNone.wpAny_richCompare_ne_decline (k := false) (fun s' => typeIs_int s' a u) (fun s' => typeIs_bytes s' b t) (by decide) PySem.F.sub_bytes_int PySem.F.slot_int_ne FB.slot_bytes_ne rfl
    (call_gives PySem.F.slot_int_ne (typeIs_int s a u) PySem.F.entry_int_ne (PySem.F.args_int_ne_2 _ _) int_ne
      ⟨rfl, call_gives FB.slot_bytes_ne (typeIs_bytes s b t) FB.entry_bytes_ne (FB.args_bytes_ne_2 _ _) (declines_ne (Tx := "int") (fun s => typeIs_int s a u) PySem.F.sub_int_bytes) ⟨rfl, h⟩⟩)
theorem ne_bytes_int (h : Q (.bool true) s) : wpAny (model prog w) A (compareOp .NotEq (.bytes b t) (.int a u)) Q E s := by
  show wpAny _ A (richCompare .NotEq _ _) Q E s
  exact EqNone.wpAny_richCompare_ne_decline (k := false) (fun s' => typeIs_bytes s' b t) (fun s' => typeIs_int s' a u) (by decide) PySem.F.sub_int_bytes FB.slot_bytes_ne PySem.F.slot_int_ne_refl rfl
    (call_gives FB.slot_bytes_ne (typeIs_bytes s b t) FB.entry_bytes_ne (FB.args_bytes_ne_2 _ _) (declines_ne (Tx := "int") (fun s => typeIs_int s a u) PySem.F.sub_int_bytes)
      ⟨rfl, call_gives PySem.F.slot_int_ne_refl (typeIs_int s a u) PySem.F.entry_int_ne (PySem.F.args_int_ne_2 _ _) int_ne ⟨rfl, h⟩⟩)
end
section
open Builtin
variable {prog : Program} {w : World} {A : Around} {E : Value → Shared → Prop} {s : Shared} {b c : Array UInt8} {t u : Tok}
theorem bytes_no_index : typeLookup (.type "bytes") "__index__" = pure none := by rw [typeLookup_type, builtinLookup_eq_fast]; kernel_rfl
theorem bytes_name : typeName (.type "bytes") = pure "bytes" := by unfold typeName; rw [find?_eq_fast]; kernel_rfl
theorem name_bytes {n : Nat} {Q : String → Shared → Prop} (h : Q "bytes" s) : wpAny (model prog w) A (typeNameOfCut n (.bytes b t)) Q E s := by
  unfold typeNameOfCut shownTypeOf
  refine wpAny_bind (wpAny_bind (wpAny_typeOf (typeIs_bytes _ b t) ?_))
  simp only [show (Value.type "bytes" == Value.type "builtin_function_or_method") = false by decide, Bool.false_eq_true, if_false]
  refine wpAny_pure ?_
  rw [show typeNameCut n (.type "bytes") = typeName (.type "bytes") from rfl, bytes_name]; exact wpAny_pure h
theorem asIndex_bytes {Q : Int → Shared → Prop} (hh : A.handled = none) (h : ∀ h' tk e, Heap.NewExc s.heap h' e "TypeError" → E (.ref e) { s with heap := h', toks := tk }) : wpAny (model prog w) A (asIndex (.bytes b t)) Q E s := by
  unfold asIndex
  refine wpAny_bind (wpAny_of_eq (show asInt? (.bytes b t) = pure none from rfl) ?_)
  refine wpAny_bind (wpAny_callSpecial?_none (typeIs_bytes _ _ _) bytes_no_index ?_)
  refine wpAny_bind (name_bytes ?_)
  exact wpAny_raiseErrorMade plainExc_TypeError hh h (by decide)
def inB (sub b : Array UInt8) : Bool := (Bytes.find? b sub 0 b.size).isSome
theorem contains_run {Q : Bool → Shared → Prop} (hh : A.handled = none) (h : ∀ h' tk, (∀ a o, s.heap.get? a = some o → h'.get? a = some o) → Q (inB c b) { s with heap := h', toks := tk }) : wpAny (model prog w) A (contains (.bytes b t) (.bytes c u)) Q E s := by
  refine wpAny_contains_slot (typeIs_bytes s b t) FB.slot_bytes_contains (wpAny_call_entry FB.slot_bytes_contains (typeIs_bytes s b t) FB.entry_bytes_contains ?_ (FB.args_bytes_contains_2 _ _))
  show wpAny _ _ (Bytes.containsIn "bytes.__contains__" (.bytes b t) (.bytes c u) >>= fun r => ret (.bool r)) _ _ s
  refine wpAny_bind ?_
  unfold Bytes.containsIn
  refine wpAny_bind (wpAny_attempt (asIndex_bytes hh fun h' tk e hx => ?_))
  refine wpAny_bind (wpAny_of_eq KBy.buffer_eq ?_)
  refine wpAny_bind (wpAny_of_eq KBy.buffer_eq ?_)
  refine wpAny_bind (wpAny_rule (wpAny_pure ?_))
  exact wpAny_pure ⟨_, rfl, wpAny_truthy_bool (h h' tk hx.keeps)⟩
theorem contains_octet {i : Nat} {Q : Bool → Shared → Prop} (hi : i < 256) (h : Q (b.contains i.toUInt8) s) : wpAny (model prog w) A (contains (.bytes b t) (.int (i : Int) u)) Q E s := by
  refine wpAny_contains_slot (typeIs_bytes s b t) FB.slot_bytes_contains (wpAny_call_entry FB.slot_bytes_contains (typeIs_bytes s b t) FB.entry_bytes_contains ?_ (FB.args_bytes_contains_2 _ _))
  show wpAny _ _ (Bytes.containsIn "bytes.__contains__" (.bytes b t) (.int (i : Int) u) >>= fun r => ret (.bool r)) _ _ s
  refine wpAny_bind ?_
  unfold Bytes.containsIn
  refine wpAny_bind (wpAny_attempt ?_)
  unfold asIndex
  refine wpAny_bind (wpAny_of_eq (show asInt? (.int (i : Int) u) = pure (some (i : Int)) from rfl) (wpAny_pure ?_))
  refine wpAny_bind (wpAny_of_eq KBy.buffer_eq ?_)
  have z : ¬ (((i : Int) < 0 || (i : Int) ≥ 256) = true) := by simp; omega
  simp only [if_neg z]
  refine wpAny_pure (wpAny_pure ⟨_, rfl, wpAny_truthy_bool ?_⟩)
  exact h
variable {h₀ : Heap} {L : Addr} {m : Str → Option Value} {news : List (Addr × Obj)} {Q : Value → Shared → Prop} {r : Bool}
theorem in_bytes (F : Fr h₀ L s.heap m) (N : News h₀ L s.heap news) (hh : A.handled = none) (hr : inB c b = r) (h : ∀ h' tk, Fr h₀ L h' m → News h₀ L h' news → Q (.bool r) { s with heap := h', toks := tk }) :
    wpAny (model prog w) A (compareOp .In (.bytes c u) (.bytes b t)) Q E s := by
  show wpAny _ _ (do return .bool (← contains (.bytes b t) (.bytes c u))) Q E s
  exact wpAny_bind (contains_run hh fun h' tk k => wpAny_pure (by rw [hr]; exact h h' tk (F.keeps k) (N.grown k)))
theorem notin_bytes (F : Fr h₀ L s.heap m) (N : News h₀ L s.heap news) (hh : A.handled = none) (hr : inB c b = r) (h : ∀ h' tk, Fr h₀ L h' m → News h₀ L h' news → Q (.bool (!r)) { s with heap := h', toks := tk }) :
    wpAny (model prog w) A (compareOp .NotIn (.bytes c u) (.bytes b t)) Q E s := by
  show wpAny _ _ (do return .bool (!(← contains (.bytes b t) (.bytes c u)))) Q E s
  exact wpAny_bind (contains_run hh fun h' tk k => wpAny_pure (by rw [hr]; exact h h' tk (F.keeps k) (N.grown k)))
theorem in_octet {i : Nat} (hi : i < 256) (hr : b.contains i.toUInt8 = r) (h : Q (.bool r) s) : wpAny (model prog w) A (compareOp .In (.int (i : Int) u) (.bytes b t)) Q E s := by
  show wpAny _ _ (do return .bool (← contains (.bytes b t) (.int (i : Int) u))) Q E s
  exact wpAny_bind (contains_octet hi (wpAny_pure (by rw [hr]; exact h)))
theorem in_pair {T : Addr} {x a₁ a₂ : Array UInt8} {tx ta tb : Tok} (N : News h₀ L s.heap news) (hm : (T, ({ cls := .type "tuple", data := .seq #[.bytes a₁ ta, .bytes a₂ tb] } : Obj)) ∈ news) (hr : (decide (a₁.toList = x.toList) || decide (a₂.toList = x.toList)) = r) (h : Q (.bool r) s) :
    wpAny (model prog w) A (compareOp .In (.bytes x tx) (.ref T)) Q E s := by
  refine PySem.SeqAt.in_tupleAt (fun v => match v with | .bytes y _ => decide (y.toList = x.toList) | _ => false) ⟨_, (N _ hm).1, rfl, _, rfl⟩ (fun y hy => ?_) ?_
  · have hy' : y = .bytes a₁ ta ∨ y = .bytes a₂ tb := by simpa using hy
    rcases hy' with rfl | rfl
    · exact fun _ _ _ _ hq => eqBool_bytes hq
    · exact fun _ _ _ _ hq => eqBool_bytes hq
  · rw [show (#[Value.bytes a₁ ta, Value.bytes a₂ tb].any fun v => match v with | .bytes y _ => decide (y.toList = x.toList) | _ => false) = r from by rw [← hr]; simp]; exact h
end
def wr : Nat → List UInt8
  | 0 => []
  | 1 => [104, 101, 97, 100, 115, 47, 97]
  | 2 => [114, 101, 102, 115, 47, 104, 101, 97, 100, 115]
  | 3 => [114, 101, 102, 115, 47, 104, 101, 97, 100, 115, 47, 97, 46, 108, 111, 99, 107]
  | 4 => [114, 101, 102, 115, 47, 104, 101, 97, 100, 115, 47, 46, 97]
  | 5 => [114, 101, 102, 115, 47, 104, 101, 97, 100, 115, 47, 97, 46, 46, 98]
  | 6 => [114, 101, 102, 115, 47, 116, 97, 103, 115, 47, 97, 32, 98]
  | _ => []
def rs (i : Nat) : List UInt8 := (nm i).drop 5
def rw_ (i : Nat) : List UInt8 := (wr i).drop 5
section
variable {dp un : Nat} {gd : Option (List Code)} {env : Env} {outer : List Env} {A₀ : Around} {base h₀ g₀ : Heap} {L : Addr} {m : Str → Option Value} {mean : ExcName → Option Value} {mg mb : Str → Option Value} {w : World} {s : Shared} {Q E : Value → Shared → Prop} {news : List (Addr × Obj)}
theorem fmt_plain {bl : List UInt8} {t : Tok} (B : Below (AA dp un gd outer) base outer h₀) (F : Fr h₀ L s.heap m) (X : (hd.heap_1 w.params).In h₀) (N : News h₀ L s.heap news) (T : Top hd.view_1 loose mean mg mb h₀) (hf : env.frame = some L) (hke : env.scope.kind = .function) (hdp : dp + 12 < recursionLimit) (hu : un + 120 < cLine) (h1 : (bl.toArray.toList == [64]) = false) (h2 : inB #[47] bl.toArray = false)
   (hret : ∀ h' tk', Fr h₀ L h' m → News h₀ L h' news → Q (.bool false) { s with heap := h', toks := tk' }) :
   wpAny (model PG w) ((AA dp un gd outer).deeper env) (call (.ref 124) [.bytes bl.toArray t]) Q E s := by
  refine Kf ?_
  simp (disch := (refine @id _ ?_; k_dflt (
   have zF10 := U 10; have zF2 := U 2; have zF3 := U 3; have zF16 := U 16; have zF19 := U 19
   k_extra "M:enter"
   k_steps
   all_goals exact hret _ _ (by assumption) (by k_extra "M:news")))) only [↓Kn]
theorem fmt_dots {bl : List UInt8} {t : Tok} (B : Below (AA dp un gd outer) base outer h₀) (F : Fr h₀ L s.heap m) (X : (hd.heap_1 w.params).In h₀) (N : News h₀ L s.heap news) (T : Top hd.view_1 loose mean mg mb h₀) (hf : env.frame = some L) (hke : env.scope.kind = .function) (hdp : dp + 12 < recursionLimit) (hu : un + 120 < cLine) (h1 : (bl.toArray.toList == [64]) = false) (h2 : inB #[47] bl.toArray = true) (h3 : inB #[46, 46] bl.toArray = true)
   (hret : ∀ h' tk', Fr h₀ L h' m → News h₀ L h' news → Q (.bool false) { s with heap := h', toks := tk' }) :
   wpAny (model PG w) ((AA dp un gd outer).deeper env) (call (.ref 124) [.bytes bl.toArray t]) Q E s := by
  refine Kf ?_
  simp (disch := (refine @id _ ?_; k_dflt (
   have zF10 := U 10; have zF2 := U 2; have zF3 := U 3; have zF16 := U 16; have zF19 := U 19
   k_extra "M:enter"
   k_steps
   all_goals exact hret _ _ (by assumption) (by k_extra "M:news")))) only [↓Kn]
end
section
open KBw
variable {prog : Program} {w : World} {A : Around} {E : Value → Shared → Prop} {s : Shared} {b : Array UInt8} {t : Tok}
theorem nextOf_item {it : Addr} {i : Nat} {c : UInt8} {Q : Value → Shared → Prop} (hit : IsBytesIter s.heap it b t i) (hx : b[i]? = some c)
    (hQ : ∀ h', IsBytesIter h' it b t (i + 1) → Heap.SameBut it s.heap h' → Q (.int (c.toNat : Int) s.toks) { s with heap := h', toks := s.toks + 1 }) : wpAny (model prog w) A (Builtin.SmallTypes.nextOf (.ref it)) Q E s := by
  obtain ⟨o, ho, hc, hd⟩ := id hit
  unfold Builtin.SmallTypes.nextOf
  refine wpAny_bind (wpAny_callSpecial?_slot (name := PySem.Str.ofString "__next__") (iter_typeIs hit) slot_next
    (wpAny_call_entry slot_next (iter_typeIs hit) entry_next ?_ (args_next _)))
  show wpAny _ _ (field (.ref it) 0 >>= _) _ _ s
  refine wpAny_bind (wpAny_field ho hd (x := .bytes b t) rfl ?_)
  show wpAny _ _ (if (Value.bytes b t == Value.none) = true then _ else _) _ _ s
  rw [if_neg (show ¬ ((Value.bytes b t == Value.none) = true) from Bool.false_ne_true)]
  show wpAny _ _ (field (.ref it) 1 >>= _) _ _ s
  refine wpAny_bind (wpAny_field ho hd (x := .int i 0) rfl ?_)
  refine wpAny_bind (wpAny_of_eq (a := b) rfl ?_)
  simp only [Int.toNat_natCast, hx]
  refine wpAny_bind (wpAny_setField ho hd (by simp) (wpAny_bind (wpAny_mkInt (wpAny_pure ⟨_, rfl, wpAny_pure (hQ _ ?_ (Heap.SameBut.update ..))⟩))))
  exact ⟨_, Heap.get?_update_self _ ho (Obj.isFreed_of_fields (Obj.data_mapFields hd _)), (Obj.cls_mapFields ..).trans hc, by rw [Obj.data_mapFields hd]; simp [rawInt]⟩
theorem nextOf_end {it : Addr} {i : Nat} {Q : Value → Shared → Prop} (hh : A.handled = none) (hit : IsBytesIter s.heap it b t i) (hx : b[i]? = none)
    (hE : ∀ h' e, Heap.ExtBut it s.heap h' → (∃ o, h'.get? e = some o ∧ o.cls = .type "StopIteration") → E (.ref e) { s with heap := h' }) : wpAny (model prog w) A (Builtin.SmallTypes.nextOf (.ref it)) Q E s := by
  obtain ⟨o, ho, hc, hd⟩ := id hit
  unfold Builtin.SmallTypes.nextOf
  refine wpAny_bind (wpAny_callSpecial?_slot (name := PySem.Str.ofString "__next__") (iter_typeIs hit) slot_next
    (wpAny_call_entry slot_next (iter_typeIs hit) entry_next ?_ (args_next _)))
  show wpAny _ _ (field (.ref it) 0 >>= _) _ _ s
  refine wpAny_bind (wpAny_field ho hd (x := .bytes b t) rfl ?_)
  show wpAny _ _ (if (Value.bytes b t == Value.none) = true then _ else _) _ _ s
  rw [if_neg (show ¬ ((Value.bytes b t == Value.none) = true) from Bool.false_ne_true)]
  show wpAny _ _ (field (.ref it) 1 >>= _) _ _ s
  refine wpAny_bind (wpAny_field ho hd (x := .int i 0) rfl ?_)
  refine wpAny_bind (wpAny_of_eq (a := b) rfl ?_)
  simp only [Int.toNat_natCast, hx]
  refine wpAny_bind (wpAny_rule (wpAny_bind (wpAny_setField ho hd (by simp) ?_)))
  show wpAny _ _ (newExc (.type "StopIteration") [] >>= _) _ _ _
  refine wpAny_bind ?_
  simp only [newExc, newTuple]
  refine wpAny_bind (wpAny_newObj_type ?_ (by size_fits))
  refine wpAny_bind (m := firstArgMember _ _) (wpAny_of_eq (a := Value.none) (by first | rfl | (simp only [firstArgMember]; rfl)) ?_)
  refine wpAny_newObj_type ?_ (by size_fits)
  simp only [raiseNew]
  refine wpAny_bind (wpAny_handled ?_)
  rw [show A.in1.handled = none from hh]
  refine wpAny_bind (wpAny_pure (wpAny_throw ?_))
  exact hE _ _ (((Heap.SameBut.update ..).extBut.push _).push _) ⟨_, Heap.get?_push_size _ rfl, rfl⟩
theorem draws_bytes (hh : A.handled = none) (it : Addr) (b : Array UInt8) (t : Tok) :
    Draws prog w A it [it] b.size (fun i v => ∃ c u, b[i]? = some c ∧ v = .int (c.toNat : Int) u) (fun i h => IsBytesIter h it b t i) where
  live := fun _ _ st => let ⟨o, ho, _⟩ := st; ⟨o, ho⟩
  frame := fun _ _ _ st hk => let ⟨o, ho, r⟩ := st; ⟨o, hk it (by simp) o ho, r⟩
  item := fun i s Q E hi st hQ => nextOf_item st (c := b[i]) (by simp [hi]) fun h' hit' hs' => hQ _ h' (s.toks + 1) ⟨_, _, by simp [hi], rfl⟩ hit' hs'
  done := fun s Q E st hE => nextOf_end hh st (by simp) hE
end
theorem gives_ordb (c : UInt8) (t : Tok) : Gives (Builtin.«ord» ⟨[.bytes #[c] t], []⟩) (.int (c.toNat : Int)) := .of_eq rfl
theorem ord_byte {prog : Program} {w : World} {A : Around} {E : Value → Shared → Prop} {s : Shared} {c : UInt8} {t : Tok} {Q : Value → Shared → Prop} (h : Q (.int (c.toNat : Int) s.toks) { s with toks := s.toks + 1 }) : wpAny (model prog w) A (call (.builtin "ord") [.bytes #[c] t]) Q E s :=
  call_function_meets PySem.F.kind_ord PySem.F.plain_ord PySem.F.entry_ord (PySem.F.args_ord1 _) (gives_ordb c t).meets h
section
open AutoSeq1 (wpAny_loadPart')
theorem meets_enum_bytes (b : Array UInt8) (t : Tok) :
    Meets (Builtin.«enumerate.__new__» ⟨[.type "enumerate", .bytes b t], []⟩) (fun _ R s =>
      R (.ok (.ret (.ref (s.heap.push { cls := .type "bytes_iterator", data := .fields #[.bytes b t, .int 0 0] }).objs.size)))
        { s with heap := (s.heap.push { cls := .type "bytes_iterator", data := .fields #[.bytes b t, .int 0 0] }).push { cls := .type "enumerate", data := .fields #[.none, .bool false, .ref s.heap.objs.size, rawInt 0, .none, .none] } }) :=
  .of_wp fun prog w A R s h => by
    obtain ⟨hp, g, d, tk, os⟩ := s
    have hsub := sub_enumerate
    repeat k_extra "W"
    refine wpAny_stack_any fun st => wpAny_pure ?_
    split
    · rename_i c _ _ _ _ _
      cases (c == Value.type "enumerate")
      · repeat (first | with_reducible refine KBw.pyIter_bytes ?_ | k_extra "W")
        exact ⟨_, rfl, h⟩
      · repeat (first | with_reducible refine KBw.pyIter_bytes ?_ | k_extra "W")
        exact ⟨_, rfl, h⟩
    · repeat (first | with_reducible refine KBw.pyIter_bytes ?_ | k_extra "W")
      exact ⟨_, rfl, h⟩
variable {prog : Program} {w : World} {A : Around} {E : Value → Shared → Prop} {s : Shared} {b : Array UInt8} {t : Tok}
theorem enumerate_bytes {Q : Value → Shared → Prop}
    (h : ∀ h', IsEnum h' (s.heap.objs.size + 1) s.heap.objs.size 0 .none → KBw.IsBytesIter h' s.heap.objs.size b t 0 → (∀ a o, s.heap.get? a = some o → h'.get? a = some o) → Q (.ref (s.heap.objs.size + 1)) { s with heap := h' }) :
    wpAny (model prog w) A (call (.type "enumerate") [.bytes b t]) Q E s := by
  refine callType_new F.called_enumerate (by decide) (F.typeCall_enumerate_1 _) (F.newCall_enumerate_1 _) (fun obj => F.args_object_init_2 obj _) F.entry_enumerate_new (meets_enum_bytes b t) ?_
  have hz : (s.heap.push { cls := .type "bytes_iterator", data := .fields #[.bytes b t, .int 0 0] }).objs.size = s.heap.objs.size + 1 := Heap.size_push ..
  show _ ∧ _
  rw [hz]
  have he : IsEnum ((s.heap.push { cls := .type "bytes_iterator", data := .fields #[.bytes b t, .int 0 0] }).push
      { cls := .type "enumerate", data := .fields #[.none, .bool false, .ref s.heap.objs.size, rawInt 0, .none, .none] }) (s.heap.objs.size + 1) s.heap.objs.size 0 .none := by
    have := Heap.get?_push_size (s.heap.push { cls := .type "bytes_iterator", data := .fields #[.bytes b t, .int 0 0] })
      (o := { cls := .type "enumerate", data := .fields #[.none, .bool false, .ref s.heap.objs.size, rawInt 0, .none, .none] }) rfl
    rw [hz] at this; exact this
  exact ⟨⟨_, he, rfl⟩, h _ he ⟨_, Heap.get?_push_of_some _ (Heap.get?_push_size _ rfl), rfl, rfl⟩ fun a o y => Heap.get?_push_of_some _ (Heap.get?_push_of_some _ y)⟩
variable {h₀ : Heap} {L : Addr} {m : Str → Option Value} {news : List (Addr × Obj)}
theorem enum_bytes {Q : Value → Shared → Prop} (hh : A.handled = none) (F : Fr h₀ L s.heap m) (N : News h₀ L s.heap news)
    (h : ∀ h' e, Fr h₀ L h' m → News h₀ L h' news → PairSrcL prog w A E h₀ L ItemKind.int (KBw.bInts b) (.ref e) { s with heap := h' } m news → Q (.ref e) { s with heap := h' }) :
    wpAny (model prog w) A (call (.type "enumerate") [.bytes b t]) Q E s := by
  have hLs : L < s.heap.objs.size := F.ns.lt
  have hab : h₀.objs.size ≤ L := F.above
  refine enumerate_bytes fun h' he hit hk => ?_
  have F' : Fr h₀ L h' m := ⟨F.ns.keeps hk, fun b o e => hk b o (F.keep b o e), F.above⟩
  have N' : News h₀ L h' news := fun p hp => ⟨hk _ _ (N p hp).1, (N p hp).2⟩
  refine h h' _ F' N' fun env hL => ?_
  subst hL
  have side1 : s.heap.objs.size + 1 ∉ [s.heap.objs.size] := fun hm => Nat.succ_ne_self _ (List.mem_singleton.mp hm)
  have side2 : env.locals ∉ [s.heap.objs.size + 1, s.heap.objs.size] := fun hm => by
    rcases List.mem_cons.mp hm with e | hm
    · exact Nat.ne_of_lt (Nat.lt_succ_of_lt hLs) e
    · exact Nat.ne_of_lt hLs (List.mem_singleton.mp hm)
  have side3 : ∀ b ∈ [s.heap.objs.size + 1, s.heap.objs.size], ∀ q ∈ news, b ≠ q.1 := fun b hb q hq e => by
    have hq1 : q.1 < s.heap.objs.size := Heap.lt_size (N q hq).1
    rcases List.mem_cons.mp hb with e1 | hb
    · exact Nat.ne_of_gt (Nat.lt_succ_of_lt hq1) (e1.symm.trans e)
    · exact Nat.ne_of_gt hq1 ((List.mem_singleton.mp hb).symm.trans e)
  exact enumSrc (draws_bytes (A := A.in1) hh s.heap.objs.size b t) he hit (Nat.succ_ne_self _) side1 (by simp) side2 (Heap.get?_none_of_le (Nat.le_trans hab (Nat.le_of_lt (Nat.lt_succ_of_lt hLs)))) (Heap.get?_none_of_le (Nat.le_trans hab (Nat.le_of_lt hLs))) side3 (KBw.ints_length b).symm
    (fun i v hv => by
      obtain ⟨c, u, hc, rfl⟩ := hv
      exact ⟨_, KBw.ints_get hc, u, rfl⟩) F' N'
end
section
open Builtin
variable {prog : Program} {w : World} {A : Around} {E : Value → Shared → Prop} {s : Shared} {b : Array UInt8} {t u : Tok} {h₀ : Heap} {L : Addr} {m : Str → Option Value} {news : List (Addr × Obj)}
theorem slot_bytes_split : Slot "bytes" "split" "bytes.split" :=
  .of (owner := "bytes") (n := "split") (by rw [typeLookup_type, builtinLookup_eq_fast]; kernel_rfl) (by decide +kernel) (by decide +kernel) (by decide +kernel)
    (by first | exact .inl (by decide +kernel) | exact .inr (by decide +kernel)) (by rw [isSubtype_type]; kernel_rfl)
theorem type_bytes_split : typeOf (.builtin "bytes.split") = pure (.type "method_descriptor") := by show builtinType _ = _; rw [builtinType_eq_fast]; kernel_rfl
theorem entry_bytes_split : entryFor table "bytes.split" = some Builtin.«bytes.split» := entryFor_of_tree (by kernel_rfl)
theorem args_bytes_split_2 (a b : Value) : argsOk "bytes.split" ⟨[a, b], []⟩ := by
  unfold argsOk; rw [signature?_of (id := "bytes.split") (n := ['t', 'i', 'l', 'p', 's']) (o := ['s', 'e', 't', 'y', 'b']) (by kernel_rfl) FB.owner_bytes]; kernel_rfl
theorem last_item {i : Int} {c : UInt8} {Q : Value → Shared → Prop} {value slice : PySem.Expr} (hr : Bytes.fitsIndex i = true) (hc : (seqIndex? i b.size).bind (b[·]?) = some c) (h : Q (.int c.toNat s.toks) { s with toks := s.toks + 1 })
    (hs : subscripted slice false (.bytes b t) (.int i u) = operate [.bytes b t, .int i u] (getItem (.bytes b t) (.int i u)))
    (ht : ∀ r, letTemporaryGo value (.bytes b t) r = pure ()) :
    wpAny (model prog w) A (subscriptTail value slice (.bytes b t) (.int i u)) Q E s :=
  tail_of_ItemOn ⟨"bytes", _, FB.slot_bytes_getitem.lookup, typeIs_bytes _ _ _, getItem_gives (typeIs_bytes s _ t) (by decide) FB.slot_bytes_getitem FB.entry_bytes_getitem (FB.args_bytes_getitem_2 _ _) (gives_bytes_getitem _ i t u c hr hc) h⟩ hs ht
theorem wpAny_mapM2 {p1 p2 : Array UInt8} {Q : List Value → Shared → Prop} (z1 : p1.size ≤ sizeLine) (z2 : p2.size ≤ sizeLine) (h : Q [.bytes p1 s.toks, .bytes p2 (s.toks + 1)] { s with toks := s.toks + 1 + 1 }) :
    wpAny (model prog w) A ([p1, p2].mapM (Bytes.Kind.new .bytes)) Q E s := by
  rw [List.mapM_cons, List.mapM_cons, List.mapM_nil]
  refine wpAny_bind (wpAny_mkBytes (wpAny_bind (wpAny_bind (wpAny_mkBytes (wpAny_bind (wpAny_pure (wpAny_pure (wpAny_pure h)))) z2))) z1)
def cutsTwo (b sep : Array UInt8) (p1 p2 : Array UInt8) : Prop := sep.isEmpty = false ∧ ((Bytes.occurrences b sep 0 b.size).take (b.size + 1)).isEmpty = false ∧ Bytes.between b sep.size ((Bytes.occurrences b sep 0 b.size).take (b.size + 1)) = [p1, p2]
theorem split_two {sep p1 p2 : Array UInt8} {Q : Value → Shared → Prop} (hc : cutsTwo b sep p1 p2) (z1 : p1.size ≤ sizeLine) (z2 : p2.size ≤ sizeLine) (F : Fr h₀ L s.heap m) (N : News h₀ L s.heap news)
    (h : ∀ l h' t1 t2 tk, Fr h₀ L h' m → News h₀ L h' ((l, { cls := .type "list", data := .seq #[.bytes p1 t1, .bytes p2 t2] }) :: news) → Q (.ref l) { s with heap := h', toks := tk }) :
    wpAny (model prog w) A (call (.builtin "bytes.split") [.bytes b t, .bytes sep u]) Q E s := by
  refine wpAny_call_entry slot_bytes_split (typeIs_bytes s b t) entry_bytes_split ?_ (args_bytes_split_2 _ _)
  show wpAny _ _ (Bytes.bindOptional _ _ _ _ _ >>= fun r => _) _ _ s
  refine wpAny_bind (wpAny_of_eq (a := [some (.bytes sep u), none]) rfl ?_)
  refine wpAny_bind (wpAny_of_eq (a := (-1 : Int)) rfl ?_)
  refine wpAny_bind (wpAny_of_eq (a := b) rfl ?_)
  show wpAny _ _ (Bytes.bytesLike _ (.bytes sep u) >>= fun r => _) _ _ s
  unfold Bytes.bytesLike
  refine wpAny_bind (wpAny_bind (wpAny_of_eq KBy.buffer_eq (wpAny_pure ?_)))
  obtain ⟨c1, c2, c3⟩ := hc
  simp only [c1, Bool.false_eq_true, if_false]
  have e1 : (if (-1 : Int) < 0 then b.size + 1 else (-1 : Int).toNat) = b.size + 1 := rfl
  simp only [e1, c2, c3, Bool.false_eq_true, if_false]
  refine wpAny_bind (wpAny_mapM2 z1 z2 ?_)
  refine wpAny_bind (wpAny_newList ?_)
  exact wpAny_pure ⟨_, rfl, h _ _ _ _ _ (F.push _) (News.push F N _)⟩
end
section
variable {prog : Program} {w : World} {A : Around} {E : Value → Shared → Prop} {s : Shared} {env : Env} {h₀ : Heap} {x : Str} {body : List Stmt} {Q : Flow → Shared → Prop} {m₀ : Str → Option Value} {news : List (Addr × Obj)}
inductive LGo (h₀ : Heap) (L : Addr) (I : Addr) (it : Obj) (J : (Str → Option Value) → List (Addr × Obj) → Prop) (g : Array GenState) (d : Drawn) (os : OsState) (s₂ : Shared) : Prop
  | mk : ∀ h' tk m' nx, s₂ = ⟨h', g, d, tk, os⟩ → Fr h₀ L h' m' → News h₀ L h' ((I, it) :: nx) → (∀ p ∈ nx, p.1 ≠ I) → J m' nx → LGo h₀ L I it J g d os s₂
inductive LGoK (h₀ : Heap) (L : Addr) (I : Addr) (it : Obj) (news : List (Addr × Obj)) (J : (Str → Option Value) → Prop) (g : Array GenState) (d : Drawn) (os : OsState) (s₂ : Shared) : Prop
  | mk : ∀ h' tk m', s₂ = ⟨h', g, d, tk, os⟩ → Fr h₀ L h' m' → News h₀ L h' ((I, it) :: news) → J m' → LGoK h₀ L I it news J g d os s₂
def LEnd (h₀ : Heap) (L : Addr) (I : Addr) (it : Obj) (J : (Str → Option Value) → List (Addr × Obj) → Prop) (s : Shared) (Q : Flow → Shared → Prop) (f : Flow) (s₂ : Shared) : Prop :=
  match f with
  | .ret v => Q (.ret v) s₂
  | .brk => Q .next s₂
  | _ => LGo h₀ L I it J s.gens s.drawn s.os s₂
theorem loop_core {I : Addr} {fpo : List (Addr × Obj)} {n : Nat} {cn : String} {P : Nat → Value → Prop} {St : Nat → Heap → Prop} (J : Nat → (Str → Option Value) → List (Addr × Obj) → Prop)
    (W : Walks prog w A I (I :: fpo.map (·.1)) [I] n P St) (hL : env.locals ∉ I :: fpo.map (·.1)) (hI : h₀.get? I = none) (hnw : ∀ p ∈ news, p.1 ≠ I) (hst : St 0 s.heap) (hob : ∀ i h, St i h → ∃ it, h.get? I = some it ∧ it.cls = .type cn)
    (hfp : ∀ i m nx, J i m nx → ∀ p ∈ fpo, p ∈ nx)
    (F : Fr h₀ env.locals s.heap m₀) (N : News h₀ env.locals s.heap news) (hj : J 0 m₀ news)
    (turn : ∀ i (it : Obj) v m₁ nx h tk, it.cls = .type cn → i < n → P i v → J i m₁ nx → (∀ p ∈ nx, p.1 ≠ I) → Fr h₀ env.locals h (fun y => if y = x then some v else m₁ y) → News h₀ env.locals h ((I, it) :: nx) →
      wpAny (model prog w) A (execs body env) (LEnd h₀ env.locals I it (J (i + 1)) s Q) E { s with heap := h, toks := tk })
    (done : ∀ m₁ nx h tk, J n m₁ nx → Fr h₀ env.locals h m₁ → News h₀ env.locals h nx → Q .next { s with heap := h, toks := tk }) :
    LoopAtV prog w A h₀ env x body Q E (.ref I) s := by
  refine ⟨I, I :: fpo.map (·.1), [I], n, P, St, m₀, news, J, rfl, W, hL, ?_, ?_, hst, F, N, hj, ?_, ?_⟩
  · intro b hb
    rw [List.mem_singleton.mp hb]; exact hI
  · intro p hp hm
    exact hnw p hp (List.mem_singleton.mp hm)
  · rintro i v m₁ nx s₁ own ⟨hh', tk', rfl⟩ hin hP hJ hoff hown hget hall hst' F₁ N₁
    obtain ⟨it, hit, hic⟩ := hob _ _ hst'
    have hoff' : ∀ p ∈ nx, p.1 ≠ I := fun p hp e => hoff p hp (List.mem_singleton.mpr e)
    have hmemI := hall I (List.mem_cons_self ..) hI _ hit
    have N₂ : News h₀ env.locals hh' ((I, it) :: nx) := fun p hp => by
      rcases List.mem_cons.mp hp with rfl | hp
      · exact N₁ _ (List.mem_append_left _ hmemI)
      · exact N₁ _ (List.mem_append_right _ hp)
    refine wpAny_mono (turn i it v m₁ nx hh' tk' hic hin hP hJ hoff' F₁ N₂) (fun f s₂ p => ?_) fun _ _ e => e
    have fin : LGo h₀ env.locals I it (J (i + 1)) s.gens s.drawn s.os s₂ →
        LoopStepU h₀ env.locals [I] own (J (i + 1)) { s with heap := hh', toks := tk' } .next s₂ := by
      rintro ⟨h', tk, m', nx', e, F', N', off, r⟩
      refine ⟨rfl, h', tk, m', nx', e, F', fun p hp => ?_, fun p hp hI' => off p hp (List.mem_singleton.mp hI'), r⟩
      rcases List.mem_append.mp hp with hp | hp
      · have h2 : hh'.get? p.1 = some p.2 := hget p hp
        rcases List.mem_cons.mp (hown p hp) with h1 | h1
        · have h3 : p = (I, it) := by
            rw [h1, hit] at h2
            exact Prod.ext h1 (Option.some.inj h2).symm
          rw [h3]; exact N' _ (List.mem_cons_self ..)
        · obtain ⟨q, hq, e1⟩ := List.mem_map.mp h1
          have h3 : p = q := by
            have h4 := (N₁ _ (List.mem_append_right _ (hfp _ _ _ hJ q hq))).1
            rw [e1, h2] at h4
            exact Prod.ext e1.symm (Option.some.inj h4)
          rw [h3]; exact N' _ (List.mem_cons_of_mem _ (hfp _ _ _ r q hq))
      · exact N' _ (List.mem_cons_of_mem _ hp)
    cases f with
    | ret v => exact .ret p
    | brk => exact .brk p
    | next => exact .next (fin p)
    | cont => exact .cont (fin p)
  · rintro h' tk m' nx' F' N' _ hJ
    exact done m' nx' h' tk hJ F' N'
theorem loop_range {r : Addr} {a b c : Int} {t u v : Tok} {n : Nat} (J : Nat → (Str → Option Value) → List (Addr × Obj) → Prop)
    (hh : A.handled = none) (hr : IsRange s.heap r a b c t u v) (hsmall : Builtin.Range.small a b c = true) (hn : Builtin.Range.rangeSize a b c = (n : Int)) (F : Fr h₀ env.locals s.heap m₀) (N : News h₀ env.locals s.heap news) (hj : J 0 m₀ news)
    (turn : ∀ i (I : Addr) (it : Obj) t m₁ nx h tk, it.cls = .type "range_iterator" → i < n → J i m₁ nx → (∀ p ∈ nx, p.1 ≠ I) → Fr h₀ env.locals h (fun y => if y = x then some (.int (a + (i : Int) * c) t) else m₁ y) → News h₀ env.locals h ((I, it) :: nx) →
      wpAny (model prog w) A (execs body env) (LEnd h₀ env.locals I it (J (i + 1)) s Q) E { s with heap := h, toks := tk })
    (done : ∀ m₁ nx h tk, J n m₁ nx → Fr h₀ env.locals h m₁ → News h₀ env.locals h nx → Q .next { s with heap := h, toks := tk }) :
    wpAny (model prog w) A (pyIter (.ref r)) (fun it s₂ => LoopAtV prog w A h₀ env x body Q E it s₂) E s := by
  refine wpAny_pyIter_range hr hsmall ?_
  have W : Walks prog w A s.heap.objs.size [s.heap.objs.size] [s.heap.objs.size] n (fun i v => i < n ∧ ∃ t, v = .int (a + i * c) t)
      (fun i h => IsRangeIter h s.heap.objs.size (a + (i : Nat) * c) ((n : Int) - (i : Nat)) c) := (Walks.range hh _ a c n).bound
  refine loop_core (fpo := []) J W ?_ (next_is_new F) (fun p hp => Nat.ne_of_lt (Heap.lt_size (N p hp).1)) (by show IsRangeIter _ _ _ _ _; rw [hn]; simpa using Heap.get?_push_size _ rfl) (cn := "range_iterator") (fun i h st => ⟨_, st, rfl⟩) (fun _ _ _ _ _ h => nomatch h) (F.push _)
    (fun p hp => ⟨Heap.get?_push_of_some _ (N p hp).1, (N p hp).2⟩) hj ?_ ?_
  · intro hm
    exact absurd F.ns.lt ((List.mem_singleton.mp hm) ▸ Nat.lt_irrefl _)
  · rintro i it v m₁ nx h tk hic hi ⟨_, t, rfl⟩ hJ off F₁ N₁
    exact turn i _ it t m₁ nx h tk hic hi hJ off F₁ N₁
  · exact fun m₁ nx h tk => done m₁ nx h tk
theorem loop_list {ax : Addr} {lo : Obj} {vs : List Value} {n : Nat} (J : Nat → (Str → Option Value) → List (Addr × Obj) → Prop)
    (hh : A.handled = none) (F : Fr h₀ env.locals s.heap m₀) (N : News h₀ env.locals s.heap news) (hm : (ax, lo) ∈ news) (hc : lo.cls = .type "list") (hd : lo.data = .seq vs.toArray n) (hfp : ∀ i m nx, J i m nx → (ax, lo) ∈ nx) (hj : J 0 m₀ news)
    (turn : ∀ i (I : Addr) (it : Obj) v m₁ nx h tk, it.cls = .type "list_iterator" → vs[i]? = some v → J i m₁ nx → (∀ p ∈ nx, p.1 ≠ I) → Fr h₀ env.locals h (fun y => if y = x then some v else m₁ y) → News h₀ env.locals h ((I, it) :: nx) →
      wpAny (model prog w) A (execs body env) (LEnd h₀ env.locals I it (J (i + 1)) s Q) E { s with heap := h, toks := tk })
    (done : ∀ m₁ nx h tk, J vs.length m₁ nx → Fr h₀ env.locals h m₁ → News h₀ env.locals h nx → Q .next { s with heap := h, toks := tk }) :
    wpAny (model prog w) A (pyIter (.ref ax)) (fun it s₂ => LoopAtV prog w A h₀ env x body Q E it s₂) E s := by
  have hax := N _ hm
  have hl : s.heap.IsList ax vs.toArray := ⟨lo, hax.1, hc, n, hd⟩
  have hlt : ax < s.heap.objs.size := Heap.lt_size hax.1
  have hne : ax ≠ s.heap.objs.size := Nat.ne_of_lt hlt
  refine wpAny_pyIter_list hl ?_
  have W := Walks.list (prog := prog) (w := w) hh s.heap.objs.size ax hne vs.toArray
  have hlen : vs.toArray.size = vs.length := by simp
  rw [hlen] at W
  refine loop_core (cn := "list_iterator") (fpo := [(ax, lo)]) J W ?_ (next_is_new F) (fun p hp => Nat.ne_of_lt (Heap.lt_size (N p hp).1)) ⟨⟨_, Heap.get?_push_size _ rfl, rfl, rfl⟩, hl.at fun o e => Heap.get?_push_of_some _ e⟩ (fun i h st => ?_) (fun i m nx hJ p hp => by rw [List.mem_singleton.mp hp]; exact hfp i m nx hJ) (F.push _)
    (fun p hp => ⟨Heap.get?_push_of_some _ (N p hp).1, (N p hp).2⟩) hj ?_ ?_
  · intro hmm
    rcases List.mem_cons.mp hmm with e | hmm
    · exact absurd F.ns.lt (e ▸ Nat.lt_irrefl _)
    · exact hax.2.1 (List.mem_singleton.mp hmm).symm
  · obtain ⟨o, ho, hc', _⟩ := st.1
    exact ⟨o, ho, hc'⟩
  · rintro i it v m₁ nx h tk hic hi hP hJ off F₁ N₁
    exact turn i _ it v m₁ nx h tk hic (by simpa using hP) hJ off F₁ N₁
  · exact fun m₁ nx h tk => done m₁ nx h tk
def LEndK (h₀ : Heap) (L : Addr) (I : Addr) (it : Obj) (news : List (Addr × Obj)) (J : (Str → Option Value) → Prop) (s : Shared) (Q : Flow → Shared → Prop) (f : Flow) (s₂ : Shared) : Prop :=
  match f with
  | .ret v => Q (.ret v) s₂
  | .brk => Q .next s₂
  | _ => LGoK h₀ L I it news J s.gens s.drawn s.os s₂
theorem LEndK.to {L I : Addr} {it : Obj} {J : (Str → Option Value) → Prop} {s s₂ : Shared} {f : Flow} (off : ∀ p ∈ news, p.1 ≠ I) (h : LEndK h₀ L I it news J s Q f s₂) : LEnd h₀ L I it (fun m nx => nx = news ∧ J m) s Q f s₂ := by
  cases f with
  | ret v => exact h
  | brk => exact h
  | next => obtain ⟨h', tk, m', e, F, N, j⟩ := h; exact ⟨h', tk, m', news, e, F, N, off, rfl, j⟩
  | cont => obtain ⟨h', tk, m', e, F, N, j⟩ := h; exact ⟨h', tk, m', news, e, F, N, off, rfl, j⟩
theorem loop_rangeK {r : Addr} {a b c : Int} {t u v : Tok} {n : Nat} (J : Nat → (Str → Option Value) → Prop)
    (hh : A.handled = none) (hr : IsRange s.heap r a b c t u v) (hsmall : Builtin.Range.small a b c = true) (hn : Builtin.Range.rangeSize a b c = (n : Int)) (F : Fr h₀ env.locals s.heap m₀) (N : News h₀ env.locals s.heap news) (hj : J 0 m₀)
    (turn : ∀ i (I : Addr) (it : Obj) t m₁ h tk, i < n → J i m₁ → (∀ p ∈ news, p.1 ≠ I) → Fr h₀ env.locals h (fun y => if y = x then some (.int (a + (i : Int) * c) t) else m₁ y) → News h₀ env.locals h ((I, it) :: news) →
      wpAny (model prog w) A (execs body env) (LEndK h₀ env.locals I it news (J (i + 1)) s Q) E { s with heap := h, toks := tk })
    (done : ∀ m₁ h tk, J n m₁ → Fr h₀ env.locals h m₁ → News h₀ env.locals h news → Q .next { s with heap := h, toks := tk }) :
    wpAny (model prog w) A (pyIter (.ref r)) (fun it s₂ => LoopAtV prog w A h₀ env x body Q E it s₂) E s := by
  refine loop_range (fun i m nx => nx = news ∧ J i m) hh hr hsmall hn F N ⟨rfl, hj⟩ ?_ ?_
  · rintro i I it t m₁ nx h tk _ hi ⟨rfl, hJ⟩ off F₁ N₁
    exact wpAny_mono (turn i I it t m₁ h tk hi hJ off F₁ N₁) (fun f s₂ p => p.to off) fun _ _ e => e
  · rintro m₁ nx h tk ⟨rfl, hJ⟩ F₁ N₁
    exact done m₁ h tk hJ F₁ N₁
theorem loop_listK {ax : Addr} {lo : Obj} {vs : List Value} {n : Nat} (J : Nat → (Str → Option Value) → Prop)
    (hh : A.handled = none) (F : Fr h₀ env.locals s.heap m₀) (N : News h₀ env.locals s.heap news) (hm : (ax, lo) ∈ news) (hc : lo.cls = .type "list") (hd : lo.data = .seq vs.toArray n) (hj : J 0 m₀)
    (turn : ∀ i (I : Addr) (it : Obj) v m₁ h tk, vs[i]? = some v → J i m₁ → (∀ p ∈ news, p.1 ≠ I) → Fr h₀ env.locals h (fun y => if y = x then some v else m₁ y) → News h₀ env.locals h ((I, it) :: news) →
      wpAny (model prog w) A (execs body env) (LEndK h₀ env.locals I it news (J (i + 1)) s Q) E { s with heap := h, toks := tk })
    (done : ∀ m₁ h tk, J vs.length m₁ → Fr h₀ env.locals h m₁ → News h₀ env.locals h news → Q .next { s with heap := h, toks := tk }) :
    wpAny (model prog w) A (pyIter (.ref ax)) (fun it s₂ => LoopAtV prog w A h₀ env x body Q E it s₂) E s := by
  refine loop_list (fun i m nx => nx = news ∧ J i m) hh F N hm hc hd (fun i m nx h => by rw [h.1]; exact hm) ⟨rfl, hj⟩ ?_ ?_
  · rintro i I it v m₁ nx h tk _ hi ⟨rfl, hJ⟩ off F₁ N₁
    exact wpAny_mono (turn i I it v m₁ h tk hi hJ off F₁ N₁) (fun f s₂ p => p.to off) fun _ _ e => e
  · rintro m₁ nx h tk ⟨rfl, hJ⟩ F₁ N₁
    exact done m₁ h tk hJ F₁ N₁
end
theorem cut1 {w : World} {A : Around} {E : Value → Shared → Prop} {s : Shared} {h₀ : Heap} {L : Addr} {m : Str → Option Value} {news : List (Addr × Obj)} {b : Array UInt8} {t : Tok} {value slice : PySem.Expr} {tk5 tk6 : Tok} {i : Nat} {c : UInt8} {Q : Value → Shared → Prop} (hF : Fr h₀ L s.heap m) (hN : News h₀ L s.heap news)
    (hi : b[i]? = some c) (hb : 2 ≤ b.size)
    (h : ∀ h' t' k, Fr h₀ L h' m → News h₀ L h' news → (∀ a o, s.heap.get? a = some o → h'.get? a = some o) → Q (.bytes #[c] t') { s with heap := h', toks := k })
    (hs : subscripted slice false (.bytes b t) (.ref s.heap.objs.size) = operate [.ref s.heap.objs.size, .bytes b t] (getItem (.bytes b t) (.ref s.heap.objs.size)))
    (ht : ∀ r, letTemporaryGo value (.bytes b t) r = pure ()) :
    wpAny (model PG w) A (subscriptTail value slice (.bytes b t) (.ref s.heap.objs.size)) Q E { s with heap := s.heap.push { cls := .type "slice", data := .fields #[.int (i : Int) tk5, .int ((i : Int) + 1) tk6, .none] } } := by
  have hlt : i < b.size := by
    obtain ⟨h, _⟩ := Array.getElem?_eq_some_iff.mp hi
    exact h
  have e0 : sliceBounds (some (i : Int)) (some ((i : Int) + 1)) none b.size = ((i : Int), (i : Int) + 1, 1) := by
    have n1 : ¬ ((i : Int) < 0) := by omega
    have n2 : ¬ ((i : Int) + 1 < 0) := by omega
    have n3 : min (i : Int) b.size = i := by omega
    have n4 : min ((i : Int) + 1) b.size = i + 1 := by omega
    have n5 : max 0 (i : Int) = i := by omega
    have n6 : max 0 ((i : Int) + 1) = i + 1 := by omega
    simp [sliceBounds, n1, n2, n3, n4, n6]
  have e1 : KBy.whole b (some (i : Int)) (some ((i : Int) + 1)) = false := by
    unfold KBy.whole
    rw [e0]
    by_cases z : i = 0
    · have : ((i : Int) + 1 == b.size) = false := by rw [beq_eq_false_iff_ne]; omega
      simp [this]
    · have : ((i : Int) == 0) = false := by rw [beq_eq_false_iff_ne]; omega
      simp [this]
  have e2 : KBy.picked b (some (i : Int)) (some ((i : Int) + 1)) = #[c] := by
    unfold KBy.picked
    rw [e0]
    unfold Builtin.Bytes.sliced
    have n1 : sliceRange ((i : Int), (i : Int) + 1, (1 : Int)).fst ((i : Int), (i : Int) + 1, (1 : Int)).snd.fst ((i : Int), (i : Int) + 1, (1 : Int)).snd.snd = [i] := by
      unfold sliceRange
      have m1 : ((i : Int) < (i : Int) + 1) := by omega
      have m2 : (((i : Int) + 1 - i + 1 - 1) / 1).toNat = 1 := by omega
      simp [m1]
      try omega
    rw [n1]
    simp [hi]
  refine tail_of_ItemOn ⟨"bytes", _, FB.slot_bytes_getitem.lookup, typeIs_bytes _ _ _, getItem_meets (typeIs_bytes _ _ _) (by decide) FB.slot_bytes_getitem FB.entry_bytes_getitem (FB.args_bytes_getitem_2 _ _) (KBy.meets_slice b t _ (.int _ _) (.int _ _) e1)
    ⟨Heap.IsSliceOf.new _ _ _ _, ?_, ?_⟩⟩ hs ht
  · rw [e2]; show 1 ≤ sizeLine; decide
  · rw [e2]; exact h _ _ _ (hF.push _) (News.pushKeep hN _) fun a o e => Heap.get?_push_of_some _ e
def BADR : Array UInt8 := #[127, 32, 126, 94, 58, 63, 42, 91]
def badO (c : UInt8) : Bool := decide ((c.toNat : Int) < 32) || BADR.contains c
theorem octet_at {b : Array UInt8} {i : Nat} {a : Int} (h : (KBw.bInts b)[i]? = some a) : ∃ c, b[i]? = some c ∧ a = (c.toNat : Int) := by
  unfold KBw.bInts at h
  rw [List.getElem?_map] at h
  cases e : b.toList[i]? with
  | none => rw [e] at h; cases h
  | some c => rw [e] at h; exact ⟨c, by simpa using e, (Option.some.inj h).symm⟩
section
variable {dp un : Nat} {gd : Option (List Code)} {env : Env} {outer : List Env} {A₀ : Around} {base h₀ g₀ : Heap} {L : Addr} {m : Str → Option Value} {mean : ExcName → Option Value} {mg mb : Str → Option Value} {w : World} {s : Shared} {Q E : Value → Shared → Prop} {news : List (Addr × Obj)}
theorem fmt_octet {bl : List UInt8} {t : Tok} (B : Below (AA dp un gd outer) base outer h₀) (F : Fr h₀ L s.heap m) (X : (hd.heap_1 w.params).In h₀) (N : News h₀ L s.heap news) (T : Top hd.view_1 loose mean mg mb h₀) (hf : env.frame = some L) (hke : env.scope.kind = .function) (hdp : dp + 12 < recursionLimit) (hu : un + 120 < cLine) (h1 : (bl.toArray.toList == [64]) = false) (h2 : inB #[47] bl.toArray = true) (h3 : inB #[46, 46] bl.toArray = false) (h4 : 2 ≤ bl.toArray.size)
   (hbad : ∃ c ∈ bl, badO c = true)
   (hret : ∀ h' tk', Fr h₀ L h' m → News h₀ L h' news → Q (.bool false) { s with heap := h', toks := tk' }) :
   wpAny (model PG w) ((AA dp un gd outer).deeper env) (call (.ref 124) [.bytes bl.toArray t]) Q E s := by
  refine Kf ?_
  simp (disch := (refine @id _ ?_; k_dflt (
   have zF10 := U 10; have zF2 := U 2; have zF3 := U 3; have zF16 := U 16; have zF19 := U 19; have zF20 := U 20
   k_extra "M:enter"
   k_steps
   unfold MStop
   refine' Pair_leave (K := ItemKind.int) (as := KBw.bInts bl.toArray) (pz := fun a _ => badO a.toNat.toUInt8) (PairSrcL.at (by assumption) _ rfl) (by with_unfolding_all rfl) ?zq_zz1 ?zq_zz2 ?zq_zz3
   case zq_zz1 =>
     rintro i a t v s₁ own hi ⟨tv, rfl⟩ F₁ N₁
     obtain ⟨c, hc, rfl⟩ := octet_at hi
     have hlt : c.toNat < 256 := c.toNat_lt
     have hcc : (c.toNat : Int).toNat.toUInt8 = c := by simp
     (try dsimp only)
     rw [hcc]
     unfold badO
     have hcd : c.toNat.toUInt8 = c := by simp
     cases hA : decide ((c.toNat : Int) < 32)
     · cases hB : BADR.contains c.toNat.toUInt8
       · k_steps
         all_goals first | exact ⟨_, _, rfl, by assumption⟩ | (rw [hcd] at hB; rw [hB]; rfl)
       · k_steps
         all_goals first | exact ⟨_, _, rfl, by assumption⟩ | (rw [hcd] at hB; rw [hB]; rfl)
     · k_steps
       all_goals exact ⟨_, _, rfl, by assumption⟩
   case zq_zz2 =>
     rintro i a t v own h₄ tk₄ hi hp hfd ⟨tv, rfl⟩ F₁ N₁
     k_steps
     all_goals exact hret _ _ (by assumption) (cb_drop (by assumption) (fun _ hp => List.mem_append_right _ hp))
   case zq_zz3 =>
     intro h' tk vi vl F₁ N₁ hall
     exfalso
     obtain ⟨c, hc, hb⟩ := hbad
     obtain ⟨k, hk, e⟩ := List.mem_iff_getElem.mp hc
     have e1 : (KBw.bInts bl.toArray)[k]? = some (c.toNat : Int) := KBw.ints_get (by simpa [List.getElem?_eq_some_iff] using ⟨hk, e⟩)
     have e2 := hall _ (List.mem_of_getElem? (zipIdx_get e1))
     simp at e2
     rw [hb] at e2; cases e2))) only [↓Kn]
theorem fmt_parts {bl : List UInt8} {p1 p2 : Array UInt8} {lc : UInt8} {s2 e2 : Bool} {t : Tok} (B : Below (AA dp un gd outer) base outer h₀) (F : Fr h₀ L s.heap m) (X : (hd.heap_1 w.params).In h₀) (N : News h₀ L s.heap news) (T : Top hd.view_1 loose mean mg mb h₀) (hf : env.frame = some L) (hke : env.scope.kind = .function) (hdp : dp + 12 < recursionLimit) (hu : un + 120 < cLine) (h1 : (bl.toArray.toList == [64]) = false) (h2 : inB #[47] bl.toArray = true) (h3 : inB #[46, 46] bl.toArray = false) (h4 : 2 ≤ bl.toArray.size)
   (hgood : ∀ c ∈ bl, badO c = false) (hl : (seqIndex? (-1) bl.toArray.size).bind (bl.toArray[·]?) = some lc) (hl2 : (#[47, 46] : Array UInt8).contains lc.toNat.toUInt8 = false) (h5 : inB #[64, 123] bl.toArray = false) (h6 : inB #[92] bl.toArray = false)
   (hc : cutsTwo bl.toArray #[47] p1 p2) (z1 : p1.size ≤ sizeLine) (z2 : p2.size ≤ sizeLine) (q1 : 0 < p1.size) (q2 : 0 < p2.size) (q3 : p1.size ≤ 1000) (q4 : p2.size ≤ 1000)
   (hs1 : startsB p1 #[46] = false) (he1 : endsB p1 #[46, 108, 111, 99, 107] = false) (hs2 : startsB p2 #[46] = s2) (he2 : endsB p2 #[46, 108, 111, 99, 107] = e2)
   (hret : ∀ h' tk', Fr h₀ L h' m → News h₀ L h' news → Q (.bool (!s2 && !e2)) { s with heap := h', toks := tk' }) :
   wpAny (model PG w) ((AA dp un gd outer).deeper env) (call (.ref 124) [.bytes bl.toArray t]) Q E s := by
  refine Kf ?_
  simp (disch := (refine @id _ ?_; k_dflt (
   have zF10 := U 10; have zF2 := U 2; have zF3 := U 3; have zF16 := U 16; have zF19 := U 19; have zF20 := U 20
   have hlt2 : lc.toNat < 256 := lc.toNat_lt
   k_extra "M:enter"
   k_steps
   unfold MStop
   refine' Pair_leave (K := ItemKind.int) (as := KBw.bInts bl.toArray) (pz := fun a _ => badO a.toNat.toUInt8) (PairSrcL.at (by assumption) _ rfl) (by with_unfolding_all rfl) ?zq_zz1 ?zq_zz2 ?zq_zz3
   case zq_zz1 =>
     rintro i a t v s₁ own hi ⟨tv, rfl⟩ F₁ N₁
     obtain ⟨c, hc, rfl⟩ := octet_at hi
     have hlt : c.toNat < 256 := c.toNat_lt
     have hcc : (c.toNat : Int).toNat.toUInt8 = c := by simp
     have hcd : c.toNat.toUInt8 = c := by simp
     (try dsimp only)
     rw [hcc]
     unfold badO
     cases hA : decide ((c.toNat : Int) < 32)
     · cases hB : BADR.contains c.toNat.toUInt8
       · k_steps
         all_goals first | exact ⟨_, _, rfl, by assumption⟩ | (rw [hcd] at hB; rw [hB]; rfl)
       · k_steps
         all_goals first | exact ⟨_, _, rfl, by assumption⟩ | (rw [hcd] at hB; rw [hB]; rfl)
     · k_steps
       all_goals exact ⟨_, _, rfl, by assumption⟩
   case zq_zz2 =>
     rintro i a t v own h₄ tk₄ hi hp hfd ⟨tv, rfl⟩ F₁ N₁
     exfalso
     obtain ⟨c, hc, rfl⟩ := octet_at hi
     have hcc : (c.toNat : Int).toNat.toUInt8 = c := by simp
     rw [hcc, hgood c (by have := List.mem_of_getElem? (show bl[i]? = some c by simpa using hc); exact this)] at hp
     cases hp
   case zq_zz3 =>
     intro h' tk vi vl F₁ N₁ hall
     k_steps
     unfold MStop
     refine' loop_listK (vs := [.bytes p1 _, .bytes p2 _]) (fun i m => (i = 2 → s2 = false ∧ e2 = false)) rfl ?zq_zF ?zq_zN ?zq_zM ?zq_zc ?zq_ze ?zq_zj ?zq_zt ?zq_zd
     case zq_zF => k_asm
     case zq_zN => k_asm
     case zq_zM => exact .head _
     case zq_zc => exact rfl
     case zq_ze => exact rfl
     case zq_zj => exact fun h => nomatch h
     case zq_zt =>
       rintro i I it v m₁ h tk hi hJ off F₁ N₁
       match i, hi with
       | 0, hi =>
         obtain rfl := Option.some.inj hi
         k_steps
         all_goals exact ⟨_, _, _, rfl, by assumption, by assumption, fun h => absurd h (by decide)⟩
       | 1, hi =>
         obtain rfl := Option.some.inj hi
         cases s2 <;> cases e2
         · k_steps
           all_goals exact ⟨_, _, _, rfl, by assumption, by assumption, by simp⟩
         all_goals
           k_steps
           dsimp only [qx, LEndK]
           (try dsimp only)
           k_steps
           all_goals exact hret _ _ (by assumption) (by k_extra "M:news")
     case zq_zd =>
       rintro m₁ h tk hse F₁ N₁
       obtain ⟨rfl, rfl⟩ := hse rfl
       k_steps
       all_goals exact hret _ _ (by assumption) (by k_extra "M:news")))) only [↓Kn]
end
section
variable {dp un : Nat} {gd : Option (List Code)} {env : Env} {outer : List Env} {A₀ : Around} {base h₀ g₀ : Heap} {L : Addr} {m : Str → Option Value} {mean : ExcName → Option Value} {mg mb : Str → Option Value} {w : World} {s : Shared} {Q E : Value → Shared → Prop} {news : List (Addr × Obj)}
theorem fmt_ok {i : Nat} {t : Tok} (B : Below (AA dp un gd outer) base outer h₀) (F : Fr h₀ L s.heap m) (X : (hd.heap_1 w.params).In h₀) (N : News h₀ L s.heap news) (T : Top hd.view_1 loose mean mg mb h₀) (hf : env.frame = some L) (hke : env.scope.kind = .function) (hdp : dp + 12 < recursionLimit) (hu : un + 120 < cLine) (hi : i < 7) (h0 : i ≠ 0) (h3 : i ≠ 3)
   (hret : ∀ h' tk', Fr h₀ L h' m → News h₀ L h' news → Q (.bool true) { s with heap := h', toks := tk' }) :
   wpAny (model PG w) ((AA dp un gd outer).deeper env) (call (.ref 124) [.bytes (rs i).toArray t]) Q E s := by
  match i, hi, h0, h3 with
  | 0, _, h0, _ => exact absurd rfl h0
  | 3, _, _, h3 => exact absurd rfl h3
  | 1, _, _, _ => exact fmt_parts (bl := rs 1) (p1 := #[104, 101, 97, 100, 115]) (p2 := #[97]) (lc := 97) (s2 := false) (e2 := false) B F X N T hf hke hdp hu (by k_extra "D") (by k_extra "D") (by k_extra "D") (by k_extra "D") (by k_extra "D") (by k_extra "D") (by k_extra "D") (by k_extra "D") (by k_extra "D") (by unfold cutsTwo; first | decide | decide +kernel) (by k_extra "D") (by k_extra "D") (by k_extra "D") (by k_extra "D") (by k_extra "D") (by k_extra "D") (by k_extra "D") (by k_extra "D") (by k_extra "D") (by k_extra "D") hret
  | 2, _, _, _ => exact fmt_parts (bl := rs 2) (p1 := #[104, 101, 97, 100, 115]) (p2 := #[98]) (lc := 98) (s2 := false) (e2 := false) B F X N T hf hke hdp hu (by k_extra "D") (by k_extra "D") (by k_extra "D") (by k_extra "D") (by k_extra "D") (by k_extra "D") (by k_extra "D") (by k_extra "D") (by k_extra "D") (by unfold cutsTwo; first | decide | decide +kernel) (by k_extra "D") (by k_extra "D") (by k_extra "D") (by k_extra "D") (by k_extra "D") (by k_extra "D") (by k_extra "D") (by k_extra "D") (by k_extra "D") (by k_extra "D") hret
  | 4, _, _, _ => exact fmt_parts (bl := rs 4) (p1 := #[116, 97, 103, 115]) (p2 := #[118]) (lc := 118) (s2 := false) (e2 := false) B F X N T hf hke hdp hu (by k_extra "D") (by k_extra "D") (by k_extra "D") (by k_extra "D") (by k_extra "D") (by k_extra "D") (by k_extra "D") (by k_extra "D") (by k_extra "D") (by unfold cutsTwo; first | decide | decide +kernel) (by k_extra "D") (by k_extra "D") (by k_extra "D") (by k_extra "D") (by k_extra "D") (by k_extra "D") (by k_extra "D") (by k_extra "D") (by k_extra "D") (by k_extra "D") hret
  | 5, _, _, _ => exact fmt_parts (bl := rs 5) (p1 := #[110, 111, 116, 101, 115]) (p2 := #[110]) (lc := 110) (s2 := false) (e2 := false) B F X N T hf hke hdp hu (by k_extra "D") (by k_extra "D") (by k_extra "D") (by k_extra "D") (by k_extra "D") (by k_extra "D") (by k_extra "D") (by k_extra "D") (by k_extra "D") (by unfold cutsTwo; first | decide | decide +kernel) (by k_extra "D") (by k_extra "D") (by k_extra "D") (by k_extra "D") (by k_extra "D") (by k_extra "D") (by k_extra "D") (by k_extra "D") (by k_extra "D") (by k_extra "D") hret
  | 6, _, _, _ => exact fmt_parts (bl := rs 6) (p1 := #[112, 117, 108, 108]) (p2 := #[49]) (lc := 49) (s2 := false) (e2 := false) B F X N T hf hke hdp hu (by k_extra "D") (by k_extra "D") (by k_extra "D") (by k_extra "D") (by k_extra "D") (by k_extra "D") (by k_extra "D") (by k_extra "D") (by k_extra "D") (by unfold cutsTwo; first | decide | decide +kernel) (by k_extra "D") (by k_extra "D") (by k_extra "D") (by k_extra "D") (by k_extra "D") (by k_extra "D") (by k_extra "D") (by k_extra "D") (by k_extra "D") (by k_extra "D") hret
theorem fmt_no {i : Nat} {t : Tok} (B : Below (AA dp un gd outer) base outer h₀) (F : Fr h₀ L s.heap m) (X : (hd.heap_1 w.params).In h₀) (N : News h₀ L s.heap news) (T : Top hd.view_1 loose mean mg mb h₀) (hf : env.frame = some L) (hke : env.scope.kind = .function) (hdp : dp + 12 < recursionLimit) (hu : un + 120 < cLine) (hi : i < 7) (h0 : 2 ≤ i)
   (hret : ∀ h' tk', Fr h₀ L h' m → News h₀ L h' news → Q (.bool false) { s with heap := h', toks := tk' }) :
   wpAny (model PG w) ((AA dp un gd outer).deeper env) (call (.ref 124) [.bytes (rw_ i).toArray t]) Q E s := by
  match i, hi, h0 with
  | 2, _, _ => exact fmt_plain (bl := rw_ 2) B F X N T hf hke hdp hu (by k_extra "D") (by k_extra "D") hret
  | 3, _, _ => exact fmt_parts (bl := rw_ 3) (p1 := #[104, 101, 97, 100, 115]) (p2 := #[97, 46, 108, 111, 99, 107]) (lc := 107) (s2 := false) (e2 := true) B F X N T hf hke hdp hu (by k_extra "D") (by k_extra "D") (by k_extra "D") (by k_extra "D") (by k_extra "D") (by k_extra "D") (by k_extra "D") (by k_extra "D") (by k_extra "D") (by unfold cutsTwo; first | decide | decide +kernel) (by k_extra "D") (by k_extra "D") (by k_extra "D") (by k_extra "D") (by k_extra "D") (by k_extra "D") (by k_extra "D") (by k_extra "D") (by k_extra "D") (by k_extra "D") hret
  | 4, _, _ => exact fmt_parts (bl := rw_ 4) (p1 := #[104, 101, 97, 100, 115]) (p2 := #[46, 97]) (lc := 97) (s2 := true) (e2 := false) B F X N T hf hke hdp hu (by k_extra "D") (by k_extra "D") (by k_extra "D") (by k_extra "D") (by k_extra "D") (by k_extra "D") (by k_extra "D") (by k_extra "D") (by k_extra "D") (by unfold cutsTwo; first | decide | decide +kernel) (by k_extra "D") (by k_extra "D") (by k_extra "D") (by k_extra "D") (by k_extra "D") (by k_extra "D") (by k_extra "D") (by k_extra "D") (by k_extra "D") (by k_extra "D") hret
  | 5, _, _ => exact fmt_dots (bl := rw_ 5) B F X N T hf hke hdp hu (by k_extra "D") (by k_extra "D") (by k_extra "D") hret
  | 6, _, _ => exact fmt_octet (bl := rw_ 6) B F X N T hf hke hdp hu (by k_extra "D") (by k_extra "D") (by k_extra "D") (by k_extra "D") ⟨32, by first | decide | decide +kernel, by first | decide | decide +kernel⟩ hret
end
theorem cut5 {w : World} {A : Around} {E : Value → Shared → Prop} {s : Shared} {h₀ : Heap} {L : Addr} {m : Str → Option Value} {news : List (Addr × Obj)} {b d : Array UInt8} {t : Tok} {value slice : PySem.Expr} {tk5 : Tok} {Q : Value → Shared → Prop} (hF : Fr h₀ L s.heap m) (hN : News h₀ L s.heap news)
    (e1 : KBy.whole b (some 5) none = false) (e2 : KBy.picked b (some 5) none = d) (e3 : d.size ≤ 16777216)
    (h : ∀ h' t' k, Fr h₀ L h' m → News h₀ L h' news → Q (.bytes d t') { s with heap := h', toks := k })
    (hs : subscripted slice false (.bytes b t) (.ref s.heap.objs.size) = operate [.ref s.heap.objs.size, .bytes b t] (getItem (.bytes b t) (.ref s.heap.objs.size)))
    (ht : ∀ r, letTemporaryGo value (.bytes b t) r = pure ()) :
    wpAny (model PG w) A (subscriptTail value slice (.bytes b t) (.ref s.heap.objs.size)) Q E { s with heap := s.heap.push { cls := .type "slice", data := .fields #[.int 5 tk5, .none, .none] } } := by
  refine KBy.slice_N (lo := some 5) (hi := none) hF hN (by first | exact .int _ _ | constructor) (by first | exact .none | constructor) e1 ?_ ?_ hs ht
  · rw [e2]; exact e3
  · rw [e2]; exact h
section
variable {dp un : Nat} {gd : Option (List Code)} {env : Env} {outer : List Env} {A₀ : Around} {base h₀ g₀ : Heap} {L : Addr} {m : Str → Option Value} {mean : ExcName → Option Value} {mg mb : Str → Option Value} {w : World} {s : Shared} {Q E : Value → Shared → Prop} {news : List (Addr × Obj)}
theorem c_name_ok {t : Tok} {i : Nat} {self : Value} (B : Below (AA dp un gd outer) base outer h₀) (F : Fr h₀ L s.heap m) (X : (hd.heap_1 w.params).In h₀) (N : News h₀ L s.heap news) (T : Top hd.view_1 loose mean mg mb h₀) (hf : env.frame = some L) (hke : env.scope.kind = .function)
   (hdp : dp + 16 < recursionLimit) (hu : un + 160 < cLine) (hi : i < 7)
   (hret : ∀ h' tk', Fr h₀ L h' m → News h₀ L h' news → Q .none { s with heap := h', toks := tk' }) :
   wpAny (model PG w) ((AA dp un gd outer).deeper env) (call (.ref 168) [self, .bytes (nm i).toArray t]) Q E s := by
  refine Kf ?_
  simp (disch := (refine @id _ ?_; k_dflt (
   have zF10 := U 10; have zF2 := U 2; have zF3 := U 3; have zF16 := U 16; have zF21 := U 21
   by_cases hq : i = 0 ∨ i = 3
   · have hV : (decide ((#[72, 69, 65, 68] : Array UInt8).toList = (nm i).toArray.toList) || decide ((#[114, 101, 102, 115, 47, 115, 116, 97, 115, 104] : Array UInt8).toList = (nm i).toArray.toList)) = true := by rcases hq with rfl | rfl <;> decide
     k_extra "M:enter"
     k_steps
     all_goals exact hret _ _ (by assumption) (by k_extra "M:news")
   · have h0 : i ≠ 0 := fun z => hq (.inl z)
     have h3 : i ≠ 3 := fun z => hq (.inr z)
     have hV : (decide ((#[72, 69, 65, 68] : Array UInt8).toList = (nm i).toArray.toList) || decide ((#[114, 101, 102, 115, 47, 115, 116, 97, 115, 104] : Array UInt8).toList = (nm i).toArray.toList)) = false := by
       have : ∀ i : Fin 7, i.val ≠ 0 → i.val ≠ 3 → (decide ((#[72, 69, 65, 68] : Array UInt8).toList = (nm i).toArray.toList) || decide ((#[114, 101, 102, 115, 47, 115, 116, 97, 115, 104] : Array UInt8).toList = (nm i).toArray.toList)) = false := by decide
       exact this ⟨i, hi⟩ h0 h3
     have hS : startsB (nm i).toArray #[114, 101, 102, 115, 47] = true := by
       have : ∀ i : Fin 7, i.val ≠ 0 → startsB (nm i).toArray #[114, 101, 102, 115, 47] = true := by decide
       exact this ⟨i, hi⟩ h0
     have e1 : KBy.whole (nm i).toArray (some 5) none = false := by
       have : ∀ i : Fin 7, KBy.whole (nm i).toArray (some 5) none = false := by decide
       exact this ⟨i, hi⟩
     have e2 : KBy.picked (nm i).toArray (some 5) none = (rs i).toArray := by
       have : ∀ i : Fin 7, KBy.picked (nm i).toArray (some 5) none = (rs i).toArray := by decide
       exact this ⟨i, hi⟩
     have e3 : (rs i).toArray.size ≤ 16777216 := by
       have : ∀ i : Fin 7, (rs i).toArray.size ≤ 16777216 := by decide
       exact this ⟨i, hi⟩
     k_extra "M:enter"
     k_steps
     all_goals exact hret _ _ (by assumption) (by k_extra "M:news")))) only [↓Kn]
end
section
variable {dp un : Nat} {gd : Option (List Code)} {env : Env} {outer : List Env} {A₀ : Around} {base h₀ g₀ : Heap} {L : Addr} {m : Str → Option Value} {mean : ExcName → Option Value} {mg mb : Str → Option Value} {w : World} {s : Shared} {Q E : Value → Shared → Prop} {news : List (Addr × Obj)}
theorem c_name_no {t : Tok} {i : Nat} {self : Value} (B : Below (AA dp un gd outer) base outer h₀) (F : Fr h₀ L s.heap m) (X : (hd.heap_1 w.params).In h₀) (N : News h₀ L s.heap news) (T : Top hd.view_1 loose mean mg mb h₀) (hf : env.frame = some L) (hke : env.scope.kind = .function) (XB : (hd.heap_1 w.params).In base) (TB : Top hd.view_1 loose mean mg mb base) (D : KtsDicts (outer.filterMap (·.frame)) h₀) (T0 : KtsTurn (outer.filterMap (·.frame)) g₀ h₀)
   (hdp : dp + 16 < recursionLimit) (hu : un + 160 < cLine) (hi : i < 7)
   (hno : ∀ e h' tk' G, Fr h₀ L G m → RaisedSN base G (env :: outer) e (.ref 31) news h' → G.UpToSlots h' → E (.ref e) { s with heap := h', toks := tk' }) :
   wpAny (model PG w) ((AA dp un gd outer).deeper env) (call (.ref 168) [self, .bytes (wr i).toArray t]) Q E s := by
  refine Kf ?_
  simp (disch := (refine @id _ ?_; k_dflt (
   have zF10 := U 10; have zF2 := U 2; have zF3 := U 3; have zF16 := U 16; have zF22 := U 22
   have hV : (decide ((#[72, 69, 65, 68] : Array UInt8).toList = (wr i).toArray.toList) || decide ((#[114, 101, 102, 115, 47, 115, 116, 97, 115, 104] : Array UInt8).toList = (wr i).toArray.toList)) = false := by
     have : ∀ i : Fin 7, (decide ((#[72, 69, 65, 68] : Array UInt8).toList = (wr i).toArray.toList) || decide ((#[114, 101, 102, 115, 47, 115, 116, 97, 115, 104] : Array UInt8).toList = (wr i).toArray.toList)) = false := by decide
     exact this ⟨i, hi⟩
   by_cases hq : i < 2
   · have hS : startsB (wr i).toArray #[114, 101, 102, 115, 47] = false := by
       have : ∀ i : Fin 7, i.val < 2 → startsB (wr i).toArray #[114, 101, 102, 115, 47] = false := by decide
       exact this ⟨i, hi⟩ hq
     k_extra "M:enterS"
     k_steps
     all_goals (first | (rename RaisedS _ _ _ _ _ _ _ _ _ => rS; exact hno _ _ _ _ (by assumption) (raisedSN_sub rS.toSN (by intro p hp; first | exact hp | exact .tail _ hp)) (by assumption)) | (rename RaisedSN _ _ _ _ _ _ _ => rS; exact hno _ _ _ _ (by assumption) (raisedSN_sub rS (by intro p hp; first | exact hp | exact .tail _ hp)) (by assumption)))
   · have h2 : 2 ≤ i := by omega
     have hS : startsB (wr i).toArray #[114, 101, 102, 115, 47] = true := by
       have : ∀ i : Fin 7, 2 ≤ i.val → startsB (wr i.val).toArray #[114, 101, 102, 115, 47] = true := by decide
       exact this ⟨i, hi⟩ h2
     have e1 : KBy.whole (wr i).toArray (some 5) none = false := by
       have : ∀ i : Fin 7, 2 ≤ i.val → KBy.whole (wr i.val).toArray (some 5) none = false := by decide
       exact this ⟨i, hi⟩ h2
     have e2 : KBy.picked (wr i).toArray (some 5) none = (rw_ i).toArray := by
       have : ∀ i : Fin 7, 2 ≤ i.val → KBy.picked (wr i.val).toArray (some 5) none = (rw_ i.val).toArray := by decide
       exact this ⟨i, hi⟩ h2
     have e3 : (rw_ i).toArray.size ≤ 16777216 := by
       have : ∀ i : Fin 7, (rw_ i.val).toArray.size ≤ 16777216 := by decide
       exact this ⟨i, hi⟩
     have hI : inB #[47, 47] (wr i).toArray = false := by
       have : ∀ i : Fin 7, inB #[47, 47] (wr i.val).toArray = false := by decide
       exact this ⟨i, hi⟩
     k_extra "M:enterS"
     k_steps
     all_goals (first | (rename RaisedS _ _ _ _ _ _ _ _ _ => rS; exact hno _ _ _ _ (by assumption) (raisedSN_sub rS.toSN (by intro p hp; first | exact hp | exact .tail _ hp)) (by assumption)) | (rename RaisedSN _ _ _ _ _ _ _ => rS; exact hno _ _ _ _ (by assumption) (raisedSN_sub rS (by intro p hp; first | exact hp | exact .tail _ hp)) (by assumption)))))) only [↓Kn]
end
theorem dict_get1 {prog : Program} {w : World} {A : Around} {E : Value → Shared → Prop} {s : Shared} {h₀ : Heap} {L d : Addr} {news : List (Addr × Obj)} {o : Obj} {kvs : List (List UInt8 × Value)} {b : Array UInt8} {t : Tok} {r : Option Value} {Q : Value → Shared → Prop} (N : News h₀ L s.heap news) (hm : (d, o) ∈ news) (hO : o.IsDictOf (bytesKind prog w) kvs) (lo : (d == sysModules) = false)
    (hr : valueAt kvs b.toList = r) (h : Q (r.getD .none) { s with toks := s.toks + 1 }) : wpAny (model prog w) A (call (.builtin "dict.get") [.ref d, .bytes b t]) Q E s :=
  call_meetsIn PySem.F.slot_dict_get (dict_at N hm hO).typeIs PySem.F.entry_dict_get (PySem.F.args_dict_get_2 _ _) (meets_dict_get (bytesKind prog w) d (bk_is b t) lo) ⟨_, (dict_at N hm hO).mapOf, by rw [hr]; exact h⟩
theorem lv_hex {c : Nat} (h : 1 ≤ c ∧ c ≤ 7) : HexB (lv c) ∧ ∃ k, (lv c).length = 2 * k ∧ (k = 20 ∨ k = 32) := by
  have a1 : ∀ c : Fin 8, (lv c).length = 2 * (if c.val = 4 then 32 else 20) := by decide +kernel
  have a2 : ∀ c : Fin 8, 1 ≤ c.val → ∀ j : Fin 64, (j : Nat) < (lv c).length → (hexV ((lv c).getD j 0).toNat).isSome = true := by decide +kernel
  have b1 := a1 ⟨c, by omega⟩
  refine ⟨fun j hj => ?_, _, b1, ?_⟩
  · have b2 := a2 ⟨c, by omega⟩ h.1 ⟨j, by dsimp only at b1; split at b1 <;> omega⟩ hj
    exact Option.isSome_iff_exists.mp b2
  · dsimp only; split <;> simp
theorem sym_len {j : Nat} (h : j < 7) : (oct (.inl j)).length ≤ 200 ∧ (oct (.inl j)).length ≠ 40 ∧ (oct (.inl j)).length ≠ 64 := by
  have : ∀ j : Fin 7, (oct (.inl j)).length ≤ 200 ∧ (oct (.inl j)).length ≠ 40 ∧ (oct (.inl j)).length ≠ 64 := by decide
  exact this ⟨j, h⟩
section
variable {dp un : Nat} {gd : Option (List Code)} {env : Env} {outer : List Env} {A₀ : Around} {base h₀ g₀ : Heap} {L : Addr} {m : Str → Option Value} {mean : ExcName → Option Value} {mg mb : Str → Option Value} {w : World} {s : Shared} {Q E : Value → Shared → Prop} {news : List (Addr × Obj)}
theorem c_check_cell {x : Sum Nat Nat} {t : Tok} {self : Value} (B : Below (AA dp un gd outer) base outer h₀) (F : Fr h₀ L s.heap m) (X : (hd.heap_1 w.params).In h₀) (N : News h₀ L s.heap news) (T : Top hd.view_1 loose mean mg mb h₀) (hf : env.frame = some L) (hke : env.scope.kind = .function)
   (hdp : dp + 16 < recursionLimit) (hu : un + 160 < cLine) (hx : CellOk (some x))
   (hret : ∀ h' tk', Fr h₀ L h' m → News h₀ L h' news → Q .none { s with heap := h', toks := tk' }) :
   wpAny (model PG w) ((AA dp un gd outer).deeper env) (call (.ref 175) [self, .bytes (oct x).toArray t]) Q E s := by
  cases x with
  | inl j =>
    obtain ⟨a, b, c⟩ := sym_len hx
    exact c_check_sym B F X N T hf hke hdp hu a b c (oct_starts_l hx) hret
  | inr c =>
    obtain ⟨a, k, b, d⟩ := lv_hex hx
    exact c_check_ok B F X N T hf hke hdp hu b (by omega) d a hret
end
section
variable {w : World} {A : Around} {s : Shared} {Q : Unit → Shared → Prop} {E : Value → Shared → Prop} {h₀ : Heap} {L Ad : Addr} {m : Str → Option Value} {rest : List (Addr × Obj)} {o : Obj} {kvs : List (List UInt8 × Value)} {H : Nat → Cell}
theorem ledger_swap {h' : Heap} {o' : Obj} (F : Fr h₀ L s.heap m) (N : News h₀ L s.heap ((Ad, o) :: rest)) (hrest : ∀ p ∈ rest, p.1 ≠ Ad) (e : h'.get? Ad = some o') (hs : Heap.SameBut Ad s.heap h') :
    Fr h₀ L h' m ∧ News h₀ L h' ((Ad, o') :: rest) := by
  have hA := N _ (.head _)
  refine ⟨F.change hs hA.2.1 hA.2.2, fun p hp => ?_⟩
  rcases List.mem_cons.mp hp with rfl | hp
  · exact ⟨e, hA.2⟩
  · exact ⟨hs.extBut _ _ (hrest p hp) (N p (.tail _ hp)).1, (N p (.tail _ hp)).2⟩
theorem set_refs {i : Nat} {x : Sum Nat Nat} {t t' : Tok} (F : Fr h₀ L s.heap m) (N : News h₀ L s.heap ((Ad, o) :: rest)) (hrest : ∀ p ∈ rest, p.1 ≠ Ad) (hO : o.IsDictOf (bytesKind PG w) kvs) (RK : RefsKV kvs H) (hi : i < 7) (hx : CellOk (some x))
    (h : ∀ o' kvs' h' tk', o'.IsDictOf (bytesKind PG w) kvs' → RefsKV kvs' (setH H i (some x)) → Fr h₀ L h' m → News h₀ L h' ((Ad, o') :: rest) → Q () { s with heap := h', toks := tk' }) :
    wpAny (model PG w) A (setItem (.ref Ad) (.bytes (nm i).toArray t) (.bytes (oct x).toArray t')) Q E s := by
  refine wpAny_setItem_pairs (knd := bytesKind PG w) (k := nm i) (by simpa using bk_is (nm i).toArray t) (dict_at N (.head _) hO) (fun h' hd hs => ?_) (Nat.le_trans RK.len (by decide))
  obtain ⟨o', e, hO'⟩ := Heap.dictOf_iff.mp hd
  obtain ⟨F', N'⟩ := ledger_swap F N hrest e hs
  exact h o' _ h' _ hO' (RK.stored hi hx t') F' N'
end
def curB : Cell → List UInt8
  | none => ZRO
  | some x => oct x
theorem zro_ne {ob : List UInt8} (h : ((ZRO.toArray).toList != ob.toArray.toList) = true) : curB none ≠ ob := by simpa [curB] using h
theorem zro_eq {ob : List UInt8} (h : ((ZRO.toArray).toList != ob.toArray.toList) = false) : curB none = ob := by simpa [curB] using h
section
variable {dp un : Nat} {gd : Option (List Code)} {env : Env} {outer : List Env} {A₀ : Around} {base h₀ g₀ : Heap} {L : Addr} {m : Str → Option Value} {mean : ExcName → Option Value} {mg mb : Str → Option Value} {w : World} {s : Shared} {Q E : Value → Shared → Prop} {news : List (Addr × Obj)}
variable {R Dd Ad P : Addr} {o : Obj} {kvs : List (List UInt8 × Value)} {H : Nat → Cell} {i1 i2 : Int} {t1 t2 : Tok}
variable {rest : List (Addr × Obj)}
theorem c_set_true {i : Nat} {x : Sum Nat Nat} {t t' : Tok} {ov : Value} 
   (B : Below (AA dp un gd outer) base outer h₀) (F : Fr h₀ L s.heap m) (X : (hd.heap_1 w.params).In h₀) (N : News h₀ L s.heap ((Ad, o) :: rest)) (T : Top hd.view_1 loose mean mg mb h₀) (hf : env.frame = some L) (hke : env.scope.kind = .function)
   (hdp : dp + 20 < recursionLimit) (hu : un + 200 < cLine)
   (hR : (R, instObj 304 Dd) ∈ rest) (hD : (Dd, dictOf [⟨i1, .str (Str.ofString "_refs") t1, .ref Ad⟩, ⟨i2, .str (Str.ofString "_peeled") t2, .ref P⟩] 2) ∈ rest) (hO : o.IsDictOf (bytesKind PG w) kvs) (hAs : (Ad == sysModules) = false) (RK : RefsKV kvs H) (hrest : ∀ p ∈ rest, p.1 ≠ Ad)
   (hi : i < 7) (hx : CellOk (some x))
   (hret : ∀ o' kvs' h' tk', o'.IsDictOf (bytesKind PG w) kvs' → RefsKV kvs' (setH H i (some x)) → Fr h₀ L h' m → News h₀ L h' ((Ad, o') :: rest) → Q (.bool true) { s with heap := h', toks := tk' }) :
   wpAny (model PG w) ((AA dp un gd outer).deeper env) (call (.ref 280) [.ref R, .bytes (nm i).toArray t, .none, .bytes (oct x).toArray t']) Q E s := by
   refine Kf ?_
   simp (disch := (refine @id _ ?_; k_dflt (
    have zF10 := U 10; have zF2 := U 2; have zF3 := U 3; have zF16 := U 16; have zF23 := U 23; have zF24 := U 24
    have hR' : (R, instObj 304 Dd) ∈ (Ad, o) :: rest := .tail _ hR
    have hD' : (Dd, dictOf [⟨i1, .str (Str.ofString "_refs") t1, .ref Ad⟩, ⟨i2, .str (Str.ofString "_peeled") t2, .ref P⟩] 2) ∈ (Ad, o) :: rest := .tail _ hD
    obtain ⟨r, hval⟩ : ∃ r, valueAt kvs (nm i).toArray.toList = r := ⟨_, rfl⟩
    k_extra "M:enter"
    k_steps
    all_goals exact hret _ _ _ _ (by assumption) (by assumption) (by assumption) (by assumption)))) only [↓Kn]
theorem c_swap {i : Nat} {x : Sum Nat Nat} {t t' : Tok} {ob : List UInt8} {tb : Tok} 
   (B : Below (AA dp un gd outer) base outer h₀) (F : Fr h₀ L s.heap m) (X : (hd.heap_1 w.params).In h₀) (N : News h₀ L s.heap ((Ad, o) :: rest)) (T : Top hd.view_1 loose mean mg mb h₀) (hf : env.frame = some L) (hke : env.scope.kind = .function)
   (hdp : dp + 20 < recursionLimit) (hu : un + 200 < cLine)
   (hR : (R, instObj 304 Dd) ∈ rest) (hD : (Dd, dictOf [⟨i1, .str (Str.ofString "_refs") t1, .ref Ad⟩, ⟨i2, .str (Str.ofString "_peeled") t2, .ref P⟩] 2) ∈ rest) (hO : o.IsDictOf (bytesKind PG w) kvs) (hAs : (Ad == sysModules) = false) (RK : RefsKV kvs H) (hrest : ∀ p ∈ rest, p.1 ≠ Ad)
   (hi : i < 7) (hx : CellOk (some x))
   (hT : curB (H i) = ob → ∀ o' kvs' h' tk', o'.IsDictOf (bytesKind PG w) kvs' → RefsKV kvs' (setH H i (some x)) → Fr h₀ L h' m → News h₀ L h' ((Ad, o') :: rest) → Q (.bool true) { s with heap := h', toks := tk' })
   (hF : curB (H i) ≠ ob → ∀ h' tk', Fr h₀ L h' m → News h₀ L h' ((Ad, o) :: rest) → Q (.bool false) { s with heap := h', toks := tk' }) :
   wpAny (model PG w) ((AA dp un gd outer).deeper env) (call (.ref 280) [.ref R, .bytes (nm i).toArray t, .bytes ob.toArray tb, .bytes (oct x).toArray t']) Q E s := by
   refine Kf ?_
   simp (disch := (refine @id _ ?_; k_dflt (
    have zF10 := U 10; have zF2 := U 2; have zF3 := U 3; have zF16 := U 16; have zF23 := U 23; have zF24 := U 24
    have hR' : (R, instObj 304 Dd) ∈ (Ad, o) :: rest := .tail _ hR
    have hD' : (Dd, dictOf [⟨i1, .str (Str.ofString "_refs") t1, .ref Ad⟩, ⟨i2, .str (Str.ofString "_peeled") t2, .ref P⟩] 2) ∈ (Ad, o) :: rest := .tail _ hD
    cases hH : H i with
    | none =>
      have hval : valueAt kvs (nm i).toArray.toList = none := RK.none_ hi hH
      rw [hH] at hT hF
      k_extra "M:enter"
      k_steps
      · rename (_ != _) = true => hc
        exact hF (zro_ne hc) _ _ (by assumption) (by assumption)
      · rename (_ != _) = false => hc
        exact hT (zro_eq hc) _ _ _ _ (by assumption) (by assumption) (by assumption) (by assumption)
    | some y =>
      obtain ⟨tv, hval⟩ : ∃ t, valueAt kvs (nm i).toArray.toList = some (.bytes (oct y).toArray t) := RK.some_ hi hH
      rw [hH] at hT hF
      k_extra "M:enter"
      k_steps
      · rename (_ != _) = true => hc
        exact hF (by simpa [curB] using hc) _ _ (by assumption) (by assumption)
      · rename (_ != _) = false => hc
        exact hT (by simpa [curB] using hc) _ _ _ _ (by assumption) (by assumption) (by assumption) (by assumption)))) only [↓Kn]
end
def BadV (bl : List UInt8) : Prop := startsB bl.toArray #[114, 101, 102, 58, 32] = false ∧ bl.length ≤ 200 ∧ ((bl.length ≠ 40 ∧ bl.length ≠ 64) ∨ ∃ k, bl.length = 2 * k ∧ (k = 20 ∨ k = 32) ∧ ((bl.getD 0 0).toNat = 103 ∨ (bl.getD 0 0).toNat = 32))
theorem wr_nm {k : Nat} (hk : k < 7) : ∀ i, i < 7 → wr k ≠ nm i := by
  have : ∀ k : Fin 7, ∀ i : Fin 7, wr k ≠ nm i := by decide
  exact fun i hi => this ⟨k, hk⟩ ⟨i, hi⟩
section
variable {dp un : Nat} {gd : Option (List Code)} {env : Env} {outer : List Env} {A₀ : Around} {base h₀ g₀ : Heap} {L : Addr} {m : Str → Option Value} {mean : ExcName → Option Value} {mg mb : Str → Option Value} {w : World} {s : Shared} {Q E : Value → Shared → Prop} {news : List (Addr × Obj)}
theorem c_check_no {bl : List UInt8} {t : Tok} {self : Value} (B : Below (AA dp un gd outer) base outer h₀) (F : Fr h₀ L s.heap m) (X : (hd.heap_1 w.params).In h₀) (N : News h₀ L s.heap news) (T : Top hd.view_1 loose mean mg mb h₀) (hf : env.frame = some L) (hke : env.scope.kind = .function) (XB : (hd.heap_1 w.params).In base) (TB : Top hd.view_1 loose mean mg mb base) (D : KtsDicts (outer.filterMap (·.frame)) h₀) (T0 : KtsTurn (outer.filterMap (·.frame)) g₀ h₀)
   (hdp : dp + 16 < recursionLimit) (hu : un + 160 < cLine) (hb : BadV bl)
   (hno : ∀ e h₁ h' tk' G, KtsTurn (outer.filterMap (·.frame)) g₀ h₁ → Fr h₁ L G m → Below (AA dp un gd outer) base outer h₁ → (hd.heap_1 w.params).In h₁ → Top hd.view_1 loose mean mg mb h₁ → KtsDicts (outer.filterMap (·.frame)) h₁ → RaisedSN base G (env :: outer) e (.type "ValueError") news h' → G.UpToSlots h' → E (.ref e) { s with heap := h', toks := tk' }) :
   wpAny (model PG w) ((AA dp un gd outer).deeper env) (call (.ref 175) [self, .bytes bl.toArray t]) Q E s := by
  obtain ⟨a, b, ⟨c, d⟩ | ⟨k, c, d, e⟩⟩ := hb
  · exact c_check_len B F X N T hf hke XB TB D T0 hdp hu b c d a fun e h' tk' G FG R U => hno e h₀ h' tk' G T0 FG B X T D R U
  · exact c_check_bad B F X N T hf hke XB TB D T0 hdp hu c (by omega) (by omega) d e a hno
end
section
variable {dp un : Nat} {gd : Option (List Code)} {env : Env} {outer : List Env} {A₀ : Around} {base h₀ g₀ : Heap} {L : Addr} {m : Str → Option Value} {mean : ExcName → Option Value} {mg mb : Str → Option Value} {w : World} {s : Shared} {Q E : Value → Shared → Prop} {news : List (Addr × Obj)}
variable {R Dd Ad P : Addr} {o : Obj} {kvs : List (List UInt8 × Value)} {H : Nat → Cell} {i1 i2 : Int} {t1 t2 : Tok}
variable {rest : List (Addr × Obj)}
theorem c_set_bad {bl nb : List UInt8} {t t' : Tok} {ov : Value} (B : Below (AA dp un gd outer) base outer h₀) (F : Fr h₀ L s.heap m) (X : (hd.heap_1 w.params).In h₀) (N : News h₀ L s.heap news) (T : Top hd.view_1 loose mean mg mb h₀) (hf : env.frame = some L) (hke : env.scope.kind = .function) (XB : (hd.heap_1 w.params).In base) (TB : Top hd.view_1 loose mean mg mb base) (D : KtsDicts (outer.filterMap (·.frame)) h₀) (T0 : KtsTurn (outer.filterMap (·.frame)) g₀ h₀)
   (hdp : dp + 20 < recursionLimit) (hu : un + 200 < cLine) (hR : (R, instObj 304 Dd) ∈ news) (hD : (Dd, dictOf [⟨i1, .str (Str.ofString "_refs") t1, .ref Ad⟩, ⟨i2, .str (Str.ofString "_peeled") t2, .ref P⟩] 2) ∈ news) (hb : BadV bl)
   (hno : ∀ e h₁ h' tk' G, KtsTurn (outer.filterMap (·.frame)) g₀ h₁ → Fr h₁ L G m → Below (AA dp un gd outer) base outer h₁ → (hd.heap_1 w.params).In h₁ → Top hd.view_1 loose mean mg mb h₁ → KtsDicts (outer.filterMap (·.frame)) h₁ → RaisedSN base G (env :: outer) e (.type "ValueError") news h' → G.UpToSlots h' → E (.ref e) { s with heap := h', toks := tk' }) :
   wpAny (model PG w) ((AA dp un gd outer).deeper env) (call (.ref 280) [.ref R, .bytes nb.toArray t, ov, .bytes bl.toArray t']) Q E s := by
  refine Kf ?_
  simp (disch := (refine @id _ ?_; k_dflt (
   have zF10 := U 10; have zF2 := U 2; have zF3 := U 3; have zF16 := U 16; have zF23 := U 23; have zF25 := U 25
   k_extra "M:enterS"
   k_steps
   all_goals (rename RaisedSN base _ (env :: outer) _ _ _ _ => rS; rename KtsTurn ((env :: outer).filterMap _) _ _ => rT; refine' turn_up B XB TB D T0 hf (by assumption : Fr h₀ L _ m) rT fun h₁ k1 k2 k3 k4 k5 k6 => hno _ _ _ _ _ k1 k2 k3 k4 k5 k6 rS (by assumption))))) only [↓Kn]
theorem c_set_name {x : Sum Nat Nat} {k : Nat} {t t' : Tok} (B : Below (AA dp un gd outer) base outer h₀) (F : Fr h₀ L s.heap m) (X : (hd.heap_1 w.params).In h₀) (N : News h₀ L s.heap news) (T : Top hd.view_1 loose mean mg mb h₀) (hf : env.frame = some L) (hke : env.scope.kind = .function) (XB : (hd.heap_1 w.params).In base) (TB : Top hd.view_1 loose mean mg mb base) (D : KtsDicts (outer.filterMap (·.frame)) h₀) (T0 : KtsTurn (outer.filterMap (·.frame)) g₀ h₀)
   (hdp : dp + 20 < recursionLimit) (hu : un + 200 < cLine) (hR : (R, instObj 304 Dd) ∈ news) (hD : (Dd, dictOf [⟨i1, .str (Str.ofString "_refs") t1, .ref Ad⟩, ⟨i2, .str (Str.ofString "_peeled") t2, .ref P⟩] 2) ∈ news) (hA : (Ad, o) ∈ news) (hO : o.IsDictOf (bytesKind PG w) kvs) (hAs : (Ad == sysModules) = false) (RK : RefsKV kvs H) (hk : k < 7) (hx : CellOk (some x))
   (hno : ∀ e h' tk' G, Fr h₀ L G m → RaisedSN base G (env :: outer) e (.ref 31) news h' → G.UpToSlots h' → E (.ref e) { s with heap := h', toks := tk' }) :
   wpAny (model PG w) ((AA dp un gd outer).deeper env) (call (.ref 280) [.ref R, .bytes (wr k).toArray t, .none, .bytes (oct x).toArray t']) Q E s := by
  refine Kf ?_
  simp (disch := (refine @id _ ?_; k_dflt (
   have zF10 := U 10; have zF2 := U 2; have zF3 := U 3; have zF16 := U 16; have zF23 := U 23; have zF25 := U 25
   k_extra "M:enterS"
   k_steps
   all_goals (rename RaisedSN base _ (env :: outer) _ _ _ _ => rS; exact hno _ _ _ _ (by assumption) rS (by assumption))))) only [↓Kn]
theorem c_swap_name {x : Sum Nat Nat} {k : Nat} {t t' tb : Tok} (B : Below (AA dp un gd outer) base outer h₀) (F : Fr h₀ L s.heap m) (X : (hd.heap_1 w.params).In h₀) (N : News h₀ L s.heap news) (T : Top hd.view_1 loose mean mg mb h₀) (hf : env.frame = some L) (hke : env.scope.kind = .function) (XB : (hd.heap_1 w.params).In base) (TB : Top hd.view_1 loose mean mg mb base) (D : KtsDicts (outer.filterMap (·.frame)) h₀) (T0 : KtsTurn (outer.filterMap (·.frame)) g₀ h₀)
   (hdp : dp + 20 < recursionLimit) (hu : un + 200 < cLine) (hR : (R, instObj 304 Dd) ∈ news) (hD : (Dd, dictOf [⟨i1, .str (Str.ofString "_refs") t1, .ref Ad⟩, ⟨i2, .str (Str.ofString "_peeled") t2, .ref P⟩] 2) ∈ news) (hA : (Ad, o) ∈ news) (hO : o.IsDictOf (bytesKind PG w) kvs) (hAs : (Ad == sysModules) = false) (RK : RefsKV kvs H) (hk : k < 7) (hx : CellOk (some x))
   (hno : ∀ e h' tk' G, Fr h₀ L G m → RaisedSN base G (env :: outer) e (.ref 31) news h' → G.UpToSlots h' → E (.ref e) { s with heap := h', toks := tk' }) :
   wpAny (model PG w) ((AA dp un gd outer).deeper env) (call (.ref 280) [.ref R, .bytes (wr k).toArray t, .bytes ZRO.toArray tb, .bytes (oct x).toArray t']) Q E s := by
  refine Kf ?_
  simp (disch := (refine @id _ ?_; k_dflt (
   have zF10 := U 10; have zF2 := U 2; have zF3 := U 3; have zF16 := U 16; have zF23 := U 23; have zF25 := U 25
   have hval : valueAt kvs (wr k).toArray.toList = none := RK.other (wr_nm hk)
   k_extra "M:enterS"
   k_steps
   all_goals (rename RaisedSN base _ (env :: outer) _ _ _ _ => rS; exact hno _ _ _ _ (by assumption) rS (by assumption))))) only [↓Kn]
end
theorem in_refs {w : World} {A : Around} {E : Value → Shared → Prop} {s : Shared} {h₀ : Heap} {L d : Addr} {news : List (Addr × Obj)} {o : Obj} {kvs : List (List UInt8 × Value)} {b : Array UInt8} {t : Tok} {r : Bool} {Q : Value → Shared → Prop} (N : News h₀ L s.heap news) (hm : (d, o) ∈ news) (hO : o.IsDictOf (bytesKind PG w) kvs) (lo : (d == sysModules) = false)
    (hr : (valueAt kvs b.toList).isSome = r) (h : Q (.bool r) { s with toks := s.toks + 1 }) : wpAny (model PG w) A (compareOp .In (.bytes b t) (.ref d)) Q E s :=
  wpAny_in_of (knd := bytesKind PG w) (bk_is b t) lo (dict_at N hm hO).mapOf (by rw [hr]; exact h)
section
variable {dp un : Nat} {gd : Option (List Code)} {env : Env} {outer : List Env} {A₀ : Around} {base h₀ g₀ : Heap} {L : Addr} {m : Str → Option Value} {mean : ExcName → Option Value} {mg mb : Str → Option Value} {w : World} {s : Shared} {Q E : Value → Shared → Prop} {news : List (Addr × Obj)}
variable {R Dd Ad P : Addr} {o : Obj} {kvs : List (List UInt8 × Value)} {H : Nat → Cell} {i1 i2 : Int} {t1 t2 : Tok}
variable {rest : List (Addr × Obj)}
theorem c_add {i : Nat} {x : Sum Nat Nat} {t t' : Tok}
   (B : Below (AA dp un gd outer) base outer h₀) (F : Fr h₀ L s.heap m) (X : (hd.heap_1 w.params).In h₀) (N : News h₀ L s.heap ((Ad, o) :: rest)) (T : Top hd.view_1 loose mean mg mb h₀) (hf : env.frame = some L) (hke : env.scope.kind = .function)
   (hdp : dp + 20 < recursionLimit) (hu : un + 200 < cLine)
   (hR : (R, instObj 304 Dd) ∈ rest) (hD : (Dd, dictOf [⟨i1, .str (Str.ofString "_refs") t1, .ref Ad⟩, ⟨i2, .str (Str.ofString "_peeled") t2, .ref P⟩] 2) ∈ rest) (hO : o.IsDictOf (bytesKind PG w) kvs) (hAs : (Ad == sysModules) = false) (RK : RefsKV kvs H) (hrest : ∀ p ∈ rest, p.1 ≠ Ad)
   (hi : i < 7) (hx : CellOk (some x))
   (hT : H i = none → ∀ o' kvs' h' tk', o'.IsDictOf (bytesKind PG w) kvs' → RefsKV kvs' (setH H i (some x)) → Fr h₀ L h' m → News h₀ L h' ((Ad, o') :: rest) → Q (.bool true) { s with heap := h', toks := tk' })
   (hF : H i ≠ none → ∀ h' tk', Fr h₀ L h' m → News h₀ L h' ((Ad, o) :: rest) → Q (.bool false) { s with heap := h', toks := tk' }) :
   wpAny (model PG w) ((AA dp un gd outer).deeper env) (call (.ref 287) [.ref R, .bytes (nm i).toArray t, .bytes (oct x).toArray t']) Q E s := by
   refine Kf ?_
   simp (disch := (refine @id _ ?_; k_dflt (
    have zF10 := U 10; have zF2 := U 2; have zF3 := U 3; have zF16 := U 16; have zF23 := U 23; have zF26 := U 26; have zF27 := U 27
    have hR' : (R, instObj 304 Dd) ∈ (Ad, o) :: rest := .tail _ hR
    have hD' : (Dd, dictOf [⟨i1, .str (Str.ofString "_refs") t1, .ref Ad⟩, ⟨i2, .str (Str.ofString "_peeled") t2, .ref P⟩] 2) ∈ (Ad, o) :: rest := .tail _ hD
    cases hH : H i with
    | none =>
      have hval : (valueAt kvs (nm i).toArray.toList).isSome = false := by rw [show (nm i).toArray.toList = nm i from rfl, (RK.at_ hi).2, hH]; rfl
      rw [hH] at hF
      replace hT := hT hH
      k_extra "M:enter"
      k_steps
      all_goals exact hT _ _ _ _ (by assumption) (by assumption) (by assumption) (by assumption)
    | some y =>
      have hval : (valueAt kvs (nm i).toArray.toList).isSome = true := by rw [show (nm i).toArray.toList = nm i from rfl, (RK.at_ hi).2, hH]; rfl
      replace hF := hF (by rw [hH]; intro z; cases z)
      k_extra "M:enter"
      k_steps
      all_goals exact hF _ _ (by assumption) (by assumption)))) only [↓Kn]
end
section
variable {dp un : Nat} {gd : Option (List Code)} {env : Env} {outer : List Env} {A₀ : Around} {base h₀ g₀ : Heap} {L : Addr} {m : Str → Option Value} {mean : ExcName → Option Value} {mg mb : Str → Option Value} {w : World} {s : Shared} {Q E : Value → Shared → Prop} {news : List (Addr × Obj)}
variable {R Dd Ad P : Addr} {o : Obj} {kvs : List (List UInt8 × Value)} {H : Nat → Cell} {i1 i2 : Int} {t1 t2 : Tok}
theorem c_add_bad {bl nb : List UInt8} {t t' : Tok} (B : Below (AA dp un gd outer) base outer h₀) (F : Fr h₀ L s.heap m) (X : (hd.heap_1 w.params).In h₀) (N : News h₀ L s.heap news) (T : Top hd.view_1 loose mean mg mb h₀) (hf : env.frame = some L) (hke : env.scope.kind = .function) (XB : (hd.heap_1 w.params).In base) (TB : Top hd.view_1 loose mean mg mb base) (D : KtsDicts (outer.filterMap (·.frame)) h₀) (T0 : KtsTurn (outer.filterMap (·.frame)) g₀ h₀)
   (hdp : dp + 20 < recursionLimit) (hu : un + 200 < cLine) (hR : (R, instObj 304 Dd) ∈ news) (hD : (Dd, dictOf [⟨i1, .str (Str.ofString "_refs") t1, .ref Ad⟩, ⟨i2, .str (Str.ofString "_peeled") t2, .ref P⟩] 2) ∈ news) (hb : BadV bl)
   (hno : ∀ e h₁ h' tk' G, KtsTurn (outer.filterMap (·.frame)) g₀ h₁ → Fr h₁ L G m → Below (AA dp un gd outer) base outer h₁ → (hd.heap_1 w.params).In h₁ → Top hd.view_1 loose mean mg mb h₁ → KtsDicts (outer.filterMap (·.frame)) h₁ → RaisedSN base G (env :: outer) e (.type "ValueError") news h' → G.UpToSlots h' → E (.ref e) { s with heap := h', toks := tk' }) :
   wpAny (model PG w) ((AA dp un gd outer).deeper env) (call (.ref 287) [.ref R, .bytes nb.toArray t, .bytes bl.toArray t']) Q E s := by
  refine Kf ?_
  simp (disch := (refine @id _ ?_; k_dflt (
   have zF10 := U 10; have zF2 := U 2; have zF3 := U 3; have zF16 := U 16; have zF23 := U 23; have zF25 := U 25
   k_extra "M:enterS"
   k_steps
   all_goals (rename RaisedSN base _ (env :: outer) _ _ _ _ => rS; rename KtsTurn ((env :: outer).filterMap _) _ _ => rT; refine' turn_up B XB TB D T0 hf (by assumption : Fr h₀ L _ m) rT fun h₁ k1 k2 k3 k4 k5 k6 => hno _ _ _ _ _ k1 k2 k3 k4 k5 k6 rS (by assumption))))) only [↓Kn]
end
theorem noted_own {prog : Program} {w : World} {A₀ : Around} {E : Value → Shared → Prop} {s' : Shared} {base g h : Heap} {outer : List Env} {L a e : Addr} {m : Str → Option Value} {name : Str} {scope : Scope} {cd : Value} {cls : String} {Q : Flow → Shared → Prop} {news : List (Addr × Obj)} {hs : List ExceptHandler}
    (hx : Heap.NewExc h s'.heap e cls) (K : Below A₀ base outer g) (F : Fr g L h m) (N : News g L h news)
    (k : ∀ G h', Fr g L G m → RaisedSN base G (envOf name scope L a cd :: outer) e (.type cls) news h' → G.UpToSlots h' → wpAny (model prog w) (A₀.deeper (envOf name scope L a cd)) (handleBy (.ref e) (envOf name scope L a cd) hs) Q E { s' with heap := h' }) (hk : scope.kind = .function := by rfl) :
    wpAny (model prog w) (A₀.deeper (envOf name scope L a cd)) (noteFrame (.ref e) (envOf name scope L a cd))
      (fun _ s₂ => wpAny (model prog w) (A₀.deeper (envOf name scope L a cd)) (setFlight (.ref e) none) (fun _ s₃ =>
        wpAny (model prog w) (A₀.deeper (envOf name scope L a cd)) (handleBy (.ref e) (envOf name scope L a cd) hs) Q E s₃) E s₂) E s' := by
  have K' := K.push (name := name) (a := a) (cd := cd) F hk
  generalize hfr : (envOf name scope L a cd :: outer).filterMap (·.frame) = fs
  have frm : ∀ b, b ∈ fs → b = L ∨ b ∈ outer.filterMap (·.frame) := fun b hb => by rw [← hfr] at hb; exact kts_mem hb
  have hin : ∀ env ∈ (envOf name scope L a cd :: outer), ∀ b, env.frame = some b → b ∈ fs := fun env he b hb => by rw [← hfr]; exact List.mem_filterMap.mpr ⟨env, he, hb⟩
  have nG : ∀ b o, g.get? b = some o → b ∉ news.map (·.1) := fun b o q z => by
    obtain ⟨p, hp, rfl⟩ := List.mem_map.mp z
    rw [(N p hp).2.2] at q; cases q
  have FG : Fr g L (hideAll h (news.map (·.1))) m := by
    obtain ⟨oL, es, ep, hL, h1, h2, h3⟩ := F.ns
    refine ⟨⟨oL, es, ep, hideAll_get _ hL fun z => ?_, h1, h2, h3⟩, fun b o q => hideAll_get _ (F.keep b o q) (nG b o q), F.above⟩
    obtain ⟨p, hp, e⟩ := List.mem_map.mp z
    exact (N p hp).2.1 e
  have bfs : ∀ b, base.get? b ≠ none → b ∉ fs := fun b q hm => by
    rw [← hfr] at hm
    exact q (K'.frames.mem hm).1
  have st : base.StaysIn (hideAll h fs) := fun b o q => hideAll_get _ (K'.stays b o q) (bfs b (by rw [q]; intro z; cases z))
  have hl : ∀ q ∈ news, (hideAll h fs).get? q.1 = some q.2 ∧ (hideAll h (news.map (·.1))).get? q.1 = none ∧ base.get? q.1 = none := fun q hq => by
    refine ⟨hideAll_get _ (N q hq).1 fun hm => ?_, hideAll_none _ (List.mem_map_of_mem hq), fresh_of_stays K.stays (N q hq).2.2⟩
    rcases frm _ hm with z | z
    · exact (N q hq).2.1 z
    · obtain ⟨_, o, ho, _⟩ := K.frames.mem z
      rw [(N q hq).2.2] at ho; cases ho
  obtain ⟨ob, tp, he, hcls, hd⟩ := hx.there
  have hen : (hideAll h fs).get? e = none := by
    cases q : (hideAll h fs).get? e with
    | none => rfl
    | some o => have := of_hideAll _ q; rw [hx.new] at this; cases this
  unfold noteFrame
  simp only [show (envOf name scope L a cd).frame = some L from rfl]
  refine wpAny_bind (wpAny_field he hd (x := .none) rfl ?_)
  rw [if_neg (by decide)]
  refine wpAny_entryW (a0 := tp) (base := hideAll h fs) (Around.frames_deeper K.stack) ((funFrames_hide K'.frames hin).of_keeps fun b o hb _ => ⟨o, hx.keeps b o hb, rfl⟩) rfl he (fun b o hb => hx.keeps b o (of_hideAll _ hb)) hen hd (by show 1 < 6; decide) rfl fun h' hN => ?_
  obtain ⟨k1, k2, k3, k4⟩ := hN
  refine wpAny_landsW (base := hideAll h fs) (l := envOf name scope L a cd :: outer) (cls := .type cls) (a0 := tp) (L := L) ⟨k1, hen, k2, by rw [← hcls]; exact k3⟩ fun h₂ fl up => ?_
  refine k (hideAll h (news.map (·.1))) h₂ FG ⟨_, tp, st, fun b o q nm => hideAll_get _ (of_hideAll _ q) (by rw [hfr] at nm; exact nm), hl, fl⟩ ?_
  exact ((Heap.UpToSlots.of_keeps fun b o q => hx.keeps b o (of_hideAll _ q)).trans k4).trans up
theorem pop_there {w : World} {A : Around} {E : Value → Shared → Prop} {s : Shared} {h₀ : Heap} {L Ad : Addr} {m : Str → Option Value} {rest : List (Addr × Obj)} {o : Obj} {kvs : List (List UInt8 × Value)} {H : Nat → Cell} {i : Nat} {t : Tok} {v : Value} {Q : Value → Shared → Prop}
    (F : Fr h₀ L s.heap m) (N : News h₀ L s.heap ((Ad, o) :: rest)) (hrest : ∀ p ∈ rest, p.1 ≠ Ad) (hO : o.IsDictOf (bytesKind PG w) kvs) (RK : RefsKV kvs H) (hi : i < 7) (hv : valueAt kvs (nm i).toArray.toList = some v)
    (h : ∀ o' kvs' h' tk', o'.IsDictOf (bytesKind PG w) kvs' → RefsKV kvs' (setH H i none) → Fr h₀ L h' m → News h₀ L h' ((Ad, o') :: rest) → Q v { s with heap := h', toks := tk' }) :
    wpAny (model PG w) A (call (.builtin "dict.pop") [.ref Ad, .bytes (nm i).toArray t]) Q E s :=
  call_meetsIn PySem.F.slot_dict_pop (dict_at N (.head _) hO).typeIs PySem.F.entry_dict_pop (PySem.F.args_dict_pop_2 _ _) (meets_dict_pop_there (knd := bytesKind PG w) (d := Ad) (k := nm i) (by simpa using bk_is (nm i).toArray t) [] (.inl rfl) rfl)
    ⟨kvs, v, dict_at N (.head _) hO, Nat.le_trans RK.len (by decide), hv, fun h' hd hs => by
      obtain ⟨o', e, hO'⟩ := Heap.dictOf_iff.mp hd
      obtain ⟨F', N'⟩ := ledger_swap F N hrest e hs
      exact h o' _ h' _ hO' (RK.without hi) F' N'⟩
theorem pop_miss {w : World} {A : Around} {E : Value → Shared → Prop} {s : Shared} {h₀ : Heap} {L d : Addr} {news : List (Addr × Obj)} {o : Obj} {kvs : List (List UInt8 × Value)} {b : Array UInt8} {t : Tok} {Q : Value → Shared → Prop}
    (N : News h₀ L s.heap news) (hm : (d, o) ∈ news) (hO : o.IsDictOf (bytesKind PG w) kvs) (lo : (d == sysModules) = false) (hh : A.handled = none) (hv : valueAt kvs b.toList = none)
    (h : ∀ h' e, Heap.NewExc s.heap h' e "KeyError" → E (.ref e) { s with heap := h', toks := s.toks + 1 }) :
    wpAny (model PG w) A (call (.builtin "dict.pop") [.ref d, .bytes b t]) Q E s :=
  call_meetsIn PySem.F.slot_dict_pop (dict_at N hm hO).typeIs PySem.F.entry_dict_pop (PySem.F.args_dict_pop_2 _ _) (meets_dict_pop_missing (bytesKind PG w) d (bk_is b t) lo rfl)
    ⟨hh, kvs, dict_at N hm hO, hv, h⟩
section
variable {dp un : Nat} {gd : Option (List Code)} {env : Env} {outer : List Env} {A₀ : Around} {base h₀ g₀ : Heap} {L : Addr} {m : Str → Option Value} {mean : ExcName → Option Value} {mg mb : Str → Option Value} {w : World} {s : Shared} {Q E : Value → Shared → Prop} {news : List (Addr × Obj)}
variable {R Dd Ad P : Addr} {o : Obj} {kvs : List (List UInt8 × Value)} {H : Nat → Cell} {i1 i2 : Int} {t1 t2 : Tok}
variable {rest : List (Addr × Obj)}
theorem c_rem_there {i : Nat} {t tb : Tok} {ov : Value} {ob : List UInt8}
   (B : Below (AA dp un gd outer) base outer h₀) (F : Fr h₀ L s.heap m) (X : (hd.heap_1 w.params).In h₀) (N : News h₀ L s.heap ((Ad, o) :: rest)) (T : Top hd.view_1 loose mean mg mb h₀) (hf : env.frame = some L) (hke : env.scope.kind = .function) 
   (hdp : dp + 20 < recursionLimit) (hu : un + 200 < cLine)
   (hR : (R, instObj 304 Dd) ∈ rest) (hD : (Dd, dictOf [⟨i1, .str (Str.ofString "_refs") t1, .ref Ad⟩, ⟨i2, .str (Str.ofString "_peeled") t2, .ref P⟩] 2) ∈ rest) (hO : o.IsDictOf (bytesKind PG w) kvs) (hAs : (Ad == sysModules) = false) (RK : RefsKV kvs H) (hrest : ∀ p ∈ rest, p.1 ≠ Ad)
   (hi : i < 7) (hH : H i ≠ none)
   (hT : ∀ o' kvs' h' tk', o'.IsDictOf (bytesKind PG w) kvs' → RefsKV kvs' (setH H i none) → Fr h₀ L h' m → News h₀ L h' ((Ad, o') :: rest) → Q (.bool true) { s with heap := h', toks := tk' }) :
   wpAny (model PG w) ((AA dp un gd outer).deeper env) (call (.ref 294) [.ref R, .bytes (nm i).toArray t, .none]) Q E s := by
   refine Kf ?_
   simp (disch := (refine @id _ ?_; k_dflt (
    have zF10 := U 10; have zF2 := U 2; have zF3 := U 3; have zF16 := U 16; have zF23 := U 23; have zF28 := U 28; have zF29 := U 29; have zF30 := U 30
    have hR' : (R, instObj 304 Dd) ∈ (Ad, o) :: rest := .tail _ hR
    have hD' : (Dd, dictOf [⟨i1, .str (Str.ofString "_refs") t1, .ref Ad⟩, ⟨i2, .str (Str.ofString "_peeled") t2, .ref P⟩] 2) ∈ (Ad, o) :: rest := .tail _ hD
    obtain ⟨y, hy⟩ := Option.ne_none_iff_exists'.mp hH
    obtain ⟨tv, hval⟩ : ∃ t, valueAt kvs (nm i).toArray.toList = some (.bytes (oct y).toArray t) := RK.some_ hi hy
    k_extra "M:enter"
    k_steps
    all_goals exact hT _ _ _ _ (by assumption) (by assumption) (by assumption) (by assumption)))) only [↓Kn]
theorem c_rem_miss {i : Nat} {t tb : Tok} {ov : Value} {ob : List UInt8}
   (B : Below (AA dp un gd outer) base outer h₀) (F : Fr h₀ L s.heap m) (X : (hd.heap_1 w.params).In h₀) (N : News h₀ L s.heap ((Ad, o) :: rest)) (T : Top hd.view_1 loose mean mg mb h₀) (hf : env.frame = some L) (hke : env.scope.kind = .function) (XB : (hd.heap_1 w.params).In base) (TB : Top hd.view_1 loose mean mg mb base) (D : KtsDicts (outer.filterMap (·.frame)) h₀) (T0 : KtsTurn (outer.filterMap (·.frame)) g₀ h₀)
   (hdp : dp + 20 < recursionLimit) (hu : un + 200 < cLine)
   (hR : (R, instObj 304 Dd) ∈ rest) (hD : (Dd, dictOf [⟨i1, .str (Str.ofString "_refs") t1, .ref Ad⟩, ⟨i2, .str (Str.ofString "_peeled") t2, .ref P⟩] 2) ∈ rest) (hO : o.IsDictOf (bytesKind PG w) kvs) (hAs : (Ad == sysModules) = false) (RK : RefsKV kvs H) (hrest : ∀ p ∈ rest, p.1 ≠ Ad)
   (hi : i < 7) (hH : H i = none)
   (hT : ∀ h₁ h' tk', KtsTurn (outer.filterMap (·.frame)) g₀ h₁ → Fr h₁ L h' m → News h₁ L h' ((Ad, o) :: rest) → Below (AA dp un gd outer) base outer h₁ → (hd.heap_1 w.params).In h₁ → Top hd.view_1 loose mean mg mb h₁ → KtsDicts (outer.filterMap (·.frame)) h₁ → Q (.bool true) { s with heap := h', toks := tk' }) :
   wpAny (model PG w) ((AA dp un gd outer).deeper env) (call (.ref 294) [.ref R, .bytes (nm i).toArray t, .none]) Q E s := by
   refine Kf ?_
   simp (disch := (refine @id _ ?_; k_dflt (
    have zF10 := U 10; have zF2 := U 2; have zF3 := U 3; have zF16 := U 16; have zF23 := U 23; have zF28 := U 28; have zF29 := U 29; have zF30 := U 30
    have hR' : (R, instObj 304 Dd) ∈ (Ad, o) :: rest := .tail _ hR
    have hD' : (Dd, dictOf [⟨i1, .str (Str.ofString "_refs") t1, .ref Ad⟩, ⟨i2, .str (Str.ofString "_peeled") t2, .ref P⟩] 2) ∈ (Ad, o) :: rest := .tail _ hD
    have hval : valueAt kvs (nm i).toArray.toList = none := RK.none_ hi hH
    k_extra "M:enterS"
    k_steps
    all_goals exact hT _ _ _ (by assumption) (by assumption) (by assumption) (by assumption) (by assumption) (by assumption) (by assumption)))) only [↓Kn]
theorem c_rem_there_b {i : Nat} {t tb : Tok} {ov : Value} {ob : List UInt8}
   (B : Below (AA dp un gd outer) base outer h₀) (F : Fr h₀ L s.heap m) (X : (hd.heap_1 w.params).In h₀) (N : News h₀ L s.heap ((Ad, o) :: rest)) (T : Top hd.view_1 loose mean mg mb h₀) (hf : env.frame = some L) (hke : env.scope.kind = .function) 
   (hdp : dp + 20 < recursionLimit) (hu : un + 200 < cLine)
   (hR : (R, instObj 304 Dd) ∈ rest) (hD : (Dd, dictOf [⟨i1, .str (Str.ofString "_refs") t1, .ref Ad⟩, ⟨i2, .str (Str.ofString "_peeled") t2, .ref P⟩] 2) ∈ rest) (hO : o.IsDictOf (bytesKind PG w) kvs) (hAs : (Ad == sysModules) = false) (RK : RefsKV kvs H) (hrest : ∀ p ∈ rest, p.1 ≠ Ad)
   (hi : i < 7) (hH : H i ≠ none)
   (hT : curB (H i) = ob → ∀ o' kvs' h' tk', o'.IsDictOf (bytesKind PG w) kvs' → RefsKV kvs' (setH H i none) → Fr h₀ L h' m → News h₀ L h' ((Ad, o') :: rest) → Q (.bool true) { s with heap := h', toks := tk' })
   (hF : curB (H i) ≠ ob → ∀ h' tk', Fr h₀ L h' m → News h₀ L h' ((Ad, o) :: rest) → Q (.bool false) { s with heap := h', toks := tk' }) :
   wpAny (model PG w) ((AA dp un gd outer).deeper env) (call (.ref 294) [.ref R, .bytes (nm i).toArray t, .bytes ob.toArray tb]) Q E s := by
   refine Kf ?_
   simp (disch := (refine @id _ ?_; k_dflt (
    have zF10 := U 10; have zF2 := U 2; have zF3 := U 3; have zF16 := U 16; have zF23 := U 23; have zF28 := U 28; have zF29 := U 29; have zF30 := U 30
    have hR' : (R, instObj 304 Dd) ∈ (Ad, o) :: rest := .tail _ hR
    have hD' : (Dd, dictOf [⟨i1, .str (Str.ofString "_refs") t1, .ref Ad⟩, ⟨i2, .str (Str.ofString "_peeled") t2, .ref P⟩] 2) ∈ (Ad, o) :: rest := .tail _ hD
    obtain ⟨y, hy⟩ := Option.ne_none_iff_exists'.mp hH
    obtain ⟨tv, hval⟩ : ∃ t, valueAt kvs (nm i).toArray.toList = some (.bytes (oct y).toArray t) := RK.some_ hi hy
    rw [hy] at hT hF
    k_extra "M:enter"
    k_steps
    · rename (_ != _) = true => hc
      exact hF (by simpa [curB] using hc) _ _ (by assumption) (by assumption)
    · rename (_ != _) = false => hc
      exact hT (by simpa [curB] using hc) _ _ _ _ (by assumption) (by assumption) (by assumption) (by assumption)))) only [↓Kn]
theorem c_rem_miss_b {i : Nat} {t tb : Tok} {ov : Value} {ob : List UInt8}
   (B : Below (AA dp un gd outer) base outer h₀) (F : Fr h₀ L s.heap m) (X : (hd.heap_1 w.params).In h₀) (N : News h₀ L s.heap ((Ad, o) :: rest)) (T : Top hd.view_1 loose mean mg mb h₀) (hf : env.frame = some L) (hke : env.scope.kind = .function) (XB : (hd.heap_1 w.params).In base) (TB : Top hd.view_1 loose mean mg mb base) (D : KtsDicts (outer.filterMap (·.frame)) h₀) (T0 : KtsTurn (outer.filterMap (·.frame)) g₀ h₀)
   (hdp : dp + 20 < recursionLimit) (hu : un + 200 < cLine)
   (hR : (R, instObj 304 Dd) ∈ rest) (hD : (Dd, dictOf [⟨i1, .str (Str.ofString "_refs") t1, .ref Ad⟩, ⟨i2, .str (Str.ofString "_peeled") t2, .ref P⟩] 2) ∈ rest) (hO : o.IsDictOf (bytesKind PG w) kvs) (hAs : (Ad == sysModules) = false) (RK : RefsKV kvs H) (hrest : ∀ p ∈ rest, p.1 ≠ Ad)
   (hi : i < 7) (hH : H i = none)
   (hT : curB (H i) = ob → ∀ h₁ h' tk', KtsTurn (outer.filterMap (·.frame)) g₀ h₁ → Fr h₁ L h' m → News h₁ L h' ((Ad, o) :: rest) → Below (AA dp un gd outer) base outer h₁ → (hd.heap_1 w.params).In h₁ → Top hd.view_1 loose mean mg mb h₁ → KtsDicts (outer.filterMap (·.frame)) h₁ → Q (.bool true) { s with heap := h', toks := tk' })
   (hF : curB (H i) ≠ ob → ∀ h' tk', Fr h₀ L h' m → News h₀ L h' ((Ad, o) :: rest) → Q (.bool false) { s with heap := h', toks := tk' }) :
   wpAny (model PG w) ((AA dp un gd outer).deeper env) (call (.ref 294) [.ref R, .bytes (nm i).toArray t, .bytes ob.toArray tb]) Q E s := by
   refine Kf ?_
   simp (disch := (refine @id _ ?_; k_dflt (
    have zF10 := U 10; have zF2 := U 2; have zF3 := U 3; have zF16 := U 16; have zF23 := U 23; have zF28 := U 28; have zF29 := U 29; have zF30 := U 30
    have hR' : (R, instObj 304 Dd) ∈ (Ad, o) :: rest := .tail _ hR
    have hD' : (Dd, dictOf [⟨i1, .str (Str.ofString "_refs") t1, .ref Ad⟩, ⟨i2, .str (Str.ofString "_peeled") t2, .ref P⟩] 2) ∈ (Ad, o) :: rest := .tail _ hD
    have hval : valueAt kvs (nm i).toArray.toList = none := RK.none_ hi hH
    rw [hH] at hT hF
    k_extra "M:enterS"
    k_steps
    · rename (_ != _) = true => hc
      exact hF (zro_ne hc) _ _ (by assumption) (by assumption)
    · rename (_ != _) = false => hc
      exact hT (zro_eq hc) _ _ _ (by assumption) (by assumption) (by assumption) (by assumption) (by assumption) (by assumption) (by assumption)))) only [↓Kn]
end
section
variable {dp un : Nat} {gd : Option (List Code)} {env : Env} {outer : List Env} {A₀ : Around} {base h₀ g₀ : Heap} {L : Addr} {m : Str → Option Value} {mean : ExcName → Option Value} {mg mb : Str → Option Value} {w : World} {s : Shared} {Q E : Value → Shared → Prop} {news : List (Addr × Obj)}
variable {R Dd Ad P : Addr} {o : Obj} {kvs : List (List UInt8 × Value)} {H : Nat → Cell} {i1 i2 : Int} {t1 t2 : Tok}
variable {rest : List (Addr × Obj)}
theorem c_point {i j : Nat} {t t' : Tok}
   (B : Below (AA dp un gd outer) base outer h₀) (F : Fr h₀ L s.heap m) (X : (hd.heap_1 w.params).In h₀) (N : News h₀ L s.heap ((Ad, o) :: rest)) (T : Top hd.view_1 loose mean mg mb h₀) (hf : env.frame = some L) (hke : env.scope.kind = .function) (XB : (hd.heap_1 w.params).In base) (TB : Top hd.view_1 loose mean mg mb base) (D : KtsDicts (outer.filterMap (·.frame)) h₀) (T0 : KtsTurn (outer.filterMap (·.frame)) g₀ h₀)
   (hdp : dp + 20 < recursionLimit) (hu : un + 200 < cLine)
   (hR : (R, instObj 304 Dd) ∈ rest) (hD : (Dd, dictOf [⟨i1, .str (Str.ofString "_refs") t1, .ref Ad⟩, ⟨i2, .str (Str.ofString "_peeled") t2, .ref P⟩] 2) ∈ rest) (hO : o.IsDictOf (bytesKind PG w) kvs) (hAs : (Ad == sysModules) = false) (RK : RefsKV kvs H) (hrest : ∀ p ∈ rest, p.1 ≠ Ad)
   (hi : i < 7) (hj : j < 7)
   (hT : fol H 5 i ≠ none → ∀ o' kvs' h' tk', o'.IsDictOf (bytesKind PG w) kvs' → RefsKV kvs' (setH H i (some (.inl j))) → Fr h₀ L h' m → News h₀ L h' ((Ad, o') :: rest) → Q .none { s with heap := h', toks := tk' })
   (hno : fol H 5 i = none → ∀ e h' tk' G, Fr h₀ L G m → RaisedSN base G (env :: outer) e (.ref 107) ((Ad, o) :: rest) h' → G.UpToSlots h' → E (.ref e) { s with heap := h', toks := tk' }) :
   wpAny (model PG w) ((AA dp un gd outer).deeper env) (call (.ref 273) [.ref R, .bytes (nm i).toArray t, .bytes (nm j).toArray t']) Q E s := by
   refine Kf ?_
   simp (disch := (refine @id _ ?_; k_dflt (
    have zF10 := U 10; have zF2 := U 2; have zF3 := U 3; have zF16 := U 16; have zF23 := U 23; have zF31 := U 31; have zF32 := U 32
    have hR' : (R, instObj 304 Dd) ∈ (Ad, o) :: rest := .tail _ hR
    have hD' : (Dd, dictOf [⟨i1, .str (Str.ofString "_refs") t1, .ref Ad⟩, ⟨i2, .str (Str.ofString "_peeled") t2, .ref P⟩] 2) ∈ (Ad, o) :: rest := .tail _ hD
    k_extra "M:enterS"
    k_steps
    unfold MStop
    refine' c_follow ?zq_zB ?zq_zF ?zq_zX ?zq_zN ?zq_zT ?zq_zk ?zq_zd ?zq_zu hR' hD' (.head _) hO hAs RK hi ?zq_zl ?zq_zr
    case zq_zB => k_asm
    case zq_zF => k_asm
    case zq_zX => k_asm
    case zq_zN => k_asm
    case zq_zT => k_asm
    case zq_zk => exact rfl
    case zq_zd => k_room
    case zq_zu => k_units
    case zq_zl =>
      intro hfo e' h' tk' G' FG RS RN UG
      replace hno := hno hfo
      k_steps
      all_goals (rename RaisedSN base _ (env :: outer) _ _ _ _ => rS; exact hno _ _ _ _ (by assumption) rS (by assumption))
    case zq_zr =>
      intro ks c x l ev vs n h' tk' hfo hev hnv F' N'
      replace hT := hT (by rw [hfo]; intro z; cases z)
      have hx : CellOk (some (.inl j)) := hj
      clear hno
      k_steps
      all_goals exact hT _ _ _ _ (by assumption) (by assumption) (by assumption) (by assumption)))) only [↓Kn]
end
section
variable {dp un : Nat} {gd : Option (List Code)} {env : Env} {outer : List Env} {A₀ : Around} {base h₀ g₀ : Heap} {L : Addr} {m : Str → Option Value} {mean : ExcName → Option Value} {mg mb : Str → Option Value} {w : World} {s : Shared} {Q E : Value → Shared → Prop} {news : List (Addr × Obj)}
variable {R Dd Ad P : Addr} {o : Obj} {kvs : List (List UInt8 × Value)} {H : Nat → Cell} {i1 i2 : Int} {t1 t2 : Tok}
variable {rest : List (Addr × Obj)}
theorem c_put {i : Nat} {x : Sum Nat Nat} {t t' : Tok}
   (B : Below (AA dp un gd outer) base outer h₀) (F : Fr h₀ L s.heap m) (X : (hd.heap_1 w.params).In h₀) (N : News h₀ L s.heap ((Ad, o) :: rest)) (T : Top hd.view_1 loose mean mg mb h₀) (hf : env.frame = some L) (hke : env.scope.kind = .function)
   (hdp : dp + 24 < recursionLimit) (hu : un + 240 < cLine)
   (hR : (R, instObj 304 Dd) ∈ rest) (hD : (Dd, dictOf [⟨i1, .str (Str.ofString "_refs") t1, .ref Ad⟩, ⟨i2, .str (Str.ofString "_peeled") t2, .ref P⟩] 2) ∈ rest) (hO : o.IsDictOf (bytesKind PG w) kvs) (hAs : (Ad == sysModules) = false) (RK : RefsKV kvs H) (hrest : ∀ p ∈ rest, p.1 ≠ Ad)
   (hi : i < 7) (hx : CellOk (some x))
   (hret : ∀ o' kvs' h' tk', o'.IsDictOf (bytesKind PG w) kvs' → RefsKV kvs' (setH H i (some x)) → Fr h₀ L h' m → News h₀ L h' ((Ad, o') :: rest) → Q .none { s with heap := h', toks := tk' }) :
   wpAny (model PG w) ((AA dp un gd outer).deeper env) (call (.ref 210) [.ref R, .bytes (nm i).toArray t, .bytes (oct x).toArray t']) Q E s := by
   refine Kf ?_
   simp (disch := (refine @id _ ?_; k_dflt (
    have zF10 := U 10; have zF2 := U 2; have zF3 := U 3; have zF16 := U 16; have zF23 := U 23; have zF33 := U 33
    have hR' : (R, instObj 304 Dd) ∈ (Ad, o) :: rest := .tail _ hR
    have hD' : (Dd, dictOf [⟨i1, .str (Str.ofString "_refs") t1, .ref Ad⟩, ⟨i2, .str (Str.ofString "_peeled") t2, .ref P⟩] 2) ∈ (Ad, o) :: rest := .tail _ hD
    k_extra "M:enter"
    k_steps
    all_goals exact hret _ _ _ _ (by assumption) (by assumption) (by assumption) (by assumption)))) only [↓Kn]
theorem c_put_name {x : Sum Nat Nat} {k : Nat} {t t' : Tok} (B : Below (AA dp un gd outer) base outer h₀) (F : Fr h₀ L s.heap m) (X : (hd.heap_1 w.params).In h₀) (N : News h₀ L s.heap news) (T : Top hd.view_1 loose mean mg mb h₀) (hf : env.frame = some L) (hke : env.scope.kind = .function) (XB : (hd.heap_1 w.params).In base) (TB : Top hd.view_1 loose mean mg mb base) (D : KtsDicts (outer.filterMap (·.frame)) h₀) (T0 : KtsTurn (outer.filterMap (·.frame)) g₀ h₀)
   (hdp : dp + 24 < recursionLimit) (hu : un + 240 < cLine) (hR : (R, instObj 304 Dd) ∈ news) (hD : (Dd, dictOf [⟨i1, .str (Str.ofString "_refs") t1, .ref Ad⟩, ⟨i2, .str (Str.ofString "_peeled") t2, .ref P⟩] 2) ∈ news) (hA : (Ad, o) ∈ news) (hO : o.IsDictOf (bytesKind PG w) kvs) (hAs : (Ad == sysModules) = false) (RK : RefsKV kvs H) (hk : k < 7) (hx : CellOk (some x))
   (hno : ∀ e h' tk' G, Fr h₀ L G m → RaisedSN base G (env :: outer) e (.ref 31) news h' → G.UpToSlots h' → E (.ref e) { s with heap := h', toks := tk' }) :
   wpAny (model PG w) ((AA dp un gd outer).deeper env) (call (.ref 210) [.ref R, .bytes (wr k).toArray t, .bytes (oct x).toArray t']) Q E s := by
  refine Kf ?_
  simp (disch := (refine @id _ ?_; k_dflt (
   have zF10 := U 10; have zF2 := U 2; have zF3 := U 3; have zF16 := U 16; have zF23 := U 23; have zF33 := U 33
   k_extra "M:enterS"
   k_steps
   all_goals (rename RaisedSN base _ (env :: outer) _ _ _ _ => rS; exact hno _ _ _ _ (by assumption) rS (by assumption))))) only [↓Kn]
end
section
variable {dp un : Nat} {gd : Option (List Code)} {env : Env} {outer : List Env} {A₀ : Around} {base h₀ g₀ : Heap} {L : Addr} {m : Str → Option Value} {mean : ExcName → Option Value} {mg mb : Str → Option Value} {w : World} {s : Shared} {Q E : Value → Shared → Prop} {news : List (Addr × Obj)}
variable {R Dd Ad P : Addr} {o : Obj} {kvs : List (List UInt8 × Value)} {H : Nat → Cell} {i1 i2 : Int} {t1 t2 : Tok}
variable {rest : List (Addr × Obj)}
theorem told_point {i : Nat} {j : Nat} {ov : Value} {t' : Tok} {t td : Tok}
   (B : Below (AA dp un gd outer) base outer h₀) (F : Fr h₀ L s.heap m) (X : (hd.heap_1 w.params).In h₀) (N : News h₀ L s.heap ((Ad, o) :: rest)) (T : Top hd.view_1 loose mean mg mb h₀) (hf : env.frame = some L) (hke : env.scope.kind = .function) (XB : (hd.heap_1 w.params).In base) (TB : Top hd.view_1 loose mean mg mb base) (D : KtsDicts (outer.filterMap (·.frame)) h₀) (T0 : KtsTurn (outer.filterMap (·.frame)) g₀ h₀)
   (hdp : dp + 30 < recursionLimit) (hu : un + 300 < cLine)
   (hR : (R, instObj 304 Dd) ∈ rest) (hD : (Dd, dictOf [⟨i1, .str (Str.ofString "_refs") t1, .ref Ad⟩, ⟨i2, .str (Str.ofString "_peeled") t2, .ref P⟩] 2) ∈ rest) (hO : o.IsDictOf (bytesKind PG w) kvs) (hAs : (Ad == sysModules) = false) (RK : RefsKV kvs H) (hrest : ∀ p ∈ rest, p.1 ≠ Ad)
   (hi : i < 7) (hj : j < 7)
   (hT : fol H 5 i ≠ none → ∀ o' kvs' h' tk', o'.IsDictOf (bytesKind PG w) kvs' → RefsKV kvs' (setH H i (some (.inl j))) → Fr h₀ L h' m → News h₀ L h' ((Ad, o') :: rest) → Q .none { s with heap := h', toks := tk' })
   (hF : fol H 5 i = none → ∀ h₁ h' tk' tv, KtsTurn (outer.filterMap (·.frame)) g₀ h₁ → Fr h₁ L h' m → News h₁ L h' ((Ad, o) :: rest) → Below (AA dp un gd outer) base outer h₁ → (hd.heap_1 w.params).In h₁ → Top hd.view_1 loose mean mg mb h₁ → KtsDicts (outer.filterMap (·.frame)) h₁ → Q (.str (Str.ofString "loop") tv) { s with heap := h', toks := tk' }) :
   wpAny (model PG w) ((AA dp un gd outer).deeper env) (call (.ref 368) [.ref R, .str (Str.ofString "point") td, .bytes (nm i).toArray t, ov, .bytes (oct (.inl j)).toArray t']) Q E s := by
   refine Kf ?_
   simp (disch := (refine @id _ ?_; k_dflt (
    have zF10 := U 10; have zF2 := U 2; have zF3 := U 3; have zF16 := U 16; have zF34 := U 34; have zF35 := U 35
    have hR' : (R, instObj 304 Dd) ∈ (Ad, o) :: rest := .tail _ hR
    have hD' : (Dd, dictOf [⟨i1, .str (Str.ofString "_refs") t1, .ref Ad⟩, ⟨i2, .str (Str.ofString "_peeled") t2, .ref P⟩] 2) ∈ (Ad, o) :: rest := .tail _ hD
    k_extra "M:enterS"
    k_steps
    all_goals first | exact hT (by assumption) _ _ _ _ (by assumption) (by assumption) (by assumption) (by assumption) | exact hF (by assumption) _ _ _ _ (by assumption) (by assumption) (by assumption) (by assumption) (by assumption) (by assumption) (by assumption)))) only [↓Kn]
end
section
variable {dp un : Nat} {gd : Option (List Code)} {env : Env} {outer : List Env} {A₀ : Around} {base h₀ g₀ : Heap} {L : Addr} {m : Str → Option Value} {mean : ExcName → Option Value} {mg mb : Str → Option Value} {w : World} {s : Shared} {Q E : Value → Shared → Prop} {news : List (Addr × Obj)}
variable {R Dd Ad P : Addr} {o : Obj} {kvs : List (List UInt8 × Value)} {H : Nat → Cell} {i1 i2 : Int} {t1 t2 : Tok}
variable {rest : List (Addr × Obj)}
theorem told_follow {i : Nat} {v1 v2 : Value} {t td : Tok} (B : Below (AA dp un gd outer) base outer h₀) (F : Fr h₀ L s.heap m) (X : (hd.heap_1 w.params).In h₀) (N : News h₀ L s.heap news) (T : Top hd.view_1 loose mean mg mb h₀) (hf : env.frame = some L) (hke : env.scope.kind = .function) (XB : (hd.heap_1 w.params).In base) (TB : Top hd.view_1 loose mean mg mb base) (D : KtsDicts (outer.filterMap (·.frame)) h₀) (T0 : KtsTurn (outer.filterMap (·.frame)) g₀ h₀)
   (hdp : dp + 30 < recursionLimit) (hu : un + 300 < cLine) (hR : (R, instObj 304 Dd) ∈ news) (hD : (Dd, dictOf [⟨i1, .str (Str.ofString "_refs") t1, .ref Ad⟩, ⟨i2, .str (Str.ofString "_peeled") t2, .ref P⟩] 2) ∈ news) (hA : (Ad, o) ∈ news) (hO : o.IsDictOf (bytesKind PG w) kvs) (hAs : (Ad == sysModules) = false) (RK : RefsKV kvs H) (hi : i < 7)
   (hT : ∀ ks c x l ev vs n h' tk', fol H 5 i = some (ks, c) → OctV c ev → NamesV vs.toList ks → Fr h₀ L h' m → News h₀ L h' ((x, { cls := .type "tuple", data := .seq #[.ref l, ev] }) :: (l, W.listOf vs n) :: news) → Q (.ref x) { s with heap := h', toks := tk' })
   (hF : fol H 5 i = none → ∀ h₁ h' tk' tv, KtsTurn (outer.filterMap (·.frame)) g₀ h₁ → Fr h₁ L h' m → News h₁ L h' news → Below (AA dp un gd outer) base outer h₁ → (hd.heap_1 w.params).In h₁ → Top hd.view_1 loose mean mg mb h₁ → KtsDicts (outer.filterMap (·.frame)) h₁ → Q (.str (Str.ofString "loop") tv) { s with heap := h', toks := tk' }) :
   wpAny (model PG w) ((AA dp un gd outer).deeper env) (call (.ref 368) [.ref R, .str (Str.ofString "follow") td, .bytes (nm i).toArray t, v1, v2]) Q E s := by
   refine Kf ?_
   simp (disch := (refine @id _ ?_; k_dflt (
    have zF10 := U 10; have zF2 := U 2; have zF3 := U 3; have zF16 := U 16; have zF36 := U 36
    k_extra "M:enterS"
    k_steps
    all_goals first | exact hT _ _ _ _ _ _ _ _ _ (by assumption) (by assumption) (by assumption) (by assumption) (by assumption) | exact hF (by assumption) _ _ _ _ (by assumption) (by assumption) (by assumption) (by assumption) (by assumption) (by assumption) (by assumption)))) only [↓Kn]
end
theorem names_list {w : World} {h : Heap} (X : (hd.heap_1 w.params).In h) : ∃ its, h.IsList 307 its ∧ ∀ j, j < 7 → ∃ t, its[j]? = some (.bytes (nm j).toArray t) := by
  have e := X 307 _ (by k_is)
  refine ⟨_, ⟨_, e, rfl, _, rfl⟩, fun j hj => ?_⟩
  match j, hj with
  | 0, _ => exact ⟨_, rfl⟩
  | 1, _ => exact ⟨_, rfl⟩
  | 2, _ => exact ⟨_, rfl⟩
  | 3, _ => exact ⟨_, rfl⟩
  | 4, _ => exact ⟨_, rfl⟩
  | 5, _ => exact ⟨_, rfl⟩
  | 6, _ => exact ⟨_, rfl⟩
theorem names_item {w : World} {A : Around} {E : Value → Shared → Prop} {s : Shared} {Q : Value → Shared → Prop} {j : Nat} {ui : Tok} {value slice : PySem.Expr} {h₀ : Heap} {L : Addr} {m : Str → Option Value} (F : Fr h₀ L s.heap m) (X₀ : (hd.heap_1 w.params).In h₀) (hj : j < 7) (h : ∀ t', Q (.bytes (nm j).toArray t') s)
    (hs : subscripted slice false (.ref 307) (.int (j : Int) ui) = operate [.ref 307, .int (j : Int) ui] (getItem (.ref 307) (.int (j : Int) ui))) (ht : ∀ r, letTemporaryGo value (.ref 307) r = pure ()) :
    wpAny (model PG w) A (subscriptTail value slice (.ref 307) (.int (j : Int) ui)) Q E s := by
  obtain ⟨its, hl, hi⟩ := names_list (X₀.keeps F.keep)
  obtain ⟨t, e⟩ := hi j hj
  exact subscriptTail_builtin hl.typeIs list_getitem_lookup (wpAny_getItem_list hl (by omega) (by omega) (x := .bytes (nm j).toArray t) (by simpa using e) (h t)) hs ht
section
variable {dp un : Nat} {gd : Option (List Code)} {env : Env} {outer : List Env} {A₀ : Around} {base h₀ g₀ : Heap} {L : Addr} {m : Str → Option Value} {mean : ExcName → Option Value} {mg mb : Str → Option Value} {w : World} {s : Shared} {Q E : Value → Shared → Prop} {news : List (Addr × Obj)}
theorem c_octets {c : Cell} {v : Value} (B : Below (AA dp un gd outer) base outer h₀) (F : Fr h₀ L s.heap m) (X : (hd.heap_1 w.params).In h₀) (N : News h₀ L s.heap news) (T : Top hd.view_1 loose mean mg mb h₀) (hf : env.frame = some L) (hke : env.scope.kind = .function)
   (hdp : dp + 4 < recursionLimit) (hu : un + 40 < cLine) (hv : CellV c v) (hc : CellOk c)
   (hret : ∀ v' h' tk', OctV c v' → Fr h₀ L h' m → News h₀ L h' news → Q v' { s with heap := h', toks := tk' }) :
   wpAny (model PG w) ((AA dp un gd outer).deeper env) (call (.ref 328) [v]) Q E s := by
   refine Kf ?_
   simp (disch := (refine @id _ ?_; k_dflt (
    have zF10 := U 10; have zF2 := U 2; have zF3 := U 3; have zF16 := U 16; have zF37 := U 37
    match c, hv, hc with
    | none, hv, hc =>
      rw [show v = .none from hv]
      k_extra "M:enter"
      k_steps
      all_goals exact hret _ _ _ rfl (by assumption) (by assumption)
    | some (.inl j), hv, hc =>
      obtain ⟨t, rfl⟩ := hv
      have hj : j < 7 := hc
      k_extra "M:enter"
      k_steps
      all_goals exact hret _ _ _ ⟨_, rfl⟩ (by assumption) (by assumption)
    | some (.inr k), hv, hc =>
      obtain ⟨t, rfl⟩ := hv
      k_extra "M:enter"
      k_steps
      all_goals exact hret _ _ _ ⟨_, rfl⟩ (by assumption) (by assumption)))) only [↓Kn]
end
section
variable {dp un : Nat} {gd : Option (List Code)} {env : Env} {outer : List Env} {A₀ : Around} {base h₀ g₀ : Heap} {L : Addr} {m : Str → Option Value} {mean : ExcName → Option Value} {mg mb : Str → Option Value} {w : World} {s : Shared} {Q E : Value → Shared → Prop} {news : List (Addr × Obj)}
theorem c_alike_bool {a b : Bool} (B : Below (AA dp un gd outer) base outer h₀) (F : Fr h₀ L s.heap m) (X : (hd.heap_1 w.params).In h₀) (N : News h₀ L s.heap news) (T : Top hd.view_1 loose mean mg mb h₀) (hf : env.frame = some L) (hke : env.scope.kind = .function) (hdp : dp + 4 < recursionLimit) (hu : un + 40 < cLine)
   (hret : ∀ h' tk', Fr h₀ L h' m → News h₀ L h' news → Q (.bool (a == b)) { s with heap := h', toks := tk' }) :
   wpAny (model PG w) ((AA dp un gd outer).deeper env) (call (.ref 375) [.bool a, .bool b]) Q E s := by
   refine Kf ?_
   simp (disch := (refine @id _ ?_; k_dflt (
    have zF10 := U 10; have zF2 := U 2; have zF3 := U 3; have zF16 := U 16
    cases a <;> cases b
    all_goals k_extra "M:enter"
    all_goals k_steps
    all_goals exact hret _ _ (by assumption) (by assumption)))) only [↓Kn]
theorem c_alike_none (B : Below (AA dp un gd outer) base outer h₀) (F : Fr h₀ L s.heap m) (X : (hd.heap_1 w.params).In h₀) (N : News h₀ L s.heap news) (T : Top hd.view_1 loose mean mg mb h₀) (hf : env.frame = some L) (hke : env.scope.kind = .function) (hdp : dp + 4 < recursionLimit) (hu : un + 40 < cLine)
   (hret : ∀ h' tk', Fr h₀ L h' m → News h₀ L h' news → Q (.bool true) { s with heap := h', toks := tk' }) :
   wpAny (model PG w) ((AA dp un gd outer).deeper env) (call (.ref 375) [.none, .none]) Q E s := by
   refine Kf ?_
   simp (disch := (refine @id _ ?_; k_dflt (
    have zF10 := U 10; have zF2 := U 2; have zF3 := U 3; have zF16 := U 16
    k_extra "M:enter"
    k_steps
    all_goals exact hret _ _ (by assumption) (by assumption)))) only [↓Kn]
theorem c_alike_str {x : String} {t t' : Tok} (hx : x = "value" ∨ x = "name" ∨ x = "loop") (B : Below (AA dp un gd outer) base outer h₀) (F : Fr h₀ L s.heap m) (X : (hd.heap_1 w.params).In h₀) (N : News h₀ L s.heap news) (T : Top hd.view_1 loose mean mg mb h₀) (hf : env.frame = some L) (hke : env.scope.kind = .function) (hdp : dp + 4 < recursionLimit) (hu : un + 40 < cLine)
   (hret : ∀ h' tk', Fr h₀ L h' m → News h₀ L h' news → Q (.bool true) { s with heap := h', toks := tk' }) :
   wpAny (model PG w) ((AA dp un gd outer).deeper env) (call (.ref 375) [.str (Str.ofString x) t, .str (Str.ofString x) t']) Q E s := by
   refine Kf ?_
   simp (disch := (refine @id _ ?_; k_dflt (
    have zF10 := U 10; have zF2 := U 2; have zF3 := U 3; have zF16 := U 16
    rcases hx with rfl | rfl | rfl
    all_goals k_extra "M:enter"
    all_goals k_steps
    all_goals exact hret _ _ (by assumption) (by assumption)))) only [↓Kn]
end
theorem bytes2 {w : World} {A : Around} {E : Value → Shared → Prop} {s : Shared} {Q : Value → Shared → Prop} {h₀ : Heap} {L l : Addr} {m : Str → Option Value} {news : List (Addr × Obj)} {a : Nat} {t1 t2 : Tok} {x : UInt8} (F : Fr h₀ L s.heap m) (N : News h₀ L s.heap ((l, W.listOf #[.int (a : Int) t1, .int 49 t2] 0) :: news)) (hh : A.handled = none) (hx : x.toNat = a)
    (h : ∀ h' t k, Fr h₀ L h' m → News h₀ L h' news → Q (.bytes #[x, 49] t) { s with heap := h', toks := k }) : wpAny (model PG w) A (call (.type "bytes") [.ref l]) Q E s := by
  have ha : a < 256 := hx ▸ x.toNat_lt
  refine bytes_K (vs := [.int (a : Int) t1, .int 49 t2]) (ns := [(a : Int), 49]) F N ⟨_, (N _ (.head _)).1, rfl, _, rfl⟩ (.cons _ _ (.cons _ _ .nil)) (fun n hn => ?_) (by show 2 ≤ sizeLine; decide) hh fun h' t k F' N' _ => ?_
  · rcases List.mem_cons.mp hn with rfl | hn
    · omega
    · rw [List.mem_singleton.mp hn]; decide
  · have e : ([(a : Int), 49].map fun n => n.toNat.toUInt8).toArray = #[x, 49] := by
      subst hx
      simp
    rw [e]
    refine h h' t k F' fun p hp => N' p (.tail _ hp)
theorem val_item {prog : Program} {w : World} {A : Around} {E : Value → Shared → Prop} {s : Shared} {Q : Value → Shared → Prop} {value slice : PySem.Expr} {t u : Tok} {c : Nat} (hc : c < 8) (h : ∀ t' k, Q (.int (((pat c).toNat : Nat) : Int) t') { s with toks := k })
    (hs : subscripted slice false (.bytes #[48, 97, 50, 99, 52, 101, 54, 66] t) (.int (c : Int) u) = operate [.bytes #[48, 97, 50, 99, 52, 101, 54, 66] t, .int (c : Int) u] (getItem (.bytes #[48, 97, 50, 99, 52, 101, 54, 66] t) (.int (c : Int) u)))
    (ht : ∀ r, letTemporaryGo value (.bytes #[48, 97, 50, 99, 52, 101, 54, 66] t) r = pure ()) : wpAny (model prog w) A (subscriptTail value slice (.bytes #[48, 97, 50, 99, 52, 101, 54, 66] t) (.int (c : Int) u)) Q E s := by
  refine KBy.item_N (x := [48, 97, 50, 99, 52, 101, 54, 66]) (by decide) (by omega) (by show (c : Int) < 8; omega) ?_ hs ht
  have e : ([48, 97, 50, 99, 52, 101, 54, 66] : List UInt8).getD ((c : Nat) : Int).toNat 0 = pat c := by
    have : ∀ c : Fin 8, ([48, 97, 50, 99, 52, 101, 54, 66] : List UInt8).getD ((c.val : Nat) : Int).toNat 0 = pat c.val := by decide
    exact this ⟨c, hc⟩
  rw [e]; exact h _ _
section
variable {dp un : Nat} {gd : Option (List Code)} {env : Env} {outer : List Env} {A₀ : Around} {base h₀ g₀ : Heap} {L : Addr} {m : Str → Option Value} {mean : ExcName → Option Value} {mg mb : Str → Option Value} {w : World} {s : Shared} {Q E : Value → Shared → Prop} {news : List (Addr × Obj)}
theorem c_value {c : Nat} {t : Tok} (hc : 1 ≤ c ∧ c ≤ 7) (B : Below (AA dp un gd outer) base outer h₀) (F : Fr h₀ L s.heap m) (X : (hd.heap_1 w.params).In h₀) (N : News h₀ L s.heap news) (T : Top hd.view_1 loose mean mg mb h₀) (hf : env.frame = some L) (hke : env.scope.kind = .function) (hdp : dp + 4 < recursionLimit) (hu : un + 40 < cLine)
   (hret : ∀ t' h' tk', Fr h₀ L h' m → News h₀ L h' news → Q (.bytes (lv c).toArray t') { s with heap := h', toks := tk' }) :
   wpAny (model PG w) ((AA dp un gd outer).deeper env) (call (.ref 321) [.int (c : Int) t]) Q E s := by
   refine Kf ?_
   simp (disch := (refine @id _ ?_; k_dflt (
    have zF10 := U 10; have zF2 := U 2; have zF3 := U 3; have zF16 := U 16; have zF38 := U 38
    have hc8 : c < 8 := by omega
    k_extra "M:enter"
    k_steps
    refine' bytes2 (x := pat c) (by k_asm) (by assumption) rfl rfl ?_
    intro h' t' k' F' N'
    by_cases h4 : c = 4
    · subst h4
      k_steps
      all_goals exact hret _ _ _ (by assumption) (by assumption)
    · have hl : lv c = (List.replicate 20 [pat c, 49]).flatten := by unfold lv; rw [if_neg h4]
      have hV : ((c : Int) == 4) = false := by rw [beq_eq_false_iff_ne]; omega
      rw [hl] at hret
      k_steps
      all_goals exact hret _ _ _ (by assumption) (by assumption)))) only [↓Kn]
end
section
open Builtin
variable {prog : Program} {w : World} {A : Around} {E : Value → Shared → Prop} {s : Shared} {b c d : List UInt8} {t u : Tok}
theorem slot_bytes_strip : Slot "bytes" "strip" "bytes.strip" :=
  .of (owner := "bytes") (n := "strip") (by rw [typeLookup_type, builtinLookup_eq_fast]; kernel_rfl) (by decide +kernel) (by decide +kernel) (by decide +kernel)
    (by first | exact .inl (by decide +kernel) | exact .inr (by decide +kernel)) (by rw [isSubtype_type]; kernel_rfl)
theorem type_bytes_strip : typeOf (.builtin "bytes.strip") = pure (.type "method_descriptor") := by show builtinType _ = _; rw [builtinType_eq_fast]; kernel_rfl
theorem entry_bytes_strip : entryFor table "bytes.strip" = some Builtin.«bytes.strip» := entryFor_of_tree (by kernel_rfl)
theorem args_bytes_strip_2 (a b : Value) : argsOk "bytes.strip" ⟨[a, b], []⟩ := by
  unfold argsOk; rw [signature?_of (id := "bytes.strip") (n := ['p', 'i', 'r', 't', 's']) (o := ['s', 'e', 't', 'y', 'b']) (by kernel_rfl) FB.owner_bytes]; kernel_rfl
theorem slot_bytes_rstrip : Slot "bytes" "rstrip" "bytes.rstrip" :=
  .of (owner := "bytes") (n := "rstrip") (by rw [typeLookup_type, builtinLookup_eq_fast]; kernel_rfl) (by decide +kernel) (by decide +kernel) (by decide +kernel)
    (by first | exact .inl (by decide +kernel) | exact .inr (by decide +kernel)) (by rw [isSubtype_type]; kernel_rfl)
theorem type_bytes_rstrip : typeOf (.builtin "bytes.rstrip") = pure (.type "method_descriptor") := by show builtinType _ = _; rw [builtinType_eq_fast]; kernel_rfl
theorem entry_bytes_rstrip : entryFor table "bytes.rstrip" = some Builtin.«bytes.rstrip» := entryFor_of_tree (by kernel_rfl)
theorem args_bytes_rstrip_2 (a b : Value) : argsOk "bytes.rstrip" ⟨[a, b], []⟩ := by
  unfold argsOk; rw [signature?_of (id := "bytes.rstrip") (n := ['p', 'i', 'r', 't', 's', 'r']) (o := ['s', 'e', 't', 'y', 'b']) (by kernel_rfl) FB.owner_bytes]; kernel_rfl
theorem strip_b {Q : Value → Shared → Prop} (hc : ((b.dropWhile (fun x => c.toArray.contains x)).reverse.dropWhile (fun x => c.toArray.contains x)).reverse = d) (hne : d.length ≠ b.length) (hz : d.length ≤ 1000)
    (h : ∀ t' k, Q (.bytes d.toArray t') { s with toks := k }) : wpAny (model prog w) A (call (.builtin "bytes.strip") [.bytes b.toArray t, .bytes c.toArray u]) Q E s := by
  refine wpAny_call_entry slot_bytes_strip (typeIs_bytes s b.toArray t) entry_bytes_strip ?_ (args_bytes_strip_2 _ _)
  unfold Builtin.«bytes.strip» Bytes.stripM
  refine wpAny_bind (wpAny_of_eq (a := (Value.bytes b.toArray t, [Value.bytes c.toArray u])) rfl ?_)
  dsimp only
  refine wpAny_bind (wpAny_bind ?_)
  refine wpAny_of_eq KBy.buffer_eq ?_
  refine wpAny_pure (wpAny_bind (wpAny_pure ?_))
  refine wpAny_bind (wpAny_of_eq (a := b.toArray) rfl ?_)
  simp only [if_true]
  have e0 : (List.dropWhile c.toArray.contains (List.dropWhile c.toArray.contains b).reverse).reverse = d := hc
  have e1 : (d.length == b.toArray.size) = false := by rw [beq_eq_false_iff_ne]; simpa using hne
  simp only [e0, e1, Bool.false_eq_true, if_false]
  refine wpAny_bind (wpAny_mkBytes ?_ (by simp; exact Nat.le_trans hz (by decide)))
  exact wpAny_pure ⟨_, rfl, h _ _⟩
theorem rstrip_b {Q : Value → Shared → Prop} (hc : (b.reverse.dropWhile (fun x => c.toArray.contains x)).reverse = b)
    (h : Q (.bytes b.toArray t) s) : wpAny (model prog w) A (call (.builtin "bytes.rstrip") [.bytes b.toArray t, .bytes c.toArray u]) Q E s := by
  refine wpAny_call_entry slot_bytes_rstrip (typeIs_bytes s b.toArray t) entry_bytes_rstrip ?_ (args_bytes_rstrip_2 _ _)
  unfold Builtin.«bytes.rstrip» Bytes.stripM
  refine wpAny_bind (wpAny_of_eq (a := (Value.bytes b.toArray t, [Value.bytes c.toArray u])) rfl ?_)
  dsimp only
  refine wpAny_bind (wpAny_bind ?_)
  refine wpAny_of_eq KBy.buffer_eq ?_
  refine wpAny_pure (wpAny_bind (wpAny_pure ?_))
  refine wpAny_bind (wpAny_of_eq (a := b.toArray) rfl ?_)
  simp only [if_true, Bool.false_eq_true, if_false]
  have e0 : (List.dropWhile c.toArray.contains b.reverse).reverse = b := hc
  have e1 : (b.length == b.toArray.size) = true := by simp
  simp only [e0, e1, if_true]
  refine wpAny_bind (wpAny_rule ?_)
  refine wpAny_bind (wpAny_of_eq (a := Value.bytes b.toArray t) rfl ?_)
  exact wpAny_pure ⟨_, rfl, h⟩
end
theorem fol_endX {H : Nat → Cell} : ∀ {d i : Nat} {ks : List Nat} {c : Cell}, fol H d i = some (ks, c) → (c = none ∨ ∃ v, c = some (.inr v)) := by
  intro d
  induction d with
  | zero => intro i ks c h
            cases e : H i with
            | none => rw [fol_none e] at h; cases h; exact .inl rfl
            | some x => rw [fol_zero e] at h; cases h
  | succ d ih =>
    intro i ks c h
    cases e : H i with
    | none => rw [fol_none e] at h; cases h; exact .inl rfl
    | some x => cases x with
      | inr v => rw [fol_val e] at h; cases h; exact .inr ⟨v, rfl⟩
      | inl j =>
        rw [fol_sym e] at h
        obtain ⟨q, hq, e2⟩ := Option.map_eq_some_iff.mp h
        cases e2
        exact ih hq
section
variable {dp un : Nat} {gd : Option (List Code)} {env : Env} {outer : List Env} {A₀ : Around} {base h₀ g₀ : Heap} {L : Addr} {m : Str → Option Value} {mean : ExcName → Option Value} {mg mb : Str → Option Value} {w : World} {s : Shared} {Q E : Value → Shared → Prop} {news : List (Addr × Obj)}
variable {R Dd Ad P : Addr} {o : Obj} {kvs : List (List UInt8 × Value)} {H : Nat → Cell} {i1 i2 : Int} {t1 t2 : Tok}
theorem c_item {i : Nat} {t : Tok} (B : Below (AA dp un gd outer) base outer h₀) (F : Fr h₀ L s.heap m) (X : (hd.heap_1 w.params).In h₀) (N : News h₀ L s.heap news) (T : Top hd.view_1 loose mean mg mb h₀) (hf : env.frame = some L) (hke : env.scope.kind = .function) (XB : (hd.heap_1 w.params).In base) (TB : Top hd.view_1 loose mean mg mb base) (D : KtsDicts (outer.filterMap (·.frame)) h₀) (T0 : KtsTurn (outer.filterMap (·.frame)) g₀ h₀)
   (hdp : dp + 20 < recursionLimit) (hu : un + 200 < cLine) (hR : (R, instObj 304 Dd) ∈ news) (hD : (Dd, dictOf [⟨i1, .str (Str.ofString "_refs") t1, .ref Ad⟩, ⟨i2, .str (Str.ofString "_peeled") t2, .ref P⟩] 2) ∈ news) (hA : (Ad, o) ∈ news) (hO : o.IsDictOf (bytesKind PG w) kvs) (hAs : (Ad == sysModules) = false) (RK : RefsKV kvs H) (hi : i < 7)
   (hT : ∀ ks c, fol H 5 i = some (ks, some (.inr c)) → ∀ t h' tk', Fr h₀ L h' m → News h₀ L h' news → Q (.bytes (lv c).toArray t) { s with heap := h', toks := tk' })
   (hK : ∀ ks, fol H 5 i = some (ks, none) → ∀ e h' tk' G, Fr h₀ L G m → RaisedSN base G (env :: outer) e (.type "KeyError") news h' → G.UpToSlots h' → E (.ref e) { s with heap := h', toks := tk' })
   (hL : fol H 5 i = none → ∀ e h' tk' G, Fr h₀ L G m → RaisedSN base G (env :: outer) e (.ref 107) news h' → G.UpToSlots h' → E (.ref e) { s with heap := h', toks := tk' }) :
   wpAny (model PG w) ((AA dp un gd outer).deeper env) (call (.ref 203) [.ref R, .bytes (nm i).toArray t]) Q E s := by
   refine Kf ?_
   simp (disch := (refine @id _ ?_; k_dflt (
    have zF10 := U 10; have zF2 := U 2; have zF3 := U 3; have zF16 := U 16; have zF23 := U 23; have zF31 := U 31; have zF39 := U 39
    k_extra "M:enterS"
    k_steps
    unfold MStop
    refine' c_follow ?zq_zB ?zq_zF ?zq_zX ?zq_zN ?zq_zT ?zq_zk ?zq_zd ?zq_zu hR hD hA hO hAs RK hi ?zq_zl ?zq_zr
    case zq_zB => k_asm
    case zq_zF => k_asm
    case zq_zX => k_asm
    case zq_zN => k_asm
    case zq_zT => k_asm
    case zq_zk => exact rfl
    case zq_zd => k_room
    case zq_zu => k_units
    case zq_zl =>
      intro hfo e' h' tk' G' FG RS RN UG
      replace hL := hL hfo
      k_steps
      all_goals (rename RaisedSN base _ (env :: outer) _ _ _ _ => rS; exact hL _ _ _ _ (by assumption) rS (by assumption))
    case zq_zr =>
      intro ks c x l ev vs n h' tk' hfo hev hnv F' N'
      rcases fol_endX hfo with rfl | ⟨v, rfl⟩
      · have hev : ev = .none := hev
        subst hev
        replace hK := hK ks hfo
        k_steps
        all_goals (rename RaisedSN base _ (env :: outer) _ _ _ _ => rS; exact hK _ _ _ _ (by assumption) (raisedSN_sub rS (fun p hp => .tail _ (.tail _ hp))) (by assumption))
      · obtain ⟨tv, rfl⟩ := hev
        k_steps
        all_goals exact hT ks v hfo _ _ _ (by k_asm) (cb_drop (by k_asm) (fun p hp => .tail _ (.tail _ hp)))))) only [↓Kn]
end
theorem strip_name {prog : Program} {w : World} {A : Around} {E : Value → Shared → Prop} {s : Shared} {j : Nat} {t u : Tok} {Q : Value → Shared → Prop} (hj : j < 7) (h : Q (.bytes (nm j).toArray t) s) : wpAny (model prog w) A (call (.builtin "bytes.rstrip") [.bytes (nm j).toArray t, .bytes #[13, 10] u]) Q E s := by
  have e1 : ∀ i : Fin 7, ((nm i).reverse.dropWhile (fun x => ([13, 10] : List UInt8).toArray.contains x)).reverse = nm i := by decide +kernel
  exact rstrip_b (c := [13, 10]) (e1 ⟨j, hj⟩) h
section
variable {dp un : Nat} {gd : Option (List Code)} {env : Env} {outer : List Env} {A₀ : Around} {base h₀ g₀ : Heap} {L : Addr} {m : Str → Option Value} {mean : ExcName → Option Value} {mg mb : Str → Option Value} {w : World} {s : Shared} {Q E : Value → Shared → Prop} {news : List (Addr × Obj)}
theorem c_parse_ok {j : Nat} {t : Tok} (B : Below (AA dp un gd outer) base outer h₀) (F : Fr h₀ L s.heap m) (X : (hd.heap_1 w.params).In h₀) (N : News h₀ L s.heap news) (T : Top hd.view_1 loose mean mg mb h₀) (hf : env.frame = some L) (hke : env.scope.kind = .function)
   (hdp : dp + 4 < recursionLimit) (hu : un + 40 < cLine) (hj : j < 7)
   (hret : ∀ t' h' tk', Fr h₀ L h' m → News h₀ L h' news → Q (.bytes (nm j).toArray t') { s with heap := h', toks := tk' }) :
   wpAny (model PG w) ((AA dp un gd outer).deeper env) (call (.ref 117) [.bytes (oct (.inl j)).toArray t]) Q E s := by
   refine Kf ?_
   simp (disch := (refine @id _ ?_; k_dflt (
    have zF10 := U 10; have zF2 := U 2; have zF3 := U 3; have zF5 := U 5; have zF8 := U 8; have zF40 := U 40
    k_extra "M:enter"
    k_steps
    all_goals exact hret _ _ _ (by k_asm) (by k_extra "M:news")))) only [↓Kn]
theorem c_parse_bad {c : Nat} {t : Tok} (B : Below (AA dp un gd outer) base outer h₀) (F : Fr h₀ L s.heap m) (X : (hd.heap_1 w.params).In h₀) (N : News h₀ L s.heap news) (T : Top hd.view_1 loose mean mg mb h₀) (hf : env.frame = some L) (hke : env.scope.kind = .function) (XB : (hd.heap_1 w.params).In base) (TB : Top hd.view_1 loose mean mg mb base) (D : KtsDicts (outer.filterMap (·.frame)) h₀) (T0 : KtsTurn (outer.filterMap (·.frame)) g₀ h₀)
   (hdp : dp + 4 < recursionLimit) (hu : un + 40 < cLine) (hc : 1 ≤ c ∧ c ≤ 7)
   (hno : ∀ e h' tk' G, Fr h₀ L G m → RaisedSN base G (env :: outer) e (.type "ValueError") news h' → G.UpToSlots h' → E (.ref e) { s with heap := h', toks := tk' }) :
   wpAny (model PG w) ((AA dp un gd outer).deeper env) (call (.ref 117) [.bytes (oct (.inr c)).toArray t]) Q E s := by
   refine Kf ?_
   simp (disch := (refine @id _ ?_; k_dflt (
    have zF10 := U 10; have zF2 := U 2; have zF3 := U 3; have zF5 := U 5; have zF8 := U 8; have zF40 := U 40
    k_extra "M:enterS"
    k_steps
    all_goals (rename RaisedS _ _ _ _ _ _ _ _ _ => rS; exact hno _ _ _ _ (by assumption) (raisedSN_sub rS.toSN (by intro p hp; first | exact hp | exact .tail _ hp)) (by assumption))))) only [↓Kn]
end
section
variable {dp un : Nat} {gd : Option (List Code)} {env : Env} {outer : List Env} {A₀ : Around} {base h₀ g₀ : Heap} {L : Addr} {m : Str → Option Value} {mean : ExcName → Option Value} {mg mb : Str → Option Value} {w : World} {s : Shared} {Q E : Value → Shared → Prop} {news : List (Addr × Obj)}
variable {R Dd Ad P : Addr} {o : Obj} {kvs : List (List UInt8 × Value)} {H : Nat → Cell} {i1 i2 : Int} {t1 t2 : Tok}
variable {rest : List (Addr × Obj)}
theorem told_set {i : Nat} {x : Sum Nat Nat} {t' : Tok} {ov : Value} {t td : Tok}
   (B : Below (AA dp un gd outer) base outer h₀) (F : Fr h₀ L s.heap m) (X : (hd.heap_1 w.params).In h₀) (N : News h₀ L s.heap ((Ad, o) :: rest)) (T : Top hd.view_1 loose mean mg mb h₀) (hf : env.frame = some L) (hke : env.scope.kind = .function) (XB : (hd.heap_1 w.params).In base) (TB : Top hd.view_1 loose mean mg mb base) (D : KtsDicts (outer.filterMap (·.frame)) h₀) (T0 : KtsTurn (outer.filterMap (·.frame)) g₀ h₀)
   (hdp : dp + 30 < recursionLimit) (hu : un + 300 < cLine)
   (hR : (R, instObj 304 Dd) ∈ rest) (hD : (Dd, dictOf [⟨i1, .str (Str.ofString "_refs") t1, .ref Ad⟩, ⟨i2, .str (Str.ofString "_peeled") t2, .ref P⟩] 2) ∈ rest) (hO : o.IsDictOf (bytesKind PG w) kvs) (hAs : (Ad == sysModules) = false) (RK : RefsKV kvs H) (hrest : ∀ p ∈ rest, p.1 ≠ Ad)
   (hi : i < 7) (hx : CellOk (some x))
   (hT : ∀ o' kvs' h' tk', o'.IsDictOf (bytesKind PG w) kvs' → RefsKV kvs' (setH H i (some x)) → Fr h₀ L h' m → News h₀ L h' ((Ad, o') :: rest) → Q (.none) { s with heap := h', toks := tk' }) :
   wpAny (model PG w) ((AA dp un gd outer).deeper env) (call (.ref 368) [.ref R, .str (Str.ofString "set") td, .bytes (nm i).toArray t, ov, .bytes (oct x).toArray t']) Q E s := by
   refine Kf ?_
   simp (disch := (refine @id _ ?_; k_dflt (
    have zF10 := U 10; have zF2 := U 2; have zF3 := U 3; have zF16 := U 16; have zF34 := U 34
    have hR' : (R, instObj 304 Dd) ∈ (Ad, o) :: rest := .tail _ hR
    have hD' : (Dd, dictOf [⟨i1, .str (Str.ofString "_refs") t1, .ref Ad⟩, ⟨i2, .str (Str.ofString "_peeled") t2, .ref P⟩] 2) ∈ (Ad, o) :: rest := .tail _ hD
    k_extra "M:enter"
    k_steps
    all_goals exact hT _ _ _ _ (by assumption) (by assumption) (by assumption) (by assumption)))) only [↓Kn]
theorem told_swap {i : Nat} {x : Sum Nat Nat} {t' : Tok} {ob : List UInt8} {tb : Tok} {t td : Tok}
   (B : Below (AA dp un gd outer) base outer h₀) (F : Fr h₀ L s.heap m) (X : (hd.heap_1 w.params).In h₀) (N : News h₀ L s.heap ((Ad, o) :: rest)) (T : Top hd.view_1 loose mean mg mb h₀) (hf : env.frame = some L) (hke : env.scope.kind = .function) (XB : (hd.heap_1 w.params).In base) (TB : Top hd.view_1 loose mean mg mb base) (D : KtsDicts (outer.filterMap (·.frame)) h₀) (T0 : KtsTurn (outer.filterMap (·.frame)) g₀ h₀)
   (hdp : dp + 30 < recursionLimit) (hu : un + 300 < cLine)
   (hR : (R, instObj 304 Dd) ∈ rest) (hD : (Dd, dictOf [⟨i1, .str (Str.ofString "_refs") t1, .ref Ad⟩, ⟨i2, .str (Str.ofString "_peeled") t2, .ref P⟩] 2) ∈ rest) (hO : o.IsDictOf (bytesKind PG w) kvs) (hAs : (Ad == sysModules) = false) (RK : RefsKV kvs H) (hrest : ∀ p ∈ rest, p.1 ≠ Ad)
   (hi : i < 7) (hx : CellOk (some x))
   (hT : curB (H i) = ob → ∀ o' kvs' h' tk', o'.IsDictOf (bytesKind PG w) kvs' → RefsKV kvs' (setH H i (some x)) → Fr h₀ L h' m → News h₀ L h' ((Ad, o') :: rest) → Q (.bool true) { s with heap := h', toks := tk' })
   (hF : curB (H i) ≠ ob → ∀ h' tk', Fr h₀ L h' m → News h₀ L h' ((Ad, o) :: rest) → Q (.bool false) { s with heap := h', toks := tk' }) :
   wpAny (model PG w) ((AA dp un gd outer).deeper env) (call (.ref 368) [.ref R, .str (Str.ofString "swap") td, .bytes (nm i).toArray t, .bytes ob.toArray tb, .bytes (oct x).toArray t']) Q E s := by
   refine Kf ?_
   simp (disch := (refine @id _ ?_; k_dflt (
    have zF10 := U 10; have zF2 := U 2; have zF3 := U 3; have zF16 := U 16; have zF34 := U 34
    have hR' : (R, instObj 304 Dd) ∈ (Ad, o) :: rest := .tail _ hR
    have hD' : (Dd, dictOf [⟨i1, .str (Str.ofString "_refs") t1, .ref Ad⟩, ⟨i2, .str (Str.ofString "_peeled") t2, .ref P⟩] 2) ∈ (Ad, o) :: rest := .tail _ hD
    k_extra "M:enter"
    k_steps
    all_goals first | exact hT (by assumption) _ _ _ _ (by assumption) (by assumption) (by assumption) (by assumption) | exact hF (by assumption) _ _ (by assumption) (by assumption)))) only [↓Kn]
theorem told_swap0 {i : Nat} {x : Sum Nat Nat} {t' : Tok} {t td : Tok}
   (B : Below (AA dp un gd outer) base outer h₀) (F : Fr h₀ L s.heap m) (X : (hd.heap_1 w.params).In h₀) (N : News h₀ L s.heap ((Ad, o) :: rest)) (T : Top hd.view_1 loose mean mg mb h₀) (hf : env.frame = some L) (hke : env.scope.kind = .function) (XB : (hd.heap_1 w.params).In base) (TB : Top hd.view_1 loose mean mg mb base) (D : KtsDicts (outer.filterMap (·.frame)) h₀) (T0 : KtsTurn (outer.filterMap (·.frame)) g₀ h₀)
   (hdp : dp + 30 < recursionLimit) (hu : un + 300 < cLine)
   (hR : (R, instObj 304 Dd) ∈ rest) (hD : (Dd, dictOf [⟨i1, .str (Str.ofString "_refs") t1, .ref Ad⟩, ⟨i2, .str (Str.ofString "_peeled") t2, .ref P⟩] 2) ∈ rest) (hO : o.IsDictOf (bytesKind PG w) kvs) (hAs : (Ad == sysModules) = false) (RK : RefsKV kvs H) (hrest : ∀ p ∈ rest, p.1 ≠ Ad)
   (hi : i < 7) (hx : CellOk (some x))
   (hT : ∀ o' kvs' h' tk', o'.IsDictOf (bytesKind PG w) kvs' → RefsKV kvs' (setH H i (some x)) → Fr h₀ L h' m → News h₀ L h' ((Ad, o') :: rest) → Q (.bool true) { s with heap := h', toks := tk' }) :
   wpAny (model PG w) ((AA dp un gd outer).deeper env) (call (.ref 368) [.ref R, .str (Str.ofString "swap") td, .bytes (nm i).toArray t, .none, .bytes (oct x).toArray t']) Q E s := by
   refine Kf ?_
   simp (disch := (refine @id _ ?_; k_dflt (
    have zF10 := U 10; have zF2 := U 2; have zF3 := U 3; have zF16 := U 16; have zF34 := U 34
    have hR' : (R, instObj 304 Dd) ∈ (Ad, o) :: rest := .tail _ hR
    have hD' : (Dd, dictOf [⟨i1, .str (Str.ofString "_refs") t1, .ref Ad⟩, ⟨i2, .str (Str.ofString "_peeled") t2, .ref P⟩] 2) ∈ (Ad, o) :: rest := .tail _ hD
    k_extra "M:enter"
    k_steps
    all_goals exact hT _ _ _ _ (by assumption) (by assumption) (by assumption) (by assumption)))) only [↓Kn]
theorem told_add {i : Nat} {x : Sum Nat Nat} {t' : Tok} {ov : Value} {t td : Tok}
   (B : Below (AA dp un gd outer) base outer h₀) (F : Fr h₀ L s.heap m) (X : (hd.heap_1 w.params).In h₀) (N : News h₀ L s.heap ((Ad, o) :: rest)) (T : Top hd.view_1 loose mean mg mb h₀) (hf : env.frame = some L) (hke : env.scope.kind = .function) (XB : (hd.heap_1 w.params).In base) (TB : Top hd.view_1 loose mean mg mb base) (D : KtsDicts (outer.filterMap (·.frame)) h₀) (T0 : KtsTurn (outer.filterMap (·.frame)) g₀ h₀)
   (hdp : dp + 30 < recursionLimit) (hu : un + 300 < cLine)
   (hR : (R, instObj 304 Dd) ∈ rest) (hD : (Dd, dictOf [⟨i1, .str (Str.ofString "_refs") t1, .ref Ad⟩, ⟨i2, .str (Str.ofString "_peeled") t2, .ref P⟩] 2) ∈ rest) (hO : o.IsDictOf (bytesKind PG w) kvs) (hAs : (Ad == sysModules) = false) (RK : RefsKV kvs H) (hrest : ∀ p ∈ rest, p.1 ≠ Ad)
   (hi : i < 7) (hx : CellOk (some x))
   (hT : H i = none → ∀ o' kvs' h' tk', o'.IsDictOf (bytesKind PG w) kvs' → RefsKV kvs' (setH H i (some x)) → Fr h₀ L h' m → News h₀ L h' ((Ad, o') :: rest) → Q (.bool true) { s with heap := h', toks := tk' })
   (hF : H i ≠ none → ∀ h' tk', Fr h₀ L h' m → News h₀ L h' ((Ad, o) :: rest) → Q (.bool false) { s with heap := h', toks := tk' }) :
   wpAny (model PG w) ((AA dp un gd outer).deeper env) (call (.ref 368) [.ref R, .str (Str.ofString "add") td, .bytes (nm i).toArray t, ov, .bytes (oct x).toArray t']) Q E s := by
   refine Kf ?_
   simp (disch := (refine @id _ ?_; k_dflt (
    have zF10 := U 10; have zF2 := U 2; have zF3 := U 3; have zF16 := U 16; have zF34 := U 34
    have hR' : (R, instObj 304 Dd) ∈ (Ad, o) :: rest := .tail _ hR
    have hD' : (Dd, dictOf [⟨i1, .str (Str.ofString "_refs") t1, .ref Ad⟩, ⟨i2, .str (Str.ofString "_peeled") t2, .ref P⟩] 2) ∈ (Ad, o) :: rest := .tail _ hD
    k_extra "M:enter"
    k_steps
    all_goals first | exact hT (by assumption) _ _ _ _ (by assumption) (by assumption) (by assumption) (by assumption) | exact hF (by assumption) _ _ (by assumption) (by assumption)))) only [↓Kn]
end
section
variable {dp un : Nat} {gd : Option (List Code)} {env : Env} {outer : List Env} {A₀ : Around} {base h₀ g₀ : Heap} {L : Addr} {m : Str → Option Value} {mean : ExcName → Option Value} {mg mb : Str → Option Value} {w : World} {s : Shared} {Q E : Value → Shared → Prop} {news : List (Addr × Obj)}
variable {R Dd Ad P : Addr} {o : Obj} {kvs : List (List UInt8 × Value)} {H : Nat → Cell} {i1 i2 : Int} {t1 t2 : Tok}
variable {rest : List (Addr × Obj)}
theorem told_drop_there {i : Nat} {nv : Value} {t td : Tok}
   (B : Below (AA dp un gd outer) base outer h₀) (F : Fr h₀ L s.heap m) (X : (hd.heap_1 w.params).In h₀) (N : News h₀ L s.heap ((Ad, o) :: rest)) (T : Top hd.view_1 loose mean mg mb h₀) (hf : env.frame = some L) (hke : env.scope.kind = .function) (XB : (hd.heap_1 w.params).In base) (TB : Top hd.view_1 loose mean mg mb base) (D : KtsDicts (outer.filterMap (·.frame)) h₀) (T0 : KtsTurn (outer.filterMap (·.frame)) g₀ h₀)
   (hdp : dp + 30 < recursionLimit) (hu : un + 300 < cLine)
   (hR : (R, instObj 304 Dd) ∈ rest) (hD : (Dd, dictOf [⟨i1, .str (Str.ofString "_refs") t1, .ref Ad⟩, ⟨i2, .str (Str.ofString "_peeled") t2, .ref P⟩] 2) ∈ rest) (hO : o.IsDictOf (bytesKind PG w) kvs) (hAs : (Ad == sysModules) = false) (RK : RefsKV kvs H) (hrest : ∀ p ∈ rest, p.1 ≠ Ad)
   (hi : i < 7) (hH : H i ≠ none)
   (hT : ∀ o' kvs' h' tk', o'.IsDictOf (bytesKind PG w) kvs' → RefsKV kvs' (setH H i (none)) → Fr h₀ L h' m → News h₀ L h' ((Ad, o') :: rest) → Q (.bool true) { s with heap := h', toks := tk' }) :
   wpAny (model PG w) ((AA dp un gd outer).deeper env) (call (.ref 368) [.ref R, .str (Str.ofString "drop") td, .bytes (nm i).toArray t, .none, nv]) Q E s := by
   refine Kf ?_
   simp (disch := (refine @id _ ?_; k_dflt (
    have zF10 := U 10; have zF2 := U 2; have zF3 := U 3; have zF16 := U 16; have zF34 := U 34
    have hR' : (R, instObj 304 Dd) ∈ (Ad, o) :: rest := .tail _ hR
    have hD' : (Dd, dictOf [⟨i1, .str (Str.ofString "_refs") t1, .ref Ad⟩, ⟨i2, .str (Str.ofString "_peeled") t2, .ref P⟩] 2) ∈ (Ad, o) :: rest := .tail _ hD
    k_extra "M:enter"
    k_steps
    all_goals exact hT _ _ _ _ (by assumption) (by assumption) (by assumption) (by assumption)))) only [↓Kn]
theorem told_drop_there_b {i : Nat} {nv : Value} {ob : List UInt8} {tb : Tok} {t td : Tok}
   (B : Below (AA dp un gd outer) base outer h₀) (F : Fr h₀ L s.heap m) (X : (hd.heap_1 w.params).In h₀) (N : News h₀ L s.heap ((Ad, o) :: rest)) (T : Top hd.view_1 loose mean mg mb h₀) (hf : env.frame = some L) (hke : env.scope.kind = .function) (XB : (hd.heap_1 w.params).In base) (TB : Top hd.view_1 loose mean mg mb base) (D : KtsDicts (outer.filterMap (·.frame)) h₀) (T0 : KtsTurn (outer.filterMap (·.frame)) g₀ h₀)
   (hdp : dp + 30 < recursionLimit) (hu : un + 300 < cLine)
   (hR : (R, instObj 304 Dd) ∈ rest) (hD : (Dd, dictOf [⟨i1, .str (Str.ofString "_refs") t1, .ref Ad⟩, ⟨i2, .str (Str.ofString "_peeled") t2, .ref P⟩] 2) ∈ rest) (hO : o.IsDictOf (bytesKind PG w) kvs) (hAs : (Ad == sysModules) = false) (RK : RefsKV kvs H) (hrest : ∀ p ∈ rest, p.1 ≠ Ad)
   (hi : i < 7) (hH : H i ≠ none)
   (hT : curB (H i) = ob → ∀ o' kvs' h' tk', o'.IsDictOf (bytesKind PG w) kvs' → RefsKV kvs' (setH H i (none)) → Fr h₀ L h' m → News h₀ L h' ((Ad, o') :: rest) → Q (.bool true) { s with heap := h', toks := tk' })
   (hF : curB (H i) ≠ ob → ∀ h' tk', Fr h₀ L h' m → News h₀ L h' ((Ad, o) :: rest) → Q (.bool false) { s with heap := h', toks := tk' }) :
   wpAny (model PG w) ((AA dp un gd outer).deeper env) (call (.ref 368) [.ref R, .str (Str.ofString "drop") td, .bytes (nm i).toArray t, .bytes ob.toArray tb, nv]) Q E s := by
   refine Kf ?_
   simp (disch := (refine @id _ ?_; k_dflt (
    have zF10 := U 10; have zF2 := U 2; have zF3 := U 3; have zF16 := U 16; have zF34 := U 34
    have hR' : (R, instObj 304 Dd) ∈ (Ad, o) :: rest := .tail _ hR
    have hD' : (Dd, dictOf [⟨i1, .str (Str.ofString "_refs") t1, .ref Ad⟩, ⟨i2, .str (Str.ofString "_peeled") t2, .ref P⟩] 2) ∈ (Ad, o) :: rest := .tail _ hD
    k_extra "M:enter"
    k_steps
    all_goals first | exact hT (by assumption) _ _ _ _ (by assumption) (by assumption) (by assumption) (by assumption) | exact hF (by assumption) _ _ (by assumption) (by assumption)))) only [↓Kn]
theorem told_drop_miss {i : Nat} {nv : Value} {t td : Tok}
   (B : Below (AA dp un gd outer) base outer h₀) (F : Fr h₀ L s.heap m) (X : (hd.heap_1 w.params).In h₀) (N : News h₀ L s.heap ((Ad, o) :: rest)) (T : Top hd.view_1 loose mean mg mb h₀) (hf : env.frame = some L) (hke : env.scope.kind = .function) (XB : (hd.heap_1 w.params).In base) (TB : Top hd.view_1 loose mean mg mb base) (D : KtsDicts (outer.filterMap (·.frame)) h₀) (T0 : KtsTurn (outer.filterMap (·.frame)) g₀ h₀)
   (hdp : dp + 30 < recursionLimit) (hu : un + 300 < cLine)
   (hR : (R, instObj 304 Dd) ∈ rest) (hD : (Dd, dictOf [⟨i1, .str (Str.ofString "_refs") t1, .ref Ad⟩, ⟨i2, .str (Str.ofString "_peeled") t2, .ref P⟩] 2) ∈ rest) (hO : o.IsDictOf (bytesKind PG w) kvs) (hAs : (Ad == sysModules) = false) (RK : RefsKV kvs H) (hrest : ∀ p ∈ rest, p.1 ≠ Ad)
   (hi : i < 7) (hH : H i = none)
   (hT : ∀ h₁ h' tk', KtsTurn (outer.filterMap (·.frame)) g₀ h₁ → Fr h₁ L h' m → News h₁ L h' ((Ad, o) :: rest) → Below (AA dp un gd outer) base outer h₁ → (hd.heap_1 w.params).In h₁ → Top hd.view_1 loose mean mg mb h₁ → KtsDicts (outer.filterMap (·.frame)) h₁ → Q (.bool true) { s with heap := h', toks := tk' }) :
   wpAny (model PG w) ((AA dp un gd outer).deeper env) (call (.ref 368) [.ref R, .str (Str.ofString "drop") td, .bytes (nm i).toArray t, .none, nv]) Q E s := by
   refine Kf ?_
   simp (disch := (refine @id _ ?_; k_dflt (
    have zF10 := U 10; have zF2 := U 2; have zF3 := U 3; have zF16 := U 16; have zF34 := U 34
    have hR' : (R, instObj 304 Dd) ∈ (Ad, o) :: rest := .tail _ hR
    have hD' : (Dd, dictOf [⟨i1, .str (Str.ofString "_refs") t1, .ref Ad⟩, ⟨i2, .str (Str.ofString "_peeled") t2, .ref P⟩] 2) ∈ (Ad, o) :: rest := .tail _ hD
    k_extra "M:enterS"
    k_steps
    all_goals exact hT _ _ _ (by assumption) (by assumption) (by assumption) (by assumption) (by assumption) (by assumption) (by assumption)))) only [↓Kn]
theorem told_drop_miss_b {i : Nat} {nv : Value} {ob : List UInt8} {tb : Tok} {t td : Tok}
   (B : Below (AA dp un gd outer) base outer h₀) (F : Fr h₀ L s.heap m) (X : (hd.heap_1 w.params).In h₀) (N : News h₀ L s.heap ((Ad, o) :: rest)) (T : Top hd.view_1 loose mean mg mb h₀) (hf : env.frame = some L) (hke : env.scope.kind = .function) (XB : (hd.heap_1 w.params).In base) (TB : Top hd.view_1 loose mean mg mb base) (D : KtsDicts (outer.filterMap (·.frame)) h₀) (T0 : KtsTurn (outer.filterMap (·.frame)) g₀ h₀)
   (hdp : dp + 30 < recursionLimit) (hu : un + 300 < cLine)
   (hR : (R, instObj 304 Dd) ∈ rest) (hD : (Dd, dictOf [⟨i1, .str (Str.ofString "_refs") t1, .ref Ad⟩, ⟨i2, .str (Str.ofString "_peeled") t2, .ref P⟩] 2) ∈ rest) (hO : o.IsDictOf (bytesKind PG w) kvs) (hAs : (Ad == sysModules) = false) (RK : RefsKV kvs H) (hrest : ∀ p ∈ rest, p.1 ≠ Ad)
   (hi : i < 7) (hH : H i = none)
   (hT : curB (H i) = ob → ∀ h₁ h' tk', KtsTurn (outer.filterMap (·.frame)) g₀ h₁ → Fr h₁ L h' m → News h₁ L h' ((Ad, o) :: rest) → Below (AA dp un gd outer) base outer h₁ → (hd.heap_1 w.params).In h₁ → Top hd.view_1 loose mean mg mb h₁ → KtsDicts (outer.filterMap (·.frame)) h₁ → Q (.bool true) { s with heap := h', toks := tk' })
   (hF : curB (H i) ≠ ob → ∀ h' tk', Fr h₀ L h' m → News h₀ L h' ((Ad, o) :: rest) → Q (.bool false) { s with heap := h', toks := tk' }) :
   wpAny (model PG w) ((AA dp un gd outer).deeper env) (call (.ref 368) [.ref R, .str (Str.ofString "drop") td, .bytes (nm i).toArray t, .bytes ob.toArray tb, nv]) Q E s := by
   refine Kf ?_
   simp (disch := (refine @id _ ?_; k_dflt (
    have zF10 := U 10; have zF2 := U 2; have zF3 := U 3; have zF16 := U 16; have zF34 := U 34
    have hR' : (R, instObj 304 Dd) ∈ (Ad, o) :: rest := .tail _ hR
    have hD' : (Dd, dictOf [⟨i1, .str (Str.ofString "_refs") t1, .ref Ad⟩, ⟨i2, .str (Str.ofString "_peeled") t2, .ref P⟩] 2) ∈ (Ad, o) :: rest := .tail _ hD
    k_extra "M:enterS"
    k_steps
    all_goals first | exact hT (by assumption) _ _ _ (by assumption) (by assumption) (by assumption) (by assumption) (by assumption) (by assumption) (by assumption) | exact hF (by assumption) _ _ (by assumption) (by assumption)))) only [↓Kn]
end
section
variable {dp un : Nat} {gd : Option (List Code)} {env : Env} {outer : List Env} {A₀ : Around} {base h₀ g₀ : Heap} {L : Addr} {m : Str → Option Value} {mean : ExcName → Option Value} {mg mb : Str → Option Value} {w : World} {s : Shared} {Q E : Value → Shared → Prop} {news : List (Addr × Obj)}
theorem c_old {c : Cell} {v : Value} (B : Below (AA dp un gd outer) base outer h₀) (F : Fr h₀ L s.heap m) (X : (hd.heap_1 w.params).In h₀) (N : News h₀ L s.heap news) (T : Top hd.view_1 loose mean mg mb h₀) (hf : env.frame = some L) (hke : env.scope.kind = .function)
   (hdp : dp + 8 < recursionLimit) (hu : un + 80 < cLine) (hv : CellV c v) (hc : CellOk c)
   (hret : ∀ t h' tk', Fr h₀ L h' m → News h₀ L h' news → Q (.bytes (curB c).toArray t) { s with heap := h', toks := tk' }) :
   wpAny (model PG w) ((AA dp un gd outer).deeper env) (call (.ref 335) [v]) Q E s := by
   refine Kf ?_
   simp (disch := (refine @id _ ?_; k_dflt (
    have zF10 := U 10; have zF2 := U 2; have zF3 := U 3; have zF16 := U 16; have zF41 := U 41
    match c, hv, hc with
    | none, hv, hc =>
      rw [show v = .none from hv]
      k_extra "M:enter"
      k_steps
      all_goals exact hret _ _ _ (by assumption) (by assumption)
    | some (.inl j), hv, hc =>
      obtain ⟨t, rfl⟩ := hv
      have hv : CellV (some (.inl j)) (.int (j : Int) t) := ⟨_, rfl⟩
      k_extra "M:enter"
      k_steps
      all_goals (rename OctV _ _ => ho; obtain ⟨t', rfl⟩ := ho; exact hret _ _ _ (by assumption) (by assumption))
    | some (.inr k), hv, hc =>
      obtain ⟨t, rfl⟩ := hv
      have hv : CellV (some (.inr k)) (.bytes (lv k).toArray t) := ⟨_, rfl⟩
      k_extra "M:enter"
      k_steps
      all_goals (rename OctV _ _ => ho; obtain ⟨t', rfl⟩ := ho; exact hret _ _ _ (by assumption) (by assumption))))) only [↓Kn]
end
section
variable {dp un : Nat} {gd : Option (List Code)} {env : Env} {outer : List Env} {A₀ : Around} {base h₀ g₀ : Heap} {L : Addr} {m : Str → Option Value} {mean : ExcName → Option Value} {mg mb : Str → Option Value} {w : World} {s : Shared} {Q E : Value → Shared → Prop} {news : List (Addr × Obj)}
variable {R Dd Ad P : Addr} {o : Obj} {kvs : List (List UInt8 × Value)} {H : Nat → Cell} {i1 i2 : Int} {t1 t2 : Tok}
variable {rest : List (Addr × Obj)}
theorem u_drop {i : Nat} {ob : List UInt8} {tb : Tok} {nv : Value} {t td : Tok}
   (B : Below (AA dp un gd outer) base outer h₀) (F : Fr h₀ L s.heap m) (X : (hd.heap_1 w.params).In h₀) (N : News h₀ L s.heap ((Ad, o) :: rest)) (T : Top hd.view_1 loose mean mg mb h₀) (hf : env.frame = some L) (hke : env.scope.kind = .function) (XB : (hd.heap_1 w.params).In base) (TB : Top hd.view_1 loose mean mg mb base) (D : KtsDicts (outer.filterMap (·.frame)) h₀) (T0 : KtsTurn (outer.filterMap (·.frame)) g₀ h₀)
   (hdp : dp + 30 < recursionLimit) (hu : un + 300 < cLine)
   (hR : (R, instObj 304 Dd) ∈ rest) (hD : (Dd, dictOf [⟨i1, .str (Str.ofString "_refs") t1, .ref Ad⟩, ⟨i2, .str (Str.ofString "_peeled") t2, .ref P⟩] 2) ∈ rest) (hO : o.IsDictOf (bytesKind PG w) kvs) (hAs : (Ad == sysModules) = false) (RK : RefsKV kvs H) (hrest : ∀ p ∈ rest, p.1 ≠ Ad)
   (hi : i < 7) (hH : H i ≠ none) (he : curB (H i) = ob)
   (hT : ∀ o' kvs' h' tk', o'.IsDictOf (bytesKind PG w) kvs' → RefsKV kvs' (setH H i (none)) → Fr h₀ L h' m → News h₀ L h' ((Ad, o') :: rest) → Q (.bool true) { s with heap := h', toks := tk' }) :
   wpAny (model PG w) ((AA dp un gd outer).deeper env) (call (.ref 368) [.ref R, .str (Str.ofString "drop") td, .bytes (nm i).toArray t, .bytes ob.toArray tb, nv]) Q E s :=
  told_drop_there_b B F X N T hf hke XB TB D T0 hdp hu hR hD hO hAs RK hrest hi hH (fun _ => hT) (fun h => absurd he h)
theorem u_refuse {i : Nat} {ob : List UInt8} {tb : Tok} {nv : Value} {t td : Tok}
   (B : Below (AA dp un gd outer) base outer h₀) (F : Fr h₀ L s.heap m) (X : (hd.heap_1 w.params).In h₀) (N : News h₀ L s.heap ((Ad, o) :: rest)) (T : Top hd.view_1 loose mean mg mb h₀) (hf : env.frame = some L) (hke : env.scope.kind = .function) (XB : (hd.heap_1 w.params).In base) (TB : Top hd.view_1 loose mean mg mb base) (D : KtsDicts (outer.filterMap (·.frame)) h₀) (T0 : KtsTurn (outer.filterMap (·.frame)) g₀ h₀)
   (hdp : dp + 30 < recursionLimit) (hu : un + 300 < cLine)
   (hR : (R, instObj 304 Dd) ∈ rest) (hD : (Dd, dictOf [⟨i1, .str (Str.ofString "_refs") t1, .ref Ad⟩, ⟨i2, .str (Str.ofString "_peeled") t2, .ref P⟩] 2) ∈ rest) (hO : o.IsDictOf (bytesKind PG w) kvs) (hAs : (Ad == sysModules) = false) (RK : RefsKV kvs H) (hrest : ∀ p ∈ rest, p.1 ≠ Ad)
   (hi : i < 7) (he : curB (H i) ≠ ob)
   (hF : ∀ h' tk', Fr h₀ L h' m → News h₀ L h' ((Ad, o) :: rest) → Q (.bool false) { s with heap := h', toks := tk' }) :
   wpAny (model PG w) ((AA dp un gd outer).deeper env) (call (.ref 368) [.ref R, .str (Str.ofString "drop") td, .bytes (nm i).toArray t, .bytes ob.toArray tb, nv]) Q E s :=
  by
  by_cases hH : H i = none
  · exact told_drop_miss_b B F X N T hf hke XB TB D T0 hdp hu hR hD hO hAs RK hrest hi hH (fun h => absurd h he) (fun _ => hF)
  · exact told_drop_there_b B F X N T hf hke XB TB D T0 hdp hu hR hD hO hAs RK hrest hi hH (fun h => absurd h he) (fun _ => hF)
theorem u_swap {i : Nat} {x : Sum Nat Nat} {t' : Tok} {ob : List UInt8} {tb : Tok} {t td : Tok}
   (B : Below (AA dp un gd outer) base outer h₀) (F : Fr h₀ L s.heap m) (X : (hd.heap_1 w.params).In h₀) (N : News h₀ L s.heap ((Ad, o) :: rest)) (T : Top hd.view_1 loose mean mg mb h₀) (hf : env.frame = some L) (hke : env.scope.kind = .function) (XB : (hd.heap_1 w.params).In base) (TB : Top hd.view_1 loose mean mg mb base) (D : KtsDicts (outer.filterMap (·.frame)) h₀) (T0 : KtsTurn (outer.filterMap (·.frame)) g₀ h₀)
   (hdp : dp + 30 < recursionLimit) (hu : un + 300 < cLine)
   (hR : (R, instObj 304 Dd) ∈ rest) (hD : (Dd, dictOf [⟨i1, .str (Str.ofString "_refs") t1, .ref Ad⟩, ⟨i2, .str (Str.ofString "_peeled") t2, .ref P⟩] 2) ∈ rest) (hO : o.IsDictOf (bytesKind PG w) kvs) (hAs : (Ad == sysModules) = false) (RK : RefsKV kvs H) (hrest : ∀ p ∈ rest, p.1 ≠ Ad)
   (hi : i < 7) (hx : CellOk (some x)) (he : curB (H i) = ob)
   (hT : ∀ o' kvs' h' tk', o'.IsDictOf (bytesKind PG w) kvs' → RefsKV kvs' (setH H i (some x)) → Fr h₀ L h' m → News h₀ L h' ((Ad, o') :: rest) → Q (.bool true) { s with heap := h', toks := tk' }) :
   wpAny (model PG w) ((AA dp un gd outer).deeper env) (call (.ref 368) [.ref R, .str (Str.ofString "swap") td, .bytes (nm i).toArray t, .bytes ob.toArray tb, .bytes (oct x).toArray t']) Q E s :=
  told_swap B F X N T hf hke XB TB D T0 hdp hu hR hD hO hAs RK hrest hi hx (fun _ => hT) (fun h => absurd he h)
theorem u_add {i : Nat} {x : Sum Nat Nat} {t' : Tok} {ov : Value} {t td : Tok}
   (B : Below (AA dp un gd outer) base outer h₀) (F : Fr h₀ L s.heap m) (X : (hd.heap_1 w.params).In h₀) (N : News h₀ L s.heap ((Ad, o) :: rest)) (T : Top hd.view_1 loose mean mg mb h₀) (hf : env.frame = some L) (hke : env.scope.kind = .function) (XB : (hd.heap_1 w.params).In base) (TB : Top hd.view_1 loose mean mg mb base) (D : KtsDicts (outer.filterMap (·.frame)) h₀) (T0 : KtsTurn (outer.filterMap (·.frame)) g₀ h₀)
   (hdp : dp + 30 < recursionLimit) (hu : un + 300 < cLine)
   (hR : (R, instObj 304 Dd) ∈ rest) (hD : (Dd, dictOf [⟨i1, .str (Str.ofString "_refs") t1, .ref Ad⟩, ⟨i2, .str (Str.ofString "_peeled") t2, .ref P⟩] 2) ∈ rest) (hO : o.IsDictOf (bytesKind PG w) kvs) (hAs : (Ad == sysModules) = false) (RK : RefsKV kvs H) (hrest : ∀ p ∈ rest, p.1 ≠ Ad)
   (hi : i < 7) (hx : CellOk (some x)) (hH : H i = none)
   (hT : ∀ o' kvs' h' tk', o'.IsDictOf (bytesKind PG w) kvs' → RefsKV kvs' (setH H i (some x)) → Fr h₀ L h' m → News h₀ L h' ((Ad, o') :: rest) → Q (.bool true) { s with heap := h', toks := tk' }) :
   wpAny (model PG w) ((AA dp un gd outer).deeper env) (call (.ref 368) [.ref R, .str (Str.ofString "add") td, .bytes (nm i).toArray t, ov, .bytes (oct x).toArray t']) Q E s :=
  told_add B F X N T hf hke XB TB D T0 hdp hu hR hD hO hAs RK hrest hi hx (fun _ => hT) (fun h => absurd hH h)
end
section
variable {dp un : Nat} {gd : Option (List Code)} {env : Env} {outer : List Env} {A₀ : Around} {base h₀ g₀ : Heap} {L : Addr} {m : Str → Option Value} {mean : ExcName → Option Value} {mg mb : Str → Option Value} {w : World} {s : Shared} {Q E : Value → Shared → Prop} {news : List (Addr × Obj)}
theorem c_oct_some {x : Sum Nat Nat} {v : Value} (B : Below (AA dp un gd outer) base outer h₀) (F : Fr h₀ L s.heap m) (X : (hd.heap_1 w.params).In h₀) (N : News h₀ L s.heap news) (T : Top hd.view_1 loose mean mg mb h₀) (hf : env.frame = some L) (hke : env.scope.kind = .function)
   (hdp : dp + 4 < recursionLimit) (hu : un + 40 < cLine) (hv : CellV (some x) v) (hc : CellOk (some x))
   (hret : ∀ t h' tk', Fr h₀ L h' m → News h₀ L h' news → Q (.bytes (oct x).toArray t) { s with heap := h', toks := tk' }) :
   wpAny (model PG w) ((AA dp un gd outer).deeper env) (call (.ref 328) [v]) Q E s :=
  c_octets B F X N T hf hke hdp hu hv hc fun v' h' tk' ho F' N' => by obtain ⟨t, rfl⟩ := ho; exact hret t h' tk' F' N'
theorem c_oct_none (B : Below (AA dp un gd outer) base outer h₀) (F : Fr h₀ L s.heap m) (X : (hd.heap_1 w.params).In h₀) (N : News h₀ L s.heap news) (T : Top hd.view_1 loose mean mg mb h₀) (hf : env.frame = some L) (hke : env.scope.kind = .function)
   (hdp : dp + 4 < recursionLimit) (hu : un + 40 < cLine)
   (hret : ∀ h' tk', Fr h₀ L h' m → News h₀ L h' news → Q .none { s with heap := h', toks := tk' }) :
   wpAny (model PG w) ((AA dp un gd outer).deeper env) (call (.ref 328) [.none]) Q E s :=
  c_octets (c := none) B F X N T hf hke hdp hu rfl trivial fun v' h' tk' ho F' N' => by rw [show v' = .none from ho]; exact hret h' tk' F' N'
end
section
variable {prog : Program} {w : World} {A : Around} {E : Value → Shared → Prop} {s : Shared} {Q : Value → Shared → Prop} {x y : Sum Nat Nat} {v u : Value}
theorem is_some_cell (hv : CellV (some x) v) (h : Q (.bool false) s) : wpAny (model prog w) A (compareOp .Is v .none) Q E s := by
  cases x with
  | inl j => obtain ⟨t, rfl⟩ := hv; exact wpAny_pure h
  | inr j => obtain ⟨t, rfl⟩ := hv; exact wpAny_pure h
theorem ne_none_cell (hv : CellV (some x) v) (h : Q (.bool true) s) : wpAny (model prog w) A (compareOp .NotEq .none v) Q E s := by
  cases x with
  | inl j => obtain ⟨t, rfl⟩ := hv; exact EqNone.ne_none_int h
  | inr j => obtain ⟨t, rfl⟩ := hv; exact ne_none_bytes h
theorem ne_cell_none (hv : CellV (some x) v) (h : Q (.bool true) s) : wpAny (model prog w) A (compareOp .NotEq v .none) Q E s := by
  cases x with
  | inl j => obtain ⟨t, rfl⟩ := hv; exact EqNone.ne_int_none h
  | inr j => obtain ⟨t, rfl⟩ := hv; exact ne_bytes_none h
theorem ne_cells_same (hv : CellV (some x) v) (hu : CellV (some x) u) (h : Q (.bool false) s) : wpAny (model prog w) A (compareOp .NotEq v u) Q E s := by
  cases x with
  | inl j => obtain ⟨t, rfl⟩ := hv; obtain ⟨t', rfl⟩ := hu; exact PyProof.Rows.ne_int (by rw [bne_self_eq_false]; exact h)
  | inr j => obtain ⟨t, rfl⟩ := hv; obtain ⟨t', rfl⟩ := hu; exact ne_bytes (by rw [bne_self_eq_false]; exact h)
end
theorem zro_oct {y : Sum Nat Nat} (h : CellOk (some y)) : curB none ≠ curB (some y) := by
  cases y with
  | inl j =>
    have : ∀ j : Fin 7, ZRO ≠ oct (.inl j) := by decide
    exact this ⟨j, h⟩
  | inr c =>
    have : ∀ c : Fin 8, 1 ≤ c.val → ZRO ≠ lv c := by decide +kernel
    exact this ⟨c, Nat.lt_succ_of_le h.2⟩ h.1
theorem setH_at {H : Nat → Cell} {i : Nat} {c : Cell} : setH H i c i = c := by simp [setH]
section
variable {dp un : Nat} {gd : Option (List Code)} {env : Env} {outer : List Env} {A₀ : Around} {base h₀ g₀ : Heap} {L : Addr} {m : Str → Option Value} {mean : ExcName → Option Value} {mg mb : Str → Option Value} {w : World} {s : Shared} {Q E : Value → Shared → Prop} {news : List (Addr × Obj)}
variable {R Dd Ad P : Addr} {o : Obj} {kvs : List (List UInt8 × Value)} {H : Nat → Cell} {i1 i2 : Int} {t1 t2 : Tok}
variable {rest : List (Addr × Obj)}
theorem undone_drop {i : Nat} {y : Sum Nat Nat} {va : Value} {t : Tok}
   (B : Below (AA dp un gd outer) base outer h₀) (F : Fr h₀ L s.heap m) (X : (hd.heap_1 w.params).In h₀) (N : News h₀ L s.heap ((Ad, o) :: rest)) (T : Top hd.view_1 loose mean mg mb h₀) (hf : env.frame = some L) (hke : env.scope.kind = .function) (XB : (hd.heap_1 w.params).In base) (TB : Top hd.view_1 loose mean mg mb base) (D : KtsDicts (outer.filterMap (·.frame)) h₀) (T0 : KtsTurn (outer.filterMap (·.frame)) g₀ h₀)
   (hdp : dp + 40 < recursionLimit) (hu : un + 400 < cLine)
   (hR : (R, instObj 304 Dd) ∈ rest) (hD : (Dd, dictOf [⟨i1, .str (Str.ofString "_refs") t1, .ref Ad⟩, ⟨i2, .str (Str.ofString "_peeled") t2, .ref P⟩] 2) ∈ rest) (hO : o.IsDictOf (bytesKind PG w) kvs) (hAs : (Ad == sysModules) = false) (RK : RefsKV kvs H) (hrest : ∀ p ∈ rest, p.1 ≠ Ad)
   (hi : i < 7) (hc : CellOk (some y)) (hv : CellV (some y) va) (hHa : H i = some y)
   (hret : ∀ o' kvs' h' tk', o'.IsDictOf (bytesKind PG w) kvs' → RefsKV kvs' (setH H i none) → Fr h₀ L h' m → News h₀ L h' ((Ad, o') :: rest) → Q (.bool true) { s with heap := h', toks := tk' }) :
   wpAny (model PG w) ((AA dp un gd outer).deeper env) (call (.ref 392) [.ref R, .bytes (nm i).toArray t, .none, va]) Q E s := by
   refine Kf ?_
   simp (disch := (refine @id _ ?_; k_dflt (
    have zF10 := U 10; have zF2 := U 2; have zF3 := U 3; have zF16 := U 16; have zF42 := U 42; have zF43 := U 43; have zF44 := U 44; have zF45 := U 45
    have hR' : (R, instObj 304 Dd) ∈ (Ad, o) :: rest := .tail _ hR
    have hD' : (Dd, dictOf [⟨i1, .str (Str.ofString "_refs") t1, .ref Ad⟩, ⟨i2, .str (Str.ofString "_peeled") t2, .ref P⟩] 2) ∈ (Ad, o) :: rest := .tail _ hD
    have e1 : curB (H i) = curB (some y) := by rw [hHa]
    have e2 : H i ≠ none := by rw [hHa]; intro z; cases z
    have e3 : setH H i none i = none := setH_at
    have e4 : curB (setH H i none i) ≠ curB (some y) := by rw [e3]; exact zro_oct hc
    k_extra "M:enterS"
    k_steps
    all_goals exact hret _ _ _ _ (by assumption) (by assumption) (by assumption) (by assumption)))) only [↓Kn]
end
section
variable {dp un : Nat} {gd : Option (List Code)} {env : Env} {outer : List Env} {A₀ : Around} {base h₀ g₀ : Heap} {L : Addr} {m : Str → Option Value} {mean : ExcName → Option Value} {mg mb : Str → Option Value} {w : World} {s : Shared} {Q E : Value → Shared → Prop} {news : List (Addr × Obj)}
variable {R Dd Ad P : Addr} {o : Obj} {kvs : List (List UInt8 × Value)} {H : Nat → Cell} {i1 i2 : Int} {t1 t2 : Tok}
variable {rest : List (Addr × Obj)}
theorem undone_add {i : Nat} {x : Sum Nat Nat} {vb : Value} {t : Tok}
   (B : Below (AA dp un gd outer) base outer h₀) (F : Fr h₀ L s.heap m) (X : (hd.heap_1 w.params).In h₀) (N : News h₀ L s.heap ((Ad, o) :: rest)) (T : Top hd.view_1 loose mean mg mb h₀) (hf : env.frame = some L) (hke : env.scope.kind = .function) (XB : (hd.heap_1 w.params).In base) (TB : Top hd.view_1 loose mean mg mb base) (D : KtsDicts (outer.filterMap (·.frame)) h₀) (T0 : KtsTurn (outer.filterMap (·.frame)) g₀ h₀)
   (hdp : dp + 40 < recursionLimit) (hu : un + 400 < cLine)
   (hR : (R, instObj 304 Dd) ∈ rest) (hD : (Dd, dictOf [⟨i1, .str (Str.ofString "_refs") t1, .ref Ad⟩, ⟨i2, .str (Str.ofString "_peeled") t2, .ref P⟩] 2) ∈ rest) (hO : o.IsDictOf (bytesKind PG w) kvs) (hAs : (Ad == sysModules) = false) (RK : RefsKV kvs H) (hrest : ∀ p ∈ rest, p.1 ≠ Ad)
   (hi : i < 7) (hc : CellOk (some x)) (hv : CellV (some x) vb) (hHa : H i = none)
   (hret : ∀ o' kvs' h' tk', o'.IsDictOf (bytesKind PG w) kvs' → RefsKV kvs' (setH H i (some x)) → Fr h₀ L h' m → News h₀ L h' ((Ad, o') :: rest) → Q (.bool true) { s with heap := h', toks := tk' }) :
   wpAny (model PG w) ((AA dp un gd outer).deeper env) (call (.ref 392) [.ref R, .bytes (nm i).toArray t, vb, .none]) Q E s := by
   refine Kf ?_
   simp (disch := (refine @id _ ?_; k_dflt (
    have zF10 := U 10; have zF2 := U 2; have zF3 := U 3; have zF16 := U 16; have zF42 := U 42; have zF43 := U 43; have zF44 := U 44; have zF45 := U 45; have zF46 := U 46
    have hR' : (R, instObj 304 Dd) ∈ (Ad, o) :: rest := .tail _ hR
    have hD' : (Dd, dictOf [⟨i1, .str (Str.ofString "_refs") t1, .ref Ad⟩, ⟨i2, .str (Str.ofString "_peeled") t2, .ref P⟩] 2) ∈ (Ad, o) :: rest := .tail _ hD
    have e3 : setH H i (some x) i = some x := setH_at
    have hV : ((oct x).toArray.toList != (oct x).toArray.toList) = false := bne_self_eq_false _
    have e4 : curB (setH H i (some x) i) ≠ curB none := by rw [e3]; exact (zro_oct hc).symm
    have hvn : CellV none .none := rfl
    have hcn : CellOk none := trivial
    k_extra "M:enterS"
    k_steps
    all_goals (rw [show ((oct x).toArray.toList == (oct x).toArray.toList) = true from beq_self_eq_true _]; exact hret _ _ _ _ (by assumption) (by assumption) (by assumption) (by assumption))))) only [↓Kn]
end
theorem lv_inj {c d : Nat} (hc : 1 ≤ c ∧ c ≤ 7) (hd : 1 ≤ d ∧ d ≤ 7) (h : lv c = lv d) : c = d := by
  have : ∀ c : Fin 8, ∀ d : Fin 8, 1 ≤ c.val → 1 ≤ d.val → lv c = lv d → c = d := by decide +kernel
  exact congrArg Fin.val (this ⟨c, by omega⟩ ⟨d, by omega⟩ hc.1 hd.1 h)
theorem oct_ne {x y : Sum Nat Nat} (hx : CellOk (some x)) (hy : CellOk (some y)) (h : x ≠ y) : oct x ≠ oct y := by
  cases x with
  | inl j => cases y with
    | inl k =>
      have : ∀ j : Fin 7, ∀ k : Fin 7, oct (.inl j) = oct (.inl k) → j = k := by decide
      exact fun z => h (congrArg Sum.inl (congrArg Fin.val (this ⟨j, hx⟩ ⟨k, hy⟩ z)))
    | inr c =>
      intro z
      have a1 := oct_starts_l (j := j) hx
      have a2 := oct_starts_r (c := c) hy
      rw [z, a2] at a1; cases a1
  | inr c => cases y with
    | inl k =>
      intro z
      have a1 := oct_starts_l (j := k) hy
      have a2 := oct_starts_r (c := c) hx
      rw [← z, a2] at a1; cases a1
    | inr d => exact fun z => h (congrArg Sum.inr (lv_inj hx hy z))
theorem ne_cells {prog : Program} {w : World} {A : Around} {E : Value → Shared → Prop} {s : Shared} {Q : Value → Shared → Prop} {x y : Sum Nat Nat} {v u : Value} (hv : CellV (some x) v) (hu : CellV (some y) u) (hx : CellOk (some x)) (hy : CellOk (some y)) (hne : x ≠ y) (h : Q (.bool true) s) :
    wpAny (model prog w) A (compareOp .NotEq v u) Q E s := by
  match x, y, hv, hu, hx, hy, hne with
  | .inl j, .inl k, ⟨t, hv⟩, ⟨t', hu⟩, _, _, hne => subst hv; subst hu; exact PyProof.Rows.ne_int (by rw [show ((j : Int) != (k : Int)) = true from bne_iff_ne.mpr fun z => hne (congrArg Sum.inl (show j = k by omega))]; exact h)
  | .inl j, .inr d, ⟨t, hv⟩, ⟨t', hu⟩, _, _, _ => subst hv; subst hu; exact ne_int_bytes h
  | .inr c, .inl k, ⟨t, hv⟩, ⟨t', hu⟩, _, _, _ => subst hv; subst hu; exact ne_bytes_int h
  | .inr c, .inr d, ⟨t, hv⟩, ⟨t', hu⟩, hx, hy, hne => subst hv; subst hu; exact ne_bytes (by rw [show ((lv c).toArray.toList != (lv d).toArray.toList) = true from by have : lv c ≠ lv d := fun z => hne (congrArg Sum.inr (lv_inj hx hy z)); simpa using this]; exact h)
section
variable {dp un : Nat} {gd : Option (List Code)} {env : Env} {outer : List Env} {A₀ : Around} {base h₀ g₀ : Heap} {L : Addr} {m : Str → Option Value} {mean : ExcName → Option Value} {mg mb : Str → Option Value} {w : World} {s : Shared} {Q E : Value → Shared → Prop} {news : List (Addr × Obj)}
variable {R Dd Ad P : Addr} {o : Obj} {kvs : List (List UInt8 × Value)} {H : Nat → Cell} {i1 i2 : Int} {t1 t2 : Tok}
variable {rest : List (Addr × Obj)}
theorem undone_same {i : Nat} {x : Sum Nat Nat} {vb va : Value} {t : Tok}
   (B : Below (AA dp un gd outer) base outer h₀) (F : Fr h₀ L s.heap m) (X : (hd.heap_1 w.params).In h₀) (N : News h₀ L s.heap ((Ad, o) :: rest)) (T : Top hd.view_1 loose mean mg mb h₀) (hf : env.frame = some L) (hke : env.scope.kind = .function) (XB : (hd.heap_1 w.params).In base) (TB : Top hd.view_1 loose mean mg mb base) (D : KtsDicts (outer.filterMap (·.frame)) h₀) (T0 : KtsTurn (outer.filterMap (·.frame)) g₀ h₀)
   (hdp : dp + 40 < recursionLimit) (hu : un + 400 < cLine)
   (hR : (R, instObj 304 Dd) ∈ rest) (hD : (Dd, dictOf [⟨i1, .str (Str.ofString "_refs") t1, .ref Ad⟩, ⟨i2, .str (Str.ofString "_peeled") t2, .ref P⟩] 2) ∈ rest) (hO : o.IsDictOf (bytesKind PG w) kvs) (hAs : (Ad == sysModules) = false) (RK : RefsKV kvs H) (hrest : ∀ p ∈ rest, p.1 ≠ Ad)
   (hi : i < 7) (hc : CellOk (some x)) (hv : CellV (some x) vb) (hca : CellOk (some x)) (hva : CellV (some x) va) (hHa : H i = some x)
   (hret : ∀ o' kvs' h' tk', o'.IsDictOf (bytesKind PG w) kvs' → RefsKV kvs' (setH H i (some x)) → Fr h₀ L h' m → News h₀ L h' ((Ad, o') :: rest) → Q (.bool true) { s with heap := h', toks := tk' }) :
   wpAny (model PG w) ((AA dp un gd outer).deeper env) (call (.ref 392) [.ref R, .bytes (nm i).toArray t, vb, va]) Q E s := by
   refine Kf ?_
   simp (disch := (refine @id _ ?_; k_dflt (
    have zF10 := U 10; have zF2 := U 2; have zF3 := U 3; have zF16 := U 16; have zF42 := U 42; have zF43 := U 43; have zF44 := U 44; have zF45 := U 45; have zF47 := U 47
    have hR' : (R, instObj 304 Dd) ∈ (Ad, o) :: rest := .tail _ hR
    have hD' : (Dd, dictOf [⟨i1, .str (Str.ofString "_refs") t1, .ref Ad⟩, ⟨i2, .str (Str.ofString "_peeled") t2, .ref P⟩] 2) ∈ (Ad, o) :: rest := .tail _ hD
    have e3 : setH H i (some x) i = some x := setH_at
    have hV : ((oct x).toArray.toList != (oct x).toArray.toList) = false := bne_self_eq_false _
    have e1 : curB (H i) = curB (some x) := by rw [hHa]
    k_extra "M:enterS"
    k_steps
    all_goals (rw [show ((oct x).toArray.toList == (oct x).toArray.toList) = true from beq_self_eq_true _]; exact hret _ _ _ _ (by assumption) (by assumption) (by assumption) (by assumption))))) only [↓Kn]
theorem undone_swap {i : Nat} {x y : Sum Nat Nat} {vb va : Value} {t : Tok}
   (B : Below (AA dp un gd outer) base outer h₀) (F : Fr h₀ L s.heap m) (X : (hd.heap_1 w.params).In h₀) (N : News h₀ L s.heap ((Ad, o) :: rest)) (T : Top hd.view_1 loose mean mg mb h₀) (hf : env.frame = some L) (hke : env.scope.kind = .function) (XB : (hd.heap_1 w.params).In base) (TB : Top hd.view_1 loose mean mg mb base) (D : KtsDicts (outer.filterMap (·.frame)) h₀) (T0 : KtsTurn (outer.filterMap (·.frame)) g₀ h₀)
   (hdp : dp + 40 < recursionLimit) (hu : un + 400 < cLine)
   (hR : (R, instObj 304 Dd) ∈ rest) (hD : (Dd, dictOf [⟨i1, .str (Str.ofString "_refs") t1, .ref Ad⟩, ⟨i2, .str (Str.ofString "_peeled") t2, .ref P⟩] 2) ∈ rest) (hO : o.IsDictOf (bytesKind PG w) kvs) (hAs : (Ad == sysModules) = false) (RK : RefsKV kvs H) (hrest : ∀ p ∈ rest, p.1 ≠ Ad)
   (hi : i < 7) (hc : CellOk (some x)) (hv : CellV (some x) vb) (hca : CellOk (some y)) (hva : CellV (some y) va) (hHa : H i = some y) (hne : x ≠ y)
   (hret : ∀ o' kvs' h' tk', o'.IsDictOf (bytesKind PG w) kvs' → RefsKV kvs' (setH H i (some x)) → Fr h₀ L h' m → News h₀ L h' ((Ad, o') :: rest) → Q (.bool true) { s with heap := h', toks := tk' }) :
   wpAny (model PG w) ((AA dp un gd outer).deeper env) (call (.ref 392) [.ref R, .bytes (nm i).toArray t, vb, va]) Q E s := by
   refine Kf ?_
   simp (disch := (refine @id _ ?_; k_dflt (
    have zF10 := U 10; have zF2 := U 2; have zF3 := U 3; have zF16 := U 16; have zF42 := U 42; have zF43 := U 43; have zF44 := U 44; have zF45 := U 45; have zF47 := U 47
    have hR' : (R, instObj 304 Dd) ∈ (Ad, o) :: rest := .tail _ hR
    have hD' : (Dd, dictOf [⟨i1, .str (Str.ofString "_refs") t1, .ref Ad⟩, ⟨i2, .str (Str.ofString "_peeled") t2, .ref P⟩] 2) ∈ (Ad, o) :: rest := .tail _ hD
    have e3 : setH H i (some x) i = some x := setH_at
    have hV : ((oct x).toArray.toList != (oct x).toArray.toList) = false := bne_self_eq_false _
    have e1 : curB (H i) = curB (some y) := by rw [hHa]
    have e4 : curB (setH H i (some x) i) ≠ curB (some y) := by rw [e3]; exact oct_ne hc hca hne
    k_extra "M:enterS"
    k_steps
    all_goals (rw [show ((oct x).toArray.toList == (oct x).toArray.toList) = true from beq_self_eq_true _]; exact hret _ _ _ _ (by assumption) (by assumption) (by assumption) (by assumption))))) only [↓Kn]
end
section
open Builtin
variable {prog : Program} {w : World} {A : Around} {E : Value → Shared → Prop} {s : Shared} {Q : Value → Shared → Prop} {b : Array UInt8} {t u : Tok} {a : Int}
theorem eq_int_bytes (h : Q (.bool false) s) : wpAny (model prog w) A (compareOp .Eq (.int a u) (.bytes b t)) Q E s := by
  show wpAny _ A (richCompare .Eq _ _) Q E s
  exact EqNone.wpAny_richCompare_eq_decline (k := false) (fun s' => typeIs_int s' a u) (fun s' => typeIs_bytes s' b t) (by decide) PySem.F.sub_bytes_int PySem.F.slot_int_eq FB.slot_bytes_eq rfl
    (call_gives PySem.F.slot_int_eq (typeIs_int s a u) PySem.F.entry_int_eq (PySem.F.args_int_eq_2 _ _) int_eq
      ⟨rfl, call_gives FB.slot_bytes_eq (typeIs_bytes s b t) FB.entry_bytes_eq (FB.args_bytes_eq_2 _ _) (declines_eq (Tx := "int") (fun s => typeIs_int s a u) PySem.F.sub_int_bytes) ⟨rfl, h⟩⟩)
theorem eq_bytes_int (h : Q (.bool false) s) : wpAny (model prog w) A (compareOp .Eq (.bytes b t) (.int a u)) Q E s := by
  show wpAny _ A (richCompare .Eq _ _) Q E s
  exact EqNone.wpAny_richCompare_eq_decline (k := false) (fun s' => typeIs_bytes s' b t) (fun s' => typeIs_int s' a u) (by decide) PySem.F.sub_int_bytes FB.slot_bytes_eq PySem.F.slot_int_eq_refl rfl
    (call_gives FB.slot_bytes_eq (typeIs_bytes s b t) FB.entry_bytes_eq (FB.args_bytes_eq_2 _ _) (declines_eq (Tx := "int") (fun s => typeIs_int s a u) PySem.F.sub_int_bytes)
      ⟨rfl, call_gives PySem.F.slot_int_eq_refl (typeIs_int s a u) PySem.F.entry_int_eq (PySem.F.args_int_eq_2 _ _) int_eq ⟨rfl, h⟩⟩)
theorem cell_eq {c d : Cell} {x y : Value} (hx : CellV c x) (hy : CellV d y) (hc : CellOk c) (hd : CellOk d) (h : Q (.bool (decide (c = d))) s) : wpAny (model prog w) A (compareOp .Eq x y) Q E s := by
  match c, d, hx, hy, hc, hd with
  | none, none, hx, hy, _, _ => rw [show x = .none from hx, show y = .none from hy]; exact EqNone.eq_none_none (by simpa using h)
  | none, some (.inl j), hx, hy, _, _ => obtain ⟨t, rfl⟩ := hy; rw [show x = .none from hx]; exact EqNone.eq_none_int (by simpa using h)
  | none, some (.inr j), hx, hy, _, _ => obtain ⟨t, rfl⟩ := hy; rw [show x = .none from hx]; exact eq_none_bytes (by simpa using h)
  | some (.inl i), none, hx, hy, _, _ => obtain ⟨t, rfl⟩ := hx; rw [show y = .none from hy]; exact EqNone.eq_int_none (by simpa using h)
  | some (.inr i), none, hx, hy, _, _ => obtain ⟨t, rfl⟩ := hx; rw [show y = .none from hy]; exact eq_bytes_none (by simpa using h)
  | some (.inl i), some (.inr j), hx, hy, _, _ => obtain ⟨t, rfl⟩ := hx; obtain ⟨t, rfl⟩ := hy; exact eq_int_bytes (by simpa using h)
  | some (.inr i), some (.inl j), hx, hy, _, _ => obtain ⟨t, rfl⟩ := hx; obtain ⟨t, rfl⟩ := hy; exact eq_bytes_int (by simpa using h)
  | some (.inl i), some (.inl j), hx, hy, _, _ =>
    obtain ⟨t, rfl⟩ := hx; obtain ⟨t, rfl⟩ := hy
    refine PyProof.Rows.eq_int ?_
    have e : ((i : Int) == (j : Int)) = decide (some (Sum.inl i : Sum Nat Nat) = some (Sum.inl j)) := by
      by_cases z : i = j
      · subst z; simp
      · have : ((i : Int) == (j : Int)) = false := by rw [beq_eq_false_iff_ne]; omega
        simp [this, z]
    rw [e]; exact h
  | some (.inr i), some (.inr j), hx, hy, hc, hd =>
    obtain ⟨t, rfl⟩ := hx; obtain ⟨t, rfl⟩ := hy
    refine eq_bytes ?_
    have e : ((lv i).toArray.toList == (lv j).toArray.toList) = decide (some (Sum.inr i : Sum Nat Nat) = some (Sum.inr j)) := by
      by_cases z : i = j
      · subst z; simp
      · have : (lv i == lv j) = false := by rw [beq_eq_false_iff_ne]; exact fun q => z (lv_inj hc hd q)
        simp [this, z]
    rw [e]; exact h
end
abbrev Row := Nat × Cell × Cell
abbrev tup (vs : List Value) : Obj := { cls := .type "tuple", data := .seq vs.toArray }
inductive RowV (news : List (Addr × Obj)) (r : Row) (v : Value) : Prop
  | mk : ∀ T ts v1 v2, v = .ref T → (T, tup [.int (r.1 : Int) ts, v1, v2]) ∈ news → CellV r.2.1 v1 → CellV r.2.2 v2 → r.1 < 7 → CellOk r.2.1 → CellOk r.2.2 → RowV news r v
inductive RowsV (news : List (Addr × Obj)) : List Value → List Row → Prop
  | nil : RowsV news [] []
  | cons {v : Value} {r : Row} {vs : List Value} {rs : List Row} : RowV news r v → RowsV news vs rs → RowsV news (v :: vs) (r :: rs)
variable {news : List (Addr × Obj)}
theorem RowsV.append {vs us : List Value} {rs qs : List Row} (h : RowsV news vs rs) (k : RowsV news us qs) : RowsV news (vs ++ us) (rs ++ qs) := by
  induction h with
  | nil => exact k
  | cons a _ ih => exact .cons a ih
theorem RowsV.len {vs : List Value} {rs : List Row} (h : RowsV news vs rs) : vs.length = rs.length := by
  induction h with
  | nil => rfl
  | cons a _ ih => simp [ih]
theorem RowsV.drop {vs : List Value} {rs : List Row} (h : RowsV news vs rs) : ∀ k, RowsV news (vs.drop k) (rs.drop k) := by
  induction h with
  | nil => intro k; simpa using RowsV.nil
  | cons a b ih => intro k; cases k with
    | zero => exact .cons a b
    | succ k => exact ih k
theorem RowsV.take {vs : List Value} {rs : List Row} (h : RowsV news vs rs) : ∀ k, RowsV news (vs.take k) (rs.take k) := by
  induction h with
  | nil => intro k; simpa using RowsV.nil
  | cons a b ih => intro k; cases k with
    | zero => exact .nil
    | succ k => exact .cons a (ih k)
theorem RowsV.get {vs : List Value} {rs : List Row} (h : RowsV news vs rs) : ∀ (i : Nat) (v : Value), vs[i]? = some v → ∃ r, rs[i]? = some r ∧ RowV news r v := by
  induction h with
  | nil => intro i v h; simp at h
  | cons a b ih => intro i v h; cases i with
    | zero => simp at h; subst h; exact ⟨_, rfl, a⟩
    | succ k => simpa using ih k v (by simpa using h)
theorem RowsV.getv {vs : List Value} {rs : List Row} (h : RowsV news vs rs) (i : Nat) (r : Row) (hr : rs[i]? = some r) : ∃ v, vs[i]? = some v ∧ RowV news r v := by
  have hl := h.len
  obtain ⟨hi, e⟩ := List.getElem?_eq_some_iff.mp hr
  obtain ⟨r', h1, h2⟩ := h.get i (vs[i]'(by omega)) (List.getElem?_eq_getElem (by omega))
  rw [hr] at h1; cases h1
  exact ⟨_, List.getElem?_eq_getElem (by omega), h2⟩
theorem RowV.mono {news' : List (Addr × Obj)} {r : Row} {v : Value} (hs : ∀ p ∈ news, p ∈ news') (h : RowV news r v) : RowV news' r v := by
  obtain ⟨T, ts, v1, v2, e, hm, x1, x2, x3, x4, x5⟩ := h
  exact ⟨T, ts, v1, v2, e, hs _ hm, x1, x2, x3, x4, x5⟩
theorem RowsV.mono {news' : List (Addr × Obj)} {vs : List Value} {rs : List Row} (hs : ∀ p ∈ news, p ∈ news') (h : RowsV news vs rs) : RowsV news' vs rs := by
  induction h with
  | nil => exact .nil
  | cons a _ ih => exact .cons (a.mono hs) ih
def since (rows : List Row) (sp idx : Nat) : List Row := (rows.drop idx).filter (fun r => decide (r.1 = sp))
def calmB (rows : List Row) (sp idx : Nat) : Bool := match since rows sp idx with
  | [] => true
  | r :: rs => decide (((r :: rs).getLast (List.cons_ne_nil _ _)).2.2 = r.2.1)
section
open PyProof.Rows.LCg
variable {prog : Program} {w : World} {A : Around} {E : Value → Shared → Prop} {s : Shared} {h₀ : Heap} {L : Addr} {m : Str → Option Value} {env : Env}
theorem compRestT_all {ct elt : PySem.Expr} {x : Str} {scope : Scope} {cl : List (Str × Addr)} {S : List (Addr × Obj) → Prop} {P : Nat → Value → Prop} {Fin : List Value → List (Addr × Obj) → Prop} {news : List (Addr × Obj)} {n : Nat}
    (I : Nat → List Value → Prop)
    (hS : S news)
    (turn : ∀ i ys v C oC oI D Ia m₂ h tk (E' : Value → Shared → Prop) (Q0 : Shared → Prop) (Q' : Value → Shared → Prop), i < n → I i ys → P i v → NsObj oC m₂ → m₂ x = some v → Fr h₀ L h m → News h₀ L h ((Ia, oI) :: (C, oC) :: (D, lst ys) :: news) →
      (∀ y h' tk', I (i + 1) (ys ++ [y]) → Fr h₀ L h' m → News h₀ L h' ((Ia, oI) :: (C, oC) :: (D, lst ys) :: news) → Q' y { s with heap := h', toks := tk' }) →
      (∀ h' tk', I (i + 1) ys → Fr h₀ L h' m → News h₀ L h' ((Ia, oI) :: (C, oC) :: (D, lst ys) :: news) → Q0 { s with heap := h', toks := tk' }) →
      wpAny (model prog w) A (isTrue ct (compEnvC scope cl C env) (eval ct (compEnvC scope cl C env))) (fun ok s' => if ok = true then wpAny (model prog w) A (eval elt (compEnvC scope cl C env)) Q' E' s' else Q0 s') E' { s with heap := h, toks := tk })
    (fin : ∀ ys, I n ys → Fin ys news) : ∀ k i ys, i + k = n → I i ys → LCt.CompRestT prog w A h₀ L m env ct elt x scope cl s S P Fin k i ys news
  | 0, i, ys, e, hI => LCt.CompRestT.zero (fin ys (by rw [← e]; exact hI))
  | k + 1, i, ys, e, hI => LCt.CompRestT.succ fun v Ia oI C oC D m₂ h tk E' hP hC hx F N off ne => by
      refine turn i ys v C oC oI D Ia m₂ h tk E' _ _ (by omega) hI hP hC hx F N (fun y h' tk' hI' F' N' => ?_) (fun h' tk' hI' F' N' => ?_)
      · exact ⟨h', tk', news, rfl, F', N', off, hS, compRestT_all I hS turn fin k (i + 1) (ys ++ [y]) (by omega) hI'⟩
      · exact ⟨h', tk', news, rfl, F', N', off, hS, compRestT_all I hS turn fin k (i + 1) ys (by omega) hI'⟩
end
section
variable {prog : Program} {w : World} {A : Around} {E : Value → Shared → Prop} {s : Shared} {h₀ : Heap} {L : Addr} {news : List (Addr × Obj)} {value slice : PySem.Expr} {k : Int} {u : Tok} {j : Nat} {x : Value} {Q : Value → Shared → Prop}
theorem len_L {l : Addr} {its : Array Value} {n c : Nat} (N : News h₀ L s.heap news) (hm : (l, W.listOf its c) ∈ news) (hz : its.size = n) (hb : n < 2 ^ 62) (h : ∀ t k, Q (.int (n : Int) t) { s with toks := k }) : wpAny (model prog w) A (call (.builtin "len") [.ref l]) Q E s := by
  subst hz
  exact call_len_list (News.isList N hm) (by omega) (h _ _)
theorem news_skip1 {h : Heap} {a b : Addr × Obj} (N : News h₀ L h (a :: b :: news)) : News h₀ L h (a :: news) := fun p hp => N p ((List.mem_cons.mp hp).elim (fun e => List.mem_cons.mpr (.inl e)) fun e => List.Mem.tail _ (List.Mem.tail _ e))
theorem news_skip2 {h : Heap} {a b c : Addr × Obj} (N : News h₀ L h (a :: b :: c :: news)) : News h₀ L h (a :: news) := news_skip1 (news_skip1 N)
theorem news_skip3 {h : Heap} {a b c d : Addr × Obj} (N : News h₀ L h (a :: b :: c :: d :: news)) : News h₀ L h (a :: news) := news_skip1 (news_skip2 N)
theorem news_pick {h : Heap} {p : Addr × Obj} {all : List (Addr × Obj)} (N : News h₀ L h all) (hm : p ∈ all) (hs : ∀ q ∈ news, q ∈ all) : News h₀ L h (p :: news) := fun q hq => N q ((List.mem_cons.mp hq).elim (fun e => e ▸ hm) fun e => hs q e)
theorem item_L {l : Addr} {its : Array Value} {n : Nat} (N : News h₀ L s.heap news) (hm : (l, W.listOf its n) ∈ news) (h0 : 0 ≤ k) (h1 : k < 2 ^ 63) (hx : its[k.toNat]? = some x) (h : Q x s)
    (hs : subscripted slice false (.ref l) (.int k u) = operate [.ref l, .int k u] (getItem (.ref l) (.int k u))) : wpAny (model prog w) A (subscriptTail value slice (.ref l) (.int k u)) Q E s :=
  tail_any (News.isList N hm).typeIs slot_list_getitem.lookup (wpAny_getItem_list (News.isList N hm) h0 h1 hx h) hs
theorem item_Ln {l : Addr} {its : Array Value} {n : Nat} (N : News h₀ L s.heap news) (hm : (l, W.listOf its n) ∈ news) (h0 : k < 0) (h1 : -(its.size : Int) ≤ k) (h2 : -(2 ^ 63) ≤ k) (hx : its[(k + its.size).toNat]? = some x) (h : Q x s)
    (hs : subscripted slice false (.ref l) (.int k u) = operate [.ref l, .int k u] (getItem (.ref l) (.int k u))) : wpAny (model prog w) A (subscriptTail value slice (.ref l) (.int k u)) Q E s :=
  tail_any (News.isList N hm).typeIs slot_list_getitem.lookup (wpAny_getItem_list_neg (News.isList N hm) h0 h1 h2 hx h) hs
end
section
variable {dp un : Nat} {gd : Option (List Code)} {env : Env} {outer : List Env} {A₀ : Around} {base h₀ g₀ : Heap} {L : Addr} {m : Str → Option Value} {mean : ExcName → Option Value} {mg mb : Str → Option Value} {w : World} {s : Shared} {Q E : Value → Shared → Prop} {news : List (Addr × Obj)}
theorem c_calm {rows : List Row} {rv : List Value} {Rl Sw : Addr} {rc sp idx : Nat} {t1 t2 : Tok} {v : Value} (B : Below (AA dp un gd outer) base outer h₀) (F : Fr h₀ L s.heap m) (X : (hd.heap_1 w.params).In h₀) (N : News h₀ L s.heap news) (T : Top hd.view_1 loose mean mg mb h₀) (hf : env.frame = some L) (hke : env.scope.kind = .function)
   (hdp : dp + 8 < recursionLimit) (hu : un + 80 < cLine) (hR : (Rl, W.listOf rv.toArray rc) ∈ news) (hRV : RowsV news rv rows) (hS : (Sw, tup [.int (sp : Int) t1, v, .int (idx : Int) t2]) ∈ news) (hn : rows.length ≤ 1000) (hix : idx ≤ 1000)
   (hret : ∀ h' tk', Fr h₀ L h' m → News h₀ L h' news → Q (.bool (calmB rows sp idx)) { s with heap := h', toks := tk' }) :
   wpAny (model PG w) ((AA dp un gd outer).deeper env) (call (.ref 347) [.ref Rl, .ref Sw]) Q E s := by
   refine Kf ?_
   simp (disch := (refine @id _ ?_; k_dflt (
    have zF10 := U 10; have zF2 := U 2; have zF3 := U 3; have zF11 := U 11; have zF48 := U 48; have zF49 := U 49; have zF50 := U 50
    have hrl := hRV.len
    have hcut : kms_pick rv.toArray.toList (some (idx : Int)) none = rv.drop idx := by
      unfold kms_pick kms_lo kms_hi
      have n1 : ¬ ((idx : Int) < 0) := by omega
      simp only [if_neg n1, Int.toNat_natCast]
      rw [List.take_of_length_le (by simp)]
      by_cases z : idx ≤ rv.length
      · rw [Nat.min_eq_left z]
      · have z1 : rv.length ≤ idx := by omega
        rw [Nat.min_eq_right z1, List.drop_eq_nil_of_le (Nat.le_refl _), List.drop_eq_nil_of_le z1]
    have hsz : rv.toArray.size ≤ sizeLine := by
      have : rv.toArray.size = rows.length := by simpa using hrl
      rw [this]; exact Nat.le_trans hn (by decide)
    k_extra "M:enterC"
    k_steps
    unfold MStop
    refine LCt.Assign_ListComp_T (F₀ := by k_asm) (by rfl) (by with_unfolding_all rfl) (by with_unfolding_all rfl) (by decide) (by rfl) (by decide) (by rfl) (by rfl) (by rfl) ?_
    k_steps
    have hsz2 : (rv.drop idx).toArray.size ≤ sizeLine := by
      have : (rv.drop idx).toArray.size ≤ rows.length := by simp; omega
      exact Nat.le_trans (Nat.le_trans this hn) (by decide)
    refine .inl ⟨_, _, _, rfl, rfl, by k_asm, by k_asm, .inr ⟨_, .head _, rfl, _, rfl⟩, hsz2, ?_⟩
    rintro s₂ ⟨h2, rfl⟩
    refine compRestT_all (fun i ys => RowsV news ys (((rows.drop idx).take i).filter (fun r => decide (r.1 = sp)))) (.inr ⟨_, .head _, rfl, _, rfl⟩) ?_ ?_ _ 0 [] (Nat.zero_add _) .nil
    · intro i ys v C oC oI D Ia m₂ h tk E' Q0 Q' hi hI hP hC hxx F N hq hq0
      obtain ⟨r, hr, T, ts, v1, v2, rfl, hm, hv1, hv2, h7, ho1, ho2⟩ := (hRV.drop idx).get i v (by simpa using hP)
      by_cases hrs : r.1 = sp
      · have hV : ((r.1 : Int) == (sp : Int)) = true := by simp [hrs]
        k_steps
        refine hq _ _ _ ?_ (by k_asm) (by k_asm)
        rw [List.take_add_one, hr, List.filter_append]
        exact hI.append (by simpa [hrs] using RowsV.cons ⟨T, ts, v1, v2, rfl, hm, hv1, hv2, h7, ho1, ho2⟩ .nil)
      · have hV : ((r.1 : Int) == (sp : Int)) = false := by rw [beq_eq_false_iff_ne]; omega
        k_steps
        refine hq0 _ _ ?_ (by k_asm) (by k_asm)
        rw [List.take_add_one, hr, List.filter_append]
        simpa [hrs] using hI
    · intro ys hI D h tk F N off
      have hI' : RowsV news ys (since rows sp idx) := by
        unfold since
        rwa [List.take_of_length_le (by simp; omega)] at hI
      have hlen := hI'.len
      have hsl : (since rows sp idx).length ≤ 1000 := by
        refine Nat.le_trans (List.length_filter_le _ _) ?_
        simp; omega
      cases hsi : since rows sp idx with
      | nil =>
        rw [hsi] at hI'
        cases hI'
        have hcb : calmB rows sp idx = true := by unfold calmB; rw [hsi]
        rw [hcb] at hret
        have hz : (([] : List Value)).toArray.size = 0 := rfl
        have hV : (((0 : Nat) : Int) == 0) = true := by decide
        k_steps
        all_goals exact hret _ _ (by k_asm) (by k_extra "M:news")
      | cons r rs =>
        have hz : ys.toArray.size = rs.length + 1 := by rw [hsi] at hlen; simpa using hlen
        rw [hsi] at hI'
        obtain ⟨vf, hf1, hf2⟩ := hI'.getv 0 r rfl
        obtain ⟨vl, hl1, hl2⟩ := hI'.getv rs.length ((r :: rs).getLast (List.cons_ne_nil _ _)) (by rw [List.getLast_eq_getElem]; simp)
        obtain ⟨Tf, tf, f1, f2, rfl, hfm, hfv1, hfv2, hf7, hfo1, hfo2⟩ := hf2
        obtain ⟨Tl, tl, g1, g2, rfl, hlm, hlv1, hlv2, hl7, hlo1, hlo2⟩ := hl2
        have hx1 : ys.toArray[(0 : Int).toNat]? = some (.ref Tf) := by simpa using hf1
        have hx2 : ys.toArray[((-1 : Int) + ys.toArray.size).toNat]? = some (.ref Tl) := by
          rw [hz, show ((-1 : Int) + ((rs.length + 1 : Nat) : Int)).toNat = rs.length from by omega]; simpa using hl1
        have hx3 : -(ys.toArray.size : Int) ≤ -1 := by rw [hz]; omega
        have hcb : calmB rows sp idx = decide (((r :: rs).getLast (List.cons_ne_nil _ _)).2.2 = r.2.1) := by unfold calmB; rw [hsi]
        have hV : (((rs.length + 1 : Nat) : Int) == 0) = false := by rw [beq_eq_false_iff_ne]; omega
        rw [hcb] at hret
        k_steps
        all_goals exact hret _ _ (by k_asm) (by k_extra "M:news")))) only [↓Kn]
end
theorem is_none_cell {prog : Program} {w : World} {A : Around} {E : Value → Shared → Prop} {s : Shared} {Q : Value → Shared → Prop} {c : Cell} {v : Value} (hv : CellV c v) (h : Q (.bool c.isNone) s) : wpAny (model prog w) A (compareOp .Is v .none) Q E s := by
  match c, hv with
  | none, hv => rw [show v = .none from hv]; exact wpAny_pure h
  | some (.inl j), hv => obtain ⟨t, rfl⟩ := hv; exact wpAny_pure h
  | some (.inr j), hv => obtain ⟨t, rfl⟩ := hv; exact wpAny_pure h
theorem cv_none : CellV none .none := rfl
theorem cv_int (j : Nat) (t : Tok) : CellV (some (.inl j)) (.int (j : Int) t) := ⟨t, rfl⟩
theorem cv_bytes (c : Nat) (t : Tok) : CellV (some (.inr c)) (.bytes (lv c).toArray t) := ⟨t, rfl⟩
def CellsV (vs : List Value) (H : Nat → Cell) : Prop := vs.length = 7 ∧ ∀ i, i < 7 → ∃ v, vs[i]? = some v ∧ CellV (H i) v
inductive DueOk (H : Nat → Cell) (sp : Nat) (sc : Cell) (calm : Bool) : String → Nat → Value → Cell → Value → Bool → Prop
  | add (i : Nat) (x : Sum Nat Nat) : i < 7 → CellOk (some x) → DueOk H sp sc calm "add" i .none (some x) (.bool (H i).isNone) (H i).isNone
  | point (i j : Nat) : i < 7 → j < 7 → DueOk H sp sc calm "point" i .none (some (.inl j)) .none true
  | set (i c : Nat) : i < 7 → CellOk (some (.inr c)) → DueOk H sp sc calm "set" i .none (some (.inr c)) .none true
  | drop0 : DueOk H sp sc calm "drop" sp .none none (.bool true) true
  | swap0 : sc.isNone = false → CellOk sc → DueOk H sp sc calm "swap" sp .none sc (.bool true) true
  | drop (t : Tok) : DueOk H sp sc calm "drop" sp (.bytes (curB sc).toArray t) none (.bool calm) calm
  | swap (t : Tok) (x : Sum Nat Nat) : CellOk (some x) → DueOk H sp sc calm "swap" sp (.bytes (curB sc).toArray t) (some x) (.bool calm) calm
section
variable {dp un : Nat} {gd : Option (List Code)} {env : Env} {outer : List Env} {A₀ : Around} {base h₀ g₀ : Heap} {L : Addr} {m : Str → Option Value} {mean : ExcName → Option Value} {mg mb : Str → Option Value} {w : World} {s : Shared} {Q E : Value → Shared → Prop} {news : List (Addr × Obj)}
theorem c_due {rows : List Row} {rv hv : List Value} {H : Nat → Cell} {Rl Sw Hl : Addr} {rc hc sp idx way pick other c : Nat} {sc : Cell} {t1 t2 tw tp to tn : Tok} {v : Value} (B : Below (AA dp un gd outer) base outer h₀) (F : Fr h₀ L s.heap m) (X : (hd.heap_1 w.params).In h₀) (N : News h₀ L s.heap news) (T : Top hd.view_1 loose mean mg mb h₀) (hf : env.frame = some L) (hke : env.scope.kind = .function)
   (hdp : dp + 12 < recursionLimit) (hu : un + 120 < cLine) (hR : (Rl, W.listOf rv.toArray rc) ∈ news) (hRV : RowsV news rv rows) (hS : (Sw, tup [.int (sp : Int) t1, v, .int (idx : Int) t2]) ∈ news) (hn : rows.length ≤ 1000) (hix : idx ≤ 1000)
   (hH : (Hl, W.listOf hv.toArray hc) ∈ news) (hHV : CellsV hv H) (hsv : CellV sc v) (hsc : CellOk sc) (hsp : sp < 7) (hp : pick < 7) (ho : other < 7) (hc7 : CellOk (some (.inr c)))
   (hret : ∀ T deed spot oldv cell cellv duev turned td ts h' tk', DueOk H sp sc (calmB rows sp idx) deed spot oldv cell duev turned → CellV cell cellv → Fr h₀ L h' m →
      News h₀ L h' ((T, tup [.str (Str.ofString deed) td, .int (spot : Int) ts, oldv, cellv, duev, .bool turned]) :: news) → Q (.ref T) { s with heap := h', toks := tk' }) :
   wpAny (model PG w) ((AA dp un gd outer).deeper env) (call (.ref 354) [.ref Hl, .ref Rl, .ref Sw, .int (way : Int) tw, .int (pick : Int) tp, .int (other : Int) to, .bytes (lv c).toArray tn]) Q E s := by
   refine Kf ?_
   simp (disch := (refine @id _ ?_; k_dflt (
    have zF10 := U 10; have zF2 := U 2; have zF3 := U 3; have zF16 := U 16; have zF48 := U 48; have zF49 := U 49; have zF51 := U 51
    have ho7 : CellOk (some (.inl other)) := ho
    obtain ⟨v1, hv1, hc1⟩ := hHV.2 sp hsp
    obtain ⟨v2, hv2, hc2⟩ := hHV.2 pick hp
    have hx1 : hv.toArray[((sp : Nat) : Int).toNat]? = some v1 := by simpa using hv1
    have hx2 : hv.toArray[((pick : Nat) : Int).toNat]? = some v2 := by simpa using hv2
    k_extra "M:enter"
    k_steps
    all_goals
      refine' hret _ _ _ _ _ _ _ _ _ _ _ _ ?zq_zd ?zq_zc ?zq_zF ?zq_zN
      (case zq_zN => first | k_asm | exact news_skip1 (by assumption) | exact news_skip2 (by assumption) | exact news_skip3 (by assumption))
      (case zq_zF => k_asm)
      (case zq_zc => first | assumption | exact cv_none | exact cv_bytes _ _ | exact cv_int _ _)
      (case zq_zd => first | exact .add _ (.inr c) (by assumption) (by assumption) | exact .add _ (.inl other) (by assumption) (by assumption) | exact .point _ _ (by assumption) (by assumption) | exact .set _ _ (by assumption) (by assumption) | exact .drop0 | exact .drop _ | exact .swap _ (.inr c) (by assumption) | exact .swap _ (.inl other) (by assumption) | (refine .swap0 ?_ (by assumption); first | assumption | (exfalso; omega)))))) only [↓Kn]
end
theorem picked_nat {b : List UInt8} {lo hi : Option Int} {x y : Nat} (e : sliceBounds lo hi none b.toArray.size = ((x : Int), (y : Int), 1)) : KBy.picked b.toArray lo hi = ((b.drop x).take (y - x)).toArray := by
  unfold KBy.picked
  rw [e]
  unfold Builtin.Bytes.sliced
  simp only [sliceRange_one, pick_run]
section
variable {prog : Program} {w : World} {A : Around} {E : Value → Shared → Prop} {s : Shared} {h₀ : Heap} {L : Addr} {m : Str → Option Value} {news : List (Addr × Obj)} {b d : List UInt8} {t u : Tok} {value slice : PySem.Expr} {Q : Value → Shared → Prop}
theorem cut_tail {tk5 : Tok} (hF : Fr h₀ L s.heap m) (hN : News h₀ L s.heap news) (e0 : 1 ≤ b.length) (e3 : b.length ≤ 1000)
    (h : ∀ h' t' k, Fr h₀ L h' m → News h₀ L h' news → Q (.bytes (b.drop 1).toArray t') { s with heap := h', toks := k })
    (hs : subscripted slice false (.bytes b.toArray t) (.ref s.heap.objs.size) = operate [.ref s.heap.objs.size, .bytes b.toArray t] (getItem (.bytes b.toArray t) (.ref s.heap.objs.size)))
    (ht : ∀ r, letTemporaryGo value (.bytes b.toArray t) r = pure ()) :
    wpAny (model prog w) A (subscriptTail value slice (.bytes b.toArray t) (.ref s.heap.objs.size)) Q E { s with heap := s.heap.push { cls := .type "slice", data := .fields #[.int 1 tk5, .none, .none] } } := by
  have hb : sliceBounds (some 1) none none b.toArray.size = (((1 : Nat) : Int), (b.length : Int), 1) := by
    rw [kms_bounds]
    have z : kms_lo (some 1) b.toArray.size = 1 := by unfold kms_lo; simp; omega
    rw [z]; simp [kms_hi]
  have e1 : KBy.whole b.toArray (some 1) none = false := by unfold KBy.whole; rw [hb]; simp
  have e2 : KBy.picked b.toArray (some 1) none = (b.drop 1).toArray := by
    rw [picked_nat hb, List.take_of_length_le (by simp)]
  refine KBy.slice_N (lo := some 1) (hi := none) hF hN (by first | exact .int _ _ | constructor) (by first | exact .none | constructor) e1 ?_ ?_ hs ht
  · rw [e2]; simp; omega
  · rw [e2]; exact h
theorem cut_last {tk5 : Tok} (hF : Fr h₀ L s.heap m) (hN : News h₀ L s.heap news) (e0 : 1 ≤ b.length) (e3 : b.length ≤ 1000)
    (h : ∀ h' t' k, Fr h₀ L h' m → News h₀ L h' news → Q (.bytes b.dropLast.toArray t') { s with heap := h', toks := k })
    (hs : subscripted slice false (.bytes b.toArray t) (.ref s.heap.objs.size) = operate [.ref s.heap.objs.size, .bytes b.toArray t] (getItem (.bytes b.toArray t) (.ref s.heap.objs.size)))
    (ht : ∀ r, letTemporaryGo value (.bytes b.toArray t) r = pure ()) :
    wpAny (model prog w) A (subscriptTail value slice (.bytes b.toArray t) (.ref s.heap.objs.size)) Q E { s with heap := s.heap.push { cls := .type "slice", data := .fields #[.none, .int (-1) tk5, .none] } } := by
  have hb : sliceBounds none (some (-1)) none b.toArray.size = (((0 : Nat) : Int), ((b.length - 1 : Nat) : Int), 1) := by
    rw [kms_bounds]
    have z : kms_hi (some (-1)) b.toArray.size = b.length - 1 := by unfold kms_hi; simp
    rw [z]; simp [kms_lo]
  have e1 : KBy.whole b.toArray none (some (-1)) = false := by
    unfold KBy.whole; rw [hb]
    have : (((b.length - 1 : Nat) : Int) == (b.toArray.size : Int)) = false := by rw [beq_eq_false_iff_ne]; simp; omega
    simp only [this]; simp
  have e2 : KBy.picked b.toArray none (some (-1)) = b.dropLast.toArray := by
    rw [picked_nat hb, List.dropLast_eq_take]; simp
  refine KBy.slice_N (lo := none) (hi := some (-1)) hF hN (by first | exact .none | constructor) (by first | exact .int _ _ | constructor) e1 ?_ ?_ hs ht
  · rw [e2]; simp; omega
  · rw [e2]; exact h
theorem add_BL (hz : b.length + d.length ≤ 1000) (h : ∀ t' k, Q (.bytes (b ++ d).toArray t') { s with toks := k }) : wpAny (model prog w) A (binaryOp .Add (.bytes b.toArray t) (.bytes d.toArray u)) Q E s := by
  refine KBy.add_bytes ?_ fun t' k => ?_
  · simp; omega
  · rw [List.append_toArray]; exact h t' k
inductive BytesL : List Value → List (List UInt8) → Prop
  | nil : BytesL [] []
  | cons {l : List UInt8} {vs : List Value} {ls : List (List UInt8)} (t : Tok) : BytesL vs ls → BytesL (.bytes l.toArray t :: vs) (l :: ls)
theorem BytesL.consE {vs : List Value} {ls : List (List UInt8)} (t : Tok) (h : BytesL vs ls) : BytesL (.bytes #[] t :: vs) ([] :: ls) := .cons (l := []) t h
theorem BytesL.at_ {vs : List Value} {ls : List (List UInt8)} (h : BytesL vs ls) : ∀ k, k < ls.length → ∃ t, vs[k]? = some (.bytes (ls.getD k []).toArray t) := by
  induction h with
  | nil => intro k hk; simp at hk
  | cons t _ ih => intro k hk; cases k with
    | zero => exact ⟨t, rfl⟩
    | succ k => simpa using ih k (by simpa using hk)
theorem item_B {l : Addr} {vs : List Value} {ls : List (List UInt8)} {n k n' : Nat} {ki : Int} (N : News h₀ L s.heap news) (hm : (l, W.listOf vs.toArray n) ∈ news) (hb : BytesL vs ls) (hk : ki = (k : Int)) (hz : ls.length = n' ∧ n' ≤ 100) (hlt : k < n')
    (h : ∀ t, Q (.bytes (ls.getD k []).toArray t) s)
    (hs : subscripted slice false (.ref l) (.int ki u) = operate [.ref l, .int ki u] (getItem (.ref l) (.int ki u))) : wpAny (model prog w) A (subscriptTail value slice (.ref l) (.int ki u)) Q E s := by
  subst hk
  obtain ⟨z1, z2⟩ := hz
  obtain ⟨t, e⟩ := hb.at_ k (z1 ▸ hlt)
  exact item_L N hm (by omega) (by omega) (by simpa using e) (h t) hs
end
def cellN (i : Nat) : Cell := if i = 0 then none else if i ≤ 7 then some (.inl (i - 1)) else some (.inr (i - 7))
theorem cell_of {x : Cell} (h : CellOk x) : ∃ i, i < 15 ∧ x = cellN i := by
  match x, h with
  | none, _ => exact ⟨0, by omega, rfl⟩
  | some (.inl j), h =>
    have h : j < 7 := h
    refine ⟨j + 1, by omega, ?_⟩
    unfold cellN
    rw [if_neg (by omega), if_pos (by omega)]; rfl
  | some (.inr c), h =>
    obtain ⟨h1, h2⟩ := h
    refine ⟨c + 7, by omega, ?_⟩
    unfold cellN
    rw [if_neg (by omega), if_neg (by omega)]
    congr 2
    try omega
theorem cur_len {x : Cell} (h : CellOk x) : 1 ≤ (curB x).length ∧ (curB x).length ≤ 100 := by
  obtain ⟨i, hi, rfl⟩ := cell_of h
  have : ∀ i : Fin 15, 1 ≤ (curB (cellN i)).length ∧ (curB (cellN i)).length ≤ 100 := by decide +kernel
  exact this ⟨i, hi⟩
theorem last_ne {x y : Cell} (hx : CellOk x) (hy : CellOk y) : curB x ≠ (curB y).dropLast := by
  obtain ⟨i, hi, rfl⟩ := cell_of hx
  obtain ⟨j, hj, rfl⟩ := cell_of hy
  have : ∀ i : Fin 15, ∀ j : Fin 15, curB (cellN i) ≠ (curB (cellN j)).dropLast := by decide +kernel
  exact this ⟨i, hi⟩ ⟨j, hj⟩
abbrev oddL (ob : List UInt8) : List (List UInt8) := [[], ob.drop 1, ob ++ [48], [102] ++ ob.drop 1]
theorem odd_ne {x y : Cell} (hx : CellOk x) (hy : CellOk y) {k : Nat} (hk : k < 4) : curB x ≠ (oddL (curB y)).getD k [] := by
  obtain ⟨i, hi, rfl⟩ := cell_of hx
  obtain ⟨j, hj, rfl⟩ := cell_of hy
  have : ∀ k : Fin 4, ∀ i : Fin 15, ∀ j : Fin 15, curB (cellN i) ≠ (oddL (curB (cellN j))).getD k.val [] := by decide +kernel
  exact this ⟨k, hk⟩ ⟨i, hi⟩ ⟨j, hj⟩
abbrev badL (nb name : List UInt8) : List (List UInt8) := [[], nb.drop 1, nb ++ [48], [103] ++ nb.drop 1, [114, 101, 102, 58] ++ name, nb ++ nb, [32] ++ nb.drop 1]
def badB (bl : List UInt8) : Bool := !startsB bl.toArray #[114, 101, 102, 58, 32] && decide (bl.length ≤ 200) && ((decide (bl.length ≠ 40) && decide (bl.length ≠ 64)) || ((decide (bl.length = 40) || decide (bl.length = 64)) && (decide ((bl.getD 0 0).toNat = 103) || decide ((bl.getD 0 0).toNat = 32))))
theorem badV_of {bl : List UInt8} (h : badB bl = true) : BadV bl := by
  unfold badB at h
  simp only [Bool.and_eq_true, Bool.or_eq_true, decide_eq_true_eq, Bool.not_eq_true'] at h
  obtain ⟨⟨a, b⟩, c | ⟨d, e⟩⟩ := h
  · exact ⟨a, b, .inl c⟩
  · refine ⟨a, b, .inr ?_⟩
    rcases d with d | d
    · exact ⟨20, by omega, .inl rfl, e⟩
    · exact ⟨32, by omega, .inr rfl, e⟩
theorem bad_at {c sp k : Nat} (hc : 1 ≤ c ∧ c ≤ 7) (hs : sp < 7) (hk : k < 7) : BadV ((badL (lv c) (nm sp)).getD k []) := by
  refine badV_of ?_
  have : ∀ k : Fin 7, ∀ sp : Fin 7, ∀ c : Fin 8, 1 ≤ c.val → badB ((badL (lv c) (nm sp)).getD k.val []) = true := by decide +kernel
  exact this ⟨k, hk⟩ ⟨sp, hs⟩ ⟨c, by omega⟩ hc.1
theorem nm_len {sp : Nat} (h : sp < 7) : (nm sp).length ≤ 20 := by
  have : ∀ i : Fin 7, (nm i).length ≤ 20 := by decide
  exact this ⟨sp, h⟩
abbrev wrL : List (List UInt8) := [wr 0, wr 1, wr 2, wr 3, wr 4, wr 5, wr 6]
theorem wr_at {k : Nat} (h : k < 7) : wrL.getD k [] = wr k := by
  have : ∀ k : Fin 7, wrL.getD k.val [] = wr k := by decide
  exact this ⟨k, h⟩
inductive RefOk (sp : Nat) (sc : Cell) (c : Nat) : String → List UInt8 → Value → Value → Value → Prop
  | swap (ob : List UInt8) (t t' : Tok) : (∀ x : Cell, CellOk x → curB x ≠ ob) → RefOk sp sc c "swap" (nm sp) (.bytes ob.toArray t) (.bytes (lv c).toArray t') (.bool false)
  | drop (ob : List UInt8) (t : Tok) : (∀ x : Cell, CellOk x → curB x ≠ ob) → RefOk sp sc c "drop" (nm sp) (.bytes ob.toArray t) .none (.bool false)
  | badswap (bl : List UInt8) (t t' tv : Tok) : BadV bl → RefOk sp sc c "swap" (nm sp) (.bytes (curB sc).toArray t) (.bytes bl.toArray t') (.str (Str.ofString "value") tv)
  | badadd (bl : List UInt8) (t' tv : Tok) : BadV bl → RefOk sp sc c "add" (nm sp) .none (.bytes bl.toArray t') (.str (Str.ofString "value") tv)
  | nameswap (k : Nat) (t t' tv : Tok) : k < 7 → RefOk sp sc c "swap" (wr k) (.bytes ZRO.toArray t) (.bytes (lv c).toArray t') (.str (Str.ofString "name") tv)
  | nameset (k : Nat) (t' tv : Tok) : k < 7 → RefOk sp sc c "set" (wr k) .none (.bytes (lv c).toArray t') (.str (Str.ofString "name") tv)
theorem seven {T a b c d e f g : Addr} (h : T ∈ [a, b, c, d, e, f, g]) : T = a ∨ T = b ∨ T = c ∨ T = d ∨ T = e ∨ T = f ∨ T = g := by simpa using h
theorem pick_ref {w : World} {A : Around} {E : Value → Shared → Prop} {s : Shared} {h₀ : Heap} {L l : Addr} {news : List (Addr × Obj)} {value slice : PySem.Expr} {u : Tok} {n pick : Nat} (Ts : List Addr) {Q : Value → Shared → Prop} (N : News h₀ L s.heap news)
    (hm : (l, W.listOf (Ts.map Value.ref).toArray n) ∈ news) (hp : pick < Ts.length) (h63 : (pick : Int) < 2 ^ 63)
    (h : ∀ T, T ∈ Ts → Q (.ref T) s)
    (hs : subscripted slice false (.ref l) (.int (pick : Int) u) = operate [.ref l, .int (pick : Int) u] (getItem (.ref l) (.int (pick : Int) u))) : wpAny (model PG w) A (subscriptTail value slice (.ref l) (.int (pick : Int) u)) Q E s :=
  item_L (x := .ref Ts[pick]) N hm (Int.natCast_nonneg _) h63 (by simp [hp]) (h _ (List.getElem_mem hp)) hs
inductive OddP (h₀ : Heap) (L : Addr) (m : Str → Option Value) (news : List (Addr × Obj)) (s : Shared) (v : Value) (s' : Shared) : Prop
  | mk : ∀ ob : List UInt8, ∀ t h' tk, v = .bytes ob.toArray t → (∀ x, CellOk x → curB x ≠ ob) → s' = { s with heap := h', toks := tk } → Fr h₀ L h' m → News h₀ L h' news → OddP h₀ L m news s v s'
theorem odd_join {M : Model} {A : Around} {E : Value → Shared → Prop} {s : Shared} {c : Sem Value} {Q : Value → Shared → Prop} {h₀ : Heap} {L : Addr} {m : Str → Option Value} {news : List (Addr × Obj)} (F : Fr h₀ L s.heap m) (N : News h₀ L s.heap news)
    (h : wpAny M A c (OddP h₀ L m news s) E s) (hq : ∀ (ob : List UInt8) t h' tk, (∀ x, CellOk x → curB x ≠ ob) → Fr h₀ L h' m → News h₀ L h' news → Q (.bytes ob.toArray t) { s with heap := h', toks := tk }) : wpAny M A c Q E s :=
  wpAny_mono h (fun v s' ⟨n, t, h', tk, e1, e2, e3, F', N'⟩ => by subst e1; subst e3; exact hq n t h' tk e2 F' N') fun _ _ e => e
section
variable {dp un : Nat} {gd : Option (List Code)} {env : Env} {outer : List Env} {A₀ : Around} {base h₀ g₀ : Heap} {L : Addr} {m : Str → Option Value} {mean : ExcName → Option Value} {mg mb : Str → Option Value} {w : World} {s : Shared} {Q E : Value → Shared → Prop} {news : List (Addr × Obj)}
theorem c_refused {Sw : Addr} {sp idx pick other c : Nat} {sc : Cell} {t1 t2 tp to tn : Tok} {v : Value} (B : Below (AA dp un gd outer) base outer h₀) (F : Fr h₀ L s.heap m) (X : (hd.heap_1 w.params).In h₀) (N : News h₀ L s.heap news) (T : Top hd.view_1 loose mean mg mb h₀) (hf : env.frame = some L) (hke : env.scope.kind = .function)
   (hdp : dp + 12 < recursionLimit) (hu : un + 120 < cLine) (hS : (Sw, tup [.int (sp : Int) t1, v, .int (idx : Int) t2]) ∈ news)
   (hsv : CellV sc v) (hsc : CellOk sc) (hsp : sp < 7) (hp : pick < 7) (ho : other < 7) (hc7 : 1 ≤ c ∧ c ≤ 7)
   (hret : ∀ T deed name oldv laid duev td ts h' tk', RefOk sp sc c deed name oldv laid duev → Fr h₀ L h' m →
      News h₀ L h' ((T, tup [.str (Str.ofString deed) td, .bytes name.toArray ts, oldv, laid, duev]) :: news) → Q (.ref T) { s with heap := h', toks := tk' }) :
   wpAny (model PG w) ((AA dp un gd outer).deeper env) (call (.ref 361) [.ref Sw, .int (pick : Int) tp, .int (other : Int) to, .bytes (lv c).toArray tn]) Q E s := by
   refine Kf ?_
   simp (disch := (refine @id _ ?_; k_dflt (
    have zF10 := U 10; have zF2 := U 2; have zF3 := U 3; have zF16 := U 16; have zF49 := U 49; have zF52 := U 52
    obtain ⟨l1, l2⟩ := cur_len hsc
    obtain ⟨l3, l4⟩ := cur_len (x := some (.inr c)) hc7
    have l3 : 1 ≤ (lv c).length := l3
    have l4 : (lv c).length ≤ 100 := l4
    have l5 := nm_len hsp
    have hk4 : (other : Int).fmod 4 = ((other % 4 : Nat) : Int) := by rw [Int.fmod_eq_emod_of_nonneg _ (by decide)]; omega
    have ho4 : other % 4 < 4 := Nat.mod_lt _ (by decide)
    k_extra "M:enter"
    k_steps
    unfold MStop
    refine odd_join (by k_asm) (by k_asm) ?zq_yA ?zq_yB
    case zq_yA =>
      refine IfExp_ ?_
      k_steps
      all_goals first
       | exact ⟨_, _, _, _, rfl, fun x hx => last_ne hx hsc, rfl, by k_asm, by k_asm⟩
       | exact ⟨_, _, _, _, rfl, fun x hx => odd_ne hx hsc ho4, rfl, by k_asm, by k_asm⟩
    case zq_yB =>
    intro ob tO hO tkO hob FO NO
    (try k_sweep)
    k_steps
    unfold MStop
    refine' pick_ref [_, _, _, _, _, _, _] (by k_asm) (List.Mem.head _) hp (by omega) (fun T hT => ?_) (by with_unfolding_all rfl)
    k_steps
    rcases seven hT with e | e | e | e | e | e | e
    all_goals
      rw [e]
      refine' hret _ _ _ _ _ _ _ _ _ _ ?zq_zd ?zq_zF ?zq_zN
      (case zq_zN => refine' news_pick (by assumption) ?zq_zm ?zq_zt; (case zq_zm => (repeat (first | exact List.Mem.head _ | refine List.Mem.tail _ ?_))); (case zq_zt => intro p hp; (repeat (first | exact hp | refine List.Mem.tail _ ?_))))
      (case zq_zF => k_asm)
      (case zq_zd => first | exact .swap _ _ _ (fun x hx => last_ne hx hsc) | exact .swap _ _ _ (fun x hx => odd_ne hx hsc ho4) | exact .drop _ _ hob | exact .badswap _ _ _ _ (bad_at hc7 hsp ho) | exact .badadd _ _ _ (bad_at hc7 hsp ho) | (refine (show RefOk sp sc c "swap" (wrL.getD other []) _ _ _ from ?_); rw [wr_at ho]; exact .nameswap _ _ _ _ ho) | (refine (show RefOk sp sc c "set" (wrL.getD other []) _ _ _ from ?_); rw [wr_at ho]; exact .nameset _ _ _ ho))))) only [↓Kn]
end
section
variable {dp un : Nat} {gd : Option (List Code)} {env : Env} {outer : List Env} {A₀ : Around} {base h₀ g₀ : Heap} {L : Addr} {m : Str → Option Value} {mean : ExcName → Option Value} {mg mb : Str → Option Value} {w : World} {s : Shared} {Q E : Value → Shared → Prop} {news : List (Addr × Obj)}
variable {R Dd Ad P : Addr} {o : Obj} {kvs : List (List UInt8 × Value)} {H : Nat → Cell} {i1 i2 : Int} {t1 t2 : Tok}
theorem r_ref {i : Nat} {t : Tok} (B : Below (AA dp un gd outer) base outer h₀) (F : Fr h₀ L s.heap m) (X : (hd.heap_1 w.params).In h₀) (N : News h₀ L s.heap news) (T : Top hd.view_1 loose mean mg mb h₀) (hf : env.frame = some L) (hke : env.scope.kind = .function)
   (hdp : dp + 4 < recursionLimit) (hu : un + 40 < cLine) (hR : (R, instObj 304 Dd) ∈ news) (hD : (Dd, dictOf [⟨i1, .str (Str.ofString "_refs") t1, .ref Ad⟩, ⟨i2, .str (Str.ofString "_peeled") t2, .ref P⟩] 2) ∈ news) (hA : (Ad, o) ∈ news) (hO : o.IsDictOf (bytesKind PG w) kvs) (hAs : (Ad == sysModules) = false) (RK : RefsKV kvs H) (hi : i < 7)
   (hret : ∀ v h' tk', OctV (H i) v → Fr h₀ L h' m → News h₀ L h' news → Q v { s with heap := h', toks := tk' }) :
   wpAny (model PG w) ((AA dp un gd outer).deeper env) (call (.ref 182) [.ref R, .bytes (nm i).toArray t]) Q E s := by
  refine Kf ?_
  simp (disch := (refine @id _ ?_; k_dflt (
   have zF1 := U 1; have zF10 := U 10; have zF2 := U 2; have zF3 := U 3
   cases hH : H i with
   | none =>
     have hval : valueAt kvs (nm i).toArray.toList = none := RK.none_ hi hH
     rw [hH] at hret
     clear RK hH
     k_extra "M:enter"
     k_steps
     all_goals exact hret _ _ _ rfl (by assumption) (by k_extra "M:news")
   | some x =>
     obtain ⟨tv, hval⟩ : ∃ t, valueAt kvs (nm i).toArray.toList = some (.bytes (oct x).toArray t) := RK.some_ hi hH
     obtain ⟨hx1, hx2⟩ := oct_pos (hH ▸ RK.ok i hi)
     rw [hH] at hret
     clear RK hH
     k_extra "M:enter"
     k_steps
     all_goals exact hret _ _ _ ⟨_, rfl⟩ (by assumption) (by k_extra "M:news")))) only [↓Kn]
end
theorem oct_eqAt {A : Around} {s : Shared} {c : Cell} {x y : Value} (hx : OctV c x) (hy : OctV c y) : SeqAt.EqAt A s x y true := by
  match c, hx, hy with
  | none, hx, hy => rw [show x = .none from hx, show y = .none from hy]; exact SeqAt.EqAt.same _
  | some z, hx, hy =>
    obtain ⟨t, rfl⟩ := hx
    obtain ⟨u, rfl⟩ := hy
    exact fun prog w E Q hq => eqBool_bytes (by simpa using hq)
def OctsV (H : Nat → Cell) (ys : List Value) : Prop := ∀ k v, ys[k]? = some v → OctV (H k) v
theorem OctsV.snoc {H : Nat → Cell} {ys : List Value} {i : Nat} {y : Value} (hl : ys.length = i) (h : OctsV H ys) (hy : OctV (H i) y) : OctsV H (ys ++ [y]) := fun k v hv => by
  by_cases z : k < ys.length
  · rw [List.getElem?_append_left z] at hv; exact h k v hv
  · rw [List.getElem?_append_right (by omega)] at hv
    have : k = i := by
      have := List.getElem?_eq_some_iff.mp hv
      obtain ⟨q, _⟩ := this
      simp at q; omega
    subst this
    simp [hl] at hv
    subst hv; exact hy
theorem octs_eq {prog : Program} {w : World} {A : Around} {E : Value → Shared → Prop} {s : Shared} {Q : Value → Shared → Prop} {h₀ : Heap} {L a b : Addr} {news : List (Addr × Obj)} {H : Nat → Cell} {ys us : List Value} {n1 n2 : Nat}
    (N : News h₀ L s.heap news) (ha : (a, W.listOf ys.toArray n1) ∈ news) (hb : (b, W.listOf us.toArray n2) ∈ news) (hy : OctsV H ys) (hu : OctsV H us) (hl : ys.length = us.length) (hA : A.units < cLine) (h : Q (.bool true) s) :
    wpAny (model prog w) A (compareOp .Eq (.ref a) (.ref b)) Q E s := by
  refine SeqAt.eq_listAt (e := fun _ => true) (News.isList N ha) (News.isList N hb) (by simpa using hl) hA (fun j h1 h2 => ?_) ?_
  · exact oct_eqAt (hy j _ (by simp)) (hu j _ (by simp))
  · have : ((List.range ys.toArray.size).all fun _ => true) = true := by simp
    rw [this]; exact h
theorem names_list7 {w : World} {h : Heap} (X : (hd.heap_1 w.params).In h) : ∃ its, h.IsList 307 its ∧ its.size = 7 ∧ ∀ j, j < 7 → ∃ t, its[j]? = some (.bytes (nm j).toArray t) := by
  have e := X 307 _ (by k_is)
  refine ⟨_, ⟨_, e, rfl, _, rfl⟩, rfl, fun j hj => ?_⟩
  match j, hj with
  | 0, _ => exact ⟨_, rfl⟩
  | 1, _ => exact ⟨_, rfl⟩
  | 2, _ => exact ⟨_, rfl⟩
  | 3, _ => exact ⟨_, rfl⟩
  | 4, _ => exact ⟨_, rfl⟩
  | 5, _ => exact ⟨_, rfl⟩
  | 6, _ => exact ⟨_, rfl⟩
section
variable {dp un : Nat} {gd : Option (List Code)} {env : Env} {outer : List Env} {A₀ : Around} {base h₀ g₀ : Heap} {L : Addr} {m : Str → Option Value} {mean : ExcName → Option Value} {mg mb : Str → Option Value} {w : World} {s : Shared} {Q E : Value → Shared → Prop} {news : List (Addr × Obj)}
variable {R Dd Ad P : Addr} {o : Obj} {kvs : List (List UInt8 × Value)} {H : Nat → Cell} {i1 i2 : Int} {t1 t2 : Tok}
theorem c_same {hv : List Value} {Hl : Addr} {hc : Nat} (B : Below (AA dp un gd outer) base outer h₀) (F : Fr h₀ L s.heap m) (X : (hd.heap_1 w.params).In h₀) (N : News h₀ L s.heap news) (T : Top hd.view_1 loose mean mg mb h₀) (hf : env.frame = some L) (hke : env.scope.kind = .function)
   (hdp : dp + 8 < recursionLimit) (hu : un + 80 < cLine) (hR : (R, instObj 304 Dd) ∈ news) (hD : (Dd, dictOf [⟨i1, .str (Str.ofString "_refs") t1, .ref Ad⟩, ⟨i2, .str (Str.ofString "_peeled") t2, .ref P⟩] 2) ∈ news) (hA : (Ad, o) ∈ news) (hO : o.IsDictOf (bytesKind PG w) kvs) (hAs : (Ad == sysModules) = false) (RK : RefsKV kvs H) (hH : (Hl, W.listOf hv.toArray hc) ∈ news) (hHV : CellsV hv H)
   (hret : ∀ h' tk', Fr h₀ L h' m → News h₀ L h' news → Q (.bool true) { s with heap := h', toks := tk' }) :
   wpAny (model PG w) ((AA dp un gd outer).deeper env) (call (.ref 380) [.ref R, .ref Hl]) Q E s := by
   refine Kf ?_
   simp (disch := (refine @id _ ?_; k_dflt (
    have zF10 := U 10; have zF2 := U 2; have zF3 := U 3; have zF11 := U 11; have zF53 := U 53; have zF41 := U 41; have zF49 := U 49; have zF54 := U 54
    k_extra "M:enterC"
    k_steps
    unfold MStop
    obtain ⟨its, hl, hz, hi⟩ := names_list7 (w := w) (by assumption)
    refine LCg.ListComp_U (F₀ := by k_asm) (by with_unfolding_all rfl) (by decide) (by rfl) (by decide) (by rfl) ?_
    k_steps
    refine .inl ⟨307, its, _, rfl, rfl, by k_asm, by k_asm, .inl hl, by rw [hz]; decide, ?_⟩
    rintro s₂ ⟨h2, rfl⟩
    refine compRest_all (fun i ys => ys.length = i ∧ OctsV H ys) (.inl hl) ?_ ?_ _ 0 [] (Nat.zero_add _) ⟨rfl, fun _ _ h => by simp at h⟩
    · intro i ys v C oC oI D Ia m₂ h tk E' Q' hin hI hP hC hxx F N hq
      rw [hz] at hin
      obtain ⟨tv, e⟩ := hi i hin
      rw [e] at hP
      obtain rfl := Option.some.inj hP
      k_steps
      all_goals (rename OctV _ _ => hov; exact hq _ _ _ ⟨by simp [hI.1], hI.2.snoc hI.1 hov⟩ (by k_asm) (by k_asm))
    · intro ys hI D h tk F N off
      rw [hz] at hI
      have hx1 := hHV.1
      k_steps
      unfold MStop
      refine LCg.ListComp_U (F₀ := by k_asm) (by with_unfolding_all rfl) (by decide) (by rfl) (by decide) (by rfl) ?_
      k_steps
      refine .inl ⟨Hl, hv.toArray, _, rfl, rfl, by k_asm, by k_asm, .inr ⟨_, .tail _ (.tail _ hH), rfl, _, rfl⟩, by simp [hx1, sizeLine_eq], ?_⟩
      rintro s₂ ⟨h2, rfl⟩
      refine compRest_all (fun i ys => ys.length = i ∧ OctsV H ys) (.inr ⟨_, .tail _ (.tail _ hH), rfl, _, rfl⟩) ?_ ?_ _ 0 [] (Nat.zero_add _) ⟨rfl, fun _ _ h => by simp at h⟩
      · intro i ys2 v C oC oI D Ia m₂ h tk E' Q' hin hI2 hP hC hxx F N hq
        have hin : i < 7 := by simpa [hx1] using hin
        obtain ⟨v', e, hcv⟩ := hHV.2 i hin
        have hck := RK.ok i hin
        obtain rfl : v' = v := by
          have hP' : hv[i]? = some v := by simpa using hP
          rw [e] at hP'; exact Option.some.inj hP'
        k_steps
        all_goals (rename OctV _ _ => hov; exact hq _ _ _ ⟨by simp [hI2.1], hI2.2.snoc hI2.1 hov⟩ (by k_asm) (by k_asm))
      · intro us hI2 D2 h tk F N off
        have hI2l : us.length = 7 := by simpa [hx1] using hI2.1
        have hOy := hI.2
        have hOu := hI2.2
        have hOl : ys.length = us.length := by rw [hI2l]; exact hI.1
        k_steps
        all_goals exact hret _ _ (by k_asm) (by k_extra "M:news")))) only [↓Kn]
end
section
variable {prog : Program} {w : World} {A : Around} {E : Value → Shared → Prop} {s : Shared} {env : Env} {h₀ : Heap} {target : PySem.Expr} {body : List Stmt} {Q : Flow → Shared → Prop} {m₀ : Str → Option Value} {news : List (Addr × Obj)}
inductive LGoT (h₀ : Heap) (L : Addr) (I : Addr) (it : Obj) (J : (Str → Option Value) → List (Addr × Obj) → Prop) (g : Array GenState) (d : Drawn) (os : OsState) (f : Flow) (s₂ : Shared) : Prop
  | mk : f = .next → ∀ h' tk m' nx, s₂ = ⟨h', g, d, tk, os⟩ → Fr h₀ L h' m' → News h₀ L h' ((I, it) :: nx) → (∀ p ∈ nx, p.1 ≠ I) → J m' nx → LGoT h₀ L I it J g d os f s₂
def LEndT (h₀ : Heap) (L : Addr) (I : Addr) (it : Obj) (J : (Str → Option Value) → List (Addr × Obj) → Prop) (s : Shared) (f : Flow) (s₂ : Shared) : Prop := LGoT h₀ L I it J s.gens s.drawn s.os f s₂
theorem loopT_core {I : Addr} {fpo : List (Addr × Obj)} {n : Nat} {cn : String} {P : Nat → Value → Prop} {St : Nat → Heap → Prop} (J : Nat → (Str → Option Value) → List (Addr × Obj) → Prop)
    (W : Walks prog w A I (I :: fpo.map (·.1)) [I] n P St) (hL : env.locals ∉ I :: fpo.map (·.1)) (hI : h₀.get? I = none) (hnw : ∀ p ∈ news, p.1 ≠ I) (hst : St 0 s.heap) (hob : ∀ i h, St i h → ∃ it, h.get? I = some it ∧ it.cls = .type cn)
    (hfp : ∀ i m nx, J i m nx → ∀ p ∈ fpo, p ∈ nx)
    (hgo : ∀ i (s' : Shared) v (Q' : Unit → Shared → Prop), St i s'.heap → Q' () s' → wpAny (model prog w) A (letOwnedTupleGo target (.ref I) v) Q' E s')
    (F : Fr h₀ env.locals s.heap m₀) (N : News h₀ env.locals s.heap news) (hj : J 0 m₀ news)
    (turn : ∀ i (it : Obj) v m₁ nx s₁, it.cls = .type cn → i < n → P i v → J i m₁ nx → (∀ p ∈ nx, p.1 ≠ I) → Fr h₀ env.locals s₁.heap m₁ → News h₀ env.locals s₁.heap ((I, it) :: nx) →
      wpAny (model prog w) A (assign target env v) (fun _ s₃ => wpAny (model prog w) A (execs body env) (LEndT h₀ env.locals I it (J (i + 1)) s₁) E s₃) E s₁)
    (done : ∀ m₁ nx h tk, J n m₁ nx → Fr h₀ env.locals h m₁ → News h₀ env.locals h nx → Q .next { s with heap := h, toks := tk }) :
    LoopAtT prog w A h₀ env target body Q E (.ref I) s := by
  refine ⟨I, I :: fpo.map (·.1), [I], n, P, St, m₀, news, J, rfl, W, hL, ?_, ?_, hst, F, N, hgo, hj, ?_, ?_⟩
  · intro b hb
    rw [List.mem_singleton.mp hb]; exact hI
  · intro p hp hm
    exact hnw p hp (List.mem_singleton.mp hm)
  · rintro i v m₁ nx s₁ own hin hP hJ hoff hown hget hall hst' F₁ N₁
    obtain ⟨it, hit, hic⟩ := hob _ _ hst'
    have hoff' : ∀ p ∈ nx, p.1 ≠ I := fun p hp e => hoff p hp (List.mem_singleton.mpr e)
    have hmemI := hall I (List.mem_cons_self ..) hI _ hit
    have N₂ : News h₀ env.locals s₁.heap ((I, it) :: nx) := fun p hp => by
      rcases List.mem_cons.mp hp with rfl | hp
      · exact N₁ _ (List.mem_append_left _ hmemI)
      · exact N₁ _ (List.mem_append_right _ hp)
    refine wpAny_mono (turn i it v m₁ nx s₁ hic hin hP hJ hoff' F₁ N₂) (fun _ s₃ h₃ => wpAny_mono h₃ (fun f s₂ p => ?_) fun _ _ e => e) fun _ _ e => e
    obtain ⟨rfl, h', tk, m', nx', e, F', N', off, r⟩ := p
    refine ⟨rfl, h', tk, m', nx', e, F', fun p hp => ?_, fun p hp hI' => off p hp (List.mem_singleton.mp hI'), r⟩
    rcases List.mem_append.mp hp with hp | hp
    · have h2 : s₁.heap.get? p.1 = some p.2 := hget p hp
      rcases List.mem_cons.mp (hown p hp) with h1 | h1
      · have h3 : p = (I, it) := by
          rw [h1, hit] at h2
          exact Prod.ext h1 (Option.some.inj h2).symm
        rw [h3]; exact N' _ (List.mem_cons_self ..)
      · obtain ⟨q, hq, e1⟩ := List.mem_map.mp h1
        have h3 : p = q := by
          have h4 := (N₁ _ (List.mem_append_right _ (hfp _ _ _ hJ q hq))).1
          rw [e1, h2] at h4
          exact Prod.ext e1.symm (Option.some.inj h4)
        rw [h3]; exact N' _ (List.mem_cons_of_mem _ (hfp _ _ _ r q hq))
    · exact N' _ (List.mem_cons_of_mem _ hp)
  · rintro h' tk m' nx' F' N' _ hJ
    exact done m' nx' h' tk hJ F' N'
theorem loop_listT {ax : Addr} {lo : Obj} {vs : List Value} {n : Nat} (J : Nat → (Str → Option Value) → List (Addr × Obj) → Prop)
    (hh : A.handled = none) (F : Fr h₀ env.locals s.heap m₀) (N : News h₀ env.locals s.heap news) (hm : (ax, lo) ∈ news) (hc : lo.cls = .type "list") (hd : lo.data = .seq vs.toArray n) (hfp : ∀ i m nx, J i m nx → (ax, lo) ∈ nx) (hj : J 0 m₀ news)
    (turn : ∀ i (I : Addr) (it : Obj) v m₁ nx s₁, it.cls = .type "list_iterator" → vs[i]? = some v → J i m₁ nx → (∀ p ∈ nx, p.1 ≠ I) → Fr h₀ env.locals s₁.heap m₁ → News h₀ env.locals s₁.heap ((I, it) :: nx) →
      wpAny (model prog w) A (assign target env v) (fun _ s₃ => wpAny (model prog w) A (execs body env) (LEndT h₀ env.locals I it (J (i + 1)) s₁) E s₃) E s₁)
    (done : ∀ m₁ nx h tk, J vs.length m₁ nx → Fr h₀ env.locals h m₁ → News h₀ env.locals h nx → Q .next { s with heap := h, toks := tk }) :
    wpAny (model prog w) A (pyIter (.ref ax)) (fun it s₂ => LoopAtT prog w A h₀ env target body Q E it s₂) E s := by
  have hax := N _ hm
  have hl : s.heap.IsList ax vs.toArray := ⟨lo, hax.1, hc, n, hd⟩
  have hlt : ax < s.heap.objs.size := Heap.lt_size hax.1
  have hne : ax ≠ s.heap.objs.size := Nat.ne_of_lt hlt
  refine wpAny_pyIter_list hl ?_
  have W := Walks.list (prog := prog) (w := w) hh s.heap.objs.size ax hne vs.toArray
  have hlen : vs.toArray.size = vs.length := by simp
  rw [hlen] at W
  refine loopT_core (cn := "list_iterator") (fpo := [(ax, lo)]) J W ?_ (next_is_new F) (fun p hp => Nat.ne_of_lt (Heap.lt_size (N p hp).1)) ⟨⟨_, Heap.get?_push_size _ rfl, rfl, rfl⟩, hl.at fun o e => Heap.get?_push_of_some _ e⟩ (fun i h st => ?_) (fun i m nx hJ p hp => by rw [List.mem_singleton.mp hp]; exact hfp i m nx hJ)
    (fun i s' v Q' st hQ' => letGo_listiter st.1 hQ') (F.push _) (fun p hp => ⟨Heap.get?_push_of_some _ (N p hp).1, (N p hp).2⟩) hj ?_ ?_
  · intro hmm
    rcases List.mem_cons.mp hmm with e | hmm
    · exact absurd F.ns.lt (e ▸ Nat.lt_irrefl _)
    · exact hax.2.1 (List.mem_singleton.mp hmm).symm
  · obtain ⟨o, ho, hc', _⟩ := st.1
    exact ⟨o, ho, hc'⟩
  · rintro i it v m₁ nx s₁ hic hi hP hJ off F₁ N₁
    exact turn i _ it v m₁ nx s₁ hic (by simpa using hP) hJ off F₁ N₁
  · exact fun m₁ nx h tk => done m₁ nx h tk
theorem loop_rangeT {x : Str} {px : Pos} {r : Addr} {a b c : Int} {t u v : Tok} {n : Nat} (J : Nat → (Str → Option Value) → List (Addr × Obj) → Prop)
    (hh : A.handled = none) (hr : IsRange s.heap r a b c t u v) (hsmall : Builtin.Range.small a b c = true) (hn : Builtin.Range.rangeSize a b c = (n : Int)) (F : Fr h₀ env.locals s.heap m₀) (N : News h₀ env.locals s.heap news) (hj : J 0 m₀ news)
    (turn : ∀ i (I : Addr) (it : Obj) t m₁ nx s₁, it.cls = .type "range_iterator" → i < n → J i m₁ nx → (∀ p ∈ nx, p.1 ≠ I) → Fr h₀ env.locals s₁.heap m₁ → News h₀ env.locals s₁.heap ((I, it) :: nx) →
      wpAny (model prog w) A (assign (.Name x px) env (.int (a + (i : Int) * c) t)) (fun _ s₃ => wpAny (model prog w) A (execs body env) (LEndT h₀ env.locals I it (J (i + 1)) s₁) E s₃) E s₁)
    (done : ∀ m₁ nx h tk, J n m₁ nx → Fr h₀ env.locals h m₁ → News h₀ env.locals h nx → Q .next { s with heap := h, toks := tk }) :
    wpAny (model prog w) A (pyIter (.ref r)) (fun it s₂ => LoopAtT prog w A h₀ env (.Name x px) body Q E it s₂) E s := by
  refine wpAny_pyIter_range hr hsmall ?_
  have W : Walks prog w A s.heap.objs.size [s.heap.objs.size] [s.heap.objs.size] n (fun i v => i < n ∧ ∃ t, v = .int (a + i * c) t)
      (fun i h => IsRangeIter h s.heap.objs.size (a + (i : Nat) * c) ((n : Int) - (i : Nat)) c) := (Walks.range hh _ a c n).bound
  refine loopT_core (fpo := []) J W ?_ (next_is_new F) (fun p hp => Nat.ne_of_lt (Heap.lt_size (N p hp).1)) (by show IsRangeIter _ _ _ _ _; rw [hn]; simpa using Heap.get?_push_size _ rfl) (cn := "range_iterator") (fun i h st => ⟨_, st, rfl⟩) (fun _ _ _ _ _ h => nomatch h) (fun i s' v Q' st hQ' => wpAny_pure hQ') (F.push _)
    (fun p hp => ⟨Heap.get?_push_of_some _ (N p hp).1, (N p hp).2⟩) hj ?_ ?_
  · intro hm
    exact absurd F.ns.lt ((List.mem_singleton.mp hm) ▸ Nat.lt_irrefl _)
  · rintro i it v m₁ nx s₁ hic hi ⟨_, t, rfl⟩ hJ off F₁ N₁
    exact turn i _ it t m₁ nx s₁ hic hi hJ off F₁ N₁
  · exact fun m₁ nx h tk => done m₁ nx h tk
end
inductive DictF (w : World) (o : Obj) (f : Nat → Option Value) : Prop
  | mk : ∀ kvs : List (Int × Value), o.IsDictOf (intKind PG w) kvs → (∀ kv ∈ kvs, ∃ i : Nat, i < 7 ∧ kv.1 = (i : Int)) → (∀ i : Nat, valueAt kvs (i : Int) = f i) → DictF w o f
theorem int_is {w : World} {i : Nat} {t : Tok} : (intKind PG w).is (i : Int) (.int (i : Int) t) = true := by simp [intKind, Value.isInt]
theorem va_cons {K : Type} [DecidableEq K] {a : K} {b : Value} {r : List (K × Value)} {x : K} : valueAt ((a, b) :: r) x = if a = x then some b else valueAt r x := by
  unfold valueAt
  rw [List.find?_cons]
  by_cases z : a = x <;> simp [z]
theorem va_map {K : Type} [DecidableEq K] {kvs : List (K × Value)} {k : K} {v : Value} (x : K) : valueAt (kvs.map fun kv => if kv.1 = k then (kv.1, v) else kv) x = if x = k then (valueAt kvs x).map (fun _ => v) else valueAt kvs x := by
  induction kvs with
  | nil => unfold valueAt; simp
  | cons a r ih =>
    obtain ⟨a, b⟩ := a
    rw [List.map_cons, va_cons]
    by_cases z : a = k
    · subst z
      simp only [if_true]
      rw [va_cons, ih]
      by_cases y : a = x
      · subst y; simp
      · have : ¬ x = a := fun e => y e.symm
        simp [y, this]
    · simp only [if_neg z]
      rw [va_cons, ih]
      by_cases y : a = x
      · subst y; simp [z]
      · simp [y]
theorem va_some {K : Type} [DecidableEq K] {kvs : List (K × Value)} {k : K} : (valueAt kvs k).isSome = kvs.any (fun kv => decide (kv.1 = k)) := by
  induction kvs with
  | nil => rfl
  | cons a r ih =>
    obtain ⟨a, b⟩ := a
    rw [va_cons, List.any_cons, ← ih]
    by_cases z : a = k <;> simp [z]
theorem va_store {K : Type} [DecidableEq K] {kvs : List (K × Value)} {k : K} {v : Value} (x : K) : valueAt (stored kvs k v) x = if x = k then some v else valueAt kvs x := by
  unfold stored
  split
  · rename_i h
    rw [va_map]
    by_cases y : x = k
    · subst y
      have : (valueAt kvs x).isSome = true := by rw [va_some]; exact h
      cases e : valueAt kvs x with
      | none => rw [e] at this; cases this
      | some u => simp
    · simp [y]
  · rename_i h
    have hn : valueAt kvs k = none := by
      have : (valueAt kvs k).isSome = false := by rw [va_some]; exact (Bool.not_eq_true _).mp h
      cases e : valueAt kvs k with
      | none => rfl
      | some u => rw [e] at this; cases this
    unfold valueAt at hn ⊢
    rw [List.find?_append]
    by_cases y : x = k
    · subst y
      have hn' : kvs.find? (fun kv => decide (kv.1 = x)) = none := by simpa using hn
      rw [hn']; simp
    · have : ¬ k = x := fun z => y z.symm
      cases e : kvs.find? (fun kv => decide (kv.1 = x)) <;> simp [y, this]
theorem stored_keys {K : Type} [DecidableEq K] {kvs : List (K × Value)} {k : K} {v : Value} (P : K → Prop) (h : ∀ kv ∈ kvs, P kv.1) (hk : P k) : ∀ kv ∈ stored kvs k v, P kv.1 := by
  intro kv hkv
  unfold stored at hkv
  split at hkv
  · obtain ⟨a, ha, e⟩ := List.mem_map.mp hkv
    split at e <;> (rw [← e]; exact h a ha)
  · rcases List.mem_append.mp hkv with z | z
    · exact h kv z
    · rw [List.mem_singleton.mp z]; exact hk
theorem DictF.len {w : World} {o : Obj} {kvs : List (Int × Value)} (hd : o.IsDictOf (intKind PG w) kvs) (hk : ∀ kv ∈ kvs, ∃ i : Nat, i < 7 ∧ kv.1 = (i : Int)) : kvs.length ≤ 7 := by
  have h1 : ∀ k ∈ kvs.map (·.1), k ∈ (List.range 7).map (fun i : Nat => (i : Int)) := by
    intro k hm
    obtain ⟨kv, hkv, rfl⟩ := List.mem_map.mp hm
    obtain ⟨i, hi, e⟩ := hk _ hkv
    exact List.mem_map.mpr ⟨i, List.mem_range.mpr hi, e.symm⟩
  obtain ⟨_, _, _, _, _, _, nd⟩ := hd
  have := nd.length_le_of_subset (l₂ := (List.range 7).map (fun i : Nat => (i : Int))) h1
  simpa using this
theorem DictF.nil {w : World} {o : Obj} (h : o.IsDictOf (intKind PG w) []) : DictF w o (fun _ => none) := ⟨[], h, (fun _ h => nomatch h), fun _ => rfl⟩
section
variable {w : World} {A : Around} {E : Value → Shared → Prop} {s : Shared} {h₀ : Heap} {L d : Addr} {m : Str → Option Value} {news rest : List (Addr × Obj)} {o : Obj} {f : Nat → Option Value} {i : Nat} {t : Tok}
theorem in_F {r : Bool} {Q : Value → Shared → Prop} (N : News h₀ L s.heap news) (hm : (d, o) ∈ news) (lo : (d == sysModules) = false) (hF : DictF w o f) (hr : (f i).isSome = r) (h : Q (.bool r) { s with toks := s.toks + 1 }) :
    wpAny (model PG w) A (compareOp .In (.int (i : Int) t) (.ref d)) Q E s := by
  obtain ⟨kvs, hd, _, hv⟩ := hF
  exact wpAny_in_of (knd := intKind PG w) int_is lo (dict_at N hm hd).mapOf (by show Q (.bool (valueAt kvs (i : Int)).isSome) _; rw [hv, hr]; exact h)
theorem notin_F {r : Bool} {Q : Value → Shared → Prop} (N : News h₀ L s.heap news) (hm : (d, o) ∈ news) (lo : (d == sysModules) = false) (hF : DictF w o f) (hr : (f i).isSome = r) (h : Q (.bool (!r)) { s with toks := s.toks + 1 }) :
    wpAny (model PG w) A (compareOp .NotIn (.int (i : Int) t) (.ref d)) Q E s := by
  obtain ⟨kvs, hd, _, hv⟩ := hF
  have e : (valueAt kvs (i : Int)).isSome = r := by rw [hv, hr]
  exact kdg_notin (knd := intKind PG w) N hm hd lo int_is r e h
theorem get_F {v : Value} {value slice : PySem.Expr} {Q : Value → Shared → Prop} (N : News h₀ L s.heap news) (hm : (d, o) ∈ news) (hF : DictF w o f) (hr : f i = some v) (h : Q v { s with toks := s.toks + 1 })
    (hs : subscripted slice false (.ref d) (.int (i : Int) t) = operate [.ref d, .int (i : Int) t] (getItem (.ref d) (.int (i : Int) t))) :
    wpAny (model PG w) A (subscriptTail value slice (.ref d) (.int (i : Int) t)) Q E s := by
  obtain ⟨kvs, hd, _, hv⟩ := hF
  exact tail_any (dict_at N hm hd).typeIs slot_dict_getitem.lookup (wpAny_getItem_of (knd := intKind PG w) int_is (dict_at N hm hd).mapOf (by show valueAt kvs (i : Int) = some v; rw [hv, hr]) h) hs
theorem set_F {v : Value} {Q : Unit → Shared → Prop} (F : Fr h₀ L s.heap m) (N : News h₀ L s.heap ((d, o) :: rest)) (hrest : ∀ p ∈ rest, p.1 ≠ d) (hF : DictF w o f) (hi : i < 7)
    (h : ∀ o' h' tk', DictF w o' (fun j => if j = i then some v else f j) → Fr h₀ L h' m → News h₀ L h' ((d, o') :: rest) → Q () { s with heap := h', toks := tk' }) :
    wpAny (model PG w) A (setItem (.ref d) (.int (i : Int) t) v) Q E s := by
  obtain ⟨kvs, hd, hk, hv⟩ := hF
  refine wpAny_setItem_pairs (knd := intKind PG w) int_is (dict_at N (.head _) hd) (fun h' hd' hs => ?_) (Nat.le_trans (DictF.len hd hk) (by decide))
  obtain ⟨o', e, hO'⟩ := Heap.dictOf_iff.mp hd'
  obtain ⟨F', N'⟩ := ledger_swap F N hrest e hs
  refine h o' h' _ ⟨_, hO', stored_keys (fun k => ∃ i : Nat, i < 7 ∧ k = (i : Int)) hk ⟨i, hi, rfl⟩, fun j => ?_⟩ F' N'
  rw [va_store, hv]
  by_cases z : j = i
  · subst z; simp
  · have : ¬ ((j : Int) = (i : Int)) := by omega
    simp [z, this]
end
/-! what follow tells, by rounds -/
theorem fol_up {H : Nat → Cell} : ∀ {d i : Nat} {r : List Nat × Cell}, fol H d i = some r → fol H (d + 1) i = some r := by
  intro d
  induction d with
  | zero => intro i r h
            cases e : H i with
            | none => rw [fol_none e] at h ⊢; exact h
            | some x => rw [fol_zero e] at h; cases h
  | succ d ih =>
    intro i r h
    cases e : H i with
    | none => rw [fol_none e] at h ⊢; exact h
    | some x => cases x with
      | inr c => rw [fol_val e] at h ⊢; exact h
      | inl j =>
        rw [fol_sym e] at h ⊢
        obtain ⟨q, hq, e2⟩ := Option.map_eq_some_iff.mp h
        rw [ih hq]; exact congrArg some e2
theorem fol_le {H : Nat → Cell} {d : Nat} {i : Nat} {r : List Nat × Cell} (h : fol H d i = some r) : ∀ k, fol H (d + k) i = some r
  | 0 => h
  | k + 1 => fol_up (fol_le h k)
theorem fol_stable {H : Nat → Cell} (hok : ∀ i, i < 7 → CellOk (H i)) {d : Nat} (h : ∀ i, i < 7 → fol H d i = none → fol H (d + 1) i = none) : ∀ k i, i < 7 → fol H d i = none → fol H (d + k) i = none := by
  intro k
  induction k with
  | zero => intro i _ h; exact h
  | succ k ih =>
    intro i hi hn
    have h1 := h i hi hn
    cases e : H i with
    | none => rw [fol_none e] at hn; cases hn
    | some x => cases x with
      | inr c => rw [fol_val e] at h1; cases h1
      | inl j =>
        have hj : j < 7 := by have := hok i hi; rw [e] at this; exact this
        rw [fol_sym e] at h1
        show fol H (d + k + 1) i = none
        rw [fol_sym e]
        cases q : fol H d j with
        | some r => rw [q] at h1; cases h1
        | none => rw [ih j hj q]; rfl
theorem fol_end {H : Nat → Cell} : ∀ {d i : Nat} {ks : List Nat} {c : Cell}, fol H d i = some (ks, c) → (c = none ∨ ∃ v, c = some (.inr v)) := by
  intro d
  induction d with
  | zero => intro i ks c h
            cases e : H i with
            | none => rw [fol_none e] at h; cases h; exact .inl rfl
            | some x => rw [fol_zero e] at h; cases h
  | succ d ih =>
    intro i ks c h
    cases e : H i with
    | none => rw [fol_none e] at h; cases h; exact .inl rfl
    | some x => cases x with
      | inr v => rw [fol_val e] at h; cases h; exact .inr ⟨v, rfl⟩
      | inl j =>
        rw [fol_sym e] at h
        obtain ⟨q, hq, e2⟩ := Option.map_eq_some_iff.mp h
        cases e2
        exact ih hq
theorem fol_last {H : Nat → Cell} (hok : ∀ i, i < 7 → CellOk (H i)) : ∀ {d i : Nat} {ks : List Nat} {c : Cell}, i < 7 → fol H d i = some (ks, c) → ks ≠ [] ∧ (∀ k ∈ ks, k < 7) ∧ ks.length ≤ d + 1 ∧ H (ks.getLastD 0) = c := by
  intro d
  induction d with
  | zero => intro i ks c hi h
            cases e : H i with
            | none => rw [fol_none e] at h; cases h; exact ⟨by simp, by simpa using hi, by simp, by simpa using e⟩
            | some x => rw [fol_zero e] at h; cases h
  | succ d ih =>
    intro i ks c hi h
    cases e : H i with
    | none => rw [fol_none e] at h; cases h; exact ⟨by simp, by simpa using hi, by simp, by simpa using e⟩
    | some x => cases x with
      | inr v => rw [fol_val e] at h; cases h; exact ⟨by simp, by simpa using hi, by simp, by simpa using e⟩
      | inl j =>
        have hj : j < 7 := by have := hok i hi; rw [e] at this; exact this
        rw [fol_sym e] at h
        obtain ⟨q, hq, e2⟩ := Option.map_eq_some_iff.mp h
        cases e2
        obtain ⟨a1, a2, a3, a4⟩ := ih hj hq
        refine ⟨by simp, ?_, by simp; omega, ?_⟩
        · intro k hk
          rcases List.mem_cons.mp hk with rfl | hk
          · exact hi
          · exact a2 k hk
        · cases hq1 : q.1 with
          | nil => exact absurd hq1 a1
          | cons z zs => rw [hq1] at a4; simpa using a4
structure KVB (kvs : List (List UInt8 × Value)) (f : Nat → Option (List UInt8)) : Prop where
  nodup : (kvs.map (·.1)).Nodup
  keys : ∀ kv ∈ kvs, ∃ i, i < 7 ∧ kv.1 = nm i
  non : ∀ i, i < 7 → f i = none → valueAt kvs (nm i) = none
  val : ∀ i, i < 7 → ∀ b, f i = some b → ∃ t, valueAt kvs (nm i) = some (.bytes b.toArray t)
theorem RefsKV.toB {kvs : List (List UInt8 × Value)} {H : Nat → Cell} (R : RefsKV kvs H) : KVB kvs (fun i => (H i).map oct) :=
  ⟨R.nodup, fun kv h => by obtain ⟨i, a, b, _⟩ := R.sound kv h; exact ⟨i, a, b⟩, fun i hi h => R.none_ hi (by cases e : H i with
    | none => rfl
    | some x => rw [e] at h; cases h), fun i hi b h => by
    cases e : H i with
    | none => rw [e] at h; cases h
    | some x => rw [e] at h; cases h; exact R.some_ hi e⟩
theorem KVB.congr {kvs : List (List UInt8 × Value)} {f g : Nat → Option (List UInt8)} (R : KVB kvs f) (h : ∀ i, i < 7 → g i = f i) : KVB kvs g :=
  ⟨R.nodup, R.keys, fun i hi e => R.non i hi (by rw [← h i hi]; exact e), fun i hi b e => R.val i hi b (by rw [← h i hi]; exact e)⟩
theorem KVB.nil : KVB [] (fun _ => none) := ⟨List.nodup_nil, (fun _ h => nomatch h), fun _ _ _ => rfl, fun _ _ _ h => nomatch h⟩
theorem KVB.len {kvs : List (List UInt8 × Value)} {f : Nat → Option (List UInt8)} (R : KVB kvs f) : kvs.length ≤ 7 := by
  have h1 : ∀ k ∈ kvs.map (·.1), k ∈ (List.range 7).map nm := by
    intro k hm
    obtain ⟨kv, hkv, rfl⟩ := List.mem_map.mp hm
    obtain ⟨i, hi, e⟩ := R.keys _ hkv
    exact List.mem_map.mpr ⟨i, List.mem_range.mpr hi, e.symm⟩
  have := R.nodup.length_le_of_subset (l₂ := (List.range 7).map nm) h1
  simpa using this
theorem stored_nodup {K : Type} [DecidableEq K] {kvs : List (K × Value)} {k : K} {v : Value} (R : (kvs.map (·.1)).Nodup) : ((stored kvs k v).map (·.1)).Nodup := by
  unfold PySem.stored
  split
  · rw [keys_map_store]; exact R
  · rename_i h
    rw [List.map_append, List.nodup_append]
    refine ⟨R, by simp, ?_⟩
    intro a ha b hb e
    simp only [List.map_cons, List.map_nil, List.mem_singleton] at hb
    obtain ⟨kv, hkv, rfl⟩ := List.mem_map.mp ha
    exact h (List.any_eq_true.mpr ⟨kv, hkv, decide_eq_true (e.trans hb)⟩)
theorem KVB.store {kvs : List (List UInt8 × Value)} {f : Nat → Option (List UInt8)} (R : KVB kvs f) {i : Nat} (hi : i < 7) (b : List UInt8) (t : Tok) : KVB (stored kvs (nm i) (.bytes b.toArray t)) (fun j => if j = i then some b else f j) := by
  refine ⟨stored_nodup R.nodup, stored_keys (fun k => ∃ i, i < 7 ∧ k = nm i) R.keys ⟨i, hi, rfl⟩, fun j hj h => ?_, fun j hj c h => ?_⟩
  · by_cases z : j = i
    · simp [z] at h
    · rw [va_store, if_neg (fun e => z (nm_inj hj hi e))]
      exact R.non j hj (by simpa [z] using h)
  · by_cases z : j = i
    · simp only [z, if_true] at h
      cases h
      rw [va_store, z, if_pos rfl]; exact ⟨t, rfl⟩
    · rw [va_store, if_neg (fun e => z (nm_inj hj hi e))]
      exact R.val j hj c (by simpa [z] using h)
theorem KVB.mem {kvs : List (List UInt8 × Value)} {f : Nat → Option (List UInt8)} (R : KVB kvs f) (k : List UInt8) : k ∈ kvs.map (·.1) ↔ ∃ i, i < 7 ∧ k = nm i ∧ f i ≠ none := by
  constructor
  · intro h
    obtain ⟨kv, hkv, rfl⟩ := List.mem_map.mp h
    obtain ⟨i, hi, e⟩ := R.keys _ hkv
    refine ⟨i, hi, e, fun hn => ?_⟩
    have h1 := R.non i hi hn
    have h2 := mem_valueAt R.nodup (k := kv.1) (v := kv.2) hkv
    rw [e, h1] at h2; cases h2
  · rintro ⟨i, hi, rfl, hf⟩
    cases e : f i with
    | none => exact absurd e hf
    | some b =>
      obtain ⟨t, ht⟩ := R.val i hi b e
      exact List.mem_map.mpr ⟨_, valueAt_mem ht, rfl⟩
theorem KVB.same {ka kb : List (List UInt8 × Value)} {f : Nat → Option (List UInt8)} (R : KVB ka f) (R' : KVB kb f) : ka.length = kb.length := by
  have h : (ka.map (·.1)).Perm (kb.map (·.1)) := (List.perm_ext_iff_of_nodup R.nodup R'.nodup).mpr fun k => by rw [R.mem, R'.mem]
  simpa using h.length_eq
theorem KVB.hits {A : Around} {s : Shared} {ka kb : List (List UInt8 × Value)} {f : Nat → Option (List UInt8)} (R : KVB ka f) (R' : KVB kb f) : ∀ l, (∀ p ∈ l, p ∈ ka) → KeqHits A s kb l true := by
  intro l
  induction l with
  | nil => exact fun _ => .nil
  | cons p l ih =>
    intro h
    obtain ⟨k, v⟩ := p
    have hm := h _ (.head _)
    obtain ⟨i, hi, e⟩ := R.keys _ hm
    have hv := mem_valueAt R.nodup hm
    have e : k = nm i := e
    subst e
    cases hf : f i with
    | none => rw [R.non i hi hf] at hv; cases hv
    | some b =>
      obtain ⟨t, ht⟩ := R.val i hi b hf
      obtain ⟨t', ht'⟩ := R'.val i hi b hf
      rw [ht] at hv
      cases hv
      exact .hit (e := true) (b := true) ht' (fun prog w E Q hq => eqBool_bytes (by simpa using hq)) (ih fun p hp => h p (.tail _ hp))
section
variable {w : World} {A : Around} {E : Value → Shared → Prop} {s : Shared} {h₀ : Heap} {L a b : Addr} {m : Str → Option Value} {news : List (Addr × Obj)} {oa ob : Obj} {ka kb : List (List UInt8 × Value)} {f : Nat → Option (List UInt8)}
theorem ne_dicts {Q : Value → Shared → Prop} (N : News h₀ L s.heap news) (ma : (a, oa) ∈ news) (mb : (b, ob) ∈ news) (ha : (a == sysModules) = false) (hb : (b == sysModules) = false) (da : oa.IsDictOf (bytesKind PG w) ka) (db : ob.IsDictOf (bytesKind PG w) kb)
    (Ra : KVB ka f) (Rb : KVB kb f) (hu : A.units < cLine) (h : Q (.bool false) s) : wpAny (model PG w) A (compareOp .NotEq (.ref a) (.ref b)) Q E s := by
  refine keq_ne (r := true) ha hb (dict_at N ma da) (dict_at N mb db) hu (fun _ => Ra.hits Rb ka fun _ h => h) ?_
  rw [Ra.same Rb]
  simpa using h
theorem set_link {all : List (Addr × Obj)} {i : Nat} {c : List UInt8} {t t' : Tok} {Q : Unit → Shared → Prop} (F : Fr h₀ L s.heap m) (N : News h₀ L s.heap all) (hm : (a, oa) ∈ all) (hO : oa.IsDictOf (bytesKind PG w) ka) (RK : KVB ka f) (hi : i < 7)
    (h : ∀ o' kvs' h' tk', o'.IsDictOf (bytesKind PG w) kvs' → KVB kvs' (fun j => if j = i then some c else f j) → Fr h₀ L h' m → (∀ want : List (Addr × Obj), (∀ p ∈ want, p ∈ all ∧ p.1 ≠ a) → News h₀ L h' ((a, o') :: want)) → Q () { s with heap := h', toks := tk' }) :
    wpAny (model PG w) A (setItem (.ref a) (.bytes (nm i).toArray t) (.bytes c.toArray t')) Q E s := by
  have z := N _ hm
  refine wpAny_setItem_pairs (knd := bytesKind PG w) (k := nm i) (by simpa using bk_is (nm i).toArray t) (dict_at N hm hO) (fun h' hd hs => ?_) (Nat.le_trans RK.len (by decide))
  obtain ⟨o', e, hO'⟩ := Heap.dictOf_iff.mp hd
  refine h o' _ h' _ hO' (RK.store hi c t') (F.change hs z.2.1 z.2.2) (fun want hw p hp => ?_)
  rcases List.mem_cons.mp hp with rfl | hp
  · exact ⟨e, z.2⟩
  · exact ⟨hs.extBut _ _ (hw p hp).2 (N p (hw p hp).1).1, (N p (hw p hp).1).2⟩
end
section
theorem lay_led (t : SetTable) (es : Array (Int × Value)) (h : Int) (x : Value) : (layNew t es h x).2.1.led = t.led ∧ ((layNew t es h x).2.1.plain = true → t.plain = true) := by
  unfold layNew
  split
  · dsimp only
    unfold SetTable.orStandIn
    split
    · exact ⟨rfl, id⟩
    · exact ⟨rfl, fun h => Bool.noConfusion h⟩
  · exact ⟨rfl, fun h => Bool.noConfusion h⟩
theorem relay_led (t : SetTable) (es : Array (Int × Value)) (n : Nat) (hp : t.plain = false) : (relayAll t es n).2.1.led = t.led ∧ (relayAll t es n).2.1.plain = false := by
  unfold relayAll
  split
  · rename_i t' order he
    dsimp only
    split
    · unfold SetTable.relaid SetTable.laid at he
      cases ho : SetTable.layClean (SetTable.sizeAbove n - 1) (es.map (·.1)) with
      | none => rw [ho] at he; cases he
      | some owner =>
        rw [ho] at he
        have he := Option.some.inj he
        have h1 := congrArg Prod.fst he
        rw [← h1]
        exact ⟨rfl, hp⟩
    · exact ⟨rfl, rfl⟩
  · exact ⟨rfl, rfl⟩
end
def SetX (w : World) (o : Obj) (es : Array (Int × Value)) : Prop :=
  ∃ ep t, o.ExactSet ∧ o.data = .set es ep t ∧ t.fits es.size = true ∧ t.led = !(w.params.followText "set-order") ∧ (1 ≤ es.size → t.plain = false)
section
variable {w : World} {A : Around} {E : Value → Shared → Prop} {s : Shared} {a : Addr} {o : Obj} {es : Array (Int × Value)}
theorem put_X {ep : Nat} {t t' : SetTable} {es' : Array (Int × Value)} (ho : s.heap.get? a = some o) (hex : o.ExactSet) (hd : o.data = .set es ep t) (hf : t'.fits es'.size = true) (hl : t'.led = !(w.params.followText "set-order")) (hp : 1 ≤ es'.size → t'.plain = false) :
    ∃ o', (s.heap.update a (Obj.putSet es' t')).get? a = some o' ∧ o' = { o with data := .set es' (ep + 1) t' } ∧ SetX w o' es' := by
  have hg : (s.heap.update a (Obj.putSet es' t')).get? a = some { o with data := .set es' (ep + 1) t' } := by
    have := Heap.get?_update_self (Obj.putSet es' t') ho (by rw [putSet_of es' t' hd]; rfl)
    rw [putSet_of es' t' hd] at this; exact this
  exact ⟨_, hg, rfl, ep + 1, t', hex, rfl, hf, hl, hp⟩
theorem add_X {k : List UInt8} {x : Value} {Q : Bool → Shared → Prop} (ho : s.heap.get? a = some o) (hX : SetX w o es) (hel : ElemsOf (bytesKind PG w) es.toList) (hb : es.size + 1 < scanBound) (hkey : (bytesKind PG w).is k x = true) (hsc : x.scannable = true) (hpk : plainKind x = false)
    (hnew : ∀ e ∈ es.toList, (bytesKind PG w).is k e.2 = false)
    (h : ∀ h' o' es', Heap.SameBut a s.heap h' → h'.get? a = some o' → SetX w o' es' → es'.toList.Perm (es.toList ++ [((bytesKind PG w).hash k, x)]) → Q true { s with heap := h' }) :
    wpAny (model PG w) A (setAddHashed a x ((bytesKind PG w).hash k)) Q E s := by
  obtain ⟨ep, t, hex, hd, hf, hl, hp⟩ := hX
  unfold setAddHashed setAddHashedIn
  refine wpAny_holding (wpAny_bind (wpAny_setState_of ho hd hf ?_))
  dsimp only
  rw [byScan_of hsc (by omega) hel]
  simp only [↓reduceIte]
  unfold setAddByScan
  refine wpAny_bind ?_
  refine wpAny_bind (wpAny_rule ?_)
  refine wpAny_bind (wpAny_setScan_of hkey ho hd hf hel ?_)
  have hr : List.findIdx? (fun e => (bytesKind PG w).is k e.2) es.toList = none := List.findIdx?_eq_none_iff.mpr fun e he => hnew e he
  rw [hr]
  dsimp only
  have hperm := layNew_perm t es ((bytesKind PG w).hash k) x
  have hfits := layNew_fits t es ((bytesKind PG w).hash k) x
  obtain ⟨hled, hpl⟩ := lay_led t es ((bytesKind PG w).hash k) x
  generalize hL : layNew t es ((bytesKind PG w).hash k) x = Lx at hperm hfits hled hpl ⊢
  obtain ⟨es1, t1, wasDummy, gave⟩ := Lx
  dsimp only at hperm hfits hled hpl ⊢
  rw [Array.toList_push] at hperm
  have hgw : ∀ (b : Bool) {s₁ : Shared} {Q' : Unit → Shared → Prop}, Q' () s₁ → wpAny (model PG w) A (match b with | true => rule "set.scan.the-table-gave-way" | false => pure ()) Q' E s₁ :=
    fun b s₁ Q' hq => by cases b <;> first | exact wpAny_pure hq | exact wpAny_rule hq
  have hb1 : es1.size < scanBound := by rw [← Array.length_toList, hperm.length_eq, List.length_append, Array.length_toList]; simpa using hb
  refine wpAny_bind (hgw _ ?_)
  have tail : ∀ t2 : SetTable, t2.fits es1.size = true → t2.led = t.led → t2.plain = false → wpAny (model PG w) A (do
        storeSet a es1 t2
        if (!wasDummy && t2.tooFull) = true then do
            (match (relayAll t2 es1 (SetTable.grown es1.size)).2.2 with | true => rule "set.scan.the-table-gave-way" | false => pure ())
            storeSet a (relayAll t2 es1 (SetTable.grown es1.size)).1 (relayAll t2 es1 (SetTable.grown es1.size)).2.1
            pure (some true)
          else pure (some true)) (fun r s' => r = some true ∧ Q true s') E s := by
    intro t2 f2 l2 p2
    refine wpAny_bind (wpAny_storeSet_of ho hd ?_ (fits_of_scanBound hb1))
    obtain ⟨o1, ho1, rfl, hX1⟩ := put_X (w := w) (es' := es1) (t' := t2) ho hex hd f2 (l2.trans hl) (fun _ => p2)
    have hsb1 := Heap.SameBut.update s.heap a (Obj.putSet es1 t2)
    split
    · have hq := relayAll_perm t2 es1 (SetTable.grown es1.size)
      have hfr := relayAll_fits t2 es1 (SetTable.grown es1.size)
      obtain ⟨r1, r2⟩ := relay_led t2 es1 (SetTable.grown es1.size) p2
      generalize hRl : relayAll t2 es1 (SetTable.grown es1.size) = Rl at hq hfr r1 r2 ⊢
      obtain ⟨es2, t3, gave2⟩ := Rl
      dsimp only at hq hfr r1 r2 ⊢
      have hsz : es2.size = es1.size := by rw [← Array.length_toList, hq.length_eq, Array.length_toList]
      have hb2 : es2.size < scanBound := by rw [hsz]; exact hb1
      refine wpAny_bind (hgw _ ?_)
      refine wpAny_bind (wpAny_storeSet_of ho1 rfl ?_ (fits_of_scanBound hb2))
      obtain ⟨o2, ho2, rfl, hX2⟩ := put_X (w := w) (s := { s with heap := s.heap.update a (Obj.putSet es1 t2) }) (es' := es2) (t' := t3) ho1 hex rfl hfr ((r1.trans l2).trans hl) (fun _ => r2)
      exact wpAny_pure ⟨rfl, h _ _ es2 (hsb1.trans (Heap.SameBut.update _ a _)) ho2 hX2 (hq.trans hperm)⟩
    · exact wpAny_pure ⟨rfl, h _ _ es1 hsb1 ho1 hX1 hperm⟩
  split
  · refine wpAny_bind ?_
    rw [hashByValue_scannable 8 hsc, hpk]
    refine wpAny_pure ?_
    refine wpAny_mono (tail { t1 with plain := false } (SetTable.fits_plain_off hfits) hled rfl) (fun r s' hq => ?_) fun _ _ e => e
    obtain ⟨rfl, hq⟩ := hq
    exact wpAny_pure hq
  · rename_i hnp
    refine wpAny_bind (wpAny_pure ?_)
    simp only [↓reduceIte]
    refine wpAny_mono (tail t1 hfits hled (by simpa using hnp)) (fun r s' hq => ?_) fun _ _ e => e
    obtain ⟨rfl, hq⟩ := hq
    exact wpAny_pure hq
end
def EsOf (w : World) (es : Array (Int × Value)) (ks : List (List UInt8)) : Prop :=
  (∀ e ∈ es.toList, ∃ k ∈ ks, ∃ t, e = ((bytesKind PG w).hash k, .bytes k.toArray t)) ∧ (∀ k ∈ ks, ∃ e ∈ es.toList, ∃ t, e.2 = .bytes k.toArray t) ∧ es.size = ks.length
theorem EsOf.elems {w : World} {es : Array (Int × Value)} {ks : List (List UInt8)} (h : EsOf w es ks) : ElemsOf (bytesKind PG w) es.toList := fun e he => by
  obtain ⟨k, _, t, rfl⟩ := h.1 e he
  exact ⟨⟨k, by simpa using bk_is (prog := PG) (w := w) k.toArray t, rfl⟩, rfl⟩
theorem EsOf.add {w : World} {es es' : Array (Int × Value)} {ks : List (List UInt8)} {k : List UInt8} {t : Tok} (h : EsOf w es ks) (p : es'.toList.Perm (es.toList ++ [((bytesKind PG w).hash k, .bytes k.toArray t)])) : EsOf w es' (ks ++ [k]) := by
  refine ⟨fun e he => ?_, fun j hj => ?_, ?_⟩
  · rcases List.mem_append.mp (p.mem_iff.mp he) with z | z
    · obtain ⟨j, hj, u, e1⟩ := h.1 e z
      exact ⟨j, List.mem_append_left _ hj, u, e1⟩
    · rw [List.mem_singleton.mp z]
      exact ⟨k, by simp, t, rfl⟩
  · rcases List.mem_append.mp hj with z | z
    · obtain ⟨e, he, u, e1⟩ := h.2.1 j z
      exact ⟨e, p.mem_iff.mpr (List.mem_append_left _ he), u, e1⟩
    · rw [List.mem_singleton.mp z]
      exact ⟨_, p.mem_iff.mpr (List.mem_append_right _ (List.mem_singleton.mpr rfl)), t, rfl⟩
  · have := p.length_eq
    simp only [Array.length_toList, List.length_append, List.length_singleton] at this
    rw [this, h.2.2]; simp
theorem isBytes_eq {k : List UInt8} {v : Value} (h : isBytes k v = true) : ∃ t, v = .bytes k.toArray t := isBytes_shape h
section
variable {w : World} {A : Around} {R : Result → Shared → Prop} {S I d : Addr} {kvs : List (List UInt8 × Value)} {ep : Nat}
theorem update_X (hh : A.in1.handled = none) (hdI : d ≠ I) (hSI : S ≠ I) (hSd : S ≠ d) (hn : (kvs.map (·.1)).Nodup) (hlen : kvs.length ≤ 100) :
    ∀ (k i : Nat) (s : Shared) (o : Obj) (es : Array (Int × Value)), kvs.length - i = k → i ≤ kvs.length → s.heap.IsKeyIter I d i kvs.length ep → s.heap.DictAt (bytesKind PG w) d kvs ep → s.heap.get? S = some o → SetX w o es → EsOf w es ((kvs.map (·.1)).take i) →
      (∀ h' tk o' es', h'.get? S = some o' → SetX w o' es' → EsOf w es' (kvs.map (·.1)) → (∀ b ob, b ≠ S → b ≠ I → s.heap.get? b = some ob → h'.get? b = some ob) → R (.ok (.ret .none)) { s with heap := h', toks := tk }) →
      codeAny (model PG w) A (.builtin "set.update.loop" ⟨[.ref S, .ref I], []⟩) R s := by
  have W := Walks.dictKeys (prog := PG) (w := w) (knd := bytesKind PG w) hh I d hdI kvs ep
  intro k
  induction k with
  | zero =>
    intro i s o es hk hi hit hd ho hX hE hR
    have hin : i = kvs.length := by omega
    subst hin
    refine codeAny_builtin F.entry_set_update_loop ?_
    rw [Around.under_plainId F.plain_set_update_loop _]
    show wpAny _ A.in1 (pyNext (.ref I) >>= _) _ _ s
    refine wpAny_bind (W.done s _ _ ⟨hit, hd⟩ fun h' tk hk' => ?_)
    show wpAny _ A.in1 (ret Value.none) _ _ _
    refine wpAny_pure (hR h' tk o es (hk' S o (by simpa using hSI) ho) hX (by rwa [List.take_of_length_le (by simp)] at hE) fun b ob _ hb e => hk' b ob (by simpa using hb) e)
  | succ k ih =>
    intro i s o es hk hi hit hd ho hX hE hR
    have hlt : i < kvs.length := by omega
    refine codeAny_builtin F.entry_set_update_loop ?_
    rw [Around.under_plainId F.plain_set_update_loop _]
    show wpAny _ A.in1 (pyNext (.ref I) >>= _) _ _ s
    refine wpAny_bind (W.item i s _ _ hlt ⟨hit, hd⟩ fun v h' tk hP hst hk' => ?_)
    obtain ⟨key, x, hkx, hkey⟩ := hP
    obtain ⟨t, rfl⟩ := isBytes_eq (k := key) hkey
    have ho' := hk' S o (by simpa using hSI) ho
    show wpAny _ A.in1 (holding [Value.bytes key.toArray t] (setAdd S (.bytes key.toArray t)) >>= _) _ _ _
    refine wpAny_bind (wpAny_holding ?_)
    unfold setAdd
    refine wpAny_holding ?_
    refine wpAny_bind ((bytesKind PG w).pyHash (k := key) hkey ?_)
    have hkey_i : (kvs.map (·.1))[i]? = some key := by simp [hkx]
    have hnew : ∀ e ∈ es.toList, (bytesKind PG w).is key e.2 = false := fun e he => by
      obtain ⟨j, hj, u, rfl⟩ := hE.1 e he
      cases q : (bytesKind PG w).is key (Value.bytes j.toArray u) with
      | false => rfl
      | true =>
        have : j = key := (bytesKind PG w).inj _ j key (by simpa using bk_is (prog := PG) (w := w) j.toArray u) q
        subst this
        obtain ⟨p, hp, e2⟩ := List.mem_take_iff_getElem.mp hj
        have h1 : (kvs.map (·.1))[p]? = some j := by rw [List.getElem?_eq_getElem (by omega), e2]
        have hp' : p < i := by omega
        have := (List.getElem?_inj (by simp; omega) hn).mp (h1.trans hkey_i.symm)
        omega
    refine add_X (s := { ({ s with heap := h', toks := tk } : Shared) with toks := tk + 1 }) (k := key) ho' hX hE.elems (by have := hE.2.2; simp at this; unfold scanBound; omega) hkey rfl rfl hnew fun h2 o2 es2 hs2 ho2 hX2 hp2 => ?_
    have hE2 := hE.add hp2
    rw [show (kvs.map (·.1)).take i ++ [key] = (kvs.map (·.1)).take (i + 1) from by rw [List.take_add_one, hkey_i]; rfl] at hE2
    refine wpAny_pure ⟨plainId_quiet F.plain_set_update_loop _, ih (i + 1) _ o2 es2 (by omega) hlt (hst.1.at fun ob e => by rw [hs2.2 I (fun z => hSI z.symm)]; exact e) (hst.2.at' fun ob e => by rw [hs2.2 d (fun z => hSd z.symm)]; exact e) ho2 hX2 hE2 fun h3 tk3 o3 es3 a1 a2 a3 a4 => ?_⟩
    refine hR h3 tk3 o3 es3 a1 a2 a3 fun b ob hb1 hb2 e => a4 b ob hb1 hb2 ?_
    show h2.get? b = some ob
    rw [hs2.2 b hb1]
    exact hk' b ob (by simpa using hb2) e
end
theorem sub_keys_set : isSubtype (.type "dict_keys") (.type "set") = pure false := by rw [isSubtype_type]; kernel_rfl
theorem sub_keys_frozenset : isSubtype (.type "dict_keys") (.type "frozenset") = pure false := by rw [isSubtype_type]; kernel_rfl
section
variable {w : World} {A : Around} {E : Value → Shared → Prop} {s : Shared}
theorem new_X (a : Value) {Q₁ : Value → Shared → Prop}
    (h : Q₁ (.ref s.heap.objs.size) { s with heap := s.heap.push { cls := .type "set", dict := none, data := .set #[] 0 (.fresh 0 0 (!(w.params.followText "set-order"))) } }) :
    codeAny (model PG w) A (.call (.builtin "set.__new__") ⟨[.type "set", a], []⟩) (wants Q₁ E) s := by
  refine codeAny_of_tree ?_
  show wpAny _ A.in1 (do checkBuiltinCall "set.__new__" ⟨[.type "set", a], []⟩; again (.builtin "set.__new__" ⟨[.type "set", a], []⟩)) _ _ s
  refine wpAny_bind (wpAny_of_eq (F.newCall_set_1 a) (wpAny_pure ⟨plainId_quiet F.plain_set_new _, codeAny_builtin F.entry_set_new ?_⟩))
  rw [Around.under_plainId F.plain_set_new _]
  unfold Builtin.«set.__new__» Builtin.Frozenset.newClass
  have hsub := sub_set_self
  obtain ⟨hp, g, d, tk, os⟩ := s
  dsimp only
  repeat k_extra "W"
  refine wpAny_askSetting (wpAny_pure ?_)
  dsimp only
  simp only [newObj]
  refine wpAny_bind (wpAny_alloc (wpAny_pure ?_))
  exact wpAny_pure h
set_option maxRecDepth 100000 in
theorem call_set_keys {v d : Addr} {kvs : List (List UInt8 × Value)} {ep : Nat} {Q : Value → Shared → Prop}
    (hh : A.handled = none) (hv : KdlKeysView s.heap v d) (hd : s.heap.DictAt (bytesKind PG w) d kvs ep) (hn : (kvs.map (·.1)).Nodup) (hlen : kvs.length ≤ 100)
    (h : ∀ (h' : Heap) (tk : Nat) o es, h'.get? s.heap.objs.size = some o → SetX w o es → EsOf w es (kvs.map (·.1)) →
      (∀ b ob, b < s.heap.objs.size → s.heap.get? b = some ob → h'.get? b = some ob) → Q (.ref s.heap.objs.size) { s with heap := h', toks := tk }) :
    wpAny (model PG w) A (call (.type "set") [.ref v]) Q E s := by
  obtain ⟨c, tl, hmro⟩ := F.called_set.mro
  have hmade := F.called_set.made
  have hsub := F.called_set.sub
  refine wpAny_call (codeAny_of_tree ?_)
  show wpAny _ _ (callAny (.type "set") _) _ _ _
  refine wpAny_pure ⟨Code.quiet_builtin _ (by decide +kernel), codeAny_builtin F.entry_type_call ?_⟩
  rw [Around.under_plain (weight_type_call_type "set" [.ref v] []) rfl]
  have h1 := F.called_set.notType
  have h2 := F.called_set.canCreate
  have hct := F.typeCall_set_1 (.ref v)
  iterate 15 (any_goals (first | assumption | k_extra "W"))
  refine codeAny_mono (new_X (.ref v) (E := E) (Q₁ := fun obj s₁ => obj = .ref s.heap.objs.size ∧ s₁ = { s with heap := s.heap.push { cls := .type "set", dict := none, data := .set #[] 0 (.fresh 0 0 (!(w.params.followText "set-order"))) } }) ⟨rfl, rfl⟩) fun r s₁ hr => ?_
  cases r with
  | error e => exact hr
  | ok fl =>
    cases fl with
    | ret obj =>
      obtain ⟨rfl, rfl⟩ := hr
      generalize hled : (!(w.params.followText "set-order")) = led at *
      have hS : (s.heap.push { cls := .type "set", dict := none, data := .set #[] 0 (.fresh 0 0 led) }).get? s.heap.objs.size = some { cls := .type "set", dict := none, data := .set #[] 0 (.fresh 0 0 led) } := Heap.get?_push_size _ rfl
      have hT : Shared.TypeIs { s with heap := s.heap.push { cls := .type "set", dict := none, data := .set #[] 0 (.fresh 0 0 led) } } (.ref s.heap.objs.size) "set" := ⟨_, hS, rfl⟩
      have hli := F.called_set.init.lookup
      have hbi := F.called_set.init.bind (.ref s.heap.objs.size)
      iterate 13 (any_goals (first | assumption | k_extra "W"))
      refine codeAny_mono (codeAny_call_builtin (R := wants (fun r s₂ => r = .none ∧ ∃ h' tk o es, s₂ = { s with heap := h', toks := tk } ∧ h'.get? s.heap.objs.size = some o ∧ SetX w o es ∧ EsOf w es (kvs.map (·.1)) ∧
          (∀ b ob, b < s.heap.objs.size → s.heap.get? b = some ob → h'.get? b = some ob)) E) F.called_set.init.plain F.entry_set_init (check_set_init_1 hT ?_)) fun r₂ s₂ hr₂ => ?_
      · obtain ⟨ol, hol, hcl, hdl⟩ := id hv
        obtain ⟨ocls, odict, odata, oslots⟩ := ol
        simp only at hcl hdl
        subst hcl; subst hdl
        have hol' : (s.heap.push { cls := .type "set", dict := none, data := .set #[] 0 (.fresh 0 0 led) }).get? v = some { cls := .type "dict_keys", dict := odict, data := .fields #[.ref d], slots := oslots } := Heap.get?_push_of_some _ hol
        have hsls := sub_keys_set
        have hslf := sub_keys_frozenset
        have hne : (Value.type "dict_keys" == Value.type "dict") = false := by decide
        have hv1 : KdlKeysView (s.heap.push { cls := .type "set", dict := none, data := .set #[] 0 (.fresh 0 0 led) }) v d := ⟨_, hol', rfl, rfl⟩
        have hd1 := hd.push { cls := .type "set", dict := none, data := .set #[] 0 (.fresh 0 0 led) }
        unfold Builtin.«set.__init__» noKeywords Builtin.Frozenset.updateFrom
        generalize hPI : pyIter = PI
        repeat k_extra "W"
        subst hPI
        refine kdl_pyIter_keys hv1 hd1 ?_
        refine wpAny_bind (wpAny_runValue ?_)
        have hdS : d < s.heap.objs.size := hd.lt_size
        have hsz : (s.heap.push { cls := .type "set", dict := none, data := .set #[] 0 (.fresh 0 0 led) }).objs.size = s.heap.objs.size + 1 := Heap.size_push ..
        have hI0 : ((s.heap.push { cls := .type "set", dict := none, data := .set #[] 0 (.fresh 0 0 led) }).push { cls := .type "dict_keyiterator", data := .fields #[.ref d, .int 0 0, .int kvs.length 0, .int ep 0] }).get? s.heap.objs.size
              = some { cls := .type "set", dict := none, data := .set #[] 0 (.fresh 0 0 led) } := Heap.get?_push_of_some _ hS
        refine update_X (S := s.heap.objs.size) (d := d) (kvs := kvs) (ep := ep) (by simp [hh]) (by rw [hsz]; exact Nat.ne_of_lt (Nat.lt_succ_of_lt hdS)) (by rw [hsz]; exact Nat.ne_of_lt (Nat.lt_succ_self _)) (Nat.ne_of_gt hdS) hn hlen (kvs.length - 0) 0 _ _ #[] rfl (Nat.zero_le _) ⟨_, Heap.get?_push_size _ rfl, rfl, rfl⟩ (hd1.push _) hI0
          ⟨0, _, ⟨rfl, rfl, rfl⟩, rfl, rfl, hled.symm, fun hc => absurd hc (by simp)⟩ ⟨fun e he => by simp at he, fun k hk => by simp at hk, by simp⟩ fun h' tk o es a1 a2 a3 a4 => ?_
        show wpAny _ _ _ _ _ _
        refine wpAny_pure ?_
        show wpAny _ _ (ret Value.none) _ _ _
        refine wpAny_pure ⟨rfl, h', tk, o, es, rfl, a1, a2, a3, fun b ob hb e => a4 b ob (Nat.ne_of_lt hb) (by rw [hsz]; exact Nat.ne_of_lt (Nat.lt_succ_of_lt hb)) (Heap.get?_push_of_some _ (Heap.get?_push_of_some _ e))⟩
      · cases r₂ with
        | error e => exact hr₂
        | ok fl₂ =>
          cases fl₂ with
          | ret r =>
            obtain ⟨rfl, h', tk, o, es, rfl, a1, a2, a3, a4⟩ := hr₂
            iterate 5 (any_goals (first | assumption | k_extra "W"))
            exact h _ _ o es a1 a2 a3 a4
          | _ => exact hr₂.elim
    | _ => exact hr.elim
end
theorem choose_any {M : Model} {A : Around} {E : Value → Shared → Prop} {s : Shared} {src : Source} {n : Nat} {Q : Nat → Shared → Prop} (hn : n ≠ 0) (h : ∀ i, i < n → Q i { s with drawn := s.drawn.bump src }) : wpAny M A (choose src n) Q E s :=
  fun _ _ _ => ⟨hn, h _ (Nat.mod_lt _ (Nat.pos_of_ne_zero hn))⟩
theorem perm_erase {α : Type} : ∀ (l : List α) (i : Nat) (h : i < l.length), (l[i] :: l.eraseIdx i).Perm l
  | x :: r, 0, _ => by simp
  | x :: r, i + 1, h => by
    have hi : i < r.length := by simpa using h
    simp only [List.getElem_cons_succ, List.eraseIdx_cons_succ]
    exact (List.Perm.swap x _ _).trans ((perm_erase r i hi).cons x)
theorem draw_order {α : Type} {M : Model} {A : Around} {E : Value → Shared → Prop} : ∀ (n : Nat) (xs : List α) (s : Shared) (Q : List α → Shared → Prop), xs.length = n → (∀ ys dr, ys.Perm xs → Q ys { s with drawn := dr }) → wpAny M A (drawOrder n xs) Q E s
  | 0, xs, s, Q, hl, h => by
    have : xs = [] := List.eq_nil_of_length_eq_zero hl
    subst this
    unfold drawOrder
    exact wpAny_pure (h [] s.drawn .nil)
  | n + 1, [], s, Q, hl, h => by simp at hl
  | n + 1, x :: r, s, Q, hl, h => by
    unfold drawOrder
    refine wpAny_bind (choose_any (by simp) fun i hi => ?_)
    have hg : (x :: r)[i]? = some (x :: r)[i] := List.getElem?_eq_getElem hi
    rw [hg]
    dsimp only
    refine wpAny_bind (draw_order n _ _ _ (by rw [List.length_eraseIdx, if_pos hi]; simp at hl ⊢; omega) fun ys dr hp => ?_)
    refine wpAny_pure (h _ dr ?_)
    refine (hp.cons _).trans ?_
    exact perm_erase _ _ hi
theorem pick_go {α : Type} (next : Nat → Nat) : ∀ (fuel k : Nat) (left : List α) (out : Array α), left.length = fuel → (pickOrder.go next fuel k left out).toList.Perm (out.toList ++ left)
  | 0, k, left, out, hl => by
    have : left = [] := List.eq_nil_of_length_eq_zero hl
    subst this
    unfold pickOrder.go
    simp
  | fuel + 1, k, left, out, hl => by
    unfold pickOrder.go
    have hi : next k % left.length < left.length := Nat.mod_lt _ (by omega)
    rw [List.getElem?_eq_getElem hi]
    dsimp only
    refine (pick_go next fuel (k + 1) _ _ (by rw [List.length_eraseIdx, if_pos hi]; omega)).trans ?_
    rw [Array.toList_push, List.append_assoc]
    exact List.Perm.append_left _ (perm_erase _ _ hi)
theorem pick_perm {α : Type} (next : Nat → Nat) (xs : Array α) : (pickOrder next xs).toList.Perm xs.toList := by
  have := pick_go next xs.size 0 xs.toList #[] (by simp)
  simpa [pickOrder] using this
section
open KBw
theorem slot_snext : Slot "set_iterator" "__next__" "set_iterator.__next__" :=
  .of (owner := "set_iterator") (n := "__next__") (by rw [typeLookup_type, builtinLookup_eq_fast]; kernel_rfl) (by decide +kernel) (by decide +kernel) (by decide +kernel)
    (by first | exact .inl (by decide +kernel) | exact .inr (by decide +kernel)) (by rw [isSubtype_type]; kernel_rfl)
theorem entry_snext : entryFor table "set_iterator.__next__" = some Builtin.«set_iterator.__next__» := entryFor_of_tree (by kernel_rfl)
theorem args_snext (a : Value) : argsOk "set_iterator.__next__" ⟨[a], []⟩ := by unfold argsOk; kernel_rfl
theorem entry_siter : entryFor table "set.__iter__" = some Builtin.«frozenset.__iter__» := entryFor_alias (id' := "frozenset.__iter__") (by rw [fastTable_eq_tree]; kernel_rfl) rfl (by decide +kernel) (by rw [fastTable_eq_tree]; kernel_rfl)
end
inductive ItA (h : Heap) (T : Addr) (es : Array (Int × Value)) (ord : List Value) (f0 : Value) : Prop
  | mk : ∀ pl : List Nat, pl.Perm (List.range es.size) → IsTup h T (pl.map fun p : Nat => rawInt p).toArray → f0 = .ref T → ord = pl.filterMap (fun p => es[p]?.map (·.2)) → ItA h T es ord f0
inductive ItB (w : World) (S : Addr) (ep : Nat) (es : Array (Int × Value)) (ord : List Value) (f0 : Value) : Prop
  | mk : w.params.followText "set-order" = true → f0 = .int 0 0 → ord = (pickOrder (w.params.setOrder S ep) es).toList.map (·.2) → ItB w S ep es ord f0
inductive ItC (w : World) (t : SetTable) (es : Array (Int × Value)) (ord : List Value) (f0 : Value) (i : Nat) : Prop
  | mk : w.params.followText "set-order" = false → t.led = true → es.size ≤ 1 → ord = es.toList.map (·.2) → ∀ slot : Nat, f0 = .int (slot : Int) 0 → (i = 0 → slot = 0) → (1 ≤ i → ∀ j, t.place[0]? = some j → slot = j + 1) → ItC w t es ord f0 i
inductive ItX (w : World) (h : Heap) (I S T : Addr) (o : Obj) (es : Array (Int × Value)) (ord : List Value) (i : Nat) : Prop
  | mk : h.get? S = some o → ∀ ep t oi f0, o.ExactSet → o.data = .set es ep t → t.fits es.size = true → h.get? I = some oi → oi.cls = .type "set_iterator" → oi.data = .fields #[f0, .int (i : Int) 0, .ref S, .int (es.size : Int) 0, .int (ep : Int) 0] →
      ItA h T es ord f0 ∨ ItB w S ep es ord f0 ∨ ItC w t es ord f0 i → ItX w h I S T o es ord i
section
variable {w : World} {A : Around} {E : Value → Shared → Prop} {s : Shared} {S : Addr} {o : Obj} {es : Array (Int × Value)}
theorem iter_X {Q : Value → Shared → Prop} (ho : s.heap.get? S = some o) (hX : SetX w o es) (hlen : es.size ≤ 100)
    (h : ∀ I T h' dr ord, ord.Perm (es.toList.map (·.2)) → ItX w h' I S T o es ord 0 → (∀ b ob, s.heap.get? b = some ob → h'.get? b = some ob) → s.heap.objs.size ≤ I → (∃ to, h'.get? T = some to ∧ ((T = S ∧ to = o) ∨ (s.heap.objs.size ≤ T ∧ to.cls = .type "tuple"))) → T ≠ I → Q (.ref I) { s with heap := h', drawn := dr }) :
    wpAny (model PG w) A (pyIter (.ref S)) Q E s := by
  obtain ⟨ep, t, hex, hd, hf, hl, hp⟩ := id hX
  have hT : s.TypeIs (.ref S) "set" := ⟨o, ho, hex.1⟩
  refine wpAny_pyIter_slot hT F.slot_set_iter (wpAny_call_entry F.slot_set_iter hT entry_siter ?_ (F.args_set_iter_1 _))
  show wpAny _ _ (Builtin.Frozenset.slot0 "__iter__" ⟨[.ref S], []⟩ >>= _) _ _ s
  refine wpAny_bind (wpAny_of_eq (a := S) rfl ?_)
  unfold Builtin.Frozenset.sizeOf setEntries
  refine wpAny_bind (wpAny_bind (wpAny_bind (wpAny_setState_of ho hd hf (wpAny_pure (wpAny_pure ?_)))))
  unfold setDrawn setsByText
  refine wpAny_bind (wpAny_bind (wpAny_setState_of ho hd hf (wpAny_bind (wpAny_bind (wpAny_askSetting (wpAny_pure (wpAny_pure ?_)))))))
  show wpAny _ _ (if (!(w.params.followText "set-order") && (!t.plain && decide (es.size > 1))) = true then _ else _) _ _ _
  have hn : ∀ {h1 : Heap}, h1.get? S = some o → ∀ (s1 : Shared) (Q1 : Nat → Shared → Prop), s1.heap = h1 → Q1 ep s1 → wpAny (model PG w) A.in1 (setEpoch S) Q1 E s1 := fun {h1} e1 s1 Q1 e2 hq => by
    subst e2
    exact wpAny_setEpoch_of e1 hd hf hq
  by_cases hc : (!(w.params.followText "set-order") && (!t.plain && decide (es.size > 1))) = true
  · rw [if_pos hc]
    have hbt : w.params.followText "set-order" = false := by
      cases e : w.params.followText "set-order" with
      | false => rfl
      | true => rw [e] at hc; simp at hc
    refine wpAny_bind (draw_order es.size (List.range es.size) s _ (by simp) fun pl dr hpl => ?_)
    refine wpAny_bind (wpAny_newTuple ?_ (by rw [List.length_map, hpl.length_eq]; simp; exact Nat.le_trans hlen (by decide)))
    refine wpAny_bind (hn (h1 := s.heap.push { cls := .type "tuple", data := .seq (pl.map fun i : Nat => rawInt i).toArray }) (Heap.get?_push_of_some _ ho) _ _ rfl ?_)
    refine wpAny_bind (wpAny_newObj_type ?_)
    have hsz : (s.heap.push { cls := .type "tuple", data := .seq (pl.map fun i : Nat => rawInt i).toArray }).objs.size = s.heap.objs.size + 1 := Heap.size_push ..
    refine wpAny_pure ⟨_, rfl, "set_iterator", _, ⟨_, Heap.get?_push_size _ rfl, rfl⟩, slot_snext.lookup, ?_⟩
    refine h _ s.heap.objs.size _ dr (pl.filterMap (fun p => es[p]?.map (·.2))) ?_ ⟨Heap.get?_push_of_some _ (Heap.get?_push_of_some _ ho), ep, t, _, _, hex, hd, hf, Heap.get?_push_size _ rfl, rfl, rfl, .inl ⟨pl, hpl, ⟨_, Heap.get?_push_of_some _ (Heap.get?_push_size _ rfl), rfl, _, rfl⟩, rfl, rfl⟩⟩ (fun b ob e => Heap.get?_push_of_some _ (Heap.get?_push_of_some _ e)) (by rw [hsz]; exact Nat.le_succ _) ⟨_, Heap.get?_push_of_some _ (Heap.get?_push_size _ rfl), .inr ⟨Nat.le_refl _, rfl⟩⟩ (by rw [hsz]; exact Nat.ne_of_lt (Nat.lt_succ_self _))
    refine (hpl.filterMap _).trans (List.Perm.of_eq ?_)
    have := filterMap_getElem?_range es
    rw [← List.map_filterMap, this]
  · rw [if_neg hc]
    refine wpAny_bind (wpAny_pure ?_)
    refine wpAny_bind (hn (h1 := s.heap) ho _ _ rfl ?_)
    refine wpAny_bind (wpAny_newObj_type ?_)
    refine wpAny_pure ⟨_, rfl, "set_iterator", _, ⟨_, Heap.get?_push_size _ rfl, rfl⟩, slot_snext.lookup, ?_⟩
    have hSlt : S < s.heap.objs.size := Heap.lt_size ho
    cases hbt : w.params.followText "set-order" with
    | true =>
      exact h _ S _ s.drawn _ ((pick_perm _ _).map _) ⟨Heap.get?_push_of_some _ ho, ep, t, _, _, hex, hd, hf, Heap.get?_push_size _ rfl, rfl, rfl, .inr (.inl ⟨hbt, rfl, rfl⟩)⟩ (fun b ob e => Heap.get?_push_of_some _ e) (Nat.le_refl _) ⟨o, Heap.get?_push_of_some _ ho, .inl ⟨rfl, rfl⟩⟩ (Nat.ne_of_lt hSlt)
    | false =>
      have h1 : es.size ≤ 1 := by
        rw [hbt] at hc
        by_cases z : es.size ≤ 1
        · exact z
        · exfalso
          have := hp (by omega)
          rw [this] at hc
          simp at hc; omega
      exact h _ S _ s.drawn _ (.refl _) ⟨Heap.get?_push_of_some _ ho, ep, t, _, _, hex, hd, hf, Heap.get?_push_size _ rfl, rfl, rfl, .inr (.inr ⟨hbt, by rw [hl, hbt]; rfl, h1, rfl, 0, rfl, fun _ => rfl, fun h => absurd h (by omega)⟩)⟩ (fun b ob e => Heap.get?_push_of_some _ e) (Nat.le_refl _) ⟨o, Heap.get?_push_of_some _ ho, .inl ⟨rfl, rfl⟩⟩ (Nat.ne_of_lt hSlt)
end
theorem filt_get {α β : Type} (f : α → Option β) : ∀ (l : List α) (i : Nat), (∀ p ∈ l, (f p).isSome = true) → (l.filterMap f)[i]? = l[i]?.bind f
  | [], i, _ => by simp
  | p :: r, i, h => by
    obtain ⟨b, hb⟩ := Option.isSome_iff_exists.mp (h p (.head _))
    rw [List.filterMap_cons_some hb]
    cases i with
    | zero => simp [hb]
    | succ i => simpa using filt_get f r i fun q hq => h q (.tail _ hq)
theorem below_zero (j : Nat) : SetTable.below #[j] 0 = 0 := by simp [SetTable.below, SetTable.below.go]
theorem below_one (j : Nat) : SetTable.below #[j] (j + 1) = 1 := by simp [SetTable.below, SetTable.below.go]
theorem one_place {t : SetTable} (h : t.fits 1 = true) : ∃ j, t.place = #[j] := by
  simp only [SetTable.fits, Bool.and_eq_true, beq_iff_eq] at h
  obtain ⟨⟨l⟩⟩ : ∃ p, p = t.place := ⟨_, rfl⟩
  have hl := h.1
  cases hp : t.place with
  | mk l =>
    rw [hp] at hl
    match l, hl with
    | [j], _ => exact ⟨j, rfl⟩
section
variable {w : World} {A : Around} {E : Value → Shared → Prop} {s : Shared} {I S T : Addr} {o : Obj} {es : Array (Int × Value)} {ord : List Value} {i : Nat}
theorem next_item_X {v : Value} {Q : Option Value → Shared → Prop} (hit : ItX w s.heap I S T o es ord i) (hx : ord[i]? = some v) (hIS : I ≠ S) (hIT : I ≠ T)
    (hQ : ∀ h', ItX w h' I S T o es ord (i + 1) → Heap.SameBut I s.heap h' → Q (some v) { s with heap := h' }) : wpAny (model PG w) A (pyNext (.ref I)) Q E s := by
  obtain ⟨ho, ep, t, oi, f0, hex, hd, hf, hoi, hci, hdi, mode⟩ := id hit
  have hT : s.TypeIs (.ref I) "set_iterator" := ⟨oi, hoi, hci⟩
  unfold pyNext
  refine wpAny_bind (wpAny_attempt (wpAny_callSpecial?_slot (name := PySem.Str.ofString "__next__") hT slot_snext
    (wpAny_call_entry slot_snext hT entry_snext ?_ (args_snext _))))
  unfold Builtin.«set_iterator.__next__»
  refine wpAny_bind (wpAny_of_eq (a := (Value.ref I, [])) rfl ?_)
  refine wpAny_bind ?_
  unfold fieldsOf
  refine wpAny_bind (wpAny_load hoi ?_)
  rw [hdi]
  refine wpAny_pure ?_
  dsimp only
  unfold setEntries
  refine wpAny_bind (wpAny_bind (wpAny_setState_of ho hd hf (wpAny_pure ?_)))
  have hsz : ((((es, ep, t).1.size : Nat) : Int) != (es.size : Int)) = false := by simp
  rw [hsz]
  simp only [Bool.false_eq_true, if_false]
  have upd : ∀ (s1 : Shared) (oj : Obj) (vs : Array Value) (k : Nat) (x : Value) (Q1 : Unit → Shared → Prop) (E1 : Value → Shared → Prop), s1.heap.get? I = some oj → oj.cls = .type "set_iterator" → oj.data = .fields vs → k < vs.size →
      (∀ h' oj', h'.get? I = some oj' → oj'.cls = .type "set_iterator" → oj'.data = .fields (vs.setIfInBounds k x) → Heap.SameBut I s1.heap h' → Q1 () { s1 with heap := h' }) → wpAny (model PG w) A.in1 (setField (.ref I) k x) Q1 E1 s1 := by
    intro s1 oj vs k x Q1 E1 h1 h2 h3 h4 h5
    exact wpAny_setField h1 h3 h4 (h5 _ _ (Heap.get?_update_self _ h1 (Obj.isFreed_of_fields (Obj.data_mapFields h3 _))) ((Obj.cls_mapFields ..).trans h2) (Obj.data_mapFields h3 _) (Heap.SameBut.update ..))
  rcases mode with ⟨pl, hpl, hTup, rfl, hord⟩ | ⟨hbt, rfl, hord⟩ | ⟨hbt, hled, h1, hord, slot, rfl, hs0, hs1⟩
  · have hall : ∀ p ∈ pl, (es[p]?.map (·.2)).isSome = true := fun p hp => by
      have : p < es.size := List.mem_range.mp (hpl.mem_iff.mp hp)
      simp [this]
    rw [hord, filt_get _ pl i hall] at hx
    obtain ⟨p, hp, hpv⟩ := Option.bind_eq_some_iff.mp hx
    obtain ⟨e, he, rfl⟩ := Option.map_eq_some_iff.mp hpv
    obtain ⟨ot, hot, _, nt, hdt⟩ := hTup
    dsimp only
    refine wpAny_bind (wpAny_seqItems hot hdt ?_)
    dsimp only
    have e1 : (pl.map fun p : Nat => rawInt p).toArray[((i : Nat) : Int).toNat]? = some (.int (p : Int) 0) := by simp [hp, rawInt]
    rw [e1]
    dsimp only
    unfold setNextDrawn
    refine wpAny_bind (wpAny_bind (wpAny_setState_of ho hd hf ?_))
    have e2 : ((ep : Nat) != ((ep : Nat) : Int).toNat) = false := by simp
    dsimp only
    rw [e2]
    simp only [Bool.false_eq_true, if_false, Int.toNat_natCast, he]
    refine wpAny_pure ?_
    refine wpAny_bind (upd s oi _ 1 _ _ _ hoi hci hdi (by simp) fun h' oj' g1 g2 g3 g4 => ?_)
    refine wpAny_pure ⟨_, rfl, wpAny_pure (hQ h' ?_ g4)⟩
    refine ⟨(g4.2 S (Ne.symm hIS)).trans ho, ep, t, oj', _, hex, hd, hf, g1, g2, by rw [g3]; simp [rawInt], .inl ⟨pl, hpl, ⟨ot, (g4.2 T (Ne.symm hIT)).trans hot, ‹_›, nt, hdt⟩, rfl, hord⟩⟩
  · dsimp only
    unfold setNext
    refine wpAny_bind (wpAny_bind (wpAny_setState_of ho hd hf ?_))
    dsimp only
    unfold setsByText
    refine wpAny_bind (wpAny_bind (wpAny_askSetting (wpAny_pure ?_)))
    have e0 : (model PG w).w.params.followText "set-order" = true := hbt
    rw [e0]
    have e2 : ((ep : Nat) != ((ep : Nat) : Int).toNat) = false := by simp
    simp only [if_true, e2, Bool.false_eq_true, if_false]
    unfold setWalk setsByText
    refine wpAny_bind (wpAny_bind (wpAny_setState_of ho hd hf ?_))
    dsimp only
    refine wpAny_bind (wpAny_bind (wpAny_askSetting (wpAny_pure ?_)))
    rw [e0]
    simp only [if_true]
    refine wpAny_bind (wpAny_askSetting (wpAny_pure ?_))
    have hx' : (pickOrder (w.params.setOrder S ep) es)[((i : Nat) : Int).toNat]?.map (·.2) = some v := by
      rw [hord] at hx
      simpa using hx
    obtain ⟨e, he, rfl⟩ := Option.map_eq_some_iff.mp hx'
    refine wpAny_pure ?_
    show wpAny _ _ (match (Option.map (fun e => (e.2, Int.toNat 0)) (pickOrder (w.params.setOrder S ep) es)[((i : Nat) : Int).toNat]?) with | some (x, next) => _ | none => _) _ _ _
    rw [he]
    dsimp only [Option.map]
    refine wpAny_bind (upd s oi _ 0 _ _ _ hoi hci hdi (by simp) fun h1 oj g1 g2 g3 g4 => ?_)
    refine wpAny_bind (upd _ oj _ 1 _ _ _ g1 g2 g3 (by simp) fun h2 ok k1 k2 k3 k4 => ?_)
    refine wpAny_pure ⟨_, rfl, wpAny_pure (hQ h2 ?_ (g4.trans k4))⟩
    refine ⟨(k4.2 S (Ne.symm hIS)).trans ((g4.2 S (Ne.symm hIS)).trans ho), ep, t, ok, _, hex, hd, hf, k1, k2, by rw [k3]; simp [rawInt], .inr (.inl ⟨hbt, rfl, hord⟩)⟩
  · rw [hord] at hx
    have hi0 : i = 0 ∧ es.size = 1 := by
      obtain ⟨hlt, _⟩ := List.getElem?_eq_some_iff.mp hx
      simp at hlt; omega
    obtain ⟨rfl, hsz1⟩ := hi0
    have hs := hs0 rfl
    subst hs
    obtain ⟨j, hj⟩ := one_place (t := t) (by rw [← hsz1]; exact hf)
    obtain ⟨e, he, hev⟩ : ∃ e, es[0]? = some e ∧ e.2 = v := by
      have : (es[0]?).map (·.2) = some v := by simpa using hx
      exact Option.map_eq_some_iff.mp this
    subst hev
    dsimp only
    unfold setNext
    refine wpAny_bind (wpAny_bind (wpAny_setState_of ho hd hf ?_))
    dsimp only
    unfold setsByText
    refine wpAny_bind (wpAny_bind (wpAny_askSetting (wpAny_pure ?_)))
    have e0 : (model PG w).w.params.followText "set-order" = false := hbt
    rw [e0]
    simp only [Bool.false_eq_true, if_false]
    split
    · rename_i hdr
      exfalso
      have hdr : (!t.plain && decide (es.size > 1)) = true := hdr
      simp at hdr; omega
    · refine wpAny_bind ?_
      show wpAny _ _ (if (!t.led && !es.isEmpty) = true then _ else pure ()) _ _ _
      rw [hled]
      simp only [Bool.not_true, Bool.false_and, Bool.false_eq_true, if_false]
      refine wpAny_pure ?_
      refine wpAny_pure ?_
      simp only [hj, Int.toNat_natCast, below_zero, he]
      refine wpAny_bind (upd s oi _ 0 _ _ _ hoi hci hdi (by simp) fun h1 oj g1 g2 g3 g4 => ?_)
      refine wpAny_bind (upd _ oj _ 1 _ _ _ g1 g2 g3 (by simp) fun h2 ok k1 k2 k3 k4 => ?_)
      refine wpAny_pure ⟨_, rfl, wpAny_pure (hQ h2 ?_ (g4.trans k4))⟩
      refine ⟨(k4.2 S (Ne.symm hIS)).trans ((g4.2 S (Ne.symm hIS)).trans ho), ep, t, ok, .int ((j + 1 : Nat) : Int) 0, hex, hd, hf, k1, k2, by rw [k3]; simp [rawInt], .inr (.inr ⟨hbt, hled, by omega, hord, j + 1, rfl, fun h => absurd h (by omega), fun _ j' hj' => by rw [hj] at hj'; simp at hj'; omega⟩)⟩
theorem next_end_X {Q : Option Value → Shared → Prop} (hh : A.handled = none) (hit : ItX w s.heap I S T o es ord i) (hx : ord[i]? = none) (hi : i ≤ ord.length) (hperm : ord.Perm (es.toList.map (·.2)))
    (hQ : ∀ h', Heap.ExtBut I s.heap h' → Q none { s with heap := h' }) : wpAny (model PG w) A (pyNext (.ref I)) Q E s := by
  obtain ⟨ho, ep, t, oi, f0, hex, hd, hf, hoi, hci, hdi, mode⟩ := id hit
  have hT : s.TypeIs (.ref I) "set_iterator" := ⟨oi, hoi, hci⟩
  unfold pyNext
  refine wpAny_bind (wpAny_attempt (wpAny_callSpecial?_slot (name := PySem.Str.ofString "__next__") hT slot_snext
    (wpAny_call_entry slot_snext hT entry_snext ?_ (args_snext _))))
  unfold Builtin.«set_iterator.__next__»
  refine wpAny_bind (wpAny_of_eq (a := (Value.ref I, [])) rfl ?_)
  refine wpAny_bind ?_
  unfold fieldsOf
  refine wpAny_bind (wpAny_load hoi ?_)
  rw [hdi]
  refine wpAny_pure ?_
  dsimp only
  unfold setEntries
  refine wpAny_bind (wpAny_bind (wpAny_setState_of ho hd hf (wpAny_pure ?_)))
  have hsz : ((((es, ep, t).1.size : Nat) : Int) != (es.size : Int)) = false := by simp
  rw [hsz]
  simp only [Bool.false_eq_true, if_false]
  have upd : ∀ (s1 : Shared) (oj : Obj) (vs : Array Value) (k : Nat) (x : Value) (Q1 : Unit → Shared → Prop) (E1 : Value → Shared → Prop), s1.heap.get? I = some oj → oj.cls = .type "set_iterator" → oj.data = .fields vs → k < vs.size →
      (∀ h' oj', h'.get? I = some oj' → oj'.cls = .type "set_iterator" → oj'.data = .fields (vs.setIfInBounds k x) → Heap.SameBut I s1.heap h' → Q1 () { s1 with heap := h' }) → wpAny (model PG w) A.in1 (setField (.ref I) k x) Q1 E1 s1 := by
    intro s1 oj vs k x Q1 E1 h1 h2 h3 h4 h5
    exact wpAny_setField h1 h3 h4 (h5 _ _ (Heap.get?_update_self _ h1 (Obj.isFreed_of_fields (Obj.data_mapFields h3 _))) ((Obj.cls_mapFields ..).trans h2) (Obj.data_mapFields h3 _) (Heap.SameBut.update ..))
  have stop : ∀ (s1 : Shared), (∀ h', (∀ b ob, s1.heap.get? b = some ob → h'.get? b = some ob) → Q none { s1 with heap := h' }) →
      wpAny (model PG w) A.in1 (do let e ← newExc (.type "StopIteration") []; raiseNew (α := PySem.Fin) e) (fun fin s' => ∃ v, fin = Fin.done (Flow.ret v) ∧ wpAny (model PG w) A (pure (some v)) Q E s')
        (fun e s' => wpAny (model PG w) A (do let b ← isInstance e (Value.type "StopIteration"); if b = true then pure none else throw e) Q E s') s1 := by
    intro s1 hq
    refine wpAny_bind ?_
    simp only [newExc, newTuple]
    refine wpAny_bind (wpAny_newObj_type ?_ (by size_fits))
    refine wpAny_bind (m := firstArgMember _ _) (wpAny_of_eq (a := Value.none) (by first | rfl | (simp only [firstArgMember]; rfl)) ?_)
    refine wpAny_newObj_type ?_ (by size_fits)
    simp only [raiseNew]
    refine wpAny_bind (wpAny_handled ?_)
    rw [show A.in1.handled = none from hh]
    refine wpAny_bind (wpAny_pure (wpAny_throw ?_))
    refine wpAny_bind (wpAny_isInstance (T := "StopIteration") (b := true) ⟨_, Heap.get?_push_size _ rfl, rfl⟩ isSubtype_stop ?_)
    exact wpAny_pure (hq _ fun b ob e => Heap.get?_push_of_some _ (Heap.get?_push_of_some _ e))
  have hin : i = ord.length := by
    have := List.getElem?_eq_none_iff.mp hx
    omega
  have hlen : ord.length = es.size := by have := hperm.length_eq; simpa using this
  rcases mode with ⟨pl, hpl, hTup, rfl, hord⟩ | ⟨hbt, rfl, hord⟩ | ⟨hbt, hled, h1, hord, slot, rfl, hs0, hs1⟩
  · have hplen : pl.length = es.size := by have := hpl.length_eq; simpa using this
    obtain ⟨ot, hot, _, nt, hdt⟩ := hTup
    dsimp only
    refine wpAny_bind (wpAny_seqItems hot hdt ?_)
    dsimp only
    have e1 : (pl.map fun p : Nat => rawInt p).toArray[((i : Nat) : Int).toNat]? = none := by simp; omega
    rw [e1]
    dsimp only
    refine wpAny_bind (upd s oi _ 0 _ _ _ hoi hci hdi (by simp) fun h1 oj g1 g2 g3 g4 => ?_)
    refine wpAny_bind (upd _ oj _ 2 _ _ _ g1 g2 g3 (by simp) fun h2 ok k1 k2 k3 k4 => ?_)
    exact stop _ fun h' hk => hQ h' fun b ob hb e => hk b ob ((k4.2 b hb).trans ((g4.2 b hb).trans e))
  · dsimp only
    unfold setNext
    refine wpAny_bind (wpAny_bind (wpAny_setState_of ho hd hf ?_))
    dsimp only
    unfold setsByText
    refine wpAny_bind (wpAny_bind (wpAny_askSetting (wpAny_pure ?_)))
    have e0 : (model PG w).w.params.followText "set-order" = true := hbt
    rw [e0]
    have e2 : ((ep : Nat) != ((ep : Nat) : Int).toNat) = false := by simp
    simp only [if_true, e2, Bool.false_eq_true, if_false]
    unfold setWalk setsByText
    refine wpAny_bind (wpAny_bind (wpAny_setState_of ho hd hf ?_))
    dsimp only
    refine wpAny_bind (wpAny_bind (wpAny_askSetting (wpAny_pure ?_)))
    rw [e0]
    simp only [if_true]
    refine wpAny_bind (wpAny_askSetting (wpAny_pure ?_))
    have he : (pickOrder (w.params.setOrder S ep) es)[((i : Nat) : Int).toNat]? = none := by
      rw [hord] at hin
      simp only [List.length_map, Array.length_toList] at hin
      simp [hin]
    refine wpAny_pure ?_
    show wpAny _ _ (match (Option.map (fun e => (e.2, Int.toNat 0)) (pickOrder (w.params.setOrder S ep) es)[((i : Nat) : Int).toNat]?) with | some (x, next) => _ | none => _) _ _ _
    rw [he]
    dsimp only [Option.map]
    refine wpAny_bind (upd s oi _ 2 _ _ _ hoi hci hdi (by simp) fun h1 oj g1 g2 g3 g4 => ?_)
    exact stop _ fun h' hk => hQ h' fun b ob hb e => hk b ob ((g4.2 b hb).trans e)
  · have hi1 : i = es.size := by omega
    have hnone : es[i]? = none := by rw [hi1]; simp
    dsimp only
    unfold setNext
    refine wpAny_bind (wpAny_bind (wpAny_setState_of ho hd hf ?_))
    dsimp only
    unfold setsByText
    refine wpAny_bind (wpAny_bind (wpAny_askSetting (wpAny_pure ?_)))
    have e0 : (model PG w).w.params.followText "set-order" = false := hbt
    rw [e0]
    simp only [Bool.false_eq_true, if_false]
    split
    · rename_i hdr
      exfalso
      have hdr : (!t.plain && decide (es.size > 1)) = true := hdr
      simp at hdr; omega
    · refine wpAny_bind ?_
      show wpAny _ _ (if (!t.led && !es.isEmpty) = true then _ else pure ()) _ _ _
      rw [hled]
      simp only [Bool.not_true, Bool.false_and, Bool.false_eq_true, if_false]
      refine wpAny_pure ?_
      refine wpAny_pure ?_
      have hbelow : SetTable.below t.place slot = i := by
        by_cases z : i = 0
        · have hz : es.size = 0 := by omega
          have hp0 : t.place.size = 0 := by
            have := hf; simp only [SetTable.fits, Bool.and_eq_true, beq_iff_eq] at this; rw [this.1, hz]
          rw [z]
          unfold SetTable.below
          rw [hp0]; rfl
        · have hz : es.size = 1 := by omega
          obtain ⟨j, hj⟩ := one_place (t := t) (by rw [← hz]; exact hf)
          have := hs1 (by omega) j (by rw [hj]; rfl)
          rw [this, hj, below_one]; omega
      simp only [Int.toNat_natCast, hbelow, hnone]
      refine wpAny_bind (upd s oi _ 2 _ _ _ hoi hci hdi (by simp) fun h1 oj g1 g2 g3 g4 => ?_)
      exact stop _ fun h' hk => hQ h' fun b ob hb e => hk b ob ((g4.2 b hb).trans e)
end
section
variable {w : World} {A : Around} {E : Value → Shared → Prop} {s : Shared} {h₀ : Heap} {L d v : Addr} {m : Str → Option Value} {news : List (Addr × Obj)} {o : Obj} {kvs : List (List UInt8 × Value)}
theorem set_keys_N {Q : Value → Shared → Prop} (F : Fr h₀ L s.heap m) (N : News h₀ L s.heap news) (hv : (v, ({ cls := .type "dict_keys", data := .fields #[.ref d] } : Obj)) ∈ news) (hm : (d, o) ∈ news) (hd : o.IsDictOf (bytesKind PG w) kvs) (hlen : kvs.length ≤ 100) (hh : A.handled = none)
    (h : ∀ S h' tk os es, SetX w os es → EsOf w es (kvs.map (·.1)) → Fr h₀ L h' m → News h₀ L h' ((S, os) :: news) → (∀ p ∈ news, p.1 < S) → Q (.ref S) { s with heap := h', toks := tk }) :
    wpAny (model PG w) A (call (.type "set") [.ref v]) Q E s := by
  have hD := dict_at N hm hd
  obtain ⟨ep, hD'⟩ := hD.dictAt
  refine call_set_keys (d := d) (kvs := kvs) (ep := ep) hh ⟨_, (N _ hv).1, rfl, rfl⟩ hD' hD'.nodup hlen fun h' tk os es ho hX hE hk => ?_
  obtain ⟨oL, _, _, hL, _⟩ := F.ns
  have hLlt : L < s.heap.objs.size := Heap.lt_size hL
  refine h _ h' tk os es hX hE ⟨F.ns.at' fun o' e => hk L o' hLlt e, fun b o' e => hk b o' (Heap.lt_size (F.keep b o' e)) (F.keep b o' e), F.above⟩ (fun p hp => ?_) (fun p hp => Heap.lt_size (N p hp).1)
  rcases List.mem_cons.mp hp with rfl | hp
  · refine ⟨ho, Nat.ne_of_gt hLlt, ?_⟩
    cases hq : h₀.get? s.heap.objs.size with
    | none => rfl
    | some o' => exact absurd (Heap.lt_size (F.keep _ _ hq)) (Nat.lt_irrefl _)
  · exact ⟨hk _ _ (Heap.lt_size (N p hp).1) (N p hp).1, (N p hp).2.1, (N p hp).2.2⟩
end
section
variable {dp un : Nat} {gd : Option (List Code)} {env : Env} {outer : List Env} {A₀ : Around} {base h₀ g₀ : Heap} {L : Addr} {m : Str → Option Value} {mean : ExcName → Option Value} {mg mb : Str → Option Value} {w : World} {s : Shared} {Q E : Value → Shared → Prop} {news : List (Addr × Obj)}
variable {R Dd Ad P : Addr} {o : Obj} {kvs : List (List UInt8 × Value)} {H : Nat → Cell} {i1 i2 : Int} {t1 t2 : Tok}
theorem c_allkeys (B : Below (AA dp un gd outer) base outer h₀) (F : Fr h₀ L s.heap m) (X : (hd.heap_1 w.params).In h₀) (N : News h₀ L s.heap news) (T : Top hd.view_1 loose mean mg mb h₀) (hf : env.frame = some L) (hke : env.scope.kind = .function)
   (hdp : dp + 4 < recursionLimit) (hu : un + 40 < cLine) (hR : (R, instObj 304 Dd) ∈ news) (hD : (Dd, dictOf [⟨i1, .str (Str.ofString "_refs") t1, .ref Ad⟩, ⟨i2, .str (Str.ofString "_peeled") t2, .ref P⟩] 2) ∈ news) (hA : (Ad, o) ∈ news) (hO : o.IsDictOf (bytesKind PG w) kvs) (hAs : (Ad == sysModules) = false) (RK : RefsKV kvs H)
   (hret : ∀ S os es h' tk', SetX w os es → EsOf w es (kvs.map (·.1)) → Fr h₀ L h' m → News h₀ L h' ((S, os) :: news) → Q (.ref S) { s with heap := h', toks := tk' }) :
   wpAny (model PG w) ((AA dp un gd outer).deeper env) (call (.ref 252) [.ref R]) Q E s := by
   refine Kf ?_
   simp (disch := (refine @id _ ?_; k_dflt (
    have zF1 := U 1; have zF10 := U 10; have zF2 := U 2; have zF3 := U 3; have zF55 := U 55
    have hlen : kvs.length ≤ 100 := Nat.le_trans RK.len (by decide)
    k_extra "M:enter"
    k_steps
    all_goals exact hret _ _ _ _ _ (by assumption) (by assumption) (by k_asm) (news_skip1 (by k_asm))))) only [↓Kn]
end
section
variable {w : World} {A : Around} {E : Value → Shared → Prop} {s : Shared} {env : Env} {Q : Flow → Shared → Prop}
theorem For_code {target iter : PySem.Expr} {body : List Stmt} {pos : Pos}
    (h : wpAny (model PG w) A (eval iter env) (fun xv s₁ => wpAny (model PG w) A (pyIter xv) (fun it s₂ => codeAny (model PG w) A (.forLoop target it body [] env) (fun r s' => match r with | .ok f => Q f s' | .error e => cameBackBy (model PG w) A env E e s') s₂) E s₁) E s)
    (hs : ∀ x, foldedSetIterable iter env x = pure x) : wpAny (model PG w) A (exec (.For target iter body [] pos) env) Q E s :=
  wpAny_For (wpAny_mono h (fun _ _ h₁ => wpAny_mono h₁ (fun _ _ h₂ => h₂) fun _ _ e => e) fun _ _ e => e) hs
theorem ItX.move {h h' : Heap} {I S T : Addr} {o : Obj} {es : Array (Int × Value)} {ord : List Value} {i : Nat} (x : ItX w h I S T o es ord i) (hk : ∀ b, b = I ∨ b = S ∨ b = T → ∀ ob, h.get? b = some ob → h'.get? b = some ob) : ItX w h' I S T o es ord i := by
  obtain ⟨ho, ep, t, oi, f0, hex, hd, hf, hoi, hci, hdi, mode⟩ := x
  refine ⟨hk S (.inr (.inl rfl)) _ ho, ep, t, oi, f0, hex, hd, hf, hk I (.inl rfl) _ hoi, hci, hdi, ?_⟩
  rcases mode with ⟨pl, hpl, ⟨ot, hot, r⟩, e1, e2⟩ | m | m
  · exact .inl ⟨pl, hpl, ⟨ot, hk T (.inr (.inr rfl)) _ hot, r⟩, e1, e2⟩
  · exact .inr (.inl m)
  · exact .inr (.inr m)
theorem ItX.iter {h : Heap} {I S T : Addr} {o : Obj} {es : Array (Int × Value)} {ord : List Value} {i : Nat} (x : ItX w h I S T o es ord i) : ∃ it, h.get? I = some it ∧ it.cls = .type "set_iterator" := by
  obtain ⟨_, _, _, oi, _, _, _, _, hoi, hci, _⟩ := x
  exact ⟨oi, hoi, hci⟩
theorem iter_XN {S L : Addr} {o : Obj} {es : Array (Int × Value)} {h₀ : Heap} {m : Str → Option Value} {news : List (Addr × Obj)} {Q : Value → Shared → Prop} (F : Fr h₀ L s.heap m) (N : News h₀ L s.heap news) (hm : (S, o) ∈ news) (hX : SetX w o es) (hlen : es.size ≤ 100)
    (h : ∀ I T to h' dr ord, ord.Perm (es.toList.map (·.2)) → ItX w h' I S T o es ord 0 → Fr h₀ L h' m → News h₀ L h' ((T, to) :: news) → ((T = S ∧ to = o) ∨ to.cls = .type "tuple") → I ≠ S → I ≠ T → L ≠ I → h₀.get? I = none → (∀ p ∈ (T, to) :: news, p.1 ≠ I) →
      Q (.ref I) { s with heap := h', drawn := dr }) : wpAny (model PG w) A (pyIter (.ref S)) Q E s := by
  have hLlt : L < s.heap.objs.size := F.ns.lt
  have hab : h₀.objs.size ≤ L := F.above
  refine iter_X (N _ hm).1 hX hlen fun I T h' dr ord hp hit hk hI hto hTI => ?_
  obtain ⟨to, hTo, hkind⟩ := hto
  have lt_of : ∀ p ∈ news, p.1 < s.heap.objs.size := fun p hp => Heap.lt_size (N p hp).1
  have F' : Fr h₀ L h' m := ⟨F.ns.keeps hk, fun b ob e => hk b ob (F.keep b ob e), F.above⟩
  have neI : ∀ p ∈ news, p.1 ≠ I := fun p hp => Nat.ne_of_lt (Nat.lt_of_lt_of_le (lt_of p hp) hI)
  refine h I T to h' dr ord hp hit F' (fun p hp => ?_) (hkind.imp id And.right) (Ne.symm (neI _ hm)) (Ne.symm hTI) (Nat.ne_of_lt (Nat.lt_of_lt_of_le hLlt hI)) (Heap.get?_none_of_le (Nat.le_trans hab (Nat.le_trans (Nat.le_of_lt hLlt) hI))) (fun p hp => ?_)
  · rcases List.mem_cons.mp hp with rfl | hp
    · rcases hkind with ⟨rfl, rfl⟩ | ⟨hT, _⟩
      · exact ⟨hTo, (N _ hm).2⟩
      · exact ⟨hTo, Nat.ne_of_gt (Nat.lt_of_lt_of_le hLlt hT), Heap.get?_none_of_le (Nat.le_trans hab (Nat.le_trans (Nat.le_of_lt hLlt) hT))⟩
    · exact ⟨hk _ _ (N p hp).1, (N p hp).2⟩
  · rcases List.mem_cons.mp hp with rfl | hp
    · exact hTI
    · exact neI p hp
def XEnd (s : Shared) (L I : Addr) (it : Obj) (J : Heap → (Str → Option Value) → List (Addr × Obj) → Prop) (Q : Flow → Shared → Prop) (f : Flow) (s₂ : Shared) : Prop :=
  match f with
  | .ret v => Q (.ret v) s₂
  | .brk => Q .next s₂
  | _ => ∃ h' tk' g' m' nx', s₂ = { s with heap := h', toks := tk' } ∧ Fr g' L h' m' ∧ News g' L h' ((I, it) :: nx') ∧ J g' m' nx'
theorem loop_setX {x : Str} {px : Pos} {body : List Stmt} {I S T : Addr} {o to : Obj} {es : Array (Int × Value)} {ord : List Value} {g₀ : Heap} {m₀ : Str → Option Value} {news : List (Addr × Obj)}
    (J : Nat → Heap → (Str → Option Value) → List (Addr × Obj) → Prop)
    (hh : A.handled = none) (hx : env.kindOf x = some .local) (hp : (env.scope.kind == .class || (env.scope.kind == .module && env.locals != env.globals)) = false)
    (hit : ItX w s.heap I S T o es ord 0) (hperm : ord.Perm (es.toList.map (·.2))) (hIS : I ≠ S) (hIT : I ≠ T)
    (hfp : ∀ i g m nx, J i g m nx → (S, o) ∈ nx ∧ (T, to) ∈ nx ∧ g.get? I = none ∧ ∀ p ∈ nx, p.1 ≠ I) (hLI : env.locals ≠ I)
    (F : Fr g₀ env.locals s.heap m₀) (N : News g₀ env.locals s.heap news) (hj : J 0 g₀ m₀ news)
    (turn : ∀ i v g m₁ nx h tk (it : Obj), ord[i]? = some v → it.cls = .type "set_iterator" → J i g m₁ nx → Fr g env.locals h (fun y => if y = x then some v else m₁ y) → News g env.locals h ((I, it) :: nx) →
      wpAny (model PG w) A (execs body env) (XEnd s env.locals I it (J (i + 1)) Q) E { s with heap := h, toks := tk })
    (done : ∀ g m₁ nx h tk, J ord.length g m₁ nx → Fr g env.locals h m₁ → News g env.locals h nx → Q .next { s with heap := h, toks := tk })
    (hE : PassesOwn (model PG w) A env E := by passes_own) :
    codeAny (model PG w) A (.forLoop (.Name x px) (.ref I) body [] env) (fun r s' => match r with | .ok f => Q f s' | .error e => cameBackBy (model PG w) A env E e s') s := by
  refine codeAny_forLoop_any
    (fun k s' => ∃ h' tk g m nx i, s' = { s with heap := h', toks := tk } ∧ ItX w h' I S T o es ord i ∧ Fr g env.locals h' m ∧ News g env.locals h' nx ∧ J i g m nx ∧ i ≤ ord.length ∧ k = ord.length + 1 - i) ?_ (ord.length + 1)
    ⟨s.heap, s.toks, g₀, m₀, news, 0, rfl, hit, F, N, hj, Nat.zero_le _, rfl⟩
  rintro k s' ⟨h', tk, g, m, nx, i, rfl, hit', F', N', hJ, hi, rfl⟩
  obtain ⟨mS, mT, hgI, hoff⟩ := hfp i g m nx hJ
  by_cases hlt : i < ord.length
  · refine next_item_X (v := ord[i]) hit' (List.getElem?_eq_getElem hlt) hIS hIT fun h₁ hit₁ hs₁ => ?_
    obtain ⟨it, hIt, hic⟩ := hit₁.iter
    have F₁ : Fr g env.locals h₁ m := ⟨F'.ns.at' fun o e => hs₁.extBut _ _ hLI e, fun b ob e => hs₁.extBut _ _ (fun q => by rw [q, hgI] at e; cases e) (F'.keep b ob e), F'.above⟩
    have N₁ : News g env.locals h₁ ((I, it) :: nx) := fun p hp => by
      rcases List.mem_cons.mp hp with rfl | hp
      · exact ⟨hIt, fun e => hLI e.symm, hgI⟩
      · exact ⟨hs₁.extBut _ _ (hoff p hp) (N' p hp).1, (N' p hp).2⟩
    refine wpAny_pure ?_
    refine wpAny_assign_Name (wpAny_storeName_local hx F₁.ns (fun h₂ hn₂ hs₂ => ?_) hp)
    have hL₀ : g.get? env.locals = none := Heap.get?_none_of_le F₁.above
    have F₂ : Fr g env.locals h₂ (fun z => if z = x then some ord[i] else m z) := ⟨hn₂, fun b ob e => hs₂.extBut b ob (fun q => by rw [q, hL₀] at e; cases e) (F₁.keep b ob e), F₁.above⟩
    have N₂ : News g env.locals h₂ ((I, it) :: nx) := fun p hp => ⟨hs₂.extBut _ _ (N₁ p hp).2.1 (N₁ p hp).1, (N₁ p hp).2⟩
    have hit₂ : ItX w h₂ I S T o es ord (i + 1) := hit₁.move fun b hb ob e => hs₂.extBut b ob (fun q => by
      rcases hb with rfl | rfl | rfl
      · exact hLI q.symm
      · exact (N' _ mS).2.1 q
      · exact (N' _ mT).2.1 q) e
    refine wpAny_passesOwn hE (wpAny_mono (turn i ord[i] g m nx h₂ _ it (List.getElem?_eq_getElem hlt) hic hJ F₂ N₂) (fun f s₃ p => ?_) fun _ _ e => e)
    have fin : (∃ h' tk' g' m' nx', s₃ = { s with heap := h', toks := tk' } ∧ Fr g' env.locals h' m' ∧ News g' env.locals h' ((I, it) :: nx') ∧ J (i + 1) g' m' nx') →
        ∃ k', k' < ord.length + 1 - i ∧ ∃ h' tk g m nx i, s₃ = { s with heap := h', toks := tk } ∧ ItX w h' I S T o es ord i ∧ Fr g env.locals h' m ∧ News g env.locals h' nx ∧ J i g m nx ∧ i ≤ ord.length ∧ k' = ord.length + 1 - i := by
      rintro ⟨h₃, tk₃, g₃, m₃, nx₃, rfl, F₃, N₃, J₃⟩
      obtain ⟨mS₃, mT₃, _, _⟩ := hfp _ _ _ _ J₃
      refine ⟨ord.length + 1 - (i + 1), by omega, h₃, tk₃, g₃, m₃, nx₃, i + 1, rfl, hit₂.move fun b hb ob e => ?_, F₃, fun p hp => N₃ p (.tail _ hp), J₃, hlt, rfl⟩
      rcases hb with rfl | rfl | rfl
      · have e1 := (N₂ _ (.head _)).1
        rw [e] at e1; rw [Option.some.inj e1]
        exact (N₃ _ (.head _)).1
      · have e1 := (N₂ _ (.tail _ mS)).1
        rw [e] at e1; rw [Option.some.inj e1]
        exact (N₃ _ (.tail _ mS₃)).1
      · have e1 := (N₂ _ (.tail _ mT)).1
        rw [e] at e1; rw [Option.some.inj e1]
        exact (N₃ _ (.tail _ mT₃)).1
    cases f with
    | ret v => exact p
    | brk => exact p
    | next => exact fin p
    | cont => exact fin p
  · have hin : i = ord.length := by omega
    subst hin
    refine next_end_X hh hit' (by simp) (Nat.le_refl _) hperm fun h₁ hs₁ => ?_
    refine wpAny_execs_nil ?_
    exact done g m nx h₁ tk hJ ⟨F'.ns.at' fun o e => hs₁ _ _ hLI e, fun b ob e => hs₁ _ _ (fun q => by rw [q, hgI] at e; cases e) (F'.keep b ob e), F'.above⟩ fun p hp => ⟨hs₁ _ _ (hoff p hp) (N' p hp).1, (N' p hp).2⟩
end
section
variable {dp un : Nat} {gd : Option (List Code)} {env : Env} {outer : List Env} {A₀ : Around} {base h₀ g₀ : Heap} {L : Addr} {m : Str → Option Value} {mean : ExcName → Option Value} {mg mb : Str → Option Value} {w : World} {s : Shared} {Q E : Value → Shared → Prop} {news : List (Addr × Obj)}
variable {R Dd Ad P : Addr} {o : Obj} {kvs : List (List UInt8 × Value)} {H : Nat → Cell} {i1 i2 : Int} {t1 t2 : Tok}
theorem c_keys (B : Below (AA dp un gd outer) base outer h₀) (F : Fr h₀ L s.heap m) (X : (hd.heap_1 w.params).In h₀) (N : News h₀ L s.heap news) (T : Top hd.view_1 loose mean mg mb h₀) (hf : env.frame = some L) (hke : env.scope.kind = .function)
   (hdp : dp + 8 < recursionLimit) (hu : un + 80 < cLine) (hR : (R, instObj 304 Dd) ∈ news) (hD : (Dd, dictOf [⟨i1, .str (Str.ofString "_refs") t1, .ref Ad⟩, ⟨i2, .str (Str.ofString "_peeled") t2, .ref P⟩] 2) ∈ news) (hA : (Ad, o) ∈ news) (hO : o.IsDictOf (bytesKind PG w) kvs) (hAs : (Ad == sysModules) = false) (RK : RefsKV kvs H)
   (hret : ∀ S os es h' tk', SetX w os es → EsOf w es (kvs.map (·.1)) → Fr h₀ L h' m → News h₀ L h' ((S, os) :: news) → Q (.ref S) { s with heap := h', toks := tk' }) :
   wpAny (model PG w) ((AA dp un gd outer).deeper env) (call (.ref 146) [.ref R, .none]) Q E s := by
   refine Kf ?_
   simp (disch := (refine @id _ ?_; k_dflt (
    have zF1 := U 1; have zF10 := U 10; have zF2 := U 2; have zF3 := U 3; have zF56 := U 56
    k_extra "M:enter"
    k_steps
    unfold MStop
    refine' c_allkeys ?zq_zB ?zq_zF ?zq_zX ?zq_zN ?zq_zT ?zq_zf ?zq_zk ?zq_zd ?zq_zu ?zq_zR ?zq_zD ?zq_zA ?zq_zO ?zq_zS ?zq_zV ?_
    (case zq_zV => assumption); (case zq_zO => assumption); (case zq_zB => k_asm); (case zq_zF => k_asm); (case zq_zX => k_asm); (case zq_zN => k_asm); (case zq_zT => k_asm); (case zq_zf => exact rfl); (case zq_zk => exact rfl); (case zq_zd => k_room); (case zq_zu => k_units); (case zq_zR => assumption); (case zq_zD => assumption); (case zq_zA => assumption); (case zq_zS => assumption)
    intro S' os' es' h' tk' hX' hE' F' N'
    k_steps
    all_goals exact hret _ _ _ _ _ (by assumption) (by assumption) (by k_asm) (by k_asm)))) only [↓Kn]
end
def endsH (H : Nat → Cell) (j : Nat) : Cell := match fol H 5 j with
  | some (_, some (.inr c)) => some (.inr c)
  | _ => none
def visH (V : List Nat) (H : Nat → Cell) : Nat → Cell := fun j => if j ∈ V then endsH H j else none
theorem RefsKV.congr {kvs : List (List UInt8 × Value)} {H G : Nat → Cell} (R : RefsKV kvs H) (h : ∀ i, i < 7 → G i = H i) : RefsKV kvs G := by
  refine ⟨fun i hi => by rw [h i hi]; exact R.ok i hi, R.nodup, fun kv hkv => ?_, fun i hi hg => R.full i hi (by rw [← h i hi]; exact hg)⟩
  obtain ⟨i, hi, e, a, b⟩ := R.sound kv hkv
  exact ⟨i, hi, e, by rw [h i hi]; exact a, by rw [h i hi]; exact b⟩
theorem visH_val {V : List Nat} {H : Nat → Cell} {j c : Nat} {ks : List Nat} (hf : fol H 5 j = some (ks, some (.inr c))) : visH (j :: V) H = setH (visH V H) j (some (.inr c)) := by
  funext i
  unfold visH setH
  by_cases z : i = j
  · subst z
    simp [endsH, hf]
  · simp [z]
theorem visH_non {V : List Nat} {H : Nat → Cell} {j : Nat} (hf : endsH H j = none) : visH (j :: V) H = visH V H := by
  funext i
  unfold visH
  by_cases z : i = j
  · subst z
    by_cases y : i ∈ V <;> simp [hf, y]
  · simp [z]
def Gnd (w : World) (A : Around) (base : Heap) (outer : List Env) (g0 g : Heap) (mean : ExcName → Option Value) (mg mb : Str → Option Value) : Prop :=
  KtsTurn (outer.filterMap (·.frame)) g0 g ∧ Below A base outer g ∧ (hd.heap_1 w.params).In g ∧ Top hd.view_1 loose mean mg mb g ∧ KtsDicts (outer.filterMap (·.frame)) g
section
variable {prog : Program} {w : World} {A : Around} {E : Value → Shared → Prop} {s : Shared} {t u : Tok} {Q : Value → Shared → Prop}
theorem add_pre (h : ∀ t' k, Q (.bytes #[47] t') { s with toks := k }) : wpAny (model prog w) A (binaryOp .Add (.bytes #[] t) (.bytes #[47] u)) Q E s :=
  KBy.add_bytes (by decide) fun t' k => h t' k
theorem add_slash {j : Nat} (hj : j < 7) (h : ∀ t' k, Q (.bytes (47 :: nm j).toArray t') { s with toks := k }) : wpAny (model prog w) A (binaryOp .Add (.bytes #[47] t) (.bytes (nm j).toArray u)) Q E s := by
  refine KBy.add_bytes ?_ fun t' k => ?_
  · have : ∀ i : Fin 7, (#[47] : Array UInt8).size + (nm i).toArray.size ≤ 16777216 := by decide
    exact this ⟨j, hj⟩
  · have e : (#[47] : Array UInt8) ++ (nm j).toArray = (47 :: nm j).toArray := by simp
    rw [e]; exact h t' k
theorem strip_slash {j : Nat} (hj : j < 7) (h : ∀ t' k, Q (.bytes (nm j).toArray t') { s with toks := k }) : wpAny (model prog w) A (call (.builtin "bytes.strip") [.bytes (47 :: nm j).toArray t, .bytes #[47] u]) Q E s := by
  have e1 : ∀ i : Fin 7, (((47 :: nm i).dropWhile (fun x => ([47] : List UInt8).toArray.contains x)).reverse.dropWhile (fun x => ([47] : List UInt8).toArray.contains x)).reverse = nm i := by decide +kernel
  have e2 : ∀ i : Fin 7, (nm i).length ≠ (47 :: nm i).length ∧ (nm i).length ≤ 1000 := by decide
  exact strip_b (c := [47]) (e1 ⟨j, hj⟩) (e2 ⟨j, hj⟩).1 (e2 ⟨j, hj⟩).2 h
end
theorem set_name {w : World} {A : Around} {s : Shared} {Q : Unit → Shared → Prop} {E : Value → Shared → Prop} {h₀ : Heap} {L Ad : Addr} {m : Str → Option Value} {all : List (Addr × Obj)} {o : Obj} {kvs : List (List UInt8 × Value)} {H : Nat → Cell}
    {i : Nat} {x : Sum Nat Nat} {t t' : Tok} (F : Fr h₀ L s.heap m) (N : News h₀ L s.heap all) (hm : (Ad, o) ∈ all) (hO : o.IsDictOf (bytesKind PG w) kvs) (RK : RefsKV kvs H) (hi : i < 7) (hx : CellOk (some x))
    (h : ∀ o' kvs' h' tk', o'.IsDictOf (bytesKind PG w) kvs' → RefsKV kvs' (setH H i (some x)) → Fr h₀ L h' m → (∀ want : List (Addr × Obj), (∀ p ∈ want, p ∈ all ∧ p.1 ≠ Ad) → News h₀ L h' ((Ad, o') :: want)) → Q () { s with heap := h', toks := tk' }) :
    wpAny (model PG w) A (setItem (.ref Ad) (.bytes (nm i).toArray t) (.bytes (oct x).toArray t')) Q E s := by
  have z := N _ hm
  refine wpAny_setItem_pairs (knd := bytesKind PG w) (k := nm i) (by simpa using bk_is (nm i).toArray t) (dict_at N hm hO) (fun h' hd hs => ?_) (Nat.le_trans RK.len (by decide))
  obtain ⟨o', e, hO'⟩ := Heap.dictOf_iff.mp hd
  refine h o' _ h' _ hO' (RK.stored hi hx t') (F.change hs z.2.1 z.2.2) (fun want hw p hp => ?_)
  rcases List.mem_cons.mp hp with rfl | hp
  · exact ⟨e, z.2⟩
  · exact ⟨hs.extBut _ _ (hw p hp).2 (N p (hw p hp).1).1, (N p (hw p hp).1).2⟩
inductive JA (w : World) (A : Around) (base : Heap) (outer : List Env) (g0 : Heap) (mean : ExcName → Option Value) (mg mb : Str → Option Value) (H : Nat → Cell) (ord : List Value) (Dr R : Addr) (led : List (Addr × Obj)) (i : Nat) (g : Heap) (m : Str → Option Value) (nx : List (Addr × Obj)) : Prop
  | mk : Gnd w A base outer g0 g mean mg mb → ∀ od rkvs V, nx = (Dr, od) :: led → od.IsDictOf (bytesKind PG w) rkvs → RefsKV rkvs (visH V H) → (∀ k, k < i → ∃ j ∈ V, ∃ t, ord[k]? = some (.bytes (nm j).toArray t)) → (∀ j ∈ V, j < 7) → m (Str.ofString "ret") = some (.ref Dr) → m (Str.ofString "self") = some (.ref R) → ∀ tb, m (Str.ofString "base_bytes") = some (.bytes #[] tb) → JA w A base outer g0 mean mg mb H ord Dr R led i g m nx
inductive IntsV : List Value → List Nat → Prop
  | nil : IntsV [] []
  | cons {k : Nat} {vs : List Value} {ks : List Nat} (t : Tok) : IntsV vs ks → IntsV (.int (k : Int) t :: vs) (k :: ks)
theorem IntsV.append {vs us : List Value} {ks js : List Nat} (h : IntsV vs ks) (g : IntsV us js) : IntsV (vs ++ us) (ks ++ js) := by
  induction h with
  | nil => exact g
  | cons t _ ih => exact .cons t ih
theorem IntsV.len {vs : List Value} {ks : List Nat} (h : IntsV vs ks) : vs.length = ks.length := by
  induction h with
  | nil => rfl
  | cons t _ ih => simp [ih]
inductive ChainV (news : List (Addr × Obj)) (H : Nat → Cell) (k : Nat) (v : Value) : Prop
  | mk : ∀ T l ev vs n ks c, v = .ref T → (T, tup [.ref l, ev]) ∈ news → (l, W.listOf vs n) ∈ news → IntsV vs.toList ks → CellV c ev → fol H 5 k = some (ks, c) → ChainV news H k v
def FoundOk (news : List (Addr × Obj)) (H : Nat → Cell) (P : Nat → Prop) (f : Nat → Option Value) : Prop :=
  ∀ k, k < 7 → (P k → ∃ v, f k = some v ∧ ChainV news H k v) ∧ (¬ P k → f k = none)
theorem ChainV.mono {news news' : List (Addr × Obj)} {H : Nat → Cell} {k : Nat} {v : Value} (hs : ∀ p ∈ news, p ∈ news') (h : ChainV news H k v) : ChainV news' H k v := by
  obtain ⟨T, l, ev, vs, n, ks, c, e, a, b, r1, r2, r3⟩ := h
  exact ⟨T, l, ev, vs, n, ks, c, e, hs _ a, hs _ b, r1, r2, r3⟩
theorem FoundOk.of_iff {news : List (Addr × Obj)} {H : Nat → Cell} {P P' : Nat → Prop} {f : Nat → Option Value} (h : FoundOk news H P f) (e : ∀ k, k < 7 → (P' k ↔ P k)) : FoundOk news H P' f :=
  fun k hk => ⟨fun hp => (h k hk).1 ((e k hk).mp hp), fun hn => (h k hk).2 fun hp => hn ((e k hk).mpr hp)⟩
theorem news_apart {h₀ h : Heap} {L : Addr} {all : List (Addr × Obj)} (N : News h₀ L h all) {a b : Addr × Obj} (ha : a ∈ all) (hb : b ∈ all) (hc : a.2.cls ≠ b.2.cls) : a.1 ≠ b.1 := fun e => by
  have h1 := (N a ha).1
  have h2 := (N b hb).1
  rw [e, h2] at h1
  exact hc (congrArg (·.cls) (Option.some.inj h1)).symm
theorem type_ne {x y : String} (h : x ≠ y) : Value.type x ≠ Value.type y := fun e => h (Value.type.inj e)
theorem DictF.cls {w : World} {o : Obj} {f : Nat → Option Value} (h : DictF w o f) : o.cls = .type "dict" := by
  obtain ⟨kvs, ⟨es, ep, hx, _⟩, _⟩ := h
  exact hx.1
section
variable {w : World} {A : Around} {E : Value → Shared → Prop} {s : Shared} {h₀ : Heap} {L Fd I T l : Addr} {m : Str → Option Value} {rest : List (Addr × Obj)} {it o : Obj} {f : Nat → Option Value} {i : Nat} {t : Tok} {H : Nat → Cell} {P P' : Nat → Prop}
theorem set_found {ev : Value} {vs : Array Value} {n : Nat} {ks : List Nat} {c : Cell} {Q : Unit → Shared → Prop} (F : Fr h₀ L s.heap m)
    (N : News h₀ L s.heap ((T, tup [.ref l, ev]) :: (l, W.listOf vs n) :: (I, it) :: (Fd, o) :: rest)) (hic : it.cls = .type "range_iterator" ∨ it.cls = .type "list_iterator") (hrest : ∀ p ∈ rest, p.1 ≠ Fd) (hoff : ∀ p ∈ (Fd, o) :: rest, p.1 ≠ I)
    (hF : DictF w o f) (hok : FoundOk rest H P f) (hi : i < 7) (hv : IntsV vs.toList ks) (he : CellV c ev) (hf : fol H 5 i = some (ks, c)) (hP : ∀ k, P' k ↔ (k = i ∨ P k))
    (h : ∀ h' tk' o' f' rest', (∀ p ∈ rest, p ∈ rest') → (∀ p ∈ rest', p.1 ≠ Fd) → (∀ p ∈ (Fd, o') :: rest', p.1 ≠ I) → DictF w o' f' → FoundOk rest' H P' f' → Fr h₀ L h' m → News h₀ L h' ((I, it) :: (Fd, o') :: rest') → Q () { s with heap := h', toks := tk' }) :
    wpAny (model PG w) A (setItem (.ref Fd) (.int (i : Int) t) (.ref T)) Q E s := by
  have hic' : it.cls ≠ .type "tuple" ∧ it.cls ≠ .type "list" := by
    rcases hic with e | e <;> (rw [e]; exact ⟨type_ne (by decide), type_ne (by decide)⟩)
  have mT : (T, tup [.ref l, ev]) ∈ (T, tup [.ref l, ev]) :: (l, W.listOf vs n) :: (I, it) :: (Fd, o) :: rest := by simp
  have ml : (l, W.listOf vs n) ∈ (T, tup [.ref l, ev]) :: (l, W.listOf vs n) :: (I, it) :: (Fd, o) :: rest := by simp
  have mI : (I, it) ∈ (T, tup [.ref l, ev]) :: (l, W.listOf vs n) :: (I, it) :: (Fd, o) :: rest := by simp
  have mF : (Fd, o) ∈ (T, tup [.ref l, ev]) :: (l, W.listOf vs n) :: (I, it) :: (Fd, o) :: rest := by simp
  have z1 : T ≠ Fd := news_apart N mT mF (by rw [show (Fd, o).2.cls = _ from hF.cls]; exact type_ne (by decide))
  have z2 : l ≠ Fd := news_apart N ml mF (by rw [show (Fd, o).2.cls = _ from hF.cls]; exact type_ne (by decide))
  have z3 : T ≠ I := news_apart N mT mI (fun e => hic'.1 e.symm)
  have z4 : l ≠ I := news_apart N ml mI (fun e => hic'.2 e.symm)
  have z5 : I ≠ Fd := fun e => hoff _ (.head _) e.symm
  refine set_F (rest := (T, tup [.ref l, ev]) :: (l, W.listOf vs n) :: (I, it) :: rest) (o := o) F (fun p hp => N p (by simp only [List.mem_cons] at hp ⊢; rcases hp with h | h | h | h | h <;> simp [h])) ?_ hF hi (fun o' h' tk' hF' F' N' => ?_)
  · intro p hp
    simp only [List.mem_cons] at hp
    rcases hp with rfl | rfl | rfl | hp
    · exact z1
    · exact z2
    · exact z5
    · exact hrest p hp
  · refine h h' tk' o' _ ((T, tup [.ref l, ev]) :: (l, W.listOf vs n) :: rest) (fun p hp => by simp [hp]) ?_ ?_ hF' ?_ F' (fun p hp => N' p (by simp only [List.mem_cons] at hp ⊢; rcases hp with h | h | h | h | h <;> simp [h]))
    · intro p hp
      simp only [List.mem_cons] at hp
      rcases hp with rfl | rfl | hp
      · exact z1
      · exact z2
      · exact hrest p hp
    · intro p hp
      simp only [List.mem_cons] at hp
      rcases hp with rfl | rfl | rfl | hp
      · exact fun e => z5 e.symm
      · exact z3
      · exact z4
      · exact hoff p (.tail _ hp)
    · intro k hk
      obtain ⟨a, b⟩ := hok k hk
      by_cases z : k = i
      · subst z
        exact ⟨fun _ => ⟨.ref T, by simp, T, l, ev, vs, n, ks, c, rfl, by simp, by simp, hv, he, hf⟩, fun hn => absurd ((hP k).mpr (.inl rfl)) hn⟩
      · refine ⟨fun hp => ?_, fun hn => ?_⟩
        · rcases (hP k).mp hp with e | hp
          · exact absurd e z
          · obtain ⟨v, hv', hc⟩ := a hp
            exact ⟨v, by simp [z, hv'], hc.mono fun p hp => by simp [hp]⟩
        · simp only [z, if_false]
          exact b fun hp => hn ((hP k).mpr (.inr hp))
end
theorem SetX.cls {w : World} {o : Obj} {es : Array (Int × Value)} (h : SetX w o es) : o.cls = .type "set" := by
  obtain ⟨_, _, hx, _⟩ := h
  exact hx.1
theorem isDict_cls {w : World} {o : Obj} {kvs : List (List UInt8 × Value)} (h : o.IsDictOf (bytesKind PG w) kvs) : o.cls = .type "dict" := by
  obtain ⟨es, ep, hx, _⟩ := h
  exact hx.1
theorem dr_apart {g h : Heap} {L T S Dr : Addr} {to os ob : Obj} {news : List (Addr × Obj)} (N2 : News g L h ((T, to) :: (S, os) :: (Dr, ob) :: news)) (hto : T = S ∧ to = os ∨ to.cls = .type "tuple") (cS : os.cls = .type "set") (cD : ob.cls = .type "dict") (l1 : ∀ p ∈ news, p.1 < Dr) :
    ∀ p ∈ (T, to) :: (S, os) :: news, p.1 ≠ Dr := by
  have mD : (Dr, ob) ∈ (T, to) :: (S, os) :: (Dr, ob) :: news := .tail _ (.tail _ (.head _))
  have mS : (S, os) ∈ (T, to) :: (S, os) :: (Dr, ob) :: news := .tail _ (.head _)
  have aS : S ≠ Dr := news_apart N2 mS mD (by rw [show (Dr, ob).2.cls = _ from cD, show (S, os).2.cls = _ from cS]; exact type_ne (by decide))
  intro p hp
  rcases List.mem_cons.mp hp with rfl | hp
  · rcases hto with ⟨rfl, rfl⟩ | hto
    · exact aS
    · exact news_apart N2 (.head _) mD (by rw [show (Dr, ob).2.cls = _ from cD, show (T, to).2.cls = _ from hto]; exact type_ne (by decide))
  · rcases List.mem_cons.mp hp with rfl | hp
    · exact aS
    · exact Nat.ne_of_lt (l1 p hp)
theorem fol_ok {H : Nat → Cell} (hok : ∀ i, i < 7 → CellOk (H i)) {i : Nat} (hi : i < 7) {ks : List Nat} {c : Cell} {d : Nat} (h : fol H d i = some (ks, c)) : CellOk c := by
  obtain ⟨h1, h2, _, h3⟩ := fol_last hok hi h
  rw [← h3]
  refine hok _ ?_
  cases ks with
  | nil => exact absurd rfl h1
  | cons a l => rw [List.getLastD_cons]; exact h2 _ (by rw [List.getLastD_eq_getLast?]; cases z : l.getLast? with
      | none => simp
      | some y => simp [List.mem_of_getLast? z])
theorem endsH_none {H : Nat → Cell} {j : Nat} {ks : List Nat} (h : fol H 5 j = some (ks, none)) : endsH H j = none := by unfold endsH; rw [h]
theorem endsH_nil {H : Nat → Cell} {j : Nat} (h : fol H 5 j = none) : endsH H j = none := by unfold endsH; rw [h]
theorem vis_step {V : List Nat} {ord : List Value} {i j : Nat} {tv : Tok} (hvis : ∀ k, k < i → ∃ j ∈ V, ∃ t, ord[k]? = some (.bytes (nm j).toArray t)) (hv : ord[i]? = some (.bytes (nm j).toArray tv)) :
    ∀ k, k < i + 1 → ∃ j' ∈ j :: V, ∃ t, ord[k]? = some (.bytes (nm j').toArray t) := fun k hk => by
  rcases Nat.lt_succ_iff_lt_or_eq.mp hk with h | rfl
  · obtain ⟨j', a, t, e⟩ := hvis k h
    exact ⟨j', .tail _ a, t, e⟩
  · exact ⟨j, .head _, tv, hv⟩
theorem mem_step {V : List Nat} {j : Nat} (h : ∀ j ∈ V, j < 7) (hj : j < 7) : ∀ j' ∈ j :: V, j' < 7 := fun j' hm => by
  rcases List.mem_cons.mp hm with rfl | hm
  · exact hj
  · exact h j' hm
theorem vis_all {w : World} {kvs : List (List UInt8 × Value)} {H : Nat → Cell} {es : Array (Int × Value)} {ord : List Value} {V : List Nat} (RK : RefsKV kvs H) (hE : EsOf w es (kvs.map (·.1))) (hperm : ord.Perm (es.toList.map (·.2)))
    (hvis : ∀ k, k < ord.length → ∃ j ∈ V, ∃ t, ord[k]? = some (.bytes (nm j).toArray t)) (hV7 : ∀ j ∈ V, j < 7) : ∀ i, i < 7 → endsH H i = visH V H i := fun i hi => by
  unfold visH
  split
  · rfl
  · rename_i hV
    cases hH : H i with
    | none => exact endsH_none (fol_none hH)
    | some x =>
      exfalso
      obtain ⟨v, hv⟩ := RK.full i hi (by rw [hH]; exact fun e => nomatch e)
      have hk : nm i ∈ kvs.map (·.1) := List.mem_map.mpr ⟨_, hv, rfl⟩
      obtain ⟨e, he, t, ht⟩ := hE.2.1 _ hk
      have hm : e.2 ∈ ord := hperm.mem_iff.mpr (List.mem_map.mpr ⟨e, he, rfl⟩)
      obtain ⟨k, hk', hke⟩ := List.mem_iff_getElem.mp hm
      obtain ⟨j, hj, t', hjt⟩ := hvis k hk'
      rw [List.getElem?_eq_getElem hk', hke, ht] at hjt
      injection hjt with h1
      injection h1 with h2
      have h3 : nm i = nm j := by simpa using congrArg Array.toList h2
      have h4 := nm_inj hi (hV7 j hj) h3
      subst h4
      exact hV hj
theorem Fr.ground {g : Heap} {L : Addr} {h : Heap} {m : Str → Option Value} (F : PyProof.Rows.Fr g L h m) : ∃ g2, g2 = g := ⟨_, rfl⟩
section
variable {dp un : Nat} {gd : Option (List Code)} {env : Env} {outer : List Env} {A₀ : Around} {base h₀ g₀ : Heap} {L : Addr} {m : Str → Option Value} {mean : ExcName → Option Value} {mg mb : Str → Option Value} {w : World} {s : Shared} {Q E : Value → Shared → Prop} {news : List (Addr × Obj)}
variable {R Dd Ad P : Addr} {o : Obj} {kvs : List (List UInt8 × Value)} {H : Nat → Cell} {i1 i2 : Int} {t1 t2 : Tok}
theorem c_asdict (B : Below (AA dp un gd outer) base outer h₀) (F : Fr h₀ L s.heap m) (X : (hd.heap_1 w.params).In h₀) (N : News h₀ L s.heap news) (T : Top hd.view_1 loose mean mg mb h₀) (hf : env.frame = some L) (hke : env.scope.kind = .function) (XB : (hd.heap_1 w.params).In base) (TB : Top hd.view_1 loose mean mg mb base) (D : KtsDicts (outer.filterMap (·.frame)) h₀) (T0 : KtsTurn (outer.filterMap (·.frame)) g₀ h₀)
   (hdp : dp + 60 < recursionLimit) (hu : un + 600 < cLine) (hR : (R, instObj 304 Dd) ∈ news) (hD : (Dd, dictOf [⟨i1, .str (Str.ofString "_refs") t1, .ref Ad⟩, ⟨i2, .str (Str.ofString "_peeled") t2, .ref P⟩] 2) ∈ news) (hA : (Ad, o) ∈ news) (hO : o.IsDictOf (bytesKind PG w) kvs) (hAs : (Ad == sysModules) = false) (RK : RefsKV kvs H)
   (hret : ∀ Dr od rkvs h₁ h' tk' dr, od.IsDictOf (bytesKind PG w) rkvs → RefsKV rkvs (endsH H) → KtsTurn (outer.filterMap (·.frame)) g₀ h₁ → Fr h₁ L h' m → News h₁ L h' ((Dr, od) :: news) → Below (AA dp un gd outer) base outer h₁ → (hd.heap_1 w.params).In h₁ →
      Top hd.view_1 loose mean mg mb h₁ → KtsDicts (outer.filterMap (·.frame)) h₁ → (Dr == sysModules) = false → Q (.ref Dr) { s with heap := h', toks := tk', drawn := dr }) :
   wpAny (model PG w) ((AA dp un gd outer).deeper env) (call (.ref 161) [.ref R]) Q E s := by
   refine Kf ?_
   simp (disch := (refine @id _ ?_; k_dflt (
    have zF10 := U 10; have zF2 := U 2; have zF3 := U 3; have zF16 := U 16; have zF23 := U 23; have zF26 := U 26; have zF8 := U 8; have zF57 := U 57
    have XS : (hd.heap_1 w.params).In s.heap := X.keeps F.keep
    k_extra "M:enterS"
    clear XS
    k_steps
    unfold MStop
    rename (Drw == sysModules) = false => loD
    rename Obj.IsDictOf (intKind _ _) _ _ => hi0
    refine' c_keys ?zq_zB ?zq_zF ?zq_zX ?zq_zN ?zq_zT ?zq_zf ?zq_zk ?zq_zd ?zq_zu ?zq_zR ?zq_zD ?zq_zA ?zq_zO ?zq_zS ?zq_zV ?_
    (case zq_zV => assumption); (case zq_zO => assumption); (case zq_zB => k_asm); (case zq_zF => k_asm); (case zq_zX => k_asm); (case zq_zN => k_asm); (case zq_zT => k_asm); (case zq_zf => exact rfl); (case zq_zk => exact rfl); (case zq_zd => k_room); (case zq_zu => k_units); (case zq_zR => exact .tail _ (by assumption)); (case zq_zD => exact .tail _ (by assumption)); (case zq_zA => exact .tail _ (by assumption)); (case zq_zS => assumption)
    intro S os es h' tk' hX hE F' N'
    k_steps
    unfold MStop
    have hlen : es.size ≤ 100 := by rw [hE.2.2, List.length_map]; exact Nat.le_trans RK.len (by decide)
    refine' iter_XN ?zq_yF ?zq_yN (.head _) hX hlen ?_
    case zq_yF => k_asm
    case zq_yN => k_asm
    intro I T to h2 dr ord hperm hit F2 N2 hto hIS hIT hLI hgI hoffI
    obtain ⟨gg, rfl⟩ := Fr.ground F2
    have hDT : ∀ p ∈ (T, to) :: (S, os) :: news, p.1 ≠ Drw := by
      rename (∀ p ∈ news, p.1 < Drw) => lD
      exact dr_apart N2 hto (SetX.cls hX) (isDict_cls (isDict_nil hi0)) lD
    refine' loop_setX (J := JA w ((AA dp un gd outer).deeper env) base (env :: outer) gg mean mg mb H ord Drw R ((T, to) :: (S, os) :: news)) (to := to) rfl (by rfl) (by rfl) hit hperm hIS hIT ?zq_zfp hLI ?zq_yF ?zq_yN ?zq_yj ?zq_yt ?zq_yd
    case zq_yF => k_asm
    case zq_yj =>
      refine ⟨⟨KtsTurn.refl, by assumption, by assumption, by assumption, by assumption⟩, _, [], [], rfl, isDict_nil hi0, ?_, fun k hk => absurd hk (Nat.not_lt_zero _), by simp, rfl, rfl, _, rfl⟩
      exact RefsKV.nil.congr fun i hi => by simp [visH]
    case zq_yN => exact cb_drop N2 (fun p hp => by
        simp only [List.mem_cons] at hp ⊢
        rcases hp with h | h | h | h <;> simp [h])
    case zq_zfp =>
      rintro i g m nx ⟨⟨T1, _⟩, od, rkvs, V, rfl, _⟩
      refine ⟨.tail _ (.tail _ (.head _)), .tail _ (.head _), T1.none_ _ hgI, fun p hp => ?_⟩
      rcases List.mem_cons.mp hp with rfl | hp
      · have z := hoffI _ (List.Mem.tail _ (List.Mem.tail _ (List.Mem.head _)))
        exact z
      · refine hoffI p ?_
        simp only [List.mem_cons] at hp ⊢
        rcases hp with h | h | h <;> simp [h]
    case zq_yt =>
      rintro i v g m₁ nx h tk it hv hic ⟨⟨T1, B1, X1, TT1, D1⟩, od, rkvs, V, rfl, hod, hrk, hvis, hV7, mr, ms, tb, mb'⟩ F₁ N₁
      have hvm : v ∈ es.toList.map (·.2) := hperm.mem_iff.mp (List.mem_of_getElem? hv)
      obtain ⟨e, he, rfl⟩ := List.mem_map.mp hvm
      obtain ⟨k, hk, tv, rfl⟩ := hE.1 e he
      obtain ⟨kv, hkv, rfl⟩ := List.mem_map.mp hk
      obtain ⟨j, hj, hjn, hHj, _⟩ := RK.sound kv hkv
      rw [hjn] at F₁ hv
      k_steps
      unfold MStop
      k_dflt (refine' c_item (dp := dp + 1) (un := un + 4) (gd := gd) (outer := env :: outer) (R := R) (i := j) (w := w) ?zq_zB ?zq_zF ?zq_zX ?zq_zN ?zq_zT ?zq_zf ?zq_zk ?zq_zXB ?zq_zTB ?zq_zD2 ?zq_zT0 ?zq_zd ?zq_zu ?zq_zR ?zq_zDD ?zq_zA ?zq_zO ?zq_zS ?zq_zV hj ?zq_iT ?zq_iK ?zq_iL)
      (case zq_zV => exact RK); (case zq_zO => exact hO); (case zq_zB => exact ⟨B1.stack, B1.stays, B1.frames⟩); (case zq_zF => k_asm); (case zq_zX => k_asm); (case zq_zN => k_asm); (case zq_zT => k_asm); (case zq_zf => exact rfl); (case zq_zk => exact rfl); (case zq_zd => k_room); (case zq_zu => k_units); (case zq_zS => exact hAs)
      (case zq_zXB => assumption); (case zq_zTB => assumption); (case zq_zD2 => k_asm); (case zq_zT0 => k_asm)
      (case zq_zR => exact .tail _ (.tail _ (.tail _ (.tail _ hR)))); (case zq_zDD => exact .tail _ (.tail _ (.tail _ (.tail _ hD)))); (case zq_zA => exact .tail _ (.tail _ (.tail _ (.tail _ hA))))
      case zq_iT =>
        intro ks c hfo t' h' tk' F' N'
        k_steps
        unfold MStop
        refine' set_name (i := j) (x := .inr c) F' N' (.tail _ (.head _)) hod hrk hj (fol_ok RK.ok hj hfo) ?_
        intro o' kvs' h2 tk2 hO' RK' F2 N2
        k_steps
        have N3 := N2 ((I, it) :: (T, to) :: (S, os) :: news) (fun p hp => by
          rcases List.mem_cons.mp hp with rfl | hp
          · exact ⟨.head _, fun e => hoffI _ (List.Mem.tail _ (List.Mem.tail _ (List.Mem.head _))) e.symm⟩
          · exact ⟨.tail _ (.tail _ hp), hDT p hp⟩)
        refine ⟨_, _, _, _, _, rfl, F2, cb_drop N3 (fun p hp => ?_), ⟨T1, B1, X1, TT1, D1⟩, o', kvs', j :: V, rfl, hO', visH_val hfo ▸ RK', vis_step hvis hv, mem_step hV7 hj, (if_neg (by decide)).trans mr, (if_neg (by decide)).trans ms, _, (if_neg (by decide)).trans mb'⟩
        simp only [List.mem_cons] at hp ⊢
        rcases hp with h | h | h
        · simp [h]
        · simp [h]
        · rcases h with h | h | h <;> simp [h]
      case zq_iK =>
        intro ks hfo e' h' tk' G' FG RS UG
        k_steps
        refine ⟨_, _, _, _, _, rfl, by assumption, by assumption, ⟨by assumption, by assumption, by assumption, by assumption, by assumption⟩, od, rkvs, j :: V, rfl, hod, (by rw [visH_non (endsH_none hfo)]; exact hrk), vis_step hvis hv, mem_step hV7 hj, ?_, ?_, tb, ?_⟩
        · exact (if_neg (by decide)).trans mr
        · exact (if_neg (by decide)).trans ms
        · exact (if_neg (by decide)).trans mb'
      case zq_iL =>
        intro hfo e' h' tk' G' FG RS UG
        k_steps
        refine ⟨_, _, _, _, _, rfl, by assumption, by assumption, ⟨by assumption, by assumption, by assumption, by assumption, by assumption⟩, od, rkvs, j :: V, rfl, hod, (by rw [visH_non (endsH_nil hfo)]; exact hrk), vis_step hvis hv, mem_step hV7 hj, ?_, ?_, tb, ?_⟩
        · exact (if_neg (by decide)).trans mr
        · exact (if_neg (by decide)).trans ms
        · exact (if_neg (by decide)).trans mb'
    case zq_yd =>
      rintro g m₁ nx h tk ⟨⟨T1, B1, X1, TT1, D1⟩, od, rkvs, V, rfl, hod, hrk, hvis, hV7, mr, ms, tb, mb'⟩ F₁ N₁
      k_steps
      rename News _ L _ _ => kN'
      refine hret _ od rkvs _ _ _ _ hod (hrk.congr (vis_all RK hE hperm hvis hV7)) (by assumption) (by assumption) (cb_drop kN' ?_) (by assumption) (by assumption) (by assumption) (by assumption) (by assumption)
      intro p hp
      rcases List.mem_cons.mp hp with rfl | hp
      · exact .head _
      · exact .tail _ (.tail _ (.tail _ hp))))) only [↓Kn]
end
def linkH (H : Nat → Cell) (j : Nat) : Option (List UInt8) := match H j with
  | some (.inl k) => some (nm k)
  | _ => none
def visL (V : List Nat) (H : Nat → Cell) : Nat → Option (List UInt8) := fun j => if j ∈ V then linkH H j else none
theorem visL_val {V : List Nat} {H : Nat → Cell} {j k : Nat} (hf : H j = some (.inl k)) : visL (j :: V) H = fun i => if i = j then some (nm k) else visL V H i := by
  funext i
  unfold visL
  by_cases z : i = j
  · subst z
    simp [linkH, hf]
  · simp [z]
theorem visL_non {V : List Nat} {H : Nat → Cell} {j c : Nat} (hf : H j = some (.inr c)) : visL (j :: V) H = visL V H := by
  funext i
  unfold visL
  by_cases z : i = j
  · subst z
    by_cases y : i ∈ V <;> simp [linkH, hf, y]
  · simp [z]
theorem visL_all {w : World} {kvs : List (List UInt8 × Value)} {H : Nat → Cell} {es : Array (Int × Value)} {ord : List Value} {V : List Nat} (RK : RefsKV kvs H) (hE : EsOf w es (kvs.map (·.1))) (hperm : ord.Perm (es.toList.map (·.2)))
    (hvis : ∀ k, k < ord.length → ∃ j ∈ V, ∃ t, ord[k]? = some (.bytes (nm j).toArray t)) (hV7 : ∀ j ∈ V, j < 7) : ∀ i, i < 7 → linkH H i = visL V H i := fun i hi => by
  unfold visL
  split
  · rfl
  · rename_i hV
    cases hH : H i with
    | none => unfold linkH; rw [hH]
    | some x =>
      exfalso
      obtain ⟨v, hv⟩ := RK.full i hi (by rw [hH]; exact fun e => nomatch e)
      have hk : nm i ∈ kvs.map (·.1) := List.mem_map.mpr ⟨_, hv, rfl⟩
      obtain ⟨e, he, t, ht⟩ := hE.2.1 _ hk
      have hm : e.2 ∈ ord := hperm.mem_iff.mpr (List.mem_map.mpr ⟨e, he, rfl⟩)
      obtain ⟨k, hk', hke⟩ := List.mem_iff_getElem.mp hm
      obtain ⟨j, hj, t', hjt⟩ := hvis k hk'
      rw [List.getElem?_eq_getElem hk', hke, ht] at hjt
      injection hjt with h1
      injection h1 with h2
      have h3 : nm i = nm j := by simpa using congrArg Array.toList h2
      have h4 := nm_inj hi (hV7 j hj) h3
      subst h4
      exact hV hj
inductive JS (w : World) (A : Around) (base : Heap) (outer : List Env) (g0 : Heap) (mean : ExcName → Option Value) (mg mb : Str → Option Value) (H : Nat → Cell) (ord : List Value) (Dr R : Addr) (led : List (Addr × Obj)) (i : Nat) (g : Heap) (m : Str → Option Value) (nx : List (Addr × Obj)) : Prop
  | mk : Gnd w A base outer g0 g mean mg mb → ∀ od rkvs V, nx = (Dr, od) :: led → od.IsDictOf (bytesKind PG w) rkvs → KVB rkvs (visL V H) → (∀ k, k < i → ∃ j ∈ V, ∃ t, ord[k]? = some (.bytes (nm j).toArray t)) → (∀ j ∈ V, j < 7) → m (Str.ofString "ret") = some (.ref Dr) → m (Str.ofString "self") = some (.ref R) → JS w A base outer g0 mean mg mb H ord Dr R led i g m nx
section
variable {dp un : Nat} {gd : Option (List Code)} {env : Env} {outer : List Env} {A₀ : Around} {base h₀ g₀ : Heap} {L : Addr} {m : Str → Option Value} {mean : ExcName → Option Value} {mg mb : Str → Option Value} {w : World} {s : Shared} {Q E : Value → Shared → Prop} {news : List (Addr × Obj)}
variable {R Dd Ad P : Addr} {o : Obj} {kvs : List (List UInt8 × Value)} {H : Nat → Cell} {i1 i2 : Int} {t1 t2 : Tok}
theorem c_symrefs (B : Below (AA dp un gd outer) base outer h₀) (F : Fr h₀ L s.heap m) (X : (hd.heap_1 w.params).In h₀) (N : News h₀ L s.heap news) (T : Top hd.view_1 loose mean mg mb h₀) (hf : env.frame = some L) (hke : env.scope.kind = .function) (XB : (hd.heap_1 w.params).In base) (TB : Top hd.view_1 loose mean mg mb base) (D : KtsDicts (outer.filterMap (·.frame)) h₀) (T0 : KtsTurn (outer.filterMap (·.frame)) g₀ h₀)
   (hdp : dp + 60 < recursionLimit) (hu : un + 600 < cLine) (hR : (R, instObj 304 Dd) ∈ news) (hD : (Dd, dictOf [⟨i1, .str (Str.ofString "_refs") t1, .ref Ad⟩, ⟨i2, .str (Str.ofString "_peeled") t2, .ref P⟩] 2) ∈ news) (hA : (Ad, o) ∈ news) (hO : o.IsDictOf (bytesKind PG w) kvs) (hAs : (Ad == sysModules) = false) (RK : RefsKV kvs H)
   (hret : ∀ Dr od rkvs h₁ h' tk' dr, od.IsDictOf (bytesKind PG w) rkvs → KVB rkvs (linkH H) → KtsTurn (outer.filterMap (·.frame)) g₀ h₁ → Fr h₁ L h' m → News h₁ L h' ((Dr, od) :: news) → Below (AA dp un gd outer) base outer h₁ → (hd.heap_1 w.params).In h₁ →
      Top hd.view_1 loose mean mg mb h₁ → KtsDicts (outer.filterMap (·.frame)) h₁ → (Dr == sysModules) = false → Q (.ref Dr) { s with heap := h', toks := tk', drawn := dr }) :
   wpAny (model PG w) ((AA dp un gd outer).deeper env) (call (.ref 224) [.ref R]) Q E s := by
   refine Kf ?_
   simp (disch := (refine @id _ ?_; k_dflt (
    have zF10 := U 10; have zF2 := U 2; have zF3 := U 3; have zF16 := U 16; have zF23 := U 23; have zF26 := U 26; have zF8 := U 8; have zF58 := U 58
    k_extra "M:enterS"
    k_steps
    unfold MStop
    rename (Drw == sysModules) = false => loD
    rename Obj.IsDictOf (intKind _ _) _ _ => hi0
    k_dflt (refine' c_allkeys ?zq_zB ?zq_zF ?zq_zX ?zq_zN ?zq_zT ?zq_zf ?zq_zk ?zq_zd ?zq_zu ?zq_zR ?zq_zD ?zq_zA ?zq_zO ?zq_zS ?zq_zV ?_)
    (case zq_zV => assumption); (case zq_zO => assumption); (case zq_zB => k_asm); (case zq_zF => k_asm); (case zq_zX => k_asm); (case zq_zN => k_asm); (case zq_zT => k_asm); (case zq_zf => exact rfl); (case zq_zk => exact rfl); (case zq_zd => k_room); (case zq_zu => k_units); (case zq_zR => exact .tail _ (by assumption)); (case zq_zD => exact .tail _ (by assumption)); (case zq_zA => exact .tail _ (by assumption)); (case zq_zS => assumption)
    intro S os es h' tk' hX hE F' N'
    k_steps
    unfold MStop
    have hlen : es.size ≤ 100 := by rw [hE.2.2, List.length_map]; exact Nat.le_trans RK.len (by decide)
    refine' iter_XN ?zq_yF ?zq_yN (.head _) hX hlen ?_
    case zq_yF => k_asm
    case zq_yN => k_asm
    intro I T to h2 dr ord hperm hit F2 N2 hto hIS hIT hLI hgI hoffI
    obtain ⟨gg, rfl⟩ := Fr.ground F2
    have hDT : ∀ p ∈ (T, to) :: (S, os) :: news, p.1 ≠ Drw := by
      rename (∀ p ∈ news, p.1 < Drw) => lD
      exact dr_apart N2 hto (SetX.cls hX) (isDict_cls (isDict_nil hi0)) lD
    refine' loop_setX (J := JS w ((AA dp un gd outer).deeper env) base (env :: outer) gg mean mg mb H ord Drw R ((T, to) :: (S, os) :: news)) (to := to) rfl (by rfl) (by rfl) hit hperm hIS hIT ?zq_zfp hLI ?zq_yF ?zq_yN ?zq_yj ?zq_yt ?zq_yd
    case zq_yF => k_asm
    case zq_yj =>
      refine ⟨⟨KtsTurn.refl, by assumption, by assumption, by assumption, by assumption⟩, _, [], [], rfl, isDict_nil hi0, ?_, fun k hk => absurd hk (Nat.not_lt_zero _), by simp, rfl, rfl⟩
      exact KVB.nil.congr fun i hi => by simp [visL]
    case zq_yN => exact cb_drop N2 (fun p hp => by
        simp only [List.mem_cons] at hp ⊢
        rcases hp with h | h | h | h <;> simp [h])
    case zq_zfp =>
      rintro i g m nx ⟨⟨T1, _⟩, od, rkvs, V, rfl, _⟩
      refine ⟨.tail _ (.tail _ (.head _)), .tail _ (.head _), T1.none_ _ hgI, fun p hp => ?_⟩
      rcases List.mem_cons.mp hp with rfl | hp
      · have z := hoffI _ (List.Mem.tail _ (List.Mem.tail _ (List.Mem.head _)))
        exact z
      · refine hoffI p ?_
        simp only [List.mem_cons] at hp ⊢
        rcases hp with h | h | h <;> simp [h]
    case zq_yt =>
      rintro i v g m₁ nx h tk it hv hic ⟨⟨T1, B1, X1, TT1, D1⟩, od, rkvs, V, rfl, hod, hrk, hvis, hV7, mr, ms⟩ F₁ N₁
      have hvm : v ∈ es.toList.map (·.2) := hperm.mem_iff.mp (List.mem_of_getElem? hv)
      obtain ⟨e, he, rfl⟩ := List.mem_map.mp hvm
      obtain ⟨k, hk, tv, rfl⟩ := hE.1 e he
      obtain ⟨kv, hkv, rfl⟩ := List.mem_map.mp hk
      obtain ⟨j, hj, hjn, hHj, _⟩ := RK.sound kv hkv
      rw [hjn] at F₁ hv
      k_steps
      unfold MStop
      k_dflt (refine' r_ref (outer := env :: outer) (R := R) (i := j) (w := w) ?zq_zB ?zq_zF ?zq_zX ?zq_zN ?zq_zT ?zq_zf ?zq_zk ?zq_zd ?zq_zu ?zq_zR ?zq_zDD ?zq_zA ?zq_zO ?zq_zS ?zq_zV hj ?_)
      (case zq_zV => exact RK); (case zq_zO => exact hO); (case zq_zB => exact ⟨B1.stack, B1.stays, B1.frames⟩); (case zq_zF => k_asm); (case zq_zX => k_asm); (case zq_zN => k_asm); (case zq_zT => k_asm); (case zq_zf => exact rfl); (case zq_zk => exact rfl); (case zq_zd => k_room); (case zq_zu => k_units); (case zq_zS => exact hAs)
      (case zq_zR => exact .tail _ (.tail _ (.tail _ (.tail _ hR)))); (case zq_zDD => exact .tail _ (.tail _ (.tail _ (.tail _ hD)))); (case zq_zA => exact .tail _ (.tail _ (.tail _ (.tail _ hA))))
      intro v2 h3 tk3 hv2 F3 N3
      cases hH : H j with
      | none => exact absurd hH hHj
      | some x =>
        rw [hH] at hv2
        obtain ⟨t2, rfl⟩ := hv2
        rcases x with k2 | c
        · have hk2 : k2 < 7 := (show CellOk (some (.inl k2)) from hH ▸ RK.ok j hj)
          k_steps
          unfold MStop
          k_dflt (refine' c_parse_ok (outer := env :: outer) (j := k2) (w := w) ?zq_zB ?zq_zF ?zq_zX ?zq_zN ?zq_zT ?zq_zf ?zq_zk ?zq_zd ?zq_zu hk2 ?_)
          (case zq_zB => exact ⟨B1.stack, B1.stays, B1.frames⟩); (case zq_zF => k_asm); (case zq_zX => k_asm); (case zq_zN => k_asm); (case zq_zT => k_asm); (case zq_zf => exact rfl); (case zq_zk => exact rfl); (case zq_zd => k_room); (case zq_zu => k_units)
          intro t4 h4 tk4 F4 N4
          k_steps
          unfold MStop
          refine' set_link (i := j) (c := nm k2) (ka := rkvs) (all := (I, it) :: (Drw, od) :: (T, to) :: (S, os) :: news) ?zq_zF ?zq_zN (.tail _ (.head _)) hod hrk hj ?_
          (case zq_zF => k_asm); (case zq_zN => k_asm)
          intro o' kvs' h2 tk2 hO' RK' F2 N2
          k_steps
          have N3 := N2 ((I, it) :: (T, to) :: (S, os) :: news) (fun p hp => by
            rcases List.mem_cons.mp hp with rfl | hp
            · exact ⟨.head _, fun e => hoffI _ (List.Mem.tail _ (List.Mem.tail _ (List.Mem.head _))) e.symm⟩
            · exact ⟨.tail _ (.tail _ hp), hDT p hp⟩)
          refine ⟨_, _, _, _, _, rfl, F2, cb_drop N3 (fun p hp => ?_), ⟨T1, B1, X1, TT1, D1⟩, o', kvs', j :: V, rfl, hO', (by rw [visL_val hH]; exact RK'), vis_step hvis hv, mem_step hV7 hj, ?_, ?_⟩
          · simp only [List.mem_cons] at hp ⊢
            rcases hp with h | h | h
            · simp [h]
            · simp [h]
            · rcases h with h | h | h <;> simp [h]
          · k_extra "M:look"
          · k_extra "M:look"
        · have hc : 1 ≤ c ∧ c ≤ 7 := (show CellOk (some (.inr c)) from hH ▸ RK.ok j hj)
          k_steps
          unfold MStop
          k_dflt (refine' c_parse_bad (outer := env :: outer) (c := c) (w := w) ?zq_zB ?zq_zF ?zq_zX ?zq_zN ?zq_zT ?zq_zf ?zq_zk ?zq_zXB ?zq_zTB ?zq_zD2 ?zq_zT0 ?zq_zd ?zq_zu hc ?_)
          (case zq_zB => exact ⟨B1.stack, B1.stays, B1.frames⟩); (case zq_zF => k_asm); (case zq_zX => k_asm); (case zq_zN => k_asm); (case zq_zT => k_asm); (case zq_zf => exact rfl); (case zq_zk => exact rfl); (case zq_zd => k_room); (case zq_zu => k_units)
          (case zq_zXB => assumption); (case zq_zTB => assumption); (case zq_zD2 => k_asm); (case zq_zT0 => k_asm)
          intro e' h' tk' G' FG RS UG
          k_steps
          refine ⟨_, _, _, _, _, rfl, by assumption, by assumption, ⟨by assumption, by assumption, by assumption, by assumption, by assumption⟩, od, rkvs, j :: V, rfl, hod, (by rw [visL_non hH]; exact hrk), vis_step hvis hv, mem_step hV7 hj, ?_, ?_⟩
          · k_extra "M:look"
          · k_extra "M:look"
    case zq_yd =>
      rintro g m₁ nx h tk ⟨⟨T1, B1, X1, TT1, D1⟩, od, rkvs, V, rfl, hod, hrk, hvis, hV7, mr, ms⟩ F₁ N₁
      k_steps
      rename News _ L _ _ => kN'
      refine hret _ od rkvs _ _ _ _ hod (hrk.congr (visL_all RK hE hperm hvis hV7)) (by assumption) (by assumption) (cb_drop kN' ?_) (by assumption) (by assumption) (by assumption) (by assumption) (by assumption)
      intro p hp
      rcases List.mem_cons.mp hp with rfl | hp
      · exact .head _
      · exact .tail _ (.tail _ (.tail _ hp))))) only [↓Kn]
end
inductive FreshV (news : List (Addr × Obj)) (H : Nat → Cell) : List Value → List Nat → Prop
  | nil : FreshV news H [] []
  | cons {k : Nat} {T l : Addr} {t : Tok} {ev : Value} {vs : Array Value} {n : Nat} {ks : List Nat} {c : Cell} {us : List Value} {fs : List Nat} : (T, tup [.int (k : Int) t, .ref l, ev]) ∈ news → (l, W.listOf vs n) ∈ news → IntsV vs.toList ks → CellV c ev → fol H 5 k = some (ks, c) → k < 7 →
      FreshV news H us fs → FreshV news H (.ref T :: us) (k :: fs)
theorem FreshV.mono {news news' : List (Addr × Obj)} {H : Nat → Cell} {us : List Value} {fs : List Nat} (hs : ∀ p ∈ news, p ∈ news') (h : FreshV news H us fs) : FreshV news' H us fs := by
  induction h with
  | nil => exact .nil
  | cons a b c d e f _ ih => exact .cons (hs _ a) (hs _ b) c d e f ih
theorem FreshV.append {news : List (Addr × Obj)} {H : Nat → Cell} {us vs : List Value} {fs gs : List Nat} (h : FreshV news H us fs) (g : FreshV news H vs gs) : FreshV news H (us ++ vs) (fs ++ gs) := by
  induction h with
  | nil => exact g
  | cons a b c d e f _ ih => exact .cons a b c d e f ih
theorem FreshV.len {news : List (Addr × Obj)} {H : Nat → Cell} {us : List Value} {fs : List Nat} (h : FreshV news H us fs) : us.length = fs.length := by
  induction h with
  | nil => rfl
  | cons _ _ _ _ _ _ _ ih => simp [ih]
theorem FreshV.get {news : List (Addr × Obj)} {H : Nat → Cell} {us : List Value} {fs : List Nat} (h : FreshV news H us fs) : ∀ (j : Nat) (v : Value), us[j]? = some v → ∃ k T l t ev vs n ks c, fs[j]? = some k ∧ v = .ref T ∧ (T, tup [.int ((k : Nat) : Int) t, .ref l, ev]) ∈ news ∧ (l, W.listOf vs n) ∈ news ∧ IntsV vs.toList ks ∧ CellV c ev ∧ fol H 5 k = some (ks, c) ∧ k < 7 := by
  induction h with
  | nil => intro j v h; simp at h
  | cons a b c d e f _ ih => intro j v h; cases j with
    | zero => simp at h; subst h; exact ⟨_, _, _, _, _, _, _, _, _, rfl, rfl, a, b, c, d, e, f⟩
    | succ j => simpa using ih j v (by simpa using h)
theorem FreshV.refs {news : List (Addr × Obj)} {H : Nat → Cell} {us : List Value} {fs : List Nat} (h : FreshV news H us fs) : ∀ v ∈ us, ∃ T, v = .ref T := by
  induction h with
  | nil => intro v h; cases h
  | cons a b c d e f _ ih => intro v hv; rcases List.mem_cons.mp hv with rfl | hv
                             · exact ⟨_, rfl⟩
                             · exact ih v hv
section
variable {w : World} {A : Around} {E : Value → Shared → Prop} {s : Shared} {h₀ : Heap} {L Fd Fl I I2 T l : Addr} {m : Str → Option Value} {rest all : List (Addr × Obj)} {it it2 o : Obj} {f : Nat → Option Value} {i : Nat} {t : Tok} {H : Nat → Cell}
theorem app_all {D : Addr} {its : Array Value} {n : Nat} {x : Value} {Q : Value → Shared → Prop} (F : Fr h₀ L s.heap m) (N : News h₀ L s.heap all) (hm : (D, W.listOf its n) ∈ all) (hsz : its.size ≤ sizeLine)
    (h : ∀ h', Fr h₀ L h' m → (∀ want : List (Addr × Obj), (∀ p ∈ want, p ∈ all ∧ p.1 ≠ D) → News h₀ L h' ((D, W.listOf (its.push x) (n + 1)) :: want)) → Q .none { s with heap := h' }) :
    wpAny (model PG w) A (call (.builtin "list.append") [.ref D, x]) Q E s := by
  have z := N _ hm
  refine append_at (hsz := hsz) z.1 fun h' hs ho' => h h' (F.change hs z.2.1 z.2.2) fun want hw p hp => ?_
  rcases List.mem_cons.mp hp with rfl | hp
  · exact ⟨ho', z.2⟩
  · exact ⟨hs.extBut _ _ (hw p hp).2 (N p (hw p hp).1).1, (N p (hw p hp).1).2⟩
theorem set_all {v : Value} {Q : Unit → Shared → Prop} (F : Fr h₀ L s.heap m) (N : News h₀ L s.heap all) (hm : (Fd, o) ∈ all) (hF : DictF w o f) (hi : i < 7)
    (h : ∀ o' h' tk', DictF w o' (fun j => if j = i then some v else f j) → Fr h₀ L h' m → (∀ want : List (Addr × Obj), (∀ p ∈ want, p ∈ all ∧ p.1 ≠ Fd) → News h₀ L h' ((Fd, o') :: want)) → Q () { s with heap := h', toks := tk' }) :
    wpAny (model PG w) A (setItem (.ref Fd) (.int (i : Int) t) v) Q E s := by
  have z := N _ hm
  obtain ⟨kvs, hd, hk, hv⟩ := hF
  refine wpAny_setItem_pairs (knd := intKind PG w) int_is (dict_at N hm hd) (fun h' hd' hs => ?_) (Nat.le_trans (DictF.len hd hk) (by decide))
  obtain ⟨o', e, hO'⟩ := Heap.dictOf_iff.mp hd'
  refine h o' h' _ ⟨_, hO', stored_keys (fun k => ∃ i : Nat, i < 7 ∧ k = (i : Int)) hk ⟨i, hi, rfl⟩, fun j => ?_⟩ (F.change hs z.2.1 z.2.2) (fun want hw p hp => ?_)
  · rw [va_store, hv]
    by_cases z : j = i
    · subst z; simp
    · have : ¬ ((j : Int) = (i : Int)) := by omega
      simp [z, this]
  · rcases List.mem_cons.mp hp with rfl | hp
    · exact ⟨e, z.2⟩
    · exact ⟨hs.extBut _ _ (hw p hp).2 (N p (hw p hp).1).1, (N p (hw p hp).1).2⟩
structure Lay (Fl I Fd : Addr) (it o : Obj) (rest : List (Addr × Obj)) : Prop where
  fl : ∀ p ∈ (I, it) :: (Fd, o) :: rest, p.1 ≠ Fl
  i : ∀ p ∈ (Fd, o) :: rest, p.1 ≠ I
  fd : ∀ p ∈ rest, p.1 ≠ Fd
theorem app_fresh {fv : Array Value} {fc : Nat} {fs : List Nat} {ev : Value} {vs : Array Value} {n : Nat} {ks : List Nat} {c : Cell} {Q : Value → Shared → Prop} (F : Fr h₀ L s.heap m) (N : News h₀ L s.heap all)
    (mT : (T, tup [.int (i : Int) t, .ref l, ev]) ∈ all) (ml : (l, W.listOf vs n) ∈ all) (m2 : (I2, it2) ∈ all) (mFl : (Fl, W.listOf fv fc) ∈ all) (mI : (I, it) ∈ all) (mF : (Fd, o) ∈ all) (mr : ∀ p ∈ rest, p ∈ all)
    (hc2 : it2.cls = .type "range_iterator") (hcI : it.cls = .type "range_iterator") (hcd : o.cls = .type "dict") (h2 : ∀ p ∈ (Fl, W.listOf fv fc) :: (I, it) :: (Fd, o) :: rest, p.1 ≠ I2) (La : Lay Fl I Fd it o rest)
    (hfr : FreshV rest H fv.toList fs) (hsz : fv.size ≤ 100) (hv : IntsV vs.toList ks) (hks : ks ≠ []) (he : CellV c ev) (hf : fol H 5 i = some (ks, c)) (hi : i < 7)
    (h : ∀ h' rest', (∀ p ∈ rest, p ∈ rest') → (∀ p ∈ (Fl, W.listOf (fv.push (.ref T)) (fc + 1)) :: (I, it) :: (Fd, o) :: rest', p.1 ≠ I2) → Lay Fl I Fd it o rest' → FreshV rest' H (fv.push (.ref T)).toList (fs ++ [i]) → Fr h₀ L h' m →
      News h₀ L h' ((I2, it2) :: (Fl, W.listOf (fv.push (.ref T)) (fc + 1)) :: (I, it) :: (Fd, o) :: rest') → Q .none { s with heap := h' }) :
    wpAny (model PG w) A (call (.builtin "list.append") [.ref Fl, .ref T]) Q E s := by
  have y1 : T ≠ Fl := news_apart N mT mFl (type_ne (by decide))
  have y2 : T ≠ I := news_apart N mT mI (by rw [show (I, it).2.cls = _ from hcI]; exact type_ne (by decide))
  have y3 : T ≠ I2 := news_apart N mT m2 (by rw [show (I2, it2).2.cls = _ from hc2]; exact type_ne (by decide))
  have y4 : T ≠ Fd := news_apart N mT mF (by rw [show (Fd, o).2.cls = _ from hcd]; exact type_ne (by decide))
  have x2 : l ≠ I := news_apart N ml mI (by rw [show (I, it).2.cls = _ from hcI]; exact type_ne (by decide))
  have x3 : l ≠ I2 := news_apart N ml m2 (by rw [show (I2, it2).2.cls = _ from hc2]; exact type_ne (by decide))
  have x4 : l ≠ Fd := news_apart N ml mF (by rw [show (Fd, o).2.cls = _ from hcd]; exact type_ne (by decide))
  have x1 : l ≠ Fl := fun e => by
    have q1 := (N _ ml).1
    have q2 := (N _ mFl).1
    rw [show (l, W.listOf vs n).1 = Fl from e, q2] at q1
    have q3 : vs = fv := by
      have := congrArg (·.data) (Option.some.inj q1)
      have : Data.seq fv fc = Data.seq vs n := this
      injection this with a b
      exact a.symm
    cases hv' : vs.toList with
    | nil => rw [hv'] at hv; cases hv; exact hks rfl
    | cons a as =>
      rw [hv'] at hv
      cases hv with
      | cons t r =>
        obtain ⟨T', e'⟩ := hfr.refs (.int _ t) (by rw [← q3, hv']; exact .head _)
        cases e'
  refine app_all F N mFl (Nat.le_trans hsz (by decide)) fun h' F' N' => ?_
  refine h h' ((T, tup [.int (i : Int) t, .ref l, ev]) :: (l, W.listOf vs n) :: rest) (fun p hp => by simp [hp]) ?_ ⟨?_, ?_, ?_⟩ ?_ F' ?_
  · intro p hp
    simp only [List.mem_cons] at hp
    rcases hp with rfl | rfl | rfl | rfl | rfl | hp
    · exact h2 (Fl, W.listOf fv fc) (.head _)
    · exact h2 _ (.tail _ (.head _))
    · exact h2 _ (.tail _ (.tail _ (.head _)))
    · exact y3
    · exact x3
    · exact h2 p (.tail _ (.tail _ (.tail _ hp)))
  · intro p hp
    simp only [List.mem_cons] at hp
    rcases hp with rfl | rfl | rfl | rfl | hp
    · exact La.fl _ (.head _)
    · exact La.fl _ (.tail _ (.head _))
    · exact y1
    · exact x1
    · exact La.fl p (.tail _ (.tail _ hp))
  · intro p hp
    simp only [List.mem_cons] at hp
    rcases hp with rfl | rfl | rfl | hp
    · exact La.i _ (.head _)
    · exact y2
    · exact x2
    · exact La.i p (.tail _ hp)
  · intro p hp
    simp only [List.mem_cons] at hp
    rcases hp with rfl | rfl | hp
    · exact y4
    · exact x4
    · exact La.fd p hp
  · rw [Array.toList_push]
    exact (hfr.mono fun p hp => by simp [hp]).append (.cons (l := l) (t := t) (n := n) (List.Mem.head _) (List.Mem.tail _ (List.Mem.head _)) hv he hf hi .nil)
  · have NN := N' ((I2, it2) :: (I, it) :: (Fd, o) :: (T, tup [.int (i : Int) t, .ref l, ev]) :: (l, W.listOf vs n) :: rest) (fun p hp => by
      simp only [List.mem_cons] at hp
      rcases hp with rfl | rfl | rfl | rfl | rfl | hp
      · exact ⟨m2, fun e => h2 (Fl, W.listOf fv fc) (.head _) e.symm⟩
      · exact ⟨mI, La.fl _ (.head _)⟩
      · exact ⟨mF, La.fl _ (.tail _ (.head _))⟩
      · exact ⟨mT, y1⟩
      · exact ⟨ml, x1⟩
      · exact ⟨mr p hp, La.fl p (.tail _ (.tail _ hp))⟩)
    exact fun p hp => NN p (by simp only [List.mem_cons] at hp ⊢; rcases hp with h | h | h | h | h | h | h <;> simp [h])
end
section
variable {w : World} {A : Around} {E : Value → Shared → Prop} {s : Shared} {h₀ : Heap} {L Fd Fl I I2 T l : Addr} {m : Str → Option Value} {rest all news : List (Addr × Obj)} {it it2 o : Obj} {f : Nat → Option Value} {i : Nat} {t : Tok} {H : Nat → Cell}
theorem cmp_empty {a b : Addr} {its : Array Value} {n k : Nat} {Q : Value → Shared → Prop} (N : News h₀ L s.heap news) (ha : (a, W.listOf its n) ∈ news) (hb : (b, W.listOf #[] k) ∈ news) (hA : A.units < cLine) (h : Q (.bool (decide (its.size = 0))) s) :
    wpAny (model PG w) A (compareOp .Eq (.ref a) (.ref b)) Q E s := by
  by_cases z : its.size = 0
  · refine SeqAt.eq_listAt (e := fun _ => true) (News.isList N ha) (News.isList N hb) (by simpa using z) hA (fun j h1 h2 => absurd h2 (by simp)) ?_
    rw [show ((List.range its.size).all fun _ => true) = decide (its.size = 0) from by simp [z]]; exact h
  · refine SeqAt.eq_list_lengthsAt (News.isList N ha) (News.isList N hb) (by simpa using z) hA ?_
    rw [show decide (its.size = 0) = false from by simp [z]] at h; exact h
theorem add_L {a b : Addr} {its its2 : Array Value} {n n2 : Nat} {Q : Value → Shared → Prop} (F : Fr h₀ L s.heap m) (N : News h₀ L s.heap news) (ha : (a, W.listOf its n) ∈ news) (hb : (b, W.listOf its2 n2) ∈ news) (hz : its.size + its2.size ≤ 1000)
    (h : ∀ D h', Fr h₀ L h' m → News h₀ L h' ((D, W.listOf (its ++ its2) 0) :: news) → (∀ p ∈ news, p.1 < D) → Q (.ref D) { s with heap := h' }) : wpAny (model PG w) A (binaryOp .Add (.ref a) (.ref b)) Q E s := by
  refine PyProof.Rows.add_lists (vs := its.toList) (ws := its2.toList) F N (News.isList N ha) (News.isList N hb) (fun h' F' N' => ?_) (Nat.le_trans (by simpa using hz) (by decide))
  refine h _ h' F' ?_ (fun p hp => Heap.lt_size (N p hp).1)
  have e : (its.toList ++ its2.toList).toArray = its ++ its2 := by simp
  rw [e] at N'
  exact N'
theorem set_round {T2 : Addr} {fv : Array Value} {fc : Nat} {fs : List Nat} {ev : Value} {vs : Array Value} {n : Nat} {ks : List Nat} {c : Cell} {P P' : Nat → Prop} {Q : Unit → Shared → Prop} (F : Fr h₀ L s.heap m) (N : News h₀ L s.heap all)
    (mT : (T2, tup [.ref l, ev]) ∈ all) (m2 : (I2, it2) ∈ all) (mFl : (Fl, W.listOf fv fc) ∈ all) (mI : (I, it) ∈ all) (mF : (Fd, o) ∈ all) (mr : ∀ p ∈ rest, p ∈ all)
    (hc2 : it2.cls = .type "list_iterator") (hcI : it.cls = .type "range_iterator") (h2 : ∀ p ∈ (Fl, W.listOf fv fc) :: (I, it) :: (Fd, o) :: rest, p.1 ≠ I2) (La : Lay Fl I Fd it o rest)
    (hF : DictF w o f) (hok : FoundOk rest H P f) (ml : (l, W.listOf vs n) ∈ rest) (hv : IntsV vs.toList ks) (he : CellV c ev) (hf : fol H 5 i = some (ks, c)) (hi : i < 7) (hP : ∀ k, P' k ↔ (k = i ∨ P k))
    (h : ∀ h' tk' o' f' rest', (∀ p ∈ rest, p ∈ rest') → (∀ p ∈ (Fl, W.listOf fv fc) :: (I, it) :: (Fd, o') :: rest', p.1 ≠ I2) → Lay Fl I Fd it o' rest' → DictF w o' f' → FoundOk rest' H P' f' → Fr h₀ L h' m →
      News h₀ L h' ((I2, it2) :: (Fl, W.listOf fv fc) :: (I, it) :: (Fd, o') :: rest') → Q () { s with heap := h', toks := tk' }) :
    wpAny (model PG w) A (setItem (.ref Fd) (.int (i : Int) t) (.ref T2)) Q E s := by
  have y1 : T2 ≠ Fl := news_apart N mT mFl (type_ne (by decide))
  have y2 : T2 ≠ I := news_apart N mT mI (by rw [show (I, it).2.cls = _ from hcI]; exact type_ne (by decide))
  have y3 : T2 ≠ I2 := news_apart N mT m2 (by rw [show (I2, it2).2.cls = _ from hc2]; exact type_ne (by decide))
  have y4 : T2 ≠ Fd := news_apart N mT mF (by rw [show (Fd, o).2.cls = _ from hF.cls]; exact type_ne (by decide))
  refine set_all F N mF hF hi fun o' h' tk' hF' F' N' => ?_
  refine h h' tk' o' _ ((T2, tup [.ref l, ev]) :: rest) (fun p hp => by simp [hp]) ?_ ⟨?_, ?_, ?_⟩ hF' ?_ F' ?_
  · intro p hp
    simp only [List.mem_cons] at hp
    rcases hp with rfl | rfl | rfl | rfl | hp
    · exact h2 _ (.head _)
    · exact h2 _ (.tail _ (.head _))
    · exact h2 (Fd, o) (.tail _ (.tail _ (.head _)))
    · exact y3
    · exact h2 p (.tail _ (.tail _ (.tail _ hp)))
  · intro p hp
    simp only [List.mem_cons] at hp
    rcases hp with rfl | rfl | rfl | hp
    · exact La.fl _ (.head _)
    · exact La.fl (Fd, o) (.tail _ (.head _))
    · exact y1
    · exact La.fl p (.tail _ (.tail _ hp))
  · intro p hp
    simp only [List.mem_cons] at hp
    rcases hp with rfl | rfl | hp
    · exact La.i (Fd, o) (.head _)
    · exact y2
    · exact La.i p (.tail _ hp)
  · intro p hp
    simp only [List.mem_cons] at hp
    rcases hp with rfl | hp
    · exact y4
    · exact La.fd p hp
  · intro k hk
    obtain ⟨a, b⟩ := hok k hk
    by_cases z : k = i
    · subst z
      exact ⟨fun _ => ⟨.ref T2, by simp, T2, l, ev, vs, n, ks, c, rfl, List.Mem.head _, List.Mem.tail _ ml, hv, he, hf⟩, fun hn => absurd ((hP k).mpr (.inl rfl)) hn⟩
    · refine ⟨fun hp => ?_, fun hn => ?_⟩
      · rcases (hP k).mp hp with e | hp
        · exact absurd e z
        · obtain ⟨v, hv', hc⟩ := a hp
          exact ⟨v, by simp [z, hv'], hc.mono fun p hp => by simp [hp]⟩
      · simp only [z, if_false]
        exact b fun hp => hn ((hP k).mpr (.inr hp))
  · have NN := N' ((I2, it2) :: (Fl, W.listOf fv fc) :: (I, it) :: (T2, tup [.ref l, ev]) :: rest) (fun p hp => by
      simp only [List.mem_cons] at hp
      rcases hp with rfl | rfl | rfl | rfl | hp
      · exact ⟨m2, fun e => h2 (Fd, o) (.tail _ (.tail _ (.head _))) e.symm⟩
      · exact ⟨mFl, fun e => La.fl (Fd, o) (.tail _ (.head _)) e.symm⟩
      · exact ⟨mI, fun e => La.i (Fd, o) (.head _) e.symm⟩
      · exact ⟨mT, y4⟩
      · exact ⟨mr p hp, La.fd p hp⟩)
    exact fun p hp => NN p (by simp only [List.mem_cons] at hp ⊢; rcases hp with h | h | h | h | h | h <;> simp [h])
end
theorem FoundOk.mono {news news' : List (Addr × Obj)} {H : Nat → Cell} {P : Nat → Prop} {f : Nat → Option Value} (hs : ∀ p ∈ news, p ∈ news') (h : FoundOk news H P f) : FoundOk news' H P f :=
  fun k hk => ⟨fun hp => let ⟨v, a, b⟩ := (h k hk).1 hp; ⟨v, a, b.mono hs⟩, (h k hk).2⟩
theorem fol_five {H : Nat → Cell} {d i : Nat} {r : List Nat × Cell} (h : fol H d i = some r) (hd : d ≤ 5) : fol H 5 i = some r := by
  have := fol_le h (5 - d)
  rwa [show d + (5 - d) = 5 from by omega] at this
theorem allLt_ne {d : Nat} : ∀ {l : List (Addr × Obj)}, AllLt d l → ∀ p ∈ l, p.1 ≠ d
  | [], _, _, hp => nomatch hp
  | _ :: _, h, p, hp => by
    rcases List.mem_cons.mp hp with rfl | hp
    · exact Nat.ne_of_lt h.1
    · exact allLt_ne h.2 p hp
inductive J3 (w : World) (H : Nat → Cell) (Hl : Addr) (news : List (Addr × Obj)) (I : Addr) (it : Obj) (d : Nat) (j : Nat) (m : Str → Option Value) (nx : List (Addr × Obj)) : Prop
  | mk : ∀ Fd o f rest Fl fv fc fs, nx = (Fl, W.listOf fv fc) :: (I, it) :: (Fd, o) :: rest → (Fd == sysModules) = false → (∀ p ∈ news, p ∈ rest) → Lay Fl I Fd it o rest → DictF w o f → FoundOk rest H (fun k => fol H d k ≠ none) f → FreshV rest H fv.toList fs → (∀ k, k ∈ fs ↔ k < j ∧ fol H d k = none ∧ fol H (d + 1) k ≠ none) → fv.size ≤ j → m (Str.ofString "found") = some (.ref Fd) → m (Str.ofString "held") = some (.ref Hl) → m (Str.ofString "fresh") = some (.ref Fl) → J3 w H Hl news I it d j m nx
inductive J4 (w : World) (H : Nat → Cell) (Hl : Addr) (news : List (Addr × Obj)) (I : Addr) (it : Obj) (d : Nat) (Fl : Addr) (fv : Array Value) (fc : Nat) (fs : List Nat) (j : Nat) (m : Str → Option Value) (nx : List (Addr × Obj)) : Prop
  | mk : ∀ Fd o f rest, nx = (Fl, W.listOf fv fc) :: (I, it) :: (Fd, o) :: rest → (Fd == sysModules) = false → (∀ p ∈ news, p ∈ rest) → Lay Fl I Fd it o rest → DictF w o f → FoundOk rest H (fun k => fol H d k ≠ none ∨ k ∈ fs.take j) f → FreshV rest H fv.toList fs → m (Str.ofString "found") = some (.ref Fd) → m (Str.ofString "held") = some (.ref Hl) → J4 w H Hl news I it d Fl fv fc fs j m nx
inductive J1 (w : World) (H : Nat → Cell) (Hl : Addr) (news : List (Addr × Obj)) (P : Nat → Prop) (m : Str → Option Value) (nx : List (Addr × Obj)) : Prop
  | mk : ∀ Fd o f rest, nx = (Fd, o) :: rest → (Fd == sysModules) = false → (∀ p ∈ news, p ∈ rest) → (∀ p ∈ rest, p.1 ≠ Fd) → DictF w o f → FoundOk rest H P f → m (Str.ofString "found") = some (.ref Fd) → m (Str.ofString "held") = some (.ref Hl) → J1 w H Hl news P m nx
theorem held_at {hv : List Value} {H : Nat → Cell} (h : CellsV hv H) {i : Nat} (hi : i < 7) : ∃ v, hv.toArray[((i : Nat) : Int).toNat]? = some v ∧ CellV (H i) v := by
  obtain ⟨v, a, b⟩ := h.2 i hi
  exact ⟨v, by simpa using a, b⟩
section
variable {dp un : Nat} {gd : Option (List Code)} {env : Env} {outer : List Env} {A₀ : Around} {base h₀ g₀ : Heap} {L : Addr} {m : Str → Option Value} {mean : ExcName → Option Value} {mg mb : Str → Option Value} {w : World} {s : Shared} {Q E : Value → Shared → Prop} {news : List (Addr × Obj)}
theorem c_chains {hv : List Value} {H : Nat → Cell} {Hl : Addr} {hc : Nat} (B : Below (AA dp un gd outer) base outer h₀) (F : Fr h₀ L s.heap m) (X : (hd.heap_1 w.params).In h₀) (N : News h₀ L s.heap news) (T : Top hd.view_1 loose mean mg mb h₀) (hf : env.frame = some L) (hke : env.scope.kind = .function)
   (hdp : dp + 8 < recursionLimit) (hu : un + 80 < cLine) (hH : (Hl, W.listOf hv.toArray hc) ∈ news) (hHV : CellsV hv H) (hok : ∀ i, i < 7 → CellOk (H i))
   (hret : ∀ Fd o f rest h' tk', (Fd == sysModules) = false → (∀ p ∈ news, p ∈ rest) → DictF w o f → FoundOk rest H (fun k => fol H 5 k ≠ none) f → Fr h₀ L h' m → News h₀ L h' ((Fd, o) :: rest) → Q (.ref Fd) { s with heap := h', toks := tk' }) :
   wpAny (model PG w) ((AA dp un gd outer).deeper env) (call (.ref 342) [.ref Hl]) Q E s := by
   refine Kf ?_
   simp (disch := (refine @id _ ?_; k_dflt (
    have zF10 := U 10; have zF2 := U 2; have zF3 := U 3; have zF16 := U 16; have zF8 := U 8; have zF48 := U 48; have zF59 := U 59
    k_extra "M:enter"
    k_steps
    unfold MStop
    refine' loop_range (n := 7) (fun i => J1 w H Hl news (fun k => k < i ∧ H k = none)) rfl (by assumption) (by decide) (by decide) (by k_asm) (by k_asm) ?zq_zj ?zq_zt ?zq_zd
    case zq_zj =>
      refine ⟨_, _, _, news, rfl, by assumption, fun _ h => h, fun p hp => Nat.ne_of_lt (by first | exact (by assumption : ∀ p ∈ news, p.1 < _) p hp), DictF.nil (by assumption), fun k hk => ⟨fun h => absurd h.1 (Nat.not_lt_zero _), fun _ => rfl⟩, rfl, rfl⟩
    case zq_zt =>
      rintro i I it t m₁ nx h tk hic hi ⟨Fd, o, f, rest, rfl, lo, hsub, hrest, hF, hok1, mf, mh⟩ off F₁ N₁
      have e0 : (0 : Int) + (i : Int) * 1 = (i : Int) := by omega
      rw [e0] at F₁
      have hH' : (Hl, W.listOf hv.toArray hc) ∈ rest := hsub _ hH
      obtain ⟨v, hx, hcv⟩ := held_at hHV hi
      cases hHi : H i with
      | none =>
        rw [hHi] at hcv
        have hcv : v = .none := hcv
        subst hcv
        k_steps
        unfold MStop
        refine' set_found (P' := fun k => k < i + 1 ∧ H k = none) (vs := #[.int (i : Int) _]) (ks := [i]) (c := none) (ev := .none) (by k_asm) (by k_asm) (.inl hic) hrest off hF hok1 hi (.cons _ .nil) rfl (fol_none hHi) (fun k => ⟨fun h => ?_, fun h => ?_⟩) ?_
        · by_cases z : k = i
          · exact .inl z
          · exact .inr ⟨by omega, h.2⟩
        · rcases h with rfl | h
          · exact ⟨by omega, hHi⟩
          · exact ⟨by omega, h.2⟩
        intro h' tk' o' f' rest' s1 s2 s3 hF' hok' F' N'
        k_steps
        exact ⟨_, _, _, _, rfl, by k_asm, by k_asm, s3, Fd, o', f', rest', rfl, lo, fun p hp => s1 p (hsub p hp), s2, hF', hok', by k_extra "M:look", by k_extra "M:look"⟩
      | some x =>
        rw [hHi] at hcv
        have hiff : ∀ k, k < 7 → ((k < i + 1 ∧ H k = none) ↔ (k < i ∧ H k = none)) := by
          intro k _
          constructor
          · rintro ⟨a, b⟩
            have z : k ≠ i := fun e => by subst e; rw [hHi] at b; cases b
            exact ⟨by omega, b⟩
          · rintro ⟨a, b⟩
            exact ⟨by omega, b⟩
        rcases x with j | c
        all_goals
          obtain ⟨tc, rfl⟩ := hcv
          k_steps
          exact ⟨_, _, _, _, rfl, by k_asm, by k_asm, off, Fd, o, f, rest, rfl, lo, hsub, hrest, hF, hok1.of_iff hiff, by k_extra "M:look", by k_extra "M:look"⟩
    case zq_zd =>
      rintro m₁ nx h tk ⟨Fd, o, f, rest, rfl, lo, hsub, hrest, hF, hok1, mf, mh⟩ F₁ N₁
      k_steps
      unfold MStop
      refine' loop_range (n := 5) (fun d => J1 w H Hl news (fun k => fol H d k ≠ none)) rfl (by assumption) (by decide) (by decide) (by k_asm) (by k_asm) ?zq_yj ?zq_yt ?zq_yd
      case zq_yj =>
        refine ⟨Fd, o, f, rest, rfl, lo, hsub, hrest, hF, hok1.of_iff (fun k hk => ⟨fun h => ⟨hk, ?_⟩, fun h => ?_⟩), by k_extra "M:look", by k_extra "M:look"⟩
        · cases e : H k with
          | none => rfl
          | some x => exact absurd (fol_zero e) h
        · rw [fol_none h.2]; exact fun e => nomatch e
      case zq_yt =>
        rintro d I it td m₂ nx h2 tk2 hicI hd ⟨Fd, o, f, rest, rfl, lo, hsub, hrest, hF, hok2, mf, mh⟩ off2 F₂ N₂
        k_steps
        unfold MStop
        refine' loop_range (n := 7) (J3 w H Hl news I it d) rfl (by assumption) (by decide) (by decide) (by k_asm) (by k_asm) ?zq_xj ?zq_xt ?zq_xd
        case zq_xj =>
          refine ⟨Fd, o, f, rest, _, #[], _, [], rfl, lo, hsub, ⟨?_, off2, hrest⟩, hF, hok2, .nil, (by simp), Nat.le_refl _, by k_extra "M:look", by k_extra "M:look", rfl⟩
          rename _ ∧ _ ∧ AllLt _ _ => hal
          exact allLt_ne (show AllLt _ ((I, it) :: (Fd, o) :: rest) from hal)
        case zq_xt =>
          rintro j I2 it2 t2 m₃ nx h3 tk3 hic2 hj ⟨Fd, o, f, rest, Fl, fv, fc, fs, rfl, lo, hsub, La, hF, hok3, hfr, hfs, hsz, mf, mh, mfr⟩ off3 F₃ N₃
          have e0 : (0 : Int) + (j : Int) * 1 = (j : Int) := by omega
          rw [e0] at F₃
          have hH' : (Hl, W.listOf hv.toArray hc) ∈ rest := hsub _ hH
          obtain ⟨v, hx, hcv⟩ := held_at hHV hj
          obtain ⟨hk1, hk2⟩ := hok3 j hj
          cases hfd : fol H d j with
          | some r =>
            obtain ⟨vj, hvj, _⟩ := hk1 (show fol H d j ≠ none by rw [hfd]; exact fun e => nomatch e)
            have hin : (f j).isSome = true := by rw [hvj]; rfl
            have hfs' : ∀ k, k ∈ fs ↔ k < j + 1 ∧ fol H d k = none ∧ fol H (d + 1) k ≠ none := fun k => by
              rw [hfs k]
              constructor
              · rintro ⟨a, b⟩; exact ⟨by omega, b⟩
              · rintro ⟨a, b⟩
                have z : k ≠ j := fun e => by subst e; rw [hfd] at b; cases b.1
                exact ⟨by omega, b⟩
            k_steps
            exact ⟨_, _, _, _, rfl, by k_asm, by k_asm, off3, Fd, o, f, rest, Fl, fv, fc, fs, rfl, lo, hsub, La, hF, hok3, hfr, hfs', Nat.le_succ_of_le hsz, by k_extra "M:look", by k_extra "M:look", by k_extra "M:look"⟩
          | none =>
            have hin : (f j).isSome = false := by rw [hk2 (fun e => e hfd)]; rfl
            cases hHj : H j with
            | none => rw [fol_none hHj] at hfd; cases hfd
            | some x =>
              rw [hHj] at hcv
              rcases x with q | c
              · obtain ⟨tc, rfl⟩ := hcv
                have hq : q < 7 := by have := hok j hj; rw [hHj] at this; exact this
                obtain ⟨hq1, hq2⟩ := hok3 q hq
                cases hfq : fol H d q with
                | none =>
                  have hinq : (f q).isSome = false := by rw [hq2 (fun e => e hfq)]; rfl
                  have hfs' : ∀ k, k ∈ fs ↔ k < j + 1 ∧ fol H d k = none ∧ fol H (d + 1) k ≠ none := fun k => by
                    rw [hfs k]
                    constructor
                    · rintro ⟨a, b⟩; exact ⟨by omega, b⟩
                    · rintro ⟨a, b⟩
                      have z : k ≠ j := fun e => by subst e; rw [fol_sym hHj, hfq] at b; exact b.2 rfl
                      exact ⟨by omega, b⟩
                  k_steps
                  exact ⟨_, _, _, _, rfl, by k_asm, by k_asm, off3, Fd, o, f, rest, Fl, fv, fc, fs, rfl, lo, hsub, La, hF, hok3, hfr, hfs', Nat.le_succ_of_le hsz, by k_extra "M:look", by k_extra "M:look", by k_extra "M:look"⟩
                | some r =>
                  obtain ⟨vq, hvq, Tq, lq, evq, vsq, nq, ksq, cq, rfl, mTq, mlq, hIq, hCq, hFq⟩ := hq1 (show fol H d q ≠ none by rw [hfq]; exact fun e => nomatch e)
                  have hinq : (f q).isSome = true := by rw [hvq]; rfl
                  have hfs' : ∀ k, k ∈ fs ++ [j] ↔ k < j + 1 ∧ fol H d k = none ∧ fol H (d + 1) k ≠ none := fun k => by
                    rw [List.mem_append, hfs k, List.mem_singleton]
                    constructor
                    · rintro (⟨a, b⟩ | rfl)
                      · exact ⟨by omega, b⟩
                      · exact ⟨by omega, hfd, by rw [fol_sym hHj, hfq]; exact fun e => nomatch e⟩
                    · rintro ⟨a, b⟩
                      by_cases z : k = j
                      · exact .inr z
                      · exact .inl ⟨by omega, b⟩
                  have e5 := fol_five hfq (by omega)
                  rw [hFq] at e5
                  obtain rfl := Option.some.inj e5
                  have hfj : fol H 5 j = some (j :: ksq, cq) := fol_five (d := d + 1) (by rw [fol_sym hHj, hfq]; rfl) (by omega)
                  obtain ⟨_, _, hql, _⟩ := fol_last hok hq hFq
                  have hvl := hIq.len
                  have hzz : (#[Value.int (j : Int) t2] : Array Value).size + vsq.size ≤ 1000 := by
                    have : vsq.size = ksq.length := by simpa using hvl
                    rw [this]; simp; omega
                  k_steps
                  unfold MStop
                  refine' app_fresh (ks := j :: ksq) (c := cq) (rest := rest) (by k_asm) (by k_asm) (by k_extra "M:in") (by k_extra "M:in") (by k_extra "M:in") (by k_extra "M:in") (by k_extra "M:in") (by k_extra "M:in") (fun p hp => by k_extra "M:in") hic2 hicI hF.cls off3 La hfr (by omega) (by simpa using IntsV.cons t2 hIq) (List.cons_ne_nil _ _) hCq hfj hj ?_
                  intro h' rest' s1 s2 La' hfr' F' N'
                  k_steps
                  exact ⟨_, _, _, _, rfl, by k_asm, by k_asm, s2, Fd, o, f, rest', Fl, _, _, fs ++ [j], rfl, lo, fun p hp => s1 p (hsub p hp), La', hF, hok3.mono s1, hfr', hfs', by simp; omega, by k_extra "M:look", by k_extra "M:look", by k_extra "M:look"⟩
              · obtain ⟨tc, rfl⟩ := hcv
                have hfs' : ∀ k, k ∈ fs ++ [j] ↔ k < j + 1 ∧ fol H d k = none ∧ fol H (d + 1) k ≠ none := fun k => by
                  rw [List.mem_append, hfs k, List.mem_singleton]
                  constructor
                  · rintro (⟨a, b⟩ | rfl)
                    · exact ⟨by omega, b⟩
                    · exact ⟨by omega, hfd, by rw [fol_val hHj]; exact fun e => nomatch e⟩
                  · rintro ⟨a, b⟩
                    by_cases z : k = j
                    · exact .inr z
                    · exact .inl ⟨by omega, b⟩
                have hfj : fol H 5 j = some ([j], some (.inr c)) := fol_five (d := d + 1) (fol_val hHj) (by omega)
                k_steps
                unfold MStop
                refine' app_fresh (ks := [j]) (c := some (.inr c)) (rest := rest) (by k_asm) (by k_asm) (by k_extra "M:in") (by k_extra "M:in") (by k_extra "M:in") (by k_extra "M:in") (by k_extra "M:in") (by k_extra "M:in") (fun p hp => by k_extra "M:in") hic2 hicI hF.cls off3 La hfr (by omega) (.cons _ .nil) (List.cons_ne_nil _ _) ⟨_, rfl⟩ hfj hj ?_
                intro h' rest' s1 s2 La' hfr' F' N'
                k_steps
                exact ⟨_, _, _, _, rfl, by k_asm, by k_asm, s2, Fd, o, f, rest', Fl, _, _, fs ++ [j], rfl, lo, fun p hp => s1 p (hsub p hp), La', hF, hok3.mono s1, hfr', hfs', by simp; omega, by k_extra "M:look", by k_extra "M:look", by k_extra "M:look"⟩
        case zq_xd =>
          rintro m₃ nx h3 tk3 ⟨Fd, o, f, rest, Fl, fv, fc, fs, rfl, lo, hsub, La, hF, hok3, hfr, hfs, hsz, mf, mh, mfr⟩ F₃ N₃
          have hfl := hfr.len
          have hnd : ∀ k ∈ fs, k < 7 := fun k hk => ((hfs k).mp hk).1
          by_cases hz0 : fv.size = 0
          · have hV : decide (fv.size = 0) = true := by simp [hz0]
            have hfs0 : fs = [] := by
              have : fs.length = 0 := by rw [← hfl]; simpa using hz0
              exact List.eq_nil_of_length_eq_zero this
            have hst : ∀ k, k < 7 → fol H d k = none → fol H (d + 1) k = none := fun k hk hn => by
              cases e : fol H (d + 1) k with
              | none => rfl
              | some r =>
                have := (hfs k).mpr ⟨hk, hn, by rw [e]; exact fun z => nomatch z⟩
                rw [hfs0] at this; cases this
            have hok5 : FoundOk rest H (fun k => fol H 5 k ≠ none) f := hok3.of_iff fun k hk => ⟨fun h e => by
                have := fol_stable hok hst (5 - d) k hk e
                rw [show d + (5 - d) = 5 from by omega] at this
                exact h this, fun h e => by
                cases e2 : fol H d k with
                | none => exact h e2
                | some r => rw [fol_five e2 (by omega)] at e; cases e⟩
            k_steps
            dsimp only [qx, LEnd]
            (try dsimp only)
            k_steps
            all_goals exact hret Fd o f rest _ _ lo hsub hF hok5 (by k_asm) (by refine cb_drop (by assumption) (fun p hp => ?_); k_extra "M:in")
          · have hV : decide (fv.size = 0) = false := by simp [hz0]
            k_steps
            unfold MStop
            refine' loop_listT (vs := fv.toList) (news := (Fl, W.listOf fv fc) :: (I, it) :: (Fd, o) :: rest) (fun i => J4 w H Hl news I it d Fl fv fc fs i) rfl (by k_asm) (by refine cb_drop (by assumption) (fun p hp => ?_); k_extra "M:in") (.head _) rfl rfl ?zq_zp ?zq_wj ?zq_wt ?zq_wd
            case zq_zp => rintro i m nx ⟨Fd, o, f, rest, rfl, _⟩; exact .head _
            case zq_wj => exact ⟨Fd, o, f, rest, rfl, lo, hsub, La, hF, hok3.of_iff (fun k hk => by simp), hfr, by k_extra "M:look", by k_extra "M:look"⟩
            case zq_wt =>
              rintro j I2 it2 v m₄ nx s₁ hic2 hvj ⟨Fd, o, f, rest, rfl, lo, hsub, La, hF, hok4, hfr, mf, mh⟩ off4 F₄ N₄
              obtain ⟨k, T, l, tt, ev, vs, n, ks, c, hk, rfl, mT, ml, hIv, hcv, hf5, hk7⟩ := hfr.get j v hvj
              k_steps
              unfold MStop
              refine' set_round (P' := fun x => fol H d x ≠ none ∨ x ∈ fs.take (j + 1)) (rest := rest) (Fl := Fl) (fv := fv) (fc := fc) (fs := fs) (by k_asm) (by k_asm) (by k_extra "M:in") (by k_extra "M:in") (by k_extra "M:in") (by k_extra "M:in") (by k_extra "M:in") (fun p hp => by k_extra "M:in") hic2 hicI off4 La hF hok4 ml hIv hcv hf5 hk7 (fun x => ?_) ?_
              · rw [List.take_add_one, hk]
                simp only [Option.toList, List.mem_append, List.mem_singleton]
                constructor
                · rintro (a | a | a)
                  · exact .inr (.inl a)
                  · exact .inr (.inr a)
                  · exact .inl a
                · rintro (a | a | a)
                  · exact .inr (.inr a)
                  · exact .inl a
                  · exact .inr (.inl a)
              intro h' tk' o' f' rest' s1 s2 La' hF' hok' F' N'
              k_steps
              exact ⟨rfl, _, _, _, _, rfl, by k_asm, by k_asm, s2, Fd, o', f', rest', rfl, lo, fun p hp => s1 p (hsub p hp), La', hF', hok', hfr.mono s1, by k_extra "M:look", by k_extra "M:look"⟩
            case zq_wd =>
              rintro m₄ nx h4 tk4 ⟨Fd, o, f, rest, rfl, lo, hsub, La, hF, hok4, hfr, mf, mh⟩ F₄ N₄
              have hiff : ∀ x, x < 7 → (fol H (d + 1) x ≠ none ↔ (fol H d x ≠ none ∨ x ∈ fs.take fv.toList.length)) := fun x hx => by
                rw [List.take_of_length_le (by omega)]
                constructor
                · intro h
                  cases e : fol H d x with
                  | some r => exact .inl (fun z => nomatch z)
                  | none => exact .inr ((hfs x).mpr ⟨hx, e, h⟩)
                · rintro (h | h)
                  · cases e : fol H d x with
                    | none => exact absurd e h
                    | some r => rw [fol_up e]; exact fun z => nomatch z
                  · exact ((hfs x).mp h).2.2
              k_steps
              exact ⟨_, _, _, (Fd, o) :: rest, rfl, by k_asm, by refine cb_drop (by assumption) (fun p hp => ?_); k_extra "M:in", La.i, Fd, o, f, rest, rfl, lo, hsub, La.fd, hF, hok4.of_iff hiff, by k_extra "M:look", by k_extra "M:look"⟩
      case zq_yd =>
        rintro m₂ nx h2 tk2 ⟨Fd, o, f, rest, rfl, lo, hsub, hrest, hF, hok2, mf, mh⟩ F₂ N₂
        k_steps
        all_goals exact hret _ _ _ _ _ _ lo hsub hF hok2 (by k_asm) (by k_asm)))) only [↓Kn]
end
theorem names_eqAt {A : Around} {s : Shared} {vs us : List Value} {ks : List Nat} {a b : Addr} {n1 n2 : Nat} {h₀ : Heap} {L : Addr} {news : List (Addr × Obj)} (N : News h₀ L s.heap news) (ha : (a, W.listOf vs.toArray n1) ∈ news) (hb : (b, W.listOf us.toArray n2) ∈ news) (hv : NamesV vs ks) (hu : NamesV us ks) (hA : A.units < cLine) : SeqAt.EqAt A s (.ref a) (.ref b) true := by
  have hl : ∀ {vs : List Value} {ks : List Nat}, NamesV vs ks → vs.length = ks.length ∧ ∀ (j : Nat) (v : Value), vs[j]? = some v → ∃ t, v = .bytes (nm (ks.getD j 0)).toArray t := by
    intro vs ks h
    induction h with
    | nil => exact ⟨rfl, fun j v h => by simp at h⟩
    | cons t _ ih => exact ⟨by simp [ih.1], fun j v h => by cases j with
        | zero => simp at h; exact ⟨t, h.symm⟩
        | succ j => simpa using ih.2 j v (by simpa using h)⟩
  by_cases hab : a = b
  · subst hab; exact SeqAt.EqAt.same _
  refine SeqAt.EqAt.of_refs hab ?_
  have e : ((List.range vs.toArray.size).all fun _ => true) = true := by simp
  rw [← e]
  refine SeqAt.RcAt.lists (News.isList N ha) (News.isList N hb) (by simp [(hl hv).1, (hl hu).1]) hA fun j h1 h2 => ?_
  obtain ⟨t, e1⟩ := (hl hv).2 j (vs.toArray[j]) (by simp)
  obtain ⟨u, e2⟩ := (hl hu).2 j (us.toArray[j]) (by simp)
  rw [e1, e2]
  exact fun prog w E Q hq => eqBool_bytes (by simpa using hq)
theorem end_eqAt {A : Around} {s : Shared} {c : Cell} {x y : Value} (hc : c = none ∨ ∃ v, c = some (.inr v)) (hx : OctV c x) (hy : CellV c y) : SeqAt.EqAt A s x y true := by
  rcases hc with rfl | ⟨v, rfl⟩
  · rw [show x = .none from hx, show y = .none from hy]; exact SeqAt.EqAt.same _
  · obtain ⟨t, rfl⟩ := hx
    obtain ⟨u, rfl⟩ := hy
    exact fun prog w E Q hq => eqBool_bytes (by simpa [oct] using hq)
theorem told_eq {prog : Program} {w : World} {A : Around} {E : Value → Shared → Prop} {s : Shared} {Q : Value → Shared → Prop} {h₀ : Heap} {L x y a b : Addr} {news : List (Addr × Obj)} {vs us : Array Value} {ks : List Nat} {c : Cell} {e1 e2 : Value} {n1 n2 : Nat} (N : News h₀ L s.heap news)
    (hx : (x, tup [.ref a, e1]) ∈ news) (hy : (y, tup [.ref b, e2]) ∈ news) (ha : (a, W.listOf vs n1) ∈ news) (hb : (b, W.listOf us n2) ∈ news) (hv : NamesV vs.toList ks) (hu : NamesV us.toList ks) (hc : c = none ∨ ∃ v, c = some (.inr v)) (he : OctV c e1) (hf : CellV c e2) (hA : A.units + 10 < cLine)
    (h : Q (.bool true) s) : wpAny (model prog w) A (compareOp .Eq (.ref x) (.ref y)) Q E s := by
  have h1 := News.isTup N hx
  have h2 := News.isTup N hy
  refine SeqAt.eq_tupleAt (e := fun _ => true) h1 h2 (by omega) (fun j h1 h2 => ?_) (show Q (.bool true) s from h)
  match j, h1, h2 with
  | 0, _, _ => exact names_eqAt (vs := vs.toList) (us := us.toList) N ha hb hv hu (by first | omega | (simp only [units_in1]; omega))
  | 1, _, _ => exact end_eqAt hc he hf
theorem IntsV.get {vs : List Value} {ks : List Nat} (h : IntsV vs ks) : ∀ (j : Nat) (v : Value), vs[j]? = some v → ∃ k t, ks[j]? = some k ∧ v = .int ((k : Nat) : Int) t := by
  induction h with
  | nil => intro j v h; simp at h
  | cons t _ ih => intro j v h; cases j with
    | zero => simp at h; exact ⟨_, t, rfl, h.symm⟩
    | succ j => simpa using ih j v (by simpa using h)
section
variable {dp un : Nat} {gd : Option (List Code)} {env : Env} {outer : List Env} {A₀ : Around} {base h₀ g₀ : Heap} {L : Addr} {m : Str → Option Value} {mean : ExcName → Option Value} {mg mb : Str → Option Value} {w : World} {s : Shared} {Q E : Value → Shared → Prop} {news : List (Addr × Obj)}
variable {R Dd Ad P : Addr} {o : Obj} {kvs : List (List UInt8 × Value)} {H : Nat → Cell} {i1 i2 : Int} {t1 t2 : Tok}
theorem c_seen {hv : List Value} {Hl : Addr} {hc gaze : Nat} {tg : Tok} (B : Below (AA dp un gd outer) base outer h₀) (F : Fr h₀ L s.heap m) (X : (hd.heap_1 w.params).In h₀) (N : News h₀ L s.heap news) (T : Top hd.view_1 loose mean mg mb h₀) (hf : env.frame = some L) (hke : env.scope.kind = .function) (XB : (hd.heap_1 w.params).In base) (TB : Top hd.view_1 loose mean mg mb base) (D : KtsDicts (outer.filterMap (·.frame)) h₀) (T0 : KtsTurn (outer.filterMap (·.frame)) g₀ h₀)
   (hdp : dp + 40 < recursionLimit) (hu : un + 400 < cLine) (hR : (R, instObj 304 Dd) ∈ news) (hD : (Dd, dictOf [⟨i1, .str (Str.ofString "_refs") t1, .ref Ad⟩, ⟨i2, .str (Str.ofString "_peeled") t2, .ref P⟩] 2) ∈ news) (hA : (Ad, o) ∈ news) (hO : o.IsDictOf (bytesKind PG w) kvs) (hAs : (Ad == sysModules) = false) (RK : RefsKV kvs H) (hH : (Hl, W.listOf hv.toArray hc) ∈ news) (hHV : CellsV hv H) (hg : gaze < 7)
   (hT : ∀ ks c, fol H 5 gaze = some (ks, c) → ∀ t h' tk', Fr h₀ L h' m → News h₀ L h' news → Q (.int ((ks.getLastD 0 : Nat) : Int) t) { s with heap := h', toks := tk' })
   (hF : fol H 5 gaze = none → ∀ t, ∀ h₁ h' tk', KtsTurn (outer.filterMap (·.frame)) g₀ h₁ → Fr h₁ L h' m → News h₁ L h' news → Below (AA dp un gd outer) base outer h₁ → (hd.heap_1 w.params).In h₁ → Top hd.view_1 loose mean mg mb h₁ → KtsDicts (outer.filterMap (·.frame)) h₁ → Q (.int 7 t) { s with heap := h', toks := tk' }) :
   wpAny (model PG w) ((AA dp un gd outer).deeper env) (call (.ref 385) [.ref R, .ref Hl, .int (gaze : Int) tg]) Q E s := by
   refine Kf ?_
   simp (disch := (refine @id _ ?_; k_dflt (
    have zF10 := U 10; have zF2 := U 2; have zF3 := U 3; have zF16 := U 16; have zF37 := U 37; have zF48 := U 48; have zF49 := U 49; have zF60 := U 60
    have hok := RK.ok
    k_extra "M:enterS"
    k_steps
    unfold MStop
    rename ∀ p, p ∈ news → p ∈ _ => hsX
    rename FoundOk _ _ _ _ => hokX
    rename DictF _ _ _ => hFX
    have hRx := hsX _ hR
    have hDx := hsX _ hD
    have hAx := hsX _ hA
    obtain ⟨hk1, hk2⟩ := hokX gaze hg
    refine' told_follow ?zq_zzB ?zq_zzF ?zq_zzX ?zq_zzN ?zq_zzT ?zq_zzf ?zq_zzk ?zq_zXB ?zq_zTB ?zq_zDD ?zq_zT0 ?zq_zzd ?zq_zzu ?zq_zR ?zq_zD ?zq_zA ?zq_zO ?zq_zS ?zq_zK ?zq_zi ?zq_yT ?zq_yF
    case zq_zK => assumption
    case zq_zO => assumption
    case zq_zzN => k_asm
    case zq_zR => exact .tail _ hRx
    case zq_zD => exact .tail _ hDx
    case zq_zA => exact .tail _ hAx
    case zq_zS => assumption
    case zq_zi => assumption
    case zq_zzB => k_asm
    case zq_zzF => k_asm
    case zq_zzX => k_asm
    case zq_zzT => k_asm
    case zq_zzf => exact rfl
    case zq_zzk => exact rfl
    case zq_zzd => k_room
    case zq_zzu => k_units
    case zq_zXB => assumption
    case zq_zTB => assumption
    case zq_zDD => assumption
    case zq_zT0 => first | assumption | exact KtsTurn.refl
    case zq_yF =>
      intro hn h₁ h' tk' tv T1 F1 N1 B1 X1 TT1 D1
      have hnone := hk2 (fun e => e hn)
      have hin : Option.isSome (none : Option Value) = false := rfl
      rw [← hnone] at hin
      k_steps
      all_goals exact hF hn _ _ _ _ (by assumption) (by k_asm) (cb_drop (by k_asm) (fun p hp => .tail _ (hsX p hp))) (by assumption) (by assumption) (by assumption) (by assumption)
    case zq_yT =>
      intro ks c x l ev vs n h' tk' hfol hoct hnm F' N'
      obtain ⟨v, hv0, Tq, lq, evq, vsq, nq, ksq, cq, rfl, mTq, mlq, hIq, hCq, hFq⟩ := hk1 (show fol H 5 gaze ≠ none by rw [hfol]; exact fun e => nomatch e)
      have e5 := hfol.symm.trans hFq
      obtain ⟨rfl, rfl⟩ := Prod.mk.inj (Option.some.inj e5)
      have hin : Option.isSome (some (Value.ref Tq)) = true := rfl
      rw [← hv0] at hin
      obtain ⟨hq1, hq2, hq3, hq4⟩ := fol_last hok hg hfol
      have hvl := hIq.len
      have hlast : ∃ tl, vsq[((-1 : Int) + vsq.size).toNat]? = some (.int ((ks.getLastD 0 : Nat) : Int) tl) := by
        have hlen : vsq.toList.length = ks.length := hvl
        have hpos : 0 < ks.length := List.length_pos_iff.mpr hq1
        have hsz : vsq.size = ks.length := by simpa using hlen
        have hlt : ks.length - 1 < vsq.toList.length := by rw [hlen]; omega
        obtain ⟨k, tl, hk, hv⟩ := hIq.get (ks.length - 1) (vsq.toList[ks.length - 1]) (by simp [hlt])
        refine ⟨tl, ?_⟩
        rw [hsz, show ((-1 : Int) + (ks.length : Int)).toNat = ks.length - 1 from by omega]
        have e1 : ks.getLastD 0 = k := by
          rw [List.getLastD_eq_getLast?, List.getLast?_eq_getElem?, hk]; rfl
        rw [e1, ← hv]
        simp [hsz]
      obtain ⟨tl, hx2⟩ := hlast
      have hpos : 0 < ks.length := List.length_pos_iff.mpr hq1
      have hszq : vsq.size = ks.length := by simpa using hvl
      have hx3 : -(vsq.size : Int) ≤ -1 := by rw [hszq]; omega
      have hce := fol_end hfol
      k_steps
      unfold MStop
      refine LCg.ListComp_U (F₀ := by k_asm) (by with_unfolding_all rfl) (by decide) (by rfl) (by decide) (by rfl) ?_
      k_steps
      refine .inl ⟨lq, vsq, _, rfl, rfl, by k_asm, by k_asm, .inr ⟨_, .tail _ (.tail _ (.tail _ mlq)), rfl, _, rfl⟩, Nat.le_trans (show vsq.size ≤ 100 by omega) (by decide), ?_⟩
      rintro s₂ ⟨h2, rfl⟩
      refine compRest_all (fun i ys => NamesV ys (ks.take i)) (.inr ⟨_, .tail _ (.tail _ (.tail _ mlq)), rfl, _, rfl⟩) ?_ ?_ _ 0 [] (Nat.zero_add _) .nil
      · intro i ys v C oC oI D Ia m₂ h tk E' Q' hin hI hP hC hxx F N hq
        obtain ⟨k, t, hk, rfl⟩ := hIq.get i v (by simpa using hP)
        have hk7 : k < 7 := hq2 k (List.mem_of_getElem? hk)
        k_steps
        refine hq _ _ _ ?_ (by k_asm) (by k_asm)
        rw [List.take_add_one, hk]
        exact hI.append (.cons _ .nil)
      · intro ys hI D h tk F N off
        rw [List.take_of_length_le (by omega)] at hI
        k_steps
        all_goals exact hT ks c hfol _ _ _ (by k_asm) (cb_drop (by k_asm) (fun p hp => .tail _ (.tail _ (.tail _ (.tail _ (.tail _ (hsX p hp)))))))))) only [↓Kn]
end
section
variable {dp un : Nat} {gd : Option (List Code)} {env : Env} {outer : List Env} {A₀ : Around} {base h₀ g₀ : Heap} {L : Addr} {m : Str → Option Value} {mean : ExcName → Option Value} {mg mb : Str → Option Value} {w : World} {s : Shared} {Q E : Value → Shared → Prop} {news : List (Addr × Obj)}
variable {R Dd Ad P : Addr} {o : Obj} {kvs : List (List UInt8 × Value)} {H : Nat → Cell} {i1 i2 : Int} {t1 t2 : Tok}
variable {rest : List (Addr × Obj)}
theorem told_bad_swap {i : Nat} {bl nb : List UInt8} {t' : Tok} {ov : Value} {t td : Tok}
   (B : Below (AA dp un gd outer) base outer h₀) (F : Fr h₀ L s.heap m) (X : (hd.heap_1 w.params).In h₀) (N : News h₀ L s.heap ((Ad, o) :: rest)) (T : Top hd.view_1 loose mean mg mb h₀) (hf : env.frame = some L) (hke : env.scope.kind = .function) (XB : (hd.heap_1 w.params).In base) (TB : Top hd.view_1 loose mean mg mb base) (D : KtsDicts (outer.filterMap (·.frame)) h₀) (T0 : KtsTurn (outer.filterMap (·.frame)) g₀ h₀)
   (hdp : dp + 30 < recursionLimit) (hu : un + 300 < cLine)
   (hR : (R, instObj 304 Dd) ∈ rest) (hD : (Dd, dictOf [⟨i1, .str (Str.ofString "_refs") t1, .ref Ad⟩, ⟨i2, .str (Str.ofString "_peeled") t2, .ref P⟩] 2) ∈ rest) (hO : o.IsDictOf (bytesKind PG w) kvs) (hAs : (Ad == sysModules) = false) (RK : RefsKV kvs H) (hrest : ∀ p ∈ rest, p.1 ≠ Ad)
   (hb : BadV bl)
   (hT : ∀ h₁ h' tk' tv, KtsTurn (outer.filterMap (·.frame)) g₀ h₁ → Fr h₁ L h' m → News h₁ L h' ((Ad, o) :: rest) → Below (AA dp un gd outer) base outer h₁ → (hd.heap_1 w.params).In h₁ → Top hd.view_1 loose mean mg mb h₁ → KtsDicts (outer.filterMap (·.frame)) h₁ → Q (.str (Str.ofString "value") tv) { s with heap := h', toks := tk' }) :
   wpAny (model PG w) ((AA dp un gd outer).deeper env) (call (.ref 368) [.ref R, .str (Str.ofString "swap") td, .bytes nb.toArray t, ov, .bytes bl.toArray t']) Q E s := by
   refine Kf ?_
   simp (disch := (refine @id _ ?_; k_dflt (
    have zF10 := U 10; have zF2 := U 2; have zF3 := U 3; have zF16 := U 16; have zF61 := U 61
    have hR' : (R, instObj 304 Dd) ∈ (Ad, o) :: rest := .tail _ hR
    have hD' : (Dd, dictOf [⟨i1, .str (Str.ofString "_refs") t1, .ref Ad⟩, ⟨i2, .str (Str.ofString "_peeled") t2, .ref P⟩] 2) ∈ (Ad, o) :: rest := .tail _ hD
    k_extra "M:enterS"
    k_steps
    all_goals exact hT _ _ _ _ (by assumption) (by assumption) (by assumption) (by assumption) (by assumption) (by assumption) (by assumption)))) only [↓Kn]
theorem told_bad_add {i : Nat} {bl nb : List UInt8} {t' : Tok} {ov : Value} {t td : Tok}
   (B : Below (AA dp un gd outer) base outer h₀) (F : Fr h₀ L s.heap m) (X : (hd.heap_1 w.params).In h₀) (N : News h₀ L s.heap ((Ad, o) :: rest)) (T : Top hd.view_1 loose mean mg mb h₀) (hf : env.frame = some L) (hke : env.scope.kind = .function) (XB : (hd.heap_1 w.params).In base) (TB : Top hd.view_1 loose mean mg mb base) (D : KtsDicts (outer.filterMap (·.frame)) h₀) (T0 : KtsTurn (outer.filterMap (·.frame)) g₀ h₀)
   (hdp : dp + 30 < recursionLimit) (hu : un + 300 < cLine)
   (hR : (R, instObj 304 Dd) ∈ rest) (hD : (Dd, dictOf [⟨i1, .str (Str.ofString "_refs") t1, .ref Ad⟩, ⟨i2, .str (Str.ofString "_peeled") t2, .ref P⟩] 2) ∈ rest) (hO : o.IsDictOf (bytesKind PG w) kvs) (hAs : (Ad == sysModules) = false) (RK : RefsKV kvs H) (hrest : ∀ p ∈ rest, p.1 ≠ Ad)
   (hb : BadV bl)
   (hT : ∀ h₁ h' tk' tv, KtsTurn (outer.filterMap (·.frame)) g₀ h₁ → Fr h₁ L h' m → News h₁ L h' ((Ad, o) :: rest) → Below (AA dp un gd outer) base outer h₁ → (hd.heap_1 w.params).In h₁ → Top hd.view_1 loose mean mg mb h₁ → KtsDicts (outer.filterMap (·.frame)) h₁ → Q (.str (Str.ofString "value") tv) { s with heap := h', toks := tk' }) :
   wpAny (model PG w) ((AA dp un gd outer).deeper env) (call (.ref 368) [.ref R, .str (Str.ofString "add") td, .bytes nb.toArray t, ov, .bytes bl.toArray t']) Q E s := by
   refine Kf ?_
   simp (disch := (refine @id _ ?_; k_dflt (
    have zF10 := U 10; have zF2 := U 2; have zF3 := U 3; have zF16 := U 16; have zF61 := U 61
    have hR' : (R, instObj 304 Dd) ∈ (Ad, o) :: rest := .tail _ hR
    have hD' : (Dd, dictOf [⟨i1, .str (Str.ofString "_refs") t1, .ref Ad⟩, ⟨i2, .str (Str.ofString "_peeled") t2, .ref P⟩] 2) ∈ (Ad, o) :: rest := .tail _ hD
    k_extra "M:enterS"
    k_steps
    all_goals exact hT _ _ _ _ (by assumption) (by assumption) (by assumption) (by assumption) (by assumption) (by assumption) (by assumption)))) only [↓Kn]
end
section
variable {dp un : Nat} {gd : Option (List Code)} {env : Env} {outer : List Env} {A₀ : Around} {base h₀ g₀ : Heap} {L : Addr} {m : Str → Option Value} {mean : ExcName → Option Value} {mg mb : Str → Option Value} {w : World} {s : Shared} {Q E : Value → Shared → Prop} {news : List (Addr × Obj)}
variable {R Dd Ad P : Addr} {o : Obj} {kvs : List (List UInt8 × Value)} {H : Nat → Cell} {i1 i2 : Int} {t1 t2 : Tok}
variable {rest : List (Addr × Obj)}
theorem told_name_swap {i : Nat} {x : Sum Nat Nat} {k : Nat} {t' tb : Tok} {t td : Tok}
   (B : Below (AA dp un gd outer) base outer h₀) (F : Fr h₀ L s.heap m) (X : (hd.heap_1 w.params).In h₀) (N : News h₀ L s.heap ((Ad, o) :: rest)) (T : Top hd.view_1 loose mean mg mb h₀) (hf : env.frame = some L) (hke : env.scope.kind = .function) (XB : (hd.heap_1 w.params).In base) (TB : Top hd.view_1 loose mean mg mb base) (D : KtsDicts (outer.filterMap (·.frame)) h₀) (T0 : KtsTurn (outer.filterMap (·.frame)) g₀ h₀)
   (hdp : dp + 30 < recursionLimit) (hu : un + 300 < cLine)
   (hR : (R, instObj 304 Dd) ∈ rest) (hD : (Dd, dictOf [⟨i1, .str (Str.ofString "_refs") t1, .ref Ad⟩, ⟨i2, .str (Str.ofString "_peeled") t2, .ref P⟩] 2) ∈ rest) (hO : o.IsDictOf (bytesKind PG w) kvs) (hAs : (Ad == sysModules) = false) (RK : RefsKV kvs H) (hrest : ∀ p ∈ rest, p.1 ≠ Ad)
   (hk : k < 7) (hx : CellOk (some x))
   (hT : ∀ h₁ h' tk' tv, KtsTurn (outer.filterMap (·.frame)) g₀ h₁ → Fr h₁ L h' m → News h₁ L h' ((Ad, o) :: rest) → Below (AA dp un gd outer) base outer h₁ → (hd.heap_1 w.params).In h₁ → Top hd.view_1 loose mean mg mb h₁ → KtsDicts (outer.filterMap (·.frame)) h₁ → Q (.str (Str.ofString "name") tv) { s with heap := h', toks := tk' }) :
   wpAny (model PG w) ((AA dp un gd outer).deeper env) (call (.ref 368) [.ref R, .str (Str.ofString "swap") td, .bytes (wr k).toArray t, .bytes ZRO.toArray tb, .bytes (oct x).toArray t']) Q E s := by
   refine Kf ?_
   simp (disch := (refine @id _ ?_; k_dflt (
    have zF10 := U 10; have zF2 := U 2; have zF3 := U 3; have zF16 := U 16; have zF62 := U 62
    have hR' : (R, instObj 304 Dd) ∈ (Ad, o) :: rest := .tail _ hR
    have hD' : (Dd, dictOf [⟨i1, .str (Str.ofString "_refs") t1, .ref Ad⟩, ⟨i2, .str (Str.ofString "_peeled") t2, .ref P⟩] 2) ∈ (Ad, o) :: rest := .tail _ hD
    k_extra "M:enterS"
    k_steps
    all_goals exact hT _ _ _ _ (by assumption) (by assumption) (by assumption) (by assumption) (by assumption) (by assumption) (by assumption)))) only [↓Kn]
theorem told_name_set {i : Nat} {x : Sum Nat Nat} {k : Nat} {t' : Tok} {ov : Value} {t td : Tok}
   (B : Below (AA dp un gd outer) base outer h₀) (F : Fr h₀ L s.heap m) (X : (hd.heap_1 w.params).In h₀) (N : News h₀ L s.heap ((Ad, o) :: rest)) (T : Top hd.view_1 loose mean mg mb h₀) (hf : env.frame = some L) (hke : env.scope.kind = .function) (XB : (hd.heap_1 w.params).In base) (TB : Top hd.view_1 loose mean mg mb base) (D : KtsDicts (outer.filterMap (·.frame)) h₀) (T0 : KtsTurn (outer.filterMap (·.frame)) g₀ h₀)
   (hdp : dp + 30 < recursionLimit) (hu : un + 300 < cLine)
   (hR : (R, instObj 304 Dd) ∈ rest) (hD : (Dd, dictOf [⟨i1, .str (Str.ofString "_refs") t1, .ref Ad⟩, ⟨i2, .str (Str.ofString "_peeled") t2, .ref P⟩] 2) ∈ rest) (hO : o.IsDictOf (bytesKind PG w) kvs) (hAs : (Ad == sysModules) = false) (RK : RefsKV kvs H) (hrest : ∀ p ∈ rest, p.1 ≠ Ad)
   (hk : k < 7) (hx : CellOk (some x))
   (hT : ∀ h₁ h' tk' tv, KtsTurn (outer.filterMap (·.frame)) g₀ h₁ → Fr h₁ L h' m → News h₁ L h' ((Ad, o) :: rest) → Below (AA dp un gd outer) base outer h₁ → (hd.heap_1 w.params).In h₁ → Top hd.view_1 loose mean mg mb h₁ → KtsDicts (outer.filterMap (·.frame)) h₁ → Q (.str (Str.ofString "name") tv) { s with heap := h', toks := tk' }) :
   wpAny (model PG w) ((AA dp un gd outer).deeper env) (call (.ref 368) [.ref R, .str (Str.ofString "set") td, .bytes (wr k).toArray t, ov, .bytes (oct x).toArray t']) Q E s := by
   refine Kf ?_
   simp (disch := (refine @id _ ?_; k_dflt (
    have zF10 := U 10; have zF2 := U 2; have zF3 := U 3; have zF16 := U 16; have zF62 := U 62
    have hR' : (R, instObj 304 Dd) ∈ (Ad, o) :: rest := .tail _ hR
    have hD' : (Dd, dictOf [⟨i1, .str (Str.ofString "_refs") t1, .ref Ad⟩, ⟨i2, .str (Str.ofString "_peeled") t2, .ref P⟩] 2) ∈ (Ad, o) :: rest := .tail _ hD
    k_extra "M:enterS"
    k_steps
    all_goals exact hT _ _ _ _ (by assumption) (by assumption) (by assumption) (by assumption) (by assumption) (by assumption) (by assumption)))) only [↓Kn]
end
theorem turn_nil {g g' : Heap} (x : KtsTurn [] g g') : (∀ b o, g.get? b = some o ↔ g'.get? b = some o) ∧ g'.objs.size = g.objs.size :=
  ⟨fun b o => ⟨fun e => x.other b o e (by simp), fun e => by
    cases h : g.get? b with
    | none => rw [x.none_ b h] at e; cases e
    | some o' => rw [x.other b o' h (by simp)] at e; exact e⟩, x.size⟩
theorem fr_unturn {g g' h : Heap} {L : Addr} {m : Str → Option Value} (x : KtsTurn [] g g') (F : Fr g' L h m) : Fr g L h m :=
  ⟨F.ns, fun b o e => F.keep b o (((turn_nil x).1 b o).mp e), by rw [← (turn_nil x).2]; exact F.above⟩
theorem news_unturn {g g' h : Heap} {L : Addr} {news : List (Addr × Obj)} (x : KtsTurn [] g g') (N : News g' L h news) : News g L h news := fun p hp =>
  ⟨(N p hp).1, (N p hp).2.1, by
    cases e : g.get? p.1 with
    | none => rfl
    | some o => have := ((turn_nil x).1 _ _).mp e; rw [(N p hp).2.2] at this; cases this⟩
def seenN (H : Nat → Cell) (g : Nat) : Nat := match fol H 5 g with
  | some (ks, _) => ks.getLastD 0
  | none => 7
theorem seenN_some {H : Nat → Cell} {g : Nat} {ks : List Nat} {c : Cell} (h : fol H 5 g = some (ks, c)) : seenN H g = ks.getLastD 0 := by unfold seenN; rw [h]
theorem seenN_none {H : Nat → Cell} {g : Nat} (h : fol H 5 g = none) : seenN H g = 7 := by unfold seenN; rw [h]
inductive AlikeV : Value → Value → Prop
  | bool (b : Bool) : AlikeV (.bool b) (.bool b)
  | none : AlikeV .none .none
  | str (x : String) (t t' : Tok) : x = "value" ∨ x = "name" ∨ x = "loop" → AlikeV (.str (Str.ofString x) t) (.str (Str.ofString x) t')
theorem oct_len {c : Nat} (h : 1 ≤ c ∧ c ≤ 7) : lv c ≠ ZRO := by
  have e : ∀ i : Fin 8, 1 ≤ i.val → lv i ≠ ZRO := by decide +kernel
  exact e ⟨c, by omega⟩ h.1
theorem sym_ne_ZRO {j : Nat} (h : j < 7) : oct (.inl j) ≠ ZRO := by
  have e : ∀ i : Fin 7, oct (.inl i) ≠ ZRO := by decide +kernel
  exact e ⟨j, h⟩
theorem curB_inj {c d : Cell} (hc : CellOk c) (hd : CellOk d) : curB c = curB d ↔ c = d := by
  constructor
  · intro h
    match c, d, hc, hd, h with
    | none, none, _, _, _ => rfl
    | none, some (.inl j), _, hd, h => exact absurd h.symm (sym_ne_ZRO hd)
    | none, some (.inr j), _, hd, h => exact absurd h.symm (oct_len hd)
    | some (.inl i), none, hc, _, h => exact absurd h (sym_ne_ZRO hc)
    | some (.inr i), none, hc, _, h => exact absurd h (oct_len hc)
    | some x, some y, hc, hd, h =>
      by_cases z : x = y
      · rw [z]
      · exact absurd h (oct_ne hc hd z)
  · rintro rfl; rfl
section
variable {dp un : Nat} {gd : Option (List Code)} {env : Env} {outer : List Env} {A₀ : Around} {base h₀ g₀ : Heap} {L : Addr} {m : Str → Option Value} {mean : ExcName → Option Value} {mg mb : Str → Option Value} {w : World} {s : Shared} {Q E : Value → Shared → Prop} {news : List (Addr × Obj)}
variable {R Dd Ad P : Addr} {o : Obj} {kvs : List (List UInt8 × Value)} {H : Nat → Cell} {i1 i2 : Int} {t1 t2 : Tok}
variable {rest : List (Addr × Obj)}
theorem y_alike {a b : Value} (h : AlikeV a b) (B : Below (AA dp un gd []) h₀ [] h₀) (F : Fr h₀ L s.heap m) (X : (hd.heap_1 w.params).In h₀) (N : News h₀ L s.heap news) (T : Top hd.view_1 loose mean mg mb h₀) (hf : env.frame = some L) (hke : env.scope.kind = .function) (hdp : dp + 4 < recursionLimit) (hu : un + 40 < cLine)
   (hret : ∀ h' tk', Fr h₀ L h' m → News h₀ L h' news → Q (.bool true) { s with heap := h', toks := tk' }) :
   wpAny (model PG w) ((AA dp un gd []).deeper env) (call (.ref 375) [a, b]) Q E s := by
  induction h with
  | bool b => exact c_alike_bool B F X N T hf hke hdp hu fun h' tk' F' N' => by simpa using hret h' tk' F' N'
  | none => exact c_alike_none B F X N T hf hke hdp hu hret
  | str x t t' hx => exact c_alike_str hx B F X N T hf hke hdp hu hret
theorem y_seen {hv : List Value} {Hl : Addr} {hc gaze : Nat} {tg : Tok} (B : Below (AA dp un gd []) h₀ [] h₀) (F : Fr h₀ L s.heap m) (X : (hd.heap_1 w.params).In h₀) (N : News h₀ L s.heap news) (T : Top hd.view_1 loose mean mg mb h₀) (hf : env.frame = some L) (hke : env.scope.kind = .function)
   (hdp : dp + 40 < recursionLimit) (hu : un + 400 < cLine) (hR : (R, instObj 304 Dd) ∈ news) (hD : (Dd, dictOf [⟨i1, .str (Str.ofString "_refs") t1, .ref Ad⟩, ⟨i2, .str (Str.ofString "_peeled") t2, .ref P⟩] 2) ∈ news) (hA : (Ad, o) ∈ news) (hO : o.IsDictOf (bytesKind PG w) kvs) (hAs : (Ad == sysModules) = false) (RK : RefsKV kvs H) (hH : (Hl, W.listOf hv.toArray hc) ∈ news) (hHV : CellsV hv H) (hg : gaze < 7)
   (hret : ∀ t h' tk', Fr h₀ L h' m → News h₀ L h' news → Q (.int ((seenN H gaze : Nat) : Int) t) { s with heap := h', toks := tk' }) :
   wpAny (model PG w) ((AA dp un gd []).deeper env) (call (.ref 385) [.ref R, .ref Hl, .int (gaze : Int) tg]) Q E s := by
  refine c_seen (g₀ := h₀) B F X N T hf hke X T ktsDicts_nil KtsTurn.refl hdp hu hR hD hA hO hAs RK hH hHV hg (fun ks c hfo t h' tk' F' N' => ?_) (fun hfo t h₁ h' tk' k1 F' N' _ _ _ _ => ?_)
  · rw [← seenN_some hfo]; exact hret t h' tk' F' N'
  · have := hret t h' tk' (fr_unturn k1 F') (news_unturn k1 N')
    rw [seenN_none hfo] at this; exact this
theorem y_point {i : Nat} {j : Nat} {ov : Value} {t' : Tok} {t td : Tok} (B : Below (AA dp un gd []) h₀ [] h₀) (F : Fr h₀ L s.heap m) (X : (hd.heap_1 w.params).In h₀) (N : News h₀ L s.heap ((Ad, o) :: rest)) (T : Top hd.view_1 loose mean mg mb h₀) (hf : env.frame = some L) (hke : env.scope.kind = .function)
   (hdp : dp + 40 < recursionLimit) (hu : un + 400 < cLine) (hR : (R, instObj 304 Dd) ∈ rest) (hD : (Dd, dictOf [⟨i1, .str (Str.ofString "_refs") t1, .ref Ad⟩, ⟨i2, .str (Str.ofString "_peeled") t2, .ref P⟩] 2) ∈ rest) (hO : o.IsDictOf (bytesKind PG w) kvs) (hAs : (Ad == sysModules) = false) (RK : RefsKV kvs H) (hrest : ∀ p ∈ rest, p.1 ≠ Ad) (hi : i < 7) (hj : j < 7)
   (hT : fol H 5 i ≠ none → ∀ o' kvs' h' tk', o'.IsDictOf (bytesKind PG w) kvs' → RefsKV kvs' (setH H i (some (.inl j))) → Fr h₀ L h' m → News h₀ L h' ((Ad, o') :: rest) → Q .none { s with heap := h', toks := tk' })
   (hF : fol H 5 i = none → ∀ h' tk' tv, Fr h₀ L h' m → News h₀ L h' ((Ad, o) :: rest) → Q (.str (Str.ofString "loop") tv) { s with heap := h', toks := tk' }) :
   wpAny (model PG w) ((AA dp un gd []).deeper env) (call (.ref 368) [.ref R, .str (Str.ofString "point") td, .bytes (nm i).toArray t, ov, .bytes (oct (.inl j)).toArray t']) Q E s := by
  refine told_point (g₀ := h₀) B F X N T hf hke X T ktsDicts_nil KtsTurn.refl (by omega) (by omega) hR hD hO hAs RK hrest hi hj hT fun hfo h₁ h' tk' tv k1 F' N' _ _ _ _ => ?_
  exact hF hfo h' tk' tv (fr_unturn k1 F') (news_unturn k1 N')
theorem setH_same {H : Nat → Cell} {i : Nat} {c : Cell} (h : H i = c) : setH H i c = H := by
  funext j
  unfold setH
  by_cases z : j = i
  · rw [if_pos z, z, h]
  · rw [if_neg z]
theorem y_turn2 {sp spot : Nat} {sc cell : Cell} {calm turned : Bool} {deed : String} {oldv duev octv : Value} {t td : Tok} (hdue : DueOk H sp sc calm deed spot oldv cell duev turned) (hcalm : calm = decide (H sp = sc)) (hsc : CellOk sc) (hsp : sp < 7) (hcv : OctV cell octv) (B : Below (AA dp un gd []) h₀ [] h₀) (F : Fr h₀ L s.heap m) (X : (hd.heap_1 w.params).In h₀) (N : News h₀ L s.heap ((Ad, o) :: rest)) (T : Top hd.view_1 loose mean mg mb h₀) (hf : env.frame = some L) (hke : env.scope.kind = .function)
   (hdp : dp + 40 < recursionLimit) (hu : un + 400 < cLine) (hR : (R, instObj 304 Dd) ∈ rest) (hD : (Dd, dictOf [⟨i1, .str (Str.ofString "_refs") t1, .ref Ad⟩, ⟨i2, .str (Str.ofString "_peeled") t2, .ref P⟩] 2) ∈ rest) (hO : o.IsDictOf (bytesKind PG w) kvs) (hAs : (Ad == sysModules) = false) (RK : RefsKV kvs H) (hrest : ∀ p ∈ rest, p.1 ≠ Ad)
   (hA : ∀ told o' kvs' h' tk', AlikeV told duev → (deed = "point" → fol H 5 spot ≠ none) → o'.IsDictOf (bytesKind PG w) kvs' → RefsKV kvs' (if turned = true then setH H spot cell else H) → Fr h₀ L h' m → News h₀ L h' ((Ad, o') :: rest) → Q told { s with heap := h', toks := tk' })
   (hL : deed = "point" → fol H 5 spot = none → ∀ tv h' tk', Fr h₀ L h' m → News h₀ L h' ((Ad, o) :: rest) → Q (.str (Str.ofString "loop") tv) { s with heap := h', toks := tk' }) :
   wpAny (model PG w) ((AA dp un gd []).deeper env) (call (.ref 368) [.ref R, .str (Str.ofString deed) td, .bytes (nm spot).toArray t, oldv, octv]) Q E s := by
  have hdp' : dp + 30 < recursionLimit := by omega
  have hu' : un + 300 < cLine := by omega
  have hokH := RK.ok sp hsp
  induction hdue with
  | add i x hi hx =>
    obtain ⟨t', rfl⟩ := hcv
    refine told_add (g₀ := h₀) B F X N T hf hke X T ktsDicts_nil KtsTurn.refl hdp' hu' hR hD hO hAs RK hrest hi hx (fun hH o' kvs' h' tk' hO' RK' F' N' => ?_) (fun hH h' tk' F' N' => ?_)
    · rw [hH] at hA
      exact hA _ o' kvs' h' tk' (.bool true) (fun e => absurd e (by decide)) hO' RK' F' N'
    · have e : (H i).isNone = false := by cases z : H i with
        | none => exact absurd z hH
        | some _ => rfl
      rw [e] at hA
      exact hA _ o kvs h' tk' (.bool false) (fun e => absurd e (by decide)) hO RK F' N'
  | point i j hi hj =>
    obtain ⟨t', rfl⟩ := hcv
    exact y_point B F X N T hf hke hdp hu hR hD hO hAs RK hrest hi hj (fun hne o' kvs' h' tk' hO' RK' F' N' => hA _ o' kvs' h' tk' .none (fun _ => hne) hO' RK' F' N') (fun hfo h' tk' tv F' N' => hL rfl hfo tv h' tk' F' N')
  | set i c hi hx =>
    obtain ⟨t', rfl⟩ := hcv
    exact told_set (g₀ := h₀) B F X N T hf hke X T ktsDicts_nil KtsTurn.refl hdp' hu' hR hD hO hAs RK hrest hi hx (fun o' kvs' h' tk' hO' RK' F' N' => hA _ o' kvs' h' tk' .none (fun e => absurd e (by decide)) hO' RK' F' N')
  | drop0 =>
    by_cases hH : H sp = none
    · refine told_drop_miss (g₀ := h₀) B F X N T hf hke X T ktsDicts_nil KtsTurn.refl hdp' hu' hR hD hO hAs RK hrest hsp hH fun h₁ h' tk' k1 F' N' _ _ _ _ => ?_
      exact hA _ o kvs h' tk' (.bool true) (fun e => absurd e (by decide)) hO (by rw [if_pos rfl, setH_same hH]; exact RK) (fr_unturn k1 F') (news_unturn k1 N')
    · exact told_drop_there (g₀ := h₀) B F X N T hf hke X T ktsDicts_nil KtsTurn.refl hdp' hu' hR hD hO hAs RK hrest hsp hH fun o' kvs' h' tk' hO' RK' F' N' => hA _ o' kvs' h' tk' (.bool true) (fun e => absurd e (by decide)) hO' RK' F' N'
  | swap0 hn hx =>
    obtain ⟨x, rfl⟩ : ∃ x, sc = some x := by
      match sc, hn with
      | some x, _ => exact ⟨x, rfl⟩
    obtain ⟨t', rfl⟩ := hcv
    exact told_swap0 (g₀ := h₀) B F X N T hf hke X T ktsDicts_nil KtsTurn.refl hdp' hu' hR hD hO hAs RK hrest hsp hx fun o' kvs' h' tk' hO' RK' F' N' => hA _ o' kvs' h' tk' (.bool true) (fun e => absurd e (by decide)) hO' RK' F' N'
  | drop tb =>
    have hi := curB_inj hokH hsc
    by_cases hH : H sp = none
    · refine told_drop_miss_b (g₀ := h₀) B F X N T hf hke X T ktsDicts_nil KtsTurn.refl hdp' hu' hR hD hO hAs RK hrest hsp hH (fun e h₁ h' tk' k1 F' N' _ _ _ _ => ?_) (fun e h' tk' F' N' => ?_)
      · have c1 : calm = true := by rw [hcalm]; simpa using hi.mp e
        rw [c1] at hA
        exact hA _ o kvs h' tk' (.bool true) (fun e => absurd e (by decide)) hO (by rw [if_pos rfl, setH_same hH]; exact RK) (fr_unturn k1 F') (news_unturn k1 N')
      · have c1 : calm = false := by rw [hcalm]; simpa using fun z => e (hi.mpr z)
        rw [c1] at hA
        exact hA _ o kvs h' tk' (.bool false) (fun e => absurd e (by decide)) hO RK F' N'
    · refine told_drop_there_b (g₀ := h₀) B F X N T hf hke X T ktsDicts_nil KtsTurn.refl hdp' hu' hR hD hO hAs RK hrest hsp hH (fun e o' kvs' h' tk' hO' RK' F' N' => ?_) (fun e h' tk' F' N' => ?_)
      · have c1 : calm = true := by rw [hcalm]; simpa using hi.mp e
        rw [c1] at hA
        exact hA _ o' kvs' h' tk' (.bool true) (fun e => absurd e (by decide)) hO' RK' F' N'
      · have c1 : calm = false := by rw [hcalm]; simpa using fun z => e (hi.mpr z)
        rw [c1] at hA
        exact hA _ o kvs h' tk' (.bool false) (fun e => absurd e (by decide)) hO RK F' N'
  | swap tb x hx =>
    obtain ⟨t', rfl⟩ := hcv
    have hi := curB_inj hokH hsc
    refine told_swap (g₀ := h₀) B F X N T hf hke X T ktsDicts_nil KtsTurn.refl hdp' hu' hR hD hO hAs RK hrest hsp hx (fun e o' kvs' h' tk' hO' RK' F' N' => ?_) (fun e h' tk' F' N' => ?_)
    · have c1 : calm = true := by rw [hcalm]; simpa using hi.mp e
      rw [c1] at hA
      exact hA _ o' kvs' h' tk' (.bool true) (fun e => absurd e (by decide)) hO' RK' F' N'
    · have c1 : calm = false := by rw [hcalm]; simpa using fun z => e (hi.mpr z)
      rw [c1] at hA
      exact hA _ o kvs h' tk' (.bool false) (fun e => absurd e (by decide)) hO RK F' N'
theorem y_ref {sp c : Nat} {sc : Cell} {deed : String} {name : List UInt8} {oldv laid duev : Value} {t td : Tok} (hdue : RefOk sp sc c deed name oldv laid duev) (hsp : sp < 7) (hc : 1 ≤ c ∧ c ≤ 7) (B : Below (AA dp un gd []) h₀ [] h₀) (F : Fr h₀ L s.heap m) (X : (hd.heap_1 w.params).In h₀) (N : News h₀ L s.heap ((Ad, o) :: rest)) (T : Top hd.view_1 loose mean mg mb h₀) (hf : env.frame = some L) (hke : env.scope.kind = .function)
   (hdp : dp + 40 < recursionLimit) (hu : un + 400 < cLine) (hR : (R, instObj 304 Dd) ∈ rest) (hD : (Dd, dictOf [⟨i1, .str (Str.ofString "_refs") t1, .ref Ad⟩, ⟨i2, .str (Str.ofString "_peeled") t2, .ref P⟩] 2) ∈ rest) (hO : o.IsDictOf (bytesKind PG w) kvs) (hAs : (Ad == sysModules) = false) (RK : RefsKV kvs H) (hrest : ∀ p ∈ rest, p.1 ≠ Ad)
   (hA : ∀ told h' tk', AlikeV told duev → Fr h₀ L h' m → News h₀ L h' ((Ad, o) :: rest) → Q told { s with heap := h', toks := tk' }) :
   wpAny (model PG w) ((AA dp un gd []).deeper env) (call (.ref 368) [.ref R, .str (Str.ofString deed) td, .bytes name.toArray t, oldv, laid]) Q E s := by
  have hdp' : dp + 30 < recursionLimit := by omega
  have hu' : un + 300 < cLine := by omega
  have hokH := RK.ok sp hsp
  induction hdue with
  | swap ob t1 t2 hb =>
    exact told_swap (x := .inr c) (g₀ := h₀) B F X N T hf hke X T ktsDicts_nil KtsTurn.refl hdp' hu' hR hD hO hAs RK hrest hsp hc (fun e => absurd e (hb _ hokH)) (fun e h' tk' F' N' => hA _ h' tk' (.bool false) F' N')
  | drop ob t1 hb =>
    by_cases hH : H sp = none
    · exact told_drop_miss_b (g₀ := h₀) B F X N T hf hke X T ktsDicts_nil KtsTurn.refl hdp' hu' hR hD hO hAs RK hrest hsp hH (fun e => absurd e (hb _ hokH)) (fun e h' tk' F' N' => hA _ h' tk' (.bool false) F' N')
    · exact told_drop_there_b (g₀ := h₀) B F X N T hf hke X T ktsDicts_nil KtsTurn.refl hdp' hu' hR hD hO hAs RK hrest hsp hH (fun e => absurd e (hb _ hokH)) (fun e h' tk' F' N' => hA _ h' tk' (.bool false) F' N')
  | badswap bl t1 t2 tv hb =>
    exact told_bad_swap (i := 0) (g₀ := h₀) B F X N T hf hke X T ktsDicts_nil KtsTurn.refl hdp' hu' hR hD hO hAs RK hrest hb fun h₁ h' tk' tv' k1 F' N' _ _ _ _ => hA _ h' tk' (.str "value" _ _ (.inl rfl)) (fr_unturn k1 F') (news_unturn k1 N')
  | badadd bl t2 tv hb =>
    exact told_bad_add (i := 0) (g₀ := h₀) B F X N T hf hke X T ktsDicts_nil KtsTurn.refl hdp' hu' hR hD hO hAs RK hrest hb fun h₁ h' tk' tv' k1 F' N' _ _ _ _ => hA _ h' tk' (.str "value" _ _ (.inl rfl)) (fr_unturn k1 F') (news_unturn k1 N')
  | nameswap k t1 t2 tv hk =>
    exact told_name_swap (i := 0) (x := .inr c) (g₀ := h₀) B F X N T hf hke X T ktsDicts_nil KtsTurn.refl hdp' hu' hR hD hO hAs RK hrest hk hc fun h₁ h' tk' tv' k1 F' N' _ _ _ _ => hA _ h' tk' (.str "name" _ _ (.inr (.inl rfl))) (fr_unturn k1 F') (news_unturn k1 N')
  | nameset k t2 tv hk =>
    exact told_name_set (i := 0) (x := .inr c) (g₀ := h₀) B F X N T hf hke X T ktsDicts_nil KtsTurn.refl hdp' hu' hR hD hO hAs RK hrest hk hc fun h₁ h' tk' tv' k1 F' N' _ _ _ _ => hA _ h' tk' (.str "name" _ _ (.inr (.inl rfl))) (fr_unturn k1 F') (news_unturn k1 N')
theorem y_undone {i : Nat} {b a : Cell} {vb va : Value} {t : Tok} (B : Below (AA dp un gd []) h₀ [] h₀) (F : Fr h₀ L s.heap m) (X : (hd.heap_1 w.params).In h₀) (N : News h₀ L s.heap ((Ad, o) :: rest)) (T : Top hd.view_1 loose mean mg mb h₀) (hf : env.frame = some L) (hke : env.scope.kind = .function)
   (hdp : dp + 40 < recursionLimit) (hu : un + 400 < cLine) (hR : (R, instObj 304 Dd) ∈ rest) (hD : (Dd, dictOf [⟨i1, .str (Str.ofString "_refs") t1, .ref Ad⟩, ⟨i2, .str (Str.ofString "_peeled") t2, .ref P⟩] 2) ∈ rest) (hO : o.IsDictOf (bytesKind PG w) kvs) (hAs : (Ad == sysModules) = false) (RK : RefsKV kvs H) (hrest : ∀ p ∈ rest, p.1 ≠ Ad) (hi : i < 7) (hb : CellOk b) (hvb : CellV b vb) (hva : CellV a va) (hHa : H i = a) (hab : ¬ (b = none ∧ a = none))
   (hret : ∀ o' kvs' h' tk', o'.IsDictOf (bytesKind PG w) kvs' → RefsKV kvs' (setH H i b) → Fr h₀ L h' m → News h₀ L h' ((Ad, o') :: rest) → Q (.bool true) { s with heap := h', toks := tk' }) :
   wpAny (model PG w) ((AA dp un gd []).deeper env) (call (.ref 392) [.ref R, .bytes (nm i).toArray t, vb, va]) Q E s := by
  have ha : CellOk a := hHa ▸ RK.ok i hi
  match b, a, hb, hvb, ha, hva, hHa, hab, hret with
  | none, none, _, _, _, _, _, hab, _ => exact absurd ⟨rfl, rfl⟩ hab
  | none, some y, _, hvb, ha, hva, hHa, _, hret =>
    rw [show vb = .none from hvb]
    exact undone_drop (g₀ := h₀) B F X N T hf hke X T ktsDicts_nil KtsTurn.refl hdp hu hR hD hO hAs RK hrest hi ha hva hHa hret
  | some x, none, hb, hvb, _, hva, hHa, _, hret =>
    rw [show va = .none from hva]
    exact undone_add (g₀ := h₀) B F X N T hf hke X T ktsDicts_nil KtsTurn.refl hdp hu hR hD hO hAs RK hrest hi hb hvb hHa hret
  | some x, some y, hb, hvb, ha, hva, hHa, _, hret =>
    by_cases z : x = y
    · subst z
      exact undone_same (g₀ := h₀) B F X N T hf hke X T ktsDicts_nil KtsTurn.refl hdp hu hR hD hO hAs RK hrest hi hb hvb ha hva hHa hret
    · exact undone_swap (g₀ := h₀) B F X N T hf hke X T ktsDicts_nil KtsTurn.refl hdp hu hR hD hO hAs RK hrest hi hb hvb ha hva hHa z hret
theorem y_asdict (B : Below (AA dp un gd []) h₀ [] h₀) (F : Fr h₀ L s.heap m) (X : (hd.heap_1 w.params).In h₀) (N : News h₀ L s.heap news) (T : Top hd.view_1 loose mean mg mb h₀) (hf : env.frame = some L) (hke : env.scope.kind = .function) (hdp : dp + 60 < recursionLimit) (hu : un + 600 < cLine) (hR : (R, instObj 304 Dd) ∈ news) (hD : (Dd, dictOf [⟨i1, .str (Str.ofString "_refs") t1, .ref Ad⟩, ⟨i2, .str (Str.ofString "_peeled") t2, .ref P⟩] 2) ∈ news) (hA : (Ad, o) ∈ news) (hO : o.IsDictOf (bytesKind PG w) kvs) (hAs : (Ad == sysModules) = false) (RK : RefsKV kvs H)
   (hret : ∀ Dr od rkvs h' tk' dr, od.IsDictOf (bytesKind PG w) rkvs → RefsKV rkvs (endsH H) → Fr h₀ L h' m → News h₀ L h' ((Dr, od) :: news) → (Dr == sysModules) = false → Q (.ref Dr) { s with heap := h', toks := tk', drawn := dr }) :
   wpAny (model PG w) ((AA dp un gd []).deeper env) (call (.ref 161) [.ref R]) Q E s :=
  c_asdict (g₀ := h₀) B F X N T hf hke X T ktsDicts_nil KtsTurn.refl hdp hu hR hD hA hO hAs RK fun Dr od rkvs h₁ h' tk' dr hod hrk k1 F' N' _ _ _ _ lo => hret Dr od rkvs h' tk' dr hod hrk (fr_unturn k1 F') (news_unturn k1 N') lo
theorem y_symrefs (B : Below (AA dp un gd []) h₀ [] h₀) (F : Fr h₀ L s.heap m) (X : (hd.heap_1 w.params).In h₀) (N : News h₀ L s.heap news) (T : Top hd.view_1 loose mean mg mb h₀) (hf : env.frame = some L) (hke : env.scope.kind = .function) (hdp : dp + 60 < recursionLimit) (hu : un + 600 < cLine) (hR : (R, instObj 304 Dd) ∈ news) (hD : (Dd, dictOf [⟨i1, .str (Str.ofString "_refs") t1, .ref Ad⟩, ⟨i2, .str (Str.ofString "_peeled") t2, .ref P⟩] 2) ∈ news) (hA : (Ad, o) ∈ news) (hO : o.IsDictOf (bytesKind PG w) kvs) (hAs : (Ad == sysModules) = false) (RK : RefsKV kvs H)
   (hret : ∀ Dr od rkvs h' tk' dr, od.IsDictOf (bytesKind PG w) rkvs → KVB rkvs (linkH H) → Fr h₀ L h' m → News h₀ L h' ((Dr, od) :: news) → (Dr == sysModules) = false → Q (.ref Dr) { s with heap := h', toks := tk', drawn := dr }) :
   wpAny (model PG w) ((AA dp un gd []).deeper env) (call (.ref 224) [.ref R]) Q E s :=
  c_symrefs (g₀ := h₀) B F X N T hf hke X T ktsDicts_nil KtsTurn.refl hdp hu hR hD hA hO hAs RK fun Dr od rkvs h₁ h' tk' dr hod hrk k1 F' N' _ _ _ _ lo => hret Dr od rkvs h' tk' dr hod hrk (fr_unturn k1 F') (news_unturn k1 N') lo
end
def lnk : Cell → List Row → Cell → Prop
  | a, [], b => a = b
  | a, r :: rs, b => r.2.1 = a ∧ lnk r.2.2 rs b
theorem lnk_app {a b c : Cell} : ∀ {l k : List Row}, lnk a l b → lnk b k c → lnk a (l ++ k) c
  | [], k, h, h' => by cases h; exact h'
  | r :: l, k, h, h' => ⟨h.1, lnk_app h.2 h'⟩
theorem lnk_split {a c : Cell} : ∀ {l k : List Row}, lnk a (l ++ k) c → ∃ b, lnk a l b ∧ lnk b k c
  | [], k, h => ⟨a, rfl, h⟩
  | r :: l, k, h => by
    obtain ⟨b, x, y⟩ := lnk_split h.2
    exact ⟨b, ⟨h.1, x⟩, y⟩
theorem lnk_fun {a b b' : Cell} : ∀ {l : List Row}, lnk a l b → lnk a l b' → b = b'
  | [], h, h' => by cases h; cases h'; rfl
  | r :: l, h, h' => lnk_fun h.2 h'.2
theorem lnk_last {a b : Cell} : ∀ {r : Row} {l : List Row}, lnk a (r :: l) b → ((r :: l).getLast (List.cons_ne_nil _ _)).2.2 = b
  | r, [], h => h.2
  | r, q :: l, h => lnk_last (r := q) h.2
def own (rows : List Row) (i : Nat) : List Row := rows.filter fun r => decide (r.1 = i)
theorem own_app (l k : List Row) (i : Nat) : own (l ++ k) i = own l i ++ own k i := List.filter_append ..
def Tale (rows : List Row) (H : Nat → Cell) : Prop := ∀ i, i < 7 → lnk none (own rows i) (H i)
theorem Tale.nil : Tale [] (fun _ => none) := fun _ _ => rfl
theorem Tale.snoc {rows : List Row} {H : Nat → Cell} (h : Tale rows H) (i : Nat) (c : Cell) : Tale (rows ++ [(i, H i, c)]) (setH H i c) := fun j hj => by
  rw [own_app]
  by_cases z : j = i
  · subst z
    have e : own [(j, H j, c)] j = [(j, H j, c)] := by simp [own]
    rw [e]
    exact lnk_app (h j hj) ⟨rfl, by simp [setH, lnk]⟩
  · have e : own [(i, H i, c)] j = [] := by simp [own, Ne.symm z]
    rw [e, List.append_nil, setH, if_neg z]
    exact h j hj
theorem Tale.congr {rows : List Row} {H G : Nat → Cell} (h : Tale rows H) (e : ∀ i, i < 7 → G i = H i) : Tale rows G := fun i hi => by rw [e i hi]; exact h i hi
theorem Tale.none {H : Nat → Cell} (h : Tale [] H) (i : Nat) (hi : i < 7) : H i = none := (h i hi).symm
def SawOk (rows : List Row) (sp : Nat) (sc : Cell) (idx : Nat) : Prop := idx ≤ rows.length ∧ sp < 7 ∧ CellOk sc ∧ lnk none (own (rows.take idx) sp) sc
theorem SawOk.now {rows : List Row} {H : Nat → Cell} (h : Tale rows H) {sp : Nat} (hsp : sp < 7) (hok : CellOk (H sp)) : SawOk rows sp (H sp) rows.length :=
  ⟨Nat.le_refl _, hsp, hok, by rw [List.take_length]; exact h sp hsp⟩
theorem SawOk.snoc {rows : List Row} {sp : Nat} {sc : Cell} {idx : Nat} (h : SawOk rows sp sc idx) (r : Row) : SawOk (rows ++ [r]) sp sc idx :=
  ⟨by simp; exact Nat.le_succ_of_le h.1, h.2.1, h.2.2.1, by rw [List.take_append_of_le_length h.1]; exact h.2.2.2⟩
theorem SawOk.calm {rows : List Row} {H : Nat → Cell} (h : Tale rows H) {sp : Nat} {sc : Cell} {idx : Nat} (hs : SawOk rows sp sc idx) : calmB rows sp idx = decide (H sp = sc) := by
  have h1 := h sp hs.2.1
  rw [show own rows sp = own (rows.take idx) sp ++ own (rows.drop idx) sp from by rw [← own_app, List.take_append_drop]] at h1
  obtain ⟨b, hb, hb2⟩ := lnk_split h1
  have e := lnk_fun hb hs.2.2.2
  subst e
  unfold calmB
  have e2 : since rows sp idx = own (rows.drop idx) sp := rfl
  cases z : own (rows.drop idx) sp with
  | nil =>
    rw [z] at hb2
    rw [e2, z]
    simp only [lnk] at hb2
    simp [hb2]
  | cons r rs =>
    rw [z] at hb2
    have hl := lnk_last hb2
    rw [e2, z]
    simp only
    rw [hl, hb2.1]
theorem own_last {rows : List Row} {k : Nat} {r : Row} (hk : rows[k]? = some r) (hlast : ∀ j q, k < j → rows[j]? = some q → q.1 ≠ r.1) : own rows r.1 = own (rows.take k) r.1 ++ [r] ∧ ∀ i, i ≠ r.1 → own rows i = own (rows.take k ++ rows.drop (k + 1)) i := by
  have e : rows = rows.take k ++ r :: rows.drop (k + 1) := by
    obtain ⟨hlt, he⟩ := List.getElem?_eq_some_iff.mp hk
    rw [← he]; simp
  have hd : own (rows.drop (k + 1)) r.1 = [] := by
    unfold own
    rw [List.filter_eq_nil_iff]
    intro q hq
    obtain ⟨j, hj, ej⟩ := List.mem_iff_getElem.mp hq
    rw [List.getElem_drop] at ej
    have := hlast (k + 1 + j) q (by omega) (by rw [List.getElem?_eq_getElem (by simp at hj; omega), ej])
    simpa using this
  constructor
  · conv => lhs; rw [e]
    rw [own_app, show own (r :: rows.drop (k + 1)) r.1 = r :: own (rows.drop (k + 1)) r.1 from by simp [own], hd]
  · intro i hi
    conv => lhs; rw [e]
    rw [own_app, own_app, show own (r :: rows.drop (k + 1)) i = own (rows.drop (k + 1)) i from by simp [own, Ne.symm hi]]
theorem Tale.undo {rows : List Row} {H : Nat → Cell} (h : Tale rows H) {k : Nat} {r : Row} (hr : r.1 < 7) (hk : rows[k]? = some r) (hlast : ∀ j q, k < j → rows[j]? = some q → q.1 ≠ r.1) :
    H r.1 = r.2.2 ∧ Tale (rows.take k ++ rows.drop (k + 1)) (setH H r.1 r.2.1) := by
  obtain ⟨h1, h2⟩ := own_last hk hlast
  have h3 := h r.1 hr
  rw [h1] at h3
  obtain ⟨b, hb, hb2⟩ := lnk_split h3
  have hd : own (rows.drop (k + 1)) r.1 = [] := by
    unfold own
    rw [List.filter_eq_nil_iff]
    intro q hq
    obtain ⟨j, hj, ej⟩ := List.mem_iff_getElem.mp hq
    rw [List.getElem_drop] at ej
    have := hlast (k + 1 + j) q (by omega) (by rw [List.getElem?_eq_getElem (by simp at hj; omega), ej])
    simpa using this
  refine ⟨hb2.2.symm, fun i hi => ?_⟩
  by_cases z : i = r.1
  · subst z
    rw [own_app, hd, List.append_nil, setH, if_pos rfl, hb2.1]
    exact hb
  · rw [← h2 i z, setH, if_neg z]
    exact h i hi
section
variable {w : World} {A : Around} {E : Value → Shared → Prop} {s : Shared} {S I T r : Addr} {o : Obj} {es : Array (Int × Value)} {ord : List Value} {i : Nat}
theorem slot_sself : Slot "set_iterator" "__iter__" "set_iterator.__iter__" :=
  .of (owner := "set_iterator") (n := "__iter__") (by rw [typeLookup_type, builtinLookup_eq_fast]; kernel_rfl) (by decide +kernel) (by decide +kernel) (by decide +kernel)
    (by first | exact .inl (by decide +kernel) | exact .inr (by decide +kernel)) (by rw [isSubtype_type]; kernel_rfl)
theorem entry_sself : entryFor table "set_iterator.__iter__" = some Builtin.«dict_keyiterator.__iter__» := entryFor_alias (id' := "dict_keyiterator.__iter__") (by rw [fastTable_eq_tree]; kernel_rfl) rfl (by decide +kernel) (by rw [fastTable_eq_tree]; kernel_rfl)
theorem args_sself (a : Value) : argsOk "set_iterator.__iter__" ⟨[a], []⟩ := by unfold argsOk; kernel_rfl
theorem self_X {Q : Value → Shared → Prop} (hit : ItX w s.heap I S T o es ord i) (h : Q (.ref I) s) : wpAny (model PG w) A (pyIter (.ref I)) Q E s := by
  obtain ⟨ob, hb, hc⟩ := hit.iter
  have hT : s.TypeIs (.ref I) "set_iterator" := ⟨ob, hb, hc⟩
  refine wpAny_pyIter_slot hT slot_sself (wpAny_call_entry slot_sself hT entry_sself ?_ (args_sself _))
  show wpAny _ _ (ret (.ref I)) _ _ s
  exact wpAny_pure ⟨_, rfl, "set_iterator", _, hT, slot_snext.lookup, h⟩
theorem hint_set {Q : Bool → Shared → Prop} (hT : s.TypeIs (.ref r) "set") (h : Q false s) : wpAny (model PG w) A (Builtin.List.listLengthHint (.ref r)) Q E s := by
  unfold Builtin.List.listLengthHint
  refine wpAny_bind (wpAny_specialOf hT F.slot_set_len.lookup ?_)
  generalize hid : ("set.__len__" : String) = id0
  wp_delta
  rw [show splitId id0 = some ("set", "__len__") from by subst hid; decide +kernel]
  subst hid
  refine wpAny_bind (wpAny_isInstance (T := "set") (b := true) hT (by rw [isSubtype_type]; kernel_rfl) ?_)
  refine wpAny_ite_split (fun hab => absurd hab (by decide)) (fun _ => ?_)
  refine wpAny_ite_split (fun _ => ?_) (fun hab => absurd (by decide +kernel) hab)
  refine wpAny_bind (wpAny_typeOf hT ?_)
  exact wpAny_pure h
theorem iter_X0 (ho : s.heap.get? S = some o) (hX : SetX w o #[]) : ∃ oI, (∀ (A : Around) (E : Value → Shared → Prop) (Q : Value → Shared → Prop), Q (.ref s.heap.objs.size) { s with heap := s.heap.push oI } → wpAny (model PG w) A (pyIter (.ref S)) Q E s) ∧
    ItX w (s.heap.push oI) s.heap.objs.size S S o #[] [] 0 := by
  obtain ⟨ep, t, hex, hd, hf, hl, hp⟩ := id hX
  have hT : s.TypeIs (.ref S) "set" := ⟨o, ho, hex.1⟩
  have hn : ∀ {A : Around} {E : Value → Shared → Prop} {h1 : Heap}, h1.get? S = some o → ∀ (s1 : Shared) (Q1 : Nat → Shared → Prop), s1.heap = h1 → Q1 ep s1 → wpAny (model PG w) A.in1 (setEpoch S) Q1 E s1 := fun {A} {E} {h1} e1 s1 Q1 e2 hq => by
    subst e2
    exact wpAny_setEpoch_of e1 hd hf hq
  refine ⟨{ cls := .type "set_iterator", data := .fields #[rawInt 0, rawInt 0, .ref S, rawInt 0, rawInt ep] }, fun A E Q hq => ?_, ?_⟩
  rotate_left
  · cases hbt : w.params.followText "set-order" with
    | true => exact ⟨Heap.get?_push_of_some _ ho, ep, t, _, _, hex, hd, hf, Heap.get?_push_size _ rfl, rfl, rfl, .inr (.inl ⟨hbt, rfl, rfl⟩)⟩
    | false => exact ⟨Heap.get?_push_of_some _ ho, ep, t, _, _, hex, hd, hf, Heap.get?_push_size _ rfl, rfl, rfl, .inr (.inr ⟨hbt, by rw [hl, hbt]; rfl, Nat.zero_le _, rfl, 0, rfl, fun _ => rfl, fun h => absurd h (by simp)⟩)⟩
  · refine wpAny_pyIter_slot hT F.slot_set_iter (wpAny_call_entry F.slot_set_iter hT entry_siter ?_ (F.args_set_iter_1 _))
    show wpAny _ _ (Builtin.Frozenset.slot0 "__iter__" ⟨[.ref S], []⟩ >>= _) _ _ s
    refine wpAny_bind (wpAny_of_eq (a := S) rfl ?_)
    unfold Builtin.Frozenset.sizeOf setEntries
    refine wpAny_bind (wpAny_bind (wpAny_bind (wpAny_setState_of ho hd hf (wpAny_pure (wpAny_pure ?_)))))
    unfold setDrawn setsByText
    refine wpAny_bind (wpAny_bind (wpAny_setState_of ho hd hf (wpAny_bind (wpAny_bind (wpAny_askSetting (wpAny_pure (wpAny_pure ?_)))))))
    show wpAny _ _ (if (!(w.params.followText "set-order") && (!t.plain && decide ((#[] : Array (Int × Value)).size > 1))) = true then _ else _) _ _ _
    rw [if_neg (by simp)]
    refine wpAny_bind (wpAny_pure ?_)
    refine wpAny_bind (hn (h1 := s.heap) ho _ _ rfl ?_)
    refine wpAny_bind (wpAny_newObj_type ?_)
    exact wpAny_pure ⟨_, rfl, "set_iterator", _, ⟨_, Heap.get?_push_size _ rfl, rfl⟩, slot_snext.lookup, hq⟩
end
section
variable {w : World} {A : Around} {E : Value → Shared → Prop} {s : Shared} {h₀ : Heap} {L S r : Addr} {m : Str → Option Value} {news : List (Addr × Obj)} {os o : Obj}
theorem walks_X0 (hh : A.handled = none) (I : Addr) (hne : r ≠ I) (o : Obj) : Walks PG w A I [I, r] [I] 0 (fun _ _ => False) (fun i h => ItX w h I r r o #[] [] 0) where
  sub := fun b hb => by rw [List.mem_singleton.mp hb]; exact List.Mem.head _
  frame := fun i h h' st hk => st.move fun b hb ob e => hk b (by rcases hb with rfl | rfl | rfl <;> simp) ob e
  item := fun i s Q E hi _ _ => absurd hi (Nat.not_lt_zero _)
  done := fun s Q E st hQ => next_end_X hh st (by simp) (Nat.le_refl _) (by simp) fun h' hs => hQ h' s.toks fun b ob hb e => hs b ob (fun z => hb (by simp [z])) e
  self := fun i s Q E st hQ => self_X st hQ
theorem src_X0 : KdlSrc PG w "set" r r 0 (fun _ _ => False) (fun h => ∃ o, h.get? r = some o ∧ SetX w o #[]) where
  type := fun _ hm => let ⟨o, ho, hx⟩ := hm; ⟨o, ho, hx.choose_spec.choose_spec.1.1⟩
  there := fun _ hm => let ⟨o, ho, _⟩ := hm; ⟨Heap.lt_size ho, Heap.lt_size ho⟩
  keep := fun _ _ hm hk => let ⟨o, ho, hx⟩ := hm; ⟨o, hk r (.inl rfl) o ho, hx⟩
  notList := by decide
  notTuple := by decide
  hint := fun _ _ _ _ hm hq => hint_set (let ⟨o, ho, hx⟩ := hm; ⟨o, ho, hx.choose_spec.choose_spec.1.1⟩) hq
  iter := fun A s hh hm => by
    obtain ⟨o, ho, hx⟩ := hm
    obtain ⟨oI, h1, h2⟩ := iter_X0 ho hx
    exact ⟨oI, _, fun E Q hq => h1 A E Q hq, walks_X0 hh _ (Nat.ne_of_lt (Heap.lt_size ho)) o, h2⟩
theorem sorted_X0 {Q : Value → Shared → Prop} (hh : A.handled = none) (F : Fr h₀ L s.heap m) (N : News h₀ L s.heap news) (hm : (S, os) ∈ news) (hX : SetX w os #[])
    (h : ∀ D h' tk c, Fr h₀ L h' m → News h₀ L h' ((D, W.listOf #[] c) :: news) → Q (.ref D) { s with heap := h', toks := tk }) : wpAny (model PG w) A (call (.builtin "sorted") [.ref S]) Q E s := by
  refine kdu_sorted (src_X0 (r := S)) hh F N ⟨os, (N _ hm).1, hX⟩ (Nat.zero_le _) fun D h' tk vs F' N' l1 hl _ => ?_
  have hv : vs = [] := List.length_eq_zero_iff.mp hl
  subst hv
  refine ksk_lsort (D := D) (n := 0) (its := #[]) (vs := []) (ns := []) (news' := fun o => (D, o) :: news) F' N' (fun o => ?_) rfl .nil (by decide) fun vs' ns' c h2 F2 N2 hi hlen _ _ _ => ?_
  · exact .head fun p hp => Nat.ne_of_lt (l1 p hp)
  · have : ns' = [] := List.length_eq_zero_iff.mp hlen
    subst this
    cases hi
    exact h D h2 _ c F2 N2
end
theorem fmod_nat (n k : Nat) : (n : Int).fmod (k : Int) = ((n % k : Nat) : Int) := by
  rw [Int.fmod_eq_emod_of_nonneg _ (by omega)]; omega
theorem fdiv_nat (n k : Nat) : (n : Int).fdiv (k : Int) = ((n / k : Nat) : Int) := by
  rw [Int.fdiv_eq_ediv_of_nonneg _ (by omega)]; omega
theorem num_at (l : List Int) (i : Nat) : ∃ n : Nat, n < 20580 ∧ (List.map (fun k' => k'.fmod 20580) l).getD i 0 = (n : Int) := by
  by_cases h : i < l.length
  · refine ⟨((l[i]).fmod 20580).toNat, ?_, ?_⟩
    · have h1 := fmod_hi l[i] (n := 20580) (by decide)
      have h2 := fmod_lo l[i] (n := 20580) (by decide)
      omega
    · have h2 := fmod_lo l[i] (n := 20580) (by decide)
      simp only [List.getD_eq_getElem?_getD, List.getElem?_map, List.getElem?_eq_getElem h, Option.map_some, Option.getD_some]
      omega
  · refine ⟨0, by decide, ?_⟩
    simp [List.getD_eq_getElem?_getD, List.getElem?_eq_none (by omega : l.length ≤ i)]
inductive IntP (p : Nat → Prop) (h₀ : Heap) (L : Addr) (m : Str → Option Value) (news : List (Addr × Obj)) (s : Shared) (v : Value) (s' : Shared) : Prop
  | mk : ∀ n : Nat, ∀ t h' tk, v = .int (n : Int) t → p n → s' = { s with heap := h', toks := tk } → Fr h₀ L h' m → News h₀ L h' news → IntP p h₀ L m news s v s'
theorem int_join {M : Model} {A : Around} {E : Value → Shared → Prop} {s : Shared} {c : Sem Value} {Q : Value → Shared → Prop} {h₀ : Heap} {L : Addr} {m : Str → Option Value} {news : List (Addr × Obj)} (p : Nat → Prop) (F : Fr h₀ L s.heap m) (N : News h₀ L s.heap news)
    (h : wpAny M A c (IntP p h₀ L m news s) E s) (hq : ∀ (n : Nat) t h' tk, p n → Fr h₀ L h' m → News h₀ L h' news → Q (.int (n : Int) t) { s with heap := h', toks := tk }) : wpAny M A c Q E s :=
  wpAny_mono h (fun v s' ⟨n, t, h', tk, e1, e2, e3, F', N'⟩ => by subst e1; subst e3; exact hq n t h' tk e2 F' N') fun _ _ e => e
structure Ks where
  R : Addr
  Dd : Addr
  Ad : Addr
  P : Addr
  Hl : Addr
  Cr : Addr
  Cs : Addr
  i1 : Int
  i2 : Int
  t1 : Tok
  t2 : Tok
structure Core (w : World) (K : Ks) (H : Nat → Cell) (rows : List Row) (o : Obj) (kvs : List (List UInt8 × Value)) (hv rv : List Value) (Rl : Addr) (ocr : Obj) (rest : List (Addr × Obj)) : Prop where
  hR : (K.R, instObj 304 K.Dd) ∈ rest
  hD : (K.Dd, dictOf [⟨K.i1, .str (Str.ofString "_refs") K.t1, .ref K.Ad⟩, ⟨K.i2, .str (Str.ofString "_peeled") K.t2, .ref K.P⟩] 2) ∈ rest
  hO : o.IsDictOf (bytesKind PG w) kvs
  RK : RefsKV kvs H
  hHV : CellsV hv H
  hRV : RowsV rest rv rows
  tale : Tale rows H
  good : ∀ r ∈ rows, r.1 < 7 ∧ ¬ (r.2.1 = none ∧ r.2.2 = none)
  cr : ocr.data = .cell (some (.ref Rl))
theorem Core.mono {w : World} {K : Ks} {H : Nat → Cell} {rows : List Row} {o : Obj} {kvs : List (List UInt8 × Value)} {hv rv : List Value} {Rl : Addr} {ocr : Obj} {rest rest' : List (Addr × Obj)} (c : Core w K H rows o kvs hv rv Rl ocr rest) (h : ∀ p ∈ rest, p ∈ rest') : Core w K H rows o kvs hv rv Rl ocr rest' :=
  ⟨h _ c.hR, h _ c.hD, c.hO, c.RK, c.hHV, c.hRV.mono h, c.tale, c.good, c.cr⟩
structure Off (as : List Addr) (rest : List (Addr × Obj)) : Prop where
  nd : as.Nodup
  off : ∀ p ∈ rest, p.1 ∉ as
theorem Off.cons {as : List Addr} {rest : List (Addr × Obj)} (h : Off as rest) {p : Addr × Obj} (hp : p.1 ∉ as) : Off as (p :: rest) :=
  ⟨h.nd, fun q hq => (List.mem_cons.mp hq).elim (fun e => e ▸ hp) (h.off q)⟩
theorem Off.drop {as : List Addr} {rest : List (Addr × Obj)} {p : Addr × Obj} (h : Off as (p :: rest)) : Off as rest := ⟨h.nd, fun q hq => h.off q (.tail _ hq)⟩
theorem Off.head {named rest : List (Addr × Obj)} {p : Addr × Obj} (h : Off (p.1 :: named.map (·.1)) rest) : ∀ q ∈ named ++ rest, q.1 ≠ p.1 := fun q hq e => by
  rcases List.mem_append.mp hq with hq | hq
  · exact (List.nodup_cons.mp h.nd).1 (e ▸ List.mem_map.mpr ⟨q, hq, rfl⟩)
  · exact h.off q hq (e ▸ List.mem_cons_self ..)
section
variable {h₀ h' : Heap} {L X : Addr} {named rest all : List (Addr × Obj)} {o o' : Obj} {a b : Addr × Obj}
theorem news_ne {h : Heap} (N : News h₀ L h all) (ha : a ∈ all) (hb : b ∈ all) (hc : a.2 ≠ b.2) : a.1 ≠ b.1 := fun e => by
  have h1 := (N a ha).1
  have h2 := (N b hb).1
  rw [e, h2] at h1
  exact hc (Option.some.inj h1).symm
theorem data_ne {a b : Obj} (h : a.data ≠ b.data) : a ≠ b := fun e => h (congrArg _ e)
theorem mut_named {i : Nat} (ap : Off (named.map (·.1)) rest) (hi : named[i]? = some (X, o)) (hall : ∀ p ∈ named ++ rest, p ∈ all)
    (N' : ∀ want : List (Addr × Obj), (∀ p ∈ want, p ∈ all ∧ p.1 ≠ X) → News h₀ L h' ((X, o') :: want)) : News h₀ L h' (named.set i (X, o') ++ rest) := fun p hp => by
  obtain ⟨hlt, he⟩ := List.getElem?_eq_some_iff.mp hi
  have key : ∀ q, q ∈ all → q.1 ≠ X → h'.get? q.1 = some q.2 ∧ q.1 ≠ L ∧ h₀.get? q.1 = none := fun q hq hne => N' [q] (fun r hr => by rw [List.mem_singleton.mp hr]; exact ⟨hq, hne⟩) q (.tail _ (.head _))
  rcases List.mem_append.mp hp with hp | hp
  · obtain ⟨j, hj, ej⟩ := List.mem_iff_getElem.mp hp
    rw [List.length_set] at hj
    rw [List.getElem_set] at ej
    by_cases z : i = j
    · rw [if_pos z] at ej
      subst ej
      exact N' [] (fun _ h => nomatch h) _ (.head _)
    · rw [if_neg z] at ej
      refine key p (hall p (List.mem_append_left _ (ej ▸ List.getElem_mem _))) fun e => z ?_
      refine (List.getElem?_inj (l := named.map (·.1)) (by simpa using hlt) ap.nd).mp ?_
      rw [List.getElem?_map, List.getElem?_map, hi, List.getElem?_eq_getElem hj, ej]
      exact congrArg some e.symm
  · refine key p (hall p (List.mem_append_right _ hp)) fun e => ap.off p hp (e ▸ ?_)
    exact List.mem_map.mpr ⟨(X, o), List.mem_of_getElem? hi, rfl⟩
end
section
variable {M : Model} {w : World} {A : Around} {E : Value → Shared → Prop} {s : Shared} {h₀ : Heap} {L a : Addr} {m : Str → Option Value} {cn : Str} {cs : Scope} {ccd : Value} {cl : List (Str × Addr)} {x : Str} {v : Value} {all : List (Addr × Obj)} {c : Addr} {o : Obj} {v₀ : Option Value}
theorem store_all {Q : Unit → Shared → Prop} (F : Fr h₀ L s.heap m) (N : News h₀ L s.heap all) (hc : cl.lookup x = some c) (hm : (c, o) ∈ all) (hd : o.data = .cell v₀)
    (h : ∀ h' o', Fr h₀ L h' m → (∀ want : List (Addr × Obj), (∀ p ∈ want, p ∈ all ∧ p.1 ≠ c) → News h₀ L h' ((c, o') :: want)) → o'.data = .cell (some v) → Q () { s with heap := h' })
    (hk : cs.kind = .function) (hx : (envX cn cs L a ccd cl).kindOf x = some .cell) : wpAny M A (storeName (envX cn cs L a ccd cl) x v) Q E s := by
  have hmem := N _ hm
  refine wpAny_storeName_cell hk hx hc ⟨o, hmem.1, hd⟩ fun h' hv hs => ?_
  obtain ⟨o', ho', hd'⟩ := hv
  refine h h' o' ⟨F.ns.sameBut hs (Ne.symm hmem.2.1), fun b ob e => (hs.2 b (fun q => ?_)).trans (F.keep b ob e), F.above⟩ (fun want hw p hp => ?_) hd'
  · rw [q, hmem.2.2] at e; cases e
  · rcases List.mem_cons.mp hp with rfl | hp
    · exact ⟨ho', hmem.2⟩
    · exact ⟨hs.extBut _ _ (hw p hp).2 (N p (hw p hp).1).1, (N p (hw p hp).1).2⟩
theorem setL_all {D : Addr} {its : Array Value} {n k : Nat} {t : Tok} {Q : Unit → Shared → Prop} (F : Fr h₀ L s.heap m) (N : News h₀ L s.heap all) (hm : (D, W.listOf its n) ∈ all) (hk : k < its.size) (hz : its.size ≤ 1000)
    (h : ∀ h', Fr h₀ L h' m → (∀ want : List (Addr × Obj), (∀ p ∈ want, p ∈ all ∧ p.1 ≠ D) → News h₀ L h' ((D, W.listOf (its.setIfInBounds k v) n) :: want)) → Q () { s with heap := h' }) :
    wpAny (model PG w) A (setItem (.ref D) (.int (k : Int) t) v) Q E s := by
  have z := N _ hm
  have q := PySem.IsL.update z.1 (·.setIfInBounds k v)
  rw [if_pos (by simp)] at q
  refine ki_setAt z.1 (by omega) (by omega) (by omega) ?_
  rw [Int.toNat_natCast]
  refine h _ (F.change (Heap.SameBut.update ..) z.2.1 z.2.2) fun want hw p hp => ?_
  rcases List.mem_cons.mp hp with rfl | hp
  · exact ⟨q, z.2⟩
  · exact ⟨(Heap.SameBut.update ..).extBut _ _ (hw p hp).2 (N p (hw p hp).1).1, (N p (hw p hp).1).2⟩
end
section
variable {prog : Program} {w : World} {A : Around} {E : Value → Shared → Prop} {s : Shared} {n k : Nat} {z : Int} {t u : Tok}
theorem mod_nat {Q : Value → Shared → Prop} (hz : z = (k : Int)) (hk : 0 < k) (h : ∀ t' k', Q (.int ((n % k : Nat) : Int) t') { s with toks := k' }) : wpAny (model prog w) A (binaryOp .Mod (.int (n : Int) t) (.int z u)) Q E s := by
  subst hz; refine mod_int (by omega) ?_; rw [fmod_nat]; exact h _ _
theorem div_nat {Q : Value → Shared → Prop} (hz : z = (k : Int)) (hk : 0 < k) (hn : n < 20580) (hk2 : k < 20580) (h : ∀ t' k', Q (.int ((n / k : Nat) : Int) t') { s with toks := k' }) : wpAny (model prog w) A (binaryOp .FloorDiv (.int (n : Int) t) (.int z u)) Q E s := by
  subst hz; refine floordiv_int (by omega) ?_ (Or.inl (PyProof.noPylong_small (by omega))); rw [fdiv_nat]; exact h _ _
theorem add_nat {Q : Value → Shared → Prop} (hz : z = (k : Int)) (h : ∀ t' k', Q (.int ((n + k : Nat) : Int) t') { s with toks := k' }) : wpAny (model prog w) A (binaryOp .Add (.int (n : Int) t) (.int z u)) Q E s := by
  subst hz; refine add_int ?_; rw [show (n : Int) + (k : Int) = ((n + k : Nat) : Int) from by omega]; exact h _ _
theorem divmod_nat {Q : Value → Shared → Prop} {h₀ : Heap} {L : Addr} {m : Str → Option Value} {news : List (Addr × Obj)} (hz : z = (k : Int)) (hk : 0 < k) (hn : n < 20580) (hk2 : k < 20580) (F : Fr h₀ L s.heap m) (N : News h₀ L s.heap news)
    (h : ∀ D h' t1 t2 tk, Fr h₀ L h' m → News h₀ L h' ((D, tup [.int ((n / k : Nat) : Int) t1, .int ((n % k : Nat) : Int) t2]) :: news) → Q (.ref D) { s with toks := tk, heap := h' }) :
    wpAny (model prog w) A (call (.builtin "divmod") [.int (n : Int) t, .int z u]) Q E s := by
  subst hz
  refine divmod_N F N (by omega) (fun h' F' N' => ?_) (Or.inl (PyProof.noPylong_small (by omega)))
  rw [fdiv_nat, fmod_nat] at N'
  exact h _ _ _ _ _ F' N'
end
theorem tup_off {h : Heap} {h₀ : Heap} {L T : Addr} {vs : List Value} {named all : List (Addr × Obj)} (N : News h₀ L h all) (mT : (T, tup vs) ∈ all) (hn : ∀ p ∈ named, p ∈ all) (hd : ∀ p ∈ named, p.2.cls ≠ .type "tuple" ∨ ∃ x, p.2.data = .cell x) : T ∉ named.map (·.1) := fun hm => by
  obtain ⟨p, hp, e⟩ := List.mem_map.mp hm
  refine news_ne N (hn p hp) mT ?_ e
  rcases hd p hp with h | ⟨x, h⟩
  · exact fun z => h (by rw [z])
  · exact data_ne (by rw [h]; exact fun z => nomatch z)
section
variable {h₀ h : Heap} {L : Addr} {a b c d e f x : Addr × Obj} {rest : List (Addr × Obj)}
theorem led5_in (N : News h₀ L h (x :: a :: b :: c :: d :: e :: rest)) : News h₀ L h (a :: b :: c :: d :: e :: x :: rest) := cb_drop N (pick_of [1, 2, 3, 4, 5, 0] 6 rfl)
theorem led5_out (N : News h₀ L h (a :: b :: c :: d :: e :: x :: rest)) : News h₀ L h (x :: a :: b :: c :: d :: e :: rest) := cb_drop N (pick_of [5, 0, 1, 2, 3, 4] 6 rfl)
theorem led6_in (N : News h₀ L h (x :: a :: b :: c :: d :: e :: f :: rest)) : News h₀ L h (a :: b :: c :: d :: e :: f :: x :: rest) := cb_drop N (pick_of [1, 2, 3, 4, 5, 6, 0] 7 rfl)
theorem led6_out (N : News h₀ L h (a :: b :: c :: d :: e :: f :: x :: rest)) : News h₀ L h (x :: a :: b :: c :: d :: e :: f :: rest) := cb_drop N (pick_of [6, 0, 1, 2, 3, 4, 5] 7 rfl)
end
theorem CellsV.store {hv : List Value} {H : Nat → Cell} (h : CellsV hv H) {i : Nat} {c : Cell} {v : Value} (hc : CellV c v) (hi : i < 7) : CellsV (hv.set i v) (setH H i c) := by
  refine ⟨by simpa using h.1, fun j hj => ?_⟩
  by_cases z : j = i
  · subst z
    refine ⟨v, ?_, by simpa [setH] using hc⟩
    rw [List.getElem?_set_self (by rw [h.1]; exact hj)]
  · obtain ⟨v', e, hv'⟩ := h.2 j hj
    refine ⟨v', ?_, by simpa [setH, z] using hv'⟩
    rw [List.getElem?_set_ne (Ne.symm z)]; exact e
theorem set_toArray (hv : List Value) (i : Nat) (v : Value) : hv.toArray.setIfInBounds i v = (hv.set i v).toArray := by simp
theorem push_toArray (hv : List Value) (v : Value) : hv.toArray.push v = (hv ++ [v]).toArray := by simp
theorem setH_ne {H : Nat → Cell} {i j : Nat} {c : Cell} (h : j ≠ i) : setH H i c j = H j := by unfold setH; rw [if_neg h]
structure RingS (w : World) (K : Ks) (start len first : Nat) (Nl : Addr) (yv : List Value) (nc : Nat) (i : Nat) (H : Nat → Cell) (rows : List Row) (o : Obj) (kvs : List (List UInt8 × Value)) (hv rv : List Value) (Rl : Addr) (ocr ocs : Obj) (rest : List (Addr × Obj)) (m : Str → Option Value) : Prop where
  core : Core w K H rows o kvs hv rv Rl ocr rest
  cs : ∃ x, ocs.data = .cell x
  ap : Off [K.Ad, K.Hl, Rl, K.Cr, K.Cs] rest
  num : (Nl, W.listOf yv.toArray nc) ∈ rest
  few : rows.length ≤ i
  none_ : ∀ t, i ≤ t → t < 7 → H ((start + t) % 7) = none
  m1 : m (Str.ofString "refs") = some (.ref K.R)
  m2 : m (Str.ofString "held") = some (.ref K.Hl)
  m3 : m (Str.ofString "numbers") = some (.ref Nl)
  m4 : ∃ t, m (Str.ofString "start") = some (.int (start : Int) t)
  m5 : ∃ t, m (Str.ofString "length") = some (.int (len : Int) t)
  m6 : ∃ t, m (Str.ofString "first") = some (.int (first : Int) t)
inductive JRing (w : World) (K : Ks) (start len first : Nat) (Nl : Addr) (yv : List Value) (nc : Nat) (i : Nat) (m : Str → Option Value) (nx : List (Addr × Obj)) : Prop
  | mk : ∀ H rows o kvs hv hc rv rc Rl ocr ocs rest, nx = (K.Ad, o) :: (K.Hl, W.listOf hv.toArray hc) :: (Rl, W.listOf rv.toArray rc) :: (K.Cr, ocr) :: (K.Cs, ocs) :: rest → RingS w K start len first Nl yv nc i H rows o kvs hv rv Rl ocr ocs rest m → JRing w K start len first Nl yv nc i m nx
def Flag (_n : Nat) : Prop := True
theorem Flag.up (n : Nat) : Flag n := trivial
def SawsV (rest : List (Addr × Obj)) (sv : List Value) (rows : List Row) : Prop :=
  sv.length = 3 ∧ ∀ j, j < 3 → ∃ Sw sp sc idx t1 t2 v, sv[j]? = some (.ref Sw) ∧ (Sw, tup [.int ((sp : Nat) : Int) t1, v, .int ((idx : Nat) : Int) t2]) ∈ rest ∧ CellV sc v ∧ SawOk rows sp sc idx
theorem SawsV.mono {rest rest' : List (Addr × Obj)} {sv : List Value} {rows : List Row} (h : SawsV rest sv rows) (hs : ∀ p ∈ rest, p ∈ rest') : SawsV rest' sv rows :=
  ⟨h.1, fun j hj => let ⟨Sw, sp, sc, idx, t1, t2, v, a, b, c⟩ := h.2 j hj; ⟨Sw, sp, sc, idx, t1, t2, v, a, hs _ b, c⟩⟩
theorem SawsV.snoc {rest : List (Addr × Obj)} {sv : List Value} {rows : List Row} (h : SawsV rest sv rows) (r : Row) : SawsV rest sv (rows ++ [r]) :=
  ⟨h.1, fun j hj => let ⟨Sw, sp, sc, idx, t1, t2, v, a, b, c, d⟩ := h.2 j hj; ⟨Sw, sp, sc, idx, t1, t2, v, a, b, c, d.snoc r⟩⟩
theorem SawsV.store {rest : List (Addr × Obj)} {sv : List Value} {rows : List Row} (h : SawsV rest sv rows) {j : Nat} (hj : j < 3) {Sw : Addr} {sp idx : Nat} {sc : Cell} {t1 t2 : Tok} {v : Value} (hm : (Sw, tup [.int (sp : Int) t1, v, .int (idx : Int) t2]) ∈ rest) (hv : CellV sc v) (ho : SawOk rows sp sc idx) :
    SawsV rest (sv.set j (.ref Sw)) rows := by
  refine ⟨by simpa using h.1, fun k hk => ?_⟩
  by_cases z : k = j
  · subst z
    exact ⟨Sw, sp, sc, idx, t1, t2, v, by rw [List.getElem?_set_self (by rw [h.1]; exact hk)], hm, hv, ho⟩
  · obtain ⟨Sw', sp', sc', idx', t1', t2', v', a, b⟩ := h.2 k hk
    exact ⟨Sw', sp', sc', idx', t1', t2', v', by rw [List.getElem?_set_ne (Ne.symm z)]; exact a, b⟩
def TurnsV (tv : List Value) : Prop := 2 ≤ tv.length ∧ tv.length ≤ 6 ∧ ∀ (j : Nat) (v : Value), tv[j]? = some v → ∃ n : Nat, ∃ t, v = .int (n : Int) t ∧ n < 20580
structure TurnS (w : World) (K : Ks) (Sl Tl : Addr) (tv : List Value) (tc : Nat) (i : Nat) (H : Nat → Cell) (rows : List Row) (o : Obj) (kvs : List (List UInt8 × Value)) (hv rv sv : List Value) (Rl : Addr) (ocr ocs : Obj) (rest : List (Addr × Obj)) (m : Str → Option Value) : Prop where
  core : Core w K H rows o kvs hv rv Rl ocr rest
  cs : ∃ x, ocs.data = .cell x
  ap : Off [K.Ad, K.Hl, Rl, K.Cr, K.Cs, Sl] rest
  tur : (Tl, W.listOf tv.toArray tc) ∈ rest
  saws : SawsV rest sv rows
  few : rows.length ≤ 8 + i
  m1 : m (Str.ofString "refs") = some (.ref K.R)
  m2 : m (Str.ofString "held") = some (.ref K.Hl)
  m3 : m (Str.ofString "saws") = some (.ref Sl)
  m4 : m (Str.ofString "turns") = some (.ref Tl)
inductive JTurn (w : World) (K : Ks) (Sl Tl : Addr) (tv : List Value) (tc : Nat) (i : Nat) (m : Str → Option Value) (nx : List (Addr × Obj)) : Prop
  | mk : ∀ H rows o kvs hv hc rv rc sv sc Rl ocr ocs rest, nx = (K.Ad, o) :: (K.Hl, W.listOf hv.toArray hc) :: (Rl, W.listOf rv.toArray rc) :: (K.Cr, ocr) :: (K.Cs, ocs) :: (Sl, W.listOf sv.toArray sc) :: rest → TurnS w K Sl Tl tv tc i H rows o kvs hv rv sv Rl ocr ocs rest m → JTurn w K Sl Tl tv tc i m nx
theorem seenN_le {H : Nat → Cell} (hok : ∀ i, i < 7 → CellOk (H i)) {g : Nat} (hg : g < 7) : seenN H g ≤ 7 := by
  cases e : fol H 5 g with
  | none => rw [seenN_none e]; exact Nat.le_refl _
  | some r =>
    obtain ⟨ks, c⟩ := r
    rw [seenN_some e]
    obtain ⟨h1, h2, _, _⟩ := fol_last hok hg e
    have : ks.getLastD 0 ∈ ks := by
      cases ks with
      | nil => exact absurd rfl h1
      | cons a l => rw [List.getLastD_eq_getLast?, List.getLast?_eq_some_getLast h1]; exact List.getLast_mem h1
    exact Nat.le_of_lt (h2 _ this)
theorem DueOk.lt {H : Nat → Cell} {sp : Nat} {sc : Cell} {calm turned : Bool} {deed : String} {spot : Nat} {oldv duev : Value} {cell : Cell} (h : DueOk H sp sc calm deed spot oldv cell duev turned) (hsp : sp < 7) : spot < 7 := by
  induction h <;> assumption
theorem DueOk.ok {H : Nat → Cell} {sp : Nat} {sc : Cell} {calm turned : Bool} {deed : String} {spot : Nat} {oldv duev : Value} {cell : Cell} (h : DueOk H sp sc calm deed spot oldv cell duev turned) : CellOk cell := by
  induction h <;> first | assumption | trivial | (show _ < 7; assumption)
section
variable {h₀ h : Heap} {L D D1 Rl Hl l1 P R Dd Ad Nl D4 Cs Cr : Addr} {t1o t2o o1 oP o o4 ocs ocr : Obj} {i1 i2 : Int} {t1 t2 : Tok} {n1 n2 nc : Nat} {yv : List Value}
abbrev ringRest (R Dd Ad P Nl : Addr) (i1 i2 : Int) (t1 t2 : Tok) (yv : List Value) (nc : Nat) : List (Addr × Obj) :=
  [(R, instObj 304 Dd), (Dd, dictOf [⟨i1, .str (Str.ofString "_refs") t1, .ref Ad⟩, ⟨i2, .str (Str.ofString "_peeled") t2, .ref P⟩] 2), (Nl, W.listOf yv.toArray nc)]
abbrev none7 : List Value := [.none, .none, .none, .none, .none, .none, .none]
theorem ring_news (N : News h₀ L h [(D, t1o), (D1, t2o), (Rl, W.listOf #[] n1), (Hl, W.listOf none7.toArray n2), (l1, o1), (P, oP), (R, instObj 304 Dd), (Dd, dictOf [⟨i1, .str (Str.ofString "_refs") t1, .ref Ad⟩, ⟨i2, .str (Str.ofString "_peeled") t2, .ref P⟩] 2), (Ad, o), (Nl, W.listOf yv.toArray nc), (D4, o4), (Cs, ocs), (Cr, ocr)]) :
    News h₀ L h ((Ad, o) :: (Hl, W.listOf none7.toArray n2) :: (Rl, W.listOf ([] : List Value).toArray n1) :: (Cr, ocr) :: (Cs, ocs) :: ringRest R Dd Ad P Nl i1 i2 t1 t2 yv nc) := cb_drop N (pick_of [8, 3, 2, 12, 11, 6, 7, 9] 13 rfl)
theorem ring_start {w : World} {m : Str → Option Value} {start len first : Nat} (N : News h₀ L h ((Ad, o) :: (Hl, W.listOf none7.toArray n2) :: (Rl, W.listOf ([] : List Value).toArray n1) :: (Cr, ocr) :: (Cs, ocs) :: ringRest R Dd Ad P Nl i1 i2 t1 t2 yv nc))
    (hO : o.IsDictOf (bytesKind PG w) []) (hcr : ocr.data = .cell (some (.ref Rl))) (hcs : ∃ x, ocs.data = .cell x) (hne : Cr ≠ Cs) (hyv : Nl ≠ Hl ∧ Nl ≠ Rl)
    (m1 : m (Str.ofString "refs") = some (.ref R)) (m2 : m (Str.ofString "held") = some (.ref Hl)) (m3 : m (Str.ofString "numbers") = some (.ref Nl)) (m4 : ∃ t, m (Str.ofString "start") = some (.int (start : Int) t))
    (m5 : ∃ t, m (Str.ofString "length") = some (.int (len : Int) t)) (m6 : ∃ t, m (Str.ofString "first") = some (.int (first : Int) t)) :
    JRing w ⟨R, Dd, Ad, P, Hl, Cr, Cs, i1, i2, t1, t2⟩ start len first Nl yv nc 0 m ((Ad, o) :: (Hl, W.listOf none7.toArray n2) :: (Rl, W.listOf ([] : List Value).toArray n1) :: (Cr, ocr) :: (Cs, ocs) :: ringRest R Dd Ad P Nl i1 i2 t1 t2 yv nc) := by
  have oc := isDict_cls hO
  obtain ⟨x, hcs'⟩ := hcs
  have mA : (Ad, o) ∈ (Ad, o) :: (Hl, W.listOf none7.toArray n2) :: (Rl, W.listOf ([] : List Value).toArray n1) :: (Cr, ocr) :: (Cs, ocs) :: ringRest R Dd Ad P Nl i1 i2 t1 t2 yv nc := .head _
  have mH : (Hl, W.listOf none7.toArray n2) ∈ (Ad, o) :: (Hl, W.listOf none7.toArray n2) :: (Rl, W.listOf ([] : List Value).toArray n1) :: (Cr, ocr) :: (Cs, ocs) :: ringRest R Dd Ad P Nl i1 i2 t1 t2 yv nc := .tail _ (.head _)
  have mR : (Rl, W.listOf ([] : List Value).toArray n1) ∈ (Ad, o) :: (Hl, W.listOf none7.toArray n2) :: (Rl, W.listOf ([] : List Value).toArray n1) :: (Cr, ocr) :: (Cs, ocs) :: ringRest R Dd Ad P Nl i1 i2 t1 t2 yv nc := .tail _ (.tail _ (.head _))
  have mC : (Cr, ocr) ∈ (Ad, o) :: (Hl, W.listOf none7.toArray n2) :: (Rl, W.listOf ([] : List Value).toArray n1) :: (Cr, ocr) :: (Cs, ocs) :: ringRest R Dd Ad P Nl i1 i2 t1 t2 yv nc := .tail _ (.tail _ (.tail _ (.head _)))
  have mS : (Cs, ocs) ∈ (Ad, o) :: (Hl, W.listOf none7.toArray n2) :: (Rl, W.listOf ([] : List Value).toArray n1) :: (Cr, ocr) :: (Cs, ocs) :: ringRest R Dd Ad P Nl i1 i2 t1 t2 yv nc := .tail _ (.tail _ (.tail _ (.tail _ (.head _))))
  have sub : ∀ p ∈ ringRest R Dd Ad P Nl i1 i2 t1 t2 yv nc, p ∈ (Ad, o) :: (Hl, W.listOf none7.toArray n2) :: (Rl, W.listOf ([] : List Value).toArray n1) :: (Cr, ocr) :: (Cs, ocs) :: ringRest R Dd Ad P Nl i1 i2 t1 t2 yv nc := fun p hp => .tail _ (.tail _ (.tail _ (.tail _ (.tail _ hp))))
  have nl {a b : Addr} {x y : Obj} (ha : (a, x) ∈ (Ad, o) :: (Hl, W.listOf none7.toArray n2) :: (Rl, W.listOf ([] : List Value).toArray n1) :: (Cr, ocr) :: (Cs, ocs) :: ringRest R Dd Ad P Nl i1 i2 t1 t2 yv nc) (hb : (b, y) ∈ (Ad, o) :: (Hl, W.listOf none7.toArray n2) :: (Rl, W.listOf ([] : List Value).toArray n1) :: (Cr, ocr) :: (Cs, ocs) :: ringRest R Dd Ad P Nl i1 i2 t1 t2 yv nc) (e : x ≠ y) : a ≠ b := news_ne N ha hb e
  have cl {x y : Obj} (h : x.cls ≠ y.cls) : x ≠ y := fun e => h (congrArg _ e)
  have oL (its : Array Value) (n : Nat) : o ≠ W.listOf its n := cl (by rw [oc]; exact type_ne (by decide))
  have kL {z : Obj} {x : Option Value} (hz : z.data = .cell x) (its : Array Value) (n : Nat) : W.listOf its n ≠ z := data_ne (by rw [hz]; exact fun e => nomatch e)
  have odata : ∀ x, o.data ≠ .cell x := fun x => by
    obtain ⟨es, ep, h1, h2, _⟩ := hO
    rw [h2]; exact fun e => nomatch e
  refine ⟨fun _ => none, [], o, [], none7, n2, [], n1, Rl, ocr, ocs, _, rfl, ⟨⟨.head _, .tail _ (.head _), hO, RefsKV.nil, ⟨rfl, ?_⟩, .nil, Tale.nil, (fun _ h => nomatch h), hcr⟩, ⟨x, hcs'⟩, ⟨?_, ?_⟩, .tail _ (.tail _ (.head _)), Nat.le_refl _, fun _ _ _ => rfl, m1, m2, m3, m4, m5, m6⟩⟩
  · intro i hi
    match i, hi with
    | 0, _ => exact ⟨_, rfl, rfl⟩
    | 1, _ => exact ⟨_, rfl, rfl⟩
    | 2, _ => exact ⟨_, rfl, rfl⟩
    | 3, _ => exact ⟨_, rfl, rfl⟩
    | 4, _ => exact ⟨_, rfl, rfl⟩
    | 5, _ => exact ⟨_, rfl, rfl⟩
    | 6, _ => exact ⟨_, rfl, rfl⟩
  · have a1 := nl mA mH (oL _ _)
    have a2 := nl mA mR (oL _ _)
    have a3 := nl mA mC (data_ne (by rw [hcr]; exact odata _))
    have a4 := nl mA mS (data_ne (by rw [hcs']; exact odata _))
    have b1 := nl mH mR (fun e => nomatch e)
    have b2 := nl mH mC (kL hcr _ _)
    have b3 := nl mH mS (kL hcs' _ _)
    have c1 := nl mR mC (kL hcr _ _)
    have c2 := nl mR mS (kL hcs' _ _)
    simp [a1, a2, a3, a4, b1, b2, b3, c1, c2, hne]
  · intro p hp
    have hm := sub p hp
    have hc : ∀ x, p.2.data ≠ .cell x := by
      simp only [List.mem_cons, List.not_mem_nil, or_false] at hp
      rcases hp with rfl | rfl | rfl <;> exact fun x e => nomatch e
    have k1 := nl (a := p.1) (x := p.2) hm mC (data_ne (by rw [hcr]; exact hc _))
    have k2 := nl (a := p.1) (x := p.2) hm mS (data_ne (by rw [hcs']; exact hc _))
    simp only [List.mem_cons, List.not_mem_nil, or_false, not_or]
    simp only [List.mem_cons, List.not_mem_nil, or_false] at hp
    rcases hp with rfl | rfl | rfl
    · exact ⟨nl hm mA (cl (by rw [oc]; exact fun e => nomatch e)), nl hm mH (cl (fun e => nomatch e)), nl hm mR (cl (fun e => nomatch e)), k1, k2⟩
    · refine ⟨nl hm mA ?_, nl hm mH (cl (type_ne (by decide))), nl hm mR (cl (type_ne (by decide))), k1, k2⟩
      intro e
      obtain ⟨es, ep, h1, h2, h3, h4, _⟩ := hO
      have h6 : es = #[] := by
        have := h4.length
        exact Array.eq_empty_of_size_eq_zero (by simpa using this)
      rw [← e, h6] at h2
      injection h2 with a b
      exact absurd (congrArg Array.size a) (by simp)
    · exact ⟨nl hm mA (fun e => oL _ _ e.symm), hyv.1, hyv.2, k1, k2⟩
end
theorem range_one {a b n : Nat} (h : b = a + n) : Builtin.Range.rangeSize (a : Int) (b : Int) 1 = (n : Int) := by
  subst h
  unfold Builtin.Range.rangeSize
  by_cases z : n = 0
  · subst z; simp
  · rw [if_pos (by decide), if_pos (by omega)]
    omega
section
variable {M : Model} {w : World} {A : Around} {E : Value → Shared → Prop} {s : Shared} {h₀ : Heap} {L a Ad Hl Rl Cr Cs T : Addr} {m : Str → Option Value} {cn : Str} {cs : Scope} {ccd : Value} {cl : List (Str × Addr)} {x : Str} {v : Value} {more rest : List (Addr × Obj)} {tmp : Addr × Obj} {o ho ro ocr ocs : Obj} {v₀ : Option Value}
theorem store_spot {Q : Unit → Shared → Prop} (F : Fr h₀ L s.heap m) (N : News h₀ L s.heap (tmp :: (Ad, o) :: (Hl, ho) :: (Rl, ro) :: (Cr, ocr) :: (Cs, ocs) :: (more ++ rest))) (ap : Off (Ad :: Hl :: Rl :: Cr :: Cs :: more.map (·.1)) rest) (hc : cl.lookup x = some Cs) (hd : ocs.data = .cell v₀)
    (h : ∀ h' o', Fr h₀ L h' m → News h₀ L h' ((Ad, o) :: (Hl, ho) :: (Rl, ro) :: (Cr, ocr) :: (Cs, o') :: (more ++ rest)) → o'.data = .cell (some v) → Q () { s with heap := h' })
    (hk : cs.kind = .function) (hx : (envX cn cs L a ccd cl).kindOf x = some .cell) : wpAny M A (storeName (envX cn cs L a ccd cl) x v) Q E s := by
  refine store_all F N hc (.tail _ (.tail _ (.tail _ (.tail _ (.tail _ (.head _)))))) hd (fun h' o' F' N' hd' => h h' o' F' ?_ hd') hk hx
  exact mut_named (named := (Ad, o) :: (Hl, ho) :: (Rl, ro) :: (Cr, ocr) :: (Cs, ocs) :: more) (rest := rest) (i := 4) ap rfl (fun p hp => .tail _ hp) N'
theorem append_row {rv : List Value} {rc : Nat} {vs : List Value} {Q : Value → Shared → Prop} (F : Fr h₀ L s.heap m) (N : News h₀ L s.heap ((T, tup vs) :: (Ad, o) :: (Hl, ho) :: (Rl, W.listOf rv.toArray rc) :: (Cr, ocr) :: (Cs, ocs) :: (more ++ rest))) (ap : Off (Ad :: Hl :: Rl :: Cr :: Cs :: more.map (·.1)) rest)
    (hz : rv.length ≤ 1000) (hO : o.cls = .type "dict") (hH : ho.cls = .type "list") (hC : ∃ x, ocr.data = .cell x) (hS : ∃ x, ocs.data = .cell x) (hm : ∀ p ∈ more, p.2.cls = .type "list")
    (h : ∀ h', Fr h₀ L h' m → News h₀ L h' ((Ad, o) :: (Hl, ho) :: (Rl, W.listOf (rv ++ [Value.ref T]).toArray (rc + 1)) :: (Cr, ocr) :: (Cs, ocs) :: (more ++ (T, tup vs) :: rest)) → Off (Ad :: Hl :: Rl :: Cr :: Cs :: more.map (·.1)) ((T, tup vs) :: rest) → Q .none { s with heap := h' }) :
    wpAny (model PG w) A (call (.builtin "list.append") [.ref Rl, .ref T]) Q E s := by
  have ap' : Off (Ad :: Hl :: Rl :: Cr :: Cs :: more.map (·.1)) ((T, tup vs) :: rest) := ap.cons (tup_off (named := (Ad, o) :: (Hl, ho) :: (Rl, W.listOf rv.toArray rc) :: (Cr, ocr) :: (Cs, ocs) :: more) N (.head _) (fun p hp => .tail _ (List.mem_append_left rest hp)) (fun p hp => by
    simp only [List.mem_cons] at hp
    rcases hp with rfl | rfl | rfl | rfl | rfl | hp
    · exact .inl (by rw [show (Ad, o).2.cls = _ from hO]; exact type_ne (by decide))
    · exact .inl (by rw [show (Hl, ho).2.cls = _ from hH]; exact type_ne (by decide))
    · exact .inl (type_ne (by decide))
    · exact .inr hC
    · exact .inr hS
    · exact .inl (by rw [hm p hp]; exact type_ne (by decide))))
  refine app_all F N (.tail _ (.tail _ (.tail _ (.head _)))) (Nat.le_trans (by simpa using hz) (by decide)) fun h' F' N' => h h' F' ?_ ap'
  rw [push_toArray] at N'
  refine mut_named (named := (Ad, o) :: (Hl, ho) :: (Rl, W.listOf rv.toArray rc) :: (Cr, ocr) :: (Cs, ocs) :: more) (rest := (T, tup vs) :: rest) (i := 2) ap' rfl (fun p hp => ?_) N'
  rcases List.mem_append.mp hp with hp | hp
  · exact .tail _ (List.mem_append_left rest hp)
  · rcases List.mem_cons.mp hp with rfl | hp
    · exact .head _
    · exact .tail _ (.tail _ (.tail _ (.tail _ (.tail _ (.tail _ (List.mem_append_right _ hp))))))
theorem set_held {hv : List Value} {hc i : Nat} {t : Tok} {Q : Unit → Shared → Prop} (F : Fr h₀ L s.heap m) (N : News h₀ L s.heap ((Ad, o) :: (Hl, W.listOf hv.toArray hc) :: (Rl, ro) :: (Cr, ocr) :: (Cs, ocs) :: (more ++ rest))) (ap : Off (Ad :: Hl :: Rl :: Cr :: Cs :: more.map (·.1)) rest) (hl : hv.length = 7) (hi : i < 7)
    (h : ∀ h', Fr h₀ L h' m → News h₀ L h' ((Ad, o) :: (Hl, W.listOf (hv.set i v).toArray hc) :: (Rl, ro) :: (Cr, ocr) :: (Cs, ocs) :: (more ++ rest)) → Q () { s with heap := h' }) :
    wpAny (model PG w) A (setItem (.ref Hl) (.int (i : Int) t) v) Q E s := by
  refine setL_all F N (.tail _ (.head _)) (by simpa [hl] using hi) (by simp [hl]) fun h' F' N' => h h' F' ?_
  rw [set_toArray] at N'
  exact mut_named (named := (Ad, o) :: (Hl, W.listOf hv.toArray hc) :: (Rl, ro) :: (Cr, ocr) :: (Cs, ocs) :: more) (rest := rest) (i := 1) ap rfl (fun p hp => hp) N'
end
theorem off5 {Ad Hl Rl Cr Cs : Addr} {ho ro ocr ocs : Obj} {rest : List (Addr × Obj)} (ap : Off [Ad, Hl, Rl, Cr, Cs] rest) : ∀ p ∈ (Hl, ho) :: (Rl, ro) :: (Cr, ocr) :: (Cs, ocs) :: rest, p.1 ≠ Ad :=
  Off.head (p := (Ad, ho)) (named := [(Hl, ho), (Rl, ro), (Cr, ocr), (Cs, ocs)]) ap
theorem off6 {Ad Hl Rl Cr Cs Sl : Addr} {ho ro ocr ocs so : Obj} {rest : List (Addr × Obj)} (ap : Off [Ad, Hl, Rl, Cr, Cs, Sl] rest) : ∀ p ∈ (Hl, ho) :: (Rl, ro) :: (Cr, ocr) :: (Cs, ocs) :: (Sl, so) :: rest, p.1 ≠ Ad :=
  Off.head (p := (Ad, ho)) (named := [(Hl, ho), (Rl, ro), (Cr, ocr), (Cs, ocs), (Sl, so)]) ap
section
variable {h₀ h : Heap} {L : Addr} {a b c d e f t x : Addr × Obj} {rest : List (Addr × Obj)}
theorem led5_outT (N : News h₀ L h (a :: b :: c :: d :: e :: t :: x :: rest)) : News h₀ L h (x :: a :: b :: c :: d :: e :: t :: rest) := cb_drop N (pick_of [6, 0, 1, 2, 3, 4, 5] 7 rfl)
theorem led6_outT (N : News h₀ L h (a :: b :: c :: d :: e :: f :: t :: x :: rest)) : News h₀ L h (x :: a :: b :: c :: d :: e :: f :: t :: rest) := cb_drop N (pick_of [7, 0, 1, 2, 3, 4, 5, 6] 8 rfl)
theorem Off.out {as : List Addr} (ap : Off as (t :: x :: rest)) : Off as (t :: rest) := ⟨ap.nd, fun p hp => ap.off p ((List.mem_cons.mp hp).elim (fun e => e ▸ .head _) fun h => .tail _ (.tail _ h))⟩
theorem off_it {as : List Addr} {named : List (Addr × Obj)} {I T : Addr} {it : Obj} {vs : List Value} (ha : as = named.map (·.1)) (ap : Off as ((T, tup vs) :: (I, it) :: rest)) (off : ∀ p ∈ rest, p.1 ≠ I) (hTI : T ≠ I) : ∀ p ∈ named ++ (T, tup vs) :: rest, p.1 ≠ I := fun p hp e => by
  rcases List.mem_append.mp hp with hp | hp
  · exact ap.off (I, it) (.tail _ (.head _)) (ha ▸ e ▸ List.mem_map.mpr ⟨p, hp, rfl⟩)
  · rcases List.mem_cons.mp hp with rfl | hp
    · exact hTI e
    · exact off p hp e
end
theorem CellsV.ok_ne {a b i : Nat} (h : i < b) (hb : b < 7) : (a + b) % 7 ≠ (a + i) % 7 := by omega
theorem ring_step {w : World} {R Dd Ad P Hl Cr Cs Rl Nl T : Addr} {i1 i2 : Int} {t1 t2 ts tj : Tok} {start len first i nc hc rc : Nat} {yv hv rv : List Value} {H : Nat → Cell} {rows : List Row} {o3 ocr ocs2 : Obj} {kvs3 : List (List UInt8 × Value)} {rest : List (Addr × Obj)} {m' : Str → Option Value} {p : Addr × Obj} {cx : Option Value}
    (hR : (R, instObj 304 Dd) ∈ rest) (hD : (Dd, dictOf [⟨i1, .str (Str.ofString "_refs") t1, .ref Ad⟩, ⟨i2, .str (Str.ofString "_peeled") t2, .ref P⟩] 2) ∈ rest) (hO : o3.IsDictOf (bytesKind PG w) kvs3) (RK : RefsKV kvs3 (setH H ((start + i) % 7) (some (.inl ((start + i + 1) % 7)))))
    (hHV : CellsV hv H) (hRV : RowsV rest rv rows) (tale : Tale rows H) (good : ∀ r ∈ rows, r.1 < 7 ∧ ¬ (r.2.1 = none ∧ r.2.2 = none)) (hcr : ocr.data = .cell (some (.ref Rl))) (hcs : ocs2.data = .cell cx) (num : (Nl, W.listOf yv.toArray nc) ∈ rest) (few : rows.length ≤ i) (hi : i < 7)
    (hnone : ∀ t, i ≤ t → t < 7 → H ((start + t) % 7) = none) (ap : Off [Ad, Hl, Rl, Cr, Cs] ((T, tup [.int (((start + i) % 7 : Nat) : Int) ts, .none, .int (((start + i + 1) % 7 : Nat) : Int) tj]) :: p :: rest))
    (m1 : m' (Str.ofString "refs") = some (.ref R)) (m2 : m' (Str.ofString "held") = some (.ref Hl)) (m3 : m' (Str.ofString "numbers") = some (.ref Nl)) (m4 : ∃ t, m' (Str.ofString "start") = some (.int (start : Int) t))
    (m5 : ∃ t, m' (Str.ofString "length") = some (.int (len : Int) t)) (m6 : ∃ t, m' (Str.ofString "first") = some (.int (first : Int) t)) :
    JRing w ⟨R, Dd, Ad, P, Hl, Cr, Cs, i1, i2, t1, t2⟩ start len first Nl yv nc (i + 1) m' ((Ad, o3) :: (Hl, W.listOf (hv.set ((start + i) % 7) (.int (((start + i + 1) % 7 : Nat) : Int) tj)).toArray hc) :: (Rl, W.listOf (rv ++ [Value.ref T]).toArray (rc + 1)) :: (Cr, ocr) :: (Cs, ocs2) ::
      (T, tup [.int (((start + i) % 7 : Nat) : Int) ts, .none, .int (((start + i + 1) % 7 : Nat) : Int) tj]) :: rest) := by
  have hsp : (start + i) % 7 < 7 := Nat.mod_lt _ (by decide)
  have hce : (start + i + 1) % 7 < 7 := Nat.mod_lt _ (by decide)
  have hH0 := hnone i (Nat.le_refl _) hi
  refine ⟨setH H ((start + i) % 7) (some (.inl ((start + i + 1) % 7))), rows ++ [((start + i) % 7, none, some (.inl ((start + i + 1) % 7)))], o3, kvs3, _, hc, _, rc + 1, Rl, ocr, ocs2, _, rfl, ⟨⟨.tail _ hR, .tail _ hD, hO, RK, hHV.store ⟨_, rfl⟩ hsp, ?_, ?_, ?_, hcr⟩, ⟨_, hcs⟩, ap.out, .tail _ num, ?_, ?_, m1, m2, m3, m4, m5, m6⟩⟩
  · exact (hRV.mono fun p hp => .tail _ hp).append (.cons ⟨T, ts, .none, _, rfl, .head _, rfl, ⟨_, rfl⟩, hsp, trivial, hce⟩ .nil)
  · have := tale.snoc ((start + i) % 7) (some (.inl ((start + i + 1) % 7)))
    rwa [hH0] at this
  · intro r hr
    rcases List.mem_append.mp hr with hr | hr
    · exact good r hr
    · rw [List.mem_singleton.mp hr]; exact ⟨hsp, fun h => nomatch h.2⟩
  · simp; omega
  · intro t ht ht7
    rw [setH_ne (CellsV.ok_ne (by omega) ht7)]
    exact hnone t (by omega) ht7
inductive SetJ (h₀ : Heap) (L : Addr) (J : (Str → Option Value) → List (Addr × Obj) → Prop) (s : Shared) (f : Flow) (s₂ : Shared) : Prop
  | mk : f = .next → ∀ h' tk m' nx, s₂ = { s with heap := h', toks := tk } → Fr h₀ L h' m' → News h₀ L h' nx → J m' nx → SetJ h₀ L J s f s₂
theorem set_join {M : Model} {A : Around} {E : Value → Shared → Prop} {s : Shared} {c : Sem Flow} {Q : Flow → Shared → Prop} {h₀ : Heap} {L : Addr} {J : (Str → Option Value) → List (Addr × Obj) → Prop} {m : Str → Option Value} (_F : Fr h₀ L s.heap m)
    (h : wpAny M A c (SetJ h₀ L J s) E s) (hq : ∀ h' tk m' nx, Fr h₀ L h' m' → News h₀ L h' nx → J m' nx → Q .next { s with heap := h', toks := tk }) : wpAny M A c Q E s :=
  wpAny_mono h (fun v s' ⟨e1, h', tk, m', nx, e2, F, N, j⟩ => by subst e1; subst e2; exact hq h' tk m' nx F N j) fun _ _ e => e
theorem set_joinJ {M : Model} {A : Around} {E : Value → Shared → Prop} {s : Shared} {c : Sem Flow} {Q : Flow → Shared → Prop} {h₀ : Heap} {L : Addr} {J : (Str → Option Value) → List (Addr × Obj) → Prop} {m m2 : Str → Option Value} {nx : List (Addr × Obj)} (_k : J m2 nx) (F : Fr h₀ L s.heap m)
    (h : wpAny M A c (SetJ h₀ L J s) E s) (hq : ∀ h' tk m' nx, Fr h₀ L h' m' → News h₀ L h' nx → J m' nx → Q .next { s with heap := h', toks := tk }) : wpAny M A c Q E s := set_join F h hq
theorem ring_at {w : World} {R Dd Ad P Hl Cr Cs Rl Nl : Addr} {i1 i2 : Int} {t1 t2 : Tok} {start len first nc hc rc : Nat} {yv hv rv : List Value} {H : Nat → Cell} {rows : List Row} {o ocr ocs : Obj} {kvs : List (List UInt8 × Value)} {rest : List (Addr × Obj)} {m' : Str → Option Value} {cx : Option Value}
    (hR : (R, instObj 304 Dd) ∈ rest) (hD : (Dd, dictOf [⟨i1, .str (Str.ofString "_refs") t1, .ref Ad⟩, ⟨i2, .str (Str.ofString "_peeled") t2, .ref P⟩] 2) ∈ rest) (hO : o.IsDictOf (bytesKind PG w) kvs) (RK : RefsKV kvs H)
    (hHV : CellsV hv H) (hRV : RowsV rest rv rows) (tale : Tale rows H) (good : ∀ r ∈ rows, r.1 < 7 ∧ ¬ (r.2.1 = none ∧ r.2.2 = none)) (hcr : ocr.data = .cell (some (.ref Rl))) (hcs : ocs.data = .cell cx) (num : (Nl, W.listOf yv.toArray nc) ∈ rest) (few : rows.length ≤ 8)
    (ap : Off [Ad, Hl, Rl, Cr, Cs] rest)
    (m1 : m' (Str.ofString "refs") = some (.ref R)) (m2 : m' (Str.ofString "held") = some (.ref Hl)) (m3 : m' (Str.ofString "numbers") = some (.ref Nl)) (m4 : ∃ t, m' (Str.ofString "start") = some (.int (start : Int) t))
    (m5 : ∃ t, m' (Str.ofString "length") = some (.int (len : Int) t)) (m6 : ∃ t, m' (Str.ofString "first") = some (.int (first : Int) t)) :
    JRing w ⟨R, Dd, Ad, P, Hl, Cr, Cs, i1, i2, t1, t2⟩ start len first Nl yv nc 8 m' ((Ad, o) :: (Hl, W.listOf hv.toArray hc) :: (Rl, W.listOf rv.toArray rc) :: (Cr, ocr) :: (Cs, ocs) :: rest) :=
  ⟨H, rows, o, kvs, hv, hc, rv, rc, Rl, ocr, ocs, rest, rfl, ⟨⟨hR, hD, hO, RK, hHV, hRV, tale, good, hcr⟩, ⟨_, hcs⟩, ap, num, few, fun t h1 h2 => by omega, m1, m2, m3, m4, m5, m6⟩⟩
theorem good_snoc {rows : List Row} (good : ∀ r ∈ rows, r.1 < 7 ∧ ¬ (r.2.1 = none ∧ r.2.2 = none)) {r : Row} (h : r.1 < 7 ∧ ¬ (r.2.1 = none ∧ r.2.2 = none)) : ∀ q ∈ rows ++ [r], q.1 < 7 ∧ ¬ (q.2.1 = none ∧ q.2.2 = none) := fun q hq => by
  rcases List.mem_append.mp hq with hq | hq
  · exact good q hq
  · rw [List.mem_singleton.mp hq]; exact h
theorem rows_snoc {rest : List (Addr × Obj)} {rv : List Value} {rows : List Row} {T : Addr} {i : Nat} {b c : Cell} {ts : Tok} {vb vc : Value} (h : RowsV rest rv rows) (hi : i < 7) (hb : CellOk b) (hc : CellOk c) (hvb : CellV b vb) (hvc : CellV c vc) :
    RowsV ((T, tup [.int (i : Int) ts, vb, vc]) :: rest) (rv ++ [Value.ref T]) (rows ++ [(i, b, c)]) :=
  (h.mono fun p hp => .tail _ hp).append (.cons ⟨T, ts, vb, vc, rfl, .head _, hvb, hvc, hi, hb, hc⟩ .nil)
section
variable {dp un : Nat} {gd : Option (List Code)} {env : Env} {outer : List Env} {A₀ : Around} {base h₀ g₀ : Heap} {L : Addr} {m : Str → Option Value} {mean : ExcName → Option Value} {mg mb : Str → Option Value} {w : World} {s : Shared} {Q E : Value → Shared → Prop} {news : List (Addr × Obj)}
variable {R Dd Ad P : Addr} {o : Obj} {kvs : List (List UInt8 × Value)} {H : Nat → Cell} {i1 i2 : Int} {t1 t2 : Tok}
variable {rest : List (Addr × Obj)}
theorem y_set {i c : Nat} {ov : Value} {t t' td : Tok} (B : Below (AA dp un gd []) h₀ [] h₀) (F : Fr h₀ L s.heap m) (X : (hd.heap_1 w.params).In h₀) (N : News h₀ L s.heap ((Ad, o) :: rest)) (T : Top hd.view_1 loose mean mg mb h₀) (hf : env.frame = some L) (hke : env.scope.kind = .function)
   (hdp : dp + 40 < recursionLimit) (hu : un + 400 < cLine) (hR : (R, instObj 304 Dd) ∈ rest) (hD : (Dd, dictOf [⟨i1, .str (Str.ofString "_refs") t1, .ref Ad⟩, ⟨i2, .str (Str.ofString "_peeled") t2, .ref P⟩] 2) ∈ rest) (hO : o.IsDictOf (bytesKind PG w) kvs) (hAs : (Ad == sysModules) = false) (RK : RefsKV kvs H) (hrest : ∀ p ∈ rest, p.1 ≠ Ad) (hi : i < 7) (hc : 1 ≤ c ∧ c ≤ 7)
   (hT : ∀ o' kvs' h' tk', o'.IsDictOf (bytesKind PG w) kvs' → RefsKV kvs' (setH H i (some (.inr c))) → Fr h₀ L h' m → News h₀ L h' ((Ad, o') :: rest) → Q .none { s with heap := h', toks := tk' }) :
   wpAny (model PG w) ((AA dp un gd []).deeper env) (call (.ref 368) [.ref R, .str (Str.ofString "set") td, .bytes (nm i).toArray t, ov, .bytes (lv c).toArray t']) Q E s :=
  told_set (x := .inr c) (g₀ := h₀) B F X N T hf hke X T ktsDicts_nil KtsTurn.refl (by omega) (by omega) hR hD hO hAs RK hrest hi hc hT
end
structure SawS (w : World) (K : Ks) (Sl Nl : Addr) (yv : List Value) (nc : Nat) (H : Nat → Cell) (rows : List Row) (o : Obj) (kvs : List (List UInt8 × Value)) (hv rv sv : List Value) (Rl : Addr) (ocr ocs : Obj) (rest : List (Addr × Obj)) (m : Str → Option Value) : Prop where
  core : Core w K H rows o kvs hv rv Rl ocr rest
  cs : ∃ x, ocs.data = .cell x
  ap : Off [K.Ad, K.Hl, Rl, K.Cr, K.Cs, Sl] rest
  num : (Nl, W.listOf yv.toArray nc) ∈ rest
  saws : SawsV rest sv rows
  few : rows.length ≤ 8
  m1 : m (Str.ofString "refs") = some (.ref K.R)
  m2 : m (Str.ofString "held") = some (.ref K.Hl)
  m3 : m (Str.ofString "saws") = some (.ref Sl)
  m4 : m (Str.ofString "numbers") = some (.ref Nl)
inductive JSaw (w : World) (K : Ks) (Sl Nl : Addr) (yv : List Value) (nc : Nat) (m : Str → Option Value) (nx : List (Addr × Obj)) : Prop
  | mk : ∀ H rows o kvs hv hc rv rc sv sc Rl ocr ocs rest, nx = (K.Ad, o) :: (K.Hl, W.listOf hv.toArray hc) :: (Rl, W.listOf rv.toArray rc) :: (K.Cr, ocr) :: (K.Cs, ocs) :: (Sl, W.listOf sv.toArray sc) :: rest → SawS w K Sl Nl yv nc H rows o kvs hv rv sv Rl ocr ocs rest m → JSaw w K Sl Nl yv nc m nx
section
variable {h₀ h : Heap} {L Sl Sw R Dd Ad P Hl Cr Cs Rl Nl : Addr} {i1 i2 : Int} {t1 t2 ts ti : Tok} {nc hc rc sc st len : Nat} {yv hv rv : List Value} {v : Value} {H : Nat → Cell} {rows : List Row} {x : Addr × Obj} {o ocr ocs : Obj} {kvs : List (List UInt8 × Value)} {rest : List (Addr × Obj)}
theorem saw_news {so wo o ho ro ocr ocs : Obj} (N : News h₀ L h ((Sl, so) :: x :: (Sw, wo) :: (Ad, o) :: (Hl, ho) :: (Rl, ro) :: (Cr, ocr) :: (Cs, ocs) :: rest)) : News h₀ L h ((Ad, o) :: (Hl, ho) :: (Rl, ro) :: (Cr, ocr) :: (Cs, ocs) :: (Sl, so) :: (Sw, wo) :: rest) := cb_drop N (pick_of [3, 4, 5, 6, 7, 0, 2] 8 rfl)
theorem saw_off {vs : List Value} {so ho : Obj} (N : News h₀ L h ((Sl, so) :: x :: (Sw, tup vs) :: (Ad, o) :: (Hl, ho) :: (Rl, W.listOf rv.toArray rc) :: (Cr, ocr) :: (Cs, ocs) :: rest)) (lt : ∀ p ∈ x :: (Sw, tup vs) :: (Ad, o) :: (Hl, ho) :: (Rl, W.listOf rv.toArray rc) :: (Cr, ocr) :: (Cs, ocs) :: rest, p.1 < Sl)
    (ap : Off [Ad, Hl, Rl, Cr, Cs] rest) (hO : o.cls = .type "dict") (hH : ho.cls = .type "list") (hC : ∃ x, ocr.data = .cell x) (hS : ∃ x, ocs.data = .cell x) : Off [Ad, Hl, Rl, Cr, Cs, Sl] ((Sw, tup vs) :: rest) := by
  have h1 : Sw ∉ [Ad, Hl, Rl, Cr, Cs] := tup_off (named := [(Ad, o), (Hl, ho), (Rl, W.listOf rv.toArray rc), (Cr, ocr), (Cs, ocs)]) N (.tail _ (.tail _ (.head _))) (fun p hp => .tail _ (.tail _ (.tail _ (List.mem_append_left rest hp)))) (fun p hp => by
    simp only [List.mem_cons, List.not_mem_nil, or_false] at hp
    rcases hp with rfl | rfl | rfl | rfl | rfl
    · exact .inl (by rw [show (Ad, o).2.cls = _ from hO]; exact type_ne (by decide))
    · exact .inl (by rw [show (Hl, ho).2.cls = _ from hH]; exact type_ne (by decide))
    · exact .inl (type_ne (by decide))
    · exact .inr hC
    · exact .inr hS)
  have e1 : Ad < Sl := lt (Ad, o) (.tail _ (.tail _ (.head _)))
  have e2 : Hl < Sl := lt (Hl, ho) (.tail _ (.tail _ (.tail _ (.head _))))
  have e3 : Rl < Sl := lt (Rl, _) (.tail _ (.tail _ (.tail _ (.tail _ (.head _)))))
  have e4 : Cr < Sl := lt (Cr, ocr) (.tail _ (.tail _ (.tail _ (.tail _ (.tail _ (.head _))))))
  have e5 : Cs < Sl := lt (Cs, ocs) (.tail _ (.tail _ (.tail _ (.tail _ (.tail _ (.tail _ (.head _)))))))
  have e6 : Sw < Sl := lt (Sw, tup vs) (.tail _ (.head _))
  have hin : ∀ a, a ∈ [Ad, Hl, Rl, Cr, Cs, Sl] ↔ a ∈ [Ad, Hl, Rl, Cr, Cs] ∨ a = Sl := fun a => by simp [or_assoc]
  refine ⟨?_, fun p hp hm => ?_⟩
  · have := ap.nd
    rw [show [Ad, Hl, Rl, Cr, Cs, Sl] = [Ad, Hl, Rl, Cr, Cs] ++ [Sl] from rfl, List.nodup_append]
    refine ⟨this, by simp, ?_⟩
    intro a ha b hb
    rw [List.mem_singleton.mp hb]
    simp only [List.mem_cons, List.not_mem_nil, or_false] at ha
    rcases ha with rfl | rfl | rfl | rfl | rfl <;> exact Nat.ne_of_lt (by assumption)
  · rcases (hin _).mp hm with hm | hm
    · rcases List.mem_cons.mp hp with rfl | hp
      · exact h1 hm
      · exact ap.off p hp hm
    · rcases List.mem_cons.mp hp with rfl | hp
      · exact Nat.ne_of_lt e6 hm
      · exact Nat.ne_of_lt (lt p (.tail _ (.tail _ (.tail _ (.tail _ (.tail _ (.tail _ (.tail _ hp)))))))) hm
theorem saw_at {w : World} {m' : Str → Option Value} {sv : List Value} {cx : Option Value} (hR : (R, instObj 304 Dd) ∈ rest) (hD : (Dd, dictOf [⟨i1, .str (Str.ofString "_refs") t1, .ref Ad⟩, ⟨i2, .str (Str.ofString "_peeled") t2, .ref P⟩] 2) ∈ rest) (hO : o.IsDictOf (bytesKind PG w) kvs) (RK : RefsKV kvs H)
    (hHV : CellsV hv H) (hRV : RowsV rest rv rows) (tale : Tale rows H) (good : ∀ r ∈ rows, r.1 < 7 ∧ ¬ (r.2.1 = none ∧ r.2.2 = none)) (hcr : ocr.data = .cell (some (.ref Rl))) (hcs : ocs.data = .cell cx) (num : (Nl, W.listOf yv.toArray nc) ∈ rest) (few : rows.length ≤ 8)
    (ap : Off [Ad, Hl, Rl, Cr, Cs, Sl] rest) (saws : SawsV rest sv rows)
    (m1 : m' (Str.ofString "refs") = some (.ref R)) (m2 : m' (Str.ofString "held") = some (.ref Hl)) (m3 : m' (Str.ofString "saws") = some (.ref Sl)) (m4 : m' (Str.ofString "numbers") = some (.ref Nl)) :
    JSaw w ⟨R, Dd, Ad, P, Hl, Cr, Cs, i1, i2, t1, t2⟩ Sl Nl yv nc m' ((Ad, o) :: (Hl, W.listOf hv.toArray hc) :: (Rl, W.listOf rv.toArray rc) :: (Cr, ocr) :: (Cs, ocs) :: (Sl, W.listOf sv.toArray sc) :: rest) :=
  ⟨H, rows, o, kvs, hv, hc, rv, rc, sv, sc, Rl, ocr, ocs, rest, rfl, ⟨⟨hR, hD, hO, RK, hHV, hRV, tale, good, hcr⟩, ⟨_, hcs⟩, ap, num, saws, few, m1, m2, m3, m4⟩⟩
theorem saws3 {sp idx : Nat} {sc : Cell} (hm : (Sw, tup [.int (sp : Int) ts, v, .int (idx : Int) ti]) ∈ rest) (hv : CellV sc v) (ho : SawOk rows sp sc idx) : SawsV rest [.ref Sw, .ref Sw, .ref Sw] rows :=
  ⟨rfl, fun j hj => ⟨Sw, sp, sc, idx, ts, ti, v, match j, hj with | 0, _ => rfl | 1, _ => rfl | 2, _ => rfl, hm, hv, ho⟩⟩
end
theorem set_saws {w : World} {A : Around} {E : Value → Shared → Prop} {s : Shared} {h₀ : Heap} {L Ad Hl Rl Cr Cs Sl T : Addr} {m : Str → Option Value} {rest : List (Addr × Obj)} {o ho ro ocr ocs : Obj} {sv vs : List Value} {sc j : Nat} {t : Tok} {Q : Unit → Shared → Prop} (F : Fr h₀ L s.heap m)
    (N : News h₀ L s.heap ((T, tup vs) :: (Ad, o) :: (Hl, ho) :: (Rl, ro) :: (Cr, ocr) :: (Cs, ocs) :: (Sl, W.listOf sv.toArray sc) :: rest)) (ap : Off [Ad, Hl, Rl, Cr, Cs, Sl] rest) (hl : sv.length = 3) (hj : j < 3)
    (hO : o.cls = .type "dict") (hH : ho.cls = .type "list") (hRo : ro.cls = .type "list") (hC : ∃ x, ocr.data = .cell x) (hS : ∃ x, ocs.data = .cell x)
    (h : ∀ h', Fr h₀ L h' m → News h₀ L h' ((Ad, o) :: (Hl, ho) :: (Rl, ro) :: (Cr, ocr) :: (Cs, ocs) :: (Sl, W.listOf (sv.set j (.ref T)).toArray sc) :: (T, tup vs) :: rest) → Off [Ad, Hl, Rl, Cr, Cs, Sl] ((T, tup vs) :: rest) → Q () { s with heap := h' }) :
    wpAny (model PG w) A (setItem (.ref Sl) (.int (j : Int) t) (.ref T)) Q E s := by
  have ap' : Off [Ad, Hl, Rl, Cr, Cs, Sl] ((T, tup vs) :: rest) := ap.cons (tup_off (named := [(Ad, o), (Hl, ho), (Rl, ro), (Cr, ocr), (Cs, ocs), (Sl, W.listOf sv.toArray sc)]) N (.head _) (fun p hp => .tail _ (List.mem_append_left rest hp)) (fun p hp => by
    simp only [List.mem_cons, List.not_mem_nil, or_false] at hp
    rcases hp with rfl | rfl | rfl | rfl | rfl | rfl
    · exact .inl (by rw [show (Ad, o).2.cls = _ from hO]; exact type_ne (by decide))
    · exact .inl (by rw [show (Hl, ho).2.cls = _ from hH]; exact type_ne (by decide))
    · exact .inl (by rw [show (Rl, ro).2.cls = _ from hRo]; exact type_ne (by decide))
    · exact .inr hC
    · exact .inr hS
    · exact .inl (type_ne (by decide))))
  refine setL_all F N (.tail _ (.tail _ (.tail _ (.tail _ (.tail _ (.tail _ (.head _))))))) (by simpa [hl] using hj) (by simp [hl]) fun h' F' N' => h h' F' ?_ ap'
  rw [set_toArray] at N'
  refine mut_named (named := [(Ad, o), (Hl, ho), (Rl, ro), (Cr, ocr), (Cs, ocs), (Sl, W.listOf sv.toArray sc)]) (rest := (T, tup vs) :: rest) (i := 5) ap' rfl (fun p hp => ?_) N'
  rcases List.mem_append.mp hp with hp | hp
  · exact .tail _ (List.mem_append_left rest hp)
  · rcases List.mem_cons.mp hp with rfl | hp
    · exact .head _
    · exact .tail _ (.tail _ (.tail _ (.tail _ (.tail _ (.tail _ (.tail _ hp))))))
theorem set_joinK {M : Model} {A : Around} {E : Value → Shared → Prop} {s : Shared} {c : Sem Flow} {Q : Flow → Shared → Prop} {h₀ : Heap} {L : Addr} {J : (Str → Option Value) → List (Addr × Obj) → Prop} {m : Str → Option Value} {nx : List (Addr × Obj)} (F : Fr h₀ L s.heap m) (_k : J m nx)
    (h : wpAny M A c (SetJ h₀ L J s) E s) (hq : ∀ h' tk m' nx, Fr h₀ L h' m' → News h₀ L h' nx → J m' nx → Q .next { s with heap := h', toks := tk }) : wpAny M A c Q E s := set_join F h hq
theorem saws3o {as : List Addr} {rest : List (Addr × Obj)} {Sw : Addr} {ts ti : Tok} {v : Value} {rows : List Row} {sp idx : Nat} {sc : Cell} (_ap : Off as ((Sw, tup [.int (sp : Int) ts, v, .int (idx : Int) ti]) :: rest)) (hv : CellV sc v) (ho : SawOk rows sp sc idx) : SawsV ((Sw, tup [.int (sp : Int) ts, v, .int (idx : Int) ti]) :: rest) [.ref Sw, .ref Sw, .ref Sw] rows := saws3 (.head _) hv ho
theorem ints_mod {ys : List Value} {l : List Int} (h : IntsAre ys (List.map (fun k' => k'.fmod 20580) l)) : ∀ v ∈ ys, ∃ n : Nat, ∃ t, v = .int (n : Int) t ∧ n < 20580 := by
  generalize hm : List.map (fun k' => Int.fmod k' 20580) l = ms at h
  have hb : ∀ x ∈ ms, 0 ≤ x ∧ x < 20580 := fun x hx => by
    rw [← hm] at hx
    obtain ⟨y, _, rfl⟩ := List.mem_map.mp hx
    exact ⟨fmod_lo y (by decide), fmod_hi y (by decide)⟩
  clear hm
  induction h with
  | nil => intro v hv; cases hv
  | cons n t _ ih =>
    intro v hv
    rcases List.mem_cons.mp hv with rfl | hv
    · obtain ⟨h1, h2⟩ := hb _ (.head _)
      exact ⟨n.toNat, t, by rw [Int.toNat_of_nonneg h1], by omega⟩
    · exact ih (fun x hx => hb x (.tail _ hx)) v hv
theorem turnsV_of {ys : List Value} {l : List Int} {a b : Tok} (h : IntsAre ys (List.map (fun k' => k'.fmod 20580) l)) (h5 : ys.length ≤ 5) : TurnsV ((ys.drop 1).toArray ++ #[Value.int 0 a, Value.int 1 b]).toList := by
  refine ⟨by simp, by simp; omega, fun j v hv => ?_⟩
  have hm := List.mem_of_getElem? hv
  simp only [Array.toList_append, List.mem_append] at hm
  rcases hm with hm | hm
  · exact ints_mod h v (List.mem_of_mem_drop (i := 1) (show v ∈ ys.drop 1 from hm))
  · simp only [List.mem_cons, List.not_mem_nil, or_false] at hm
    rcases hm with rfl | rfl
    · exact ⟨0, a, rfl, by decide⟩
    · exact ⟨1, b, rfl, by decide⟩
theorem cut_one (yv : List Value) : kms_pick yv.toArray.toList (some (1 : Int)) none = yv.drop 1 := by
  unfold kms_pick kms_lo kms_hi
  have n1 : ¬ ((1 : Int) < 0) := by decide
  simp only [if_neg n1]
  rw [List.take_of_length_le (by simp)]
  cases yv with
  | nil => rfl
  | cons a l => simp
theorem range_zero (n : Nat) : Builtin.Range.rangeSize 0 (n : Int) 1 = (n : Int) := by
  have := range_one (a := 0) (b := n) (n := n) (by omega)
  simpa using this
theorem off_lt {as : List Addr} {named rest : List (Addr × Obj)} {T : Addr} {ob : Obj} (ap : Off as rest) (ha : as = named.map (·.1)) (lt : ∀ p ∈ named, p.1 < T) : Off as ((T, ob) :: rest) := ap.cons (p := (T, ob)) fun hm => by
  rw [ha] at hm
  obtain ⟨p, hp, e⟩ := List.mem_map.mp hm
  exact Nat.ne_of_lt (lt p hp) e
section
variable {h₀ h : Heap} {L : Addr} {a b c d e f t x y : Addr × Obj} {rest : List (Addr × Obj)}
theorem turn_news (N : News h₀ L h (t :: x :: y :: a :: b :: c :: d :: e :: f :: rest)) : News h₀ L h (a :: b :: c :: d :: e :: f :: t :: rest) := cb_drop N (pick_of [3, 4, 5, 6, 7, 8, 0] 9 rfl)
end
theorem turn_at {w : World} {R Dd Ad P Hl Cr Cs Rl Sl Tl : Addr} {i1 i2 : Int} {t1 t2 : Tok} {i tc hc rc sc : Nat} {tv hv rv sv : List Value} {H : Nat → Cell} {rows : List Row} {o ocr ocs : Obj} {kvs : List (List UInt8 × Value)} {rest : List (Addr × Obj)} {m' : Str → Option Value} {cx : Option Value}
    (hR : (R, instObj 304 Dd) ∈ rest) (hD : (Dd, dictOf [⟨i1, .str (Str.ofString "_refs") t1, .ref Ad⟩, ⟨i2, .str (Str.ofString "_peeled") t2, .ref P⟩] 2) ∈ rest) (hO : o.IsDictOf (bytesKind PG w) kvs) (RK : RefsKV kvs H)
    (hHV : CellsV hv H) (hRV : RowsV rest rv rows) (tale : Tale rows H) (good : ∀ r ∈ rows, r.1 < 7 ∧ ¬ (r.2.1 = none ∧ r.2.2 = none)) (hcr : ocr.data = .cell (some (.ref Rl))) (hcs : ocs.data = .cell cx) (tur : (Tl, W.listOf tv.toArray tc) ∈ rest) (few : rows.length ≤ 8 + i)
    (ap : Off [Ad, Hl, Rl, Cr, Cs, Sl] rest) (saws : SawsV rest sv rows)
    (m1 : m' (Str.ofString "refs") = some (.ref R)) (m2 : m' (Str.ofString "held") = some (.ref Hl)) (m3 : m' (Str.ofString "saws") = some (.ref Sl)) (m4 : m' (Str.ofString "turns") = some (.ref Tl)) :
    JTurn w ⟨R, Dd, Ad, P, Hl, Cr, Cs, i1, i2, t1, t2⟩ Sl Tl tv tc i m' ((Ad, o) :: (Hl, W.listOf hv.toArray hc) :: (Rl, W.listOf rv.toArray rc) :: (Cr, ocr) :: (Cs, ocs) :: (Sl, W.listOf sv.toArray sc) :: rest) :=
  ⟨H, rows, o, kvs, hv, hc, rv, rc, sv, sc, Rl, ocr, ocs, rest, rfl, ⟨⟨hR, hD, hO, RK, hHV, hRV, tale, good, hcr⟩, ⟨_, hcs⟩, ap, tur, saws, few, m1, m2, m3, m4⟩⟩
theorem off_lt' {as : List Addr} {rest : List (Addr × Obj)} {T : Addr} {ob : Obj} (ap : Off as rest) (lt : ∀ a ∈ as, a < T) : Off as ((T, ob) :: rest) := ap.cons (p := (T, ob)) fun hm => Nat.lt_irrefl _ (lt _ hm)
theorem turnsV_ints {ws : List Value} {l : List Int} (h : IntsAre ws (List.drop 1 (List.map (fun k' => k'.fmod 20580) l) ++ [0, 1])) (h5 : l.length ≤ 5) : TurnsV ws := by
  have hl := h.length
  rw [List.length_append, List.length_drop, List.length_map] at hl
  simp only [List.length_cons, List.length_nil] at hl
  have e : ∃ l', List.drop 1 (List.map (fun k' => Int.fmod k' 20580) l) ++ [0, 1] = List.map (fun k' => Int.fmod k' 20580) l' := ⟨List.drop 1 l ++ [0, 1], by
    rw [List.map_append, List.map_drop]; rfl⟩
  obtain ⟨l', e⟩ := e
  rw [e] at h
  exact ⟨by omega, by omega, fun j v hv => ints_mod h v (List.mem_of_getElem? hv)⟩
theorem range_len {ws : List Value} {ns : List Int} {b : Int} (h : IntsAre ws ns) (hb : b = ((ns.length : Nat) : Int)) : Builtin.Range.rangeSize 0 b 1 = ((ws.length : Nat) : Int) := by
  rw [hb, h.length]; exact range_zero _
theorem turn_num {tv : List Value} (h : TurnsV tv) {i : Nat} (hi : i < tv.length) : ∃ n : Nat, ∃ t, tv.toArray[((i : Nat) : Int).toNat]? = some (.int (n : Int) t) ∧ n < 20580 ∧ i < 6 := by
  obtain ⟨n, t, e, hn⟩ := h.2.2 i _ (List.getElem?_eq_getElem hi)
  refine ⟨n, t, ?_, hn, Nat.lt_of_lt_of_le hi h.2.1⟩
  rw [Int.toNat_natCast, List.getElem?_toArray, List.getElem?_eq_getElem hi, e]
theorem saw_get {rest : List (Addr × Obj)} {sv : List Value} {rows : List Row} (h : SawsV rest sv rows) {j : Nat} (hj : j < 3) : ∃ Sw sp sc idx t1 t2 v, sv.toArray[((j : Nat) : Int).toNat]? = some (.ref Sw) ∧ (Sw, tup [.int ((sp : Nat) : Int) t1, v, .int ((idx : Nat) : Int) t2]) ∈ rest ∧ CellV sc v ∧ SawOk rows sp sc idx := by
  obtain ⟨Sw, sp, sc, idx, t1, t2, v, a, b⟩ := h.2 j hj
  exact ⟨Sw, sp, sc, idx, t1, t2, v, by rw [Int.toNat_natCast, List.getElem?_toArray]; exact a, b⟩
structure MidS (w : World) (K : Ks) (Sl Tl : Addr) (tv : List Value) (tc i hand gaze straight : Nat) (I : Addr) (it : Obj) (H : Nat → Cell) (rows : List Row) (o : Obj) (kvs : List (List UInt8 × Value)) (hv rv sv : List Value) (Rl : Addr) (ocr ocs : Obj) (rest : List (Addr × Obj)) (m : Str → Option Value) : Prop where
  core : Core w K H rows o kvs hv rv Rl ocr rest
  cs : ∃ x, ocs.data = .cell x
  ap : Off [K.Ad, K.Hl, Rl, K.Cr, K.Cs, Sl] ((I, it) :: rest)
  tur : (Tl, W.listOf tv.toArray tc) ∈ rest
  saws : SawsV rest sv rows
  few : rows.length ≤ 8 + (i + 1)
  off : ∀ p ∈ rest, p.1 ≠ I
  m1 : m (Str.ofString "refs") = some (.ref K.R)
  m2 : m (Str.ofString "held") = some (.ref K.Hl)
  m3 : m (Str.ofString "saws") = some (.ref Sl)
  m4 : m (Str.ofString "turns") = some (.ref Tl)
  m5 : ∃ t, m (Str.ofString "hand") = some (.int (hand : Int) t)
  m6 : ∃ t, m (Str.ofString "gaze") = some (.int (gaze : Int) t)
  m7 : ∃ t, m (Str.ofString "straight") = some (.int (straight : Int) t)
inductive JMid (w : World) (K : Ks) (Sl Tl : Addr) (tv : List Value) (tc i hand gaze straight : Nat) (I : Addr) (it : Obj) (m : Str → Option Value) (nx : List (Addr × Obj)) : Prop
  | mk : ∀ H rows o kvs hv hc rv rc sv sc Rl ocr ocs rest, nx = (K.Ad, o) :: (K.Hl, W.listOf hv.toArray hc) :: (Rl, W.listOf rv.toArray rc) :: (K.Cr, ocr) :: (K.Cs, ocs) :: (Sl, W.listOf sv.toArray sc) :: (I, it) :: rest → MidS w K Sl Tl tv tc i hand gaze straight I it H rows o kvs hv rv sv Rl ocr ocs rest m → JMid w K Sl Tl tv tc i hand gaze straight I it m nx
theorem mid_at {w : World} {R Dd Ad P Hl Cr Cs Rl Sl Tl I : Addr} {it : Obj} {i1 i2 : Int} {t1 t2 : Tok} {i tc hc rc sc hand gaze straight : Nat} {tv hv rv sv : List Value} {H : Nat → Cell} {rows : List Row} {o ocr ocs : Obj} {kvs : List (List UInt8 × Value)} {rest : List (Addr × Obj)} {m' : Str → Option Value} {cx : Option Value}
    (hR : (R, instObj 304 Dd) ∈ rest) (hD : (Dd, dictOf [⟨i1, .str (Str.ofString "_refs") t1, .ref Ad⟩, ⟨i2, .str (Str.ofString "_peeled") t2, .ref P⟩] 2) ∈ rest) (hO : o.IsDictOf (bytesKind PG w) kvs) (RK : RefsKV kvs H)
    (hHV : CellsV hv H) (hRV : RowsV rest rv rows) (tale : Tale rows H) (good : ∀ r ∈ rows, r.1 < 7 ∧ ¬ (r.2.1 = none ∧ r.2.2 = none)) (hcr : ocr.data = .cell (some (.ref Rl))) (hcs : ocs.data = .cell cx) (tur : (Tl, W.listOf tv.toArray tc) ∈ rest) (few : rows.length ≤ 8 + (i + 1))
    (ap : Off [Ad, Hl, Rl, Cr, Cs, Sl] ((I, it) :: rest)) (off : ∀ p ∈ rest, p.1 ≠ I) (saws : SawsV rest sv rows)
    (m1 : m' (Str.ofString "refs") = some (.ref R)) (m2 : m' (Str.ofString "held") = some (.ref Hl)) (m3 : m' (Str.ofString "saws") = some (.ref Sl)) (m4 : m' (Str.ofString "turns") = some (.ref Tl))
    (m5 : ∃ t, m' (Str.ofString "hand") = some (.int (hand : Int) t)) (m6 : ∃ t, m' (Str.ofString "gaze") = some (.int (gaze : Int) t)) (m7 : ∃ t, m' (Str.ofString "straight") = some (.int (straight : Int) t)) :
    JMid w ⟨R, Dd, Ad, P, Hl, Cr, Cs, i1, i2, t1, t2⟩ Sl Tl tv tc i hand gaze straight I it m' ((Ad, o) :: (Hl, W.listOf hv.toArray hc) :: (Rl, W.listOf rv.toArray rc) :: (Cr, ocr) :: (Cs, ocs) :: (Sl, W.listOf sv.toArray sc) :: (I, it) :: rest) :=
  ⟨H, rows, o, kvs, hv, hc, rv, rc, sv, sc, Rl, ocr, ocs, rest, rfl, ⟨⟨hR, hD, hO, RK, hHV, hRV, tale, good, hcr⟩, ⟨_, hcs⟩, ap, tur, saws, few, off, m1, m2, m3, m4, m5, m6, m7⟩⟩
def besides (c : Addr) (l : List (Addr × Obj)) : List (Addr × Obj) := l.filter (fun p => p.1 != c)
theorem mem_besides {c : Addr} {l : List (Addr × Obj)} {p : Addr × Obj} : p ∈ besides c l ↔ p ∈ l ∧ p.1 ≠ c := by
  simp [besides]
theorem FoundOk.besides {h₀ h : Heap} {L c : Addr} {all l : List (Addr × Obj)} {oc : Obj} {x : Option Value} {H : Nat → Cell} {P : Nat → Prop} {f : Nat → Option Value} (hf : FoundOk l H P f) (N : PyProof.Rows.News h₀ L h all) (hs : ∀ p ∈ l, p ∈ all) (hc : (c, oc) ∈ all) (hd : oc.data = .cell x) :
    FoundOk (besides c l) H P f := fun k hk => ⟨fun hp => by
  obtain ⟨v, e, T, l', ev, vs, n, ks, c', e1, a, b, r1, r2, r3⟩ := (hf k hk).1 hp
  have ne : ∀ q ∈ l, (∀ y, q.2.data ≠ .cell y) → q.1 ≠ c := fun q hq hn z => by
    have h1 := (N q (hs q hq)).1
    have h2 := (N (c, oc) hc).1
    rw [z, h2] at h1
    exact hn x (by rw [← Option.some.inj h1]; exact hd)
  exact ⟨v, e, T, l', ev, vs, n, ks, c', e1, mem_besides.mpr ⟨a, ne _ a fun y z => nomatch z⟩, mem_besides.mpr ⟨b, ne _ b fun y z => nomatch z⟩, r1, r2, r3⟩, (hf k hk).2⟩
theorem ends_off {Ed Kd Cs Fd : Addr} {oe ocs fo : Obj} {frest : List (Addr × Obj)} (offE : ∀ p ∈ (Fd, fo) :: frest, p.1 ≠ Ed) (offK : ∀ p ∈ (Ed, oe) :: (Fd, fo) :: frest, p.1 ≠ Kd) (hc : (Cs, ocs) ∈ frest) :
    Off [Cs, Ed, Kd] (besides Cs ((Fd, fo) :: frest)) := by
  refine ⟨?_, fun q hq hm => ?_⟩
  · have h1 : Cs ≠ Ed := offE _ (.tail _ hc)
    have h2 : Cs ≠ Kd := offK _ (.tail _ (.tail _ hc))
    have h3 : Ed ≠ Kd := offK _ (.head _)
    simp [h1, h2, h3]
  · obtain ⟨a, b⟩ := mem_besides.mp hq
    simp only [List.mem_cons, List.not_mem_nil, or_false] at hm
    rcases hm with e | e | e
    · exact b e
    · exact offE _ a e
    · exact offK _ (.tail _ a) e
theorem ends_news {h₀ h : Heap} {L Ed Kd Cs Fd : Addr} {oe ok ocs fo : Obj} {t : Addr × Obj} {frest : List (Addr × Obj)} (N : PyProof.Rows.News h₀ L h (t :: (Kd, ok) :: (Ed, oe) :: (Fd, fo) :: frest)) (hc : (Cs, ocs) ∈ frest) :
    PyProof.Rows.News h₀ L h ((Cs, ocs) :: (Ed, oe) :: (Kd, ok) :: besides Cs ((Fd, fo) :: frest)) := cb_drop N fun p hp => by
  rcases List.mem_cons.mp hp with e | hp
  · subst e; exact .tail _ (.tail _ (.tail _ (.tail _ hc)))
  · rcases List.mem_cons.mp hp with e | hp
    · subst e; exact .tail _ (.tail _ (.head _))
    · rcases List.mem_cons.mp hp with e | hp
      · subst e; exact .tail _ (.head _)
      · exact .tail _ (.tail _ (.tail _ (mem_besides.mp hp).1))
def upto {α : Type} (i : Nat) (f : Nat → Option α) : Nat → Option α := fun j => if j < i then f j else none
inductive JEnd (w : World) (H : Nat → Cell) (Cs Ed Kd : Addr) (base : List (Addr × Obj)) (m₀ : Str → Option Value) (i : Nat) (m : Str → Option Value) (nx : List (Addr × Obj)) : Prop
  | mk : m = m₀ → ∀ ocs oe ok ke kk, nx = (Cs, ocs) :: (Ed, oe) :: (Kd, ok) :: base → (∃ x, ocs.data = .cell x) → oe.IsDictOf (bytesKind PG w) ke → KVB ke (upto i fun j => (endsH H j).map oct) → ok.IsDictOf (bytesKind PG w) kk → KVB kk (upto i (linkH H)) → JEnd w H Cs Ed Kd base m₀ i m nx
theorem upto_skip {α : Type} {i : Nat} {f : Nat → Option α} (h : f i = none) : upto (i + 1) f = upto i f := by
  funext j
  unfold upto
  by_cases z : j = i
  · subst z; simp [h]
  · have e : (j < i + 1) = (j < i) := by apply propext; omega
    simp [e]
theorem upto_put {α : Type} {i : Nat} {f : Nat → Option α} {b : α} (h : f i = some b) : upto (i + 1) f = fun j => if j = i then some b else upto i f j := by
  funext j
  unfold upto
  by_cases z : j = i
  · subst z; simp [h]
  · have e : (j < i + 1) = (j < i) := by apply propext; omega
    simp [e, z]
theorem upto_zero {α : Type} (f : Nat → Option α) : upto 0 f = fun _ => none := by
  funext j; simp [upto]
theorem jend_start {w : World} {H : Nat → Cell} {Cs Ed Kd : Addr} {base : List (Addr × Obj)} {m : Str → Option Value} {ocs oe ok : Obj} {cx : Option Value} (hc : ocs.data = .cell cx) (he : oe.IsDictOf (intKind PG w) []) (hk : ok.IsDictOf (intKind PG w) []) :
    JEnd w H Cs Ed Kd base m 0 m ((Cs, ocs) :: (Ed, oe) :: (Kd, ok) :: base) :=
  ⟨rfl, ocs, oe, ok, [], [], rfl, ⟨_, hc⟩, isDict_nil he, by rw [upto_zero]; exact KVB.nil, isDict_nil hk, by rw [upto_zero]; exact KVB.nil⟩
theorem spot_news {h₀ h : Heap} {L Cs Ed Kd I : Addr} {ocs oe ok it oc : Obj} {base : List (Addr × Obj)} (ap : Off [Cs, Ed, Kd] base) (off : ∀ p ∈ (Cs, ocs) :: (Ed, oe) :: (Kd, ok) :: base, p.1 ≠ I)
    (N : ∀ want : List (Addr × Obj), (∀ p ∈ want, p ∈ (I, it) :: (Cs, ocs) :: (Ed, oe) :: (Kd, ok) :: base ∧ p.1 ≠ Cs) → PyProof.Rows.News h₀ L h ((Cs, oc) :: want)) :
    PyProof.Rows.News h₀ L h ((Cs, oc) :: (Ed, oe) :: (Kd, ok) :: (I, it) :: base) := by
  have nd := ap.nd
  simp only [List.nodup_cons, List.mem_cons, List.not_mem_nil, or_false, not_or] at nd
  refine N _ fun p hp => ?_
  rcases List.mem_cons.mp hp with e | hp
  · subst e; exact ⟨.tail _ (.tail _ (.head _)), fun e => nd.1.1 e.symm⟩
  · rcases List.mem_cons.mp hp with e | hp
    · subst e; exact ⟨.tail _ (.tail _ (.tail _ (.head _))), fun e => nd.1.2 e.symm⟩
    · rcases List.mem_cons.mp hp with e | hp
      · subst e; exact ⟨.head _, fun e => off _ (.head _) e.symm⟩
      · exact ⟨.tail _ (.tail _ (.tail _ (.tail _ hp))), fun e => ap.off _ hp (e ▸ .head _)⟩
theorem besides_in {h₀ h : Heap} {L c : Addr} {all l : List (Addr × Obj)} {oc : Obj} {x : Option Value} {q : Addr × Obj} (N : PyProof.Rows.News h₀ L h all) (hq : q ∈ l) (hs : ∀ p ∈ l, p ∈ all) (hc : (c, oc) ∈ all) (hd : oc.data = .cell x) (hn : ∀ y, q.2.data ≠ .cell y) : q ∈ besides c l :=
  mem_besides.mpr ⟨hq, fun z => by
    have h1 := (N q (hs q hq)).1
    have h2 := (N (c, oc) hc).1
    rw [z, h2] at h1
    exact hn x (by rw [← Option.some.inj h1]; exact hd)⟩
theorem dictF_nocell {w : World} {o : Obj} {f : Nat → Option Value} (h : DictF w o f) : ∀ y, o.data ≠ .cell y := by
  obtain ⟨kvs, ⟨es, ep, h1, h2, _⟩, _⟩ := h
  intro y e
  first | (rw [h2] at e; cases e) | (rw [h1] at e; cases e)
theorem isDict_nocell {K : Type} [DecidableEq K] {prog : Program} {w : World} {knd : KeyKind prog w K} {o : Obj} {kvs : List (K × Value)} (h : o.IsDictOf knd kvs) : ∀ y, o.data ≠ .cell y := by
  obtain ⟨es, ep, h1, h2, _⟩ := h
  intro y e
  first | (rw [h2] at e; cases e) | (rw [h1] at e; cases e)
theorem cr_cs {Ad Hl Rl Cr Cs Sl : Addr} {rest : List (Addr × Obj)} (ap : Off [Ad, Hl, Rl, Cr, Cs, Sl] rest) : Cr ≠ Cs := by
  have nd := ap.nd
  simp only [List.nodup_cons, List.mem_cons, List.not_mem_nil, or_false, not_or] at nd
  exact nd.2.2.2.1.1
theorem FoundOk.wide {l l' : List (Addr × Obj)} {H : Nat → Cell} {P : Nat → Prop} {f : Nat → Option Value} (h : FoundOk l H P f) (hs : ∀ p ∈ l, p ∈ l') : FoundOk l' H P f :=
  fun k hk => ⟨fun hp => let ⟨v, e, c⟩ := (h k hk).1 hp; ⟨v, e, c.mono hs⟩, (h k hk).2⟩
structure UndoS (w : World) (K : Ks) (Tl : Addr) (tv : List Value) (tc n : Nat) (i : Nat) (H : Nat → Cell) (rows : List Row) (o : Obj) (kvs : List (List UInt8 × Value)) (rv : List Value) (rc : Nat) (Rl : Addr) (ocr ocs : Obj) (rest : List (Addr × Obj)) (m : Str → Option Value) : Prop where
  hR : (K.R, instObj 304 K.Dd) ∈ rest
  hD : (K.Dd, dictOf [⟨K.i1, .str (Str.ofString "_refs") K.t1, .ref K.Ad⟩, ⟨K.i2, .str (Str.ofString "_peeled") K.t2, .ref K.P⟩] 2) ∈ rest
  hRl : (Rl, W.listOf rv.toArray rc) ∈ rest
  hO : o.IsDictOf (bytesKind PG w) kvs
  RK : RefsKV kvs H
  hRV : RowsV rest rv rows
  tale : Tale rows H
  good : ∀ r ∈ rows, r.1 < 7 ∧ ¬ (r.2.1 = none ∧ r.2.2 = none)
  cr : ocr.data = .cell (some (.ref Rl))
  cs : ∃ x, ocs.data = .cell x
  ap : Off [K.Ad, K.Cr, K.Cs] rest
  tur : (Tl, W.listOf tv.toArray tc) ∈ rest
  left : rows.length + i = n
  m1 : m (Str.ofString "refs") = some (.ref K.R)
  m4 : m (Str.ofString "turns") = some (.ref Tl)
inductive JUndo (w : World) (K : Ks) (Tl : Addr) (tv : List Value) (tc n : Nat) (i : Nat) (m : Str → Option Value) (nx : List (Addr × Obj)) : Prop
  | mk : ∀ H rows o kvs rv rc Rl ocr ocs rest, nx = (K.Ad, o) :: (K.Cr, ocr) :: (K.Cs, ocs) :: rest → UndoS w K Tl tv tc n i H rows o kvs rv rc Rl ocr ocs rest m → JUndo w K Tl tv tc n i m nx
theorem undo_news {h₀ h : Heap} {L Ad Hl Rl Cr Cs Sl Ds Dr Ed Kd : Addr} {o ho ro ocr ocs so oc1 x1 x2 x3 x4 : Obj} {q : Addr × Obj} {rest frest : List (Addr × Obj)} (N : PyProof.Rows.News h₀ L h ((Ds, x1) :: (Dr, x2) :: (Cs, oc1) :: (Ed, x3) :: (Kd, x4) :: besides Cs (q :: frest)))
    (ap : Off [Ad, Hl, Rl, Cr, Cs, Sl] rest) (hsub : ∀ p ∈ (Ad, o) :: (Hl, ho) :: (Rl, ro) :: (Cr, ocr) :: (Cs, ocs) :: (Sl, so) :: rest, p ∈ frest) : PyProof.Rows.News h₀ L h ((Ad, o) :: (Cr, ocr) :: (Cs, oc1) :: (Rl, ro) :: rest) := cb_drop N fun p hp => by
  have nd := ap.nd
  simp only [List.nodup_cons, List.mem_cons, List.not_mem_nil, or_false, not_or] at nd
  obtain ⟨⟨_, _, _, n1, _⟩, _, ⟨_, n2, _⟩, ⟨n3, _⟩, _⟩ := nd
  have key : ∀ p, p ∈ frest → p.1 ≠ Cs → p ∈ (Ds, x1) :: (Dr, x2) :: (Cs, oc1) :: (Ed, x3) :: (Kd, x4) :: besides Cs (q :: frest) := fun p h1 h2 => .tail _ (.tail _ (.tail _ (.tail _ (.tail _ (mem_besides.mpr ⟨.tail _ h1, h2⟩)))))
  rcases List.mem_cons.mp hp with e | hp
  · subst e; exact key _ (hsub _ (.head _)) n1
  · rcases List.mem_cons.mp hp with e | hp
    · subst e; exact key _ (hsub _ (.tail _ (.tail _ (.tail _ (.head _))))) n3
    · rcases List.mem_cons.mp hp with e | hp
      · subst e; exact .tail _ (.tail _ (.head _))
      · rcases List.mem_cons.mp hp with e | hp
        · subst e; exact key _ (hsub _ (.tail _ (.tail _ (.head _)))) n2
        · exact key _ (hsub _ (.tail _ (.tail _ (.tail _ (.tail _ (.tail _ (.tail _ hp))))))) fun e => ap.off _ hp (e ▸ .tail _ (.tail _ (.tail _ (.tail _ (.head _)))))
theorem undo_off {Ad Hl Rl Cr Cs Sl : Addr} {ro : Obj} {rest : List (Addr × Obj)} (ap : Off [Ad, Hl, Rl, Cr, Cs, Sl] rest) : Off [Ad, Cr, Cs] ((Rl, ro) :: rest) := by
  have nd := ap.nd
  simp only [List.nodup_cons, List.mem_cons, List.not_mem_nil, or_false, not_or] at nd
  obtain ⟨⟨_, a2, a3, a4, _⟩, ⟨_, _, _, _⟩, ⟨b1, b2, _⟩, ⟨c1, _⟩, _⟩ := nd
  refine ⟨by simp [a3, a4, c1], fun p hp hm => ?_⟩
  simp only [List.mem_cons, List.not_mem_nil, or_false] at hm
  rcases List.mem_cons.mp hp with e | hp
  · subst e
    rcases hm with e | e | e
    · exact a2 e.symm
    · exact b1 e
    · exact b2 e
  · rcases hm with e | e | e
    · exact ap.off _ hp (e ▸ .head _)
    · exact ap.off _ hp (e ▸ .tail _ (.tail _ (.tail _ (.head _))))
    · exact ap.off _ hp (e ▸ .tail _ (.tail _ (.tail _ (.tail _ (.head _)))))
theorem undo_at {w : World} {R Dd Ad P Hl Cr Cs Rl Tl : Addr} {i1 i2 : Int} {t1 t2 : Tok} {i n tc rc : Nat} {tv rv : List Value} {H : Nat → Cell} {rows : List Row} {o ocr ocs : Obj} {kvs : List (List UInt8 × Value)} {rest : List (Addr × Obj)} {m' : Str → Option Value} {cx : Option Value}
    (hR : (R, instObj 304 Dd) ∈ rest) (hD : (Dd, dictOf [⟨i1, .str (Str.ofString "_refs") t1, .ref Ad⟩, ⟨i2, .str (Str.ofString "_peeled") t2, .ref P⟩] 2) ∈ rest) (hRl : (Rl, W.listOf rv.toArray rc) ∈ rest) (hO : o.IsDictOf (bytesKind PG w) kvs) (RK : RefsKV kvs H)
    (hRV : RowsV rest rv rows) (tale : Tale rows H) (good : ∀ r ∈ rows, r.1 < 7 ∧ ¬ (r.2.1 = none ∧ r.2.2 = none)) (hcr : ocr.data = .cell (some (.ref Rl))) (hcs : ocs.data = .cell cx) (ap : Off [Ad, Cr, Cs] rest) (tur : (Tl, W.listOf tv.toArray tc) ∈ rest) (left : rows.length + i = n)
    (m1 : m' (Str.ofString "refs") = some (.ref R)) (m4 : m' (Str.ofString "turns") = some (.ref Tl)) :
    JUndo w ⟨R, Dd, Ad, P, Hl, Cr, Cs, i1, i2, t1, t2⟩ Tl tv tc n i m' ((Ad, o) :: (Cr, ocr) :: (Cs, ocs) :: rest) :=
  ⟨H, rows, o, kvs, rv, rc, Rl, ocr, ocs, rest, rfl, ⟨hR, hD, hRl, hO, RK, hRV, tale, good, hcr, ⟨_, hcs⟩, ap, tur, left, m1, m4⟩⟩
theorem str_eq_deed {M : Program} {w : World} {A : Around} {E : Value → Shared → Prop} {s : Shared} {x y : Str} {t u : Tok} {Q : Value → Shared → Prop} (hn : (x.cps.toList == y.cps.toList) = false) (h : Q (.bool false) s) :
    wpAny (model M w) A (compareOp .Eq (.str x t) (.str y u)) Q E s := PySem.P.eq_str (by rw [hn]; exact h)
theorem deed_ne {H : Nat → Cell} {sp : Nat} {sc : Cell} {calm turned : Bool} {deed : String} {spot : Nat} {oldv duev : Value} {cell : Cell} (h : DueOk H sp sc calm deed spot oldv cell duev turned) (hn : ¬ deed = "point") :
    ((Str.ofString deed).cps.toList == (Str.ofString "point").cps.toList) = false := by
  cases h <;> first | exact absurd rfl hn | kernel_rfl
theorem isnot_none_cell {prog : Program} {w : World} {A : Around} {E : Value → Shared → Prop} {s : Shared} {Q : Value → Shared → Prop} {c : Cell} {v : Value} {r : Bool} (hv : CellV c v) (hr : c.isSome = r) (h : Q (.bool r) s) : wpAny (model prog w) A (compareOp .IsNot v .none) Q E s := by
  subst hr
  match c, hv with
  | none, hv => rw [show v = .none from hv]; exact wpAny_pure h
  | some (.inl j), hv => obtain ⟨t, rfl⟩ := hv; exact wpAny_pure h
  | some (.inr j), hv => obtain ⟨t, rfl⟩ := hv; exact wpAny_pure h
theorem Off.swap {as : List Addr} {rest : List (Addr × Obj)} {p q : Addr × Obj} (h : Off as (p :: q :: rest)) : Off as (q :: p :: rest) :=
  ⟨h.nd, fun x hx => h.off x (by
    rcases List.mem_cons.mp hx with e | hx
    · exact e ▸ .tail _ (.head _)
    · rcases List.mem_cons.mp hx with e | hx
      · exact e ▸ .head _
      · exact .tail _ (.tail _ hx))⟩
theorem off_T {I T : Addr} {ob : Obj} {rest : List (Addr × Obj)} (off : ∀ p ∈ rest, p.1 ≠ I) (hT : T ≠ I) : ∀ p ∈ (T, ob) :: rest, p.1 ≠ I := fun p hp => by
  rcases List.mem_cons.mp hp with e | hp
  · rw [e]; exact hT
  · exact off p hp
theorem led7_swap {h₀ h : Heap} {L : Addr} {a b c d e f t x : Addr × Obj} {rest : List (Addr × Obj)} (N : PyProof.Rows.News h₀ L h (a :: b :: c :: d :: e :: f :: t :: x :: rest)) : PyProof.Rows.News h₀ L h (a :: b :: c :: d :: e :: f :: x :: t :: rest) := cb_drop N (pick_of [0, 1, 2, 3, 4, 5, 7, 6] 8 rfl)
theorem off_it0 {as : List Addr} {named rest : List (Addr × Obj)} {I : Addr} {it : Obj} (ha : as = named.map (·.1)) (ap : Off as ((I, it) :: rest)) (off : ∀ p ∈ rest, p.1 ≠ I) : ∀ p ∈ named ++ rest, p.1 ≠ I := fun p hp e => by
  rcases List.mem_append.mp hp with hp | hp
  · exact ap.off (I, it) (.head _) (ha ▸ e ▸ List.mem_map.mpr ⟨p, hp, rfl⟩)
  · exact off p hp e
def JSpot (w : World) (Cs Ed Kd I : Addr) (oc ok it : Obj) (base : List (Addr × Obj)) (g : Nat → Option (List UInt8)) (m₀ m : Str → Option Value) (nx : List (Addr × Obj)) : Prop :=
  m = m₀ ∧ ∃ oe ke, nx = (Cs, oc) :: (Ed, oe) :: (Kd, ok) :: (I, it) :: base ∧ oe.IsDictOf (bytesKind PG w) ke ∧ KVB ke g
theorem spot_join {w : World} {M : Model} {A : Around} {E : Value → Shared → Prop} {s : Shared} {c : Sem Flow} {Q : Flow → Shared → Prop} {h₀ : Heap} {L Cs Ed Kd I : Addr} {oc oe ok it : Obj} {base : List (Addr × Obj)} {m : Str → Option Value} {ke : List (List UInt8 × Value)} {f : Nat → Option (List UInt8)} {i : Nat}
    (F : Fr h₀ L s.heap m) (N : News h₀ L s.heap ((Cs, oc) :: (Ed, oe) :: (Kd, ok) :: (I, it) :: base)) (_e : oe.IsDictOf (bytesKind PG w) ke) (_k : KVB ke (upto i f))
    (h : wpAny M A c (SetJ h₀ L (JSpot w Cs Ed Kd I oc ok it base (upto (i + 1) f) m) s) E s)
    (hq : ∀ h' tk oe' ke', Fr h₀ L h' m → News h₀ L h' ((Cs, oc) :: (Ed, oe') :: (Kd, ok) :: (I, it) :: base) → oe'.IsDictOf (bytesKind PG w) ke' → KVB ke' (upto (i + 1) f) → Q .next { s with heap := h', toks := tk }) : wpAny M A c Q E s :=
  set_join F h fun h' tk m' nx F' N' ⟨em, oe', ke', en, a, b⟩ => by subst em; subst en; exact hq h' tk oe' ke' F' N' a b
theorem ends_of {H : Nat → Cell} {i : Nat} {ks : List Nat} {c : Cell} (h : fol H 5 i = some (ks, c)) : endsH H i = c := by
  unfold endsH
  rw [h]
  rcases fol_end h with rfl | ⟨v, rfl⟩ <;> rfl
theorem ends_none {H : Nat → Cell} {i : Nat} (h : fol H 5 i = none) : endsH H i = none := by
  unfold endsH
  rw [h]
theorem spot_set {h₀ h : Heap} {L Cs Ed Kd I : Addr} {oc oe oe' ok it : Obj} {base : List (Addr × Obj)} (ap : Off [Cs, Ed, Kd] base) (hI : I ≠ Ed)
    (N : ∀ want : List (Addr × Obj), (∀ p ∈ want, p ∈ (Cs, oc) :: (Ed, oe) :: (Kd, ok) :: (I, it) :: base ∧ p.1 ≠ Ed) → PyProof.Rows.News h₀ L h ((Ed, oe') :: want)) :
    PyProof.Rows.News h₀ L h ((Cs, oc) :: (Ed, oe') :: (Kd, ok) :: (I, it) :: base) := by
  have nd := ap.nd
  simp only [List.nodup_cons, List.mem_cons, List.not_mem_nil, or_false, not_or] at nd
  have z := N ((Cs, oc) :: (Kd, ok) :: (I, it) :: base) fun p hp => by
    rcases List.mem_cons.mp hp with e | hp
    · subst e; exact ⟨.head _, nd.1.1⟩
    · rcases List.mem_cons.mp hp with e | hp
      · subst e; exact ⟨.tail _ (.tail _ (.head _)), fun e => nd.2.1 e.symm⟩
      · rcases List.mem_cons.mp hp with e | hp
        · subst e; exact ⟨.tail _ (.tail _ (.tail _ (.head _))), hI⟩
        · exact ⟨.tail _ (.tail _ (.tail _ (.tail _ hp))), fun e => ap.off _ hp (e ▸ .tail _ (.head _))⟩
  exact cb_drop z (pick_of [1, 0, 2] 3 rfl)
theorem spot_set2 {h₀ h : Heap} {L Cs Ed Kd I : Addr} {oc oe ok' ok it : Obj} {base : List (Addr × Obj)} (ap : Off [Cs, Ed, Kd] base) (hI : I ≠ Kd)
    (N : ∀ want : List (Addr × Obj), (∀ p ∈ want, p ∈ (Cs, oc) :: (Ed, oe) :: (Kd, ok) :: (I, it) :: base ∧ p.1 ≠ Kd) → PyProof.Rows.News h₀ L h ((Kd, ok') :: want)) :
    PyProof.Rows.News h₀ L h ((Cs, oc) :: (Ed, oe) :: (Kd, ok') :: (I, it) :: base) := by
  have nd := ap.nd
  simp only [List.nodup_cons, List.mem_cons, List.not_mem_nil, or_false, not_or] at nd
  have z := N ((Cs, oc) :: (Ed, oe) :: (I, it) :: base) fun p hp => by
    rcases List.mem_cons.mp hp with e | hp
    · subst e; exact ⟨.head _, nd.1.2⟩
    · rcases List.mem_cons.mp hp with e | hp
      · subst e; exact ⟨.tail _ (.head _), nd.2.1⟩
      · rcases List.mem_cons.mp hp with e | hp
        · subst e; exact ⟨.tail _ (.tail _ (.tail _ (.head _))), hI⟩
        · exact ⟨.tail _ (.tail _ (.tail _ (.tail _ hp))), fun e => ap.off _ hp (e ▸ .tail _ (.tail _ (.head _)))⟩
  exact cb_drop z (pick_of [1, 2, 0] 3 rfl)
theorem spot_out {h₀ h : Heap} {L : Addr} {a b c d : Addr × Obj} {base : List (Addr × Obj)} (N : PyProof.Rows.News h₀ L h (a :: b :: c :: d :: base)) : PyProof.Rows.News h₀ L h (d :: a :: b :: c :: base) := cb_drop N fun p hp => by
  simp only [List.mem_cons] at hp ⊢
  rcases hp with h | h | h | h | h <;> simp only [h, true_or, or_true]
theorem spot_off {Cs Ed Kd I : Addr} {o1 o2 o3 o4 o5 o6 : Obj} {base : List (Addr × Obj)} (off : ∀ p ∈ (Cs, o1) :: (Ed, o2) :: (Kd, o3) :: base, p.1 ≠ I) : ∀ p ∈ (Cs, o4) :: (Ed, o5) :: (Kd, o6) :: base, p.1 ≠ I := fun p hp => by
  rcases List.mem_cons.mp hp with e | hp
  · subst e; exact off (Cs, o1) (.head _)
  · rcases List.mem_cons.mp hp with e | hp
    · subst e; exact off (Ed, o2) (.tail _ (.head _))
    · rcases List.mem_cons.mp hp with e | hp
      · subst e; exact off (Kd, o3) (.tail _ (.tail _ (.head _)))
      · exact off p (.tail _ (.tail _ (.tail _ hp)))
theorem upto_all {α : Type} {f : Nat → Option α} : ∀ i, i < 7 → f i = upto 7 f i := fun i hi => by simp [upto, hi]
theorem turns_size {tv : List Value} (_h : TurnsV tv) : tv.toArray.size = tv.length := by simp
theorem undo_spot {h₀ h : Heap} {L Ad Cr Cs I : Addr} {o ocr ocs it oc : Obj} {rest : List (Addr × Obj)} (ap : Off [Ad, Cr, Cs] rest) (off : ∀ p ∈ (Ad, o) :: (Cr, ocr) :: (Cs, ocs) :: rest, p.1 ≠ I)
    (N : ∀ want : List (Addr × Obj), (∀ p ∈ want, p ∈ (I, it) :: (Ad, o) :: (Cr, ocr) :: (Cs, ocs) :: rest ∧ p.1 ≠ Cs) → PyProof.Rows.News h₀ L h ((Cs, oc) :: want)) :
    PyProof.Rows.News h₀ L h ((Ad, o) :: (Cr, ocr) :: (Cs, oc) :: (I, it) :: rest) := by
  have nd := ap.nd
  simp only [List.nodup_cons, List.mem_cons, List.not_mem_nil, or_false, not_or] at nd
  have z := N ((Ad, o) :: (Cr, ocr) :: (I, it) :: rest) fun p hp => by
    rcases List.mem_cons.mp hp with e | hp
    · subst e; exact ⟨.tail _ (.head _), nd.1.2⟩
    · rcases List.mem_cons.mp hp with e | hp
      · subst e; exact ⟨.tail _ (.tail _ (.head _)), nd.2.1⟩
      · rcases List.mem_cons.mp hp with e | hp
        · subst e; exact ⟨.head _, fun e => off _ (.tail _ (.tail _ (.head _))) e.symm⟩
        · exact ⟨.tail _ (.tail _ (.tail _ (.tail _ hp))), fun e => ap.off _ hp (e ▸ .tail _ (.tail _ (.head _)))⟩
  exact cb_drop z fun p hp => by
    simp only [List.mem_cons] at hp ⊢
    rcases hp with h | h | h | h | h <;> simp only [h, true_or, or_true]
def hits (rows : List Row) (sp i : Nat) : List Int := ((List.range i).filter fun k => decide ((rows[k]?.map (·.1)) = some sp)).map Int.ofNat
theorem hits_hit {rows : List Row} {sp i : Nat} {r : Row} (h : rows[i]? = some r) (e : r.1 = sp) : hits rows sp (i + 1) = hits rows sp i ++ [(i : Int)] := by
  unfold hits
  rw [List.range_succ, List.filter_append, List.map_append]
  simp [h, e]
theorem hits_miss {rows : List Row} {sp i : Nat} {r : Row} (h : rows[i]? = some r) (e : ¬ r.1 = sp) : hits rows sp (i + 1) = hits rows sp i := by
  unfold hits
  rw [List.range_succ, List.filter_append, List.map_append]
  simp [h, e]
theorem hits_mem {rows : List Row} {sp i : Nat} {z : Int} : z ∈ hits rows sp i ↔ ∃ k : Nat, z = (k : Int) ∧ k < i ∧ ∃ r, rows[k]? = some r ∧ r.1 = sp := by
  unfold hits
  simp only [List.mem_map, List.mem_filter, List.mem_range, decide_eq_true_eq]
  constructor
  · rintro ⟨k, ⟨h1, h2⟩, rfl⟩
    cases e : rows[k]? with
    | none => rw [e] at h2; cases h2
    | some r => rw [e] at h2; exact ⟨k, rfl, h1, r, e, Option.some.inj h2⟩
  · rintro ⟨k, rfl, h1, r, h2, h3⟩
    exact ⟨k, ⟨h1, by rw [h2]; exact congrArg some h3⟩, rfl⟩
theorem undo_rest {Ad Cr Cs I : Addr} {o ocr ocs oc2 it : Obj} {rest : List (Addr × Obj)} (ap : Off [Ad, Cr, Cs] rest) (off : ∀ p ∈ (Ad, o) :: (Cr, ocr) :: (Cs, ocs) :: rest, p.1 ≠ I) : ∀ p ∈ (Cr, ocr) :: (Cs, oc2) :: (I, it) :: rest, p.1 ≠ Ad := fun p hp => by
  have nd := ap.nd
  simp only [List.nodup_cons, List.mem_cons, List.not_mem_nil, or_false, not_or] at nd
  rcases List.mem_cons.mp hp with e | hp
  · subst e; exact fun e => nd.1.1 e.symm
  · rcases List.mem_cons.mp hp with e | hp
    · subst e; exact fun e => nd.1.2 e.symm
    · rcases List.mem_cons.mp hp with e | hp
      · subst e; exact fun e => off _ (.head _) e.symm
      · exact fun e => ap.off _ hp (e ▸ .head _)
theorem undo_drop (rv : List Value) (k : Nat) : kms_pick rv.toArray.toList (some (k : Int)) none = rv.drop k := by
  unfold kms_pick kms_lo kms_hi
  have n1 : ¬ ((k : Int) < 0) := by omega
  simp only [if_neg n1, Int.toNat_natCast]
  rw [List.take_of_length_le (by simp)]
  by_cases z : k ≤ rv.length
  · rw [Nat.min_eq_left z]
  · have z1 : rv.length ≤ k := by omega
    rw [Nat.min_eq_right z1, List.drop_eq_nil_of_le (Nat.le_refl _), List.drop_eq_nil_of_le z1]
theorem undo_take (rv : List Value) (k : Nat) : kms_pick rv.toArray.toList none (some (k : Int)) = rv.take k := by
  unfold kms_pick kms_lo kms_hi
  have n1 : ¬ ((k : Int) < 0) := by omega
  simp only [if_neg n1, Int.toNat_natCast, List.drop_zero, Nat.sub_zero]
  by_cases z : k ≤ rv.length
  · rw [Nat.min_eq_left z]
  · have z1 : rv.length ≤ k := by omega
    rw [Nat.min_eq_right z1, List.take_of_length_le (Nat.le_refl _), List.take_of_length_le z1]
theorem undo_rows {h₀ h : Heap} {L Ad Cr Cs I D : Addr} {o ocr ocs it oc x1 : Obj} {mid : List (Addr × Obj)} {rest : List (Addr × Obj)} (ap : Off [Ad, Cr, Cs] rest) (hI : I ≠ Cr) (hD : D ≠ Cr) (hm : ∀ p ∈ (D, x1) :: (Ad, o) :: (Cs, ocs) :: (I, it) :: rest, p ∈ mid)
    (N : ∀ want : List (Addr × Obj), (∀ p ∈ want, p ∈ mid ∧ p.1 ≠ Cr) → PyProof.Rows.News h₀ L h ((Cr, oc) :: want)) :
    PyProof.Rows.News h₀ L h ((I, it) :: (Ad, o) :: (Cr, oc) :: (Cs, ocs) :: (D, x1) :: rest) := by
  have nd := ap.nd
  simp only [List.nodup_cons, List.mem_cons, List.not_mem_nil, or_false, not_or] at nd
  have z := N ((D, x1) :: (Ad, o) :: (Cs, ocs) :: (I, it) :: rest) fun p hp => by
    refine ⟨hm p hp, ?_⟩
    rcases List.mem_cons.mp hp with e | hp
    · subst e; exact hD
    · rcases List.mem_cons.mp hp with e | hp
      · subst e; exact nd.1.1
      · rcases List.mem_cons.mp hp with e | hp
        · subst e; exact fun e => nd.2.1 e.symm
        · rcases List.mem_cons.mp hp with e | hp
          · subst e; exact hI
          · exact fun e => ap.off _ hp (e ▸ .tail _ (.head _))
  exact cb_drop z fun p hp => by
    simp only [List.mem_cons] at hp ⊢
    rcases hp with h | h | h | h | h | h <;> simp only [h, true_or, or_true]
theorem undo_new_off {h₀ h : Heap} {L Ad Cr Cs D : Addr} {o ocr ocs : Obj} {vs : List Value} {n : Nat} {x y : Option Value} {all rest : List (Addr × Obj)} (N : PyProof.Rows.News h₀ L h all) (mD : (D, W.listOf vs.toArray n) ∈ all) (mA : (Ad, o) ∈ all) (mR : (Cr, ocr) ∈ all) (mS : (Cs, ocs) ∈ all)
    (hO : o.cls = .type "dict") (hr : ocr.data = .cell x) (hs : ocs.data = .cell y) (ap : Off [Ad, Cr, Cs] rest) : Off [Ad, Cr, Cs] ((D, W.listOf vs.toArray n) :: rest) := ap.cons fun hm => by
  simp only [List.mem_cons, List.not_mem_nil, or_false] at hm
  rcases hm with e | e | e
  · exact news_apart N mD mA (by rw [show (Ad, o).2.cls = _ from hO]; exact type_ne (by decide)) e
  · exact news_ne N mD mR (data_ne (by rw [show (Cr, ocr).2.data = _ from hr]; exact fun z => nomatch z)) e
  · exact news_ne N mD mS (data_ne (by rw [show (Cs, ocs).2.data = _ from hs]; exact fun z => nomatch z)) e
theorem undo_it {Ad Cr Cs I D : Addr} {o ocr ocs o' ocr' ocs' x : Obj} {rest : List (Addr × Obj)} (off : ∀ p ∈ (Ad, o) :: (Cr, ocr) :: (Cs, ocs) :: rest, p.1 ≠ I) (hD : D ≠ I) : ∀ p ∈ (Ad, o') :: (Cr, ocr') :: (Cs, ocs') :: (D, x) :: rest, p.1 ≠ I := fun p hp => by
  rcases List.mem_cons.mp hp with e | hp
  · subst e; exact off (Ad, o) (.head _)
  · rcases List.mem_cons.mp hp with e | hp
    · subst e; exact off (Cr, ocr) (.tail _ (.head _))
    · rcases List.mem_cons.mp hp with e | hp
      · subst e; exact off (Cs, ocs) (.tail _ (.tail _ (.head _)))
      · rcases List.mem_cons.mp hp with e | hp
        · subst e; exact hD
        · exact off p (.tail _ (.tail _ (.tail _ hp)))
theorem good_cut {rows : List Row} {k : Nat} (good : ∀ r ∈ rows, r.1 < 7 ∧ ¬ (r.2.1 = none ∧ r.2.2 = none)) : ∀ r ∈ rows.take k ++ rows.drop (k + 1), r.1 < 7 ∧ ¬ (r.2.1 = none ∧ r.2.2 = none) := fun r hr => by
  rcases List.mem_append.mp hr with h | h
  · exact good r (List.mem_of_mem_take h)
  · exact good r (List.mem_of_mem_drop h)
theorem kvs_empty {kvs : List (List UInt8 × Value)} {H : Nat → Cell} (R : RefsKV kvs H) (h : ∀ i, i < 7 → H i = none) : kvs = [] := by
  cases kvs with
  | nil => rfl
  | cons kv r =>
    obtain ⟨i, hi, _, hne, _⟩ := R.sound kv (.head _)
    exact absurd (h i hi) hne
theorem es_empty {w : World} {es : Array (Int × Value)} (h : EsOf w es []) : es = #[] := Array.eq_empty_of_size_eq_zero (by simpa using h.2.2)
def st_law := fun (hh_g1 : Lock _) => (hd (by
    have zF10 := U 10; have zF2 := U 2; have zF3 := U 3; have zF16 := U 16; have zF8 := U 8; have zF48 := U 48; have zF63 := U 63
    have zF64 := U 64
    k_go0
    all_goals (try k_fold)
    have fl := Flag.up 1
    k_steps
    unfold MStop
    refine int_join (fun n => n < 20580) (by k_asm) (by k_asm) ?k1_za ?k1_zb
    case k1_za =>
      refine IfExp_ ?_
      k_steps
      · obtain ⟨n, hn, en⟩ := num_at (List.take 5 ‹List Int›) (0 : Int).toNat
        rw [en]
        exact ⟨n, _, _, _, rfl, hn, rfl, by k_asm, by k_asm⟩
      · exact ⟨0, _, _, _, rfl, by decide, rfl, by k_asm, by k_asm⟩
    case k1_zb =>
      intro n tn h1 tk1 hn F1 N1
      (try k_sweep)
      k_steps
      unfold MStop
      repeat (rename Flg _ => flq; clear flq)
      rename_i z1 z2 z3 z4 z5 _ _ z8 z9 za zb _ _ _ _ _ _ _ _ _ _ zm zn _ zp zq _ zs _ zu _ zw zx zy zz z10 z11 z12 _ _ _ _ _ _ _ _ _ z1c z1d z1e z1f _ _ _ _ _ z1l z1m z1n _ _ _ _ _ _ z1u _ _ z1x z1y z1z _ z21 z22 _ z24 z25 z26 _ _ z29 _ z2b _ z2d z2e z2f _ _ _ _ z2k z2l z2m _ _ _ _ _ _ _ _ z2v z2w z2x z2y z2z _ _ z32 _ z34 _ z36 _ _ _ _ z3b z3c _ z3e z3f _ z3h z3i _ z3k z3l _ z3n z3o z3p _ z3r z3s _ z3u z3v _ z3x z3y z3z z40 z41 z42 z43 z44 z45 z46 _ z48 z49 z4a z4b z4c _ _ _ _
      revert z1 z2 z3 z4 z5 z8 z9 za zb zm zn zp zq zs zu zw zx zy zz z10 z11 z12 z1c z1d z1e z1f z1l z1m z1n z1u ys z1x z1y z1z n tn h1 tk1 z21 z22 z24 z25 z26 z29 z2b z2d z2e z2f z2k z2l z2m z2v z2w tkq z2x z2y z2z z32 z34 z36 z3b z3c z3e z3f z3h z3i z3k z3l z3n z3o z3p z3r z3s z3u z3v z3x z3y z3z z40 z41 z42 D'w z43 z44 z45 z46 h'w tkqw t'w k'w z48 z49 z4a z4b z4c
      exact Lock.out hh_g1) : PySem.Challenge.rw_ai0010_01.Holds)
def st_g1 := fun (hh_g2 : Lock _) (hh_g3 : Lock _) => (by
    intro _ _ _ _ _ _ _ _ _ _ _ _ _ _ _ _ _ _ _ _ _ _ _ _ _ _ _ _ _ _ _ _ _ _ _ _ _ _ _ _ _ _ _ _ _ _ _ _ _ _ _ _ _ _ qk ek _ _ _ _ _ _ _ _ _ _ ys _ _ _ _ _ _ n tn h1 tk1 hn h'w tkqw mqw _ _ _ _ _ _ _ _ _ _ _ _ _ _ _ _ _ _ _ _ _ _ lifted lifted lifted lifted qk ek tkq _ tkq _ _ _ _ _ _ _ _ _ _ _ _ _ _ D'w h'w l1w _ _ _ D'w h'w l1w D'w h'w l1w _ h'w tkqw mqw h'w tkqw mqw _ _ _ t'w k'w t'w k'w t'w k'w D'w h'w l1w _ h'w tkqw mqw h'w tkqw mqw qk ek t'w k'w _ _ _ _ _ _ _ _ _
    have zF10 := U 10; have zF2 := U 2; have zF3 := U 3; have zF16 := U 16; have zF8 := U 8; have zF48 := U 48; have zF63 := U 63
    k_unmd
    k_fold
    have hn1 : n / 7 % 8 < 8 := Nat.mod_lt _ (by decide)
    have hn2 : n % 7 < 7 := Nat.mod_lt _ (by decide)
    refine' loop_range (n := n / 7 % 8) (J := JRing _ ?k2_K (n % 7) (n / 7 % 8) n ?k2_Nl ?k2_yv ?k2_nc) rfl (by assumption) (small_one (by omega) (by omega) (by omega) (by omega)) (range_one (by omega)) (by k_asm) (ring_news (by k_asm)) ?k2_zj ?k2_zt ?k2_zd
    case k2_zj =>
      refine ring_start (ring_news (by k_asm)) (isDict_nil (by assumption)) (by assumption) ⟨_, by assumption⟩ (by k_ne) ⟨by k_ne, by k_ne⟩ ?_ ?_ ?_ ?_ ?_ ?_
      all_goals first | exact rfl | exact ⟨_, rfl⟩
    case k2_zt =>
      repeat (rename Flg _ => flq; clear flq)
      rename_i z1 z2 z3 z4 z5 _ _ z8 z9 za zb _ _ _ _ _ _ _ _ _ _ zm zn _ zp zq _ zs _ zu _ zw zx zy zz z10 z11 z12 _ _ _ _ _ _ _ _ _ z1c z1d z1e z1f _ _ _ _ _ z1l z1m z1n _ _ _ _ _ _ z1u _ _ z1x z1y z1z _ z21 z22 _ z24 z25 z26 _ _ z29 _ z2b _ z2d z2e z2f _ _ _ _ z2k z2l z2m _ _ _ _ _ _ _ _ z2v z2w z2x z2y z2z _ _ z32 _ z34 _ z36 _ _ _ _ z3b z3c _ z3e z3f _ z3h z3i _ z3k z3l _ z3n z3o z3p _ z3r z3s _ z3u z3v _ z3x z3y z3z z40 z41 z42 z43 z44 z45 z46 _ _ _ z4a z4b z4c z4d z4e _ _ _ _
      revert z1 z2 z3 z4 z5 z8 z9 za zb zm zn zp zq zs zu zw zx zy zz z10 z11 z12 z1c z1d z1e z1f z1l z1m z1n z1u ys z1x z1y z1z n tn h1 tk1 z21 z22 z24 z25 z26 z29 z2b z2d z2e z2f z2k z2l z2m z2v z2w tkq z2x z2y z2z z32 z34 z36 z3b z3c z3e z3f z3h z3i z3k z3l z3n z3o z3p z3r z3s z3u z3v z3x z3y z3z z40 z41 z42 D'w z43 z44 z45 z46 h'w tkqw t'w k'w z4a z4b z4c z4d z4e
      exact Lock.out hh_g2
    case k2_zd =>
      repeat (rename Flg _ => flq; clear flq)
      rename_i z1 z2 z3 z4 z5 _ _ z8 z9 za zb _ _ _ _ _ _ _ _ _ _ zm zn _ zp zq _ zs _ zu _ zw zx zy zz z10 z11 z12 _ _ _ _ _ _ _ _ _ z1c z1d z1e z1f _ _ _ _ _ z1l z1m z1n _ _ _ _ _ _ z1u _ _ z1x z1y z1z _ z21 z22 _ z24 z25 z26 _ _ z29 _ z2b _ z2d z2e z2f _ _ _ _ z2k z2l z2m _ _ _ _ _ _ _ _ z2v z2w z2x z2y z2z _ _ z32 _ z34 _ z36 _ _ _ _ z3b z3c _ z3e z3f _ z3h z3i _ z3k z3l _ z3n z3o z3p _ z3r z3s _ z3u z3v _ z3x z3y z3z z40 z41 z42 z43 z44 z45 z46 _ _ _ z4a z4b z4c z4d z4e _ _ _ _
      revert z1 z2 z3 z4 z5 z8 z9 za zb zm zn zp zq zs zu zw zx zy zz z10 z11 z12 z1c z1d z1e z1f z1l z1m z1n z1u ys z1x z1y z1z n tn h1 tk1 z21 z22 z24 z25 z26 z29 z2b z2d z2e z2f z2k z2l z2m z2v z2w tkq z2x z2y z2z z32 z34 z36 z3b z3c z3e z3f z3h z3i z3k z3l z3n z3o z3p z3r z3s z3u z3v z3x z3y z3z z40 z41 z42 D'w z43 z44 z45 z46 h'w tkqw t'w k'w z4a z4b z4c z4d z4e
      exact Lock.out hh_g3 : Dom11 st_law)
theorem st_g2 : Dom21 st_g1 := by
    refine Kf ?_
    simp (disch := (refine @id _ ?_; k_dflt (
     intro _ _ _ _ _ _ _ _ _ _ _ _ _ _ _ _ _ _ _ _ _ _ _ _ _ _ _ _ _ _ _ _ _ _ _ _ _ _ _ _ _ _ _ _ _ _ _ _ _ _ _ _ _ _ qk ek _ _ _ _ _ _ _ _ _ _ ys _ _ _ _ _ _ n tn h1 tk1 hn h'w tkqw mqw _ _ _ _ _ _ _ _ _ _ _ _ _ _ _ _ _ _ _ _ _ _ lifted lifted lifted lifted qk ek tkq _ tkq _ _ _ _ _ _ _ _ _ _ _ _ _ _ D'w h'w l1w _ _ _ D'w h'w l1w D'w h'w l1w _ h'w tkqw mqw h'w tkqw mqw _ _ _ t'w k'w t'w k'w t'w k'w D'w h'w l1w _ h'w tkqw mqw h'w tkqw mqw qk ek t'w k'w _ _ _ _ _ _ _ _ _ qk ek hn1 hn2
     have zF10 := U 10; have zF2 := U 2; have zF3 := U 3; have zF16 := U 16; have zF8 := U 8; have zF48 := U 48; have zF63 := U 63
     k_unmd
     rintro i I it t m₁ nx h tk hic hi ⟨H, rows, o, kvs, hv, hc, rv, rc, Rl, ocr, ocs, rest, rfl, ⟨⟨hR, hD, hO, RK, hHV, hRV, tale, good, hcr⟩, ⟨cx, hcs⟩, ap, num, few, hnone, m1, m2, m3, m4, m5, m6⟩⟩ off F₁ N₁
     dsimp only at hR hD hcr ap m1 m2 N₁
     rw [show ((n % 7 : Nat) : Int) + (i : Int) * 1 = ((n % 7 + i : Nat) : Int) from by omega] at F₁
     change PyProof.Rows.Fr _ (Array.size _) _ _ at F₁
     have N₂ := led5_in N₁
     change PyProof.Rows.News _ (Array.size _) _ _ at N₂
     clear N₁
     have ap1 := ap.cons (p := (I, it)) (fun hm => by
       have := off
       simp only [List.mem_cons, List.not_mem_nil, or_false] at hm
       rcases hm with e | e | e | e | e
       · exact off _ (.head _) e.symm
       · exact off _ (.tail _ (.head _)) e.symm
       · exact off _ (.tail _ (.tail _ (.head _))) e.symm
       · exact off _ (.tail _ (.tail _ (.tail _ (.head _)))) e.symm
       · exact off _ (.tail _ (.tail _ (.tail _ (.tail _ (.head _))))) e.symm)
     have hsp : (n % 7 + i) % 7 < 7 := Nat.mod_lt _ (by decide)
     have hce : (n % 7 + i + 1) % 7 < 7 := Nat.mod_lt _ (by decide)
     have hi7 : i < 7 := by omega
     have hH0 : H ((n % 7 + i) % 7) = none := hnone i (Nat.le_refl _) hi7
     have hcok : CellOk (some (.inl ((n % 7 + i + 1) % 7))) := hce
     k_steps
     unfold MStop
     k_dflt (refine' store_spot (more := []) (by k_asm) (by k_asm) ap1 rfl hcs ?_ rfl rfl)
     intro h2 ocs2 F2 N2 hcs2
     change PyProof.Rows.News _ _ _ ((_, _) :: (_, _) :: (_, _) :: (_, _) :: (_, _) :: (_, _) :: _) at N2
     (try k_sweep)
     k_steps
     unfold MStop
     k_dflt (refine' y_point ?k4_yB ?k4_yF ?k4_yX ?k4_yN ?k4_yT rfl rfl ?k4_yd ?k4_yu ?k4_yR ?k4_yD ?k4_yO ?k4_yS ?k4_yK ?k4_yr hsp hce ?k4_yA ?k4_yE)
     (case k4_yK => exact RK)
     (case k4_yO => exact hO)
     (case k4_yN => k_asm)
     (case k4_yB => k_asm)
     (case k4_yF => k_asm)
     (case k4_yX => k_asm)
     (case k4_yT => k_asm)
     (case k4_yd => k_room)
     (case k4_yu => k_units)
     (case k4_yR => exact .tail _ (.tail _ (.tail _ (.tail _ (.tail _ hR)))))
     (case k4_yD => exact .tail _ (.tail _ (.tail _ (.tail _ (.tail _ hD)))))
     (case k4_yS => assumption)
     (case k4_yr => exact off5 ap1)
     case k4_yE =>
       intro hfo
       rw [fol_none hH0] at hfo; cases hfo
     case k4_yA =>
       intro _ o3 kvs3 h3 tk3 hO3 RK3 F3 N3
       (try k_sweep)
       k_steps
       unfold MStop
       k_dflt (refine' append_row (more := []) (by k_asm) (by k_asm) ap1 ?k4_yz ?k4_yo ?k4_yh ⟨_, hcr⟩ ⟨_, hcs2⟩ (fun _ h => nomatch h) ?k4_ya)
       (case k4_yz => exact Nat.le_trans (Nat.le_of_eq hRV.len) (by omega))
       (case k4_yo => exact isDict_cls hO3)
       (case k4_yh => exact rfl)
       intro h4 F4 N4 ap2
       change PyProof.Rows.News _ _ _ ((_, _) :: (_, _) :: (_, _) :: (_, _) :: (_, _) :: (_, _) :: (_, _) :: _) at N4
       (try k_sweep)
       k_steps
       unfold MStop
       k_dflt (refine' set_held (more := []) (by k_asm) (by k_asm) ap2 hHV.1 hsp ?k4_yb)
       intro h5 F5 N5
       change PyProof.Rows.News _ _ _ ((_, _) :: (_, _) :: (_, _) :: (_, _) :: (_, _) :: (_, _) :: (_, _) :: _) at N5
       (try k_sweep)
       k_steps
       have hTI := news_apart N5 (a := (_, tup _)) (b := (I, it)) (.tail _ (.tail _ (.tail _ (.tail _ (.tail _ (.head _)))))) (.tail _ (.tail _ (.tail _ (.tail _ (.tail _ (.tail _ (.head _)))))))  (by rw [show (I, it).2.cls = _ from hic]; exact type_ne (by decide))
       refine ⟨_, _, _, _, rfl, F5, led5_outT N5, off_it (named := [(_, _), (_, _), (_, _), (_, _), (_, _)]) rfl ap2 (fun p hp => off p (.tail _ (.tail _ (.tail _ (.tail _ (.tail _ hp)))))) hTI, ?_⟩
       refine ring_step hR hD hO3 RK3 hHV hRV tale good hcr hcs2 num few hi7 hnone ap2 ?_ ?_ ?_ ?_ ?_ ?_
       · k_extra "M:look"
       · k_extra "M:look"
       · k_extra "M:look"
       · exact m4.elim fun t e => ⟨t, by k_dflt (exact e)⟩
       · exact m5.elim fun t e => ⟨t, by k_dflt (exact e)⟩
       · exact m6.elim fun t e => ⟨t, by k_dflt (exact e)⟩))) only [↓Kn]
def st_g3 := fun (hh_g4 : Lock _) => (by
    intro _ _ _ _ _ _ _ _ _ _ _ _ _ _ _ _ _ _ _ _ _ _ _ _ _ _ _ _ _ _ _ _ _ _ _ _ _ _ _ _ _ _ _ _ _ _ _ _ _ _ _ _ _ _ qk ek _ _ _ _ _ _ _ _ _ _ ys _ _ _ _ _ _ n tn h1 tk1 hn h'w tkqw mqw _ _ _ _ _ _ _ _ _ _ _ _ _ _ _ _ _ _ _ _ _ _ lifted lifted lifted lifted qk ek tkq _ tkq _ _ _ _ _ _ _ _ _ _ _ _ _ _ D'w h'w l1w _ _ _ D'w h'w l1w D'w h'w l1w _ h'w tkqw mqw h'w tkqw mqw _ _ _ t'w k'w t'w k'w t'w k'w D'w h'w l1w _ h'w tkqw mqw h'w tkqw mqw qk ek t'w k'w _ _ _ _ _ _ _ _ _ qk ek hn1 hn2
    have zF10 := U 10; have zF2 := U 2; have zF3 := U 3; have zF16 := U 16; have zF8 := U 8; have zF48 := U 48; have zF63 := U 63
    have zF65 := U 65
    k_unmd
    rintro m₁ nx h tk ⟨H, rows, o, kvs, hv, hc, rv, rc, Rl, ocr, ocs, rest, rfl, ⟨⟨hR, hD, hO, RK, hHV, hRV, tale, good, hcr⟩, ⟨cx, hcs⟩, ap, num, few, hnone, m1, m2, m3, ⟨t4, m4⟩, ⟨t5, m5⟩, ⟨t6, m6⟩⟩⟩ F₁ N₁
    dsimp only at hR hD hcr ap m1 m2 N₁
    change PyProof.Rows.Fr _ (Array.size _) _ _ at F₁
    change PyProof.Rows.News _ (Array.size _) _ _ at N₁
    have fl2 := Flag.up 2
    k_steps
    unfold MStop
    (rename Flg 65 => flq); clear flq
    have r7 : rows.length ≤ 7 := by omega
    have r8 : rows.length ≤ 8 := Nat.le_succ_of_le r7
    refine set_joinJ (ring_at (hc := hc) (rc := rc) hR hD hO RK hHV hRV tale good hcr hcs num (by omega) ap m1 m2 m3 ⟨_, m4⟩ ⟨_, m5⟩ ⟨_, m6⟩) (by k_asm) ?k6_yx ?k6_yy
    case k6_yx =>
      have hla : (n % 7 + n / 7 % 8) % 7 < 7 := Nat.mod_lt _ (by decide)
      obtain ⟨vl, hx, hcv⟩ := held_at hHV hla
      rcases Nat.mod_two_eq_zero_or_one (n / 56) with e56 | e56
      · have hV : (((n / 56 % 2 : Nat) : Int) == 1) = false := by rw [e56]; rfl
        k_steps
        exact ⟨rfl, _, _, _, _, rfl, by k_asm, by k_asm, ring_at hR hD hO RK hHV hRV tale good hcr hcs num (by omega) ap (by k_extra "M:look") (by k_extra "M:look") (by k_extra "M:look") ⟨_, by k_extra "M:look"⟩ ⟨_, by k_extra "M:look"⟩ ⟨_, by k_extra "M:look"⟩⟩
      · have hV : (((n / 56 % 2 : Nat) : Int) == 1) = true := by rw [e56]; rfl
        cases hHl : H ((n % 7 + n / 7 % 8) % 7) with
        | none =>
          rw [hHl] at hcv
          have hcv : vl = .none := hcv
          subst hcv
          k_steps
          unfold MStop
          k_dflt (refine' set_held (more := []) (by k_asm) (by k_asm) ap hHV.1 hla ?k6_yb)
          intro h2 F2 N2
          change PyProof.Rows.News _ _ _ ((_, _) :: (_, _) :: (_, _) :: (_, _) :: (_, _) :: _) at N2
          (try k_sweep)
          clear hx
          obtain ⟨vl2, hx, hcv2⟩ := held_at (hHV.store (c := some (.inr 1)) ⟨_, rfl⟩ hla) hla
          rw [setH, if_pos rfl] at hcv2
          obtain ⟨tb, rfl⟩ := hcv2
          k_steps
          unfold MStop
          k_dflt (refine' y_set ?k6_yB ?k6_yF ?k6_yX ?k6_yN ?k6_yT rfl rfl ?k6_yd ?k6_yu ?k6_yR ?k6_yD ?k6_yO ?k6_yS ?k6_yK ?k6_yr hla (by decide) ?k6_yA)
          (case k6_yK => exact RK)
          (case k6_yO => exact hO)
          (case k6_yN => k_asm)
          (case k6_yB => k_asm)
          (case k6_yF => k_asm)
          (case k6_yX => k_asm)
          (case k6_yT => k_asm)
          (case k6_yd => k_room)
          (case k6_yu => k_units)
          (case k6_yR => exact .tail _ (.tail _ (.tail _ (.tail _ hR))))
          (case k6_yD => exact .tail _ (.tail _ (.tail _ (.tail _ hD))))
          (case k6_yS => assumption)
          (case k6_yr => exact off5 ap)
          intro o3 kvs3 h3 tk3 hO3 RK3 F3 N3
          (try k_sweep)
          k_steps
          unfold MStop
          k_dflt (refine' append_row (more := []) (by k_asm) (by k_asm) ap ?k6_yz ?k6_yo ?k6_yh ⟨_, hcr⟩ ⟨_, hcs⟩ (fun _ h => nomatch h) ?k6_ya)
          (case k6_yz => exact Nat.le_trans (Nat.le_of_eq hRV.len) (by omega))
          (case k6_yo => exact isDict_cls hO3)
          (case k6_yh => exact rfl)
          intro h4 F4 N4 ap2
          change PyProof.Rows.News _ _ _ ((_, _) :: (_, _) :: (_, _) :: (_, _) :: (_, _) :: (_, _) :: _) at N4
          (try k_sweep)
          k_steps
          have ta := tale.snoc ((n % 7 + n / 7 % 8) % 7) (some (.inr 1))
          rw [hHl] at ta
          exact ⟨rfl, _, _, _, _, rfl, by k_asm, by k_asm, ring_at (.tail _ hR) (.tail _ hD) hO3 RK3 (hHV.store (cv_bytes 1 _) hla) (rows_snoc (b := none) (c := some (.inr 1)) hRV hla trivial (show 1 ≤ 1 ∧ 1 ≤ 7 by decide) cv_none (cv_bytes 1 _)) ta (good_snoc good ⟨hla, fun h => nomatch h.2⟩) hcr hcs (.tail _ num) (by simp; omega) ap2 (by k_extra "M:look") (by k_extra "M:look") (by k_extra "M:look") ⟨_, by k_extra "M:look"⟩ ⟨_, by k_extra "M:look"⟩ ⟨_, by k_extra "M:look"⟩⟩
        | some x =>
          rw [hHl] at hcv
          have hV2 : (some x : Cell).isNone = false := rfl
          k_steps
          exact ⟨rfl, _, _, _, _, rfl, by k_asm, by k_asm, ring_at hR hD hO RK hHV hRV tale good hcr hcs num (by omega) ap (by k_extra "M:look") (by k_extra "M:look") (by k_extra "M:look") ⟨_, by k_extra "M:look"⟩ ⟨_, by k_extra "M:look"⟩ ⟨_, by k_extra "M:look"⟩⟩
    case k6_yy =>
      intro h' tk' m' nx F' N' jX
      repeat (rename Flg _ => flq; clear flq)
      rename_i z1 z2 z3 z4 z5 _ _ z8 z9 za zb _ _ _ _ _ _ _ _ _ _ zm zn _ zp zq _ zs _ zu _ zw zx zy zz z10 z11 z12 _ _ _ _ _ _ _ _ _ z1c z1d z1e z1f _ _ _ _ _ z1l z1m z1n _ _ _ _ _ _ z1u _ _ z1x z1y z1z _ z21 z22 _ z24 z25 z26 _ _ z29 _ z2b _ z2d z2e z2f _ _ _ _ z2k z2l z2m _ _ _ _ _ _ _ _ z2v z2w z2x z2y z2z _ _ z32 _ z34 _ z36 _ _ _ _ z3b z3c _ z3e z3f _ z3h z3i _ z3k z3l _ z3n z3o z3p _ z3r z3s _ z3u z3v _ z3x z3y z3z z40 z41 z42 z43 z44 z45 z46 _ z48 z49 _ _ _ z4d z4e z4f z4g z4h z4i z4j _ _ z4m z4n
      revert z1 z2 z3 z4 z5 z8 z9 za zb zm zn zp zq zs zu zw zx zy zz z10 z11 z12 z1c z1d z1e z1f z1l z1m z1n z1u ys z1x z1y z1z n tn h1 tk1 z21 z22 z24 z25 z26 z29 z2b z2d z2e z2f z2k z2l z2m z2v z2w tkq z2x z2y z2z z32 z34 z36 z3b z3c z3e z3f z3h z3i z3k z3l z3n z3o z3p z3r z3s z3u z3v z3x z3y z3z z40 z41 z42 D'w z43 z44 z45 z46 z48 z49 z4d z4e z4f z4g z4h z4i z4j m₁ h tk H rows o kvs hv hc rv rc Rl ocr ocs rest cx t4 t5 t6 z4m z4n t'w k'w h'w tkqw h' tk' m' nx
      exact Lock.out hh_g4 : Dom22 st_g1)
def st_g4 := fun (hh_g6 : Lock _) => (by
    intro _ _ _ _ _ _ _ _ _ _ _ _ _ _ _ _ _ _ _ _ _ _ _ _ _ _ _ _ _ _ _ _ _ _ _ _ _ _ _ _ _ _ _ _ _ _ _ _ _ _ _ _ _ _ qk ek _ _ _ _ _ _ _ _ _ _ ys _ _ _ _ _ _ n tn h1 tk1 hn h'w tkqw mqw _ _ _ _ _ _ _ _ _ _ _ _ _ _ _ _ _ _ _ _ _ _ lifted lifted lifted lifted qk ek tkq _ tkq _ _ _ _ _ _ _ _ _ _ _ _ _ _ D'w h'w l1w _ _ _ D'w h'w l1w D'w h'w l1w _ h'w tkqw mqw h'w tkqw mqw _ _ _ t'w k'w t'w k'w t'w k'w D'w h'w l1w _ h'w tkqw mqw h'w tkqw mqw qk ek t'w k'w _ _ _ _ _ _ _ qk ek hn1 hn2 m₁ h tk H rows o kvs hv hc rv rc Rl ocr ocs rest ap num few hnone m1 m2 m3 hR hD hO RK hHV hRV tale good hcr cx hcs t4 m4 t5 m5 t6 m6 t'w k'w t'w k'w h'w tkqw mqw F'w N'w r7 r8 h' tk' m' nx F' N' jX
    have zF10 := U 10; have zF2 := U 2; have zF3 := U 3; have zF16 := U 16; have zF8 := U 8; have zF48 := U 48; have zF63 := U 63
    have zF66 := U 66
    k_unmd
    clear hnone m1 m2 m3 m4 m5 m6 hR hD hO RK hHV hRV tale good hcr hcs ap num few
    obtain ⟨H, rows, o, kvs, hv, hc, rv, rc, Rl, ocr, ocs, rest, rfl, ⟨⟨hR, hD, hO, RK, hHV, hRV, tale, good, hcr⟩, ⟨cx, hcs⟩, ap, num, few, hnone, m1, m2, m3, ⟨t4, m4⟩, ⟨t5, m5⟩, ⟨t6, m6⟩⟩⟩ := jX
    dsimp only at hR hD hcr ap m1 m2 N'
    have hst : n % 7 < 7 := hn2
    have hend := seenN_le RK.ok hst
    obtain ⟨v1, hx1, hc1⟩ := held_at hHV hst
    have hz1 : rv.toArray.size = rows.length := by simpa using hRV.len
    have hz2 : rows.length ≤ 8 := few
    k_steps
    unfold MStop
    k_dflt (refine' y_seen ?k7_yB ?k7_yF ?k7_yX ?k7_yN ?k7_yT rfl rfl ?k7_yd ?k7_yu ?k7_yR ?k7_yD ?k7_yA ?k7_yO ?k7_yS ?k7_yK ?k7_yH hHV hst ?k7_yq)
    (case k7_yK => exact RK)
    (case k7_yO => exact hO)
    (case k7_yN => k_asm)
    (case k7_yB => k_asm)
    (case k7_yF => k_asm)
    (case k7_yX => k_asm)
    (case k7_yT => k_asm)
    (case k7_yd => k_room)
    (case k7_yu => k_units)
    (case k7_yR => exact .tail _ (.tail _ (.tail _ (.tail _ (.tail _ hR)))))
    (case k7_yD => exact .tail _ (.tail _ (.tail _ (.tail _ (.tail _ hD)))))
    (case k7_yA => exact .head _)
    (case k7_yS => assumption)
    (case k7_yH => exact .tail _ (.head _))
    intro te h2 tk2 F2 N2
    (try k_sweep)
    k_steps
    unfold MStop
    k_dflt (refine' c_same ?k7_wB ?k7_wF ?k7_wX ?k7_wN ?k7_wT rfl rfl ?k7_wd ?k7_wu ?k7_wR ?k7_wD ?k7_wA ?k7_wO ?k7_wS ?k7_wK ?k7_wH hHV ?k7_wq)
    (case k7_wK => exact RK)
    (case k7_wO => exact hO)
    (case k7_wN => k_asm)
    (case k7_wB => k_asm)
    (case k7_wF => k_asm)
    (case k7_wX => k_asm)
    (case k7_wT => k_asm)
    (case k7_wd => k_room)
    (case k7_wu => k_units)
    (case k7_wR => exact .tail _ (.tail _ (.tail _ (.tail _ (.tail _ hR)))))
    (case k7_wD => exact .tail _ (.tail _ (.tail _ (.tail _ (.tail _ hD)))))
    (case k7_wA => exact .head _)
    (case k7_wS => assumption)
    (case k7_wH => exact .tail _ (.head _))
    intro h3 tk3 F3 N3
    (try k_sweep)
    have fl3 := Flag.up 3
    k_steps
    unfold MStop
    (rename Flg 66 => flq); clear flq
    rename News _ _ _ ((_, W.listOf #[_, _, _] 0) :: _) => Nw
    rename ∀ p ∈ (_, W.listOf #[_] 0) :: _, p.1 < _ => ltw
    have ap1 := saw_off Nw ltw ap (isDict_cls hO) rfl ⟨_, hcr⟩ ⟨_, hcs⟩
    have N2 := saw_news Nw
    have hsw : SawOk rows (n % 7) (H (n % 7)) rows.length := SawOk.now tale hst (RK.ok _ hst)
    (try dsimp only at N2 ap1)
    have sv0 := saws3o ap1 hc1 hsw
    clear Nw ltw
    refine set_joinK (by k_asm) (saw_at (hc := hc) (rc := rc) (sc := 0) (.tail _ hR) (.tail _ hD) hO RK hHV (hRV.mono fun p hp => .tail _ hp) tale good hcr hcs (.tail _ num) hz2 ap1 sv0 (by k_extra "M:look") (by k_extra "M:look") (by k_extra "M:look") (by k_extra "M:look")) ?k8_yx ?k8_yy
    case k8_yx =>
      rcases Nat.lt_or_ge (seenN H (n % 7)) 7 with hs7 | hs7
      · obtain ⟨v2, hx2, hc2⟩ := held_at hHV hs7
        have hV : decide ((seenN H (n % 7) : Int) < 7) = true := by simp; omega
        k_steps
        unfold MStop
        k_dflt (refine' set_saws (j := 2) (by k_asm) (by k_asm) ap1 rfl (by decide) (isDict_cls hO) rfl rfl ⟨_, hcr⟩ ⟨_, hcs⟩ ?_)
        intro h4 F4 N4 ap2
        (try k_sweep)
        k_steps
        exact ⟨rfl, _, _, _, _, rfl, by k_asm, by k_asm, saw_at (.tail _ (.tail _ hR)) (.tail _ (.tail _ hD)) hO RK hHV (hRV.mono fun p hp => .tail _ (.tail _ hp)) tale good hcr hcs (.tail _ (.tail _ num)) hz2 ap2 ((sv0.mono fun p hp => .tail _ hp).store (by decide) (.head _) hc2 (SawOk.now tale hs7 (RK.ok _ hs7))) (by k_extra "M:look") (by k_extra "M:look") (by k_extra "M:look") (by k_extra "M:look")⟩
      · have hV : decide ((seenN H (n % 7) : Int) < 7) = false := by simp; omega
        k_steps
        exact ⟨rfl, _, _, _, _, rfl, by k_asm, by k_asm, saw_at (.tail _ hR) (.tail _ hD) hO RK hHV (hRV.mono fun p hp => .tail _ hp) tale good hcr hcs (.tail _ num) hz2 ap1 sv0 (by k_extra "M:look") (by k_extra "M:look") (by k_extra "M:look") (by k_extra "M:look")⟩
    case k8_yy =>
      intro h' tk' m' nx F' N' jX
      clear hnone m1 m2 m3 m4 m5 m6 hR hD hO RK hHV hRV tale good hcr hcs ap num few sv0 ap1 hsw hz1 hz2 hx1 hend hc1 N2
      obtain ⟨H, rows, o, kvs, hv, hc, rv, rc, sv, sc, Rl, ocr, ocs, rest, rfl, ⟨⟨hR, hD, hO, RK, hHV, hRV, tale, good, hcr⟩, ⟨cx, hcs⟩, ap, num, saws, few, m1, m2, m3, m4⟩⟩ := jX
      dsimp only at hR hD hcr ap m1 m2 N'
      have hy5 : ys.length ≤ 5 := by
        rename ys.length = _ => hy
        rw [hy, List.length_map, List.length_take]; omega
      have hcut := cut_one ys
      have hszc : ys.toArray.size ≤ sizeLine := Nat.le_trans (by simpa using hy5) (by decide : 5 ≤ sizeLine)
      have hsum : (ys.drop 1).toArray.size + (#[Value.int 0 0, Value.int 1 0] : Array Value).size ≤ 1000 := by simp; omega
      k_steps
      unfold MStop
      repeat (rename Flg _ => flq; clear flq)
      rename_i z1 z2 z3 z4 z5 _ _ z8 z9 za zb _ _ _ _ _ _ _ _ _ _ zm zn _ zp zq _ zs _ zu _ zw zx zy zz z10 z11 z12 _ _ _ _ _ _ _ _ _ z1c z1d z1e z1f _ _ _ _ _ z1l z1m z1n _ _ _ _ _ _ z1u _ _ z1x z1y z1z _ z21 z22 _ z24 z25 z26 _ _ z29 _ z2b _ z2d z2e z2f _ _ _ _ z2k z2l z2m _ _ _ _ _ _ _ _ z2v z2w z2x z2y z2z _ _ z32 _ z34 _ z36 _ _ _ _ z3b z3c _ z3e z3f _ z3h z3i _ z3k z3l _ z3n z3o z3p _ z3r z3s _ z3u z3v _ z3x z3y z3z z40 z41 z42 z43 z44 _ z46 z47 z48 _ z4a z4b _ _ _ z4f z4g z4h z4i z4j z4k z4l _ _ _ _ z4q z4r z4s z4t z4u z4v z4w z4x z4y z4z z50 z51 z52 z53 z54 z55 z56 z57 z58 z59 _ z5b z5c z5d z5e z5f z5g z5h z5i z5j z5k z5l z5m z5n z5o z5p z5q z5r z5s _ z5u z5v _ z5x z5y _ z60 z61 z62 z63 _ z65 z66 z67 _ _ _ _ z6c z6d z6e z6f _ _ z6i z6j z6k z6l z6m _ _ _ _
      revert z1 z2 z3 z4 z5 z8 z9 za zb zm zn zp zq zs zu zw zx zy zz z10 z11 z12 z1c z1d z1e z1f z1l z1m z1n z1u ys z1x z1y z1z n tn h1 tk1 z21 z22 z24 z25 z26 z29 z2b z2d z2e z2f z2k z2l z2m z2v z2w tkq z2x z2y z2z z32 z34 z36 z3b z3c z3e z3f z3h z3i z3k z3l z3n z3o z3p z3r z3s z3u z3v z3x z3y z3z z40 z41 z42 z43 z44 z46 z47 z48 z4a z4b z4f z4g z4h z4i z4j z4k z4l m₁ h tk z4q z4r z4s z4t z4u z4v z4w z4x z4y z4z z50 z51 z52 z53 z54 z55 z56 z57 t'w k'w z58 z59 z5b z5c z5d z5e z5f z5g z5h z5i z5j z5k z5l z5m z5n z5o z5p z5q t4 t5 t6 v1 te h2 tk2 z5r z5s h3 tk3 tnw knw z5u z5v z5x z5y z60 z61 z62 z63 h' tk' m' H rows o kvs hv hc rv rc sv sc Rl ocr ocs rest cx z65 z66 z67 D'w z6c z6d z6e z6f h'w tkqw z6i z6j z6k z6l z6m
      exact Lock.out hh_g6 : Dom11 st_g3)
def st_g6 := fun (hh_g7 : Lock _) (hh_g8 : Lock _) => (by
    intro _ _ _ _ _ _ _ _ _ _ _ _ _ _ _ _ _ _ _ _ _ _ _ _ _ _ _ _ _ _ _ _ _ _ _ _ _ _ _ _ _ _ _ _ _ _ _ _ _ _ _ _ _ _ qk ek _ _ _ _ _ _ _ _ _ _ ys _ _ _ _ _ _ n tn h1 tk1 hn h'w tkqw mqw _ _ _ _ _ _ _ _ _ _ _ _ _ _ _ _ _ _ _ _ _ _ lifted lifted lifted lifted qk ek tkq _ tkq _ _ _ _ _ _ _ _ _ _ _ _ _ _ D'w h'w l1w _ _ _ D'w h'w l1w D'w h'w l1w _ h'w tkqw mqw h'w tkqw mqw _ _ _ t'w k'w t'w k'w t'w k'w D'w h'w l1w _ h'w tkqw mqw h'w tkqw mqw qk ek t'w k'w _ _ _ _ _ _ _ qk ek hn1 hn2 m₁ h tk H rows o kvs hv hc rv rc Rl ocr ocs rest cx t4 t5 t6 t'w k'w t'w k'w h'w tkqw mqw r7 r8 h' tk' m' H rows o kvs hv hc rv rc Rl ocr ocs rest cx t4 t5 t6 hst v1 te h2 tk2 h'w tkqw mqw h3 tk3 tnw knw D'w h'w l1w D'w h'w l1w D'w h'w h'w tkqw mqw h' tk' m' H rows o kvs hv hc rv rc sv sc Rl ocr ocs rest ap num saws few m1 m2 m3 m4 hR hD hO RK hHV hRV tale good hcr cx hcs hy5 hcut hszc hsum _ _ _ _ _ _ _ D'w h'w l1w _ _ _ _ _ h'w tkqw mqw qk ek _ _ _ _ _ _ _ _ _
    have zF10 := U 10; have zF2 := U 2; have zF3 := U 3; have zF16 := U 16; have zF8 := U 8; have zF48 := U 48; have zF63 := U 63
    k_unmd
    rename _ ∧ _ ∧ _ ∧ _ ∧ _ ∧ _ ∧ _ ∧ _ ∧ AllLt _ _ => lX
    rename IntsAre _ (List.drop 1 _ ++ [0, 1]) => hIX
    have hTV := turnsV_ints hIX (by rw [List.length_take]; omega)
    have hlen := IntsAre.length hIX
    obtain ⟨_, _, e1, e2, e3, e4, e5, e6, _⟩ := lX
    refine' loop_range _ rfl (by assumption) (small_one (by decide) (by decide) (by omega) (by rw [List.length_drop, List.length_map, List.length_take]; omega)) (range_len hIX (by rw [List.length_append]; rfl)) (by k_asm) (turn_news (by k_asm)) (turn_at (hc := hc) (rc := rc) (sc := sc) (i := 0) (.tail _ hR) (.tail _ hD) hO RK hHV (hRV.mono fun p hp => .tail _ hp) tale good hcr hcs (.head _) few (off_lt' ap fun a ha => by
      simp only [List.mem_cons, List.not_mem_nil, or_false] at ha
      rcases ha with rfl | rfl | rfl | rfl | rfl | rfl <;> assumption) (saws.mono fun p hp => .tail _ hp) (by k_extra "M:look") (by k_extra "M:look") (by k_extra "M:look") (by k_extra "M:look")) ?k10_zt ?k10_zd
    case k10_zt =>
      repeat (rename Flg _ => flq; clear flq)
      rename_i z1 z2 z3 z4 z5 _ _ z8 z9 za zb _ _ _ _ _ _ _ _ _ _ zm zn _ zp zq _ zs _ zu _ zw zx zy zz z10 z11 z12 _ _ _ _ _ _ _ _ _ z1c z1d z1e z1f _ _ _ _ _ z1l z1m z1n _ _ _ _ _ _ z1u _ _ z1x z1y z1z _ z21 z22 _ z24 z25 z26 _ _ z29 _ z2b _ z2d z2e z2f _ _ _ _ z2k z2l z2m _ _ _ _ _ _ _ _ z2v z2w z2x z2y z2z _ _ z32 _ z34 _ z36 _ _ _ _ z3b z3c _ z3e z3f _ z3h z3i _ z3k z3l _ z3n z3o z3p _ z3r z3s _ z3u z3v _ z3x z3y z3z z40 z41 z42 z43 z44 _ z46 z47 z48 _ z4a z4b _ _ _ z4f z4g z4h z4i z4j z4k z4l _ _ _ _ z4q z4r z4s z4t z4u z4v z4w z4x z4y z4z z50 z51 z52 z53 z54 z55 z56 z57 z58 z59 _ z5b z5c z5d z5e z5f z5g z5h z5i z5j z5k z5l z5m z5n z5o z5p z5q z5r z5s _ z5u z5v _ z5x z5y _ z60 z61 z62 z63 _ z65 z66 z67 _ _ _ _ z6c z6d z6e z6f z6g z6h z6i z6j z6k _ _ _ _ _ _ _
      revert z1 z2 z3 z4 z5 z8 z9 za zb zm zn zp zq zs zu zw zx zy zz z10 z11 z12 z1c z1d z1e z1f z1l z1m z1n z1u ys z1x z1y z1z n tn h1 tk1 z21 z22 z24 z25 z26 z29 z2b z2d z2e z2f z2k z2l z2m z2v z2w tkq z2x z2y z2z z32 z34 z36 z3b z3c z3e z3f z3h z3i z3k z3l z3n z3o z3p z3r z3s z3u z3v z3x z3y z3z z40 z41 z42 z43 z44 z46 z47 z48 z4a z4b z4f z4g z4h z4i z4j z4k z4l m₁ h tk z4q z4r z4s z4t z4u z4v z4w z4x z4y z4z z50 z51 z52 z53 z54 z55 z56 z57 t'w k'w z58 z59 z5b z5c z5d z5e z5f z5g z5h z5i z5j z5k z5l z5m z5n z5o z5p z5q t4 t5 t6 v1 te h2 tk2 z5r z5s h3 tk3 tnw knw z5u z5v z5x z5y z60 z61 z62 z63 h' tk' m' H rows o kvs hv hc rv rc sv sc Rl ocr ocs rest cx z65 z66 z67 D'w z6c z6d z6e z6f h'w tkqw z6g z6h z6i z6j z6k
      exact Lock.out hh_g7
    case k10_zd =>
      repeat (rename Flg _ => flq; clear flq)
      rename_i z1 z2 z3 z4 z5 _ _ z8 z9 za zb _ _ _ _ _ _ _ _ _ _ zm zn _ zp zq _ zs _ zu _ zw zx zy zz z10 z11 z12 _ _ _ _ _ _ _ _ _ z1c z1d z1e z1f _ _ _ _ _ z1l z1m z1n _ _ _ _ _ _ z1u _ _ z1x z1y z1z _ z21 z22 _ z24 z25 z26 _ _ z29 _ z2b _ z2d z2e z2f _ _ _ _ z2k z2l z2m _ _ _ _ _ _ _ _ z2v z2w z2x z2y z2z _ _ z32 _ z34 _ z36 _ _ _ _ z3b z3c _ z3e z3f _ z3h z3i _ z3k z3l _ z3n z3o z3p _ z3r z3s _ z3u z3v _ z3x z3y z3z z40 z41 z42 z43 z44 _ z46 z47 z48 _ z4a z4b _ _ _ z4f z4g z4h z4i z4j z4k z4l _ _ _ _ z4q z4r z4s z4t z4u z4v z4w z4x z4y z4z z50 z51 z52 z53 z54 z55 z56 z57 z58 z59 _ z5b z5c z5d z5e z5f z5g z5h z5i z5j z5k z5l z5m z5n z5o z5p z5q z5r z5s _ z5u z5v _ z5x z5y _ z60 z61 z62 z63 _ z65 z66 z67 _ _ _ _ z6c z6d z6e z6f z6g z6h z6i z6j z6k _ _ _ _ _ _ _
      revert z1 z2 z3 z4 z5 z8 z9 za zb zm zn zp zq zs zu zw zx zy zz z10 z11 z12 z1c z1d z1e z1f z1l z1m z1n z1u ys z1x z1y z1z n tn h1 tk1 z21 z22 z24 z25 z26 z29 z2b z2d z2e z2f z2k z2l z2m z2v z2w tkq z2x z2y z2z z32 z34 z36 z3b z3c z3e z3f z3h z3i z3k z3l z3n z3o z3p z3r z3s z3u z3v z3x z3y z3z z40 z41 z42 z43 z44 z46 z47 z48 z4a z4b z4f z4g z4h z4i z4j z4k z4l m₁ h tk z4q z4r z4s z4t z4u z4v z4w z4x z4y z4z z50 z51 z52 z53 z54 z55 z56 z57 t'w k'w z58 z59 z5b z5c z5d z5e z5f z5g z5h z5i z5j z5k z5l z5m z5n z5o z5p z5q t4 t5 t6 v1 te h2 tk2 z5r z5s h3 tk3 tnw knw z5u z5v z5x z5y z60 z61 z62 z63 h' tk' m' H rows o kvs hv hc rv rc sv sc Rl ocr ocs rest cx z65 z66 z67 D'w z6c z6d z6e z6f h'w tkqw z6g z6h z6i z6j z6k
      exact Lock.out hh_g8 : Dom11 st_g4)
def st_g7 := fun (hh_g10 : Lock _) (hh_g11 : Lock _) => (by
    intro _ _ _ _ _ _ _ _ _ _ _ _ _ _ _ _ _ _ _ _ _ _ _ _ _ _ _ _ _ _ _ _ _ _ _ _ _ _ _ _ _ _ _ _ _ _ _ _ _ _ _ _ _ _ qk ek _ _ _ _ _ _ _ _ _ _ ys _ _ _ _ _ _ n tn h1 tk1 hn h'w tkqw mqw _ _ _ _ _ _ _ _ _ _ _ _ _ _ _ _ _ _ _ _ _ _ lifted lifted lifted lifted qk ek tkq _ tkq _ _ _ _ _ _ _ _ _ _ _ _ _ _ D'w h'w l1w _ _ _ D'w h'w l1w D'w h'w l1w _ h'w tkqw mqw h'w tkqw mqw _ _ _ t'w k'w t'w k'w t'w k'w D'w h'w l1w _ h'w tkqw mqw h'w tkqw mqw qk ek t'w k'w _ _ _ _ _ _ _ qk ek hn1 hn2 m₁ h tk H rows o kvs hv hc rv rc Rl ocr ocs rest cx t4 t5 t6 t'w k'w t'w k'w h'w tkqw mqw r7 r8 h' tk' m' H rows o kvs hv hc rv rc Rl ocr ocs rest cx t4 t5 t6 hst v1 te h2 tk2 h'w tkqw mqw h3 tk3 tnw knw D'w h'w l1w D'w h'w l1w D'w h'w h'w tkqw mqw h' tk' m' H rows o kvs hv hc rv rc sv sc Rl ocr ocs rest ap num saws few m1 m2 m3 m4 hR hD hO RK hHV hRV tale good hcr cx hcs hy5 hcut hszc hsum _ _ _ _ _ _ _ D'w h'w l1w _ _ _ hIX h'w tkqw mqw qk ek _ _ _ _ _ _ _ _ _ hTV hlen _ _ e1 e2 e3 e4 e5 e6 _
    have zF10 := U 10; have zF2 := U 2; have zF3 := U 3; have zF16 := U 16; have zF8 := U 8; have zF48 := U 48; have zF63 := U 63
    have zF67 := U 67
    k_unmd
    clear hR hD hO RK hHV hRV tale good hcr hcs ap num saws few m1 m2 m3 m4 e1 e2 e3 e4 e5 e6
    rintro i I it t m₁ nx h tk hic hi ⟨H, rows, o, kvs, hv, hc, rv, rc, sv, sc, Rl, ocr, ocs, rest, rfl, ⟨⟨hR, hD, hO, RK, hHV, hRV, tale, good, hcr⟩, ⟨cx, hcs⟩, ap, tur, saws, few, m1, m2, m3, m4⟩⟩ off F₁ N₁
    dsimp only at hR hD hcr ap m1 m2 N₁
    rw [show (0 : Int) + (i : Int) * 1 = ((i : Nat) : Int) from by omega] at F₁
    change PyProof.Rows.Fr _ (Array.size _) _ _ at F₁
    have N₂ := led6_in N₁
    change PyProof.Rows.News _ (Array.size _) _ _ at N₂
    clear N₁
    have ap1 := ap.cons (p := (I, it)) (fun hm => by
      simp only [List.mem_cons, List.not_mem_nil, or_false] at hm
      rcases hm with e | e | e | e | e | e
      · exact off _ (.head _) e.symm
      · exact off _ (.tail _ (.head _)) e.symm
      · exact off _ (.tail _ (.tail _ (.head _))) e.symm
      · exact off _ (.tail _ (.tail _ (.tail _ (.head _)))) e.symm
      · exact off _ (.tail _ (.tail _ (.tail _ (.tail _ (.head _))))) e.symm
      · exact off _ (.tail _ (.tail _ (.tail _ (.tail _ (.tail _ (.head _)))))) e.symm)
    obtain ⟨nn, tn2, hx0, hn20, hi6⟩ := turn_num hTV hi
    have hc7 : 1 ≤ i + 2 ∧ i + 2 ≤ 7 := by omega
    have fl4 := Flag.up 4
    k_steps
    unfold MStop
    (rename Flg 67 => flq); clear flq
    have zF68 := U 68
    rename News _ _ _ (_ :: _ :: _ :: _ :: _ :: _ :: _) => Nold
    have Nc : PyProof.Rows.News _ _ _ ((_, o) :: (_, W.listOf hv.toArray hc) :: (Rl, _) :: (_, ocr) :: (_, ocs) :: (_, W.listOf sv.toArray sc) :: (I, it) :: rest) := cb_drop Nold (fun p hp => by (repeat (first | exact hp | refine List.Mem.tail _ ?_)))
    clear Nold
    have hhand : nn % 3 < 3 := Nat.mod_lt _ (by decide)
    have hpick : nn / 3 / 10 % 7 < 7 := Nat.mod_lt _ (by decide)
    have hother : nn / 3 / 10 / 7 % 7 < 7 := Nat.mod_lt _ (by decide)
    have hoff := fun p hp => off p (.tail _ (.tail _ (.tail _ (.tail _ (.tail _ (.tail _ hp))))))
    obtain ⟨Sw, sp, scl, idx, ts1, ts2, sval, hx1, hSw, hsv, hsok⟩ := saw_get saws hhand
    refine set_joinK (by k_asm) (mid_at (hc := hc) (rc := rc) (sc := sc) (i := i) hR hD hO RK hHV hRV tale good hcr hcs tur (by omega) ap1 hoff saws (by k_extra "M:look") (by k_extra "M:look") (by k_extra "M:look") (by k_extra "M:look") ⟨_, by k_extra "M:look"⟩ ⟨_, by k_extra "M:look"⟩ ⟨_, by k_extra "M:look"⟩) ?k12_yx ?k12_yy
    case k12_yx =>
      by_cases e9 : nn / 3 % 10 = 9
      · have hV : (((nn / 3 % 10 : Nat) : Int) == 9) = true := by rw [e9]; rfl
        k_steps
        unfold MStop
        (rename Flg 68 => flq); clear flq
        have zF69 := U 69
        k_unmd
        k_dflt (refine' c_refused ?k13_yB ?k13_yF ?k13_yX ?k13_yN ?k13_yT rfl rfl ?k13_yd ?k13_yu ?k13_yS hsv hsok.2.2.1 hsok.2.1 hpick hother hc7 ?k13_yA)
        (case k13_yN => k_asm)
        (case k13_yB => k_asm)
        (case k13_yF => k_asm)
        (case k13_yX => k_asm)
        (case k13_yT => k_asm)
        (case k13_yd => k_room)
        (case k13_yu => k_units)
        (case k13_yS => k_extra "M:in")
        intro Td deed name oldv laid duev td ts h2 tk2 hRef F2 N2
        (try k_sweep)
        k_steps
        unfold MStop
        rename News _ _ _ ((Td, _) :: _) => N2o
        have N2c := cb_drop N2o (fun _ hp => List.Mem.tail _ hp)
        clear N2o
        k_dflt (refine' y_ref hRef hsok.2.1 hc7 ?k13_xB ?k13_xF ?k13_xX ?k13_xN ?k13_xT rfl rfl ?k13_xd ?k13_xu ?k13_xR ?k13_xD ?k13_xO ?k13_xS ?k13_xK ?k13_xr ?k13_xA)
        (case k13_xK => exact RK)
        (case k13_xO => exact hO)
        (case k13_xN => exact N2c)
        (case k13_xB => k_asm)
        (case k13_xF => k_asm)
        (case k13_xX => k_asm)
        (case k13_xT => k_asm)
        (case k13_xd => k_room)
        (case k13_xu => k_units)
        (case k13_xR => exact .tail _ (.tail _ (.tail _ (.tail _ (.tail _ (.tail _ hR))))))
        (case k13_xD => exact .tail _ (.tail _ (.tail _ (.tail _ (.tail _ (.tail _ hD))))))
        (case k13_xS => assumption)
        (case k13_xr => exact off6 ap1)
        intro told h3 tk3 hal F3 N3
        (try k_sweep)
        k_steps
        unfold MStop
        k_dflt (refine' y_alike hal ?k13_wB ?k13_wF ?k13_wX ?k13_wN ?k13_wT rfl rfl ?k13_wd ?k13_wu ?k13_wA)
        (case k13_wN => k_asm)
        (case k13_wB => k_asm)
        (case k13_wF => k_asm)
        (case k13_wX => k_asm)
        (case k13_wT => k_asm)
        (case k13_wd => k_room)
        (case k13_wu => k_units)
        intro h4 tk4 F4 N4
        (try k_sweep)
        k_steps
        exact ⟨rfl, _, _, _, _, rfl, by k_asm, by k_asm, mid_at hR hD hO RK hHV hRV tale good hcr hcs tur (by omega) ap1 hoff saws (by k_extra "M:look") (by k_extra "M:look") (by k_extra "M:look") (by k_extra "M:look") ⟨_, by k_extra "M:look"⟩ ⟨_, by k_extra "M:look"⟩ ⟨_, by k_extra "M:look"⟩⟩
      · have hV : (((nn / 3 % 10 : Nat) : Int) == 9) = false := by rw [beq_eq_false_iff_ne]; omega
        k_steps
        unfold MStop
        repeat (rename Flg _ => flq; clear flq)
        rename_i z1 z2 z3 z4 z5 _ _ z8 z9 za zb _ _ _ _ _ _ _ _ _ _ zm zn _ zp zq _ zs _ zu _ zw zx zy zz z10 z11 z12 _ _ _ _ _ _ _ _ _ z1c z1d z1e z1f _ _ _ _ _ z1l z1m z1n _ _ _ _ _ _ z1u _ _ z1x z1y z1z _ z21 z22 _ z24 z25 z26 _ _ z29 _ z2b _ z2d z2e z2f _ _ _ _ z2k z2l z2m _ _ _ _ _ _ _ _ z2v z2w z2x z2y z2z z30 _ _ z33 _ z35 _ z37 _ _ _ _ z3c z3d _ z3f z3g _ z3i z3j _ z3l z3m _ z3o z3p z3q _ z3s z3t _ z3v z3w _ z3y z3z z40 z41 z42 z43 z44 z45 _ z47 z48 z49 _ z4b z4c _ _ _ z4g z4h z4i z4j z4k z4l z4m _ _ _ _ z4r z4s z4t z4u z4v z4w z4x z4y z4z z50 z51 z52 z53 z54 z55 z56 z57 z58 z59 z5a z5b z5c z5d z5e z5f _ z5h z5i z5j z5k z5l z5m z5n z5o z5p z5q z5r z5s z5t z5u z5v z5w z5x z5y _ z60 z61 _ z63 z64 _ z66 z67 z68 z69 _ z6b z6c z6d z6e z6f z6g z6h z6i z6j z6k z6l z6m z6n z6o z6p z6q z6r z6s _ _ _ _ z6x z6y z6z z70 z71 z72 z73 _ z75 z76 z77 z78 z79 _ _ _ _ _ z7f z7g z7h z7i z7j z7k z7l z7m _ z7o z7p _ z7r z7s z7t z7u z7v z7w z7x z7y _ z80 z81 _ z83 z84 z85 z86 z87 z88 z89 z8a _ z8c z8d _ z8f z8g z8h z8i z8j z8k z8l z8m _ z8o z8p _ z8r z8s z8t z8u z8v _ z8x z8y _ z90 z91
        revert z1 z2 z3 z4 z5 z8 z9 za zb zm zn zp zq zs zu zw zx zy zz z10 z11 z12 z1c z1d z1e z1f z1l z1m z1n z1u ys z1x z1y z1z n tn h1 tk1 z21 z22 z24 z25 z26 z29 z2b z2d z2e z2f z2k z2l z2m z2v z2w z2x z2y z2z z30 z33 z35 z37 z3c z3d z3f z3g z3i z3j z3l z3m z3o z3p z3q z3s z3t z3v z3w z3y z3z z40 z41 z42 z43 z44 z45 z47 z48 z49 z4b z4c z4g z4h z4i z4j z4k z4l z4m z4r z4s z4t z4u z4v z4w z4x z4y z4z z50 z51 z52 z53 z54 z55 z56 z57 z58 z59 z5a z5b z5c z5d z5e z5f z5h z5i z5j z5k z5l z5m z5n z5o z5p z5q z5r z5s z5t z5u z5v z5w t4 t5 t6 v1 te h2 tk2 z5x z5y h3 tk3 tnw knw z60 z61 z63 z64 z66 z67 z68 z69 h' tk' m' z6b z6c z6d z6e z6f z6g z6h z6i z6j z6k z6l z6m z6n z6o z6p z6q z6r z6s z6x z6y z6z z70 z71 z72 z73 z75 z76 z77 z78 z79 i I it t m₁ h tk H rows o kvs hv hc rv rc sv sc Rl ocr ocs rest cx nn tn2 z7f z7g z7h z7i z7j z7k z7l z7m z7o z7p z7r z7s z7t z7u z7v z7w z7x z7y z80 z81 z83 z84 z85 z86 z87 z88 z89 z8a z8c z8d z8f z8g z8h z8i z8j z8k z8l z8m z8o z8p D'w z8r t1'w t2'w z8s z8t z8u z8v z8x z8y z90 k'w t'w z91 tk'w h'w tkqw Sw sp scl idx ts1 ts2 sval tkq
        exact Lock.out hh_g10
    case k12_yy =>
      intro h' tk' m' nx F' N' jX
      repeat (rename Flg _ => flq; clear flq)
      rename_i z1 z2 z3 z4 z5 _ _ z8 z9 za zb _ _ _ _ _ _ _ _ _ _ zm zn _ zp zq _ zs _ zu _ zw zx zy zz z10 z11 z12 _ _ _ _ _ _ _ _ _ z1c z1d z1e z1f _ _ _ _ _ z1l z1m z1n _ _ _ _ _ _ z1u _ _ z1x z1y z1z _ z21 z22 _ z24 z25 z26 _ _ z29 _ z2b _ z2d z2e z2f _ _ _ _ z2k z2l z2m _ _ _ _ _ _ _ _ z2v z2w z2x z2y z2z _ _ z32 _ z34 _ z36 _ _ _ _ z3b z3c _ z3e z3f _ z3h z3i _ z3k z3l _ z3n z3o z3p _ z3r z3s _ z3u z3v _ z3x z3y z3z z40 z41 z42 z43 z44 _ z46 z47 z48 _ z4a z4b _ _ _ z4f z4g z4h z4i z4j z4k z4l _ _ _ _ z4q z4r z4s z4t z4u z4v z4w z4x z4y z4z z50 z51 z52 z53 z54 z55 z56 z57 z58 z59 z5a z5b z5c z5d z5e _ z5g z5h z5i z5j z5k z5l z5m z5n z5o z5p z5q z5r z5s z5t z5u z5v z5w z5x _ z5z z60 _ z62 z63 _ z65 z66 z67 z68 _ z6a z6b z6c z6d z6e z6f z6g z6h z6i z6j z6k z6l z6m z6n z6o z6p z6q z6r z6s z6t z6u _ _ _ _ z6z z70 z71 z72 z73 z74 z75 _ z77 z78 z79 z7a z7b _ _ _ _ _ z7h z7i z7j z7k z7l z7m z7n z7o _ z7q z7r _ z7t z7u z7v z7w z7x z7y z7z z80 _ z82 z83 _ z85 z86 z87 z88 z89 z8a z8b z8c _ z8e z8f _ z8h z8i z8j z8k z8l z8m z8n z8o _ z8q z8r _ z8t z8u z8v z8w z8x _ z8z z90 _ z92 z93
      revert z1 z2 z3 z4 z5 z8 z9 za zb zm zn zp zq zs zu zw zx zy zz z10 z11 z12 z1c z1d z1e z1f z1l z1m z1n z1u ys z1x z1y z1z n tn h1 tk1 z21 z22 z24 z25 z26 z29 z2b z2d z2e z2f z2k z2l z2m z2v z2w tkq z2x z2y z2z z32 z34 z36 z3b z3c z3e z3f z3h z3i z3k z3l z3n z3o z3p z3r z3s z3u z3v z3x z3y z3z z40 z41 z42 z43 z44 z46 z47 z48 z4a z4b z4f z4g z4h z4i z4j z4k z4l z4q z4r z4s z4t z4u z4v z4w z4x z4y z4z z50 z51 z52 z53 z54 z55 z56 z57 z58 z59 z5a z5b z5c z5d z5e z5g z5h z5i z5j z5k z5l z5m z5n z5o z5p z5q z5r z5s z5t z5u z5v t4 t5 t6 v1 te h2 tk2 z5w z5x h3 tk3 tnw knw z5z z60 z62 z63 z65 z66 z67 z68 z6a z6b z6c z6d z6e z6f z6g z6h z6i z6j z6k z6l z6m z6n z6o z6p z6q z6r z6s z6t z6u z6z z70 z71 z72 z73 z74 z75 z77 z78 z79 z7a z7b i I it t m₁ h tk H rows o kvs hv hc rv rc sv sc Rl ocr ocs rest cx nn tn2 z7h z7i z7j z7k z7l z7m z7n z7o z7q z7r z7t z7u z7v z7w z7x z7y z7z z80 z82 z83 z85 z86 z87 z88 z89 z8a z8b z8c z8e z8f z8h z8i z8j z8k z8l z8m z8n z8o z8q z8r D'w z8t t1'w t2'w z8u z8v z8w z8x z8z z90 z92 k'w t'w z93 tk'w h'w tkqw Sw sp scl idx ts1 ts2 sval h' tk' m' nx
      exact Lock.out hh_g11 : Dom21 st_g6)
theorem st_g10 : Dom21 st_g7 := by
    refine Kf ?_
    simp (disch := (refine @id _ ?_; k_dflt (
     intro _ _ _ _ _ _ _ _ _ _ _ _ _ _ _ _ _ _ _ _ _ _ _ _ _ _ _ _ _ _ _ _ _ _ _ _ _ _ _ _ _ _ _ _ _ _ _ _ _ _ _ _ _ _ qk ek _ _ _ _ _ _ _ _ _ _ ys _ _ _ _ _ _ n tn h1 tk1 hn h'w tkqw mqw _ _ _ _ _ _ _ _ _ _ _ _ _ _ _ _ _ _ _ _ _ _ lifted lifted lifted lifted qk ek tkq _ tkq _ _ _ _ _ _ _ _ _ _ _ _ _ _ D'w h'w l1w _ _ _ D'w h'w l1w D'w h'w l1w _ h'w tkqw mqw h'w tkqw mqw _ _ _ t'w k'w t'w k'w t'w k'w D'w h'w l1w _ h'w tkqw mqw h'w tkqw mqw qk ek t'w k'w _ _ _ _ _ _ _ qk ek hn1 hn2 m₁ h tk H rows o kvs hv hc rv rc Rl ocr ocs rest cx t4 t5 t6 t'w k'w t'w k'w h'w tkqw mqw r7 r8 h' tk' m' H rows o kvs hv hc rv rc Rl ocr ocs rest cx t4 t5 t6 hst v1 te h2 tk2 h'w tkqw mqw h3 tk3 tnw knw D'w h'w l1w D'w h'w l1w D'w h'w h'w tkqw mqw h' tk' m' H rows o kvs hv hc rv rc sv sc Rl ocr ocs rest cx hy5 hcut hszc hsum _ _ _ _ _ _ _ D'w h'w l1w _ _ _ hIX h'w tkqw mqw qk ek _ _ _ _ _ _ _ hTV hlen _ _ _ i I it t m₁ h tk hic hi H rows o kvs hv hc rv rc sv sc Rl ocr ocs rest ap tur saws few m1 m2 m3 m4 hR hD hO RK hHV hRV tale good hcr cx hcs off ap1 nn tn2 hx0 hn20 hi6 hc7 D'w h'w t1'w t2'w tk'w _ h'w tkqw mqw h'w tkqw mqw D'w h'w t1'w t2'w tk'w _ h'w tkqw mqw h'w tkqw mqw D'w h'w t1'w t2'w tk'w _ h'w tkqw mqw h'w tkqw mqw D'w h'w t1'w t2'w tk'w _ h'w tkqw mqw h'w tkqw mqw D'w h'w t1'w t2'w tk'w _ h'w tkqw mqw h'w tkqw mqw t'w k'w t'w h'w tk'w h'w tkqw mqw F'w Nc hhand hpick hother hoff Sw sp scl idx ts1 ts2 sval hx1 hSw hsv hsok e9 hV tkq
     have zF10 := U 10; have zF2 := U 2; have zF3 := U 3; have zF16 := U 16; have zF8 := U 8; have zF48 := U 48; have zF63 := U 63
     k_unmd
     k_dflt (refine' c_due ?k14_yB ?k14_yF ?k14_yX ?k14_yN ?k14_yT rfl rfl ?k14_yd ?k14_yu ?k14_yR (hRV.mono ?k14_yV) ?k14_yS ?k14_yn ?k14_yi ?k14_yH hHV hsv hsok.2.2.1 hsok.2.1 hpick hother hc7 ?k14_yA)
     (case k14_yN => k_asm)
     (case k14_yB => k_asm)
     (case k14_yF => k_asm)
     (case k14_yX => k_asm)
     (case k14_yT => k_asm)
     (case k14_yd => k_room)
     (case k14_yu => k_units)
     (case k14_yV => exact fun p hp => by (repeat (first | exact hp | refine List.Mem.tail _ ?_)))
     (case k14_yR => k_extra "M:in")
     (case k14_yS => k_extra "M:in")
     (case k14_yH => k_extra "M:in")
     (case k14_yn => omega)
     (case k14_yi => have := hsok.1; omega)
     intro Td deed spot oldv cell cellv duev turned td ts h2 tk2 hDue hcv F2 N2
     have hspot := hDue.lt hsok.2.1
     have hcell := hDue.ok
     (try k_sweep)
     k_steps
     unfold MStop
     have zF70 := U 70
     k_dflt (refine' store_spot (more := [(_, _)]) (by k_asm) (by k_asm) ap1 rfl hcs ?_ rfl rfl)
     intro h3 ocs3 F3 N3 hcs3
     change PyProof.Rows.News _ _ _ ((_, _) :: (_, _) :: (_, _) :: (_, _) :: (_, _) :: (_, _) :: (_, _) :: _) at N3
     (try k_sweep)
     k_steps
     unfold MStop
     (rename Flg 70 => flq); clear flq
     have zF71 := U 71
     k_dflt (refine' c_octets ?k16_yB ?k16_yF ?k16_yX ?k16_yN ?k16_yT rfl rfl ?k16_yd ?k16_yu hcv hcell ?k16_yA)
     (case k16_yN => k_asm)
     (case k16_yB => k_asm)
     (case k16_yF => k_asm)
     (case k16_yX => k_asm)
     (case k16_yT => k_asm)
     (case k16_yd => k_room)
     (case k16_yu => k_units)
     intro octv h4 tk4 hov F4 N4
     (try k_sweep)
     k_steps
     unfold MStop
     k_dflt (refine' y_turn2 hDue (hsok.calm tale) hsok.2.2.1 hsok.2.1 hov ?k16_xB ?k16_xF ?k16_xX ?k16_xN ?k16_xT rfl rfl ?k16_xd ?k16_xu ?k16_xR ?k16_xD ?k16_xO ?k16_xS ?k16_xK ?k16_xr ?k16_xA ?k16_xL)
     (case k16_xK => exact RK)
     (case k16_xO => exact hO)
     (case k16_xN => k_asm)
     (case k16_xB => k_asm)
     (case k16_xF => k_asm)
     (case k16_xX => k_asm)
     (case k16_xT => k_asm)
     (case k16_xd => k_room)
     (case k16_xu => k_units)
     (case k16_xR => exact .tail _ (.tail _ (.tail _ (.tail _ (.tail _ (.tail _ hR))))))
     (case k16_xD => exact .tail _ (.tail _ (.tail _ (.tail _ (.tail _ (.tail _ hD))))))
     (case k16_xS => assumption)
     (case k16_xr => exact off6 ap1)
     case k16_xA =>
       intro told o5 kvs5 h5 tk5 hal hfol hO5 RK5 F5 N5
       (try k_sweep)
       by_cases hpt : deed = "point"
       · subst hpt
         k_steps
         unfold MStop
         (rename Flg 71 => flq); clear flq
         have zF72 := U 72
         k_unmd
         k_dflt (refine' c_chains ?k17_yB ?k17_yF ?k17_yX ?k17_yN ?k17_yT rfl rfl ?k17_yd ?k17_yu ?k17_yH hHV RK.ok ?k17_yA)
         (case k17_yN => k_asm)
         (case k17_yB => k_asm)
         (case k17_yF => k_asm)
         (case k17_yX => k_asm)
         (case k17_yT => k_asm)
         (case k17_yd => k_room)
         (case k17_yu => k_units)
         (case k17_yH => k_extra "M:in")
         intro Fd fo f frest h6 tk6 lo hsub hF hfound F6 N6
         (try k_sweep)
         k_steps
         unfold MStop
         obtain ⟨fv, hfv, _⟩ := (hfound spot hspot).1 (hfol rfl)
         rename News _ _ _ ((Fd, _) :: _) => N7
         k_dflt (refine' notin_F (r := true) N7 (.head _) lo hF (by rw [hfv]; rfl) ?_)
         have N8 := cb_drop N7 (fun p hp => List.Mem.tail _ (hsub p hp))
         clear N7
         change PyProof.Rows.News _ _ _ ((_, _) :: (_, _) :: (_, _) :: (_, _) :: (_, _) :: (_, _) :: (_, _) :: _) at N8
         k_steps
         unfold MStop
         (rename Flg 72 => flq); clear flq
         have zF73 := U 73
         k_unmd
         k_dflt (refine' y_alike hal ?k21_wB ?k21_wF ?k21_wX ?k21_wN ?k21_wT rfl rfl ?k21_wd ?k21_wu ?k21_wA)
         (case k21_wN => k_asm)
         (case k21_wB => k_asm)
         (case k21_wF => k_asm)
         (case k21_wX => k_asm)
         (case k21_wT => k_asm)
         (case k21_wd => k_room)
         (case k21_wu => k_units)
         intro h6 tk6 F6 N6
         (try k_sweep)
         cases turned
         · k_steps
           exact ⟨rfl, _, _, _, _, rfl, by k_asm, by k_asm, mid_at hR hD hO5 RK5 hHV hRV tale good hcr hcs3 tur (by omega) ap1 hoff saws (by k_extra "M:look") (by k_extra "M:look") (by k_extra "M:look") (by k_extra "M:look") ⟨_, by k_extra "M:look"⟩ ⟨_, by k_extra "M:look"⟩ ⟨_, by k_extra "M:look"⟩⟩
         · obtain ⟨vcell, hvc1, hvc2⟩ := hHV.2 spot hspot
           have hx9 : hv.toArray[((spot : Nat) : Int).toNat]? = some vcell := by simpa using hvc1
           cases hce : cell.isSome
           · cases hsp : (H spot).isSome
             · k_steps
               have e1 : cell = none := by cases cell with | none => rfl | some _ => exact nomatch hce
               have e2 : H spot = none := by cases hh : H spot with | none => rfl | some _ => rw [hh] at hsp; exact nomatch hsp
               have RK6 : RefsKV kvs5 H := by
                 have := RK5
                 rw [if_pos rfl, e1, setH_same e2] at this
                 exact this
               exact ⟨rfl, _, _, _, _, rfl, by k_asm, by k_asm, mid_at hR hD hO5 RK6 hHV hRV tale good hcr hcs3 tur (by omega) ap1 hoff saws (by k_extra "M:look") (by k_extra "M:look") (by k_extra "M:look") (by k_extra "M:look") ⟨_, by k_extra "M:look"⟩ ⟨_, by k_extra "M:look"⟩ ⟨_, by k_extra "M:look"⟩⟩
             · have hsome : ¬ (H spot = none ∧ cell = none) := fun ⟨a, _⟩ => by rw [a] at hsp; exact nomatch hsp
               k_steps
               unfold MStop
               rw [if_pos rfl] at RK5
               k_dflt (refine' append_row (more := [(_, _)]) (by k_asm) (by k_asm) ap1 ?k21_yz ?k21_yo ?k21_yh ⟨_, hcr⟩ ⟨_, hcs3⟩ (fun p hp => by rw [List.mem_singleton.mp hp]) ?k21_ya)
               (case k21_yz => exact Nat.le_trans (Nat.le_of_eq hRV.len) (by omega))
               (case k21_yo => exact isDict_cls hO5)
               (case k21_yh => exact rfl)
               intro h7 F7 N7 ap2
               change PyProof.Rows.News _ _ _ ((_, _) :: (_, _) :: (_, _) :: (_, _) :: (_, _) :: (_, _) :: (_, _) :: (_, _) :: _) at N7
               (try k_sweep)
               k_steps
               unfold MStop
               k_dflt (refine' set_held (more := [(_, _)]) (by k_asm) (by k_asm) ap2 hHV.1 hspot ?k21_yb)
               intro h8 F8 N8
               change PyProof.Rows.News _ _ _ ((_, _) :: (_, _) :: (_, _) :: (_, _) :: (_, _) :: (_, _) :: (_, _) :: (_, _) :: _) at N8
               (try k_sweep)
               k_steps
               have hTI := news_apart N8 (a := (_, tup _)) (b := (I, it)) (.tail _ (.tail _ (.tail _ (.tail _ (.tail _ (.tail _ (.head _))))))) (.tail _ (.tail _ (.tail _ (.tail _ (.tail _ (.tail _ (.tail _ (.head _)))))))) (by rw [show (I, it).2.cls = _ from hic]; exact type_ne (by decide))
               exact ⟨rfl, _, _, _, _, rfl, by k_asm, led7_swap N8, mid_at (.tail _ hR) (.tail _ hD) hO5 RK5 (hHV.store hcv hspot) (rows_snoc hRV hspot (RK.ok spot hspot) hcell hvc2 hcv) (tale.snoc spot cell) (good_snoc good ⟨hspot, hsome⟩) hcr hcs3 (.tail _ tur) (by simp; omega) ap2.swap (off_T hoff hTI) ((saws.snoc _).mono fun p hp => .tail _ hp) (by k_extra "M:look") (by k_extra "M:look") (by k_extra "M:look") (by k_extra "M:look") ⟨_, by k_extra "M:look"⟩ ⟨_, by k_extra "M:look"⟩ ⟨_, by k_extra "M:look"⟩⟩
           · have hsome : ¬ (H spot = none ∧ cell = none) := fun ⟨_, a⟩ => by rw [a] at hce; exact nomatch hce
             k_steps
             unfold MStop
             rw [if_pos rfl] at RK5
             k_dflt (refine' append_row (more := [(_, _)]) (by k_asm) (by k_asm) ap1 ?k21_vz ?k21_vo ?k21_vh ⟨_, hcr⟩ ⟨_, hcs3⟩ (fun p hp => by rw [List.mem_singleton.mp hp]) ?k21_va)
             (case k21_vz => exact Nat.le_trans (Nat.le_of_eq hRV.len) (by omega))
             (case k21_vo => exact isDict_cls hO5)
             (case k21_vh => exact rfl)
             intro h7 F7 N7 ap2
             change PyProof.Rows.News _ _ _ ((_, _) :: (_, _) :: (_, _) :: (_, _) :: (_, _) :: (_, _) :: (_, _) :: (_, _) :: _) at N7
             (try k_sweep)
             k_steps
             unfold MStop
             k_dflt (refine' set_held (more := [(_, _)]) (by k_asm) (by k_asm) ap2 hHV.1 hspot ?k21_vb)
             intro h8 F8 N8
             change PyProof.Rows.News _ _ _ ((_, _) :: (_, _) :: (_, _) :: (_, _) :: (_, _) :: (_, _) :: (_, _) :: (_, _) :: _) at N8
             (try k_sweep)
             k_steps
             have hTI := news_apart N8 (a := (_, tup _)) (b := (I, it)) (.tail _ (.tail _ (.tail _ (.tail _ (.tail _ (.tail _ (.head _))))))) (.tail _ (.tail _ (.tail _ (.tail _ (.tail _ (.tail _ (.tail _ (.head _)))))))) (by rw [show (I, it).2.cls = _ from hic]; exact type_ne (by decide))
             exact ⟨rfl, _, _, _, _, rfl, by k_asm, led7_swap N8, mid_at (.tail _ hR) (.tail _ hD) hO5 RK5 (hHV.store hcv hspot) (rows_snoc hRV hspot (RK.ok spot hspot) hcell hvc2 hcv) (tale.snoc spot cell) (good_snoc good ⟨hspot, hsome⟩) hcr hcs3 (.tail _ tur) (by simp; omega) ap2.swap (off_T hoff hTI) ((saws.snoc _).mono fun p hp => .tail _ hp) (by k_extra "M:look") (by k_extra "M:look") (by k_extra "M:look") (by k_extra "M:look") ⟨_, by k_extra "M:look"⟩ ⟨_, by k_extra "M:look"⟩ ⟨_, by k_extra "M:look"⟩⟩
       · have npt := deed_ne hDue hpt
         k_steps
         unfold MStop
         (rename Flg 71 => flq); clear flq
         have zF74 := U 74
         k_unmd
         k_dflt (refine' y_alike hal ?k18_wB ?k18_wF ?k18_wX ?k18_wN ?k18_wT rfl rfl ?k18_wd ?k18_wu ?k18_wA)
         (case k18_wN => k_asm)
         (case k18_wB => k_asm)
         (case k18_wF => k_asm)
         (case k18_wX => k_asm)
         (case k18_wT => k_asm)
         (case k18_wd => k_room)
         (case k18_wu => k_units)
         intro h6 tk6 F6 N6
         (try k_sweep)
         cases turned
         · k_steps
           exact ⟨rfl, _, _, _, _, rfl, by k_asm, by k_asm, mid_at hR hD hO5 RK5 hHV hRV tale good hcr hcs3 tur (by omega) ap1 hoff saws (by k_extra "M:look") (by k_extra "M:look") (by k_extra "M:look") (by k_extra "M:look") ⟨_, by k_extra "M:look"⟩ ⟨_, by k_extra "M:look"⟩ ⟨_, by k_extra "M:look"⟩⟩
         · obtain ⟨vcell, hvc1, hvc2⟩ := hHV.2 spot hspot
           have hx9 : hv.toArray[((spot : Nat) : Int).toNat]? = some vcell := by simpa using hvc1
           cases hce : cell.isSome
           · cases hsp : (H spot).isSome
             · k_steps
               have e1 : cell = none := by cases cell with | none => rfl | some _ => exact nomatch hce
               have e2 : H spot = none := by cases hh : H spot with | none => rfl | some _ => rw [hh] at hsp; exact nomatch hsp
               have RK6 : RefsKV kvs5 H := by
                 have := RK5
                 rw [if_pos rfl, e1, setH_same e2] at this
                 exact this
               exact ⟨rfl, _, _, _, _, rfl, by k_asm, by k_asm, mid_at hR hD hO5 RK6 hHV hRV tale good hcr hcs3 tur (by omega) ap1 hoff saws (by k_extra "M:look") (by k_extra "M:look") (by k_extra "M:look") (by k_extra "M:look") ⟨_, by k_extra "M:look"⟩ ⟨_, by k_extra "M:look"⟩ ⟨_, by k_extra "M:look"⟩⟩
             · have hsome : ¬ (H spot = none ∧ cell = none) := fun ⟨a, _⟩ => by rw [a] at hsp; exact nomatch hsp
               k_steps
               unfold MStop
               (rename Flg 74 => flq); clear flq
               rw [if_pos rfl] at RK5
               k_dflt (refine' append_row (more := [(_, _)]) (by k_asm) (by k_asm) ap1 ?k19_yz ?k19_yo ?k19_yh ⟨_, hcr⟩ ⟨_, hcs3⟩ (fun p hp => by rw [List.mem_singleton.mp hp]) ?k19_ya)
               (case k19_yz => exact Nat.le_trans (Nat.le_of_eq hRV.len) (by omega))
               (case k19_yo => exact isDict_cls hO5)
               (case k19_yh => exact rfl)
               intro h7 F7 N7 ap2
               change PyProof.Rows.News _ _ _ ((_, _) :: (_, _) :: (_, _) :: (_, _) :: (_, _) :: (_, _) :: (_, _) :: (_, _) :: _) at N7
               (try k_sweep)
               k_steps
               unfold MStop
               k_dflt (refine' set_held (more := [(_, _)]) (by k_asm) (by k_asm) ap2 hHV.1 hspot ?k19_yb)
               intro h8 F8 N8
               change PyProof.Rows.News _ _ _ ((_, _) :: (_, _) :: (_, _) :: (_, _) :: (_, _) :: (_, _) :: (_, _) :: (_, _) :: _) at N8
               (try k_sweep)
               k_steps
               have hTI := news_apart N8 (a := (_, tup _)) (b := (I, it)) (.tail _ (.tail _ (.tail _ (.tail _ (.tail _ (.tail _ (.head _))))))) (.tail _ (.tail _ (.tail _ (.tail _ (.tail _ (.tail _ (.tail _ (.head _)))))))) (by rw [show (I, it).2.cls = _ from hic]; exact type_ne (by decide))
               exact ⟨rfl, _, _, _, _, rfl, by k_asm, led7_swap N8, mid_at (.tail _ hR) (.tail _ hD) hO5 RK5 (hHV.store hcv hspot) (rows_snoc hRV hspot (RK.ok spot hspot) hcell hvc2 hcv) (tale.snoc spot cell) (good_snoc good ⟨hspot, hsome⟩) hcr hcs3 (.tail _ tur) (by simp; omega) ap2.swap (off_T hoff hTI) ((saws.snoc _).mono fun p hp => .tail _ hp) (by k_extra "M:look") (by k_extra "M:look") (by k_extra "M:look") (by k_extra "M:look") ⟨_, by k_extra "M:look"⟩ ⟨_, by k_extra "M:look"⟩ ⟨_, by k_extra "M:look"⟩⟩
           · have hsome : ¬ (H spot = none ∧ cell = none) := fun ⟨_, a⟩ => by rw [a] at hce; exact nomatch hce
             k_steps
             unfold MStop
             (rename Flg 74 => flq); clear flq
             rw [if_pos rfl] at RK5
             k_dflt (refine' append_row (more := [(_, _)]) (by k_asm) (by k_asm) ap1 ?k20_yz ?k20_yo ?k20_yh ⟨_, hcr⟩ ⟨_, hcs3⟩ (fun p hp => by rw [List.mem_singleton.mp hp]) ?k20_ya)
             (case k20_yz => exact Nat.le_trans (Nat.le_of_eq hRV.len) (by omega))
             (case k20_yo => exact isDict_cls hO5)
             (case k20_yh => exact rfl)
             intro h7 F7 N7 ap2
             change PyProof.Rows.News _ _ _ ((_, _) :: (_, _) :: (_, _) :: (_, _) :: (_, _) :: (_, _) :: (_, _) :: (_, _) :: _) at N7
             (try k_sweep)
             k_steps
             unfold MStop
             k_dflt (refine' set_held (more := [(_, _)]) (by k_asm) (by k_asm) ap2 hHV.1 hspot ?k20_yb)
             intro h8 F8 N8
             change PyProof.Rows.News _ _ _ ((_, _) :: (_, _) :: (_, _) :: (_, _) :: (_, _) :: (_, _) :: (_, _) :: (_, _) :: _) at N8
             (try k_sweep)
             k_steps
             have hTI := news_apart N8 (a := (_, tup _)) (b := (I, it)) (.tail _ (.tail _ (.tail _ (.tail _ (.tail _ (.tail _ (.head _))))))) (.tail _ (.tail _ (.tail _ (.tail _ (.tail _ (.tail _ (.tail _ (.head _)))))))) (by rw [show (I, it).2.cls = _ from hic]; exact type_ne (by decide))
             exact ⟨rfl, _, _, _, _, rfl, by k_asm, led7_swap N8, mid_at (.tail _ hR) (.tail _ hD) hO5 RK5 (hHV.store hcv hspot) (rows_snoc hRV hspot (RK.ok spot hspot) hcell hvc2 hcv) (tale.snoc spot cell) (good_snoc good ⟨hspot, hsome⟩) hcr hcs3 (.tail _ tur) (by simp; omega) ap2.swap (off_T hoff hTI) ((saws.snoc _).mono fun p hp => .tail _ hp) (by k_extra "M:look") (by k_extra "M:look") (by k_extra "M:look") (by k_extra "M:look") ⟨_, by k_extra "M:look"⟩ ⟨_, by k_extra "M:look"⟩ ⟨_, by k_extra "M:look"⟩⟩
     case k16_xL =>
       intro hpt hfo tv h5 tk5 F5 N5
       subst hpt
       (try k_sweep)
       k_steps
       unfold MStop
       (rename Flg 71 => flq); clear flq
       have zF75 := U 75
       k_unmd
       k_dflt (refine' c_chains ?k22_yB ?k22_yF ?k22_yX ?k22_yN ?k22_yT rfl rfl ?k22_yd ?k22_yu ?k22_yH hHV RK.ok ?k22_yA)
       (case k22_yN => k_asm)
       (case k22_yB => k_asm)
       (case k22_yF => k_asm)
       (case k22_yX => k_asm)
       (case k22_yT => k_asm)
       (case k22_yd => k_room)
       (case k22_yu => k_units)
       (case k22_yH => k_extra "M:in")
       intro Fd fo f frest h6 tk6 lo hsub hF hfound F6 N6
       (try k_sweep)
       k_steps
       unfold MStop
       have hfv := (hfound spot hspot).2 (fun z => z hfo)
       rename News _ _ _ ((Fd, _) :: _) => N7
       k_dflt (refine' notin_F (r := false) N7 (.head _) lo hF (by rw [hfv]; rfl) ?_)
       have N8 := cb_drop N7 (fun p hp => List.Mem.tail _ (hsub p hp))
       clear N7
       change PyProof.Rows.News _ _ _ ((_, _) :: (_, _) :: (_, _) :: (_, _) :: (_, _) :: (_, _) :: (_, _) :: _) at N8
       k_steps
       unfold MStop
       (rename Flg 75 => flq); clear flq
       k_dflt (refine' y_alike (.str "loop" _ _ (.inr (.inr rfl))) ?k23_wB ?k23_wF ?k23_wX ?k23_wN ?k23_wT rfl rfl ?k23_wd ?k23_wu ?k23_wA)
       (case k23_wN => k_asm)
       (case k23_wB => k_asm)
       (case k23_wF => k_asm)
       (case k23_wX => k_asm)
       (case k23_wT => k_asm)
       (case k23_wd => k_room)
       (case k23_wu => k_units)
       intro h7 tk7 F7 N7
       (try k_sweep)
       k_steps
       rename News _ _ _ ((_, tup _) :: _) => N8
       have N9 := cb_drop N8 (fun _ hp => List.Mem.tail _ hp)
       exact ⟨rfl, _, _, _, _, rfl, by k_asm, N9, mid_at hR hD hO RK hHV hRV tale good hcr hcs3 tur (by omega) ap1 hoff saws (by k_extra "M:look") (by k_extra "M:look") (by k_extra "M:look") (by k_extra "M:look") ⟨_, by k_extra "M:look"⟩ ⟨_, by k_extra "M:look"⟩ ⟨_, by k_extra "M:look"⟩⟩))) only [↓Kn]
theorem st_g11 : Dom22 st_g7 := by
    refine Kf ?_
    simp (disch := (refine @id _ ?_; k_dflt (
     intro _ _ _ _ _ _ _ _ _ _ _ _ _ _ _ _ _ _ _ _ _ _ _ _ _ _ _ _ _ _ _ _ _ _ _ _ _ _ _ _ _ _ _ _ _ _ _ _ _ _ _ _ _ _ qk ek _ _ _ _ _ _ _ _ _ _ ys _ _ _ _ _ _ n tn h1 tk1 hn h'w tkqw mqw _ _ _ _ _ _ _ _ _ _ _ _ _ _ _ _ _ _ _ _ _ _ lifted lifted lifted lifted qk ek tkq _ tkq _ _ _ _ _ _ _ _ _ _ _ _ _ _ D'w h'w l1w _ _ _ D'w h'w l1w D'w h'w l1w _ h'w tkqw mqw h'w tkqw mqw _ _ _ t'w k'w t'w k'w t'w k'w D'w h'w l1w _ h'w tkqw mqw h'w tkqw mqw qk ek t'w k'w _ _ _ _ _ _ _ qk ek hn1 hn2 m₁ h tk H rows o kvs hv hc rv rc Rl ocr ocs rest cx t4 t5 t6 t'w k'w t'w k'w h'w tkqw mqw r7 r8 h' tk' m' H rows o kvs hv hc rv rc Rl ocr ocs rest cx t4 t5 t6 hst v1 te h2 tk2 h'w tkqw mqw h3 tk3 tnw knw D'w h'w l1w D'w h'w l1w D'w h'w h'w tkqw mqw h' tk' m' H rows o kvs hv hc rv rc sv sc Rl ocr ocs rest cx hy5 hcut hszc hsum _ _ _ _ _ _ _ D'w h'w l1w _ _ _ hIX h'w tkqw mqw qk ek _ _ _ _ _ _ _ hTV hlen _ _ _ i I it t m₁ h tk hic hi H rows o kvs hv hc rv rc sv sc Rl ocr ocs rest ap tur saws few m1 m2 m3 m4 hR hD hO RK hHV hRV tale good hcr cx hcs off ap1 nn tn2 hx0 hn20 hi6 hc7 D'w h'w t1'w t2'w tk'w _ h'w tkqw mqw h'w tkqw mqw D'w h'w t1'w t2'w tk'w _ h'w tkqw mqw h'w tkqw mqw D'w h'w t1'w t2'w tk'w _ h'w tkqw mqw h'w tkqw mqw D'w h'w t1'w t2'w tk'w _ h'w tkqw mqw h'w tkqw mqw D'w h'w t1'w t2'w tk'w _ h'w tkqw mqw h'w tkqw mqw t'w k'w t'w h'w tk'w h'w tkqw mqw F'w Nc hhand hpick hother hoff Sw sp scl idx ts1 ts2 sval hx1 hSw hsv hsok h' tk' m' nx F' N' jX
     have zF10 := U 10; have zF2 := U 2; have zF3 := U 3; have zF16 := U 16; have zF8 := U 8; have zF48 := U 48; have zF63 := U 63
     have zF76 := U 76
     k_unmd
     clear hR hD hO RK hHV hRV tale good hcr hcs ap ap1 off hoff tur saws few m1 m2 m3 m4 Sw sp scl idx ts1 ts2 sval hx1 hSw hsv hsok
     obtain ⟨H, rows, o, kvs, hv, hc, rv, rc, sv, sc, Rl, ocr, ocs, rest, rfl, ⟨⟨hR, hD, hO, RK, hHV, hRV, tale, good, hcr⟩, ⟨cx, hcs⟩, ap, tur, saws, few, off, m1, m2, m3, m4, ⟨t5, m5⟩, ⟨t6, m6⟩, ⟨t7, m7⟩⟩⟩ := jX
     dsimp only at hR hD hcr ap m1 m2 N'
     k_steps
     unfold MStop
     k_dflt (refine' c_same ?k24_wB ?k24_wF ?k24_wX ?k24_wN ?k24_wT rfl rfl ?k24_wd ?k24_wu ?k24_wR ?k24_wD ?k24_wA ?k24_wO ?k24_wS ?k24_wK ?k24_wH hHV ?k24_wq)
     (case k24_wK => exact RK)
     (case k24_wO => exact hO)
     (case k24_wN => k_asm)
     (case k24_wB => k_asm)
     (case k24_wF => k_asm)
     (case k24_wX => k_asm)
     (case k24_wT => k_asm)
     (case k24_wd => k_room)
     (case k24_wu => k_units)
     (case k24_wR => exact .tail _ (.tail _ (.tail _ (.tail _ (.tail _ (.tail _ (.tail _ hR)))))))
     (case k24_wD => exact .tail _ (.tail _ (.tail _ (.tail _ (.tail _ (.tail _ (.tail _ hD)))))))
     (case k24_wA => exact .head _)
     (case k24_wS => assumption)
     (case k24_wH => exact .tail _ (.head _))
     intro h3 tk3 F3 N3
     (try k_sweep)
     k_steps
     (rename Flg 76 => flq); clear flq
     unfold MStop
     have hz1 : rv.toArray.size = rows.length := by simpa using hRV.len
     have hz2 : rows.length ≤ 20 := by omega
     have hhand2 : nn % 3 < 3 := Nat.mod_lt _ (by decide)
     have hgz : nn / 3 / 10 / 7 / 7 % 7 < 7 := Nat.mod_lt _ (by decide)
     k_dflt (refine' int_join (p := fun e => e ≤ 7) F3 N3 ?k25_yx ?k25_yy)
     case k25_yx =>
       by_cases e1 : nn / 3 / 10 / 7 / 7 / 7 = 1
       · have hV : (((nn / 3 / 10 / 7 / 7 / 7 : Nat) : Int) == 1) = true := by rw [e1]; rfl
         k_steps
         exact ⟨_, _, _, _, rfl, Nat.le_of_lt hgz, rfl, F3, N3⟩
       · have hV : (((nn / 3 / 10 / 7 / 7 / 7 : Nat) : Int) == 1) = false := by rw [beq_eq_false_iff_ne]; omega
         have hend := seenN_le RK.ok hgz
         k_steps
         unfold MStop
         k_dflt (refine' y_seen ?k25_yB ?k25_yF ?k25_yX ?k25_yN ?k25_yT rfl rfl ?k25_yd ?k25_yu ?k25_yR ?k25_yD ?k25_yA ?k25_yO ?k25_yS ?k25_yK ?k25_yH hHV hgz ?k25_yq)
         (case k25_yK => exact RK)
         (case k25_yO => exact hO)
         (case k25_yN => k_asm)
         (case k25_yB => k_asm)
         (case k25_yF => k_asm)
         (case k25_yX => k_asm)
         (case k25_yT => k_asm)
         (case k25_yd => k_room)
         (case k25_yu => k_units)
         (case k25_yR => exact .tail _ (.tail _ (.tail _ (.tail _ (.tail _ (.tail _ (.tail _ hR)))))))
         (case k25_yD => exact .tail _ (.tail _ (.tail _ (.tail _ (.tail _ (.tail _ (.tail _ hD)))))))
         (case k25_yA => exact .head _)
         (case k25_yS => assumption)
         (case k25_yH => exact .tail _ (.head _))
         intro te h2 tk2 F2 N2
         exact ⟨_, _, _, _, rfl, hend, rfl, F2, N2⟩
     case k25_yy =>
       intro e te h4 tk4 he F4 N4
       (try k_sweep)
       rcases Nat.lt_or_ge e 7 with hs7 | hs7
       · obtain ⟨v2, hx2, hc2⟩ := held_at hHV hs7
         have hV : decide ((e : Int) < 7) = true := by simp; omega
         k_steps
         unfold MStop
         k_dflt (refine' set_saws (j := nn % 3) (by k_asm) (by k_asm) ap saws.1 hhand2 (isDict_cls hO) rfl rfl ⟨_, hcr⟩ ⟨_, hcs⟩ ?_)
         intro h5 F5 N5 ap2
         (try k_sweep)
         k_steps
         have hTI := news_apart N5 (a := (_, tup _)) (b := (I, it)) (.tail _ (.tail _ (.tail _ (.tail _ (.tail _ (.tail _ (.head _))))))) (.tail _ (.tail _ (.tail _ (.tail _ (.tail _ (.tail _ (.tail _ (.head _)))))))) (by rw [show (I, it).2.cls = _ from hic]; exact type_ne (by decide))
         refine ⟨_, _, _, _, rfl, F5, led6_outT N5, off_it (named := [(_, _), (_, _), (_, _), (_, _), (_, _), (_, _)]) rfl ap2 off hTI, ?_⟩
         exact turn_at (.tail _ hR) (.tail _ hD) hO RK hHV (hRV.mono fun p hp => .tail _ hp) tale good hcr hcs (.tail _ tur) few ap2.out ((saws.mono fun p hp => .tail _ hp).store hhand2 (.head _) hc2 (SawOk.now tale hs7 (RK.ok _ hs7))) (by k_extra "M:look") (by k_extra "M:look") (by k_extra "M:look") (by k_extra "M:look")
       · have hV : decide ((e : Int) < 7) = false := by simp; omega
         k_steps
         rename News _ _ _ ((_, o) :: _) => Nz
         rename Fr _ _ _ _ => Fz
         refine ⟨_, _, _, _, rfl, Fz, led6_out Nz, off_it0 (named := [(_, _), (_, _), (_, _), (_, _), (_, _), (_, _)]) rfl ap off, ?_⟩
         exact turn_at hR hD hO RK hHV hRV tale good hcr hcs tur few ap.drop saws (by k_extra "M:look") (by k_extra "M:look") (by k_extra "M:look") (by k_extra "M:look")))) only [↓Kn]
def st_g8 := fun (hh_g12 : Lock _) (hh_g13 : Lock _) => (by
    intro _ _ _ _ _ _ _ _ _ _ _ _ _ _ _ _ _ _ _ _ _ _ _ _ _ _ _ _ _ _ _ _ _ _ _ _ _ _ _ _ _ _ _ _ _ _ _ _ _ _ _ _ _ _ qk ek _ _ _ _ _ _ _ _ _ _ ys _ _ _ _ _ _ n tn h1 tk1 hn h'w tkqw mqw _ _ _ _ _ _ _ _ _ _ _ _ _ _ _ _ _ _ _ _ _ _ lifted lifted lifted lifted qk ek tkq _ tkq _ _ _ _ _ _ _ _ _ _ _ _ _ _ D'w h'w l1w _ _ _ D'w h'w l1w D'w h'w l1w _ h'w tkqw mqw h'w tkqw mqw _ _ _ t'w k'w t'w k'w t'w k'w D'w h'w l1w _ h'w tkqw mqw h'w tkqw mqw qk ek t'w k'w _ _ _ _ _ _ _ qk ek hn1 hn2 m₁ h tk H rows o kvs hv hc rv rc Rl ocr ocs rest cx t4 t5 t6 t'w k'w t'w k'w h'w tkqw mqw r7 r8 h' tk' m' H rows o kvs hv hc rv rc Rl ocr ocs rest cx t4 t5 t6 hst v1 te h2 tk2 h'w tkqw mqw h3 tk3 tnw knw D'w h'w l1w D'w h'w l1w D'w h'w h'w tkqw mqw h' tk' m' H rows o kvs hv hc rv rc sv sc Rl ocr ocs rest ap num saws few m1 m2 m3 m4 hR hD hO RK hHV hRV tale good hcr cx hcs hy5 hcut hszc hsum _ _ _ _ _ _ _ D'w h'w l1w _ _ _ hIX h'w tkqw mqw qk ek _ _ _ _ _ _ _ _ _ hTV hlen _ _ e1 e2 e3 e4 e5 e6 _
    have zF10 := U 10; have zF2 := U 2; have zF3 := U 3; have zF16 := U 16; have zF8 := U 8; have zF48 := U 48; have zF63 := U 63
    have zF77 := U 77
    k_unmd
    clear hR hD hO RK hHV hRV tale good hcr hcs ap num saws few m1 m2 m3 m4 e1 e2 e3 e4 e5 e6
    rintro m₁ nx h tk ⟨H, rows, o, kvs, hv, hc, rv, rc, sv, sc, Rl, ocr, ocs, rest, rfl, ⟨⟨hR, hD, hO, RK, hHV, hRV, tale, good, hcr⟩, ⟨cx, hcs⟩, ap, tur, saws, few, m1, m2, m3, m4⟩⟩ F₁ N₁
    dsimp only at hR hD hcr ap m1 m2 N₁
    change PyProof.Rows.Fr _ (Array.size _) _ _ at F₁
    change PyProof.Rows.News _ (Array.size _) _ _ at N₁
    k_steps
    unfold MStop
    (rename Flg 77 => flq); clear flq
    k_dflt (refine' c_chains ?k27_yB ?k27_yF ?k27_yX ?k27_yN ?k27_yT rfl rfl ?k27_yd ?k27_yu ?k27_yH hHV RK.ok ?k27_yA)
    (case k27_yN => k_asm)
    (case k27_yB => k_asm)
    (case k27_yF => k_asm)
    (case k27_yX => k_asm)
    (case k27_yT => k_asm)
    (case k27_yd => k_room)
    (case k27_yu => k_units)
    (case k27_yH => k_extra "M:in")
    intro Fd fo f frest h2 tk2 lo hsub hF hfound F2 N2
    (try k_sweep)
    k_steps
    have zF78 := U 78
    k_steps
    unfold MStop
    (rename Flg 78 => flq); clear flq
    rename ∀ p ∈ (_, _) :: (Fd, fo) :: frest, p.1 ≠ _ => offK
    rename ∀ p ∈ (Fd, fo) :: frest, p.1 ≠ _ => offE
    rename News _ _ _ ((_, _) :: (_, _) :: (_, _) :: (Fd, fo) :: frest) => Nw
    have hCs := hsub (_, ocs) (.tail _ (.tail _ (.tail _ (.tail _ (.head _)))))
    have apE := ends_off offE offK hCs
    have N3 := ends_news Nw hCs
    have hfound2 := ((hfound.wide (fun p hp => List.Mem.tail (Fd, fo) hp)).besides Nw (fun p hp => .tail _ (.tail _ (.tail _ hp))) (.tail _ (.tail _ (.tail _ (.tail _ hCs)))) hcs)
    have bes : ∀ q ∈ frest, (∀ y, q.2.data ≠ .cell y) → q ∈ besides _ ((Fd, fo) :: frest) := fun q hq hn => besides_in Nw (.tail _ hq) (fun p hp => .tail _ (.tail _ (.tail _ hp))) (.tail _ (.tail _ (.tail _ (.tail _ hCs)))) hcs hn
    have hbF := besides_in Nw (.head _) (fun p hp => .tail _ (.tail _ (.tail _ hp))) (.tail _ (.tail _ (.tail _ (.tail _ hCs)))) hcs (dictF_nocell hF)
    have hbA := bes _ (hsub _ (.head _)) (isDict_nocell hO)
    have hbH := bes _ (hsub _ (.tail _ (.head _))) (fun y z => nomatch z)
    have hbRl := bes _ (hsub _ (.tail _ (.tail _ (.head _)))) (fun y z => nomatch z)
    have hbR := bes _ (hsub _ (.tail _ (.tail _ (.tail _ (.tail _ (.tail _ (.tail _ hR))))))) (fun y z => nomatch z)
    have hbD := bes _ (hsub _ (.tail _ (.tail _ (.tail _ (.tail _ (.tail _ (.tail _ hD))))))) (fun y z => nomatch z)
    have hbT := bes _ (hsub _ (.tail _ (.tail _ (.tail _ (.tail _ (.tail _ (.tail _ tur))))))) (fun y z => nomatch z)
    have hbC := mem_besides.mpr ⟨(List.Mem.tail (Fd, fo) (hsub _ (.tail _ (.tail _ (.tail _ (.head _))))) : (_, ocr) ∈ _), cr_cs ap⟩
    clear bes
    rename Obj.IsDictOf (intKind _ _) _ _ => hi1
    rename Obj.IsDictOf (intKind _ _) _ _ => hi2
    refine' loop_rangeT (n := 7) _ rfl (by assumption) (by decide) (by decide) (by k_asm) N3 (jend_start (H := H) hcs (by assumption) (by assumption)) ?k29_zt ?k29_zd
    case k29_zt =>
      repeat (rename Flg _ => flq; clear flq)
      rename_i z1 z2 z3 z4 z5 _ _ z8 z9 za zb _ _ _ _ _ _ _ _ _ _ zm zn _ zp zq _ zs _ zu _ zw zx zy zz z10 z11 z12 _ _ _ _ _ _ _ _ _ z1c z1d z1e z1f _ _ _ _ _ z1l z1m z1n _ _ _ _ _ _ z1u _ _ z1x z1y z1z _ z21 z22 _ z24 z25 z26 _ _ z29 _ z2b _ z2d z2e z2f _ _ _ _ z2k z2l z2m _ _ _ _ _ _ _ _ z2v z2w z2x z2y z2z _ _ z32 _ z34 _ z36 _ _ _ _ z3b z3c _ z3e z3f _ z3h z3i _ z3k z3l _ z3n z3o z3p _ z3r z3s _ z3u z3v _ z3x z3y z3z z40 z41 z42 z43 z44 _ z46 z47 z48 _ z4a z4b _ _ _ z4f z4g z4h z4i z4j z4k z4l _ _ _ _ z4q z4r z4s z4t z4u z4v z4w z4x z4y z4z z50 z51 z52 z53 z54 z55 z56 z57 z58 z59 z5a z5b z5c _ z5e z5f z5g z5h z5i z5j z5k z5l z5m z5n z5o z5p z5q z5r z5s z5t z5u z5v z5w z5x _ z5z z60 _ z62 z63 _ z65 z66 z67 z68 _ z6a z6b z6c z6d z6e z6f z6g z6h z6i z6j z6k z6l z6m z6n z6o z6p z6q z6r _ _ _ _ z6w z6x _ z6z z70 z71 z72 z73 _ z75 z76 z77 z78 z79 _ _ _ _ _ z7f z7g _ _ z7j _ z7l z7m z7n _ _ z7q z7r z7s z7t z7u z7v _ z7x z7y _ z80 z81 z82 z83 z84 _ _ _
      revert z1 z2 z3 z4 z5 z8 z9 za zb zm zn zp zq zs zu zw zx zy zz z10 z11 z12 z1c z1d z1e z1f z1l z1m z1n z1u ys z1x z1y z1z n tn h1 tk1 z21 z22 z24 z25 z26 z29 z2b z2d z2e z2f z2k z2l z2m z2v z2w tkq z2x z2y z2z z32 z34 z36 z3b z3c z3e z3f z3h z3i z3k z3l z3n z3o z3p z3r z3s z3u z3v z3x z3y z3z z40 z41 z42 z43 z44 z46 z47 z48 z4a z4b z4f z4g z4h z4i z4j z4k z4l z4q z4r z4s z4t z4u z4v z4w z4x z4y z4z z50 z51 z52 z53 z54 z55 z56 z57 z58 z59 z5a t'w k'w z5b z5c z5e z5f z5g z5h z5i z5j z5k z5l z5m z5n z5o z5p z5q z5r z5s z5t t4 t5 t6 v1 te z5u z5v z5w z5x h3 tk3 tnw knw z5z z60 z62 z63 z65 z66 z67 z68 h' tk' m' z6a z6b z6c z6d z6e z6f z6g z6h z6i z6j z6k z6l z6m z6n z6o z6p z6q z6r z6w z6x z6z z70 z71 z72 z73 z75 z76 z77 z78 z79 m₁ h tk H rows o kvs hv hc rv rc sv sc Rl ocr ocs rest cx Fd fo f frest h2 tk2 z7f z7g z7j z7l z7m z7n z7q z7r D'w z7s z7t z7u z7v z7x z7y h'w tkqw z80 z81 z82 z83 z84
      exact Lock.out hh_g12
    case k29_zd =>
      repeat (rename Flg _ => flq; clear flq)
      rename_i z1 z2 z3 z4 z5 _ _ z8 z9 za zb _ _ _ _ _ _ _ _ _ _ zm zn _ zp zq _ zs _ zu _ zw zx zy zz z10 z11 z12 _ _ _ _ _ _ _ _ _ z1c z1d z1e z1f _ _ _ _ _ z1l z1m z1n _ _ _ _ _ _ z1u _ _ z1x z1y z1z _ z21 z22 _ z24 z25 z26 _ _ z29 _ z2b _ z2d z2e z2f _ _ _ _ z2k z2l z2m _ _ _ _ _ _ _ _ z2v z2w z2x z2y z2z _ _ z32 _ z34 _ z36 _ _ _ _ z3b z3c _ z3e z3f _ z3h z3i _ z3k z3l _ z3n z3o z3p _ z3r z3s _ z3u z3v _ z3x z3y z3z z40 z41 z42 z43 z44 _ z46 z47 z48 _ z4a z4b _ _ _ z4f z4g z4h z4i z4j z4k z4l _ _ _ _ z4q z4r z4s z4t z4u z4v z4w z4x z4y z4z z50 z51 z52 z53 z54 z55 z56 z57 z58 z59 z5a z5b z5c _ z5e z5f z5g z5h z5i z5j z5k z5l z5m z5n z5o z5p z5q z5r z5s z5t z5u z5v z5w z5x _ z5z z60 _ z62 z63 _ z65 z66 z67 z68 _ z6a z6b z6c z6d z6e z6f z6g z6h z6i z6j z6k z6l z6m z6n z6o z6p z6q z6r _ _ _ _ z6w z6x _ z6z z70 z71 z72 z73 _ z75 z76 z77 z78 z79 _ _ _ _ _ z7f z7g _ _ z7j _ z7l z7m z7n _ _ z7q z7r z7s z7t z7u z7v _ z7x z7y _ z80 z81 z82 z83 z84 _ _ _
      revert z1 z2 z3 z4 z5 z8 z9 za zb zm zn zp zq zs zu zw zx zy zz z10 z11 z12 z1c z1d z1e z1f z1l z1m z1n z1u ys z1x z1y z1z n tn h1 tk1 z21 z22 z24 z25 z26 z29 z2b z2d z2e z2f z2k z2l z2m z2v z2w tkq z2x z2y z2z z32 z34 z36 z3b z3c z3e z3f z3h z3i z3k z3l z3n z3o z3p z3r z3s z3u z3v z3x z3y z3z z40 z41 z42 z43 z44 z46 z47 z48 z4a z4b z4f z4g z4h z4i z4j z4k z4l z4q z4r z4s z4t z4u z4v z4w z4x z4y z4z z50 z51 z52 z53 z54 z55 z56 z57 z58 z59 z5a t'w k'w z5b z5c z5e z5f z5g z5h z5i z5j z5k z5l z5m z5n z5o z5p z5q z5r z5s z5t t4 t5 t6 v1 te z5u z5v z5w z5x h3 tk3 tnw knw z5z z60 z62 z63 z65 z66 z67 z68 h' tk' m' z6a z6b z6c z6d z6e z6f z6g z6h z6i z6j z6k z6l z6m z6n z6o z6p z6q z6r z6w z6x z6z z70 z71 z72 z73 z75 z76 z77 z78 z79 m₁ h tk H rows o kvs hv hc rv rc sv sc Rl ocr ocs rest cx Fd fo f frest h2 tk2 z7f z7g z7j z7l z7m z7n z7q z7r D'w z7s z7t z7u z7v z7x z7y h'w tkqw z80 z81 z82 z83 z84
      exact Lock.out hh_g13 : Dom22 st_g6)
theorem st_g12 : Dom21 st_g8 := by
    refine Kf ?_
    simp (disch := (refine @id _ ?_; k_dflt (
     intro _ _ _ _ _ _ _ _ _ _ _ _ _ _ _ _ _ _ _ _ _ _ _ _ _ _ _ _ _ _ _ _ _ _ _ _ _ _ _ _ _ _ _ _ _ _ _ _ _ _ _ _ _ _ qk ek _ _ _ _ _ _ _ _ _ _ ys _ _ _ _ _ _ n tn h1 tk1 hn h'w tkqw mqw _ _ _ _ _ _ _ _ _ _ _ _ _ _ _ _ _ _ _ _ _ _ lifted lifted lifted lifted qk ek tkq _ tkq _ _ _ _ _ _ _ _ _ _ _ _ _ _ D'w h'w l1w _ _ _ D'w h'w l1w D'w h'w l1w _ h'w tkqw mqw h'w tkqw mqw _ _ _ t'w k'w t'w k'w t'w k'w D'w h'w l1w _ h'w tkqw mqw h'w tkqw mqw qk ek t'w k'w _ _ _ _ _ _ _ qk ek hn1 hn2 m₁ h tk H rows o kvs hv hc rv rc Rl ocr ocs rest cx t4 t5 t6 t'w k'w t'w k'w h'w tkqw mqw r7 r8 h' tk' m' H rows o kvs hv hc rv rc Rl ocr ocs rest cx t4 t5 t6 hst v1 te h2 tk2 h'w tkqw mqw h3 tk3 tnw knw D'w h'w l1w D'w h'w l1w D'w h'w h'w tkqw mqw h' tk' m' H rows o kvs hv hc rv rc sv sc Rl ocr ocs rest cx hy5 hcut hszc hsum _ _ _ _ _ _ _ D'w h'w l1w _ _ _ hIX h'w tkqw mqw qk ek _ _ _ _ _ _ _ hTV hlen _ _ _ m₁ h tk H rows o kvs hv hc rv rc sv sc Rl ocr ocs rest ap tur saws few m1 m2 m3 m4 hR hD hO RK hHV hRV tale good hcr cx hcs Fd fo f frest h2 tk2 lo hsub hF hfound _ _ _ _ _ _ _ offE _ _ _ _ _ hi2 _ offK D'w h'w l1w _ h'w tkqw mqw h'w tkqw mqw h'w tkqw mqw _ _ _ _ _ _ _ Nw _ hCs apE N3 hfound2 hbF hbA hbH hbRl hbR hbD hbT hbC
     have zF10 := U 10; have zF2 := U 2; have zF3 := U 3; have zF16 := U 16; have zF8 := U 8; have zF48 := U 48; have zF63 := U 63
     k_unmd
     rintro i I it t m9 nx ⟨h, gs, dr, tk, os⟩ hic hi ⟨rfl, oc1, oe, ok, ke, kk, rfl, ⟨cx1, hc1⟩, hE, kE, hK, kK⟩ off F₁ N₁
     rw [show (0 : Int) + (i : Int) * 1 = ((i : Nat) : Int) from by omega]
     dsimp only at F₁ N₁
     change PyProof.Rows.Fr _ (Array.size _) _ _ at F₁
     change PyProof.Rows.News _ (Array.size _) _ _ at N₁
     k_steps
     unfold MStop
     have zF79 := U 79
     k_dflt (refine' store_all (by k_asm) (by k_asm) rfl (.tail _ (.head _)) hc1 ?_ rfl rfl)
     intro h3 oc2 F3 N3w hc2
     have N3 := spot_news apE off N3w
     clear N3w
     (try k_sweep)
     k_steps
     unfold MStop
     refine spot_join F3 N3 hE kE ?k31_yx ?k31_yy
     case k31_yx =>
       (rename Flg 79 => flq); clear flq
       have zF80 := U 80
       k_unmd
       rcases hfo : fol H 5 i with _ | ⟨ks, c⟩
       · have hfv := (hfound2 i hi).2 (fun z => z hfo)
         have hr0 : (f i).isSome = false := by rw [hfv]; rfl
         k_steps
         exact ⟨rfl, _, _, _, _, rfl, by k_asm, by k_asm, rfl, oe, ke, rfl, hE, by rw [upto_skip (by rw [ends_none hfo]; rfl)]; exact kE⟩
       · obtain ⟨v, hfv, T, l, ev, vs, n, ks', c', rfl, mT, ml, hks, hev, hfo'⟩ := (hfound2 i hi).1 (by show fol H 5 i ≠ none; rw [hfo]; exact fun z => nomatch z)
         rw [hfo] at hfo'
         obtain ⟨rfl, rfl⟩ := Prod.mk.inj (Option.some.inj hfo')
         have hr0 : (f i).isSome = true := by rw [hfv]; rfl
         rcases fol_end hfo with rfl | ⟨x, rfl⟩
         · have hr1 : Option.isSome (none : Cell) = false := rfl
           k_steps
           exact ⟨rfl, _, _, _, _, rfl, by k_asm, by k_asm, rfl, oe, ke, rfl, hE, by rw [upto_skip (by rw [ends_of hfo]; rfl)]; exact kE⟩
         · have hr1 : Option.isSome (some (.inr x) : Cell) = true := rfl
           obtain ⟨tx, rfl⟩ := hev
           k_steps
           unfold MStop
           (rename Flg 80 => flq); clear flq
           k_dflt (refine' set_link (i := i) (c := lv x) (ka := ke) (by k_asm) (by k_asm) (.tail _ (.head _)) hE kE hi ?_)
           intro oe5 ke5 h5 tk5 hE5 kE5 F5 N5w
           have N5 := spot_set apE (fun e => off _ (.tail _ (.head _)) e.symm) N5w
           clear N5w
           (try k_sweep)
           k_steps
           exact ⟨rfl, _, _, _, _, rfl, by k_asm, by k_asm, rfl, oe5, ke5, rfl, hE5, by rw [upto_put (b := lv x) (by rw [ends_of hfo]; rfl)]; exact kE5⟩
     case k31_yy =>
       intro h4 tk4 oe4 ke4 F4 N4 hE4 kE4
       (try k_sweep)
       k_steps
       unfold MStop
       (rename Flg 79 => flq); clear flq
       obtain ⟨vc, hvc1, hvc2⟩ := hHV.2 i hi
       have hx9 : hv.toArray[((i : Nat) : Int).toNat]? = some vc := by simpa using hvc1
       match hHi : H i, hvc2 with
       | none, hvc2 =>
         rw [show vc = .none from hvc2] at hx9
         k_steps
         exact ⟨rfl, _, _, _, _, rfl, by k_asm, spot_out N4, spot_off off, rfl, oc2, oe4, ok, ke4, kk, rfl, ⟨_, hc2⟩, hE4, kE4, hK, by rw [upto_skip (by unfold linkH; rw [hHi])]; exact kK⟩
       | some (.inr x), hvc2 =>
         obtain ⟨tx, rfl⟩ := hvc2
         k_steps
         exact ⟨rfl, _, _, _, _, rfl, by k_asm, spot_out N4, spot_off off, rfl, oc2, oe4, ok, ke4, kk, rfl, ⟨_, hc2⟩, hE4, kE4, hK, by rw [upto_skip (by unfold linkH; rw [hHi])]; exact kK⟩
       | some (.inl j), hvc2 =>
         obtain ⟨tx, rfl⟩ := hvc2
         have hj7 : j < 7 := (show CellOk (some (.inl j)) from hHi ▸ RK.ok i hi)
         k_steps
         unfold MStop
         k_dflt (refine' set_link (i := i) (c := nm j) (ka := kk) (by k_asm) (by k_asm) (.tail _ (.tail _ (.head _))) hK kK hi ?_)
         intro ok5 kk5 h5 tk5 hK5 kK5 F5 N5w
         have N5 := spot_set2 apE (fun e => off _ (.tail _ (.tail _ (.head _))) e.symm) N5w
         clear N5w
         (try k_sweep)
         k_steps
         exact ⟨rfl, _, _, _, _, rfl, by k_asm, spot_out N5, spot_off off, rfl, oc2, oe4, ok5, ke4, kk5, rfl, ⟨_, hc2⟩, hE4, kE4, hK5, by rw [upto_put (b := nm j) (by unfold linkH; rw [hHi])]; exact kK5⟩))) only [↓Kn]
def st_g13 := fun (hh_g20 : Lock _) => (by
    intro _ _ _ _ _ _ _ _ _ _ _ _ _ _ _ _ _ _ _ _ _ _ _ _ _ _ _ _ _ _ _ _ _ _ _ _ _ _ _ _ _ _ _ _ _ _ _ _ _ _ _ _ _ _ qk ek _ _ _ _ _ _ _ _ _ _ ys _ _ _ _ _ _ n tn h1 tk1 hn h'w tkqw mqw _ _ _ _ _ _ _ _ _ _ _ _ _ _ _ _ _ _ _ _ _ _ lifted lifted lifted lifted qk ek tkq _ tkq _ _ _ _ _ _ _ _ _ _ _ _ _ _ D'w h'w l1w _ _ _ D'w h'w l1w D'w h'w l1w _ h'w tkqw mqw h'w tkqw mqw _ _ _ t'w k'w t'w k'w t'w k'w D'w h'w l1w _ h'w tkqw mqw h'w tkqw mqw qk ek t'w k'w _ _ _ _ _ _ _ qk ek hn1 hn2 m₁ h tk H rows o kvs hv hc rv rc Rl ocr ocs rest cx t4 t5 t6 t'w k'w t'w k'w h'w tkqw mqw r7 r8 h' tk' m' H rows o kvs hv hc rv rc Rl ocr ocs rest cx t4 t5 t6 hst v1 te h2 tk2 h'w tkqw mqw h3 tk3 tnw knw D'w h'w l1w D'w h'w l1w D'w h'w h'w tkqw mqw h' tk' m' H rows o kvs hv hc rv rc sv sc Rl ocr ocs rest cx hy5 hcut hszc hsum _ _ _ _ _ _ _ D'w h'w l1w _ _ _ hIX h'w tkqw mqw qk ek _ _ _ _ _ _ _ hTV hlen _ _ _ m₁ h tk H rows o kvs hv hc rv rc sv sc Rl ocr ocs rest ap tur saws few m1 m2 m3 m4 hR hD hO RK hHV hRV tale good hcr cx hcs Fd fo f frest h2 tk2 lo hsub hF hfound _ _ _ _ _ _ _ offE _ _ _ _ _ hi2 _ offK D'w h'w l1w _ h'w tkqw mqw h'w tkqw mqw h'w tkqw mqw _ _ _ _ _ _ _ Nw _ hCs apE N3 hfound2 hbF hbA hbH hbRl hbR hbD hbT hbC
    have zF10 := U 10; have zF2 := U 2; have zF3 := U 3; have zF16 := U 16; have zF8 := U 8; have zF48 := U 48; have zF63 := U 63
    have zF81 := U 81
    k_unmd
    rintro m9 nx h tk ⟨rfl, oc1, oe, ok, ke, kk, rfl, ⟨cx1, hc1⟩, hE, kE, hK, kK⟩ F₁ N₁
    have kE7 := kE.congr upto_all
    have kK7 := kK.congr upto_all
    clear kE kK
    k_steps
    unfold MStop
    repeat (rename Flg _ => flq; clear flq)
    rename_i z1 z2 z3 z4 z5 _ _ z8 z9 za zb _ _ _ _ _ _ _ _ _ _ zm zn _ zp zq _ zs _ zu _ zw zx zy zz z10 z11 z12 _ _ _ _ _ _ _ _ _ z1c z1d z1e z1f _ _ _ _ _ z1l z1m z1n _ _ _ _ _ _ z1u _ _ z1x z1y z1z _ z21 z22 _ z24 z25 z26 _ _ z29 _ z2b _ z2d z2e z2f _ _ _ _ z2k z2l z2m _ _ _ _ _ _ _ _ z2v z2w z2x z2y z2z _ _ z32 _ z34 _ z36 _ _ _ _ z3b z3c _ z3e z3f _ z3h z3i _ z3k z3l _ z3n z3o z3p _ z3r z3s _ z3u z3v _ z3x z3y z3z z40 z41 z42 z43 z44 _ z46 z47 z48 _ z4a z4b _ _ _ z4f z4g z4h z4i z4j z4k z4l _ _ _ _ z4q z4r z4s z4t z4u z4v z4w z4x z4y z4z z50 z51 z52 z53 z54 z55 z56 z57 z58 z59 z5a z5b z5c _ z5e z5f z5g z5h z5i z5j z5k z5l z5m z5n z5o z5p z5q z5r z5s z5t z5u z5v z5w z5x _ z5z z60 _ z62 z63 _ z65 z66 z67 z68 _ z6a z6b z6c z6d z6e z6f z6g z6h z6i z6j z6k z6l z6m z6n z6o z6p z6q z6r _ _ _ _ z6w z6x _ z6z z70 z71 z72 z73 _ z75 z76 z77 z78 z79 _ _ _ _ _ z7f z7g z7h z7i _ _ z7l _ z7n z7o z7p _ _ z7s z7t z7u z7v z7w z7x _ z7z z80 _ z82 z83 z84 z85 z86 _ _ _
    revert z1 z2 z3 z4 z5 z8 z9 za zb zm zn zp zq zs zu zw zx zy zz z10 z11 z12 z1c z1d z1e z1f z1l z1m z1n z1u ys z1x z1y z1z n tn h1 tk1 z21 z22 z24 z25 z26 z29 z2b z2d z2e z2f z2k z2l z2m z2v z2w tkq z2x z2y z2z z32 z34 z36 z3b z3c z3e z3f z3h z3i z3k z3l z3n z3o z3p z3r z3s z3u z3v z3x z3y z3z z40 z41 z42 z43 z44 z46 z47 z48 z4a z4b z4f z4g z4h z4i z4j z4k z4l z4q z4r z4s z4t z4u z4v z4w z4x z4y z4z z50 z51 z52 z53 z54 z55 z56 z57 z58 z59 z5a t'w k'w z5b z5c z5e z5f z5g z5h z5i z5j z5k z5l z5m z5n z5o z5p z5q z5r z5s z5t t4 t5 t6 v1 te z5u z5v z5w z5x h3 tk3 tnw knw z5z z60 z62 z63 z65 z66 z67 z68 h' tk' m' z6a z6b z6c z6d z6e z6f z6g z6h z6i z6j z6k z6l z6m z6n z6o z6p z6q z6r z6w z6x z6z z70 z71 z72 z73 z75 z76 z77 z78 z79 m₁ z7f z7g H rows o kvs hv hc rv rc sv sc Rl ocr ocs rest cx Fd fo f frest h2 tk2 z7h z7i z7l z7n z7o z7p z7s z7t D'w z7u z7v z7w z7x z7z z80 h'w tkqw z82 z83 z84 z85 z86 h tk oc1 oe ok ke kk cx1
    exact Lock.out hh_g20 : Dom22 st_g8)
def st_g20 := fun (hh_g21 : Lock _) => (by
    intro _ _ _ _ _ _ _ _ _ _ _ _ _ _ _ _ _ _ _ _ _ _ _ _ _ _ _ _ _ _ _ _ _ _ _ _ _ _ _ _ _ _ _ _ _ _ _ _ _ _ _ _ _ _ qk ek _ _ _ _ _ _ _ _ _ _ ys _ _ _ _ _ _ n tn h1 tk1 hn h'w tkqw mqw _ _ _ _ _ _ _ _ _ _ _ _ _ _ _ _ _ _ _ _ _ _ lifted lifted lifted lifted qk ek tkq _ tkq _ _ _ _ _ _ _ _ _ _ _ _ _ _ D'w h'w l1w _ _ _ D'w h'w l1w D'w h'w l1w _ h'w tkqw mqw h'w tkqw mqw _ _ _ t'w k'w t'w k'w t'w k'w D'w h'w l1w _ h'w tkqw mqw h'w tkqw mqw qk ek t'w k'w _ _ _ _ _ _ _ qk ek hn1 hn2 m₁ h tk H rows o kvs hv hc rv rc Rl ocr ocs rest cx t4 t5 t6 t'w k'w t'w k'w h'w tkqw mqw r7 r8 h' tk' m' H rows o kvs hv hc rv rc Rl ocr ocs rest cx t4 t5 t6 hst v1 te h2 tk2 h'w tkqw mqw h3 tk3 tnw knw D'w h'w l1w D'w h'w l1w D'w h'w h'w tkqw mqw h' tk' m' H rows o kvs hv hc rv rc sv sc Rl ocr ocs rest cx hy5 hcut hszc hsum _ _ _ _ _ _ _ D'w h'w l1w _ _ _ hIX h'w tkqw mqw qk ek _ _ _ _ _ _ _ hTV hlen _ _ _ m₁ h tk H rows o kvs hv hc rv rc sv sc Rl ocr ocs rest ap tur saws few m1 m2 m3 m4 hR hD hO RK hHV hRV tale good hcr cx hcs Fd fo f frest h2 tk2 lo hsub hF hfound _ _ _ _ _ _ _ offE _ _ _ _ _ hi2 _ offK D'w h'w l1w _ h'w tkqw mqw h'w tkqw mqw h'w tkqw mqw _ _ _ _ _ _ _ Nw _ hCs apE N3 hfound2 hbF hbA hbH hbRl hbR hbD hbT hbC h tk oc1 oe ok ke kk hE hK cx1 hc1 F₁ N₁ kE7 kK7
    have zF10 := U 10; have zF2 := U 2; have zF3 := U 3; have zF16 := U 16; have zF8 := U 8; have zF48 := U 48; have zF63 := U 63
    have zF82 := U 82
    k_unmd
    k_dflt (refine' y_asdict ?k37_yB ?k37_yF ?k37_yX ?k37_yN ?k37_yT rfl rfl ?k37_yd ?k37_yu ?k37_yR ?k37_yD ?k37_yA ?k37_yO ?k37_yS ?k37_yK ?k37_yq)
    (case k37_yK => exact RK)
    (case k37_yO => exact hO)
    (case k37_yN => k_asm)
    (case k37_yB => k_asm)
    (case k37_yF => k_asm)
    (case k37_yX => k_asm)
    (case k37_yT => k_asm)
    (case k37_yd => k_room)
    (case k37_yu => k_units)
    (case k37_yR => exact .tail _ (.tail _ (.tail _ hbR)))
    (case k37_yD => exact .tail _ (.tail _ (.tail _ hbD)))
    (case k37_yA => exact .tail _ (.tail _ (.tail _ hbA)))
    (case k37_yS => assumption)
    intro Dr od rkvs h2 tk2 dr2 hod hrk F2 N2 loD
    (try k_sweep)
    k_steps
    unfold MStop
    k_dflt (refine' ne_dicts (by k_asm) (.head _) (.tail _ (.tail _ (.head _))) loD (by assumption) hod hE hrk.toB kE7 ?k37_vu ?k37_vq)
    (case k37_vu => k_units)
    k_steps
    unfold MStop
    k_dflt (refine' y_symrefs ?k37_zB ?k37_zF ?k37_zX ?k37_zN ?k37_zT rfl rfl ?k37_zd ?k37_zu ?k37_zR ?k37_zD ?k37_zA ?k37_zO ?k37_zS ?k37_zK ?k37_zq)
    (case k37_zK => exact RK)
    (case k37_zO => exact hO)
    (case k37_zN => k_asm)
    (case k37_zB => k_asm)
    (case k37_zF => k_asm)
    (case k37_zX => k_asm)
    (case k37_zT => k_asm)
    (case k37_zd => k_room)
    (case k37_zu => k_units)
    (case k37_zR => exact .tail _ (.tail _ (.tail _ (.tail _ hbR))))
    (case k37_zD => exact .tail _ (.tail _ (.tail _ (.tail _ hbD))))
    (case k37_zA => exact .tail _ (.tail _ (.tail _ (.tail _ hbA))))
    (case k37_zS => assumption)
    intro Ds os2 skvs h3 tk3 dr3 hos hsk F3 N3 loS
    (try k_sweep)
    k_steps
    unfold MStop
    k_dflt (refine' ne_dicts (by k_asm) (.head _) (.tail _ (.tail _ (.tail _ (.tail _ (.head _))))) loS (by assumption) hos hK hsk kK7 ?k37_xu ?k37_xq)
    (case k37_xu => k_units)
    k_steps
    repeat (rename Flg _ => flq; clear flq)
    rename_i z1 z2 z3 z4 z5 _ _ z8 z9 za zb _ _ _ _ _ _ _ _ _ _ zm zn _ zp zq _ zs _ zu _ zw zx zy zz z10 z11 z12 _ _ _ _ _ _ _ _ _ z1c z1d z1e z1f _ _ _ _ _ z1l z1m z1n _ _ _ _ _ _ z1u _ _ z1x z1y z1z _ z21 z22 _ z24 z25 z26 _ _ z29 _ z2b _ z2d z2e z2f _ _ _ _ z2k z2l z2m _ _ _ _ _ _ _ _ z2v z2w z2x z2y z2z _ _ z32 _ z34 _ z36 _ _ _ _ z3b z3c _ z3e z3f _ z3h z3i _ z3k z3l _ z3n z3o z3p _ z3r z3s _ z3u z3v _ z3x z3y z3z z40 z41 z42 z43 z44 _ z46 z47 z48 _ z4a z4b _ _ _ z4f z4g z4h z4i z4j z4k z4l _ _ _ _ z4q z4r z4s z4t z4u z4v z4w z4x z4y z4z z50 z51 z52 z53 z54 z55 z56 z57 z58 z59 z5a z5b z5c _ z5e z5f z5g z5h z5i z5j z5k z5l z5m z5n z5o z5p z5q z5r z5s z5t z5u z5v z5w z5x _ z5z z60 z61 z62 _ z64 z65 _ z67 z68 z69 z6a _ z6c z6d z6e z6f z6g z6h z6i z6j z6k z6l z6m z6n z6o z6p z6q z6r z6s z6t _ _ _ _ z6y z6z _ z71 z72 z73 z74 z75 _ _ _ z79 z7a z7b z7c z7d _ _ _ _ _ z7j z7k z7l z7m z7n z7o _ _ z7r _ z7t z7u z7v _ _ z7y z7z z80 z81 z82 z83 _ z85 z86 _ z88 z89 z8a z8b z8c _ _
    revert z1 z2 z3 z4 z5 z8 z9 za zb zm zn zp zq zs zu zw zx zy zz z10 z11 z12 z1c z1d z1e z1f z1l z1m z1n z1u ys z1x z1y z1z n tn h1 tk1 z21 z22 z24 z25 z26 z29 z2b z2d z2e z2f z2k z2l z2m z2v z2w tkq z2x z2y z2z z32 z34 z36 z3b z3c z3e z3f z3h z3i z3k z3l z3n z3o z3p z3r z3s z3u z3v z3x z3y z3z z40 z41 z42 z43 z44 z46 z47 z48 z4a z4b z4f z4g z4h z4i z4j z4k z4l z4q z4r z4s z4t z4u z4v z4w z4x z4y z4z z50 z51 z52 z53 z54 z55 z56 z57 z58 z59 z5a t'w k'w z5b z5c z5e z5f z5g z5h z5i z5j z5k z5l z5m z5n z5o z5p z5q z5r z5s z5t t4 t5 t6 v1 te z5u z5v z5w z5x z5z z60 tnw knw z61 z62 z64 z65 z67 z68 z69 z6a h' tk' m' z6c z6d z6e z6f z6g z6h z6i z6j z6k z6l z6m z6n z6o z6p z6q z6r z6s z6t z6y z6z z71 z72 z73 z74 z75 z79 z7a z7b z7c z7d m₁ z7j z7k H rows o kvs hv hc rv rc sv sc Rl ocr ocs rest cx Fd fo f frest z7l z7m z7n z7o z7r z7t z7u z7v z7y z7z D'w z80 z81 z82 z83 z85 z86 h'w tkqw z88 z89 z8a z8b z8c h tk oc1 oe ok ke kk cx1 Dr od rkvs h2 tk2 dr2 Ds os2 skvs h3 tk3 dr3
    exact Lock.out hh_g21 : Dom11 st_g13)
def st_g21 := fun (hh_g23 : Lock _) (hh_g24 : Lock _) => (by
    intro _ _ _ _ _ _ _ _ _ _ _ _ _ _ _ _ _ _ _ _ _ _ _ _ _ _ _ _ _ _ _ _ _ _ _ _ _ _ _ _ _ _ _ _ _ _ _ _ _ _ _ _ _ _ qk ek _ _ _ _ _ _ _ _ _ _ ys _ _ _ _ _ _ n tn h1 tk1 hn h'w tkqw mqw _ _ _ _ _ _ _ _ _ _ _ _ _ _ _ _ _ _ _ _ _ _ lifted lifted lifted lifted qk ek tkq _ tkq _ _ _ _ _ _ _ _ _ _ _ _ _ _ D'w h'w l1w _ _ _ D'w h'w l1w D'w h'w l1w _ h'w tkqw mqw h'w tkqw mqw _ _ _ t'w k'w t'w k'w t'w k'w D'w h'w l1w _ h'w tkqw mqw h'w tkqw mqw qk ek t'w k'w _ _ _ _ _ _ _ qk ek hn1 hn2 m₁ h tk H rows o kvs hv hc rv rc Rl ocr ocs rest cx t4 t5 t6 t'w k'w t'w k'w h'w tkqw mqw r7 r8 h' tk' m' H rows o kvs hv hc rv rc Rl ocr ocs rest cx t4 t5 t6 hst v1 te h2 tk2 h'w tkqw mqw h3 tk3 tnw knw D'w h'w l1w D'w h'w l1w D'w h'w h'w tkqw mqw h' tk' m' H rows o kvs hv hc rv rc sv sc Rl ocr ocs rest cx hy5 hcut hszc hsum _ _ _ _ _ _ _ D'w h'w l1w _ _ _ hIX h'w tkqw mqw qk ek _ _ _ _ _ _ _ hTV hlen _ _ _ m₁ h tk H rows o kvs hv hc rv rc sv sc Rl ocr ocs rest ap tur saws few m1 m2 m3 m4 hR hD hO RK hHV hRV tale good hcr cx hcs Fd fo f frest h2 tk2 lo hsub hF hfound _ _ _ _ _ _ _ offE _ _ _ _ _ hi2 _ offK D'w h'w l1w _ h'w tkqw mqw h'w tkqw mqw h'w tkqw mqw _ _ _ _ _ _ _ hCs apE hfound2 hbF hbA hbH hbRl hbR hbD hbT hbC h tk oc1 oe ok ke kk hE hK cx1 hc1 F₁ N₁ kE7 kK7 Dr od rkvs h2 tk2 dr2 hod hrk loD Ds os2 skvs h3 tk3 dr3 hos hsk lF'w N3 loS qk ek
    have zF10 := U 10; have zF2 := U 2; have zF3 := U 3; have zF16 := U 16; have zF8 := U 8; have zF48 := U 48; have zF63 := U 63
    k_unmd
    have hz1 : rv.toArray.size = rows.length := by simpa using hRV.len
    have hz2 : rows.length ≤ 20 := by
      have z6 := hTV.2.1
      omega
    k_steps
    unfold MStop
    rename News _ _ _ ((Ds, _) :: _) => Nz
    refine' loop_range _ rfl (by assumption) (small_one (by decide) (by decide) (by omega) (by omega)) (range_zero rows.length) (by k_asm) (undo_news Nz ap hsub) (undo_at (Hl := Rl) (rc := rc) (n := rows.length) (i := 0) (.tail _ hR) (.tail _ hD) (.head _) hO RK (hRV.mono fun p hp => .tail _ hp) tale good hcr hc1 (undo_off ap) (.tail _ tur) rfl (by k_extra "M:look") (by k_extra "M:look")) ?k39_zt ?k39_zd
    case k39_zt =>
      repeat (rename Flg _ => flq; clear flq)
      rename_i z1 z2 z3 z4 z5 _ _ z8 z9 za zb _ _ _ _ _ _ _ _ _ _ zm zn _ zp zq _ zs _ zu _ zw zx zy zz z10 z11 z12 _ _ _ _ _ _ _ _ _ z1c z1d z1e z1f _ _ _ _ _ z1l z1m z1n _ _ _ _ _ _ z1u _ _ z1x z1y z1z _ z21 z22 _ z24 z25 z26 _ _ z29 _ z2b _ z2d z2e z2f _ _ _ _ z2k z2l z2m _ _ _ _ _ _ _ _ z2v z2w z2x z2y z2z _ _ z32 _ z34 _ z36 _ _ _ _ z3b z3c _ z3e z3f _ z3h z3i _ z3k z3l _ z3n z3o z3p _ z3r z3s _ z3u z3v _ z3x z3y z3z z40 z41 z42 z43 z44 _ z46 z47 z48 _ z4a z4b _ _ _ z4f z4g z4h z4i z4j z4k z4l _ _ _ _ z4q z4r z4s z4t z4u z4v z4w z4x z4y z4z z50 z51 z52 z53 z54 z55 z56 z57 z58 z59 z5a z5b z5c _ z5e z5f z5g z5h z5i z5j z5k z5l z5m z5n z5o z5p z5q z5r z5s z5t z5u z5v z5w z5x _ z5z z60 z61 z62 z63 z64 _ z66 z67 _ z69 z6a z6b z6c _ z6e z6f z6g z6h z6i z6j z6k z6l z6m z6n z6o z6p z6q z6r z6s z6t z6u z6v _ _ _ _ z70 z71 _ z73 z74 z75 z76 z77 _ _ _ z7b z7c z7d z7e z7f _ _ _ _ _ z7l z7m z7n z7o z7p z7q _ _ z7t _ z7v z7w z7x _ _ z80 z81 z82 z83 z84 z85 _ z87 z88 _ z8a z8b z8c z8d z8e _ _ z8h z8i z8j z8k z8l _ _ _
      revert z1 z2 z3 z4 z5 z8 z9 za zb zm zn zp zq zs zu zw zx zy zz z10 z11 z12 z1c z1d z1e z1f z1l z1m z1n z1u ys z1x z1y z1z n tn h1 tk1 z21 z22 z24 z25 z26 z29 z2b z2d z2e z2f z2k z2l z2m z2v z2w tkq z2x z2y z2z z32 z34 z36 z3b z3c z3e z3f z3h z3i z3k z3l z3n z3o z3p z3r z3s z3u z3v z3x z3y z3z z40 z41 z42 z43 z44 z46 z47 z48 z4a z4b z4f z4g z4h z4i z4j z4k z4l z4q z4r z4s z4t z4u z4v z4w z4x z4y z4z z50 z51 z52 z53 z54 z55 z56 z57 z58 z59 z5a t'w k'w z5b z5c z5e z5f z5g z5h z5i z5j z5k z5l z5m z5n z5o z5p z5q z5r z5s z5t t4 t5 t6 v1 te z5u z5v z5w z5x z5z z60 z61 z62 z63 z64 z66 z67 z69 z6a z6b z6c h' tk' m' z6e z6f z6g z6h z6i z6j z6k z6l z6m z6n z6o z6p z6q z6r z6s z6t z6u z6v z70 z71 z73 z74 z75 z76 z77 z7b z7c z7d z7e z7f m₁ z7l z7m H rows o kvs hv hc rv rc sv sc Rl ocr ocs rest cx Fd fo f frest z7n z7o z7p z7q z7t z7v z7w z7x z80 z81 D'w z82 z83 z84 z85 z87 z88 h'w tkqw z8a z8b z8c z8d z8e h tk oc1 oe ok ke kk cx1 Dr od rkvs h2 tk2 dr2 Ds os2 skvs h3 tk3 dr3 tnw knw z8h z8i z8j z8k z8l
      exact Lock.out hh_g23
    case k39_zd =>
      repeat (rename Flg _ => flq; clear flq)
      rename_i z1 z2 z3 z4 z5 _ _ z8 z9 za zb _ _ _ _ _ _ _ _ _ _ zm zn _ zp zq _ zs _ zu _ zw zx zy zz z10 z11 z12 _ _ _ _ _ _ _ _ _ z1c z1d z1e z1f _ _ _ _ _ z1l z1m z1n _ _ _ _ _ _ z1u _ _ z1x z1y z1z _ z21 z22 _ z24 z25 z26 _ _ z29 _ z2b _ z2d z2e z2f _ _ _ _ z2k z2l z2m _ _ _ _ _ _ _ _ z2v z2w z2x z2y z2z _ _ z32 _ z34 _ z36 _ _ _ _ z3b z3c _ z3e z3f _ z3h z3i _ z3k z3l _ z3n z3o z3p _ z3r z3s _ z3u z3v _ z3x z3y z3z z40 z41 z42 z43 z44 _ z46 z47 z48 _ z4a z4b _ _ _ z4f z4g z4h z4i z4j z4k z4l _ _ _ _ z4q z4r z4s z4t z4u z4v z4w z4x z4y z4z z50 z51 z52 z53 z54 z55 z56 z57 z58 z59 z5a z5b z5c _ z5e z5f z5g z5h z5i z5j z5k z5l z5m z5n z5o z5p z5q z5r z5s z5t z5u z5v z5w z5x _ z5z z60 z61 z62 z63 z64 _ z66 z67 _ z69 z6a z6b z6c _ z6e z6f z6g z6h z6i z6j z6k z6l z6m z6n z6o z6p z6q z6r z6s z6t z6u z6v _ _ _ _ z70 z71 _ z73 z74 z75 z76 z77 _ _ _ z7b z7c z7d z7e z7f _ _ _ _ _ z7l z7m z7n z7o z7p z7q _ _ z7t _ z7v z7w z7x _ _ z80 z81 z82 z83 z84 z85 _ z87 z88 _ z8a z8b z8c z8d z8e _ _ z8h z8i z8j z8k z8l _ _ _
      revert z1 z2 z3 z4 z5 z8 z9 za zb zm zn zp zq zs zu zw zx zy zz z10 z11 z12 z1c z1d z1e z1f z1l z1m z1n z1u ys z1x z1y z1z n tn h1 tk1 z21 z22 z24 z25 z26 z29 z2b z2d z2e z2f z2k z2l z2m z2v z2w tkq z2x z2y z2z z32 z34 z36 z3b z3c z3e z3f z3h z3i z3k z3l z3n z3o z3p z3r z3s z3u z3v z3x z3y z3z z40 z41 z42 z43 z44 z46 z47 z48 z4a z4b z4f z4g z4h z4i z4j z4k z4l z4q z4r z4s z4t z4u z4v z4w z4x z4y z4z z50 z51 z52 z53 z54 z55 z56 z57 z58 z59 z5a t'w k'w z5b z5c z5e z5f z5g z5h z5i z5j z5k z5l z5m z5n z5o z5p z5q z5r z5s z5t t4 t5 t6 v1 te z5u z5v z5w z5x z5z z60 z61 z62 z63 z64 z66 z67 z69 z6a z6b z6c h' tk' m' z6e z6f z6g z6h z6i z6j z6k z6l z6m z6n z6o z6p z6q z6r z6s z6t z6u z6v z70 z71 z73 z74 z75 z76 z77 z7b z7c z7d z7e z7f m₁ z7l z7m H rows o kvs hv hc rv rc sv sc Rl ocr ocs rest cx Fd fo f frest z7n z7o z7p z7q z7t z7v z7w z7x z80 z81 D'w z82 z83 z84 z85 z87 z88 h'w tkqw z8a z8b z8c z8d z8e h tk oc1 oe ok ke kk cx1 Dr od rkvs h2 tk2 dr2 Ds os2 skvs h3 tk3 dr3 tnw knw z8h z8i z8j z8k z8l
      exact Lock.out hh_g24 : Dom11 st_g20)
def st_g23 := fun (hh_g32 : Lock _) => (by
    intro _ _ _ _ _ _ _ _ _ _ _ _ _ _ _ _ _ _ _ _ _ _ _ _ _ _ _ _ _ _ _ _ _ _ _ _ _ _ _ _ _ _ _ _ _ _ _ _ _ _ _ _ _ _ qk ek _ _ _ _ _ _ _ _ _ _ ys _ _ _ _ _ _ n tn h1 tk1 hn h'w tkqw mqw _ _ _ _ _ _ _ _ _ _ _ _ _ _ _ _ _ _ _ _ _ _ lifted lifted lifted lifted qk ek tkq _ tkq _ _ _ _ _ _ _ _ _ _ _ _ _ _ D'w h'w l1w _ _ _ D'w h'w l1w D'w h'w l1w _ h'w tkqw mqw h'w tkqw mqw _ _ _ t'w k'w t'w k'w t'w k'w D'w h'w l1w _ h'w tkqw mqw h'w tkqw mqw qk ek t'w k'w _ _ _ _ _ _ _ qk ek hn1 hn2 m₁ h tk H rows o kvs hv hc rv rc Rl ocr ocs rest cx t4 t5 t6 t'w k'w t'w k'w h'w tkqw mqw r7 r8 h' tk' m' H rows o kvs hv hc rv rc Rl ocr ocs rest cx t4 t5 t6 hst v1 te h2 tk2 h'w tkqw mqw h3 tk3 tnw knw D'w h'w l1w D'w h'w l1w D'w h'w h'w tkqw mqw h' tk' m' H rows o kvs hv hc rv rc sv sc Rl ocr ocs rest cx hy5 hcut hszc hsum _ _ _ _ _ _ _ D'w h'w l1w _ _ _ hIX h'w tkqw mqw qk ek _ _ _ _ _ _ _ hTV hlen _ _ _ m₁ h tk H rows o kvs hv hc rv rc sv sc Rl ocr ocs rest ap tur saws few m1 m2 m3 m4 hR hD hO RK hHV hRV tale good hcr cx hcs Fd fo f frest h2 tk2 lo hsub hF hfound _ _ _ _ _ _ _ offE _ _ _ _ _ hi2 _ offK D'w h'w l1w _ h'w tkqw mqw h'w tkqw mqw h'w tkqw mqw _ _ _ _ _ _ _ hCs apE hfound2 hbF hbA hbH hbRl hbR hbD hbT hbC h tk oc1 oe ok ke kk hE hK cx1 hc1 F₁ N₁ kE7 kK7 Dr od rkvs h2 tk2 dr2 hod hrk loD Ds os2 skvs h3 tk3 dr3 hos hsk loS qk ek hz1 hz2 tnw knw _ _ _ _ _ _ _ Nz _
    have zF10 := U 10; have zF2 := U 2; have zF3 := U 3; have zF16 := U 16; have zF8 := U 8; have zF48 := U 48; have zF63 := U 63
    have zF83 := U 83
    k_unmd
    clear hR hD hO RK hRV tale good hcr hz1 hz2
    rintro i I it t m9 nx h tk hic hi ⟨H, rows2, o, kvs, rv, rc, Rl, ocr, ocs, rest, rfl, ⟨hR, hD, hRl, hO, RK, hRV, tale, good, hcr, ⟨cx, hcs⟩, ap, tur, left, m1, m4⟩⟩ off F₁ N₁
    rw [show (0 : Int) + (i : Int) * 1 = ((i : Nat) : Int) from by omega] at F₁
    dsimp only at hR hD hcr ap m1 off N₁
    change PyProof.Rows.Fr _ (Array.size _) _ _ at F₁
    change PyProof.Rows.News _ (Array.size _) _ _ at N₁
    have hpT := hTV.1
    have hzT := turns_size hTV
    have hzR : rv.toArray.size = rows2.length := by simpa using hRV.len
    have hpT6 := hTV.2.1
    have h20r : rows2.length ≤ 20 := by omega
    have hpR : 0 < rows2.length := by omega
    obtain ⟨nn, tn, hx1, hn1, _⟩ := turn_num hTV (Nat.mod_lt i (by omega : 0 < _))
    have hj : (nn + i) % rows2.length < rows2.length := Nat.mod_lt _ hpR
    obtain ⟨r1, hr1⟩ : ∃ r, rows2[(nn + i) % rows2.length]? = some r := ⟨_, List.getElem?_eq_getElem hj⟩
    obtain ⟨rv1, hrv1, ⟨T1, ts1, va, vb, rfl, hT1, hva, hvb, hsp, hoka, hokb⟩⟩ := hRV.getv ((nn + i) % rows2.length) r1 hr1
    have hx2 : rv.toArray[(((nn + i) % rows2.length : Nat) : Int).toNat]? = some (.ref T1) := by rw [Int.toNat_natCast, List.getElem?_toArray]; exact hrv1
    k_steps
    unfold MStop
    (rename Flg 83 => flq); clear flq
    have zF84 := U 84
    k_dflt (refine' store_all (by k_asm) (by k_asm) rfl (.tail _ (.tail _ (.tail _ (.head _)))) hcs ?_ rfl rfl)
    intro h2 oc2 F2 N2w hc2
    have N2 := undo_spot ap off N2w
    clear N2w
    (try k_sweep)
    k_steps
    unfold MStop
    (rename Flg 84 => flq); clear flq
    have zF85 := U 85
    refine LCt.ListComp_T (F₀ := by k_asm) (by with_unfolding_all rfl) (by decide) (by rfl) (by decide) (by rfl) ?_
    k_steps
    unfold MStop
    refine LCt.CompSrcT.range rfl (by k_asm) (by k_asm) (by assumption) (small_one (by decide) (by decide) (by omega) (by omega)) (range_zero rows2.length) (Nat.le_trans (by omega : rows2.length ≤ 20) (by decide)) (fun g => compRestT_all (fun i ys => IntsAre ys (hits rows2 r1.1 i)) trivial ?k43_zt ?k43_zf _ 0 [] (Nat.zero_add _) .nil)
    case k43_zt =>
      intro j ys v C oC oI D Ia m₂ h tk E' Q0 Q' hj2 hI hP hC hxx F N hq hq0
      obtain ⟨tv, hv⟩ := hP
      rw [Int.zero_add] at hv
      subst hv
      obtain ⟨r2, hr2⟩ : ∃ r, rows2[j]? = some r := ⟨_, List.getElem?_eq_getElem hj2⟩
      obtain ⟨rw2, hrw2, ⟨T2, ts2, va2, vb2, rfl, hT2, hva2, hvb2, hsp2, hoka2, hokb2⟩⟩ := hRV.getv j r2 hr2
      have hx4 : rv.toArray[((j : Nat) : Int).toNat]? = some (.ref T2) := by rw [Int.toNat_natCast, List.getElem?_toArray]; exact hrw2
      by_cases hrs : r2.1 = r1.1
      · have hV : ((r2.1 : Int) == (r1.1 : Int)) = true := by simp [hrs]
        k_steps
        refine hq _ _ _ ?_ (by k_asm) (by k_asm)
        rw [hits_hit hr2 hrs]
        exact IntsAre.append hI (.cons _ _ .nil)
      · have hV : ((r2.1 : Int) == (r1.1 : Int)) = false := by rw [beq_eq_false_iff_ne]; omega
        k_steps
        refine hq0 _ _ ?_ (by k_asm) (by k_asm)
        rw [hits_miss hr2 hrs]
        exact hI
    case k43_zf =>
      intro ys hI D h tk F N off9
      have hin : (((nn + i) % rows2.length : Nat) : Int) ∈ hits rows2 r1.1 rows2.length := hits_mem.mpr ⟨_, rfl, hj, r1, hr1, rfl⟩
      k_steps
      unfold MStop
      repeat (rename Flg _ => flq; clear flq)
      rename_i z1 z2 z3 z4 z5 _ _ z8 z9 za zb _ _ _ _ _ _ _ _ _ _ zm zn _ zp zq _ zs _ zu _ zw zx zy zz z10 z11 z12 _ _ _ _ _ _ _ _ _ z1c z1d z1e z1f _ _ _ _ _ z1l z1m z1n _ _ _ _ _ _ z1u z1v _ _ z1y z1z z20 _ z22 z23 z24 _ z26 z27 z28 _ _ z2b _ z2d _ z2f z2g z2h _ _ _ _ z2m z2n z2o _ _ _ _ _ _ _ _ z2x z2y z2z z30 z31 z32 _ _ z35 _ z37 _ z39 _ _ _ _ z3e z3f _ z3h z3i _ z3k z3l _ z3n z3o _ z3q z3r z3s _ z3u z3v _ z3x z3y _ z40 z41 z42 z43 z44 z45 z46 z47 _ z49 z4a z4b _ z4d z4e _ _ _ z4i z4j z4k z4l z4m z4n z4o _ _ _ _ _ z4u z4v z4w z4x z4y z4z z50 z51 z52 z53 z54 z55 z56 z57 z58 z59 z5a z5b z5c z5d z5e z5f z5g z5h z5i _ z5k z5l z5m z5n z5o z5p z5q z5r z5s z5t z5u z5v z5w z5x z5y z5z z60 z61 z62 z63 _ z65 z66 z67 z68 z69 z6a _ z6c z6d _ z6f z6g z6h z6i _ z6k z6l z6m z6n z6o z6p z6q z6r z6s z6t z6u z6v z6w z6x z6y z6z z70 z71 _ _ _ _ z76 z77 _ z79 z7a z7b z7c z7d _ _ _ z7h z7i z7j z7k z7l _ _ _ _ _ z7r z7s z7t z7u z7v z7w z7x z7y z7z z80 z81 _ _ _ _ z86 _ z88 z89 z8a z8b _ _ z8e _ z8g z8h z8i _ _ z8l z8m z8n z8o z8p z8q _ z8s z8t _ z8v z8w z8x z8y z8z _ _ z92 z93 z94 z95 z96 z97 z98 z99 z9a z9b _ _ z9e z9f _ z9h z9i z9j z9k z9l z9m z9n z9o z9p z9q z9r z9s z9t _ _ _ _
      revert z1 z2 z3 z4 z5 z8 z9 za zb zm zn zp zq zs zu zw zx zy zz z10 z11 z12 z1c z1d z1e z1f z1l z1m z1n z1u z1v z1y z1z z20 n z22 h1 tk1 z23 z24 z26 z27 z28 z2b z2d z2f z2g z2h z2m z2n z2o z2x z2y z2z z30 z31 z32 z35 z37 z39 z3e z3f z3h z3i z3k z3l z3n z3o z3q z3r z3s z3u z3v z3x z3y z40 z41 z42 z43 z44 z45 z46 z47 z49 z4a z4b z4d z4e z4i z4j z4k z4l z4m z4n z4o z4u z4v z4w z4x z4y z4z z50 z51 z52 z53 z54 z55 z56 z57 z58 z59 z5a z5b z5c z5d z5e z5f z5g z5h z5i z5k z5l z5m z5n z5o z5p z5q z5r z5s z5t z5u z5v z5w z5x z5y z5z t4 t5 t6 v1 te z60 z61 z62 z63 z65 z66 z67 z68 z69 z6a z6c z6d z6f z6g z6h z6i h' tk' m' z6k z6l z6m z6n z6o z6p z6q z6r z6s z6t z6u z6v z6w z6x z6y z6z z70 z71 z76 z77 z79 z7a z7b z7c z7d z7h z7i z7j z7k z7l m₁ z7r z7s z7t rows z7u z7v hv hc z7w z7x sv sc z7y z7z z80 z81 z86 Fd fo f frest z88 z89 z8a z8b z8e z8g z8h z8i z8l z8m D'w z8n z8o z8p z8q z8s z8t h'w tkqw z8v z8w z8x z8y z8z z92 z93 oc1 oe ok ke kk cx1 Dr od rkvs z94 tk2 dr2 Ds os2 skvs h3 tk3 dr3 z95 z96 z97 z98 z99 z9a z9b i I it t m9 z9e z9f H rows2 o kvs rv rc Rl ocr ocs rest cx nn tn r1 T1 ts1 va vb z9h z9i z9j z9k z9l z9m z9n z9o t'w k'w h2 oc2 tkq tnw knw z9p z9q z9r z9s z9t g ys D h tk
      exact Lock.out hh_g32 : Dom21 st_g21)
theorem st_g32 : Dom11 st_g23 := by
    refine Kf ?_
    simp (disch := (refine @id _ ?_; k_dflt (
     intro _ _ _ _ _ _ _ _ _ _ _ _ _ _ _ _ _ _ _ _ _ _ _ _ _ _ _ _ _ _ _ _ _ _ _ _ _ _ _ _ _ _ _ _ _ _ _ _ _ _ _ _ _ _ qk ek _ _ _ _ _ _ _ _ _ _ ys _ _ _ _ _ _ n tn h1 tk1 hn h'w tkqw mqw _ _ _ _ _ _ _ _ _ _ _ _ _ _ _ _ _ _ _ _ _ _ lifted lifted lifted lifted qk ek tkq _ tkq _ _ _ _ _ _ _ _ _ _ _ _ _ _ D'w h'w l1w _ _ _ D'w h'w l1w D'w h'w l1w _ h'w tkqw mqw h'w tkqw mqw _ _ _ t'w k'w t'w k'w t'w k'w D'w h'w l1w _ h'w tkqw mqw h'w tkqw mqw qk ek t'w k'w _ _ _ _ _ _ _ qk ek hn1 hn2 m₁ h tk H rows o kvs hv hc rv rc Rl ocr ocs rest cx t4 t5 t6 t'w k'w t'w k'w h'w tkqw mqw r7 r8 h' tk' m' H rows o kvs hv hc rv rc Rl ocr ocs rest cx t4 t5 t6 hst v1 te h2 tk2 h'w tkqw mqw h3 tk3 tnw knw D'w h'w l1w D'w h'w l1w D'w h'w h'w tkqw mqw h' tk' m' H rows o kvs hv hc rv rc sv sc Rl ocr ocs rest cx hy5 hcut hszc hsum _ _ _ _ _ _ _ D'w h'w l1w _ _ _ hIX h'w tkqw mqw qk ek _ _ _ _ _ _ _ hTV hlen _ _ _ m₁ h tk H rows o kvs hv hc rv rc sv sc Rl ocr ocs rest ap tur saws few m1 m2 m3 m4 hHV cx hcs Fd fo f frest h2 tk2 lo hsub hF hfound _ _ _ _ _ _ _ offE _ _ _ _ _ hi2 _ offK D'w h'w l1w _ h'w tkqw mqw h'w tkqw mqw h'w tkqw mqw _ _ _ _ _ _ _ hCs apE hfound2 hbF hbA hbH hbRl hbR hbD hbT hbC h tk oc1 oe ok ke kk hE hK cx1 hc1 F₁ N₁ kE7 kK7 Dr od rkvs h2 tk2 dr2 hod hrk loD Ds os2 skvs h3 tk3 dr3 hos hsk loS qk ek tnw knw _ _ _ _ _ _ _ i I it t m9 h tk hic hi H rows2 o kvs rv rc Rl ocr ocs rest hR hD hRl hO RK hRV tale good hcr ap tur left m1 m4 cx hcs off hpT hzT hzR hpT6 h20r hpR nn tn hx1 hn1 _ hj r1 hr1 T1 ts1 va vb hT1 hva hvb hsp hoka hokb hrv1 hx2 tnw knw t'w k'w t'w k'w tnw knw t'w k'w h2 oc2 hc2 tkq tnw knw _ _ _ _ _ _ _ _ _ g ys hI D h tk F N off9 hin
     have zF10 := U 10; have zF2 := U 2; have zF3 := U 3; have zF16 := U 16; have zF8 := U 8; have zF48 := U 48; have zF63 := U 63
     have zF86 := U 86
     k_unmd
     k_dflt (refine' kso_max ?k44_k1 ?k44_k2 ?k44_k3 hI (List.length_pos_of_mem hin) rfl ?k44_kq)
     (case k44_k1 => k_asm)
     (case k44_k2 => k_asm)
     (case k44_k3 => exact News.isList (by k_asm) (.head _))
     intro h3 M9 tM tk3 F3 N3 hM hmax
     obtain ⟨k9, rfl, hk9, r9, hr9, hs9⟩ := hits_mem.mp hM
     have hlast : ∀ j q, k9 < j → rows2[j]? = some q → q.1 ≠ r9.1 := fun j q hj2 hq e => by
       have hlt : j < rows2.length := (List.getElem?_eq_some_iff.mp hq).1
       have := hmax _ (hits_mem.mpr ⟨j, rfl, hlt, q, hq, by rw [e, hs9]⟩)
       omega
     obtain ⟨rv9, hrv9, ⟨T9, ts9, va9, vb9, rfl, hT9, hva9, hvb9, hsp9, hoka9, hokb9⟩⟩ := hRV.getv k9 r9 hr9
     have hx9 : rv.toArray[((k9 : Nat) : Int).toNat]? = some (.ref T9) := by rw [Int.toNat_natCast, List.getElem?_toArray]; exact hrv9
     clear hmax hM hin hI
     (try k_sweep)
     k_steps
     unfold MStop
     (rename Flg 86 => flq); clear flq
     have zF87 := U 87
     rename News _ _ _ (_ :: (_, o) :: _) => Nz
     have N4 := cb_drop Nz (fun p hp => List.Mem.tail _ hp)
     clear Nz
     have hund := tale.undo hsp9 hr9 hlast
     have hg9 := good _ (List.mem_of_getElem? hr9)
     k_dflt (refine' y_undone (b := r9.2.1) (a := r9.2.2) ?k45_yB ?k45_yF ?k45_yX N4 ?k45_yT rfl rfl ?k45_yd ?k45_yu ?k45_yR ?k45_yD ?k45_yO ?k45_yS ?k45_yK (undo_rest ap off) (hs9 ▸ hsp9) hoka9 hva9 hvb9 (hs9 ▸ hund.1) hg9.2 ?k45_yq)
     (case k45_yK => exact RK)
     (case k45_yO => exact hO)
     (case k45_yB => k_asm)
     (case k45_yF => k_asm)
     (case k45_yX => k_asm)
     (case k45_yT => k_asm)
     (case k45_yd => k_room)
     (case k45_yu => k_units)
     (case k45_yR => exact .tail _ (.tail _ (.tail _ hR)))
     (case k45_yD => exact .tail _ (.tail _ (.tail _ hD)))
     (case k45_yS => assumption)
     intro o5 kvs5 h5 tk5 hO5 RK5 F5 N5
     (try k_sweep)
     have hcut1 : kms_pick rv.toArray.toList none (some (k9 : Int)) = rv.take k9 := undo_take rv k9
     have hcut2 : kms_pick rv.toArray.toList (some ((k9 + 1 : Nat) : Int)) none = rv.drop (k9 + 1) := undo_drop rv (k9 + 1)
     have hszc : rv.toArray.size ≤ sizeLine := Nat.le_trans (by omega : rv.toArray.size ≤ 20) (by decide)
     have hsum : (rv.take k9).toArray.size + (rv.drop (k9 + 1)).toArray.size ≤ 1000 := by
       have hrl : rv.length = rows2.length := hRV.len
       simp
       omega
     k_steps
     unfold MStop
     (rename Flg 87 => flq); clear flq
     rename News _ _ _ (_ :: _ :: _ :: _ :: _) => N6
     rw [show (List.take k9 rv).toArray ++ (List.drop (k9 + 1) rv).toArray = (List.take k9 rv ++ List.drop (k9 + 1) rv).toArray from by simp] at N6
     have hDI := news_apart N6 (.head _) (b := (I, it)) (.tail _ (.tail _ (.tail _ (.tail _ (.tail _ (.tail _ (.head _))))))) (by rw [show (I, it).2.cls = _ from hic]; exact type_ne (by decide))
     have hDC := news_ne N6 (.head _) (b := (_, ocr)) (.tail _ (.tail _ (.tail _ (.tail _ (.head _))))) (data_ne (by rw [show ((_, ocr) : Addr × Obj).2.data = _ from hcr]; exact fun z => nomatch z))
     have ap2 := undo_new_off N6 (.head _) (.tail _ (.tail _ (.tail _ (.head _)))) (.tail _ (.tail _ (.tail _ (.tail _ (.head _))))) (.tail _ (.tail _ (.tail _ (.tail _ (.tail _ (.head _)))))) (isDict_cls hO5) hcr hc2 ap
     k_dflt (refine' store_all (by k_asm) N6 rfl (.tail _ (.tail _ (.tail _ (.tail _ (.head _))))) hcr ?_ rfl rfl)
     intro h7 ocr7 F7 N7w hcr7
     have N7 := undo_rows (ocr := ocr) ap (fun e => off _ (.tail _ (.head _)) e.symm) hDC (fun p hp => by
       rcases List.mem_cons.mp hp with e | hp
       · exact e ▸ .head _
       · refine .tail _ (.tail _ (.tail _ ?_))
         rcases List.mem_cons.mp hp with e | hp
         · exact e ▸ .head _
         · exact .tail _ (.tail _ hp)) N7w
     clear N7w N6
     (try k_sweep)
     k_steps
     rw [hs9] at hund
     refine ⟨_, _, _, _, rfl, by k_asm, N7, undo_it off hDI, ?_⟩
     exact undo_at (.tail _ hR) (.tail _ hD) (.head _) hO5 RK5 (((hRV.take k9).append (hRV.drop (k9 + 1))).mono fun p hp => .tail _ hp) hund.2 (good_cut good) hcr7 hc2 ap2 (.tail _ tur) (by simp; omega) (by k_extra "M:look") (by k_extra "M:look")))) only [↓Kn]
theorem st_g24 : Dom22 st_g21 := by
    refine Kf ?_
    simp (disch := (refine @id _ ?_; k_dflt (
     intro _ _ _ _ _ _ _ _ _ _ _ _ _ _ _ _ _ _ _ _ _ _ _ _ _ _ _ _ _ _ _ _ _ _ _ _ _ _ _ _ _ _ _ _ _ _ _ _ _ _ _ _ _ _ qk ek _ _ _ _ _ _ _ _ _ _ ys _ _ _ _ _ _ n tn h1 tk1 hn h'w tkqw mqw _ _ _ _ _ _ _ _ _ _ _ _ _ _ _ _ _ _ _ _ _ _ lifted lifted lifted lifted qk ek tkq _ tkq _ _ _ _ _ _ _ _ _ _ _ _ _ _ D'w h'w l1w _ _ _ D'w h'w l1w D'w h'w l1w _ h'w tkqw mqw h'w tkqw mqw _ _ _ t'w k'w t'w k'w t'w k'w D'w h'w l1w _ h'w tkqw mqw h'w tkqw mqw qk ek t'w k'w _ _ _ _ _ _ _ qk ek hn1 hn2 m₁ h tk H rows o kvs hv hc rv rc Rl ocr ocs rest cx t4 t5 t6 t'w k'w t'w k'w h'w tkqw mqw r7 r8 h' tk' m' H rows o kvs hv hc rv rc Rl ocr ocs rest cx t4 t5 t6 hst v1 te h2 tk2 h'w tkqw mqw h3 tk3 tnw knw D'w h'w l1w D'w h'w l1w D'w h'w h'w tkqw mqw h' tk' m' H rows o kvs hv hc rv rc sv sc Rl ocr ocs rest cx hy5 hcut hszc hsum _ _ _ _ _ _ _ D'w h'w l1w _ _ _ hIX h'w tkqw mqw qk ek _ _ _ _ _ _ _ hTV hlen _ _ _ m₁ h tk H rows o kvs hv hc rv rc sv sc Rl ocr ocs rest ap tur saws few m1 m2 m3 m4 hR hD hO RK hHV hRV tale good hcr cx hcs Fd fo f frest h2 tk2 lo hsub hF hfound _ _ _ _ _ _ _ offE _ _ _ _ _ hi2 _ offK D'w h'w l1w _ h'w tkqw mqw h'w tkqw mqw h'w tkqw mqw _ _ _ _ _ _ _ hCs apE hfound2 hbF hbA hbH hbRl hbR hbD hbT hbC h tk oc1 oe ok ke kk hE hK cx1 hc1 F₁ N₁ kE7 kK7 Dr od rkvs h2 tk2 dr2 hod hrk loD Ds os2 skvs h3 tk3 dr3 hos hsk loS qk ek hz1 hz2 tnw knw _ _ _ _ _ _ _ Nz _
     have zF10 := U 10; have zF2 := U 2; have zF3 := U 3; have zF16 := U 16; have zF8 := U 8; have zF48 := U 48; have zF63 := U 63
     have zF88 := U 88
     k_unmd
     clear hR hD hO RK hRV tale good hcr
     rintro m₁ nx h tk ⟨H, rows2, o, kvs, rv, rc, Rl, ocr, ocs, rest, rfl, ⟨hR, hD, hRl, hO, RK, hRV, tale, good, hcr, ⟨cx, hcs⟩, ap, tur, left, m1, m4⟩⟩ F₁ N₁
     dsimp only at hR hD hcr ap m1 N₁
     change PyProof.Rows.Fr _ (Array.size _) _ _ at F₁
     change PyProof.Rows.News _ (Array.size _) _ _ at N₁
     have hr0 : rows2 = [] := List.length_eq_zero_iff.mp (by omega)
     subst hr0
     have hk0 := kvs_empty RK fun i hi => tale.none i hi
     subst hk0
     k_steps
     unfold MStop
     k_dflt (refine' c_allkeys ?k40_yB ?k40_yF ?k40_yX ?k40_yN ?k40_yT rfl rfl ?k40_yd ?k40_yu ?k40_yR ?k40_yD ?k40_yA ?k40_yO ?k40_yS ?k40_yK ?k40_yq)
     (case k40_yK => exact RK)
     (case k40_yO => exact hO)
     (case k40_yN => k_asm)
     (case k40_yB => k_asm)
     (case k40_yF => k_asm)
     (case k40_yX => k_asm)
     (case k40_yT => k_asm)
     (case k40_yd => k_room)
     (case k40_yu => k_units)
     (case k40_yR => exact .tail _ (.tail _ (.tail _ hR)))
     (case k40_yD => exact .tail _ (.tail _ (.tail _ hD)))
     (case k40_yA => exact .head _)
     (case k40_yS => assumption)
     intro S oS es h2 tk2 hX hE F2 N2
     have he0 := es_empty hE
     subst he0
     (try k_sweep)
     k_steps
     unfold MStop
     k_dflt (refine' sorted_X0 rfl (by k_asm) (by k_asm) (.head _) hX ?_)
     intro D3 h3 tk3 c3 F3 N3
     (try k_sweep)
     k_steps
     unfold MStop
     k_dflt (refine' cmp_empty (by k_asm) (.tail _ (.head _)) (.head _) ?k40_zu ?k40_zq)
     (case k40_zu => k_units)
     k_steps))) only [↓Kn]
theorem law_holds : PySem.Challenge.rw_ai0010_01.Holds :=
  st_law (Lock.mk (st_g1 (Lock.mk (st_g2)) (Lock.mk (st_g3 (Lock.mk (st_g4 (Lock.mk (st_g6 (Lock.mk (st_g7 (Lock.mk (st_g10)) (Lock.mk (st_g11)))) (Lock.mk (st_g8 (Lock.mk (st_g12)) (Lock.mk (st_g13 (Lock.mk (st_g20 (Lock.mk (st_g21 (Lock.mk (st_g23 (Lock.mk (st_g32)))) (Lock.mk (st_g24))))))))))))))))))
end
end Mine
theorem PySem.Challenge.cw_ai0010_01_holds : PySem.Challenge.rw_ai0010_01.Holds :=
  Mine.law_holds
