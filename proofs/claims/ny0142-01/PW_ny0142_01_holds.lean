import PyProof.Rows.All
import Wide.All
import OpenK.AllK
import Wide.FinOn
import PySem.Challenge.RW_ny0142_01
set_option Elab.async false
/-! part M1 -/
section
open PySem PySem.W PyProof.Rows
namespace Mine
/-- the letters of a number, by sixteens -/
def apI (n : Nat) : List Int := if _h : n = 0 then [] else apI (n / 16) ++ [65 + ((n % 16 : Nat) : Int)]
  termination_by n
  decreasing_by omega
theorem apI_zero : apI 0 = [] := by rw [apI]; simp
theorem apI_pos {n : Nat} (h : n ≠ 0) : apI n = apI (n / 16) ++ [65 + ((n % 16 : Nat) : Int)] := by rw [apI]; simp [h]
theorem apI_len : ∀ (j n : Nat), n < 16 ^ j → (apI n).length ≤ j
  | 0, n, h => by
    have : n = 0 := by simpa using h
    subst this; simp [apI_zero]
  | j + 1, n, h => by
    by_cases h0 : n = 0
    · subst h0; simp [apI_zero]
    · rw [apI_pos h0, List.length_append, List.length_singleton]
      have := apI_len j (n / 16) (by rw [Nat.pow_succ] at h; omega)
      omega
theorem apI_big : ∀ (j n : Nat), j < (apI n).length → 16 ^ j ≤ n
  | j, n, h => by
    have h0 : n ≠ 0 := by intro e; subst e; simp [apI_zero] at h
    rw [apI_pos h0, List.length_append, List.length_singleton] at h
    cases j with
    | zero => simp; omega
    | succ j =>
      have := apI_big j (n / 16) (by omega)
      rw [Nat.pow_succ]; omega
  termination_by j n => n
  decreasing_by omega
theorem apI_mem : ∀ (n : Nat) (d : Int), d ∈ apI n → 65 ≤ d ∧ d < 81
  | n, d, h => by
    by_cases h0 : n = 0
    · subst h0; simp [apI_zero] at h
    · rw [apI_pos h0] at h
      rcases List.mem_append.mp h with h | h
      · exact apI_mem (n / 16) d h
      · have := List.mem_singleton.mp h
        omega
  termination_by n => n
  decreasing_by omega
def dv (l : List Int) : Int := l.foldl (fun a d => a * 16 + (d - 65)) 0
theorem dv_snoc (l : List Int) (d : Int) : dv (l ++ [d]) = dv l * 16 + (d - 65) := by simp [dv]
theorem dv_apI : ∀ n : Nat, dv (apI n) = n
  | n => by
    by_cases h0 : n = 0
    · subst h0; simp [apI_zero, dv]
    · rw [apI_pos h0, dv_snoc, dv_apI (n / 16)]; omega
  termination_by n => n
  decreasing_by omega
theorem dv_fold (l : List Int) : ∀ a : Int, l.foldl (fun a d => a * 16 + (d - 65)) a = a * 16 ^ l.length + dv l := by
  induction l with
  | nil => intro a; simp [dv]
  | cons x l ih =>
    intro a
    have e0 : dv (x :: l) = (0 * 16 + (x - 65)) * 16 ^ l.length + dv l := by rw [← ih]; rfl
    rw [List.foldl_cons, ih, e0, List.length_cons, Int.pow_succ]
    have e : (16 : Int) ^ l.length * 16 = 16 * 16 ^ l.length := Int.mul_comm _ _
    rw [e]
    generalize (16 : Int) ^ l.length = p
    rw [Int.add_mul, Int.add_mul, Int.zero_mul, Int.zero_mul, Int.mul_assoc]; omega
theorem dv_cons (x : Int) (l : List Int) : dv (x :: l) = (x - 65) * 16 ^ l.length + dv l := by
  rw [dv, List.foldl_cons, dv_fold]; simp
theorem dv_range : ∀ (l : List Int), (∀ d ∈ l, 65 ≤ d ∧ d < 81) → 0 ≤ dv l ∧ dv l < 16 ^ l.length
  | [], _ => by simp [dv]
  | x :: l, h => by
    have ih := dv_range l fun d hd => h d (.tail _ hd)
    have hx := h x (.head _)
    rw [dv_cons, List.length_cons, Int.pow_succ]
    generalize (16 : Int) ^ l.length = p at ih ⊢
    have h1 : 0 ≤ (x - 65) * p := Int.mul_nonneg (by omega) (by omega)
    have h2 : (x - 65) * p ≤ 15 * p := Int.mul_le_mul_of_nonneg_right (by omega) (by omega)
    omega
theorem order_dv : ∀ (a b : List UInt8), a.length = b.length → (∀ d ∈ a.map (fun c => (c.toNat : Int)), 65 ≤ d ∧ d < 81) → (∀ d ∈ b.map (fun c => (c.toNat : Int)), 65 ≤ d ∧ d < 81) →
    (Builtin.Bytes.order a b = .lt ↔ dv (a.map fun c => (c.toNat : Int)) < dv (b.map fun c => (c.toNat : Int))) ∧ (Builtin.Bytes.order a b = .gt ↔ dv (b.map fun c => (c.toNat : Int)) < dv (a.map fun c => (c.toNat : Int)))
  | [], [], _, _, _ => by simp [Builtin.Bytes.order, dv]
  | [], _ :: _, h, _, _ => by simp at h
  | _ :: _, [], h, _, _ => by simp at h
  | x :: a, y :: b, hl, ha, hb => by
    have hl' : a.length = b.length := by simpa using hl
    have ih := order_dv a b hl' (fun d hd => ha d (by rw [List.map_cons]; exact .tail _ hd)) (fun d hd => hb d (by rw [List.map_cons]; exact .tail _ hd))
    have ra := dv_range (a.map fun c => (c.toNat : Int)) (fun d hd => ha d (by rw [List.map_cons]; exact .tail _ hd))
    have rb := dv_range (b.map fun c => (c.toNat : Int)) (fun d hd => hb d (by rw [List.map_cons]; exact .tail _ hd))
    rw [List.length_map] at ra rb
    rw [List.map_cons, List.map_cons, dv_cons, dv_cons, List.length_map, List.length_map]
    rw [hl'] at ra ⊢
    generalize (16 : Int) ^ b.length = p at ra rb ⊢
    have lt_iff : x < y ↔ x.toNat < y.toNat := UInt8.lt_iff_toNat_lt
    have gt_iff : y < x ↔ y.toNat < x.toNat := UInt8.lt_iff_toNat_lt
    unfold Builtin.Bytes.order
    by_cases h1 : x < y
    · rw [if_pos h1]
      have q := lt_iff.mp h1
      have : ((x.toNat : Int) - 65 + 1) * p ≤ ((y.toNat : Int) - 65) * p := Int.mul_le_mul_of_nonneg_right (by omega) (by omega)
      rw [Int.add_mul, Int.one_mul] at this
      constructor
      · simp; omega
      · simp; omega
    · rw [if_neg h1]
      by_cases h2 : x > y
      · rw [if_pos h2]
        have q := gt_iff.mp h2
        have : ((y.toNat : Int) - 65 + 1) * p ≤ ((x.toNat : Int) - 65) * p := Int.mul_le_mul_of_nonneg_right (by omega) (by omega)
        rw [Int.add_mul, Int.one_mul] at this
        constructor
        · simp; omega
        · simp; omega
      · rw [if_neg h2]
        have e : x.toNat = y.toNat := by
          have a1 := mt lt_iff.mpr h1
          have a2 := mt gt_iff.mpr h2
          omega
        rw [e]
        constructor
        · rw [ih.1]; omega
        · rw [ih.2]; omega
/-- the comparison of two words -/
def wcmp (a b : Array UInt8) : Int := if a.size = b.size then b2i (Builtin.Bytes.order a.toList b.toList == .gt) - b2i (Builtin.Bytes.order a.toList b.toList == .lt) else (a.size : Int) - b.size
theorem wcmp_sign {x y : Array UInt8} {a b : Nat} (hx : KBw.bInts x = apI a) (hy : KBw.bInts y = apI b) : (wcmp x y < 0 ↔ a < b) ∧ (wcmp x y = 0 ↔ a = b) := by
  have ea : dv (KBw.bInts x) = a := by rw [hx, dv_apI]
  have eb : dv (KBw.bInts y) = b := by rw [hy, dv_apI]
  have la : x.size = (apI a).length := by rw [← hx, KBw.ints_length]
  have lb : y.size = (apI b).length := by rw [← hy, KBw.ints_length]
  unfold wcmp
  by_cases h : x.size = y.size
  · rw [if_pos h]
    have o := order_dv x.toList y.toList (by simpa using h) (by have := apI_mem a; rw [← hx] at this; exact this) (by have := apI_mem b; rw [← hy] at this; exact this)
    have o1 : Builtin.Bytes.order x.toList y.toList = .lt ↔ (a : Int) < b := by rw [← ea, ← eb]; exact o.1
    have o2 : Builtin.Bytes.order x.toList y.toList = .gt ↔ (b : Int) < a := by rw [← ea, ← eb]; exact o.2
    cases q : Builtin.Bytes.order x.toList y.toList <;> rw [q] at o1 o2 <;> simp [b2i] at o1 o2 ⊢ <;> omega
  · rw [if_neg h]
    rcases Nat.lt_or_gt_of_ne h with h | h
    · have q := apI_big x.size b (by omega)
      have p : a < 16 ^ x.size := by
        have : ¬ 16 ^ x.size ≤ a := by
          intro c
          have r := dv_range (apI a) (apI_mem a)
          rw [dv_apI, ← la] at r
          have : (a : Int) < ((16 ^ x.size : Nat) : Int) := by push_cast; exact r.2
          omega
        omega
      omega
    · have q := apI_big y.size a (by omega)
      have p : b < 16 ^ y.size := by
        have : ¬ 16 ^ y.size ≤ b := by
          intro c
          have r := dv_range (apI b) (apI_mem b)
          rw [dv_apI, ← lb] at r
          have : (b : Int) < ((16 ^ y.size : Nat) : Int) := by push_cast; exact r.2
          omega
        omega
      omega
theorem ap_size {b : Array UInt8} {n : Int} (h : KBw.bInts b = apI n.toNat) (h1 : n < 4294967296) : b.size ≤ 8 := by
  rw [← KBw.ints_length, h]
  exact apI_len 8 _ (by omega)
end Mine
end
/-! part M2 -/
section
open PySem PySem.W PyProof.Rows
namespace Mine
theorem and_imode (a : Nat) : a &&& 4095 = a % 4096 := Nat.and_two_pow_sub_one_eq_mod a 12
theorem and_ifmt (a : Nat) : a &&& 61440 = (a / 4096 % 16) * 4096 := by
  have e1 : (61440 : Nat) = (2 ^ 4 - 1) <<< 12 := by decide
  have e2 : (a / 4096 % 16) * 4096 = ((a >>> 12) % 2 ^ 4) <<< 12 := by
    rw [Nat.shiftLeft_eq, Nat.shiftRight_eq_div_pow]
  rw [e1, e2]
  apply Nat.eq_of_testBit_eq
  intro i
  rw [Nat.testBit_and, Nat.testBit_shiftLeft, Nat.testBit_shiftLeft, Nat.testBit_mod_two_pow, Nat.testBit_shiftRight, Nat.testBit_two_pow_sub_one]
  by_cases h : 12 ≤ i
  · have : 12 + (i - 12) = i := by omega
    rw [this]
    simp only [h, decide_true, Bool.true_and]
    exact Bool.and_comm _ _
  · simp [h]
theorem bitAnd_nat {x y : Int} (hx : 0 ≤ x) (hy : 0 ≤ y) : Builtin.bitAnd x y = ((x.toNat &&& y.toNat : Nat) : Int) := by
  unfold Builtin.bitAnd; rw [decide_eq_true hx, decide_eq_true hy]
theorem bitOr_nat {x y : Int} (hx : 0 ≤ x) (hy : 0 ≤ y) : Builtin.bitOr x y = ((x.toNat ||| y.toNat : Nat) : Int) := by
  unfold Builtin.bitOr Builtin.bitAnd Builtin.bitNot
  have h1 : decide (0 ≤ -x - 1) = false := decide_eq_false (by omega)
  have h2 : decide (0 ≤ -y - 1) = false := decide_eq_false (by omega)
  rw [h1, h2]
  have e1 : (-(-x - 1) - 1).toNat = x.toNat := by congr 1; omega
  have e2 : (-(-y - 1) - 1).toNat = y.toNat := by congr 1; omega
  simp only [e1, e2]; omega
/-- the order of two modes, as the law reckons it -/
def ordI (k l : Int) : Int := if k ≠ 0 then k else l
theorem ord_sign {a b : Int} (ha : 0 ≤ a) (hb : 0 ≤ b) {x1 y1 x2 y2 : Array UInt8} (h1 : KBw.bInts x1 = apI (Builtin.bitAnd a 61440).toNat) (h2 : KBw.bInts y1 = apI (Builtin.bitAnd b 61440).toNat) :
    (wcmp x1 y1 ≠ 0 → (wcmp x1 y1 < 0 ↔ a % 65536 < b % 65536)) ∧
    (wcmp x1 y1 = 0 → KBw.bInts x2 = apI (Builtin.bitAnd a 4095).toNat → KBw.bInts y2 = apI (Builtin.bitAnd b 4095).toNat → (wcmp x2 y2 < 0 ↔ a % 65536 < b % 65536)) := by
  have w1 := wcmp_sign h1 h2
  obtain ⟨m, rfl⟩ := Int.eq_ofNat_of_zero_le ha
  obtain ⟨n, rfl⟩ := Int.eq_ofNat_of_zero_le hb
  have f1 : ∀ k : Nat, (Builtin.bitAnd (k : Int) 61440).toNat = (k / 4096 % 16) * 4096 := fun k => by
    rw [bitAnd_nat (by omega) (by decide), Int.toNat_natCast, Int.toNat_natCast]; exact and_ifmt k
  have f2 : ∀ k : Nat, (Builtin.bitAnd (k : Int) 4095).toNat = k % 4096 := fun k => by
    rw [bitAnd_nat (by omega) (by decide), Int.toNat_natCast, Int.toNat_natCast]; exact and_imode k
  rw [f1, f1] at w1
  refine ⟨fun h => ?_, fun h g1 g2 => ?_⟩
  · have := mt w1.2.mpr h
    rw [w1.1]; omega
  · have w2 := wcmp_sign g1 g2
    rw [f2, f2] at w2
    have := w1.2.mp h
    rw [w2.1]; omega
end Mine
end
/-! part Top0 -/
section
open PySem PySem.W PyProof.Rows
set_option maxRecDepth 100000
set_option maxHeartbeats 8000000
namespace Mine
section
open PySem.Calls
/-- the text without the statements whose names may change -/
noncomputable def hdVw : Program := PySem.W.view PySem.Challenge.rw_ny0142_01.row.prog [1, 3, 4, 7, 8, 9, 10, 11, 12, 13, 14, 15, 16, 17, 18, 19, 20, 21, 22, 23, 24, 25, 26, 27, 28, 29, 31, 32, 33, 34, 35, 36, 37, 38, 39, 40]
def hdLoose : List Str := [Str.ofString "_initial_missing", Str.ofString "reduce", Str.ofString "_filemode_table"]
/-- a sign of a mode, and when it stands -/
def hdSg (n : Int) (c : Nat) : WData := .tuple [.int n, .str ⟨#[c]⟩]
def hdTab : List (Str × WData) := [(Str.ofString "_filemode_table", .tuple [
  .tuple [hdSg 40960 108, hdSg 49152 115, hdSg 32768 45, hdSg 24576 98, hdSg 16384 100, hdSg 8192 99, hdSg 4096 112],
  .tuple [hdSg 256 114], .tuple [hdSg 128 119], .tuple [hdSg 2112 115, hdSg 2048 83, hdSg 64 120],
  .tuple [hdSg 32 114], .tuple [hdSg 16 119], .tuple [hdSg 1032 115, hdSg 1024 83, hdSg 8 120],
  .tuple [hdSg 4 114], .tuple [hdSg 2 119], .tuple [hdSg 513 116, hdSg 512 84, hdSg 1 120]])]
theorem left_top {p q : Program} {loose : List Str} {Xt : Shared → Bool} {α : Type} {Yf : Shared → α} {Ya : World → α} {N n₀ : Nat} {ann : Option Value}
    (e : opening p = plainProg p.main.scope.names) (hN : Nat.ble 600 N = true) (f : ∀ s, fenceModules? p s = some s)
    (hz : ∀ w : World, ((boot_heap w.params).isNs mainGlobals, (boot_heap w.params).objs.size, (boot_heap w.params).nsMap mainGlobals "__annotations__") = (true, n₀, ann))
    (hr : ∀ w : World, (fun os => (PySem.W.Fast.tw14082659384304107361 PySem.W.Fast.tw14364793385576792824 p w n₀ ann N ⟨boot_heap w.params, Array.mk [], boot_drawn, boot_toks, os⟩ (topStub p)).map fun s =>
      (staticsOk (importedModules p.main.body) (boot_heap w.params) s.heap && namesBound p s.heap && gensDone s && laidKept (boot_heap w.params) s.heap, PySem.W.Fast.tw4187177175401517315 q loose (importedModules p.main.body) Xt true s, Yf s)) = fun _ => some (true, openGood q loose, Ya w)) :
    LeftO p q loose Xt Yf Ya N := fun w => by
  obtain ⟨⟨h, gs, d, k, os⟩, e, e'⟩ := Option.map_eq_some_iff.mp (boot_open e hN f w)
  obtain ⟨rfl, rfl, rfl, rfl⟩ : h = boot_heap w.params ∧ gs = Array.mk [] ∧ d = boot_drawn ∧ k = boot_toks := by simpa using e'
  obtain ⟨z1, z2, z3⟩ : _ ∧ _ ∧ _ := by simpa only [Prod.mk.injEq] using hz w
  have q := congrFun (hr w) os
  rw [← PySem.W.Fast.te4187177175401517315, ← PySem.W.Fast.te14082659384304107361, ← PySem.W.Fast.te14364793385576792824] at q
  obtain ⟨s₁, r1, r2⟩ := Option.map_eq_some_iff.mp q
  obtain ⟨r3, r4⟩ := Prod.mk.inj r2
  unfold openEnds
  rw [e]
  show (topFrom treeTable p w N _).map _ = _
  unfold topFrom
  dsimp only
  rw [z1, z2, z3, r1]
  show Option.map _ ((some s₁).bind _) = _
  rw [Option.bind_some, r3]
  exact congrArg some r4
theorem hdSaid : PySem.Challenge.rw_ny0142_01.wellSaid = true := (congrFun PySem.W.Fast.te9446332074065402090 _).trans (by kernel_rfl)
abbrev hdRow : OpenRow := PySem.Challenge.rw_ny0142_01.row
theorem head_by (H : Hook) {d : DefRec} {kwd : List (Str × Expr)}
    (hdef : defOf hdVw hdRow.name = some (d, kwd)) (hp : hdRow.prog.theDef hdRow.name = some (d.params, d.body, d.scope)) (hk : kwWritten? d.params.kwonlyargs d.params.kw_defaults = some kwd)
    (hr : ∀ w : World, (fun os => (PySem.W.Fast.tw14082659384304107361 PySem.W.Fast.tw14364793385576792824 hdRow.prog w 11 (some (.ref 6)) 900 ⟨boot_heap w.params, Array.mk [], boot_drawn, boot_toks, os⟩ (topStub hdRow.prog)).map fun s =>
      (staticsOk (importedModules hdRow.prog.main.body) (boot_heap w.params) s.heap && namesBound hdRow.prog s.heap && gensDone s && laidKept (boot_heap w.params) s.heap, PySem.W.Fast.tw4187177175401517315 hdVw hdLoose (importedModules hdRow.prog.main.body) (fun s => xlAt hdVw hdTab s && recOk hdRow.records s) true s, H.obs s)) = fun _ => some (true, openGood hdVw hdLoose, H.val w))
    (hw : hdRow.toRowW.promised) (hc : WalkO hdVw hdLoose (XL hdVw hdTab) H.says hdRow.toRowW d kwd fun f vs => PySem.call f vs) : hdRow.Holds :=
  PySem.W.holds_open (left_top rfl (by decide) (fun _ => rfl) (fun _ => by kernel_rfl) hr) H.of H.keeps (fun s e => xl_of s (Bool.and_eq_true_iff.mp e).1) XL.keeps hdef hp hk (fun s e => recFacts_of (Bool.and_eq_true_iff.mp e).2) rfl (row_said hdSaid) (by decide +kernel) ⟨rfl, rfl, rfl, rfl, rfl, by decide +kernel⟩ hw hc
local macro_rules | `(tactic| o_head $H) => `(tactic| refine head_by $H rfl rfl rfl (fun _ => by kernel_rfl) ?hw ?hc)
local macro_rules | `(tactic| o_law) => `(tactic| refine holds_law hdSaid fun _ => ?_)
open_top hd for PySem.Challenge.rw_ny0142_01
end
end Mine
end
/-! part Base -/
section
open PySem PySem.W PyProof.Rows
set_option maxRecDepth 100000
namespace Mine
abbrev PR : Program := PySem.Challenge.rw_ny0142_01.row.prog

/-- what stands of the text in a heap -/
structure Cx (w : World) (h : Heap) : Prop where
  K : (Mine.hd.heap_1 w.params).In h
  T : ∃ loose mean mg mb, Top topProg loose mean mg mb h
theorem Cx.keeps {w : World} {h h' : Heap} (c : Cx w h) (k : ∀ b o, h.get? b = some o → h'.get? b = some o) : Cx w h' :=
  ⟨c.K.keeps k, let ⟨a, b, d, e, T⟩ := c.T; ⟨a, b, d, e, T.keeps k⟩⟩

/-- room for calls -/
structure Rm (A : Around) (d u : Nat) : Prop where
  handled : A.handled = none
  depth : A.depth + d < recursionLimit
  units : A.units + u < cLine
theorem Rm.deeper {A : Around} {d u : Nat} {env : Env} (r : Rm A (d + 1) (u + 3)) : Rm (A.deeper env) d u :=
  ⟨r.handled, by have := r.depth; show A.depth + 1 + d < _; omega, by have := r.units; show A.units + 3 + u < _; omega⟩
theorem Rm.in1 {A : Around} {d u : Nat} (r : Rm A d (u + 1)) : Rm A.in1 d u :=
  ⟨r.handled, r.depth, by have := r.units; show A.units + 1 + u < _; omega⟩
theorem Rm.le {A : Around} {d u d' u' : Nat} (r : Rm A d u) (h1 : d' ≤ d) (h2 : u' ≤ u) : Rm A d' u' :=
  ⟨r.handled, by have := r.depth; omega, by have := r.units; omega⟩
theorem Rm.room {A : Around} {d u : Nat} (r : Rm A d u) : A.depth < recursionLimit := by have := r.depth; omega
theorem Rm.unit {A : Around} {d u : Nat} (r : Rm A d u) : A.units < cLine := by have := r.units; omega

/-- a call of one of the text's defs: its body in a frame of its own -/
theorem enter {w : World} {A : Around} {s : Shared} {K : Frag} {name qual : Str} {params : Arguments} {body : List Stmt} {scope : Scope} {dV kV doc pm cdv ct oc : Value} {an od : Option Addr} {osl : Array (Option Value)} {f : Addr} {args : List Value} {binds : List (Str × Value)}
    {Q E : Value → Shared → Prop} {p : Program} {loose : List Str} {mean : ExcName → Option Value} {mg mb : Str → Option Value}
    (X : K.In s.heap) (T : Top p loose mean mg mb s.heap) 
    (ho : K.lookup f = some ⟨oc, od, .func (fnOf name qual params body scope dV kV doc pm an cdv ct), osl⟩) (hcd : codeIn K cdv qual = true) (hroom : A.depth < recursionLimit)
    (hbind : BindsTo s (fnOf name qual params body scope dV kV doc pm an cdv ct) ⟨args, []⟩ binds) (hloc : ∀ y ∈ binds, scope.names.lookup y.1 = some .local)
    (h : ∀ h₁ L tk, Fr s.heap L h₁ (fun y => binds.reverse.lookup y) → News s.heap L h₁ [] →
      wpAny (model PR w) (A.deeper (envOf qual scope L f cdv)) (execs body (envOf qual scope L f cdv))
        (fun fl s' => Q (match fl with | .ret v => v | _ => .none) s') (fun _ _ => False) { s with heap := h₁, toks := tk })
    (hco : scope.isCoroutine = false) (hgen : scope.isGenerator = false) (hk : scope.kind = .function)
    (hcell : ∀ x ∈ scope.names, x.2 ≠ .cell) : wpAny (model PR w) A (call (.ref f) args) Q E s := by
  refine wpAny_call (codeAny_call_def (fd := fnOf name qual params body scope dV kV doc pm an cdv ct) (body := body) (binds := binds) hroom (X _ _ ho) rfl T.nolimit (codeRec_of X hcd) rfl hbind hcell hloc (fun h₁ hns hk₁ => ?_) hco hgen hk)
  exact wpAny_mono (h h₁ s.heap.objs.size _ ⟨hns, hk₁, Nat.le_refl _⟩ News.nil) (fun fl s' q => q) (fun _ _ x => x.elim)
theorem fr_keeps {s s' : Shared} {h : Heap} {L : Addr} {m : Str → Option Value} {tk : Nat} (F : Fr s.heap L h m) : Keeps s { s with heap := h, toks := tk } := ⟨h, tk, rfl, F.keep⟩
theorem fill (P : Params) (h : Heap) : (Mine.hd.heap_1 P).In h → PySem.Challenge.rw_ny0142_01.Holds → True := by
  k_fill
  intro _ _; trivial
end Mine
end
/-! part P1 -/
open PySem PySem.W PyProof.Rows in
theorem Mine.flushP1 {M : Model} {A : Around} {env : Env} {Q E : Value → Shared → Prop} {s : Shared} (h : wpAny M A (evalPart none env) Q E s) : wpAny M A (evalPart none env) Q E s := by
  first | (walk1; fail) | (w_top off; exact h)
section
open PySem PySem.W PyProof.Rows
set_option maxRecDepth 100000
set_option maxHeartbeats 4000000
namespace Mine
theorem fill2 (P : Params) (h : Heap) : (Mine.hd.heap_1 P).In h → PySem.Challenge.rw_ny0142_01.Holds → True := by
  k_fill
  intro _ _; trivial
local macro_rules | `(tactic| k_steps) => `(tactic| repeat' ((fail_if_success first
   | (with_reducible show wpAny _ _ (exec (Stmt.While _ _ _ _) _) _ _ _)
   | (with_reducible show wpAny _ _ (exec (Stmt.For _ _ _ _ _) _) _ _ _)
   | (with_reducible show wpAny _ _ (eval (Expr.ListComp _ _ _ _) _) _ _ _)
   | (with_reducible show wpAny _ _ (exec (Stmt.Assign _ (Expr.ListComp _ _ _ _) _) _) _ _ _)
   | (with_reducible show wpAny _ _ (call (Value.ref _) _ _) _ _ _)); (first | (k_unfold; (try dsimp only)) | walk1 | (dsimp only; walk1))))
local macro_rules | `(tactic| walk_at "eval Name") => `(tactic| (k_here; k_dflt (refine' ld ?k1 ?k2 ?_; (case k1 => k_asm); (case k2 => first | exact rfl | assumption); k_whole)))
def APb : List UInt8 := [65, 66, 67, 68, 69, 70, 71, 72, 73, 74, 75, 76, 77, 78, 79, 80]
theorem int2ap {w : World} {A : Around} {s : Shared} (C : Cx w s.heap) (r : Rm A 1 10) (n : Int) (h0 : 0 ≤ n) (h1 : n < 4294967296) (ta : Tok) {Q E : Value → Shared → Prop}
   (hQ : ∀ b t h' tk', s.heap.StaysIn h' → KBw.bInts b = apI n.toNat → Q (.bytes b t) { s with heap := h', toks := tk' }) : wpAny (model PR w) A (call (.ref 21) [.int n ta]) Q E s := by
  obtain ⟨X, loose, mean, mg, mb, T⟩ := C
  obtain ⟨hd, dp, fr, gd, un⟩ := A
  obtain rfl : hd = none := r.handled
  refine enter (binds := [("num", .int n ta)]) X T (by k_is) (by k_is) r.room (BindsTo.of_eq rfl) (locs rfl) ?_ rfl rfl rfl (by decide)
  intro h₁ L tk F N
  k_steps
  refine While_inv (fun j m news => ∃ (k : Int) (t : Tok) (v : Array UInt8) (u x : Tok), m "num" = some (.int k t) ∧ m "val" = some (.bytes v u) ∧ m "AP" = some (.bytes APb.toArray x) ∧ 0 ≤ k ∧ k ≤ n ∧ j = k.toNat ∧ apI k.toNat ++ KBw.bInts v = apI n.toNat) (n₀ := n.toNat) (by k_asm) News.nil ?_ ?_
  · have e : (if n < 0 then -n else n) = n := by rw [if_neg]; omega
    refine ⟨_, _, _, _, _, rfl, rfl, rfl, ?a, ?b, ?c, ?d⟩ <;> rw [e]
    · exact h0
    · omega
    · simp [KBw.bInts]
  · rintro j m₁ news₁ h₂ tk₂ F₂ N₂ ⟨k, t, v, u, x, e1, e2, e3, hk0, hk1, rfl, hk⟩
    k_steps
    · (with_reducible rename Fr _ _ _ _ => F9); (with_reducible rename News _ _ _ _ => N9); rename (k ≠ 0) => hne
      refine KBc.slice_K (s := ⟨_, _, _, _, _⟩) F9 N9 (ks := KBw.bInts APb.toArray) rfl (by constructor) (by constructor) (by decide +kernel) ?_
      intro h9 t9 k9 F9 N9 hp
      have hv : KBw.bInts (KBy.picked APb.toArray (some (k.fmod 16)) (some (k.fmod 16 + 1))) = [65 + ((k.toNat % 16 : Nat) : Int)] := by
        rw [hp]
        have e : k.fmod 16 = ((k.toNat % 16 : Nat) : Int) := by rw [Int.fmod_eq_emod_of_nonneg _ (by decide)]; omega
        rw [e]
        have : k.toNat % 16 < 16 := Nat.mod_lt _ (by decide)
        revert this
        generalize k.toNat % 16 = d
        revert d
        decide +kernel
      have hz : v.size ≤ 8 := by
        have e1 := apI_len 8 n.toNat (by omega)
        have e2 := congrArg List.length hk
        rw [List.length_append, KBw.ints_length] at e2
        omega
      have hpz := congrArg List.length hv
      rw [KBw.ints_length, List.length_singleton] at hpz
      k_steps
      refine KBy.add_bytes (by rw [hpz]; omega) ?_
      intro t8 k8
      k_steps
      dsimp only
      (with_reducible rename Fr _ _ _ _ => F9); (with_reducible rename News _ _ _ _ => N9)
      refine WhileStep.intro (n' := (k.fdiv 16).toNat) F9 N9 ?_ ⟨_, _, _, _, _, rfl, rfl, e3, ?_, ?_, rfl, ?_⟩
      all_goals (have e : k.fdiv 16 = ((k.toNat / 16 : Nat) : Int) := by (rw [Int.fdiv_eq_ediv_of_nonneg _ (by decide)]; omega))
      · rw [e]; omega
      · rw [e]; omega
      · rw [e]; omega
      · rw [e, ← hk, apI_pos (n := k.toNat) (by omega)]
        have : KBw.bInts (KBy.picked APb.toArray (some (k.fmod 16)) (some (k.fmod 16 + 1)) ++ v) = [65 + ((k.toNat % 16 : Nat) : Int)] ++ KBw.bInts v := by
          rw [← hv]; simp [KBw.bInts]
        rw [this, Int.toNat_natCast, List.append_assoc]
    · dsimp only
      rename_i hz
      subst hz
      refine hQ _ _ _ _ F₂.keep ?_
      rw [← hk]; simp [apI]
end Mine
end
/-! part P2 -/
open PySem PySem.W PyProof.Rows in
theorem Mine.flushP2 {M : Model} {A : Around} {env : Env} {Q E : Value → Shared → Prop} {s : Shared} (h : wpAny M A (evalPart none env) Q E s) : wpAny M A (evalPart none env) Q E s := by
  first | (walk1; fail) | (w_top off; exact h)
section
open PySem PySem.W PyProof.Rows
set_option maxRecDepth 100000
set_option maxHeartbeats 4000000
namespace Mine
theorem fill3 (P : Params) (h : Heap) : (Mine.hd.heap_1 P).In h → PySem.Challenge.rw_ny0142_01.Holds → True := by
  k_fill
  intro _ _; trivial
local macro_rules | `(tactic| k_steps) => `(tactic| repeat' ((fail_if_success first
   | (with_reducible show wpAny _ _ (exec (Stmt.While _ _ _ _) _) _ _ _)
   | (with_reducible show wpAny _ _ (exec (Stmt.For _ _ _ _ _) _) _ _ _)
   | (with_reducible show wpAny _ _ (eval (Expr.ListComp _ _ _ _) _) _ _ _)
   | (with_reducible show wpAny _ _ (exec (Stmt.Assign _ (Expr.ListComp _ _ _ _) _) _) _ _ _)
   | (with_reducible show wpAny _ _ (call (Value.ref _) _ _) _ _ _)); (first | (k_unfold; (try dsimp only)) | walk1 | (dsimp only; walk1))))
local macro_rules | `(tactic| walk_at "eval Name") => `(tactic| (k_here; k_dflt (refine' ld ?k1 ?k2 ?_; (case k1 => k_asm); (case k2 => first | exact rfl | assumption); k_whole)))

theorem slot_bytes_lt : Slot "bytes" (cmpInfo .Lt).2.1 "bytes.__lt__" :=
  .of (owner := "bytes") (n := "__lt__") (by rw [typeLookup_type, builtinLookup_eq_fast]; kernel_rfl) (by decide +kernel) (by decide +kernel) (by decide +kernel)
    (by first | exact .inl (by decide +kernel) | exact .inr (by decide +kernel)) (by rw [isSubtype_type]; kernel_rfl)
theorem slot_bytes_gt : Slot "bytes" (cmpInfo .Gt).2.1 "bytes.__gt__" :=
  .of (owner := "bytes") (n := "__gt__") (by rw [typeLookup_type, builtinLookup_eq_fast]; kernel_rfl) (by decide +kernel) (by decide +kernel) (by decide +kernel)
    (by first | exact .inl (by decide +kernel) | exact .inr (by decide +kernel)) (by rw [isSubtype_type]; kernel_rfl)
theorem entry_bytes_lt : entryFor table "bytes.__lt__" = some Builtin.«bytes.__lt__» := entryFor_of_tree (by kernel_rfl)
theorem entry_bytes_gt : entryFor table "bytes.__gt__" = some Builtin.«bytes.__gt__» := entryFor_of_tree (by kernel_rfl)
theorem args_bytes_lt_2 (a b : Value) : argsOk "bytes.__lt__" ⟨[a, b], []⟩ := by unfold argsOk; kernel_rfl
theorem args_bytes_gt_2 (a b : Value) : argsOk "bytes.__gt__" ⟨[a, b], []⟩ := by unfold argsOk; kernel_rfl
open Builtin in
theorem gives_bytes_lt (b c : Array UInt8) (t u : Tok) : Gives («bytes.__lt__» ⟨[.bytes b t, .bytes c u], []⟩) (.val (.bool (Bytes.order b.toList c.toList == .lt))) := by
  refine .of_wp fun M A E s Q hq => ?_
  show wpAny M A (isInstance (.bytes c u) (.type "bytes") >>= fun r => _) _ E s
  refine wpAny_bind (wpAny_isInstance (typeIs_bytes s c u) F.sub_bytes_bytes ?_)
  exact wpAny_pure ⟨_, rfl, hq⟩
open Builtin in
theorem gives_bytes_gt (b c : Array UInt8) (t u : Tok) : Gives («bytes.__gt__» ⟨[.bytes b t, .bytes c u], []⟩) (.val (.bool (Bytes.order b.toList c.toList == .gt))) := by
  refine .of_wp fun M A E s Q hq => ?_
  show wpAny M A (isInstance (.bytes c u) (.type "bytes") >>= fun r => _) _ E s
  refine wpAny_bind (wpAny_isInstance (typeIs_bytes s c u) F.sub_bytes_bytes ?_)
  exact wpAny_pure ⟨_, rfl, hq⟩
section
variable {prog : Program} {w : World} {A : Around} {E : Value → Shared → Prop} {s : Shared} {b c : Array UInt8} {t u : Tok}
theorem lt_bytes {Q : Value → Shared → Prop} (h : Q (.bool (Builtin.Bytes.order b.toList c.toList == .lt)) s) : wpAny (model prog w) A (compareOp .Lt (.bytes b t) (.bytes c u)) Q E s :=
  compareOp_gives (op := .Lt) (typeIs_bytes s b t) (typeIs_bytes s c u) slot_bytes_lt entry_bytes_lt (args_bytes_lt_2 _ _) (gives_bytes_lt b c t u) (fun e => nomatch e) h
theorem gt_bytes {Q : Value → Shared → Prop} (h : Q (.bool (Builtin.Bytes.order b.toList c.toList == .gt)) s) : wpAny (model prog w) A (compareOp .Gt (.bytes b t) (.bytes c u)) Q E s :=
  compareOp_gives (op := .Gt) (typeIs_bytes s b t) (typeIs_bytes s c u) slot_bytes_gt entry_bytes_gt (args_bytes_gt_2 _ _) (gives_bytes_gt b c t u) (fun e => nomatch e) h
end
local macro_rules | `(tactic| walk_at "call builtin:len") => `(tactic| (k_here; (with_reducible show wpAny _ _ (call (Value.builtin "len") [Value.bytes _ _]) _ _ _); (refine len_bytes (by omega) ?_)))
local macro_rules | `(tactic| walk_at "compareOp Lt") => `(tactic| (k_here; (with_reducible show wpAny _ _ (compareOp CmpOp.Lt (Value.bytes _ _) (Value.bytes _ _)) _ _ _); (refine lt_bytes ?_)))
local macro_rules | `(tactic| walk_at "compareOp Gt") => `(tactic| (k_here; (with_reducible show wpAny _ _ (compareOp CmpOp.Gt (Value.bytes _ _) (Value.bytes _ _)) _ _ _); (refine gt_bytes ?_)))
theorem words {w : World} {A : Around} {s : Shared} (C : Cx w s.heap) (r : Rm A 1 10) (a b : Array UInt8) (ha : a.size ≤ 8) (hb : b.size ≤ 8) (ta tb : Tok) {Q E : Value → Shared → Prop}
   (hQ : ∀ t h' tk', s.heap.StaysIn h' → Q (.int (wcmp a b) t) { s with heap := h', toks := tk' }) : wpAny (model PR w) A (call (.ref 105) [.bytes a ta, .bytes b tb]) Q E s := by
  obtain ⟨X, loose, mean, mg, mb, T⟩ := C
  obtain ⟨hd, dp, fr, gd, un⟩ := A
  obtain rfl : hd = none := r.handled
  refine enter (binds := [("one", .bytes a ta), ("two", .bytes b tb)]) X T (by k_is) (by k_is) r.room (BindsTo.of_eq rfl) (locs rfl) ?_ rfl rfl rfl (by decide)
  intro h₁ L tk F N
  k_steps
  · have e2 : wcmp a b = b2i (Builtin.Bytes.order a.toList b.toList == .gt) - b2i (Builtin.Bytes.order a.toList b.toList == .lt) := if_pos (by omega)
    rw [← e2]; exact hQ _ _ _ F.keep
  · have e2 : wcmp a b = (a.size : Int) - b.size := if_neg (by omega)
    rw [← e2]; exact hQ _ _ _ F.keep
theorem ifmt {w : World} {A : Around} {s : Shared} (C : Cx w s.heap) (r : Rm A 1 10) (n : Int) (ta : Tok) {Q E : Value → Shared → Prop}
   (hQ : ∀ t h' tk', s.heap.StaysIn h' → Q (.int (Builtin.bitAnd n 61440) t) { s with heap := h', toks := tk' }) : wpAny (model PR w) A (call (.ref 51) [.int n ta]) Q E s := by
  obtain ⟨X, loose, mean, mg, mb, T⟩ := C
  obtain ⟨hd, dp, fr, gd, un⟩ := A
  obtain rfl : hd = none := r.handled
  refine enter (binds := [("mode", .int n ta)]) X T (by k_is) (by k_is) r.room (BindsTo.of_eq rfl) (locs rfl) ?_ rfl rfl rfl (by decide)
  intro h₁ L tk F N
  k_steps
  exact hQ _ _ _ F.keep
theorem imode {w : World} {A : Around} {s : Shared} (C : Cx w s.heap) (r : Rm A 1 10) (n : Int) (ta : Tok) {Q E : Value → Shared → Prop}
   (hQ : ∀ t h' tk', s.heap.StaysIn h' → Q (.int (Builtin.bitAnd n 4095) t) { s with heap := h', toks := tk' }) : wpAny (model PR w) A (call (.ref 44) [.int n ta]) Q E s := by
  obtain ⟨X, loose, mean, mg, mb, T⟩ := C
  obtain ⟨hd, dp, fr, gd, un⟩ := A
  obtain rfl : hd = none := r.handled
  refine enter (binds := [("mode", .int n ta)]) X T (by k_is) (by k_is) r.room (BindsTo.of_eq rfl) (locs rfl) ?_ rfl rfl rfl (by decide)
  intro h₁ L tk F N
  k_steps
  exact hQ _ _ _ F.keep

local macro_rules | `(tactic| k_steps) => `(tactic| repeat' ((fail_if_success first
   | (with_reducible show wpAny _ _ (exec (Stmt.While _ _ _ _) _) _ _ _)
   | (with_reducible show wpAny _ _ (exec (Stmt.For _ _ _ _ _) _) _ _ _)
   | (with_reducible show wpAny _ _ (eval (Expr.ListComp _ _ _ _) _) _ _ _)
   | (with_reducible show wpAny _ _ (exec (Stmt.Assign _ (Expr.ListComp _ _ _ _) _) _) _ _ _)); (first | (k_unfold; (try dsimp only)) | walk1 | (dsimp only; walk1))))
local macro_rules | `(tactic| tb_start) => `(tactic| first | assumption | exact Cx.keeps (by assumption) (Fr.keep (by k_asm)))
local macro_rules | `(tactic| tb_rel) => `(tactic| first | exact Rm.deeper (Rm.le (by assumption) (by decide) (by decide)) | exact Rm.le (by assumption) (by decide) (by decide))
local macro_rules | `(tactic| ktr_unf) => `(tactic| ((with_reducible rename Heap.StaysIn _ _ => st9); (k_dflt (have F9 := Fr.kept (by k_asm) st9)); (k_dflt (have N9 := News.grown (by k_asm) st9)); (clear st9); (try k_sweep)))
local macro_rules | `(tactic| walk_at "call ref") => `(tactic| ((with_reducible show wpAny _ _ (call (Value.ref 51) [Value.int _ _]) _ _ _); (refine ifmt (by tb_start) (by tb_rel) _ _ ?_); (intro t9 h9 tk9 st9); ktr_unf))
local macro_rules | `(tactic| walk_at "call ref") => `(tactic| ((with_reducible show wpAny _ _ (call (Value.ref 44) [Value.int _ _]) _ _ _); (refine imode (by tb_start) (by tb_rel) _ _ ?_); (intro t9 h9 tk9 st9); ktr_unf))
local macro_rules | `(tactic| walk_at "call ref") => `(tactic| ((with_reducible show wpAny _ _ (call (Value.ref 21) [Value.int _ _]) _ _ _); (refine int2ap (by tb_start) (by tb_rel) _ (by first | assumption | omega) (by first | assumption | omega) _ ?_); (intro b9 t9 h9 tk9 st9 hb9); ktr_unf))
local macro_rules | `(tactic| walk_at "call ref") => `(tactic| ((with_reducible show wpAny _ _ (call (Value.ref 105) [Value.bytes _ _, Value.bytes _ _]) _ _ _); (refine words (by tb_start) (by tb_rel) _ _ (by first | assumption | exact ap_size (by assumption)  (by assumption)) (by first | assumption | exact ap_size (by assumption) (by assumption)) _ _ ?_); (intro t9 h9 tk9 st9); ktr_unf))
theorem ordr {w : World} {A : Around} {s : Shared} (C : Cx w s.heap) (r : Rm A 3 40) (a b : Int) (ha : 0 ≤ a) (hb : 0 ≤ b) (ta tb : Tok) {Q E : Value → Shared → Prop}
   (hQ : ∀ n t h' tk', s.heap.StaysIn h' → (n < 0 ↔ a % 65536 < b % 65536) → Q (.int n t) { s with heap := h', toks := tk' }) : wpAny (model PR w) A (call (.ref 112) [.int a ta, .int b tb]) Q E s := by
  have C0 := C
  obtain ⟨X, loose, mean, mg, mb, T⟩ := C
  obtain ⟨hd, dp, fr, gd, un⟩ := A
  obtain rfl : hd = none := r.handled
  have l1 := (bitAnd_range a (y := 61440) (by decide)).1
  have l2 := (bitAnd_range b (y := 61440) (by decide)).1
  have l3 := (bitAnd_range a (y := 4095) (by decide)).1
  have l4 := (bitAnd_range b (y := 4095) (by decide)).1
  have g1 : Builtin.bitAnd a 61440 < 4294967296 := Int.lt_of_le_of_lt (bitAnd_range a (y := 61440) (by decide)).2 (by decide)
  have g2 : Builtin.bitAnd b 61440 < 4294967296 := Int.lt_of_le_of_lt (bitAnd_range b (y := 61440) (by decide)).2 (by decide)
  have g3 : Builtin.bitAnd a 4095 < 4294967296 := Int.lt_of_le_of_lt (bitAnd_range a (y := 4095) (by decide)).2 (by decide)
  have g4 : Builtin.bitAnd b 4095 < 4294967296 := Int.lt_of_le_of_lt (bitAnd_range b (y := 4095) (by decide)).2 (by decide)
  refine enter (binds := [("one", .int a ta), ("two", .int b tb)]) X T (by k_is) (by k_is) r.room (BindsTo.of_eq rfl) (locs rfl) ?_ rfl rfl rfl (by decide)
  intro h₁ L tk F N
  k_steps
  · dsimp only
    (with_reducible rename Fr _ _ _ _ => F9)
    rename (_ ≠ 0) => hne
    exact hQ _ _ _ _ F9.keep ((ord_sign (x2 := #[]) (y2 := #[]) ha hb (by assumption) (by assumption)).1 hne)
  · (with_reducible rename Fr _ _ _ _ => F9)
    rename (wcmp _ _ = 0) => hz
    exact hQ _ _ _ _ F9.keep ((ord_sign ha hb (by assumption) (by assumption)).2 hz (by assumption) (by assumption))
end Mine
end
/-! part E1 -/
section
open PySem PySem.W PyProof.Rows
set_option maxRecDepth 100000
namespace Mine
section
variable {prog : Program} {w : World} {A : Around} {E : Value → Shared → Prop} {s : Shared}
/-- one more item of a tuple's iterator, as enumerate asks for it -/
theorem tup_next {it t : Addr} {i : Nat} {items : Array Value} {x : Value} {Q : Value → Shared → Prop} (hit : s.heap.IsTupleIter it t i) (ht : s.heap.IsTuple t items) (hx : items[i]? = some x)
    (hQ : ∀ h', h'.IsTupleIter it t (i + 1) → Heap.SameBut it s.heap h' → Q x { s with heap := h' }) : wpAny (model prog w) A (Builtin.SmallTypes.nextOf (.ref it)) Q E s := by
  obtain ⟨o, ho, hc, hd⟩ := id hit
  obtain ⟨ot, hot, _, nt, hdt⟩ := ht
  refine wpAny_bind (wpAny_callSpecial?_slot (name := Str.ofString "__next__") hit.typeIs F.slot_tuple_iterator_next (wpAny_call_entry F.slot_tuple_iterator_next hit.typeIs F.entry_tuple_iterator_next ?_ (F.args_tuple_iterator_next_1 _)))
  refine wpAny_bind (m := field (.ref it) 0) (wpAny_field ho hd (x := .ref t) rfl ?_)
  refine wpAny_ite (KBy.ite_no (show ¬ ((Value.ref t == Value.none) = true) from Bool.false_ne_true) ?_)
  refine wpAny_bind (m := field (.ref it) 1) (wpAny_field ho hd (x := .int i 0) rfl ?_)
  refine wpAny_bind (m := seqItems? (.ref t)) (wpAny_seqItems hot hdt ?_)
  simp only [Int.toNat_natCast, hx]
  refine wpAny_bind (wpAny_setField ho hd (by simp) (wpAny_pure ⟨x, rfl, wpAny_pure (hQ _ ?_ (Heap.SameBut.update ..))⟩))
  exact ⟨_, Heap.get?_update_self _ ho (Obj.isFreed_of_fields (Obj.data_mapFields hd _)), (Obj.cls_mapFields ..).trans hc, by rw [Obj.data_mapFields hd]; simp [rawInt]⟩
/-- the tuple's iterator at its end -/
theorem tup_end {it t : Addr} {i : Nat} {items : Array Value} {Q : Value → Shared → Prop} (hh : A.handled = none) (hit : s.heap.IsTupleIter it t i) (ht : s.heap.IsTuple t items) (hx : items[i]? = none)
    (hE : ∀ h' x, Heap.ExtBut it s.heap h' → (∃ o, h'.get? x = some o ∧ o.cls = .type "StopIteration") → E (.ref x) { s with heap := h' }) : wpAny (model prog w) A (Builtin.SmallTypes.nextOf (.ref it)) Q E s := by
  obtain ⟨o, ho, hc, hd⟩ := id hit
  obtain ⟨ot, hot, _, nt, hdt⟩ := ht
  refine wpAny_bind (wpAny_callSpecial?_slot (name := Str.ofString "__next__") hit.typeIs F.slot_tuple_iterator_next (wpAny_call_entry F.slot_tuple_iterator_next hit.typeIs F.entry_tuple_iterator_next ?_ (F.args_tuple_iterator_next_1 _)))
  refine wpAny_bind (m := field (.ref it) 0) (wpAny_field ho hd (x := .ref t) rfl ?_)
  refine wpAny_ite (KBy.ite_no (show ¬ ((Value.ref t == Value.none) = true) from Bool.false_ne_true) ?_)
  refine wpAny_bind (m := field (.ref it) 1) (wpAny_field ho hd (x := .int i 0) rfl ?_)
  refine wpAny_bind (m := seqItems? (.ref t)) (wpAny_seqItems hot hdt ?_)
  simp only [Int.toNat_natCast, hx]
  refine wpAny_bind (wpAny_rule (wpAny_bind (wpAny_setField ho hd (by simp) ?_)))
  refine wpAny_bind (m := newExc (.type "StopIteration") []) ?_
  simp only [newExc, newTuple]
  refine wpAny_bind (wpAny_newObj_type ?_ (by size_fits))
  refine wpAny_bind (m := firstArgMember _ _) (wpAny_of_eq (a := Value.none) (by first | rfl | (simp only [firstArgMember]; rfl)) ?_)
  refine wpAny_newObj_type ?_ (by size_fits)
  simp only [raiseNew]
  refine wpAny_bind (wpAny_handled ?_)
  rw [show A.in1.handled = none from hh]
  exact wpAny_bind (wpAny_pure (wpAny_throw (hE _ _ (((Heap.SameBut.update ..).extBut.push _).push _) ⟨_, Heap.get?_push_size _ rfl, rfl⟩)))
/-- enumerate over a tuple: one more pair -/
theorem enum_item {e it t : Addr} {i : Nat} {items : Array Value} {x old : Value} {Q : Option Value → Shared → Prop}
    (he : IsEnum s.heap e it i old) (hit : s.heap.IsTupleIter it t i) (ht : s.heap.IsTuple t items) (hx : items[i]? = some x) (hne : e ≠ it)
    (hQ : ∀ h' T, IsEnumOut h' e it ((i : Int) + 1) x T → h'.IsTupleIter it t (i + 1) → h'.IsTuple T #[.int i s.toks, x] → s.heap.objs.size ≤ T →
      (∀ b o, b ≠ e → b ≠ it → s.heap.get? b = some o → h'.get? b = some o) → Q (some (.ref T)) { s with heap := h', toks := s.toks + 1 }) :
    wpAny (model prog w) A (pyNext (.ref e)) Q E s := by
  obtain ⟨hp, g, d, tk, os⟩ := s
  have hT : Shared.TypeIs ⟨hp, g, d, tk, os⟩ (.ref e) "enumerate" := ⟨_, he, rfl⟩
  unfold pyNext
  refine wpAny_bind (wpAny_attempt (wpAny_callSpecial?_slot (name := Str.ofString "__next__") hT F.slot_enumerate_next (wpAny_call_entry F.slot_enumerate_next hT F.entry_enumerate_next ?_ (F.args_enumerate_next_1 _))))
  refine wpAny_bind (m := field (.ref e) 2) (wpAny_field he rfl (x := .ref it) rfl ?_)
  refine wpAny_bind (tup_next hit ht hx fun h₁ hit₁ hs₁ => ?_)
  replace hs₁ : Heap.SameBut it hp h₁ := hs₁
  have he₁ : IsEnum h₁ e it i old := (hs₁.2 e hne).trans he
  refine wpAny_bind (m := field (.ref e) 3) (s := ⟨h₁, g, d, tk, os⟩) (wpAny_field he₁ rfl (x := rawInt i) rfl ?_)
  refine wpAny_bind (m := field (.ref e) 4) (s := ⟨h₁, g, d, tk, os⟩) (wpAny_field he₁ rfl (x := .none) rfl ?_)
  refine wpAny_bind (m := mkInt i) (s := ⟨h₁, g, d, tk, os⟩) (wpAny_mkInt ?_)
  refine wpAny_bind (m := setField (.ref e) 3 (rawInt ((i : Int) + 1))) (s := ⟨h₁, g, d, tk + 1, os⟩) (wpAny_setField_rec he₁ (by simp) fun h₂ he₂ hs₂ => ?_)
  replace hs₂ : Heap.SameBut e h₁ h₂ := hs₂
  replace he₂ : IsEnum h₂ e it ((i : Int) + 1) old := he₂
  refine wpAny_bind (m := setField (.ref e) 4 .none) (s := ⟨h₂, g, d, tk + 1, os⟩) (wpAny_setField_rec he₂ (by simp) fun h₃ he₃ hs₃ => ?_)
  replace hs₃ : Heap.SameBut e h₂ h₃ := hs₃
  replace he₃ : IsEnum h₃ e it ((i : Int) + 1) old := he₃
  refine wpAny_bind (m := newTuple [.int i tk, x]) (s := ⟨h₃, g, d, tk + 1, os⟩) (wpAny_newTuple ?_)
  have he₄ : IsEnum (h₃.push { cls := .type "tuple", data := .seq #[.int i tk, x] }) e it ((i : Int) + 1) old := Heap.get?_push_of_some _ he₃
  have ht₄ : (h₃.push { cls := .type "tuple", data := .seq #[.int i tk, x] }).get? h₃.objs.size = some { cls := .type "tuple", data := .seq #[.int i tk, x] } := Heap.get?_push_size _ rfl
  have hz : h₃.objs.size = hp.objs.size := by rw [hs₃.1, hs₂.1, hs₁.1]
  have hel : e < hp.objs.size := Heap.lt_size he
  have k₃ : ∀ b o, b ≠ e → b ≠ it → hp.get? b = some o → h₃.get? b = some o := fun b o h1 h2 q => hs₃.extBut b o h1 (hs₂.extBut b o h1 (hs₁.extBut b o h2 q))
  have it₃ : h₃.IsTupleIter it t (i + 1) := (hit₁.extBut hs₂.extBut (Ne.symm hne)).extBut hs₃.extBut (Ne.symm hne)
  refine wpAny_bind (m := Builtin.SmallTypes.ownedTupleIsFree (.ref e)) ?_
  unfold Builtin.SmallTypes.ownedTupleIsFree
  refine wpAny_bind (wpAny_field he₄ rfl (x := .none) rfl (wpAny_pure ?_))
  simp only [if_true]
  refine wpAny_bind (wpAny_rule ?_)
  refine wpAny_bind (wpAny_field he₄ rfl (x := old) rfl ?_)
  refine wpAny_bind (wpAny_setField_rec he₄ (by simp) fun h₅ he₅ hs₅ => ?_)
  replace he₅ : IsEnum h₅ e it ((i : Int) + 1) x := he₅
  refine wpAny_bind (m := Builtin.SmallTypes.ownedTupleHandOut (.ref e) (.ref h₃.objs.size)) ?_
  unfold Builtin.SmallTypes.ownedTupleHandOut
  refine wpAny_bind (wpAny_setField_rec he₅ (by simp) fun h₆ he₆ hs₆ => ?_)
  replace he₆ : IsEnumOut h₆ e it ((i : Int) + 1) x h₃.objs.size := he₆
  refine wpAny_setField_rec he₆ (by simp) fun h₇ he₇ hs₇ => ?_
  replace he₇ : IsEnumOut h₇ e it ((i : Int) + 1) x h₃.objs.size := he₇
  have up : ∀ b o, b ≠ e → (h₃.push { cls := .type "tuple", data := .seq #[.int i tk, x] }).get? b = some o → h₇.get? b = some o := fun b o hb q => hs₇.extBut b o hb (hs₆.extBut b o hb (hs₅.extBut b o hb q))
  have hne2 : h₃.objs.size ≠ e := Nat.ne_of_gt (hz ▸ hel)
  refine wpAny_bind (wpAny_letGo (wpAny_pure ⟨_, rfl, wpAny_pure (hQ h₇ h₃.objs.size he₇ ?_ ⟨_, up _ _ hne2 ht₄, rfl, _, rfl⟩ (Nat.le_of_eq hz.symm) fun b o h1 h2 q => up b o h1 (Heap.get?_push_of_some _ (k₃ b o h1 h2 q)))⟩))
  exact it₃.at fun o q => up _ _ (Ne.symm hne) (Heap.get?_push_of_some _ q)
theorem enum_end {e it t : Addr} {i : Nat} {items : Array Value} {old : Value} {Q : Option Value → Shared → Prop} (hh : A.handled = none)
    (he : IsEnum s.heap e it i old) (hit : s.heap.IsTupleIter it t i) (ht : s.heap.IsTuple t items) (hx : items[i]? = none)
    (hQ : ∀ h', Heap.ExtBut it s.heap h' → Q none { s with heap := h' }) : wpAny (model prog w) A (pyNext (.ref e)) Q E s := by
  have hT : s.TypeIs (.ref e) "enumerate" := ⟨_, he, rfl⟩
  unfold pyNext
  refine wpAny_bind (wpAny_attempt (wpAny_callSpecial?_slot (name := Str.ofString "__next__") hT F.slot_enumerate_next (wpAny_call_entry F.slot_enumerate_next hT F.entry_enumerate_next ?_ (F.args_enumerate_next_1 _))))
  refine wpAny_bind (m := field (.ref e) 2) (wpAny_field he rfl (x := .ref it) rfl ?_)
  refine wpAny_bind (tup_end hh hit ht hx fun h' x he' hx' => ?_)
  obtain ⟨o, ho, hc⟩ := hx'
  exact wpAny_bind (wpAny_isInstance (T := "StopIteration") (b := true) ⟨o, ho, hc⟩ isSubtype_stop (wpAny_pure (hQ _ he')))
open AutoSeq1 (wpAny_loadPart') in
theorem meets_enum_tup (t : Addr) (items : Array Value) (n : Nat) :
    Meets (Builtin.«enumerate.__new__» ⟨[.type "enumerate", .ref t], []⟩) (fun _ R s => s.heap.get? t = some { cls := .type "tuple", dict := none, data := .seq items n, slots := #[] } ∧
      R (.ok (.ret (.ref (s.heap.push { cls := .type "tuple_iterator", data := .fields #[.ref t, .int 0 0] }).objs.size)))
        { s with heap := (s.heap.push { cls := .type "tuple_iterator", data := .fields #[.ref t, .int 0 0] }).push { cls := .type "enumerate", data := .fields #[.none, .bool false, .ref s.heap.objs.size, rawInt 0, .none, .none] } }) :=
  .of_wp fun prog w A R s h => by
    obtain ⟨hp, g, d, tk, os⟩ := s; obtain ⟨ht, h⟩ := h
    have hsub := sub_enumerate
    have hL : Heap.IsTuple (Shared.heap ⟨hp, g, d, tk, os⟩) t items := ⟨_, ht, rfl, n, rfl⟩
    wp_walk using wpAny_loadPart' ht
    refine wpAny_stack_any fun st => wpAny_pure ?_
    split
    · rename_i c _ _ _ _ _
      cases (c == Value.type "enumerate") <;> (wp_walk using wpAny_loadPart' ht, wpAny_pyIter_tuple hL) <;> exact ⟨_, rfl, h⟩
    · (wp_walk using wpAny_loadPart' ht, wpAny_pyIter_tuple hL)
      exact ⟨_, rfl, h⟩
/-- enumerate made over a tuple -/
theorem enum_new {t : Addr} {items : Array Value} {n : Nat} {Q : Value → Shared → Prop}
    (ho : s.heap.get? t = some { cls := .type "tuple", dict := none, data := .seq items n, slots := #[] })
    (h : ∀ h' e it, IsEnum h' e it 0 .none → h'.IsTupleIter it t 0 → e ≠ it → s.heap.objs.size ≤ e → s.heap.objs.size ≤ it → (∀ b o, s.heap.get? b = some o → h'.get? b = some o) → Q (.ref e) { s with heap := h' }) :
    wpAny (model prog w) A (call (.type "enumerate") [.ref t]) Q E s := by
  refine callType_new F.called_enumerate (by decide) (F.typeCall_enumerate_1 _) (F.newCall_enumerate_1 _) (fun obj => F.args_object_init_2 obj _) F.entry_enumerate_new (meets_enum_tup t items n) ⟨ho, ?_⟩
  have hz : (s.heap.push { cls := .type "tuple_iterator", data := .fields #[.ref t, .int 0 0] }).objs.size = s.heap.objs.size + 1 := Heap.size_push ..
  have he := Heap.get?_push_size (s.heap.push { cls := .type "tuple_iterator", data := .fields #[.ref t, .int 0 0] }) (o := { cls := .type "enumerate", data := .fields #[.none, .bool false, .ref s.heap.objs.size, rawInt 0, .none, .none] }) rfl
  exact ⟨⟨_, he, rfl⟩, h _ _ _ he ⟨_, Heap.get?_push_of_some _ (Heap.get?_push_size _ rfl), rfl, rfl⟩ (by rw [hz]; exact Nat.succ_ne_self _) (by rw [hz]; exact Nat.le_succ _) (Nat.le_refl _) fun b o x => Heap.get?_push_of_some _ (Heap.get?_push_of_some _ x)⟩
end
end Mine
end
/-! part E2 -/
section
open PySem PySem.W PyProof.Rows
set_option maxRecDepth 100000
namespace Mine
theorem new_none {h₀ h : Heap} {L : Addr} {m : Str → Option Value} {I : Addr} (F : Fr h₀ L h m) (hI : h.objs.size ≤ I) : h₀.get? I = none := by
  cases q : h₀.get? I with
  | none => rfl
  | some o => exact absurd (Heap.lt_size (F.keep _ _ q)) (Nat.not_lt.mpr hI)
section
variable {prog : Program} {w : World} {A : Around} {s : Shared} {env : Env} {h₀ : Heap} {m₀ : Str → Option Value} {news₀ : List (Addr × Obj)} {Q : Flow → Shared → Prop}
/-- the end of a turn: it goes on, or leaves -/
def Turn (h₀ : Heap) (L : Addr) (s : Shared) (Q : Flow → Shared → Prop) (own : List (Addr × Obj)) (J : (Str → Option Value) → List (Addr × Obj) → Prop) (f : Flow) (s₃ : Shared) : Prop := match f with
  | .brk => Q .next s₃
  | .ret v => Q (.ret v) s₃
  | _ => ∃ h' tk m₂ news₂, s₃ = { s with heap := h', toks := tk } ∧ Fr h₀ L h' m₂ ∧ News h₀ L h' (own ++ news₂) ∧ J m₂ news₂
theorem Turn.next {L : Addr} {own : List (Addr × Obj)} {J : (Str → Option Value) → List (Addr × Obj) → Prop} {h' : Heap} {tk : Nat} {m₂ : Str → Option Value} {news₂ : List (Addr × Obj)}
    (F : Fr h₀ L h' m₂) (N : News h₀ L h' (own ++ news₂)) (hJ : J m₂ news₂) : Turn h₀ L s Q own J .next { s with heap := h', toks := tk } := ⟨h', tk, m₂, news₂, rfl, F, N, hJ⟩
theorem go_tup {elts : List Expr} {k : Nat} {pos : Pos} {E : Value → Shared → Prop} {I t : Addr} {i : Nat} {v : Value} {Q : Unit → Shared → Prop} (hit : s.heap.IsTupleIter I t i) (h : Q () s) :
    wpAny (model prog w) A (letOwnedTupleGo (.Tuple elts k pos) (.ref I) v) Q E s := by
  obtain ⟨o, ho, hc, hd⟩ := hit
  unfold letOwnedTupleGo
  cases v <;> first | exact wpAny_pure h | skip
  refine wpAny_bind (wpAny_load ho ?_)
  rw [hc, hd]
  exact wpAny_pure h
/-- for .. in a tuple of the elder part: .. else: .. -/
theorem loop_tup {elts : List Expr} {k : Nat} {tpos : Pos} {body orelse : List Stmt} {t : Addr} {items : Array Value} (J : Nat → (Str → Option Value) → List (Addr × Obj) → Prop) (adr : List Addr)
    (hh : A.handled = none) (ht : h₀.IsTuple t items) (F : Fr h₀ env.locals s.heap m₀) (N : News h₀ env.locals s.heap news₀) (h0 : J 0 m₀ news₀) (ha : ∀ i m n, J i m n → n.map (·.1) = adr)
    (turn : ∀ i v m₁ news₁ h₁ tk₁ I oI, items[i]? = some v → J i m₁ news₁ → Fr h₀ env.locals h₁ m₁ → News h₀ env.locals h₁ ((I, oI) :: news₁) → (∀ p ∈ news₁, p.1 < I) →
      wpAny (model prog w) A (assign (.Tuple elts k tpos) env v) (fun _ s₂ => wpAny (model prog w) A (execs body env) (Turn h₀ env.locals s Q [(I, oI)] (J (i + 1))) (fun _ _ => False) s₂) (fun _ _ => False) { s with heap := h₁, toks := tk₁ })
    (done : ∀ m₁ news₁ h₁ tk₁, J items.size m₁ news₁ → Fr h₀ env.locals h₁ m₁ → News h₀ env.locals h₁ news₁ → wpAny (model prog w) A (execs orelse env) Q (fun _ _ => False) { s with heap := h₁, toks := tk₁ }) :
    wpAny (model prog w) A (pyIter (.ref t)) (fun it s₂ => codeAny (model prog w) A (.forLoop (.Tuple elts k tpos) it body orelse env) (fun r s' => match r with | .ok f => Q f s' | .error e => cameBackBy (model prog w) A env (fun _ _ => False) e s') s₂) (fun _ _ => False) s := by
  have hts : s.heap.IsTuple t items := ht.at fun o e => F.keep t o e
  refine wpAny_pyIter_tuple hts ?_
  have hadr : news₀.map (·.1) = adr := ha _ _ _ h0
  have hlt : ∀ a ∈ adr, a < s.heap.objs.size := fun a hq => by
    rw [← hadr] at hq
    obtain ⟨p, hp, rfl⟩ := List.mem_map.mp hq
    exact Heap.lt_size (N p hp).1
  have hIn : h₀.get? s.heap.objs.size = none := new_none F (Nat.le_refl _)
  have hIL : s.heap.objs.size ≠ env.locals := Nat.ne_of_gt F.ns.lt
  have htI : t ≠ s.heap.objs.size := by obtain ⟨o, ho, _⟩ := hts; exact Nat.ne_of_lt (Heap.lt_size ho)
  refine codeAny_forLoop_any (fun k s' => ∃ h' tk m' news' i, s' = { s with heap := h', toks := tk } ∧ h'.IsTupleIter s.heap.objs.size t i ∧ Fr h₀ env.locals h' m' ∧ News h₀ env.locals h' news' ∧ J i m' news' ∧ i ≤ items.size ∧ k = items.size + 1 - i) ?_ (items.size + 1)
    ⟨_, s.toks, m₀, news₀, 0, rfl, ⟨_, Heap.get?_push_size _ rfl, rfl, rfl⟩, F.push _, (fun p hp => ⟨Heap.get?_push_of_some _ (N p hp).1, (N p hp).2⟩), h0, Nat.zero_le _, rfl⟩
  rintro k s' ⟨h', tk, m', news', i, rfl, hit, F', N', hJ, hi, rfl⟩
  have hn' : ∀ p ∈ news', p.1 < s.heap.objs.size := fun p hp => hlt _ (by rw [← ha _ _ _ hJ]; exact List.mem_map_of_mem hp)
  have ht' : h'.IsTuple t items := ht.at fun o e => F'.keep t o e
  have old : ∀ b o, h₀.get? b = some o → b ≠ s.heap.objs.size := fun b o e q => by rw [q, hIn] at e; cases e
  cases hv : items[i]? with
  | none =>
    have hsz : i = items.size := Nat.le_antisymm hi (by simpa using hv)
    subst hsz
    refine wpAny_pyNext_tuple_end hh hit ht' hv fun h₁ he => ?_
    refine wpAny_mono (done m' news' h₁ tk hJ ⟨F'.ns.extBut he (Ne.symm hIL), fun b o e => he b o (old b o e) (F'.keep b o e), F'.above⟩ fun p hp => ⟨he _ _ (Nat.ne_of_lt (hn' p hp)) (N' p hp).1, (N' p hp).2⟩) (fun _ _ x => x) fun _ _ x => x.elim
  | some v =>
    have hlt' : i < items.size := (Array.getElem?_eq_some_iff.mp hv).1
    refine wpAny_pyNext_tuple_item hit ht' hv fun h₁ hit₁ hs₁ => ?_
    refine go_tup hit₁ ?_
    have F₁ : Fr h₀ env.locals h₁ m' := ⟨F'.ns.sameBut hs₁ (Ne.symm hIL), fun b o e => hs₁.extBut b o (old b o e) (F'.keep b o e), F'.above⟩
    have N₁ : News h₀ env.locals h₁ news' := fun p hp => ⟨hs₁.extBut _ _ (Nat.ne_of_lt (hn' p hp)) (N' p hp).1, (N' p hp).2⟩
    obtain ⟨oI, hoI, hcI⟩ := id hit₁
    have NI : News h₀ env.locals h₁ ((s.heap.objs.size, oI) :: news') := fun p hp => by
      rcases List.mem_cons.mp hp with rfl | hp
      · exact ⟨hoI, hIL, hIn⟩
      · exact N₁ p hp
    refine wpAny_mono (turn i v m' news' h₁ tk _ oI hv hJ F₁ NI hn') (fun _ s₂ h₂ => wpAny_mono h₂ (fun f s₃ h₃ => ?_) fun _ _ x => x.elim) fun _ _ x => x.elim
    cases f with
    | brk => exact h₃
    | ret v => exact h₃
    | next =>
      obtain ⟨h₄, tk₄, m₂, news₂, rfl, F₄, N₄, hJ₄⟩ := h₃
      exact ⟨items.size + 1 - (i + 1), by omega, h₄, tk₄, m₂, news₂, i + 1, rfl, ⟨oI, (N₄ _ (.head _)).1, hcI⟩, F₄, fun p hp => N₄ p (.tail _ hp), hJ₄, hlt', rfl⟩
    | cont =>
      obtain ⟨h₄, tk₄, m₂, news₂, rfl, F₄, N₄, hJ₄⟩ := h₃
      exact ⟨items.size + 1 - (i + 1), by omega, h₄, tk₄, m₂, news₂, i + 1, rfl, ⟨oI, (N₄ _ (.head _)).1, hcI⟩, F₄, fun p hp => N₄ p (.tail _ hp), hJ₄, hlt', rfl⟩
/-- for .. in enumerate of a tuple of the elder part -/
theorem loop_enum {elts : List Expr} {k : Nat} {tpos : Pos} {body : List Stmt} {t : Addr} {items : Array Value} {n : Nat} (J : Nat → (Str → Option Value) → List (Addr × Obj) → Prop) (adr : List Addr)
    (hh : A.handled = none) (ho : h₀.get? t = some { cls := .type "tuple", dict := none, data := .seq items n, slots := #[] }) (F : Fr h₀ env.locals s.heap m₀) (N : News h₀ env.locals s.heap news₀) (h0 : J 0 m₀ news₀) (ha : ∀ i m n, J i m n → n.map (·.1) = adr)
    (turn : ∀ i v m₁ news₁ h₁ tk₁ T ti e oe it oit, items[i]? = some v → J i m₁ news₁ → Fr h₀ env.locals h₁ m₁ → News h₀ env.locals h₁ ((e, oe) :: (it, oit) :: news₁) → (∀ p ∈ news₁, p.1 < e) → (∀ p ∈ news₁, p.1 < it) → e ≠ it → h₁.IsTuple T #[.int i ti, v] →
      wpAny (model prog w) A (assign (.Tuple elts k tpos) env (.ref T)) (fun _ s₂ => wpAny (model prog w) A (execs body env) (Turn h₀ env.locals s Q [(e, oe), (it, oit)] (J (i + 1))) (fun _ _ => False) s₂) (fun _ _ => False) { s with heap := h₁, toks := tk₁ })
    (done : ∀ m₁ news₁ h₁ tk₁, J items.size m₁ news₁ → Fr h₀ env.locals h₁ m₁ → News h₀ env.locals h₁ news₁ → Q .next { s with heap := h₁, toks := tk₁ }) :
    wpAny (model prog w) A (call (.type "enumerate") [.ref t]) (fun xv s₁ => wpAny (model prog w) A (pyIter xv) (fun it s₂ => codeAny (model prog w) A (.forLoop (.Tuple elts k tpos) it body [] env) (fun r s' => match r with | .ok f => Q f s' | .error e => cameBackBy (model prog w) A env (fun _ _ => False) e s') s₂) (fun _ _ => False) s₁) (fun _ _ => False) s := by
  refine enum_new (F.keep _ _ ho) fun hE e it he hit hei hel hil kE => ?_
  refine wpAny_pyIter_enum he ?_
  have hadr : news₀.map (·.1) = adr := ha _ _ _ h0
  have hlt : ∀ a ∈ adr, a < s.heap.objs.size := fun a hq => by
    rw [← hadr] at hq
    obtain ⟨p, hp, rfl⟩ := List.mem_map.mp hq
    exact Heap.lt_size (N p hp).1
  have hen : h₀.get? e = none := new_none F hel
  have hin : h₀.get? it = none := new_none F hil
  have heL : e ≠ env.locals := Nat.ne_of_gt (Nat.lt_of_lt_of_le F.ns.lt hel)
  have hiL : it ≠ env.locals := Nat.ne_of_gt (Nat.lt_of_lt_of_le F.ns.lt hil)
  have ht : h₀.IsTuple t items := ⟨_, ho, rfl, _, rfl⟩
  have olde : ∀ b o, h₀.get? b = some o → b ≠ e := fun b o x q => by rw [q, hen] at x; cases x
  have oldi : ∀ b o, h₀.get? b = some o → b ≠ it := fun b o x q => by rw [q, hin] at x; cases x
  refine codeAny_forLoop_any (fun k s' => ∃ h' tk m' news' i, s' = { s with heap := h', toks := tk } ∧ (∃ old, IsEnum h' e it ((i : Nat) : Int) old) ∧ h'.IsTupleIter it t i ∧ Fr h₀ env.locals h' m' ∧ News h₀ env.locals h' news' ∧ J i m' news' ∧ i ≤ items.size ∧ k = items.size + 1 - i) ?_ (items.size + 1)
    ⟨_, s.toks, m₀, news₀, 0, rfl, ⟨_, he⟩, hit, F.kept kE, N.grown kE, h0, Nat.zero_le _, rfl⟩
  rintro k s' ⟨h', tk, m', news', i, rfl, ⟨old, he'⟩, hit', F', N', hJ, hi, rfl⟩
  have hn' : ∀ p ∈ news', p.1 < s.heap.objs.size := fun p hp => hlt _ (by rw [← ha _ _ _ hJ]; exact List.mem_map_of_mem hp)
  have ne : ∀ p ∈ news', p.1 < e := fun p hp => Nat.lt_of_lt_of_le (hn' p hp) hel
  have ni : ∀ p ∈ news', p.1 < it := fun p hp => Nat.lt_of_lt_of_le (hn' p hp) hil
  have ht' : h'.IsTuple t items := ht.at fun o e => F'.keep t o e
  cases hv : items[i]? with
  | none =>
    have hsz : i = items.size := Nat.le_antisymm hi (by simpa using hv)
    subst hsz
    refine enum_end hh he' hit' ht' hv fun h₁ hx => wpAny_execs_nil ?_
    exact done m' news' h₁ tk hJ ⟨F'.ns.extBut hx (Ne.symm hiL), fun b o e => hx b o (oldi b o e) (F'.keep b o e), F'.above⟩ fun p hp => ⟨hx _ _ (Nat.ne_of_lt (ni p hp)) (N' p hp).1, (N' p hp).2⟩
  | some v =>
    have hlt' : i < items.size := (Array.getElem?_eq_some_iff.mp hv).1
    refine enum_item he' hit' ht' hv hei fun h₁ T heo hit₁ hT₁ hTl hk₁ => ?_
    refine wpAny_letOwnedTupleGo_enum heo fun h₂ he₂ hs₂ => ?_
    replace hs₂ : Heap.SameBut e h₁ h₂ := hs₂
    have hTe : T ≠ e := Nat.ne_of_gt (Nat.lt_of_lt_of_le (Heap.lt_size he') hTl)
    have F₂ : Fr h₀ env.locals h₂ m' := ⟨(F'.ns.at' fun o q => hk₁ _ o (Ne.symm heL) (Ne.symm hiL) q).sameBut hs₂ (Ne.symm heL), fun b o q => hs₂.extBut b o (olde b o q) (hk₁ b o (olde b o q) (oldi b o q) (F'.keep b o q)), F'.above⟩
    have N₂ : News h₀ env.locals h₂ news' := fun p hp => ⟨hs₂.extBut _ _ (Nat.ne_of_lt (ne p hp)) (hk₁ _ _ (Nat.ne_of_lt (ne p hp)) (Nat.ne_of_lt (ni p hp)) (N' p hp).1), (N' p hp).2⟩
    have hit₂ : h₂.IsTupleIter it t (i + 1) := hit₁.extBut hs₂.extBut (Ne.symm hei)
    obtain ⟨oit, hoit, hcit⟩ := id hit₂
    have NI : News h₀ env.locals h₂ ((e, _) :: (it, oit) :: news') := fun p hp => by
      rcases List.mem_cons.mp hp with rfl | hp
      · exact ⟨he₂, heL, hen⟩
      · rcases List.mem_cons.mp hp with rfl | hp
        · exact ⟨hoit, hiL, hin⟩
        · exact N₂ p hp
    refine wpAny_mono (turn i v m' news' h₂ (tk + 1) T _ e _ it oit hv hJ F₂ NI ne ni hei (hT₁.extBut hs₂.extBut hTe)) (fun _ s₂ h₂' => wpAny_mono h₂' (fun f s₃ h₃ => ?_) fun _ _ x => x.elim) fun _ _ x => x.elim
    have e1 : ((i + 1 : Nat) : Int) = (i : Int) + 1 := by push_cast; rfl
    cases f with
    | brk => exact h₃
    | ret v => exact h₃
    | next =>
      obtain ⟨h₄, tk₄, m₂, news₂, rfl, F₄, N₄, hJ₄⟩ := h₃
      exact ⟨items.size + 1 - (i + 1), by omega, h₄, tk₄, m₂, news₂, i + 1, rfl, ⟨_, by rw [e1]; exact (N₄ _ (.head _)).1⟩, ⟨oit, (N₄ _ (.tail _ (.head _))).1, hcit⟩, F₄, fun p hp => N₄ p (.tail _ (.tail _ hp)), hJ₄, hlt', rfl⟩
    | cont =>
      obtain ⟨h₄, tk₄, m₂, news₂, rfl, F₄, N₄, hJ₄⟩ := h₃
      exact ⟨items.size + 1 - (i + 1), by omega, h₄, tk₄, m₂, news₂, i + 1, rfl, ⟨_, by rw [e1]; exact (N₄ _ (.head _)).1⟩, ⟨oit, (N₄ _ (.tail _ (.head _))).1, hcit⟩, F₄, fun p hp => N₄ p (.tail _ (.tail _ hp)), hJ₄, hlt', rfl⟩
end
end Mine
end
/-! part P3 -/
open PySem PySem.W PyProof.Rows in
theorem Mine.flushP3 {M : Model} {A : Around} {env : Env} {Q E : Value → Shared → Prop} {s : Shared} (h : wpAny M A (evalPart none env) Q E s) : wpAny M A (evalPart none env) Q E s := by
  first | (walk1; fail) | (w_top off; exact h)
section
open PySem PySem.W PyProof.Rows
set_option maxRecDepth 100000
set_option maxHeartbeats 4000000
namespace Mine
theorem fill4 (P : Params) (h : Heap) : (Mine.hd.heap_1 P).In h → PySem.Challenge.rw_ny0142_01.Holds → True := by
  k_fill
  intro _ _; trivial
local macro_rules | `(tactic| k_steps) => `(tactic| repeat' ((fail_if_success first
   | (with_reducible show wpAny _ _ (exec (Stmt.While _ _ _ _) _) _ _ _)
   | (with_reducible show wpAny _ _ (exec (Stmt.For _ _ _ _ _) _) _ _ _)
   | (with_reducible show wpAny _ _ (eval (Expr.ListComp _ _ _ _) _) _ _ _)
   | (with_reducible show wpAny _ _ (exec (Stmt.Assign _ (Expr.ListComp _ _ _ _) _) _) _ _ _)); (first | (k_unfold; (try dsimp only)) | walk1 | (dsimp only; walk1))))
local macro_rules | `(tactic| walk_at "eval Name") => `(tactic| (k_here; k_dflt (refine' ld ?k1 ?k2 ?_; (case k1 => k_asm); (case k2 => first | exact rfl | assumption); k_whole)))
local macro_rules | `(tactic| tb_start) => `(tactic| first | assumption | exact Cx.keeps (by assumption) (Fr.keep (by k_asm)))
local macro_rules | `(tactic| tb_rel) => `(tactic| first | exact Rm.deeper (Rm.le (by assumption) (by decide) (by decide)) | exact Rm.le (by assumption) (by decide) (by decide))
local macro_rules | `(tactic| ktr_unf) => `(tactic| ((with_reducible rename Heap.StaysIn _ _ => st9); (k_dflt (have F9 := Fr.kept (by k_asm) st9)); (k_dflt (have N9 := News.grown (by k_asm) st9)); (clear st9); (try k_sweep)))
local macro_rules | `(tactic| walk_at "call ref") => `(tactic| ((with_reducible show wpAny _ _ (call (Value.ref 51) [Value.int _ _]) _ _ _); (refine ifmt (by tb_start) (by tb_rel) _ _ ?_); (intro t9 h9 tk9 st9); ktr_unf))
/-- the table of the signs, row by row -/
def TAB : List (List (Int × Str)) := [[(40960, "l"), (49152, "s"), (32768, "-"), (24576, "b"), (16384, "d"), (8192, "c"), (4096, "p")], [(256, "r")], [(128, "w")], [(2112, "s"), (2048, "S"), (64, "x")], [(32, "r")], [(16, "w")], [(1032, "s"), (1024, "S"), (8, "x")], [(4, "r")], [(2, "w")], [(513, "t"), (512, "T"), (1, "x")]]
/-- the sign that a row gives a mode -/
def pick (i n : Int) : List (Int × Str) → Str
  | [] => if i = 0 then "?" else "-"
  | (b, c) :: r => if (if i = 0 then Builtin.bitAnd n 61440 = b else Builtin.bitAnd n b = b) then c else pick i n r
def RowIs (h : Heap) (its : Array Value) (l : List (Int × Str)) : Prop := its.size = l.length ∧ ∀ (k : Nat) (v : Value), its[k]? = some v → ∃ p b c tb tc, v = .ref p ∧ l[k]? = some (b, c) ∧ h.IsTuple p #[.int b tb, .str c tc]
theorem tupK {K : Frag} {h : Heap} {a : Addr} {d : Option Addr} {its : Array Value} {n : Nat} {sl : Array (Option Value)} (X : K.In h) (e : K.lookup a = some ⟨.type "tuple", d, .seq its n, sl⟩) : h.IsTuple a its := ⟨_, X _ _ e, rfl, _, rfl⟩
theorem rowK0 {h : Heap} : RowIs h #[] [] := ⟨rfl, fun k v hv => by simp at hv⟩
theorem rowK {h : Heap} {p : Addr} {b : Int} {c : Str} {tb tc : Tok} {l : List Value} {r : List (Int × Str)} (hp : h.IsTuple p #[.int b tb, .str c tc]) (hr : RowIs h l.toArray r) : RowIs h (List.toArray (Value.ref p :: l)) ((b, c) :: r) := by
  refine ⟨by have := hr.1; simp at this ⊢; exact this, fun k v hv => ?_⟩
  cases k with
  | zero => simp at hv; subst hv; exact ⟨p, b, c, tb, tc, rfl, rfl, hp⟩
  | succ k => exact hr.2 k v (by simpa using hv)
theorem tabK {w : World} {h : Heap} (X : (Mine.hd.heap_1 w.params).In h) : ∃ (its : Array Value) (n : Nat), h.get? 84 = some { cls := .type "tuple", dict := none, data := .seq its n, slots := #[] } ∧ its.size = 10 ∧ ∀ (i : Nat) (v : Value), its[i]? = some v → ∃ a r row, v = .ref a ∧ h.IsTuple a r ∧ TAB[i]? = some row ∧ RowIs h r row := by
  refine ⟨_, _, X _ _ (by k_is), rfl, ?_⟩
  intro i v hv
  rcases i with _ | _ | _ | _ | _ | _ | _ | _ | _ | _ | i
  any_goals (exfalso; simp at hv; done)
  all_goals (obtain rfl := Option.some.inj hv; refine ⟨_, _, _, rfl, tupK X (by k_is), rfl, ?_⟩; (repeat (refine rowK (l := _) (tupK X (by k_is)) ?_)); exact rowK0)
def sg (n : Int) (i : Nat) : List Str := (List.range i).map fun (k : Nat) => pick (k : Int) n (TAB.getD k [])
theorem sg_succ {n : Int} {i : Nat} {row : List (Int × Str)} (h : TAB[i]? = some row) : sg n (i + 1) = sg n i ++ [pick i n row] := by
  simp [sg, List.range_succ, List.getD, h]
theorem strs_push {ps : Array Value} {l : List Str} {x : Str} {t : Tok} (h : StrsAre ps.toList l) : StrsAre (ps.push (.str x t)).toList (l ++ [x]) := by
  rw [Array.toList_push]; exact kct_snoc h
theorem strs_len : ∀ {vs : List Value} {ys : List Str}, StrsAre vs ys → vs.length = ys.length
  | _, _, .nil => rfl
  | _, _, .cons _ _ r => by simp [strs_len r]
theorem pick_hit {i n b : Int} {c : Str} {row : List (Int × Str)} {k : Nat} (h : row[k]? = some (b, c)) (hm : if i = 0 then Builtin.bitAnd n 61440 = b else Builtin.bitAnd n b = b) : pick i n (row.drop k) = c := by
  obtain ⟨hl, he⟩ := List.getElem?_eq_some_iff.mp h
  rw [List.drop_eq_getElem_cons hl, he, pick, if_pos hm]
theorem pick_miss {i n b : Int} {c : Str} {row : List (Int × Str)} {k : Nat} (h : row[k]? = some (b, c)) (hm : ¬ if i = 0 then Builtin.bitAnd n 61440 = b else Builtin.bitAnd n b = b) : pick i n (row.drop k) = pick i n (row.drop (k + 1)) := by
  obtain ⟨hl, he⟩ := List.getElem?_eq_some_iff.mp h
  rw [List.drop_eq_getElem_cons hl, he, pick, if_neg hm]
theorem pick_len {i n : Int} : ∀ {row : List (Int × Str)}, (∀ x ∈ row, x.2.length = 1) → (pick i n row).length = 1
  | [], _ => by unfold pick; split <;> rfl
  | (b, c) :: r, h => by
    have h1 := h (b, c) (.head _)
    have h2 := pick_len (i := i) (n := n) (row := r) fun x hx => h x (.tail _ hx)
    unfold pick
    by_cases q : (if i = 0 then Builtin.bitAnd n 61440 = b else Builtin.bitAnd n b = b)
    · rw [if_pos q]; exact h1
    · rw [if_neg q]; exact h2
theorem tab_len : ∀ row ∈ TAB, ∀ x ∈ row, x.2.length = 1 := by decide +kernel
theorem sg_len (n : Int) (k : Nat) (hk : k < 10) : (pick (k : Int) n (TAB.getD k [])).length = 1 := by
  refine pick_len (tab_len _ ?_)
  have : k < TAB.length := hk
  rw [List.getD, List.getElem?_eq_getElem this]
  exact List.getElem_mem this
theorem sg_weight (n : Int) : ((sg n 10).map (·.length)).sum + (sg n 10).length ≤ 1048576 := by
  have e : (sg n 10).map (·.length) = List.replicate 10 1 := by
    apply List.eq_replicate_iff.mpr
    refine ⟨by simp [sg], fun b hb => ?_⟩
    obtain ⟨y, hy, rfl⟩ := List.mem_map.mp hb
    obtain ⟨k, hk, rfl⟩ := List.mem_map.mp hy
    exact sg_len n k (List.mem_range.mp hk)
  rw [e]; simp [sg]
/-- what filemode writes -/
def fmS (n : Int) : Str := Txt.join "" (sg n 10)
theorem filemode {w : World} {A : Around} {s : Shared} (C : Cx w s.heap) (r : Rm A 3 40) (n : Int) (ta : Tok) {Q E : Value → Shared → Prop}
   (hQ : ∀ t h' tk', s.heap.StaysIn h' → Q (.str (fmS n) t) { s with heap := h', toks := tk' }) : wpAny (model PR w) A (call (.ref 91) [.int n ta]) Q E s := by
  have C0 := C
  obtain ⟨X, loose, mean, mg, mb, T⟩ := C
  obtain ⟨hd, dp, fr, gd, un⟩ := A
  obtain rfl : hd = none := r.handled
  obtain ⟨its, ni, hot, hsz, htab⟩ := tabK X
  refine enter (binds := [("mode", .int n ta)]) X T (by k_is) (by k_is) r.room (BindsTo.of_eq rfl) (locs rfl) ?_ rfl rfl rfl (by decide)
  intro h₁ L tk F N
  k_steps
  refine wpAny_For ?_
  k_steps
  (with_reducible rename Fr _ _ _ _ => F9); (with_reducible rename News _ _ _ _ => N9)
  rename_i P _ _ _
  refine loop_enum (env := envOf _ _ L 91 _) (fun i m news => ∃ c ps, m "mode" = some (.int n ta) ∧ m "perm" = some (.ref P) ∧ news = [(P, W.listOf ps c)] ∧ StrsAre ps.toList (sg n i)) [P] rfl hot F9 N9 ⟨_, _, rfl, rfl, rfl, .nil⟩ ?_ ?_ ?_
  · rintro i m _ ⟨c, ps, _, _, rfl, _⟩; rfl
  · rintro i v m₁ _ h₂ tk₂ T' ti e oe it oit hv ⟨c, ps, e1, e2, rfl, hs⟩ F2 N2 ne2 ni2 hei hT'
    obtain ⟨a, rw, row, rfl, ha, hrow, hR⟩ := htab i v hv
    have q1 : @LT.lt Nat _ P e := ne2 _ (.head _)
    have q2 : @LT.lt Nat _ P it := ni2 _ (.head _)
    have q3 : @Ne Nat e it := hei
    have hz : ps.size ≤ sizeLine := by
      have l1 := strs_len hs
      have l2 : i < 10 := by rw [← hsz]; exact (Array.getElem?_eq_some_iff.mp hv).1
      simp [sg] at l1
      rw [sizeLine_eq]; omega
    clear F9 N9 ne2 ni2 hei
    k_steps
    (with_reducible rename Fr _ _ _ _ => F9); (with_reducible rename News _ _ _ _ => N9)
    refine wpAny_For (ld F9 rfl ?_)
    refine loop_tup (env := envOf _ _ L 91 _) (fun k m news => m "mode" = some (.int n ta) ∧ m "perm" = some (.ref P) ∧ m "index" = some (.int i ti) ∧ news = [(e, oe), (it, oit), (P, W.listOf ps c)] ∧ pick i n row = pick i n (row.drop k)) [e, it, P] rfl ha F9 N9 ⟨e1, e2, rfl, rfl, rfl⟩ ?_ ?_ ?_
    · rintro k m _ ⟨_, _, _, rfl, _⟩; rfl
    · rintro k v m₂ _ h₃ tk₃ I oI hv2 ⟨f1, f2, f3, rfl, hpk⟩ F3 N3 lt3
      obtain ⟨p, b, ch, tb, tc, rfl, hbc, hp⟩ := hR.2 k v hv2
      have hp3 : IsTup h₃ p #[.int b tb, .str ch tc] := hp.at fun o q => F3.keep _ _ q
      have q4 : @LT.lt Nat _ P I := lt3 (P, W.listOf ps c) (.tail _ (.tail _ (.head _)))
      clear F9 N9 lt3
      k_steps
      · rename ((i : Int) = 0) => hi0; rename (Builtin.bitAnd n 61440 = b) => hb
        show wpAny _ _ _ _ _ _
        k_steps
        (with_reducible rename Fr _ _ _ _ => F9); (with_reducible rename News _ _ _ _ => N9)
        refine Turn.next F9 (fun p hp => N9 p (.tail _ hp)) ⟨_, _, f1, f2, rfl, ?_⟩
        rw [sg_succ hrow, hpk, pick_hit hbc (by rw [if_pos hi0]; exact hb)]
        exact strs_push hs
      · rename ((i : Int) = 0) => hi0; rename (Builtin.bitAnd n 61440 ≠ b) => hb
        (with_reducible rename Fr _ _ _ _ => F9); (with_reducible rename News _ _ _ _ => N9)
        exact Turn.next (own := [(I, oI)]) F9 N9 ⟨f1, f2, f3, rfl, hpk.trans (pick_miss hbc (by rw [if_pos hi0]; exact hb))⟩
      · rename ((i : Int) ≠ 0) => hi0; rename (Builtin.bitAnd n b = b) => hb
        show wpAny _ _ _ _ _ _
        k_steps
        (with_reducible rename Fr _ _ _ _ => F9); (with_reducible rename News _ _ _ _ => N9)
        refine Turn.next F9 (fun p hp => N9 p (.tail _ hp)) ⟨_, _, f1, f2, rfl, ?_⟩
        rw [sg_succ hrow, hpk, pick_hit hbc (by rw [if_neg hi0]; exact hb)]
        exact strs_push hs
      · rename ((i : Int) ≠ 0) => hi0; rename (Builtin.bitAnd n b ≠ b) => hb
        (with_reducible rename Fr _ _ _ _ => F9); (with_reducible rename News _ _ _ _ => N9)
        exact Turn.next (own := [(I, oI)]) F9 N9 ⟨f1, f2, f3, rfl, hpk.trans (pick_miss hbc (by rw [if_neg hi0]; exact hb))⟩
    · rintro m₂ _ h₃ tk₃ ⟨f1, f2, f3, rfl, hpk⟩ F3 N3
      clear F9 N9
      have hdr : pick i n row = pick i n [] := by rw [hpk, hR.1, List.drop_length]
      k_steps
      · rename ((i : Int) = 0) => hi0
        (with_reducible rename Fr _ _ _ _ => F9); (with_reducible rename News _ _ _ _ => N9)
        refine Turn.next F9 N9 ⟨_, _, f1, f2, rfl, ?_⟩
        rw [sg_succ hrow, hdr, pick, if_pos hi0]
        exact strs_push hs
      · rename ((i : Int) ≠ 0) => hi0
        (with_reducible rename Fr _ _ _ _ => F9); (with_reducible rename News _ _ _ _ => N9)
        refine Turn.next F9 N9 ⟨_, _, f1, f2, rfl, ?_⟩
        rw [sg_succ hrow, hdr, pick, if_neg hi0]
        exact strs_push hs
  · rintro m₂ _ h₃ tk₃ ⟨c, ps, e1, e2, rfl, hs⟩ F3 N3
    show wpAny _ _ _ _ _ _
    k_steps
    rw [hsz] at hs
    refine join_listW (News.isList N3 (.head _)) hs (by decide) (sg_weight n) ?_
    intro t' k'
    exact hQ _ _ _ F3.keep
end Mine
end
/-! part E3 -/
section
open PySem PySem.W PyProof.Rows
set_option maxRecDepth 100000
namespace Mine
section
variable {prog : Program} {w : World} {A : Around} {h₀ : Heap} {L : Addr} {m : Str → Option Value} {env : Env} {elt : Expr} {x : Str} {scope : Scope} {cl : List (Str × Addr)} {s : Shared} {S : List (Addr × Obj) → Prop} {P : Nat → Value → Prop} {Fin : List Value → List (Addr × Obj) → Prop} {news : List (Addr × Obj)}
/-- a comprehension whose elements leave the ledger as it was -/
theorem rest_pure {n : Nat} (V : Nat → Value → Prop)
    (turn : ∀ i v I oI C oC D m₂ ys h tk (E' : Value → Shared → Prop), i < n → P i v → LCg.NsObj oC m₂ → m₂ x = some v → Fr h₀ L h m → News h₀ L h ((I, oI) :: (C, oC) :: (D, LCg.lst ys) :: news) → LCg.Off3 I C D news → ((@Ne Nat I C) ∧ (@Ne Nat I D) ∧ (@Ne Nat C D)) →
      wpAny (model prog w) A (eval elt (compEnvC scope cl C env)) (fun y s₂ => ∃ h' tk', s₂ = { s with heap := h', toks := tk' } ∧ Fr h₀ L h' m ∧ News h₀ L h' ((I, oI) :: (C, oC) :: (D, LCg.lst ys) :: news) ∧ V i y) E' { s with heap := h, toks := tk })
    (hS : S news) (fin : ∀ ys, ys.length = n → (∀ i y, ys[i]? = some y → V i y) → Fin ys news) : LCg.CompRest prog w A h₀ L m env elt x scope cl s S P Fin n 0 [] news := by
  have key : ∀ (j i : Nat) (ys : List Value), i + j = n → ys.length = i → (∀ k y, ys[k]? = some y → V k y) → LCg.CompRest prog w A h₀ L m env elt x scope cl s S P Fin j i ys news := by
    intro j
    induction j with
    | zero => intro i ys hi hl hy; exact LCg.CompRest.zero (fin ys (by omega) hy)
    | succ j ih =>
      intro i ys hi hl hy
      refine LCg.CompRest.succ ?_
      intro v I oI C oC D m₂ h tk E' hv hC hx F N off ne
      refine wpAny_mono (turn i v I oI C oC D m₂ ys h tk E' (by omega) hv hC hx F N off ne) (fun y s₂ hq => ?_) fun _ _ e => e
      obtain ⟨h', tk', e, F', N', hV⟩ := hq
      subst e
      refine ⟨h', tk', news, rfl, F', N', off, hS, ih (i + 1) _ (by omega) (by simp [hl]) fun k y' hk => ?_⟩
      rw [List.getElem?_append] at hk
      split at hk
      · exact hy k y' hk
      · rename_i q
        have e : k = i := by
          have := List.getElem?_eq_some_iff.mp hk
          obtain ⟨hlt, _⟩ := this
          simp at hlt; omega
        subst e
        have : y = y' := by simpa [hl] using hk
        exact this ▸ hV
  exact key n 0 [] (by omega) rfl (by intro k y hk; simp at hk)
end
/-- a call of one of the text's defs that has cells -/
theorem enterC {w : World} {A : Around} {s : Shared} {K : Frag} {name qual : Str} {params : Arguments} {body : List Stmt} {scope : Scope} {dV kV doc pm cdv ct oc : Value} {an od : Option Addr} {osl : Array (Option Value)} {f : Addr} {args : List Value} {binds : List (Str × Value)}
    {Q E : Value → Shared → Prop} {p : Program} {loose : List Str} {mean : ExcName → Option Value} {mg mb : Str → Option Value}
    (X : K.In s.heap) (T : Top p loose mean mg mb s.heap)
    (ho : K.lookup f = some ⟨oc, od, .func (fnOf name qual params body scope dV kV doc pm an cdv ct), osl⟩) (hcd : codeIn K cdv qual = true) (hroom : A.depth < recursionLimit)
    (hbind : BindsTo s (fnOf name qual params body scope dV kV doc pm an cdv ct) ⟨args, []⟩ binds) (hkind : (binds.all fun y => scope.names.lookup y.1 == some .local || scope.names.lookup y.1 == some .cell) = true)
    (hnd : ((cellsFrom 0 scope.names []).map (·.1)).Nodup)
    (h : ∀ h₁ L tk cells, Fr s.heap L h₁ (bindL (envOfC qual scope L f cdv).kindOf binds fun _ => none) → News s.heap L h₁ cells →
      CellsAre (bindC (envOfC qual scope L f cdv).kindOf binds fun _ => none) (cellsFrom (L + 1) scope.names []) cells →
      wpAny (model PR w) (A.deeper (envOfC qual scope L f cdv)) (execs body (envOfC qual scope L f cdv))
        (fun fl s' => Q (match fl with | .ret v => v | _ => .none) s') (fun _ _ => False) { s with heap := h₁, toks := tk })
    (hco : scope.isCoroutine = false) (hgen : scope.isGenerator = false) (hk : scope.kind = .function) : wpAny (model PR w) A (call (.ref f) args) Q E s := by
  refine wpAny_call (codeAny_call_function hroom (X _ _ ho) rfl hco hgen rfl (codeRec_of X hcd) (hbind _ _ _ _ ?_))
  refine wpAny_newFunctionEnv_cells hk (kindsX hkind _) fun env' he s' x => ?_
  subst he
  refine ⟨T.nolimit.keeps x.toInCall.keep, codeAny_func ?_⟩
  obtain ⟨h₁, tk, rfl, _⟩ := x.done
  have hk₁ := x.toInCall.keep
  obtain ⟨cells, NC, Y⟩ := Cl.news (h₀ := s.heap) (Nat.le_refl _) fun n c hm => ⟨x.cell n c (lookup_of_mem_nodup (cellsFrom_names scope.names 0 (s.heap.objs.size + 1) [] [] rfl ▸ hnd) hm), x.above n c hm⟩
  exact wpAny_mono (h h₁ s.heap.objs.size tk cells ⟨x.toInCall.ns, hk₁, Nat.le_refl _⟩ NC Y) (fun fl s' q => q) (fun _ _ x => x.elim)
end Mine
end
/-! part P4 -/
open PySem PySem.W PyProof.Rows in
theorem Mine.flushP4 {M : Model} {A : Around} {env : Env} {Q E : Value → Shared → Prop} {s : Shared} (h : wpAny M A (evalPart none env) Q E s) : wpAny M A (evalPart none env) Q E s := by
  first | (walk1; fail) | (w_top off; exact h)
section
open PySem PySem.W PyProof.Rows PyProof.Rows.LSm
set_option maxRecDepth 100000
set_option maxHeartbeats 4000000
namespace Mine
theorem fill5 (P : Params) (h : Heap) : (Mine.hd.heap_1 P).In h → PySem.Challenge.rw_ny0142_01.Holds → True := by
  k_fill
  intro _ _; trivial
local macro_rules | `(tactic| k_steps) => `(tactic| repeat' ((fail_if_success first
   | (with_reducible show wpAny _ _ (exec (Stmt.While _ _ _ _) _) _ _ _)
   | (with_reducible show wpAny _ _ (exec (Stmt.For _ _ _ _ _) _) _ _ _)
   | (with_reducible show wpAny _ _ (eval (Expr.ListComp _ _ _ _) _) _ _ _)
   | (with_reducible show wpAny _ _ (exec (Stmt.Assign _ (Expr.ListComp _ _ _ _) _) _) _ _ _)); (first | (k_unfold; (try dsimp only)) | walk1 | (dsimp only; walk1))))
local macro_rules | `(tactic| walk_at "eval Name") => `(tactic| (k_here; k_dflt (refine' ld ?k1 ?k2 ?_; (case k1 => k_asm); (case k2 => first | exact rfl | assumption); k_whole)))
local macro_rules | `(tactic| tb_start) => `(tactic| first | assumption | exact Cx.keeps (by assumption) (Fr.keep (by k_asm)))
local macro_rules | `(tactic| tb_rel) => `(tactic| first | exact Rm.deeper (Rm.le (by assumption) (by decide) (by decide)) | exact Rm.le (by assumption) (by decide) (by decide))
local macro_rules | `(tactic| ktr_unf) => `(tactic| ((with_reducible rename Heap.StaysIn _ _ => st9); (k_dflt (have F9 := Fr.kept (by k_asm) st9)); (k_dflt (have N9 := News.grown (by k_asm) st9)); (clear st9); (try k_sweep)))
def isB (k : Bool) : Value → Bool
  | .bool b => b == k
  | _ => false
theorem any_isB (k : Bool) : ∀ {vs : List Value} {bs : List Bool}, BoolsAre vs bs → vs.any (isB k) = bs.any (· == k)
  | _, _, .nil => rfl
  | _, _, .cons b h => by simp only [List.any_cons, isB, any_isB k h]
theorem eq_isB (k : Bool) : ∀ {vs : List Value} {bs : List Bool}, BoolsAre vs bs → ∀ y, y ∈ vs → MeetsSeq.EqGives y (.bool k) (isB k y)
  | _, _, .nil, _, hy => nomatch hy
  | _, _, .cons b h, y, hy => by
    rcases List.mem_cons.mp hy with rfl | hy
    · exact fun prog w A E s Q h => SeqAt.EqAt.bool_bool b k prog w E Q h
    · exact eq_isB k h y hy
section
variable {prog : Program} {w : World} {A : Around} {E : Value → Shared → Prop} {s : Shared}
theorem in_bools {l : Addr} {vs : List Value} {bs : List Bool} {k : Bool} {Q : Value → Shared → Prop} (hl : s.heap.IsList l vs.toArray) (hi : BoolsAre vs bs)
    (h : Q (.bool (bs.any (· == k))) s) : wpAny (model prog w) A (compareOp .In (.bool k) (.ref l)) Q E s :=
  SeqInW.in_listW (isB k) (fun y hy => eq_isB k hi y (by simpa using hy)) hl (by rw [← Array.any_toList, show vs.toArray.toList = vs from rfl, any_isB k hi]; exact h)
theorem notin_bools {l : Addr} {vs : List Value} {bs : List Bool} {k : Bool} {Q : Value → Shared → Prop} (hl : s.heap.IsList l vs.toArray) (hi : BoolsAre vs bs)
    (h : Q (.bool (!(bs.any (· == k)))) s) : wpAny (model prog w) A (compareOp .NotIn (.bool k) (.ref l)) Q E s :=
  SeqInW.notIn_listW (isB k) (fun y hy => eq_isB k hi y (by simpa using hy)) hl (by rw [← Array.any_toList, show vs.toArray.toList = vs from rfl, any_isB k hi]; exact h)
end
theorem lany {w : World} {A : Around} {s : Shared} (C : Cx w s.heap) (r : Rm A 1 10) {l : Addr} {vs : List Value} {bs : List Bool} (hl : s.heap.IsList l vs.toArray) (hb : BoolsAre vs bs) {Q E : Value → Shared → Prop}
   (hQ : ∀ h' tk', s.heap.StaysIn h' → Q (.bool (bs.any (· == true))) { s with heap := h', toks := tk' }) : wpAny (model PR w) A (call (.ref 129) [.ref l]) Q E s := by
  obtain ⟨X, loose, mean, mg, mb, T⟩ := C
  obtain ⟨hd, dp, fr, gd, un⟩ := A
  obtain rfl : hd = none := r.handled
  refine enter (binds := [("row", .ref l)]) X T (by k_is) (by k_is) r.room (BindsTo.of_eq rfl) (locs rfl) ?_ rfl rfl rfl (by decide)
  intro h₁ L tk F N
  k_steps
  refine in_bools (hl.at fun o q => F.keep _ _ q) hb ?_
  exact hQ _ _ F.keep
theorem lall {w : World} {A : Around} {s : Shared} (C : Cx w s.heap) (r : Rm A 1 10) {l : Addr} {vs : List Value} {bs : List Bool} (hl : s.heap.IsList l vs.toArray) (hb : BoolsAre vs bs) {Q E : Value → Shared → Prop}
   (hQ : ∀ h' tk', s.heap.StaysIn h' → Q (.bool (!(bs.any (· == false)))) { s with heap := h', toks := tk' }) : wpAny (model PR w) A (call (.ref 136) [.ref l]) Q E s := by
  obtain ⟨X, loose, mean, mg, mb, T⟩ := C
  obtain ⟨hd, dp, fr, gd, un⟩ := A
  obtain rfl : hd = none := r.handled
  refine enter (binds := [("row", .ref l)]) X T (by k_is) (by k_is) r.room (BindsTo.of_eq rfl) (locs rfl) ?_ rfl rfl rfl (by decide)
  intro h₁ L tk F N
  k_steps
  refine notin_bools (hl.at fun o q => F.keep _ _ q) hb ?_
  exact hQ _ _ F.keep
end Mine
end
/-! part TN -/
section
open PySem PySem.W PyProof.Rows PySem.W.X
set_option maxRecDepth 100000
set_option maxHeartbeats 4000000
namespace Mine
section
variable {prog : Program} {w : World} {A : Around} {h₀ h : Heap} {d : Drawn} {t : Nat} {os : OsState} {g : Array GenState} {E : Value → Shared → Prop} {chg news : List (Addr × Obj)}
theorem m_alloc (D : Mem h₀ h chg news) {o : Obj} {Q : Addr → Shared → Prop} (hf : o.isFreed = false) (hQ : ∀ a h', Mem h₀ h' chg ((a, o) :: news) → Q a ⟨h', g, d, t, os⟩) :
   wpAny (model prog w) A (alloc o) Q E ⟨h, g, d, t, os⟩ := wpAny_alloc (hQ _ _ (D.alloc hf))
theorem m_upd (D : Mem h₀ h chg news) (i : Nat) {a : Addr} {o o' : Obj} {f : Obj → Obj} {p : Option Value} {Q : Unit → Shared → Prop} (hi : news[i]? = some (a, o)) (he : f o = o') (hf : o'.isFreed = false)
   (hQ : ∀ h', Mem h₀ h' chg (news.set i (a, o')) → Q () ⟨h', g, d, t, os⟩) : wpAny (model prog w) A (updatePart a p f) Q E ⟨h, g, d, t, os⟩ :=
  wpAny_updatePart (D.at i a o hi) (hQ _ (he ▸ D.update hi (he ▸ hf)))
theorem m_slot (D : Mem h₀ h chg news) (i : Nat) {a : Addr} {o o' : Obj} {k : Nat} {v : Option Value} {Q : Unit → Shared → Prop} (hi : news[i]? = some (a, o)) (hk : decide (k ≥ sizeLine) = false)
   (he : ({ o with slots := (o.slots ++ Array.replicate (k + 1 - o.slots.size) none).setIfInBounds k v } : Obj) = o') (hf : o'.isFreed = false)
   (hQ : ∀ h', Mem h₀ h' chg (news.set i (a, o')) → Q () ⟨h', g, d, t, os⟩) : wpAny (model prog w) A (setSlotAt a k v) Q E ⟨h, g, d, t, os⟩ := by
  unfold setSlotAt
  exact wpAny_ite_false hk (m_upd D i hi he hf hQ)
theorem m_cls (D : Mem h₀ h chg news) (i : Nat) {a : Addr} {o o' : Obj} {c : ClassData} {f : ClassData → ClassData} {Q : Unit → Shared → Prop} (hi : news[i]? = some (a, o)) (hd : o.data = .cls c)
   (he : Obj.mapCls f o = o') (hf : o'.isFreed = false) (hp : o'.data.pastItsLine = none)
   (hQ : ∀ h', Mem h₀ h' chg (news.set i (a, o')) → Q () ⟨h', g, d, t, os⟩) : wpAny (model prog w) A (updateCls a f) Q E ⟨h, g, d, t, os⟩ := by
  unfold updateCls
  refine wpAny_bind (wpAny_load (D.at i a o hi) ?_)
  rw [hd]
  refine wpAny_bind (m_upd (p := none) D i hi he hf fun h' D' => ?_)
  unfold lookBehind
  have e : (news.set i (a, o'))[i]? = some (a, o') := by
    obtain ⟨hl, _⟩ := List.getElem?_eq_some_iff.mp hi
    rw [List.getElem?_set_self hl]
  refine wpAny_bind (wpAny_loadPart (D'.at i a o' e) ?_)
  rw [hp]
  exact wpAny_pure (hQ _ D')
theorem m_get {s : Shared} {ns : Addr} {o : Obj} {name : Str} {r : Option Value} {Q : Option Value → Shared → Prop} (ho : s.heap.get? ns = some o) (e : nsLook name o = pure r) (hQ : Q r s) :
   wpAny (model prog w) A (nsGet ns name) Q E s := by
  unfold nsGet
  refine wpAny_bind (wpAny_loadPart ho ?_)
  rw [e]; exact wpAny_pure hQ
def hsh (w : World) (n : Str) : Int := if n.cps.isEmpty then 0 else reduceHash (w.params.strHash n.cps)
theorem m_set (D : Mem h₀ h chg news) (i : Nat) {ns : Addr} {o o' : Obj} {es : Array DictEntry} {ep : Nat} {name : Str} {v : Value} {Q : Unit → Shared → Prop} (hi : news[i]? = some (ns, o)) (hd : o.data = .dict es ep)
   (hr : aRefKeyMayBeTheName name es = false) (he : Obj.putName name (hsh w name) (.str name t) v o = o') (hf : o'.isFreed = false)
   (hQ : ∀ h', Mem h₀ h' chg (news.set i (ns, o')) → Q () ⟨h', g, d, t + 1, os⟩) : wpAny (model prog w) A (nsSet ns name v) Q E ⟨h, g, d, t, os⟩ := by
  unfold nsSet strHash
  refine wpAny_bind (wpAny_bind (wpAny_askSetting (wpAny_pure ?_)))
  refine wpAny_bind (wpAny_mkText ?_)
  refine wpAny_bind (wpAny_loadPart (D.at i ns o hi) ?_)
  rw [hd]
  dsimp only
  rw [hr]
  exact m_upd D i hi he hf hQ
theorem m_del (D : Mem h₀ h chg news) (i : Nat) {ns : Addr} {o o' : Obj} {name : Str} {Q : Bool → Shared → Prop} (hi : news[i]? = some (ns, o)) (hh : nsHas name o = pure true)
   (he : Obj.dropName name o = o') (hf : o'.isFreed = false)
   (hQ : ∀ h', Mem h₀ h' chg (news.set i (ns, o')) → Q true ⟨h', g, d, t, os⟩) : wpAny (model prog w) A (nsDel ns name) Q E ⟨h, g, d, t, os⟩ := by
  unfold nsDel
  refine wpAny_bind (wpAny_loadPart (D.at i ns o hi) ?_)
  rw [hh]
  refine wpAny_bind (wpAny_pure ?_)
  refine wpAny_ite_true rfl ?_
  exact wpAny_bind (m_upd D i hi he hf fun h' D' => wpAny_pure (hQ h' D'))
end
/-- the class body's names -/
structure KV where
  hs : Nat → Int
  ks : Nat → Tok
  mo : Str
  tm : Tok
  qn : Str
  tq : Tok
  fl : Int
  tf : Tok
  sl : Addr
  fI : Addr
  fL : Addr
  fG : Addr
  fE : Addr
  fM : Addr
  fN : Addr
  tu : Addr
def KV.ent (v : KV) : Array DictEntry := ⟨[
  ⟨v.hs 0, .str "__module__" (v.ks 0), .str v.mo v.tm⟩, ⟨v.hs 1, .str "__qualname__" (v.ks 1), .str v.qn v.tq⟩, ⟨v.hs 2, .str "__firstlineno__" (v.ks 2), .int v.fl v.tf⟩,
  ⟨v.hs 3, .str "__slots__" (v.ks 3), .ref v.sl⟩, ⟨v.hs 4, .str "__init__" (v.ks 4), .ref v.fI⟩, ⟨v.hs 5, .str "__lt__" (v.ks 5), .ref v.fL⟩, ⟨v.hs 6, .str "__gt__" (v.ks 6), .ref v.fG⟩,
  ⟨v.hs 7, .str "__eq__" (v.ks 7), .ref v.fE⟩, ⟨v.hs 8, .str "__le__" (v.ks 8), .ref v.fM⟩, ⟨v.hs 9, .str "__ge__" (v.ks 9), .ref v.fN⟩, ⟨v.hs 10, .str "__hash__" (v.ks 10), .none⟩,
  ⟨v.hs 11, .str "__static_attributes__" (v.ks 11), .ref v.tu⟩]⟩
/-- with a tail, without the qualified name -/
def KV.ent2 (v : KV) (l : List DictEntry) : Array DictEntry := ⟨
  ⟨v.hs 0, .str "__module__" (v.ks 0), .str v.mo v.tm⟩ :: ⟨v.hs 2, .str "__firstlineno__" (v.ks 2), .int v.fl v.tf⟩ ::
  ⟨v.hs 3, .str "__slots__" (v.ks 3), .ref v.sl⟩ :: ⟨v.hs 4, .str "__init__" (v.ks 4), .ref v.fI⟩ :: ⟨v.hs 5, .str "__lt__" (v.ks 5), .ref v.fL⟩ :: ⟨v.hs 6, .str "__gt__" (v.ks 6), .ref v.fG⟩ ::
  ⟨v.hs 7, .str "__eq__" (v.ks 7), .ref v.fE⟩ :: ⟨v.hs 8, .str "__le__" (v.ks 8), .ref v.fM⟩ :: ⟨v.hs 9, .str "__ge__" (v.ks 9), .ref v.fN⟩ :: ⟨v.hs 10, .str "__hash__" (v.ks 10), .none⟩ ::
  ⟨v.hs 11, .str "__static_attributes__" (v.ks 11), .ref v.tu⟩ :: l⟩
theorem sub_tup : isSubtype (.type "tuple") (.type "tuple") = pure true := by kernel_rfl
theorem sub_dict : isSubtype (.type "dict") (.type "dict") = pure true := by kernel_rfl
theorem sub_type : isSubtype (.type "type") (.type "type") = pure true := by kernel_rfl
theorem ty_obj : typeOf (.type "object") = pure (.type "type") := by kernel_rfl
theorem ist_obj : isType (.type "object") = pure true := by kernel_rfl
theorem nov : Builtin.notOverATurnedClass [.type "object"] = pure () := by kernel_rfl
theorem ext_obj : Builtin.extendedBase [.type "object"] = pure (.type "object") := by kernel_rfl
theorem iter_dict : typeLookup (.type "dict") "__iter__" = pure (some (.builtin "dict.__iter__")) := by kernel_rfl
theorem bb_obj : Builtin.Slots.bestBase [.type "object"] = pure (.type "object") := by kernel_rfl
theorem sn_obj : Builtin.Slots.slotNamesOf (.type "object") = pure [] := by kernel_rfl
theorem gd_obj : Builtin.Slots.givesDict (.type "object") = pure false := by kernel_rfl
theorem gw_obj : Builtin.Slots.givesWeak (.type "object") = pure false := by kernel_rfl
theorem vs_obj : Builtin.Slots.varSize (.type "object") = pure false := by kernel_rfl
theorem mh_type : Builtin.mroHook? (.type "type") = pure none := by kernel_rfl
theorem lin_obj : Builtin.linearize [.type "object"] mroOf = pure [.type "object"] := by kernel_rfl
theorem mb_obj : Bind.madeBy (.type "object") = pure (some "object.__new__") := by kernel_rfl
end Mine
end
/-! part TN2 -/
section
open PySem PySem.W PyProof.Rows PySem.W.X
set_option maxRecDepth 100000
set_option maxHeartbeats 4000000
namespace Mine
theorem find_slots (v : KV) : v.ent.find? (fun e => e.key.isStr "__slots__") = some ⟨v.hs 3, .str "__slots__" (v.ks 3), .ref v.sl⟩ := by kernel_rfl
theorem stays_new (h : Heap) (o : Obj) (f : Obj → Obj) : h.StaysIn ((h.push o).update h.objs.size f) := fun b ob e => by
  have hb : h.objs.size ≠ b := (Nat.ne_of_lt (Heap.lt_size e)).symm
  exact (Heap.get?_update_other _ f hb).trans (Heap.get?_push_of_some _ e)
theorem slread {prog : Program} {w : World} {A : Around} {s : Shared} {E : Value → Shared → Prop} {Q : Builtin.Slots.Plan → Shared → Prop} (v : KV) {to : Tok} {ep : Nat}
   (hl : s.heap.get? v.sl = some ⟨.type "list", none, .seq #[.str "obj" to] ep, #[]⟩)
   (hQ : ∀ h', s.heap.StaysIn h' → Q { names := ["obj"], dict := false, weak := false, inherited := [] } { s with heap := h' }) :
   wpAny (model prog w) A (Builtin.Slots.read "K" [.type "object"] v.ent) Q E s := by
  unfold Builtin.Slots.read
  refine wpAny_bind (wpAny_of_eq bb_obj ?_)
  refine wpAny_bind (wpAny_of_eq sn_obj ?_)
  refine wpAny_bind (wpAny_of_eq gd_obj ?_)
  refine wpAny_bind (wpAny_of_eq gw_obj ?_)
  refine wpAny_bind (wpAny_of_eq vs_obj ?_)
  rw [find_slots]
  refine wpAny_bind (wpAny_rule ?_)
  refine wpAny_bind (wpAny_bind (wpAny_load hl (wpAny_pure ?_)))
  refine wpAny_ite_false rfl ?_
  refine wpAny_bind (collect_list (vs := [.str "obj" to]) ⟨_, hl, rfl, ep, rfl⟩ ?_)
  refine wpAny_of_eq (a := { names := ["obj"], dict := false, weak := false, inherited := [] }) (by kernel_rfl) ?_
  exact hQ _ (stays_new _ _ _)
end Mine
end
/-! part TN3 -/
section
open PySem PySem.W PyProof.Rows PySem.W.X
set_option maxRecDepth 100000
set_option maxHeartbeats 4000000
namespace Mine
def dictO (es : Array DictEntry) (ep : Nat) : Obj := ⟨.type "dict", none, .dict es ep, #[]⟩
def nm (v : KV) (l : List DictEntry) (ep : Nat) : Obj := dictO (v.ent2 l) ep
def clsO (mro : List Value) (ns : Addr) (qn : Str) (hasDict : Bool) (sn : List Str) (sl : List (Option Value)) : Obj :=
  ⟨.type "type", none, .cls { name := "K", bases := [.type "object"], mro := mro, ns := ns, qualname := qn, hasDict := hasDict, slotNames := sn }, ⟨sl⟩⟩
theorem m_new {prog : Program} {w : World} {A : Around} {h₀ h : Heap} {d : Drawn} {t : Nat} {os : OsState} {g : Array GenState} {E : Value → Shared → Prop} {chg news : List (Addr × Obj)}
   (D : Mem h₀ h chg news) {c : Value} {dt : Data} {o : Obj} {Q : Value → Shared → Prop} (e : newObj c dt none = (alloc o >>= fun a => pure (.ref a))) (hf : o.isFreed = false)
   (hQ : ∀ a h', Mem h₀ h' chg ((a, o) :: news) → Q (.ref a) ⟨h', g, d, t, os⟩) : wpAny (model prog w) A (newObj c dt) Q E ⟨h, g, d, t, os⟩ := by
  rw [e]; exact wpAny_bind (m_alloc D hf fun a h' D' => wpAny_pure (hQ a h' D'))
theorem filt (a : Addr) : List.filter (fun x => x != Value.ref a) [Value.ref a, Value.type "object"] = [.type "object"] := by
  have h1 : (Value.ref a != Value.ref a) = false := by simp
  have h2 : (Value.type "object" != Value.ref a) = true := by kernel_rfl
  rw [List.filter_cons_of_neg (by rw [h1]; exact Bool.false_ne_true), List.filter_cons_of_pos (by exact h2), List.filter_nil]
abbrev sl4 (v : KV) (b : Addr) (tk : Tok) : List (Option Value) := [some (.ref b), none, some (.str "K" tk), some (.str v.qn v.tq)]
abbrev sl5 (v : KV) (b : Addr) (tk : Tok) : List (Option Value) := [some (.ref b), none, some (.str "K" tk), some (.str v.qn v.tq), some (.builtin "object.__new__")]
theorem refmk {prog : Program} {w : World} {A : Around} {s : Shared} {E : Value → Shared → Prop} {Q : Unit → Shared → Prop} {v : KV} {a b ns : Addr} {tk : Tok} {ep : Nat} {q : Str} {hd : Bool} {sn : List Str}
   (ha : s.heap.get? a = some (clsO [.ref a, .type "object"] ns q hd sn (sl5 v b tk))) (hn : s.heap.get? ns = some (nm v [] ep)) (hQ : Q () s) : wpAny (model prog w) A (Bind.refreshMaker a) Q E s := by
  unfold Bind.refreshMaker
  refine wpAny_bind (wpAny_bind (wpAny_loadPart ha (wpAny_pure ?_)))
  refine wpAny_ite_false (by kernel_rfl) ?_
  refine wpAny_bind (wpAny_bind (wpAny_bind (wpAny_bind (wpAny_load ha (wpAny_pure (wpAny_pure ?_))))))
  rw [List.forIn_cons]
  refine wpAny_bind (wpAny_bind (wpAny_bind (wpAny_bind (wpAny_bind (wpAny_load ha (wpAny_pure (m_get (r := none) hn (by kernel_rfl) (wpAny_pure ?_))))))))
  refine wpAny_of_eq (a := (some (some (.builtin "object.__new__")), ())) (by kernel_rfl) ?_
  refine wpAny_pure ?_
  exact wpAny_ite_false (by kernel_rfl) (wpAny_pure hQ)
theorem inst {prog : Program} {w : World} {A : Around} {h₀ h : Heap} {d : Drawn} {t : Nat} {os : OsState} {g : Array GenState} {E : Value → Shared → Prop} {Q : Unit → Shared → Prop} {v : KV} {a b ns : Addr} {tk : Tok} {ep : Nat} {q : Str}
   (D : Mem h₀ h [] [(a, clsO [.ref a, .type "object"] ns q true [] (sl5 v b tk)), (ns, nm v [] ep)])
   (hQ : ∀ h' md, Mem h₀ h' [] [(md, ⟨.type "member_descriptor", none, .fields #[.str "obj" t, .ref a, .builtin "proto.slot", .builtin "proto.slot#set", rawInt 0], #[]⟩),
      (a, clsO [.ref a, .type "object"] ns q false ["obj"] (sl5 v b tk)), (ns, nm v [⟨hsh w "obj", .str "obj" (t + 1), .ref md⟩] (ep + 1))] → Q () ⟨h', g, d, t + 1 + 1, os⟩) :
   wpAny (model prog w) A (Builtin.Slots.install (.ref a) ns [.type "object"] { names := ["obj"], dict := false, weak := false }) Q E ⟨h, g, d, t, os⟩ := by
  unfold Builtin.Slots.install
  refine wpAny_bind ?_
  rw [List.forIn_cons]
  refine wpAny_bind (wpAny_bind (m_get (r := none) (D.at 1 _ _ rfl) (by kernel_rfl) ?_))
  refine wpAny_ite_true rfl ?_
  refine wpAny_bind (wpAny_mkStr' ?_)
  refine wpAny_bind (m_new (o := ⟨.type "member_descriptor", none, .fields #[.str "obj" t, .ref a, .builtin "proto.slot", .builtin "proto.slot#set", rawInt 0], #[]⟩) D (by kernel_rfl) rfl fun md h D => ?_)
  refine wpAny_bind ?_
  unfold nsSetByValue
  refine wpAny_bind (wpAny_loadPart (D.at 2 _ _ rfl) ?_)
  refine wpAny_ite_false (by kernel_rfl) ?_
  refine m_set (o' := nm v [⟨hsh w "obj", .str "obj" (t + 1), .ref md⟩] (ep + 1)) D 2 rfl rfl (by kernel_rfl) (by kernel_rfl) rfl fun h D => ?_
  change Mem h₀ h [] [(md, _), (a, _), (ns, nm v [⟨hsh w "obj", .str "obj" (t + 1), .ref md⟩] (ep + 1))] at D
  refine wpAny_pure ?_
  refine wpAny_pure ?_
  refine wpAny_bind (wpAny_of_eq (a := false) (by kernel_rfl) ?_)
  refine wpAny_ite_false (by kernel_rfl) ?_
  refine m_cls (o' := clsO [.ref a, .type "object"] ns q false ["obj"] (sl5 v b tk)) D 1 rfl rfl (by kernel_rfl) rfl (by kernel_rfl) fun h D => ?_
  exact hQ _ _ D
end Mine
end
/-! part TN4 -/
open PySem PySem.W PyProof.Rows in
theorem Mine.flushTN4 {M : Model} {A : Around} {env : Env} {Q E : Value → Shared → Prop} {s : Shared} (h : wpAny M A (evalPart none env) Q E s) : wpAny M A (evalPart none env) Q E s := by
  first | (walk1; fail) | (w_top off; exact h)
section
open PySem PySem.W PyProof.Rows PySem.W.X
set_option maxRecDepth 100000
set_option maxHeartbeats 4000000
namespace Mine
theorem wide {α : Type} {M : Model} {A : Around} {D U : Nat} {t : Sem α} {Q : α → Shared → Prop} {E : Value → Shared → Prop} {s : Shared} (h : wpAny M ⟨none, D, none, none, U⟩ t Q E s)
   (hh : A.handled = none) (hd : A.depth ≤ D) (hu : A.units ≤ U) : wpAny M A t Q E s :=
  fun Γ p hΓ => h Γ p ⟨hΓ.1.trans hh, Nat.le_trans hΓ.2.1 hd, (by intro l e; cases e), (by intro l e; cases e), Nat.le_trans hΓ.2.2.2.2 hu⟩
def supO (a : Addr) : Obj := ⟨.type "super", none, .fields #[.ref a, .ref a, .ref a], #[]⟩
local macro_rules | `(tactic| x_close) => `(tactic| exact ⟨_, _, rfl, rfl, by assumption⟩)
theorem supcall0 {prog : Program} {w : World} {h : Heap} {d : Drawn} {t : Nat} {os : OsState} {g : Array GenState} {a ns b : Addr} {tk tq : Tok} {qn : Str}
   (ha : h.get? a = some ⟨.type "type", none, .cls { name := "K", bases := [.type "object"], mro := [.ref a, .type "object"], ns := ns, qualname := qn, hasDict := false, slotNames := ["obj"] }, #[some (.ref b), none, some (.str "K" tk), some (.str qn tq), some (.builtin "object.__new__"), some (.bool false)]⟩) :
   wpAny (model prog w) ⟨none, 990, none, none, 9000⟩ (call (.type "super") [.ref a, .ref a]) (fun v s' => ∃ q h', v = .ref q ∧ s' = ⟨h', g, d, t, os⟩ ∧ Mem h h' [] [(q, supO a)]) (fun _ _ => False) ⟨h, g, d, t, os⟩ := by
  x_run
local macro_rules | `(tactic| x_close) => `(tactic| exact ⟨_, _, rfl, rfl, by assumption⟩)
def bmO (a : Addr) : Obj := ⟨.type "builtin_function_or_method", none, .fields #[.builtin "object.__init_subclass__", .ref a], #[]⟩
abbrev kO (a ns b : Addr) (tk tq : Tok) (qn : Str) : Obj := ⟨.type "type", none, .cls { name := "K", bases := [.type "object"], mro := [.ref a, .type "object"], ns := ns, qualname := qn, hasDict := false, slotNames := ["obj"] }, #[some (.ref b), none, some (.str "K" tk), some (.str qn tq), some (.builtin "object.__new__"), some (.bool false)]⟩
theorem slot_cmget : Slot "classmethod_descriptor" "__get__" "classmethod_descriptor.__get__" :=
  .of (owner := "classmethod_descriptor") (n := "__get__") (by rw [typeLookup_type, builtinLookup_eq_fast]; kernel_rfl) (by decide +kernel) (by decide +kernel) (by decide +kernel)
    (by first | exact .inl (by decide +kernel) | exact .inr (by decide +kernel)) (by rw [isSubtype_type]; kernel_rfl)
theorem slot_supga : Slot "super" "__getattribute__" "super.__getattribute__" :=
  .of (owner := "super") (n := "__getattribute__") (by rw [typeLookup_type, builtinLookup_eq_fast]; kernel_rfl) (by decide +kernel) (by decide +kernel) (by decide +kernel)
    (by first | exact .inl (by decide +kernel) | exact .inr (by decide +kernel)) (by rw [isSubtype_type]; kernel_rfl)
theorem ent_cmget : entryFor table "classmethod_descriptor.__get__" = some Builtin.«classmethod_descriptor.__get__» := entryFor_of_tree (by kernel_rfl)
theorem ent_supga : entryFor table "super.__getattribute__" = some Builtin.«super.__getattribute__» := entryFor_of_tree (by kernel_rfl)
/-- what a tree does with what it loads -/
def ldK {α : Type} : Sem α → Obj → Sem α
  | .load _ _ k, o => k o
  | t, _ => t
def alK {α : Type} : Sem α → Addr → Sem α
  | .alloc _ k, a => k a
  | t, _ => t
theorem s_load {α : Type} {prog : Program} {w : World} {A : Around} {s : Shared} {E : Value → Shared → Prop} {Q : α → Shared → Prop} {t : Sem α} {o : Obj} (a : Addr) (p : Option Value) (e : t = .load a p (ldK t))
   (ho : s.heap.get? a = some o) (h : wpAny (model prog w) A (ldK t o) Q E s) : wpAny (model prog w) A t Q E s := by
  rw [e]; exact x_load ho h
theorem s_alloc {α : Type} {prog : Program} {w : World} {A : Around} {h₀ h : Heap} {d : Drawn} {tk : Nat} {os : OsState} {g : Array GenState} {chg news : List (Addr × Obj)} {E : Value → Shared → Prop} {Q : α → Shared → Prop} {t : Sem α}
   (D : Mem h₀ h chg news) (o : Obj) (e : t = .alloc o (alK t)) (hf : o.isFreed = false) (hQ : ∀ a h', Mem h₀ h' chg ((a, o) :: news) → wpAny (model prog w) A (alK t a) Q E ⟨h', g, d, tk, os⟩) :
   wpAny (model prog w) A t Q E ⟨h, g, d, tk, os⟩ := by
  rw [e]; exact wpAny_bind (m := alloc o) (f := alK t) (m_alloc D hf hQ)
theorem cmget {prog : Program} {w : World} {A : Around} {h₀ h : Heap} {d : Drawn} {t : Nat} {os : OsState} {g : Array GenState} {a ns b : Addr} {tk tq : Tok} {qn : Str} {chg news : List (Addr × Obj)} {Q E : Value → Shared → Prop}
   (D : Mem h₀ h chg news) (ha : h.get? a = some (kO a ns b tk tq qn)) (hQ : ∀ q h', Mem h₀ h' chg ((q, bmO a) :: news) → Q (.ref q) ⟨h', g, d, t, os⟩) :
   wpAny (model prog w) A (call (.builtin "classmethod_descriptor.__get__") [.builtin "object.__init_subclass__", .none, .ref a]) Q E ⟨h, g, d, t, os⟩ := by
  refine wpAny_call_entry slot_cmget (by show typeOf _ = _; kernel_rfl) ent_cmget ?_ (by kernel_rfl)
  refine s_load a (some headPart) (by kernel_rfl) ha ?_
  refine s_load a none (by kernel_rfl) ha ?_
  refine s_alloc D (bmO a) (by kernel_rfl) rfl fun q h D => ?_
  refine wpAny_of_eq (a := .done (.ret (.ref q))) (by kernel_rfl) ?_
  exact ⟨_, rfl, hQ _ _ D⟩
theorem drops (a : Addr) : (List.dropWhile (fun x => x != Value.ref a) [Value.ref a, Value.type "object"]).drop 1 = [Value.type "object"] := by
  have h1 : (Value.ref a != Value.ref a) = false := by simp
  rw [List.dropWhile_cons_of_neg (by rw [h1]; exact Bool.false_ne_true)]; rfl
theorem supga {prog : Program} {w : World} {A : Around} {h₀ h : Heap} {d : Drawn} {t : Nat} {os : OsState} {g : Array GenState} {a ns b su : Addr} {tk tq : Tok} {qn : Str} {chg news : List (Addr × Obj)} {oS : Obj} {Q E : Value → Shared → Prop}
   (D : Mem h₀ h chg news) (ha : h.get? a = some (kO a ns b tk tq qn)) (hs : h.get? su = some (supO a)) (h2 : h.get? 2 = some oS) (e2 : nsLook "thirdparty.any" oS = pure none)
   (hQ : ∀ q h' tk', Mem h₀ h' chg ((q, bmO a) :: news) → Q (.ref q) ⟨h', g, d, tk', os⟩) :
   wpAny (model prog w) A (getAttr (.ref su) "__init_subclass__") Q E ⟨h, g, d, t, os⟩ := by
  unfold getAttr
  refine wpAny_bind (wpAny_mkText ?_)
  unfold getAttrBy
  refine wpAny_holding ?_
  refine wpAny_bind (wpAny_bind (wpAny_load hs (wpAny_pure ?_)))
  refine wpAny_bind (wpAny_of_eq slot_supga.lookup ?_)
  refine wpAny_ite_false (by kernel_rfl) ?_
  unfold getAttrByItsOwn
  refine wpAny_bind (wpAny_pure ?_)
  refine wpAny_bind (wpAny_attempt (wpAny_holding ?_))
  refine wpAny_ite_false (by kernel_rfl) ?_
  unfold boundAndCalled
  refine wpAny_bind (wpAny_of_eq (a := (.builtin "super.__getattribute__", [.ref su])) (by kernel_rfl) ?_)
  refine wpAny_call_entry slot_supga ⟨_, hs, rfl⟩ ent_supga ?_ (by kernel_rfl)
  unfold Builtin.«super.__getattribute__»
  refine wpAny_bind (wpAny_pure ?_)
  refine wpAny_ite_false rfl ?_
  refine wpAny_bind (wpAny_pure ?_)
  refine wpAny_bind (wpAny_bind (wpAny_bind (wpAny_load hs (wpAny_pure (wpAny_pure ?_)))))
  refine wpAny_bind (wpAny_bind (wpAny_bind (wpAny_load hs (wpAny_pure (wpAny_pure ?_)))))
  refine wpAny_bind (wpAny_bind (wpAny_bind (wpAny_load hs (wpAny_pure (wpAny_pure ?_)))))
  refine wpAny_ite_false (by kernel_rfl) ?_
  refine wpAny_bind (wpAny_bind (wpAny_bind (wpAny_bind (m_get h2 e2 (wpAny_pure ?_)))))
  refine wpAny_ite_true rfl (wpAny_pure (wpAny_pure ?_))
  refine wpAny_ite_false (by kernel_rfl) ?_
  refine wpAny_bind (wpAny_bind (wpAny_bind (wpAny_load ha (wpAny_pure (wpAny_pure ?_)))))
  change wpAny _ _ (forIn (List.drop 1 (List.dropWhile (fun x => x != Value.ref a) [Value.ref a, Value.type "object"])) (none, ()) _ >>= _) _ _ _
  rw [drops]
  refine wpAny_bind ?_
  rw [List.forIn_cons]
  refine wpAny_bind ?_
  refine wpAny_bind (wpAny_of_eq (a := some (.builtin "object.__init_subclass__")) (by kernel_rfl) ?_)
  refine wpAny_bind (wpAny_of_eq (a := .type "classmethod_descriptor") (by kernel_rfl) ?_)
  refine wpAny_bind (wpAny_of_eq slot_cmget.lookup ?_)
  rw [show (if (#[Value.ref a, Value.ref a, Value.ref a][1] == #[Value.ref a, Value.ref a, Value.ref a][2]) = true then Value.none else #[Value.ref a, Value.ref a, Value.ref a][1]) = Value.none from if_pos (by simp)]
  refine wpAny_bind (wpAny_holding (cmget D ha fun q h' D' => ?_))
  refine wpAny_bind (wpAny_pure (wpAny_pure (wpAny_pure ?_)))
  refine wpAny_pure ⟨_, rfl, ?_⟩
  exact wpAny_pure (hQ _ _ _ D')
end Mine
end
/-! part TN5 -/
section
open PySem PySem.W PyProof.Rows PySem.W.X
set_option maxRecDepth 100000
set_option maxHeartbeats 4000000
namespace Mine
theorem ent_isub : entryFor table "object.__init_subclass__" = some Builtin.«object.__init_subclass__» := entryFor_of_tree (by kernel_rfl)
theorem iscall {prog : Program} {w : World} {A : Around} {s : Shared} {a q ns b : Addr} {tk tq : Tok} {Q E : Value → Shared → Prop} (hq : s.heap.get? q = some (bmO a)) (ha : s.heap.get? a = some (kO a ns b tk tq "cmp_to_key.<locals>.K")) (hQ : Q .none s) :
   wpAny (model prog w) A (call (.ref q) []) Q E s := by
  refine wpAny_call (x_code ?_)
  refine s_load q none (by kernel_rfl) hq ?_
  refine s_load a (some headPart) (by kernel_rfl) ha ?_
  refine s_load a (some headPart) (by kernel_rfl) ha ?_
  refine s_load a none (by kernel_rfl) ha ?_
  refine s_load a (some headPart) (by kernel_rfl) ha ?_
  refine wpAny_of_eq (a := .again (.builtin "object.__init_subclass__" ⟨[.ref a], []⟩)) (by kernel_rfl) ?_
  refine ⟨by kernel_rfl, codeAny_builtin ent_isub ?_⟩
  refine wpAny_of_eq (a := .done (.ret .none)) (by kernel_rfl) ?_
  exact hQ
end Mine
end
/-! part TN6 -/
section
open PySem PySem.W PyProof.Rows PySem.W.X
set_option maxRecDepth 100000
set_option maxHeartbeats 4000000
namespace Mine
theorem each_none {α : Type} {M : Model} {A : Around} {E : Value → Shared → Prop} {s : Shared} {f : α → PUnit → Sem (ForInStep PUnit)} {Q : PUnit → Shared → Prop} : ∀ {l : List α},
   (∀ e ∈ l, ∀ R : ForInStep PUnit → Shared → Prop, R (.yield ⟨⟩) s → wpAny M A (f e ⟨⟩) R E s) → Q ⟨⟩ s → wpAny M A (forIn l ⟨⟩ f) Q E s
  | [], _, hQ => wpAny_pure hQ
  | e :: l, hf, hQ => by
    rw [List.forIn_cons]
    refine wpAny_bind (hf e (.head _) _ ?_)
    exact each_none (fun e' he => hf e' (.tail _ he)) hQ
theorem mem_stays {h₀ h : Heap} {news : List (Addr × Obj)} (D : Mem h₀ h [] news) : h₀.StaysIn h := fun b o e => D.keep b o e (by rw [show away [] b = true from rfl, Bool.or_true])
theorem sn_str : typeLookup (.type "str") "__set_name__" = pure none := by rw [typeLookup_type, builtinLookup_eq_fast]; kernel_rfl
theorem sn_int : typeLookup (.type "int") "__set_name__" = pure none := by rw [typeLookup_type, builtinLookup_eq_fast]; kernel_rfl
theorem sn_list : typeLookup (.type "list") "__set_name__" = pure none := by rw [typeLookup_type, builtinLookup_eq_fast]; kernel_rfl
theorem sn_fun : typeLookup (.type "function") "__set_name__" = pure none := by rw [typeLookup_type, builtinLookup_eq_fast]; kernel_rfl
theorem sn_none : typeLookup (.type "NoneType") "__set_name__" = pure none := by rw [typeLookup_type, builtinLookup_eq_fast]; kernel_rfl
theorem sn_tup : typeLookup (.type "tuple") "__set_name__" = pure none := by rw [typeLookup_type, builtinLookup_eq_fast]; kernel_rfl
theorem sn_md : typeLookup (.type "member_descriptor") "__set_name__" = pure none := by rw [typeLookup_type, builtinLookup_eq_fast]; kernel_rfl
theorem none_of {h h1 : Heap} (K : h.StaysIn h1) {x : Addr} (z : h1.get? x = none) : h.get? x = none := by
  cases q : h.get? x with
  | none => rfl
  | some o => rw [K _ _ q] at z; cases z
theorem tnew {prog : Program} {w : World} {A : Around} {h : Heap} {d : Drawn} {t : Nat} {os : OsState} {g : Array GenState} {Q : Fin → Shared → Prop} {E : Value → Shared → Prop}
   {b n : Addr} {tk to : Tok} {ep el : Nat} (v : KV)
   (hb : h.get? b = some ⟨.type "tuple", none, .seq #[.type "object"] 0, #[]⟩)
   (hn : h.get? n = some (dictO v.ent ep)) (hns : n ≠ sysModules)
   (hl : h.get? v.sl = some ⟨.type "list", none, .seq #[.str "obj" to] el, #[]⟩) {oS : Obj} (h2 : h.get? 2 = some oS) (e2 : nsLook "thirdparty.any" oS = pure none) (hh : A.handled = none) (hdp : A.depth ≤ 990) (hun : A.units ≤ 9000)
   (hf : ∀ f, f ∈ [v.fI, v.fL, v.fG, v.fE, v.fM, v.fN] → ∃ o, h.get? f = some o ∧ o.cls = .type "function") (ht : ∃ o, h.get? v.tu = some o ∧ o.cls = .type "tuple") (hqn : v.qn = "cmp_to_key.<locals>.K")
   (hQ : ∀ a ns md h' tk' l0, h.StaysIn h' → (h.get? a = none ∧ h.get? ns = none ∧ h.get? md = none) → h'.get? a = some (kO a ns b tk v.tq v.qn) → h'.get? ns = some (nm v [⟨hsh w "obj", .str "obj" (t + 1), .ref md⟩, l0] 3) → l0.key = .str "__doc__" (t + 1 + 1) → l0.val = .none →
      h'.get? md = some ⟨.type "member_descriptor", none, .fields #[.str "obj" t, .ref a, .builtin "proto.slot", .builtin "proto.slot#set", rawInt 0], #[]⟩ → Q (.done (.ret (.ref a))) ⟨h', g, d, tk', os⟩) :
   wpAny (model prog w) A (Builtin.«type.__new__» ⟨[.type "type", .str "K" tk, .ref b, .ref n], []⟩) Q E ⟨h, g, d, t, os⟩ := by
  unfold Builtin.«type.__new__»
  refine wpAny_bind (wpAny_pure ?_)
  refine wpAny_bind (wpAny_bind (wpAny_bind (wpAny_load hb (wpAny_pure (wpAny_of_eq sub_tup ?_)))))
  refine wpAny_ite_false rfl ?_
  refine wpAny_bind (wpAny_bind (wpAny_bind (wpAny_load hn (wpAny_pure (wpAny_of_eq sub_dict ?_)))))
  refine wpAny_ite_false rfl ?_
  refine wpAny_bind (wpAny_bind (wpAny_load hb (wpAny_pure ?_)))
  refine wpAny_ite_false rfl ?_
  refine wpAny_bind (wpAny_of_eq (a := PUnit.unit) (by kernel_rfl) ?_)
  refine wpAny_bind (wpAny_of_eq (a := .type "type") (by kernel_rfl) ?_)
  refine wpAny_ite_false (by kernel_rfl) ?_
  refine wpAny_bind (wpAny_of_eq nov ?_)
  refine wpAny_bind (wpAny_of_eq ext_obj ?_)
  refine wpAny_ite_false (decide_eq_false (by simpa using hns)) ?_
  refine wpAny_bind (wpAny_bind (wpAny_loadPart hn (wpAny_pure ?_)))
  refine wpAny_bind (wpAny_bind (wpAny_bind (wpAny_load hn (wpAny_pure (wpAny_of_eq iter_dict ?_)))))
  refine wpAny_ite_true (by kernel_rfl) ?_
  refine wpAny_bind (wpAny_pure ?_)
  refine wpAny_bind (wpAny_holding (slread v hl fun h1 K1 => ?_))
  refine wpAny_bind (m_new (o := dictO v.ent 0) (Mem.start h1) (by kernel_rfl) rfl fun ns h D => ?_)
  refine wpAny_ite_false (by kernel_rfl) ?_
  refine wpAny_bind (wpAny_ite_false (by kernel_rfl) (wpAny_pure ?_))
  refine wpAny_ite_false (by kernel_rfl) ?_
  refine wpAny_bind (m_get (r := some (.str v.qn v.tq)) (D.at 0 _ _ rfl) (by kernel_rfl) ?_)
  refine wpAny_bind (m_get (r := some (.str v.qn v.tq)) (D.at 0 _ _ rfl) (by kernel_rfl) ?_)
  refine wpAny_bind (wpAny_pure ?_)
  refine wpAny_bind (wpAny_pure ?_)
  refine wpAny_bind (m_get (r := none) (D.at 0 _ _ rfl) (by kernel_rfl) ?_)
  refine wpAny_bind (m_alloc D rfl fun a h D => ?_)
  change Mem h1 h [] [(a, clsO [] ns v.qn true [] []), (ns, dictO v.ent 0)] at D
  refine wpAny_ite_true rfl ?_
  refine wpAny_bind (m_slot (o' := clsO [] ns v.qn true [] [some (.ref b)]) D 0 rfl (by kernel_rfl) (by kernel_rfl) rfl fun h D => ?_)
  change Mem h1 h [] [(a, clsO [] ns v.qn true [] [some (.ref b)]), (ns, dictO v.ent 0)] at D
  refine wpAny_bind (m_slot (o' := clsO [] ns v.qn true [] [some (.ref b), none, some (.str "K" tk)]) D 0 rfl (by kernel_rfl) (by kernel_rfl) rfl fun h D => ?_)
  change Mem h1 h [] [(a, clsO [] ns v.qn true [] [some (.ref b), none, some (.str "K" tk)]), (ns, dictO v.ent 0)] at D
  refine wpAny_bind (m_slot (o' := clsO [] ns v.qn true [] [some (.ref b), none, some (.str "K" tk), some (.str v.qn v.tq)]) D 0 rfl (by kernel_rfl) (by kernel_rfl) rfl fun h D => ?_)
  change Mem h1 h [] [(a, clsO [] ns v.qn true [] [some (.ref b), none, some (.str "K" tk), some (.str v.qn v.tq)]), (ns, dictO v.ent 0)] at D
  refine wpAny_bind (m_del (o' := nm v [] 1) D 1 rfl (by kernel_rfl) (by kernel_rfl) rfl fun h D => ?_)
  change Mem h1 h [] [(a, clsO [] ns v.qn true [] [some (.ref b), none, some (.str "K" tk), some (.str v.qn v.tq)]), (ns, nm v [] 1)] at D
  refine wpAny_bind (m_get (r := none) (D.at 1 _ _ rfl) (by kernel_rfl) ?_)
  refine wpAny_bind ?_
  rw [List.forIn_cons]
  refine wpAny_bind (wpAny_bind (m_get (r := none) (D.at 1 _ _ rfl) (by kernel_rfl) (wpAny_pure ?_)))
  refine wpAny_bind (wpAny_bind (m_get (r := none) (D.at 1 _ _ rfl) (by kernel_rfl) (wpAny_pure (wpAny_pure ?_))))
  refine wpAny_bind (m_get (r := none) (D.at 1 _ _ rfl) (by kernel_rfl) ?_)
  refine wpAny_bind (m_get (r := none) (D.at 1 _ _ rfl) (by kernel_rfl) ?_)
  refine wpAny_bind (wpAny_of_eq mh_type ?_)
  refine wpAny_bind (wpAny_of_eq (a := [.type "object"]) (by kernel_rfl) ?_)
  refine wpAny_bind (wpAny_pure ?_)
  refine wpAny_bind (wpAny_of_eq (a := false) (by rw [filt]; kernel_rfl) ?_)
  refine wpAny_bind (m_cls (o' := clsO [.ref a, .type "object"] ns v.qn true [] (sl4 v b tk)) D 0 rfl rfl (by kernel_rfl) rfl (by kernel_rfl) fun h D => ?_)
  change Mem h1 h [] [(a, clsO [.ref a, .type "object"] ns v.qn true [] (sl4 v b tk)), (ns, nm v [] 1)] at D
  refine wpAny_bind (wpAny_of_eq mb_obj ?_)
  refine wpAny_bind (m_slot (o' := clsO [.ref a, .type "object"] ns v.qn true [] (sl5 v b tk)) D 0 rfl (by kernel_rfl) (by kernel_rfl) rfl fun h D => ?_)
  change Mem h1 h [] [(a, clsO [.ref a, .type "object"] ns v.qn true [] (sl5 v b tk)), (ns, nm v [] 1)] at D
  refine wpAny_bind (refmk (D.at 0 _ _ rfl) (D.at 1 _ _ rfl) ?_)
  refine wpAny_bind (inst D fun h md D => ?_)
  refine wpAny_bind (wpAny_of_eq gw_obj ?_)
  refine wpAny_bind (m_slot (o' := clsO [.ref a, .type "object"] ns v.qn false ["obj"] (sl5 v b tk ++ [some (.bool false)])) D 1 rfl (by kernel_rfl) (by kernel_rfl) rfl fun h D => ?_)
  change Mem h1 h [] [(md, _), (a, clsO [.ref a, .type "object"] ns v.qn false ["obj"] (sl5 v b tk ++ [some (.bool false)])), (ns, _)] at D
  refine wpAny_ite_false rfl ?_
  refine wpAny_ite_false rfl ?_
  refine wpAny_bind (m_get (r := none) (D.at 2 _ _ rfl) (by kernel_rfl) ?_)
  refine wpAny_ite_true rfl ?_
  refine wpAny_bind (m_set (o' := nm v [⟨hsh w "obj", .str "obj" (t + 1), .ref md⟩, ⟨hsh w "__doc__", .str "__doc__" (t + 1 + 1), .none⟩] 3) D 2 rfl rfl (by kernel_rfl) (by kernel_rfl) rfl fun h D => ?_)
  change Mem h1 h [] [(md, _), (a, _), (ns, nm v [⟨hsh w "obj", .str "obj" (t + 1), .ref md⟩, ⟨hsh w "__doc__", .str "__doc__" (t + 1 + 1), .none⟩] 3)] at D
  refine wpAny_bind (m_get (r := some (.ref v.fE)) (D.at 2 _ _ rfl) (by kernel_rfl) ?_)
  refine wpAny_ite_true rfl ?_
  refine wpAny_bind (m_get (r := some .none) (D.at 2 _ _ rfl) (by kernel_rfl) ?_)
  refine wpAny_ite_false rfl ?_
  refine wpAny_bind (wpAny_of_eq (a := PUnit.unit) (by kernel_rfl) ?_)
  refine wpAny_bind (wpAny_tryCatch (wpAny_holding ?_))
  refine wpAny_bind (wpAny_bind (wpAny_loadPart (D.at 2 _ _ rfl) (wpAny_pure ?_)))
  refine wpAny_bind (wpAny_of_eq (a := false) (by kernel_rfl) ?_)
  refine wpAny_ite_false rfl ?_
  refine wpAny_bind (wpAny_bind (wpAny_loadPart (D.at 2 _ _ rfl) (wpAny_pure ?_)))
  refine wpAny_bind ?_
  rw [← Array.forIn_toList]
  have KH : ∀ x o, _ → _ := fun x o e => mem_stays D x o (K1 x o e)
  refine each_none (fun e he R hR => ?_) ?_
  · refine (?_ : (∃ T : String, Builtin.laidUnderItsOwnName e.key e.val = false ∧ Shared.TypeIs ⟨h, g, d, t + 1 + 1 + 1, os⟩ e.val T ∧ typeLookup (.type T) "__set_name__" = pure none) → _) ?_
    · rintro ⟨T, h1, h2, h3⟩
      exact wpAny_ite_false (by rw [h1]; rfl) (wpAny_bind (wpAny_specialOf h2 h3 (wpAny_pure hR)))
    change e ∈ _ :: _ :: _ :: _ :: _ :: _ :: _ :: _ :: _ :: _ :: _ :: _ :: _ :: [] at he
    simp only [List.mem_cons, List.not_mem_nil, or_false] at he
    rcases he with rfl | rfl | rfl | rfl | rfl | rfl | rfl | rfl | rfl | rfl | rfl | rfl | rfl
    · exact ⟨"str", by kernel_rfl, rfl, sn_str⟩
    · exact ⟨"int", by kernel_rfl, rfl, sn_int⟩
    · exact ⟨"list", by kernel_rfl, ⟨_, KH _ _ hl, rfl⟩, sn_list⟩
    · obtain ⟨o, e1, e2⟩ := hf v.fI (by simp); exact ⟨"function", by kernel_rfl, ⟨o, KH _ _ e1, e2⟩, sn_fun⟩
    · obtain ⟨o, e1, e2⟩ := hf v.fL (by simp); exact ⟨"function", by kernel_rfl, ⟨o, KH _ _ e1, e2⟩, sn_fun⟩
    · obtain ⟨o, e1, e2⟩ := hf v.fG (by simp); exact ⟨"function", by kernel_rfl, ⟨o, KH _ _ e1, e2⟩, sn_fun⟩
    · obtain ⟨o, e1, e2⟩ := hf v.fE (by simp); exact ⟨"function", by kernel_rfl, ⟨o, KH _ _ e1, e2⟩, sn_fun⟩
    · obtain ⟨o, e1, e2⟩ := hf v.fM (by simp); exact ⟨"function", by kernel_rfl, ⟨o, KH _ _ e1, e2⟩, sn_fun⟩
    · obtain ⟨o, e1, e2⟩ := hf v.fN (by simp); exact ⟨"function", by kernel_rfl, ⟨o, KH _ _ e1, e2⟩, sn_fun⟩
    · exact ⟨"NoneType", by kernel_rfl, rfl, sn_none⟩
    · obtain ⟨o, e1, e2⟩ := ht; exact ⟨"tuple", by kernel_rfl, ⟨o, KH _ _ e1, e2⟩, sn_tup⟩
    · exact ⟨"member_descriptor", by kernel_rfl, ⟨_, D.at 0 _ _ rfl, rfl⟩, sn_md⟩
    · exact ⟨"NoneType", by kernel_rfl, rfl, sn_none⟩
  have ha := D.at 1 _ _ rfl
  refine wpAny_bind (wpAny_mono (wide (supcall0 ha) hh hdp hun) ?_ fun _ _ z => z.elim)
  rintro _ _ ⟨su, h', rfl, rfl, D2⟩
  have S2 := mem_stays D2
  have hsu := D2.at 0 _ _ rfl
  refine wpAny_bind (wpAny_holding (supga (Mem.start h') (S2 _ _ ha) hsu (S2 _ _ (KH _ _ h2)) e2 fun q h'' tk' D3 => ?_))
  have S3 := mem_stays D3
  have hq := D3.at 0 _ _ rfl
  have ha3 : h''.get? a = some (kO a ns b tk v.tq "cmp_to_key.<locals>.K") := by
    have z : h''.get? a = some (kO a ns b tk v.tq v.qn) := S3 _ _ (S2 _ _ ha)
    rw [hqn] at z
    exact z
  refine wpAny_bind (iscall hq ha3 ?_)
  refine wpAny_pure ?_
  refine wpAny_pure ?_
  exact hQ _ _ _ _ _ _ (fun x o e => S3 _ _ (S2 _ _ (KH _ _ e))) ⟨none_of K1 (D.nw (a, _) (.tail _ (.head _))).2, none_of K1 (D.nw (ns, _) (.tail _ (.tail _ (.head _)))).2, none_of K1 (D.nw (md, _) (.head _)).2⟩ (S3 _ _ (S2 _ _ ha)) (S3 _ _ (S2 _ _ (D.at 2 _ _ rfl))) rfl rfl (S3 _ _ (S2 _ _ (D.at 0 _ _ rfl)))
end Mine
end
/-! part TN7 -/
section
open PySem PySem.W PyProof.Rows PySem.W.X
set_option maxRecDepth 100000
set_option maxHeartbeats 4000000
namespace Mine
theorem slot_tinit : Slot "type" "__init__" "type.__init__" :=
  .of (owner := "type") (n := "__init__") (by rw [typeLookup_type, builtinLookup_eq_fast]; kernel_rfl) (by decide +kernel) (by decide +kernel) (by decide +kernel)
    (by first | exact .inl (by decide +kernel) | exact .inr (by decide +kernel)) (by rw [isSubtype_type]; kernel_rfl)
theorem ent_tinit : entryFor table "type.__init__" = some Builtin.«type.__init__» := entryFor_of_tree (by kernel_rfl)
theorem ent_tcall : entryFor table "type.__call__" = some Builtin.«type.__call__» := entryFor_of_tree (by kernel_rfl)
theorem ent_tnew : entryFor table "type.__new__" = some Builtin.«type.__new__» := entryFor_of_tree (by kernel_rfl)
theorem plain_tnew : plainId "type.__new__" = true := by decide +kernel
theorem mb_type : Bind.madeBy (.type "type") = pure (some "type.__new__") := by kernel_rfl
theorem tcall {prog : Program} {w : World} {A : Around} {h : Heap} {d : Drawn} {t : Nat} {os : OsState} {g : Array GenState} {Q E : Value → Shared → Prop}
   {b n : Addr} {tk to : Tok} {ep el : Nat} (v : KV)
   (hb : h.get? b = some ⟨.type "tuple", none, .seq #[.type "object"] 0, #[]⟩)
   (hn : h.get? n = some (dictO v.ent ep)) (hns : n ≠ sysModules)
   (hl : h.get? v.sl = some ⟨.type "list", none, .seq #[.str "obj" to] el, #[]⟩) {oS : Obj} (h2 : h.get? 2 = some oS) (e2 : nsLook "thirdparty.any" oS = pure none) (hh : A.handled = none) (hdp : A.depth ≤ 980) (hun : A.units ≤ 8900)
   (hf : ∀ f, f ∈ [v.fI, v.fL, v.fG, v.fE, v.fM, v.fN] → ∃ o, h.get? f = some o ∧ o.cls = .type "function") (ht : ∃ o, h.get? v.tu = some o ∧ o.cls = .type "tuple") (hqn : v.qn = "cmp_to_key.<locals>.K")
   (hQ : ∀ a ns md h' tk' l0, h.StaysIn h' → (h.get? a = none ∧ h.get? ns = none ∧ h.get? md = none) → h'.get? a = some (kO a ns b tk v.tq v.qn) → h'.get? ns = some (nm v [⟨hsh w "obj", .str "obj" (t + 1), .ref md⟩, l0] 3) → l0.key = .str "__doc__" (t + 1 + 1) → l0.val = .none →
      h'.get? md = some ⟨.type "member_descriptor", none, .fields #[.str "obj" t, .ref a, .builtin "proto.slot", .builtin "proto.slot#set", rawInt 0], #[]⟩ → Q (.ref a) ⟨h', g, d, tk', os⟩) :
   wpAny (model prog w) A (call (.type "type") [.str "K" tk, .ref b, .ref n]) Q E ⟨h, g, d, t, os⟩ := by
  refine wpAny_call (x_code ?_)
  refine wpAny_pure ⟨by kernel_rfl, codeAny_builtin ent_tcall ?_⟩
  have w1 : (Code.builtin "type.__call__" ⟨[.type "type", .str "K" tk, .ref b, .ref n], []⟩).weight = 0 := by kernel_rfl
  have w2 : (Code.builtin "type.__call__" ⟨[.type "type", .str "K" tk, .ref b, .ref n], []⟩).cUnits = 1 := by kernel_rfl
  have d1 : (A.under (Code.builtin "type.__call__" ⟨[.type "type", .str "K" tk, .ref b, .ref n], []⟩)).depth ≤ 990 := by show A.depth + _ ≤ 990; rw [w1]; omega
  have u1 : (A.under (Code.builtin "type.__call__" ⟨[.type "type", .str "K" tk, .ref b, .ref n], []⟩)).units ≤ 8990 := by show A.units + _ ≤ 8990; rw [w2]; omega
  have hh1 : (A.under (Code.builtin "type.__call__" ⟨[.type "type", .str "K" tk, .ref b, .ref n], []⟩)).handled = none := hh
  change wpAny _ (A.under (Code.builtin "type.__call__" ⟨[.type "type", .str "K" tk, .ref b, .ref n], []⟩)) _ _ _ _
  generalize A.under (Code.builtin "type.__call__" ⟨[.type "type", .str "K" tk, .ref b, .ref n], []⟩) = A1 at d1 u1 hh1 ⊢
  unfold Builtin.«type.__call__»
  refine wpAny_ite_true (by kernel_rfl) ?_
  refine wpAny_ite_false (by kernel_rfl) ?_
  refine wpAny_ite_false (by kernel_rfl) ?_
  refine wpAny_ite_false (by kernel_rfl) ?_
  refine wpAny_bind (wpAny_of_eq (a := ()) (by kernel_rfl) ?_)
  refine wpAny_bind (wpAny_of_eq (a := [.type "type", .type "object"]) (by kernel_rfl) ?_)
  refine wpAny_ite_false (by kernel_rfl) ?_
  refine wpAny_bind (wpAny_of_eq mb_type ?_)
  refine wpAny_bind (wpAny_pure ?_)
  refine wpAny_bind (wpAny_holding ?_)
  refine wpAny_call (codeAny_call_builtin plain_tnew ent_tnew ?_)
  refine wpAny_of_eq (a := ()) (by kernel_rfl) ?_
  refine tnew v hb hn hns hl h2 e2 hh1 d1 (by show A1.units + 1 ≤ _; omega) hf ht hqn fun a ns md h' tk' l0 K FR ha hns' hk hv hmd => ?_
  show wpAny _ _ _ _ _ _
  refine wpAny_bind (wpAny_bind (wpAny_bind (wpAny_load ha (wpAny_pure (wpAny_of_eq sub_type ?_)))))
  refine wpAny_ite_false rfl ?_
  refine wpAny_bind (wpAny_holding ?_)
  unfold callSpecial?
  refine wpAny_bind (wpAny_specialOf ⟨_, ha, rfl⟩ slot_tinit.lookup ?_)
  refine wpAny_holding (wpAny_bind (wpAny_of_eq (a := (.builtin "type.__init__", [.ref a])) (by kernel_rfl) ?_))
  refine wpAny_bind (wpAny_call_entry slot_tinit ⟨_, ha, rfl⟩ ent_tinit ?_ (by kernel_rfl))
  refine wpAny_of_eq (a := .done (.ret .none)) (by kernel_rfl) ⟨_, rfl, ?_⟩
  refine wpAny_pure ?_
  refine wpAny_ite_false rfl (wpAny_pure ?_)
  exact hQ _ _ _ _ _ _ K FR ha hns' hk hv hmd
end Mine
end
/-! part CB -/
section
open PySem PySem.W PyProof.Rows PySem.W.X
set_option maxRecDepth 100000
set_option maxHeartbeats 4000000
namespace Mine
/-- a heap in the midst of a class body: ns its namespace, c its code object, P the table of that; fs: what was made meanwhile -/
structure CB (h₀ h : Heap) (ns c P : Addr) (es : List DictEntry) (ep : Nat) (ps : Array Value) (fs : List (Addr × Obj)) : Prop where
  keep : ∀ b o, b ≠ P → b ≠ ns → h₀.get? b = some o → h.get? b = some o
  dict : h.get? ns = some (dictO ⟨es⟩ ep)
  code : h.IsCode c P ps
  tab : h.TableAt c P ps
  nP : ns ≠ P
  nc : c ≠ ns
  fs : ∀ p ∈ fs, h.get? p.1 = some p.2 ∧ p.1 ≠ P ∧ p.1 ≠ ns ∧ h₀.get? p.1 = none
section
variable {h₀ h h' : Heap} {ns c P : Addr} {es : List DictEntry} {ep : Nat} {ps : Array Value} {fs : List (Addr × Obj)}
theorem CB.none (C : CB h₀ h ns c P es ep ps fs) {x : Addr} (hx : h.objs.size ≤ x) : h₀.get? x = none := by
  cases q : h₀.get? x with
  | none => rfl
  | some o =>
    have n1 : x ≠ P := Nat.ne_of_gt (Nat.lt_of_lt_of_le C.code.lt.2 hx)
    have n2 : x ≠ ns := Nat.ne_of_gt (Nat.lt_of_lt_of_le (Heap.lt_size C.dict) hx)
    exact absurd (Heap.lt_size (C.keep x o n1 n2 q)) (Nat.not_lt.mpr hx)
theorem CB.push (C : CB h₀ h ns c P es ep ps fs) (o : Obj) (hf : o.isFreed = false) : CB h₀ (h.push o) ns c P es ep ps ((h.objs.size, o) :: fs) :=
  ⟨fun b o' h1 h2 e => Heap.get?_push_of_some _ (C.keep b o' h1 h2 e), Heap.get?_push_of_some _ C.dict, C.code.push o, C.tab.push o, C.nP, C.nc, fun p hp => by
    rcases List.mem_cons.mp hp with rfl | hp
    · exact ⟨Heap.get?_push_size _ hf, (Nat.ne_of_lt C.code.lt.2).symm, (Nat.ne_of_lt (Heap.lt_size C.dict)).symm, C.none (Nat.le_refl _)⟩
    · exact ⟨Heap.get?_push_of_some _ (C.fs p hp).1, (C.fs p hp).2⟩⟩
theorem CB.ext (C : CB h₀ h ns c P es ep ps fs) {ps' : Array Value} (hx : Heap.ExtBut P h h') (hc : h'.IsCode c P ps') (ht : h'.TableAt c P ps') : CB h₀ h' ns c P es ep ps' fs :=
  ⟨fun b o' h1 h2 e => hx _ _ h1 (C.keep b o' h1 h2 e), hx _ _ C.nP C.dict, hc, ht, C.nP, C.nc, fun p hp => ⟨hx _ _ (C.fs p hp).2.1 (C.fs p hp).1, (C.fs p hp).2⟩⟩
theorem CB.set (C : CB h₀ h ns c P es ep ps fs) {es' : List DictEntry} {ep' : Nat} {f : Obj → Obj} (he : f (dictO ⟨es⟩ ep) = dictO ⟨es'⟩ ep') : CB h₀ (h.update ns f) ns c P es' ep' ps fs := by
  have hs : Heap.SameBut ns h (h.update ns f) := Heap.SameBut.update ..
  have hx : Heap.ExtBut ns h (h.update ns f) := hs.extBut
  refine ⟨fun b o' h1 h2 e => hx _ _ h2 (C.keep b o' h1 h2 e), ?_, C.code.extBut hx C.nc (Ne.symm C.nP), C.tab.extBut hx C.nc (Ne.symm C.nP), C.nP, C.nc, fun p hp => ⟨hx _ _ (C.fs p hp).2.2.1 (C.fs p hp).1, (C.fs p hp).2⟩⟩
  have := Heap.get?_update_self f C.dict (by rw [he]; rfl)
  rw [he] at this; exact this
end
section
variable {prog : Program} {w : World} {A : Around} {E : Value → Shared → Prop} {h₀ h : Heap} {d : Drawn} {t : Nat} {os : OsState} {g : Array GenState} {ns c P : Addr} {es es' : List DictEntry} {ep ep' : Nat} {ps : Array Value} {fs : List (Addr × Obj)} {env : Env}
/-- a name is bound in the class body -/
theorem cb_store (C : CB h₀ h ns c P es ep ps fs) {name : Str} {v : Value} {Q : Unit → Shared → Prop} (hl : env.locals = ns) (hk : env.scope.kind = .class) (hn : env.kindOf name = some .local ∨ (env.kindOf name = none ∧ env.blockKind ≠ .function ∧ compilersOwnNames.contains name = true))
   (hr : aRefKeyMayBeTheName name ⟨es⟩ = false) (he : Obj.putName name (hsh w name) (.str name t) v (dictO ⟨es⟩ ep) = dictO ⟨es'⟩ ep')
   (hQ : ∀ h', CB h₀ h' ns c P es' ep' ps fs → Q () ⟨h', g, d, t + 1, os⟩) : wpAny (model prog w) A (storeName env name v) Q E ⟨h, g, d, t, os⟩ := by
  have key : wpAny (model prog w) A (localSet env name v) Q E ⟨h, g, d, t, os⟩ := by
    unfold localSet
    rw [hl]
    refine wpAny_bind (wpAny_load C.dict ?_)
    refine wpAny_ite_true rfl ?_
    unfold nsSet strHash
    refine wpAny_bind (wpAny_bind (wpAny_askSetting (wpAny_pure ?_)))
    refine wpAny_bind (wpAny_mkText ?_)
    refine wpAny_bind (wpAny_loadPart C.dict ?_)
    show wpAny _ _ (if aRefKeyMayBeTheName name ⟨es⟩ = true then _ else _) _ _ _
    rw [hr]
    exact wpAny_updatePart C.dict (hQ _ (C.set he))
  unfold storeName
  rcases hn with hn | ⟨hn, hb, hc⟩
  · rw [hn]
    show wpAny _ _ (if (env.scope.kind == .class || _) = true then _ else _) _ _ _
    rw [hk]; exact key
  · rw [hn]
    show wpAny _ _ (if (env.blockKind == .function || ((env.scope.kind == .class || _) && !compilersOwnNames.contains name)) = true then _ else _) _ _ _
    rw [hc, show (env.blockKind == .function) = false from by cases q : env.blockKind <;> first | rfl | exact absurd q hb, Bool.not_true, Bool.and_false, Bool.or_false]
    show wpAny _ _ (if (env.scope.kind == .class || _) = true then _ else _) _ _ _
    rw [hk]; exact key
end
end Mine
end
/-! part CB2 -/
section
open PySem PySem.W PyProof.Rows PySem.W.X
set_option maxRecDepth 100000
set_option maxHeartbeats 4000000
namespace Mine
/-- a method of the class body -/
def mO (name qual : Str) (params : Arguments) (body : List Stmt) (scope : Scope) (cs : List (Str × Addr)) (ct pm : Value) (c' : Addr) : Obj :=
  ⟨.type "function", none, .func { name := name, qualname := qual, params := params, body := .stmts body, scope := scope, globals := mainGlobals, closure := cs, closureTuple := ct, defaults := .none, kwdefaults := .none, doc := .none, pyModule := pm, code := .ref c', builtins := builtinsNs }, #[]⟩
def recOf (o : Obj) (q : Str) : Prop := ∃ vs t, o.data = .fields vs ∧ vs[1]? = some (.str q t)
section
variable {prog : Program} {w : World} {A : Around} {E : Value → Shared → Prop} {h₀ h : Heap} {d : Drawn} {t : Nat} {os : OsState} {g : Array GenState} {ns c P : Addr} {es es' : List DictEntry} {ep ep' : Nat} {ps : Array Value} {fs : List (Addr × Obj)} {env : Env}
theorem cb_make (C : CB h₀ h ns c P es ep ps fs) {name qual : Str} {params : Arguments} {body : List Stmt} {scope : Scope} {cs : List (Str × Addr)} {pos : Pos} {fl : Nat} {oG : Obj} {sl4 : Array (Option Value)} {pm : Value} {Q : Value → Shared → Prop}
   (hG : env.globals = mainGlobals) (hcode : env.code = .ref c) (h3 : h₀.get? mainGlobals = some oG) (eB : nsLook "__builtins__" oG = pure (some (.ref 4))) (eN : nsLook "__name__" oG = pure (some pm))
   (h4 : h₀.get? 4 = some ⟨.type "module", some 0, .plain, sl4⟩) (hkw : params.kwonlyargs = []) (hdoc : docOf body = none) (hcl : closureFor scope env = pure cs) (hcs : cs.length ≤ 1)
   (hnf : codeAmong pos ps.toList = none) (l3 : mainGlobals ≠ P ∧ mainGlobals ≠ ns) (l4 : 4 ≠ P ∧ 4 ≠ ns)
   (hQ : ∀ f c' oc ct h' tk, CB h₀ h' ns c P es ep (ps ++ #[rawInt pos.line, rawInt pos.col, .ref c']) ((f, mO name qual params body scope cs ct pm c') :: (c', oc) :: fs) → recOf oc qual → Q (.ref f) ⟨h', g, d, tk, os⟩) :
   wpAny (model prog w) A (makeFunction name qual params (.stmts body) scope env [] [] [] pos fl) Q E ⟨h, g, d, t, os⟩ := by
  have tail : ∀ (ct : Value) (h : Heap) (tk : Nat) (fs' : List (Addr × Obj)), CB h₀ h ns c P es ep ps fs' → (∀ x ∈ fs, x ∈ fs') → wpAny (model prog w) A (do
      let code ← functionCode env pos fl name qual params scope (.stmts body)
      let bi ← builtinsFor env.globals env.builtins
      let nm ← nsGet env.globals "__name__"
      let doc ← ((match docOf body with | some s => mkText s | none => pure .none) : Sem Value)
      newObj (.type "function") (.func { name := name, qualname := qual, params := params, body := .stmts body, scope := scope, globals := env.globals, closure := cs, defaults := .none, kwdefaults := .none, doc := doc, pyModule := nm.getD .none, code := code, closureTuple := ct, builtins := bi })) Q E ⟨h, g, d, tk, os⟩ := by
    intro ct h tk fs' C hsub
    refine wpAny_bind (wpAny_functionCodeX hcode C.code C.tab hnf fun c' h' tk' hx hle _ hc hr ht _ => ?_)
    have C' := C.ext hx hc ht
    obtain ⟨c2, oc, vs, tq, e2, gc, dc, vc⟩ := hr
    cases e2
    have nP' : c' ≠ P := Nat.ne_of_gt (Nat.lt_of_lt_of_le C.code.lt.2 hle)
    have nn' : c' ≠ ns := Nat.ne_of_gt (Nat.lt_of_lt_of_le (Heap.lt_size C.dict) hle)
    rw [hG]
    have g3 := C'.keep _ _ l3.1 l3.2 h3
    have g4 := C'.keep _ _ l4.1 l4.2 h4
    refine wpAny_bind ?_
    unfold builtinsFor
    refine wpAny_bind (m_get g3 eB ?_)
    refine wpAny_ite_false (by kernel_rfl) ?_
    refine wpAny_bind (wpAny_load g4 ?_)
    refine wpAny_ite_true (by kernel_rfl) (wpAny_pure ?_)
    refine wpAny_bind (m_get g3 eN ?_)
    rw [hdoc]
    refine wpAny_bind (wpAny_pure ?_)
    refine wpAny_bind (wpAny_alloc (wpAny_pure ?_))
    refine hQ _ c' oc ct _ _ ?_ ⟨vs, tq, dc, vc⟩
    have C2 := C'.push (mO name qual params body scope cs ct pm c') rfl
    exact ⟨C2.keep, C2.dict, C2.code, C2.tab, C2.nP, C2.nc, fun p hp => by
      rcases List.mem_cons.mp hp with rfl | hp
      · exact C2.fs _ (.head _)
      · rcases List.mem_cons.mp hp with rfl | hp
        · exact ⟨Heap.get?_push_of_some _ gc, nP', nn', C.none hle⟩
        · exact C2.fs p (.tail _ (hsub p hp))⟩
  unfold makeFunction
  rw [hkw]
  refine wpAny_bind (wpAny_pure ?_)
  refine wpAny_bind (wpAny_pure ?_)
  refine wpAny_bind (wpAny_pure ?_)
  refine wpAny_bind (wpAny_of_eq hcl ?_)
  match cs, hcs with
  | [], _ => exact wpAny_bind (wpAny_pure (tail _ _ _ _ C fun _ hx => hx))
  | [(n, a)], _ =>
    refine wpAny_bind ?_
    rw [List.mergeSort_singleton]
    unfold newTextTuple newObjAsIs
    exact wpAny_bind (wpAny_alloc (wpAny_pure (tail _ _ _ _ (C.push { cls := .type "tuple", dict := none, data := .seq (List.map (fun x => Value.ref x.2) [(n, a)]).toArray } rfl) fun _ hx => .tail _ hx)))
theorem cb_def (C : CB h₀ h ns c P es ep ps fs) {name qual : Str} {params : Arguments} {body : List Stmt} {scope : Scope} {cs : List (Str × Addr)} {pos : Pos} {oG : Obj} {sl4 : Array (Option Value)} {pm : Value} {es' : Addr → Tok → List DictEntry} {Q : Flow → Shared → Prop}
   (hex : PlainDefTree name params body scope pos) (hq : qualnameIn env name name = qual) (hl : env.locals = ns) (hk : env.scope.kind = .class) (hn : env.kindOf name = some .local)
   (hG : env.globals = mainGlobals) (hcode : env.code = .ref c) (h3 : h₀.get? mainGlobals = some oG) (eB : nsLook "__builtins__" oG = pure (some (.ref 4))) (eN : nsLook "__name__" oG = pure (some pm))
   (h4 : h₀.get? 4 = some ⟨.type "module", some 0, .plain, sl4⟩) (hkw : params.kwonlyargs = []) (hdoc : docOf body = none) (hcl : closureFor scope env = pure cs) (hcs : cs.length ≤ 1)
   (hnf : codeAmong pos ps.toList = none) (l3 : mainGlobals ≠ P ∧ mainGlobals ≠ ns) (l4 : 4 ≠ P ∧ 4 ≠ ns)
   (hr : aRefKeyMayBeTheName name ⟨es⟩ = false) (he : ∀ f t, Obj.putName name (hsh w name) (.str name t) (.ref f) (dictO ⟨es⟩ ep) = dictO ⟨es' f t⟩ (ep + 1))
   (hQ : ∀ f c' oc ct h' tk tn, CB h₀ h' ns c P (es' f tn) (ep + 1) (ps ++ #[rawInt pos.line, rawInt pos.col, .ref c']) ((f, mO name qual params body scope cs ct pm c') :: (c', oc) :: fs) → recOf oc qual → Q .next ⟨h', g, d, tk, os⟩) :
   wpAny (model prog w) A (exec (.FunctionDef name params body [] none [] scope none name pos) env) Q E ⟨h, g, d, t, os⟩ := by
  rw [hex, hq]
  refine wpAny_bind (wpAny_standAt ?_)
  refine wpAny_bind (wpAny_holding (cb_make C hG hcode h3 eB eN h4 hkw hdoc hcl hcs hnf l3 l4 fun f c' oc ct h' tk C' hrec => ?_))
  refine wpAny_bind (wpAny_standAt ?_)
  unfold bindName
  refine wpAny_bind (wpAny_bind (wpAny_holding (wpAny_point ?_)))
  refine wpAny_bind (cb_store C' hl hk (.inl hn) hr (he f _) fun h'' C'' => ?_)
  refine wpAny_point ?_
  exact wpAny_pure (hQ f c' oc ct _ _ _ C'' hrec)
end
end Mine
end
/-! part CB3 -/
section
open PySem PySem.W PyProof.Rows PySem.W.X
set_option maxRecDepth 100000
set_option maxHeartbeats 4000000
namespace Mine
/-- what a method's def must be for the class body's rule -/
structure MOk (env : Env) (name qual : Str) (params : Arguments) (body : List Stmt) (scope : Scope) (pos : Pos) (cs : List (Str × Addr)) : Prop where
  hex : PlainDefTree name params body scope pos
  hq : qualnameIn env name name = qual
  hkw : params.kwonlyargs = []
  hdoc : docOf body = none
  hcl : closureFor scope env = pure cs
  hcs : cs.length ≤ 1
  hn : env.kindOf name = some .local
theorem ca_skip {pos : Pos} {l : Nat} {c v : Value} {rest : List Value} (h : l ≠ pos.line) (hc : ∃ i t, c = .int i t) : codeAmong pos (rawInt l :: c :: v :: rest) = codeAmong pos rest := by
  obtain ⟨i, t, rfl⟩ := hc
  show (if ((l : Int) == (pos.line : Int) && _) = true then _ else _) = _
  rw [show ((l : Int) == (pos.line : Int)) = false from by simpa using fun z => h (by exact_mod_cast z)]
  rfl
/-- the line and column of a code, in a table -/
def trip (q : Pos) (c : Addr) : List Value := [rawInt q.line, rawInt q.col, .ref c]
theorem ca_trip {pos q : Pos} {c : Addr} {rest : List Value} (h : q.line ≠ pos.line) : codeAmong pos (trip q c ++ rest) = codeAmong pos rest := ca_skip h ⟨_, _, rfl⟩
def e1 (w : World) (n : Str) (t : Tok) (v : Value) : DictEntry := ⟨hsh w n, .str n t, v⟩
section
variable {prog : Program} {w : World} {A : Around} {E : Value → Shared → Prop} {h₀ h : Heap} {d : Drawn} {t : Nat} {os : OsState} {g : Array GenState} {ns c P : Addr} {ep : Nat} {env : Env}
theorem cbody {oG : Obj} {sl4 : Array (Option Value)} {pm v0 : Value} {k0 k1 k2 tq tf : Tok} {qn mo : Str} {fl : Int} {cl : Addr}
   {x1 x2 x3 x4 x5 x6 x7 x8 x9 x10 : Pos} {pI pL pG pE pM pN : Arguments} {bI bL bG bE bM bN : List Stmt} {sI sL sG sE sM sN : Scope} {qI qL qG qE qM qN : Pos} {y1 y2 y3 : Nat} {Q : Flow → Shared → Prop}
   (C : CB h₀ h ns c P [e1 w "__module__" k0 v0, e1 w "__qualname__" k1 (.str qn tq), e1 w "__firstlineno__" k2 (.int fl tf)] ep #[] [])
   (hl : env.locals = ns) (hk : env.scope.kind = .class) (hG : env.globals = mainGlobals) (hcode : env.code = .ref c) (h3 : h₀.get? mainGlobals = some oG) (eB : nsLook "__builtins__" oG = pure (some (.ref 4))) (eN : nsLook "__name__" oG = pure (some pm))
   (h4 : h₀.get? 4 = some ⟨.type "module", some 0, .plain, sl4⟩) (l3 : mainGlobals ≠ P ∧ mainGlobals ≠ ns) (l4 : 4 ≠ P ∧ 4 ≠ ns)
   (kM : env.kindOf "__module__" = some .local) (kS : env.kindOf "__slots__" = some .local) (kH : env.kindOf "__hash__" = some .local)
   (MI : MOk env "__init__" "cmp_to_key.<locals>.K.__init__" pI bI sI qI []) (ML : MOk env "__lt__" "cmp_to_key.<locals>.K.__lt__" pL bL sL qL [("mycmp", cl)]) (MG : MOk env "__gt__" "cmp_to_key.<locals>.K.__gt__" pG bG sG qG [("mycmp", cl)])
   (ME : MOk env "__eq__" "cmp_to_key.<locals>.K.__eq__" pE bE sE qE [("mycmp", cl)]) (MM : MOk env "__le__" "cmp_to_key.<locals>.K.__le__" pM bM sM qM [("mycmp", cl)]) (MN : MOk env "__ge__" "cmp_to_key.<locals>.K.__ge__" pN bN sN qN [("mycmp", cl)])
   (hd : qI.line < qL.line ∧ qL.line < qG.line ∧ qG.line < qE.line ∧ qE.line < qM.line ∧ qM.line < qN.line)
   (hs1 : swapsWith (.Constant (.str mo) y1 x2) (some (.Name "__module__" x1)) x3.line env = pure false) (hs2 : swapsWith (.List [.Constant (.str "obj") y2 x5] x6) (some (.Name "__slots__" x4)) x7.line env = pure false)
   (hs3 : swapsWith (.Constant .none y3 x9) (some (.Name "__hash__" x8)) x10.line env = pure false)
   (hQ : ∀ (tm to : Tok) (k : Nat → Tok) (sl fI fL fG fE fM fN cI cL : Addr) (oI oL : Obj) (ctI ctL : Value) (ps' : Array Value) (ep' : Nat) (fs' : List (Addr × Obj)) (h' : Heap) (tk : Nat),
      CB h₀ h' ns c P [e1 w "__module__" k0 (.str mo tm), e1 w "__qualname__" k1 (.str qn tq), e1 w "__firstlineno__" k2 (.int fl tf), e1 w "__slots__" (k 3) (.ref sl), e1 w "__init__" (k 4) (.ref fI), e1 w "__lt__" (k 5) (.ref fL),
        e1 w "__gt__" (k 6) (.ref fG), e1 w "__eq__" (k 7) (.ref fE), e1 w "__le__" (k 8) (.ref fM), e1 w "__ge__" (k 9) (.ref fN), e1 w "__hash__" (k 10) .none] ep' ps' fs' →
      (sl, ⟨.type "list", none, .seq #[.str "obj" to] 0, #[]⟩) ∈ fs' → (fI, mO "__init__" "cmp_to_key.<locals>.K.__init__" pI bI sI [] ctI pm cI) ∈ fs' → (cI, oI) ∈ fs' → recOf oI "cmp_to_key.<locals>.K.__init__" →
      (fL, mO "__lt__" "cmp_to_key.<locals>.K.__lt__" pL bL sL [("mycmp", cl)] ctL pm cL) ∈ fs' → (cL, oL) ∈ fs' → recOf oL "cmp_to_key.<locals>.K.__lt__" →
      (∀ f, f ∈ [fI, fL, fG, fE, fM, fN] → ∃ o, (f, o) ∈ fs' ∧ o.cls = .type "function") → Q .next ⟨h', g, d, tk, os⟩) :
   wpAny (model prog w) A (execs [.Assign [.Name "__module__" x1] (.Constant (.str mo) y1 x2) x3, .Assign [.Name "__slots__" x4] (.List [.Constant (.str "obj") y2 x5] x6) x7,
      .FunctionDef "__init__" pI bI [] none [] sI none "__init__" qI, .FunctionDef "__lt__" pL bL [] none [] sL none "__lt__" qL, .FunctionDef "__gt__" pG bG [] none [] sG none "__gt__" qG,
      .FunctionDef "__eq__" pE bE [] none [] sE none "__eq__" qE, .FunctionDef "__le__" pM bM [] none [] sM none "__le__" qM, .FunctionDef "__ge__" pN bN [] none [] sN none "__ge__" qN,
      .Assign [.Name "__hash__" x8] (.Constant .none y3 x9) x10] env) Q E ⟨h, g, d, t, os⟩ := by
  refine wpAny_execs_cons (wpAny_Assign_Name ?_ hs1)
  refine wpAny_mkText ?_
  refine cb_store (es' := [e1 w "__module__" k0 (.str mo t), e1 w "__qualname__" k1 (.str qn tq), e1 w "__firstlineno__" k2 (.int fl tf)]) (ep' := ep) C hl hk (.inl kM) (by kernel_rfl) (by kernel_rfl) fun h1 C1 => ?_
  refine wpAny_execs_cons (wpAny_Assign_Name ?_ hs2)
  rw [arm_eval_List]
  refine wpAny_bind (wpAny_standAt ?_)
  refine wpAny_bind (spliced_more (wpAny_mkText (spliced_none ?_)))
  refine wpAny_newList ?_
  have C2 := C1.push { cls := .type "list", data := .seq #[.str "obj" (t + 1 + 1)] } rfl
  refine cb_store (es' := [e1 w "__module__" k0 (.str mo t), e1 w "__qualname__" k1 (.str qn tq), e1 w "__firstlineno__" k2 (.int fl tf), e1 w "__slots__" (t + 1 + 1 + 1) (.ref h1.objs.size)]) (ep' := ep + 1) C2 hl hk (.inl kS) (by kernel_rfl) (by kernel_rfl) fun h3' C3 => ?_
  refine wpAny_execs_cons (cb_def (es' := fun f tn => [e1 w "__module__" k0 (.str mo t), e1 w "__qualname__" k1 (.str qn tq), e1 w "__firstlineno__" k2 (.int fl tf), e1 w "__slots__" (t + 1 + 1 + 1) (.ref h1.objs.size), e1 w "__init__" tn (.ref f)]) C3 MI.hex MI.hq hl hk MI.hn hG hcode h3 eB eN h4 MI.hkw MI.hdoc MI.hcl MI.hcs (by rfl) l3 l4 (by kernel_rfl) (fun _ _ => by kernel_rfl) fun fI cI oI ctI hpI tkI kI DI rI => ?_)
  refine wpAny_execs_cons (cb_def (es' := fun f tn => [e1 w "__module__" k0 (.str mo t), e1 w "__qualname__" k1 (.str qn tq), e1 w "__firstlineno__" k2 (.int fl tf), e1 w "__slots__" (t + 1 + 1 + 1) (.ref h1.objs.size), e1 w "__init__" kI (.ref fI), e1 w "__lt__" tn (.ref f)]) DI ML.hex ML.hq hl hk ML.hn hG hcode h3 eB eN h4 ML.hkw ML.hdoc ML.hcl ML.hcs (by show codeAmong qL (trip qI cI ++ []) = none; rw [ca_trip (by omega)]; rfl) l3 l4 (by kernel_rfl) (fun _ _ => by kernel_rfl) fun fL cL oL ctL hpL tkL kL DL rL => ?_)
  refine wpAny_execs_cons (cb_def (es' := fun f tn => [e1 w "__module__" k0 (.str mo t), e1 w "__qualname__" k1 (.str qn tq), e1 w "__firstlineno__" k2 (.int fl tf), e1 w "__slots__" (t + 1 + 1 + 1) (.ref h1.objs.size), e1 w "__init__" kI (.ref fI), e1 w "__lt__" kL (.ref fL), e1 w "__gt__" tn (.ref f)]) DL MG.hex MG.hq hl hk MG.hn hG hcode h3 eB eN h4 MG.hkw MG.hdoc MG.hcl MG.hcs (by show codeAmong qG (trip qI cI ++ (trip qL cL ++ [])) = none; rw [ca_trip (by omega), ca_trip (by omega)]; rfl) l3 l4 (by kernel_rfl) (fun _ _ => by kernel_rfl) fun fG cG oG ctG hpG tkG kG DG rG => ?_)
  refine wpAny_execs_cons (cb_def (es' := fun f tn => [e1 w "__module__" k0 (.str mo t), e1 w "__qualname__" k1 (.str qn tq), e1 w "__firstlineno__" k2 (.int fl tf), e1 w "__slots__" (t + 1 + 1 + 1) (.ref h1.objs.size), e1 w "__init__" kI (.ref fI), e1 w "__lt__" kL (.ref fL), e1 w "__gt__" kG (.ref fG), e1 w "__eq__" tn (.ref f)]) DG ME.hex ME.hq hl hk ME.hn hG hcode h3 eB eN h4 ME.hkw ME.hdoc ME.hcl ME.hcs (by show codeAmong qE (trip qI cI ++ (trip qL cL ++ (trip qG cG ++ []))) = none; rw [ca_trip (by omega), ca_trip (by omega), ca_trip (by omega)]; rfl) l3 l4 (by kernel_rfl) (fun _ _ => by kernel_rfl) fun fE cE oE ctE hpE tkE kE DE rE => ?_)
  refine wpAny_execs_cons (cb_def (es' := fun f tn => [e1 w "__module__" k0 (.str mo t), e1 w "__qualname__" k1 (.str qn tq), e1 w "__firstlineno__" k2 (.int fl tf), e1 w "__slots__" (t + 1 + 1 + 1) (.ref h1.objs.size), e1 w "__init__" kI (.ref fI), e1 w "__lt__" kL (.ref fL), e1 w "__gt__" kG (.ref fG), e1 w "__eq__" kE (.ref fE), e1 w "__le__" tn (.ref f)]) DE MM.hex MM.hq hl hk MM.hn hG hcode h3 eB eN h4 MM.hkw MM.hdoc MM.hcl MM.hcs (by show codeAmong qM (trip qI cI ++ (trip qL cL ++ (trip qG cG ++ (trip qE cE ++ [])))) = none; rw [ca_trip (by omega), ca_trip (by omega), ca_trip (by omega), ca_trip (by omega)]; rfl) l3 l4 (by kernel_rfl) (fun _ _ => by kernel_rfl) fun fM cM oM ctM hpM tkM kM DM rM => ?_)
  refine wpAny_execs_cons (cb_def (es' := fun f tn => [e1 w "__module__" k0 (.str mo t), e1 w "__qualname__" k1 (.str qn tq), e1 w "__firstlineno__" k2 (.int fl tf), e1 w "__slots__" (t + 1 + 1 + 1) (.ref h1.objs.size), e1 w "__init__" kI (.ref fI), e1 w "__lt__" kL (.ref fL), e1 w "__gt__" kG (.ref fG), e1 w "__eq__" kE (.ref fE), e1 w "__le__" kM (.ref fM), e1 w "__ge__" tn (.ref f)]) DM MN.hex MN.hq hl hk MN.hn hG hcode h3 eB eN h4 MN.hkw MN.hdoc MN.hcl MN.hcs (by show codeAmong qN (trip qI cI ++ (trip qL cL ++ (trip qG cG ++ (trip qE cE ++ (trip qM cM ++ []))))) = none; rw [ca_trip (by omega), ca_trip (by omega), ca_trip (by omega), ca_trip (by omega), ca_trip (by omega)]; rfl) l3 l4 (by kernel_rfl) (fun _ _ => by kernel_rfl) fun fN cN oN ctN hpN tkN kN DN rN => ?_)
  refine wpAny_execs_cons (wpAny_Assign_Name ?_ hs3)
  refine wpAny_pure ?_
  refine cb_store (es' := [e1 w "__module__" k0 (.str mo t), e1 w "__qualname__" k1 (.str qn tq), e1 w "__firstlineno__" k2 (.int fl tf), e1 w "__slots__" (t + 1 + 1 + 1) (.ref h1.objs.size), e1 w "__init__" kI (.ref fI), e1 w "__lt__" kL (.ref fL), e1 w "__gt__" kG (.ref fG), e1 w "__eq__" kE (.ref fE), e1 w "__le__" kM (.ref fM), e1 w "__ge__" kN (.ref fN), e1 w "__hash__" tkN .none]) (ep' := ep + 1 + 1 + 1 + 1 + 1 + 1 + 1 + 1) DN hl hk (.inl kH) (by kernel_rfl) (by kernel_rfl) fun h' C' => ?_
  refine wpAny_execs_nil ?_
  refine hQ t (t + 1 + 1) (fun i => [0, 0, 0, t + 1 + 1 + 1, kI, kL, kG, kE, kM, kN, tkN].getD i 0) h1.objs.size fI fL fG fE fM fN cI cL oI oL ctI ctL _ _ _ h' _ C' (by simp) (by simp) (by simp) rI (by simp) (by simp) rL ?_
  intro f hf
  simp only [List.mem_cons, List.not_mem_nil, or_false] at hf
  rcases hf with rfl | rfl | rfl | rfl | rfl | rfl
  all_goals exact ⟨_, by first | exact .head _ | exact .tail _ (.tail _ (.head _)) | exact .tail _ (.tail _ (.tail _ (.tail _ (.head _)))) | exact .tail _ (.tail _ (.tail _ (.tail _ (.tail _ (.tail _ (.head _)))))) | exact .tail _ (.tail _ (.tail _ (.tail _ (.tail _ (.tail _ (.tail _ (.tail _ (.head _)))))))) | exact .tail _ (.tail _ (.tail _ (.tail _ (.tail _ (.tail _ (.tail _ (.tail _ (.tail _ (.tail _ (.head _)))))))))), rfl⟩
end
end Mine
end
/-! part BC -/
open PySem PySem.W PyProof.Rows in
theorem Mine.flushBC {M : Model} {A : Around} {env : Env} {Q E : Value → Shared → Prop} {s : Shared} (h : wpAny M A (evalPart none env) Q E s) : wpAny M A (evalPart none env) Q E s := by
  first | (walk1; fail) | (w_top off; exact h)
section
open PySem PySem.W PyProof.Rows PySem.W.X
set_option maxRecDepth 100000
set_option maxHeartbeats 4000000
namespace Mine
section
variable {M : Model} {A : Around} {E : Value → Shared → Prop} {s : Shared}
theorem ccode {env : Env} {c P : Addr} {pos : Pos} {fl : Nat} {name qual : Str} {scope : Scope} {Q : Value → Shared → Prop} (hc : env.code = .ref c) (hok : s.heap.IsCode c P #[]) (hTb : s.heap.get? P = some (tableObj #[]))
    (hQ : ∀ c' P' h' tk, Heap.ExtBut P s.heap h' → s.heap.objs.size ≤ c' → s.heap.objs.size ≤ P' → h'.IsCode c' P' #[] → h'.TableAt c' P' #[] → (∃ ps, h'.get? P = some (tableObj ps)) → Q (.ref c') { s with heap := h', toks := tk }) :
    wpAny M A (classCode env pos fl name qual scope) Q E s := by
  obtain ⟨o, vs, file, tf, flags, tg, inF, text, tt, op, ho, hd, h11, h2, h7, h9, h10, hop, hpd, htr, hne⟩ := id hok
  unfold classCode codeAt
  rw [hc, if_neg (show ¬ ((Value.ref c == Value.none) = true) from Bool.false_ne_true)]
  refine wpAny_bind (wpAny_fieldsOf ho hd ?_)
  rw [h11]
  refine wpAny_bind (wpAny_fieldsOf hop hpd ?_)
  rw [show codeAmong pos (#[] : Array Value).toList = none from rfl, h2, h7, h9, h10]
  refine wpAny_bind (wpAny_newCodeX fun c' P' h' tk hk hc' hP' hcode' htab' hrec' => ?_)
  have hop' := hk _ _ hop
  refine wpAny_bind (wpAny_updateFieldsOfTheText hop' hpd ?_)
  have hnew : (Obj.mapFields (fun vs => if (codeAmong pos vs.toList).isSome = true then vs else vs ++ #[rawInt pos.line, rawInt pos.col, .ref c']) op).data =
      .fields #[rawInt pos.line, rawInt pos.col, .ref c'] := by
    rw [Obj.data_mapFields hpd]; rfl
  have hget := Heap.get?_update_self (h := h') (fun o => Obj.mapFields (fun vs => if (codeAmong pos vs.toList).isSome = true then vs else
    vs ++ #[rawInt pos.line, rawInt pos.col, .ref c']) o) hop' (Obj.isFreed_of_fields hnew)
  refine wpAny_bind (wpAny_fieldsOf hget hnew ?_)
  rw [show codeAmong pos (#[rawInt pos.line, rawInt pos.col, Value.ref c'] : Array Value).toList = some (.ref c') from by
    show (if ((pos.line : Int) == (pos.line : Int) && (pos.col : Int) == (pos.col : Int)) = true then _ else _) = _
    rw [if_pos (by simp)]]
  have hcP : c' ≠ P := Nat.ne_of_gt (Nat.lt_of_lt_of_le (Heap.lt_size hop) hc')
  have hP'P : P' ≠ P := Nat.ne_of_gt (Nat.lt_of_lt_of_le (Heap.lt_size hop) hP')
  exact wpAny_pure (hQ _ _ _ _ (fun b o' hb e => ((Heap.SameBut.update ..).extBut b o' hb (hk b o' e))) hc' hP' (hcode'.extBut (Heap.SameBut.update ..).extBut hcP hP'P) (htab'.extBut (Heap.SameBut.update ..).extBut hcP hP'P) ⟨#[] ++ #[rawInt pos.line, rawInt pos.col, .ref c'], hget.trans (by rw [hop] at hTb; cases hTb; rfl)⟩)
end
def pmO : Obj := ⟨.type "builtin_function_or_method", none, .fields #[.builtin "type.__prepare__", .type "type"], #[]⟩
local macro_rules | `(tactic| x_close) => `(tactic| exact ⟨_, _, _, rfl, rfl, by assumption, by kernel_rfl⟩)
theorem prep0 {prog : Program} {w : World} {h : Heap} {d : Drawn} {t : Nat} {os : OsState} {g : Array GenState} {tk : Tok} :
   wpAny (model prog w) ⟨none, 990, none, none, 9000⟩ (call (.builtin "type.__getattribute__") [.type "type", .str "__prepare__" tk]) (fun v s' => ∃ q h' o, v = .ref q ∧ s' = ⟨h', g, d, t, os⟩ ∧ Mem h h' [] [(q, o)] ∧ o = pmO) (fun _ _ => False) ⟨h, g, d, t, os⟩ := by
  x_run
end Mine
end
/-! part BC2 -/
section
open PySem PySem.W PyProof.Rows PySem.W.X
set_option maxRecDepth 100000
set_option maxHeartbeats 4000000
namespace Mine
theorem ent_prep : entryFor table "type.__prepare__" = some Builtin.«type.__prepare__» := entryFor_of_tree (by kernel_rfl)
theorem pcall {prog : Program} {w : World} {A : Around} {s : Shared} {q b : Addr} {tk : Tok} {Q E : Value → Shared → Prop} (hq : s.heap.get? q = some pmO) (hQ : Q (.ref s.heap.objs.size) { s with heap := s.heap.push (dictO #[] 0) }) :
   wpAny (model prog w) A (call (.ref q) [.str "K" tk, .ref b]) Q E s := by
  refine wpAny_call (x_code ?_)
  refine s_load q none (by kernel_rfl) hq ?_
  refine wpAny_of_eq (a := .again (.builtin "type.__prepare__" ⟨[.type "type", .str "K" tk, .ref b], []⟩)) (by kernel_rfl) ?_
  refine ⟨by kernel_rfl, codeAny_builtin ent_prep ?_⟩
  rw [show Builtin.«type.__prepare__» ⟨[.type "type", .str "K" tk, .ref b], []⟩ = (alloc (dictO #[] 0) >>= fun a => pure (.done (.ret (.ref a)))) from by kernel_rfl]
  exact wpAny_bind (wpAny_alloc (wpAny_pure hQ))
theorem slot_tga : Slot "type" "__getattribute__" "type.__getattribute__" :=
  .of (owner := "type") (n := "__getattribute__") (by rw [typeLookup_type, builtinLookup_eq_fast]; kernel_rfl) (by decide +kernel) (by decide +kernel) (by decide +kernel)
    (by first | exact .inl (by decide +kernel) | exact .inr (by decide +kernel)) (by rw [isSubtype_type]; kernel_rfl)
theorem gi_dict : typeLookup (.type "dict") "__getitem__" = pure (some (.builtin "dict.__getitem__")) := by rw [typeLookup_type, builtinLookup_eq_fast]; kernel_rfl
/-- type.__prepare__ is got -/
theorem gprep {prog : Program} {w : World} {A : Around} {h : Heap} {d : Drawn} {t : Nat} {os : OsState} {g : Array GenState} {Q : Option Value → Shared → Prop} {E : Value → Shared → Prop} (hh : A.handled = none) (hdp : A.depth ≤ 990) (hun : A.units ≤ 8900)
   (hQ : ∀ q h' tk', h.StaysIn h' → h'.get? q = some pmO → Q (some (.ref q)) ⟨h', g, d, tk', os⟩) : wpAny (model prog w) A (getAttr? (.type "type") "__prepare__") Q E ⟨h, g, d, t, os⟩ := by
  unfold getAttr?
  refine wpAny_bind (wpAny_mkText ?_)
  unfold getAttrBy?
  refine wpAny_bind (wpAny_attempt ?_)
  unfold getAttrBy
  refine wpAny_holding ?_
  refine wpAny_bind (wpAny_of_eq (a := .type "type") (by kernel_rfl) ?_)
  refine wpAny_bind (wpAny_of_eq slot_tga.lookup ?_)
  refine wpAny_ite_false (by kernel_rfl) ?_
  unfold getAttrByItsOwn
  refine wpAny_bind (wpAny_pure ?_)
  refine wpAny_bind (wpAny_attempt (wpAny_holding ?_))
  refine wpAny_ite_false (by kernel_rfl) ?_
  unfold boundAndCalled
  refine wpAny_bind (wpAny_of_eq (a := (.builtin "type.__getattribute__", [.type "type"])) (by kernel_rfl) ?_)
  refine wpAny_mono (wide prep0 hh hdp (by omega)) ?_ fun _ _ z => z.elim
  rintro _ _ ⟨q, h', o, rfl, rfl, D, rfl⟩
  exact wpAny_pure (wpAny_pure (hQ _ _ _ (mem_stays D) (D.at 0 _ _ rfl)))
def cenv (cscope : Scope) (ns c fr cl : Addr) : Env :=
  { scope := cscope, locals := ns, globals := mainGlobals, qual := ("cmp_to_key.<locals>.K" : Str) ++ ".", code := .ref c, frame := some fr, builtins := 0, cells := [("mycmp", cl)] }
end Mine
end
/-! part BC3 -/
section
open PySem PySem.W PyProof.Rows PySem.W.X
set_option maxRecDepth 100000
set_option maxHeartbeats 4000000
namespace Mine
theorem al_st {M : Model} {A : Around} {E : Value → Shared → Prop} {h : Heap} {d : Drawn} {t : Nat} {os : OsState} {g : Array GenState} {o : Obj} {Q : Addr → Shared → Prop} (hf : o.isFreed = false)
   (hQ : ∀ a h', h'.get? a = some o → h.StaysIn h' → h.objs.size ≤ a → h.objs.size ≤ h'.objs.size → Q a ⟨h', g, d, t, os⟩) : wpAny M A (alloc o) Q E ⟨h, g, d, t, os⟩ :=
  wpAny_alloc (hQ _ _ (Heap.get?_push_size _ hf) (fun _ _ e => Heap.get?_push_of_some _ e) (Nat.le_refl _) (by rw [Heap.size_push]; exact Nat.le_succ _))
theorem load_own {M : Model} {A : Around} {E : Value → Shared → Prop} {s : Shared} {env : Env} {Q : Value → Shared → Prop} (hk : env.scope.kind = .class) (hb : env.blockKind = .class) (hn : env.kindOf "__name__" = none)
   (h : wpAny M A (localGet env "__name__") (fun r s' => r = none ∧ wpAny M A (loadGlobal env "__name__") Q E s') E s) : wpAny M A (loadName env "__name__") Q E s := by
  unfold loadName
  rw [hk]
  refine wpAny_ite_false (by kernel_rfl) ?_
  rw [hb, hn]
  refine wpAny_ite_false (by kernel_rfl) ?_
  refine wpAny_bind (wpAny_mono h ?_ fun _ _ e => e)
  rintro r s' ⟨rfl, h'⟩
  exact h'
/-- what stands in the heap of the class K that cmp_to_key made -/
structure KCls (w : World) (h0 h : Heap) (a : Addr) (pI : Arguments) (bI : List Stmt) (sI : Scope) (pL : Arguments) (bL : List Stmt) (sL : Scope) (cl : Addr) (pm : Value) : Prop where
  ex : ∃ (ns md b : Addr) (tk t1 t2 t3 : Tok) (v : KV) (l0 : DictEntry) (cI cL : Addr) (oI oL : Obj) (ctI ctL : Value), h.get? a = some (kO a ns b tk v.tq v.qn) ∧ h.get? ns = some (nm v [⟨hsh w "obj", .str "obj" t1, .ref md⟩, l0] 3) ∧ l0.key = .str "__doc__" t2 ∧ l0.val = .none ∧
    h.get? md = some ⟨.type "member_descriptor", none, .fields #[.str "obj" t3, .ref a, .builtin "proto.slot", .builtin "proto.slot#set", rawInt 0], #[]⟩ ∧
    h.get? v.fI = some (mO "__init__" "cmp_to_key.<locals>.K.__init__" pI bI sI [] ctI pm cI) ∧ h.get? cI = some oI ∧ recOf oI "cmp_to_key.<locals>.K.__init__" ∧
    h.get? v.fL = some (mO "__lt__" "cmp_to_key.<locals>.K.__lt__" pL bL sL [("mycmp", cl)] ctL pm cL) ∧ h.get? cL = some oL ∧ recOf oL "cmp_to_key.<locals>.K.__lt__" ∧ (∀ x, x ∈ [a, ns, md, v.fI, cI, v.fL, cL] → x = 23 ∨ h0.get? x = none)
abbrev kB (mo : Str) (x1 x2 x3 x4 x5 x6 x7 x8 x9 x10 : Pos) (pI pL pG pE pM pN : Arguments) (bI bL bG bE bM bN : List Stmt) (sI sL sG sE sM sN : Scope) (qI qL qG qE qM qN : Pos) (y1 y2 y3 : Nat) : List Stmt :=
  [.Assign [.Name "__module__" x1] (.Constant (.str mo) y1 x2) x3, .Assign [.Name "__slots__" x4] (.List [.Constant (.str "obj") y2 x5] x6) x7,
      .FunctionDef "__init__" pI bI [] none [] sI none "__init__" qI, .FunctionDef "__lt__" pL bL [] none [] sL none "__lt__" qL, .FunctionDef "__gt__" pG bG [] none [] sG none "__gt__" qG,
      .FunctionDef "__eq__" pE bE [] none [] sE none "__eq__" qE, .FunctionDef "__le__" pM bM [] none [] sM none "__le__" qM, .FunctionDef "__ge__" pN bN [] none [] sN none "__ge__" qN,
      .Assign [.Name "__hash__" x8] (.Constant .none y3 x9) x10]
theorem bclass {mo : Str} {x1 x2 x3 x4 x5 x6 x7 x8 x9 x10 : Pos} {pI pL pG pE pM pN : Arguments} {bI bL bG bE bM bN : List Stmt} {sI sL sG sE sM sN : Scope} {qI qL qG qE qM qN : Pos} {y1 y2 y3 : Nat} {prog : Program} {w : World} {A : Around} {h : Heap} {d : Drawn} {t : Nat} {os : OsState} {g : Array GenState} {env : Env} {cscope : Scope} {fl : Nat} {pos : Pos} {oG oS : Obj} {sl4 : Array (Option Value)} {nmS : Str} {tn : Tok} {cl : Addr} {Q E : Value → Shared → Prop}
   (hh : A.handled = none) (hdp : A.depth ≤ 900) (hun : A.units ≤ 8000) (hG : env.globals = mainGlobals) (hcode : env.code = .ref 27) (h3 : h.get? mainGlobals = some oG) (eB : nsLook "__builtins__" oG = pure (some (.ref 4))) (eN : nsLook "__name__" oG = pure (some (.str nmS tn)))
   (h4 : h.get? 4 = some ⟨.type "module", some 0, .plain, sl4⟩) (h2 : h.get? 2 = some oS) (e2 : nsLook "thirdparty.any" oS = pure none) (hlim : h.NoLimit) (hok : h.IsCode 27 23 #[]) (hTb : h.get? 23 = some (tableObj #[])) (h151 : ∃ o, h.get? 151 = some o)
   (hk : cscope.kind = .class) (k1 : cscope.names.lookup ("__class__" : Str) = none) (k2 : cscope.names.lookup ("__classdict__" : Str) = none) (hcl : closureFor cscope env = pure [(("mycmp" : Str), cl)]) (hann : hasAnns (kB mo x1 x2 x3 x4 x5 x6 x7 x8 x9 x10 pI pL pG pE pM pN bI bL bG bE bM bN sI sL sG sE sM sN qI qL qG qE qM qN y1 y2 y3) = false) (hdoc : docOf (kB mo x1 x2 x3 x4 x5 x6 x7 x8 x9 x10 pI pL pG pE pM pN bI bL bG bE bM bN sI sL sG sE sM sN qI qL qG qE qM qN y1 y2 y3) = none)
   (kc : ∀ ns c fr, (cenv cscope ns c fr cl).blockKind = .class) (kn : ∀ ns c fr, (cenv cscope ns c fr cl).kindOf "__qualname__" = none ∧ (cenv cscope ns c fr cl).kindOf "__firstlineno__" = none ∧ (cenv cscope ns c fr cl).kindOf "__static_attributes__" = none ∧ (cenv cscope ns c fr cl).kindOf "__name__" = none) (kM : ∀ ns c fr, (cenv cscope ns c fr cl).kindOf "__module__" = some .local)
   (kS : ∀ ns c fr, (cenv cscope ns c fr cl).kindOf "__slots__" = some .local) (kH : ∀ ns c fr, (cenv cscope ns c fr cl).kindOf "__hash__" = some .local)
   (MI : ∀ ns c fr, MOk (cenv cscope ns c fr cl) "__init__" "cmp_to_key.<locals>.K.__init__" pI bI sI qI []) (ML : ∀ ns c fr, MOk (cenv cscope ns c fr cl) "__lt__" "cmp_to_key.<locals>.K.__lt__" pL bL sL qL [("mycmp", cl)])
   (MG : ∀ ns c fr, MOk (cenv cscope ns c fr cl) "__gt__" "cmp_to_key.<locals>.K.__gt__" pG bG sG qG [("mycmp", cl)]) (ME : ∀ ns c fr, MOk (cenv cscope ns c fr cl) "__eq__" "cmp_to_key.<locals>.K.__eq__" pE bE sE qE [("mycmp", cl)])
   (MM : ∀ ns c fr, MOk (cenv cscope ns c fr cl) "__le__" "cmp_to_key.<locals>.K.__le__" pM bM sM qM [("mycmp", cl)]) (MN : ∀ ns c fr, MOk (cenv cscope ns c fr cl) "__ge__" "cmp_to_key.<locals>.K.__ge__" pN bN sN qN [("mycmp", cl)])
   (hd : qI.line < qL.line ∧ qL.line < qG.line ∧ qG.line < qE.line ∧ qE.line < qM.line ∧ qM.line < qN.line)
   (hs1 : ∀ ns c fr, swapsWith (.Constant (.str mo) y1 x2) (some (.Name "__module__" x1)) x3.line (cenv cscope ns c fr cl) = pure false) (hs2 : ∀ ns c fr, swapsWith (.List [.Constant (.str "obj") y2 x5] x6) (some (.Name "__slots__" x4)) x7.line (cenv cscope ns c fr cl) = pure false)
   (hs3 : ∀ ns c fr, swapsWith (.Constant .none y3 x9) (some (.Name "__hash__" x8)) x10.line (cenv cscope ns c fr cl) = pure false)
   (hQ : ∀ a h' tk', (∀ x o, x ≠ 23 → h.get? x = some o → h'.get? x = some o) → KCls w h h' a pI bI sI pL bL sL cl (.str nmS tn) → (∃ ps, h'.get? 23 = some (tableObj ps)) → Q (.ref a) ⟨h', g, d, tk', os⟩) :
   wpAny (model prog w) A (buildClass "K" "cmp_to_key.<locals>.K" [.type "object"] [] (kB mo x1 x2 x3 x4 x5 x6 x7 x8 x9 x10 pI pL pG pE pM pN bI bL bG bE bM bN sI sL sG sE sM sN qI qL qG qE qM qN y1 y2 y3) cscope ["obj"] fl env pos none) Q E ⟨h, g, d, t, os⟩ := by
  unfold buildClass
  refine wpAny_bind ?_
  rw [show newTuple [.type "object"] = (alloc ⟨.type "tuple", none, .seq #[.type "object"] 0, #[]⟩ >>= fun a => pure (.ref a)) from by kernel_rfl]
  refine wpAny_bind (al_st rfl fun b h1 hb K1 sb s1 => wpAny_pure ?_)
  refine wpAny_bind (wpAny_of_eq (a := ([.type "object"], false)) (by kernel_rfl) ?_)
  refine wpAny_bind (wpAny_of_eq ty_obj ?_)
  refine wpAny_bind (wpAny_of_eq (a := true) (by kernel_rfl) ?_)
  refine wpAny_ite_true rfl ?_
  refine wpAny_bind (wpAny_of_eq (a := .type "type") (by kernel_rfl) ?_)
  refine wpAny_bind (wpAny_mkText ?_)
  refine wpAny_ite_false rfl ?_
  refine wpAny_bind (wpAny_pure ?_)
  refine wpAny_holding ?_
  refine wpAny_bind (gprep hh (by omega) (by omega) fun q h2' tk2 K2 hq => ?_)
  refine wpAny_bind (pcall hq ?_)
  have hns := Heap.get?_push_size (o := dictO #[] 0) h2' rfl
  have K3 : h.StaysIn (h2'.push (dictO #[] 0)) := fun _ _ e => Heap.get?_push_of_some _ (K2 _ _ (K1 _ _ e))
  have lns : 151 < h2'.objs.size := let ⟨o, e⟩ := h151; Heap.lt_size (K2 _ _ (K1 _ _ e))
  have s3 : (h2'.push (dictO #[] 0)).objs.size = h2'.objs.size + 1 := Heap.size_push ..
  have hlt : ∀ x o, h.get? x = some o → x < h2'.objs.size := fun x o e => Heap.lt_size (K2 _ _ (K1 _ _ e))
  have bns : b < h2'.objs.size := Heap.lt_size (K2 _ _ hb)
  have b151 : 151 < b := Nat.lt_of_lt_of_le (let ⟨o, e⟩ := h151; Heap.lt_size e) sb
  have hb3 := Heap.get?_push_of_some (dictO #[] 0) (K2 _ _ hb)
  change wpAny _ _ _ _ _ ⟨h2'.push (dictO #[] 0), g, d, tk2, os⟩
  dsimp only
  generalize h2'.push (dictO #[] 0) = h3' at hns K3 s3 hb3 ⊢
  generalize h2'.objs.size = ns at hns lns s3 hlt bns ⊢
  refine wpAny_bind (wpAny_ite_false (decide_eq_false (by show ¬ ((ns == sysModules) = true); simp [sysModules]; omega)) (wpAny_pure ?_))
  refine wpAny_bind (wpAny_specialOf ⟨_, hns, rfl⟩ gi_dict ?_)
  refine wpAny_ite_false rfl ?_
  refine wpAny_holding ?_
  refine wpAny_ite_false (by rw [k1]; rfl) ?_
  refine wpAny_bind (wpAny_pure ?_)
  refine wpAny_ite_false (by rw [k2]; rfl) ?_
  refine wpAny_bind (wpAny_pure ?_)
  refine wpAny_bind (ccode hcode (hok.keeps K3) (K3 _ _ hTb) fun c P h4' tk4 hx sc sP hc ht hTb4 => ?_)
  have sc' : h3'.objs.size ≤ c := sc
  have sP' : h3'.objs.size ≤ P := sP
  rw [hG]
  have g3 := hx _ _ (by decide) (K3 _ _ h3)
  have g4 := hx _ _ (by decide) (K3 _ _ h4)
  refine wpAny_bind ?_
  unfold builtinsFor
  refine wpAny_bind (m_get g3 eB ?_)
  refine wpAny_ite_false (by kernel_rfl) ?_
  refine wpAny_bind (wpAny_load g4 ?_)
  refine wpAny_ite_true (by kernel_rfl) (wpAny_pure ?_)
  refine wpAny_bind ?_
  unfold newBodyFrame
  refine wpAny_bind (m_get g3 eN ?_)
  refine al_st rfl fun fr h5 hfr K5 sfr s5 => ?_
  refine wpAny_bind (wpAny_of_eq hcl ?_)
  refine wpAny_holding ?_
  refine wpAny_bind (wpAny_enterFrame ?_ (by show _ < 1000; omega) ?_)
  · obtain ⟨mc, n2, no⟩ := hlim
    exact ⟨mc, ((n2.keeps K3).extBut hx (by decide)).keeps K5, no⟩
  generalize hce : ({ scope := cscope, locals := ns, globals := mainGlobals, cells := (Option.map (fun x => (("__class__" : Str), x)) (none : Option Addr)).toList ++ (Option.map (fun x => (("__classdict__" : Str), x)) (none : Option Addr)).toList ++ [(("mycmp" : Str), cl)], qual := ("cmp_to_key.<locals>.K" : Str) ++ ".", code := .ref c, frame := some fr, builtins := 0 } : Env) = ce
  obtain rfl : cenv cscope ns c fr cl = ce := hce
  have ns3 : ns < h3'.objs.size := by rw [s3]; exact Nat.lt_succ_self _
  have n23 : ns ≠ 23 := Nat.ne_of_gt (Nat.lt_trans (by decide) lns)
  have nsP : ns ≠ P := Nat.ne_of_lt (Nat.lt_of_lt_of_le ns3 sP')
  have ncs : c ≠ ns := Nat.ne_of_gt (Nat.lt_of_lt_of_le ns3 sc')
  have big : ∀ k : Nat, k < 100 → k ≠ ns ∧ k ≠ P := fun k hk => ⟨Nat.ne_of_lt (Nat.lt_trans hk (Nat.lt_trans (by decide) lns)), Nat.ne_of_lt (Nat.lt_trans hk (Nat.lt_trans (by decide) (Nat.lt_trans lns (Nat.lt_of_lt_of_le ns3 sP'))))⟩
  have C0 : CB h5 h5 ns c P [] 0 #[] [] := ⟨fun _ _ _ _ e => e, K5 _ _ (hx _ _ n23 hns), hc.keeps K5, ht.keeps K5, nsP, ncs, fun _ hp => (nomatch hp)⟩
  refine wpAny_bind (wpAny_onRaise ?_)
  refine wpAny_bind (load_own hk (kc _ _ _) (kn _ _ _).2.2.2 ?_)
  unfold localGet
  refine wpAny_bind (wpAny_load C0.dict ?_)
  refine wpAny_ite_true rfl ?_
  refine m_get C0.dict (r := none) (by kernel_rfl) ⟨rfl, ?_⟩
  unfold loadGlobal
  refine wpAny_bind (m_get (K5 _ _ g3) eN (wpAny_pure ?_))
  refine wpAny_bind (cb_store (es' := [e1 w "__module__" tk4 (.str nmS tn)]) (ep' := 1) C0 rfl hk (.inl (kM _ _ _)) (by kernel_rfl) (by kernel_rfl) fun h6 C1 => ?_)
  refine wpAny_bind (wpAny_mkText ?_)
  refine wpAny_bind (cb_store (es' := [e1 w "__module__" tk4 (.str nmS tn), e1 w "__qualname__" (tk4 + 1 + 1) (.str "cmp_to_key.<locals>.K" (tk4 + 1))]) (ep' := 2) C1 rfl hk (.inr ⟨(kn _ _ _).1, (by rw [kc]; intro z; cases z), by kernel_rfl⟩) (by kernel_rfl) (by kernel_rfl) fun h7 C2 => ?_)
  refine wpAny_bind (wpAny_mkInt ?_)
  refine wpAny_bind (cb_store (es' := [e1 w "__module__" tk4 (.str nmS tn), e1 w "__qualname__" (tk4 + 1 + 1) (.str "cmp_to_key.<locals>.K" (tk4 + 1)), e1 w "__firstlineno__" (tk4 + 1 + 1 + 1 + 1) (.int fl (tk4 + 1 + 1 + 1))]) (ep' := 3) C2 rfl hk (.inr ⟨(kn _ _ _).2.1, (by rw [kc]; intro z; cases z), by kernel_rfl⟩) (by kernel_rfl) (by kernel_rfl) fun h8 C3 => ?_)
  refine wpAny_pure ?_
  refine wpAny_bind (wpAny_run (codeAny_body hann hdoc ?_))
  refine cbody C3 rfl hk rfl rfl (K5 _ _ g3) eB eN (K5 _ _ g4) ⟨(big 3 (by decide)).2, (big 3 (by decide)).1⟩ ⟨(big 4 (by decide)).2, (big 4 (by decide)).1⟩ (kM _ _ _) (kS _ _ _) (kH _ _ _) (MI _ _ _) (ML _ _ _) (MG _ _ _) (ME _ _ _) (MM _ _ _) (MN _ _ _) hd (hs1 _ _ _) (hs2 _ _ _) (hs3 _ _ _) ?_
  intro tm to k sl fI fL fG fE fM fN cI cL oI oL ctI ctL ps' ep' fs' h9 tk9 C9 hsl hfI hcI rI hfL hcL rL hfn
  show wpAny _ _ _ _ _ ⟨h9, g, d, tk9, os⟩
  refine wpAny_bind (wpAny_onRaise ?_)
  rw [show List.mapM mkText [("obj" : Str)] = (mkText "obj" >>= fun v => pure [v]) from by kernel_rfl]
  refine wpAny_bind (wpAny_bind (wpAny_mkText (wpAny_pure ?_)))
  refine wpAny_bind (wpAny_newTextTuple ?_)
  have C10 := C9.push { cls := .type "tuple", data := .seq [Value.str "obj" tk9].toArray } rfl
  refine wpAny_bind (cb_store (es' := [e1 w "__module__" tk4 (.str mo tm), e1 w "__qualname__" (tk4 + 1 + 1) (.str "cmp_to_key.<locals>.K" (tk4 + 1)), e1 w "__firstlineno__" (tk4 + 1 + 1 + 1 + 1) (.int fl (tk4 + 1 + 1 + 1)), e1 w "__slots__" (k 3) (.ref sl), e1 w "__init__" (k 4) (.ref fI), e1 w "__lt__" (k 5) (.ref fL),
        e1 w "__gt__" (k 6) (.ref fG), e1 w "__eq__" (k 7) (.ref fE), e1 w "__le__" (k 8) (.ref fM), e1 w "__ge__" (k 9) (.ref fN), e1 w "__hash__" (k 10) .none, e1 w "__static_attributes__" (tk9 + 1) (.ref h9.objs.size)]) (ep' := ep' + 1) C10 rfl hk (.inr ⟨(kn _ _ _).2.2.1, (by rw [kc]; intro z; cases z), by kernel_rfl⟩) (by kernel_rfl) (by kernel_rfl) fun h11 C11 => ?_)
  refine wpAny_pure ?_
  refine wpAny_ite_false rfl ?_
  have KK : ∀ x o, x ≠ 23 → h.get? x = some o → h11.get? x = some o := fun x o n e =>
    C11.keep x o (Nat.ne_of_lt (Nat.lt_trans (hlt x o e) (Nat.lt_of_lt_of_le ns3 sP'))) (Nat.ne_of_lt (hlt x o e)) (K5 _ _ (hx _ _ n (K3 _ _ e)))
  have b23 : b ≠ 23 := Nat.ne_of_gt (Nat.lt_trans (by decide) b151)
  have hb11 := C11.keep b _ (Nat.ne_of_lt (Nat.lt_trans bns (Nat.lt_of_lt_of_le ns3 sP'))) (Nat.ne_of_lt bns) (K5 _ _ (hx _ _ b23 hb3))
  let v : KV := ⟨fun i => [hsh w "__module__", hsh w "__qualname__", hsh w "__firstlineno__", hsh w "__slots__", hsh w "__init__", hsh w "__lt__", hsh w "__gt__", hsh w "__eq__", hsh w "__le__", hsh w "__ge__", hsh w "__hash__", hsh w "__static_attributes__"].getD i 0,
    fun i => [tk4, tk4 + 1 + 1, tk4 + 1 + 1 + 1 + 1, k 3, k 4, k 5, k 6, k 7, k 8, k 9, k 10, tk9 + 1].getD i 0, mo, tm, "cmp_to_key.<locals>.K", tk4 + 1, fl, tk4 + 1 + 1 + 1, sl, fI, fL, fG, fE, fM, fN, h9.objs.size⟩
  refine wpAny_bind (tcall v hb11 C11.dict (Nat.ne_of_gt (Nat.lt_trans (by decide) lns)) (C11.fs _ (.tail _ hsl)).1 (KK _ _ (by decide) h2) e2 hh (by omega) (by omega)
    (fun f hf => let ⟨o, ho, hc⟩ := hfn f hf; ⟨o, (C11.fs _ (.tail _ ho)).1, hc⟩) ⟨_, (C11.fs _ (.head _)).1, rfl⟩ rfl fun a nsA md h' tk' l0 K FR ha hnsA hlk hlv hmd => ?_)
  have f1 : ∀ x, h11.get? x = none → x = 23 ∨ h.get? x = none := fun x z => by
    by_cases q : x = 23
    · exact .inl q
    · cases e : h.get? x with
      | none => exact .inr rfl
      | some o => rw [KK x o q e] at z; cases z
  have f2 : ∀ x, h5.get? x = none → x = 23 ∨ h.get? x = none := fun x z => by
    by_cases q : x = 23
    · exact .inl q
    · cases e : h.get? x with
      | none => exact .inr rfl
      | some o => rw [K5 _ _ (hx _ _ q (K3 _ _ e))] at z; cases z
  refine wpAny_pure (hQ a h' tk' (fun x o n e => K _ _ (KK x o n e)) ⟨⟨nsA, md, b, t, _, _, _, v, l0, cI, cL, oI, oL, ctI, ctL, ha, hnsA, hlk, hlv, hmd, K _ _ (C11.fs _ (.tail _ hfI)).1, K _ _ (C11.fs _ (.tail _ hcI)).1, rI, K _ _ (C11.fs _ (.tail _ hfL)).1, K _ _ (C11.fs _ (.tail _ hcL)).1, rL, fun x hx' => by
    simp only [List.mem_cons, List.not_mem_nil, or_false] at hx'
    rcases hx' with rfl | rfl | rfl | rfl | rfl | rfl | rfl
    · exact f1 _ FR.1
    · exact f1 _ FR.2.1
    · exact f1 _ FR.2.2
    · exact f2 _ (C11.fs _ (.tail _ hfI)).2.2.2
    · exact f2 _ (C11.fs _ (.tail _ hcI)).2.2.2
    · exact f2 _ (C11.fs _ (.tail _ hfL)).2.2.2
    · exact f2 _ (C11.fs _ (.tail _ hcL)).2.2.2⟩⟩ (let ⟨ps, e⟩ := hTb4; ⟨ps, K _ _ (C11.keep 23 _ (big 23 (by decide)).2 (big 23 (by decide)).1 (K5 _ _ e))⟩))
end Mine
end
/-! part CK -/
section
open PySem PySem.W PyProof.Rows PyProof.Rows.LSm PySem.W.X
set_option maxRecDepth 100000
set_option maxHeartbeats 4000000
namespace Mine
theorem fill6 (P : Params) (h : Heap) : (Mine.hd.heap_1 P).In h → PySem.Challenge.rw_ny0142_01.Holds → True := by
  k_fill
  intro _ _; trivial
/-- a def of that name in a block -/
def defIn (n : Str) (b : List Stmt) : Option (Arguments × List Stmt × Scope) := b.findSome? fun st => match st with
  | .FunctionDef m args body _ _ _ scope _ _ _ => if m == n then some (args, body, scope) else none
  | _ => none
def clsIn1 (b : List Stmt) : List Stmt := (b.findSome? fun st => match st with
  | .ClassDef _ _ _ body .. => some body
  | _ => none).getD []
/-- a method of the class that cmp_to_key makes -/
def kMeth (n : Str) : Option (Arguments × List Stmt × Scope) := ((defIn "cmp_to_key" PR.main.body).map fun x => clsIn1 x.2.1).bind (defIn n)
def InitShape (p : Arguments) (b : List Stmt) (s : Scope) : Prop := ∃ q1 q2 p1 p2 p3 p4, p = { posonlyargs := [], args := [⟨"self", none, q1⟩, ⟨"obj", none, q2⟩], vararg := none, kwonlyargs := [], kw_defaults := [], kwarg := none, defaults := [] } ∧
   b = [.Assign [.Attribute (.Name "self" p1) "obj" p2] (.Name "obj" p3) p4] ∧ s = { kind := .function, names := [("self", .local), ("obj", .local)], isGenerator := false, isCoroutine := false }
def LtShape (p : Arguments) (b : List Stmt) (s : Scope) : Prop := ∃ q1 q2 p1 p2 p3 p4 p5 p6 p7 p8 p9 y, p = { posonlyargs := [], args := [⟨"self", none, q1⟩, ⟨"other", none, q2⟩], vararg := none, kwonlyargs := [], kw_defaults := [], kwarg := none, defaults := [] } ∧
   b = [.Return (some (.Compare (.Call (.Name "mycmp" p1) [.Attribute (.Name "self" p2) "obj" p3, .Attribute (.Name "other" p4) "obj" p5] [] p6) [.Lt] [.Constant (.int 0) y p7] p8)) p9] ∧ s = { kind := .function, names := [("self", .local), ("other", .local), ("mycmp", .free)], isGenerator := false, isCoroutine := false }
theorem cmpkey {w : World} {A : Around} {s : Shared} (C : Cx w s.heap) (r : Rm A 10 100) (hdp : A.depth ≤ 800) (hun : A.units ≤ 7000) {q : Addr} (h23 : s.heap.get? 23 = some (tableObj #[])) {Q E : Value → Shared → Prop} 
   (hQ : ∀ a cl h' tk' pI bI sI pL bL sL, (∀ x o, x ≠ 23 → s.heap.get? x = some o → h'.get? x = some o) → InitShape pI bI sI → LtShape pL bL sL → KCls w s.heap h' a pI bI sI pL bL sL cl (.str "law_ny0142_01" 315) →
      (∃ oc, h'.get? cl = some oc ∧ oc.data = .cell (some (.ref q))) → s.heap.get? cl = none → (∃ ps, h'.get? 23 = some (tableObj ps)) → Q (.ref a) { s with heap := h', toks := tk' }) :
   wpAny (model PR w) A (call (.ref 28) [.ref q]) Q E s := by
  obtain ⟨X, loose, mean, mg, mb, T⟩ := C
  obtain ⟨hd, dp, fr, gd, un⟩ := A
  obtain rfl : hd = none := r.handled
  refine enterC (binds := [("mycmp", .ref q)]) X T (by k_is) (by k_is) r.room (BindsTo.of_eq rfl) rfl (by decide) ?_ rfl rfl rfl
  intro h₁ L tk cells F N CA
  refine wpAny_bind ?_
  rw [arm_exec_ClassDef]
  refine wpAny_bind (wpAny_pure ?_)
  refine wpAny_bind (wpAny_standAt ?_)
  refine wpAny_bind ?_
  unfold buildClassGuard
  have T1 := T.keeps F.keep
  refine wpAny_bind (wpAny_nsGet T1.b ?_)
  rw [T1.builtins _ (by decide)]
  rw [show bootBuiltins "__build_class__" = some (.builtin "__build_class__") from by kernel_rfl]
  refine wpAny_pure ?_
  refine wpAny_bind (wpAny_holding ?_)
  refine wpAny_bind ?_
  unfold evalArgs
  refine wpAny_bind (spliced_more (Calls.Name_function_global rfl rfl (Calls.loadGlobal_builtin T1.g (mg_none_of X T.g (by k_is)) T1.b ((T1.builtins _ (by decide)).trans (by boot_fast)) (spliced_none ?_)) (by decide)))
  refine wpAny_bind (wpAny_pure ?_)
  refine wpAny_holding ?_
  refine wpAny_ite_true rfl ?_
  refine wpAny_bind (wpAny_pure (wpAny_bind (wpAny_pure (wpAny_pure ?_))))
  refine wpAny_bind (wpAny_standAt ?_)
  refine wpAny_holding ?_
  have X1 : (Mine.hd.heap_1 w.params).In h₁ := X.keeps F.keep
  obtain ⟨bm, ob, hbm, hne, hob, hcls, hdict, hdata⟩ := T1.bmain
  obtain rfl : bm = 4 := by
    have z : mg "__builtins__" = some (.ref 4) := mg_of X T.g (by k_is)
    rw [hbm] at z; cases z; rfl
  obtain ⟨oc, od, odt, osl⟩ := ob
  obtain rfl : oc = .type "module" := hcls
  obtain rfl : od = some builtinsNs := hdict
  obtain rfl : odt = .plain := hdata
  have h27 : h₁.get? 27 = some _ := X1 27 _ (by k_is)
  have h3 : h₁.get? 3 = some _ := X1 3 _ (by k_is)
  have h2 : h₁.get? 2 = some _ := X1 2 _ (by k_is)
  have h23' := F.keep _ _ h23
  rw [show qualnameIn (envOfC "cmp_to_key" _ L 28 (.ref 27)) "K" "K" = "cmp_to_key.<locals>.K" from by kernel_rfl]
  refine bclass (nmS := "law_ny0142_01") (tn := 315) (cl := L + 1) rfl (by show dp + 1 ≤ 900; have : dp ≤ 800 := hdp; omega) (by show un + _ ≤ 8000; have : un ≤ 7000 := hun; omega) rfl rfl h3 (by kernel_rfl) (by kernel_rfl) hob h2 (by kernel_rfl) T1.nolimit ?_ h23' ⟨_, X1 151 _ (by k_is)⟩ rfl rfl rfl (by kernel_rfl) rfl rfl (fun _ _ _ => rfl) (fun _ _ _ => ⟨rfl, rfl, rfl, rfl⟩) (fun _ _ _ => rfl) (fun _ _ _ => rfl) (fun _ _ _ => rfl)
    (fun _ _ _ => ⟨fun _ => rfl, by kernel_rfl, rfl, rfl, by kernel_rfl, by first | exact Nat.zero_le _ | exact Nat.le_refl _, rfl⟩) (fun _ _ _ => ⟨fun _ => rfl, by kernel_rfl, rfl, rfl, by kernel_rfl, by first | exact Nat.zero_le _ | exact Nat.le_refl _, rfl⟩) (fun _ _ _ => ⟨fun _ => rfl, by kernel_rfl, rfl, rfl, by kernel_rfl, by first | exact Nat.zero_le _ | exact Nat.le_refl _, rfl⟩)
    (fun _ _ _ => ⟨fun _ => rfl, by kernel_rfl, rfl, rfl, by kernel_rfl, by first | exact Nat.zero_le _ | exact Nat.le_refl _, rfl⟩) (fun _ _ _ => ⟨fun _ => rfl, by kernel_rfl, rfl, rfl, by kernel_rfl, by first | exact Nat.zero_le _ | exact Nat.le_refl _, rfl⟩) (fun _ _ _ => ⟨fun _ => rfl, by kernel_rfl, rfl, rfl, by kernel_rfl, by first | exact Nat.zero_le _ | exact Nat.le_refl _, rfl⟩)
    (by decide) (fun _ _ _ => rfl) (fun _ _ _ => rfl) (fun _ _ _ => rfl) ?_
  · exact ⟨_, _, _, _, _, _, _, _, _, _, h27, rfl, rfl, rfl, rfl, rfl, rfl, h23', rfl, trivial, by decide⟩
  intro a h' tk' KK KC hT9
  refine wpAny_bind (wpAny_pure ?_)
  refine wpAny_bind (wpAny_standAt ?_)
  have nL : L ≠ 23 := Nat.ne_of_gt (Nat.lt_of_lt_of_le (Heap.lt_size h23) F.above)
  refine wpAny_bind (wpAny_bindName (wpAny_storeName_local rfl (F.ns.extBut KK nL) fun h'' hn'' hs'' => ?_))
  refine wpAny_pure ?_
  refine wpAny_execs_cons (wpAny_Return_some ?_)
  refine wpAny_Name (wpAny_loadName_local rfl rfl hn'' rfl ?_) (by decide)
  have hL1 : ∃ o, h₁.get? L = some o := let ⟨o, _, _, e, _⟩ := F.ns; ⟨o, e⟩
  obtain ⟨oc, rfl, hoc⟩ := CA.one
  have hcl := N (L + 1, oc) (.head _)
  have K'' : ∀ x o, x ≠ 23 → s.heap.get? x = some o → h''.get? x = some o := fun x o n e =>
    (hs''.2 x (Nat.ne_of_lt (Nat.lt_of_lt_of_le (Heap.lt_size e) F.above))).trans (KK x o n (F.keep x o e))
  obtain ⟨ns, md, b, tk0, t1, t2, t3, v, l0, cI, cL, oI, oL, ctI, ctL, e1, e2, e3, e4, e5, e6, e7, e8, e9, e10, e11, fr'⟩ := KC.ex
  have ne : ∀ x, x ∈ [a, ns, md, v.fI, cI, v.fL, cL] → x ≠ L := fun x hx z => by
    subst z
    obtain ⟨o, ho⟩ := hL1
    rcases fr' _ hx with q | q
    · exact nL q
    · rw [ho] at q; cases q
  have up : ∀ x o, x ∈ [a, ns, md, v.fI, cI, v.fL, cL] → h'.get? x = some o → h''.get? x = some o := fun x o hx e => (hs''.2 x (ne x hx)).trans e
  refine hQ a (L + 1) h'' _ _ _ _ _ _ _ K'' ⟨_, _, _, _, _, _, rfl, rfl, rfl⟩ ⟨_, _, _, _, _, _, _, _, _, _, _, _, rfl, rfl, rfl⟩ ⟨⟨ns, md, b, tk0, t1, t2, t3, v, l0, cI, cL, oI, oL, ctI, ctL, up _ _ (by simp) e1, up _ _ (by simp) e2, e3, e4, up _ _ (by simp) e5, up _ _ (by simp) e6, up _ _ (by simp) e7, e8, up _ _ (by simp) e9, up _ _ (by simp) e10, e11, fun x hx => (fr' x hx).imp id (none_of F.keep)⟩⟩ ⟨oc, ?_, hoc⟩ ?_ ?_
  · exact (hs''.2 _ (Nat.ne_of_gt (Nat.lt_succ_self _))).trans (KK _ _ (Nat.ne_of_gt (Nat.lt_of_lt_of_le (Heap.lt_size h23) (Nat.le_trans F.above (Nat.le_succ _)))) hcl.1)
  · exact hcl.2.2
  · exact let ⟨ps, e⟩ := hT9; ⟨ps, (hs''.2 23 (Ne.symm nL)).trans e⟩
end Mine
end
/-! part S2 -/
section
open PySem PySem.W PyProof.Rows PySem.W.X
set_option maxRecDepth 100000
set_option maxHeartbeats 4000000
namespace Mine
def updK {α : Type} : Sem α → Sem α
  | .update _ _ _ k => k ()
  | t => t
def updF {α : Type} : Sem α → Obj → Obj
  | .update _ _ f _ => f
  | _ => id
theorem s_upd {α : Type} {prog : Program} {w : World} {A : Around} {h₀ h : Heap} {d : Drawn} {tk : Nat} {os : OsState} {g : Array GenState} {chg news : List (Addr × Obj)} {E : Value → Shared → Prop} {Q : α → Shared → Prop} {t : Sem α}
   (D : Mem h₀ h chg news) (i : Nat) (a : Addr) (p : Option Value) {o : Obj} (o' : Obj) (e : t = .update a p (updF t) fun _ => updK t) (hi : news[i]? = some (a, o)) (he : updF t o = o') (hf : o'.isFreed = false)
   (hQ : ∀ h', Mem h₀ h' chg (news.set i (a, o')) → wpAny (model prog w) A (updK t) Q E ⟨h', g, d, tk, os⟩) : wpAny (model prog w) A t Q E ⟨h, g, d, tk, os⟩ := by
  rw [e]; exact wpAny_bind (m := updatePart a p (updF t)) (f := fun _ => updK t) (m_upd D i hi he hf hQ)
theorem ent_onew : entryFor table "object.__new__" = some Builtin.«object.__new__» := entryFor_of_tree (by kernel_rfl)
/-- a new object of the class K -/
theorem onew {prog : Program} {w : World} {A : Around} {h : Heap} {d : Drawn} {t : Nat} {os : OsState} {g : Array GenState} {a ns b md : Addr} {tk tq t1 : Tok} {qn : Str} {v : KV} {l0 : DictEntry} {x : Value} {Q : Fin → Shared → Prop} {E : Value → Shared → Prop}
   (ha : h.get? a = some (kO a ns b tk tq qn)) (hn : h.get? ns = some (nm v [⟨hsh w "obj", .str "obj" t1, .ref md⟩, l0] 3))
   (hQ : ∀ dx y h', Mem h h' [] [(y, ⟨.ref a, some dx, .plain, #[]⟩), (dx, dictO #[] 0)] → Q (.done (.ret (.ref y))) ⟨h', g, d, t, os⟩) :
   wpAny (model prog w) A (Builtin.«object.__new__» ⟨[.ref a, x], []⟩) Q E ⟨h, g, d, t, os⟩ := by
  refine s_load a (some headPart) (by kernel_rfl) ha ?_
  refine s_load a none (by kernel_rfl) ha ?_
  refine s_load a none (by kernel_rfl) ha ?_
  refine s_load a (some (slotPart 4)) (by kernel_rfl) ha ?_
  refine s_load a none (by kernel_rfl) ha ?_
  refine s_load a (some (slotPart 4)) (by kernel_rfl) ha ?_
  refine s_load a none (by kernel_rfl) ha ?_
  refine s_load a (some (slotPart 4)) (by kernel_rfl) ha ?_
  refine s_load a none (by kernel_rfl) ha ?_
  refine s_load a none (by kernel_rfl) ha ?_
  refine s_load ns (some (.str "__init__" 0)) (by kernel_rfl) hn ?_
  refine s_load a none (by kernel_rfl) ha ?_
  refine s_alloc (Mem.start h) (dictO #[] 0) (by kernel_rfl) rfl fun dx h1 D1 => ?_
  refine s_alloc D1 ⟨.ref a, some dx, .plain, #[]⟩ (by kernel_rfl) rfl fun y h2 D2 => ?_
  refine s_load a none (by kernel_rfl) (mem_stays D2 _ _ ha) ?_
  refine wpAny_of_eq (a := .done (.ret (.ref y))) (by kernel_rfl) ?_
  exact hQ _ _ _ D2
end Mine
end
/-! part S2b -/
section
open PySem PySem.W PyProof.Rows PySem.W.X
set_option maxRecDepth 100000
set_option maxHeartbeats 4000000
namespace Mine
/-- type.__call__ over the class K: makes an object and hands it to __init__ -/
theorem tcallK {prog : Program} {w : World} {A : Around} {h : Heap} {d : Drawn} {t : Nat} {os : OsState} {g : Array GenState} {a ns b md : Addr} {tk tq t1 : Tok} {qn : Str} {v : KV} {l0 : DictEntry} {x : Value} {oF : Obj} {Q : Fin → Shared → Prop} {E : Value → Shared → Prop}
   (ha : h.get? a = some (kO a ns b tk tq qn)) (hn : h.get? ns = some (nm v [⟨hsh w "obj", .str "obj" t1, .ref md⟩, l0] 3)) (hF : h.get? v.fI = some oF) (hFc : oF.cls = .type "function")
   (hQ : ∀ dx y h', Mem h h' [] [(y, ⟨.ref a, some dx, .plain, #[]⟩), (dx, dictO #[] 0)] → wpAny (model prog w) A (call (.ref v.fI) [.ref y, x]) (fun r s' => r = .none ∧ Q (.done (.ret (.ref y))) s') E ⟨h', g, d, t, os⟩) :
   wpAny (model prog w) A (Builtin.«type.__call__» ⟨[.ref a, x], []⟩) Q E ⟨h, g, d, t, os⟩ := by
  unfold Builtin.«type.__call__»
  refine wpAny_ite_false (by kernel_rfl) ?_
  refine wpAny_bind (wpAny_bind (wpAny_bind (wpAny_load ha (wpAny_pure (wpAny_pure ?_)))))
  refine wpAny_ite_false rfl ?_
  refine wpAny_bind ?_
  refine s_load a none (by kernel_rfl) ha ?_
  refine s_load a (some (slotPart 4)) (by kernel_rfl) ha ?_
  refine wpAny_of_eq (a := some "object.__new__") (by kernel_rfl) ?_
  refine wpAny_bind (wpAny_pure ?_)
  refine wpAny_bind (wpAny_holding ?_)
  refine wpAny_call (x_code ?_)
  refine s_load a (some headPart) (by kernel_rfl) ha ?_
  refine s_load a none (by kernel_rfl) ha ?_
  refine s_load a none (by kernel_rfl) ha ?_
  refine s_load a none (by kernel_rfl) ha ?_
  refine s_load a (some (slotPart 4)) (by kernel_rfl) ha ?_
  refine s_load a none (by kernel_rfl) ha ?_
  refine s_load a (some (slotPart 4)) (by kernel_rfl) ha ?_
  refine wpAny_of_eq (a := .again (.builtin "object.__new__" ⟨[.ref a, x], []⟩)) (by kernel_rfl) ?_
  refine ⟨by kernel_rfl, codeAny_builtin ent_onew ?_⟩
  refine onew ha hn fun dx y h' D => ?_
  show wpAny _ _ _ _ _ _
  have S := mem_stays D
  have hy := D.at 0 _ _ rfl
  refine wpAny_bind (wpAny_bind (wpAny_bind (wpAny_load hy (wpAny_pure ?_))))
  have ha' := S _ _ ha
  have hn' := S _ _ hn
  unfold isSubtype
  refine wpAny_bind (wpAny_bind (wpAny_bind (wpAny_load ha' (wpAny_pure (wpAny_pure ?_)))))
  refine wpAny_ite_false rfl (wpAny_pure ?_)
  rw [show (List.contains [Value.ref a, Value.type "object"] (Value.ref a)) = true from by simp]
  refine wpAny_ite_false rfl ?_
  refine wpAny_bind (wpAny_holding ?_)
  unfold callSpecial? specialOf
  refine wpAny_bind (wpAny_bind (wpAny_bind (wpAny_load hy (wpAny_pure ?_))))
  refine s_load a none (by kernel_rfl) ha' ?_
  refine s_load a none (by kernel_rfl) ha' ?_
  refine s_load ns (some (.str "__init__" 0)) (by kernel_rfl) hn' ?_
  refine wpAny_of_eq (a := some (.ref v.fI)) (by kernel_rfl) ?_
  refine wpAny_holding (wpAny_bind ?_)
  unfold bindSpecial
  refine wpAny_bind (wpAny_typeOf (T := "function") ⟨_, S _ _ hF, hFc⟩ ?_)
  refine wpAny_ite_true (by kernel_rfl) (wpAny_pure ?_)
  refine wpAny_bind (wpAny_mono (hQ dx y h' D) ?_ fun _ _ e => e)
  rintro r s' ⟨rfl, hq⟩
  refine wpAny_pure ?_
  exact wpAny_ite_false rfl (wpAny_pure hq)
end Mine
end
/-! part S2c -/
section
open PySem PySem.W PyProof.Rows PySem.W.X
set_option maxRecDepth 100000
set_option maxHeartbeats 4000000
namespace Mine
/-- K(x): makes an object and hands it to __init__ -/
theorem callK {prog : Program} {w : World} {A : Around} {h : Heap} {d : Drawn} {t : Nat} {os : OsState} {g : Array GenState} {a ns b md : Addr} {tk tq t1 : Tok} {qn : Str} {v : KV} {l0 : DictEntry} {x : Value} {oF : Obj} {Q E : Value → Shared → Prop}
   (ha : h.get? a = some (kO a ns b tk tq qn)) (hn : h.get? ns = some (nm v [⟨hsh w "obj", .str "obj" t1, .ref md⟩, l0] 3)) (hF : h.get? v.fI = some oF) (hFc : oF.cls = .type "function")
   (hQ : ∀ dx y h', Mem h h' [] [(y, ⟨.ref a, some dx, .plain, #[]⟩), (dx, dictO #[] 0)] →
      wpAny (model prog w) (A.under (.builtin "type.__call__" ⟨[.ref a, x], []⟩)) (call (.ref v.fI) [.ref y, x]) (fun r s' => r = .none ∧ Q (.ref y) s') E ⟨h', g, d, t, os⟩) :
   wpAny (model prog w) A (call (.ref a) [x]) Q E ⟨h, g, d, t, os⟩ := by
  refine wpAny_call (x_code ?_)
  refine s_load a none (by kernel_rfl) ha ?_
  refine s_load a (some headPart) (by kernel_rfl) ha ?_
  refine wpAny_of_eq (a := .again (.call (.builtin "type.__call__") ⟨[.ref a, x], []⟩)) (by kernel_rfl) ?_
  refine ⟨by kernel_rfl, x_code ?_⟩
  refine s_load a (some headPart) (by kernel_rfl) ha ?_
  refine wpAny_of_eq (a := .again (.builtin "type.__call__" ⟨[.ref a, x], []⟩)) (by kernel_rfl) ?_
  refine ⟨by kernel_rfl, codeAny_builtin ent_tcall ?_⟩
  exact tcallK ha hn hF hFc fun dx y h' D => hQ dx y h' D
theorem ent_osa : entryFor table "object.__setattr__" = some Builtin.«object.__setattr__» := entryFor_of_tree (by kernel_rfl)
theorem ent_mset : entryFor table "member_descriptor.__set__" = some Builtin.«member_descriptor.__set__» := entryFor_of_tree (by kernel_rfl)
theorem ent_pset : entryFor table "proto.slot#set" = some Builtin.«proto.slot#set» := entryFor_of_tree (by kernel_rfl)
end Mine
end
/-! part S2d -/
section
open PySem PySem.W PyProof.Rows PySem.W.X
set_option maxRecDepth 100000
set_option maxHeartbeats 4000000
namespace Mine
def clG {α : Type} : Sem α → Bool
  | .call _ _ g _ _ => g
  | _ => false
def clL {α : Type} : Sem α → List Value
  | .call _ _ _ l _ => l
  | _ => []
def clK {α : Type} : Sem α → Result → Sem α
  | .call _ _ _ _ k, r => k r
  | t, _ => t
theorem s_call {α : Type} {prog : Program} {w : World} {A : Around} {s : Shared} {E : Value → Shared → Prop} {Q : α → Shared → Prop} {t : Sem α} (c : Code) (e : t = .call c none (clG t) (clL t) (clK t))
   (h : codeAny (model prog w) (A.mark none) c (fun r s' => wpAny (model prog w) A (clK t r) Q E s') s) : wpAny (model prog w) A t Q E s := by
  rw [e]; exact x_call h (by intro z; cases z)
theorem dchk {prog : Program} {w : World} {A : Around} {s : Shared} {a ns b md y dx : Addr} {tk tq t3 : Tok} {qn : Str} {sl : Array (Option Value)} {Q : Unit → Shared → Prop} {E : Value → Shared → Prop}
   (hy : s.heap.get? y = some ⟨.ref a, some dx, .plain, sl⟩) (ha : s.heap.get? a = some (kO a ns b tk tq qn))
   (hm : s.heap.get? md = some ⟨.type "member_descriptor", none, .fields #[.str "obj" t3, .ref a, .builtin "proto.slot", .builtin "proto.slot#set", rawInt 0], #[]⟩) (hQ : Q () s) :
   wpAny (model prog w) A (Builtin.Getset_descriptor.descrCheckInstance (.ref md) (.ref y)) Q E s := by
  unfold Builtin.Getset_descriptor.descrCheckInstance Builtin.Getset_descriptor.descrNameAndClass
  refine wpAny_bind ?_
  refine wpAny_bind (wpAny_bind (wpAny_bind (wpAny_load hm (wpAny_pure (wpAny_pure ?_)))))
  refine wpAny_bind (wpAny_bind (wpAny_bind (wpAny_load hm (wpAny_pure (wpAny_pure ?_)))))
  refine wpAny_pure ?_
  refine wpAny_bind (wpAny_bind (wpAny_bind (wpAny_load hy (wpAny_pure ?_))))
  unfold isSubtype
  refine wpAny_bind (wpAny_bind (wpAny_bind (wpAny_load ha (wpAny_pure (wpAny_pure ?_)))))
  refine wpAny_ite_false rfl (wpAny_pure ?_)
  refine wpAny_ite_false (by
    show decide ((!List.contains [Value.ref a, Value.type "object"] (Value.ref a)) = true) = false
    simp) (wpAny_pure hQ)
/-- the slot obj of an object of the class K is set -/
theorem setObj {prog : Program} {w : World} {A : Around} {h₀ h : Heap} {d : Drawn} {t : Nat} {os : OsState} {g : Array GenState} {a ns b md y dx : Addr} {tk tq t1 t2 t3 : Tok} {qn : Str} {v : KV} {l0 : DictEntry} {x : Value} {news : List (Addr × Obj)} {Q : Unit → Shared → Prop} {E : Value → Shared → Prop}
   (D : Mem h₀ h [] news) (i : Nat) (hi : news[i]? = some (y, ⟨.ref a, some dx, .plain, #[]⟩)) (ha : h.get? a = some (kO a ns b tk tq qn)) (hn : h.get? ns = some (nm v [⟨hsh w "obj", .str "obj" t1, .ref md⟩, l0] 3)) (hl : l0.key = .str "__doc__" t2)
   (hm : h.get? md = some ⟨.type "member_descriptor", none, .fields #[.str "obj" t3, .ref a, .builtin "proto.slot", .builtin "proto.slot#set", rawInt 0], #[]⟩)
   (hQ : ∀ h' tk', Mem h₀ h' [] (news.set i (y, ⟨.ref a, some dx, .plain, #[some x]⟩)) → Q () ⟨h', g, d, tk', os⟩) :
   wpAny (model prog w) A (setAttr (.ref y) "obj" x) Q E ⟨h, g, d, t, os⟩ := by
  obtain ⟨hh, hkey, hval⟩ := l0
  obtain rfl : hkey = .str "__doc__" t2 := hl
  have hy := D.at i _ _ hi
  unfold setAttr
  refine wpAny_bind (wpAny_mkText ?_)
  refine wpAny_bind ?_
  refine s_load y (some headPart) (by kernel_rfl) hy ?_
  refine s_load a none (by kernel_rfl) ha ?_
  refine s_load a none (by kernel_rfl) ha ?_
  refine s_load ns (some (.str "__setattr__" 0)) (by kernel_rfl) hn ?_
  refine s_call (.call (.builtin "object.__setattr__") ⟨[.ref y, .str "obj" t, x], []⟩) (by kernel_rfl) (x_code ?_)
  refine s_load y (some headPart) (by kernel_rfl) hy ?_
  refine s_load a none (by kernel_rfl) ha ?_
  refine wpAny_of_eq (a := .again (.builtin "object.__setattr__" ⟨[.ref y, .str "obj" t, x], []⟩)) (by kernel_rfl) ?_
  refine ⟨by kernel_rfl, codeAny_builtin ent_osa ?_⟩
  refine s_load y (some headPart) (by kernel_rfl) hy ?_
  refine s_load a none (by kernel_rfl) ha ?_
  refine s_load y (some headPart) (by kernel_rfl) hy ?_
  refine s_load a none (by kernel_rfl) ha ?_
  refine s_load a none (by kernel_rfl) ha ?_
  refine s_load ns (some (.str "obj" 0)) (by kernel_rfl) hn ?_
  refine s_load md (some headPart) (by kernel_rfl) hm ?_
  refine x_skim 1 ?_
  refine s_load md (some headPart) (by kernel_rfl) hm ?_
  refine s_call (.call (.builtin "member_descriptor.__set__") ⟨[.ref md, .ref y, x], []⟩) (by kernel_rfl) (x_code ?_)
  refine s_load md (some headPart) (by kernel_rfl) hm ?_
  refine wpAny_of_eq (a := .again (.builtin "member_descriptor.__set__" ⟨[.ref md, .ref y, x], []⟩)) (by kernel_rfl) ?_
  refine ⟨by kernel_rfl, codeAny_builtin ent_mset ?_⟩
  unfold Builtin.«member_descriptor.__set__» Builtin.Getset_descriptor.descrSet
  refine wpAny_ite_false rfl ?_
  unfold Builtin.Getset_descriptor.descrStoreThrough
  refine wpAny_bind (dchk hy ha hm ?_)
  refine s_load md none (by kernel_rfl) hm ?_
  refine s_load md none (by kernel_rfl) hm ?_
  refine x_skim 1 ?_
  refine wpAny_of_eq (a := .again (.builtin "proto.slot#set" ⟨[.ref y, x, .ref md], []⟩)) (by kernel_rfl) ?_
  refine ⟨by kernel_rfl, codeAny_builtin ent_pset ?_⟩
  refine s_load md none (by kernel_rfl) hm ?_
  refine s_load md none (by kernel_rfl) hm ?_
  refine s_load y (some headPart) (by kernel_rfl) hy ?_
  refine s_load a none (by kernel_rfl) ha ?_
  refine s_upd D i y (some (slotPart 0)) ⟨.ref a, some dx, .plain, #[some x]⟩ (by kernel_rfl) hi (by kernel_rfl) rfl fun h' D' => ?_
  refine wpAny_of_eq (a := .done (.ret .none)) (by kernel_rfl) ?_
  refine wpAny_of_eq (a := .done (.ret .none)) (by kernel_rfl) ?_
  refine wpAny_of_eq (a := some .none) (by kernel_rfl) ?_
  exact wpAny_pure (hQ _ _ D')
end Mine
end
/-! part S2e -/
section
open PySem PySem.W PyProof.Rows PySem.W.X
set_option maxRecDepth 100000
set_option maxHeartbeats 4000000
namespace Mine
theorem mem_up {h₀ h h' : Heap} {news : List (Addr × Obj)} (D : Mem h₀ h [] news) (k : ∀ b o, h.get? b = some o → h'.get? b = some o) : Mem h₀ h' [] news :=
  { keep := fun b o e q => k b o (D.keep b o e q), ch := fun p hp => (by cases hp), cd := D.cd, nw := fun p hp => ⟨k _ _ (D.nw p hp).1, (D.nw p hp).2⟩, ord := D.ord }
/-- the call of __init__ of K -/
theorem init0 {w : World} {A : Around} {h₀ h : Heap} {d : Drawn} {t : Nat} {os : OsState} {g : Array GenState} {pI : Arguments} {bI : List Stmt} {sI : Scope} {f cI y dx a ns b md : Addr} {tk tq t1 t2 t3 : Tok} {qn : Str} {v : KV} {l0 : DictEntry} {ctI pm x : Value} {oI : Obj} {Q E : Value → Shared → Prop}
   (D : Mem h₀ h [] [(y, ⟨.ref a, some dx, .plain, #[]⟩), (dx, dictO #[] 0)]) (ha : h.get? a = some (kO a ns b tk tq qn)) (hn : h.get? ns = some (nm v [⟨hsh w "obj", .str "obj" t1, .ref md⟩, l0] 3)) (hl0 : l0.key = .str "__doc__" t2)
   (hm : h.get? md = some ⟨.type "member_descriptor", none, .fields #[.str "obj" t3, .ref a, .builtin "proto.slot", .builtin "proto.slot#set", rawInt 0], #[]⟩)
   (hk : InitShape pI bI sI) (hf : h.get? f = some (mO "__init__" "cmp_to_key.<locals>.K.__init__" pI bI sI [] ctI pm cI)) (hc : h.get? cI = some oI) (hr : recOf oI "cmp_to_key.<locals>.K.__init__") (hl : h.NoLimit) (hd : A.depth < recursionLimit)
   (hQ : ∀ h' tk', Mem h₀ h' [] [(y, ⟨.ref a, some dx, .plain, #[some x]⟩), (dx, dictO #[] 0)] → Q .none ⟨h', g, d, tk', os⟩) :
   wpAny (model PR w) A (call (.ref f) [.ref y, x]) Q E ⟨h, g, d, t, os⟩ := by
  obtain ⟨q1, q2, p1, p2, p3, p4, rfl, rfl, rfl⟩ := hk
  refine wpAny_call (codeAny_call_def (binds := [("self", .ref y), ("obj", x)]) (body := [.Assign [.Attribute (.Name "self" p1) "obj" p2] (.Name "obj" p3) p4]) hd hf rfl hl ?_ rfl (BindsTo.of_eq rfl) ?_ ?_ ?_ rfl rfl rfl)
  · obtain ⟨vs, tq, e1, e2⟩ := hr
    exact ⟨cI, oI, vs, tq, rfl, hc, e1, e2⟩
  · intro z hz
    change z ∈ [(("self" : Str), NameKind.local), (("obj" : Str), NameKind.local)] at hz
    simp only [List.mem_cons, List.not_mem_nil, or_false] at hz
    rcases hz with rfl | rfl <;> (intro q; cases q)
  · intro z hz
    simp only [List.mem_cons, List.not_mem_nil, or_false] at hz
    rcases hz with rfl | rfl <;> rfl
  · intro h₁ hns hkeep
    refine wpAny_execs_cons (plainObj_wpAny_Assign_Attribute ?_ (by rfl))
    refine wpAny_Name (wpAny_loadName_local rfl rfl hns (v := x) rfl ?_) (by decide)
    refine wpAny_Name (wpAny_loadName_local rfl rfl hns (v := .ref y) rfl ?_) (by decide)
    refine setObj (mem_up D hkeep) 0 rfl (hkeep _ _ ha) (hkeep _ _ hn) hl0 (hkeep _ _ hm) fun h' tk' D' => ?_
    exact wpAny_pure (hQ _ _ D')
/-- K(x) -/
theorem mkK {w : World} {A : Around} {h0 h : Heap} {d : Drawn} {t : Nat} {os : OsState} {g : Array GenState} {pI : Arguments} {bI : List Stmt} {sI : Scope} {pL : Arguments} {bL : List Stmt} {sL : Scope} {a cl : Addr} {pm x : Value} {Q E : Value → Shared → Prop}
   (hK : KCls w h0 h a pI bI sI pL bL sL cl pm) (hk : InitShape pI bI sI) (hl : h.NoLimit) (hd : A.depth + 1 < recursionLimit)
   (hQ : ∀ y dx h' tk', h.StaysIn h' → h.get? y = none → h'.get? y = some ⟨.ref a, some dx, .plain, #[some x]⟩ → Q (.ref y) ⟨h', g, d, tk', os⟩) :
   wpAny (model PR w) A (call (.ref a) [x]) Q E ⟨h, g, d, t, os⟩ := by
  obtain ⟨ns, md, b, tk0, t1, t2, t3, v, l0, cI, cL, oI, oL, ctI, ctL, e1, e2, e3, e4, e5, e6, e7, e8, e9, e10, e11, fr'⟩ := hK.ex
  refine callK e1 e2 e6 rfl fun dx y h' D => ?_
  have S := mem_stays D
  refine init0 D (S _ _ e1) (S _ _ e2) e3 (S _ _ e5) hk (S _ _ e6) (S _ _ e7) e8 (hl.keeps S) ?_ fun h'' tk' D' => ⟨rfl, ?_⟩
  · have w1 : (Code.builtin "type.__call__" ⟨[.ref a, x], []⟩).weight = 1 := by kernel_rfl
    show A.depth + _ < _
    rw [w1]; exact hd
  · exact hQ y dx h'' tk' (mem_stays D') (D'.nw _ (.head _)).2 (D'.nw _ (.head _)).1
end Mine
end
/-! part S3 -/
section
open PySem PySem.W PyProof.Rows PySem.W.X
set_option maxRecDepth 100000
set_option maxHeartbeats 4000000
namespace Mine
theorem ent_gh : entryFor table "proto.getattr_hooked" = some Builtin.«proto.getattr_hooked» := entryFor_of_tree (by kernel_rfl)
theorem ent_mget : entryFor table "member_descriptor.__get__" = some Builtin.«member_descriptor.__get__» := entryFor_of_tree (by kernel_rfl)
theorem ent_ps : entryFor table "proto.slot" = some Builtin.«proto.slot» := entryFor_of_tree (by kernel_rfl)
/-- the slot obj of an object of the class K is read -/
theorem getObj {prog : Program} {w : World} {A : Around} {h : Heap} {d : Drawn} {t : Nat} {os : OsState} {g : Array GenState} {a ns b md y dx : Addr} {tk tq t1 t2 t3 tx : Tok} {qn : Str} {v : KV} {l0 : DictEntry} {n : Int} {Q E : Value → Shared → Prop}
   (hy : h.get? y = some ⟨.ref a, some dx, .plain, #[some (.int n tx)]⟩) (ha : h.get? a = some (kO a ns b tk tq qn)) (hn : h.get? ns = some (nm v [⟨hsh w "obj", .str "obj" t1, .ref md⟩, l0] 3)) (hl : l0.key = .str "__doc__" t2)
   (hm : h.get? md = some ⟨.type "member_descriptor", none, .fields #[.str "obj" t3, .ref a, .builtin "proto.slot", .builtin "proto.slot#set", rawInt 0], #[]⟩)
   (hQ : ∀ tk', Q (.int n tx) ⟨h, g, d, tk', os⟩) :
   wpAny (model prog w) A (getAttr (.ref y) "obj" true) Q E ⟨h, g, d, t, os⟩ := by
  obtain ⟨hh, hkey, hval⟩ := l0
  obtain rfl : hkey = .str "__doc__" t2 := hl
  unfold getAttr
  refine wpAny_bind (wpAny_mkText ?_)
  refine s_load y (some headPart) (by kernel_rfl) hy ?_
  refine s_load a none (by kernel_rfl) ha ?_
  refine s_load a none (by kernel_rfl) ha ?_
  refine s_load ns (some (.str "__getattribute__" 0)) (by kernel_rfl) hn ?_
  refine s_call (.builtin "proto.getattr_hooked" ⟨[.ref y, .str "obj" t], []⟩) (by kernel_rfl) (codeAny_builtin ent_gh ?_)
  refine s_load y (some headPart) (by kernel_rfl) hy ?_
  refine s_load a none (by kernel_rfl) ha ?_
  refine s_load a none (by kernel_rfl) ha ?_
  refine s_load ns (some (.str "obj" 0)) (by kernel_rfl) hn ?_
  refine s_load md (some headPart) (by kernel_rfl) hm ?_
  refine s_load md (some headPart) (by kernel_rfl) hm ?_
  refine x_skim 1 ?_
  refine s_load a none (by kernel_rfl) ha ?_
  refine s_load a none (by kernel_rfl) ha ?_
  refine s_load ns (some (.str "__getattr__" 0)) (by kernel_rfl) hn ?_
  refine s_call (.call (.builtin "member_descriptor.__get__") ⟨[.ref md, .ref y, .ref a], []⟩) (by kernel_rfl) (x_code ?_)
  refine s_load md (some headPart) (by kernel_rfl) hm ?_
  refine wpAny_of_eq (a := .again (.builtin "member_descriptor.__get__" ⟨[.ref md, .ref y, .ref a], []⟩)) (by kernel_rfl) ?_
  refine ⟨by kernel_rfl, codeAny_builtin ent_mget ?_⟩
  unfold Builtin.«member_descriptor.__get__» Builtin.Getset_descriptor.descrGet
  refine wpAny_bind (wpAny_of_eq (a := (.ref md, some (.ref y), some (.ref a))) (by kernel_rfl) ?_)
  unfold Builtin.Getset_descriptor.descrGetter
  refine wpAny_bind (dchk hy ha hm ?_)
  refine s_load md none (by kernel_rfl) hm ?_
  refine x_skim 1 ?_
  refine s_load md none (by kernel_rfl) hm ?_
  refine wpAny_of_eq (a := .again (.builtin "proto.slot" ⟨[.ref y, .ref md], []⟩)) (by kernel_rfl) ?_
  refine ⟨by kernel_rfl, codeAny_builtin ent_ps ?_⟩
  refine s_load md none (by kernel_rfl) hm ?_
  refine s_load md none (by kernel_rfl) hm ?_
  refine s_load y (some headPart) (by kernel_rfl) hy ?_
  refine s_load a none (by kernel_rfl) ha ?_
  refine s_load y (some (slotPart 0)) (by kernel_rfl) hy ?_
  refine wpAny_of_eq (a := .done (.ret (.int n tx))) (by kernel_rfl) ?_
  refine wpAny_of_eq (a := .done (.ret (.int n tx))) (by kernel_rfl) ?_
  refine wpAny_of_eq (a := .int n tx) (by kernel_rfl) ?_
  exact hQ _
end Mine
end
/-! part S3b -/
section
open PySem PySem.W PyProof.Rows PySem.W.X
set_option maxRecDepth 100000
set_option maxHeartbeats 4000000
namespace Mine
theorem callWith_fn {M : Model} {A : Around} {E : Value → Shared → Prop} {s : Shared} {env : Env} {pos : Pos} {f : Addr} {o : Obj} {fd : FuncData} {Q : Value → Shared → Prop} {e : Expr} {rest : List Expr} (hd : o.data = .func fd)
    (h : wpAny M A (spliced (backTo pos (starEach (e :: rest) env))) (fun vs s₁ => s₁.heap.get? f = some o ∧ wpAny M A (call (.ref f) vs) Q E s₁) E s)
    (he : starEach (e :: rest) env = (false, eval e env) :: starEach rest env := by rfl) (hplain : (backTo pos (starEach rest env)).any (·.1) = false := by rfl) :
    wpAny M A (callWith pos (.ref f) [] (backTo pos (starEach (e :: rest) env)) []) Q E s := by
  rw [he] at h ⊢
  refine callWith_of (P := fun h => h.get? f = some o) (by show ((false || (backTo pos (starEach rest env)).any (·.1)) || false) = false; rw [hplain]; rfl) (fun h hf => ⟨.frame, .inl rfl, ?_⟩) (Calls.evalArgs_plain h)
  refine (Looks.ld (part := none) hf).andThen ?_
  rw [hd]
  exact .now
theorem ltCall {w : World} {A : Around} {h : Heap} {d : Drawn} {t : Nat} {os : OsState} {g : Array GenState} {pL : Arguments} {bL : List Stmt} {sL : Scope} {a cl f cL ns b md x y dx dy q : Addr} {tk tq t1 t2 t3 tx ty : Tok} {qn : Str} {v : KV} {l0 : DictEntry} {ctL pm : Value} {i j : Int} {oL oq : Obj} {fq : FuncData} {P : Prop} [Decidable P] {Q E : Value → Shared → Prop}
   (ha : h.get? a = some (kO a ns b tk tq qn)) (hn : h.get? ns = some (nm v [⟨hsh w "obj", .str "obj" t1, .ref md⟩, l0] 3)) (hl0 : l0.key = .str "__doc__" t2)
   (hm : h.get? md = some ⟨.type "member_descriptor", none, .fields #[.str "obj" t3, .ref a, .builtin "proto.slot", .builtin "proto.slot#set", rawInt 0], #[]⟩)
   (hk : LtShape pL bL sL) (hf : h.get? f = some (mO "__lt__" "cmp_to_key.<locals>.K.__lt__" pL bL sL [("mycmp", cl)] ctL pm cL)) (hc : h.get? cL = some oL) (hr : recOf oL "cmp_to_key.<locals>.K.__lt__") (hl : h.NoLimit) (r : Rm A 6 100)
   (hx : h.get? x = some ⟨.ref a, some dx, .plain, #[some (.int i tx)]⟩) (hy : h.get? y = some ⟨.ref a, some dy, .plain, #[some (.int j ty)]⟩) (hcl : h.IsCell cl (some (.ref q))) (hq : h.get? q = some oq) (hqd : oq.data = .func fq)
   (hcmp : ∀ A' h' tk' (Q' E' : Value → Shared → Prop), Rm A' 5 90 → h.StaysIn h' → (∀ n u h'' tk'', h'.StaysIn h'' → (n < 0 ↔ P) → Q' (.int n u) ⟨h'', g, d, tk'', os⟩) → wpAny (model PR w) A' (call (.ref q) [.int i tx, .int j ty]) Q' E' ⟨h', g, d, tk', os⟩)
   (hQ : ∀ h' tk', h.StaysIn h' → Q (.bool (decide P)) ⟨h', g, d, tk', os⟩) :
   wpAny (model PR w) A (call (.ref f) [.ref x, .ref y]) Q E ⟨h, g, d, t, os⟩ := by
  obtain ⟨q1, q2, p1, p2, p3, p4, p5, p6, p7, p8, p9, yy, rfl, rfl, rfl⟩ := hk
  refine wpAny_call (codeAny_call_def (binds := [("self", .ref x), ("other", .ref y)]) (body := [.Return (some (.Compare (.Call (.Name "mycmp" p1) [.Attribute (.Name "self" p2) "obj" p3, .Attribute (.Name "other" p4) "obj" p5] [] p6) [.Lt] [.Constant (.int 0) yy p7] p8)) p9]) r.room hf rfl hl ?_ rfl (BindsTo.of_eq rfl) ?_ ?_ ?_ rfl rfl rfl)
  · obtain ⟨vs, tq, e1, e2⟩ := hr
    exact ⟨cL, oL, vs, tq, rfl, hc, e1, e2⟩
  · intro z hz
    change z ∈ [(("self" : Str), NameKind.local), (("other" : Str), NameKind.local), (("mycmp" : Str), NameKind.free)] at hz
    simp only [List.mem_cons, List.not_mem_nil, or_false] at hz
    rcases hz with rfl | rfl | rfl <;> (intro q; cases q)
  · intro z hz
    simp only [List.mem_cons, List.not_mem_nil, or_false] at hz
    rcases hz with rfl | rfl <;> rfl
  · intro h₁ hns hkeep
    refine wpAny_execs_cons (wpAny_Return_some ?_)
    refine wpAny_Compare1 ?_ (by rfl)
    refine wpAny_Call_NameR (wpAny_Name (wpAny_loadName_free (c := cl) (v := .ref q) rfl rfl rfl ?_ ?_) (by decide))
    · obtain ⟨o, e1, e2⟩ := hcl
      exact ⟨o, hkeep _ _ e1, e2⟩
    refine callWith_fn hqd ?_
    refine Calls.spliced_cons ?_
    refine Attribute_Name_ (wpAny_Name (wpAny_loadName_local rfl rfl hns (v := .ref x) rfl ?_) (by decide)) (by with_unfolding_all rfl)
    refine getObj (hkeep _ _ hx) (hkeep _ _ ha) (hkeep _ _ hn) hl0 (hkeep _ _ hm) fun tk1 => ?_
    refine Calls.spliced_cons ?_
    refine Attribute_Name_ (wpAny_Name (wpAny_loadName_local rfl rfl hns (v := .ref y) rfl ?_) (by decide)) (by with_unfolding_all rfl)
    refine getObj (hkeep _ _ hy) (hkeep _ _ ha) (hkeep _ _ hn) hl0 (hkeep _ _ hm) fun tk2 => ?_
    refine Calls.spliced_nil ⟨hkeep _ _ hq, ?_⟩
    refine hcmp _ _ _ _ _ (Rm.deeper (Rm.le r (by decide) (by decide))) hkeep fun n u h2 tk3 st hP => ?_
    refine wpAny_Constant_int ?_
    refine PyProof.Rows.lt_int ?_
    have e : decide (n < 0) = decide P := by
      by_cases hp : P
      · rw [decide_eq_true hp, decide_eq_true (hP.mpr hp)]
      · rw [decide_eq_false hp, decide_eq_false (fun z => hp (hP.mp z))]
    rw [e]
    exact hQ _ _ fun b o e => st _ _ (hkeep _ _ e)
/-- the order of two objects of the class K, as a sort asks for it -/
theorem ltK {w : World} {A : Around} {h0 h : Heap} {d : Drawn} {t : Nat} {os : OsState} {g : Array GenState} {pI : Arguments} {bI : List Stmt} {sI : Scope} {pL : Arguments} {bL : List Stmt} {sL : Scope} {a cl x y dx dy q : Addr} {tx ty : Tok} {pm : Value} {i j : Int} {oq : Obj} {fq : FuncData} {P : Prop} [Decidable P] {Q : Bool → Shared → Prop} {E : Value → Shared → Prop}
   (hK : KCls w h0 h a pI bI sI pL bL sL cl pm) (hk : LtShape pL bL sL) (hl : h.NoLimit) (r : Rm A 6 100)
   (hx : h.get? x = some ⟨.ref a, some dx, .plain, #[some (.int i tx)]⟩) (hy : h.get? y = some ⟨.ref a, some dy, .plain, #[some (.int j ty)]⟩) (hcl : h.IsCell cl (some (.ref q))) (hq : h.get? q = some oq) (hqd : oq.data = .func fq)
   (hcmp : ∀ A' h' tk' (Q' E' : Value → Shared → Prop), Rm A' 5 90 → h.StaysIn h' → (∀ n u h'' tk'', h'.StaysIn h'' → (n < 0 ↔ P) → Q' (.int n u) ⟨h'', g, d, tk'', os⟩) → wpAny (model PR w) A' (call (.ref q) [.int i tx, .int j ty]) Q' E' ⟨h', g, d, tk', os⟩)
   (hQ : ∀ h' tk', h.StaysIn h' → Q (decide P) ⟨h', g, d, tk', os⟩) :
   wpAny (model PR w) A (keyLt' oneType' (.ref x) (.ref y)) Q E ⟨h, g, d, t, os⟩ := by
  obtain ⟨ns, md, b, tk0, t1, t2, t3, v, l0, cI, cL, oI, oL, ctI, ctL, e1, e2, e3, e4, e5, e6, e7, e8, e9, e10, e11, fr'⟩ := hK.ex
  obtain ⟨hh, hkey, hval⟩ := l0
  obtain rfl : hkey = .str "__doc__" t2 := e3
  rw [keyLt'_oneType, oneLt'_eq]
  simp only [if_true]
  refine wpAny_bind (wpAny_cRoomFor r.unit ?_)
  refine wpAny_bind (wpAny_mono (Q := fun r s' => r = some (.bool (decide P)) ∧ Q (decide P) s') (E := E) ?_ (fun r s' hr => ?_) fun _ _ e => e)
  rotate_left
  · obtain ⟨rfl, hq⟩ := hr
    exact wpAny_truthy_bool hq
  simp only [callSpecialIfBound?, bindSpecialIfBound?]
  refine wpAny_holding (wpAny_bind (wpAny_bind ?_))
  unfold specialOf
  refine wpAny_bind (wpAny_bind (wpAny_load hx (wpAny_pure ?_)))
  refine s_load a none (by kernel_rfl) e1 ?_
  refine s_load a none (by kernel_rfl) e1 ?_
  refine s_load ns (some (.str "__lt__" 0)) (by kernel_rfl) e2 ?_
  refine wpAny_of_eq (a := some (.ref v.fL)) (by kernel_rfl) ?_
  refine wpAny_bind (wpAny_askSetting (wpAny_ite ?_))
  have fin : wpAny (model PR w) A (call (.ref v.fL) ([.ref x] ++ [.ref y]) >>= fun v => pure (some v)) (fun r s' => r = some (.bool (decide P)) ∧ Q (decide P) s') E ⟨h, g, d, t, os⟩ :=
    wpAny_bind (ltCall (P := P) e1 e2 rfl e5 hk e9 e10 e11 hl r hx hy hcl hq hqd hcmp fun h' tk' st => wpAny_pure ⟨rfl, hQ _ _ st⟩)
  split
  · unfold bindSpecial
    refine wpAny_bind (wpAny_bind (wpAny_typeOf (T := "function") ⟨_, e9, rfl⟩ ?_))
    refine wpAny_ite_true (by kernel_rfl) (wpAny_pure (wpAny_pure ?_))
    exact fin
  · unfold bindSpecial
    refine wpAny_tryCatch (wpAny_bind (wpAny_bind (wpAny_typeOf (T := "function") ⟨_, e9, rfl⟩ ?_)))
    refine wpAny_ite_true (by kernel_rfl) (wpAny_pure (wpAny_pure ?_))
    exact fin
end Mine
end
/-! part S6 -/
section
open PySem PySem.W PyProof.Rows
set_option maxHeartbeats 4000000
namespace Mine
def run {α : Type} (lt : Nat → Nat → Bool) : KasT α → α
  | .ret a => a
  | .ask i j k => run lt (k (lt i j))
theorem run_bind {α β : Type} (lt : Nat → Nat → Bool) (f : α → KasT β) : ∀ t : KasT α, run lt (t.bind f) = run lt (f (run lt t))
  | .ret _ => rfl
  | .ask i j k => by show run lt ((k (lt i j)).bind f) = _; rw [run_bind lt f (k (lt i j))]; rfl
/-- what asks answers, if each ask is answered by lt -/
theorem wp_run {α : Type} {lt : Nat → Nat → Bool} {cmp : Nat → Nat → (Bool → Shared → Prop) → Shared → Prop} {I : Shared → Prop} {Q : α → Shared → Prop}
   (hc : ∀ i j C s, I s → (∀ s', I s' → C (lt i j) s') → cmp i j C s) : ∀ (t : KasT α) (s : Shared), I s → (∀ s', I s' → Q (run lt t) s') → t.kasWp cmp Q s
  | .ret _, s, hs, hq => hq s hs
  | .ask i j k, s, hs, hq => hc i j _ s hs fun s' hs' => wp_run hc (k (lt i j)) s' hs' hq
abbrev gt (p : Array Nat) (i : Nat) : Nat := p.getD i 0
theorem gt_eq (p : Array Nat) (i : Nat) : gt p i = (p[i]?).getD 0 := by simp [gt]
theorem gt_rev {p : Array Nat} {i j : Nat} (hj : j ≤ p.size) (k : Nat) : gt (kas_rev p i j) k = if i ≤ k ∧ k < j then gt p (i + j - 1 - k) else gt p k := by
  have h := getElem?_mirror_all (xs := p) (i := i) hj k
  rw [gt_eq, gt_eq, gt_eq]
  show ((mirror p i j ((j - i) / 2))[k]?).getD 0 = _
  rw [h]; split <;> rfl
theorem gt_bub {p : Array Nat} {k l : Nat} (hk : k < p.size) (hl : l ≤ k) (x : Nat) : gt (bubble p k (k - l)) x = if x = l then gt p k else if l < x ∧ x ≤ k then gt p (x - 1) else gt p x := by
  have h := getElem?_bubble (xs := p) hk (k - l) (by omega) x
  rw [gt_eq, gt_eq, gt_eq, gt_eq, h, show k - (k - l) = l from by omega]
  split
  · rfl
  · split <;> rfl
section
variable (κ : Nat → Nat)
/-- the order of the sort: by the key, like ones as they came -/
def R (a b : Nat) : Prop := κ a < κ b ∨ (κ a = κ b ∧ a < b)
abbrev lt (i j : Nat) : Bool := decide (κ i < κ j)
/-- the first n are in order; the first n are the numbers below n, the others stand where they were -/
structure Up (N : Nat) (p : Array Nat) (n : Nat) : Prop where
  sz : p.size = N
  up : ∀ i j, i < j → j < n → R κ (gt p i) (gt p j)
  low : ∀ i, i < n → gt p i < n
  id : ∀ k, n ≤ k → k < N → gt p k = k
structure Dn (N : Nat) (p : Array Nat) (n : Nat) : Prop where
  sz : p.size = N
  dn : ∀ i j, i < j → j < n → R κ (gt p j) (gt p i)
  low : ∀ i, i < n → gt p i < n
  id : ∀ k, n ≤ k → k < N → gt p k = k
/-- in a falling run: the last q + 1 are alike, and rise in number -/
structure De (N : Nat) (p : Array Nat) (n q : Nat) : Prop where
  sz : p.size = N
  qn : q + 1 ≤ n
  dn : ∀ i j, i < j → j < n - q → R κ (gt p j) (gt p i)
  eq : ∀ i, n - q - 1 ≤ i → i < n → κ (gt p i) = κ (gt p (n - 1))
  inc : ∀ i j, n - q - 1 ≤ i → i < j → j < n → gt p i < gt p j
  st : ∀ i j, i < n - q - 1 → n - q - 1 ≤ j → j < n → κ (gt p j) < κ (gt p i)
  low : ∀ i, i < n → gt p i < n
  id : ∀ k, n ≤ k → k < N → gt p k = k
variable {κ}
theorem R.trans {a b c : Nat} (h : R κ a b) (h' : R κ b c) : R κ a c := by unfold R at *; omega
theorem asc {N : Nat} {p : Array Nat} : ∀ (f n : Nat), Up κ N p n → 1 ≤ n → n + f ≤ N → ∃ m, run (lt κ) (kas_asc p f n) = m ∧ n ≤ m ∧ m ≤ n + f ∧ Up κ N p m ∧ (m < n + f → κ (gt p m) < κ (gt p (m - 1)))
  | 0, n, U, _, _ => ⟨n, rfl, Nat.le_refl _, Nat.le_refl _, U, fun h => by omega⟩
  | f + 1, n, U, h1, hN => by
    show ∃ m, run (lt κ) (if decide (κ (gt p n) < κ (gt p (n - 1))) = true then .ret n else kas_asc p f (n + 1)) = m ∧ _
    by_cases h : κ (gt p n) < κ (gt p (n - 1))
    · rw [if_pos (by simpa using h)]
      exact ⟨n, rfl, Nat.le_refl _, by omega, U, fun _ => h⟩
    · rw [if_neg (by simpa using h)]
      have e := U.id n (Nat.le_refl _) (by omega)
      have U' : Up κ N p (n + 1) := ⟨U.sz, fun i j hij hj => by
          by_cases q : j < n
          · exact U.up i j hij q
          · obtain rfl : j = n := by omega
            have l1 := U.low i (by omega)
            by_cases q2 : i = j - 1
            · subst q2; unfold R; omega
            · have r := U.up i (j - 1) (by omega) (by omega)
              unfold R at *; omega,
        fun i hi => by
          by_cases q : i < n
          · have := U.low i q; omega
          · obtain rfl : i = n := by omega
            omega,
        fun k hk hkN => U.id k (by omega) hkN⟩
      obtain ⟨m, e1, e2, e3, e4, e5⟩ := asc f (n + 1) U' (by omega) (by omega)
      exact ⟨m, e1, by omega, by omega, e4, fun hm => e5 (by omega)⟩
theorem rev_dn {N : Nat} {p : Array Nat} {n : Nat} (D : Dn κ N p n) (hn : n ≤ N) : Up κ N (kas_rev p 0 n) n := by
  have g := fun k => gt_rev (p := p) (i := 0) (j := n) (by rw [D.sz]; exact hn) k
  refine ⟨(mirror_size _ _ _ _).trans D.sz, fun i j hij hj => ?_, fun i hi => ?_, fun k hk hkN => ?_⟩
  · rw [g, g, if_pos (by omega), if_pos (by omega)]
    exact D.dn _ _ (by omega) (by omega)
  · rw [g, if_pos (by omega)]; exact D.low _ (by omega)
  · rw [g, if_neg (by omega)]; exact D.id k hk hkN
theorem fin_de {N : Nat} {p : Array Nat} {n q : Nat} (D : De κ N p n q) (hn : n ≤ N) : Dn κ N (if q > 0 then kas_rev p (n - (q + 1)) n else p) n := by
  have hq := D.qn
  by_cases h0 : q > 0
  · rw [if_pos h0]
    have g := fun k => gt_rev (p := p) (i := n - (q + 1)) (j := n) (by rw [D.sz]; exact hn) k
    refine ⟨(mirror_size _ _ _ _).trans D.sz, fun i j hij hj => ?_, fun i hi => ?_, fun k hk hkN => ?_⟩
    · rw [g, g]
      by_cases a : n - (q + 1) ≤ i
      · rw [if_pos (by omega), if_pos (by omega)]
        have e1 := D.eq (n - (q + 1) + n - 1 - i) (by omega) (by omega)
        have e2 := D.eq (n - (q + 1) + n - 1 - j) (by omega) (by omega)
        have e3 := D.inc (n - (q + 1) + n - 1 - j) (n - (q + 1) + n - 1 - i) (by omega) (by omega) (by omega)
        unfold R; omega
      · by_cases b : n - (q + 1) ≤ j
        · rw [if_pos (by omega), if_neg (by omega)]
          have := D.st i (n - (q + 1) + n - 1 - j) (by omega) (by omega) (by omega)
          unfold R; omega
        · rw [if_neg (by omega), if_neg (by omega)]
          exact D.dn i j hij (by omega)
    · rw [g]; split
      · exact D.low _ (by omega)
      · exact D.low _ hi
    · rw [g, if_neg (by omega)]; exact D.id k hk hkN
  · rw [if_neg h0]
    obtain rfl : q = 0 := by omega
    exact ⟨D.sz, fun i j hij hj => D.dn i j hij (by omega), D.low, D.id⟩
theorem next_de {N : Nat} {p : Array Nat} {n : Nat} (D : Dn κ N p n) (h1 : 1 ≤ n) (hN : n < N) (hs : κ (gt p n) < κ (gt p (n - 1))) (hm : ∀ i, i < n → κ (gt p (n - 1)) ≤ κ (gt p i)) : De κ N p (n + 1) 0 := by
  have e := D.id n (Nat.le_refl _) hN
  refine ⟨D.sz, by omega, fun i j hij hj => ?_, fun i hi hi' => ?_, fun i j hi hij hj => by omega, fun i j hi hj hj' => ?_, fun i hi => ?_, fun k hk hkN => D.id k (by omega) hkN⟩
  · by_cases q : j < n
    · exact D.dn i j hij q
    · obtain rfl : j = n := by omega
      have := hm i (by omega)
      unfold R; omega
  · obtain rfl : i = n := by omega
    rfl
  · obtain rfl : j = n := by omega
    have := hm i (by omega); omega
  · by_cases q : i < n
    · have := D.low i q; omega
    · obtain rfl : i = n := by omega
      omega
theorem De.fin_last {N : Nat} {p : Array Nat} {n q : Nat} (D : De κ N p n q) (hn : n ≤ N) : ∀ i, i < n → κ (gt (if q > 0 then kas_rev p (n - (q + 1)) n else p) (n - 1)) ≤ κ (gt (if q > 0 then kas_rev p (n - (q + 1)) n else p) i) := fun i hi => by
  have F := fin_de D hn
  by_cases h : i = n - 1
  · subst h; exact Nat.le_refl _
  · have := F.dn i (n - 1) (by omega) (by have := D.qn; omega)
    unfold R at this; omega
theorem desc {N : Nat} : ∀ (f : Nat) (p : Array Nat) (n q : Nat), De κ N p n q → n + f ≤ N → ∃ p' n' q', run (lt κ) (kas_desc f p n q) = (p', n', q') ∧ De κ N p' n' q' ∧ n ≤ n' ∧ n' ≤ N ∧ p'.Perm p
  | 0, p, n, q, D, h => ⟨p, n, q, rfl, D, Nat.le_refl _, h, Array.Perm.refl _⟩
  | f + 1, p, n, q, D, h => by
    show ∃ p' n' q', run (lt κ) (if decide (κ (gt p n) < κ (gt p (n - 1))) = true then (if q > 0 then kas_desc f (kas_rev p (n - (q + 1)) n) (n + 1) 0 else kas_desc f p (n + 1) 0) else .ask (gt p (n - 1)) (gt p n) fun d => if d = true then .ret (p, n, q) else kas_desc f p (n + 1) (q + 1)) = (p', n', q') ∧ _
    have hq := D.qn
    have F := fin_de D (by omega)
    have FL := De.fin_last D (by omega)
    by_cases c : κ (gt p n) < κ (gt p (n - 1))
    · rw [if_pos (by simpa using c)]
      by_cases h0 : q > 0
      · rw [if_pos h0] at F FL ⊢
        have g := fun k => gt_rev (p := p) (i := n - (q + 1)) (j := n) (by rw [D.sz]; omega) k
        have hs : κ (gt (kas_rev p (n - (q + 1)) n) n) < κ (gt (kas_rev p (n - (q + 1)) n) (n - 1)) := by
          rw [g, g, if_neg (by omega), if_pos (by omega)]
          have := D.eq (n - (q + 1) + n - 1 - (n - 1)) (by omega) (by omega)
          omega
        obtain ⟨p', n', q', e1, e2, e3, e4, e5⟩ := desc f _ (n + 1) 0 (next_de F (by omega) (by omega) hs FL) (by omega)
        exact ⟨p', n', q', e1, e2, by omega, e4, e5.trans (mirror_perm _ _ _ _)⟩
      · rw [if_neg h0] at F FL ⊢
        obtain ⟨p', n', q', e1, e2, e3, e4, e5⟩ := desc f _ (n + 1) 0 (next_de F (by omega) (by omega) c FL) (by omega)
        exact ⟨p', n', q', e1, e2, by omega, e4, e5⟩
    · rw [if_neg (by simpa using c)]
      show ∃ p' n' q', run (lt κ) (if decide (κ (gt p (n - 1)) < κ (gt p n)) = true then .ret (p, n, q) else kas_desc f p (n + 1) (q + 1)) = (p', n', q') ∧ _
      by_cases c2 : κ (gt p (n - 1)) < κ (gt p n)
      · rw [if_pos (by simpa using c2)]
        exact ⟨p, n, q, rfl, D, Nat.le_refl _, by omega, Array.Perm.refl _⟩
      · rw [if_neg (by simpa using c2)]
        have e := D.id n (Nat.le_refl _) (by omega)
        have D' : De κ N p (n + 1) (q + 1) := by
          refine ⟨D.sz, by omega, fun i j hij hj => D.dn i j hij (by omega), fun i hi hi' => ?_, fun i j hi hij hj => ?_, fun i j hi hj hj' => ?_, fun i hi => ?_, fun k hk hkN => D.id k (by omega) hkN⟩
          · show κ (gt p i) = κ (gt p n)
            by_cases z : i < n
            · have := D.eq i (by omega) z; omega
            · obtain rfl : i = n := by omega
              rfl
          · by_cases z : j < n
            · exact D.inc i j (by omega) hij z
            · obtain rfl : j = n := by omega
              have := D.low i (by omega); omega
          · by_cases z : j < n
            · exact D.st i j (by omega) (by omega) z
            · obtain rfl : j = n := by omega
              have := D.st i (j - 1) (by omega) (by omega) (by omega); omega
          · by_cases z : i < n
            · have := D.low i z; omega
            · obtain rfl : i = n := by omega
              omega
        obtain ⟨p', n', q', e1, e2, e3, e4, e5⟩ := desc f p (n + 1) (q + 1) D' (by omega)
        exact ⟨p', n', q', e1, e2, by omega, e4, e5⟩
theorem tail3 {N : Nat} {p : Array Nat} {n : Nat} (D : Dn κ N p n) (h1 : 1 ≤ n) (hn : n ≤ N) : ∃ m p', run (lt κ) (kas_tail3 n N p) = (m, p') ∧ Up κ N p' m ∧ 1 ≤ m ∧ m ≤ N ∧ p'.Perm p := by
  obtain ⟨m, e1, e2, e3, e4, _⟩ := asc (N - n) n (rev_dn D hn) h1 (by omega)
  refine ⟨m, kas_rev p 0 n, ?_, e4, by omega, by omega, mirror_perm _ _ _ _⟩
  show run (lt κ) ((kas_asc (kas_rev p 0 n) (N - n) n).bind _) = _
  rw [run_bind, e1]; rfl
theorem descPart {N : Nat} {p : Array Nat} {n : Nat} (D : De κ N p (n + 1) 0) (hn : n + 1 ≤ N) : ∃ m p', run (lt κ) (kas_descPart n N p) = (m, p') ∧ Up κ N p' m ∧ 1 ≤ m ∧ m ≤ N ∧ p'.Perm p := by
  obtain ⟨p1, n1, q1, e1, e2, e3, e4, e5⟩ := desc (N - (n + 1)) p (n + 1) 0 D (by omega)
  have F := fin_de e2 e4
  unfold kas_descPart
  rw [run_bind, e1]
  dsimp only
  by_cases h0 : q1 > 0
  · rw [if_pos h0] at F ⊢
    obtain ⟨m, p', a1, a2, a3, a4, a5⟩ := tail3 F (by omega) e4
    exact ⟨m, p', a1, a2, a3, a4, a5.trans ((mirror_perm _ _ _ _).trans e5)⟩
  · rw [if_neg h0] at F ⊢
    obtain ⟨m, p', a1, a2, a3, a4, a5⟩ := tail3 F (by omega) e4
    exact ⟨m, p', a1, a2, a3, a4, a5.trans e5⟩
theorem count {N : Nat} {p : Array Nat} (U : Up κ N p 1) (hN : 1 ≤ N) : ∃ m p', run (lt κ) (kas_count N p) = (m, p') ∧ Up κ N p' m ∧ 1 ≤ m ∧ m ≤ N ∧ p'.Perm p := by
  obtain ⟨n, e1, e2, e3, e4, e5⟩ := asc (N - 1) 1 U (Nat.le_refl _) (by omega)
  unfold kas_count
  rw [run_bind, e1]
  by_cases h : n = N
  · rw [if_pos (by simpa using h)]
    exact ⟨n, p, rfl, e4, e2, by omega, Array.Perm.refl _⟩
  · rw [if_neg (by simpa using h)]
    have hs := e5 (by omega)
    by_cases h1 : n > 1
    · rw [if_pos h1]
      show ∃ m p', run (lt κ) (if decide (κ (gt p 0) < κ (gt p (n - 1))) = true then .ret (n, p) else kas_descPart n N (kas_rev p 0 n)) = (m, p') ∧ _
      by_cases c : κ (gt p 0) < κ (gt p (n - 1))
      · rw [if_pos (by simpa using c)]
        exact ⟨n, p, rfl, e4, e2, by omega, Array.Perm.refl _⟩
      · rw [if_neg (by simpa using c)]
        have al : ∀ i, i < n → κ (gt p i) = κ (gt p 0) := fun i hi => by
          have a1 : κ (gt p 0) ≤ κ (gt p i) := by
            by_cases z : i = 0
            · subst z; exact Nat.le_refl _
            · have := e4.up 0 i (by omega) hi; unfold R at this; omega
          have a2 : κ (gt p i) ≤ κ (gt p (n - 1)) := by
            by_cases z : i = n - 1
            · subst z; exact Nat.le_refl _
            · have := e4.up i (n - 1) (by omega) (by omega); unfold R at this; omega
          omega
        have g := fun k => gt_rev (p := p) (i := 0) (j := n) (by rw [e4.sz]; omega) k
        have D : Dn κ N (kas_rev p 0 n) n := by
          refine ⟨(mirror_size _ _ _ _).trans e4.sz, fun i j hij hj => ?_, fun i hi => ?_, fun k hk hkN => ?_⟩
          · rw [g, g, if_pos (by omega), if_pos (by omega)]
            exact e4.up _ _ (by omega) (by omega)
          · rw [g, if_pos (by omega)]; exact e4.low _ (by omega)
          · rw [g, if_neg (by omega)]; exact e4.id k hk hkN
        have hs' : κ (gt (kas_rev p 0 n) n) < κ (gt (kas_rev p 0 n) (n - 1)) := by
          rw [g, g, if_neg (by omega), if_pos (by omega)]
          have b1 := al (0 + n - 1 - (n - 1)) (by omega)
          have b2 := al (n - 1) (by omega)
          omega
        obtain ⟨m, p', a1, a2, a3, a4, a5⟩ := descPart (next_de D (by omega) (by omega) hs' (fun i hi => by
          rw [g, g, if_pos (by omega), if_pos (by omega)]
          have b1 := al (0 + n - 1 - (n - 1)) (by omega)
          have b2 := al (0 + n - 1 - i) (by omega)
          omega)) (by omega)
        exact ⟨m, p', a1, a2, a3, a4, a5.trans (mirror_perm _ _ _ _)⟩
    · rw [if_neg h1]
      obtain rfl : n = 1 := by omega
      obtain ⟨m, p', a1, a2, a3, a4, a5⟩ := descPart (next_de ⟨e4.sz, fun i j hij hj => by omega, e4.low, e4.id⟩ (by omega) (by omega) hs (fun i hi => by
        obtain rfl : i = 0 := by omega
        exact Nat.le_refl _)) (by omega)
      exact ⟨m, p', a1, a2, a3, a4, a5⟩
theorem place {N : Nat} {p : Array Nat} {k : Nat} (U : Up κ N p k) : ∀ (f l r : Nat), l ≤ r → r ≤ k → r - l ≤ f → (∀ i, i < l → κ (gt p i) ≤ κ (gt p k)) → (∀ i, r ≤ i → i < k → κ (gt p k) < κ (gt p i)) →
    ∃ m, run (lt κ) (kas_place p k f l r) = m ∧ m ≤ k ∧ (∀ i, i < m → κ (gt p i) ≤ κ (gt p k)) ∧ (∀ i, m ≤ i → i < k → κ (gt p k) < κ (gt p i))
  | 0, l, r, h1, h2, h3, ha, hb => ⟨l, rfl, by omega, ha, fun i hi hk => hb i (by omega) hk⟩
  | f + 1, l, r, h1, h2, h3, ha, hb => by
    unfold kas_place
    by_cases q : l ≥ r
    · rw [if_pos q]; exact ⟨l, rfl, by omega, ha, fun i hi hk => hb i (by omega) hk⟩
    · rw [if_neg q]
      show ∃ m, run (lt κ) (if decide (κ (gt p k) < κ (gt p ((l + r) / 2))) = true then kas_place p k f l ((l + r) / 2) else kas_place p k f ((l + r) / 2 + 1) r) = m ∧ _
      by_cases c : κ (gt p k) < κ (gt p ((l + r) / 2))
      · rw [if_pos (by simpa using c)]
        refine place U f l ((l + r) / 2) (by omega) (by omega) (by omega) ha fun i hi hk => ?_
        by_cases z : i = (l + r) / 2
        · subst z; exact c
        · have := U.up ((l + r) / 2) i (by omega) hk; unfold R at this; omega
      · rw [if_neg (by simpa using c)]
        refine place U f ((l + r) / 2 + 1) r (by omega) h2 (by omega) (fun i hi => ?_) hb
        by_cases z : i = (l + r) / 2
        · subst z; omega
        · have := U.up i ((l + r) / 2) (by omega) (by omega); unfold R at this; omega
theorem bin {N : Nat} : ∀ (f : Nat) (p : Array Nat) (k : Nat), Up κ N p k → k + f = N → ∃ p', run (lt κ) (kas_bin f p k) = p' ∧ Up κ N p' N ∧ p'.Perm p
  | 0, p, k, U, h => ⟨p, rfl, by obtain rfl : k = N := by omega
                                 exact U, Array.Perm.refl _⟩
  | f + 1, p, k, U, h => by
    obtain ⟨m, e1, e2, e3, e4⟩ := place U k 0 k (by omega) (Nat.le_refl _) (by omega) (fun i hi => by omega) (fun i hi hk => by omega)
    show ∃ p', run (lt κ) ((kas_place p k k 0 k).bind fun l => kas_bin f (bubble p k (k - l)) (k + 1)) = p' ∧ _
    rw [run_bind, e1]
    have g := fun x => gt_bub (p := p) (k := k) (l := m) (by rw [U.sz]; omega) e2 x
    have ek := U.id k (Nat.le_refl _) (by omega)
    have U' : Up κ N (bubble p k (k - m)) (k + 1) := by
      refine ⟨(bubble_size _ _ _).trans U.sz, fun i j hij hj => ?_, fun i hi => ?_, fun x hx hxN => ?_⟩
      · rw [g i, g j]
        by_cases a1 : i = m
        · rw [if_pos a1, if_neg (by omega), if_pos (by omega)]
          have := e4 (j - 1) (by omega) (by omega); unfold R; omega
        · rw [if_neg a1]
          by_cases a2 : m < i ∧ i ≤ k
          · rw [if_pos a2, if_neg (by omega), if_pos (by omega)]
            exact U.up _ _ (by omega) (by omega)
          · rw [if_neg a2]
            by_cases b1 : j = m
            · rw [if_pos b1]
              have := e3 i (by omega); have := U.low i (by omega); unfold R; omega
            · rw [if_neg b1]
              by_cases b2 : m < j ∧ j ≤ k
              · rw [if_pos b2]
                exact U.up _ _ (by omega) (by omega)
              · rw [if_neg b2]
                exact U.up _ _ hij (by omega)
      · rw [g]
        split
        · omega
        · split
          · have := U.low (i - 1) (by omega); omega
          · have := U.low i (by omega); omega
      · rw [g, if_neg (by omega), if_neg (by omega)]
        exact U.id x (by omega) hxN
    obtain ⟨p', a1, a2, a3⟩ := bin f _ (k + 1) U' (by omega)
    exact ⟨p', a1, a2, a3.trans (bubble_perm _ _ _)⟩
theorem srt {N : Nat} (hN : 1 ≤ N) : ∃ p, run (lt κ) (kas_sort N) = p ∧ Up κ N p N ∧ p.Perm (List.toArray (List.range N)) := by
  have gr : ∀ i, i < N → gt (List.toArray (List.range N)) i = i := fun i hi => by rw [gt_eq]; simp [hi]
  have U : Up κ N (List.toArray (List.range N)) 1 := ⟨by simp, fun i j hij hj => by omega, fun i hi => by
    obtain rfl : i = 0 := by omega
    rw [gr 0 (by omega)]; omega, fun k _ hk => gr k hk⟩
  obtain ⟨m, p, e1, e2, e3, e4, e5⟩ := count U hN
  unfold kas_sort
  rw [run_bind, e1]
  dsimp only
  by_cases h : m < N
  · rw [if_pos h, show max m 1 = m from by omega]
    obtain ⟨p', a1, a2, a3⟩ := bin (N - m) p m e2 (by omega)
    exact ⟨p', a1, a2, a3.trans e5⟩
  · rw [if_neg h]
    obtain rfl : m = N := by omega
    exact ⟨p, rfl, e2, e5⟩
/-- the sorted list of places -/
def srtL (κ : Nat → Nat) (N : Nat) : List Nat := (run (lt κ) (kas_sort N)).toList
theorem srtL_pw {N : Nat} (hN : 1 ≤ N) : (srtL κ N).Pairwise (R κ) ∧ (srtL κ N).Perm (List.range N) := by
  obtain ⟨p, e, U, hp⟩ := srt (κ := κ) hN
  unfold srtL
  rw [e]
  refine ⟨?_, by simpa using hp.toList⟩
  rw [List.pairwise_iff_getElem]
  intro i j hi hj hij
  have sz : p.toList.length = N := by simpa using U.sz
  have := U.up i j hij (by omega)
  rw [gt_eq, gt_eq] at this
  have h1 : p[i]? = some p.toList[i] := by simp
  have h2 : p[j]? = some p.toList[j] := by simp
  rw [h1, h2] at this
  exact this
theorem R.asymm {a b : Nat} (h : R κ a b) (h' : R κ b a) : False := by unfold R at *; omega
/-- two keys that lay the same order give the same list -/
theorem srtL_eq {κ κ' : Nat → Nat} {N : Nat} (hN : 1 ≤ N) (h : ∀ a b, a < N → b < N → R κ' a b → R κ a b) : srtL κ N = srtL κ' N := by
  obtain ⟨p1, q1⟩ := srtL_pw (κ := κ) hN
  obtain ⟨p2, q2⟩ := srtL_pw (κ := κ') hN
  have p3 : (srtL κ' N).Pairwise (R κ) := by
    refine List.Pairwise.imp_of_mem (fun {a b} ha hb r => ?_) p2
    have ha' : a < N := by simpa using (q2.mem_iff.mp ha)
    have hb' : b < N := by simpa using (q2.mem_iff.mp hb)
    exact h a b ha' hb' r
  exact List.Perm.eq_of_pairwise (fun a b _ _ r r' => (R.asymm r r').elim) p1 p3 (q1.trans q2.symm)
end
end Mine
end
/-! part S6b -/
section
open PySem PySem.W PyProof.Rows
set_option maxHeartbeats 4000000
namespace Mine
/-- every ask is of places below N; the answer has P -/
def OkQ (N : Nat) {α : Type} (P : α → Prop) : KasT α → Prop
  | .ret a => P a
  | .ask i j k => i < N ∧ j < N ∧ ∀ b, OkQ N P (k b)
theorem okq_bind {N : Nat} {α β : Type} {P : α → Prop} {P' : β → Prop} {f : α → KasT β} (hf : ∀ a, P a → OkQ N P' (f a)) : ∀ t : KasT α, OkQ N P t → OkQ N P' (t.bind f)
  | .ret a, h => hf a h
  | .ask _ _ k, h => ⟨h.1, h.2.1, fun b => okq_bind hf (k b) (h.2.2 b)⟩
def Sml (N : Nat) (p : Array Nat) : Prop := ∀ i, p.getD i 0 < N
theorem sml_of {N : Nat} {p : Array Nat} (hN : 1 ≤ N) (h : ∀ x ∈ p, x < N) : Sml N p := fun i => by
  unfold Array.getD
  split
  · exact h _ (by simp)
  · omega
theorem sml_mem {N : Nat} {p : Array Nat} (h : Sml N p) : ∀ x ∈ p, x < N := fun x hx => by
  obtain ⟨i, hi, e⟩ := Array.getElem_of_mem hx
  have := h i
  unfold Array.getD at this
  rw [dif_pos hi] at this
  have e' : p.getInternal i hi = x := e
  omega
theorem sml_perm {N : Nat} {p p' : Array Nat} (hN : 1 ≤ N) (h : Sml N p) (q : p'.Perm p) : Sml N p' := sml_of hN fun x hx => sml_mem h x (q.mem_iff.mp hx)
theorem ok_asc {N : Nat} {p : Array Nat} (h : Sml N p) : ∀ f n, OkQ N (fun _ => True) (kas_asc p f n)
  | 0, _ => trivial
  | f + 1, n => ⟨h _, h _, fun b => by cases b <;> first | exact ok_asc h f (n + 1) | exact trivial⟩
theorem rev_perm (p : Array Nat) (i j : Nat) : (kas_rev p i j).Perm p := mirror_perm _ _ _ _
theorem ok_desc {N : Nat} (hN : 1 ≤ N) : ∀ f p n q, Sml N p → OkQ N (fun r => Sml N r.1) (kas_desc f p n q)
  | 0, p, _, _, h => h
  | f + 1, p, n, q, h => ⟨h _, h _, fun b => by
    cases b with
    | true =>
      show OkQ N _ (if q > 0 then kas_desc f (kas_rev p (n - (q + 1)) n) (n + 1) 0 else kas_desc f p (n + 1) 0)
      split
      · exact ok_desc hN f _ _ _ (sml_perm hN h (rev_perm ..))
      · exact ok_desc hN f _ _ _ h
    | false => exact ⟨h _, h _, fun c => by cases c <;> first | exact ok_desc hN f _ _ _ h | exact h⟩⟩
theorem ok_tail3 {N : Nat} (hN : 1 ≤ N) {p : Array Nat} (h : Sml N p) (n nrem : Nat) : OkQ N (fun r => Sml N r.2) (kas_tail3 n nrem p) := by
  refine okq_bind (P := fun _ => True) (fun m _ => ?_) _ (ok_asc (sml_perm hN h (rev_perm ..)) _ _)
  exact sml_perm (p := p) hN h (rev_perm ..)
theorem ok_descPart {N : Nat} (hN : 1 ≤ N) {p : Array Nat} (h : Sml N p) (n nrem : Nat) : OkQ N (fun r => Sml N r.2) (kas_descPart n nrem p) := by
  refine okq_bind (fun r hr => ?_) _ (ok_desc hN _ _ _ _ h)
  split
  · exact ok_tail3 hN (sml_perm hN hr (rev_perm ..)) _ _
  · exact ok_tail3 hN hr _ _
theorem ok_count {N : Nat} (hN : 1 ≤ N) {p : Array Nat} (h : Sml N p) (nrem : Nat) : OkQ N (fun r => Sml N r.2) (kas_count nrem p) := by
  refine okq_bind (fun n _ => ?_) _ (ok_asc h _ _)
  split
  · exact h
  · split
    · refine ⟨h _, h _, fun b => ?_⟩
      cases b with
      | true => exact h
      | false => exact ok_descPart hN (sml_perm hN h (rev_perm ..)) _ _
    · exact ok_descPart hN h _ _
theorem ok_place {N : Nat} {p : Array Nat} (h : Sml N p) (k : Nat) : ∀ f l r, OkQ N (fun _ => True) (kas_place p k f l r)
  | 0, _, _ => trivial
  | f + 1, l, r => by
    unfold kas_place
    split
    · exact trivial
    · exact ⟨h _, h _, fun b => by cases b <;> exact ok_place h k f _ _⟩
theorem ok_bin {N : Nat} (hN : 1 ≤ N) : ∀ f p k, Sml N p → OkQ N (fun _ => True) (kas_bin f p k)
  | 0, _, _, _ => trivial
  | f + 1, p, k, h => okq_bind (fun l _ => ok_bin hN f _ _ (sml_perm hN h (bubble_perm _ _ _))) _ (ok_place h k _ _ _)
theorem ok_sort {N : Nat} (hN : 1 ≤ N) : OkQ N (fun _ => True) (kas_sort N) := by
  have h0 : Sml N (List.toArray (List.range N)) := sml_of hN fun x hx => by simpa using hx
  refine okq_bind (fun r hr => ?_) _ (ok_count hN h0 N)
  split
  · exact ok_bin hN _ _ _ hr
  · exact trivial
/-- what asks answers, if each ask of places below N is answered by lt -/
theorem wp_runN {N : Nat} {α : Type} {lt : Nat → Nat → Bool} {cmp : Nat → Nat → (Bool → Shared → Prop) → Shared → Prop} {I : Shared → Prop} {P : α → Prop} {Q : α → Shared → Prop}
   (hc : ∀ i j C s, i < N → j < N → I s → (∀ s', I s' → C (lt i j) s') → cmp i j C s) : ∀ (t : KasT α) (s : Shared), OkQ N P t → I s → (∀ s', I s' → Q (run lt t) s') → t.kasWp cmp Q s
  | .ret _, s, _, hs, hq => hq s hs
  | .ask i j k, s, ok, hs, hq => hc i j _ s ok.1 ok.2.1 hs fun s' hs' => wp_runN hc (k (lt i j)) s' (ok.2.2 _) hs' hq
end Mine
end
/-! part S4 -/
section
open PySem PySem.W PyProof.Rows PySem.W.X
set_option maxRecDepth 100000
set_option maxHeartbeats 4000000
namespace Mine
theorem fill7 (P : Params) (h : Heap) : (Mine.hd.heap_1 P).In h → PySem.Challenge.rw_ny0142_01.Holds → True := by
  k_fill
  intro _ _; trivial
theorem ints_len {vs : List Value} {ns : List Int} (h : IntsAre vs ns) : vs.length = ns.length := by
  induction h with
  | nil => rfl
  | cons n t _ ih => simp [ih]
theorem ints_at {vs : List Value} {ns : List Int} (h : IntsAre vs ns) : ∀ {k : Nat}, k < ns.length → ∃ t, vs[k]? = some (.int (ns.getD k 0) t) := by
  induction h with
  | nil => intro k hk; simp at hk
  | cons n t _ ih =>
    intro k hk
    cases k with
    | zero => exact ⟨t, by simp⟩
    | succ k =>
      obtain ⟨t', e⟩ := ih (k := k) (by simpa using hk)
      exact ⟨t', by simpa using e⟩
/-- the call of a lambda -/
theorem enterL {w : World} {A : Around} {s : Shared} {name qual : Str} {params : Arguments} {body : Expr} {scope : Scope} {cl : List (Str × Addr)} {pm ctv : Value} {c' f : Addr} {args : List Value} {binds : List (Str × Value)} {Q E : Value → Shared → Prop}
    (hl : s.heap.NoLimit) (ho : s.heap.get? f = some (kla_obj name qual params body scope cl pm c' ctv)) (hcd : s.heap.CodeRec (.ref c') qual) (hroom : A.depth < recursionLimit)
    (hbind : bindArgs (kla_fn name qual params body scope cl pm (.ref c') ctv) ⟨args, []⟩ = pure binds) (hloc : ∀ y ∈ binds, scope.names.lookup y.1 = some .local)
    (h : ∀ h₁ L, Fr s.heap L h₁ (fun y => binds.reverse.lookup y) → News s.heap L h₁ [] →
      wpAny (model PR w) (A.deeper (envX qual scope L f (.ref c') cl)) (eval body (envX qual scope L f (.ref c') cl)) Q (fun _ _ => False) { s with heap := h₁, toks := s.toks + binds.length })
    (hco : scope.isCoroutine = false) (hgen : scope.isGenerator = false) (hk : scope.kind = .function)
    (hcell : ∀ x ∈ scope.names, x.2 ≠ .cell) : wpAny (model PR w) A (call (.ref f) args) Q E s := by
  refine wpAny_call (kla_callFunE hroom ho rfl hco hgen rfl hcd ?_)
  rw [hbind]
  refine wpAny_pure (wpAny_newFunctionEnv hcell hloc (fun h₁ hns hsb => ⟨hl.fresh _ hsb, ?_⟩) hk)
  have hk₁ : ∀ b o, s.heap.get? b = some o → h₁.get? b = some o := fun b o e => hsb.extBut b o (Nat.ne_of_lt (Heap.lt_size e)) (Heap.get?_push_of_some _ e)
  exact kla_codeExpr (wpAny_mono (h h₁ s.heap.objs.size ⟨hns, hk₁, Nat.le_refl _⟩ News.nil) (fun v s' q => q) fun _ _ x => x.elim)
def LamShape (p : Arguments) (b : Expr) (s : Scope) : Prop := ∃ q1 q2 p1 p2 p3 p4 p5 p6 p7 p8, p = { posonlyargs := [], args := [⟨"j", none, q1⟩, ⟨"k", none, q2⟩], vararg := none, kwonlyargs := [], kw_defaults := [], kwarg := none, defaults := [] } ∧
   b = .Call (.Name "_law_order" p1) [.Subscript (.Name "modes" p2) (.Name "j" p3) p4, .Subscript (.Name "modes" p5) (.Name "k" p6) p7] [] p8 ∧ s = { kind := .function, names := [("j", .local), ("k", .local), ("modes", .free), ("_law_order", .globalImplicit)], isGenerator := false, isCoroutine := false }
/-- lambda j, k: _law_order(modes[j], modes[k]) -/
theorem lam {w : World} {A : Around} {s : Shared} (C : Cx w s.heap) (r : Rm A 5 90) {qual : Str} {params : Arguments} {body : Expr} {scope : Scope} {cm M : Addr} {pm ctv : Value} {c' f : Addr} {vs : List Value} {ms : List Int} {i j : Nat} {ti tj : Tok} {Q E : Value → Shared → Prop}
    (hsh : LamShape params body scope) (ho : s.heap.get? f = some (kla_obj "<lambda>" qual params body scope [("modes", cm)] pm c' ctv)) (hcd : s.heap.CodeRec (.ref c') qual)
    (hcm : s.heap.IsCell cm (some (.ref M))) (hM : s.heap.IsList M vs.toArray) (hms : IntsAre vs ms) (hnn : ∀ n ∈ ms, 0 ≤ n) (hi : i < ms.length) (hj : j < ms.length) (hz : ms.length ≤ 100)
    (hQ : ∀ n t h' tk', s.heap.StaysIn h' → (n < 0 ↔ ms.getD i 0 % 65536 < ms.getD j 0 % 65536) → Q (.int n t) { s with heap := h', toks := tk' }) :
    wpAny (model PR w) A (call (.ref f) [.int i ti, .int j tj]) Q E s := by
  have C0 := C
  obtain ⟨X, loose, mean, mg, mb, T⟩ := C
  obtain ⟨hd, dp, fr, gd, un⟩ := A
  obtain rfl : hd = none := r.handled
  obtain ⟨q1, q2, p1, p2, p3, p4, p5, p6, p7, p8, rfl, rfl, rfl⟩ := hsh
  refine enterL (binds := [("j", .int i ti), ("k", .int j tj)]) T.nolimit ho hcd r.room rfl (locs rfl) ?_ rfl rfl rfl (by decide)
  intro h₁ L F N
  refine wpAny_Call_NameR (nameX_K (v := .ref 112) F X (topRead_of T) (by k_is) ?_ (by rfl) (by rfl) (by decide))
  refine callWith_K (K := Mine.hd.heap_1 w.params) (h₀ := s.heap) X (by k_is) ?_
  have hM1 : h₁.IsList M vs.toArray := hM.at fun o q => F.keep _ _ q
  have hcm1 : h₁.IsCell cm (some (.ref M)) := let ⟨o, e1, e2⟩ := hcm; ⟨o, F.keep _ _ e1, e2⟩
  obtain ⟨t1, g1⟩ := ints_at hms hi
  obtain ⟨t2, g2⟩ := ints_at hms hj
  have nn : ∀ {k : Nat}, k < ms.length → 0 ≤ ms.getD k 0 := fun {k} hk => hnn _ (by
    rw [List.getD, List.getElem?_eq_getElem hk]; exact List.getElem_mem hk)
  refine Calls.spliced_cons (Subscript_ ?_)
  refine wpAny_Name (wpAny_loadName_free (c := cm) (v := .ref M) rfl rfl rfl hcm1 ?_) (by decide)
  refine nameX_L (v := .int i ti) F rfl ?_ (by rfl) (by rfl) (by decide)
  refine item_listL (x := .int (ms.getD i 0) t1) hM1 (by omega) (by omega) (by rw [Int.toNat_natCast]; exact g1) ?_
  refine Calls.spliced_cons (Subscript_ ?_)
  refine wpAny_Name (wpAny_loadName_free (c := cm) (v := .ref M) rfl rfl rfl hcm1 ?_) (by decide)
  refine nameX_L (v := .int j tj) F rfl ?_ (by rfl) (by rfl) (by decide)
  refine item_listL (x := .int (ms.getD j 0) t2) hM1 (by omega) (by omega) (by rw [Int.toNat_natCast]; exact g2) ?_
  refine Calls.spliced_nil ⟨X.keeps F.keep, ?_⟩
  refine ordr (C0.keeps F.keep) (Rm.deeper (Rm.le r (by decide) (by decide))) _ _ (nn hi) (nn hj) _ _ ?_
  intro n t h' tk' st hn
  exact hQ _ _ _ _ (fun b o e => st _ _ (F.keep _ _ e)) hn
end Mine
end
/-! part S5a -/
section
open PySem PySem.W PyProof.Rows PySem.Calls
set_option maxRecDepth 100000
set_option maxHeartbeats 4000000
namespace Mine
/-- the values are the numbers from nought on -/
def Upto (vs : List Value) (n : Nat) : Prop := vs.length = n ∧ ∀ (j : Nat) v, vs[j]? = some v → ∃ t, v = .int j t
section
variable {prog : Program} {w : World} {A : Around} {E : Value → Shared → Prop} {s : Shared}
theorem collect_range {r : Addr} {b : Int} {t u v : Tok} {n : Nat} {Q : List Value → Shared → Prop} (hh : A.handled = none) (hr : IsRange s.heap r 0 b 1 t u v) (hb : b = n) (hlen : n ≤ 1000)
    (hQ : ∀ vs h' tk, (∀ b o, s.heap.get? b = some o → h'.get? b = some o) → Upto vs n → Q vs { s with heap := h', toks := tk }) : wpAny (model prog w) A (collect (.ref r)) Q E s := by
  subst hb
  have hsm : Builtin.Range.small 0 (n : Int) 1 = true := small_one (by decide) (by decide) (by omega) (by omega)
  have hn : Builtin.Range.rangeSize 0 (n : Int) 1 = n := by rw [rangeSize_one]; split <;> omega
  unfold collect
  refine wpAny_bind (wpAny_runValue (codeAny_builtin F.entry_proto_collect ?_))
  rw [Around.under_plainId F.plain_proto_collect _]
  show wpAny _ A.in1 (newList [] >>= fun l => again (.builtin "list.__iadd__" ⟨[l, .ref r], []⟩)) _ _ s
  refine wpAny_bind (wpAny_newObj_type ?_)
  refine wpAny_pure ⟨plainId_quiet F.plain_list_iadd _, codeAny_builtin F.entry_list_iadd ?_⟩
  rw [Around.under_plainId F.plain_list_iadd _]
  have hS : (s.heap.push { cls := .type "list", data := .seq ([] : List Value).toArray }).get? s.heap.objs.size = some { cls := .type "list", data := .seq ([] : List Value).toArray } := Heap.get?_push_size _ rfl
  show wpAny _ A.in1 (Builtin.List.listExtendWith (.ref s.heap.objs.size) (.ref r) (.ref s.heap.objs.size)) _ _ _
  refine wpAny_extend_range (R := fun r s' => match r with
    | .ok (.ret v) => wpAny (model prog w) A (match v with
      | .ref a => do
        let o ← load a
        match o.data with
        | .seq xs _ => pure xs.toList
        | _ => unsupported "internal:collect"
      | _ => unsupported "internal:collect") Q E s'
    | .ok _ => False
    | .error e => E e s') (s := { s with heap := s.heap.push { cls := .type "list", data := .seq ([] : List Value).toArray } }) hh (Heap.get?_push_of_some _ hr) hsm hn (by omega) _ _ 0 hS fun h' tk acc c' hk hS' hacc => ?_
  show wpAny _ A (load s.heap.objs.size >>= _) _ _ _
  refine wpAny_bind (wpAny_load hS' ?_)
  refine wpAny_pure (hQ acc.toList h' tk (fun b o e => hk b o (Nat.ne_of_lt (Heap.lt_size e)) (Heap.get?_push_of_some _ e)) ⟨by simpa using hacc.1, fun j v e => ?_⟩)
  obtain ⟨t, ht⟩ := hacc.2 j v (by simpa using e)
  exact ⟨t, by rw [ht]; simp⟩
end
section
variable {prog : Program} {w : World} {A : Around} {E : Value → Shared → Prop} {s : Shared} {h₀ : Heap} {L : Addr} {m : Str → Option Value} {news : List (Addr × Obj)}
/-- sorted(range(n), key=f) -/
theorem sortedR {r q : Addr} {b : Int} {t u v : Tok} {n : Nat} {Q : Value → Shared → Prop} (hh : A.handled = none) (F : Fr h₀ L s.heap m) (N : News h₀ L s.heap news) (hr : IsRange s.heap r 0 b 1 t u v) (hb : b = n) (h2 : 2 ≤ n) (h64 : n < 64)
    (h : ∀ vs, Upto vs n → ∀ D kS e1 h' tk, Fr h₀ L h' m → News h₀ L h' ((kS, seqObj "list" #[] 0) :: (D, seqObj "list" #[] e1) :: news) → D < kS → (∀ q ∈ news, q.1 < D) →
      KatKeys prog w A.in1.in1 h₀ L m kS (.ref q) (fun ks e s' => wpAny (model prog w) A.in1.in1 (keyKind' (List.toArray ks)) (fun κ s'' => (kas_sort vs.length).kasWp (kas_ask prog w A.in1.in1 κ ks) (fun p s3 => KatFin h₀ L m kS D ks e e1 (p.toList.map fun i => vs.getD i Value.none) (fun s4 => Q (.ref D) s4) s3) s'') (fun _ _ => False) s') vs [] 0 { s with heap := h', toks := tk }) :
    wpAny (model prog w) A (call (.builtin "sorted") [.ref r] [(Str.ofString "key", .ref q)]) Q E s := by
  refine call_function_entry_kw kind_sorted plain_sorted entry_sorted (ksk_s1 _ _) ?_
  unfold Builtin.«sorted»
  refine wpAny_bind (m := checkCount "sorted" 1 1 _) (wpAny_pure ?_)
  refine wpAny_bind (collect_range hh hr hb (by omega) fun vs h1 tk hk hv => ?_)
  have hvl := hv.1
  refine wpAny_bind (wpAny_newList ?_ (by rw [sizeLine_eq]; omega))
  have hoL : (h1.push (seqObj "list" vs.toArray 0)).get? h1.objs.size = some (seqObj "list" vs.toArray 0) := Heap.get?_push_size _ rfl
  have keep : ∀ b o, s.heap.get? b = some o → (h1.push (seqObj "list" vs.toArray 0)).get? b = some o := fun b o e => Heap.get?_push_of_some _ (hk b o e)
  have F1 : Fr h₀ L h1 m := F.kept hk
  have N1 : News h₀ L h1 news := N.grown hk
  have hL : L < h1.objs.size := F1.ns.lt
  refine wpAny_bind (wpAny_holding (wpAny_call_entry_kw slot_list_sort ⟨_, hoL, rfl⟩ entry_list_sort ?body (ksk_l1 _ _)))
  show wpAny (model prog w) A.in1.in1 (Builtin.«list.sort» ⟨[.ref h1.objs.size], [(Str.ofString "key", .ref q)]⟩) _ _ _
  rw [ksk_t1]
  refine kat_keyed (s := { s with heap := h1.push (seqObj "list" vs.toArray 0), toks := tk })
    (F.kept keep) (N.grown keep) hoL (Nat.ne_of_gt hL) (Heap.get?_none_of_le (Nat.le_trans F.above (Nat.le_of_lt hL)))
    (fun p hp => Nat.ne_of_lt (Heap.lt_size (N1 p hp).1)) (by omega) (by omega) fun kS e1 h' F' N' l0 l1 => ?_
  refine kat_keys_mono (h vs hv _ kS e1 h' tk F' N' l0 fun q hq => Heap.lt_size (N1 q hq).1) fun ks e s' hl' hd => ?_
  have hl2 : ks.length = vs.length := by simpa using hl'
  refine wpAny_mono hd (fun κ s'' hk => ?_) fun _ _ x => x
  show (kas_sort vs.length).kasWp (kas_ask prog w A.in1.in1 κ ks) _ s''
  rw [kat_ask_eq (vs := vs) hl2] at hk ⊢
  exact kas_wp_mono hk fun p s3 hk' => hk'.mono fun s4 hq => ⟨_, rfl, wpAny_pure ⟨_, rfl, hq⟩⟩
end
end Mine
end
/-! part S5b -/
section
open PySem PySem.W PyProof.Rows PySem.W.X
set_option maxRecDepth 100000
set_option maxHeartbeats 4000000
namespace Mine
/-- what stands of the class K, the lambda and the list of modes -/
structure KInv (w : World) (h : Heap) (a q M : Addr) (vs : List Value) : Prop where
  cx : Cx w h
  kc : ∃ h0 pI bI sI pL bL sL cl pm, KCls w h0 h a pI bI sI pL bL sL cl pm ∧ InitShape pI bI sI ∧ LtShape pL bL sL ∧ h.IsCell cl (some (.ref q))
  la : ∃ qual params body scope cm pm c' ctv, LamShape params body scope ∧ h.get? q = some (kla_obj "<lambda>" qual params body scope [("modes", cm)] pm c' ctv) ∧ h.CodeRec (.ref c') qual ∧ h.IsCell cm (some (.ref M))
  ls : h.IsList M vs.toArray
def insK (a dx : Addr) (j : Nat) (t : Tok) : Obj := ⟨.ref a, some dx, .plain, #[some (.int j t)]⟩
/-- the keys made so far -/
structure Keys (a : Addr) (ks : List Value) (ys : List (Addr × Obj)) : Prop where
  at_ : ∀ (j : Nat) v, ks[j]? = some v → ∃ y dx t, v = .ref y ∧ (y, insK a dx j t) ∈ ys
section
variable {w : World} {A : Around} {s : Shared} {h₀ : Heap} {L a q M kS D : Addr} {m : Str → Option Value} {news : List (Addr × Obj)} {vs : List Value} {e1 : Nat}
theorem keysK (r : Rm A 8 200) (hI : ∀ h', (∀ b o, h₀.get? b = some o → h'.get? b = some o) → (∀ p ∈ news, h'.get? p.1 = some p.2) → KInv w h' a q M vs) (hD : D ≠ kS) (hnk : ∀ p ∈ news, p.1 ≠ kS)
    {Fin : List Value → Nat → Shared → Prop}
    (hFin : ∀ ks ys e h' tk, ks.length = Nk → Keys a ks ys → (∀ p ∈ ys, p.1 ≠ kS) → Fr h₀ L h' m → News h₀ L h' ((kS, seqObj "list" ks.toArray e) :: (D, seqObj "list" #[] e1) :: (ys ++ news)) → Fin ks e { s with heap := h', toks := tk }) :
    ∀ (rs ks : List Value) (ys : List (Addr × Obj)) (e : Nat) (h : Heap) (tk : Nat), ks.length + rs.length = Nk → (∀ (j : Nat) v, rs[j]? = some v → ∃ t, v = .int ((ks.length + j : Nat) : Int) t) → Keys a ks ys → (∀ p ∈ ys, p.1 ≠ kS) → Fr h₀ L h m →
      News h₀ L h ((kS, seqObj "list" ks.toArray e) :: (D, seqObj "list" #[] e1) :: (ys ++ news)) → KatKeys PR w A h₀ L m kS (.ref a) Fin rs ks e { s with heap := h, toks := tk }
  | [], ks, ys, e, h, tk, hl, _, hk, hyk, F, N => KatKeys.nil (hFin ks ys e h tk (by simpa using hl) hk hyk F N)
  | v :: rs, ks, ys, e, h, tk, hl, hv, hk, hyk, F, N => by
    obtain ⟨t, rfl⟩ := hv 0 v rfl
    have Nn : ∀ p ∈ news, h.get? p.1 = some p.2 := fun p hp => (N p (.tail _ (.tail _ (List.mem_append_right _ hp)))).1
    have J := hI h F.keep Nn
    obtain ⟨h0, pI, bI, sI, pL, bL, sL, cl, pm, KC, hi, _, _⟩ := J.kc
    obtain ⟨lo, me, mg, mb, T⟩ := J.cx.T
    refine KatKeys.cons (mkK KC hi T.nolimit (by have := r.depth; omega) fun y dx h' tk' st hy hy' => ?_)
    have F' := F.kept st
    have N' := N.grown st
    have yk : y ≠ kS := fun z => by
      rw [z, (N _ (.head _)).1] at hy; cases hy
    have yL : y ≠ L := fun z => by
      obtain ⟨o, _, _, e, _⟩ := F.ns
      rw [z, e] at hy; cases hy
    have y0 : h₀.get? y = none := none_of F.keep hy
    refine KatBack.intro (news := (kS, seqObj "list" ks.toArray e) :: (D, seqObj "list" #[] e1) :: (((y, insK a dx ks.length t) :: ys) ++ news)) F' ?_ (UpdF.head ?_) fun h2 c F2 N2 => ?_
    · intro p hp
      rcases List.mem_cons.mp hp with rfl | hp
      · exact N' _ (.head _)
      rcases List.mem_cons.mp hp with rfl | hp
      · exact N' _ (.tail _ (.head _))
      rcases List.mem_cons.mp hp with rfl | hp
      · exact ⟨hy', yL, y0⟩
      · exact N' _ (.tail _ (.tail _ hp))
    · intro p hp
      rcases List.mem_cons.mp hp with rfl | hp
      · exact hD
      rcases List.mem_cons.mp hp with rfl | hp
      · exact yk
      rcases List.mem_append.mp hp with hp | hp
      · exact hyk p hp
      · exact hnk p hp
    · refine keysK r hI hD hnk hFin rs (ks ++ [.ref y]) ((y, insK a dx ks.length t) :: ys) c h2 tk' (by simp at hl ⊢; omega) ?_ ⟨?_⟩ ?_ F2 N2
      · intro j v hj
        obtain ⟨t, e⟩ := hv (j + 1) v (by simpa using hj)
        exact ⟨t, by rw [e]; simp; omega⟩
      · intro j v hj
        rw [List.getElem?_append] at hj
        split at hj
        · obtain ⟨y', dx', t', e1, e2⟩ := hk.at_ j v hj
          exact ⟨y', dx', t', e1, .tail _ e2⟩
        · rename_i q
          have : j = ks.length := by
            obtain ⟨hlt, _⟩ := List.getElem?_eq_some_iff.mp hj
            simp at hlt; omega
          subst this
          have e : Value.ref y = v := by simpa using hj
          exact ⟨y, dx, t, e.symm, .head _⟩
      · intro p hp
        rcases List.mem_cons.mp hp with rfl | hp
        · exact yk
        · exact hyk p hp
end
end Mine
end
/-! part S5c -/
section
open PySem PySem.W PyProof.Rows PySem.W.X
set_option maxRecDepth 100000
set_option maxHeartbeats 4000000
namespace Mine
/-- the key of a place -/
def kap (ms : List Int) (i : Nat) : Nat := (ms.getD i 0 % 65536).toNat
theorem ints_map {vs : List Value} {n : Nat} (hv : Upto vs n) : ∀ (l : List Nat), (∀ i ∈ l, i < n) → IntsAre (l.map fun i => vs.getD i Value.none) (l.map fun (i : Nat) => (i : Int))
  | [], _ => .nil
  | i :: l, h => by
    have hi : i < vs.length := by rw [hv.1]; exact h i (.head _)
    obtain ⟨t, e⟩ := hv.2 i vs[i] (List.getElem?_eq_getElem hi)
    rw [List.map_cons, List.map_cons]
    have e2 : vs.getD i Value.none = .int i t := by rw [← e]; simp [hi]
    rw [e2]
    exact .cons _ _ (ints_map hv l fun j hj => h j (.tail _ hj))
section
variable {w : World} {A : Around} {E : Value → Shared → Prop} {s : Shared} {h₀ : Heap} {L a q M : Addr} {m : Str → Option Value} {news : List (Addr × Obj)} {vs : List Value} {ms : List Int}
theorem sortK {R : Addr} {b : Int} {t u v : Tok} {Q : Value → Shared → Prop} (r : Rm A 20 300) (hI : ∀ h', (∀ b o, h₀.get? b = some o → h'.get? b = some o) → (∀ p ∈ news, h'.get? p.1 = some p.2) → KInv w h' a q M vs)
    (hms : IntsAre vs ms) (hnn : ∀ n ∈ ms, 0 ≤ n) (h2 : 2 ≤ ms.length) (h60 : ms.length ≤ 60) (F : Fr h₀ L s.heap m) (N : News h₀ L s.heap news) (hr : IsRange s.heap R 0 b 1 t u v) (hb : b = (ms.length : Nat))
    (hQ : ∀ D c out h' tk, Fr h₀ L h' m → News h₀ L h' ((D, listOf (List.toArray out) c) :: news) → (∀ q ∈ news, q.1 < D) → IntsAre out ((srtL (kap ms) ms.length).map fun (i : Nat) => (i : Int)) → Q (.ref D) { s with heap := h', toks := tk }) :
    wpAny (model PR w) A (call (.builtin "sorted") [.ref R] [(Str.ofString "key", .ref a)]) Q E s := by
  refine sortedR (n := ms.length) r.handled F N hr hb (by omega) (by omega) fun us hu D kS e1 h' tk F' N' lt1 lt2 => ?_
  have hul := hu.1
  have r2 : Rm A.in1.in1 8 200 := (Rm.in1 (d := 8) (u := 200) (Rm.in1 (d := 8) (u := 201) (r.le (by decide) (by decide))))
  have hD : D ≠ kS := Nat.ne_of_lt lt1
  have hnk : ∀ p ∈ news, p.1 ≠ kS := fun p hp => Nat.ne_of_lt (Nat.lt_trans (lt2 p hp) lt1)
  have hnD : ∀ p ∈ news, p.1 ≠ D := fun p hp => Nat.ne_of_lt (lt2 p hp)
  refine keysK (s := s) (D := D) (news := news) (e1 := e1) r2 hI hD hnk (Nk := ms.length) ?_ us [] [] 0 h' tk (by simpa using hul) (fun j v e => ?_) ⟨fun j v e => by simp at e⟩ (fun p hp => nomatch hp) F' N'
  · intro ks ys e h1 tk1 hkl hk hyk F1 N1
    have at1 : ∀ i, i < ms.length → ∀ h', News h₀ L h' ((kS, seqObj "list" ks.toArray e) :: (D, seqObj "list" #[] e1) :: (ys ++ news)) → ∃ y dx t, ks.getD i Value.none = .ref y ∧ h'.get? y = some (insK a dx i t) := fun i hi h' N' => by
      obtain ⟨y, dx, t, e1, e2⟩ := hk.at_ i ks[i] (List.getElem?_eq_getElem (by omega))
      exact ⟨y, dx, t, by rw [← e1]; simp [show i < ks.length by omega], (N' _ (.tail _ (.tail _ (List.mem_append_left _ e2)))).1⟩
    refine kas_kind (T := .ref a) (by omega) (fun v hv => ?_) (by kernel_rfl) (by simp) ?_
    · obtain ⟨j, hj, rfl⟩ := List.getElem_of_mem hv
      obtain ⟨y, dx, t, e1, e2⟩ := hk.at_ j ks[j] (List.getElem?_eq_getElem hj)
      rw [e1]
      have g := (N1 _ (.tail _ (.tail _ (List.mem_append_left _ e2)))).1
      exact (Looks.ld g).andThen .now
    · rw [hul]
      refine wp_runN (N := ms.length) (lt := lt (kap ms)) (I := fun s' => ∃ h' tk, s' = { s with heap := h', toks := tk } ∧ Fr h₀ L h' m ∧ News h₀ L h' ((kS, seqObj "list" ks.toArray e) :: (D, seqObj "list" #[] e1) :: (ys ++ news))) (fun i j C s' hi hj hs hC => ?_) _ _ (ok_sort (by omega)) ⟨h1, tk1, rfl, F1, N1⟩ fun s' hs => ?_
      · obtain ⟨h2, tk2, rfl, F2, N2⟩ := hs
        obtain ⟨x, dx, tx, ex, hx⟩ := at1 i hi h2 N2
        obtain ⟨y, dy, ty, ey, hy⟩ := at1 j hj h2 N2
        unfold kas_ask
        rw [ex, ey]
        have Nn : ∀ p ∈ news, h2.get? p.1 = some p.2 := fun p hp => (N2 p (.tail _ (.tail _ (List.mem_append_right _ hp)))).1
        have J := hI h2 F2.keep Nn
        obtain ⟨h0, pI, bI, sI, pL, bL, sL, cl, pm, KC, _, hL, hcl⟩ := J.kc
        obtain ⟨qual, params, body, scope, cm, pm', c', ctv, ls, hq, hcd, hcm⟩ := J.la
        obtain ⟨lo, me, mg, mb, T⟩ := J.cx.T
        have ep : (ms.getD i 0 % 65536 < ms.getD j 0 % 65536) ↔ kap ms i < kap ms j := by
          unfold kap
          omega
        refine ltK (P := kap ms i < kap ms j) KC hL T.nolimit (r2.le (by decide) (by decide)) hx hy hcl hq rfl ?_ fun h3 tk3 st => ?_
        · intro A' h3 tk3 Q' E' r3 st hQ'
          refine lam (s := ⟨h3, _, _, tk3, _⟩) (vs := vs) (ms := ms) (J.cx.keeps st) r3 ls (st _ _ hq) (hcd.keeps st) (let ⟨o, e1, e2⟩ := hcm; ⟨o, st _ _ e1, e2⟩) (J.ls.at fun o e => st _ _ e) hms hnn hi hj (by omega) fun n u h4 tk4 st4 hn => ?_
          exact hQ' n u h4 tk4 st4 (hn.trans ep)
        · exact hC _ ⟨h3, tk3, rfl, F2.kept st, N2.grown st⟩
      · obtain ⟨h2, tk2, rfl, F2, N2⟩ := hs
        refine KatFin.intro F2 N2 (UpdF.head ?_) fun h3 c F3 N3 => ?_
        · intro p hp
          rcases List.mem_cons.mp hp with rfl | hp
          · exact hD
          rcases List.mem_append.mp hp with hp | hp
          · exact hyk p hp
          · exact hnk p hp
        refine KasFin.intro F3 (news := (D, seqObj "list" #[] e1) :: news) (fun p hp => ?_) (UpdF.head hnD) fun h4 c4 F4 N4 => ?_
        · rcases List.mem_cons.mp hp with rfl | hp
          · exact N3 _ (.tail _ (.head _))
          · exact N3 _ (.tail _ (.tail _ (List.mem_append_right _ hp)))
        · refine hQ D c4 _ h4 tk2 F4 N4 lt2 ?_
          refine ints_map hu _ fun i hi => ?_
          have := (srtL_pw (κ := kap ms) (N := ms.length) (by omega)).2.mem_iff.mp hi
          simpa using this
  · obtain ⟨t, e⟩ := hu.2 j v e
    exact ⟨t, by rw [e]; simp⟩
end
end Mine
end
/-! part P5 -/
open PySem PySem.W PyProof.Rows in
theorem Mine.flushP5 {M : Model} {A : Around} {env : Env} {Q E : Value → Shared → Prop} {s : Shared} (h : wpAny M A (evalPart none env) Q E s) : wpAny M A (evalPart none env) Q E s := by
  first | (walk1; fail) | (w_top off; exact h)
section
open PySem PySem.W PyProof.Rows PyProof.Rows.LSm
set_option maxRecDepth 100000
set_option maxHeartbeats 4000000
namespace Mine
theorem fill8 (P : Params) (h : Heap) : (Mine.hd.heap_1 P).In h → PySem.Challenge.rw_ny0142_01.Holds → True := by
  k_fill
  intro _ _; trivial
local macro_rules | `(tactic| k_steps) => `(tactic| repeat' ((fail_if_success first
   | (with_reducible show wpAny _ _ (exec (Stmt.While _ _ _ _) _) _ _ _)
   | (with_reducible show wpAny _ _ (exec (Stmt.For _ _ _ _ _) _) _ _ _)
   | (with_reducible show wpAny _ _ (exec (Stmt.Try _ _ _ _ _) _) _ _ _)
   | (with_reducible show wpAny _ _ (eval (Expr.ListComp _ _ _ _) _) _ _ _)
   | (with_reducible show wpAny _ _ (exec (Stmt.Assign _ (Expr.ListComp _ _ _ _) _) _) _ _ _)
   | (with_reducible show wpAny _ _ (call (Value.ref _) _ _) _ _ _)); (first | (k_unfold; (try dsimp only)) | walk1 | (dsimp only; walk1))))
local macro_rules | `(tactic| walk_at "eval Name") => `(tactic| (k_here; k_dflt (refine' ld ?k1 ?k2 ?_; (case k1 => k_asm); (case k2 => first | exact rfl | assumption); k_whole)))
/-- a mode of the law -/
def lmV (x : Int) : Int := x.fmod 16 * 4096 + (x.fdiv 16).fmod 4096 + (x.fdiv 65536).fmod 65536 * 65536
theorem lmV_range (x : Int) : 0 ≤ lmV x ∧ lmV x < 4294967296 := by
  unfold lmV
  rw [Int.fmod_eq_emod_of_nonneg _ (by decide), Int.fmod_eq_emod_of_nonneg _ (by decide), Int.fmod_eq_emod_of_nonneg _ (by decide)]
  generalize x.fdiv 16 = y
  generalize x.fdiv 65536 = z
  omega
theorem lmode {w : World} {A : Around} {s : Shared} (C : Cx w s.heap) (r : Rm A 1 10) (x : Int) (ta : Tok) {Q E : Value → Shared → Prop}
   (hQ : ∀ t h' tk', s.heap.StaysIn h' → Q (.int (lmV x) t) { s with heap := h', toks := tk' }) : wpAny (model PR w) A (call (.ref 98) [.int x ta]) Q E s := by
  obtain ⟨X, loose, mean, mg, mb, T⟩ := C
  obtain ⟨hd, dp, fr, gd, un⟩ := A
  obtain rfl : hd = none := r.handled
  refine enter (binds := [("x", .int x ta)]) X T (by k_is) (by k_is) r.room (BindsTo.of_eq rfl) (locs rfl) ?_ rfl rfl rfl (by decide)
  intro h₁ L tk F N
  k_steps
  exact hQ _ _ _ F.keep
end Mine
end
/-! part P6 -/
open PySem PySem.W PyProof.Rows in
theorem Mine.flushP6 {M : Model} {A : Around} {env : Env} {Q E : Value → Shared → Prop} {s : Shared} (h : wpAny M A (evalPart none env) Q E s) : wpAny M A (evalPart none env) Q E s := by
  first | (walk1; fail) | (w_top off; exact h)
section
open PySem PySem.W PyProof.Rows PyProof.Rows.LSm
set_option maxRecDepth 100000
set_option maxHeartbeats 4000000
namespace Mine
theorem fill9 (P : Params) (h : Heap) : (Mine.hd.heap_1 P).In h → PySem.Challenge.rw_ny0142_01.Holds → True := by
  k_fill
  intro _ _; trivial
local macro_rules | `(tactic| k_steps) => `(tactic| repeat' ((fail_if_success first
   | (with_reducible show wpAny _ _ (exec (Stmt.While _ _ _ _) _) _ _ _)
   | (with_reducible show wpAny _ _ (exec (Stmt.For _ _ _ _ _) _) _ _ _)
   | (with_reducible show wpAny _ _ (exec (Stmt.Try _ _ _ _ _) _) _ _ _)
   | (with_reducible show wpAny _ _ (eval (Expr.ListComp _ _ _ _) _) _ _ _)
   | (with_reducible show wpAny _ _ (exec (Stmt.Assign _ (Expr.ListComp _ _ _ _) _) _) _ _ _)
   | (with_reducible show wpAny _ _ (call (Value.ref _) _ _) _ _ _)); (first | (k_unfold; (try dsimp only)) | walk1 | (dsimp only; walk1))))
local macro_rules | `(tactic| walk_at "eval Name") => `(tactic| (k_here; k_dflt (refine' ld ?k1 ?k2 ?_; (case k1 => k_asm); (case k2 => first | exact rfl | assumption); k_whole)))
section
variable {prog : Program} {w : World} {A : Around} {E : Value → Shared → Prop} {s : Shared}
/-- iter(xs) of a list -/
theorem iter_l {l : Addr} {items : Array Value} {Q : Value → Shared → Prop} (hl : s.heap.IsList l items)
    (h : ∀ (I : Addr) h', (∀ b o, s.heap.get? b = some o → h'.get? b = some o) → s.heap.objs.size ≤ I → h'.IsListIter I l 0 → Q (.ref I) { s with heap := h' }) :
    wpAny (model prog w) A (call (.builtin "iter") [.ref l]) Q E s := by
  refine Calls.call_function_entry (by decide +kernel) (by decide +kernel) kdk_entry_iter (kdk_args_iter _) ?_
  unfold Builtin.«iter»
  refine wpAny_bind (m := someArgs "iter" 1 2 _) (wpAny_of_eq (a := [Value.ref l]) (by first | rfl | kernel_rfl!) ?_)
  show wpAny _ _ (pyIter (.ref l) >>= _) _ _ _
  refine wpAny_bind (wpAny_pyIter_list hl ?_)
  exact wpAny_pure ⟨_, rfl, h _ _ (fun b o e => Heap.get?_push_of_some _ e) (Nat.le_refl _) ⟨_, Heap.get?_push_size _ rfl, rfl, rfl⟩⟩
/-- next(it) of a list's iterator -/
theorem next_l {it l : Addr} {i : Nat} {items : Array Value} {x : Value} {Q : Value → Shared → Prop} (hit : s.heap.IsListIter it l i) (hl : s.heap.IsList l items) (hx : items[i]? = some x)
    (hQ : ∀ h', h'.IsListIter it l (i + 1) → Heap.SameBut it s.heap h' → Q x { s with heap := h' }) : wpAny (model prog w) A (call (.builtin "next") [.ref it]) Q E s := by
  obtain ⟨o, ho, hc, hd⟩ := id hit
  obtain ⟨ol, hol, _, nl, hdl⟩ := hl
  refine Calls.call_function_entry (by decide +kernel) (by decide +kernel) kdk_entry_next (kdk_args_next _) ?_
  unfold Builtin.«next»
  refine wpAny_bind (m := someArgs "next" 1 2 _) (wpAny_of_eq (a := [Value.ref it]) (by first | rfl | kernel_rfl!) ?_)
  dsimp only
  refine wpAny_bind (wpAny_specialOf (name := Str.ofString "__next__") hit.typeIs slot_listiter_next.lookup ?_)
  refine wpAny_ite_split (fun hab => absurd hab (by decide)) (fun _ => ?_)
  refine wpAny_bind (wpAny_callSpecial?_slot (name := Str.ofString "__next__") hit.typeIs slot_listiter_next (wpAny_call_entry slot_listiter_next hit.typeIs entry_listiter_next ?_ (args_listiter_next _)))
  refine wpAny_bind (m := field (.ref it) 0) (wpAny_field ho hd (x := .ref l) rfl ?_)
  refine wpAny_ite (KBy.ite_no (show ¬ ((Value.ref l == Value.none) = true) from Bool.false_ne_true) ?_)
  refine wpAny_bind (m := field (.ref it) 1) (wpAny_field ho hd (x := .int i 0) rfl ?_)
  refine wpAny_bind (m := seqItems? (.ref l)) (wpAny_seqItems hol hdl ?_)
  simp only [Int.toNat_natCast, hx]
  refine wpAny_bind (wpAny_setField ho hd (by simp) (wpAny_pure ⟨x, rfl, wpAny_pure ⟨_, rfl, hQ _ ?_ (Heap.SameBut.update ..)⟩⟩))
  exact ⟨_, Heap.get?_update_self _ ho (Obj.isFreed_of_fields (Obj.data_mapFields hd _)), (Obj.cls_mapFields ..).trans hc, by rw [Obj.data_mapFields hd]; simp [rawInt]⟩
end
theorem ints_len' {vs : List Value} {ns : List Int} (h : IntsAre vs ns) : vs.length = ns.length := by
  induction h with
  | nil => rfl
  | cons n t _ ih => simp [ih]
theorem ints_at' {vs : List Value} {ns : List Int} (h : IntsAre vs ns) : ∀ {k : Nat}, k < ns.length → ∃ t, vs[k]? = some (.int (ns.getD k 0) t) := by
  induction h with
  | nil => intro k hk; simp at hk
  | cons n t _ ih =>
    intro k hk
    cases k with
    | zero => exact ⟨t, by simp⟩
    | succ k =>
      obtain ⟨t', e⟩ := ih (k := k) (by simpa using hk)
      exact ⟨t', by simpa using e⟩
theorem itr_of {h : Heap} {I l : Addr} {i : Nat} {o : Obj} (hit : h.IsListIter I l i) (ho : h.get? I = some o) {h' : Heap} (ho' : h'.get? I = some o) : h'.IsListIter I l i := by
  obtain ⟨o2, e, r⟩ := hit
  rw [ho] at e; cases e
  exact ⟨o, ho', r⟩
section
variable {prog : Program} {w : World} {A : Around} {s : Shared} {env : Env} {h₀ : Heap} {m₀ : Str → Option Value} {Q : Flow → Shared → Prop}
/-- for x in it: .., it a list's iterator at its place i0 -/
theorem loop_itr {x : Str} {px : Pos} {body orelse : List Stmt} {I M : Addr} {items : Array Value} {i0 : Nat} (J : Nat → (Str → Option Value) → Prop)
    (hh : A.handled = none) (hM : h₀.IsList M items) (hI : s.heap.IsListIter I M i0) (nI : h₀.get? I = none) (lI : I ≠ env.locals) (F : Fr h₀ env.locals s.heap m₀) (h0 : J i0 m₀) (hi0 : i0 ≤ items.size)
    (turn : ∀ i v m₁ h₁ tk₁ oI, items[i]? = some v → J i m₁ → Fr h₀ env.locals h₁ m₁ → News h₀ env.locals h₁ [(I, oI)] →
      wpAny (model prog w) A (assign (.Name x px) env v) (fun _ s₂ => wpAny (model prog w) A (execs body env) (Turn h₀ env.locals s Q [(I, oI)] (fun m _ => J (i + 1) m)) (fun _ _ => False) s₂) (fun _ _ => False) { s with heap := h₁, toks := tk₁ })
    (done : ∀ m₁ h₁ tk₁, J items.size m₁ → Fr h₀ env.locals h₁ m₁ → wpAny (model prog w) A (execs orelse env) Q (fun _ _ => False) { s with heap := h₁, toks := tk₁ }) :
    wpAny (model prog w) A (pyIter (.ref I)) (fun it s₂ => codeAny (model prog w) A (.forLoop (.Name x px) it body orelse env) (fun r s' => match r with | .ok f => Q f s' | .error e => cameBackBy (model prog w) A env (fun _ _ => False) e s') s₂) (fun _ _ => False) s := by
  refine wpAny_pyIter_listiter hI ?_
  refine codeAny_forLoop_any (fun k s' => ∃ h' tk m' i, s' = { s with heap := h', toks := tk } ∧ h'.IsListIter I M i ∧ Fr h₀ env.locals h' m' ∧ J i m' ∧ i ≤ items.size ∧ k = items.size + 1 - i) ?_ (items.size + 1 - i0)
    ⟨_, s.toks, m₀, i0, rfl, hI, F, h0, hi0, rfl⟩
  rintro k s' ⟨h', tk, m', i, rfl, hit, F', hJ, hi, rfl⟩
  have hl' : h'.IsList M items := hM.at fun o e => F'.keep M o e
  have old : ∀ b o, h₀.get? b = some o → b ≠ I := fun b o e q => by rw [q, nI] at e; cases e
  cases hv : items[i]? with
  | none =>
    have hsz : i = items.size := Nat.le_antisymm hi (by simpa using hv)
    subst hsz
    refine wpAny_pyNext_list_end hh hit hl' hv fun h₁ he => ?_
    refine wpAny_mono (done m' h₁ tk hJ ⟨F'.ns.extBut he (Ne.symm lI), fun b o e => he b o (old b o e) (F'.keep b o e), F'.above⟩) (fun _ _ x => x) fun _ _ x => x.elim
  | some v =>
    have hlt' : i < items.size := (Array.getElem?_eq_some_iff.mp hv).1
    refine wpAny_pyNext_list_item hit hl' hv fun h₁ hit₁ hs₁ => ?_
    refine wpAny_of_eq (a := ()) rfl ?_
    have F₁ : Fr h₀ env.locals h₁ m' := ⟨F'.ns.sameBut hs₁ (Ne.symm lI), fun b o e => hs₁.extBut b o (old b o e) (F'.keep b o e), F'.above⟩
    obtain ⟨oI, hoI, hcI⟩ := id hit₁
    have NI : News h₀ env.locals h₁ [(I, oI)] := fun p hp => by
      rcases List.mem_cons.mp hp with rfl | hp
      · exact ⟨hoI, lI, nI⟩
      · cases hp
    refine wpAny_mono (turn i v m' h₁ tk oI hv hJ F₁ NI) (fun _ s₂ h₂ => wpAny_mono h₂ (fun f s₃ h₃ => ?_) fun _ _ x => x.elim) fun _ _ x => x.elim
    cases f with
    | brk => exact h₃
    | ret v => exact h₃
    | next =>
      obtain ⟨h₄, tk₄, m₂, news₂, rfl, F₄, N₄, hJ₄⟩ := h₃
      exact ⟨items.size + 1 - (i + 1), by omega, h₄, tk₄, m₂, i + 1, rfl, ⟨oI, (N₄ _ (.head _)).1, hcI⟩, F₄, hJ₄, hlt', rfl⟩
    | cont =>
      obtain ⟨h₄, tk₄, m₂, news₂, rfl, F₄, N₄, hJ₄⟩ := h₃
      exact ⟨items.size + 1 - (i + 1), by omega, h₄, tk₄, m₂, i + 1, rfl, ⟨oI, (N₄ _ (.head _)).1, hcI⟩, F₄, hJ₄, hlt', rfl⟩
end
theorem reduc {w : World} {A : Around} {s : Shared} (C : Cx w s.heap) (r : Rm A 3 60) {f M : Addr} {vs : List Value} {m0 : Int} {ms : List Int} {oq : Obj} {fq : FuncData} (op : Int → Int → Int) (hM : s.heap.IsList M vs.toArray) (hi : IntsAre vs (m0 :: ms)) (hq : s.heap.get? f = some oq) (hqd : oq.data = .func fq)
   (hop : ∀ A' h' tk' x y tx ty (Q' E' : Value → Shared → Prop), Rm A' 2 50 → s.heap.StaysIn h' → 0 ≤ x → 0 ≤ y → (∀ t h'' tk'', h'.StaysIn h'' → Q' (.int (op x y) t) { s with heap := h'', toks := tk'' }) → wpAny (model PR w) A' (call (.ref f) [.int x tx, .int y ty]) Q' E' { s with heap := h', toks := tk' })
   (hpos : ∀ x y, 0 ≤ x → 0 ≤ y → 0 ≤ op x y) (h0 : 0 ≤ m0) (hnn : ∀ n ∈ ms, 0 ≤ n)
   {Q E : Value → Shared → Prop} (hQ : ∀ t h' tk', s.heap.StaysIn h' → Q (.int (ms.foldl op m0) t) { s with heap := h', toks := tk' }) : wpAny (model PR w) A (call (.ref 37) [.ref f, .ref M]) Q E s := by
  obtain ⟨X, loose, mean, mg, mb, T⟩ := C
  obtain ⟨hd, dp, fr, gd, un⟩ := A
  obtain rfl : hd = none := r.handled
  obtain ⟨t0, vs, rfl, hi'⟩ : ∃ t0 vs', vs = .int m0 t0 :: vs' ∧ IntsAre vs' ms := by cases hi; exact ⟨_, _, rfl, by assumption⟩
  refine enter (binds := [("function", .ref f), ("sequence", .ref M), ("initial", .ref 29)]) X T (by k_is) (by k_is) r.room (binds_K X rfl (by k_is) rfl rfl rfl) (locs rfl) ?_ rfl rfl rfl (by decide)
  intro h₁ L tk F N
  k_steps
  refine iter_l (hM.at fun o q => F.keep _ _ q) fun I h2 k2 sI hI => ?_
  obtain ⟨oI, eI, rI⟩ := id hI
  have nI : s.heap.get? I = none := new_none F sI
  have lI : I ≠ L := Nat.ne_of_gt (Nat.lt_of_lt_of_le F.ns.lt sI)
  have F2 := F.kept k2
  have N2 : News s.heap L h2 [(I, oI)] := fun p hp => by
    rcases List.mem_cons.mp hp with rfl | hp
    · exact ⟨eI, lI, nI⟩
    · cases hp
  clear F N
  k_steps
  refine wpAny_Try_except ?_
  k_steps
  (with_reducible rename Fr _ _ _ _ => F9); (with_reducible rename News _ _ _ _ => N9)
  refine next_l (i := 0) (x := .int m0 t0) (itr_of hI eI (N9 _ (.head _)).1) (hM.at fun o q => F9.keep _ _ q) rfl fun h3 hI3 hs3 => ?_
  obtain ⟨o3, e3, r3⟩ := id hI3
  have F3 := F9.change hs3 lI nI
  have N3 : News s.heap L h3 [(I, o3)] := fun p hp => by
    rcases List.mem_cons.mp hp with rfl | hp
    · exact ⟨e3, lI, nI⟩
    · cases hp
  clear F9 N9
  k_steps
  (with_reducible rename Fr _ _ _ _ => F9); (with_reducible rename News _ _ _ _ => N9)
  refine wpAny_For (ld F9 rfl ?_)
  refine loop_itr (env := envOf _ _ L 37 _) (i0 := 1) (items := (Value.int m0 t0 :: vs).toArray) (fun i m => 1 ≤ i ∧ ∃ acc t, m "function" = some (.ref f) ∧ m "value" = some (.int acc t) ∧ 0 ≤ acc ∧ (ms.drop (i - 1)).foldl op acc = ms.foldl op m0) rfl hM (itr_of hI3 e3 (N9 _ (.head _)).1) nI lI F9 ⟨Nat.le_refl _, m0, t0, rfl, rfl, h0, rfl⟩ (by simp) ?_ ?_
  · rintro i v m₁ h₅ tk₅ oI hv ⟨hi1, acc, t, e1, e2, hacc, hfold⟩ F5 N5
    clear F9 N9
    change Fr s.heap L h₅ m₁ at F5
    change News s.heap L h₅ [(I, oI)] at N5
    have hv' : (Value.int m0 t0 :: vs)[i]? = some v := by simpa using hv
    have hlt : i < (m0 :: ms).length := by
      obtain ⟨q, _⟩ := List.getElem?_eq_some_iff.mp hv'
      have := ints_len' hi
      omega
    obtain ⟨tv, ev⟩ := ints_at' hi hlt
    rw [hv'] at ev
    obtain rfl : v = .int ((m0 :: ms).getD i 0) tv := Option.some.inj ev
    k_steps
    (with_reducible rename Fr _ _ _ _ => F9); (with_reducible rename News _ _ _ _ => N9)
    have hnn' : 0 ≤ (m0 :: ms).getD i 0 := by
      rw [List.getD, List.getElem?_eq_getElem hlt]
      rcases List.mem_cons.mp (List.getElem_mem hlt) with q | q
      · show 0 ≤ (m0 :: ms)[i]; rw [q]; exact h0
      · exact hnn _ q
    refine hop _ _ _ _ _ _ _ _ _ (Rm.deeper (Rm.le r (by decide) (by decide))) F9.keep hacc hnn' fun t6 h6 tk6 st6 => ?_
    have F6 := F9.kept st6
    have N6 := N9.grown st6
    clear F9 N9
    k_steps
    (with_reducible rename Fr _ _ _ _ => F9); (with_reducible rename News _ _ _ _ => N9)
    refine Turn.next (news₂ := []) F9 N9 ⟨by omega, _, _, e1, rfl, hpos _ _ hacc hnn', ?_⟩
    rw [← hfold]
    obtain ⟨i, rfl⟩ : ∃ j, i = j + 1 := ⟨i - 1, by omega⟩
    have hlt' : i < ms.length := by simpa using hlt
    rw [show i + 1 + 1 - 1 = i + 1 from rfl, show i + 1 - 1 = i from rfl, List.drop_eq_getElem_cons hlt', List.foldl_cons]
    congr 1
    simp [hlt']
  · rintro m₁ h₅ tk₅ ⟨hi1, acc, t, e1, e2, hacc, hfold⟩ F5
    clear F9 N9
    have N5 : News s.heap L h₅ [] := News.nil
    k_steps
    have e : acc = ms.foldl op m0 := by
      rw [← hfold, List.drop_eq_nil_of_le (by have := ints_len' hi; simp at this ⊢; omega)]; rfl
    rw [e]
    exact hQ _ _ _ F5.keep
end Mine
end
/-! part E4 -/
section
open PySem PySem.W PyProof.Rows
set_option maxRecDepth 100000
namespace Mine
theorem off1_mem {D : Addr} : ∀ {l : List (Addr × Obj)}, LCg.Off1 D l → ∀ p ∈ l, p.1 ≠ D
  | [], _, _, h => nomatch h
  | _ :: _, x, p, h => by
    rcases List.mem_cons.mp h with rfl | h
    · exact x.1
    · exact off1_mem x.2 p h
section
variable {prog : Program} {w : World} {A : Around} {E : Value → Shared → Prop} {s s₁ : Shared} {h₀ : Heap} {L : Addr} {m : Str → Option Value} {env : Env} {elt iter : Expr} {x : Str} {px pos : Pos} {scope : Scope} {cl : List (Str × Addr)} {Q : Value → Shared → Prop} {news : List (Addr × Obj)}
/-- all but the frame stays -/
def But (L : Addr) (h h' : Heap) : Prop := ∀ b o, b ≠ L → h.get? b = some o → h'.get? b = some o
theorem But.of {L : Addr} {h h' : Heap} (st : h.StaysIn h') : But L h h' := fun b o _ e => st b o e
theorem But.trans {L : Addr} {h h' h'' : Heap} (a : But L h h') (b : But L h' h'') : But L h h'' := fun c o n e => b c o n (a c o n e)
theorem But.led {L : Addr} {h₀ h h' : Heap} {news : List (Addr × Obj)} (a : But L h h') (N : News h₀ L h news) : News h₀ L h' news := fun p hp => ⟨a _ _ (N p hp).2.1 (N p hp).1, (N p hp).2⟩
/-- an element is reckoned -/
def ElEnd (h₀ : Heap) (L : Addr) (m : Str → Option Value) (s₁ : Shared) (h : Heap) (V : Value → Prop) (y : Value) (s₂ : Shared) : Prop := ∃ h' tk', s₂ = { s₁ with heap := h', toks := tk' } ∧ Fr h₀ L h' m ∧ But L h h' ∧ V y
theorem ElEnd.intro {h h' : Heap} {tk' : Nat} {V : Value → Prop} {y : Value} (F : Fr h₀ L h' m) (st : But L h h') (hV : V y) : ElEnd h₀ L m s₁ h V y { s₁ with heap := h', toks := tk' } := ⟨h', tk', rfl, F, st, hV⟩
theorem ElEnd.stay {h h' : Heap} {tk' : Nat} {V : Value → Prop} {y : Value} (F : Fr h₀ L h m) (st : h.StaysIn h') (hV : V y) : ElEnd h₀ L m s₁ h V y { s₁ with heap := h', toks := tk' } := ⟨h', tk', rfl, F.kept st, But.of st, hV⟩
theorem ElEnd.now {h : Heap} {tk' : Nat} {V : Value → Prop} {y : Value} (F : Fr h₀ L h m) (hV : V y) : ElEnd h₀ L m s₁ h V y { s₁ with heap := h, toks := tk' } := ⟨h, tk', rfl, F, fun _ _ _ e => e, hV⟩
/-- all objects of a heap behind the elder part, but the frame -/
def allN (h₀ : Heap) (L : Addr) (h : Heap) : List (Addr × Obj) := (List.range h.objs.size).filterMap fun b => match h.get? b, h₀.get? b with
  | some o, none => if b = L then none else some (b, o)
  | _, _ => none
theorem allN_news (h₀ : Heap) (L : Addr) (h : Heap) : News h₀ L h (allN h₀ L h) := fun p hp => by
  obtain ⟨b, _, e⟩ := List.mem_filterMap.mp hp
  split at e
  · rename_i o h1 h2
    split at e
    · cases e
    · rename_i hb
      cases e
      exact ⟨h1, hb, h2⟩
  · cases e
theorem allN_mem {h₀ : Heap} {L : Addr} {h : Heap} {b : Addr} {o : Obj} (h1 : h.get? b = some o) (h2 : h₀.get? b = none) (h3 : b ≠ L) : (b, o) ∈ allN h₀ L h :=
  List.mem_filterMap.mpr ⟨b, List.mem_range.mpr (Heap.lt_size h1), by rw [h1, h2]; exact if_neg h3⟩
theorem allN_but {h₀ : Heap} {L : Addr} {h h' : Heap} {m m' : Str → Option Value} (F : Fr h₀ L h m) (F' : Fr h₀ L h' m') (N : News h₀ L h' (allN h₀ L h)) : But L h h' := fun b o n e => by
  cases e0 : h₀.get? b with
  | none => exact (N _ (allN_mem e e0 n)).1
  | some o' =>
    have := F.keep b o' e0
    rw [e] at this; cases this
    exact F'.keep b o e0
/-- the turns of a comprehension: each element is reckoned without a change of what stands -/
def Turns (prog : Program) (w : World) (A : Around) (h₀ : Heap) (L : Addr) (m : Str → Option Value) (env : Env) (elt : Expr) (x : Str) (scope : Scope) (cl : List (Str × Addr)) (s₁ : Shared) (news : List (Addr × Obj)) (n : Nat) (P : Nat → Value → Prop) (V : Nat → Value → Prop) : Prop :=
  ∀ i v C m₂ h tk (E' : Value → Shared → Prop), i < n → P i v → h.Ns C m₂ → m₂ x = some v → Fr h₀ L h m → News h₀ L h news →
    wpAny (model prog w) A (eval elt (compEnvC scope cl C env)) (ElEnd h₀ L m s₁ h (V i)) E' { s₁ with heap := h, toks := tk }
/-- what is behind a comprehension -/
def Behind (h₀ : Heap) (L : Addr) (m : Str → Option Value) (s₁ : Shared) (news : List (Addr × Obj)) (n : Nat) (V : Nat → Value → Prop) (Q : Value → Shared → Prop) : Prop :=
  ∀ ys D h tk, ys.length = n → (∀ (i : Nat) y, ys[i]? = some y → V i y) → Fr h₀ L h m → News h₀ L h ((D, LCg.lst ys) :: news) → s₁.heap.get? D = none → But L s₁.heap h → Q (.ref D) { s₁ with heap := h, toks := tk }
theorem rest_turns {n : Nat} {P V : Nat → Value → Prop} {S : List (Addr × Obj) → Prop} {s₂ : Shared} (hs : ∃ h, s₂ = { s₁ with heap := h }) (F₁ : Fr h₀ L s₁.heap m) (hS : S (news ++ allN h₀ L s₁.heap))
    (turn : Turns prog w A h₀ L m env elt x scope cl s₁ news n P V) (fin : Behind h₀ L m s₁ news n V Q) :
    LCg.CompRest prog w A h₀ L m env elt x scope cl s₂ S P (LCg.FinE h₀ L m s₂ Q) n 0 [] (news ++ allN h₀ L s₁.heap) := by
  obtain ⟨g, rfl⟩ := hs
  refine rest_pure V ?_ hS ?_
  · intro i v I oI C oC D m₂ ys h tk E' hi hP hC hx F N off ne
    have N' : News h₀ L h news := fun p hp => N p (.tail _ (.tail _ (.tail _ (List.mem_append_left _ hp))))
    refine wpAny_mono (turn i v C m₂ h tk E' hi hP (hC.ns (N _ (.tail _ (.head _))).1) hx F N') (fun y s₂ hq => ?_) fun _ _ e => e
    obtain ⟨h', tk', e, F', st, hV⟩ := hq
    exact ⟨h', tk', e, F', st.led N, hV⟩
  · intro ys hl hV D h tk F N o1
    have o2 := off1_mem o1
    refine fin ys D h tk hl hV F (fun p hp => ?_) ?_ (allN_but F₁ F fun p hp => N p (.tail _ (List.mem_append_right _ hp)))
    · rcases List.mem_cons.mp hp with rfl | hp
      · exact N _ (.head _)
      · exact N _ (.tail _ (List.mem_append_left _ hp))
    · have nD := N (D, LCg.lst ys) (.head _)
      cases e : s₁.heap.get? D with
      | none => rfl
      | some o => exact absurd rfl (o2 (D, o) (List.mem_append_right _ (allN_mem e nD.2.2 nD.2.1)))
theorem news_all (N : News h₀ L s₁.heap news) : News h₀ L s₁.heap (news ++ allN h₀ L s₁.heap) := fun p hp => (List.mem_append.mp hp).elim (N p) (allN_news _ _ _ p)
theorem src_all {ax : Addr} {its : Array Value} {l : List (Addr × Obj)} (S : LCg.SrcAt h₀ ax its news) : LCg.SrcAt h₀ ax its (news ++ l) := S.imp id fun ⟨o, hm, r⟩ => ⟨o, List.mem_append_left _ hm, r⟩
/-- the sources of a comprehension -/
def ListSrc (prog : Program) (w : World) (A : Around) (h₀ : Heap) (L : Addr) (m : Str → Option Value) (env : Env) (elt : Expr) (x : Str) (scope : Scope) (cl : List (Str × Addr)) (V : Nat → Value → Prop) (Q : Value → Shared → Prop) (xv : Value) (s₁ : Shared) : Prop :=
  ∃ ax its news, xv = .ref ax ∧ Fr h₀ L s₁.heap m ∧ News h₀ L s₁.heap news ∧ LCg.SrcAt h₀ ax its news ∧ its.size ≤ sizeLine ∧
      Turns prog w A h₀ L m env elt x scope cl s₁ news its.size (fun i v => its[i]? = some v) V ∧ Behind h₀ L m s₁ news its.size V Q
theorem ListSrc.intro {V : Nat → Value → Prop} {ax : Addr} {its : Array Value} (F : Fr h₀ L s₁.heap m) (N : News h₀ L s₁.heap news) (S : LCg.SrcAt h₀ ax its news) (hz : its.size ≤ sizeLine)
    (turn : Turns prog w A h₀ L m env elt x scope cl s₁ news its.size (fun i v => its[i]? = some v) V) (fin : Behind h₀ L m s₁ news its.size V Q) : ListSrc prog w A h₀ L m env elt x scope cl V Q (.ref ax) s₁ := ⟨ax, its, news, rfl, F, N, S, hz, turn, fin⟩
def RangeSrc (prog : Program) (w : World) (A : Around) (h₀ : Heap) (L : Addr) (m : Str → Option Value) (env : Env) (elt : Expr) (x : Str) (scope : Scope) (cl : List (Str × Addr)) (V : Nat → Value → Prop) (Q : Value → Shared → Prop) (xv : Value) (s₁ : Shared) : Prop :=
  ∃ r a t u v n news, xv = .ref r ∧ Fr h₀ L s₁.heap m ∧ News h₀ L s₁.heap news ∧ IsRange s₁.heap r (a : Nat) ((a + n : Nat) : Int) 1 t u v ∧ a + n ≤ 1000 ∧
      Turns prog w A h₀ L m env elt x scope cl s₁ news n (fun i v => ∃ t, v = .int ((a + i : Nat) : Int) t) V ∧ Behind h₀ L m s₁ news n V Q
/-- [elt for x in a list] -/
theorem comp_list (F₀ : Fr h₀ L s.heap m) (hclos : closureFor scope env = pure cl) (hcell : ∀ y ∈ scope.names, y.2 ≠ .cell) (hkind : scope.kind = .function)
    (hnames : ∀ y ∈ scope.names, y.2 = .local → scope.names.lookup y.1 = some .local) (hx : scope.names.lookup x = some .local) (hh : A.handled = none) (V : Nat → Value → Prop)
    (h : wpAny (model prog w) A (eval iter env) (ListSrc prog w A h₀ L m env elt x scope cl V Q) E s)
    (hs : ∀ x, foldedSetIterable iter env x = pure x := by intro _; rfl) :
    wpAny (model prog w) A (eval (.ListComp elt [⟨.Name x px, iter, [], 0⟩] scope pos) env) Q E s := by
  refine LCg.ListComp_U F₀ hclos hcell hkind hnames hx (wpAny_mono h (fun xv s₁ h₁ => ?_) fun _ _ e => e) hs
  obtain ⟨ax, its, news, rfl, F, N, S, hz, turn, fin⟩ := h₁
  exact .inl ⟨ax, its, news ++ allN h₀ L s₁.heap, rfl, hh, F, news_all N, src_all S, hz, fun s₂ hs₂ => rest_turns hs₂ F (src_all S) turn fin⟩
/-- [elt for x in a range by ones] -/
theorem comp_range (F₀ : Fr h₀ L s.heap m) (hclos : closureFor scope env = pure cl) (hcell : ∀ y ∈ scope.names, y.2 ≠ .cell) (hkind : scope.kind = .function)
    (hnames : ∀ y ∈ scope.names, y.2 = .local → scope.names.lookup y.1 = some .local) (hx : scope.names.lookup x = some .local) (hh : A.handled = none) (V : Nat → Value → Prop)
    (h : wpAny (model prog w) A (eval iter env) (RangeSrc prog w A h₀ L m env elt x scope cl V Q) E s)
    (hs : ∀ x, foldedSetIterable iter env x = pure x := by intro _; rfl) :
    wpAny (model prog w) A (eval (.ListComp elt [⟨.Name x px, iter, [], 0⟩] scope pos) env) Q E s := by
  refine LCg.ListComp_U F₀ hclos hcell hkind hnames hx (wpAny_mono h (fun xv s₁ h₁ => ?_) fun _ _ e => e) hs
  obtain ⟨r, a, t, u, v, n, news, rfl, F, N, hr, hz, turn, fin⟩ := h₁
  refine .inr ⟨r, a, _, t, u, v, n, news ++ allN h₀ L s₁.heap, rfl, hh, F, news_all N, hr, small_one (by omega) (by omega) (by omega) (by omega), by rw [rangeSize_one]; split <;> omega, by rw [sizeLine_eq]; omega, fun s₂ hs₂ => rest_turns hs₂ F trivial ?_ fin⟩
  intro i v C m₂ h tk E' hi hP
  exact turn i v C m₂ h tk E' hi (by obtain ⟨t, e⟩ := hP; exact ⟨t, by rw [e]; congr 1⟩)
/-- [elt for x in bytes] -/
theorem comp_bytes (F₀ : Fr h₀ L s.heap m) (hclos : closureFor scope env = pure cl) (hcell : ∀ y ∈ scope.names, y.2 ≠ .cell) (hkind : scope.kind = .function)
    (hnames : ∀ y ∈ scope.names, y.2 = .local → scope.names.lookup y.1 = some .local) (hx : scope.names.lookup x = some .local) (hh : A.handled = none) (V : Nat → Value → Prop)
    (h : wpAny (model prog w) A (eval iter env) (fun xv s₁ => ∃ b t news, xv = .bytes b t ∧ Fr h₀ L s₁.heap m ∧ News h₀ L s₁.heap news ∧ b.size ≤ sizeLine ∧
      Turns prog w A h₀ L m env elt x scope cl s₁ news b.size (fun i v => ∃ c u, b[i]? = some c ∧ v = .int (c.toNat : Int) u) V ∧ Behind h₀ L m s₁ news b.size V Q) E s)
    (hs : ∀ x, foldedSetIterable iter env x = pure x := by intro _; rfl) :
    wpAny (model prog w) A (eval (.ListComp elt [⟨.Name x px, iter, [], 0⟩] scope pos) env) Q E s := by
  rw [eval_ListComp]
  refine wpAny_comprehension_free (use := none) rfl hs hclos hkind hnames (wpAny_mono h (fun xv s₁ h₁ => ?_) fun _ _ e => e)
  obtain ⟨b, t, news, rfl, F, N, hsz, turn, fin⟩ := h₁
  refine KBw.pyIter_bytes ?_
  have up : ∀ c o, s₁.heap.get? c = some o → (s₁.heap.push { cls := .type "bytes_iterator", data := .fields #[.bytes b t, .int 0 0] }).get? c = some o := fun c o e => Heap.get?_push_of_some _ e
  refine LCg.block_U (S := fun _ => True) (Fin := LCg.FinE h₀ L m s₁ Q) (KBw.walks hh s₁.heap.objs.size b t) hsz (fun i h st => by obtain ⟨o, e, _⟩ := st; exact ⟨o, e⟩) ?_ hcell hkind hx ⟨_, Heap.get?_push_size _ rfl, rfl, rfl⟩ (fun c hc => ?_)
    (F.keeps up) ((news_all N).grown up) (Nat.ne_of_lt F.ns.lt) (next_is_new F) (fun p hp => Nat.ne_of_lt (Heap.lt_size (news_all N p hp).1)) trivial (rest_turns (s₁ := s₁) ⟨_, rfl⟩ F trivial turn fin) ?_
  · intro i h h' o nw st e e' _ _ _
    obtain ⟨o2, q, r⟩ := st
    rw [e] at q; cases q
    exact ⟨o, e', r⟩
  · rw [List.mem_singleton.mp hc]
    show s₁.heap.objs.size < (s₁.heap.push _).objs.size
    rw [Heap.size_push]; exact Nat.lt_succ_self _
  · intro D C h tk m' ys news' F' N' o1 hn hC₀ hD₀ hCL hDL hCD offC fin
    refine ⟨m', hn, fun h'' hs'' => fin D h'' tk (F'.change hs'' hCL hC₀) (fun p hp => ?_) o1⟩
    refine ⟨hs''.extBut _ _ ?_ (N' p hp).1, (N' p hp).2⟩
    rcases List.mem_cons.mp hp with rfl | hp
    · exact Ne.symm hCD
    · exact offC p hp
end
end Mine
end
/-! part E5 -/
section
open PySem PySem.W PyProof.Rows
set_option maxRecDepth 100000
namespace Mine
def cellO (v : Option Value) : Obj := ⟨.type "cell", none, .cell v, #[]⟩
section
variable {prog : Program} {w : World} {A : Around} {E : Value → Shared → Prop} {s s₁ : Shared} {h₀ : Heap} {L : Addr} {m : Str → Option Value} {env : Env} {elt iter : Expr} {x : Str} {px pos : Pos} {scope : Scope} {cl : List (Str × Addr)} {Q : Value → Shared → Prop} {news : List (Addr × Obj)}
/-- the turns of a comprehension whose name is a cell -/
def TurnsC (prog : Program) (w : World) (A : Around) (h₀ : Heap) (L : Addr) (m : Str → Option Value) (env : Env) (elt : Expr) (x : Str) (scope : Scope) (cl : List (Str × Addr)) (s₁ : Shared) (news : List (Addr × Obj)) (n : Nat) (P : Nat → Value → Prop) (V : Nat → Value → Prop) : Prop :=
  ∀ i v C X oX m₂ h tk (E' : Value → Shared → Prop), i < n → P i v → h.Ns C m₂ → oX.data = .cell (some v) → Fr h₀ L h m → News h₀ L h ((X, oX) :: news) → (∀ p ∈ news, p.1 < X) →
    wpAny (model prog w) A (eval elt (compEnvC scope ((x, X) :: cl) C env)) (ElEnd h₀ L m s₁ h (V i)) E' { s₁ with heap := h, toks := tk }
theorem lookup_relabel_cell {env : Env} : ∀ {names : List (Str × NameKind)} {x : Str}, names.lookup x = some .cell →
    (names.map fun (n, k) => if (k == NameKind.free && env.scope.kind == .function && env.kindOf n == some .cell) then (n, NameKind.cell) else (n, k)).lookup x = some .cell
  | [], _, h => by simp at h
  | (n, k) :: r, x, h => by
    rw [List.map_cons]
    by_cases hx : (x == n) = true
    · rw [List.lookup_cons, hx] at h
      have e : k = .cell := by simpa using h
      subst e
      have : (NameKind.cell == NameKind.free) = false := by decide
      simp only [this, Bool.false_and, Bool.false_eq_true, if_false]
      rw [List.lookup_cons, hx]
    · have hx' : (x == n) = false := by simpa using hx
      rw [List.lookup_cons, hx'] at h
      have ih := lookup_relabel_cell (env := env) h
      dsimp only
      by_cases hc : (k == NameKind.free && env.scope.kind == ScopeKind.function && env.kindOf n == some NameKind.cell) = true
      · rw [if_pos hc, List.lookup_cons, hx']; exact ih
      · rw [if_neg hc, List.lookup_cons, hx']; exact ih
def RangeSrcC (prog : Program) (w : World) (A : Around) (h₀ : Heap) (L : Addr) (m : Str → Option Value) (env : Env) (elt : Expr) (x : Str) (scope : Scope) (cl : List (Str × Addr)) (V : Nat → Value → Prop) (Q : Value → Shared → Prop) (xv : Value) (s₁ : Shared) : Prop :=
  ∃ r a t u v n news, xv = .ref r ∧ Fr h₀ L s₁.heap m ∧ News h₀ L s₁.heap news ∧ IsRange s₁.heap r (a : Nat) ((a + n : Nat) : Int) 1 t u v ∧ a + n ≤ 1000 ∧
      TurnsC prog w A h₀ L m env elt x scope cl s₁ news n (fun i v => ∃ t, v = .int ((a + i : Nat) : Int) t) V ∧ Behind h₀ L m s₁ news n V Q
/-- [elt for x in a range by ones], x a cell -/
theorem comp_rangeC (F₀ : Fr h₀ L s.heap m) (hclos : closureFor scope env = pure cl) (hkind : scope.kind = .function)
    (hnames : ∀ y ∈ scope.names, y.2 = .local → scope.names.lookup y.1 = some .local) (hx : scope.names.lookup x = some .cell) (hh : A.handled = none) (V : Nat → Value → Prop)
    (hlay : newFunctionEnv scope env.globals cl [] env.qual none .none (some env) = (alloc ⟨.type "dict", none, .dict #[] 0, #[]⟩ >>= fun C => alloc (cellO none) >>= fun X => pure { scope := scope, locals := C, globals := env.globals, cells := (x, X) :: cl, qual := env.qual, func := none, code := env.code, frame := env.frame, builtins := env.builtins }))
    (h : wpAny (model prog w) A (eval iter env) (RangeSrcC prog w A h₀ L m env elt x scope cl V Q) E s)
    (hs : ∀ x, foldedSetIterable iter env x = pure x := by intro _; rfl) :
    wpAny (model prog w) A (eval (.ListComp elt [⟨.Name x px, iter, [], 0⟩] scope pos) env) Q E s := by
  rw [eval_ListComp]
  refine wpAny_comprehension_free (use := none) rfl hs hclos hkind hnames (wpAny_mono h (fun xv s₁ h₁ => ?_) fun _ _ e => e)
  obtain ⟨r, a, t, u, v, n, news, rfl, F, N, hr, hz, turn, fin⟩ := h₁
  have hsm : Builtin.Range.small (a : Int) ((a + n : Nat) : Int) 1 = true := small_one (by omega) (by omega) (by omega) (by omega)
  have hn : Builtin.Range.rangeSize (a : Int) ((a + n : Nat) : Int) 1 = (n : Nat) := by rw [rangeSize_one]; split <;> omega
  refine wpAny_pyIter_range hr hsm ?_
  obtain ⟨hp, gg, dd, tk0, oo⟩ := s₁
  dsimp only at F N hr ⊢
  generalize hH : hp.push { cls := .type "range_iterator", data := .fields #[rawInt (a : Int), rawInt (Builtin.Range.rangeSize (a : Int) ((a + n : Nat) : Int) 1), rawInt 1] } = H1
  have zI : H1.objs.size = hp.objs.size + 1 := by rw [← hH, Heap.size_push]
  have hit : IsRangeIter H1 hp.objs.size ((a : Int) + ((0 : Nat) : Int) * 1) ((n : Int) - ((0 : Nat) : Int)) 1 := by
    rw [← hH, hn]; simpa using Heap.get?_push_size _ rfl
  have up1 : ∀ b o, hp.get? b = some o → H1.get? b = some o := fun b o e => by rw [← hH]; exact Heap.get?_push_of_some _ e
  refine wpAny_newObj_type ?_
  rw [hlay]
  refine wpAny_bind (wpAny_alloc (wpAny_bind (wpAny_alloc (wpAny_pure ?_))))
  dsimp only
  generalize hH2 : H1.push { cls := .type "list", dict := none, data := .seq ([] : List Value).toArray } = H2
  have zD : H2.objs.size = H1.objs.size + 1 := by rw [← hH2, Heap.size_push]
  generalize hH3 : H2.push (⟨.type "dict", none, .dict #[] 0, #[]⟩ : Obj) = H3
  have zC : H3.objs.size = H2.objs.size + 1 := by rw [← hH3, Heap.size_push]
  generalize hH4 : H3.push (cellO none) = H4
  have up2 : ∀ b o, H1.get? b = some o → H2.get? b = some o := fun b o e => by rw [← hH2]; exact Heap.get?_push_of_some _ e
  have up3 : ∀ b o, H2.get? b = some o → H3.get? b = some o := fun b o e => by rw [← hH3]; exact Heap.get?_push_of_some _ e
  have up4 : ∀ b o, H3.get? b = some o → H4.get? b = some o := fun b o e => by rw [← hH4]; exact Heap.get?_push_of_some _ e
  have gI : hp.objs.size < H1.objs.size := by omega
  have gD : H4.get? H1.objs.size = some (LCg.lst []) := up4 _ _ (up3 _ _ (by rw [← hH2]; exact Heap.get?_push_size _ rfl))
  have gC : H4.Ns H2.objs.size (fun _ => none) := by
    have e : H3.Ns H2.objs.size (fun _ => none) := by rw [← hH3]; exact Heap.Ns.new H2 (.type "dict")
    exact e.keeps up4
  have gX : H4.get? H3.objs.size = some (cellO none) := by rw [← hH4]; exact Heap.get?_push_size _ rfl
  have hitH : IsRangeIter H4 hp.objs.size ((a : Int) + ((0 : Nat) : Int) * 1) ((n : Int) - ((0 : Nat) : Int)) 1 := up4 _ _ (up3 _ _ (up2 _ _ hit))
  have up : ∀ b o, hp.get? b = some o → H4.get? b = some o := fun b o e => up4 _ _ (up3 _ _ (up2 _ _ (up1 _ _ e)))
  generalize hI : hp.objs.size = I at gI hit hitH zI
  generalize hDd : H1.objs.size = D at gI zI zD gD
  generalize hCc : H2.objs.size = C at zD zC gC
  generalize hXx : H3.objs.size = X at zC gX
  have lI : ∀ b o, hp.get? b = some o → b < I := fun b o e => by rw [← hI]; exact Heap.lt_size e
  have hLI : @LT.lt Nat _ L I := by rw [← hI]; exact F.ns.lt
  have f0 : ∀ b, I ≤ b → h₀.get? b = none := fun b hb => by
    cases e : h₀.get? b with
    | none => rfl
    | some o => exact absurd (lI b o (F.keep b o e)) (Nat.not_lt.mpr hb)
  have nb : ∀ p ∈ news, p.1 < I := fun p hp' => lI _ _ (N p hp').1
  have W := LCg.range_walks (prog := prog) (w := w) (A := A) (I := I) hh (a : Int) n
  have eI1 : D = I + 1 := by omega
  have eC1 : C = I + 2 := by omega
  have eX1 : X = I + 3 := by omega
  clear up1 up2 up3 up4 hH hH2 hH3 hH4 hit
  have loop : ∀ s₃ : Shared, s₃ = ⟨H4, gg, dd, tk0, oo⟩ →
      codeAny (model prog w) A (.compLoop (.ListComp elt [⟨.Name x px, iter, [], 0⟩] scope pos) 0 (.ref I) (.ref D) (compEnvC scope ((x, X) :: cl) C env))
        (compPost (model prog w) A E none Q (.ref D) C) s₃ := by
    rintro s₃ rfl
    refine codeAny_compLoop_tests
      (fun k s' => ∃ h' tk i ys ov, s' = ⟨h', gg, dd, tk, oo⟩ ∧ i ≤ n ∧ k = n + 1 - i ∧ ys.length = i ∧ IsRangeIter h' I ((a : Int) + (i : Nat) * 1) ((n : Int) - (i : Nat)) 1 ∧ Fr h₀ L h' m ∧ h'.Ns C (fun _ => none) ∧ h'.IsCell X ov ∧ h'.get? D = some (LCg.lst ys) ∧ News h₀ L h' news ∧
        (∀ (j : Nat) y, ys[j]? = some y → V j y) ∧ But L hp h') ?_ (n + 1)
      ⟨H4, tk0, 0, [], none, rfl, Nat.zero_le _, rfl, rfl, hitH, F.keeps up, gC, ⟨_, gX, rfl⟩, gD, N.grown up, (fun j y e => by simp at e), But.of up⟩
    rintro k s' ⟨h', tk, i, ys, ov, rfl, hi, rfl, hyl, hst', F', hC', hX', hD', N', hV, hB⟩
    have neI : ∀ b o, h₀.get? b = some o → b ≠ I := fun b o e q => by rw [q, f0 I (Nat.le_refl _)] at e; cases e
    by_cases hlt : i < n
    · refine W.item i _ _ _ hlt hst' fun v h₂ tk₂ hPv hst₂ hk₂ => ?_
      have k2 : ∀ b o, b ≠ I → h'.get? b = some o → h₂.get? b = some o := fun b o hb e => hk₂ b o (by simpa using hb) e
      have X2 : h₂.IsCell X ov := by obtain ⟨o, e1, e2⟩ := hX'; exact ⟨o, k2 _ _ (by omega) e1, e2⟩
      refine wpAny_assign_Name (wpAny_storeName_cell (by exact hkind) (lookup_relabel_cell hx) (c := X) (by simp [compEnvC]) X2 fun h₃ X3 hs₃ => ?_)
      have k3 : ∀ b o, b ≠ X → h₂.get? b = some o → h₃.get? b = some o := fun b o hb e => hs₃.extBut b o hb e
      refine wpAny_tests_nil ?_
      simp only [if_true]
      have F₃ : Fr h₀ L h₃ m := ⟨(F'.ns.at' fun o e => k3 _ o (by omega) (k2 _ o (by omega) e)), fun b o e => k3 b o (fun q => by rw [q, f0 X (by omega)] at e; cases e) (k2 b o (neI b o e) (F'.keep b o e)), F'.above⟩
      have N₃ : News h₀ L h₃ news := fun p hp' => ⟨k3 _ _ (Nat.ne_of_lt (Nat.lt_of_lt_of_le (nb p hp') (by omega))) (k2 _ _ (Nat.ne_of_lt (nb p hp')) (N' p hp').1), (N' p hp').2⟩
      have C₃ : h₃.Ns C (fun _ => none) := (hC'.at' fun o e => k3 _ o (by omega) (k2 _ o (by omega) e))
      have D₃ : h₃.get? D = some (LCg.lst ys) := k3 _ _ (by omega) (k2 _ _ (by omega) hD')
      have I₃ : IsRangeIter h₃ I ((a : Int) + ((i + 1 : Nat)) * 1) ((n : Int) - ((i + 1 : Nat))) 1 := k3 _ _ (by omega) hst₂
      obtain ⟨oX, gX3, dX3⟩ := id X3
      have NX : News h₀ L h₃ ((X, oX) :: news) := fun p hp' => by
        rcases List.mem_cons.mp hp' with rfl | hp'
        · exact ⟨gX3, by show X ≠ L; omega, f0 X (by omega)⟩
        · exact N₃ p hp'
      refine wpAny_mono (turn i v C X oX _ h₃ _ _ hlt (by obtain ⟨t, e⟩ := hPv; exact ⟨t, by rw [e]; congr 1⟩) C₃ dX3 F₃ NX fun p hp' => Nat.lt_of_lt_of_le (nb p hp') (by omega)) (fun y s₄ h₄ => ?_) fun _ _ e => e
      obtain ⟨h₄, tk₄, rfl, F₄, st, hVy⟩ := h₄
      have neL : ∀ b, I ≤ b → b ≠ L := fun b hb => by
        have : @LE.le Nat _ I b := hb
        show @Ne Nat b L
        omega
      refine append_at (s := ⟨h₄, gg, dd, tk₄, oo⟩) (hsz := by show ys.toArray.size ≤ sizeLine; rw [List.size_toArray, hyl, sizeLine_eq]; omega) (st _ _ (neL D (by show @LE.le Nat _ I D; omega)) D₃) fun h₅ hs₅ hD₅ => ?_
      rw [LCg.lst_snoc] at hD₅
      have k5 : ∀ b o, b ≠ L → b ≠ D → h₃.get? b = some o → h₅.get? b = some o := fun b o hL hb e => hs₅.extBut b o hb (st _ _ hL e)
      refine ⟨n + 1 - (i + 1), by omega, h₅, tk₄, i + 1, ys ++ [y], some v, rfl, hlt, rfl, by rw [List.length_append, List.length_singleton, hyl], k5 I _ (by show @Ne Nat I L; omega) (by show @Ne Nat I D; omega) I₃, ?_, C₃.at' fun o e => k5 C o (by show @Ne Nat C L; omega) (by show @Ne Nat C D; omega) e, ?_, hD₅, ?_, ?_, ?_⟩
      · exact F₄.change hs₅ (neL D (by show @LE.le Nat _ I D; omega)) (f0 D (by omega))
      · obtain ⟨o, e1, e2⟩ := X3; exact ⟨o, k5 X _ (by show @Ne Nat X L; omega) (by show @Ne Nat X D; omega) e1, e2⟩
      · exact fun p hp' => ⟨k5 _ _ (N₃ p hp').2.1 (Nat.ne_of_lt (Nat.lt_of_lt_of_le (nb p hp') (by omega))) (N₃ p hp').1, (N₃ p hp').2⟩
      · intro j y' hj
        rw [List.getElem?_append] at hj
        split at hj
        · exact hV j y' hj
        · have : j = i := by
            obtain ⟨q, _⟩ := List.getElem?_eq_some_iff.mp hj
            simp at q; omega
          subst this
          have e : y = y' := by simpa [hyl] using hj
          exact e ▸ hVy
      · intro b o hL e
        have hlb := lI b o e
        exact k5 b o hL (Nat.ne_of_lt (Nat.lt_of_lt_of_le hlb (by omega))) (k3 b o (Nat.ne_of_lt (Nat.lt_of_lt_of_le hlb (by omega))) (k2 b o (Nat.ne_of_lt hlb) (hB b o hL e)))
    · obtain rfl : i = n := Nat.le_antisymm hi (Nat.not_lt.mp hlt)
      refine W.done _ _ _ hst' fun h₂ tk₂ hk₂ => ?_
      have k2 : ∀ b o, b ≠ I → h'.get? b = some o → h₂.get? b = some o := fun b o hb e => hk₂ b o (by simpa using hb) e
      refine ⟨_, hC'.at' fun o e => k2 _ o (by omega) e, fun h'' hs'' => ?_⟩
      have k6 : ∀ b o, b ≠ C → b ≠ I → h'.get? b = some o → h''.get? b = some o := fun b o hb hb2 e => hs''.extBut b o hb (k2 b o hb2 e)
      refine fin ys D h'' tk₂ hyl hV ⟨F'.ns.at' fun o e => k6 _ o (by omega) (by omega) e, fun b o e => k6 b o (fun q => by rw [q, f0 C (by omega)] at e; cases e) (neI b o e) (F'.keep b o e), F'.above⟩ (fun p hp' => ?_) (by
        cases e : hp.get? D with
        | none => rfl
        | some o => have : @LT.lt Nat _ D I := lI D o e; omega) fun b o hL e => k6 b o (Nat.ne_of_lt (Nat.lt_of_lt_of_le (lI b o e) (by omega))) (Nat.ne_of_lt (lI b o e)) (hB b o hL e)
      rcases List.mem_cons.mp hp' with rfl | hp'
      · exact ⟨k6 _ _ (by show D ≠ C; omega) (by show D ≠ I; omega) hD', by show D ≠ L; omega, f0 D (by omega)⟩
      · exact ⟨k6 _ _ (Nat.ne_of_lt (Nat.lt_of_lt_of_le (nb p hp') (by omega))) (Nat.ne_of_lt (nb p hp')) (N' p hp').1, (N' p hp').2⟩
  exact codeAny_compStart_list (loop _ rfl) (W.self 0 _ _ _ hitH (loop _ rfl))
end
end Mine
end
/-! part E6 -/
section
open PySem PySem.W PyProof.Rows
set_option maxRecDepth 100000
namespace Mine
theorem ints_snoc {n : Int} {t : Tok} : ∀ {vs : List Value} {ns : List Int}, IntsAre vs ns → IntsAre (vs ++ [.int n t]) (ns ++ [n])
  | _, _, .nil => .cons n t .nil
  | _, _, .cons n' t' h => .cons n' t' (ints_snoc h)
theorem off1_of {D : Addr} : ∀ {l : List (Addr × Obj)}, (∀ p ∈ l, p.1 ≠ D) → LCg.Off1 D l
  | [], _ => trivial
  | _ :: _, h => ⟨h _ (.head _), off1_of fun p hp => h p (.tail _ hp)⟩
theorem fresh_off {h₀ h : Heap} {L D : Addr} {news : List (Addr × Obj)} (N : News h₀ L h news) (hD : h.get? D = none) : LCg.Off1 D news := off1_of fun p hp q => by
  have := (N p hp).1
  rw [q, hD] at this; cases this
section
variable {prog : Program} {w : World} {A : Around} {E : Value → Shared → Prop} {s s₁ : Shared} {h₀ : Heap} {L : Addr} {m : Str → Option Value} {env : Env} {ct elt iter : Expr} {x : Str} {px pos : Pos} {scope : Scope} {cl : List (Str × Addr)} {Q : Value → Shared → Prop} {news : List (Addr × Obj)}
/-- a test is reckoned -/
def TsEnd (s₁ : Shared) (h : Heap) (b : Bool) (ok : Bool) (s₂ : Shared) : Prop := ∃ h' tk', s₂ = { s₁ with heap := h', toks := tk' } ∧ h.StaysIn h' ∧ ok = b
theorem TsEnd.now {s₁ : Shared} {h : Heap} {tk' : Nat} {b ok : Bool} (hV : ok = b) : TsEnd s₁ h b ok { s₁ with heap := h, toks := tk' } := ⟨h, tk', rfl, fun _ _ e => e, hV⟩
def RangeSrcT (prog : Program) (w : World) (A : Around) (h₀ : Heap) (L : Addr) (m : Str → Option Value) (env : Env) (ct elt : Expr) (x : Str) (scope : Scope) (cl : List (Str × Addr)) (B : Nat → Bool) (f : Nat → Int) (Q : Value → Shared → Prop) (xv : Value) (s₁ : Shared) : Prop :=
  ∃ r a t u v n news, xv = .ref r ∧ Fr h₀ L s₁.heap m ∧ News h₀ L s₁.heap news ∧ IsRange s₁.heap r (a : Nat) ((a + n : Nat) : Int) 1 t u v ∧ a + n ≤ 1000 ∧
      (∀ i t C m₂ h tk (E' : Value → Shared → Prop), i < n → h.Ns C m₂ → m₂ x = some (.int ((a + i : Nat) : Int) t) → Fr h₀ L h m → News h₀ L h news →
        wpAny (model prog w) A (isTrue ct (compEnvC scope cl C env) (eval ct (compEnvC scope cl C env))) (TsEnd s₁ h (B i)) E' { s₁ with heap := h, toks := tk }) ∧
      (∀ i t C m₂ h tk (E' : Value → Shared → Prop), i < n → B i = true → h.Ns C m₂ → m₂ x = some (.int ((a + i : Nat) : Int) t) → Fr h₀ L h m → News h₀ L h news →
        wpAny (model prog w) A (eval elt (compEnvC scope cl C env)) (ElEnd h₀ L m s₁ h (fun y => ∃ t, y = .int (f i) t)) E' { s₁ with heap := h, toks := tk }) ∧
      (∀ ys D h tk, IntsAre ys (((List.range n).filter B).map f) → Fr h₀ L h m → News h₀ L h ((D, LCg.lst ys) :: news) → s₁.heap.get? D = none → But L s₁.heap h → Q (.ref D) { s₁ with heap := h, toks := tk })
/-- [elt for x in a range by ones if ct], of ints -/
theorem comp_rangeT (F₀ : Fr h₀ L s.heap m) (hclos : closureFor scope env = pure cl) (hcell : ∀ y ∈ scope.names, y.2 ≠ .cell) (hkind : scope.kind = .function)
    (hnames : ∀ y ∈ scope.names, y.2 = .local → scope.names.lookup y.1 = some .local) (hx : scope.names.lookup x = some .local) (hh : A.handled = none) (B : Nat → Bool) (f : Nat → Int)
    (h : wpAny (model prog w) A (eval iter env) (RangeSrcT prog w A h₀ L m env ct elt x scope cl B f Q) E s)
    (hs : ∀ x, foldedSetIterable iter env x = pure x := by intro _; rfl) :
    wpAny (model prog w) A (eval (.ListComp elt [⟨.Name x px, iter, [ct], 0⟩] scope pos) env) Q E s := by
  refine LCt.ListComp_T F₀ hclos hcell hkind hnames hx (wpAny_mono h (fun xv s₁ h₁ => ?_) fun _ _ e => e) hs
  obtain ⟨r, a, t, u, v, n, news, rfl, F, N, hr, hz, test, el, fin⟩ := h₁
  refine .inr ⟨r, a, _, t, u, v, n, news ++ allN h₀ L s₁.heap, rfl, hh, F, news_all N, hr, small_one (by omega) (by omega) (by omega) (by omega), by rw [rangeSize_one]; split <;> omega, by rw [sizeLine_eq]; omega, fun s₂ hs₂ => ?_⟩
  obtain ⟨g, rfl⟩ := hs₂
  have key : ∀ (j i : Nat) (ys : List Value), i + j = n → IntsAre ys (((List.range i).filter B).map f) → LCt.CompRestT prog w A h₀ L m env ct elt x scope cl { s₁ with heap := g } (fun _ => True) (fun i v => ∃ t, v = .int ((a : Int) + (i : Int)) t) (LCg.FinE h₀ L m { s₁ with heap := g } Q) j i ys (news ++ allN h₀ L s₁.heap) := by
    intro j
    induction j with
    | zero =>
      intro i ys hi hy
      refine LCt.CompRestT.zero ?_
      intro D h tk F' N o1
      obtain rfl : i = n := by omega
      have o2 := off1_mem o1
      refine fin ys D h tk hy F' (fun p hp => ?_) ?_ (allN_but F F' fun p hp => N p (.tail _ (List.mem_append_right _ hp)))
      · rcases List.mem_cons.mp hp with rfl | hp
        · exact N _ (.head _)
        · exact N _ (.tail _ (List.mem_append_left _ hp))
      · have nD := N (D, LCg.lst ys) (.head _)
        cases e : s₁.heap.get? D with
        | none => rfl
        | some o => exact absurd rfl (o2 (D, o) (List.mem_append_right _ (allN_mem e nD.2.2 nD.2.1)))
    | succ j ih =>
      intro i ys hi hy
      refine LCt.CompRestT.succ ?_
      rintro v I oI C oC D m₂ h tk E' ⟨t, rfl⟩ hC hx F N off ne
      have e : (a : Int) + (i : Int) = ((a + i : Nat) : Int) := by push_cast; rfl
      rw [e] at hx
      have N' : News h₀ L h news := fun p hp => N p (.tail _ (.tail _ (.tail _ (List.mem_append_left _ hp))))
      refine wpAny_mono (test i t C m₂ h tk E' (by omega) (hC.ns (N _ (.tail _ (.head _))).1) hx F N') (fun ok s₂ hq => ?_) fun _ _ e => e
      obtain ⟨h', tk', rfl, st, rfl⟩ := hq
      have er : (List.range (i + 1)).filter B = (List.range i).filter B ++ (if B i = true then [i] else []) := by
        rw [List.range_succ, List.filter_append]
        congr 1
        by_cases hb : B i = true <;> simp [hb]
      by_cases hb : B i = true
      · rw [if_pos hb]
        have N2 := N.grown st
        have N2' : News h₀ L h' news := fun p hp => N2 p (.tail _ (.tail _ (.tail _ (List.mem_append_left _ hp))))
        refine wpAny_mono (el i t C m₂ h' tk' E' (by omega) hb (hC.ns (N2 _ (.tail _ (.head _))).1) hx (F.kept st) N2') (fun y s₃ hq => ?_) fun _ _ e => e
        obtain ⟨h3, tk3, rfl, F3, st3, t3, rfl⟩ := hq
        refine ⟨h3, tk3, _, rfl, F3, st3.led N2, off, trivial, ih (i + 1) _ (by omega) ?_⟩
        rw [er, if_pos hb, List.map_append]
        exact ints_snoc hy
      · rw [if_neg hb]
        refine ⟨h', tk', _, rfl, F.kept st, N.grown st, off, trivial, ih (i + 1) _ (by omega) ?_⟩
        rw [er, if_neg hb, List.append_nil]
        exact hy
  exact key n 0 [] (by omega) .nil
end
section
variable {prog : Program} {w : World} {A : Around} {s : Shared} {env : Env} {h₀ : Heap} {m₀ : Str → Option Value} {news₀ : List (Addr × Obj)} {Q : Flow → Shared → Prop}
/-- for x in a range by ones -/
theorem loop_rng {x : Str} {px : Pos} {body orelse : List Stmt} {R : Addr} {n : Nat} {t u v : Tok} (J : Nat → (Str → Option Value) → List (Addr × Obj) → Prop) (adr : List Addr)
    (hh : A.handled = none) (hr : IsRange s.heap R 0 (n : Nat) 1 t u v) (hn : n ≤ 1000) (F : Fr h₀ env.locals s.heap m₀) (N : News h₀ env.locals s.heap news₀) (h0 : J 0 m₀ news₀) (ha : ∀ i m n, J i m n → n.map (·.1) = adr)
    (turn : ∀ i ti m₁ news₁ h₁ tk₁ I oI, i < n → J i m₁ news₁ → Fr h₀ env.locals h₁ m₁ → News h₀ env.locals h₁ ((I, oI) :: news₁) → (∀ p ∈ news₁, p.1 < I) →
      wpAny (model prog w) A (assign (.Name x px) env (.int (i : Nat) ti)) (fun _ s₂ => wpAny (model prog w) A (execs body env) (Turn h₀ env.locals s Q [(I, oI)] (J (i + 1))) (fun _ _ => False) s₂) (fun _ _ => False) { s with heap := h₁, toks := tk₁ })
    (done : ∀ m₁ news₁ h₁ tk₁, J n m₁ news₁ → Fr h₀ env.locals h₁ m₁ → News h₀ env.locals h₁ news₁ → wpAny (model prog w) A (execs orelse env) Q (fun _ _ => False) { s with heap := h₁, toks := tk₁ }) :
    wpAny (model prog w) A (pyIter (.ref R)) (fun it s₂ => codeAny (model prog w) A (.forLoop (.Name x px) it body orelse env) (fun r s' => match r with | .ok f => Q f s' | .error e => cameBackBy (model prog w) A env (fun _ _ => False) e s') s₂) (fun _ _ => False) s := by
  have hsm : Builtin.Range.small (0 : Int) ((n : Nat) : Int) 1 = true := small_one (by decide) (by decide) (by omega) (by omega)
  have hz : Builtin.Range.rangeSize (0 : Int) ((n : Nat) : Int) 1 = (n : Nat) := by rw [rangeSize_one]; split <;> omega
  refine wpAny_pyIter_range hr hsm ?_
  have hadr : news₀.map (·.1) = adr := ha _ _ _ h0
  have hlt : ∀ a ∈ adr, a < s.heap.objs.size := fun a hq => by
    rw [← hadr] at hq
    obtain ⟨p, hp, rfl⟩ := List.mem_map.mp hq
    exact Heap.lt_size (N p hp).1
  have hIn : h₀.get? s.heap.objs.size = none := new_none F (Nat.le_refl _)
  have hIL : s.heap.objs.size ≠ env.locals := Nat.ne_of_gt F.ns.lt
  have W := LCg.range_walks (prog := prog) (w := w) (A := A) (I := s.heap.objs.size) hh 0 n
  refine codeAny_forLoop_any (fun k s' => ∃ h' tk m' news' i, s' = { s with heap := h', toks := tk } ∧ IsRangeIter h' s.heap.objs.size ((0 : Int) + (i : Nat) * 1) ((n : Int) - (i : Nat)) 1 ∧ Fr h₀ env.locals h' m' ∧ News h₀ env.locals h' news' ∧ J i m' news' ∧ i ≤ n ∧ k = n + 1 - i) ?_ (n + 1)
    ⟨_, s.toks, m₀, news₀, 0, rfl, (by show IsRangeIter _ _ _ _ _; rw [hz]; simpa using Heap.get?_push_size _ rfl), F.push _, (fun p hp => ⟨Heap.get?_push_of_some _ (N p hp).1, (N p hp).2⟩), h0, Nat.zero_le _, rfl⟩
  rintro k s' ⟨h', tk, m', news', i, rfl, hit, F', N', hJ, hi, rfl⟩
  have hn' : ∀ p ∈ news', p.1 < s.heap.objs.size := fun p hp => hlt _ (by rw [← ha _ _ _ hJ]; exact List.mem_map_of_mem hp)
  have old : ∀ b o, h₀.get? b = some o → b ≠ s.heap.objs.size := fun b o e q => by rw [q, hIn] at e; cases e
  by_cases hlt' : i < n
  · refine W.item i _ _ _ hlt' hit fun v h₁ tk₁ hP hit₁ hk₁ => ?_
    obtain ⟨ti, rfl⟩ := hP
    have k1 : ∀ b o, b ≠ s.heap.objs.size → h'.get? b = some o → h₁.get? b = some o := fun b o hb e => hk₁ b o (by simpa using hb) e
    refine wpAny_of_eq (a := ()) rfl ?_
    have F₁ : Fr h₀ env.locals h₁ m' := ⟨F'.ns.at' fun o e => k1 _ o (Ne.symm hIL) e, fun b o e => k1 b o (old b o e) (F'.keep b o e), F'.above⟩
    have N₁ : News h₀ env.locals h₁ news' := fun p hp => ⟨k1 _ _ (Nat.ne_of_lt (hn' p hp)) (N' p hp).1, (N' p hp).2⟩
    have hg : h₁.get? s.heap.objs.size = some _ := hit₁
    have NI : News h₀ env.locals h₁ ((s.heap.objs.size, _) :: news') := fun p hp => by
      rcases List.mem_cons.mp hp with rfl | hp
      · exact ⟨hg, hIL, hIn⟩
      · exact N₁ p hp
    have e0 : (0 : Int) + (i : Int) = ((i : Nat) : Int) := by omega
    rw [e0]
    refine wpAny_mono (turn i ti m' news' h₁ tk₁ _ _ hlt' hJ F₁ NI hn') (fun _ s₂ h₂ => wpAny_mono h₂ (fun f s₃ h₃ => ?_) fun _ _ x => x.elim) fun _ _ x => x.elim
    cases f with
    | brk => exact h₃
    | ret v => exact h₃
    | next =>
      obtain ⟨h₄, tk₄, m₂, news₂, rfl, F₄, N₄, hJ₄⟩ := h₃
      exact ⟨n + 1 - (i + 1), by omega, h₄, tk₄, m₂, news₂, i + 1, rfl, (N₄ _ (.head _)).1, F₄, fun p hp => N₄ p (.tail _ hp), hJ₄, hlt', rfl⟩
    | cont =>
      obtain ⟨h₄, tk₄, m₂, news₂, rfl, F₄, N₄, hJ₄⟩ := h₃
      exact ⟨n + 1 - (i + 1), by omega, h₄, tk₄, m₂, news₂, i + 1, rfl, (N₄ _ (.head _)).1, F₄, fun p hp => N₄ p (.tail _ hp), hJ₄, hlt', rfl⟩
  · obtain rfl : i = n := by omega
    refine W.done _ _ _ hit fun h₁ tk₁ hk₁ => ?_
    have k1 : ∀ b o, b ≠ s.heap.objs.size → h'.get? b = some o → h₁.get? b = some o := fun b o hb e => hk₁ b o (by simpa using hb) e
    refine wpAny_mono (done m' news' h₁ tk₁ hJ ⟨F'.ns.at' fun o e => k1 _ o (Ne.symm hIL) e, fun b o e => k1 b o (old b o e) (F'.keep b o e), F'.above⟩ fun p hp => ⟨k1 _ _ (Nat.ne_of_lt (hn' p hp)) (N' p hp).1, (N' p hp).2⟩) (fun _ _ x => x) fun _ _ x => x.elim
end
end Mine
end
/-! part P7 -/
open PySem PySem.W PyProof.Rows in
theorem Mine.flushP7 {M : Model} {A : Around} {env : Env} {Q E : Value → Shared → Prop} {s : Shared} (h : wpAny M A (evalPart none env) Q E s) : wpAny M A (evalPart none env) Q E s := by
  first | (walk1; fail) | (w_top off; exact h)
section
open PySem PySem.W PyProof.Rows PyProof.Rows.LSm
set_option maxRecDepth 100000
set_option maxHeartbeats 4000000
namespace Mine
theorem fill10 (P : Params) (h : Heap) : (Mine.hd.heap_1 P).In h → PySem.Challenge.rw_ny0142_01.Holds → True := by
  k_fill
  intro _ _; trivial
local macro_rules | `(tactic| k_steps) => `(tactic| repeat' ((fail_if_success first
   | (with_reducible show wpAny _ _ (exec (Stmt.While _ _ _ _) _) _ _ _)
   | (with_reducible show wpAny _ _ (exec (Stmt.For _ _ _ _ _) _) _ _ _)
   | (with_reducible show wpAny _ _ (exec (Stmt.Try _ _ _ _ _) _) _ _ _)
   | (with_reducible show wpAny _ _ (eval (Expr.ListComp _ _ _ _) _) _ _ _)
   | (with_reducible show wpAny _ _ (exec (Stmt.Assign _ (Expr.ListComp _ _ _ _) _) _) _ _ _)
   | (with_reducible show wpAny _ _ (call (Value.ref _) _ _) _ _ _)); (first | (k_unfold; (try dsimp only)) | walk1 | (dsimp only; walk1))))
local macro_rules | `(tactic| walk_at "eval Name") => `(tactic| (k_here; k_dflt (refine' ld ?k1 ?k2 ?_; (case k1 => k_asm); (case k2 => first | exact rfl | assumption); k_whole)))
local macro_rules | `(tactic| tb_start) => `(tactic| first | assumption | exact Cx.keeps (by assumption) (Fr.keep (by k_asm)))
local macro_rules | `(tactic| tb_rel) => `(tactic| first | exact Rm.deeper (Rm.le (by assumption) (by decide) (by decide)) | exact Rm.le (by assumption) (by decide) (by decide))
local macro_rules | `(tactic| ktr_unf) => `(tactic| ((with_reducible rename Heap.StaysIn _ _ => st9); (k_dflt (have F9 := Fr.kept (by k_asm) st9)); (k_dflt (have N9 := News.grown (by k_asm) st9)); (clear st9); (try k_sweep)))
local macro_rules | `(tactic| walk_at "eval Name") => `(tactic| (k_here; (with_reducible show wpAny _ _ (eval (Expr.Name _ _) (compEnvC _ _ _ _)) _ _ _); k_dflt (first
  | refine ldVarK (by assumption) (by assumption) ?_
  | refine wpAny_Name (wpAny_loadName_free rfl rfl rfl (by assumption) ?_) (by decide)
  | refine wpAny_Name (wpAny_loadName_cell rfl rfl rfl (by assumption) ?_) (by decide)
  | refine LCgL.ld_global (by k_asm) (by k_asm) (by k_asm) (by k_is) ?_
  | refine LCgL.ld_built (by k_asm) (by k_asm) (by k_asm) (by k_is) (by boot_by_name) (by decide) ?_)))
/-- the places of the letters -/
def plV (n : Int) : List Int := List.replicate (8 - (apI n.toNat).length) 0 ++ (apI n.toNat).map (· - 65)
theorem ints_of {l : List Int} : ∀ {ys : List Value}, ys.length = l.length → (∀ (i : Nat) y, ys[i]? = some y → ∃ t, y = .int (l.getD i 0) t) → IntsAre ys l := by
  induction l with
  | nil => intro ys hl _; cases ys with | nil => exact .nil | cons _ _ => simp at hl
  | cons a l ih =>
    intro ys hl h
    cases ys with
    | nil => simp at hl
    | cons y ys =>
      obtain ⟨t, e⟩ := h 0 y rfl
      have e' : y = .int a t := by simpa using e
      subst e'
      exact .cons _ _ (ih (by simpa using hl) fun i y hy => by
        obtain ⟨t, e⟩ := h (i + 1) y (by simpa using hy)
        exact ⟨t, by simpa using e⟩)
theorem placs {w : World} {A : Around} {s : Shared} (C : Cx w s.heap) (r : Rm A 3 60) (n : Int) (h0 : 0 ≤ n) (h1 : n < 4294967296) (ta : Tok) {Q E : Value → Shared → Prop}
   (hQ : ∀ D out h' tk', s.heap.StaysIn h' → h'.IsList D (List.toArray out) → s.heap.get? D = none → IntsAre out (plV n) → Q (.ref D) { s with heap := h', toks := tk' }) : wpAny (model PR w) A (call (.ref 117) [.int n ta]) Q E s := by
  have C0 := C
  obtain ⟨X, loose, mean, mg, mb, T⟩ := C
  obtain ⟨hd, dp, fr, gd, un⟩ := A
  obtain rfl : hd = none := r.handled
  refine enter (binds := [("mode", .int n ta)]) X T (by k_is) (by k_is) r.room (BindsTo.of_eq rfl) (locs rfl) ?_ rfl rfl rfl (by decide)
  intro h₁ L tk F N
  k_steps
  refine int2ap (C0.keeps F.keep) (by tb_rel) _ h0 h1 _ ?_
  intro b t h2 tk2 st hb
  ktr_unf
  have hz := ap_size hb h1
  k_steps
  (with_reducible rename Fr _ _ _ _ => F9); (with_reducible rename News _ _ _ _ => N9)
  refine comp_bytes (cl := []) F9 rfl (by decide) rfl (by decide) rfl rfl (fun i v => ∃ t, v = .int ((apI n.toNat).getD i 0 - 65) t) (ld F9 rfl ?_)
  refine ⟨b, t, _, rfl, F9, N9, by rw [sizeLine_eq]; omega, ?_, ?_⟩
  · rintro i v C m₂ h5 tk5 E' hi ⟨c, u, hc, rfl⟩ hC hx F5 N5
    clear F9 N9
    have hci := KBw.ints_get hc
    rw [hb] at hci
    have e : ((c.toNat : Nat) : Int) = (apI n.toNat).getD i 0 := by rw [List.getD, hci]; rfl
    k_steps
    rw [e]
    exact ElEnd.now F5 ⟨_, rfl⟩
  · intro ys D h5 tk5 hl hy F5 N5 hnD hB
    clear F9 N9
    have hyi : IntsAre ys ((apI n.toNat).map (· - 65)) := by
      have lb : b.size = (apI n.toNat).length := by rw [← hb, KBw.ints_length]
      refine ints_of (by rw [hl, List.length_map]; exact lb) fun i y e => ?_
      obtain ⟨t, e2⟩ := hy i y e
      have hlt : i < (apI n.toNat).length := by
        obtain ⟨q, _⟩ := List.getElem?_eq_some_iff.mp e
        omega
      exact ⟨t, by rw [e2]; simp [List.getD, hlt]⟩
    k_steps
    (with_reducible rename Fr _ _ _ _ => F9); (with_reducible rename News _ _ _ _ => N9)
    rename IntsAre (List.flatten _) _ => i1
    dsimp only at N9 ⊢
    have n9 := N9 _ (.head _)
    have hf : (List.replicate ((8 : Int) - (b.size : Int)).toNat [(0 : Int)]).flatten = List.replicate (8 - (apI n.toNat).length) 0 := by
      have lb : b.size = (apI n.toNat).length := by rw [← hb, KBw.ints_length]
      rw [← lb, show ((8 : Int) - (b.size : Int)).toNat = 8 - b.size by omega]
      generalize 8 - b.size = k
      induction k with
      | zero => rfl
      | succ k ih => rw [List.replicate_succ, List.flatten_cons, ih, List.replicate_succ]; rfl
    rw [hf] at i1
    exact hQ _ _ _ _ F9.keep ⟨_, n9.1, rfl, 0, rfl⟩ n9.2.2 (i1.append hyi)
end Mine
end
/-! part P9 -/
open PySem PySem.W PyProof.Rows in
theorem Mine.flushP9 {M : Model} {A : Around} {env : Env} {Q E : Value → Shared → Prop} {s : Shared} (h : wpAny M A (evalPart none env) Q E s) : wpAny M A (evalPart none env) Q E s := by
  first | (walk1; fail) | (w_top off; exact h)
section
open PySem PySem.W PyProof.Rows PyProof.Rows.LSm
set_option maxRecDepth 100000
set_option maxHeartbeats 4000000
namespace Mine
theorem fill11 (P : Params) (h : Heap) : (Mine.hd.heap_1 P).In h → PySem.Challenge.rw_ny0142_01.Holds → True := by
  k_fill
  intro _ _; trivial
local macro_rules | `(tactic| k_steps) => `(tactic| repeat' ((fail_if_success first
   | (with_reducible show wpAny _ _ (exec (Stmt.While _ _ _ _) _) _ _ _)
   | (with_reducible show wpAny _ _ (exec (Stmt.For _ _ _ _ _) _) _ _ _)
   | (with_reducible show wpAny _ _ (exec (Stmt.Try _ _ _ _ _) _) _ _ _)
   | (with_reducible show wpAny _ _ (pyIter _) _ _ _)
   | (with_reducible show wpAny _ _ (eval (Expr.ListComp _ _ _ _) _) _ _ _)
   | (with_reducible show wpAny _ _ (exec (Stmt.Assign _ (Expr.ListComp _ _ _ _) _) _) _ _ _)
   | (with_reducible show wpAny _ _ (call (Value.ref _) _ _) _ _ _)); (first | (k_unfold; (try dsimp only)) | walk1 | (dsimp only; walk1))))
local macro_rules | `(tactic| walk_at "eval Name") => `(tactic| (k_here; k_dflt (refine' ld ?k1 ?k2 ?_; (case k1 => k_asm); (case k2 => first | exact rfl | assumption); k_whole)))
local macro_rules | `(tactic| tb_start) => `(tactic| first | assumption | exact Cx.keeps (by assumption) (Fr.keep (by k_asm)))
local macro_rules | `(tactic| tb_rel) => `(tactic| first | exact Rm.deeper (Rm.le (by assumption) (by decide) (by decide)) | exact Rm.le (by assumption) (by decide) (by decide))
local macro_rules | `(tactic| ktr_unf) => `(tactic| ((with_reducible rename Heap.StaysIn _ _ => st9); (k_dflt (have F9 := Fr.kept (by k_asm) st9)); (k_dflt (have N9 := News.grown (by k_asm) st9)); (clear st9); (try k_sweep)))
local macro_rules | `(tactic| walk_at "eval Name") => `(tactic| (k_here; (with_reducible show wpAny _ _ (eval (Expr.Name _ _) (compEnvC _ _ _ _)) _ _ _); k_dflt (first
  | refine ldVarK (by assumption) (by assumption) ?_
  | refine wpAny_Name (wpAny_loadName_free rfl rfl rfl (by assumption) ?_) (by decide)
  | refine wpAny_Name (wpAny_loadName_cell rfl rfl rfl (by assumption) ?_) (by decide)
  | refine LCgL.ld_global (by k_asm) (by k_asm) (by k_asm) (by k_is) ?_
  | refine LCgL.ld_built (by k_asm) (by k_asm) (by k_asm) (by k_is) (by boot_by_name) (by decide) ?_)))
local macro_rules | `(tactic| walk_at "eval Name") => `(tactic| (k_here; (with_reducible show wpAny _ _ (eval (Expr.Name _ _) (envOfC _ _ _ _ _)) _ _ _); k_dflt (refine' nameX_L ?k1 ?k2 ?_ ?k3 ?k4 ?k5; (case k1 => k_asm); (case k3 => rfl); (case k4 => rfl); (case k5 => decide); (case k2 => assumption); k_whole)))
/-- the bit j of the digit k of a mode -/
def bitV (k j : Nat) (m : Int) : Bool := decide (m / 16 ^ (7 - k) % 16 / 2 ^ j % 2 = 1)
/-- the letter k of modes -/
def letV (jd : List Bool → Bool) (ms : List Int) (k : Nat) : Int := (((List.range 4).filter fun j => jd (ms.map (bitV k j))).map fun j => (2 : Int) ^ j).sum
/-- what a judge does -/
def Jud (w : World) (h : Heap) (J : Addr) (jd : List Bool → Bool) : Prop := (∃ o fd, h.get? J = some o ∧ o.data = .func fd) ∧
  ∀ A (s : Shared) l us bs (Q E : Value → Shared → Prop), Rm A 1 10 → Cx w s.heap → s.heap.IsList l (List.toArray us) → BoolsAre us bs → (∀ h' tk', s.heap.StaysIn h' → Q (.bool (jd bs)) { s with heap := h', toks := tk' }) → wpAny (model PR w) A (call (.ref J) [.ref l]) Q E s
theorem bools_of {l : List Bool} : ∀ {ys : List Value}, ys.length = l.length → (∀ (i : Nat) y, ys[i]? = some y → y = .bool (l.getD i false)) → BoolsAre ys l := by
  induction l with
  | nil => intro ys hl _; cases ys with | nil => exact .nil | cons _ _ => simp at hl
  | cons a l ih =>
    intro ys hl h
    cases ys with
    | nil => simp at hl
    | cons y ys =>
      have e := h 0 y rfl
      have e' : y = .bool a := by simpa using e
      subst e'
      exact .cons _ (ih (by simpa using hl) fun i y hy => by
        have e := h (i + 1) y (by simpa using hy)
        simpa using e)
/-- _law_letters -/
theorem lets {w : World} {A : Around} {s : Shared} (C : Cx w s.heap) (r : Rm A 4 80) {M J : Addr} {vs : List Value} {ms : List Int} {jd : List Bool → Bool} (hM : s.heap.IsList M vs.toArray) (hi : IntsAre vs ms) (hnn : ∀ n ∈ ms, 0 ≤ n) (hz : ms.length ≤ 100) (hJ : Jud w s.heap J jd) {Q E : Value → Shared → Prop}
   (hQ : ∀ D out h' tk', s.heap.StaysIn h' → h'.IsList D (List.toArray out) → s.heap.get? D = none → IntsAre out ((List.range 8).map (letV jd ms)) → Q (.ref D) { s with heap := h', toks := tk' }) : wpAny (model PR w) A (call (.ref 141) [.ref M, .ref J]) Q E s := by
  have C0 := C
  obtain ⟨X, loose, mean, mg, mb, T⟩ := C
  obtain ⟨hd, dp, fr, gd, un⟩ := A
  obtain rfl : hd = none := r.handled
  refine enterC (binds := [("modes", .ref M), ("judge", .ref J)]) X T (by k_is) (by k_is) r.room (BindsTo.of_eq rfl) rfl (by decide) ?_ rfl rfl rfl
  intro h₁ L tk cells F N CA
  have hY := CellsAre.four CA
  obtain ⟨ob, op, ok, oj, rfl, d1, d2, d3, d4⟩ := hY
  clear CA
  change ob.data = .cell none at d1
  change op.data = .cell none at d2
  change ok.data = .cell none at d3
  change oj.data = .cell (some (.ref J)) at d4
  k_steps
  refine wpAny_For ?_
  k_steps
  (with_reducible rename Fr _ _ _ _ => F9); (with_reducible rename News _ _ _ _ => N9)
  rename IsRange _ _ _ _ _ _ _ _ => hr
  rename_i P _ lP _ _ _ _ _ _ _ _ _
  refine loop_rng (n := 8) (env := envOfC _ _ L 141 _) (fun i m news => ∃ c ps ob op ok vb vp vk, m "modes" = some (.ref M) ∧ m "letters" = some (.ref P) ∧ ob.data = .cell vb ∧ op.data = .cell vp ∧ ok.data = .cell vk ∧
    news = [(P, W.listOf ps c), (L + 1 + 1 + 1 + 1, ob), (L + 1 + 1 + 1, op), (L + 1 + 1, ok), (L + 1, oj)] ∧ IntsAre ps.toList ((List.range i).map (letV jd ms))) [P, L + 1 + 1 + 1 + 1, L + 1 + 1 + 1, L + 1 + 1, L + 1] rfl hr (by decide) F9 N9 ⟨_, _, _, _, _, _, _, _, rfl, rfl, d1, d2, d3, rfl, .nil⟩ ?_ ?_ ?_
  · rintro i m _ ⟨_, _, _, _, _, _, _, _, _, _, _, _, _, rfl, _⟩; rfl
  · rintro i ti m₁ _ h₂ tk₂ I oI hi8 ⟨c, ps, ob, op, ok, vb, vp, vk, e1, e2, d1, d2, d3, rfl, hs⟩ F2 N2 lt2
    have q1 : @LT.lt Nat _ P I := lt2 _ (.head _)
    have q2 : @LT.lt Nat _ (L + 1 + 1 + 1 + 1) I := lt2 (L + 1 + 1 + 1 + 1, ob) (.tail _ (.head _))
    clear F9 N9 lt2
    change Fr s.heap L h₂ m₁ at F2
    change News s.heap L h₂ _ at N2
    k_steps
    (with_reducible rename Fr _ _ _ _ => F9); (with_reducible rename News _ _ _ _ => N9)
    rename (_ = Data.cell (some (Value.int _ _))) => dk
    refine wpAny_Assign_Name ?_ (by rfl)
    refine comp_list (cl := [("k", L + 1 + 1)]) F9 rfl (by decide) rfl (by decide) rfl rfl (fun i' v => ∃ t, v = .int (ms.getD i' 0 / 16 ^ (7 - i) % 16) t) (nameX_L F9 e1 (ListSrc.intro F9 N9 (.inl hM) (by rw [List.size_toArray, ints_len' hi, sizeLine_eq]; omega) ?_ ?_) rfl rfl (by decide))
    · rintro j v C m₂ h5 tk5 E' hj hv hC hx F5 N5
      have hj' : j < ms.length := by rw [← ints_len' hi]; simpa using hj
      obtain ⟨t5, e5⟩ := ints_at' hi hj'
      have ev : v = .int (ms.getD j 0) t5 := by
        have : vs[j]? = some v := by simpa using hv
        rw [this] at e5; exact Option.some.inj e5
      subst ev
      have hk5 : h5.IsCell (L + 1 + 1) (some (.int i ti)) := ⟨_, (N5 (L + 1 + 1, _) (by k_mem)).1, dk⟩
      have h0 : 0 ≤ ms.getD j 0 := hnn _ (by rw [List.getD, List.getElem?_eq_getElem hj']; exact List.getElem_mem hj')
      clear F9 N9
      k_steps
      have ep : ((7 : Int) - (i : Int)).toNat = 7 - i := by omega
      rw [ep]
      have hp : (0 : Int) < 16 ^ (7 - i) := Int.pow_pos (by decide)
      refine floordiv_int (by omega) ?_ ?_
      · k_steps
        rw [Int.fdiv_eq_ediv_of_nonneg _ (Int.le_of_lt hp), Int.fmod_eq_emod_of_nonneg _ (by decide)]
        exact ElEnd.now F5 ⟨_, rfl⟩
      · refine .inl (PyProof.noPylong_small ?_)
        have : (16 : Int) ^ (7 - i) ≤ 16 ^ 7 := by
          have : (16 : Nat) ^ (7 - i) ≤ 16 ^ 7 := Nat.pow_le_pow_right (by decide) (by omega)
          exact_mod_cast this
        omega
    · intro ys D h5 tk5 hl hy F5 N5 hnD hB
      have o1 := fresh_off N9 hnD
      simp only [LCg.Off1, and_true] at o1
      have hyi : IntsAre ys (ms.map fun n => n / 16 ^ (7 - i) % 16) := ints_of (by rw [hl, List.size_toArray, List.length_map, ints_len' hi]) fun j y e => by
        obtain ⟨t, e2⟩ := hy j y e
        have hlt : j < ms.length := by
          obtain ⟨q, _⟩ := List.getElem?_eq_some_iff.mp e
          have := ints_len' hi
          rw [hl, List.size_toArray] at q; omega
        exact ⟨t, by rw [e2]; simp [List.getD, hlt]⟩
      clear F9 N9
      k_steps
      (with_reducible rename Fr _ _ _ _ => F9); (with_reducible rename News _ _ _ _ => N9)
      rename (_ = Data.cell (some (Value.ref _))) => dpl
      refine wpAny_Assign_Name ?_ (by rfl)
      refine comp_rangeC F9 rfl rfl (by decide) rfl rfl (fun j v => v = .bool (jd (ms.map (bitV i j)))) (by rfl) ?_
      k_steps
      (try clear F9 N9)
      (with_reducible rename Fr _ _ _ _ => F9); (with_reducible rename News _ _ _ _ => N9)
      rename IsRange _ _ _ _ _ _ _ _ => hr4
      refine ⟨_, 0, _, _, _, 4, _, rfl, F9, N9, hr4, by decide, ?_, ?_⟩
      · rintro j v C X oX m₂ h7 tk7 E' hj ⟨t7, rfl⟩ hC dX F7 N7 lX
        clear F9 N9
        obtain ⟨⟨oJ, fJ, gJ, dJ⟩, cJ⟩ := hJ
        have hjc : h7.IsCell (L + 1) (some (.ref J)) := ⟨_, (N7 (L + 1, _) (by k_mem)).1, d4⟩
        have hpc : h7.IsCell (L + 1 + 1 + 1) (some (.ref D)) := ⟨_, (N7 (L + 1 + 1 + 1, _) (by k_mem)).1, dpl⟩
        refine wpAny_Call_NameR (wpAny_Name (wpAny_loadName_cell (c := L + 1) (v := .ref J) rfl rfl rfl hjc ?_) (by decide))
        refine callWith_fn (f := J) dJ ?_
        refine Calls.spliced_cons ?_
        refine comp_list (cl := [("j", X)]) F7 rfl (by decide) rfl (by decide) rfl rfl (fun i' v => v = .bool (bitV i j (ms.getD i' 0))) (wpAny_Name (wpAny_loadName_cell (c := L + 1 + 1 + 1) (v := .ref D) rfl rfl rfl hpc ?_) (by decide))
        refine ListSrc.intro (its := ys.toArray) F7 N7 (.inr ⟨_, (by k_mem), rfl, _, rfl⟩) (by rw [List.size_toArray, ints_len' hyi, List.length_map, sizeLine_eq]; omega) ?_ ?_
        · rintro i' v C2 m3 h8 tk8 E2 hi' hv hC2 hx2 F8 N8
          have hlt : i' < ms.length := by
            have := ints_len' hyi
            rw [List.length_map] at this
            rw [List.size_toArray] at hi'; omega
          obtain ⟨t8, e8⟩ := ints_at' hyi (k := i') (by rw [List.length_map]; exact hlt)
          have e9 : ys[i']? = some v := by simpa using hv
          have e10 : (ms.map fun n => n / 16 ^ (7 - i) % 16).getD i' 0 = ms.getD i' 0 / 16 ^ (7 - i) % 16 := by simp [List.getD, hlt]
          rw [e9, e10] at e8
          obtain rfl : v = .int (ms.getD i' 0 / 16 ^ (7 - i) % 16) t8 := Option.some.inj e8
          have hXc : h8.IsCell X (some (.int ((0 + j : Nat) : Int) t7)) := ⟨_, (N8 (X, _) (by k_mem)).1, dX⟩
          clear F7 N7
          k_steps
          have ej : ((0 + j : Nat) : Int).toNat = j := by omega
          rw [ej]
          have hp2 : (0 : Int) < 2 ^ j := Int.pow_pos (by decide)
          rw [Int.fdiv_eq_ediv_of_nonneg _ (Int.le_of_lt hp2), Int.fmod_eq_emod_of_nonneg _ (by decide)]
          refine ElEnd.now F8 ?_
          show Value.bool _ = Value.bool _
          congr 1
        · intro zs D2 h8 tk8 hl2 hy2 F8 N8 hnD2 hB2
          refine Calls.spliced_nil ⟨F8.keep _ _ gJ, ?_⟩
          have hb : BoolsAre zs (ms.map (bitV i j)) := bools_of (by rw [hl2, List.size_toArray, ints_len' hyi, List.length_map, List.length_map]) fun k y e => by
            have hlt : k < ms.length := by
              obtain ⟨q, _⟩ := List.getElem?_eq_some_iff.mp e
              rw [hl2, List.size_toArray, ints_len' hyi, List.length_map] at q; exact q
            rw [hy2 k y e]; simp [List.getD, hlt]
          refine cJ _ _ D2 zs _ _ _ (Rm.deeper (Rm.le r (by decide) (by decide))) (C0.keeps F8.keep) ⟨_, (N8 _ (.head _)).1, rfl, _, rfl⟩ hb fun h9 tk9 st9 => ?_
          exact ElEnd.intro (F8.kept st9) (hB2.trans (But.of st9)) rfl
      · intro zs D2 h8 tk8 hl2 hy2 F8 N8 hnD2 hB2
        have o2 := fresh_off N9 hnD2
        simp only [LCg.Off1, and_true] at o2
        clear F9 N9
        k_steps
        (with_reducible rename Fr _ _ _ _ => F9); (with_reducible rename News _ _ _ _ => N9)
        rename (_ = Data.cell (some (Value.ref D2))) => dbi
        refine comp_rangeT (cl := [("bits", L + 1 + 1 + 1 + 1)]) F9 rfl (by decide) rfl (by decide) rfl rfl (fun j => jd (ms.map (bitV i j))) (fun j => (2 : Int) ^ j) ?_
        k_steps
        (try clear F9 N9)
        (with_reducible rename Fr _ _ _ _ => F9); (with_reducible rename News _ _ _ _ => N9)
        rename IsRange _ _ _ _ _ _ _ _ => hr5
        refine ⟨_, 0, _, _, _, 4, _, rfl, F9, N9, hr5, by decide, ?_, ?_, ?_⟩
        · rintro j t C m₂ h7 tk7 E' hj hC hx F7 N7
          clear F9 N9
          have hbc : h7.IsCell (L + 1 + 1 + 1 + 1) (some (.ref D2)) := ⟨_, (N7 (L + 1 + 1 + 1 + 1, _) (by k_mem)).1, dbi⟩
          k_steps
          have hzj : zs[j]? = some (.bool (jd (ms.map (bitV i j)))) := by
            have : j < zs.length := by omega
            rw [List.getElem?_eq_getElem this]
            congr 1
            exact hy2 j _ (List.getElem?_eq_getElem this)
          refine item_listL (l := zs) (x := .bool (jd (ms.map (bitV i j)))) ⟨_, (N7 (D2, _) (by k_mem)).1, rfl, _, rfl⟩ (by omega) (by omega) (by rw [show ((0 + j : Nat) : Int).toNat = j by omega]; exact hzj) ?_
          k_steps
          exact TsEnd.now rfl
        · rintro j t C m₂ h7 tk7 E' hj hB hC hx F7 N7
          clear F9 N9
          k_steps
          have ej : ((0 + j : Nat) : Int).toNat = j := by omega
          rw [ej]
          exact ElEnd.now F7 ⟨_, rfl⟩
        · intro us D3 h9 tk9 hus F7 N7 hnD3 hB3
          have o3 := fresh_off N9 hnD3
          simp only [LCg.Off1, and_true] at o3
          clear F9 N9
          have hzp : ps.size ≤ sizeLine := by
            have l1 := ints_len' hs
            simp at l1
            rw [sizeLine_eq]; omega
          k_steps
          (with_reducible rename Fr _ _ _ _ => F9); (with_reducible rename News _ _ _ _ => N9)
          refine Turn.next (own := [(I, oI)]) F9 (news₂ := [(P, _), (L + 1 + 1 + 1 + 1, _), (L + 1 + 1 + 1, _), (L + 1 + 1, _), (L + 1, oj)]) (List.forall_mem_cons.mpr ⟨N9 _ (by k_mem), List.forall_mem_cons.mpr ⟨N9 _ (by k_mem), List.forall_mem_cons.mpr ⟨N9 _ (by k_mem), List.forall_mem_cons.mpr ⟨N9 _ (by k_mem), List.forall_mem_cons.mpr ⟨N9 _ (by k_mem), List.forall_mem_cons.mpr ⟨N9 _ (by k_mem), List.forall_mem_nil _⟩⟩⟩⟩⟩⟩) ⟨_, _, _, _, _, _, _, _, e1, e2, dbi, dpl, dk, rfl, ?_⟩
          rw [List.range_succ (n := i), List.map_append, Array.toList_push]
          exact ints_snoc hs
  · rintro m₁ _ h₂ tk₂ ⟨c, ps, ob, op, ok, vb, vp, vk, e1, e2, d1, d2, d3, rfl, hs⟩ F2 N2
    clear F9 N9
    change Fr s.heap L h₂ m₁ at F2
    change News s.heap L h₂ _ at N2
    k_steps
    refine hQ P ps.toList _ _ F2.keep ⟨_, (N2 (P, _) (.head _)).1, rfl, _, rfl⟩ (N2 (P, _) (.head _)).2.2 hs
end Mine
end
/-! part P10 -/
open PySem PySem.W PyProof.Rows in
theorem Mine.flushP10 {M : Model} {A : Around} {env : Env} {Q E : Value → Shared → Prop} {s : Shared} (h : wpAny M A (evalPart none env) Q E s) : wpAny M A (evalPart none env) Q E s := by
  first | (walk1; fail) | (w_top off; exact h)
section
open PySem PySem.W PyProof.Rows PyProof.Rows.LSm
set_option maxRecDepth 100000
set_option maxHeartbeats 4000000
namespace Mine
theorem fill12 (P : Params) (h : Heap) : (Mine.hd.heap_1 P).In h → PySem.Challenge.rw_ny0142_01.Holds → True := by
  k_fill
  intro _ _; trivial
local macro_rules | `(tactic| k_steps) => `(tactic| repeat' ((fail_if_success first
   | (with_reducible show wpAny _ _ (exec (Stmt.While _ _ _ _) _) _ _ _)
   | (with_reducible show wpAny _ _ (exec (Stmt.For _ _ _ _ _) _) _ _ _)
   | (with_reducible show wpAny _ _ (exec (Stmt.Try _ _ _ _ _) _) _ _ _)
   | (with_reducible show wpAny _ _ (pyIter _) _ _ _)
   | (with_reducible show wpAny _ _ (eval (Expr.ListComp _ _ _ _) _) _ _ _)
   | (with_reducible show wpAny _ _ (exec (Stmt.Assign _ (Expr.ListComp _ _ _ _) _) _) _ _ _)
   | (with_reducible show wpAny _ _ (call (Value.ref _) _ _) _ _ _)); (first | (k_unfold; (try dsimp only)) | walk1 | (dsimp only; walk1))))
local macro_rules | `(tactic| walk_at "eval Name") => `(tactic| (k_here; k_dflt (refine' ld ?k1 ?k2 ?_; (case k1 => k_asm); (case k2 => first | exact rfl | assumption); k_whole)))
local macro_rules | `(tactic| tb_start) => `(tactic| first | assumption | exact Cx.keeps (by assumption) (Fr.keep (by k_asm)))
local macro_rules | `(tactic| tb_rel) => `(tactic| first | exact Rm.deeper (Rm.le (by assumption) (by decide) (by decide)) | exact Rm.le (by assumption) (by decide) (by decide))
local macro_rules | `(tactic| ktr_unf) => `(tactic| ((with_reducible rename Heap.StaysIn _ _ => st9); (k_dflt (have F9 := Fr.kept (by k_asm) st9)); (k_dflt (have N9 := News.grown (by k_asm) st9)); (clear st9); (try k_sweep)))
local macro_rules | `(tactic| walk_at "eval Name") => `(tactic| (k_here; (with_reducible show wpAny _ _ (eval (Expr.Name _ _) (compEnvC _ _ _ _)) _ _ _); k_dflt (first
  | refine ldVarK (by assumption) (by assumption) ?_
  | refine wpAny_Name (wpAny_loadName_free rfl rfl rfl (by assumption) ?_) (by decide)
  | refine wpAny_Name (wpAny_loadName_cell rfl rfl rfl (by assumption) ?_) (by decide)
  | refine LCgL.ld_global (by k_asm) (by k_asm) (by k_asm) (by k_is) ?_
  | refine LCgL.ld_built (by k_asm) (by k_asm) (by k_asm) (by k_is) (by boot_by_name) (by decide) ?_)))
local macro_rules | `(tactic| walk_at "eval Name") => `(tactic| (k_here; (with_reducible show wpAny _ _ (eval (Expr.Name _ _) (envOfC _ _ _ _ _)) _ _ _); k_dflt (refine' nameX_L ?k1 ?k2 ?_ ?k3 ?k4 ?k5; (case k1 => k_asm); (case k3 => rfl); (case k4 => rfl); (case k5 => decide); (case k2 => assumption); k_whole)))
theorem strs_len' {vs : List Value} {ns : List Str} (h : StrsAre vs ns) : vs.length = ns.length := by
  induction h with
  | nil => rfl
  | cons n t _ ih => simp [ih]
theorem strs_at' {vs : List Value} {ns : List Str} (h : StrsAre vs ns) : ∀ {k : Nat}, k < ns.length → ∃ t, vs[k]? = some (.str (ns.getD k "") t) := by
  induction h with
  | nil => intro k hk; simp at hk
  | cons n t _ ih =>
    intro k hk
    cases k with
    | zero => exact ⟨t, by simp⟩
    | succ k =>
      obtain ⟨t', e⟩ := ih (k := k) (by simpa using hk)
      exact ⟨t', by simpa using e⟩
def inX (c : Str) : Bool := [("x" : Str), "s", "t"].any (· == c)
def inS (c : Str) : Bool := [("s" : Str), "S", "t", "T"].any (· == c)
/-- a sign of what any or all show -/
def signV (jd : List Bool → Bool) (col : List Str) (p : Nat) : Str :=
  if (p : Int).fmod 3 = 0 then Txt.item (if (p : Int).fdiv 9 = 0 then "-xSs" else "-xTt") ((if jd (col.map inX) = true then 1 else 0) + 2 * (if jd (col.map inS) = true then 1 else 0))
  else if jd (col.map (fun c => c != ("-" : Str))) = true then Txt.item "rw" ((p : Int).fmod 3 - 1) else "-"
/-- _law_sign -/
theorem sgn {w : World} {A : Around} {s : Shared} (C : Cx w s.heap) (r : Rm A 4 80) {M J : Addr} {vs : List Value} {col : List Str} {jd : List Bool → Bool} (p : Nat) (hp : 1 ≤ p ∧ p ≤ 9) (tp : Tok) (hM : s.heap.IsList M vs.toArray) (hi : StrsAre vs col) (hz : col.length ≤ 100) (hJ : Jud w s.heap J jd) {Q E : Value → Shared → Prop}
   (hQ : ∀ t h' tk', s.heap.StaysIn h' → Q (.str (signV jd col p) t) { s with heap := h', toks := tk' }) : wpAny (model PR w) A (call (.ref 122) [.ref M, .int p tp, .ref J]) Q E s := by
  have C0 := C
  obtain ⟨X, loose, mean, mg, mb, T⟩ := C
  obtain ⟨hd, dp, fr, gd, un⟩ := A
  obtain rfl : hd = none := r.handled
  obtain ⟨⟨oJ, fJ, gJ, dJ⟩, cJ⟩ := hJ
  refine enter (binds := [("column", .ref M), ("place", .int p tp), ("judge", .ref J)]) X T (by k_is) (by k_is) r.room (BindsTo.of_eq rfl) (locs rfl) ?_ rfl rfl rfl (by decide)
  intro h₁ L tk F N
  have hQ' : ∀ x t h' tk', s.heap.StaysIn h' → x = signV jd col p → Q (.str x t) { s with heap := h', toks := tk' } := fun x t h' tk' st e => e ▸ hQ t h' tk' st
  have turn0 : ∀ {v : Value} {j : Nat}, j < vs.toArray.size → vs.toArray[j]? = some v → ∃ t, v = .str (col.getD j "") t ∧ j < col.length := fun {v j} h1 h2 => by
    have hlt : j < col.length := by have := strs_len' hi; rw [List.size_toArray] at h1; omega
    obtain ⟨t, e⟩ := strs_at' hi hlt
    have e9 : vs[j]? = some v := by simpa using h2
    rw [e9] at e
    exact ⟨t, Option.some.inj e, hlt⟩
  have hsz : vs.toArray.size ≤ sizeLine := by rw [List.size_toArray, strs_len' hi, sizeLine_eq]; omega
  k_steps
  · (with_reducible rename Fr _ _ _ _ => F9); (with_reducible rename News _ _ _ _ => N9)
    refine comp_list (cl := []) F9 rfl (by decide) rfl (by decide) rfl rfl (fun j v => v = .bool (col.getD j "" != ("-" : Str))) (ld F9 rfl (ListSrc.intro F9 N9 (.inl hM) hsz ?_ ?_))
    · rintro j v C m₂ h5 tk5 E' hj hv hC hx F5 N5
      obtain ⟨t5, rfl, hlt⟩ := turn0 hj hv
      clear F9 N9
      k_steps
      exact ElEnd.now F5 rfl
    · intro ys D h5 tk5 hl hy F5 N5 hnD hB
      clear F9 N9
      k_steps
      refine cJ _ _ D ys (col.map (fun c => c != ("-" : Str))) _ _ (Rm.deeper (Rm.le r (by decide) (by decide))) (C0.keeps F5.keep) ⟨_, (N5 _ (.head _)).1, rfl, _, rfl⟩ (bools_of (by rw [hl, List.size_toArray, strs_len' hi, List.length_map]) fun k y e => ?_) fun h6 tk6 st6 => ?_
      · rw [hy k y e]
        have hlt : k < col.length := by
          obtain ⟨q, _⟩ := List.getElem?_eq_some_iff.mp e
          rw [hl, List.size_toArray, strs_len' hi] at q; exact q
        simp [List.getD, hlt]
      ktr_unf
      k_steps
      all_goals (
        (with_reducible rename Fr _ _ _ _ => F9)
        refine hQ' _ _ _ _ F9.keep ?_
        simp_all [signV])
  · (with_reducible rename Fr _ _ _ _ => F9); (with_reducible rename News _ _ _ _ => N9)
    refine comp_list (cl := []) F9 rfl (by decide) rfl (by decide) rfl rfl (fun j v => v = .bool (inX (col.getD j ""))) (ld F9 rfl (ListSrc.intro F9 N9 (.inl hM) hsz ?_ ?_))
    · rintro j v C m₂ h5 tk5 E' hj hv hC hx F5 N5
      obtain ⟨t5, rfl, hlt⟩ := turn0 hj hv
      have hbut : ∀ h' m', Fr s.heap L h' m' → News s.heap L h' (allN s.heap L h5) → But L h5 h' := fun h' m' F' N' => allN_but F5 F' N'
      have N6 := allN_news s.heap L h5
      clear F9 N9 N5
      k_steps
      (with_reducible rename Fr _ _ _ _ => F9); (with_reducible rename News _ _ _ _ => N9)
      exact ElEnd.intro F9 (hbut _ _ F9 fun p hp => N9 p (.tail _ hp)) rfl
    · intro ys D h5 tk5 hl hy F5 N5 hnD hB
      clear F9 N9
      k_steps
      refine cJ _ _ D ys (col.map inX) _ _ (Rm.deeper (Rm.le r (by decide) (by decide))) (C0.keeps F5.keep) ⟨_, (N5 _ (.head _)).1, rfl, _, rfl⟩ (bools_of (by rw [hl, List.size_toArray, strs_len' hi, List.length_map]) fun k y e => ?_) fun h6 tk6 st6 => ?_
      · rw [hy k y e]
        have hlt : k < col.length := by
          obtain ⟨q, _⟩ := List.getElem?_eq_some_iff.mp e
          rw [hl, List.size_toArray, strs_len' hi] at q; exact q
        simp [List.getD, hlt]
      ktr_unf
      k_steps
      all_goals (
        (with_reducible rename Fr _ _ _ _ => F9); (with_reducible rename News _ _ _ _ => N9)
        refine comp_list (cl := []) F9 rfl (by decide) rfl (by decide) rfl rfl (fun j v => v = .bool (inS (col.getD j ""))) (ld F9 rfl (ListSrc.intro F9 N9 (.inl hM) hsz ?_ ?_)))
      · rintro j v C m₂ h5 tk5 E' hj hv hC hx F5 N5
        obtain ⟨t5, rfl, hlt⟩ := turn0 hj hv
        have hbut : ∀ h' m', Fr s.heap L h' m' → News s.heap L h' (allN s.heap L h5) → But L h5 h' := fun h' m' F' N' => allN_but F5 F' N'
        have N6 := allN_news s.heap L h5
        clear F9 N9 N5
        k_steps
        (with_reducible rename Fr _ _ _ _ => F9); (with_reducible rename News _ _ _ _ => N9)
        exact ElEnd.intro F9 (hbut _ _ F9 fun p hp => N9 p (.tail _ hp)) rfl
      · intro ys D h5 tk5 hl hy F5 N5 hnD hB
        clear F9 N9
        k_steps
        refine cJ _ _ D ys (col.map inS) _ _ (Rm.deeper (Rm.le r (by decide) (by decide))) (C0.keeps F5.keep) ⟨_, (N5 _ (.head _)).1, rfl, _, rfl⟩ (bools_of (by rw [hl, List.size_toArray, strs_len' hi, List.length_map]) fun k y e => ?_) fun h6 tk6 st6 => ?_
        · rw [hy k y e]
          have hlt : k < col.length := by
            obtain ⟨q, _⟩ := List.getElem?_eq_some_iff.mp e
            rw [hl, List.size_toArray, strs_len' hi] at q; exact q
          simp [List.getD, hlt]
        ktr_unf
        k_steps
        all_goals (
          (with_reducible rename Fr _ _ _ _ => F9)
          refine hQ' _ _ _ _ F9.keep ?_
          simp_all [signV])
      · rintro j v C m₂ h5 tk5 E' hj hv hC hx F5 N5
        obtain ⟨t5, rfl, hlt⟩ := turn0 hj hv
        have hbut : ∀ h' m', Fr s.heap L h' m' → News s.heap L h' (allN s.heap L h5) → But L h5 h' := fun h' m' F' N' => allN_but F5 F' N'
        have N6 := allN_news s.heap L h5
        clear F9 N9 N5
        k_steps
        (with_reducible rename Fr _ _ _ _ => F9); (with_reducible rename News _ _ _ _ => N9)
        exact ElEnd.intro F9 (hbut _ _ F9 fun p hp => N9 p (.tail _ hp)) rfl
      · intro ys D h5 tk5 hl hy F5 N5 hnD hB
        clear F9 N9
        k_steps
        refine cJ _ _ D ys (col.map inS) _ _ (Rm.deeper (Rm.le r (by decide) (by decide))) (C0.keeps F5.keep) ⟨_, (N5 _ (.head _)).1, rfl, _, rfl⟩ (bools_of (by rw [hl, List.size_toArray, strs_len' hi, List.length_map]) fun k y e => ?_) fun h6 tk6 st6 => ?_
        · rw [hy k y e]
          have hlt : k < col.length := by
            obtain ⟨q, _⟩ := List.getElem?_eq_some_iff.mp e
            rw [hl, List.size_toArray, strs_len' hi] at q; exact q
          simp [List.getD, hlt]
        ktr_unf
        k_steps
        all_goals (
          (with_reducible rename Fr _ _ _ _ => F9)
          refine hQ' _ _ _ _ F9.keep ?_
          simp_all [signV])
end Mine
end
/-! part P11 -/
open PySem PySem.W PyProof.Rows in
theorem Mine.flushP11 {M : Model} {A : Around} {env : Env} {Q E : Value → Shared → Prop} {s : Shared} (h : wpAny M A (evalPart none env) Q E s) : wpAny M A (evalPart none env) Q E s := by
  first | (walk1; fail) | (w_top off; exact h)
section
open PySem PySem.W PyProof.Rows PyProof.Rows.LSm
set_option maxRecDepth 100000
set_option maxHeartbeats 4000000
namespace Mine
theorem fill13 (P : Params) (h : Heap) : (Mine.hd.heap_1 P).In h → PySem.Challenge.rw_ny0142_01.Holds → True := by
  k_fill
  intro _ _; trivial
local macro_rules | `(tactic| k_steps) => `(tactic| repeat' ((fail_if_success first
   | (with_reducible show wpAny _ _ (exec (Stmt.While _ _ _ _) _) _ _ _)
   | (with_reducible show wpAny _ _ (exec (Stmt.For _ _ _ _ _) _) _ _ _)
   | (with_reducible show wpAny _ _ (exec (Stmt.Try _ _ _ _ _) _) _ _ _)
   | (with_reducible show wpAny _ _ (pyIter _) _ _ _)
   | (with_reducible show wpAny _ _ (eval (Expr.ListComp _ _ _ _) _) _ _ _)
   | (with_reducible show wpAny _ _ (exec (Stmt.Assign _ (Expr.ListComp _ _ _ _) _) _) _ _ _)
   | (with_reducible show wpAny _ _ (call (Value.ref _) _ _) _ _ _)); (first | (k_unfold; (try dsimp only)) | walk1 | (dsimp only; walk1))))
local macro_rules | `(tactic| walk_at "eval Name") => `(tactic| (k_here; (with_reducible show wpAny _ _ (eval (Expr.Name _ _) (envOf _ _ _ _ _)) _ _ _); k_dflt (refine' ld ?k1 ?k2 ?_; (case k1 => k_asm); (case k2 => first | exact rfl | assumption); k_whole)))
local macro_rules | `(tactic| tb_start) => `(tactic| first | assumption | exact Cx.keeps (by assumption) (Fr.keep (by k_asm)))
local macro_rules | `(tactic| tb_rel) => `(tactic| first | exact Rm.deeper (Rm.le (by assumption) (by decide) (by decide)) | exact Rm.le (by assumption) (by decide) (by decide))
local macro_rules | `(tactic| ktr_unf) => `(tactic| ((with_reducible rename Heap.StaysIn _ _ => st9); (k_dflt (have F9 := Fr.kept (by k_asm) st9)); (k_dflt (have N9 := News.grown (by k_asm) st9)); (clear st9); (try k_sweep)))
local macro_rules | `(tactic| walk_at "eval Name") => `(tactic| (k_here; (with_reducible show wpAny _ _ (eval (Expr.Name _ _) (compEnvC _ _ _ _)) _ _ _); k_dflt (first
  | refine ldVarK (by assumption) (by assumption) ?_
  | refine wpAny_Name (wpAny_loadName_free rfl rfl rfl (by assumption) ?_) (by decide)
  | refine wpAny_Name (wpAny_loadName_cell rfl rfl rfl (by assumption) ?_) (by decide)
  | refine LCgL.ld_global (by k_asm) (by k_asm) (by k_asm) (by k_is) ?_
  | refine LCgL.ld_built (by k_asm) (by k_asm) (by k_asm) (by k_is) (by boot_by_name) (by decide) ?_)))
local macro_rules | `(tactic| walk_at "eval Name") => `(tactic| (k_here; (with_reducible show wpAny _ _ (eval (Expr.Name _ _) (envOfC _ _ _ _ _)) _ _ _); k_dflt (refine' nameX_L ?k1 ?k2 ?_ ?k3 ?k4 ?k5; (case k1 => k_asm); (case k3 => rfl); (case k4 => rfl); (case k5 => decide); (case k2 => first | assumption | exact rfl); k_whole)))
theorem Jud.keeps {w : World} {h h' : Heap} {J : Addr} {jd : List Bool → Bool} (x : Jud w h J jd) (k : ∀ b o, h.get? b = some o → h'.get? b = some o) : Jud w h' J jd := ⟨let ⟨o, fd, a, b⟩ := x.1; ⟨o, fd, k _ _ a, b⟩, x.2⟩
theorem apI_head : ∀ (n : Nat) (d : Int) (l : List Int), apI n = d :: l → d ≠ 65
  | n, d, l, h => by
    by_cases h0 : n = 0
    · subst h0; rw [apI_zero] at h; cases h
    · rw [apI_pos h0] at h
      cases z : apI (n / 16) with
      | nil =>
        rw [z] at h
        have hz : n / 16 = 0 := by
          by_cases q : n / 16 = 0
          · exact q
          · rw [apI_pos q] at z; simp at z
        simp at h
        omega
      | cons d' l' =>
        rw [z] at h
        simp at h
        rw [← h.1]
        exact apI_head (n / 16) d' l' z
  termination_by n => n
  decreasing_by omega
theorem head_take {k : Nat} {d : Int} {l : List Int} (h : [65] = List.take k (List.drop 0 (d :: l))) : d = 65 := by
  cases k with
  | zero => simp at h
  | succ k => simp at h; exact h.1.symm
theorem ap_len8 {n : Int} (h1 : n < 4294967296) : (apI n.toNat).length ≤ 8 := apI_len 8 _ (by omega)
theorem join_cps : ∀ ts : List Str, (Txt.join "" ts).cps.toList = ts.flatMap (·.cps.toList) := fun ts => by
  show (Builtin.Str.glued "" ts).cps.toList = _
  rw [StrLaws.glued_eq_join]
  induction ts with
  | nil => rfl
  | cons x r ih =>
    cases r with
    | nil => simp [Str.join]
    | cons y r =>
      show (x ++ Str.ofString "" ++ Str.join "" (y :: r)).cps.toList = _
      rw [List.flatMap_cons, ← ih]
      show ((x.cps ++ (Str.ofString "").cps) ++ (Str.join "" (y :: r)).cps).toList = _
      simp
      rfl
theorem fmS_len (n : Int) : (fmS n).length = 10 := by
  show (fmS n).cps.size = 10
  rw [← Array.length_toList]
  unfold fmS
  rw [join_cps, List.length_flatMap]
  have e : (sg n 10).map (fun x => x.cps.toList.length) = List.replicate 10 1 := by
    apply List.eq_replicate_iff.mpr
    refine ⟨by simp [sg], fun b hb => ?_⟩
    obtain ⟨y, hy, rfl⟩ := List.mem_map.mp hb
    obtain ⟨k, hk, rfl⟩ := List.mem_map.mp hy
    have := sg_len n k (List.mem_range.mp hk)
    rw [Array.length_toList]; exact this
  rw [e]; rfl
theorem strs_of {l : List Str} : ∀ {ys : List Value}, ys.length = l.length → (∀ (i : Nat) y, ys[i]? = some y → ∃ t, y = .str (l.getD i "") t) → StrsAre ys l := by
  induction l with
  | nil => intro ys hl _; cases ys with | nil => exact .nil | cons _ _ => simp at hl
  | cons a l ih =>
    intro ys hl h
    cases ys with
    | nil => simp at hl
    | cons y ys =>
      obtain ⟨t, e⟩ := h 0 y rfl
      have e' : y = .str a t := by simpa using e
      subst e'
      exact .cons _ _ (ih (by simpa using hl) fun i y hy => by
        obtain ⟨t, e⟩ := h (i + 1) y (by simpa using hy)
        exact ⟨t, by simpa using e⟩)
/-- the sign k that filemode writes -/
def sg1 (n : Int) (k : Nat) : Str := pick (k : Int) n (TAB.getD k [])
theorem one_of {x : Str} (h : x.length = 1) : ∃ c, x = ⟨#[c]⟩ := by
  obtain ⟨⟨l⟩⟩ := x
  match l, h with
  | [c], _ => exact ⟨c, rfl⟩
theorem str_ext {x y : Str} (h : x.cps.toList = y.cps.toList) : x = y := by
  obtain ⟨⟨l⟩⟩ := x; obtain ⟨⟨l'⟩⟩ := y
  have : l = l' := h
  rw [this]
theorem fm_all (n : Int) : ∃ c0 c1 c2 c3 c4 c5 c6 c7 c8 c9, fmS n = ⟨#[c0, c1, c2, c3, c4, c5, c6, c7, c8, c9]⟩ ∧ sg1 n 1 = ⟨#[c1]⟩ ∧ sg1 n 2 = ⟨#[c2]⟩ ∧ sg1 n 3 = ⟨#[c3]⟩ ∧ sg1 n 4 = ⟨#[c4]⟩ ∧ sg1 n 5 = ⟨#[c5]⟩ ∧ sg1 n 6 = ⟨#[c6]⟩ ∧ sg1 n 7 = ⟨#[c7]⟩ ∧ sg1 n 8 = ⟨#[c8]⟩ ∧ sg1 n 9 = ⟨#[c9]⟩ := by
  obtain ⟨c0, e0⟩ := one_of (sg_len n 0 (by decide))
  obtain ⟨c1, e1⟩ := one_of (sg_len n 1 (by decide))
  obtain ⟨c2, e2⟩ := one_of (sg_len n 2 (by decide))
  obtain ⟨c3, e3⟩ := one_of (sg_len n 3 (by decide))
  obtain ⟨c4, e4⟩ := one_of (sg_len n 4 (by decide))
  obtain ⟨c5, e5⟩ := one_of (sg_len n 5 (by decide))
  obtain ⟨c6, e6⟩ := one_of (sg_len n 6 (by decide))
  obtain ⟨c7, e7⟩ := one_of (sg_len n 7 (by decide))
  obtain ⟨c8, e8⟩ := one_of (sg_len n 8 (by decide))
  obtain ⟨c9, e9⟩ := one_of (sg_len n 9 (by decide))
  refine ⟨c0, c1, c2, c3, c4, c5, c6, c7, c8, c9, ?_, e1, e2, e3, e4, e5, e6, e7, e8, e9⟩
  have h : (fmS n).cps.toList = [c0, c1, c2, c3, c4, c5, c6, c7, c8, c9] := by
    unfold fmS
    rw [join_cps]
    have : sg n 10 = [⟨#[c0]⟩, ⟨#[c1]⟩, ⟨#[c2]⟩, ⟨#[c3]⟩, ⟨#[c4]⟩, ⟨#[c5]⟩, ⟨#[c6]⟩, ⟨#[c7]⟩, ⟨#[c8]⟩, ⟨#[c9]⟩] := by
      rw [← e0, ← e1, ← e2, ← e3, ← e4, ← e5, ← e6, ← e7, ← e8, ← e9]
      rfl
    rw [this]; rfl
  exact str_ext h
theorem fm_item (n : Int) (i : Nat) (hi : i < 9) : Txt.item (fmS n) ((i + 1 : Nat) : Int) = sg1 n (i + 1) := by
  obtain ⟨c0, c1, c2, c3, c4, c5, c6, c7, c8, c9, e, e1, e2, e3, e4, e5, e6, e7, e8, e9⟩ := fm_all n
  rw [e]
  match i, hi with
  | 0, _ => rw [e1]; rfl
  | 1, _ => rw [e2]; rfl
  | 2, _ => rw [e3]; rfl
  | 3, _ => rw [e4]; rfl
  | 4, _ => rw [e5]; rfl
  | 5, _ => rw [e6]; rfl
  | 6, _ => rw [e7]; rfl
  | 7, _ => rw [e8]; rfl
  | 8, _ => rw [e9]; rfl
theorem fm_tail (n : Int) : Txt.slice (fmS n) (some 1) none = Txt.join "" ((List.range 9).map fun i => sg1 n (i + 1)) := by
  apply str_ext
  rw [join_cps]
  obtain ⟨c0, c1, c2, c3, c4, c5, c6, c7, c8, c9, e, e1, e2, e3, e4, e5, e6, e7, e8, e9⟩ := fm_all n
  rw [e]
  show _ = List.flatMap _ [sg1 n 1, sg1 n 2, sg1 n 3, sg1 n 4, sg1 n 5, sg1 n 6, sg1 n 7, sg1 n 8, sg1 n 9]
  rw [e1, e2, e3, e4, e5, e6, e7, e8, e9]
  kernel_rfl
theorem weight9 (n : Int) : ((((List.range 9).map fun i => sg1 n (i + 1))).map (·.length)).sum + ((List.range 9).map fun i => sg1 n (i + 1)).length ≤ 1048576 := by
  have e : (((List.range 9).map fun i => sg1 n (i + 1))).map (·.length) = List.replicate 9 1 := by
    apply List.eq_replicate_iff.mpr
    refine ⟨by simp, fun b hb => ?_⟩
    obtain ⟨y, hy, rfl⟩ := List.mem_map.mp hb
    obtain ⟨k, hk, rfl⟩ := List.mem_map.mp hy
    exact sg_len n (k + 1) (by have := List.mem_range.mp hk; omega)
  rw [e]; simp
/-- _law_right -/
theorem rgt {w : World} {A : Around} {s : Shared} (C : Cx w s.heap) (r : Rm A 8 160) {M RW f J : Addr} {vs us : List Value} {m0 : Int} {ms : List Int} {jd : List Bool → Bool} (hM : s.heap.IsList M vs.toArray) (hi : IntsAre vs (m0 :: ms)) (h0 : 0 ≤ m0) (hnn : ∀ n ∈ ms, 0 ≤ n) (hz : ms.length ≤ 90)
   (hRW : s.heap.IsList RW us.toArray) (hu : StrsAre us ((m0 :: ms).map fmS)) (hJ : Jud w s.heap J jd)
   {oq : Obj} {fq : FuncData} (op : Int → Int → Int) (hq : s.heap.get? f = some oq) (hqd : oq.data = .func fq)
   (hop : ∀ A' h' tk' x y tx ty (Q' E' : Value → Shared → Prop), Rm A' 2 50 → s.heap.StaysIn h' → 0 ≤ x → 0 ≤ y → (∀ t h'' tk'', h'.StaysIn h'' → Q' (.int (op x y) t) { s with heap := h'', toks := tk'' }) → wpAny (model PR w) A' (call (.ref f) [.int x tx, .int y ty]) Q' E' { s with heap := h', toks := tk' })
   (hpos : ∀ x y, 0 ≤ x → 0 ≤ y → 0 ≤ op x y) {n : Int} (hn : ms.foldl op m0 = n) (hn0 : 0 ≤ n) (hn1 : n < 4294967296) (hL : plV n = (List.range 8).map (letV jd (m0 :: ms))) (hS : ∀ i, i < 9 → signV jd ((m0 :: ms).map fun x => sg1 x (i + 1)) (i + 1) = sg1 n (i + 1))
   {Q E : Value → Shared → Prop} (hQ : ∀ h' tk', s.heap.StaysIn h' → Q (.bool true) { s with heap := h', toks := tk' }) : wpAny (model PR w) A (call (.ref 146) [.ref M, .ref RW, .ref f, .ref J]) Q E s := by
  have C0 := C
  have hfl : (fmS n).length = 10 := fmS_len n
  obtain ⟨X, loose, mean, mg, mb, T⟩ := C
  obtain ⟨hd, dp, fr, gd, un⟩ := A
  obtain rfl : hd = none := r.handled
  refine enterC (binds := [("modes", .ref M), ("rows", .ref RW), ("deed", .ref f), ("judge", .ref J)]) X T (by k_is) (by k_is) r.room (BindsTo.of_eq rfl) rfl (by decide) ?_ rfl rfl rfl
  intro h₁ L tk cells F N CA
  have hY := CellsAre.two CA
  obtain ⟨oj, or, rfl, d1, d2⟩ := hY
  clear CA
  change oj.data = .cell (some (.ref J)) at d1
  change or.data = .cell (some (.ref RW)) at d2
  k_steps
  (with_reducible rename Fr _ _ _ _ => F9); (with_reducible rename News _ _ _ _ => N9)
  refine reduc (s := ⟨h₁, s.gens, s.drawn, _, s.os⟩) (C0.keeps F9.keep) (Rm.deeper (Rm.le r (by decide) (by decide))) op (hM.at fun o q => F9.keep _ _ q) hi (F9.keep _ _ hq) hqd (fun A' h' tk' x y tx ty Q' E' r' st hx hy hQ' => hop A' h' tk' x y tx ty Q' E' r' (fun b o e => st _ _ (F9.keep _ _ e)) hx hy hQ') hpos h0 hnn ?_
  intro t5 h5 tk5 st5
  rw [hn]
  ktr_unf
  k_steps
  (with_reducible rename Fr _ _ _ _ => F8); (with_reducible rename News _ _ _ _ => N8)
  refine placs (C0.keeps F8.keep) (by tb_rel) n hn0 hn1 _ ?_
  intro D1 out1 h6 tk6 st6 hD1 fD1 hI1
  ktr_unf
  k_steps
  (with_reducible rename Fr _ _ _ _ => F8); (with_reducible rename News _ _ _ _ => N8)
  refine lets (C0.keeps F8.keep) (Rm.deeper (Rm.le r (by decide) (by decide))) (hM.at fun o q => F8.keep _ _ q) hi (List.forall_mem_cons.mpr ⟨h0, hnn⟩) (by simp; omega) (hJ.keeps F8.keep) ?_
  intro D2 out2 h7 tk7 st7 hD2 fD2 hI2
  have hD1' : h7.IsList D1 _ := hD1.at fun o q => st7 _ _ q
  have hun : un + 160 < cLine := r.units
  ktr_unf
  refine ke_ne_ints hD1' hD2 hI1 hI2 (by show un + 3 + 64 < cLine; omega) ?_
  rw [hL, decide_eq_true rfl]
  k_steps
  (with_reducible rename Fr _ _ _ _ => F8); (with_reducible rename News _ _ _ _ => N8)
  refine int2ap (C0.keeps F8.keep) (Rm.deeper (Rm.le r (by decide) (by decide))) n hn0 hn1 _ ?_
  intro b tb h8 tk8 st8 hb
  have hzb := ap_size hb hn1
  ktr_unf
  k_steps
  (with_reducible rename Fr _ _ _ _ => F8); (with_reducible rename News _ _ _ _ => N8)
  refine KBc.slice_K (s := ⟨_, _, _, _, _⟩) (lo := none) (hi := some 1) F8 N8 hb (by constructor) (by constructor) (by have := ap_len8 hn1; omega) ?_
  intro h9 t9 k9 F9 N9 hp
  clear F8 N8
  have hA : ((KBy.picked b none (some 1)).toList == [65]) = false := by
    apply Bool.eq_false_iff.mpr
    intro q
    have e : KBw.bInts (KBy.picked b none (some 1)) = [65] := by
      unfold KBw.bInts; rw [eq_of_beq q]; rfl
    rw [e] at hp
    cases z : apI n.toNat with
    | nil => rw [z] at hp; simp at hp
    | cons d l =>
      rw [z] at hp
      have hd : d = 65 := head_take hp
      exact apI_head n.toNat d l z hd
  k_steps
  (with_reducible rename Fr _ _ _ _ => F8); (with_reducible rename News _ _ _ _ => N8)
  refine filemode (C0.keeps F8.keep) (Rm.deeper (Rm.le r (by decide) (by decide))) n _ ?_
  intro t10 h10 tk10 st10
  ktr_unf
  k_steps
  (with_reducible rename Fr _ _ _ _ => F9); (with_reducible rename News _ _ _ _ => N9)
  refine comp_rangeC F9 rfl rfl (by decide) rfl rfl (fun i v => ∃ t, v = .str (signV jd ((m0 :: ms).map fun n => Txt.item (fmS n) ((i + 1 : Nat) : Int)) (i + 1)) t) (by rfl) ?_
  k_steps
  (try clear F9 N9)
  (with_reducible rename Fr _ _ _ _ => F9); (with_reducible rename News _ _ _ _ => N9)
  rename IsRange _ _ _ _ _ _ _ _ => hr4
  refine ⟨_, 1, _, _, _, 9, _, rfl, F9, N9, hr4, by decide, ?_, ?_⟩
  · rintro j v C X oX m₂ h7 tk7 E' hj ⟨t7, rfl⟩ hC dX F7 N7 lX
    clear F9 N9
    have hjc : h7.IsCell (L + 1 + 1) (some (.ref J)) := ⟨_, (N7 (L + 1 + 1, _) (by k_mem)).1, d1⟩
    have hrc : h7.IsCell (L + 1) (some (.ref RW)) := ⟨_, (N7 (L + 1, _) (by k_mem)).1, d2⟩
    have hXc : h7.IsCell X (some (.int ((1 + j : Nat) : Int) t7)) := ⟨_, (N7 (X, _) (by k_mem)).1, dX⟩
    k_steps
    refine comp_list (cl := [("place", X)]) F7 rfl (by decide) rfl (by decide) rfl rfl (fun i' v => ∃ t, v = .str (Txt.item (fmS ((m0 :: ms).getD i' 0)) ((j + 1 : Nat) : Int)) t) (wpAny_Name (wpAny_loadName_cell (c := L + 1) (v := .ref RW) rfl rfl rfl hrc ?_) (by decide))
    have hul : us.length = (m0 :: ms).length := by have := strs_len' hu; rw [List.length_map] at this; exact this
    refine ListSrc.intro (its := us.toArray) F7 N7 (.inl hRW) (by rw [List.size_toArray, hul, sizeLine_eq]; simp; omega) ?_ ?_
    · rintro i' v C2 m3 h8 tk8 E2 hi' hv hC2 hx2 F8 N8
      have hlt : i' < (m0 :: ms).length := by rw [List.size_toArray, hul] at hi'; exact hi'
      obtain ⟨t8, e8⟩ := strs_at' hu (k := i') (by rw [List.length_map]; exact hlt)
      have e9 : us[i']? = some v := by simpa using hv
      have e10 : ((m0 :: ms).map fmS).getD i' "" = fmS ((m0 :: ms).getD i' 0) := by simp only [List.getD, List.getElem?_map, List.getElem?_eq_getElem hlt]; rfl
      rw [e9, e10] at e8
      obtain rfl : v = .str (fmS ((m0 :: ms).getD i' 0)) t8 := Option.some.inj e8
      have hXc8 : h8.IsCell X (some (.int ((1 + j : Nat) : Int) t7)) := ⟨_, (N8 (X, _) (by k_mem)).1, dX⟩
      have hfl2 := fmS_len ((m0 :: ms).getD i' 0)
      clear F7 N7 hXc
      k_steps
      rw [Nat.add_comm 1 j]
      exact ElEnd.now F8 ⟨_, rfl⟩
    · intro zs D3 h8 tk8 hl2 hy2 F8 N8 hnD2 hB2
      have hjc8 : h8.IsCell (L + 1 + 1) (some (.ref J)) := ⟨_, (N8 (L + 1 + 1, _) (by k_mem)).1, d1⟩
      have hXc8 : h8.IsCell X (some (.int ((1 + j : Nat) : Int) t7)) := ⟨_, (N8 (X, _) (by k_mem)).1, dX⟩
      clear F7 N7 hXc hjc hrc
      k_steps
      have hcol : StrsAre zs ((m0 :: ms).map fun n => Txt.item (fmS n) ((j + 1 : Nat) : Int)) := strs_of (by rw [hl2, List.size_toArray, hul, List.length_map]) fun k y e => by
        obtain ⟨t, e2⟩ := hy2 k y e
        have hlt : k < (m0 :: ms).length := by
          obtain ⟨q, _⟩ := List.getElem?_eq_some_iff.mp e
          rw [hl2, List.size_toArray, hul] at q; exact q
        exact ⟨t, by rw [e2]; simp only [List.getD, List.getElem?_map, List.getElem?_eq_getElem hlt]; rfl⟩
      refine sgn (C0.keeps F8.keep) (Rm.deeper (Rm.le r (by decide) (by decide))) (1 + j) (by omega) _ ⟨_, (N8 _ (.head _)).1, rfl, _, rfl⟩ hcol (by simp; omega) (hJ.keeps F8.keep) ?_
      intro t9 h9 tk9 st9
      rw [Nat.add_comm 1 j]
      exact ElEnd.intro (F8.kept st9) (hB2.trans (But.of st9)) ⟨_, rfl⟩
  · intro zs D2 h8 tk8 hl2 hy2 F8 N8 hnD2 hB2
    clear F9 N9
    have heq : ((List.range 9).map fun i => signV jd ((m0 :: ms).map fun n => Txt.item (fmS n) ((i + 1 : Nat) : Int)) (i + 1)) = (List.range 9).map fun i => sg1 n (i + 1) := by
      refine List.map_congr_left fun i hi => ?_
      have hi9 : i < 9 := by simpa using hi
      rw [← hS i hi9]
      congr 1
      exact List.map_congr_left fun x _ => fm_item x i hi9
    k_steps
    refine join_listW (ys := (List.range 9).map fun i => signV jd ((m0 :: ms).map fun n => Txt.item (fmS n) ((i + 1 : Nat) : Int)) (i + 1)) (items := zs.toArray) ⟨_, (N8 _ (.head _)).1, rfl, _, rfl⟩ (strs_of (by rw [hl2]; simp) fun k y e => ?_) (by decide) ?_ ?_
    · obtain ⟨t, e2⟩ := hy2 k y e
      have hlt : k < 9 := by
        obtain ⟨q, _⟩ := List.getElem?_eq_some_iff.mp e
        rw [← hl2]; exact q
      exact ⟨t, by rw [e2]; simp [List.getD, hlt]⟩
    · rw [heq]; exact weight9 n
    · intro t12 k12
      k_steps
      rw [heq, ← fm_tail n]
      rw [show (Txt.slice (fmS n) (some 1) none == Txt.slice (fmS n) (some 1) none) = true from by simp]
      exact hQ _ _ F8.keep
end Mine
end
/-! part PM1 -/
section
open PySem PySem.W PyProof.Rows
set_option maxRecDepth 100000
namespace Mine
def jAny (bs : List Bool) : Bool := bs.any (· == true)
def jAll (bs : List Bool) : Bool := !(bs.any (· == false))
/-- bit by bit -/
def Bits (jd : List Bool → Bool) (ms : List Int) (n : Int) : Prop := ∀ b, n.toNat.testBit b = jd (ms.map fun m => m.toNat.testBit b)
theorem bits_or : ∀ (ms : List Int) (m0 : Int), 0 ≤ m0 → (∀ n ∈ ms, 0 ≤ n) → Bits jAny (m0 :: ms) (ms.foldl Builtin.bitOr m0) ∧ 0 ≤ ms.foldl Builtin.bitOr m0
  | [], m0, h0, _ => ⟨fun b => by simp [jAny], h0⟩
  | m :: ms, m0, h0, h => by
    have hm := h m (.head _)
    have e := bitOr_nat h0 hm
    have hp : 0 ≤ Builtin.bitOr m0 m := by rw [e]; omega
    obtain ⟨ih, ip⟩ := bits_or ms (Builtin.bitOr m0 m) hp fun n hn => h n (.tail _ hn)
    refine ⟨fun b => ?_, ip⟩
    rw [List.foldl_cons, ih b]
    simp only [jAny, List.map_cons, List.any_cons]
    rw [e, Int.toNat_natCast, Nat.testBit_or]
    cases m0.toNat.testBit b <;> cases m.toNat.testBit b <;> simp
theorem bits_and : ∀ (ms : List Int) (m0 : Int), 0 ≤ m0 → (∀ n ∈ ms, 0 ≤ n) → Bits jAll (m0 :: ms) (ms.foldl Builtin.bitAnd m0) ∧ 0 ≤ ms.foldl Builtin.bitAnd m0
  | [], m0, h0, _ => ⟨fun b => by simp [jAll], h0⟩
  | m :: ms, m0, h0, h => by
    have hm := h m (.head _)
    have e := bitAnd_nat h0 hm
    have hp : 0 ≤ Builtin.bitAnd m0 m := by rw [e]; omega
    obtain ⟨ih, ip⟩ := bits_and ms (Builtin.bitAnd m0 m) hp fun n hn => h n (.tail _ hn)
    refine ⟨fun b => ?_, ip⟩
    rw [List.foldl_cons, ih b]
    simp only [jAll, List.map_cons, List.any_cons]
    rw [e, Int.toNat_natCast, Nat.testBit_and]
    cases m0.toNat.testBit b <;> cases m.toNat.testBit b <;> simp
theorem bits_lt {jd : List Bool → Bool} {ms : List Int} {n : Int} (hB : Bits jd ms n) (hn : 0 ≤ n) (hj : ∀ l : List Bool, (∀ x ∈ l, x = false) → l ≠ [] → jd l = false) (hne : ms ≠ []) (hl : ∀ m ∈ ms, m < 4294967296) : n < 4294967296 := by
  have : n.toNat < 2 ^ 32 := by
    apply Nat.lt_pow_two_of_testBit
    intro i hi
    rw [hB i]
    refine hj _ (fun x hx => ?_) (by simpa using hne)
    obtain ⟨m, hm, rfl⟩ := List.mem_map.mp hx
    have := hl m hm
    exact Nat.testBit_lt_two_pow (Nat.lt_of_lt_of_le (by omega : m.toNat < 2 ^ 32) (Nat.pow_le_pow_right (by decide) hi))
  omega
theorem jAny_no (l : List Bool) (h : ∀ x ∈ l, x = false) (_ : l ≠ []) : jAny l = false := by
  unfold jAny
  rw [List.any_eq_false]
  intro x hx; rw [h x hx]; decide
theorem jAll_no (l : List Bool) (h : ∀ x ∈ l, x = false) (hn : l ≠ []) : jAll l = false := by
  unfold jAll
  obtain ⟨a, l, rfl⟩ := List.exists_cons_of_ne_nil hn
  rw [List.any_cons, h a (.head _)]; rfl
/-- the digits -/
theorem dig : ∀ (j n : Nat), n < 16 ^ j → List.replicate (j - (apI n).length) (0 : Int) ++ (apI n).map (· - 65) = (List.range j).map fun k => ((n / 16 ^ (j - 1 - k) % 16 : Nat) : Int)
  | 0, n, h => by
    have : n = 0 := by simpa using h
    subst this; simp [apI_zero]
  | j + 1, n, h => by
    have hr : ((List.range (j + 1)).map fun k => ((n / 16 ^ (j + 1 - 1 - k) % 16 : Nat) : Int)) = ((List.range j).map fun k => ((n / 16 / 16 ^ (j - 1 - k) % 16 : Nat) : Int)) ++ [((n % 16 : Nat) : Int)] := by
      rw [List.range_succ, List.map_append]
      congr 1
      · refine List.map_congr_left fun k hk => ?_
        have hk' : k < j := by simpa using hk
        rw [Nat.div_div_eq_div_mul, ← Nat.pow_succ', show j + 1 - 1 - k = j - 1 - k + 1 by omega]
      · simp
    have ih := dig j (n / 16) (by rw [Nat.pow_succ] at h; omega)
    rw [hr, ← ih]
    by_cases h0 : n = 0
    · subst h0
      simp [apI_zero, List.replicate_succ']
    · rw [apI_pos h0, List.map_append, List.length_append, List.length_singleton, show j + 1 - ((apI (n / 16)).length + 1) = j - (apI (n / 16)).length by omega, List.append_assoc]
      congr 2
      simp
      omega
theorem nib : ∀ d : Nat, d < 16 → (((List.range 4).filter fun j => d.testBit j).map fun j => (2 : Int) ^ j).sum = (d : Int) := by decide
theorem bit_eq (m : Int) (hm : 0 ≤ m) (k j : Nat) (hk : k < 8) (hj : j < 4) : bitV k j m = m.toNat.testBit (4 * (7 - k) + j) := by
  obtain ⟨a, rfl⟩ := Int.eq_ofNat_of_zero_le hm
  unfold bitV
  rw [Int.toNat_natCast, Nat.testBit_eq_decide_div_mod_eq]
  have e : (2 : Nat) ^ (4 * (7 - k) + j) = 16 ^ (7 - k) * 2 ^ j := by rw [Nat.pow_add, Nat.pow_mul]
  have e1 : a / 16 ^ (7 - k) % 16 / 2 ^ j % 2 = a / 16 ^ (7 - k) / 2 ^ j % 2 := by
    generalize a / 16 ^ (7 - k) = d
    match j, hj with
    | 0, _ => simp
    | 1, _ => simp; omega
    | 2, _ => simp; omega
    | 3, _ => simp; omega
  rw [e, ← Nat.div_div_eq_div_mul, ← e1]
  congr 1
  apply propext
  have : ((a : Int) / 16 ^ (7 - k) % 16 / 2 ^ j % 2) = ((a / 16 ^ (7 - k) % 16 / 2 ^ j % 2 : Nat) : Int) := by push_cast; rfl
  rw [this]
  omega
theorem let_eq {jd : List Bool → Bool} {ms : List Int} {n : Int} (hB : Bits jd ms n) (hnn : ∀ m ∈ ms, 0 ≤ m) (k : Nat) (hk : k < 8) : letV jd ms k = ((n.toNat / 16 ^ (7 - k) % 16 : Nat) : Int) := by
  rw [← nib (n.toNat / 16 ^ (7 - k) % 16) (Nat.mod_lt _ (by decide))]
  unfold letV
  congr 2
  refine List.filter_congr fun j hj => ?_
  have hj' : j < 4 := by simpa using hj
  have e : ms.map (bitV k j) = ms.map fun m => m.toNat.testBit (4 * (7 - k) + j) := List.map_congr_left fun m hm => bit_eq m (hnn m hm) k j hk hj'
  rw [e, ← hB]
  have t4 : (n.toNat / 16 ^ (7 - k) % 16).testBit j = (decide (j < 4) && (n.toNat / 16 ^ (7 - k)).testBit j) := Nat.testBit_mod_two_pow (n.toNat / 16 ^ (7 - k)) 4 j
  rw [t4]
  simp only [hj', decide_true, Bool.true_and]
  rw [show (16 : Nat) ^ (7 - k) = 2 ^ (4 * (7 - k)) by rw [Nat.pow_mul], Nat.testBit_div_two_pow, Nat.add_comm]
theorem places_eq {jd : List Bool → Bool} {ms : List Int} {n : Int} (hB : Bits jd ms n) (hnn : ∀ m ∈ ms, 0 ≤ m) (h0 : 0 ≤ n) (h1 : n < 4294967296) : plV n = (List.range 8).map (letV jd ms) := by
  unfold plV
  rw [dig 8 n.toNat (by omega)]
  exact List.map_congr_left fun k hk => (let_eq hB hnn k (by simpa using hk)).symm
theorem and_one {x : Int} (hx : 0 ≤ x) (k : Nat) (b : Int) (hb : b = ((2 ^ k : Nat) : Int)) : (Builtin.bitAnd x b = b) ↔ x.toNat.testBit k = true := by
  subst hb
  rw [bitAnd_nat hx (Int.natCast_nonneg _), Int.toNat_natCast]
  have e : (((x.toNat &&& 2 ^ k : Nat) : Int) = ((2 ^ k : Nat) : Int)) ↔ (x.toNat &&& 2 ^ k) = 2 ^ k := by
    generalize (2 ^ k : Nat) = z
    omega
  rw [e]
  constructor
  · intro h
    have h1 := congrArg (fun z => z.testBit k) h
    simp only [Nat.testBit_and, Nat.testBit_two_pow_self, Bool.and_true] at h1
    exact h1
  · intro h1
    apply Nat.eq_of_testBit_eq
    intro i
    rw [Nat.testBit_and, Nat.testBit_two_pow]
    by_cases a : k = i
    · subst a; simp [h1]
    · simp [a]
theorem and_two {x : Int} (hx : 0 ≤ x) (k l : Nat) (hkl : k ≠ l) (b : Int) (hb : b = ((2 ^ k ||| 2 ^ l : Nat) : Int)) : (Builtin.bitAnd x b = b) ↔ (x.toNat.testBit k = true ∧ x.toNat.testBit l = true) := by
  subst hb
  rw [bitAnd_nat hx (Int.natCast_nonneg _), Int.toNat_natCast]
  have e : (((x.toNat &&& (2 ^ k ||| 2 ^ l) : Nat) : Int) = ((2 ^ k ||| 2 ^ l : Nat) : Int)) ↔ (x.toNat &&& (2 ^ k ||| 2 ^ l)) = (2 ^ k ||| 2 ^ l) := by
    generalize (2 ^ k ||| 2 ^ l : Nat) = z
    omega
  rw [e]
  constructor
  · intro h
    have h1 := congrArg (fun z => z.testBit k) h
    have h2 := congrArg (fun z => z.testBit l) h
    simp only [Nat.testBit_and, Nat.testBit_or, Nat.testBit_two_pow_self, Bool.true_or, Bool.or_true, Bool.and_true] at h1 h2
    exact ⟨h1, h2⟩
  · rintro ⟨h1, h2⟩
    apply Nat.eq_of_testBit_eq
    intro i
    rw [Nat.testBit_and, Nat.testBit_or, Nat.testBit_two_pow, Nat.testBit_two_pow]
    by_cases a : k = i
    · subst a; simp [h1]
    · by_cases c : l = i
      · subst c; simp [h2]
      · simp [a, c]
/-- a right to read or write -/
theorem sg_one {x : Int} (hx : 0 ≤ x) (p k : Nat) (b : Int) (c : Str) (ht : TAB.getD p [] = [(b, c)]) (hp : p ≠ 0) (hb : b = ((2 ^ k : Nat) : Int)) : sg1 x p = if x.toNat.testBit k = true then c else "-" := by
  unfold sg1
  have n0 : ¬ (p : Int) = 0 := by omega
  rw [ht, pick, pick]
  simp only [if_neg n0]
  by_cases h : x.toNat.testBit k = true
  · rw [if_pos h, if_pos ((and_one hx k b hb).mpr h)]
  · rw [if_neg h, if_neg (fun z => h ((and_one hx k b hb).mp z))]
/-- a right to run, with the bit above -/
theorem sg_two {x : Int} (hx : 0 ≤ x) (p k l : Nat) (b1 b2 b3 : Int) (c1 c2 c3 : Str) (ht : TAB.getD p [] = [(b1, c1), (b2, c2), (b3, c3)]) (hp : p ≠ 0) (hkl : k ≠ l) (h1 : b1 = ((2 ^ k ||| 2 ^ l : Nat) : Int)) (h2 : b2 = ((2 ^ k : Nat) : Int)) (h3 : b3 = ((2 ^ l : Nat) : Int)) :
    sg1 x p = if x.toNat.testBit k = true then (if x.toNat.testBit l = true then c1 else c2) else (if x.toNat.testBit l = true then c3 else "-") := by
  unfold sg1
  have n0 : ¬ (p : Int) = 0 := by omega
  rw [ht, pick, pick, pick, pick]
  simp only [if_neg n0]
  have a1 := and_two hx k l hkl b1 h1
  have a2 := and_one hx k b2 h2
  have a3 := and_one hx l b3 h3
  by_cases hk : x.toNat.testBit k = true
  · by_cases hl : x.toNat.testBit l = true
    · rw [if_pos hk, if_pos hl, if_pos (a1.mpr ⟨hk, hl⟩)]
    · rw [if_pos hk, if_neg hl, if_neg (fun z => hl (a1.mp z).2), if_pos (a2.mpr hk)]
  · by_cases hl : x.toNat.testBit l = true
    · rw [if_neg hk, if_pos hl, if_neg (fun z => hk (a1.mp z).1), if_neg (fun z => hk (a2.mp z)), if_pos (a3.mpr hl)]
    · rw [if_neg hk, if_neg hl, if_neg (fun z => hk (a1.mp z).1), if_neg (fun z => hk (a2.mp z)), if_neg (fun z => hl (a3.mp z))]
section
variable {jd : List Bool → Bool} {ms : List Int} {n : Int}
theorem sign_one (hB : Bits jd ms n) (hnn : ∀ m ∈ ms, 0 ≤ m) (h0 : 0 ≤ n) (p k : Nat) (b : Int) (c : Str) (ht : TAB.getD p [] = [(b, c)]) (hp : p ≠ 0) (hb : b = ((2 ^ k : Nat) : Int)) (hm : (p : Int).fmod 3 ≠ 0) (hc : Txt.item "rw" ((p : Int).fmod 3 - 1) = c) (hd : (c != ("-" : Str)) = true) :
    signV jd (ms.map fun x => sg1 x p) p = sg1 n p := by
  rw [sg_one h0 p k b c ht hp hb]
  unfold signV
  rw [if_neg hm, hc, List.map_map]
  have e : (ms.map ((fun c => c != ("-" : Str)) ∘ fun x => sg1 x p)) = ms.map fun m => m.toNat.testBit k := List.map_congr_left fun m hmm => by
    show (sg1 m p != ("-" : Str)) = _
    rw [sg_one (hnn m hmm) p k b c ht hp hb]
    cases m.toNat.testBit k
    · rfl
    · exact hd
  rw [e, ← hB]
theorem sign_two (hB : Bits jd ms n) (hnn : ∀ m ∈ ms, 0 ≤ m) (h0 : 0 ≤ n) (p k l : Nat) (b1 b2 b3 : Int) (c1 c2 c3 tx : Str) (ht : TAB.getD p [] = [(b1, c1), (b2, c2), (b3, c3)]) (hp : p ≠ 0) (hkl : k ≠ l) (h1 : b1 = ((2 ^ k ||| 2 ^ l : Nat) : Int)) (h2 : b2 = ((2 ^ k : Nat) : Int)) (h3 : b3 = ((2 ^ l : Nat) : Int))
    (hm : (p : Int).fmod 3 = 0) (htx : (if (p : Int).fdiv 9 = 0 then ("-xSs" : Str) else "-xTt") = tx) (i0 : Txt.item tx (0 + 2 * 0) = "-") (i1 : Txt.item tx (1 + 2 * 0) = c3) (i2 : Txt.item tx (0 + 2 * 1) = c2) (i3 : Txt.item tx (1 + 2 * 1) = c1)
    (x1 : inX c1 = true ∧ inX c2 = false ∧ inX c3 = true) (s1 : inS c1 = true ∧ inS c2 = true ∧ inS c3 = false) : signV jd (ms.map fun x => sg1 x p) p = sg1 n p := by
  have xm : inX "-" = false := by decide
  have sm : inS "-" = false := by decide
  rw [sg_two h0 p k l b1 b2 b3 c1 c2 c3 ht hp hkl h1 h2 h3]
  unfold signV
  rw [if_pos hm, htx, List.map_map, List.map_map]
  have e : (ms.map (inX ∘ fun x => sg1 x p)) = ms.map fun m => m.toNat.testBit l := List.map_congr_left fun m hmm => by
    show inX (sg1 m p) = _
    rw [sg_two (hnn m hmm) p k l b1 b2 b3 c1 c2 c3 ht hp hkl h1 h2 h3]
    cases m.toNat.testBit k <;> cases m.toNat.testBit l <;> simp [x1, xm]
  have e' : (ms.map (inS ∘ fun x => sg1 x p)) = ms.map fun m => m.toNat.testBit k := List.map_congr_left fun m hmm => by
    show inS (sg1 m p) = _
    rw [sg_two (hnn m hmm) p k l b1 b2 b3 c1 c2 c3 ht hp hkl h1 h2 h3]
    cases m.toNat.testBit k <;> cases m.toNat.testBit l <;> simp [s1, sm]
  rw [e, e', ← hB, ← hB]
  cases n.toNat.testBit k <;> cases n.toNat.testBit l
  · exact i0
  · exact i1
  · exact i2
  · exact i3
theorem sign_all (hB : Bits jd ms n) (hnn : ∀ m ∈ ms, 0 ≤ m) (h0 : 0 ≤ n) : ∀ i, i < 9 → signV jd (ms.map fun x => sg1 x (i + 1)) (i + 1) = sg1 n (i + 1)
  | 0, _ => sign_one hB hnn h0 1 8 256 "r" (by decide +kernel) (by decide) (by decide) (by decide) (by decide +kernel) (by decide +kernel)
  | 1, _ => sign_one hB hnn h0 2 7 128 "w" (by decide +kernel) (by decide) (by decide) (by decide) (by decide +kernel) (by decide +kernel)
  | 2, _ => sign_two hB hnn h0 3 11 6 2112 2048 64 "s" "S" "x" "-xSs" (by decide +kernel) (by decide) (by decide) (by decide) (by decide) (by decide) (by decide) (by decide +kernel) (by decide +kernel) (by decide +kernel) (by decide +kernel) (by decide +kernel) (by decide +kernel) (by decide +kernel)
  | 3, _ => sign_one hB hnn h0 4 5 32 "r" (by decide +kernel) (by decide) (by decide) (by decide) (by decide +kernel) (by decide +kernel)
  | 4, _ => sign_one hB hnn h0 5 4 16 "w" (by decide +kernel) (by decide) (by decide) (by decide) (by decide +kernel) (by decide +kernel)
  | 5, _ => sign_two hB hnn h0 6 10 3 1032 1024 8 "s" "S" "x" "-xSs" (by decide +kernel) (by decide) (by decide) (by decide) (by decide) (by decide) (by decide) (by decide +kernel) (by decide +kernel) (by decide +kernel) (by decide +kernel) (by decide +kernel) (by decide +kernel) (by decide +kernel)
  | 6, _ => sign_one hB hnn h0 7 2 4 "r" (by decide +kernel) (by decide) (by decide) (by decide) (by decide +kernel) (by decide +kernel)
  | 7, _ => sign_one hB hnn h0 8 1 2 "w" (by decide +kernel) (by decide) (by decide) (by decide) (by decide +kernel) (by decide +kernel)
  | 8, _ => sign_two hB hnn h0 9 9 0 513 512 1 "t" "T" "x" "-xTt" (by decide +kernel) (by decide) (by decide) (by decide) (by decide) (by decide) (by decide) (by decide +kernel) (by decide +kernel) (by decide +kernel) (by decide +kernel) (by decide +kernel) (by decide +kernel) (by decide +kernel)
end
end Mine
end
/-! part E7 -/
section
open PySem PySem.W PyProof.Rows PySem.W.X
set_option maxRecDepth 100000
set_option maxHeartbeats 4000000
namespace Mine
theorem slot_llt : Slot "list" "__lt__" "list.__lt__" :=
  .of (owner := "list") (n := "__lt__") (by rw [typeLookup_type, builtinLookup_eq_fast]; kernel_rfl) (by decide +kernel) (by decide +kernel) (by decide +kernel)
    (by first | exact .inl (by decide +kernel) | exact .inr (by decide +kernel)) (by rw [isSubtype_type]; kernel_rfl)
theorem ent_llt : entryFor table "list.__lt__" = some Builtin.«list.__lt__» := entryFor_of_tree (by kernel_rfl)
theorem ent_lel : entryFor table "list.__eq__.loop" = some Builtin.«list.__eq__.loop» := entryFor_of_tree (by kernel_rfl)
theorem args_llt (a b : Value) : argsOk "list.__lt__" ⟨[a, b], []⟩ := by unfold argsOk; kernel_rfl
theorem plain_lel : plainId "list.__eq__.loop" = true := by decide +kernel
section
variable {prog : Program} {w : World} {A : Around} {E : Value → Shared → Prop} {s : Shared}
abbrev two (p q : Value) (n : Nat) : Obj := ⟨.type "list", none, .seq #[p, q] n, #[]⟩
theorem lel2 {x y : Addr} {p q p' q' : Value} {nx ny : Nat} {R : Result → Shared → Prop} (hx : s.heap.get? x = some (two p q nx)) (hy : s.heap.get? y = some (two p' q' ny))
    (h : R (.ok (.ret (.bool false))) s) : codeAny (model prog w) A (.builtin "list.__eq__.loop" ⟨[.ref x, .ref y, rawInt (0 + 1 + 1), rawInt 0], []⟩) R s := by
  refine codeAny_builtin ent_lel ?_
  unfold Builtin.«list.__eq__.loop»
  refine wpAny_bind (listItems_at hx rfl (wpAny_bind (listItems_at hy rfl ?_)))
  refine wpAny_bind (listItems_at hx rfl (wpAny_bind (listItems_at hy rfl ?_)))
  refine wpAny_of_eq (a := .done (.ret (.bool false))) (by kernel_rfl) ?_
  exact h
theorem lel1 {x y : Addr} {a b c d : Int} {ta tb tc td : Tok} {nx ny : Nat} {R : Result → Shared → Prop} (hx : s.heap.get? x = some (two (.int a ta) (.int b tb) nx)) (hy : s.heap.get? y = some (two (.int c tc) (.int d td) ny))
    (h : R (.ok (.ret (.bool (decide (b < d))))) s) : codeAny (model prog w) A (.builtin "list.__eq__.loop" ⟨[.ref x, .ref y, rawInt (0 + 1), rawInt 0], []⟩) R s := by
  refine codeAny_builtin ent_lel ?_
  unfold Builtin.«list.__eq__.loop»
  refine wpAny_bind (listItems_at hx rfl (wpAny_bind (listItems_at hy rfl ?_)))
  refine wpAny_bind (wpAny_eqBool_int ?_)
  by_cases hbd : b = d
  · subst hbd
    rw [show (b == b) = true from by simp]
    refine wpAny_of_eq (a := .again (.builtin "list.__eq__.loop" ⟨[.ref x, .ref y, rawInt (0 + 1 + 1), rawInt 0], []⟩)) (by kernel_rfl) ?_
    refine ⟨by kernel_rfl, lel2 hx hy ?_⟩
    rw [show decide (b < b) = false from by simp] at h
    exact h
  · rw [show (b == d) = false from by simp [hbd]]
    refine wpAny_bind (listItems_at hx rfl (wpAny_bind (listItems_at hy rfl ?_)))
    refine wpAny_bind (wpAny_lt_int ?_)
    exact wpAny_pure h
/-- the order of two lists of two ints, as a sort asks for it -/
theorem lt_lists {x y : Addr} {a b c d : Int} {ta tb tc td : Tok} {nx ny : Nat} {Q : Bool → Shared → Prop} (hu : A.units < cLine) (hx : s.heap.get? x = some (two (.int a ta) (.int b tb) nx)) (hy : s.heap.get? y = some (two (.int c tc) (.int d td) ny))
    (h : Q (decide (a < c ∨ (a = c ∧ b < d))) s) : wpAny (model prog w) A (keyLt' oneType' (.ref x) (.ref y)) Q E s := by
  rw [keyLt'_oneType, oneLt'_eq]
  simp only [if_true]
  refine wpAny_bind (wpAny_cRoomFor hu ?_)
  refine wpAny_bind (wpAny_mono (Q := fun r s' => r = some (.bool (decide (a < c ∨ (a = c ∧ b < d)))) ∧ s' = s) (E := fun _ _ => False) ?_ (fun r s' hr => ?_) fun _ _ e => e.elim)
  rotate_left
  · obtain ⟨rfl, rfl⟩ := hr
    exact wpAny_truthy_bool h
  refine wpAny_callSpecialIfBound?_slot ⟨_, hx, rfl⟩ slot_llt ?_
  refine wpAny_call (x_code ?_)
  refine s_load x (some headPart) (by kernel_rfl) hx ?_
  refine wpAny_of_eq (a := .again (.builtin "list.__lt__" ⟨[.ref x, .ref y], []⟩)) (by kernel_rfl) ?_
  refine ⟨by kernel_rfl, codeAny_builtin ent_llt ?_⟩
  refine wpAny_bind (wpAny_of_eq (a := (.ref x, [.ref y])) (by kernel_rfl) ?_)
  refine wpAny_bind (wpAny_isInstance (T := "list") (b := true) ⟨_, hy, rfl⟩ (by rw [isSubtype_type]; kernel_rfl) ?_)
  refine wpAny_of_eq (a := .again (.builtin "list.__eq__.loop" ⟨[.ref x, .ref y, rawInt 0, rawInt 0], []⟩)) (by kernel_rfl) ?_
  refine ⟨by kernel_rfl, codeAny_builtin ent_lel ?_⟩
  unfold Builtin.«list.__eq__.loop»
  refine wpAny_bind (listItems_at hx rfl (wpAny_bind (listItems_at hy rfl ?_)))
  refine wpAny_bind (wpAny_eqBool_int ?_)
  by_cases hac : a = c
  · subst hac
    rw [show (a == a) = true from by simp]
    refine wpAny_of_eq (a := .again (.builtin "list.__eq__.loop" ⟨[.ref x, .ref y, rawInt (0 + 1), rawInt 0], []⟩)) (by kernel_rfl) ?_
    refine ⟨by kernel_rfl, lel1 hx hy ?_⟩
    have e : decide (a < a ∨ (a = a ∧ b < d)) = decide (b < d) := by simp
    rw [e]; exact ⟨rfl, rfl⟩
  · rw [show (a == c) = false from by simp [hac]]
    refine wpAny_bind (listItems_at hx rfl (wpAny_bind (listItems_at hy rfl ?_)))
    refine wpAny_bind (wpAny_lt_int ?_)
    refine wpAny_pure ?_
    have e : decide (a < c ∨ (a = c ∧ b < d)) = decide (a < c) := by simp [hac]
    rw [e]; exact ⟨rfl, rfl⟩
theorem draw_l {it l : Addr} {items : Array Value} (hne : l ≠ it) : ∀ (n i : Nat) (s : Shared) (Q : List Value → Shared → Prop), s.heap.IsListIter it l i → s.heap.IsList l items → i + n ≤ items.size →
    (∀ h', h'.IsListIter it l (i + n) → Heap.SameBut it s.heap h' → Q ((items.toList.drop i).take n) { s with heap := h' }) → wpAny (model prog w) A (draw (.ref it) n) Q E s
  | 0, i, s, Q, hit, _, _, hQ => by
    show wpAny _ _ (pure []) Q E s
    exact wpAny_pure (by simpa using hQ s.heap hit (Heap.SameBut.refl ..))
  | n + 1, i, s, Q, hit, ht, hle, hQ => by
    have hlt : i < items.size := by omega
    show wpAny _ _ (pyNext (.ref it) >>= _) Q E s
    refine wpAny_bind (wpAny_pyNext_list_item hit ht (x := items[i]) (by simp [hlt]) fun h₁ hit₁ hs₁ => ?_)
    refine wpAny_bind (wpAny_holding (draw_l hne n (i + 1) _ _ hit₁ (ht.extBut hs₁.extBut hne) (by omega) fun h₂ hit₂ hs₂ => wpAny_pure ?_))
    have hd : items.toList.drop i = items[i] :: items.toList.drop (i + 1) := by simp [List.drop_eq_getElem_cons, hlt]
    have := hQ h₂ (by rw [show i + (n + 1) = i + 1 + n by omega]; exact hit₂) (hs₁.trans hs₂)
    rw [hd, List.take_succ_cons] at this
    exact this
/-- a, b = a list of two -/
theorem assign_two {env : Env} {elts : List Expr} {x1} {pos : Pos} {t : Addr} {p q : Value} {n : Nat} {Q : Unit → Shared → Prop} (hh : A.handled = none) (ht : s.heap.get? t = some (two p q n))
    (hn : (assignEach elts env).length = 2) (hstar : (assignEach elts env).findIdx? (·.1) = none)
    (h : ∀ h', Heap.ExtBut s.heap.objs.size s.heap h' → wpAny (model prog w) A (assignInOrder ((assignEach elts env).map (·.2)) [p, q]) Q E { s with heap := h' }) :
    wpAny (model prog w) A (assign (.Tuple elts x1 pos) env (.ref t)) Q E s := by
  rw [arm_assign_Tuple]
  refine wpAny_bind (wpAny_standAt ?_)
  unfold unpack
  rw [hn, hstar]
  refine wpAny_bind (wpAny_holding ?_)
  have hl : s.heap.IsList t #[p, q] := ⟨_, ht, rfl, n, rfl⟩
  have hlt : t ≠ s.heap.objs.size := Nat.ne_of_lt (Heap.lt_size ht)
  unfold unpackItems
  refine wpAny_bind ?_
  unfold notIterableAtAll
  refine wpAny_bind (wpAny_specialOf hl.typeIs slot_list_iter.lookup ?_)
  refine wpAny_pure ?_
  simp only [Bool.false_eq_true, if_false]
  refine wpAny_bind (wpAny_holding (wpAny_pyIter_list hl ?_))
  refine wpAny_bind (wpAny_holding (draw_l (items := #[p, q]) hlt 2 0 _ _ ⟨_, Heap.get?_push_size _ rfl, rfl, rfl⟩ (hl.push _) (by simp) fun h₁ hit₁ hs₁ => ?_))
  rw [if_neg (by simp)]
  have ht₁ : h₁.IsList t #[p, q] := (hl.push _).extBut hs₁.extBut hlt
  refine wpAny_bind (wpAny_holding (wpAny_pyNext_list_end hh hit₁ ht₁ (by simp) fun h₂ he₂ => ?_))
  simp only [Option.isSome_none, Bool.false_eq_true, if_false]
  exact wpAny_pure (h h₂ fun b o hb e => he₂ b o hb (hs₁.extBut b o hb (Heap.get?_push_of_some _ e)))
end
section
variable {prog : Program} {w : World} {A : Around} {E : Value → Shared → Prop} {s : Shared} {h₀ : Heap} {L : Addr} {m : Str → Option Value} {env : Env} {iter : Expr} {x x₂ : Str} {px px₂ tp pe pos : Pos} {kk : Nat} {scope : Scope} {cl : List (Str × Addr)} {Q : Value → Shared → Prop}
theorem ints_len2 {vs : List Value} {ns : List Int} (h : IntsAre vs ns) : vs.length = ns.length := by
  induction h with
  | nil => rfl
  | cons n t _ ih => simp [ih]
def PairSrc (h₀ : Heap) (L : Addr) (m : Str → Option Value) (fs : List Int) (Q : Value → Shared → Prop) (xv : Value) (s₁ : Shared) : Prop :=
  ∃ ax its news, xv = .ref ax ∧ Fr h₀ L s₁.heap m ∧ News h₀ L s₁.heap news ∧ s₁.heap.IsList ax its ∧ its.size = fs.length ∧ fs.length ≤ 1000 ∧
    (∀ i v, its[i]? = some v → ∃ t p u n, v = .ref t ∧ s₁.heap.get? t = some (two p (.int (fs.getD i 0) u) n)) ∧
    (∀ ys D h tk, IntsAre ys fs → Fr h₀ L h m → News h₀ L h ((D, LCg.lst ys) :: news) → s₁.heap.get? D = none → Q (.ref D) { s₁ with heap := h, toks := tk })
/-- [k for low, k in a list of lists of two] -/
theorem comp_pairK (F₀ : Fr h₀ L s.heap m) (hclos : closureFor scope env = pure cl) (hcell : ∀ y ∈ scope.names, y.2 ≠ .cell) (hkind : scope.kind = .function)
    (hnames : ∀ y ∈ scope.names, y.2 = .local → scope.names.lookup y.1 = some .local) (hx : scope.names.lookup x = some .local) (hx₂ : scope.names.lookup x₂ = some .local) (hh : A.handled = none) (hdb : (x₂ == ("__debug__" : Str)) = false) (fs : List Int)
    (h : wpAny (model prog w) A (eval iter env) (PairSrc h₀ L m fs Q) E s)
    (hs : ∀ x, foldedSetIterable iter env x = pure x := by intro _; rfl) :
    wpAny (model prog w) A (eval (.ListComp (.Name x₂ pe) [⟨.Tuple [.Name x px, .Name x₂ px₂] kk tp, iter, [], 0⟩] scope pos) env) Q E s := by
  rw [eval_ListComp]
  refine wpAny_comprehension_free (use := none) rfl hs hclos hkind hnames (wpAny_mono h (fun xv s₁ h₁ => ?_) fun _ _ e => e)
  obtain ⟨ax, its, news, rfl, F, N, hl, hsz, hz, hit0, fin⟩ := h₁
  refine wpAny_pyIter_list hl ?_
  obtain ⟨hp, gg, dd, tk0, oo⟩ := s₁
  dsimp only at F N hl hit0 ⊢
  generalize hH : hp.push { cls := .type "list_iterator", data := .fields #[.ref ax, .int 0 0] } = H1
  have zI : H1.objs.size = hp.objs.size + 1 := by rw [← hH, Heap.size_push]
  have hit : H1.IsListIter hp.objs.size ax 0 := by rw [← hH]; exact ⟨_, Heap.get?_push_size _ rfl, rfl, rfl⟩
  have up1 : ∀ b o, hp.get? b = some o → H1.get? b = some o := fun b o e => by rw [← hH]; exact Heap.get?_push_of_some _ e
  refine wpAny_newObj_type (wpAny_newFunctionEnv hcell (by intro y hy; simp at hy) (fun h₁ hns₁ hsb₁ => ?_) hkind)
  dsimp only at hns₁ hsb₁ ⊢
  generalize hH2 : H1.push { cls := .type "list", dict := none, data := .seq ([] : List Value).toArray } = H2 at hns₁ hsb₁ ⊢
  have zD : H2.objs.size = H1.objs.size + 1 := by rw [← hH2, Heap.size_push]
  have up2 : ∀ b o, H1.get? b = some o → H2.get? b = some o := fun b o e => by rw [← hH2]; exact Heap.get?_push_of_some _ e
  have up3 : ∀ b o, H2.get? b = some o → h₁.get? b = some o := fun b o e => hsb₁.extBut b o (Nat.ne_of_lt (Heap.lt_size e)) (Heap.get?_push_of_some _ e)
  have gD : h₁.get? H1.objs.size = some (LCg.lst []) := up3 _ _ (by rw [← hH2]; exact Heap.get?_push_size _ rfl)
  have hitH : h₁.IsListIter hp.objs.size ax 0 := let ⟨o, e, r⟩ := hit; ⟨o, up3 _ _ (up2 _ _ e), r⟩
  have up : hp.StaysIn h₁ := fun b o e => up3 _ _ (up2 _ _ (up1 _ _ e))
  generalize hI : hp.objs.size = I at zI hitH
  generalize hDd : H1.objs.size = D at zI zD gD
  generalize hCc : H2.objs.size = C at zD hns₁
  have lI : ∀ b o, hp.get? b = some o → b < I := fun b o e => by rw [← hI]; exact Heap.lt_size e
  have eI1 : D = I + 1 := by omega
  have eC1 : C = I + 2 := by omega
  have hLI : @LT.lt Nat _ L I := by rw [← hI]; exact F.ns.lt
  have f0 : ∀ b, I ≤ b → h₀.get? b = none := fun b hb => by
    cases e : h₀.get? b with
    | none => rfl
    | some o => exact absurd (lI b o (F.keep b o e)) (Nat.not_lt.mpr hb)
  clear up1 up2 up3 hH hH2 hit hsb₁
  have axI : ax ≠ I := by obtain ⟨o, e, _⟩ := hl; exact Nat.ne_of_lt (lI _ _ e)
  have loop : ∀ s₃ : Shared, s₃ = ⟨h₁, gg, dd, tk0 + ([] : List (Str × Value)).length, oo⟩ →
      codeAny (model prog w) A (.compLoop (.ListComp (.Name x₂ pe) [⟨.Tuple [.Name x px, .Name x₂ px₂] kk tp, iter, [], 0⟩] scope pos) 0 (.ref I) (.ref D) (compEnvC scope cl C env))
        (compPost (model prog w) A E none Q (.ref D) C) s₃ := by
    rintro s₃ rfl
    refine LCp.codeAny_compLoop_pair
      (fun k s' => ∃ h' tk i ys m', s' = ⟨h', gg, dd, tk, oo⟩ ∧ i ≤ its.size ∧ k = its.size + 1 - i ∧ h'.IsListIter I ax i ∧ hp.StaysIn h' ∧ h'.Ns C m' ∧ h'.get? D = some (LCg.lst ys) ∧ IntsAre ys (fs.take i)) ?_ (its.size + 1)
      ⟨h₁, _, 0, [], _, rfl, Nat.zero_le _, rfl, hitH, up, hns₁, gD, .nil⟩
    rintro k s' ⟨h', tk, i, ys, m', rfl, hi, rfl, hst, st, hC', hD', hy⟩
    have hl' : h'.IsList ax its := hl.at fun o e => st _ _ e
    have hyl : ys.length = i := by
      have : ys.length = (fs.take i).length := ints_len2 hy
      rw [this, List.length_take]; omega
    cases hv : its[i]? with
    | none =>
      have hsz' : i = its.size := Nat.le_antisymm hi (by simpa using hv)
      subst hsz'
      refine wpAny_pyNext_list_end hh hst hl' hv fun h₂ he => ?_
      refine ⟨_, hC'.at' fun o e => he _ o (by show @Ne Nat C I; omega) e, fun h'' hs'' => ?_⟩
      have k6 : ∀ b o, b ≠ C → b ≠ I → h'.get? b = some o → h''.get? b = some o := fun b o hb hb2 e => hs''.extBut b o hb (he b o hb2 e)
      have st6 : hp.StaysIn h'' := fun b o e => k6 b o (Nat.ne_of_lt (Nat.lt_of_lt_of_le (lI b o e) (by omega))) (Nat.ne_of_lt (lI b o e)) (st b o e)
      refine fin ys D h'' _ (by rw [hsz, List.take_length] at hy; exact hy) (F.kept st6) (fun p hp' => ?_) ?_
      · rcases List.mem_cons.mp hp' with rfl | hp'
        · exact ⟨k6 _ _ (by show @Ne Nat D C; omega) (by show @Ne Nat D I; omega) hD', by show @Ne Nat D L; omega, f0 D (by show @LE.le Nat _ I D; omega)⟩
        · exact ⟨st6 _ _ (N p hp').1, (N p hp').2⟩
      · cases e : hp.get? D with
        | none => rfl
        | some o => have : @LT.lt Nat _ D I := lI D o e; omega
    | some v =>
      have hlt' : i < its.size := (Array.getElem?_eq_some_iff.mp hv).1
      obtain ⟨t, p, u, n, rfl, ht⟩ := hit0 i v hv
      refine wpAny_pyNext_list_item hst hl' hv fun h₂ hst₂ hs₂ => ?_
      have k2 : ∀ b o, b ≠ I → h'.get? b = some o → h₂.get? b = some o := fun b o hb e => hs₂.extBut b o hb e
      have st2 : hp.StaysIn h₂ := fun b o e => k2 b o (Nat.ne_of_lt (lI b o e)) (st b o e)
      refine wpAny_letOwnedTupleGo_listiter hst₂ ?_
      refine assign_two hh (st2 _ _ ht) rfl rfl fun h₃ he => ?_
      have k3 : ∀ b o, h₂.get? b = some o → h₃.get? b = some o := fun b o e => he b o (Nat.ne_of_lt (Heap.lt_size e)) e
      have C3 : h₃.Ns C m' := hC'.at' fun o e => k3 _ o (k2 _ o (by show @Ne Nat C I; omega) e)
      refine assignInOrder_cons (wpAny_assign_Name (wpAny_storeName_local (lookup_relabel_local hx) C3 (fun h₄ C4 hs₄ => ?_) (by simp [compEnvC, relabel, hkind])))
      refine assignInOrder_cons (wpAny_assign_Name (wpAny_storeName_local (lookup_relabel_local hx₂) C4 (fun h₅ C5 hs₅ => ?_) (by simp [compEnvC, relabel, hkind])))
      refine assignInOrder_nil ?_
      have k5 : ∀ b o, b ≠ C → h₃.get? b = some o → h₅.get? b = some o := fun b o hb e => hs₅.extBut b o hb (hs₄.extBut b o hb e)
      refine wpAny_Name (wpAny_loadName_local (by exact hkind) (lookup_relabel_local hx₂) C5 (v := .int (fs.getD i 0) u) (by simp) ?_) hdb
      have D5 : h₅.get? D = some (LCg.lst ys) := k5 _ _ (by show @Ne Nat D C; omega) (k3 _ _ (k2 _ _ (by show @Ne Nat D I; omega) hD'))
      refine append_at (s := ⟨h₅, gg, dd, _, oo⟩) (hsz := by show ys.toArray.size ≤ sizeLine; rw [List.size_toArray, hyl, sizeLine_eq]; omega) D5 fun h₆ hs₆ hD₆ => ?_
      rw [LCg.lst_snoc] at hD₆
      have k6 : ∀ b o, b ≠ D → b ≠ C → h₂.get? b = some o → h₆.get? b = some o := fun b o hb hc e => hs₆.extBut b o hb (k5 b o hc (k3 b o e))
      refine ⟨its.size + 1 - (i + 1), by omega, h₆, _, i + 1, ys ++ [.int (fs.getD i 0) u], _, rfl, hlt', rfl, ?_, ?_, C5.sameBut hs₆ (by show @Ne Nat C D; omega), hD₆, ?_⟩
      · obtain ⟨o, e, r⟩ := hst₂
        exact ⟨o, k6 _ _ (by show @Ne Nat I D; omega) (by show @Ne Nat I C; omega) e, r⟩
      · exact fun b o e => k6 b o (Nat.ne_of_lt (Nat.lt_of_lt_of_le (lI b o e) (by omega))) (Nat.ne_of_lt (Nat.lt_of_lt_of_le (lI b o e) (by omega))) (st2 b o e)
      · have hf : i < fs.length := by omega
        rw [List.take_succ_eq_append_getElem hf]
        have : fs.getD i 0 = fs[i] := by simp [List.getD, hf]
        rw [this]
        exact ints_snoc hy
  exact codeAny_compStart_list (loop _ rfl) (wpAny_pyIter_listiter hitH (loop _ rfl))
end
end Mine
end
/-! part E8 -/
section
open PySem PySem.W PyProof.Rows
set_option maxRecDepth 100000
set_option maxHeartbeats 4000000
namespace Mine
section
variable {prog : Program} {w : World} {A : Around} {E : Value → Shared → Prop} {s s₁ : Shared} {h₀ : Heap} {L : Addr} {m : Str → Option Value} {env : Env} {elt iter : Expr} {x : Str} {px pos : Pos} {scope : Scope} {cl : List (Str × Addr)} {Q : Value → Shared → Prop} {news : List (Addr × Obj)}
/-- an element is made -/
def NewEnd (h₀ : Heap) (L : Addr) (m : Str → Option Value) (s₁ : Shared) (h : Heap) (V : Obj → Prop) (y : Value) (s₂ : Shared) : Prop :=
  ∃ a o h' tk', s₂ = { s₁ with heap := h', toks := tk' } ∧ y = .ref a ∧ Fr h₀ L h' m ∧ But L h h' ∧ h'.get? a = some o ∧ h.get? a = none ∧ a ≠ L ∧ h₀.get? a = none ∧ V o
def RangeSrcN (prog : Program) (w : World) (A : Around) (h₀ : Heap) (L : Addr) (m : Str → Option Value) (env : Env) (elt : Expr) (x : Str) (scope : Scope) (cl : List (Str × Addr)) (V : Nat → Obj → Prop) (Q : Value → Shared → Prop) (xv : Value) (s₁ : Shared) : Prop :=
  ∃ r t u v n news, xv = .ref r ∧ Fr h₀ L s₁.heap m ∧ News h₀ L s₁.heap news ∧ IsRange s₁.heap r 0 ((n : Nat) : Int) 1 t u v ∧ n ≤ 1000 ∧
    (∀ i t C m₂ h tk (E' : Value → Shared → Prop), i < n → h.Ns C m₂ → m₂ x = some (.int (i : Nat) t) → Fr h₀ L h m → News h₀ L h news → wpAny (model prog w) A (eval elt (compEnvC scope cl C env)) (NewEnd h₀ L m s₁ h (V i)) E' { s₁ with heap := h, toks := tk }) ∧
    (∀ els D h tk, els.length = n → (∀ (j : Nat) p, els[j]? = some p → V j p.2) → Fr h₀ L h m → News h₀ L h ((D, LCg.lst (els.map fun p => .ref p.1)) :: (els ++ news)) → Q (.ref D) { s₁ with heap := h, toks := tk })
theorem off3_app {I C D : Addr} : ∀ {l l' : List (Addr × Obj)}, LCg.Off3 I C D l → LCg.Off3 I C D l' → LCg.Off3 I C D (l ++ l')
  | [], _, _, h => h
  | _ :: _, _, h, h' => ⟨h.1, off3_app h.2 h'⟩
/-- [a new object for x in range(n)] -/
theorem comp_rangeN (F₀ : Fr h₀ L s.heap m) (hclos : closureFor scope env = pure cl) (hcell : ∀ y ∈ scope.names, y.2 ≠ .cell) (hkind : scope.kind = .function)
    (hnames : ∀ y ∈ scope.names, y.2 = .local → scope.names.lookup y.1 = some .local) (hx : scope.names.lookup x = some .local) (hh : A.handled = none) (V : Nat → Obj → Prop)
    (h : wpAny (model prog w) A (eval iter env) (RangeSrcN prog w A h₀ L m env elt x scope cl V Q) E s)
    (hs : ∀ x, foldedSetIterable iter env x = pure x := by intro _; rfl) :
    wpAny (model prog w) A (eval (.ListComp elt [⟨.Name x px, iter, [], 0⟩] scope pos) env) Q E s := by
  refine LCg.ListComp_U F₀ hclos hcell hkind hnames hx (wpAny_mono h (fun xv s₁ h₁ => ?_) fun _ _ e => e) hs
  obtain ⟨r, t, u, v, n, news, rfl, F, N, hr, hz, turn, fin⟩ := h₁
  refine .inr ⟨r, 0, _, t, u, v, n, news, rfl, hh, F, N, hr, small_one (by omega) (by omega) (by omega) (by omega), by rw [rangeSize_one]; split <;> omega, by rw [sizeLine_eq]; omega, fun s₂ hs₂ => ?_⟩
  obtain ⟨g, rfl⟩ := hs₂
  have key : ∀ (j i : Nat) (els : List (Addr × Obj)), i + j = n → els.length = i → (∀ (j : Nat) p, els[j]? = some p → V j p.2) →
      LCg.CompRest prog w A h₀ L m env elt x scope cl { s₁ with heap := g } (fun _ => True) (fun i v => ∃ t, v = .int (0 + (i : Int)) t) (LCg.FinE h₀ L m { s₁ with heap := g } Q) j i (els.map fun p => .ref p.1) (els ++ news) := by
    intro j
    induction j with
    | zero =>
      intro i els hi hl hV
      refine LCg.CompRest.zero ?_
      intro D h tk F N o1
      exact fin els D h tk (by omega) hV F N
    | succ j ih =>
      intro i els hi hl hV
      refine LCg.CompRest.succ ?_
      rintro v I oI C oC D m₂ h tk E' ⟨t, rfl⟩ hC hx F N off ne
      have e0 : (0 : Int) + (i : Int) = ((i : Nat) : Int) := by omega
      rw [e0] at hx
      have N' : News h₀ L h news := fun p hp => N p (.tail _ (.tail _ (.tail _ (List.mem_append_right _ hp))))
      refine wpAny_mono (turn i t C m₂ h tk E' (by omega) (hC.ns (N _ (.tail _ (.head _))).1) hx F N') (fun y s₂ hq => ?_) fun _ _ e => e
      obtain ⟨a, o, h', tk', rfl, rfl, F', st, ha, hna, haL, ha0, hV'⟩ := hq
      have N2 := st.led N
      have off3 := off.mem
      have neA : ∀ b ob, h.get? b = some ob → @Ne Nat a b := fun b ob e q => by
        have q' : a = b := q
        rw [q', e] at hna; cases hna
      have nI := (N (I, oI) (.head _)).1
      have nC := (N (C, oC) (.tail _ (.head _))).1
      have nD := (N (D, _) (.tail _ (.tail _ (.head _)))).1
      refine ⟨h', tk', (els ++ [(a, o)]) ++ news, rfl, F', fun p hp => ?_, ?_, trivial, ?_⟩
      · rcases List.mem_cons.mp hp with rfl | hp
        · exact N2 _ (.head _)
        rcases List.mem_cons.mp hp with rfl | hp
        · exact N2 _ (.tail _ (.head _))
        rcases List.mem_cons.mp hp with rfl | hp
        · exact N2 _ (.tail _ (.tail _ (.head _)))
        rcases List.mem_append.mp hp with hp | hp
        · rcases List.mem_append.mp hp with hp | hp
          · exact N2 _ (.tail _ (.tail _ (.tail _ (List.mem_append_left _ hp))))
          · rcases List.mem_singleton.mp hp with rfl
            exact ⟨ha, haL, ha0⟩
        · exact N2 _ (.tail _ (.tail _ (.tail _ (List.mem_append_right _ hp))))
      · refine LCg.Off3.of fun p hp => ?_
        rcases List.mem_append.mp hp with hp | hp
        · rcases List.mem_append.mp hp with hp | hp
          · exact off3 p (List.mem_append_left _ hp)
          · rcases List.mem_singleton.mp hp with rfl
            exact ⟨neA _ _ nI, neA _ _ nC, neA _ _ nD⟩
        · exact off3 p (List.mem_append_right _ hp)
      · have := ih (i + 1) (els ++ [(a, o)]) (by omega) (by simp [hl]) fun k p hk => by
          rw [List.getElem?_append] at hk
          split at hk
          · exact hV k p hk
          · have e : k = i := by
              obtain ⟨q, _⟩ := List.getElem?_eq_some_iff.mp hk
              simp at q; omega
            subst e
            have e : (a, o) = p := by simpa [hl] using hk
            exact e ▸ hV'
        simpa using this
  exact key n 0 [] (by omega) rfl (fun j p e => by simp at e)
end
end Mine
end
/-! part S7 -/
section
open PySem PySem.W PyProof.Rows
set_option maxRecDepth 100000
set_option maxHeartbeats 4000000
namespace Mine
/-- the second key: the low bits, then the place -/
def kap2 (ms : List Int) (i : Nat) : Nat := kap ms i * 1000 + i
theorem srt_same (ms : List Int) (h2 : 1 ≤ ms.length) (h60 : ms.length ≤ 60) : srtL (kap ms) ms.length = srtL (kap2 ms) ms.length := by
  refine srtL_eq h2 fun a b ha hb r => ?_
  unfold R kap2 at r
  unfold R
  omega
section
variable {prog : Program} {w : World} {A : Around} {E : Value → Shared → Prop} {s : Shared} {h₀ : Heap} {L : Addr} {m : Str → Option Value} {news : List (Addr × Obj)}
/-- sorted of the list of [low, k] -/
theorem sortL {l : Addr} {ms : List Int} {els : List (Addr × Obj)} {Q : Value → Shared → Prop} (hu : A.units + 10 < cLine) (F : Fr h₀ L s.heap m) (N : News h₀ L s.heap news) (hsub : ∀ p ∈ els, p ∈ news) (hl : s.heap.IsList l (els.map fun p => Value.ref p.1).toArray) (hel : els.length = ms.length)
    (hV : ∀ (j : Nat) p, els[j]? = some p → ∃ t u n, p.2 = two (.int (ms.getD j 0 % 65536) t) (.int (j : Nat) u) n) (h2 : 2 ≤ ms.length) (h60 : ms.length ≤ 60)
    (hQ : ∀ D c h', Fr h₀ L h' m → News h₀ L h' ((D, listOf (List.toArray ((srtL (kap2 ms) ms.length).map fun i => (els.map fun p => Value.ref p.1).getD i Value.none)) c) :: news) → (∀ q ∈ news, q.1 < D) → Q (.ref D) { s with heap := h' }) :
    wpAny (model prog w) A (call (.builtin "sorted") [.ref l]) Q E s := by
  have hvl : (els.map fun p => Value.ref p.1).length = ms.length := by rw [List.length_map, hel]
  have at1 : ∀ i, i < ms.length → ∃ a t u n, (els.map fun p => Value.ref p.1).getD i Value.none = .ref a ∧ (a, two (.int (ms.getD i 0 % 65536) t) (.int (i : Nat) u) n) ∈ news := fun i hi => by
    have hi' : i < els.length := by omega
    obtain ⟨t, u, n, e⟩ := hV i els[i] (List.getElem?_eq_getElem hi')
    refine ⟨els[i].1, t, u, n, by simp [List.getD, hi'], ?_⟩
    rw [← e]
    exact hsub _ (List.getElem_mem hi')
  refine kas_sorted (T := .type "list") F N hl (by omega) (by omega) (fun h' F' N' v hv => ?_) (by decide) fun D e1 h' F' N' ltD => ?_
  · obtain ⟨p, hp, rfl⟩ := List.mem_map.mp hv
    obtain ⟨j, hj, rfl⟩ := List.getElem_of_mem hp
    obtain ⟨t, u, n, e⟩ := hV j els[j] (List.getElem?_eq_getElem hj)
    have g := (N' _ (hsub _ hp)).1
    rw [e] at g
    exact (Looks.ld g).andThen .now
  · rw [hvl]
    refine wp_runN (N := ms.length) (lt := lt (kap2 ms)) (I := fun s' => s' = { s with heap := h' }) (fun i j C s' hi hj hs hC => ?_) _ _ (ok_sort (by omega)) rfl fun s' hs => ?_
    · subst hs
      obtain ⟨x, tx, ux, nx, ex, hx⟩ := at1 i hi
      obtain ⟨y, ty, uy, ny, ey, hy⟩ := at1 j hj
      unfold kas_ask
      rw [ex, ey]
      refine lt_lists (by show A.units + 1 + 1 < cLine; omega) (N' _ (.tail _ hx)).1 (N' _ (.tail _ hy)).1 ?_
      have e : decide (ms.getD i 0 % 65536 < ms.getD j 0 % 65536 ∨ (ms.getD i 0 % 65536 = ms.getD j 0 % 65536 ∧ ((i : Nat) : Int) < ((j : Nat) : Int))) = lt (kap2 ms) i j := by
        show _ = decide (kap2 ms i < kap2 ms j)
        congr 1
        apply propext
        unfold kap2 kap
        omega
      rw [e]
      exact hC _ rfl
    · subst hs
      exact KasFin.intro F' N' (UpdF.head fun p hp => Nat.ne_of_lt (ltD p hp)) fun h4 c4 F4 N4 => hQ D c4 h4 F4 N4 ltD
end
end Mine
end
/-! part S8 -/
section
open PySem PySem.W PyProof.Rows PyProof.Rows.LSm
set_option maxRecDepth 100000
set_option maxHeartbeats 4000000
namespace Mine
theorem fill15 (P : Params) (h : Heap) : (Mine.hd.heap_1 P).In h → PySem.Challenge.rw_ny0142_01.Holds → True := by
  k_fill
  intro _ _; trivial
def LamTwo (op : Operator) (p : Arguments) (b : Expr) (s : Scope) : Prop := ∃ q1 q2 p1 p2 p3, p = { posonlyargs := [], args := [⟨"one", none, q1⟩, ⟨"two", none, q2⟩], vararg := none, kwonlyargs := [], kw_defaults := [], kwarg := none, defaults := [] } ∧
   b = .BinOp (.Name "one" p1) op (.Name "two" p2) p3 ∧ s = { kind := .function, names := [("one", .local), ("two", .local)], isGenerator := false, isCoroutine := false }
/-- a deed on two numbers -/
theorem lam2 {w : World} {A : Around} {s : Shared} {op : Operator} {g : Int → Int → Int} (hg : ∀ (A : Around) (s : Shared) (Q E : Value → Shared → Prop) x y tx ty, Q (.int (g x y) s.toks) { s with toks := s.toks + 1 } → wpAny (model PR w) A (binaryOp op (.int x tx) (.int y ty)) Q E s)
    (hl : s.heap.NoLimit) (r : Rm A 2 50) {qual : Str} {params : Arguments} {body : Expr} {scope : Scope} {pm ctv : Value} {c' f : Addr} {x y : Int} {tx ty : Tok} {Q E : Value → Shared → Prop}
    (hsh : LamTwo op params body scope) (ho : s.heap.get? f = some (kla_obj "<lambda>" qual params body scope [] pm c' ctv)) (hcd : s.heap.CodeRec (.ref c') qual)
    (hQ : ∀ t h' tk', s.heap.StaysIn h' → Q (.int (g x y) t) { s with heap := h', toks := tk' }) :
    wpAny (model PR w) A (call (.ref f) [.int x tx, .int y ty]) Q E s := by
  obtain ⟨q1, q2, p1, p2, p3, rfl, rfl, rfl⟩ := hsh
  refine enterL (binds := [("one", .int x tx), ("two", .int y ty)]) hl ho hcd r.room rfl (locs rfl) ?_ rfl rfl rfl (by decide)
  intro h₁ L F N
  refine wpAny_BinOp ?_
  refine nameX_L (v := .int x tx) F rfl ?_ (by rfl) (by rfl) (by decide)
  refine nameX_L (v := .int y ty) F rfl ?_ (by rfl) (by rfl) (by decide)
  exact hg _ _ _ _ _ _ _ _ (hQ _ _ _ fun b o e => F.keep b o e)
/-- _law_right, for a deed that is bit by bit what a judge says -/
theorem right2 {w : World} {A : Around} {s : Shared} {op : Operator} {g : Int → Int → Int} {jd : List Bool → Bool} (hg : ∀ (A : Around) (s : Shared) (Q E : Value → Shared → Prop) x y tx ty, Q (.int (g x y) s.toks) { s with toks := s.toks + 1 } → wpAny (model PR w) A (binaryOp op (.int x tx) (.int y ty)) Q E s)
    (hgp : ∀ x y, 0 ≤ x → 0 ≤ y → 0 ≤ g x y) (hb : ∀ (ms : List Int) (m0 : Int), 0 ≤ m0 → (∀ n ∈ ms, 0 ≤ n) → Bits jd (m0 :: ms) (ms.foldl g m0) ∧ 0 ≤ ms.foldl g m0) (hj : ∀ l : List Bool, (∀ x ∈ l, x = false) → l ≠ [] → jd l = false)
    (C : Cx w s.heap) (r : Rm A 8 160) {M RW f J : Addr} {vs us : List Value} {ms : List Int} (hM : s.heap.IsList M vs.toArray) (hi : IntsAre vs ms) (hms : ∀ x ∈ ms, 0 ≤ x ∧ x < 4294967296) (hl1 : ms.length ≤ 10) (hl0 : 6 ≤ ms.length)
    (hRW : s.heap.IsList RW us.toArray) (hu : StrsAre us (ms.map fmS)) (hJ : Jud w s.heap J jd) {qual : Str} {params : Arguments} {body : Expr} {scope : Scope} {pm ctv : Value} {c' : Addr}
    (hsh : LamTwo op params body scope) (ho : s.heap.get? f = some (kla_obj "<lambda>" qual params body scope [] pm c' ctv)) (hcd : s.heap.CodeRec (.ref c') qual)
    {Q E : Value → Shared → Prop} (hQ : ∀ h' tk', s.heap.StaysIn h' → Q (.bool true) { s with heap := h', toks := tk' }) : wpAny (model PR w) A (call (.ref 146) [.ref M, .ref RW, .ref f, .ref J]) Q E s := by
  cases ms with
  | nil => simp at hl0
  | cons m0 ms =>
    have h0 := (hms m0 (.head _)).1
    have hnn : ∀ n ∈ ms, 0 ≤ n := fun n hn => (hms n (.tail _ hn)).1
    obtain ⟨B, hn0⟩ := hb ms m0 h0 hnn
    have hn1 := bits_lt B hn0 hj (by simp) fun m hm => (hms m hm).2
    have hnn' : ∀ n ∈ m0 :: ms, 0 ≤ n := fun n hn => (hms n hn).1
    have C0 := C
    obtain ⟨X, loose, mean, mg, mb, T⟩ := C
    exact rgt (oq := kla_obj "<lambda>" qual params body scope [] pm c' ctv) C0 r hM hi h0 hnn (by simp at hl1; omega) hRW hu hJ g ho rfl (fun A' h' tk' x y tx ty Q' E' r' st hx hy hQ' => lam2 (s := { s with heap := h', toks := tk' }) hg (T.keeps st).nolimit r' hsh (st _ _ ho) (hcd.keeps st) hQ') hgp rfl hn0 hn1 (places_eq B hnn' hn0 hn1) (sign_all B hnn' hn0) hQ
theorem jud_any {w : World} {h : Heap} (C : Cx w h) : Jud w h 129 jAny := by
  obtain ⟨X, _⟩ := id C
  exact ⟨⟨_, _, X 129 _ (by k_is), rfl⟩, fun A s l us bs Q E r C hl hb hQ => lany C r hl hb hQ⟩
theorem jud_all {w : World} {h : Heap} (C : Cx w h) : Jud w h 136 jAll := by
  obtain ⟨X, _⟩ := id C
  exact ⟨⟨_, _, X 136 _ (by k_is), rfl⟩, fun A s l us bs Q E r C hl hb hQ => lall C r hl hb hQ⟩
theorem rightO {w : World} {A : Around} {s : Shared} (C : Cx w s.heap) (r : Rm A 8 160) {M RW f : Addr} {vs us : List Value} {ms : List Int} (hM : s.heap.IsList M vs.toArray) (hi : IntsAre vs ms) (hms : ∀ x ∈ ms, 0 ≤ x ∧ x < 4294967296) (hl1 : ms.length ≤ 10) (hl0 : 6 ≤ ms.length)
    (hRW : s.heap.IsList RW us.toArray) (hu : StrsAre us (ms.map fmS)) {qual : Str} {params : Arguments} {body : Expr} {scope : Scope} {pm ctv : Value} {c' : Addr}
    (hsh : LamTwo .BitOr params body scope) (ho : s.heap.get? f = some (kla_obj "<lambda>" qual params body scope [] pm c' ctv)) (hcd : s.heap.CodeRec (.ref c') qual)
    {Q E : Value → Shared → Prop} (hQ : ∀ h' tk', s.heap.StaysIn h' → Q (.bool true) { s with heap := h', toks := tk' }) : wpAny (model PR w) A (call (.ref 146) [.ref M, .ref RW, .ref f, .ref 129]) Q E s :=
  right2 (g := Builtin.bitOr) (fun _ _ _ _ _ _ _ _ h => or_int h) (fun x y hx hy => by rw [bitOr_nat hx hy]; omega) bits_or jAny_no C r hM hi hms hl1 hl0 hRW hu (jud_any C) hsh ho hcd hQ
theorem rightA {w : World} {A : Around} {s : Shared} (C : Cx w s.heap) (r : Rm A 8 160) {M RW f : Addr} {vs us : List Value} {ms : List Int} (hM : s.heap.IsList M vs.toArray) (hi : IntsAre vs ms) (hms : ∀ x ∈ ms, 0 ≤ x ∧ x < 4294967296) (hl1 : ms.length ≤ 10) (hl0 : 6 ≤ ms.length)
    (hRW : s.heap.IsList RW us.toArray) (hu : StrsAre us (ms.map fmS)) {qual : Str} {params : Arguments} {body : Expr} {scope : Scope} {pm ctv : Value} {c' : Addr}
    (hsh : LamTwo .BitAnd params body scope) (ho : s.heap.get? f = some (kla_obj "<lambda>" qual params body scope [] pm c' ctv)) (hcd : s.heap.CodeRec (.ref c') qual)
    {Q E : Value → Shared → Prop} (hQ : ∀ h' tk', s.heap.StaysIn h' → Q (.bool true) { s with heap := h', toks := tk' }) : wpAny (model PR w) A (call (.ref 146) [.ref M, .ref RW, .ref f, .ref 136]) Q E s :=
  right2 (g := Builtin.bitAnd) (fun _ _ _ _ _ _ _ _ h => and_int h) (fun x y hx hy => by rw [bitAnd_nat hx hy]; omega) bits_and jAll_no C r hM hi hms hl1 hl0 hRW hu (jud_all C) hsh ho hcd hQ
end Mine
end
/-! part LW1 -/
open PySem PySem.W PyProof.Rows in
theorem Mine.flushLW1 {M : Model} {A : Around} {env : Env} {Q E : Value → Shared → Prop} {s : Shared} (h : wpAny M A (evalPart none env) Q E s) : wpAny M A (evalPart none env) Q E s := by
  first | (walk1; fail) | (w_top off; exact h)
section
open PySem PySem.W PyProof.Rows PyProof.Rows.LSm PySem.W.X
set_option maxRecDepth 100000
set_option maxHeartbeats 4000000
namespace Mine
theorem fill14 (P : Params) (h : Heap) : (Mine.hd.heap_1 P).In h → PySem.Challenge.rw_ny0142_01.Holds → True := by
  k_fill
  intro _ _; trivial
local macro_rules | `(tactic| k_steps) => `(tactic| repeat' ((fail_if_success first
   | (with_reducible show wpAny _ _ (exec (Stmt.While _ _ _ _) _) _ _ _)
   | (with_reducible show wpAny _ _ (exec (Stmt.For _ _ _ _ _) _) _ _ _)
   | (with_reducible show wpAny _ _ (exec (Stmt.Try _ _ _ _ _) _) _ _ _)
   | (with_reducible show wpAny _ _ (pyIter _) _ _ _)
   | (with_reducible show wpAny _ _ (newList [_, _]) _ _ _)
   | (with_reducible show wpAny _ _ (compareOp CmpOp.NotEq (Value.ref _) (Value.ref _)) _ _ _)
   | (with_reducible show wpAny _ _ (call (Value.type _) _ _) _ _ _)
   | (with_reducible show wpAny _ _ (eval (Expr.ListComp _ _ _ _) _) _ _ _)
   | (with_reducible show wpAny _ _ (exec (Stmt.Assign _ (Expr.ListComp _ _ _ _) _) _) _ _ _)
   | (with_reducible show wpAny _ _ (call (Value.ref _) _ _) _ _ _)); (first | (k_unfold; (try dsimp only)) | walk1 | (dsimp only; walk1))))
local macro_rules | `(tactic| walk_at "eval Name") => `(tactic| (k_here; (with_reducible show wpAny _ _ (eval (Expr.Name _ _) (envOf _ _ _ _ _)) _ _ _); k_dflt (refine' ld ?k1 ?k2 ?_; (case k1 => k_asm); (case k2 => first | exact rfl | assumption); k_whole)))
local macro_rules | `(tactic| tb_start) => `(tactic| first | assumption | exact Cx.keeps (by assumption) (Fr.keep (by k_asm)))
local macro_rules | `(tactic| tb_rel) => `(tactic| first | exact Rm.deeper (Rm.le (by assumption) (by decide) (by decide)) | exact Rm.le (by assumption) (by decide) (by decide))
local macro_rules | `(tactic| ktr_unf) => `(tactic| ((with_reducible rename Heap.StaysIn _ _ => st9); (k_dflt (have F9 := Fr.kept (by k_asm) st9)); (k_dflt (have N9 := News.grown (by k_asm) st9)); (clear st9); (try k_sweep)))
local macro_rules | `(tactic| walk_at "eval Name") => `(tactic| (k_here; (with_reducible show wpAny _ _ (eval (Expr.Name _ _) (compEnvC _ _ _ _)) _ _ _); k_dflt (first
  | refine ldVarK (by assumption) (by assumption) ?_
  | refine wpAny_Name (wpAny_loadName_free rfl rfl rfl (by assumption) ?_) (by decide)
  | refine wpAny_Name (wpAny_loadName_cell rfl rfl rfl (by assumption) ?_) (by decide)
  | refine LCgL.ld_global (by k_asm) (by k_asm) (by k_asm) (by k_is) ?_
  | refine LCgL.ld_built (by k_asm) (by k_asm) (by k_asm) (by k_is) (by boot_by_name) (by decide) ?_)))
local macro_rules | `(tactic| walk_at "eval Name") => `(tactic| (k_here; (with_reducible show wpAny _ _ (eval (Expr.Name _ _) (envOfC _ _ _ _ _)) _ _ _); k_dflt (refine' nameX_L ?k1 ?k2 ?_ ?k3 ?k4 ?k5; (case k1 => k_asm); (case k3 => rfl); (case k4 => rfl); (case k5 => decide); (case k2 => first | assumption | exact rfl); k_whole)))
def rngO (n : Int) (t u v : Tok) : Obj := { cls := .type "range", data := .fields #[.int 0 t, .int n u, .int 1 v] }
theorem rng1 {prog : Program} {w : World} {A : Around} {E : Value → Shared → Prop} {s : Shared} {h₀ : Heap} {L : Addr} {m : Str → Option Value} {news : List (Addr × Obj)} {n : Int} {t : Tok} {Q : Value → Shared → Prop} (F : Fr h₀ L s.heap m) (N : News h₀ L s.heap news)
    (h : ∀ R h' tk' t u v, Fr h₀ L h' m → News h₀ L h' ((R, rngO n t u v) :: news) → (∀ q ∈ news, q.1 < R) → Q (.ref R) { s with heap := h', toks := tk' }) : wpAny (model prog w) A (call (.type "range") [.int n t]) Q E s :=
  call_range_1 (h _ _ _ _ _ _ (F.push _) (News.push F N _ rfl) fun q hq => Heap.lt_size (N q hq).1)
theorem lawW : PySem.Challenge.rw_ny0142_01.Holds := Mine.hd (by
  k_go0
  with_reducible rename Fr _ _ _ _ => F9
  with_reducible rename News _ _ _ _ => N9
  rename (_ = Data.cell _) => dcell
  rename Frag.In _ _ => X0
  rename Top topProg _ _ _ _ _ => T0
  have C0 : Cx _ _ := ⟨X0, _, _, _, _, T0⟩
  rename IntsAre _ _ => hI
  rename List Int => ns
  rename List Value => vs
  rename World => w
  rename Heap.IsList _ _ _ => hl
  rename (¬ (_ : Int) < _) => hlen
  have r0 : ∀ env, Rm (callerA.deeper env) 40 1000 := fun env => ⟨rfl, (by show callerA.depth + 1 + 40 < recursionLimit; decide), (by show callerA.units + 3 + 1000 < cLine; decide)⟩
  replace dcell := (show _ = Data.cell none from dcell)
  k_steps
  with_reducible rename Fr _ _ _ _ => F9
  with_reducible rename News _ _ _ _ => N9
  refine comp_list (cl := []) F9 rfl (by decide) rfl (by decide) rfl rfl (fun i v => ∃ t, v = .int (lmV ((ns.take 4).getD i 0)) t) ?_
  k_steps
  (try clear F9 N9)
  with_reducible rename Fr _ _ _ _ => F9
  with_reducible rename News _ _ _ _ => N9
  rename IntsAre _ (List.take 4 ns) => hI4
  rename List Value => ws
  have hl4 : (ns.take 4).length ≤ 4 := by rw [List.length_take]; omega
  refine ListSrc.intro F9 N9 (.inr ⟨_, (by k_mem), rfl, _, rfl⟩) (by rw [List.size_toArray, ints_len' hI4, sizeLine_eq]; omega) ?_ ?_
  · rintro j v C m₂ h5 tk5 E' hj hv hC hx F5 N5
    have hlt : j < (ns.take 4).length := by rw [← ints_len' hI4]; simpa using hj
    obtain ⟨t5, e5⟩ := ints_at' hI4 hlt
    have e9 : ws[j]? = some v := by simpa using hv
    rw [e5] at e9
    obtain rfl := Option.some.inj e9
    clear F9 N9
    k_steps
    refine lmode (C0.keeps F5.keep) ((r0 _).le (by decide) (by decide)) _ _ ?_
    intro t6 h6 tk6 st6
    exact ElEnd.stay F5 st6 ⟨_, rfl⟩
  intro ys D h5 tk5 hly hy F5 N5 hnD hB
  have o1 := fresh_off N9 hnD
  simp only [LCg.Off1, and_true] at o1
  have hyi : IntsAre ys ((ns.take 4).map lmV) := ints_of (by rw [hly, List.size_toArray, List.length_map, ints_len' hI4]) fun j y e => by
    obtain ⟨t, e2⟩ := hy j y e
    have hlt : j < (ns.take 4).length := by
      obtain ⟨q, _⟩ := List.getElem?_eq_some_iff.mp e
      rw [hly, List.size_toArray, ints_len' hI4] at q; exact q
    exact ⟨t, by rw [e2]; simp only [List.getD, List.getElem?_map, List.getElem?_eq_getElem hlt]; rfl⟩
  clear F9 N9 hy
  k_steps
  with_reducible rename Fr _ _ _ _ => F9
  with_reducible rename News _ _ _ _ => N9
  rename IntsAre _ (List.map lmV _ ++ _) => hMs
  rename List Value => us
  skip
  rename Shared => s1
  rename (_ = Data.cell (some (Value.ref _))) => dM
  rename Obj => oM
  rename_i M _ _ _
  have hms0 : ∀ x ∈ (ns.take 4).map lmV ++ [35309, 806857, 19389, 35309, 216557, 9706], 0 ≤ x ∧ x < 4294967296 := fun x hx => by
    rcases List.mem_append.mp hx with hx | hx
    · obtain ⟨y, _, rfl⟩ := List.mem_map.mp hx
      exact lmV_range y
    · simp only [List.mem_cons, List.not_mem_nil, or_false] at hx
      rcases hx with rfl | rfl | rfl | rfl | rfl | rfl <;> decide
  have hmsl : ((ns.take 4).map lmV ++ [35309, 806857, 19389, 35309, 216557, 9706]).length ≤ 10 ∧ 6 ≤ ((ns.take 4).map lmV ++ [35309, 806857, 19389, 35309, 216557, 9706]).length := by
    rw [List.length_append, List.length_map]; simp only [List.length_cons, List.length_nil]; omega
  generalize (ns.take 4).map lmV ++ [35309, 806857, 19389, 35309, 216557, 9706] = ms at hMs hms0 hmsl
  have N8 : News _ _ _ [(M, W.listOf us.toArray 0), (s1.heap.objs.size + 1, oM), (23, tabObj #[]), (148, tabObj #[])] := List.forall_mem_cons.mpr ⟨N9 _ (by k_mem), List.forall_mem_cons.mpr ⟨N9 _ (by k_mem), List.forall_mem_cons.mpr ⟨N9 _ (by k_mem), List.forall_mem_cons.mpr ⟨N9 _ (by k_mem), List.forall_mem_nil _⟩⟩⟩⟩
  clear N9
  have hmc : Heap.IsCell _ (s1.heap.objs.size + 1) (some (.ref M)) := ⟨_, (N8 (s1.heap.objs.size + 1, _) (by k_mem)).1, dM⟩
  refine comp_list (cl := []) F9 rfl (by decide) rfl (by decide) rfl rfl (fun i v => ∃ t, v = .str (fmS (ms.getD i 0)) t) (wpAny_Name (wpAny_loadName_cell (c := s1.heap.objs.size + 1) (v := .ref M) rfl rfl rfl hmc ?_) (by decide))
  refine ListSrc.intro F9 N8 (.inr ⟨_, (by k_mem), rfl, _, rfl⟩) (by rw [List.size_toArray, ints_len' hMs, sizeLine_eq]; omega) ?_ ?_
  · rintro j v C m₂ h5 tk5 E' hj hv hC hx F5 N5
    have hlt : j < ms.length := by rw [← ints_len' hMs]; simpa using hj
    obtain ⟨t5, e5⟩ := ints_at' hMs hlt
    have e9 : us[j]? = some v := by simpa using hv
    rw [e5] at e9
    obtain rfl := Option.some.inj e9
    clear F9 N8
    k_steps
    refine filemode (C0.keeps F5.keep) ((r0 _).le (by decide) (by decide)) _ _ ?_
    intro t6 h6 tk6 st6
    exact ElEnd.stay F5 st6 ⟨_, rfl⟩
  intro rs RW h6 tk6 hlr hr F6 N6 hnR hB6
  have o2 := fresh_off N8 hnR
  simp only [LCg.Off1, and_true] at o2
  have hrows : StrsAre rs (ms.map fmS) := strs_of (by rw [hlr, List.size_toArray, List.length_map, ints_len' hMs]) fun j y e => by
    obtain ⟨t, e2⟩ := hr j y e
    have hlt : j < ms.length := by
      obtain ⟨q, _⟩ := List.getElem?_eq_some_iff.mp e
      rw [hlr, List.size_toArray, ints_len' hMs] at q; exact q
    exact ⟨t, by rw [e2]; simp only [List.getD, List.getElem?_map, List.getElem?_eq_getElem hlt]; rfl⟩
  clear F9 N8 hr hmc
  k_steps
  with_reducible rename Fr _ _ _ _ => F9
  with_reducible rename News _ _ _ _ => N9
  refine rng1 F9 N9 ?_
  intro R hR tkR tR uR vR F8 N8 lR
  k_lt lR
  clear F9 N9
  k_steps
  with_reducible rename Fr _ _ _ _ => F9
  with_reducible rename News _ _ _ _ => N9
  rename_i q c1 oc1 vs1 t1 ct1 h7 tk7 dc1 dc2 lc1 lc2
  have hlam : ∃ qual params body scope pm, LamShape params body scope ∧ h7.get? q = some (kla_obj "<lambda>" qual params body scope [("modes", s1.heap.objs.size + 1)] pm c1 ct1) ∧ vs1[1]? = some (.str qual t1) ∧ q ≠ s1.heap.objs.size ∧ (ghostOf s1.heap [(27, 23), (150, 148)]).get? q = none :=
    ⟨_, _, _, _, _, ⟨_, _, _, _, _, _, _, _, _, _, rfl, rfl, rfl⟩, (N9 _ (.head _)).1, dc2, (N9 _ (.head _)).2.1, (N9 _ (.head _)).2.2⟩
  obtain ⟨qual, params, body, scope, pm, hls, nq, dq, nqL, nq0⟩ := hlam
  have n23 := N9 (23, tabObj #[]) (by k_mem)
  have nc1 := N9 (c1, oc1) (by k_mem)
  have nR := N9 (R, rngO ms.length tR uR vR) (by k_mem)
  have nRW := N9 (RW, LCg.lst rs) (by k_mem)
  have nM := N9 (M, W.listOf us.toArray 0) (by k_mem)
  have nL1 := N9 (s1.heap.objs.size + 1, oM) (by k_mem)
  have n148 := N9 (148, _) (by k_mem)
  clear N9
  refine cmpkey (s := ⟨h7, _, _, _, _⟩) (C0.keeps F9.keep) ((r0 _).le (by decide) (by decide)) (by show callerA.depth + 1 ≤ 800; decide) (by show callerA.units + 3 ≤ 7000; decide) n23.1 ?_
  intro a cl h8 tk8 pI bI sI pL bL sL hk8 hi8 hl8 KC hcl hclf hT23
  obtain ⟨ps23, hT23⟩ := hT23
  have h7L : ∃ o, h7.get? s1.heap.objs.size = some o := let ⟨o, _, _, e, _⟩ := F9.ns; ⟨o, e⟩
  have F8 : Fr _ _ h8 _ := ⟨F9.ns.at' fun o e => hk8 _ o (Ne.symm n23.2.1) e, fun b o e => hk8 b o (fun z => by rw [z, n23.2.2] at e; cases e) (F9.keep b o e), F9.above⟩
  have fresh : ∀ x, h7.get? x = none → x ≠ s1.heap.objs.size ∧ (ghostOf s1.heap [(27, 23), (150, 148)]).get? x = none := fun x hx => ⟨fun z => (by obtain ⟨o, e⟩ := h7L; rw [z, e] at hx; cases hx), none_of F9.keep hx⟩
  obtain ⟨ocl, ecl, dcl⟩ := hcl
  obtain ⟨nsk, md, bk, tk0, t1k, t2k, t3k, vk, l0k, cI, cL, oI, oL, ctI, ctL, e1, e2, e3, e4, e5, e6, e7, e8, e9, e10, e11, frk⟩ := KC.ex
  have fk : ∀ x, x ∈ [a, nsk, md, vk.fI, cI, vk.fL, cL] → x ≠ s1.heap.objs.size ∧ (ghostOf s1.heap [(27, 23), (150, 148)]).get? x = none := fun x hx => (frk x hx).elim (fun z => z ▸ n23.2) (fresh x)
  have NL : News (ghostOf s1.heap [(27, 23), (150, 148)]) s1.heap.objs.size h8 [(a, _), (nsk, _), (md, _), (vk.fI, _), (cI, oI), (vk.fL, _), (cL, oL), (cl, ocl), (q, _), (c1, oc1), (R, rngO ms.length tR uR vR), (RW, LCg.lst rs), (M, W.listOf us.toArray 0), (s1.heap.objs.size + 1, oM), (148, _), (23, tabObj ps23)] :=
    List.forall_mem_cons.mpr ⟨⟨e1, fk _ (by simp)⟩, List.forall_mem_cons.mpr ⟨⟨e2, fk _ (by simp)⟩, List.forall_mem_cons.mpr ⟨⟨e5, fk _ (by simp)⟩, List.forall_mem_cons.mpr ⟨⟨e6, fk _ (by simp)⟩, List.forall_mem_cons.mpr ⟨⟨e7, fk _ (by simp)⟩, List.forall_mem_cons.mpr ⟨⟨e9, fk _ (by simp)⟩, List.forall_mem_cons.mpr ⟨⟨e10, fk _ (by simp)⟩, List.forall_mem_cons.mpr ⟨⟨ecl, fresh _ hclf⟩,
      List.forall_mem_cons.mpr ⟨⟨hk8 _ _ (by show @Ne Nat q 23; have := lc2; omega) nq, nqL, nq0⟩, List.forall_mem_cons.mpr ⟨⟨hk8 _ _ (by show @Ne Nat c1 23; omega) nc1.1, nc1.2⟩, List.forall_mem_cons.mpr ⟨⟨hk8 _ _ (by show @Ne Nat R 23; omega) nR.1, nR.2⟩, List.forall_mem_cons.mpr ⟨⟨hk8 _ _ (by show @Ne Nat RW 23; omega) nRW.1, nRW.2⟩,
      List.forall_mem_cons.mpr ⟨⟨hk8 _ _ (by show @Ne Nat M 23; omega) nM.1, nM.2⟩, List.forall_mem_cons.mpr ⟨⟨hk8 _ _ (by show @Ne Nat (s1.heap.objs.size + 1) 23; omega) nL1.1, nL1.2⟩, List.forall_mem_cons.mpr ⟨⟨hk8 _ _ (by show @Ne Nat 148 23; decide) n148.1, n148.2⟩, List.forall_mem_cons.mpr ⟨⟨hT23, n23.2⟩, List.forall_mem_nil _⟩⟩⟩⟩⟩⟩⟩⟩⟩⟩⟩⟩⟩⟩⟩⟩
  clear F9
  k_steps
  refine sortK (s := ⟨h8, _, _, _, _⟩) (R := R) (a := a) (q := q) (M := M) ((r0 _).le (by decide) (by decide)) ?_ hMs (fun n hn => (hms0 n hn).1) (by omega) (by omega) F8 NL (NL (R, _) (by k_mem)).1 rfl ?_
  · intro h' hb hn
    exact ⟨C0.keeps hb, ⟨h7, pI, bI, sI, pL, bL, sL, cl, .str "law_ny0142_01" 315, ⟨⟨nsk, md, bk, tk0, t1k, t2k, t3k, vk, l0k, cI, cL, oI, oL, ctI, ctL, hn (a, _) (by k_mem), hn (nsk, _) (by k_mem), e3, e4, hn (md, _) (by k_mem), hn (vk.fI, _) (by k_mem), hn (cI, _) (by k_mem), e8, hn (vk.fL, _) (by k_mem), hn (cL, _) (by k_mem), e11, frk⟩⟩, hi8, hl8, ⟨ocl, hn (cl, _) (by k_mem), dcl⟩⟩,
      ⟨qual, params, body, scope, s1.heap.objs.size + 1, pm, c1, ct1, hls, hn (q, _) (by k_mem), ⟨c1, oc1, vs1, t1, rfl, hn (c1, _) (by k_mem), dc1, dq⟩, ⟨oM, hn (s1.heap.objs.size + 1, _) (by k_mem), dM⟩⟩, ⟨_, hn (M, _) (by k_mem), rfl, _, rfl⟩⟩
  intro D1 cD1 out1 h9 tk9 F9 N9 ltD1 hout1
  have lD1 : M < D1 ∧ RW < D1 ∧ R < D1 ∧ s1.heap.objs.size + 1 < D1 ∧ (148 : Addr) < D1 := ⟨ltD1 (M, _) (by k_mem), ltD1 (RW, _) (by k_mem), ltD1 (R, _) (by k_mem), ltD1 (s1.heap.objs.size + 1, _) (by k_mem), ltD1 (148, _) (by k_mem)⟩
  obtain ⟨lD1a, lD1b, lD1c, lD1d, lD1e⟩ := lD1
  have NS : News (ghostOf s1.heap [(27, 23), (150, 148)]) s1.heap.objs.size h9 [(D1, W.listOf out1.toArray cD1), (R, rngO ms.length tR uR vR), (RW, LCg.lst rs), (M, W.listOf us.toArray 0), (s1.heap.objs.size + 1, oM), (148, _), (23, tabObj ps23)] :=
    List.forall_mem_cons.mpr ⟨N9 (D1, _) (by k_mem), List.forall_mem_cons.mpr ⟨N9 (R, _) (by k_mem), List.forall_mem_cons.mpr ⟨N9 (RW, _) (by k_mem), List.forall_mem_cons.mpr ⟨N9 (M, _) (by k_mem), List.forall_mem_cons.mpr ⟨N9 (s1.heap.objs.size + 1, _) (by k_mem), List.forall_mem_cons.mpr ⟨N9 (148, _) (by k_mem), List.forall_mem_cons.mpr ⟨N9 (23, _) (by k_mem), List.forall_mem_nil _⟩⟩⟩⟩⟩⟩⟩
  clear NL N9 F8 ltD1 frk fk e1 e2 e3 e4 e5 e6 e7 e8 e9 e10 e11 hk8 hi8 hl8 KC hls nq dq nqL nq0 n23 nc1 nR nRW nM nL1 n148 fresh dcl ecl
  k_steps
  with_reducible rename Fr _ _ _ _ => F9
  with_reducible rename News _ _ _ _ => N9
  refine comp_pairK (cl := []) F9 rfl (by decide) rfl (by decide) rfl rfl rfl (by decide) ((srtL (kap2 ms) ms.length).map fun (i : Nat) => (i : Int)) ?_
  k_steps
  refine comp_rangeN (cl := [("modes", s1.heap.objs.size + 1)]) F9 rfl (by decide) rfl (by decide) rfl rfl (fun i o => ∃ t u n, o = two (.int (ms.getD i 0 % 65536) t) (.int (i : Nat) u) n) ?_
  k_steps
  refine ⟨R, tR, uR, vR, ms.length, _, rfl, F9, N9, (N9 (R, _) (by k_mem)).1, by omega, ?_, ?_⟩
  · intro i t5 C m₂ h5 tk5 E' hi hC hx F5 N5
    clear F9 N9
    have hcM : Heap.IsCell h5 (s1.heap.objs.size + 1) (some (.ref M)) := ⟨_, (N5 (s1.heap.objs.size + 1, _) (by k_mem)).1, dM⟩
    k_steps
    have hn5 : h5.get? h5.objs.size = none := by
      cases e : h5.get? h5.objs.size with
      | none => rfl
      | some o => exact absurd (Heap.lt_size e) (Nat.lt_irrefl _)
    refine wpAny_newList ⟨h5.objs.size, _, _, _, rfl, rfl, F5.push _, fun b o _ e => Heap.get?_push_of_some _ e, Heap.get?_push_size _ rfl, hn5, fun z => ?_, none_of F5.keep hn5, tk5 + 1, t5, 0, ?_⟩
    · obtain ⟨o, _, _, e, _⟩ := F5.ns
      rw [z, e] at hn5; cases hn5
    · rw [Int.toNat_natCast, Int.fmod_eq_emod_of_nonneg _ (by decide)]
  intro els D2 h10 tk10 hel hV F10 N10
  clear F9 N9
  k_steps
  have hpw := srtL_pw (κ := kap2 ms) (N := ms.length) (by omega)
  refine sortL (s := ⟨h10, _, _, _, _⟩) (ms := ms) (els := els) (by show callerA.units + 3 + 10 < cLine; decide) F10 N10 (fun p hp => .tail _ (List.mem_append_left _ hp)) ⟨_, (N10 _ (.head _)).1, rfl, _, rfl⟩ hel hV (by omega) (by omega) ?_
  intro D3 c3 h11 F11 N11 ltD3
  refine ⟨D3, _, _, rfl, F11, N11, ⟨_, (N11 _ (.head _)).1, rfl, _, rfl⟩, by rw [List.size_toArray, List.length_map, List.length_map], by rw [List.length_map, hpw.2.length_eq, List.length_range]; omega, ?_, ?_⟩
  · intro i v hv
    have hv2 : ((srtL (kap2 ms) ms.length).map fun i => (els.map fun p => Value.ref p.1).getD i Value.none)[i]? = some v := by simpa using hv
    rw [List.getElem?_map] at hv2
    cases hk : (srtL (kap2 ms) ms.length)[i]? with
    | none => rw [hk] at hv2; cases hv2
    | some k =>
      rw [hk] at hv2
      have hkm : k < els.length := by
        have := hpw.2.mem_iff.mp (List.mem_of_getElem? hk)
        rw [hel]; simpa using this
      obtain ⟨t, u, n, e⟩ := hV k els[k] (List.getElem?_eq_getElem hkm)
      have e2 : v = .ref els[k].1 := by
        have := Option.some.inj hv2
        rw [← this]; simp [List.getD, hkm]
      refine ⟨els[k].1, .int (ms.getD k 0 % 65536) t, u, n, e2, ?_⟩
      have g : h11.get? els[k].1 = some els[k].2 := (N11 els[k] (.tail _ (.tail _ (List.mem_append_left _ (List.getElem_mem hkm))))).1
      refine g.trans ?_
      rw [e]
      simp [List.getD, hk]
  intro ys D4 h12 tk12 hys F12 N12 hnD4
  have mp : ∀ {p : Addr × Obj} {l : List (Addr × Obj)}, p ∈ l → ∀ a b c, p ∈ a :: b :: c :: (els ++ l) := fun hp a b c => .tail _ (.tail _ (.tail _ (List.mem_append_right _ hp)))
  have NT : News (ghostOf s1.heap [(27, 23), (150, 148)]) s1.heap.objs.size h12 [(D4, LCg.lst ys), (D1, W.listOf out1.toArray cD1), (RW, LCg.lst rs), (M, W.listOf us.toArray 0), (s1.heap.objs.size + 1, oM), (148, _), (23, tabObj ps23)] :=
    List.forall_mem_cons.mpr ⟨N12 (D4, _) (.head _), List.forall_mem_cons.mpr ⟨N12 (D1, _) (mp (by k_mem) _ _ _), List.forall_mem_cons.mpr ⟨N12 (RW, _) (mp (by k_mem) _ _ _), List.forall_mem_cons.mpr ⟨N12 (M, _) (mp (by k_mem) _ _ _), List.forall_mem_cons.mpr ⟨N12 (s1.heap.objs.size + 1, _) (mp (by k_mem) _ _ _), List.forall_mem_cons.mpr ⟨N12 (148, _) (mp (by k_mem) _ _ _), List.forall_mem_cons.mpr ⟨N12 (23, _) (mp (by k_mem) _ _ _), List.forall_mem_nil _⟩⟩⟩⟩⟩⟩⟩
  clear N12 N11 F11 N10 F10 hV
  k_steps
  refine ke_ne_ints (xs := out1) (ys := ys) ⟨_, (NT (D1, _) (by k_mem)).1, rfl, _, rfl⟩ ⟨_, (NT (D4, _) (by k_mem)).1, rfl, _, rfl⟩ hout1 hys (by show callerA.units + 3 + 64 < cLine; decide) ?_
  rw [srt_same ms (by omega) (by omega), decide_eq_true rfl]
  have NU : News _ _ _ _ := (List.forall_mem_cons.mp (List.forall_mem_cons.mp NT).2).2
  clear NT
  k_steps
  with_reducible rename Fr _ _ _ _ => F9
  with_reducible rename News _ _ _ _ => N9
  rename_i f7 c7 oc7 vs7 t7 ct7 h17 tk17 dc7a dc7b lc7a lc7b
  have hlam7 : ∃ qual params body scope pm, LamTwo .BitOr params body scope ∧ h17.get? f7 = some (kla_obj "<lambda>" qual params body scope [] pm c7 ct7) ∧ vs7[1]? = some (.str qual t7) :=
    ⟨_, _, _, _, _, ⟨_, _, _, _, _, rfl, rfl, rfl⟩, (N9 _ (.head _)).1, dc7b⟩
  obtain ⟨qual7, params7, body7, scope7, pm7, hls7, hq7, dq7⟩ := hlam7
  refine rightO (s := ⟨h17, _, _, _, _⟩) (C0.keeps F9.keep) ((r0 _).le (by decide) (by decide)) ⟨_, (N9 (M, _) (by k_mem)).1, rfl, _, rfl⟩ hMs hms0 hmsl.1 hmsl.2 ⟨_, (N9 (RW, _) (by k_mem)).1, rfl, _, rfl⟩ hrows hls7 hq7 ⟨c7, oc7, vs7, t7, rfl, (N9 (c7, _) (by k_mem)).1, dc7a, dq7⟩ ?_
  intro h27 tk27 st7
  have F8 := F9.kept st7
  have N8 := N9.grown st7
  clear F9 N9 st7
  k_steps
  with_reducible rename Fr _ _ _ _ => F9
  with_reducible rename News _ _ _ _ => N9
  rename_i f8 c8 oc8 vs8 t8 ct8 h18 tk18 dc8a dc8b lc8a lc8b
  have hlam8 : ∃ qual params body scope pm, LamTwo .BitAnd params body scope ∧ h18.get? f8 = some (kla_obj "<lambda>" qual params body scope [] pm c8 ct8) ∧ vs8[1]? = some (.str qual t8) :=
    ⟨_, _, _, _, _, ⟨_, _, _, _, _, rfl, rfl, rfl⟩, (N9 _ (.head _)).1, dc8b⟩
  obtain ⟨qual8, params8, body8, scope8, pm8, hls8, hq8, dq8⟩ := hlam8
  refine rightA (s := ⟨h18, _, _, _, _⟩) (C0.keeps F9.keep) ((r0 _).le (by decide) (by decide)) ⟨_, (N9 (M, _) (by k_mem)).1, rfl, _, rfl⟩ hMs hms0 hmsl.1 hmsl.2 ⟨_, (N9 (RW, _) (by k_mem)).1, rfl, _, rfl⟩ hrows hls8 hq8 ⟨c8, oc8, vs8, t8, rfl, (N9 (c8, _) (by k_mem)).1, dc8a, dq8⟩ ?_
  intro h28 tk28 st8
  have F8 := F9.kept st8
  have N8 := N9.grown st8
  clear F9 N9 st8
  k_steps
  k_end
  wrow_close)
end Mine
end
set_option maxRecDepth 100000 in
set_option maxHeartbeats 8000000 in
theorem PySem.Challenge.cw_ny0142_01_holds : PySem.Challenge.rw_ny0142_01.Holds := by
  exact Mine.lawW
