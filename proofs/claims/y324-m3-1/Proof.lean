import JvmDerived
import JvmDerived.Pilot.@@N@@Statement
import JvmDerived.Pilot.@@N@@Code
set_option linter.unusedVariables false
set_option linter.unusedSimpArgs false
namespace Jvm.RoadKit
open Sem ClassFile Op Lib Jvm.Stand Jvm.Free Jvm.LawKit
section New
variable {p : Program} {l : Launch} {e : Env} {R : Room} {s : State} {m : MethodId} {args : Array Value} {below : List Frame} {meth : Method} {c : Code} {T : State} {locs : List Loc} {cells slots : Nat}
theorem retI (X : Stand p l e R s m args below meth c T locs cells slots) (hx : p.tables.exec = Jvm.exec) {pc : Nat} {Ls : Array Slot} {z : Int32} {rest : List Value} (hret : meth.sig.returnType = some .int) (hd : decode c.code pc = .ok (.ireturn, 1)) {fs : List Frame}
    (hl : ∀ (f : JFrame) (acts : List Action), f.method = m → f.locked = none → f.entered = [] → (doReturn e (T.setTop f) acts (some (.int z))).1 = T.setFrames fs) : Steps p.tables e below (T.setTop (mkF m pc Ls (.int z :: rest))) (T.setFrames fs) := by
  have hm' : T.vm.method? m = some meth := X.method'
  have hn : narrow .int (.int z) = .int z := rfl
  show Steps p.tables e below (T.setTop { method := m, pc := pc, locals := Ls, stack := _ :: rest, locked := none }) _
  jvm_step X.here [X.here.top, hx, hd, hm', hret, hn]
  first | (intro acts; rw [hl _ acts rfl rfl rfl]) | rw [hl _ _ rfl rfl rfl]
  exact Steps.refl _
end New
end Jvm.RoadKit
namespace Jvm.Pilot.@@N@@
open Jvm Jvm.ClassFile Sem Op Lib Jvm.Free Jvm.Stand Jvm.LawKit Jvm.RoadKit Bundle Jvm.Pilot.@@N@@.Jvm.D
def own_irem (x y : Int32) : Int32 := x - (x / y) * y
theorem own_irem_mod (x y : Int32) : own_irem x y = x % y := by
  unfold own_irem
  apply Int32.toInt_inj.mp
  have h1 := Int32.le_toInt (x % y)
  have h2 := Int32.toInt_lt (x % y)
  rw [Int32.toInt_sub, Int32.toInt_mul, Int32.toInt_div, Int.bmod_mul_bmod, Int.sub_bmod_bmod, Int.mul_comm (x.toInt.tdiv y.toInt), ← Int.tmod_def, ← Int32.toInt_mod]
  exact Int.bmod_eq_of_le_mul_two (by omega) (by omega)
theorem own_fld_eq {args : Array Value} {s : State} {t : Term} {C n d : String} {w : Addr} {k : Int32} (ht : t.eval args s none [] s = some (.ref w)) (h : (Jvm.Cond.eq (Term.field t C n d) (Term.int k)).value args s none s [] = some true) : Fld s s.heap w C n d (.int k) := by
  obtain ⟨x, y, ha, hb, -, -⟩ := cmp_v (Or.inl h)
  have hy : y = .int k := (Option.some.inj ((Term.int_eval k).symm.trans hb)).symm
  subst hy
  have hx : x = .int k := by
    cases x <;> simp [Cond.value, ha, hb] at h ⊢
    exact h
  subst hx
  exact Fld.start (by rw [← fld_at ht]; exact ha)
theorem own_fld_ref {args : Array Value} {s : State} {t u : Term} {C n d : String} {w : Addr} {k : Addr} (ht : t.eval args s none [] s = some (.ref w)) (hu : u.eval args s none [] s = some (.ref k)) (h : (Jvm.Cond.eq (Term.field t C n d) u).value args s none s [] = some true) : Fld s s.heap w C n d (.ref k) := by
  obtain ⟨x, y, ha, hb, -, -⟩ := cmp_v (Or.inl h)
  cases hu.symm.trans hb
  have hx : x = .ref k := by
    cases x <;> simp [Cond.value, ha, hb] at h ⊢
    exact h
  subst hx
  exact Fld.start (by rw [← fld_at ht]; exact ha)
theorem own_sel_priv {s : State} {args : Array Value} {y z : MethodName} (hsel : (Jvm.Cond.selects z.cls z z).before args s = true) (hz : z.cls = y.cls) (hpriv : (Jvm.Cond.privateMethod y).before args s = true) (hinst : (Jvm.Cond.instanceMethod y).before args s = true) (hy : y.cls ≠ "java/lang/invoke/MethodHandle" ∧ y.cls ≠ "java/lang/invoke/VarHandle") : (Jvm.Cond.selects y.cls y y).before args s = true := by
  obtain ⟨c, r, m, h1, h2, h3, h4, mk, h5, h6⟩ := Cond.selects_spec hsel
  have hc := findClass_of_methodNamed h3
  rw [hz] at hc
  exact selects_self_of_private hc h5 h6 (Cond.privateMethod_at hpriv) hinst hy
theorem own_nm_int : "[" ++ (newarray.typeOf .int).toString = "[I" := by decide
theorem own_nm_long : "[" ++ (newarray.typeOf .long).toString = "[J" := by decide
theorem own_nm_char : "[" ++ (newarray.typeOf .char).toString = "[C" := by decide
theorem own_nm_boolean : "[" ++ (newarray.typeOf .boolean).toString = "[Z" := by decide
theorem own_ns_exa {Z : State} {h : Heap} {a : Addr} {C : String} (E : Exa Z h a C) : ∀ c : Cell, h[a]? = some c → c.vm.isStatics = false := fun c hc => by
  obtain ⟨cell, k, h1, -, -, h4, -⟩ := E
  cases h1.symm.trans hc
  exact h4
theorem own_ns_arr {Z : State} {h : Heap} {a : Addr} {cl : Cell} {ty : FieldType} (A : Arr Z h a cl ty) : ∀ c : Cell, h[a]? = some c → c.vm.isStatics = false := fun c hc => by
  cases A.1.symm.trans hc
  exact A.plain
theorem own_arr_keep {Z : State} {h h' : Heap} {a : Addr} {cl : Cell} {ty : FieldType} {ws : List Addr} (A : Arr Z h a cl ty) (K : Keep h h' ws) (q : a ∉ ws) : Arr Z h' a cl ty := ⟨K.2.1 a cl A.1 q, A.2⟩
theorem own_ns_arv {Z : State} {h : Heap} {a : Addr} {k : ClassId} {ty : FieldType} {z : Int32} {vs : List Value} {dv : Value} (F : Arv Z h a k ty z vs dv) : ∀ c : Cell, h[a]? = some c → c.vm.isStatics = false := by
  obtain ⟨c, A, -⟩ := F
  exact own_ns_arr A
theorem own_sta_keep {Z : State} {h h' : Heap} {C n d : String} {v : Value} {ws : List Addr} (F : Sta Z h C n d v) (K : Keep h h' ws) (q : ∀ x ∈ ws, ∀ c : Cell, h[x]? = some c → c.vm.isStatics = false) : Sta Z h' C n d v := by
  obtain ⟨cf, i, k, f, st, cell, h1, h2, h3, h4, h5, h6, h7⟩ := F
  exact ⟨cf, i, k, f, st, cell, h1, h2, h3, h4, K.2.1 st cell h5 (fun hm => by rw [q st hm cell h5] at h6; cases h6), h6, h7⟩
theorem own_len {args : Array Value} {s : State} {t : Term} {a : Addr} {cl : Cell} {n : Int32} (ht : t.eval args s none [] s = some (.ref a)) (hc : s.heap[a]? = some cl) (h : (Jvm.Cond.eq (Term.length t) (Term.int n)).value args s none s [] = some true) : cl.slots.size < 2 ^ 31 ∧ cl.slots.size.toInt32 = n := by
  obtain ⟨x, y, ha, hb, -, -⟩ := cmp_v (Or.inl h)
  have hy : y = .int n := (Option.some.inj ((Term.int_eval n).symm.trans hb)).symm
  subst hy
  have hx : x = .int n := by
    cases x <;> simp [Cond.value, ha, hb] at h ⊢
    exact h
  subst hx
  simp only [Term.eval, ht, Option.bind_eq_bind, Option.bind_some] at ha
  cases hq : s.arrayAt? a with
  | none => simp [hq] at ha
  | some c2 =>
    cases (State.arrayAt?_spec hq).1.symm.trans hc
    simp only [hq, Option.bind_some] at ha
    split at ha
    · rename_i hlt
      exact ⟨hlt, Value.int.inj (Option.some.inj ha)⟩
    · cases ha
theorem own_elem {args : Array Value} {s : State} {t u : Term} {a k : Addr} {cl : Cell} {j : Int32} (ht : t.eval args s none [] s = some (.ref a)) (hu : u.eval args s none [] s = some (.ref k)) (hc : s.heap[a]? = some cl) (h : (Jvm.Cond.eq (Term.elem t (Term.int j)) u).value args s none s [] = some true) : cl.slots[j.toNatClampNeg]? = some (.ref k) := by
  obtain ⟨x, y, ha, hb, -, -⟩ := cmp_v (Or.inl h)
  cases hu.symm.trans hb
  have hx : x = .ref k := by
    cases x <;> simp [Cond.value, ha, hb] at h ⊢
    exact h
  subst hx
  exact (elem_in ha ht (Term.int_eval j) hc).2
def own_mx (x y r : Int32) : Prop := ¬ r < x ∧ ¬ r < y ∧ (r = x ∨ r = y)
theorem own_mx_l {x y : Int32} (h : ¬ x < y) : own_mx x y x := ⟨Int32.lt_irrefl, h, Or.inl rfl⟩
theorem own_mx_r {x y : Int32} (h : x < y) : own_mx x y y := ⟨fun q => absurd (Int32.lt_trans h q) Int32.lt_irrefl, Int32.lt_irrefl, Or.inr rfl⟩
theorem own_i0 : (0 : Int32).toInt = 0 := rfl
theorem own_i1 : (1 : Int32).toInt = 1 := rfl
theorem own_im1 : (-1 : Int32).toInt = -1 := rfl
theorem own_l0 : (0 : Int64).toInt = 0 := rfl
theorem own_l1 : (1 : Int64).toInt = 1 := rfl
theorem own_mx_pos {y r : Int32} (h : own_mx (1 : Int32) y r) : (0 : Int32) < r := by
  have h1 := h.1
  rw [Int32.lt_iff_toInt_lt] at *
  rw [own_i0]; rw [own_i1] at h1
  omega
def own_ml (x y r : Int64) : Prop := r.toInt = min x.toInt y.toInt
theorem own_ml_r {x y : Int64} (h : (0 : Int32) < (lcmpW x y)) : own_ml x y y := by
  have := (lw_gt x y).mp h
  rw [Int64.lt_iff_toInt_lt] at this
  unfold own_ml; omega
theorem own_ml_l {x y : Int64} (h : ¬ (0 : Int32) < (lcmpW x y)) : own_ml x y x := by
  have : ¬ y < x := fun q => h ((lw_gt x y).mpr q)
  rw [Int64.lt_iff_toInt_lt] at this
  unfold own_ml; omega
theorem own_sub {x y l : Int32} (hd : l = x - y) (h0 : 0 ≤ y.toInt) (h1 : y.toInt ≤ x.toInt) : l.toInt = x.toInt - y.toInt := by
  subst hd
  have := c_isub x y; have := rng32 x; have := rng32 y; have := rng32 (x - y)
  omega
theorem own_pos {x y l : Int32} (hy : (0 : Int32) < y) (h : y < x) (hd : l = x - y) : (0 : Int32) < l := by
  rw [Int32.lt_iff_toInt_lt] at *
  rw [own_i0] at *
  have := own_sub hd (by omega) (by omega)
  omega
theorem own_self {x l : Int32} (hd : l = x - x) : ¬ (0 : Int32) < l := by
  rw [Int32.lt_iff_toInt_lt, own_i0]
  subst hd
  have := c_isub x x; have := rng32 (x - x)
  omega
def own_TP (q a b c s0 s1 s2 : Int32) : Prop :=
  0 ≤ s0.toInt ∧ s0.toInt ≤ a.toInt ∧ 0 ≤ s1.toInt ∧ s1.toInt ≤ b.toInt ∧ 0 ≤ s2.toInt ∧ s2.toInt ≤ c.toInt ∧ (s1.toInt = 0 ∨ s0.toInt = a.toInt) ∧ (s2.toInt = 0 ∨ s1.toInt = b.toInt) ∧ s0.toInt + s1.toInt + s2.toInt = min q.toInt (a.toInt + b.toInt + c.toInt)
section own_tp
variable {q a b c l1 l2 : Int32} (hq : (0 : Int32) < q) (ha : (0 : Int32) < a) (hb : (0 : Int32) < b) (hc : (0 : Int32) < c)
theorem own_tp1 {q a b c : Int32} (hq : (0 : Int32) < q) (ha : (0 : Int32) < a) (hb : (0 : Int32) < b) (hc : (0 : Int32) < c) (m1 : ¬ a < q) : own_TP q a b c q (0 : Int32) (0 : Int32) := by
  rw [Int32.lt_iff_toInt_lt] at *
  unfold own_TP
  rw [own_i0] at *
  omega
theorem own_tp2 {q a b c l1 : Int32} (hq : (0 : Int32) < q) (ha : (0 : Int32) < a) (hb : (0 : Int32) < b) (hc : (0 : Int32) < c) (m1 : a < q) (m2 : ¬ b < l1) (d1 : l1 = q - a) : own_TP q a b c a l1 (0 : Int32) := by
  rw [Int32.lt_iff_toInt_lt] at *
  unfold own_TP
  rw [own_i0] at *
  have := own_sub d1 (by omega) (by omega)
  omega
theorem own_tp3 {q a b c l1 l2 : Int32} (hq : (0 : Int32) < q) (ha : (0 : Int32) < a) (hb : (0 : Int32) < b) (hc : (0 : Int32) < c) (m1 : a < q) (m2 : b < l1) (m3 : ¬ c < l2) (d1 : l1 = q - a) (d2 : l2 = l1 - b) : own_TP q a b c a b l2 := by
  rw [Int32.lt_iff_toInt_lt] at *
  unfold own_TP
  rw [own_i0] at *
  have := own_sub d1 (by omega) (by omega)
  have := own_sub d2 (by omega) (by omega)
  omega
theorem own_tp4 {q a b c l1 l2 : Int32} (hq : (0 : Int32) < q) (ha : (0 : Int32) < a) (hb : (0 : Int32) < b) (hc : (0 : Int32) < c) (m1 : a < q) (m2 : b < l1) (m3 : c < l2) (d1 : l1 = q - a) (d2 : l2 = l1 - b) : own_TP q a b c a b c := by
  rw [Int32.lt_iff_toInt_lt] at *
  unfold own_TP
  rw [own_i0] at *
  have := own_sub d1 (by omega) (by omega)
  have := own_sub d2 (by omega) (by omega)
  omega
end own_tp
/-- pro rata, in plain numbers -/
def own_PR (q a b c s0 s1 s2 : Int32) : Prop :=
  0 ≤ s0.toInt ∧ s0.toInt ≤ a.toInt ∧ 0 ≤ s1.toInt ∧ s1.toInt ≤ b.toInt ∧ 0 ≤ s2.toInt ∧ s2.toInt ≤ c.toInt ∧
  (a.toInt + b.toInt + c.toInt ≤ q.toInt → s0 = a ∧ s1 = b ∧ s2 = c) ∧
  (q.toInt < a.toInt + b.toInt + c.toInt → ∃ e0 e1 e2 : Int, s0.toInt = q.toInt * a.toInt / (a.toInt + b.toInt + c.toInt) + e0 ∧ s1.toInt = q.toInt * b.toInt / (a.toInt + b.toInt + c.toInt) + e1 ∧ s2.toInt = q.toInt * c.toInt / (a.toInt + b.toInt + c.toInt) + e2 ∧ 0 ≤ e2 ∧ e2 ≤ e1 ∧ e1 ≤ e0 ∧ e0 ≤ 1 ∧ s0.toInt + s1.toInt + s2.toInt = q.toInt)
theorem own_tot_eq {a b c : Int32} {t1 t2 t3 : Int64} (h1 : t1 = ((0 : Int64) + (a.toInt64))) (h2 : t2 = (t1 + (b.toInt64))) (h3 : t3 = (t2 + (c.toInt64))) : t3.toInt = a.toInt + b.toInt + c.toInt := by
  have q1 := c_ladd 0 a.toInt64; have q2 := c_ladd t1 b.toInt64; have q3 := c_ladd t2 c.toInt64
  rw [← h1, c_i2l, own_l0] at q1; rw [← h2, c_i2l] at q2; rw [← h3, c_i2l] at q3
  have := rng32 a; have := rng32 b; have := rng32 c; have := rng64 t1; have := rng64 t2; have := rng64 t3
  omega
theorem own_tot_ne {a b c : Int32} {t : Int64} (ha : (0 : Int32) < a) (hb : (0 : Int32) < b) (hc : (0 : Int32) < c) (T : t.toInt = a.toInt + b.toInt + c.toInt) : t ≠ 0 := fun h => by
  rw [Int32.lt_iff_toInt_lt] at *
  rw [h, own_l0] at T
  rw [own_i0] at *
  omega
theorem own_cmp {q a b c : Int32} {t : Int64} (T : t.toInt = a.toInt + b.toInt + c.toInt) : (lcmpW (q.toInt64) t) < (0 : Int32) ↔ q.toInt < a.toInt + b.toInt + c.toInt := by
  rw [show ((lcmpW (q.toInt64) t) < (0 : Int32)) = ((lcmpW (q.toInt64) t) < 0) from rfl, lw_lt, Int64.lt_iff_toInt_lt, c_i2l, T]
theorem own_pr_all {q a b c : Int32} {t : Int64} (hq : (0 : Int32) < q) (ha : (0 : Int32) < a) (hb : (0 : Int32) < b) (hc : (0 : Int32) < c) (T : t.toInt = a.toInt + b.toInt + c.toInt) (h : ¬ (lcmpW (q.toInt64) t) < (0 : Int32)) : own_PR q a b c a b c := by
  rw [own_cmp T] at h
  rw [Int32.lt_iff_toInt_lt] at *
  rw [own_i0] at *
  refine ⟨by omega, by omega, by omega, by omega, by omega, by omega, fun _ => ⟨rfl, rfl, rfl⟩, fun q => absurd q h⟩
theorem own_div {q a t : Int} (hq : 0 < q) (ha : 0 < a) (hlt : q < t) : 0 ≤ q * a / t ∧ q * a / t < a ∧ q * a / t * t ≤ q * a ∧ q * a < q * a / t * t + t := by
  have ht : 0 < t := by omega
  have hqa : 0 ≤ q * a := Int.mul_nonneg (by omega) (by omega)
  refine ⟨Int.ediv_nonneg hqa (by omega), ?_, Int.ediv_mul_le _ (by omega), ?_⟩
  · refine Int.ediv_lt_of_lt_mul ht ?_
    rw [Int.mul_comm a t]
    exact Int.mul_lt_mul_of_pos_right hlt ha
  · have := Int.lt_ediv_add_one_mul_self (q * a) ht
    rw [Int.add_mul, Int.one_mul] at this
    exact this
theorem own_sum3 {q a b c t g0 g1 g2 : Int} (ht : t = a + b + c) (t0 : 0 < t) (x0 : g0 * t ≤ q * a) (y0 : q * a < g0 * t + t) (x1 : g1 * t ≤ q * b) (y1 : q * b < g1 * t + t) (x2 : g2 * t ≤ q * c) (y2 : q * c < g2 * t + t) : g0 + g1 + g2 ≤ q ∧ q < g0 + g1 + g2 + 3 := by
  have e : q * t = q * a + q * b + q * c := by rw [ht, Int.mul_add, Int.mul_add]
  have e1 : (g0 + g1 + g2) * t = g0 * t + g1 * t + g2 * t := by rw [Int.add_mul, Int.add_mul]
  have e2 : (g0 + g1 + g2 + 3) * t = g0 * t + g1 * t + g2 * t + 3 * t := by rw [Int.add_mul, e1]
  constructor
  · refine Int.le_of_mul_le_mul_right ?_ t0
    rw [e1, e]; omega
  · refine Int.lt_of_mul_lt_mul_right ?_ (Int.le_of_lt t0)
    rw [e2, e]; omega
/-- the long quotient is the plain one -/
theorem own_quo {q a b c x : Int32} {t : Int64} (hq : 0 < q.toInt) (hx : 0 < x.toInt) (T : t.toInt = a.toInt + b.toInt + c.toInt) (t0 : 0 < t.toInt) : (((q.toInt64) * (x.toInt64)) / t).toInt = q.toInt * x.toInt / (a.toInt + b.toInt + c.toInt) := by
  have m := c_lmul q.toInt64 x.toInt64
  rw [c_i2l, c_i2l] at m
  have bq := rng32 q; have bx := rng32 x; have bm := rng64 (q.toInt64 * x.toInt64)
  have k1 : 0 ≤ q.toInt * x.toInt := Int.mul_nonneg (by omega) (by omega)
  have k2 : q.toInt * x.toInt ≤ 2147483647 * 2147483647 := Int.mul_le_mul (by omega) (by omega) (by omega) (by omega)
  have em : (q.toInt64 * x.toInt64).toInt = q.toInt * x.toInt := by omega
  have hne : t ≠ -1 := fun h => by rw [h] at t0; revert t0; decide
  have d := (c_ldiv (q.toInt64 * x.toInt64) t _ T hne).1 (by omega)
  rw [d, em]
theorem own_g {q a b c x g : Int32} {t : Int64} (hq : 0 < q.toInt) (hx : 0 < x.toInt) (T : t.toInt = a.toInt + b.toInt + c.toInt) (hlt : q.toInt < a.toInt + b.toInt + c.toInt) (hg : g = ((((q.toInt64) * (x.toInt64)) / t).toInt32)) : g.toInt = q.toInt * x.toInt / (a.toInt + b.toInt + c.toInt) := by
  have e := own_quo (q := q) (x := x) hq hx T (by omega)
  have d := own_div hq hx hlt
  have l := c_l2i (((q.toInt64) * (x.toInt64)) / t)
  rw [← hg, e] at l
  have := rng32 g; have := rng32 x
  omega
theorem own_core {q a b c g0 g1 g2 l1 l2 l3 : Int32} {t : Int64} (hq : (0 : Int32) < q) (ha : (0 : Int32) < a) (hb : (0 : Int32) < b) (hc : (0 : Int32) < c) (T : t.toInt = a.toInt + b.toInt + c.toInt) (h : (lcmpW (q.toInt64) t) < (0 : Int32))
    (d0 : g0 = ((((q.toInt64) * (a.toInt64)) / t).toInt32)) (d1 : g1 = ((((q.toInt64) * (b.toInt64)) / t).toInt32)) (d2 : g2 = ((((q.toInt64) * (c.toInt64)) / t).toInt32)) (k1 : l1 = (q - g0)) (k2 : l2 = (l1 - g1)) (k3 : l3 = (l2 - g2)) :
    q.toInt < a.toInt + b.toInt + c.toInt ∧ g0.toInt = q.toInt * a.toInt / (a.toInt + b.toInt + c.toInt) ∧ g1.toInt = q.toInt * b.toInt / (a.toInt + b.toInt + c.toInt) ∧ g2.toInt = q.toInt * c.toInt / (a.toInt + b.toInt + c.toInt) ∧ 0 ≤ g0.toInt ∧ g0.toInt < a.toInt ∧ 0 ≤ g1.toInt ∧ g1.toInt < b.toInt ∧ 0 ≤ g2.toInt ∧ g2.toInt < c.toInt ∧ l3.toInt = q.toInt - (g0.toInt + g1.toInt + g2.toInt) ∧ 0 ≤ l3.toInt ∧ l3.toInt < 3 := by
  have hlt := (own_cmp T).mp h
  rw [Int32.lt_iff_toInt_lt] at hq ha hb hc
  rw [own_i0] at hq ha hb hc
  have e0 := own_g hq ha T hlt d0; have e1 := own_g hq hb T hlt d1; have e2 := own_g hq hc T hlt d2
  have v0 := own_div hq ha hlt; have v1 := own_div hq hb hlt; have v2 := own_div hq hc hlt
  rw [← e0] at v0; rw [← e1] at v1; rw [← e2] at v2
  have s := own_sum3 (t := a.toInt + b.toInt + c.toInt) rfl (by omega) v0.2.2.1 v0.2.2.2 v1.2.2.1 v1.2.2.2 v2.2.2.1 v2.2.2.2
  obtain ⟨v01, v02, -, -⟩ := v0; obtain ⟨v11, v12, -, -⟩ := v1; obtain ⟨v21, v22, -, -⟩ := v2
  have z1 := own_sub k1 v01 (by omega)
  have z2 := own_sub k2 v11 (by omega)
  have z3 := own_sub k3 v21 (by omega)
  refine ⟨hlt, e0, e1, e2, v01, v02, v11, v12, v21, v22, by omega, by omega, by omega⟩
theorem own_dec {x : Int32} (h : 0 ≤ x.toInt) : (x + (-1 : Int32)).toInt = x.toInt - 1 := by
  have := c_iadd x (-1); have := rng32 x; have := rng32 (x + (-1))
  rw [own_im1] at *
  omega
theorem own_inc {x y : Int32} (h0 : 0 ≤ x.toInt) (h : x.toInt < y.toInt) : (x + (1 : Int32)).toInt = x.toInt + 1 := by
  have := c_iadd x 1; have := rng32 x; have := rng32 y; have := rng32 (x + 1)
  rw [own_i1] at *
  omega
section
variable {q a b c g0 g1 g2 l1 l2 l3 : Int32} {t : Int64}
theorem own_left2 {q a b c g0 g1 g2 l1 l2 l3 : Int32} {t : Int64} (hq : (0 : Int32) < q) (ha : (0 : Int32) < a) (hb : (0 : Int32) < b) (hc : (0 : Int32) < c) (T : t.toInt = a.toInt + b.toInt + c.toInt) (h : (lcmpW (q.toInt64) t) < (0 : Int32))
    (d0 : g0 = ((((q.toInt64) * (a.toInt64)) / t).toInt32)) (d1 : g1 = ((((q.toInt64) * (b.toInt64)) / t).toInt32)) (d2 : g2 = ((((q.toInt64) * (c.toInt64)) / t).toInt32)) (k1 : l1 = (q - g0)) (k2 : l2 = (l1 - g1)) (k3 : l3 = (l2 - g2)) (n1 : (0 : Int32) < l3) (n2 : (0 : Int32) < (l3 + (-1 : Int32))) : ¬ (0 : Int32) < ((l3 + (-1 : Int32)) + (-1 : Int32)) := by
  obtain ⟨-, -, -, -, -, -, -, -, -, -, -, x1, x2⟩ := own_core hq ha hb hc T h d0 d1 d2 k1 k2 k3
  rw [Int32.lt_iff_toInt_lt] at *
  rw [own_i0] at *
  have y1 := own_dec x1
  have y2 := own_dec (x := l3 + (-1)) (by omega)
  omega
theorem own_pr0 {q a b c g0 g1 g2 l1 l2 l3 : Int32} {t : Int64} (hq : (0 : Int32) < q) (ha : (0 : Int32) < a) (hb : (0 : Int32) < b) (hc : (0 : Int32) < c) (T : t.toInt = a.toInt + b.toInt + c.toInt) (h : (lcmpW (q.toInt64) t) < (0 : Int32))
    (d0 : g0 = ((((q.toInt64) * (a.toInt64)) / t).toInt32)) (d1 : g1 = ((((q.toInt64) * (b.toInt64)) / t).toInt32)) (d2 : g2 = ((((q.toInt64) * (c.toInt64)) / t).toInt32)) (k1 : l1 = (q - g0)) (k2 : l2 = (l1 - g1)) (k3 : l3 = (l2 - g2)) (n1 : ¬ (0 : Int32) < l3) : own_PR q a b c g0 g1 g2 := by
  obtain ⟨hlt, e0, e1, e2, p0, p1, p2, p3, p4, p5, x0, x1, x2⟩ := own_core hq ha hb hc T h d0 d1 d2 k1 k2 k3
  rw [Int32.lt_iff_toInt_lt, own_i0] at n1
  exact ⟨p0, by omega, p2, by omega, p4, by omega, fun w => absurd hlt (by omega), fun _ => ⟨0, 0, 0, by omega, by omega, by omega, by omega, by omega, by omega, by omega, by omega⟩⟩
theorem own_pr1 {q a b c g0 g1 g2 l1 l2 l3 : Int32} {t : Int64} (hq : (0 : Int32) < q) (ha : (0 : Int32) < a) (hb : (0 : Int32) < b) (hc : (0 : Int32) < c) (T : t.toInt = a.toInt + b.toInt + c.toInt) (h : (lcmpW (q.toInt64) t) < (0 : Int32))
    (d0 : g0 = ((((q.toInt64) * (a.toInt64)) / t).toInt32)) (d1 : g1 = ((((q.toInt64) * (b.toInt64)) / t).toInt32)) (d2 : g2 = ((((q.toInt64) * (c.toInt64)) / t).toInt32)) (k1 : l1 = (q - g0)) (k2 : l2 = (l1 - g1)) (k3 : l3 = (l2 - g2)) (n1 : (0 : Int32) < l3) (n2 : ¬ (0 : Int32) < (l3 + (-1 : Int32))) : own_PR q a b c (g0 + (1 : Int32)) g1 g2 := by
  obtain ⟨hlt, e0, e1, e2, p0, p1, p2, p3, p4, p5, x0, x1, x2⟩ := own_core hq ha hb hc T h d0 d1 d2 k1 k2 k3
  rw [Int32.lt_iff_toInt_lt, own_i0] at n1 n2
  rw [own_dec x1] at n2
  have i0 := own_inc p0 p1
  unfold own_PR
  rw [i0]
  exact ⟨by omega, by omega, p2, by omega, p4, by omega, fun w => absurd hlt (by omega), fun _ => ⟨1, 0, 0, by omega, by omega, by omega, by omega, by omega, by omega, by omega, by omega⟩⟩
theorem own_pr2 {q a b c g0 g1 g2 l1 l2 l3 : Int32} {t : Int64} (hq : (0 : Int32) < q) (ha : (0 : Int32) < a) (hb : (0 : Int32) < b) (hc : (0 : Int32) < c) (T : t.toInt = a.toInt + b.toInt + c.toInt) (h : (lcmpW (q.toInt64) t) < (0 : Int32))
    (d0 : g0 = ((((q.toInt64) * (a.toInt64)) / t).toInt32)) (d1 : g1 = ((((q.toInt64) * (b.toInt64)) / t).toInt32)) (d2 : g2 = ((((q.toInt64) * (c.toInt64)) / t).toInt32)) (k1 : l1 = (q - g0)) (k2 : l2 = (l1 - g1)) (k3 : l3 = (l2 - g2)) (n1 : (0 : Int32) < l3) (n2 : (0 : Int32) < (l3 + (-1 : Int32))) : own_PR q a b c (g0 + (1 : Int32)) (g1 + (1 : Int32)) g2 := by
  obtain ⟨hlt, e0, e1, e2, p0, p1, p2, p3, p4, p5, x0, x1, x2⟩ := own_core hq ha hb hc T h d0 d1 d2 k1 k2 k3
  rw [Int32.lt_iff_toInt_lt, own_i0] at n1 n2
  rw [own_dec x1] at n2
  have i0 := own_inc p0 p1; have i1 := own_inc p2 p3
  unfold own_PR
  rw [i0, i1]
  exact ⟨by omega, by omega, by omega, by omega, p4, by omega, fun w => absurd hlt (by omega), fun _ => ⟨1, 1, 0, by omega, by omega, by omega, by omega, by omega, by omega, by omega, by omega⟩⟩
end
theorem own_nlt {x y : Int32} (h : y.toInt ≤ x.toInt) : ¬ x < y := by rw [Int32.lt_iff_toInt_lt]; omega
theorem own_law_tp {q a b c s0 s1 s2 : Int32} (h : own_TP q a b c s0 s1 s2) : ¬ s0 < (0 : Int32) ∧ ¬ a < s0 ∧ ¬ s1 < (0 : Int32) ∧ ¬ b < s1 ∧ ¬ s2 < (0 : Int32) ∧ ¬ c < s2 ∧ (¬ s1 = (0 : Int32) → s0 = a) ∧ (¬ s2 = (0 : Int32) → s1 = b) := by
  obtain ⟨h0, h1, h2, h3, h4, h5, h6, h7, h8⟩ := h
  refine ⟨own_nlt (by rw [own_i0]; exact h0), own_nlt h1, own_nlt (by rw [own_i0]; exact h2), own_nlt h3, own_nlt (by rw [own_i0]; exact h4), own_nlt h5, fun n => ?_, fun n => ?_⟩
  · rcases h6 with z | z
    · exact absurd (Int32.toInt_inj.mp (by rw [own_i0]; exact z)) n
    · exact Int32.toInt_inj.mp z
  · rcases h7 with z | z
    · exact absurd (Int32.toInt_inj.mp (by rw [own_i0]; exact z)) n
    · exact Int32.toInt_inj.mp z
theorem own_law_pr {q a b c s0 s1 s2 : Int32} (h : own_PR q a b c s0 s1 s2) : ¬ s0 < (0 : Int32) ∧ ¬ a < s0 ∧ ¬ s1 < (0 : Int32) ∧ ¬ b < s1 ∧ ¬ s2 < (0 : Int32) ∧ ¬ c < s2 := by
  obtain ⟨h0, h1, h2, h3, h4, h5, -, -⟩ := h
  exact ⟨own_nlt (by rw [own_i0]; exact h0), own_nlt h1, own_nlt (by rw [own_i0]; exact h2), own_nlt h3, own_nlt (by rw [own_i0]; exact h4), own_nlt h5⟩
theorem own_tri {a b c : Int32} {t : Int64} (h : t = (((a.toInt64) + (b.toInt64)) + (c.toInt64))) : t.toInt = a.toInt + b.toInt + c.toInt := by
  have q1 := c_ladd a.toInt64 b.toInt64; have q2 := c_ladd (a.toInt64 + b.toInt64) c.toInt64
  rw [c_i2l, c_i2l] at q1; rw [← h, c_i2l] at q2
  have := rng32 a; have := rng32 b; have := rng32 c; have := rng64 t; have := rng64 (a.toInt64 + b.toInt64)
  omega
theorem own_law_sum {q a b c s0 s1 s2 : Int32} {tot sum r : Int64} (h : own_TP q a b c s0 s1 s2) (ht : tot = (((a.toInt64) + (b.toInt64)) + (c.toInt64))) (hs : sum = (((s0.toInt64) + (s1.toInt64)) + (s2.toInt64))) (hm : own_ml (q.toInt64) tot r) : (lcmpW sum r) = (0 : Int32) := by
  refine (lw_eq sum r).mpr (Int64.toInt_inj.mp ?_)
  rw [own_tri hs]
  unfold own_ml at hm
  rw [hm, c_i2l, own_tri ht]
  exact h.2.2.2.2.2.2.2.2
theorem own_law_all {q a b c s0 s1 s2 : Int32} {tot : Int64} (h : own_PR q a b c s0 s1 s2) (ht : tot = (((a.toInt64) + (b.toInt64)) + (c.toInt64))) (n : ¬ (lcmpW (q.toInt64) tot) < (0 : Int32)) : s0 = a ∧ s1 = b ∧ s2 = c := by
  rw [own_cmp (own_tri ht)] at n
  exact h.2.2.2.2.2.2.1 (by omega)
theorem own_law_nz {a b c : Int32} {tot : Int64} (ha : (0 : Int32) < a) (hb : (0 : Int32) < b) (hc : (0 : Int32) < c) (ht : tot = (((a.toInt64) + (b.toInt64)) + (c.toInt64))) : tot ≠ 0 := own_tot_ne ha hb hc (own_tri ht)
theorem own_lsub {s : Int32} {f e : Int64} {k : Int} (he : e = ((s.toInt64) - f)) (h : s.toInt = f.toInt + k) (h0 : 0 ≤ k) (h1 : k ≤ 1) : e.toInt = k := by
  have q := c_lsub s.toInt64 f
  rw [← he, c_i2l] at q
  have := rng64 e
  omega
theorem own_law_e {q a b c s0 s1 s2 : Int32} {tot sum f0 f1 f2 e0 e1 e2 : Int64} (hq : (0 : Int32) < q) (ha : (0 : Int32) < a) (hb : (0 : Int32) < b) (hc : (0 : Int32) < c) (h : own_PR q a b c s0 s1 s2) (ht : tot = (((a.toInt64) + (b.toInt64)) + (c.toInt64))) (hs : sum = (((s0.toInt64) + (s1.toInt64)) + (s2.toInt64))) (n : (lcmpW (q.toInt64) tot) < (0 : Int32))
    (hf0 : f0 = (((q.toInt64) * (a.toInt64)) / tot)) (hf1 : f1 = (((q.toInt64) * (b.toInt64)) / tot)) (hf2 : f2 = (((q.toInt64) * (c.toInt64)) / tot)) (he0 : e0 = ((s0.toInt64) - f0)) (he1 : e1 = ((s1.toInt64) - f1)) (he2 : e2 = ((s2.toInt64) - f2)) :
    ¬ (lcmpW e0 (0 : Int64)) < (0 : Int32) ∧ ¬ (0 : Int32) < (lcmpW e0 (1 : Int64)) ∧ ¬ (lcmpW e1 (0 : Int64)) < (0 : Int32) ∧ ¬ (0 : Int32) < (lcmpW e1 (1 : Int64)) ∧ ¬ (lcmpW e2 (0 : Int64)) < (0 : Int32) ∧ ¬ (0 : Int32) < (lcmpW e2 (1 : Int64)) ∧ ¬ (lcmpW e0 e1) < (0 : Int32) ∧ ¬ (lcmpW e1 e2) < (0 : Int32) ∧ (lcmpW sum (q.toInt64)) = (0 : Int32) := by
  have T := own_tri ht
  have hlt := (own_cmp T).mp n
  rw [Int32.lt_iff_toInt_lt] at hq ha hb hc
  rw [own_i0] at hq ha hb hc
  obtain ⟨i0, i1, i2, g0, g1, g2, g3, g4, g5, g6, g7⟩ := h.2.2.2.2.2.2.2 hlt
  have z0 : f0.toInt = q.toInt * a.toInt / (a.toInt + b.toInt + c.toInt) := by rw [hf0]; exact own_quo hq ha T (by omega)
  have z1 : f1.toInt = q.toInt * b.toInt / (a.toInt + b.toInt + c.toInt) := by rw [hf1]; exact own_quo hq hb T (by omega)
  have z2 : f2.toInt = q.toInt * c.toInt / (a.toInt + b.toInt + c.toInt) := by rw [hf2]; exact own_quo hq hc T (by omega)
  have y0 := own_lsub he0 (k := i0) (by rw [z0]; exact g0) (by omega) (by omega)
  have y1 := own_lsub he1 (k := i1) (by rw [z1]; exact g1) (by omega) (by omega)
  have y2 := own_lsub he2 (k := i2) (by rw [z2]; exact g2) (by omega) (by omega)
  have L : ∀ {x y : Int64}, y.toInt ≤ x.toInt → ¬ (lcmpW x y) < (0 : Int32) := fun {x y} w v => by
    have := (lw_lt x y).mp v; rw [Int64.lt_iff_toInt_lt] at this; omega
  have M : ∀ {x y : Int64}, x.toInt ≤ y.toInt → ¬ (0 : Int32) < (lcmpW x y) := fun {x y} w v => by
    have := (lw_gt x y).mp v; rw [Int64.lt_iff_toInt_lt] at this; omega
  refine ⟨L (by rw [own_l0]; omega), M (by rw [own_l1]; omega), L (by rw [own_l0]; omega), M (by rw [own_l1]; omega), L (by rw [own_l0]; omega), M (by rw [own_l1]; omega), L (by omega), L (by omega), (lw_eq _ _).mpr (Int64.toInt_inj.mp ?_)⟩
  rw [own_tri hs, c_i2l]
  exact g7

theorem d1_0 : decode jdk_29_method_65_code 0 = .ok (.iload_n 0, 1) := by decide +kernel
theorem d1_1 : decode jdk_29_method_65_code 1 = .ok (.iload_n 1, 1) := by decide +kernel
theorem d1_2 : decode jdk_29_method_65_code 2 = .ok (.if_icmp .lt 7, 3) := by decide +kernel
theorem d1_5 : decode jdk_29_method_65_code 5 = .ok (.iload_n 0, 1) := by decide +kernel
theorem d1_6 : decode jdk_29_method_65_code 6 = .ok (.goto 4, 3) := by decide +kernel
theorem d1_9 : decode jdk_29_method_65_code 9 = .ok (.iload_n 1, 1) := by decide +kernel
theorem d1_10 : decode jdk_29_method_65_code 10 = .ok (.ireturn, 1) := by decide +kernel
theorem d2_0 : decode prog_1_method_2_code 0 = .ok (.aload_n 0, 1) := by decide +kernel
theorem d2_1 : decode prog_1_method_2_code 1 = .ok (.invokevirtual 7, 3) := by decide +kernel
theorem d2_4 : decode prog_1_method_2_code 4 = .ok (.ifCond .eq 11, 3) := by decide +kernel
theorem d2_7 : decode prog_1_method_2_code 7 = .ok (.iload_n 1, 1) := by decide +kernel
theorem d2_8 : decode prog_1_method_2_code 8 = .ok (.aload_n 2, 1) := by decide +kernel
theorem d2_9 : decode prog_1_method_2_code 9 = .ok (.invokestatic 13, 3) := by decide +kernel
theorem d2_12 : decode prog_1_method_2_code 12 = .ok (.goto 8, 3) := by decide +kernel
theorem d2_15 : decode prog_1_method_2_code 15 = .ok (.iload_n 1, 1) := by decide +kernel
theorem d2_16 : decode prog_1_method_2_code 16 = .ok (.aload_n 2, 1) := by decide +kernel
theorem d2_17 : decode prog_1_method_2_code 17 = .ok (.invokestatic 19, 3) := by decide +kernel
theorem d2_20 : decode prog_1_method_2_code 20 = .ok (.areturn, 1) := by decide +kernel
theorem d3_0 : decode prog_54_method_4_code 0 = .ok (.aload_n 0, 1) := by decide +kernel
theorem d3_1 : decode prog_54_method_4_code 1 = .ok (.getfield 35, 3) := by decide +kernel
theorem d3_4 : decode prog_54_method_4_code 4 = .ok (.ireturn, 1) := by decide +kernel
theorem d4_0 : decode prog_1_method_4_code 0 = .ok (.aload_n 1, 1) := by decide +kernel
theorem d4_1 : decode prog_1_method_4_code 1 = .ok (.arraylength, 1) := by decide +kernel
theorem d4_2 : decode prog_1_method_4_code 2 = .ok (.newarray .int, 2) := by decide +kernel
theorem d4_4 : decode prog_1_method_4_code 4 = .ok (.astore_n 2, 1) := by decide +kernel
theorem d4_5 : decode prog_1_method_4_code 5 = .ok (.iload_n 0, 1) := by decide +kernel
theorem d4_6 : decode prog_1_method_4_code 6 = .ok (.istore_n 3, 1) := by decide +kernel
theorem d4_7 : decode prog_1_method_4_code 7 = .ok (.iconst 0, 1) := by decide +kernel
theorem d4_8 : decode prog_1_method_4_code 8 = .ok (.istore 4, 2) := by decide +kernel
theorem d4_10 : decode prog_1_method_4_code 10 = .ok (.iload 4, 2) := by decide +kernel
theorem d4_12 : decode prog_1_method_4_code 12 = .ok (.aload_n 1, 1) := by decide +kernel
theorem d4_13 : decode prog_1_method_4_code 13 = .ok (.arraylength, 1) := by decide +kernel
theorem d4_14 : decode prog_1_method_4_code 14 = .ok (.if_icmp .ge 32, 3) := by decide +kernel
theorem d4_17 : decode prog_1_method_4_code 17 = .ok (.iload_n 3, 1) := by decide +kernel
theorem d4_18 : decode prog_1_method_4_code 18 = .ok (.ifCond .le 28, 3) := by decide +kernel
theorem d4_21 : decode prog_1_method_4_code 21 = .ok (.aload_n 2, 1) := by decide +kernel
theorem d4_22 : decode prog_1_method_4_code 22 = .ok (.iload 4, 2) := by decide +kernel
theorem d4_24 : decode prog_1_method_4_code 24 = .ok (.iload_n 3, 1) := by decide +kernel
theorem d4_25 : decode prog_1_method_4_code 25 = .ok (.aload_n 1, 1) := by decide +kernel
theorem d4_26 : decode prog_1_method_4_code 26 = .ok (.iload 4, 2) := by decide +kernel
theorem d4_28 : decode prog_1_method_4_code 28 = .ok (.iaload, 1) := by decide +kernel
theorem d4_29 : decode prog_1_method_4_code 29 = .ok (.invokestatic 46, 3) := by decide +kernel
theorem d4_32 : decode prog_1_method_4_code 32 = .ok (.iastore, 1) := by decide +kernel
theorem d4_33 : decode prog_1_method_4_code 33 = .ok (.iload_n 3, 1) := by decide +kernel
theorem d4_34 : decode prog_1_method_4_code 34 = .ok (.aload_n 2, 1) := by decide +kernel
theorem d4_35 : decode prog_1_method_4_code 35 = .ok (.iload 4, 2) := by decide +kernel
theorem d4_37 : decode prog_1_method_4_code 37 = .ok (.iaload, 1) := by decide +kernel
theorem d4_38 : decode prog_1_method_4_code 38 = .ok (.isub, 1) := by decide +kernel
theorem d4_39 : decode prog_1_method_4_code 39 = .ok (.istore_n 3, 1) := by decide +kernel
theorem d4_40 : decode prog_1_method_4_code 40 = .ok (.iinc 4 1, 3) := by decide +kernel
theorem d4_43 : decode prog_1_method_4_code 43 = .ok (.goto (-33), 3) := by decide +kernel
theorem d4_46 : decode prog_1_method_4_code 46 = .ok (.aload_n 2, 1) := by decide +kernel
theorem d4_47 : decode prog_1_method_4_code 47 = .ok (.areturn, 1) := by decide +kernel
theorem d5_0 : decode jdk_29_method_69_code 0 = .ok (.iload_n 0, 1) := by decide +kernel
theorem d5_1 : decode jdk_29_method_69_code 1 = .ok (.iload_n 1, 1) := by decide +kernel
theorem d5_2 : decode jdk_29_method_69_code 2 = .ok (.if_icmp .gt 7, 3) := by decide +kernel
theorem d5_5 : decode jdk_29_method_69_code 5 = .ok (.iload_n 0, 1) := by decide +kernel
theorem d5_6 : decode jdk_29_method_69_code 6 = .ok (.goto 4, 3) := by decide +kernel
theorem d5_9 : decode jdk_29_method_69_code 9 = .ok (.iload_n 1, 1) := by decide +kernel
theorem d5_10 : decode jdk_29_method_69_code 10 = .ok (.ireturn, 1) := by decide +kernel
theorem d6_0 : decode jdk_29_method_70_code 0 = .ok (.lload_n 0, 1) := by decide +kernel
theorem d6_1 : decode jdk_29_method_70_code 1 = .ok (.lload_n 2, 1) := by decide +kernel
theorem d6_2 : decode jdk_29_method_70_code 2 = .ok (.lcmp, 1) := by decide +kernel
theorem d6_3 : decode jdk_29_method_70_code 3 = .ok (.ifCond .gt 7, 3) := by decide +kernel
theorem d6_6 : decode jdk_29_method_70_code 6 = .ok (.lload_n 0, 1) := by decide +kernel
theorem d6_7 : decode jdk_29_method_70_code 7 = .ok (.goto 4, 3) := by decide +kernel
theorem d6_10 : decode jdk_29_method_70_code 10 = .ok (.lload_n 2, 1) := by decide +kernel
theorem d6_11 : decode jdk_29_method_70_code 11 = .ok (.lreturn, 1) := by decide +kernel
theorem d7_0 : decode prog_1_method_5_code 0 = .ok (.lconst 0, 1) := by decide +kernel
theorem d7_1 : decode prog_1_method_5_code 1 = .ok (.lstore_n 2, 1) := by decide +kernel
theorem d7_2 : decode prog_1_method_5_code 2 = .ok (.aload_n 1, 1) := by decide +kernel
theorem d7_3 : decode prog_1_method_5_code 3 = .ok (.astore 4, 2) := by decide +kernel
theorem d7_5 : decode prog_1_method_5_code 5 = .ok (.aload 4, 2) := by decide +kernel
theorem d7_7 : decode prog_1_method_5_code 7 = .ok (.arraylength, 1) := by decide +kernel
theorem d7_8 : decode prog_1_method_5_code 8 = .ok (.istore 5, 2) := by decide +kernel
theorem d7_10 : decode prog_1_method_5_code 10 = .ok (.iconst 0, 1) := by decide +kernel
theorem d7_11 : decode prog_1_method_5_code 11 = .ok (.istore 6, 2) := by decide +kernel
theorem d7_13 : decode prog_1_method_5_code 13 = .ok (.iload 6, 2) := by decide +kernel
theorem d7_15 : decode prog_1_method_5_code 15 = .ok (.iload 5, 2) := by decide +kernel
theorem d7_17 : decode prog_1_method_5_code 17 = .ok (.if_icmp .ge 22, 3) := by decide +kernel
theorem d7_20 : decode prog_1_method_5_code 20 = .ok (.aload 4, 2) := by decide +kernel
theorem d7_22 : decode prog_1_method_5_code 22 = .ok (.iload 6, 2) := by decide +kernel
theorem d7_24 : decode prog_1_method_5_code 24 = .ok (.iaload, 1) := by decide +kernel
theorem d7_25 : decode prog_1_method_5_code 25 = .ok (.istore 7, 2) := by decide +kernel
theorem d7_27 : decode prog_1_method_5_code 27 = .ok (.lload_n 2, 1) := by decide +kernel
theorem d7_28 : decode prog_1_method_5_code 28 = .ok (.iload 7, 2) := by decide +kernel
theorem d7_30 : decode prog_1_method_5_code 30 = .ok (.i2l, 1) := by decide +kernel
theorem d7_31 : decode prog_1_method_5_code 31 = .ok (.ladd, 1) := by decide +kernel
theorem d7_32 : decode prog_1_method_5_code 32 = .ok (.lstore_n 2, 1) := by decide +kernel
theorem d7_33 : decode prog_1_method_5_code 33 = .ok (.iinc 6 1, 3) := by decide +kernel
theorem d7_36 : decode prog_1_method_5_code 36 = .ok (.goto (-23), 3) := by decide +kernel
theorem d7_39 : decode prog_1_method_5_code 39 = .ok (.iload_n 0, 1) := by decide +kernel
theorem d7_40 : decode prog_1_method_5_code 40 = .ok (.i2l, 1) := by decide +kernel
theorem d7_41 : decode prog_1_method_5_code 41 = .ok (.lload_n 2, 1) := by decide +kernel
theorem d7_42 : decode prog_1_method_5_code 42 = .ok (.lcmp, 1) := by decide +kernel
theorem d7_43 : decode prog_1_method_5_code 43 = .ok (.ifCond .lt 11, 3) := by decide +kernel
theorem d7_46 : decode prog_1_method_5_code 46 = .ok (.aload_n 1, 1) := by decide +kernel
theorem d7_47 : decode prog_1_method_5_code 47 = .ok (.invokevirtual 52, 3) := by decide +kernel
theorem d7_50 : decode prog_1_method_5_code 50 = .ok (.checkcast 53, 3) := by decide +kernel
theorem d7_53 : decode prog_1_method_5_code 53 = .ok (.areturn, 1) := by decide +kernel
theorem d7_54 : decode prog_1_method_5_code 54 = .ok (.aload_n 1, 1) := by decide +kernel
theorem d7_55 : decode prog_1_method_5_code 55 = .ok (.arraylength, 1) := by decide +kernel
theorem d7_56 : decode prog_1_method_5_code 56 = .ok (.newarray .int, 2) := by decide +kernel
theorem d7_58 : decode prog_1_method_5_code 58 = .ok (.astore 4, 2) := by decide +kernel
theorem d7_60 : decode prog_1_method_5_code 60 = .ok (.iload_n 0, 1) := by decide +kernel
theorem d7_61 : decode prog_1_method_5_code 61 = .ok (.istore 5, 2) := by decide +kernel
theorem d7_63 : decode prog_1_method_5_code 63 = .ok (.iconst 0, 1) := by decide +kernel
theorem d7_64 : decode prog_1_method_5_code 64 = .ok (.istore 6, 2) := by decide +kernel
theorem d7_66 : decode prog_1_method_5_code 66 = .ok (.iload 6, 2) := by decide +kernel
theorem d7_68 : decode prog_1_method_5_code 68 = .ok (.aload_n 1, 1) := by decide +kernel
theorem d7_69 : decode prog_1_method_5_code 69 = .ok (.arraylength, 1) := by decide +kernel
theorem d7_70 : decode prog_1_method_5_code 70 = .ok (.if_icmp .ge 35, 3) := by decide +kernel
theorem d7_73 : decode prog_1_method_5_code 73 = .ok (.aload 4, 2) := by decide +kernel
theorem d7_75 : decode prog_1_method_5_code 75 = .ok (.iload 6, 2) := by decide +kernel
theorem d7_77 : decode prog_1_method_5_code 77 = .ok (.iload_n 0, 1) := by decide +kernel
theorem d7_78 : decode prog_1_method_5_code 78 = .ok (.i2l, 1) := by decide +kernel
theorem d7_79 : decode prog_1_method_5_code 79 = .ok (.aload_n 1, 1) := by decide +kernel
theorem d7_80 : decode prog_1_method_5_code 80 = .ok (.iload 6, 2) := by decide +kernel
theorem d7_82 : decode prog_1_method_5_code 82 = .ok (.iaload, 1) := by decide +kernel
theorem d7_83 : decode prog_1_method_5_code 83 = .ok (.i2l, 1) := by decide +kernel
theorem d7_84 : decode prog_1_method_5_code 84 = .ok (.lmul, 1) := by decide +kernel
theorem d7_85 : decode prog_1_method_5_code 85 = .ok (.lload_n 2, 1) := by decide +kernel
theorem d7_86 : decode prog_1_method_5_code 86 = .ok (.ldiv, 1) := by decide +kernel
theorem d7_87 : decode prog_1_method_5_code 87 = .ok (.l2i, 1) := by decide +kernel
theorem d7_88 : decode prog_1_method_5_code 88 = .ok (.iastore, 1) := by decide +kernel
theorem d7_89 : decode prog_1_method_5_code 89 = .ok (.iload 5, 2) := by decide +kernel
theorem d7_91 : decode prog_1_method_5_code 91 = .ok (.aload 4, 2) := by decide +kernel
theorem d7_93 : decode prog_1_method_5_code 93 = .ok (.iload 6, 2) := by decide +kernel
theorem d7_95 : decode prog_1_method_5_code 95 = .ok (.iaload, 1) := by decide +kernel
theorem d7_96 : decode prog_1_method_5_code 96 = .ok (.isub, 1) := by decide +kernel
theorem d7_97 : decode prog_1_method_5_code 97 = .ok (.istore 5, 2) := by decide +kernel
theorem d7_99 : decode prog_1_method_5_code 99 = .ok (.iinc 6 1, 3) := by decide +kernel
theorem d7_102 : decode prog_1_method_5_code 102 = .ok (.goto (-36), 3) := by decide +kernel
theorem d7_105 : decode prog_1_method_5_code 105 = .ok (.iconst 0, 1) := by decide +kernel
theorem d7_106 : decode prog_1_method_5_code 106 = .ok (.istore 6, 2) := by decide +kernel
theorem d7_108 : decode prog_1_method_5_code 108 = .ok (.iload 5, 2) := by decide +kernel
theorem d7_110 : decode prog_1_method_5_code 110 = .ok (.ifCond .le 21, 3) := by decide +kernel
theorem d7_113 : decode prog_1_method_5_code 113 = .ok (.aload 4, 2) := by decide +kernel
theorem d7_115 : decode prog_1_method_5_code 115 = .ok (.iload 6, 2) := by decide +kernel
theorem d7_117 : decode prog_1_method_5_code 117 = .ok (.dup2, 1) := by decide +kernel
theorem d7_118 : decode prog_1_method_5_code 118 = .ok (.iaload, 1) := by decide +kernel
theorem d7_119 : decode prog_1_method_5_code 119 = .ok (.iconst 1, 1) := by decide +kernel
theorem d7_120 : decode prog_1_method_5_code 120 = .ok (.iadd, 1) := by decide +kernel
theorem d7_121 : decode prog_1_method_5_code 121 = .ok (.iastore, 1) := by decide +kernel
theorem d7_122 : decode prog_1_method_5_code 122 = .ok (.iinc 5 (-1), 3) := by decide +kernel
theorem d7_125 : decode prog_1_method_5_code 125 = .ok (.iinc 6 1, 3) := by decide +kernel
theorem d7_128 : decode prog_1_method_5_code 128 = .ok (.goto (-20), 3) := by decide +kernel
theorem d7_131 : decode prog_1_method_5_code 131 = .ok (.aload 4, 2) := by decide +kernel
theorem d7_133 : decode prog_1_method_5_code 133 = .ok (.areturn, 1) := by decide +kernel
theorem pn_0 : plainName "com/example/legwork/legwork/Tier" = true := by first | (simp [plainName, overriddenIn]; done) | decide +kernel
theorem pn_1 : plainName "com/example/legwork/legwork/Allocation" = true := by first | (simp [plainName, overriddenIn]; done) | decide +kernel
theorem pn_2 : plainName "com/example/legwork/legwork/AllocationSharePinLaw" = true := by first | (simp [plainName, overriddenIn]; done) | decide +kernel
theorem pd_0 : parseMethodDescriptor "(II)I" = some ⟨[.int, .int], some .int⟩ := by decide +kernel
theorem pd_1 : parseMethodDescriptor "()Z" = some ⟨[], some .boolean⟩ := by decide +kernel
theorem pd_2 : parseMethodDescriptor "(I[I)[I" = some ⟨[.int, (.array .int)], some (.array .int)⟩ := by decide +kernel
theorem pd_3 : parseMethodDescriptor "(Lcom/example/legwork/legwork/Tier;I[I)[I" = some ⟨[(.object "com/example/legwork/legwork/Tier"), .int, (.array .int)], some (.array .int)⟩ := by decide +kernel
theorem pd_4 : parseMethodDescriptor "(JJ)J" = some ⟨[.long, .long], some .long⟩ := by decide +kernel
theorem ef_mx (m : MethodId) (x0 : Int32) (x1 : Int32) : entryFrame m #[(.int x0), (.int x1)] 2 = mkF m 0 #[.val (.int x0), .val (.int x1)] [] := by first | (simp [entryFrame, mkF, argsToLocals, Value.category]; done) | rfl
def Q_mx (Z : State) (xx : Int32) (yy : Int32) (h0 : Heap) (n0 : Nat) (v : Option Value) (h : Heap) (L : List Loc) : Prop := ∃ r : Int32, v = some (.int r) ∧ Fr n0 L ∧ h = h0 ∧ own_mx xx yy r
set_option maxRecDepth 65536 in
set_option maxHeartbeats 40000000 in
theorem rm_mx (l : Launch) (Z : State) (a0 : Array Value) (hw : ∀ d ∈ tables_1, d.before a0 Z = true) (ws : List Jvm.Cond) (xx : Int32) (yy : Int32) (h0 : Heap) (n0 : Nat) (Z0 : n0 ≤ h0.size) :
    MetFree l (⟨"java/lang/Math", "max", "(II)I"⟩ : MethodName) (head1 (Jvm.Cond.code (⟨"java/lang/Math", "max", "(II)I"⟩ : MethodName) jdk_29_method_65_code 2 (some .int) :: ws) ({ frames := 0, cells := 0, slots := 0, locals := 0 } : Room)) (fun as_ U_ => as_ = #[(.int xx), (.int yy)] ∧ Z.Warmed39 U_.vm ∧ U_.heap = h0) (fun _ _ _ _ _ => True) (fun _ U o U' => ∃ v L, o = .returned v ∧ Q_mx Z xx yy h0 n0 v U'.heap L ∧ FrameEnd U o U' L ({ frames := 0, cells := 0, slots := 0, locals := 0 } : Room).cells ({ frames := 0, cells := 0, slots := 0, locals := 0 } : Room).slots) := by
  refine MetFree.of_bodySF (Jvm.Free.JP.mathPlain rfl (by decide +kernel)) hisR ?_
  intro p e s m args below meth c s₁ Bd hml0 hP hK
  obtain ⟨rfl, hZ, hh⟩ := hP
  have hx := Bd.exec
  have hby := Bd.bytes
  have hml : c.maxLocals = 2 := hml0
  have hown : s.vm.findClass "java/lang/Math" = some m.cls := findClass_of_methodNamed Bd.named
  have hnm := (name_of_methodNamed Bd.named Bd.method).1
  have X0 : Stand p l e ({ frames := 0, cells := 0, slots := 0, locals := 0 } : Room) s m #[(.int xx), (.int yy)] below meth c s₁ [] 0 0 := Stand.of_body Bd
  have e0 : s₁.heap = h0 := by rw [← hh, Bd.state]; rfl
  have N0 := Fr.nil n0
  have pre0 : ∀ t, Steps p.tables e below (s₁.setTop (mkF m 0 #[.val (.int xx), .val (.int yy)] [])) t → Steps p.tables e below (s₁.setTop (entryFrame m #[(.int xx), (.int yy)] 2)) t := fun t k => castTop (ef_mx m xx yy) k
  have pre1 := fun (t : State) (k : Steps p.tables e below (s₁.setTop (mkF m 2 #[.val (.int xx), .val (.int yy)] [(.int yy), (.int xx)])) t) => pre0 t (by
    refine XS.iloadN X0.here hx rfl (hb hby d1_0) rfl ?_
    show Steps p.tables e below (s₁.setTop (mkF m 1 #[.val (.int xx), .val (.int yy)] [(.int xx)])) _
    refine XS.iloadN X0.here hx rfl (hb hby d1_1) rfl ?_
    show Steps p.tables e below (s₁.setTop (mkF m 2 #[.val (.int xx), .val (.int yy)] [(.int yy), (.int xx)])) _
    exact k)
  by_cases hc2 : xx < yy
  · have pre3 := fun (t : State) (k : Steps p.tables e below (s₁.setTop (mkF m 10 #[.val (.int xx), .val (.int yy)] [(.int yy)])) t) => pre1 t (by
      refine XS.icmpYes X0.here hx rfl (pc0 := 2) (pc' := 9) rfl (hb hby d1_2) rfl (tlt hc2).1 (by decide) (by decide) ?_
      show Steps p.tables e below (s₁.setTop (mkF m 9 #[.val (.int xx), .val (.int yy)] [])) _
      refine XS.iloadN X0.here hx rfl (hb hby d1_9) rfl ?_
      show Steps p.tables e below (s₁.setTop (mkF m 10 #[.val (.int xx), .val (.int yy)] [(.int yy)])) _
      exact k)
    obtain ⟨fs, hr, hrun, hended, hW, hsame⟩ := X0.leave (v := some (.int yy)) (hlocks := BodyLoose.notSynchronized Bd) (fun h => by rw [Bd.returns] at h; cases h)
    refine ⟨_, _, pre3 _ ?_, hrun, hended, _, _, rfl, ?_, ⟨_, rfl⟩, hW, hsame.mono (by decide) (by decide)⟩
    · exact retI X0 hx Bd.returns (hb hby d1_10) hr
    · show Q_mx Z xx yy h0 n0 _ s₁.heap _
      rw [e0]
      exact ⟨yy, rfl, N0, rfl, (own_mx_r hc2)⟩
  · have pre4 := fun (t : State) (k : Steps p.tables e below (s₁.setTop (mkF m 10 #[.val (.int xx), .val (.int yy)] [(.int xx)])) t) => pre1 t (by
      refine XS.icmpNo X0.here hx rfl (hb hby d1_2) rfl (flt hc2).1 ?_
      show Steps p.tables e below (s₁.setTop (mkF m 5 #[.val (.int xx), .val (.int yy)] [])) _
      refine XS.iloadN X0.here hx rfl (hb hby d1_5) rfl ?_
      show Steps p.tables e below (s₁.setTop (mkF m 6 #[.val (.int xx), .val (.int yy)] [(.int xx)])) _
      refine XS.goto X0.here hx rfl (pc0 := 6) (pc' := 10) rfl (hb hby d1_6) (by decide) (by decide) ?_
      show Steps p.tables e below (s₁.setTop (mkF m 10 #[.val (.int xx), .val (.int yy)] [(.int xx)])) _
      exact k)
    obtain ⟨fs, hr, hrun, hended, hW, hsame⟩ := X0.leave (v := some (.int xx)) (hlocks := BodyLoose.notSynchronized Bd) (fun h => by rw [Bd.returns] at h; cases h)
    refine ⟨_, _, pre4 _ ?_, hrun, hended, _, _, rfl, ?_, ⟨_, rfl⟩, hW, hsame.mono (by decide) (by decide)⟩
    · exact retI X0 hx Bd.returns (hb hby d1_10) hr
    · show Q_mx Z xx yy h0 n0 _ s₁.heap _
      rw [e0]
      exact ⟨xx, rfl, N0, rfl, (own_mx_l hc2)⟩

theorem ef_mi (m : MethodId) (x0 : Int32) (x1 : Int32) : entryFrame m #[(.int x0), (.int x1)] 2 = mkF m 0 #[.val (.int x0), .val (.int x1)] [] := by first | (simp [entryFrame, mkF, argsToLocals, Value.category]; done) | rfl
def Q_mi (Z : State) (xx : Int32) (yy : Int32) (r : Int32) (h0 : Heap) (n0 : Nat) (v : Option Value) (h : Heap) (L : List Loc) : Prop := v = some (.int r) ∧ Fr n0 L ∧ h = h0
set_option maxRecDepth 65536 in
set_option maxHeartbeats 40000000 in
theorem rm_mi (l : Launch) (Z : State) (a0 : Array Value) (hw : ∀ d ∈ tables_1, d.before a0 Z = true) (ws : List Jvm.Cond) (xx : Int32) (yy : Int32) (r : Int32) (h0 : Heap) (n0 : Nat) (Z0 : n0 ≤ h0.size) (hr0 : yy < xx → r = yy) (hr1 : ¬ yy < xx → r = xx) :
    MetFree l (⟨"java/lang/Math", "min", "(II)I"⟩ : MethodName) (head1 (Jvm.Cond.code (⟨"java/lang/Math", "min", "(II)I"⟩ : MethodName) jdk_29_method_69_code 2 (some .int) :: ws) ({ frames := 0, cells := 0, slots := 0, locals := 0 } : Room)) (fun as_ U_ => as_ = #[(.int xx), (.int yy)] ∧ Z.Warmed39 U_.vm ∧ U_.heap = h0) (fun _ _ _ _ _ => True) (fun _ U o U' => ∃ v L, o = .returned v ∧ Q_mi Z xx yy r h0 n0 v U'.heap L ∧ FrameEnd U o U' L ({ frames := 0, cells := 0, slots := 0, locals := 0 } : Room).cells ({ frames := 0, cells := 0, slots := 0, locals := 0 } : Room).slots) := by
  refine MetFree.of_bodySF (Jvm.Free.JP.mathPlain rfl (by decide +kernel)) hisR ?_
  intro p e s m args below meth c s₁ Bd hml0 hP hK
  obtain ⟨rfl, hZ, hh⟩ := hP
  have hx := Bd.exec
  have hby := Bd.bytes
  have hml : c.maxLocals = 2 := hml0
  have hown : s.vm.findClass "java/lang/Math" = some m.cls := findClass_of_methodNamed Bd.named
  have hnm := (name_of_methodNamed Bd.named Bd.method).1
  have X0 : Stand p l e ({ frames := 0, cells := 0, slots := 0, locals := 0 } : Room) s m #[(.int xx), (.int yy)] below meth c s₁ [] 0 0 := Stand.of_body Bd
  have e0 : s₁.heap = h0 := by rw [← hh, Bd.state]; rfl
  have N0 := Fr.nil n0
  have pre0 : ∀ t, Steps p.tables e below (s₁.setTop (mkF m 0 #[.val (.int xx), .val (.int yy)] [])) t → Steps p.tables e below (s₁.setTop (entryFrame m #[(.int xx), (.int yy)] 2)) t := fun t k => castTop (ef_mi m xx yy) k
  have pre1 := fun (t : State) (k : Steps p.tables e below (s₁.setTop (mkF m 2 #[.val (.int xx), .val (.int yy)] [(.int yy), (.int xx)])) t) => pre0 t (by
    refine XS.iloadN X0.here hx rfl (hb hby d5_0) rfl ?_
    show Steps p.tables e below (s₁.setTop (mkF m 1 #[.val (.int xx), .val (.int yy)] [(.int xx)])) _
    refine XS.iloadN X0.here hx rfl (hb hby d5_1) rfl ?_
    show Steps p.tables e below (s₁.setTop (mkF m 2 #[.val (.int xx), .val (.int yy)] [(.int yy), (.int xx)])) _
    exact k)
  by_cases hc2 : yy < xx
  · have pre3 := fun (t : State) (k : Steps p.tables e below (s₁.setTop (mkF m 10 #[.val (.int xx), .val (.int yy)] [(.int yy)])) t) => pre1 t (by
      refine XS.icmpYes X0.here hx rfl (pc0 := 2) (pc' := 9) rfl (hb hby d5_2) rfl (tlt hc2).2.2.1 (by decide) (by decide) ?_
      show Steps p.tables e below (s₁.setTop (mkF m 9 #[.val (.int xx), .val (.int yy)] [])) _
      refine XS.iloadN X0.here hx rfl (hb hby d5_9) rfl ?_
      show Steps p.tables e below (s₁.setTop (mkF m 10 #[.val (.int xx), .val (.int yy)] [(.int yy)])) _
      exact k)
    obtain ⟨fs, hr, hrun, hended, hW, hsame⟩ := X0.leave (v := some (.int yy)) (hlocks := BodyLoose.notSynchronized Bd) (fun h => by rw [Bd.returns] at h; cases h)
    refine ⟨_, _, pre3 _ ?_, hrun, hended, _, _, rfl, ?_, ⟨_, rfl⟩, hW, hsame.mono (by decide) (by decide)⟩
    · exact retI X0 hx Bd.returns (hb hby d5_10) hr
    · show Q_mi Z xx yy r h0 n0 _ s₁.heap _
      rw [e0]
      exact ⟨(by first | rw [hr0 (by assumption)] | rw [hr1 (by assumption)]), N0, rfl⟩
  · have pre4 := fun (t : State) (k : Steps p.tables e below (s₁.setTop (mkF m 10 #[.val (.int xx), .val (.int yy)] [(.int xx)])) t) => pre1 t (by
      refine XS.icmpNo X0.here hx rfl (hb hby d5_2) rfl (flt hc2).2.2.1 ?_
      show Steps p.tables e below (s₁.setTop (mkF m 5 #[.val (.int xx), .val (.int yy)] [])) _
      refine XS.iloadN X0.here hx rfl (hb hby d5_5) rfl ?_
      show Steps p.tables e below (s₁.setTop (mkF m 6 #[.val (.int xx), .val (.int yy)] [(.int xx)])) _
      refine XS.goto X0.here hx rfl (pc0 := 6) (pc' := 10) rfl (hb hby d5_6) (by decide) (by decide) ?_
      show Steps p.tables e below (s₁.setTop (mkF m 10 #[.val (.int xx), .val (.int yy)] [(.int xx)])) _
      exact k)
    obtain ⟨fs, hr, hrun, hended, hW, hsame⟩ := X0.leave (v := some (.int xx)) (hlocks := BodyLoose.notSynchronized Bd) (fun h => by rw [Bd.returns] at h; cases h)
    refine ⟨_, _, pre4 _ ?_, hrun, hended, _, _, rfl, ?_, ⟨_, rfl⟩, hW, hsame.mono (by decide) (by decide)⟩
    · exact retI X0 hx Bd.returns (hb hby d5_10) hr
    · show Q_mi Z xx yy r h0 n0 _ s₁.heap _
      rw [e0]
      exact ⟨(by first | rw [hr0 (by assumption)] | rw [hr1 (by assumption)]), N0, rfl⟩

theorem ef_ml (m : MethodId) (x0 : Int64) (x1 : Int64) : entryFrame m #[(.long x0), (.long x1)] 4 = mkF m 0 #[.val (.long x0), .second, .val (.long x1), .second] [] := by first | (simp [entryFrame, mkF, argsToLocals, Value.category]; done) | rfl
def Q_ml (Z : State) (xx : Int64) (yy : Int64) (h0 : Heap) (n0 : Nat) (v : Option Value) (h : Heap) (L : List Loc) : Prop := ∃ r : Int64, v = some (.long r) ∧ Fr n0 L ∧ h = h0 ∧ own_ml xx yy r
set_option maxRecDepth 65536 in
set_option maxHeartbeats 40000000 in
theorem rm_ml (l : Launch) (Z : State) (a0 : Array Value) (hw : ∀ d ∈ tables_1, d.before a0 Z = true) (ws : List Jvm.Cond) (xx : Int64) (yy : Int64) (h0 : Heap) (n0 : Nat) (Z0 : n0 ≤ h0.size) :
    MetFree l (⟨"java/lang/Math", "min", "(JJ)J"⟩ : MethodName) (head1 (Jvm.Cond.code (⟨"java/lang/Math", "min", "(JJ)J"⟩ : MethodName) jdk_29_method_70_code 4 (some .long) :: ws) ({ frames := 0, cells := 0, slots := 0, locals := 0 } : Room)) (fun as_ U_ => as_ = #[(.long xx), (.long yy)] ∧ Z.Warmed39 U_.vm ∧ U_.heap = h0) (fun _ _ _ _ _ => True) (fun _ U o U' => ∃ v L, o = .returned v ∧ Q_ml Z xx yy h0 n0 v U'.heap L ∧ FrameEnd U o U' L ({ frames := 0, cells := 0, slots := 0, locals := 0 } : Room).cells ({ frames := 0, cells := 0, slots := 0, locals := 0 } : Room).slots) := by
  refine MetFree.of_bodySF (Jvm.Free.JP.mathPlain rfl (by decide +kernel)) hisR ?_
  intro p e s m args below meth c s₁ Bd hml0 hP hK
  obtain ⟨rfl, hZ, hh⟩ := hP
  have hx := Bd.exec
  have hby := Bd.bytes
  have hml : c.maxLocals = 4 := hml0
  have hown : s.vm.findClass "java/lang/Math" = some m.cls := findClass_of_methodNamed Bd.named
  have hnm := (name_of_methodNamed Bd.named Bd.method).1
  have X0 : Stand p l e ({ frames := 0, cells := 0, slots := 0, locals := 0 } : Room) s m #[(.long xx), (.long yy)] below meth c s₁ [] 0 0 := Stand.of_body Bd
  have e0 : s₁.heap = h0 := by rw [← hh, Bd.state]; rfl
  have N0 := Fr.nil n0
  have pre0 : ∀ t, Steps p.tables e below (s₁.setTop (mkF m 0 #[.val (.long xx), .second, .val (.long yy), .second] [])) t → Steps p.tables e below (s₁.setTop (entryFrame m #[(.long xx), (.long yy)] 4)) t := fun t k => castTop (ef_ml m xx yy) k
  have pre1 := fun (t : State) (k : Steps p.tables e below (s₁.setTop (mkF m 3 #[.val (.long xx), .second, .val (.long yy), .second] [(.int (lcmpW xx yy))])) t) => pre0 t (by
    refine XS.lloadN X0.here hx rfl (hb hby d6_0) rfl ?_
    show Steps p.tables e below (s₁.setTop (mkF m 1 #[.val (.long xx), .second, .val (.long yy), .second] [(.long xx)])) _
    refine XS.lloadN X0.here hx rfl (hb hby d6_1) rfl ?_
    show Steps p.tables e below (s₁.setTop (mkF m 2 #[.val (.long xx), .second, .val (.long yy), .second] [(.long yy), (.long xx)])) _
    refine XS.lcmp X0.here hx rfl (hb hby d6_2) rfl ?_
    show Steps p.tables e below (s₁.setTop (mkF m 3 #[.val (.long xx), .second, .val (.long yy), .second] [(.int (lcmpW xx yy))])) _
    exact k)
  by_cases hc2 : (0 : Int32) < (lcmpW xx yy)
  · have pre3 := fun (t : State) (k : Steps p.tables e below (s₁.setTop (mkF m 11 #[.val (.long xx), .second, .val (.long yy), .second] [(.long yy)])) t) => pre1 t (by
      refine XS.ifYes X0.here hx rfl (pc0 := 3) (pc' := 10) rfl (hb hby d6_3) rfl ((if0 _ _).trans (tlt hc2).2.2.1) (by decide) (by decide) ?_
      show Steps p.tables e below (s₁.setTop (mkF m 10 #[.val (.long xx), .second, .val (.long yy), .second] [])) _
      refine XS.lloadN X0.here hx rfl (hb hby d6_10) rfl ?_
      show Steps p.tables e below (s₁.setTop (mkF m 11 #[.val (.long xx), .second, .val (.long yy), .second] [(.long yy)])) _
      exact k)
    obtain ⟨fs, hr, hrun, hended, hW, hsame⟩ := X0.leave (v := some (.long yy)) (hlocks := BodyLoose.notSynchronized Bd) (fun h => by rw [Bd.returns] at h; cases h)
    refine ⟨_, _, pre3 _ ?_, hrun, hended, _, _, rfl, ?_, ⟨_, rfl⟩, hW, hsame.mono (by decide) (by decide)⟩
    · jvm_step X0.here [X0.here.top, hx, (hb hby d6_11), X0.method', Bd.returns, narrow]
      first | (intro acts; rw [hr _ acts rfl rfl rfl]) | rw [hr _ _ rfl rfl rfl]
      exact Steps.refl _
    · show Q_ml Z xx yy h0 n0 _ s₁.heap _
      rw [e0]
      exact ⟨yy, rfl, N0, rfl, (own_ml_r hc2)⟩
  · have pre4 := fun (t : State) (k : Steps p.tables e below (s₁.setTop (mkF m 11 #[.val (.long xx), .second, .val (.long yy), .second] [(.long xx)])) t) => pre1 t (by
      refine XS.ifNo X0.here hx rfl (hb hby d6_3) rfl ((if0 _ _).trans (flt hc2).2.2.1) ?_
      show Steps p.tables e below (s₁.setTop (mkF m 6 #[.val (.long xx), .second, .val (.long yy), .second] [])) _
      refine XS.lloadN X0.here hx rfl (hb hby d6_6) rfl ?_
      show Steps p.tables e below (s₁.setTop (mkF m 7 #[.val (.long xx), .second, .val (.long yy), .second] [(.long xx)])) _
      refine XS.goto X0.here hx rfl (pc0 := 7) (pc' := 11) rfl (hb hby d6_7) (by decide) (by decide) ?_
      show Steps p.tables e below (s₁.setTop (mkF m 11 #[.val (.long xx), .second, .val (.long yy), .second] [(.long xx)])) _
      exact k)
    obtain ⟨fs, hr, hrun, hended, hW, hsame⟩ := X0.leave (v := some (.long xx)) (hlocks := BodyLoose.notSynchronized Bd) (fun h => by rw [Bd.returns] at h; cases h)
    refine ⟨_, _, pre4 _ ?_, hrun, hended, _, _, rfl, ?_, ⟨_, rfl⟩, hW, hsame.mono (by decide) (by decide)⟩
    · jvm_step X0.here [X0.here.top, hx, (hb hby d6_11), X0.method', Bd.returns, narrow]
      first | (intro acts; rw [hr _ acts rfl rfl rfl]) | rw [hr _ _ rfl rfl rfl]
      exact Steps.refl _
    · show Q_ml Z xx yy h0 n0 _ s₁.heap _
      rw [e0]
      exact ⟨xx, rfl, N0, rfl, (own_ml_l hc2)⟩

theorem ef_ip (m : MethodId) (x0 : Addr) : entryFrame m #[(.ref x0)] 1 = mkF m 0 #[.val (.ref x0)] [] := by first | (simp [entryFrame, mkF, argsToLocals, Value.category]; done) | rfl
def Q_ip (Z : State) (a : Addr) (b : Int32) (h0 : Heap) (n0 : Nat) (v : Option Value) (h : Heap) (L : List Loc) : Prop := v = some (.int b) ∧ Fr n0 L ∧ h = h0
set_option maxRecDepth 65536 in
set_option maxHeartbeats 40000000 in
theorem rm_ip (l : Launch) (Z : State) (a0 : Array Value) (hw : ∀ d ∈ tables_1, d.before a0 Z = true) (ws : List Jvm.Cond) (a : Addr) (b : Int32) (h0 : Heap) (n0 : Nat) (Z0 : n0 ≤ h0.size) (H0_F : Fld Z h0 a "com/example/legwork/legwork/Tier" "proRata" "Z" (.int b)) (hb01 : nar .boolean b = b) :
    MetFree l (⟨"com/example/legwork/legwork/Tier", "isProRata", "()Z"⟩ : MethodName) (head1 (Jvm.Cond.code (⟨"com/example/legwork/legwork/Tier", "isProRata", "()Z"⟩ : MethodName) prog_54_method_4_code 1 (some .boolean) :: ws) ({ frames := 0, cells := 0, slots := 0, locals := 0 } : Room)) (fun as_ U_ => as_ = #[(.ref a)] ∧ Z.Warmed39 U_.vm ∧ U_.heap = h0) (fun _ _ _ _ _ => True) (fun _ U o U' => ∃ v L, o = .returned v ∧ Q_ip Z a b h0 n0 v U'.heap L ∧ FrameEnd U o U' L ({ frames := 0, cells := 0, slots := 0, locals := 0 } : Room).cells ({ frames := 0, cells := 0, slots := 0, locals := 0 } : Room).slots) := by
  refine MetFree.of_bodySF (plainFor_of_name pn_0) hisR ?_
  intro p e s m args below meth c s₁ Bd hml0 hP hK
  obtain ⟨rfl, hZ, hh⟩ := hP
  have hx := Bd.exec
  have hby := Bd.bytes
  have hml : c.maxLocals = 1 := hml0
  have hown : s.vm.findClass "com/example/legwork/legwork/Tier" = some m.cls := findClass_of_methodNamed Bd.named
  have hnm := (name_of_methodNamed Bd.named Bd.method).1
  have X0 : Stand p l e ({ frames := 0, cells := 0, slots := 0, locals := 0 } : Room) s m #[(.ref a)] below meth c s₁ [] 0 0 := Stand.of_body Bd
  have e0 : s₁.heap = h0 := by rw [← hh, Bd.state]; rfl
  have N0 := Fr.nil n0
  have pre0 : ∀ t, Steps p.tables e below (s₁.setTop (mkF m 0 #[.val (.ref a)] [])) t → Steps p.tables e below (s₁.setTop (entryFrame m #[(.ref a)] 1)) t := fun t k => castTop (ef_ip m a) k
  obtain ⟨T1, X1, e1, st1⟩ := getF X0 hx hZ hown (host := "") (Or.inl (hw _ (List.mem_of_getElem? (i := 18) rfl))) Via.refl e0 H0_F (g := (mkF m 1 #[.val (.ref a)] [(.ref a)])) rfl rfl (hb hby d3_1)
  have pre2 := fun (t : State) (k : Steps p.tables e below (T1.setTop (mkF m 4 #[.val (.ref a)] [(.int b)])) t) => pre0 t (by
    refine XS.aloadN X0.here hx rfl (hb hby d3_0) rfl rfl ?_
    show Steps p.tables e below (s₁.setTop (mkF m 1 #[.val (.ref a)] [(.ref a)])) _
    refine st1 _ ?_
    show Steps p.tables e below (T1.setTop (mkF m 4 #[.val (.ref a)] [(.int b)])) _
    exact k)
  obtain ⟨fs, hr, hrun, hended, hW, hsame⟩ := X1.leave (v := some (.int b)) (hlocks := BodyLoose.notSynchronized Bd) (fun h => by rw [Bd.returns] at h; cases h)
  refine ⟨_, _, pre2 _ ?_, hrun, hended, _, _, rfl, ?_, ⟨_, rfl⟩, hW, hsame.mono (by decide) (by decide)⟩
  · exact retN X1 hx (t := .boolean) Bd.returns (by simp) (hb hby d3_4) (by rw [hb01]; exact hr)
  · show Q_ip Z a b h0 n0 _ T1.heap _
    rw [e1]
    exact ⟨rfl, N0, rfl⟩

theorem ef_tp (m : MethodId) (x0 : Int32) (x1 : Addr) : entryFrame m #[(.int x0), (.ref x1)] 5 = mkF m 0 #[.val (.int x0), .val (.ref x1), .unset, .unset, .unset] [] := by first | (simp [entryFrame, mkF, argsToLocals, Value.category]; done) | rfl
def Q_tp (Z : State) (qq : Int32) (sa : Addr) (ka : ClassId) (aa : Int32) (bb : Int32) (cc : Int32) (h0 : Heap) (n0 : Nat) (v : Option Value) (h : Heap) (L : List Loc) : Prop := ∃ xx : Addr, ∃ kk : ClassId, ∃ s0 : Int32, ∃ s1 : Int32, ∃ s2 : Int32, v = some (.ref xx) ∧ Fr n0 L ∧ Keep h0 h [] ∧ n0 ≤ xx ∧ h0.size ≤ xx ∧ own_TP qq aa bb cc s0 s1 s2 ∧ Arv Z h xx kk .int (3 : Int32) [(.int s0), (.int s1), (.int s2)] (.int (0 : Int32))
set_option maxRecDepth 65536 in
set_option maxHeartbeats 40000000 in
theorem rm_tp (l : Launch) (Z : State) (a0 : Array Value) (hw : ∀ d ∈ tables_1, d.before a0 Z = true) (ws : List Jvm.Cond) (qq : Int32) (sa : Addr) (ka : ClassId) (aa : Int32) (bb : Int32) (cc : Int32) (h0 : Heap) (n0 : Nat) (Z0 : n0 ≤ h0.size) (H0_A : Arv Z h0 sa ka .int (3 : Int32) [(.int aa), (.int bb), (.int cc)] (.int (0 : Int32))) (H1_E : Exa Z h0 sa "[I") (hq : (0 : Int32) < qq) (ha : (0 : Int32) < aa) (hb_ : (0 : Int32) < bb) (hc_ : (0 : Int32) < cc) :
    MetFree l (⟨"com/example/legwork/legwork/Allocation", "timePriority", "(I[I)[I"⟩ : MethodName) (head1 (Jvm.Cond.code (⟨"com/example/legwork/legwork/Allocation", "timePriority", "(I[I)[I"⟩ : MethodName) prog_1_method_4_code 5 (some (.array .int)) :: ws) ({ frames := 1, cells := 1, slots := 3, locals := 15 } : Room)) (fun as_ U_ => as_ = #[(.int qq), (.ref sa)] ∧ Z.Warmed39 U_.vm ∧ U_.heap = h0) (fun _ _ _ _ _ => True) (fun _ U o U' => ∃ v L, o = .returned v ∧ Q_tp Z qq sa ka aa bb cc h0 n0 v U'.heap L ∧ FrameEnd U o U' L ({ frames := 1, cells := 1, slots := 3, locals := 15 } : Room).cells ({ frames := 1, cells := 1, slots := 3, locals := 15 } : Room).slots) := by
  refine MetFree.of_bodySF (plainFor_of_name pn_1) hisR ?_
  intro p e s m args below meth c s₁ Bd hml0 hP hK
  obtain ⟨rfl, hZ, hh⟩ := hP
  have hx := Bd.exec
  have hby := Bd.bytes
  have hml : c.maxLocals = 5 := hml0
  have hown : s.vm.findClass "com/example/legwork/legwork/Allocation" = some m.cls := findClass_of_methodNamed Bd.named
  have hnm := (name_of_methodNamed Bd.named Bd.method).1
  have X0 : Stand p l e ({ frames := 1, cells := 1, slots := 3, locals := 15 } : Room) s m #[(.int qq), (.ref sa)] below meth c s₁ [] 0 0 := Stand.of_body Bd
  have e0 : s₁.heap = h0 := by rw [← hh, Bd.state]; rfl
  have N0 := Fr.nil n0
  have pre0 : ∀ t, Steps p.tables e below (s₁.setTop (mkF m 0 #[.val (.int qq), .val (.ref sa), .unset, .unset, .unset] [])) t → Steps p.tables e below (s₁.setTop (entryFrame m #[(.int qq), (.ref sa)] 5)) t := fun t k => castTop (ef_tp m qq sa) k
  have K0 : Keep h0 h0 [] := Keep.refl h0 []
  have oc1 := H0_A
  obtain ⟨c1, Arc1, qc1, Sc1, Nc1, Hc1, Gc1⟩ := oc1
  obtain ⟨T2, h2, k2, X2, e2, E2, A2, Ea2, st2⟩ := newPE X0 hx hZ (hw _ (List.mem_of_getElem? (i := 8) rfl)) e0 (g := (mkF m 2 #[.val (.int qq), .val (.ref sa), .unset, .unset, .unset] [(.int (3 : Int32))])) rfl (hb hby d4_2) rfl (by decide) (cap := 3) (by decide) (by decide) (by decide) (by decide) (ad := "[I") own_nm_int
  obtain ⟨b2, g2⟩ : ∃ z, z = h0.size := ⟨_, rfl⟩
  have ne_sa_b2 : sa ≠ b2 := Nat.ne_of_lt (Nat.lt_of_lt_of_le H0_A.lt (Nat.le_of_eq g2.symm))
  have ge_b2 : n0 ≤ b2 := Nat.le_trans Z0 (Nat.le_of_eq g2.symm)
  have sz_b2 : h0.size ≤ b2 := Nat.le_trans K0.1 (Nat.le_of_eq g2.symm)
  rw [← g2] at A2 Ea2 st2
  have A3 : Arv Z h2 sa ka .int (3 : Int32) [(.int aa), (.int bb), (.int cc)] (.int (0 : Int32)) := H0_A.ext E2
  have E4 : Exa Z h2 sa "[I" := H1_E.ext E2
  have K2 : Keep h0 h2 [] := K0.ext E2
  have Zs5 : n0 ≤ h2.size := (Nat.le_trans Z0 E2.1)
  have V2 : Arv Z h2 b2 k2 .int (3 : Int32) [(.int (0 : Int32)), (.int (0 : Int32)), (.int (0 : Int32))] (.int (0 : Int32)) := (Arv.new A2 (by decide)).pad (pad_rep [] (.int (0 : Int32)) 3)
  have oc6 := A3
  obtain ⟨c6, Arc6, qc6, Sc6, Nc6, Hc6, Gc6⟩ := oc6
  have oc7 := A3
  obtain ⟨c7, Arc7, qc7, Sc7, Nc7, Hc7, Gc7⟩ := oc7
  have hin8 : ¬ ((0 : Int32) < 0 ∨ c7.slots.size ≤ ((0 : Int32)).toNatClampNeg) := (inb_of Sc7 ⟨by decide, by decide⟩)
  have pre9 := fun (t : State) (k : Steps p.tables e below (T2.setTop (mkF m 29 #[.val (.int qq), .val (.ref sa), .val (.ref b2), .val (.int qq), .val (.int (0 : Int32))] [(.int aa), (.int qq), (.int (0 : Int32)), (.ref b2)])) t) => pre0 t (by
    refine XS.aloadN X0.here hx rfl (hb hby d4_0) rfl rfl ?_
    show Steps p.tables e below (s₁.setTop (mkF m 1 #[.val (.int qq), .val (.ref sa), .unset, .unset, .unset] [(.ref sa)])) _
    refine X0.arraylength hx (by rw [e0]; exact Arc1.1) (State.isArrayOf_alike hZ.alike Arc1.2.1) (g := (mkF m 1 #[.val (.int qq), .val (.ref sa), .unset, .unset, .unset] [(.ref sa)])) rfl rfl (hb hby d4_1) _ ?_
    rw [show c1.slots.size.toInt32 = (3 : Int32) from (len_of Sc1 Nc1)]
    show Steps p.tables e below (s₁.setTop (mkF m 2 #[.val (.int qq), .val (.ref sa), .unset, .unset, .unset] [(.int (3 : Int32))])) _
    refine st2 _ ?_
    show Steps p.tables e below (T2.setTop (mkF m 4 #[.val (.int qq), .val (.ref sa), .unset, .unset, .unset] [(.ref b2)])) _
    refine XS.astoreN X2.here hx rfl (hb hby d4_4) rfl rfl (l' := #[.val (.int qq), .val (.ref sa), .val (.ref b2), .unset, .unset]) rfl ?_
    show Steps p.tables e below (T2.setTop (mkF m 5 #[.val (.int qq), .val (.ref sa), .val (.ref b2), .unset, .unset] [])) _
    refine XS.iloadN X2.here hx rfl (hb hby d4_5) rfl ?_
    show Steps p.tables e below (T2.setTop (mkF m 6 #[.val (.int qq), .val (.ref sa), .val (.ref b2), .unset, .unset] [(.int qq)])) _
    refine XS.istoreN X2.here hx rfl (hb hby d4_6) rfl (l' := #[.val (.int qq), .val (.ref sa), .val (.ref b2), .val (.int qq), .unset]) rfl ?_
    show Steps p.tables e below (T2.setTop (mkF m 7 #[.val (.int qq), .val (.ref sa), .val (.ref b2), .val (.int qq), .unset] [])) _
    refine XS.iconst X2.here hx rfl (hb hby d4_7) ?_
    show Steps p.tables e below (T2.setTop (mkF m 8 #[.val (.int qq), .val (.ref sa), .val (.ref b2), .val (.int qq), .unset] [(.int (0 : Int32))])) _
    refine XS.istore X2.here hx rfl (hb hby d4_8) rfl (l' := #[.val (.int qq), .val (.ref sa), .val (.ref b2), .val (.int qq), .val (.int (0 : Int32))]) rfl ?_
    show Steps p.tables e below (T2.setTop (mkF m 10 #[.val (.int qq), .val (.ref sa), .val (.ref b2), .val (.int qq), .val (.int (0 : Int32))] [])) _
    refine XS.iload X2.here hx rfl (hb hby d4_10) rfl ?_
    show Steps p.tables e below (T2.setTop (mkF m 12 #[.val (.int qq), .val (.ref sa), .val (.ref b2), .val (.int qq), .val (.int (0 : Int32))] [(.int (0 : Int32))])) _
    refine XS.aloadN X2.here hx rfl (hb hby d4_12) rfl rfl ?_
    show Steps p.tables e below (T2.setTop (mkF m 13 #[.val (.int qq), .val (.ref sa), .val (.ref b2), .val (.int qq), .val (.int (0 : Int32))] [(.ref sa), (.int (0 : Int32))])) _
    refine X2.arraylength hx (by rw [e2]; exact Arc6.1) (State.isArrayOf_alike hZ.alike Arc6.2.1) (g := (mkF m 13 #[.val (.int qq), .val (.ref sa), .val (.ref b2), .val (.int qq), .val (.int (0 : Int32))] [(.ref sa), (.int (0 : Int32))])) rfl rfl (hb hby d4_13) _ ?_
    rw [show c6.slots.size.toInt32 = (3 : Int32) from (len_of Sc6 Nc6)]
    show Steps p.tables e below (T2.setTop (mkF m 14 #[.val (.int qq), .val (.ref sa), .val (.ref b2), .val (.int qq), .val (.int (0 : Int32))] [(.int (3 : Int32)), (.int (0 : Int32))])) _
    refine XS.icmpNo X2.here hx rfl (hb hby d4_14) rfl (tlt (by decide : (0 : Int32) < (3 : Int32))).2.1 ?_
    show Steps p.tables e below (T2.setTop (mkF m 17 #[.val (.int qq), .val (.ref sa), .val (.ref b2), .val (.int qq), .val (.int (0 : Int32))] [])) _
    refine XS.iloadN X2.here hx rfl (hb hby d4_17) rfl ?_
    show Steps p.tables e below (T2.setTop (mkF m 18 #[.val (.int qq), .val (.ref sa), .val (.ref b2), .val (.int qq), .val (.int (0 : Int32))] [(.int qq)])) _
    refine XS.ifNo X2.here hx rfl (hb hby d4_18) rfl ((if0 _ _).trans (tlt hq).2.2.2) ?_
    show Steps p.tables e below (T2.setTop (mkF m 21 #[.val (.int qq), .val (.ref sa), .val (.ref b2), .val (.int qq), .val (.int (0 : Int32))] [])) _
    refine XS.aloadN X2.here hx rfl (hb hby d4_21) rfl rfl ?_
    show Steps p.tables e below (T2.setTop (mkF m 22 #[.val (.int qq), .val (.ref sa), .val (.ref b2), .val (.int qq), .val (.int (0 : Int32))] [(.ref b2)])) _
    refine XS.iload X2.here hx rfl (hb hby d4_22) rfl ?_
    show Steps p.tables e below (T2.setTop (mkF m 24 #[.val (.int qq), .val (.ref sa), .val (.ref b2), .val (.int qq), .val (.int (0 : Int32))] [(.int (0 : Int32)), (.ref b2)])) _
    refine XS.iloadN X2.here hx rfl (hb hby d4_24) rfl ?_
    show Steps p.tables e below (T2.setTop (mkF m 25 #[.val (.int qq), .val (.ref sa), .val (.ref b2), .val (.int qq), .val (.int (0 : Int32))] [(.int qq), (.int (0 : Int32)), (.ref b2)])) _
    refine XS.aloadN X2.here hx rfl (hb hby d4_25) rfl rfl ?_
    show Steps p.tables e below (T2.setTop (mkF m 26 #[.val (.int qq), .val (.ref sa), .val (.ref b2), .val (.int qq), .val (.int (0 : Int32))] [(.ref sa), (.int qq), (.int (0 : Int32)), (.ref b2)])) _
    refine XS.iload X2.here hx rfl (hb hby d4_26) rfl ?_
    show Steps p.tables e below (T2.setTop (mkF m 28 #[.val (.int qq), .val (.ref sa), .val (.ref b2), .val (.int qq), .val (.int (0 : Int32))] [(.int (0 : Int32)), (.ref sa), (.int qq), (.int (0 : Int32)), (.ref b2)])) _
    refine X2.iaload hx (j := (0 : Int32)) (v := (.int aa)) (by rw [e2]; exact Arc7.1) (State.isArrayOf_alike hZ.alike Arc7.2.1) Arc7.2.2 hin8 (Has.at Hc7 hin8 rfl) (g := (mkF m 28 #[.val (.int qq), .val (.ref sa), .val (.ref b2), .val (.int qq), .val (.int (0 : Int32))] [(.int (0 : Int32)), (.ref sa), (.int qq), (.int (0 : Int32)), (.ref b2)])) rfl rfl (hb hby d4_28) _ ?_
    show Steps p.tables e below (T2.setTop (mkF m 29 #[.val (.int qq), .val (.ref sa), .val (.ref b2), .val (.int qq), .val (.int (0 : Int32))] [(.int aa), (.int qq), (.int (0 : Int32)), (.ref b2)])) _
    exact k)
  by_cases hs10 : aa < qq
  · obtain ⟨_, _, ⟨T11, L11, k11, n11⟩, -, X11, ⟨Lc11, hQ11, l11, y11, z11⟩, st11⟩ := Jvm.LawKit.callS X2 hx (y := (⟨"java/lang/Math", "min", "(II)I"⟩ : MethodName)) hown (mvT hZ (hw _ (List.mem_of_getElem? (i := 23) rfl))) (mvT hZ (hw _ (List.mem_of_getElem? (i := 24) rfl))) (mvT hZ (hw _ (List.mem_of_getElem? (i := 6) rfl))) (mvT hZ (hw _ (List.mem_of_getElem? (i := 25) rfl))) (by decide) (backOf (W := 2) (rm_mi l Z a0 hw [] qq aa aa h2 n0 Zs5 (fun _ => rfl) (fun q => absurd hs10 q)) hZ (hw _ (List.mem_of_getElem? (i := 25) rfl)) (hw _ (List.mem_of_getElem? (i := 6) rfl)) (by decide) (by decide)) (g := (mkF m 29 #[.val (.int qq), .val (.ref sa), .val (.ref b2), .val (.int qq), .val (.int (0 : Int32))] [(.int aa), (.int qq), (.int (0 : Int32)), (.ref b2)])) rfl (by rw [hml]; rfl) (argsL := [(.int qq), (.int aa)]) (rest := [(.int (0 : Int32)), (.ref b2)]) (lenOf pd_0 rfl) rfl (by show 2 * 0 + _ ≤ _; exact Nat.le_of_eq rfl) (hb hby d4_29) (fun _ _ => ⟨rfl, e2, (by decide : 1 + 0 ≤ _), (by decide : 3 + 0 ≤ _)⟩)
    dsimp only [Pt.U, Pt.locs, Pt.cells, Pt.slots] at X11 l11 y11 z11 st11 hQ11
    subst l11 y11 z11
    obtain ⟨rfl, N11q, hq12⟩ := hQ11
    have N11 := Fr.app N0 N11q
    have oc13 := V2
    obtain ⟨c13, Arc13, qc13, Sc13, Nc13, Hc13, Gc13⟩ := oc13
    have hin14 : ¬ ((0 : Int32) < 0 ∨ c13.slots.size ≤ ((0 : Int32)).toNatClampNeg) := (inb_of Sc13 ⟨by decide, by decide⟩)
    obtain ⟨T14, h14, X14, e14, W14, st14⟩ := stI X11 hx hZ hq12 Arc13 (j := (0 : Int32)) hin14 (g := (mkF m 32 #[.val (.int qq), .val (.ref sa), .val (.ref b2), .val (.int qq), .val (.int (0 : Int32))] [(.int aa), (.int (0 : Int32)), (.ref b2)])) rfl rfl (hb hby d4_32)
    have V14 : Arv Z h14 b2 k2 .int (3 : Int32) [(.int aa), (.int (0 : Int32)), (.int (0 : Int32))] (.int (0 : Int32)) := Arv.set Arc13 qc13 Sc13 Nc13 Hc13 Gc13 rfl W14 0 rfl (Nat.le_of_ble_eq_true rfl)
    have A15 : Arv Z h14 sa ka .int (3 : Int32) [(.int aa), (.int bb), (.int cc)] (.int (0 : Int32)) := A3.other W14 ne_sa_b2
    have E16 : Exa Z h14 sa "[I" := E4.wr W14
    have E17 : Exa Z h14 b2 "[I" := Ea2.wr W14
    have N14 := Fr.snoc X14 N11 ge_b2
    have K14 : Keep h0 h14 [] := K2.wr W14 (Or.inr sz_b2)
    have Zs18 : n0 ≤ h14.size := (Nat.le_trans Zs5 (Keep.of_wr W14).1)
    have oc19 := V14
    obtain ⟨c19, Arc19, qc19, Sc19, Nc19, Hc19, Gc19⟩ := oc19
    have hin20 : ¬ ((0 : Int32) < 0 ∨ c19.slots.size ≤ ((0 : Int32)).toNatClampNeg) := (inb_of Sc19 ⟨by decide, by decide⟩)
    have pre21 := fun (t : State) (k : Steps p.tables e below (T14.setTop (mkF m 39 #[.val (.int qq), .val (.ref sa), .val (.ref b2), .val (.int qq), .val (.int (0 : Int32))] [(.int (qq - aa))])) t) => pre9 t (by
      refine st11 _ ?_
      show Steps p.tables e below (T11.setTop (mkF m 32 #[.val (.int qq), .val (.ref sa), .val (.ref b2), .val (.int qq), .val (.int (0 : Int32))] [(.int aa), (.int (0 : Int32)), (.ref b2)])) _
      refine st14 _ ?_
      show Steps p.tables e below (T14.setTop (mkF m 33 #[.val (.int qq), .val (.ref sa), .val (.ref b2), .val (.int qq), .val (.int (0 : Int32))] [])) _
      refine XS.iloadN X14.here hx rfl (hb hby d4_33) rfl ?_
      show Steps p.tables e below (T14.setTop (mkF m 34 #[.val (.int qq), .val (.ref sa), .val (.ref b2), .val (.int qq), .val (.int (0 : Int32))] [(.int qq)])) _
      refine XS.aloadN X14.here hx rfl (hb hby d4_34) rfl rfl ?_
      show Steps p.tables e below (T14.setTop (mkF m 35 #[.val (.int qq), .val (.ref sa), .val (.ref b2), .val (.int qq), .val (.int (0 : Int32))] [(.ref b2), (.int qq)])) _
      refine XS.iload X14.here hx rfl (hb hby d4_35) rfl ?_
      show Steps p.tables e below (T14.setTop (mkF m 37 #[.val (.int qq), .val (.ref sa), .val (.ref b2), .val (.int qq), .val (.int (0 : Int32))] [(.int (0 : Int32)), (.ref b2), (.int qq)])) _
      refine X14.iaload hx (j := (0 : Int32)) (v := (.int aa)) (by rw [e14]; exact Arc19.1) (State.isArrayOf_alike hZ.alike Arc19.2.1) Arc19.2.2 hin20 (Has.at Hc19 hin20 rfl) (g := (mkF m 37 #[.val (.int qq), .val (.ref sa), .val (.ref b2), .val (.int qq), .val (.int (0 : Int32))] [(.int (0 : Int32)), (.ref b2), (.int qq)])) rfl rfl (hb hby d4_37) _ ?_
      show Steps p.tables e below (T14.setTop (mkF m 38 #[.val (.int qq), .val (.ref sa), .val (.ref b2), .val (.int qq), .val (.int (0 : Int32))] [(.int aa), (.int qq)])) _
      refine XS.isub X14.here hx rfl (hb hby d4_38) rfl ?_
      show Steps p.tables e below (T14.setTop (mkF m 39 #[.val (.int qq), .val (.ref sa), .val (.ref b2), .val (.int qq), .val (.int (0 : Int32))] [(.int (qq - aa))])) _
      exact k)
    obtain ⟨lf22, h_lf22⟩ : ∃ z : Int32, z = (qq - aa) := ⟨_, rfl⟩
    have pre23 := fun (t : State) (k : Steps p.tables e below (T14.setTop (mkF m 39 #[.val (.int qq), .val (.ref sa), .val (.ref b2), .val (.int qq), .val (.int (0 : Int32))] [(.int lf22)])) t) => pre21 t (by rw [← h_lf22]; exact k)
    have oc24 := A15
    obtain ⟨c24, Arc24, qc24, Sc24, Nc24, Hc24, Gc24⟩ := oc24
    have oc25 := A15
    obtain ⟨c25, Arc25, qc25, Sc25, Nc25, Hc25, Gc25⟩ := oc25
    have hin26 : ¬ ((1 : Int32) < 0 ∨ c25.slots.size ≤ ((1 : Int32)).toNatClampNeg) := (inb_of Sc25 ⟨by decide, by decide⟩)
    have pre27 := fun (t : State) (k : Steps p.tables e below (T14.setTop (mkF m 29 #[.val (.int qq), .val (.ref sa), .val (.ref b2), .val (.int lf22), .val (.int (1 : Int32))] [(.int bb), (.int lf22), (.int (1 : Int32)), (.ref b2)])) t) => pre23 t (by
      refine XS.istoreN X14.here hx rfl (hb hby d4_39) rfl (l' := #[.val (.int qq), .val (.ref sa), .val (.ref b2), .val (.int lf22), .val (.int (0 : Int32))]) rfl ?_
      show Steps p.tables e below (T14.setTop (mkF m 40 #[.val (.int qq), .val (.ref sa), .val (.ref b2), .val (.int lf22), .val (.int (0 : Int32))] [])) _
      refine XS.iinc X14.here hx rfl (hb hby d4_40) rfl (l' := #[.val (.int qq), .val (.ref sa), .val (.ref b2), .val (.int lf22), .val (.int (1 : Int32))]) rfl ?_
      show Steps p.tables e below (T14.setTop (mkF m 43 #[.val (.int qq), .val (.ref sa), .val (.ref b2), .val (.int lf22), .val (.int (1 : Int32))] [])) _
      refine XS.goto X14.here hx rfl (pc0 := 43) (pc' := 10) rfl (hb hby d4_43) (by decide) (by decide) ?_
      show Steps p.tables e below (T14.setTop (mkF m 10 #[.val (.int qq), .val (.ref sa), .val (.ref b2), .val (.int lf22), .val (.int (1 : Int32))] [])) _
      refine XS.iload X14.here hx rfl (hb hby d4_10) rfl ?_
      show Steps p.tables e below (T14.setTop (mkF m 12 #[.val (.int qq), .val (.ref sa), .val (.ref b2), .val (.int lf22), .val (.int (1 : Int32))] [(.int (1 : Int32))])) _
      refine XS.aloadN X14.here hx rfl (hb hby d4_12) rfl rfl ?_
      show Steps p.tables e below (T14.setTop (mkF m 13 #[.val (.int qq), .val (.ref sa), .val (.ref b2), .val (.int lf22), .val (.int (1 : Int32))] [(.ref sa), (.int (1 : Int32))])) _
      refine X14.arraylength hx (by rw [e14]; exact Arc24.1) (State.isArrayOf_alike hZ.alike Arc24.2.1) (g := (mkF m 13 #[.val (.int qq), .val (.ref sa), .val (.ref b2), .val (.int lf22), .val (.int (1 : Int32))] [(.ref sa), (.int (1 : Int32))])) rfl rfl (hb hby d4_13) _ ?_
      rw [show c24.slots.size.toInt32 = (3 : Int32) from (len_of Sc24 Nc24)]
      show Steps p.tables e below (T14.setTop (mkF m 14 #[.val (.int qq), .val (.ref sa), .val (.ref b2), .val (.int lf22), .val (.int (1 : Int32))] [(.int (3 : Int32)), (.int (1 : Int32))])) _
      refine XS.icmpNo X14.here hx rfl (hb hby d4_14) rfl (tlt (by decide : (1 : Int32) < (3 : Int32))).2.1 ?_
      show Steps p.tables e below (T14.setTop (mkF m 17 #[.val (.int qq), .val (.ref sa), .val (.ref b2), .val (.int lf22), .val (.int (1 : Int32))] [])) _
      refine XS.iloadN X14.here hx rfl (hb hby d4_17) rfl ?_
      show Steps p.tables e below (T14.setTop (mkF m 18 #[.val (.int qq), .val (.ref sa), .val (.ref b2), .val (.int lf22), .val (.int (1 : Int32))] [(.int lf22)])) _
      refine XS.ifNo X14.here hx rfl (hb hby d4_18) rfl ((if0 _ _).trans (tlt (own_pos ha hs10 h_lf22)).2.2.2) ?_
      show Steps p.tables e below (T14.setTop (mkF m 21 #[.val (.int qq), .val (.ref sa), .val (.ref b2), .val (.int lf22), .val (.int (1 : Int32))] [])) _
      refine XS.aloadN X14.here hx rfl (hb hby d4_21) rfl rfl ?_
      show Steps p.tables e below (T14.setTop (mkF m 22 #[.val (.int qq), .val (.ref sa), .val (.ref b2), .val (.int lf22), .val (.int (1 : Int32))] [(.ref b2)])) _
      refine XS.iload X14.here hx rfl (hb hby d4_22) rfl ?_
      show Steps p.tables e below (T14.setTop (mkF m 24 #[.val (.int qq), .val (.ref sa), .val (.ref b2), .val (.int lf22), .val (.int (1 : Int32))] [(.int (1 : Int32)), (.ref b2)])) _
      refine XS.iloadN X14.here hx rfl (hb hby d4_24) rfl ?_
      show Steps p.tables e below (T14.setTop (mkF m 25 #[.val (.int qq), .val (.ref sa), .val (.ref b2), .val (.int lf22), .val (.int (1 : Int32))] [(.int lf22), (.int (1 : Int32)), (.ref b2)])) _
      refine XS.aloadN X14.here hx rfl (hb hby d4_25) rfl rfl ?_
      show Steps p.tables e below (T14.setTop (mkF m 26 #[.val (.int qq), .val (.ref sa), .val (.ref b2), .val (.int lf22), .val (.int (1 : Int32))] [(.ref sa), (.int lf22), (.int (1 : Int32)), (.ref b2)])) _
      refine XS.iload X14.here hx rfl (hb hby d4_26) rfl ?_
      show Steps p.tables e below (T14.setTop (mkF m 28 #[.val (.int qq), .val (.ref sa), .val (.ref b2), .val (.int lf22), .val (.int (1 : Int32))] [(.int (1 : Int32)), (.ref sa), (.int lf22), (.int (1 : Int32)), (.ref b2)])) _
      refine X14.iaload hx (j := (1 : Int32)) (v := (.int bb)) (by rw [e14]; exact Arc25.1) (State.isArrayOf_alike hZ.alike Arc25.2.1) Arc25.2.2 hin26 (Has.at Hc25 hin26 rfl) (g := (mkF m 28 #[.val (.int qq), .val (.ref sa), .val (.ref b2), .val (.int lf22), .val (.int (1 : Int32))] [(.int (1 : Int32)), (.ref sa), (.int lf22), (.int (1 : Int32)), (.ref b2)])) rfl rfl (hb hby d4_28) _ ?_
      show Steps p.tables e below (T14.setTop (mkF m 29 #[.val (.int qq), .val (.ref sa), .val (.ref b2), .val (.int lf22), .val (.int (1 : Int32))] [(.int bb), (.int lf22), (.int (1 : Int32)), (.ref b2)])) _
      exact k)
    by_cases hs28 : bb < lf22
    · obtain ⟨_, _, ⟨T29, L29, k29, n29⟩, -, X29, ⟨Lc29, hQ29, l29, y29, z29⟩, st29⟩ := Jvm.LawKit.callS X14 hx (y := (⟨"java/lang/Math", "min", "(II)I"⟩ : MethodName)) hown (mvT hZ (hw _ (List.mem_of_getElem? (i := 23) rfl))) (mvT hZ (hw _ (List.mem_of_getElem? (i := 24) rfl))) (mvT hZ (hw _ (List.mem_of_getElem? (i := 6) rfl))) (mvT hZ (hw _ (List.mem_of_getElem? (i := 25) rfl))) (by decide) (backOf (W := 2) (rm_mi l Z a0 hw [] lf22 bb bb h14 n0 Zs18 (fun _ => rfl) (fun q => absurd hs28 q)) hZ (hw _ (List.mem_of_getElem? (i := 25) rfl)) (hw _ (List.mem_of_getElem? (i := 6) rfl)) (by decide) (by decide)) (g := (mkF m 29 #[.val (.int qq), .val (.ref sa), .val (.ref b2), .val (.int lf22), .val (.int (1 : Int32))] [(.int bb), (.int lf22), (.int (1 : Int32)), (.ref b2)])) rfl (by rw [hml]; rfl) (argsL := [(.int lf22), (.int bb)]) (rest := [(.int (1 : Int32)), (.ref b2)]) (lenOf pd_0 rfl) rfl (by show 2 * 0 + _ ≤ _; exact Nat.le_of_eq rfl) (hb hby d4_29) (fun _ _ => ⟨rfl, e14, (by decide : 1 + 0 ≤ _), (by decide : 3 + 0 ≤ _)⟩)
      dsimp only [Pt.U, Pt.locs, Pt.cells, Pt.slots] at X29 l29 y29 z29 st29 hQ29
      subst l29 y29 z29
      obtain ⟨rfl, N29q, hq30⟩ := hQ29
      have N29 := Fr.app N14 N29q
      have oc31 := V14
      obtain ⟨c31, Arc31, qc31, Sc31, Nc31, Hc31, Gc31⟩ := oc31
      have hin32 : ¬ ((1 : Int32) < 0 ∨ c31.slots.size ≤ ((1 : Int32)).toNatClampNeg) := (inb_of Sc31 ⟨by decide, by decide⟩)
      obtain ⟨T32, h32, X32, e32, W32, st32⟩ := stI X29 hx hZ hq30 Arc31 (j := (1 : Int32)) hin32 (g := (mkF m 32 #[.val (.int qq), .val (.ref sa), .val (.ref b2), .val (.int lf22), .val (.int (1 : Int32))] [(.int bb), (.int (1 : Int32)), (.ref b2)])) rfl rfl (hb hby d4_32)
      have V32 : Arv Z h32 b2 k2 .int (3 : Int32) [(.int aa), (.int bb), (.int (0 : Int32))] (.int (0 : Int32)) := Arv.set Arc31 qc31 Sc31 Nc31 Hc31 Gc31 rfl W32 1 rfl (Nat.le_of_ble_eq_true rfl)
      have A33 : Arv Z h32 sa ka .int (3 : Int32) [(.int aa), (.int bb), (.int cc)] (.int (0 : Int32)) := A15.other W32 ne_sa_b2
      have E34 : Exa Z h32 sa "[I" := E16.wr W32
      have E35 : Exa Z h32 b2 "[I" := E17.wr W32
      have N32 := Fr.snoc X32 N29 ge_b2
      have K32 : Keep h0 h32 [] := K14.wr W32 (Or.inr sz_b2)
      have Zs36 : n0 ≤ h32.size := (Nat.le_trans Zs18 (Keep.of_wr W32).1)
      have oc37 := V32
      obtain ⟨c37, Arc37, qc37, Sc37, Nc37, Hc37, Gc37⟩ := oc37
      have hin38 : ¬ ((1 : Int32) < 0 ∨ c37.slots.size ≤ ((1 : Int32)).toNatClampNeg) := (inb_of Sc37 ⟨by decide, by decide⟩)
      have pre39 := fun (t : State) (k : Steps p.tables e below (T32.setTop (mkF m 39 #[.val (.int qq), .val (.ref sa), .val (.ref b2), .val (.int lf22), .val (.int (1 : Int32))] [(.int (lf22 - bb))])) t) => pre27 t (by
        refine st29 _ ?_
        show Steps p.tables e below (T29.setTop (mkF m 32 #[.val (.int qq), .val (.ref sa), .val (.ref b2), .val (.int lf22), .val (.int (1 : Int32))] [(.int bb), (.int (1 : Int32)), (.ref b2)])) _
        refine st32 _ ?_
        show Steps p.tables e below (T32.setTop (mkF m 33 #[.val (.int qq), .val (.ref sa), .val (.ref b2), .val (.int lf22), .val (.int (1 : Int32))] [])) _
        refine XS.iloadN X32.here hx rfl (hb hby d4_33) rfl ?_
        show Steps p.tables e below (T32.setTop (mkF m 34 #[.val (.int qq), .val (.ref sa), .val (.ref b2), .val (.int lf22), .val (.int (1 : Int32))] [(.int lf22)])) _
        refine XS.aloadN X32.here hx rfl (hb hby d4_34) rfl rfl ?_
        show Steps p.tables e below (T32.setTop (mkF m 35 #[.val (.int qq), .val (.ref sa), .val (.ref b2), .val (.int lf22), .val (.int (1 : Int32))] [(.ref b2), (.int lf22)])) _
        refine XS.iload X32.here hx rfl (hb hby d4_35) rfl ?_
        show Steps p.tables e below (T32.setTop (mkF m 37 #[.val (.int qq), .val (.ref sa), .val (.ref b2), .val (.int lf22), .val (.int (1 : Int32))] [(.int (1 : Int32)), (.ref b2), (.int lf22)])) _
        refine X32.iaload hx (j := (1 : Int32)) (v := (.int bb)) (by rw [e32]; exact Arc37.1) (State.isArrayOf_alike hZ.alike Arc37.2.1) Arc37.2.2 hin38 (Has.at Hc37 hin38 rfl) (g := (mkF m 37 #[.val (.int qq), .val (.ref sa), .val (.ref b2), .val (.int lf22), .val (.int (1 : Int32))] [(.int (1 : Int32)), (.ref b2), (.int lf22)])) rfl rfl (hb hby d4_37) _ ?_
        show Steps p.tables e below (T32.setTop (mkF m 38 #[.val (.int qq), .val (.ref sa), .val (.ref b2), .val (.int lf22), .val (.int (1 : Int32))] [(.int bb), (.int lf22)])) _
        refine XS.isub X32.here hx rfl (hb hby d4_38) rfl ?_
        show Steps p.tables e below (T32.setTop (mkF m 39 #[.val (.int qq), .val (.ref sa), .val (.ref b2), .val (.int lf22), .val (.int (1 : Int32))] [(.int (lf22 - bb))])) _
        exact k)
      obtain ⟨lf40, h_lf40⟩ : ∃ z : Int32, z = (lf22 - bb) := ⟨_, rfl⟩
      have pre41 := fun (t : State) (k : Steps p.tables e below (T32.setTop (mkF m 39 #[.val (.int qq), .val (.ref sa), .val (.ref b2), .val (.int lf22), .val (.int (1 : Int32))] [(.int lf40)])) t) => pre39 t (by rw [← h_lf40]; exact k)
      have oc42 := A33
      obtain ⟨c42, Arc42, qc42, Sc42, Nc42, Hc42, Gc42⟩ := oc42
      have oc43 := A33
      obtain ⟨c43, Arc43, qc43, Sc43, Nc43, Hc43, Gc43⟩ := oc43
      have hin44 : ¬ ((2 : Int32) < 0 ∨ c43.slots.size ≤ ((2 : Int32)).toNatClampNeg) := (inb_of Sc43 ⟨by decide, by decide⟩)
      have pre45 := fun (t : State) (k : Steps p.tables e below (T32.setTop (mkF m 29 #[.val (.int qq), .val (.ref sa), .val (.ref b2), .val (.int lf40), .val (.int (2 : Int32))] [(.int cc), (.int lf40), (.int (2 : Int32)), (.ref b2)])) t) => pre41 t (by
        refine XS.istoreN X32.here hx rfl (hb hby d4_39) rfl (l' := #[.val (.int qq), .val (.ref sa), .val (.ref b2), .val (.int lf40), .val (.int (1 : Int32))]) rfl ?_
        show Steps p.tables e below (T32.setTop (mkF m 40 #[.val (.int qq), .val (.ref sa), .val (.ref b2), .val (.int lf40), .val (.int (1 : Int32))] [])) _
        refine XS.iinc X32.here hx rfl (hb hby d4_40) rfl (l' := #[.val (.int qq), .val (.ref sa), .val (.ref b2), .val (.int lf40), .val (.int (2 : Int32))]) rfl ?_
        show Steps p.tables e below (T32.setTop (mkF m 43 #[.val (.int qq), .val (.ref sa), .val (.ref b2), .val (.int lf40), .val (.int (2 : Int32))] [])) _
        refine XS.goto X32.here hx rfl (pc0 := 43) (pc' := 10) rfl (hb hby d4_43) (by decide) (by decide) ?_
        show Steps p.tables e below (T32.setTop (mkF m 10 #[.val (.int qq), .val (.ref sa), .val (.ref b2), .val (.int lf40), .val (.int (2 : Int32))] [])) _
        refine XS.iload X32.here hx rfl (hb hby d4_10) rfl ?_
        show Steps p.tables e below (T32.setTop (mkF m 12 #[.val (.int qq), .val (.ref sa), .val (.ref b2), .val (.int lf40), .val (.int (2 : Int32))] [(.int (2 : Int32))])) _
        refine XS.aloadN X32.here hx rfl (hb hby d4_12) rfl rfl ?_
        show Steps p.tables e below (T32.setTop (mkF m 13 #[.val (.int qq), .val (.ref sa), .val (.ref b2), .val (.int lf40), .val (.int (2 : Int32))] [(.ref sa), (.int (2 : Int32))])) _
        refine X32.arraylength hx (by rw [e32]; exact Arc42.1) (State.isArrayOf_alike hZ.alike Arc42.2.1) (g := (mkF m 13 #[.val (.int qq), .val (.ref sa), .val (.ref b2), .val (.int lf40), .val (.int (2 : Int32))] [(.ref sa), (.int (2 : Int32))])) rfl rfl (hb hby d4_13) _ ?_
        rw [show c42.slots.size.toInt32 = (3 : Int32) from (len_of Sc42 Nc42)]
        show Steps p.tables e below (T32.setTop (mkF m 14 #[.val (.int qq), .val (.ref sa), .val (.ref b2), .val (.int lf40), .val (.int (2 : Int32))] [(.int (3 : Int32)), (.int (2 : Int32))])) _
        refine XS.icmpNo X32.here hx rfl (hb hby d4_14) rfl (tlt (by decide : (2 : Int32) < (3 : Int32))).2.1 ?_
        show Steps p.tables e below (T32.setTop (mkF m 17 #[.val (.int qq), .val (.ref sa), .val (.ref b2), .val (.int lf40), .val (.int (2 : Int32))] [])) _
        refine XS.iloadN X32.here hx rfl (hb hby d4_17) rfl ?_
        show Steps p.tables e below (T32.setTop (mkF m 18 #[.val (.int qq), .val (.ref sa), .val (.ref b2), .val (.int lf40), .val (.int (2 : Int32))] [(.int lf40)])) _
        refine XS.ifNo X32.here hx rfl (hb hby d4_18) rfl ((if0 _ _).trans (tlt (own_pos hb_ hs28 h_lf40)).2.2.2) ?_
        show Steps p.tables e below (T32.setTop (mkF m 21 #[.val (.int qq), .val (.ref sa), .val (.ref b2), .val (.int lf40), .val (.int (2 : Int32))] [])) _
        refine XS.aloadN X32.here hx rfl (hb hby d4_21) rfl rfl ?_
        show Steps p.tables e below (T32.setTop (mkF m 22 #[.val (.int qq), .val (.ref sa), .val (.ref b2), .val (.int lf40), .val (.int (2 : Int32))] [(.ref b2)])) _
        refine XS.iload X32.here hx rfl (hb hby d4_22) rfl ?_
        show Steps p.tables e below (T32.setTop (mkF m 24 #[.val (.int qq), .val (.ref sa), .val (.ref b2), .val (.int lf40), .val (.int (2 : Int32))] [(.int (2 : Int32)), (.ref b2)])) _
        refine XS.iloadN X32.here hx rfl (hb hby d4_24) rfl ?_
        show Steps p.tables e below (T32.setTop (mkF m 25 #[.val (.int qq), .val (.ref sa), .val (.ref b2), .val (.int lf40), .val (.int (2 : Int32))] [(.int lf40), (.int (2 : Int32)), (.ref b2)])) _
        refine XS.aloadN X32.here hx rfl (hb hby d4_25) rfl rfl ?_
        show Steps p.tables e below (T32.setTop (mkF m 26 #[.val (.int qq), .val (.ref sa), .val (.ref b2), .val (.int lf40), .val (.int (2 : Int32))] [(.ref sa), (.int lf40), (.int (2 : Int32)), (.ref b2)])) _
        refine XS.iload X32.here hx rfl (hb hby d4_26) rfl ?_
        show Steps p.tables e below (T32.setTop (mkF m 28 #[.val (.int qq), .val (.ref sa), .val (.ref b2), .val (.int lf40), .val (.int (2 : Int32))] [(.int (2 : Int32)), (.ref sa), (.int lf40), (.int (2 : Int32)), (.ref b2)])) _
        refine X32.iaload hx (j := (2 : Int32)) (v := (.int cc)) (by rw [e32]; exact Arc43.1) (State.isArrayOf_alike hZ.alike Arc43.2.1) Arc43.2.2 hin44 (Has.at Hc43 hin44 rfl) (g := (mkF m 28 #[.val (.int qq), .val (.ref sa), .val (.ref b2), .val (.int lf40), .val (.int (2 : Int32))] [(.int (2 : Int32)), (.ref sa), (.int lf40), (.int (2 : Int32)), (.ref b2)])) rfl rfl (hb hby d4_28) _ ?_
        show Steps p.tables e below (T32.setTop (mkF m 29 #[.val (.int qq), .val (.ref sa), .val (.ref b2), .val (.int lf40), .val (.int (2 : Int32))] [(.int cc), (.int lf40), (.int (2 : Int32)), (.ref b2)])) _
        exact k)
      by_cases hs46 : cc < lf40
      · obtain ⟨_, _, ⟨T47, L47, k47, n47⟩, -, X47, ⟨Lc47, hQ47, l47, y47, z47⟩, st47⟩ := Jvm.LawKit.callS X32 hx (y := (⟨"java/lang/Math", "min", "(II)I"⟩ : MethodName)) hown (mvT hZ (hw _ (List.mem_of_getElem? (i := 23) rfl))) (mvT hZ (hw _ (List.mem_of_getElem? (i := 24) rfl))) (mvT hZ (hw _ (List.mem_of_getElem? (i := 6) rfl))) (mvT hZ (hw _ (List.mem_of_getElem? (i := 25) rfl))) (by decide) (backOf (W := 2) (rm_mi l Z a0 hw [] lf40 cc cc h32 n0 Zs36 (fun _ => rfl) (fun q => absurd hs46 q)) hZ (hw _ (List.mem_of_getElem? (i := 25) rfl)) (hw _ (List.mem_of_getElem? (i := 6) rfl)) (by decide) (by decide)) (g := (mkF m 29 #[.val (.int qq), .val (.ref sa), .val (.ref b2), .val (.int lf40), .val (.int (2 : Int32))] [(.int cc), (.int lf40), (.int (2 : Int32)), (.ref b2)])) rfl (by rw [hml]; rfl) (argsL := [(.int lf40), (.int cc)]) (rest := [(.int (2 : Int32)), (.ref b2)]) (lenOf pd_0 rfl) rfl (by show 2 * 0 + _ ≤ _; exact Nat.le_of_eq rfl) (hb hby d4_29) (fun _ _ => ⟨rfl, e32, (by decide : 1 + 0 ≤ _), (by decide : 3 + 0 ≤ _)⟩)
        dsimp only [Pt.U, Pt.locs, Pt.cells, Pt.slots] at X47 l47 y47 z47 st47 hQ47
        subst l47 y47 z47
        obtain ⟨rfl, N47q, hq48⟩ := hQ47
        have N47 := Fr.app N32 N47q
        have oc49 := V32
        obtain ⟨c49, Arc49, qc49, Sc49, Nc49, Hc49, Gc49⟩ := oc49
        have hin50 : ¬ ((2 : Int32) < 0 ∨ c49.slots.size ≤ ((2 : Int32)).toNatClampNeg) := (inb_of Sc49 ⟨by decide, by decide⟩)
        obtain ⟨T50, h50, X50, e50, W50, st50⟩ := stI X47 hx hZ hq48 Arc49 (j := (2 : Int32)) hin50 (g := (mkF m 32 #[.val (.int qq), .val (.ref sa), .val (.ref b2), .val (.int lf40), .val (.int (2 : Int32))] [(.int cc), (.int (2 : Int32)), (.ref b2)])) rfl rfl (hb hby d4_32)
        have V50 : Arv Z h50 b2 k2 .int (3 : Int32) [(.int aa), (.int bb), (.int cc)] (.int (0 : Int32)) := Arv.set Arc49 qc49 Sc49 Nc49 Hc49 Gc49 rfl W50 2 rfl (Nat.le_of_ble_eq_true rfl)
        have A51 : Arv Z h50 sa ka .int (3 : Int32) [(.int aa), (.int bb), (.int cc)] (.int (0 : Int32)) := A33.other W50 ne_sa_b2
        have E52 : Exa Z h50 sa "[I" := E34.wr W50
        have E53 : Exa Z h50 b2 "[I" := E35.wr W50
        have N50 := Fr.snoc X50 N47 ge_b2
        have K50 : Keep h0 h50 [] := K32.wr W50 (Or.inr sz_b2)
        have Zs54 : n0 ≤ h50.size := (Nat.le_trans Zs36 (Keep.of_wr W50).1)
        have oc55 := V50
        obtain ⟨c55, Arc55, qc55, Sc55, Nc55, Hc55, Gc55⟩ := oc55
        have hin56 : ¬ ((2 : Int32) < 0 ∨ c55.slots.size ≤ ((2 : Int32)).toNatClampNeg) := (inb_of Sc55 ⟨by decide, by decide⟩)
        have pre57 := fun (t : State) (k : Steps p.tables e below (T50.setTop (mkF m 39 #[.val (.int qq), .val (.ref sa), .val (.ref b2), .val (.int lf40), .val (.int (2 : Int32))] [(.int (lf40 - cc))])) t) => pre45 t (by
          refine st47 _ ?_
          show Steps p.tables e below (T47.setTop (mkF m 32 #[.val (.int qq), .val (.ref sa), .val (.ref b2), .val (.int lf40), .val (.int (2 : Int32))] [(.int cc), (.int (2 : Int32)), (.ref b2)])) _
          refine st50 _ ?_
          show Steps p.tables e below (T50.setTop (mkF m 33 #[.val (.int qq), .val (.ref sa), .val (.ref b2), .val (.int lf40), .val (.int (2 : Int32))] [])) _
          refine XS.iloadN X50.here hx rfl (hb hby d4_33) rfl ?_
          show Steps p.tables e below (T50.setTop (mkF m 34 #[.val (.int qq), .val (.ref sa), .val (.ref b2), .val (.int lf40), .val (.int (2 : Int32))] [(.int lf40)])) _
          refine XS.aloadN X50.here hx rfl (hb hby d4_34) rfl rfl ?_
          show Steps p.tables e below (T50.setTop (mkF m 35 #[.val (.int qq), .val (.ref sa), .val (.ref b2), .val (.int lf40), .val (.int (2 : Int32))] [(.ref b2), (.int lf40)])) _
          refine XS.iload X50.here hx rfl (hb hby d4_35) rfl ?_
          show Steps p.tables e below (T50.setTop (mkF m 37 #[.val (.int qq), .val (.ref sa), .val (.ref b2), .val (.int lf40), .val (.int (2 : Int32))] [(.int (2 : Int32)), (.ref b2), (.int lf40)])) _
          refine X50.iaload hx (j := (2 : Int32)) (v := (.int cc)) (by rw [e50]; exact Arc55.1) (State.isArrayOf_alike hZ.alike Arc55.2.1) Arc55.2.2 hin56 (Has.at Hc55 hin56 rfl) (g := (mkF m 37 #[.val (.int qq), .val (.ref sa), .val (.ref b2), .val (.int lf40), .val (.int (2 : Int32))] [(.int (2 : Int32)), (.ref b2), (.int lf40)])) rfl rfl (hb hby d4_37) _ ?_
          show Steps p.tables e below (T50.setTop (mkF m 38 #[.val (.int qq), .val (.ref sa), .val (.ref b2), .val (.int lf40), .val (.int (2 : Int32))] [(.int cc), (.int lf40)])) _
          refine XS.isub X50.here hx rfl (hb hby d4_38) rfl ?_
          show Steps p.tables e below (T50.setTop (mkF m 39 #[.val (.int qq), .val (.ref sa), .val (.ref b2), .val (.int lf40), .val (.int (2 : Int32))] [(.int (lf40 - cc))])) _
          exact k)
        obtain ⟨lf58, h_lf58⟩ : ∃ z : Int32, z = (lf40 - cc) := ⟨_, rfl⟩
        have pre59 := fun (t : State) (k : Steps p.tables e below (T50.setTop (mkF m 39 #[.val (.int qq), .val (.ref sa), .val (.ref b2), .val (.int lf40), .val (.int (2 : Int32))] [(.int lf58)])) t) => pre57 t (by rw [← h_lf58]; exact k)
        have oc60 := A51
        obtain ⟨c60, Arc60, qc60, Sc60, Nc60, Hc60, Gc60⟩ := oc60
        have pre61 := fun (t : State) (k : Steps p.tables e below (T50.setTop (mkF m 47 #[.val (.int qq), .val (.ref sa), .val (.ref b2), .val (.int lf58), .val (.int (3 : Int32))] [(.ref b2)])) t) => pre59 t (by
          refine XS.istoreN X50.here hx rfl (hb hby d4_39) rfl (l' := #[.val (.int qq), .val (.ref sa), .val (.ref b2), .val (.int lf58), .val (.int (2 : Int32))]) rfl ?_
          show Steps p.tables e below (T50.setTop (mkF m 40 #[.val (.int qq), .val (.ref sa), .val (.ref b2), .val (.int lf58), .val (.int (2 : Int32))] [])) _
          refine XS.iinc X50.here hx rfl (hb hby d4_40) rfl (l' := #[.val (.int qq), .val (.ref sa), .val (.ref b2), .val (.int lf58), .val (.int (3 : Int32))]) rfl ?_
          show Steps p.tables e below (T50.setTop (mkF m 43 #[.val (.int qq), .val (.ref sa), .val (.ref b2), .val (.int lf58), .val (.int (3 : Int32))] [])) _
          refine XS.goto X50.here hx rfl (pc0 := 43) (pc' := 10) rfl (hb hby d4_43) (by decide) (by decide) ?_
          show Steps p.tables e below (T50.setTop (mkF m 10 #[.val (.int qq), .val (.ref sa), .val (.ref b2), .val (.int lf58), .val (.int (3 : Int32))] [])) _
          refine XS.iload X50.here hx rfl (hb hby d4_10) rfl ?_
          show Steps p.tables e below (T50.setTop (mkF m 12 #[.val (.int qq), .val (.ref sa), .val (.ref b2), .val (.int lf58), .val (.int (3 : Int32))] [(.int (3 : Int32))])) _
          refine XS.aloadN X50.here hx rfl (hb hby d4_12) rfl rfl ?_
          show Steps p.tables e below (T50.setTop (mkF m 13 #[.val (.int qq), .val (.ref sa), .val (.ref b2), .val (.int lf58), .val (.int (3 : Int32))] [(.ref sa), (.int (3 : Int32))])) _
          refine X50.arraylength hx (by rw [e50]; exact Arc60.1) (State.isArrayOf_alike hZ.alike Arc60.2.1) (g := (mkF m 13 #[.val (.int qq), .val (.ref sa), .val (.ref b2), .val (.int lf58), .val (.int (3 : Int32))] [(.ref sa), (.int (3 : Int32))])) rfl rfl (hb hby d4_13) _ ?_
          rw [show c60.slots.size.toInt32 = (3 : Int32) from (len_of Sc60 Nc60)]
          show Steps p.tables e below (T50.setTop (mkF m 14 #[.val (.int qq), .val (.ref sa), .val (.ref b2), .val (.int lf58), .val (.int (3 : Int32))] [(.int (3 : Int32)), (.int (3 : Int32))])) _
          refine XS.icmpYes X50.here hx rfl (pc0 := 14) (pc' := 46) rfl (hb hby d4_14) rfl (flt (by decide : ¬ ((3 : Int32) < (3 : Int32)))).2.1 (by decide) (by decide) ?_
          show Steps p.tables e below (T50.setTop (mkF m 46 #[.val (.int qq), .val (.ref sa), .val (.ref b2), .val (.int lf58), .val (.int (3 : Int32))] [])) _
          refine XS.aloadN X50.here hx rfl (hb hby d4_46) rfl rfl ?_
          show Steps p.tables e below (T50.setTop (mkF m 47 #[.val (.int qq), .val (.ref sa), .val (.ref b2), .val (.int lf58), .val (.int (3 : Int32))] [(.ref b2)])) _
          exact k)
        obtain ⟨fs, hr, hrun, hended, hW, hsame⟩ := X50.leave (v := some (.ref b2)) (hlocks := BodyLoose.notSynchronized Bd) (fun h => by rw [Bd.returns] at h; cases h)
        refine ⟨_, _, pre61 _ ?_, hrun, hended, _, _, rfl, ?_, ⟨_, rfl⟩, hW, hsame.mono (by decide) (by decide)⟩
        · jvm_step X50.here [X50.here.top, hx, (hb hby d4_47), X50.method', Bd.returns, Value.isRef, FieldType.isReference]
          first | (intro acts; rw [hr _ acts rfl rfl rfl]) | rw [hr _ _ rfl rfl rfl]
          exact Steps.refl _
        · show Q_tp Z qq sa ka aa bb cc h0 n0 _ T50.heap _
          rw [e50]
          exact ⟨b2, k2, aa, bb, cc, rfl, N50, K50, ge_b2, sz_b2, (own_tp4 hq ha hb_ hc_ hs10 hs28 hs46 h_lf22 h_lf40), V50⟩
      · obtain ⟨_, _, ⟨T62, L62, k62, n62⟩, -, X62, ⟨Lc62, hQ62, l62, y62, z62⟩, st62⟩ := Jvm.LawKit.callS X32 hx (y := (⟨"java/lang/Math", "min", "(II)I"⟩ : MethodName)) hown (mvT hZ (hw _ (List.mem_of_getElem? (i := 23) rfl))) (mvT hZ (hw _ (List.mem_of_getElem? (i := 24) rfl))) (mvT hZ (hw _ (List.mem_of_getElem? (i := 6) rfl))) (mvT hZ (hw _ (List.mem_of_getElem? (i := 25) rfl))) (by decide) (backOf (W := 2) (rm_mi l Z a0 hw [] lf40 cc lf40 h32 n0 Zs36 (fun q => absurd q hs46) (fun _ => rfl)) hZ (hw _ (List.mem_of_getElem? (i := 25) rfl)) (hw _ (List.mem_of_getElem? (i := 6) rfl)) (by decide) (by decide)) (g := (mkF m 29 #[.val (.int qq), .val (.ref sa), .val (.ref b2), .val (.int lf40), .val (.int (2 : Int32))] [(.int cc), (.int lf40), (.int (2 : Int32)), (.ref b2)])) rfl (by rw [hml]; rfl) (argsL := [(.int lf40), (.int cc)]) (rest := [(.int (2 : Int32)), (.ref b2)]) (lenOf pd_0 rfl) rfl (by show 2 * 0 + _ ≤ _; exact Nat.le_of_eq rfl) (hb hby d4_29) (fun _ _ => ⟨rfl, e32, (by decide : 1 + 0 ≤ _), (by decide : 3 + 0 ≤ _)⟩)
        dsimp only [Pt.U, Pt.locs, Pt.cells, Pt.slots] at X62 l62 y62 z62 st62 hQ62
        subst l62 y62 z62
        obtain ⟨rfl, N62q, hq63⟩ := hQ62
        have N62 := Fr.app N32 N62q
        have oc64 := V32
        obtain ⟨c64, Arc64, qc64, Sc64, Nc64, Hc64, Gc64⟩ := oc64
        have hin65 : ¬ ((2 : Int32) < 0 ∨ c64.slots.size ≤ ((2 : Int32)).toNatClampNeg) := (inb_of Sc64 ⟨by decide, by decide⟩)
        obtain ⟨T65, h65, X65, e65, W65, st65⟩ := stI X62 hx hZ hq63 Arc64 (j := (2 : Int32)) hin65 (g := (mkF m 32 #[.val (.int qq), .val (.ref sa), .val (.ref b2), .val (.int lf40), .val (.int (2 : Int32))] [(.int lf40), (.int (2 : Int32)), (.ref b2)])) rfl rfl (hb hby d4_32)
        have V65 : Arv Z h65 b2 k2 .int (3 : Int32) [(.int aa), (.int bb), (.int lf40)] (.int (0 : Int32)) := Arv.set Arc64 qc64 Sc64 Nc64 Hc64 Gc64 rfl W65 2 rfl (Nat.le_of_ble_eq_true rfl)
        have A66 : Arv Z h65 sa ka .int (3 : Int32) [(.int aa), (.int bb), (.int cc)] (.int (0 : Int32)) := A33.other W65 ne_sa_b2
        have E67 : Exa Z h65 sa "[I" := E34.wr W65
        have E68 : Exa Z h65 b2 "[I" := E35.wr W65
        have N65 := Fr.snoc X65 N62 ge_b2
        have K65 : Keep h0 h65 [] := K32.wr W65 (Or.inr sz_b2)
        have Zs69 : n0 ≤ h65.size := (Nat.le_trans Zs36 (Keep.of_wr W65).1)
        have oc70 := V65
        obtain ⟨c70, Arc70, qc70, Sc70, Nc70, Hc70, Gc70⟩ := oc70
        have hin71 : ¬ ((2 : Int32) < 0 ∨ c70.slots.size ≤ ((2 : Int32)).toNatClampNeg) := (inb_of Sc70 ⟨by decide, by decide⟩)
        have pre72 := fun (t : State) (k : Steps p.tables e below (T65.setTop (mkF m 39 #[.val (.int qq), .val (.ref sa), .val (.ref b2), .val (.int lf40), .val (.int (2 : Int32))] [(.int (lf40 - lf40))])) t) => pre45 t (by
          refine st62 _ ?_
          show Steps p.tables e below (T62.setTop (mkF m 32 #[.val (.int qq), .val (.ref sa), .val (.ref b2), .val (.int lf40), .val (.int (2 : Int32))] [(.int lf40), (.int (2 : Int32)), (.ref b2)])) _
          refine st65 _ ?_
          show Steps p.tables e below (T65.setTop (mkF m 33 #[.val (.int qq), .val (.ref sa), .val (.ref b2), .val (.int lf40), .val (.int (2 : Int32))] [])) _
          refine XS.iloadN X65.here hx rfl (hb hby d4_33) rfl ?_
          show Steps p.tables e below (T65.setTop (mkF m 34 #[.val (.int qq), .val (.ref sa), .val (.ref b2), .val (.int lf40), .val (.int (2 : Int32))] [(.int lf40)])) _
          refine XS.aloadN X65.here hx rfl (hb hby d4_34) rfl rfl ?_
          show Steps p.tables e below (T65.setTop (mkF m 35 #[.val (.int qq), .val (.ref sa), .val (.ref b2), .val (.int lf40), .val (.int (2 : Int32))] [(.ref b2), (.int lf40)])) _
          refine XS.iload X65.here hx rfl (hb hby d4_35) rfl ?_
          show Steps p.tables e below (T65.setTop (mkF m 37 #[.val (.int qq), .val (.ref sa), .val (.ref b2), .val (.int lf40), .val (.int (2 : Int32))] [(.int (2 : Int32)), (.ref b2), (.int lf40)])) _
          refine X65.iaload hx (j := (2 : Int32)) (v := (.int lf40)) (by rw [e65]; exact Arc70.1) (State.isArrayOf_alike hZ.alike Arc70.2.1) Arc70.2.2 hin71 (Has.at Hc70 hin71 rfl) (g := (mkF m 37 #[.val (.int qq), .val (.ref sa), .val (.ref b2), .val (.int lf40), .val (.int (2 : Int32))] [(.int (2 : Int32)), (.ref b2), (.int lf40)])) rfl rfl (hb hby d4_37) _ ?_
          show Steps p.tables e below (T65.setTop (mkF m 38 #[.val (.int qq), .val (.ref sa), .val (.ref b2), .val (.int lf40), .val (.int (2 : Int32))] [(.int lf40), (.int lf40)])) _
          refine XS.isub X65.here hx rfl (hb hby d4_38) rfl ?_
          show Steps p.tables e below (T65.setTop (mkF m 39 #[.val (.int qq), .val (.ref sa), .val (.ref b2), .val (.int lf40), .val (.int (2 : Int32))] [(.int (lf40 - lf40))])) _
          exact k)
        obtain ⟨lf73, h_lf73⟩ : ∃ z : Int32, z = (lf40 - lf40) := ⟨_, rfl⟩
        have pre74 := fun (t : State) (k : Steps p.tables e below (T65.setTop (mkF m 39 #[.val (.int qq), .val (.ref sa), .val (.ref b2), .val (.int lf40), .val (.int (2 : Int32))] [(.int lf73)])) t) => pre72 t (by rw [← h_lf73]; exact k)
        have oc75 := A66
        obtain ⟨c75, Arc75, qc75, Sc75, Nc75, Hc75, Gc75⟩ := oc75
        have pre76 := fun (t : State) (k : Steps p.tables e below (T65.setTop (mkF m 47 #[.val (.int qq), .val (.ref sa), .val (.ref b2), .val (.int lf73), .val (.int (3 : Int32))] [(.ref b2)])) t) => pre74 t (by
          refine XS.istoreN X65.here hx rfl (hb hby d4_39) rfl (l' := #[.val (.int qq), .val (.ref sa), .val (.ref b2), .val (.int lf73), .val (.int (2 : Int32))]) rfl ?_
          show Steps p.tables e below (T65.setTop (mkF m 40 #[.val (.int qq), .val (.ref sa), .val (.ref b2), .val (.int lf73), .val (.int (2 : Int32))] [])) _
          refine XS.iinc X65.here hx rfl (hb hby d4_40) rfl (l' := #[.val (.int qq), .val (.ref sa), .val (.ref b2), .val (.int lf73), .val (.int (3 : Int32))]) rfl ?_
          show Steps p.tables e below (T65.setTop (mkF m 43 #[.val (.int qq), .val (.ref sa), .val (.ref b2), .val (.int lf73), .val (.int (3 : Int32))] [])) _
          refine XS.goto X65.here hx rfl (pc0 := 43) (pc' := 10) rfl (hb hby d4_43) (by decide) (by decide) ?_
          show Steps p.tables e below (T65.setTop (mkF m 10 #[.val (.int qq), .val (.ref sa), .val (.ref b2), .val (.int lf73), .val (.int (3 : Int32))] [])) _
          refine XS.iload X65.here hx rfl (hb hby d4_10) rfl ?_
          show Steps p.tables e below (T65.setTop (mkF m 12 #[.val (.int qq), .val (.ref sa), .val (.ref b2), .val (.int lf73), .val (.int (3 : Int32))] [(.int (3 : Int32))])) _
          refine XS.aloadN X65.here hx rfl (hb hby d4_12) rfl rfl ?_
          show Steps p.tables e below (T65.setTop (mkF m 13 #[.val (.int qq), .val (.ref sa), .val (.ref b2), .val (.int lf73), .val (.int (3 : Int32))] [(.ref sa), (.int (3 : Int32))])) _
          refine X65.arraylength hx (by rw [e65]; exact Arc75.1) (State.isArrayOf_alike hZ.alike Arc75.2.1) (g := (mkF m 13 #[.val (.int qq), .val (.ref sa), .val (.ref b2), .val (.int lf73), .val (.int (3 : Int32))] [(.ref sa), (.int (3 : Int32))])) rfl rfl (hb hby d4_13) _ ?_
          rw [show c75.slots.size.toInt32 = (3 : Int32) from (len_of Sc75 Nc75)]
          show Steps p.tables e below (T65.setTop (mkF m 14 #[.val (.int qq), .val (.ref sa), .val (.ref b2), .val (.int lf73), .val (.int (3 : Int32))] [(.int (3 : Int32)), (.int (3 : Int32))])) _
          refine XS.icmpYes X65.here hx rfl (pc0 := 14) (pc' := 46) rfl (hb hby d4_14) rfl (flt (by decide : ¬ ((3 : Int32) < (3 : Int32)))).2.1 (by decide) (by decide) ?_
          show Steps p.tables e below (T65.setTop (mkF m 46 #[.val (.int qq), .val (.ref sa), .val (.ref b2), .val (.int lf73), .val (.int (3 : Int32))] [])) _
          refine XS.aloadN X65.here hx rfl (hb hby d4_46) rfl rfl ?_
          show Steps p.tables e below (T65.setTop (mkF m 47 #[.val (.int qq), .val (.ref sa), .val (.ref b2), .val (.int lf73), .val (.int (3 : Int32))] [(.ref b2)])) _
          exact k)
        obtain ⟨fs, hr, hrun, hended, hW, hsame⟩ := X65.leave (v := some (.ref b2)) (hlocks := BodyLoose.notSynchronized Bd) (fun h => by rw [Bd.returns] at h; cases h)
        refine ⟨_, _, pre76 _ ?_, hrun, hended, _, _, rfl, ?_, ⟨_, rfl⟩, hW, hsame.mono (by decide) (by decide)⟩
        · jvm_step X65.here [X65.here.top, hx, (hb hby d4_47), X65.method', Bd.returns, Value.isRef, FieldType.isReference]
          first | (intro acts; rw [hr _ acts rfl rfl rfl]) | rw [hr _ _ rfl rfl rfl]
          exact Steps.refl _
        · show Q_tp Z qq sa ka aa bb cc h0 n0 _ T65.heap _
          rw [e65]
          exact ⟨b2, k2, aa, bb, lf40, rfl, N65, K65, ge_b2, sz_b2, (own_tp3 hq ha hb_ hc_ hs10 hs28 hs46 h_lf22 h_lf40), V65⟩
    · obtain ⟨_, _, ⟨T77, L77, k77, n77⟩, -, X77, ⟨Lc77, hQ77, l77, y77, z77⟩, st77⟩ := Jvm.LawKit.callS X14 hx (y := (⟨"java/lang/Math", "min", "(II)I"⟩ : MethodName)) hown (mvT hZ (hw _ (List.mem_of_getElem? (i := 23) rfl))) (mvT hZ (hw _ (List.mem_of_getElem? (i := 24) rfl))) (mvT hZ (hw _ (List.mem_of_getElem? (i := 6) rfl))) (mvT hZ (hw _ (List.mem_of_getElem? (i := 25) rfl))) (by decide) (backOf (W := 2) (rm_mi l Z a0 hw [] lf22 bb lf22 h14 n0 Zs18 (fun q => absurd q hs28) (fun _ => rfl)) hZ (hw _ (List.mem_of_getElem? (i := 25) rfl)) (hw _ (List.mem_of_getElem? (i := 6) rfl)) (by decide) (by decide)) (g := (mkF m 29 #[.val (.int qq), .val (.ref sa), .val (.ref b2), .val (.int lf22), .val (.int (1 : Int32))] [(.int bb), (.int lf22), (.int (1 : Int32)), (.ref b2)])) rfl (by rw [hml]; rfl) (argsL := [(.int lf22), (.int bb)]) (rest := [(.int (1 : Int32)), (.ref b2)]) (lenOf pd_0 rfl) rfl (by show 2 * 0 + _ ≤ _; exact Nat.le_of_eq rfl) (hb hby d4_29) (fun _ _ => ⟨rfl, e14, (by decide : 1 + 0 ≤ _), (by decide : 3 + 0 ≤ _)⟩)
      dsimp only [Pt.U, Pt.locs, Pt.cells, Pt.slots] at X77 l77 y77 z77 st77 hQ77
      subst l77 y77 z77
      obtain ⟨rfl, N77q, hq78⟩ := hQ77
      have N77 := Fr.app N14 N77q
      have oc79 := V14
      obtain ⟨c79, Arc79, qc79, Sc79, Nc79, Hc79, Gc79⟩ := oc79
      have hin80 : ¬ ((1 : Int32) < 0 ∨ c79.slots.size ≤ ((1 : Int32)).toNatClampNeg) := (inb_of Sc79 ⟨by decide, by decide⟩)
      obtain ⟨T80, h80, X80, e80, W80, st80⟩ := stI X77 hx hZ hq78 Arc79 (j := (1 : Int32)) hin80 (g := (mkF m 32 #[.val (.int qq), .val (.ref sa), .val (.ref b2), .val (.int lf22), .val (.int (1 : Int32))] [(.int lf22), (.int (1 : Int32)), (.ref b2)])) rfl rfl (hb hby d4_32)
      have V80 : Arv Z h80 b2 k2 .int (3 : Int32) [(.int aa), (.int lf22), (.int (0 : Int32))] (.int (0 : Int32)) := Arv.set Arc79 qc79 Sc79 Nc79 Hc79 Gc79 rfl W80 1 rfl (Nat.le_of_ble_eq_true rfl)
      have A81 : Arv Z h80 sa ka .int (3 : Int32) [(.int aa), (.int bb), (.int cc)] (.int (0 : Int32)) := A15.other W80 ne_sa_b2
      have E82 : Exa Z h80 sa "[I" := E16.wr W80
      have E83 : Exa Z h80 b2 "[I" := E17.wr W80
      have N80 := Fr.snoc X80 N77 ge_b2
      have K80 : Keep h0 h80 [] := K14.wr W80 (Or.inr sz_b2)
      have Zs84 : n0 ≤ h80.size := (Nat.le_trans Zs18 (Keep.of_wr W80).1)
      have oc85 := V80
      obtain ⟨c85, Arc85, qc85, Sc85, Nc85, Hc85, Gc85⟩ := oc85
      have hin86 : ¬ ((1 : Int32) < 0 ∨ c85.slots.size ≤ ((1 : Int32)).toNatClampNeg) := (inb_of Sc85 ⟨by decide, by decide⟩)
      have pre87 := fun (t : State) (k : Steps p.tables e below (T80.setTop (mkF m 39 #[.val (.int qq), .val (.ref sa), .val (.ref b2), .val (.int lf22), .val (.int (1 : Int32))] [(.int (lf22 - lf22))])) t) => pre27 t (by
        refine st77 _ ?_
        show Steps p.tables e below (T77.setTop (mkF m 32 #[.val (.int qq), .val (.ref sa), .val (.ref b2), .val (.int lf22), .val (.int (1 : Int32))] [(.int lf22), (.int (1 : Int32)), (.ref b2)])) _
        refine st80 _ ?_
        show Steps p.tables e below (T80.setTop (mkF m 33 #[.val (.int qq), .val (.ref sa), .val (.ref b2), .val (.int lf22), .val (.int (1 : Int32))] [])) _
        refine XS.iloadN X80.here hx rfl (hb hby d4_33) rfl ?_
        show Steps p.tables e below (T80.setTop (mkF m 34 #[.val (.int qq), .val (.ref sa), .val (.ref b2), .val (.int lf22), .val (.int (1 : Int32))] [(.int lf22)])) _
        refine XS.aloadN X80.here hx rfl (hb hby d4_34) rfl rfl ?_
        show Steps p.tables e below (T80.setTop (mkF m 35 #[.val (.int qq), .val (.ref sa), .val (.ref b2), .val (.int lf22), .val (.int (1 : Int32))] [(.ref b2), (.int lf22)])) _
        refine XS.iload X80.here hx rfl (hb hby d4_35) rfl ?_
        show Steps p.tables e below (T80.setTop (mkF m 37 #[.val (.int qq), .val (.ref sa), .val (.ref b2), .val (.int lf22), .val (.int (1 : Int32))] [(.int (1 : Int32)), (.ref b2), (.int lf22)])) _
        refine X80.iaload hx (j := (1 : Int32)) (v := (.int lf22)) (by rw [e80]; exact Arc85.1) (State.isArrayOf_alike hZ.alike Arc85.2.1) Arc85.2.2 hin86 (Has.at Hc85 hin86 rfl) (g := (mkF m 37 #[.val (.int qq), .val (.ref sa), .val (.ref b2), .val (.int lf22), .val (.int (1 : Int32))] [(.int (1 : Int32)), (.ref b2), (.int lf22)])) rfl rfl (hb hby d4_37) _ ?_
        show Steps p.tables e below (T80.setTop (mkF m 38 #[.val (.int qq), .val (.ref sa), .val (.ref b2), .val (.int lf22), .val (.int (1 : Int32))] [(.int lf22), (.int lf22)])) _
        refine XS.isub X80.here hx rfl (hb hby d4_38) rfl ?_
        show Steps p.tables e below (T80.setTop (mkF m 39 #[.val (.int qq), .val (.ref sa), .val (.ref b2), .val (.int lf22), .val (.int (1 : Int32))] [(.int (lf22 - lf22))])) _
        exact k)
      obtain ⟨lf88, h_lf88⟩ : ∃ z : Int32, z = (lf22 - lf22) := ⟨_, rfl⟩
      have pre89 := fun (t : State) (k : Steps p.tables e below (T80.setTop (mkF m 39 #[.val (.int qq), .val (.ref sa), .val (.ref b2), .val (.int lf22), .val (.int (1 : Int32))] [(.int lf88)])) t) => pre87 t (by rw [← h_lf88]; exact k)
      have oc90 := A81
      obtain ⟨c90, Arc90, qc90, Sc90, Nc90, Hc90, Gc90⟩ := oc90
      have pre91 := fun (t : State) (k : Steps p.tables e below (T80.setTop (mkF m 47 #[.val (.int qq), .val (.ref sa), .val (.ref b2), .val (.int lf88), .val (.int (2 : Int32))] [(.ref b2)])) t) => pre89 t (by
        refine XS.istoreN X80.here hx rfl (hb hby d4_39) rfl (l' := #[.val (.int qq), .val (.ref sa), .val (.ref b2), .val (.int lf88), .val (.int (1 : Int32))]) rfl ?_
        show Steps p.tables e below (T80.setTop (mkF m 40 #[.val (.int qq), .val (.ref sa), .val (.ref b2), .val (.int lf88), .val (.int (1 : Int32))] [])) _
        refine XS.iinc X80.here hx rfl (hb hby d4_40) rfl (l' := #[.val (.int qq), .val (.ref sa), .val (.ref b2), .val (.int lf88), .val (.int (2 : Int32))]) rfl ?_
        show Steps p.tables e below (T80.setTop (mkF m 43 #[.val (.int qq), .val (.ref sa), .val (.ref b2), .val (.int lf88), .val (.int (2 : Int32))] [])) _
        refine XS.goto X80.here hx rfl (pc0 := 43) (pc' := 10) rfl (hb hby d4_43) (by decide) (by decide) ?_
        show Steps p.tables e below (T80.setTop (mkF m 10 #[.val (.int qq), .val (.ref sa), .val (.ref b2), .val (.int lf88), .val (.int (2 : Int32))] [])) _
        refine XS.iload X80.here hx rfl (hb hby d4_10) rfl ?_
        show Steps p.tables e below (T80.setTop (mkF m 12 #[.val (.int qq), .val (.ref sa), .val (.ref b2), .val (.int lf88), .val (.int (2 : Int32))] [(.int (2 : Int32))])) _
        refine XS.aloadN X80.here hx rfl (hb hby d4_12) rfl rfl ?_
        show Steps p.tables e below (T80.setTop (mkF m 13 #[.val (.int qq), .val (.ref sa), .val (.ref b2), .val (.int lf88), .val (.int (2 : Int32))] [(.ref sa), (.int (2 : Int32))])) _
        refine X80.arraylength hx (by rw [e80]; exact Arc90.1) (State.isArrayOf_alike hZ.alike Arc90.2.1) (g := (mkF m 13 #[.val (.int qq), .val (.ref sa), .val (.ref b2), .val (.int lf88), .val (.int (2 : Int32))] [(.ref sa), (.int (2 : Int32))])) rfl rfl (hb hby d4_13) _ ?_
        rw [show c90.slots.size.toInt32 = (3 : Int32) from (len_of Sc90 Nc90)]
        show Steps p.tables e below (T80.setTop (mkF m 14 #[.val (.int qq), .val (.ref sa), .val (.ref b2), .val (.int lf88), .val (.int (2 : Int32))] [(.int (3 : Int32)), (.int (2 : Int32))])) _
        refine XS.icmpNo X80.here hx rfl (hb hby d4_14) rfl (tlt (by decide : (2 : Int32) < (3 : Int32))).2.1 ?_
        show Steps p.tables e below (T80.setTop (mkF m 17 #[.val (.int qq), .val (.ref sa), .val (.ref b2), .val (.int lf88), .val (.int (2 : Int32))] [])) _
        refine XS.iloadN X80.here hx rfl (hb hby d4_17) rfl ?_
        show Steps p.tables e below (T80.setTop (mkF m 18 #[.val (.int qq), .val (.ref sa), .val (.ref b2), .val (.int lf88), .val (.int (2 : Int32))] [(.int lf88)])) _
        refine XS.ifYes X80.here hx rfl (pc0 := 18) (pc' := 46) rfl (hb hby d4_18) rfl ((if0 _ _).trans (flt (own_self h_lf88)).2.2.2) (by decide) (by decide) ?_
        show Steps p.tables e below (T80.setTop (mkF m 46 #[.val (.int qq), .val (.ref sa), .val (.ref b2), .val (.int lf88), .val (.int (2 : Int32))] [])) _
        refine XS.aloadN X80.here hx rfl (hb hby d4_46) rfl rfl ?_
        show Steps p.tables e below (T80.setTop (mkF m 47 #[.val (.int qq), .val (.ref sa), .val (.ref b2), .val (.int lf88), .val (.int (2 : Int32))] [(.ref b2)])) _
        exact k)
      obtain ⟨fs, hr, hrun, hended, hW, hsame⟩ := X80.leave (v := some (.ref b2)) (hlocks := BodyLoose.notSynchronized Bd) (fun h => by rw [Bd.returns] at h; cases h)
      refine ⟨_, _, pre91 _ ?_, hrun, hended, _, _, rfl, ?_, ⟨_, rfl⟩, hW, hsame.mono (by decide) (by decide)⟩
      · jvm_step X80.here [X80.here.top, hx, (hb hby d4_47), X80.method', Bd.returns, Value.isRef, FieldType.isReference]
        first | (intro acts; rw [hr _ acts rfl rfl rfl]) | rw [hr _ _ rfl rfl rfl]
        exact Steps.refl _
      · show Q_tp Z qq sa ka aa bb cc h0 n0 _ T80.heap _
        rw [e80]
        exact ⟨b2, k2, aa, lf22, (0 : Int32), rfl, N80, K80, ge_b2, sz_b2, (own_tp2 hq ha hb_ hc_ hs10 hs28 h_lf22), V80⟩
  · obtain ⟨_, _, ⟨T92, L92, k92, n92⟩, -, X92, ⟨Lc92, hQ92, l92, y92, z92⟩, st92⟩ := Jvm.LawKit.callS X2 hx (y := (⟨"java/lang/Math", "min", "(II)I"⟩ : MethodName)) hown (mvT hZ (hw _ (List.mem_of_getElem? (i := 23) rfl))) (mvT hZ (hw _ (List.mem_of_getElem? (i := 24) rfl))) (mvT hZ (hw _ (List.mem_of_getElem? (i := 6) rfl))) (mvT hZ (hw _ (List.mem_of_getElem? (i := 25) rfl))) (by decide) (backOf (W := 2) (rm_mi l Z a0 hw [] qq aa qq h2 n0 Zs5 (fun q => absurd q hs10) (fun _ => rfl)) hZ (hw _ (List.mem_of_getElem? (i := 25) rfl)) (hw _ (List.mem_of_getElem? (i := 6) rfl)) (by decide) (by decide)) (g := (mkF m 29 #[.val (.int qq), .val (.ref sa), .val (.ref b2), .val (.int qq), .val (.int (0 : Int32))] [(.int aa), (.int qq), (.int (0 : Int32)), (.ref b2)])) rfl (by rw [hml]; rfl) (argsL := [(.int qq), (.int aa)]) (rest := [(.int (0 : Int32)), (.ref b2)]) (lenOf pd_0 rfl) rfl (by show 2 * 0 + _ ≤ _; exact Nat.le_of_eq rfl) (hb hby d4_29) (fun _ _ => ⟨rfl, e2, (by decide : 1 + 0 ≤ _), (by decide : 3 + 0 ≤ _)⟩)
    dsimp only [Pt.U, Pt.locs, Pt.cells, Pt.slots] at X92 l92 y92 z92 st92 hQ92
    subst l92 y92 z92
    obtain ⟨rfl, N92q, hq93⟩ := hQ92
    have N92 := Fr.app N0 N92q
    have oc94 := V2
    obtain ⟨c94, Arc94, qc94, Sc94, Nc94, Hc94, Gc94⟩ := oc94
    have hin95 : ¬ ((0 : Int32) < 0 ∨ c94.slots.size ≤ ((0 : Int32)).toNatClampNeg) := (inb_of Sc94 ⟨by decide, by decide⟩)
    obtain ⟨T95, h95, X95, e95, W95, st95⟩ := stI X92 hx hZ hq93 Arc94 (j := (0 : Int32)) hin95 (g := (mkF m 32 #[.val (.int qq), .val (.ref sa), .val (.ref b2), .val (.int qq), .val (.int (0 : Int32))] [(.int qq), (.int (0 : Int32)), (.ref b2)])) rfl rfl (hb hby d4_32)
    have V95 : Arv Z h95 b2 k2 .int (3 : Int32) [(.int qq), (.int (0 : Int32)), (.int (0 : Int32))] (.int (0 : Int32)) := Arv.set Arc94 qc94 Sc94 Nc94 Hc94 Gc94 rfl W95 0 rfl (Nat.le_of_ble_eq_true rfl)
    have A96 : Arv Z h95 sa ka .int (3 : Int32) [(.int aa), (.int bb), (.int cc)] (.int (0 : Int32)) := A3.other W95 ne_sa_b2
    have E97 : Exa Z h95 sa "[I" := E4.wr W95
    have E98 : Exa Z h95 b2 "[I" := Ea2.wr W95
    have N95 := Fr.snoc X95 N92 ge_b2
    have K95 : Keep h0 h95 [] := K2.wr W95 (Or.inr sz_b2)
    have Zs99 : n0 ≤ h95.size := (Nat.le_trans Zs5 (Keep.of_wr W95).1)
    have oc100 := V95
    obtain ⟨c100, Arc100, qc100, Sc100, Nc100, Hc100, Gc100⟩ := oc100
    have hin101 : ¬ ((0 : Int32) < 0 ∨ c100.slots.size ≤ ((0 : Int32)).toNatClampNeg) := (inb_of Sc100 ⟨by decide, by decide⟩)
    have pre102 := fun (t : State) (k : Steps p.tables e below (T95.setTop (mkF m 39 #[.val (.int qq), .val (.ref sa), .val (.ref b2), .val (.int qq), .val (.int (0 : Int32))] [(.int (qq - qq))])) t) => pre9 t (by
      refine st92 _ ?_
      show Steps p.tables e below (T92.setTop (mkF m 32 #[.val (.int qq), .val (.ref sa), .val (.ref b2), .val (.int qq), .val (.int (0 : Int32))] [(.int qq), (.int (0 : Int32)), (.ref b2)])) _
      refine st95 _ ?_
      show Steps p.tables e below (T95.setTop (mkF m 33 #[.val (.int qq), .val (.ref sa), .val (.ref b2), .val (.int qq), .val (.int (0 : Int32))] [])) _
      refine XS.iloadN X95.here hx rfl (hb hby d4_33) rfl ?_
      show Steps p.tables e below (T95.setTop (mkF m 34 #[.val (.int qq), .val (.ref sa), .val (.ref b2), .val (.int qq), .val (.int (0 : Int32))] [(.int qq)])) _
      refine XS.aloadN X95.here hx rfl (hb hby d4_34) rfl rfl ?_
      show Steps p.tables e below (T95.setTop (mkF m 35 #[.val (.int qq), .val (.ref sa), .val (.ref b2), .val (.int qq), .val (.int (0 : Int32))] [(.ref b2), (.int qq)])) _
      refine XS.iload X95.here hx rfl (hb hby d4_35) rfl ?_
      show Steps p.tables e below (T95.setTop (mkF m 37 #[.val (.int qq), .val (.ref sa), .val (.ref b2), .val (.int qq), .val (.int (0 : Int32))] [(.int (0 : Int32)), (.ref b2), (.int qq)])) _
      refine X95.iaload hx (j := (0 : Int32)) (v := (.int qq)) (by rw [e95]; exact Arc100.1) (State.isArrayOf_alike hZ.alike Arc100.2.1) Arc100.2.2 hin101 (Has.at Hc100 hin101 rfl) (g := (mkF m 37 #[.val (.int qq), .val (.ref sa), .val (.ref b2), .val (.int qq), .val (.int (0 : Int32))] [(.int (0 : Int32)), (.ref b2), (.int qq)])) rfl rfl (hb hby d4_37) _ ?_
      show Steps p.tables e below (T95.setTop (mkF m 38 #[.val (.int qq), .val (.ref sa), .val (.ref b2), .val (.int qq), .val (.int (0 : Int32))] [(.int qq), (.int qq)])) _
      refine XS.isub X95.here hx rfl (hb hby d4_38) rfl ?_
      show Steps p.tables e below (T95.setTop (mkF m 39 #[.val (.int qq), .val (.ref sa), .val (.ref b2), .val (.int qq), .val (.int (0 : Int32))] [(.int (qq - qq))])) _
      exact k)
    obtain ⟨lf103, h_lf103⟩ : ∃ z : Int32, z = (qq - qq) := ⟨_, rfl⟩
    have pre104 := fun (t : State) (k : Steps p.tables e below (T95.setTop (mkF m 39 #[.val (.int qq), .val (.ref sa), .val (.ref b2), .val (.int qq), .val (.int (0 : Int32))] [(.int lf103)])) t) => pre102 t (by rw [← h_lf103]; exact k)
    have oc105 := A96
    obtain ⟨c105, Arc105, qc105, Sc105, Nc105, Hc105, Gc105⟩ := oc105
    have pre106 := fun (t : State) (k : Steps p.tables e below (T95.setTop (mkF m 47 #[.val (.int qq), .val (.ref sa), .val (.ref b2), .val (.int lf103), .val (.int (1 : Int32))] [(.ref b2)])) t) => pre104 t (by
      refine XS.istoreN X95.here hx rfl (hb hby d4_39) rfl (l' := #[.val (.int qq), .val (.ref sa), .val (.ref b2), .val (.int lf103), .val (.int (0 : Int32))]) rfl ?_
      show Steps p.tables e below (T95.setTop (mkF m 40 #[.val (.int qq), .val (.ref sa), .val (.ref b2), .val (.int lf103), .val (.int (0 : Int32))] [])) _
      refine XS.iinc X95.here hx rfl (hb hby d4_40) rfl (l' := #[.val (.int qq), .val (.ref sa), .val (.ref b2), .val (.int lf103), .val (.int (1 : Int32))]) rfl ?_
      show Steps p.tables e below (T95.setTop (mkF m 43 #[.val (.int qq), .val (.ref sa), .val (.ref b2), .val (.int lf103), .val (.int (1 : Int32))] [])) _
      refine XS.goto X95.here hx rfl (pc0 := 43) (pc' := 10) rfl (hb hby d4_43) (by decide) (by decide) ?_
      show Steps p.tables e below (T95.setTop (mkF m 10 #[.val (.int qq), .val (.ref sa), .val (.ref b2), .val (.int lf103), .val (.int (1 : Int32))] [])) _
      refine XS.iload X95.here hx rfl (hb hby d4_10) rfl ?_
      show Steps p.tables e below (T95.setTop (mkF m 12 #[.val (.int qq), .val (.ref sa), .val (.ref b2), .val (.int lf103), .val (.int (1 : Int32))] [(.int (1 : Int32))])) _
      refine XS.aloadN X95.here hx rfl (hb hby d4_12) rfl rfl ?_
      show Steps p.tables e below (T95.setTop (mkF m 13 #[.val (.int qq), .val (.ref sa), .val (.ref b2), .val (.int lf103), .val (.int (1 : Int32))] [(.ref sa), (.int (1 : Int32))])) _
      refine X95.arraylength hx (by rw [e95]; exact Arc105.1) (State.isArrayOf_alike hZ.alike Arc105.2.1) (g := (mkF m 13 #[.val (.int qq), .val (.ref sa), .val (.ref b2), .val (.int lf103), .val (.int (1 : Int32))] [(.ref sa), (.int (1 : Int32))])) rfl rfl (hb hby d4_13) _ ?_
      rw [show c105.slots.size.toInt32 = (3 : Int32) from (len_of Sc105 Nc105)]
      show Steps p.tables e below (T95.setTop (mkF m 14 #[.val (.int qq), .val (.ref sa), .val (.ref b2), .val (.int lf103), .val (.int (1 : Int32))] [(.int (3 : Int32)), (.int (1 : Int32))])) _
      refine XS.icmpNo X95.here hx rfl (hb hby d4_14) rfl (tlt (by decide : (1 : Int32) < (3 : Int32))).2.1 ?_
      show Steps p.tables e below (T95.setTop (mkF m 17 #[.val (.int qq), .val (.ref sa), .val (.ref b2), .val (.int lf103), .val (.int (1 : Int32))] [])) _
      refine XS.iloadN X95.here hx rfl (hb hby d4_17) rfl ?_
      show Steps p.tables e below (T95.setTop (mkF m 18 #[.val (.int qq), .val (.ref sa), .val (.ref b2), .val (.int lf103), .val (.int (1 : Int32))] [(.int lf103)])) _
      refine XS.ifYes X95.here hx rfl (pc0 := 18) (pc' := 46) rfl (hb hby d4_18) rfl ((if0 _ _).trans (flt (own_self h_lf103)).2.2.2) (by decide) (by decide) ?_
      show Steps p.tables e below (T95.setTop (mkF m 46 #[.val (.int qq), .val (.ref sa), .val (.ref b2), .val (.int lf103), .val (.int (1 : Int32))] [])) _
      refine XS.aloadN X95.here hx rfl (hb hby d4_46) rfl rfl ?_
      show Steps p.tables e below (T95.setTop (mkF m 47 #[.val (.int qq), .val (.ref sa), .val (.ref b2), .val (.int lf103), .val (.int (1 : Int32))] [(.ref b2)])) _
      exact k)
    obtain ⟨fs, hr, hrun, hended, hW, hsame⟩ := X95.leave (v := some (.ref b2)) (hlocks := BodyLoose.notSynchronized Bd) (fun h => by rw [Bd.returns] at h; cases h)
    refine ⟨_, _, pre106 _ ?_, hrun, hended, _, _, rfl, ?_, ⟨_, rfl⟩, hW, hsame.mono (by decide) (by decide)⟩
    · jvm_step X95.here [X95.here.top, hx, (hb hby d4_47), X95.method', Bd.returns, Value.isRef, FieldType.isReference]
      first | (intro acts; rw [hr _ acts rfl rfl rfl]) | rw [hr _ _ rfl rfl rfl]
      exact Steps.refl _
    · show Q_tp Z qq sa ka aa bb cc h0 n0 _ T95.heap _
      rw [e95]
      exact ⟨b2, k2, qq, (0 : Int32), (0 : Int32), rfl, N95, K95, ge_b2, sz_b2, (own_tp1 hq ha hb_ hc_ hs10 ), V95⟩

theorem ef_pr (m : MethodId) (x0 : Int32) (x1 : Addr) : entryFrame m #[(.int x0), (.ref x1)] 8 = mkF m 0 #[.val (.int x0), .val (.ref x1), .unset, .unset, .unset, .unset, .unset, .unset] [] := by first | (simp [entryFrame, mkF, argsToLocals, Value.category]; done) | rfl
def Q_pr (Z : State) (qq : Int32) (sa : Addr) (ka : ClassId) (aa : Int32) (bb : Int32) (cc : Int32) (h0 : Heap) (n0 : Nat) (v : Option Value) (h : Heap) (L : List Loc) : Prop := ∃ xx : Addr, ∃ kk : ClassId, ∃ s0 : Int32, ∃ s1 : Int32, ∃ s2 : Int32, v = some (.ref xx) ∧ Fr n0 L ∧ Keep h0 h [] ∧ n0 ≤ xx ∧ h0.size ≤ xx ∧ own_PR qq aa bb cc s0 s1 s2 ∧ Arv Z h xx kk .int (3 : Int32) [(.int s0), (.int s1), (.int s2)] (.int (0 : Int32))
set_option maxRecDepth 65536 in
set_option maxHeartbeats 40000000 in
theorem rm_pr (l : Launch) (Z : State) (a0 : Array Value) (hw : ∀ d ∈ tables_1, d.before a0 Z = true) (ws : List Jvm.Cond) (qq : Int32) (sa : Addr) (ka : ClassId) (aa : Int32) (bb : Int32) (cc : Int32) (h0 : Heap) (n0 : Nat) (Z0 : n0 ≤ h0.size) (H0_A : Arv Z h0 sa ka .int (3 : Int32) [(.int aa), (.int bb), (.int cc)] (.int (0 : Int32))) (H1_E : Exa Z h0 sa "[I") (hq : (0 : Int32) < qq) (ha : (0 : Int32) < aa) (hb_ : (0 : Int32) < bb) (hc_ : (0 : Int32) < cc) :
    MetFree l (⟨"com/example/legwork/legwork/Allocation", "proRata", "(I[I)[I"⟩ : MethodName) (head1 (Jvm.Cond.code (⟨"com/example/legwork/legwork/Allocation", "proRata", "(I[I)[I"⟩ : MethodName) prog_1_method_5_code 8 (some (.array .int)) :: ws) ({ frames := 1, cells := 1, slots := 3, locals := 14 } : Room)) (fun as_ U_ => as_ = #[(.int qq), (.ref sa)] ∧ Z.Warmed39 U_.vm ∧ U_.heap = h0) (fun _ _ _ _ _ => True) (fun _ U o U' => ∃ v L, o = .returned v ∧ Q_pr Z qq sa ka aa bb cc h0 n0 v U'.heap L ∧ FrameEnd U o U' L ({ frames := 1, cells := 1, slots := 3, locals := 14 } : Room).cells ({ frames := 1, cells := 1, slots := 3, locals := 14 } : Room).slots) := by
  refine MetFree.of_bodySF (plainFor_of_name pn_1) hisR ?_
  intro p e s m args below meth c s₁ Bd hml0 hP hK
  obtain ⟨rfl, hZ, hh⟩ := hP
  have hx := Bd.exec
  have hby := Bd.bytes
  have hml : c.maxLocals = 8 := hml0
  have hown : s.vm.findClass "com/example/legwork/legwork/Allocation" = some m.cls := findClass_of_methodNamed Bd.named
  have hnm := (name_of_methodNamed Bd.named Bd.method).1
  have X0 : Stand p l e ({ frames := 1, cells := 1, slots := 3, locals := 14 } : Room) s m #[(.int qq), (.ref sa)] below meth c s₁ [] 0 0 := Stand.of_body Bd
  have e0 : s₁.heap = h0 := by rw [← hh, Bd.state]; rfl
  have N0 := Fr.nil n0
  have pre0 : ∀ t, Steps p.tables e below (s₁.setTop (mkF m 0 #[.val (.int qq), .val (.ref sa), .unset, .unset, .unset, .unset, .unset, .unset] [])) t → Steps p.tables e below (s₁.setTop (entryFrame m #[(.int qq), (.ref sa)] 8)) t := fun t k => castTop (ef_pr m qq sa) k
  have K0 : Keep h0 h0 [] := Keep.refl h0 []
  have oc1 := H0_A
  obtain ⟨c1, Arc1, qc1, Sc1, Nc1, Hc1, Gc1⟩ := oc1
  have oc2 := H0_A
  obtain ⟨c2, Arc2, qc2, Sc2, Nc2, Hc2, Gc2⟩ := oc2
  have hin3 : ¬ ((0 : Int32) < 0 ∨ c2.slots.size ≤ ((0 : Int32)).toNatClampNeg) := (inb_of Sc2 ⟨by decide, by decide⟩)
  have pre4 := fun (t : State) (k : Steps p.tables e below (s₁.setTop (mkF m 32 #[.val (.int qq), .val (.ref sa), .val (.long (0 : Int64)), .second, .val (.ref sa), .val (.int (3 : Int32)), .val (.int (0 : Int32)), .val (.int aa)] [(.long ((0 : Int64) + (aa.toInt64)))])) t) => pre0 t (by
    refine XS.lconst X0.here hx rfl (hb hby d7_0) ?_
    show Steps p.tables e below (s₁.setTop (mkF m 1 #[.val (.int qq), .val (.ref sa), .unset, .unset, .unset, .unset, .unset, .unset] [(.long (0 : Int64))])) _
    refine XS.lstoreN X0.here hx rfl (hb hby d7_1) rfl (l' := #[.val (.int qq), .val (.ref sa), .val (.long (0 : Int64)), .second, .unset, .unset, .unset, .unset]) rfl ?_
    show Steps p.tables e below (s₁.setTop (mkF m 2 #[.val (.int qq), .val (.ref sa), .val (.long (0 : Int64)), .second, .unset, .unset, .unset, .unset] [])) _
    refine XS.aloadN X0.here hx rfl (hb hby d7_2) rfl rfl ?_
    show Steps p.tables e below (s₁.setTop (mkF m 3 #[.val (.int qq), .val (.ref sa), .val (.long (0 : Int64)), .second, .unset, .unset, .unset, .unset] [(.ref sa)])) _
    refine XS.astore X0.here hx rfl (hb hby d7_3) rfl rfl (l' := #[.val (.int qq), .val (.ref sa), .val (.long (0 : Int64)), .second, .val (.ref sa), .unset, .unset, .unset]) rfl ?_
    show Steps p.tables e below (s₁.setTop (mkF m 5 #[.val (.int qq), .val (.ref sa), .val (.long (0 : Int64)), .second, .val (.ref sa), .unset, .unset, .unset] [])) _
    refine XS.aload X0.here hx rfl (hb hby d7_5) rfl rfl ?_
    show Steps p.tables e below (s₁.setTop (mkF m 7 #[.val (.int qq), .val (.ref sa), .val (.long (0 : Int64)), .second, .val (.ref sa), .unset, .unset, .unset] [(.ref sa)])) _
    refine X0.arraylength hx (by rw [e0]; exact Arc1.1) (State.isArrayOf_alike hZ.alike Arc1.2.1) (g := (mkF m 7 #[.val (.int qq), .val (.ref sa), .val (.long (0 : Int64)), .second, .val (.ref sa), .unset, .unset, .unset] [(.ref sa)])) rfl rfl (hb hby d7_7) _ ?_
    rw [show c1.slots.size.toInt32 = (3 : Int32) from (len_of Sc1 Nc1)]
    show Steps p.tables e below (s₁.setTop (mkF m 8 #[.val (.int qq), .val (.ref sa), .val (.long (0 : Int64)), .second, .val (.ref sa), .unset, .unset, .unset] [(.int (3 : Int32))])) _
    refine XS.istore X0.here hx rfl (hb hby d7_8) rfl (l' := #[.val (.int qq), .val (.ref sa), .val (.long (0 : Int64)), .second, .val (.ref sa), .val (.int (3 : Int32)), .unset, .unset]) rfl ?_
    show Steps p.tables e below (s₁.setTop (mkF m 10 #[.val (.int qq), .val (.ref sa), .val (.long (0 : Int64)), .second, .val (.ref sa), .val (.int (3 : Int32)), .unset, .unset] [])) _
    refine XS.iconst X0.here hx rfl (hb hby d7_10) ?_
    show Steps p.tables e below (s₁.setTop (mkF m 11 #[.val (.int qq), .val (.ref sa), .val (.long (0 : Int64)), .second, .val (.ref sa), .val (.int (3 : Int32)), .unset, .unset] [(.int (0 : Int32))])) _
    refine XS.istore X0.here hx rfl (hb hby d7_11) rfl (l' := #[.val (.int qq), .val (.ref sa), .val (.long (0 : Int64)), .second, .val (.ref sa), .val (.int (3 : Int32)), .val (.int (0 : Int32)), .unset]) rfl ?_
    show Steps p.tables e below (s₁.setTop (mkF m 13 #[.val (.int qq), .val (.ref sa), .val (.long (0 : Int64)), .second, .val (.ref sa), .val (.int (3 : Int32)), .val (.int (0 : Int32)), .unset] [])) _
    refine XS.iload X0.here hx rfl (hb hby d7_13) rfl ?_
    show Steps p.tables e below (s₁.setTop (mkF m 15 #[.val (.int qq), .val (.ref sa), .val (.long (0 : Int64)), .second, .val (.ref sa), .val (.int (3 : Int32)), .val (.int (0 : Int32)), .unset] [(.int (0 : Int32))])) _
    refine XS.iload X0.here hx rfl (hb hby d7_15) rfl ?_
    show Steps p.tables e below (s₁.setTop (mkF m 17 #[.val (.int qq), .val (.ref sa), .val (.long (0 : Int64)), .second, .val (.ref sa), .val (.int (3 : Int32)), .val (.int (0 : Int32)), .unset] [(.int (3 : Int32)), (.int (0 : Int32))])) _
    refine XS.icmpNo X0.here hx rfl (hb hby d7_17) rfl (tlt (by decide : (0 : Int32) < (3 : Int32))).2.1 ?_
    show Steps p.tables e below (s₁.setTop (mkF m 20 #[.val (.int qq), .val (.ref sa), .val (.long (0 : Int64)), .second, .val (.ref sa), .val (.int (3 : Int32)), .val (.int (0 : Int32)), .unset] [])) _
    refine XS.aload X0.here hx rfl (hb hby d7_20) rfl rfl ?_
    show Steps p.tables e below (s₁.setTop (mkF m 22 #[.val (.int qq), .val (.ref sa), .val (.long (0 : Int64)), .second, .val (.ref sa), .val (.int (3 : Int32)), .val (.int (0 : Int32)), .unset] [(.ref sa)])) _
    refine XS.iload X0.here hx rfl (hb hby d7_22) rfl ?_
    show Steps p.tables e below (s₁.setTop (mkF m 24 #[.val (.int qq), .val (.ref sa), .val (.long (0 : Int64)), .second, .val (.ref sa), .val (.int (3 : Int32)), .val (.int (0 : Int32)), .unset] [(.int (0 : Int32)), (.ref sa)])) _
    refine X0.iaload hx (j := (0 : Int32)) (v := (.int aa)) (by rw [e0]; exact Arc2.1) (State.isArrayOf_alike hZ.alike Arc2.2.1) Arc2.2.2 hin3 (Has.at Hc2 hin3 rfl) (g := (mkF m 24 #[.val (.int qq), .val (.ref sa), .val (.long (0 : Int64)), .second, .val (.ref sa), .val (.int (3 : Int32)), .val (.int (0 : Int32)), .unset] [(.int (0 : Int32)), (.ref sa)])) rfl rfl (hb hby d7_24) _ ?_
    show Steps p.tables e below (s₁.setTop (mkF m 25 #[.val (.int qq), .val (.ref sa), .val (.long (0 : Int64)), .second, .val (.ref sa), .val (.int (3 : Int32)), .val (.int (0 : Int32)), .unset] [(.int aa)])) _
    refine XS.istore X0.here hx rfl (hb hby d7_25) rfl (l' := #[.val (.int qq), .val (.ref sa), .val (.long (0 : Int64)), .second, .val (.ref sa), .val (.int (3 : Int32)), .val (.int (0 : Int32)), .val (.int aa)]) rfl ?_
    show Steps p.tables e below (s₁.setTop (mkF m 27 #[.val (.int qq), .val (.ref sa), .val (.long (0 : Int64)), .second, .val (.ref sa), .val (.int (3 : Int32)), .val (.int (0 : Int32)), .val (.int aa)] [])) _
    refine XS.lloadN X0.here hx rfl (hb hby d7_27) rfl ?_
    show Steps p.tables e below (s₁.setTop (mkF m 28 #[.val (.int qq), .val (.ref sa), .val (.long (0 : Int64)), .second, .val (.ref sa), .val (.int (3 : Int32)), .val (.int (0 : Int32)), .val (.int aa)] [(.long (0 : Int64))])) _
    refine XS.iload X0.here hx rfl (hb hby d7_28) rfl ?_
    show Steps p.tables e below (s₁.setTop (mkF m 30 #[.val (.int qq), .val (.ref sa), .val (.long (0 : Int64)), .second, .val (.ref sa), .val (.int (3 : Int32)), .val (.int (0 : Int32)), .val (.int aa)] [(.int aa), (.long (0 : Int64))])) _
    refine XS.i2l X0.here hx rfl (hb hby d7_30) rfl ?_
    show Steps p.tables e below (s₁.setTop (mkF m 31 #[.val (.int qq), .val (.ref sa), .val (.long (0 : Int64)), .second, .val (.ref sa), .val (.int (3 : Int32)), .val (.int (0 : Int32)), .val (.int aa)] [(.long (aa.toInt64)), (.long (0 : Int64))])) _
    refine XS.ladd X0.here hx rfl (hb hby d7_31) rfl ?_
    show Steps p.tables e below (s₁.setTop (mkF m 32 #[.val (.int qq), .val (.ref sa), .val (.long (0 : Int64)), .second, .val (.ref sa), .val (.int (3 : Int32)), .val (.int (0 : Int32)), .val (.int aa)] [(.long ((0 : Int64) + (aa.toInt64)))])) _
    exact k)
  obtain ⟨tt5, h_tt5⟩ : ∃ z : Int64, z = ((0 : Int64) + (aa.toInt64)) := ⟨_, rfl⟩
  have pre6 := fun (t : State) (k : Steps p.tables e below (s₁.setTop (mkF m 32 #[.val (.int qq), .val (.ref sa), .val (.long (0 : Int64)), .second, .val (.ref sa), .val (.int (3 : Int32)), .val (.int (0 : Int32)), .val (.int aa)] [(.long tt5)])) t) => pre4 t (by rw [← h_tt5]; exact k)
  have oc7 := H0_A
  obtain ⟨c7, Arc7, qc7, Sc7, Nc7, Hc7, Gc7⟩ := oc7
  have hin8 : ¬ ((1 : Int32) < 0 ∨ c7.slots.size ≤ ((1 : Int32)).toNatClampNeg) := (inb_of Sc7 ⟨by decide, by decide⟩)
  have pre9 := fun (t : State) (k : Steps p.tables e below (s₁.setTop (mkF m 32 #[.val (.int qq), .val (.ref sa), .val (.long tt5), .second, .val (.ref sa), .val (.int (3 : Int32)), .val (.int (1 : Int32)), .val (.int bb)] [(.long (tt5 + (bb.toInt64)))])) t) => pre6 t (by
    refine XS.lstoreN X0.here hx rfl (hb hby d7_32) rfl (l' := #[.val (.int qq), .val (.ref sa), .val (.long tt5), .second, .val (.ref sa), .val (.int (3 : Int32)), .val (.int (0 : Int32)), .val (.int aa)]) rfl ?_
    show Steps p.tables e below (s₁.setTop (mkF m 33 #[.val (.int qq), .val (.ref sa), .val (.long tt5), .second, .val (.ref sa), .val (.int (3 : Int32)), .val (.int (0 : Int32)), .val (.int aa)] [])) _
    refine XS.iinc X0.here hx rfl (hb hby d7_33) rfl (l' := #[.val (.int qq), .val (.ref sa), .val (.long tt5), .second, .val (.ref sa), .val (.int (3 : Int32)), .val (.int (1 : Int32)), .val (.int aa)]) rfl ?_
    show Steps p.tables e below (s₁.setTop (mkF m 36 #[.val (.int qq), .val (.ref sa), .val (.long tt5), .second, .val (.ref sa), .val (.int (3 : Int32)), .val (.int (1 : Int32)), .val (.int aa)] [])) _
    refine XS.goto X0.here hx rfl (pc0 := 36) (pc' := 13) rfl (hb hby d7_36) (by decide) (by decide) ?_
    show Steps p.tables e below (s₁.setTop (mkF m 13 #[.val (.int qq), .val (.ref sa), .val (.long tt5), .second, .val (.ref sa), .val (.int (3 : Int32)), .val (.int (1 : Int32)), .val (.int aa)] [])) _
    refine XS.iload X0.here hx rfl (hb hby d7_13) rfl ?_
    show Steps p.tables e below (s₁.setTop (mkF m 15 #[.val (.int qq), .val (.ref sa), .val (.long tt5), .second, .val (.ref sa), .val (.int (3 : Int32)), .val (.int (1 : Int32)), .val (.int aa)] [(.int (1 : Int32))])) _
    refine XS.iload X0.here hx rfl (hb hby d7_15) rfl ?_
    show Steps p.tables e below (s₁.setTop (mkF m 17 #[.val (.int qq), .val (.ref sa), .val (.long tt5), .second, .val (.ref sa), .val (.int (3 : Int32)), .val (.int (1 : Int32)), .val (.int aa)] [(.int (3 : Int32)), (.int (1 : Int32))])) _
    refine XS.icmpNo X0.here hx rfl (hb hby d7_17) rfl (tlt (by decide : (1 : Int32) < (3 : Int32))).2.1 ?_
    show Steps p.tables e below (s₁.setTop (mkF m 20 #[.val (.int qq), .val (.ref sa), .val (.long tt5), .second, .val (.ref sa), .val (.int (3 : Int32)), .val (.int (1 : Int32)), .val (.int aa)] [])) _
    refine XS.aload X0.here hx rfl (hb hby d7_20) rfl rfl ?_
    show Steps p.tables e below (s₁.setTop (mkF m 22 #[.val (.int qq), .val (.ref sa), .val (.long tt5), .second, .val (.ref sa), .val (.int (3 : Int32)), .val (.int (1 : Int32)), .val (.int aa)] [(.ref sa)])) _
    refine XS.iload X0.here hx rfl (hb hby d7_22) rfl ?_
    show Steps p.tables e below (s₁.setTop (mkF m 24 #[.val (.int qq), .val (.ref sa), .val (.long tt5), .second, .val (.ref sa), .val (.int (3 : Int32)), .val (.int (1 : Int32)), .val (.int aa)] [(.int (1 : Int32)), (.ref sa)])) _
    refine X0.iaload hx (j := (1 : Int32)) (v := (.int bb)) (by rw [e0]; exact Arc7.1) (State.isArrayOf_alike hZ.alike Arc7.2.1) Arc7.2.2 hin8 (Has.at Hc7 hin8 rfl) (g := (mkF m 24 #[.val (.int qq), .val (.ref sa), .val (.long tt5), .second, .val (.ref sa), .val (.int (3 : Int32)), .val (.int (1 : Int32)), .val (.int aa)] [(.int (1 : Int32)), (.ref sa)])) rfl rfl (hb hby d7_24) _ ?_
    show Steps p.tables e below (s₁.setTop (mkF m 25 #[.val (.int qq), .val (.ref sa), .val (.long tt5), .second, .val (.ref sa), .val (.int (3 : Int32)), .val (.int (1 : Int32)), .val (.int aa)] [(.int bb)])) _
    refine XS.istore X0.here hx rfl (hb hby d7_25) rfl (l' := #[.val (.int qq), .val (.ref sa), .val (.long tt5), .second, .val (.ref sa), .val (.int (3 : Int32)), .val (.int (1 : Int32)), .val (.int bb)]) rfl ?_
    show Steps p.tables e below (s₁.setTop (mkF m 27 #[.val (.int qq), .val (.ref sa), .val (.long tt5), .second, .val (.ref sa), .val (.int (3 : Int32)), .val (.int (1 : Int32)), .val (.int bb)] [])) _
    refine XS.lloadN X0.here hx rfl (hb hby d7_27) rfl ?_
    show Steps p.tables e below (s₁.setTop (mkF m 28 #[.val (.int qq), .val (.ref sa), .val (.long tt5), .second, .val (.ref sa), .val (.int (3 : Int32)), .val (.int (1 : Int32)), .val (.int bb)] [(.long tt5)])) _
    refine XS.iload X0.here hx rfl (hb hby d7_28) rfl ?_
    show Steps p.tables e below (s₁.setTop (mkF m 30 #[.val (.int qq), .val (.ref sa), .val (.long tt5), .second, .val (.ref sa), .val (.int (3 : Int32)), .val (.int (1 : Int32)), .val (.int bb)] [(.int bb), (.long tt5)])) _
    refine XS.i2l X0.here hx rfl (hb hby d7_30) rfl ?_
    show Steps p.tables e below (s₁.setTop (mkF m 31 #[.val (.int qq), .val (.ref sa), .val (.long tt5), .second, .val (.ref sa), .val (.int (3 : Int32)), .val (.int (1 : Int32)), .val (.int bb)] [(.long (bb.toInt64)), (.long tt5)])) _
    refine XS.ladd X0.here hx rfl (hb hby d7_31) rfl ?_
    show Steps p.tables e below (s₁.setTop (mkF m 32 #[.val (.int qq), .val (.ref sa), .val (.long tt5), .second, .val (.ref sa), .val (.int (3 : Int32)), .val (.int (1 : Int32)), .val (.int bb)] [(.long (tt5 + (bb.toInt64)))])) _
    exact k)
  obtain ⟨tt10, h_tt10⟩ : ∃ z : Int64, z = (tt5 + (bb.toInt64)) := ⟨_, rfl⟩
  have pre11 := fun (t : State) (k : Steps p.tables e below (s₁.setTop (mkF m 32 #[.val (.int qq), .val (.ref sa), .val (.long tt5), .second, .val (.ref sa), .val (.int (3 : Int32)), .val (.int (1 : Int32)), .val (.int bb)] [(.long tt10)])) t) => pre9 t (by rw [← h_tt10]; exact k)
  have oc12 := H0_A
  obtain ⟨c12, Arc12, qc12, Sc12, Nc12, Hc12, Gc12⟩ := oc12
  have hin13 : ¬ ((2 : Int32) < 0 ∨ c12.slots.size ≤ ((2 : Int32)).toNatClampNeg) := (inb_of Sc12 ⟨by decide, by decide⟩)
  have pre14 := fun (t : State) (k : Steps p.tables e below (s₁.setTop (mkF m 32 #[.val (.int qq), .val (.ref sa), .val (.long tt10), .second, .val (.ref sa), .val (.int (3 : Int32)), .val (.int (2 : Int32)), .val (.int cc)] [(.long (tt10 + (cc.toInt64)))])) t) => pre11 t (by
    refine XS.lstoreN X0.here hx rfl (hb hby d7_32) rfl (l' := #[.val (.int qq), .val (.ref sa), .val (.long tt10), .second, .val (.ref sa), .val (.int (3 : Int32)), .val (.int (1 : Int32)), .val (.int bb)]) rfl ?_
    show Steps p.tables e below (s₁.setTop (mkF m 33 #[.val (.int qq), .val (.ref sa), .val (.long tt10), .second, .val (.ref sa), .val (.int (3 : Int32)), .val (.int (1 : Int32)), .val (.int bb)] [])) _
    refine XS.iinc X0.here hx rfl (hb hby d7_33) rfl (l' := #[.val (.int qq), .val (.ref sa), .val (.long tt10), .second, .val (.ref sa), .val (.int (3 : Int32)), .val (.int (2 : Int32)), .val (.int bb)]) rfl ?_
    show Steps p.tables e below (s₁.setTop (mkF m 36 #[.val (.int qq), .val (.ref sa), .val (.long tt10), .second, .val (.ref sa), .val (.int (3 : Int32)), .val (.int (2 : Int32)), .val (.int bb)] [])) _
    refine XS.goto X0.here hx rfl (pc0 := 36) (pc' := 13) rfl (hb hby d7_36) (by decide) (by decide) ?_
    show Steps p.tables e below (s₁.setTop (mkF m 13 #[.val (.int qq), .val (.ref sa), .val (.long tt10), .second, .val (.ref sa), .val (.int (3 : Int32)), .val (.int (2 : Int32)), .val (.int bb)] [])) _
    refine XS.iload X0.here hx rfl (hb hby d7_13) rfl ?_
    show Steps p.tables e below (s₁.setTop (mkF m 15 #[.val (.int qq), .val (.ref sa), .val (.long tt10), .second, .val (.ref sa), .val (.int (3 : Int32)), .val (.int (2 : Int32)), .val (.int bb)] [(.int (2 : Int32))])) _
    refine XS.iload X0.here hx rfl (hb hby d7_15) rfl ?_
    show Steps p.tables e below (s₁.setTop (mkF m 17 #[.val (.int qq), .val (.ref sa), .val (.long tt10), .second, .val (.ref sa), .val (.int (3 : Int32)), .val (.int (2 : Int32)), .val (.int bb)] [(.int (3 : Int32)), (.int (2 : Int32))])) _
    refine XS.icmpNo X0.here hx rfl (hb hby d7_17) rfl (tlt (by decide : (2 : Int32) < (3 : Int32))).2.1 ?_
    show Steps p.tables e below (s₁.setTop (mkF m 20 #[.val (.int qq), .val (.ref sa), .val (.long tt10), .second, .val (.ref sa), .val (.int (3 : Int32)), .val (.int (2 : Int32)), .val (.int bb)] [])) _
    refine XS.aload X0.here hx rfl (hb hby d7_20) rfl rfl ?_
    show Steps p.tables e below (s₁.setTop (mkF m 22 #[.val (.int qq), .val (.ref sa), .val (.long tt10), .second, .val (.ref sa), .val (.int (3 : Int32)), .val (.int (2 : Int32)), .val (.int bb)] [(.ref sa)])) _
    refine XS.iload X0.here hx rfl (hb hby d7_22) rfl ?_
    show Steps p.tables e below (s₁.setTop (mkF m 24 #[.val (.int qq), .val (.ref sa), .val (.long tt10), .second, .val (.ref sa), .val (.int (3 : Int32)), .val (.int (2 : Int32)), .val (.int bb)] [(.int (2 : Int32)), (.ref sa)])) _
    refine X0.iaload hx (j := (2 : Int32)) (v := (.int cc)) (by rw [e0]; exact Arc12.1) (State.isArrayOf_alike hZ.alike Arc12.2.1) Arc12.2.2 hin13 (Has.at Hc12 hin13 rfl) (g := (mkF m 24 #[.val (.int qq), .val (.ref sa), .val (.long tt10), .second, .val (.ref sa), .val (.int (3 : Int32)), .val (.int (2 : Int32)), .val (.int bb)] [(.int (2 : Int32)), (.ref sa)])) rfl rfl (hb hby d7_24) _ ?_
    show Steps p.tables e below (s₁.setTop (mkF m 25 #[.val (.int qq), .val (.ref sa), .val (.long tt10), .second, .val (.ref sa), .val (.int (3 : Int32)), .val (.int (2 : Int32)), .val (.int bb)] [(.int cc)])) _
    refine XS.istore X0.here hx rfl (hb hby d7_25) rfl (l' := #[.val (.int qq), .val (.ref sa), .val (.long tt10), .second, .val (.ref sa), .val (.int (3 : Int32)), .val (.int (2 : Int32)), .val (.int cc)]) rfl ?_
    show Steps p.tables e below (s₁.setTop (mkF m 27 #[.val (.int qq), .val (.ref sa), .val (.long tt10), .second, .val (.ref sa), .val (.int (3 : Int32)), .val (.int (2 : Int32)), .val (.int cc)] [])) _
    refine XS.lloadN X0.here hx rfl (hb hby d7_27) rfl ?_
    show Steps p.tables e below (s₁.setTop (mkF m 28 #[.val (.int qq), .val (.ref sa), .val (.long tt10), .second, .val (.ref sa), .val (.int (3 : Int32)), .val (.int (2 : Int32)), .val (.int cc)] [(.long tt10)])) _
    refine XS.iload X0.here hx rfl (hb hby d7_28) rfl ?_
    show Steps p.tables e below (s₁.setTop (mkF m 30 #[.val (.int qq), .val (.ref sa), .val (.long tt10), .second, .val (.ref sa), .val (.int (3 : Int32)), .val (.int (2 : Int32)), .val (.int cc)] [(.int cc), (.long tt10)])) _
    refine XS.i2l X0.here hx rfl (hb hby d7_30) rfl ?_
    show Steps p.tables e below (s₁.setTop (mkF m 31 #[.val (.int qq), .val (.ref sa), .val (.long tt10), .second, .val (.ref sa), .val (.int (3 : Int32)), .val (.int (2 : Int32)), .val (.int cc)] [(.long (cc.toInt64)), (.long tt10)])) _
    refine XS.ladd X0.here hx rfl (hb hby d7_31) rfl ?_
    show Steps p.tables e below (s₁.setTop (mkF m 32 #[.val (.int qq), .val (.ref sa), .val (.long tt10), .second, .val (.ref sa), .val (.int (3 : Int32)), .val (.int (2 : Int32)), .val (.int cc)] [(.long (tt10 + (cc.toInt64)))])) _
    exact k)
  obtain ⟨tt15, h_tt15⟩ : ∃ z : Int64, z = (tt10 + (cc.toInt64)) := ⟨_, rfl⟩
  have pre16 := fun (t : State) (k : Steps p.tables e below (s₁.setTop (mkF m 32 #[.val (.int qq), .val (.ref sa), .val (.long tt10), .second, .val (.ref sa), .val (.int (3 : Int32)), .val (.int (2 : Int32)), .val (.int cc)] [(.long tt15)])) t) => pre14 t (by rw [← h_tt15]; exact k)
  have pre17 := fun (t : State) (k : Steps p.tables e below (s₁.setTop (mkF m 43 #[.val (.int qq), .val (.ref sa), .val (.long tt15), .second, .val (.ref sa), .val (.int (3 : Int32)), .val (.int (3 : Int32)), .val (.int cc)] [(.int (lcmpW (qq.toInt64) tt15))])) t) => pre16 t (by
    refine XS.lstoreN X0.here hx rfl (hb hby d7_32) rfl (l' := #[.val (.int qq), .val (.ref sa), .val (.long tt15), .second, .val (.ref sa), .val (.int (3 : Int32)), .val (.int (2 : Int32)), .val (.int cc)]) rfl ?_
    show Steps p.tables e below (s₁.setTop (mkF m 33 #[.val (.int qq), .val (.ref sa), .val (.long tt15), .second, .val (.ref sa), .val (.int (3 : Int32)), .val (.int (2 : Int32)), .val (.int cc)] [])) _
    refine XS.iinc X0.here hx rfl (hb hby d7_33) rfl (l' := #[.val (.int qq), .val (.ref sa), .val (.long tt15), .second, .val (.ref sa), .val (.int (3 : Int32)), .val (.int (3 : Int32)), .val (.int cc)]) rfl ?_
    show Steps p.tables e below (s₁.setTop (mkF m 36 #[.val (.int qq), .val (.ref sa), .val (.long tt15), .second, .val (.ref sa), .val (.int (3 : Int32)), .val (.int (3 : Int32)), .val (.int cc)] [])) _
    refine XS.goto X0.here hx rfl (pc0 := 36) (pc' := 13) rfl (hb hby d7_36) (by decide) (by decide) ?_
    show Steps p.tables e below (s₁.setTop (mkF m 13 #[.val (.int qq), .val (.ref sa), .val (.long tt15), .second, .val (.ref sa), .val (.int (3 : Int32)), .val (.int (3 : Int32)), .val (.int cc)] [])) _
    refine XS.iload X0.here hx rfl (hb hby d7_13) rfl ?_
    show Steps p.tables e below (s₁.setTop (mkF m 15 #[.val (.int qq), .val (.ref sa), .val (.long tt15), .second, .val (.ref sa), .val (.int (3 : Int32)), .val (.int (3 : Int32)), .val (.int cc)] [(.int (3 : Int32))])) _
    refine XS.iload X0.here hx rfl (hb hby d7_15) rfl ?_
    show Steps p.tables e below (s₁.setTop (mkF m 17 #[.val (.int qq), .val (.ref sa), .val (.long tt15), .second, .val (.ref sa), .val (.int (3 : Int32)), .val (.int (3 : Int32)), .val (.int cc)] [(.int (3 : Int32)), (.int (3 : Int32))])) _
    refine XS.icmpYes X0.here hx rfl (pc0 := 17) (pc' := 39) rfl (hb hby d7_17) rfl (flt (by decide : ¬ ((3 : Int32) < (3 : Int32)))).2.1 (by decide) (by decide) ?_
    show Steps p.tables e below (s₁.setTop (mkF m 39 #[.val (.int qq), .val (.ref sa), .val (.long tt15), .second, .val (.ref sa), .val (.int (3 : Int32)), .val (.int (3 : Int32)), .val (.int cc)] [])) _
    refine XS.iloadN X0.here hx rfl (hb hby d7_39) rfl ?_
    show Steps p.tables e below (s₁.setTop (mkF m 40 #[.val (.int qq), .val (.ref sa), .val (.long tt15), .second, .val (.ref sa), .val (.int (3 : Int32)), .val (.int (3 : Int32)), .val (.int cc)] [(.int qq)])) _
    refine XS.i2l X0.here hx rfl (hb hby d7_40) rfl ?_
    show Steps p.tables e below (s₁.setTop (mkF m 41 #[.val (.int qq), .val (.ref sa), .val (.long tt15), .second, .val (.ref sa), .val (.int (3 : Int32)), .val (.int (3 : Int32)), .val (.int cc)] [(.long (qq.toInt64))])) _
    refine XS.lloadN X0.here hx rfl (hb hby d7_41) rfl ?_
    show Steps p.tables e below (s₁.setTop (mkF m 42 #[.val (.int qq), .val (.ref sa), .val (.long tt15), .second, .val (.ref sa), .val (.int (3 : Int32)), .val (.int (3 : Int32)), .val (.int cc)] [(.long tt15), (.long (qq.toInt64))])) _
    refine XS.lcmp X0.here hx rfl (hb hby d7_42) rfl ?_
    show Steps p.tables e below (s₁.setTop (mkF m 43 #[.val (.int qq), .val (.ref sa), .val (.long tt15), .second, .val (.ref sa), .val (.int (3 : Int32)), .val (.int (3 : Int32)), .val (.int cc)] [(.int (lcmpW (qq.toInt64) tt15))])) _
    exact k)
  by_cases hc18 : (lcmpW (qq.toInt64) tt15) < (0 : Int32)
  · have oc19 := H0_A
    obtain ⟨c19, Arc19, qc19, Sc19, Nc19, Hc19, Gc19⟩ := oc19
    obtain ⟨T20, h20, k20, X20, e20, E20, A20, Ea20, st20⟩ := newPE X0 hx hZ (hw _ (List.mem_of_getElem? (i := 8) rfl)) e0 (g := (mkF m 56 #[.val (.int qq), .val (.ref sa), .val (.long tt15), .second, .val (.ref sa), .val (.int (3 : Int32)), .val (.int (3 : Int32)), .val (.int cc)] [(.int (3 : Int32))])) rfl (hb hby d7_56) rfl (by decide) (cap := 3) (by decide) (by decide) (by decide) (by decide) (ad := "[I") own_nm_int
    obtain ⟨b20, g20⟩ : ∃ z, z = h0.size := ⟨_, rfl⟩
    have ne_sa_b20 : sa ≠ b20 := Nat.ne_of_lt (Nat.lt_of_lt_of_le H0_A.lt (Nat.le_of_eq g20.symm))
    have ge_b20 : n0 ≤ b20 := Nat.le_trans Z0 (Nat.le_of_eq g20.symm)
    have sz_b20 : h0.size ≤ b20 := Nat.le_trans K0.1 (Nat.le_of_eq g20.symm)
    rw [← g20] at A20 Ea20 st20
    have A21 : Arv Z h20 sa ka .int (3 : Int32) [(.int aa), (.int bb), (.int cc)] (.int (0 : Int32)) := H0_A.ext E20
    have E22 : Exa Z h20 sa "[I" := H1_E.ext E20
    have K20 : Keep h0 h20 [] := K0.ext E20
    have Zs23 : n0 ≤ h20.size := (Nat.le_trans Z0 E20.1)
    have V20 : Arv Z h20 b20 k20 .int (3 : Int32) [(.int (0 : Int32)), (.int (0 : Int32)), (.int (0 : Int32))] (.int (0 : Int32)) := (Arv.new A20 (by decide)).pad (pad_rep [] (.int (0 : Int32)) 3)
    have oc24 := A21
    obtain ⟨c24, Arc24, qc24, Sc24, Nc24, Hc24, Gc24⟩ := oc24
    have oc25 := A21
    obtain ⟨c25, Arc25, qc25, Sc25, Nc25, Hc25, Gc25⟩ := oc25
    have hin26 : ¬ ((0 : Int32) < 0 ∨ c25.slots.size ≤ ((0 : Int32)).toNatClampNeg) := (inb_of Sc25 ⟨by decide, by decide⟩)
    have pre27 := fun (t : State) (k : Steps p.tables e below (T20.setTop (mkF m 88 #[.val (.int qq), .val (.ref sa), .val (.long tt15), .second, .val (.ref b20), .val (.int qq), .val (.int (0 : Int32)), .val (.int cc)] [(.int ((((qq.toInt64) * (aa.toInt64)) / tt15).toInt32)), (.int (0 : Int32)), (.ref b20)])) t) => pre17 t (by
      refine XS.ifYes X0.here hx rfl (pc0 := 43) (pc' := 54) rfl (hb hby d7_43) rfl ((if0 _ _).trans (tlt hc18).1) (by decide) (by decide) ?_
      show Steps p.tables e below (s₁.setTop (mkF m 54 #[.val (.int qq), .val (.ref sa), .val (.long tt15), .second, .val (.ref sa), .val (.int (3 : Int32)), .val (.int (3 : Int32)), .val (.int cc)] [])) _
      refine XS.aloadN X0.here hx rfl (hb hby d7_54) rfl rfl ?_
      show Steps p.tables e below (s₁.setTop (mkF m 55 #[.val (.int qq), .val (.ref sa), .val (.long tt15), .second, .val (.ref sa), .val (.int (3 : Int32)), .val (.int (3 : Int32)), .val (.int cc)] [(.ref sa)])) _
      refine X0.arraylength hx (by rw [e0]; exact Arc19.1) (State.isArrayOf_alike hZ.alike Arc19.2.1) (g := (mkF m 55 #[.val (.int qq), .val (.ref sa), .val (.long tt15), .second, .val (.ref sa), .val (.int (3 : Int32)), .val (.int (3 : Int32)), .val (.int cc)] [(.ref sa)])) rfl rfl (hb hby d7_55) _ ?_
      rw [show c19.slots.size.toInt32 = (3 : Int32) from (len_of Sc19 Nc19)]
      show Steps p.tables e below (s₁.setTop (mkF m 56 #[.val (.int qq), .val (.ref sa), .val (.long tt15), .second, .val (.ref sa), .val (.int (3 : Int32)), .val (.int (3 : Int32)), .val (.int cc)] [(.int (3 : Int32))])) _
      refine st20 _ ?_
      show Steps p.tables e below (T20.setTop (mkF m 58 #[.val (.int qq), .val (.ref sa), .val (.long tt15), .second, .val (.ref sa), .val (.int (3 : Int32)), .val (.int (3 : Int32)), .val (.int cc)] [(.ref b20)])) _
      refine XS.astore X20.here hx rfl (hb hby d7_58) rfl rfl (l' := #[.val (.int qq), .val (.ref sa), .val (.long tt15), .second, .val (.ref b20), .val (.int (3 : Int32)), .val (.int (3 : Int32)), .val (.int cc)]) rfl ?_
      show Steps p.tables e below (T20.setTop (mkF m 60 #[.val (.int qq), .val (.ref sa), .val (.long tt15), .second, .val (.ref b20), .val (.int (3 : Int32)), .val (.int (3 : Int32)), .val (.int cc)] [])) _
      refine XS.iloadN X20.here hx rfl (hb hby d7_60) rfl ?_
      show Steps p.tables e below (T20.setTop (mkF m 61 #[.val (.int qq), .val (.ref sa), .val (.long tt15), .second, .val (.ref b20), .val (.int (3 : Int32)), .val (.int (3 : Int32)), .val (.int cc)] [(.int qq)])) _
      refine XS.istore X20.here hx rfl (hb hby d7_61) rfl (l' := #[.val (.int qq), .val (.ref sa), .val (.long tt15), .second, .val (.ref b20), .val (.int qq), .val (.int (3 : Int32)), .val (.int cc)]) rfl ?_
      show Steps p.tables e below (T20.setTop (mkF m 63 #[.val (.int qq), .val (.ref sa), .val (.long tt15), .second, .val (.ref b20), .val (.int qq), .val (.int (3 : Int32)), .val (.int cc)] [])) _
      refine XS.iconst X20.here hx rfl (hb hby d7_63) ?_
      show Steps p.tables e below (T20.setTop (mkF m 64 #[.val (.int qq), .val (.ref sa), .val (.long tt15), .second, .val (.ref b20), .val (.int qq), .val (.int (3 : Int32)), .val (.int cc)] [(.int (0 : Int32))])) _
      refine XS.istore X20.here hx rfl (hb hby d7_64) rfl (l' := #[.val (.int qq), .val (.ref sa), .val (.long tt15), .second, .val (.ref b20), .val (.int qq), .val (.int (0 : Int32)), .val (.int cc)]) rfl ?_
      show Steps p.tables e below (T20.setTop (mkF m 66 #[.val (.int qq), .val (.ref sa), .val (.long tt15), .second, .val (.ref b20), .val (.int qq), .val (.int (0 : Int32)), .val (.int cc)] [])) _
      refine XS.iload X20.here hx rfl (hb hby d7_66) rfl ?_
      show Steps p.tables e below (T20.setTop (mkF m 68 #[.val (.int qq), .val (.ref sa), .val (.long tt15), .second, .val (.ref b20), .val (.int qq), .val (.int (0 : Int32)), .val (.int cc)] [(.int (0 : Int32))])) _
      refine XS.aloadN X20.here hx rfl (hb hby d7_68) rfl rfl ?_
      show Steps p.tables e below (T20.setTop (mkF m 69 #[.val (.int qq), .val (.ref sa), .val (.long tt15), .second, .val (.ref b20), .val (.int qq), .val (.int (0 : Int32)), .val (.int cc)] [(.ref sa), (.int (0 : Int32))])) _
      refine X20.arraylength hx (by rw [e20]; exact Arc24.1) (State.isArrayOf_alike hZ.alike Arc24.2.1) (g := (mkF m 69 #[.val (.int qq), .val (.ref sa), .val (.long tt15), .second, .val (.ref b20), .val (.int qq), .val (.int (0 : Int32)), .val (.int cc)] [(.ref sa), (.int (0 : Int32))])) rfl rfl (hb hby d7_69) _ ?_
      rw [show c24.slots.size.toInt32 = (3 : Int32) from (len_of Sc24 Nc24)]
      show Steps p.tables e below (T20.setTop (mkF m 70 #[.val (.int qq), .val (.ref sa), .val (.long tt15), .second, .val (.ref b20), .val (.int qq), .val (.int (0 : Int32)), .val (.int cc)] [(.int (3 : Int32)), (.int (0 : Int32))])) _
      refine XS.icmpNo X20.here hx rfl (hb hby d7_70) rfl (tlt (by decide : (0 : Int32) < (3 : Int32))).2.1 ?_
      show Steps p.tables e below (T20.setTop (mkF m 73 #[.val (.int qq), .val (.ref sa), .val (.long tt15), .second, .val (.ref b20), .val (.int qq), .val (.int (0 : Int32)), .val (.int cc)] [])) _
      refine XS.aload X20.here hx rfl (hb hby d7_73) rfl rfl ?_
      show Steps p.tables e below (T20.setTop (mkF m 75 #[.val (.int qq), .val (.ref sa), .val (.long tt15), .second, .val (.ref b20), .val (.int qq), .val (.int (0 : Int32)), .val (.int cc)] [(.ref b20)])) _
      refine XS.iload X20.here hx rfl (hb hby d7_75) rfl ?_
      show Steps p.tables e below (T20.setTop (mkF m 77 #[.val (.int qq), .val (.ref sa), .val (.long tt15), .second, .val (.ref b20), .val (.int qq), .val (.int (0 : Int32)), .val (.int cc)] [(.int (0 : Int32)), (.ref b20)])) _
      refine XS.iloadN X20.here hx rfl (hb hby d7_77) rfl ?_
      show Steps p.tables e below (T20.setTop (mkF m 78 #[.val (.int qq), .val (.ref sa), .val (.long tt15), .second, .val (.ref b20), .val (.int qq), .val (.int (0 : Int32)), .val (.int cc)] [(.int qq), (.int (0 : Int32)), (.ref b20)])) _
      refine XS.i2l X20.here hx rfl (hb hby d7_78) rfl ?_
      show Steps p.tables e below (T20.setTop (mkF m 79 #[.val (.int qq), .val (.ref sa), .val (.long tt15), .second, .val (.ref b20), .val (.int qq), .val (.int (0 : Int32)), .val (.int cc)] [(.long (qq.toInt64)), (.int (0 : Int32)), (.ref b20)])) _
      refine XS.aloadN X20.here hx rfl (hb hby d7_79) rfl rfl ?_
      show Steps p.tables e below (T20.setTop (mkF m 80 #[.val (.int qq), .val (.ref sa), .val (.long tt15), .second, .val (.ref b20), .val (.int qq), .val (.int (0 : Int32)), .val (.int cc)] [(.ref sa), (.long (qq.toInt64)), (.int (0 : Int32)), (.ref b20)])) _
      refine XS.iload X20.here hx rfl (hb hby d7_80) rfl ?_
      show Steps p.tables e below (T20.setTop (mkF m 82 #[.val (.int qq), .val (.ref sa), .val (.long tt15), .second, .val (.ref b20), .val (.int qq), .val (.int (0 : Int32)), .val (.int cc)] [(.int (0 : Int32)), (.ref sa), (.long (qq.toInt64)), (.int (0 : Int32)), (.ref b20)])) _
      refine X20.iaload hx (j := (0 : Int32)) (v := (.int aa)) (by rw [e20]; exact Arc25.1) (State.isArrayOf_alike hZ.alike Arc25.2.1) Arc25.2.2 hin26 (Has.at Hc25 hin26 rfl) (g := (mkF m 82 #[.val (.int qq), .val (.ref sa), .val (.long tt15), .second, .val (.ref b20), .val (.int qq), .val (.int (0 : Int32)), .val (.int cc)] [(.int (0 : Int32)), (.ref sa), (.long (qq.toInt64)), (.int (0 : Int32)), (.ref b20)])) rfl rfl (hb hby d7_82) _ ?_
      show Steps p.tables e below (T20.setTop (mkF m 83 #[.val (.int qq), .val (.ref sa), .val (.long tt15), .second, .val (.ref b20), .val (.int qq), .val (.int (0 : Int32)), .val (.int cc)] [(.int aa), (.long (qq.toInt64)), (.int (0 : Int32)), (.ref b20)])) _
      refine XS.i2l X20.here hx rfl (hb hby d7_83) rfl ?_
      show Steps p.tables e below (T20.setTop (mkF m 84 #[.val (.int qq), .val (.ref sa), .val (.long tt15), .second, .val (.ref b20), .val (.int qq), .val (.int (0 : Int32)), .val (.int cc)] [(.long (aa.toInt64)), (.long (qq.toInt64)), (.int (0 : Int32)), (.ref b20)])) _
      refine XS.lmul X20.here hx rfl (hb hby d7_84) rfl ?_
      show Steps p.tables e below (T20.setTop (mkF m 85 #[.val (.int qq), .val (.ref sa), .val (.long tt15), .second, .val (.ref b20), .val (.int qq), .val (.int (0 : Int32)), .val (.int cc)] [(.long ((qq.toInt64) * (aa.toInt64))), (.int (0 : Int32)), (.ref b20)])) _
      refine XS.lloadN X20.here hx rfl (hb hby d7_85) rfl ?_
      show Steps p.tables e below (T20.setTop (mkF m 86 #[.val (.int qq), .val (.ref sa), .val (.long tt15), .second, .val (.ref b20), .val (.int qq), .val (.int (0 : Int32)), .val (.int cc)] [(.long tt15), (.long ((qq.toInt64) * (aa.toInt64))), (.int (0 : Int32)), (.ref b20)])) _
      refine XS.ldiv X20.here hx rfl (hb hby d7_86) rfl (own_tot_ne ha hb_ hc_ (own_tot_eq h_tt5 h_tt10 h_tt15)) ?_
      show Steps p.tables e below (T20.setTop (mkF m 87 #[.val (.int qq), .val (.ref sa), .val (.long tt15), .second, .val (.ref b20), .val (.int qq), .val (.int (0 : Int32)), .val (.int cc)] [(.long (((qq.toInt64) * (aa.toInt64)) / tt15)), (.int (0 : Int32)), (.ref b20)])) _
      refine XS.l2i X20.here hx rfl (hb hby d7_87) rfl ?_
      show Steps p.tables e below (T20.setTop (mkF m 88 #[.val (.int qq), .val (.ref sa), .val (.long tt15), .second, .val (.ref b20), .val (.int qq), .val (.int (0 : Int32)), .val (.int cc)] [(.int ((((qq.toInt64) * (aa.toInt64)) / tt15).toInt32)), (.int (0 : Int32)), (.ref b20)])) _
      exact k)
    obtain ⟨gg28, h_gg28⟩ : ∃ z : Int32, z = ((((qq.toInt64) * (aa.toInt64)) / tt15).toInt32) := ⟨_, rfl⟩
    have pre29 := fun (t : State) (k : Steps p.tables e below (T20.setTop (mkF m 88 #[.val (.int qq), .val (.ref sa), .val (.long tt15), .second, .val (.ref b20), .val (.int qq), .val (.int (0 : Int32)), .val (.int cc)] [(.int gg28), (.int (0 : Int32)), (.ref b20)])) t) => pre27 t (by rw [← h_gg28]; exact k)
    have oc30 := V20
    obtain ⟨c30, Arc30, qc30, Sc30, Nc30, Hc30, Gc30⟩ := oc30
    have hin31 : ¬ ((0 : Int32) < 0 ∨ c30.slots.size ≤ ((0 : Int32)).toNatClampNeg) := (inb_of Sc30 ⟨by decide, by decide⟩)
    obtain ⟨T31, h31, X31, e31, W31, st31⟩ := stI X20 hx hZ e20 Arc30 (j := (0 : Int32)) hin31 (g := (mkF m 88 #[.val (.int qq), .val (.ref sa), .val (.long tt15), .second, .val (.ref b20), .val (.int qq), .val (.int (0 : Int32)), .val (.int cc)] [(.int gg28), (.int (0 : Int32)), (.ref b20)])) rfl rfl (hb hby d7_88)
    have V31 : Arv Z h31 b20 k20 .int (3 : Int32) [(.int gg28), (.int (0 : Int32)), (.int (0 : Int32))] (.int (0 : Int32)) := Arv.set Arc30 qc30 Sc30 Nc30 Hc30 Gc30 rfl W31 0 rfl (Nat.le_of_ble_eq_true rfl)
    have A32 : Arv Z h31 sa ka .int (3 : Int32) [(.int aa), (.int bb), (.int cc)] (.int (0 : Int32)) := A21.other W31 ne_sa_b20
    have E33 : Exa Z h31 sa "[I" := E22.wr W31
    have E34 : Exa Z h31 b20 "[I" := Ea20.wr W31
    have N31 := Fr.snoc X31 N0 ge_b20
    have K31 : Keep h0 h31 [] := K20.wr W31 (Or.inr sz_b20)
    have Zs35 : n0 ≤ h31.size := (Nat.le_trans Zs23 (Keep.of_wr W31).1)
    have oc36 := V31
    obtain ⟨c36, Arc36, qc36, Sc36, Nc36, Hc36, Gc36⟩ := oc36
    have hin37 : ¬ ((0 : Int32) < 0 ∨ c36.slots.size ≤ ((0 : Int32)).toNatClampNeg) := (inb_of Sc36 ⟨by decide, by decide⟩)
    have pre38 := fun (t : State) (k : Steps p.tables e below (T31.setTop (mkF m 97 #[.val (.int qq), .val (.ref sa), .val (.long tt15), .second, .val (.ref b20), .val (.int qq), .val (.int (0 : Int32)), .val (.int cc)] [(.int (qq - gg28))])) t) => pre29 t (by
      refine st31 _ ?_
      show Steps p.tables e below (T31.setTop (mkF m 89 #[.val (.int qq), .val (.ref sa), .val (.long tt15), .second, .val (.ref b20), .val (.int qq), .val (.int (0 : Int32)), .val (.int cc)] [])) _
      refine XS.iload X31.here hx rfl (hb hby d7_89) rfl ?_
      show Steps p.tables e below (T31.setTop (mkF m 91 #[.val (.int qq), .val (.ref sa), .val (.long tt15), .second, .val (.ref b20), .val (.int qq), .val (.int (0 : Int32)), .val (.int cc)] [(.int qq)])) _
      refine XS.aload X31.here hx rfl (hb hby d7_91) rfl rfl ?_
      show Steps p.tables e below (T31.setTop (mkF m 93 #[.val (.int qq), .val (.ref sa), .val (.long tt15), .second, .val (.ref b20), .val (.int qq), .val (.int (0 : Int32)), .val (.int cc)] [(.ref b20), (.int qq)])) _
      refine XS.iload X31.here hx rfl (hb hby d7_93) rfl ?_
      show Steps p.tables e below (T31.setTop (mkF m 95 #[.val (.int qq), .val (.ref sa), .val (.long tt15), .second, .val (.ref b20), .val (.int qq), .val (.int (0 : Int32)), .val (.int cc)] [(.int (0 : Int32)), (.ref b20), (.int qq)])) _
      refine X31.iaload hx (j := (0 : Int32)) (v := (.int gg28)) (by rw [e31]; exact Arc36.1) (State.isArrayOf_alike hZ.alike Arc36.2.1) Arc36.2.2 hin37 (Has.at Hc36 hin37 rfl) (g := (mkF m 95 #[.val (.int qq), .val (.ref sa), .val (.long tt15), .second, .val (.ref b20), .val (.int qq), .val (.int (0 : Int32)), .val (.int cc)] [(.int (0 : Int32)), (.ref b20), (.int qq)])) rfl rfl (hb hby d7_95) _ ?_
      show Steps p.tables e below (T31.setTop (mkF m 96 #[.val (.int qq), .val (.ref sa), .val (.long tt15), .second, .val (.ref b20), .val (.int qq), .val (.int (0 : Int32)), .val (.int cc)] [(.int gg28), (.int qq)])) _
      refine XS.isub X31.here hx rfl (hb hby d7_96) rfl ?_
      show Steps p.tables e below (T31.setTop (mkF m 97 #[.val (.int qq), .val (.ref sa), .val (.long tt15), .second, .val (.ref b20), .val (.int qq), .val (.int (0 : Int32)), .val (.int cc)] [(.int (qq - gg28))])) _
      exact k)
    obtain ⟨ll39, h_ll39⟩ : ∃ z : Int32, z = (qq - gg28) := ⟨_, rfl⟩
    have pre40 := fun (t : State) (k : Steps p.tables e below (T31.setTop (mkF m 97 #[.val (.int qq), .val (.ref sa), .val (.long tt15), .second, .val (.ref b20), .val (.int qq), .val (.int (0 : Int32)), .val (.int cc)] [(.int ll39)])) t) => pre38 t (by rw [← h_ll39]; exact k)
    have oc41 := A32
    obtain ⟨c41, Arc41, qc41, Sc41, Nc41, Hc41, Gc41⟩ := oc41
    have oc42 := A32
    obtain ⟨c42, Arc42, qc42, Sc42, Nc42, Hc42, Gc42⟩ := oc42
    have hin43 : ¬ ((1 : Int32) < 0 ∨ c42.slots.size ≤ ((1 : Int32)).toNatClampNeg) := (inb_of Sc42 ⟨by decide, by decide⟩)
    have pre44 := fun (t : State) (k : Steps p.tables e below (T31.setTop (mkF m 88 #[.val (.int qq), .val (.ref sa), .val (.long tt15), .second, .val (.ref b20), .val (.int ll39), .val (.int (1 : Int32)), .val (.int cc)] [(.int ((((qq.toInt64) * (bb.toInt64)) / tt15).toInt32)), (.int (1 : Int32)), (.ref b20)])) t) => pre40 t (by
      refine XS.istore X31.here hx rfl (hb hby d7_97) rfl (l' := #[.val (.int qq), .val (.ref sa), .val (.long tt15), .second, .val (.ref b20), .val (.int ll39), .val (.int (0 : Int32)), .val (.int cc)]) rfl ?_
      show Steps p.tables e below (T31.setTop (mkF m 99 #[.val (.int qq), .val (.ref sa), .val (.long tt15), .second, .val (.ref b20), .val (.int ll39), .val (.int (0 : Int32)), .val (.int cc)] [])) _
      refine XS.iinc X31.here hx rfl (hb hby d7_99) rfl (l' := #[.val (.int qq), .val (.ref sa), .val (.long tt15), .second, .val (.ref b20), .val (.int ll39), .val (.int (1 : Int32)), .val (.int cc)]) rfl ?_
      show Steps p.tables e below (T31.setTop (mkF m 102 #[.val (.int qq), .val (.ref sa), .val (.long tt15), .second, .val (.ref b20), .val (.int ll39), .val (.int (1 : Int32)), .val (.int cc)] [])) _
      refine XS.goto X31.here hx rfl (pc0 := 102) (pc' := 66) rfl (hb hby d7_102) (by decide) (by decide) ?_
      show Steps p.tables e below (T31.setTop (mkF m 66 #[.val (.int qq), .val (.ref sa), .val (.long tt15), .second, .val (.ref b20), .val (.int ll39), .val (.int (1 : Int32)), .val (.int cc)] [])) _
      refine XS.iload X31.here hx rfl (hb hby d7_66) rfl ?_
      show Steps p.tables e below (T31.setTop (mkF m 68 #[.val (.int qq), .val (.ref sa), .val (.long tt15), .second, .val (.ref b20), .val (.int ll39), .val (.int (1 : Int32)), .val (.int cc)] [(.int (1 : Int32))])) _
      refine XS.aloadN X31.here hx rfl (hb hby d7_68) rfl rfl ?_
      show Steps p.tables e below (T31.setTop (mkF m 69 #[.val (.int qq), .val (.ref sa), .val (.long tt15), .second, .val (.ref b20), .val (.int ll39), .val (.int (1 : Int32)), .val (.int cc)] [(.ref sa), (.int (1 : Int32))])) _
      refine X31.arraylength hx (by rw [e31]; exact Arc41.1) (State.isArrayOf_alike hZ.alike Arc41.2.1) (g := (mkF m 69 #[.val (.int qq), .val (.ref sa), .val (.long tt15), .second, .val (.ref b20), .val (.int ll39), .val (.int (1 : Int32)), .val (.int cc)] [(.ref sa), (.int (1 : Int32))])) rfl rfl (hb hby d7_69) _ ?_
      rw [show c41.slots.size.toInt32 = (3 : Int32) from (len_of Sc41 Nc41)]
      show Steps p.tables e below (T31.setTop (mkF m 70 #[.val (.int qq), .val (.ref sa), .val (.long tt15), .second, .val (.ref b20), .val (.int ll39), .val (.int (1 : Int32)), .val (.int cc)] [(.int (3 : Int32)), (.int (1 : Int32))])) _
      refine XS.icmpNo X31.here hx rfl (hb hby d7_70) rfl (tlt (by decide : (1 : Int32) < (3 : Int32))).2.1 ?_
      show Steps p.tables e below (T31.setTop (mkF m 73 #[.val (.int qq), .val (.ref sa), .val (.long tt15), .second, .val (.ref b20), .val (.int ll39), .val (.int (1 : Int32)), .val (.int cc)] [])) _
      refine XS.aload X31.here hx rfl (hb hby d7_73) rfl rfl ?_
      show Steps p.tables e below (T31.setTop (mkF m 75 #[.val (.int qq), .val (.ref sa), .val (.long tt15), .second, .val (.ref b20), .val (.int ll39), .val (.int (1 : Int32)), .val (.int cc)] [(.ref b20)])) _
      refine XS.iload X31.here hx rfl (hb hby d7_75) rfl ?_
      show Steps p.tables e below (T31.setTop (mkF m 77 #[.val (.int qq), .val (.ref sa), .val (.long tt15), .second, .val (.ref b20), .val (.int ll39), .val (.int (1 : Int32)), .val (.int cc)] [(.int (1 : Int32)), (.ref b20)])) _
      refine XS.iloadN X31.here hx rfl (hb hby d7_77) rfl ?_
      show Steps p.tables e below (T31.setTop (mkF m 78 #[.val (.int qq), .val (.ref sa), .val (.long tt15), .second, .val (.ref b20), .val (.int ll39), .val (.int (1 : Int32)), .val (.int cc)] [(.int qq), (.int (1 : Int32)), (.ref b20)])) _
      refine XS.i2l X31.here hx rfl (hb hby d7_78) rfl ?_
      show Steps p.tables e below (T31.setTop (mkF m 79 #[.val (.int qq), .val (.ref sa), .val (.long tt15), .second, .val (.ref b20), .val (.int ll39), .val (.int (1 : Int32)), .val (.int cc)] [(.long (qq.toInt64)), (.int (1 : Int32)), (.ref b20)])) _
      refine XS.aloadN X31.here hx rfl (hb hby d7_79) rfl rfl ?_
      show Steps p.tables e below (T31.setTop (mkF m 80 #[.val (.int qq), .val (.ref sa), .val (.long tt15), .second, .val (.ref b20), .val (.int ll39), .val (.int (1 : Int32)), .val (.int cc)] [(.ref sa), (.long (qq.toInt64)), (.int (1 : Int32)), (.ref b20)])) _
      refine XS.iload X31.here hx rfl (hb hby d7_80) rfl ?_
      show Steps p.tables e below (T31.setTop (mkF m 82 #[.val (.int qq), .val (.ref sa), .val (.long tt15), .second, .val (.ref b20), .val (.int ll39), .val (.int (1 : Int32)), .val (.int cc)] [(.int (1 : Int32)), (.ref sa), (.long (qq.toInt64)), (.int (1 : Int32)), (.ref b20)])) _
      refine X31.iaload hx (j := (1 : Int32)) (v := (.int bb)) (by rw [e31]; exact Arc42.1) (State.isArrayOf_alike hZ.alike Arc42.2.1) Arc42.2.2 hin43 (Has.at Hc42 hin43 rfl) (g := (mkF m 82 #[.val (.int qq), .val (.ref sa), .val (.long tt15), .second, .val (.ref b20), .val (.int ll39), .val (.int (1 : Int32)), .val (.int cc)] [(.int (1 : Int32)), (.ref sa), (.long (qq.toInt64)), (.int (1 : Int32)), (.ref b20)])) rfl rfl (hb hby d7_82) _ ?_
      show Steps p.tables e below (T31.setTop (mkF m 83 #[.val (.int qq), .val (.ref sa), .val (.long tt15), .second, .val (.ref b20), .val (.int ll39), .val (.int (1 : Int32)), .val (.int cc)] [(.int bb), (.long (qq.toInt64)), (.int (1 : Int32)), (.ref b20)])) _
      refine XS.i2l X31.here hx rfl (hb hby d7_83) rfl ?_
      show Steps p.tables e below (T31.setTop (mkF m 84 #[.val (.int qq), .val (.ref sa), .val (.long tt15), .second, .val (.ref b20), .val (.int ll39), .val (.int (1 : Int32)), .val (.int cc)] [(.long (bb.toInt64)), (.long (qq.toInt64)), (.int (1 : Int32)), (.ref b20)])) _
      refine XS.lmul X31.here hx rfl (hb hby d7_84) rfl ?_
      show Steps p.tables e below (T31.setTop (mkF m 85 #[.val (.int qq), .val (.ref sa), .val (.long tt15), .second, .val (.ref b20), .val (.int ll39), .val (.int (1 : Int32)), .val (.int cc)] [(.long ((qq.toInt64) * (bb.toInt64))), (.int (1 : Int32)), (.ref b20)])) _
      refine XS.lloadN X31.here hx rfl (hb hby d7_85) rfl ?_
      show Steps p.tables e below (T31.setTop (mkF m 86 #[.val (.int qq), .val (.ref sa), .val (.long tt15), .second, .val (.ref b20), .val (.int ll39), .val (.int (1 : Int32)), .val (.int cc)] [(.long tt15), (.long ((qq.toInt64) * (bb.toInt64))), (.int (1 : Int32)), (.ref b20)])) _
      refine XS.ldiv X31.here hx rfl (hb hby d7_86) rfl (own_tot_ne ha hb_ hc_ (own_tot_eq h_tt5 h_tt10 h_tt15)) ?_
      show Steps p.tables e below (T31.setTop (mkF m 87 #[.val (.int qq), .val (.ref sa), .val (.long tt15), .second, .val (.ref b20), .val (.int ll39), .val (.int (1 : Int32)), .val (.int cc)] [(.long (((qq.toInt64) * (bb.toInt64)) / tt15)), (.int (1 : Int32)), (.ref b20)])) _
      refine XS.l2i X31.here hx rfl (hb hby d7_87) rfl ?_
      show Steps p.tables e below (T31.setTop (mkF m 88 #[.val (.int qq), .val (.ref sa), .val (.long tt15), .second, .val (.ref b20), .val (.int ll39), .val (.int (1 : Int32)), .val (.int cc)] [(.int ((((qq.toInt64) * (bb.toInt64)) / tt15).toInt32)), (.int (1 : Int32)), (.ref b20)])) _
      exact k)
    obtain ⟨gg45, h_gg45⟩ : ∃ z : Int32, z = ((((qq.toInt64) * (bb.toInt64)) / tt15).toInt32) := ⟨_, rfl⟩
    have pre46 := fun (t : State) (k : Steps p.tables e below (T31.setTop (mkF m 88 #[.val (.int qq), .val (.ref sa), .val (.long tt15), .second, .val (.ref b20), .val (.int ll39), .val (.int (1 : Int32)), .val (.int cc)] [(.int gg45), (.int (1 : Int32)), (.ref b20)])) t) => pre44 t (by rw [← h_gg45]; exact k)
    have oc47 := V31
    obtain ⟨c47, Arc47, qc47, Sc47, Nc47, Hc47, Gc47⟩ := oc47
    have hin48 : ¬ ((1 : Int32) < 0 ∨ c47.slots.size ≤ ((1 : Int32)).toNatClampNeg) := (inb_of Sc47 ⟨by decide, by decide⟩)
    obtain ⟨T48, h48, X48, e48, W48, st48⟩ := stI X31 hx hZ e31 Arc47 (j := (1 : Int32)) hin48 (g := (mkF m 88 #[.val (.int qq), .val (.ref sa), .val (.long tt15), .second, .val (.ref b20), .val (.int ll39), .val (.int (1 : Int32)), .val (.int cc)] [(.int gg45), (.int (1 : Int32)), (.ref b20)])) rfl rfl (hb hby d7_88)
    have V48 : Arv Z h48 b20 k20 .int (3 : Int32) [(.int gg28), (.int gg45), (.int (0 : Int32))] (.int (0 : Int32)) := Arv.set Arc47 qc47 Sc47 Nc47 Hc47 Gc47 rfl W48 1 rfl (Nat.le_of_ble_eq_true rfl)
    have A49 : Arv Z h48 sa ka .int (3 : Int32) [(.int aa), (.int bb), (.int cc)] (.int (0 : Int32)) := A32.other W48 ne_sa_b20
    have E50 : Exa Z h48 sa "[I" := E33.wr W48
    have E51 : Exa Z h48 b20 "[I" := E34.wr W48
    have N48 := Fr.snoc X48 N31 ge_b20
    have K48 : Keep h0 h48 [] := K31.wr W48 (Or.inr sz_b20)
    have Zs52 : n0 ≤ h48.size := (Nat.le_trans Zs35 (Keep.of_wr W48).1)
    have oc53 := V48
    obtain ⟨c53, Arc53, qc53, Sc53, Nc53, Hc53, Gc53⟩ := oc53
    have hin54 : ¬ ((1 : Int32) < 0 ∨ c53.slots.size ≤ ((1 : Int32)).toNatClampNeg) := (inb_of Sc53 ⟨by decide, by decide⟩)
    have pre55 := fun (t : State) (k : Steps p.tables e below (T48.setTop (mkF m 97 #[.val (.int qq), .val (.ref sa), .val (.long tt15), .second, .val (.ref b20), .val (.int ll39), .val (.int (1 : Int32)), .val (.int cc)] [(.int (ll39 - gg45))])) t) => pre46 t (by
      refine st48 _ ?_
      show Steps p.tables e below (T48.setTop (mkF m 89 #[.val (.int qq), .val (.ref sa), .val (.long tt15), .second, .val (.ref b20), .val (.int ll39), .val (.int (1 : Int32)), .val (.int cc)] [])) _
      refine XS.iload X48.here hx rfl (hb hby d7_89) rfl ?_
      show Steps p.tables e below (T48.setTop (mkF m 91 #[.val (.int qq), .val (.ref sa), .val (.long tt15), .second, .val (.ref b20), .val (.int ll39), .val (.int (1 : Int32)), .val (.int cc)] [(.int ll39)])) _
      refine XS.aload X48.here hx rfl (hb hby d7_91) rfl rfl ?_
      show Steps p.tables e below (T48.setTop (mkF m 93 #[.val (.int qq), .val (.ref sa), .val (.long tt15), .second, .val (.ref b20), .val (.int ll39), .val (.int (1 : Int32)), .val (.int cc)] [(.ref b20), (.int ll39)])) _
      refine XS.iload X48.here hx rfl (hb hby d7_93) rfl ?_
      show Steps p.tables e below (T48.setTop (mkF m 95 #[.val (.int qq), .val (.ref sa), .val (.long tt15), .second, .val (.ref b20), .val (.int ll39), .val (.int (1 : Int32)), .val (.int cc)] [(.int (1 : Int32)), (.ref b20), (.int ll39)])) _
      refine X48.iaload hx (j := (1 : Int32)) (v := (.int gg45)) (by rw [e48]; exact Arc53.1) (State.isArrayOf_alike hZ.alike Arc53.2.1) Arc53.2.2 hin54 (Has.at Hc53 hin54 rfl) (g := (mkF m 95 #[.val (.int qq), .val (.ref sa), .val (.long tt15), .second, .val (.ref b20), .val (.int ll39), .val (.int (1 : Int32)), .val (.int cc)] [(.int (1 : Int32)), (.ref b20), (.int ll39)])) rfl rfl (hb hby d7_95) _ ?_
      show Steps p.tables e below (T48.setTop (mkF m 96 #[.val (.int qq), .val (.ref sa), .val (.long tt15), .second, .val (.ref b20), .val (.int ll39), .val (.int (1 : Int32)), .val (.int cc)] [(.int gg45), (.int ll39)])) _
      refine XS.isub X48.here hx rfl (hb hby d7_96) rfl ?_
      show Steps p.tables e below (T48.setTop (mkF m 97 #[.val (.int qq), .val (.ref sa), .val (.long tt15), .second, .val (.ref b20), .val (.int ll39), .val (.int (1 : Int32)), .val (.int cc)] [(.int (ll39 - gg45))])) _
      exact k)
    obtain ⟨ll56, h_ll56⟩ : ∃ z : Int32, z = (ll39 - gg45) := ⟨_, rfl⟩
    have pre57 := fun (t : State) (k : Steps p.tables e below (T48.setTop (mkF m 97 #[.val (.int qq), .val (.ref sa), .val (.long tt15), .second, .val (.ref b20), .val (.int ll39), .val (.int (1 : Int32)), .val (.int cc)] [(.int ll56)])) t) => pre55 t (by rw [← h_ll56]; exact k)
    have oc58 := A49
    obtain ⟨c58, Arc58, qc58, Sc58, Nc58, Hc58, Gc58⟩ := oc58
    have oc59 := A49
    obtain ⟨c59, Arc59, qc59, Sc59, Nc59, Hc59, Gc59⟩ := oc59
    have hin60 : ¬ ((2 : Int32) < 0 ∨ c59.slots.size ≤ ((2 : Int32)).toNatClampNeg) := (inb_of Sc59 ⟨by decide, by decide⟩)
    have pre61 := fun (t : State) (k : Steps p.tables e below (T48.setTop (mkF m 88 #[.val (.int qq), .val (.ref sa), .val (.long tt15), .second, .val (.ref b20), .val (.int ll56), .val (.int (2 : Int32)), .val (.int cc)] [(.int ((((qq.toInt64) * (cc.toInt64)) / tt15).toInt32)), (.int (2 : Int32)), (.ref b20)])) t) => pre57 t (by
      refine XS.istore X48.here hx rfl (hb hby d7_97) rfl (l' := #[.val (.int qq), .val (.ref sa), .val (.long tt15), .second, .val (.ref b20), .val (.int ll56), .val (.int (1 : Int32)), .val (.int cc)]) rfl ?_
      show Steps p.tables e below (T48.setTop (mkF m 99 #[.val (.int qq), .val (.ref sa), .val (.long tt15), .second, .val (.ref b20), .val (.int ll56), .val (.int (1 : Int32)), .val (.int cc)] [])) _
      refine XS.iinc X48.here hx rfl (hb hby d7_99) rfl (l' := #[.val (.int qq), .val (.ref sa), .val (.long tt15), .second, .val (.ref b20), .val (.int ll56), .val (.int (2 : Int32)), .val (.int cc)]) rfl ?_
      show Steps p.tables e below (T48.setTop (mkF m 102 #[.val (.int qq), .val (.ref sa), .val (.long tt15), .second, .val (.ref b20), .val (.int ll56), .val (.int (2 : Int32)), .val (.int cc)] [])) _
      refine XS.goto X48.here hx rfl (pc0 := 102) (pc' := 66) rfl (hb hby d7_102) (by decide) (by decide) ?_
      show Steps p.tables e below (T48.setTop (mkF m 66 #[.val (.int qq), .val (.ref sa), .val (.long tt15), .second, .val (.ref b20), .val (.int ll56), .val (.int (2 : Int32)), .val (.int cc)] [])) _
      refine XS.iload X48.here hx rfl (hb hby d7_66) rfl ?_
      show Steps p.tables e below (T48.setTop (mkF m 68 #[.val (.int qq), .val (.ref sa), .val (.long tt15), .second, .val (.ref b20), .val (.int ll56), .val (.int (2 : Int32)), .val (.int cc)] [(.int (2 : Int32))])) _
      refine XS.aloadN X48.here hx rfl (hb hby d7_68) rfl rfl ?_
      show Steps p.tables e below (T48.setTop (mkF m 69 #[.val (.int qq), .val (.ref sa), .val (.long tt15), .second, .val (.ref b20), .val (.int ll56), .val (.int (2 : Int32)), .val (.int cc)] [(.ref sa), (.int (2 : Int32))])) _
      refine X48.arraylength hx (by rw [e48]; exact Arc58.1) (State.isArrayOf_alike hZ.alike Arc58.2.1) (g := (mkF m 69 #[.val (.int qq), .val (.ref sa), .val (.long tt15), .second, .val (.ref b20), .val (.int ll56), .val (.int (2 : Int32)), .val (.int cc)] [(.ref sa), (.int (2 : Int32))])) rfl rfl (hb hby d7_69) _ ?_
      rw [show c58.slots.size.toInt32 = (3 : Int32) from (len_of Sc58 Nc58)]
      show Steps p.tables e below (T48.setTop (mkF m 70 #[.val (.int qq), .val (.ref sa), .val (.long tt15), .second, .val (.ref b20), .val (.int ll56), .val (.int (2 : Int32)), .val (.int cc)] [(.int (3 : Int32)), (.int (2 : Int32))])) _
      refine XS.icmpNo X48.here hx rfl (hb hby d7_70) rfl (tlt (by decide : (2 : Int32) < (3 : Int32))).2.1 ?_
      show Steps p.tables e below (T48.setTop (mkF m 73 #[.val (.int qq), .val (.ref sa), .val (.long tt15), .second, .val (.ref b20), .val (.int ll56), .val (.int (2 : Int32)), .val (.int cc)] [])) _
      refine XS.aload X48.here hx rfl (hb hby d7_73) rfl rfl ?_
      show Steps p.tables e below (T48.setTop (mkF m 75 #[.val (.int qq), .val (.ref sa), .val (.long tt15), .second, .val (.ref b20), .val (.int ll56), .val (.int (2 : Int32)), .val (.int cc)] [(.ref b20)])) _
      refine XS.iload X48.here hx rfl (hb hby d7_75) rfl ?_
      show Steps p.tables e below (T48.setTop (mkF m 77 #[.val (.int qq), .val (.ref sa), .val (.long tt15), .second, .val (.ref b20), .val (.int ll56), .val (.int (2 : Int32)), .val (.int cc)] [(.int (2 : Int32)), (.ref b20)])) _
      refine XS.iloadN X48.here hx rfl (hb hby d7_77) rfl ?_
      show Steps p.tables e below (T48.setTop (mkF m 78 #[.val (.int qq), .val (.ref sa), .val (.long tt15), .second, .val (.ref b20), .val (.int ll56), .val (.int (2 : Int32)), .val (.int cc)] [(.int qq), (.int (2 : Int32)), (.ref b20)])) _
      refine XS.i2l X48.here hx rfl (hb hby d7_78) rfl ?_
      show Steps p.tables e below (T48.setTop (mkF m 79 #[.val (.int qq), .val (.ref sa), .val (.long tt15), .second, .val (.ref b20), .val (.int ll56), .val (.int (2 : Int32)), .val (.int cc)] [(.long (qq.toInt64)), (.int (2 : Int32)), (.ref b20)])) _
      refine XS.aloadN X48.here hx rfl (hb hby d7_79) rfl rfl ?_
      show Steps p.tables e below (T48.setTop (mkF m 80 #[.val (.int qq), .val (.ref sa), .val (.long tt15), .second, .val (.ref b20), .val (.int ll56), .val (.int (2 : Int32)), .val (.int cc)] [(.ref sa), (.long (qq.toInt64)), (.int (2 : Int32)), (.ref b20)])) _
      refine XS.iload X48.here hx rfl (hb hby d7_80) rfl ?_
      show Steps p.tables e below (T48.setTop (mkF m 82 #[.val (.int qq), .val (.ref sa), .val (.long tt15), .second, .val (.ref b20), .val (.int ll56), .val (.int (2 : Int32)), .val (.int cc)] [(.int (2 : Int32)), (.ref sa), (.long (qq.toInt64)), (.int (2 : Int32)), (.ref b20)])) _
      refine X48.iaload hx (j := (2 : Int32)) (v := (.int cc)) (by rw [e48]; exact Arc59.1) (State.isArrayOf_alike hZ.alike Arc59.2.1) Arc59.2.2 hin60 (Has.at Hc59 hin60 rfl) (g := (mkF m 82 #[.val (.int qq), .val (.ref sa), .val (.long tt15), .second, .val (.ref b20), .val (.int ll56), .val (.int (2 : Int32)), .val (.int cc)] [(.int (2 : Int32)), (.ref sa), (.long (qq.toInt64)), (.int (2 : Int32)), (.ref b20)])) rfl rfl (hb hby d7_82) _ ?_
      show Steps p.tables e below (T48.setTop (mkF m 83 #[.val (.int qq), .val (.ref sa), .val (.long tt15), .second, .val (.ref b20), .val (.int ll56), .val (.int (2 : Int32)), .val (.int cc)] [(.int cc), (.long (qq.toInt64)), (.int (2 : Int32)), (.ref b20)])) _
      refine XS.i2l X48.here hx rfl (hb hby d7_83) rfl ?_
      show Steps p.tables e below (T48.setTop (mkF m 84 #[.val (.int qq), .val (.ref sa), .val (.long tt15), .second, .val (.ref b20), .val (.int ll56), .val (.int (2 : Int32)), .val (.int cc)] [(.long (cc.toInt64)), (.long (qq.toInt64)), (.int (2 : Int32)), (.ref b20)])) _
      refine XS.lmul X48.here hx rfl (hb hby d7_84) rfl ?_
      show Steps p.tables e below (T48.setTop (mkF m 85 #[.val (.int qq), .val (.ref sa), .val (.long tt15), .second, .val (.ref b20), .val (.int ll56), .val (.int (2 : Int32)), .val (.int cc)] [(.long ((qq.toInt64) * (cc.toInt64))), (.int (2 : Int32)), (.ref b20)])) _
      refine XS.lloadN X48.here hx rfl (hb hby d7_85) rfl ?_
      show Steps p.tables e below (T48.setTop (mkF m 86 #[.val (.int qq), .val (.ref sa), .val (.long tt15), .second, .val (.ref b20), .val (.int ll56), .val (.int (2 : Int32)), .val (.int cc)] [(.long tt15), (.long ((qq.toInt64) * (cc.toInt64))), (.int (2 : Int32)), (.ref b20)])) _
      refine XS.ldiv X48.here hx rfl (hb hby d7_86) rfl (own_tot_ne ha hb_ hc_ (own_tot_eq h_tt5 h_tt10 h_tt15)) ?_
      show Steps p.tables e below (T48.setTop (mkF m 87 #[.val (.int qq), .val (.ref sa), .val (.long tt15), .second, .val (.ref b20), .val (.int ll56), .val (.int (2 : Int32)), .val (.int cc)] [(.long (((qq.toInt64) * (cc.toInt64)) / tt15)), (.int (2 : Int32)), (.ref b20)])) _
      refine XS.l2i X48.here hx rfl (hb hby d7_87) rfl ?_
      show Steps p.tables e below (T48.setTop (mkF m 88 #[.val (.int qq), .val (.ref sa), .val (.long tt15), .second, .val (.ref b20), .val (.int ll56), .val (.int (2 : Int32)), .val (.int cc)] [(.int ((((qq.toInt64) * (cc.toInt64)) / tt15).toInt32)), (.int (2 : Int32)), (.ref b20)])) _
      exact k)
    obtain ⟨gg62, h_gg62⟩ : ∃ z : Int32, z = ((((qq.toInt64) * (cc.toInt64)) / tt15).toInt32) := ⟨_, rfl⟩
    have pre63 := fun (t : State) (k : Steps p.tables e below (T48.setTop (mkF m 88 #[.val (.int qq), .val (.ref sa), .val (.long tt15), .second, .val (.ref b20), .val (.int ll56), .val (.int (2 : Int32)), .val (.int cc)] [(.int gg62), (.int (2 : Int32)), (.ref b20)])) t) => pre61 t (by rw [← h_gg62]; exact k)
    have oc64 := V48
    obtain ⟨c64, Arc64, qc64, Sc64, Nc64, Hc64, Gc64⟩ := oc64
    have hin65 : ¬ ((2 : Int32) < 0 ∨ c64.slots.size ≤ ((2 : Int32)).toNatClampNeg) := (inb_of Sc64 ⟨by decide, by decide⟩)
    obtain ⟨T65, h65, X65, e65, W65, st65⟩ := stI X48 hx hZ e48 Arc64 (j := (2 : Int32)) hin65 (g := (mkF m 88 #[.val (.int qq), .val (.ref sa), .val (.long tt15), .second, .val (.ref b20), .val (.int ll56), .val (.int (2 : Int32)), .val (.int cc)] [(.int gg62), (.int (2 : Int32)), (.ref b20)])) rfl rfl (hb hby d7_88)
    have V65 : Arv Z h65 b20 k20 .int (3 : Int32) [(.int gg28), (.int gg45), (.int gg62)] (.int (0 : Int32)) := Arv.set Arc64 qc64 Sc64 Nc64 Hc64 Gc64 rfl W65 2 rfl (Nat.le_of_ble_eq_true rfl)
    have A66 : Arv Z h65 sa ka .int (3 : Int32) [(.int aa), (.int bb), (.int cc)] (.int (0 : Int32)) := A49.other W65 ne_sa_b20
    have E67 : Exa Z h65 sa "[I" := E50.wr W65
    have E68 : Exa Z h65 b20 "[I" := E51.wr W65
    have N65 := Fr.snoc X65 N48 ge_b20
    have K65 : Keep h0 h65 [] := K48.wr W65 (Or.inr sz_b20)
    have Zs69 : n0 ≤ h65.size := (Nat.le_trans Zs52 (Keep.of_wr W65).1)
    have oc70 := V65
    obtain ⟨c70, Arc70, qc70, Sc70, Nc70, Hc70, Gc70⟩ := oc70
    have hin71 : ¬ ((2 : Int32) < 0 ∨ c70.slots.size ≤ ((2 : Int32)).toNatClampNeg) := (inb_of Sc70 ⟨by decide, by decide⟩)
    have pre72 := fun (t : State) (k : Steps p.tables e below (T65.setTop (mkF m 97 #[.val (.int qq), .val (.ref sa), .val (.long tt15), .second, .val (.ref b20), .val (.int ll56), .val (.int (2 : Int32)), .val (.int cc)] [(.int (ll56 - gg62))])) t) => pre63 t (by
      refine st65 _ ?_
      show Steps p.tables e below (T65.setTop (mkF m 89 #[.val (.int qq), .val (.ref sa), .val (.long tt15), .second, .val (.ref b20), .val (.int ll56), .val (.int (2 : Int32)), .val (.int cc)] [])) _
      refine XS.iload X65.here hx rfl (hb hby d7_89) rfl ?_
      show Steps p.tables e below (T65.setTop (mkF m 91 #[.val (.int qq), .val (.ref sa), .val (.long tt15), .second, .val (.ref b20), .val (.int ll56), .val (.int (2 : Int32)), .val (.int cc)] [(.int ll56)])) _
      refine XS.aload X65.here hx rfl (hb hby d7_91) rfl rfl ?_
      show Steps p.tables e below (T65.setTop (mkF m 93 #[.val (.int qq), .val (.ref sa), .val (.long tt15), .second, .val (.ref b20), .val (.int ll56), .val (.int (2 : Int32)), .val (.int cc)] [(.ref b20), (.int ll56)])) _
      refine XS.iload X65.here hx rfl (hb hby d7_93) rfl ?_
      show Steps p.tables e below (T65.setTop (mkF m 95 #[.val (.int qq), .val (.ref sa), .val (.long tt15), .second, .val (.ref b20), .val (.int ll56), .val (.int (2 : Int32)), .val (.int cc)] [(.int (2 : Int32)), (.ref b20), (.int ll56)])) _
      refine X65.iaload hx (j := (2 : Int32)) (v := (.int gg62)) (by rw [e65]; exact Arc70.1) (State.isArrayOf_alike hZ.alike Arc70.2.1) Arc70.2.2 hin71 (Has.at Hc70 hin71 rfl) (g := (mkF m 95 #[.val (.int qq), .val (.ref sa), .val (.long tt15), .second, .val (.ref b20), .val (.int ll56), .val (.int (2 : Int32)), .val (.int cc)] [(.int (2 : Int32)), (.ref b20), (.int ll56)])) rfl rfl (hb hby d7_95) _ ?_
      show Steps p.tables e below (T65.setTop (mkF m 96 #[.val (.int qq), .val (.ref sa), .val (.long tt15), .second, .val (.ref b20), .val (.int ll56), .val (.int (2 : Int32)), .val (.int cc)] [(.int gg62), (.int ll56)])) _
      refine XS.isub X65.here hx rfl (hb hby d7_96) rfl ?_
      show Steps p.tables e below (T65.setTop (mkF m 97 #[.val (.int qq), .val (.ref sa), .val (.long tt15), .second, .val (.ref b20), .val (.int ll56), .val (.int (2 : Int32)), .val (.int cc)] [(.int (ll56 - gg62))])) _
      exact k)
    obtain ⟨ll73, h_ll73⟩ : ∃ z : Int32, z = (ll56 - gg62) := ⟨_, rfl⟩
    have pre74 := fun (t : State) (k : Steps p.tables e below (T65.setTop (mkF m 97 #[.val (.int qq), .val (.ref sa), .val (.long tt15), .second, .val (.ref b20), .val (.int ll56), .val (.int (2 : Int32)), .val (.int cc)] [(.int ll73)])) t) => pre72 t (by rw [← h_ll73]; exact k)
    have oc75 := A66
    obtain ⟨c75, Arc75, qc75, Sc75, Nc75, Hc75, Gc75⟩ := oc75
    have pre76 := fun (t : State) (k : Steps p.tables e below (T65.setTop (mkF m 110 #[.val (.int qq), .val (.ref sa), .val (.long tt15), .second, .val (.ref b20), .val (.int ll73), .val (.int (0 : Int32)), .val (.int cc)] [(.int ll73)])) t) => pre74 t (by
      refine XS.istore X65.here hx rfl (hb hby d7_97) rfl (l' := #[.val (.int qq), .val (.ref sa), .val (.long tt15), .second, .val (.ref b20), .val (.int ll73), .val (.int (2 : Int32)), .val (.int cc)]) rfl ?_
      show Steps p.tables e below (T65.setTop (mkF m 99 #[.val (.int qq), .val (.ref sa), .val (.long tt15), .second, .val (.ref b20), .val (.int ll73), .val (.int (2 : Int32)), .val (.int cc)] [])) _
      refine XS.iinc X65.here hx rfl (hb hby d7_99) rfl (l' := #[.val (.int qq), .val (.ref sa), .val (.long tt15), .second, .val (.ref b20), .val (.int ll73), .val (.int (3 : Int32)), .val (.int cc)]) rfl ?_
      show Steps p.tables e below (T65.setTop (mkF m 102 #[.val (.int qq), .val (.ref sa), .val (.long tt15), .second, .val (.ref b20), .val (.int ll73), .val (.int (3 : Int32)), .val (.int cc)] [])) _
      refine XS.goto X65.here hx rfl (pc0 := 102) (pc' := 66) rfl (hb hby d7_102) (by decide) (by decide) ?_
      show Steps p.tables e below (T65.setTop (mkF m 66 #[.val (.int qq), .val (.ref sa), .val (.long tt15), .second, .val (.ref b20), .val (.int ll73), .val (.int (3 : Int32)), .val (.int cc)] [])) _
      refine XS.iload X65.here hx rfl (hb hby d7_66) rfl ?_
      show Steps p.tables e below (T65.setTop (mkF m 68 #[.val (.int qq), .val (.ref sa), .val (.long tt15), .second, .val (.ref b20), .val (.int ll73), .val (.int (3 : Int32)), .val (.int cc)] [(.int (3 : Int32))])) _
      refine XS.aloadN X65.here hx rfl (hb hby d7_68) rfl rfl ?_
      show Steps p.tables e below (T65.setTop (mkF m 69 #[.val (.int qq), .val (.ref sa), .val (.long tt15), .second, .val (.ref b20), .val (.int ll73), .val (.int (3 : Int32)), .val (.int cc)] [(.ref sa), (.int (3 : Int32))])) _
      refine X65.arraylength hx (by rw [e65]; exact Arc75.1) (State.isArrayOf_alike hZ.alike Arc75.2.1) (g := (mkF m 69 #[.val (.int qq), .val (.ref sa), .val (.long tt15), .second, .val (.ref b20), .val (.int ll73), .val (.int (3 : Int32)), .val (.int cc)] [(.ref sa), (.int (3 : Int32))])) rfl rfl (hb hby d7_69) _ ?_
      rw [show c75.slots.size.toInt32 = (3 : Int32) from (len_of Sc75 Nc75)]
      show Steps p.tables e below (T65.setTop (mkF m 70 #[.val (.int qq), .val (.ref sa), .val (.long tt15), .second, .val (.ref b20), .val (.int ll73), .val (.int (3 : Int32)), .val (.int cc)] [(.int (3 : Int32)), (.int (3 : Int32))])) _
      refine XS.icmpYes X65.here hx rfl (pc0 := 70) (pc' := 105) rfl (hb hby d7_70) rfl (flt (by decide : ¬ ((3 : Int32) < (3 : Int32)))).2.1 (by decide) (by decide) ?_
      show Steps p.tables e below (T65.setTop (mkF m 105 #[.val (.int qq), .val (.ref sa), .val (.long tt15), .second, .val (.ref b20), .val (.int ll73), .val (.int (3 : Int32)), .val (.int cc)] [])) _
      refine XS.iconst X65.here hx rfl (hb hby d7_105) ?_
      show Steps p.tables e below (T65.setTop (mkF m 106 #[.val (.int qq), .val (.ref sa), .val (.long tt15), .second, .val (.ref b20), .val (.int ll73), .val (.int (3 : Int32)), .val (.int cc)] [(.int (0 : Int32))])) _
      refine XS.istore X65.here hx rfl (hb hby d7_106) rfl (l' := #[.val (.int qq), .val (.ref sa), .val (.long tt15), .second, .val (.ref b20), .val (.int ll73), .val (.int (0 : Int32)), .val (.int cc)]) rfl ?_
      show Steps p.tables e below (T65.setTop (mkF m 108 #[.val (.int qq), .val (.ref sa), .val (.long tt15), .second, .val (.ref b20), .val (.int ll73), .val (.int (0 : Int32)), .val (.int cc)] [])) _
      refine XS.iload X65.here hx rfl (hb hby d7_108) rfl ?_
      show Steps p.tables e below (T65.setTop (mkF m 110 #[.val (.int qq), .val (.ref sa), .val (.long tt15), .second, .val (.ref b20), .val (.int ll73), .val (.int (0 : Int32)), .val (.int cc)] [(.int ll73)])) _
      exact k)
    by_cases hc77 : (0 : Int32) < ll73
    · have oc78 := V65
      obtain ⟨c78, Arc78, qc78, Sc78, Nc78, Hc78, Gc78⟩ := oc78
      have hin79 : ¬ ((0 : Int32) < 0 ∨ c78.slots.size ≤ ((0 : Int32)).toNatClampNeg) := (inb_of Sc78 ⟨by decide, by decide⟩)
      have oc80 := V65
      obtain ⟨c80, Arc80, qc80, Sc80, Nc80, Hc80, Gc80⟩ := oc80
      have hin81 : ¬ ((0 : Int32) < 0 ∨ c80.slots.size ≤ ((0 : Int32)).toNatClampNeg) := (inb_of Sc80 ⟨by decide, by decide⟩)
      obtain ⟨T81, h81, X81, e81, W81, st81⟩ := stI X65 hx hZ e65 Arc80 (j := (0 : Int32)) hin81 (g := (mkF m 121 #[.val (.int qq), .val (.ref sa), .val (.long tt15), .second, .val (.ref b20), .val (.int ll73), .val (.int (0 : Int32)), .val (.int cc)] [(.int (gg28 + (1 : Int32))), (.int (0 : Int32)), (.ref b20)])) rfl rfl (hb hby d7_121)
      have V81 : Arv Z h81 b20 k20 .int (3 : Int32) [(.int (gg28 + (1 : Int32))), (.int gg45), (.int gg62)] (.int (0 : Int32)) := Arv.set Arc80 qc80 Sc80 Nc80 Hc80 Gc80 rfl W81 0 rfl (Nat.le_of_ble_eq_true rfl)
      have A82 : Arv Z h81 sa ka .int (3 : Int32) [(.int aa), (.int bb), (.int cc)] (.int (0 : Int32)) := A66.other W81 ne_sa_b20
      have E83 : Exa Z h81 sa "[I" := E67.wr W81
      have E84 : Exa Z h81 b20 "[I" := E68.wr W81
      have N81 := Fr.snoc X81 N65 ge_b20
      have K81 : Keep h0 h81 [] := K65.wr W81 (Or.inr sz_b20)
      have Zs85 : n0 ≤ h81.size := (Nat.le_trans Zs69 (Keep.of_wr W81).1)
      have pre86 := fun (t : State) (k : Steps p.tables e below (T81.setTop (mkF m 110 #[.val (.int qq), .val (.ref sa), .val (.long tt15), .second, .val (.ref b20), .val (.int (ll73 + (-1 : Int32))), .val (.int (1 : Int32)), .val (.int cc)] [(.int (ll73 + (-1 : Int32)))])) t) => pre76 t (by
        refine XS.ifNo X65.here hx rfl (hb hby d7_110) rfl ((if0 _ _).trans (tlt hc77).2.2.2) ?_
        show Steps p.tables e below (T65.setTop (mkF m 113 #[.val (.int qq), .val (.ref sa), .val (.long tt15), .second, .val (.ref b20), .val (.int ll73), .val (.int (0 : Int32)), .val (.int cc)] [])) _
        refine XS.aload X65.here hx rfl (hb hby d7_113) rfl rfl ?_
        show Steps p.tables e below (T65.setTop (mkF m 115 #[.val (.int qq), .val (.ref sa), .val (.long tt15), .second, .val (.ref b20), .val (.int ll73), .val (.int (0 : Int32)), .val (.int cc)] [(.ref b20)])) _
        refine XS.iload X65.here hx rfl (hb hby d7_115) rfl ?_
        show Steps p.tables e below (T65.setTop (mkF m 117 #[.val (.int qq), .val (.ref sa), .val (.long tt15), .second, .val (.ref b20), .val (.int ll73), .val (.int (0 : Int32)), .val (.int cc)] [(.int (0 : Int32)), (.ref b20)])) _
        jvm_step X65.here [X65.here.top, hx, (hb hby d7_117), Value.category]
        show Steps p.tables e below (T65.setTop (mkF m 118 #[.val (.int qq), .val (.ref sa), .val (.long tt15), .second, .val (.ref b20), .val (.int ll73), .val (.int (0 : Int32)), .val (.int cc)] [(.int (0 : Int32)), (.ref b20), (.int (0 : Int32)), (.ref b20)])) _
        refine X65.iaload hx (j := (0 : Int32)) (v := (.int gg28)) (by rw [e65]; exact Arc78.1) (State.isArrayOf_alike hZ.alike Arc78.2.1) Arc78.2.2 hin79 (Has.at Hc78 hin79 rfl) (g := (mkF m 118 #[.val (.int qq), .val (.ref sa), .val (.long tt15), .second, .val (.ref b20), .val (.int ll73), .val (.int (0 : Int32)), .val (.int cc)] [(.int (0 : Int32)), (.ref b20), (.int (0 : Int32)), (.ref b20)])) rfl rfl (hb hby d7_118) _ ?_
        show Steps p.tables e below (T65.setTop (mkF m 119 #[.val (.int qq), .val (.ref sa), .val (.long tt15), .second, .val (.ref b20), .val (.int ll73), .val (.int (0 : Int32)), .val (.int cc)] [(.int gg28), (.int (0 : Int32)), (.ref b20)])) _
        refine XS.iconst X65.here hx rfl (hb hby d7_119) ?_
        show Steps p.tables e below (T65.setTop (mkF m 120 #[.val (.int qq), .val (.ref sa), .val (.long tt15), .second, .val (.ref b20), .val (.int ll73), .val (.int (0 : Int32)), .val (.int cc)] [(.int (1 : Int32)), (.int gg28), (.int (0 : Int32)), (.ref b20)])) _
        refine XS.iadd X65.here hx rfl (hb hby d7_120) rfl ?_
        show Steps p.tables e below (T65.setTop (mkF m 121 #[.val (.int qq), .val (.ref sa), .val (.long tt15), .second, .val (.ref b20), .val (.int ll73), .val (.int (0 : Int32)), .val (.int cc)] [(.int (gg28 + (1 : Int32))), (.int (0 : Int32)), (.ref b20)])) _
        refine st81 _ ?_
        show Steps p.tables e below (T81.setTop (mkF m 122 #[.val (.int qq), .val (.ref sa), .val (.long tt15), .second, .val (.ref b20), .val (.int ll73), .val (.int (0 : Int32)), .val (.int cc)] [])) _
        refine XS.iinc X81.here hx rfl (hb hby d7_122) rfl (l' := #[.val (.int qq), .val (.ref sa), .val (.long tt15), .second, .val (.ref b20), .val (.int (ll73 + (-1 : Int32))), .val (.int (0 : Int32)), .val (.int cc)]) rfl ?_
        show Steps p.tables e below (T81.setTop (mkF m 125 #[.val (.int qq), .val (.ref sa), .val (.long tt15), .second, .val (.ref b20), .val (.int (ll73 + (-1 : Int32))), .val (.int (0 : Int32)), .val (.int cc)] [])) _
        refine XS.iinc X81.here hx rfl (hb hby d7_125) rfl (l' := #[.val (.int qq), .val (.ref sa), .val (.long tt15), .second, .val (.ref b20), .val (.int (ll73 + (-1 : Int32))), .val (.int (1 : Int32)), .val (.int cc)]) rfl ?_
        show Steps p.tables e below (T81.setTop (mkF m 128 #[.val (.int qq), .val (.ref sa), .val (.long tt15), .second, .val (.ref b20), .val (.int (ll73 + (-1 : Int32))), .val (.int (1 : Int32)), .val (.int cc)] [])) _
        refine XS.goto X81.here hx rfl (pc0 := 128) (pc' := 108) rfl (hb hby d7_128) (by decide) (by decide) ?_
        show Steps p.tables e below (T81.setTop (mkF m 108 #[.val (.int qq), .val (.ref sa), .val (.long tt15), .second, .val (.ref b20), .val (.int (ll73 + (-1 : Int32))), .val (.int (1 : Int32)), .val (.int cc)] [])) _
        refine XS.iload X81.here hx rfl (hb hby d7_108) rfl ?_
        show Steps p.tables e below (T81.setTop (mkF m 110 #[.val (.int qq), .val (.ref sa), .val (.long tt15), .second, .val (.ref b20), .val (.int (ll73 + (-1 : Int32))), .val (.int (1 : Int32)), .val (.int cc)] [(.int (ll73 + (-1 : Int32)))])) _
        exact k)
      by_cases hc87 : (0 : Int32) < (ll73 + (-1 : Int32))
      · have oc88 := V81
        obtain ⟨c88, Arc88, qc88, Sc88, Nc88, Hc88, Gc88⟩ := oc88
        have hin89 : ¬ ((1 : Int32) < 0 ∨ c88.slots.size ≤ ((1 : Int32)).toNatClampNeg) := (inb_of Sc88 ⟨by decide, by decide⟩)
        have oc90 := V81
        obtain ⟨c90, Arc90, qc90, Sc90, Nc90, Hc90, Gc90⟩ := oc90
        have hin91 : ¬ ((1 : Int32) < 0 ∨ c90.slots.size ≤ ((1 : Int32)).toNatClampNeg) := (inb_of Sc90 ⟨by decide, by decide⟩)
        obtain ⟨T91, h91, X91, e91, W91, st91⟩ := stI X81 hx hZ e81 Arc90 (j := (1 : Int32)) hin91 (g := (mkF m 121 #[.val (.int qq), .val (.ref sa), .val (.long tt15), .second, .val (.ref b20), .val (.int (ll73 + (-1 : Int32))), .val (.int (1 : Int32)), .val (.int cc)] [(.int (gg45 + (1 : Int32))), (.int (1 : Int32)), (.ref b20)])) rfl rfl (hb hby d7_121)
        have V91 : Arv Z h91 b20 k20 .int (3 : Int32) [(.int (gg28 + (1 : Int32))), (.int (gg45 + (1 : Int32))), (.int gg62)] (.int (0 : Int32)) := Arv.set Arc90 qc90 Sc90 Nc90 Hc90 Gc90 rfl W91 1 rfl (Nat.le_of_ble_eq_true rfl)
        have A92 : Arv Z h91 sa ka .int (3 : Int32) [(.int aa), (.int bb), (.int cc)] (.int (0 : Int32)) := A82.other W91 ne_sa_b20
        have E93 : Exa Z h91 sa "[I" := E83.wr W91
        have E94 : Exa Z h91 b20 "[I" := E84.wr W91
        have N91 := Fr.snoc X91 N81 ge_b20
        have K91 : Keep h0 h91 [] := K81.wr W91 (Or.inr sz_b20)
        have Zs95 : n0 ≤ h91.size := (Nat.le_trans Zs85 (Keep.of_wr W91).1)
        have pre96 := fun (t : State) (k : Steps p.tables e below (T91.setTop (mkF m 133 #[.val (.int qq), .val (.ref sa), .val (.long tt15), .second, .val (.ref b20), .val (.int ((ll73 + (-1 : Int32)) + (-1 : Int32))), .val (.int (2 : Int32)), .val (.int cc)] [(.ref b20)])) t) => pre86 t (by
          refine XS.ifNo X81.here hx rfl (hb hby d7_110) rfl ((if0 _ _).trans (tlt hc87).2.2.2) ?_
          show Steps p.tables e below (T81.setTop (mkF m 113 #[.val (.int qq), .val (.ref sa), .val (.long tt15), .second, .val (.ref b20), .val (.int (ll73 + (-1 : Int32))), .val (.int (1 : Int32)), .val (.int cc)] [])) _
          refine XS.aload X81.here hx rfl (hb hby d7_113) rfl rfl ?_
          show Steps p.tables e below (T81.setTop (mkF m 115 #[.val (.int qq), .val (.ref sa), .val (.long tt15), .second, .val (.ref b20), .val (.int (ll73 + (-1 : Int32))), .val (.int (1 : Int32)), .val (.int cc)] [(.ref b20)])) _
          refine XS.iload X81.here hx rfl (hb hby d7_115) rfl ?_
          show Steps p.tables e below (T81.setTop (mkF m 117 #[.val (.int qq), .val (.ref sa), .val (.long tt15), .second, .val (.ref b20), .val (.int (ll73 + (-1 : Int32))), .val (.int (1 : Int32)), .val (.int cc)] [(.int (1 : Int32)), (.ref b20)])) _
          jvm_step X81.here [X81.here.top, hx, (hb hby d7_117), Value.category]
          show Steps p.tables e below (T81.setTop (mkF m 118 #[.val (.int qq), .val (.ref sa), .val (.long tt15), .second, .val (.ref b20), .val (.int (ll73 + (-1 : Int32))), .val (.int (1 : Int32)), .val (.int cc)] [(.int (1 : Int32)), (.ref b20), (.int (1 : Int32)), (.ref b20)])) _
          refine X81.iaload hx (j := (1 : Int32)) (v := (.int gg45)) (by rw [e81]; exact Arc88.1) (State.isArrayOf_alike hZ.alike Arc88.2.1) Arc88.2.2 hin89 (Has.at Hc88 hin89 rfl) (g := (mkF m 118 #[.val (.int qq), .val (.ref sa), .val (.long tt15), .second, .val (.ref b20), .val (.int (ll73 + (-1 : Int32))), .val (.int (1 : Int32)), .val (.int cc)] [(.int (1 : Int32)), (.ref b20), (.int (1 : Int32)), (.ref b20)])) rfl rfl (hb hby d7_118) _ ?_
          show Steps p.tables e below (T81.setTop (mkF m 119 #[.val (.int qq), .val (.ref sa), .val (.long tt15), .second, .val (.ref b20), .val (.int (ll73 + (-1 : Int32))), .val (.int (1 : Int32)), .val (.int cc)] [(.int gg45), (.int (1 : Int32)), (.ref b20)])) _
          refine XS.iconst X81.here hx rfl (hb hby d7_119) ?_
          show Steps p.tables e below (T81.setTop (mkF m 120 #[.val (.int qq), .val (.ref sa), .val (.long tt15), .second, .val (.ref b20), .val (.int (ll73 + (-1 : Int32))), .val (.int (1 : Int32)), .val (.int cc)] [(.int (1 : Int32)), (.int gg45), (.int (1 : Int32)), (.ref b20)])) _
          refine XS.iadd X81.here hx rfl (hb hby d7_120) rfl ?_
          show Steps p.tables e below (T81.setTop (mkF m 121 #[.val (.int qq), .val (.ref sa), .val (.long tt15), .second, .val (.ref b20), .val (.int (ll73 + (-1 : Int32))), .val (.int (1 : Int32)), .val (.int cc)] [(.int (gg45 + (1 : Int32))), (.int (1 : Int32)), (.ref b20)])) _
          refine st91 _ ?_
          show Steps p.tables e below (T91.setTop (mkF m 122 #[.val (.int qq), .val (.ref sa), .val (.long tt15), .second, .val (.ref b20), .val (.int (ll73 + (-1 : Int32))), .val (.int (1 : Int32)), .val (.int cc)] [])) _
          refine XS.iinc X91.here hx rfl (hb hby d7_122) rfl (l' := #[.val (.int qq), .val (.ref sa), .val (.long tt15), .second, .val (.ref b20), .val (.int ((ll73 + (-1 : Int32)) + (-1 : Int32))), .val (.int (1 : Int32)), .val (.int cc)]) rfl ?_
          show Steps p.tables e below (T91.setTop (mkF m 125 #[.val (.int qq), .val (.ref sa), .val (.long tt15), .second, .val (.ref b20), .val (.int ((ll73 + (-1 : Int32)) + (-1 : Int32))), .val (.int (1 : Int32)), .val (.int cc)] [])) _
          refine XS.iinc X91.here hx rfl (hb hby d7_125) rfl (l' := #[.val (.int qq), .val (.ref sa), .val (.long tt15), .second, .val (.ref b20), .val (.int ((ll73 + (-1 : Int32)) + (-1 : Int32))), .val (.int (2 : Int32)), .val (.int cc)]) rfl ?_
          show Steps p.tables e below (T91.setTop (mkF m 128 #[.val (.int qq), .val (.ref sa), .val (.long tt15), .second, .val (.ref b20), .val (.int ((ll73 + (-1 : Int32)) + (-1 : Int32))), .val (.int (2 : Int32)), .val (.int cc)] [])) _
          refine XS.goto X91.here hx rfl (pc0 := 128) (pc' := 108) rfl (hb hby d7_128) (by decide) (by decide) ?_
          show Steps p.tables e below (T91.setTop (mkF m 108 #[.val (.int qq), .val (.ref sa), .val (.long tt15), .second, .val (.ref b20), .val (.int ((ll73 + (-1 : Int32)) + (-1 : Int32))), .val (.int (2 : Int32)), .val (.int cc)] [])) _
          refine XS.iload X91.here hx rfl (hb hby d7_108) rfl ?_
          show Steps p.tables e below (T91.setTop (mkF m 110 #[.val (.int qq), .val (.ref sa), .val (.long tt15), .second, .val (.ref b20), .val (.int ((ll73 + (-1 : Int32)) + (-1 : Int32))), .val (.int (2 : Int32)), .val (.int cc)] [(.int ((ll73 + (-1 : Int32)) + (-1 : Int32)))])) _
          refine XS.ifYes X91.here hx rfl (pc0 := 110) (pc' := 131) rfl (hb hby d7_110) rfl ((if0 _ _).trans (flt (own_left2 hq ha hb_ hc_ (own_tot_eq h_tt5 h_tt10 h_tt15) hc18 h_gg28 h_gg45 h_gg62 h_ll39 h_ll56 h_ll73 hc77 hc87)).2.2.2) (by decide) (by decide) ?_
          show Steps p.tables e below (T91.setTop (mkF m 131 #[.val (.int qq), .val (.ref sa), .val (.long tt15), .second, .val (.ref b20), .val (.int ((ll73 + (-1 : Int32)) + (-1 : Int32))), .val (.int (2 : Int32)), .val (.int cc)] [])) _
          refine XS.aload X91.here hx rfl (hb hby d7_131) rfl rfl ?_
          show Steps p.tables e below (T91.setTop (mkF m 133 #[.val (.int qq), .val (.ref sa), .val (.long tt15), .second, .val (.ref b20), .val (.int ((ll73 + (-1 : Int32)) + (-1 : Int32))), .val (.int (2 : Int32)), .val (.int cc)] [(.ref b20)])) _
          exact k)
        obtain ⟨fs, hr, hrun, hended, hW, hsame⟩ := X91.leave (v := some (.ref b20)) (hlocks := BodyLoose.notSynchronized Bd) (fun h => by rw [Bd.returns] at h; cases h)
        refine ⟨_, _, pre96 _ ?_, hrun, hended, _, _, rfl, ?_, ⟨_, rfl⟩, hW, hsame.mono (by decide) (by decide)⟩
        · jvm_step X91.here [X91.here.top, hx, (hb hby d7_133), X91.method', Bd.returns, Value.isRef, FieldType.isReference]
          first | (intro acts; rw [hr _ acts rfl rfl rfl]) | rw [hr _ _ rfl rfl rfl]
          exact Steps.refl _
        · show Q_pr Z qq sa ka aa bb cc h0 n0 _ T91.heap _
          rw [e91]
          exact ⟨b20, k20, (gg28 + (1 : Int32)), (gg45 + (1 : Int32)), gg62, rfl, N91, K91, ge_b20, sz_b20, (own_pr2 hq ha hb_ hc_ (own_tot_eq h_tt5 h_tt10 h_tt15) hc18 h_gg28 h_gg45 h_gg62 h_ll39 h_ll56 h_ll73 hc77 hc87), V91⟩
      · have pre97 := fun (t : State) (k : Steps p.tables e below (T81.setTop (mkF m 133 #[.val (.int qq), .val (.ref sa), .val (.long tt15), .second, .val (.ref b20), .val (.int (ll73 + (-1 : Int32))), .val (.int (1 : Int32)), .val (.int cc)] [(.ref b20)])) t) => pre86 t (by
          refine XS.ifYes X81.here hx rfl (pc0 := 110) (pc' := 131) rfl (hb hby d7_110) rfl ((if0 _ _).trans (flt hc87).2.2.2) (by decide) (by decide) ?_
          show Steps p.tables e below (T81.setTop (mkF m 131 #[.val (.int qq), .val (.ref sa), .val (.long tt15), .second, .val (.ref b20), .val (.int (ll73 + (-1 : Int32))), .val (.int (1 : Int32)), .val (.int cc)] [])) _
          refine XS.aload X81.here hx rfl (hb hby d7_131) rfl rfl ?_
          show Steps p.tables e below (T81.setTop (mkF m 133 #[.val (.int qq), .val (.ref sa), .val (.long tt15), .second, .val (.ref b20), .val (.int (ll73 + (-1 : Int32))), .val (.int (1 : Int32)), .val (.int cc)] [(.ref b20)])) _
          exact k)
        obtain ⟨fs, hr, hrun, hended, hW, hsame⟩ := X81.leave (v := some (.ref b20)) (hlocks := BodyLoose.notSynchronized Bd) (fun h => by rw [Bd.returns] at h; cases h)
        refine ⟨_, _, pre97 _ ?_, hrun, hended, _, _, rfl, ?_, ⟨_, rfl⟩, hW, hsame.mono (by decide) (by decide)⟩
        · jvm_step X81.here [X81.here.top, hx, (hb hby d7_133), X81.method', Bd.returns, Value.isRef, FieldType.isReference]
          first | (intro acts; rw [hr _ acts rfl rfl rfl]) | rw [hr _ _ rfl rfl rfl]
          exact Steps.refl _
        · show Q_pr Z qq sa ka aa bb cc h0 n0 _ T81.heap _
          rw [e81]
          exact ⟨b20, k20, (gg28 + (1 : Int32)), gg45, gg62, rfl, N81, K81, ge_b20, sz_b20, (own_pr1 hq ha hb_ hc_ (own_tot_eq h_tt5 h_tt10 h_tt15) hc18 h_gg28 h_gg45 h_gg62 h_ll39 h_ll56 h_ll73 hc77 hc87), V81⟩
    · have pre98 := fun (t : State) (k : Steps p.tables e below (T65.setTop (mkF m 133 #[.val (.int qq), .val (.ref sa), .val (.long tt15), .second, .val (.ref b20), .val (.int ll73), .val (.int (0 : Int32)), .val (.int cc)] [(.ref b20)])) t) => pre76 t (by
        refine XS.ifYes X65.here hx rfl (pc0 := 110) (pc' := 131) rfl (hb hby d7_110) rfl ((if0 _ _).trans (flt hc77).2.2.2) (by decide) (by decide) ?_
        show Steps p.tables e below (T65.setTop (mkF m 131 #[.val (.int qq), .val (.ref sa), .val (.long tt15), .second, .val (.ref b20), .val (.int ll73), .val (.int (0 : Int32)), .val (.int cc)] [])) _
        refine XS.aload X65.here hx rfl (hb hby d7_131) rfl rfl ?_
        show Steps p.tables e below (T65.setTop (mkF m 133 #[.val (.int qq), .val (.ref sa), .val (.long tt15), .second, .val (.ref b20), .val (.int ll73), .val (.int (0 : Int32)), .val (.int cc)] [(.ref b20)])) _
        exact k)
      obtain ⟨fs, hr, hrun, hended, hW, hsame⟩ := X65.leave (v := some (.ref b20)) (hlocks := BodyLoose.notSynchronized Bd) (fun h => by rw [Bd.returns] at h; cases h)
      refine ⟨_, _, pre98 _ ?_, hrun, hended, _, _, rfl, ?_, ⟨_, rfl⟩, hW, hsame.mono (by decide) (by decide)⟩
      · jvm_step X65.here [X65.here.top, hx, (hb hby d7_133), X65.method', Bd.returns, Value.isRef, FieldType.isReference]
        first | (intro acts; rw [hr _ acts rfl rfl rfl]) | rw [hr _ _ rfl rfl rfl]
        exact Steps.refl _
      · show Q_pr Z qq sa ka aa bb cc h0 n0 _ T65.heap _
        rw [e65]
        exact ⟨b20, k20, gg28, gg45, gg62, rfl, N65, K65, ge_b20, sz_b20, (own_pr0 hq ha hb_ hc_ (own_tot_eq h_tt5 h_tt10 h_tt15) hc18 h_gg28 h_gg45 h_gg62 h_ll39 h_ll56 h_ll73 hc77), V65⟩
  · obtain ⟨T99, h99, X99, e99, E99, A99, Ea99, st99⟩ := cloneH X0 hx hZ hown (hw _ (List.mem_of_getElem? (i := 38) rfl)) (hw _ (List.mem_of_getElem? (i := 39) rfl)) (hw _ (List.mem_of_getElem? (i := 43) rfl)) (hw _ (List.mem_of_getElem? (i := 41) rfl)) (hw _ (List.mem_of_getElem? (i := 42) rfl)) (hw _ (List.mem_of_getElem? (i := 44) rfl)) e0 (Arv.arh H0_A) H1_E (g := (mkF m 47 #[.val (.int qq), .val (.ref sa), .val (.long tt15), .second, .val (.ref sa), .val (.int (3 : Int32)), .val (.int (3 : Int32)), .val (.int cc)] [(.ref sa)])) rfl (by rw [hml]; rfl) rfl (hb hby d7_47) (by decide) (W := 0) (cap := 3) (by show 2 * 0 + _ ≤ _; exact Nat.le_of_eq rfl) (by decide) (by decide) (by decide) (by decide)
    obtain ⟨b99, g99⟩ : ∃ z, z = h0.size := ⟨_, rfl⟩
    have ne_sa_b99 : sa ≠ b99 := Nat.ne_of_lt (Nat.lt_of_lt_of_le H0_A.lt (Nat.le_of_eq g99.symm))
    have ge_b99 : n0 ≤ b99 := Nat.le_trans Z0 (Nat.le_of_eq g99.symm)
    have sz_b99 : h0.size ≤ b99 := Nat.le_trans K0.1 (Nat.le_of_eq g99.symm)
    rw [← g99] at A99 Ea99 st99
    have A100 : Arv Z h99 sa ka .int (3 : Int32) [(.int aa), (.int bb), (.int cc)] (.int (0 : Int32)) := H0_A.ext E99
    have E101 : Exa Z h99 sa "[I" := H1_E.ext E99
    have K99 : Keep h0 h99 [] := K0.ext E99
    have Zs102 : n0 ≤ h99.size := (Nat.le_trans Z0 E99.1)
    have V99 : Arv Z h99 b99 ka .int (3 : Int32) [(.int aa), (.int bb), (.int cc)] (.int (0 : Int32)) := A99
    obtain ⟨T103, X103, e103, st103⟩ := castY X99 hx hZ hown (hw _ (List.mem_of_getElem? (i := 45) rfl)) e99 (Ins.self Ea99) (g := (mkF m 50 #[.val (.int qq), .val (.ref sa), .val (.long tt15), .second, .val (.ref sa), .val (.int (3 : Int32)), .val (.int (3 : Int32)), .val (.int cc)] [(.ref b99)])) rfl rfl (hb hby d7_50)
    have pre104 := fun (t : State) (k : Steps p.tables e below (T103.setTop (mkF m 53 #[.val (.int qq), .val (.ref sa), .val (.long tt15), .second, .val (.ref sa), .val (.int (3 : Int32)), .val (.int (3 : Int32)), .val (.int cc)] [(.ref b99)])) t) => pre17 t (by
      refine XS.ifNo X0.here hx rfl (hb hby d7_43) rfl ((if0 _ _).trans (flt hc18).1) ?_
      show Steps p.tables e below (s₁.setTop (mkF m 46 #[.val (.int qq), .val (.ref sa), .val (.long tt15), .second, .val (.ref sa), .val (.int (3 : Int32)), .val (.int (3 : Int32)), .val (.int cc)] [])) _
      refine XS.aloadN X0.here hx rfl (hb hby d7_46) rfl rfl ?_
      show Steps p.tables e below (s₁.setTop (mkF m 47 #[.val (.int qq), .val (.ref sa), .val (.long tt15), .second, .val (.ref sa), .val (.int (3 : Int32)), .val (.int (3 : Int32)), .val (.int cc)] [(.ref sa)])) _
      refine st99 _ ?_
      show Steps p.tables e below (T99.setTop (mkF m 50 #[.val (.int qq), .val (.ref sa), .val (.long tt15), .second, .val (.ref sa), .val (.int (3 : Int32)), .val (.int (3 : Int32)), .val (.int cc)] [(.ref b99)])) _
      refine st103 _ ?_
      show Steps p.tables e below (T103.setTop (mkF m 53 #[.val (.int qq), .val (.ref sa), .val (.long tt15), .second, .val (.ref sa), .val (.int (3 : Int32)), .val (.int (3 : Int32)), .val (.int cc)] [(.ref b99)])) _
      exact k)
    obtain ⟨fs, hr, hrun, hended, hW, hsame⟩ := X103.leave (v := some (.ref b99)) (hlocks := BodyLoose.notSynchronized Bd) (fun h => by rw [Bd.returns] at h; cases h)
    refine ⟨_, _, pre104 _ ?_, hrun, hended, _, _, rfl, ?_, ⟨_, rfl⟩, hW, hsame.mono (by decide) (by decide)⟩
    · jvm_step X103.here [X103.here.top, hx, (hb hby d7_53), X103.method', Bd.returns, Value.isRef, FieldType.isReference]
      first | (intro acts; rw [hr _ acts rfl rfl rfl]) | rw [hr _ _ rfl rfl rfl]
      exact Steps.refl _
    · show Q_pr Z qq sa ka aa bb cc h0 n0 _ T103.heap _
      rw [e103]
      exact ⟨b99, ka, aa, bb, cc, rfl, N0, K99, ge_b99, sz_b99, (own_pr_all hq ha hb_ hc_ (own_tot_eq h_tt5 h_tt10 h_tt15) hc18), V99⟩

theorem ef_shT (m : MethodId) (x0 : Addr) (x1 : Int32) (x2 : Addr) : entryFrame m #[(.ref x0), (.int x1), (.ref x2)] 3 = mkF m 0 #[.val (.ref x0), .val (.int x1), .val (.ref x2)] [] := by first | (simp [entryFrame, mkF, argsToLocals, Value.category]; done) | rfl
def Q_shT (Z : State) (ww : Addr) (qq : Int32) (sa : Addr) (ka : ClassId) (aa : Int32) (bb : Int32) (cc : Int32) (h0 : Heap) (n0 : Nat) (v : Option Value) (h : Heap) (L : List Loc) : Prop := ∃ xx : Addr, ∃ kk : ClassId, ∃ s0 : Int32, ∃ s1 : Int32, ∃ s2 : Int32, v = some (.ref xx) ∧ Fr n0 L ∧ Keep h0 h [] ∧ n0 ≤ xx ∧ h0.size ≤ xx ∧ own_TP qq aa bb cc s0 s1 s2 ∧ Arv Z h xx kk .int (3 : Int32) [(.int s0), (.int s1), (.int s2)] (.int (0 : Int32))
set_option maxRecDepth 65536 in
set_option maxHeartbeats 40000000 in
theorem rm_shT (l : Launch) (Z : State) (a0 : Array Value) (hw : ∀ d ∈ tables_1, d.before a0 Z = true) (ws : List Jvm.Cond) (ww : Addr) (qq : Int32) (sa : Addr) (ka : ClassId) (aa : Int32) (bb : Int32) (cc : Int32) (h0 : Heap) (n0 : Nat) (Z0 : n0 ≤ h0.size) (H0_E : Exa Z h0 ww "com/example/legwork/legwork/Tier") (H1_F : Fld Z h0 ww "com/example/legwork/legwork/Tier" "proRata" "Z" (.int (0 : Int32))) (H2_A : Arv Z h0 sa ka .int (3 : Int32) [(.int aa), (.int bb), (.int cc)] (.int (0 : Int32))) (H3_E : Exa Z h0 sa "[I") (hq : (0 : Int32) < qq) (ha : (0 : Int32) < aa) (hb_ : (0 : Int32) < bb) (hc_ : (0 : Int32) < cc) :
    MetFree l (⟨"com/example/legwork/legwork/Allocation", "share", "(Lcom/example/legwork/legwork/Tier;I[I)[I"⟩ : MethodName) (head1 (Jvm.Cond.code (⟨"com/example/legwork/legwork/Allocation", "share", "(Lcom/example/legwork/legwork/Tier;I[I)[I"⟩ : MethodName) prog_1_method_2_code 3 (some (.array .int)) :: ws) ({ frames := 2, cells := 1, slots := 3, locals := 31 } : Room)) (fun as_ U_ => as_ = #[(.ref ww), (.int qq), (.ref sa)] ∧ Z.Warmed39 U_.vm ∧ U_.heap = h0) (fun _ _ _ _ _ => True) (fun _ U o U' => ∃ v L, o = .returned v ∧ Q_shT Z ww qq sa ka aa bb cc h0 n0 v U'.heap L ∧ FrameEnd U o U' L ({ frames := 2, cells := 1, slots := 3, locals := 31 } : Room).cells ({ frames := 2, cells := 1, slots := 3, locals := 31 } : Room).slots) := by
  refine MetFree.of_bodySF (plainFor_of_name pn_1) hisR ?_
  intro p e s m args below meth c s₁ Bd hml0 hP hK
  obtain ⟨rfl, hZ, hh⟩ := hP
  have hx := Bd.exec
  have hby := Bd.bytes
  have hml : c.maxLocals = 3 := hml0
  have hown : s.vm.findClass "com/example/legwork/legwork/Allocation" = some m.cls := findClass_of_methodNamed Bd.named
  have hnm := (name_of_methodNamed Bd.named Bd.method).1
  have X0 : Stand p l e ({ frames := 2, cells := 1, slots := 3, locals := 31 } : Room) s m #[(.ref ww), (.int qq), (.ref sa)] below meth c s₁ [] 0 0 := Stand.of_body Bd
  have e0 : s₁.heap = h0 := by rw [← hh, Bd.state]; rfl
  have N0 := Fr.nil n0
  have pre0 : ∀ t, Steps p.tables e below (s₁.setTop (mkF m 0 #[.val (.ref ww), .val (.int qq), .val (.ref sa)] [])) t → Steps p.tables e below (s₁.setTop (entryFrame m #[(.ref ww), (.int qq), (.ref sa)] 3)) t := fun t k => castTop (ef_shT m ww qq sa) k
  have K0 : Keep h0 h0 [] := Keep.refl h0 []
  obtain ⟨cq1, kq1, q1a, q1b, q1c⟩ := isOf hZ e0 H0_E
  obtain ⟨_, _, ⟨T1, L1, k1, n1⟩, -, X1, ⟨Lc1, hQ1, l1, y1, z1⟩, st1⟩ := X0.virtualBack hx (y := (⟨"com/example/legwork/legwork/Tier", "isProRata", "()Z"⟩ : MethodName)) (z := (⟨"com/example/legwork/legwork/Tier", "isProRata", "()Z"⟩ : MethodName)) hown (mvT hZ (hw _ (List.mem_of_getElem? (i := 13) rfl))) (mvT hZ (hw _ (List.mem_of_getElem? (i := 14) rfl))) (notFace_of_selects (args := #[]) (mvT hZ (hw _ (List.mem_of_getElem? (i := 16) rfl)))) (mvT hZ (hw _ (List.mem_of_getElem? (i := 16) rfl))) (mvT hZ (hw _ (List.mem_of_getElem? (i := 15) rfl))) (by decide) (backOf (W := 0) (rm_ip l Z a0 hw [] ww (0 : Int32) h0 n0 Z0 H1_F (by decide)) hZ (hw _ (List.mem_of_getElem? (i := 17) rfl)) (hw _ (List.mem_of_getElem? (i := 1) rfl)) (by decide) (by decide)) q1a q1c (g := (mkF m 1 #[.val (.ref ww), .val (.int qq), .val (.ref sa)] [(.ref ww)])) rfl (by rw [hml]; rfl) (Steps.refl _) (argsL := []) (rest := []) (lenOf pd_1 rfl) rfl (by show 2 * 0 + _ ≤ _; exact Nat.le_of_eq rfl) (hb hby d2_1) (fun _ _ => ⟨rfl, e0, (by decide : 0 + 0 ≤ _), (by decide : 0 + 0 ≤ _)⟩)
  dsimp only [Pt.U, Pt.locs, Pt.cells, Pt.slots] at X1 l1 y1 z1 st1 hQ1
  subst l1 y1 z1
  obtain ⟨rfl, N1q, hq2⟩ := hQ1
  have N1 := Fr.app N0 N1q
  obtain ⟨_, _, ⟨T3, L3, k3, n3⟩, -, X3, ⟨Lc3, hQ3, l3, y3, z3⟩, st3⟩ := Jvm.LawKit.callS X1 hx (y := (⟨"com/example/legwork/legwork/Allocation", "timePriority", "(I[I)[I"⟩ : MethodName)) hown (mvT hZ (hw _ (List.mem_of_getElem? (i := 20) rfl))) (mvT hZ (hw _ (List.mem_of_getElem? (i := 21) rfl))) (mvT hZ (hw _ (List.mem_of_getElem? (i := 11) rfl))) (mvT hZ (hw _ (List.mem_of_getElem? (i := 22) rfl))) (by decide) (backOf (W := 0) (rm_tp l Z a0 hw [] qq sa ka aa bb cc h0 n0 Z0 H2_A H3_E hq ha hb_ hc_) hZ (hw _ (List.mem_of_getElem? (i := 22) rfl)) (hw _ (List.mem_of_getElem? (i := 11) rfl)) (by decide) (by decide)) (g := (mkF m 17 #[.val (.ref ww), .val (.int qq), .val (.ref sa)] [(.ref sa), (.int qq)])) rfl (by rw [hml]; rfl) (argsL := [(.int qq), (.ref sa)]) (rest := []) (lenOf pd_2 rfl) rfl (by show 2 * 0 + _ ≤ _; exact Nat.le_of_eq rfl) (hb hby d2_17) (fun _ _ => ⟨rfl, hq2, (by decide : 0 + 1 ≤ _), (by decide : 0 + 3 ≤ _)⟩)
  dsimp only [Pt.U, Pt.locs, Pt.cells, Pt.slots] at X3 l3 y3 z3 st3 hQ3
  subst l3 y3 z3
  obtain ⟨x4, x5, x6, x7, x8, rfl, N3q, hq9, hpq10, hpq11, hpq12, A13⟩ := hQ3
  have N3 := Fr.app N1 N3q
  have lt14 : ww < h0.size := H0_E.lt
  have lt15 : sa < h0.size := H2_A.lt
  have E16 : Exa Z T3.heap ww "com/example/legwork/legwork/Tier" := H0_E.keep hq9
  have F17 : Fld Z T3.heap ww "com/example/legwork/legwork/Tier" "proRata" "Z" (.int (0 : Int32)) := H1_F.keep hq9 nin0
  have A18 : Arv Z T3.heap sa ka .int (3 : Int32) [(.int aa), (.int bb), (.int cc)] (.int (0 : Int32)) := H2_A.keep hq9 nin0
  have E19 : Exa Z T3.heap sa "[I" := H3_E.keep hq9
  have K3 : Keep h0 T3.heap [] := K0.trans hq9 all0
  have Zs20 : n0 ≤ T3.heap.size := (Nat.le_trans Z0 hq9.1)
  have ne21 : ww ≠ x4 := Nat.ne_of_lt (Nat.lt_of_lt_of_le lt14 hpq11)
  have ne22 : sa ≠ x4 := Nat.ne_of_lt (Nat.lt_of_lt_of_le lt15 hpq11)
  have sz23 : h0.size ≤ x4 := Nat.le_trans K0.1 hpq11
  have pre24 := fun (t : State) (k : Steps p.tables e below (T3.setTop (mkF m 20 #[.val (.ref ww), .val (.int qq), .val (.ref sa)] [(.ref x4)])) t) => pre0 t (by
    refine XS.aloadN X0.here hx rfl (hb hby d2_0) rfl rfl ?_
    show Steps p.tables e below (s₁.setTop (mkF m 1 #[.val (.ref ww), .val (.int qq), .val (.ref sa)] [(.ref ww)])) _
    refine st1.trans ?_
    show Steps p.tables e below (T1.setTop (mkF m 4 #[.val (.ref ww), .val (.int qq), .val (.ref sa)] [(.int (0 : Int32))])) _
    refine XS.ifYes X1.here hx rfl (pc0 := 4) (pc' := 15) rfl (hb hby d2_4) rfl ((if0 _ _).trans (teq (by decide : (0 : Int32) = (0 : Int32))).1) (by decide) (by decide) ?_
    show Steps p.tables e below (T1.setTop (mkF m 15 #[.val (.ref ww), .val (.int qq), .val (.ref sa)] [])) _
    refine XS.iloadN X1.here hx rfl (hb hby d2_15) rfl ?_
    show Steps p.tables e below (T1.setTop (mkF m 16 #[.val (.ref ww), .val (.int qq), .val (.ref sa)] [(.int qq)])) _
    refine XS.aloadN X1.here hx rfl (hb hby d2_16) rfl rfl ?_
    show Steps p.tables e below (T1.setTop (mkF m 17 #[.val (.ref ww), .val (.int qq), .val (.ref sa)] [(.ref sa), (.int qq)])) _
    refine st3 _ ?_
    show Steps p.tables e below (T3.setTop (mkF m 20 #[.val (.ref ww), .val (.int qq), .val (.ref sa)] [(.ref x4)])) _
    exact k)
  obtain ⟨fs, hr, hrun, hended, hW, hsame⟩ := X3.leave (v := some (.ref x4)) (hlocks := BodyLoose.notSynchronized Bd) (fun h => by rw [Bd.returns] at h; cases h)
  refine ⟨_, _, pre24 _ ?_, hrun, hended, _, _, rfl, ?_, ⟨_, rfl⟩, hW, hsame.mono (by decide) (by decide)⟩
  · jvm_step X3.here [X3.here.top, hx, (hb hby d2_20), X3.method', Bd.returns, Value.isRef, FieldType.isReference]
    first | (intro acts; rw [hr _ acts rfl rfl rfl]) | rw [hr _ _ rfl rfl rfl]
    exact Steps.refl _
  · show Q_shT Z ww qq sa ka aa bb cc h0 n0 _ T3.heap _
    exact ⟨x4, x5, x6, x7, x8, rfl, N3, K3, hpq10, sz23, hpq12, A13⟩

theorem ef_shP (m : MethodId) (x0 : Addr) (x1 : Int32) (x2 : Addr) : entryFrame m #[(.ref x0), (.int x1), (.ref x2)] 3 = mkF m 0 #[.val (.ref x0), .val (.int x1), .val (.ref x2)] [] := by first | (simp [entryFrame, mkF, argsToLocals, Value.category]; done) | rfl
def Q_shP (Z : State) (ww : Addr) (qq : Int32) (sa : Addr) (ka : ClassId) (aa : Int32) (bb : Int32) (cc : Int32) (h0 : Heap) (n0 : Nat) (v : Option Value) (h : Heap) (L : List Loc) : Prop := ∃ xx : Addr, ∃ kk : ClassId, ∃ s0 : Int32, ∃ s1 : Int32, ∃ s2 : Int32, v = some (.ref xx) ∧ Fr n0 L ∧ Keep h0 h [] ∧ n0 ≤ xx ∧ h0.size ≤ xx ∧ own_PR qq aa bb cc s0 s1 s2 ∧ Arv Z h xx kk .int (3 : Int32) [(.int s0), (.int s1), (.int s2)] (.int (0 : Int32))
set_option maxRecDepth 65536 in
set_option maxHeartbeats 40000000 in
theorem rm_shP (l : Launch) (Z : State) (a0 : Array Value) (hw : ∀ d ∈ tables_1, d.before a0 Z = true) (ws : List Jvm.Cond) (ww : Addr) (qq : Int32) (sa : Addr) (ka : ClassId) (aa : Int32) (bb : Int32) (cc : Int32) (h0 : Heap) (n0 : Nat) (Z0 : n0 ≤ h0.size) (H0_E : Exa Z h0 ww "com/example/legwork/legwork/Tier") (H1_F : Fld Z h0 ww "com/example/legwork/legwork/Tier" "proRata" "Z" (.int (1 : Int32))) (H2_A : Arv Z h0 sa ka .int (3 : Int32) [(.int aa), (.int bb), (.int cc)] (.int (0 : Int32))) (H3_E : Exa Z h0 sa "[I") (hq : (0 : Int32) < qq) (ha : (0 : Int32) < aa) (hb_ : (0 : Int32) < bb) (hc_ : (0 : Int32) < cc) :
    MetFree l (⟨"com/example/legwork/legwork/Allocation", "share", "(Lcom/example/legwork/legwork/Tier;I[I)[I"⟩ : MethodName) (head1 (Jvm.Cond.code (⟨"com/example/legwork/legwork/Allocation", "share", "(Lcom/example/legwork/legwork/Tier;I[I)[I"⟩ : MethodName) prog_1_method_2_code 3 (some (.array .int)) :: ws) ({ frames := 2, cells := 1, slots := 3, locals := 33 } : Room)) (fun as_ U_ => as_ = #[(.ref ww), (.int qq), (.ref sa)] ∧ Z.Warmed39 U_.vm ∧ U_.heap = h0) (fun _ _ _ _ _ => True) (fun _ U o U' => ∃ v L, o = .returned v ∧ Q_shP Z ww qq sa ka aa bb cc h0 n0 v U'.heap L ∧ FrameEnd U o U' L ({ frames := 2, cells := 1, slots := 3, locals := 33 } : Room).cells ({ frames := 2, cells := 1, slots := 3, locals := 33 } : Room).slots) := by
  refine MetFree.of_bodySF (plainFor_of_name pn_1) hisR ?_
  intro p e s m args below meth c s₁ Bd hml0 hP hK
  obtain ⟨rfl, hZ, hh⟩ := hP
  have hx := Bd.exec
  have hby := Bd.bytes
  have hml : c.maxLocals = 3 := hml0
  have hown : s.vm.findClass "com/example/legwork/legwork/Allocation" = some m.cls := findClass_of_methodNamed Bd.named
  have hnm := (name_of_methodNamed Bd.named Bd.method).1
  have X0 : Stand p l e ({ frames := 2, cells := 1, slots := 3, locals := 33 } : Room) s m #[(.ref ww), (.int qq), (.ref sa)] below meth c s₁ [] 0 0 := Stand.of_body Bd
  have e0 : s₁.heap = h0 := by rw [← hh, Bd.state]; rfl
  have N0 := Fr.nil n0
  have pre0 : ∀ t, Steps p.tables e below (s₁.setTop (mkF m 0 #[.val (.ref ww), .val (.int qq), .val (.ref sa)] [])) t → Steps p.tables e below (s₁.setTop (entryFrame m #[(.ref ww), (.int qq), (.ref sa)] 3)) t := fun t k => castTop (ef_shP m ww qq sa) k
  have K0 : Keep h0 h0 [] := Keep.refl h0 []
  obtain ⟨cq1, kq1, q1a, q1b, q1c⟩ := isOf hZ e0 H0_E
  obtain ⟨_, _, ⟨T1, L1, k1, n1⟩, -, X1, ⟨Lc1, hQ1, l1, y1, z1⟩, st1⟩ := X0.virtualBack hx (y := (⟨"com/example/legwork/legwork/Tier", "isProRata", "()Z"⟩ : MethodName)) (z := (⟨"com/example/legwork/legwork/Tier", "isProRata", "()Z"⟩ : MethodName)) hown (mvT hZ (hw _ (List.mem_of_getElem? (i := 13) rfl))) (mvT hZ (hw _ (List.mem_of_getElem? (i := 14) rfl))) (notFace_of_selects (args := #[]) (mvT hZ (hw _ (List.mem_of_getElem? (i := 16) rfl)))) (mvT hZ (hw _ (List.mem_of_getElem? (i := 16) rfl))) (mvT hZ (hw _ (List.mem_of_getElem? (i := 15) rfl))) (by decide) (backOf (W := 0) (rm_ip l Z a0 hw [] ww (1 : Int32) h0 n0 Z0 H1_F (by decide)) hZ (hw _ (List.mem_of_getElem? (i := 17) rfl)) (hw _ (List.mem_of_getElem? (i := 1) rfl)) (by decide) (by decide)) q1a q1c (g := (mkF m 1 #[.val (.ref ww), .val (.int qq), .val (.ref sa)] [(.ref ww)])) rfl (by rw [hml]; rfl) (Steps.refl _) (argsL := []) (rest := []) (lenOf pd_1 rfl) rfl (by show 2 * 0 + _ ≤ _; exact Nat.le_of_eq rfl) (hb hby d2_1) (fun _ _ => ⟨rfl, e0, (by decide : 0 + 0 ≤ _), (by decide : 0 + 0 ≤ _)⟩)
  dsimp only [Pt.U, Pt.locs, Pt.cells, Pt.slots] at X1 l1 y1 z1 st1 hQ1
  subst l1 y1 z1
  obtain ⟨rfl, N1q, hq2⟩ := hQ1
  have N1 := Fr.app N0 N1q
  obtain ⟨_, _, ⟨T3, L3, k3, n3⟩, -, X3, ⟨Lc3, hQ3, l3, y3, z3⟩, st3⟩ := Jvm.LawKit.callS X1 hx (y := (⟨"com/example/legwork/legwork/Allocation", "proRata", "(I[I)[I"⟩ : MethodName)) hown (mvT hZ (hw _ (List.mem_of_getElem? (i := 33) rfl))) (mvT hZ (hw _ (List.mem_of_getElem? (i := 34) rfl))) (mvT hZ (hw _ (List.mem_of_getElem? (i := 11) rfl))) (mvT hZ (hw _ (List.mem_of_getElem? (i := 35) rfl))) (by decide) (backOf (W := 0) (rm_pr l Z a0 hw [] qq sa ka aa bb cc h0 n0 Z0 H2_A H3_E hq ha hb_ hc_) hZ (hw _ (List.mem_of_getElem? (i := 35) rfl)) (hw _ (List.mem_of_getElem? (i := 11) rfl)) (by decide) (by decide)) (g := (mkF m 9 #[.val (.ref ww), .val (.int qq), .val (.ref sa)] [(.ref sa), (.int qq)])) rfl (by rw [hml]; rfl) (argsL := [(.int qq), (.ref sa)]) (rest := []) (lenOf pd_2 rfl) rfl (by show 2 * 0 + _ ≤ _; exact Nat.le_of_eq rfl) (hb hby d2_9) (fun _ _ => ⟨rfl, hq2, (by decide : 0 + 1 ≤ _), (by decide : 0 + 3 ≤ _)⟩)
  dsimp only [Pt.U, Pt.locs, Pt.cells, Pt.slots] at X3 l3 y3 z3 st3 hQ3
  subst l3 y3 z3
  obtain ⟨x4, x5, x6, x7, x8, rfl, N3q, hq9, hpq10, hpq11, hpq12, A13⟩ := hQ3
  have N3 := Fr.app N1 N3q
  have lt14 : ww < h0.size := H0_E.lt
  have lt15 : sa < h0.size := H2_A.lt
  have E16 : Exa Z T3.heap ww "com/example/legwork/legwork/Tier" := H0_E.keep hq9
  have F17 : Fld Z T3.heap ww "com/example/legwork/legwork/Tier" "proRata" "Z" (.int (1 : Int32)) := H1_F.keep hq9 nin0
  have A18 : Arv Z T3.heap sa ka .int (3 : Int32) [(.int aa), (.int bb), (.int cc)] (.int (0 : Int32)) := H2_A.keep hq9 nin0
  have E19 : Exa Z T3.heap sa "[I" := H3_E.keep hq9
  have K3 : Keep h0 T3.heap [] := K0.trans hq9 all0
  have Zs20 : n0 ≤ T3.heap.size := (Nat.le_trans Z0 hq9.1)
  have ne21 : ww ≠ x4 := Nat.ne_of_lt (Nat.lt_of_lt_of_le lt14 hpq11)
  have ne22 : sa ≠ x4 := Nat.ne_of_lt (Nat.lt_of_lt_of_le lt15 hpq11)
  have sz23 : h0.size ≤ x4 := Nat.le_trans K0.1 hpq11
  have pre24 := fun (t : State) (k : Steps p.tables e below (T3.setTop (mkF m 20 #[.val (.ref ww), .val (.int qq), .val (.ref sa)] [(.ref x4)])) t) => pre0 t (by
    refine XS.aloadN X0.here hx rfl (hb hby d2_0) rfl rfl ?_
    show Steps p.tables e below (s₁.setTop (mkF m 1 #[.val (.ref ww), .val (.int qq), .val (.ref sa)] [(.ref ww)])) _
    refine st1.trans ?_
    show Steps p.tables e below (T1.setTop (mkF m 4 #[.val (.ref ww), .val (.int qq), .val (.ref sa)] [(.int (1 : Int32))])) _
    refine XS.ifNo X1.here hx rfl (hb hby d2_4) rfl ((if0 _ _).trans (feq (by decide : ¬ ((1 : Int32) = (0 : Int32)))).1) ?_
    show Steps p.tables e below (T1.setTop (mkF m 7 #[.val (.ref ww), .val (.int qq), .val (.ref sa)] [])) _
    refine XS.iloadN X1.here hx rfl (hb hby d2_7) rfl ?_
    show Steps p.tables e below (T1.setTop (mkF m 8 #[.val (.ref ww), .val (.int qq), .val (.ref sa)] [(.int qq)])) _
    refine XS.aloadN X1.here hx rfl (hb hby d2_8) rfl rfl ?_
    show Steps p.tables e below (T1.setTop (mkF m 9 #[.val (.ref ww), .val (.int qq), .val (.ref sa)] [(.ref sa), (.int qq)])) _
    refine st3 _ ?_
    show Steps p.tables e below (T3.setTop (mkF m 12 #[.val (.ref ww), .val (.int qq), .val (.ref sa)] [(.ref x4)])) _
    refine XS.goto X3.here hx rfl (pc0 := 12) (pc' := 20) rfl (hb hby d2_12) (by decide) (by decide) ?_
    show Steps p.tables e below (T3.setTop (mkF m 20 #[.val (.ref ww), .val (.int qq), .val (.ref sa)] [(.ref x4)])) _
    exact k)
  obtain ⟨fs, hr, hrun, hended, hW, hsame⟩ := X3.leave (v := some (.ref x4)) (hlocks := BodyLoose.notSynchronized Bd) (fun h => by rw [Bd.returns] at h; cases h)
  refine ⟨_, _, pre24 _ ?_, hrun, hended, _, _, rfl, ?_, ⟨_, rfl⟩, hW, hsame.mono (by decide) (by decide)⟩
  · jvm_step X3.here [X3.here.top, hx, (hb hby d2_20), X3.method', Bd.returns, Value.isRef, FieldType.isReference]
    first | (intro acts; rw [hr _ acts rfl rfl rfl]) | rw [hr _ _ rfl rfl rfl]
    exact Steps.refl _
  · show Q_shP Z ww qq sa ka aa bb cc h0 n0 _ T3.heap _
    exact ⟨x4, x5, x6, x7, x8, rfl, N3, K3, hpq10, sz23, hpq12, A13⟩

theorem ef_law (m : MethodId) (x0 : Int32) (x1 : Int32) (x2 : Int32) (x3 : Int32) (x4 : Int32) : entryFrame m #[(.int x0), (.int x1), (.int x2), (.int x3), (.int x4)] maxLocals = mkF m 0 #[.val (.int x0), .val (.int x1), .val (.int x2), .val (.int x3), .val (.int x4), .unset, .unset, .unset, .unset, .unset, .unset, .unset, .unset, .unset, .unset, .unset, .unset, .unset, .unset, .unset, .unset, .unset, .unset, .unset, .unset, .unset, .unset, .unset, .unset, .unset, .unset, .unset, .unset, .unset] [] := by first | (simp [entryFrame, mkF, argsToLocals, Value.category, maxLocals]; done) | rfl
def Q_law (Z : State) (p1 : Int32) (p2 : Int32) (p3 : Int32) (p4 : Int32) (p5 : Int32) (w0 : Addr) (w1 : Addr) (w2 : Addr) (w3 : Addr) (h0 : Heap) (n0 : Nat) (v : Option Value) (h : Heap) (L : List Loc) : Prop := v = some (.int (1 : Int32)) ∧ Fr n0 L ∧ Keep h0 h []
set_option maxRecDepth 65536 in
set_option maxHeartbeats 40000000 in
theorem rm_law (l : Launch) (Z : State) (a0 : Array Value) (hw : ∀ d ∈ tables_1, d.before a0 Z = true) (ws : List Jvm.Cond) (p1 : Int32) (p2 : Int32) (p3 : Int32) (p4 : Int32) (p5 : Int32) (w0 : Addr) (w1 : Addr) (w2 : Addr) (w3 : Addr) (h0 : Heap) (n0 : Nat) (Z0 : n0 ≤ h0.size) (H0_S : Sta Z h0 "com/example/legwork/legwork/Tier" "CUSTOMER" "Lcom/example/legwork/legwork/Tier;" (.ref w0)) (H1_S : Sta Z h0 "com/example/legwork/legwork/Tier" "MARKET_MAKER" "Lcom/example/legwork/legwork/Tier;" (.ref w1)) (H2_S : Sta Z h0 "com/example/legwork/legwork/Tier" "OTHER" "Lcom/example/legwork/legwork/Tier;" (.ref w2)) (H3_S : Sta Z h0 "com/example/legwork/legwork/Tier" "LEGGING" "Lcom/example/legwork/legwork/Tier;" (.ref w3)) (H4_E : Exa Z h0 w0 "com/example/legwork/legwork/Tier") (H5_E : Exa Z h0 w1 "com/example/legwork/legwork/Tier") (H6_E : Exa Z h0 w2 "com/example/legwork/legwork/Tier") (H7_E : Exa Z h0 w3 "com/example/legwork/legwork/Tier") (H8_F : Fld Z h0 w0 "com/example/legwork/legwork/Tier" "proRata" "Z" (.int (0 : Int32))) (H9_F : Fld Z h0 w1 "com/example/legwork/legwork/Tier" "proRata" "Z" (.int (1 : Int32))) (H10_F : Fld Z h0 w2 "com/example/legwork/legwork/Tier" "proRata" "Z" (.int (1 : Int32))) (H11_F : Fld Z h0 w3 "com/example/legwork/legwork/Tier" "proRata" "Z" (.int (0 : Int32))) :
    MetFree l x (head1 (Jvm.Cond.code x code maxLocals ret :: ws) room_1) (fun as_ U_ => as_ = #[(.int p1), (.int p2), (.int p3), (.int p4), (.int p5)] ∧ Z.Warmed39 U_.vm ∧ U_.heap = h0) (fun _ _ _ _ _ => True) (fun _ U o U' => ∃ v L, o = .returned v ∧ Q_law Z p1 p2 p3 p4 p5 w0 w1 w2 w3 h0 n0 v U'.heap L ∧ FrameEnd U o U' L 2 6) := by
  refine MetFree.of_bodySF (plainFor_of_name pn_2) hisR ?_
  intro p e s m args below meth c s₁ Bd hml0 hP hK
  obtain ⟨rfl, hZ, hh⟩ := hP
  have hx := Bd.exec
  have hby := Bd.bytes
  have hml : c.maxLocals = 34 := hml0
  have hown : s.vm.findClass "com/example/legwork/legwork/AllocationSharePinLaw" = some m.cls := findClass_of_methodNamed Bd.named
  have hnm := (name_of_methodNamed Bd.named Bd.method).1
  have X0 : Stand p l e room_1 s m #[(.int p1), (.int p2), (.int p3), (.int p4), (.int p5)] below meth c s₁ [] 0 0 := Stand.of_body Bd
  have e0 : s₁.heap = h0 := by rw [← hh, Bd.state]; rfl
  have N0 := Fr.nil n0
  have pre0 : ∀ t, Steps p.tables e below (s₁.setTop (mkF m 0 #[.val (.int p1), .val (.int p2), .val (.int p3), .val (.int p4), .val (.int p5), .unset, .unset, .unset, .unset, .unset, .unset, .unset, .unset, .unset, .unset, .unset, .unset, .unset, .unset, .unset, .unset, .unset, .unset, .unset, .unset, .unset, .unset, .unset, .unset, .unset, .unset, .unset, .unset, .unset] [])) t → Steps p.tables e below (s₁.setTop (entryFrame m #[(.int p1), (.int p2), (.int p3), (.int p4), (.int p5)] maxLocals)) t := fun t k => castTop (ef_law m p1 p2 p3 p4 p5) k
  have K0 : Keep h0 h0 [] := Keep.refl h0 []
  have tl0 : ∀ (ww : Addr) (T_tl0 : State) (Lt_tl0 : List Loc) (N_tl0 : Fr n0 Lt_tl0) (X_tl0 : Stand p l e room_1 s m #[(.int p1), (.int p2), (.int p3), (.int p4), (.int p5)] below meth c T_tl0 Lt_tl0 0 0) (e_tl0 : T_tl0.heap = h0) (tl0_0 : Exa Z h0 ww "com/example/legwork/legwork/Tier") (tl0_1 : Fld Z h0 ww "com/example/legwork/legwork/Tier" "proRata" "Z" (.int (0 : Int32))), ∃ s₂ o, Steps p.tables e below (T_tl0.setTop (mkF m 70 #[.val (.int p1), .val (.int p2), .val (.int p3), .val (.int p4), .val (.int p5), .val (.int (p1 &&& (3 : Int32))), .val (.ref ww), .val (.int (0 : Int32)), .unset, .unset, .unset, .unset, .unset, .unset, .unset, .unset, .unset, .unset, .unset, .unset, .unset, .unset, .unset, .unset, .unset, .unset, .unset, .unset, .unset, .unset, .unset, .unset, .unset, .unset] [])) s₂ ∧ s₂.status = .running ∧ Ended s₂ below o ∧ ∃ v L, o = .returned v ∧ Q_law Z p1 p2 p3 p4 p5 w0 w1 w2 w3 h0 n0 v s₂.heap L ∧ FrameEnd s o s₂ L 2 6 := by
    intro ww T_tl0 Lt_tl0 N_tl0 X_tl0 e_tl0 tl0_0 tl0_1
    have pre_tl0 := fun (t : State) (k : Steps p.tables e below (T_tl0.setTop (mkF m 70 #[.val (.int p1), .val (.int p2), .val (.int p3), .val (.int p4), .val (.int p5), .val (.int (p1 &&& (3 : Int32))), .val (.ref ww), .val (.int (0 : Int32)), .unset, .unset, .unset, .unset, .unset, .unset, .unset, .unset, .unset, .unset, .unset, .unset, .unset, .unset, .unset, .unset, .unset, .unset, .unset, .unset, .unset, .unset, .unset, .unset, .unset, .unset] [])) t) => k
    obtain ⟨_, _, ⟨T1, L1, k1, n1⟩, -, X1, ⟨Lc1, hQ1, l1, y1, z1⟩, st1⟩ := Jvm.LawKit.callS X_tl0 hx (y := (⟨"java/lang/Math", "max", "(II)I"⟩ : MethodName)) hown (mvT hZ (hw _ (List.mem_of_getElem? (i := 4) rfl))) (mvT hZ (hw _ (List.mem_of_getElem? (i := 5) rfl))) (mvT hZ (hw _ (List.mem_of_getElem? (i := 6) rfl))) (mvT hZ (hw _ (List.mem_of_getElem? (i := 7) rfl))) (by decide) (backOf (W := 0) (rm_mx l Z a0 hw [] (1 : Int32) (p2 &&& (2147483647 : Int32)) h0 n0 Z0 ) hZ (hw _ (List.mem_of_getElem? (i := 7) rfl)) (hw _ (List.mem_of_getElem? (i := 6) rfl)) (by decide) (by decide)) (g := (mkF m 75 #[.val (.int p1), .val (.int p2), .val (.int p3), .val (.int p4), .val (.int p5), .val (.int (p1 &&& (3 : Int32))), .val (.ref ww), .val (.int (0 : Int32)), .unset, .unset, .unset, .unset, .unset, .unset, .unset, .unset, .unset, .unset, .unset, .unset, .unset, .unset, .unset, .unset, .unset, .unset, .unset, .unset, .unset, .unset, .unset, .unset, .unset, .unset] [(.int (p2 &&& (2147483647 : Int32))), (.int (1 : Int32))])) rfl (by rw [hml]; rfl) (argsL := [(.int (1 : Int32)), (.int (p2 &&& (2147483647 : Int32)))]) (rest := []) (lenOf pd_0 rfl) rfl (by show 2 * 0 + _ ≤ _; exact Nat.le_of_eq rfl) (hb hby at_75) (fun _ _ => ⟨rfl, e_tl0, (by decide : 0 + 0 ≤ _), (by decide : 0 + 0 ≤ _)⟩)
    dsimp only [Pt.U, Pt.locs, Pt.cells, Pt.slots] at X1 l1 y1 z1 st1 hQ1
    subst l1 y1 z1
    obtain ⟨x2, rfl, N1q, hq3, hpq4⟩ := hQ1
    have N1 := Fr.app N_tl0 N1q
    obtain ⟨_, _, ⟨T5, L5, k5, n5⟩, -, X5, ⟨Lc5, hQ5, l5, y5, z5⟩, st5⟩ := Jvm.LawKit.callS X1 hx (y := (⟨"java/lang/Math", "max", "(II)I"⟩ : MethodName)) hown (mvT hZ (hw _ (List.mem_of_getElem? (i := 4) rfl))) (mvT hZ (hw _ (List.mem_of_getElem? (i := 5) rfl))) (mvT hZ (hw _ (List.mem_of_getElem? (i := 6) rfl))) (mvT hZ (hw _ (List.mem_of_getElem? (i := 7) rfl))) (by decide) (backOf (W := 0) (rm_mx l Z a0 hw [] (1 : Int32) (p3 &&& (2147483647 : Int32)) h0 n0 Z0 ) hZ (hw _ (List.mem_of_getElem? (i := 7) rfl)) (hw _ (List.mem_of_getElem? (i := 6) rfl)) (by decide) (by decide)) (g := (mkF m 85 #[.val (.int p1), .val (.int p2), .val (.int p3), .val (.int p4), .val (.int p5), .val (.int (p1 &&& (3 : Int32))), .val (.ref ww), .val (.int (0 : Int32)), .val (.int x2), .unset, .unset, .unset, .unset, .unset, .unset, .unset, .unset, .unset, .unset, .unset, .unset, .unset, .unset, .unset, .unset, .unset, .unset, .unset, .unset, .unset, .unset, .unset, .unset, .unset] [(.int (p3 &&& (2147483647 : Int32))), (.int (1 : Int32))])) rfl (by rw [hml]; rfl) (argsL := [(.int (1 : Int32)), (.int (p3 &&& (2147483647 : Int32)))]) (rest := []) (lenOf pd_0 rfl) rfl (by show 2 * 0 + _ ≤ _; exact Nat.le_of_eq rfl) (hb hby at_85) (fun _ _ => ⟨rfl, hq3, (by decide : 0 + 0 ≤ _), (by decide : 0 + 0 ≤ _)⟩)
    dsimp only [Pt.U, Pt.locs, Pt.cells, Pt.slots] at X5 l5 y5 z5 st5 hQ5
    subst l5 y5 z5
    obtain ⟨x6, rfl, N5q, hq7, hpq8⟩ := hQ5
    have N5 := Fr.app N1 N5q
    obtain ⟨_, _, ⟨T9, L9, k9, n9⟩, -, X9, ⟨Lc9, hQ9, l9, y9, z9⟩, st9⟩ := Jvm.LawKit.callS X5 hx (y := (⟨"java/lang/Math", "max", "(II)I"⟩ : MethodName)) hown (mvT hZ (hw _ (List.mem_of_getElem? (i := 4) rfl))) (mvT hZ (hw _ (List.mem_of_getElem? (i := 5) rfl))) (mvT hZ (hw _ (List.mem_of_getElem? (i := 6) rfl))) (mvT hZ (hw _ (List.mem_of_getElem? (i := 7) rfl))) (by decide) (backOf (W := 0) (rm_mx l Z a0 hw [] (1 : Int32) (p4 &&& (2147483647 : Int32)) h0 n0 Z0 ) hZ (hw _ (List.mem_of_getElem? (i := 7) rfl)) (hw _ (List.mem_of_getElem? (i := 6) rfl)) (by decide) (by decide)) (g := (mkF m 95 #[.val (.int p1), .val (.int p2), .val (.int p3), .val (.int p4), .val (.int p5), .val (.int (p1 &&& (3 : Int32))), .val (.ref ww), .val (.int (0 : Int32)), .val (.int x2), .val (.int x6), .unset, .unset, .unset, .unset, .unset, .unset, .unset, .unset, .unset, .unset, .unset, .unset, .unset, .unset, .unset, .unset, .unset, .unset, .unset, .unset, .unset, .unset, .unset, .unset] [(.int (p4 &&& (2147483647 : Int32))), (.int (1 : Int32))])) rfl (by rw [hml]; rfl) (argsL := [(.int (1 : Int32)), (.int (p4 &&& (2147483647 : Int32)))]) (rest := []) (lenOf pd_0 rfl) rfl (by show 2 * 0 + _ ≤ _; exact Nat.le_of_eq rfl) (hb hby at_95) (fun _ _ => ⟨rfl, hq7, (by decide : 0 + 0 ≤ _), (by decide : 0 + 0 ≤ _)⟩)
    dsimp only [Pt.U, Pt.locs, Pt.cells, Pt.slots] at X9 l9 y9 z9 st9 hQ9
    subst l9 y9 z9
    obtain ⟨x10, rfl, N9q, hq11, hpq12⟩ := hQ9
    have N9 := Fr.app N5 N9q
    obtain ⟨_, _, ⟨T13, L13, k13, n13⟩, -, X13, ⟨Lc13, hQ13, l13, y13, z13⟩, st13⟩ := Jvm.LawKit.callS X9 hx (y := (⟨"java/lang/Math", "max", "(II)I"⟩ : MethodName)) hown (mvT hZ (hw _ (List.mem_of_getElem? (i := 4) rfl))) (mvT hZ (hw _ (List.mem_of_getElem? (i := 5) rfl))) (mvT hZ (hw _ (List.mem_of_getElem? (i := 6) rfl))) (mvT hZ (hw _ (List.mem_of_getElem? (i := 7) rfl))) (by decide) (backOf (W := 0) (rm_mx l Z a0 hw [] (1 : Int32) (p5 &&& (2147483647 : Int32)) h0 n0 Z0 ) hZ (hw _ (List.mem_of_getElem? (i := 7) rfl)) (hw _ (List.mem_of_getElem? (i := 6) rfl)) (by decide) (by decide)) (g := (mkF m 106 #[.val (.int p1), .val (.int p2), .val (.int p3), .val (.int p4), .val (.int p5), .val (.int (p1 &&& (3 : Int32))), .val (.ref ww), .val (.int (0 : Int32)), .val (.int x2), .val (.int x6), .val (.int x10), .unset, .unset, .unset, .unset, .unset, .unset, .unset, .unset, .unset, .unset, .unset, .unset, .unset, .unset, .unset, .unset, .unset, .unset, .unset, .unset, .unset, .unset, .unset] [(.int (p5 &&& (2147483647 : Int32))), (.int (1 : Int32))])) rfl (by rw [hml]; rfl) (argsL := [(.int (1 : Int32)), (.int (p5 &&& (2147483647 : Int32)))]) (rest := []) (lenOf pd_0 rfl) rfl (by show 2 * 0 + _ ≤ _; exact Nat.le_of_eq rfl) (hb hby at_106) (fun _ _ => ⟨rfl, hq11, (by decide : 0 + 0 ≤ _), (by decide : 0 + 0 ≤ _)⟩)
    dsimp only [Pt.U, Pt.locs, Pt.cells, Pt.slots] at X13 l13 y13 z13 st13 hQ13
    subst l13 y13 z13
    obtain ⟨x14, rfl, N13q, hq15, hpq16⟩ := hQ13
    have N13 := Fr.app N9 N13q
    obtain ⟨T17, h17, k17, X17, e17, E17, A17, Ea17, st17⟩ := newPE X13 hx hZ (hw _ (List.mem_of_getElem? (i := 8) rfl)) hq15 (g := (mkF m 112 #[.val (.int p1), .val (.int p2), .val (.int p3), .val (.int p4), .val (.int p5), .val (.int (p1 &&& (3 : Int32))), .val (.ref ww), .val (.int (0 : Int32)), .val (.int x2), .val (.int x6), .val (.int x10), .val (.int x14), .unset, .unset, .unset, .unset, .unset, .unset, .unset, .unset, .unset, .unset, .unset, .unset, .unset, .unset, .unset, .unset, .unset, .unset, .unset, .unset, .unset, .unset] [(.int (3 : Int32))])) rfl (hb hby at_112) rfl (by decide) (cap := 3) (by decide) (by decide) (by decide) (by decide) (ad := "[I") own_nm_int
    obtain ⟨b17, g17⟩ : ∃ z, z = h0.size := ⟨_, rfl⟩
    have ne_w0_b17 : w0 ≠ b17 := Nat.ne_of_lt (Nat.lt_of_lt_of_le H4_E.lt (Nat.le_of_eq g17.symm))
    have ne_w1_b17 : w1 ≠ b17 := Nat.ne_of_lt (Nat.lt_of_lt_of_le H5_E.lt (Nat.le_of_eq g17.symm))
    have ne_w2_b17 : w2 ≠ b17 := Nat.ne_of_lt (Nat.lt_of_lt_of_le H6_E.lt (Nat.le_of_eq g17.symm))
    have ne_w3_b17 : w3 ≠ b17 := Nat.ne_of_lt (Nat.lt_of_lt_of_le H7_E.lt (Nat.le_of_eq g17.symm))
    have ne_ww_b17 : ww ≠ b17 := Nat.ne_of_lt (Nat.lt_of_lt_of_le tl0_0.lt (Nat.le_of_eq g17.symm))
    have ge_b17 : n0 ≤ b17 := Nat.le_trans Z0 (Nat.le_of_eq g17.symm)
    have sz_b17 : h0.size ≤ b17 := Nat.le_trans K0.1 (Nat.le_of_eq g17.symm)
    rw [← g17] at A17 Ea17 st17
    have S18 : Sta Z h17 "com/example/legwork/legwork/Tier" "CUSTOMER" "Lcom/example/legwork/legwork/Tier;" (.ref w0) := H0_S.ext E17
    have S19 : Sta Z h17 "com/example/legwork/legwork/Tier" "MARKET_MAKER" "Lcom/example/legwork/legwork/Tier;" (.ref w1) := H1_S.ext E17
    have S20 : Sta Z h17 "com/example/legwork/legwork/Tier" "OTHER" "Lcom/example/legwork/legwork/Tier;" (.ref w2) := H2_S.ext E17
    have S21 : Sta Z h17 "com/example/legwork/legwork/Tier" "LEGGING" "Lcom/example/legwork/legwork/Tier;" (.ref w3) := H3_S.ext E17
    have E22 : Exa Z h17 w0 "com/example/legwork/legwork/Tier" := H4_E.ext E17
    have E23 : Exa Z h17 w1 "com/example/legwork/legwork/Tier" := H5_E.ext E17
    have E24 : Exa Z h17 w2 "com/example/legwork/legwork/Tier" := H6_E.ext E17
    have E25 : Exa Z h17 w3 "com/example/legwork/legwork/Tier" := H7_E.ext E17
    have F26 : Fld Z h17 w0 "com/example/legwork/legwork/Tier" "proRata" "Z" (.int (0 : Int32)) := H8_F.ext E17
    have F27 : Fld Z h17 w1 "com/example/legwork/legwork/Tier" "proRata" "Z" (.int (1 : Int32)) := H9_F.ext E17
    have F28 : Fld Z h17 w2 "com/example/legwork/legwork/Tier" "proRata" "Z" (.int (1 : Int32)) := H10_F.ext E17
    have F29 : Fld Z h17 w3 "com/example/legwork/legwork/Tier" "proRata" "Z" (.int (0 : Int32)) := H11_F.ext E17
    have E30 : Exa Z h17 ww "com/example/legwork/legwork/Tier" := tl0_0.ext E17
    have F31 : Fld Z h17 ww "com/example/legwork/legwork/Tier" "proRata" "Z" (.int (0 : Int32)) := tl0_1.ext E17
    have K17 : Keep h0 h17 [] := K0.ext E17
    have Zs32 : n0 ≤ h17.size := (Nat.le_trans Z0 E17.1)
    have V17 : Arv Z h17 b17 k17 .int (3 : Int32) [(.int (0 : Int32)), (.int (0 : Int32)), (.int (0 : Int32))] (.int (0 : Int32)) := (Arv.new A17 (by decide)).pad (pad_rep [] (.int (0 : Int32)) 3)
    have oc33 := V17
    obtain ⟨c33, Arc33, qc33, Sc33, Nc33, Hc33, Gc33⟩ := oc33
    have hin34 : ¬ ((0 : Int32) < 0 ∨ c33.slots.size ≤ ((0 : Int32)).toNatClampNeg) := (inb_of Sc33 ⟨by decide, by decide⟩)
    obtain ⟨T34, h34, X34, e34, W34, st34⟩ := stI X17 hx hZ e17 Arc33 (j := (0 : Int32)) hin34 (g := (mkF m 118 #[.val (.int p1), .val (.int p2), .val (.int p3), .val (.int p4), .val (.int p5), .val (.int (p1 &&& (3 : Int32))), .val (.ref ww), .val (.int (0 : Int32)), .val (.int x2), .val (.int x6), .val (.int x10), .val (.int x14), .unset, .unset, .unset, .unset, .unset, .unset, .unset, .unset, .unset, .unset, .unset, .unset, .unset, .unset, .unset, .unset, .unset, .unset, .unset, .unset, .unset, .unset] [(.int x6), (.int (0 : Int32)), (.ref b17), (.ref b17)])) rfl rfl (hb hby at_118)
    have V34 : Arv Z h34 b17 k17 .int (3 : Int32) [(.int x6), (.int (0 : Int32)), (.int (0 : Int32))] (.int (0 : Int32)) := Arv.set Arc33 qc33 Sc33 Nc33 Hc33 Gc33 rfl W34 0 rfl (Nat.le_of_ble_eq_true rfl)
    have S35 : Sta Z h34 "com/example/legwork/legwork/Tier" "CUSTOMER" "Lcom/example/legwork/legwork/Tier;" (.ref w0) := S18.wr W34
    have S36 : Sta Z h34 "com/example/legwork/legwork/Tier" "MARKET_MAKER" "Lcom/example/legwork/legwork/Tier;" (.ref w1) := S19.wr W34
    have S37 : Sta Z h34 "com/example/legwork/legwork/Tier" "OTHER" "Lcom/example/legwork/legwork/Tier;" (.ref w2) := S20.wr W34
    have S38 : Sta Z h34 "com/example/legwork/legwork/Tier" "LEGGING" "Lcom/example/legwork/legwork/Tier;" (.ref w3) := S21.wr W34
    have E39 : Exa Z h34 w0 "com/example/legwork/legwork/Tier" := E22.wr W34
    have E40 : Exa Z h34 w1 "com/example/legwork/legwork/Tier" := E23.wr W34
    have E41 : Exa Z h34 w2 "com/example/legwork/legwork/Tier" := E24.wr W34
    have E42 : Exa Z h34 w3 "com/example/legwork/legwork/Tier" := E25.wr W34
    have F43 : Fld Z h34 w0 "com/example/legwork/legwork/Tier" "proRata" "Z" (.int (0 : Int32)) := F26.other W34 (Or.inl ne_w0_b17)
    have F44 : Fld Z h34 w1 "com/example/legwork/legwork/Tier" "proRata" "Z" (.int (1 : Int32)) := F27.other W34 (Or.inl ne_w1_b17)
    have F45 : Fld Z h34 w2 "com/example/legwork/legwork/Tier" "proRata" "Z" (.int (1 : Int32)) := F28.other W34 (Or.inl ne_w2_b17)
    have F46 : Fld Z h34 w3 "com/example/legwork/legwork/Tier" "proRata" "Z" (.int (0 : Int32)) := F29.other W34 (Or.inl ne_w3_b17)
    have E47 : Exa Z h34 ww "com/example/legwork/legwork/Tier" := E30.wr W34
    have F48 : Fld Z h34 ww "com/example/legwork/legwork/Tier" "proRata" "Z" (.int (0 : Int32)) := F31.other W34 (Or.inl ne_ww_b17)
    have E49 : Exa Z h34 b17 "[I" := Ea17.wr W34
    have N34 := Fr.snoc X34 N13 ge_b17
    have K34 : Keep h0 h34 [] := K17.wr W34 (Or.inr sz_b17)
    have Zs50 : n0 ≤ h34.size := (Nat.le_trans Zs32 (Keep.of_wr W34).1)
    have oc51 := V34
    obtain ⟨c51, Arc51, qc51, Sc51, Nc51, Hc51, Gc51⟩ := oc51
    have hin52 : ¬ ((1 : Int32) < 0 ∨ c51.slots.size ≤ ((1 : Int32)).toNatClampNeg) := (inb_of Sc51 ⟨by decide, by decide⟩)
    obtain ⟨T52, h52, X52, e52, W52, st52⟩ := stI X34 hx hZ e34 Arc51 (j := (1 : Int32)) hin52 (g := (mkF m 123 #[.val (.int p1), .val (.int p2), .val (.int p3), .val (.int p4), .val (.int p5), .val (.int (p1 &&& (3 : Int32))), .val (.ref ww), .val (.int (0 : Int32)), .val (.int x2), .val (.int x6), .val (.int x10), .val (.int x14), .unset, .unset, .unset, .unset, .unset, .unset, .unset, .unset, .unset, .unset, .unset, .unset, .unset, .unset, .unset, .unset, .unset, .unset, .unset, .unset, .unset, .unset] [(.int x10), (.int (1 : Int32)), (.ref b17), (.ref b17)])) rfl rfl (hb hby at_123)
    have V52 : Arv Z h52 b17 k17 .int (3 : Int32) [(.int x6), (.int x10), (.int (0 : Int32))] (.int (0 : Int32)) := Arv.set Arc51 qc51 Sc51 Nc51 Hc51 Gc51 rfl W52 1 rfl (Nat.le_of_ble_eq_true rfl)
    have S53 : Sta Z h52 "com/example/legwork/legwork/Tier" "CUSTOMER" "Lcom/example/legwork/legwork/Tier;" (.ref w0) := S35.wr W52
    have S54 : Sta Z h52 "com/example/legwork/legwork/Tier" "MARKET_MAKER" "Lcom/example/legwork/legwork/Tier;" (.ref w1) := S36.wr W52
    have S55 : Sta Z h52 "com/example/legwork/legwork/Tier" "OTHER" "Lcom/example/legwork/legwork/Tier;" (.ref w2) := S37.wr W52
    have S56 : Sta Z h52 "com/example/legwork/legwork/Tier" "LEGGING" "Lcom/example/legwork/legwork/Tier;" (.ref w3) := S38.wr W52
    have E57 : Exa Z h52 w0 "com/example/legwork/legwork/Tier" := E39.wr W52
    have E58 : Exa Z h52 w1 "com/example/legwork/legwork/Tier" := E40.wr W52
    have E59 : Exa Z h52 w2 "com/example/legwork/legwork/Tier" := E41.wr W52
    have E60 : Exa Z h52 w3 "com/example/legwork/legwork/Tier" := E42.wr W52
    have F61 : Fld Z h52 w0 "com/example/legwork/legwork/Tier" "proRata" "Z" (.int (0 : Int32)) := F43.other W52 (Or.inl ne_w0_b17)
    have F62 : Fld Z h52 w1 "com/example/legwork/legwork/Tier" "proRata" "Z" (.int (1 : Int32)) := F44.other W52 (Or.inl ne_w1_b17)
    have F63 : Fld Z h52 w2 "com/example/legwork/legwork/Tier" "proRata" "Z" (.int (1 : Int32)) := F45.other W52 (Or.inl ne_w2_b17)
    have F64 : Fld Z h52 w3 "com/example/legwork/legwork/Tier" "proRata" "Z" (.int (0 : Int32)) := F46.other W52 (Or.inl ne_w3_b17)
    have E65 : Exa Z h52 ww "com/example/legwork/legwork/Tier" := E47.wr W52
    have F66 : Fld Z h52 ww "com/example/legwork/legwork/Tier" "proRata" "Z" (.int (0 : Int32)) := F48.other W52 (Or.inl ne_ww_b17)
    have E67 : Exa Z h52 b17 "[I" := E49.wr W52
    have N52 := Fr.snoc X52 N34 ge_b17
    have K52 : Keep h0 h52 [] := K34.wr W52 (Or.inr sz_b17)
    have Zs68 : n0 ≤ h52.size := (Nat.le_trans Zs50 (Keep.of_wr W52).1)
    have oc69 := V52
    obtain ⟨c69, Arc69, qc69, Sc69, Nc69, Hc69, Gc69⟩ := oc69
    have hin70 : ¬ ((2 : Int32) < 0 ∨ c69.slots.size ≤ ((2 : Int32)).toNatClampNeg) := (inb_of Sc69 ⟨by decide, by decide⟩)
    obtain ⟨T70, h70, X70, e70, W70, st70⟩ := stI X52 hx hZ e52 Arc69 (j := (2 : Int32)) hin70 (g := (mkF m 128 #[.val (.int p1), .val (.int p2), .val (.int p3), .val (.int p4), .val (.int p5), .val (.int (p1 &&& (3 : Int32))), .val (.ref ww), .val (.int (0 : Int32)), .val (.int x2), .val (.int x6), .val (.int x10), .val (.int x14), .unset, .unset, .unset, .unset, .unset, .unset, .unset, .unset, .unset, .unset, .unset, .unset, .unset, .unset, .unset, .unset, .unset, .unset, .unset, .unset, .unset, .unset] [(.int x14), (.int (2 : Int32)), (.ref b17), (.ref b17)])) rfl rfl (hb hby at_128)
    have V70 : Arv Z h70 b17 k17 .int (3 : Int32) [(.int x6), (.int x10), (.int x14)] (.int (0 : Int32)) := Arv.set Arc69 qc69 Sc69 Nc69 Hc69 Gc69 rfl W70 2 rfl (Nat.le_of_ble_eq_true rfl)
    have S71 : Sta Z h70 "com/example/legwork/legwork/Tier" "CUSTOMER" "Lcom/example/legwork/legwork/Tier;" (.ref w0) := S53.wr W70
    have S72 : Sta Z h70 "com/example/legwork/legwork/Tier" "MARKET_MAKER" "Lcom/example/legwork/legwork/Tier;" (.ref w1) := S54.wr W70
    have S73 : Sta Z h70 "com/example/legwork/legwork/Tier" "OTHER" "Lcom/example/legwork/legwork/Tier;" (.ref w2) := S55.wr W70
    have S74 : Sta Z h70 "com/example/legwork/legwork/Tier" "LEGGING" "Lcom/example/legwork/legwork/Tier;" (.ref w3) := S56.wr W70
    have E75 : Exa Z h70 w0 "com/example/legwork/legwork/Tier" := E57.wr W70
    have E76 : Exa Z h70 w1 "com/example/legwork/legwork/Tier" := E58.wr W70
    have E77 : Exa Z h70 w2 "com/example/legwork/legwork/Tier" := E59.wr W70
    have E78 : Exa Z h70 w3 "com/example/legwork/legwork/Tier" := E60.wr W70
    have F79 : Fld Z h70 w0 "com/example/legwork/legwork/Tier" "proRata" "Z" (.int (0 : Int32)) := F61.other W70 (Or.inl ne_w0_b17)
    have F80 : Fld Z h70 w1 "com/example/legwork/legwork/Tier" "proRata" "Z" (.int (1 : Int32)) := F62.other W70 (Or.inl ne_w1_b17)
    have F81 : Fld Z h70 w2 "com/example/legwork/legwork/Tier" "proRata" "Z" (.int (1 : Int32)) := F63.other W70 (Or.inl ne_w2_b17)
    have F82 : Fld Z h70 w3 "com/example/legwork/legwork/Tier" "proRata" "Z" (.int (0 : Int32)) := F64.other W70 (Or.inl ne_w3_b17)
    have E83 : Exa Z h70 ww "com/example/legwork/legwork/Tier" := E65.wr W70
    have F84 : Fld Z h70 ww "com/example/legwork/legwork/Tier" "proRata" "Z" (.int (0 : Int32)) := F66.other W70 (Or.inl ne_ww_b17)
    have E85 : Exa Z h70 b17 "[I" := E67.wr W70
    have N70 := Fr.snoc X70 N52 ge_b17
    have K70 : Keep h0 h70 [] := K52.wr W70 (Or.inr sz_b17)
    have Zs86 : n0 ≤ h70.size := (Nat.le_trans Zs68 (Keep.of_wr W70).1)
    obtain ⟨_, _, ⟨T87, L87, k87, n87⟩, -, X87, ⟨Lc87, hQ87, l87, y87, z87⟩, st87⟩ := Jvm.LawKit.callS X70 hx (y := (⟨"com/example/legwork/legwork/Allocation", "share", "(Lcom/example/legwork/legwork/Tier;I[I)[I"⟩ : MethodName)) hown (mvT hZ (hw _ (List.mem_of_getElem? (i := 9) rfl))) (mvT hZ (hw _ (List.mem_of_getElem? (i := 10) rfl))) (mvT hZ (hw _ (List.mem_of_getElem? (i := 11) rfl))) (mvT hZ (hw _ (List.mem_of_getElem? (i := 12) rfl))) (by decide) (backOf (W := 0) (rm_shT l Z a0 hw [] ww x2 b17 k17 x6 x10 x14 h70 n0 Zs86 E83 F84 V70 E85 (own_mx_pos hpq4) (own_mx_pos hpq8) (own_mx_pos hpq12) (own_mx_pos hpq16)) hZ (hw _ (List.mem_of_getElem? (i := 12) rfl)) (hw _ (List.mem_of_getElem? (i := 11) rfl)) (by decide) (by decide)) (g := (mkF m 137 #[.val (.int p1), .val (.int p2), .val (.int p3), .val (.int p4), .val (.int p5), .val (.int (p1 &&& (3 : Int32))), .val (.ref ww), .val (.int (0 : Int32)), .val (.int x2), .val (.int x6), .val (.int x10), .val (.int x14), .val (.ref b17), .unset, .unset, .unset, .unset, .unset, .unset, .unset, .unset, .unset, .unset, .unset, .unset, .unset, .unset, .unset, .unset, .unset, .unset, .unset, .unset, .unset] [(.ref b17), (.int x2), (.ref ww)])) rfl (by rw [hml]; rfl) (argsL := [(.ref ww), (.int x2), (.ref b17)]) (rest := []) (lenOf pd_3 rfl) rfl (by show 2 * 0 + _ ≤ _; exact Nat.le_of_eq rfl) (hb hby at_137) (fun _ _ => ⟨rfl, e70, (by decide : 1 + 1 ≤ _), (by decide : 3 + 3 ≤ _)⟩)
    dsimp only [Pt.U, Pt.locs, Pt.cells, Pt.slots] at X87 l87 y87 z87 st87 hQ87
    subst l87 y87 z87
    obtain ⟨x88, x89, x90, x91, x92, rfl, N87q, hq93, hpq94, hpq95, hpq96, A97⟩ := hQ87
    have N87 := Fr.app N70 N87q
    have lt98 : w0 < h70.size := E75.lt
    have lt99 : w1 < h70.size := E76.lt
    have lt100 : w2 < h70.size := E77.lt
    have lt101 : w3 < h70.size := E78.lt
    have lt102 : ww < h70.size := E83.lt
    have lt103 : b17 < h70.size := E85.lt
    have S104 : Sta Z T87.heap "com/example/legwork/legwork/Tier" "CUSTOMER" "Lcom/example/legwork/legwork/Tier;" (.ref w0) := own_sta_keep S71 hq93 all0
    have S105 : Sta Z T87.heap "com/example/legwork/legwork/Tier" "MARKET_MAKER" "Lcom/example/legwork/legwork/Tier;" (.ref w1) := own_sta_keep S72 hq93 all0
    have S106 : Sta Z T87.heap "com/example/legwork/legwork/Tier" "OTHER" "Lcom/example/legwork/legwork/Tier;" (.ref w2) := own_sta_keep S73 hq93 all0
    have S107 : Sta Z T87.heap "com/example/legwork/legwork/Tier" "LEGGING" "Lcom/example/legwork/legwork/Tier;" (.ref w3) := own_sta_keep S74 hq93 all0
    have E108 : Exa Z T87.heap w0 "com/example/legwork/legwork/Tier" := E75.keep hq93
    have E109 : Exa Z T87.heap w1 "com/example/legwork/legwork/Tier" := E76.keep hq93
    have E110 : Exa Z T87.heap w2 "com/example/legwork/legwork/Tier" := E77.keep hq93
    have E111 : Exa Z T87.heap w3 "com/example/legwork/legwork/Tier" := E78.keep hq93
    have F112 : Fld Z T87.heap w0 "com/example/legwork/legwork/Tier" "proRata" "Z" (.int (0 : Int32)) := F79.keep hq93 nin0
    have F113 : Fld Z T87.heap w1 "com/example/legwork/legwork/Tier" "proRata" "Z" (.int (1 : Int32)) := F80.keep hq93 nin0
    have F114 : Fld Z T87.heap w2 "com/example/legwork/legwork/Tier" "proRata" "Z" (.int (1 : Int32)) := F81.keep hq93 nin0
    have F115 : Fld Z T87.heap w3 "com/example/legwork/legwork/Tier" "proRata" "Z" (.int (0 : Int32)) := F82.keep hq93 nin0
    have E116 : Exa Z T87.heap ww "com/example/legwork/legwork/Tier" := E83.keep hq93
    have F117 : Fld Z T87.heap ww "com/example/legwork/legwork/Tier" "proRata" "Z" (.int (0 : Int32)) := F84.keep hq93 nin0
    have E118 : Exa Z T87.heap b17 "[I" := E85.keep hq93
    have A119 : Arv Z T87.heap b17 k17 .int (3 : Int32) [(.int x6), (.int x10), (.int x14)] (.int (0 : Int32)) := V70.keep hq93 nin0
    have K87 : Keep h0 T87.heap [] := K70.trans hq93 all0
    have Zs120 : n0 ≤ T87.heap.size := (Nat.le_trans Zs86 hq93.1)
    have ne121 : w0 ≠ x88 := Nat.ne_of_lt (Nat.lt_of_lt_of_le lt98 hpq95)
    have ne122 : w1 ≠ x88 := Nat.ne_of_lt (Nat.lt_of_lt_of_le lt99 hpq95)
    have ne123 : w2 ≠ x88 := Nat.ne_of_lt (Nat.lt_of_lt_of_le lt100 hpq95)
    have ne124 : w3 ≠ x88 := Nat.ne_of_lt (Nat.lt_of_lt_of_le lt101 hpq95)
    have ne125 : ww ≠ x88 := Nat.ne_of_lt (Nat.lt_of_lt_of_le lt102 hpq95)
    have ne126 : b17 ≠ x88 := Nat.ne_of_lt (Nat.lt_of_lt_of_le lt103 hpq95)
    have sz127 : h0.size ≤ x88 := Nat.le_trans K70.1 hpq95
    have LF128 := own_law_tp hpq96
    have oc129 := A97
    obtain ⟨c129, Arc129, qc129, Sc129, Nc129, Hc129, Gc129⟩ := oc129
    have oc130 := A97
    obtain ⟨c130, Arc130, qc130, Sc130, Nc130, Hc130, Gc130⟩ := oc130
    have hin131 : ¬ ((0 : Int32) < 0 ∨ c130.slots.size ≤ ((0 : Int32)).toNatClampNeg) := (inb_of Sc130 ⟨by decide, by decide⟩)
    have oc132 := A97
    obtain ⟨c132, Arc132, qc132, Sc132, Nc132, Hc132, Gc132⟩ := oc132
    have hin133 : ¬ ((1 : Int32) < 0 ∨ c132.slots.size ≤ ((1 : Int32)).toNatClampNeg) := (inb_of Sc132 ⟨by decide, by decide⟩)
    have oc134 := A97
    obtain ⟨c134, Arc134, qc134, Sc134, Nc134, Hc134, Gc134⟩ := oc134
    have hin135 : ¬ ((2 : Int32) < 0 ∨ c134.slots.size ≤ ((2 : Int32)).toNatClampNeg) := (inb_of Sc134 ⟨by decide, by decide⟩)
    have pre136 := fun (t : State) (k : Steps p.tables e below (T87.setTop (mkF m 185 #[.val (.int p1), .val (.int p2), .val (.int p3), .val (.int p4), .val (.int p5), .val (.int (p1 &&& (3 : Int32))), .val (.ref ww), .val (.int (0 : Int32)), .val (.int x2), .val (.int x6), .val (.int x10), .val (.int x14), .val (.ref b17), .val (.ref x88), .val (.int x90), .val (.int x91), .val (.int x92), .unset, .unset, .unset, .unset, .unset, .unset, .unset, .unset, .unset, .unset, .unset, .unset, .unset, .unset, .unset, .unset, .unset] [(.long (((x6.toInt64) + (x10.toInt64)) + (x14.toInt64)))])) t) => pre_tl0 t (by
      refine XS.iconst X_tl0.here hx rfl (hb hby at_70) ?_
      show Steps p.tables e below (T_tl0.setTop (mkF m 71 #[.val (.int p1), .val (.int p2), .val (.int p3), .val (.int p4), .val (.int p5), .val (.int (p1 &&& (3 : Int32))), .val (.ref ww), .val (.int (0 : Int32)), .unset, .unset, .unset, .unset, .unset, .unset, .unset, .unset, .unset, .unset, .unset, .unset, .unset, .unset, .unset, .unset, .unset, .unset, .unset, .unset, .unset, .unset, .unset, .unset, .unset, .unset] [(.int (1 : Int32))])) _
      refine XS.iloadN X_tl0.here hx rfl (hb hby at_71) rfl ?_
      show Steps p.tables e below (T_tl0.setTop (mkF m 72 #[.val (.int p1), .val (.int p2), .val (.int p3), .val (.int p4), .val (.int p5), .val (.int (p1 &&& (3 : Int32))), .val (.ref ww), .val (.int (0 : Int32)), .unset, .unset, .unset, .unset, .unset, .unset, .unset, .unset, .unset, .unset, .unset, .unset, .unset, .unset, .unset, .unset, .unset, .unset, .unset, .unset, .unset, .unset, .unset, .unset, .unset, .unset] [(.int p2), (.int (1 : Int32))])) _
      refine X_tl0.ldcInt hx hown (mvT hZ (hw _ (List.mem_of_getElem? (i := 3) rfl))) (g := (mkF m 72 #[.val (.int p1), .val (.int p2), .val (.int p3), .val (.int p4), .val (.int p5), .val (.int (p1 &&& (3 : Int32))), .val (.ref ww), .val (.int (0 : Int32)), .unset, .unset, .unset, .unset, .unset, .unset, .unset, .unset, .unset, .unset, .unset, .unset, .unset, .unset, .unset, .unset, .unset, .unset, .unset, .unset, .unset, .unset, .unset, .unset, .unset, .unset] [(.int p2), (.int (1 : Int32))])) rfl (hb hby at_72) _ ?_
      show Steps p.tables e below (T_tl0.setTop (mkF m 74 #[.val (.int p1), .val (.int p2), .val (.int p3), .val (.int p4), .val (.int p5), .val (.int (p1 &&& (3 : Int32))), .val (.ref ww), .val (.int (0 : Int32)), .unset, .unset, .unset, .unset, .unset, .unset, .unset, .unset, .unset, .unset, .unset, .unset, .unset, .unset, .unset, .unset, .unset, .unset, .unset, .unset, .unset, .unset, .unset, .unset, .unset, .unset] [(.int (2147483647 : Int32)), (.int p2), (.int (1 : Int32))])) _
      refine XS.iand X_tl0.here hx rfl (hb hby at_74) rfl ?_
      show Steps p.tables e below (T_tl0.setTop (mkF m 75 #[.val (.int p1), .val (.int p2), .val (.int p3), .val (.int p4), .val (.int p5), .val (.int (p1 &&& (3 : Int32))), .val (.ref ww), .val (.int (0 : Int32)), .unset, .unset, .unset, .unset, .unset, .unset, .unset, .unset, .unset, .unset, .unset, .unset, .unset, .unset, .unset, .unset, .unset, .unset, .unset, .unset, .unset, .unset, .unset, .unset, .unset, .unset] [(.int (p2 &&& (2147483647 : Int32))), (.int (1 : Int32))])) _
      refine st1 _ ?_
      show Steps p.tables e below (T1.setTop (mkF m 78 #[.val (.int p1), .val (.int p2), .val (.int p3), .val (.int p4), .val (.int p5), .val (.int (p1 &&& (3 : Int32))), .val (.ref ww), .val (.int (0 : Int32)), .unset, .unset, .unset, .unset, .unset, .unset, .unset, .unset, .unset, .unset, .unset, .unset, .unset, .unset, .unset, .unset, .unset, .unset, .unset, .unset, .unset, .unset, .unset, .unset, .unset, .unset] [(.int x2)])) _
      refine XS.istore X1.here hx rfl (hb hby at_78) rfl (l' := #[.val (.int p1), .val (.int p2), .val (.int p3), .val (.int p4), .val (.int p5), .val (.int (p1 &&& (3 : Int32))), .val (.ref ww), .val (.int (0 : Int32)), .val (.int x2), .unset, .unset, .unset, .unset, .unset, .unset, .unset, .unset, .unset, .unset, .unset, .unset, .unset, .unset, .unset, .unset, .unset, .unset, .unset, .unset, .unset, .unset, .unset, .unset, .unset]) rfl ?_
      show Steps p.tables e below (T1.setTop (mkF m 80 #[.val (.int p1), .val (.int p2), .val (.int p3), .val (.int p4), .val (.int p5), .val (.int (p1 &&& (3 : Int32))), .val (.ref ww), .val (.int (0 : Int32)), .val (.int x2), .unset, .unset, .unset, .unset, .unset, .unset, .unset, .unset, .unset, .unset, .unset, .unset, .unset, .unset, .unset, .unset, .unset, .unset, .unset, .unset, .unset, .unset, .unset, .unset, .unset] [])) _
      refine XS.iconst X1.here hx rfl (hb hby at_80) ?_
      show Steps p.tables e below (T1.setTop (mkF m 81 #[.val (.int p1), .val (.int p2), .val (.int p3), .val (.int p4), .val (.int p5), .val (.int (p1 &&& (3 : Int32))), .val (.ref ww), .val (.int (0 : Int32)), .val (.int x2), .unset, .unset, .unset, .unset, .unset, .unset, .unset, .unset, .unset, .unset, .unset, .unset, .unset, .unset, .unset, .unset, .unset, .unset, .unset, .unset, .unset, .unset, .unset, .unset, .unset] [(.int (1 : Int32))])) _
      refine XS.iloadN X1.here hx rfl (hb hby at_81) rfl ?_
      show Steps p.tables e below (T1.setTop (mkF m 82 #[.val (.int p1), .val (.int p2), .val (.int p3), .val (.int p4), .val (.int p5), .val (.int (p1 &&& (3 : Int32))), .val (.ref ww), .val (.int (0 : Int32)), .val (.int x2), .unset, .unset, .unset, .unset, .unset, .unset, .unset, .unset, .unset, .unset, .unset, .unset, .unset, .unset, .unset, .unset, .unset, .unset, .unset, .unset, .unset, .unset, .unset, .unset, .unset] [(.int p3), (.int (1 : Int32))])) _
      refine X1.ldcInt hx hown (mvT hZ (hw _ (List.mem_of_getElem? (i := 3) rfl))) (g := (mkF m 82 #[.val (.int p1), .val (.int p2), .val (.int p3), .val (.int p4), .val (.int p5), .val (.int (p1 &&& (3 : Int32))), .val (.ref ww), .val (.int (0 : Int32)), .val (.int x2), .unset, .unset, .unset, .unset, .unset, .unset, .unset, .unset, .unset, .unset, .unset, .unset, .unset, .unset, .unset, .unset, .unset, .unset, .unset, .unset, .unset, .unset, .unset, .unset, .unset] [(.int p3), (.int (1 : Int32))])) rfl (hb hby at_82) _ ?_
      show Steps p.tables e below (T1.setTop (mkF m 84 #[.val (.int p1), .val (.int p2), .val (.int p3), .val (.int p4), .val (.int p5), .val (.int (p1 &&& (3 : Int32))), .val (.ref ww), .val (.int (0 : Int32)), .val (.int x2), .unset, .unset, .unset, .unset, .unset, .unset, .unset, .unset, .unset, .unset, .unset, .unset, .unset, .unset, .unset, .unset, .unset, .unset, .unset, .unset, .unset, .unset, .unset, .unset, .unset] [(.int (2147483647 : Int32)), (.int p3), (.int (1 : Int32))])) _
      refine XS.iand X1.here hx rfl (hb hby at_84) rfl ?_
      show Steps p.tables e below (T1.setTop (mkF m 85 #[.val (.int p1), .val (.int p2), .val (.int p3), .val (.int p4), .val (.int p5), .val (.int (p1 &&& (3 : Int32))), .val (.ref ww), .val (.int (0 : Int32)), .val (.int x2), .unset, .unset, .unset, .unset, .unset, .unset, .unset, .unset, .unset, .unset, .unset, .unset, .unset, .unset, .unset, .unset, .unset, .unset, .unset, .unset, .unset, .unset, .unset, .unset, .unset] [(.int (p3 &&& (2147483647 : Int32))), (.int (1 : Int32))])) _
      refine st5 _ ?_
      show Steps p.tables e below (T5.setTop (mkF m 88 #[.val (.int p1), .val (.int p2), .val (.int p3), .val (.int p4), .val (.int p5), .val (.int (p1 &&& (3 : Int32))), .val (.ref ww), .val (.int (0 : Int32)), .val (.int x2), .unset, .unset, .unset, .unset, .unset, .unset, .unset, .unset, .unset, .unset, .unset, .unset, .unset, .unset, .unset, .unset, .unset, .unset, .unset, .unset, .unset, .unset, .unset, .unset, .unset] [(.int x6)])) _
      refine XS.istore X5.here hx rfl (hb hby at_88) rfl (l' := #[.val (.int p1), .val (.int p2), .val (.int p3), .val (.int p4), .val (.int p5), .val (.int (p1 &&& (3 : Int32))), .val (.ref ww), .val (.int (0 : Int32)), .val (.int x2), .val (.int x6), .unset, .unset, .unset, .unset, .unset, .unset, .unset, .unset, .unset, .unset, .unset, .unset, .unset, .unset, .unset, .unset, .unset, .unset, .unset, .unset, .unset, .unset, .unset, .unset]) rfl ?_
      show Steps p.tables e below (T5.setTop (mkF m 90 #[.val (.int p1), .val (.int p2), .val (.int p3), .val (.int p4), .val (.int p5), .val (.int (p1 &&& (3 : Int32))), .val (.ref ww), .val (.int (0 : Int32)), .val (.int x2), .val (.int x6), .unset, .unset, .unset, .unset, .unset, .unset, .unset, .unset, .unset, .unset, .unset, .unset, .unset, .unset, .unset, .unset, .unset, .unset, .unset, .unset, .unset, .unset, .unset, .unset] [])) _
      refine XS.iconst X5.here hx rfl (hb hby at_90) ?_
      show Steps p.tables e below (T5.setTop (mkF m 91 #[.val (.int p1), .val (.int p2), .val (.int p3), .val (.int p4), .val (.int p5), .val (.int (p1 &&& (3 : Int32))), .val (.ref ww), .val (.int (0 : Int32)), .val (.int x2), .val (.int x6), .unset, .unset, .unset, .unset, .unset, .unset, .unset, .unset, .unset, .unset, .unset, .unset, .unset, .unset, .unset, .unset, .unset, .unset, .unset, .unset, .unset, .unset, .unset, .unset] [(.int (1 : Int32))])) _
      refine XS.iloadN X5.here hx rfl (hb hby at_91) rfl ?_
      show Steps p.tables e below (T5.setTop (mkF m 92 #[.val (.int p1), .val (.int p2), .val (.int p3), .val (.int p4), .val (.int p5), .val (.int (p1 &&& (3 : Int32))), .val (.ref ww), .val (.int (0 : Int32)), .val (.int x2), .val (.int x6), .unset, .unset, .unset, .unset, .unset, .unset, .unset, .unset, .unset, .unset, .unset, .unset, .unset, .unset, .unset, .unset, .unset, .unset, .unset, .unset, .unset, .unset, .unset, .unset] [(.int p4), (.int (1 : Int32))])) _
      refine X5.ldcInt hx hown (mvT hZ (hw _ (List.mem_of_getElem? (i := 3) rfl))) (g := (mkF m 92 #[.val (.int p1), .val (.int p2), .val (.int p3), .val (.int p4), .val (.int p5), .val (.int (p1 &&& (3 : Int32))), .val (.ref ww), .val (.int (0 : Int32)), .val (.int x2), .val (.int x6), .unset, .unset, .unset, .unset, .unset, .unset, .unset, .unset, .unset, .unset, .unset, .unset, .unset, .unset, .unset, .unset, .unset, .unset, .unset, .unset, .unset, .unset, .unset, .unset] [(.int p4), (.int (1 : Int32))])) rfl (hb hby at_92) _ ?_
      show Steps p.tables e below (T5.setTop (mkF m 94 #[.val (.int p1), .val (.int p2), .val (.int p3), .val (.int p4), .val (.int p5), .val (.int (p1 &&& (3 : Int32))), .val (.ref ww), .val (.int (0 : Int32)), .val (.int x2), .val (.int x6), .unset, .unset, .unset, .unset, .unset, .unset, .unset, .unset, .unset, .unset, .unset, .unset, .unset, .unset, .unset, .unset, .unset, .unset, .unset, .unset, .unset, .unset, .unset, .unset] [(.int (2147483647 : Int32)), (.int p4), (.int (1 : Int32))])) _
      refine XS.iand X5.here hx rfl (hb hby at_94) rfl ?_
      show Steps p.tables e below (T5.setTop (mkF m 95 #[.val (.int p1), .val (.int p2), .val (.int p3), .val (.int p4), .val (.int p5), .val (.int (p1 &&& (3 : Int32))), .val (.ref ww), .val (.int (0 : Int32)), .val (.int x2), .val (.int x6), .unset, .unset, .unset, .unset, .unset, .unset, .unset, .unset, .unset, .unset, .unset, .unset, .unset, .unset, .unset, .unset, .unset, .unset, .unset, .unset, .unset, .unset, .unset, .unset] [(.int (p4 &&& (2147483647 : Int32))), (.int (1 : Int32))])) _
      refine st9 _ ?_
      show Steps p.tables e below (T9.setTop (mkF m 98 #[.val (.int p1), .val (.int p2), .val (.int p3), .val (.int p4), .val (.int p5), .val (.int (p1 &&& (3 : Int32))), .val (.ref ww), .val (.int (0 : Int32)), .val (.int x2), .val (.int x6), .unset, .unset, .unset, .unset, .unset, .unset, .unset, .unset, .unset, .unset, .unset, .unset, .unset, .unset, .unset, .unset, .unset, .unset, .unset, .unset, .unset, .unset, .unset, .unset] [(.int x10)])) _
      refine XS.istore X9.here hx rfl (hb hby at_98) rfl (l' := #[.val (.int p1), .val (.int p2), .val (.int p3), .val (.int p4), .val (.int p5), .val (.int (p1 &&& (3 : Int32))), .val (.ref ww), .val (.int (0 : Int32)), .val (.int x2), .val (.int x6), .val (.int x10), .unset, .unset, .unset, .unset, .unset, .unset, .unset, .unset, .unset, .unset, .unset, .unset, .unset, .unset, .unset, .unset, .unset, .unset, .unset, .unset, .unset, .unset, .unset]) rfl ?_
      show Steps p.tables e below (T9.setTop (mkF m 100 #[.val (.int p1), .val (.int p2), .val (.int p3), .val (.int p4), .val (.int p5), .val (.int (p1 &&& (3 : Int32))), .val (.ref ww), .val (.int (0 : Int32)), .val (.int x2), .val (.int x6), .val (.int x10), .unset, .unset, .unset, .unset, .unset, .unset, .unset, .unset, .unset, .unset, .unset, .unset, .unset, .unset, .unset, .unset, .unset, .unset, .unset, .unset, .unset, .unset, .unset] [])) _
      refine XS.iconst X9.here hx rfl (hb hby at_100) ?_
      show Steps p.tables e below (T9.setTop (mkF m 101 #[.val (.int p1), .val (.int p2), .val (.int p3), .val (.int p4), .val (.int p5), .val (.int (p1 &&& (3 : Int32))), .val (.ref ww), .val (.int (0 : Int32)), .val (.int x2), .val (.int x6), .val (.int x10), .unset, .unset, .unset, .unset, .unset, .unset, .unset, .unset, .unset, .unset, .unset, .unset, .unset, .unset, .unset, .unset, .unset, .unset, .unset, .unset, .unset, .unset, .unset] [(.int (1 : Int32))])) _
      refine XS.iload X9.here hx rfl (hb hby at_101) rfl ?_
      show Steps p.tables e below (T9.setTop (mkF m 103 #[.val (.int p1), .val (.int p2), .val (.int p3), .val (.int p4), .val (.int p5), .val (.int (p1 &&& (3 : Int32))), .val (.ref ww), .val (.int (0 : Int32)), .val (.int x2), .val (.int x6), .val (.int x10), .unset, .unset, .unset, .unset, .unset, .unset, .unset, .unset, .unset, .unset, .unset, .unset, .unset, .unset, .unset, .unset, .unset, .unset, .unset, .unset, .unset, .unset, .unset] [(.int p5), (.int (1 : Int32))])) _
      refine X9.ldcInt hx hown (mvT hZ (hw _ (List.mem_of_getElem? (i := 3) rfl))) (g := (mkF m 103 #[.val (.int p1), .val (.int p2), .val (.int p3), .val (.int p4), .val (.int p5), .val (.int (p1 &&& (3 : Int32))), .val (.ref ww), .val (.int (0 : Int32)), .val (.int x2), .val (.int x6), .val (.int x10), .unset, .unset, .unset, .unset, .unset, .unset, .unset, .unset, .unset, .unset, .unset, .unset, .unset, .unset, .unset, .unset, .unset, .unset, .unset, .unset, .unset, .unset, .unset] [(.int p5), (.int (1 : Int32))])) rfl (hb hby at_103) _ ?_
      show Steps p.tables e below (T9.setTop (mkF m 105 #[.val (.int p1), .val (.int p2), .val (.int p3), .val (.int p4), .val (.int p5), .val (.int (p1 &&& (3 : Int32))), .val (.ref ww), .val (.int (0 : Int32)), .val (.int x2), .val (.int x6), .val (.int x10), .unset, .unset, .unset, .unset, .unset, .unset, .unset, .unset, .unset, .unset, .unset, .unset, .unset, .unset, .unset, .unset, .unset, .unset, .unset, .unset, .unset, .unset, .unset] [(.int (2147483647 : Int32)), (.int p5), (.int (1 : Int32))])) _
      refine XS.iand X9.here hx rfl (hb hby at_105) rfl ?_
      show Steps p.tables e below (T9.setTop (mkF m 106 #[.val (.int p1), .val (.int p2), .val (.int p3), .val (.int p4), .val (.int p5), .val (.int (p1 &&& (3 : Int32))), .val (.ref ww), .val (.int (0 : Int32)), .val (.int x2), .val (.int x6), .val (.int x10), .unset, .unset, .unset, .unset, .unset, .unset, .unset, .unset, .unset, .unset, .unset, .unset, .unset, .unset, .unset, .unset, .unset, .unset, .unset, .unset, .unset, .unset, .unset] [(.int (p5 &&& (2147483647 : Int32))), (.int (1 : Int32))])) _
      refine st13 _ ?_
      show Steps p.tables e below (T13.setTop (mkF m 109 #[.val (.int p1), .val (.int p2), .val (.int p3), .val (.int p4), .val (.int p5), .val (.int (p1 &&& (3 : Int32))), .val (.ref ww), .val (.int (0 : Int32)), .val (.int x2), .val (.int x6), .val (.int x10), .unset, .unset, .unset, .unset, .unset, .unset, .unset, .unset, .unset, .unset, .unset, .unset, .unset, .unset, .unset, .unset, .unset, .unset, .unset, .unset, .unset, .unset, .unset] [(.int x14)])) _
      refine XS.istore X13.here hx rfl (hb hby at_109) rfl (l' := #[.val (.int p1), .val (.int p2), .val (.int p3), .val (.int p4), .val (.int p5), .val (.int (p1 &&& (3 : Int32))), .val (.ref ww), .val (.int (0 : Int32)), .val (.int x2), .val (.int x6), .val (.int x10), .val (.int x14), .unset, .unset, .unset, .unset, .unset, .unset, .unset, .unset, .unset, .unset, .unset, .unset, .unset, .unset, .unset, .unset, .unset, .unset, .unset, .unset, .unset, .unset]) rfl ?_
      show Steps p.tables e below (T13.setTop (mkF m 111 #[.val (.int p1), .val (.int p2), .val (.int p3), .val (.int p4), .val (.int p5), .val (.int (p1 &&& (3 : Int32))), .val (.ref ww), .val (.int (0 : Int32)), .val (.int x2), .val (.int x6), .val (.int x10), .val (.int x14), .unset, .unset, .unset, .unset, .unset, .unset, .unset, .unset, .unset, .unset, .unset, .unset, .unset, .unset, .unset, .unset, .unset, .unset, .unset, .unset, .unset, .unset] [])) _
      refine XS.iconst X13.here hx rfl (hb hby at_111) ?_
      show Steps p.tables e below (T13.setTop (mkF m 112 #[.val (.int p1), .val (.int p2), .val (.int p3), .val (.int p4), .val (.int p5), .val (.int (p1 &&& (3 : Int32))), .val (.ref ww), .val (.int (0 : Int32)), .val (.int x2), .val (.int x6), .val (.int x10), .val (.int x14), .unset, .unset, .unset, .unset, .unset, .unset, .unset, .unset, .unset, .unset, .unset, .unset, .unset, .unset, .unset, .unset, .unset, .unset, .unset, .unset, .unset, .unset] [(.int (3 : Int32))])) _
      refine st17 _ ?_
      show Steps p.tables e below (T17.setTop (mkF m 114 #[.val (.int p1), .val (.int p2), .val (.int p3), .val (.int p4), .val (.int p5), .val (.int (p1 &&& (3 : Int32))), .val (.ref ww), .val (.int (0 : Int32)), .val (.int x2), .val (.int x6), .val (.int x10), .val (.int x14), .unset, .unset, .unset, .unset, .unset, .unset, .unset, .unset, .unset, .unset, .unset, .unset, .unset, .unset, .unset, .unset, .unset, .unset, .unset, .unset, .unset, .unset] [(.ref b17)])) _
      refine XS.dup X17.here hx rfl (hb hby at_114) rfl rfl ?_
      show Steps p.tables e below (T17.setTop (mkF m 115 #[.val (.int p1), .val (.int p2), .val (.int p3), .val (.int p4), .val (.int p5), .val (.int (p1 &&& (3 : Int32))), .val (.ref ww), .val (.int (0 : Int32)), .val (.int x2), .val (.int x6), .val (.int x10), .val (.int x14), .unset, .unset, .unset, .unset, .unset, .unset, .unset, .unset, .unset, .unset, .unset, .unset, .unset, .unset, .unset, .unset, .unset, .unset, .unset, .unset, .unset, .unset] [(.ref b17), (.ref b17)])) _
      refine XS.iconst X17.here hx rfl (hb hby at_115) ?_
      show Steps p.tables e below (T17.setTop (mkF m 116 #[.val (.int p1), .val (.int p2), .val (.int p3), .val (.int p4), .val (.int p5), .val (.int (p1 &&& (3 : Int32))), .val (.ref ww), .val (.int (0 : Int32)), .val (.int x2), .val (.int x6), .val (.int x10), .val (.int x14), .unset, .unset, .unset, .unset, .unset, .unset, .unset, .unset, .unset, .unset, .unset, .unset, .unset, .unset, .unset, .unset, .unset, .unset, .unset, .unset, .unset, .unset] [(.int (0 : Int32)), (.ref b17), (.ref b17)])) _
      refine XS.iload X17.here hx rfl (hb hby at_116) rfl ?_
      show Steps p.tables e below (T17.setTop (mkF m 118 #[.val (.int p1), .val (.int p2), .val (.int p3), .val (.int p4), .val (.int p5), .val (.int (p1 &&& (3 : Int32))), .val (.ref ww), .val (.int (0 : Int32)), .val (.int x2), .val (.int x6), .val (.int x10), .val (.int x14), .unset, .unset, .unset, .unset, .unset, .unset, .unset, .unset, .unset, .unset, .unset, .unset, .unset, .unset, .unset, .unset, .unset, .unset, .unset, .unset, .unset, .unset] [(.int x6), (.int (0 : Int32)), (.ref b17), (.ref b17)])) _
      refine st34 _ ?_
      show Steps p.tables e below (T34.setTop (mkF m 119 #[.val (.int p1), .val (.int p2), .val (.int p3), .val (.int p4), .val (.int p5), .val (.int (p1 &&& (3 : Int32))), .val (.ref ww), .val (.int (0 : Int32)), .val (.int x2), .val (.int x6), .val (.int x10), .val (.int x14), .unset, .unset, .unset, .unset, .unset, .unset, .unset, .unset, .unset, .unset, .unset, .unset, .unset, .unset, .unset, .unset, .unset, .unset, .unset, .unset, .unset, .unset] [(.ref b17)])) _
      refine XS.dup X34.here hx rfl (hb hby at_119) rfl rfl ?_
      show Steps p.tables e below (T34.setTop (mkF m 120 #[.val (.int p1), .val (.int p2), .val (.int p3), .val (.int p4), .val (.int p5), .val (.int (p1 &&& (3 : Int32))), .val (.ref ww), .val (.int (0 : Int32)), .val (.int x2), .val (.int x6), .val (.int x10), .val (.int x14), .unset, .unset, .unset, .unset, .unset, .unset, .unset, .unset, .unset, .unset, .unset, .unset, .unset, .unset, .unset, .unset, .unset, .unset, .unset, .unset, .unset, .unset] [(.ref b17), (.ref b17)])) _
      refine XS.iconst X34.here hx rfl (hb hby at_120) ?_
      show Steps p.tables e below (T34.setTop (mkF m 121 #[.val (.int p1), .val (.int p2), .val (.int p3), .val (.int p4), .val (.int p5), .val (.int (p1 &&& (3 : Int32))), .val (.ref ww), .val (.int (0 : Int32)), .val (.int x2), .val (.int x6), .val (.int x10), .val (.int x14), .unset, .unset, .unset, .unset, .unset, .unset, .unset, .unset, .unset, .unset, .unset, .unset, .unset, .unset, .unset, .unset, .unset, .unset, .unset, .unset, .unset, .unset] [(.int (1 : Int32)), (.ref b17), (.ref b17)])) _
      refine XS.iload X34.here hx rfl (hb hby at_121) rfl ?_
      show Steps p.tables e below (T34.setTop (mkF m 123 #[.val (.int p1), .val (.int p2), .val (.int p3), .val (.int p4), .val (.int p5), .val (.int (p1 &&& (3 : Int32))), .val (.ref ww), .val (.int (0 : Int32)), .val (.int x2), .val (.int x6), .val (.int x10), .val (.int x14), .unset, .unset, .unset, .unset, .unset, .unset, .unset, .unset, .unset, .unset, .unset, .unset, .unset, .unset, .unset, .unset, .unset, .unset, .unset, .unset, .unset, .unset] [(.int x10), (.int (1 : Int32)), (.ref b17), (.ref b17)])) _
      refine st52 _ ?_
      show Steps p.tables e below (T52.setTop (mkF m 124 #[.val (.int p1), .val (.int p2), .val (.int p3), .val (.int p4), .val (.int p5), .val (.int (p1 &&& (3 : Int32))), .val (.ref ww), .val (.int (0 : Int32)), .val (.int x2), .val (.int x6), .val (.int x10), .val (.int x14), .unset, .unset, .unset, .unset, .unset, .unset, .unset, .unset, .unset, .unset, .unset, .unset, .unset, .unset, .unset, .unset, .unset, .unset, .unset, .unset, .unset, .unset] [(.ref b17)])) _
      refine XS.dup X52.here hx rfl (hb hby at_124) rfl rfl ?_
      show Steps p.tables e below (T52.setTop (mkF m 125 #[.val (.int p1), .val (.int p2), .val (.int p3), .val (.int p4), .val (.int p5), .val (.int (p1 &&& (3 : Int32))), .val (.ref ww), .val (.int (0 : Int32)), .val (.int x2), .val (.int x6), .val (.int x10), .val (.int x14), .unset, .unset, .unset, .unset, .unset, .unset, .unset, .unset, .unset, .unset, .unset, .unset, .unset, .unset, .unset, .unset, .unset, .unset, .unset, .unset, .unset, .unset] [(.ref b17), (.ref b17)])) _
      refine XS.iconst X52.here hx rfl (hb hby at_125) ?_
      show Steps p.tables e below (T52.setTop (mkF m 126 #[.val (.int p1), .val (.int p2), .val (.int p3), .val (.int p4), .val (.int p5), .val (.int (p1 &&& (3 : Int32))), .val (.ref ww), .val (.int (0 : Int32)), .val (.int x2), .val (.int x6), .val (.int x10), .val (.int x14), .unset, .unset, .unset, .unset, .unset, .unset, .unset, .unset, .unset, .unset, .unset, .unset, .unset, .unset, .unset, .unset, .unset, .unset, .unset, .unset, .unset, .unset] [(.int (2 : Int32)), (.ref b17), (.ref b17)])) _
      refine XS.iload X52.here hx rfl (hb hby at_126) rfl ?_
      show Steps p.tables e below (T52.setTop (mkF m 128 #[.val (.int p1), .val (.int p2), .val (.int p3), .val (.int p4), .val (.int p5), .val (.int (p1 &&& (3 : Int32))), .val (.ref ww), .val (.int (0 : Int32)), .val (.int x2), .val (.int x6), .val (.int x10), .val (.int x14), .unset, .unset, .unset, .unset, .unset, .unset, .unset, .unset, .unset, .unset, .unset, .unset, .unset, .unset, .unset, .unset, .unset, .unset, .unset, .unset, .unset, .unset] [(.int x14), (.int (2 : Int32)), (.ref b17), (.ref b17)])) _
      refine st70 _ ?_
      show Steps p.tables e below (T70.setTop (mkF m 129 #[.val (.int p1), .val (.int p2), .val (.int p3), .val (.int p4), .val (.int p5), .val (.int (p1 &&& (3 : Int32))), .val (.ref ww), .val (.int (0 : Int32)), .val (.int x2), .val (.int x6), .val (.int x10), .val (.int x14), .unset, .unset, .unset, .unset, .unset, .unset, .unset, .unset, .unset, .unset, .unset, .unset, .unset, .unset, .unset, .unset, .unset, .unset, .unset, .unset, .unset, .unset] [(.ref b17)])) _
      refine XS.astore X70.here hx rfl (hb hby at_129) rfl rfl (l' := #[.val (.int p1), .val (.int p2), .val (.int p3), .val (.int p4), .val (.int p5), .val (.int (p1 &&& (3 : Int32))), .val (.ref ww), .val (.int (0 : Int32)), .val (.int x2), .val (.int x6), .val (.int x10), .val (.int x14), .val (.ref b17), .unset, .unset, .unset, .unset, .unset, .unset, .unset, .unset, .unset, .unset, .unset, .unset, .unset, .unset, .unset, .unset, .unset, .unset, .unset, .unset, .unset]) rfl ?_
      show Steps p.tables e below (T70.setTop (mkF m 131 #[.val (.int p1), .val (.int p2), .val (.int p3), .val (.int p4), .val (.int p5), .val (.int (p1 &&& (3 : Int32))), .val (.ref ww), .val (.int (0 : Int32)), .val (.int x2), .val (.int x6), .val (.int x10), .val (.int x14), .val (.ref b17), .unset, .unset, .unset, .unset, .unset, .unset, .unset, .unset, .unset, .unset, .unset, .unset, .unset, .unset, .unset, .unset, .unset, .unset, .unset, .unset, .unset] [])) _
      refine XS.aload X70.here hx rfl (hb hby at_131) rfl rfl ?_
      show Steps p.tables e below (T70.setTop (mkF m 133 #[.val (.int p1), .val (.int p2), .val (.int p3), .val (.int p4), .val (.int p5), .val (.int (p1 &&& (3 : Int32))), .val (.ref ww), .val (.int (0 : Int32)), .val (.int x2), .val (.int x6), .val (.int x10), .val (.int x14), .val (.ref b17), .unset, .unset, .unset, .unset, .unset, .unset, .unset, .unset, .unset, .unset, .unset, .unset, .unset, .unset, .unset, .unset, .unset, .unset, .unset, .unset, .unset] [(.ref ww)])) _
      refine XS.iload X70.here hx rfl (hb hby at_133) rfl ?_
      show Steps p.tables e below (T70.setTop (mkF m 135 #[.val (.int p1), .val (.int p2), .val (.int p3), .val (.int p4), .val (.int p5), .val (.int (p1 &&& (3 : Int32))), .val (.ref ww), .val (.int (0 : Int32)), .val (.int x2), .val (.int x6), .val (.int x10), .val (.int x14), .val (.ref b17), .unset, .unset, .unset, .unset, .unset, .unset, .unset, .unset, .unset, .unset, .unset, .unset, .unset, .unset, .unset, .unset, .unset, .unset, .unset, .unset, .unset] [(.int x2), (.ref ww)])) _
      refine XS.aload X70.here hx rfl (hb hby at_135) rfl rfl ?_
      show Steps p.tables e below (T70.setTop (mkF m 137 #[.val (.int p1), .val (.int p2), .val (.int p3), .val (.int p4), .val (.int p5), .val (.int (p1 &&& (3 : Int32))), .val (.ref ww), .val (.int (0 : Int32)), .val (.int x2), .val (.int x6), .val (.int x10), .val (.int x14), .val (.ref b17), .unset, .unset, .unset, .unset, .unset, .unset, .unset, .unset, .unset, .unset, .unset, .unset, .unset, .unset, .unset, .unset, .unset, .unset, .unset, .unset, .unset] [(.ref b17), (.int x2), (.ref ww)])) _
      refine st87 _ ?_
      show Steps p.tables e below (T87.setTop (mkF m 140 #[.val (.int p1), .val (.int p2), .val (.int p3), .val (.int p4), .val (.int p5), .val (.int (p1 &&& (3 : Int32))), .val (.ref ww), .val (.int (0 : Int32)), .val (.int x2), .val (.int x6), .val (.int x10), .val (.int x14), .val (.ref b17), .unset, .unset, .unset, .unset, .unset, .unset, .unset, .unset, .unset, .unset, .unset, .unset, .unset, .unset, .unset, .unset, .unset, .unset, .unset, .unset, .unset] [(.ref x88)])) _
      refine XS.astore X87.here hx rfl (hb hby at_140) rfl rfl (l' := #[.val (.int p1), .val (.int p2), .val (.int p3), .val (.int p4), .val (.int p5), .val (.int (p1 &&& (3 : Int32))), .val (.ref ww), .val (.int (0 : Int32)), .val (.int x2), .val (.int x6), .val (.int x10), .val (.int x14), .val (.ref b17), .val (.ref x88), .unset, .unset, .unset, .unset, .unset, .unset, .unset, .unset, .unset, .unset, .unset, .unset, .unset, .unset, .unset, .unset, .unset, .unset, .unset, .unset]) rfl ?_
      show Steps p.tables e below (T87.setTop (mkF m 142 #[.val (.int p1), .val (.int p2), .val (.int p3), .val (.int p4), .val (.int p5), .val (.int (p1 &&& (3 : Int32))), .val (.ref ww), .val (.int (0 : Int32)), .val (.int x2), .val (.int x6), .val (.int x10), .val (.int x14), .val (.ref b17), .val (.ref x88), .unset, .unset, .unset, .unset, .unset, .unset, .unset, .unset, .unset, .unset, .unset, .unset, .unset, .unset, .unset, .unset, .unset, .unset, .unset, .unset] [])) _
      refine XS.aload X87.here hx rfl (hb hby at_142) rfl rfl ?_
      show Steps p.tables e below (T87.setTop (mkF m 144 #[.val (.int p1), .val (.int p2), .val (.int p3), .val (.int p4), .val (.int p5), .val (.int (p1 &&& (3 : Int32))), .val (.ref ww), .val (.int (0 : Int32)), .val (.int x2), .val (.int x6), .val (.int x10), .val (.int x14), .val (.ref b17), .val (.ref x88), .unset, .unset, .unset, .unset, .unset, .unset, .unset, .unset, .unset, .unset, .unset, .unset, .unset, .unset, .unset, .unset, .unset, .unset, .unset, .unset] [(.ref x88)])) _
      refine XS.ifnullNo X87.here hx rfl (hb hby at_144) rfl ?_
      show Steps p.tables e below (T87.setTop (mkF m 147 #[.val (.int p1), .val (.int p2), .val (.int p3), .val (.int p4), .val (.int p5), .val (.int (p1 &&& (3 : Int32))), .val (.ref ww), .val (.int (0 : Int32)), .val (.int x2), .val (.int x6), .val (.int x10), .val (.int x14), .val (.ref b17), .val (.ref x88), .unset, .unset, .unset, .unset, .unset, .unset, .unset, .unset, .unset, .unset, .unset, .unset, .unset, .unset, .unset, .unset, .unset, .unset, .unset, .unset] [])) _
      refine XS.aload X87.here hx rfl (hb hby at_147) rfl rfl ?_
      show Steps p.tables e below (T87.setTop (mkF m 149 #[.val (.int p1), .val (.int p2), .val (.int p3), .val (.int p4), .val (.int p5), .val (.int (p1 &&& (3 : Int32))), .val (.ref ww), .val (.int (0 : Int32)), .val (.int x2), .val (.int x6), .val (.int x10), .val (.int x14), .val (.ref b17), .val (.ref x88), .unset, .unset, .unset, .unset, .unset, .unset, .unset, .unset, .unset, .unset, .unset, .unset, .unset, .unset, .unset, .unset, .unset, .unset, .unset, .unset] [(.ref x88)])) _
      refine X87.arraylength hx Arc129.1 (State.isArrayOf_alike hZ.alike Arc129.2.1) (g := (mkF m 149 #[.val (.int p1), .val (.int p2), .val (.int p3), .val (.int p4), .val (.int p5), .val (.int (p1 &&& (3 : Int32))), .val (.ref ww), .val (.int (0 : Int32)), .val (.int x2), .val (.int x6), .val (.int x10), .val (.int x14), .val (.ref b17), .val (.ref x88), .unset, .unset, .unset, .unset, .unset, .unset, .unset, .unset, .unset, .unset, .unset, .unset, .unset, .unset, .unset, .unset, .unset, .unset, .unset, .unset] [(.ref x88)])) rfl rfl (hb hby at_149) _ ?_
      rw [show c129.slots.size.toInt32 = (3 : Int32) from (len_of Sc129 Nc129)]
      show Steps p.tables e below (T87.setTop (mkF m 150 #[.val (.int p1), .val (.int p2), .val (.int p3), .val (.int p4), .val (.int p5), .val (.int (p1 &&& (3 : Int32))), .val (.ref ww), .val (.int (0 : Int32)), .val (.int x2), .val (.int x6), .val (.int x10), .val (.int x14), .val (.ref b17), .val (.ref x88), .unset, .unset, .unset, .unset, .unset, .unset, .unset, .unset, .unset, .unset, .unset, .unset, .unset, .unset, .unset, .unset, .unset, .unset, .unset, .unset] [(.int (3 : Int32))])) _
      refine XS.iconst X87.here hx rfl (hb hby at_150) ?_
      show Steps p.tables e below (T87.setTop (mkF m 151 #[.val (.int p1), .val (.int p2), .val (.int p3), .val (.int p4), .val (.int p5), .val (.int (p1 &&& (3 : Int32))), .val (.ref ww), .val (.int (0 : Int32)), .val (.int x2), .val (.int x6), .val (.int x10), .val (.int x14), .val (.ref b17), .val (.ref x88), .unset, .unset, .unset, .unset, .unset, .unset, .unset, .unset, .unset, .unset, .unset, .unset, .unset, .unset, .unset, .unset, .unset, .unset, .unset, .unset] [(.int (3 : Int32)), (.int (3 : Int32))])) _
      refine XS.icmpYes X87.here hx rfl (pc0 := 151) (pc' := 156) rfl (hb hby at_151) rfl (teq (by decide : (3 : Int32) = (3 : Int32))).1 (by decide) (by decide) ?_
      show Steps p.tables e below (T87.setTop (mkF m 156 #[.val (.int p1), .val (.int p2), .val (.int p3), .val (.int p4), .val (.int p5), .val (.int (p1 &&& (3 : Int32))), .val (.ref ww), .val (.int (0 : Int32)), .val (.int x2), .val (.int x6), .val (.int x10), .val (.int x14), .val (.ref b17), .val (.ref x88), .unset, .unset, .unset, .unset, .unset, .unset, .unset, .unset, .unset, .unset, .unset, .unset, .unset, .unset, .unset, .unset, .unset, .unset, .unset, .unset] [])) _
      refine XS.aload X87.here hx rfl (hb hby at_156) rfl rfl ?_
      show Steps p.tables e below (T87.setTop (mkF m 158 #[.val (.int p1), .val (.int p2), .val (.int p3), .val (.int p4), .val (.int p5), .val (.int (p1 &&& (3 : Int32))), .val (.ref ww), .val (.int (0 : Int32)), .val (.int x2), .val (.int x6), .val (.int x10), .val (.int x14), .val (.ref b17), .val (.ref x88), .unset, .unset, .unset, .unset, .unset, .unset, .unset, .unset, .unset, .unset, .unset, .unset, .unset, .unset, .unset, .unset, .unset, .unset, .unset, .unset] [(.ref x88)])) _
      refine XS.iconst X87.here hx rfl (hb hby at_158) ?_
      show Steps p.tables e below (T87.setTop (mkF m 159 #[.val (.int p1), .val (.int p2), .val (.int p3), .val (.int p4), .val (.int p5), .val (.int (p1 &&& (3 : Int32))), .val (.ref ww), .val (.int (0 : Int32)), .val (.int x2), .val (.int x6), .val (.int x10), .val (.int x14), .val (.ref b17), .val (.ref x88), .unset, .unset, .unset, .unset, .unset, .unset, .unset, .unset, .unset, .unset, .unset, .unset, .unset, .unset, .unset, .unset, .unset, .unset, .unset, .unset] [(.int (0 : Int32)), (.ref x88)])) _
      refine X87.iaload hx (j := (0 : Int32)) (v := (.int x90)) Arc130.1 (State.isArrayOf_alike hZ.alike Arc130.2.1) Arc130.2.2 hin131 (Has.at Hc130 hin131 rfl) (g := (mkF m 159 #[.val (.int p1), .val (.int p2), .val (.int p3), .val (.int p4), .val (.int p5), .val (.int (p1 &&& (3 : Int32))), .val (.ref ww), .val (.int (0 : Int32)), .val (.int x2), .val (.int x6), .val (.int x10), .val (.int x14), .val (.ref b17), .val (.ref x88), .unset, .unset, .unset, .unset, .unset, .unset, .unset, .unset, .unset, .unset, .unset, .unset, .unset, .unset, .unset, .unset, .unset, .unset, .unset, .unset] [(.int (0 : Int32)), (.ref x88)])) rfl rfl (hb hby at_159) _ ?_
      show Steps p.tables e below (T87.setTop (mkF m 160 #[.val (.int p1), .val (.int p2), .val (.int p3), .val (.int p4), .val (.int p5), .val (.int (p1 &&& (3 : Int32))), .val (.ref ww), .val (.int (0 : Int32)), .val (.int x2), .val (.int x6), .val (.int x10), .val (.int x14), .val (.ref b17), .val (.ref x88), .unset, .unset, .unset, .unset, .unset, .unset, .unset, .unset, .unset, .unset, .unset, .unset, .unset, .unset, .unset, .unset, .unset, .unset, .unset, .unset] [(.int x90)])) _
      refine XS.istore X87.here hx rfl (hb hby at_160) rfl (l' := #[.val (.int p1), .val (.int p2), .val (.int p3), .val (.int p4), .val (.int p5), .val (.int (p1 &&& (3 : Int32))), .val (.ref ww), .val (.int (0 : Int32)), .val (.int x2), .val (.int x6), .val (.int x10), .val (.int x14), .val (.ref b17), .val (.ref x88), .val (.int x90), .unset, .unset, .unset, .unset, .unset, .unset, .unset, .unset, .unset, .unset, .unset, .unset, .unset, .unset, .unset, .unset, .unset, .unset, .unset]) rfl ?_
      show Steps p.tables e below (T87.setTop (mkF m 162 #[.val (.int p1), .val (.int p2), .val (.int p3), .val (.int p4), .val (.int p5), .val (.int (p1 &&& (3 : Int32))), .val (.ref ww), .val (.int (0 : Int32)), .val (.int x2), .val (.int x6), .val (.int x10), .val (.int x14), .val (.ref b17), .val (.ref x88), .val (.int x90), .unset, .unset, .unset, .unset, .unset, .unset, .unset, .unset, .unset, .unset, .unset, .unset, .unset, .unset, .unset, .unset, .unset, .unset, .unset] [])) _
      refine XS.aload X87.here hx rfl (hb hby at_162) rfl rfl ?_
      show Steps p.tables e below (T87.setTop (mkF m 164 #[.val (.int p1), .val (.int p2), .val (.int p3), .val (.int p4), .val (.int p5), .val (.int (p1 &&& (3 : Int32))), .val (.ref ww), .val (.int (0 : Int32)), .val (.int x2), .val (.int x6), .val (.int x10), .val (.int x14), .val (.ref b17), .val (.ref x88), .val (.int x90), .unset, .unset, .unset, .unset, .unset, .unset, .unset, .unset, .unset, .unset, .unset, .unset, .unset, .unset, .unset, .unset, .unset, .unset, .unset] [(.ref x88)])) _
      refine XS.iconst X87.here hx rfl (hb hby at_164) ?_
      show Steps p.tables e below (T87.setTop (mkF m 165 #[.val (.int p1), .val (.int p2), .val (.int p3), .val (.int p4), .val (.int p5), .val (.int (p1 &&& (3 : Int32))), .val (.ref ww), .val (.int (0 : Int32)), .val (.int x2), .val (.int x6), .val (.int x10), .val (.int x14), .val (.ref b17), .val (.ref x88), .val (.int x90), .unset, .unset, .unset, .unset, .unset, .unset, .unset, .unset, .unset, .unset, .unset, .unset, .unset, .unset, .unset, .unset, .unset, .unset, .unset] [(.int (1 : Int32)), (.ref x88)])) _
      refine X87.iaload hx (j := (1 : Int32)) (v := (.int x91)) Arc132.1 (State.isArrayOf_alike hZ.alike Arc132.2.1) Arc132.2.2 hin133 (Has.at Hc132 hin133 rfl) (g := (mkF m 165 #[.val (.int p1), .val (.int p2), .val (.int p3), .val (.int p4), .val (.int p5), .val (.int (p1 &&& (3 : Int32))), .val (.ref ww), .val (.int (0 : Int32)), .val (.int x2), .val (.int x6), .val (.int x10), .val (.int x14), .val (.ref b17), .val (.ref x88), .val (.int x90), .unset, .unset, .unset, .unset, .unset, .unset, .unset, .unset, .unset, .unset, .unset, .unset, .unset, .unset, .unset, .unset, .unset, .unset, .unset] [(.int (1 : Int32)), (.ref x88)])) rfl rfl (hb hby at_165) _ ?_
      show Steps p.tables e below (T87.setTop (mkF m 166 #[.val (.int p1), .val (.int p2), .val (.int p3), .val (.int p4), .val (.int p5), .val (.int (p1 &&& (3 : Int32))), .val (.ref ww), .val (.int (0 : Int32)), .val (.int x2), .val (.int x6), .val (.int x10), .val (.int x14), .val (.ref b17), .val (.ref x88), .val (.int x90), .unset, .unset, .unset, .unset, .unset, .unset, .unset, .unset, .unset, .unset, .unset, .unset, .unset, .unset, .unset, .unset, .unset, .unset, .unset] [(.int x91)])) _
      refine XS.istore X87.here hx rfl (hb hby at_166) rfl (l' := #[.val (.int p1), .val (.int p2), .val (.int p3), .val (.int p4), .val (.int p5), .val (.int (p1 &&& (3 : Int32))), .val (.ref ww), .val (.int (0 : Int32)), .val (.int x2), .val (.int x6), .val (.int x10), .val (.int x14), .val (.ref b17), .val (.ref x88), .val (.int x90), .val (.int x91), .unset, .unset, .unset, .unset, .unset, .unset, .unset, .unset, .unset, .unset, .unset, .unset, .unset, .unset, .unset, .unset, .unset, .unset]) rfl ?_
      show Steps p.tables e below (T87.setTop (mkF m 168 #[.val (.int p1), .val (.int p2), .val (.int p3), .val (.int p4), .val (.int p5), .val (.int (p1 &&& (3 : Int32))), .val (.ref ww), .val (.int (0 : Int32)), .val (.int x2), .val (.int x6), .val (.int x10), .val (.int x14), .val (.ref b17), .val (.ref x88), .val (.int x90), .val (.int x91), .unset, .unset, .unset, .unset, .unset, .unset, .unset, .unset, .unset, .unset, .unset, .unset, .unset, .unset, .unset, .unset, .unset, .unset] [])) _
      refine XS.aload X87.here hx rfl (hb hby at_168) rfl rfl ?_
      show Steps p.tables e below (T87.setTop (mkF m 170 #[.val (.int p1), .val (.int p2), .val (.int p3), .val (.int p4), .val (.int p5), .val (.int (p1 &&& (3 : Int32))), .val (.ref ww), .val (.int (0 : Int32)), .val (.int x2), .val (.int x6), .val (.int x10), .val (.int x14), .val (.ref b17), .val (.ref x88), .val (.int x90), .val (.int x91), .unset, .unset, .unset, .unset, .unset, .unset, .unset, .unset, .unset, .unset, .unset, .unset, .unset, .unset, .unset, .unset, .unset, .unset] [(.ref x88)])) _
      refine XS.iconst X87.here hx rfl (hb hby at_170) ?_
      show Steps p.tables e below (T87.setTop (mkF m 171 #[.val (.int p1), .val (.int p2), .val (.int p3), .val (.int p4), .val (.int p5), .val (.int (p1 &&& (3 : Int32))), .val (.ref ww), .val (.int (0 : Int32)), .val (.int x2), .val (.int x6), .val (.int x10), .val (.int x14), .val (.ref b17), .val (.ref x88), .val (.int x90), .val (.int x91), .unset, .unset, .unset, .unset, .unset, .unset, .unset, .unset, .unset, .unset, .unset, .unset, .unset, .unset, .unset, .unset, .unset, .unset] [(.int (2 : Int32)), (.ref x88)])) _
      refine X87.iaload hx (j := (2 : Int32)) (v := (.int x92)) Arc134.1 (State.isArrayOf_alike hZ.alike Arc134.2.1) Arc134.2.2 hin135 (Has.at Hc134 hin135 rfl) (g := (mkF m 171 #[.val (.int p1), .val (.int p2), .val (.int p3), .val (.int p4), .val (.int p5), .val (.int (p1 &&& (3 : Int32))), .val (.ref ww), .val (.int (0 : Int32)), .val (.int x2), .val (.int x6), .val (.int x10), .val (.int x14), .val (.ref b17), .val (.ref x88), .val (.int x90), .val (.int x91), .unset, .unset, .unset, .unset, .unset, .unset, .unset, .unset, .unset, .unset, .unset, .unset, .unset, .unset, .unset, .unset, .unset, .unset] [(.int (2 : Int32)), (.ref x88)])) rfl rfl (hb hby at_171) _ ?_
      show Steps p.tables e below (T87.setTop (mkF m 172 #[.val (.int p1), .val (.int p2), .val (.int p3), .val (.int p4), .val (.int p5), .val (.int (p1 &&& (3 : Int32))), .val (.ref ww), .val (.int (0 : Int32)), .val (.int x2), .val (.int x6), .val (.int x10), .val (.int x14), .val (.ref b17), .val (.ref x88), .val (.int x90), .val (.int x91), .unset, .unset, .unset, .unset, .unset, .unset, .unset, .unset, .unset, .unset, .unset, .unset, .unset, .unset, .unset, .unset, .unset, .unset] [(.int x92)])) _
      refine XS.istore X87.here hx rfl (hb hby at_172) rfl (l' := #[.val (.int p1), .val (.int p2), .val (.int p3), .val (.int p4), .val (.int p5), .val (.int (p1 &&& (3 : Int32))), .val (.ref ww), .val (.int (0 : Int32)), .val (.int x2), .val (.int x6), .val (.int x10), .val (.int x14), .val (.ref b17), .val (.ref x88), .val (.int x90), .val (.int x91), .val (.int x92), .unset, .unset, .unset, .unset, .unset, .unset, .unset, .unset, .unset, .unset, .unset, .unset, .unset, .unset, .unset, .unset, .unset]) rfl ?_
      show Steps p.tables e below (T87.setTop (mkF m 174 #[.val (.int p1), .val (.int p2), .val (.int p3), .val (.int p4), .val (.int p5), .val (.int (p1 &&& (3 : Int32))), .val (.ref ww), .val (.int (0 : Int32)), .val (.int x2), .val (.int x6), .val (.int x10), .val (.int x14), .val (.ref b17), .val (.ref x88), .val (.int x90), .val (.int x91), .val (.int x92), .unset, .unset, .unset, .unset, .unset, .unset, .unset, .unset, .unset, .unset, .unset, .unset, .unset, .unset, .unset, .unset, .unset] [])) _
      refine XS.iload X87.here hx rfl (hb hby at_174) rfl ?_
      show Steps p.tables e below (T87.setTop (mkF m 176 #[.val (.int p1), .val (.int p2), .val (.int p3), .val (.int p4), .val (.int p5), .val (.int (p1 &&& (3 : Int32))), .val (.ref ww), .val (.int (0 : Int32)), .val (.int x2), .val (.int x6), .val (.int x10), .val (.int x14), .val (.ref b17), .val (.ref x88), .val (.int x90), .val (.int x91), .val (.int x92), .unset, .unset, .unset, .unset, .unset, .unset, .unset, .unset, .unset, .unset, .unset, .unset, .unset, .unset, .unset, .unset, .unset] [(.int x6)])) _
      refine XS.i2l X87.here hx rfl (hb hby at_176) rfl ?_
      show Steps p.tables e below (T87.setTop (mkF m 177 #[.val (.int p1), .val (.int p2), .val (.int p3), .val (.int p4), .val (.int p5), .val (.int (p1 &&& (3 : Int32))), .val (.ref ww), .val (.int (0 : Int32)), .val (.int x2), .val (.int x6), .val (.int x10), .val (.int x14), .val (.ref b17), .val (.ref x88), .val (.int x90), .val (.int x91), .val (.int x92), .unset, .unset, .unset, .unset, .unset, .unset, .unset, .unset, .unset, .unset, .unset, .unset, .unset, .unset, .unset, .unset, .unset] [(.long (x6.toInt64))])) _
      refine XS.iload X87.here hx rfl (hb hby at_177) rfl ?_
      show Steps p.tables e below (T87.setTop (mkF m 179 #[.val (.int p1), .val (.int p2), .val (.int p3), .val (.int p4), .val (.int p5), .val (.int (p1 &&& (3 : Int32))), .val (.ref ww), .val (.int (0 : Int32)), .val (.int x2), .val (.int x6), .val (.int x10), .val (.int x14), .val (.ref b17), .val (.ref x88), .val (.int x90), .val (.int x91), .val (.int x92), .unset, .unset, .unset, .unset, .unset, .unset, .unset, .unset, .unset, .unset, .unset, .unset, .unset, .unset, .unset, .unset, .unset] [(.int x10), (.long (x6.toInt64))])) _
      refine XS.i2l X87.here hx rfl (hb hby at_179) rfl ?_
      show Steps p.tables e below (T87.setTop (mkF m 180 #[.val (.int p1), .val (.int p2), .val (.int p3), .val (.int p4), .val (.int p5), .val (.int (p1 &&& (3 : Int32))), .val (.ref ww), .val (.int (0 : Int32)), .val (.int x2), .val (.int x6), .val (.int x10), .val (.int x14), .val (.ref b17), .val (.ref x88), .val (.int x90), .val (.int x91), .val (.int x92), .unset, .unset, .unset, .unset, .unset, .unset, .unset, .unset, .unset, .unset, .unset, .unset, .unset, .unset, .unset, .unset, .unset] [(.long (x10.toInt64)), (.long (x6.toInt64))])) _
      refine XS.ladd X87.here hx rfl (hb hby at_180) rfl ?_
      show Steps p.tables e below (T87.setTop (mkF m 181 #[.val (.int p1), .val (.int p2), .val (.int p3), .val (.int p4), .val (.int p5), .val (.int (p1 &&& (3 : Int32))), .val (.ref ww), .val (.int (0 : Int32)), .val (.int x2), .val (.int x6), .val (.int x10), .val (.int x14), .val (.ref b17), .val (.ref x88), .val (.int x90), .val (.int x91), .val (.int x92), .unset, .unset, .unset, .unset, .unset, .unset, .unset, .unset, .unset, .unset, .unset, .unset, .unset, .unset, .unset, .unset, .unset] [(.long ((x6.toInt64) + (x10.toInt64)))])) _
      refine XS.iload X87.here hx rfl (hb hby at_181) rfl ?_
      show Steps p.tables e below (T87.setTop (mkF m 183 #[.val (.int p1), .val (.int p2), .val (.int p3), .val (.int p4), .val (.int p5), .val (.int (p1 &&& (3 : Int32))), .val (.ref ww), .val (.int (0 : Int32)), .val (.int x2), .val (.int x6), .val (.int x10), .val (.int x14), .val (.ref b17), .val (.ref x88), .val (.int x90), .val (.int x91), .val (.int x92), .unset, .unset, .unset, .unset, .unset, .unset, .unset, .unset, .unset, .unset, .unset, .unset, .unset, .unset, .unset, .unset, .unset] [(.int x14), (.long ((x6.toInt64) + (x10.toInt64)))])) _
      refine XS.i2l X87.here hx rfl (hb hby at_183) rfl ?_
      show Steps p.tables e below (T87.setTop (mkF m 184 #[.val (.int p1), .val (.int p2), .val (.int p3), .val (.int p4), .val (.int p5), .val (.int (p1 &&& (3 : Int32))), .val (.ref ww), .val (.int (0 : Int32)), .val (.int x2), .val (.int x6), .val (.int x10), .val (.int x14), .val (.ref b17), .val (.ref x88), .val (.int x90), .val (.int x91), .val (.int x92), .unset, .unset, .unset, .unset, .unset, .unset, .unset, .unset, .unset, .unset, .unset, .unset, .unset, .unset, .unset, .unset, .unset] [(.long (x14.toInt64)), (.long ((x6.toInt64) + (x10.toInt64)))])) _
      refine XS.ladd X87.here hx rfl (hb hby at_184) rfl ?_
      show Steps p.tables e below (T87.setTop (mkF m 185 #[.val (.int p1), .val (.int p2), .val (.int p3), .val (.int p4), .val (.int p5), .val (.int (p1 &&& (3 : Int32))), .val (.ref ww), .val (.int (0 : Int32)), .val (.int x2), .val (.int x6), .val (.int x10), .val (.int x14), .val (.ref b17), .val (.ref x88), .val (.int x90), .val (.int x91), .val (.int x92), .unset, .unset, .unset, .unset, .unset, .unset, .unset, .unset, .unset, .unset, .unset, .unset, .unset, .unset, .unset, .unset, .unset] [(.long (((x6.toInt64) + (x10.toInt64)) + (x14.toInt64)))])) _
      exact k)
    obtain ⟨tot137, h_tot137⟩ : ∃ z : Int64, z = (((x6.toInt64) + (x10.toInt64)) + (x14.toInt64)) := ⟨_, rfl⟩
    have pre138 := fun (t : State) (k : Steps p.tables e below (T87.setTop (mkF m 185 #[.val (.int p1), .val (.int p2), .val (.int p3), .val (.int p4), .val (.int p5), .val (.int (p1 &&& (3 : Int32))), .val (.ref ww), .val (.int (0 : Int32)), .val (.int x2), .val (.int x6), .val (.int x10), .val (.int x14), .val (.ref b17), .val (.ref x88), .val (.int x90), .val (.int x91), .val (.int x92), .unset, .unset, .unset, .unset, .unset, .unset, .unset, .unset, .unset, .unset, .unset, .unset, .unset, .unset, .unset, .unset, .unset] [(.long tot137)])) t) => pre136 t (by rw [← h_tot137]; exact k)
    have pre139 := fun (t : State) (k : Steps p.tables e below (T87.setTop (mkF m 198 #[.val (.int p1), .val (.int p2), .val (.int p3), .val (.int p4), .val (.int p5), .val (.int (p1 &&& (3 : Int32))), .val (.ref ww), .val (.int (0 : Int32)), .val (.int x2), .val (.int x6), .val (.int x10), .val (.int x14), .val (.ref b17), .val (.ref x88), .val (.int x90), .val (.int x91), .val (.int x92), .val (.long tot137), .second, .unset, .unset, .unset, .unset, .unset, .unset, .unset, .unset, .unset, .unset, .unset, .unset, .unset, .unset, .unset] [(.long (((x90.toInt64) + (x91.toInt64)) + (x92.toInt64)))])) t) => pre138 t (by
      refine XS.lstore X87.here hx rfl (hb hby at_185) rfl (l' := #[.val (.int p1), .val (.int p2), .val (.int p3), .val (.int p4), .val (.int p5), .val (.int (p1 &&& (3 : Int32))), .val (.ref ww), .val (.int (0 : Int32)), .val (.int x2), .val (.int x6), .val (.int x10), .val (.int x14), .val (.ref b17), .val (.ref x88), .val (.int x90), .val (.int x91), .val (.int x92), .val (.long tot137), .second, .unset, .unset, .unset, .unset, .unset, .unset, .unset, .unset, .unset, .unset, .unset, .unset, .unset, .unset, .unset]) rfl ?_
      show Steps p.tables e below (T87.setTop (mkF m 187 #[.val (.int p1), .val (.int p2), .val (.int p3), .val (.int p4), .val (.int p5), .val (.int (p1 &&& (3 : Int32))), .val (.ref ww), .val (.int (0 : Int32)), .val (.int x2), .val (.int x6), .val (.int x10), .val (.int x14), .val (.ref b17), .val (.ref x88), .val (.int x90), .val (.int x91), .val (.int x92), .val (.long tot137), .second, .unset, .unset, .unset, .unset, .unset, .unset, .unset, .unset, .unset, .unset, .unset, .unset, .unset, .unset, .unset] [])) _
      refine XS.iload X87.here hx rfl (hb hby at_187) rfl ?_
      show Steps p.tables e below (T87.setTop (mkF m 189 #[.val (.int p1), .val (.int p2), .val (.int p3), .val (.int p4), .val (.int p5), .val (.int (p1 &&& (3 : Int32))), .val (.ref ww), .val (.int (0 : Int32)), .val (.int x2), .val (.int x6), .val (.int x10), .val (.int x14), .val (.ref b17), .val (.ref x88), .val (.int x90), .val (.int x91), .val (.int x92), .val (.long tot137), .second, .unset, .unset, .unset, .unset, .unset, .unset, .unset, .unset, .unset, .unset, .unset, .unset, .unset, .unset, .unset] [(.int x90)])) _
      refine XS.i2l X87.here hx rfl (hb hby at_189) rfl ?_
      show Steps p.tables e below (T87.setTop (mkF m 190 #[.val (.int p1), .val (.int p2), .val (.int p3), .val (.int p4), .val (.int p5), .val (.int (p1 &&& (3 : Int32))), .val (.ref ww), .val (.int (0 : Int32)), .val (.int x2), .val (.int x6), .val (.int x10), .val (.int x14), .val (.ref b17), .val (.ref x88), .val (.int x90), .val (.int x91), .val (.int x92), .val (.long tot137), .second, .unset, .unset, .unset, .unset, .unset, .unset, .unset, .unset, .unset, .unset, .unset, .unset, .unset, .unset, .unset] [(.long (x90.toInt64))])) _
      refine XS.iload X87.here hx rfl (hb hby at_190) rfl ?_
      show Steps p.tables e below (T87.setTop (mkF m 192 #[.val (.int p1), .val (.int p2), .val (.int p3), .val (.int p4), .val (.int p5), .val (.int (p1 &&& (3 : Int32))), .val (.ref ww), .val (.int (0 : Int32)), .val (.int x2), .val (.int x6), .val (.int x10), .val (.int x14), .val (.ref b17), .val (.ref x88), .val (.int x90), .val (.int x91), .val (.int x92), .val (.long tot137), .second, .unset, .unset, .unset, .unset, .unset, .unset, .unset, .unset, .unset, .unset, .unset, .unset, .unset, .unset, .unset] [(.int x91), (.long (x90.toInt64))])) _
      refine XS.i2l X87.here hx rfl (hb hby at_192) rfl ?_
      show Steps p.tables e below (T87.setTop (mkF m 193 #[.val (.int p1), .val (.int p2), .val (.int p3), .val (.int p4), .val (.int p5), .val (.int (p1 &&& (3 : Int32))), .val (.ref ww), .val (.int (0 : Int32)), .val (.int x2), .val (.int x6), .val (.int x10), .val (.int x14), .val (.ref b17), .val (.ref x88), .val (.int x90), .val (.int x91), .val (.int x92), .val (.long tot137), .second, .unset, .unset, .unset, .unset, .unset, .unset, .unset, .unset, .unset, .unset, .unset, .unset, .unset, .unset, .unset] [(.long (x91.toInt64)), (.long (x90.toInt64))])) _
      refine XS.ladd X87.here hx rfl (hb hby at_193) rfl ?_
      show Steps p.tables e below (T87.setTop (mkF m 194 #[.val (.int p1), .val (.int p2), .val (.int p3), .val (.int p4), .val (.int p5), .val (.int (p1 &&& (3 : Int32))), .val (.ref ww), .val (.int (0 : Int32)), .val (.int x2), .val (.int x6), .val (.int x10), .val (.int x14), .val (.ref b17), .val (.ref x88), .val (.int x90), .val (.int x91), .val (.int x92), .val (.long tot137), .second, .unset, .unset, .unset, .unset, .unset, .unset, .unset, .unset, .unset, .unset, .unset, .unset, .unset, .unset, .unset] [(.long ((x90.toInt64) + (x91.toInt64)))])) _
      refine XS.iload X87.here hx rfl (hb hby at_194) rfl ?_
      show Steps p.tables e below (T87.setTop (mkF m 196 #[.val (.int p1), .val (.int p2), .val (.int p3), .val (.int p4), .val (.int p5), .val (.int (p1 &&& (3 : Int32))), .val (.ref ww), .val (.int (0 : Int32)), .val (.int x2), .val (.int x6), .val (.int x10), .val (.int x14), .val (.ref b17), .val (.ref x88), .val (.int x90), .val (.int x91), .val (.int x92), .val (.long tot137), .second, .unset, .unset, .unset, .unset, .unset, .unset, .unset, .unset, .unset, .unset, .unset, .unset, .unset, .unset, .unset] [(.int x92), (.long ((x90.toInt64) + (x91.toInt64)))])) _
      refine XS.i2l X87.here hx rfl (hb hby at_196) rfl ?_
      show Steps p.tables e below (T87.setTop (mkF m 197 #[.val (.int p1), .val (.int p2), .val (.int p3), .val (.int p4), .val (.int p5), .val (.int (p1 &&& (3 : Int32))), .val (.ref ww), .val (.int (0 : Int32)), .val (.int x2), .val (.int x6), .val (.int x10), .val (.int x14), .val (.ref b17), .val (.ref x88), .val (.int x90), .val (.int x91), .val (.int x92), .val (.long tot137), .second, .unset, .unset, .unset, .unset, .unset, .unset, .unset, .unset, .unset, .unset, .unset, .unset, .unset, .unset, .unset] [(.long (x92.toInt64)), (.long ((x90.toInt64) + (x91.toInt64)))])) _
      refine XS.ladd X87.here hx rfl (hb hby at_197) rfl ?_
      show Steps p.tables e below (T87.setTop (mkF m 198 #[.val (.int p1), .val (.int p2), .val (.int p3), .val (.int p4), .val (.int p5), .val (.int (p1 &&& (3 : Int32))), .val (.ref ww), .val (.int (0 : Int32)), .val (.int x2), .val (.int x6), .val (.int x10), .val (.int x14), .val (.ref b17), .val (.ref x88), .val (.int x90), .val (.int x91), .val (.int x92), .val (.long tot137), .second, .unset, .unset, .unset, .unset, .unset, .unset, .unset, .unset, .unset, .unset, .unset, .unset, .unset, .unset, .unset] [(.long (((x90.toInt64) + (x91.toInt64)) + (x92.toInt64)))])) _
      exact k)
    obtain ⟨sum140, h_sum140⟩ : ∃ z : Int64, z = (((x90.toInt64) + (x91.toInt64)) + (x92.toInt64)) := ⟨_, rfl⟩
    have pre141 := fun (t : State) (k : Steps p.tables e below (T87.setTop (mkF m 198 #[.val (.int p1), .val (.int p2), .val (.int p3), .val (.int p4), .val (.int p5), .val (.int (p1 &&& (3 : Int32))), .val (.ref ww), .val (.int (0 : Int32)), .val (.int x2), .val (.int x6), .val (.int x10), .val (.int x14), .val (.ref b17), .val (.ref x88), .val (.int x90), .val (.int x91), .val (.int x92), .val (.long tot137), .second, .unset, .unset, .unset, .unset, .unset, .unset, .unset, .unset, .unset, .unset, .unset, .unset, .unset, .unset, .unset] [(.long sum140)])) t) => pre139 t (by rw [← h_sum140]; exact k)
    have pre142 := fun (t : State) (k : Steps p.tables e below (T87.setTop (mkF m 255 #[.val (.int p1), .val (.int p2), .val (.int p3), .val (.int p4), .val (.int p5), .val (.int (p1 &&& (3 : Int32))), .val (.ref ww), .val (.int (0 : Int32)), .val (.int x2), .val (.int x6), .val (.int x10), .val (.int x14), .val (.ref b17), .val (.ref x88), .val (.int x90), .val (.int x91), .val (.int x92), .val (.long tot137), .second, .val (.long sum140), .second, .val (.int (1 : Int32)), .unset, .unset, .unset, .unset, .unset, .unset, .unset, .unset, .unset, .unset, .unset, .unset] [(.int x91)])) t) => pre141 t (by
      refine XS.lstore X87.here hx rfl (hb hby at_198) rfl (l' := #[.val (.int p1), .val (.int p2), .val (.int p3), .val (.int p4), .val (.int p5), .val (.int (p1 &&& (3 : Int32))), .val (.ref ww), .val (.int (0 : Int32)), .val (.int x2), .val (.int x6), .val (.int x10), .val (.int x14), .val (.ref b17), .val (.ref x88), .val (.int x90), .val (.int x91), .val (.int x92), .val (.long tot137), .second, .val (.long sum140), .second, .unset, .unset, .unset, .unset, .unset, .unset, .unset, .unset, .unset, .unset, .unset, .unset, .unset]) rfl ?_
      show Steps p.tables e below (T87.setTop (mkF m 200 #[.val (.int p1), .val (.int p2), .val (.int p3), .val (.int p4), .val (.int p5), .val (.int (p1 &&& (3 : Int32))), .val (.ref ww), .val (.int (0 : Int32)), .val (.int x2), .val (.int x6), .val (.int x10), .val (.int x14), .val (.ref b17), .val (.ref x88), .val (.int x90), .val (.int x91), .val (.int x92), .val (.long tot137), .second, .val (.long sum140), .second, .unset, .unset, .unset, .unset, .unset, .unset, .unset, .unset, .unset, .unset, .unset, .unset, .unset] [])) _
      refine XS.iload X87.here hx rfl (hb hby at_200) rfl ?_
      show Steps p.tables e below (T87.setTop (mkF m 202 #[.val (.int p1), .val (.int p2), .val (.int p3), .val (.int p4), .val (.int p5), .val (.int (p1 &&& (3 : Int32))), .val (.ref ww), .val (.int (0 : Int32)), .val (.int x2), .val (.int x6), .val (.int x10), .val (.int x14), .val (.ref b17), .val (.ref x88), .val (.int x90), .val (.int x91), .val (.int x92), .val (.long tot137), .second, .val (.long sum140), .second, .unset, .unset, .unset, .unset, .unset, .unset, .unset, .unset, .unset, .unset, .unset, .unset, .unset] [(.int x90)])) _
      refine XS.ifNo X87.here hx rfl (hb hby at_202) rfl ((if0 _ _).trans (flt LF128.1).1) ?_
      show Steps p.tables e below (T87.setTop (mkF m 205 #[.val (.int p1), .val (.int p2), .val (.int p3), .val (.int p4), .val (.int p5), .val (.int (p1 &&& (3 : Int32))), .val (.ref ww), .val (.int (0 : Int32)), .val (.int x2), .val (.int x6), .val (.int x10), .val (.int x14), .val (.ref b17), .val (.ref x88), .val (.int x90), .val (.int x91), .val (.int x92), .val (.long tot137), .second, .val (.long sum140), .second, .unset, .unset, .unset, .unset, .unset, .unset, .unset, .unset, .unset, .unset, .unset, .unset, .unset] [])) _
      refine XS.iload X87.here hx rfl (hb hby at_205) rfl ?_
      show Steps p.tables e below (T87.setTop (mkF m 207 #[.val (.int p1), .val (.int p2), .val (.int p3), .val (.int p4), .val (.int p5), .val (.int (p1 &&& (3 : Int32))), .val (.ref ww), .val (.int (0 : Int32)), .val (.int x2), .val (.int x6), .val (.int x10), .val (.int x14), .val (.ref b17), .val (.ref x88), .val (.int x90), .val (.int x91), .val (.int x92), .val (.long tot137), .second, .val (.long sum140), .second, .unset, .unset, .unset, .unset, .unset, .unset, .unset, .unset, .unset, .unset, .unset, .unset, .unset] [(.int x90)])) _
      refine XS.iload X87.here hx rfl (hb hby at_207) rfl ?_
      show Steps p.tables e below (T87.setTop (mkF m 209 #[.val (.int p1), .val (.int p2), .val (.int p3), .val (.int p4), .val (.int p5), .val (.int (p1 &&& (3 : Int32))), .val (.ref ww), .val (.int (0 : Int32)), .val (.int x2), .val (.int x6), .val (.int x10), .val (.int x14), .val (.ref b17), .val (.ref x88), .val (.int x90), .val (.int x91), .val (.int x92), .val (.long tot137), .second, .val (.long sum140), .second, .unset, .unset, .unset, .unset, .unset, .unset, .unset, .unset, .unset, .unset, .unset, .unset, .unset] [(.int x6), (.int x90)])) _
      refine XS.icmpNo X87.here hx rfl (hb hby at_209) rfl (flt LF128.2.1).2.2.1 ?_
      show Steps p.tables e below (T87.setTop (mkF m 212 #[.val (.int p1), .val (.int p2), .val (.int p3), .val (.int p4), .val (.int p5), .val (.int (p1 &&& (3 : Int32))), .val (.ref ww), .val (.int (0 : Int32)), .val (.int x2), .val (.int x6), .val (.int x10), .val (.int x14), .val (.ref b17), .val (.ref x88), .val (.int x90), .val (.int x91), .val (.int x92), .val (.long tot137), .second, .val (.long sum140), .second, .unset, .unset, .unset, .unset, .unset, .unset, .unset, .unset, .unset, .unset, .unset, .unset, .unset] [])) _
      refine XS.iload X87.here hx rfl (hb hby at_212) rfl ?_
      show Steps p.tables e below (T87.setTop (mkF m 214 #[.val (.int p1), .val (.int p2), .val (.int p3), .val (.int p4), .val (.int p5), .val (.int (p1 &&& (3 : Int32))), .val (.ref ww), .val (.int (0 : Int32)), .val (.int x2), .val (.int x6), .val (.int x10), .val (.int x14), .val (.ref b17), .val (.ref x88), .val (.int x90), .val (.int x91), .val (.int x92), .val (.long tot137), .second, .val (.long sum140), .second, .unset, .unset, .unset, .unset, .unset, .unset, .unset, .unset, .unset, .unset, .unset, .unset, .unset] [(.int x91)])) _
      refine XS.ifNo X87.here hx rfl (hb hby at_214) rfl ((if0 _ _).trans (flt LF128.2.2.1).1) ?_
      show Steps p.tables e below (T87.setTop (mkF m 217 #[.val (.int p1), .val (.int p2), .val (.int p3), .val (.int p4), .val (.int p5), .val (.int (p1 &&& (3 : Int32))), .val (.ref ww), .val (.int (0 : Int32)), .val (.int x2), .val (.int x6), .val (.int x10), .val (.int x14), .val (.ref b17), .val (.ref x88), .val (.int x90), .val (.int x91), .val (.int x92), .val (.long tot137), .second, .val (.long sum140), .second, .unset, .unset, .unset, .unset, .unset, .unset, .unset, .unset, .unset, .unset, .unset, .unset, .unset] [])) _
      refine XS.iload X87.here hx rfl (hb hby at_217) rfl ?_
      show Steps p.tables e below (T87.setTop (mkF m 219 #[.val (.int p1), .val (.int p2), .val (.int p3), .val (.int p4), .val (.int p5), .val (.int (p1 &&& (3 : Int32))), .val (.ref ww), .val (.int (0 : Int32)), .val (.int x2), .val (.int x6), .val (.int x10), .val (.int x14), .val (.ref b17), .val (.ref x88), .val (.int x90), .val (.int x91), .val (.int x92), .val (.long tot137), .second, .val (.long sum140), .second, .unset, .unset, .unset, .unset, .unset, .unset, .unset, .unset, .unset, .unset, .unset, .unset, .unset] [(.int x91)])) _
      refine XS.iload X87.here hx rfl (hb hby at_219) rfl ?_
      show Steps p.tables e below (T87.setTop (mkF m 221 #[.val (.int p1), .val (.int p2), .val (.int p3), .val (.int p4), .val (.int p5), .val (.int (p1 &&& (3 : Int32))), .val (.ref ww), .val (.int (0 : Int32)), .val (.int x2), .val (.int x6), .val (.int x10), .val (.int x14), .val (.ref b17), .val (.ref x88), .val (.int x90), .val (.int x91), .val (.int x92), .val (.long tot137), .second, .val (.long sum140), .second, .unset, .unset, .unset, .unset, .unset, .unset, .unset, .unset, .unset, .unset, .unset, .unset, .unset] [(.int x10), (.int x91)])) _
      refine XS.icmpNo X87.here hx rfl (hb hby at_221) rfl (flt LF128.2.2.2.1).2.2.1 ?_
      show Steps p.tables e below (T87.setTop (mkF m 224 #[.val (.int p1), .val (.int p2), .val (.int p3), .val (.int p4), .val (.int p5), .val (.int (p1 &&& (3 : Int32))), .val (.ref ww), .val (.int (0 : Int32)), .val (.int x2), .val (.int x6), .val (.int x10), .val (.int x14), .val (.ref b17), .val (.ref x88), .val (.int x90), .val (.int x91), .val (.int x92), .val (.long tot137), .second, .val (.long sum140), .second, .unset, .unset, .unset, .unset, .unset, .unset, .unset, .unset, .unset, .unset, .unset, .unset, .unset] [])) _
      refine XS.iload X87.here hx rfl (hb hby at_224) rfl ?_
      show Steps p.tables e below (T87.setTop (mkF m 226 #[.val (.int p1), .val (.int p2), .val (.int p3), .val (.int p4), .val (.int p5), .val (.int (p1 &&& (3 : Int32))), .val (.ref ww), .val (.int (0 : Int32)), .val (.int x2), .val (.int x6), .val (.int x10), .val (.int x14), .val (.ref b17), .val (.ref x88), .val (.int x90), .val (.int x91), .val (.int x92), .val (.long tot137), .second, .val (.long sum140), .second, .unset, .unset, .unset, .unset, .unset, .unset, .unset, .unset, .unset, .unset, .unset, .unset, .unset] [(.int x92)])) _
      refine XS.ifNo X87.here hx rfl (hb hby at_226) rfl ((if0 _ _).trans (flt LF128.2.2.2.2.1).1) ?_
      show Steps p.tables e below (T87.setTop (mkF m 229 #[.val (.int p1), .val (.int p2), .val (.int p3), .val (.int p4), .val (.int p5), .val (.int (p1 &&& (3 : Int32))), .val (.ref ww), .val (.int (0 : Int32)), .val (.int x2), .val (.int x6), .val (.int x10), .val (.int x14), .val (.ref b17), .val (.ref x88), .val (.int x90), .val (.int x91), .val (.int x92), .val (.long tot137), .second, .val (.long sum140), .second, .unset, .unset, .unset, .unset, .unset, .unset, .unset, .unset, .unset, .unset, .unset, .unset, .unset] [])) _
      refine XS.iload X87.here hx rfl (hb hby at_229) rfl ?_
      show Steps p.tables e below (T87.setTop (mkF m 231 #[.val (.int p1), .val (.int p2), .val (.int p3), .val (.int p4), .val (.int p5), .val (.int (p1 &&& (3 : Int32))), .val (.ref ww), .val (.int (0 : Int32)), .val (.int x2), .val (.int x6), .val (.int x10), .val (.int x14), .val (.ref b17), .val (.ref x88), .val (.int x90), .val (.int x91), .val (.int x92), .val (.long tot137), .second, .val (.long sum140), .second, .unset, .unset, .unset, .unset, .unset, .unset, .unset, .unset, .unset, .unset, .unset, .unset, .unset] [(.int x92)])) _
      refine XS.iload X87.here hx rfl (hb hby at_231) rfl ?_
      show Steps p.tables e below (T87.setTop (mkF m 233 #[.val (.int p1), .val (.int p2), .val (.int p3), .val (.int p4), .val (.int p5), .val (.int (p1 &&& (3 : Int32))), .val (.ref ww), .val (.int (0 : Int32)), .val (.int x2), .val (.int x6), .val (.int x10), .val (.int x14), .val (.ref b17), .val (.ref x88), .val (.int x90), .val (.int x91), .val (.int x92), .val (.long tot137), .second, .val (.long sum140), .second, .unset, .unset, .unset, .unset, .unset, .unset, .unset, .unset, .unset, .unset, .unset, .unset, .unset] [(.int x14), (.int x92)])) _
      refine XS.icmpNo X87.here hx rfl (hb hby at_233) rfl (flt LF128.2.2.2.2.2.1).2.2.1 ?_
      show Steps p.tables e below (T87.setTop (mkF m 236 #[.val (.int p1), .val (.int p2), .val (.int p3), .val (.int p4), .val (.int p5), .val (.int (p1 &&& (3 : Int32))), .val (.ref ww), .val (.int (0 : Int32)), .val (.int x2), .val (.int x6), .val (.int x10), .val (.int x14), .val (.ref b17), .val (.ref x88), .val (.int x90), .val (.int x91), .val (.int x92), .val (.long tot137), .second, .val (.long sum140), .second, .unset, .unset, .unset, .unset, .unset, .unset, .unset, .unset, .unset, .unset, .unset, .unset, .unset] [])) _
      refine XS.iconst X87.here hx rfl (hb hby at_236) ?_
      show Steps p.tables e below (T87.setTop (mkF m 237 #[.val (.int p1), .val (.int p2), .val (.int p3), .val (.int p4), .val (.int p5), .val (.int (p1 &&& (3 : Int32))), .val (.ref ww), .val (.int (0 : Int32)), .val (.int x2), .val (.int x6), .val (.int x10), .val (.int x14), .val (.ref b17), .val (.ref x88), .val (.int x90), .val (.int x91), .val (.int x92), .val (.long tot137), .second, .val (.long sum140), .second, .unset, .unset, .unset, .unset, .unset, .unset, .unset, .unset, .unset, .unset, .unset, .unset, .unset] [(.int (1 : Int32))])) _
      refine XS.goto X87.here hx rfl (pc0 := 237) (pc' := 241) rfl (hb hby at_237) (by decide) (by decide) ?_
      show Steps p.tables e below (T87.setTop (mkF m 241 #[.val (.int p1), .val (.int p2), .val (.int p3), .val (.int p4), .val (.int p5), .val (.int (p1 &&& (3 : Int32))), .val (.ref ww), .val (.int (0 : Int32)), .val (.int x2), .val (.int x6), .val (.int x10), .val (.int x14), .val (.ref b17), .val (.ref x88), .val (.int x90), .val (.int x91), .val (.int x92), .val (.long tot137), .second, .val (.long sum140), .second, .unset, .unset, .unset, .unset, .unset, .unset, .unset, .unset, .unset, .unset, .unset, .unset, .unset] [(.int (1 : Int32))])) _
      refine XS.istore X87.here hx rfl (hb hby at_241) rfl (l' := #[.val (.int p1), .val (.int p2), .val (.int p3), .val (.int p4), .val (.int p5), .val (.int (p1 &&& (3 : Int32))), .val (.ref ww), .val (.int (0 : Int32)), .val (.int x2), .val (.int x6), .val (.int x10), .val (.int x14), .val (.ref b17), .val (.ref x88), .val (.int x90), .val (.int x91), .val (.int x92), .val (.long tot137), .second, .val (.long sum140), .second, .val (.int (1 : Int32)), .unset, .unset, .unset, .unset, .unset, .unset, .unset, .unset, .unset, .unset, .unset, .unset]) rfl ?_
      show Steps p.tables e below (T87.setTop (mkF m 243 #[.val (.int p1), .val (.int p2), .val (.int p3), .val (.int p4), .val (.int p5), .val (.int (p1 &&& (3 : Int32))), .val (.ref ww), .val (.int (0 : Int32)), .val (.int x2), .val (.int x6), .val (.int x10), .val (.int x14), .val (.ref b17), .val (.ref x88), .val (.int x90), .val (.int x91), .val (.int x92), .val (.long tot137), .second, .val (.long sum140), .second, .val (.int (1 : Int32)), .unset, .unset, .unset, .unset, .unset, .unset, .unset, .unset, .unset, .unset, .unset, .unset] [])) _
      refine XS.iload X87.here hx rfl (hb hby at_243) rfl ?_
      show Steps p.tables e below (T87.setTop (mkF m 245 #[.val (.int p1), .val (.int p2), .val (.int p3), .val (.int p4), .val (.int p5), .val (.int (p1 &&& (3 : Int32))), .val (.ref ww), .val (.int (0 : Int32)), .val (.int x2), .val (.int x6), .val (.int x10), .val (.int x14), .val (.ref b17), .val (.ref x88), .val (.int x90), .val (.int x91), .val (.int x92), .val (.long tot137), .second, .val (.long sum140), .second, .val (.int (1 : Int32)), .unset, .unset, .unset, .unset, .unset, .unset, .unset, .unset, .unset, .unset, .unset, .unset] [(.int (0 : Int32))])) _
      refine XS.ifNo X87.here hx rfl (hb hby at_245) rfl ((if0 _ _).trans (teq (by decide : (0 : Int32) = (0 : Int32))).2) ?_
      show Steps p.tables e below (T87.setTop (mkF m 248 #[.val (.int p1), .val (.int p2), .val (.int p3), .val (.int p4), .val (.int p5), .val (.int (p1 &&& (3 : Int32))), .val (.ref ww), .val (.int (0 : Int32)), .val (.int x2), .val (.int x6), .val (.int x10), .val (.int x14), .val (.ref b17), .val (.ref x88), .val (.int x90), .val (.int x91), .val (.int x92), .val (.long tot137), .second, .val (.long sum140), .second, .val (.int (1 : Int32)), .unset, .unset, .unset, .unset, .unset, .unset, .unset, .unset, .unset, .unset, .unset, .unset] [])) _
      refine XS.iload X87.here hx rfl (hb hby at_248) rfl ?_
      show Steps p.tables e below (T87.setTop (mkF m 250 #[.val (.int p1), .val (.int p2), .val (.int p3), .val (.int p4), .val (.int p5), .val (.int (p1 &&& (3 : Int32))), .val (.ref ww), .val (.int (0 : Int32)), .val (.int x2), .val (.int x6), .val (.int x10), .val (.int x14), .val (.ref b17), .val (.ref x88), .val (.int x90), .val (.int x91), .val (.int x92), .val (.long tot137), .second, .val (.long sum140), .second, .val (.int (1 : Int32)), .unset, .unset, .unset, .unset, .unset, .unset, .unset, .unset, .unset, .unset, .unset, .unset] [(.int (1 : Int32))])) _
      refine XS.ifNo X87.here hx rfl (hb hby at_250) rfl ((if0 _ _).trans (feq (by decide : ¬ ((1 : Int32) = (0 : Int32)))).1) ?_
      show Steps p.tables e below (T87.setTop (mkF m 253 #[.val (.int p1), .val (.int p2), .val (.int p3), .val (.int p4), .val (.int p5), .val (.int (p1 &&& (3 : Int32))), .val (.ref ww), .val (.int (0 : Int32)), .val (.int x2), .val (.int x6), .val (.int x10), .val (.int x14), .val (.ref b17), .val (.ref x88), .val (.int x90), .val (.int x91), .val (.int x92), .val (.long tot137), .second, .val (.long sum140), .second, .val (.int (1 : Int32)), .unset, .unset, .unset, .unset, .unset, .unset, .unset, .unset, .unset, .unset, .unset, .unset] [])) _
      refine XS.iload X87.here hx rfl (hb hby at_253) rfl ?_
      show Steps p.tables e below (T87.setTop (mkF m 255 #[.val (.int p1), .val (.int p2), .val (.int p3), .val (.int p4), .val (.int p5), .val (.int (p1 &&& (3 : Int32))), .val (.ref ww), .val (.int (0 : Int32)), .val (.int x2), .val (.int x6), .val (.int x10), .val (.int x14), .val (.ref b17), .val (.ref x88), .val (.int x90), .val (.int x91), .val (.int x92), .val (.long tot137), .second, .val (.long sum140), .second, .val (.int (1 : Int32)), .unset, .unset, .unset, .unset, .unset, .unset, .unset, .unset, .unset, .unset, .unset, .unset] [(.int x91)])) _
      exact k)
    by_cases hc143 : x91 = (0 : Int32)
    · have pre144 := fun (t : State) (k : Steps p.tables e below (T87.setTop (mkF m 267 #[.val (.int p1), .val (.int p2), .val (.int p3), .val (.int p4), .val (.int p5), .val (.int (p1 &&& (3 : Int32))), .val (.ref ww), .val (.int (0 : Int32)), .val (.int x2), .val (.int x6), .val (.int x10), .val (.int x14), .val (.ref b17), .val (.ref x88), .val (.int x90), .val (.int x91), .val (.int x92), .val (.long tot137), .second, .val (.long sum140), .second, .val (.int (1 : Int32)), .unset, .unset, .unset, .unset, .unset, .unset, .unset, .unset, .unset, .unset, .unset, .unset] [(.int x92)])) t) => pre142 t (by
        refine XS.ifYes X87.here hx rfl (pc0 := 255) (pc' := 265) rfl (hb hby at_255) rfl ((if0 _ _).trans (teq hc143).1) (by decide) (by decide) ?_
        show Steps p.tables e below (T87.setTop (mkF m 265 #[.val (.int p1), .val (.int p2), .val (.int p3), .val (.int p4), .val (.int p5), .val (.int (p1 &&& (3 : Int32))), .val (.ref ww), .val (.int (0 : Int32)), .val (.int x2), .val (.int x6), .val (.int x10), .val (.int x14), .val (.ref b17), .val (.ref x88), .val (.int x90), .val (.int x91), .val (.int x92), .val (.long tot137), .second, .val (.long sum140), .second, .val (.int (1 : Int32)), .unset, .unset, .unset, .unset, .unset, .unset, .unset, .unset, .unset, .unset, .unset, .unset] [])) _
        refine XS.iload X87.here hx rfl (hb hby at_265) rfl ?_
        show Steps p.tables e below (T87.setTop (mkF m 267 #[.val (.int p1), .val (.int p2), .val (.int p3), .val (.int p4), .val (.int p5), .val (.int (p1 &&& (3 : Int32))), .val (.ref ww), .val (.int (0 : Int32)), .val (.int x2), .val (.int x6), .val (.int x10), .val (.int x14), .val (.ref b17), .val (.ref x88), .val (.int x90), .val (.int x91), .val (.int x92), .val (.long tot137), .second, .val (.long sum140), .second, .val (.int (1 : Int32)), .unset, .unset, .unset, .unset, .unset, .unset, .unset, .unset, .unset, .unset, .unset, .unset] [(.int x92)])) _
        exact k)
      by_cases hc145 : x92 = (0 : Int32)
      · obtain ⟨_, _, ⟨T146, L146, k146, n146⟩, -, X146, ⟨Lc146, hQ146, l146, y146, z146⟩, st146⟩ := Jvm.LawKit.callS X87 hx (y := (⟨"java/lang/Math", "min", "(JJ)J"⟩ : MethodName)) hown (mvT hZ (hw _ (List.mem_of_getElem? (i := 26) rfl))) (mvT hZ (hw _ (List.mem_of_getElem? (i := 27) rfl))) (mvT hZ (hw _ (List.mem_of_getElem? (i := 6) rfl))) (mvT hZ (hw _ (List.mem_of_getElem? (i := 28) rfl))) (by decide) (backOf (W := 2) (rm_ml l Z a0 hw [] (x2.toInt64) tot137 T87.heap n0 Zs120 ) hZ (hw _ (List.mem_of_getElem? (i := 28) rfl)) (hw _ (List.mem_of_getElem? (i := 6) rfl)) (by decide) (by decide)) (g := (mkF m 284 #[.val (.int p1), .val (.int p2), .val (.int p3), .val (.int p4), .val (.int p5), .val (.int (p1 &&& (3 : Int32))), .val (.ref ww), .val (.int (0 : Int32)), .val (.int x2), .val (.int x6), .val (.int x10), .val (.int x14), .val (.ref b17), .val (.ref x88), .val (.int x90), .val (.int x91), .val (.int x92), .val (.long tot137), .second, .val (.long sum140), .second, .val (.int (1 : Int32)), .unset, .unset, .unset, .unset, .unset, .unset, .unset, .unset, .unset, .unset, .unset, .unset] [(.long tot137), (.long (x2.toInt64)), (.long sum140)])) rfl (by rw [hml]; rfl) (argsL := [(.long (x2.toInt64)), (.long tot137)]) (rest := [(.long sum140)]) (lenOf pd_4 rfl) rfl (by show 2 * 0 + _ ≤ _; exact Nat.le_of_eq rfl) (hb hby at_284) (fun _ _ => ⟨rfl, rfl, (by decide : 2 + 0 ≤ _), (by decide : 6 + 0 ≤ _)⟩)
        dsimp only [Pt.U, Pt.locs, Pt.cells, Pt.slots] at X146 l146 y146 z146 st146 hQ146
        subst l146 y146 z146
        obtain ⟨x147, rfl, N146q, hq148, hpq149⟩ := hQ146
        have N146 := Fr.app N87 N146q
        have pre150 := fun (t : State) (k : Steps p.tables e below (T146.setTop (mkF m 296 #[.val (.int p1), .val (.int p2), .val (.int p3), .val (.int p4), .val (.int p5), .val (.int (p1 &&& (3 : Int32))), .val (.ref ww), .val (.int (0 : Int32)), .val (.int x2), .val (.int x6), .val (.int x10), .val (.int x14), .val (.ref b17), .val (.ref x88), .val (.int x90), .val (.int x91), .val (.int x92), .val (.long tot137), .second, .val (.long sum140), .second, .val (.int (1 : Int32)), .unset, .unset, .unset, .unset, .unset, .unset, .unset, .unset, .unset, .unset, .unset, .unset] [(.int (1 : Int32))])) t) => pre144 t (by
          refine XS.ifYes X87.here hx rfl (pc0 := 267) (pc' := 277) rfl (hb hby at_267) rfl ((if0 _ _).trans (teq hc145).1) (by decide) (by decide) ?_
          show Steps p.tables e below (T87.setTop (mkF m 277 #[.val (.int p1), .val (.int p2), .val (.int p3), .val (.int p4), .val (.int p5), .val (.int (p1 &&& (3 : Int32))), .val (.ref ww), .val (.int (0 : Int32)), .val (.int x2), .val (.int x6), .val (.int x10), .val (.int x14), .val (.ref b17), .val (.ref x88), .val (.int x90), .val (.int x91), .val (.int x92), .val (.long tot137), .second, .val (.long sum140), .second, .val (.int (1 : Int32)), .unset, .unset, .unset, .unset, .unset, .unset, .unset, .unset, .unset, .unset, .unset, .unset] [])) _
          refine XS.lload X87.here hx rfl (hb hby at_277) rfl ?_
          show Steps p.tables e below (T87.setTop (mkF m 279 #[.val (.int p1), .val (.int p2), .val (.int p3), .val (.int p4), .val (.int p5), .val (.int (p1 &&& (3 : Int32))), .val (.ref ww), .val (.int (0 : Int32)), .val (.int x2), .val (.int x6), .val (.int x10), .val (.int x14), .val (.ref b17), .val (.ref x88), .val (.int x90), .val (.int x91), .val (.int x92), .val (.long tot137), .second, .val (.long sum140), .second, .val (.int (1 : Int32)), .unset, .unset, .unset, .unset, .unset, .unset, .unset, .unset, .unset, .unset, .unset, .unset] [(.long sum140)])) _
          refine XS.iload X87.here hx rfl (hb hby at_279) rfl ?_
          show Steps p.tables e below (T87.setTop (mkF m 281 #[.val (.int p1), .val (.int p2), .val (.int p3), .val (.int p4), .val (.int p5), .val (.int (p1 &&& (3 : Int32))), .val (.ref ww), .val (.int (0 : Int32)), .val (.int x2), .val (.int x6), .val (.int x10), .val (.int x14), .val (.ref b17), .val (.ref x88), .val (.int x90), .val (.int x91), .val (.int x92), .val (.long tot137), .second, .val (.long sum140), .second, .val (.int (1 : Int32)), .unset, .unset, .unset, .unset, .unset, .unset, .unset, .unset, .unset, .unset, .unset, .unset] [(.int x2), (.long sum140)])) _
          refine XS.i2l X87.here hx rfl (hb hby at_281) rfl ?_
          show Steps p.tables e below (T87.setTop (mkF m 282 #[.val (.int p1), .val (.int p2), .val (.int p3), .val (.int p4), .val (.int p5), .val (.int (p1 &&& (3 : Int32))), .val (.ref ww), .val (.int (0 : Int32)), .val (.int x2), .val (.int x6), .val (.int x10), .val (.int x14), .val (.ref b17), .val (.ref x88), .val (.int x90), .val (.int x91), .val (.int x92), .val (.long tot137), .second, .val (.long sum140), .second, .val (.int (1 : Int32)), .unset, .unset, .unset, .unset, .unset, .unset, .unset, .unset, .unset, .unset, .unset, .unset] [(.long (x2.toInt64)), (.long sum140)])) _
          refine XS.lload X87.here hx rfl (hb hby at_282) rfl ?_
          show Steps p.tables e below (T87.setTop (mkF m 284 #[.val (.int p1), .val (.int p2), .val (.int p3), .val (.int p4), .val (.int p5), .val (.int (p1 &&& (3 : Int32))), .val (.ref ww), .val (.int (0 : Int32)), .val (.int x2), .val (.int x6), .val (.int x10), .val (.int x14), .val (.ref b17), .val (.ref x88), .val (.int x90), .val (.int x91), .val (.int x92), .val (.long tot137), .second, .val (.long sum140), .second, .val (.int (1 : Int32)), .unset, .unset, .unset, .unset, .unset, .unset, .unset, .unset, .unset, .unset, .unset, .unset] [(.long tot137), (.long (x2.toInt64)), (.long sum140)])) _
          refine st146 _ ?_
          show Steps p.tables e below (T146.setTop (mkF m 287 #[.val (.int p1), .val (.int p2), .val (.int p3), .val (.int p4), .val (.int p5), .val (.int (p1 &&& (3 : Int32))), .val (.ref ww), .val (.int (0 : Int32)), .val (.int x2), .val (.int x6), .val (.int x10), .val (.int x14), .val (.ref b17), .val (.ref x88), .val (.int x90), .val (.int x91), .val (.int x92), .val (.long tot137), .second, .val (.long sum140), .second, .val (.int (1 : Int32)), .unset, .unset, .unset, .unset, .unset, .unset, .unset, .unset, .unset, .unset, .unset, .unset] [(.long x147), (.long sum140)])) _
          refine XS.lcmp X146.here hx rfl (hb hby at_287) rfl ?_
          show Steps p.tables e below (T146.setTop (mkF m 288 #[.val (.int p1), .val (.int p2), .val (.int p3), .val (.int p4), .val (.int p5), .val (.int (p1 &&& (3 : Int32))), .val (.ref ww), .val (.int (0 : Int32)), .val (.int x2), .val (.int x6), .val (.int x10), .val (.int x14), .val (.ref b17), .val (.ref x88), .val (.int x90), .val (.int x91), .val (.int x92), .val (.long tot137), .second, .val (.long sum140), .second, .val (.int (1 : Int32)), .unset, .unset, .unset, .unset, .unset, .unset, .unset, .unset, .unset, .unset, .unset, .unset] [(.int (lcmpW sum140 x147))])) _
          refine XS.ifNo X146.here hx rfl (hb hby at_288) rfl ((if0 _ _).trans (teq (own_law_sum hpq96 h_tot137 h_sum140 hpq149)).2) ?_
          show Steps p.tables e below (T146.setTop (mkF m 291 #[.val (.int p1), .val (.int p2), .val (.int p3), .val (.int p4), .val (.int p5), .val (.int (p1 &&& (3 : Int32))), .val (.ref ww), .val (.int (0 : Int32)), .val (.int x2), .val (.int x6), .val (.int x10), .val (.int x14), .val (.ref b17), .val (.ref x88), .val (.int x90), .val (.int x91), .val (.int x92), .val (.long tot137), .second, .val (.long sum140), .second, .val (.int (1 : Int32)), .unset, .unset, .unset, .unset, .unset, .unset, .unset, .unset, .unset, .unset, .unset, .unset] [])) _
          refine XS.iconst X146.here hx rfl (hb hby at_291) ?_
          show Steps p.tables e below (T146.setTop (mkF m 292 #[.val (.int p1), .val (.int p2), .val (.int p3), .val (.int p4), .val (.int p5), .val (.int (p1 &&& (3 : Int32))), .val (.ref ww), .val (.int (0 : Int32)), .val (.int x2), .val (.int x6), .val (.int x10), .val (.int x14), .val (.ref b17), .val (.ref x88), .val (.int x90), .val (.int x91), .val (.int x92), .val (.long tot137), .second, .val (.long sum140), .second, .val (.int (1 : Int32)), .unset, .unset, .unset, .unset, .unset, .unset, .unset, .unset, .unset, .unset, .unset, .unset] [(.int (1 : Int32))])) _
          refine XS.goto X146.here hx rfl (pc0 := 292) (pc' := 296) rfl (hb hby at_292) (by decide) (by decide) ?_
          show Steps p.tables e below (T146.setTop (mkF m 296 #[.val (.int p1), .val (.int p2), .val (.int p3), .val (.int p4), .val (.int p5), .val (.int (p1 &&& (3 : Int32))), .val (.ref ww), .val (.int (0 : Int32)), .val (.int x2), .val (.int x6), .val (.int x10), .val (.int x14), .val (.ref b17), .val (.ref x88), .val (.int x90), .val (.int x91), .val (.int x92), .val (.long tot137), .second, .val (.long sum140), .second, .val (.int (1 : Int32)), .unset, .unset, .unset, .unset, .unset, .unset, .unset, .unset, .unset, .unset, .unset, .unset] [(.int (1 : Int32))])) _
          exact k)
        obtain ⟨fs, hr, hrun, hended, hW, hsame⟩ := X146.leave (v := some (.int (1 : Int32))) (hlocks := BodyLoose.notSynchronized Bd) (fun h => by rw [Bd.returns] at h; cases h)
        refine ⟨_, _, pre150 _ ?_, hrun, hended, _, _, rfl, ?_, ⟨_, rfl⟩, hW, hsame.mono (by decide) (by decide)⟩
        · exact retN X146 hx (t := .boolean) Bd.returns (by simp) (hb hby at_296) hr
        · show Q_law Z p1 p2 p3 p4 p5 w0 w1 w2 w3 h0 n0 _ T146.heap _
          rw [hq148]
          exact ⟨rfl, N146, K87⟩
      · obtain ⟨_, _, ⟨T151, L151, k151, n151⟩, -, X151, ⟨Lc151, hQ151, l151, y151, z151⟩, st151⟩ := Jvm.LawKit.callS X87 hx (y := (⟨"java/lang/Math", "min", "(JJ)J"⟩ : MethodName)) hown (mvT hZ (hw _ (List.mem_of_getElem? (i := 26) rfl))) (mvT hZ (hw _ (List.mem_of_getElem? (i := 27) rfl))) (mvT hZ (hw _ (List.mem_of_getElem? (i := 6) rfl))) (mvT hZ (hw _ (List.mem_of_getElem? (i := 28) rfl))) (by decide) (backOf (W := 2) (rm_ml l Z a0 hw [] (x2.toInt64) tot137 T87.heap n0 Zs120 ) hZ (hw _ (List.mem_of_getElem? (i := 28) rfl)) (hw _ (List.mem_of_getElem? (i := 6) rfl)) (by decide) (by decide)) (g := (mkF m 284 #[.val (.int p1), .val (.int p2), .val (.int p3), .val (.int p4), .val (.int p5), .val (.int (p1 &&& (3 : Int32))), .val (.ref ww), .val (.int (0 : Int32)), .val (.int x2), .val (.int x6), .val (.int x10), .val (.int x14), .val (.ref b17), .val (.ref x88), .val (.int x90), .val (.int x91), .val (.int x92), .val (.long tot137), .second, .val (.long sum140), .second, .val (.int (1 : Int32)), .unset, .unset, .unset, .unset, .unset, .unset, .unset, .unset, .unset, .unset, .unset, .unset] [(.long tot137), (.long (x2.toInt64)), (.long sum140)])) rfl (by rw [hml]; rfl) (argsL := [(.long (x2.toInt64)), (.long tot137)]) (rest := [(.long sum140)]) (lenOf pd_4 rfl) rfl (by show 2 * 0 + _ ≤ _; exact Nat.le_of_eq rfl) (hb hby at_284) (fun _ _ => ⟨rfl, rfl, (by decide : 2 + 0 ≤ _), (by decide : 6 + 0 ≤ _)⟩)
        dsimp only [Pt.U, Pt.locs, Pt.cells, Pt.slots] at X151 l151 y151 z151 st151 hQ151
        subst l151 y151 z151
        obtain ⟨x152, rfl, N151q, hq153, hpq154⟩ := hQ151
        have N151 := Fr.app N87 N151q
        have pre155 := fun (t : State) (k : Steps p.tables e below (T151.setTop (mkF m 296 #[.val (.int p1), .val (.int p2), .val (.int p3), .val (.int p4), .val (.int p5), .val (.int (p1 &&& (3 : Int32))), .val (.ref ww), .val (.int (0 : Int32)), .val (.int x2), .val (.int x6), .val (.int x10), .val (.int x14), .val (.ref b17), .val (.ref x88), .val (.int x90), .val (.int x91), .val (.int x92), .val (.long tot137), .second, .val (.long sum140), .second, .val (.int (1 : Int32)), .unset, .unset, .unset, .unset, .unset, .unset, .unset, .unset, .unset, .unset, .unset, .unset] [(.int (1 : Int32))])) t) => pre144 t (by
          refine XS.ifNo X87.here hx rfl (hb hby at_267) rfl ((if0 _ _).trans (feq hc145).1) ?_
          show Steps p.tables e below (T87.setTop (mkF m 270 #[.val (.int p1), .val (.int p2), .val (.int p3), .val (.int p4), .val (.int p5), .val (.int (p1 &&& (3 : Int32))), .val (.ref ww), .val (.int (0 : Int32)), .val (.int x2), .val (.int x6), .val (.int x10), .val (.int x14), .val (.ref b17), .val (.ref x88), .val (.int x90), .val (.int x91), .val (.int x92), .val (.long tot137), .second, .val (.long sum140), .second, .val (.int (1 : Int32)), .unset, .unset, .unset, .unset, .unset, .unset, .unset, .unset, .unset, .unset, .unset, .unset] [])) _
          refine XS.iload X87.here hx rfl (hb hby at_270) rfl ?_
          show Steps p.tables e below (T87.setTop (mkF m 272 #[.val (.int p1), .val (.int p2), .val (.int p3), .val (.int p4), .val (.int p5), .val (.int (p1 &&& (3 : Int32))), .val (.ref ww), .val (.int (0 : Int32)), .val (.int x2), .val (.int x6), .val (.int x10), .val (.int x14), .val (.ref b17), .val (.ref x88), .val (.int x90), .val (.int x91), .val (.int x92), .val (.long tot137), .second, .val (.long sum140), .second, .val (.int (1 : Int32)), .unset, .unset, .unset, .unset, .unset, .unset, .unset, .unset, .unset, .unset, .unset, .unset] [(.int x91)])) _
          refine XS.iload X87.here hx rfl (hb hby at_272) rfl ?_
          show Steps p.tables e below (T87.setTop (mkF m 274 #[.val (.int p1), .val (.int p2), .val (.int p3), .val (.int p4), .val (.int p5), .val (.int (p1 &&& (3 : Int32))), .val (.ref ww), .val (.int (0 : Int32)), .val (.int x2), .val (.int x6), .val (.int x10), .val (.int x14), .val (.ref b17), .val (.ref x88), .val (.int x90), .val (.int x91), .val (.int x92), .val (.long tot137), .second, .val (.long sum140), .second, .val (.int (1 : Int32)), .unset, .unset, .unset, .unset, .unset, .unset, .unset, .unset, .unset, .unset, .unset, .unset] [(.int x10), (.int x91)])) _
          refine XS.icmpNo X87.here hx rfl (hb hby at_274) rfl (teq (LF128.2.2.2.2.2.2.2 hc145)).2 ?_
          show Steps p.tables e below (T87.setTop (mkF m 277 #[.val (.int p1), .val (.int p2), .val (.int p3), .val (.int p4), .val (.int p5), .val (.int (p1 &&& (3 : Int32))), .val (.ref ww), .val (.int (0 : Int32)), .val (.int x2), .val (.int x6), .val (.int x10), .val (.int x14), .val (.ref b17), .val (.ref x88), .val (.int x90), .val (.int x91), .val (.int x92), .val (.long tot137), .second, .val (.long sum140), .second, .val (.int (1 : Int32)), .unset, .unset, .unset, .unset, .unset, .unset, .unset, .unset, .unset, .unset, .unset, .unset] [])) _
          refine XS.lload X87.here hx rfl (hb hby at_277) rfl ?_
          show Steps p.tables e below (T87.setTop (mkF m 279 #[.val (.int p1), .val (.int p2), .val (.int p3), .val (.int p4), .val (.int p5), .val (.int (p1 &&& (3 : Int32))), .val (.ref ww), .val (.int (0 : Int32)), .val (.int x2), .val (.int x6), .val (.int x10), .val (.int x14), .val (.ref b17), .val (.ref x88), .val (.int x90), .val (.int x91), .val (.int x92), .val (.long tot137), .second, .val (.long sum140), .second, .val (.int (1 : Int32)), .unset, .unset, .unset, .unset, .unset, .unset, .unset, .unset, .unset, .unset, .unset, .unset] [(.long sum140)])) _
          refine XS.iload X87.here hx rfl (hb hby at_279) rfl ?_
          show Steps p.tables e below (T87.setTop (mkF m 281 #[.val (.int p1), .val (.int p2), .val (.int p3), .val (.int p4), .val (.int p5), .val (.int (p1 &&& (3 : Int32))), .val (.ref ww), .val (.int (0 : Int32)), .val (.int x2), .val (.int x6), .val (.int x10), .val (.int x14), .val (.ref b17), .val (.ref x88), .val (.int x90), .val (.int x91), .val (.int x92), .val (.long tot137), .second, .val (.long sum140), .second, .val (.int (1 : Int32)), .unset, .unset, .unset, .unset, .unset, .unset, .unset, .unset, .unset, .unset, .unset, .unset] [(.int x2), (.long sum140)])) _
          refine XS.i2l X87.here hx rfl (hb hby at_281) rfl ?_
          show Steps p.tables e below (T87.setTop (mkF m 282 #[.val (.int p1), .val (.int p2), .val (.int p3), .val (.int p4), .val (.int p5), .val (.int (p1 &&& (3 : Int32))), .val (.ref ww), .val (.int (0 : Int32)), .val (.int x2), .val (.int x6), .val (.int x10), .val (.int x14), .val (.ref b17), .val (.ref x88), .val (.int x90), .val (.int x91), .val (.int x92), .val (.long tot137), .second, .val (.long sum140), .second, .val (.int (1 : Int32)), .unset, .unset, .unset, .unset, .unset, .unset, .unset, .unset, .unset, .unset, .unset, .unset] [(.long (x2.toInt64)), (.long sum140)])) _
          refine XS.lload X87.here hx rfl (hb hby at_282) rfl ?_
          show Steps p.tables e below (T87.setTop (mkF m 284 #[.val (.int p1), .val (.int p2), .val (.int p3), .val (.int p4), .val (.int p5), .val (.int (p1 &&& (3 : Int32))), .val (.ref ww), .val (.int (0 : Int32)), .val (.int x2), .val (.int x6), .val (.int x10), .val (.int x14), .val (.ref b17), .val (.ref x88), .val (.int x90), .val (.int x91), .val (.int x92), .val (.long tot137), .second, .val (.long sum140), .second, .val (.int (1 : Int32)), .unset, .unset, .unset, .unset, .unset, .unset, .unset, .unset, .unset, .unset, .unset, .unset] [(.long tot137), (.long (x2.toInt64)), (.long sum140)])) _
          refine st151 _ ?_
          show Steps p.tables e below (T151.setTop (mkF m 287 #[.val (.int p1), .val (.int p2), .val (.int p3), .val (.int p4), .val (.int p5), .val (.int (p1 &&& (3 : Int32))), .val (.ref ww), .val (.int (0 : Int32)), .val (.int x2), .val (.int x6), .val (.int x10), .val (.int x14), .val (.ref b17), .val (.ref x88), .val (.int x90), .val (.int x91), .val (.int x92), .val (.long tot137), .second, .val (.long sum140), .second, .val (.int (1 : Int32)), .unset, .unset, .unset, .unset, .unset, .unset, .unset, .unset, .unset, .unset, .unset, .unset] [(.long x152), (.long sum140)])) _
          refine XS.lcmp X151.here hx rfl (hb hby at_287) rfl ?_
          show Steps p.tables e below (T151.setTop (mkF m 288 #[.val (.int p1), .val (.int p2), .val (.int p3), .val (.int p4), .val (.int p5), .val (.int (p1 &&& (3 : Int32))), .val (.ref ww), .val (.int (0 : Int32)), .val (.int x2), .val (.int x6), .val (.int x10), .val (.int x14), .val (.ref b17), .val (.ref x88), .val (.int x90), .val (.int x91), .val (.int x92), .val (.long tot137), .second, .val (.long sum140), .second, .val (.int (1 : Int32)), .unset, .unset, .unset, .unset, .unset, .unset, .unset, .unset, .unset, .unset, .unset, .unset] [(.int (lcmpW sum140 x152))])) _
          refine XS.ifNo X151.here hx rfl (hb hby at_288) rfl ((if0 _ _).trans (teq (own_law_sum hpq96 h_tot137 h_sum140 hpq154)).2) ?_
          show Steps p.tables e below (T151.setTop (mkF m 291 #[.val (.int p1), .val (.int p2), .val (.int p3), .val (.int p4), .val (.int p5), .val (.int (p1 &&& (3 : Int32))), .val (.ref ww), .val (.int (0 : Int32)), .val (.int x2), .val (.int x6), .val (.int x10), .val (.int x14), .val (.ref b17), .val (.ref x88), .val (.int x90), .val (.int x91), .val (.int x92), .val (.long tot137), .second, .val (.long sum140), .second, .val (.int (1 : Int32)), .unset, .unset, .unset, .unset, .unset, .unset, .unset, .unset, .unset, .unset, .unset, .unset] [])) _
          refine XS.iconst X151.here hx rfl (hb hby at_291) ?_
          show Steps p.tables e below (T151.setTop (mkF m 292 #[.val (.int p1), .val (.int p2), .val (.int p3), .val (.int p4), .val (.int p5), .val (.int (p1 &&& (3 : Int32))), .val (.ref ww), .val (.int (0 : Int32)), .val (.int x2), .val (.int x6), .val (.int x10), .val (.int x14), .val (.ref b17), .val (.ref x88), .val (.int x90), .val (.int x91), .val (.int x92), .val (.long tot137), .second, .val (.long sum140), .second, .val (.int (1 : Int32)), .unset, .unset, .unset, .unset, .unset, .unset, .unset, .unset, .unset, .unset, .unset, .unset] [(.int (1 : Int32))])) _
          refine XS.goto X151.here hx rfl (pc0 := 292) (pc' := 296) rfl (hb hby at_292) (by decide) (by decide) ?_
          show Steps p.tables e below (T151.setTop (mkF m 296 #[.val (.int p1), .val (.int p2), .val (.int p3), .val (.int p4), .val (.int p5), .val (.int (p1 &&& (3 : Int32))), .val (.ref ww), .val (.int (0 : Int32)), .val (.int x2), .val (.int x6), .val (.int x10), .val (.int x14), .val (.ref b17), .val (.ref x88), .val (.int x90), .val (.int x91), .val (.int x92), .val (.long tot137), .second, .val (.long sum140), .second, .val (.int (1 : Int32)), .unset, .unset, .unset, .unset, .unset, .unset, .unset, .unset, .unset, .unset, .unset, .unset] [(.int (1 : Int32))])) _
          exact k)
        obtain ⟨fs, hr, hrun, hended, hW, hsame⟩ := X151.leave (v := some (.int (1 : Int32))) (hlocks := BodyLoose.notSynchronized Bd) (fun h => by rw [Bd.returns] at h; cases h)
        refine ⟨_, _, pre155 _ ?_, hrun, hended, _, _, rfl, ?_, ⟨_, rfl⟩, hW, hsame.mono (by decide) (by decide)⟩
        · exact retN X151 hx (t := .boolean) Bd.returns (by simp) (hb hby at_296) hr
        · show Q_law Z p1 p2 p3 p4 p5 w0 w1 w2 w3 h0 n0 _ T151.heap _
          rw [hq153]
          exact ⟨rfl, N151, K87⟩
    · have pre156 := fun (t : State) (k : Steps p.tables e below (T87.setTop (mkF m 267 #[.val (.int p1), .val (.int p2), .val (.int p3), .val (.int p4), .val (.int p5), .val (.int (p1 &&& (3 : Int32))), .val (.ref ww), .val (.int (0 : Int32)), .val (.int x2), .val (.int x6), .val (.int x10), .val (.int x14), .val (.ref b17), .val (.ref x88), .val (.int x90), .val (.int x91), .val (.int x92), .val (.long tot137), .second, .val (.long sum140), .second, .val (.int (1 : Int32)), .unset, .unset, .unset, .unset, .unset, .unset, .unset, .unset, .unset, .unset, .unset, .unset] [(.int x92)])) t) => pre142 t (by
        refine XS.ifNo X87.here hx rfl (hb hby at_255) rfl ((if0 _ _).trans (feq hc143).1) ?_
        show Steps p.tables e below (T87.setTop (mkF m 258 #[.val (.int p1), .val (.int p2), .val (.int p3), .val (.int p4), .val (.int p5), .val (.int (p1 &&& (3 : Int32))), .val (.ref ww), .val (.int (0 : Int32)), .val (.int x2), .val (.int x6), .val (.int x10), .val (.int x14), .val (.ref b17), .val (.ref x88), .val (.int x90), .val (.int x91), .val (.int x92), .val (.long tot137), .second, .val (.long sum140), .second, .val (.int (1 : Int32)), .unset, .unset, .unset, .unset, .unset, .unset, .unset, .unset, .unset, .unset, .unset, .unset] [])) _
        refine XS.iload X87.here hx rfl (hb hby at_258) rfl ?_
        show Steps p.tables e below (T87.setTop (mkF m 260 #[.val (.int p1), .val (.int p2), .val (.int p3), .val (.int p4), .val (.int p5), .val (.int (p1 &&& (3 : Int32))), .val (.ref ww), .val (.int (0 : Int32)), .val (.int x2), .val (.int x6), .val (.int x10), .val (.int x14), .val (.ref b17), .val (.ref x88), .val (.int x90), .val (.int x91), .val (.int x92), .val (.long tot137), .second, .val (.long sum140), .second, .val (.int (1 : Int32)), .unset, .unset, .unset, .unset, .unset, .unset, .unset, .unset, .unset, .unset, .unset, .unset] [(.int x90)])) _
        refine XS.iload X87.here hx rfl (hb hby at_260) rfl ?_
        show Steps p.tables e below (T87.setTop (mkF m 262 #[.val (.int p1), .val (.int p2), .val (.int p3), .val (.int p4), .val (.int p5), .val (.int (p1 &&& (3 : Int32))), .val (.ref ww), .val (.int (0 : Int32)), .val (.int x2), .val (.int x6), .val (.int x10), .val (.int x14), .val (.ref b17), .val (.ref x88), .val (.int x90), .val (.int x91), .val (.int x92), .val (.long tot137), .second, .val (.long sum140), .second, .val (.int (1 : Int32)), .unset, .unset, .unset, .unset, .unset, .unset, .unset, .unset, .unset, .unset, .unset, .unset] [(.int x6), (.int x90)])) _
        refine XS.icmpNo X87.here hx rfl (hb hby at_262) rfl (teq (LF128.2.2.2.2.2.2.1 hc143)).2 ?_
        show Steps p.tables e below (T87.setTop (mkF m 265 #[.val (.int p1), .val (.int p2), .val (.int p3), .val (.int p4), .val (.int p5), .val (.int (p1 &&& (3 : Int32))), .val (.ref ww), .val (.int (0 : Int32)), .val (.int x2), .val (.int x6), .val (.int x10), .val (.int x14), .val (.ref b17), .val (.ref x88), .val (.int x90), .val (.int x91), .val (.int x92), .val (.long tot137), .second, .val (.long sum140), .second, .val (.int (1 : Int32)), .unset, .unset, .unset, .unset, .unset, .unset, .unset, .unset, .unset, .unset, .unset, .unset] [])) _
        refine XS.iload X87.here hx rfl (hb hby at_265) rfl ?_
        show Steps p.tables e below (T87.setTop (mkF m 267 #[.val (.int p1), .val (.int p2), .val (.int p3), .val (.int p4), .val (.int p5), .val (.int (p1 &&& (3 : Int32))), .val (.ref ww), .val (.int (0 : Int32)), .val (.int x2), .val (.int x6), .val (.int x10), .val (.int x14), .val (.ref b17), .val (.ref x88), .val (.int x90), .val (.int x91), .val (.int x92), .val (.long tot137), .second, .val (.long sum140), .second, .val (.int (1 : Int32)), .unset, .unset, .unset, .unset, .unset, .unset, .unset, .unset, .unset, .unset, .unset, .unset] [(.int x92)])) _
        exact k)
      by_cases hc157 : x92 = (0 : Int32)
      · obtain ⟨_, _, ⟨T158, L158, k158, n158⟩, -, X158, ⟨Lc158, hQ158, l158, y158, z158⟩, st158⟩ := Jvm.LawKit.callS X87 hx (y := (⟨"java/lang/Math", "min", "(JJ)J"⟩ : MethodName)) hown (mvT hZ (hw _ (List.mem_of_getElem? (i := 26) rfl))) (mvT hZ (hw _ (List.mem_of_getElem? (i := 27) rfl))) (mvT hZ (hw _ (List.mem_of_getElem? (i := 6) rfl))) (mvT hZ (hw _ (List.mem_of_getElem? (i := 28) rfl))) (by decide) (backOf (W := 2) (rm_ml l Z a0 hw [] (x2.toInt64) tot137 T87.heap n0 Zs120 ) hZ (hw _ (List.mem_of_getElem? (i := 28) rfl)) (hw _ (List.mem_of_getElem? (i := 6) rfl)) (by decide) (by decide)) (g := (mkF m 284 #[.val (.int p1), .val (.int p2), .val (.int p3), .val (.int p4), .val (.int p5), .val (.int (p1 &&& (3 : Int32))), .val (.ref ww), .val (.int (0 : Int32)), .val (.int x2), .val (.int x6), .val (.int x10), .val (.int x14), .val (.ref b17), .val (.ref x88), .val (.int x90), .val (.int x91), .val (.int x92), .val (.long tot137), .second, .val (.long sum140), .second, .val (.int (1 : Int32)), .unset, .unset, .unset, .unset, .unset, .unset, .unset, .unset, .unset, .unset, .unset, .unset] [(.long tot137), (.long (x2.toInt64)), (.long sum140)])) rfl (by rw [hml]; rfl) (argsL := [(.long (x2.toInt64)), (.long tot137)]) (rest := [(.long sum140)]) (lenOf pd_4 rfl) rfl (by show 2 * 0 + _ ≤ _; exact Nat.le_of_eq rfl) (hb hby at_284) (fun _ _ => ⟨rfl, rfl, (by decide : 2 + 0 ≤ _), (by decide : 6 + 0 ≤ _)⟩)
        dsimp only [Pt.U, Pt.locs, Pt.cells, Pt.slots] at X158 l158 y158 z158 st158 hQ158
        subst l158 y158 z158
        obtain ⟨x159, rfl, N158q, hq160, hpq161⟩ := hQ158
        have N158 := Fr.app N87 N158q
        have pre162 := fun (t : State) (k : Steps p.tables e below (T158.setTop (mkF m 296 #[.val (.int p1), .val (.int p2), .val (.int p3), .val (.int p4), .val (.int p5), .val (.int (p1 &&& (3 : Int32))), .val (.ref ww), .val (.int (0 : Int32)), .val (.int x2), .val (.int x6), .val (.int x10), .val (.int x14), .val (.ref b17), .val (.ref x88), .val (.int x90), .val (.int x91), .val (.int x92), .val (.long tot137), .second, .val (.long sum140), .second, .val (.int (1 : Int32)), .unset, .unset, .unset, .unset, .unset, .unset, .unset, .unset, .unset, .unset, .unset, .unset] [(.int (1 : Int32))])) t) => pre156 t (by
          refine XS.ifYes X87.here hx rfl (pc0 := 267) (pc' := 277) rfl (hb hby at_267) rfl ((if0 _ _).trans (teq hc157).1) (by decide) (by decide) ?_
          show Steps p.tables e below (T87.setTop (mkF m 277 #[.val (.int p1), .val (.int p2), .val (.int p3), .val (.int p4), .val (.int p5), .val (.int (p1 &&& (3 : Int32))), .val (.ref ww), .val (.int (0 : Int32)), .val (.int x2), .val (.int x6), .val (.int x10), .val (.int x14), .val (.ref b17), .val (.ref x88), .val (.int x90), .val (.int x91), .val (.int x92), .val (.long tot137), .second, .val (.long sum140), .second, .val (.int (1 : Int32)), .unset, .unset, .unset, .unset, .unset, .unset, .unset, .unset, .unset, .unset, .unset, .unset] [])) _
          refine XS.lload X87.here hx rfl (hb hby at_277) rfl ?_
          show Steps p.tables e below (T87.setTop (mkF m 279 #[.val (.int p1), .val (.int p2), .val (.int p3), .val (.int p4), .val (.int p5), .val (.int (p1 &&& (3 : Int32))), .val (.ref ww), .val (.int (0 : Int32)), .val (.int x2), .val (.int x6), .val (.int x10), .val (.int x14), .val (.ref b17), .val (.ref x88), .val (.int x90), .val (.int x91), .val (.int x92), .val (.long tot137), .second, .val (.long sum140), .second, .val (.int (1 : Int32)), .unset, .unset, .unset, .unset, .unset, .unset, .unset, .unset, .unset, .unset, .unset, .unset] [(.long sum140)])) _
          refine XS.iload X87.here hx rfl (hb hby at_279) rfl ?_
          show Steps p.tables e below (T87.setTop (mkF m 281 #[.val (.int p1), .val (.int p2), .val (.int p3), .val (.int p4), .val (.int p5), .val (.int (p1 &&& (3 : Int32))), .val (.ref ww), .val (.int (0 : Int32)), .val (.int x2), .val (.int x6), .val (.int x10), .val (.int x14), .val (.ref b17), .val (.ref x88), .val (.int x90), .val (.int x91), .val (.int x92), .val (.long tot137), .second, .val (.long sum140), .second, .val (.int (1 : Int32)), .unset, .unset, .unset, .unset, .unset, .unset, .unset, .unset, .unset, .unset, .unset, .unset] [(.int x2), (.long sum140)])) _
          refine XS.i2l X87.here hx rfl (hb hby at_281) rfl ?_
          show Steps p.tables e below (T87.setTop (mkF m 282 #[.val (.int p1), .val (.int p2), .val (.int p3), .val (.int p4), .val (.int p5), .val (.int (p1 &&& (3 : Int32))), .val (.ref ww), .val (.int (0 : Int32)), .val (.int x2), .val (.int x6), .val (.int x10), .val (.int x14), .val (.ref b17), .val (.ref x88), .val (.int x90), .val (.int x91), .val (.int x92), .val (.long tot137), .second, .val (.long sum140), .second, .val (.int (1 : Int32)), .unset, .unset, .unset, .unset, .unset, .unset, .unset, .unset, .unset, .unset, .unset, .unset] [(.long (x2.toInt64)), (.long sum140)])) _
          refine XS.lload X87.here hx rfl (hb hby at_282) rfl ?_
          show Steps p.tables e below (T87.setTop (mkF m 284 #[.val (.int p1), .val (.int p2), .val (.int p3), .val (.int p4), .val (.int p5), .val (.int (p1 &&& (3 : Int32))), .val (.ref ww), .val (.int (0 : Int32)), .val (.int x2), .val (.int x6), .val (.int x10), .val (.int x14), .val (.ref b17), .val (.ref x88), .val (.int x90), .val (.int x91), .val (.int x92), .val (.long tot137), .second, .val (.long sum140), .second, .val (.int (1 : Int32)), .unset, .unset, .unset, .unset, .unset, .unset, .unset, .unset, .unset, .unset, .unset, .unset] [(.long tot137), (.long (x2.toInt64)), (.long sum140)])) _
          refine st158 _ ?_
          show Steps p.tables e below (T158.setTop (mkF m 287 #[.val (.int p1), .val (.int p2), .val (.int p3), .val (.int p4), .val (.int p5), .val (.int (p1 &&& (3 : Int32))), .val (.ref ww), .val (.int (0 : Int32)), .val (.int x2), .val (.int x6), .val (.int x10), .val (.int x14), .val (.ref b17), .val (.ref x88), .val (.int x90), .val (.int x91), .val (.int x92), .val (.long tot137), .second, .val (.long sum140), .second, .val (.int (1 : Int32)), .unset, .unset, .unset, .unset, .unset, .unset, .unset, .unset, .unset, .unset, .unset, .unset] [(.long x159), (.long sum140)])) _
          refine XS.lcmp X158.here hx rfl (hb hby at_287) rfl ?_
          show Steps p.tables e below (T158.setTop (mkF m 288 #[.val (.int p1), .val (.int p2), .val (.int p3), .val (.int p4), .val (.int p5), .val (.int (p1 &&& (3 : Int32))), .val (.ref ww), .val (.int (0 : Int32)), .val (.int x2), .val (.int x6), .val (.int x10), .val (.int x14), .val (.ref b17), .val (.ref x88), .val (.int x90), .val (.int x91), .val (.int x92), .val (.long tot137), .second, .val (.long sum140), .second, .val (.int (1 : Int32)), .unset, .unset, .unset, .unset, .unset, .unset, .unset, .unset, .unset, .unset, .unset, .unset] [(.int (lcmpW sum140 x159))])) _
          refine XS.ifNo X158.here hx rfl (hb hby at_288) rfl ((if0 _ _).trans (teq (own_law_sum hpq96 h_tot137 h_sum140 hpq161)).2) ?_
          show Steps p.tables e below (T158.setTop (mkF m 291 #[.val (.int p1), .val (.int p2), .val (.int p3), .val (.int p4), .val (.int p5), .val (.int (p1 &&& (3 : Int32))), .val (.ref ww), .val (.int (0 : Int32)), .val (.int x2), .val (.int x6), .val (.int x10), .val (.int x14), .val (.ref b17), .val (.ref x88), .val (.int x90), .val (.int x91), .val (.int x92), .val (.long tot137), .second, .val (.long sum140), .second, .val (.int (1 : Int32)), .unset, .unset, .unset, .unset, .unset, .unset, .unset, .unset, .unset, .unset, .unset, .unset] [])) _
          refine XS.iconst X158.here hx rfl (hb hby at_291) ?_
          show Steps p.tables e below (T158.setTop (mkF m 292 #[.val (.int p1), .val (.int p2), .val (.int p3), .val (.int p4), .val (.int p5), .val (.int (p1 &&& (3 : Int32))), .val (.ref ww), .val (.int (0 : Int32)), .val (.int x2), .val (.int x6), .val (.int x10), .val (.int x14), .val (.ref b17), .val (.ref x88), .val (.int x90), .val (.int x91), .val (.int x92), .val (.long tot137), .second, .val (.long sum140), .second, .val (.int (1 : Int32)), .unset, .unset, .unset, .unset, .unset, .unset, .unset, .unset, .unset, .unset, .unset, .unset] [(.int (1 : Int32))])) _
          refine XS.goto X158.here hx rfl (pc0 := 292) (pc' := 296) rfl (hb hby at_292) (by decide) (by decide) ?_
          show Steps p.tables e below (T158.setTop (mkF m 296 #[.val (.int p1), .val (.int p2), .val (.int p3), .val (.int p4), .val (.int p5), .val (.int (p1 &&& (3 : Int32))), .val (.ref ww), .val (.int (0 : Int32)), .val (.int x2), .val (.int x6), .val (.int x10), .val (.int x14), .val (.ref b17), .val (.ref x88), .val (.int x90), .val (.int x91), .val (.int x92), .val (.long tot137), .second, .val (.long sum140), .second, .val (.int (1 : Int32)), .unset, .unset, .unset, .unset, .unset, .unset, .unset, .unset, .unset, .unset, .unset, .unset] [(.int (1 : Int32))])) _
          exact k)
        obtain ⟨fs, hr, hrun, hended, hW, hsame⟩ := X158.leave (v := some (.int (1 : Int32))) (hlocks := BodyLoose.notSynchronized Bd) (fun h => by rw [Bd.returns] at h; cases h)
        refine ⟨_, _, pre162 _ ?_, hrun, hended, _, _, rfl, ?_, ⟨_, rfl⟩, hW, hsame.mono (by decide) (by decide)⟩
        · exact retN X158 hx (t := .boolean) Bd.returns (by simp) (hb hby at_296) hr
        · show Q_law Z p1 p2 p3 p4 p5 w0 w1 w2 w3 h0 n0 _ T158.heap _
          rw [hq160]
          exact ⟨rfl, N158, K87⟩
      · obtain ⟨_, _, ⟨T163, L163, k163, n163⟩, -, X163, ⟨Lc163, hQ163, l163, y163, z163⟩, st163⟩ := Jvm.LawKit.callS X87 hx (y := (⟨"java/lang/Math", "min", "(JJ)J"⟩ : MethodName)) hown (mvT hZ (hw _ (List.mem_of_getElem? (i := 26) rfl))) (mvT hZ (hw _ (List.mem_of_getElem? (i := 27) rfl))) (mvT hZ (hw _ (List.mem_of_getElem? (i := 6) rfl))) (mvT hZ (hw _ (List.mem_of_getElem? (i := 28) rfl))) (by decide) (backOf (W := 2) (rm_ml l Z a0 hw [] (x2.toInt64) tot137 T87.heap n0 Zs120 ) hZ (hw _ (List.mem_of_getElem? (i := 28) rfl)) (hw _ (List.mem_of_getElem? (i := 6) rfl)) (by decide) (by decide)) (g := (mkF m 284 #[.val (.int p1), .val (.int p2), .val (.int p3), .val (.int p4), .val (.int p5), .val (.int (p1 &&& (3 : Int32))), .val (.ref ww), .val (.int (0 : Int32)), .val (.int x2), .val (.int x6), .val (.int x10), .val (.int x14), .val (.ref b17), .val (.ref x88), .val (.int x90), .val (.int x91), .val (.int x92), .val (.long tot137), .second, .val (.long sum140), .second, .val (.int (1 : Int32)), .unset, .unset, .unset, .unset, .unset, .unset, .unset, .unset, .unset, .unset, .unset, .unset] [(.long tot137), (.long (x2.toInt64)), (.long sum140)])) rfl (by rw [hml]; rfl) (argsL := [(.long (x2.toInt64)), (.long tot137)]) (rest := [(.long sum140)]) (lenOf pd_4 rfl) rfl (by show 2 * 0 + _ ≤ _; exact Nat.le_of_eq rfl) (hb hby at_284) (fun _ _ => ⟨rfl, rfl, (by decide : 2 + 0 ≤ _), (by decide : 6 + 0 ≤ _)⟩)
        dsimp only [Pt.U, Pt.locs, Pt.cells, Pt.slots] at X163 l163 y163 z163 st163 hQ163
        subst l163 y163 z163
        obtain ⟨x164, rfl, N163q, hq165, hpq166⟩ := hQ163
        have N163 := Fr.app N87 N163q
        have pre167 := fun (t : State) (k : Steps p.tables e below (T163.setTop (mkF m 296 #[.val (.int p1), .val (.int p2), .val (.int p3), .val (.int p4), .val (.int p5), .val (.int (p1 &&& (3 : Int32))), .val (.ref ww), .val (.int (0 : Int32)), .val (.int x2), .val (.int x6), .val (.int x10), .val (.int x14), .val (.ref b17), .val (.ref x88), .val (.int x90), .val (.int x91), .val (.int x92), .val (.long tot137), .second, .val (.long sum140), .second, .val (.int (1 : Int32)), .unset, .unset, .unset, .unset, .unset, .unset, .unset, .unset, .unset, .unset, .unset, .unset] [(.int (1 : Int32))])) t) => pre156 t (by
          refine XS.ifNo X87.here hx rfl (hb hby at_267) rfl ((if0 _ _).trans (feq hc157).1) ?_
          show Steps p.tables e below (T87.setTop (mkF m 270 #[.val (.int p1), .val (.int p2), .val (.int p3), .val (.int p4), .val (.int p5), .val (.int (p1 &&& (3 : Int32))), .val (.ref ww), .val (.int (0 : Int32)), .val (.int x2), .val (.int x6), .val (.int x10), .val (.int x14), .val (.ref b17), .val (.ref x88), .val (.int x90), .val (.int x91), .val (.int x92), .val (.long tot137), .second, .val (.long sum140), .second, .val (.int (1 : Int32)), .unset, .unset, .unset, .unset, .unset, .unset, .unset, .unset, .unset, .unset, .unset, .unset] [])) _
          refine XS.iload X87.here hx rfl (hb hby at_270) rfl ?_
          show Steps p.tables e below (T87.setTop (mkF m 272 #[.val (.int p1), .val (.int p2), .val (.int p3), .val (.int p4), .val (.int p5), .val (.int (p1 &&& (3 : Int32))), .val (.ref ww), .val (.int (0 : Int32)), .val (.int x2), .val (.int x6), .val (.int x10), .val (.int x14), .val (.ref b17), .val (.ref x88), .val (.int x90), .val (.int x91), .val (.int x92), .val (.long tot137), .second, .val (.long sum140), .second, .val (.int (1 : Int32)), .unset, .unset, .unset, .unset, .unset, .unset, .unset, .unset, .unset, .unset, .unset, .unset] [(.int x91)])) _
          refine XS.iload X87.here hx rfl (hb hby at_272) rfl ?_
          show Steps p.tables e below (T87.setTop (mkF m 274 #[.val (.int p1), .val (.int p2), .val (.int p3), .val (.int p4), .val (.int p5), .val (.int (p1 &&& (3 : Int32))), .val (.ref ww), .val (.int (0 : Int32)), .val (.int x2), .val (.int x6), .val (.int x10), .val (.int x14), .val (.ref b17), .val (.ref x88), .val (.int x90), .val (.int x91), .val (.int x92), .val (.long tot137), .second, .val (.long sum140), .second, .val (.int (1 : Int32)), .unset, .unset, .unset, .unset, .unset, .unset, .unset, .unset, .unset, .unset, .unset, .unset] [(.int x10), (.int x91)])) _
          refine XS.icmpNo X87.here hx rfl (hb hby at_274) rfl (teq (LF128.2.2.2.2.2.2.2 hc157)).2 ?_
          show Steps p.tables e below (T87.setTop (mkF m 277 #[.val (.int p1), .val (.int p2), .val (.int p3), .val (.int p4), .val (.int p5), .val (.int (p1 &&& (3 : Int32))), .val (.ref ww), .val (.int (0 : Int32)), .val (.int x2), .val (.int x6), .val (.int x10), .val (.int x14), .val (.ref b17), .val (.ref x88), .val (.int x90), .val (.int x91), .val (.int x92), .val (.long tot137), .second, .val (.long sum140), .second, .val (.int (1 : Int32)), .unset, .unset, .unset, .unset, .unset, .unset, .unset, .unset, .unset, .unset, .unset, .unset] [])) _
          refine XS.lload X87.here hx rfl (hb hby at_277) rfl ?_
          show Steps p.tables e below (T87.setTop (mkF m 279 #[.val (.int p1), .val (.int p2), .val (.int p3), .val (.int p4), .val (.int p5), .val (.int (p1 &&& (3 : Int32))), .val (.ref ww), .val (.int (0 : Int32)), .val (.int x2), .val (.int x6), .val (.int x10), .val (.int x14), .val (.ref b17), .val (.ref x88), .val (.int x90), .val (.int x91), .val (.int x92), .val (.long tot137), .second, .val (.long sum140), .second, .val (.int (1 : Int32)), .unset, .unset, .unset, .unset, .unset, .unset, .unset, .unset, .unset, .unset, .unset, .unset] [(.long sum140)])) _
          refine XS.iload X87.here hx rfl (hb hby at_279) rfl ?_
          show Steps p.tables e below (T87.setTop (mkF m 281 #[.val (.int p1), .val (.int p2), .val (.int p3), .val (.int p4), .val (.int p5), .val (.int (p1 &&& (3 : Int32))), .val (.ref ww), .val (.int (0 : Int32)), .val (.int x2), .val (.int x6), .val (.int x10), .val (.int x14), .val (.ref b17), .val (.ref x88), .val (.int x90), .val (.int x91), .val (.int x92), .val (.long tot137), .second, .val (.long sum140), .second, .val (.int (1 : Int32)), .unset, .unset, .unset, .unset, .unset, .unset, .unset, .unset, .unset, .unset, .unset, .unset] [(.int x2), (.long sum140)])) _
          refine XS.i2l X87.here hx rfl (hb hby at_281) rfl ?_
          show Steps p.tables e below (T87.setTop (mkF m 282 #[.val (.int p1), .val (.int p2), .val (.int p3), .val (.int p4), .val (.int p5), .val (.int (p1 &&& (3 : Int32))), .val (.ref ww), .val (.int (0 : Int32)), .val (.int x2), .val (.int x6), .val (.int x10), .val (.int x14), .val (.ref b17), .val (.ref x88), .val (.int x90), .val (.int x91), .val (.int x92), .val (.long tot137), .second, .val (.long sum140), .second, .val (.int (1 : Int32)), .unset, .unset, .unset, .unset, .unset, .unset, .unset, .unset, .unset, .unset, .unset, .unset] [(.long (x2.toInt64)), (.long sum140)])) _
          refine XS.lload X87.here hx rfl (hb hby at_282) rfl ?_
          show Steps p.tables e below (T87.setTop (mkF m 284 #[.val (.int p1), .val (.int p2), .val (.int p3), .val (.int p4), .val (.int p5), .val (.int (p1 &&& (3 : Int32))), .val (.ref ww), .val (.int (0 : Int32)), .val (.int x2), .val (.int x6), .val (.int x10), .val (.int x14), .val (.ref b17), .val (.ref x88), .val (.int x90), .val (.int x91), .val (.int x92), .val (.long tot137), .second, .val (.long sum140), .second, .val (.int (1 : Int32)), .unset, .unset, .unset, .unset, .unset, .unset, .unset, .unset, .unset, .unset, .unset, .unset] [(.long tot137), (.long (x2.toInt64)), (.long sum140)])) _
          refine st163 _ ?_
          show Steps p.tables e below (T163.setTop (mkF m 287 #[.val (.int p1), .val (.int p2), .val (.int p3), .val (.int p4), .val (.int p5), .val (.int (p1 &&& (3 : Int32))), .val (.ref ww), .val (.int (0 : Int32)), .val (.int x2), .val (.int x6), .val (.int x10), .val (.int x14), .val (.ref b17), .val (.ref x88), .val (.int x90), .val (.int x91), .val (.int x92), .val (.long tot137), .second, .val (.long sum140), .second, .val (.int (1 : Int32)), .unset, .unset, .unset, .unset, .unset, .unset, .unset, .unset, .unset, .unset, .unset, .unset] [(.long x164), (.long sum140)])) _
          refine XS.lcmp X163.here hx rfl (hb hby at_287) rfl ?_
          show Steps p.tables e below (T163.setTop (mkF m 288 #[.val (.int p1), .val (.int p2), .val (.int p3), .val (.int p4), .val (.int p5), .val (.int (p1 &&& (3 : Int32))), .val (.ref ww), .val (.int (0 : Int32)), .val (.int x2), .val (.int x6), .val (.int x10), .val (.int x14), .val (.ref b17), .val (.ref x88), .val (.int x90), .val (.int x91), .val (.int x92), .val (.long tot137), .second, .val (.long sum140), .second, .val (.int (1 : Int32)), .unset, .unset, .unset, .unset, .unset, .unset, .unset, .unset, .unset, .unset, .unset, .unset] [(.int (lcmpW sum140 x164))])) _
          refine XS.ifNo X163.here hx rfl (hb hby at_288) rfl ((if0 _ _).trans (teq (own_law_sum hpq96 h_tot137 h_sum140 hpq166)).2) ?_
          show Steps p.tables e below (T163.setTop (mkF m 291 #[.val (.int p1), .val (.int p2), .val (.int p3), .val (.int p4), .val (.int p5), .val (.int (p1 &&& (3 : Int32))), .val (.ref ww), .val (.int (0 : Int32)), .val (.int x2), .val (.int x6), .val (.int x10), .val (.int x14), .val (.ref b17), .val (.ref x88), .val (.int x90), .val (.int x91), .val (.int x92), .val (.long tot137), .second, .val (.long sum140), .second, .val (.int (1 : Int32)), .unset, .unset, .unset, .unset, .unset, .unset, .unset, .unset, .unset, .unset, .unset, .unset] [])) _
          refine XS.iconst X163.here hx rfl (hb hby at_291) ?_
          show Steps p.tables e below (T163.setTop (mkF m 292 #[.val (.int p1), .val (.int p2), .val (.int p3), .val (.int p4), .val (.int p5), .val (.int (p1 &&& (3 : Int32))), .val (.ref ww), .val (.int (0 : Int32)), .val (.int x2), .val (.int x6), .val (.int x10), .val (.int x14), .val (.ref b17), .val (.ref x88), .val (.int x90), .val (.int x91), .val (.int x92), .val (.long tot137), .second, .val (.long sum140), .second, .val (.int (1 : Int32)), .unset, .unset, .unset, .unset, .unset, .unset, .unset, .unset, .unset, .unset, .unset, .unset] [(.int (1 : Int32))])) _
          refine XS.goto X163.here hx rfl (pc0 := 292) (pc' := 296) rfl (hb hby at_292) (by decide) (by decide) ?_
          show Steps p.tables e below (T163.setTop (mkF m 296 #[.val (.int p1), .val (.int p2), .val (.int p3), .val (.int p4), .val (.int p5), .val (.int (p1 &&& (3 : Int32))), .val (.ref ww), .val (.int (0 : Int32)), .val (.int x2), .val (.int x6), .val (.int x10), .val (.int x14), .val (.ref b17), .val (.ref x88), .val (.int x90), .val (.int x91), .val (.int x92), .val (.long tot137), .second, .val (.long sum140), .second, .val (.int (1 : Int32)), .unset, .unset, .unset, .unset, .unset, .unset, .unset, .unset, .unset, .unset, .unset, .unset] [(.int (1 : Int32))])) _
          exact k)
        obtain ⟨fs, hr, hrun, hended, hW, hsame⟩ := X163.leave (v := some (.int (1 : Int32))) (hlocks := BodyLoose.notSynchronized Bd) (fun h => by rw [Bd.returns] at h; cases h)
        refine ⟨_, _, pre167 _ ?_, hrun, hended, _, _, rfl, ?_, ⟨_, rfl⟩, hW, hsame.mono (by decide) (by decide)⟩
        · exact retN X163 hx (t := .boolean) Bd.returns (by simp) (hb hby at_296) hr
        · show Q_law Z p1 p2 p3 p4 p5 w0 w1 w2 w3 h0 n0 _ T163.heap _
          rw [hq165]
          exact ⟨rfl, N163, K87⟩
  have tl1 : ∀ (ww : Addr) (T_tl1 : State) (Lt_tl1 : List Loc) (N_tl1 : Fr n0 Lt_tl1) (X_tl1 : Stand p l e room_1 s m #[(.int p1), (.int p2), (.int p3), (.int p4), (.int p5)] below meth c T_tl1 Lt_tl1 0 0) (e_tl1 : T_tl1.heap = h0) (tl1_0 : Exa Z h0 ww "com/example/legwork/legwork/Tier") (tl1_1 : Fld Z h0 ww "com/example/legwork/legwork/Tier" "proRata" "Z" (.int (1 : Int32))), ∃ s₂ o, Steps p.tables e below (T_tl1.setTop (mkF m 70 #[.val (.int p1), .val (.int p2), .val (.int p3), .val (.int p4), .val (.int p5), .val (.int (p1 &&& (3 : Int32))), .val (.ref ww), .val (.int (1 : Int32)), .unset, .unset, .unset, .unset, .unset, .unset, .unset, .unset, .unset, .unset, .unset, .unset, .unset, .unset, .unset, .unset, .unset, .unset, .unset, .unset, .unset, .unset, .unset, .unset, .unset, .unset] [])) s₂ ∧ s₂.status = .running ∧ Ended s₂ below o ∧ ∃ v L, o = .returned v ∧ Q_law Z p1 p2 p3 p4 p5 w0 w1 w2 w3 h0 n0 v s₂.heap L ∧ FrameEnd s o s₂ L 2 6 := by
    intro ww T_tl1 Lt_tl1 N_tl1 X_tl1 e_tl1 tl1_0 tl1_1
    have pre_tl1 := fun (t : State) (k : Steps p.tables e below (T_tl1.setTop (mkF m 70 #[.val (.int p1), .val (.int p2), .val (.int p3), .val (.int p4), .val (.int p5), .val (.int (p1 &&& (3 : Int32))), .val (.ref ww), .val (.int (1 : Int32)), .unset, .unset, .unset, .unset, .unset, .unset, .unset, .unset, .unset, .unset, .unset, .unset, .unset, .unset, .unset, .unset, .unset, .unset, .unset, .unset, .unset, .unset, .unset, .unset, .unset, .unset] [])) t) => k
    obtain ⟨_, _, ⟨T168, L168, k168, n168⟩, -, X168, ⟨Lc168, hQ168, l168, y168, z168⟩, st168⟩ := Jvm.LawKit.callS X_tl1 hx (y := (⟨"java/lang/Math", "max", "(II)I"⟩ : MethodName)) hown (mvT hZ (hw _ (List.mem_of_getElem? (i := 4) rfl))) (mvT hZ (hw _ (List.mem_of_getElem? (i := 5) rfl))) (mvT hZ (hw _ (List.mem_of_getElem? (i := 6) rfl))) (mvT hZ (hw _ (List.mem_of_getElem? (i := 7) rfl))) (by decide) (backOf (W := 0) (rm_mx l Z a0 hw [] (1 : Int32) (p2 &&& (2147483647 : Int32)) h0 n0 Z0 ) hZ (hw _ (List.mem_of_getElem? (i := 7) rfl)) (hw _ (List.mem_of_getElem? (i := 6) rfl)) (by decide) (by decide)) (g := (mkF m 75 #[.val (.int p1), .val (.int p2), .val (.int p3), .val (.int p4), .val (.int p5), .val (.int (p1 &&& (3 : Int32))), .val (.ref ww), .val (.int (1 : Int32)), .unset, .unset, .unset, .unset, .unset, .unset, .unset, .unset, .unset, .unset, .unset, .unset, .unset, .unset, .unset, .unset, .unset, .unset, .unset, .unset, .unset, .unset, .unset, .unset, .unset, .unset] [(.int (p2 &&& (2147483647 : Int32))), (.int (1 : Int32))])) rfl (by rw [hml]; rfl) (argsL := [(.int (1 : Int32)), (.int (p2 &&& (2147483647 : Int32)))]) (rest := []) (lenOf pd_0 rfl) rfl (by show 2 * 0 + _ ≤ _; exact Nat.le_of_eq rfl) (hb hby at_75) (fun _ _ => ⟨rfl, e_tl1, (by decide : 0 + 0 ≤ _), (by decide : 0 + 0 ≤ _)⟩)
    dsimp only [Pt.U, Pt.locs, Pt.cells, Pt.slots] at X168 l168 y168 z168 st168 hQ168
    subst l168 y168 z168
    obtain ⟨x169, rfl, N168q, hq170, hpq171⟩ := hQ168
    have N168 := Fr.app N_tl1 N168q
    obtain ⟨_, _, ⟨T172, L172, k172, n172⟩, -, X172, ⟨Lc172, hQ172, l172, y172, z172⟩, st172⟩ := Jvm.LawKit.callS X168 hx (y := (⟨"java/lang/Math", "max", "(II)I"⟩ : MethodName)) hown (mvT hZ (hw _ (List.mem_of_getElem? (i := 4) rfl))) (mvT hZ (hw _ (List.mem_of_getElem? (i := 5) rfl))) (mvT hZ (hw _ (List.mem_of_getElem? (i := 6) rfl))) (mvT hZ (hw _ (List.mem_of_getElem? (i := 7) rfl))) (by decide) (backOf (W := 0) (rm_mx l Z a0 hw [] (1 : Int32) (p3 &&& (2147483647 : Int32)) h0 n0 Z0 ) hZ (hw _ (List.mem_of_getElem? (i := 7) rfl)) (hw _ (List.mem_of_getElem? (i := 6) rfl)) (by decide) (by decide)) (g := (mkF m 85 #[.val (.int p1), .val (.int p2), .val (.int p3), .val (.int p4), .val (.int p5), .val (.int (p1 &&& (3 : Int32))), .val (.ref ww), .val (.int (1 : Int32)), .val (.int x169), .unset, .unset, .unset, .unset, .unset, .unset, .unset, .unset, .unset, .unset, .unset, .unset, .unset, .unset, .unset, .unset, .unset, .unset, .unset, .unset, .unset, .unset, .unset, .unset, .unset] [(.int (p3 &&& (2147483647 : Int32))), (.int (1 : Int32))])) rfl (by rw [hml]; rfl) (argsL := [(.int (1 : Int32)), (.int (p3 &&& (2147483647 : Int32)))]) (rest := []) (lenOf pd_0 rfl) rfl (by show 2 * 0 + _ ≤ _; exact Nat.le_of_eq rfl) (hb hby at_85) (fun _ _ => ⟨rfl, hq170, (by decide : 0 + 0 ≤ _), (by decide : 0 + 0 ≤ _)⟩)
    dsimp only [Pt.U, Pt.locs, Pt.cells, Pt.slots] at X172 l172 y172 z172 st172 hQ172
    subst l172 y172 z172
    obtain ⟨x173, rfl, N172q, hq174, hpq175⟩ := hQ172
    have N172 := Fr.app N168 N172q
    obtain ⟨_, _, ⟨T176, L176, k176, n176⟩, -, X176, ⟨Lc176, hQ176, l176, y176, z176⟩, st176⟩ := Jvm.LawKit.callS X172 hx (y := (⟨"java/lang/Math", "max", "(II)I"⟩ : MethodName)) hown (mvT hZ (hw _ (List.mem_of_getElem? (i := 4) rfl))) (mvT hZ (hw _ (List.mem_of_getElem? (i := 5) rfl))) (mvT hZ (hw _ (List.mem_of_getElem? (i := 6) rfl))) (mvT hZ (hw _ (List.mem_of_getElem? (i := 7) rfl))) (by decide) (backOf (W := 0) (rm_mx l Z a0 hw [] (1 : Int32) (p4 &&& (2147483647 : Int32)) h0 n0 Z0 ) hZ (hw _ (List.mem_of_getElem? (i := 7) rfl)) (hw _ (List.mem_of_getElem? (i := 6) rfl)) (by decide) (by decide)) (g := (mkF m 95 #[.val (.int p1), .val (.int p2), .val (.int p3), .val (.int p4), .val (.int p5), .val (.int (p1 &&& (3 : Int32))), .val (.ref ww), .val (.int (1 : Int32)), .val (.int x169), .val (.int x173), .unset, .unset, .unset, .unset, .unset, .unset, .unset, .unset, .unset, .unset, .unset, .unset, .unset, .unset, .unset, .unset, .unset, .unset, .unset, .unset, .unset, .unset, .unset, .unset] [(.int (p4 &&& (2147483647 : Int32))), (.int (1 : Int32))])) rfl (by rw [hml]; rfl) (argsL := [(.int (1 : Int32)), (.int (p4 &&& (2147483647 : Int32)))]) (rest := []) (lenOf pd_0 rfl) rfl (by show 2 * 0 + _ ≤ _; exact Nat.le_of_eq rfl) (hb hby at_95) (fun _ _ => ⟨rfl, hq174, (by decide : 0 + 0 ≤ _), (by decide : 0 + 0 ≤ _)⟩)
    dsimp only [Pt.U, Pt.locs, Pt.cells, Pt.slots] at X176 l176 y176 z176 st176 hQ176
    subst l176 y176 z176
    obtain ⟨x177, rfl, N176q, hq178, hpq179⟩ := hQ176
    have N176 := Fr.app N172 N176q
    obtain ⟨_, _, ⟨T180, L180, k180, n180⟩, -, X180, ⟨Lc180, hQ180, l180, y180, z180⟩, st180⟩ := Jvm.LawKit.callS X176 hx (y := (⟨"java/lang/Math", "max", "(II)I"⟩ : MethodName)) hown (mvT hZ (hw _ (List.mem_of_getElem? (i := 4) rfl))) (mvT hZ (hw _ (List.mem_of_getElem? (i := 5) rfl))) (mvT hZ (hw _ (List.mem_of_getElem? (i := 6) rfl))) (mvT hZ (hw _ (List.mem_of_getElem? (i := 7) rfl))) (by decide) (backOf (W := 0) (rm_mx l Z a0 hw [] (1 : Int32) (p5 &&& (2147483647 : Int32)) h0 n0 Z0 ) hZ (hw _ (List.mem_of_getElem? (i := 7) rfl)) (hw _ (List.mem_of_getElem? (i := 6) rfl)) (by decide) (by decide)) (g := (mkF m 106 #[.val (.int p1), .val (.int p2), .val (.int p3), .val (.int p4), .val (.int p5), .val (.int (p1 &&& (3 : Int32))), .val (.ref ww), .val (.int (1 : Int32)), .val (.int x169), .val (.int x173), .val (.int x177), .unset, .unset, .unset, .unset, .unset, .unset, .unset, .unset, .unset, .unset, .unset, .unset, .unset, .unset, .unset, .unset, .unset, .unset, .unset, .unset, .unset, .unset, .unset] [(.int (p5 &&& (2147483647 : Int32))), (.int (1 : Int32))])) rfl (by rw [hml]; rfl) (argsL := [(.int (1 : Int32)), (.int (p5 &&& (2147483647 : Int32)))]) (rest := []) (lenOf pd_0 rfl) rfl (by show 2 * 0 + _ ≤ _; exact Nat.le_of_eq rfl) (hb hby at_106) (fun _ _ => ⟨rfl, hq178, (by decide : 0 + 0 ≤ _), (by decide : 0 + 0 ≤ _)⟩)
    dsimp only [Pt.U, Pt.locs, Pt.cells, Pt.slots] at X180 l180 y180 z180 st180 hQ180
    subst l180 y180 z180
    obtain ⟨x181, rfl, N180q, hq182, hpq183⟩ := hQ180
    have N180 := Fr.app N176 N180q
    obtain ⟨T184, h184, k184, X184, e184, E184, A184, Ea184, st184⟩ := newPE X180 hx hZ (hw _ (List.mem_of_getElem? (i := 8) rfl)) hq182 (g := (mkF m 112 #[.val (.int p1), .val (.int p2), .val (.int p3), .val (.int p4), .val (.int p5), .val (.int (p1 &&& (3 : Int32))), .val (.ref ww), .val (.int (1 : Int32)), .val (.int x169), .val (.int x173), .val (.int x177), .val (.int x181), .unset, .unset, .unset, .unset, .unset, .unset, .unset, .unset, .unset, .unset, .unset, .unset, .unset, .unset, .unset, .unset, .unset, .unset, .unset, .unset, .unset, .unset] [(.int (3 : Int32))])) rfl (hb hby at_112) rfl (by decide) (cap := 3) (by decide) (by decide) (by decide) (by decide) (ad := "[I") own_nm_int
    obtain ⟨b184, g184⟩ : ∃ z, z = h0.size := ⟨_, rfl⟩
    have ne_w0_b184 : w0 ≠ b184 := Nat.ne_of_lt (Nat.lt_of_lt_of_le H4_E.lt (Nat.le_of_eq g184.symm))
    have ne_w1_b184 : w1 ≠ b184 := Nat.ne_of_lt (Nat.lt_of_lt_of_le H5_E.lt (Nat.le_of_eq g184.symm))
    have ne_w2_b184 : w2 ≠ b184 := Nat.ne_of_lt (Nat.lt_of_lt_of_le H6_E.lt (Nat.le_of_eq g184.symm))
    have ne_w3_b184 : w3 ≠ b184 := Nat.ne_of_lt (Nat.lt_of_lt_of_le H7_E.lt (Nat.le_of_eq g184.symm))
    have ne_ww_b184 : ww ≠ b184 := Nat.ne_of_lt (Nat.lt_of_lt_of_le tl1_0.lt (Nat.le_of_eq g184.symm))
    have ge_b184 : n0 ≤ b184 := Nat.le_trans Z0 (Nat.le_of_eq g184.symm)
    have sz_b184 : h0.size ≤ b184 := Nat.le_trans K0.1 (Nat.le_of_eq g184.symm)
    rw [← g184] at A184 Ea184 st184
    have S185 : Sta Z h184 "com/example/legwork/legwork/Tier" "CUSTOMER" "Lcom/example/legwork/legwork/Tier;" (.ref w0) := H0_S.ext E184
    have S186 : Sta Z h184 "com/example/legwork/legwork/Tier" "MARKET_MAKER" "Lcom/example/legwork/legwork/Tier;" (.ref w1) := H1_S.ext E184
    have S187 : Sta Z h184 "com/example/legwork/legwork/Tier" "OTHER" "Lcom/example/legwork/legwork/Tier;" (.ref w2) := H2_S.ext E184
    have S188 : Sta Z h184 "com/example/legwork/legwork/Tier" "LEGGING" "Lcom/example/legwork/legwork/Tier;" (.ref w3) := H3_S.ext E184
    have E189 : Exa Z h184 w0 "com/example/legwork/legwork/Tier" := H4_E.ext E184
    have E190 : Exa Z h184 w1 "com/example/legwork/legwork/Tier" := H5_E.ext E184
    have E191 : Exa Z h184 w2 "com/example/legwork/legwork/Tier" := H6_E.ext E184
    have E192 : Exa Z h184 w3 "com/example/legwork/legwork/Tier" := H7_E.ext E184
    have F193 : Fld Z h184 w0 "com/example/legwork/legwork/Tier" "proRata" "Z" (.int (0 : Int32)) := H8_F.ext E184
    have F194 : Fld Z h184 w1 "com/example/legwork/legwork/Tier" "proRata" "Z" (.int (1 : Int32)) := H9_F.ext E184
    have F195 : Fld Z h184 w2 "com/example/legwork/legwork/Tier" "proRata" "Z" (.int (1 : Int32)) := H10_F.ext E184
    have F196 : Fld Z h184 w3 "com/example/legwork/legwork/Tier" "proRata" "Z" (.int (0 : Int32)) := H11_F.ext E184
    have E197 : Exa Z h184 ww "com/example/legwork/legwork/Tier" := tl1_0.ext E184
    have F198 : Fld Z h184 ww "com/example/legwork/legwork/Tier" "proRata" "Z" (.int (1 : Int32)) := tl1_1.ext E184
    have K184 : Keep h0 h184 [] := K0.ext E184
    have Zs199 : n0 ≤ h184.size := (Nat.le_trans Z0 E184.1)
    have V184 : Arv Z h184 b184 k184 .int (3 : Int32) [(.int (0 : Int32)), (.int (0 : Int32)), (.int (0 : Int32))] (.int (0 : Int32)) := (Arv.new A184 (by decide)).pad (pad_rep [] (.int (0 : Int32)) 3)
    have oc200 := V184
    obtain ⟨c200, Arc200, qc200, Sc200, Nc200, Hc200, Gc200⟩ := oc200
    have hin201 : ¬ ((0 : Int32) < 0 ∨ c200.slots.size ≤ ((0 : Int32)).toNatClampNeg) := (inb_of Sc200 ⟨by decide, by decide⟩)
    obtain ⟨T201, h201, X201, e201, W201, st201⟩ := stI X184 hx hZ e184 Arc200 (j := (0 : Int32)) hin201 (g := (mkF m 118 #[.val (.int p1), .val (.int p2), .val (.int p3), .val (.int p4), .val (.int p5), .val (.int (p1 &&& (3 : Int32))), .val (.ref ww), .val (.int (1 : Int32)), .val (.int x169), .val (.int x173), .val (.int x177), .val (.int x181), .unset, .unset, .unset, .unset, .unset, .unset, .unset, .unset, .unset, .unset, .unset, .unset, .unset, .unset, .unset, .unset, .unset, .unset, .unset, .unset, .unset, .unset] [(.int x173), (.int (0 : Int32)), (.ref b184), (.ref b184)])) rfl rfl (hb hby at_118)
    have V201 : Arv Z h201 b184 k184 .int (3 : Int32) [(.int x173), (.int (0 : Int32)), (.int (0 : Int32))] (.int (0 : Int32)) := Arv.set Arc200 qc200 Sc200 Nc200 Hc200 Gc200 rfl W201 0 rfl (Nat.le_of_ble_eq_true rfl)
    have S202 : Sta Z h201 "com/example/legwork/legwork/Tier" "CUSTOMER" "Lcom/example/legwork/legwork/Tier;" (.ref w0) := S185.wr W201
    have S203 : Sta Z h201 "com/example/legwork/legwork/Tier" "MARKET_MAKER" "Lcom/example/legwork/legwork/Tier;" (.ref w1) := S186.wr W201
    have S204 : Sta Z h201 "com/example/legwork/legwork/Tier" "OTHER" "Lcom/example/legwork/legwork/Tier;" (.ref w2) := S187.wr W201
    have S205 : Sta Z h201 "com/example/legwork/legwork/Tier" "LEGGING" "Lcom/example/legwork/legwork/Tier;" (.ref w3) := S188.wr W201
    have E206 : Exa Z h201 w0 "com/example/legwork/legwork/Tier" := E189.wr W201
    have E207 : Exa Z h201 w1 "com/example/legwork/legwork/Tier" := E190.wr W201
    have E208 : Exa Z h201 w2 "com/example/legwork/legwork/Tier" := E191.wr W201
    have E209 : Exa Z h201 w3 "com/example/legwork/legwork/Tier" := E192.wr W201
    have F210 : Fld Z h201 w0 "com/example/legwork/legwork/Tier" "proRata" "Z" (.int (0 : Int32)) := F193.other W201 (Or.inl ne_w0_b184)
    have F211 : Fld Z h201 w1 "com/example/legwork/legwork/Tier" "proRata" "Z" (.int (1 : Int32)) := F194.other W201 (Or.inl ne_w1_b184)
    have F212 : Fld Z h201 w2 "com/example/legwork/legwork/Tier" "proRata" "Z" (.int (1 : Int32)) := F195.other W201 (Or.inl ne_w2_b184)
    have F213 : Fld Z h201 w3 "com/example/legwork/legwork/Tier" "proRata" "Z" (.int (0 : Int32)) := F196.other W201 (Or.inl ne_w3_b184)
    have E214 : Exa Z h201 ww "com/example/legwork/legwork/Tier" := E197.wr W201
    have F215 : Fld Z h201 ww "com/example/legwork/legwork/Tier" "proRata" "Z" (.int (1 : Int32)) := F198.other W201 (Or.inl ne_ww_b184)
    have E216 : Exa Z h201 b184 "[I" := Ea184.wr W201
    have N201 := Fr.snoc X201 N180 ge_b184
    have K201 : Keep h0 h201 [] := K184.wr W201 (Or.inr sz_b184)
    have Zs217 : n0 ≤ h201.size := (Nat.le_trans Zs199 (Keep.of_wr W201).1)
    have oc218 := V201
    obtain ⟨c218, Arc218, qc218, Sc218, Nc218, Hc218, Gc218⟩ := oc218
    have hin219 : ¬ ((1 : Int32) < 0 ∨ c218.slots.size ≤ ((1 : Int32)).toNatClampNeg) := (inb_of Sc218 ⟨by decide, by decide⟩)
    obtain ⟨T219, h219, X219, e219, W219, st219⟩ := stI X201 hx hZ e201 Arc218 (j := (1 : Int32)) hin219 (g := (mkF m 123 #[.val (.int p1), .val (.int p2), .val (.int p3), .val (.int p4), .val (.int p5), .val (.int (p1 &&& (3 : Int32))), .val (.ref ww), .val (.int (1 : Int32)), .val (.int x169), .val (.int x173), .val (.int x177), .val (.int x181), .unset, .unset, .unset, .unset, .unset, .unset, .unset, .unset, .unset, .unset, .unset, .unset, .unset, .unset, .unset, .unset, .unset, .unset, .unset, .unset, .unset, .unset] [(.int x177), (.int (1 : Int32)), (.ref b184), (.ref b184)])) rfl rfl (hb hby at_123)
    have V219 : Arv Z h219 b184 k184 .int (3 : Int32) [(.int x173), (.int x177), (.int (0 : Int32))] (.int (0 : Int32)) := Arv.set Arc218 qc218 Sc218 Nc218 Hc218 Gc218 rfl W219 1 rfl (Nat.le_of_ble_eq_true rfl)
    have S220 : Sta Z h219 "com/example/legwork/legwork/Tier" "CUSTOMER" "Lcom/example/legwork/legwork/Tier;" (.ref w0) := S202.wr W219
    have S221 : Sta Z h219 "com/example/legwork/legwork/Tier" "MARKET_MAKER" "Lcom/example/legwork/legwork/Tier;" (.ref w1) := S203.wr W219
    have S222 : Sta Z h219 "com/example/legwork/legwork/Tier" "OTHER" "Lcom/example/legwork/legwork/Tier;" (.ref w2) := S204.wr W219
    have S223 : Sta Z h219 "com/example/legwork/legwork/Tier" "LEGGING" "Lcom/example/legwork/legwork/Tier;" (.ref w3) := S205.wr W219
    have E224 : Exa Z h219 w0 "com/example/legwork/legwork/Tier" := E206.wr W219
    have E225 : Exa Z h219 w1 "com/example/legwork/legwork/Tier" := E207.wr W219
    have E226 : Exa Z h219 w2 "com/example/legwork/legwork/Tier" := E208.wr W219
    have E227 : Exa Z h219 w3 "com/example/legwork/legwork/Tier" := E209.wr W219
    have F228 : Fld Z h219 w0 "com/example/legwork/legwork/Tier" "proRata" "Z" (.int (0 : Int32)) := F210.other W219 (Or.inl ne_w0_b184)
    have F229 : Fld Z h219 w1 "com/example/legwork/legwork/Tier" "proRata" "Z" (.int (1 : Int32)) := F211.other W219 (Or.inl ne_w1_b184)
    have F230 : Fld Z h219 w2 "com/example/legwork/legwork/Tier" "proRata" "Z" (.int (1 : Int32)) := F212.other W219 (Or.inl ne_w2_b184)
    have F231 : Fld Z h219 w3 "com/example/legwork/legwork/Tier" "proRata" "Z" (.int (0 : Int32)) := F213.other W219 (Or.inl ne_w3_b184)
    have E232 : Exa Z h219 ww "com/example/legwork/legwork/Tier" := E214.wr W219
    have F233 : Fld Z h219 ww "com/example/legwork/legwork/Tier" "proRata" "Z" (.int (1 : Int32)) := F215.other W219 (Or.inl ne_ww_b184)
    have E234 : Exa Z h219 b184 "[I" := E216.wr W219
    have N219 := Fr.snoc X219 N201 ge_b184
    have K219 : Keep h0 h219 [] := K201.wr W219 (Or.inr sz_b184)
    have Zs235 : n0 ≤ h219.size := (Nat.le_trans Zs217 (Keep.of_wr W219).1)
    have oc236 := V219
    obtain ⟨c236, Arc236, qc236, Sc236, Nc236, Hc236, Gc236⟩ := oc236
    have hin237 : ¬ ((2 : Int32) < 0 ∨ c236.slots.size ≤ ((2 : Int32)).toNatClampNeg) := (inb_of Sc236 ⟨by decide, by decide⟩)
    obtain ⟨T237, h237, X237, e237, W237, st237⟩ := stI X219 hx hZ e219 Arc236 (j := (2 : Int32)) hin237 (g := (mkF m 128 #[.val (.int p1), .val (.int p2), .val (.int p3), .val (.int p4), .val (.int p5), .val (.int (p1 &&& (3 : Int32))), .val (.ref ww), .val (.int (1 : Int32)), .val (.int x169), .val (.int x173), .val (.int x177), .val (.int x181), .unset, .unset, .unset, .unset, .unset, .unset, .unset, .unset, .unset, .unset, .unset, .unset, .unset, .unset, .unset, .unset, .unset, .unset, .unset, .unset, .unset, .unset] [(.int x181), (.int (2 : Int32)), (.ref b184), (.ref b184)])) rfl rfl (hb hby at_128)
    have V237 : Arv Z h237 b184 k184 .int (3 : Int32) [(.int x173), (.int x177), (.int x181)] (.int (0 : Int32)) := Arv.set Arc236 qc236 Sc236 Nc236 Hc236 Gc236 rfl W237 2 rfl (Nat.le_of_ble_eq_true rfl)
    have S238 : Sta Z h237 "com/example/legwork/legwork/Tier" "CUSTOMER" "Lcom/example/legwork/legwork/Tier;" (.ref w0) := S220.wr W237
    have S239 : Sta Z h237 "com/example/legwork/legwork/Tier" "MARKET_MAKER" "Lcom/example/legwork/legwork/Tier;" (.ref w1) := S221.wr W237
    have S240 : Sta Z h237 "com/example/legwork/legwork/Tier" "OTHER" "Lcom/example/legwork/legwork/Tier;" (.ref w2) := S222.wr W237
    have S241 : Sta Z h237 "com/example/legwork/legwork/Tier" "LEGGING" "Lcom/example/legwork/legwork/Tier;" (.ref w3) := S223.wr W237
    have E242 : Exa Z h237 w0 "com/example/legwork/legwork/Tier" := E224.wr W237
    have E243 : Exa Z h237 w1 "com/example/legwork/legwork/Tier" := E225.wr W237
    have E244 : Exa Z h237 w2 "com/example/legwork/legwork/Tier" := E226.wr W237
    have E245 : Exa Z h237 w3 "com/example/legwork/legwork/Tier" := E227.wr W237
    have F246 : Fld Z h237 w0 "com/example/legwork/legwork/Tier" "proRata" "Z" (.int (0 : Int32)) := F228.other W237 (Or.inl ne_w0_b184)
    have F247 : Fld Z h237 w1 "com/example/legwork/legwork/Tier" "proRata" "Z" (.int (1 : Int32)) := F229.other W237 (Or.inl ne_w1_b184)
    have F248 : Fld Z h237 w2 "com/example/legwork/legwork/Tier" "proRata" "Z" (.int (1 : Int32)) := F230.other W237 (Or.inl ne_w2_b184)
    have F249 : Fld Z h237 w3 "com/example/legwork/legwork/Tier" "proRata" "Z" (.int (0 : Int32)) := F231.other W237 (Or.inl ne_w3_b184)
    have E250 : Exa Z h237 ww "com/example/legwork/legwork/Tier" := E232.wr W237
    have F251 : Fld Z h237 ww "com/example/legwork/legwork/Tier" "proRata" "Z" (.int (1 : Int32)) := F233.other W237 (Or.inl ne_ww_b184)
    have E252 : Exa Z h237 b184 "[I" := E234.wr W237
    have N237 := Fr.snoc X237 N219 ge_b184
    have K237 : Keep h0 h237 [] := K219.wr W237 (Or.inr sz_b184)
    have Zs253 : n0 ≤ h237.size := (Nat.le_trans Zs235 (Keep.of_wr W237).1)
    obtain ⟨_, _, ⟨T254, L254, k254, n254⟩, -, X254, ⟨Lc254, hQ254, l254, y254, z254⟩, st254⟩ := Jvm.LawKit.callS X237 hx (y := (⟨"com/example/legwork/legwork/Allocation", "share", "(Lcom/example/legwork/legwork/Tier;I[I)[I"⟩ : MethodName)) hown (mvT hZ (hw _ (List.mem_of_getElem? (i := 9) rfl))) (mvT hZ (hw _ (List.mem_of_getElem? (i := 10) rfl))) (mvT hZ (hw _ (List.mem_of_getElem? (i := 11) rfl))) (mvT hZ (hw _ (List.mem_of_getElem? (i := 12) rfl))) (by decide) (backOf (W := 0) (rm_shP l Z a0 hw [] ww x169 b184 k184 x173 x177 x181 h237 n0 Zs253 E250 F251 V237 E252 (own_mx_pos hpq171) (own_mx_pos hpq175) (own_mx_pos hpq179) (own_mx_pos hpq183)) hZ (hw _ (List.mem_of_getElem? (i := 12) rfl)) (hw _ (List.mem_of_getElem? (i := 11) rfl)) (by decide) (by decide)) (g := (mkF m 137 #[.val (.int p1), .val (.int p2), .val (.int p3), .val (.int p4), .val (.int p5), .val (.int (p1 &&& (3 : Int32))), .val (.ref ww), .val (.int (1 : Int32)), .val (.int x169), .val (.int x173), .val (.int x177), .val (.int x181), .val (.ref b184), .unset, .unset, .unset, .unset, .unset, .unset, .unset, .unset, .unset, .unset, .unset, .unset, .unset, .unset, .unset, .unset, .unset, .unset, .unset, .unset, .unset] [(.ref b184), (.int x169), (.ref ww)])) rfl (by rw [hml]; rfl) (argsL := [(.ref ww), (.int x169), (.ref b184)]) (rest := []) (lenOf pd_3 rfl) rfl (by show 2 * 0 + _ ≤ _; exact Nat.le_of_eq rfl) (hb hby at_137) (fun _ _ => ⟨rfl, e237, (by decide : 1 + 1 ≤ _), (by decide : 3 + 3 ≤ _)⟩)
    dsimp only [Pt.U, Pt.locs, Pt.cells, Pt.slots] at X254 l254 y254 z254 st254 hQ254
    subst l254 y254 z254
    obtain ⟨x255, x256, x257, x258, x259, rfl, N254q, hq260, hpq261, hpq262, hpq263, A264⟩ := hQ254
    have N254 := Fr.app N237 N254q
    have lt265 : w0 < h237.size := E242.lt
    have lt266 : w1 < h237.size := E243.lt
    have lt267 : w2 < h237.size := E244.lt
    have lt268 : w3 < h237.size := E245.lt
    have lt269 : ww < h237.size := E250.lt
    have lt270 : b184 < h237.size := E252.lt
    have S271 : Sta Z T254.heap "com/example/legwork/legwork/Tier" "CUSTOMER" "Lcom/example/legwork/legwork/Tier;" (.ref w0) := own_sta_keep S238 hq260 all0
    have S272 : Sta Z T254.heap "com/example/legwork/legwork/Tier" "MARKET_MAKER" "Lcom/example/legwork/legwork/Tier;" (.ref w1) := own_sta_keep S239 hq260 all0
    have S273 : Sta Z T254.heap "com/example/legwork/legwork/Tier" "OTHER" "Lcom/example/legwork/legwork/Tier;" (.ref w2) := own_sta_keep S240 hq260 all0
    have S274 : Sta Z T254.heap "com/example/legwork/legwork/Tier" "LEGGING" "Lcom/example/legwork/legwork/Tier;" (.ref w3) := own_sta_keep S241 hq260 all0
    have E275 : Exa Z T254.heap w0 "com/example/legwork/legwork/Tier" := E242.keep hq260
    have E276 : Exa Z T254.heap w1 "com/example/legwork/legwork/Tier" := E243.keep hq260
    have E277 : Exa Z T254.heap w2 "com/example/legwork/legwork/Tier" := E244.keep hq260
    have E278 : Exa Z T254.heap w3 "com/example/legwork/legwork/Tier" := E245.keep hq260
    have F279 : Fld Z T254.heap w0 "com/example/legwork/legwork/Tier" "proRata" "Z" (.int (0 : Int32)) := F246.keep hq260 nin0
    have F280 : Fld Z T254.heap w1 "com/example/legwork/legwork/Tier" "proRata" "Z" (.int (1 : Int32)) := F247.keep hq260 nin0
    have F281 : Fld Z T254.heap w2 "com/example/legwork/legwork/Tier" "proRata" "Z" (.int (1 : Int32)) := F248.keep hq260 nin0
    have F282 : Fld Z T254.heap w3 "com/example/legwork/legwork/Tier" "proRata" "Z" (.int (0 : Int32)) := F249.keep hq260 nin0
    have E283 : Exa Z T254.heap ww "com/example/legwork/legwork/Tier" := E250.keep hq260
    have F284 : Fld Z T254.heap ww "com/example/legwork/legwork/Tier" "proRata" "Z" (.int (1 : Int32)) := F251.keep hq260 nin0
    have E285 : Exa Z T254.heap b184 "[I" := E252.keep hq260
    have A286 : Arv Z T254.heap b184 k184 .int (3 : Int32) [(.int x173), (.int x177), (.int x181)] (.int (0 : Int32)) := V237.keep hq260 nin0
    have K254 : Keep h0 T254.heap [] := K237.trans hq260 all0
    have Zs287 : n0 ≤ T254.heap.size := (Nat.le_trans Zs253 hq260.1)
    have ne288 : w0 ≠ x255 := Nat.ne_of_lt (Nat.lt_of_lt_of_le lt265 hpq262)
    have ne289 : w1 ≠ x255 := Nat.ne_of_lt (Nat.lt_of_lt_of_le lt266 hpq262)
    have ne290 : w2 ≠ x255 := Nat.ne_of_lt (Nat.lt_of_lt_of_le lt267 hpq262)
    have ne291 : w3 ≠ x255 := Nat.ne_of_lt (Nat.lt_of_lt_of_le lt268 hpq262)
    have ne292 : ww ≠ x255 := Nat.ne_of_lt (Nat.lt_of_lt_of_le lt269 hpq262)
    have ne293 : b184 ≠ x255 := Nat.ne_of_lt (Nat.lt_of_lt_of_le lt270 hpq262)
    have sz294 : h0.size ≤ x255 := Nat.le_trans K237.1 hpq262
    have LF295 := own_law_pr hpq263
    have oc296 := A264
    obtain ⟨c296, Arc296, qc296, Sc296, Nc296, Hc296, Gc296⟩ := oc296
    have oc297 := A264
    obtain ⟨c297, Arc297, qc297, Sc297, Nc297, Hc297, Gc297⟩ := oc297
    have hin298 : ¬ ((0 : Int32) < 0 ∨ c297.slots.size ≤ ((0 : Int32)).toNatClampNeg) := (inb_of Sc297 ⟨by decide, by decide⟩)
    have oc299 := A264
    obtain ⟨c299, Arc299, qc299, Sc299, Nc299, Hc299, Gc299⟩ := oc299
    have hin300 : ¬ ((1 : Int32) < 0 ∨ c299.slots.size ≤ ((1 : Int32)).toNatClampNeg) := (inb_of Sc299 ⟨by decide, by decide⟩)
    have oc301 := A264
    obtain ⟨c301, Arc301, qc301, Sc301, Nc301, Hc301, Gc301⟩ := oc301
    have hin302 : ¬ ((2 : Int32) < 0 ∨ c301.slots.size ≤ ((2 : Int32)).toNatClampNeg) := (inb_of Sc301 ⟨by decide, by decide⟩)
    have pre303 := fun (t : State) (k : Steps p.tables e below (T254.setTop (mkF m 185 #[.val (.int p1), .val (.int p2), .val (.int p3), .val (.int p4), .val (.int p5), .val (.int (p1 &&& (3 : Int32))), .val (.ref ww), .val (.int (1 : Int32)), .val (.int x169), .val (.int x173), .val (.int x177), .val (.int x181), .val (.ref b184), .val (.ref x255), .val (.int x257), .val (.int x258), .val (.int x259), .unset, .unset, .unset, .unset, .unset, .unset, .unset, .unset, .unset, .unset, .unset, .unset, .unset, .unset, .unset, .unset, .unset] [(.long (((x173.toInt64) + (x177.toInt64)) + (x181.toInt64)))])) t) => pre_tl1 t (by
      refine XS.iconst X_tl1.here hx rfl (hb hby at_70) ?_
      show Steps p.tables e below (T_tl1.setTop (mkF m 71 #[.val (.int p1), .val (.int p2), .val (.int p3), .val (.int p4), .val (.int p5), .val (.int (p1 &&& (3 : Int32))), .val (.ref ww), .val (.int (1 : Int32)), .unset, .unset, .unset, .unset, .unset, .unset, .unset, .unset, .unset, .unset, .unset, .unset, .unset, .unset, .unset, .unset, .unset, .unset, .unset, .unset, .unset, .unset, .unset, .unset, .unset, .unset] [(.int (1 : Int32))])) _
      refine XS.iloadN X_tl1.here hx rfl (hb hby at_71) rfl ?_
      show Steps p.tables e below (T_tl1.setTop (mkF m 72 #[.val (.int p1), .val (.int p2), .val (.int p3), .val (.int p4), .val (.int p5), .val (.int (p1 &&& (3 : Int32))), .val (.ref ww), .val (.int (1 : Int32)), .unset, .unset, .unset, .unset, .unset, .unset, .unset, .unset, .unset, .unset, .unset, .unset, .unset, .unset, .unset, .unset, .unset, .unset, .unset, .unset, .unset, .unset, .unset, .unset, .unset, .unset] [(.int p2), (.int (1 : Int32))])) _
      refine X_tl1.ldcInt hx hown (mvT hZ (hw _ (List.mem_of_getElem? (i := 3) rfl))) (g := (mkF m 72 #[.val (.int p1), .val (.int p2), .val (.int p3), .val (.int p4), .val (.int p5), .val (.int (p1 &&& (3 : Int32))), .val (.ref ww), .val (.int (1 : Int32)), .unset, .unset, .unset, .unset, .unset, .unset, .unset, .unset, .unset, .unset, .unset, .unset, .unset, .unset, .unset, .unset, .unset, .unset, .unset, .unset, .unset, .unset, .unset, .unset, .unset, .unset] [(.int p2), (.int (1 : Int32))])) rfl (hb hby at_72) _ ?_
      show Steps p.tables e below (T_tl1.setTop (mkF m 74 #[.val (.int p1), .val (.int p2), .val (.int p3), .val (.int p4), .val (.int p5), .val (.int (p1 &&& (3 : Int32))), .val (.ref ww), .val (.int (1 : Int32)), .unset, .unset, .unset, .unset, .unset, .unset, .unset, .unset, .unset, .unset, .unset, .unset, .unset, .unset, .unset, .unset, .unset, .unset, .unset, .unset, .unset, .unset, .unset, .unset, .unset, .unset] [(.int (2147483647 : Int32)), (.int p2), (.int (1 : Int32))])) _
      refine XS.iand X_tl1.here hx rfl (hb hby at_74) rfl ?_
      show Steps p.tables e below (T_tl1.setTop (mkF m 75 #[.val (.int p1), .val (.int p2), .val (.int p3), .val (.int p4), .val (.int p5), .val (.int (p1 &&& (3 : Int32))), .val (.ref ww), .val (.int (1 : Int32)), .unset, .unset, .unset, .unset, .unset, .unset, .unset, .unset, .unset, .unset, .unset, .unset, .unset, .unset, .unset, .unset, .unset, .unset, .unset, .unset, .unset, .unset, .unset, .unset, .unset, .unset] [(.int (p2 &&& (2147483647 : Int32))), (.int (1 : Int32))])) _
      refine st168 _ ?_
      show Steps p.tables e below (T168.setTop (mkF m 78 #[.val (.int p1), .val (.int p2), .val (.int p3), .val (.int p4), .val (.int p5), .val (.int (p1 &&& (3 : Int32))), .val (.ref ww), .val (.int (1 : Int32)), .unset, .unset, .unset, .unset, .unset, .unset, .unset, .unset, .unset, .unset, .unset, .unset, .unset, .unset, .unset, .unset, .unset, .unset, .unset, .unset, .unset, .unset, .unset, .unset, .unset, .unset] [(.int x169)])) _
      refine XS.istore X168.here hx rfl (hb hby at_78) rfl (l' := #[.val (.int p1), .val (.int p2), .val (.int p3), .val (.int p4), .val (.int p5), .val (.int (p1 &&& (3 : Int32))), .val (.ref ww), .val (.int (1 : Int32)), .val (.int x169), .unset, .unset, .unset, .unset, .unset, .unset, .unset, .unset, .unset, .unset, .unset, .unset, .unset, .unset, .unset, .unset, .unset, .unset, .unset, .unset, .unset, .unset, .unset, .unset, .unset]) rfl ?_
      show Steps p.tables e below (T168.setTop (mkF m 80 #[.val (.int p1), .val (.int p2), .val (.int p3), .val (.int p4), .val (.int p5), .val (.int (p1 &&& (3 : Int32))), .val (.ref ww), .val (.int (1 : Int32)), .val (.int x169), .unset, .unset, .unset, .unset, .unset, .unset, .unset, .unset, .unset, .unset, .unset, .unset, .unset, .unset, .unset, .unset, .unset, .unset, .unset, .unset, .unset, .unset, .unset, .unset, .unset] [])) _
      refine XS.iconst X168.here hx rfl (hb hby at_80) ?_
      show Steps p.tables e below (T168.setTop (mkF m 81 #[.val (.int p1), .val (.int p2), .val (.int p3), .val (.int p4), .val (.int p5), .val (.int (p1 &&& (3 : Int32))), .val (.ref ww), .val (.int (1 : Int32)), .val (.int x169), .unset, .unset, .unset, .unset, .unset, .unset, .unset, .unset, .unset, .unset, .unset, .unset, .unset, .unset, .unset, .unset, .unset, .unset, .unset, .unset, .unset, .unset, .unset, .unset, .unset] [(.int (1 : Int32))])) _
      refine XS.iloadN X168.here hx rfl (hb hby at_81) rfl ?_
      show Steps p.tables e below (T168.setTop (mkF m 82 #[.val (.int p1), .val (.int p2), .val (.int p3), .val (.int p4), .val (.int p5), .val (.int (p1 &&& (3 : Int32))), .val (.ref ww), .val (.int (1 : Int32)), .val (.int x169), .unset, .unset, .unset, .unset, .unset, .unset, .unset, .unset, .unset, .unset, .unset, .unset, .unset, .unset, .unset, .unset, .unset, .unset, .unset, .unset, .unset, .unset, .unset, .unset, .unset] [(.int p3), (.int (1 : Int32))])) _
      refine X168.ldcInt hx hown (mvT hZ (hw _ (List.mem_of_getElem? (i := 3) rfl))) (g := (mkF m 82 #[.val (.int p1), .val (.int p2), .val (.int p3), .val (.int p4), .val (.int p5), .val (.int (p1 &&& (3 : Int32))), .val (.ref ww), .val (.int (1 : Int32)), .val (.int x169), .unset, .unset, .unset, .unset, .unset, .unset, .unset, .unset, .unset, .unset, .unset, .unset, .unset, .unset, .unset, .unset, .unset, .unset, .unset, .unset, .unset, .unset, .unset, .unset, .unset] [(.int p3), (.int (1 : Int32))])) rfl (hb hby at_82) _ ?_
      show Steps p.tables e below (T168.setTop (mkF m 84 #[.val (.int p1), .val (.int p2), .val (.int p3), .val (.int p4), .val (.int p5), .val (.int (p1 &&& (3 : Int32))), .val (.ref ww), .val (.int (1 : Int32)), .val (.int x169), .unset, .unset, .unset, .unset, .unset, .unset, .unset, .unset, .unset, .unset, .unset, .unset, .unset, .unset, .unset, .unset, .unset, .unset, .unset, .unset, .unset, .unset, .unset, .unset, .unset] [(.int (2147483647 : Int32)), (.int p3), (.int (1 : Int32))])) _
      refine XS.iand X168.here hx rfl (hb hby at_84) rfl ?_
      show Steps p.tables e below (T168.setTop (mkF m 85 #[.val (.int p1), .val (.int p2), .val (.int p3), .val (.int p4), .val (.int p5), .val (.int (p1 &&& (3 : Int32))), .val (.ref ww), .val (.int (1 : Int32)), .val (.int x169), .unset, .unset, .unset, .unset, .unset, .unset, .unset, .unset, .unset, .unset, .unset, .unset, .unset, .unset, .unset, .unset, .unset, .unset, .unset, .unset, .unset, .unset, .unset, .unset, .unset] [(.int (p3 &&& (2147483647 : Int32))), (.int (1 : Int32))])) _
      refine st172 _ ?_
      show Steps p.tables e below (T172.setTop (mkF m 88 #[.val (.int p1), .val (.int p2), .val (.int p3), .val (.int p4), .val (.int p5), .val (.int (p1 &&& (3 : Int32))), .val (.ref ww), .val (.int (1 : Int32)), .val (.int x169), .unset, .unset, .unset, .unset, .unset, .unset, .unset, .unset, .unset, .unset, .unset, .unset, .unset, .unset, .unset, .unset, .unset, .unset, .unset, .unset, .unset, .unset, .unset, .unset, .unset] [(.int x173)])) _
      refine XS.istore X172.here hx rfl (hb hby at_88) rfl (l' := #[.val (.int p1), .val (.int p2), .val (.int p3), .val (.int p4), .val (.int p5), .val (.int (p1 &&& (3 : Int32))), .val (.ref ww), .val (.int (1 : Int32)), .val (.int x169), .val (.int x173), .unset, .unset, .unset, .unset, .unset, .unset, .unset, .unset, .unset, .unset, .unset, .unset, .unset, .unset, .unset, .unset, .unset, .unset, .unset, .unset, .unset, .unset, .unset, .unset]) rfl ?_
      show Steps p.tables e below (T172.setTop (mkF m 90 #[.val (.int p1), .val (.int p2), .val (.int p3), .val (.int p4), .val (.int p5), .val (.int (p1 &&& (3 : Int32))), .val (.ref ww), .val (.int (1 : Int32)), .val (.int x169), .val (.int x173), .unset, .unset, .unset, .unset, .unset, .unset, .unset, .unset, .unset, .unset, .unset, .unset, .unset, .unset, .unset, .unset, .unset, .unset, .unset, .unset, .unset, .unset, .unset, .unset] [])) _
      refine XS.iconst X172.here hx rfl (hb hby at_90) ?_
      show Steps p.tables e below (T172.setTop (mkF m 91 #[.val (.int p1), .val (.int p2), .val (.int p3), .val (.int p4), .val (.int p5), .val (.int (p1 &&& (3 : Int32))), .val (.ref ww), .val (.int (1 : Int32)), .val (.int x169), .val (.int x173), .unset, .unset, .unset, .unset, .unset, .unset, .unset, .unset, .unset, .unset, .unset, .unset, .unset, .unset, .unset, .unset, .unset, .unset, .unset, .unset, .unset, .unset, .unset, .unset] [(.int (1 : Int32))])) _
      refine XS.iloadN X172.here hx rfl (hb hby at_91) rfl ?_
      show Steps p.tables e below (T172.setTop (mkF m 92 #[.val (.int p1), .val (.int p2), .val (.int p3), .val (.int p4), .val (.int p5), .val (.int (p1 &&& (3 : Int32))), .val (.ref ww), .val (.int (1 : Int32)), .val (.int x169), .val (.int x173), .unset, .unset, .unset, .unset, .unset, .unset, .unset, .unset, .unset, .unset, .unset, .unset, .unset, .unset, .unset, .unset, .unset, .unset, .unset, .unset, .unset, .unset, .unset, .unset] [(.int p4), (.int (1 : Int32))])) _
      refine X172.ldcInt hx hown (mvT hZ (hw _ (List.mem_of_getElem? (i := 3) rfl))) (g := (mkF m 92 #[.val (.int p1), .val (.int p2), .val (.int p3), .val (.int p4), .val (.int p5), .val (.int (p1 &&& (3 : Int32))), .val (.ref ww), .val (.int (1 : Int32)), .val (.int x169), .val (.int x173), .unset, .unset, .unset, .unset, .unset, .unset, .unset, .unset, .unset, .unset, .unset, .unset, .unset, .unset, .unset, .unset, .unset, .unset, .unset, .unset, .unset, .unset, .unset, .unset] [(.int p4), (.int (1 : Int32))])) rfl (hb hby at_92) _ ?_
      show Steps p.tables e below (T172.setTop (mkF m 94 #[.val (.int p1), .val (.int p2), .val (.int p3), .val (.int p4), .val (.int p5), .val (.int (p1 &&& (3 : Int32))), .val (.ref ww), .val (.int (1 : Int32)), .val (.int x169), .val (.int x173), .unset, .unset, .unset, .unset, .unset, .unset, .unset, .unset, .unset, .unset, .unset, .unset, .unset, .unset, .unset, .unset, .unset, .unset, .unset, .unset, .unset, .unset, .unset, .unset] [(.int (2147483647 : Int32)), (.int p4), (.int (1 : Int32))])) _
      refine XS.iand X172.here hx rfl (hb hby at_94) rfl ?_
      show Steps p.tables e below (T172.setTop (mkF m 95 #[.val (.int p1), .val (.int p2), .val (.int p3), .val (.int p4), .val (.int p5), .val (.int (p1 &&& (3 : Int32))), .val (.ref ww), .val (.int (1 : Int32)), .val (.int x169), .val (.int x173), .unset, .unset, .unset, .unset, .unset, .unset, .unset, .unset, .unset, .unset, .unset, .unset, .unset, .unset, .unset, .unset, .unset, .unset, .unset, .unset, .unset, .unset, .unset, .unset] [(.int (p4 &&& (2147483647 : Int32))), (.int (1 : Int32))])) _
      refine st176 _ ?_
      show Steps p.tables e below (T176.setTop (mkF m 98 #[.val (.int p1), .val (.int p2), .val (.int p3), .val (.int p4), .val (.int p5), .val (.int (p1 &&& (3 : Int32))), .val (.ref ww), .val (.int (1 : Int32)), .val (.int x169), .val (.int x173), .unset, .unset, .unset, .unset, .unset, .unset, .unset, .unset, .unset, .unset, .unset, .unset, .unset, .unset, .unset, .unset, .unset, .unset, .unset, .unset, .unset, .unset, .unset, .unset] [(.int x177)])) _
      refine XS.istore X176.here hx rfl (hb hby at_98) rfl (l' := #[.val (.int p1), .val (.int p2), .val (.int p3), .val (.int p4), .val (.int p5), .val (.int (p1 &&& (3 : Int32))), .val (.ref ww), .val (.int (1 : Int32)), .val (.int x169), .val (.int x173), .val (.int x177), .unset, .unset, .unset, .unset, .unset, .unset, .unset, .unset, .unset, .unset, .unset, .unset, .unset, .unset, .unset, .unset, .unset, .unset, .unset, .unset, .unset, .unset, .unset]) rfl ?_
      show Steps p.tables e below (T176.setTop (mkF m 100 #[.val (.int p1), .val (.int p2), .val (.int p3), .val (.int p4), .val (.int p5), .val (.int (p1 &&& (3 : Int32))), .val (.ref ww), .val (.int (1 : Int32)), .val (.int x169), .val (.int x173), .val (.int x177), .unset, .unset, .unset, .unset, .unset, .unset, .unset, .unset, .unset, .unset, .unset, .unset, .unset, .unset, .unset, .unset, .unset, .unset, .unset, .unset, .unset, .unset, .unset] [])) _
      refine XS.iconst X176.here hx rfl (hb hby at_100) ?_
      show Steps p.tables e below (T176.setTop (mkF m 101 #[.val (.int p1), .val (.int p2), .val (.int p3), .val (.int p4), .val (.int p5), .val (.int (p1 &&& (3 : Int32))), .val (.ref ww), .val (.int (1 : Int32)), .val (.int x169), .val (.int x173), .val (.int x177), .unset, .unset, .unset, .unset, .unset, .unset, .unset, .unset, .unset, .unset, .unset, .unset, .unset, .unset, .unset, .unset, .unset, .unset, .unset, .unset, .unset, .unset, .unset] [(.int (1 : Int32))])) _
      refine XS.iload X176.here hx rfl (hb hby at_101) rfl ?_
      show Steps p.tables e below (T176.setTop (mkF m 103 #[.val (.int p1), .val (.int p2), .val (.int p3), .val (.int p4), .val (.int p5), .val (.int (p1 &&& (3 : Int32))), .val (.ref ww), .val (.int (1 : Int32)), .val (.int x169), .val (.int x173), .val (.int x177), .unset, .unset, .unset, .unset, .unset, .unset, .unset, .unset, .unset, .unset, .unset, .unset, .unset, .unset, .unset, .unset, .unset, .unset, .unset, .unset, .unset, .unset, .unset] [(.int p5), (.int (1 : Int32))])) _
      refine X176.ldcInt hx hown (mvT hZ (hw _ (List.mem_of_getElem? (i := 3) rfl))) (g := (mkF m 103 #[.val (.int p1), .val (.int p2), .val (.int p3), .val (.int p4), .val (.int p5), .val (.int (p1 &&& (3 : Int32))), .val (.ref ww), .val (.int (1 : Int32)), .val (.int x169), .val (.int x173), .val (.int x177), .unset, .unset, .unset, .unset, .unset, .unset, .unset, .unset, .unset, .unset, .unset, .unset, .unset, .unset, .unset, .unset, .unset, .unset, .unset, .unset, .unset, .unset, .unset] [(.int p5), (.int (1 : Int32))])) rfl (hb hby at_103) _ ?_
      show Steps p.tables e below (T176.setTop (mkF m 105 #[.val (.int p1), .val (.int p2), .val (.int p3), .val (.int p4), .val (.int p5), .val (.int (p1 &&& (3 : Int32))), .val (.ref ww), .val (.int (1 : Int32)), .val (.int x169), .val (.int x173), .val (.int x177), .unset, .unset, .unset, .unset, .unset, .unset, .unset, .unset, .unset, .unset, .unset, .unset, .unset, .unset, .unset, .unset, .unset, .unset, .unset, .unset, .unset, .unset, .unset] [(.int (2147483647 : Int32)), (.int p5), (.int (1 : Int32))])) _
      refine XS.iand X176.here hx rfl (hb hby at_105) rfl ?_
      show Steps p.tables e below (T176.setTop (mkF m 106 #[.val (.int p1), .val (.int p2), .val (.int p3), .val (.int p4), .val (.int p5), .val (.int (p1 &&& (3 : Int32))), .val (.ref ww), .val (.int (1 : Int32)), .val (.int x169), .val (.int x173), .val (.int x177), .unset, .unset, .unset, .unset, .unset, .unset, .unset, .unset, .unset, .unset, .unset, .unset, .unset, .unset, .unset, .unset, .unset, .unset, .unset, .unset, .unset, .unset, .unset] [(.int (p5 &&& (2147483647 : Int32))), (.int (1 : Int32))])) _
      refine st180 _ ?_
      show Steps p.tables e below (T180.setTop (mkF m 109 #[.val (.int p1), .val (.int p2), .val (.int p3), .val (.int p4), .val (.int p5), .val (.int (p1 &&& (3 : Int32))), .val (.ref ww), .val (.int (1 : Int32)), .val (.int x169), .val (.int x173), .val (.int x177), .unset, .unset, .unset, .unset, .unset, .unset, .unset, .unset, .unset, .unset, .unset, .unset, .unset, .unset, .unset, .unset, .unset, .unset, .unset, .unset, .unset, .unset, .unset] [(.int x181)])) _
      refine XS.istore X180.here hx rfl (hb hby at_109) rfl (l' := #[.val (.int p1), .val (.int p2), .val (.int p3), .val (.int p4), .val (.int p5), .val (.int (p1 &&& (3 : Int32))), .val (.ref ww), .val (.int (1 : Int32)), .val (.int x169), .val (.int x173), .val (.int x177), .val (.int x181), .unset, .unset, .unset, .unset, .unset, .unset, .unset, .unset, .unset, .unset, .unset, .unset, .unset, .unset, .unset, .unset, .unset, .unset, .unset, .unset, .unset, .unset]) rfl ?_
      show Steps p.tables e below (T180.setTop (mkF m 111 #[.val (.int p1), .val (.int p2), .val (.int p3), .val (.int p4), .val (.int p5), .val (.int (p1 &&& (3 : Int32))), .val (.ref ww), .val (.int (1 : Int32)), .val (.int x169), .val (.int x173), .val (.int x177), .val (.int x181), .unset, .unset, .unset, .unset, .unset, .unset, .unset, .unset, .unset, .unset, .unset, .unset, .unset, .unset, .unset, .unset, .unset, .unset, .unset, .unset, .unset, .unset] [])) _
      refine XS.iconst X180.here hx rfl (hb hby at_111) ?_
      show Steps p.tables e below (T180.setTop (mkF m 112 #[.val (.int p1), .val (.int p2), .val (.int p3), .val (.int p4), .val (.int p5), .val (.int (p1 &&& (3 : Int32))), .val (.ref ww), .val (.int (1 : Int32)), .val (.int x169), .val (.int x173), .val (.int x177), .val (.int x181), .unset, .unset, .unset, .unset, .unset, .unset, .unset, .unset, .unset, .unset, .unset, .unset, .unset, .unset, .unset, .unset, .unset, .unset, .unset, .unset, .unset, .unset] [(.int (3 : Int32))])) _
      refine st184 _ ?_
      show Steps p.tables e below (T184.setTop (mkF m 114 #[.val (.int p1), .val (.int p2), .val (.int p3), .val (.int p4), .val (.int p5), .val (.int (p1 &&& (3 : Int32))), .val (.ref ww), .val (.int (1 : Int32)), .val (.int x169), .val (.int x173), .val (.int x177), .val (.int x181), .unset, .unset, .unset, .unset, .unset, .unset, .unset, .unset, .unset, .unset, .unset, .unset, .unset, .unset, .unset, .unset, .unset, .unset, .unset, .unset, .unset, .unset] [(.ref b184)])) _
      refine XS.dup X184.here hx rfl (hb hby at_114) rfl rfl ?_
      show Steps p.tables e below (T184.setTop (mkF m 115 #[.val (.int p1), .val (.int p2), .val (.int p3), .val (.int p4), .val (.int p5), .val (.int (p1 &&& (3 : Int32))), .val (.ref ww), .val (.int (1 : Int32)), .val (.int x169), .val (.int x173), .val (.int x177), .val (.int x181), .unset, .unset, .unset, .unset, .unset, .unset, .unset, .unset, .unset, .unset, .unset, .unset, .unset, .unset, .unset, .unset, .unset, .unset, .unset, .unset, .unset, .unset] [(.ref b184), (.ref b184)])) _
      refine XS.iconst X184.here hx rfl (hb hby at_115) ?_
      show Steps p.tables e below (T184.setTop (mkF m 116 #[.val (.int p1), .val (.int p2), .val (.int p3), .val (.int p4), .val (.int p5), .val (.int (p1 &&& (3 : Int32))), .val (.ref ww), .val (.int (1 : Int32)), .val (.int x169), .val (.int x173), .val (.int x177), .val (.int x181), .unset, .unset, .unset, .unset, .unset, .unset, .unset, .unset, .unset, .unset, .unset, .unset, .unset, .unset, .unset, .unset, .unset, .unset, .unset, .unset, .unset, .unset] [(.int (0 : Int32)), (.ref b184), (.ref b184)])) _
      refine XS.iload X184.here hx rfl (hb hby at_116) rfl ?_
      show Steps p.tables e below (T184.setTop (mkF m 118 #[.val (.int p1), .val (.int p2), .val (.int p3), .val (.int p4), .val (.int p5), .val (.int (p1 &&& (3 : Int32))), .val (.ref ww), .val (.int (1 : Int32)), .val (.int x169), .val (.int x173), .val (.int x177), .val (.int x181), .unset, .unset, .unset, .unset, .unset, .unset, .unset, .unset, .unset, .unset, .unset, .unset, .unset, .unset, .unset, .unset, .unset, .unset, .unset, .unset, .unset, .unset] [(.int x173), (.int (0 : Int32)), (.ref b184), (.ref b184)])) _
      refine st201 _ ?_
      show Steps p.tables e below (T201.setTop (mkF m 119 #[.val (.int p1), .val (.int p2), .val (.int p3), .val (.int p4), .val (.int p5), .val (.int (p1 &&& (3 : Int32))), .val (.ref ww), .val (.int (1 : Int32)), .val (.int x169), .val (.int x173), .val (.int x177), .val (.int x181), .unset, .unset, .unset, .unset, .unset, .unset, .unset, .unset, .unset, .unset, .unset, .unset, .unset, .unset, .unset, .unset, .unset, .unset, .unset, .unset, .unset, .unset] [(.ref b184)])) _
      refine XS.dup X201.here hx rfl (hb hby at_119) rfl rfl ?_
      show Steps p.tables e below (T201.setTop (mkF m 120 #[.val (.int p1), .val (.int p2), .val (.int p3), .val (.int p4), .val (.int p5), .val (.int (p1 &&& (3 : Int32))), .val (.ref ww), .val (.int (1 : Int32)), .val (.int x169), .val (.int x173), .val (.int x177), .val (.int x181), .unset, .unset, .unset, .unset, .unset, .unset, .unset, .unset, .unset, .unset, .unset, .unset, .unset, .unset, .unset, .unset, .unset, .unset, .unset, .unset, .unset, .unset] [(.ref b184), (.ref b184)])) _
      refine XS.iconst X201.here hx rfl (hb hby at_120) ?_
      show Steps p.tables e below (T201.setTop (mkF m 121 #[.val (.int p1), .val (.int p2), .val (.int p3), .val (.int p4), .val (.int p5), .val (.int (p1 &&& (3 : Int32))), .val (.ref ww), .val (.int (1 : Int32)), .val (.int x169), .val (.int x173), .val (.int x177), .val (.int x181), .unset, .unset, .unset, .unset, .unset, .unset, .unset, .unset, .unset, .unset, .unset, .unset, .unset, .unset, .unset, .unset, .unset, .unset, .unset, .unset, .unset, .unset] [(.int (1 : Int32)), (.ref b184), (.ref b184)])) _
      refine XS.iload X201.here hx rfl (hb hby at_121) rfl ?_
      show Steps p.tables e below (T201.setTop (mkF m 123 #[.val (.int p1), .val (.int p2), .val (.int p3), .val (.int p4), .val (.int p5), .val (.int (p1 &&& (3 : Int32))), .val (.ref ww), .val (.int (1 : Int32)), .val (.int x169), .val (.int x173), .val (.int x177), .val (.int x181), .unset, .unset, .unset, .unset, .unset, .unset, .unset, .unset, .unset, .unset, .unset, .unset, .unset, .unset, .unset, .unset, .unset, .unset, .unset, .unset, .unset, .unset] [(.int x177), (.int (1 : Int32)), (.ref b184), (.ref b184)])) _
      refine st219 _ ?_
      show Steps p.tables e below (T219.setTop (mkF m 124 #[.val (.int p1), .val (.int p2), .val (.int p3), .val (.int p4), .val (.int p5), .val (.int (p1 &&& (3 : Int32))), .val (.ref ww), .val (.int (1 : Int32)), .val (.int x169), .val (.int x173), .val (.int x177), .val (.int x181), .unset, .unset, .unset, .unset, .unset, .unset, .unset, .unset, .unset, .unset, .unset, .unset, .unset, .unset, .unset, .unset, .unset, .unset, .unset, .unset, .unset, .unset] [(.ref b184)])) _
      refine XS.dup X219.here hx rfl (hb hby at_124) rfl rfl ?_
      show Steps p.tables e below (T219.setTop (mkF m 125 #[.val (.int p1), .val (.int p2), .val (.int p3), .val (.int p4), .val (.int p5), .val (.int (p1 &&& (3 : Int32))), .val (.ref ww), .val (.int (1 : Int32)), .val (.int x169), .val (.int x173), .val (.int x177), .val (.int x181), .unset, .unset, .unset, .unset, .unset, .unset, .unset, .unset, .unset, .unset, .unset, .unset, .unset, .unset, .unset, .unset, .unset, .unset, .unset, .unset, .unset, .unset] [(.ref b184), (.ref b184)])) _
      refine XS.iconst X219.here hx rfl (hb hby at_125) ?_
      show Steps p.tables e below (T219.setTop (mkF m 126 #[.val (.int p1), .val (.int p2), .val (.int p3), .val (.int p4), .val (.int p5), .val (.int (p1 &&& (3 : Int32))), .val (.ref ww), .val (.int (1 : Int32)), .val (.int x169), .val (.int x173), .val (.int x177), .val (.int x181), .unset, .unset, .unset, .unset, .unset, .unset, .unset, .unset, .unset, .unset, .unset, .unset, .unset, .unset, .unset, .unset, .unset, .unset, .unset, .unset, .unset, .unset] [(.int (2 : Int32)), (.ref b184), (.ref b184)])) _
      refine XS.iload X219.here hx rfl (hb hby at_126) rfl ?_
      show Steps p.tables e below (T219.setTop (mkF m 128 #[.val (.int p1), .val (.int p2), .val (.int p3), .val (.int p4), .val (.int p5), .val (.int (p1 &&& (3 : Int32))), .val (.ref ww), .val (.int (1 : Int32)), .val (.int x169), .val (.int x173), .val (.int x177), .val (.int x181), .unset, .unset, .unset, .unset, .unset, .unset, .unset, .unset, .unset, .unset, .unset, .unset, .unset, .unset, .unset, .unset, .unset, .unset, .unset, .unset, .unset, .unset] [(.int x181), (.int (2 : Int32)), (.ref b184), (.ref b184)])) _
      refine st237 _ ?_
      show Steps p.tables e below (T237.setTop (mkF m 129 #[.val (.int p1), .val (.int p2), .val (.int p3), .val (.int p4), .val (.int p5), .val (.int (p1 &&& (3 : Int32))), .val (.ref ww), .val (.int (1 : Int32)), .val (.int x169), .val (.int x173), .val (.int x177), .val (.int x181), .unset, .unset, .unset, .unset, .unset, .unset, .unset, .unset, .unset, .unset, .unset, .unset, .unset, .unset, .unset, .unset, .unset, .unset, .unset, .unset, .unset, .unset] [(.ref b184)])) _
      refine XS.astore X237.here hx rfl (hb hby at_129) rfl rfl (l' := #[.val (.int p1), .val (.int p2), .val (.int p3), .val (.int p4), .val (.int p5), .val (.int (p1 &&& (3 : Int32))), .val (.ref ww), .val (.int (1 : Int32)), .val (.int x169), .val (.int x173), .val (.int x177), .val (.int x181), .val (.ref b184), .unset, .unset, .unset, .unset, .unset, .unset, .unset, .unset, .unset, .unset, .unset, .unset, .unset, .unset, .unset, .unset, .unset, .unset, .unset, .unset, .unset]) rfl ?_
      show Steps p.tables e below (T237.setTop (mkF m 131 #[.val (.int p1), .val (.int p2), .val (.int p3), .val (.int p4), .val (.int p5), .val (.int (p1 &&& (3 : Int32))), .val (.ref ww), .val (.int (1 : Int32)), .val (.int x169), .val (.int x173), .val (.int x177), .val (.int x181), .val (.ref b184), .unset, .unset, .unset, .unset, .unset, .unset, .unset, .unset, .unset, .unset, .unset, .unset, .unset, .unset, .unset, .unset, .unset, .unset, .unset, .unset, .unset] [])) _
      refine XS.aload X237.here hx rfl (hb hby at_131) rfl rfl ?_
      show Steps p.tables e below (T237.setTop (mkF m 133 #[.val (.int p1), .val (.int p2), .val (.int p3), .val (.int p4), .val (.int p5), .val (.int (p1 &&& (3 : Int32))), .val (.ref ww), .val (.int (1 : Int32)), .val (.int x169), .val (.int x173), .val (.int x177), .val (.int x181), .val (.ref b184), .unset, .unset, .unset, .unset, .unset, .unset, .unset, .unset, .unset, .unset, .unset, .unset, .unset, .unset, .unset, .unset, .unset, .unset, .unset, .unset, .unset] [(.ref ww)])) _
      refine XS.iload X237.here hx rfl (hb hby at_133) rfl ?_
      show Steps p.tables e below (T237.setTop (mkF m 135 #[.val (.int p1), .val (.int p2), .val (.int p3), .val (.int p4), .val (.int p5), .val (.int (p1 &&& (3 : Int32))), .val (.ref ww), .val (.int (1 : Int32)), .val (.int x169), .val (.int x173), .val (.int x177), .val (.int x181), .val (.ref b184), .unset, .unset, .unset, .unset, .unset, .unset, .unset, .unset, .unset, .unset, .unset, .unset, .unset, .unset, .unset, .unset, .unset, .unset, .unset, .unset, .unset] [(.int x169), (.ref ww)])) _
      refine XS.aload X237.here hx rfl (hb hby at_135) rfl rfl ?_
      show Steps p.tables e below (T237.setTop (mkF m 137 #[.val (.int p1), .val (.int p2), .val (.int p3), .val (.int p4), .val (.int p5), .val (.int (p1 &&& (3 : Int32))), .val (.ref ww), .val (.int (1 : Int32)), .val (.int x169), .val (.int x173), .val (.int x177), .val (.int x181), .val (.ref b184), .unset, .unset, .unset, .unset, .unset, .unset, .unset, .unset, .unset, .unset, .unset, .unset, .unset, .unset, .unset, .unset, .unset, .unset, .unset, .unset, .unset] [(.ref b184), (.int x169), (.ref ww)])) _
      refine st254 _ ?_
      show Steps p.tables e below (T254.setTop (mkF m 140 #[.val (.int p1), .val (.int p2), .val (.int p3), .val (.int p4), .val (.int p5), .val (.int (p1 &&& (3 : Int32))), .val (.ref ww), .val (.int (1 : Int32)), .val (.int x169), .val (.int x173), .val (.int x177), .val (.int x181), .val (.ref b184), .unset, .unset, .unset, .unset, .unset, .unset, .unset, .unset, .unset, .unset, .unset, .unset, .unset, .unset, .unset, .unset, .unset, .unset, .unset, .unset, .unset] [(.ref x255)])) _
      refine XS.astore X254.here hx rfl (hb hby at_140) rfl rfl (l' := #[.val (.int p1), .val (.int p2), .val (.int p3), .val (.int p4), .val (.int p5), .val (.int (p1 &&& (3 : Int32))), .val (.ref ww), .val (.int (1 : Int32)), .val (.int x169), .val (.int x173), .val (.int x177), .val (.int x181), .val (.ref b184), .val (.ref x255), .unset, .unset, .unset, .unset, .unset, .unset, .unset, .unset, .unset, .unset, .unset, .unset, .unset, .unset, .unset, .unset, .unset, .unset, .unset, .unset]) rfl ?_
      show Steps p.tables e below (T254.setTop (mkF m 142 #[.val (.int p1), .val (.int p2), .val (.int p3), .val (.int p4), .val (.int p5), .val (.int (p1 &&& (3 : Int32))), .val (.ref ww), .val (.int (1 : Int32)), .val (.int x169), .val (.int x173), .val (.int x177), .val (.int x181), .val (.ref b184), .val (.ref x255), .unset, .unset, .unset, .unset, .unset, .unset, .unset, .unset, .unset, .unset, .unset, .unset, .unset, .unset, .unset, .unset, .unset, .unset, .unset, .unset] [])) _
      refine XS.aload X254.here hx rfl (hb hby at_142) rfl rfl ?_
      show Steps p.tables e below (T254.setTop (mkF m 144 #[.val (.int p1), .val (.int p2), .val (.int p3), .val (.int p4), .val (.int p5), .val (.int (p1 &&& (3 : Int32))), .val (.ref ww), .val (.int (1 : Int32)), .val (.int x169), .val (.int x173), .val (.int x177), .val (.int x181), .val (.ref b184), .val (.ref x255), .unset, .unset, .unset, .unset, .unset, .unset, .unset, .unset, .unset, .unset, .unset, .unset, .unset, .unset, .unset, .unset, .unset, .unset, .unset, .unset] [(.ref x255)])) _
      refine XS.ifnullNo X254.here hx rfl (hb hby at_144) rfl ?_
      show Steps p.tables e below (T254.setTop (mkF m 147 #[.val (.int p1), .val (.int p2), .val (.int p3), .val (.int p4), .val (.int p5), .val (.int (p1 &&& (3 : Int32))), .val (.ref ww), .val (.int (1 : Int32)), .val (.int x169), .val (.int x173), .val (.int x177), .val (.int x181), .val (.ref b184), .val (.ref x255), .unset, .unset, .unset, .unset, .unset, .unset, .unset, .unset, .unset, .unset, .unset, .unset, .unset, .unset, .unset, .unset, .unset, .unset, .unset, .unset] [])) _
      refine XS.aload X254.here hx rfl (hb hby at_147) rfl rfl ?_
      show Steps p.tables e below (T254.setTop (mkF m 149 #[.val (.int p1), .val (.int p2), .val (.int p3), .val (.int p4), .val (.int p5), .val (.int (p1 &&& (3 : Int32))), .val (.ref ww), .val (.int (1 : Int32)), .val (.int x169), .val (.int x173), .val (.int x177), .val (.int x181), .val (.ref b184), .val (.ref x255), .unset, .unset, .unset, .unset, .unset, .unset, .unset, .unset, .unset, .unset, .unset, .unset, .unset, .unset, .unset, .unset, .unset, .unset, .unset, .unset] [(.ref x255)])) _
      refine X254.arraylength hx Arc296.1 (State.isArrayOf_alike hZ.alike Arc296.2.1) (g := (mkF m 149 #[.val (.int p1), .val (.int p2), .val (.int p3), .val (.int p4), .val (.int p5), .val (.int (p1 &&& (3 : Int32))), .val (.ref ww), .val (.int (1 : Int32)), .val (.int x169), .val (.int x173), .val (.int x177), .val (.int x181), .val (.ref b184), .val (.ref x255), .unset, .unset, .unset, .unset, .unset, .unset, .unset, .unset, .unset, .unset, .unset, .unset, .unset, .unset, .unset, .unset, .unset, .unset, .unset, .unset] [(.ref x255)])) rfl rfl (hb hby at_149) _ ?_
      rw [show c296.slots.size.toInt32 = (3 : Int32) from (len_of Sc296 Nc296)]
      show Steps p.tables e below (T254.setTop (mkF m 150 #[.val (.int p1), .val (.int p2), .val (.int p3), .val (.int p4), .val (.int p5), .val (.int (p1 &&& (3 : Int32))), .val (.ref ww), .val (.int (1 : Int32)), .val (.int x169), .val (.int x173), .val (.int x177), .val (.int x181), .val (.ref b184), .val (.ref x255), .unset, .unset, .unset, .unset, .unset, .unset, .unset, .unset, .unset, .unset, .unset, .unset, .unset, .unset, .unset, .unset, .unset, .unset, .unset, .unset] [(.int (3 : Int32))])) _
      refine XS.iconst X254.here hx rfl (hb hby at_150) ?_
      show Steps p.tables e below (T254.setTop (mkF m 151 #[.val (.int p1), .val (.int p2), .val (.int p3), .val (.int p4), .val (.int p5), .val (.int (p1 &&& (3 : Int32))), .val (.ref ww), .val (.int (1 : Int32)), .val (.int x169), .val (.int x173), .val (.int x177), .val (.int x181), .val (.ref b184), .val (.ref x255), .unset, .unset, .unset, .unset, .unset, .unset, .unset, .unset, .unset, .unset, .unset, .unset, .unset, .unset, .unset, .unset, .unset, .unset, .unset, .unset] [(.int (3 : Int32)), (.int (3 : Int32))])) _
      refine XS.icmpYes X254.here hx rfl (pc0 := 151) (pc' := 156) rfl (hb hby at_151) rfl (teq (by decide : (3 : Int32) = (3 : Int32))).1 (by decide) (by decide) ?_
      show Steps p.tables e below (T254.setTop (mkF m 156 #[.val (.int p1), .val (.int p2), .val (.int p3), .val (.int p4), .val (.int p5), .val (.int (p1 &&& (3 : Int32))), .val (.ref ww), .val (.int (1 : Int32)), .val (.int x169), .val (.int x173), .val (.int x177), .val (.int x181), .val (.ref b184), .val (.ref x255), .unset, .unset, .unset, .unset, .unset, .unset, .unset, .unset, .unset, .unset, .unset, .unset, .unset, .unset, .unset, .unset, .unset, .unset, .unset, .unset] [])) _
      refine XS.aload X254.here hx rfl (hb hby at_156) rfl rfl ?_
      show Steps p.tables e below (T254.setTop (mkF m 158 #[.val (.int p1), .val (.int p2), .val (.int p3), .val (.int p4), .val (.int p5), .val (.int (p1 &&& (3 : Int32))), .val (.ref ww), .val (.int (1 : Int32)), .val (.int x169), .val (.int x173), .val (.int x177), .val (.int x181), .val (.ref b184), .val (.ref x255), .unset, .unset, .unset, .unset, .unset, .unset, .unset, .unset, .unset, .unset, .unset, .unset, .unset, .unset, .unset, .unset, .unset, .unset, .unset, .unset] [(.ref x255)])) _
      refine XS.iconst X254.here hx rfl (hb hby at_158) ?_
      show Steps p.tables e below (T254.setTop (mkF m 159 #[.val (.int p1), .val (.int p2), .val (.int p3), .val (.int p4), .val (.int p5), .val (.int (p1 &&& (3 : Int32))), .val (.ref ww), .val (.int (1 : Int32)), .val (.int x169), .val (.int x173), .val (.int x177), .val (.int x181), .val (.ref b184), .val (.ref x255), .unset, .unset, .unset, .unset, .unset, .unset, .unset, .unset, .unset, .unset, .unset, .unset, .unset, .unset, .unset, .unset, .unset, .unset, .unset, .unset] [(.int (0 : Int32)), (.ref x255)])) _
      refine X254.iaload hx (j := (0 : Int32)) (v := (.int x257)) Arc297.1 (State.isArrayOf_alike hZ.alike Arc297.2.1) Arc297.2.2 hin298 (Has.at Hc297 hin298 rfl) (g := (mkF m 159 #[.val (.int p1), .val (.int p2), .val (.int p3), .val (.int p4), .val (.int p5), .val (.int (p1 &&& (3 : Int32))), .val (.ref ww), .val (.int (1 : Int32)), .val (.int x169), .val (.int x173), .val (.int x177), .val (.int x181), .val (.ref b184), .val (.ref x255), .unset, .unset, .unset, .unset, .unset, .unset, .unset, .unset, .unset, .unset, .unset, .unset, .unset, .unset, .unset, .unset, .unset, .unset, .unset, .unset] [(.int (0 : Int32)), (.ref x255)])) rfl rfl (hb hby at_159) _ ?_
      show Steps p.tables e below (T254.setTop (mkF m 160 #[.val (.int p1), .val (.int p2), .val (.int p3), .val (.int p4), .val (.int p5), .val (.int (p1 &&& (3 : Int32))), .val (.ref ww), .val (.int (1 : Int32)), .val (.int x169), .val (.int x173), .val (.int x177), .val (.int x181), .val (.ref b184), .val (.ref x255), .unset, .unset, .unset, .unset, .unset, .unset, .unset, .unset, .unset, .unset, .unset, .unset, .unset, .unset, .unset, .unset, .unset, .unset, .unset, .unset] [(.int x257)])) _
      refine XS.istore X254.here hx rfl (hb hby at_160) rfl (l' := #[.val (.int p1), .val (.int p2), .val (.int p3), .val (.int p4), .val (.int p5), .val (.int (p1 &&& (3 : Int32))), .val (.ref ww), .val (.int (1 : Int32)), .val (.int x169), .val (.int x173), .val (.int x177), .val (.int x181), .val (.ref b184), .val (.ref x255), .val (.int x257), .unset, .unset, .unset, .unset, .unset, .unset, .unset, .unset, .unset, .unset, .unset, .unset, .unset, .unset, .unset, .unset, .unset, .unset, .unset]) rfl ?_
      show Steps p.tables e below (T254.setTop (mkF m 162 #[.val (.int p1), .val (.int p2), .val (.int p3), .val (.int p4), .val (.int p5), .val (.int (p1 &&& (3 : Int32))), .val (.ref ww), .val (.int (1 : Int32)), .val (.int x169), .val (.int x173), .val (.int x177), .val (.int x181), .val (.ref b184), .val (.ref x255), .val (.int x257), .unset, .unset, .unset, .unset, .unset, .unset, .unset, .unset, .unset, .unset, .unset, .unset, .unset, .unset, .unset, .unset, .unset, .unset, .unset] [])) _
      refine XS.aload X254.here hx rfl (hb hby at_162) rfl rfl ?_
      show Steps p.tables e below (T254.setTop (mkF m 164 #[.val (.int p1), .val (.int p2), .val (.int p3), .val (.int p4), .val (.int p5), .val (.int (p1 &&& (3 : Int32))), .val (.ref ww), .val (.int (1 : Int32)), .val (.int x169), .val (.int x173), .val (.int x177), .val (.int x181), .val (.ref b184), .val (.ref x255), .val (.int x257), .unset, .unset, .unset, .unset, .unset, .unset, .unset, .unset, .unset, .unset, .unset, .unset, .unset, .unset, .unset, .unset, .unset, .unset, .unset] [(.ref x255)])) _
      refine XS.iconst X254.here hx rfl (hb hby at_164) ?_
      show Steps p.tables e below (T254.setTop (mkF m 165 #[.val (.int p1), .val (.int p2), .val (.int p3), .val (.int p4), .val (.int p5), .val (.int (p1 &&& (3 : Int32))), .val (.ref ww), .val (.int (1 : Int32)), .val (.int x169), .val (.int x173), .val (.int x177), .val (.int x181), .val (.ref b184), .val (.ref x255), .val (.int x257), .unset, .unset, .unset, .unset, .unset, .unset, .unset, .unset, .unset, .unset, .unset, .unset, .unset, .unset, .unset, .unset, .unset, .unset, .unset] [(.int (1 : Int32)), (.ref x255)])) _
      refine X254.iaload hx (j := (1 : Int32)) (v := (.int x258)) Arc299.1 (State.isArrayOf_alike hZ.alike Arc299.2.1) Arc299.2.2 hin300 (Has.at Hc299 hin300 rfl) (g := (mkF m 165 #[.val (.int p1), .val (.int p2), .val (.int p3), .val (.int p4), .val (.int p5), .val (.int (p1 &&& (3 : Int32))), .val (.ref ww), .val (.int (1 : Int32)), .val (.int x169), .val (.int x173), .val (.int x177), .val (.int x181), .val (.ref b184), .val (.ref x255), .val (.int x257), .unset, .unset, .unset, .unset, .unset, .unset, .unset, .unset, .unset, .unset, .unset, .unset, .unset, .unset, .unset, .unset, .unset, .unset, .unset] [(.int (1 : Int32)), (.ref x255)])) rfl rfl (hb hby at_165) _ ?_
      show Steps p.tables e below (T254.setTop (mkF m 166 #[.val (.int p1), .val (.int p2), .val (.int p3), .val (.int p4), .val (.int p5), .val (.int (p1 &&& (3 : Int32))), .val (.ref ww), .val (.int (1 : Int32)), .val (.int x169), .val (.int x173), .val (.int x177), .val (.int x181), .val (.ref b184), .val (.ref x255), .val (.int x257), .unset, .unset, .unset, .unset, .unset, .unset, .unset, .unset, .unset, .unset, .unset, .unset, .unset, .unset, .unset, .unset, .unset, .unset, .unset] [(.int x258)])) _
      refine XS.istore X254.here hx rfl (hb hby at_166) rfl (l' := #[.val (.int p1), .val (.int p2), .val (.int p3), .val (.int p4), .val (.int p5), .val (.int (p1 &&& (3 : Int32))), .val (.ref ww), .val (.int (1 : Int32)), .val (.int x169), .val (.int x173), .val (.int x177), .val (.int x181), .val (.ref b184), .val (.ref x255), .val (.int x257), .val (.int x258), .unset, .unset, .unset, .unset, .unset, .unset, .unset, .unset, .unset, .unset, .unset, .unset, .unset, .unset, .unset, .unset, .unset, .unset]) rfl ?_
      show Steps p.tables e below (T254.setTop (mkF m 168 #[.val (.int p1), .val (.int p2), .val (.int p3), .val (.int p4), .val (.int p5), .val (.int (p1 &&& (3 : Int32))), .val (.ref ww), .val (.int (1 : Int32)), .val (.int x169), .val (.int x173), .val (.int x177), .val (.int x181), .val (.ref b184), .val (.ref x255), .val (.int x257), .val (.int x258), .unset, .unset, .unset, .unset, .unset, .unset, .unset, .unset, .unset, .unset, .unset, .unset, .unset, .unset, .unset, .unset, .unset, .unset] [])) _
      refine XS.aload X254.here hx rfl (hb hby at_168) rfl rfl ?_
      show Steps p.tables e below (T254.setTop (mkF m 170 #[.val (.int p1), .val (.int p2), .val (.int p3), .val (.int p4), .val (.int p5), .val (.int (p1 &&& (3 : Int32))), .val (.ref ww), .val (.int (1 : Int32)), .val (.int x169), .val (.int x173), .val (.int x177), .val (.int x181), .val (.ref b184), .val (.ref x255), .val (.int x257), .val (.int x258), .unset, .unset, .unset, .unset, .unset, .unset, .unset, .unset, .unset, .unset, .unset, .unset, .unset, .unset, .unset, .unset, .unset, .unset] [(.ref x255)])) _
      refine XS.iconst X254.here hx rfl (hb hby at_170) ?_
      show Steps p.tables e below (T254.setTop (mkF m 171 #[.val (.int p1), .val (.int p2), .val (.int p3), .val (.int p4), .val (.int p5), .val (.int (p1 &&& (3 : Int32))), .val (.ref ww), .val (.int (1 : Int32)), .val (.int x169), .val (.int x173), .val (.int x177), .val (.int x181), .val (.ref b184), .val (.ref x255), .val (.int x257), .val (.int x258), .unset, .unset, .unset, .unset, .unset, .unset, .unset, .unset, .unset, .unset, .unset, .unset, .unset, .unset, .unset, .unset, .unset, .unset] [(.int (2 : Int32)), (.ref x255)])) _
      refine X254.iaload hx (j := (2 : Int32)) (v := (.int x259)) Arc301.1 (State.isArrayOf_alike hZ.alike Arc301.2.1) Arc301.2.2 hin302 (Has.at Hc301 hin302 rfl) (g := (mkF m 171 #[.val (.int p1), .val (.int p2), .val (.int p3), .val (.int p4), .val (.int p5), .val (.int (p1 &&& (3 : Int32))), .val (.ref ww), .val (.int (1 : Int32)), .val (.int x169), .val (.int x173), .val (.int x177), .val (.int x181), .val (.ref b184), .val (.ref x255), .val (.int x257), .val (.int x258), .unset, .unset, .unset, .unset, .unset, .unset, .unset, .unset, .unset, .unset, .unset, .unset, .unset, .unset, .unset, .unset, .unset, .unset] [(.int (2 : Int32)), (.ref x255)])) rfl rfl (hb hby at_171) _ ?_
      show Steps p.tables e below (T254.setTop (mkF m 172 #[.val (.int p1), .val (.int p2), .val (.int p3), .val (.int p4), .val (.int p5), .val (.int (p1 &&& (3 : Int32))), .val (.ref ww), .val (.int (1 : Int32)), .val (.int x169), .val (.int x173), .val (.int x177), .val (.int x181), .val (.ref b184), .val (.ref x255), .val (.int x257), .val (.int x258), .unset, .unset, .unset, .unset, .unset, .unset, .unset, .unset, .unset, .unset, .unset, .unset, .unset, .unset, .unset, .unset, .unset, .unset] [(.int x259)])) _
      refine XS.istore X254.here hx rfl (hb hby at_172) rfl (l' := #[.val (.int p1), .val (.int p2), .val (.int p3), .val (.int p4), .val (.int p5), .val (.int (p1 &&& (3 : Int32))), .val (.ref ww), .val (.int (1 : Int32)), .val (.int x169), .val (.int x173), .val (.int x177), .val (.int x181), .val (.ref b184), .val (.ref x255), .val (.int x257), .val (.int x258), .val (.int x259), .unset, .unset, .unset, .unset, .unset, .unset, .unset, .unset, .unset, .unset, .unset, .unset, .unset, .unset, .unset, .unset, .unset]) rfl ?_
      show Steps p.tables e below (T254.setTop (mkF m 174 #[.val (.int p1), .val (.int p2), .val (.int p3), .val (.int p4), .val (.int p5), .val (.int (p1 &&& (3 : Int32))), .val (.ref ww), .val (.int (1 : Int32)), .val (.int x169), .val (.int x173), .val (.int x177), .val (.int x181), .val (.ref b184), .val (.ref x255), .val (.int x257), .val (.int x258), .val (.int x259), .unset, .unset, .unset, .unset, .unset, .unset, .unset, .unset, .unset, .unset, .unset, .unset, .unset, .unset, .unset, .unset, .unset] [])) _
      refine XS.iload X254.here hx rfl (hb hby at_174) rfl ?_
      show Steps p.tables e below (T254.setTop (mkF m 176 #[.val (.int p1), .val (.int p2), .val (.int p3), .val (.int p4), .val (.int p5), .val (.int (p1 &&& (3 : Int32))), .val (.ref ww), .val (.int (1 : Int32)), .val (.int x169), .val (.int x173), .val (.int x177), .val (.int x181), .val (.ref b184), .val (.ref x255), .val (.int x257), .val (.int x258), .val (.int x259), .unset, .unset, .unset, .unset, .unset, .unset, .unset, .unset, .unset, .unset, .unset, .unset, .unset, .unset, .unset, .unset, .unset] [(.int x173)])) _
      refine XS.i2l X254.here hx rfl (hb hby at_176) rfl ?_
      show Steps p.tables e below (T254.setTop (mkF m 177 #[.val (.int p1), .val (.int p2), .val (.int p3), .val (.int p4), .val (.int p5), .val (.int (p1 &&& (3 : Int32))), .val (.ref ww), .val (.int (1 : Int32)), .val (.int x169), .val (.int x173), .val (.int x177), .val (.int x181), .val (.ref b184), .val (.ref x255), .val (.int x257), .val (.int x258), .val (.int x259), .unset, .unset, .unset, .unset, .unset, .unset, .unset, .unset, .unset, .unset, .unset, .unset, .unset, .unset, .unset, .unset, .unset] [(.long (x173.toInt64))])) _
      refine XS.iload X254.here hx rfl (hb hby at_177) rfl ?_
      show Steps p.tables e below (T254.setTop (mkF m 179 #[.val (.int p1), .val (.int p2), .val (.int p3), .val (.int p4), .val (.int p5), .val (.int (p1 &&& (3 : Int32))), .val (.ref ww), .val (.int (1 : Int32)), .val (.int x169), .val (.int x173), .val (.int x177), .val (.int x181), .val (.ref b184), .val (.ref x255), .val (.int x257), .val (.int x258), .val (.int x259), .unset, .unset, .unset, .unset, .unset, .unset, .unset, .unset, .unset, .unset, .unset, .unset, .unset, .unset, .unset, .unset, .unset] [(.int x177), (.long (x173.toInt64))])) _
      refine XS.i2l X254.here hx rfl (hb hby at_179) rfl ?_
      show Steps p.tables e below (T254.setTop (mkF m 180 #[.val (.int p1), .val (.int p2), .val (.int p3), .val (.int p4), .val (.int p5), .val (.int (p1 &&& (3 : Int32))), .val (.ref ww), .val (.int (1 : Int32)), .val (.int x169), .val (.int x173), .val (.int x177), .val (.int x181), .val (.ref b184), .val (.ref x255), .val (.int x257), .val (.int x258), .val (.int x259), .unset, .unset, .unset, .unset, .unset, .unset, .unset, .unset, .unset, .unset, .unset, .unset, .unset, .unset, .unset, .unset, .unset] [(.long (x177.toInt64)), (.long (x173.toInt64))])) _
      refine XS.ladd X254.here hx rfl (hb hby at_180) rfl ?_
      show Steps p.tables e below (T254.setTop (mkF m 181 #[.val (.int p1), .val (.int p2), .val (.int p3), .val (.int p4), .val (.int p5), .val (.int (p1 &&& (3 : Int32))), .val (.ref ww), .val (.int (1 : Int32)), .val (.int x169), .val (.int x173), .val (.int x177), .val (.int x181), .val (.ref b184), .val (.ref x255), .val (.int x257), .val (.int x258), .val (.int x259), .unset, .unset, .unset, .unset, .unset, .unset, .unset, .unset, .unset, .unset, .unset, .unset, .unset, .unset, .unset, .unset, .unset] [(.long ((x173.toInt64) + (x177.toInt64)))])) _
      refine XS.iload X254.here hx rfl (hb hby at_181) rfl ?_
      show Steps p.tables e below (T254.setTop (mkF m 183 #[.val (.int p1), .val (.int p2), .val (.int p3), .val (.int p4), .val (.int p5), .val (.int (p1 &&& (3 : Int32))), .val (.ref ww), .val (.int (1 : Int32)), .val (.int x169), .val (.int x173), .val (.int x177), .val (.int x181), .val (.ref b184), .val (.ref x255), .val (.int x257), .val (.int x258), .val (.int x259), .unset, .unset, .unset, .unset, .unset, .unset, .unset, .unset, .unset, .unset, .unset, .unset, .unset, .unset, .unset, .unset, .unset] [(.int x181), (.long ((x173.toInt64) + (x177.toInt64)))])) _
      refine XS.i2l X254.here hx rfl (hb hby at_183) rfl ?_
      show Steps p.tables e below (T254.setTop (mkF m 184 #[.val (.int p1), .val (.int p2), .val (.int p3), .val (.int p4), .val (.int p5), .val (.int (p1 &&& (3 : Int32))), .val (.ref ww), .val (.int (1 : Int32)), .val (.int x169), .val (.int x173), .val (.int x177), .val (.int x181), .val (.ref b184), .val (.ref x255), .val (.int x257), .val (.int x258), .val (.int x259), .unset, .unset, .unset, .unset, .unset, .unset, .unset, .unset, .unset, .unset, .unset, .unset, .unset, .unset, .unset, .unset, .unset] [(.long (x181.toInt64)), (.long ((x173.toInt64) + (x177.toInt64)))])) _
      refine XS.ladd X254.here hx rfl (hb hby at_184) rfl ?_
      show Steps p.tables e below (T254.setTop (mkF m 185 #[.val (.int p1), .val (.int p2), .val (.int p3), .val (.int p4), .val (.int p5), .val (.int (p1 &&& (3 : Int32))), .val (.ref ww), .val (.int (1 : Int32)), .val (.int x169), .val (.int x173), .val (.int x177), .val (.int x181), .val (.ref b184), .val (.ref x255), .val (.int x257), .val (.int x258), .val (.int x259), .unset, .unset, .unset, .unset, .unset, .unset, .unset, .unset, .unset, .unset, .unset, .unset, .unset, .unset, .unset, .unset, .unset] [(.long (((x173.toInt64) + (x177.toInt64)) + (x181.toInt64)))])) _
      exact k)
    obtain ⟨tot304, h_tot304⟩ : ∃ z : Int64, z = (((x173.toInt64) + (x177.toInt64)) + (x181.toInt64)) := ⟨_, rfl⟩
    have pre305 := fun (t : State) (k : Steps p.tables e below (T254.setTop (mkF m 185 #[.val (.int p1), .val (.int p2), .val (.int p3), .val (.int p4), .val (.int p5), .val (.int (p1 &&& (3 : Int32))), .val (.ref ww), .val (.int (1 : Int32)), .val (.int x169), .val (.int x173), .val (.int x177), .val (.int x181), .val (.ref b184), .val (.ref x255), .val (.int x257), .val (.int x258), .val (.int x259), .unset, .unset, .unset, .unset, .unset, .unset, .unset, .unset, .unset, .unset, .unset, .unset, .unset, .unset, .unset, .unset, .unset] [(.long tot304)])) t) => pre303 t (by rw [← h_tot304]; exact k)
    have pre306 := fun (t : State) (k : Steps p.tables e below (T254.setTop (mkF m 198 #[.val (.int p1), .val (.int p2), .val (.int p3), .val (.int p4), .val (.int p5), .val (.int (p1 &&& (3 : Int32))), .val (.ref ww), .val (.int (1 : Int32)), .val (.int x169), .val (.int x173), .val (.int x177), .val (.int x181), .val (.ref b184), .val (.ref x255), .val (.int x257), .val (.int x258), .val (.int x259), .val (.long tot304), .second, .unset, .unset, .unset, .unset, .unset, .unset, .unset, .unset, .unset, .unset, .unset, .unset, .unset, .unset, .unset] [(.long (((x257.toInt64) + (x258.toInt64)) + (x259.toInt64)))])) t) => pre305 t (by
      refine XS.lstore X254.here hx rfl (hb hby at_185) rfl (l' := #[.val (.int p1), .val (.int p2), .val (.int p3), .val (.int p4), .val (.int p5), .val (.int (p1 &&& (3 : Int32))), .val (.ref ww), .val (.int (1 : Int32)), .val (.int x169), .val (.int x173), .val (.int x177), .val (.int x181), .val (.ref b184), .val (.ref x255), .val (.int x257), .val (.int x258), .val (.int x259), .val (.long tot304), .second, .unset, .unset, .unset, .unset, .unset, .unset, .unset, .unset, .unset, .unset, .unset, .unset, .unset, .unset, .unset]) rfl ?_
      show Steps p.tables e below (T254.setTop (mkF m 187 #[.val (.int p1), .val (.int p2), .val (.int p3), .val (.int p4), .val (.int p5), .val (.int (p1 &&& (3 : Int32))), .val (.ref ww), .val (.int (1 : Int32)), .val (.int x169), .val (.int x173), .val (.int x177), .val (.int x181), .val (.ref b184), .val (.ref x255), .val (.int x257), .val (.int x258), .val (.int x259), .val (.long tot304), .second, .unset, .unset, .unset, .unset, .unset, .unset, .unset, .unset, .unset, .unset, .unset, .unset, .unset, .unset, .unset] [])) _
      refine XS.iload X254.here hx rfl (hb hby at_187) rfl ?_
      show Steps p.tables e below (T254.setTop (mkF m 189 #[.val (.int p1), .val (.int p2), .val (.int p3), .val (.int p4), .val (.int p5), .val (.int (p1 &&& (3 : Int32))), .val (.ref ww), .val (.int (1 : Int32)), .val (.int x169), .val (.int x173), .val (.int x177), .val (.int x181), .val (.ref b184), .val (.ref x255), .val (.int x257), .val (.int x258), .val (.int x259), .val (.long tot304), .second, .unset, .unset, .unset, .unset, .unset, .unset, .unset, .unset, .unset, .unset, .unset, .unset, .unset, .unset, .unset] [(.int x257)])) _
      refine XS.i2l X254.here hx rfl (hb hby at_189) rfl ?_
      show Steps p.tables e below (T254.setTop (mkF m 190 #[.val (.int p1), .val (.int p2), .val (.int p3), .val (.int p4), .val (.int p5), .val (.int (p1 &&& (3 : Int32))), .val (.ref ww), .val (.int (1 : Int32)), .val (.int x169), .val (.int x173), .val (.int x177), .val (.int x181), .val (.ref b184), .val (.ref x255), .val (.int x257), .val (.int x258), .val (.int x259), .val (.long tot304), .second, .unset, .unset, .unset, .unset, .unset, .unset, .unset, .unset, .unset, .unset, .unset, .unset, .unset, .unset, .unset] [(.long (x257.toInt64))])) _
      refine XS.iload X254.here hx rfl (hb hby at_190) rfl ?_
      show Steps p.tables e below (T254.setTop (mkF m 192 #[.val (.int p1), .val (.int p2), .val (.int p3), .val (.int p4), .val (.int p5), .val (.int (p1 &&& (3 : Int32))), .val (.ref ww), .val (.int (1 : Int32)), .val (.int x169), .val (.int x173), .val (.int x177), .val (.int x181), .val (.ref b184), .val (.ref x255), .val (.int x257), .val (.int x258), .val (.int x259), .val (.long tot304), .second, .unset, .unset, .unset, .unset, .unset, .unset, .unset, .unset, .unset, .unset, .unset, .unset, .unset, .unset, .unset] [(.int x258), (.long (x257.toInt64))])) _
      refine XS.i2l X254.here hx rfl (hb hby at_192) rfl ?_
      show Steps p.tables e below (T254.setTop (mkF m 193 #[.val (.int p1), .val (.int p2), .val (.int p3), .val (.int p4), .val (.int p5), .val (.int (p1 &&& (3 : Int32))), .val (.ref ww), .val (.int (1 : Int32)), .val (.int x169), .val (.int x173), .val (.int x177), .val (.int x181), .val (.ref b184), .val (.ref x255), .val (.int x257), .val (.int x258), .val (.int x259), .val (.long tot304), .second, .unset, .unset, .unset, .unset, .unset, .unset, .unset, .unset, .unset, .unset, .unset, .unset, .unset, .unset, .unset] [(.long (x258.toInt64)), (.long (x257.toInt64))])) _
      refine XS.ladd X254.here hx rfl (hb hby at_193) rfl ?_
      show Steps p.tables e below (T254.setTop (mkF m 194 #[.val (.int p1), .val (.int p2), .val (.int p3), .val (.int p4), .val (.int p5), .val (.int (p1 &&& (3 : Int32))), .val (.ref ww), .val (.int (1 : Int32)), .val (.int x169), .val (.int x173), .val (.int x177), .val (.int x181), .val (.ref b184), .val (.ref x255), .val (.int x257), .val (.int x258), .val (.int x259), .val (.long tot304), .second, .unset, .unset, .unset, .unset, .unset, .unset, .unset, .unset, .unset, .unset, .unset, .unset, .unset, .unset, .unset] [(.long ((x257.toInt64) + (x258.toInt64)))])) _
      refine XS.iload X254.here hx rfl (hb hby at_194) rfl ?_
      show Steps p.tables e below (T254.setTop (mkF m 196 #[.val (.int p1), .val (.int p2), .val (.int p3), .val (.int p4), .val (.int p5), .val (.int (p1 &&& (3 : Int32))), .val (.ref ww), .val (.int (1 : Int32)), .val (.int x169), .val (.int x173), .val (.int x177), .val (.int x181), .val (.ref b184), .val (.ref x255), .val (.int x257), .val (.int x258), .val (.int x259), .val (.long tot304), .second, .unset, .unset, .unset, .unset, .unset, .unset, .unset, .unset, .unset, .unset, .unset, .unset, .unset, .unset, .unset] [(.int x259), (.long ((x257.toInt64) + (x258.toInt64)))])) _
      refine XS.i2l X254.here hx rfl (hb hby at_196) rfl ?_
      show Steps p.tables e below (T254.setTop (mkF m 197 #[.val (.int p1), .val (.int p2), .val (.int p3), .val (.int p4), .val (.int p5), .val (.int (p1 &&& (3 : Int32))), .val (.ref ww), .val (.int (1 : Int32)), .val (.int x169), .val (.int x173), .val (.int x177), .val (.int x181), .val (.ref b184), .val (.ref x255), .val (.int x257), .val (.int x258), .val (.int x259), .val (.long tot304), .second, .unset, .unset, .unset, .unset, .unset, .unset, .unset, .unset, .unset, .unset, .unset, .unset, .unset, .unset, .unset] [(.long (x259.toInt64)), (.long ((x257.toInt64) + (x258.toInt64)))])) _
      refine XS.ladd X254.here hx rfl (hb hby at_197) rfl ?_
      show Steps p.tables e below (T254.setTop (mkF m 198 #[.val (.int p1), .val (.int p2), .val (.int p3), .val (.int p4), .val (.int p5), .val (.int (p1 &&& (3 : Int32))), .val (.ref ww), .val (.int (1 : Int32)), .val (.int x169), .val (.int x173), .val (.int x177), .val (.int x181), .val (.ref b184), .val (.ref x255), .val (.int x257), .val (.int x258), .val (.int x259), .val (.long tot304), .second, .unset, .unset, .unset, .unset, .unset, .unset, .unset, .unset, .unset, .unset, .unset, .unset, .unset, .unset, .unset] [(.long (((x257.toInt64) + (x258.toInt64)) + (x259.toInt64)))])) _
      exact k)
    obtain ⟨sum307, h_sum307⟩ : ∃ z : Int64, z = (((x257.toInt64) + (x258.toInt64)) + (x259.toInt64)) := ⟨_, rfl⟩
    have pre308 := fun (t : State) (k : Steps p.tables e below (T254.setTop (mkF m 198 #[.val (.int p1), .val (.int p2), .val (.int p3), .val (.int p4), .val (.int p5), .val (.int (p1 &&& (3 : Int32))), .val (.ref ww), .val (.int (1 : Int32)), .val (.int x169), .val (.int x173), .val (.int x177), .val (.int x181), .val (.ref b184), .val (.ref x255), .val (.int x257), .val (.int x258), .val (.int x259), .val (.long tot304), .second, .unset, .unset, .unset, .unset, .unset, .unset, .unset, .unset, .unset, .unset, .unset, .unset, .unset, .unset, .unset] [(.long sum307)])) t) => pre306 t (by rw [← h_sum307]; exact k)
    have pre309 := fun (t : State) (k : Steps p.tables e below (T254.setTop (mkF m 303 #[.val (.int p1), .val (.int p2), .val (.int p3), .val (.int p4), .val (.int p5), .val (.int (p1 &&& (3 : Int32))), .val (.ref ww), .val (.int (1 : Int32)), .val (.int x169), .val (.int x173), .val (.int x177), .val (.int x181), .val (.ref b184), .val (.ref x255), .val (.int x257), .val (.int x258), .val (.int x259), .val (.long tot304), .second, .val (.long sum307), .second, .val (.int (1 : Int32)), .unset, .unset, .unset, .unset, .unset, .unset, .unset, .unset, .unset, .unset, .unset, .unset] [(.int (lcmpW (x169.toInt64) tot304))])) t) => pre308 t (by
      refine XS.lstore X254.here hx rfl (hb hby at_198) rfl (l' := #[.val (.int p1), .val (.int p2), .val (.int p3), .val (.int p4), .val (.int p5), .val (.int (p1 &&& (3 : Int32))), .val (.ref ww), .val (.int (1 : Int32)), .val (.int x169), .val (.int x173), .val (.int x177), .val (.int x181), .val (.ref b184), .val (.ref x255), .val (.int x257), .val (.int x258), .val (.int x259), .val (.long tot304), .second, .val (.long sum307), .second, .unset, .unset, .unset, .unset, .unset, .unset, .unset, .unset, .unset, .unset, .unset, .unset, .unset]) rfl ?_
      show Steps p.tables e below (T254.setTop (mkF m 200 #[.val (.int p1), .val (.int p2), .val (.int p3), .val (.int p4), .val (.int p5), .val (.int (p1 &&& (3 : Int32))), .val (.ref ww), .val (.int (1 : Int32)), .val (.int x169), .val (.int x173), .val (.int x177), .val (.int x181), .val (.ref b184), .val (.ref x255), .val (.int x257), .val (.int x258), .val (.int x259), .val (.long tot304), .second, .val (.long sum307), .second, .unset, .unset, .unset, .unset, .unset, .unset, .unset, .unset, .unset, .unset, .unset, .unset, .unset] [])) _
      refine XS.iload X254.here hx rfl (hb hby at_200) rfl ?_
      show Steps p.tables e below (T254.setTop (mkF m 202 #[.val (.int p1), .val (.int p2), .val (.int p3), .val (.int p4), .val (.int p5), .val (.int (p1 &&& (3 : Int32))), .val (.ref ww), .val (.int (1 : Int32)), .val (.int x169), .val (.int x173), .val (.int x177), .val (.int x181), .val (.ref b184), .val (.ref x255), .val (.int x257), .val (.int x258), .val (.int x259), .val (.long tot304), .second, .val (.long sum307), .second, .unset, .unset, .unset, .unset, .unset, .unset, .unset, .unset, .unset, .unset, .unset, .unset, .unset] [(.int x257)])) _
      refine XS.ifNo X254.here hx rfl (hb hby at_202) rfl ((if0 _ _).trans (flt LF295.1).1) ?_
      show Steps p.tables e below (T254.setTop (mkF m 205 #[.val (.int p1), .val (.int p2), .val (.int p3), .val (.int p4), .val (.int p5), .val (.int (p1 &&& (3 : Int32))), .val (.ref ww), .val (.int (1 : Int32)), .val (.int x169), .val (.int x173), .val (.int x177), .val (.int x181), .val (.ref b184), .val (.ref x255), .val (.int x257), .val (.int x258), .val (.int x259), .val (.long tot304), .second, .val (.long sum307), .second, .unset, .unset, .unset, .unset, .unset, .unset, .unset, .unset, .unset, .unset, .unset, .unset, .unset] [])) _
      refine XS.iload X254.here hx rfl (hb hby at_205) rfl ?_
      show Steps p.tables e below (T254.setTop (mkF m 207 #[.val (.int p1), .val (.int p2), .val (.int p3), .val (.int p4), .val (.int p5), .val (.int (p1 &&& (3 : Int32))), .val (.ref ww), .val (.int (1 : Int32)), .val (.int x169), .val (.int x173), .val (.int x177), .val (.int x181), .val (.ref b184), .val (.ref x255), .val (.int x257), .val (.int x258), .val (.int x259), .val (.long tot304), .second, .val (.long sum307), .second, .unset, .unset, .unset, .unset, .unset, .unset, .unset, .unset, .unset, .unset, .unset, .unset, .unset] [(.int x257)])) _
      refine XS.iload X254.here hx rfl (hb hby at_207) rfl ?_
      show Steps p.tables e below (T254.setTop (mkF m 209 #[.val (.int p1), .val (.int p2), .val (.int p3), .val (.int p4), .val (.int p5), .val (.int (p1 &&& (3 : Int32))), .val (.ref ww), .val (.int (1 : Int32)), .val (.int x169), .val (.int x173), .val (.int x177), .val (.int x181), .val (.ref b184), .val (.ref x255), .val (.int x257), .val (.int x258), .val (.int x259), .val (.long tot304), .second, .val (.long sum307), .second, .unset, .unset, .unset, .unset, .unset, .unset, .unset, .unset, .unset, .unset, .unset, .unset, .unset] [(.int x173), (.int x257)])) _
      refine XS.icmpNo X254.here hx rfl (hb hby at_209) rfl (flt LF295.2.1).2.2.1 ?_
      show Steps p.tables e below (T254.setTop (mkF m 212 #[.val (.int p1), .val (.int p2), .val (.int p3), .val (.int p4), .val (.int p5), .val (.int (p1 &&& (3 : Int32))), .val (.ref ww), .val (.int (1 : Int32)), .val (.int x169), .val (.int x173), .val (.int x177), .val (.int x181), .val (.ref b184), .val (.ref x255), .val (.int x257), .val (.int x258), .val (.int x259), .val (.long tot304), .second, .val (.long sum307), .second, .unset, .unset, .unset, .unset, .unset, .unset, .unset, .unset, .unset, .unset, .unset, .unset, .unset] [])) _
      refine XS.iload X254.here hx rfl (hb hby at_212) rfl ?_
      show Steps p.tables e below (T254.setTop (mkF m 214 #[.val (.int p1), .val (.int p2), .val (.int p3), .val (.int p4), .val (.int p5), .val (.int (p1 &&& (3 : Int32))), .val (.ref ww), .val (.int (1 : Int32)), .val (.int x169), .val (.int x173), .val (.int x177), .val (.int x181), .val (.ref b184), .val (.ref x255), .val (.int x257), .val (.int x258), .val (.int x259), .val (.long tot304), .second, .val (.long sum307), .second, .unset, .unset, .unset, .unset, .unset, .unset, .unset, .unset, .unset, .unset, .unset, .unset, .unset] [(.int x258)])) _
      refine XS.ifNo X254.here hx rfl (hb hby at_214) rfl ((if0 _ _).trans (flt LF295.2.2.1).1) ?_
      show Steps p.tables e below (T254.setTop (mkF m 217 #[.val (.int p1), .val (.int p2), .val (.int p3), .val (.int p4), .val (.int p5), .val (.int (p1 &&& (3 : Int32))), .val (.ref ww), .val (.int (1 : Int32)), .val (.int x169), .val (.int x173), .val (.int x177), .val (.int x181), .val (.ref b184), .val (.ref x255), .val (.int x257), .val (.int x258), .val (.int x259), .val (.long tot304), .second, .val (.long sum307), .second, .unset, .unset, .unset, .unset, .unset, .unset, .unset, .unset, .unset, .unset, .unset, .unset, .unset] [])) _
      refine XS.iload X254.here hx rfl (hb hby at_217) rfl ?_
      show Steps p.tables e below (T254.setTop (mkF m 219 #[.val (.int p1), .val (.int p2), .val (.int p3), .val (.int p4), .val (.int p5), .val (.int (p1 &&& (3 : Int32))), .val (.ref ww), .val (.int (1 : Int32)), .val (.int x169), .val (.int x173), .val (.int x177), .val (.int x181), .val (.ref b184), .val (.ref x255), .val (.int x257), .val (.int x258), .val (.int x259), .val (.long tot304), .second, .val (.long sum307), .second, .unset, .unset, .unset, .unset, .unset, .unset, .unset, .unset, .unset, .unset, .unset, .unset, .unset] [(.int x258)])) _
      refine XS.iload X254.here hx rfl (hb hby at_219) rfl ?_
      show Steps p.tables e below (T254.setTop (mkF m 221 #[.val (.int p1), .val (.int p2), .val (.int p3), .val (.int p4), .val (.int p5), .val (.int (p1 &&& (3 : Int32))), .val (.ref ww), .val (.int (1 : Int32)), .val (.int x169), .val (.int x173), .val (.int x177), .val (.int x181), .val (.ref b184), .val (.ref x255), .val (.int x257), .val (.int x258), .val (.int x259), .val (.long tot304), .second, .val (.long sum307), .second, .unset, .unset, .unset, .unset, .unset, .unset, .unset, .unset, .unset, .unset, .unset, .unset, .unset] [(.int x177), (.int x258)])) _
      refine XS.icmpNo X254.here hx rfl (hb hby at_221) rfl (flt LF295.2.2.2.1).2.2.1 ?_
      show Steps p.tables e below (T254.setTop (mkF m 224 #[.val (.int p1), .val (.int p2), .val (.int p3), .val (.int p4), .val (.int p5), .val (.int (p1 &&& (3 : Int32))), .val (.ref ww), .val (.int (1 : Int32)), .val (.int x169), .val (.int x173), .val (.int x177), .val (.int x181), .val (.ref b184), .val (.ref x255), .val (.int x257), .val (.int x258), .val (.int x259), .val (.long tot304), .second, .val (.long sum307), .second, .unset, .unset, .unset, .unset, .unset, .unset, .unset, .unset, .unset, .unset, .unset, .unset, .unset] [])) _
      refine XS.iload X254.here hx rfl (hb hby at_224) rfl ?_
      show Steps p.tables e below (T254.setTop (mkF m 226 #[.val (.int p1), .val (.int p2), .val (.int p3), .val (.int p4), .val (.int p5), .val (.int (p1 &&& (3 : Int32))), .val (.ref ww), .val (.int (1 : Int32)), .val (.int x169), .val (.int x173), .val (.int x177), .val (.int x181), .val (.ref b184), .val (.ref x255), .val (.int x257), .val (.int x258), .val (.int x259), .val (.long tot304), .second, .val (.long sum307), .second, .unset, .unset, .unset, .unset, .unset, .unset, .unset, .unset, .unset, .unset, .unset, .unset, .unset] [(.int x259)])) _
      refine XS.ifNo X254.here hx rfl (hb hby at_226) rfl ((if0 _ _).trans (flt LF295.2.2.2.2.1).1) ?_
      show Steps p.tables e below (T254.setTop (mkF m 229 #[.val (.int p1), .val (.int p2), .val (.int p3), .val (.int p4), .val (.int p5), .val (.int (p1 &&& (3 : Int32))), .val (.ref ww), .val (.int (1 : Int32)), .val (.int x169), .val (.int x173), .val (.int x177), .val (.int x181), .val (.ref b184), .val (.ref x255), .val (.int x257), .val (.int x258), .val (.int x259), .val (.long tot304), .second, .val (.long sum307), .second, .unset, .unset, .unset, .unset, .unset, .unset, .unset, .unset, .unset, .unset, .unset, .unset, .unset] [])) _
      refine XS.iload X254.here hx rfl (hb hby at_229) rfl ?_
      show Steps p.tables e below (T254.setTop (mkF m 231 #[.val (.int p1), .val (.int p2), .val (.int p3), .val (.int p4), .val (.int p5), .val (.int (p1 &&& (3 : Int32))), .val (.ref ww), .val (.int (1 : Int32)), .val (.int x169), .val (.int x173), .val (.int x177), .val (.int x181), .val (.ref b184), .val (.ref x255), .val (.int x257), .val (.int x258), .val (.int x259), .val (.long tot304), .second, .val (.long sum307), .second, .unset, .unset, .unset, .unset, .unset, .unset, .unset, .unset, .unset, .unset, .unset, .unset, .unset] [(.int x259)])) _
      refine XS.iload X254.here hx rfl (hb hby at_231) rfl ?_
      show Steps p.tables e below (T254.setTop (mkF m 233 #[.val (.int p1), .val (.int p2), .val (.int p3), .val (.int p4), .val (.int p5), .val (.int (p1 &&& (3 : Int32))), .val (.ref ww), .val (.int (1 : Int32)), .val (.int x169), .val (.int x173), .val (.int x177), .val (.int x181), .val (.ref b184), .val (.ref x255), .val (.int x257), .val (.int x258), .val (.int x259), .val (.long tot304), .second, .val (.long sum307), .second, .unset, .unset, .unset, .unset, .unset, .unset, .unset, .unset, .unset, .unset, .unset, .unset, .unset] [(.int x181), (.int x259)])) _
      refine XS.icmpNo X254.here hx rfl (hb hby at_233) rfl (flt LF295.2.2.2.2.2).2.2.1 ?_
      show Steps p.tables e below (T254.setTop (mkF m 236 #[.val (.int p1), .val (.int p2), .val (.int p3), .val (.int p4), .val (.int p5), .val (.int (p1 &&& (3 : Int32))), .val (.ref ww), .val (.int (1 : Int32)), .val (.int x169), .val (.int x173), .val (.int x177), .val (.int x181), .val (.ref b184), .val (.ref x255), .val (.int x257), .val (.int x258), .val (.int x259), .val (.long tot304), .second, .val (.long sum307), .second, .unset, .unset, .unset, .unset, .unset, .unset, .unset, .unset, .unset, .unset, .unset, .unset, .unset] [])) _
      refine XS.iconst X254.here hx rfl (hb hby at_236) ?_
      show Steps p.tables e below (T254.setTop (mkF m 237 #[.val (.int p1), .val (.int p2), .val (.int p3), .val (.int p4), .val (.int p5), .val (.int (p1 &&& (3 : Int32))), .val (.ref ww), .val (.int (1 : Int32)), .val (.int x169), .val (.int x173), .val (.int x177), .val (.int x181), .val (.ref b184), .val (.ref x255), .val (.int x257), .val (.int x258), .val (.int x259), .val (.long tot304), .second, .val (.long sum307), .second, .unset, .unset, .unset, .unset, .unset, .unset, .unset, .unset, .unset, .unset, .unset, .unset, .unset] [(.int (1 : Int32))])) _
      refine XS.goto X254.here hx rfl (pc0 := 237) (pc' := 241) rfl (hb hby at_237) (by decide) (by decide) ?_
      show Steps p.tables e below (T254.setTop (mkF m 241 #[.val (.int p1), .val (.int p2), .val (.int p3), .val (.int p4), .val (.int p5), .val (.int (p1 &&& (3 : Int32))), .val (.ref ww), .val (.int (1 : Int32)), .val (.int x169), .val (.int x173), .val (.int x177), .val (.int x181), .val (.ref b184), .val (.ref x255), .val (.int x257), .val (.int x258), .val (.int x259), .val (.long tot304), .second, .val (.long sum307), .second, .unset, .unset, .unset, .unset, .unset, .unset, .unset, .unset, .unset, .unset, .unset, .unset, .unset] [(.int (1 : Int32))])) _
      refine XS.istore X254.here hx rfl (hb hby at_241) rfl (l' := #[.val (.int p1), .val (.int p2), .val (.int p3), .val (.int p4), .val (.int p5), .val (.int (p1 &&& (3 : Int32))), .val (.ref ww), .val (.int (1 : Int32)), .val (.int x169), .val (.int x173), .val (.int x177), .val (.int x181), .val (.ref b184), .val (.ref x255), .val (.int x257), .val (.int x258), .val (.int x259), .val (.long tot304), .second, .val (.long sum307), .second, .val (.int (1 : Int32)), .unset, .unset, .unset, .unset, .unset, .unset, .unset, .unset, .unset, .unset, .unset, .unset]) rfl ?_
      show Steps p.tables e below (T254.setTop (mkF m 243 #[.val (.int p1), .val (.int p2), .val (.int p3), .val (.int p4), .val (.int p5), .val (.int (p1 &&& (3 : Int32))), .val (.ref ww), .val (.int (1 : Int32)), .val (.int x169), .val (.int x173), .val (.int x177), .val (.int x181), .val (.ref b184), .val (.ref x255), .val (.int x257), .val (.int x258), .val (.int x259), .val (.long tot304), .second, .val (.long sum307), .second, .val (.int (1 : Int32)), .unset, .unset, .unset, .unset, .unset, .unset, .unset, .unset, .unset, .unset, .unset, .unset] [])) _
      refine XS.iload X254.here hx rfl (hb hby at_243) rfl ?_
      show Steps p.tables e below (T254.setTop (mkF m 245 #[.val (.int p1), .val (.int p2), .val (.int p3), .val (.int p4), .val (.int p5), .val (.int (p1 &&& (3 : Int32))), .val (.ref ww), .val (.int (1 : Int32)), .val (.int x169), .val (.int x173), .val (.int x177), .val (.int x181), .val (.ref b184), .val (.ref x255), .val (.int x257), .val (.int x258), .val (.int x259), .val (.long tot304), .second, .val (.long sum307), .second, .val (.int (1 : Int32)), .unset, .unset, .unset, .unset, .unset, .unset, .unset, .unset, .unset, .unset, .unset, .unset] [(.int (1 : Int32))])) _
      refine XS.ifYes X254.here hx rfl (pc0 := 245) (pc' := 297) rfl (hb hby at_245) rfl ((if0 _ _).trans (feq (by decide : ¬ ((1 : Int32) = (0 : Int32)))).2) (by decide) (by decide) ?_
      show Steps p.tables e below (T254.setTop (mkF m 297 #[.val (.int p1), .val (.int p2), .val (.int p3), .val (.int p4), .val (.int p5), .val (.int (p1 &&& (3 : Int32))), .val (.ref ww), .val (.int (1 : Int32)), .val (.int x169), .val (.int x173), .val (.int x177), .val (.int x181), .val (.ref b184), .val (.ref x255), .val (.int x257), .val (.int x258), .val (.int x259), .val (.long tot304), .second, .val (.long sum307), .second, .val (.int (1 : Int32)), .unset, .unset, .unset, .unset, .unset, .unset, .unset, .unset, .unset, .unset, .unset, .unset] [])) _
      refine XS.iload X254.here hx rfl (hb hby at_297) rfl ?_
      show Steps p.tables e below (T254.setTop (mkF m 299 #[.val (.int p1), .val (.int p2), .val (.int p3), .val (.int p4), .val (.int p5), .val (.int (p1 &&& (3 : Int32))), .val (.ref ww), .val (.int (1 : Int32)), .val (.int x169), .val (.int x173), .val (.int x177), .val (.int x181), .val (.ref b184), .val (.ref x255), .val (.int x257), .val (.int x258), .val (.int x259), .val (.long tot304), .second, .val (.long sum307), .second, .val (.int (1 : Int32)), .unset, .unset, .unset, .unset, .unset, .unset, .unset, .unset, .unset, .unset, .unset, .unset] [(.int x169)])) _
      refine XS.i2l X254.here hx rfl (hb hby at_299) rfl ?_
      show Steps p.tables e below (T254.setTop (mkF m 300 #[.val (.int p1), .val (.int p2), .val (.int p3), .val (.int p4), .val (.int p5), .val (.int (p1 &&& (3 : Int32))), .val (.ref ww), .val (.int (1 : Int32)), .val (.int x169), .val (.int x173), .val (.int x177), .val (.int x181), .val (.ref b184), .val (.ref x255), .val (.int x257), .val (.int x258), .val (.int x259), .val (.long tot304), .second, .val (.long sum307), .second, .val (.int (1 : Int32)), .unset, .unset, .unset, .unset, .unset, .unset, .unset, .unset, .unset, .unset, .unset, .unset] [(.long (x169.toInt64))])) _
      refine XS.lload X254.here hx rfl (hb hby at_300) rfl ?_
      show Steps p.tables e below (T254.setTop (mkF m 302 #[.val (.int p1), .val (.int p2), .val (.int p3), .val (.int p4), .val (.int p5), .val (.int (p1 &&& (3 : Int32))), .val (.ref ww), .val (.int (1 : Int32)), .val (.int x169), .val (.int x173), .val (.int x177), .val (.int x181), .val (.ref b184), .val (.ref x255), .val (.int x257), .val (.int x258), .val (.int x259), .val (.long tot304), .second, .val (.long sum307), .second, .val (.int (1 : Int32)), .unset, .unset, .unset, .unset, .unset, .unset, .unset, .unset, .unset, .unset, .unset, .unset] [(.long tot304), (.long (x169.toInt64))])) _
      refine XS.lcmp X254.here hx rfl (hb hby at_302) rfl ?_
      show Steps p.tables e below (T254.setTop (mkF m 303 #[.val (.int p1), .val (.int p2), .val (.int p3), .val (.int p4), .val (.int p5), .val (.int (p1 &&& (3 : Int32))), .val (.ref ww), .val (.int (1 : Int32)), .val (.int x169), .val (.int x173), .val (.int x177), .val (.int x181), .val (.ref b184), .val (.ref x255), .val (.int x257), .val (.int x258), .val (.int x259), .val (.long tot304), .second, .val (.long sum307), .second, .val (.int (1 : Int32)), .unset, .unset, .unset, .unset, .unset, .unset, .unset, .unset, .unset, .unset, .unset, .unset] [(.int (lcmpW (x169.toInt64) tot304))])) _
      exact k)
    by_cases hc310 : (lcmpW (x169.toInt64) tot304) < (0 : Int32)
    · have pre311 := fun (t : State) (k : Steps p.tables e below (T254.setTop (mkF m 343 #[.val (.int p1), .val (.int p2), .val (.int p3), .val (.int p4), .val (.int p5), .val (.int (p1 &&& (3 : Int32))), .val (.ref ww), .val (.int (1 : Int32)), .val (.int x169), .val (.int x173), .val (.int x177), .val (.int x181), .val (.ref b184), .val (.ref x255), .val (.int x257), .val (.int x258), .val (.int x259), .val (.long tot304), .second, .val (.long sum307), .second, .val (.int (1 : Int32)), .unset, .unset, .unset, .unset, .unset, .unset, .unset, .unset, .unset, .unset, .unset, .unset] [(.long (((x169.toInt64) * (x173.toInt64)) / tot304))])) t) => pre309 t (by
        refine XS.ifYes X254.here hx rfl (pc0 := 303) (pc' := 333) rfl (hb hby at_303) rfl ((if0 _ _).trans (tlt hc310).1) (by decide) (by decide) ?_
        show Steps p.tables e below (T254.setTop (mkF m 333 #[.val (.int p1), .val (.int p2), .val (.int p3), .val (.int p4), .val (.int p5), .val (.int (p1 &&& (3 : Int32))), .val (.ref ww), .val (.int (1 : Int32)), .val (.int x169), .val (.int x173), .val (.int x177), .val (.int x181), .val (.ref b184), .val (.ref x255), .val (.int x257), .val (.int x258), .val (.int x259), .val (.long tot304), .second, .val (.long sum307), .second, .val (.int (1 : Int32)), .unset, .unset, .unset, .unset, .unset, .unset, .unset, .unset, .unset, .unset, .unset, .unset] [])) _
        refine XS.iload X254.here hx rfl (hb hby at_333) rfl ?_
        show Steps p.tables e below (T254.setTop (mkF m 335 #[.val (.int p1), .val (.int p2), .val (.int p3), .val (.int p4), .val (.int p5), .val (.int (p1 &&& (3 : Int32))), .val (.ref ww), .val (.int (1 : Int32)), .val (.int x169), .val (.int x173), .val (.int x177), .val (.int x181), .val (.ref b184), .val (.ref x255), .val (.int x257), .val (.int x258), .val (.int x259), .val (.long tot304), .second, .val (.long sum307), .second, .val (.int (1 : Int32)), .unset, .unset, .unset, .unset, .unset, .unset, .unset, .unset, .unset, .unset, .unset, .unset] [(.int x169)])) _
        refine XS.i2l X254.here hx rfl (hb hby at_335) rfl ?_
        show Steps p.tables e below (T254.setTop (mkF m 336 #[.val (.int p1), .val (.int p2), .val (.int p3), .val (.int p4), .val (.int p5), .val (.int (p1 &&& (3 : Int32))), .val (.ref ww), .val (.int (1 : Int32)), .val (.int x169), .val (.int x173), .val (.int x177), .val (.int x181), .val (.ref b184), .val (.ref x255), .val (.int x257), .val (.int x258), .val (.int x259), .val (.long tot304), .second, .val (.long sum307), .second, .val (.int (1 : Int32)), .unset, .unset, .unset, .unset, .unset, .unset, .unset, .unset, .unset, .unset, .unset, .unset] [(.long (x169.toInt64))])) _
        refine XS.iload X254.here hx rfl (hb hby at_336) rfl ?_
        show Steps p.tables e below (T254.setTop (mkF m 338 #[.val (.int p1), .val (.int p2), .val (.int p3), .val (.int p4), .val (.int p5), .val (.int (p1 &&& (3 : Int32))), .val (.ref ww), .val (.int (1 : Int32)), .val (.int x169), .val (.int x173), .val (.int x177), .val (.int x181), .val (.ref b184), .val (.ref x255), .val (.int x257), .val (.int x258), .val (.int x259), .val (.long tot304), .second, .val (.long sum307), .second, .val (.int (1 : Int32)), .unset, .unset, .unset, .unset, .unset, .unset, .unset, .unset, .unset, .unset, .unset, .unset] [(.int x173), (.long (x169.toInt64))])) _
        refine XS.i2l X254.here hx rfl (hb hby at_338) rfl ?_
        show Steps p.tables e below (T254.setTop (mkF m 339 #[.val (.int p1), .val (.int p2), .val (.int p3), .val (.int p4), .val (.int p5), .val (.int (p1 &&& (3 : Int32))), .val (.ref ww), .val (.int (1 : Int32)), .val (.int x169), .val (.int x173), .val (.int x177), .val (.int x181), .val (.ref b184), .val (.ref x255), .val (.int x257), .val (.int x258), .val (.int x259), .val (.long tot304), .second, .val (.long sum307), .second, .val (.int (1 : Int32)), .unset, .unset, .unset, .unset, .unset, .unset, .unset, .unset, .unset, .unset, .unset, .unset] [(.long (x173.toInt64)), (.long (x169.toInt64))])) _
        refine XS.lmul X254.here hx rfl (hb hby at_339) rfl ?_
        show Steps p.tables e below (T254.setTop (mkF m 340 #[.val (.int p1), .val (.int p2), .val (.int p3), .val (.int p4), .val (.int p5), .val (.int (p1 &&& (3 : Int32))), .val (.ref ww), .val (.int (1 : Int32)), .val (.int x169), .val (.int x173), .val (.int x177), .val (.int x181), .val (.ref b184), .val (.ref x255), .val (.int x257), .val (.int x258), .val (.int x259), .val (.long tot304), .second, .val (.long sum307), .second, .val (.int (1 : Int32)), .unset, .unset, .unset, .unset, .unset, .unset, .unset, .unset, .unset, .unset, .unset, .unset] [(.long ((x169.toInt64) * (x173.toInt64)))])) _
        refine XS.lload X254.here hx rfl (hb hby at_340) rfl ?_
        show Steps p.tables e below (T254.setTop (mkF m 342 #[.val (.int p1), .val (.int p2), .val (.int p3), .val (.int p4), .val (.int p5), .val (.int (p1 &&& (3 : Int32))), .val (.ref ww), .val (.int (1 : Int32)), .val (.int x169), .val (.int x173), .val (.int x177), .val (.int x181), .val (.ref b184), .val (.ref x255), .val (.int x257), .val (.int x258), .val (.int x259), .val (.long tot304), .second, .val (.long sum307), .second, .val (.int (1 : Int32)), .unset, .unset, .unset, .unset, .unset, .unset, .unset, .unset, .unset, .unset, .unset, .unset] [(.long tot304), (.long ((x169.toInt64) * (x173.toInt64)))])) _
        refine XS.ldiv X254.here hx rfl (hb hby at_342) rfl (own_law_nz (own_mx_pos hpq175) (own_mx_pos hpq179) (own_mx_pos hpq183) h_tot304) ?_
        show Steps p.tables e below (T254.setTop (mkF m 343 #[.val (.int p1), .val (.int p2), .val (.int p3), .val (.int p4), .val (.int p5), .val (.int (p1 &&& (3 : Int32))), .val (.ref ww), .val (.int (1 : Int32)), .val (.int x169), .val (.int x173), .val (.int x177), .val (.int x181), .val (.ref b184), .val (.ref x255), .val (.int x257), .val (.int x258), .val (.int x259), .val (.long tot304), .second, .val (.long sum307), .second, .val (.int (1 : Int32)), .unset, .unset, .unset, .unset, .unset, .unset, .unset, .unset, .unset, .unset, .unset, .unset] [(.long (((x169.toInt64) * (x173.toInt64)) / tot304))])) _
        exact k)
      obtain ⟨f312, h_f312⟩ : ∃ z : Int64, z = (((x169.toInt64) * (x173.toInt64)) / tot304) := ⟨_, rfl⟩
      have pre313 := fun (t : State) (k : Steps p.tables e below (T254.setTop (mkF m 343 #[.val (.int p1), .val (.int p2), .val (.int p3), .val (.int p4), .val (.int p5), .val (.int (p1 &&& (3 : Int32))), .val (.ref ww), .val (.int (1 : Int32)), .val (.int x169), .val (.int x173), .val (.int x177), .val (.int x181), .val (.ref b184), .val (.ref x255), .val (.int x257), .val (.int x258), .val (.int x259), .val (.long tot304), .second, .val (.long sum307), .second, .val (.int (1 : Int32)), .unset, .unset, .unset, .unset, .unset, .unset, .unset, .unset, .unset, .unset, .unset, .unset] [(.long f312)])) t) => pre311 t (by rw [← h_f312]; exact k)
      have pre314 := fun (t : State) (k : Steps p.tables e below (T254.setTop (mkF m 355 #[.val (.int p1), .val (.int p2), .val (.int p3), .val (.int p4), .val (.int p5), .val (.int (p1 &&& (3 : Int32))), .val (.ref ww), .val (.int (1 : Int32)), .val (.int x169), .val (.int x173), .val (.int x177), .val (.int x181), .val (.ref b184), .val (.ref x255), .val (.int x257), .val (.int x258), .val (.int x259), .val (.long tot304), .second, .val (.long sum307), .second, .val (.int (1 : Int32)), .val (.long f312), .second, .unset, .unset, .unset, .unset, .unset, .unset, .unset, .unset, .unset, .unset] [(.long (((x169.toInt64) * (x177.toInt64)) / tot304))])) t) => pre313 t (by
        refine XS.lstore X254.here hx rfl (hb hby at_343) rfl (l' := #[.val (.int p1), .val (.int p2), .val (.int p3), .val (.int p4), .val (.int p5), .val (.int (p1 &&& (3 : Int32))), .val (.ref ww), .val (.int (1 : Int32)), .val (.int x169), .val (.int x173), .val (.int x177), .val (.int x181), .val (.ref b184), .val (.ref x255), .val (.int x257), .val (.int x258), .val (.int x259), .val (.long tot304), .second, .val (.long sum307), .second, .val (.int (1 : Int32)), .val (.long f312), .second, .unset, .unset, .unset, .unset, .unset, .unset, .unset, .unset, .unset, .unset]) rfl ?_
        show Steps p.tables e below (T254.setTop (mkF m 345 #[.val (.int p1), .val (.int p2), .val (.int p3), .val (.int p4), .val (.int p5), .val (.int (p1 &&& (3 : Int32))), .val (.ref ww), .val (.int (1 : Int32)), .val (.int x169), .val (.int x173), .val (.int x177), .val (.int x181), .val (.ref b184), .val (.ref x255), .val (.int x257), .val (.int x258), .val (.int x259), .val (.long tot304), .second, .val (.long sum307), .second, .val (.int (1 : Int32)), .val (.long f312), .second, .unset, .unset, .unset, .unset, .unset, .unset, .unset, .unset, .unset, .unset] [])) _
        refine XS.iload X254.here hx rfl (hb hby at_345) rfl ?_
        show Steps p.tables e below (T254.setTop (mkF m 347 #[.val (.int p1), .val (.int p2), .val (.int p3), .val (.int p4), .val (.int p5), .val (.int (p1 &&& (3 : Int32))), .val (.ref ww), .val (.int (1 : Int32)), .val (.int x169), .val (.int x173), .val (.int x177), .val (.int x181), .val (.ref b184), .val (.ref x255), .val (.int x257), .val (.int x258), .val (.int x259), .val (.long tot304), .second, .val (.long sum307), .second, .val (.int (1 : Int32)), .val (.long f312), .second, .unset, .unset, .unset, .unset, .unset, .unset, .unset, .unset, .unset, .unset] [(.int x169)])) _
        refine XS.i2l X254.here hx rfl (hb hby at_347) rfl ?_
        show Steps p.tables e below (T254.setTop (mkF m 348 #[.val (.int p1), .val (.int p2), .val (.int p3), .val (.int p4), .val (.int p5), .val (.int (p1 &&& (3 : Int32))), .val (.ref ww), .val (.int (1 : Int32)), .val (.int x169), .val (.int x173), .val (.int x177), .val (.int x181), .val (.ref b184), .val (.ref x255), .val (.int x257), .val (.int x258), .val (.int x259), .val (.long tot304), .second, .val (.long sum307), .second, .val (.int (1 : Int32)), .val (.long f312), .second, .unset, .unset, .unset, .unset, .unset, .unset, .unset, .unset, .unset, .unset] [(.long (x169.toInt64))])) _
        refine XS.iload X254.here hx rfl (hb hby at_348) rfl ?_
        show Steps p.tables e below (T254.setTop (mkF m 350 #[.val (.int p1), .val (.int p2), .val (.int p3), .val (.int p4), .val (.int p5), .val (.int (p1 &&& (3 : Int32))), .val (.ref ww), .val (.int (1 : Int32)), .val (.int x169), .val (.int x173), .val (.int x177), .val (.int x181), .val (.ref b184), .val (.ref x255), .val (.int x257), .val (.int x258), .val (.int x259), .val (.long tot304), .second, .val (.long sum307), .second, .val (.int (1 : Int32)), .val (.long f312), .second, .unset, .unset, .unset, .unset, .unset, .unset, .unset, .unset, .unset, .unset] [(.int x177), (.long (x169.toInt64))])) _
        refine XS.i2l X254.here hx rfl (hb hby at_350) rfl ?_
        show Steps p.tables e below (T254.setTop (mkF m 351 #[.val (.int p1), .val (.int p2), .val (.int p3), .val (.int p4), .val (.int p5), .val (.int (p1 &&& (3 : Int32))), .val (.ref ww), .val (.int (1 : Int32)), .val (.int x169), .val (.int x173), .val (.int x177), .val (.int x181), .val (.ref b184), .val (.ref x255), .val (.int x257), .val (.int x258), .val (.int x259), .val (.long tot304), .second, .val (.long sum307), .second, .val (.int (1 : Int32)), .val (.long f312), .second, .unset, .unset, .unset, .unset, .unset, .unset, .unset, .unset, .unset, .unset] [(.long (x177.toInt64)), (.long (x169.toInt64))])) _
        refine XS.lmul X254.here hx rfl (hb hby at_351) rfl ?_
        show Steps p.tables e below (T254.setTop (mkF m 352 #[.val (.int p1), .val (.int p2), .val (.int p3), .val (.int p4), .val (.int p5), .val (.int (p1 &&& (3 : Int32))), .val (.ref ww), .val (.int (1 : Int32)), .val (.int x169), .val (.int x173), .val (.int x177), .val (.int x181), .val (.ref b184), .val (.ref x255), .val (.int x257), .val (.int x258), .val (.int x259), .val (.long tot304), .second, .val (.long sum307), .second, .val (.int (1 : Int32)), .val (.long f312), .second, .unset, .unset, .unset, .unset, .unset, .unset, .unset, .unset, .unset, .unset] [(.long ((x169.toInt64) * (x177.toInt64)))])) _
        refine XS.lload X254.here hx rfl (hb hby at_352) rfl ?_
        show Steps p.tables e below (T254.setTop (mkF m 354 #[.val (.int p1), .val (.int p2), .val (.int p3), .val (.int p4), .val (.int p5), .val (.int (p1 &&& (3 : Int32))), .val (.ref ww), .val (.int (1 : Int32)), .val (.int x169), .val (.int x173), .val (.int x177), .val (.int x181), .val (.ref b184), .val (.ref x255), .val (.int x257), .val (.int x258), .val (.int x259), .val (.long tot304), .second, .val (.long sum307), .second, .val (.int (1 : Int32)), .val (.long f312), .second, .unset, .unset, .unset, .unset, .unset, .unset, .unset, .unset, .unset, .unset] [(.long tot304), (.long ((x169.toInt64) * (x177.toInt64)))])) _
        refine XS.ldiv X254.here hx rfl (hb hby at_354) rfl (own_law_nz (own_mx_pos hpq175) (own_mx_pos hpq179) (own_mx_pos hpq183) h_tot304) ?_
        show Steps p.tables e below (T254.setTop (mkF m 355 #[.val (.int p1), .val (.int p2), .val (.int p3), .val (.int p4), .val (.int p5), .val (.int (p1 &&& (3 : Int32))), .val (.ref ww), .val (.int (1 : Int32)), .val (.int x169), .val (.int x173), .val (.int x177), .val (.int x181), .val (.ref b184), .val (.ref x255), .val (.int x257), .val (.int x258), .val (.int x259), .val (.long tot304), .second, .val (.long sum307), .second, .val (.int (1 : Int32)), .val (.long f312), .second, .unset, .unset, .unset, .unset, .unset, .unset, .unset, .unset, .unset, .unset] [(.long (((x169.toInt64) * (x177.toInt64)) / tot304))])) _
        exact k)
      obtain ⟨f315, h_f315⟩ : ∃ z : Int64, z = (((x169.toInt64) * (x177.toInt64)) / tot304) := ⟨_, rfl⟩
      have pre316 := fun (t : State) (k : Steps p.tables e below (T254.setTop (mkF m 355 #[.val (.int p1), .val (.int p2), .val (.int p3), .val (.int p4), .val (.int p5), .val (.int (p1 &&& (3 : Int32))), .val (.ref ww), .val (.int (1 : Int32)), .val (.int x169), .val (.int x173), .val (.int x177), .val (.int x181), .val (.ref b184), .val (.ref x255), .val (.int x257), .val (.int x258), .val (.int x259), .val (.long tot304), .second, .val (.long sum307), .second, .val (.int (1 : Int32)), .val (.long f312), .second, .unset, .unset, .unset, .unset, .unset, .unset, .unset, .unset, .unset, .unset] [(.long f315)])) t) => pre314 t (by rw [← h_f315]; exact k)
      have pre317 := fun (t : State) (k : Steps p.tables e below (T254.setTop (mkF m 367 #[.val (.int p1), .val (.int p2), .val (.int p3), .val (.int p4), .val (.int p5), .val (.int (p1 &&& (3 : Int32))), .val (.ref ww), .val (.int (1 : Int32)), .val (.int x169), .val (.int x173), .val (.int x177), .val (.int x181), .val (.ref b184), .val (.ref x255), .val (.int x257), .val (.int x258), .val (.int x259), .val (.long tot304), .second, .val (.long sum307), .second, .val (.int (1 : Int32)), .val (.long f312), .second, .val (.long f315), .second, .unset, .unset, .unset, .unset, .unset, .unset, .unset, .unset] [(.long (((x169.toInt64) * (x181.toInt64)) / tot304))])) t) => pre316 t (by
        refine XS.lstore X254.here hx rfl (hb hby at_355) rfl (l' := #[.val (.int p1), .val (.int p2), .val (.int p3), .val (.int p4), .val (.int p5), .val (.int (p1 &&& (3 : Int32))), .val (.ref ww), .val (.int (1 : Int32)), .val (.int x169), .val (.int x173), .val (.int x177), .val (.int x181), .val (.ref b184), .val (.ref x255), .val (.int x257), .val (.int x258), .val (.int x259), .val (.long tot304), .second, .val (.long sum307), .second, .val (.int (1 : Int32)), .val (.long f312), .second, .val (.long f315), .second, .unset, .unset, .unset, .unset, .unset, .unset, .unset, .unset]) rfl ?_
        show Steps p.tables e below (T254.setTop (mkF m 357 #[.val (.int p1), .val (.int p2), .val (.int p3), .val (.int p4), .val (.int p5), .val (.int (p1 &&& (3 : Int32))), .val (.ref ww), .val (.int (1 : Int32)), .val (.int x169), .val (.int x173), .val (.int x177), .val (.int x181), .val (.ref b184), .val (.ref x255), .val (.int x257), .val (.int x258), .val (.int x259), .val (.long tot304), .second, .val (.long sum307), .second, .val (.int (1 : Int32)), .val (.long f312), .second, .val (.long f315), .second, .unset, .unset, .unset, .unset, .unset, .unset, .unset, .unset] [])) _
        refine XS.iload X254.here hx rfl (hb hby at_357) rfl ?_
        show Steps p.tables e below (T254.setTop (mkF m 359 #[.val (.int p1), .val (.int p2), .val (.int p3), .val (.int p4), .val (.int p5), .val (.int (p1 &&& (3 : Int32))), .val (.ref ww), .val (.int (1 : Int32)), .val (.int x169), .val (.int x173), .val (.int x177), .val (.int x181), .val (.ref b184), .val (.ref x255), .val (.int x257), .val (.int x258), .val (.int x259), .val (.long tot304), .second, .val (.long sum307), .second, .val (.int (1 : Int32)), .val (.long f312), .second, .val (.long f315), .second, .unset, .unset, .unset, .unset, .unset, .unset, .unset, .unset] [(.int x169)])) _
        refine XS.i2l X254.here hx rfl (hb hby at_359) rfl ?_
        show Steps p.tables e below (T254.setTop (mkF m 360 #[.val (.int p1), .val (.int p2), .val (.int p3), .val (.int p4), .val (.int p5), .val (.int (p1 &&& (3 : Int32))), .val (.ref ww), .val (.int (1 : Int32)), .val (.int x169), .val (.int x173), .val (.int x177), .val (.int x181), .val (.ref b184), .val (.ref x255), .val (.int x257), .val (.int x258), .val (.int x259), .val (.long tot304), .second, .val (.long sum307), .second, .val (.int (1 : Int32)), .val (.long f312), .second, .val (.long f315), .second, .unset, .unset, .unset, .unset, .unset, .unset, .unset, .unset] [(.long (x169.toInt64))])) _
        refine XS.iload X254.here hx rfl (hb hby at_360) rfl ?_
        show Steps p.tables e below (T254.setTop (mkF m 362 #[.val (.int p1), .val (.int p2), .val (.int p3), .val (.int p4), .val (.int p5), .val (.int (p1 &&& (3 : Int32))), .val (.ref ww), .val (.int (1 : Int32)), .val (.int x169), .val (.int x173), .val (.int x177), .val (.int x181), .val (.ref b184), .val (.ref x255), .val (.int x257), .val (.int x258), .val (.int x259), .val (.long tot304), .second, .val (.long sum307), .second, .val (.int (1 : Int32)), .val (.long f312), .second, .val (.long f315), .second, .unset, .unset, .unset, .unset, .unset, .unset, .unset, .unset] [(.int x181), (.long (x169.toInt64))])) _
        refine XS.i2l X254.here hx rfl (hb hby at_362) rfl ?_
        show Steps p.tables e below (T254.setTop (mkF m 363 #[.val (.int p1), .val (.int p2), .val (.int p3), .val (.int p4), .val (.int p5), .val (.int (p1 &&& (3 : Int32))), .val (.ref ww), .val (.int (1 : Int32)), .val (.int x169), .val (.int x173), .val (.int x177), .val (.int x181), .val (.ref b184), .val (.ref x255), .val (.int x257), .val (.int x258), .val (.int x259), .val (.long tot304), .second, .val (.long sum307), .second, .val (.int (1 : Int32)), .val (.long f312), .second, .val (.long f315), .second, .unset, .unset, .unset, .unset, .unset, .unset, .unset, .unset] [(.long (x181.toInt64)), (.long (x169.toInt64))])) _
        refine XS.lmul X254.here hx rfl (hb hby at_363) rfl ?_
        show Steps p.tables e below (T254.setTop (mkF m 364 #[.val (.int p1), .val (.int p2), .val (.int p3), .val (.int p4), .val (.int p5), .val (.int (p1 &&& (3 : Int32))), .val (.ref ww), .val (.int (1 : Int32)), .val (.int x169), .val (.int x173), .val (.int x177), .val (.int x181), .val (.ref b184), .val (.ref x255), .val (.int x257), .val (.int x258), .val (.int x259), .val (.long tot304), .second, .val (.long sum307), .second, .val (.int (1 : Int32)), .val (.long f312), .second, .val (.long f315), .second, .unset, .unset, .unset, .unset, .unset, .unset, .unset, .unset] [(.long ((x169.toInt64) * (x181.toInt64)))])) _
        refine XS.lload X254.here hx rfl (hb hby at_364) rfl ?_
        show Steps p.tables e below (T254.setTop (mkF m 366 #[.val (.int p1), .val (.int p2), .val (.int p3), .val (.int p4), .val (.int p5), .val (.int (p1 &&& (3 : Int32))), .val (.ref ww), .val (.int (1 : Int32)), .val (.int x169), .val (.int x173), .val (.int x177), .val (.int x181), .val (.ref b184), .val (.ref x255), .val (.int x257), .val (.int x258), .val (.int x259), .val (.long tot304), .second, .val (.long sum307), .second, .val (.int (1 : Int32)), .val (.long f312), .second, .val (.long f315), .second, .unset, .unset, .unset, .unset, .unset, .unset, .unset, .unset] [(.long tot304), (.long ((x169.toInt64) * (x181.toInt64)))])) _
        refine XS.ldiv X254.here hx rfl (hb hby at_366) rfl (own_law_nz (own_mx_pos hpq175) (own_mx_pos hpq179) (own_mx_pos hpq183) h_tot304) ?_
        show Steps p.tables e below (T254.setTop (mkF m 367 #[.val (.int p1), .val (.int p2), .val (.int p3), .val (.int p4), .val (.int p5), .val (.int (p1 &&& (3 : Int32))), .val (.ref ww), .val (.int (1 : Int32)), .val (.int x169), .val (.int x173), .val (.int x177), .val (.int x181), .val (.ref b184), .val (.ref x255), .val (.int x257), .val (.int x258), .val (.int x259), .val (.long tot304), .second, .val (.long sum307), .second, .val (.int (1 : Int32)), .val (.long f312), .second, .val (.long f315), .second, .unset, .unset, .unset, .unset, .unset, .unset, .unset, .unset] [(.long (((x169.toInt64) * (x181.toInt64)) / tot304))])) _
        exact k)
      obtain ⟨f318, h_f318⟩ : ∃ z : Int64, z = (((x169.toInt64) * (x181.toInt64)) / tot304) := ⟨_, rfl⟩
      have pre319 := fun (t : State) (k : Steps p.tables e below (T254.setTop (mkF m 367 #[.val (.int p1), .val (.int p2), .val (.int p3), .val (.int p4), .val (.int p5), .val (.int (p1 &&& (3 : Int32))), .val (.ref ww), .val (.int (1 : Int32)), .val (.int x169), .val (.int x173), .val (.int x177), .val (.int x181), .val (.ref b184), .val (.ref x255), .val (.int x257), .val (.int x258), .val (.int x259), .val (.long tot304), .second, .val (.long sum307), .second, .val (.int (1 : Int32)), .val (.long f312), .second, .val (.long f315), .second, .unset, .unset, .unset, .unset, .unset, .unset, .unset, .unset] [(.long f318)])) t) => pre317 t (by rw [← h_f318]; exact k)
      have pre320 := fun (t : State) (k : Steps p.tables e below (T254.setTop (mkF m 375 #[.val (.int p1), .val (.int p2), .val (.int p3), .val (.int p4), .val (.int p5), .val (.int (p1 &&& (3 : Int32))), .val (.ref ww), .val (.int (1 : Int32)), .val (.int x169), .val (.int x173), .val (.int x177), .val (.int x181), .val (.ref b184), .val (.ref x255), .val (.int x257), .val (.int x258), .val (.int x259), .val (.long tot304), .second, .val (.long sum307), .second, .val (.int (1 : Int32)), .val (.long f312), .second, .val (.long f315), .second, .val (.long f318), .second, .unset, .unset, .unset, .unset, .unset, .unset] [(.long ((x257.toInt64) - f312))])) t) => pre319 t (by
        refine XS.lstore X254.here hx rfl (hb hby at_367) rfl (l' := #[.val (.int p1), .val (.int p2), .val (.int p3), .val (.int p4), .val (.int p5), .val (.int (p1 &&& (3 : Int32))), .val (.ref ww), .val (.int (1 : Int32)), .val (.int x169), .val (.int x173), .val (.int x177), .val (.int x181), .val (.ref b184), .val (.ref x255), .val (.int x257), .val (.int x258), .val (.int x259), .val (.long tot304), .second, .val (.long sum307), .second, .val (.int (1 : Int32)), .val (.long f312), .second, .val (.long f315), .second, .val (.long f318), .second, .unset, .unset, .unset, .unset, .unset, .unset]) rfl ?_
        show Steps p.tables e below (T254.setTop (mkF m 369 #[.val (.int p1), .val (.int p2), .val (.int p3), .val (.int p4), .val (.int p5), .val (.int (p1 &&& (3 : Int32))), .val (.ref ww), .val (.int (1 : Int32)), .val (.int x169), .val (.int x173), .val (.int x177), .val (.int x181), .val (.ref b184), .val (.ref x255), .val (.int x257), .val (.int x258), .val (.int x259), .val (.long tot304), .second, .val (.long sum307), .second, .val (.int (1 : Int32)), .val (.long f312), .second, .val (.long f315), .second, .val (.long f318), .second, .unset, .unset, .unset, .unset, .unset, .unset] [])) _
        refine XS.iload X254.here hx rfl (hb hby at_369) rfl ?_
        show Steps p.tables e below (T254.setTop (mkF m 371 #[.val (.int p1), .val (.int p2), .val (.int p3), .val (.int p4), .val (.int p5), .val (.int (p1 &&& (3 : Int32))), .val (.ref ww), .val (.int (1 : Int32)), .val (.int x169), .val (.int x173), .val (.int x177), .val (.int x181), .val (.ref b184), .val (.ref x255), .val (.int x257), .val (.int x258), .val (.int x259), .val (.long tot304), .second, .val (.long sum307), .second, .val (.int (1 : Int32)), .val (.long f312), .second, .val (.long f315), .second, .val (.long f318), .second, .unset, .unset, .unset, .unset, .unset, .unset] [(.int x257)])) _
        refine XS.i2l X254.here hx rfl (hb hby at_371) rfl ?_
        show Steps p.tables e below (T254.setTop (mkF m 372 #[.val (.int p1), .val (.int p2), .val (.int p3), .val (.int p4), .val (.int p5), .val (.int (p1 &&& (3 : Int32))), .val (.ref ww), .val (.int (1 : Int32)), .val (.int x169), .val (.int x173), .val (.int x177), .val (.int x181), .val (.ref b184), .val (.ref x255), .val (.int x257), .val (.int x258), .val (.int x259), .val (.long tot304), .second, .val (.long sum307), .second, .val (.int (1 : Int32)), .val (.long f312), .second, .val (.long f315), .second, .val (.long f318), .second, .unset, .unset, .unset, .unset, .unset, .unset] [(.long (x257.toInt64))])) _
        refine XS.lload X254.here hx rfl (hb hby at_372) rfl ?_
        show Steps p.tables e below (T254.setTop (mkF m 374 #[.val (.int p1), .val (.int p2), .val (.int p3), .val (.int p4), .val (.int p5), .val (.int (p1 &&& (3 : Int32))), .val (.ref ww), .val (.int (1 : Int32)), .val (.int x169), .val (.int x173), .val (.int x177), .val (.int x181), .val (.ref b184), .val (.ref x255), .val (.int x257), .val (.int x258), .val (.int x259), .val (.long tot304), .second, .val (.long sum307), .second, .val (.int (1 : Int32)), .val (.long f312), .second, .val (.long f315), .second, .val (.long f318), .second, .unset, .unset, .unset, .unset, .unset, .unset] [(.long f312), (.long (x257.toInt64))])) _
        refine XS.lsub X254.here hx rfl (hb hby at_374) rfl ?_
        show Steps p.tables e below (T254.setTop (mkF m 375 #[.val (.int p1), .val (.int p2), .val (.int p3), .val (.int p4), .val (.int p5), .val (.int (p1 &&& (3 : Int32))), .val (.ref ww), .val (.int (1 : Int32)), .val (.int x169), .val (.int x173), .val (.int x177), .val (.int x181), .val (.ref b184), .val (.ref x255), .val (.int x257), .val (.int x258), .val (.int x259), .val (.long tot304), .second, .val (.long sum307), .second, .val (.int (1 : Int32)), .val (.long f312), .second, .val (.long f315), .second, .val (.long f318), .second, .unset, .unset, .unset, .unset, .unset, .unset] [(.long ((x257.toInt64) - f312))])) _
        exact k)
      obtain ⟨e321, h_e321⟩ : ∃ z : Int64, z = ((x257.toInt64) - f312) := ⟨_, rfl⟩
      have pre322 := fun (t : State) (k : Steps p.tables e below (T254.setTop (mkF m 375 #[.val (.int p1), .val (.int p2), .val (.int p3), .val (.int p4), .val (.int p5), .val (.int (p1 &&& (3 : Int32))), .val (.ref ww), .val (.int (1 : Int32)), .val (.int x169), .val (.int x173), .val (.int x177), .val (.int x181), .val (.ref b184), .val (.ref x255), .val (.int x257), .val (.int x258), .val (.int x259), .val (.long tot304), .second, .val (.long sum307), .second, .val (.int (1 : Int32)), .val (.long f312), .second, .val (.long f315), .second, .val (.long f318), .second, .unset, .unset, .unset, .unset, .unset, .unset] [(.long e321)])) t) => pre320 t (by rw [← h_e321]; exact k)
      have pre323 := fun (t : State) (k : Steps p.tables e below (T254.setTop (mkF m 383 #[.val (.int p1), .val (.int p2), .val (.int p3), .val (.int p4), .val (.int p5), .val (.int (p1 &&& (3 : Int32))), .val (.ref ww), .val (.int (1 : Int32)), .val (.int x169), .val (.int x173), .val (.int x177), .val (.int x181), .val (.ref b184), .val (.ref x255), .val (.int x257), .val (.int x258), .val (.int x259), .val (.long tot304), .second, .val (.long sum307), .second, .val (.int (1 : Int32)), .val (.long f312), .second, .val (.long f315), .second, .val (.long f318), .second, .val (.long e321), .second, .unset, .unset, .unset, .unset] [(.long ((x258.toInt64) - f315))])) t) => pre322 t (by
        refine XS.lstore X254.here hx rfl (hb hby at_375) rfl (l' := #[.val (.int p1), .val (.int p2), .val (.int p3), .val (.int p4), .val (.int p5), .val (.int (p1 &&& (3 : Int32))), .val (.ref ww), .val (.int (1 : Int32)), .val (.int x169), .val (.int x173), .val (.int x177), .val (.int x181), .val (.ref b184), .val (.ref x255), .val (.int x257), .val (.int x258), .val (.int x259), .val (.long tot304), .second, .val (.long sum307), .second, .val (.int (1 : Int32)), .val (.long f312), .second, .val (.long f315), .second, .val (.long f318), .second, .val (.long e321), .second, .unset, .unset, .unset, .unset]) rfl ?_
        show Steps p.tables e below (T254.setTop (mkF m 377 #[.val (.int p1), .val (.int p2), .val (.int p3), .val (.int p4), .val (.int p5), .val (.int (p1 &&& (3 : Int32))), .val (.ref ww), .val (.int (1 : Int32)), .val (.int x169), .val (.int x173), .val (.int x177), .val (.int x181), .val (.ref b184), .val (.ref x255), .val (.int x257), .val (.int x258), .val (.int x259), .val (.long tot304), .second, .val (.long sum307), .second, .val (.int (1 : Int32)), .val (.long f312), .second, .val (.long f315), .second, .val (.long f318), .second, .val (.long e321), .second, .unset, .unset, .unset, .unset] [])) _
        refine XS.iload X254.here hx rfl (hb hby at_377) rfl ?_
        show Steps p.tables e below (T254.setTop (mkF m 379 #[.val (.int p1), .val (.int p2), .val (.int p3), .val (.int p4), .val (.int p5), .val (.int (p1 &&& (3 : Int32))), .val (.ref ww), .val (.int (1 : Int32)), .val (.int x169), .val (.int x173), .val (.int x177), .val (.int x181), .val (.ref b184), .val (.ref x255), .val (.int x257), .val (.int x258), .val (.int x259), .val (.long tot304), .second, .val (.long sum307), .second, .val (.int (1 : Int32)), .val (.long f312), .second, .val (.long f315), .second, .val (.long f318), .second, .val (.long e321), .second, .unset, .unset, .unset, .unset] [(.int x258)])) _
        refine XS.i2l X254.here hx rfl (hb hby at_379) rfl ?_
        show Steps p.tables e below (T254.setTop (mkF m 380 #[.val (.int p1), .val (.int p2), .val (.int p3), .val (.int p4), .val (.int p5), .val (.int (p1 &&& (3 : Int32))), .val (.ref ww), .val (.int (1 : Int32)), .val (.int x169), .val (.int x173), .val (.int x177), .val (.int x181), .val (.ref b184), .val (.ref x255), .val (.int x257), .val (.int x258), .val (.int x259), .val (.long tot304), .second, .val (.long sum307), .second, .val (.int (1 : Int32)), .val (.long f312), .second, .val (.long f315), .second, .val (.long f318), .second, .val (.long e321), .second, .unset, .unset, .unset, .unset] [(.long (x258.toInt64))])) _
        refine XS.lload X254.here hx rfl (hb hby at_380) rfl ?_
        show Steps p.tables e below (T254.setTop (mkF m 382 #[.val (.int p1), .val (.int p2), .val (.int p3), .val (.int p4), .val (.int p5), .val (.int (p1 &&& (3 : Int32))), .val (.ref ww), .val (.int (1 : Int32)), .val (.int x169), .val (.int x173), .val (.int x177), .val (.int x181), .val (.ref b184), .val (.ref x255), .val (.int x257), .val (.int x258), .val (.int x259), .val (.long tot304), .second, .val (.long sum307), .second, .val (.int (1 : Int32)), .val (.long f312), .second, .val (.long f315), .second, .val (.long f318), .second, .val (.long e321), .second, .unset, .unset, .unset, .unset] [(.long f315), (.long (x258.toInt64))])) _
        refine XS.lsub X254.here hx rfl (hb hby at_382) rfl ?_
        show Steps p.tables e below (T254.setTop (mkF m 383 #[.val (.int p1), .val (.int p2), .val (.int p3), .val (.int p4), .val (.int p5), .val (.int (p1 &&& (3 : Int32))), .val (.ref ww), .val (.int (1 : Int32)), .val (.int x169), .val (.int x173), .val (.int x177), .val (.int x181), .val (.ref b184), .val (.ref x255), .val (.int x257), .val (.int x258), .val (.int x259), .val (.long tot304), .second, .val (.long sum307), .second, .val (.int (1 : Int32)), .val (.long f312), .second, .val (.long f315), .second, .val (.long f318), .second, .val (.long e321), .second, .unset, .unset, .unset, .unset] [(.long ((x258.toInt64) - f315))])) _
        exact k)
      obtain ⟨e324, h_e324⟩ : ∃ z : Int64, z = ((x258.toInt64) - f315) := ⟨_, rfl⟩
      have pre325 := fun (t : State) (k : Steps p.tables e below (T254.setTop (mkF m 383 #[.val (.int p1), .val (.int p2), .val (.int p3), .val (.int p4), .val (.int p5), .val (.int (p1 &&& (3 : Int32))), .val (.ref ww), .val (.int (1 : Int32)), .val (.int x169), .val (.int x173), .val (.int x177), .val (.int x181), .val (.ref b184), .val (.ref x255), .val (.int x257), .val (.int x258), .val (.int x259), .val (.long tot304), .second, .val (.long sum307), .second, .val (.int (1 : Int32)), .val (.long f312), .second, .val (.long f315), .second, .val (.long f318), .second, .val (.long e321), .second, .unset, .unset, .unset, .unset] [(.long e324)])) t) => pre323 t (by rw [← h_e324]; exact k)
      have pre326 := fun (t : State) (k : Steps p.tables e below (T254.setTop (mkF m 391 #[.val (.int p1), .val (.int p2), .val (.int p3), .val (.int p4), .val (.int p5), .val (.int (p1 &&& (3 : Int32))), .val (.ref ww), .val (.int (1 : Int32)), .val (.int x169), .val (.int x173), .val (.int x177), .val (.int x181), .val (.ref b184), .val (.ref x255), .val (.int x257), .val (.int x258), .val (.int x259), .val (.long tot304), .second, .val (.long sum307), .second, .val (.int (1 : Int32)), .val (.long f312), .second, .val (.long f315), .second, .val (.long f318), .second, .val (.long e321), .second, .val (.long e324), .second, .unset, .unset] [(.long ((x259.toInt64) - f318))])) t) => pre325 t (by
        refine XS.lstore X254.here hx rfl (hb hby at_383) rfl (l' := #[.val (.int p1), .val (.int p2), .val (.int p3), .val (.int p4), .val (.int p5), .val (.int (p1 &&& (3 : Int32))), .val (.ref ww), .val (.int (1 : Int32)), .val (.int x169), .val (.int x173), .val (.int x177), .val (.int x181), .val (.ref b184), .val (.ref x255), .val (.int x257), .val (.int x258), .val (.int x259), .val (.long tot304), .second, .val (.long sum307), .second, .val (.int (1 : Int32)), .val (.long f312), .second, .val (.long f315), .second, .val (.long f318), .second, .val (.long e321), .second, .val (.long e324), .second, .unset, .unset]) rfl ?_
        show Steps p.tables e below (T254.setTop (mkF m 385 #[.val (.int p1), .val (.int p2), .val (.int p3), .val (.int p4), .val (.int p5), .val (.int (p1 &&& (3 : Int32))), .val (.ref ww), .val (.int (1 : Int32)), .val (.int x169), .val (.int x173), .val (.int x177), .val (.int x181), .val (.ref b184), .val (.ref x255), .val (.int x257), .val (.int x258), .val (.int x259), .val (.long tot304), .second, .val (.long sum307), .second, .val (.int (1 : Int32)), .val (.long f312), .second, .val (.long f315), .second, .val (.long f318), .second, .val (.long e321), .second, .val (.long e324), .second, .unset, .unset] [])) _
        refine XS.iload X254.here hx rfl (hb hby at_385) rfl ?_
        show Steps p.tables e below (T254.setTop (mkF m 387 #[.val (.int p1), .val (.int p2), .val (.int p3), .val (.int p4), .val (.int p5), .val (.int (p1 &&& (3 : Int32))), .val (.ref ww), .val (.int (1 : Int32)), .val (.int x169), .val (.int x173), .val (.int x177), .val (.int x181), .val (.ref b184), .val (.ref x255), .val (.int x257), .val (.int x258), .val (.int x259), .val (.long tot304), .second, .val (.long sum307), .second, .val (.int (1 : Int32)), .val (.long f312), .second, .val (.long f315), .second, .val (.long f318), .second, .val (.long e321), .second, .val (.long e324), .second, .unset, .unset] [(.int x259)])) _
        refine XS.i2l X254.here hx rfl (hb hby at_387) rfl ?_
        show Steps p.tables e below (T254.setTop (mkF m 388 #[.val (.int p1), .val (.int p2), .val (.int p3), .val (.int p4), .val (.int p5), .val (.int (p1 &&& (3 : Int32))), .val (.ref ww), .val (.int (1 : Int32)), .val (.int x169), .val (.int x173), .val (.int x177), .val (.int x181), .val (.ref b184), .val (.ref x255), .val (.int x257), .val (.int x258), .val (.int x259), .val (.long tot304), .second, .val (.long sum307), .second, .val (.int (1 : Int32)), .val (.long f312), .second, .val (.long f315), .second, .val (.long f318), .second, .val (.long e321), .second, .val (.long e324), .second, .unset, .unset] [(.long (x259.toInt64))])) _
        refine XS.lload X254.here hx rfl (hb hby at_388) rfl ?_
        show Steps p.tables e below (T254.setTop (mkF m 390 #[.val (.int p1), .val (.int p2), .val (.int p3), .val (.int p4), .val (.int p5), .val (.int (p1 &&& (3 : Int32))), .val (.ref ww), .val (.int (1 : Int32)), .val (.int x169), .val (.int x173), .val (.int x177), .val (.int x181), .val (.ref b184), .val (.ref x255), .val (.int x257), .val (.int x258), .val (.int x259), .val (.long tot304), .second, .val (.long sum307), .second, .val (.int (1 : Int32)), .val (.long f312), .second, .val (.long f315), .second, .val (.long f318), .second, .val (.long e321), .second, .val (.long e324), .second, .unset, .unset] [(.long f318), (.long (x259.toInt64))])) _
        refine XS.lsub X254.here hx rfl (hb hby at_390) rfl ?_
        show Steps p.tables e below (T254.setTop (mkF m 391 #[.val (.int p1), .val (.int p2), .val (.int p3), .val (.int p4), .val (.int p5), .val (.int (p1 &&& (3 : Int32))), .val (.ref ww), .val (.int (1 : Int32)), .val (.int x169), .val (.int x173), .val (.int x177), .val (.int x181), .val (.ref b184), .val (.ref x255), .val (.int x257), .val (.int x258), .val (.int x259), .val (.long tot304), .second, .val (.long sum307), .second, .val (.int (1 : Int32)), .val (.long f312), .second, .val (.long f315), .second, .val (.long f318), .second, .val (.long e321), .second, .val (.long e324), .second, .unset, .unset] [(.long ((x259.toInt64) - f318))])) _
        exact k)
      obtain ⟨e327, h_e327⟩ : ∃ z : Int64, z = ((x259.toInt64) - f318) := ⟨_, rfl⟩
      have pre328 := fun (t : State) (k : Steps p.tables e below (T254.setTop (mkF m 391 #[.val (.int p1), .val (.int p2), .val (.int p3), .val (.int p4), .val (.int p5), .val (.int (p1 &&& (3 : Int32))), .val (.ref ww), .val (.int (1 : Int32)), .val (.int x169), .val (.int x173), .val (.int x177), .val (.int x181), .val (.ref b184), .val (.ref x255), .val (.int x257), .val (.int x258), .val (.int x259), .val (.long tot304), .second, .val (.long sum307), .second, .val (.int (1 : Int32)), .val (.long f312), .second, .val (.long f315), .second, .val (.long f318), .second, .val (.long e321), .second, .val (.long e324), .second, .unset, .unset] [(.long e327)])) t) => pre326 t (by rw [← h_e327]; exact k)
      have LE329 := own_law_e (own_mx_pos hpq171) (own_mx_pos hpq175) (own_mx_pos hpq179) (own_mx_pos hpq183) hpq263 h_tot304 h_sum307 hc310 h_f312 h_f315 h_f318 h_e321 h_e324 h_e327
      have pre330 := fun (t : State) (k : Steps p.tables e below (T254.setTop (mkF m 470 #[.val (.int p1), .val (.int p2), .val (.int p3), .val (.int p4), .val (.int p5), .val (.int (p1 &&& (3 : Int32))), .val (.ref ww), .val (.int (1 : Int32)), .val (.int x169), .val (.int x173), .val (.int x177), .val (.int x181), .val (.ref b184), .val (.ref x255), .val (.int x257), .val (.int x258), .val (.int x259), .val (.long tot304), .second, .val (.long sum307), .second, .val (.int (1 : Int32)), .val (.long f312), .second, .val (.long f315), .second, .val (.long f318), .second, .val (.long e321), .second, .val (.long e324), .second, .val (.long e327), .second] [(.int (1 : Int32))])) t) => pre328 t (by
        refine XS.lstore X254.here hx rfl (hb hby at_391) rfl (l' := #[.val (.int p1), .val (.int p2), .val (.int p3), .val (.int p4), .val (.int p5), .val (.int (p1 &&& (3 : Int32))), .val (.ref ww), .val (.int (1 : Int32)), .val (.int x169), .val (.int x173), .val (.int x177), .val (.int x181), .val (.ref b184), .val (.ref x255), .val (.int x257), .val (.int x258), .val (.int x259), .val (.long tot304), .second, .val (.long sum307), .second, .val (.int (1 : Int32)), .val (.long f312), .second, .val (.long f315), .second, .val (.long f318), .second, .val (.long e321), .second, .val (.long e324), .second, .val (.long e327), .second]) rfl ?_
        show Steps p.tables e below (T254.setTop (mkF m 393 #[.val (.int p1), .val (.int p2), .val (.int p3), .val (.int p4), .val (.int p5), .val (.int (p1 &&& (3 : Int32))), .val (.ref ww), .val (.int (1 : Int32)), .val (.int x169), .val (.int x173), .val (.int x177), .val (.int x181), .val (.ref b184), .val (.ref x255), .val (.int x257), .val (.int x258), .val (.int x259), .val (.long tot304), .second, .val (.long sum307), .second, .val (.int (1 : Int32)), .val (.long f312), .second, .val (.long f315), .second, .val (.long f318), .second, .val (.long e321), .second, .val (.long e324), .second, .val (.long e327), .second] [])) _
        refine XS.iload X254.here hx rfl (hb hby at_393) rfl ?_
        show Steps p.tables e below (T254.setTop (mkF m 395 #[.val (.int p1), .val (.int p2), .val (.int p3), .val (.int p4), .val (.int p5), .val (.int (p1 &&& (3 : Int32))), .val (.ref ww), .val (.int (1 : Int32)), .val (.int x169), .val (.int x173), .val (.int x177), .val (.int x181), .val (.ref b184), .val (.ref x255), .val (.int x257), .val (.int x258), .val (.int x259), .val (.long tot304), .second, .val (.long sum307), .second, .val (.int (1 : Int32)), .val (.long f312), .second, .val (.long f315), .second, .val (.long f318), .second, .val (.long e321), .second, .val (.long e324), .second, .val (.long e327), .second] [(.int (1 : Int32))])) _
        refine XS.ifNo X254.here hx rfl (hb hby at_395) rfl ((if0 _ _).trans (feq (by decide : ¬ ((1 : Int32) = (0 : Int32)))).1) ?_
        show Steps p.tables e below (T254.setTop (mkF m 398 #[.val (.int p1), .val (.int p2), .val (.int p3), .val (.int p4), .val (.int p5), .val (.int (p1 &&& (3 : Int32))), .val (.ref ww), .val (.int (1 : Int32)), .val (.int x169), .val (.int x173), .val (.int x177), .val (.int x181), .val (.ref b184), .val (.ref x255), .val (.int x257), .val (.int x258), .val (.int x259), .val (.long tot304), .second, .val (.long sum307), .second, .val (.int (1 : Int32)), .val (.long f312), .second, .val (.long f315), .second, .val (.long f318), .second, .val (.long e321), .second, .val (.long e324), .second, .val (.long e327), .second] [])) _
        refine XS.lload X254.here hx rfl (hb hby at_398) rfl ?_
        show Steps p.tables e below (T254.setTop (mkF m 400 #[.val (.int p1), .val (.int p2), .val (.int p3), .val (.int p4), .val (.int p5), .val (.int (p1 &&& (3 : Int32))), .val (.ref ww), .val (.int (1 : Int32)), .val (.int x169), .val (.int x173), .val (.int x177), .val (.int x181), .val (.ref b184), .val (.ref x255), .val (.int x257), .val (.int x258), .val (.int x259), .val (.long tot304), .second, .val (.long sum307), .second, .val (.int (1 : Int32)), .val (.long f312), .second, .val (.long f315), .second, .val (.long f318), .second, .val (.long e321), .second, .val (.long e324), .second, .val (.long e327), .second] [(.long e321)])) _
        refine XS.lconst X254.here hx rfl (hb hby at_400) ?_
        show Steps p.tables e below (T254.setTop (mkF m 401 #[.val (.int p1), .val (.int p2), .val (.int p3), .val (.int p4), .val (.int p5), .val (.int (p1 &&& (3 : Int32))), .val (.ref ww), .val (.int (1 : Int32)), .val (.int x169), .val (.int x173), .val (.int x177), .val (.int x181), .val (.ref b184), .val (.ref x255), .val (.int x257), .val (.int x258), .val (.int x259), .val (.long tot304), .second, .val (.long sum307), .second, .val (.int (1 : Int32)), .val (.long f312), .second, .val (.long f315), .second, .val (.long f318), .second, .val (.long e321), .second, .val (.long e324), .second, .val (.long e327), .second] [(.long (0 : Int64)), (.long e321)])) _
        refine XS.lcmp X254.here hx rfl (hb hby at_401) rfl ?_
        show Steps p.tables e below (T254.setTop (mkF m 402 #[.val (.int p1), .val (.int p2), .val (.int p3), .val (.int p4), .val (.int p5), .val (.int (p1 &&& (3 : Int32))), .val (.ref ww), .val (.int (1 : Int32)), .val (.int x169), .val (.int x173), .val (.int x177), .val (.int x181), .val (.ref b184), .val (.ref x255), .val (.int x257), .val (.int x258), .val (.int x259), .val (.long tot304), .second, .val (.long sum307), .second, .val (.int (1 : Int32)), .val (.long f312), .second, .val (.long f315), .second, .val (.long f318), .second, .val (.long e321), .second, .val (.long e324), .second, .val (.long e327), .second] [(.int (lcmpW e321 (0 : Int64)))])) _
        refine XS.ifNo X254.here hx rfl (hb hby at_402) rfl ((if0 _ _).trans (flt LE329.1).1) ?_
        show Steps p.tables e below (T254.setTop (mkF m 405 #[.val (.int p1), .val (.int p2), .val (.int p3), .val (.int p4), .val (.int p5), .val (.int (p1 &&& (3 : Int32))), .val (.ref ww), .val (.int (1 : Int32)), .val (.int x169), .val (.int x173), .val (.int x177), .val (.int x181), .val (.ref b184), .val (.ref x255), .val (.int x257), .val (.int x258), .val (.int x259), .val (.long tot304), .second, .val (.long sum307), .second, .val (.int (1 : Int32)), .val (.long f312), .second, .val (.long f315), .second, .val (.long f318), .second, .val (.long e321), .second, .val (.long e324), .second, .val (.long e327), .second] [])) _
        refine XS.lload X254.here hx rfl (hb hby at_405) rfl ?_
        show Steps p.tables e below (T254.setTop (mkF m 407 #[.val (.int p1), .val (.int p2), .val (.int p3), .val (.int p4), .val (.int p5), .val (.int (p1 &&& (3 : Int32))), .val (.ref ww), .val (.int (1 : Int32)), .val (.int x169), .val (.int x173), .val (.int x177), .val (.int x181), .val (.ref b184), .val (.ref x255), .val (.int x257), .val (.int x258), .val (.int x259), .val (.long tot304), .second, .val (.long sum307), .second, .val (.int (1 : Int32)), .val (.long f312), .second, .val (.long f315), .second, .val (.long f318), .second, .val (.long e321), .second, .val (.long e324), .second, .val (.long e327), .second] [(.long e321)])) _
        refine XS.lconst X254.here hx rfl (hb hby at_407) ?_
        show Steps p.tables e below (T254.setTop (mkF m 408 #[.val (.int p1), .val (.int p2), .val (.int p3), .val (.int p4), .val (.int p5), .val (.int (p1 &&& (3 : Int32))), .val (.ref ww), .val (.int (1 : Int32)), .val (.int x169), .val (.int x173), .val (.int x177), .val (.int x181), .val (.ref b184), .val (.ref x255), .val (.int x257), .val (.int x258), .val (.int x259), .val (.long tot304), .second, .val (.long sum307), .second, .val (.int (1 : Int32)), .val (.long f312), .second, .val (.long f315), .second, .val (.long f318), .second, .val (.long e321), .second, .val (.long e324), .second, .val (.long e327), .second] [(.long (1 : Int64)), (.long e321)])) _
        refine XS.lcmp X254.here hx rfl (hb hby at_408) rfl ?_
        show Steps p.tables e below (T254.setTop (mkF m 409 #[.val (.int p1), .val (.int p2), .val (.int p3), .val (.int p4), .val (.int p5), .val (.int (p1 &&& (3 : Int32))), .val (.ref ww), .val (.int (1 : Int32)), .val (.int x169), .val (.int x173), .val (.int x177), .val (.int x181), .val (.ref b184), .val (.ref x255), .val (.int x257), .val (.int x258), .val (.int x259), .val (.long tot304), .second, .val (.long sum307), .second, .val (.int (1 : Int32)), .val (.long f312), .second, .val (.long f315), .second, .val (.long f318), .second, .val (.long e321), .second, .val (.long e324), .second, .val (.long e327), .second] [(.int (lcmpW e321 (1 : Int64)))])) _
        refine XS.ifNo X254.here hx rfl (hb hby at_409) rfl ((if0 _ _).trans (flt LE329.2.1).2.2.1) ?_
        show Steps p.tables e below (T254.setTop (mkF m 412 #[.val (.int p1), .val (.int p2), .val (.int p3), .val (.int p4), .val (.int p5), .val (.int (p1 &&& (3 : Int32))), .val (.ref ww), .val (.int (1 : Int32)), .val (.int x169), .val (.int x173), .val (.int x177), .val (.int x181), .val (.ref b184), .val (.ref x255), .val (.int x257), .val (.int x258), .val (.int x259), .val (.long tot304), .second, .val (.long sum307), .second, .val (.int (1 : Int32)), .val (.long f312), .second, .val (.long f315), .second, .val (.long f318), .second, .val (.long e321), .second, .val (.long e324), .second, .val (.long e327), .second] [])) _
        refine XS.lload X254.here hx rfl (hb hby at_412) rfl ?_
        show Steps p.tables e below (T254.setTop (mkF m 414 #[.val (.int p1), .val (.int p2), .val (.int p3), .val (.int p4), .val (.int p5), .val (.int (p1 &&& (3 : Int32))), .val (.ref ww), .val (.int (1 : Int32)), .val (.int x169), .val (.int x173), .val (.int x177), .val (.int x181), .val (.ref b184), .val (.ref x255), .val (.int x257), .val (.int x258), .val (.int x259), .val (.long tot304), .second, .val (.long sum307), .second, .val (.int (1 : Int32)), .val (.long f312), .second, .val (.long f315), .second, .val (.long f318), .second, .val (.long e321), .second, .val (.long e324), .second, .val (.long e327), .second] [(.long e324)])) _
        refine XS.lconst X254.here hx rfl (hb hby at_414) ?_
        show Steps p.tables e below (T254.setTop (mkF m 415 #[.val (.int p1), .val (.int p2), .val (.int p3), .val (.int p4), .val (.int p5), .val (.int (p1 &&& (3 : Int32))), .val (.ref ww), .val (.int (1 : Int32)), .val (.int x169), .val (.int x173), .val (.int x177), .val (.int x181), .val (.ref b184), .val (.ref x255), .val (.int x257), .val (.int x258), .val (.int x259), .val (.long tot304), .second, .val (.long sum307), .second, .val (.int (1 : Int32)), .val (.long f312), .second, .val (.long f315), .second, .val (.long f318), .second, .val (.long e321), .second, .val (.long e324), .second, .val (.long e327), .second] [(.long (0 : Int64)), (.long e324)])) _
        refine XS.lcmp X254.here hx rfl (hb hby at_415) rfl ?_
        show Steps p.tables e below (T254.setTop (mkF m 416 #[.val (.int p1), .val (.int p2), .val (.int p3), .val (.int p4), .val (.int p5), .val (.int (p1 &&& (3 : Int32))), .val (.ref ww), .val (.int (1 : Int32)), .val (.int x169), .val (.int x173), .val (.int x177), .val (.int x181), .val (.ref b184), .val (.ref x255), .val (.int x257), .val (.int x258), .val (.int x259), .val (.long tot304), .second, .val (.long sum307), .second, .val (.int (1 : Int32)), .val (.long f312), .second, .val (.long f315), .second, .val (.long f318), .second, .val (.long e321), .second, .val (.long e324), .second, .val (.long e327), .second] [(.int (lcmpW e324 (0 : Int64)))])) _
        refine XS.ifNo X254.here hx rfl (hb hby at_416) rfl ((if0 _ _).trans (flt LE329.2.2.1).1) ?_
        show Steps p.tables e below (T254.setTop (mkF m 419 #[.val (.int p1), .val (.int p2), .val (.int p3), .val (.int p4), .val (.int p5), .val (.int (p1 &&& (3 : Int32))), .val (.ref ww), .val (.int (1 : Int32)), .val (.int x169), .val (.int x173), .val (.int x177), .val (.int x181), .val (.ref b184), .val (.ref x255), .val (.int x257), .val (.int x258), .val (.int x259), .val (.long tot304), .second, .val (.long sum307), .second, .val (.int (1 : Int32)), .val (.long f312), .second, .val (.long f315), .second, .val (.long f318), .second, .val (.long e321), .second, .val (.long e324), .second, .val (.long e327), .second] [])) _
        refine XS.lload X254.here hx rfl (hb hby at_419) rfl ?_
        show Steps p.tables e below (T254.setTop (mkF m 421 #[.val (.int p1), .val (.int p2), .val (.int p3), .val (.int p4), .val (.int p5), .val (.int (p1 &&& (3 : Int32))), .val (.ref ww), .val (.int (1 : Int32)), .val (.int x169), .val (.int x173), .val (.int x177), .val (.int x181), .val (.ref b184), .val (.ref x255), .val (.int x257), .val (.int x258), .val (.int x259), .val (.long tot304), .second, .val (.long sum307), .second, .val (.int (1 : Int32)), .val (.long f312), .second, .val (.long f315), .second, .val (.long f318), .second, .val (.long e321), .second, .val (.long e324), .second, .val (.long e327), .second] [(.long e324)])) _
        refine XS.lconst X254.here hx rfl (hb hby at_421) ?_
        show Steps p.tables e below (T254.setTop (mkF m 422 #[.val (.int p1), .val (.int p2), .val (.int p3), .val (.int p4), .val (.int p5), .val (.int (p1 &&& (3 : Int32))), .val (.ref ww), .val (.int (1 : Int32)), .val (.int x169), .val (.int x173), .val (.int x177), .val (.int x181), .val (.ref b184), .val (.ref x255), .val (.int x257), .val (.int x258), .val (.int x259), .val (.long tot304), .second, .val (.long sum307), .second, .val (.int (1 : Int32)), .val (.long f312), .second, .val (.long f315), .second, .val (.long f318), .second, .val (.long e321), .second, .val (.long e324), .second, .val (.long e327), .second] [(.long (1 : Int64)), (.long e324)])) _
        refine XS.lcmp X254.here hx rfl (hb hby at_422) rfl ?_
        show Steps p.tables e below (T254.setTop (mkF m 423 #[.val (.int p1), .val (.int p2), .val (.int p3), .val (.int p4), .val (.int p5), .val (.int (p1 &&& (3 : Int32))), .val (.ref ww), .val (.int (1 : Int32)), .val (.int x169), .val (.int x173), .val (.int x177), .val (.int x181), .val (.ref b184), .val (.ref x255), .val (.int x257), .val (.int x258), .val (.int x259), .val (.long tot304), .second, .val (.long sum307), .second, .val (.int (1 : Int32)), .val (.long f312), .second, .val (.long f315), .second, .val (.long f318), .second, .val (.long e321), .second, .val (.long e324), .second, .val (.long e327), .second] [(.int (lcmpW e324 (1 : Int64)))])) _
        refine XS.ifNo X254.here hx rfl (hb hby at_423) rfl ((if0 _ _).trans (flt LE329.2.2.2.1).2.2.1) ?_
        show Steps p.tables e below (T254.setTop (mkF m 426 #[.val (.int p1), .val (.int p2), .val (.int p3), .val (.int p4), .val (.int p5), .val (.int (p1 &&& (3 : Int32))), .val (.ref ww), .val (.int (1 : Int32)), .val (.int x169), .val (.int x173), .val (.int x177), .val (.int x181), .val (.ref b184), .val (.ref x255), .val (.int x257), .val (.int x258), .val (.int x259), .val (.long tot304), .second, .val (.long sum307), .second, .val (.int (1 : Int32)), .val (.long f312), .second, .val (.long f315), .second, .val (.long f318), .second, .val (.long e321), .second, .val (.long e324), .second, .val (.long e327), .second] [])) _
        refine XS.lload X254.here hx rfl (hb hby at_426) rfl ?_
        show Steps p.tables e below (T254.setTop (mkF m 428 #[.val (.int p1), .val (.int p2), .val (.int p3), .val (.int p4), .val (.int p5), .val (.int (p1 &&& (3 : Int32))), .val (.ref ww), .val (.int (1 : Int32)), .val (.int x169), .val (.int x173), .val (.int x177), .val (.int x181), .val (.ref b184), .val (.ref x255), .val (.int x257), .val (.int x258), .val (.int x259), .val (.long tot304), .second, .val (.long sum307), .second, .val (.int (1 : Int32)), .val (.long f312), .second, .val (.long f315), .second, .val (.long f318), .second, .val (.long e321), .second, .val (.long e324), .second, .val (.long e327), .second] [(.long e327)])) _
        refine XS.lconst X254.here hx rfl (hb hby at_428) ?_
        show Steps p.tables e below (T254.setTop (mkF m 429 #[.val (.int p1), .val (.int p2), .val (.int p3), .val (.int p4), .val (.int p5), .val (.int (p1 &&& (3 : Int32))), .val (.ref ww), .val (.int (1 : Int32)), .val (.int x169), .val (.int x173), .val (.int x177), .val (.int x181), .val (.ref b184), .val (.ref x255), .val (.int x257), .val (.int x258), .val (.int x259), .val (.long tot304), .second, .val (.long sum307), .second, .val (.int (1 : Int32)), .val (.long f312), .second, .val (.long f315), .second, .val (.long f318), .second, .val (.long e321), .second, .val (.long e324), .second, .val (.long e327), .second] [(.long (0 : Int64)), (.long e327)])) _
        refine XS.lcmp X254.here hx rfl (hb hby at_429) rfl ?_
        show Steps p.tables e below (T254.setTop (mkF m 430 #[.val (.int p1), .val (.int p2), .val (.int p3), .val (.int p4), .val (.int p5), .val (.int (p1 &&& (3 : Int32))), .val (.ref ww), .val (.int (1 : Int32)), .val (.int x169), .val (.int x173), .val (.int x177), .val (.int x181), .val (.ref b184), .val (.ref x255), .val (.int x257), .val (.int x258), .val (.int x259), .val (.long tot304), .second, .val (.long sum307), .second, .val (.int (1 : Int32)), .val (.long f312), .second, .val (.long f315), .second, .val (.long f318), .second, .val (.long e321), .second, .val (.long e324), .second, .val (.long e327), .second] [(.int (lcmpW e327 (0 : Int64)))])) _
        refine XS.ifNo X254.here hx rfl (hb hby at_430) rfl ((if0 _ _).trans (flt LE329.2.2.2.2.1).1) ?_
        show Steps p.tables e below (T254.setTop (mkF m 433 #[.val (.int p1), .val (.int p2), .val (.int p3), .val (.int p4), .val (.int p5), .val (.int (p1 &&& (3 : Int32))), .val (.ref ww), .val (.int (1 : Int32)), .val (.int x169), .val (.int x173), .val (.int x177), .val (.int x181), .val (.ref b184), .val (.ref x255), .val (.int x257), .val (.int x258), .val (.int x259), .val (.long tot304), .second, .val (.long sum307), .second, .val (.int (1 : Int32)), .val (.long f312), .second, .val (.long f315), .second, .val (.long f318), .second, .val (.long e321), .second, .val (.long e324), .second, .val (.long e327), .second] [])) _
        refine XS.lload X254.here hx rfl (hb hby at_433) rfl ?_
        show Steps p.tables e below (T254.setTop (mkF m 435 #[.val (.int p1), .val (.int p2), .val (.int p3), .val (.int p4), .val (.int p5), .val (.int (p1 &&& (3 : Int32))), .val (.ref ww), .val (.int (1 : Int32)), .val (.int x169), .val (.int x173), .val (.int x177), .val (.int x181), .val (.ref b184), .val (.ref x255), .val (.int x257), .val (.int x258), .val (.int x259), .val (.long tot304), .second, .val (.long sum307), .second, .val (.int (1 : Int32)), .val (.long f312), .second, .val (.long f315), .second, .val (.long f318), .second, .val (.long e321), .second, .val (.long e324), .second, .val (.long e327), .second] [(.long e327)])) _
        refine XS.lconst X254.here hx rfl (hb hby at_435) ?_
        show Steps p.tables e below (T254.setTop (mkF m 436 #[.val (.int p1), .val (.int p2), .val (.int p3), .val (.int p4), .val (.int p5), .val (.int (p1 &&& (3 : Int32))), .val (.ref ww), .val (.int (1 : Int32)), .val (.int x169), .val (.int x173), .val (.int x177), .val (.int x181), .val (.ref b184), .val (.ref x255), .val (.int x257), .val (.int x258), .val (.int x259), .val (.long tot304), .second, .val (.long sum307), .second, .val (.int (1 : Int32)), .val (.long f312), .second, .val (.long f315), .second, .val (.long f318), .second, .val (.long e321), .second, .val (.long e324), .second, .val (.long e327), .second] [(.long (1 : Int64)), (.long e327)])) _
        refine XS.lcmp X254.here hx rfl (hb hby at_436) rfl ?_
        show Steps p.tables e below (T254.setTop (mkF m 437 #[.val (.int p1), .val (.int p2), .val (.int p3), .val (.int p4), .val (.int p5), .val (.int (p1 &&& (3 : Int32))), .val (.ref ww), .val (.int (1 : Int32)), .val (.int x169), .val (.int x173), .val (.int x177), .val (.int x181), .val (.ref b184), .val (.ref x255), .val (.int x257), .val (.int x258), .val (.int x259), .val (.long tot304), .second, .val (.long sum307), .second, .val (.int (1 : Int32)), .val (.long f312), .second, .val (.long f315), .second, .val (.long f318), .second, .val (.long e321), .second, .val (.long e324), .second, .val (.long e327), .second] [(.int (lcmpW e327 (1 : Int64)))])) _
        refine XS.ifNo X254.here hx rfl (hb hby at_437) rfl ((if0 _ _).trans (flt LE329.2.2.2.2.2.1).2.2.1) ?_
        show Steps p.tables e below (T254.setTop (mkF m 440 #[.val (.int p1), .val (.int p2), .val (.int p3), .val (.int p4), .val (.int p5), .val (.int (p1 &&& (3 : Int32))), .val (.ref ww), .val (.int (1 : Int32)), .val (.int x169), .val (.int x173), .val (.int x177), .val (.int x181), .val (.ref b184), .val (.ref x255), .val (.int x257), .val (.int x258), .val (.int x259), .val (.long tot304), .second, .val (.long sum307), .second, .val (.int (1 : Int32)), .val (.long f312), .second, .val (.long f315), .second, .val (.long f318), .second, .val (.long e321), .second, .val (.long e324), .second, .val (.long e327), .second] [])) _
        refine XS.lload X254.here hx rfl (hb hby at_440) rfl ?_
        show Steps p.tables e below (T254.setTop (mkF m 442 #[.val (.int p1), .val (.int p2), .val (.int p3), .val (.int p4), .val (.int p5), .val (.int (p1 &&& (3 : Int32))), .val (.ref ww), .val (.int (1 : Int32)), .val (.int x169), .val (.int x173), .val (.int x177), .val (.int x181), .val (.ref b184), .val (.ref x255), .val (.int x257), .val (.int x258), .val (.int x259), .val (.long tot304), .second, .val (.long sum307), .second, .val (.int (1 : Int32)), .val (.long f312), .second, .val (.long f315), .second, .val (.long f318), .second, .val (.long e321), .second, .val (.long e324), .second, .val (.long e327), .second] [(.long e321)])) _
        refine XS.lload X254.here hx rfl (hb hby at_442) rfl ?_
        show Steps p.tables e below (T254.setTop (mkF m 444 #[.val (.int p1), .val (.int p2), .val (.int p3), .val (.int p4), .val (.int p5), .val (.int (p1 &&& (3 : Int32))), .val (.ref ww), .val (.int (1 : Int32)), .val (.int x169), .val (.int x173), .val (.int x177), .val (.int x181), .val (.ref b184), .val (.ref x255), .val (.int x257), .val (.int x258), .val (.int x259), .val (.long tot304), .second, .val (.long sum307), .second, .val (.int (1 : Int32)), .val (.long f312), .second, .val (.long f315), .second, .val (.long f318), .second, .val (.long e321), .second, .val (.long e324), .second, .val (.long e327), .second] [(.long e324), (.long e321)])) _
        refine XS.lcmp X254.here hx rfl (hb hby at_444) rfl ?_
        show Steps p.tables e below (T254.setTop (mkF m 445 #[.val (.int p1), .val (.int p2), .val (.int p3), .val (.int p4), .val (.int p5), .val (.int (p1 &&& (3 : Int32))), .val (.ref ww), .val (.int (1 : Int32)), .val (.int x169), .val (.int x173), .val (.int x177), .val (.int x181), .val (.ref b184), .val (.ref x255), .val (.int x257), .val (.int x258), .val (.int x259), .val (.long tot304), .second, .val (.long sum307), .second, .val (.int (1 : Int32)), .val (.long f312), .second, .val (.long f315), .second, .val (.long f318), .second, .val (.long e321), .second, .val (.long e324), .second, .val (.long e327), .second] [(.int (lcmpW e321 e324))])) _
        refine XS.ifNo X254.here hx rfl (hb hby at_445) rfl ((if0 _ _).trans (flt LE329.2.2.2.2.2.2.1).1) ?_
        show Steps p.tables e below (T254.setTop (mkF m 448 #[.val (.int p1), .val (.int p2), .val (.int p3), .val (.int p4), .val (.int p5), .val (.int (p1 &&& (3 : Int32))), .val (.ref ww), .val (.int (1 : Int32)), .val (.int x169), .val (.int x173), .val (.int x177), .val (.int x181), .val (.ref b184), .val (.ref x255), .val (.int x257), .val (.int x258), .val (.int x259), .val (.long tot304), .second, .val (.long sum307), .second, .val (.int (1 : Int32)), .val (.long f312), .second, .val (.long f315), .second, .val (.long f318), .second, .val (.long e321), .second, .val (.long e324), .second, .val (.long e327), .second] [])) _
        refine XS.lload X254.here hx rfl (hb hby at_448) rfl ?_
        show Steps p.tables e below (T254.setTop (mkF m 450 #[.val (.int p1), .val (.int p2), .val (.int p3), .val (.int p4), .val (.int p5), .val (.int (p1 &&& (3 : Int32))), .val (.ref ww), .val (.int (1 : Int32)), .val (.int x169), .val (.int x173), .val (.int x177), .val (.int x181), .val (.ref b184), .val (.ref x255), .val (.int x257), .val (.int x258), .val (.int x259), .val (.long tot304), .second, .val (.long sum307), .second, .val (.int (1 : Int32)), .val (.long f312), .second, .val (.long f315), .second, .val (.long f318), .second, .val (.long e321), .second, .val (.long e324), .second, .val (.long e327), .second] [(.long e324)])) _
        refine XS.lload X254.here hx rfl (hb hby at_450) rfl ?_
        show Steps p.tables e below (T254.setTop (mkF m 452 #[.val (.int p1), .val (.int p2), .val (.int p3), .val (.int p4), .val (.int p5), .val (.int (p1 &&& (3 : Int32))), .val (.ref ww), .val (.int (1 : Int32)), .val (.int x169), .val (.int x173), .val (.int x177), .val (.int x181), .val (.ref b184), .val (.ref x255), .val (.int x257), .val (.int x258), .val (.int x259), .val (.long tot304), .second, .val (.long sum307), .second, .val (.int (1 : Int32)), .val (.long f312), .second, .val (.long f315), .second, .val (.long f318), .second, .val (.long e321), .second, .val (.long e324), .second, .val (.long e327), .second] [(.long e327), (.long e324)])) _
        refine XS.lcmp X254.here hx rfl (hb hby at_452) rfl ?_
        show Steps p.tables e below (T254.setTop (mkF m 453 #[.val (.int p1), .val (.int p2), .val (.int p3), .val (.int p4), .val (.int p5), .val (.int (p1 &&& (3 : Int32))), .val (.ref ww), .val (.int (1 : Int32)), .val (.int x169), .val (.int x173), .val (.int x177), .val (.int x181), .val (.ref b184), .val (.ref x255), .val (.int x257), .val (.int x258), .val (.int x259), .val (.long tot304), .second, .val (.long sum307), .second, .val (.int (1 : Int32)), .val (.long f312), .second, .val (.long f315), .second, .val (.long f318), .second, .val (.long e321), .second, .val (.long e324), .second, .val (.long e327), .second] [(.int (lcmpW e324 e327))])) _
        refine XS.ifNo X254.here hx rfl (hb hby at_453) rfl ((if0 _ _).trans (flt LE329.2.2.2.2.2.2.2.1).1) ?_
        show Steps p.tables e below (T254.setTop (mkF m 456 #[.val (.int p1), .val (.int p2), .val (.int p3), .val (.int p4), .val (.int p5), .val (.int (p1 &&& (3 : Int32))), .val (.ref ww), .val (.int (1 : Int32)), .val (.int x169), .val (.int x173), .val (.int x177), .val (.int x181), .val (.ref b184), .val (.ref x255), .val (.int x257), .val (.int x258), .val (.int x259), .val (.long tot304), .second, .val (.long sum307), .second, .val (.int (1 : Int32)), .val (.long f312), .second, .val (.long f315), .second, .val (.long f318), .second, .val (.long e321), .second, .val (.long e324), .second, .val (.long e327), .second] [])) _
        refine XS.lload X254.here hx rfl (hb hby at_456) rfl ?_
        show Steps p.tables e below (T254.setTop (mkF m 458 #[.val (.int p1), .val (.int p2), .val (.int p3), .val (.int p4), .val (.int p5), .val (.int (p1 &&& (3 : Int32))), .val (.ref ww), .val (.int (1 : Int32)), .val (.int x169), .val (.int x173), .val (.int x177), .val (.int x181), .val (.ref b184), .val (.ref x255), .val (.int x257), .val (.int x258), .val (.int x259), .val (.long tot304), .second, .val (.long sum307), .second, .val (.int (1 : Int32)), .val (.long f312), .second, .val (.long f315), .second, .val (.long f318), .second, .val (.long e321), .second, .val (.long e324), .second, .val (.long e327), .second] [(.long sum307)])) _
        refine XS.iload X254.here hx rfl (hb hby at_458) rfl ?_
        show Steps p.tables e below (T254.setTop (mkF m 460 #[.val (.int p1), .val (.int p2), .val (.int p3), .val (.int p4), .val (.int p5), .val (.int (p1 &&& (3 : Int32))), .val (.ref ww), .val (.int (1 : Int32)), .val (.int x169), .val (.int x173), .val (.int x177), .val (.int x181), .val (.ref b184), .val (.ref x255), .val (.int x257), .val (.int x258), .val (.int x259), .val (.long tot304), .second, .val (.long sum307), .second, .val (.int (1 : Int32)), .val (.long f312), .second, .val (.long f315), .second, .val (.long f318), .second, .val (.long e321), .second, .val (.long e324), .second, .val (.long e327), .second] [(.int x169), (.long sum307)])) _
        refine XS.i2l X254.here hx rfl (hb hby at_460) rfl ?_
        show Steps p.tables e below (T254.setTop (mkF m 461 #[.val (.int p1), .val (.int p2), .val (.int p3), .val (.int p4), .val (.int p5), .val (.int (p1 &&& (3 : Int32))), .val (.ref ww), .val (.int (1 : Int32)), .val (.int x169), .val (.int x173), .val (.int x177), .val (.int x181), .val (.ref b184), .val (.ref x255), .val (.int x257), .val (.int x258), .val (.int x259), .val (.long tot304), .second, .val (.long sum307), .second, .val (.int (1 : Int32)), .val (.long f312), .second, .val (.long f315), .second, .val (.long f318), .second, .val (.long e321), .second, .val (.long e324), .second, .val (.long e327), .second] [(.long (x169.toInt64)), (.long sum307)])) _
        refine XS.lcmp X254.here hx rfl (hb hby at_461) rfl ?_
        show Steps p.tables e below (T254.setTop (mkF m 462 #[.val (.int p1), .val (.int p2), .val (.int p3), .val (.int p4), .val (.int p5), .val (.int (p1 &&& (3 : Int32))), .val (.ref ww), .val (.int (1 : Int32)), .val (.int x169), .val (.int x173), .val (.int x177), .val (.int x181), .val (.ref b184), .val (.ref x255), .val (.int x257), .val (.int x258), .val (.int x259), .val (.long tot304), .second, .val (.long sum307), .second, .val (.int (1 : Int32)), .val (.long f312), .second, .val (.long f315), .second, .val (.long f318), .second, .val (.long e321), .second, .val (.long e324), .second, .val (.long e327), .second] [(.int (lcmpW sum307 (x169.toInt64)))])) _
        refine XS.ifNo X254.here hx rfl (hb hby at_462) rfl ((if0 _ _).trans (teq LE329.2.2.2.2.2.2.2.2).2) ?_
        show Steps p.tables e below (T254.setTop (mkF m 465 #[.val (.int p1), .val (.int p2), .val (.int p3), .val (.int p4), .val (.int p5), .val (.int (p1 &&& (3 : Int32))), .val (.ref ww), .val (.int (1 : Int32)), .val (.int x169), .val (.int x173), .val (.int x177), .val (.int x181), .val (.ref b184), .val (.ref x255), .val (.int x257), .val (.int x258), .val (.int x259), .val (.long tot304), .second, .val (.long sum307), .second, .val (.int (1 : Int32)), .val (.long f312), .second, .val (.long f315), .second, .val (.long f318), .second, .val (.long e321), .second, .val (.long e324), .second, .val (.long e327), .second] [])) _
        refine XS.iconst X254.here hx rfl (hb hby at_465) ?_
        show Steps p.tables e below (T254.setTop (mkF m 466 #[.val (.int p1), .val (.int p2), .val (.int p3), .val (.int p4), .val (.int p5), .val (.int (p1 &&& (3 : Int32))), .val (.ref ww), .val (.int (1 : Int32)), .val (.int x169), .val (.int x173), .val (.int x177), .val (.int x181), .val (.ref b184), .val (.ref x255), .val (.int x257), .val (.int x258), .val (.int x259), .val (.long tot304), .second, .val (.long sum307), .second, .val (.int (1 : Int32)), .val (.long f312), .second, .val (.long f315), .second, .val (.long f318), .second, .val (.long e321), .second, .val (.long e324), .second, .val (.long e327), .second] [(.int (1 : Int32))])) _
        refine XS.goto X254.here hx rfl (pc0 := 466) (pc' := 470) rfl (hb hby at_466) (by decide) (by decide) ?_
        show Steps p.tables e below (T254.setTop (mkF m 470 #[.val (.int p1), .val (.int p2), .val (.int p3), .val (.int p4), .val (.int p5), .val (.int (p1 &&& (3 : Int32))), .val (.ref ww), .val (.int (1 : Int32)), .val (.int x169), .val (.int x173), .val (.int x177), .val (.int x181), .val (.ref b184), .val (.ref x255), .val (.int x257), .val (.int x258), .val (.int x259), .val (.long tot304), .second, .val (.long sum307), .second, .val (.int (1 : Int32)), .val (.long f312), .second, .val (.long f315), .second, .val (.long f318), .second, .val (.long e321), .second, .val (.long e324), .second, .val (.long e327), .second] [(.int (1 : Int32))])) _
        exact k)
      obtain ⟨fs, hr, hrun, hended, hW, hsame⟩ := X254.leave (v := some (.int (1 : Int32))) (hlocks := BodyLoose.notSynchronized Bd) (fun h => by rw [Bd.returns] at h; cases h)
      refine ⟨_, _, pre330 _ ?_, hrun, hended, _, _, rfl, ?_, ⟨_, rfl⟩, hW, hsame.mono (by decide) (by decide)⟩
      · exact retN X254 hx (t := .boolean) Bd.returns (by simp) (hb hby at_470) hr
      · show Q_law Z p1 p2 p3 p4 p5 w0 w1 w2 w3 h0 n0 _ T254.heap _
        exact ⟨rfl, N254, K254⟩
    · have pre331 := fun (t : State) (k : Steps p.tables e below (T254.setTop (mkF m 332 #[.val (.int p1), .val (.int p2), .val (.int p3), .val (.int p4), .val (.int p5), .val (.int (p1 &&& (3 : Int32))), .val (.ref ww), .val (.int (1 : Int32)), .val (.int x169), .val (.int x173), .val (.int x177), .val (.int x181), .val (.ref b184), .val (.ref x255), .val (.int x257), .val (.int x258), .val (.int x259), .val (.long tot304), .second, .val (.long sum307), .second, .val (.int (1 : Int32)), .unset, .unset, .unset, .unset, .unset, .unset, .unset, .unset, .unset, .unset, .unset, .unset] [(.int (1 : Int32))])) t) => pre309 t (by
        refine XS.ifNo X254.here hx rfl (hb hby at_303) rfl ((if0 _ _).trans (flt hc310).1) ?_
        show Steps p.tables e below (T254.setTop (mkF m 306 #[.val (.int p1), .val (.int p2), .val (.int p3), .val (.int p4), .val (.int p5), .val (.int (p1 &&& (3 : Int32))), .val (.ref ww), .val (.int (1 : Int32)), .val (.int x169), .val (.int x173), .val (.int x177), .val (.int x181), .val (.ref b184), .val (.ref x255), .val (.int x257), .val (.int x258), .val (.int x259), .val (.long tot304), .second, .val (.long sum307), .second, .val (.int (1 : Int32)), .unset, .unset, .unset, .unset, .unset, .unset, .unset, .unset, .unset, .unset, .unset, .unset] [])) _
        refine XS.iload X254.here hx rfl (hb hby at_306) rfl ?_
        show Steps p.tables e below (T254.setTop (mkF m 308 #[.val (.int p1), .val (.int p2), .val (.int p3), .val (.int p4), .val (.int p5), .val (.int (p1 &&& (3 : Int32))), .val (.ref ww), .val (.int (1 : Int32)), .val (.int x169), .val (.int x173), .val (.int x177), .val (.int x181), .val (.ref b184), .val (.ref x255), .val (.int x257), .val (.int x258), .val (.int x259), .val (.long tot304), .second, .val (.long sum307), .second, .val (.int (1 : Int32)), .unset, .unset, .unset, .unset, .unset, .unset, .unset, .unset, .unset, .unset, .unset, .unset] [(.int x257)])) _
        refine XS.iload X254.here hx rfl (hb hby at_308) rfl ?_
        show Steps p.tables e below (T254.setTop (mkF m 310 #[.val (.int p1), .val (.int p2), .val (.int p3), .val (.int p4), .val (.int p5), .val (.int (p1 &&& (3 : Int32))), .val (.ref ww), .val (.int (1 : Int32)), .val (.int x169), .val (.int x173), .val (.int x177), .val (.int x181), .val (.ref b184), .val (.ref x255), .val (.int x257), .val (.int x258), .val (.int x259), .val (.long tot304), .second, .val (.long sum307), .second, .val (.int (1 : Int32)), .unset, .unset, .unset, .unset, .unset, .unset, .unset, .unset, .unset, .unset, .unset, .unset] [(.int x173), (.int x257)])) _
        refine XS.icmpNo X254.here hx rfl (hb hby at_310) rfl (teq (own_law_all hpq263 h_tot304 hc310).1).2 ?_
        show Steps p.tables e below (T254.setTop (mkF m 313 #[.val (.int p1), .val (.int p2), .val (.int p3), .val (.int p4), .val (.int p5), .val (.int (p1 &&& (3 : Int32))), .val (.ref ww), .val (.int (1 : Int32)), .val (.int x169), .val (.int x173), .val (.int x177), .val (.int x181), .val (.ref b184), .val (.ref x255), .val (.int x257), .val (.int x258), .val (.int x259), .val (.long tot304), .second, .val (.long sum307), .second, .val (.int (1 : Int32)), .unset, .unset, .unset, .unset, .unset, .unset, .unset, .unset, .unset, .unset, .unset, .unset] [])) _
        refine XS.iload X254.here hx rfl (hb hby at_313) rfl ?_
        show Steps p.tables e below (T254.setTop (mkF m 315 #[.val (.int p1), .val (.int p2), .val (.int p3), .val (.int p4), .val (.int p5), .val (.int (p1 &&& (3 : Int32))), .val (.ref ww), .val (.int (1 : Int32)), .val (.int x169), .val (.int x173), .val (.int x177), .val (.int x181), .val (.ref b184), .val (.ref x255), .val (.int x257), .val (.int x258), .val (.int x259), .val (.long tot304), .second, .val (.long sum307), .second, .val (.int (1 : Int32)), .unset, .unset, .unset, .unset, .unset, .unset, .unset, .unset, .unset, .unset, .unset, .unset] [(.int x258)])) _
        refine XS.iload X254.here hx rfl (hb hby at_315) rfl ?_
        show Steps p.tables e below (T254.setTop (mkF m 317 #[.val (.int p1), .val (.int p2), .val (.int p3), .val (.int p4), .val (.int p5), .val (.int (p1 &&& (3 : Int32))), .val (.ref ww), .val (.int (1 : Int32)), .val (.int x169), .val (.int x173), .val (.int x177), .val (.int x181), .val (.ref b184), .val (.ref x255), .val (.int x257), .val (.int x258), .val (.int x259), .val (.long tot304), .second, .val (.long sum307), .second, .val (.int (1 : Int32)), .unset, .unset, .unset, .unset, .unset, .unset, .unset, .unset, .unset, .unset, .unset, .unset] [(.int x177), (.int x258)])) _
        refine XS.icmpNo X254.here hx rfl (hb hby at_317) rfl (teq (own_law_all hpq263 h_tot304 hc310).2.1).2 ?_
        show Steps p.tables e below (T254.setTop (mkF m 320 #[.val (.int p1), .val (.int p2), .val (.int p3), .val (.int p4), .val (.int p5), .val (.int (p1 &&& (3 : Int32))), .val (.ref ww), .val (.int (1 : Int32)), .val (.int x169), .val (.int x173), .val (.int x177), .val (.int x181), .val (.ref b184), .val (.ref x255), .val (.int x257), .val (.int x258), .val (.int x259), .val (.long tot304), .second, .val (.long sum307), .second, .val (.int (1 : Int32)), .unset, .unset, .unset, .unset, .unset, .unset, .unset, .unset, .unset, .unset, .unset, .unset] [])) _
        refine XS.iload X254.here hx rfl (hb hby at_320) rfl ?_
        show Steps p.tables e below (T254.setTop (mkF m 322 #[.val (.int p1), .val (.int p2), .val (.int p3), .val (.int p4), .val (.int p5), .val (.int (p1 &&& (3 : Int32))), .val (.ref ww), .val (.int (1 : Int32)), .val (.int x169), .val (.int x173), .val (.int x177), .val (.int x181), .val (.ref b184), .val (.ref x255), .val (.int x257), .val (.int x258), .val (.int x259), .val (.long tot304), .second, .val (.long sum307), .second, .val (.int (1 : Int32)), .unset, .unset, .unset, .unset, .unset, .unset, .unset, .unset, .unset, .unset, .unset, .unset] [(.int x259)])) _
        refine XS.iload X254.here hx rfl (hb hby at_322) rfl ?_
        show Steps p.tables e below (T254.setTop (mkF m 324 #[.val (.int p1), .val (.int p2), .val (.int p3), .val (.int p4), .val (.int p5), .val (.int (p1 &&& (3 : Int32))), .val (.ref ww), .val (.int (1 : Int32)), .val (.int x169), .val (.int x173), .val (.int x177), .val (.int x181), .val (.ref b184), .val (.ref x255), .val (.int x257), .val (.int x258), .val (.int x259), .val (.long tot304), .second, .val (.long sum307), .second, .val (.int (1 : Int32)), .unset, .unset, .unset, .unset, .unset, .unset, .unset, .unset, .unset, .unset, .unset, .unset] [(.int x181), (.int x259)])) _
        refine XS.icmpNo X254.here hx rfl (hb hby at_324) rfl (teq (own_law_all hpq263 h_tot304 hc310).2.2).2 ?_
        show Steps p.tables e below (T254.setTop (mkF m 327 #[.val (.int p1), .val (.int p2), .val (.int p3), .val (.int p4), .val (.int p5), .val (.int (p1 &&& (3 : Int32))), .val (.ref ww), .val (.int (1 : Int32)), .val (.int x169), .val (.int x173), .val (.int x177), .val (.int x181), .val (.ref b184), .val (.ref x255), .val (.int x257), .val (.int x258), .val (.int x259), .val (.long tot304), .second, .val (.long sum307), .second, .val (.int (1 : Int32)), .unset, .unset, .unset, .unset, .unset, .unset, .unset, .unset, .unset, .unset, .unset, .unset] [])) _
        refine XS.iconst X254.here hx rfl (hb hby at_327) ?_
        show Steps p.tables e below (T254.setTop (mkF m 328 #[.val (.int p1), .val (.int p2), .val (.int p3), .val (.int p4), .val (.int p5), .val (.int (p1 &&& (3 : Int32))), .val (.ref ww), .val (.int (1 : Int32)), .val (.int x169), .val (.int x173), .val (.int x177), .val (.int x181), .val (.ref b184), .val (.ref x255), .val (.int x257), .val (.int x258), .val (.int x259), .val (.long tot304), .second, .val (.long sum307), .second, .val (.int (1 : Int32)), .unset, .unset, .unset, .unset, .unset, .unset, .unset, .unset, .unset, .unset, .unset, .unset] [(.int (1 : Int32))])) _
        refine XS.goto X254.here hx rfl (pc0 := 328) (pc' := 332) rfl (hb hby at_328) (by decide) (by decide) ?_
        show Steps p.tables e below (T254.setTop (mkF m 332 #[.val (.int p1), .val (.int p2), .val (.int p3), .val (.int p4), .val (.int p5), .val (.int (p1 &&& (3 : Int32))), .val (.ref ww), .val (.int (1 : Int32)), .val (.int x169), .val (.int x173), .val (.int x177), .val (.int x181), .val (.ref b184), .val (.ref x255), .val (.int x257), .val (.int x258), .val (.int x259), .val (.long tot304), .second, .val (.long sum307), .second, .val (.int (1 : Int32)), .unset, .unset, .unset, .unset, .unset, .unset, .unset, .unset, .unset, .unset, .unset, .unset] [(.int (1 : Int32))])) _
        exact k)
      obtain ⟨fs, hr, hrun, hended, hW, hsame⟩ := X254.leave (v := some (.int (1 : Int32))) (hlocks := BodyLoose.notSynchronized Bd) (fun h => by rw [Bd.returns] at h; cases h)
      refine ⟨_, _, pre331 _ ?_, hrun, hended, _, _, rfl, ?_, ⟨_, rfl⟩, hW, hsame.mono (by decide) (by decide)⟩
      · exact retN X254 hx (t := .boolean) Bd.returns (by simp) (hb hby at_332) hr
      · show Q_law Z p1 p2 p3 p4 p5 w0 w1 w2 w3 h0 n0 _ T254.heap _
        exact ⟨rfl, N254, K254⟩
  have pre332 := fun (t : State) (k : Steps p.tables e below (s₁.setTop (mkF m 7 #[.val (.int p1), .val (.int p2), .val (.int p3), .val (.int p4), .val (.int p5), .val (.int (p1 &&& (3 : Int32))), .unset, .unset, .unset, .unset, .unset, .unset, .unset, .unset, .unset, .unset, .unset, .unset, .unset, .unset, .unset, .unset, .unset, .unset, .unset, .unset, .unset, .unset, .unset, .unset, .unset, .unset, .unset, .unset] [(.int (p1 &&& (3 : Int32)))])) t) => pre0 t (by
    refine XS.iloadN X0.here hx rfl (hb hby at_0) rfl ?_
    show Steps p.tables e below (s₁.setTop (mkF m 1 #[.val (.int p1), .val (.int p2), .val (.int p3), .val (.int p4), .val (.int p5), .unset, .unset, .unset, .unset, .unset, .unset, .unset, .unset, .unset, .unset, .unset, .unset, .unset, .unset, .unset, .unset, .unset, .unset, .unset, .unset, .unset, .unset, .unset, .unset, .unset, .unset, .unset, .unset, .unset] [(.int p1)])) _
    refine XS.iconst X0.here hx rfl (hb hby at_1) ?_
    show Steps p.tables e below (s₁.setTop (mkF m 2 #[.val (.int p1), .val (.int p2), .val (.int p3), .val (.int p4), .val (.int p5), .unset, .unset, .unset, .unset, .unset, .unset, .unset, .unset, .unset, .unset, .unset, .unset, .unset, .unset, .unset, .unset, .unset, .unset, .unset, .unset, .unset, .unset, .unset, .unset, .unset, .unset, .unset, .unset, .unset] [(.int (3 : Int32)), (.int p1)])) _
    refine XS.iand X0.here hx rfl (hb hby at_2) rfl ?_
    show Steps p.tables e below (s₁.setTop (mkF m 3 #[.val (.int p1), .val (.int p2), .val (.int p3), .val (.int p4), .val (.int p5), .unset, .unset, .unset, .unset, .unset, .unset, .unset, .unset, .unset, .unset, .unset, .unset, .unset, .unset, .unset, .unset, .unset, .unset, .unset, .unset, .unset, .unset, .unset, .unset, .unset, .unset, .unset, .unset, .unset] [(.int (p1 &&& (3 : Int32)))])) _
    refine XS.istore X0.here hx rfl (hb hby at_3) rfl (l' := #[.val (.int p1), .val (.int p2), .val (.int p3), .val (.int p4), .val (.int p5), .val (.int (p1 &&& (3 : Int32))), .unset, .unset, .unset, .unset, .unset, .unset, .unset, .unset, .unset, .unset, .unset, .unset, .unset, .unset, .unset, .unset, .unset, .unset, .unset, .unset, .unset, .unset, .unset, .unset, .unset, .unset, .unset, .unset]) rfl ?_
    show Steps p.tables e below (s₁.setTop (mkF m 5 #[.val (.int p1), .val (.int p2), .val (.int p3), .val (.int p4), .val (.int p5), .val (.int (p1 &&& (3 : Int32))), .unset, .unset, .unset, .unset, .unset, .unset, .unset, .unset, .unset, .unset, .unset, .unset, .unset, .unset, .unset, .unset, .unset, .unset, .unset, .unset, .unset, .unset, .unset, .unset, .unset, .unset, .unset, .unset] [])) _
    refine XS.iload X0.here hx rfl (hb hby at_5) rfl ?_
    show Steps p.tables e below (s₁.setTop (mkF m 7 #[.val (.int p1), .val (.int p2), .val (.int p3), .val (.int p4), .val (.int p5), .val (.int (p1 &&& (3 : Int32))), .unset, .unset, .unset, .unset, .unset, .unset, .unset, .unset, .unset, .unset, .unset, .unset, .unset, .unset, .unset, .unset, .unset, .unset, .unset, .unset, .unset, .unset, .unset, .unset, .unset, .unset, .unset, .unset] [(.int (p1 &&& (3 : Int32)))])) _
    exact k)
  by_cases hc333 : (p1 &&& (3 : Int32)) = (0 : Int32)
  · obtain ⟨T334, X334, e334, st334⟩ := getS2 X0 hx hZ hown (host := "") (Or.inl (hw _ (List.mem_of_getElem? (i := 0) rfl))) Via.refl e0 H0_S (g := (mkF m 10 #[.val (.int p1), .val (.int p2), .val (.int p3), .val (.int p4), .val (.int p5), .val (.int (p1 &&& (3 : Int32))), .unset, .unset, .unset, .unset, .unset, .unset, .unset, .unset, .unset, .unset, .unset, .unset, .unset, .unset, .unset, .unset, .unset, .unset, .unset, .unset, .unset, .unset, .unset, .unset, .unset, .unset, .unset, .unset] [])) rfl (hb hby at_10)
    have pre335 := fun (t : State) (k : Steps p.tables e below (T334.setTop (mkF m 70 #[.val (.int p1), .val (.int p2), .val (.int p3), .val (.int p4), .val (.int p5), .val (.int (p1 &&& (3 : Int32))), .val (.ref w0), .val (.int (0 : Int32)), .unset, .unset, .unset, .unset, .unset, .unset, .unset, .unset, .unset, .unset, .unset, .unset, .unset, .unset, .unset, .unset, .unset, .unset, .unset, .unset, .unset, .unset, .unset, .unset, .unset, .unset] [])) t) => pre332 t (by
      refine XS.ifNo X0.here hx rfl (hb hby at_7) rfl ((if0 _ _).trans (teq hc333).2) ?_
      show Steps p.tables e below (s₁.setTop (mkF m 10 #[.val (.int p1), .val (.int p2), .val (.int p3), .val (.int p4), .val (.int p5), .val (.int (p1 &&& (3 : Int32))), .unset, .unset, .unset, .unset, .unset, .unset, .unset, .unset, .unset, .unset, .unset, .unset, .unset, .unset, .unset, .unset, .unset, .unset, .unset, .unset, .unset, .unset, .unset, .unset, .unset, .unset, .unset, .unset] [])) _
      refine st334 _ ?_
      show Steps p.tables e below (T334.setTop (mkF m 13 #[.val (.int p1), .val (.int p2), .val (.int p3), .val (.int p4), .val (.int p5), .val (.int (p1 &&& (3 : Int32))), .unset, .unset, .unset, .unset, .unset, .unset, .unset, .unset, .unset, .unset, .unset, .unset, .unset, .unset, .unset, .unset, .unset, .unset, .unset, .unset, .unset, .unset, .unset, .unset, .unset, .unset, .unset, .unset] [(.ref w0)])) _
      refine XS.astore X334.here hx rfl (hb hby at_13) rfl rfl (l' := #[.val (.int p1), .val (.int p2), .val (.int p3), .val (.int p4), .val (.int p5), .val (.int (p1 &&& (3 : Int32))), .val (.ref w0), .unset, .unset, .unset, .unset, .unset, .unset, .unset, .unset, .unset, .unset, .unset, .unset, .unset, .unset, .unset, .unset, .unset, .unset, .unset, .unset, .unset, .unset, .unset, .unset, .unset, .unset, .unset]) rfl ?_
      show Steps p.tables e below (T334.setTop (mkF m 15 #[.val (.int p1), .val (.int p2), .val (.int p3), .val (.int p4), .val (.int p5), .val (.int (p1 &&& (3 : Int32))), .val (.ref w0), .unset, .unset, .unset, .unset, .unset, .unset, .unset, .unset, .unset, .unset, .unset, .unset, .unset, .unset, .unset, .unset, .unset, .unset, .unset, .unset, .unset, .unset, .unset, .unset, .unset, .unset, .unset] [])) _
      refine XS.goto X334.here hx rfl (pc0 := 15) (pc' := 51) rfl (hb hby at_15) (by decide) (by decide) ?_
      show Steps p.tables e below (T334.setTop (mkF m 51 #[.val (.int p1), .val (.int p2), .val (.int p3), .val (.int p4), .val (.int p5), .val (.int (p1 &&& (3 : Int32))), .val (.ref w0), .unset, .unset, .unset, .unset, .unset, .unset, .unset, .unset, .unset, .unset, .unset, .unset, .unset, .unset, .unset, .unset, .unset, .unset, .unset, .unset, .unset, .unset, .unset, .unset, .unset, .unset, .unset] [])) _
      refine XS.iload X334.here hx rfl (hb hby at_51) rfl ?_
      show Steps p.tables e below (T334.setTop (mkF m 53 #[.val (.int p1), .val (.int p2), .val (.int p3), .val (.int p4), .val (.int p5), .val (.int (p1 &&& (3 : Int32))), .val (.ref w0), .unset, .unset, .unset, .unset, .unset, .unset, .unset, .unset, .unset, .unset, .unset, .unset, .unset, .unset, .unset, .unset, .unset, .unset, .unset, .unset, .unset, .unset, .unset, .unset, .unset, .unset, .unset] [(.int (p1 &&& (3 : Int32)))])) _
      refine XS.iconst X334.here hx rfl (hb hby at_53) ?_
      show Steps p.tables e below (T334.setTop (mkF m 54 #[.val (.int p1), .val (.int p2), .val (.int p3), .val (.int p4), .val (.int p5), .val (.int (p1 &&& (3 : Int32))), .val (.ref w0), .unset, .unset, .unset, .unset, .unset, .unset, .unset, .unset, .unset, .unset, .unset, .unset, .unset, .unset, .unset, .unset, .unset, .unset, .unset, .unset, .unset, .unset, .unset, .unset, .unset, .unset, .unset] [(.int (1 : Int32)), (.int (p1 &&& (3 : Int32)))])) _
      refine XS.icmpNo X334.here hx rfl (hb hby at_54) rfl (feq (by rw [hc333]; decide)).1 ?_
      show Steps p.tables e below (T334.setTop (mkF m 57 #[.val (.int p1), .val (.int p2), .val (.int p3), .val (.int p4), .val (.int p5), .val (.int (p1 &&& (3 : Int32))), .val (.ref w0), .unset, .unset, .unset, .unset, .unset, .unset, .unset, .unset, .unset, .unset, .unset, .unset, .unset, .unset, .unset, .unset, .unset, .unset, .unset, .unset, .unset, .unset, .unset, .unset, .unset, .unset, .unset] [])) _
      refine XS.iload X334.here hx rfl (hb hby at_57) rfl ?_
      show Steps p.tables e below (T334.setTop (mkF m 59 #[.val (.int p1), .val (.int p2), .val (.int p3), .val (.int p4), .val (.int p5), .val (.int (p1 &&& (3 : Int32))), .val (.ref w0), .unset, .unset, .unset, .unset, .unset, .unset, .unset, .unset, .unset, .unset, .unset, .unset, .unset, .unset, .unset, .unset, .unset, .unset, .unset, .unset, .unset, .unset, .unset, .unset, .unset, .unset, .unset] [(.int (p1 &&& (3 : Int32)))])) _
      refine XS.iconst X334.here hx rfl (hb hby at_59) ?_
      show Steps p.tables e below (T334.setTop (mkF m 60 #[.val (.int p1), .val (.int p2), .val (.int p3), .val (.int p4), .val (.int p5), .val (.int (p1 &&& (3 : Int32))), .val (.ref w0), .unset, .unset, .unset, .unset, .unset, .unset, .unset, .unset, .unset, .unset, .unset, .unset, .unset, .unset, .unset, .unset, .unset, .unset, .unset, .unset, .unset, .unset, .unset, .unset, .unset, .unset, .unset] [(.int (2 : Int32)), (.int (p1 &&& (3 : Int32)))])) _
      refine XS.icmpYes X334.here hx rfl (pc0 := 60) (pc' := 67) rfl (hb hby at_60) rfl (feq (by rw [hc333]; decide)).2 (by decide) (by decide) ?_
      show Steps p.tables e below (T334.setTop (mkF m 67 #[.val (.int p1), .val (.int p2), .val (.int p3), .val (.int p4), .val (.int p5), .val (.int (p1 &&& (3 : Int32))), .val (.ref w0), .unset, .unset, .unset, .unset, .unset, .unset, .unset, .unset, .unset, .unset, .unset, .unset, .unset, .unset, .unset, .unset, .unset, .unset, .unset, .unset, .unset, .unset, .unset, .unset, .unset, .unset, .unset] [])) _
      refine XS.iconst X334.here hx rfl (hb hby at_67) ?_
      show Steps p.tables e below (T334.setTop (mkF m 68 #[.val (.int p1), .val (.int p2), .val (.int p3), .val (.int p4), .val (.int p5), .val (.int (p1 &&& (3 : Int32))), .val (.ref w0), .unset, .unset, .unset, .unset, .unset, .unset, .unset, .unset, .unset, .unset, .unset, .unset, .unset, .unset, .unset, .unset, .unset, .unset, .unset, .unset, .unset, .unset, .unset, .unset, .unset, .unset, .unset] [(.int (0 : Int32))])) _
      refine XS.istore X334.here hx rfl (hb hby at_68) rfl (l' := #[.val (.int p1), .val (.int p2), .val (.int p3), .val (.int p4), .val (.int p5), .val (.int (p1 &&& (3 : Int32))), .val (.ref w0), .val (.int (0 : Int32)), .unset, .unset, .unset, .unset, .unset, .unset, .unset, .unset, .unset, .unset, .unset, .unset, .unset, .unset, .unset, .unset, .unset, .unset, .unset, .unset, .unset, .unset, .unset, .unset, .unset, .unset]) rfl ?_
      show Steps p.tables e below (T334.setTop (mkF m 70 #[.val (.int p1), .val (.int p2), .val (.int p3), .val (.int p4), .val (.int p5), .val (.int (p1 &&& (3 : Int32))), .val (.ref w0), .val (.int (0 : Int32)), .unset, .unset, .unset, .unset, .unset, .unset, .unset, .unset, .unset, .unset, .unset, .unset, .unset, .unset, .unset, .unset, .unset, .unset, .unset, .unset, .unset, .unset, .unset, .unset, .unset, .unset] [])) _
      exact k)
    obtain ⟨s2, o2, hs2, hr2⟩ := tl0 w0 T334 _ N0 X334 e334 H4_E H8_F
    exact ⟨s2, o2, pre335 _ hs2, hr2⟩
  · have pre336 := fun (t : State) (k : Steps p.tables e below (s₁.setTop (mkF m 21 #[.val (.int p1), .val (.int p2), .val (.int p3), .val (.int p4), .val (.int p5), .val (.int (p1 &&& (3 : Int32))), .unset, .unset, .unset, .unset, .unset, .unset, .unset, .unset, .unset, .unset, .unset, .unset, .unset, .unset, .unset, .unset, .unset, .unset, .unset, .unset, .unset, .unset, .unset, .unset, .unset, .unset, .unset, .unset] [(.int (1 : Int32)), (.int (p1 &&& (3 : Int32)))])) t) => pre332 t (by
      refine XS.ifYes X0.here hx rfl (pc0 := 7) (pc' := 18) rfl (hb hby at_7) rfl ((if0 _ _).trans (feq hc333).2) (by decide) (by decide) ?_
      show Steps p.tables e below (s₁.setTop (mkF m 18 #[.val (.int p1), .val (.int p2), .val (.int p3), .val (.int p4), .val (.int p5), .val (.int (p1 &&& (3 : Int32))), .unset, .unset, .unset, .unset, .unset, .unset, .unset, .unset, .unset, .unset, .unset, .unset, .unset, .unset, .unset, .unset, .unset, .unset, .unset, .unset, .unset, .unset, .unset, .unset, .unset, .unset, .unset, .unset] [])) _
      refine XS.iload X0.here hx rfl (hb hby at_18) rfl ?_
      show Steps p.tables e below (s₁.setTop (mkF m 20 #[.val (.int p1), .val (.int p2), .val (.int p3), .val (.int p4), .val (.int p5), .val (.int (p1 &&& (3 : Int32))), .unset, .unset, .unset, .unset, .unset, .unset, .unset, .unset, .unset, .unset, .unset, .unset, .unset, .unset, .unset, .unset, .unset, .unset, .unset, .unset, .unset, .unset, .unset, .unset, .unset, .unset, .unset, .unset] [(.int (p1 &&& (3 : Int32)))])) _
      refine XS.iconst X0.here hx rfl (hb hby at_20) ?_
      show Steps p.tables e below (s₁.setTop (mkF m 21 #[.val (.int p1), .val (.int p2), .val (.int p3), .val (.int p4), .val (.int p5), .val (.int (p1 &&& (3 : Int32))), .unset, .unset, .unset, .unset, .unset, .unset, .unset, .unset, .unset, .unset, .unset, .unset, .unset, .unset, .unset, .unset, .unset, .unset, .unset, .unset, .unset, .unset, .unset, .unset, .unset, .unset, .unset, .unset] [(.int (1 : Int32)), (.int (p1 &&& (3 : Int32)))])) _
      exact k)
    by_cases hc337 : (p1 &&& (3 : Int32)) = (1 : Int32)
    · obtain ⟨T338, X338, e338, st338⟩ := getS2 X0 hx hZ hown (host := "") (Or.inl (hw _ (List.mem_of_getElem? (i := 36) rfl))) Via.refl e0 H1_S (g := (mkF m 24 #[.val (.int p1), .val (.int p2), .val (.int p3), .val (.int p4), .val (.int p5), .val (.int (p1 &&& (3 : Int32))), .unset, .unset, .unset, .unset, .unset, .unset, .unset, .unset, .unset, .unset, .unset, .unset, .unset, .unset, .unset, .unset, .unset, .unset, .unset, .unset, .unset, .unset, .unset, .unset, .unset, .unset, .unset, .unset] [])) rfl (hb hby at_24)
      have pre339 := fun (t : State) (k : Steps p.tables e below (T338.setTop (mkF m 70 #[.val (.int p1), .val (.int p2), .val (.int p3), .val (.int p4), .val (.int p5), .val (.int (p1 &&& (3 : Int32))), .val (.ref w1), .val (.int (1 : Int32)), .unset, .unset, .unset, .unset, .unset, .unset, .unset, .unset, .unset, .unset, .unset, .unset, .unset, .unset, .unset, .unset, .unset, .unset, .unset, .unset, .unset, .unset, .unset, .unset, .unset, .unset] [])) t) => pre336 t (by
        refine XS.icmpNo X0.here hx rfl (hb hby at_21) rfl (teq hc337).2 ?_
        show Steps p.tables e below (s₁.setTop (mkF m 24 #[.val (.int p1), .val (.int p2), .val (.int p3), .val (.int p4), .val (.int p5), .val (.int (p1 &&& (3 : Int32))), .unset, .unset, .unset, .unset, .unset, .unset, .unset, .unset, .unset, .unset, .unset, .unset, .unset, .unset, .unset, .unset, .unset, .unset, .unset, .unset, .unset, .unset, .unset, .unset, .unset, .unset, .unset, .unset] [])) _
        refine st338 _ ?_
        show Steps p.tables e below (T338.setTop (mkF m 27 #[.val (.int p1), .val (.int p2), .val (.int p3), .val (.int p4), .val (.int p5), .val (.int (p1 &&& (3 : Int32))), .unset, .unset, .unset, .unset, .unset, .unset, .unset, .unset, .unset, .unset, .unset, .unset, .unset, .unset, .unset, .unset, .unset, .unset, .unset, .unset, .unset, .unset, .unset, .unset, .unset, .unset, .unset, .unset] [(.ref w1)])) _
        refine XS.astore X338.here hx rfl (hb hby at_27) rfl rfl (l' := #[.val (.int p1), .val (.int p2), .val (.int p3), .val (.int p4), .val (.int p5), .val (.int (p1 &&& (3 : Int32))), .val (.ref w1), .unset, .unset, .unset, .unset, .unset, .unset, .unset, .unset, .unset, .unset, .unset, .unset, .unset, .unset, .unset, .unset, .unset, .unset, .unset, .unset, .unset, .unset, .unset, .unset, .unset, .unset, .unset]) rfl ?_
        show Steps p.tables e below (T338.setTop (mkF m 29 #[.val (.int p1), .val (.int p2), .val (.int p3), .val (.int p4), .val (.int p5), .val (.int (p1 &&& (3 : Int32))), .val (.ref w1), .unset, .unset, .unset, .unset, .unset, .unset, .unset, .unset, .unset, .unset, .unset, .unset, .unset, .unset, .unset, .unset, .unset, .unset, .unset, .unset, .unset, .unset, .unset, .unset, .unset, .unset, .unset] [])) _
        refine XS.goto X338.here hx rfl (pc0 := 29) (pc' := 51) rfl (hb hby at_29) (by decide) (by decide) ?_
        show Steps p.tables e below (T338.setTop (mkF m 51 #[.val (.int p1), .val (.int p2), .val (.int p3), .val (.int p4), .val (.int p5), .val (.int (p1 &&& (3 : Int32))), .val (.ref w1), .unset, .unset, .unset, .unset, .unset, .unset, .unset, .unset, .unset, .unset, .unset, .unset, .unset, .unset, .unset, .unset, .unset, .unset, .unset, .unset, .unset, .unset, .unset, .unset, .unset, .unset, .unset] [])) _
        refine XS.iload X338.here hx rfl (hb hby at_51) rfl ?_
        show Steps p.tables e below (T338.setTop (mkF m 53 #[.val (.int p1), .val (.int p2), .val (.int p3), .val (.int p4), .val (.int p5), .val (.int (p1 &&& (3 : Int32))), .val (.ref w1), .unset, .unset, .unset, .unset, .unset, .unset, .unset, .unset, .unset, .unset, .unset, .unset, .unset, .unset, .unset, .unset, .unset, .unset, .unset, .unset, .unset, .unset, .unset, .unset, .unset, .unset, .unset] [(.int (p1 &&& (3 : Int32)))])) _
        refine XS.iconst X338.here hx rfl (hb hby at_53) ?_
        show Steps p.tables e below (T338.setTop (mkF m 54 #[.val (.int p1), .val (.int p2), .val (.int p3), .val (.int p4), .val (.int p5), .val (.int (p1 &&& (3 : Int32))), .val (.ref w1), .unset, .unset, .unset, .unset, .unset, .unset, .unset, .unset, .unset, .unset, .unset, .unset, .unset, .unset, .unset, .unset, .unset, .unset, .unset, .unset, .unset, .unset, .unset, .unset, .unset, .unset, .unset] [(.int (1 : Int32)), (.int (p1 &&& (3 : Int32)))])) _
        refine XS.icmpYes X338.here hx rfl (pc0 := 54) (pc' := 63) rfl (hb hby at_54) rfl (teq hc337).1 (by decide) (by decide) ?_
        show Steps p.tables e below (T338.setTop (mkF m 63 #[.val (.int p1), .val (.int p2), .val (.int p3), .val (.int p4), .val (.int p5), .val (.int (p1 &&& (3 : Int32))), .val (.ref w1), .unset, .unset, .unset, .unset, .unset, .unset, .unset, .unset, .unset, .unset, .unset, .unset, .unset, .unset, .unset, .unset, .unset, .unset, .unset, .unset, .unset, .unset, .unset, .unset, .unset, .unset, .unset] [])) _
        refine XS.iconst X338.here hx rfl (hb hby at_63) ?_
        show Steps p.tables e below (T338.setTop (mkF m 64 #[.val (.int p1), .val (.int p2), .val (.int p3), .val (.int p4), .val (.int p5), .val (.int (p1 &&& (3 : Int32))), .val (.ref w1), .unset, .unset, .unset, .unset, .unset, .unset, .unset, .unset, .unset, .unset, .unset, .unset, .unset, .unset, .unset, .unset, .unset, .unset, .unset, .unset, .unset, .unset, .unset, .unset, .unset, .unset, .unset] [(.int (1 : Int32))])) _
        refine XS.goto X338.here hx rfl (pc0 := 64) (pc' := 68) rfl (hb hby at_64) (by decide) (by decide) ?_
        show Steps p.tables e below (T338.setTop (mkF m 68 #[.val (.int p1), .val (.int p2), .val (.int p3), .val (.int p4), .val (.int p5), .val (.int (p1 &&& (3 : Int32))), .val (.ref w1), .unset, .unset, .unset, .unset, .unset, .unset, .unset, .unset, .unset, .unset, .unset, .unset, .unset, .unset, .unset, .unset, .unset, .unset, .unset, .unset, .unset, .unset, .unset, .unset, .unset, .unset, .unset] [(.int (1 : Int32))])) _
        refine XS.istore X338.here hx rfl (hb hby at_68) rfl (l' := #[.val (.int p1), .val (.int p2), .val (.int p3), .val (.int p4), .val (.int p5), .val (.int (p1 &&& (3 : Int32))), .val (.ref w1), .val (.int (1 : Int32)), .unset, .unset, .unset, .unset, .unset, .unset, .unset, .unset, .unset, .unset, .unset, .unset, .unset, .unset, .unset, .unset, .unset, .unset, .unset, .unset, .unset, .unset, .unset, .unset, .unset, .unset]) rfl ?_
        show Steps p.tables e below (T338.setTop (mkF m 70 #[.val (.int p1), .val (.int p2), .val (.int p3), .val (.int p4), .val (.int p5), .val (.int (p1 &&& (3 : Int32))), .val (.ref w1), .val (.int (1 : Int32)), .unset, .unset, .unset, .unset, .unset, .unset, .unset, .unset, .unset, .unset, .unset, .unset, .unset, .unset, .unset, .unset, .unset, .unset, .unset, .unset, .unset, .unset, .unset, .unset, .unset, .unset] [])) _
        exact k)
      obtain ⟨s2, o2, hs2, hr2⟩ := tl1 w1 T338 _ N0 X338 e338 H5_E H9_F
      exact ⟨s2, o2, pre339 _ hs2, hr2⟩
    · have pre340 := fun (t : State) (k : Steps p.tables e below (s₁.setTop (mkF m 35 #[.val (.int p1), .val (.int p2), .val (.int p3), .val (.int p4), .val (.int p5), .val (.int (p1 &&& (3 : Int32))), .unset, .unset, .unset, .unset, .unset, .unset, .unset, .unset, .unset, .unset, .unset, .unset, .unset, .unset, .unset, .unset, .unset, .unset, .unset, .unset, .unset, .unset, .unset, .unset, .unset, .unset, .unset, .unset] [(.int (2 : Int32)), (.int (p1 &&& (3 : Int32)))])) t) => pre336 t (by
        refine XS.icmpYes X0.here hx rfl (pc0 := 21) (pc' := 32) rfl (hb hby at_21) rfl (feq hc337).2 (by decide) (by decide) ?_
        show Steps p.tables e below (s₁.setTop (mkF m 32 #[.val (.int p1), .val (.int p2), .val (.int p3), .val (.int p4), .val (.int p5), .val (.int (p1 &&& (3 : Int32))), .unset, .unset, .unset, .unset, .unset, .unset, .unset, .unset, .unset, .unset, .unset, .unset, .unset, .unset, .unset, .unset, .unset, .unset, .unset, .unset, .unset, .unset, .unset, .unset, .unset, .unset, .unset, .unset] [])) _
        refine XS.iload X0.here hx rfl (hb hby at_32) rfl ?_
        show Steps p.tables e below (s₁.setTop (mkF m 34 #[.val (.int p1), .val (.int p2), .val (.int p3), .val (.int p4), .val (.int p5), .val (.int (p1 &&& (3 : Int32))), .unset, .unset, .unset, .unset, .unset, .unset, .unset, .unset, .unset, .unset, .unset, .unset, .unset, .unset, .unset, .unset, .unset, .unset, .unset, .unset, .unset, .unset, .unset, .unset, .unset, .unset, .unset, .unset] [(.int (p1 &&& (3 : Int32)))])) _
        refine XS.iconst X0.here hx rfl (hb hby at_34) ?_
        show Steps p.tables e below (s₁.setTop (mkF m 35 #[.val (.int p1), .val (.int p2), .val (.int p3), .val (.int p4), .val (.int p5), .val (.int (p1 &&& (3 : Int32))), .unset, .unset, .unset, .unset, .unset, .unset, .unset, .unset, .unset, .unset, .unset, .unset, .unset, .unset, .unset, .unset, .unset, .unset, .unset, .unset, .unset, .unset, .unset, .unset, .unset, .unset, .unset, .unset] [(.int (2 : Int32)), (.int (p1 &&& (3 : Int32)))])) _
        exact k)
      by_cases hc341 : (p1 &&& (3 : Int32)) = (2 : Int32)
      · obtain ⟨T342, X342, e342, st342⟩ := getS2 X0 hx hZ hown (host := "") (Or.inl (hw _ (List.mem_of_getElem? (i := 31) rfl))) Via.refl e0 H2_S (g := (mkF m 38 #[.val (.int p1), .val (.int p2), .val (.int p3), .val (.int p4), .val (.int p5), .val (.int (p1 &&& (3 : Int32))), .unset, .unset, .unset, .unset, .unset, .unset, .unset, .unset, .unset, .unset, .unset, .unset, .unset, .unset, .unset, .unset, .unset, .unset, .unset, .unset, .unset, .unset, .unset, .unset, .unset, .unset, .unset, .unset] [])) rfl (hb hby at_38)
        have pre343 := fun (t : State) (k : Steps p.tables e below (T342.setTop (mkF m 70 #[.val (.int p1), .val (.int p2), .val (.int p3), .val (.int p4), .val (.int p5), .val (.int (p1 &&& (3 : Int32))), .val (.ref w2), .val (.int (1 : Int32)), .unset, .unset, .unset, .unset, .unset, .unset, .unset, .unset, .unset, .unset, .unset, .unset, .unset, .unset, .unset, .unset, .unset, .unset, .unset, .unset, .unset, .unset, .unset, .unset, .unset, .unset] [])) t) => pre340 t (by
          refine XS.icmpNo X0.here hx rfl (hb hby at_35) rfl (teq hc341).2 ?_
          show Steps p.tables e below (s₁.setTop (mkF m 38 #[.val (.int p1), .val (.int p2), .val (.int p3), .val (.int p4), .val (.int p5), .val (.int (p1 &&& (3 : Int32))), .unset, .unset, .unset, .unset, .unset, .unset, .unset, .unset, .unset, .unset, .unset, .unset, .unset, .unset, .unset, .unset, .unset, .unset, .unset, .unset, .unset, .unset, .unset, .unset, .unset, .unset, .unset, .unset] [])) _
          refine st342 _ ?_
          show Steps p.tables e below (T342.setTop (mkF m 41 #[.val (.int p1), .val (.int p2), .val (.int p3), .val (.int p4), .val (.int p5), .val (.int (p1 &&& (3 : Int32))), .unset, .unset, .unset, .unset, .unset, .unset, .unset, .unset, .unset, .unset, .unset, .unset, .unset, .unset, .unset, .unset, .unset, .unset, .unset, .unset, .unset, .unset, .unset, .unset, .unset, .unset, .unset, .unset] [(.ref w2)])) _
          refine XS.astore X342.here hx rfl (hb hby at_41) rfl rfl (l' := #[.val (.int p1), .val (.int p2), .val (.int p3), .val (.int p4), .val (.int p5), .val (.int (p1 &&& (3 : Int32))), .val (.ref w2), .unset, .unset, .unset, .unset, .unset, .unset, .unset, .unset, .unset, .unset, .unset, .unset, .unset, .unset, .unset, .unset, .unset, .unset, .unset, .unset, .unset, .unset, .unset, .unset, .unset, .unset, .unset]) rfl ?_
          show Steps p.tables e below (T342.setTop (mkF m 43 #[.val (.int p1), .val (.int p2), .val (.int p3), .val (.int p4), .val (.int p5), .val (.int (p1 &&& (3 : Int32))), .val (.ref w2), .unset, .unset, .unset, .unset, .unset, .unset, .unset, .unset, .unset, .unset, .unset, .unset, .unset, .unset, .unset, .unset, .unset, .unset, .unset, .unset, .unset, .unset, .unset, .unset, .unset, .unset, .unset] [])) _
          refine XS.goto X342.here hx rfl (pc0 := 43) (pc' := 51) rfl (hb hby at_43) (by decide) (by decide) ?_
          show Steps p.tables e below (T342.setTop (mkF m 51 #[.val (.int p1), .val (.int p2), .val (.int p3), .val (.int p4), .val (.int p5), .val (.int (p1 &&& (3 : Int32))), .val (.ref w2), .unset, .unset, .unset, .unset, .unset, .unset, .unset, .unset, .unset, .unset, .unset, .unset, .unset, .unset, .unset, .unset, .unset, .unset, .unset, .unset, .unset, .unset, .unset, .unset, .unset, .unset, .unset] [])) _
          refine XS.iload X342.here hx rfl (hb hby at_51) rfl ?_
          show Steps p.tables e below (T342.setTop (mkF m 53 #[.val (.int p1), .val (.int p2), .val (.int p3), .val (.int p4), .val (.int p5), .val (.int (p1 &&& (3 : Int32))), .val (.ref w2), .unset, .unset, .unset, .unset, .unset, .unset, .unset, .unset, .unset, .unset, .unset, .unset, .unset, .unset, .unset, .unset, .unset, .unset, .unset, .unset, .unset, .unset, .unset, .unset, .unset, .unset, .unset] [(.int (p1 &&& (3 : Int32)))])) _
          refine XS.iconst X342.here hx rfl (hb hby at_53) ?_
          show Steps p.tables e below (T342.setTop (mkF m 54 #[.val (.int p1), .val (.int p2), .val (.int p3), .val (.int p4), .val (.int p5), .val (.int (p1 &&& (3 : Int32))), .val (.ref w2), .unset, .unset, .unset, .unset, .unset, .unset, .unset, .unset, .unset, .unset, .unset, .unset, .unset, .unset, .unset, .unset, .unset, .unset, .unset, .unset, .unset, .unset, .unset, .unset, .unset, .unset, .unset] [(.int (1 : Int32)), (.int (p1 &&& (3 : Int32)))])) _
          refine XS.icmpNo X342.here hx rfl (hb hby at_54) rfl (feq hc337).1 ?_
          show Steps p.tables e below (T342.setTop (mkF m 57 #[.val (.int p1), .val (.int p2), .val (.int p3), .val (.int p4), .val (.int p5), .val (.int (p1 &&& (3 : Int32))), .val (.ref w2), .unset, .unset, .unset, .unset, .unset, .unset, .unset, .unset, .unset, .unset, .unset, .unset, .unset, .unset, .unset, .unset, .unset, .unset, .unset, .unset, .unset, .unset, .unset, .unset, .unset, .unset, .unset] [])) _
          refine XS.iload X342.here hx rfl (hb hby at_57) rfl ?_
          show Steps p.tables e below (T342.setTop (mkF m 59 #[.val (.int p1), .val (.int p2), .val (.int p3), .val (.int p4), .val (.int p5), .val (.int (p1 &&& (3 : Int32))), .val (.ref w2), .unset, .unset, .unset, .unset, .unset, .unset, .unset, .unset, .unset, .unset, .unset, .unset, .unset, .unset, .unset, .unset, .unset, .unset, .unset, .unset, .unset, .unset, .unset, .unset, .unset, .unset, .unset] [(.int (p1 &&& (3 : Int32)))])) _
          refine XS.iconst X342.here hx rfl (hb hby at_59) ?_
          show Steps p.tables e below (T342.setTop (mkF m 60 #[.val (.int p1), .val (.int p2), .val (.int p3), .val (.int p4), .val (.int p5), .val (.int (p1 &&& (3 : Int32))), .val (.ref w2), .unset, .unset, .unset, .unset, .unset, .unset, .unset, .unset, .unset, .unset, .unset, .unset, .unset, .unset, .unset, .unset, .unset, .unset, .unset, .unset, .unset, .unset, .unset, .unset, .unset, .unset, .unset] [(.int (2 : Int32)), (.int (p1 &&& (3 : Int32)))])) _
          refine XS.icmpNo X342.here hx rfl (hb hby at_60) rfl (teq hc341).2 ?_
          show Steps p.tables e below (T342.setTop (mkF m 63 #[.val (.int p1), .val (.int p2), .val (.int p3), .val (.int p4), .val (.int p5), .val (.int (p1 &&& (3 : Int32))), .val (.ref w2), .unset, .unset, .unset, .unset, .unset, .unset, .unset, .unset, .unset, .unset, .unset, .unset, .unset, .unset, .unset, .unset, .unset, .unset, .unset, .unset, .unset, .unset, .unset, .unset, .unset, .unset, .unset] [])) _
          refine XS.iconst X342.here hx rfl (hb hby at_63) ?_
          show Steps p.tables e below (T342.setTop (mkF m 64 #[.val (.int p1), .val (.int p2), .val (.int p3), .val (.int p4), .val (.int p5), .val (.int (p1 &&& (3 : Int32))), .val (.ref w2), .unset, .unset, .unset, .unset, .unset, .unset, .unset, .unset, .unset, .unset, .unset, .unset, .unset, .unset, .unset, .unset, .unset, .unset, .unset, .unset, .unset, .unset, .unset, .unset, .unset, .unset, .unset] [(.int (1 : Int32))])) _
          refine XS.goto X342.here hx rfl (pc0 := 64) (pc' := 68) rfl (hb hby at_64) (by decide) (by decide) ?_
          show Steps p.tables e below (T342.setTop (mkF m 68 #[.val (.int p1), .val (.int p2), .val (.int p3), .val (.int p4), .val (.int p5), .val (.int (p1 &&& (3 : Int32))), .val (.ref w2), .unset, .unset, .unset, .unset, .unset, .unset, .unset, .unset, .unset, .unset, .unset, .unset, .unset, .unset, .unset, .unset, .unset, .unset, .unset, .unset, .unset, .unset, .unset, .unset, .unset, .unset, .unset] [(.int (1 : Int32))])) _
          refine XS.istore X342.here hx rfl (hb hby at_68) rfl (l' := #[.val (.int p1), .val (.int p2), .val (.int p3), .val (.int p4), .val (.int p5), .val (.int (p1 &&& (3 : Int32))), .val (.ref w2), .val (.int (1 : Int32)), .unset, .unset, .unset, .unset, .unset, .unset, .unset, .unset, .unset, .unset, .unset, .unset, .unset, .unset, .unset, .unset, .unset, .unset, .unset, .unset, .unset, .unset, .unset, .unset, .unset, .unset]) rfl ?_
          show Steps p.tables e below (T342.setTop (mkF m 70 #[.val (.int p1), .val (.int p2), .val (.int p3), .val (.int p4), .val (.int p5), .val (.int (p1 &&& (3 : Int32))), .val (.ref w2), .val (.int (1 : Int32)), .unset, .unset, .unset, .unset, .unset, .unset, .unset, .unset, .unset, .unset, .unset, .unset, .unset, .unset, .unset, .unset, .unset, .unset, .unset, .unset, .unset, .unset, .unset, .unset, .unset, .unset] [])) _
          exact k)
        obtain ⟨s2, o2, hs2, hr2⟩ := tl1 w2 T342 _ N0 X342 e342 H6_E H10_F
        exact ⟨s2, o2, pre343 _ hs2, hr2⟩
      · obtain ⟨T344, X344, e344, st344⟩ := getS2 X0 hx hZ hown (host := "") (Or.inl (hw _ (List.mem_of_getElem? (i := 29) rfl))) Via.refl e0 H3_S (g := (mkF m 46 #[.val (.int p1), .val (.int p2), .val (.int p3), .val (.int p4), .val (.int p5), .val (.int (p1 &&& (3 : Int32))), .unset, .unset, .unset, .unset, .unset, .unset, .unset, .unset, .unset, .unset, .unset, .unset, .unset, .unset, .unset, .unset, .unset, .unset, .unset, .unset, .unset, .unset, .unset, .unset, .unset, .unset, .unset, .unset] [])) rfl (hb hby at_46)
        have pre345 := fun (t : State) (k : Steps p.tables e below (T344.setTop (mkF m 70 #[.val (.int p1), .val (.int p2), .val (.int p3), .val (.int p4), .val (.int p5), .val (.int (p1 &&& (3 : Int32))), .val (.ref w3), .val (.int (0 : Int32)), .unset, .unset, .unset, .unset, .unset, .unset, .unset, .unset, .unset, .unset, .unset, .unset, .unset, .unset, .unset, .unset, .unset, .unset, .unset, .unset, .unset, .unset, .unset, .unset, .unset, .unset] [])) t) => pre340 t (by
          refine XS.icmpYes X0.here hx rfl (pc0 := 35) (pc' := 46) rfl (hb hby at_35) rfl (feq hc341).2 (by decide) (by decide) ?_
          show Steps p.tables e below (s₁.setTop (mkF m 46 #[.val (.int p1), .val (.int p2), .val (.int p3), .val (.int p4), .val (.int p5), .val (.int (p1 &&& (3 : Int32))), .unset, .unset, .unset, .unset, .unset, .unset, .unset, .unset, .unset, .unset, .unset, .unset, .unset, .unset, .unset, .unset, .unset, .unset, .unset, .unset, .unset, .unset, .unset, .unset, .unset, .unset, .unset, .unset] [])) _
          refine st344 _ ?_
          show Steps p.tables e below (T344.setTop (mkF m 49 #[.val (.int p1), .val (.int p2), .val (.int p3), .val (.int p4), .val (.int p5), .val (.int (p1 &&& (3 : Int32))), .unset, .unset, .unset, .unset, .unset, .unset, .unset, .unset, .unset, .unset, .unset, .unset, .unset, .unset, .unset, .unset, .unset, .unset, .unset, .unset, .unset, .unset, .unset, .unset, .unset, .unset, .unset, .unset] [(.ref w3)])) _
          refine XS.astore X344.here hx rfl (hb hby at_49) rfl rfl (l' := #[.val (.int p1), .val (.int p2), .val (.int p3), .val (.int p4), .val (.int p5), .val (.int (p1 &&& (3 : Int32))), .val (.ref w3), .unset, .unset, .unset, .unset, .unset, .unset, .unset, .unset, .unset, .unset, .unset, .unset, .unset, .unset, .unset, .unset, .unset, .unset, .unset, .unset, .unset, .unset, .unset, .unset, .unset, .unset, .unset]) rfl ?_
          show Steps p.tables e below (T344.setTop (mkF m 51 #[.val (.int p1), .val (.int p2), .val (.int p3), .val (.int p4), .val (.int p5), .val (.int (p1 &&& (3 : Int32))), .val (.ref w3), .unset, .unset, .unset, .unset, .unset, .unset, .unset, .unset, .unset, .unset, .unset, .unset, .unset, .unset, .unset, .unset, .unset, .unset, .unset, .unset, .unset, .unset, .unset, .unset, .unset, .unset, .unset] [])) _
          refine XS.iload X344.here hx rfl (hb hby at_51) rfl ?_
          show Steps p.tables e below (T344.setTop (mkF m 53 #[.val (.int p1), .val (.int p2), .val (.int p3), .val (.int p4), .val (.int p5), .val (.int (p1 &&& (3 : Int32))), .val (.ref w3), .unset, .unset, .unset, .unset, .unset, .unset, .unset, .unset, .unset, .unset, .unset, .unset, .unset, .unset, .unset, .unset, .unset, .unset, .unset, .unset, .unset, .unset, .unset, .unset, .unset, .unset, .unset] [(.int (p1 &&& (3 : Int32)))])) _
          refine XS.iconst X344.here hx rfl (hb hby at_53) ?_
          show Steps p.tables e below (T344.setTop (mkF m 54 #[.val (.int p1), .val (.int p2), .val (.int p3), .val (.int p4), .val (.int p5), .val (.int (p1 &&& (3 : Int32))), .val (.ref w3), .unset, .unset, .unset, .unset, .unset, .unset, .unset, .unset, .unset, .unset, .unset, .unset, .unset, .unset, .unset, .unset, .unset, .unset, .unset, .unset, .unset, .unset, .unset, .unset, .unset, .unset, .unset] [(.int (1 : Int32)), (.int (p1 &&& (3 : Int32)))])) _
          refine XS.icmpNo X344.here hx rfl (hb hby at_54) rfl (feq hc337).1 ?_
          show Steps p.tables e below (T344.setTop (mkF m 57 #[.val (.int p1), .val (.int p2), .val (.int p3), .val (.int p4), .val (.int p5), .val (.int (p1 &&& (3 : Int32))), .val (.ref w3), .unset, .unset, .unset, .unset, .unset, .unset, .unset, .unset, .unset, .unset, .unset, .unset, .unset, .unset, .unset, .unset, .unset, .unset, .unset, .unset, .unset, .unset, .unset, .unset, .unset, .unset, .unset] [])) _
          refine XS.iload X344.here hx rfl (hb hby at_57) rfl ?_
          show Steps p.tables e below (T344.setTop (mkF m 59 #[.val (.int p1), .val (.int p2), .val (.int p3), .val (.int p4), .val (.int p5), .val (.int (p1 &&& (3 : Int32))), .val (.ref w3), .unset, .unset, .unset, .unset, .unset, .unset, .unset, .unset, .unset, .unset, .unset, .unset, .unset, .unset, .unset, .unset, .unset, .unset, .unset, .unset, .unset, .unset, .unset, .unset, .unset, .unset, .unset] [(.int (p1 &&& (3 : Int32)))])) _
          refine XS.iconst X344.here hx rfl (hb hby at_59) ?_
          show Steps p.tables e below (T344.setTop (mkF m 60 #[.val (.int p1), .val (.int p2), .val (.int p3), .val (.int p4), .val (.int p5), .val (.int (p1 &&& (3 : Int32))), .val (.ref w3), .unset, .unset, .unset, .unset, .unset, .unset, .unset, .unset, .unset, .unset, .unset, .unset, .unset, .unset, .unset, .unset, .unset, .unset, .unset, .unset, .unset, .unset, .unset, .unset, .unset, .unset, .unset] [(.int (2 : Int32)), (.int (p1 &&& (3 : Int32)))])) _
          refine XS.icmpYes X344.here hx rfl (pc0 := 60) (pc' := 67) rfl (hb hby at_60) rfl (feq hc341).2 (by decide) (by decide) ?_
          show Steps p.tables e below (T344.setTop (mkF m 67 #[.val (.int p1), .val (.int p2), .val (.int p3), .val (.int p4), .val (.int p5), .val (.int (p1 &&& (3 : Int32))), .val (.ref w3), .unset, .unset, .unset, .unset, .unset, .unset, .unset, .unset, .unset, .unset, .unset, .unset, .unset, .unset, .unset, .unset, .unset, .unset, .unset, .unset, .unset, .unset, .unset, .unset, .unset, .unset, .unset] [])) _
          refine XS.iconst X344.here hx rfl (hb hby at_67) ?_
          show Steps p.tables e below (T344.setTop (mkF m 68 #[.val (.int p1), .val (.int p2), .val (.int p3), .val (.int p4), .val (.int p5), .val (.int (p1 &&& (3 : Int32))), .val (.ref w3), .unset, .unset, .unset, .unset, .unset, .unset, .unset, .unset, .unset, .unset, .unset, .unset, .unset, .unset, .unset, .unset, .unset, .unset, .unset, .unset, .unset, .unset, .unset, .unset, .unset, .unset, .unset] [(.int (0 : Int32))])) _
          refine XS.istore X344.here hx rfl (hb hby at_68) rfl (l' := #[.val (.int p1), .val (.int p2), .val (.int p3), .val (.int p4), .val (.int p5), .val (.int (p1 &&& (3 : Int32))), .val (.ref w3), .val (.int (0 : Int32)), .unset, .unset, .unset, .unset, .unset, .unset, .unset, .unset, .unset, .unset, .unset, .unset, .unset, .unset, .unset, .unset, .unset, .unset, .unset, .unset, .unset, .unset, .unset, .unset, .unset, .unset]) rfl ?_
          show Steps p.tables e below (T344.setTop (mkF m 70 #[.val (.int p1), .val (.int p2), .val (.int p3), .val (.int p4), .val (.int p5), .val (.int (p1 &&& (3 : Int32))), .val (.ref w3), .val (.int (0 : Int32)), .unset, .unset, .unset, .unset, .unset, .unset, .unset, .unset, .unset, .unset, .unset, .unset, .unset, .unset, .unset, .unset, .unset, .unset, .unset, .unset, .unset, .unset, .unset, .unset, .unset, .unset] [])) _
          exact k)
        obtain ⟨s2, o2, hs2, hr2⟩ := tl0 w3 T344 _ N0 X344 e344 H7_E H11_F
        exact ⟨s2, o2, pre345 _ hs2, hr2⟩

set_option maxRecDepth 65536 in
set_option maxHeartbeats 40000000 in
theorem comes_1 {Post : Tables → Env → Array Value → State → Outcome → State → Prop} (hpost : ∀ tb e args s v u, (limb_1_1.after args s (.returned v) u = true ∧ limb_1_2.after args s (.returned v) u = true ∧ True) → FrameEnd s (.returned v) u (Jvm.fieldLocs frame_1_writes args s ++ Jvm.arrayLocs frame_1_arrays args s ++ Jvm.staticLocs frame_1_statics s) 16 128 → Post tb e args s (.returned v) u) :
    ArmFor flags0 classFile x code maxLocals ret World_1 tables_1 room_1 Calls_1 rest_1 Pre_1 Post := by
  intro l hfl _ _ p e ha hc hk s m args below hf hA hF happ hP
  obtain ⟨hcalls, hrest, hpre⟩ := hP
  obtain ⟨-, -, -, hnamed, -, -, -, hat⟩ := (Spec.applies_iff hf).mp happ
  obtain ⟨hg, hn⟩ := and_e (Cond.before_iff.mp (show (Jvm.Cond.and given_1 narrow_1).before args s = true from hpre))
  obtain ⟨g1, g2⟩ := and_e hg
  obtain ⟨g3, g4⟩ := and_e g2
  obtain ⟨g5, g6⟩ := and_e g4
  obtain ⟨g7, g8⟩ := and_e g6
  obtain ⟨g9, g10⟩ := and_e g8
  obtain ⟨g11, g12⟩ := and_e hn
  obtain ⟨g13, g14⟩ := and_e g12
  obtain ⟨g15, g16⟩ := and_e g14
  obtain ⟨g17, g18⟩ := and_e g16
  obtain ⟨g19, g20⟩ := and_e g18
  obtain ⟨g21, g22⟩ := and_e g20
  obtain ⟨g23, g24⟩ := and_e g22
  obtain ⟨w0, w1, w2, w3, w4, rfl⟩ : ∃ w0 w1 w2 w3 w4 : Value, args = #[w0, w1, w2, w3, w4] := by
    have hs : args.size = 5 := by simpa [Cond.value, given_1] using g1
    obtain ⟨L⟩ := args
    match L, hs with
    | [w0, w1, w2, w3, w4], _ => exact ⟨w0, w1, w2, w3, w4, rfl⟩
  have hw := fun d (hd : d ∈ tables_1) => atoms_spec (ws := Jvm.Cond.code x code maxLocals ret :: tables_1) hat d (List.mem_cons_of_mem _ hd)
  have hfit : Fit s := fun {y c} hc i hi => by
    obtain ⟨ha, rfl⟩ := Array.getElem?_eq_some_iff.mp hc
    have q := List.all_eq_true.mp ((Array.all_eq_true_iff_forall_mem.mp hF) _ (Array.getElem_mem ha)) i (List.mem_range.mpr hi)
    simpa [Array.getElem?_eq_getElem hi] using q
  obtain ⟨i0, ei0⟩ := is_v g3
  obtain rfl : w0 = (.int i0) := Option.some.inj ei0
  obtain ⟨i1, ei1⟩ := is_v g5
  obtain rfl : w1 = (.int i1) := Option.some.inj ei1
  obtain ⟨i2, ei2⟩ := is_v g7
  obtain rfl : w2 = (.int i2) := Option.some.inj ei2
  obtain ⟨i3, ei3⟩ := is_v g9
  obtain rfl : w3 = (.int i3) := Option.some.inj ei3
  obtain ⟨i4, ei4⟩ := is_v g10
  obtain rfl : w4 = (.int i4) := Option.some.inj ei4
  obtain ⟨z_Tier_CUSTOMER, ez_Tier_CUSTOMER⟩ := exa_v g11
  have S_z_Tier_CUSTOMER := Sta.start (Z := s) ez_Tier_CUSTOMER (Or.inr ⟨(hw _ (List.mem_of_getElem? (i := 1) rfl)), (hw _ (List.mem_of_getElem? (i := 2) rfl))⟩)
  have E_z_Tier_CUSTOMER := Exa.start ez_Tier_CUSTOMER g11
  obtain ⟨z_Tier_LEGGING, ez_Tier_LEGGING⟩ := exa_v g15
  have S_z_Tier_LEGGING := Sta.start (Z := s) ez_Tier_LEGGING (Or.inr ⟨(hw _ (List.mem_of_getElem? (i := 1) rfl)), (hw _ (List.mem_of_getElem? (i := 30) rfl))⟩)
  have E_z_Tier_LEGGING := Exa.start ez_Tier_LEGGING g15
  obtain ⟨z_Tier_OTHER, ez_Tier_OTHER⟩ := exa_v g19
  have S_z_Tier_OTHER := Sta.start (Z := s) ez_Tier_OTHER (Or.inr ⟨(hw _ (List.mem_of_getElem? (i := 1) rfl)), (hw _ (List.mem_of_getElem? (i := 32) rfl))⟩)
  have E_z_Tier_OTHER := Exa.start ez_Tier_OTHER g19
  obtain ⟨z_Tier_MARKET_MAKER, ez_Tier_MARKET_MAKER⟩ := exa_v g23
  have S_z_Tier_MARKET_MAKER := Sta.start (Z := s) ez_Tier_MARKET_MAKER (Or.inr ⟨(hw _ (List.mem_of_getElem? (i := 1) rfl)), (hw _ (List.mem_of_getElem? (i := 37) rfl))⟩)
  have E_z_Tier_MARKET_MAKER := Exa.start ez_Tier_MARKET_MAKER g23
  have F_z_Tier_CUSTOMER_proRata := own_fld_eq ez_Tier_CUSTOMER g13
  have F_z_Tier_LEGGING_proRata := own_fld_eq ez_Tier_LEGGING g17
  have F_z_Tier_OTHER_proRata := own_fld_eq ez_Tier_OTHER g21
  have F_z_Tier_MARKET_MAKER_proRata := own_fld_eq ez_Tier_MARKET_MAKER g24
  have ne_z_Tier_CUSTOMER_z_Tier_OTHER : z_Tier_CUSTOMER ≠ z_Tier_OTHER := Fld.ne F_z_Tier_CUSTOMER_proRata F_z_Tier_OTHER_proRata (by simp)
  have ne_z_Tier_CUSTOMER_z_Tier_MARKET_MAKER : z_Tier_CUSTOMER ≠ z_Tier_MARKET_MAKER := Fld.ne F_z_Tier_CUSTOMER_proRata F_z_Tier_MARKET_MAKER_proRata (by simp)
  have ne_z_Tier_LEGGING_z_Tier_OTHER : z_Tier_LEGGING ≠ z_Tier_OTHER := Fld.ne F_z_Tier_LEGGING_proRata F_z_Tier_OTHER_proRata (by simp)
  have ne_z_Tier_LEGGING_z_Tier_MARKET_MAKER : z_Tier_LEGGING ≠ z_Tier_MARKET_MAKER := Fld.ne F_z_Tier_LEGGING_proRata F_z_Tier_MARKET_MAKER_proRata (by simp)
  obtain ⟨n, o, h1, h2, h3, _, L, rfl, ⟨rfl, N, -⟩, hq⟩ := rm_law l s _ hw tables_1 i0 i1 i2 i3 i4 z_Tier_CUSTOMER z_Tier_MARKET_MAKER z_Tier_OTHER z_Tier_LEGGING s.heap s.heap.size (Nat.le_refl _) S_z_Tier_CUSTOMER S_z_Tier_MARKET_MAKER S_z_Tier_OTHER S_z_Tier_LEGGING E_z_Tier_CUSTOMER E_z_Tier_MARKET_MAKER E_z_Tier_OTHER E_z_Tier_LEGGING F_z_Tier_CUSTOMER_proRata F_z_Tier_MARKET_MAKER_proRata F_z_Tier_OTHER_proRata F_z_Tier_LEGGING_proRata p e ha hc hk s m _ below hf ((Spec.applies_iff_loose hf).mp happ).1 ⟨rfl, State.Warmed39.refl s, rfl⟩ trivial
  refine ⟨n, _, h1, h2, h3, hpost _ _ _ _ _ _ ⟨Cond.after_iff.mpr rfl, Cond.after_iff.mpr (eq_i res_at (Term.int_eval (1)) rfl), trivial⟩ ⟨hq.1, hq.2.1, (hq.2.2.sift fun y hy => Or.inr (N y hy)).mono (by decide) (by decide)⟩⟩
theorem main_1_1 : Claimed_1_1 := comes_1 fun _ _ _ _ _ _ h hF => ⟨h.1, hF⟩
theorem main_1_2 : Claimed_1_2 := comes_1 fun _ _ _ _ _ _ h hF => ⟨h.2.1, hF⟩
end Jvm.Pilot.@@N@@
namespace Jvm.Pilot.@@N@@
open Jvm Jvm.ClassFile Sem Op Lib Jvm.Free Jvm.Stand Jvm.Pilot.@@N@@.Jvm.D
/-! MADE BY PROGRAM (witnessworld.py) out of the Statement's table words and the real class files: 14 classes; the members and pool entries that the words name. The judged class is class 1, her method 1. -/
namespace start1
open Jvm.ClassFile
def u (s : String) : CpInfo := .utf8 (stringToUtf16 s)
/-- a pool by its gaps: so many unusable entries, then the entry; so many at the end -/
def gap : Nat → List CpInfo → List CpInfo
  | 0, r => r
  | n + 1, r => .unusable :: gap n r
def poolList (es : List (Nat × CpInfo)) (last : Nat) : List CpInfo := es.foldr (fun e r => gap e.1 (e.2 :: r)) (gap last [])
def pool (es : List (Nat × CpInfo)) (last : Nat) : Array CpInfo := ⟨poolList es last⟩
def fileOf (pool : Array CpInfo) (this : Nat) (attrs : Array Attribute := #[]) (ms : Array MethodInfo := #[]) (fl : Nat := 33) (sup : Nat := 0) (ifs : Array Nat := #[]) (fds : Array FieldInfo := #[]) : ClassFile where
  minorVersion := 0
  majorVersion := 65
  constantPool := pool
  accessFlags := fl
  thisClass := this
  superClass := sup
  interfaces := ifs
  fields := fds
  methods := ms
  attributes := attrs
def plain (name : String) (sup : Option ClassId) : Class where
  name := name
  kind := .ordinary
  loader := none
  accessFlags := 33
  super := sup
  interfaces := #[]
  cf := none
  fields := #[]
  methods := #[]
  instanceTypes := #[]
  staticTypes := #[]
  resolved := #[]
  callSites := []
  init := .initialized
  statics := none
  mirror := none

def pool0 : Array CpInfo := pool [(5, u "<init>"), (0, u "()V"), (1, .class_ 10), (1, u "java/lang/Object"), (85, u "clone"), (0, u "()Ljava/lang/Object;")] 26

def k0m0 : Method := { name := "<init>", desc := "()V", sig := { parameters := [], returnType := none }, accessFlags := 1, code := none }
def k0m1 : Method := { name := "clone", desc := "()Ljava/lang/Object;", sig := { parameters := [], returnType := some (.object "java/lang/Object") }, accessFlags := 260, code := none }
/-- java/lang/Object -/
def k0 : Class := { plain "java/lang/Object" none with
  accessFlags := 33
  interfaces := #[]
  cf := some (fileOf pool0 8 #[] #[{ accessFlags := 1, nameIndex := 5, descriptorIndex := 6, attributes := #[] }, { accessFlags := 260, nameIndex := 96, descriptorIndex := 97, attributes := #[] }] 33 0 #[] #[])
  fields := #[]
  methods := #[k0m0, k0m1]
  instanceTypes := #[]
  staticTypes := #[]
  resolved := Array.replicate 124 none
  statics := none }

def pool1 : Array CpInfo := pool [(2, .class_ 4), (1, u "java/lang/Object"), (0, u "<init>"), (0, u "()V"), (0, .fieldref 8 9), (0, .class_ 10), (0, .nameAndType 11 12), (0, u "com/example/legwork/legwork/Tier"), (0, u "CUSTOMER"), (0, u "Lcom/example/legwork/legwork/Tier;"), (0, .fieldref 8 14), (0, .nameAndType 15 12), (0, u "MARKET_MAKER"), (0, .fieldref 8 17), (0, .nameAndType 18 12), (0, u "OTHER"), (0, .fieldref 8 20), (0, .nameAndType 21 12), (0, u "LEGGING"), (0, .integer 2147483647), (0, .methodref 24 25), (0, .class_ 26), (0, .nameAndType 27 28), (0, u "java/lang/Math"), (0, u "max"), (0, u "(II)I"), (0, .methodref 30 31), (0, .class_ 32), (0, .nameAndType 33 34), (0, u "com/example/legwork/legwork/Allocation"), (0, u "share"), (0, u "(Lcom/example/legwork/legwork/Tier;I[I)[I"), (0, .methodref 24 36), (0, .nameAndType 37 38), (0, u "min"), (0, u "(JJ)J"), (0, .class_ 40), (0, u "com/example/legwork/legwork/AllocationSharePinLaw"), (2, u "law"), (0, u "(IIIII)Z")] 5

def k1m0 : Method := { name := "<init>", desc := "()V", sig := { parameters := [], returnType := none }, accessFlags := 2, code := none }
def k1c1 : Code := { maxStack := 6, maxLocals := 34, code := code, exceptionTable := #[], attributes := #[] }
def k1m1 : Method := { name := "law", desc := "(IIIII)Z", sig := { parameters := [.int, .int, .int, .int, .int], returnType := some .boolean }, accessFlags := 9, code := some k1c1 }
/-- com/example/legwork/legwork/AllocationSharePinLaw -/
def k1 : Class := { plain "com/example/legwork/legwork/AllocationSharePinLaw" (some 0) with
  accessFlags := 49
  interfaces := #[]
  cf := some (fileOf pool1 39 #[] #[{ accessFlags := 2, nameIndex := 5, descriptorIndex := 6, attributes := #[] }, { accessFlags := 9, nameIndex := 43, descriptorIndex := 44, attributes := #[] }] 49 2 #[] #[])
  fields := #[]
  methods := #[k1m0, k1m1]
  instanceTypes := #[]
  staticTypes := #[]
  resolved := Array.replicate 50 none
  statics := none }

def pool2 : Array CpInfo := pool [(1, .class_ 2), (0, u "java/lang/constant/Constable"), (0, .class_ 4), (0, u "java/lang/Object")] 6

/-- java/lang/constant/Constable -/
def k2 : Class := { plain "java/lang/constant/Constable" (some 0) with
  accessFlags := 1537
  interfaces := #[]
  cf := some (fileOf pool2 1 #[] #[] 1537 3 #[] #[])
  fields := #[]
  methods := #[]
  instanceTypes := #[]
  staticTypes := #[]
  resolved := Array.replicate 11 none
  statics := none }

def pool3 : Array CpInfo := pool [(1, .class_ 2), (0, u "java/lang/Comparable"), (0, .class_ 4), (0, u "java/lang/Object")] 7

/-- java/lang/Comparable -/
def k3 : Class := { plain "java/lang/Comparable" (some 0) with
  accessFlags := 1537
  interfaces := #[]
  cf := some (fileOf pool3 1 #[] #[] 1537 3 #[] #[])
  fields := #[]
  methods := #[]
  instanceTypes := #[]
  staticTypes := #[]
  resolved := Array.replicate 12 none
  statics := none }

def pool4 : Array CpInfo := pool [(1, .class_ 2), (0, u "java/io/Serializable"), (0, .class_ 4), (0, u "java/lang/Object")] 2

/-- java/io/Serializable -/
def k4 : Class := { plain "java/io/Serializable" (some 0) with
  accessFlags := 1537
  interfaces := #[]
  cf := some (fileOf pool4 1 #[] #[] 1537 3 #[] #[])
  fields := #[]
  methods := #[]
  instanceTypes := #[]
  staticTypes := #[]
  resolved := Array.replicate 7 none
  statics := none }

def pool5 : Array CpInfo := pool [(2, .class_ 4), (1, u "java/lang/Enum"), (0, u "name"), (0, u "Ljava/lang/String;"), (2, u "ordinal"), (0, u "I"), (1, .class_ 14), (1, u "java/lang/Object"), (4, u "hash"), (86, .class_ 108), (1, u "java/lang/Enum$EnumDesc"), (2, .class_ 112), (0, u "java/lang/constant/Constable"), (0, .class_ 114), (0, u "java/lang/Comparable"), (0, .class_ 116), (0, u "java/io/Serializable")] 87

/-- java/lang/Enum -/
def k5 : Class := { plain "java/lang/Enum" (some 0) with
  accessFlags := 1057
  interfaces := #[2, 3, 4]
  cf := some (fileOf pool5 2 #[.nestMembers #[106]] #[] 1057 12 #[111, 113, 115] #[{ accessFlags := 18, nameIndex := 5, descriptorIndex := 6, attributes := #[] }, { accessFlags := 18, nameIndex := 9, descriptorIndex := 10, attributes := #[] }, { accessFlags := 2, nameIndex := 19, descriptorIndex := 10, attributes := #[] }])
  fields := #[{ name := "name", type := (.object "java/lang/String"), accessFlags := 18, slot := 0, constantValue := 0 }, { name := "ordinal", type := .int, accessFlags := 18, slot := 1, constantValue := 0 }, { name := "hash", type := .int, accessFlags := 2, slot := 2, constantValue := 0 }]
  methods := #[]
  instanceTypes := #[(.object "java/lang/String"), .int, .int]
  staticTypes := #[]
  resolved := Array.replicate 204 none
  statics := none }

def pool6 : Array CpInfo := pool [(1, .class_ 2), (0, u "com/example/legwork/legwork/Tier"), (2, u "CUSTOMER"), (0, u "Lcom/example/legwork/legwork/Tier;"), (2, u "MARKET_MAKER"), (2, u "OTHER"), (2, u "LEGGING"), (2, u "$VALUES"), (0, u "[Lcom/example/legwork/legwork/Tier;"), (6, .class_ 28), (1, u "java/lang/Enum"), (6, .fieldref 1 36), (0, .nameAndType 37 38), (0, u "proRata"), (0, u "Z"), (18, u "isProRata"), (0, u "()Z")] 5

def k6c0 : Code := { maxStack := 1, maxLocals := 1, code := prog_54_method_4_code, exceptionTable := #[], attributes := #[] }
def k6m0 : Method := { name := "isProRata", desc := "()Z", sig := { parameters := [], returnType := some .boolean }, accessFlags := 0, code := some k6c0 }
/-- com/example/legwork/legwork/Tier -/
def k6 : Class := { plain "com/example/legwork/legwork/Tier" (some 5) with
  accessFlags := 16432
  interfaces := #[]
  cf := some (fileOf pool6 1 #[] #[{ accessFlags := 0, nameIndex := 57, descriptorIndex := 58, attributes := #[] }] 16432 26 #[] #[{ accessFlags := 16409, nameIndex := 5, descriptorIndex := 6, attributes := #[] }, { accessFlags := 16409, nameIndex := 9, descriptorIndex := 6, attributes := #[] }, { accessFlags := 16409, nameIndex := 12, descriptorIndex := 6, attributes := #[] }, { accessFlags := 16409, nameIndex := 15, descriptorIndex := 6, attributes := #[] }, { accessFlags := 18, nameIndex := 37, descriptorIndex := 38, attributes := #[] }, { accessFlags := 4122, nameIndex := 18, descriptorIndex := 19, attributes := #[] }])
  fields := #[{ name := "CUSTOMER", type := (.object "com/example/legwork/legwork/Tier"), accessFlags := 16409, slot := 0, constantValue := 0 }, { name := "MARKET_MAKER", type := (.object "com/example/legwork/legwork/Tier"), accessFlags := 16409, slot := 1, constantValue := 0 }, { name := "OTHER", type := (.object "com/example/legwork/legwork/Tier"), accessFlags := 16409, slot := 2, constantValue := 0 }, { name := "LEGGING", type := (.object "com/example/legwork/legwork/Tier"), accessFlags := 16409, slot := 3, constantValue := 0 }, { name := "proRata", type := .boolean, accessFlags := 18, slot := 3, constantValue := 0 }, { name := "$VALUES", type := (.array (.object "com/example/legwork/legwork/Tier")), accessFlags := 4122, slot := 4, constantValue := 0 }]
  methods := #[k6m0]
  instanceTypes := #[(.object "java/lang/String"), .int, .int, .boolean]
  staticTypes := #[(.object "com/example/legwork/legwork/Tier"), (.object "com/example/legwork/legwork/Tier"), (.object "com/example/legwork/legwork/Tier"), (.object "com/example/legwork/legwork/Tier"), (.array (.object "com/example/legwork/legwork/Tier"))]
  resolved := Array.replicate 64 none
  statics := some 0 }

def pool7 : Array CpInfo := pool [(1, .class_ 2), (0, u "java/lang/Math"), (1, .class_ 6), (1, u "java/lang/Object"), (0, u "<init>"), (0, u "()V"), (89, .class_ 100), (1, u "java/lang/Math$RandomNumberGeneratorHolder"), (20, u "(JJ)J"), (50, u "negativeZeroFloatBits"), (0, u "J"), (2, u "negativeZeroDoubleBits"), (21, u "max"), (2, u "min"), (43, u "$assertionsDisabled"), (0, u "Z"), (88, u "(II)I"), (2, u "twoToTheDoubleScaleDown"), (0, u "D"), (4, u "twoToTheDoubleScaleUp"), (9, u "E"), (3, u "PI"), (2, u "TAU"), (2, u "DEGREES_TO_RADIANS"), (0, u "RADIANS_TO_DEGREES")] 94

def k7m0 : Method := { name := "<init>", desc := "()V", sig := { parameters := [], returnType := none }, accessFlags := 2, code := none }
def k7c1 : Code := { maxStack := 2, maxLocals := 2, code := jdk_29_method_65_code, exceptionTable := #[], attributes := #[] }
def k7m1 : Method := { name := "max", desc := "(II)I", sig := { parameters := [.int, .int], returnType := some .int }, accessFlags := 9, code := some k7c1 }
def k7c2 : Code := { maxStack := 2, maxLocals := 2, code := jdk_29_method_69_code, exceptionTable := #[], attributes := #[] }
def k7m2 : Method := { name := "min", desc := "(II)I", sig := { parameters := [.int, .int], returnType := some .int }, accessFlags := 9, code := some k7c2 }
def k7c3 : Code := { maxStack := 4, maxLocals := 4, code := jdk_29_method_70_code, exceptionTable := #[], attributes := #[] }
def k7m3 : Method := { name := "min", desc := "(JJ)J", sig := { parameters := [.long, .long], returnType := some .long }, accessFlags := 9, code := some k7c3 }
/-- java/lang/Math -/
def k7 : Class := { plain "java/lang/Math" (some 0) with
  accessFlags := 49
  interfaces := #[]
  cf := some (fileOf pool7 1 #[.nestMembers #[98]] #[{ accessFlags := 2, nameIndex := 7, descriptorIndex := 8, attributes := #[] }, { accessFlags := 9, nameIndex := 198, descriptorIndex := 335, attributes := #[] }, { accessFlags := 9, nameIndex := 201, descriptorIndex := 335, attributes := #[] }, { accessFlags := 9, nameIndex := 201, descriptorIndex := 121, attributes := #[] }] 49 4 #[] #[{ accessFlags := 25, nameIndex := 354, descriptorIndex := 339, attributes := #[] }, { accessFlags := 25, nameIndex := 358, descriptorIndex := 339, attributes := #[] }, { accessFlags := 25, nameIndex := 361, descriptorIndex := 339, attributes := #[] }, { accessFlags := 26, nameIndex := 364, descriptorIndex := 339, attributes := #[] }, { accessFlags := 26, nameIndex := 365, descriptorIndex := 339, attributes := #[] }, { accessFlags := 26, nameIndex := 172, descriptorIndex := 173, attributes := #[] }, { accessFlags := 26, nameIndex := 176, descriptorIndex := 173, attributes := #[] }, { accessFlags := 8, nameIndex := 344, descriptorIndex := 339, attributes := #[] }, { accessFlags := 8, nameIndex := 338, descriptorIndex := 339, attributes := #[] }, { accessFlags := 4120, nameIndex := 245, descriptorIndex := 246, attributes := #[] }])
  fields := #[{ name := "E", type := .double, accessFlags := 25, slot := 0, constantValue := 0 }, { name := "PI", type := .double, accessFlags := 25, slot := 1, constantValue := 0 }, { name := "TAU", type := .double, accessFlags := 25, slot := 2, constantValue := 0 }, { name := "DEGREES_TO_RADIANS", type := .double, accessFlags := 26, slot := 3, constantValue := 0 }, { name := "RADIANS_TO_DEGREES", type := .double, accessFlags := 26, slot := 4, constantValue := 0 }, { name := "negativeZeroFloatBits", type := .long, accessFlags := 26, slot := 5, constantValue := 0 }, { name := "negativeZeroDoubleBits", type := .long, accessFlags := 26, slot := 6, constantValue := 0 }, { name := "twoToTheDoubleScaleUp", type := .double, accessFlags := 8, slot := 7, constantValue := 0 }, { name := "twoToTheDoubleScaleDown", type := .double, accessFlags := 8, slot := 8, constantValue := 0 }, { name := "$assertionsDisabled", type := .boolean, accessFlags := 4120, slot := 9, constantValue := 0 }]
  methods := #[k7m0, k7m1, k7m2, k7m3]
  instanceTypes := #[]
  staticTypes := #[.double, .double, .double, .double, .double, .long, .long, .double, .double, .boolean]
  resolved := Array.replicate 460 none
  statics := none }

def pool8 : Array CpInfo := pool [(2, .class_ 4), (1, u "java/lang/Object"), (0, u "<init>"), (0, u "()V"), (0, .methodref 8 9), (0, .class_ 10), (0, .nameAndType 11 12), (0, u "com/example/legwork/legwork/Tier"), (0, u "isProRata"), (0, u "()Z"), (0, .methodref 14 15), (0, .class_ 16), (0, .nameAndType 17 18), (0, u "com/example/legwork/legwork/Allocation"), (0, u "proRata"), (0, u "(I[I)[I"), (0, .methodref 14 20), (0, .nameAndType 21 18), (0, u "timePriority"), (22, u "share"), (0, u "(Lcom/example/legwork/legwork/Tier;I[I)[I"), (0, .methodref 47 48), (0, .class_ 49), (0, .nameAndType 50 51), (0, u "java/lang/Math"), (0, u "min"), (0, u "(II)I"), (0, .methodref 53 54), (0, .class_ 55), (0, .nameAndType 56 57), (0, u "[I"), (0, u "clone"), (0, u "()Ljava/lang/Object;")] 9

def k8m0 : Method := { name := "<init>", desc := "()V", sig := { parameters := [], returnType := none }, accessFlags := 2, code := none }
def k8c1 : Code := { maxStack := 2, maxLocals := 3, code := prog_1_method_2_code, exceptionTable := #[], attributes := #[] }
def k8m1 : Method := { name := "share", desc := "(Lcom/example/legwork/legwork/Tier;I[I)[I", sig := { parameters := [(.object "com/example/legwork/legwork/Tier"), .int, (.array .int)], returnType := some (.array .int) }, accessFlags := 8, code := some k8c1 }
def k8c2 : Code := { maxStack := 5, maxLocals := 5, code := prog_1_method_4_code, exceptionTable := #[], attributes := #[] }
def k8m2 : Method := { name := "timePriority", desc := "(I[I)[I", sig := { parameters := [.int, (.array .int)], returnType := some (.array .int) }, accessFlags := 10, code := some k8c2 }
def k8c3 : Code := { maxStack := 6, maxLocals := 8, code := prog_1_method_5_code, exceptionTable := #[], attributes := #[] }
def k8m3 : Method := { name := "proRata", desc := "(I[I)[I", sig := { parameters := [.int, (.array .int)], returnType := some (.array .int) }, accessFlags := 10, code := some k8c3 }
/-- com/example/legwork/legwork/Allocation -/
def k8 : Class := { plain "com/example/legwork/legwork/Allocation" (some 0) with
  accessFlags := 48
  interfaces := #[]
  cf := some (fileOf pool8 14 #[] #[{ accessFlags := 2, nameIndex := 5, descriptorIndex := 6, attributes := #[] }, { accessFlags := 8, nameIndex := 44, descriptorIndex := 45, attributes := #[] }, { accessFlags := 10, nameIndex := 21, descriptorIndex := 18, attributes := #[] }, { accessFlags := 10, nameIndex := 17, descriptorIndex := 18, attributes := #[] }] 48 2 #[] #[])
  fields := #[]
  methods := #[k8m0, k8m1, k8m2, k8m3]
  instanceTypes := #[]
  staticTypes := #[]
  resolved := Array.replicate 67 none
  statics := none }

def pool9 : Array CpInfo := pool [(1, .class_ 2), (0, u "java/lang/Cloneable"), (0, .class_ 4), (0, u "java/lang/Object")] 2

/-- java/lang/Cloneable -/
def k9 : Class := { plain "java/lang/Cloneable" (some 0) with
  accessFlags := 1537
  interfaces := #[]
  cf := some (fileOf pool9 1 #[] #[] 1537 3 #[] #[])
  fields := #[]
  methods := #[]
  instanceTypes := #[]
  staticTypes := #[]
  resolved := Array.replicate 7 none
  statics := none }

/-- the primitive byte -/
def k10 : Class := { plain "byte" none with kind := .primitive 'B', accessFlags := 0x411 }
/-- [B -/
def k11 : Class := { plain "[B" (some 0) with kind := .array 10 .byte, interfaces := #[9, 4], accessFlags := 1041 }

/-- the primitive int -/
def k12 : Class := { plain "int" none with kind := .primitive 'I', accessFlags := 0x411 }
/-- [I -/
def k13 : Class := { plain "[I" (some 0) with kind := .array 12 .int, interfaces := #[9, 4], accessFlags := 1041 }

def heap : Heap := #[{ cls := 6, slots := #[.ref 1, .ref 4, .ref 3, .ref 2, .null], vm := .statics 6 },
  { cls := 6, slots := #[.null, .int 0, .int 0, .int 0], vm := .none },
  { cls := 6, slots := #[.null, .int 0, .int 0, .int 0], vm := .none },
  { cls := 6, slots := #[.null, .int 0, .int 0, .int 1], vm := .none },
  { cls := 6, slots := #[.null, .int 0, .int 0, .int 1], vm := .none }]
def classes : Array Class := #[k0, k1, k2, k3, k4, k5, k6, k7, k8, k9, k10, k11, k12, k13]
def interned : List (Array UInt16 × Addr) := []
def slotsUsed : Nat := 21
def theMethod : MethodId := ⟨1, 1⟩
def args0 : Array Value := #[.int 5, .int 3, .int 9, .int 2, .int 1]
def aboutOver (below : List Frame) : State where
  vm := { classes := classes, interned := interned.toArray }
  heap := heap
  slotsUsed := slotsUsed
  threads := #[{ frames := .invoking theMethod args0 :: below }]
def below0 : List Frame := [.native { method := ⟨0, 0⟩, args := #[] }]
def about1 : State := aboutOver below0
def p0 : Program := .bare "" "" ""
def e0 : Env := launch0.env 0 0 0
theorem w_frames : about1.frames = Frame.invoking theMethod args0 :: below0 := rfl
set_option maxRecDepth 65536 in
theorem w_args : argsFit about1.vm theMethod args0 = true := by decide +kernel
set_option maxRecDepth 65536 in
theorem w_heap : heapFits about1 = true := by decide +kernel
set_option maxRecDepth 65536 in
theorem w_runnable : about1.curStatus? = some .runnable := by decide +kernel
set_option maxRecDepth 65536 in
theorem w_alone : about1.alone = true := by decide +kernel
set_option maxRecDepth 65536 in
theorem w_named : about1.methodNamed? x = some theMethod := by decide +kernel
set_option maxRecDepth 65536 in
theorem w_hears : about1.hears theMethod below0 = true := by decide +kernel
set_option maxRecDepth 65536 in
theorem w_ripe : about1.ripe theMethod args0 below0 = true := by decide +kernel
theorem w_running : about1.status = .running := rfl
set_option maxRecDepth 65536 in
theorem w_room : about1.hasRoom e0.platform room_1 = true :=
  launch0.hasRoom_least _ room_1 (by decide +kernel) (by decide +kernel) (by decide +kernel) (by decide +kernel) (by decide +kernel) (by decide +kernel)
theorem allAtoms_all (ts : List Jvm.Cond) (a : Array Jvm.Value) (st : Jvm.State) : (allAtoms ts).before a st = ts.all (fun c => c.before a st) := by
  induction ts with
  | nil => rfl
  | cons c t ih =>
    show (Jvm.Cond.and c (allAtoms t)).before a st = _
    rw [Jvm.Cond.before_and, ih, List.all_cons]
def words1 : List Jvm.Cond := Jvm.Cond.code x code maxLocals ret :: tables_1
/-- a 'code' word, met by the world's own term for the bytes: nothing is compared byte by byte -/
theorem code_word {y : MethodName} {bytes : ByteArray} {mx : Nat} {rt : Option FieldType} {a : Array Value} {s : State} {m : MethodId} {meth : Method} {c : Code} (h1 : s.methodNamed? y = some m) (h2 : s.vm.method? m = some meth) (h3 : meth.code = some c) (h4 : c.code = bytes)
    (h5 : (c.maxLocals == mx && c.exceptionTable.isEmpty && decide (c.maxStack ≤ mostOperands) && decide (meth.sig.returnType = rt) && !meth.locks && decide (parseMethodDescriptor y.desc = some meth.sig)) = true) : (Jvm.Cond.code y bytes mx rt).before a s = true := by
  simp only [Bool.and_eq_true, beq_iff_eq, Bool.not_eq_true', decide_eq_true_eq] at h5
  obtain ⟨⟨⟨⟨⟨g1, g2⟩, g3⟩, g4⟩, g5⟩, g6⟩ := h5
  simp [Cond.before, Cond.holds, Cond.value, h1, h2, h3, h4, g1, g2, g3, g4, g5, g6]
def isCode : Jvm.Cond → Bool
  | .code _ _ _ _ => true
  | _ => false
theorem all_split {L : List Jvm.Cond} {P : Jvm.Cond → Bool} (h1 : L.all (fun c => isCode c || P c) = true) (h2 : ∀ c ∈ L.filter isCode, P c = true) : L.all P = true := by
  refine List.all_eq_true.mpr fun c hc => ?_
  have h := List.all_eq_true.mp h1 c hc
  rcases Bool.eq_false_or_eq_true (isCode c) with hi | hi
  · exact h2 c (List.mem_filter.mpr ⟨hc, hi⟩)
  · simpa [hi] using h
set_option maxRecDepth 65536 in
theorem w_c0 : (Jvm.Cond.code x code maxLocals ret).before args0 about1 = true := code_word (m := ⟨1, 1⟩) (meth := k1m1) (c := k1c1) (by decide +kernel) rfl rfl rfl (by decide +kernel)
set_option maxRecDepth 65536 in
theorem w_c1 : (Jvm.Cond.code ({ cls := "java/lang/Math", name := "max", desc := "(II)I" } : Jvm.MethodName) jdk_29_method_65_code (2 : Nat) (Option.some Jvm.ClassFile.FieldType.int)).before args0 about1 = true := code_word (m := ⟨7, 1⟩) (meth := k7m1) (c := k7c1) (by decide +kernel) rfl rfl rfl (by decide +kernel)
set_option maxRecDepth 65536 in
theorem w_c2 : (Jvm.Cond.code ({ cls := "com/example/legwork/legwork/Allocation", name := "share", desc := "(Lcom/example/legwork/legwork/Tier;I[I)[I" } : Jvm.MethodName) prog_1_method_2_code (3 : Nat) (Option.some (Jvm.ClassFile.FieldType.array Jvm.ClassFile.FieldType.int))).before args0 about1 = true := code_word (m := ⟨8, 1⟩) (meth := k8m1) (c := k8c1) (by decide +kernel) rfl rfl rfl (by decide +kernel)
set_option maxRecDepth 65536 in
theorem w_c3 : (Jvm.Cond.code ({ cls := "com/example/legwork/legwork/Tier", name := "isProRata", desc := "()Z" } : Jvm.MethodName) prog_54_method_4_code (1 : Nat) (Option.some Jvm.ClassFile.FieldType.boolean)).before args0 about1 = true := code_word (m := ⟨6, 0⟩) (meth := k6m0) (c := k6c0) (by decide +kernel) rfl rfl rfl (by decide +kernel)
set_option maxRecDepth 65536 in
theorem w_c4 : (Jvm.Cond.code ({ cls := "com/example/legwork/legwork/Allocation", name := "timePriority", desc := "(I[I)[I" } : Jvm.MethodName) prog_1_method_4_code (5 : Nat) (Option.some (Jvm.ClassFile.FieldType.array Jvm.ClassFile.FieldType.int))).before args0 about1 = true := code_word (m := ⟨8, 2⟩) (meth := k8m2) (c := k8c2) (by decide +kernel) rfl rfl rfl (by decide +kernel)
set_option maxRecDepth 65536 in
theorem w_c5 : (Jvm.Cond.code ({ cls := "java/lang/Math", name := "min", desc := "(II)I" } : Jvm.MethodName) jdk_29_method_69_code (2 : Nat) (Option.some Jvm.ClassFile.FieldType.int)).before args0 about1 = true := code_word (m := ⟨7, 2⟩) (meth := k7m2) (c := k7c2) (by decide +kernel) rfl rfl rfl (by decide +kernel)
set_option maxRecDepth 65536 in
theorem w_c6 : (Jvm.Cond.code ({ cls := "java/lang/Math", name := "min", desc := "(JJ)J" } : Jvm.MethodName) jdk_29_method_70_code (4 : Nat) (Option.some Jvm.ClassFile.FieldType.long)).before args0 about1 = true := code_word (m := ⟨7, 3⟩) (meth := k7m3) (c := k7c3) (by decide +kernel) rfl rfl rfl (by decide +kernel)
set_option maxRecDepth 65536 in
theorem w_c7 : (Jvm.Cond.code ({ cls := "com/example/legwork/legwork/Allocation", name := "proRata", desc := "(I[I)[I" } : Jvm.MethodName) prog_1_method_5_code (8 : Nat) (Option.some (Jvm.ClassFile.FieldType.array Jvm.ClassFile.FieldType.int))).before args0 about1 = true := code_word (m := ⟨8, 3⟩) (meth := k8m3) (c := k8c3) (by decide +kernel) rfl rfl rfl (by decide +kernel)
def codes1 : List Jvm.Cond := [Jvm.Cond.code x code maxLocals ret, Jvm.Cond.code ({ cls := "java/lang/Math", name := "max", desc := "(II)I" } : Jvm.MethodName) jdk_29_method_65_code (2 : Nat) (Option.some Jvm.ClassFile.FieldType.int), Jvm.Cond.code ({ cls := "com/example/legwork/legwork/Allocation", name := "share", desc := "(Lcom/example/legwork/legwork/Tier;I[I)[I" } : Jvm.MethodName) prog_1_method_2_code (3 : Nat) (Option.some (Jvm.ClassFile.FieldType.array Jvm.ClassFile.FieldType.int)), Jvm.Cond.code ({ cls := "com/example/legwork/legwork/Tier", name := "isProRata", desc := "()Z" } : Jvm.MethodName) prog_54_method_4_code (1 : Nat) (Option.some Jvm.ClassFile.FieldType.boolean), Jvm.Cond.code ({ cls := "com/example/legwork/legwork/Allocation", name := "timePriority", desc := "(I[I)[I" } : Jvm.MethodName) prog_1_method_4_code (5 : Nat) (Option.some (Jvm.ClassFile.FieldType.array Jvm.ClassFile.FieldType.int)), Jvm.Cond.code ({ cls := "java/lang/Math", name := "min", desc := "(II)I" } : Jvm.MethodName) jdk_29_method_69_code (2 : Nat) (Option.some Jvm.ClassFile.FieldType.int), Jvm.Cond.code ({ cls := "java/lang/Math", name := "min", desc := "(JJ)J" } : Jvm.MethodName) jdk_29_method_70_code (4 : Nat) (Option.some Jvm.ClassFile.FieldType.long), Jvm.Cond.code ({ cls := "com/example/legwork/legwork/Allocation", name := "proRata", desc := "(I[I)[I" } : Jvm.MethodName) prog_1_method_5_code (8 : Nat) (Option.some (Jvm.ClassFile.FieldType.array Jvm.ClassFile.FieldType.int))]
set_option maxRecDepth 65536 in
theorem codes_eq : words1.filter isCode = codes1 := rfl
theorem w_codes : ∀ c ∈ words1.filter isCode, c.before args0 about1 = true := by
  rw [codes_eq]
  intro c hc
  simp only [codes1, List.mem_cons, List.not_mem_nil, or_false] at hc
  rcases hc with rfl | rfl | rfl | rfl | rfl | rfl | rfl | rfl
  · exact w_c0
  · exact w_c1
  · exact w_c2
  · exact w_c3
  · exact w_c4
  · exact w_c5
  · exact w_c6
  · exact w_c7
set_option maxRecDepth 65536 in
theorem w_t1 : (words1.take 24).all (fun c => isCode c || c.before args0 about1) = true := by decide +kernel
set_option maxRecDepth 65536 in
theorem w_t2 : (words1.drop 24).all (fun c => isCode c || c.before args0 about1) = true := by decide +kernel
theorem w_tables : (allAtoms (Jvm.Cond.code x code maxLocals ret :: tables_1)).before args0 about1 = true := by
  rw [allAtoms_all]
  show words1.all (fun c => c.before args0 about1) = true
  refine all_split ?_ w_codes
  rw [← List.take_append_drop 24 words1, List.all_append, w_t1, w_t2]
  rfl
set_option maxRecDepth 65536 in
theorem w_case : (Jvm.Cond.and given_1 narrow_1).before args0 about1 = true := by decide +kernel
theorem w_applies : (headSpec (Jvm.Cond.code x code maxLocals ret :: tables_1) room_1).applies x e0.platform about1 = true :=
  (Spec.applies_iff w_frames).mpr ⟨w_running, w_runnable, w_alone, w_named, w_hears, w_ripe, w_room, w_tables⟩
theorem atStart : AtStart classFile x code maxLocals ret World_1 tables_1 room_1 Calls_1 rest_1 Pre_1 launch0 p0 e0 about1 theMethod args0 below0 :=
  ⟨lists_1, trivial, launch0.admits_env _ _ _, launch0.least_env, fairChoices_fair.cas, fairChoices_fair.clock, w_frames, w_args, w_heap, w_applies, trivial, trivial, w_case⟩
end start1
theorem witness_1 : WitnessClaimed_1 := ⟨start1.p0, start1.e0, start1.about1, start1.theMethod, start1.args0, start1.below0, start1.atStart⟩
end Jvm.Pilot.@@N@@
