import JvmDerived
import JvmDerived.Pilot.@@N@@Statement
import JvmDerived.Pilot.@@N@@Code
set_option linter.unusedVariables false
set_option linter.unusedSimpArgs false
namespace Jvm.RoadKit
open Sem ClassFile Op Lib Jvm.Stand Jvm.Free Jvm.LawKit
section New
variable {p : Program} {l : Launch} {e : Env} {R : Room} {s : State} {m : MethodId} {args : Array Value} {below : List Frame} {meth : Method} {c : Code} {T : State} {locs : List Loc} {cells slots : Nat}
theorem retI (X : Stand p l e R s m args below meth c T locs cells slots) (hx : p.tables.exec = Jvm.exec) {pc : Nat} {Ls : Array Slot} {z : Int32} {rest : List Value} (hret : meth.sig.returnType = some .int) (hd : decode c.code pc = .ok (.ireturn, 1)) {fs : List Frame}
    (hl : ∀ (f : JFrame) (acts : List Action), f.method = m → f.locked = none → f.entered = [] → (doReturn e (T.setTop f) acts (some (.int z))).1 = T.setFrames fs) : Steps p.tables e below (T.setTop (mkF m pc Ls (.int z :: rest))) (T.setFrames fs) := by
  have hm' : T.vm.method? m = some meth := X.method'
  have hn : narrow .int (.int z) = .int z := rfl
  show Steps p.tables e below (T.setTop { method := m, pc := pc, locals := Ls, stack := _ :: rest, locked := none }) _
  jvm_step X.here [X.here.top, hx, hd, hm', hret, hn]
  first | (intro acts; rw [hl _ acts rfl rfl rfl]) | rw [hl _ _ rfl rfl rfl]
  exact Steps.refl _
end New
end Jvm.RoadKit
namespace Jvm.Pilot.@@N@@
open Jvm Jvm.ClassFile Sem Op Lib Jvm.Free Jvm.Stand Jvm.LawKit Jvm.RoadKit Bundle Jvm.Pilot.@@N@@.Jvm.D
def own_irem (x y : Int32) : Int32 := x - (x / y) * y
theorem own_irem_mod (x y : Int32) : own_irem x y = x % y := by
  unfold own_irem
  apply Int32.toInt_inj.mp
  have h1 := Int32.le_toInt (x % y)
  have h2 := Int32.toInt_lt (x % y)
  rw [Int32.toInt_sub, Int32.toInt_mul, Int32.toInt_div, Int.bmod_mul_bmod, Int.sub_bmod_bmod, Int.mul_comm (x.toInt.tdiv y.toInt), ← Int.tmod_def, ← Int32.toInt_mod]
  exact Int.bmod_eq_of_le_mul_two (by omega) (by omega)
theorem own_fld_eq {args : Array Value} {s : State} {t : Term} {C n d : String} {w : Addr} {k : Int32} (ht : t.eval args s none [] s = some (.ref w)) (h : (Jvm.Cond.eq (Term.field t C n d) (Term.int k)).value args s none s [] = some true) : Fld s s.heap w C n d (.int k) := by
  obtain ⟨x, y, ha, hb, -, -⟩ := cmp_v (Or.inl h)
  have hy : y = .int k := (Option.some.inj ((Term.int_eval k).symm.trans hb)).symm
  subst hy
  have hx : x = .int k := by
    cases x <;> simp [Cond.value, ha, hb] at h ⊢
    exact h
  subst hx
  exact Fld.start (by rw [← fld_at ht]; exact ha)
theorem own_fld_ref {args : Array Value} {s : State} {t u : Term} {C n d : String} {w : Addr} {k : Addr} (ht : t.eval args s none [] s = some (.ref w)) (hu : u.eval args s none [] s = some (.ref k)) (h : (Jvm.Cond.eq (Term.field t C n d) u).value args s none s [] = some true) : Fld s s.heap w C n d (.ref k) := by
  obtain ⟨x, y, ha, hb, -, -⟩ := cmp_v (Or.inl h)
  cases hu.symm.trans hb
  have hx : x = .ref k := by
    cases x <;> simp [Cond.value, ha, hb] at h ⊢
    exact h
  subst hx
  exact Fld.start (by rw [← fld_at ht]; exact ha)
theorem own_sel_priv {s : State} {args : Array Value} {y z : MethodName} (hsel : (Jvm.Cond.selects z.cls z z).before args s = true) (hz : z.cls = y.cls) (hpriv : (Jvm.Cond.privateMethod y).before args s = true) (hinst : (Jvm.Cond.instanceMethod y).before args s = true) (hy : y.cls ≠ "java/lang/invoke/MethodHandle" ∧ y.cls ≠ "java/lang/invoke/VarHandle") : (Jvm.Cond.selects y.cls y y).before args s = true := by
  obtain ⟨c, r, m, h1, h2, h3, h4, mk, h5, h6⟩ := Cond.selects_spec hsel
  have hc := findClass_of_methodNamed h3
  rw [hz] at hc
  exact selects_self_of_private hc h5 h6 (Cond.privateMethod_at hpriv) hinst hy
theorem own_nm_int : "[" ++ (newarray.typeOf .int).toString = "[I" := by decide
theorem own_nm_long : "[" ++ (newarray.typeOf .long).toString = "[J" := by decide
theorem own_nm_char : "[" ++ (newarray.typeOf .char).toString = "[C" := by decide
theorem own_nm_boolean : "[" ++ (newarray.typeOf .boolean).toString = "[Z" := by decide
theorem own_ns_exa {Z : State} {h : Heap} {a : Addr} {C : String} (E : Exa Z h a C) : ∀ c : Cell, h[a]? = some c → c.vm.isStatics = false := fun c hc => by
  obtain ⟨cell, k, h1, -, -, h4, -⟩ := E
  cases h1.symm.trans hc
  exact h4
theorem own_ns_arr {Z : State} {h : Heap} {a : Addr} {cl : Cell} {ty : FieldType} (A : Arr Z h a cl ty) : ∀ c : Cell, h[a]? = some c → c.vm.isStatics = false := fun c hc => by
  cases A.1.symm.trans hc
  exact A.plain
theorem own_ns_arv {Z : State} {h : Heap} {a : Addr} {k : ClassId} {ty : FieldType} {z : Int32} {vs : List Value} {dv : Value} (F : Arv Z h a k ty z vs dv) : ∀ c : Cell, h[a]? = some c → c.vm.isStatics = false := by
  obtain ⟨c, A, -⟩ := F
  exact own_ns_arr A
theorem own_sta_keep {Z : State} {h h' : Heap} {C n d : String} {v : Value} {ws : List Addr} (F : Sta Z h C n d v) (K : Keep h h' ws) (q : ∀ x ∈ ws, ∀ c : Cell, h[x]? = some c → c.vm.isStatics = false) : Sta Z h' C n d v := by
  obtain ⟨cf, i, k, f, st, cell, h1, h2, h3, h4, h5, h6, h7⟩ := F
  exact ⟨cf, i, k, f, st, cell, h1, h2, h3, h4, K.2.1 st cell h5 (fun hm => by rw [q st hm cell h5] at h6; cases h6), h6, h7⟩
theorem own_len {args : Array Value} {s : State} {t : Term} {a : Addr} {cl : Cell} {n : Int32} (ht : t.eval args s none [] s = some (.ref a)) (hc : s.heap[a]? = some cl) (h : (Jvm.Cond.eq (Term.length t) (Term.int n)).value args s none s [] = some true) : cl.slots.size < 2 ^ 31 ∧ cl.slots.size.toInt32 = n := by
  obtain ⟨x, y, ha, hb, -, -⟩ := cmp_v (Or.inl h)
  have hy : y = .int n := (Option.some.inj ((Term.int_eval n).symm.trans hb)).symm
  subst hy
  have hx : x = .int n := by
    cases x <;> simp [Cond.value, ha, hb] at h ⊢
    exact h
  subst hx
  simp only [Term.eval, ht, Option.bind_eq_bind, Option.bind_some] at ha
  cases hq : s.arrayAt? a with
  | none => simp [hq] at ha
  | some c2 =>
    cases (State.arrayAt?_spec hq).1.symm.trans hc
    simp only [hq, Option.bind_some] at ha
    split at ha
    · rename_i hlt
      exact ⟨hlt, Value.int.inj (Option.some.inj ha)⟩
    · cases ha
theorem own_elem {args : Array Value} {s : State} {t u : Term} {a k : Addr} {cl : Cell} {j : Int32} (ht : t.eval args s none [] s = some (.ref a)) (hu : u.eval args s none [] s = some (.ref k)) (hc : s.heap[a]? = some cl) (h : (Jvm.Cond.eq (Term.elem t (Term.int j)) u).value args s none s [] = some true) : cl.slots[j.toNatClampNeg]? = some (.ref k) := by
  obtain ⟨x, y, ha, hb, -, -⟩ := cmp_v (Or.inl h)
  cases hu.symm.trans hb
  have hx : x = .ref k := by
    cases x <;> simp [Cond.value, ha, hb] at h ⊢
    exact h
  subst hx
  exact (elem_in ha ht (Term.int_eval j) hc).2
theorem own_out {p : Int32} (h0 : ¬ p = (0 : Int32)) (h1 : ¬ p = (1 : Int32)) (h2 : ¬ p = (2 : Int32)) (h3 : ¬ p = (3 : Int32)) (h4 : ¬ p = (4 : Int32)) (h5 : ¬ p = (5 : Int32)) : ¬ p < (0 : Int32) → ¬ p < (6 : Int32) := by
  intro hp0 hp6
  have e : ∀ k : Int32, p = k ↔ p.toInt = k.toInt := fun k => Int32.toInt_inj.symm
  rw [e] at h0 h1 h2 h3 h4 h5
  rw [Int32.lt_iff_toInt_lt] at hp0 hp6
  rw [show (0 : Int32).toInt = 0 from rfl] at hp0 h0
  rw [show (6 : Int32).toInt = 6 from rfl] at hp6
  rw [show (1 : Int32).toInt = 1 from rfl] at h1
  rw [show (2 : Int32).toInt = 2 from rfl] at h2
  rw [show (3 : Int32).toInt = 3 from rfl] at h3
  rw [show (4 : Int32).toInt = 4 from rfl] at h4
  rw [show (5 : Int32).toInt = 5 from rfl] at h5
  omega
theorem d1_0 : decode method_3_code 0 = .ok (.iload_n 0, 1) := by decide +kernel
theorem d1_1 : decode method_3_code 1 = .ok (.invokestatic 28, 3) := by decide +kernel
theorem d1_4 : decode method_3_code 4 = .ok (.astore_n 1, 1) := by decide +kernel
theorem d1_5 : decode method_3_code 5 = .ok (.aload_n 1, 1) := by decide +kernel
theorem d1_6 : decode method_3_code 6 = .ok (.iload_n 0, 1) := by decide +kernel
theorem d1_7 : decode method_3_code 7 = .ok (.invokestatic 32, 3) := by decide +kernel
theorem d1_10 : decode method_3_code 10 = .ok (.if_acmp .eq 5, 3) := by decide +kernel
theorem d1_15 : decode method_3_code 15 = .ok (.aload_n 1, 1) := by decide +kernel
theorem d1_16 : decode method_3_code 16 = .ok (.ifnull 13, 3) := by decide +kernel
theorem d1_19 : decode method_3_code 19 = .ok (.aload_n 1, 1) := by decide +kernel
theorem d1_20 : decode method_3_code 20 = .ok (.invokevirtual 37, 3) := by decide +kernel
theorem d1_23 : decode method_3_code 23 = .ok (.iload_n 0, 1) := by decide +kernel
theorem d1_24 : decode method_3_code 24 = .ok (.if_icmp .eq 5, 3) := by decide +kernel
theorem d1_29 : decode method_3_code 29 = .ok (.iconst 1, 1) := by decide +kernel
theorem d1_30 : decode method_3_code 30 = .ok (.ireturn, 1) := by decide +kernel
theorem d2_0 : decode prog_21_method_5_code 0 = .ok (.iload_n 0, 1) := by decide +kernel
theorem d2_1 : decode prog_21_method_5_code 1 = .ok (.ifCond .lt 19, 3) := by decide +kernel
theorem d2_4 : decode prog_21_method_5_code 4 = .ok (.iload_n 0, 1) := by decide +kernel
theorem d2_5 : decode prog_21_method_5_code 5 = .ok (.getstatic 45, 3) := by decide +kernel
theorem d2_8 : decode prog_21_method_5_code 8 = .ok (.arraylength, 1) := by decide +kernel
theorem d2_9 : decode prog_21_method_5_code 9 = .ok (.if_icmp .ge 11, 3) := by decide +kernel
theorem d2_12 : decode prog_21_method_5_code 12 = .ok (.getstatic 45, 3) := by decide +kernel
theorem d2_15 : decode prog_21_method_5_code 15 = .ok (.iload_n 0, 1) := by decide +kernel
theorem d2_16 : decode prog_21_method_5_code 16 = .ok (.aaload, 1) := by decide +kernel
theorem d2_17 : decode prog_21_method_5_code 17 = .ok (.goto 4, 3) := by decide +kernel
theorem d2_20 : decode prog_21_method_5_code 20 = .ok (.aconst_null, 1) := by decide +kernel
theorem d2_21 : decode prog_21_method_5_code 21 = .ok (.areturn, 1) := by decide +kernel
theorem d3_0 : decode method_2_code 0 = .ok (.iload_n 0, 1) := by decide +kernel
theorem d3_1 : decode method_2_code 1 = .ok (.ifCond .ne 7, 3) := by decide +kernel
theorem d3_4 : decode method_2_code 4 = .ok (.getstatic 7, 3) := by decide +kernel
theorem d3_7 : decode method_2_code 7 = .ok (.areturn, 1) := by decide +kernel
theorem d3_8 : decode method_2_code 8 = .ok (.iload_n 0, 1) := by decide +kernel
theorem d3_9 : decode method_2_code 9 = .ok (.iconst 1, 1) := by decide +kernel
theorem d3_10 : decode method_2_code 10 = .ok (.if_icmp .ne 7, 3) := by decide +kernel
theorem d3_13 : decode method_2_code 13 = .ok (.getstatic 13, 3) := by decide +kernel
theorem d3_16 : decode method_2_code 16 = .ok (.areturn, 1) := by decide +kernel
theorem d3_17 : decode method_2_code 17 = .ok (.iload_n 0, 1) := by decide +kernel
theorem d3_18 : decode method_2_code 18 = .ok (.iconst 2, 1) := by decide +kernel
theorem d3_19 : decode method_2_code 19 = .ok (.if_icmp .ne 7, 3) := by decide +kernel
theorem d3_22 : decode method_2_code 22 = .ok (.getstatic 16, 3) := by decide +kernel
theorem d3_25 : decode method_2_code 25 = .ok (.areturn, 1) := by decide +kernel
theorem d3_26 : decode method_2_code 26 = .ok (.iload_n 0, 1) := by decide +kernel
theorem d3_27 : decode method_2_code 27 = .ok (.iconst 3, 1) := by decide +kernel
theorem d3_28 : decode method_2_code 28 = .ok (.if_icmp .ne 7, 3) := by decide +kernel
theorem d3_31 : decode method_2_code 31 = .ok (.getstatic 19, 3) := by decide +kernel
theorem d3_34 : decode method_2_code 34 = .ok (.areturn, 1) := by decide +kernel
theorem d3_35 : decode method_2_code 35 = .ok (.iload_n 0, 1) := by decide +kernel
theorem d3_36 : decode method_2_code 36 = .ok (.iconst 4, 1) := by decide +kernel
theorem d3_37 : decode method_2_code 37 = .ok (.if_icmp .ne 7, 3) := by decide +kernel
theorem d3_40 : decode method_2_code 40 = .ok (.getstatic 22, 3) := by decide +kernel
theorem d3_43 : decode method_2_code 43 = .ok (.areturn, 1) := by decide +kernel
theorem d3_44 : decode method_2_code 44 = .ok (.iload_n 0, 1) := by decide +kernel
theorem d3_45 : decode method_2_code 45 = .ok (.iconst 5, 1) := by decide +kernel
theorem d3_46 : decode method_2_code 46 = .ok (.if_icmp .ne 7, 3) := by decide +kernel
theorem d3_49 : decode method_2_code 49 = .ok (.getstatic 25, 3) := by decide +kernel
theorem d3_52 : decode method_2_code 52 = .ok (.areturn, 1) := by decide +kernel
theorem d3_53 : decode method_2_code 53 = .ok (.aconst_null, 1) := by decide +kernel
theorem d3_54 : decode method_2_code 54 = .ok (.areturn, 1) := by decide +kernel
theorem d4_0 : decode prog_21_method_4_code 0 = .ok (.aload_n 0, 1) := by decide +kernel
theorem d4_1 : decode prog_21_method_4_code 1 = .ok (.getfield 41, 3) := by decide +kernel
theorem d4_4 : decode prog_21_method_4_code 4 = .ok (.ireturn, 1) := by decide +kernel
theorem pn_0 : plainName "com/example/fieldglass/fieldglass/model/WireType" = true := by first | (simp [plainName, overriddenIn]; done) | decide +kernel
theorem pn_1 : plainName "com/example/fieldglass/fieldglass/model/WireTypeForIdPinLaw" = true := by first | (simp [plainName, overriddenIn]; done) | decide +kernel
theorem pd_0 : parseMethodDescriptor "(I)Lcom/example/fieldglass/fieldglass/model/WireType;" = some ⟨[.int], some (.object "com/example/fieldglass/fieldglass/model/WireType")⟩ := by decide +kernel
theorem pd_1 : parseMethodDescriptor "()I" = some ⟨[], some .int⟩ := by decide +kernel
theorem pd_2 : parseMethodDescriptor "(I)Z" = some ⟨[.int], some .boolean⟩ := by decide +kernel
theorem ef_fo0 (m : MethodId) (x0 : Int32) : entryFrame m #[(.int x0)] 1 = mkF m 0 #[.val (.int x0)] [] := by first | (simp [entryFrame, mkF, argsToLocals, Value.category]; done) | rfl
def Q_fo0 (Z : State) (zb : Addr) (kb : ClassId) (w0 : Addr) (w1 : Addr) (w2 : Addr) (w3 : Addr) (w4 : Addr) (w5 : Addr) (h0 : Heap) (n0 : Nat) (v : Option Value) (h : Heap) (L : List Loc) : Prop := v = some (.ref w0) ∧ Fr n0 L ∧ h = h0
set_option maxRecDepth 65536 in
set_option maxHeartbeats 40000000 in
theorem rm_fo0 (l : Launch) (Z : State) (a0 : Array Value) (hw : ∀ d ∈ tables_1, d.before a0 Z = true) (ws : List Jvm.Cond) (zb : Addr) (kb : ClassId) (w0 : Addr) (w1 : Addr) (w2 : Addr) (w3 : Addr) (w4 : Addr) (w5 : Addr) (h0 : Heap) (n0 : Nat) (Z0 : n0 ≤ h0.size) (H0_S : Sta Z h0 "com/example/fieldglass/fieldglass/model/WireType" "BY_ID" "[Lcom/example/fieldglass/fieldglass/model/WireType;" (.ref zb)) (H1_A : Arv Z h0 zb kb (.object "com/example/fieldglass/fieldglass/model/WireType") (6 : Int32) [(.ref w0), (.ref w1), (.ref w2), (.ref w3), (.ref w4), (.ref w5)] .null) :
    MetFree l (⟨"com/example/fieldglass/fieldglass/model/WireType", "forId", "(I)Lcom/example/fieldglass/fieldglass/model/WireType;"⟩ : MethodName) (head1 (Jvm.Cond.code (⟨"com/example/fieldglass/fieldglass/model/WireType", "forId", "(I)Lcom/example/fieldglass/fieldglass/model/WireType;"⟩ : MethodName) prog_21_method_5_code 1 (some (.object "com/example/fieldglass/fieldglass/model/WireType")) :: ws) ({ frames := 0, cells := 0, slots := 0, locals := 0 } : Room)) (fun as_ U_ => as_ = #[(.int (0 : Int32))] ∧ Z.Warmed39 U_.vm ∧ U_.heap = h0) (fun _ _ _ _ _ => True) (fun _ U o U' => ∃ v L, o = .returned v ∧ Q_fo0 Z zb kb w0 w1 w2 w3 w4 w5 h0 n0 v U'.heap L ∧ FrameEnd U o U' L ({ frames := 0, cells := 0, slots := 0, locals := 0 } : Room).cells ({ frames := 0, cells := 0, slots := 0, locals := 0 } : Room).slots) := by
  refine MetFree.of_bodySF (plainFor_of_name pn_0) hisR ?_
  intro p e s m args below meth c s₁ Bd hml0 hP hK
  obtain ⟨rfl, hZ, hh⟩ := hP
  have hx := Bd.exec
  have hby := Bd.bytes
  have hml : c.maxLocals = 1 := hml0
  have hown : s.vm.findClass "com/example/fieldglass/fieldglass/model/WireType" = some m.cls := findClass_of_methodNamed Bd.named
  have hnm := (name_of_methodNamed Bd.named Bd.method).1
  have X0 : Stand p l e ({ frames := 0, cells := 0, slots := 0, locals := 0 } : Room) s m #[(.int (0 : Int32))] below meth c s₁ [] 0 0 := Stand.of_body Bd
  have e0 : s₁.heap = h0 := by rw [← hh, Bd.state]; rfl
  have N0 := Fr.nil n0
  have pre0 : ∀ t, Steps p.tables e below (s₁.setTop (mkF m 0 #[.val (.int (0 : Int32))] [])) t → Steps p.tables e below (s₁.setTop (entryFrame m #[(.int (0 : Int32))] 1)) t := fun t k => castTop (ef_fo0 m (0 : Int32)) k
  obtain ⟨T1, X1, e1, st1⟩ := getS2 X0 hx hZ hown (host := "") (Or.inl (hw _ (List.mem_of_getElem? (i := 8) rfl))) Via.refl e0 H0_S (g := (mkF m 5 #[.val (.int (0 : Int32))] [(.int (0 : Int32))])) rfl (hb hby d2_5)
  have oc2 := H1_A
  obtain ⟨c2, Arc2, qc2, Sc2, Nc2, Hc2, Gc2⟩ := oc2
  obtain ⟨T3, X3, e3, st3⟩ := getS2 X1 hx hZ hown (host := "") (Or.inl (hw _ (List.mem_of_getElem? (i := 8) rfl))) Via.refl e1 H0_S (g := (mkF m 12 #[.val (.int (0 : Int32))] [])) rfl (hb hby d2_12)
  have oc4 := H1_A
  obtain ⟨c4, Arc4, qc4, Sc4, Nc4, Hc4, Gc4⟩ := oc4
  have hin5 : ¬ ((0 : Int32) < 0 ∨ c4.slots.size ≤ ((0 : Int32)).toNatClampNeg) := (inb_of Sc4 ⟨by decide, by decide⟩)
  have pre6 := fun (t : State) (k : Steps p.tables e below (T3.setTop (mkF m 21 #[.val (.int (0 : Int32))] [(.ref w0)])) t) => pre0 t (by
    refine XS.iloadN X0.here hx rfl (hb hby d2_0) rfl ?_
    show Steps p.tables e below (s₁.setTop (mkF m 1 #[.val (.int (0 : Int32))] [(.int (0 : Int32))])) _
    refine XS.ifNo X0.here hx rfl (hb hby d2_1) rfl ((if0 _ _).trans (flt (by decide : ¬ ((0 : Int32) < (0 : Int32)))).1) ?_
    show Steps p.tables e below (s₁.setTop (mkF m 4 #[.val (.int (0 : Int32))] [])) _
    refine XS.iloadN X0.here hx rfl (hb hby d2_4) rfl ?_
    show Steps p.tables e below (s₁.setTop (mkF m 5 #[.val (.int (0 : Int32))] [(.int (0 : Int32))])) _
    refine st1 _ ?_
    show Steps p.tables e below (T1.setTop (mkF m 8 #[.val (.int (0 : Int32))] [(.ref zb), (.int (0 : Int32))])) _
    refine X1.arraylength hx (by rw [e1]; exact Arc2.1) (State.isArrayOf_alike hZ.alike Arc2.2.1) (g := (mkF m 8 #[.val (.int (0 : Int32))] [(.ref zb), (.int (0 : Int32))])) rfl rfl (hb hby d2_8) _ ?_
    rw [show c2.slots.size.toInt32 = (6 : Int32) from (len_of Sc2 Nc2)]
    show Steps p.tables e below (T1.setTop (mkF m 9 #[.val (.int (0 : Int32))] [(.int (6 : Int32)), (.int (0 : Int32))])) _
    refine XS.icmpNo X1.here hx rfl (hb hby d2_9) rfl (tlt (by decide : (0 : Int32) < (6 : Int32))).2.1 ?_
    show Steps p.tables e below (T1.setTop (mkF m 12 #[.val (.int (0 : Int32))] [])) _
    refine st3 _ ?_
    show Steps p.tables e below (T3.setTop (mkF m 15 #[.val (.int (0 : Int32))] [(.ref zb)])) _
    refine XS.iloadN X3.here hx rfl (hb hby d2_15) rfl ?_
    show Steps p.tables e below (T3.setTop (mkF m 16 #[.val (.int (0 : Int32))] [(.int (0 : Int32)), (.ref zb)])) _
    refine X3.aaload hx (j := (0 : Int32)) (v := (.ref w0)) (by rw [e3]; exact Arc4.1) (State.isArrayOf_alike hZ.alike Arc4.2.1) rfl Arc4.2.2 hin5 (Has.at Hc4 hin5 rfl) (g := (mkF m 16 #[.val (.int (0 : Int32))] [(.int (0 : Int32)), (.ref zb)])) rfl rfl (hb hby d2_16) _ ?_
    show Steps p.tables e below (T3.setTop (mkF m 17 #[.val (.int (0 : Int32))] [(.ref w0)])) _
    refine XS.goto X3.here hx rfl (pc0 := 17) (pc' := 21) rfl (hb hby d2_17) (by decide) (by decide) ?_
    show Steps p.tables e below (T3.setTop (mkF m 21 #[.val (.int (0 : Int32))] [(.ref w0)])) _
    exact k)
  obtain ⟨fs, hr, hrun, hended, hW, hsame⟩ := X3.leave (v := some (.ref w0)) (fun h => by rw [Bd.returns] at h; cases h)
  refine ⟨_, _, pre6 _ ?_, hrun, hended, _, _, rfl, ?_, ⟨_, rfl⟩, hW, hsame.mono (by decide) (by decide)⟩
  · jvm_step X3.here [X3.here.top, hx, (hb hby d2_21), X3.method', Bd.returns, Value.isRef, FieldType.isReference]
    first | (intro acts; rw [hr _ acts rfl rfl rfl]) | rw [hr _ _ rfl rfl rfl]
    exact Steps.refl _
  · show Q_fo0 Z zb kb w0 w1 w2 w3 w4 w5 h0 n0 _ T3.heap _
    rw [e3]
    exact ⟨rfl, N0, rfl⟩

theorem ef_fo1 (m : MethodId) (x0 : Int32) : entryFrame m #[(.int x0)] 1 = mkF m 0 #[.val (.int x0)] [] := by first | (simp [entryFrame, mkF, argsToLocals, Value.category]; done) | rfl
def Q_fo1 (Z : State) (zb : Addr) (kb : ClassId) (w0 : Addr) (w1 : Addr) (w2 : Addr) (w3 : Addr) (w4 : Addr) (w5 : Addr) (h0 : Heap) (n0 : Nat) (v : Option Value) (h : Heap) (L : List Loc) : Prop := v = some (.ref w1) ∧ Fr n0 L ∧ h = h0
set_option maxRecDepth 65536 in
set_option maxHeartbeats 40000000 in
theorem rm_fo1 (l : Launch) (Z : State) (a0 : Array Value) (hw : ∀ d ∈ tables_1, d.before a0 Z = true) (ws : List Jvm.Cond) (zb : Addr) (kb : ClassId) (w0 : Addr) (w1 : Addr) (w2 : Addr) (w3 : Addr) (w4 : Addr) (w5 : Addr) (h0 : Heap) (n0 : Nat) (Z0 : n0 ≤ h0.size) (H0_S : Sta Z h0 "com/example/fieldglass/fieldglass/model/WireType" "BY_ID" "[Lcom/example/fieldglass/fieldglass/model/WireType;" (.ref zb)) (H1_A : Arv Z h0 zb kb (.object "com/example/fieldglass/fieldglass/model/WireType") (6 : Int32) [(.ref w0), (.ref w1), (.ref w2), (.ref w3), (.ref w4), (.ref w5)] .null) :
    MetFree l (⟨"com/example/fieldglass/fieldglass/model/WireType", "forId", "(I)Lcom/example/fieldglass/fieldglass/model/WireType;"⟩ : MethodName) (head1 (Jvm.Cond.code (⟨"com/example/fieldglass/fieldglass/model/WireType", "forId", "(I)Lcom/example/fieldglass/fieldglass/model/WireType;"⟩ : MethodName) prog_21_method_5_code 1 (some (.object "com/example/fieldglass/fieldglass/model/WireType")) :: ws) ({ frames := 0, cells := 0, slots := 0, locals := 0 } : Room)) (fun as_ U_ => as_ = #[(.int (1 : Int32))] ∧ Z.Warmed39 U_.vm ∧ U_.heap = h0) (fun _ _ _ _ _ => True) (fun _ U o U' => ∃ v L, o = .returned v ∧ Q_fo1 Z zb kb w0 w1 w2 w3 w4 w5 h0 n0 v U'.heap L ∧ FrameEnd U o U' L ({ frames := 0, cells := 0, slots := 0, locals := 0 } : Room).cells ({ frames := 0, cells := 0, slots := 0, locals := 0 } : Room).slots) := by
  refine MetFree.of_bodySF (plainFor_of_name pn_0) hisR ?_
  intro p e s m args below meth c s₁ Bd hml0 hP hK
  obtain ⟨rfl, hZ, hh⟩ := hP
  have hx := Bd.exec
  have hby := Bd.bytes
  have hml : c.maxLocals = 1 := hml0
  have hown : s.vm.findClass "com/example/fieldglass/fieldglass/model/WireType" = some m.cls := findClass_of_methodNamed Bd.named
  have hnm := (name_of_methodNamed Bd.named Bd.method).1
  have X0 : Stand p l e ({ frames := 0, cells := 0, slots := 0, locals := 0 } : Room) s m #[(.int (1 : Int32))] below meth c s₁ [] 0 0 := Stand.of_body Bd
  have e0 : s₁.heap = h0 := by rw [← hh, Bd.state]; rfl
  have N0 := Fr.nil n0
  have pre0 : ∀ t, Steps p.tables e below (s₁.setTop (mkF m 0 #[.val (.int (1 : Int32))] [])) t → Steps p.tables e below (s₁.setTop (entryFrame m #[(.int (1 : Int32))] 1)) t := fun t k => castTop (ef_fo1 m (1 : Int32)) k
  obtain ⟨T1, X1, e1, st1⟩ := getS2 X0 hx hZ hown (host := "") (Or.inl (hw _ (List.mem_of_getElem? (i := 8) rfl))) Via.refl e0 H0_S (g := (mkF m 5 #[.val (.int (1 : Int32))] [(.int (1 : Int32))])) rfl (hb hby d2_5)
  have oc2 := H1_A
  obtain ⟨c2, Arc2, qc2, Sc2, Nc2, Hc2, Gc2⟩ := oc2
  obtain ⟨T3, X3, e3, st3⟩ := getS2 X1 hx hZ hown (host := "") (Or.inl (hw _ (List.mem_of_getElem? (i := 8) rfl))) Via.refl e1 H0_S (g := (mkF m 12 #[.val (.int (1 : Int32))] [])) rfl (hb hby d2_12)
  have oc4 := H1_A
  obtain ⟨c4, Arc4, qc4, Sc4, Nc4, Hc4, Gc4⟩ := oc4
  have hin5 : ¬ ((1 : Int32) < 0 ∨ c4.slots.size ≤ ((1 : Int32)).toNatClampNeg) := (inb_of Sc4 ⟨by decide, by decide⟩)
  have pre6 := fun (t : State) (k : Steps p.tables e below (T3.setTop (mkF m 21 #[.val (.int (1 : Int32))] [(.ref w1)])) t) => pre0 t (by
    refine XS.iloadN X0.here hx rfl (hb hby d2_0) rfl ?_
    show Steps p.tables e below (s₁.setTop (mkF m 1 #[.val (.int (1 : Int32))] [(.int (1 : Int32))])) _
    refine XS.ifNo X0.here hx rfl (hb hby d2_1) rfl ((if0 _ _).trans (flt (by decide : ¬ ((1 : Int32) < (0 : Int32)))).1) ?_
    show Steps p.tables e below (s₁.setTop (mkF m 4 #[.val (.int (1 : Int32))] [])) _
    refine XS.iloadN X0.here hx rfl (hb hby d2_4) rfl ?_
    show Steps p.tables e below (s₁.setTop (mkF m 5 #[.val (.int (1 : Int32))] [(.int (1 : Int32))])) _
    refine st1 _ ?_
    show Steps p.tables e below (T1.setTop (mkF m 8 #[.val (.int (1 : Int32))] [(.ref zb), (.int (1 : Int32))])) _
    refine X1.arraylength hx (by rw [e1]; exact Arc2.1) (State.isArrayOf_alike hZ.alike Arc2.2.1) (g := (mkF m 8 #[.val (.int (1 : Int32))] [(.ref zb), (.int (1 : Int32))])) rfl rfl (hb hby d2_8) _ ?_
    rw [show c2.slots.size.toInt32 = (6 : Int32) from (len_of Sc2 Nc2)]
    show Steps p.tables e below (T1.setTop (mkF m 9 #[.val (.int (1 : Int32))] [(.int (6 : Int32)), (.int (1 : Int32))])) _
    refine XS.icmpNo X1.here hx rfl (hb hby d2_9) rfl (tlt (by decide : (1 : Int32) < (6 : Int32))).2.1 ?_
    show Steps p.tables e below (T1.setTop (mkF m 12 #[.val (.int (1 : Int32))] [])) _
    refine st3 _ ?_
    show Steps p.tables e below (T3.setTop (mkF m 15 #[.val (.int (1 : Int32))] [(.ref zb)])) _
    refine XS.iloadN X3.here hx rfl (hb hby d2_15) rfl ?_
    show Steps p.tables e below (T3.setTop (mkF m 16 #[.val (.int (1 : Int32))] [(.int (1 : Int32)), (.ref zb)])) _
    refine X3.aaload hx (j := (1 : Int32)) (v := (.ref w1)) (by rw [e3]; exact Arc4.1) (State.isArrayOf_alike hZ.alike Arc4.2.1) rfl Arc4.2.2 hin5 (Has.at Hc4 hin5 rfl) (g := (mkF m 16 #[.val (.int (1 : Int32))] [(.int (1 : Int32)), (.ref zb)])) rfl rfl (hb hby d2_16) _ ?_
    show Steps p.tables e below (T3.setTop (mkF m 17 #[.val (.int (1 : Int32))] [(.ref w1)])) _
    refine XS.goto X3.here hx rfl (pc0 := 17) (pc' := 21) rfl (hb hby d2_17) (by decide) (by decide) ?_
    show Steps p.tables e below (T3.setTop (mkF m 21 #[.val (.int (1 : Int32))] [(.ref w1)])) _
    exact k)
  obtain ⟨fs, hr, hrun, hended, hW, hsame⟩ := X3.leave (v := some (.ref w1)) (fun h => by rw [Bd.returns] at h; cases h)
  refine ⟨_, _, pre6 _ ?_, hrun, hended, _, _, rfl, ?_, ⟨_, rfl⟩, hW, hsame.mono (by decide) (by decide)⟩
  · jvm_step X3.here [X3.here.top, hx, (hb hby d2_21), X3.method', Bd.returns, Value.isRef, FieldType.isReference]
    first | (intro acts; rw [hr _ acts rfl rfl rfl]) | rw [hr _ _ rfl rfl rfl]
    exact Steps.refl _
  · show Q_fo1 Z zb kb w0 w1 w2 w3 w4 w5 h0 n0 _ T3.heap _
    rw [e3]
    exact ⟨rfl, N0, rfl⟩

theorem ef_fo2 (m : MethodId) (x0 : Int32) : entryFrame m #[(.int x0)] 1 = mkF m 0 #[.val (.int x0)] [] := by first | (simp [entryFrame, mkF, argsToLocals, Value.category]; done) | rfl
def Q_fo2 (Z : State) (zb : Addr) (kb : ClassId) (w0 : Addr) (w1 : Addr) (w2 : Addr) (w3 : Addr) (w4 : Addr) (w5 : Addr) (h0 : Heap) (n0 : Nat) (v : Option Value) (h : Heap) (L : List Loc) : Prop := v = some (.ref w2) ∧ Fr n0 L ∧ h = h0
set_option maxRecDepth 65536 in
set_option maxHeartbeats 40000000 in
theorem rm_fo2 (l : Launch) (Z : State) (a0 : Array Value) (hw : ∀ d ∈ tables_1, d.before a0 Z = true) (ws : List Jvm.Cond) (zb : Addr) (kb : ClassId) (w0 : Addr) (w1 : Addr) (w2 : Addr) (w3 : Addr) (w4 : Addr) (w5 : Addr) (h0 : Heap) (n0 : Nat) (Z0 : n0 ≤ h0.size) (H0_S : Sta Z h0 "com/example/fieldglass/fieldglass/model/WireType" "BY_ID" "[Lcom/example/fieldglass/fieldglass/model/WireType;" (.ref zb)) (H1_A : Arv Z h0 zb kb (.object "com/example/fieldglass/fieldglass/model/WireType") (6 : Int32) [(.ref w0), (.ref w1), (.ref w2), (.ref w3), (.ref w4), (.ref w5)] .null) :
    MetFree l (⟨"com/example/fieldglass/fieldglass/model/WireType", "forId", "(I)Lcom/example/fieldglass/fieldglass/model/WireType;"⟩ : MethodName) (head1 (Jvm.Cond.code (⟨"com/example/fieldglass/fieldglass/model/WireType", "forId", "(I)Lcom/example/fieldglass/fieldglass/model/WireType;"⟩ : MethodName) prog_21_method_5_code 1 (some (.object "com/example/fieldglass/fieldglass/model/WireType")) :: ws) ({ frames := 0, cells := 0, slots := 0, locals := 0 } : Room)) (fun as_ U_ => as_ = #[(.int (2 : Int32))] ∧ Z.Warmed39 U_.vm ∧ U_.heap = h0) (fun _ _ _ _ _ => True) (fun _ U o U' => ∃ v L, o = .returned v ∧ Q_fo2 Z zb kb w0 w1 w2 w3 w4 w5 h0 n0 v U'.heap L ∧ FrameEnd U o U' L ({ frames := 0, cells := 0, slots := 0, locals := 0 } : Room).cells ({ frames := 0, cells := 0, slots := 0, locals := 0 } : Room).slots) := by
  refine MetFree.of_bodySF (plainFor_of_name pn_0) hisR ?_
  intro p e s m args below meth c s₁ Bd hml0 hP hK
  obtain ⟨rfl, hZ, hh⟩ := hP
  have hx := Bd.exec
  have hby := Bd.bytes
  have hml : c.maxLocals = 1 := hml0
  have hown : s.vm.findClass "com/example/fieldglass/fieldglass/model/WireType" = some m.cls := findClass_of_methodNamed Bd.named
  have hnm := (name_of_methodNamed Bd.named Bd.method).1
  have X0 : Stand p l e ({ frames := 0, cells := 0, slots := 0, locals := 0 } : Room) s m #[(.int (2 : Int32))] below meth c s₁ [] 0 0 := Stand.of_body Bd
  have e0 : s₁.heap = h0 := by rw [← hh, Bd.state]; rfl
  have N0 := Fr.nil n0
  have pre0 : ∀ t, Steps p.tables e below (s₁.setTop (mkF m 0 #[.val (.int (2 : Int32))] [])) t → Steps p.tables e below (s₁.setTop (entryFrame m #[(.int (2 : Int32))] 1)) t := fun t k => castTop (ef_fo2 m (2 : Int32)) k
  obtain ⟨T1, X1, e1, st1⟩ := getS2 X0 hx hZ hown (host := "") (Or.inl (hw _ (List.mem_of_getElem? (i := 8) rfl))) Via.refl e0 H0_S (g := (mkF m 5 #[.val (.int (2 : Int32))] [(.int (2 : Int32))])) rfl (hb hby d2_5)
  have oc2 := H1_A
  obtain ⟨c2, Arc2, qc2, Sc2, Nc2, Hc2, Gc2⟩ := oc2
  obtain ⟨T3, X3, e3, st3⟩ := getS2 X1 hx hZ hown (host := "") (Or.inl (hw _ (List.mem_of_getElem? (i := 8) rfl))) Via.refl e1 H0_S (g := (mkF m 12 #[.val (.int (2 : Int32))] [])) rfl (hb hby d2_12)
  have oc4 := H1_A
  obtain ⟨c4, Arc4, qc4, Sc4, Nc4, Hc4, Gc4⟩ := oc4
  have hin5 : ¬ ((2 : Int32) < 0 ∨ c4.slots.size ≤ ((2 : Int32)).toNatClampNeg) := (inb_of Sc4 ⟨by decide, by decide⟩)
  have pre6 := fun (t : State) (k : Steps p.tables e below (T3.setTop (mkF m 21 #[.val (.int (2 : Int32))] [(.ref w2)])) t) => pre0 t (by
    refine XS.iloadN X0.here hx rfl (hb hby d2_0) rfl ?_
    show Steps p.tables e below (s₁.setTop (mkF m 1 #[.val (.int (2 : Int32))] [(.int (2 : Int32))])) _
    refine XS.ifNo X0.here hx rfl (hb hby d2_1) rfl ((if0 _ _).trans (flt (by decide : ¬ ((2 : Int32) < (0 : Int32)))).1) ?_
    show Steps p.tables e below (s₁.setTop (mkF m 4 #[.val (.int (2 : Int32))] [])) _
    refine XS.iloadN X0.here hx rfl (hb hby d2_4) rfl ?_
    show Steps p.tables e below (s₁.setTop (mkF m 5 #[.val (.int (2 : Int32))] [(.int (2 : Int32))])) _
    refine st1 _ ?_
    show Steps p.tables e below (T1.setTop (mkF m 8 #[.val (.int (2 : Int32))] [(.ref zb), (.int (2 : Int32))])) _
    refine X1.arraylength hx (by rw [e1]; exact Arc2.1) (State.isArrayOf_alike hZ.alike Arc2.2.1) (g := (mkF m 8 #[.val (.int (2 : Int32))] [(.ref zb), (.int (2 : Int32))])) rfl rfl (hb hby d2_8) _ ?_
    rw [show c2.slots.size.toInt32 = (6 : Int32) from (len_of Sc2 Nc2)]
    show Steps p.tables e below (T1.setTop (mkF m 9 #[.val (.int (2 : Int32))] [(.int (6 : Int32)), (.int (2 : Int32))])) _
    refine XS.icmpNo X1.here hx rfl (hb hby d2_9) rfl (tlt (by decide : (2 : Int32) < (6 : Int32))).2.1 ?_
    show Steps p.tables e below (T1.setTop (mkF m 12 #[.val (.int (2 : Int32))] [])) _
    refine st3 _ ?_
    show Steps p.tables e below (T3.setTop (mkF m 15 #[.val (.int (2 : Int32))] [(.ref zb)])) _
    refine XS.iloadN X3.here hx rfl (hb hby d2_15) rfl ?_
    show Steps p.tables e below (T3.setTop (mkF m 16 #[.val (.int (2 : Int32))] [(.int (2 : Int32)), (.ref zb)])) _
    refine X3.aaload hx (j := (2 : Int32)) (v := (.ref w2)) (by rw [e3]; exact Arc4.1) (State.isArrayOf_alike hZ.alike Arc4.2.1) rfl Arc4.2.2 hin5 (Has.at Hc4 hin5 rfl) (g := (mkF m 16 #[.val (.int (2 : Int32))] [(.int (2 : Int32)), (.ref zb)])) rfl rfl (hb hby d2_16) _ ?_
    show Steps p.tables e below (T3.setTop (mkF m 17 #[.val (.int (2 : Int32))] [(.ref w2)])) _
    refine XS.goto X3.here hx rfl (pc0 := 17) (pc' := 21) rfl (hb hby d2_17) (by decide) (by decide) ?_
    show Steps p.tables e below (T3.setTop (mkF m 21 #[.val (.int (2 : Int32))] [(.ref w2)])) _
    exact k)
  obtain ⟨fs, hr, hrun, hended, hW, hsame⟩ := X3.leave (v := some (.ref w2)) (fun h => by rw [Bd.returns] at h; cases h)
  refine ⟨_, _, pre6 _ ?_, hrun, hended, _, _, rfl, ?_, ⟨_, rfl⟩, hW, hsame.mono (by decide) (by decide)⟩
  · jvm_step X3.here [X3.here.top, hx, (hb hby d2_21), X3.method', Bd.returns, Value.isRef, FieldType.isReference]
    first | (intro acts; rw [hr _ acts rfl rfl rfl]) | rw [hr _ _ rfl rfl rfl]
    exact Steps.refl _
  · show Q_fo2 Z zb kb w0 w1 w2 w3 w4 w5 h0 n0 _ T3.heap _
    rw [e3]
    exact ⟨rfl, N0, rfl⟩

theorem ef_fo3 (m : MethodId) (x0 : Int32) : entryFrame m #[(.int x0)] 1 = mkF m 0 #[.val (.int x0)] [] := by first | (simp [entryFrame, mkF, argsToLocals, Value.category]; done) | rfl
def Q_fo3 (Z : State) (zb : Addr) (kb : ClassId) (w0 : Addr) (w1 : Addr) (w2 : Addr) (w3 : Addr) (w4 : Addr) (w5 : Addr) (h0 : Heap) (n0 : Nat) (v : Option Value) (h : Heap) (L : List Loc) : Prop := v = some (.ref w3) ∧ Fr n0 L ∧ h = h0
set_option maxRecDepth 65536 in
set_option maxHeartbeats 40000000 in
theorem rm_fo3 (l : Launch) (Z : State) (a0 : Array Value) (hw : ∀ d ∈ tables_1, d.before a0 Z = true) (ws : List Jvm.Cond) (zb : Addr) (kb : ClassId) (w0 : Addr) (w1 : Addr) (w2 : Addr) (w3 : Addr) (w4 : Addr) (w5 : Addr) (h0 : Heap) (n0 : Nat) (Z0 : n0 ≤ h0.size) (H0_S : Sta Z h0 "com/example/fieldglass/fieldglass/model/WireType" "BY_ID" "[Lcom/example/fieldglass/fieldglass/model/WireType;" (.ref zb)) (H1_A : Arv Z h0 zb kb (.object "com/example/fieldglass/fieldglass/model/WireType") (6 : Int32) [(.ref w0), (.ref w1), (.ref w2), (.ref w3), (.ref w4), (.ref w5)] .null) :
    MetFree l (⟨"com/example/fieldglass/fieldglass/model/WireType", "forId", "(I)Lcom/example/fieldglass/fieldglass/model/WireType;"⟩ : MethodName) (head1 (Jvm.Cond.code (⟨"com/example/fieldglass/fieldglass/model/WireType", "forId", "(I)Lcom/example/fieldglass/fieldglass/model/WireType;"⟩ : MethodName) prog_21_method_5_code 1 (some (.object "com/example/fieldglass/fieldglass/model/WireType")) :: ws) ({ frames := 0, cells := 0, slots := 0, locals := 0 } : Room)) (fun as_ U_ => as_ = #[(.int (3 : Int32))] ∧ Z.Warmed39 U_.vm ∧ U_.heap = h0) (fun _ _ _ _ _ => True) (fun _ U o U' => ∃ v L, o = .returned v ∧ Q_fo3 Z zb kb w0 w1 w2 w3 w4 w5 h0 n0 v U'.heap L ∧ FrameEnd U o U' L ({ frames := 0, cells := 0, slots := 0, locals := 0 } : Room).cells ({ frames := 0, cells := 0, slots := 0, locals := 0 } : Room).slots) := by
  refine MetFree.of_bodySF (plainFor_of_name pn_0) hisR ?_
  intro p e s m args below meth c s₁ Bd hml0 hP hK
  obtain ⟨rfl, hZ, hh⟩ := hP
  have hx := Bd.exec
  have hby := Bd.bytes
  have hml : c.maxLocals = 1 := hml0
  have hown : s.vm.findClass "com/example/fieldglass/fieldglass/model/WireType" = some m.cls := findClass_of_methodNamed Bd.named
  have hnm := (name_of_methodNamed Bd.named Bd.method).1
  have X0 : Stand p l e ({ frames := 0, cells := 0, slots := 0, locals := 0 } : Room) s m #[(.int (3 : Int32))] below meth c s₁ [] 0 0 := Stand.of_body Bd
  have e0 : s₁.heap = h0 := by rw [← hh, Bd.state]; rfl
  have N0 := Fr.nil n0
  have pre0 : ∀ t, Steps p.tables e below (s₁.setTop (mkF m 0 #[.val (.int (3 : Int32))] [])) t → Steps p.tables e below (s₁.setTop (entryFrame m #[(.int (3 : Int32))] 1)) t := fun t k => castTop (ef_fo3 m (3 : Int32)) k
  obtain ⟨T1, X1, e1, st1⟩ := getS2 X0 hx hZ hown (host := "") (Or.inl (hw _ (List.mem_of_getElem? (i := 8) rfl))) Via.refl e0 H0_S (g := (mkF m 5 #[.val (.int (3 : Int32))] [(.int (3 : Int32))])) rfl (hb hby d2_5)
  have oc2 := H1_A
  obtain ⟨c2, Arc2, qc2, Sc2, Nc2, Hc2, Gc2⟩ := oc2
  obtain ⟨T3, X3, e3, st3⟩ := getS2 X1 hx hZ hown (host := "") (Or.inl (hw _ (List.mem_of_getElem? (i := 8) rfl))) Via.refl e1 H0_S (g := (mkF m 12 #[.val (.int (3 : Int32))] [])) rfl (hb hby d2_12)
  have oc4 := H1_A
  obtain ⟨c4, Arc4, qc4, Sc4, Nc4, Hc4, Gc4⟩ := oc4
  have hin5 : ¬ ((3 : Int32) < 0 ∨ c4.slots.size ≤ ((3 : Int32)).toNatClampNeg) := (inb_of Sc4 ⟨by decide, by decide⟩)
  have pre6 := fun (t : State) (k : Steps p.tables e below (T3.setTop (mkF m 21 #[.val (.int (3 : Int32))] [(.ref w3)])) t) => pre0 t (by
    refine XS.iloadN X0.here hx rfl (hb hby d2_0) rfl ?_
    show Steps p.tables e below (s₁.setTop (mkF m 1 #[.val (.int (3 : Int32))] [(.int (3 : Int32))])) _
    refine XS.ifNo X0.here hx rfl (hb hby d2_1) rfl ((if0 _ _).trans (flt (by decide : ¬ ((3 : Int32) < (0 : Int32)))).1) ?_
    show Steps p.tables e below (s₁.setTop (mkF m 4 #[.val (.int (3 : Int32))] [])) _
    refine XS.iloadN X0.here hx rfl (hb hby d2_4) rfl ?_
    show Steps p.tables e below (s₁.setTop (mkF m 5 #[.val (.int (3 : Int32))] [(.int (3 : Int32))])) _
    refine st1 _ ?_
    show Steps p.tables e below (T1.setTop (mkF m 8 #[.val (.int (3 : Int32))] [(.ref zb), (.int (3 : Int32))])) _
    refine X1.arraylength hx (by rw [e1]; exact Arc2.1) (State.isArrayOf_alike hZ.alike Arc2.2.1) (g := (mkF m 8 #[.val (.int (3 : Int32))] [(.ref zb), (.int (3 : Int32))])) rfl rfl (hb hby d2_8) _ ?_
    rw [show c2.slots.size.toInt32 = (6 : Int32) from (len_of Sc2 Nc2)]
    show Steps p.tables e below (T1.setTop (mkF m 9 #[.val (.int (3 : Int32))] [(.int (6 : Int32)), (.int (3 : Int32))])) _
    refine XS.icmpNo X1.here hx rfl (hb hby d2_9) rfl (tlt (by decide : (3 : Int32) < (6 : Int32))).2.1 ?_
    show Steps p.tables e below (T1.setTop (mkF m 12 #[.val (.int (3 : Int32))] [])) _
    refine st3 _ ?_
    show Steps p.tables e below (T3.setTop (mkF m 15 #[.val (.int (3 : Int32))] [(.ref zb)])) _
    refine XS.iloadN X3.here hx rfl (hb hby d2_15) rfl ?_
    show Steps p.tables e below (T3.setTop (mkF m 16 #[.val (.int (3 : Int32))] [(.int (3 : Int32)), (.ref zb)])) _
    refine X3.aaload hx (j := (3 : Int32)) (v := (.ref w3)) (by rw [e3]; exact Arc4.1) (State.isArrayOf_alike hZ.alike Arc4.2.1) rfl Arc4.2.2 hin5 (Has.at Hc4 hin5 rfl) (g := (mkF m 16 #[.val (.int (3 : Int32))] [(.int (3 : Int32)), (.ref zb)])) rfl rfl (hb hby d2_16) _ ?_
    show Steps p.tables e below (T3.setTop (mkF m 17 #[.val (.int (3 : Int32))] [(.ref w3)])) _
    refine XS.goto X3.here hx rfl (pc0 := 17) (pc' := 21) rfl (hb hby d2_17) (by decide) (by decide) ?_
    show Steps p.tables e below (T3.setTop (mkF m 21 #[.val (.int (3 : Int32))] [(.ref w3)])) _
    exact k)
  obtain ⟨fs, hr, hrun, hended, hW, hsame⟩ := X3.leave (v := some (.ref w3)) (fun h => by rw [Bd.returns] at h; cases h)
  refine ⟨_, _, pre6 _ ?_, hrun, hended, _, _, rfl, ?_, ⟨_, rfl⟩, hW, hsame.mono (by decide) (by decide)⟩
  · jvm_step X3.here [X3.here.top, hx, (hb hby d2_21), X3.method', Bd.returns, Value.isRef, FieldType.isReference]
    first | (intro acts; rw [hr _ acts rfl rfl rfl]) | rw [hr _ _ rfl rfl rfl]
    exact Steps.refl _
  · show Q_fo3 Z zb kb w0 w1 w2 w3 w4 w5 h0 n0 _ T3.heap _
    rw [e3]
    exact ⟨rfl, N0, rfl⟩

theorem ef_fo4 (m : MethodId) (x0 : Int32) : entryFrame m #[(.int x0)] 1 = mkF m 0 #[.val (.int x0)] [] := by first | (simp [entryFrame, mkF, argsToLocals, Value.category]; done) | rfl
def Q_fo4 (Z : State) (zb : Addr) (kb : ClassId) (w0 : Addr) (w1 : Addr) (w2 : Addr) (w3 : Addr) (w4 : Addr) (w5 : Addr) (h0 : Heap) (n0 : Nat) (v : Option Value) (h : Heap) (L : List Loc) : Prop := v = some (.ref w4) ∧ Fr n0 L ∧ h = h0
set_option maxRecDepth 65536 in
set_option maxHeartbeats 40000000 in
theorem rm_fo4 (l : Launch) (Z : State) (a0 : Array Value) (hw : ∀ d ∈ tables_1, d.before a0 Z = true) (ws : List Jvm.Cond) (zb : Addr) (kb : ClassId) (w0 : Addr) (w1 : Addr) (w2 : Addr) (w3 : Addr) (w4 : Addr) (w5 : Addr) (h0 : Heap) (n0 : Nat) (Z0 : n0 ≤ h0.size) (H0_S : Sta Z h0 "com/example/fieldglass/fieldglass/model/WireType" "BY_ID" "[Lcom/example/fieldglass/fieldglass/model/WireType;" (.ref zb)) (H1_A : Arv Z h0 zb kb (.object "com/example/fieldglass/fieldglass/model/WireType") (6 : Int32) [(.ref w0), (.ref w1), (.ref w2), (.ref w3), (.ref w4), (.ref w5)] .null) :
    MetFree l (⟨"com/example/fieldglass/fieldglass/model/WireType", "forId", "(I)Lcom/example/fieldglass/fieldglass/model/WireType;"⟩ : MethodName) (head1 (Jvm.Cond.code (⟨"com/example/fieldglass/fieldglass/model/WireType", "forId", "(I)Lcom/example/fieldglass/fieldglass/model/WireType;"⟩ : MethodName) prog_21_method_5_code 1 (some (.object "com/example/fieldglass/fieldglass/model/WireType")) :: ws) ({ frames := 0, cells := 0, slots := 0, locals := 0 } : Room)) (fun as_ U_ => as_ = #[(.int (4 : Int32))] ∧ Z.Warmed39 U_.vm ∧ U_.heap = h0) (fun _ _ _ _ _ => True) (fun _ U o U' => ∃ v L, o = .returned v ∧ Q_fo4 Z zb kb w0 w1 w2 w3 w4 w5 h0 n0 v U'.heap L ∧ FrameEnd U o U' L ({ frames := 0, cells := 0, slots := 0, locals := 0 } : Room).cells ({ frames := 0, cells := 0, slots := 0, locals := 0 } : Room).slots) := by
  refine MetFree.of_bodySF (plainFor_of_name pn_0) hisR ?_
  intro p e s m args below meth c s₁ Bd hml0 hP hK
  obtain ⟨rfl, hZ, hh⟩ := hP
  have hx := Bd.exec
  have hby := Bd.bytes
  have hml : c.maxLocals = 1 := hml0
  have hown : s.vm.findClass "com/example/fieldglass/fieldglass/model/WireType" = some m.cls := findClass_of_methodNamed Bd.named
  have hnm := (name_of_methodNamed Bd.named Bd.method).1
  have X0 : Stand p l e ({ frames := 0, cells := 0, slots := 0, locals := 0 } : Room) s m #[(.int (4 : Int32))] below meth c s₁ [] 0 0 := Stand.of_body Bd
  have e0 : s₁.heap = h0 := by rw [← hh, Bd.state]; rfl
  have N0 := Fr.nil n0
  have pre0 : ∀ t, Steps p.tables e below (s₁.setTop (mkF m 0 #[.val (.int (4 : Int32))] [])) t → Steps p.tables e below (s₁.setTop (entryFrame m #[(.int (4 : Int32))] 1)) t := fun t k => castTop (ef_fo4 m (4 : Int32)) k
  obtain ⟨T1, X1, e1, st1⟩ := getS2 X0 hx hZ hown (host := "") (Or.inl (hw _ (List.mem_of_getElem? (i := 8) rfl))) Via.refl e0 H0_S (g := (mkF m 5 #[.val (.int (4 : Int32))] [(.int (4 : Int32))])) rfl (hb hby d2_5)
  have oc2 := H1_A
  obtain ⟨c2, Arc2, qc2, Sc2, Nc2, Hc2, Gc2⟩ := oc2
  obtain ⟨T3, X3, e3, st3⟩ := getS2 X1 hx hZ hown (host := "") (Or.inl (hw _ (List.mem_of_getElem? (i := 8) rfl))) Via.refl e1 H0_S (g := (mkF m 12 #[.val (.int (4 : Int32))] [])) rfl (hb hby d2_12)
  have oc4 := H1_A
  obtain ⟨c4, Arc4, qc4, Sc4, Nc4, Hc4, Gc4⟩ := oc4
  have hin5 : ¬ ((4 : Int32) < 0 ∨ c4.slots.size ≤ ((4 : Int32)).toNatClampNeg) := (inb_of Sc4 ⟨by decide, by decide⟩)
  have pre6 := fun (t : State) (k : Steps p.tables e below (T3.setTop (mkF m 21 #[.val (.int (4 : Int32))] [(.ref w4)])) t) => pre0 t (by
    refine XS.iloadN X0.here hx rfl (hb hby d2_0) rfl ?_
    show Steps p.tables e below (s₁.setTop (mkF m 1 #[.val (.int (4 : Int32))] [(.int (4 : Int32))])) _
    refine XS.ifNo X0.here hx rfl (hb hby d2_1) rfl ((if0 _ _).trans (flt (by decide : ¬ ((4 : Int32) < (0 : Int32)))).1) ?_
    show Steps p.tables e below (s₁.setTop (mkF m 4 #[.val (.int (4 : Int32))] [])) _
    refine XS.iloadN X0.here hx rfl (hb hby d2_4) rfl ?_
    show Steps p.tables e below (s₁.setTop (mkF m 5 #[.val (.int (4 : Int32))] [(.int (4 : Int32))])) _
    refine st1 _ ?_
    show Steps p.tables e below (T1.setTop (mkF m 8 #[.val (.int (4 : Int32))] [(.ref zb), (.int (4 : Int32))])) _
    refine X1.arraylength hx (by rw [e1]; exact Arc2.1) (State.isArrayOf_alike hZ.alike Arc2.2.1) (g := (mkF m 8 #[.val (.int (4 : Int32))] [(.ref zb), (.int (4 : Int32))])) rfl rfl (hb hby d2_8) _ ?_
    rw [show c2.slots.size.toInt32 = (6 : Int32) from (len_of Sc2 Nc2)]
    show Steps p.tables e below (T1.setTop (mkF m 9 #[.val (.int (4 : Int32))] [(.int (6 : Int32)), (.int (4 : Int32))])) _
    refine XS.icmpNo X1.here hx rfl (hb hby d2_9) rfl (tlt (by decide : (4 : Int32) < (6 : Int32))).2.1 ?_
    show Steps p.tables e below (T1.setTop (mkF m 12 #[.val (.int (4 : Int32))] [])) _
    refine st3 _ ?_
    show Steps p.tables e below (T3.setTop (mkF m 15 #[.val (.int (4 : Int32))] [(.ref zb)])) _
    refine XS.iloadN X3.here hx rfl (hb hby d2_15) rfl ?_
    show Steps p.tables e below (T3.setTop (mkF m 16 #[.val (.int (4 : Int32))] [(.int (4 : Int32)), (.ref zb)])) _
    refine X3.aaload hx (j := (4 : Int32)) (v := (.ref w4)) (by rw [e3]; exact Arc4.1) (State.isArrayOf_alike hZ.alike Arc4.2.1) rfl Arc4.2.2 hin5 (Has.at Hc4 hin5 rfl) (g := (mkF m 16 #[.val (.int (4 : Int32))] [(.int (4 : Int32)), (.ref zb)])) rfl rfl (hb hby d2_16) _ ?_
    show Steps p.tables e below (T3.setTop (mkF m 17 #[.val (.int (4 : Int32))] [(.ref w4)])) _
    refine XS.goto X3.here hx rfl (pc0 := 17) (pc' := 21) rfl (hb hby d2_17) (by decide) (by decide) ?_
    show Steps p.tables e below (T3.setTop (mkF m 21 #[.val (.int (4 : Int32))] [(.ref w4)])) _
    exact k)
  obtain ⟨fs, hr, hrun, hended, hW, hsame⟩ := X3.leave (v := some (.ref w4)) (fun h => by rw [Bd.returns] at h; cases h)
  refine ⟨_, _, pre6 _ ?_, hrun, hended, _, _, rfl, ?_, ⟨_, rfl⟩, hW, hsame.mono (by decide) (by decide)⟩
  · jvm_step X3.here [X3.here.top, hx, (hb hby d2_21), X3.method', Bd.returns, Value.isRef, FieldType.isReference]
    first | (intro acts; rw [hr _ acts rfl rfl rfl]) | rw [hr _ _ rfl rfl rfl]
    exact Steps.refl _
  · show Q_fo4 Z zb kb w0 w1 w2 w3 w4 w5 h0 n0 _ T3.heap _
    rw [e3]
    exact ⟨rfl, N0, rfl⟩

theorem ef_fo5 (m : MethodId) (x0 : Int32) : entryFrame m #[(.int x0)] 1 = mkF m 0 #[.val (.int x0)] [] := by first | (simp [entryFrame, mkF, argsToLocals, Value.category]; done) | rfl
def Q_fo5 (Z : State) (zb : Addr) (kb : ClassId) (w0 : Addr) (w1 : Addr) (w2 : Addr) (w3 : Addr) (w4 : Addr) (w5 : Addr) (h0 : Heap) (n0 : Nat) (v : Option Value) (h : Heap) (L : List Loc) : Prop := v = some (.ref w5) ∧ Fr n0 L ∧ h = h0
set_option maxRecDepth 65536 in
set_option maxHeartbeats 40000000 in
theorem rm_fo5 (l : Launch) (Z : State) (a0 : Array Value) (hw : ∀ d ∈ tables_1, d.before a0 Z = true) (ws : List Jvm.Cond) (zb : Addr) (kb : ClassId) (w0 : Addr) (w1 : Addr) (w2 : Addr) (w3 : Addr) (w4 : Addr) (w5 : Addr) (h0 : Heap) (n0 : Nat) (Z0 : n0 ≤ h0.size) (H0_S : Sta Z h0 "com/example/fieldglass/fieldglass/model/WireType" "BY_ID" "[Lcom/example/fieldglass/fieldglass/model/WireType;" (.ref zb)) (H1_A : Arv Z h0 zb kb (.object "com/example/fieldglass/fieldglass/model/WireType") (6 : Int32) [(.ref w0), (.ref w1), (.ref w2), (.ref w3), (.ref w4), (.ref w5)] .null) :
    MetFree l (⟨"com/example/fieldglass/fieldglass/model/WireType", "forId", "(I)Lcom/example/fieldglass/fieldglass/model/WireType;"⟩ : MethodName) (head1 (Jvm.Cond.code (⟨"com/example/fieldglass/fieldglass/model/WireType", "forId", "(I)Lcom/example/fieldglass/fieldglass/model/WireType;"⟩ : MethodName) prog_21_method_5_code 1 (some (.object "com/example/fieldglass/fieldglass/model/WireType")) :: ws) ({ frames := 0, cells := 0, slots := 0, locals := 0 } : Room)) (fun as_ U_ => as_ = #[(.int (5 : Int32))] ∧ Z.Warmed39 U_.vm ∧ U_.heap = h0) (fun _ _ _ _ _ => True) (fun _ U o U' => ∃ v L, o = .returned v ∧ Q_fo5 Z zb kb w0 w1 w2 w3 w4 w5 h0 n0 v U'.heap L ∧ FrameEnd U o U' L ({ frames := 0, cells := 0, slots := 0, locals := 0 } : Room).cells ({ frames := 0, cells := 0, slots := 0, locals := 0 } : Room).slots) := by
  refine MetFree.of_bodySF (plainFor_of_name pn_0) hisR ?_
  intro p e s m args below meth c s₁ Bd hml0 hP hK
  obtain ⟨rfl, hZ, hh⟩ := hP
  have hx := Bd.exec
  have hby := Bd.bytes
  have hml : c.maxLocals = 1 := hml0
  have hown : s.vm.findClass "com/example/fieldglass/fieldglass/model/WireType" = some m.cls := findClass_of_methodNamed Bd.named
  have hnm := (name_of_methodNamed Bd.named Bd.method).1
  have X0 : Stand p l e ({ frames := 0, cells := 0, slots := 0, locals := 0 } : Room) s m #[(.int (5 : Int32))] below meth c s₁ [] 0 0 := Stand.of_body Bd
  have e0 : s₁.heap = h0 := by rw [← hh, Bd.state]; rfl
  have N0 := Fr.nil n0
  have pre0 : ∀ t, Steps p.tables e below (s₁.setTop (mkF m 0 #[.val (.int (5 : Int32))] [])) t → Steps p.tables e below (s₁.setTop (entryFrame m #[(.int (5 : Int32))] 1)) t := fun t k => castTop (ef_fo5 m (5 : Int32)) k
  obtain ⟨T1, X1, e1, st1⟩ := getS2 X0 hx hZ hown (host := "") (Or.inl (hw _ (List.mem_of_getElem? (i := 8) rfl))) Via.refl e0 H0_S (g := (mkF m 5 #[.val (.int (5 : Int32))] [(.int (5 : Int32))])) rfl (hb hby d2_5)
  have oc2 := H1_A
  obtain ⟨c2, Arc2, qc2, Sc2, Nc2, Hc2, Gc2⟩ := oc2
  obtain ⟨T3, X3, e3, st3⟩ := getS2 X1 hx hZ hown (host := "") (Or.inl (hw _ (List.mem_of_getElem? (i := 8) rfl))) Via.refl e1 H0_S (g := (mkF m 12 #[.val (.int (5 : Int32))] [])) rfl (hb hby d2_12)
  have oc4 := H1_A
  obtain ⟨c4, Arc4, qc4, Sc4, Nc4, Hc4, Gc4⟩ := oc4
  have hin5 : ¬ ((5 : Int32) < 0 ∨ c4.slots.size ≤ ((5 : Int32)).toNatClampNeg) := (inb_of Sc4 ⟨by decide, by decide⟩)
  have pre6 := fun (t : State) (k : Steps p.tables e below (T3.setTop (mkF m 21 #[.val (.int (5 : Int32))] [(.ref w5)])) t) => pre0 t (by
    refine XS.iloadN X0.here hx rfl (hb hby d2_0) rfl ?_
    show Steps p.tables e below (s₁.setTop (mkF m 1 #[.val (.int (5 : Int32))] [(.int (5 : Int32))])) _
    refine XS.ifNo X0.here hx rfl (hb hby d2_1) rfl ((if0 _ _).trans (flt (by decide : ¬ ((5 : Int32) < (0 : Int32)))).1) ?_
    show Steps p.tables e below (s₁.setTop (mkF m 4 #[.val (.int (5 : Int32))] [])) _
    refine XS.iloadN X0.here hx rfl (hb hby d2_4) rfl ?_
    show Steps p.tables e below (s₁.setTop (mkF m 5 #[.val (.int (5 : Int32))] [(.int (5 : Int32))])) _
    refine st1 _ ?_
    show Steps p.tables e below (T1.setTop (mkF m 8 #[.val (.int (5 : Int32))] [(.ref zb), (.int (5 : Int32))])) _
    refine X1.arraylength hx (by rw [e1]; exact Arc2.1) (State.isArrayOf_alike hZ.alike Arc2.2.1) (g := (mkF m 8 #[.val (.int (5 : Int32))] [(.ref zb), (.int (5 : Int32))])) rfl rfl (hb hby d2_8) _ ?_
    rw [show c2.slots.size.toInt32 = (6 : Int32) from (len_of Sc2 Nc2)]
    show Steps p.tables e below (T1.setTop (mkF m 9 #[.val (.int (5 : Int32))] [(.int (6 : Int32)), (.int (5 : Int32))])) _
    refine XS.icmpNo X1.here hx rfl (hb hby d2_9) rfl (tlt (by decide : (5 : Int32) < (6 : Int32))).2.1 ?_
    show Steps p.tables e below (T1.setTop (mkF m 12 #[.val (.int (5 : Int32))] [])) _
    refine st3 _ ?_
    show Steps p.tables e below (T3.setTop (mkF m 15 #[.val (.int (5 : Int32))] [(.ref zb)])) _
    refine XS.iloadN X3.here hx rfl (hb hby d2_15) rfl ?_
    show Steps p.tables e below (T3.setTop (mkF m 16 #[.val (.int (5 : Int32))] [(.int (5 : Int32)), (.ref zb)])) _
    refine X3.aaload hx (j := (5 : Int32)) (v := (.ref w5)) (by rw [e3]; exact Arc4.1) (State.isArrayOf_alike hZ.alike Arc4.2.1) rfl Arc4.2.2 hin5 (Has.at Hc4 hin5 rfl) (g := (mkF m 16 #[.val (.int (5 : Int32))] [(.int (5 : Int32)), (.ref zb)])) rfl rfl (hb hby d2_16) _ ?_
    show Steps p.tables e below (T3.setTop (mkF m 17 #[.val (.int (5 : Int32))] [(.ref w5)])) _
    refine XS.goto X3.here hx rfl (pc0 := 17) (pc' := 21) rfl (hb hby d2_17) (by decide) (by decide) ?_
    show Steps p.tables e below (T3.setTop (mkF m 21 #[.val (.int (5 : Int32))] [(.ref w5)])) _
    exact k)
  obtain ⟨fs, hr, hrun, hended, hW, hsame⟩ := X3.leave (v := some (.ref w5)) (fun h => by rw [Bd.returns] at h; cases h)
  refine ⟨_, _, pre6 _ ?_, hrun, hended, _, _, rfl, ?_, ⟨_, rfl⟩, hW, hsame.mono (by decide) (by decide)⟩
  · jvm_step X3.here [X3.here.top, hx, (hb hby d2_21), X3.method', Bd.returns, Value.isRef, FieldType.isReference]
    first | (intro acts; rw [hr _ acts rfl rfl rfl]) | rw [hr _ _ rfl rfl rfl]
    exact Steps.refl _
  · show Q_fo5 Z zb kb w0 w1 w2 w3 w4 w5 h0 n0 _ T3.heap _
    rw [e3]
    exact ⟨rfl, N0, rfl⟩

theorem ef_foN (m : MethodId) (x0 : Int32) : entryFrame m #[(.int x0)] 1 = mkF m 0 #[.val (.int x0)] [] := by first | (simp [entryFrame, mkF, argsToLocals, Value.category]; done) | rfl
def Q_foN (Z : State) (pp : Int32) (zb : Addr) (kb : ClassId) (w0 : Addr) (w1 : Addr) (w2 : Addr) (w3 : Addr) (w4 : Addr) (w5 : Addr) (h0 : Heap) (n0 : Nat) (v : Option Value) (h : Heap) (L : List Loc) : Prop := v = some .null ∧ Fr n0 L ∧ h = h0
set_option maxRecDepth 65536 in
set_option maxHeartbeats 40000000 in
theorem rm_foN (l : Launch) (Z : State) (a0 : Array Value) (hw : ∀ d ∈ tables_1, d.before a0 Z = true) (ws : List Jvm.Cond) (pp : Int32) (zb : Addr) (kb : ClassId) (w0 : Addr) (w1 : Addr) (w2 : Addr) (w3 : Addr) (w4 : Addr) (w5 : Addr) (h0 : Heap) (n0 : Nat) (Z0 : n0 ≤ h0.size) (H0_S : Sta Z h0 "com/example/fieldglass/fieldglass/model/WireType" "BY_ID" "[Lcom/example/fieldglass/fieldglass/model/WireType;" (.ref zb)) (H1_A : Arv Z h0 zb kb (.object "com/example/fieldglass/fieldglass/model/WireType") (6 : Int32) [(.ref w0), (.ref w1), (.ref w2), (.ref w3), (.ref w4), (.ref w5)] .null) (hp : ¬ pp < (0 : Int32) → ¬ pp < (6 : Int32)) :
    MetFree l (⟨"com/example/fieldglass/fieldglass/model/WireType", "forId", "(I)Lcom/example/fieldglass/fieldglass/model/WireType;"⟩ : MethodName) (head1 (Jvm.Cond.code (⟨"com/example/fieldglass/fieldglass/model/WireType", "forId", "(I)Lcom/example/fieldglass/fieldglass/model/WireType;"⟩ : MethodName) prog_21_method_5_code 1 (some (.object "com/example/fieldglass/fieldglass/model/WireType")) :: ws) ({ frames := 0, cells := 0, slots := 0, locals := 0 } : Room)) (fun as_ U_ => as_ = #[(.int pp)] ∧ Z.Warmed39 U_.vm ∧ U_.heap = h0) (fun _ _ _ _ _ => True) (fun _ U o U' => ∃ v L, o = .returned v ∧ Q_foN Z pp zb kb w0 w1 w2 w3 w4 w5 h0 n0 v U'.heap L ∧ FrameEnd U o U' L ({ frames := 0, cells := 0, slots := 0, locals := 0 } : Room).cells ({ frames := 0, cells := 0, slots := 0, locals := 0 } : Room).slots) := by
  refine MetFree.of_bodySF (plainFor_of_name pn_0) hisR ?_
  intro p e s m args below meth c s₁ Bd hml0 hP hK
  obtain ⟨rfl, hZ, hh⟩ := hP
  have hx := Bd.exec
  have hby := Bd.bytes
  have hml : c.maxLocals = 1 := hml0
  have hown : s.vm.findClass "com/example/fieldglass/fieldglass/model/WireType" = some m.cls := findClass_of_methodNamed Bd.named
  have hnm := (name_of_methodNamed Bd.named Bd.method).1
  have X0 : Stand p l e ({ frames := 0, cells := 0, slots := 0, locals := 0 } : Room) s m #[(.int pp)] below meth c s₁ [] 0 0 := Stand.of_body Bd
  have e0 : s₁.heap = h0 := by rw [← hh, Bd.state]; rfl
  have N0 := Fr.nil n0
  have pre0 : ∀ t, Steps p.tables e below (s₁.setTop (mkF m 0 #[.val (.int pp)] [])) t → Steps p.tables e below (s₁.setTop (entryFrame m #[(.int pp)] 1)) t := fun t k => castTop (ef_foN m pp) k
  have pre1 := fun (t : State) (k : Steps p.tables e below (s₁.setTop (mkF m 1 #[.val (.int pp)] [(.int pp)])) t) => pre0 t (by
    refine XS.iloadN X0.here hx rfl (hb hby d2_0) rfl ?_
    show Steps p.tables e below (s₁.setTop (mkF m 1 #[.val (.int pp)] [(.int pp)])) _
    exact k)
  by_cases hc2 : pp < (0 : Int32)
  · have pre3 := fun (t : State) (k : Steps p.tables e below (s₁.setTop (mkF m 21 #[.val (.int pp)] [.null])) t) => pre1 t (by
      refine XS.ifYes X0.here hx rfl (pc0 := 1) (pc' := 20) rfl (hb hby d2_1) rfl ((if0 _ _).trans (tlt hc2).1) (by decide) (by decide) ?_
      show Steps p.tables e below (s₁.setTop (mkF m 20 #[.val (.int pp)] [])) _
      refine XS.aconstNull X0.here hx rfl (hb hby d2_20) ?_
      show Steps p.tables e below (s₁.setTop (mkF m 21 #[.val (.int pp)] [.null])) _
      exact k)
    obtain ⟨fs, hr, hrun, hended, hW, hsame⟩ := X0.leave (v := some .null) (fun h => by rw [Bd.returns] at h; cases h)
    refine ⟨_, _, pre3 _ ?_, hrun, hended, _, _, rfl, ?_, ⟨_, rfl⟩, hW, hsame.mono (by decide) (by decide)⟩
    · jvm_step X0.here [X0.here.top, hx, (hb hby d2_21), X0.method', Bd.returns, Value.isRef, FieldType.isReference]
      first | (intro acts; rw [hr _ acts rfl rfl rfl]) | rw [hr _ _ rfl rfl rfl]
      exact Steps.refl _
    · show Q_foN Z pp zb kb w0 w1 w2 w3 w4 w5 h0 n0 _ s₁.heap _
      rw [e0]
      exact ⟨rfl, N0, rfl⟩
  · obtain ⟨T4, X4, e4, st4⟩ := getS2 X0 hx hZ hown (host := "") (Or.inl (hw _ (List.mem_of_getElem? (i := 8) rfl))) Via.refl e0 H0_S (g := (mkF m 5 #[.val (.int pp)] [(.int pp)])) rfl (hb hby d2_5)
    have oc5 := H1_A
    obtain ⟨c5, Arc5, qc5, Sc5, Nc5, Hc5, Gc5⟩ := oc5
    have pre6 := fun (t : State) (k : Steps p.tables e below (T4.setTop (mkF m 21 #[.val (.int pp)] [.null])) t) => pre1 t (by
      refine XS.ifNo X0.here hx rfl (hb hby d2_1) rfl ((if0 _ _).trans (flt hc2).1) ?_
      show Steps p.tables e below (s₁.setTop (mkF m 4 #[.val (.int pp)] [])) _
      refine XS.iloadN X0.here hx rfl (hb hby d2_4) rfl ?_
      show Steps p.tables e below (s₁.setTop (mkF m 5 #[.val (.int pp)] [(.int pp)])) _
      refine st4 _ ?_
      show Steps p.tables e below (T4.setTop (mkF m 8 #[.val (.int pp)] [(.ref zb), (.int pp)])) _
      refine X4.arraylength hx (by rw [e4]; exact Arc5.1) (State.isArrayOf_alike hZ.alike Arc5.2.1) (g := (mkF m 8 #[.val (.int pp)] [(.ref zb), (.int pp)])) rfl rfl (hb hby d2_8) _ ?_
      rw [show c5.slots.size.toInt32 = (6 : Int32) from (len_of Sc5 Nc5)]
      show Steps p.tables e below (T4.setTop (mkF m 9 #[.val (.int pp)] [(.int (6 : Int32)), (.int pp)])) _
      refine XS.icmpYes X4.here hx rfl (pc0 := 9) (pc' := 20) rfl (hb hby d2_9) rfl (flt (hp hc2)).2.1 (by decide) (by decide) ?_
      show Steps p.tables e below (T4.setTop (mkF m 20 #[.val (.int pp)] [])) _
      refine XS.aconstNull X4.here hx rfl (hb hby d2_20) ?_
      show Steps p.tables e below (T4.setTop (mkF m 21 #[.val (.int pp)] [.null])) _
      exact k)
    obtain ⟨fs, hr, hrun, hended, hW, hsame⟩ := X4.leave (v := some .null) (fun h => by rw [Bd.returns] at h; cases h)
    refine ⟨_, _, pre6 _ ?_, hrun, hended, _, _, rfl, ?_, ⟨_, rfl⟩, hW, hsame.mono (by decide) (by decide)⟩
    · jvm_step X4.here [X4.here.top, hx, (hb hby d2_21), X4.method', Bd.returns, Value.isRef, FieldType.isReference]
      first | (intro acts; rw [hr _ acts rfl rfl rfl]) | rw [hr _ _ rfl rfl rfl]
      exact Steps.refl _
    · show Q_foN Z pp zb kb w0 w1 w2 w3 w4 w5 h0 n0 _ T4.heap _
      rw [e4]
      exact ⟨rfl, N0, rfl⟩

theorem ef_xp0 (m : MethodId) (x0 : Int32) : entryFrame m #[(.int x0)] 1 = mkF m 0 #[.val (.int x0)] [] := by first | (simp [entryFrame, mkF, argsToLocals, Value.category]; done) | rfl
def Q_xp0 (Z : State) (w0 : Addr) (w1 : Addr) (w2 : Addr) (w3 : Addr) (w4 : Addr) (w5 : Addr) (h0 : Heap) (n0 : Nat) (v : Option Value) (h : Heap) (L : List Loc) : Prop := v = some (.ref w0) ∧ Fr n0 L ∧ h = h0
set_option maxRecDepth 65536 in
set_option maxHeartbeats 40000000 in
theorem rm_xp0 (l : Launch) (Z : State) (a0 : Array Value) (hw : ∀ d ∈ tables_1, d.before a0 Z = true) (ws : List Jvm.Cond) (w0 : Addr) (w1 : Addr) (w2 : Addr) (w3 : Addr) (w4 : Addr) (w5 : Addr) (h0 : Heap) (n0 : Nat) (Z0 : n0 ≤ h0.size) (H0_S : Sta Z h0 "com/example/fieldglass/fieldglass/model/WireType" "VARINT" "Lcom/example/fieldglass/fieldglass/model/WireType;" (.ref w0)) (H1_S : Sta Z h0 "com/example/fieldglass/fieldglass/model/WireType" "FIXED64" "Lcom/example/fieldglass/fieldglass/model/WireType;" (.ref w1)) (H2_S : Sta Z h0 "com/example/fieldglass/fieldglass/model/WireType" "LENGTH_DELIMITED" "Lcom/example/fieldglass/fieldglass/model/WireType;" (.ref w2)) (H3_S : Sta Z h0 "com/example/fieldglass/fieldglass/model/WireType" "START_GROUP" "Lcom/example/fieldglass/fieldglass/model/WireType;" (.ref w3)) (H4_S : Sta Z h0 "com/example/fieldglass/fieldglass/model/WireType" "END_GROUP" "Lcom/example/fieldglass/fieldglass/model/WireType;" (.ref w4)) (H5_S : Sta Z h0 "com/example/fieldglass/fieldglass/model/WireType" "FIXED32" "Lcom/example/fieldglass/fieldglass/model/WireType;" (.ref w5)) :
    MetFree l (⟨"com/example/fieldglass/fieldglass/model/WireTypeForIdPinLaw", "expected", "(I)Lcom/example/fieldglass/fieldglass/model/WireType;"⟩ : MethodName) (head1 (Jvm.Cond.code (⟨"com/example/fieldglass/fieldglass/model/WireTypeForIdPinLaw", "expected", "(I)Lcom/example/fieldglass/fieldglass/model/WireType;"⟩ : MethodName) method_2_code 1 (some (.object "com/example/fieldglass/fieldglass/model/WireType")) :: ws) ({ frames := 0, cells := 0, slots := 0, locals := 0 } : Room)) (fun as_ U_ => as_ = #[(.int (0 : Int32))] ∧ Z.Warmed39 U_.vm ∧ U_.heap = h0) (fun _ _ _ _ _ => True) (fun _ U o U' => ∃ v L, o = .returned v ∧ Q_xp0 Z w0 w1 w2 w3 w4 w5 h0 n0 v U'.heap L ∧ FrameEnd U o U' L ({ frames := 0, cells := 0, slots := 0, locals := 0 } : Room).cells ({ frames := 0, cells := 0, slots := 0, locals := 0 } : Room).slots) := by
  refine MetFree.of_bodySF (plainFor_of_name pn_1) hisR ?_
  intro p e s m args below meth c s₁ Bd hml0 hP hK
  obtain ⟨rfl, hZ, hh⟩ := hP
  have hx := Bd.exec
  have hby := Bd.bytes
  have hml : c.maxLocals = 1 := hml0
  have hown : s.vm.findClass "com/example/fieldglass/fieldglass/model/WireTypeForIdPinLaw" = some m.cls := findClass_of_methodNamed Bd.named
  have hnm := (name_of_methodNamed Bd.named Bd.method).1
  have X0 : Stand p l e ({ frames := 0, cells := 0, slots := 0, locals := 0 } : Room) s m #[(.int (0 : Int32))] below meth c s₁ [] 0 0 := Stand.of_body Bd
  have e0 : s₁.heap = h0 := by rw [← hh, Bd.state]; rfl
  have N0 := Fr.nil n0
  have pre0 : ∀ t, Steps p.tables e below (s₁.setTop (mkF m 0 #[.val (.int (0 : Int32))] [])) t → Steps p.tables e below (s₁.setTop (entryFrame m #[(.int (0 : Int32))] 1)) t := fun t k => castTop (ef_xp0 m (0 : Int32)) k
  obtain ⟨T1, X1, e1, st1⟩ := getS2 X0 hx hZ hown (host := "") (Or.inl (hw _ (List.mem_of_getElem? (i := 14) rfl))) Via.refl e0 H0_S (g := (mkF m 4 #[.val (.int (0 : Int32))] [])) rfl (hb hby d3_4)
  have pre2 := fun (t : State) (k : Steps p.tables e below (T1.setTop (mkF m 7 #[.val (.int (0 : Int32))] [(.ref w0)])) t) => pre0 t (by
    refine XS.iloadN X0.here hx rfl (hb hby d3_0) rfl ?_
    show Steps p.tables e below (s₁.setTop (mkF m 1 #[.val (.int (0 : Int32))] [(.int (0 : Int32))])) _
    refine XS.ifNo X0.here hx rfl (hb hby d3_1) rfl ((if0 _ _).trans (teq (by decide : (0 : Int32) = (0 : Int32))).2) ?_
    show Steps p.tables e below (s₁.setTop (mkF m 4 #[.val (.int (0 : Int32))] [])) _
    refine st1 _ ?_
    show Steps p.tables e below (T1.setTop (mkF m 7 #[.val (.int (0 : Int32))] [(.ref w0)])) _
    exact k)
  obtain ⟨fs, hr, hrun, hended, hW, hsame⟩ := X1.leave (v := some (.ref w0)) (fun h => by rw [Bd.returns] at h; cases h)
  refine ⟨_, _, pre2 _ ?_, hrun, hended, _, _, rfl, ?_, ⟨_, rfl⟩, hW, hsame.mono (by decide) (by decide)⟩
  · jvm_step X1.here [X1.here.top, hx, (hb hby d3_7), X1.method', Bd.returns, Value.isRef, FieldType.isReference]
    first | (intro acts; rw [hr _ acts rfl rfl rfl]) | rw [hr _ _ rfl rfl rfl]
    exact Steps.refl _
  · show Q_xp0 Z w0 w1 w2 w3 w4 w5 h0 n0 _ T1.heap _
    rw [e1]
    exact ⟨rfl, N0, rfl⟩

theorem ef_xp1 (m : MethodId) (x0 : Int32) : entryFrame m #[(.int x0)] 1 = mkF m 0 #[.val (.int x0)] [] := by first | (simp [entryFrame, mkF, argsToLocals, Value.category]; done) | rfl
def Q_xp1 (Z : State) (w0 : Addr) (w1 : Addr) (w2 : Addr) (w3 : Addr) (w4 : Addr) (w5 : Addr) (h0 : Heap) (n0 : Nat) (v : Option Value) (h : Heap) (L : List Loc) : Prop := v = some (.ref w1) ∧ Fr n0 L ∧ h = h0
set_option maxRecDepth 65536 in
set_option maxHeartbeats 40000000 in
theorem rm_xp1 (l : Launch) (Z : State) (a0 : Array Value) (hw : ∀ d ∈ tables_1, d.before a0 Z = true) (ws : List Jvm.Cond) (w0 : Addr) (w1 : Addr) (w2 : Addr) (w3 : Addr) (w4 : Addr) (w5 : Addr) (h0 : Heap) (n0 : Nat) (Z0 : n0 ≤ h0.size) (H0_S : Sta Z h0 "com/example/fieldglass/fieldglass/model/WireType" "VARINT" "Lcom/example/fieldglass/fieldglass/model/WireType;" (.ref w0)) (H1_S : Sta Z h0 "com/example/fieldglass/fieldglass/model/WireType" "FIXED64" "Lcom/example/fieldglass/fieldglass/model/WireType;" (.ref w1)) (H2_S : Sta Z h0 "com/example/fieldglass/fieldglass/model/WireType" "LENGTH_DELIMITED" "Lcom/example/fieldglass/fieldglass/model/WireType;" (.ref w2)) (H3_S : Sta Z h0 "com/example/fieldglass/fieldglass/model/WireType" "START_GROUP" "Lcom/example/fieldglass/fieldglass/model/WireType;" (.ref w3)) (H4_S : Sta Z h0 "com/example/fieldglass/fieldglass/model/WireType" "END_GROUP" "Lcom/example/fieldglass/fieldglass/model/WireType;" (.ref w4)) (H5_S : Sta Z h0 "com/example/fieldglass/fieldglass/model/WireType" "FIXED32" "Lcom/example/fieldglass/fieldglass/model/WireType;" (.ref w5)) :
    MetFree l (⟨"com/example/fieldglass/fieldglass/model/WireTypeForIdPinLaw", "expected", "(I)Lcom/example/fieldglass/fieldglass/model/WireType;"⟩ : MethodName) (head1 (Jvm.Cond.code (⟨"com/example/fieldglass/fieldglass/model/WireTypeForIdPinLaw", "expected", "(I)Lcom/example/fieldglass/fieldglass/model/WireType;"⟩ : MethodName) method_2_code 1 (some (.object "com/example/fieldglass/fieldglass/model/WireType")) :: ws) ({ frames := 0, cells := 0, slots := 0, locals := 0 } : Room)) (fun as_ U_ => as_ = #[(.int (1 : Int32))] ∧ Z.Warmed39 U_.vm ∧ U_.heap = h0) (fun _ _ _ _ _ => True) (fun _ U o U' => ∃ v L, o = .returned v ∧ Q_xp1 Z w0 w1 w2 w3 w4 w5 h0 n0 v U'.heap L ∧ FrameEnd U o U' L ({ frames := 0, cells := 0, slots := 0, locals := 0 } : Room).cells ({ frames := 0, cells := 0, slots := 0, locals := 0 } : Room).slots) := by
  refine MetFree.of_bodySF (plainFor_of_name pn_1) hisR ?_
  intro p e s m args below meth c s₁ Bd hml0 hP hK
  obtain ⟨rfl, hZ, hh⟩ := hP
  have hx := Bd.exec
  have hby := Bd.bytes
  have hml : c.maxLocals = 1 := hml0
  have hown : s.vm.findClass "com/example/fieldglass/fieldglass/model/WireTypeForIdPinLaw" = some m.cls := findClass_of_methodNamed Bd.named
  have hnm := (name_of_methodNamed Bd.named Bd.method).1
  have X0 : Stand p l e ({ frames := 0, cells := 0, slots := 0, locals := 0 } : Room) s m #[(.int (1 : Int32))] below meth c s₁ [] 0 0 := Stand.of_body Bd
  have e0 : s₁.heap = h0 := by rw [← hh, Bd.state]; rfl
  have N0 := Fr.nil n0
  have pre0 : ∀ t, Steps p.tables e below (s₁.setTop (mkF m 0 #[.val (.int (1 : Int32))] [])) t → Steps p.tables e below (s₁.setTop (entryFrame m #[(.int (1 : Int32))] 1)) t := fun t k => castTop (ef_xp1 m (1 : Int32)) k
  obtain ⟨T1, X1, e1, st1⟩ := getS2 X0 hx hZ hown (host := "") (Or.inl (hw _ (List.mem_of_getElem? (i := 25) rfl))) Via.refl e0 H1_S (g := (mkF m 13 #[.val (.int (1 : Int32))] [])) rfl (hb hby d3_13)
  have pre2 := fun (t : State) (k : Steps p.tables e below (T1.setTop (mkF m 16 #[.val (.int (1 : Int32))] [(.ref w1)])) t) => pre0 t (by
    refine XS.iloadN X0.here hx rfl (hb hby d3_0) rfl ?_
    show Steps p.tables e below (s₁.setTop (mkF m 1 #[.val (.int (1 : Int32))] [(.int (1 : Int32))])) _
    refine XS.ifYes X0.here hx rfl (pc0 := 1) (pc' := 8) rfl (hb hby d3_1) rfl ((if0 _ _).trans (feq (by decide : ¬ ((1 : Int32) = (0 : Int32)))).2) (by decide) (by decide) ?_
    show Steps p.tables e below (s₁.setTop (mkF m 8 #[.val (.int (1 : Int32))] [])) _
    refine XS.iloadN X0.here hx rfl (hb hby d3_8) rfl ?_
    show Steps p.tables e below (s₁.setTop (mkF m 9 #[.val (.int (1 : Int32))] [(.int (1 : Int32))])) _
    refine XS.iconst X0.here hx rfl (hb hby d3_9) ?_
    show Steps p.tables e below (s₁.setTop (mkF m 10 #[.val (.int (1 : Int32))] [(.int (1 : Int32)), (.int (1 : Int32))])) _
    refine XS.icmpNo X0.here hx rfl (hb hby d3_10) rfl (teq (by decide : (1 : Int32) = (1 : Int32))).2 ?_
    show Steps p.tables e below (s₁.setTop (mkF m 13 #[.val (.int (1 : Int32))] [])) _
    refine st1 _ ?_
    show Steps p.tables e below (T1.setTop (mkF m 16 #[.val (.int (1 : Int32))] [(.ref w1)])) _
    exact k)
  obtain ⟨fs, hr, hrun, hended, hW, hsame⟩ := X1.leave (v := some (.ref w1)) (fun h => by rw [Bd.returns] at h; cases h)
  refine ⟨_, _, pre2 _ ?_, hrun, hended, _, _, rfl, ?_, ⟨_, rfl⟩, hW, hsame.mono (by decide) (by decide)⟩
  · jvm_step X1.here [X1.here.top, hx, (hb hby d3_16), X1.method', Bd.returns, Value.isRef, FieldType.isReference]
    first | (intro acts; rw [hr _ acts rfl rfl rfl]) | rw [hr _ _ rfl rfl rfl]
    exact Steps.refl _
  · show Q_xp1 Z w0 w1 w2 w3 w4 w5 h0 n0 _ T1.heap _
    rw [e1]
    exact ⟨rfl, N0, rfl⟩

theorem ef_xp2 (m : MethodId) (x0 : Int32) : entryFrame m #[(.int x0)] 1 = mkF m 0 #[.val (.int x0)] [] := by first | (simp [entryFrame, mkF, argsToLocals, Value.category]; done) | rfl
def Q_xp2 (Z : State) (w0 : Addr) (w1 : Addr) (w2 : Addr) (w3 : Addr) (w4 : Addr) (w5 : Addr) (h0 : Heap) (n0 : Nat) (v : Option Value) (h : Heap) (L : List Loc) : Prop := v = some (.ref w2) ∧ Fr n0 L ∧ h = h0
set_option maxRecDepth 65536 in
set_option maxHeartbeats 40000000 in
theorem rm_xp2 (l : Launch) (Z : State) (a0 : Array Value) (hw : ∀ d ∈ tables_1, d.before a0 Z = true) (ws : List Jvm.Cond) (w0 : Addr) (w1 : Addr) (w2 : Addr) (w3 : Addr) (w4 : Addr) (w5 : Addr) (h0 : Heap) (n0 : Nat) (Z0 : n0 ≤ h0.size) (H0_S : Sta Z h0 "com/example/fieldglass/fieldglass/model/WireType" "VARINT" "Lcom/example/fieldglass/fieldglass/model/WireType;" (.ref w0)) (H1_S : Sta Z h0 "com/example/fieldglass/fieldglass/model/WireType" "FIXED64" "Lcom/example/fieldglass/fieldglass/model/WireType;" (.ref w1)) (H2_S : Sta Z h0 "com/example/fieldglass/fieldglass/model/WireType" "LENGTH_DELIMITED" "Lcom/example/fieldglass/fieldglass/model/WireType;" (.ref w2)) (H3_S : Sta Z h0 "com/example/fieldglass/fieldglass/model/WireType" "START_GROUP" "Lcom/example/fieldglass/fieldglass/model/WireType;" (.ref w3)) (H4_S : Sta Z h0 "com/example/fieldglass/fieldglass/model/WireType" "END_GROUP" "Lcom/example/fieldglass/fieldglass/model/WireType;" (.ref w4)) (H5_S : Sta Z h0 "com/example/fieldglass/fieldglass/model/WireType" "FIXED32" "Lcom/example/fieldglass/fieldglass/model/WireType;" (.ref w5)) :
    MetFree l (⟨"com/example/fieldglass/fieldglass/model/WireTypeForIdPinLaw", "expected", "(I)Lcom/example/fieldglass/fieldglass/model/WireType;"⟩ : MethodName) (head1 (Jvm.Cond.code (⟨"com/example/fieldglass/fieldglass/model/WireTypeForIdPinLaw", "expected", "(I)Lcom/example/fieldglass/fieldglass/model/WireType;"⟩ : MethodName) method_2_code 1 (some (.object "com/example/fieldglass/fieldglass/model/WireType")) :: ws) ({ frames := 0, cells := 0, slots := 0, locals := 0 } : Room)) (fun as_ U_ => as_ = #[(.int (2 : Int32))] ∧ Z.Warmed39 U_.vm ∧ U_.heap = h0) (fun _ _ _ _ _ => True) (fun _ U o U' => ∃ v L, o = .returned v ∧ Q_xp2 Z w0 w1 w2 w3 w4 w5 h0 n0 v U'.heap L ∧ FrameEnd U o U' L ({ frames := 0, cells := 0, slots := 0, locals := 0 } : Room).cells ({ frames := 0, cells := 0, slots := 0, locals := 0 } : Room).slots) := by
  refine MetFree.of_bodySF (plainFor_of_name pn_1) hisR ?_
  intro p e s m args below meth c s₁ Bd hml0 hP hK
  obtain ⟨rfl, hZ, hh⟩ := hP
  have hx := Bd.exec
  have hby := Bd.bytes
  have hml : c.maxLocals = 1 := hml0
  have hown : s.vm.findClass "com/example/fieldglass/fieldglass/model/WireTypeForIdPinLaw" = some m.cls := findClass_of_methodNamed Bd.named
  have hnm := (name_of_methodNamed Bd.named Bd.method).1
  have X0 : Stand p l e ({ frames := 0, cells := 0, slots := 0, locals := 0 } : Room) s m #[(.int (2 : Int32))] below meth c s₁ [] 0 0 := Stand.of_body Bd
  have e0 : s₁.heap = h0 := by rw [← hh, Bd.state]; rfl
  have N0 := Fr.nil n0
  have pre0 : ∀ t, Steps p.tables e below (s₁.setTop (mkF m 0 #[.val (.int (2 : Int32))] [])) t → Steps p.tables e below (s₁.setTop (entryFrame m #[(.int (2 : Int32))] 1)) t := fun t k => castTop (ef_xp2 m (2 : Int32)) k
  obtain ⟨T1, X1, e1, st1⟩ := getS2 X0 hx hZ hown (host := "") (Or.inl (hw _ (List.mem_of_getElem? (i := 31) rfl))) Via.refl e0 H2_S (g := (mkF m 22 #[.val (.int (2 : Int32))] [])) rfl (hb hby d3_22)
  have pre2 := fun (t : State) (k : Steps p.tables e below (T1.setTop (mkF m 25 #[.val (.int (2 : Int32))] [(.ref w2)])) t) => pre0 t (by
    refine XS.iloadN X0.here hx rfl (hb hby d3_0) rfl ?_
    show Steps p.tables e below (s₁.setTop (mkF m 1 #[.val (.int (2 : Int32))] [(.int (2 : Int32))])) _
    refine XS.ifYes X0.here hx rfl (pc0 := 1) (pc' := 8) rfl (hb hby d3_1) rfl ((if0 _ _).trans (feq (by decide : ¬ ((2 : Int32) = (0 : Int32)))).2) (by decide) (by decide) ?_
    show Steps p.tables e below (s₁.setTop (mkF m 8 #[.val (.int (2 : Int32))] [])) _
    refine XS.iloadN X0.here hx rfl (hb hby d3_8) rfl ?_
    show Steps p.tables e below (s₁.setTop (mkF m 9 #[.val (.int (2 : Int32))] [(.int (2 : Int32))])) _
    refine XS.iconst X0.here hx rfl (hb hby d3_9) ?_
    show Steps p.tables e below (s₁.setTop (mkF m 10 #[.val (.int (2 : Int32))] [(.int (1 : Int32)), (.int (2 : Int32))])) _
    refine XS.icmpYes X0.here hx rfl (pc0 := 10) (pc' := 17) rfl (hb hby d3_10) rfl (feq (by decide : ¬ ((2 : Int32) = (1 : Int32)))).2 (by decide) (by decide) ?_
    show Steps p.tables e below (s₁.setTop (mkF m 17 #[.val (.int (2 : Int32))] [])) _
    refine XS.iloadN X0.here hx rfl (hb hby d3_17) rfl ?_
    show Steps p.tables e below (s₁.setTop (mkF m 18 #[.val (.int (2 : Int32))] [(.int (2 : Int32))])) _
    refine XS.iconst X0.here hx rfl (hb hby d3_18) ?_
    show Steps p.tables e below (s₁.setTop (mkF m 19 #[.val (.int (2 : Int32))] [(.int (2 : Int32)), (.int (2 : Int32))])) _
    refine XS.icmpNo X0.here hx rfl (hb hby d3_19) rfl (teq (by decide : (2 : Int32) = (2 : Int32))).2 ?_
    show Steps p.tables e below (s₁.setTop (mkF m 22 #[.val (.int (2 : Int32))] [])) _
    refine st1 _ ?_
    show Steps p.tables e below (T1.setTop (mkF m 25 #[.val (.int (2 : Int32))] [(.ref w2)])) _
    exact k)
  obtain ⟨fs, hr, hrun, hended, hW, hsame⟩ := X1.leave (v := some (.ref w2)) (fun h => by rw [Bd.returns] at h; cases h)
  refine ⟨_, _, pre2 _ ?_, hrun, hended, _, _, rfl, ?_, ⟨_, rfl⟩, hW, hsame.mono (by decide) (by decide)⟩
  · jvm_step X1.here [X1.here.top, hx, (hb hby d3_25), X1.method', Bd.returns, Value.isRef, FieldType.isReference]
    first | (intro acts; rw [hr _ acts rfl rfl rfl]) | rw [hr _ _ rfl rfl rfl]
    exact Steps.refl _
  · show Q_xp2 Z w0 w1 w2 w3 w4 w5 h0 n0 _ T1.heap _
    rw [e1]
    exact ⟨rfl, N0, rfl⟩

theorem ef_xp3 (m : MethodId) (x0 : Int32) : entryFrame m #[(.int x0)] 1 = mkF m 0 #[.val (.int x0)] [] := by first | (simp [entryFrame, mkF, argsToLocals, Value.category]; done) | rfl
def Q_xp3 (Z : State) (w0 : Addr) (w1 : Addr) (w2 : Addr) (w3 : Addr) (w4 : Addr) (w5 : Addr) (h0 : Heap) (n0 : Nat) (v : Option Value) (h : Heap) (L : List Loc) : Prop := v = some (.ref w3) ∧ Fr n0 L ∧ h = h0
set_option maxRecDepth 65536 in
set_option maxHeartbeats 40000000 in
theorem rm_xp3 (l : Launch) (Z : State) (a0 : Array Value) (hw : ∀ d ∈ tables_1, d.before a0 Z = true) (ws : List Jvm.Cond) (w0 : Addr) (w1 : Addr) (w2 : Addr) (w3 : Addr) (w4 : Addr) (w5 : Addr) (h0 : Heap) (n0 : Nat) (Z0 : n0 ≤ h0.size) (H0_S : Sta Z h0 "com/example/fieldglass/fieldglass/model/WireType" "VARINT" "Lcom/example/fieldglass/fieldglass/model/WireType;" (.ref w0)) (H1_S : Sta Z h0 "com/example/fieldglass/fieldglass/model/WireType" "FIXED64" "Lcom/example/fieldglass/fieldglass/model/WireType;" (.ref w1)) (H2_S : Sta Z h0 "com/example/fieldglass/fieldglass/model/WireType" "LENGTH_DELIMITED" "Lcom/example/fieldglass/fieldglass/model/WireType;" (.ref w2)) (H3_S : Sta Z h0 "com/example/fieldglass/fieldglass/model/WireType" "START_GROUP" "Lcom/example/fieldglass/fieldglass/model/WireType;" (.ref w3)) (H4_S : Sta Z h0 "com/example/fieldglass/fieldglass/model/WireType" "END_GROUP" "Lcom/example/fieldglass/fieldglass/model/WireType;" (.ref w4)) (H5_S : Sta Z h0 "com/example/fieldglass/fieldglass/model/WireType" "FIXED32" "Lcom/example/fieldglass/fieldglass/model/WireType;" (.ref w5)) :
    MetFree l (⟨"com/example/fieldglass/fieldglass/model/WireTypeForIdPinLaw", "expected", "(I)Lcom/example/fieldglass/fieldglass/model/WireType;"⟩ : MethodName) (head1 (Jvm.Cond.code (⟨"com/example/fieldglass/fieldglass/model/WireTypeForIdPinLaw", "expected", "(I)Lcom/example/fieldglass/fieldglass/model/WireType;"⟩ : MethodName) method_2_code 1 (some (.object "com/example/fieldglass/fieldglass/model/WireType")) :: ws) ({ frames := 0, cells := 0, slots := 0, locals := 0 } : Room)) (fun as_ U_ => as_ = #[(.int (3 : Int32))] ∧ Z.Warmed39 U_.vm ∧ U_.heap = h0) (fun _ _ _ _ _ => True) (fun _ U o U' => ∃ v L, o = .returned v ∧ Q_xp3 Z w0 w1 w2 w3 w4 w5 h0 n0 v U'.heap L ∧ FrameEnd U o U' L ({ frames := 0, cells := 0, slots := 0, locals := 0 } : Room).cells ({ frames := 0, cells := 0, slots := 0, locals := 0 } : Room).slots) := by
  refine MetFree.of_bodySF (plainFor_of_name pn_1) hisR ?_
  intro p e s m args below meth c s₁ Bd hml0 hP hK
  obtain ⟨rfl, hZ, hh⟩ := hP
  have hx := Bd.exec
  have hby := Bd.bytes
  have hml : c.maxLocals = 1 := hml0
  have hown : s.vm.findClass "com/example/fieldglass/fieldglass/model/WireTypeForIdPinLaw" = some m.cls := findClass_of_methodNamed Bd.named
  have hnm := (name_of_methodNamed Bd.named Bd.method).1
  have X0 : Stand p l e ({ frames := 0, cells := 0, slots := 0, locals := 0 } : Room) s m #[(.int (3 : Int32))] below meth c s₁ [] 0 0 := Stand.of_body Bd
  have e0 : s₁.heap = h0 := by rw [← hh, Bd.state]; rfl
  have N0 := Fr.nil n0
  have pre0 : ∀ t, Steps p.tables e below (s₁.setTop (mkF m 0 #[.val (.int (3 : Int32))] [])) t → Steps p.tables e below (s₁.setTop (entryFrame m #[(.int (3 : Int32))] 1)) t := fun t k => castTop (ef_xp3 m (3 : Int32)) k
  obtain ⟨T1, X1, e1, st1⟩ := getS2 X0 hx hZ hown (host := "") (Or.inl (hw _ (List.mem_of_getElem? (i := 23) rfl))) Via.refl e0 H3_S (g := (mkF m 31 #[.val (.int (3 : Int32))] [])) rfl (hb hby d3_31)
  have pre2 := fun (t : State) (k : Steps p.tables e below (T1.setTop (mkF m 34 #[.val (.int (3 : Int32))] [(.ref w3)])) t) => pre0 t (by
    refine XS.iloadN X0.here hx rfl (hb hby d3_0) rfl ?_
    show Steps p.tables e below (s₁.setTop (mkF m 1 #[.val (.int (3 : Int32))] [(.int (3 : Int32))])) _
    refine XS.ifYes X0.here hx rfl (pc0 := 1) (pc' := 8) rfl (hb hby d3_1) rfl ((if0 _ _).trans (feq (by decide : ¬ ((3 : Int32) = (0 : Int32)))).2) (by decide) (by decide) ?_
    show Steps p.tables e below (s₁.setTop (mkF m 8 #[.val (.int (3 : Int32))] [])) _
    refine XS.iloadN X0.here hx rfl (hb hby d3_8) rfl ?_
    show Steps p.tables e below (s₁.setTop (mkF m 9 #[.val (.int (3 : Int32))] [(.int (3 : Int32))])) _
    refine XS.iconst X0.here hx rfl (hb hby d3_9) ?_
    show Steps p.tables e below (s₁.setTop (mkF m 10 #[.val (.int (3 : Int32))] [(.int (1 : Int32)), (.int (3 : Int32))])) _
    refine XS.icmpYes X0.here hx rfl (pc0 := 10) (pc' := 17) rfl (hb hby d3_10) rfl (feq (by decide : ¬ ((3 : Int32) = (1 : Int32)))).2 (by decide) (by decide) ?_
    show Steps p.tables e below (s₁.setTop (mkF m 17 #[.val (.int (3 : Int32))] [])) _
    refine XS.iloadN X0.here hx rfl (hb hby d3_17) rfl ?_
    show Steps p.tables e below (s₁.setTop (mkF m 18 #[.val (.int (3 : Int32))] [(.int (3 : Int32))])) _
    refine XS.iconst X0.here hx rfl (hb hby d3_18) ?_
    show Steps p.tables e below (s₁.setTop (mkF m 19 #[.val (.int (3 : Int32))] [(.int (2 : Int32)), (.int (3 : Int32))])) _
    refine XS.icmpYes X0.here hx rfl (pc0 := 19) (pc' := 26) rfl (hb hby d3_19) rfl (feq (by decide : ¬ ((3 : Int32) = (2 : Int32)))).2 (by decide) (by decide) ?_
    show Steps p.tables e below (s₁.setTop (mkF m 26 #[.val (.int (3 : Int32))] [])) _
    refine XS.iloadN X0.here hx rfl (hb hby d3_26) rfl ?_
    show Steps p.tables e below (s₁.setTop (mkF m 27 #[.val (.int (3 : Int32))] [(.int (3 : Int32))])) _
    refine XS.iconst X0.here hx rfl (hb hby d3_27) ?_
    show Steps p.tables e below (s₁.setTop (mkF m 28 #[.val (.int (3 : Int32))] [(.int (3 : Int32)), (.int (3 : Int32))])) _
    refine XS.icmpNo X0.here hx rfl (hb hby d3_28) rfl (teq (by decide : (3 : Int32) = (3 : Int32))).2 ?_
    show Steps p.tables e below (s₁.setTop (mkF m 31 #[.val (.int (3 : Int32))] [])) _
    refine st1 _ ?_
    show Steps p.tables e below (T1.setTop (mkF m 34 #[.val (.int (3 : Int32))] [(.ref w3)])) _
    exact k)
  obtain ⟨fs, hr, hrun, hended, hW, hsame⟩ := X1.leave (v := some (.ref w3)) (fun h => by rw [Bd.returns] at h; cases h)
  refine ⟨_, _, pre2 _ ?_, hrun, hended, _, _, rfl, ?_, ⟨_, rfl⟩, hW, hsame.mono (by decide) (by decide)⟩
  · jvm_step X1.here [X1.here.top, hx, (hb hby d3_34), X1.method', Bd.returns, Value.isRef, FieldType.isReference]
    first | (intro acts; rw [hr _ acts rfl rfl rfl]) | rw [hr _ _ rfl rfl rfl]
    exact Steps.refl _
  · show Q_xp3 Z w0 w1 w2 w3 w4 w5 h0 n0 _ T1.heap _
    rw [e1]
    exact ⟨rfl, N0, rfl⟩

theorem ef_xp4 (m : MethodId) (x0 : Int32) : entryFrame m #[(.int x0)] 1 = mkF m 0 #[.val (.int x0)] [] := by first | (simp [entryFrame, mkF, argsToLocals, Value.category]; done) | rfl
def Q_xp4 (Z : State) (w0 : Addr) (w1 : Addr) (w2 : Addr) (w3 : Addr) (w4 : Addr) (w5 : Addr) (h0 : Heap) (n0 : Nat) (v : Option Value) (h : Heap) (L : List Loc) : Prop := v = some (.ref w4) ∧ Fr n0 L ∧ h = h0
set_option maxRecDepth 65536 in
set_option maxHeartbeats 40000000 in
theorem rm_xp4 (l : Launch) (Z : State) (a0 : Array Value) (hw : ∀ d ∈ tables_1, d.before a0 Z = true) (ws : List Jvm.Cond) (w0 : Addr) (w1 : Addr) (w2 : Addr) (w3 : Addr) (w4 : Addr) (w5 : Addr) (h0 : Heap) (n0 : Nat) (Z0 : n0 ≤ h0.size) (H0_S : Sta Z h0 "com/example/fieldglass/fieldglass/model/WireType" "VARINT" "Lcom/example/fieldglass/fieldglass/model/WireType;" (.ref w0)) (H1_S : Sta Z h0 "com/example/fieldglass/fieldglass/model/WireType" "FIXED64" "Lcom/example/fieldglass/fieldglass/model/WireType;" (.ref w1)) (H2_S : Sta Z h0 "com/example/fieldglass/fieldglass/model/WireType" "LENGTH_DELIMITED" "Lcom/example/fieldglass/fieldglass/model/WireType;" (.ref w2)) (H3_S : Sta Z h0 "com/example/fieldglass/fieldglass/model/WireType" "START_GROUP" "Lcom/example/fieldglass/fieldglass/model/WireType;" (.ref w3)) (H4_S : Sta Z h0 "com/example/fieldglass/fieldglass/model/WireType" "END_GROUP" "Lcom/example/fieldglass/fieldglass/model/WireType;" (.ref w4)) (H5_S : Sta Z h0 "com/example/fieldglass/fieldglass/model/WireType" "FIXED32" "Lcom/example/fieldglass/fieldglass/model/WireType;" (.ref w5)) :
    MetFree l (⟨"com/example/fieldglass/fieldglass/model/WireTypeForIdPinLaw", "expected", "(I)Lcom/example/fieldglass/fieldglass/model/WireType;"⟩ : MethodName) (head1 (Jvm.Cond.code (⟨"com/example/fieldglass/fieldglass/model/WireTypeForIdPinLaw", "expected", "(I)Lcom/example/fieldglass/fieldglass/model/WireType;"⟩ : MethodName) method_2_code 1 (some (.object "com/example/fieldglass/fieldglass/model/WireType")) :: ws) ({ frames := 0, cells := 0, slots := 0, locals := 0 } : Room)) (fun as_ U_ => as_ = #[(.int (4 : Int32))] ∧ Z.Warmed39 U_.vm ∧ U_.heap = h0) (fun _ _ _ _ _ => True) (fun _ U o U' => ∃ v L, o = .returned v ∧ Q_xp4 Z w0 w1 w2 w3 w4 w5 h0 n0 v U'.heap L ∧ FrameEnd U o U' L ({ frames := 0, cells := 0, slots := 0, locals := 0 } : Room).cells ({ frames := 0, cells := 0, slots := 0, locals := 0 } : Room).slots) := by
  refine MetFree.of_bodySF (plainFor_of_name pn_1) hisR ?_
  intro p e s m args below meth c s₁ Bd hml0 hP hK
  obtain ⟨rfl, hZ, hh⟩ := hP
  have hx := Bd.exec
  have hby := Bd.bytes
  have hml : c.maxLocals = 1 := hml0
  have hown : s.vm.findClass "com/example/fieldglass/fieldglass/model/WireTypeForIdPinLaw" = some m.cls := findClass_of_methodNamed Bd.named
  have hnm := (name_of_methodNamed Bd.named Bd.method).1
  have X0 : Stand p l e ({ frames := 0, cells := 0, slots := 0, locals := 0 } : Room) s m #[(.int (4 : Int32))] below meth c s₁ [] 0 0 := Stand.of_body Bd
  have e0 : s₁.heap = h0 := by rw [← hh, Bd.state]; rfl
  have N0 := Fr.nil n0
  have pre0 : ∀ t, Steps p.tables e below (s₁.setTop (mkF m 0 #[.val (.int (4 : Int32))] [])) t → Steps p.tables e below (s₁.setTop (entryFrame m #[(.int (4 : Int32))] 1)) t := fun t k => castTop (ef_xp4 m (4 : Int32)) k
  obtain ⟨T1, X1, e1, st1⟩ := getS2 X0 hx hZ hown (host := "") (Or.inl (hw _ (List.mem_of_getElem? (i := 27) rfl))) Via.refl e0 H4_S (g := (mkF m 40 #[.val (.int (4 : Int32))] [])) rfl (hb hby d3_40)
  have pre2 := fun (t : State) (k : Steps p.tables e below (T1.setTop (mkF m 43 #[.val (.int (4 : Int32))] [(.ref w4)])) t) => pre0 t (by
    refine XS.iloadN X0.here hx rfl (hb hby d3_0) rfl ?_
    show Steps p.tables e below (s₁.setTop (mkF m 1 #[.val (.int (4 : Int32))] [(.int (4 : Int32))])) _
    refine XS.ifYes X0.here hx rfl (pc0 := 1) (pc' := 8) rfl (hb hby d3_1) rfl ((if0 _ _).trans (feq (by decide : ¬ ((4 : Int32) = (0 : Int32)))).2) (by decide) (by decide) ?_
    show Steps p.tables e below (s₁.setTop (mkF m 8 #[.val (.int (4 : Int32))] [])) _
    refine XS.iloadN X0.here hx rfl (hb hby d3_8) rfl ?_
    show Steps p.tables e below (s₁.setTop (mkF m 9 #[.val (.int (4 : Int32))] [(.int (4 : Int32))])) _
    refine XS.iconst X0.here hx rfl (hb hby d3_9) ?_
    show Steps p.tables e below (s₁.setTop (mkF m 10 #[.val (.int (4 : Int32))] [(.int (1 : Int32)), (.int (4 : Int32))])) _
    refine XS.icmpYes X0.here hx rfl (pc0 := 10) (pc' := 17) rfl (hb hby d3_10) rfl (feq (by decide : ¬ ((4 : Int32) = (1 : Int32)))).2 (by decide) (by decide) ?_
    show Steps p.tables e below (s₁.setTop (mkF m 17 #[.val (.int (4 : Int32))] [])) _
    refine XS.iloadN X0.here hx rfl (hb hby d3_17) rfl ?_
    show Steps p.tables e below (s₁.setTop (mkF m 18 #[.val (.int (4 : Int32))] [(.int (4 : Int32))])) _
    refine XS.iconst X0.here hx rfl (hb hby d3_18) ?_
    show Steps p.tables e below (s₁.setTop (mkF m 19 #[.val (.int (4 : Int32))] [(.int (2 : Int32)), (.int (4 : Int32))])) _
    refine XS.icmpYes X0.here hx rfl (pc0 := 19) (pc' := 26) rfl (hb hby d3_19) rfl (feq (by decide : ¬ ((4 : Int32) = (2 : Int32)))).2 (by decide) (by decide) ?_
    show Steps p.tables e below (s₁.setTop (mkF m 26 #[.val (.int (4 : Int32))] [])) _
    refine XS.iloadN X0.here hx rfl (hb hby d3_26) rfl ?_
    show Steps p.tables e below (s₁.setTop (mkF m 27 #[.val (.int (4 : Int32))] [(.int (4 : Int32))])) _
    refine XS.iconst X0.here hx rfl (hb hby d3_27) ?_
    show Steps p.tables e below (s₁.setTop (mkF m 28 #[.val (.int (4 : Int32))] [(.int (3 : Int32)), (.int (4 : Int32))])) _
    refine XS.icmpYes X0.here hx rfl (pc0 := 28) (pc' := 35) rfl (hb hby d3_28) rfl (feq (by decide : ¬ ((4 : Int32) = (3 : Int32)))).2 (by decide) (by decide) ?_
    show Steps p.tables e below (s₁.setTop (mkF m 35 #[.val (.int (4 : Int32))] [])) _
    refine XS.iloadN X0.here hx rfl (hb hby d3_35) rfl ?_
    show Steps p.tables e below (s₁.setTop (mkF m 36 #[.val (.int (4 : Int32))] [(.int (4 : Int32))])) _
    refine XS.iconst X0.here hx rfl (hb hby d3_36) ?_
    show Steps p.tables e below (s₁.setTop (mkF m 37 #[.val (.int (4 : Int32))] [(.int (4 : Int32)), (.int (4 : Int32))])) _
    refine XS.icmpNo X0.here hx rfl (hb hby d3_37) rfl (teq (by decide : (4 : Int32) = (4 : Int32))).2 ?_
    show Steps p.tables e below (s₁.setTop (mkF m 40 #[.val (.int (4 : Int32))] [])) _
    refine st1 _ ?_
    show Steps p.tables e below (T1.setTop (mkF m 43 #[.val (.int (4 : Int32))] [(.ref w4)])) _
    exact k)
  obtain ⟨fs, hr, hrun, hended, hW, hsame⟩ := X1.leave (v := some (.ref w4)) (fun h => by rw [Bd.returns] at h; cases h)
  refine ⟨_, _, pre2 _ ?_, hrun, hended, _, _, rfl, ?_, ⟨_, rfl⟩, hW, hsame.mono (by decide) (by decide)⟩
  · jvm_step X1.here [X1.here.top, hx, (hb hby d3_43), X1.method', Bd.returns, Value.isRef, FieldType.isReference]
    first | (intro acts; rw [hr _ acts rfl rfl rfl]) | rw [hr _ _ rfl rfl rfl]
    exact Steps.refl _
  · show Q_xp4 Z w0 w1 w2 w3 w4 w5 h0 n0 _ T1.heap _
    rw [e1]
    exact ⟨rfl, N0, rfl⟩

theorem ef_xp5 (m : MethodId) (x0 : Int32) : entryFrame m #[(.int x0)] 1 = mkF m 0 #[.val (.int x0)] [] := by first | (simp [entryFrame, mkF, argsToLocals, Value.category]; done) | rfl
def Q_xp5 (Z : State) (w0 : Addr) (w1 : Addr) (w2 : Addr) (w3 : Addr) (w4 : Addr) (w5 : Addr) (h0 : Heap) (n0 : Nat) (v : Option Value) (h : Heap) (L : List Loc) : Prop := v = some (.ref w5) ∧ Fr n0 L ∧ h = h0
set_option maxRecDepth 65536 in
set_option maxHeartbeats 40000000 in
theorem rm_xp5 (l : Launch) (Z : State) (a0 : Array Value) (hw : ∀ d ∈ tables_1, d.before a0 Z = true) (ws : List Jvm.Cond) (w0 : Addr) (w1 : Addr) (w2 : Addr) (w3 : Addr) (w4 : Addr) (w5 : Addr) (h0 : Heap) (n0 : Nat) (Z0 : n0 ≤ h0.size) (H0_S : Sta Z h0 "com/example/fieldglass/fieldglass/model/WireType" "VARINT" "Lcom/example/fieldglass/fieldglass/model/WireType;" (.ref w0)) (H1_S : Sta Z h0 "com/example/fieldglass/fieldglass/model/WireType" "FIXED64" "Lcom/example/fieldglass/fieldglass/model/WireType;" (.ref w1)) (H2_S : Sta Z h0 "com/example/fieldglass/fieldglass/model/WireType" "LENGTH_DELIMITED" "Lcom/example/fieldglass/fieldglass/model/WireType;" (.ref w2)) (H3_S : Sta Z h0 "com/example/fieldglass/fieldglass/model/WireType" "START_GROUP" "Lcom/example/fieldglass/fieldglass/model/WireType;" (.ref w3)) (H4_S : Sta Z h0 "com/example/fieldglass/fieldglass/model/WireType" "END_GROUP" "Lcom/example/fieldglass/fieldglass/model/WireType;" (.ref w4)) (H5_S : Sta Z h0 "com/example/fieldglass/fieldglass/model/WireType" "FIXED32" "Lcom/example/fieldglass/fieldglass/model/WireType;" (.ref w5)) :
    MetFree l (⟨"com/example/fieldglass/fieldglass/model/WireTypeForIdPinLaw", "expected", "(I)Lcom/example/fieldglass/fieldglass/model/WireType;"⟩ : MethodName) (head1 (Jvm.Cond.code (⟨"com/example/fieldglass/fieldglass/model/WireTypeForIdPinLaw", "expected", "(I)Lcom/example/fieldglass/fieldglass/model/WireType;"⟩ : MethodName) method_2_code 1 (some (.object "com/example/fieldglass/fieldglass/model/WireType")) :: ws) ({ frames := 0, cells := 0, slots := 0, locals := 0 } : Room)) (fun as_ U_ => as_ = #[(.int (5 : Int32))] ∧ Z.Warmed39 U_.vm ∧ U_.heap = h0) (fun _ _ _ _ _ => True) (fun _ U o U' => ∃ v L, o = .returned v ∧ Q_xp5 Z w0 w1 w2 w3 w4 w5 h0 n0 v U'.heap L ∧ FrameEnd U o U' L ({ frames := 0, cells := 0, slots := 0, locals := 0 } : Room).cells ({ frames := 0, cells := 0, slots := 0, locals := 0 } : Room).slots) := by
  refine MetFree.of_bodySF (plainFor_of_name pn_1) hisR ?_
  intro p e s m args below meth c s₁ Bd hml0 hP hK
  obtain ⟨rfl, hZ, hh⟩ := hP
  have hx := Bd.exec
  have hby := Bd.bytes
  have hml : c.maxLocals = 1 := hml0
  have hown : s.vm.findClass "com/example/fieldglass/fieldglass/model/WireTypeForIdPinLaw" = some m.cls := findClass_of_methodNamed Bd.named
  have hnm := (name_of_methodNamed Bd.named Bd.method).1
  have X0 : Stand p l e ({ frames := 0, cells := 0, slots := 0, locals := 0 } : Room) s m #[(.int (5 : Int32))] below meth c s₁ [] 0 0 := Stand.of_body Bd
  have e0 : s₁.heap = h0 := by rw [← hh, Bd.state]; rfl
  have N0 := Fr.nil n0
  have pre0 : ∀ t, Steps p.tables e below (s₁.setTop (mkF m 0 #[.val (.int (5 : Int32))] [])) t → Steps p.tables e below (s₁.setTop (entryFrame m #[(.int (5 : Int32))] 1)) t := fun t k => castTop (ef_xp5 m (5 : Int32)) k
  obtain ⟨T1, X1, e1, st1⟩ := getS2 X0 hx hZ hown (host := "") (Or.inl (hw _ (List.mem_of_getElem? (i := 29) rfl))) Via.refl e0 H5_S (g := (mkF m 49 #[.val (.int (5 : Int32))] [])) rfl (hb hby d3_49)
  have pre2 := fun (t : State) (k : Steps p.tables e below (T1.setTop (mkF m 52 #[.val (.int (5 : Int32))] [(.ref w5)])) t) => pre0 t (by
    refine XS.iloadN X0.here hx rfl (hb hby d3_0) rfl ?_
    show Steps p.tables e below (s₁.setTop (mkF m 1 #[.val (.int (5 : Int32))] [(.int (5 : Int32))])) _
    refine XS.ifYes X0.here hx rfl (pc0 := 1) (pc' := 8) rfl (hb hby d3_1) rfl ((if0 _ _).trans (feq (by decide : ¬ ((5 : Int32) = (0 : Int32)))).2) (by decide) (by decide) ?_
    show Steps p.tables e below (s₁.setTop (mkF m 8 #[.val (.int (5 : Int32))] [])) _
    refine XS.iloadN X0.here hx rfl (hb hby d3_8) rfl ?_
    show Steps p.tables e below (s₁.setTop (mkF m 9 #[.val (.int (5 : Int32))] [(.int (5 : Int32))])) _
    refine XS.iconst X0.here hx rfl (hb hby d3_9) ?_
    show Steps p.tables e below (s₁.setTop (mkF m 10 #[.val (.int (5 : Int32))] [(.int (1 : Int32)), (.int (5 : Int32))])) _
    refine XS.icmpYes X0.here hx rfl (pc0 := 10) (pc' := 17) rfl (hb hby d3_10) rfl (feq (by decide : ¬ ((5 : Int32) = (1 : Int32)))).2 (by decide) (by decide) ?_
    show Steps p.tables e below (s₁.setTop (mkF m 17 #[.val (.int (5 : Int32))] [])) _
    refine XS.iloadN X0.here hx rfl (hb hby d3_17) rfl ?_
    show Steps p.tables e below (s₁.setTop (mkF m 18 #[.val (.int (5 : Int32))] [(.int (5 : Int32))])) _
    refine XS.iconst X0.here hx rfl (hb hby d3_18) ?_
    show Steps p.tables e below (s₁.setTop (mkF m 19 #[.val (.int (5 : Int32))] [(.int (2 : Int32)), (.int (5 : Int32))])) _
    refine XS.icmpYes X0.here hx rfl (pc0 := 19) (pc' := 26) rfl (hb hby d3_19) rfl (feq (by decide : ¬ ((5 : Int32) = (2 : Int32)))).2 (by decide) (by decide) ?_
    show Steps p.tables e below (s₁.setTop (mkF m 26 #[.val (.int (5 : Int32))] [])) _
    refine XS.iloadN X0.here hx rfl (hb hby d3_26) rfl ?_
    show Steps p.tables e below (s₁.setTop (mkF m 27 #[.val (.int (5 : Int32))] [(.int (5 : Int32))])) _
    refine XS.iconst X0.here hx rfl (hb hby d3_27) ?_
    show Steps p.tables e below (s₁.setTop (mkF m 28 #[.val (.int (5 : Int32))] [(.int (3 : Int32)), (.int (5 : Int32))])) _
    refine XS.icmpYes X0.here hx rfl (pc0 := 28) (pc' := 35) rfl (hb hby d3_28) rfl (feq (by decide : ¬ ((5 : Int32) = (3 : Int32)))).2 (by decide) (by decide) ?_
    show Steps p.tables e below (s₁.setTop (mkF m 35 #[.val (.int (5 : Int32))] [])) _
    refine XS.iloadN X0.here hx rfl (hb hby d3_35) rfl ?_
    show Steps p.tables e below (s₁.setTop (mkF m 36 #[.val (.int (5 : Int32))] [(.int (5 : Int32))])) _
    refine XS.iconst X0.here hx rfl (hb hby d3_36) ?_
    show Steps p.tables e below (s₁.setTop (mkF m 37 #[.val (.int (5 : Int32))] [(.int (4 : Int32)), (.int (5 : Int32))])) _
    refine XS.icmpYes X0.here hx rfl (pc0 := 37) (pc' := 44) rfl (hb hby d3_37) rfl (feq (by decide : ¬ ((5 : Int32) = (4 : Int32)))).2 (by decide) (by decide) ?_
    show Steps p.tables e below (s₁.setTop (mkF m 44 #[.val (.int (5 : Int32))] [])) _
    refine XS.iloadN X0.here hx rfl (hb hby d3_44) rfl ?_
    show Steps p.tables e below (s₁.setTop (mkF m 45 #[.val (.int (5 : Int32))] [(.int (5 : Int32))])) _
    refine XS.iconst X0.here hx rfl (hb hby d3_45) ?_
    show Steps p.tables e below (s₁.setTop (mkF m 46 #[.val (.int (5 : Int32))] [(.int (5 : Int32)), (.int (5 : Int32))])) _
    refine XS.icmpNo X0.here hx rfl (hb hby d3_46) rfl (teq (by decide : (5 : Int32) = (5 : Int32))).2 ?_
    show Steps p.tables e below (s₁.setTop (mkF m 49 #[.val (.int (5 : Int32))] [])) _
    refine st1 _ ?_
    show Steps p.tables e below (T1.setTop (mkF m 52 #[.val (.int (5 : Int32))] [(.ref w5)])) _
    exact k)
  obtain ⟨fs, hr, hrun, hended, hW, hsame⟩ := X1.leave (v := some (.ref w5)) (fun h => by rw [Bd.returns] at h; cases h)
  refine ⟨_, _, pre2 _ ?_, hrun, hended, _, _, rfl, ?_, ⟨_, rfl⟩, hW, hsame.mono (by decide) (by decide)⟩
  · jvm_step X1.here [X1.here.top, hx, (hb hby d3_52), X1.method', Bd.returns, Value.isRef, FieldType.isReference]
    first | (intro acts; rw [hr _ acts rfl rfl rfl]) | rw [hr _ _ rfl rfl rfl]
    exact Steps.refl _
  · show Q_xp5 Z w0 w1 w2 w3 w4 w5 h0 n0 _ T1.heap _
    rw [e1]
    exact ⟨rfl, N0, rfl⟩

theorem ef_xpN (m : MethodId) (x0 : Int32) : entryFrame m #[(.int x0)] 1 = mkF m 0 #[.val (.int x0)] [] := by first | (simp [entryFrame, mkF, argsToLocals, Value.category]; done) | rfl
def Q_xpN (Z : State) (pp : Int32) (w0 : Addr) (w1 : Addr) (w2 : Addr) (w3 : Addr) (w4 : Addr) (w5 : Addr) (h0 : Heap) (n0 : Nat) (v : Option Value) (h : Heap) (L : List Loc) : Prop := v = some .null ∧ Fr n0 L ∧ h = h0
set_option maxRecDepth 65536 in
set_option maxHeartbeats 40000000 in
theorem rm_xpN (l : Launch) (Z : State) (a0 : Array Value) (hw : ∀ d ∈ tables_1, d.before a0 Z = true) (ws : List Jvm.Cond) (pp : Int32) (w0 : Addr) (w1 : Addr) (w2 : Addr) (w3 : Addr) (w4 : Addr) (w5 : Addr) (h0 : Heap) (n0 : Nat) (Z0 : n0 ≤ h0.size) (H0_S : Sta Z h0 "com/example/fieldglass/fieldglass/model/WireType" "VARINT" "Lcom/example/fieldglass/fieldglass/model/WireType;" (.ref w0)) (H1_S : Sta Z h0 "com/example/fieldglass/fieldglass/model/WireType" "FIXED64" "Lcom/example/fieldglass/fieldglass/model/WireType;" (.ref w1)) (H2_S : Sta Z h0 "com/example/fieldglass/fieldglass/model/WireType" "LENGTH_DELIMITED" "Lcom/example/fieldglass/fieldglass/model/WireType;" (.ref w2)) (H3_S : Sta Z h0 "com/example/fieldglass/fieldglass/model/WireType" "START_GROUP" "Lcom/example/fieldglass/fieldglass/model/WireType;" (.ref w3)) (H4_S : Sta Z h0 "com/example/fieldglass/fieldglass/model/WireType" "END_GROUP" "Lcom/example/fieldglass/fieldglass/model/WireType;" (.ref w4)) (H5_S : Sta Z h0 "com/example/fieldglass/fieldglass/model/WireType" "FIXED32" "Lcom/example/fieldglass/fieldglass/model/WireType;" (.ref w5)) (hn0 : ¬ (pp = (0 : Int32))) (hn1 : ¬ (pp = (1 : Int32))) (hn2 : ¬ (pp = (2 : Int32))) (hn3 : ¬ (pp = (3 : Int32))) (hn4 : ¬ (pp = (4 : Int32))) (hn5 : ¬ (pp = (5 : Int32))) :
    MetFree l (⟨"com/example/fieldglass/fieldglass/model/WireTypeForIdPinLaw", "expected", "(I)Lcom/example/fieldglass/fieldglass/model/WireType;"⟩ : MethodName) (head1 (Jvm.Cond.code (⟨"com/example/fieldglass/fieldglass/model/WireTypeForIdPinLaw", "expected", "(I)Lcom/example/fieldglass/fieldglass/model/WireType;"⟩ : MethodName) method_2_code 1 (some (.object "com/example/fieldglass/fieldglass/model/WireType")) :: ws) ({ frames := 0, cells := 0, slots := 0, locals := 0 } : Room)) (fun as_ U_ => as_ = #[(.int pp)] ∧ Z.Warmed39 U_.vm ∧ U_.heap = h0) (fun _ _ _ _ _ => True) (fun _ U o U' => ∃ v L, o = .returned v ∧ Q_xpN Z pp w0 w1 w2 w3 w4 w5 h0 n0 v U'.heap L ∧ FrameEnd U o U' L ({ frames := 0, cells := 0, slots := 0, locals := 0 } : Room).cells ({ frames := 0, cells := 0, slots := 0, locals := 0 } : Room).slots) := by
  refine MetFree.of_bodySF (plainFor_of_name pn_1) hisR ?_
  intro p e s m args below meth c s₁ Bd hml0 hP hK
  obtain ⟨rfl, hZ, hh⟩ := hP
  have hx := Bd.exec
  have hby := Bd.bytes
  have hml : c.maxLocals = 1 := hml0
  have hown : s.vm.findClass "com/example/fieldglass/fieldglass/model/WireTypeForIdPinLaw" = some m.cls := findClass_of_methodNamed Bd.named
  have hnm := (name_of_methodNamed Bd.named Bd.method).1
  have X0 : Stand p l e ({ frames := 0, cells := 0, slots := 0, locals := 0 } : Room) s m #[(.int pp)] below meth c s₁ [] 0 0 := Stand.of_body Bd
  have e0 : s₁.heap = h0 := by rw [← hh, Bd.state]; rfl
  have N0 := Fr.nil n0
  have pre0 : ∀ t, Steps p.tables e below (s₁.setTop (mkF m 0 #[.val (.int pp)] [])) t → Steps p.tables e below (s₁.setTop (entryFrame m #[(.int pp)] 1)) t := fun t k => castTop (ef_xpN m pp) k
  have pre1 := fun (t : State) (k : Steps p.tables e below (s₁.setTop (mkF m 54 #[.val (.int pp)] [.null])) t) => pre0 t (by
    refine XS.iloadN X0.here hx rfl (hb hby d3_0) rfl ?_
    show Steps p.tables e below (s₁.setTop (mkF m 1 #[.val (.int pp)] [(.int pp)])) _
    refine XS.ifYes X0.here hx rfl (pc0 := 1) (pc' := 8) rfl (hb hby d3_1) rfl ((if0 _ _).trans (feq hn0).2) (by decide) (by decide) ?_
    show Steps p.tables e below (s₁.setTop (mkF m 8 #[.val (.int pp)] [])) _
    refine XS.iloadN X0.here hx rfl (hb hby d3_8) rfl ?_
    show Steps p.tables e below (s₁.setTop (mkF m 9 #[.val (.int pp)] [(.int pp)])) _
    refine XS.iconst X0.here hx rfl (hb hby d3_9) ?_
    show Steps p.tables e below (s₁.setTop (mkF m 10 #[.val (.int pp)] [(.int (1 : Int32)), (.int pp)])) _
    refine XS.icmpYes X0.here hx rfl (pc0 := 10) (pc' := 17) rfl (hb hby d3_10) rfl (feq hn1).2 (by decide) (by decide) ?_
    show Steps p.tables e below (s₁.setTop (mkF m 17 #[.val (.int pp)] [])) _
    refine XS.iloadN X0.here hx rfl (hb hby d3_17) rfl ?_
    show Steps p.tables e below (s₁.setTop (mkF m 18 #[.val (.int pp)] [(.int pp)])) _
    refine XS.iconst X0.here hx rfl (hb hby d3_18) ?_
    show Steps p.tables e below (s₁.setTop (mkF m 19 #[.val (.int pp)] [(.int (2 : Int32)), (.int pp)])) _
    refine XS.icmpYes X0.here hx rfl (pc0 := 19) (pc' := 26) rfl (hb hby d3_19) rfl (feq hn2).2 (by decide) (by decide) ?_
    show Steps p.tables e below (s₁.setTop (mkF m 26 #[.val (.int pp)] [])) _
    refine XS.iloadN X0.here hx rfl (hb hby d3_26) rfl ?_
    show Steps p.tables e below (s₁.setTop (mkF m 27 #[.val (.int pp)] [(.int pp)])) _
    refine XS.iconst X0.here hx rfl (hb hby d3_27) ?_
    show Steps p.tables e below (s₁.setTop (mkF m 28 #[.val (.int pp)] [(.int (3 : Int32)), (.int pp)])) _
    refine XS.icmpYes X0.here hx rfl (pc0 := 28) (pc' := 35) rfl (hb hby d3_28) rfl (feq hn3).2 (by decide) (by decide) ?_
    show Steps p.tables e below (s₁.setTop (mkF m 35 #[.val (.int pp)] [])) _
    refine XS.iloadN X0.here hx rfl (hb hby d3_35) rfl ?_
    show Steps p.tables e below (s₁.setTop (mkF m 36 #[.val (.int pp)] [(.int pp)])) _
    refine XS.iconst X0.here hx rfl (hb hby d3_36) ?_
    show Steps p.tables e below (s₁.setTop (mkF m 37 #[.val (.int pp)] [(.int (4 : Int32)), (.int pp)])) _
    refine XS.icmpYes X0.here hx rfl (pc0 := 37) (pc' := 44) rfl (hb hby d3_37) rfl (feq hn4).2 (by decide) (by decide) ?_
    show Steps p.tables e below (s₁.setTop (mkF m 44 #[.val (.int pp)] [])) _
    refine XS.iloadN X0.here hx rfl (hb hby d3_44) rfl ?_
    show Steps p.tables e below (s₁.setTop (mkF m 45 #[.val (.int pp)] [(.int pp)])) _
    refine XS.iconst X0.here hx rfl (hb hby d3_45) ?_
    show Steps p.tables e below (s₁.setTop (mkF m 46 #[.val (.int pp)] [(.int (5 : Int32)), (.int pp)])) _
    refine XS.icmpYes X0.here hx rfl (pc0 := 46) (pc' := 53) rfl (hb hby d3_46) rfl (feq hn5).2 (by decide) (by decide) ?_
    show Steps p.tables e below (s₁.setTop (mkF m 53 #[.val (.int pp)] [])) _
    refine XS.aconstNull X0.here hx rfl (hb hby d3_53) ?_
    show Steps p.tables e below (s₁.setTop (mkF m 54 #[.val (.int pp)] [.null])) _
    exact k)
  obtain ⟨fs, hr, hrun, hended, hW, hsame⟩ := X0.leave (v := some .null) (fun h => by rw [Bd.returns] at h; cases h)
  refine ⟨_, _, pre1 _ ?_, hrun, hended, _, _, rfl, ?_, ⟨_, rfl⟩, hW, hsame.mono (by decide) (by decide)⟩
  · jvm_step X0.here [X0.here.top, hx, (hb hby d3_54), X0.method', Bd.returns, Value.isRef, FieldType.isReference]
    first | (intro acts; rw [hr _ acts rfl rfl rfl]) | rw [hr _ _ rfl rfl rfl]
    exact Steps.refl _
  · show Q_xpN Z pp w0 w1 w2 w3 w4 w5 h0 n0 _ s₁.heap _
    rw [e0]
    exact ⟨rfl, N0, rfl⟩

theorem ef_idc (m : MethodId) (x0 : Addr) : entryFrame m #[(.ref x0)] 1 = mkF m 0 #[.val (.ref x0)] [] := by first | (simp [entryFrame, mkF, argsToLocals, Value.category]; done) | rfl
def Q_idc (Z : State) (a : Addr) (ii : Int32) (h0 : Heap) (n0 : Nat) (v : Option Value) (h : Heap) (L : List Loc) : Prop := v = some (.int ii) ∧ Fr n0 L ∧ h = h0
set_option maxRecDepth 65536 in
set_option maxHeartbeats 40000000 in
theorem rm_idc (l : Launch) (Z : State) (a0 : Array Value) (hw : ∀ d ∈ tables_1, d.before a0 Z = true) (ws : List Jvm.Cond) (a : Addr) (ii : Int32) (h0 : Heap) (n0 : Nat) (Z0 : n0 ≤ h0.size) (H0_F : Fld Z h0 a "com/example/fieldglass/fieldglass/model/WireType" "id" "I" (.int ii)) :
    MetFree l (⟨"com/example/fieldglass/fieldglass/model/WireType", "id", "()I"⟩ : MethodName) (head1 (Jvm.Cond.code (⟨"com/example/fieldglass/fieldglass/model/WireType", "id", "()I"⟩ : MethodName) prog_21_method_4_code 1 (some .int) :: ws) ({ frames := 0, cells := 0, slots := 0, locals := 0 } : Room)) (fun as_ U_ => as_ = #[(.ref a)] ∧ Z.Warmed39 U_.vm ∧ U_.heap = h0) (fun _ _ _ _ _ => True) (fun _ U o U' => ∃ v L, o = .returned v ∧ Q_idc Z a ii h0 n0 v U'.heap L ∧ FrameEnd U o U' L ({ frames := 0, cells := 0, slots := 0, locals := 0 } : Room).cells ({ frames := 0, cells := 0, slots := 0, locals := 0 } : Room).slots) := by
  refine MetFree.of_bodySF (plainFor_of_name pn_0) hisR ?_
  intro p e s m args below meth c s₁ Bd hml0 hP hK
  obtain ⟨rfl, hZ, hh⟩ := hP
  have hx := Bd.exec
  have hby := Bd.bytes
  have hml : c.maxLocals = 1 := hml0
  have hown : s.vm.findClass "com/example/fieldglass/fieldglass/model/WireType" = some m.cls := findClass_of_methodNamed Bd.named
  have hnm := (name_of_methodNamed Bd.named Bd.method).1
  have X0 : Stand p l e ({ frames := 0, cells := 0, slots := 0, locals := 0 } : Room) s m #[(.ref a)] below meth c s₁ [] 0 0 := Stand.of_body Bd
  have e0 : s₁.heap = h0 := by rw [← hh, Bd.state]; rfl
  have N0 := Fr.nil n0
  have pre0 : ∀ t, Steps p.tables e below (s₁.setTop (mkF m 0 #[.val (.ref a)] [])) t → Steps p.tables e below (s₁.setTop (entryFrame m #[(.ref a)] 1)) t := fun t k => castTop (ef_idc m a) k
  obtain ⟨T1, X1, e1, st1⟩ := getF X0 hx hZ hown (host := "") (Or.inl (hw _ (List.mem_of_getElem? (i := 20) rfl))) Via.refl e0 H0_F (g := (mkF m 1 #[.val (.ref a)] [(.ref a)])) rfl rfl (hb hby d4_1)
  have pre2 := fun (t : State) (k : Steps p.tables e below (T1.setTop (mkF m 4 #[.val (.ref a)] [(.int ii)])) t) => pre0 t (by
    refine XS.aloadN X0.here hx rfl (hb hby d4_0) rfl rfl ?_
    show Steps p.tables e below (s₁.setTop (mkF m 1 #[.val (.ref a)] [(.ref a)])) _
    refine st1 _ ?_
    show Steps p.tables e below (T1.setTop (mkF m 4 #[.val (.ref a)] [(.int ii)])) _
    exact k)
  obtain ⟨fs, hr, hrun, hended, hW, hsame⟩ := X1.leave (v := some (.int ii)) (fun h => by rw [Bd.returns] at h; cases h)
  refine ⟨_, _, pre2 _ ?_, hrun, hended, _, _, rfl, ?_, ⟨_, rfl⟩, hW, hsame.mono (by decide) (by decide)⟩
  · exact retI X1 hx Bd.returns (hb hby d4_4) hr
  · show Q_idc Z a ii h0 n0 _ T1.heap _
    rw [e1]
    exact ⟨rfl, N0, rfl⟩

theorem ef_chk (m : MethodId) (x0 : Int32) : entryFrame m #[(.int x0)] 2 = mkF m 0 #[.val (.int x0), .unset] [] := by first | (simp [entryFrame, mkF, argsToLocals, Value.category]; done) | rfl
def Q_chk (Z : State) (pp : Int32) (zb : Addr) (kb : ClassId) (w0 : Addr) (w1 : Addr) (w2 : Addr) (w3 : Addr) (w4 : Addr) (w5 : Addr) (h0 : Heap) (n0 : Nat) (v : Option Value) (h : Heap) (L : List Loc) : Prop := v = some (.int (1 : Int32)) ∧ Fr n0 L ∧ h = h0
set_option maxRecDepth 65536 in
set_option maxHeartbeats 40000000 in
theorem rm_chk (l : Launch) (Z : State) (a0 : Array Value) (hw : ∀ d ∈ tables_1, d.before a0 Z = true) (ws : List Jvm.Cond) (pp : Int32) (zb : Addr) (kb : ClassId) (w0 : Addr) (w1 : Addr) (w2 : Addr) (w3 : Addr) (w4 : Addr) (w5 : Addr) (h0 : Heap) (n0 : Nat) (Z0 : n0 ≤ h0.size) (H0_S : Sta Z h0 "com/example/fieldglass/fieldglass/model/WireType" "BY_ID" "[Lcom/example/fieldglass/fieldglass/model/WireType;" (.ref zb)) (H1_A : Arv Z h0 zb kb (.object "com/example/fieldglass/fieldglass/model/WireType") (6 : Int32) [(.ref w0), (.ref w1), (.ref w2), (.ref w3), (.ref w4), (.ref w5)] .null) (H2_S : Sta Z h0 "com/example/fieldglass/fieldglass/model/WireType" "VARINT" "Lcom/example/fieldglass/fieldglass/model/WireType;" (.ref w0)) (H3_S : Sta Z h0 "com/example/fieldglass/fieldglass/model/WireType" "FIXED64" "Lcom/example/fieldglass/fieldglass/model/WireType;" (.ref w1)) (H4_S : Sta Z h0 "com/example/fieldglass/fieldglass/model/WireType" "LENGTH_DELIMITED" "Lcom/example/fieldglass/fieldglass/model/WireType;" (.ref w2)) (H5_S : Sta Z h0 "com/example/fieldglass/fieldglass/model/WireType" "START_GROUP" "Lcom/example/fieldglass/fieldglass/model/WireType;" (.ref w3)) (H6_S : Sta Z h0 "com/example/fieldglass/fieldglass/model/WireType" "END_GROUP" "Lcom/example/fieldglass/fieldglass/model/WireType;" (.ref w4)) (H7_S : Sta Z h0 "com/example/fieldglass/fieldglass/model/WireType" "FIXED32" "Lcom/example/fieldglass/fieldglass/model/WireType;" (.ref w5)) (H8_F : Fld Z h0 w0 "com/example/fieldglass/fieldglass/model/WireType" "id" "I" (.int (0 : Int32))) (H9_F : Fld Z h0 w1 "com/example/fieldglass/fieldglass/model/WireType" "id" "I" (.int (1 : Int32))) (H10_F : Fld Z h0 w2 "com/example/fieldglass/fieldglass/model/WireType" "id" "I" (.int (2 : Int32))) (H11_F : Fld Z h0 w3 "com/example/fieldglass/fieldglass/model/WireType" "id" "I" (.int (3 : Int32))) (H12_F : Fld Z h0 w4 "com/example/fieldglass/fieldglass/model/WireType" "id" "I" (.int (4 : Int32))) (H13_F : Fld Z h0 w5 "com/example/fieldglass/fieldglass/model/WireType" "id" "I" (.int (5 : Int32))) (H14_E : Exa Z h0 w0 "com/example/fieldglass/fieldglass/model/WireType") (H15_E : Exa Z h0 w1 "com/example/fieldglass/fieldglass/model/WireType") (H16_E : Exa Z h0 w2 "com/example/fieldglass/fieldglass/model/WireType") (H17_E : Exa Z h0 w3 "com/example/fieldglass/fieldglass/model/WireType") (H18_E : Exa Z h0 w4 "com/example/fieldglass/fieldglass/model/WireType") (H19_E : Exa Z h0 w5 "com/example/fieldglass/fieldglass/model/WireType") :
    MetFree l (⟨"com/example/fieldglass/fieldglass/model/WireTypeForIdPinLaw", "check", "(I)Z"⟩ : MethodName) (head1 (Jvm.Cond.code (⟨"com/example/fieldglass/fieldglass/model/WireTypeForIdPinLaw", "check", "(I)Z"⟩ : MethodName) method_3_code 2 (some .boolean) :: ws) ({ frames := 1, cells := 0, slots := 0, locals := 13 } : Room)) (fun as_ U_ => as_ = #[(.int pp)] ∧ Z.Warmed39 U_.vm ∧ U_.heap = h0) (fun _ _ _ _ _ => True) (fun _ U o U' => ∃ v L, o = .returned v ∧ Q_chk Z pp zb kb w0 w1 w2 w3 w4 w5 h0 n0 v U'.heap L ∧ FrameEnd U o U' L ({ frames := 1, cells := 0, slots := 0, locals := 13 } : Room).cells ({ frames := 1, cells := 0, slots := 0, locals := 13 } : Room).slots) := by
  refine MetFree.of_bodySF (plainFor_of_name pn_1) hisR ?_
  intro p e s m args below meth c s₁ Bd hml0 hP hK
  obtain ⟨rfl, hZ, hh⟩ := hP
  have hx := Bd.exec
  have hby := Bd.bytes
  have hml : c.maxLocals = 2 := hml0
  have hown : s.vm.findClass "com/example/fieldglass/fieldglass/model/WireTypeForIdPinLaw" = some m.cls := findClass_of_methodNamed Bd.named
  have hnm := (name_of_methodNamed Bd.named Bd.method).1
  have X0 : Stand p l e ({ frames := 1, cells := 0, slots := 0, locals := 13 } : Room) s m #[(.int pp)] below meth c s₁ [] 0 0 := Stand.of_body Bd
  have e0 : s₁.heap = h0 := by rw [← hh, Bd.state]; rfl
  have N0 := Fr.nil n0
  have pre0 : ∀ t, Steps p.tables e below (s₁.setTop (mkF m 0 #[.val (.int pp), .unset] [])) t → Steps p.tables e below (s₁.setTop (entryFrame m #[(.int pp)] 2)) t := fun t k => castTop (ef_chk m pp) k
  by_cases hs1 : pp = (0 : Int32)
  · subst hs1
    obtain ⟨_, _, ⟨T2, L2, k2, n2⟩, -, X2, ⟨Lc2, hQ2, l2, y2, z2⟩, st2⟩ := Jvm.LawKit.callS X0 hx (y := (⟨"com/example/fieldglass/fieldglass/model/WireType", "forId", "(I)Lcom/example/fieldglass/fieldglass/model/WireType;"⟩ : MethodName)) hown (mvT hZ (hw _ (List.mem_of_getElem? (i := 4) rfl))) (mvT hZ (hw _ (List.mem_of_getElem? (i := 5) rfl))) (mvT hZ (hw _ (List.mem_of_getElem? (i := 6) rfl))) (mvT hZ (hw _ (List.mem_of_getElem? (i := 7) rfl))) (by decide) (backOf (W := 0) (rm_fo0 l Z a0 hw [] zb kb w0 w1 w2 w3 w4 w5 h0 n0 Z0 H0_S H1_A) hZ (hw _ (List.mem_of_getElem? (i := 7) rfl)) (hw _ (List.mem_of_getElem? (i := 6) rfl)) (by decide) (by decide)) (g := (mkF m 1 #[.val (.int (0 : Int32)), .unset] [(.int (0 : Int32))])) rfl (by rw [hml]; rfl) (argsL := [(.int (0 : Int32))]) (rest := []) (lenOf pd_0 rfl) rfl (by show 2 * 0 + _ ≤ _; exact Nat.le_of_eq rfl) (hb hby d1_1) (fun _ _ => ⟨rfl, e0, (by decide : 0 + 0 ≤ _), (by decide : 0 + 0 ≤ _)⟩)
    dsimp only [Pt.U, Pt.locs, Pt.cells, Pt.slots] at X2 l2 y2 z2 st2 hQ2
    subst l2 y2 z2
    obtain ⟨rfl, N2q, hq3⟩ := hQ2
    have N2 := Fr.app N0 N2q
    obtain ⟨_, _, ⟨T4, L4, k4, n4⟩, -, X4, ⟨Lc4, hQ4, l4, y4, z4⟩, st4⟩ := Jvm.LawKit.callS X2 hx (y := (⟨"com/example/fieldglass/fieldglass/model/WireTypeForIdPinLaw", "expected", "(I)Lcom/example/fieldglass/fieldglass/model/WireType;"⟩ : MethodName)) hown (mvT hZ (hw _ (List.mem_of_getElem? (i := 11) rfl))) (mvT hZ (hw _ (List.mem_of_getElem? (i := 12) rfl))) (mvT hZ (hw _ (List.mem_of_getElem? (i := 2) rfl))) (mvT hZ (hw _ (List.mem_of_getElem? (i := 13) rfl))) (by decide) (backOf (W := 1) (rm_xp0 l Z a0 hw [] w0 w1 w2 w3 w4 w5 h0 n0 Z0 H2_S H3_S H4_S H5_S H6_S H7_S) hZ (hw _ (List.mem_of_getElem? (i := 13) rfl)) (hw _ (List.mem_of_getElem? (i := 2) rfl)) (by decide) (by decide)) (g := (mkF m 7 #[.val (.int (0 : Int32)), .val (.ref w0)] [(.int (0 : Int32)), (.ref w0)])) rfl (by rw [hml]; rfl) (argsL := [(.int (0 : Int32))]) (rest := [(.ref w0)]) (lenOf pd_0 rfl) rfl (by show 2 * 0 + _ ≤ _; exact Nat.le_of_eq rfl) (hb hby d1_7) (fun _ _ => ⟨rfl, hq3, (by decide : 0 + 0 ≤ _), (by decide : 0 + 0 ≤ _)⟩)
    dsimp only [Pt.U, Pt.locs, Pt.cells, Pt.slots] at X4 l4 y4 z4 st4 hQ4
    subst l4 y4 z4
    obtain ⟨rfl, N4q, hq5⟩ := hQ4
    have N4 := Fr.app N2 N4q
    obtain ⟨cq6, kq6, q6a, q6b, q6c⟩ := isOf hZ hq5 H14_E
    obtain ⟨_, _, ⟨T6, L6, k6, n6⟩, -, X6, ⟨Lc6, hQ6, l6, y6, z6⟩, st6⟩ := X4.virtualBack hx (y := (⟨"com/example/fieldglass/fieldglass/model/WireType", "id", "()I"⟩ : MethodName)) (z := (⟨"com/example/fieldglass/fieldglass/model/WireType", "id", "()I"⟩ : MethodName)) hown (mvT hZ (hw _ (List.mem_of_getElem? (i := 15) rfl))) (mvT hZ (hw _ (List.mem_of_getElem? (i := 16) rfl))) (notFace_of_selects (args := #[]) (mvT hZ (hw _ (List.mem_of_getElem? (i := 18) rfl)))) (mvT hZ (hw _ (List.mem_of_getElem? (i := 18) rfl))) (mvT hZ (hw _ (List.mem_of_getElem? (i := 17) rfl))) (by decide) (backOf (W := 0) (rm_idc l Z a0 hw [] w0 (0 : Int32) h0 n0 Z0 H8_F) hZ (hw _ (List.mem_of_getElem? (i := 19) rfl)) (hw _ (List.mem_of_getElem? (i := 6) rfl)) (by decide) (by decide)) q6a q6c (g := (mkF m 20 #[.val (.int (0 : Int32)), .val (.ref w0)] [(.ref w0)])) rfl (by rw [hml]; rfl) (Steps.refl _) (argsL := []) (rest := []) (lenOf pd_1 rfl) rfl (by show 2 * 0 + _ ≤ _; exact Nat.le_of_eq rfl) (hb hby d1_20) (fun _ _ => ⟨rfl, hq5, (by decide : 0 + 0 ≤ _), (by decide : 0 + 0 ≤ _)⟩)
    dsimp only [Pt.U, Pt.locs, Pt.cells, Pt.slots] at X6 l6 y6 z6 st6 hQ6
    subst l6 y6 z6
    obtain ⟨rfl, N6q, hq7⟩ := hQ6
    have N6 := Fr.app N4 N6q
    have pre8 := fun (t : State) (k : Steps p.tables e below (T6.setTop (mkF m 30 #[.val (.int (0 : Int32)), .val (.ref w0)] [(.int (1 : Int32))])) t) => pre0 t (by
      refine XS.iloadN X0.here hx rfl (hb hby d1_0) rfl ?_
      show Steps p.tables e below (s₁.setTop (mkF m 1 #[.val (.int (0 : Int32)), .unset] [(.int (0 : Int32))])) _
      refine st2 _ ?_
      show Steps p.tables e below (T2.setTop (mkF m 4 #[.val (.int (0 : Int32)), .unset] [(.ref w0)])) _
      refine XS.astoreN X2.here hx rfl (hb hby d1_4) rfl rfl (l' := #[.val (.int (0 : Int32)), .val (.ref w0)]) rfl ?_
      show Steps p.tables e below (T2.setTop (mkF m 5 #[.val (.int (0 : Int32)), .val (.ref w0)] [])) _
      refine XS.aloadN X2.here hx rfl (hb hby d1_5) rfl rfl ?_
      show Steps p.tables e below (T2.setTop (mkF m 6 #[.val (.int (0 : Int32)), .val (.ref w0)] [(.ref w0)])) _
      refine XS.iloadN X2.here hx rfl (hb hby d1_6) rfl ?_
      show Steps p.tables e below (T2.setTop (mkF m 7 #[.val (.int (0 : Int32)), .val (.ref w0)] [(.int (0 : Int32)), (.ref w0)])) _
      refine st4 _ ?_
      show Steps p.tables e below (T4.setTop (mkF m 10 #[.val (.int (0 : Int32)), .val (.ref w0)] [(.ref w0), (.ref w0)])) _
      refine Jvm.RoadKit.acmp (g := (mkF m 10 #[.val (.int (0 : Int32)), .val (.ref w0)] [(.ref w0), (.ref w0)])) X4 hx rfl rfl rfl (pc0 := 10) (pc' := 15) (same := true) rfl (hb hby d1_10) rfl (decide_eq_true rfl) (by decide) (by decide) ?_
      show Steps p.tables e below (T4.setTop (mkF m 15 #[.val (.int (0 : Int32)), .val (.ref w0)] [])) _
      refine XS.aloadN X4.here hx rfl (hb hby d1_15) rfl rfl ?_
      show Steps p.tables e below (T4.setTop (mkF m 16 #[.val (.int (0 : Int32)), .val (.ref w0)] [(.ref w0)])) _
      refine XS.ifnullNo X4.here hx rfl (hb hby d1_16) rfl ?_
      show Steps p.tables e below (T4.setTop (mkF m 19 #[.val (.int (0 : Int32)), .val (.ref w0)] [])) _
      refine XS.aloadN X4.here hx rfl (hb hby d1_19) rfl rfl ?_
      show Steps p.tables e below (T4.setTop (mkF m 20 #[.val (.int (0 : Int32)), .val (.ref w0)] [(.ref w0)])) _
      refine st6.trans ?_
      show Steps p.tables e below (T6.setTop (mkF m 23 #[.val (.int (0 : Int32)), .val (.ref w0)] [(.int (0 : Int32))])) _
      refine XS.iloadN X6.here hx rfl (hb hby d1_23) rfl ?_
      show Steps p.tables e below (T6.setTop (mkF m 24 #[.val (.int (0 : Int32)), .val (.ref w0)] [(.int (0 : Int32)), (.int (0 : Int32))])) _
      refine XS.icmpYes X6.here hx rfl (pc0 := 24) (pc' := 29) rfl (hb hby d1_24) rfl (teq (by decide : (0 : Int32) = (0 : Int32))).1 (by decide) (by decide) ?_
      show Steps p.tables e below (T6.setTop (mkF m 29 #[.val (.int (0 : Int32)), .val (.ref w0)] [])) _
      refine XS.iconst X6.here hx rfl (hb hby d1_29) ?_
      show Steps p.tables e below (T6.setTop (mkF m 30 #[.val (.int (0 : Int32)), .val (.ref w0)] [(.int (1 : Int32))])) _
      exact k)
    obtain ⟨fs, hr, hrun, hended, hW, hsame⟩ := X6.leave (v := some (.int (1 : Int32))) (fun h => by rw [Bd.returns] at h; cases h)
    refine ⟨_, _, pre8 _ ?_, hrun, hended, _, _, rfl, ?_, ⟨_, rfl⟩, hW, hsame.mono (by decide) (by decide)⟩
    · exact retN X6 hx (t := .boolean) Bd.returns (by simp) (hb hby d1_30) hr
    · show Q_chk Z (0 : Int32) zb kb w0 w1 w2 w3 w4 w5 h0 n0 _ T6.heap _
      rw [hq7]
      exact ⟨rfl, N6, rfl⟩
  · by_cases hs9 : pp = (1 : Int32)
    · subst hs9
      obtain ⟨_, _, ⟨T10, L10, k10, n10⟩, -, X10, ⟨Lc10, hQ10, l10, y10, z10⟩, st10⟩ := Jvm.LawKit.callS X0 hx (y := (⟨"com/example/fieldglass/fieldglass/model/WireType", "forId", "(I)Lcom/example/fieldglass/fieldglass/model/WireType;"⟩ : MethodName)) hown (mvT hZ (hw _ (List.mem_of_getElem? (i := 4) rfl))) (mvT hZ (hw _ (List.mem_of_getElem? (i := 5) rfl))) (mvT hZ (hw _ (List.mem_of_getElem? (i := 6) rfl))) (mvT hZ (hw _ (List.mem_of_getElem? (i := 7) rfl))) (by decide) (backOf (W := 0) (rm_fo1 l Z a0 hw [] zb kb w0 w1 w2 w3 w4 w5 h0 n0 Z0 H0_S H1_A) hZ (hw _ (List.mem_of_getElem? (i := 7) rfl)) (hw _ (List.mem_of_getElem? (i := 6) rfl)) (by decide) (by decide)) (g := (mkF m 1 #[.val (.int (1 : Int32)), .unset] [(.int (1 : Int32))])) rfl (by rw [hml]; rfl) (argsL := [(.int (1 : Int32))]) (rest := []) (lenOf pd_0 rfl) rfl (by show 2 * 0 + _ ≤ _; exact Nat.le_of_eq rfl) (hb hby d1_1) (fun _ _ => ⟨rfl, e0, (by decide : 0 + 0 ≤ _), (by decide : 0 + 0 ≤ _)⟩)
      dsimp only [Pt.U, Pt.locs, Pt.cells, Pt.slots] at X10 l10 y10 z10 st10 hQ10
      subst l10 y10 z10
      obtain ⟨rfl, N10q, hq11⟩ := hQ10
      have N10 := Fr.app N0 N10q
      obtain ⟨_, _, ⟨T12, L12, k12, n12⟩, -, X12, ⟨Lc12, hQ12, l12, y12, z12⟩, st12⟩ := Jvm.LawKit.callS X10 hx (y := (⟨"com/example/fieldglass/fieldglass/model/WireTypeForIdPinLaw", "expected", "(I)Lcom/example/fieldglass/fieldglass/model/WireType;"⟩ : MethodName)) hown (mvT hZ (hw _ (List.mem_of_getElem? (i := 11) rfl))) (mvT hZ (hw _ (List.mem_of_getElem? (i := 12) rfl))) (mvT hZ (hw _ (List.mem_of_getElem? (i := 2) rfl))) (mvT hZ (hw _ (List.mem_of_getElem? (i := 13) rfl))) (by decide) (backOf (W := 1) (rm_xp1 l Z a0 hw [] w0 w1 w2 w3 w4 w5 h0 n0 Z0 H2_S H3_S H4_S H5_S H6_S H7_S) hZ (hw _ (List.mem_of_getElem? (i := 13) rfl)) (hw _ (List.mem_of_getElem? (i := 2) rfl)) (by decide) (by decide)) (g := (mkF m 7 #[.val (.int (1 : Int32)), .val (.ref w1)] [(.int (1 : Int32)), (.ref w1)])) rfl (by rw [hml]; rfl) (argsL := [(.int (1 : Int32))]) (rest := [(.ref w1)]) (lenOf pd_0 rfl) rfl (by show 2 * 0 + _ ≤ _; exact Nat.le_of_eq rfl) (hb hby d1_7) (fun _ _ => ⟨rfl, hq11, (by decide : 0 + 0 ≤ _), (by decide : 0 + 0 ≤ _)⟩)
      dsimp only [Pt.U, Pt.locs, Pt.cells, Pt.slots] at X12 l12 y12 z12 st12 hQ12
      subst l12 y12 z12
      obtain ⟨rfl, N12q, hq13⟩ := hQ12
      have N12 := Fr.app N10 N12q
      obtain ⟨cq14, kq14, q14a, q14b, q14c⟩ := isOf hZ hq13 H15_E
      obtain ⟨_, _, ⟨T14, L14, k14, n14⟩, -, X14, ⟨Lc14, hQ14, l14, y14, z14⟩, st14⟩ := X12.virtualBack hx (y := (⟨"com/example/fieldglass/fieldglass/model/WireType", "id", "()I"⟩ : MethodName)) (z := (⟨"com/example/fieldglass/fieldglass/model/WireType", "id", "()I"⟩ : MethodName)) hown (mvT hZ (hw _ (List.mem_of_getElem? (i := 15) rfl))) (mvT hZ (hw _ (List.mem_of_getElem? (i := 16) rfl))) (notFace_of_selects (args := #[]) (mvT hZ (hw _ (List.mem_of_getElem? (i := 18) rfl)))) (mvT hZ (hw _ (List.mem_of_getElem? (i := 18) rfl))) (mvT hZ (hw _ (List.mem_of_getElem? (i := 17) rfl))) (by decide) (backOf (W := 0) (rm_idc l Z a0 hw [] w1 (1 : Int32) h0 n0 Z0 H9_F) hZ (hw _ (List.mem_of_getElem? (i := 19) rfl)) (hw _ (List.mem_of_getElem? (i := 6) rfl)) (by decide) (by decide)) q14a q14c (g := (mkF m 20 #[.val (.int (1 : Int32)), .val (.ref w1)] [(.ref w1)])) rfl (by rw [hml]; rfl) (Steps.refl _) (argsL := []) (rest := []) (lenOf pd_1 rfl) rfl (by show 2 * 0 + _ ≤ _; exact Nat.le_of_eq rfl) (hb hby d1_20) (fun _ _ => ⟨rfl, hq13, (by decide : 0 + 0 ≤ _), (by decide : 0 + 0 ≤ _)⟩)
      dsimp only [Pt.U, Pt.locs, Pt.cells, Pt.slots] at X14 l14 y14 z14 st14 hQ14
      subst l14 y14 z14
      obtain ⟨rfl, N14q, hq15⟩ := hQ14
      have N14 := Fr.app N12 N14q
      have pre16 := fun (t : State) (k : Steps p.tables e below (T14.setTop (mkF m 30 #[.val (.int (1 : Int32)), .val (.ref w1)] [(.int (1 : Int32))])) t) => pre0 t (by
        refine XS.iloadN X0.here hx rfl (hb hby d1_0) rfl ?_
        show Steps p.tables e below (s₁.setTop (mkF m 1 #[.val (.int (1 : Int32)), .unset] [(.int (1 : Int32))])) _
        refine st10 _ ?_
        show Steps p.tables e below (T10.setTop (mkF m 4 #[.val (.int (1 : Int32)), .unset] [(.ref w1)])) _
        refine XS.astoreN X10.here hx rfl (hb hby d1_4) rfl rfl (l' := #[.val (.int (1 : Int32)), .val (.ref w1)]) rfl ?_
        show Steps p.tables e below (T10.setTop (mkF m 5 #[.val (.int (1 : Int32)), .val (.ref w1)] [])) _
        refine XS.aloadN X10.here hx rfl (hb hby d1_5) rfl rfl ?_
        show Steps p.tables e below (T10.setTop (mkF m 6 #[.val (.int (1 : Int32)), .val (.ref w1)] [(.ref w1)])) _
        refine XS.iloadN X10.here hx rfl (hb hby d1_6) rfl ?_
        show Steps p.tables e below (T10.setTop (mkF m 7 #[.val (.int (1 : Int32)), .val (.ref w1)] [(.int (1 : Int32)), (.ref w1)])) _
        refine st12 _ ?_
        show Steps p.tables e below (T12.setTop (mkF m 10 #[.val (.int (1 : Int32)), .val (.ref w1)] [(.ref w1), (.ref w1)])) _
        refine Jvm.RoadKit.acmp (g := (mkF m 10 #[.val (.int (1 : Int32)), .val (.ref w1)] [(.ref w1), (.ref w1)])) X12 hx rfl rfl rfl (pc0 := 10) (pc' := 15) (same := true) rfl (hb hby d1_10) rfl (decide_eq_true rfl) (by decide) (by decide) ?_
        show Steps p.tables e below (T12.setTop (mkF m 15 #[.val (.int (1 : Int32)), .val (.ref w1)] [])) _
        refine XS.aloadN X12.here hx rfl (hb hby d1_15) rfl rfl ?_
        show Steps p.tables e below (T12.setTop (mkF m 16 #[.val (.int (1 : Int32)), .val (.ref w1)] [(.ref w1)])) _
        refine XS.ifnullNo X12.here hx rfl (hb hby d1_16) rfl ?_
        show Steps p.tables e below (T12.setTop (mkF m 19 #[.val (.int (1 : Int32)), .val (.ref w1)] [])) _
        refine XS.aloadN X12.here hx rfl (hb hby d1_19) rfl rfl ?_
        show Steps p.tables e below (T12.setTop (mkF m 20 #[.val (.int (1 : Int32)), .val (.ref w1)] [(.ref w1)])) _
        refine st14.trans ?_
        show Steps p.tables e below (T14.setTop (mkF m 23 #[.val (.int (1 : Int32)), .val (.ref w1)] [(.int (1 : Int32))])) _
        refine XS.iloadN X14.here hx rfl (hb hby d1_23) rfl ?_
        show Steps p.tables e below (T14.setTop (mkF m 24 #[.val (.int (1 : Int32)), .val (.ref w1)] [(.int (1 : Int32)), (.int (1 : Int32))])) _
        refine XS.icmpYes X14.here hx rfl (pc0 := 24) (pc' := 29) rfl (hb hby d1_24) rfl (teq (by decide : (1 : Int32) = (1 : Int32))).1 (by decide) (by decide) ?_
        show Steps p.tables e below (T14.setTop (mkF m 29 #[.val (.int (1 : Int32)), .val (.ref w1)] [])) _
        refine XS.iconst X14.here hx rfl (hb hby d1_29) ?_
        show Steps p.tables e below (T14.setTop (mkF m 30 #[.val (.int (1 : Int32)), .val (.ref w1)] [(.int (1 : Int32))])) _
        exact k)
      obtain ⟨fs, hr, hrun, hended, hW, hsame⟩ := X14.leave (v := some (.int (1 : Int32))) (fun h => by rw [Bd.returns] at h; cases h)
      refine ⟨_, _, pre16 _ ?_, hrun, hended, _, _, rfl, ?_, ⟨_, rfl⟩, hW, hsame.mono (by decide) (by decide)⟩
      · exact retN X14 hx (t := .boolean) Bd.returns (by simp) (hb hby d1_30) hr
      · show Q_chk Z (1 : Int32) zb kb w0 w1 w2 w3 w4 w5 h0 n0 _ T14.heap _
        rw [hq15]
        exact ⟨rfl, N14, rfl⟩
    · by_cases hs17 : pp = (2 : Int32)
      · subst hs17
        obtain ⟨_, _, ⟨T18, L18, k18, n18⟩, -, X18, ⟨Lc18, hQ18, l18, y18, z18⟩, st18⟩ := Jvm.LawKit.callS X0 hx (y := (⟨"com/example/fieldglass/fieldglass/model/WireType", "forId", "(I)Lcom/example/fieldglass/fieldglass/model/WireType;"⟩ : MethodName)) hown (mvT hZ (hw _ (List.mem_of_getElem? (i := 4) rfl))) (mvT hZ (hw _ (List.mem_of_getElem? (i := 5) rfl))) (mvT hZ (hw _ (List.mem_of_getElem? (i := 6) rfl))) (mvT hZ (hw _ (List.mem_of_getElem? (i := 7) rfl))) (by decide) (backOf (W := 0) (rm_fo2 l Z a0 hw [] zb kb w0 w1 w2 w3 w4 w5 h0 n0 Z0 H0_S H1_A) hZ (hw _ (List.mem_of_getElem? (i := 7) rfl)) (hw _ (List.mem_of_getElem? (i := 6) rfl)) (by decide) (by decide)) (g := (mkF m 1 #[.val (.int (2 : Int32)), .unset] [(.int (2 : Int32))])) rfl (by rw [hml]; rfl) (argsL := [(.int (2 : Int32))]) (rest := []) (lenOf pd_0 rfl) rfl (by show 2 * 0 + _ ≤ _; exact Nat.le_of_eq rfl) (hb hby d1_1) (fun _ _ => ⟨rfl, e0, (by decide : 0 + 0 ≤ _), (by decide : 0 + 0 ≤ _)⟩)
        dsimp only [Pt.U, Pt.locs, Pt.cells, Pt.slots] at X18 l18 y18 z18 st18 hQ18
        subst l18 y18 z18
        obtain ⟨rfl, N18q, hq19⟩ := hQ18
        have N18 := Fr.app N0 N18q
        obtain ⟨_, _, ⟨T20, L20, k20, n20⟩, -, X20, ⟨Lc20, hQ20, l20, y20, z20⟩, st20⟩ := Jvm.LawKit.callS X18 hx (y := (⟨"com/example/fieldglass/fieldglass/model/WireTypeForIdPinLaw", "expected", "(I)Lcom/example/fieldglass/fieldglass/model/WireType;"⟩ : MethodName)) hown (mvT hZ (hw _ (List.mem_of_getElem? (i := 11) rfl))) (mvT hZ (hw _ (List.mem_of_getElem? (i := 12) rfl))) (mvT hZ (hw _ (List.mem_of_getElem? (i := 2) rfl))) (mvT hZ (hw _ (List.mem_of_getElem? (i := 13) rfl))) (by decide) (backOf (W := 1) (rm_xp2 l Z a0 hw [] w0 w1 w2 w3 w4 w5 h0 n0 Z0 H2_S H3_S H4_S H5_S H6_S H7_S) hZ (hw _ (List.mem_of_getElem? (i := 13) rfl)) (hw _ (List.mem_of_getElem? (i := 2) rfl)) (by decide) (by decide)) (g := (mkF m 7 #[.val (.int (2 : Int32)), .val (.ref w2)] [(.int (2 : Int32)), (.ref w2)])) rfl (by rw [hml]; rfl) (argsL := [(.int (2 : Int32))]) (rest := [(.ref w2)]) (lenOf pd_0 rfl) rfl (by show 2 * 0 + _ ≤ _; exact Nat.le_of_eq rfl) (hb hby d1_7) (fun _ _ => ⟨rfl, hq19, (by decide : 0 + 0 ≤ _), (by decide : 0 + 0 ≤ _)⟩)
        dsimp only [Pt.U, Pt.locs, Pt.cells, Pt.slots] at X20 l20 y20 z20 st20 hQ20
        subst l20 y20 z20
        obtain ⟨rfl, N20q, hq21⟩ := hQ20
        have N20 := Fr.app N18 N20q
        obtain ⟨cq22, kq22, q22a, q22b, q22c⟩ := isOf hZ hq21 H16_E
        obtain ⟨_, _, ⟨T22, L22, k22, n22⟩, -, X22, ⟨Lc22, hQ22, l22, y22, z22⟩, st22⟩ := X20.virtualBack hx (y := (⟨"com/example/fieldglass/fieldglass/model/WireType", "id", "()I"⟩ : MethodName)) (z := (⟨"com/example/fieldglass/fieldglass/model/WireType", "id", "()I"⟩ : MethodName)) hown (mvT hZ (hw _ (List.mem_of_getElem? (i := 15) rfl))) (mvT hZ (hw _ (List.mem_of_getElem? (i := 16) rfl))) (notFace_of_selects (args := #[]) (mvT hZ (hw _ (List.mem_of_getElem? (i := 18) rfl)))) (mvT hZ (hw _ (List.mem_of_getElem? (i := 18) rfl))) (mvT hZ (hw _ (List.mem_of_getElem? (i := 17) rfl))) (by decide) (backOf (W := 0) (rm_idc l Z a0 hw [] w2 (2 : Int32) h0 n0 Z0 H10_F) hZ (hw _ (List.mem_of_getElem? (i := 19) rfl)) (hw _ (List.mem_of_getElem? (i := 6) rfl)) (by decide) (by decide)) q22a q22c (g := (mkF m 20 #[.val (.int (2 : Int32)), .val (.ref w2)] [(.ref w2)])) rfl (by rw [hml]; rfl) (Steps.refl _) (argsL := []) (rest := []) (lenOf pd_1 rfl) rfl (by show 2 * 0 + _ ≤ _; exact Nat.le_of_eq rfl) (hb hby d1_20) (fun _ _ => ⟨rfl, hq21, (by decide : 0 + 0 ≤ _), (by decide : 0 + 0 ≤ _)⟩)
        dsimp only [Pt.U, Pt.locs, Pt.cells, Pt.slots] at X22 l22 y22 z22 st22 hQ22
        subst l22 y22 z22
        obtain ⟨rfl, N22q, hq23⟩ := hQ22
        have N22 := Fr.app N20 N22q
        have pre24 := fun (t : State) (k : Steps p.tables e below (T22.setTop (mkF m 30 #[.val (.int (2 : Int32)), .val (.ref w2)] [(.int (1 : Int32))])) t) => pre0 t (by
          refine XS.iloadN X0.here hx rfl (hb hby d1_0) rfl ?_
          show Steps p.tables e below (s₁.setTop (mkF m 1 #[.val (.int (2 : Int32)), .unset] [(.int (2 : Int32))])) _
          refine st18 _ ?_
          show Steps p.tables e below (T18.setTop (mkF m 4 #[.val (.int (2 : Int32)), .unset] [(.ref w2)])) _
          refine XS.astoreN X18.here hx rfl (hb hby d1_4) rfl rfl (l' := #[.val (.int (2 : Int32)), .val (.ref w2)]) rfl ?_
          show Steps p.tables e below (T18.setTop (mkF m 5 #[.val (.int (2 : Int32)), .val (.ref w2)] [])) _
          refine XS.aloadN X18.here hx rfl (hb hby d1_5) rfl rfl ?_
          show Steps p.tables e below (T18.setTop (mkF m 6 #[.val (.int (2 : Int32)), .val (.ref w2)] [(.ref w2)])) _
          refine XS.iloadN X18.here hx rfl (hb hby d1_6) rfl ?_
          show Steps p.tables e below (T18.setTop (mkF m 7 #[.val (.int (2 : Int32)), .val (.ref w2)] [(.int (2 : Int32)), (.ref w2)])) _
          refine st20 _ ?_
          show Steps p.tables e below (T20.setTop (mkF m 10 #[.val (.int (2 : Int32)), .val (.ref w2)] [(.ref w2), (.ref w2)])) _
          refine Jvm.RoadKit.acmp (g := (mkF m 10 #[.val (.int (2 : Int32)), .val (.ref w2)] [(.ref w2), (.ref w2)])) X20 hx rfl rfl rfl (pc0 := 10) (pc' := 15) (same := true) rfl (hb hby d1_10) rfl (decide_eq_true rfl) (by decide) (by decide) ?_
          show Steps p.tables e below (T20.setTop (mkF m 15 #[.val (.int (2 : Int32)), .val (.ref w2)] [])) _
          refine XS.aloadN X20.here hx rfl (hb hby d1_15) rfl rfl ?_
          show Steps p.tables e below (T20.setTop (mkF m 16 #[.val (.int (2 : Int32)), .val (.ref w2)] [(.ref w2)])) _
          refine XS.ifnullNo X20.here hx rfl (hb hby d1_16) rfl ?_
          show Steps p.tables e below (T20.setTop (mkF m 19 #[.val (.int (2 : Int32)), .val (.ref w2)] [])) _
          refine XS.aloadN X20.here hx rfl (hb hby d1_19) rfl rfl ?_
          show Steps p.tables e below (T20.setTop (mkF m 20 #[.val (.int (2 : Int32)), .val (.ref w2)] [(.ref w2)])) _
          refine st22.trans ?_
          show Steps p.tables e below (T22.setTop (mkF m 23 #[.val (.int (2 : Int32)), .val (.ref w2)] [(.int (2 : Int32))])) _
          refine XS.iloadN X22.here hx rfl (hb hby d1_23) rfl ?_
          show Steps p.tables e below (T22.setTop (mkF m 24 #[.val (.int (2 : Int32)), .val (.ref w2)] [(.int (2 : Int32)), (.int (2 : Int32))])) _
          refine XS.icmpYes X22.here hx rfl (pc0 := 24) (pc' := 29) rfl (hb hby d1_24) rfl (teq (by decide : (2 : Int32) = (2 : Int32))).1 (by decide) (by decide) ?_
          show Steps p.tables e below (T22.setTop (mkF m 29 #[.val (.int (2 : Int32)), .val (.ref w2)] [])) _
          refine XS.iconst X22.here hx rfl (hb hby d1_29) ?_
          show Steps p.tables e below (T22.setTop (mkF m 30 #[.val (.int (2 : Int32)), .val (.ref w2)] [(.int (1 : Int32))])) _
          exact k)
        obtain ⟨fs, hr, hrun, hended, hW, hsame⟩ := X22.leave (v := some (.int (1 : Int32))) (fun h => by rw [Bd.returns] at h; cases h)
        refine ⟨_, _, pre24 _ ?_, hrun, hended, _, _, rfl, ?_, ⟨_, rfl⟩, hW, hsame.mono (by decide) (by decide)⟩
        · exact retN X22 hx (t := .boolean) Bd.returns (by simp) (hb hby d1_30) hr
        · show Q_chk Z (2 : Int32) zb kb w0 w1 w2 w3 w4 w5 h0 n0 _ T22.heap _
          rw [hq23]
          exact ⟨rfl, N22, rfl⟩
      · by_cases hs25 : pp = (3 : Int32)
        · subst hs25
          obtain ⟨_, _, ⟨T26, L26, k26, n26⟩, -, X26, ⟨Lc26, hQ26, l26, y26, z26⟩, st26⟩ := Jvm.LawKit.callS X0 hx (y := (⟨"com/example/fieldglass/fieldglass/model/WireType", "forId", "(I)Lcom/example/fieldglass/fieldglass/model/WireType;"⟩ : MethodName)) hown (mvT hZ (hw _ (List.mem_of_getElem? (i := 4) rfl))) (mvT hZ (hw _ (List.mem_of_getElem? (i := 5) rfl))) (mvT hZ (hw _ (List.mem_of_getElem? (i := 6) rfl))) (mvT hZ (hw _ (List.mem_of_getElem? (i := 7) rfl))) (by decide) (backOf (W := 0) (rm_fo3 l Z a0 hw [] zb kb w0 w1 w2 w3 w4 w5 h0 n0 Z0 H0_S H1_A) hZ (hw _ (List.mem_of_getElem? (i := 7) rfl)) (hw _ (List.mem_of_getElem? (i := 6) rfl)) (by decide) (by decide)) (g := (mkF m 1 #[.val (.int (3 : Int32)), .unset] [(.int (3 : Int32))])) rfl (by rw [hml]; rfl) (argsL := [(.int (3 : Int32))]) (rest := []) (lenOf pd_0 rfl) rfl (by show 2 * 0 + _ ≤ _; exact Nat.le_of_eq rfl) (hb hby d1_1) (fun _ _ => ⟨rfl, e0, (by decide : 0 + 0 ≤ _), (by decide : 0 + 0 ≤ _)⟩)
          dsimp only [Pt.U, Pt.locs, Pt.cells, Pt.slots] at X26 l26 y26 z26 st26 hQ26
          subst l26 y26 z26
          obtain ⟨rfl, N26q, hq27⟩ := hQ26
          have N26 := Fr.app N0 N26q
          obtain ⟨_, _, ⟨T28, L28, k28, n28⟩, -, X28, ⟨Lc28, hQ28, l28, y28, z28⟩, st28⟩ := Jvm.LawKit.callS X26 hx (y := (⟨"com/example/fieldglass/fieldglass/model/WireTypeForIdPinLaw", "expected", "(I)Lcom/example/fieldglass/fieldglass/model/WireType;"⟩ : MethodName)) hown (mvT hZ (hw _ (List.mem_of_getElem? (i := 11) rfl))) (mvT hZ (hw _ (List.mem_of_getElem? (i := 12) rfl))) (mvT hZ (hw _ (List.mem_of_getElem? (i := 2) rfl))) (mvT hZ (hw _ (List.mem_of_getElem? (i := 13) rfl))) (by decide) (backOf (W := 1) (rm_xp3 l Z a0 hw [] w0 w1 w2 w3 w4 w5 h0 n0 Z0 H2_S H3_S H4_S H5_S H6_S H7_S) hZ (hw _ (List.mem_of_getElem? (i := 13) rfl)) (hw _ (List.mem_of_getElem? (i := 2) rfl)) (by decide) (by decide)) (g := (mkF m 7 #[.val (.int (3 : Int32)), .val (.ref w3)] [(.int (3 : Int32)), (.ref w3)])) rfl (by rw [hml]; rfl) (argsL := [(.int (3 : Int32))]) (rest := [(.ref w3)]) (lenOf pd_0 rfl) rfl (by show 2 * 0 + _ ≤ _; exact Nat.le_of_eq rfl) (hb hby d1_7) (fun _ _ => ⟨rfl, hq27, (by decide : 0 + 0 ≤ _), (by decide : 0 + 0 ≤ _)⟩)
          dsimp only [Pt.U, Pt.locs, Pt.cells, Pt.slots] at X28 l28 y28 z28 st28 hQ28
          subst l28 y28 z28
          obtain ⟨rfl, N28q, hq29⟩ := hQ28
          have N28 := Fr.app N26 N28q
          obtain ⟨cq30, kq30, q30a, q30b, q30c⟩ := isOf hZ hq29 H17_E
          obtain ⟨_, _, ⟨T30, L30, k30, n30⟩, -, X30, ⟨Lc30, hQ30, l30, y30, z30⟩, st30⟩ := X28.virtualBack hx (y := (⟨"com/example/fieldglass/fieldglass/model/WireType", "id", "()I"⟩ : MethodName)) (z := (⟨"com/example/fieldglass/fieldglass/model/WireType", "id", "()I"⟩ : MethodName)) hown (mvT hZ (hw _ (List.mem_of_getElem? (i := 15) rfl))) (mvT hZ (hw _ (List.mem_of_getElem? (i := 16) rfl))) (notFace_of_selects (args := #[]) (mvT hZ (hw _ (List.mem_of_getElem? (i := 18) rfl)))) (mvT hZ (hw _ (List.mem_of_getElem? (i := 18) rfl))) (mvT hZ (hw _ (List.mem_of_getElem? (i := 17) rfl))) (by decide) (backOf (W := 0) (rm_idc l Z a0 hw [] w3 (3 : Int32) h0 n0 Z0 H11_F) hZ (hw _ (List.mem_of_getElem? (i := 19) rfl)) (hw _ (List.mem_of_getElem? (i := 6) rfl)) (by decide) (by decide)) q30a q30c (g := (mkF m 20 #[.val (.int (3 : Int32)), .val (.ref w3)] [(.ref w3)])) rfl (by rw [hml]; rfl) (Steps.refl _) (argsL := []) (rest := []) (lenOf pd_1 rfl) rfl (by show 2 * 0 + _ ≤ _; exact Nat.le_of_eq rfl) (hb hby d1_20) (fun _ _ => ⟨rfl, hq29, (by decide : 0 + 0 ≤ _), (by decide : 0 + 0 ≤ _)⟩)
          dsimp only [Pt.U, Pt.locs, Pt.cells, Pt.slots] at X30 l30 y30 z30 st30 hQ30
          subst l30 y30 z30
          obtain ⟨rfl, N30q, hq31⟩ := hQ30
          have N30 := Fr.app N28 N30q
          have pre32 := fun (t : State) (k : Steps p.tables e below (T30.setTop (mkF m 30 #[.val (.int (3 : Int32)), .val (.ref w3)] [(.int (1 : Int32))])) t) => pre0 t (by
            refine XS.iloadN X0.here hx rfl (hb hby d1_0) rfl ?_
            show Steps p.tables e below (s₁.setTop (mkF m 1 #[.val (.int (3 : Int32)), .unset] [(.int (3 : Int32))])) _
            refine st26 _ ?_
            show Steps p.tables e below (T26.setTop (mkF m 4 #[.val (.int (3 : Int32)), .unset] [(.ref w3)])) _
            refine XS.astoreN X26.here hx rfl (hb hby d1_4) rfl rfl (l' := #[.val (.int (3 : Int32)), .val (.ref w3)]) rfl ?_
            show Steps p.tables e below (T26.setTop (mkF m 5 #[.val (.int (3 : Int32)), .val (.ref w3)] [])) _
            refine XS.aloadN X26.here hx rfl (hb hby d1_5) rfl rfl ?_
            show Steps p.tables e below (T26.setTop (mkF m 6 #[.val (.int (3 : Int32)), .val (.ref w3)] [(.ref w3)])) _
            refine XS.iloadN X26.here hx rfl (hb hby d1_6) rfl ?_
            show Steps p.tables e below (T26.setTop (mkF m 7 #[.val (.int (3 : Int32)), .val (.ref w3)] [(.int (3 : Int32)), (.ref w3)])) _
            refine st28 _ ?_
            show Steps p.tables e below (T28.setTop (mkF m 10 #[.val (.int (3 : Int32)), .val (.ref w3)] [(.ref w3), (.ref w3)])) _
            refine Jvm.RoadKit.acmp (g := (mkF m 10 #[.val (.int (3 : Int32)), .val (.ref w3)] [(.ref w3), (.ref w3)])) X28 hx rfl rfl rfl (pc0 := 10) (pc' := 15) (same := true) rfl (hb hby d1_10) rfl (decide_eq_true rfl) (by decide) (by decide) ?_
            show Steps p.tables e below (T28.setTop (mkF m 15 #[.val (.int (3 : Int32)), .val (.ref w3)] [])) _
            refine XS.aloadN X28.here hx rfl (hb hby d1_15) rfl rfl ?_
            show Steps p.tables e below (T28.setTop (mkF m 16 #[.val (.int (3 : Int32)), .val (.ref w3)] [(.ref w3)])) _
            refine XS.ifnullNo X28.here hx rfl (hb hby d1_16) rfl ?_
            show Steps p.tables e below (T28.setTop (mkF m 19 #[.val (.int (3 : Int32)), .val (.ref w3)] [])) _
            refine XS.aloadN X28.here hx rfl (hb hby d1_19) rfl rfl ?_
            show Steps p.tables e below (T28.setTop (mkF m 20 #[.val (.int (3 : Int32)), .val (.ref w3)] [(.ref w3)])) _
            refine st30.trans ?_
            show Steps p.tables e below (T30.setTop (mkF m 23 #[.val (.int (3 : Int32)), .val (.ref w3)] [(.int (3 : Int32))])) _
            refine XS.iloadN X30.here hx rfl (hb hby d1_23) rfl ?_
            show Steps p.tables e below (T30.setTop (mkF m 24 #[.val (.int (3 : Int32)), .val (.ref w3)] [(.int (3 : Int32)), (.int (3 : Int32))])) _
            refine XS.icmpYes X30.here hx rfl (pc0 := 24) (pc' := 29) rfl (hb hby d1_24) rfl (teq (by decide : (3 : Int32) = (3 : Int32))).1 (by decide) (by decide) ?_
            show Steps p.tables e below (T30.setTop (mkF m 29 #[.val (.int (3 : Int32)), .val (.ref w3)] [])) _
            refine XS.iconst X30.here hx rfl (hb hby d1_29) ?_
            show Steps p.tables e below (T30.setTop (mkF m 30 #[.val (.int (3 : Int32)), .val (.ref w3)] [(.int (1 : Int32))])) _
            exact k)
          obtain ⟨fs, hr, hrun, hended, hW, hsame⟩ := X30.leave (v := some (.int (1 : Int32))) (fun h => by rw [Bd.returns] at h; cases h)
          refine ⟨_, _, pre32 _ ?_, hrun, hended, _, _, rfl, ?_, ⟨_, rfl⟩, hW, hsame.mono (by decide) (by decide)⟩
          · exact retN X30 hx (t := .boolean) Bd.returns (by simp) (hb hby d1_30) hr
          · show Q_chk Z (3 : Int32) zb kb w0 w1 w2 w3 w4 w5 h0 n0 _ T30.heap _
            rw [hq31]
            exact ⟨rfl, N30, rfl⟩
        · by_cases hs33 : pp = (4 : Int32)
          · subst hs33
            obtain ⟨_, _, ⟨T34, L34, k34, n34⟩, -, X34, ⟨Lc34, hQ34, l34, y34, z34⟩, st34⟩ := Jvm.LawKit.callS X0 hx (y := (⟨"com/example/fieldglass/fieldglass/model/WireType", "forId", "(I)Lcom/example/fieldglass/fieldglass/model/WireType;"⟩ : MethodName)) hown (mvT hZ (hw _ (List.mem_of_getElem? (i := 4) rfl))) (mvT hZ (hw _ (List.mem_of_getElem? (i := 5) rfl))) (mvT hZ (hw _ (List.mem_of_getElem? (i := 6) rfl))) (mvT hZ (hw _ (List.mem_of_getElem? (i := 7) rfl))) (by decide) (backOf (W := 0) (rm_fo4 l Z a0 hw [] zb kb w0 w1 w2 w3 w4 w5 h0 n0 Z0 H0_S H1_A) hZ (hw _ (List.mem_of_getElem? (i := 7) rfl)) (hw _ (List.mem_of_getElem? (i := 6) rfl)) (by decide) (by decide)) (g := (mkF m 1 #[.val (.int (4 : Int32)), .unset] [(.int (4 : Int32))])) rfl (by rw [hml]; rfl) (argsL := [(.int (4 : Int32))]) (rest := []) (lenOf pd_0 rfl) rfl (by show 2 * 0 + _ ≤ _; exact Nat.le_of_eq rfl) (hb hby d1_1) (fun _ _ => ⟨rfl, e0, (by decide : 0 + 0 ≤ _), (by decide : 0 + 0 ≤ _)⟩)
            dsimp only [Pt.U, Pt.locs, Pt.cells, Pt.slots] at X34 l34 y34 z34 st34 hQ34
            subst l34 y34 z34
            obtain ⟨rfl, N34q, hq35⟩ := hQ34
            have N34 := Fr.app N0 N34q
            obtain ⟨_, _, ⟨T36, L36, k36, n36⟩, -, X36, ⟨Lc36, hQ36, l36, y36, z36⟩, st36⟩ := Jvm.LawKit.callS X34 hx (y := (⟨"com/example/fieldglass/fieldglass/model/WireTypeForIdPinLaw", "expected", "(I)Lcom/example/fieldglass/fieldglass/model/WireType;"⟩ : MethodName)) hown (mvT hZ (hw _ (List.mem_of_getElem? (i := 11) rfl))) (mvT hZ (hw _ (List.mem_of_getElem? (i := 12) rfl))) (mvT hZ (hw _ (List.mem_of_getElem? (i := 2) rfl))) (mvT hZ (hw _ (List.mem_of_getElem? (i := 13) rfl))) (by decide) (backOf (W := 1) (rm_xp4 l Z a0 hw [] w0 w1 w2 w3 w4 w5 h0 n0 Z0 H2_S H3_S H4_S H5_S H6_S H7_S) hZ (hw _ (List.mem_of_getElem? (i := 13) rfl)) (hw _ (List.mem_of_getElem? (i := 2) rfl)) (by decide) (by decide)) (g := (mkF m 7 #[.val (.int (4 : Int32)), .val (.ref w4)] [(.int (4 : Int32)), (.ref w4)])) rfl (by rw [hml]; rfl) (argsL := [(.int (4 : Int32))]) (rest := [(.ref w4)]) (lenOf pd_0 rfl) rfl (by show 2 * 0 + _ ≤ _; exact Nat.le_of_eq rfl) (hb hby d1_7) (fun _ _ => ⟨rfl, hq35, (by decide : 0 + 0 ≤ _), (by decide : 0 + 0 ≤ _)⟩)
            dsimp only [Pt.U, Pt.locs, Pt.cells, Pt.slots] at X36 l36 y36 z36 st36 hQ36
            subst l36 y36 z36
            obtain ⟨rfl, N36q, hq37⟩ := hQ36
            have N36 := Fr.app N34 N36q
            obtain ⟨cq38, kq38, q38a, q38b, q38c⟩ := isOf hZ hq37 H18_E
            obtain ⟨_, _, ⟨T38, L38, k38, n38⟩, -, X38, ⟨Lc38, hQ38, l38, y38, z38⟩, st38⟩ := X36.virtualBack hx (y := (⟨"com/example/fieldglass/fieldglass/model/WireType", "id", "()I"⟩ : MethodName)) (z := (⟨"com/example/fieldglass/fieldglass/model/WireType", "id", "()I"⟩ : MethodName)) hown (mvT hZ (hw _ (List.mem_of_getElem? (i := 15) rfl))) (mvT hZ (hw _ (List.mem_of_getElem? (i := 16) rfl))) (notFace_of_selects (args := #[]) (mvT hZ (hw _ (List.mem_of_getElem? (i := 18) rfl)))) (mvT hZ (hw _ (List.mem_of_getElem? (i := 18) rfl))) (mvT hZ (hw _ (List.mem_of_getElem? (i := 17) rfl))) (by decide) (backOf (W := 0) (rm_idc l Z a0 hw [] w4 (4 : Int32) h0 n0 Z0 H12_F) hZ (hw _ (List.mem_of_getElem? (i := 19) rfl)) (hw _ (List.mem_of_getElem? (i := 6) rfl)) (by decide) (by decide)) q38a q38c (g := (mkF m 20 #[.val (.int (4 : Int32)), .val (.ref w4)] [(.ref w4)])) rfl (by rw [hml]; rfl) (Steps.refl _) (argsL := []) (rest := []) (lenOf pd_1 rfl) rfl (by show 2 * 0 + _ ≤ _; exact Nat.le_of_eq rfl) (hb hby d1_20) (fun _ _ => ⟨rfl, hq37, (by decide : 0 + 0 ≤ _), (by decide : 0 + 0 ≤ _)⟩)
            dsimp only [Pt.U, Pt.locs, Pt.cells, Pt.slots] at X38 l38 y38 z38 st38 hQ38
            subst l38 y38 z38
            obtain ⟨rfl, N38q, hq39⟩ := hQ38
            have N38 := Fr.app N36 N38q
            have pre40 := fun (t : State) (k : Steps p.tables e below (T38.setTop (mkF m 30 #[.val (.int (4 : Int32)), .val (.ref w4)] [(.int (1 : Int32))])) t) => pre0 t (by
              refine XS.iloadN X0.here hx rfl (hb hby d1_0) rfl ?_
              show Steps p.tables e below (s₁.setTop (mkF m 1 #[.val (.int (4 : Int32)), .unset] [(.int (4 : Int32))])) _
              refine st34 _ ?_
              show Steps p.tables e below (T34.setTop (mkF m 4 #[.val (.int (4 : Int32)), .unset] [(.ref w4)])) _
              refine XS.astoreN X34.here hx rfl (hb hby d1_4) rfl rfl (l' := #[.val (.int (4 : Int32)), .val (.ref w4)]) rfl ?_
              show Steps p.tables e below (T34.setTop (mkF m 5 #[.val (.int (4 : Int32)), .val (.ref w4)] [])) _
              refine XS.aloadN X34.here hx rfl (hb hby d1_5) rfl rfl ?_
              show Steps p.tables e below (T34.setTop (mkF m 6 #[.val (.int (4 : Int32)), .val (.ref w4)] [(.ref w4)])) _
              refine XS.iloadN X34.here hx rfl (hb hby d1_6) rfl ?_
              show Steps p.tables e below (T34.setTop (mkF m 7 #[.val (.int (4 : Int32)), .val (.ref w4)] [(.int (4 : Int32)), (.ref w4)])) _
              refine st36 _ ?_
              show Steps p.tables e below (T36.setTop (mkF m 10 #[.val (.int (4 : Int32)), .val (.ref w4)] [(.ref w4), (.ref w4)])) _
              refine Jvm.RoadKit.acmp (g := (mkF m 10 #[.val (.int (4 : Int32)), .val (.ref w4)] [(.ref w4), (.ref w4)])) X36 hx rfl rfl rfl (pc0 := 10) (pc' := 15) (same := true) rfl (hb hby d1_10) rfl (decide_eq_true rfl) (by decide) (by decide) ?_
              show Steps p.tables e below (T36.setTop (mkF m 15 #[.val (.int (4 : Int32)), .val (.ref w4)] [])) _
              refine XS.aloadN X36.here hx rfl (hb hby d1_15) rfl rfl ?_
              show Steps p.tables e below (T36.setTop (mkF m 16 #[.val (.int (4 : Int32)), .val (.ref w4)] [(.ref w4)])) _
              refine XS.ifnullNo X36.here hx rfl (hb hby d1_16) rfl ?_
              show Steps p.tables e below (T36.setTop (mkF m 19 #[.val (.int (4 : Int32)), .val (.ref w4)] [])) _
              refine XS.aloadN X36.here hx rfl (hb hby d1_19) rfl rfl ?_
              show Steps p.tables e below (T36.setTop (mkF m 20 #[.val (.int (4 : Int32)), .val (.ref w4)] [(.ref w4)])) _
              refine st38.trans ?_
              show Steps p.tables e below (T38.setTop (mkF m 23 #[.val (.int (4 : Int32)), .val (.ref w4)] [(.int (4 : Int32))])) _
              refine XS.iloadN X38.here hx rfl (hb hby d1_23) rfl ?_
              show Steps p.tables e below (T38.setTop (mkF m 24 #[.val (.int (4 : Int32)), .val (.ref w4)] [(.int (4 : Int32)), (.int (4 : Int32))])) _
              refine XS.icmpYes X38.here hx rfl (pc0 := 24) (pc' := 29) rfl (hb hby d1_24) rfl (teq (by decide : (4 : Int32) = (4 : Int32))).1 (by decide) (by decide) ?_
              show Steps p.tables e below (T38.setTop (mkF m 29 #[.val (.int (4 : Int32)), .val (.ref w4)] [])) _
              refine XS.iconst X38.here hx rfl (hb hby d1_29) ?_
              show Steps p.tables e below (T38.setTop (mkF m 30 #[.val (.int (4 : Int32)), .val (.ref w4)] [(.int (1 : Int32))])) _
              exact k)
            obtain ⟨fs, hr, hrun, hended, hW, hsame⟩ := X38.leave (v := some (.int (1 : Int32))) (fun h => by rw [Bd.returns] at h; cases h)
            refine ⟨_, _, pre40 _ ?_, hrun, hended, _, _, rfl, ?_, ⟨_, rfl⟩, hW, hsame.mono (by decide) (by decide)⟩
            · exact retN X38 hx (t := .boolean) Bd.returns (by simp) (hb hby d1_30) hr
            · show Q_chk Z (4 : Int32) zb kb w0 w1 w2 w3 w4 w5 h0 n0 _ T38.heap _
              rw [hq39]
              exact ⟨rfl, N38, rfl⟩
          · by_cases hs41 : pp = (5 : Int32)
            · subst hs41
              obtain ⟨_, _, ⟨T42, L42, k42, n42⟩, -, X42, ⟨Lc42, hQ42, l42, y42, z42⟩, st42⟩ := Jvm.LawKit.callS X0 hx (y := (⟨"com/example/fieldglass/fieldglass/model/WireType", "forId", "(I)Lcom/example/fieldglass/fieldglass/model/WireType;"⟩ : MethodName)) hown (mvT hZ (hw _ (List.mem_of_getElem? (i := 4) rfl))) (mvT hZ (hw _ (List.mem_of_getElem? (i := 5) rfl))) (mvT hZ (hw _ (List.mem_of_getElem? (i := 6) rfl))) (mvT hZ (hw _ (List.mem_of_getElem? (i := 7) rfl))) (by decide) (backOf (W := 0) (rm_fo5 l Z a0 hw [] zb kb w0 w1 w2 w3 w4 w5 h0 n0 Z0 H0_S H1_A) hZ (hw _ (List.mem_of_getElem? (i := 7) rfl)) (hw _ (List.mem_of_getElem? (i := 6) rfl)) (by decide) (by decide)) (g := (mkF m 1 #[.val (.int (5 : Int32)), .unset] [(.int (5 : Int32))])) rfl (by rw [hml]; rfl) (argsL := [(.int (5 : Int32))]) (rest := []) (lenOf pd_0 rfl) rfl (by show 2 * 0 + _ ≤ _; exact Nat.le_of_eq rfl) (hb hby d1_1) (fun _ _ => ⟨rfl, e0, (by decide : 0 + 0 ≤ _), (by decide : 0 + 0 ≤ _)⟩)
              dsimp only [Pt.U, Pt.locs, Pt.cells, Pt.slots] at X42 l42 y42 z42 st42 hQ42
              subst l42 y42 z42
              obtain ⟨rfl, N42q, hq43⟩ := hQ42
              have N42 := Fr.app N0 N42q
              obtain ⟨_, _, ⟨T44, L44, k44, n44⟩, -, X44, ⟨Lc44, hQ44, l44, y44, z44⟩, st44⟩ := Jvm.LawKit.callS X42 hx (y := (⟨"com/example/fieldglass/fieldglass/model/WireTypeForIdPinLaw", "expected", "(I)Lcom/example/fieldglass/fieldglass/model/WireType;"⟩ : MethodName)) hown (mvT hZ (hw _ (List.mem_of_getElem? (i := 11) rfl))) (mvT hZ (hw _ (List.mem_of_getElem? (i := 12) rfl))) (mvT hZ (hw _ (List.mem_of_getElem? (i := 2) rfl))) (mvT hZ (hw _ (List.mem_of_getElem? (i := 13) rfl))) (by decide) (backOf (W := 1) (rm_xp5 l Z a0 hw [] w0 w1 w2 w3 w4 w5 h0 n0 Z0 H2_S H3_S H4_S H5_S H6_S H7_S) hZ (hw _ (List.mem_of_getElem? (i := 13) rfl)) (hw _ (List.mem_of_getElem? (i := 2) rfl)) (by decide) (by decide)) (g := (mkF m 7 #[.val (.int (5 : Int32)), .val (.ref w5)] [(.int (5 : Int32)), (.ref w5)])) rfl (by rw [hml]; rfl) (argsL := [(.int (5 : Int32))]) (rest := [(.ref w5)]) (lenOf pd_0 rfl) rfl (by show 2 * 0 + _ ≤ _; exact Nat.le_of_eq rfl) (hb hby d1_7) (fun _ _ => ⟨rfl, hq43, (by decide : 0 + 0 ≤ _), (by decide : 0 + 0 ≤ _)⟩)
              dsimp only [Pt.U, Pt.locs, Pt.cells, Pt.slots] at X44 l44 y44 z44 st44 hQ44
              subst l44 y44 z44
              obtain ⟨rfl, N44q, hq45⟩ := hQ44
              have N44 := Fr.app N42 N44q
              obtain ⟨cq46, kq46, q46a, q46b, q46c⟩ := isOf hZ hq45 H19_E
              obtain ⟨_, _, ⟨T46, L46, k46, n46⟩, -, X46, ⟨Lc46, hQ46, l46, y46, z46⟩, st46⟩ := X44.virtualBack hx (y := (⟨"com/example/fieldglass/fieldglass/model/WireType", "id", "()I"⟩ : MethodName)) (z := (⟨"com/example/fieldglass/fieldglass/model/WireType", "id", "()I"⟩ : MethodName)) hown (mvT hZ (hw _ (List.mem_of_getElem? (i := 15) rfl))) (mvT hZ (hw _ (List.mem_of_getElem? (i := 16) rfl))) (notFace_of_selects (args := #[]) (mvT hZ (hw _ (List.mem_of_getElem? (i := 18) rfl)))) (mvT hZ (hw _ (List.mem_of_getElem? (i := 18) rfl))) (mvT hZ (hw _ (List.mem_of_getElem? (i := 17) rfl))) (by decide) (backOf (W := 0) (rm_idc l Z a0 hw [] w5 (5 : Int32) h0 n0 Z0 H13_F) hZ (hw _ (List.mem_of_getElem? (i := 19) rfl)) (hw _ (List.mem_of_getElem? (i := 6) rfl)) (by decide) (by decide)) q46a q46c (g := (mkF m 20 #[.val (.int (5 : Int32)), .val (.ref w5)] [(.ref w5)])) rfl (by rw [hml]; rfl) (Steps.refl _) (argsL := []) (rest := []) (lenOf pd_1 rfl) rfl (by show 2 * 0 + _ ≤ _; exact Nat.le_of_eq rfl) (hb hby d1_20) (fun _ _ => ⟨rfl, hq45, (by decide : 0 + 0 ≤ _), (by decide : 0 + 0 ≤ _)⟩)
              dsimp only [Pt.U, Pt.locs, Pt.cells, Pt.slots] at X46 l46 y46 z46 st46 hQ46
              subst l46 y46 z46
              obtain ⟨rfl, N46q, hq47⟩ := hQ46
              have N46 := Fr.app N44 N46q
              have pre48 := fun (t : State) (k : Steps p.tables e below (T46.setTop (mkF m 30 #[.val (.int (5 : Int32)), .val (.ref w5)] [(.int (1 : Int32))])) t) => pre0 t (by
                refine XS.iloadN X0.here hx rfl (hb hby d1_0) rfl ?_
                show Steps p.tables e below (s₁.setTop (mkF m 1 #[.val (.int (5 : Int32)), .unset] [(.int (5 : Int32))])) _
                refine st42 _ ?_
                show Steps p.tables e below (T42.setTop (mkF m 4 #[.val (.int (5 : Int32)), .unset] [(.ref w5)])) _
                refine XS.astoreN X42.here hx rfl (hb hby d1_4) rfl rfl (l' := #[.val (.int (5 : Int32)), .val (.ref w5)]) rfl ?_
                show Steps p.tables e below (T42.setTop (mkF m 5 #[.val (.int (5 : Int32)), .val (.ref w5)] [])) _
                refine XS.aloadN X42.here hx rfl (hb hby d1_5) rfl rfl ?_
                show Steps p.tables e below (T42.setTop (mkF m 6 #[.val (.int (5 : Int32)), .val (.ref w5)] [(.ref w5)])) _
                refine XS.iloadN X42.here hx rfl (hb hby d1_6) rfl ?_
                show Steps p.tables e below (T42.setTop (mkF m 7 #[.val (.int (5 : Int32)), .val (.ref w5)] [(.int (5 : Int32)), (.ref w5)])) _
                refine st44 _ ?_
                show Steps p.tables e below (T44.setTop (mkF m 10 #[.val (.int (5 : Int32)), .val (.ref w5)] [(.ref w5), (.ref w5)])) _
                refine Jvm.RoadKit.acmp (g := (mkF m 10 #[.val (.int (5 : Int32)), .val (.ref w5)] [(.ref w5), (.ref w5)])) X44 hx rfl rfl rfl (pc0 := 10) (pc' := 15) (same := true) rfl (hb hby d1_10) rfl (decide_eq_true rfl) (by decide) (by decide) ?_
                show Steps p.tables e below (T44.setTop (mkF m 15 #[.val (.int (5 : Int32)), .val (.ref w5)] [])) _
                refine XS.aloadN X44.here hx rfl (hb hby d1_15) rfl rfl ?_
                show Steps p.tables e below (T44.setTop (mkF m 16 #[.val (.int (5 : Int32)), .val (.ref w5)] [(.ref w5)])) _
                refine XS.ifnullNo X44.here hx rfl (hb hby d1_16) rfl ?_
                show Steps p.tables e below (T44.setTop (mkF m 19 #[.val (.int (5 : Int32)), .val (.ref w5)] [])) _
                refine XS.aloadN X44.here hx rfl (hb hby d1_19) rfl rfl ?_
                show Steps p.tables e below (T44.setTop (mkF m 20 #[.val (.int (5 : Int32)), .val (.ref w5)] [(.ref w5)])) _
                refine st46.trans ?_
                show Steps p.tables e below (T46.setTop (mkF m 23 #[.val (.int (5 : Int32)), .val (.ref w5)] [(.int (5 : Int32))])) _
                refine XS.iloadN X46.here hx rfl (hb hby d1_23) rfl ?_
                show Steps p.tables e below (T46.setTop (mkF m 24 #[.val (.int (5 : Int32)), .val (.ref w5)] [(.int (5 : Int32)), (.int (5 : Int32))])) _
                refine XS.icmpYes X46.here hx rfl (pc0 := 24) (pc' := 29) rfl (hb hby d1_24) rfl (teq (by decide : (5 : Int32) = (5 : Int32))).1 (by decide) (by decide) ?_
                show Steps p.tables e below (T46.setTop (mkF m 29 #[.val (.int (5 : Int32)), .val (.ref w5)] [])) _
                refine XS.iconst X46.here hx rfl (hb hby d1_29) ?_
                show Steps p.tables e below (T46.setTop (mkF m 30 #[.val (.int (5 : Int32)), .val (.ref w5)] [(.int (1 : Int32))])) _
                exact k)
              obtain ⟨fs, hr, hrun, hended, hW, hsame⟩ := X46.leave (v := some (.int (1 : Int32))) (fun h => by rw [Bd.returns] at h; cases h)
              refine ⟨_, _, pre48 _ ?_, hrun, hended, _, _, rfl, ?_, ⟨_, rfl⟩, hW, hsame.mono (by decide) (by decide)⟩
              · exact retN X46 hx (t := .boolean) Bd.returns (by simp) (hb hby d1_30) hr
              · show Q_chk Z (5 : Int32) zb kb w0 w1 w2 w3 w4 w5 h0 n0 _ T46.heap _
                rw [hq47]
                exact ⟨rfl, N46, rfl⟩
            · obtain ⟨_, _, ⟨T49, L49, k49, n49⟩, -, X49, ⟨Lc49, hQ49, l49, y49, z49⟩, st49⟩ := Jvm.LawKit.callS X0 hx (y := (⟨"com/example/fieldglass/fieldglass/model/WireType", "forId", "(I)Lcom/example/fieldglass/fieldglass/model/WireType;"⟩ : MethodName)) hown (mvT hZ (hw _ (List.mem_of_getElem? (i := 4) rfl))) (mvT hZ (hw _ (List.mem_of_getElem? (i := 5) rfl))) (mvT hZ (hw _ (List.mem_of_getElem? (i := 6) rfl))) (mvT hZ (hw _ (List.mem_of_getElem? (i := 7) rfl))) (by decide) (backOf (W := 0) (rm_foN l Z a0 hw [] pp zb kb w0 w1 w2 w3 w4 w5 h0 n0 Z0 H0_S H1_A (own_out hs1 hs9 hs17 hs25 hs33 hs41)) hZ (hw _ (List.mem_of_getElem? (i := 7) rfl)) (hw _ (List.mem_of_getElem? (i := 6) rfl)) (by decide) (by decide)) (g := (mkF m 1 #[.val (.int pp), .unset] [(.int pp)])) rfl (by rw [hml]; rfl) (argsL := [(.int pp)]) (rest := []) (lenOf pd_0 rfl) rfl (by show 2 * 0 + _ ≤ _; exact Nat.le_of_eq rfl) (hb hby d1_1) (fun _ _ => ⟨rfl, e0, (by decide : 0 + 0 ≤ _), (by decide : 0 + 0 ≤ _)⟩)
              dsimp only [Pt.U, Pt.locs, Pt.cells, Pt.slots] at X49 l49 y49 z49 st49 hQ49
              subst l49 y49 z49
              obtain ⟨rfl, N49q, hq50⟩ := hQ49
              have N49 := Fr.app N0 N49q
              obtain ⟨_, _, ⟨T51, L51, k51, n51⟩, -, X51, ⟨Lc51, hQ51, l51, y51, z51⟩, st51⟩ := Jvm.LawKit.callS X49 hx (y := (⟨"com/example/fieldglass/fieldglass/model/WireTypeForIdPinLaw", "expected", "(I)Lcom/example/fieldglass/fieldglass/model/WireType;"⟩ : MethodName)) hown (mvT hZ (hw _ (List.mem_of_getElem? (i := 11) rfl))) (mvT hZ (hw _ (List.mem_of_getElem? (i := 12) rfl))) (mvT hZ (hw _ (List.mem_of_getElem? (i := 2) rfl))) (mvT hZ (hw _ (List.mem_of_getElem? (i := 13) rfl))) (by decide) (backOf (W := 1) (rm_xpN l Z a0 hw [] pp w0 w1 w2 w3 w4 w5 h0 n0 Z0 H2_S H3_S H4_S H5_S H6_S H7_S hs1 hs9 hs17 hs25 hs33 hs41) hZ (hw _ (List.mem_of_getElem? (i := 13) rfl)) (hw _ (List.mem_of_getElem? (i := 2) rfl)) (by decide) (by decide)) (g := (mkF m 7 #[.val (.int pp), .val .null] [(.int pp), .null])) rfl (by rw [hml]; rfl) (argsL := [(.int pp)]) (rest := [.null]) (lenOf pd_0 rfl) rfl (by show 2 * 0 + _ ≤ _; exact Nat.le_of_eq rfl) (hb hby d1_7) (fun _ _ => ⟨rfl, hq50, (by decide : 0 + 0 ≤ _), (by decide : 0 + 0 ≤ _)⟩)
              dsimp only [Pt.U, Pt.locs, Pt.cells, Pt.slots] at X51 l51 y51 z51 st51 hQ51
              subst l51 y51 z51
              obtain ⟨rfl, N51q, hq52⟩ := hQ51
              have N51 := Fr.app N49 N51q
              have pre53 := fun (t : State) (k : Steps p.tables e below (T51.setTop (mkF m 30 #[.val (.int pp), .val .null] [(.int (1 : Int32))])) t) => pre0 t (by
                refine XS.iloadN X0.here hx rfl (hb hby d1_0) rfl ?_
                show Steps p.tables e below (s₁.setTop (mkF m 1 #[.val (.int pp), .unset] [(.int pp)])) _
                refine st49 _ ?_
                show Steps p.tables e below (T49.setTop (mkF m 4 #[.val (.int pp), .unset] [.null])) _
                refine XS.astoreN X49.here hx rfl (hb hby d1_4) rfl rfl (l' := #[.val (.int pp), .val .null]) rfl ?_
                show Steps p.tables e below (T49.setTop (mkF m 5 #[.val (.int pp), .val .null] [])) _
                refine XS.aloadN X49.here hx rfl (hb hby d1_5) rfl rfl ?_
                show Steps p.tables e below (T49.setTop (mkF m 6 #[.val (.int pp), .val .null] [.null])) _
                refine XS.iloadN X49.here hx rfl (hb hby d1_6) rfl ?_
                show Steps p.tables e below (T49.setTop (mkF m 7 #[.val (.int pp), .val .null] [(.int pp), .null])) _
                refine st51 _ ?_
                show Steps p.tables e below (T51.setTop (mkF m 10 #[.val (.int pp), .val .null] [.null, .null])) _
                refine Jvm.RoadKit.acmp (g := (mkF m 10 #[.val (.int pp), .val .null] [.null, .null])) X51 hx rfl rfl rfl (pc0 := 10) (pc' := 15) (same := true) rfl (hb hby d1_10) rfl (decide_eq_true rfl) (by decide) (by decide) ?_
                show Steps p.tables e below (T51.setTop (mkF m 15 #[.val (.int pp), .val .null] [])) _
                refine XS.aloadN X51.here hx rfl (hb hby d1_15) rfl rfl ?_
                show Steps p.tables e below (T51.setTop (mkF m 16 #[.val (.int pp), .val .null] [.null])) _
                refine XS.ifnullYes X51.here hx rfl (pc0 := 16) (pc' := 29) rfl (hb hby d1_16) rfl (by decide) (by decide) ?_
                show Steps p.tables e below (T51.setTop (mkF m 29 #[.val (.int pp), .val .null] [])) _
                refine XS.iconst X51.here hx rfl (hb hby d1_29) ?_
                show Steps p.tables e below (T51.setTop (mkF m 30 #[.val (.int pp), .val .null] [(.int (1 : Int32))])) _
                exact k)
              obtain ⟨fs, hr, hrun, hended, hW, hsame⟩ := X51.leave (v := some (.int (1 : Int32))) (fun h => by rw [Bd.returns] at h; cases h)
              refine ⟨_, _, pre53 _ ?_, hrun, hended, _, _, rfl, ?_, ⟨_, rfl⟩, hW, hsame.mono (by decide) (by decide)⟩
              · exact retN X51 hx (t := .boolean) Bd.returns (by simp) (hb hby d1_30) hr
              · show Q_chk Z pp zb kb w0 w1 w2 w3 w4 w5 h0 n0 _ T51.heap _
                rw [hq52]
                exact ⟨rfl, N51, rfl⟩

theorem ef_law (m : MethodId) (x0 : Int32) (x1 : Int32) : entryFrame m #[(.int x0), (.int x1)] maxLocals = mkF m 0 #[.val (.int x0), .val (.int x1)] [] := by first | (simp [entryFrame, mkF, argsToLocals, Value.category, maxLocals]; done) | rfl
def Q_law (Z : State) (p1 : Int32) (p2 : Int32) (zb : Addr) (kb : ClassId) (w0 : Addr) (w1 : Addr) (w2 : Addr) (w3 : Addr) (w4 : Addr) (w5 : Addr) (h0 : Heap) (n0 : Nat) (v : Option Value) (h : Heap) (L : List Loc) : Prop := v = some (.int (1 : Int32)) ∧ Fr n0 L ∧ h = h0
set_option maxRecDepth 65536 in
set_option maxHeartbeats 40000000 in
theorem rm_law (l : Launch) (Z : State) (a0 : Array Value) (hw : ∀ d ∈ tables_1, d.before a0 Z = true) (ws : List Jvm.Cond) (p1 : Int32) (p2 : Int32) (zb : Addr) (kb : ClassId) (w0 : Addr) (w1 : Addr) (w2 : Addr) (w3 : Addr) (w4 : Addr) (w5 : Addr) (h0 : Heap) (n0 : Nat) (Z0 : n0 ≤ h0.size) (H0_S : Sta Z h0 "com/example/fieldglass/fieldglass/model/WireType" "BY_ID" "[Lcom/example/fieldglass/fieldglass/model/WireType;" (.ref zb)) (H1_A : Arv Z h0 zb kb (.object "com/example/fieldglass/fieldglass/model/WireType") (6 : Int32) [(.ref w0), (.ref w1), (.ref w2), (.ref w3), (.ref w4), (.ref w5)] .null) (H2_S : Sta Z h0 "com/example/fieldglass/fieldglass/model/WireType" "VARINT" "Lcom/example/fieldglass/fieldglass/model/WireType;" (.ref w0)) (H3_S : Sta Z h0 "com/example/fieldglass/fieldglass/model/WireType" "FIXED64" "Lcom/example/fieldglass/fieldglass/model/WireType;" (.ref w1)) (H4_S : Sta Z h0 "com/example/fieldglass/fieldglass/model/WireType" "LENGTH_DELIMITED" "Lcom/example/fieldglass/fieldglass/model/WireType;" (.ref w2)) (H5_S : Sta Z h0 "com/example/fieldglass/fieldglass/model/WireType" "START_GROUP" "Lcom/example/fieldglass/fieldglass/model/WireType;" (.ref w3)) (H6_S : Sta Z h0 "com/example/fieldglass/fieldglass/model/WireType" "END_GROUP" "Lcom/example/fieldglass/fieldglass/model/WireType;" (.ref w4)) (H7_S : Sta Z h0 "com/example/fieldglass/fieldglass/model/WireType" "FIXED32" "Lcom/example/fieldglass/fieldglass/model/WireType;" (.ref w5)) (H8_F : Fld Z h0 w0 "com/example/fieldglass/fieldglass/model/WireType" "id" "I" (.int (0 : Int32))) (H9_F : Fld Z h0 w1 "com/example/fieldglass/fieldglass/model/WireType" "id" "I" (.int (1 : Int32))) (H10_F : Fld Z h0 w2 "com/example/fieldglass/fieldglass/model/WireType" "id" "I" (.int (2 : Int32))) (H11_F : Fld Z h0 w3 "com/example/fieldglass/fieldglass/model/WireType" "id" "I" (.int (3 : Int32))) (H12_F : Fld Z h0 w4 "com/example/fieldglass/fieldglass/model/WireType" "id" "I" (.int (4 : Int32))) (H13_F : Fld Z h0 w5 "com/example/fieldglass/fieldglass/model/WireType" "id" "I" (.int (5 : Int32))) (H14_E : Exa Z h0 w0 "com/example/fieldglass/fieldglass/model/WireType") (H15_E : Exa Z h0 w1 "com/example/fieldglass/fieldglass/model/WireType") (H16_E : Exa Z h0 w2 "com/example/fieldglass/fieldglass/model/WireType") (H17_E : Exa Z h0 w3 "com/example/fieldglass/fieldglass/model/WireType") (H18_E : Exa Z h0 w4 "com/example/fieldglass/fieldglass/model/WireType") (H19_E : Exa Z h0 w5 "com/example/fieldglass/fieldglass/model/WireType") :
    MetFree l x (head1 (Jvm.Cond.code x code maxLocals ret :: ws) room_1) (fun as_ U_ => as_ = #[(.int p1), (.int p2)] ∧ Z.Warmed39 U_.vm ∧ U_.heap = h0) (fun _ _ _ _ _ => True) (fun _ U o U' => ∃ v L, o = .returned v ∧ Q_law Z p1 p2 zb kb w0 w1 w2 w3 w4 w5 h0 n0 v U'.heap L ∧ FrameEnd U o U' L 0 0) := by
  refine MetFree.of_bodySF (plainFor_of_name pn_1) hisR ?_
  intro p e s m args below meth c s₁ Bd hml0 hP hK
  obtain ⟨rfl, hZ, hh⟩ := hP
  have hx := Bd.exec
  have hby := Bd.bytes
  have hml : c.maxLocals = 2 := hml0
  have hown : s.vm.findClass "com/example/fieldglass/fieldglass/model/WireTypeForIdPinLaw" = some m.cls := findClass_of_methodNamed Bd.named
  have hnm := (name_of_methodNamed Bd.named Bd.method).1
  have X0 : Stand p l e room_1 s m #[(.int p1), (.int p2)] below meth c s₁ [] 0 0 := Stand.of_body Bd
  have e0 : s₁.heap = h0 := by rw [← hh, Bd.state]; rfl
  have N0 := Fr.nil n0
  have pre0 : ∀ t, Steps p.tables e below (s₁.setTop (mkF m 0 #[.val (.int p1), .val (.int p2)] [])) t → Steps p.tables e below (s₁.setTop (entryFrame m #[(.int p1), (.int p2)] maxLocals)) t := fun t k => castTop (ef_law m p1 p2) k
  obtain ⟨_, _, ⟨T1, L1, k1, n1⟩, -, X1, ⟨Lc1, hQ1, l1, y1, z1⟩, st1⟩ := Jvm.LawKit.callS X0 hx (y := (⟨"com/example/fieldglass/fieldglass/model/WireTypeForIdPinLaw", "check", "(I)Z"⟩ : MethodName)) hown (mvT hZ (hw _ (List.mem_of_getElem? (i := 0) rfl))) (mvT hZ (hw _ (List.mem_of_getElem? (i := 1) rfl))) (mvT hZ (hw _ (List.mem_of_getElem? (i := 2) rfl))) (mvT hZ (hw _ (List.mem_of_getElem? (i := 3) rfl))) (by decide) (backOf (W := 0) (rm_chk l Z a0 hw [] (p1 &&& (7 : Int32)) zb kb w0 w1 w2 w3 w4 w5 h0 n0 Z0 H0_S H1_A H2_S H3_S H4_S H5_S H6_S H7_S H8_F H9_F H10_F H11_F H12_F H13_F H14_E H15_E H16_E H17_E H18_E H19_E) hZ (hw _ (List.mem_of_getElem? (i := 3) rfl)) (hw _ (List.mem_of_getElem? (i := 2) rfl)) (by decide) (by decide)) (g := (mkF m 4 #[.val (.int p1), .val (.int p2)] [(.int (p1 &&& (7 : Int32)))])) rfl (by rw [hml]; rfl) (argsL := [(.int (p1 &&& (7 : Int32)))]) (rest := []) (lenOf pd_2 rfl) rfl (by show 2 * 0 + _ ≤ _; exact Nat.le_of_eq rfl) (hb hby at_4) (fun _ _ => ⟨rfl, e0, (by decide : 0 + 0 ≤ _), (by decide : 0 + 0 ≤ _)⟩)
  dsimp only [Pt.U, Pt.locs, Pt.cells, Pt.slots] at X1 l1 y1 z1 st1 hQ1
  subst l1 y1 z1
  obtain ⟨rfl, N1q, hq2⟩ := hQ1
  have N1 := Fr.app N0 N1q
  obtain ⟨_, _, ⟨T3, L3, k3, n3⟩, -, X3, ⟨Lc3, hQ3, l3, y3, z3⟩, st3⟩ := Jvm.LawKit.callS X1 hx (y := (⟨"com/example/fieldglass/fieldglass/model/WireTypeForIdPinLaw", "check", "(I)Z"⟩ : MethodName)) hown (mvT hZ (hw _ (List.mem_of_getElem? (i := 0) rfl))) (mvT hZ (hw _ (List.mem_of_getElem? (i := 1) rfl))) (mvT hZ (hw _ (List.mem_of_getElem? (i := 2) rfl))) (mvT hZ (hw _ (List.mem_of_getElem? (i := 3) rfl))) (by decide) (backOf (W := 0) (rm_chk l Z a0 hw [] p2 zb kb w0 w1 w2 w3 w4 w5 h0 n0 Z0 H0_S H1_A H2_S H3_S H4_S H5_S H6_S H7_S H8_F H9_F H10_F H11_F H12_F H13_F H14_E H15_E H16_E H17_E H18_E H19_E) hZ (hw _ (List.mem_of_getElem? (i := 3) rfl)) (hw _ (List.mem_of_getElem? (i := 2) rfl)) (by decide) (by decide)) (g := (mkF m 11 #[.val (.int p1), .val (.int p2)] [(.int p2)])) rfl (by rw [hml]; rfl) (argsL := [(.int p2)]) (rest := []) (lenOf pd_2 rfl) rfl (by show 2 * 0 + _ ≤ _; exact Nat.le_of_eq rfl) (hb hby at_11) (fun _ _ => ⟨rfl, hq2, (by decide : 0 + 0 ≤ _), (by decide : 0 + 0 ≤ _)⟩)
  dsimp only [Pt.U, Pt.locs, Pt.cells, Pt.slots] at X3 l3 y3 z3 st3 hQ3
  subst l3 y3 z3
  obtain ⟨rfl, N3q, hq4⟩ := hQ3
  have N3 := Fr.app N1 N3q
  have pre5 := fun (t : State) (k : Steps p.tables e below (T3.setTop (mkF m 22 #[.val (.int p1), .val (.int p2)] [(.int (1 : Int32))])) t) => pre0 t (by
    refine XS.iloadN X0.here hx rfl (hb hby at_0) rfl ?_
    show Steps p.tables e below (s₁.setTop (mkF m 1 #[.val (.int p1), .val (.int p2)] [(.int p1)])) _
    refine XS.bipush X0.here hx rfl (hb hby at_1) ?_
    show Steps p.tables e below (s₁.setTop (mkF m 3 #[.val (.int p1), .val (.int p2)] [(.int (7 : Int32)), (.int p1)])) _
    refine XS.iand X0.here hx rfl (hb hby at_3) rfl ?_
    show Steps p.tables e below (s₁.setTop (mkF m 4 #[.val (.int p1), .val (.int p2)] [(.int (p1 &&& (7 : Int32)))])) _
    refine st1 _ ?_
    show Steps p.tables e below (T1.setTop (mkF m 7 #[.val (.int p1), .val (.int p2)] [(.int (1 : Int32))])) _
    refine XS.ifNo X1.here hx rfl (hb hby at_7) rfl ((if0 _ _).trans (feq (by decide : ¬ ((1 : Int32) = (0 : Int32)))).1) ?_
    show Steps p.tables e below (T1.setTop (mkF m 10 #[.val (.int p1), .val (.int p2)] [])) _
    refine XS.iloadN X1.here hx rfl (hb hby at_10) rfl ?_
    show Steps p.tables e below (T1.setTop (mkF m 11 #[.val (.int p1), .val (.int p2)] [(.int p2)])) _
    refine st3 _ ?_
    show Steps p.tables e below (T3.setTop (mkF m 14 #[.val (.int p1), .val (.int p2)] [(.int (1 : Int32))])) _
    refine XS.ifNo X3.here hx rfl (hb hby at_14) rfl ((if0 _ _).trans (feq (by decide : ¬ ((1 : Int32) = (0 : Int32)))).1) ?_
    show Steps p.tables e below (T3.setTop (mkF m 17 #[.val (.int p1), .val (.int p2)] [])) _
    refine XS.iconst X3.here hx rfl (hb hby at_17) ?_
    show Steps p.tables e below (T3.setTop (mkF m 18 #[.val (.int p1), .val (.int p2)] [(.int (1 : Int32))])) _
    refine XS.goto X3.here hx rfl (pc0 := 18) (pc' := 22) rfl (hb hby at_18) (by decide) (by decide) ?_
    show Steps p.tables e below (T3.setTop (mkF m 22 #[.val (.int p1), .val (.int p2)] [(.int (1 : Int32))])) _
    exact k)
  obtain ⟨fs, hr, hrun, hended, hW, hsame⟩ := X3.leave (v := some (.int (1 : Int32))) (fun h => by rw [Bd.returns] at h; cases h)
  refine ⟨_, _, pre5 _ ?_, hrun, hended, _, _, rfl, ?_, ⟨_, rfl⟩, hW, hsame.mono (by decide) (by decide)⟩
  · exact retN X3 hx (t := .boolean) Bd.returns (by simp) (hb hby at_22) hr
  · show Q_law Z p1 p2 zb kb w0 w1 w2 w3 w4 w5 h0 n0 _ T3.heap _
    rw [hq4]
    exact ⟨rfl, N3, rfl⟩

set_option maxRecDepth 65536 in
set_option maxHeartbeats 40000000 in
theorem comes_1 {Post : Tables → Env → Array Value → State → Outcome → State → Prop} (hpost : ∀ tb e args s v u, (limb_1_1.after args s (.returned v) u = true ∧ limb_1_2.after args s (.returned v) u = true ∧ True) → FrameEnd s (.returned v) u (Jvm.fieldLocs frame_1_writes args s ++ Jvm.arrayLocs frame_1_arrays args s ++ Jvm.staticLocs frame_1_statics s) 0 0 → Post tb e args s (.returned v) u) :
    ArmFor flags0 classFile x code maxLocals ret World_1 tables_1 room_1 Calls_1 rest_1 Pre_1 Post := by
  intro l hfl _ _ p e ha hc hk s m args below hf hA hF happ hP
  obtain ⟨hcalls, hrest, hpre⟩ := hP
  obtain ⟨-, -, -, hnamed, -, -, -, hat⟩ := (Spec.applies_iff hf).mp happ
  obtain ⟨hg, hn⟩ := and_e (Cond.before_iff.mp (show (Jvm.Cond.and given_1 narrow_1).before args s = true from hpre))
  obtain ⟨g1, g2⟩ := and_e hg
  obtain ⟨g3, g4⟩ := and_e g2
  obtain ⟨g5, g6⟩ := and_e hn
  obtain ⟨g7, g8⟩ := and_e g6
  obtain ⟨g9, g10⟩ := and_e g8
  obtain ⟨g11, g12⟩ := and_e g10
  obtain ⟨g13, g14⟩ := and_e g12
  obtain ⟨g15, g16⟩ := and_e g14
  obtain ⟨g17, g18⟩ := and_e g16
  obtain ⟨g19, g20⟩ := and_e g18
  obtain ⟨g21, g22⟩ := and_e g20
  obtain ⟨g23, g24⟩ := and_e g22
  obtain ⟨g25, g26⟩ := and_e g24
  obtain ⟨g27, g28⟩ := and_e g26
  obtain ⟨g29, g30⟩ := and_e g28
  obtain ⟨g31, g32⟩ := and_e g30
  obtain ⟨g33, g34⟩ := and_e g32
  obtain ⟨g35, g36⟩ := and_e g34
  obtain ⟨g37, g38⟩ := and_e g36
  obtain ⟨g39, g40⟩ := and_e g38
  obtain ⟨g41, g42⟩ := and_e g40
  obtain ⟨w0, w1, rfl⟩ : ∃ w0 w1 : Value, args = #[w0, w1] := by
    have hs : args.size = 2 := by simpa [Cond.value, given_1] using g1
    obtain ⟨L⟩ := args
    match L, hs with
    | [w0, w1], _ => exact ⟨w0, w1, rfl⟩
  have hw := fun d (hd : d ∈ tables_1) => atoms_spec (ws := Jvm.Cond.code x code maxLocals ret :: tables_1) hat d (List.mem_cons_of_mem _ hd)
  have hfit : Fit s := fun {y c} hc i hi => by
    obtain ⟨ha, rfl⟩ := Array.getElem?_eq_some_iff.mp hc
    have q := List.all_eq_true.mp ((Array.all_eq_true_iff_forall_mem.mp hF) _ (Array.getElem_mem ha)) i (List.mem_range.mpr hi)
    simpa [Array.getElem?_eq_getElem hi] using q
  obtain ⟨i0, ei0⟩ := is_v g3
  obtain rfl : w0 = (.int i0) := Option.some.inj ei0
  obtain ⟨i1, ei1⟩ := is_v g4
  obtain rfl : w1 = (.int i1) := Option.some.inj ei1
  obtain ⟨z_WireType_BY_ID, ez_WireType_BY_ID⟩ := arr_v g5
  have S_z_WireType_BY_ID := Sta.start (Z := s) ez_WireType_BY_ID (Or.inr ⟨(hw _ (List.mem_of_getElem? (i := 6) rfl)), (hw _ (List.mem_of_getElem? (i := 9) rfl))⟩)
  obtain ⟨z_WireType_VARINT, ez_WireType_VARINT⟩ := exa_v g9
  have S_z_WireType_VARINT := Sta.start (Z := s) ez_WireType_VARINT (Or.inr ⟨(hw _ (List.mem_of_getElem? (i := 6) rfl)), (hw _ (List.mem_of_getElem? (i := 10) rfl))⟩)
  have E_z_WireType_VARINT := Exa.start ez_WireType_VARINT g9
  obtain ⟨z_WireType_START_GROUP, ez_WireType_START_GROUP⟩ := exa_v g15
  have S_z_WireType_START_GROUP := Sta.start (Z := s) ez_WireType_START_GROUP (Or.inr ⟨(hw _ (List.mem_of_getElem? (i := 6) rfl)), (hw _ (List.mem_of_getElem? (i := 22) rfl))⟩)
  have E_z_WireType_START_GROUP := Exa.start ez_WireType_START_GROUP g15
  obtain ⟨z_WireType_FIXED64, ez_WireType_FIXED64⟩ := exa_v g21
  have S_z_WireType_FIXED64 := Sta.start (Z := s) ez_WireType_FIXED64 (Or.inr ⟨(hw _ (List.mem_of_getElem? (i := 6) rfl)), (hw _ (List.mem_of_getElem? (i := 24) rfl))⟩)
  have E_z_WireType_FIXED64 := Exa.start ez_WireType_FIXED64 g21
  obtain ⟨z_WireType_END_GROUP, ez_WireType_END_GROUP⟩ := exa_v g27
  have S_z_WireType_END_GROUP := Sta.start (Z := s) ez_WireType_END_GROUP (Or.inr ⟨(hw _ (List.mem_of_getElem? (i := 6) rfl)), (hw _ (List.mem_of_getElem? (i := 26) rfl))⟩)
  have E_z_WireType_END_GROUP := Exa.start ez_WireType_END_GROUP g27
  obtain ⟨z_WireType_FIXED32, ez_WireType_FIXED32⟩ := exa_v g33
  have S_z_WireType_FIXED32 := Sta.start (Z := s) ez_WireType_FIXED32 (Or.inr ⟨(hw _ (List.mem_of_getElem? (i := 6) rfl)), (hw _ (List.mem_of_getElem? (i := 28) rfl))⟩)
  have E_z_WireType_FIXED32 := Exa.start ez_WireType_FIXED32 g33
  obtain ⟨z_WireType_LENGTH_DELIMITED, ez_WireType_LENGTH_DELIMITED⟩ := exa_v g39
  have S_z_WireType_LENGTH_DELIMITED := Sta.start (Z := s) ez_WireType_LENGTH_DELIMITED (Or.inr ⟨(hw _ (List.mem_of_getElem? (i := 6) rfl)), (hw _ (List.mem_of_getElem? (i := 30) rfl))⟩)
  have E_z_WireType_LENGTH_DELIMITED := Exa.start ez_WireType_LENGTH_DELIMITED g39
  have F_z_WireType_VARINT_id := own_fld_eq ez_WireType_VARINT g13
  have F_z_WireType_START_GROUP_id := own_fld_eq ez_WireType_START_GROUP g19
  have F_z_WireType_FIXED64_id := own_fld_eq ez_WireType_FIXED64 g25
  have F_z_WireType_END_GROUP_id := own_fld_eq ez_WireType_END_GROUP g31
  have F_z_WireType_FIXED32_id := own_fld_eq ez_WireType_FIXED32 g37
  have F_z_WireType_LENGTH_DELIMITED_id := own_fld_eq ez_WireType_LENGTH_DELIMITED g42
  have ne_z_WireType_VARINT_z_WireType_START_GROUP : z_WireType_VARINT ≠ z_WireType_START_GROUP := Fld.ne F_z_WireType_VARINT_id F_z_WireType_START_GROUP_id (by simp)
  have ne_z_WireType_VARINT_z_WireType_FIXED64 : z_WireType_VARINT ≠ z_WireType_FIXED64 := Fld.ne F_z_WireType_VARINT_id F_z_WireType_FIXED64_id (by simp)
  have ne_z_WireType_VARINT_z_WireType_END_GROUP : z_WireType_VARINT ≠ z_WireType_END_GROUP := Fld.ne F_z_WireType_VARINT_id F_z_WireType_END_GROUP_id (by simp)
  have ne_z_WireType_VARINT_z_WireType_FIXED32 : z_WireType_VARINT ≠ z_WireType_FIXED32 := Fld.ne F_z_WireType_VARINT_id F_z_WireType_FIXED32_id (by simp)
  have ne_z_WireType_VARINT_z_WireType_LENGTH_DELIMITED : z_WireType_VARINT ≠ z_WireType_LENGTH_DELIMITED := Fld.ne F_z_WireType_VARINT_id F_z_WireType_LENGTH_DELIMITED_id (by simp)
  have ne_z_WireType_START_GROUP_z_WireType_FIXED64 : z_WireType_START_GROUP ≠ z_WireType_FIXED64 := Fld.ne F_z_WireType_START_GROUP_id F_z_WireType_FIXED64_id (by simp)
  have ne_z_WireType_START_GROUP_z_WireType_END_GROUP : z_WireType_START_GROUP ≠ z_WireType_END_GROUP := Fld.ne F_z_WireType_START_GROUP_id F_z_WireType_END_GROUP_id (by simp)
  have ne_z_WireType_START_GROUP_z_WireType_FIXED32 : z_WireType_START_GROUP ≠ z_WireType_FIXED32 := Fld.ne F_z_WireType_START_GROUP_id F_z_WireType_FIXED32_id (by simp)
  have ne_z_WireType_START_GROUP_z_WireType_LENGTH_DELIMITED : z_WireType_START_GROUP ≠ z_WireType_LENGTH_DELIMITED := Fld.ne F_z_WireType_START_GROUP_id F_z_WireType_LENGTH_DELIMITED_id (by simp)
  have ne_z_WireType_FIXED64_z_WireType_END_GROUP : z_WireType_FIXED64 ≠ z_WireType_END_GROUP := Fld.ne F_z_WireType_FIXED64_id F_z_WireType_END_GROUP_id (by simp)
  have ne_z_WireType_FIXED64_z_WireType_FIXED32 : z_WireType_FIXED64 ≠ z_WireType_FIXED32 := Fld.ne F_z_WireType_FIXED64_id F_z_WireType_FIXED32_id (by simp)
  have ne_z_WireType_FIXED64_z_WireType_LENGTH_DELIMITED : z_WireType_FIXED64 ≠ z_WireType_LENGTH_DELIMITED := Fld.ne F_z_WireType_FIXED64_id F_z_WireType_LENGTH_DELIMITED_id (by simp)
  have ne_z_WireType_END_GROUP_z_WireType_FIXED32 : z_WireType_END_GROUP ≠ z_WireType_FIXED32 := Fld.ne F_z_WireType_END_GROUP_id F_z_WireType_FIXED32_id (by simp)
  have ne_z_WireType_END_GROUP_z_WireType_LENGTH_DELIMITED : z_WireType_END_GROUP ≠ z_WireType_LENGTH_DELIMITED := Fld.ne F_z_WireType_END_GROUP_id F_z_WireType_LENGTH_DELIMITED_id (by simp)
  have ne_z_WireType_FIXED32_z_WireType_LENGTH_DELIMITED : z_WireType_FIXED32 ≠ z_WireType_LENGTH_DELIMITED := Fld.ne F_z_WireType_FIXED32_id F_z_WireType_LENGTH_DELIMITED_id (by simp)
  obtain ⟨cl, Acl⟩ := Arr.start ez_WireType_BY_ID g5
  obtain ⟨lq1, lq2⟩ := own_len ez_WireType_BY_ID Acl.1 g7
  have el0 : cl.slots[0]? = some (.ref z_WireType_VARINT) := own_elem ez_WireType_BY_ID ez_WireType_VARINT Acl.1 g11
  have el1 : cl.slots[1]? = some (.ref z_WireType_FIXED64) := own_elem ez_WireType_BY_ID ez_WireType_FIXED64 Acl.1 g23
  have el2 : cl.slots[2]? = some (.ref z_WireType_LENGTH_DELIMITED) := own_elem ez_WireType_BY_ID ez_WireType_LENGTH_DELIMITED Acl.1 g41
  have el3 : cl.slots[3]? = some (.ref z_WireType_START_GROUP) := own_elem ez_WireType_BY_ID ez_WireType_START_GROUP Acl.1 g17
  have el4 : cl.slots[4]? = some (.ref z_WireType_END_GROUP) := own_elem ez_WireType_BY_ID ez_WireType_END_GROUP Acl.1 g29
  have el5 : cl.slots[5]? = some (.ref z_WireType_FIXED32) := own_elem ez_WireType_BY_ID ez_WireType_FIXED32 Acl.1 g35
  have V_z_WireType_BY_ID : Arv s s.heap z_WireType_BY_ID cl.cls (.object "com/example/fieldglass/fieldglass/model/WireType") (6 : Int32) [(.ref z_WireType_VARINT), (.ref z_WireType_FIXED64), (.ref z_WireType_LENGTH_DELIMITED), (.ref z_WireType_START_GROUP), (.ref z_WireType_END_GROUP), (.ref z_WireType_FIXED32)] .null := Arv.start hfit Acl lq1 lq2 (by decide) (by rfl) ⟨el0, el1, el2, el3, el4, el5, trivial⟩
  obtain ⟨n, o, h1, h2, h3, _, L, rfl, ⟨rfl, N, -⟩, hq⟩ := rm_law l s _ hw tables_1 i0 i1 z_WireType_BY_ID cl.cls z_WireType_VARINT z_WireType_FIXED64 z_WireType_LENGTH_DELIMITED z_WireType_START_GROUP z_WireType_END_GROUP z_WireType_FIXED32 s.heap s.heap.size (Nat.le_refl _) S_z_WireType_BY_ID V_z_WireType_BY_ID S_z_WireType_VARINT S_z_WireType_FIXED64 S_z_WireType_LENGTH_DELIMITED S_z_WireType_START_GROUP S_z_WireType_END_GROUP S_z_WireType_FIXED32 F_z_WireType_VARINT_id F_z_WireType_FIXED64_id F_z_WireType_LENGTH_DELIMITED_id F_z_WireType_START_GROUP_id F_z_WireType_END_GROUP_id F_z_WireType_FIXED32_id E_z_WireType_VARINT E_z_WireType_FIXED64 E_z_WireType_LENGTH_DELIMITED E_z_WireType_START_GROUP E_z_WireType_END_GROUP E_z_WireType_FIXED32 p e ha hc hk s m _ below hf ((Spec.applies_iff_loose hf).mp happ).1 ⟨rfl, State.Warmed39.refl s, rfl⟩ trivial
  refine ⟨n, _, h1, h2, h3, hpost _ _ _ _ _ _ ⟨Cond.after_iff.mpr rfl, Cond.after_iff.mpr (eq_i res_at (Term.int_eval (1)) rfl), trivial⟩ ⟨hq.1, hq.2.1, (hq.2.2.sift fun y hy => Or.inr (N y hy)).mono (by decide) (by decide)⟩⟩
theorem main_1_1 : Claimed_1_1 := comes_1 fun _ _ _ _ _ _ h hF => ⟨h.1, hF⟩
theorem main_1_2 : Claimed_1_2 := comes_1 fun _ _ _ _ _ _ h hF => ⟨h.2.1, hF⟩
end Jvm.Pilot.@@N@@
namespace Jvm.Pilot.@@N@@
open Jvm Jvm.ClassFile Sem Op Lib Jvm.Free Jvm.Stand Jvm.Pilot.@@N@@.Jvm.D
/-! MADE BY PROGRAM (witnessworld.py) out of the Statement's table words and the real class files: 13 classes; the members and pool entries that the words name. The judged class is class 1, her method 3. -/
namespace start1
open Jvm.ClassFile
def u (s : String) : CpInfo := .utf8 (stringToUtf16 s)
/-- a pool by its gaps: so many unusable entries, then the entry; so many at the end -/
def gap : Nat → List CpInfo → List CpInfo
  | 0, r => r
  | n + 1, r => .unusable :: gap n r
def poolList (es : List (Nat × CpInfo)) (last : Nat) : List CpInfo := es.foldr (fun e r => gap e.1 (e.2 :: r)) (gap last [])
def pool (es : List (Nat × CpInfo)) (last : Nat) : Array CpInfo := ⟨poolList es last⟩
def fileOf (pool : Array CpInfo) (this : Nat) (attrs : Array Attribute := #[]) (ms : Array MethodInfo := #[]) (fl : Nat := 33) (sup : Nat := 0) (ifs : Array Nat := #[]) (fds : Array FieldInfo := #[]) : ClassFile where
  minorVersion := 0
  majorVersion := 65
  constantPool := pool
  accessFlags := fl
  thisClass := this
  superClass := sup
  interfaces := ifs
  fields := fds
  methods := ms
  attributes := attrs
def plain (name : String) (sup : Option ClassId) : Class where
  name := name
  kind := .ordinary
  loader := none
  accessFlags := 33
  super := sup
  interfaces := #[]
  cf := none
  fields := #[]
  methods := #[]
  instanceTypes := #[]
  staticTypes := #[]
  resolved := #[]
  callSites := []
  init := .initialized
  statics := none
  mirror := none

def pool0 : Array CpInfo := pool [(5, u "<init>"), (0, u "()V"), (1, .class_ 10), (1, u "java/lang/Object")] 113

def k0m0 : Method := { name := "<init>", desc := "()V", sig := { parameters := [], returnType := none }, accessFlags := 1, code := none }
/-- java/lang/Object -/
def k0 : Class := { plain "java/lang/Object" none with
  accessFlags := 33
  interfaces := #[]
  cf := some (fileOf pool0 8 #[] #[{ accessFlags := 1, nameIndex := 5, descriptorIndex := 6, attributes := #[] }] 33 0 #[] #[])
  fields := #[]
  methods := #[k0m0]
  instanceTypes := #[]
  staticTypes := #[]
  resolved := Array.replicate 124 none
  statics := none }

def pool1 : Array CpInfo := pool [(2, .class_ 4), (1, u "java/lang/Object"), (0, u "<init>"), (0, u "()V"), (0, .fieldref 8 9), (0, .class_ 10), (0, .nameAndType 11 12), (0, u "com/example/fieldglass/fieldglass/model/WireType"), (0, u "VARINT"), (0, u "Lcom/example/fieldglass/fieldglass/model/WireType;"), (0, .fieldref 8 14), (0, .nameAndType 15 12), (0, u "FIXED64"), (0, .fieldref 8 17), (0, .nameAndType 18 12), (0, u "LENGTH_DELIMITED"), (0, .fieldref 8 20), (0, .nameAndType 21 12), (0, u "START_GROUP"), (0, .fieldref 8 23), (0, .nameAndType 24 12), (0, u "END_GROUP"), (0, .fieldref 8 26), (0, .nameAndType 27 12), (0, u "FIXED32"), (0, .methodref 8 29), (0, .nameAndType 30 31), (0, u "forId"), (0, u "(I)Lcom/example/fieldglass/fieldglass/model/WireType;"), (0, .methodref 33 34), (0, .class_ 35), (0, .nameAndType 36 31), (0, u "com/example/fieldglass/fieldglass/model/WireTypeForIdPinLaw"), (0, u "expected"), (0, .methodref 8 38), (0, .nameAndType 39 40), (0, u "id"), (0, u "()I"), (0, .methodref 33 42), (0, .nameAndType 43 44), (0, u "check"), (0, u "(I)Z"), (3, u "law"), (0, u "(II)Z")] 2

def k1m0 : Method := { name := "<init>", desc := "()V", sig := { parameters := [], returnType := none }, accessFlags := 1, code := none }
def k1c1 : Code := { maxStack := 2, maxLocals := 1, code := method_2_code, exceptionTable := #[], attributes := #[] }
def k1m1 : Method := { name := "expected", desc := "(I)Lcom/example/fieldglass/fieldglass/model/WireType;", sig := { parameters := [.int], returnType := some (.object "com/example/fieldglass/fieldglass/model/WireType") }, accessFlags := 10, code := some k1c1 }
def k1c2 : Code := { maxStack := 2, maxLocals := 2, code := method_3_code, exceptionTable := #[], attributes := #[] }
def k1m2 : Method := { name := "check", desc := "(I)Z", sig := { parameters := [.int], returnType := some .boolean }, accessFlags := 10, code := some k1c2 }
def k1c3 : Code := { maxStack := 2, maxLocals := 2, code := code, exceptionTable := #[], attributes := #[] }
def k1m3 : Method := { name := "law", desc := "(II)Z", sig := { parameters := [.int, .int], returnType := some .boolean }, accessFlags := 9, code := some k1c3 }
/-- com/example/fieldglass/fieldglass/model/WireTypeForIdPinLaw -/
def k1 : Class := { plain "com/example/fieldglass/fieldglass/model/WireTypeForIdPinLaw" (some 0) with
  accessFlags := 49
  interfaces := #[]
  cf := some (fileOf pool1 33 #[] #[{ accessFlags := 1, nameIndex := 5, descriptorIndex := 6, attributes := #[] }, { accessFlags := 10, nameIndex := 36, descriptorIndex := 31, attributes := #[] }, { accessFlags := 10, nameIndex := 43, descriptorIndex := 44, attributes := #[] }, { accessFlags := 9, nameIndex := 48, descriptorIndex := 49, attributes := #[] }] 49 2 #[] #[])
  fields := #[]
  methods := #[k1m0, k1m1, k1m2, k1m3]
  instanceTypes := #[]
  staticTypes := #[]
  resolved := Array.replicate 52 none
  statics := none }

def pool2 : Array CpInfo := pool [(1, .class_ 2), (0, u "java/lang/constant/Constable"), (0, .class_ 4), (0, u "java/lang/Object")] 6

/-- java/lang/constant/Constable -/
def k2 : Class := { plain "java/lang/constant/Constable" (some 0) with
  accessFlags := 1537
  interfaces := #[]
  cf := some (fileOf pool2 1 #[] #[] 1537 3 #[] #[])
  fields := #[]
  methods := #[]
  instanceTypes := #[]
  staticTypes := #[]
  resolved := Array.replicate 11 none
  statics := none }

def pool3 : Array CpInfo := pool [(1, .class_ 2), (0, u "java/lang/Comparable"), (0, .class_ 4), (0, u "java/lang/Object")] 7

/-- java/lang/Comparable -/
def k3 : Class := { plain "java/lang/Comparable" (some 0) with
  accessFlags := 1537
  interfaces := #[]
  cf := some (fileOf pool3 1 #[] #[] 1537 3 #[] #[])
  fields := #[]
  methods := #[]
  instanceTypes := #[]
  staticTypes := #[]
  resolved := Array.replicate 12 none
  statics := none }

def pool4 : Array CpInfo := pool [(1, .class_ 2), (0, u "java/io/Serializable"), (0, .class_ 4), (0, u "java/lang/Object")] 2

/-- java/io/Serializable -/
def k4 : Class := { plain "java/io/Serializable" (some 0) with
  accessFlags := 1537
  interfaces := #[]
  cf := some (fileOf pool4 1 #[] #[] 1537 3 #[] #[])
  fields := #[]
  methods := #[]
  instanceTypes := #[]
  staticTypes := #[]
  resolved := Array.replicate 7 none
  statics := none }

def pool5 : Array CpInfo := pool [(2, .class_ 4), (1, u "java/lang/Enum"), (0, u "name"), (0, u "Ljava/lang/String;"), (2, u "ordinal"), (0, u "I"), (1, .class_ 14), (1, u "java/lang/Object"), (4, u "hash"), (86, .class_ 108), (1, u "java/lang/Enum$EnumDesc"), (2, .class_ 112), (0, u "java/lang/constant/Constable"), (0, .class_ 114), (0, u "java/lang/Comparable"), (0, .class_ 116), (0, u "java/io/Serializable")] 87

/-- java/lang/Enum -/
def k5 : Class := { plain "java/lang/Enum" (some 0) with
  accessFlags := 1057
  interfaces := #[2, 3, 4]
  cf := some (fileOf pool5 2 #[.nestMembers #[106]] #[] 1057 12 #[111, 113, 115] #[{ accessFlags := 18, nameIndex := 5, descriptorIndex := 6, attributes := #[] }, { accessFlags := 18, nameIndex := 9, descriptorIndex := 10, attributes := #[] }, { accessFlags := 2, nameIndex := 19, descriptorIndex := 10, attributes := #[] }])
  fields := #[{ name := "name", type := (.object "java/lang/String"), accessFlags := 18, slot := 0, constantValue := 0 }, { name := "ordinal", type := .int, accessFlags := 18, slot := 1, constantValue := 0 }, { name := "hash", type := .int, accessFlags := 2, slot := 2, constantValue := 0 }]
  methods := #[]
  instanceTypes := #[(.object "java/lang/String"), .int, .int]
  staticTypes := #[]
  resolved := Array.replicate 204 none
  statics := none }

def pool6 : Array CpInfo := pool [(1, .class_ 2), (0, u "com/example/fieldglass/fieldglass/model/WireType"), (2, u "VARINT"), (0, u "Lcom/example/fieldglass/fieldglass/model/WireType;"), (2, u "FIXED64"), (2, u "LENGTH_DELIMITED"), (2, u "START_GROUP"), (2, u "END_GROUP"), (2, u "FIXED32"), (2, u "$VALUES"), (0, u "[Lcom/example/fieldglass/fieldglass/model/WireType;"), (6, .class_ 34), (1, u "java/lang/Enum"), (6, .fieldref 1 42), (0, .nameAndType 43 44), (0, u "id"), (0, u "I"), (0, .fieldref 1 46), (0, .nameAndType 47 25), (0, u "BY_ID"), (22, u "()I"), (0, u "forId"), (0, u "(I)Lcom/example/fieldglass/fieldglass/model/WireType;")] 6

def k6c0 : Code := { maxStack := 1, maxLocals := 1, code := prog_21_method_4_code, exceptionTable := #[], attributes := #[] }
def k6m0 : Method := { name := "id", desc := "()I", sig := { parameters := [], returnType := some .int }, accessFlags := 1, code := some k6c0 }
def k6c1 : Code := { maxStack := 2, maxLocals := 1, code := prog_21_method_5_code, exceptionTable := #[], attributes := #[] }
def k6m1 : Method := { name := "forId", desc := "(I)Lcom/example/fieldglass/fieldglass/model/WireType;", sig := { parameters := [.int], returnType := some (.object "com/example/fieldglass/fieldglass/model/WireType") }, accessFlags := 9, code := some k6c1 }
/-- com/example/fieldglass/fieldglass/model/WireType -/
def k6 : Class := { plain "com/example/fieldglass/fieldglass/model/WireType" (some 5) with
  accessFlags := 16433
  interfaces := #[]
  cf := some (fileOf pool6 1 #[] #[{ accessFlags := 1, nameIndex := 43, descriptorIndex := 70, attributes := #[] }, { accessFlags := 9, nameIndex := 71, descriptorIndex := 72, attributes := #[] }] 16433 32 #[] #[{ accessFlags := 16409, nameIndex := 5, descriptorIndex := 6, attributes := #[] }, { accessFlags := 16409, nameIndex := 9, descriptorIndex := 6, attributes := #[] }, { accessFlags := 16409, nameIndex := 12, descriptorIndex := 6, attributes := #[] }, { accessFlags := 16409, nameIndex := 15, descriptorIndex := 6, attributes := #[] }, { accessFlags := 16409, nameIndex := 18, descriptorIndex := 6, attributes := #[] }, { accessFlags := 16409, nameIndex := 21, descriptorIndex := 6, attributes := #[] }, { accessFlags := 26, nameIndex := 47, descriptorIndex := 25, attributes := #[] }, { accessFlags := 18, nameIndex := 43, descriptorIndex := 44, attributes := #[] }, { accessFlags := 4122, nameIndex := 24, descriptorIndex := 25, attributes := #[] }])
  fields := #[{ name := "VARINT", type := (.object "com/example/fieldglass/fieldglass/model/WireType"), accessFlags := 16409, slot := 0, constantValue := 0 }, { name := "FIXED64", type := (.object "com/example/fieldglass/fieldglass/model/WireType"), accessFlags := 16409, slot := 1, constantValue := 0 }, { name := "LENGTH_DELIMITED", type := (.object "com/example/fieldglass/fieldglass/model/WireType"), accessFlags := 16409, slot := 2, constantValue := 0 }, { name := "START_GROUP", type := (.object "com/example/fieldglass/fieldglass/model/WireType"), accessFlags := 16409, slot := 3, constantValue := 0 }, { name := "END_GROUP", type := (.object "com/example/fieldglass/fieldglass/model/WireType"), accessFlags := 16409, slot := 4, constantValue := 0 }, { name := "FIXED32", type := (.object "com/example/fieldglass/fieldglass/model/WireType"), accessFlags := 16409, slot := 5, constantValue := 0 }, { name := "BY_ID", type := (.array (.object "com/example/fieldglass/fieldglass/model/WireType")), accessFlags := 26, slot := 6, constantValue := 0 }, { name := "id", type := .int, accessFlags := 18, slot := 3, constantValue := 0 }, { name := "$VALUES", type := (.array (.object "com/example/fieldglass/fieldglass/model/WireType")), accessFlags := 4122, slot := 7, constantValue := 0 }]
  methods := #[k6m0, k6m1]
  instanceTypes := #[(.object "java/lang/String"), .int, .int, .int]
  staticTypes := #[(.object "com/example/fieldglass/fieldglass/model/WireType"), (.object "com/example/fieldglass/fieldglass/model/WireType"), (.object "com/example/fieldglass/fieldglass/model/WireType"), (.object "com/example/fieldglass/fieldglass/model/WireType"), (.object "com/example/fieldglass/fieldglass/model/WireType"), (.object "com/example/fieldglass/fieldglass/model/WireType"), (.array (.object "com/example/fieldglass/fieldglass/model/WireType")), (.array (.object "com/example/fieldglass/fieldglass/model/WireType"))]
  resolved := Array.replicate 79 none
  statics := some 0 }

def pool7 : Array CpInfo := pool [(1, u "java/lang/Cloneable"), (0, .class_ 1), (0, u "java/lang/Object"), (0, .class_ 3)] 3

/-- java/lang/Cloneable -/
def k7 : Class := { plain "java/lang/Cloneable" (some 0) with
  accessFlags := 1537
  interfaces := #[]
  cf := some (fileOf pool7 2 #[] #[] 1537 4 #[] #[])
  fields := #[]
  methods := #[]
  instanceTypes := #[]
  staticTypes := #[]
  resolved := Array.replicate 8 none
  statics := none }

/-- the primitive byte -/
def k8 : Class := { plain "byte" none with kind := .primitive 'B', accessFlags := 0x411 }
/-- [B -/
def k9 : Class := { plain "[B" (some 0) with kind := .array 8 .byte, interfaces := #[7, 4], accessFlags := 1041 }

/-- the primitive int -/
def k10 : Class := { plain "int" none with kind := .primitive 'I', accessFlags := 0x411 }
/-- [I -/
def k11 : Class := { plain "[I" (some 0) with kind := .array 10 .int, interfaces := #[7, 4], accessFlags := 1041 }

/-- [Lcom/example/fieldglass/fieldglass/model/WireType; -/
def k12 : Class := { plain "[Lcom/example/fieldglass/fieldglass/model/WireType;" (some 0) with kind := .array 6 (.object "com/example/fieldglass/fieldglass/model/WireType"), interfaces := #[7, 4], accessFlags := 1041 }

def heap : Heap := #[{ cls := 6, slots := #[.ref 2, .ref 4, .ref 7, .ref 3, .ref 5, .ref 6, .ref 1, .null], vm := .statics 6 },
  { cls := 12, slots := #[.ref 2, .ref 4, .ref 7, .ref 3, .ref 5, .ref 6], vm := .none },
  { cls := 6, slots := #[.null, .int 0, .int 0, .int 0], vm := .none },
  { cls := 6, slots := #[.null, .int 0, .int 0, .int 3], vm := .none },
  { cls := 6, slots := #[.null, .int 0, .int 0, .int 1], vm := .none },
  { cls := 6, slots := #[.null, .int 0, .int 0, .int 4], vm := .none },
  { cls := 6, slots := #[.null, .int 0, .int 0, .int 5], vm := .none },
  { cls := 6, slots := #[.null, .int 0, .int 0, .int 2], vm := .none }]
def classes : Array Class := #[k0, k1, k2, k3, k4, k5, k6, k7, k8, k9, k10, k11, k12]
def interned : List (Array UInt16 × Addr) := []
def slotsUsed : Nat := 38
def theMethod : MethodId := ⟨1, 3⟩
def args0 : Array Value := #[.int 5, .int 3]
def aboutOver (below : List Frame) : State where
  vm := { classes := classes, interned := interned.toArray }
  heap := heap
  slotsUsed := slotsUsed
  threads := #[{ frames := .invoking theMethod args0 :: below }]
def below0 : List Frame := [.native { method := ⟨0, 0⟩, args := #[] }]
def about1 : State := aboutOver below0
def p0 : Program := .bare "" "" ""
def e0 : Env := launch0.env 0 0 0
theorem w_frames : about1.frames = Frame.invoking theMethod args0 :: below0 := rfl
set_option maxRecDepth 65536 in
theorem w_args : argsFit about1.vm theMethod args0 = true := by decide +kernel
set_option maxRecDepth 65536 in
theorem w_heap : heapFits about1 = true := by decide +kernel
set_option maxRecDepth 65536 in
theorem w_runnable : about1.curStatus? = some .runnable := by decide +kernel
set_option maxRecDepth 65536 in
theorem w_alone : about1.alone = true := by decide +kernel
set_option maxRecDepth 65536 in
theorem w_named : about1.methodNamed? x = some theMethod := by decide +kernel
set_option maxRecDepth 65536 in
theorem w_hears : about1.hears theMethod below0 = true := by decide +kernel
set_option maxRecDepth 65536 in
theorem w_ripe : about1.ripe theMethod args0 below0 = true := by decide +kernel
theorem w_running : about1.status = .running := rfl
set_option maxRecDepth 65536 in
theorem w_room : about1.hasRoom e0.platform room_1 = true :=
  launch0.hasRoom_least _ room_1 (by decide +kernel) (by decide +kernel) (by decide +kernel) (by decide +kernel) (by decide +kernel) (by decide +kernel)
theorem allAtoms_all (ts : List Jvm.Cond) (a : Array Jvm.Value) (st : Jvm.State) : (allAtoms ts).before a st = ts.all (fun c => c.before a st) := by
  induction ts with
  | nil => rfl
  | cons c t ih =>
    show (Jvm.Cond.and c (allAtoms t)).before a st = _
    rw [Jvm.Cond.before_and, ih, List.all_cons]
def words1 : List Jvm.Cond := Jvm.Cond.code x code maxLocals ret :: tables_1
/-- a 'code' word, met by the world's own term for the bytes: nothing is compared byte by byte -/
theorem code_word {y : MethodName} {bytes : ByteArray} {mx : Nat} {rt : Option FieldType} {a : Array Value} {s : State} {m : MethodId} {meth : Method} {c : Code} (h1 : s.methodNamed? y = some m) (h2 : s.vm.method? m = some meth) (h3 : meth.code = some c) (h4 : c.code = bytes)
    (h5 : (c.maxLocals == mx && c.exceptionTable.isEmpty && decide (c.maxStack ≤ mostOperands) && decide (meth.sig.returnType = rt) && !meth.locks && decide (parseMethodDescriptor y.desc = some meth.sig)) = true) : (Jvm.Cond.code y bytes mx rt).before a s = true := by
  simp only [Bool.and_eq_true, beq_iff_eq, Bool.not_eq_true', decide_eq_true_eq] at h5
  obtain ⟨⟨⟨⟨⟨g1, g2⟩, g3⟩, g4⟩, g5⟩, g6⟩ := h5
  simp [Cond.before, Cond.holds, Cond.value, h1, h2, h3, h4, g1, g2, g3, g4, g5, g6]
def isCode : Jvm.Cond → Bool
  | .code _ _ _ _ => true
  | _ => false
theorem all_split {L : List Jvm.Cond} {P : Jvm.Cond → Bool} (h1 : L.all (fun c => isCode c || P c) = true) (h2 : ∀ c ∈ L.filter isCode, P c = true) : L.all P = true := by
  refine List.all_eq_true.mpr fun c hc => ?_
  have h := List.all_eq_true.mp h1 c hc
  rcases Bool.eq_false_or_eq_true (isCode c) with hi | hi
  · exact h2 c (List.mem_filter.mpr ⟨hc, hi⟩)
  · simpa [hi] using h
set_option maxRecDepth 65536 in
theorem w_c0 : (Jvm.Cond.code x code maxLocals ret).before args0 about1 = true := code_word (m := ⟨1, 3⟩) (meth := k1m3) (c := k1c3) (by decide +kernel) rfl rfl rfl (by decide +kernel)
set_option maxRecDepth 65536 in
theorem w_c1 : (Jvm.Cond.code ({ cls := "com/example/fieldglass/fieldglass/model/WireTypeForIdPinLaw", name := "check", desc := "(I)Z" } : Jvm.MethodName) method_3_code (2 : Nat) (Option.some Jvm.ClassFile.FieldType.boolean)).before args0 about1 = true := code_word (m := ⟨1, 2⟩) (meth := k1m2) (c := k1c2) (by decide +kernel) rfl rfl rfl (by decide +kernel)
set_option maxRecDepth 65536 in
theorem w_c2 : (Jvm.Cond.code ({ cls := "com/example/fieldglass/fieldglass/model/WireType", name := "forId", desc := "(I)Lcom/example/fieldglass/fieldglass/model/WireType;" } : Jvm.MethodName) prog_21_method_5_code (1 : Nat) (Option.some (Jvm.ClassFile.FieldType.object "com/example/fieldglass/fieldglass/model/WireType"))).before args0 about1 = true := code_word (m := ⟨6, 1⟩) (meth := k6m1) (c := k6c1) (by decide +kernel) rfl rfl rfl (by decide +kernel)
set_option maxRecDepth 65536 in
theorem w_c3 : (Jvm.Cond.code ({ cls := "com/example/fieldglass/fieldglass/model/WireTypeForIdPinLaw", name := "expected", desc := "(I)Lcom/example/fieldglass/fieldglass/model/WireType;" } : Jvm.MethodName) method_2_code (1 : Nat) (Option.some (Jvm.ClassFile.FieldType.object "com/example/fieldglass/fieldglass/model/WireType"))).before args0 about1 = true := code_word (m := ⟨1, 1⟩) (meth := k1m1) (c := k1c1) (by decide +kernel) rfl rfl rfl (by decide +kernel)
set_option maxRecDepth 65536 in
theorem w_c4 : (Jvm.Cond.code ({ cls := "com/example/fieldglass/fieldglass/model/WireType", name := "id", desc := "()I" } : Jvm.MethodName) prog_21_method_4_code (1 : Nat) (Option.some Jvm.ClassFile.FieldType.int)).before args0 about1 = true := code_word (m := ⟨6, 0⟩) (meth := k6m0) (c := k6c0) (by decide +kernel) rfl rfl rfl (by decide +kernel)
def codes1 : List Jvm.Cond := [Jvm.Cond.code x code maxLocals ret, Jvm.Cond.code ({ cls := "com/example/fieldglass/fieldglass/model/WireTypeForIdPinLaw", name := "check", desc := "(I)Z" } : Jvm.MethodName) method_3_code (2 : Nat) (Option.some Jvm.ClassFile.FieldType.boolean), Jvm.Cond.code ({ cls := "com/example/fieldglass/fieldglass/model/WireType", name := "forId", desc := "(I)Lcom/example/fieldglass/fieldglass/model/WireType;" } : Jvm.MethodName) prog_21_method_5_code (1 : Nat) (Option.some (Jvm.ClassFile.FieldType.object "com/example/fieldglass/fieldglass/model/WireType")), Jvm.Cond.code ({ cls := "com/example/fieldglass/fieldglass/model/WireTypeForIdPinLaw", name := "expected", desc := "(I)Lcom/example/fieldglass/fieldglass/model/WireType;" } : Jvm.MethodName) method_2_code (1 : Nat) (Option.some (Jvm.ClassFile.FieldType.object "com/example/fieldglass/fieldglass/model/WireType")), Jvm.Cond.code ({ cls := "com/example/fieldglass/fieldglass/model/WireType", name := "id", desc := "()I" } : Jvm.MethodName) prog_21_method_4_code (1 : Nat) (Option.some Jvm.ClassFile.FieldType.int)]
set_option maxRecDepth 65536 in
theorem codes_eq : words1.filter isCode = codes1 := rfl
theorem w_codes : ∀ c ∈ words1.filter isCode, c.before args0 about1 = true := by
  rw [codes_eq]
  intro c hc
  simp only [codes1, List.mem_cons, List.not_mem_nil, or_false] at hc
  rcases hc with rfl | rfl | rfl | rfl | rfl
  · exact w_c0
  · exact w_c1
  · exact w_c2
  · exact w_c3
  · exact w_c4
set_option maxRecDepth 65536 in
theorem w_t1 : (words1.take 24).all (fun c => isCode c || c.before args0 about1) = true := by decide +kernel
set_option maxRecDepth 65536 in
theorem w_t2 : (words1.drop 24).all (fun c => isCode c || c.before args0 about1) = true := by decide +kernel
theorem w_tables : (allAtoms (Jvm.Cond.code x code maxLocals ret :: tables_1)).before args0 about1 = true := by
  rw [allAtoms_all]
  show words1.all (fun c => c.before args0 about1) = true
  refine all_split ?_ w_codes
  rw [← List.take_append_drop 24 words1, List.all_append, w_t1, w_t2]
  rfl
set_option maxRecDepth 65536 in
theorem w_case : (Jvm.Cond.and given_1 narrow_1).before args0 about1 = true := by decide +kernel
theorem w_applies : (headSpec (Jvm.Cond.code x code maxLocals ret :: tables_1) room_1).applies x e0.platform about1 = true :=
  (Spec.applies_iff w_frames).mpr ⟨w_running, w_runnable, w_alone, w_named, w_hears, w_ripe, w_room, w_tables⟩
theorem atStart : AtStart classFile x code maxLocals ret World_1 tables_1 room_1 Calls_1 rest_1 Pre_1 launch0 p0 e0 about1 theMethod args0 below0 :=
  ⟨lists_1, trivial, launch0.admits_env _ _ _, launch0.least_env, fairChoices_fair.cas, fairChoices_fair.clock, w_frames, w_args, w_heap, w_applies, trivial, trivial, w_case⟩
end start1
theorem witness_1 : WitnessClaimed_1 := ⟨start1.p0, start1.e0, start1.about1, start1.theMethod, start1.args0, start1.below0, start1.atStart⟩
end Jvm.Pilot.@@N@@
