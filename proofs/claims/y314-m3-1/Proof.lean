import JvmDerived
import JvmDerived.Pilot.@@N@@Statement
import JvmDerived.Pilot.@@N@@Code
set_option linter.unusedVariables false
set_option linter.unusedSimpArgs false
namespace Jvm.RoadKit
open Sem ClassFile Op Lib Jvm.Stand Jvm.Free Jvm.LawKit
section New
variable {p : Program} {l : Launch} {e : Env} {R : Room} {s : State} {m : MethodId} {args : Array Value} {below : List Frame} {meth : Method} {c : Code} {T : State} {locs : List Loc} {cells slots : Nat}
theorem retI (X : Stand p l e R s m args below meth c T locs cells slots) (hx : p.tables.exec = Jvm.exec) {pc : Nat} {Ls : Array Slot} {z : Int32} {rest : List Value} (hret : meth.sig.returnType = some .int) (hd : decode c.code pc = .ok (.ireturn, 1)) {fs : List Frame}
    (hl : ∀ (f : JFrame) (acts : List Action), f.method = m → f.locked = none → f.entered = [] → (doReturn e (T.setTop f) acts (some (.int z))).1 = T.setFrames fs) : Steps p.tables e below (T.setTop (mkF m pc Ls (.int z :: rest))) (T.setFrames fs) := by
  have hm' : T.vm.method? m = some meth := X.method'
  have hn : narrow .int (.int z) = .int z := rfl
  show Steps p.tables e below (T.setTop { method := m, pc := pc, locals := Ls, stack := _ :: rest, locked := none }) _
  jvm_step X.here [X.here.top, hx, hd, hm', hret, hn]
  first | (intro acts; rw [hl _ acts rfl rfl rfl]) | rw [hl _ _ rfl rfl rfl]
  exact Steps.refl _
end New
end Jvm.RoadKit
namespace Jvm.Pilot.@@N@@
open Jvm Jvm.ClassFile Sem Op Lib Jvm.Free Jvm.Stand Jvm.LawKit Jvm.RoadKit Bundle Jvm.Pilot.@@N@@.Jvm.D
def own_irem (x y : Int32) : Int32 := x - (x / y) * y
theorem own_irem_mod (x y : Int32) : own_irem x y = x % y := by
  unfold own_irem
  apply Int32.toInt_inj.mp
  have h1 := Int32.le_toInt (x % y)
  have h2 := Int32.toInt_lt (x % y)
  rw [Int32.toInt_sub, Int32.toInt_mul, Int32.toInt_div, Int.bmod_mul_bmod, Int.sub_bmod_bmod, Int.mul_comm (x.toInt.tdiv y.toInt), ← Int.tmod_def, ← Int32.toInt_mod]
  exact Int.bmod_eq_of_le_mul_two (by omega) (by omega)
theorem own_fld_eq {args : Array Value} {s : State} {t : Term} {C n d : String} {w : Addr} {k : Int32} (ht : t.eval args s none [] s = some (.ref w)) (h : (Jvm.Cond.eq (Term.field t C n d) (Term.int k)).value args s none s [] = some true) : Fld s s.heap w C n d (.int k) := by
  obtain ⟨x, y, ha, hb, -, -⟩ := cmp_v (Or.inl h)
  have hy : y = .int k := (Option.some.inj ((Term.int_eval k).symm.trans hb)).symm
  subst hy
  have hx : x = .int k := by
    cases x <;> simp [Cond.value, ha, hb] at h ⊢
    exact h
  subst hx
  exact Fld.start (by rw [← fld_at ht]; exact ha)
theorem own_fld_ref {args : Array Value} {s : State} {t u : Term} {C n d : String} {w : Addr} {k : Addr} (ht : t.eval args s none [] s = some (.ref w)) (hu : u.eval args s none [] s = some (.ref k)) (h : (Jvm.Cond.eq (Term.field t C n d) u).value args s none s [] = some true) : Fld s s.heap w C n d (.ref k) := by
  obtain ⟨x, y, ha, hb, -, -⟩ := cmp_v (Or.inl h)
  cases hu.symm.trans hb
  have hx : x = .ref k := by
    cases x <;> simp [Cond.value, ha, hb] at h ⊢
    exact h
  subst hx
  exact Fld.start (by rw [← fld_at ht]; exact ha)
theorem own_sel_priv {s : State} {args : Array Value} {y z : MethodName} (hsel : (Jvm.Cond.selects z.cls z z).before args s = true) (hz : z.cls = y.cls) (hpriv : (Jvm.Cond.privateMethod y).before args s = true) (hinst : (Jvm.Cond.instanceMethod y).before args s = true) (hy : y.cls ≠ "java/lang/invoke/MethodHandle" ∧ y.cls ≠ "java/lang/invoke/VarHandle") : (Jvm.Cond.selects y.cls y y).before args s = true := by
  obtain ⟨c, r, m, h1, h2, h3, h4, mk, h5, h6⟩ := Cond.selects_spec hsel
  have hc := findClass_of_methodNamed h3
  rw [hz] at hc
  exact selects_self_of_private hc h5 h6 (Cond.privateMethod_at hpriv) hinst hy
theorem own_nm_int : "[" ++ (newarray.typeOf .int).toString = "[I" := by decide
theorem own_nm_long : "[" ++ (newarray.typeOf .long).toString = "[J" := by decide
theorem own_nm_char : "[" ++ (newarray.typeOf .char).toString = "[C" := by decide
theorem own_nm_boolean : "[" ++ (newarray.typeOf .boolean).toString = "[Z" := by decide
theorem own_ns_exa {Z : State} {h : Heap} {a : Addr} {C : String} (E : Exa Z h a C) : ∀ c : Cell, h[a]? = some c → c.vm.isStatics = false := fun c hc => by
  obtain ⟨cell, k, h1, -, -, h4, -⟩ := E
  cases h1.symm.trans hc
  exact h4
theorem own_ns_arr {Z : State} {h : Heap} {a : Addr} {cl : Cell} {ty : FieldType} (A : Arr Z h a cl ty) : ∀ c : Cell, h[a]? = some c → c.vm.isStatics = false := fun c hc => by
  cases A.1.symm.trans hc
  exact A.plain
theorem own_arr_keep {Z : State} {h h' : Heap} {a : Addr} {cl : Cell} {ty : FieldType} {ws : List Addr} (A : Arr Z h a cl ty) (K : Keep h h' ws) (q : a ∉ ws) : Arr Z h' a cl ty := ⟨K.2.1 a cl A.1 q, A.2⟩
theorem own_ns_arv {Z : State} {h : Heap} {a : Addr} {k : ClassId} {ty : FieldType} {z : Int32} {vs : List Value} {dv : Value} (F : Arv Z h a k ty z vs dv) : ∀ c : Cell, h[a]? = some c → c.vm.isStatics = false := by
  obtain ⟨c, A, -⟩ := F
  exact own_ns_arr A
theorem own_sta_keep {Z : State} {h h' : Heap} {C n d : String} {v : Value} {ws : List Addr} (F : Sta Z h C n d v) (K : Keep h h' ws) (q : ∀ x ∈ ws, ∀ c : Cell, h[x]? = some c → c.vm.isStatics = false) : Sta Z h' C n d v := by
  obtain ⟨cf, i, k, f, st, cell, h1, h2, h3, h4, h5, h6, h7⟩ := F
  exact ⟨cf, i, k, f, st, cell, h1, h2, h3, h4, K.2.1 st cell h5 (fun hm => by rw [q st hm cell h5] at h6; cases h6), h6, h7⟩
theorem own_len {args : Array Value} {s : State} {t : Term} {a : Addr} {cl : Cell} {n : Int32} (ht : t.eval args s none [] s = some (.ref a)) (hc : s.heap[a]? = some cl) (h : (Jvm.Cond.eq (Term.length t) (Term.int n)).value args s none s [] = some true) : cl.slots.size < 2 ^ 31 ∧ cl.slots.size.toInt32 = n := by
  obtain ⟨x, y, ha, hb, -, -⟩ := cmp_v (Or.inl h)
  have hy : y = .int n := (Option.some.inj ((Term.int_eval n).symm.trans hb)).symm
  subst hy
  have hx : x = .int n := by
    cases x <;> simp [Cond.value, ha, hb] at h ⊢
    exact h
  subst hx
  simp only [Term.eval, ht, Option.bind_eq_bind, Option.bind_some] at ha
  cases hq : s.arrayAt? a with
  | none => simp [hq] at ha
  | some c2 =>
    cases (State.arrayAt?_spec hq).1.symm.trans hc
    simp only [hq, Option.bind_some] at ha
    split at ha
    · rename_i hlt
      exact ⟨hlt, Value.int.inj (Option.some.inj ha)⟩
    · cases ha
theorem own_elem {args : Array Value} {s : State} {t u : Term} {a k : Addr} {cl : Cell} {j : Int32} (ht : t.eval args s none [] s = some (.ref a)) (hu : u.eval args s none [] s = some (.ref k)) (hc : s.heap[a]? = some cl) (h : (Jvm.Cond.eq (Term.elem t (Term.int j)) u).value args s none s [] = some true) : cl.slots[j.toNatClampNeg]? = some (.ref k) := by
  obtain ⟨x, y, ha, hb, -, -⟩ := cmp_v (Or.inl h)
  cases hu.symm.trans hb
  have hx : x = .ref k := by
    cases x <;> simp [Cond.value, ha, hb] at h ⊢
    exact h
  subst hx
  exact (elem_in ha ht (Term.int_eval j) hc).2
theorem own_63 (x : Int32) : ¬ (x &&& (63 : Int32)) < (0 : Int32) ∧ (x &&& (63 : Int32)).toNatClampNeg ≤ 63 := by
  have q := c_mask x 63 6 (by decide) (by decide)
  have a0 : (0 : Int32).toInt = 0 := rfl
  rw [Int32.lt_iff_toInt_lt, q, a0, Int32.toNatClampNeg, q]
  omega
theorem own_pos {x y : Int32} (h : ¬ x < (0 : Int32)) (q : x < y) : (0 : Int32) < y := by
  rw [Int32.lt_iff_toInt_lt] at *
  have a0 : (0 : Int32).toInt = 0 := rfl
  omega
theorem own_pred {x : Int32} (h : (0 : Int32) < x) : ¬ (x - (1 : Int32)) < (0 : Int32) ∧ (x - (1 : Int32)) < x := by
  rw [Int32.lt_iff_toInt_lt] at h
  rw [Int32.lt_iff_toInt_lt, Int32.lt_iff_toInt_lt]
  have a0 : (0 : Int32).toInt = 0 := rfl
  have a1 : (1 : Int32).toInt = 1 := rfl
  have q := c_isub x 1
  have b := rng32 x
  have b2 := rng32 (x - 1)
  rw [a0] at h ⊢
  rw [a1] at q
  omega
theorem d1_0 : decode prog_43_method_1_code 0 = .ok (.aload_n 0, 1) := by decide +kernel
theorem d1_1 : decode prog_43_method_1_code 1 = .ok (.invokespecial 1, 3) := by decide +kernel
theorem d1_4 : decode prog_43_method_1_code 4 = .ok (.aload_n 0, 1) := by decide +kernel
theorem d1_5 : decode prog_43_method_1_code 5 = .ok (.invokestatic 7, 3) := by decide +kernel
theorem d1_8 : decode prog_43_method_1_code 8 = .ok (.putfield 13, 3) := by decide +kernel
theorem d1_11 : decode prog_43_method_1_code 11 = .ok (.return_, 1) := by decide +kernel
theorem d2_0 : decode prog_15_method_1_code 0 = .ok (.aload_n 0, 1) := by decide +kernel
theorem d2_1 : decode prog_15_method_1_code 1 = .ok (.invokespecial 1, 3) := by decide +kernel
theorem d2_4 : decode prog_15_method_1_code 4 = .ok (.return_, 1) := by decide +kernel
theorem d3_0 : decode prog_13_method_1_code 0 = .ok (.aload_n 0, 1) := by decide +kernel
theorem d3_1 : decode prog_13_method_1_code 1 = .ok (.invokespecial 1, 3) := by decide +kernel
theorem d3_4 : decode prog_13_method_1_code 4 = .ok (.return_, 1) := by decide +kernel
theorem d5_0 : decode jdk_40_method_36_code 0 = .ok (.getstatic 90, 3) := by decide +kernel
theorem d5_3 : decode jdk_40_method_36_code 3 = .ok (.areturn, 1) := by decide +kernel
theorem d6_0 : decode prog_43_method_4_code 0 = .ok (.aload_n 0, 1) := by decide +kernel
theorem d6_1 : decode prog_43_method_4_code 1 = .ok (.getfield 38, 3) := by decide +kernel
theorem d6_4 : decode prog_43_method_4_code 4 = .ok (.ifnull 12, 3) := by decide +kernel
theorem d6_7 : decode prog_43_method_4_code 7 = .ok (.aload_n 0, 1) := by decide +kernel
theorem d6_8 : decode prog_43_method_4_code 8 = .ok (.getfield 38, 3) := by decide +kernel
theorem d6_11 : decode prog_43_method_4_code 11 = .ok (.arraylength, 1) := by decide +kernel
theorem d6_12 : decode prog_43_method_4_code 12 = .ok (.iload_n 1, 1) := by decide +kernel
theorem d6_13 : decode prog_43_method_4_code 13 = .ok (.if_icmp .ge 10, 3) := by decide +kernel
theorem d6_16 : decode prog_43_method_4_code 16 = .ok (.aload_n 0, 1) := by decide +kernel
theorem d6_17 : decode prog_43_method_4_code 17 = .ok (.iload_n 1, 1) := by decide +kernel
theorem d6_18 : decode prog_43_method_4_code 18 = .ok (.newarray .int, 2) := by decide +kernel
theorem d6_20 : decode prog_43_method_4_code 20 = .ok (.putfield 38, 3) := by decide +kernel
theorem d6_23 : decode prog_43_method_4_code 23 = .ok (.aload_n 0, 1) := by decide +kernel
theorem d6_24 : decode prog_43_method_4_code 24 = .ok (.getfield 38, 3) := by decide +kernel
theorem d6_27 : decode prog_43_method_4_code 27 = .ok (.areturn, 1) := by decide +kernel
theorem pn_0 : plainName "com/example/granulock/granulock/Latch" = true := by first | (simp [plainName, overriddenIn]; done) | decide +kernel
theorem pn_1 : plainName "com/example/granulock/granulock/LatchedEntries$Entry" = true := by first | (simp [plainName, overriddenIn]; done) | decide +kernel
theorem pn_2 : plainName "java/util/List" = true := by first | (simp [plainName, overriddenIn]; done) | decide +kernel
theorem pn_3 : plainName "com/example/granulock/granulock/ResourceTree$Ledger" = true := by first | (simp [plainName, overriddenIn]; done) | decide +kernel
theorem pn_4 : plainName "com/example/granulock/granulock/LedgerModesPinLaw" = true := by first | (simp [plainName, overriddenIn]; done) | decide +kernel
theorem pd_0 : parseMethodDescriptor "()V" = some ⟨[], none⟩ := by decide +kernel
theorem pd_1 : parseMethodDescriptor "()Ljava/util/List;" = some ⟨[], some (.object "java/util/List")⟩ := by decide +kernel
theorem pd_2 : parseMethodDescriptor "(I)[I" = some ⟨[.int], some (.array .int)⟩ := by decide +kernel
theorem ef_lat (m : MethodId) (x0 : Addr) : entryFrame m #[(.ref x0)] 1 = mkF m 0 #[.val (.ref x0)] [] := by first | (simp [entryFrame, mkF, argsToLocals, Value.category]; done) | rfl
def Q_lat (Z : State) (a : Addr) (h0 : Heap) (n0 : Nat) (v : Option Value) (h : Heap) (L : List Loc) : Prop := v = none ∧ Fr n0 L ∧ h = h0
set_option maxRecDepth 65536 in
set_option maxHeartbeats 40000000 in
theorem rm_lat (l : Launch) (Z : State) (a0 : Array Value) (hw : ∀ d ∈ tables_1, d.before a0 Z = true) (ws : List Jvm.Cond) (a : Addr) (h0 : Heap) (n0 : Nat) (Z0 : n0 ≤ h0.size) :
    MetFree l (⟨"com/example/granulock/granulock/Latch", "<init>", "()V"⟩ : MethodName) (head1 (Jvm.Cond.code (⟨"com/example/granulock/granulock/Latch", "<init>", "()V"⟩ : MethodName) prog_13_method_1_code 1 none :: ws) ({ frames := 1, cells := 0, slots := 0, locals := 12 } : Room)) (fun as_ U_ => as_ = #[(.ref a)] ∧ Z.Warmed39 U_.vm ∧ U_.heap = h0) (fun _ _ _ _ _ => True) (fun _ U o U' => ∃ v L, o = .returned v ∧ Q_lat Z a h0 n0 v U'.heap L ∧ FrameEnd U o U' L ({ frames := 1, cells := 0, slots := 0, locals := 12 } : Room).cells ({ frames := 1, cells := 0, slots := 0, locals := 12 } : Room).slots) := by
  refine MetFree.of_bodySF (plainFor_of_name pn_0) hisR ?_
  intro p e s m args below meth c s₁ Bd hml0 hP hK
  obtain ⟨rfl, hZ, hh⟩ := hP
  have hx := Bd.exec
  have hby := Bd.bytes
  have hml : c.maxLocals = 1 := hml0
  have hown : s.vm.findClass "com/example/granulock/granulock/Latch" = some m.cls := findClass_of_methodNamed Bd.named
  have hnm := (name_of_methodNamed Bd.named Bd.method).1
  have X0 : Stand p l e ({ frames := 1, cells := 0, slots := 0, locals := 12 } : Room) s m #[(.ref a)] below meth c s₁ [] 0 0 := Stand.of_body Bd
  have e0 : s₁.heap = h0 := by rw [← hh, Bd.state]; rfl
  have N0 := Fr.nil n0
  have pre0 : ∀ t, Steps p.tables e below (s₁.setTop (mkF m 0 #[.val (.ref a)] [])) t → Steps p.tables e below (s₁.setTop (entryFrame m #[(.ref a)] 1)) t := fun t k => castTop (ef_lat m a) k
  obtain ⟨T1, X1, e1, st1⟩ := initO X0 hx hZ hown (hw _ (List.mem_of_getElem? (i := 16) rfl)) (hw _ (List.mem_of_getElem? (i := 17) rfl)) (hw _ (List.mem_of_getElem? (i := 18) rfl)) e0 (g := (mkF m 1 #[.val (.ref a)] [(.ref a)])) rfl (by rw [hml]; rfl) rfl (hb hby d3_1) (by decide) (W := 0) (by show 2 * 0 + _ ≤ _; exact Nat.le_of_eq rfl) (by decide)
  have pre2 := fun (t : State) (k : Steps p.tables e below (T1.setTop (mkF m 4 #[.val (.ref a)] [])) t) => pre0 t (by
    refine XS.aloadN X0.here hx rfl (hb hby d3_0) rfl rfl ?_
    show Steps p.tables e below (s₁.setTop (mkF m 1 #[.val (.ref a)] [(.ref a)])) _
    refine st1 _ ?_
    show Steps p.tables e below (T1.setTop (mkF m 4 #[.val (.ref a)] [])) _
    exact k)
  obtain ⟨fs, hr, hrun, hended, hW, hsame⟩ := X1.leave (v := none) (fun _ => rfl)
  refine ⟨_, _, pre2 _ ?_, hrun, hended, _, _, rfl, ?_, ⟨_, rfl⟩, hW, hsame.mono (by decide) (by decide)⟩
  · exact X1.returnOut hx Bd.returns (hb hby d3_4) hr
  · show Q_lat Z a h0 n0 _ T1.heap _
    rw [e1]
    exact ⟨rfl, N0, rfl⟩

theorem ef_ent (m : MethodId) (x0 : Addr) : entryFrame m #[(.ref x0)] 1 = mkF m 0 #[.val (.ref x0)] [] := by first | (simp [entryFrame, mkF, argsToLocals, Value.category]; done) | rfl
def Q_ent (Z : State) (a : Addr) (h0 : Heap) (n0 : Nat) (v : Option Value) (h : Heap) (L : List Loc) : Prop := v = none ∧ Fr n0 L ∧ h = h0
set_option maxRecDepth 65536 in
set_option maxHeartbeats 40000000 in
theorem rm_ent (l : Launch) (Z : State) (a0 : Array Value) (hw : ∀ d ∈ tables_1, d.before a0 Z = true) (ws : List Jvm.Cond) (a : Addr) (h0 : Heap) (n0 : Nat) (Z0 : n0 ≤ h0.size) :
    MetFree l (⟨"com/example/granulock/granulock/LatchedEntries$Entry", "<init>", "()V"⟩ : MethodName) (head1 (Jvm.Cond.code (⟨"com/example/granulock/granulock/LatchedEntries$Entry", "<init>", "()V"⟩ : MethodName) prog_15_method_1_code 1 none :: ws) ({ frames := 2, cells := 0, slots := 0, locals := 24 } : Room)) (fun as_ U_ => as_ = #[(.ref a)] ∧ Z.Warmed39 U_.vm ∧ U_.heap = h0) (fun _ _ _ _ _ => True) (fun _ U o U' => ∃ v L, o = .returned v ∧ Q_ent Z a h0 n0 v U'.heap L ∧ FrameEnd U o U' L ({ frames := 2, cells := 0, slots := 0, locals := 24 } : Room).cells ({ frames := 2, cells := 0, slots := 0, locals := 24 } : Room).slots) := by
  refine MetFree.of_bodySF (plainFor_of_name pn_1) hisR ?_
  intro p e s m args below meth c s₁ Bd hml0 hP hK
  obtain ⟨rfl, hZ, hh⟩ := hP
  have hx := Bd.exec
  have hby := Bd.bytes
  have hml : c.maxLocals = 1 := hml0
  have hown : s.vm.findClass "com/example/granulock/granulock/LatchedEntries$Entry" = some m.cls := findClass_of_methodNamed Bd.named
  have hnm := (name_of_methodNamed Bd.named Bd.method).1
  have X0 : Stand p l e ({ frames := 2, cells := 0, slots := 0, locals := 24 } : Room) s m #[(.ref a)] below meth c s₁ [] 0 0 := Stand.of_body Bd
  have e0 : s₁.heap = h0 := by rw [← hh, Bd.state]; rfl
  have N0 := Fr.nil n0
  have pre0 : ∀ t, Steps p.tables e below (s₁.setTop (mkF m 0 #[.val (.ref a)] [])) t → Steps p.tables e below (s₁.setTop (entryFrame m #[(.ref a)] 1)) t := fun t k => castTop (ef_ent m a) k
  obtain ⟨_, _, ⟨T1, L1, k1, n1⟩, -, X1, ⟨Lc1, hQ1, l1, y1, z1⟩, st1⟩ := X0.specialBack hx (y := (⟨"com/example/granulock/granulock/Latch", "<init>", "()V"⟩ : MethodName)) rfl hown (mvT hZ (hw _ (List.mem_of_getElem? (i := 11) rfl))) (mvT hZ (hw _ (List.mem_of_getElem? (i := 12) rfl))) (mvT hZ (hw _ (List.mem_of_getElem? (i := 15) rfl))) (by decide) (backOf (W := 0) (rm_lat l Z a0 hw [] a h0 n0 Z0 ) hZ (hw _ (List.mem_of_getElem? (i := 15) rfl)) (hw _ (List.mem_of_getElem? (i := 14) rfl)) (by decide) (by decide)) (g := (mkF m 1 #[.val (.ref a)] [(.ref a)])) rfl (by rw [hml]; rfl) (Steps.refl _) (a := a) (argsL := []) (rest := []) (lenOf pd_0 rfl) rfl (by show 2 * 0 + _ ≤ _; exact Nat.le_of_eq rfl) (hb hby d2_1) (fun _ _ => ⟨rfl, e0, (by decide : 0 + 0 ≤ _), (by decide : 0 + 0 ≤ _)⟩)
  dsimp only [Pt.U, Pt.locs, Pt.cells, Pt.slots] at X1 l1 y1 z1 st1 hQ1
  subst l1 y1 z1
  obtain ⟨rfl, N1q, hq2⟩ := hQ1
  have N1 := Fr.app N0 N1q
  have pre3 := fun (t : State) (k : Steps p.tables e below (T1.setTop (mkF m 4 #[.val (.ref a)] [])) t) => pre0 t (by
    refine XS.aloadN X0.here hx rfl (hb hby d2_0) rfl rfl ?_
    show Steps p.tables e below (s₁.setTop (mkF m 1 #[.val (.ref a)] [(.ref a)])) _
    refine st1.trans ?_
    show Steps p.tables e below (T1.setTop (mkF m 4 #[.val (.ref a)] [])) _
    exact k)
  obtain ⟨fs, hr, hrun, hended, hW, hsame⟩ := X1.leave (v := none) (fun _ => rfl)
  refine ⟨_, _, pre3 _ ?_, hrun, hended, _, _, rfl, ?_, ⟨_, rfl⟩, hW, hsame.mono (by decide) (by decide)⟩
  · exact X1.returnOut hx Bd.returns (hb hby d2_4) hr
  · show Q_ent Z a h0 n0 _ T1.heap _
    rw [hq2]
    exact ⟨rfl, N1, rfl⟩

theorem ef_lof (m : MethodId)  : entryFrame m #[] 0 = mkF m 0 #[] [] := by first | (simp [entryFrame, mkF, argsToLocals, Value.category]; done) | rfl
def Q_lof (Z : State) (wE : Addr) (h0 : Heap) (n0 : Nat) (v : Option Value) (h : Heap) (L : List Loc) : Prop := v = some (.ref wE) ∧ Fr n0 L ∧ h = h0
set_option maxRecDepth 65536 in
set_option maxHeartbeats 40000000 in
theorem rm_lof (l : Launch) (Z : State) (a0 : Array Value) (hw : ∀ d ∈ tables_1, d.before a0 Z = true) (ws : List Jvm.Cond) (wE : Addr) (h0 : Heap) (n0 : Nat) (Z0 : n0 ≤ h0.size) (H0_S : Sta Z h0 "java/util/ImmutableCollections" "EMPTY_LIST" "Ljava/util/ImmutableCollections$ListN;" (.ref wE)) :
    MetFree l (⟨"java/util/List", "of", "()Ljava/util/List;"⟩ : MethodName) (head1 (Jvm.Cond.code (⟨"java/util/List", "of", "()Ljava/util/List;"⟩ : MethodName) jdk_40_method_36_code 0 (some (.object "java/util/List")) :: ws) ({ frames := 0, cells := 0, slots := 0, locals := 0 } : Room)) (fun as_ U_ => as_ = #[] ∧ Z.Warmed39 U_.vm ∧ U_.heap = h0) (fun _ _ _ _ _ => True) (fun _ U o U' => ∃ v L, o = .returned v ∧ Q_lof Z wE h0 n0 v U'.heap L ∧ FrameEnd U o U' L ({ frames := 0, cells := 0, slots := 0, locals := 0 } : Room).cells ({ frames := 0, cells := 0, slots := 0, locals := 0 } : Room).slots) := by
  refine MetFree.of_bodySF (plainFor_of_name pn_2) hisR ?_
  intro p e s m args below meth c s₁ Bd hml0 hP hK
  obtain ⟨rfl, hZ, hh⟩ := hP
  have hx := Bd.exec
  have hby := Bd.bytes
  have hml : c.maxLocals = 0 := hml0
  have hown : s.vm.findClass "java/util/List" = some m.cls := findClass_of_methodNamed Bd.named
  have hnm := (name_of_methodNamed Bd.named Bd.method).1
  have X0 : Stand p l e ({ frames := 0, cells := 0, slots := 0, locals := 0 } : Room) s m #[] below meth c s₁ [] 0 0 := Stand.of_body Bd
  have e0 : s₁.heap = h0 := by rw [← hh, Bd.state]; rfl
  have N0 := Fr.nil n0
  have pre0 : ∀ t, Steps p.tables e below (s₁.setTop (mkF m 0 #[] [])) t → Steps p.tables e below (s₁.setTop (entryFrame m #[] 0)) t := fun t k => castTop (ef_lof m ) k
  obtain ⟨T1, X1, e1, st1⟩ := getS2 X0 hx hZ hown (host := "") (Or.inl (hw _ (List.mem_of_getElem? (i := 23) rfl))) Via.refl e0 H0_S (g := (mkF m 0 #[] [])) rfl (hb hby d5_0)
  have pre2 := fun (t : State) (k : Steps p.tables e below (T1.setTop (mkF m 3 #[] [(.ref wE)])) t) => pre0 t (by
    refine st1 _ ?_
    show Steps p.tables e below (T1.setTop (mkF m 3 #[] [(.ref wE)])) _
    exact k)
  obtain ⟨fs, hr, hrun, hended, hW, hsame⟩ := X1.leave (v := some (.ref wE)) (fun h => by rw [Bd.returns] at h; cases h)
  refine ⟨_, _, pre2 _ ?_, hrun, hended, _, _, rfl, ?_, ⟨_, rfl⟩, hW, hsame.mono (by decide) (by decide)⟩
  · jvm_step X1.here [X1.here.top, hx, (hb hby d5_3), X1.method', Bd.returns, Value.isRef, FieldType.isReference]
    first | (intro acts; rw [hr _ acts rfl rfl rfl]) | rw [hr _ _ rfl rfl rfl]
    exact Steps.refl _
  · show Q_lof Z wE h0 n0 _ T1.heap _
    rw [e1]
    exact ⟨rfl, N0, rfl⟩

theorem ef_ini (m : MethodId) (x0 : Addr) : entryFrame m #[(.ref x0)] 1 = mkF m 0 #[.val (.ref x0)] [] := by first | (simp [entryFrame, mkF, argsToLocals, Value.category]; done) | rfl
def Q_ini (Z : State) (a : Addr) (wE : Addr) (h0 : Heap) (n0 : Nat) (v : Option Value) (h : Heap) (L : List Loc) : Prop := v = none ∧ Fr n0 L ∧ Keep h0 h [a] ∧ Exa Z h a "com/example/granulock/granulock/ResourceTree$Ledger" ∧ Fld Z h a "com/example/granulock/granulock/ResourceTree$Ledger" "modes" "[I" .null
set_option maxRecDepth 65536 in
set_option maxHeartbeats 40000000 in
theorem rm_ini (l : Launch) (Z : State) (a0 : Array Value) (hw : ∀ d ∈ tables_1, d.before a0 Z = true) (ws : List Jvm.Cond) (a : Addr) (wE : Addr) (h0 : Heap) (n0 : Nat) (Z0 : n0 ≤ h0.size) (H0_E : Exa Z h0 a "com/example/granulock/granulock/ResourceTree$Ledger") (H1_F : Fld Z h0 a "com/example/granulock/granulock/ResourceTree$Ledger" "underway" "Ljava/util/List;" .null) (H2_F : Fld Z h0 a "com/example/granulock/granulock/ResourceTree$Ledger" "modes" "[I" .null) (H3_S : Sta Z h0 "java/util/ImmutableCollections" "EMPTY_LIST" "Ljava/util/ImmutableCollections$ListN;" (.ref wE)) (ga : n0 ≤ a) :
    MetFree l (⟨"com/example/granulock/granulock/ResourceTree$Ledger", "<init>", "()V"⟩ : MethodName) (head1 (Jvm.Cond.code (⟨"com/example/granulock/granulock/ResourceTree$Ledger", "<init>", "()V"⟩ : MethodName) prog_43_method_1_code 1 none :: ws) ({ frames := 3, cells := 0, slots := 0, locals := 36 } : Room)) (fun as_ U_ => as_ = #[(.ref a)] ∧ Z.Warmed39 U_.vm ∧ U_.heap = h0) (fun _ _ _ _ _ => True) (fun _ U o U' => ∃ v L, o = .returned v ∧ Q_ini Z a wE h0 n0 v U'.heap L ∧ FrameEnd U o U' L ({ frames := 3, cells := 0, slots := 0, locals := 36 } : Room).cells ({ frames := 3, cells := 0, slots := 0, locals := 36 } : Room).slots) := by
  refine MetFree.of_bodySF (plainFor_of_name pn_3) hisR ?_
  intro p e s m args below meth c s₁ Bd hml0 hP hK
  obtain ⟨rfl, hZ, hh⟩ := hP
  have hx := Bd.exec
  have hby := Bd.bytes
  have hml : c.maxLocals = 1 := hml0
  have hown : s.vm.findClass "com/example/granulock/granulock/ResourceTree$Ledger" = some m.cls := findClass_of_methodNamed Bd.named
  have hnm := (name_of_methodNamed Bd.named Bd.method).1
  have X0 : Stand p l e ({ frames := 3, cells := 0, slots := 0, locals := 36 } : Room) s m #[(.ref a)] below meth c s₁ [] 0 0 := Stand.of_body Bd
  have e0 : s₁.heap = h0 := by rw [← hh, Bd.state]; rfl
  have N0 := Fr.nil n0
  have pre0 : ∀ t, Steps p.tables e below (s₁.setTop (mkF m 0 #[.val (.ref a)] [])) t → Steps p.tables e below (s₁.setTop (entryFrame m #[(.ref a)] 1)) t := fun t k => castTop (ef_ini m a) k
  have K0 : Keep h0 h0 [a] := Keep.refl h0 [a]
  obtain ⟨_, _, ⟨T1, L1, k1, n1⟩, -, X1, ⟨Lc1, hQ1, l1, y1, z1⟩, st1⟩ := X0.specialBack hx (y := (⟨"com/example/granulock/granulock/LatchedEntries$Entry", "<init>", "()V"⟩ : MethodName)) rfl hown (mvT hZ (hw _ (List.mem_of_getElem? (i := 6) rfl))) (mvT hZ (hw _ (List.mem_of_getElem? (i := 7) rfl))) (mvT hZ (hw _ (List.mem_of_getElem? (i := 10) rfl))) (by decide) (backOf (W := 0) (rm_ent l Z a0 hw [] a h0 n0 Z0 ) hZ (hw _ (List.mem_of_getElem? (i := 10) rfl)) (hw _ (List.mem_of_getElem? (i := 9) rfl)) (by decide) (by decide)) (g := (mkF m 1 #[.val (.ref a)] [(.ref a)])) rfl (by rw [hml]; rfl) (Steps.refl _) (a := a) (argsL := []) (rest := []) (lenOf pd_0 rfl) rfl (by show 2 * 0 + _ ≤ _; exact Nat.le_of_eq rfl) (hb hby d1_1) (fun _ _ => ⟨rfl, e0, (by decide : 0 + 0 ≤ _), (by decide : 0 + 0 ≤ _)⟩)
  dsimp only [Pt.U, Pt.locs, Pt.cells, Pt.slots] at X1 l1 y1 z1 st1 hQ1
  subst l1 y1 z1
  obtain ⟨rfl, N1q, hq2⟩ := hQ1
  have N1 := Fr.app N0 N1q
  obtain ⟨_, _, ⟨T3, L3, k3, n3⟩, -, X3, ⟨Lc3, hQ3, l3, y3, z3⟩, st3⟩ := Jvm.LawKit.callS X1 hx (y := (⟨"java/util/List", "of", "()Ljava/util/List;"⟩ : MethodName)) hown (mvT hZ (hw _ (List.mem_of_getElem? (i := 19) rfl))) (mvT hZ (hw _ (List.mem_of_getElem? (i := 20) rfl))) (mvT hZ (hw _ (List.mem_of_getElem? (i := 21) rfl))) (mvT hZ (hw _ (List.mem_of_getElem? (i := 22) rfl))) (by decide) (backOf (W := 1) (rm_lof l Z a0 hw [] wE h0 n0 Z0 H3_S) hZ (hw _ (List.mem_of_getElem? (i := 22) rfl)) (hw _ (List.mem_of_getElem? (i := 21) rfl)) (by decide) (by decide)) (g := (mkF m 5 #[.val (.ref a)] [(.ref a)])) rfl (by rw [hml]; rfl) (argsL := []) (rest := [(.ref a)]) (lenOf pd_1 rfl) rfl (by show 2 * 0 + _ ≤ _; exact Nat.le_of_eq rfl) (hb hby d1_5) (fun _ _ => ⟨rfl, hq2, (by decide : 0 + 0 ≤ _), (by decide : 0 + 0 ≤ _)⟩)
  dsimp only [Pt.U, Pt.locs, Pt.cells, Pt.slots] at X3 l3 y3 z3 st3 hQ3
  subst l3 y3 z3
  obtain ⟨rfl, N3q, hq4⟩ := hQ3
  have N3 := Fr.app N1 N3q
  obtain ⟨T5, h5, X5, e5, W5, st5⟩ := putF X3 hx hZ hown (host := "") (Or.inl (hw _ (List.mem_of_getElem? (i := 25) rfl))) Via.refl hq4 H1_F H0_E (Or.inl (hw _ (List.mem_of_getElem? (i := 26) rfl))) (hw _ (List.mem_of_getElem? (i := 1) rfl)) (ty := (.object "java/util/List")) (by decide) rfl rfl (g := (mkF m 8 #[.val (.ref a)] [(.ref wE), (.ref a)])) rfl rfl (hb hby d1_8)
  have Fw5 : Fld Z h5 a "com/example/granulock/granulock/ResourceTree$Ledger" "underway" "Ljava/util/List;" (.ref wE) := H1_F.same W5
  have E6 : Exa Z h5 a "com/example/granulock/granulock/ResourceTree$Ledger" := H0_E.wr W5
  have F7 : Fld Z h5 a "com/example/granulock/granulock/ResourceTree$Ledger" "modes" "[I" .null := H2_F.other W5 (Or.inr (slot_ne (Or.inl (hw _ (List.mem_of_getElem? (i := 33) rfl))) (Or.inl (hw _ (List.mem_of_getElem? (i := 26) rfl))) (by decide) (t := (.array .int)) (t' := (.object "java/util/List")) (by decide) (by decide)))
  have S8 : Sta Z h5 "java/util/ImmutableCollections" "EMPTY_LIST" "Ljava/util/ImmutableCollections$ListN;" (.ref wE) := H3_S.wr W5
  have N5 := Fr.snoc X5 N3 ga
  have K5 : Keep h0 h5 [a] := K0.wr W5 (Or.inl (List.mem_of_getElem? (i := 0) rfl))
  have Zs9 : n0 ≤ h5.size := (Nat.le_trans Z0 (Keep.of_wr W5).1)
  have pre10 := fun (t : State) (k : Steps p.tables e below (T5.setTop (mkF m 11 #[.val (.ref a)] [])) t) => pre0 t (by
    refine XS.aloadN X0.here hx rfl (hb hby d1_0) rfl rfl ?_
    show Steps p.tables e below (s₁.setTop (mkF m 1 #[.val (.ref a)] [(.ref a)])) _
    refine st1.trans ?_
    show Steps p.tables e below (T1.setTop (mkF m 4 #[.val (.ref a)] [])) _
    refine XS.aloadN X1.here hx rfl (hb hby d1_4) rfl rfl ?_
    show Steps p.tables e below (T1.setTop (mkF m 5 #[.val (.ref a)] [(.ref a)])) _
    refine st3 _ ?_
    show Steps p.tables e below (T3.setTop (mkF m 8 #[.val (.ref a)] [(.ref wE), (.ref a)])) _
    refine st5 _ ?_
    show Steps p.tables e below (T5.setTop (mkF m 11 #[.val (.ref a)] [])) _
    exact k)
  obtain ⟨fs, hr, hrun, hended, hW, hsame⟩ := X5.leave (v := none) (fun _ => rfl)
  refine ⟨_, _, pre10 _ ?_, hrun, hended, _, _, rfl, ?_, ⟨_, rfl⟩, hW, hsame.mono (by decide) (by decide)⟩
  · exact X5.returnOut hx Bd.returns (hb hby d1_11) hr
  · show Q_ini Z a wE h0 n0 _ T5.heap _
    rw [e5]
    exact ⟨rfl, N5, K5, E6, F7⟩

theorem ef_mN (m : MethodId) (x0 : Addr) (x1 : Int32) : entryFrame m #[(.ref x0), (.int x1)] 2 = mkF m 0 #[.val (.ref x0), .val (.int x1)] [] := by first | (simp [entryFrame, mkF, argsToLocals, Value.category]; done) | rfl
def Q_mN (Z : State) (a : Addr) (pp : Int32) (h0 : Heap) (n0 : Nat) (v : Option Value) (h : Heap) (L : List Loc) : Prop := ∃ xx : Addr, ∃ kk : ClassId, v = some (.ref xx) ∧ Fr n0 L ∧ Keep h0 h [a] ∧ n0 ≤ xx ∧ h0.size ≤ xx ∧ Exa Z h a "com/example/granulock/granulock/ResourceTree$Ledger" ∧ Fld Z h a "com/example/granulock/granulock/ResourceTree$Ledger" "modes" "[I" (.ref xx) ∧ Arr Z h xx (newA kk .int pp) .int
set_option maxRecDepth 65536 in
set_option maxHeartbeats 40000000 in
theorem rm_mN (l : Launch) (Z : State) (a0 : Array Value) (hw : ∀ d ∈ tables_1, d.before a0 Z = true) (ws : List Jvm.Cond) (a : Addr) (pp : Int32) (h0 : Heap) (n0 : Nat) (Z0 : n0 ≤ h0.size) (H0_E : Exa Z h0 a "com/example/granulock/granulock/ResourceTree$Ledger") (H1_F : Fld Z h0 a "com/example/granulock/granulock/ResourceTree$Ledger" "modes" "[I" .null) (ga : n0 ≤ a) (hp0 : ¬ pp < (0 : Int32)) (hp63 : pp.toNatClampNeg ≤ 63) :
    MetFree l (⟨"com/example/granulock/granulock/ResourceTree$Ledger", "modes", "(I)[I"⟩ : MethodName) (head1 (Jvm.Cond.code (⟨"com/example/granulock/granulock/ResourceTree$Ledger", "modes", "(I)[I"⟩ : MethodName) prog_43_method_4_code 2 (some (.array .int)) :: ws) ({ frames := 0, cells := 1, slots := 63, locals := 0 } : Room)) (fun as_ U_ => as_ = #[(.ref a), (.int pp)] ∧ Z.Warmed39 U_.vm ∧ U_.heap = h0) (fun _ _ _ _ _ => True) (fun _ U o U' => ∃ v L, o = .returned v ∧ Q_mN Z a pp h0 n0 v U'.heap L ∧ FrameEnd U o U' L ({ frames := 0, cells := 1, slots := 63, locals := 0 } : Room).cells ({ frames := 0, cells := 1, slots := 63, locals := 0 } : Room).slots) := by
  refine MetFree.of_bodySF (plainFor_of_name pn_3) hisR ?_
  intro p e s m args below meth c s₁ Bd hml0 hP hK
  obtain ⟨rfl, hZ, hh⟩ := hP
  have hx := Bd.exec
  have hby := Bd.bytes
  have hml : c.maxLocals = 2 := hml0
  have hown : s.vm.findClass "com/example/granulock/granulock/ResourceTree$Ledger" = some m.cls := findClass_of_methodNamed Bd.named
  have hnm := (name_of_methodNamed Bd.named Bd.method).1
  have X0 : Stand p l e ({ frames := 0, cells := 1, slots := 63, locals := 0 } : Room) s m #[(.ref a), (.int pp)] below meth c s₁ [] 0 0 := Stand.of_body Bd
  have e0 : s₁.heap = h0 := by rw [← hh, Bd.state]; rfl
  have N0 := Fr.nil n0
  have pre0 : ∀ t, Steps p.tables e below (s₁.setTop (mkF m 0 #[.val (.ref a), .val (.int pp)] [])) t → Steps p.tables e below (s₁.setTop (entryFrame m #[(.ref a), (.int pp)] 2)) t := fun t k => castTop (ef_mN m a pp) k
  have K0 : Keep h0 h0 [a] := Keep.refl h0 [a]
  obtain ⟨T1, X1, e1, st1⟩ := getF X0 hx hZ hown (host := "") (Or.inl (hw _ (List.mem_of_getElem? (i := 32) rfl))) Via.refl e0 H1_F (g := (mkF m 1 #[.val (.ref a), .val (.int pp)] [(.ref a)])) rfl rfl (hb hby d6_1)
  obtain ⟨T2, h2, k2, X2, e2, E2, A2, Ea2, st2⟩ := newPE X1 hx hZ (hw _ (List.mem_of_getElem? (i := 34) rfl)) e1 (g := (mkF m 18 #[.val (.ref a), .val (.int pp)] [(.int pp), (.ref a)])) rfl (hb hby d6_18) rfl hp0 (cap := 63) hp63 (by decide) (by decide) (by decide) (ad := "[I") own_nm_int
  obtain ⟨b2, g2⟩ : ∃ z, z = h0.size := ⟨_, rfl⟩
  have ne_a_b2 : a ≠ b2 := Nat.ne_of_lt (Nat.lt_of_lt_of_le H0_E.lt (Nat.le_of_eq g2.symm))
  have ge_b2 : n0 ≤ b2 := Nat.le_trans Z0 (Nat.le_of_eq g2.symm)
  have sz_b2 : h0.size ≤ b2 := Nat.le_trans K0.1 (Nat.le_of_eq g2.symm)
  rw [← g2] at A2 Ea2 st2
  have E3 : Exa Z h2 a "com/example/granulock/granulock/ResourceTree$Ledger" := H0_E.ext E2
  have F4 : Fld Z h2 a "com/example/granulock/granulock/ResourceTree$Ledger" "modes" "[I" .null := H1_F.ext E2
  have K2 : Keep h0 h2 [a] := K0.ext E2
  have Zs5 : n0 ≤ h2.size := (Nat.le_trans Z0 E2.1)
  have V2 : Arr Z h2 b2 (newA k2 .int pp) .int := A2
  obtain ⟨T6, h6, X6, e6, W6, st6⟩ := putF X2 hx hZ hown (host := "") (Or.inl (hw _ (List.mem_of_getElem? (i := 32) rfl))) Via.refl e2 F4 E3 (Or.inl (hw _ (List.mem_of_getElem? (i := 33) rfl))) (hw _ (List.mem_of_getElem? (i := 1) rfl)) (ty := (.array .int)) (by decide) rfl rfl (g := (mkF m 20 #[.val (.ref a), .val (.int pp)] [(.ref b2), (.ref a)])) rfl rfl (hb hby d6_20)
  have Fw6 : Fld Z h6 a "com/example/granulock/granulock/ResourceTree$Ledger" "modes" "[I" (.ref b2) := F4.same W6
  have E7 : Exa Z h6 a "com/example/granulock/granulock/ResourceTree$Ledger" := E3.wr W6
  have R8 : Arr Z h6 b2 (newA k2 .int pp) .int := V2.other W6 (Ne.symm ne_a_b2)
  have E9 : Exa Z h6 b2 "[I" := Ea2.wr W6
  have N6 := Fr.snoc X6 N0 ga
  have K6 : Keep h0 h6 [a] := K2.wr W6 (Or.inl (List.mem_of_getElem? (i := 0) rfl))
  have Zs10 : n0 ≤ h6.size := (Nat.le_trans Zs5 (Keep.of_wr W6).1)
  obtain ⟨T11, X11, e11, st11⟩ := getF X6 hx hZ hown (host := "") (Or.inl (hw _ (List.mem_of_getElem? (i := 32) rfl))) Via.refl e6 Fw6 (g := (mkF m 24 #[.val (.ref a), .val (.int pp)] [(.ref a)])) rfl rfl (hb hby d6_24)
  have pre12 := fun (t : State) (k : Steps p.tables e below (T11.setTop (mkF m 27 #[.val (.ref a), .val (.int pp)] [(.ref b2)])) t) => pre0 t (by
    refine XS.aloadN X0.here hx rfl (hb hby d6_0) rfl rfl ?_
    show Steps p.tables e below (s₁.setTop (mkF m 1 #[.val (.ref a), .val (.int pp)] [(.ref a)])) _
    refine st1 _ ?_
    show Steps p.tables e below (T1.setTop (mkF m 4 #[.val (.ref a), .val (.int pp)] [.null])) _
    refine XS.ifnullYes X1.here hx rfl (pc0 := 4) (pc' := 16) rfl (hb hby d6_4) rfl (by decide) (by decide) ?_
    show Steps p.tables e below (T1.setTop (mkF m 16 #[.val (.ref a), .val (.int pp)] [])) _
    refine XS.aloadN X1.here hx rfl (hb hby d6_16) rfl rfl ?_
    show Steps p.tables e below (T1.setTop (mkF m 17 #[.val (.ref a), .val (.int pp)] [(.ref a)])) _
    refine XS.iloadN X1.here hx rfl (hb hby d6_17) rfl ?_
    show Steps p.tables e below (T1.setTop (mkF m 18 #[.val (.ref a), .val (.int pp)] [(.int pp), (.ref a)])) _
    refine st2 _ ?_
    show Steps p.tables e below (T2.setTop (mkF m 20 #[.val (.ref a), .val (.int pp)] [(.ref b2), (.ref a)])) _
    refine st6 _ ?_
    show Steps p.tables e below (T6.setTop (mkF m 23 #[.val (.ref a), .val (.int pp)] [])) _
    refine XS.aloadN X6.here hx rfl (hb hby d6_23) rfl rfl ?_
    show Steps p.tables e below (T6.setTop (mkF m 24 #[.val (.ref a), .val (.int pp)] [(.ref a)])) _
    refine st11 _ ?_
    show Steps p.tables e below (T11.setTop (mkF m 27 #[.val (.ref a), .val (.int pp)] [(.ref b2)])) _
    exact k)
  obtain ⟨fs, hr, hrun, hended, hW, hsame⟩ := X11.leave (v := some (.ref b2)) (fun h => by rw [Bd.returns] at h; cases h)
  refine ⟨_, _, pre12 _ ?_, hrun, hended, _, _, rfl, ?_, ⟨_, rfl⟩, hW, hsame.mono (by decide) (by decide)⟩
  · jvm_step X11.here [X11.here.top, hx, (hb hby d6_27), X11.method', Bd.returns, Value.isRef, FieldType.isReference]
    first | (intro acts; rw [hr _ acts rfl rfl rfl]) | rw [hr _ _ rfl rfl rfl]
    exact Steps.refl _
  · show Q_mN Z a pp h0 n0 _ T11.heap _
    rw [e11]
    exact ⟨b2, k2, rfl, N6, K6, ge_b2, sz_b2, E7, Fw6, R8⟩

theorem ef_mG (m : MethodId) (x0 : Addr) (x1 : Int32) : entryFrame m #[(.ref x0), (.int x1)] 2 = mkF m 0 #[.val (.ref x0), .val (.int x1)] [] := by first | (simp [entryFrame, mkF, argsToLocals, Value.category]; done) | rfl
def Q_mG (Z : State) (a : Addr) (pp : Int32) (oo : Addr) (co : Cell) (qq : Int32) (h0 : Heap) (n0 : Nat) (v : Option Value) (h : Heap) (L : List Loc) : Prop := ∃ xx : Addr, ∃ kk : ClassId, v = some (.ref xx) ∧ Fr n0 L ∧ Keep h0 h [a] ∧ n0 ≤ xx ∧ h0.size ≤ xx ∧ Exa Z h a "com/example/granulock/granulock/ResourceTree$Ledger" ∧ Fld Z h a "com/example/granulock/granulock/ResourceTree$Ledger" "modes" "[I" (.ref xx) ∧ Arr Z h xx (newA kk .int pp) .int
set_option maxRecDepth 65536 in
set_option maxHeartbeats 40000000 in
theorem rm_mG (l : Launch) (Z : State) (a0 : Array Value) (hw : ∀ d ∈ tables_1, d.before a0 Z = true) (ws : List Jvm.Cond) (a : Addr) (pp : Int32) (oo : Addr) (co : Cell) (qq : Int32) (h0 : Heap) (n0 : Nat) (Z0 : n0 ≤ h0.size) (H0_E : Exa Z h0 a "com/example/granulock/granulock/ResourceTree$Ledger") (H1_F : Fld Z h0 a "com/example/granulock/granulock/ResourceTree$Ledger" "modes" "[I" (.ref oo)) (ga : n0 ≤ a) (hp0 : ¬ pp < (0 : Int32)) (hp63 : pp.toNatClampNeg ≤ 63) (H5_R : Arr Z h0 oo co .int) (hco : co.slots.size = qq.toNatClampNeg) (hq : ¬ qq < (0 : Int32)) (nao : a ≠ oo) (hlt : qq < pp) :
    MetFree l (⟨"com/example/granulock/granulock/ResourceTree$Ledger", "modes", "(I)[I"⟩ : MethodName) (head1 (Jvm.Cond.code (⟨"com/example/granulock/granulock/ResourceTree$Ledger", "modes", "(I)[I"⟩ : MethodName) prog_43_method_4_code 2 (some (.array .int)) :: ws) ({ frames := 0, cells := 1, slots := 63, locals := 0 } : Room)) (fun as_ U_ => as_ = #[(.ref a), (.int pp)] ∧ Z.Warmed39 U_.vm ∧ U_.heap = h0) (fun _ _ _ _ _ => True) (fun _ U o U' => ∃ v L, o = .returned v ∧ Q_mG Z a pp oo co qq h0 n0 v U'.heap L ∧ FrameEnd U o U' L ({ frames := 0, cells := 1, slots := 63, locals := 0 } : Room).cells ({ frames := 0, cells := 1, slots := 63, locals := 0 } : Room).slots) := by
  refine MetFree.of_bodySF (plainFor_of_name pn_3) hisR ?_
  intro p e s m args below meth c s₁ Bd hml0 hP hK
  obtain ⟨rfl, hZ, hh⟩ := hP
  have hx := Bd.exec
  have hby := Bd.bytes
  have hml : c.maxLocals = 2 := hml0
  have hown : s.vm.findClass "com/example/granulock/granulock/ResourceTree$Ledger" = some m.cls := findClass_of_methodNamed Bd.named
  have hnm := (name_of_methodNamed Bd.named Bd.method).1
  have X0 : Stand p l e ({ frames := 0, cells := 1, slots := 63, locals := 0 } : Room) s m #[(.ref a), (.int pp)] below meth c s₁ [] 0 0 := Stand.of_body Bd
  have e0 : s₁.heap = h0 := by rw [← hh, Bd.state]; rfl
  have N0 := Fr.nil n0
  have pre0 : ∀ t, Steps p.tables e below (s₁.setTop (mkF m 0 #[.val (.ref a), .val (.int pp)] [])) t → Steps p.tables e below (s₁.setTop (entryFrame m #[(.ref a), (.int pp)] 2)) t := fun t k => castTop (ef_mG m a pp) k
  have K0 : Keep h0 h0 [a] := Keep.refl h0 [a]
  obtain ⟨T1, X1, e1, st1⟩ := getF X0 hx hZ hown (host := "") (Or.inl (hw _ (List.mem_of_getElem? (i := 32) rfl))) Via.refl e0 H1_F (g := (mkF m 1 #[.val (.ref a), .val (.int pp)] [(.ref a)])) rfl rfl (hb hby d6_1)
  obtain ⟨T2, X2, e2, st2⟩ := getF X1 hx hZ hown (host := "") (Or.inl (hw _ (List.mem_of_getElem? (i := 32) rfl))) Via.refl e1 H1_F (g := (mkF m 8 #[.val (.ref a), .val (.int pp)] [(.ref a)])) rfl rfl (hb hby d6_8)
  obtain ⟨T3, h3, k3, X3, e3, E3, A3, Ea3, st3⟩ := newPE X2 hx hZ (hw _ (List.mem_of_getElem? (i := 34) rfl)) e2 (g := (mkF m 18 #[.val (.ref a), .val (.int pp)] [(.int pp), (.ref a)])) rfl (hb hby d6_18) rfl hp0 (cap := 63) hp63 (by decide) (by decide) (by decide) (ad := "[I") own_nm_int
  obtain ⟨b3, g3⟩ : ∃ z, z = h0.size := ⟨_, rfl⟩
  have ne_a_b3 : a ≠ b3 := Nat.ne_of_lt (Nat.lt_of_lt_of_le H0_E.lt (Nat.le_of_eq g3.symm))
  have ne_oo_b3 : oo ≠ b3 := Nat.ne_of_lt (Nat.lt_of_lt_of_le H5_R.lt (Nat.le_of_eq g3.symm))
  have ge_b3 : n0 ≤ b3 := Nat.le_trans Z0 (Nat.le_of_eq g3.symm)
  have sz_b3 : h0.size ≤ b3 := Nat.le_trans K0.1 (Nat.le_of_eq g3.symm)
  rw [← g3] at A3 Ea3 st3
  have E4 : Exa Z h3 a "com/example/granulock/granulock/ResourceTree$Ledger" := H0_E.ext E3
  have F5 : Fld Z h3 a "com/example/granulock/granulock/ResourceTree$Ledger" "modes" "[I" (.ref oo) := H1_F.ext E3
  have R6 : Arr Z h3 oo co .int := H5_R.ext E3
  have K3 : Keep h0 h3 [a] := K0.ext E3
  have Zs7 : n0 ≤ h3.size := (Nat.le_trans Z0 E3.1)
  have V3 : Arr Z h3 b3 (newA k3 .int pp) .int := A3
  obtain ⟨T8, h8, X8, e8, W8, st8⟩ := putF X3 hx hZ hown (host := "") (Or.inl (hw _ (List.mem_of_getElem? (i := 32) rfl))) Via.refl e3 F5 E4 (Or.inl (hw _ (List.mem_of_getElem? (i := 33) rfl))) (hw _ (List.mem_of_getElem? (i := 1) rfl)) (ty := (.array .int)) (by decide) rfl rfl (g := (mkF m 20 #[.val (.ref a), .val (.int pp)] [(.ref b3), (.ref a)])) rfl rfl (hb hby d6_20)
  have Fw8 : Fld Z h8 a "com/example/granulock/granulock/ResourceTree$Ledger" "modes" "[I" (.ref b3) := F5.same W8
  have E9 : Exa Z h8 a "com/example/granulock/granulock/ResourceTree$Ledger" := E4.wr W8
  have R10 : Arr Z h8 oo co .int := R6.other W8 (Ne.symm nao)
  have R11 : Arr Z h8 b3 (newA k3 .int pp) .int := V3.other W8 (Ne.symm ne_a_b3)
  have E12 : Exa Z h8 b3 "[I" := Ea3.wr W8
  have N8 := Fr.snoc X8 N0 ga
  have K8 : Keep h0 h8 [a] := K3.wr W8 (Or.inl (List.mem_of_getElem? (i := 0) rfl))
  have Zs13 : n0 ≤ h8.size := (Nat.le_trans Zs7 (Keep.of_wr W8).1)
  obtain ⟨T14, X14, e14, st14⟩ := getF X8 hx hZ hown (host := "") (Or.inl (hw _ (List.mem_of_getElem? (i := 32) rfl))) Via.refl e8 Fw8 (g := (mkF m 24 #[.val (.ref a), .val (.int pp)] [(.ref a)])) rfl rfl (hb hby d6_24)
  have pre15 := fun (t : State) (k : Steps p.tables e below (T14.setTop (mkF m 27 #[.val (.ref a), .val (.int pp)] [(.ref b3)])) t) => pre0 t (by
    refine XS.aloadN X0.here hx rfl (hb hby d6_0) rfl rfl ?_
    show Steps p.tables e below (s₁.setTop (mkF m 1 #[.val (.ref a), .val (.int pp)] [(.ref a)])) _
    refine st1 _ ?_
    show Steps p.tables e below (T1.setTop (mkF m 4 #[.val (.ref a), .val (.int pp)] [(.ref oo)])) _
    refine XS.ifnullNo X1.here hx rfl (hb hby d6_4) rfl ?_
    show Steps p.tables e below (T1.setTop (mkF m 7 #[.val (.ref a), .val (.int pp)] [])) _
    refine XS.aloadN X1.here hx rfl (hb hby d6_7) rfl rfl ?_
    show Steps p.tables e below (T1.setTop (mkF m 8 #[.val (.ref a), .val (.int pp)] [(.ref a)])) _
    refine st2 _ ?_
    show Steps p.tables e below (T2.setTop (mkF m 11 #[.val (.ref a), .val (.int pp)] [(.ref oo)])) _
    refine X2.arraylength hx (by rw [e2]; exact H5_R.1) (State.isArrayOf_alike hZ.alike H5_R.2.1) (g := (mkF m 11 #[.val (.ref a), .val (.int pp)] [(.ref oo)])) rfl rfl (hb hby d6_11) _ ?_
    rw [show co.slots.size.toInt32 = qq from (len_of hco hq)]
    show Steps p.tables e below (T2.setTop (mkF m 12 #[.val (.ref a), .val (.int pp)] [(.int qq)])) _
    refine XS.iloadN X2.here hx rfl (hb hby d6_12) rfl ?_
    show Steps p.tables e below (T2.setTop (mkF m 13 #[.val (.ref a), .val (.int pp)] [(.int pp), (.int qq)])) _
    refine XS.icmpNo X2.here hx rfl (hb hby d6_13) rfl (tlt hlt).2.1 ?_
    show Steps p.tables e below (T2.setTop (mkF m 16 #[.val (.ref a), .val (.int pp)] [])) _
    refine XS.aloadN X2.here hx rfl (hb hby d6_16) rfl rfl ?_
    show Steps p.tables e below (T2.setTop (mkF m 17 #[.val (.ref a), .val (.int pp)] [(.ref a)])) _
    refine XS.iloadN X2.here hx rfl (hb hby d6_17) rfl ?_
    show Steps p.tables e below (T2.setTop (mkF m 18 #[.val (.ref a), .val (.int pp)] [(.int pp), (.ref a)])) _
    refine st3 _ ?_
    show Steps p.tables e below (T3.setTop (mkF m 20 #[.val (.ref a), .val (.int pp)] [(.ref b3), (.ref a)])) _
    refine st8 _ ?_
    show Steps p.tables e below (T8.setTop (mkF m 23 #[.val (.ref a), .val (.int pp)] [])) _
    refine XS.aloadN X8.here hx rfl (hb hby d6_23) rfl rfl ?_
    show Steps p.tables e below (T8.setTop (mkF m 24 #[.val (.ref a), .val (.int pp)] [(.ref a)])) _
    refine st14 _ ?_
    show Steps p.tables e below (T14.setTop (mkF m 27 #[.val (.ref a), .val (.int pp)] [(.ref b3)])) _
    exact k)
  obtain ⟨fs, hr, hrun, hended, hW, hsame⟩ := X14.leave (v := some (.ref b3)) (fun h => by rw [Bd.returns] at h; cases h)
  refine ⟨_, _, pre15 _ ?_, hrun, hended, _, _, rfl, ?_, ⟨_, rfl⟩, hW, hsame.mono (by decide) (by decide)⟩
  · jvm_step X14.here [X14.here.top, hx, (hb hby d6_27), X14.method', Bd.returns, Value.isRef, FieldType.isReference]
    first | (intro acts; rw [hr _ acts rfl rfl rfl]) | rw [hr _ _ rfl rfl rfl]
    exact Steps.refl _
  · show Q_mG Z a pp oo co qq h0 n0 _ T14.heap _
    rw [e14]
    exact ⟨b3, k3, rfl, N8, K8, ge_b3, sz_b3, E9, Fw8, R11⟩

theorem ef_mK (m : MethodId) (x0 : Addr) (x1 : Int32) : entryFrame m #[(.ref x0), (.int x1)] 2 = mkF m 0 #[.val (.ref x0), .val (.int x1)] [] := by first | (simp [entryFrame, mkF, argsToLocals, Value.category]; done) | rfl
def Q_mK (Z : State) (a : Addr) (pp : Int32) (oo : Addr) (co : Cell) (qq : Int32) (h0 : Heap) (n0 : Nat) (v : Option Value) (h : Heap) (L : List Loc) : Prop := v = some (.ref oo) ∧ Fr n0 L ∧ h = h0
set_option maxRecDepth 65536 in
set_option maxHeartbeats 40000000 in
theorem rm_mK (l : Launch) (Z : State) (a0 : Array Value) (hw : ∀ d ∈ tables_1, d.before a0 Z = true) (ws : List Jvm.Cond) (a : Addr) (pp : Int32) (oo : Addr) (co : Cell) (qq : Int32) (h0 : Heap) (n0 : Nat) (Z0 : n0 ≤ h0.size) (H0_E : Exa Z h0 a "com/example/granulock/granulock/ResourceTree$Ledger") (H1_F : Fld Z h0 a "com/example/granulock/granulock/ResourceTree$Ledger" "modes" "[I" (.ref oo)) (ga : n0 ≤ a) (hp0 : ¬ pp < (0 : Int32)) (hp63 : pp.toNatClampNeg ≤ 63) (H5_R : Arr Z h0 oo co .int) (hco : co.slots.size = qq.toNatClampNeg) (hq : ¬ qq < (0 : Int32)) (nao : a ≠ oo) (hge : ¬ (qq < pp)) :
    MetFree l (⟨"com/example/granulock/granulock/ResourceTree$Ledger", "modes", "(I)[I"⟩ : MethodName) (head1 (Jvm.Cond.code (⟨"com/example/granulock/granulock/ResourceTree$Ledger", "modes", "(I)[I"⟩ : MethodName) prog_43_method_4_code 2 (some (.array .int)) :: ws) ({ frames := 0, cells := 0, slots := 0, locals := 0 } : Room)) (fun as_ U_ => as_ = #[(.ref a), (.int pp)] ∧ Z.Warmed39 U_.vm ∧ U_.heap = h0) (fun _ _ _ _ _ => True) (fun _ U o U' => ∃ v L, o = .returned v ∧ Q_mK Z a pp oo co qq h0 n0 v U'.heap L ∧ FrameEnd U o U' L ({ frames := 0, cells := 0, slots := 0, locals := 0 } : Room).cells ({ frames := 0, cells := 0, slots := 0, locals := 0 } : Room).slots) := by
  refine MetFree.of_bodySF (plainFor_of_name pn_3) hisR ?_
  intro p e s m args below meth c s₁ Bd hml0 hP hK
  obtain ⟨rfl, hZ, hh⟩ := hP
  have hx := Bd.exec
  have hby := Bd.bytes
  have hml : c.maxLocals = 2 := hml0
  have hown : s.vm.findClass "com/example/granulock/granulock/ResourceTree$Ledger" = some m.cls := findClass_of_methodNamed Bd.named
  have hnm := (name_of_methodNamed Bd.named Bd.method).1
  have X0 : Stand p l e ({ frames := 0, cells := 0, slots := 0, locals := 0 } : Room) s m #[(.ref a), (.int pp)] below meth c s₁ [] 0 0 := Stand.of_body Bd
  have e0 : s₁.heap = h0 := by rw [← hh, Bd.state]; rfl
  have N0 := Fr.nil n0
  have pre0 : ∀ t, Steps p.tables e below (s₁.setTop (mkF m 0 #[.val (.ref a), .val (.int pp)] [])) t → Steps p.tables e below (s₁.setTop (entryFrame m #[(.ref a), (.int pp)] 2)) t := fun t k => castTop (ef_mK m a pp) k
  obtain ⟨T1, X1, e1, st1⟩ := getF X0 hx hZ hown (host := "") (Or.inl (hw _ (List.mem_of_getElem? (i := 32) rfl))) Via.refl e0 H1_F (g := (mkF m 1 #[.val (.ref a), .val (.int pp)] [(.ref a)])) rfl rfl (hb hby d6_1)
  obtain ⟨T2, X2, e2, st2⟩ := getF X1 hx hZ hown (host := "") (Or.inl (hw _ (List.mem_of_getElem? (i := 32) rfl))) Via.refl e1 H1_F (g := (mkF m 8 #[.val (.ref a), .val (.int pp)] [(.ref a)])) rfl rfl (hb hby d6_8)
  obtain ⟨T3, X3, e3, st3⟩ := getF X2 hx hZ hown (host := "") (Or.inl (hw _ (List.mem_of_getElem? (i := 32) rfl))) Via.refl e2 H1_F (g := (mkF m 24 #[.val (.ref a), .val (.int pp)] [(.ref a)])) rfl rfl (hb hby d6_24)
  have pre4 := fun (t : State) (k : Steps p.tables e below (T3.setTop (mkF m 27 #[.val (.ref a), .val (.int pp)] [(.ref oo)])) t) => pre0 t (by
    refine XS.aloadN X0.here hx rfl (hb hby d6_0) rfl rfl ?_
    show Steps p.tables e below (s₁.setTop (mkF m 1 #[.val (.ref a), .val (.int pp)] [(.ref a)])) _
    refine st1 _ ?_
    show Steps p.tables e below (T1.setTop (mkF m 4 #[.val (.ref a), .val (.int pp)] [(.ref oo)])) _
    refine XS.ifnullNo X1.here hx rfl (hb hby d6_4) rfl ?_
    show Steps p.tables e below (T1.setTop (mkF m 7 #[.val (.ref a), .val (.int pp)] [])) _
    refine XS.aloadN X1.here hx rfl (hb hby d6_7) rfl rfl ?_
    show Steps p.tables e below (T1.setTop (mkF m 8 #[.val (.ref a), .val (.int pp)] [(.ref a)])) _
    refine st2 _ ?_
    show Steps p.tables e below (T2.setTop (mkF m 11 #[.val (.ref a), .val (.int pp)] [(.ref oo)])) _
    refine X2.arraylength hx (by rw [e2]; exact H5_R.1) (State.isArrayOf_alike hZ.alike H5_R.2.1) (g := (mkF m 11 #[.val (.ref a), .val (.int pp)] [(.ref oo)])) rfl rfl (hb hby d6_11) _ ?_
    rw [show co.slots.size.toInt32 = qq from (len_of hco hq)]
    show Steps p.tables e below (T2.setTop (mkF m 12 #[.val (.ref a), .val (.int pp)] [(.int qq)])) _
    refine XS.iloadN X2.here hx rfl (hb hby d6_12) rfl ?_
    show Steps p.tables e below (T2.setTop (mkF m 13 #[.val (.ref a), .val (.int pp)] [(.int pp), (.int qq)])) _
    refine XS.icmpYes X2.here hx rfl (pc0 := 13) (pc' := 23) rfl (hb hby d6_13) rfl (flt hge).2.1 (by decide) (by decide) ?_
    show Steps p.tables e below (T2.setTop (mkF m 23 #[.val (.ref a), .val (.int pp)] [])) _
    refine XS.aloadN X2.here hx rfl (hb hby d6_23) rfl rfl ?_
    show Steps p.tables e below (T2.setTop (mkF m 24 #[.val (.ref a), .val (.int pp)] [(.ref a)])) _
    refine st3 _ ?_
    show Steps p.tables e below (T3.setTop (mkF m 27 #[.val (.ref a), .val (.int pp)] [(.ref oo)])) _
    exact k)
  obtain ⟨fs, hr, hrun, hended, hW, hsame⟩ := X3.leave (v := some (.ref oo)) (fun h => by rw [Bd.returns] at h; cases h)
  refine ⟨_, _, pre4 _ ?_, hrun, hended, _, _, rfl, ?_, ⟨_, rfl⟩, hW, hsame.mono (by decide) (by decide)⟩
  · jvm_step X3.here [X3.here.top, hx, (hb hby d6_27), X3.method', Bd.returns, Value.isRef, FieldType.isReference]
    first | (intro acts; rw [hr _ acts rfl rfl rfl]) | rw [hr _ _ rfl rfl rfl]
    exact Steps.refl _
  · show Q_mK Z a pp oo co qq h0 n0 _ T3.heap _
    rw [e3]
    exact ⟨rfl, N0, rfl⟩

theorem ef_law (m : MethodId) (x0 : Int32) (x1 : Int32) (x2 : Int32) : entryFrame m #[(.int x0), (.int x1), (.int x2)] maxLocals = mkF m 0 #[.val (.int x0), .val (.int x1), .val (.int x2), .unset, .unset, .unset, .unset, .unset, .unset, .unset, .unset] [] := by first | (simp [entryFrame, mkF, argsToLocals, Value.category, maxLocals]; done) | rfl
def Q_law (Z : State) (p1 : Int32) (p2 : Int32) (p3 : Int32) (wE : Addr) (h0 : Heap) (n0 : Nat) (v : Option Value) (h : Heap) (L : List Loc) : Prop := v = some (.int (1 : Int32)) ∧ Fr n0 L ∧ Keep h0 h []
set_option maxRecDepth 65536 in
set_option maxHeartbeats 40000000 in
theorem rm_law (l : Launch) (Z : State) (a0 : Array Value) (hw : ∀ d ∈ tables_1, d.before a0 Z = true) (ws : List Jvm.Cond) (p1 : Int32) (p2 : Int32) (p3 : Int32) (wE : Addr) (h0 : Heap) (n0 : Nat) (Z0 : n0 ≤ h0.size) (H0_S : Sta Z h0 "java/util/ImmutableCollections" "EMPTY_LIST" "Ljava/util/ImmutableCollections$ListN;" (.ref wE)) :
    MetFree l x (head1 (Jvm.Cond.code x code maxLocals ret :: ws) room_1) (fun as_ U_ => as_ = #[(.int p1), (.int p2), (.int p3)] ∧ Z.Warmed39 U_.vm ∧ U_.heap = h0) (fun _ _ _ _ _ => True) (fun _ U o U' => ∃ v L, o = .returned v ∧ Q_law Z p1 p2 p3 wE h0 n0 v U'.heap L ∧ FrameEnd U o U' L 4 194) := by
  refine MetFree.of_bodySF (plainFor_of_name pn_4) hisR ?_
  intro p e s m args below meth c s₁ Bd hml0 hP hK
  obtain ⟨rfl, hZ, hh⟩ := hP
  have hx := Bd.exec
  have hby := Bd.bytes
  have hml : c.maxLocals = 11 := hml0
  have hown : s.vm.findClass "com/example/granulock/granulock/LedgerModesPinLaw" = some m.cls := findClass_of_methodNamed Bd.named
  have hnm := (name_of_methodNamed Bd.named Bd.method).1
  have X0 : Stand p l e room_1 s m #[(.int p1), (.int p2), (.int p3)] below meth c s₁ [] 0 0 := Stand.of_body Bd
  have e0 : s₁.heap = h0 := by rw [← hh, Bd.state]; rfl
  have N0 := Fr.nil n0
  have pre0 : ∀ t, Steps p.tables e below (s₁.setTop (mkF m 0 #[.val (.int p1), .val (.int p2), .val (.int p3), .unset, .unset, .unset, .unset, .unset, .unset, .unset, .unset] [])) t → Steps p.tables e below (s₁.setTop (entryFrame m #[(.int p1), (.int p2), (.int p3)] maxLocals)) t := fun t k => castTop (ef_law m p1 p2 p3) k
  have K0 : Keep h0 h0 [] := Keep.refl h0 []
  obtain ⟨T1, h1, X1, e1, E1, A1, D1, -, st1⟩ := newO X0 hx hZ hown (hw _ (List.mem_of_getElem? (i := 0) rfl)) (hw _ (List.mem_of_getElem? (i := 1) rfl)) (hw _ (List.mem_of_getElem? (i := 2) rfl)) e0 (g := (mkF m 17 #[.val (.int p1), .val (.int p2), .val (.int p3), .val (.int (p1 &&& (63 : Int32))), .val (.int (p2 &&& (63 : Int32))), .val (.int (p3 &&& (63 : Int32))), .unset, .unset, .unset, .unset, .unset] [])) rfl (hb hby at_17) (by decide) (by decide)
  obtain ⟨b1, g1⟩ : ∃ z, z = h0.size := ⟨_, rfl⟩
  have ge_b1 : n0 ≤ b1 := Nat.le_trans Z0 (Nat.le_of_eq g1.symm)
  have sz_b1 : h0.size ≤ b1 := Nat.le_trans K0.1 (Nat.le_of_eq g1.symm)
  rw [← g1] at A1 D1 st1
  have S2 : Sta Z h1 "java/util/ImmutableCollections" "EMPTY_LIST" "Ljava/util/ImmutableCollections$ListN;" (.ref wE) := H0_S.ext E1
  have K1 : Keep h0 h1 [] := K0.ext E1
  have Zs3 : n0 ≤ h1.size := (Nat.le_trans Z0 E1.1)
  have F4 : Fld Z h1 b1 "com/example/granulock/granulock/ResourceTree$Ledger" "underway" "Ljava/util/List;" .null := D1 (Or.inl (hw _ (List.mem_of_getElem? (i := 26) rfl))) (ty := (.object "java/util/List")) (by decide)
  have F5 : Fld Z h1 b1 "com/example/granulock/granulock/ResourceTree$Ledger" "modes" "[I" .null := D1 (Or.inl (hw _ (List.mem_of_getElem? (i := 33) rfl))) (ty := (.array .int)) (by decide)
  obtain ⟨_, _, ⟨T6, L6, k6, n6⟩, -, X6, ⟨Lc6, hQ6, l6, y6, z6⟩, st6⟩ := X1.specialBack hx (y := (⟨"com/example/granulock/granulock/ResourceTree$Ledger", "<init>", "()V"⟩ : MethodName)) rfl hown (mvT hZ (hw _ (List.mem_of_getElem? (i := 3) rfl))) (mvT hZ (hw _ (List.mem_of_getElem? (i := 4) rfl))) (mvT hZ (hw _ (List.mem_of_getElem? (i := 5) rfl))) (by decide) (backOf (W := 1) (rm_ini l Z a0 hw [] b1 wE h1 n0 Zs3 A1 F4 F5 S2 ge_b1) hZ (hw _ (List.mem_of_getElem? (i := 5) rfl)) (hw _ (List.mem_of_getElem? (i := 2) rfl)) (by decide) (by decide)) (g := (mkF m 21 #[.val (.int p1), .val (.int p2), .val (.int p3), .val (.int (p1 &&& (63 : Int32))), .val (.int (p2 &&& (63 : Int32))), .val (.int (p3 &&& (63 : Int32))), .unset, .unset, .unset, .unset, .unset] [(.ref b1), (.ref b1)])) rfl (by rw [hml]; rfl) (Steps.refl _) (a := b1) (argsL := []) (rest := [(.ref b1)]) (lenOf pd_0 rfl) rfl (by show 2 * 0 + _ ≤ _; exact Nat.le_of_eq rfl) (hb hby at_21) (fun _ _ => ⟨rfl, e1, (by decide : 1 + 0 ≤ _), (by decide : 5 + 0 ≤ _)⟩)
  dsimp only [Pt.U, Pt.locs, Pt.cells, Pt.slots] at X6 l6 y6 z6 st6 hQ6
  subst l6 y6 z6
  obtain ⟨rfl, N6q, hq7, E8, F9⟩ := hQ6
  have N6 := Fr.app N0 N6q
  have S10 : Sta Z T6.heap "java/util/ImmutableCollections" "EMPTY_LIST" "Ljava/util/ImmutableCollections$ListN;" (.ref wE) := own_sta_keep S2 hq7 (allS (own_ns_exa A1) all0)
  have K6 : Keep h0 T6.heap [] := K1.trans hq7 (allS (Or.inr sz_b1) all0)
  have Zs11 : n0 ≤ T6.heap.size := (Nat.le_trans Zs3 hq7.1)
  obtain ⟨cq12, kq12, q12a, q12b, q12c⟩ := isOf hZ rfl E8
  obtain ⟨_, _, ⟨T12, L12, k12, n12⟩, -, X12, ⟨Lc12, hQ12, l12, y12, z12⟩, st12⟩ := X6.virtualBack hx (y := (⟨"com/example/granulock/granulock/ResourceTree$Ledger", "modes", "(I)[I"⟩ : MethodName)) (z := (⟨"com/example/granulock/granulock/ResourceTree$Ledger", "modes", "(I)[I"⟩ : MethodName)) hown (mvT hZ (hw _ (List.mem_of_getElem? (i := 27) rfl))) (mvT hZ (hw _ (List.mem_of_getElem? (i := 28) rfl))) (notFace_of_selects (args := #[]) (mvT hZ (hw _ (List.mem_of_getElem? (i := 30) rfl)))) (mvT hZ (hw _ (List.mem_of_getElem? (i := 30) rfl))) (mvT hZ (hw _ (List.mem_of_getElem? (i := 29) rfl))) (by decide) (backOf (W := 0) (rm_mN l Z a0 hw [] b1 (p1 &&& (63 : Int32)) T6.heap n0 Zs11 E8 F9 ge_b1 (own_63 p1).1 (own_63 p1).2) hZ (hw _ (List.mem_of_getElem? (i := 31) rfl)) (hw _ (List.mem_of_getElem? (i := 2) rfl)) (by decide) (by decide)) q12a q12c (g := (mkF m 29 #[.val (.int p1), .val (.int p2), .val (.int p3), .val (.int (p1 &&& (63 : Int32))), .val (.int (p2 &&& (63 : Int32))), .val (.int (p3 &&& (63 : Int32))), .val (.ref b1), .unset, .unset, .unset, .unset] [(.int (p1 &&& (63 : Int32))), (.ref b1)])) rfl (by rw [hml]; rfl) (Steps.refl _) (argsL := [(.int (p1 &&& (63 : Int32)))]) (rest := []) (lenOf pd_2 rfl) rfl (by show 2 * 0 + _ ≤ _; exact Nat.le_of_eq rfl) (hb hby at_29) (fun _ _ => ⟨rfl, rfl, (by decide : 1 + 1 ≤ _), (by decide : 5 + 63 ≤ _)⟩)
  dsimp only [Pt.U, Pt.locs, Pt.cells, Pt.slots] at X12 l12 y12 z12 st12 hQ12
  subst l12 y12 z12
  obtain ⟨x13, x14, rfl, N12q, hq15, p16, p17, E18, F19, R20⟩ := hQ12
  have N12 := Fr.app N6 N12q
  have lt21 : b1 < T6.heap.size := E8.lt
  have S22 : Sta Z T12.heap "java/util/ImmutableCollections" "EMPTY_LIST" "Ljava/util/ImmutableCollections$ListN;" (.ref wE) := own_sta_keep S10 hq15 (allS (own_ns_exa E8) all0)
  have K12 : Keep h0 T12.heap [] := K6.trans hq15 (allS (Or.inr sz_b1) all0)
  have Zs23 : n0 ≤ T12.heap.size := (Nat.le_trans Zs11 hq15.1)
  have ne24 : b1 ≠ x13 := Nat.ne_of_lt (Nat.lt_of_lt_of_le lt21 p17)
  have sz25 : h0.size ≤ x13 := Nat.le_trans K6.1 p17
  have pre26 := fun (t : State) (k : Steps p.tables e below (T12.setTop (mkF m 49 #[.val (.int p1), .val (.int p2), .val (.int p3), .val (.int (p1 &&& (63 : Int32))), .val (.int (p2 &&& (63 : Int32))), .val (.int (p3 &&& (63 : Int32))), .val (.ref b1), .val (.ref x13), .unset, .unset, .unset] [(.int (p1 &&& (63 : Int32)))])) t) => pre0 t (by
    refine XS.iloadN X0.here hx rfl (hb hby at_0) rfl ?_
    show Steps p.tables e below (s₁.setTop (mkF m 1 #[.val (.int p1), .val (.int p2), .val (.int p3), .unset, .unset, .unset, .unset, .unset, .unset, .unset, .unset] [(.int p1)])) _
    refine XS.bipush X0.here hx rfl (hb hby at_1) ?_
    show Steps p.tables e below (s₁.setTop (mkF m 3 #[.val (.int p1), .val (.int p2), .val (.int p3), .unset, .unset, .unset, .unset, .unset, .unset, .unset, .unset] [(.int (63 : Int32)), (.int p1)])) _
    refine XS.iand X0.here hx rfl (hb hby at_3) rfl ?_
    show Steps p.tables e below (s₁.setTop (mkF m 4 #[.val (.int p1), .val (.int p2), .val (.int p3), .unset, .unset, .unset, .unset, .unset, .unset, .unset, .unset] [(.int (p1 &&& (63 : Int32)))])) _
    refine XS.istoreN X0.here hx rfl (hb hby at_4) rfl (l' := #[.val (.int p1), .val (.int p2), .val (.int p3), .val (.int (p1 &&& (63 : Int32))), .unset, .unset, .unset, .unset, .unset, .unset, .unset]) rfl ?_
    show Steps p.tables e below (s₁.setTop (mkF m 5 #[.val (.int p1), .val (.int p2), .val (.int p3), .val (.int (p1 &&& (63 : Int32))), .unset, .unset, .unset, .unset, .unset, .unset, .unset] [])) _
    refine XS.iloadN X0.here hx rfl (hb hby at_5) rfl ?_
    show Steps p.tables e below (s₁.setTop (mkF m 6 #[.val (.int p1), .val (.int p2), .val (.int p3), .val (.int (p1 &&& (63 : Int32))), .unset, .unset, .unset, .unset, .unset, .unset, .unset] [(.int p2)])) _
    refine XS.bipush X0.here hx rfl (hb hby at_6) ?_
    show Steps p.tables e below (s₁.setTop (mkF m 8 #[.val (.int p1), .val (.int p2), .val (.int p3), .val (.int (p1 &&& (63 : Int32))), .unset, .unset, .unset, .unset, .unset, .unset, .unset] [(.int (63 : Int32)), (.int p2)])) _
    refine XS.iand X0.here hx rfl (hb hby at_8) rfl ?_
    show Steps p.tables e below (s₁.setTop (mkF m 9 #[.val (.int p1), .val (.int p2), .val (.int p3), .val (.int (p1 &&& (63 : Int32))), .unset, .unset, .unset, .unset, .unset, .unset, .unset] [(.int (p2 &&& (63 : Int32)))])) _
    refine XS.istore X0.here hx rfl (hb hby at_9) rfl (l' := #[.val (.int p1), .val (.int p2), .val (.int p3), .val (.int (p1 &&& (63 : Int32))), .val (.int (p2 &&& (63 : Int32))), .unset, .unset, .unset, .unset, .unset, .unset]) rfl ?_
    show Steps p.tables e below (s₁.setTop (mkF m 11 #[.val (.int p1), .val (.int p2), .val (.int p3), .val (.int (p1 &&& (63 : Int32))), .val (.int (p2 &&& (63 : Int32))), .unset, .unset, .unset, .unset, .unset, .unset] [])) _
    refine XS.iloadN X0.here hx rfl (hb hby at_11) rfl ?_
    show Steps p.tables e below (s₁.setTop (mkF m 12 #[.val (.int p1), .val (.int p2), .val (.int p3), .val (.int (p1 &&& (63 : Int32))), .val (.int (p2 &&& (63 : Int32))), .unset, .unset, .unset, .unset, .unset, .unset] [(.int p3)])) _
    refine XS.bipush X0.here hx rfl (hb hby at_12) ?_
    show Steps p.tables e below (s₁.setTop (mkF m 14 #[.val (.int p1), .val (.int p2), .val (.int p3), .val (.int (p1 &&& (63 : Int32))), .val (.int (p2 &&& (63 : Int32))), .unset, .unset, .unset, .unset, .unset, .unset] [(.int (63 : Int32)), (.int p3)])) _
    refine XS.iand X0.here hx rfl (hb hby at_14) rfl ?_
    show Steps p.tables e below (s₁.setTop (mkF m 15 #[.val (.int p1), .val (.int p2), .val (.int p3), .val (.int (p1 &&& (63 : Int32))), .val (.int (p2 &&& (63 : Int32))), .unset, .unset, .unset, .unset, .unset, .unset] [(.int (p3 &&& (63 : Int32)))])) _
    refine XS.istore X0.here hx rfl (hb hby at_15) rfl (l' := #[.val (.int p1), .val (.int p2), .val (.int p3), .val (.int (p1 &&& (63 : Int32))), .val (.int (p2 &&& (63 : Int32))), .val (.int (p3 &&& (63 : Int32))), .unset, .unset, .unset, .unset, .unset]) rfl ?_
    show Steps p.tables e below (s₁.setTop (mkF m 17 #[.val (.int p1), .val (.int p2), .val (.int p3), .val (.int (p1 &&& (63 : Int32))), .val (.int (p2 &&& (63 : Int32))), .val (.int (p3 &&& (63 : Int32))), .unset, .unset, .unset, .unset, .unset] [])) _
    refine st1 _ ?_
    show Steps p.tables e below (T1.setTop (mkF m 20 #[.val (.int p1), .val (.int p2), .val (.int p3), .val (.int (p1 &&& (63 : Int32))), .val (.int (p2 &&& (63 : Int32))), .val (.int (p3 &&& (63 : Int32))), .unset, .unset, .unset, .unset, .unset] [(.ref b1)])) _
    refine XS.dup X1.here hx rfl (hb hby at_20) rfl rfl ?_
    show Steps p.tables e below (T1.setTop (mkF m 21 #[.val (.int p1), .val (.int p2), .val (.int p3), .val (.int (p1 &&& (63 : Int32))), .val (.int (p2 &&& (63 : Int32))), .val (.int (p3 &&& (63 : Int32))), .unset, .unset, .unset, .unset, .unset] [(.ref b1), (.ref b1)])) _
    refine st6.trans ?_
    show Steps p.tables e below (T6.setTop (mkF m 24 #[.val (.int p1), .val (.int p2), .val (.int p3), .val (.int (p1 &&& (63 : Int32))), .val (.int (p2 &&& (63 : Int32))), .val (.int (p3 &&& (63 : Int32))), .unset, .unset, .unset, .unset, .unset] [(.ref b1)])) _
    refine XS.astore X6.here hx rfl (hb hby at_24) rfl rfl (l' := #[.val (.int p1), .val (.int p2), .val (.int p3), .val (.int (p1 &&& (63 : Int32))), .val (.int (p2 &&& (63 : Int32))), .val (.int (p3 &&& (63 : Int32))), .val (.ref b1), .unset, .unset, .unset, .unset]) rfl ?_
    show Steps p.tables e below (T6.setTop (mkF m 26 #[.val (.int p1), .val (.int p2), .val (.int p3), .val (.int (p1 &&& (63 : Int32))), .val (.int (p2 &&& (63 : Int32))), .val (.int (p3 &&& (63 : Int32))), .val (.ref b1), .unset, .unset, .unset, .unset] [])) _
    refine XS.aload X6.here hx rfl (hb hby at_26) rfl rfl ?_
    show Steps p.tables e below (T6.setTop (mkF m 28 #[.val (.int p1), .val (.int p2), .val (.int p3), .val (.int (p1 &&& (63 : Int32))), .val (.int (p2 &&& (63 : Int32))), .val (.int (p3 &&& (63 : Int32))), .val (.ref b1), .unset, .unset, .unset, .unset] [(.ref b1)])) _
    refine XS.iloadN X6.here hx rfl (hb hby at_28) rfl ?_
    show Steps p.tables e below (T6.setTop (mkF m 29 #[.val (.int p1), .val (.int p2), .val (.int p3), .val (.int (p1 &&& (63 : Int32))), .val (.int (p2 &&& (63 : Int32))), .val (.int (p3 &&& (63 : Int32))), .val (.ref b1), .unset, .unset, .unset, .unset] [(.int (p1 &&& (63 : Int32))), (.ref b1)])) _
    refine st12.trans ?_
    show Steps p.tables e below (T12.setTop (mkF m 32 #[.val (.int p1), .val (.int p2), .val (.int p3), .val (.int (p1 &&& (63 : Int32))), .val (.int (p2 &&& (63 : Int32))), .val (.int (p3 &&& (63 : Int32))), .val (.ref b1), .unset, .unset, .unset, .unset] [(.ref x13)])) _
    refine XS.astore X12.here hx rfl (hb hby at_32) rfl rfl (l' := #[.val (.int p1), .val (.int p2), .val (.int p3), .val (.int (p1 &&& (63 : Int32))), .val (.int (p2 &&& (63 : Int32))), .val (.int (p3 &&& (63 : Int32))), .val (.ref b1), .val (.ref x13), .unset, .unset, .unset]) rfl ?_
    show Steps p.tables e below (T12.setTop (mkF m 34 #[.val (.int p1), .val (.int p2), .val (.int p3), .val (.int (p1 &&& (63 : Int32))), .val (.int (p2 &&& (63 : Int32))), .val (.int (p3 &&& (63 : Int32))), .val (.ref b1), .val (.ref x13), .unset, .unset, .unset] [])) _
    refine XS.aload X12.here hx rfl (hb hby at_34) rfl rfl ?_
    show Steps p.tables e below (T12.setTop (mkF m 36 #[.val (.int p1), .val (.int p2), .val (.int p3), .val (.int (p1 &&& (63 : Int32))), .val (.int (p2 &&& (63 : Int32))), .val (.int (p3 &&& (63 : Int32))), .val (.ref b1), .val (.ref x13), .unset, .unset, .unset] [(.ref x13)])) _
    refine XS.ifnullNo X12.here hx rfl (hb hby at_36) rfl ?_
    show Steps p.tables e below (T12.setTop (mkF m 39 #[.val (.int p1), .val (.int p2), .val (.int p3), .val (.int (p1 &&& (63 : Int32))), .val (.int (p2 &&& (63 : Int32))), .val (.int (p3 &&& (63 : Int32))), .val (.ref b1), .val (.ref x13), .unset, .unset, .unset] [])) _
    refine XS.aload X12.here hx rfl (hb hby at_39) rfl rfl ?_
    show Steps p.tables e below (T12.setTop (mkF m 41 #[.val (.int p1), .val (.int p2), .val (.int p3), .val (.int (p1 &&& (63 : Int32))), .val (.int (p2 &&& (63 : Int32))), .val (.int (p3 &&& (63 : Int32))), .val (.ref b1), .val (.ref x13), .unset, .unset, .unset] [(.ref x13)])) _
    refine X12.arraylength hx R20.1 (State.isArrayOf_alike hZ.alike R20.2.1) (g := (mkF m 41 #[.val (.int p1), .val (.int p2), .val (.int p3), .val (.int (p1 &&& (63 : Int32))), .val (.int (p2 &&& (63 : Int32))), .val (.int (p3 &&& (63 : Int32))), .val (.ref b1), .val (.ref x13), .unset, .unset, .unset] [(.ref x13)])) rfl rfl (hb hby at_41) _ ?_
    rw [show (newA x14 .int (p1 &&& (63 : Int32))).slots.size.toInt32 = (p1 &&& (63 : Int32)) from (len_of (show (newA x14 .int (p1 &&& (63 : Int32))).slots.size = (p1 &&& (63 : Int32)).toNatClampNeg from (by simp only [sz_set, sz_new])) (own_63 p1).1)]
    show Steps p.tables e below (T12.setTop (mkF m 42 #[.val (.int p1), .val (.int p2), .val (.int p3), .val (.int (p1 &&& (63 : Int32))), .val (.int (p2 &&& (63 : Int32))), .val (.int (p3 &&& (63 : Int32))), .val (.ref b1), .val (.ref x13), .unset, .unset, .unset] [(.int (p1 &&& (63 : Int32)))])) _
    refine XS.iloadN X12.here hx rfl (hb hby at_42) rfl ?_
    show Steps p.tables e below (T12.setTop (mkF m 43 #[.val (.int p1), .val (.int p2), .val (.int p3), .val (.int (p1 &&& (63 : Int32))), .val (.int (p2 &&& (63 : Int32))), .val (.int (p3 &&& (63 : Int32))), .val (.ref b1), .val (.ref x13), .unset, .unset, .unset] [(.int (p1 &&& (63 : Int32))), (.int (p1 &&& (63 : Int32)))])) _
    refine XS.icmpYes X12.here hx rfl (pc0 := 43) (pc' := 48) rfl (hb hby at_43) rfl (teq (rfl : (p1 &&& (63 : Int32)) = (p1 &&& (63 : Int32)))).1 (by decide) (by decide) ?_
    show Steps p.tables e below (T12.setTop (mkF m 48 #[.val (.int p1), .val (.int p2), .val (.int p3), .val (.int (p1 &&& (63 : Int32))), .val (.int (p2 &&& (63 : Int32))), .val (.int (p3 &&& (63 : Int32))), .val (.ref b1), .val (.ref x13), .unset, .unset, .unset] [])) _
    refine XS.iloadN X12.here hx rfl (hb hby at_48) rfl ?_
    show Steps p.tables e below (T12.setTop (mkF m 49 #[.val (.int p1), .val (.int p2), .val (.int p3), .val (.int (p1 &&& (63 : Int32))), .val (.int (p2 &&& (63 : Int32))), .val (.int (p3 &&& (63 : Int32))), .val (.ref b1), .val (.ref x13), .unset, .unset, .unset] [(.int (p1 &&& (63 : Int32)))])) _
    exact k)
  by_cases hc27 : (0 : Int32) < (p1 &&& (63 : Int32))
  · have hin28 : ¬ ((0 : Int32) < 0 ∨ (newA x14 .int (p1 &&& (63 : Int32))).slots.size ≤ ((0 : Int32)).toNatClampNeg) := (inb_of (show (newA x14 .int (p1 &&& (63 : Int32))).slots.size = (p1 &&& (63 : Int32)).toNatClampNeg from (by simp only [sz_set, sz_new])) ⟨by decide, hc27⟩)
    have hin29 : ¬ (((p1 &&& (63 : Int32)) - (1 : Int32)) < 0 ∨ (newA x14 .int (p1 &&& (63 : Int32))).slots.size ≤ (((p1 &&& (63 : Int32)) - (1 : Int32))).toNatClampNeg) := (inb_of (show (newA x14 .int (p1 &&& (63 : Int32))).slots.size = (p1 &&& (63 : Int32)).toNatClampNeg from (by simp only [sz_set, sz_new])) (own_pred hc27))
    have hin30 : ¬ ((0 : Int32) < 0 ∨ (newA x14 .int (p1 &&& (63 : Int32))).slots.size ≤ ((0 : Int32)).toNatClampNeg) := (inb_of (show (newA x14 .int (p1 &&& (63 : Int32))).slots.size = (p1 &&& (63 : Int32)).toNatClampNeg from (by simp only [sz_set, sz_new])) ⟨by decide, hc27⟩)
    obtain ⟨T30, h30, X30, e30, W30, st30⟩ := stI X12 hx hZ rfl R20 (j := (0 : Int32)) hin30 (g := (mkF m 75 #[.val (.int p1), .val (.int p2), .val (.int p3), .val (.int (p1 &&& (63 : Int32))), .val (.int (p2 &&& (63 : Int32))), .val (.int (p3 &&& (63 : Int32))), .val (.ref b1), .val (.ref x13), .unset, .unset, .unset] [(.int (7 : Int32)), (.int (0 : Int32)), (.ref x13)])) rfl rfl (hb hby at_75)
    have V30 : Arr Z h30 x13 ((newA x14 .int (p1 &&& (63 : Int32))).setSlot ((0 : Int32)).toNatClampNeg (.int (7 : Int32))) .int := R20.same W30
    have S31 : Sta Z h30 "java/util/ImmutableCollections" "EMPTY_LIST" "Ljava/util/ImmutableCollections$ListN;" (.ref wE) := S22.wr W30
    have E32 : Exa Z h30 b1 "com/example/granulock/granulock/ResourceTree$Ledger" := E18.wr W30
    have F33 : Fld Z h30 b1 "com/example/granulock/granulock/ResourceTree$Ledger" "modes" "[I" (.ref x13) := F19.other W30 (Or.inl ne24)
    have N30 := Fr.snoc X30 N12 p16
    have K30 : Keep h0 h30 [] := K12.wr W30 (Or.inr sz25)
    have Zs34 : n0 ≤ h30.size := (Nat.le_trans Zs23 (Keep.of_wr W30).1)
    have hin35 : ¬ (((p1 &&& (63 : Int32)) - (1 : Int32)) < 0 ∨ ((newA x14 .int (p1 &&& (63 : Int32))).setSlot ((0 : Int32)).toNatClampNeg (.int (7 : Int32))).slots.size ≤ (((p1 &&& (63 : Int32)) - (1 : Int32))).toNatClampNeg) := (inb_of (show ((newA x14 .int (p1 &&& (63 : Int32))).setSlot ((0 : Int32)).toNatClampNeg (.int (7 : Int32))).slots.size = (p1 &&& (63 : Int32)).toNatClampNeg from (by simp only [sz_set, sz_new])) (own_pred hc27))
    obtain ⟨T35, h35, X35, e35, W35, st35⟩ := stI X30 hx hZ e30 V30 (j := ((p1 &&& (63 : Int32)) - (1 : Int32))) hin35 (g := (mkF m 83 #[.val (.int p1), .val (.int p2), .val (.int p3), .val (.int (p1 &&& (63 : Int32))), .val (.int (p2 &&& (63 : Int32))), .val (.int (p3 &&& (63 : Int32))), .val (.ref b1), .val (.ref x13), .unset, .unset, .unset] [(.int (7 : Int32)), (.int ((p1 &&& (63 : Int32)) - (1 : Int32))), (.ref x13)])) rfl rfl (hb hby at_83)
    have V35 : Arr Z h35 x13 (((newA x14 .int (p1 &&& (63 : Int32))).setSlot ((0 : Int32)).toNatClampNeg (.int (7 : Int32))).setSlot (((p1 &&& (63 : Int32)) - (1 : Int32))).toNatClampNeg (.int (7 : Int32))) .int := V30.same W35
    have S36 : Sta Z h35 "java/util/ImmutableCollections" "EMPTY_LIST" "Ljava/util/ImmutableCollections$ListN;" (.ref wE) := S31.wr W35
    have E37 : Exa Z h35 b1 "com/example/granulock/granulock/ResourceTree$Ledger" := E32.wr W35
    have F38 : Fld Z h35 b1 "com/example/granulock/granulock/ResourceTree$Ledger" "modes" "[I" (.ref x13) := F33.other W35 (Or.inl ne24)
    have N35 := Fr.snoc X35 N30 p16
    have K35 : Keep h0 h35 [] := K30.wr W35 (Or.inr sz25)
    have Zs39 : n0 ≤ h35.size := (Nat.le_trans Zs34 (Keep.of_wr W35).1)
    have pre40 := fun (t : State) (k : Steps p.tables e below (T35.setTop (mkF m 84 #[.val (.int p1), .val (.int p2), .val (.int p3), .val (.int (p1 &&& (63 : Int32))), .val (.int (p2 &&& (63 : Int32))), .val (.int (p3 &&& (63 : Int32))), .val (.ref b1), .val (.ref x13), .unset, .unset, .unset] [])) t) => pre26 t (by
      refine XS.ifNo X12.here hx rfl (hb hby at_49) rfl ((if0 _ _).trans (tlt hc27).2.2.2) ?_
      show Steps p.tables e below (T12.setTop (mkF m 52 #[.val (.int p1), .val (.int p2), .val (.int p3), .val (.int (p1 &&& (63 : Int32))), .val (.int (p2 &&& (63 : Int32))), .val (.int (p3 &&& (63 : Int32))), .val (.ref b1), .val (.ref x13), .unset, .unset, .unset] [])) _
      refine XS.aload X12.here hx rfl (hb hby at_52) rfl rfl ?_
      show Steps p.tables e below (T12.setTop (mkF m 54 #[.val (.int p1), .val (.int p2), .val (.int p3), .val (.int (p1 &&& (63 : Int32))), .val (.int (p2 &&& (63 : Int32))), .val (.int (p3 &&& (63 : Int32))), .val (.ref b1), .val (.ref x13), .unset, .unset, .unset] [(.ref x13)])) _
      refine XS.iconst X12.here hx rfl (hb hby at_54) ?_
      show Steps p.tables e below (T12.setTop (mkF m 55 #[.val (.int p1), .val (.int p2), .val (.int p3), .val (.int (p1 &&& (63 : Int32))), .val (.int (p2 &&& (63 : Int32))), .val (.int (p3 &&& (63 : Int32))), .val (.ref b1), .val (.ref x13), .unset, .unset, .unset] [(.int (0 : Int32)), (.ref x13)])) _
      refine X12.iaload hx (j := (0 : Int32)) (v := (.int (0 : Int32))) R20.1 (State.isArrayOf_alike hZ.alike R20.2.1) R20.2.2 hin28 (get_new (by have q := hin28; rw [sz_new] at q; exact q)) (g := (mkF m 55 #[.val (.int p1), .val (.int p2), .val (.int p3), .val (.int (p1 &&& (63 : Int32))), .val (.int (p2 &&& (63 : Int32))), .val (.int (p3 &&& (63 : Int32))), .val (.ref b1), .val (.ref x13), .unset, .unset, .unset] [(.int (0 : Int32)), (.ref x13)])) rfl rfl (hb hby at_55) _ ?_
      show Steps p.tables e below (T12.setTop (mkF m 56 #[.val (.int p1), .val (.int p2), .val (.int p3), .val (.int (p1 &&& (63 : Int32))), .val (.int (p2 &&& (63 : Int32))), .val (.int (p3 &&& (63 : Int32))), .val (.ref b1), .val (.ref x13), .unset, .unset, .unset] [(.int (0 : Int32))])) _
      refine XS.ifNo X12.here hx rfl (hb hby at_56) rfl ((if0 _ _).trans (teq (by decide : (0 : Int32) = (0 : Int32))).2) ?_
      show Steps p.tables e below (T12.setTop (mkF m 59 #[.val (.int p1), .val (.int p2), .val (.int p3), .val (.int (p1 &&& (63 : Int32))), .val (.int (p2 &&& (63 : Int32))), .val (.int (p3 &&& (63 : Int32))), .val (.ref b1), .val (.ref x13), .unset, .unset, .unset] [])) _
      refine XS.aload X12.here hx rfl (hb hby at_59) rfl rfl ?_
      show Steps p.tables e below (T12.setTop (mkF m 61 #[.val (.int p1), .val (.int p2), .val (.int p3), .val (.int (p1 &&& (63 : Int32))), .val (.int (p2 &&& (63 : Int32))), .val (.int (p3 &&& (63 : Int32))), .val (.ref b1), .val (.ref x13), .unset, .unset, .unset] [(.ref x13)])) _
      refine XS.iloadN X12.here hx rfl (hb hby at_61) rfl ?_
      show Steps p.tables e below (T12.setTop (mkF m 62 #[.val (.int p1), .val (.int p2), .val (.int p3), .val (.int (p1 &&& (63 : Int32))), .val (.int (p2 &&& (63 : Int32))), .val (.int (p3 &&& (63 : Int32))), .val (.ref b1), .val (.ref x13), .unset, .unset, .unset] [(.int (p1 &&& (63 : Int32))), (.ref x13)])) _
      refine XS.iconst X12.here hx rfl (hb hby at_62) ?_
      show Steps p.tables e below (T12.setTop (mkF m 63 #[.val (.int p1), .val (.int p2), .val (.int p3), .val (.int (p1 &&& (63 : Int32))), .val (.int (p2 &&& (63 : Int32))), .val (.int (p3 &&& (63 : Int32))), .val (.ref b1), .val (.ref x13), .unset, .unset, .unset] [(.int (1 : Int32)), (.int (p1 &&& (63 : Int32))), (.ref x13)])) _
      refine XS.isub X12.here hx rfl (hb hby at_63) rfl ?_
      show Steps p.tables e below (T12.setTop (mkF m 64 #[.val (.int p1), .val (.int p2), .val (.int p3), .val (.int (p1 &&& (63 : Int32))), .val (.int (p2 &&& (63 : Int32))), .val (.int (p3 &&& (63 : Int32))), .val (.ref b1), .val (.ref x13), .unset, .unset, .unset] [(.int ((p1 &&& (63 : Int32)) - (1 : Int32))), (.ref x13)])) _
      refine X12.iaload hx (j := ((p1 &&& (63 : Int32)) - (1 : Int32))) (v := (.int (0 : Int32))) R20.1 (State.isArrayOf_alike hZ.alike R20.2.1) R20.2.2 hin29 (get_new (by have q := hin29; rw [sz_new] at q; exact q)) (g := (mkF m 64 #[.val (.int p1), .val (.int p2), .val (.int p3), .val (.int (p1 &&& (63 : Int32))), .val (.int (p2 &&& (63 : Int32))), .val (.int (p3 &&& (63 : Int32))), .val (.ref b1), .val (.ref x13), .unset, .unset, .unset] [(.int ((p1 &&& (63 : Int32)) - (1 : Int32))), (.ref x13)])) rfl rfl (hb hby at_64) _ ?_
      show Steps p.tables e below (T12.setTop (mkF m 65 #[.val (.int p1), .val (.int p2), .val (.int p3), .val (.int (p1 &&& (63 : Int32))), .val (.int (p2 &&& (63 : Int32))), .val (.int (p3 &&& (63 : Int32))), .val (.ref b1), .val (.ref x13), .unset, .unset, .unset] [(.int (0 : Int32))])) _
      refine XS.ifYes X12.here hx rfl (pc0 := 65) (pc' := 70) rfl (hb hby at_65) rfl ((if0 _ _).trans (teq (by decide : (0 : Int32) = (0 : Int32))).1) (by decide) (by decide) ?_
      show Steps p.tables e below (T12.setTop (mkF m 70 #[.val (.int p1), .val (.int p2), .val (.int p3), .val (.int (p1 &&& (63 : Int32))), .val (.int (p2 &&& (63 : Int32))), .val (.int (p3 &&& (63 : Int32))), .val (.ref b1), .val (.ref x13), .unset, .unset, .unset] [])) _
      refine XS.aload X12.here hx rfl (hb hby at_70) rfl rfl ?_
      show Steps p.tables e below (T12.setTop (mkF m 72 #[.val (.int p1), .val (.int p2), .val (.int p3), .val (.int (p1 &&& (63 : Int32))), .val (.int (p2 &&& (63 : Int32))), .val (.int (p3 &&& (63 : Int32))), .val (.ref b1), .val (.ref x13), .unset, .unset, .unset] [(.ref x13)])) _
      refine XS.iconst X12.here hx rfl (hb hby at_72) ?_
      show Steps p.tables e below (T12.setTop (mkF m 73 #[.val (.int p1), .val (.int p2), .val (.int p3), .val (.int (p1 &&& (63 : Int32))), .val (.int (p2 &&& (63 : Int32))), .val (.int (p3 &&& (63 : Int32))), .val (.ref b1), .val (.ref x13), .unset, .unset, .unset] [(.int (0 : Int32)), (.ref x13)])) _
      refine XS.bipush X12.here hx rfl (hb hby at_73) ?_
      show Steps p.tables e below (T12.setTop (mkF m 75 #[.val (.int p1), .val (.int p2), .val (.int p3), .val (.int (p1 &&& (63 : Int32))), .val (.int (p2 &&& (63 : Int32))), .val (.int (p3 &&& (63 : Int32))), .val (.ref b1), .val (.ref x13), .unset, .unset, .unset] [(.int (7 : Int32)), (.int (0 : Int32)), (.ref x13)])) _
      refine st30 _ ?_
      show Steps p.tables e below (T30.setTop (mkF m 76 #[.val (.int p1), .val (.int p2), .val (.int p3), .val (.int (p1 &&& (63 : Int32))), .val (.int (p2 &&& (63 : Int32))), .val (.int (p3 &&& (63 : Int32))), .val (.ref b1), .val (.ref x13), .unset, .unset, .unset] [])) _
      refine XS.aload X30.here hx rfl (hb hby at_76) rfl rfl ?_
      show Steps p.tables e below (T30.setTop (mkF m 78 #[.val (.int p1), .val (.int p2), .val (.int p3), .val (.int (p1 &&& (63 : Int32))), .val (.int (p2 &&& (63 : Int32))), .val (.int (p3 &&& (63 : Int32))), .val (.ref b1), .val (.ref x13), .unset, .unset, .unset] [(.ref x13)])) _
      refine XS.iloadN X30.here hx rfl (hb hby at_78) rfl ?_
      show Steps p.tables e below (T30.setTop (mkF m 79 #[.val (.int p1), .val (.int p2), .val (.int p3), .val (.int (p1 &&& (63 : Int32))), .val (.int (p2 &&& (63 : Int32))), .val (.int (p3 &&& (63 : Int32))), .val (.ref b1), .val (.ref x13), .unset, .unset, .unset] [(.int (p1 &&& (63 : Int32))), (.ref x13)])) _
      refine XS.iconst X30.here hx rfl (hb hby at_79) ?_
      show Steps p.tables e below (T30.setTop (mkF m 80 #[.val (.int p1), .val (.int p2), .val (.int p3), .val (.int (p1 &&& (63 : Int32))), .val (.int (p2 &&& (63 : Int32))), .val (.int (p3 &&& (63 : Int32))), .val (.ref b1), .val (.ref x13), .unset, .unset, .unset] [(.int (1 : Int32)), (.int (p1 &&& (63 : Int32))), (.ref x13)])) _
      refine XS.isub X30.here hx rfl (hb hby at_80) rfl ?_
      show Steps p.tables e below (T30.setTop (mkF m 81 #[.val (.int p1), .val (.int p2), .val (.int p3), .val (.int (p1 &&& (63 : Int32))), .val (.int (p2 &&& (63 : Int32))), .val (.int (p3 &&& (63 : Int32))), .val (.ref b1), .val (.ref x13), .unset, .unset, .unset] [(.int ((p1 &&& (63 : Int32)) - (1 : Int32))), (.ref x13)])) _
      refine XS.bipush X30.here hx rfl (hb hby at_81) ?_
      show Steps p.tables e below (T30.setTop (mkF m 83 #[.val (.int p1), .val (.int p2), .val (.int p3), .val (.int (p1 &&& (63 : Int32))), .val (.int (p2 &&& (63 : Int32))), .val (.int (p3 &&& (63 : Int32))), .val (.ref b1), .val (.ref x13), .unset, .unset, .unset] [(.int (7 : Int32)), (.int ((p1 &&& (63 : Int32)) - (1 : Int32))), (.ref x13)])) _
      refine st35 _ ?_
      show Steps p.tables e below (T35.setTop (mkF m 84 #[.val (.int p1), .val (.int p2), .val (.int p3), .val (.int (p1 &&& (63 : Int32))), .val (.int (p2 &&& (63 : Int32))), .val (.int (p3 &&& (63 : Int32))), .val (.ref b1), .val (.ref x13), .unset, .unset, .unset] [])) _
      exact k)
    by_cases hs41 : (p1 &&& (63 : Int32)) < (p2 &&& (63 : Int32))
    · obtain ⟨cq42, kq42, q42a, q42b, q42c⟩ := isOf hZ e35 E37
      obtain ⟨_, _, ⟨T42, L42, k42, n42⟩, -, X42, ⟨Lc42, hQ42, l42, y42, z42⟩, st42⟩ := X35.virtualBack hx (y := (⟨"com/example/granulock/granulock/ResourceTree$Ledger", "modes", "(I)[I"⟩ : MethodName)) (z := (⟨"com/example/granulock/granulock/ResourceTree$Ledger", "modes", "(I)[I"⟩ : MethodName)) hown (mvT hZ (hw _ (List.mem_of_getElem? (i := 27) rfl))) (mvT hZ (hw _ (List.mem_of_getElem? (i := 28) rfl))) (notFace_of_selects (args := #[]) (mvT hZ (hw _ (List.mem_of_getElem? (i := 30) rfl)))) (mvT hZ (hw _ (List.mem_of_getElem? (i := 30) rfl))) (mvT hZ (hw _ (List.mem_of_getElem? (i := 29) rfl))) (by decide) (backOf (W := 0) (rm_mG l Z a0 hw [] b1 (p2 &&& (63 : Int32)) x13 (((newA x14 .int (p1 &&& (63 : Int32))).setSlot ((0 : Int32)).toNatClampNeg (.int (7 : Int32))).setSlot (((p1 &&& (63 : Int32)) - (1 : Int32))).toNatClampNeg (.int (7 : Int32))) (p1 &&& (63 : Int32)) h35 n0 Zs39 E37 F38 ge_b1 (own_63 p2).1 (own_63 p2).2 V35 (by simp only [sz_set, sz_new]) (own_63 p1).1 ne24 hs41) hZ (hw _ (List.mem_of_getElem? (i := 31) rfl)) (hw _ (List.mem_of_getElem? (i := 2) rfl)) (by decide) (by decide)) q42a q42c (g := (mkF m 88 #[.val (.int p1), .val (.int p2), .val (.int p3), .val (.int (p1 &&& (63 : Int32))), .val (.int (p2 &&& (63 : Int32))), .val (.int (p3 &&& (63 : Int32))), .val (.ref b1), .val (.ref x13), .unset, .unset, .unset] [(.int (p2 &&& (63 : Int32))), (.ref b1)])) rfl (by rw [hml]; rfl) (Steps.refl _) (argsL := [(.int (p2 &&& (63 : Int32)))]) (rest := []) (lenOf pd_2 rfl) rfl (by show 2 * 0 + _ ≤ _; exact Nat.le_of_eq rfl) (hb hby at_88) (fun _ _ => ⟨rfl, e35, (by decide : 2 + 1 ≤ _), (by decide : 68 + 63 ≤ _)⟩)
      dsimp only [Pt.U, Pt.locs, Pt.cells, Pt.slots] at X42 l42 y42 z42 st42 hQ42
      subst l42 y42 z42
      obtain ⟨x43, x44, rfl, N42q, hq45, p46, p47, E48, F49, R50⟩ := hQ42
      have N42 := Fr.app N35 N42q
      have lt51 : b1 < h35.size := E37.lt
      have lt52 : x13 < h35.size := V35.lt
      have S53 : Sta Z T42.heap "java/util/ImmutableCollections" "EMPTY_LIST" "Ljava/util/ImmutableCollections$ListN;" (.ref wE) := own_sta_keep S36 hq45 (allS (own_ns_exa E37) all0)
      have R54 : Arr Z T42.heap x13 (((newA x14 .int (p1 &&& (63 : Int32))).setSlot ((0 : Int32)).toNatClampNeg (.int (7 : Int32))).setSlot (((p1 &&& (63 : Int32)) - (1 : Int32))).toNatClampNeg (.int (7 : Int32))) .int := own_arr_keep V35 hq45 (ninS (Ne.symm ne24) nin0)
      have K42 : Keep h0 T42.heap [] := K35.trans hq45 (allS (Or.inr sz_b1) all0)
      have Zs55 : n0 ≤ T42.heap.size := (Nat.le_trans Zs39 hq45.1)
      have ne56 : b1 ≠ x43 := Nat.ne_of_lt (Nat.lt_of_lt_of_le lt51 p47)
      have ne57 : x13 ≠ x43 := Nat.ne_of_lt (Nat.lt_of_lt_of_le lt52 p47)
      have sz58 : h0.size ≤ x43 := Nat.le_trans K35.1 p47
      have hin59 : ¬ ((0 : Int32) < 0 ∨ (newA x44 .int (p2 &&& (63 : Int32))).slots.size ≤ ((0 : Int32)).toNatClampNeg) := (inb_of (show (newA x44 .int (p2 &&& (63 : Int32))).slots.size = (p2 &&& (63 : Int32)).toNatClampNeg from (by simp only [sz_set, sz_new])) ⟨by decide, (own_pos (own_63 p1).1 hs41)⟩)
      have hin60 : ¬ (((p2 &&& (63 : Int32)) - (1 : Int32)) < 0 ∨ (newA x44 .int (p2 &&& (63 : Int32))).slots.size ≤ (((p2 &&& (63 : Int32)) - (1 : Int32))).toNatClampNeg) := (inb_of (show (newA x44 .int (p2 &&& (63 : Int32))).slots.size = (p2 &&& (63 : Int32)).toNatClampNeg from (by simp only [sz_set, sz_new])) (own_pred (own_pos (own_63 p1).1 hs41)))
      have hin61 : ¬ ((0 : Int32) < 0 ∨ (newA x44 .int (p2 &&& (63 : Int32))).slots.size ≤ ((0 : Int32)).toNatClampNeg) := (inb_of (show (newA x44 .int (p2 &&& (63 : Int32))).slots.size = (p2 &&& (63 : Int32)).toNatClampNeg from (by simp only [sz_set, sz_new])) ⟨by decide, (own_pos (own_63 p1).1 hs41)⟩)
      obtain ⟨T61, h61, X61, e61, W61, st61⟩ := stI X42 hx hZ rfl R50 (j := (0 : Int32)) hin61 (g := (mkF m 161 #[.val (.int p1), .val (.int p2), .val (.int p3), .val (.int (p1 &&& (63 : Int32))), .val (.int (p2 &&& (63 : Int32))), .val (.int (p3 &&& (63 : Int32))), .val (.ref b1), .val (.ref x13), .val (.ref x43), .unset, .unset] [(.int (9 : Int32)), (.int (0 : Int32)), (.ref x43)])) rfl rfl (hb hby at_161)
      have V61 : Arr Z h61 x43 ((newA x44 .int (p2 &&& (63 : Int32))).setSlot ((0 : Int32)).toNatClampNeg (.int (9 : Int32))) .int := R50.same W61
      have S62 : Sta Z h61 "java/util/ImmutableCollections" "EMPTY_LIST" "Ljava/util/ImmutableCollections$ListN;" (.ref wE) := S53.wr W61
      have R63 : Arr Z h61 x13 (((newA x14 .int (p1 &&& (63 : Int32))).setSlot ((0 : Int32)).toNatClampNeg (.int (7 : Int32))).setSlot (((p1 &&& (63 : Int32)) - (1 : Int32))).toNatClampNeg (.int (7 : Int32))) .int := R54.other W61 ne57
      have E64 : Exa Z h61 b1 "com/example/granulock/granulock/ResourceTree$Ledger" := E48.wr W61
      have F65 : Fld Z h61 b1 "com/example/granulock/granulock/ResourceTree$Ledger" "modes" "[I" (.ref x43) := F49.other W61 (Or.inl ne56)
      have N61 := Fr.snoc X61 N42 p46
      have K61 : Keep h0 h61 [] := K42.wr W61 (Or.inr sz58)
      have Zs66 : n0 ≤ h61.size := (Nat.le_trans Zs55 (Keep.of_wr W61).1)
      have hin67 : ¬ (((p2 &&& (63 : Int32)) - (1 : Int32)) < 0 ∨ ((newA x44 .int (p2 &&& (63 : Int32))).setSlot ((0 : Int32)).toNatClampNeg (.int (9 : Int32))).slots.size ≤ (((p2 &&& (63 : Int32)) - (1 : Int32))).toNatClampNeg) := (inb_of (show ((newA x44 .int (p2 &&& (63 : Int32))).setSlot ((0 : Int32)).toNatClampNeg (.int (9 : Int32))).slots.size = (p2 &&& (63 : Int32)).toNatClampNeg from (by simp only [sz_set, sz_new])) (own_pred (own_pos (own_63 p1).1 hs41)))
      obtain ⟨T67, h67, X67, e67, W67, st67⟩ := stI X61 hx hZ e61 V61 (j := ((p2 &&& (63 : Int32)) - (1 : Int32))) hin67 (g := (mkF m 170 #[.val (.int p1), .val (.int p2), .val (.int p3), .val (.int (p1 &&& (63 : Int32))), .val (.int (p2 &&& (63 : Int32))), .val (.int (p3 &&& (63 : Int32))), .val (.ref b1), .val (.ref x13), .val (.ref x43), .unset, .unset] [(.int (9 : Int32)), (.int ((p2 &&& (63 : Int32)) - (1 : Int32))), (.ref x43)])) rfl rfl (hb hby at_170)
      have V67 : Arr Z h67 x43 (((newA x44 .int (p2 &&& (63 : Int32))).setSlot ((0 : Int32)).toNatClampNeg (.int (9 : Int32))).setSlot (((p2 &&& (63 : Int32)) - (1 : Int32))).toNatClampNeg (.int (9 : Int32))) .int := V61.same W67
      have S68 : Sta Z h67 "java/util/ImmutableCollections" "EMPTY_LIST" "Ljava/util/ImmutableCollections$ListN;" (.ref wE) := S62.wr W67
      have R69 : Arr Z h67 x13 (((newA x14 .int (p1 &&& (63 : Int32))).setSlot ((0 : Int32)).toNatClampNeg (.int (7 : Int32))).setSlot (((p1 &&& (63 : Int32)) - (1 : Int32))).toNatClampNeg (.int (7 : Int32))) .int := R63.other W67 ne57
      have E70 : Exa Z h67 b1 "com/example/granulock/granulock/ResourceTree$Ledger" := E64.wr W67
      have F71 : Fld Z h67 b1 "com/example/granulock/granulock/ResourceTree$Ledger" "modes" "[I" (.ref x43) := F65.other W67 (Or.inl ne56)
      have N67 := Fr.snoc X67 N61 p46
      have K67 : Keep h0 h67 [] := K61.wr W67 (Or.inr sz58)
      have Zs72 : n0 ≤ h67.size := (Nat.le_trans Zs66 (Keep.of_wr W67).1)
      have pre73 := fun (t : State) (k : Steps p.tables e below (T67.setTop (mkF m 175 #[.val (.int p1), .val (.int p2), .val (.int p3), .val (.int (p1 &&& (63 : Int32))), .val (.int (p2 &&& (63 : Int32))), .val (.int (p3 &&& (63 : Int32))), .val (.ref b1), .val (.ref x13), .val (.ref x43), .val (.ref x43), .unset] [])) t) => pre40 t (by
        refine XS.aload X35.here hx rfl (hb hby at_84) rfl rfl ?_
        show Steps p.tables e below (T35.setTop (mkF m 86 #[.val (.int p1), .val (.int p2), .val (.int p3), .val (.int (p1 &&& (63 : Int32))), .val (.int (p2 &&& (63 : Int32))), .val (.int (p3 &&& (63 : Int32))), .val (.ref b1), .val (.ref x13), .unset, .unset, .unset] [(.ref b1)])) _
        refine XS.iload X35.here hx rfl (hb hby at_86) rfl ?_
        show Steps p.tables e below (T35.setTop (mkF m 88 #[.val (.int p1), .val (.int p2), .val (.int p3), .val (.int (p1 &&& (63 : Int32))), .val (.int (p2 &&& (63 : Int32))), .val (.int (p3 &&& (63 : Int32))), .val (.ref b1), .val (.ref x13), .unset, .unset, .unset] [(.int (p2 &&& (63 : Int32))), (.ref b1)])) _
        refine st42.trans ?_
        show Steps p.tables e below (T42.setTop (mkF m 91 #[.val (.int p1), .val (.int p2), .val (.int p3), .val (.int (p1 &&& (63 : Int32))), .val (.int (p2 &&& (63 : Int32))), .val (.int (p3 &&& (63 : Int32))), .val (.ref b1), .val (.ref x13), .unset, .unset, .unset] [(.ref x43)])) _
        refine XS.astore X42.here hx rfl (hb hby at_91) rfl rfl (l' := #[.val (.int p1), .val (.int p2), .val (.int p3), .val (.int (p1 &&& (63 : Int32))), .val (.int (p2 &&& (63 : Int32))), .val (.int (p3 &&& (63 : Int32))), .val (.ref b1), .val (.ref x13), .val (.ref x43), .unset, .unset]) rfl ?_
        show Steps p.tables e below (T42.setTop (mkF m 93 #[.val (.int p1), .val (.int p2), .val (.int p3), .val (.int (p1 &&& (63 : Int32))), .val (.int (p2 &&& (63 : Int32))), .val (.int (p3 &&& (63 : Int32))), .val (.ref b1), .val (.ref x13), .val (.ref x43), .unset, .unset] [])) _
        refine XS.aload X42.here hx rfl (hb hby at_93) rfl rfl ?_
        show Steps p.tables e below (T42.setTop (mkF m 95 #[.val (.int p1), .val (.int p2), .val (.int p3), .val (.int (p1 &&& (63 : Int32))), .val (.int (p2 &&& (63 : Int32))), .val (.int (p3 &&& (63 : Int32))), .val (.ref b1), .val (.ref x13), .val (.ref x43), .unset, .unset] [(.ref x43)])) _
        refine XS.ifnonnullYes X42.here hx rfl (pc0 := 95) (pc' := 100) rfl (hb hby at_95) rfl (by decide) (by decide) ?_
        show Steps p.tables e below (T42.setTop (mkF m 100 #[.val (.int p1), .val (.int p2), .val (.int p3), .val (.int (p1 &&& (63 : Int32))), .val (.int (p2 &&& (63 : Int32))), .val (.int (p3 &&& (63 : Int32))), .val (.ref b1), .val (.ref x13), .val (.ref x43), .unset, .unset] [])) _
        refine XS.iload X42.here hx rfl (hb hby at_100) rfl ?_
        show Steps p.tables e below (T42.setTop (mkF m 102 #[.val (.int p1), .val (.int p2), .val (.int p3), .val (.int (p1 &&& (63 : Int32))), .val (.int (p2 &&& (63 : Int32))), .val (.int (p3 &&& (63 : Int32))), .val (.ref b1), .val (.ref x13), .val (.ref x43), .unset, .unset] [(.int (p2 &&& (63 : Int32)))])) _
        refine XS.iloadN X42.here hx rfl (hb hby at_102) rfl ?_
        show Steps p.tables e below (T42.setTop (mkF m 103 #[.val (.int p1), .val (.int p2), .val (.int p3), .val (.int (p1 &&& (63 : Int32))), .val (.int (p2 &&& (63 : Int32))), .val (.int (p3 &&& (63 : Int32))), .val (.ref b1), .val (.ref x13), .val (.ref x43), .unset, .unset] [(.int (p1 &&& (63 : Int32))), (.int (p2 &&& (63 : Int32)))])) _
        refine XS.icmpYes X42.here hx rfl (pc0 := 103) (pc' := 122) rfl (hb hby at_103) rfl (tlt hs41).2.2.1 (by decide) (by decide) ?_
        show Steps p.tables e below (T42.setTop (mkF m 122 #[.val (.int p1), .val (.int p2), .val (.int p3), .val (.int (p1 &&& (63 : Int32))), .val (.int (p2 &&& (63 : Int32))), .val (.int (p3 &&& (63 : Int32))), .val (.ref b1), .val (.ref x13), .val (.ref x43), .unset, .unset] [])) _
        refine XS.aload X42.here hx rfl (hb hby at_122) rfl rfl ?_
        show Steps p.tables e below (T42.setTop (mkF m 124 #[.val (.int p1), .val (.int p2), .val (.int p3), .val (.int (p1 &&& (63 : Int32))), .val (.int (p2 &&& (63 : Int32))), .val (.int (p3 &&& (63 : Int32))), .val (.ref b1), .val (.ref x13), .val (.ref x43), .unset, .unset] [(.ref x43)])) _
        refine XS.aload X42.here hx rfl (hb hby at_124) rfl rfl ?_
        show Steps p.tables e below (T42.setTop (mkF m 126 #[.val (.int p1), .val (.int p2), .val (.int p3), .val (.int (p1 &&& (63 : Int32))), .val (.int (p2 &&& (63 : Int32))), .val (.int (p3 &&& (63 : Int32))), .val (.ref b1), .val (.ref x13), .val (.ref x43), .unset, .unset] [(.ref x13), (.ref x43)])) _
        refine Jvm.RoadKit.acmp (g := (mkF m 126 #[.val (.int p1), .val (.int p2), .val (.int p3), .val (.int (p1 &&& (63 : Int32))), .val (.int (p2 &&& (63 : Int32))), .val (.int (p3 &&& (63 : Int32))), .val (.ref b1), .val (.ref x13), .val (.ref x43), .unset, .unset] [(.ref x13), (.ref x43)])) X42 hx rfl rfl rfl (pc0 := 126) (pc' := 129) (same := false) rfl (hb hby at_126) rfl (decide_eq_false fun q => (Ne.symm ne57) (Value.ref.inj q)) (by decide) (by decide) ?_
        show Steps p.tables e below (T42.setTop (mkF m 129 #[.val (.int p1), .val (.int p2), .val (.int p3), .val (.int (p1 &&& (63 : Int32))), .val (.int (p2 &&& (63 : Int32))), .val (.int (p3 &&& (63 : Int32))), .val (.ref b1), .val (.ref x13), .val (.ref x43), .unset, .unset] [])) _
        refine XS.aload X42.here hx rfl (hb hby at_129) rfl rfl ?_
        show Steps p.tables e below (T42.setTop (mkF m 131 #[.val (.int p1), .val (.int p2), .val (.int p3), .val (.int (p1 &&& (63 : Int32))), .val (.int (p2 &&& (63 : Int32))), .val (.int (p3 &&& (63 : Int32))), .val (.ref b1), .val (.ref x13), .val (.ref x43), .unset, .unset] [(.ref x43)])) _
        refine X42.arraylength hx R50.1 (State.isArrayOf_alike hZ.alike R50.2.1) (g := (mkF m 131 #[.val (.int p1), .val (.int p2), .val (.int p3), .val (.int (p1 &&& (63 : Int32))), .val (.int (p2 &&& (63 : Int32))), .val (.int (p3 &&& (63 : Int32))), .val (.ref b1), .val (.ref x13), .val (.ref x43), .unset, .unset] [(.ref x43)])) rfl rfl (hb hby at_131) _ ?_
        rw [show (newA x44 .int (p2 &&& (63 : Int32))).slots.size.toInt32 = (p2 &&& (63 : Int32)) from (len_of (show (newA x44 .int (p2 &&& (63 : Int32))).slots.size = (p2 &&& (63 : Int32)).toNatClampNeg from (by simp only [sz_set, sz_new])) (own_63 p2).1)]
        show Steps p.tables e below (T42.setTop (mkF m 132 #[.val (.int p1), .val (.int p2), .val (.int p3), .val (.int (p1 &&& (63 : Int32))), .val (.int (p2 &&& (63 : Int32))), .val (.int (p3 &&& (63 : Int32))), .val (.ref b1), .val (.ref x13), .val (.ref x43), .unset, .unset] [(.int (p2 &&& (63 : Int32)))])) _
        refine XS.iload X42.here hx rfl (hb hby at_132) rfl ?_
        show Steps p.tables e below (T42.setTop (mkF m 134 #[.val (.int p1), .val (.int p2), .val (.int p3), .val (.int (p1 &&& (63 : Int32))), .val (.int (p2 &&& (63 : Int32))), .val (.int (p3 &&& (63 : Int32))), .val (.ref b1), .val (.ref x13), .val (.ref x43), .unset, .unset] [(.int (p2 &&& (63 : Int32))), (.int (p2 &&& (63 : Int32)))])) _
        refine XS.icmpNo X42.here hx rfl (hb hby at_134) rfl (teq (rfl : (p2 &&& (63 : Int32)) = (p2 &&& (63 : Int32)))).2 ?_
        show Steps p.tables e below (T42.setTop (mkF m 137 #[.val (.int p1), .val (.int p2), .val (.int p3), .val (.int (p1 &&& (63 : Int32))), .val (.int (p2 &&& (63 : Int32))), .val (.int (p3 &&& (63 : Int32))), .val (.ref b1), .val (.ref x13), .val (.ref x43), .unset, .unset] [])) _
        refine XS.aload X42.here hx rfl (hb hby at_137) rfl rfl ?_
        show Steps p.tables e below (T42.setTop (mkF m 139 #[.val (.int p1), .val (.int p2), .val (.int p3), .val (.int (p1 &&& (63 : Int32))), .val (.int (p2 &&& (63 : Int32))), .val (.int (p3 &&& (63 : Int32))), .val (.ref b1), .val (.ref x13), .val (.ref x43), .unset, .unset] [(.ref x43)])) _
        refine XS.iconst X42.here hx rfl (hb hby at_139) ?_
        show Steps p.tables e below (T42.setTop (mkF m 140 #[.val (.int p1), .val (.int p2), .val (.int p3), .val (.int (p1 &&& (63 : Int32))), .val (.int (p2 &&& (63 : Int32))), .val (.int (p3 &&& (63 : Int32))), .val (.ref b1), .val (.ref x13), .val (.ref x43), .unset, .unset] [(.int (0 : Int32)), (.ref x43)])) _
        refine X42.iaload hx (j := (0 : Int32)) (v := (.int (0 : Int32))) R50.1 (State.isArrayOf_alike hZ.alike R50.2.1) R50.2.2 hin59 (get_new (by have q := hin59; rw [sz_new] at q; exact q)) (g := (mkF m 140 #[.val (.int p1), .val (.int p2), .val (.int p3), .val (.int (p1 &&& (63 : Int32))), .val (.int (p2 &&& (63 : Int32))), .val (.int (p3 &&& (63 : Int32))), .val (.ref b1), .val (.ref x13), .val (.ref x43), .unset, .unset] [(.int (0 : Int32)), (.ref x43)])) rfl rfl (hb hby at_140) _ ?_
        show Steps p.tables e below (T42.setTop (mkF m 141 #[.val (.int p1), .val (.int p2), .val (.int p3), .val (.int (p1 &&& (63 : Int32))), .val (.int (p2 &&& (63 : Int32))), .val (.int (p3 &&& (63 : Int32))), .val (.ref b1), .val (.ref x13), .val (.ref x43), .unset, .unset] [(.int (0 : Int32))])) _
        refine XS.ifNo X42.here hx rfl (hb hby at_141) rfl ((if0 _ _).trans (teq (by decide : (0 : Int32) = (0 : Int32))).2) ?_
        show Steps p.tables e below (T42.setTop (mkF m 144 #[.val (.int p1), .val (.int p2), .val (.int p3), .val (.int (p1 &&& (63 : Int32))), .val (.int (p2 &&& (63 : Int32))), .val (.int (p3 &&& (63 : Int32))), .val (.ref b1), .val (.ref x13), .val (.ref x43), .unset, .unset] [])) _
        refine XS.aload X42.here hx rfl (hb hby at_144) rfl rfl ?_
        show Steps p.tables e below (T42.setTop (mkF m 146 #[.val (.int p1), .val (.int p2), .val (.int p3), .val (.int (p1 &&& (63 : Int32))), .val (.int (p2 &&& (63 : Int32))), .val (.int (p3 &&& (63 : Int32))), .val (.ref b1), .val (.ref x13), .val (.ref x43), .unset, .unset] [(.ref x43)])) _
        refine XS.iload X42.here hx rfl (hb hby at_146) rfl ?_
        show Steps p.tables e below (T42.setTop (mkF m 148 #[.val (.int p1), .val (.int p2), .val (.int p3), .val (.int (p1 &&& (63 : Int32))), .val (.int (p2 &&& (63 : Int32))), .val (.int (p3 &&& (63 : Int32))), .val (.ref b1), .val (.ref x13), .val (.ref x43), .unset, .unset] [(.int (p2 &&& (63 : Int32))), (.ref x43)])) _
        refine XS.iconst X42.here hx rfl (hb hby at_148) ?_
        show Steps p.tables e below (T42.setTop (mkF m 149 #[.val (.int p1), .val (.int p2), .val (.int p3), .val (.int (p1 &&& (63 : Int32))), .val (.int (p2 &&& (63 : Int32))), .val (.int (p3 &&& (63 : Int32))), .val (.ref b1), .val (.ref x13), .val (.ref x43), .unset, .unset] [(.int (1 : Int32)), (.int (p2 &&& (63 : Int32))), (.ref x43)])) _
        refine XS.isub X42.here hx rfl (hb hby at_149) rfl ?_
        show Steps p.tables e below (T42.setTop (mkF m 150 #[.val (.int p1), .val (.int p2), .val (.int p3), .val (.int (p1 &&& (63 : Int32))), .val (.int (p2 &&& (63 : Int32))), .val (.int (p3 &&& (63 : Int32))), .val (.ref b1), .val (.ref x13), .val (.ref x43), .unset, .unset] [(.int ((p2 &&& (63 : Int32)) - (1 : Int32))), (.ref x43)])) _
        refine X42.iaload hx (j := ((p2 &&& (63 : Int32)) - (1 : Int32))) (v := (.int (0 : Int32))) R50.1 (State.isArrayOf_alike hZ.alike R50.2.1) R50.2.2 hin60 (get_new (by have q := hin60; rw [sz_new] at q; exact q)) (g := (mkF m 150 #[.val (.int p1), .val (.int p2), .val (.int p3), .val (.int (p1 &&& (63 : Int32))), .val (.int (p2 &&& (63 : Int32))), .val (.int (p3 &&& (63 : Int32))), .val (.ref b1), .val (.ref x13), .val (.ref x43), .unset, .unset] [(.int ((p2 &&& (63 : Int32)) - (1 : Int32))), (.ref x43)])) rfl rfl (hb hby at_150) _ ?_
        show Steps p.tables e below (T42.setTop (mkF m 151 #[.val (.int p1), .val (.int p2), .val (.int p3), .val (.int (p1 &&& (63 : Int32))), .val (.int (p2 &&& (63 : Int32))), .val (.int (p3 &&& (63 : Int32))), .val (.ref b1), .val (.ref x13), .val (.ref x43), .unset, .unset] [(.int (0 : Int32))])) _
        refine XS.ifYes X42.here hx rfl (pc0 := 151) (pc' := 156) rfl (hb hby at_151) rfl ((if0 _ _).trans (teq (by decide : (0 : Int32) = (0 : Int32))).1) (by decide) (by decide) ?_
        show Steps p.tables e below (T42.setTop (mkF m 156 #[.val (.int p1), .val (.int p2), .val (.int p3), .val (.int (p1 &&& (63 : Int32))), .val (.int (p2 &&& (63 : Int32))), .val (.int (p3 &&& (63 : Int32))), .val (.ref b1), .val (.ref x13), .val (.ref x43), .unset, .unset] [])) _
        refine XS.aload X42.here hx rfl (hb hby at_156) rfl rfl ?_
        show Steps p.tables e below (T42.setTop (mkF m 158 #[.val (.int p1), .val (.int p2), .val (.int p3), .val (.int (p1 &&& (63 : Int32))), .val (.int (p2 &&& (63 : Int32))), .val (.int (p3 &&& (63 : Int32))), .val (.ref b1), .val (.ref x13), .val (.ref x43), .unset, .unset] [(.ref x43)])) _
        refine XS.iconst X42.here hx rfl (hb hby at_158) ?_
        show Steps p.tables e below (T42.setTop (mkF m 159 #[.val (.int p1), .val (.int p2), .val (.int p3), .val (.int (p1 &&& (63 : Int32))), .val (.int (p2 &&& (63 : Int32))), .val (.int (p3 &&& (63 : Int32))), .val (.ref b1), .val (.ref x13), .val (.ref x43), .unset, .unset] [(.int (0 : Int32)), (.ref x43)])) _
        refine XS.bipush X42.here hx rfl (hb hby at_159) ?_
        show Steps p.tables e below (T42.setTop (mkF m 161 #[.val (.int p1), .val (.int p2), .val (.int p3), .val (.int (p1 &&& (63 : Int32))), .val (.int (p2 &&& (63 : Int32))), .val (.int (p3 &&& (63 : Int32))), .val (.ref b1), .val (.ref x13), .val (.ref x43), .unset, .unset] [(.int (9 : Int32)), (.int (0 : Int32)), (.ref x43)])) _
        refine st61 _ ?_
        show Steps p.tables e below (T61.setTop (mkF m 162 #[.val (.int p1), .val (.int p2), .val (.int p3), .val (.int (p1 &&& (63 : Int32))), .val (.int (p2 &&& (63 : Int32))), .val (.int (p3 &&& (63 : Int32))), .val (.ref b1), .val (.ref x13), .val (.ref x43), .unset, .unset] [])) _
        refine XS.aload X61.here hx rfl (hb hby at_162) rfl rfl ?_
        show Steps p.tables e below (T61.setTop (mkF m 164 #[.val (.int p1), .val (.int p2), .val (.int p3), .val (.int (p1 &&& (63 : Int32))), .val (.int (p2 &&& (63 : Int32))), .val (.int (p3 &&& (63 : Int32))), .val (.ref b1), .val (.ref x13), .val (.ref x43), .unset, .unset] [(.ref x43)])) _
        refine XS.iload X61.here hx rfl (hb hby at_164) rfl ?_
        show Steps p.tables e below (T61.setTop (mkF m 166 #[.val (.int p1), .val (.int p2), .val (.int p3), .val (.int (p1 &&& (63 : Int32))), .val (.int (p2 &&& (63 : Int32))), .val (.int (p3 &&& (63 : Int32))), .val (.ref b1), .val (.ref x13), .val (.ref x43), .unset, .unset] [(.int (p2 &&& (63 : Int32))), (.ref x43)])) _
        refine XS.iconst X61.here hx rfl (hb hby at_166) ?_
        show Steps p.tables e below (T61.setTop (mkF m 167 #[.val (.int p1), .val (.int p2), .val (.int p3), .val (.int (p1 &&& (63 : Int32))), .val (.int (p2 &&& (63 : Int32))), .val (.int (p3 &&& (63 : Int32))), .val (.ref b1), .val (.ref x13), .val (.ref x43), .unset, .unset] [(.int (1 : Int32)), (.int (p2 &&& (63 : Int32))), (.ref x43)])) _
        refine XS.isub X61.here hx rfl (hb hby at_167) rfl ?_
        show Steps p.tables e below (T61.setTop (mkF m 168 #[.val (.int p1), .val (.int p2), .val (.int p3), .val (.int (p1 &&& (63 : Int32))), .val (.int (p2 &&& (63 : Int32))), .val (.int (p3 &&& (63 : Int32))), .val (.ref b1), .val (.ref x13), .val (.ref x43), .unset, .unset] [(.int ((p2 &&& (63 : Int32)) - (1 : Int32))), (.ref x43)])) _
        refine XS.bipush X61.here hx rfl (hb hby at_168) ?_
        show Steps p.tables e below (T61.setTop (mkF m 170 #[.val (.int p1), .val (.int p2), .val (.int p3), .val (.int (p1 &&& (63 : Int32))), .val (.int (p2 &&& (63 : Int32))), .val (.int (p3 &&& (63 : Int32))), .val (.ref b1), .val (.ref x13), .val (.ref x43), .unset, .unset] [(.int (9 : Int32)), (.int ((p2 &&& (63 : Int32)) - (1 : Int32))), (.ref x43)])) _
        refine st67 _ ?_
        show Steps p.tables e below (T67.setTop (mkF m 171 #[.val (.int p1), .val (.int p2), .val (.int p3), .val (.int (p1 &&& (63 : Int32))), .val (.int (p2 &&& (63 : Int32))), .val (.int (p3 &&& (63 : Int32))), .val (.ref b1), .val (.ref x13), .val (.ref x43), .unset, .unset] [])) _
        refine XS.aload X67.here hx rfl (hb hby at_171) rfl rfl ?_
        show Steps p.tables e below (T67.setTop (mkF m 173 #[.val (.int p1), .val (.int p2), .val (.int p3), .val (.int (p1 &&& (63 : Int32))), .val (.int (p2 &&& (63 : Int32))), .val (.int (p3 &&& (63 : Int32))), .val (.ref b1), .val (.ref x13), .val (.ref x43), .unset, .unset] [(.ref x43)])) _
        refine XS.astore X67.here hx rfl (hb hby at_173) rfl rfl (l' := #[.val (.int p1), .val (.int p2), .val (.int p3), .val (.int (p1 &&& (63 : Int32))), .val (.int (p2 &&& (63 : Int32))), .val (.int (p3 &&& (63 : Int32))), .val (.ref b1), .val (.ref x13), .val (.ref x43), .val (.ref x43), .unset]) rfl ?_
        show Steps p.tables e below (T67.setTop (mkF m 175 #[.val (.int p1), .val (.int p2), .val (.int p3), .val (.int (p1 &&& (63 : Int32))), .val (.int (p2 &&& (63 : Int32))), .val (.int (p3 &&& (63 : Int32))), .val (.ref b1), .val (.ref x13), .val (.ref x43), .val (.ref x43), .unset] [])) _
        exact k)
      by_cases hs74 : (p2 &&& (63 : Int32)) < (p3 &&& (63 : Int32))
      · obtain ⟨cq75, kq75, q75a, q75b, q75c⟩ := isOf hZ e67 E70
        obtain ⟨_, _, ⟨T75, L75, k75, n75⟩, -, X75, ⟨Lc75, hQ75, l75, y75, z75⟩, st75⟩ := X67.virtualBack hx (y := (⟨"com/example/granulock/granulock/ResourceTree$Ledger", "modes", "(I)[I"⟩ : MethodName)) (z := (⟨"com/example/granulock/granulock/ResourceTree$Ledger", "modes", "(I)[I"⟩ : MethodName)) hown (mvT hZ (hw _ (List.mem_of_getElem? (i := 27) rfl))) (mvT hZ (hw _ (List.mem_of_getElem? (i := 28) rfl))) (notFace_of_selects (args := #[]) (mvT hZ (hw _ (List.mem_of_getElem? (i := 30) rfl)))) (mvT hZ (hw _ (List.mem_of_getElem? (i := 30) rfl))) (mvT hZ (hw _ (List.mem_of_getElem? (i := 29) rfl))) (by decide) (backOf (W := 0) (rm_mG l Z a0 hw [] b1 (p3 &&& (63 : Int32)) x43 (((newA x44 .int (p2 &&& (63 : Int32))).setSlot ((0 : Int32)).toNatClampNeg (.int (9 : Int32))).setSlot (((p2 &&& (63 : Int32)) - (1 : Int32))).toNatClampNeg (.int (9 : Int32))) (p2 &&& (63 : Int32)) h67 n0 Zs72 E70 F71 ge_b1 (own_63 p3).1 (own_63 p3).2 V67 (by simp only [sz_set, sz_new]) (own_63 p2).1 ne56 hs74) hZ (hw _ (List.mem_of_getElem? (i := 31) rfl)) (hw _ (List.mem_of_getElem? (i := 2) rfl)) (by decide) (by decide)) q75a q75c (g := (mkF m 179 #[.val (.int p1), .val (.int p2), .val (.int p3), .val (.int (p1 &&& (63 : Int32))), .val (.int (p2 &&& (63 : Int32))), .val (.int (p3 &&& (63 : Int32))), .val (.ref b1), .val (.ref x13), .val (.ref x43), .val (.ref x43), .unset] [(.int (p3 &&& (63 : Int32))), (.ref b1)])) rfl (by rw [hml]; rfl) (Steps.refl _) (argsL := [(.int (p3 &&& (63 : Int32)))]) (rest := []) (lenOf pd_2 rfl) rfl (by show 2 * 0 + _ ≤ _; exact Nat.le_of_eq rfl) (hb hby at_179) (fun _ _ => ⟨rfl, e67, (by decide : 3 + 1 ≤ _), (by decide : 131 + 63 ≤ _)⟩)
        dsimp only [Pt.U, Pt.locs, Pt.cells, Pt.slots] at X75 l75 y75 z75 st75 hQ75
        subst l75 y75 z75
        obtain ⟨x76, x77, rfl, N75q, hq78, p79, p80, E81, F82, R83⟩ := hQ75
        have N75 := Fr.app N67 N75q
        have lt84 : x13 < h67.size := R69.lt
        have lt85 : b1 < h67.size := E70.lt
        have lt86 : x43 < h67.size := V67.lt
        have S87 : Sta Z T75.heap "java/util/ImmutableCollections" "EMPTY_LIST" "Ljava/util/ImmutableCollections$ListN;" (.ref wE) := own_sta_keep S68 hq78 (allS (own_ns_exa E70) all0)
        have R88 : Arr Z T75.heap x13 (((newA x14 .int (p1 &&& (63 : Int32))).setSlot ((0 : Int32)).toNatClampNeg (.int (7 : Int32))).setSlot (((p1 &&& (63 : Int32)) - (1 : Int32))).toNatClampNeg (.int (7 : Int32))) .int := own_arr_keep R69 hq78 (ninS (Ne.symm ne24) nin0)
        have R89 : Arr Z T75.heap x43 (((newA x44 .int (p2 &&& (63 : Int32))).setSlot ((0 : Int32)).toNatClampNeg (.int (9 : Int32))).setSlot (((p2 &&& (63 : Int32)) - (1 : Int32))).toNatClampNeg (.int (9 : Int32))) .int := own_arr_keep V67 hq78 (ninS (Ne.symm ne56) nin0)
        have K75 : Keep h0 T75.heap [] := K67.trans hq78 (allS (Or.inr sz_b1) all0)
        have Zs90 : n0 ≤ T75.heap.size := (Nat.le_trans Zs72 hq78.1)
        have ne91 : x13 ≠ x76 := Nat.ne_of_lt (Nat.lt_of_lt_of_le lt84 p80)
        have ne92 : b1 ≠ x76 := Nat.ne_of_lt (Nat.lt_of_lt_of_le lt85 p80)
        have ne93 : x43 ≠ x76 := Nat.ne_of_lt (Nat.lt_of_lt_of_le lt86 p80)
        have sz94 : h0.size ≤ x76 := Nat.le_trans K67.1 p80
        have hin95 : ¬ ((0 : Int32) < 0 ∨ (newA x77 .int (p3 &&& (63 : Int32))).slots.size ≤ ((0 : Int32)).toNatClampNeg) := (inb_of (show (newA x77 .int (p3 &&& (63 : Int32))).slots.size = (p3 &&& (63 : Int32)).toNatClampNeg from (by simp only [sz_set, sz_new])) ⟨by decide, (own_pos (own_63 p2).1 hs74)⟩)
        have hin96 : ¬ (((p3 &&& (63 : Int32)) - (1 : Int32)) < 0 ∨ (newA x77 .int (p3 &&& (63 : Int32))).slots.size ≤ (((p3 &&& (63 : Int32)) - (1 : Int32))).toNatClampNeg) := (inb_of (show (newA x77 .int (p3 &&& (63 : Int32))).slots.size = (p3 &&& (63 : Int32)).toNatClampNeg from (by simp only [sz_set, sz_new])) (own_pred (own_pos (own_63 p2).1 hs74)))
        have pre97 := fun (t : State) (k : Steps p.tables e below (T75.setTop (mkF m 249 #[.val (.int p1), .val (.int p2), .val (.int p3), .val (.int (p1 &&& (63 : Int32))), .val (.int (p2 &&& (63 : Int32))), .val (.int (p3 &&& (63 : Int32))), .val (.ref b1), .val (.ref x13), .val (.ref x43), .val (.ref x43), .val (.ref x76)] [(.int (1 : Int32))])) t) => pre73 t (by
          refine XS.aload X67.here hx rfl (hb hby at_175) rfl rfl ?_
          show Steps p.tables e below (T67.setTop (mkF m 177 #[.val (.int p1), .val (.int p2), .val (.int p3), .val (.int (p1 &&& (63 : Int32))), .val (.int (p2 &&& (63 : Int32))), .val (.int (p3 &&& (63 : Int32))), .val (.ref b1), .val (.ref x13), .val (.ref x43), .val (.ref x43), .unset] [(.ref b1)])) _
          refine XS.iload X67.here hx rfl (hb hby at_177) rfl ?_
          show Steps p.tables e below (T67.setTop (mkF m 179 #[.val (.int p1), .val (.int p2), .val (.int p3), .val (.int (p1 &&& (63 : Int32))), .val (.int (p2 &&& (63 : Int32))), .val (.int (p3 &&& (63 : Int32))), .val (.ref b1), .val (.ref x13), .val (.ref x43), .val (.ref x43), .unset] [(.int (p3 &&& (63 : Int32))), (.ref b1)])) _
          refine st75.trans ?_
          show Steps p.tables e below (T75.setTop (mkF m 182 #[.val (.int p1), .val (.int p2), .val (.int p3), .val (.int (p1 &&& (63 : Int32))), .val (.int (p2 &&& (63 : Int32))), .val (.int (p3 &&& (63 : Int32))), .val (.ref b1), .val (.ref x13), .val (.ref x43), .val (.ref x43), .unset] [(.ref x76)])) _
          refine XS.astore X75.here hx rfl (hb hby at_182) rfl rfl (l' := #[.val (.int p1), .val (.int p2), .val (.int p3), .val (.int (p1 &&& (63 : Int32))), .val (.int (p2 &&& (63 : Int32))), .val (.int (p3 &&& (63 : Int32))), .val (.ref b1), .val (.ref x13), .val (.ref x43), .val (.ref x43), .val (.ref x76)]) rfl ?_
          show Steps p.tables e below (T75.setTop (mkF m 184 #[.val (.int p1), .val (.int p2), .val (.int p3), .val (.int (p1 &&& (63 : Int32))), .val (.int (p2 &&& (63 : Int32))), .val (.int (p3 &&& (63 : Int32))), .val (.ref b1), .val (.ref x13), .val (.ref x43), .val (.ref x43), .val (.ref x76)] [])) _
          refine XS.aload X75.here hx rfl (hb hby at_184) rfl rfl ?_
          show Steps p.tables e below (T75.setTop (mkF m 186 #[.val (.int p1), .val (.int p2), .val (.int p3), .val (.int (p1 &&& (63 : Int32))), .val (.int (p2 &&& (63 : Int32))), .val (.int (p3 &&& (63 : Int32))), .val (.ref b1), .val (.ref x13), .val (.ref x43), .val (.ref x43), .val (.ref x76)] [(.ref x76)])) _
          refine XS.ifnonnullYes X75.here hx rfl (pc0 := 186) (pc' := 191) rfl (hb hby at_186) rfl (by decide) (by decide) ?_
          show Steps p.tables e below (T75.setTop (mkF m 191 #[.val (.int p1), .val (.int p2), .val (.int p3), .val (.int (p1 &&& (63 : Int32))), .val (.int (p2 &&& (63 : Int32))), .val (.int (p3 &&& (63 : Int32))), .val (.ref b1), .val (.ref x13), .val (.ref x43), .val (.ref x43), .val (.ref x76)] [])) _
          refine XS.iload X75.here hx rfl (hb hby at_191) rfl ?_
          show Steps p.tables e below (T75.setTop (mkF m 193 #[.val (.int p1), .val (.int p2), .val (.int p3), .val (.int (p1 &&& (63 : Int32))), .val (.int (p2 &&& (63 : Int32))), .val (.int (p3 &&& (63 : Int32))), .val (.ref b1), .val (.ref x13), .val (.ref x43), .val (.ref x43), .val (.ref x76)] [(.int (p3 &&& (63 : Int32)))])) _
          refine XS.aload X75.here hx rfl (hb hby at_193) rfl rfl ?_
          show Steps p.tables e below (T75.setTop (mkF m 195 #[.val (.int p1), .val (.int p2), .val (.int p3), .val (.int (p1 &&& (63 : Int32))), .val (.int (p2 &&& (63 : Int32))), .val (.int (p3 &&& (63 : Int32))), .val (.ref b1), .val (.ref x13), .val (.ref x43), .val (.ref x43), .val (.ref x76)] [(.ref x43), (.int (p3 &&& (63 : Int32)))])) _
          refine X75.arraylength hx R89.1 (State.isArrayOf_alike hZ.alike R89.2.1) (g := (mkF m 195 #[.val (.int p1), .val (.int p2), .val (.int p3), .val (.int (p1 &&& (63 : Int32))), .val (.int (p2 &&& (63 : Int32))), .val (.int (p3 &&& (63 : Int32))), .val (.ref b1), .val (.ref x13), .val (.ref x43), .val (.ref x43), .val (.ref x76)] [(.ref x43), (.int (p3 &&& (63 : Int32)))])) rfl rfl (hb hby at_195) _ ?_
          rw [show (((newA x44 .int (p2 &&& (63 : Int32))).setSlot ((0 : Int32)).toNatClampNeg (.int (9 : Int32))).setSlot (((p2 &&& (63 : Int32)) - (1 : Int32))).toNatClampNeg (.int (9 : Int32))).slots.size.toInt32 = (p2 &&& (63 : Int32)) from (len_of (show (((newA x44 .int (p2 &&& (63 : Int32))).setSlot ((0 : Int32)).toNatClampNeg (.int (9 : Int32))).setSlot (((p2 &&& (63 : Int32)) - (1 : Int32))).toNatClampNeg (.int (9 : Int32))).slots.size = (p2 &&& (63 : Int32)).toNatClampNeg from (by simp only [sz_set, sz_new])) (own_63 p2).1)]
          show Steps p.tables e below (T75.setTop (mkF m 196 #[.val (.int p1), .val (.int p2), .val (.int p3), .val (.int (p1 &&& (63 : Int32))), .val (.int (p2 &&& (63 : Int32))), .val (.int (p3 &&& (63 : Int32))), .val (.ref b1), .val (.ref x13), .val (.ref x43), .val (.ref x43), .val (.ref x76)] [(.int (p2 &&& (63 : Int32))), (.int (p3 &&& (63 : Int32)))])) _
          refine XS.icmpYes X75.here hx rfl (pc0 := 196) (pc' := 212) rfl (hb hby at_196) rfl (tlt hs74).2.2.1 (by decide) (by decide) ?_
          show Steps p.tables e below (T75.setTop (mkF m 212 #[.val (.int p1), .val (.int p2), .val (.int p3), .val (.int (p1 &&& (63 : Int32))), .val (.int (p2 &&& (63 : Int32))), .val (.int (p3 &&& (63 : Int32))), .val (.ref b1), .val (.ref x13), .val (.ref x43), .val (.ref x43), .val (.ref x76)] [])) _
          refine XS.aload X75.here hx rfl (hb hby at_212) rfl rfl ?_
          show Steps p.tables e below (T75.setTop (mkF m 214 #[.val (.int p1), .val (.int p2), .val (.int p3), .val (.int (p1 &&& (63 : Int32))), .val (.int (p2 &&& (63 : Int32))), .val (.int (p3 &&& (63 : Int32))), .val (.ref b1), .val (.ref x13), .val (.ref x43), .val (.ref x43), .val (.ref x76)] [(.ref x76)])) _
          refine XS.aload X75.here hx rfl (hb hby at_214) rfl rfl ?_
          show Steps p.tables e below (T75.setTop (mkF m 216 #[.val (.int p1), .val (.int p2), .val (.int p3), .val (.int (p1 &&& (63 : Int32))), .val (.int (p2 &&& (63 : Int32))), .val (.int (p3 &&& (63 : Int32))), .val (.ref b1), .val (.ref x13), .val (.ref x43), .val (.ref x43), .val (.ref x76)] [(.ref x43), (.ref x76)])) _
          refine Jvm.RoadKit.acmp (g := (mkF m 216 #[.val (.int p1), .val (.int p2), .val (.int p3), .val (.int (p1 &&& (63 : Int32))), .val (.int (p2 &&& (63 : Int32))), .val (.int (p3 &&& (63 : Int32))), .val (.ref b1), .val (.ref x13), .val (.ref x43), .val (.ref x43), .val (.ref x76)] [(.ref x43), (.ref x76)])) X75 hx rfl rfl rfl (pc0 := 216) (pc' := 219) (same := false) rfl (hb hby at_216) rfl (decide_eq_false fun q => (Ne.symm ne93) (Value.ref.inj q)) (by decide) (by decide) ?_
          show Steps p.tables e below (T75.setTop (mkF m 219 #[.val (.int p1), .val (.int p2), .val (.int p3), .val (.int (p1 &&& (63 : Int32))), .val (.int (p2 &&& (63 : Int32))), .val (.int (p3 &&& (63 : Int32))), .val (.ref b1), .val (.ref x13), .val (.ref x43), .val (.ref x43), .val (.ref x76)] [])) _
          refine XS.aload X75.here hx rfl (hb hby at_219) rfl rfl ?_
          show Steps p.tables e below (T75.setTop (mkF m 221 #[.val (.int p1), .val (.int p2), .val (.int p3), .val (.int (p1 &&& (63 : Int32))), .val (.int (p2 &&& (63 : Int32))), .val (.int (p3 &&& (63 : Int32))), .val (.ref b1), .val (.ref x13), .val (.ref x43), .val (.ref x43), .val (.ref x76)] [(.ref x76)])) _
          refine X75.arraylength hx R83.1 (State.isArrayOf_alike hZ.alike R83.2.1) (g := (mkF m 221 #[.val (.int p1), .val (.int p2), .val (.int p3), .val (.int (p1 &&& (63 : Int32))), .val (.int (p2 &&& (63 : Int32))), .val (.int (p3 &&& (63 : Int32))), .val (.ref b1), .val (.ref x13), .val (.ref x43), .val (.ref x43), .val (.ref x76)] [(.ref x76)])) rfl rfl (hb hby at_221) _ ?_
          rw [show (newA x77 .int (p3 &&& (63 : Int32))).slots.size.toInt32 = (p3 &&& (63 : Int32)) from (len_of (show (newA x77 .int (p3 &&& (63 : Int32))).slots.size = (p3 &&& (63 : Int32)).toNatClampNeg from (by simp only [sz_set, sz_new])) (own_63 p3).1)]
          show Steps p.tables e below (T75.setTop (mkF m 222 #[.val (.int p1), .val (.int p2), .val (.int p3), .val (.int (p1 &&& (63 : Int32))), .val (.int (p2 &&& (63 : Int32))), .val (.int (p3 &&& (63 : Int32))), .val (.ref b1), .val (.ref x13), .val (.ref x43), .val (.ref x43), .val (.ref x76)] [(.int (p3 &&& (63 : Int32)))])) _
          refine XS.iload X75.here hx rfl (hb hby at_222) rfl ?_
          show Steps p.tables e below (T75.setTop (mkF m 224 #[.val (.int p1), .val (.int p2), .val (.int p3), .val (.int (p1 &&& (63 : Int32))), .val (.int (p2 &&& (63 : Int32))), .val (.int (p3 &&& (63 : Int32))), .val (.ref b1), .val (.ref x13), .val (.ref x43), .val (.ref x43), .val (.ref x76)] [(.int (p3 &&& (63 : Int32))), (.int (p3 &&& (63 : Int32)))])) _
          refine XS.icmpNo X75.here hx rfl (hb hby at_224) rfl (teq (rfl : (p3 &&& (63 : Int32)) = (p3 &&& (63 : Int32)))).2 ?_
          show Steps p.tables e below (T75.setTop (mkF m 227 #[.val (.int p1), .val (.int p2), .val (.int p3), .val (.int (p1 &&& (63 : Int32))), .val (.int (p2 &&& (63 : Int32))), .val (.int (p3 &&& (63 : Int32))), .val (.ref b1), .val (.ref x13), .val (.ref x43), .val (.ref x43), .val (.ref x76)] [])) _
          refine XS.aload X75.here hx rfl (hb hby at_227) rfl rfl ?_
          show Steps p.tables e below (T75.setTop (mkF m 229 #[.val (.int p1), .val (.int p2), .val (.int p3), .val (.int (p1 &&& (63 : Int32))), .val (.int (p2 &&& (63 : Int32))), .val (.int (p3 &&& (63 : Int32))), .val (.ref b1), .val (.ref x13), .val (.ref x43), .val (.ref x43), .val (.ref x76)] [(.ref x76)])) _
          refine XS.iconst X75.here hx rfl (hb hby at_229) ?_
          show Steps p.tables e below (T75.setTop (mkF m 230 #[.val (.int p1), .val (.int p2), .val (.int p3), .val (.int (p1 &&& (63 : Int32))), .val (.int (p2 &&& (63 : Int32))), .val (.int (p3 &&& (63 : Int32))), .val (.ref b1), .val (.ref x13), .val (.ref x43), .val (.ref x43), .val (.ref x76)] [(.int (0 : Int32)), (.ref x76)])) _
          refine X75.iaload hx (j := (0 : Int32)) (v := (.int (0 : Int32))) R83.1 (State.isArrayOf_alike hZ.alike R83.2.1) R83.2.2 hin95 (get_new (by have q := hin95; rw [sz_new] at q; exact q)) (g := (mkF m 230 #[.val (.int p1), .val (.int p2), .val (.int p3), .val (.int (p1 &&& (63 : Int32))), .val (.int (p2 &&& (63 : Int32))), .val (.int (p3 &&& (63 : Int32))), .val (.ref b1), .val (.ref x13), .val (.ref x43), .val (.ref x43), .val (.ref x76)] [(.int (0 : Int32)), (.ref x76)])) rfl rfl (hb hby at_230) _ ?_
          show Steps p.tables e below (T75.setTop (mkF m 231 #[.val (.int p1), .val (.int p2), .val (.int p3), .val (.int (p1 &&& (63 : Int32))), .val (.int (p2 &&& (63 : Int32))), .val (.int (p3 &&& (63 : Int32))), .val (.ref b1), .val (.ref x13), .val (.ref x43), .val (.ref x43), .val (.ref x76)] [(.int (0 : Int32))])) _
          refine XS.ifNo X75.here hx rfl (hb hby at_231) rfl ((if0 _ _).trans (teq (by decide : (0 : Int32) = (0 : Int32))).2) ?_
          show Steps p.tables e below (T75.setTop (mkF m 234 #[.val (.int p1), .val (.int p2), .val (.int p3), .val (.int (p1 &&& (63 : Int32))), .val (.int (p2 &&& (63 : Int32))), .val (.int (p3 &&& (63 : Int32))), .val (.ref b1), .val (.ref x13), .val (.ref x43), .val (.ref x43), .val (.ref x76)] [])) _
          refine XS.aload X75.here hx rfl (hb hby at_234) rfl rfl ?_
          show Steps p.tables e below (T75.setTop (mkF m 236 #[.val (.int p1), .val (.int p2), .val (.int p3), .val (.int (p1 &&& (63 : Int32))), .val (.int (p2 &&& (63 : Int32))), .val (.int (p3 &&& (63 : Int32))), .val (.ref b1), .val (.ref x13), .val (.ref x43), .val (.ref x43), .val (.ref x76)] [(.ref x76)])) _
          refine XS.iload X75.here hx rfl (hb hby at_236) rfl ?_
          show Steps p.tables e below (T75.setTop (mkF m 238 #[.val (.int p1), .val (.int p2), .val (.int p3), .val (.int (p1 &&& (63 : Int32))), .val (.int (p2 &&& (63 : Int32))), .val (.int (p3 &&& (63 : Int32))), .val (.ref b1), .val (.ref x13), .val (.ref x43), .val (.ref x43), .val (.ref x76)] [(.int (p3 &&& (63 : Int32))), (.ref x76)])) _
          refine XS.iconst X75.here hx rfl (hb hby at_238) ?_
          show Steps p.tables e below (T75.setTop (mkF m 239 #[.val (.int p1), .val (.int p2), .val (.int p3), .val (.int (p1 &&& (63 : Int32))), .val (.int (p2 &&& (63 : Int32))), .val (.int (p3 &&& (63 : Int32))), .val (.ref b1), .val (.ref x13), .val (.ref x43), .val (.ref x43), .val (.ref x76)] [(.int (1 : Int32)), (.int (p3 &&& (63 : Int32))), (.ref x76)])) _
          refine XS.isub X75.here hx rfl (hb hby at_239) rfl ?_
          show Steps p.tables e below (T75.setTop (mkF m 240 #[.val (.int p1), .val (.int p2), .val (.int p3), .val (.int (p1 &&& (63 : Int32))), .val (.int (p2 &&& (63 : Int32))), .val (.int (p3 &&& (63 : Int32))), .val (.ref b1), .val (.ref x13), .val (.ref x43), .val (.ref x43), .val (.ref x76)] [(.int ((p3 &&& (63 : Int32)) - (1 : Int32))), (.ref x76)])) _
          refine X75.iaload hx (j := ((p3 &&& (63 : Int32)) - (1 : Int32))) (v := (.int (0 : Int32))) R83.1 (State.isArrayOf_alike hZ.alike R83.2.1) R83.2.2 hin96 (get_new (by have q := hin96; rw [sz_new] at q; exact q)) (g := (mkF m 240 #[.val (.int p1), .val (.int p2), .val (.int p3), .val (.int (p1 &&& (63 : Int32))), .val (.int (p2 &&& (63 : Int32))), .val (.int (p3 &&& (63 : Int32))), .val (.ref b1), .val (.ref x13), .val (.ref x43), .val (.ref x43), .val (.ref x76)] [(.int ((p3 &&& (63 : Int32)) - (1 : Int32))), (.ref x76)])) rfl rfl (hb hby at_240) _ ?_
          show Steps p.tables e below (T75.setTop (mkF m 241 #[.val (.int p1), .val (.int p2), .val (.int p3), .val (.int (p1 &&& (63 : Int32))), .val (.int (p2 &&& (63 : Int32))), .val (.int (p3 &&& (63 : Int32))), .val (.ref b1), .val (.ref x13), .val (.ref x43), .val (.ref x43), .val (.ref x76)] [(.int (0 : Int32))])) _
          refine XS.ifNo X75.here hx rfl (hb hby at_241) rfl ((if0 _ _).trans (teq (by decide : (0 : Int32) = (0 : Int32))).2) ?_
          show Steps p.tables e below (T75.setTop (mkF m 244 #[.val (.int p1), .val (.int p2), .val (.int p3), .val (.int (p1 &&& (63 : Int32))), .val (.int (p2 &&& (63 : Int32))), .val (.int (p3 &&& (63 : Int32))), .val (.ref b1), .val (.ref x13), .val (.ref x43), .val (.ref x43), .val (.ref x76)] [])) _
          refine XS.iconst X75.here hx rfl (hb hby at_244) ?_
          show Steps p.tables e below (T75.setTop (mkF m 245 #[.val (.int p1), .val (.int p2), .val (.int p3), .val (.int (p1 &&& (63 : Int32))), .val (.int (p2 &&& (63 : Int32))), .val (.int (p3 &&& (63 : Int32))), .val (.ref b1), .val (.ref x13), .val (.ref x43), .val (.ref x43), .val (.ref x76)] [(.int (1 : Int32))])) _
          refine XS.goto X75.here hx rfl (pc0 := 245) (pc' := 249) rfl (hb hby at_245) (by decide) (by decide) ?_
          show Steps p.tables e below (T75.setTop (mkF m 249 #[.val (.int p1), .val (.int p2), .val (.int p3), .val (.int (p1 &&& (63 : Int32))), .val (.int (p2 &&& (63 : Int32))), .val (.int (p3 &&& (63 : Int32))), .val (.ref b1), .val (.ref x13), .val (.ref x43), .val (.ref x43), .val (.ref x76)] [(.int (1 : Int32))])) _
          exact k)
        obtain ⟨fs, hr, hrun, hended, hW, hsame⟩ := X75.leave (v := some (.int (1 : Int32))) (fun h => by rw [Bd.returns] at h; cases h)
        refine ⟨_, _, pre97 _ ?_, hrun, hended, _, _, rfl, ?_, ⟨_, rfl⟩, hW, hsame.mono (by decide) (by decide)⟩
        · exact retN X75 hx (t := .boolean) Bd.returns (by simp) (hb hby at_249) hr
        · show Q_law Z p1 p2 p3 wE h0 n0 _ T75.heap _
          exact ⟨rfl, N75, K75⟩
      · obtain ⟨cq98, kq98, q98a, q98b, q98c⟩ := isOf hZ e67 E70
        obtain ⟨_, _, ⟨T98, L98, k98, n98⟩, -, X98, ⟨Lc98, hQ98, l98, y98, z98⟩, st98⟩ := X67.virtualBack hx (y := (⟨"com/example/granulock/granulock/ResourceTree$Ledger", "modes", "(I)[I"⟩ : MethodName)) (z := (⟨"com/example/granulock/granulock/ResourceTree$Ledger", "modes", "(I)[I"⟩ : MethodName)) hown (mvT hZ (hw _ (List.mem_of_getElem? (i := 27) rfl))) (mvT hZ (hw _ (List.mem_of_getElem? (i := 28) rfl))) (notFace_of_selects (args := #[]) (mvT hZ (hw _ (List.mem_of_getElem? (i := 30) rfl)))) (mvT hZ (hw _ (List.mem_of_getElem? (i := 30) rfl))) (mvT hZ (hw _ (List.mem_of_getElem? (i := 29) rfl))) (by decide) (backOf (W := 0) (rm_mK l Z a0 hw [] b1 (p3 &&& (63 : Int32)) x43 (((newA x44 .int (p2 &&& (63 : Int32))).setSlot ((0 : Int32)).toNatClampNeg (.int (9 : Int32))).setSlot (((p2 &&& (63 : Int32)) - (1 : Int32))).toNatClampNeg (.int (9 : Int32))) (p2 &&& (63 : Int32)) h67 n0 Zs72 E70 F71 ge_b1 (own_63 p3).1 (own_63 p3).2 V67 (by simp only [sz_set, sz_new]) (own_63 p2).1 ne56 hs74) hZ (hw _ (List.mem_of_getElem? (i := 31) rfl)) (hw _ (List.mem_of_getElem? (i := 2) rfl)) (by decide) (by decide)) q98a q98c (g := (mkF m 179 #[.val (.int p1), .val (.int p2), .val (.int p3), .val (.int (p1 &&& (63 : Int32))), .val (.int (p2 &&& (63 : Int32))), .val (.int (p3 &&& (63 : Int32))), .val (.ref b1), .val (.ref x13), .val (.ref x43), .val (.ref x43), .unset] [(.int (p3 &&& (63 : Int32))), (.ref b1)])) rfl (by rw [hml]; rfl) (Steps.refl _) (argsL := [(.int (p3 &&& (63 : Int32)))]) (rest := []) (lenOf pd_2 rfl) rfl (by show 2 * 0 + _ ≤ _; exact Nat.le_of_eq rfl) (hb hby at_179) (fun _ _ => ⟨rfl, e67, (by decide : 3 + 0 ≤ _), (by decide : 131 + 0 ≤ _)⟩)
        dsimp only [Pt.U, Pt.locs, Pt.cells, Pt.slots] at X98 l98 y98 z98 st98 hQ98
        subst l98 y98 z98
        obtain ⟨rfl, N98q, hq99⟩ := hQ98
        have N98 := Fr.app N67 N98q
        have pre100 := fun (t : State) (k : Steps p.tables e below (T98.setTop (mkF m 211 #[.val (.int p1), .val (.int p2), .val (.int p3), .val (.int (p1 &&& (63 : Int32))), .val (.int (p2 &&& (63 : Int32))), .val (.int (p3 &&& (63 : Int32))), .val (.ref b1), .val (.ref x13), .val (.ref x43), .val (.ref x43), .val (.ref x43)] [(.int (1 : Int32))])) t) => pre73 t (by
          refine XS.aload X67.here hx rfl (hb hby at_175) rfl rfl ?_
          show Steps p.tables e below (T67.setTop (mkF m 177 #[.val (.int p1), .val (.int p2), .val (.int p3), .val (.int (p1 &&& (63 : Int32))), .val (.int (p2 &&& (63 : Int32))), .val (.int (p3 &&& (63 : Int32))), .val (.ref b1), .val (.ref x13), .val (.ref x43), .val (.ref x43), .unset] [(.ref b1)])) _
          refine XS.iload X67.here hx rfl (hb hby at_177) rfl ?_
          show Steps p.tables e below (T67.setTop (mkF m 179 #[.val (.int p1), .val (.int p2), .val (.int p3), .val (.int (p1 &&& (63 : Int32))), .val (.int (p2 &&& (63 : Int32))), .val (.int (p3 &&& (63 : Int32))), .val (.ref b1), .val (.ref x13), .val (.ref x43), .val (.ref x43), .unset] [(.int (p3 &&& (63 : Int32))), (.ref b1)])) _
          refine st98.trans ?_
          show Steps p.tables e below (T98.setTop (mkF m 182 #[.val (.int p1), .val (.int p2), .val (.int p3), .val (.int (p1 &&& (63 : Int32))), .val (.int (p2 &&& (63 : Int32))), .val (.int (p3 &&& (63 : Int32))), .val (.ref b1), .val (.ref x13), .val (.ref x43), .val (.ref x43), .unset] [(.ref x43)])) _
          refine XS.astore X98.here hx rfl (hb hby at_182) rfl rfl (l' := #[.val (.int p1), .val (.int p2), .val (.int p3), .val (.int (p1 &&& (63 : Int32))), .val (.int (p2 &&& (63 : Int32))), .val (.int (p3 &&& (63 : Int32))), .val (.ref b1), .val (.ref x13), .val (.ref x43), .val (.ref x43), .val (.ref x43)]) rfl ?_
          show Steps p.tables e below (T98.setTop (mkF m 184 #[.val (.int p1), .val (.int p2), .val (.int p3), .val (.int (p1 &&& (63 : Int32))), .val (.int (p2 &&& (63 : Int32))), .val (.int (p3 &&& (63 : Int32))), .val (.ref b1), .val (.ref x13), .val (.ref x43), .val (.ref x43), .val (.ref x43)] [])) _
          refine XS.aload X98.here hx rfl (hb hby at_184) rfl rfl ?_
          show Steps p.tables e below (T98.setTop (mkF m 186 #[.val (.int p1), .val (.int p2), .val (.int p3), .val (.int (p1 &&& (63 : Int32))), .val (.int (p2 &&& (63 : Int32))), .val (.int (p3 &&& (63 : Int32))), .val (.ref b1), .val (.ref x13), .val (.ref x43), .val (.ref x43), .val (.ref x43)] [(.ref x43)])) _
          refine XS.ifnonnullYes X98.here hx rfl (pc0 := 186) (pc' := 191) rfl (hb hby at_186) rfl (by decide) (by decide) ?_
          show Steps p.tables e below (T98.setTop (mkF m 191 #[.val (.int p1), .val (.int p2), .val (.int p3), .val (.int (p1 &&& (63 : Int32))), .val (.int (p2 &&& (63 : Int32))), .val (.int (p3 &&& (63 : Int32))), .val (.ref b1), .val (.ref x13), .val (.ref x43), .val (.ref x43), .val (.ref x43)] [])) _
          refine XS.iload X98.here hx rfl (hb hby at_191) rfl ?_
          show Steps p.tables e below (T98.setTop (mkF m 193 #[.val (.int p1), .val (.int p2), .val (.int p3), .val (.int (p1 &&& (63 : Int32))), .val (.int (p2 &&& (63 : Int32))), .val (.int (p3 &&& (63 : Int32))), .val (.ref b1), .val (.ref x13), .val (.ref x43), .val (.ref x43), .val (.ref x43)] [(.int (p3 &&& (63 : Int32)))])) _
          refine XS.aload X98.here hx rfl (hb hby at_193) rfl rfl ?_
          show Steps p.tables e below (T98.setTop (mkF m 195 #[.val (.int p1), .val (.int p2), .val (.int p3), .val (.int (p1 &&& (63 : Int32))), .val (.int (p2 &&& (63 : Int32))), .val (.int (p3 &&& (63 : Int32))), .val (.ref b1), .val (.ref x13), .val (.ref x43), .val (.ref x43), .val (.ref x43)] [(.ref x43), (.int (p3 &&& (63 : Int32)))])) _
          refine X98.arraylength hx (by rw [hq99]; exact V67.1) (State.isArrayOf_alike hZ.alike V67.2.1) (g := (mkF m 195 #[.val (.int p1), .val (.int p2), .val (.int p3), .val (.int (p1 &&& (63 : Int32))), .val (.int (p2 &&& (63 : Int32))), .val (.int (p3 &&& (63 : Int32))), .val (.ref b1), .val (.ref x13), .val (.ref x43), .val (.ref x43), .val (.ref x43)] [(.ref x43), (.int (p3 &&& (63 : Int32)))])) rfl rfl (hb hby at_195) _ ?_
          rw [show (((newA x44 .int (p2 &&& (63 : Int32))).setSlot ((0 : Int32)).toNatClampNeg (.int (9 : Int32))).setSlot (((p2 &&& (63 : Int32)) - (1 : Int32))).toNatClampNeg (.int (9 : Int32))).slots.size.toInt32 = (p2 &&& (63 : Int32)) from (len_of (show (((newA x44 .int (p2 &&& (63 : Int32))).setSlot ((0 : Int32)).toNatClampNeg (.int (9 : Int32))).setSlot (((p2 &&& (63 : Int32)) - (1 : Int32))).toNatClampNeg (.int (9 : Int32))).slots.size = (p2 &&& (63 : Int32)).toNatClampNeg from (by simp only [sz_set, sz_new])) (own_63 p2).1)]
          show Steps p.tables e below (T98.setTop (mkF m 196 #[.val (.int p1), .val (.int p2), .val (.int p3), .val (.int (p1 &&& (63 : Int32))), .val (.int (p2 &&& (63 : Int32))), .val (.int (p3 &&& (63 : Int32))), .val (.ref b1), .val (.ref x13), .val (.ref x43), .val (.ref x43), .val (.ref x43)] [(.int (p2 &&& (63 : Int32))), (.int (p3 &&& (63 : Int32)))])) _
          refine XS.icmpNo X98.here hx rfl (hb hby at_196) rfl (flt hs74).2.2.1 ?_
          show Steps p.tables e below (T98.setTop (mkF m 199 #[.val (.int p1), .val (.int p2), .val (.int p3), .val (.int (p1 &&& (63 : Int32))), .val (.int (p2 &&& (63 : Int32))), .val (.int (p3 &&& (63 : Int32))), .val (.ref b1), .val (.ref x13), .val (.ref x43), .val (.ref x43), .val (.ref x43)] [])) _
          refine XS.aload X98.here hx rfl (hb hby at_199) rfl rfl ?_
          show Steps p.tables e below (T98.setTop (mkF m 201 #[.val (.int p1), .val (.int p2), .val (.int p3), .val (.int (p1 &&& (63 : Int32))), .val (.int (p2 &&& (63 : Int32))), .val (.int (p3 &&& (63 : Int32))), .val (.ref b1), .val (.ref x13), .val (.ref x43), .val (.ref x43), .val (.ref x43)] [(.ref x43)])) _
          refine XS.aload X98.here hx rfl (hb hby at_201) rfl rfl ?_
          show Steps p.tables e below (T98.setTop (mkF m 203 #[.val (.int p1), .val (.int p2), .val (.int p3), .val (.int (p1 &&& (63 : Int32))), .val (.int (p2 &&& (63 : Int32))), .val (.int (p3 &&& (63 : Int32))), .val (.ref b1), .val (.ref x13), .val (.ref x43), .val (.ref x43), .val (.ref x43)] [(.ref x43), (.ref x43)])) _
          refine Jvm.RoadKit.acmp (g := (mkF m 203 #[.val (.int p1), .val (.int p2), .val (.int p3), .val (.int (p1 &&& (63 : Int32))), .val (.int (p2 &&& (63 : Int32))), .val (.int (p3 &&& (63 : Int32))), .val (.ref b1), .val (.ref x13), .val (.ref x43), .val (.ref x43), .val (.ref x43)] [(.ref x43), (.ref x43)])) X98 hx rfl rfl rfl (pc0 := 203) (pc' := 206) (same := true) rfl (hb hby at_203) rfl (decide_eq_true rfl) (by decide) (by decide) ?_
          show Steps p.tables e below (T98.setTop (mkF m 206 #[.val (.int p1), .val (.int p2), .val (.int p3), .val (.int (p1 &&& (63 : Int32))), .val (.int (p2 &&& (63 : Int32))), .val (.int (p3 &&& (63 : Int32))), .val (.ref b1), .val (.ref x13), .val (.ref x43), .val (.ref x43), .val (.ref x43)] [])) _
          refine XS.iconst X98.here hx rfl (hb hby at_206) ?_
          show Steps p.tables e below (T98.setTop (mkF m 207 #[.val (.int p1), .val (.int p2), .val (.int p3), .val (.int (p1 &&& (63 : Int32))), .val (.int (p2 &&& (63 : Int32))), .val (.int (p3 &&& (63 : Int32))), .val (.ref b1), .val (.ref x13), .val (.ref x43), .val (.ref x43), .val (.ref x43)] [(.int (1 : Int32))])) _
          refine XS.goto X98.here hx rfl (pc0 := 207) (pc' := 211) rfl (hb hby at_207) (by decide) (by decide) ?_
          show Steps p.tables e below (T98.setTop (mkF m 211 #[.val (.int p1), .val (.int p2), .val (.int p3), .val (.int (p1 &&& (63 : Int32))), .val (.int (p2 &&& (63 : Int32))), .val (.int (p3 &&& (63 : Int32))), .val (.ref b1), .val (.ref x13), .val (.ref x43), .val (.ref x43), .val (.ref x43)] [(.int (1 : Int32))])) _
          exact k)
        obtain ⟨fs, hr, hrun, hended, hW, hsame⟩ := X98.leave (v := some (.int (1 : Int32))) (fun h => by rw [Bd.returns] at h; cases h)
        refine ⟨_, _, pre100 _ ?_, hrun, hended, _, _, rfl, ?_, ⟨_, rfl⟩, hW, hsame.mono (by decide) (by decide)⟩
        · exact retN X98 hx (t := .boolean) Bd.returns (by simp) (hb hby at_211) hr
        · show Q_law Z p1 p2 p3 wE h0 n0 _ T98.heap _
          rw [hq99]
          exact ⟨rfl, N98, K67⟩
    · obtain ⟨cq101, kq101, q101a, q101b, q101c⟩ := isOf hZ e35 E37
      obtain ⟨_, _, ⟨T101, L101, k101, n101⟩, -, X101, ⟨Lc101, hQ101, l101, y101, z101⟩, st101⟩ := X35.virtualBack hx (y := (⟨"com/example/granulock/granulock/ResourceTree$Ledger", "modes", "(I)[I"⟩ : MethodName)) (z := (⟨"com/example/granulock/granulock/ResourceTree$Ledger", "modes", "(I)[I"⟩ : MethodName)) hown (mvT hZ (hw _ (List.mem_of_getElem? (i := 27) rfl))) (mvT hZ (hw _ (List.mem_of_getElem? (i := 28) rfl))) (notFace_of_selects (args := #[]) (mvT hZ (hw _ (List.mem_of_getElem? (i := 30) rfl)))) (mvT hZ (hw _ (List.mem_of_getElem? (i := 30) rfl))) (mvT hZ (hw _ (List.mem_of_getElem? (i := 29) rfl))) (by decide) (backOf (W := 0) (rm_mK l Z a0 hw [] b1 (p2 &&& (63 : Int32)) x13 (((newA x14 .int (p1 &&& (63 : Int32))).setSlot ((0 : Int32)).toNatClampNeg (.int (7 : Int32))).setSlot (((p1 &&& (63 : Int32)) - (1 : Int32))).toNatClampNeg (.int (7 : Int32))) (p1 &&& (63 : Int32)) h35 n0 Zs39 E37 F38 ge_b1 (own_63 p2).1 (own_63 p2).2 V35 (by simp only [sz_set, sz_new]) (own_63 p1).1 ne24 hs41) hZ (hw _ (List.mem_of_getElem? (i := 31) rfl)) (hw _ (List.mem_of_getElem? (i := 2) rfl)) (by decide) (by decide)) q101a q101c (g := (mkF m 88 #[.val (.int p1), .val (.int p2), .val (.int p3), .val (.int (p1 &&& (63 : Int32))), .val (.int (p2 &&& (63 : Int32))), .val (.int (p3 &&& (63 : Int32))), .val (.ref b1), .val (.ref x13), .unset, .unset, .unset] [(.int (p2 &&& (63 : Int32))), (.ref b1)])) rfl (by rw [hml]; rfl) (Steps.refl _) (argsL := [(.int (p2 &&& (63 : Int32)))]) (rest := []) (lenOf pd_2 rfl) rfl (by show 2 * 0 + _ ≤ _; exact Nat.le_of_eq rfl) (hb hby at_88) (fun _ _ => ⟨rfl, e35, (by decide : 2 + 0 ≤ _), (by decide : 68 + 0 ≤ _)⟩)
      dsimp only [Pt.U, Pt.locs, Pt.cells, Pt.slots] at X101 l101 y101 z101 st101 hQ101
      subst l101 y101 z101
      obtain ⟨rfl, N101q, hq102⟩ := hQ101
      have N101 := Fr.app N35 N101q
      have pre103 := fun (t : State) (k : Steps p.tables e below (T101.setTop (mkF m 175 #[.val (.int p1), .val (.int p2), .val (.int p3), .val (.int (p1 &&& (63 : Int32))), .val (.int (p2 &&& (63 : Int32))), .val (.int (p3 &&& (63 : Int32))), .val (.ref b1), .val (.ref x13), .val (.ref x13), .val (.ref x13), .unset] [])) t) => pre40 t (by
        refine XS.aload X35.here hx rfl (hb hby at_84) rfl rfl ?_
        show Steps p.tables e below (T35.setTop (mkF m 86 #[.val (.int p1), .val (.int p2), .val (.int p3), .val (.int (p1 &&& (63 : Int32))), .val (.int (p2 &&& (63 : Int32))), .val (.int (p3 &&& (63 : Int32))), .val (.ref b1), .val (.ref x13), .unset, .unset, .unset] [(.ref b1)])) _
        refine XS.iload X35.here hx rfl (hb hby at_86) rfl ?_
        show Steps p.tables e below (T35.setTop (mkF m 88 #[.val (.int p1), .val (.int p2), .val (.int p3), .val (.int (p1 &&& (63 : Int32))), .val (.int (p2 &&& (63 : Int32))), .val (.int (p3 &&& (63 : Int32))), .val (.ref b1), .val (.ref x13), .unset, .unset, .unset] [(.int (p2 &&& (63 : Int32))), (.ref b1)])) _
        refine st101.trans ?_
        show Steps p.tables e below (T101.setTop (mkF m 91 #[.val (.int p1), .val (.int p2), .val (.int p3), .val (.int (p1 &&& (63 : Int32))), .val (.int (p2 &&& (63 : Int32))), .val (.int (p3 &&& (63 : Int32))), .val (.ref b1), .val (.ref x13), .unset, .unset, .unset] [(.ref x13)])) _
        refine XS.astore X101.here hx rfl (hb hby at_91) rfl rfl (l' := #[.val (.int p1), .val (.int p2), .val (.int p3), .val (.int (p1 &&& (63 : Int32))), .val (.int (p2 &&& (63 : Int32))), .val (.int (p3 &&& (63 : Int32))), .val (.ref b1), .val (.ref x13), .val (.ref x13), .unset, .unset]) rfl ?_
        show Steps p.tables e below (T101.setTop (mkF m 93 #[.val (.int p1), .val (.int p2), .val (.int p3), .val (.int (p1 &&& (63 : Int32))), .val (.int (p2 &&& (63 : Int32))), .val (.int (p3 &&& (63 : Int32))), .val (.ref b1), .val (.ref x13), .val (.ref x13), .unset, .unset] [])) _
        refine XS.aload X101.here hx rfl (hb hby at_93) rfl rfl ?_
        show Steps p.tables e below (T101.setTop (mkF m 95 #[.val (.int p1), .val (.int p2), .val (.int p3), .val (.int (p1 &&& (63 : Int32))), .val (.int (p2 &&& (63 : Int32))), .val (.int (p3 &&& (63 : Int32))), .val (.ref b1), .val (.ref x13), .val (.ref x13), .unset, .unset] [(.ref x13)])) _
        refine XS.ifnonnullYes X101.here hx rfl (pc0 := 95) (pc' := 100) rfl (hb hby at_95) rfl (by decide) (by decide) ?_
        show Steps p.tables e below (T101.setTop (mkF m 100 #[.val (.int p1), .val (.int p2), .val (.int p3), .val (.int (p1 &&& (63 : Int32))), .val (.int (p2 &&& (63 : Int32))), .val (.int (p3 &&& (63 : Int32))), .val (.ref b1), .val (.ref x13), .val (.ref x13), .unset, .unset] [])) _
        refine XS.iload X101.here hx rfl (hb hby at_100) rfl ?_
        show Steps p.tables e below (T101.setTop (mkF m 102 #[.val (.int p1), .val (.int p2), .val (.int p3), .val (.int (p1 &&& (63 : Int32))), .val (.int (p2 &&& (63 : Int32))), .val (.int (p3 &&& (63 : Int32))), .val (.ref b1), .val (.ref x13), .val (.ref x13), .unset, .unset] [(.int (p2 &&& (63 : Int32)))])) _
        refine XS.iloadN X101.here hx rfl (hb hby at_102) rfl ?_
        show Steps p.tables e below (T101.setTop (mkF m 103 #[.val (.int p1), .val (.int p2), .val (.int p3), .val (.int (p1 &&& (63 : Int32))), .val (.int (p2 &&& (63 : Int32))), .val (.int (p3 &&& (63 : Int32))), .val (.ref b1), .val (.ref x13), .val (.ref x13), .unset, .unset] [(.int (p1 &&& (63 : Int32))), (.int (p2 &&& (63 : Int32)))])) _
        refine XS.icmpNo X101.here hx rfl (hb hby at_103) rfl (flt hs41).2.2.1 ?_
        show Steps p.tables e below (T101.setTop (mkF m 106 #[.val (.int p1), .val (.int p2), .val (.int p3), .val (.int (p1 &&& (63 : Int32))), .val (.int (p2 &&& (63 : Int32))), .val (.int (p3 &&& (63 : Int32))), .val (.ref b1), .val (.ref x13), .val (.ref x13), .unset, .unset] [])) _
        refine XS.aload X101.here hx rfl (hb hby at_106) rfl rfl ?_
        show Steps p.tables e below (T101.setTop (mkF m 108 #[.val (.int p1), .val (.int p2), .val (.int p3), .val (.int (p1 &&& (63 : Int32))), .val (.int (p2 &&& (63 : Int32))), .val (.int (p3 &&& (63 : Int32))), .val (.ref b1), .val (.ref x13), .val (.ref x13), .unset, .unset] [(.ref x13)])) _
        refine XS.aload X101.here hx rfl (hb hby at_108) rfl rfl ?_
        show Steps p.tables e below (T101.setTop (mkF m 110 #[.val (.int p1), .val (.int p2), .val (.int p3), .val (.int (p1 &&& (63 : Int32))), .val (.int (p2 &&& (63 : Int32))), .val (.int (p3 &&& (63 : Int32))), .val (.ref b1), .val (.ref x13), .val (.ref x13), .unset, .unset] [(.ref x13), (.ref x13)])) _
        refine Jvm.RoadKit.acmp (g := (mkF m 110 #[.val (.int p1), .val (.int p2), .val (.int p3), .val (.int (p1 &&& (63 : Int32))), .val (.int (p2 &&& (63 : Int32))), .val (.int (p3 &&& (63 : Int32))), .val (.ref b1), .val (.ref x13), .val (.ref x13), .unset, .unset] [(.ref x13), (.ref x13)])) X101 hx rfl rfl rfl (pc0 := 110) (pc' := 115) (same := true) rfl (hb hby at_110) rfl (decide_eq_true rfl) (by decide) (by decide) ?_
        show Steps p.tables e below (T101.setTop (mkF m 115 #[.val (.int p1), .val (.int p2), .val (.int p3), .val (.int (p1 &&& (63 : Int32))), .val (.int (p2 &&& (63 : Int32))), .val (.int (p3 &&& (63 : Int32))), .val (.ref b1), .val (.ref x13), .val (.ref x13), .unset, .unset] [])) _
        refine XS.aload X101.here hx rfl (hb hby at_115) rfl rfl ?_
        show Steps p.tables e below (T101.setTop (mkF m 117 #[.val (.int p1), .val (.int p2), .val (.int p3), .val (.int (p1 &&& (63 : Int32))), .val (.int (p2 &&& (63 : Int32))), .val (.int (p3 &&& (63 : Int32))), .val (.ref b1), .val (.ref x13), .val (.ref x13), .unset, .unset] [(.ref x13)])) _
        refine XS.astore X101.here hx rfl (hb hby at_117) rfl rfl (l' := #[.val (.int p1), .val (.int p2), .val (.int p3), .val (.int (p1 &&& (63 : Int32))), .val (.int (p2 &&& (63 : Int32))), .val (.int (p3 &&& (63 : Int32))), .val (.ref b1), .val (.ref x13), .val (.ref x13), .val (.ref x13), .unset]) rfl ?_
        show Steps p.tables e below (T101.setTop (mkF m 119 #[.val (.int p1), .val (.int p2), .val (.int p3), .val (.int (p1 &&& (63 : Int32))), .val (.int (p2 &&& (63 : Int32))), .val (.int (p3 &&& (63 : Int32))), .val (.ref b1), .val (.ref x13), .val (.ref x13), .val (.ref x13), .unset] [])) _
        refine XS.goto X101.here hx rfl (pc0 := 119) (pc' := 175) rfl (hb hby at_119) (by decide) (by decide) ?_
        show Steps p.tables e below (T101.setTop (mkF m 175 #[.val (.int p1), .val (.int p2), .val (.int p3), .val (.int (p1 &&& (63 : Int32))), .val (.int (p2 &&& (63 : Int32))), .val (.int (p3 &&& (63 : Int32))), .val (.ref b1), .val (.ref x13), .val (.ref x13), .val (.ref x13), .unset] [])) _
        exact k)
      by_cases hs104 : (p1 &&& (63 : Int32)) < (p3 &&& (63 : Int32))
      · obtain ⟨cq105, kq105, q105a, q105b, q105c⟩ := isOf hZ hq102 E37
        obtain ⟨_, _, ⟨T105, L105, k105, n105⟩, -, X105, ⟨Lc105, hQ105, l105, y105, z105⟩, st105⟩ := X101.virtualBack hx (y := (⟨"com/example/granulock/granulock/ResourceTree$Ledger", "modes", "(I)[I"⟩ : MethodName)) (z := (⟨"com/example/granulock/granulock/ResourceTree$Ledger", "modes", "(I)[I"⟩ : MethodName)) hown (mvT hZ (hw _ (List.mem_of_getElem? (i := 27) rfl))) (mvT hZ (hw _ (List.mem_of_getElem? (i := 28) rfl))) (notFace_of_selects (args := #[]) (mvT hZ (hw _ (List.mem_of_getElem? (i := 30) rfl)))) (mvT hZ (hw _ (List.mem_of_getElem? (i := 30) rfl))) (mvT hZ (hw _ (List.mem_of_getElem? (i := 29) rfl))) (by decide) (backOf (W := 0) (rm_mG l Z a0 hw [] b1 (p3 &&& (63 : Int32)) x13 (((newA x14 .int (p1 &&& (63 : Int32))).setSlot ((0 : Int32)).toNatClampNeg (.int (7 : Int32))).setSlot (((p1 &&& (63 : Int32)) - (1 : Int32))).toNatClampNeg (.int (7 : Int32))) (p1 &&& (63 : Int32)) h35 n0 Zs39 E37 F38 ge_b1 (own_63 p3).1 (own_63 p3).2 V35 (by simp only [sz_set, sz_new]) (own_63 p1).1 ne24 hs104) hZ (hw _ (List.mem_of_getElem? (i := 31) rfl)) (hw _ (List.mem_of_getElem? (i := 2) rfl)) (by decide) (by decide)) q105a q105c (g := (mkF m 179 #[.val (.int p1), .val (.int p2), .val (.int p3), .val (.int (p1 &&& (63 : Int32))), .val (.int (p2 &&& (63 : Int32))), .val (.int (p3 &&& (63 : Int32))), .val (.ref b1), .val (.ref x13), .val (.ref x13), .val (.ref x13), .unset] [(.int (p3 &&& (63 : Int32))), (.ref b1)])) rfl (by rw [hml]; rfl) (Steps.refl _) (argsL := [(.int (p3 &&& (63 : Int32)))]) (rest := []) (lenOf pd_2 rfl) rfl (by show 2 * 0 + _ ≤ _; exact Nat.le_of_eq rfl) (hb hby at_179) (fun _ _ => ⟨rfl, hq102, (by decide : 2 + 1 ≤ _), (by decide : 68 + 63 ≤ _)⟩)
        dsimp only [Pt.U, Pt.locs, Pt.cells, Pt.slots] at X105 l105 y105 z105 st105 hQ105
        subst l105 y105 z105
        obtain ⟨x106, x107, rfl, N105q, hq108, p109, p110, E111, F112, R113⟩ := hQ105
        have N105 := Fr.app N101 N105q
        have lt114 : b1 < h35.size := E37.lt
        have lt115 : x13 < h35.size := V35.lt
        have S116 : Sta Z T105.heap "java/util/ImmutableCollections" "EMPTY_LIST" "Ljava/util/ImmutableCollections$ListN;" (.ref wE) := own_sta_keep S36 hq108 (allS (own_ns_exa E37) all0)
        have R117 : Arr Z T105.heap x13 (((newA x14 .int (p1 &&& (63 : Int32))).setSlot ((0 : Int32)).toNatClampNeg (.int (7 : Int32))).setSlot (((p1 &&& (63 : Int32)) - (1 : Int32))).toNatClampNeg (.int (7 : Int32))) .int := own_arr_keep V35 hq108 (ninS (Ne.symm ne24) nin0)
        have K105 : Keep h0 T105.heap [] := K35.trans hq108 (allS (Or.inr sz_b1) all0)
        have Zs118 : n0 ≤ T105.heap.size := (Nat.le_trans Zs39 hq108.1)
        have ne119 : b1 ≠ x106 := Nat.ne_of_lt (Nat.lt_of_lt_of_le lt114 p110)
        have ne120 : x13 ≠ x106 := Nat.ne_of_lt (Nat.lt_of_lt_of_le lt115 p110)
        have sz121 : h0.size ≤ x106 := Nat.le_trans K35.1 p110
        have hin122 : ¬ ((0 : Int32) < 0 ∨ (newA x107 .int (p3 &&& (63 : Int32))).slots.size ≤ ((0 : Int32)).toNatClampNeg) := (inb_of (show (newA x107 .int (p3 &&& (63 : Int32))).slots.size = (p3 &&& (63 : Int32)).toNatClampNeg from (by simp only [sz_set, sz_new])) ⟨by decide, (own_pos (own_63 p1).1 hs104)⟩)
        have hin123 : ¬ (((p3 &&& (63 : Int32)) - (1 : Int32)) < 0 ∨ (newA x107 .int (p3 &&& (63 : Int32))).slots.size ≤ (((p3 &&& (63 : Int32)) - (1 : Int32))).toNatClampNeg) := (inb_of (show (newA x107 .int (p3 &&& (63 : Int32))).slots.size = (p3 &&& (63 : Int32)).toNatClampNeg from (by simp only [sz_set, sz_new])) (own_pred (own_pos (own_63 p1).1 hs104)))
        have pre124 := fun (t : State) (k : Steps p.tables e below (T105.setTop (mkF m 249 #[.val (.int p1), .val (.int p2), .val (.int p3), .val (.int (p1 &&& (63 : Int32))), .val (.int (p2 &&& (63 : Int32))), .val (.int (p3 &&& (63 : Int32))), .val (.ref b1), .val (.ref x13), .val (.ref x13), .val (.ref x13), .val (.ref x106)] [(.int (1 : Int32))])) t) => pre103 t (by
          refine XS.aload X101.here hx rfl (hb hby at_175) rfl rfl ?_
          show Steps p.tables e below (T101.setTop (mkF m 177 #[.val (.int p1), .val (.int p2), .val (.int p3), .val (.int (p1 &&& (63 : Int32))), .val (.int (p2 &&& (63 : Int32))), .val (.int (p3 &&& (63 : Int32))), .val (.ref b1), .val (.ref x13), .val (.ref x13), .val (.ref x13), .unset] [(.ref b1)])) _
          refine XS.iload X101.here hx rfl (hb hby at_177) rfl ?_
          show Steps p.tables e below (T101.setTop (mkF m 179 #[.val (.int p1), .val (.int p2), .val (.int p3), .val (.int (p1 &&& (63 : Int32))), .val (.int (p2 &&& (63 : Int32))), .val (.int (p3 &&& (63 : Int32))), .val (.ref b1), .val (.ref x13), .val (.ref x13), .val (.ref x13), .unset] [(.int (p3 &&& (63 : Int32))), (.ref b1)])) _
          refine st105.trans ?_
          show Steps p.tables e below (T105.setTop (mkF m 182 #[.val (.int p1), .val (.int p2), .val (.int p3), .val (.int (p1 &&& (63 : Int32))), .val (.int (p2 &&& (63 : Int32))), .val (.int (p3 &&& (63 : Int32))), .val (.ref b1), .val (.ref x13), .val (.ref x13), .val (.ref x13), .unset] [(.ref x106)])) _
          refine XS.astore X105.here hx rfl (hb hby at_182) rfl rfl (l' := #[.val (.int p1), .val (.int p2), .val (.int p3), .val (.int (p1 &&& (63 : Int32))), .val (.int (p2 &&& (63 : Int32))), .val (.int (p3 &&& (63 : Int32))), .val (.ref b1), .val (.ref x13), .val (.ref x13), .val (.ref x13), .val (.ref x106)]) rfl ?_
          show Steps p.tables e below (T105.setTop (mkF m 184 #[.val (.int p1), .val (.int p2), .val (.int p3), .val (.int (p1 &&& (63 : Int32))), .val (.int (p2 &&& (63 : Int32))), .val (.int (p3 &&& (63 : Int32))), .val (.ref b1), .val (.ref x13), .val (.ref x13), .val (.ref x13), .val (.ref x106)] [])) _
          refine XS.aload X105.here hx rfl (hb hby at_184) rfl rfl ?_
          show Steps p.tables e below (T105.setTop (mkF m 186 #[.val (.int p1), .val (.int p2), .val (.int p3), .val (.int (p1 &&& (63 : Int32))), .val (.int (p2 &&& (63 : Int32))), .val (.int (p3 &&& (63 : Int32))), .val (.ref b1), .val (.ref x13), .val (.ref x13), .val (.ref x13), .val (.ref x106)] [(.ref x106)])) _
          refine XS.ifnonnullYes X105.here hx rfl (pc0 := 186) (pc' := 191) rfl (hb hby at_186) rfl (by decide) (by decide) ?_
          show Steps p.tables e below (T105.setTop (mkF m 191 #[.val (.int p1), .val (.int p2), .val (.int p3), .val (.int (p1 &&& (63 : Int32))), .val (.int (p2 &&& (63 : Int32))), .val (.int (p3 &&& (63 : Int32))), .val (.ref b1), .val (.ref x13), .val (.ref x13), .val (.ref x13), .val (.ref x106)] [])) _
          refine XS.iload X105.here hx rfl (hb hby at_191) rfl ?_
          show Steps p.tables e below (T105.setTop (mkF m 193 #[.val (.int p1), .val (.int p2), .val (.int p3), .val (.int (p1 &&& (63 : Int32))), .val (.int (p2 &&& (63 : Int32))), .val (.int (p3 &&& (63 : Int32))), .val (.ref b1), .val (.ref x13), .val (.ref x13), .val (.ref x13), .val (.ref x106)] [(.int (p3 &&& (63 : Int32)))])) _
          refine XS.aload X105.here hx rfl (hb hby at_193) rfl rfl ?_
          show Steps p.tables e below (T105.setTop (mkF m 195 #[.val (.int p1), .val (.int p2), .val (.int p3), .val (.int (p1 &&& (63 : Int32))), .val (.int (p2 &&& (63 : Int32))), .val (.int (p3 &&& (63 : Int32))), .val (.ref b1), .val (.ref x13), .val (.ref x13), .val (.ref x13), .val (.ref x106)] [(.ref x13), (.int (p3 &&& (63 : Int32)))])) _
          refine X105.arraylength hx R117.1 (State.isArrayOf_alike hZ.alike R117.2.1) (g := (mkF m 195 #[.val (.int p1), .val (.int p2), .val (.int p3), .val (.int (p1 &&& (63 : Int32))), .val (.int (p2 &&& (63 : Int32))), .val (.int (p3 &&& (63 : Int32))), .val (.ref b1), .val (.ref x13), .val (.ref x13), .val (.ref x13), .val (.ref x106)] [(.ref x13), (.int (p3 &&& (63 : Int32)))])) rfl rfl (hb hby at_195) _ ?_
          rw [show (((newA x14 .int (p1 &&& (63 : Int32))).setSlot ((0 : Int32)).toNatClampNeg (.int (7 : Int32))).setSlot (((p1 &&& (63 : Int32)) - (1 : Int32))).toNatClampNeg (.int (7 : Int32))).slots.size.toInt32 = (p1 &&& (63 : Int32)) from (len_of (show (((newA x14 .int (p1 &&& (63 : Int32))).setSlot ((0 : Int32)).toNatClampNeg (.int (7 : Int32))).setSlot (((p1 &&& (63 : Int32)) - (1 : Int32))).toNatClampNeg (.int (7 : Int32))).slots.size = (p1 &&& (63 : Int32)).toNatClampNeg from (by simp only [sz_set, sz_new])) (own_63 p1).1)]
          show Steps p.tables e below (T105.setTop (mkF m 196 #[.val (.int p1), .val (.int p2), .val (.int p3), .val (.int (p1 &&& (63 : Int32))), .val (.int (p2 &&& (63 : Int32))), .val (.int (p3 &&& (63 : Int32))), .val (.ref b1), .val (.ref x13), .val (.ref x13), .val (.ref x13), .val (.ref x106)] [(.int (p1 &&& (63 : Int32))), (.int (p3 &&& (63 : Int32)))])) _
          refine XS.icmpYes X105.here hx rfl (pc0 := 196) (pc' := 212) rfl (hb hby at_196) rfl (tlt hs104).2.2.1 (by decide) (by decide) ?_
          show Steps p.tables e below (T105.setTop (mkF m 212 #[.val (.int p1), .val (.int p2), .val (.int p3), .val (.int (p1 &&& (63 : Int32))), .val (.int (p2 &&& (63 : Int32))), .val (.int (p3 &&& (63 : Int32))), .val (.ref b1), .val (.ref x13), .val (.ref x13), .val (.ref x13), .val (.ref x106)] [])) _
          refine XS.aload X105.here hx rfl (hb hby at_212) rfl rfl ?_
          show Steps p.tables e below (T105.setTop (mkF m 214 #[.val (.int p1), .val (.int p2), .val (.int p3), .val (.int (p1 &&& (63 : Int32))), .val (.int (p2 &&& (63 : Int32))), .val (.int (p3 &&& (63 : Int32))), .val (.ref b1), .val (.ref x13), .val (.ref x13), .val (.ref x13), .val (.ref x106)] [(.ref x106)])) _
          refine XS.aload X105.here hx rfl (hb hby at_214) rfl rfl ?_
          show Steps p.tables e below (T105.setTop (mkF m 216 #[.val (.int p1), .val (.int p2), .val (.int p3), .val (.int (p1 &&& (63 : Int32))), .val (.int (p2 &&& (63 : Int32))), .val (.int (p3 &&& (63 : Int32))), .val (.ref b1), .val (.ref x13), .val (.ref x13), .val (.ref x13), .val (.ref x106)] [(.ref x13), (.ref x106)])) _
          refine Jvm.RoadKit.acmp (g := (mkF m 216 #[.val (.int p1), .val (.int p2), .val (.int p3), .val (.int (p1 &&& (63 : Int32))), .val (.int (p2 &&& (63 : Int32))), .val (.int (p3 &&& (63 : Int32))), .val (.ref b1), .val (.ref x13), .val (.ref x13), .val (.ref x13), .val (.ref x106)] [(.ref x13), (.ref x106)])) X105 hx rfl rfl rfl (pc0 := 216) (pc' := 219) (same := false) rfl (hb hby at_216) rfl (decide_eq_false fun q => (Ne.symm ne120) (Value.ref.inj q)) (by decide) (by decide) ?_
          show Steps p.tables e below (T105.setTop (mkF m 219 #[.val (.int p1), .val (.int p2), .val (.int p3), .val (.int (p1 &&& (63 : Int32))), .val (.int (p2 &&& (63 : Int32))), .val (.int (p3 &&& (63 : Int32))), .val (.ref b1), .val (.ref x13), .val (.ref x13), .val (.ref x13), .val (.ref x106)] [])) _
          refine XS.aload X105.here hx rfl (hb hby at_219) rfl rfl ?_
          show Steps p.tables e below (T105.setTop (mkF m 221 #[.val (.int p1), .val (.int p2), .val (.int p3), .val (.int (p1 &&& (63 : Int32))), .val (.int (p2 &&& (63 : Int32))), .val (.int (p3 &&& (63 : Int32))), .val (.ref b1), .val (.ref x13), .val (.ref x13), .val (.ref x13), .val (.ref x106)] [(.ref x106)])) _
          refine X105.arraylength hx R113.1 (State.isArrayOf_alike hZ.alike R113.2.1) (g := (mkF m 221 #[.val (.int p1), .val (.int p2), .val (.int p3), .val (.int (p1 &&& (63 : Int32))), .val (.int (p2 &&& (63 : Int32))), .val (.int (p3 &&& (63 : Int32))), .val (.ref b1), .val (.ref x13), .val (.ref x13), .val (.ref x13), .val (.ref x106)] [(.ref x106)])) rfl rfl (hb hby at_221) _ ?_
          rw [show (newA x107 .int (p3 &&& (63 : Int32))).slots.size.toInt32 = (p3 &&& (63 : Int32)) from (len_of (show (newA x107 .int (p3 &&& (63 : Int32))).slots.size = (p3 &&& (63 : Int32)).toNatClampNeg from (by simp only [sz_set, sz_new])) (own_63 p3).1)]
          show Steps p.tables e below (T105.setTop (mkF m 222 #[.val (.int p1), .val (.int p2), .val (.int p3), .val (.int (p1 &&& (63 : Int32))), .val (.int (p2 &&& (63 : Int32))), .val (.int (p3 &&& (63 : Int32))), .val (.ref b1), .val (.ref x13), .val (.ref x13), .val (.ref x13), .val (.ref x106)] [(.int (p3 &&& (63 : Int32)))])) _
          refine XS.iload X105.here hx rfl (hb hby at_222) rfl ?_
          show Steps p.tables e below (T105.setTop (mkF m 224 #[.val (.int p1), .val (.int p2), .val (.int p3), .val (.int (p1 &&& (63 : Int32))), .val (.int (p2 &&& (63 : Int32))), .val (.int (p3 &&& (63 : Int32))), .val (.ref b1), .val (.ref x13), .val (.ref x13), .val (.ref x13), .val (.ref x106)] [(.int (p3 &&& (63 : Int32))), (.int (p3 &&& (63 : Int32)))])) _
          refine XS.icmpNo X105.here hx rfl (hb hby at_224) rfl (teq (rfl : (p3 &&& (63 : Int32)) = (p3 &&& (63 : Int32)))).2 ?_
          show Steps p.tables e below (T105.setTop (mkF m 227 #[.val (.int p1), .val (.int p2), .val (.int p3), .val (.int (p1 &&& (63 : Int32))), .val (.int (p2 &&& (63 : Int32))), .val (.int (p3 &&& (63 : Int32))), .val (.ref b1), .val (.ref x13), .val (.ref x13), .val (.ref x13), .val (.ref x106)] [])) _
          refine XS.aload X105.here hx rfl (hb hby at_227) rfl rfl ?_
          show Steps p.tables e below (T105.setTop (mkF m 229 #[.val (.int p1), .val (.int p2), .val (.int p3), .val (.int (p1 &&& (63 : Int32))), .val (.int (p2 &&& (63 : Int32))), .val (.int (p3 &&& (63 : Int32))), .val (.ref b1), .val (.ref x13), .val (.ref x13), .val (.ref x13), .val (.ref x106)] [(.ref x106)])) _
          refine XS.iconst X105.here hx rfl (hb hby at_229) ?_
          show Steps p.tables e below (T105.setTop (mkF m 230 #[.val (.int p1), .val (.int p2), .val (.int p3), .val (.int (p1 &&& (63 : Int32))), .val (.int (p2 &&& (63 : Int32))), .val (.int (p3 &&& (63 : Int32))), .val (.ref b1), .val (.ref x13), .val (.ref x13), .val (.ref x13), .val (.ref x106)] [(.int (0 : Int32)), (.ref x106)])) _
          refine X105.iaload hx (j := (0 : Int32)) (v := (.int (0 : Int32))) R113.1 (State.isArrayOf_alike hZ.alike R113.2.1) R113.2.2 hin122 (get_new (by have q := hin122; rw [sz_new] at q; exact q)) (g := (mkF m 230 #[.val (.int p1), .val (.int p2), .val (.int p3), .val (.int (p1 &&& (63 : Int32))), .val (.int (p2 &&& (63 : Int32))), .val (.int (p3 &&& (63 : Int32))), .val (.ref b1), .val (.ref x13), .val (.ref x13), .val (.ref x13), .val (.ref x106)] [(.int (0 : Int32)), (.ref x106)])) rfl rfl (hb hby at_230) _ ?_
          show Steps p.tables e below (T105.setTop (mkF m 231 #[.val (.int p1), .val (.int p2), .val (.int p3), .val (.int (p1 &&& (63 : Int32))), .val (.int (p2 &&& (63 : Int32))), .val (.int (p3 &&& (63 : Int32))), .val (.ref b1), .val (.ref x13), .val (.ref x13), .val (.ref x13), .val (.ref x106)] [(.int (0 : Int32))])) _
          refine XS.ifNo X105.here hx rfl (hb hby at_231) rfl ((if0 _ _).trans (teq (by decide : (0 : Int32) = (0 : Int32))).2) ?_
          show Steps p.tables e below (T105.setTop (mkF m 234 #[.val (.int p1), .val (.int p2), .val (.int p3), .val (.int (p1 &&& (63 : Int32))), .val (.int (p2 &&& (63 : Int32))), .val (.int (p3 &&& (63 : Int32))), .val (.ref b1), .val (.ref x13), .val (.ref x13), .val (.ref x13), .val (.ref x106)] [])) _
          refine XS.aload X105.here hx rfl (hb hby at_234) rfl rfl ?_
          show Steps p.tables e below (T105.setTop (mkF m 236 #[.val (.int p1), .val (.int p2), .val (.int p3), .val (.int (p1 &&& (63 : Int32))), .val (.int (p2 &&& (63 : Int32))), .val (.int (p3 &&& (63 : Int32))), .val (.ref b1), .val (.ref x13), .val (.ref x13), .val (.ref x13), .val (.ref x106)] [(.ref x106)])) _
          refine XS.iload X105.here hx rfl (hb hby at_236) rfl ?_
          show Steps p.tables e below (T105.setTop (mkF m 238 #[.val (.int p1), .val (.int p2), .val (.int p3), .val (.int (p1 &&& (63 : Int32))), .val (.int (p2 &&& (63 : Int32))), .val (.int (p3 &&& (63 : Int32))), .val (.ref b1), .val (.ref x13), .val (.ref x13), .val (.ref x13), .val (.ref x106)] [(.int (p3 &&& (63 : Int32))), (.ref x106)])) _
          refine XS.iconst X105.here hx rfl (hb hby at_238) ?_
          show Steps p.tables e below (T105.setTop (mkF m 239 #[.val (.int p1), .val (.int p2), .val (.int p3), .val (.int (p1 &&& (63 : Int32))), .val (.int (p2 &&& (63 : Int32))), .val (.int (p3 &&& (63 : Int32))), .val (.ref b1), .val (.ref x13), .val (.ref x13), .val (.ref x13), .val (.ref x106)] [(.int (1 : Int32)), (.int (p3 &&& (63 : Int32))), (.ref x106)])) _
          refine XS.isub X105.here hx rfl (hb hby at_239) rfl ?_
          show Steps p.tables e below (T105.setTop (mkF m 240 #[.val (.int p1), .val (.int p2), .val (.int p3), .val (.int (p1 &&& (63 : Int32))), .val (.int (p2 &&& (63 : Int32))), .val (.int (p3 &&& (63 : Int32))), .val (.ref b1), .val (.ref x13), .val (.ref x13), .val (.ref x13), .val (.ref x106)] [(.int ((p3 &&& (63 : Int32)) - (1 : Int32))), (.ref x106)])) _
          refine X105.iaload hx (j := ((p3 &&& (63 : Int32)) - (1 : Int32))) (v := (.int (0 : Int32))) R113.1 (State.isArrayOf_alike hZ.alike R113.2.1) R113.2.2 hin123 (get_new (by have q := hin123; rw [sz_new] at q; exact q)) (g := (mkF m 240 #[.val (.int p1), .val (.int p2), .val (.int p3), .val (.int (p1 &&& (63 : Int32))), .val (.int (p2 &&& (63 : Int32))), .val (.int (p3 &&& (63 : Int32))), .val (.ref b1), .val (.ref x13), .val (.ref x13), .val (.ref x13), .val (.ref x106)] [(.int ((p3 &&& (63 : Int32)) - (1 : Int32))), (.ref x106)])) rfl rfl (hb hby at_240) _ ?_
          show Steps p.tables e below (T105.setTop (mkF m 241 #[.val (.int p1), .val (.int p2), .val (.int p3), .val (.int (p1 &&& (63 : Int32))), .val (.int (p2 &&& (63 : Int32))), .val (.int (p3 &&& (63 : Int32))), .val (.ref b1), .val (.ref x13), .val (.ref x13), .val (.ref x13), .val (.ref x106)] [(.int (0 : Int32))])) _
          refine XS.ifNo X105.here hx rfl (hb hby at_241) rfl ((if0 _ _).trans (teq (by decide : (0 : Int32) = (0 : Int32))).2) ?_
          show Steps p.tables e below (T105.setTop (mkF m 244 #[.val (.int p1), .val (.int p2), .val (.int p3), .val (.int (p1 &&& (63 : Int32))), .val (.int (p2 &&& (63 : Int32))), .val (.int (p3 &&& (63 : Int32))), .val (.ref b1), .val (.ref x13), .val (.ref x13), .val (.ref x13), .val (.ref x106)] [])) _
          refine XS.iconst X105.here hx rfl (hb hby at_244) ?_
          show Steps p.tables e below (T105.setTop (mkF m 245 #[.val (.int p1), .val (.int p2), .val (.int p3), .val (.int (p1 &&& (63 : Int32))), .val (.int (p2 &&& (63 : Int32))), .val (.int (p3 &&& (63 : Int32))), .val (.ref b1), .val (.ref x13), .val (.ref x13), .val (.ref x13), .val (.ref x106)] [(.int (1 : Int32))])) _
          refine XS.goto X105.here hx rfl (pc0 := 245) (pc' := 249) rfl (hb hby at_245) (by decide) (by decide) ?_
          show Steps p.tables e below (T105.setTop (mkF m 249 #[.val (.int p1), .val (.int p2), .val (.int p3), .val (.int (p1 &&& (63 : Int32))), .val (.int (p2 &&& (63 : Int32))), .val (.int (p3 &&& (63 : Int32))), .val (.ref b1), .val (.ref x13), .val (.ref x13), .val (.ref x13), .val (.ref x106)] [(.int (1 : Int32))])) _
          exact k)
        obtain ⟨fs, hr, hrun, hended, hW, hsame⟩ := X105.leave (v := some (.int (1 : Int32))) (fun h => by rw [Bd.returns] at h; cases h)
        refine ⟨_, _, pre124 _ ?_, hrun, hended, _, _, rfl, ?_, ⟨_, rfl⟩, hW, hsame.mono (by decide) (by decide)⟩
        · exact retN X105 hx (t := .boolean) Bd.returns (by simp) (hb hby at_249) hr
        · show Q_law Z p1 p2 p3 wE h0 n0 _ T105.heap _
          exact ⟨rfl, N105, K105⟩
      · obtain ⟨cq125, kq125, q125a, q125b, q125c⟩ := isOf hZ hq102 E37
        obtain ⟨_, _, ⟨T125, L125, k125, n125⟩, -, X125, ⟨Lc125, hQ125, l125, y125, z125⟩, st125⟩ := X101.virtualBack hx (y := (⟨"com/example/granulock/granulock/ResourceTree$Ledger", "modes", "(I)[I"⟩ : MethodName)) (z := (⟨"com/example/granulock/granulock/ResourceTree$Ledger", "modes", "(I)[I"⟩ : MethodName)) hown (mvT hZ (hw _ (List.mem_of_getElem? (i := 27) rfl))) (mvT hZ (hw _ (List.mem_of_getElem? (i := 28) rfl))) (notFace_of_selects (args := #[]) (mvT hZ (hw _ (List.mem_of_getElem? (i := 30) rfl)))) (mvT hZ (hw _ (List.mem_of_getElem? (i := 30) rfl))) (mvT hZ (hw _ (List.mem_of_getElem? (i := 29) rfl))) (by decide) (backOf (W := 0) (rm_mK l Z a0 hw [] b1 (p3 &&& (63 : Int32)) x13 (((newA x14 .int (p1 &&& (63 : Int32))).setSlot ((0 : Int32)).toNatClampNeg (.int (7 : Int32))).setSlot (((p1 &&& (63 : Int32)) - (1 : Int32))).toNatClampNeg (.int (7 : Int32))) (p1 &&& (63 : Int32)) h35 n0 Zs39 E37 F38 ge_b1 (own_63 p3).1 (own_63 p3).2 V35 (by simp only [sz_set, sz_new]) (own_63 p1).1 ne24 hs104) hZ (hw _ (List.mem_of_getElem? (i := 31) rfl)) (hw _ (List.mem_of_getElem? (i := 2) rfl)) (by decide) (by decide)) q125a q125c (g := (mkF m 179 #[.val (.int p1), .val (.int p2), .val (.int p3), .val (.int (p1 &&& (63 : Int32))), .val (.int (p2 &&& (63 : Int32))), .val (.int (p3 &&& (63 : Int32))), .val (.ref b1), .val (.ref x13), .val (.ref x13), .val (.ref x13), .unset] [(.int (p3 &&& (63 : Int32))), (.ref b1)])) rfl (by rw [hml]; rfl) (Steps.refl _) (argsL := [(.int (p3 &&& (63 : Int32)))]) (rest := []) (lenOf pd_2 rfl) rfl (by show 2 * 0 + _ ≤ _; exact Nat.le_of_eq rfl) (hb hby at_179) (fun _ _ => ⟨rfl, hq102, (by decide : 2 + 0 ≤ _), (by decide : 68 + 0 ≤ _)⟩)
        dsimp only [Pt.U, Pt.locs, Pt.cells, Pt.slots] at X125 l125 y125 z125 st125 hQ125
        subst l125 y125 z125
        obtain ⟨rfl, N125q, hq126⟩ := hQ125
        have N125 := Fr.app N101 N125q
        have pre127 := fun (t : State) (k : Steps p.tables e below (T125.setTop (mkF m 211 #[.val (.int p1), .val (.int p2), .val (.int p3), .val (.int (p1 &&& (63 : Int32))), .val (.int (p2 &&& (63 : Int32))), .val (.int (p3 &&& (63 : Int32))), .val (.ref b1), .val (.ref x13), .val (.ref x13), .val (.ref x13), .val (.ref x13)] [(.int (1 : Int32))])) t) => pre103 t (by
          refine XS.aload X101.here hx rfl (hb hby at_175) rfl rfl ?_
          show Steps p.tables e below (T101.setTop (mkF m 177 #[.val (.int p1), .val (.int p2), .val (.int p3), .val (.int (p1 &&& (63 : Int32))), .val (.int (p2 &&& (63 : Int32))), .val (.int (p3 &&& (63 : Int32))), .val (.ref b1), .val (.ref x13), .val (.ref x13), .val (.ref x13), .unset] [(.ref b1)])) _
          refine XS.iload X101.here hx rfl (hb hby at_177) rfl ?_
          show Steps p.tables e below (T101.setTop (mkF m 179 #[.val (.int p1), .val (.int p2), .val (.int p3), .val (.int (p1 &&& (63 : Int32))), .val (.int (p2 &&& (63 : Int32))), .val (.int (p3 &&& (63 : Int32))), .val (.ref b1), .val (.ref x13), .val (.ref x13), .val (.ref x13), .unset] [(.int (p3 &&& (63 : Int32))), (.ref b1)])) _
          refine st125.trans ?_
          show Steps p.tables e below (T125.setTop (mkF m 182 #[.val (.int p1), .val (.int p2), .val (.int p3), .val (.int (p1 &&& (63 : Int32))), .val (.int (p2 &&& (63 : Int32))), .val (.int (p3 &&& (63 : Int32))), .val (.ref b1), .val (.ref x13), .val (.ref x13), .val (.ref x13), .unset] [(.ref x13)])) _
          refine XS.astore X125.here hx rfl (hb hby at_182) rfl rfl (l' := #[.val (.int p1), .val (.int p2), .val (.int p3), .val (.int (p1 &&& (63 : Int32))), .val (.int (p2 &&& (63 : Int32))), .val (.int (p3 &&& (63 : Int32))), .val (.ref b1), .val (.ref x13), .val (.ref x13), .val (.ref x13), .val (.ref x13)]) rfl ?_
          show Steps p.tables e below (T125.setTop (mkF m 184 #[.val (.int p1), .val (.int p2), .val (.int p3), .val (.int (p1 &&& (63 : Int32))), .val (.int (p2 &&& (63 : Int32))), .val (.int (p3 &&& (63 : Int32))), .val (.ref b1), .val (.ref x13), .val (.ref x13), .val (.ref x13), .val (.ref x13)] [])) _
          refine XS.aload X125.here hx rfl (hb hby at_184) rfl rfl ?_
          show Steps p.tables e below (T125.setTop (mkF m 186 #[.val (.int p1), .val (.int p2), .val (.int p3), .val (.int (p1 &&& (63 : Int32))), .val (.int (p2 &&& (63 : Int32))), .val (.int (p3 &&& (63 : Int32))), .val (.ref b1), .val (.ref x13), .val (.ref x13), .val (.ref x13), .val (.ref x13)] [(.ref x13)])) _
          refine XS.ifnonnullYes X125.here hx rfl (pc0 := 186) (pc' := 191) rfl (hb hby at_186) rfl (by decide) (by decide) ?_
          show Steps p.tables e below (T125.setTop (mkF m 191 #[.val (.int p1), .val (.int p2), .val (.int p3), .val (.int (p1 &&& (63 : Int32))), .val (.int (p2 &&& (63 : Int32))), .val (.int (p3 &&& (63 : Int32))), .val (.ref b1), .val (.ref x13), .val (.ref x13), .val (.ref x13), .val (.ref x13)] [])) _
          refine XS.iload X125.here hx rfl (hb hby at_191) rfl ?_
          show Steps p.tables e below (T125.setTop (mkF m 193 #[.val (.int p1), .val (.int p2), .val (.int p3), .val (.int (p1 &&& (63 : Int32))), .val (.int (p2 &&& (63 : Int32))), .val (.int (p3 &&& (63 : Int32))), .val (.ref b1), .val (.ref x13), .val (.ref x13), .val (.ref x13), .val (.ref x13)] [(.int (p3 &&& (63 : Int32)))])) _
          refine XS.aload X125.here hx rfl (hb hby at_193) rfl rfl ?_
          show Steps p.tables e below (T125.setTop (mkF m 195 #[.val (.int p1), .val (.int p2), .val (.int p3), .val (.int (p1 &&& (63 : Int32))), .val (.int (p2 &&& (63 : Int32))), .val (.int (p3 &&& (63 : Int32))), .val (.ref b1), .val (.ref x13), .val (.ref x13), .val (.ref x13), .val (.ref x13)] [(.ref x13), (.int (p3 &&& (63 : Int32)))])) _
          refine X125.arraylength hx (by rw [hq126]; exact V35.1) (State.isArrayOf_alike hZ.alike V35.2.1) (g := (mkF m 195 #[.val (.int p1), .val (.int p2), .val (.int p3), .val (.int (p1 &&& (63 : Int32))), .val (.int (p2 &&& (63 : Int32))), .val (.int (p3 &&& (63 : Int32))), .val (.ref b1), .val (.ref x13), .val (.ref x13), .val (.ref x13), .val (.ref x13)] [(.ref x13), (.int (p3 &&& (63 : Int32)))])) rfl rfl (hb hby at_195) _ ?_
          rw [show (((newA x14 .int (p1 &&& (63 : Int32))).setSlot ((0 : Int32)).toNatClampNeg (.int (7 : Int32))).setSlot (((p1 &&& (63 : Int32)) - (1 : Int32))).toNatClampNeg (.int (7 : Int32))).slots.size.toInt32 = (p1 &&& (63 : Int32)) from (len_of (show (((newA x14 .int (p1 &&& (63 : Int32))).setSlot ((0 : Int32)).toNatClampNeg (.int (7 : Int32))).setSlot (((p1 &&& (63 : Int32)) - (1 : Int32))).toNatClampNeg (.int (7 : Int32))).slots.size = (p1 &&& (63 : Int32)).toNatClampNeg from (by simp only [sz_set, sz_new])) (own_63 p1).1)]
          show Steps p.tables e below (T125.setTop (mkF m 196 #[.val (.int p1), .val (.int p2), .val (.int p3), .val (.int (p1 &&& (63 : Int32))), .val (.int (p2 &&& (63 : Int32))), .val (.int (p3 &&& (63 : Int32))), .val (.ref b1), .val (.ref x13), .val (.ref x13), .val (.ref x13), .val (.ref x13)] [(.int (p1 &&& (63 : Int32))), (.int (p3 &&& (63 : Int32)))])) _
          refine XS.icmpNo X125.here hx rfl (hb hby at_196) rfl (flt hs104).2.2.1 ?_
          show Steps p.tables e below (T125.setTop (mkF m 199 #[.val (.int p1), .val (.int p2), .val (.int p3), .val (.int (p1 &&& (63 : Int32))), .val (.int (p2 &&& (63 : Int32))), .val (.int (p3 &&& (63 : Int32))), .val (.ref b1), .val (.ref x13), .val (.ref x13), .val (.ref x13), .val (.ref x13)] [])) _
          refine XS.aload X125.here hx rfl (hb hby at_199) rfl rfl ?_
          show Steps p.tables e below (T125.setTop (mkF m 201 #[.val (.int p1), .val (.int p2), .val (.int p3), .val (.int (p1 &&& (63 : Int32))), .val (.int (p2 &&& (63 : Int32))), .val (.int (p3 &&& (63 : Int32))), .val (.ref b1), .val (.ref x13), .val (.ref x13), .val (.ref x13), .val (.ref x13)] [(.ref x13)])) _
          refine XS.aload X125.here hx rfl (hb hby at_201) rfl rfl ?_
          show Steps p.tables e below (T125.setTop (mkF m 203 #[.val (.int p1), .val (.int p2), .val (.int p3), .val (.int (p1 &&& (63 : Int32))), .val (.int (p2 &&& (63 : Int32))), .val (.int (p3 &&& (63 : Int32))), .val (.ref b1), .val (.ref x13), .val (.ref x13), .val (.ref x13), .val (.ref x13)] [(.ref x13), (.ref x13)])) _
          refine Jvm.RoadKit.acmp (g := (mkF m 203 #[.val (.int p1), .val (.int p2), .val (.int p3), .val (.int (p1 &&& (63 : Int32))), .val (.int (p2 &&& (63 : Int32))), .val (.int (p3 &&& (63 : Int32))), .val (.ref b1), .val (.ref x13), .val (.ref x13), .val (.ref x13), .val (.ref x13)] [(.ref x13), (.ref x13)])) X125 hx rfl rfl rfl (pc0 := 203) (pc' := 206) (same := true) rfl (hb hby at_203) rfl (decide_eq_true rfl) (by decide) (by decide) ?_
          show Steps p.tables e below (T125.setTop (mkF m 206 #[.val (.int p1), .val (.int p2), .val (.int p3), .val (.int (p1 &&& (63 : Int32))), .val (.int (p2 &&& (63 : Int32))), .val (.int (p3 &&& (63 : Int32))), .val (.ref b1), .val (.ref x13), .val (.ref x13), .val (.ref x13), .val (.ref x13)] [])) _
          refine XS.iconst X125.here hx rfl (hb hby at_206) ?_
          show Steps p.tables e below (T125.setTop (mkF m 207 #[.val (.int p1), .val (.int p2), .val (.int p3), .val (.int (p1 &&& (63 : Int32))), .val (.int (p2 &&& (63 : Int32))), .val (.int (p3 &&& (63 : Int32))), .val (.ref b1), .val (.ref x13), .val (.ref x13), .val (.ref x13), .val (.ref x13)] [(.int (1 : Int32))])) _
          refine XS.goto X125.here hx rfl (pc0 := 207) (pc' := 211) rfl (hb hby at_207) (by decide) (by decide) ?_
          show Steps p.tables e below (T125.setTop (mkF m 211 #[.val (.int p1), .val (.int p2), .val (.int p3), .val (.int (p1 &&& (63 : Int32))), .val (.int (p2 &&& (63 : Int32))), .val (.int (p3 &&& (63 : Int32))), .val (.ref b1), .val (.ref x13), .val (.ref x13), .val (.ref x13), .val (.ref x13)] [(.int (1 : Int32))])) _
          exact k)
        obtain ⟨fs, hr, hrun, hended, hW, hsame⟩ := X125.leave (v := some (.int (1 : Int32))) (fun h => by rw [Bd.returns] at h; cases h)
        refine ⟨_, _, pre127 _ ?_, hrun, hended, _, _, rfl, ?_, ⟨_, rfl⟩, hW, hsame.mono (by decide) (by decide)⟩
        · exact retN X125 hx (t := .boolean) Bd.returns (by simp) (hb hby at_211) hr
        · show Q_law Z p1 p2 p3 wE h0 n0 _ T125.heap _
          rw [hq126]
          exact ⟨rfl, N125, K35⟩
  · have pre128 := fun (t : State) (k : Steps p.tables e below (T12.setTop (mkF m 84 #[.val (.int p1), .val (.int p2), .val (.int p3), .val (.int (p1 &&& (63 : Int32))), .val (.int (p2 &&& (63 : Int32))), .val (.int (p3 &&& (63 : Int32))), .val (.ref b1), .val (.ref x13), .unset, .unset, .unset] [])) t) => pre26 t (by
      refine XS.ifYes X12.here hx rfl (pc0 := 49) (pc' := 84) rfl (hb hby at_49) rfl ((if0 _ _).trans (flt hc27).2.2.2) (by decide) (by decide) ?_
      show Steps p.tables e below (T12.setTop (mkF m 84 #[.val (.int p1), .val (.int p2), .val (.int p3), .val (.int (p1 &&& (63 : Int32))), .val (.int (p2 &&& (63 : Int32))), .val (.int (p3 &&& (63 : Int32))), .val (.ref b1), .val (.ref x13), .unset, .unset, .unset] [])) _
      exact k)
    by_cases hs129 : (p1 &&& (63 : Int32)) < (p2 &&& (63 : Int32))
    · obtain ⟨cq130, kq130, q130a, q130b, q130c⟩ := isOf hZ rfl E18
      obtain ⟨_, _, ⟨T130, L130, k130, n130⟩, -, X130, ⟨Lc130, hQ130, l130, y130, z130⟩, st130⟩ := X12.virtualBack hx (y := (⟨"com/example/granulock/granulock/ResourceTree$Ledger", "modes", "(I)[I"⟩ : MethodName)) (z := (⟨"com/example/granulock/granulock/ResourceTree$Ledger", "modes", "(I)[I"⟩ : MethodName)) hown (mvT hZ (hw _ (List.mem_of_getElem? (i := 27) rfl))) (mvT hZ (hw _ (List.mem_of_getElem? (i := 28) rfl))) (notFace_of_selects (args := #[]) (mvT hZ (hw _ (List.mem_of_getElem? (i := 30) rfl)))) (mvT hZ (hw _ (List.mem_of_getElem? (i := 30) rfl))) (mvT hZ (hw _ (List.mem_of_getElem? (i := 29) rfl))) (by decide) (backOf (W := 0) (rm_mG l Z a0 hw [] b1 (p2 &&& (63 : Int32)) x13 (newA x14 .int (p1 &&& (63 : Int32))) (p1 &&& (63 : Int32)) T12.heap n0 Zs23 E18 F19 ge_b1 (own_63 p2).1 (own_63 p2).2 R20 (by simp only [sz_set, sz_new]) (own_63 p1).1 ne24 hs129) hZ (hw _ (List.mem_of_getElem? (i := 31) rfl)) (hw _ (List.mem_of_getElem? (i := 2) rfl)) (by decide) (by decide)) q130a q130c (g := (mkF m 88 #[.val (.int p1), .val (.int p2), .val (.int p3), .val (.int (p1 &&& (63 : Int32))), .val (.int (p2 &&& (63 : Int32))), .val (.int (p3 &&& (63 : Int32))), .val (.ref b1), .val (.ref x13), .unset, .unset, .unset] [(.int (p2 &&& (63 : Int32))), (.ref b1)])) rfl (by rw [hml]; rfl) (Steps.refl _) (argsL := [(.int (p2 &&& (63 : Int32)))]) (rest := []) (lenOf pd_2 rfl) rfl (by show 2 * 0 + _ ≤ _; exact Nat.le_of_eq rfl) (hb hby at_88) (fun _ _ => ⟨rfl, rfl, (by decide : 2 + 1 ≤ _), (by decide : 68 + 63 ≤ _)⟩)
      dsimp only [Pt.U, Pt.locs, Pt.cells, Pt.slots] at X130 l130 y130 z130 st130 hQ130
      subst l130 y130 z130
      obtain ⟨x131, x132, rfl, N130q, hq133, p134, p135, E136, F137, R138⟩ := hQ130
      have N130 := Fr.app N12 N130q
      have lt139 : b1 < T12.heap.size := E18.lt
      have lt140 : x13 < T12.heap.size := R20.lt
      have S141 : Sta Z T130.heap "java/util/ImmutableCollections" "EMPTY_LIST" "Ljava/util/ImmutableCollections$ListN;" (.ref wE) := own_sta_keep S22 hq133 (allS (own_ns_exa E18) all0)
      have R142 : Arr Z T130.heap x13 (newA x14 .int (p1 &&& (63 : Int32))) .int := own_arr_keep R20 hq133 (ninS (Ne.symm ne24) nin0)
      have K130 : Keep h0 T130.heap [] := K12.trans hq133 (allS (Or.inr sz_b1) all0)
      have Zs143 : n0 ≤ T130.heap.size := (Nat.le_trans Zs23 hq133.1)
      have ne144 : b1 ≠ x131 := Nat.ne_of_lt (Nat.lt_of_lt_of_le lt139 p135)
      have ne145 : x13 ≠ x131 := Nat.ne_of_lt (Nat.lt_of_lt_of_le lt140 p135)
      have sz146 : h0.size ≤ x131 := Nat.le_trans K12.1 p135
      have hin147 : ¬ ((0 : Int32) < 0 ∨ (newA x132 .int (p2 &&& (63 : Int32))).slots.size ≤ ((0 : Int32)).toNatClampNeg) := (inb_of (show (newA x132 .int (p2 &&& (63 : Int32))).slots.size = (p2 &&& (63 : Int32)).toNatClampNeg from (by simp only [sz_set, sz_new])) ⟨by decide, (own_pos (own_63 p1).1 hs129)⟩)
      have hin148 : ¬ (((p2 &&& (63 : Int32)) - (1 : Int32)) < 0 ∨ (newA x132 .int (p2 &&& (63 : Int32))).slots.size ≤ (((p2 &&& (63 : Int32)) - (1 : Int32))).toNatClampNeg) := (inb_of (show (newA x132 .int (p2 &&& (63 : Int32))).slots.size = (p2 &&& (63 : Int32)).toNatClampNeg from (by simp only [sz_set, sz_new])) (own_pred (own_pos (own_63 p1).1 hs129)))
      have hin149 : ¬ ((0 : Int32) < 0 ∨ (newA x132 .int (p2 &&& (63 : Int32))).slots.size ≤ ((0 : Int32)).toNatClampNeg) := (inb_of (show (newA x132 .int (p2 &&& (63 : Int32))).slots.size = (p2 &&& (63 : Int32)).toNatClampNeg from (by simp only [sz_set, sz_new])) ⟨by decide, (own_pos (own_63 p1).1 hs129)⟩)
      obtain ⟨T149, h149, X149, e149, W149, st149⟩ := stI X130 hx hZ rfl R138 (j := (0 : Int32)) hin149 (g := (mkF m 161 #[.val (.int p1), .val (.int p2), .val (.int p3), .val (.int (p1 &&& (63 : Int32))), .val (.int (p2 &&& (63 : Int32))), .val (.int (p3 &&& (63 : Int32))), .val (.ref b1), .val (.ref x13), .val (.ref x131), .unset, .unset] [(.int (9 : Int32)), (.int (0 : Int32)), (.ref x131)])) rfl rfl (hb hby at_161)
      have V149 : Arr Z h149 x131 ((newA x132 .int (p2 &&& (63 : Int32))).setSlot ((0 : Int32)).toNatClampNeg (.int (9 : Int32))) .int := R138.same W149
      have S150 : Sta Z h149 "java/util/ImmutableCollections" "EMPTY_LIST" "Ljava/util/ImmutableCollections$ListN;" (.ref wE) := S141.wr W149
      have R151 : Arr Z h149 x13 (newA x14 .int (p1 &&& (63 : Int32))) .int := R142.other W149 ne145
      have E152 : Exa Z h149 b1 "com/example/granulock/granulock/ResourceTree$Ledger" := E136.wr W149
      have F153 : Fld Z h149 b1 "com/example/granulock/granulock/ResourceTree$Ledger" "modes" "[I" (.ref x131) := F137.other W149 (Or.inl ne144)
      have N149 := Fr.snoc X149 N130 p134
      have K149 : Keep h0 h149 [] := K130.wr W149 (Or.inr sz146)
      have Zs154 : n0 ≤ h149.size := (Nat.le_trans Zs143 (Keep.of_wr W149).1)
      have hin155 : ¬ (((p2 &&& (63 : Int32)) - (1 : Int32)) < 0 ∨ ((newA x132 .int (p2 &&& (63 : Int32))).setSlot ((0 : Int32)).toNatClampNeg (.int (9 : Int32))).slots.size ≤ (((p2 &&& (63 : Int32)) - (1 : Int32))).toNatClampNeg) := (inb_of (show ((newA x132 .int (p2 &&& (63 : Int32))).setSlot ((0 : Int32)).toNatClampNeg (.int (9 : Int32))).slots.size = (p2 &&& (63 : Int32)).toNatClampNeg from (by simp only [sz_set, sz_new])) (own_pred (own_pos (own_63 p1).1 hs129)))
      obtain ⟨T155, h155, X155, e155, W155, st155⟩ := stI X149 hx hZ e149 V149 (j := ((p2 &&& (63 : Int32)) - (1 : Int32))) hin155 (g := (mkF m 170 #[.val (.int p1), .val (.int p2), .val (.int p3), .val (.int (p1 &&& (63 : Int32))), .val (.int (p2 &&& (63 : Int32))), .val (.int (p3 &&& (63 : Int32))), .val (.ref b1), .val (.ref x13), .val (.ref x131), .unset, .unset] [(.int (9 : Int32)), (.int ((p2 &&& (63 : Int32)) - (1 : Int32))), (.ref x131)])) rfl rfl (hb hby at_170)
      have V155 : Arr Z h155 x131 (((newA x132 .int (p2 &&& (63 : Int32))).setSlot ((0 : Int32)).toNatClampNeg (.int (9 : Int32))).setSlot (((p2 &&& (63 : Int32)) - (1 : Int32))).toNatClampNeg (.int (9 : Int32))) .int := V149.same W155
      have S156 : Sta Z h155 "java/util/ImmutableCollections" "EMPTY_LIST" "Ljava/util/ImmutableCollections$ListN;" (.ref wE) := S150.wr W155
      have R157 : Arr Z h155 x13 (newA x14 .int (p1 &&& (63 : Int32))) .int := R151.other W155 ne145
      have E158 : Exa Z h155 b1 "com/example/granulock/granulock/ResourceTree$Ledger" := E152.wr W155
      have F159 : Fld Z h155 b1 "com/example/granulock/granulock/ResourceTree$Ledger" "modes" "[I" (.ref x131) := F153.other W155 (Or.inl ne144)
      have N155 := Fr.snoc X155 N149 p134
      have K155 : Keep h0 h155 [] := K149.wr W155 (Or.inr sz146)
      have Zs160 : n0 ≤ h155.size := (Nat.le_trans Zs154 (Keep.of_wr W155).1)
      have pre161 := fun (t : State) (k : Steps p.tables e below (T155.setTop (mkF m 175 #[.val (.int p1), .val (.int p2), .val (.int p3), .val (.int (p1 &&& (63 : Int32))), .val (.int (p2 &&& (63 : Int32))), .val (.int (p3 &&& (63 : Int32))), .val (.ref b1), .val (.ref x13), .val (.ref x131), .val (.ref x131), .unset] [])) t) => pre128 t (by
        refine XS.aload X12.here hx rfl (hb hby at_84) rfl rfl ?_
        show Steps p.tables e below (T12.setTop (mkF m 86 #[.val (.int p1), .val (.int p2), .val (.int p3), .val (.int (p1 &&& (63 : Int32))), .val (.int (p2 &&& (63 : Int32))), .val (.int (p3 &&& (63 : Int32))), .val (.ref b1), .val (.ref x13), .unset, .unset, .unset] [(.ref b1)])) _
        refine XS.iload X12.here hx rfl (hb hby at_86) rfl ?_
        show Steps p.tables e below (T12.setTop (mkF m 88 #[.val (.int p1), .val (.int p2), .val (.int p3), .val (.int (p1 &&& (63 : Int32))), .val (.int (p2 &&& (63 : Int32))), .val (.int (p3 &&& (63 : Int32))), .val (.ref b1), .val (.ref x13), .unset, .unset, .unset] [(.int (p2 &&& (63 : Int32))), (.ref b1)])) _
        refine st130.trans ?_
        show Steps p.tables e below (T130.setTop (mkF m 91 #[.val (.int p1), .val (.int p2), .val (.int p3), .val (.int (p1 &&& (63 : Int32))), .val (.int (p2 &&& (63 : Int32))), .val (.int (p3 &&& (63 : Int32))), .val (.ref b1), .val (.ref x13), .unset, .unset, .unset] [(.ref x131)])) _
        refine XS.astore X130.here hx rfl (hb hby at_91) rfl rfl (l' := #[.val (.int p1), .val (.int p2), .val (.int p3), .val (.int (p1 &&& (63 : Int32))), .val (.int (p2 &&& (63 : Int32))), .val (.int (p3 &&& (63 : Int32))), .val (.ref b1), .val (.ref x13), .val (.ref x131), .unset, .unset]) rfl ?_
        show Steps p.tables e below (T130.setTop (mkF m 93 #[.val (.int p1), .val (.int p2), .val (.int p3), .val (.int (p1 &&& (63 : Int32))), .val (.int (p2 &&& (63 : Int32))), .val (.int (p3 &&& (63 : Int32))), .val (.ref b1), .val (.ref x13), .val (.ref x131), .unset, .unset] [])) _
        refine XS.aload X130.here hx rfl (hb hby at_93) rfl rfl ?_
        show Steps p.tables e below (T130.setTop (mkF m 95 #[.val (.int p1), .val (.int p2), .val (.int p3), .val (.int (p1 &&& (63 : Int32))), .val (.int (p2 &&& (63 : Int32))), .val (.int (p3 &&& (63 : Int32))), .val (.ref b1), .val (.ref x13), .val (.ref x131), .unset, .unset] [(.ref x131)])) _
        refine XS.ifnonnullYes X130.here hx rfl (pc0 := 95) (pc' := 100) rfl (hb hby at_95) rfl (by decide) (by decide) ?_
        show Steps p.tables e below (T130.setTop (mkF m 100 #[.val (.int p1), .val (.int p2), .val (.int p3), .val (.int (p1 &&& (63 : Int32))), .val (.int (p2 &&& (63 : Int32))), .val (.int (p3 &&& (63 : Int32))), .val (.ref b1), .val (.ref x13), .val (.ref x131), .unset, .unset] [])) _
        refine XS.iload X130.here hx rfl (hb hby at_100) rfl ?_
        show Steps p.tables e below (T130.setTop (mkF m 102 #[.val (.int p1), .val (.int p2), .val (.int p3), .val (.int (p1 &&& (63 : Int32))), .val (.int (p2 &&& (63 : Int32))), .val (.int (p3 &&& (63 : Int32))), .val (.ref b1), .val (.ref x13), .val (.ref x131), .unset, .unset] [(.int (p2 &&& (63 : Int32)))])) _
        refine XS.iloadN X130.here hx rfl (hb hby at_102) rfl ?_
        show Steps p.tables e below (T130.setTop (mkF m 103 #[.val (.int p1), .val (.int p2), .val (.int p3), .val (.int (p1 &&& (63 : Int32))), .val (.int (p2 &&& (63 : Int32))), .val (.int (p3 &&& (63 : Int32))), .val (.ref b1), .val (.ref x13), .val (.ref x131), .unset, .unset] [(.int (p1 &&& (63 : Int32))), (.int (p2 &&& (63 : Int32)))])) _
        refine XS.icmpYes X130.here hx rfl (pc0 := 103) (pc' := 122) rfl (hb hby at_103) rfl (tlt hs129).2.2.1 (by decide) (by decide) ?_
        show Steps p.tables e below (T130.setTop (mkF m 122 #[.val (.int p1), .val (.int p2), .val (.int p3), .val (.int (p1 &&& (63 : Int32))), .val (.int (p2 &&& (63 : Int32))), .val (.int (p3 &&& (63 : Int32))), .val (.ref b1), .val (.ref x13), .val (.ref x131), .unset, .unset] [])) _
        refine XS.aload X130.here hx rfl (hb hby at_122) rfl rfl ?_
        show Steps p.tables e below (T130.setTop (mkF m 124 #[.val (.int p1), .val (.int p2), .val (.int p3), .val (.int (p1 &&& (63 : Int32))), .val (.int (p2 &&& (63 : Int32))), .val (.int (p3 &&& (63 : Int32))), .val (.ref b1), .val (.ref x13), .val (.ref x131), .unset, .unset] [(.ref x131)])) _
        refine XS.aload X130.here hx rfl (hb hby at_124) rfl rfl ?_
        show Steps p.tables e below (T130.setTop (mkF m 126 #[.val (.int p1), .val (.int p2), .val (.int p3), .val (.int (p1 &&& (63 : Int32))), .val (.int (p2 &&& (63 : Int32))), .val (.int (p3 &&& (63 : Int32))), .val (.ref b1), .val (.ref x13), .val (.ref x131), .unset, .unset] [(.ref x13), (.ref x131)])) _
        refine Jvm.RoadKit.acmp (g := (mkF m 126 #[.val (.int p1), .val (.int p2), .val (.int p3), .val (.int (p1 &&& (63 : Int32))), .val (.int (p2 &&& (63 : Int32))), .val (.int (p3 &&& (63 : Int32))), .val (.ref b1), .val (.ref x13), .val (.ref x131), .unset, .unset] [(.ref x13), (.ref x131)])) X130 hx rfl rfl rfl (pc0 := 126) (pc' := 129) (same := false) rfl (hb hby at_126) rfl (decide_eq_false fun q => (Ne.symm ne145) (Value.ref.inj q)) (by decide) (by decide) ?_
        show Steps p.tables e below (T130.setTop (mkF m 129 #[.val (.int p1), .val (.int p2), .val (.int p3), .val (.int (p1 &&& (63 : Int32))), .val (.int (p2 &&& (63 : Int32))), .val (.int (p3 &&& (63 : Int32))), .val (.ref b1), .val (.ref x13), .val (.ref x131), .unset, .unset] [])) _
        refine XS.aload X130.here hx rfl (hb hby at_129) rfl rfl ?_
        show Steps p.tables e below (T130.setTop (mkF m 131 #[.val (.int p1), .val (.int p2), .val (.int p3), .val (.int (p1 &&& (63 : Int32))), .val (.int (p2 &&& (63 : Int32))), .val (.int (p3 &&& (63 : Int32))), .val (.ref b1), .val (.ref x13), .val (.ref x131), .unset, .unset] [(.ref x131)])) _
        refine X130.arraylength hx R138.1 (State.isArrayOf_alike hZ.alike R138.2.1) (g := (mkF m 131 #[.val (.int p1), .val (.int p2), .val (.int p3), .val (.int (p1 &&& (63 : Int32))), .val (.int (p2 &&& (63 : Int32))), .val (.int (p3 &&& (63 : Int32))), .val (.ref b1), .val (.ref x13), .val (.ref x131), .unset, .unset] [(.ref x131)])) rfl rfl (hb hby at_131) _ ?_
        rw [show (newA x132 .int (p2 &&& (63 : Int32))).slots.size.toInt32 = (p2 &&& (63 : Int32)) from (len_of (show (newA x132 .int (p2 &&& (63 : Int32))).slots.size = (p2 &&& (63 : Int32)).toNatClampNeg from (by simp only [sz_set, sz_new])) (own_63 p2).1)]
        show Steps p.tables e below (T130.setTop (mkF m 132 #[.val (.int p1), .val (.int p2), .val (.int p3), .val (.int (p1 &&& (63 : Int32))), .val (.int (p2 &&& (63 : Int32))), .val (.int (p3 &&& (63 : Int32))), .val (.ref b1), .val (.ref x13), .val (.ref x131), .unset, .unset] [(.int (p2 &&& (63 : Int32)))])) _
        refine XS.iload X130.here hx rfl (hb hby at_132) rfl ?_
        show Steps p.tables e below (T130.setTop (mkF m 134 #[.val (.int p1), .val (.int p2), .val (.int p3), .val (.int (p1 &&& (63 : Int32))), .val (.int (p2 &&& (63 : Int32))), .val (.int (p3 &&& (63 : Int32))), .val (.ref b1), .val (.ref x13), .val (.ref x131), .unset, .unset] [(.int (p2 &&& (63 : Int32))), (.int (p2 &&& (63 : Int32)))])) _
        refine XS.icmpNo X130.here hx rfl (hb hby at_134) rfl (teq (rfl : (p2 &&& (63 : Int32)) = (p2 &&& (63 : Int32)))).2 ?_
        show Steps p.tables e below (T130.setTop (mkF m 137 #[.val (.int p1), .val (.int p2), .val (.int p3), .val (.int (p1 &&& (63 : Int32))), .val (.int (p2 &&& (63 : Int32))), .val (.int (p3 &&& (63 : Int32))), .val (.ref b1), .val (.ref x13), .val (.ref x131), .unset, .unset] [])) _
        refine XS.aload X130.here hx rfl (hb hby at_137) rfl rfl ?_
        show Steps p.tables e below (T130.setTop (mkF m 139 #[.val (.int p1), .val (.int p2), .val (.int p3), .val (.int (p1 &&& (63 : Int32))), .val (.int (p2 &&& (63 : Int32))), .val (.int (p3 &&& (63 : Int32))), .val (.ref b1), .val (.ref x13), .val (.ref x131), .unset, .unset] [(.ref x131)])) _
        refine XS.iconst X130.here hx rfl (hb hby at_139) ?_
        show Steps p.tables e below (T130.setTop (mkF m 140 #[.val (.int p1), .val (.int p2), .val (.int p3), .val (.int (p1 &&& (63 : Int32))), .val (.int (p2 &&& (63 : Int32))), .val (.int (p3 &&& (63 : Int32))), .val (.ref b1), .val (.ref x13), .val (.ref x131), .unset, .unset] [(.int (0 : Int32)), (.ref x131)])) _
        refine X130.iaload hx (j := (0 : Int32)) (v := (.int (0 : Int32))) R138.1 (State.isArrayOf_alike hZ.alike R138.2.1) R138.2.2 hin147 (get_new (by have q := hin147; rw [sz_new] at q; exact q)) (g := (mkF m 140 #[.val (.int p1), .val (.int p2), .val (.int p3), .val (.int (p1 &&& (63 : Int32))), .val (.int (p2 &&& (63 : Int32))), .val (.int (p3 &&& (63 : Int32))), .val (.ref b1), .val (.ref x13), .val (.ref x131), .unset, .unset] [(.int (0 : Int32)), (.ref x131)])) rfl rfl (hb hby at_140) _ ?_
        show Steps p.tables e below (T130.setTop (mkF m 141 #[.val (.int p1), .val (.int p2), .val (.int p3), .val (.int (p1 &&& (63 : Int32))), .val (.int (p2 &&& (63 : Int32))), .val (.int (p3 &&& (63 : Int32))), .val (.ref b1), .val (.ref x13), .val (.ref x131), .unset, .unset] [(.int (0 : Int32))])) _
        refine XS.ifNo X130.here hx rfl (hb hby at_141) rfl ((if0 _ _).trans (teq (by decide : (0 : Int32) = (0 : Int32))).2) ?_
        show Steps p.tables e below (T130.setTop (mkF m 144 #[.val (.int p1), .val (.int p2), .val (.int p3), .val (.int (p1 &&& (63 : Int32))), .val (.int (p2 &&& (63 : Int32))), .val (.int (p3 &&& (63 : Int32))), .val (.ref b1), .val (.ref x13), .val (.ref x131), .unset, .unset] [])) _
        refine XS.aload X130.here hx rfl (hb hby at_144) rfl rfl ?_
        show Steps p.tables e below (T130.setTop (mkF m 146 #[.val (.int p1), .val (.int p2), .val (.int p3), .val (.int (p1 &&& (63 : Int32))), .val (.int (p2 &&& (63 : Int32))), .val (.int (p3 &&& (63 : Int32))), .val (.ref b1), .val (.ref x13), .val (.ref x131), .unset, .unset] [(.ref x131)])) _
        refine XS.iload X130.here hx rfl (hb hby at_146) rfl ?_
        show Steps p.tables e below (T130.setTop (mkF m 148 #[.val (.int p1), .val (.int p2), .val (.int p3), .val (.int (p1 &&& (63 : Int32))), .val (.int (p2 &&& (63 : Int32))), .val (.int (p3 &&& (63 : Int32))), .val (.ref b1), .val (.ref x13), .val (.ref x131), .unset, .unset] [(.int (p2 &&& (63 : Int32))), (.ref x131)])) _
        refine XS.iconst X130.here hx rfl (hb hby at_148) ?_
        show Steps p.tables e below (T130.setTop (mkF m 149 #[.val (.int p1), .val (.int p2), .val (.int p3), .val (.int (p1 &&& (63 : Int32))), .val (.int (p2 &&& (63 : Int32))), .val (.int (p3 &&& (63 : Int32))), .val (.ref b1), .val (.ref x13), .val (.ref x131), .unset, .unset] [(.int (1 : Int32)), (.int (p2 &&& (63 : Int32))), (.ref x131)])) _
        refine XS.isub X130.here hx rfl (hb hby at_149) rfl ?_
        show Steps p.tables e below (T130.setTop (mkF m 150 #[.val (.int p1), .val (.int p2), .val (.int p3), .val (.int (p1 &&& (63 : Int32))), .val (.int (p2 &&& (63 : Int32))), .val (.int (p3 &&& (63 : Int32))), .val (.ref b1), .val (.ref x13), .val (.ref x131), .unset, .unset] [(.int ((p2 &&& (63 : Int32)) - (1 : Int32))), (.ref x131)])) _
        refine X130.iaload hx (j := ((p2 &&& (63 : Int32)) - (1 : Int32))) (v := (.int (0 : Int32))) R138.1 (State.isArrayOf_alike hZ.alike R138.2.1) R138.2.2 hin148 (get_new (by have q := hin148; rw [sz_new] at q; exact q)) (g := (mkF m 150 #[.val (.int p1), .val (.int p2), .val (.int p3), .val (.int (p1 &&& (63 : Int32))), .val (.int (p2 &&& (63 : Int32))), .val (.int (p3 &&& (63 : Int32))), .val (.ref b1), .val (.ref x13), .val (.ref x131), .unset, .unset] [(.int ((p2 &&& (63 : Int32)) - (1 : Int32))), (.ref x131)])) rfl rfl (hb hby at_150) _ ?_
        show Steps p.tables e below (T130.setTop (mkF m 151 #[.val (.int p1), .val (.int p2), .val (.int p3), .val (.int (p1 &&& (63 : Int32))), .val (.int (p2 &&& (63 : Int32))), .val (.int (p3 &&& (63 : Int32))), .val (.ref b1), .val (.ref x13), .val (.ref x131), .unset, .unset] [(.int (0 : Int32))])) _
        refine XS.ifYes X130.here hx rfl (pc0 := 151) (pc' := 156) rfl (hb hby at_151) rfl ((if0 _ _).trans (teq (by decide : (0 : Int32) = (0 : Int32))).1) (by decide) (by decide) ?_
        show Steps p.tables e below (T130.setTop (mkF m 156 #[.val (.int p1), .val (.int p2), .val (.int p3), .val (.int (p1 &&& (63 : Int32))), .val (.int (p2 &&& (63 : Int32))), .val (.int (p3 &&& (63 : Int32))), .val (.ref b1), .val (.ref x13), .val (.ref x131), .unset, .unset] [])) _
        refine XS.aload X130.here hx rfl (hb hby at_156) rfl rfl ?_
        show Steps p.tables e below (T130.setTop (mkF m 158 #[.val (.int p1), .val (.int p2), .val (.int p3), .val (.int (p1 &&& (63 : Int32))), .val (.int (p2 &&& (63 : Int32))), .val (.int (p3 &&& (63 : Int32))), .val (.ref b1), .val (.ref x13), .val (.ref x131), .unset, .unset] [(.ref x131)])) _
        refine XS.iconst X130.here hx rfl (hb hby at_158) ?_
        show Steps p.tables e below (T130.setTop (mkF m 159 #[.val (.int p1), .val (.int p2), .val (.int p3), .val (.int (p1 &&& (63 : Int32))), .val (.int (p2 &&& (63 : Int32))), .val (.int (p3 &&& (63 : Int32))), .val (.ref b1), .val (.ref x13), .val (.ref x131), .unset, .unset] [(.int (0 : Int32)), (.ref x131)])) _
        refine XS.bipush X130.here hx rfl (hb hby at_159) ?_
        show Steps p.tables e below (T130.setTop (mkF m 161 #[.val (.int p1), .val (.int p2), .val (.int p3), .val (.int (p1 &&& (63 : Int32))), .val (.int (p2 &&& (63 : Int32))), .val (.int (p3 &&& (63 : Int32))), .val (.ref b1), .val (.ref x13), .val (.ref x131), .unset, .unset] [(.int (9 : Int32)), (.int (0 : Int32)), (.ref x131)])) _
        refine st149 _ ?_
        show Steps p.tables e below (T149.setTop (mkF m 162 #[.val (.int p1), .val (.int p2), .val (.int p3), .val (.int (p1 &&& (63 : Int32))), .val (.int (p2 &&& (63 : Int32))), .val (.int (p3 &&& (63 : Int32))), .val (.ref b1), .val (.ref x13), .val (.ref x131), .unset, .unset] [])) _
        refine XS.aload X149.here hx rfl (hb hby at_162) rfl rfl ?_
        show Steps p.tables e below (T149.setTop (mkF m 164 #[.val (.int p1), .val (.int p2), .val (.int p3), .val (.int (p1 &&& (63 : Int32))), .val (.int (p2 &&& (63 : Int32))), .val (.int (p3 &&& (63 : Int32))), .val (.ref b1), .val (.ref x13), .val (.ref x131), .unset, .unset] [(.ref x131)])) _
        refine XS.iload X149.here hx rfl (hb hby at_164) rfl ?_
        show Steps p.tables e below (T149.setTop (mkF m 166 #[.val (.int p1), .val (.int p2), .val (.int p3), .val (.int (p1 &&& (63 : Int32))), .val (.int (p2 &&& (63 : Int32))), .val (.int (p3 &&& (63 : Int32))), .val (.ref b1), .val (.ref x13), .val (.ref x131), .unset, .unset] [(.int (p2 &&& (63 : Int32))), (.ref x131)])) _
        refine XS.iconst X149.here hx rfl (hb hby at_166) ?_
        show Steps p.tables e below (T149.setTop (mkF m 167 #[.val (.int p1), .val (.int p2), .val (.int p3), .val (.int (p1 &&& (63 : Int32))), .val (.int (p2 &&& (63 : Int32))), .val (.int (p3 &&& (63 : Int32))), .val (.ref b1), .val (.ref x13), .val (.ref x131), .unset, .unset] [(.int (1 : Int32)), (.int (p2 &&& (63 : Int32))), (.ref x131)])) _
        refine XS.isub X149.here hx rfl (hb hby at_167) rfl ?_
        show Steps p.tables e below (T149.setTop (mkF m 168 #[.val (.int p1), .val (.int p2), .val (.int p3), .val (.int (p1 &&& (63 : Int32))), .val (.int (p2 &&& (63 : Int32))), .val (.int (p3 &&& (63 : Int32))), .val (.ref b1), .val (.ref x13), .val (.ref x131), .unset, .unset] [(.int ((p2 &&& (63 : Int32)) - (1 : Int32))), (.ref x131)])) _
        refine XS.bipush X149.here hx rfl (hb hby at_168) ?_
        show Steps p.tables e below (T149.setTop (mkF m 170 #[.val (.int p1), .val (.int p2), .val (.int p3), .val (.int (p1 &&& (63 : Int32))), .val (.int (p2 &&& (63 : Int32))), .val (.int (p3 &&& (63 : Int32))), .val (.ref b1), .val (.ref x13), .val (.ref x131), .unset, .unset] [(.int (9 : Int32)), (.int ((p2 &&& (63 : Int32)) - (1 : Int32))), (.ref x131)])) _
        refine st155 _ ?_
        show Steps p.tables e below (T155.setTop (mkF m 171 #[.val (.int p1), .val (.int p2), .val (.int p3), .val (.int (p1 &&& (63 : Int32))), .val (.int (p2 &&& (63 : Int32))), .val (.int (p3 &&& (63 : Int32))), .val (.ref b1), .val (.ref x13), .val (.ref x131), .unset, .unset] [])) _
        refine XS.aload X155.here hx rfl (hb hby at_171) rfl rfl ?_
        show Steps p.tables e below (T155.setTop (mkF m 173 #[.val (.int p1), .val (.int p2), .val (.int p3), .val (.int (p1 &&& (63 : Int32))), .val (.int (p2 &&& (63 : Int32))), .val (.int (p3 &&& (63 : Int32))), .val (.ref b1), .val (.ref x13), .val (.ref x131), .unset, .unset] [(.ref x131)])) _
        refine XS.astore X155.here hx rfl (hb hby at_173) rfl rfl (l' := #[.val (.int p1), .val (.int p2), .val (.int p3), .val (.int (p1 &&& (63 : Int32))), .val (.int (p2 &&& (63 : Int32))), .val (.int (p3 &&& (63 : Int32))), .val (.ref b1), .val (.ref x13), .val (.ref x131), .val (.ref x131), .unset]) rfl ?_
        show Steps p.tables e below (T155.setTop (mkF m 175 #[.val (.int p1), .val (.int p2), .val (.int p3), .val (.int (p1 &&& (63 : Int32))), .val (.int (p2 &&& (63 : Int32))), .val (.int (p3 &&& (63 : Int32))), .val (.ref b1), .val (.ref x13), .val (.ref x131), .val (.ref x131), .unset] [])) _
        exact k)
      by_cases hs162 : (p2 &&& (63 : Int32)) < (p3 &&& (63 : Int32))
      · obtain ⟨cq163, kq163, q163a, q163b, q163c⟩ := isOf hZ e155 E158
        obtain ⟨_, _, ⟨T163, L163, k163, n163⟩, -, X163, ⟨Lc163, hQ163, l163, y163, z163⟩, st163⟩ := X155.virtualBack hx (y := (⟨"com/example/granulock/granulock/ResourceTree$Ledger", "modes", "(I)[I"⟩ : MethodName)) (z := (⟨"com/example/granulock/granulock/ResourceTree$Ledger", "modes", "(I)[I"⟩ : MethodName)) hown (mvT hZ (hw _ (List.mem_of_getElem? (i := 27) rfl))) (mvT hZ (hw _ (List.mem_of_getElem? (i := 28) rfl))) (notFace_of_selects (args := #[]) (mvT hZ (hw _ (List.mem_of_getElem? (i := 30) rfl)))) (mvT hZ (hw _ (List.mem_of_getElem? (i := 30) rfl))) (mvT hZ (hw _ (List.mem_of_getElem? (i := 29) rfl))) (by decide) (backOf (W := 0) (rm_mG l Z a0 hw [] b1 (p3 &&& (63 : Int32)) x131 (((newA x132 .int (p2 &&& (63 : Int32))).setSlot ((0 : Int32)).toNatClampNeg (.int (9 : Int32))).setSlot (((p2 &&& (63 : Int32)) - (1 : Int32))).toNatClampNeg (.int (9 : Int32))) (p2 &&& (63 : Int32)) h155 n0 Zs160 E158 F159 ge_b1 (own_63 p3).1 (own_63 p3).2 V155 (by simp only [sz_set, sz_new]) (own_63 p2).1 ne144 hs162) hZ (hw _ (List.mem_of_getElem? (i := 31) rfl)) (hw _ (List.mem_of_getElem? (i := 2) rfl)) (by decide) (by decide)) q163a q163c (g := (mkF m 179 #[.val (.int p1), .val (.int p2), .val (.int p3), .val (.int (p1 &&& (63 : Int32))), .val (.int (p2 &&& (63 : Int32))), .val (.int (p3 &&& (63 : Int32))), .val (.ref b1), .val (.ref x13), .val (.ref x131), .val (.ref x131), .unset] [(.int (p3 &&& (63 : Int32))), (.ref b1)])) rfl (by rw [hml]; rfl) (Steps.refl _) (argsL := [(.int (p3 &&& (63 : Int32)))]) (rest := []) (lenOf pd_2 rfl) rfl (by show 2 * 0 + _ ≤ _; exact Nat.le_of_eq rfl) (hb hby at_179) (fun _ _ => ⟨rfl, e155, (by decide : 3 + 1 ≤ _), (by decide : 131 + 63 ≤ _)⟩)
        dsimp only [Pt.U, Pt.locs, Pt.cells, Pt.slots] at X163 l163 y163 z163 st163 hQ163
        subst l163 y163 z163
        obtain ⟨x164, x165, rfl, N163q, hq166, p167, p168, E169, F170, R171⟩ := hQ163
        have N163 := Fr.app N155 N163q
        have lt172 : x13 < h155.size := R157.lt
        have lt173 : b1 < h155.size := E158.lt
        have lt174 : x131 < h155.size := V155.lt
        have S175 : Sta Z T163.heap "java/util/ImmutableCollections" "EMPTY_LIST" "Ljava/util/ImmutableCollections$ListN;" (.ref wE) := own_sta_keep S156 hq166 (allS (own_ns_exa E158) all0)
        have R176 : Arr Z T163.heap x13 (newA x14 .int (p1 &&& (63 : Int32))) .int := own_arr_keep R157 hq166 (ninS (Ne.symm ne24) nin0)
        have R177 : Arr Z T163.heap x131 (((newA x132 .int (p2 &&& (63 : Int32))).setSlot ((0 : Int32)).toNatClampNeg (.int (9 : Int32))).setSlot (((p2 &&& (63 : Int32)) - (1 : Int32))).toNatClampNeg (.int (9 : Int32))) .int := own_arr_keep V155 hq166 (ninS (Ne.symm ne144) nin0)
        have K163 : Keep h0 T163.heap [] := K155.trans hq166 (allS (Or.inr sz_b1) all0)
        have Zs178 : n0 ≤ T163.heap.size := (Nat.le_trans Zs160 hq166.1)
        have ne179 : x13 ≠ x164 := Nat.ne_of_lt (Nat.lt_of_lt_of_le lt172 p168)
        have ne180 : b1 ≠ x164 := Nat.ne_of_lt (Nat.lt_of_lt_of_le lt173 p168)
        have ne181 : x131 ≠ x164 := Nat.ne_of_lt (Nat.lt_of_lt_of_le lt174 p168)
        have sz182 : h0.size ≤ x164 := Nat.le_trans K155.1 p168
        have hin183 : ¬ ((0 : Int32) < 0 ∨ (newA x165 .int (p3 &&& (63 : Int32))).slots.size ≤ ((0 : Int32)).toNatClampNeg) := (inb_of (show (newA x165 .int (p3 &&& (63 : Int32))).slots.size = (p3 &&& (63 : Int32)).toNatClampNeg from (by simp only [sz_set, sz_new])) ⟨by decide, (own_pos (own_63 p2).1 hs162)⟩)
        have hin184 : ¬ (((p3 &&& (63 : Int32)) - (1 : Int32)) < 0 ∨ (newA x165 .int (p3 &&& (63 : Int32))).slots.size ≤ (((p3 &&& (63 : Int32)) - (1 : Int32))).toNatClampNeg) := (inb_of (show (newA x165 .int (p3 &&& (63 : Int32))).slots.size = (p3 &&& (63 : Int32)).toNatClampNeg from (by simp only [sz_set, sz_new])) (own_pred (own_pos (own_63 p2).1 hs162)))
        have pre185 := fun (t : State) (k : Steps p.tables e below (T163.setTop (mkF m 249 #[.val (.int p1), .val (.int p2), .val (.int p3), .val (.int (p1 &&& (63 : Int32))), .val (.int (p2 &&& (63 : Int32))), .val (.int (p3 &&& (63 : Int32))), .val (.ref b1), .val (.ref x13), .val (.ref x131), .val (.ref x131), .val (.ref x164)] [(.int (1 : Int32))])) t) => pre161 t (by
          refine XS.aload X155.here hx rfl (hb hby at_175) rfl rfl ?_
          show Steps p.tables e below (T155.setTop (mkF m 177 #[.val (.int p1), .val (.int p2), .val (.int p3), .val (.int (p1 &&& (63 : Int32))), .val (.int (p2 &&& (63 : Int32))), .val (.int (p3 &&& (63 : Int32))), .val (.ref b1), .val (.ref x13), .val (.ref x131), .val (.ref x131), .unset] [(.ref b1)])) _
          refine XS.iload X155.here hx rfl (hb hby at_177) rfl ?_
          show Steps p.tables e below (T155.setTop (mkF m 179 #[.val (.int p1), .val (.int p2), .val (.int p3), .val (.int (p1 &&& (63 : Int32))), .val (.int (p2 &&& (63 : Int32))), .val (.int (p3 &&& (63 : Int32))), .val (.ref b1), .val (.ref x13), .val (.ref x131), .val (.ref x131), .unset] [(.int (p3 &&& (63 : Int32))), (.ref b1)])) _
          refine st163.trans ?_
          show Steps p.tables e below (T163.setTop (mkF m 182 #[.val (.int p1), .val (.int p2), .val (.int p3), .val (.int (p1 &&& (63 : Int32))), .val (.int (p2 &&& (63 : Int32))), .val (.int (p3 &&& (63 : Int32))), .val (.ref b1), .val (.ref x13), .val (.ref x131), .val (.ref x131), .unset] [(.ref x164)])) _
          refine XS.astore X163.here hx rfl (hb hby at_182) rfl rfl (l' := #[.val (.int p1), .val (.int p2), .val (.int p3), .val (.int (p1 &&& (63 : Int32))), .val (.int (p2 &&& (63 : Int32))), .val (.int (p3 &&& (63 : Int32))), .val (.ref b1), .val (.ref x13), .val (.ref x131), .val (.ref x131), .val (.ref x164)]) rfl ?_
          show Steps p.tables e below (T163.setTop (mkF m 184 #[.val (.int p1), .val (.int p2), .val (.int p3), .val (.int (p1 &&& (63 : Int32))), .val (.int (p2 &&& (63 : Int32))), .val (.int (p3 &&& (63 : Int32))), .val (.ref b1), .val (.ref x13), .val (.ref x131), .val (.ref x131), .val (.ref x164)] [])) _
          refine XS.aload X163.here hx rfl (hb hby at_184) rfl rfl ?_
          show Steps p.tables e below (T163.setTop (mkF m 186 #[.val (.int p1), .val (.int p2), .val (.int p3), .val (.int (p1 &&& (63 : Int32))), .val (.int (p2 &&& (63 : Int32))), .val (.int (p3 &&& (63 : Int32))), .val (.ref b1), .val (.ref x13), .val (.ref x131), .val (.ref x131), .val (.ref x164)] [(.ref x164)])) _
          refine XS.ifnonnullYes X163.here hx rfl (pc0 := 186) (pc' := 191) rfl (hb hby at_186) rfl (by decide) (by decide) ?_
          show Steps p.tables e below (T163.setTop (mkF m 191 #[.val (.int p1), .val (.int p2), .val (.int p3), .val (.int (p1 &&& (63 : Int32))), .val (.int (p2 &&& (63 : Int32))), .val (.int (p3 &&& (63 : Int32))), .val (.ref b1), .val (.ref x13), .val (.ref x131), .val (.ref x131), .val (.ref x164)] [])) _
          refine XS.iload X163.here hx rfl (hb hby at_191) rfl ?_
          show Steps p.tables e below (T163.setTop (mkF m 193 #[.val (.int p1), .val (.int p2), .val (.int p3), .val (.int (p1 &&& (63 : Int32))), .val (.int (p2 &&& (63 : Int32))), .val (.int (p3 &&& (63 : Int32))), .val (.ref b1), .val (.ref x13), .val (.ref x131), .val (.ref x131), .val (.ref x164)] [(.int (p3 &&& (63 : Int32)))])) _
          refine XS.aload X163.here hx rfl (hb hby at_193) rfl rfl ?_
          show Steps p.tables e below (T163.setTop (mkF m 195 #[.val (.int p1), .val (.int p2), .val (.int p3), .val (.int (p1 &&& (63 : Int32))), .val (.int (p2 &&& (63 : Int32))), .val (.int (p3 &&& (63 : Int32))), .val (.ref b1), .val (.ref x13), .val (.ref x131), .val (.ref x131), .val (.ref x164)] [(.ref x131), (.int (p3 &&& (63 : Int32)))])) _
          refine X163.arraylength hx R177.1 (State.isArrayOf_alike hZ.alike R177.2.1) (g := (mkF m 195 #[.val (.int p1), .val (.int p2), .val (.int p3), .val (.int (p1 &&& (63 : Int32))), .val (.int (p2 &&& (63 : Int32))), .val (.int (p3 &&& (63 : Int32))), .val (.ref b1), .val (.ref x13), .val (.ref x131), .val (.ref x131), .val (.ref x164)] [(.ref x131), (.int (p3 &&& (63 : Int32)))])) rfl rfl (hb hby at_195) _ ?_
          rw [show (((newA x132 .int (p2 &&& (63 : Int32))).setSlot ((0 : Int32)).toNatClampNeg (.int (9 : Int32))).setSlot (((p2 &&& (63 : Int32)) - (1 : Int32))).toNatClampNeg (.int (9 : Int32))).slots.size.toInt32 = (p2 &&& (63 : Int32)) from (len_of (show (((newA x132 .int (p2 &&& (63 : Int32))).setSlot ((0 : Int32)).toNatClampNeg (.int (9 : Int32))).setSlot (((p2 &&& (63 : Int32)) - (1 : Int32))).toNatClampNeg (.int (9 : Int32))).slots.size = (p2 &&& (63 : Int32)).toNatClampNeg from (by simp only [sz_set, sz_new])) (own_63 p2).1)]
          show Steps p.tables e below (T163.setTop (mkF m 196 #[.val (.int p1), .val (.int p2), .val (.int p3), .val (.int (p1 &&& (63 : Int32))), .val (.int (p2 &&& (63 : Int32))), .val (.int (p3 &&& (63 : Int32))), .val (.ref b1), .val (.ref x13), .val (.ref x131), .val (.ref x131), .val (.ref x164)] [(.int (p2 &&& (63 : Int32))), (.int (p3 &&& (63 : Int32)))])) _
          refine XS.icmpYes X163.here hx rfl (pc0 := 196) (pc' := 212) rfl (hb hby at_196) rfl (tlt hs162).2.2.1 (by decide) (by decide) ?_
          show Steps p.tables e below (T163.setTop (mkF m 212 #[.val (.int p1), .val (.int p2), .val (.int p3), .val (.int (p1 &&& (63 : Int32))), .val (.int (p2 &&& (63 : Int32))), .val (.int (p3 &&& (63 : Int32))), .val (.ref b1), .val (.ref x13), .val (.ref x131), .val (.ref x131), .val (.ref x164)] [])) _
          refine XS.aload X163.here hx rfl (hb hby at_212) rfl rfl ?_
          show Steps p.tables e below (T163.setTop (mkF m 214 #[.val (.int p1), .val (.int p2), .val (.int p3), .val (.int (p1 &&& (63 : Int32))), .val (.int (p2 &&& (63 : Int32))), .val (.int (p3 &&& (63 : Int32))), .val (.ref b1), .val (.ref x13), .val (.ref x131), .val (.ref x131), .val (.ref x164)] [(.ref x164)])) _
          refine XS.aload X163.here hx rfl (hb hby at_214) rfl rfl ?_
          show Steps p.tables e below (T163.setTop (mkF m 216 #[.val (.int p1), .val (.int p2), .val (.int p3), .val (.int (p1 &&& (63 : Int32))), .val (.int (p2 &&& (63 : Int32))), .val (.int (p3 &&& (63 : Int32))), .val (.ref b1), .val (.ref x13), .val (.ref x131), .val (.ref x131), .val (.ref x164)] [(.ref x131), (.ref x164)])) _
          refine Jvm.RoadKit.acmp (g := (mkF m 216 #[.val (.int p1), .val (.int p2), .val (.int p3), .val (.int (p1 &&& (63 : Int32))), .val (.int (p2 &&& (63 : Int32))), .val (.int (p3 &&& (63 : Int32))), .val (.ref b1), .val (.ref x13), .val (.ref x131), .val (.ref x131), .val (.ref x164)] [(.ref x131), (.ref x164)])) X163 hx rfl rfl rfl (pc0 := 216) (pc' := 219) (same := false) rfl (hb hby at_216) rfl (decide_eq_false fun q => (Ne.symm ne181) (Value.ref.inj q)) (by decide) (by decide) ?_
          show Steps p.tables e below (T163.setTop (mkF m 219 #[.val (.int p1), .val (.int p2), .val (.int p3), .val (.int (p1 &&& (63 : Int32))), .val (.int (p2 &&& (63 : Int32))), .val (.int (p3 &&& (63 : Int32))), .val (.ref b1), .val (.ref x13), .val (.ref x131), .val (.ref x131), .val (.ref x164)] [])) _
          refine XS.aload X163.here hx rfl (hb hby at_219) rfl rfl ?_
          show Steps p.tables e below (T163.setTop (mkF m 221 #[.val (.int p1), .val (.int p2), .val (.int p3), .val (.int (p1 &&& (63 : Int32))), .val (.int (p2 &&& (63 : Int32))), .val (.int (p3 &&& (63 : Int32))), .val (.ref b1), .val (.ref x13), .val (.ref x131), .val (.ref x131), .val (.ref x164)] [(.ref x164)])) _
          refine X163.arraylength hx R171.1 (State.isArrayOf_alike hZ.alike R171.2.1) (g := (mkF m 221 #[.val (.int p1), .val (.int p2), .val (.int p3), .val (.int (p1 &&& (63 : Int32))), .val (.int (p2 &&& (63 : Int32))), .val (.int (p3 &&& (63 : Int32))), .val (.ref b1), .val (.ref x13), .val (.ref x131), .val (.ref x131), .val (.ref x164)] [(.ref x164)])) rfl rfl (hb hby at_221) _ ?_
          rw [show (newA x165 .int (p3 &&& (63 : Int32))).slots.size.toInt32 = (p3 &&& (63 : Int32)) from (len_of (show (newA x165 .int (p3 &&& (63 : Int32))).slots.size = (p3 &&& (63 : Int32)).toNatClampNeg from (by simp only [sz_set, sz_new])) (own_63 p3).1)]
          show Steps p.tables e below (T163.setTop (mkF m 222 #[.val (.int p1), .val (.int p2), .val (.int p3), .val (.int (p1 &&& (63 : Int32))), .val (.int (p2 &&& (63 : Int32))), .val (.int (p3 &&& (63 : Int32))), .val (.ref b1), .val (.ref x13), .val (.ref x131), .val (.ref x131), .val (.ref x164)] [(.int (p3 &&& (63 : Int32)))])) _
          refine XS.iload X163.here hx rfl (hb hby at_222) rfl ?_
          show Steps p.tables e below (T163.setTop (mkF m 224 #[.val (.int p1), .val (.int p2), .val (.int p3), .val (.int (p1 &&& (63 : Int32))), .val (.int (p2 &&& (63 : Int32))), .val (.int (p3 &&& (63 : Int32))), .val (.ref b1), .val (.ref x13), .val (.ref x131), .val (.ref x131), .val (.ref x164)] [(.int (p3 &&& (63 : Int32))), (.int (p3 &&& (63 : Int32)))])) _
          refine XS.icmpNo X163.here hx rfl (hb hby at_224) rfl (teq (rfl : (p3 &&& (63 : Int32)) = (p3 &&& (63 : Int32)))).2 ?_
          show Steps p.tables e below (T163.setTop (mkF m 227 #[.val (.int p1), .val (.int p2), .val (.int p3), .val (.int (p1 &&& (63 : Int32))), .val (.int (p2 &&& (63 : Int32))), .val (.int (p3 &&& (63 : Int32))), .val (.ref b1), .val (.ref x13), .val (.ref x131), .val (.ref x131), .val (.ref x164)] [])) _
          refine XS.aload X163.here hx rfl (hb hby at_227) rfl rfl ?_
          show Steps p.tables e below (T163.setTop (mkF m 229 #[.val (.int p1), .val (.int p2), .val (.int p3), .val (.int (p1 &&& (63 : Int32))), .val (.int (p2 &&& (63 : Int32))), .val (.int (p3 &&& (63 : Int32))), .val (.ref b1), .val (.ref x13), .val (.ref x131), .val (.ref x131), .val (.ref x164)] [(.ref x164)])) _
          refine XS.iconst X163.here hx rfl (hb hby at_229) ?_
          show Steps p.tables e below (T163.setTop (mkF m 230 #[.val (.int p1), .val (.int p2), .val (.int p3), .val (.int (p1 &&& (63 : Int32))), .val (.int (p2 &&& (63 : Int32))), .val (.int (p3 &&& (63 : Int32))), .val (.ref b1), .val (.ref x13), .val (.ref x131), .val (.ref x131), .val (.ref x164)] [(.int (0 : Int32)), (.ref x164)])) _
          refine X163.iaload hx (j := (0 : Int32)) (v := (.int (0 : Int32))) R171.1 (State.isArrayOf_alike hZ.alike R171.2.1) R171.2.2 hin183 (get_new (by have q := hin183; rw [sz_new] at q; exact q)) (g := (mkF m 230 #[.val (.int p1), .val (.int p2), .val (.int p3), .val (.int (p1 &&& (63 : Int32))), .val (.int (p2 &&& (63 : Int32))), .val (.int (p3 &&& (63 : Int32))), .val (.ref b1), .val (.ref x13), .val (.ref x131), .val (.ref x131), .val (.ref x164)] [(.int (0 : Int32)), (.ref x164)])) rfl rfl (hb hby at_230) _ ?_
          show Steps p.tables e below (T163.setTop (mkF m 231 #[.val (.int p1), .val (.int p2), .val (.int p3), .val (.int (p1 &&& (63 : Int32))), .val (.int (p2 &&& (63 : Int32))), .val (.int (p3 &&& (63 : Int32))), .val (.ref b1), .val (.ref x13), .val (.ref x131), .val (.ref x131), .val (.ref x164)] [(.int (0 : Int32))])) _
          refine XS.ifNo X163.here hx rfl (hb hby at_231) rfl ((if0 _ _).trans (teq (by decide : (0 : Int32) = (0 : Int32))).2) ?_
          show Steps p.tables e below (T163.setTop (mkF m 234 #[.val (.int p1), .val (.int p2), .val (.int p3), .val (.int (p1 &&& (63 : Int32))), .val (.int (p2 &&& (63 : Int32))), .val (.int (p3 &&& (63 : Int32))), .val (.ref b1), .val (.ref x13), .val (.ref x131), .val (.ref x131), .val (.ref x164)] [])) _
          refine XS.aload X163.here hx rfl (hb hby at_234) rfl rfl ?_
          show Steps p.tables e below (T163.setTop (mkF m 236 #[.val (.int p1), .val (.int p2), .val (.int p3), .val (.int (p1 &&& (63 : Int32))), .val (.int (p2 &&& (63 : Int32))), .val (.int (p3 &&& (63 : Int32))), .val (.ref b1), .val (.ref x13), .val (.ref x131), .val (.ref x131), .val (.ref x164)] [(.ref x164)])) _
          refine XS.iload X163.here hx rfl (hb hby at_236) rfl ?_
          show Steps p.tables e below (T163.setTop (mkF m 238 #[.val (.int p1), .val (.int p2), .val (.int p3), .val (.int (p1 &&& (63 : Int32))), .val (.int (p2 &&& (63 : Int32))), .val (.int (p3 &&& (63 : Int32))), .val (.ref b1), .val (.ref x13), .val (.ref x131), .val (.ref x131), .val (.ref x164)] [(.int (p3 &&& (63 : Int32))), (.ref x164)])) _
          refine XS.iconst X163.here hx rfl (hb hby at_238) ?_
          show Steps p.tables e below (T163.setTop (mkF m 239 #[.val (.int p1), .val (.int p2), .val (.int p3), .val (.int (p1 &&& (63 : Int32))), .val (.int (p2 &&& (63 : Int32))), .val (.int (p3 &&& (63 : Int32))), .val (.ref b1), .val (.ref x13), .val (.ref x131), .val (.ref x131), .val (.ref x164)] [(.int (1 : Int32)), (.int (p3 &&& (63 : Int32))), (.ref x164)])) _
          refine XS.isub X163.here hx rfl (hb hby at_239) rfl ?_
          show Steps p.tables e below (T163.setTop (mkF m 240 #[.val (.int p1), .val (.int p2), .val (.int p3), .val (.int (p1 &&& (63 : Int32))), .val (.int (p2 &&& (63 : Int32))), .val (.int (p3 &&& (63 : Int32))), .val (.ref b1), .val (.ref x13), .val (.ref x131), .val (.ref x131), .val (.ref x164)] [(.int ((p3 &&& (63 : Int32)) - (1 : Int32))), (.ref x164)])) _
          refine X163.iaload hx (j := ((p3 &&& (63 : Int32)) - (1 : Int32))) (v := (.int (0 : Int32))) R171.1 (State.isArrayOf_alike hZ.alike R171.2.1) R171.2.2 hin184 (get_new (by have q := hin184; rw [sz_new] at q; exact q)) (g := (mkF m 240 #[.val (.int p1), .val (.int p2), .val (.int p3), .val (.int (p1 &&& (63 : Int32))), .val (.int (p2 &&& (63 : Int32))), .val (.int (p3 &&& (63 : Int32))), .val (.ref b1), .val (.ref x13), .val (.ref x131), .val (.ref x131), .val (.ref x164)] [(.int ((p3 &&& (63 : Int32)) - (1 : Int32))), (.ref x164)])) rfl rfl (hb hby at_240) _ ?_
          show Steps p.tables e below (T163.setTop (mkF m 241 #[.val (.int p1), .val (.int p2), .val (.int p3), .val (.int (p1 &&& (63 : Int32))), .val (.int (p2 &&& (63 : Int32))), .val (.int (p3 &&& (63 : Int32))), .val (.ref b1), .val (.ref x13), .val (.ref x131), .val (.ref x131), .val (.ref x164)] [(.int (0 : Int32))])) _
          refine XS.ifNo X163.here hx rfl (hb hby at_241) rfl ((if0 _ _).trans (teq (by decide : (0 : Int32) = (0 : Int32))).2) ?_
          show Steps p.tables e below (T163.setTop (mkF m 244 #[.val (.int p1), .val (.int p2), .val (.int p3), .val (.int (p1 &&& (63 : Int32))), .val (.int (p2 &&& (63 : Int32))), .val (.int (p3 &&& (63 : Int32))), .val (.ref b1), .val (.ref x13), .val (.ref x131), .val (.ref x131), .val (.ref x164)] [])) _
          refine XS.iconst X163.here hx rfl (hb hby at_244) ?_
          show Steps p.tables e below (T163.setTop (mkF m 245 #[.val (.int p1), .val (.int p2), .val (.int p3), .val (.int (p1 &&& (63 : Int32))), .val (.int (p2 &&& (63 : Int32))), .val (.int (p3 &&& (63 : Int32))), .val (.ref b1), .val (.ref x13), .val (.ref x131), .val (.ref x131), .val (.ref x164)] [(.int (1 : Int32))])) _
          refine XS.goto X163.here hx rfl (pc0 := 245) (pc' := 249) rfl (hb hby at_245) (by decide) (by decide) ?_
          show Steps p.tables e below (T163.setTop (mkF m 249 #[.val (.int p1), .val (.int p2), .val (.int p3), .val (.int (p1 &&& (63 : Int32))), .val (.int (p2 &&& (63 : Int32))), .val (.int (p3 &&& (63 : Int32))), .val (.ref b1), .val (.ref x13), .val (.ref x131), .val (.ref x131), .val (.ref x164)] [(.int (1 : Int32))])) _
          exact k)
        obtain ⟨fs, hr, hrun, hended, hW, hsame⟩ := X163.leave (v := some (.int (1 : Int32))) (fun h => by rw [Bd.returns] at h; cases h)
        refine ⟨_, _, pre185 _ ?_, hrun, hended, _, _, rfl, ?_, ⟨_, rfl⟩, hW, hsame.mono (by decide) (by decide)⟩
        · exact retN X163 hx (t := .boolean) Bd.returns (by simp) (hb hby at_249) hr
        · show Q_law Z p1 p2 p3 wE h0 n0 _ T163.heap _
          exact ⟨rfl, N163, K163⟩
      · obtain ⟨cq186, kq186, q186a, q186b, q186c⟩ := isOf hZ e155 E158
        obtain ⟨_, _, ⟨T186, L186, k186, n186⟩, -, X186, ⟨Lc186, hQ186, l186, y186, z186⟩, st186⟩ := X155.virtualBack hx (y := (⟨"com/example/granulock/granulock/ResourceTree$Ledger", "modes", "(I)[I"⟩ : MethodName)) (z := (⟨"com/example/granulock/granulock/ResourceTree$Ledger", "modes", "(I)[I"⟩ : MethodName)) hown (mvT hZ (hw _ (List.mem_of_getElem? (i := 27) rfl))) (mvT hZ (hw _ (List.mem_of_getElem? (i := 28) rfl))) (notFace_of_selects (args := #[]) (mvT hZ (hw _ (List.mem_of_getElem? (i := 30) rfl)))) (mvT hZ (hw _ (List.mem_of_getElem? (i := 30) rfl))) (mvT hZ (hw _ (List.mem_of_getElem? (i := 29) rfl))) (by decide) (backOf (W := 0) (rm_mK l Z a0 hw [] b1 (p3 &&& (63 : Int32)) x131 (((newA x132 .int (p2 &&& (63 : Int32))).setSlot ((0 : Int32)).toNatClampNeg (.int (9 : Int32))).setSlot (((p2 &&& (63 : Int32)) - (1 : Int32))).toNatClampNeg (.int (9 : Int32))) (p2 &&& (63 : Int32)) h155 n0 Zs160 E158 F159 ge_b1 (own_63 p3).1 (own_63 p3).2 V155 (by simp only [sz_set, sz_new]) (own_63 p2).1 ne144 hs162) hZ (hw _ (List.mem_of_getElem? (i := 31) rfl)) (hw _ (List.mem_of_getElem? (i := 2) rfl)) (by decide) (by decide)) q186a q186c (g := (mkF m 179 #[.val (.int p1), .val (.int p2), .val (.int p3), .val (.int (p1 &&& (63 : Int32))), .val (.int (p2 &&& (63 : Int32))), .val (.int (p3 &&& (63 : Int32))), .val (.ref b1), .val (.ref x13), .val (.ref x131), .val (.ref x131), .unset] [(.int (p3 &&& (63 : Int32))), (.ref b1)])) rfl (by rw [hml]; rfl) (Steps.refl _) (argsL := [(.int (p3 &&& (63 : Int32)))]) (rest := []) (lenOf pd_2 rfl) rfl (by show 2 * 0 + _ ≤ _; exact Nat.le_of_eq rfl) (hb hby at_179) (fun _ _ => ⟨rfl, e155, (by decide : 3 + 0 ≤ _), (by decide : 131 + 0 ≤ _)⟩)
        dsimp only [Pt.U, Pt.locs, Pt.cells, Pt.slots] at X186 l186 y186 z186 st186 hQ186
        subst l186 y186 z186
        obtain ⟨rfl, N186q, hq187⟩ := hQ186
        have N186 := Fr.app N155 N186q
        have pre188 := fun (t : State) (k : Steps p.tables e below (T186.setTop (mkF m 211 #[.val (.int p1), .val (.int p2), .val (.int p3), .val (.int (p1 &&& (63 : Int32))), .val (.int (p2 &&& (63 : Int32))), .val (.int (p3 &&& (63 : Int32))), .val (.ref b1), .val (.ref x13), .val (.ref x131), .val (.ref x131), .val (.ref x131)] [(.int (1 : Int32))])) t) => pre161 t (by
          refine XS.aload X155.here hx rfl (hb hby at_175) rfl rfl ?_
          show Steps p.tables e below (T155.setTop (mkF m 177 #[.val (.int p1), .val (.int p2), .val (.int p3), .val (.int (p1 &&& (63 : Int32))), .val (.int (p2 &&& (63 : Int32))), .val (.int (p3 &&& (63 : Int32))), .val (.ref b1), .val (.ref x13), .val (.ref x131), .val (.ref x131), .unset] [(.ref b1)])) _
          refine XS.iload X155.here hx rfl (hb hby at_177) rfl ?_
          show Steps p.tables e below (T155.setTop (mkF m 179 #[.val (.int p1), .val (.int p2), .val (.int p3), .val (.int (p1 &&& (63 : Int32))), .val (.int (p2 &&& (63 : Int32))), .val (.int (p3 &&& (63 : Int32))), .val (.ref b1), .val (.ref x13), .val (.ref x131), .val (.ref x131), .unset] [(.int (p3 &&& (63 : Int32))), (.ref b1)])) _
          refine st186.trans ?_
          show Steps p.tables e below (T186.setTop (mkF m 182 #[.val (.int p1), .val (.int p2), .val (.int p3), .val (.int (p1 &&& (63 : Int32))), .val (.int (p2 &&& (63 : Int32))), .val (.int (p3 &&& (63 : Int32))), .val (.ref b1), .val (.ref x13), .val (.ref x131), .val (.ref x131), .unset] [(.ref x131)])) _
          refine XS.astore X186.here hx rfl (hb hby at_182) rfl rfl (l' := #[.val (.int p1), .val (.int p2), .val (.int p3), .val (.int (p1 &&& (63 : Int32))), .val (.int (p2 &&& (63 : Int32))), .val (.int (p3 &&& (63 : Int32))), .val (.ref b1), .val (.ref x13), .val (.ref x131), .val (.ref x131), .val (.ref x131)]) rfl ?_
          show Steps p.tables e below (T186.setTop (mkF m 184 #[.val (.int p1), .val (.int p2), .val (.int p3), .val (.int (p1 &&& (63 : Int32))), .val (.int (p2 &&& (63 : Int32))), .val (.int (p3 &&& (63 : Int32))), .val (.ref b1), .val (.ref x13), .val (.ref x131), .val (.ref x131), .val (.ref x131)] [])) _
          refine XS.aload X186.here hx rfl (hb hby at_184) rfl rfl ?_
          show Steps p.tables e below (T186.setTop (mkF m 186 #[.val (.int p1), .val (.int p2), .val (.int p3), .val (.int (p1 &&& (63 : Int32))), .val (.int (p2 &&& (63 : Int32))), .val (.int (p3 &&& (63 : Int32))), .val (.ref b1), .val (.ref x13), .val (.ref x131), .val (.ref x131), .val (.ref x131)] [(.ref x131)])) _
          refine XS.ifnonnullYes X186.here hx rfl (pc0 := 186) (pc' := 191) rfl (hb hby at_186) rfl (by decide) (by decide) ?_
          show Steps p.tables e below (T186.setTop (mkF m 191 #[.val (.int p1), .val (.int p2), .val (.int p3), .val (.int (p1 &&& (63 : Int32))), .val (.int (p2 &&& (63 : Int32))), .val (.int (p3 &&& (63 : Int32))), .val (.ref b1), .val (.ref x13), .val (.ref x131), .val (.ref x131), .val (.ref x131)] [])) _
          refine XS.iload X186.here hx rfl (hb hby at_191) rfl ?_
          show Steps p.tables e below (T186.setTop (mkF m 193 #[.val (.int p1), .val (.int p2), .val (.int p3), .val (.int (p1 &&& (63 : Int32))), .val (.int (p2 &&& (63 : Int32))), .val (.int (p3 &&& (63 : Int32))), .val (.ref b1), .val (.ref x13), .val (.ref x131), .val (.ref x131), .val (.ref x131)] [(.int (p3 &&& (63 : Int32)))])) _
          refine XS.aload X186.here hx rfl (hb hby at_193) rfl rfl ?_
          show Steps p.tables e below (T186.setTop (mkF m 195 #[.val (.int p1), .val (.int p2), .val (.int p3), .val (.int (p1 &&& (63 : Int32))), .val (.int (p2 &&& (63 : Int32))), .val (.int (p3 &&& (63 : Int32))), .val (.ref b1), .val (.ref x13), .val (.ref x131), .val (.ref x131), .val (.ref x131)] [(.ref x131), (.int (p3 &&& (63 : Int32)))])) _
          refine X186.arraylength hx (by rw [hq187]; exact V155.1) (State.isArrayOf_alike hZ.alike V155.2.1) (g := (mkF m 195 #[.val (.int p1), .val (.int p2), .val (.int p3), .val (.int (p1 &&& (63 : Int32))), .val (.int (p2 &&& (63 : Int32))), .val (.int (p3 &&& (63 : Int32))), .val (.ref b1), .val (.ref x13), .val (.ref x131), .val (.ref x131), .val (.ref x131)] [(.ref x131), (.int (p3 &&& (63 : Int32)))])) rfl rfl (hb hby at_195) _ ?_
          rw [show (((newA x132 .int (p2 &&& (63 : Int32))).setSlot ((0 : Int32)).toNatClampNeg (.int (9 : Int32))).setSlot (((p2 &&& (63 : Int32)) - (1 : Int32))).toNatClampNeg (.int (9 : Int32))).slots.size.toInt32 = (p2 &&& (63 : Int32)) from (len_of (show (((newA x132 .int (p2 &&& (63 : Int32))).setSlot ((0 : Int32)).toNatClampNeg (.int (9 : Int32))).setSlot (((p2 &&& (63 : Int32)) - (1 : Int32))).toNatClampNeg (.int (9 : Int32))).slots.size = (p2 &&& (63 : Int32)).toNatClampNeg from (by simp only [sz_set, sz_new])) (own_63 p2).1)]
          show Steps p.tables e below (T186.setTop (mkF m 196 #[.val (.int p1), .val (.int p2), .val (.int p3), .val (.int (p1 &&& (63 : Int32))), .val (.int (p2 &&& (63 : Int32))), .val (.int (p3 &&& (63 : Int32))), .val (.ref b1), .val (.ref x13), .val (.ref x131), .val (.ref x131), .val (.ref x131)] [(.int (p2 &&& (63 : Int32))), (.int (p3 &&& (63 : Int32)))])) _
          refine XS.icmpNo X186.here hx rfl (hb hby at_196) rfl (flt hs162).2.2.1 ?_
          show Steps p.tables e below (T186.setTop (mkF m 199 #[.val (.int p1), .val (.int p2), .val (.int p3), .val (.int (p1 &&& (63 : Int32))), .val (.int (p2 &&& (63 : Int32))), .val (.int (p3 &&& (63 : Int32))), .val (.ref b1), .val (.ref x13), .val (.ref x131), .val (.ref x131), .val (.ref x131)] [])) _
          refine XS.aload X186.here hx rfl (hb hby at_199) rfl rfl ?_
          show Steps p.tables e below (T186.setTop (mkF m 201 #[.val (.int p1), .val (.int p2), .val (.int p3), .val (.int (p1 &&& (63 : Int32))), .val (.int (p2 &&& (63 : Int32))), .val (.int (p3 &&& (63 : Int32))), .val (.ref b1), .val (.ref x13), .val (.ref x131), .val (.ref x131), .val (.ref x131)] [(.ref x131)])) _
          refine XS.aload X186.here hx rfl (hb hby at_201) rfl rfl ?_
          show Steps p.tables e below (T186.setTop (mkF m 203 #[.val (.int p1), .val (.int p2), .val (.int p3), .val (.int (p1 &&& (63 : Int32))), .val (.int (p2 &&& (63 : Int32))), .val (.int (p3 &&& (63 : Int32))), .val (.ref b1), .val (.ref x13), .val (.ref x131), .val (.ref x131), .val (.ref x131)] [(.ref x131), (.ref x131)])) _
          refine Jvm.RoadKit.acmp (g := (mkF m 203 #[.val (.int p1), .val (.int p2), .val (.int p3), .val (.int (p1 &&& (63 : Int32))), .val (.int (p2 &&& (63 : Int32))), .val (.int (p3 &&& (63 : Int32))), .val (.ref b1), .val (.ref x13), .val (.ref x131), .val (.ref x131), .val (.ref x131)] [(.ref x131), (.ref x131)])) X186 hx rfl rfl rfl (pc0 := 203) (pc' := 206) (same := true) rfl (hb hby at_203) rfl (decide_eq_true rfl) (by decide) (by decide) ?_
          show Steps p.tables e below (T186.setTop (mkF m 206 #[.val (.int p1), .val (.int p2), .val (.int p3), .val (.int (p1 &&& (63 : Int32))), .val (.int (p2 &&& (63 : Int32))), .val (.int (p3 &&& (63 : Int32))), .val (.ref b1), .val (.ref x13), .val (.ref x131), .val (.ref x131), .val (.ref x131)] [])) _
          refine XS.iconst X186.here hx rfl (hb hby at_206) ?_
          show Steps p.tables e below (T186.setTop (mkF m 207 #[.val (.int p1), .val (.int p2), .val (.int p3), .val (.int (p1 &&& (63 : Int32))), .val (.int (p2 &&& (63 : Int32))), .val (.int (p3 &&& (63 : Int32))), .val (.ref b1), .val (.ref x13), .val (.ref x131), .val (.ref x131), .val (.ref x131)] [(.int (1 : Int32))])) _
          refine XS.goto X186.here hx rfl (pc0 := 207) (pc' := 211) rfl (hb hby at_207) (by decide) (by decide) ?_
          show Steps p.tables e below (T186.setTop (mkF m 211 #[.val (.int p1), .val (.int p2), .val (.int p3), .val (.int (p1 &&& (63 : Int32))), .val (.int (p2 &&& (63 : Int32))), .val (.int (p3 &&& (63 : Int32))), .val (.ref b1), .val (.ref x13), .val (.ref x131), .val (.ref x131), .val (.ref x131)] [(.int (1 : Int32))])) _
          exact k)
        obtain ⟨fs, hr, hrun, hended, hW, hsame⟩ := X186.leave (v := some (.int (1 : Int32))) (fun h => by rw [Bd.returns] at h; cases h)
        refine ⟨_, _, pre188 _ ?_, hrun, hended, _, _, rfl, ?_, ⟨_, rfl⟩, hW, hsame.mono (by decide) (by decide)⟩
        · exact retN X186 hx (t := .boolean) Bd.returns (by simp) (hb hby at_211) hr
        · show Q_law Z p1 p2 p3 wE h0 n0 _ T186.heap _
          rw [hq187]
          exact ⟨rfl, N186, K155⟩
    · obtain ⟨cq189, kq189, q189a, q189b, q189c⟩ := isOf hZ rfl E18
      obtain ⟨_, _, ⟨T189, L189, k189, n189⟩, -, X189, ⟨Lc189, hQ189, l189, y189, z189⟩, st189⟩ := X12.virtualBack hx (y := (⟨"com/example/granulock/granulock/ResourceTree$Ledger", "modes", "(I)[I"⟩ : MethodName)) (z := (⟨"com/example/granulock/granulock/ResourceTree$Ledger", "modes", "(I)[I"⟩ : MethodName)) hown (mvT hZ (hw _ (List.mem_of_getElem? (i := 27) rfl))) (mvT hZ (hw _ (List.mem_of_getElem? (i := 28) rfl))) (notFace_of_selects (args := #[]) (mvT hZ (hw _ (List.mem_of_getElem? (i := 30) rfl)))) (mvT hZ (hw _ (List.mem_of_getElem? (i := 30) rfl))) (mvT hZ (hw _ (List.mem_of_getElem? (i := 29) rfl))) (by decide) (backOf (W := 0) (rm_mK l Z a0 hw [] b1 (p2 &&& (63 : Int32)) x13 (newA x14 .int (p1 &&& (63 : Int32))) (p1 &&& (63 : Int32)) T12.heap n0 Zs23 E18 F19 ge_b1 (own_63 p2).1 (own_63 p2).2 R20 (by simp only [sz_set, sz_new]) (own_63 p1).1 ne24 hs129) hZ (hw _ (List.mem_of_getElem? (i := 31) rfl)) (hw _ (List.mem_of_getElem? (i := 2) rfl)) (by decide) (by decide)) q189a q189c (g := (mkF m 88 #[.val (.int p1), .val (.int p2), .val (.int p3), .val (.int (p1 &&& (63 : Int32))), .val (.int (p2 &&& (63 : Int32))), .val (.int (p3 &&& (63 : Int32))), .val (.ref b1), .val (.ref x13), .unset, .unset, .unset] [(.int (p2 &&& (63 : Int32))), (.ref b1)])) rfl (by rw [hml]; rfl) (Steps.refl _) (argsL := [(.int (p2 &&& (63 : Int32)))]) (rest := []) (lenOf pd_2 rfl) rfl (by show 2 * 0 + _ ≤ _; exact Nat.le_of_eq rfl) (hb hby at_88) (fun _ _ => ⟨rfl, rfl, (by decide : 2 + 0 ≤ _), (by decide : 68 + 0 ≤ _)⟩)
      dsimp only [Pt.U, Pt.locs, Pt.cells, Pt.slots] at X189 l189 y189 z189 st189 hQ189
      subst l189 y189 z189
      obtain ⟨rfl, N189q, hq190⟩ := hQ189
      have N189 := Fr.app N12 N189q
      have pre191 := fun (t : State) (k : Steps p.tables e below (T189.setTop (mkF m 175 #[.val (.int p1), .val (.int p2), .val (.int p3), .val (.int (p1 &&& (63 : Int32))), .val (.int (p2 &&& (63 : Int32))), .val (.int (p3 &&& (63 : Int32))), .val (.ref b1), .val (.ref x13), .val (.ref x13), .val (.ref x13), .unset] [])) t) => pre128 t (by
        refine XS.aload X12.here hx rfl (hb hby at_84) rfl rfl ?_
        show Steps p.tables e below (T12.setTop (mkF m 86 #[.val (.int p1), .val (.int p2), .val (.int p3), .val (.int (p1 &&& (63 : Int32))), .val (.int (p2 &&& (63 : Int32))), .val (.int (p3 &&& (63 : Int32))), .val (.ref b1), .val (.ref x13), .unset, .unset, .unset] [(.ref b1)])) _
        refine XS.iload X12.here hx rfl (hb hby at_86) rfl ?_
        show Steps p.tables e below (T12.setTop (mkF m 88 #[.val (.int p1), .val (.int p2), .val (.int p3), .val (.int (p1 &&& (63 : Int32))), .val (.int (p2 &&& (63 : Int32))), .val (.int (p3 &&& (63 : Int32))), .val (.ref b1), .val (.ref x13), .unset, .unset, .unset] [(.int (p2 &&& (63 : Int32))), (.ref b1)])) _
        refine st189.trans ?_
        show Steps p.tables e below (T189.setTop (mkF m 91 #[.val (.int p1), .val (.int p2), .val (.int p3), .val (.int (p1 &&& (63 : Int32))), .val (.int (p2 &&& (63 : Int32))), .val (.int (p3 &&& (63 : Int32))), .val (.ref b1), .val (.ref x13), .unset, .unset, .unset] [(.ref x13)])) _
        refine XS.astore X189.here hx rfl (hb hby at_91) rfl rfl (l' := #[.val (.int p1), .val (.int p2), .val (.int p3), .val (.int (p1 &&& (63 : Int32))), .val (.int (p2 &&& (63 : Int32))), .val (.int (p3 &&& (63 : Int32))), .val (.ref b1), .val (.ref x13), .val (.ref x13), .unset, .unset]) rfl ?_
        show Steps p.tables e below (T189.setTop (mkF m 93 #[.val (.int p1), .val (.int p2), .val (.int p3), .val (.int (p1 &&& (63 : Int32))), .val (.int (p2 &&& (63 : Int32))), .val (.int (p3 &&& (63 : Int32))), .val (.ref b1), .val (.ref x13), .val (.ref x13), .unset, .unset] [])) _
        refine XS.aload X189.here hx rfl (hb hby at_93) rfl rfl ?_
        show Steps p.tables e below (T189.setTop (mkF m 95 #[.val (.int p1), .val (.int p2), .val (.int p3), .val (.int (p1 &&& (63 : Int32))), .val (.int (p2 &&& (63 : Int32))), .val (.int (p3 &&& (63 : Int32))), .val (.ref b1), .val (.ref x13), .val (.ref x13), .unset, .unset] [(.ref x13)])) _
        refine XS.ifnonnullYes X189.here hx rfl (pc0 := 95) (pc' := 100) rfl (hb hby at_95) rfl (by decide) (by decide) ?_
        show Steps p.tables e below (T189.setTop (mkF m 100 #[.val (.int p1), .val (.int p2), .val (.int p3), .val (.int (p1 &&& (63 : Int32))), .val (.int (p2 &&& (63 : Int32))), .val (.int (p3 &&& (63 : Int32))), .val (.ref b1), .val (.ref x13), .val (.ref x13), .unset, .unset] [])) _
        refine XS.iload X189.here hx rfl (hb hby at_100) rfl ?_
        show Steps p.tables e below (T189.setTop (mkF m 102 #[.val (.int p1), .val (.int p2), .val (.int p3), .val (.int (p1 &&& (63 : Int32))), .val (.int (p2 &&& (63 : Int32))), .val (.int (p3 &&& (63 : Int32))), .val (.ref b1), .val (.ref x13), .val (.ref x13), .unset, .unset] [(.int (p2 &&& (63 : Int32)))])) _
        refine XS.iloadN X189.here hx rfl (hb hby at_102) rfl ?_
        show Steps p.tables e below (T189.setTop (mkF m 103 #[.val (.int p1), .val (.int p2), .val (.int p3), .val (.int (p1 &&& (63 : Int32))), .val (.int (p2 &&& (63 : Int32))), .val (.int (p3 &&& (63 : Int32))), .val (.ref b1), .val (.ref x13), .val (.ref x13), .unset, .unset] [(.int (p1 &&& (63 : Int32))), (.int (p2 &&& (63 : Int32)))])) _
        refine XS.icmpNo X189.here hx rfl (hb hby at_103) rfl (flt hs129).2.2.1 ?_
        show Steps p.tables e below (T189.setTop (mkF m 106 #[.val (.int p1), .val (.int p2), .val (.int p3), .val (.int (p1 &&& (63 : Int32))), .val (.int (p2 &&& (63 : Int32))), .val (.int (p3 &&& (63 : Int32))), .val (.ref b1), .val (.ref x13), .val (.ref x13), .unset, .unset] [])) _
        refine XS.aload X189.here hx rfl (hb hby at_106) rfl rfl ?_
        show Steps p.tables e below (T189.setTop (mkF m 108 #[.val (.int p1), .val (.int p2), .val (.int p3), .val (.int (p1 &&& (63 : Int32))), .val (.int (p2 &&& (63 : Int32))), .val (.int (p3 &&& (63 : Int32))), .val (.ref b1), .val (.ref x13), .val (.ref x13), .unset, .unset] [(.ref x13)])) _
        refine XS.aload X189.here hx rfl (hb hby at_108) rfl rfl ?_
        show Steps p.tables e below (T189.setTop (mkF m 110 #[.val (.int p1), .val (.int p2), .val (.int p3), .val (.int (p1 &&& (63 : Int32))), .val (.int (p2 &&& (63 : Int32))), .val (.int (p3 &&& (63 : Int32))), .val (.ref b1), .val (.ref x13), .val (.ref x13), .unset, .unset] [(.ref x13), (.ref x13)])) _
        refine Jvm.RoadKit.acmp (g := (mkF m 110 #[.val (.int p1), .val (.int p2), .val (.int p3), .val (.int (p1 &&& (63 : Int32))), .val (.int (p2 &&& (63 : Int32))), .val (.int (p3 &&& (63 : Int32))), .val (.ref b1), .val (.ref x13), .val (.ref x13), .unset, .unset] [(.ref x13), (.ref x13)])) X189 hx rfl rfl rfl (pc0 := 110) (pc' := 115) (same := true) rfl (hb hby at_110) rfl (decide_eq_true rfl) (by decide) (by decide) ?_
        show Steps p.tables e below (T189.setTop (mkF m 115 #[.val (.int p1), .val (.int p2), .val (.int p3), .val (.int (p1 &&& (63 : Int32))), .val (.int (p2 &&& (63 : Int32))), .val (.int (p3 &&& (63 : Int32))), .val (.ref b1), .val (.ref x13), .val (.ref x13), .unset, .unset] [])) _
        refine XS.aload X189.here hx rfl (hb hby at_115) rfl rfl ?_
        show Steps p.tables e below (T189.setTop (mkF m 117 #[.val (.int p1), .val (.int p2), .val (.int p3), .val (.int (p1 &&& (63 : Int32))), .val (.int (p2 &&& (63 : Int32))), .val (.int (p3 &&& (63 : Int32))), .val (.ref b1), .val (.ref x13), .val (.ref x13), .unset, .unset] [(.ref x13)])) _
        refine XS.astore X189.here hx rfl (hb hby at_117) rfl rfl (l' := #[.val (.int p1), .val (.int p2), .val (.int p3), .val (.int (p1 &&& (63 : Int32))), .val (.int (p2 &&& (63 : Int32))), .val (.int (p3 &&& (63 : Int32))), .val (.ref b1), .val (.ref x13), .val (.ref x13), .val (.ref x13), .unset]) rfl ?_
        show Steps p.tables e below (T189.setTop (mkF m 119 #[.val (.int p1), .val (.int p2), .val (.int p3), .val (.int (p1 &&& (63 : Int32))), .val (.int (p2 &&& (63 : Int32))), .val (.int (p3 &&& (63 : Int32))), .val (.ref b1), .val (.ref x13), .val (.ref x13), .val (.ref x13), .unset] [])) _
        refine XS.goto X189.here hx rfl (pc0 := 119) (pc' := 175) rfl (hb hby at_119) (by decide) (by decide) ?_
        show Steps p.tables e below (T189.setTop (mkF m 175 #[.val (.int p1), .val (.int p2), .val (.int p3), .val (.int (p1 &&& (63 : Int32))), .val (.int (p2 &&& (63 : Int32))), .val (.int (p3 &&& (63 : Int32))), .val (.ref b1), .val (.ref x13), .val (.ref x13), .val (.ref x13), .unset] [])) _
        exact k)
      by_cases hs192 : (p1 &&& (63 : Int32)) < (p3 &&& (63 : Int32))
      · obtain ⟨cq193, kq193, q193a, q193b, q193c⟩ := isOf hZ hq190 E18
        obtain ⟨_, _, ⟨T193, L193, k193, n193⟩, -, X193, ⟨Lc193, hQ193, l193, y193, z193⟩, st193⟩ := X189.virtualBack hx (y := (⟨"com/example/granulock/granulock/ResourceTree$Ledger", "modes", "(I)[I"⟩ : MethodName)) (z := (⟨"com/example/granulock/granulock/ResourceTree$Ledger", "modes", "(I)[I"⟩ : MethodName)) hown (mvT hZ (hw _ (List.mem_of_getElem? (i := 27) rfl))) (mvT hZ (hw _ (List.mem_of_getElem? (i := 28) rfl))) (notFace_of_selects (args := #[]) (mvT hZ (hw _ (List.mem_of_getElem? (i := 30) rfl)))) (mvT hZ (hw _ (List.mem_of_getElem? (i := 30) rfl))) (mvT hZ (hw _ (List.mem_of_getElem? (i := 29) rfl))) (by decide) (backOf (W := 0) (rm_mG l Z a0 hw [] b1 (p3 &&& (63 : Int32)) x13 (newA x14 .int (p1 &&& (63 : Int32))) (p1 &&& (63 : Int32)) T12.heap n0 Zs23 E18 F19 ge_b1 (own_63 p3).1 (own_63 p3).2 R20 (by simp only [sz_set, sz_new]) (own_63 p1).1 ne24 hs192) hZ (hw _ (List.mem_of_getElem? (i := 31) rfl)) (hw _ (List.mem_of_getElem? (i := 2) rfl)) (by decide) (by decide)) q193a q193c (g := (mkF m 179 #[.val (.int p1), .val (.int p2), .val (.int p3), .val (.int (p1 &&& (63 : Int32))), .val (.int (p2 &&& (63 : Int32))), .val (.int (p3 &&& (63 : Int32))), .val (.ref b1), .val (.ref x13), .val (.ref x13), .val (.ref x13), .unset] [(.int (p3 &&& (63 : Int32))), (.ref b1)])) rfl (by rw [hml]; rfl) (Steps.refl _) (argsL := [(.int (p3 &&& (63 : Int32)))]) (rest := []) (lenOf pd_2 rfl) rfl (by show 2 * 0 + _ ≤ _; exact Nat.le_of_eq rfl) (hb hby at_179) (fun _ _ => ⟨rfl, hq190, (by decide : 2 + 1 ≤ _), (by decide : 68 + 63 ≤ _)⟩)
        dsimp only [Pt.U, Pt.locs, Pt.cells, Pt.slots] at X193 l193 y193 z193 st193 hQ193
        subst l193 y193 z193
        obtain ⟨x194, x195, rfl, N193q, hq196, p197, p198, E199, F200, R201⟩ := hQ193
        have N193 := Fr.app N189 N193q
        have lt202 : b1 < T12.heap.size := E18.lt
        have lt203 : x13 < T12.heap.size := R20.lt
        have S204 : Sta Z T193.heap "java/util/ImmutableCollections" "EMPTY_LIST" "Ljava/util/ImmutableCollections$ListN;" (.ref wE) := own_sta_keep S22 hq196 (allS (own_ns_exa E18) all0)
        have R205 : Arr Z T193.heap x13 (newA x14 .int (p1 &&& (63 : Int32))) .int := own_arr_keep R20 hq196 (ninS (Ne.symm ne24) nin0)
        have K193 : Keep h0 T193.heap [] := K12.trans hq196 (allS (Or.inr sz_b1) all0)
        have Zs206 : n0 ≤ T193.heap.size := (Nat.le_trans Zs23 hq196.1)
        have ne207 : b1 ≠ x194 := Nat.ne_of_lt (Nat.lt_of_lt_of_le lt202 p198)
        have ne208 : x13 ≠ x194 := Nat.ne_of_lt (Nat.lt_of_lt_of_le lt203 p198)
        have sz209 : h0.size ≤ x194 := Nat.le_trans K12.1 p198
        have hin210 : ¬ ((0 : Int32) < 0 ∨ (newA x195 .int (p3 &&& (63 : Int32))).slots.size ≤ ((0 : Int32)).toNatClampNeg) := (inb_of (show (newA x195 .int (p3 &&& (63 : Int32))).slots.size = (p3 &&& (63 : Int32)).toNatClampNeg from (by simp only [sz_set, sz_new])) ⟨by decide, (own_pos (own_63 p1).1 hs192)⟩)
        have hin211 : ¬ (((p3 &&& (63 : Int32)) - (1 : Int32)) < 0 ∨ (newA x195 .int (p3 &&& (63 : Int32))).slots.size ≤ (((p3 &&& (63 : Int32)) - (1 : Int32))).toNatClampNeg) := (inb_of (show (newA x195 .int (p3 &&& (63 : Int32))).slots.size = (p3 &&& (63 : Int32)).toNatClampNeg from (by simp only [sz_set, sz_new])) (own_pred (own_pos (own_63 p1).1 hs192)))
        have pre212 := fun (t : State) (k : Steps p.tables e below (T193.setTop (mkF m 249 #[.val (.int p1), .val (.int p2), .val (.int p3), .val (.int (p1 &&& (63 : Int32))), .val (.int (p2 &&& (63 : Int32))), .val (.int (p3 &&& (63 : Int32))), .val (.ref b1), .val (.ref x13), .val (.ref x13), .val (.ref x13), .val (.ref x194)] [(.int (1 : Int32))])) t) => pre191 t (by
          refine XS.aload X189.here hx rfl (hb hby at_175) rfl rfl ?_
          show Steps p.tables e below (T189.setTop (mkF m 177 #[.val (.int p1), .val (.int p2), .val (.int p3), .val (.int (p1 &&& (63 : Int32))), .val (.int (p2 &&& (63 : Int32))), .val (.int (p3 &&& (63 : Int32))), .val (.ref b1), .val (.ref x13), .val (.ref x13), .val (.ref x13), .unset] [(.ref b1)])) _
          refine XS.iload X189.here hx rfl (hb hby at_177) rfl ?_
          show Steps p.tables e below (T189.setTop (mkF m 179 #[.val (.int p1), .val (.int p2), .val (.int p3), .val (.int (p1 &&& (63 : Int32))), .val (.int (p2 &&& (63 : Int32))), .val (.int (p3 &&& (63 : Int32))), .val (.ref b1), .val (.ref x13), .val (.ref x13), .val (.ref x13), .unset] [(.int (p3 &&& (63 : Int32))), (.ref b1)])) _
          refine st193.trans ?_
          show Steps p.tables e below (T193.setTop (mkF m 182 #[.val (.int p1), .val (.int p2), .val (.int p3), .val (.int (p1 &&& (63 : Int32))), .val (.int (p2 &&& (63 : Int32))), .val (.int (p3 &&& (63 : Int32))), .val (.ref b1), .val (.ref x13), .val (.ref x13), .val (.ref x13), .unset] [(.ref x194)])) _
          refine XS.astore X193.here hx rfl (hb hby at_182) rfl rfl (l' := #[.val (.int p1), .val (.int p2), .val (.int p3), .val (.int (p1 &&& (63 : Int32))), .val (.int (p2 &&& (63 : Int32))), .val (.int (p3 &&& (63 : Int32))), .val (.ref b1), .val (.ref x13), .val (.ref x13), .val (.ref x13), .val (.ref x194)]) rfl ?_
          show Steps p.tables e below (T193.setTop (mkF m 184 #[.val (.int p1), .val (.int p2), .val (.int p3), .val (.int (p1 &&& (63 : Int32))), .val (.int (p2 &&& (63 : Int32))), .val (.int (p3 &&& (63 : Int32))), .val (.ref b1), .val (.ref x13), .val (.ref x13), .val (.ref x13), .val (.ref x194)] [])) _
          refine XS.aload X193.here hx rfl (hb hby at_184) rfl rfl ?_
          show Steps p.tables e below (T193.setTop (mkF m 186 #[.val (.int p1), .val (.int p2), .val (.int p3), .val (.int (p1 &&& (63 : Int32))), .val (.int (p2 &&& (63 : Int32))), .val (.int (p3 &&& (63 : Int32))), .val (.ref b1), .val (.ref x13), .val (.ref x13), .val (.ref x13), .val (.ref x194)] [(.ref x194)])) _
          refine XS.ifnonnullYes X193.here hx rfl (pc0 := 186) (pc' := 191) rfl (hb hby at_186) rfl (by decide) (by decide) ?_
          show Steps p.tables e below (T193.setTop (mkF m 191 #[.val (.int p1), .val (.int p2), .val (.int p3), .val (.int (p1 &&& (63 : Int32))), .val (.int (p2 &&& (63 : Int32))), .val (.int (p3 &&& (63 : Int32))), .val (.ref b1), .val (.ref x13), .val (.ref x13), .val (.ref x13), .val (.ref x194)] [])) _
          refine XS.iload X193.here hx rfl (hb hby at_191) rfl ?_
          show Steps p.tables e below (T193.setTop (mkF m 193 #[.val (.int p1), .val (.int p2), .val (.int p3), .val (.int (p1 &&& (63 : Int32))), .val (.int (p2 &&& (63 : Int32))), .val (.int (p3 &&& (63 : Int32))), .val (.ref b1), .val (.ref x13), .val (.ref x13), .val (.ref x13), .val (.ref x194)] [(.int (p3 &&& (63 : Int32)))])) _
          refine XS.aload X193.here hx rfl (hb hby at_193) rfl rfl ?_
          show Steps p.tables e below (T193.setTop (mkF m 195 #[.val (.int p1), .val (.int p2), .val (.int p3), .val (.int (p1 &&& (63 : Int32))), .val (.int (p2 &&& (63 : Int32))), .val (.int (p3 &&& (63 : Int32))), .val (.ref b1), .val (.ref x13), .val (.ref x13), .val (.ref x13), .val (.ref x194)] [(.ref x13), (.int (p3 &&& (63 : Int32)))])) _
          refine X193.arraylength hx R205.1 (State.isArrayOf_alike hZ.alike R205.2.1) (g := (mkF m 195 #[.val (.int p1), .val (.int p2), .val (.int p3), .val (.int (p1 &&& (63 : Int32))), .val (.int (p2 &&& (63 : Int32))), .val (.int (p3 &&& (63 : Int32))), .val (.ref b1), .val (.ref x13), .val (.ref x13), .val (.ref x13), .val (.ref x194)] [(.ref x13), (.int (p3 &&& (63 : Int32)))])) rfl rfl (hb hby at_195) _ ?_
          rw [show (newA x14 .int (p1 &&& (63 : Int32))).slots.size.toInt32 = (p1 &&& (63 : Int32)) from (len_of (show (newA x14 .int (p1 &&& (63 : Int32))).slots.size = (p1 &&& (63 : Int32)).toNatClampNeg from (by simp only [sz_set, sz_new])) (own_63 p1).1)]
          show Steps p.tables e below (T193.setTop (mkF m 196 #[.val (.int p1), .val (.int p2), .val (.int p3), .val (.int (p1 &&& (63 : Int32))), .val (.int (p2 &&& (63 : Int32))), .val (.int (p3 &&& (63 : Int32))), .val (.ref b1), .val (.ref x13), .val (.ref x13), .val (.ref x13), .val (.ref x194)] [(.int (p1 &&& (63 : Int32))), (.int (p3 &&& (63 : Int32)))])) _
          refine XS.icmpYes X193.here hx rfl (pc0 := 196) (pc' := 212) rfl (hb hby at_196) rfl (tlt hs192).2.2.1 (by decide) (by decide) ?_
          show Steps p.tables e below (T193.setTop (mkF m 212 #[.val (.int p1), .val (.int p2), .val (.int p3), .val (.int (p1 &&& (63 : Int32))), .val (.int (p2 &&& (63 : Int32))), .val (.int (p3 &&& (63 : Int32))), .val (.ref b1), .val (.ref x13), .val (.ref x13), .val (.ref x13), .val (.ref x194)] [])) _
          refine XS.aload X193.here hx rfl (hb hby at_212) rfl rfl ?_
          show Steps p.tables e below (T193.setTop (mkF m 214 #[.val (.int p1), .val (.int p2), .val (.int p3), .val (.int (p1 &&& (63 : Int32))), .val (.int (p2 &&& (63 : Int32))), .val (.int (p3 &&& (63 : Int32))), .val (.ref b1), .val (.ref x13), .val (.ref x13), .val (.ref x13), .val (.ref x194)] [(.ref x194)])) _
          refine XS.aload X193.here hx rfl (hb hby at_214) rfl rfl ?_
          show Steps p.tables e below (T193.setTop (mkF m 216 #[.val (.int p1), .val (.int p2), .val (.int p3), .val (.int (p1 &&& (63 : Int32))), .val (.int (p2 &&& (63 : Int32))), .val (.int (p3 &&& (63 : Int32))), .val (.ref b1), .val (.ref x13), .val (.ref x13), .val (.ref x13), .val (.ref x194)] [(.ref x13), (.ref x194)])) _
          refine Jvm.RoadKit.acmp (g := (mkF m 216 #[.val (.int p1), .val (.int p2), .val (.int p3), .val (.int (p1 &&& (63 : Int32))), .val (.int (p2 &&& (63 : Int32))), .val (.int (p3 &&& (63 : Int32))), .val (.ref b1), .val (.ref x13), .val (.ref x13), .val (.ref x13), .val (.ref x194)] [(.ref x13), (.ref x194)])) X193 hx rfl rfl rfl (pc0 := 216) (pc' := 219) (same := false) rfl (hb hby at_216) rfl (decide_eq_false fun q => (Ne.symm ne208) (Value.ref.inj q)) (by decide) (by decide) ?_
          show Steps p.tables e below (T193.setTop (mkF m 219 #[.val (.int p1), .val (.int p2), .val (.int p3), .val (.int (p1 &&& (63 : Int32))), .val (.int (p2 &&& (63 : Int32))), .val (.int (p3 &&& (63 : Int32))), .val (.ref b1), .val (.ref x13), .val (.ref x13), .val (.ref x13), .val (.ref x194)] [])) _
          refine XS.aload X193.here hx rfl (hb hby at_219) rfl rfl ?_
          show Steps p.tables e below (T193.setTop (mkF m 221 #[.val (.int p1), .val (.int p2), .val (.int p3), .val (.int (p1 &&& (63 : Int32))), .val (.int (p2 &&& (63 : Int32))), .val (.int (p3 &&& (63 : Int32))), .val (.ref b1), .val (.ref x13), .val (.ref x13), .val (.ref x13), .val (.ref x194)] [(.ref x194)])) _
          refine X193.arraylength hx R201.1 (State.isArrayOf_alike hZ.alike R201.2.1) (g := (mkF m 221 #[.val (.int p1), .val (.int p2), .val (.int p3), .val (.int (p1 &&& (63 : Int32))), .val (.int (p2 &&& (63 : Int32))), .val (.int (p3 &&& (63 : Int32))), .val (.ref b1), .val (.ref x13), .val (.ref x13), .val (.ref x13), .val (.ref x194)] [(.ref x194)])) rfl rfl (hb hby at_221) _ ?_
          rw [show (newA x195 .int (p3 &&& (63 : Int32))).slots.size.toInt32 = (p3 &&& (63 : Int32)) from (len_of (show (newA x195 .int (p3 &&& (63 : Int32))).slots.size = (p3 &&& (63 : Int32)).toNatClampNeg from (by simp only [sz_set, sz_new])) (own_63 p3).1)]
          show Steps p.tables e below (T193.setTop (mkF m 222 #[.val (.int p1), .val (.int p2), .val (.int p3), .val (.int (p1 &&& (63 : Int32))), .val (.int (p2 &&& (63 : Int32))), .val (.int (p3 &&& (63 : Int32))), .val (.ref b1), .val (.ref x13), .val (.ref x13), .val (.ref x13), .val (.ref x194)] [(.int (p3 &&& (63 : Int32)))])) _
          refine XS.iload X193.here hx rfl (hb hby at_222) rfl ?_
          show Steps p.tables e below (T193.setTop (mkF m 224 #[.val (.int p1), .val (.int p2), .val (.int p3), .val (.int (p1 &&& (63 : Int32))), .val (.int (p2 &&& (63 : Int32))), .val (.int (p3 &&& (63 : Int32))), .val (.ref b1), .val (.ref x13), .val (.ref x13), .val (.ref x13), .val (.ref x194)] [(.int (p3 &&& (63 : Int32))), (.int (p3 &&& (63 : Int32)))])) _
          refine XS.icmpNo X193.here hx rfl (hb hby at_224) rfl (teq (rfl : (p3 &&& (63 : Int32)) = (p3 &&& (63 : Int32)))).2 ?_
          show Steps p.tables e below (T193.setTop (mkF m 227 #[.val (.int p1), .val (.int p2), .val (.int p3), .val (.int (p1 &&& (63 : Int32))), .val (.int (p2 &&& (63 : Int32))), .val (.int (p3 &&& (63 : Int32))), .val (.ref b1), .val (.ref x13), .val (.ref x13), .val (.ref x13), .val (.ref x194)] [])) _
          refine XS.aload X193.here hx rfl (hb hby at_227) rfl rfl ?_
          show Steps p.tables e below (T193.setTop (mkF m 229 #[.val (.int p1), .val (.int p2), .val (.int p3), .val (.int (p1 &&& (63 : Int32))), .val (.int (p2 &&& (63 : Int32))), .val (.int (p3 &&& (63 : Int32))), .val (.ref b1), .val (.ref x13), .val (.ref x13), .val (.ref x13), .val (.ref x194)] [(.ref x194)])) _
          refine XS.iconst X193.here hx rfl (hb hby at_229) ?_
          show Steps p.tables e below (T193.setTop (mkF m 230 #[.val (.int p1), .val (.int p2), .val (.int p3), .val (.int (p1 &&& (63 : Int32))), .val (.int (p2 &&& (63 : Int32))), .val (.int (p3 &&& (63 : Int32))), .val (.ref b1), .val (.ref x13), .val (.ref x13), .val (.ref x13), .val (.ref x194)] [(.int (0 : Int32)), (.ref x194)])) _
          refine X193.iaload hx (j := (0 : Int32)) (v := (.int (0 : Int32))) R201.1 (State.isArrayOf_alike hZ.alike R201.2.1) R201.2.2 hin210 (get_new (by have q := hin210; rw [sz_new] at q; exact q)) (g := (mkF m 230 #[.val (.int p1), .val (.int p2), .val (.int p3), .val (.int (p1 &&& (63 : Int32))), .val (.int (p2 &&& (63 : Int32))), .val (.int (p3 &&& (63 : Int32))), .val (.ref b1), .val (.ref x13), .val (.ref x13), .val (.ref x13), .val (.ref x194)] [(.int (0 : Int32)), (.ref x194)])) rfl rfl (hb hby at_230) _ ?_
          show Steps p.tables e below (T193.setTop (mkF m 231 #[.val (.int p1), .val (.int p2), .val (.int p3), .val (.int (p1 &&& (63 : Int32))), .val (.int (p2 &&& (63 : Int32))), .val (.int (p3 &&& (63 : Int32))), .val (.ref b1), .val (.ref x13), .val (.ref x13), .val (.ref x13), .val (.ref x194)] [(.int (0 : Int32))])) _
          refine XS.ifNo X193.here hx rfl (hb hby at_231) rfl ((if0 _ _).trans (teq (by decide : (0 : Int32) = (0 : Int32))).2) ?_
          show Steps p.tables e below (T193.setTop (mkF m 234 #[.val (.int p1), .val (.int p2), .val (.int p3), .val (.int (p1 &&& (63 : Int32))), .val (.int (p2 &&& (63 : Int32))), .val (.int (p3 &&& (63 : Int32))), .val (.ref b1), .val (.ref x13), .val (.ref x13), .val (.ref x13), .val (.ref x194)] [])) _
          refine XS.aload X193.here hx rfl (hb hby at_234) rfl rfl ?_
          show Steps p.tables e below (T193.setTop (mkF m 236 #[.val (.int p1), .val (.int p2), .val (.int p3), .val (.int (p1 &&& (63 : Int32))), .val (.int (p2 &&& (63 : Int32))), .val (.int (p3 &&& (63 : Int32))), .val (.ref b1), .val (.ref x13), .val (.ref x13), .val (.ref x13), .val (.ref x194)] [(.ref x194)])) _
          refine XS.iload X193.here hx rfl (hb hby at_236) rfl ?_
          show Steps p.tables e below (T193.setTop (mkF m 238 #[.val (.int p1), .val (.int p2), .val (.int p3), .val (.int (p1 &&& (63 : Int32))), .val (.int (p2 &&& (63 : Int32))), .val (.int (p3 &&& (63 : Int32))), .val (.ref b1), .val (.ref x13), .val (.ref x13), .val (.ref x13), .val (.ref x194)] [(.int (p3 &&& (63 : Int32))), (.ref x194)])) _
          refine XS.iconst X193.here hx rfl (hb hby at_238) ?_
          show Steps p.tables e below (T193.setTop (mkF m 239 #[.val (.int p1), .val (.int p2), .val (.int p3), .val (.int (p1 &&& (63 : Int32))), .val (.int (p2 &&& (63 : Int32))), .val (.int (p3 &&& (63 : Int32))), .val (.ref b1), .val (.ref x13), .val (.ref x13), .val (.ref x13), .val (.ref x194)] [(.int (1 : Int32)), (.int (p3 &&& (63 : Int32))), (.ref x194)])) _
          refine XS.isub X193.here hx rfl (hb hby at_239) rfl ?_
          show Steps p.tables e below (T193.setTop (mkF m 240 #[.val (.int p1), .val (.int p2), .val (.int p3), .val (.int (p1 &&& (63 : Int32))), .val (.int (p2 &&& (63 : Int32))), .val (.int (p3 &&& (63 : Int32))), .val (.ref b1), .val (.ref x13), .val (.ref x13), .val (.ref x13), .val (.ref x194)] [(.int ((p3 &&& (63 : Int32)) - (1 : Int32))), (.ref x194)])) _
          refine X193.iaload hx (j := ((p3 &&& (63 : Int32)) - (1 : Int32))) (v := (.int (0 : Int32))) R201.1 (State.isArrayOf_alike hZ.alike R201.2.1) R201.2.2 hin211 (get_new (by have q := hin211; rw [sz_new] at q; exact q)) (g := (mkF m 240 #[.val (.int p1), .val (.int p2), .val (.int p3), .val (.int (p1 &&& (63 : Int32))), .val (.int (p2 &&& (63 : Int32))), .val (.int (p3 &&& (63 : Int32))), .val (.ref b1), .val (.ref x13), .val (.ref x13), .val (.ref x13), .val (.ref x194)] [(.int ((p3 &&& (63 : Int32)) - (1 : Int32))), (.ref x194)])) rfl rfl (hb hby at_240) _ ?_
          show Steps p.tables e below (T193.setTop (mkF m 241 #[.val (.int p1), .val (.int p2), .val (.int p3), .val (.int (p1 &&& (63 : Int32))), .val (.int (p2 &&& (63 : Int32))), .val (.int (p3 &&& (63 : Int32))), .val (.ref b1), .val (.ref x13), .val (.ref x13), .val (.ref x13), .val (.ref x194)] [(.int (0 : Int32))])) _
          refine XS.ifNo X193.here hx rfl (hb hby at_241) rfl ((if0 _ _).trans (teq (by decide : (0 : Int32) = (0 : Int32))).2) ?_
          show Steps p.tables e below (T193.setTop (mkF m 244 #[.val (.int p1), .val (.int p2), .val (.int p3), .val (.int (p1 &&& (63 : Int32))), .val (.int (p2 &&& (63 : Int32))), .val (.int (p3 &&& (63 : Int32))), .val (.ref b1), .val (.ref x13), .val (.ref x13), .val (.ref x13), .val (.ref x194)] [])) _
          refine XS.iconst X193.here hx rfl (hb hby at_244) ?_
          show Steps p.tables e below (T193.setTop (mkF m 245 #[.val (.int p1), .val (.int p2), .val (.int p3), .val (.int (p1 &&& (63 : Int32))), .val (.int (p2 &&& (63 : Int32))), .val (.int (p3 &&& (63 : Int32))), .val (.ref b1), .val (.ref x13), .val (.ref x13), .val (.ref x13), .val (.ref x194)] [(.int (1 : Int32))])) _
          refine XS.goto X193.here hx rfl (pc0 := 245) (pc' := 249) rfl (hb hby at_245) (by decide) (by decide) ?_
          show Steps p.tables e below (T193.setTop (mkF m 249 #[.val (.int p1), .val (.int p2), .val (.int p3), .val (.int (p1 &&& (63 : Int32))), .val (.int (p2 &&& (63 : Int32))), .val (.int (p3 &&& (63 : Int32))), .val (.ref b1), .val (.ref x13), .val (.ref x13), .val (.ref x13), .val (.ref x194)] [(.int (1 : Int32))])) _
          exact k)
        obtain ⟨fs, hr, hrun, hended, hW, hsame⟩ := X193.leave (v := some (.int (1 : Int32))) (fun h => by rw [Bd.returns] at h; cases h)
        refine ⟨_, _, pre212 _ ?_, hrun, hended, _, _, rfl, ?_, ⟨_, rfl⟩, hW, hsame.mono (by decide) (by decide)⟩
        · exact retN X193 hx (t := .boolean) Bd.returns (by simp) (hb hby at_249) hr
        · show Q_law Z p1 p2 p3 wE h0 n0 _ T193.heap _
          exact ⟨rfl, N193, K193⟩
      · obtain ⟨cq213, kq213, q213a, q213b, q213c⟩ := isOf hZ hq190 E18
        obtain ⟨_, _, ⟨T213, L213, k213, n213⟩, -, X213, ⟨Lc213, hQ213, l213, y213, z213⟩, st213⟩ := X189.virtualBack hx (y := (⟨"com/example/granulock/granulock/ResourceTree$Ledger", "modes", "(I)[I"⟩ : MethodName)) (z := (⟨"com/example/granulock/granulock/ResourceTree$Ledger", "modes", "(I)[I"⟩ : MethodName)) hown (mvT hZ (hw _ (List.mem_of_getElem? (i := 27) rfl))) (mvT hZ (hw _ (List.mem_of_getElem? (i := 28) rfl))) (notFace_of_selects (args := #[]) (mvT hZ (hw _ (List.mem_of_getElem? (i := 30) rfl)))) (mvT hZ (hw _ (List.mem_of_getElem? (i := 30) rfl))) (mvT hZ (hw _ (List.mem_of_getElem? (i := 29) rfl))) (by decide) (backOf (W := 0) (rm_mK l Z a0 hw [] b1 (p3 &&& (63 : Int32)) x13 (newA x14 .int (p1 &&& (63 : Int32))) (p1 &&& (63 : Int32)) T12.heap n0 Zs23 E18 F19 ge_b1 (own_63 p3).1 (own_63 p3).2 R20 (by simp only [sz_set, sz_new]) (own_63 p1).1 ne24 hs192) hZ (hw _ (List.mem_of_getElem? (i := 31) rfl)) (hw _ (List.mem_of_getElem? (i := 2) rfl)) (by decide) (by decide)) q213a q213c (g := (mkF m 179 #[.val (.int p1), .val (.int p2), .val (.int p3), .val (.int (p1 &&& (63 : Int32))), .val (.int (p2 &&& (63 : Int32))), .val (.int (p3 &&& (63 : Int32))), .val (.ref b1), .val (.ref x13), .val (.ref x13), .val (.ref x13), .unset] [(.int (p3 &&& (63 : Int32))), (.ref b1)])) rfl (by rw [hml]; rfl) (Steps.refl _) (argsL := [(.int (p3 &&& (63 : Int32)))]) (rest := []) (lenOf pd_2 rfl) rfl (by show 2 * 0 + _ ≤ _; exact Nat.le_of_eq rfl) (hb hby at_179) (fun _ _ => ⟨rfl, hq190, (by decide : 2 + 0 ≤ _), (by decide : 68 + 0 ≤ _)⟩)
        dsimp only [Pt.U, Pt.locs, Pt.cells, Pt.slots] at X213 l213 y213 z213 st213 hQ213
        subst l213 y213 z213
        obtain ⟨rfl, N213q, hq214⟩ := hQ213
        have N213 := Fr.app N189 N213q
        have pre215 := fun (t : State) (k : Steps p.tables e below (T213.setTop (mkF m 211 #[.val (.int p1), .val (.int p2), .val (.int p3), .val (.int (p1 &&& (63 : Int32))), .val (.int (p2 &&& (63 : Int32))), .val (.int (p3 &&& (63 : Int32))), .val (.ref b1), .val (.ref x13), .val (.ref x13), .val (.ref x13), .val (.ref x13)] [(.int (1 : Int32))])) t) => pre191 t (by
          refine XS.aload X189.here hx rfl (hb hby at_175) rfl rfl ?_
          show Steps p.tables e below (T189.setTop (mkF m 177 #[.val (.int p1), .val (.int p2), .val (.int p3), .val (.int (p1 &&& (63 : Int32))), .val (.int (p2 &&& (63 : Int32))), .val (.int (p3 &&& (63 : Int32))), .val (.ref b1), .val (.ref x13), .val (.ref x13), .val (.ref x13), .unset] [(.ref b1)])) _
          refine XS.iload X189.here hx rfl (hb hby at_177) rfl ?_
          show Steps p.tables e below (T189.setTop (mkF m 179 #[.val (.int p1), .val (.int p2), .val (.int p3), .val (.int (p1 &&& (63 : Int32))), .val (.int (p2 &&& (63 : Int32))), .val (.int (p3 &&& (63 : Int32))), .val (.ref b1), .val (.ref x13), .val (.ref x13), .val (.ref x13), .unset] [(.int (p3 &&& (63 : Int32))), (.ref b1)])) _
          refine st213.trans ?_
          show Steps p.tables e below (T213.setTop (mkF m 182 #[.val (.int p1), .val (.int p2), .val (.int p3), .val (.int (p1 &&& (63 : Int32))), .val (.int (p2 &&& (63 : Int32))), .val (.int (p3 &&& (63 : Int32))), .val (.ref b1), .val (.ref x13), .val (.ref x13), .val (.ref x13), .unset] [(.ref x13)])) _
          refine XS.astore X213.here hx rfl (hb hby at_182) rfl rfl (l' := #[.val (.int p1), .val (.int p2), .val (.int p3), .val (.int (p1 &&& (63 : Int32))), .val (.int (p2 &&& (63 : Int32))), .val (.int (p3 &&& (63 : Int32))), .val (.ref b1), .val (.ref x13), .val (.ref x13), .val (.ref x13), .val (.ref x13)]) rfl ?_
          show Steps p.tables e below (T213.setTop (mkF m 184 #[.val (.int p1), .val (.int p2), .val (.int p3), .val (.int (p1 &&& (63 : Int32))), .val (.int (p2 &&& (63 : Int32))), .val (.int (p3 &&& (63 : Int32))), .val (.ref b1), .val (.ref x13), .val (.ref x13), .val (.ref x13), .val (.ref x13)] [])) _
          refine XS.aload X213.here hx rfl (hb hby at_184) rfl rfl ?_
          show Steps p.tables e below (T213.setTop (mkF m 186 #[.val (.int p1), .val (.int p2), .val (.int p3), .val (.int (p1 &&& (63 : Int32))), .val (.int (p2 &&& (63 : Int32))), .val (.int (p3 &&& (63 : Int32))), .val (.ref b1), .val (.ref x13), .val (.ref x13), .val (.ref x13), .val (.ref x13)] [(.ref x13)])) _
          refine XS.ifnonnullYes X213.here hx rfl (pc0 := 186) (pc' := 191) rfl (hb hby at_186) rfl (by decide) (by decide) ?_
          show Steps p.tables e below (T213.setTop (mkF m 191 #[.val (.int p1), .val (.int p2), .val (.int p3), .val (.int (p1 &&& (63 : Int32))), .val (.int (p2 &&& (63 : Int32))), .val (.int (p3 &&& (63 : Int32))), .val (.ref b1), .val (.ref x13), .val (.ref x13), .val (.ref x13), .val (.ref x13)] [])) _
          refine XS.iload X213.here hx rfl (hb hby at_191) rfl ?_
          show Steps p.tables e below (T213.setTop (mkF m 193 #[.val (.int p1), .val (.int p2), .val (.int p3), .val (.int (p1 &&& (63 : Int32))), .val (.int (p2 &&& (63 : Int32))), .val (.int (p3 &&& (63 : Int32))), .val (.ref b1), .val (.ref x13), .val (.ref x13), .val (.ref x13), .val (.ref x13)] [(.int (p3 &&& (63 : Int32)))])) _
          refine XS.aload X213.here hx rfl (hb hby at_193) rfl rfl ?_
          show Steps p.tables e below (T213.setTop (mkF m 195 #[.val (.int p1), .val (.int p2), .val (.int p3), .val (.int (p1 &&& (63 : Int32))), .val (.int (p2 &&& (63 : Int32))), .val (.int (p3 &&& (63 : Int32))), .val (.ref b1), .val (.ref x13), .val (.ref x13), .val (.ref x13), .val (.ref x13)] [(.ref x13), (.int (p3 &&& (63 : Int32)))])) _
          refine X213.arraylength hx (by rw [hq214]; exact R20.1) (State.isArrayOf_alike hZ.alike R20.2.1) (g := (mkF m 195 #[.val (.int p1), .val (.int p2), .val (.int p3), .val (.int (p1 &&& (63 : Int32))), .val (.int (p2 &&& (63 : Int32))), .val (.int (p3 &&& (63 : Int32))), .val (.ref b1), .val (.ref x13), .val (.ref x13), .val (.ref x13), .val (.ref x13)] [(.ref x13), (.int (p3 &&& (63 : Int32)))])) rfl rfl (hb hby at_195) _ ?_
          rw [show (newA x14 .int (p1 &&& (63 : Int32))).slots.size.toInt32 = (p1 &&& (63 : Int32)) from (len_of (show (newA x14 .int (p1 &&& (63 : Int32))).slots.size = (p1 &&& (63 : Int32)).toNatClampNeg from (by simp only [sz_set, sz_new])) (own_63 p1).1)]
          show Steps p.tables e below (T213.setTop (mkF m 196 #[.val (.int p1), .val (.int p2), .val (.int p3), .val (.int (p1 &&& (63 : Int32))), .val (.int (p2 &&& (63 : Int32))), .val (.int (p3 &&& (63 : Int32))), .val (.ref b1), .val (.ref x13), .val (.ref x13), .val (.ref x13), .val (.ref x13)] [(.int (p1 &&& (63 : Int32))), (.int (p3 &&& (63 : Int32)))])) _
          refine XS.icmpNo X213.here hx rfl (hb hby at_196) rfl (flt hs192).2.2.1 ?_
          show Steps p.tables e below (T213.setTop (mkF m 199 #[.val (.int p1), .val (.int p2), .val (.int p3), .val (.int (p1 &&& (63 : Int32))), .val (.int (p2 &&& (63 : Int32))), .val (.int (p3 &&& (63 : Int32))), .val (.ref b1), .val (.ref x13), .val (.ref x13), .val (.ref x13), .val (.ref x13)] [])) _
          refine XS.aload X213.here hx rfl (hb hby at_199) rfl rfl ?_
          show Steps p.tables e below (T213.setTop (mkF m 201 #[.val (.int p1), .val (.int p2), .val (.int p3), .val (.int (p1 &&& (63 : Int32))), .val (.int (p2 &&& (63 : Int32))), .val (.int (p3 &&& (63 : Int32))), .val (.ref b1), .val (.ref x13), .val (.ref x13), .val (.ref x13), .val (.ref x13)] [(.ref x13)])) _
          refine XS.aload X213.here hx rfl (hb hby at_201) rfl rfl ?_
          show Steps p.tables e below (T213.setTop (mkF m 203 #[.val (.int p1), .val (.int p2), .val (.int p3), .val (.int (p1 &&& (63 : Int32))), .val (.int (p2 &&& (63 : Int32))), .val (.int (p3 &&& (63 : Int32))), .val (.ref b1), .val (.ref x13), .val (.ref x13), .val (.ref x13), .val (.ref x13)] [(.ref x13), (.ref x13)])) _
          refine Jvm.RoadKit.acmp (g := (mkF m 203 #[.val (.int p1), .val (.int p2), .val (.int p3), .val (.int (p1 &&& (63 : Int32))), .val (.int (p2 &&& (63 : Int32))), .val (.int (p3 &&& (63 : Int32))), .val (.ref b1), .val (.ref x13), .val (.ref x13), .val (.ref x13), .val (.ref x13)] [(.ref x13), (.ref x13)])) X213 hx rfl rfl rfl (pc0 := 203) (pc' := 206) (same := true) rfl (hb hby at_203) rfl (decide_eq_true rfl) (by decide) (by decide) ?_
          show Steps p.tables e below (T213.setTop (mkF m 206 #[.val (.int p1), .val (.int p2), .val (.int p3), .val (.int (p1 &&& (63 : Int32))), .val (.int (p2 &&& (63 : Int32))), .val (.int (p3 &&& (63 : Int32))), .val (.ref b1), .val (.ref x13), .val (.ref x13), .val (.ref x13), .val (.ref x13)] [])) _
          refine XS.iconst X213.here hx rfl (hb hby at_206) ?_
          show Steps p.tables e below (T213.setTop (mkF m 207 #[.val (.int p1), .val (.int p2), .val (.int p3), .val (.int (p1 &&& (63 : Int32))), .val (.int (p2 &&& (63 : Int32))), .val (.int (p3 &&& (63 : Int32))), .val (.ref b1), .val (.ref x13), .val (.ref x13), .val (.ref x13), .val (.ref x13)] [(.int (1 : Int32))])) _
          refine XS.goto X213.here hx rfl (pc0 := 207) (pc' := 211) rfl (hb hby at_207) (by decide) (by decide) ?_
          show Steps p.tables e below (T213.setTop (mkF m 211 #[.val (.int p1), .val (.int p2), .val (.int p3), .val (.int (p1 &&& (63 : Int32))), .val (.int (p2 &&& (63 : Int32))), .val (.int (p3 &&& (63 : Int32))), .val (.ref b1), .val (.ref x13), .val (.ref x13), .val (.ref x13), .val (.ref x13)] [(.int (1 : Int32))])) _
          exact k)
        obtain ⟨fs, hr, hrun, hended, hW, hsame⟩ := X213.leave (v := some (.int (1 : Int32))) (fun h => by rw [Bd.returns] at h; cases h)
        refine ⟨_, _, pre215 _ ?_, hrun, hended, _, _, rfl, ?_, ⟨_, rfl⟩, hW, hsame.mono (by decide) (by decide)⟩
        · exact retN X213 hx (t := .boolean) Bd.returns (by simp) (hb hby at_211) hr
        · show Q_law Z p1 p2 p3 wE h0 n0 _ T213.heap _
          rw [hq214]
          exact ⟨rfl, N213, K12⟩

set_option maxRecDepth 65536 in
set_option maxHeartbeats 40000000 in
theorem comes_1 {Post : Tables → Env → Array Value → State → Outcome → State → Prop} (hpost : ∀ tb e args s v u, (limb_1_1.after args s (.returned v) u = true ∧ limb_1_2.after args s (.returned v) u = true ∧ True) → FrameEnd s (.returned v) u (Jvm.fieldLocs frame_1_writes args s ++ Jvm.arrayLocs frame_1_arrays args s ++ Jvm.staticLocs frame_1_statics s) 16 448 → Post tb e args s (.returned v) u) :
    ArmFor flags0 classFile x code maxLocals ret World_1 tables_1 room_1 Calls_1 rest_1 Pre_1 Post := by
  intro l hfl _ _ p e ha hc hk s m args below hf hA hF happ hP
  obtain ⟨hcalls, hrest, hpre⟩ := hP
  obtain ⟨-, -, -, hnamed, -, -, -, hat⟩ := (Spec.applies_iff hf).mp happ
  obtain ⟨hg, hn⟩ := and_e (Cond.before_iff.mp (show (Jvm.Cond.and given_1 narrow_1).before args s = true from hpre))
  obtain ⟨g1, g2⟩ := and_e hg
  obtain ⟨g3, g4⟩ := and_e g2
  obtain ⟨g5, g6⟩ := and_e g4
  obtain ⟨w0, w1, w2, rfl⟩ : ∃ w0 w1 w2 : Value, args = #[w0, w1, w2] := by
    have hs : args.size = 3 := by simpa [Cond.value, given_1] using g1
    obtain ⟨L⟩ := args
    match L, hs with
    | [w0, w1, w2], _ => exact ⟨w0, w1, w2, rfl⟩
  have hw := fun d (hd : d ∈ tables_1) => atoms_spec (ws := Jvm.Cond.code x code maxLocals ret :: tables_1) hat d (List.mem_cons_of_mem _ hd)
  have hfit : Fit s := fun {y c} hc i hi => by
    obtain ⟨ha, rfl⟩ := Array.getElem?_eq_some_iff.mp hc
    have q := List.all_eq_true.mp ((Array.all_eq_true_iff_forall_mem.mp hF) _ (Array.getElem_mem ha)) i (List.mem_range.mpr hi)
    simpa [Array.getElem?_eq_getElem hi] using q
  obtain ⟨hsets, hown0⟩ := atoms_of _ (rest_1_c_eq ▸ (show rest_1_c.before _ s = true from hrest))
  have hr0 := Cond.before_iff.mp hown0
  obtain ⟨i0, ei0⟩ := is_v g3
  obtain rfl : w0 = (.int i0) := Option.some.inj ei0
  obtain ⟨i1, ei1⟩ := is_v g5
  obtain rfl : w1 = (.int i1) := Option.some.inj ei1
  obtain ⟨i2, ei2⟩ := is_v g6
  obtain rfl : w2 = (.int i2) := Option.some.inj ei2
  obtain ⟨z_ImmutableCollections_EMPTY_LIST, ez_ImmutableCollections_EMPTY_LIST⟩ := exa_v (Cond.before_iff.mp (hsets _ (List.mem_of_getElem? (i := 2) rfl)))
  have S_z_ImmutableCollections_EMPTY_LIST := Sta.start (Z := s) ez_ImmutableCollections_EMPTY_LIST (Or.inl (hsets _ (List.mem_of_getElem? (i := 1) rfl)))
  have E_z_ImmutableCollections_EMPTY_LIST := Exa.start ez_ImmutableCollections_EMPTY_LIST (Cond.before_iff.mp (hsets _ (List.mem_of_getElem? (i := 2) rfl)))
  have F_z_ImmutableCollections_EMPTY_LIST_allowNulls := own_fld_eq ez_ImmutableCollections_EMPTY_LIST (Cond.before_iff.mp (hsets _ (List.mem_of_getElem? (i := 6) rfl)))
  obtain ⟨n, o, h1, h2, h3, _, L, rfl, ⟨rfl, N, -⟩, hq⟩ := rm_law l s _ hw tables_1 i0 i1 i2 z_ImmutableCollections_EMPTY_LIST s.heap s.heap.size (Nat.le_refl _) S_z_ImmutableCollections_EMPTY_LIST p e ha hc hk s m _ below hf ((Spec.applies_iff_loose hf).mp happ).1 ⟨rfl, State.Warmed39.refl s, rfl⟩ trivial
  refine ⟨n, _, h1, h2, h3, hpost _ _ _ _ _ _ ⟨Cond.after_iff.mpr rfl, Cond.after_iff.mpr (eq_i res_at (Term.int_eval (1)) rfl), trivial⟩ ⟨hq.1, hq.2.1, (hq.2.2.sift fun y hy => Or.inr (N y hy)).mono (by decide) (by decide)⟩⟩
theorem main_1_1 : Claimed_1_1 := comes_1 fun _ _ _ _ _ _ h hF => ⟨h.1, hF⟩
theorem main_1_2 : Claimed_1_2 := comes_1 fun _ _ _ _ _ _ h hF => ⟨h.2.1, hF⟩
end Jvm.Pilot.@@N@@
namespace Jvm.Pilot.@@N@@
open Jvm Jvm.ClassFile Sem Op Lib Jvm.Free Jvm.Stand Jvm.Pilot.@@N@@.Jvm.D
/-! MADE BY PROGRAM (witnessworld.py) out of the Statement's table words and the real class files: 22 classes; the members and pool entries that the words name. The judged class is class 1, her method 1. -/
namespace start1
open Jvm.ClassFile
def u (s : String) : CpInfo := .utf8 (stringToUtf16 s)
/-- a pool by its gaps: so many unusable entries, then the entry; so many at the end -/
def gap : Nat → List CpInfo → List CpInfo
  | 0, r => r
  | n + 1, r => .unusable :: gap n r
def poolList (es : List (Nat × CpInfo)) (last : Nat) : List CpInfo := es.foldr (fun e r => gap e.1 (e.2 :: r)) (gap last [])
def pool (es : List (Nat × CpInfo)) (last : Nat) : Array CpInfo := ⟨poolList es last⟩
def fileOf (pool : Array CpInfo) (this : Nat) (attrs : Array Attribute := #[]) (ms : Array MethodInfo := #[]) (fl : Nat := 33) (sup : Nat := 0) (ifs : Array Nat := #[]) (fds : Array FieldInfo := #[]) : ClassFile where
  minorVersion := 0
  majorVersion := 65
  constantPool := pool
  accessFlags := fl
  thisClass := this
  superClass := sup
  interfaces := ifs
  fields := fds
  methods := ms
  attributes := attrs
def plain (name : String) (sup : Option ClassId) : Class where
  name := name
  kind := .ordinary
  loader := none
  accessFlags := 33
  super := sup
  interfaces := #[]
  cf := none
  fields := #[]
  methods := #[]
  instanceTypes := #[]
  staticTypes := #[]
  resolved := #[]
  callSites := []
  init := .initialized
  statics := none
  mirror := none

def pool0 : Array CpInfo := pool [(5, u "<init>"), (0, u "()V"), (1, .class_ 10), (1, u "java/lang/Object")] 113

def k0c0 : Code := { maxStack := 0, maxLocals := 1, code := object_method_1_code, exceptionTable := #[], attributes := #[] }
def k0m0 : Method := { name := "<init>", desc := "()V", sig := { parameters := [], returnType := none }, accessFlags := 1, code := some k0c0 }
/-- java/lang/Object -/
def k0 : Class := { plain "java/lang/Object" none with
  accessFlags := 33
  interfaces := #[]
  cf := some (fileOf pool0 8 #[] #[{ accessFlags := 1, nameIndex := 5, descriptorIndex := 6, attributes := #[] }] 33 0 #[] #[])
  fields := #[]
  methods := #[k0m0]
  instanceTypes := #[]
  staticTypes := #[]
  resolved := Array.replicate 124 none
  statics := none }

def pool1 : Array CpInfo := pool [(2, .class_ 4), (0, .nameAndType 5 6), (0, u "java/lang/Object"), (0, u "<init>"), (0, u "()V"), (0, .class_ 8), (0, u "com/example/granulock/granulock/ResourceTree$Ledger"), (0, .methodref 7 3), (0, .methodref 7 11), (0, .nameAndType 12 13), (0, u "modes"), (0, u "(I)[I"), (0, .class_ 15), (0, u "com/example/granulock/granulock/LedgerModesPinLaw"), (2, u "law"), (0, u "(III)Z")] 9

def k1m0 : Method := { name := "<init>", desc := "()V", sig := { parameters := [], returnType := none }, accessFlags := 1, code := none }
def k1c1 : Code := { maxStack := 3, maxLocals := 11, code := code, exceptionTable := #[], attributes := #[] }
def k1m1 : Method := { name := "law", desc := "(III)Z", sig := { parameters := [.int, .int, .int], returnType := some .boolean }, accessFlags := 9, code := some k1c1 }
/-- com/example/granulock/granulock/LedgerModesPinLaw -/
def k1 : Class := { plain "com/example/granulock/granulock/LedgerModesPinLaw" (some 0) with
  accessFlags := 49
  interfaces := #[]
  cf := some (fileOf pool1 14 #[] #[{ accessFlags := 1, nameIndex := 5, descriptorIndex := 6, attributes := #[] }, { accessFlags := 9, nameIndex := 18, descriptorIndex := 19, attributes := #[] }] 49 2 #[] #[])
  fields := #[]
  methods := #[k1m0, k1m1]
  instanceTypes := #[]
  staticTypes := #[]
  resolved := Array.replicate 29 none
  statics := none }

def pool2 : Array CpInfo := pool [(1, .methodref 2 3), (0, .class_ 4), (0, .nameAndType 5 6), (0, u "java/lang/Object"), (0, u "<init>"), (0, u "()V"), (1, .class_ 10), (1, u "com/example/granulock/granulock/Latch"), (8, u "WORD"), (0, u "Ljava/lang/invoke/VarHandle;"), (54, u "word"), (10, u "SPINS"), (0, u "I")] 14

def k2c0 : Code := { maxStack := 1, maxLocals := 1, code := prog_13_method_1_code, exceptionTable := #[], attributes := #[] }
def k2m0 : Method := { name := "<init>", desc := "()V", sig := { parameters := [], returnType := none }, accessFlags := 0, code := some k2c0 }
/-- com/example/granulock/granulock/Latch -/
def k2 : Class := { plain "com/example/granulock/granulock/Latch" (some 0) with
  accessFlags := 32
  interfaces := #[]
  cf := some (fileOf pool2 8 #[] #[{ accessFlags := 0, nameIndex := 5, descriptorIndex := 6, attributes := #[] }] 32 2 #[] #[{ accessFlags := 26, nameIndex := 86, descriptorIndex := 87, attributes := #[] }, { accessFlags := 26, nameIndex := 19, descriptorIndex := 20, attributes := #[] }, { accessFlags := 2, nameIndex := 75, descriptorIndex := 87, attributes := #[] }])
  fields := #[{ name := "SPINS", type := .int, accessFlags := 26, slot := 0, constantValue := 0 }, { name := "WORD", type := (.object "java/lang/invoke/VarHandle"), accessFlags := 26, slot := 1, constantValue := 0 }, { name := "word", type := .int, accessFlags := 2, slot := 0, constantValue := 0 }]
  methods := #[k2m0]
  instanceTypes := #[.int]
  staticTypes := #[.int, (.object "java/lang/invoke/VarHandle")]
  resolved := Array.replicate 102 none
  statics := none }

def pool3 : Array CpInfo := pool [(1, .methodref 2 3), (0, .class_ 4), (0, .nameAndType 5 6), (0, u "com/example/granulock/granulock/Latch"), (0, u "<init>"), (0, u "()V"), (0, .class_ 8), (0, u "com/example/granulock/granulock/LatchedEntries$Entry"), (0, u "dropped"), (0, u "Z"), (7, .class_ 19), (0, u "com/example/granulock/granulock/LatchedEntries")] 2

def k3c0 : Code := { maxStack := 1, maxLocals := 1, code := prog_15_method_1_code, exceptionTable := #[], attributes := #[] }
def k3m0 : Method := { name := "<init>", desc := "()V", sig := { parameters := [], returnType := none }, accessFlags := 0, code := some k3c0 }
/-- com/example/granulock/granulock/LatchedEntries$Entry -/
def k3 : Class := { plain "com/example/granulock/granulock/LatchedEntries$Entry" (some 2) with
  accessFlags := 1056
  interfaces := #[]
  cf := some (fileOf pool3 7 #[.nestHost 18] #[{ accessFlags := 0, nameIndex := 5, descriptorIndex := 6, attributes := #[] }] 1056 2 #[] #[{ accessFlags := 0, nameIndex := 9, descriptorIndex := 10, attributes := #[] }])
  fields := #[{ name := "dropped", type := .boolean, accessFlags := 0, slot := 1, constantValue := 0 }]
  methods := #[k3m0]
  instanceTypes := #[.int, .boolean]
  staticTypes := #[]
  resolved := Array.replicate 22 none
  statics := none }

def pool4 : Array CpInfo := pool [(1, .methodref 2 3), (0, .class_ 4), (0, .nameAndType 5 6), (0, u "com/example/granulock/granulock/LatchedEntries$Entry"), (0, u "<init>"), (0, u "()V"), (0, .interfaceMethodref 8 9), (0, .class_ 10), (0, .nameAndType 11 12), (0, u "java/util/List"), (0, u "of"), (0, u "()Ljava/util/List;"), (0, .fieldref 14 15), (0, .class_ 16), (0, .nameAndType 17 18), (0, u "com/example/granulock/granulock/ResourceTree$Ledger"), (0, u "underway"), (0, u "Ljava/util/List;"), (15, u "held"), (0, u "[Lcom/example/granulock/granulock/Resource$Holder;"), (2, .fieldref 14 39), (0, .nameAndType 40 41), (0, u "modes"), (0, u "[I"), (8, u "(I)[I"), (3, .class_ 55), (0, u "com/example/granulock/granulock/ResourceTree")] 11

def k4c0 : Code := { maxStack := 2, maxLocals := 1, code := prog_43_method_1_code, exceptionTable := #[], attributes := #[] }
def k4m0 : Method := { name := "<init>", desc := "()V", sig := { parameters := [], returnType := none }, accessFlags := 0, code := some k4c0 }
def k4c1 : Code := { maxStack := 2, maxLocals := 2, code := prog_43_method_4_code, exceptionTable := #[], attributes := #[] }
def k4m1 : Method := { name := "modes", desc := "(I)[I", sig := { parameters := [.int], returnType := some (.array .int) }, accessFlags := 0, code := some k4c1 }
/-- com/example/granulock/granulock/ResourceTree$Ledger -/
def k4 : Class := { plain "com/example/granulock/granulock/ResourceTree$Ledger" (some 3) with
  accessFlags := 32
  interfaces := #[]
  cf := some (fileOf pool4 14 #[.nestHost 54] #[{ accessFlags := 0, nameIndex := 5, descriptorIndex := 6, attributes := #[] }, { accessFlags := 0, nameIndex := 40, descriptorIndex := 50, attributes := #[] }] 32 2 #[] #[{ accessFlags := 0, nameIndex := 17, descriptorIndex := 18, attributes := #[] }, { accessFlags := 2, nameIndex := 34, descriptorIndex := 35, attributes := #[] }, { accessFlags := 2, nameIndex := 40, descriptorIndex := 41, attributes := #[] }])
  fields := #[{ name := "underway", type := (.object "java/util/List"), accessFlags := 0, slot := 2, constantValue := 0 }, { name := "held", type := (.array (.object "com/example/granulock/granulock/Resource$Holder")), accessFlags := 2, slot := 3, constantValue := 0 }, { name := "modes", type := (.array .int), accessFlags := 2, slot := 4, constantValue := 0 }]
  methods := #[k4m0, k4m1]
  instanceTypes := #[.int, .boolean, (.object "java/util/List"), (.array (.object "com/example/granulock/granulock/Resource$Holder")), (.array .int)]
  staticTypes := #[]
  resolved := Array.replicate 67 none
  statics := none }

def pool5 : Array CpInfo := pool [(8, .class_ 10), (1, u "java/lang/Iterable"), (24, .class_ 36), (0, u "java/lang/Object")] 25

/-- java/lang/Iterable -/
def k5 : Class := { plain "java/lang/Iterable" (some 0) with
  accessFlags := 1537
  interfaces := #[]
  cf := some (fileOf pool5 8 #[] #[] 1537 35 #[] #[])
  fields := #[]
  methods := #[]
  instanceTypes := #[]
  staticTypes := #[]
  resolved := Array.replicate 62 none
  statics := none }

def pool6 : Array CpInfo := pool [(10, .class_ 12), (1, u "java/util/Collection"), (47, .class_ 61), (0, u "java/lang/Object"), (0, .class_ 63), (0, u "java/lang/Iterable")] 51

/-- java/util/Collection -/
def k6 : Class := { plain "java/util/Collection" (some 0) with
  accessFlags := 1537
  interfaces := #[5]
  cf := some (fileOf pool6 10 #[] #[] 1537 60 #[62] #[])
  fields := #[]
  methods := #[]
  instanceTypes := #[]
  staticTypes := #[]
  resolved := Array.replicate 115 none
  statics := none }

def pool7 : Array CpInfo := pool [(8, .class_ 10), (1, u "java/util/SequencedCollection"), (15, .class_ 27), (0, u "java/lang/Object"), (0, .class_ 29), (0, u "java/util/Collection")] 27

/-- java/util/SequencedCollection -/
def k7 : Class := { plain "java/util/SequencedCollection" (some 0) with
  accessFlags := 1537
  interfaces := #[6]
  cf := some (fileOf pool7 8 #[] #[] 1537 26 #[28] #[])
  fields := #[]
  methods := #[]
  instanceTypes := #[]
  staticTypes := #[]
  resolved := Array.replicate 57 none
  statics := none }

def pool8 : Array CpInfo := pool [(8, .class_ 10), (1, u "java/util/List"), (77, u "of"), (1, .fieldref 91 92), (0, .class_ 93), (0, .nameAndType 94 95), (0, u "java/util/ImmutableCollections"), (0, u "EMPTY_LIST"), (0, u "Ljava/util/ImmutableCollections$ListN;"), (7, .class_ 104), (0, u "java/lang/Object"), (14, u "()Ljava/util/List;"), (0, .class_ 121), (0, u "java/util/SequencedCollection")] 129

def k8c0 : Code := { maxStack := 1, maxLocals := 0, code := jdk_40_method_36_code, exceptionTable := #[], attributes := #[] }
def k8m0 : Method := { name := "of", desc := "()Ljava/util/List;", sig := { parameters := [], returnType := some (.object "java/util/List") }, accessFlags := 9, code := some k8c0 }
/-- java/util/List -/
def k8 : Class := { plain "java/util/List" (some 0) with
  accessFlags := 1537
  interfaces := #[7]
  cf := some (fileOf pool8 8 #[] #[{ accessFlags := 9, nameIndex := 88, descriptorIndex := 119, attributes := #[] }] 1537 103 #[120] #[])
  fields := #[]
  methods := #[k8m0]
  instanceTypes := #[]
  staticTypes := #[]
  resolved := Array.replicate 251 none
  statics := none }

def pool9 : Array CpInfo := pool [(2, .class_ 4), (1, u "java/lang/Object"), (0, u "<init>"), (0, u "()V"), (3, .class_ 11), (0, u "java/util/ImmutableCollections$List12"), (0, .class_ 13), (0, u "java/util/ImmutableCollections$ListN"), (3, u "Z"), (29, .class_ 49), (1, u "java/util/ImmutableCollections"), (0, u "$assertionsDisabled"), (5, u "[Ljava/lang/Object;"), (5, u "EMPTY_LIST"), (0, u "Ljava/util/ImmutableCollections$ListN;"), (8, u "EMPTY_LIST_NULLS"), (22, u "SALT32L"), (0, u "J"), (2, u "REVERSE"), (6, u "archivedObjects"), (2, u "EMPTY"), (0, u "Ljava/lang/Object;"), (0, .class_ 112), (0, u "java/util/ImmutableCollections$SetN"), (5, u "EMPTY_SET"), (0, u "Ljava/util/ImmutableCollections$SetN;"), (0, .class_ 121), (0, u "java/util/ImmutableCollections$MapN"), (3, u "EMPTY_MAP"), (0, u "Ljava/util/ImmutableCollections$MapN;"), (4, u "EXPAND_FACTOR"), (0, u "I"), (36, .class_ 170), (0, u "java/util/ImmutableCollections$MapN$MapNIterator"), (0, .class_ 172), (0, u "java/util/ImmutableCollections$MapN$1"), (0, .class_ 174), (0, u "java/util/ImmutableCollections$Map1"), (0, .class_ 176), (0, u "java/util/ImmutableCollections$AbstractImmutableMap"), (0, .class_ 178), (0, u "java/util/ImmutableCollections$SetN$SetNIterator"), (0, .class_ 180), (0, u "java/util/ImmutableCollections$Set12"), (0, .class_ 182), (0, u "java/util/ImmutableCollections$Set12$1"), (0, .class_ 184), (0, u "java/util/ImmutableCollections$AbstractImmutableSet"), (0, .class_ 186), (0, u "java/util/ImmutableCollections$SubList"), (0, .class_ 188), (0, u "java/util/ImmutableCollections$ListItr"), (0, .class_ 190), (0, u "java/util/ImmutableCollections$AbstractImmutableList"), (0, .class_ 192), (0, u "java/util/ImmutableCollections$AbstractImmutableCollection"), (0, .class_ 194), (0, u "java/util/ImmutableCollections$Access"), (0, .class_ 196), (0, u "java/util/ImmutableCollections$Access$1")] 16

def k9m0 : Method := { name := "<init>", desc := "()V", sig := { parameters := [], returnType := none }, accessFlags := 2, code := none }
/-- java/util/ImmutableCollections -/
def k9 : Class := { plain "java/util/ImmutableCollections" (some 0) with
  accessFlags := 32
  interfaces := #[]
  cf := some (fileOf pool9 47 #[.nestMembers #[120, 169, 171, 173, 175, 111, 177, 179, 181, 183, 12, 10, 185, 187, 189, 191, 193, 195]] #[{ accessFlags := 2, nameIndex := 5, descriptorIndex := 6, attributes := #[] }] 32 2 #[] #[{ accessFlags := 26, nameIndex := 95, descriptorIndex := 96, attributes := #[] }, { accessFlags := 26, nameIndex := 99, descriptorIndex := 17, attributes := #[] }, { accessFlags := 10, nameIndex := 106, descriptorIndex := 56, attributes := #[] }, { accessFlags := 26, nameIndex := 109, descriptorIndex := 110, attributes := #[] }, { accessFlags := 24, nameIndex := 62, descriptorIndex := 63, attributes := #[] }, { accessFlags := 24, nameIndex := 72, descriptorIndex := 63, attributes := #[] }, { accessFlags := 24, nameIndex := 118, descriptorIndex := 119, attributes := #[] }, { accessFlags := 24, nameIndex := 125, descriptorIndex := 126, attributes := #[] }, { accessFlags := 24, nameIndex := 131, descriptorIndex := 132, attributes := #[] }, { accessFlags := 4120, nameIndex := 50, descriptorIndex := 17, attributes := #[] }])
  fields := #[{ name := "SALT32L", type := .long, accessFlags := 26, slot := 0, constantValue := 0 }, { name := "REVERSE", type := .boolean, accessFlags := 26, slot := 1, constantValue := 0 }, { name := "archivedObjects", type := (.array (.object "java/lang/Object")), accessFlags := 10, slot := 2, constantValue := 0 }, { name := "EMPTY", type := (.object "java/lang/Object"), accessFlags := 26, slot := 3, constantValue := 0 }, { name := "EMPTY_LIST", type := (.object "java/util/ImmutableCollections$ListN"), accessFlags := 24, slot := 4, constantValue := 0 }, { name := "EMPTY_LIST_NULLS", type := (.object "java/util/ImmutableCollections$ListN"), accessFlags := 24, slot := 5, constantValue := 0 }, { name := "EMPTY_SET", type := (.object "java/util/ImmutableCollections$SetN"), accessFlags := 24, slot := 6, constantValue := 0 }, { name := "EMPTY_MAP", type := (.object "java/util/ImmutableCollections$MapN"), accessFlags := 24, slot := 7, constantValue := 0 }, { name := "EXPAND_FACTOR", type := .int, accessFlags := 24, slot := 8, constantValue := 0 }, { name := "$assertionsDisabled", type := .boolean, accessFlags := 4120, slot := 9, constantValue := 0 }]
  methods := #[k9m0]
  instanceTypes := #[]
  staticTypes := #[.long, .boolean, (.array (.object "java/lang/Object")), (.object "java/lang/Object"), (.object "java/util/ImmutableCollections$ListN"), (.object "java/util/ImmutableCollections$ListN"), (.object "java/util/ImmutableCollections$SetN"), (.object "java/util/ImmutableCollections$MapN"), .int, .boolean]
  resolved := Array.replicate 213 none
  statics := some 0 }

def pool10 : Array CpInfo := pool [(2, .class_ 4), (1, u "java/lang/Object"), (0, u "<init>"), (0, u "()V"), (1, .class_ 10), (1, u "java/util/AbstractCollection"), (66, .class_ 78), (0, u "java/util/Collection")] 81

def k10m0 : Method := { name := "<init>", desc := "()V", sig := { parameters := [], returnType := none }, accessFlags := 4, code := none }
/-- java/util/AbstractCollection -/
def k10 : Class := { plain "java/util/AbstractCollection" (some 0) with
  accessFlags := 1057
  interfaces := #[6]
  cf := some (fileOf pool10 8 #[] #[{ accessFlags := 4, nameIndex := 5, descriptorIndex := 6, attributes := #[] }] 1057 2 #[77] #[])
  fields := #[]
  methods := #[k10m0]
  instanceTypes := #[]
  staticTypes := #[]
  resolved := Array.replicate 160 none
  statics := none }

def pool11 : Array CpInfo := pool [(2, .class_ 4), (1, u "java/util/AbstractCollection"), (0, u "<init>"), (0, u "()V"), (1, .class_ 10), (1, u "java/util/ImmutableCollections"), (2, .class_ 14), (0, u "java/util/ImmutableCollections$AbstractImmutableCollection")] 41

def k11m0 : Method := { name := "<init>", desc := "()V", sig := { parameters := [], returnType := none }, accessFlags := 0, code := none }
/-- java/util/ImmutableCollections$AbstractImmutableCollection -/
def k11 : Class := { plain "java/util/ImmutableCollections$AbstractImmutableCollection" (some 10) with
  accessFlags := 1056
  interfaces := #[]
  cf := some (fileOf pool11 13 #[.nestHost 8] #[{ accessFlags := 0, nameIndex := 5, descriptorIndex := 6, attributes := #[] }] 1056 2 #[] #[])
  fields := #[]
  methods := #[k11m0]
  instanceTypes := #[]
  staticTypes := #[]
  resolved := Array.replicate 56 none
  statics := none }

def pool12 : Array CpInfo := pool [(1, .class_ 2), (0, u "java/util/RandomAccess"), (0, .class_ 4), (0, u "java/lang/Object")] 2

/-- java/util/RandomAccess -/
def k12 : Class := { plain "java/util/RandomAccess" (some 0) with
  accessFlags := 1537
  interfaces := #[]
  cf := some (fileOf pool12 1 #[] #[] 1537 3 #[] #[])
  fields := #[]
  methods := #[]
  instanceTypes := #[]
  staticTypes := #[]
  resolved := Array.replicate 7 none
  statics := none }

def pool13 : Array CpInfo := pool [(2, .class_ 4), (1, u "java/util/ImmutableCollections$AbstractImmutableCollection"), (0, u "<init>"), (0, u "()V"), (1, .class_ 10), (1, u "java/util/ImmutableCollections"), (3, .class_ 16), (1, u "java/util/ImmutableCollections$AbstractImmutableList"), (60, .class_ 78), (0, u "java/util/List"), (45, .class_ 125), (0, u "java/util/RandomAccess")] 70

def k13m0 : Method := { name := "<init>", desc := "()V", sig := { parameters := [], returnType := none }, accessFlags := 0, code := none }
/-- java/util/ImmutableCollections$AbstractImmutableList -/
def k13 : Class := { plain "java/util/ImmutableCollections$AbstractImmutableList" (some 11) with
  accessFlags := 1056
  interfaces := #[8, 12]
  cf := some (fileOf pool13 14 #[.nestHost 8] #[{ accessFlags := 0, nameIndex := 5, descriptorIndex := 6, attributes := #[] }] 1056 2 #[77, 124] #[])
  fields := #[]
  methods := #[k13m0]
  instanceTypes := #[]
  staticTypes := #[]
  resolved := Array.replicate 196 none
  statics := none }

def pool14 : Array CpInfo := pool [(1, .class_ 2), (0, u "java/io/Serializable"), (0, .class_ 4), (0, u "java/lang/Object")] 2

/-- java/io/Serializable -/
def k14 : Class := { plain "java/io/Serializable" (some 0) with
  accessFlags := 1537
  interfaces := #[]
  cf := some (fileOf pool14 1 #[] #[] 1537 3 #[] #[])
  fields := #[]
  methods := #[]
  instanceTypes := #[]
  staticTypes := #[]
  resolved := Array.replicate 7 none
  statics := none }

def pool15 : Array CpInfo := pool [(2, .class_ 4), (1, u "java/util/ImmutableCollections$AbstractImmutableList"), (3, .class_ 10), (1, u "java/util/ImmutableCollections$ListN"), (0, u "elements"), (0, u "[Ljava/lang/Object;"), (2, u "allowNulls"), (0, u "Z"), (42, .class_ 60), (0, u "java/io/Serializable"), (53, .class_ 115), (0, u "java/util/ImmutableCollections")] 3

/-- java/util/ImmutableCollections$ListN -/
def k15 : Class := { plain "java/util/ImmutableCollections$ListN" (some 13) with
  accessFlags := 48
  interfaces := #[14]
  cf := some (fileOf pool15 8 #[.nestHost 114] #[] 48 2 #[59] #[{ accessFlags := 18, nameIndex := 11, descriptorIndex := 12, attributes := #[] }, { accessFlags := 18, nameIndex := 15, descriptorIndex := 16, attributes := #[] }])
  fields := #[{ name := "elements", type := (.array (.object "java/lang/Object")), accessFlags := 18, slot := 0, constantValue := 0 }, { name := "allowNulls", type := .boolean, accessFlags := 18, slot := 1, constantValue := 0 }]
  methods := #[]
  instanceTypes := #[(.array (.object "java/lang/Object")), .boolean]
  staticTypes := #[]
  resolved := Array.replicate 119 none
  statics := none }

def pool16 : Array CpInfo := pool [(1, u "java/lang/Cloneable"), (0, .class_ 1), (0, u "java/lang/Object"), (0, .class_ 3)] 3

/-- java/lang/Cloneable -/
def k16 : Class := { plain "java/lang/Cloneable" (some 0) with
  accessFlags := 1537
  interfaces := #[]
  cf := some (fileOf pool16 2 #[] #[] 1537 4 #[] #[])
  fields := #[]
  methods := #[]
  instanceTypes := #[]
  staticTypes := #[]
  resolved := Array.replicate 8 none
  statics := none }

/-- the primitive byte -/
def k17 : Class := { plain "byte" none with kind := .primitive 'B', accessFlags := 0x411 }
/-- [B -/
def k18 : Class := { plain "[B" (some 0) with kind := .array 17 .byte, interfaces := #[16, 14], accessFlags := 1041 }

/-- the primitive int -/
def k19 : Class := { plain "int" none with kind := .primitive 'I', accessFlags := 0x411 }
/-- [I -/
def k20 : Class := { plain "[I" (some 0) with kind := .array 19 .int, interfaces := #[16, 14], accessFlags := 1041 }

/-- [Ljava/lang/Object; -/
def k21 : Class := { plain "[Ljava/lang/Object;" (some 0) with kind := .array 0 (.object "java/lang/Object"), interfaces := #[16, 14], accessFlags := 1041 }

def heap : Heap := #[{ cls := 9, slots := #[.long 0, .int 0, .null, .null, .ref 2, .null, .null, .null, .int 0, .int 0], vm := .statics 9 },
  { cls := 21, slots := #[], vm := .none },
  { cls := 15, slots := #[.ref 1, .int 0], vm := .none }]
def classes : Array Class := #[k0, k1, k2, k3, k4, k5, k6, k7, k8, k9, k10, k11, k12, k13, k14, k15, k16, k17, k18, k19, k20, k21]
def interned : List (Array UInt16 × Addr) := []
def slotsUsed : Nat := 12
def theMethod : MethodId := ⟨1, 1⟩
def args0 : Array Value := #[.int 5, .int 3, .int 9]
def aboutOver (below : List Frame) : State where
  vm := { classes := classes, interned := interned.toArray }
  heap := heap
  slotsUsed := slotsUsed
  threads := #[{ frames := .invoking theMethod args0 :: below }]
def below0 : List Frame := [.native { method := ⟨0, 0⟩, args := #[] }]
def about1 : State := aboutOver below0
def p0 : Program := .bare "" "" ""
def e0 : Env := launch0.env 0 0 0
theorem w_frames : about1.frames = Frame.invoking theMethod args0 :: below0 := rfl
set_option maxRecDepth 65536 in
theorem w_args : argsFit about1.vm theMethod args0 = true := by decide +kernel
set_option maxRecDepth 65536 in
theorem w_heap : heapFits about1 = true := by decide +kernel
set_option maxRecDepth 65536 in
theorem w_runnable : about1.curStatus? = some .runnable := by decide +kernel
set_option maxRecDepth 65536 in
theorem w_alone : about1.alone = true := by decide +kernel
set_option maxRecDepth 65536 in
theorem w_named : about1.methodNamed? x = some theMethod := by decide +kernel
set_option maxRecDepth 65536 in
theorem w_hears : about1.hears theMethod below0 = true := by decide +kernel
set_option maxRecDepth 65536 in
theorem w_ripe : about1.ripe theMethod args0 below0 = true := by decide +kernel
theorem w_running : about1.status = .running := rfl
set_option maxRecDepth 65536 in
theorem w_room : about1.hasRoom e0.platform room_1 = true :=
  launch0.hasRoom_least _ room_1 (by decide +kernel) (by decide +kernel) (by decide +kernel) (by decide +kernel) (by decide +kernel) (by decide +kernel)
theorem allAtoms_all (ts : List Jvm.Cond) (a : Array Jvm.Value) (st : Jvm.State) : (allAtoms ts).before a st = ts.all (fun c => c.before a st) := by
  induction ts with
  | nil => rfl
  | cons c t ih =>
    show (Jvm.Cond.and c (allAtoms t)).before a st = _
    rw [Jvm.Cond.before_and, ih, List.all_cons]
def words1 : List Jvm.Cond := Jvm.Cond.code x code maxLocals ret :: tables_1
/-- a 'code' word, met by the world's own term for the bytes: nothing is compared byte by byte -/
theorem code_word {y : MethodName} {bytes : ByteArray} {mx : Nat} {rt : Option FieldType} {a : Array Value} {s : State} {m : MethodId} {meth : Method} {c : Code} (h1 : s.methodNamed? y = some m) (h2 : s.vm.method? m = some meth) (h3 : meth.code = some c) (h4 : c.code = bytes)
    (h5 : (c.maxLocals == mx && c.exceptionTable.isEmpty && decide (c.maxStack ≤ mostOperands) && decide (meth.sig.returnType = rt) && !meth.locks && decide (parseMethodDescriptor y.desc = some meth.sig)) = true) : (Jvm.Cond.code y bytes mx rt).before a s = true := by
  simp only [Bool.and_eq_true, beq_iff_eq, Bool.not_eq_true', decide_eq_true_eq] at h5
  obtain ⟨⟨⟨⟨⟨g1, g2⟩, g3⟩, g4⟩, g5⟩, g6⟩ := h5
  simp [Cond.before, Cond.holds, Cond.value, h1, h2, h3, h4, g1, g2, g3, g4, g5, g6]
def isCode : Jvm.Cond → Bool
  | .code _ _ _ _ => true
  | _ => false
theorem all_split {L : List Jvm.Cond} {P : Jvm.Cond → Bool} (h1 : L.all (fun c => isCode c || P c) = true) (h2 : ∀ c ∈ L.filter isCode, P c = true) : L.all P = true := by
  refine List.all_eq_true.mpr fun c hc => ?_
  have h := List.all_eq_true.mp h1 c hc
  rcases Bool.eq_false_or_eq_true (isCode c) with hi | hi
  · exact h2 c (List.mem_filter.mpr ⟨hc, hi⟩)
  · simpa [hi] using h
set_option maxRecDepth 65536 in
theorem w_c0 : (Jvm.Cond.code x code maxLocals ret).before args0 about1 = true := code_word (m := ⟨1, 1⟩) (meth := k1m1) (c := k1c1) (by decide +kernel) rfl rfl rfl (by decide +kernel)
set_option maxRecDepth 65536 in
theorem w_c1 : (Jvm.Cond.code ({ cls := "com/example/granulock/granulock/ResourceTree$Ledger", name := "<init>", desc := "()V" } : Jvm.MethodName) prog_43_method_1_code (1 : Nat) (Option.none : Option Jvm.ClassFile.FieldType)).before args0 about1 = true := code_word (m := ⟨4, 0⟩) (meth := k4m0) (c := k4c0) (by decide +kernel) rfl rfl rfl (by decide +kernel)
set_option maxRecDepth 65536 in
theorem w_c2 : (Jvm.Cond.code ({ cls := "com/example/granulock/granulock/LatchedEntries$Entry", name := "<init>", desc := "()V" } : Jvm.MethodName) prog_15_method_1_code (1 : Nat) (Option.none : Option Jvm.ClassFile.FieldType)).before args0 about1 = true := code_word (m := ⟨3, 0⟩) (meth := k3m0) (c := k3c0) (by decide +kernel) rfl rfl rfl (by decide +kernel)
set_option maxRecDepth 65536 in
theorem w_c3 : (Jvm.Cond.code ({ cls := "com/example/granulock/granulock/Latch", name := "<init>", desc := "()V" } : Jvm.MethodName) prog_13_method_1_code (1 : Nat) (Option.none : Option Jvm.ClassFile.FieldType)).before args0 about1 = true := code_word (m := ⟨2, 0⟩) (meth := k2m0) (c := k2c0) (by decide +kernel) rfl rfl rfl (by decide +kernel)
set_option maxRecDepth 65536 in
theorem w_c4 : (Jvm.Cond.code ({ cls := "java/lang/Object", name := "<init>", desc := "()V" } : Jvm.MethodName) object_method_1_code (1 : Nat) (Option.none : Option Jvm.ClassFile.FieldType)).before args0 about1 = true := code_word (m := ⟨0, 0⟩) (meth := k0m0) (c := k0c0) (by decide +kernel) rfl rfl rfl (by decide +kernel)
set_option maxRecDepth 65536 in
theorem w_c5 : (Jvm.Cond.code ({ cls := "java/util/List", name := "of", desc := "()Ljava/util/List;" } : Jvm.MethodName) jdk_40_method_36_code (0 : Nat) (Option.some (Jvm.ClassFile.FieldType.object "java/util/List"))).before args0 about1 = true := code_word (m := ⟨8, 0⟩) (meth := k8m0) (c := k8c0) (by decide +kernel) rfl rfl rfl (by decide +kernel)
set_option maxRecDepth 65536 in
theorem w_c6 : (Jvm.Cond.code ({ cls := "com/example/granulock/granulock/ResourceTree$Ledger", name := "modes", desc := "(I)[I" } : Jvm.MethodName) prog_43_method_4_code (2 : Nat) (Option.some (Jvm.ClassFile.FieldType.array Jvm.ClassFile.FieldType.int))).before args0 about1 = true := code_word (m := ⟨4, 1⟩) (meth := k4m1) (c := k4c1) (by decide +kernel) rfl rfl rfl (by decide +kernel)
def codes1 : List Jvm.Cond := [Jvm.Cond.code x code maxLocals ret, Jvm.Cond.code ({ cls := "com/example/granulock/granulock/ResourceTree$Ledger", name := "<init>", desc := "()V" } : Jvm.MethodName) prog_43_method_1_code (1 : Nat) (Option.none : Option Jvm.ClassFile.FieldType), Jvm.Cond.code ({ cls := "com/example/granulock/granulock/LatchedEntries$Entry", name := "<init>", desc := "()V" } : Jvm.MethodName) prog_15_method_1_code (1 : Nat) (Option.none : Option Jvm.ClassFile.FieldType), Jvm.Cond.code ({ cls := "com/example/granulock/granulock/Latch", name := "<init>", desc := "()V" } : Jvm.MethodName) prog_13_method_1_code (1 : Nat) (Option.none : Option Jvm.ClassFile.FieldType), Jvm.Cond.code ({ cls := "java/lang/Object", name := "<init>", desc := "()V" } : Jvm.MethodName) object_method_1_code (1 : Nat) (Option.none : Option Jvm.ClassFile.FieldType), Jvm.Cond.code ({ cls := "java/util/List", name := "of", desc := "()Ljava/util/List;" } : Jvm.MethodName) jdk_40_method_36_code (0 : Nat) (Option.some (Jvm.ClassFile.FieldType.object "java/util/List")), Jvm.Cond.code ({ cls := "com/example/granulock/granulock/ResourceTree$Ledger", name := "modes", desc := "(I)[I" } : Jvm.MethodName) prog_43_method_4_code (2 : Nat) (Option.some (Jvm.ClassFile.FieldType.array Jvm.ClassFile.FieldType.int))]
set_option maxRecDepth 65536 in
theorem codes_eq : words1.filter isCode = codes1 := rfl
theorem w_codes : ∀ c ∈ words1.filter isCode, c.before args0 about1 = true := by
  rw [codes_eq]
  intro c hc
  simp only [codes1, List.mem_cons, List.not_mem_nil, or_false] at hc
  rcases hc with rfl | rfl | rfl | rfl | rfl | rfl | rfl
  · exact w_c0
  · exact w_c1
  · exact w_c2
  · exact w_c3
  · exact w_c4
  · exact w_c5
  · exact w_c6
set_option maxRecDepth 65536 in
theorem w_t1 : (words1.take 24).all (fun c => isCode c || c.before args0 about1) = true := by decide +kernel
set_option maxRecDepth 65536 in
theorem w_t2 : (words1.drop 24).all (fun c => isCode c || c.before args0 about1) = true := by decide +kernel
theorem w_tables : (allAtoms (Jvm.Cond.code x code maxLocals ret :: tables_1)).before args0 about1 = true := by
  rw [allAtoms_all]
  show words1.all (fun c => c.before args0 about1) = true
  refine all_split ?_ w_codes
  rw [← List.take_append_drop 24 words1, List.all_append, w_t1, w_t2]
  rfl
set_option maxRecDepth 65536 in
theorem w_rest : rest_1_c.before args0 about1 = true := by decide +kernel
set_option maxRecDepth 65536 in
theorem w_case : (Jvm.Cond.and given_1 narrow_1).before args0 about1 = true := by decide +kernel
theorem w_applies : (headSpec (Jvm.Cond.code x code maxLocals ret :: tables_1) room_1).applies x e0.platform about1 = true :=
  (Spec.applies_iff w_frames).mpr ⟨w_running, w_runnable, w_alone, w_named, w_hears, w_ripe, w_room, w_tables⟩
theorem atStart : AtStart classFile x code maxLocals ret World_1 tables_1 room_1 Calls_1 rest_1 Pre_1 launch0 p0 e0 about1 theMethod args0 below0 :=
  ⟨lists_1, trivial, launch0.admits_env _ _ _, launch0.least_env, fairChoices_fair.cas, fairChoices_fair.clock, w_frames, w_args, w_heap, w_applies, trivial, w_rest, w_case⟩
end start1
theorem witness_1 : WitnessClaimed_1 := ⟨start1.p0, start1.e0, start1.about1, start1.theMethod, start1.args0, start1.below0, start1.atStart⟩
end Jvm.Pilot.@@N@@
