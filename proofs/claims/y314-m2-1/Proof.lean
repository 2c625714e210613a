import JvmDerived
import JvmDerived.Pilot.@@N@@Statement
import JvmDerived.Pilot.@@N@@Code
set_option linter.unusedVariables false
set_option linter.unusedSimpArgs false
namespace Jvm.RoadKit
open Sem ClassFile Op Lib Jvm.Stand Jvm.Free Jvm.LawKit
section New
variable {p : Program} {l : Launch} {e : Env} {R : Room} {s : State} {m : MethodId} {args : Array Value} {below : List Frame} {meth : Method} {c : Code} {T : State} {locs : List Loc} {cells slots : Nat}
theorem retI (X : Stand p l e R s m args below meth c T locs cells slots) (hx : p.tables.exec = Jvm.exec) {pc : Nat} {Ls : Array Slot} {z : Int32} {rest : List Value} (hret : meth.sig.returnType = some .int) (hd : decode c.code pc = .ok (.ireturn, 1)) {fs : List Frame}
    (hl : ∀ (f : JFrame) (acts : List Action), f.method = m → f.locked = none → f.entered = [] → (doReturn e (T.setTop f) acts (some (.int z))).1 = T.setFrames fs) : Steps p.tables e below (T.setTop (mkF m pc Ls (.int z :: rest))) (T.setFrames fs) := by
  have hm' : T.vm.method? m = some meth := X.method'
  have hn : narrow .int (.int z) = .int z := rfl
  show Steps p.tables e below (T.setTop { method := m, pc := pc, locals := Ls, stack := _ :: rest, locked := none }) _
  jvm_step X.here [X.here.top, hx, hd, hm', hret, hn]
  first | (intro acts; rw [hl _ acts rfl rfl rfl]) | rw [hl _ _ rfl rfl rfl]
  exact Steps.refl _
end New
end Jvm.RoadKit
namespace Jvm.Pilot.@@N@@
open Jvm Jvm.ClassFile Sem Op Lib Jvm.Free Jvm.Stand Jvm.LawKit Jvm.RoadKit Bundle Jvm.Pilot.@@N@@.Jvm.D
def own_irem (x y : Int32) : Int32 := x - (x / y) * y
theorem own_irem_mod (x y : Int32) : own_irem x y = x % y := by
  unfold own_irem
  apply Int32.toInt_inj.mp
  have h1 := Int32.le_toInt (x % y)
  have h2 := Int32.toInt_lt (x % y)
  rw [Int32.toInt_sub, Int32.toInt_mul, Int32.toInt_div, Int.bmod_mul_bmod, Int.sub_bmod_bmod, Int.mul_comm (x.toInt.tdiv y.toInt), ← Int.tmod_def, ← Int32.toInt_mod]
  exact Int.bmod_eq_of_le_mul_two (by omega) (by omega)
theorem own_fld_eq {args : Array Value} {s : State} {t : Term} {C n d : String} {w : Addr} {k : Int32} (ht : t.eval args s none [] s = some (.ref w)) (h : (Jvm.Cond.eq (Term.field t C n d) (Term.int k)).value args s none s [] = some true) : Fld s s.heap w C n d (.int k) := by
  obtain ⟨x, y, ha, hb, -, -⟩ := cmp_v (Or.inl h)
  have hy : y = .int k := (Option.some.inj ((Term.int_eval k).symm.trans hb)).symm
  subst hy
  have hx : x = .int k := by
    cases x <;> simp [Cond.value, ha, hb] at h ⊢
    exact h
  subst hx
  exact Fld.start (by rw [← fld_at ht]; exact ha)
theorem own_fld_ref {args : Array Value} {s : State} {t u : Term} {C n d : String} {w : Addr} {k : Addr} (ht : t.eval args s none [] s = some (.ref w)) (hu : u.eval args s none [] s = some (.ref k)) (h : (Jvm.Cond.eq (Term.field t C n d) u).value args s none s [] = some true) : Fld s s.heap w C n d (.ref k) := by
  obtain ⟨x, y, ha, hb, -, -⟩ := cmp_v (Or.inl h)
  cases hu.symm.trans hb
  have hx : x = .ref k := by
    cases x <;> simp [Cond.value, ha, hb] at h ⊢
    exact h
  subst hx
  exact Fld.start (by rw [← fld_at ht]; exact ha)
theorem own_sel_priv {s : State} {args : Array Value} {y z : MethodName} (hsel : (Jvm.Cond.selects z.cls z z).before args s = true) (hz : z.cls = y.cls) (hpriv : (Jvm.Cond.privateMethod y).before args s = true) (hinst : (Jvm.Cond.instanceMethod y).before args s = true) (hy : y.cls ≠ "java/lang/invoke/MethodHandle" ∧ y.cls ≠ "java/lang/invoke/VarHandle") : (Jvm.Cond.selects y.cls y y).before args s = true := by
  obtain ⟨c, r, m, h1, h2, h3, h4, mk, h5, h6⟩ := Cond.selects_spec hsel
  have hc := findClass_of_methodNamed h3
  rw [hz] at hc
  exact selects_self_of_private hc h5 h6 (Cond.privateMethod_at hpriv) hinst hy
theorem own_nm_int : "[" ++ (newarray.typeOf .int).toString = "[I" := by decide
theorem own_nm_long : "[" ++ (newarray.typeOf .long).toString = "[J" := by decide
theorem own_nm_char : "[" ++ (newarray.typeOf .char).toString = "[C" := by decide
theorem own_nm_boolean : "[" ++ (newarray.typeOf .boolean).toString = "[Z" := by decide
theorem own_ns_exa {Z : State} {h : Heap} {a : Addr} {C : String} (E : Exa Z h a C) : ∀ c : Cell, h[a]? = some c → c.vm.isStatics = false := fun c hc => by
  obtain ⟨cell, k, h1, -, -, h4, -⟩ := E
  cases h1.symm.trans hc
  exact h4
theorem own_ns_arr {Z : State} {h : Heap} {a : Addr} {cl : Cell} {ty : FieldType} (A : Arr Z h a cl ty) : ∀ c : Cell, h[a]? = some c → c.vm.isStatics = false := fun c hc => by
  cases A.1.symm.trans hc
  exact A.plain
theorem own_arr_keep {Z : State} {h h' : Heap} {a : Addr} {cl : Cell} {ty : FieldType} {ws : List Addr} (A : Arr Z h a cl ty) (K : Keep h h' ws) (q : a ∉ ws) : Arr Z h' a cl ty := ⟨K.2.1 a cl A.1 q, A.2⟩
theorem own_ns_arv {Z : State} {h : Heap} {a : Addr} {k : ClassId} {ty : FieldType} {z : Int32} {vs : List Value} {dv : Value} (F : Arv Z h a k ty z vs dv) : ∀ c : Cell, h[a]? = some c → c.vm.isStatics = false := by
  obtain ⟨c, A, -⟩ := F
  exact own_ns_arr A
theorem own_sta_keep {Z : State} {h h' : Heap} {C n d : String} {v : Value} {ws : List Addr} (F : Sta Z h C n d v) (K : Keep h h' ws) (q : ∀ x ∈ ws, ∀ c : Cell, h[x]? = some c → c.vm.isStatics = false) : Sta Z h' C n d v := by
  obtain ⟨cf, i, k, f, st, cell, h1, h2, h3, h4, h5, h6, h7⟩ := F
  exact ⟨cf, i, k, f, st, cell, h1, h2, h3, h4, K.2.1 st cell h5 (fun hm => by rw [q st hm cell h5] at h6; cases h6), h6, h7⟩
theorem own_len {args : Array Value} {s : State} {t : Term} {a : Addr} {cl : Cell} {n : Int32} (ht : t.eval args s none [] s = some (.ref a)) (hc : s.heap[a]? = some cl) (h : (Jvm.Cond.eq (Term.length t) (Term.int n)).value args s none s [] = some true) : cl.slots.size < 2 ^ 31 ∧ cl.slots.size.toInt32 = n := by
  obtain ⟨x, y, ha, hb, -, -⟩ := cmp_v (Or.inl h)
  have hy : y = .int n := (Option.some.inj ((Term.int_eval n).symm.trans hb)).symm
  subst hy
  have hx : x = .int n := by
    cases x <;> simp [Cond.value, ha, hb] at h ⊢
    exact h
  subst hx
  simp only [Term.eval, ht, Option.bind_eq_bind, Option.bind_some] at ha
  cases hq : s.arrayAt? a with
  | none => simp [hq] at ha
  | some c2 =>
    cases (State.arrayAt?_spec hq).1.symm.trans hc
    simp only [hq, Option.bind_some] at ha
    split at ha
    · rename_i hlt
      exact ⟨hlt, Value.int.inj (Option.some.inj ha)⟩
    · cases ha
theorem own_elem {args : Array Value} {s : State} {t u : Term} {a k : Addr} {cl : Cell} {j : Int32} (ht : t.eval args s none [] s = some (.ref a)) (hu : u.eval args s none [] s = some (.ref k)) (hc : s.heap[a]? = some cl) (h : (Jvm.Cond.eq (Term.elem t (Term.int j)) u).value args s none s [] = some true) : cl.slots[j.toNatClampNeg]? = some (.ref k) := by
  obtain ⟨x, y, ha, hb, -, -⟩ := cmp_v (Or.inl h)
  cases hu.symm.trans hb
  have hx : x = .ref k := by
    cases x <;> simp [Cond.value, ha, hb] at h ⊢
    exact h
  subst hx
  exact (elem_in ha ht (Term.int_eval j) hc).2
theorem own_15 (x : Int32) : ¬ (x &&& (15 : Int32)) < (0 : Int32) ∧ (x &&& (15 : Int32)).toNatClampNeg ≤ 15 := by
  have q := c_mask x 15 4 (by decide) (by decide)
  have a0 : (0 : Int32).toInt = 0 := rfl
  rw [Int32.lt_iff_toInt_lt, q, a0, Int32.toNatClampNeg, q]
  omega
theorem own_pos {x y : Int32} (h : ¬ x < (0 : Int32)) (q : x < y) : (0 : Int32) < y := by
  rw [Int32.lt_iff_toInt_lt] at *
  have a0 : (0 : Int32).toInt = 0 := rfl
  omega
theorem own_pred {x : Int32} (h : (0 : Int32) < x) : ¬ (x - (1 : Int32)) < (0 : Int32) ∧ (x - (1 : Int32)) < x := by
  rw [Int32.lt_iff_toInt_lt] at h
  rw [Int32.lt_iff_toInt_lt, Int32.lt_iff_toInt_lt]
  have a0 : (0 : Int32).toInt = 0 := rfl
  have a1 : (1 : Int32).toInt = 1 := rfl
  have q := c_isub x 1
  have b := rng32 x
  have b2 := rng32 (x - 1)
  rw [a0] at h ⊢
  rw [a1] at q
  omega
theorem d1_0 : decode prog_43_method_1_code 0 = .ok (.aload_n 0, 1) := by decide +kernel
theorem d1_1 : decode prog_43_method_1_code 1 = .ok (.invokespecial 1, 3) := by decide +kernel
theorem d1_4 : decode prog_43_method_1_code 4 = .ok (.aload_n 0, 1) := by decide +kernel
theorem d1_5 : decode prog_43_method_1_code 5 = .ok (.invokestatic 7, 3) := by decide +kernel
theorem d1_8 : decode prog_43_method_1_code 8 = .ok (.putfield 13, 3) := by decide +kernel
theorem d1_11 : decode prog_43_method_1_code 11 = .ok (.return_, 1) := by decide +kernel
theorem d2_0 : decode prog_15_method_1_code 0 = .ok (.aload_n 0, 1) := by decide +kernel
theorem d2_1 : decode prog_15_method_1_code 1 = .ok (.invokespecial 1, 3) := by decide +kernel
theorem d2_4 : decode prog_15_method_1_code 4 = .ok (.return_, 1) := by decide +kernel
theorem d3_0 : decode prog_13_method_1_code 0 = .ok (.aload_n 0, 1) := by decide +kernel
theorem d3_1 : decode prog_13_method_1_code 1 = .ok (.invokespecial 1, 3) := by decide +kernel
theorem d3_4 : decode prog_13_method_1_code 4 = .ok (.return_, 1) := by decide +kernel
theorem d5_0 : decode jdk_40_method_36_code 0 = .ok (.getstatic 90, 3) := by decide +kernel
theorem d5_3 : decode jdk_40_method_36_code 3 = .ok (.areturn, 1) := by decide +kernel
theorem d6_0 : decode prog_43_method_3_code 0 = .ok (.aload_n 0, 1) := by decide +kernel
theorem d6_1 : decode prog_43_method_3_code 1 = .ok (.getfield 32, 3) := by decide +kernel
theorem d6_4 : decode prog_43_method_3_code 4 = .ok (.ifnull 12, 3) := by decide +kernel
theorem d6_7 : decode prog_43_method_3_code 7 = .ok (.aload_n 0, 1) := by decide +kernel
theorem d6_8 : decode prog_43_method_3_code 8 = .ok (.getfield 32, 3) := by decide +kernel
theorem d6_11 : decode prog_43_method_3_code 11 = .ok (.arraylength, 1) := by decide +kernel
theorem d6_12 : decode prog_43_method_3_code 12 = .ok (.iload_n 1, 1) := by decide +kernel
theorem d6_13 : decode prog_43_method_3_code 13 = .ok (.if_icmp .ge 11, 3) := by decide +kernel
theorem d6_16 : decode prog_43_method_3_code 16 = .ok (.aload_n 0, 1) := by decide +kernel
theorem d6_17 : decode prog_43_method_3_code 17 = .ok (.iload_n 1, 1) := by decide +kernel
theorem d6_18 : decode prog_43_method_3_code 18 = .ok (.anewarray 36, 3) := by decide +kernel
theorem d6_21 : decode prog_43_method_3_code 21 = .ok (.putfield 32, 3) := by decide +kernel
theorem d6_24 : decode prog_43_method_3_code 24 = .ok (.aload_n 0, 1) := by decide +kernel
theorem d6_25 : decode prog_43_method_3_code 25 = .ok (.getfield 32, 3) := by decide +kernel
theorem d6_28 : decode prog_43_method_3_code 28 = .ok (.areturn, 1) := by decide +kernel
theorem pn_0 : plainName "com/example/granulock/granulock/Latch" = true := by first | (simp [plainName, overriddenIn]; done) | decide +kernel
theorem pn_1 : plainName "com/example/granulock/granulock/LatchedEntries$Entry" = true := by first | (simp [plainName, overriddenIn]; done) | decide +kernel
theorem pn_2 : plainName "java/util/List" = true := by first | (simp [plainName, overriddenIn]; done) | decide +kernel
theorem pn_3 : plainName "com/example/granulock/granulock/ResourceTree$Ledger" = true := by first | (simp [plainName, overriddenIn]; done) | decide +kernel
theorem pn_4 : plainName "com/example/granulock/granulock/LedgerHeldPinLaw" = true := by first | (simp [plainName, overriddenIn]; done) | decide +kernel
theorem pd_0 : parseMethodDescriptor "()V" = some ⟨[], none⟩ := by decide +kernel
theorem pd_1 : parseMethodDescriptor "()Ljava/util/List;" = some ⟨[], some (.object "java/util/List")⟩ := by decide +kernel
theorem pd_2 : parseMethodDescriptor "(I)[Lcom/example/granulock/granulock/Resource$Holder;" = some ⟨[.int], some (.array (.object "com/example/granulock/granulock/Resource$Holder"))⟩ := by decide +kernel
theorem ef_lat (m : MethodId) (x0 : Addr) : entryFrame m #[(.ref x0)] 1 = mkF m 0 #[.val (.ref x0)] [] := by first | (simp [entryFrame, mkF, argsToLocals, Value.category]; done) | rfl
def Q_lat (Z : State) (a : Addr) (h0 : Heap) (n0 : Nat) (v : Option Value) (h : Heap) (L : List Loc) : Prop := v = none ∧ Fr n0 L ∧ h = h0
set_option maxRecDepth 65536 in
set_option maxHeartbeats 40000000 in
theorem rm_lat (l : Launch) (Z : State) (a0 : Array Value) (hw : ∀ d ∈ tables_1, d.before a0 Z = true) (ws : List Jvm.Cond) (a : Addr) (h0 : Heap) (n0 : Nat) (Z0 : n0 ≤ h0.size) :
    MetFree l (⟨"com/example/granulock/granulock/Latch", "<init>", "()V"⟩ : MethodName) (head1 (Jvm.Cond.code (⟨"com/example/granulock/granulock/Latch", "<init>", "()V"⟩ : MethodName) prog_13_method_1_code 1 none :: ws) ({ frames := 1, cells := 0, slots := 0, locals := 12 } : Room)) (fun as_ U_ => as_ = #[(.ref a)] ∧ Z.Warmed39 U_.vm ∧ U_.heap = h0) (fun _ _ _ _ _ => True) (fun _ U o U' => ∃ v L, o = .returned v ∧ Q_lat Z a h0 n0 v U'.heap L ∧ FrameEnd U o U' L ({ frames := 1, cells := 0, slots := 0, locals := 12 } : Room).cells ({ frames := 1, cells := 0, slots := 0, locals := 12 } : Room).slots) := by
  refine MetFree.of_bodySF (plainFor_of_name pn_0) hisR ?_
  intro p e s m args below meth c s₁ Bd hml0 hP hK
  obtain ⟨rfl, hZ, hh⟩ := hP
  have hx := Bd.exec
  have hby := Bd.bytes
  have hml : c.maxLocals = 1 := hml0
  have hown : s.vm.findClass "com/example/granulock/granulock/Latch" = some m.cls := findClass_of_methodNamed Bd.named
  have hnm := (name_of_methodNamed Bd.named Bd.method).1
  have X0 : Stand p l e ({ frames := 1, cells := 0, slots := 0, locals := 12 } : Room) s m #[(.ref a)] below meth c s₁ [] 0 0 := Stand.of_body Bd
  have e0 : s₁.heap = h0 := by rw [← hh, Bd.state]; rfl
  have N0 := Fr.nil n0
  have pre0 : ∀ t, Steps p.tables e below (s₁.setTop (mkF m 0 #[.val (.ref a)] [])) t → Steps p.tables e below (s₁.setTop (entryFrame m #[(.ref a)] 1)) t := fun t k => castTop (ef_lat m a) k
  obtain ⟨T1, X1, e1, st1⟩ := initO X0 hx hZ hown (hw _ (List.mem_of_getElem? (i := 16) rfl)) (hw _ (List.mem_of_getElem? (i := 17) rfl)) (hw _ (List.mem_of_getElem? (i := 18) rfl)) e0 (g := (mkF m 1 #[.val (.ref a)] [(.ref a)])) rfl (by rw [hml]; rfl) rfl (hb hby d3_1) (by decide) (W := 0) (by show 2 * 0 + _ ≤ _; exact Nat.le_of_eq rfl) (by decide)
  have pre2 := fun (t : State) (k : Steps p.tables e below (T1.setTop (mkF m 4 #[.val (.ref a)] [])) t) => pre0 t (by
    refine XS.aloadN X0.here hx rfl (hb hby d3_0) rfl rfl ?_
    show Steps p.tables e below (s₁.setTop (mkF m 1 #[.val (.ref a)] [(.ref a)])) _
    refine st1 _ ?_
    show Steps p.tables e below (T1.setTop (mkF m 4 #[.val (.ref a)] [])) _
    exact k)
  obtain ⟨fs, hr, hrun, hended, hW, hsame⟩ := X1.leave (v := none) (fun _ => rfl)
  refine ⟨_, _, pre2 _ ?_, hrun, hended, _, _, rfl, ?_, ⟨_, rfl⟩, hW, hsame.mono (by decide) (by decide)⟩
  · exact X1.returnOut hx Bd.returns (hb hby d3_4) hr
  · show Q_lat Z a h0 n0 _ T1.heap _
    rw [e1]
    exact ⟨rfl, N0, rfl⟩

theorem ef_ent (m : MethodId) (x0 : Addr) : entryFrame m #[(.ref x0)] 1 = mkF m 0 #[.val (.ref x0)] [] := by first | (simp [entryFrame, mkF, argsToLocals, Value.category]; done) | rfl
def Q_ent (Z : State) (a : Addr) (h0 : Heap) (n0 : Nat) (v : Option Value) (h : Heap) (L : List Loc) : Prop := v = none ∧ Fr n0 L ∧ h = h0
set_option maxRecDepth 65536 in
set_option maxHeartbeats 40000000 in
theorem rm_ent (l : Launch) (Z : State) (a0 : Array Value) (hw : ∀ d ∈ tables_1, d.before a0 Z = true) (ws : List Jvm.Cond) (a : Addr) (h0 : Heap) (n0 : Nat) (Z0 : n0 ≤ h0.size) :
    MetFree l (⟨"com/example/granulock/granulock/LatchedEntries$Entry", "<init>", "()V"⟩ : MethodName) (head1 (Jvm.Cond.code (⟨"com/example/granulock/granulock/LatchedEntries$Entry", "<init>", "()V"⟩ : MethodName) prog_15_method_1_code 1 none :: ws) ({ frames := 2, cells := 0, slots := 0, locals := 24 } : Room)) (fun as_ U_ => as_ = #[(.ref a)] ∧ Z.Warmed39 U_.vm ∧ U_.heap = h0) (fun _ _ _ _ _ => True) (fun _ U o U' => ∃ v L, o = .returned v ∧ Q_ent Z a h0 n0 v U'.heap L ∧ FrameEnd U o U' L ({ frames := 2, cells := 0, slots := 0, locals := 24 } : Room).cells ({ frames := 2, cells := 0, slots := 0, locals := 24 } : Room).slots) := by
  refine MetFree.of_bodySF (plainFor_of_name pn_1) hisR ?_
  intro p e s m args below meth c s₁ Bd hml0 hP hK
  obtain ⟨rfl, hZ, hh⟩ := hP
  have hx := Bd.exec
  have hby := Bd.bytes
  have hml : c.maxLocals = 1 := hml0
  have hown : s.vm.findClass "com/example/granulock/granulock/LatchedEntries$Entry" = some m.cls := findClass_of_methodNamed Bd.named
  have hnm := (name_of_methodNamed Bd.named Bd.method).1
  have X0 : Stand p l e ({ frames := 2, cells := 0, slots := 0, locals := 24 } : Room) s m #[(.ref a)] below meth c s₁ [] 0 0 := Stand.of_body Bd
  have e0 : s₁.heap = h0 := by rw [← hh, Bd.state]; rfl
  have N0 := Fr.nil n0
  have pre0 : ∀ t, Steps p.tables e below (s₁.setTop (mkF m 0 #[.val (.ref a)] [])) t → Steps p.tables e below (s₁.setTop (entryFrame m #[(.ref a)] 1)) t := fun t k => castTop (ef_ent m a) k
  obtain ⟨_, _, ⟨T1, L1, k1, n1⟩, -, X1, ⟨Lc1, hQ1, l1, y1, z1⟩, st1⟩ := X0.specialBack hx (y := (⟨"com/example/granulock/granulock/Latch", "<init>", "()V"⟩ : MethodName)) rfl hown (mvT hZ (hw _ (List.mem_of_getElem? (i := 11) rfl))) (mvT hZ (hw _ (List.mem_of_getElem? (i := 12) rfl))) (mvT hZ (hw _ (List.mem_of_getElem? (i := 15) rfl))) (by decide) (backOf (W := 0) (rm_lat l Z a0 hw [] a h0 n0 Z0 ) hZ (hw _ (List.mem_of_getElem? (i := 15) rfl)) (hw _ (List.mem_of_getElem? (i := 14) rfl)) (by decide) (by decide)) (g := (mkF m 1 #[.val (.ref a)] [(.ref a)])) rfl (by rw [hml]; rfl) (Steps.refl _) (a := a) (argsL := []) (rest := []) (lenOf pd_0 rfl) rfl (by show 2 * 0 + _ ≤ _; exact Nat.le_of_eq rfl) (hb hby d2_1) (fun _ _ => ⟨rfl, e0, (by decide : 0 + 0 ≤ _), (by decide : 0 + 0 ≤ _)⟩)
  dsimp only [Pt.U, Pt.locs, Pt.cells, Pt.slots] at X1 l1 y1 z1 st1 hQ1
  subst l1 y1 z1
  obtain ⟨rfl, N1q, hq2⟩ := hQ1
  have N1 := Fr.app N0 N1q
  have pre3 := fun (t : State) (k : Steps p.tables e below (T1.setTop (mkF m 4 #[.val (.ref a)] [])) t) => pre0 t (by
    refine XS.aloadN X0.here hx rfl (hb hby d2_0) rfl rfl ?_
    show Steps p.tables e below (s₁.setTop (mkF m 1 #[.val (.ref a)] [(.ref a)])) _
    refine st1.trans ?_
    show Steps p.tables e below (T1.setTop (mkF m 4 #[.val (.ref a)] [])) _
    exact k)
  obtain ⟨fs, hr, hrun, hended, hW, hsame⟩ := X1.leave (v := none) (fun _ => rfl)
  refine ⟨_, _, pre3 _ ?_, hrun, hended, _, _, rfl, ?_, ⟨_, rfl⟩, hW, hsame.mono (by decide) (by decide)⟩
  · exact X1.returnOut hx Bd.returns (hb hby d2_4) hr
  · show Q_ent Z a h0 n0 _ T1.heap _
    rw [hq2]
    exact ⟨rfl, N1, rfl⟩

theorem ef_lof (m : MethodId)  : entryFrame m #[] 0 = mkF m 0 #[] [] := by first | (simp [entryFrame, mkF, argsToLocals, Value.category]; done) | rfl
def Q_lof (Z : State) (wE : Addr) (h0 : Heap) (n0 : Nat) (v : Option Value) (h : Heap) (L : List Loc) : Prop := v = some (.ref wE) ∧ Fr n0 L ∧ h = h0
set_option maxRecDepth 65536 in
set_option maxHeartbeats 40000000 in
theorem rm_lof (l : Launch) (Z : State) (a0 : Array Value) (hw : ∀ d ∈ tables_1, d.before a0 Z = true) (ws : List Jvm.Cond) (wE : Addr) (h0 : Heap) (n0 : Nat) (Z0 : n0 ≤ h0.size) (H0_S : Sta Z h0 "java/util/ImmutableCollections" "EMPTY_LIST" "Ljava/util/ImmutableCollections$ListN;" (.ref wE)) :
    MetFree l (⟨"java/util/List", "of", "()Ljava/util/List;"⟩ : MethodName) (head1 (Jvm.Cond.code (⟨"java/util/List", "of", "()Ljava/util/List;"⟩ : MethodName) jdk_40_method_36_code 0 (some (.object "java/util/List")) :: ws) ({ frames := 0, cells := 0, slots := 0, locals := 0 } : Room)) (fun as_ U_ => as_ = #[] ∧ Z.Warmed39 U_.vm ∧ U_.heap = h0) (fun _ _ _ _ _ => True) (fun _ U o U' => ∃ v L, o = .returned v ∧ Q_lof Z wE h0 n0 v U'.heap L ∧ FrameEnd U o U' L ({ frames := 0, cells := 0, slots := 0, locals := 0 } : Room).cells ({ frames := 0, cells := 0, slots := 0, locals := 0 } : Room).slots) := by
  refine MetFree.of_bodySF (plainFor_of_name pn_2) hisR ?_
  intro p e s m args below meth c s₁ Bd hml0 hP hK
  obtain ⟨rfl, hZ, hh⟩ := hP
  have hx := Bd.exec
  have hby := Bd.bytes
  have hml : c.maxLocals = 0 := hml0
  have hown : s.vm.findClass "java/util/List" = some m.cls := findClass_of_methodNamed Bd.named
  have hnm := (name_of_methodNamed Bd.named Bd.method).1
  have X0 : Stand p l e ({ frames := 0, cells := 0, slots := 0, locals := 0 } : Room) s m #[] below meth c s₁ [] 0 0 := Stand.of_body Bd
  have e0 : s₁.heap = h0 := by rw [← hh, Bd.state]; rfl
  have N0 := Fr.nil n0
  have pre0 : ∀ t, Steps p.tables e below (s₁.setTop (mkF m 0 #[] [])) t → Steps p.tables e below (s₁.setTop (entryFrame m #[] 0)) t := fun t k => castTop (ef_lof m ) k
  obtain ⟨T1, X1, e1, st1⟩ := getS2 X0 hx hZ hown (host := "") (Or.inl (hw _ (List.mem_of_getElem? (i := 23) rfl))) Via.refl e0 H0_S (g := (mkF m 0 #[] [])) rfl (hb hby d5_0)
  have pre2 := fun (t : State) (k : Steps p.tables e below (T1.setTop (mkF m 3 #[] [(.ref wE)])) t) => pre0 t (by
    refine st1 _ ?_
    show Steps p.tables e below (T1.setTop (mkF m 3 #[] [(.ref wE)])) _
    exact k)
  obtain ⟨fs, hr, hrun, hended, hW, hsame⟩ := X1.leave (v := some (.ref wE)) (fun h => by rw [Bd.returns] at h; cases h)
  refine ⟨_, _, pre2 _ ?_, hrun, hended, _, _, rfl, ?_, ⟨_, rfl⟩, hW, hsame.mono (by decide) (by decide)⟩
  · jvm_step X1.here [X1.here.top, hx, (hb hby d5_3), X1.method', Bd.returns, Value.isRef, FieldType.isReference]
    first | (intro acts; rw [hr _ acts rfl rfl rfl]) | rw [hr _ _ rfl rfl rfl]
    exact Steps.refl _
  · show Q_lof Z wE h0 n0 _ T1.heap _
    rw [e1]
    exact ⟨rfl, N0, rfl⟩

theorem ef_ini (m : MethodId) (x0 : Addr) : entryFrame m #[(.ref x0)] 1 = mkF m 0 #[.val (.ref x0)] [] := by first | (simp [entryFrame, mkF, argsToLocals, Value.category]; done) | rfl
def Q_ini (Z : State) (a : Addr) (wE : Addr) (h0 : Heap) (n0 : Nat) (v : Option Value) (h : Heap) (L : List Loc) : Prop := v = none ∧ Fr n0 L ∧ Keep h0 h [a] ∧ Exa Z h a "com/example/granulock/granulock/ResourceTree$Ledger" ∧ Fld Z h a "com/example/granulock/granulock/ResourceTree$Ledger" "held" "[Lcom/example/granulock/granulock/Resource$Holder;" .null
set_option maxRecDepth 65536 in
set_option maxHeartbeats 40000000 in
theorem rm_ini (l : Launch) (Z : State) (a0 : Array Value) (hw : ∀ d ∈ tables_1, d.before a0 Z = true) (ws : List Jvm.Cond) (a : Addr) (wE : Addr) (h0 : Heap) (n0 : Nat) (Z0 : n0 ≤ h0.size) (H0_E : Exa Z h0 a "com/example/granulock/granulock/ResourceTree$Ledger") (H1_F : Fld Z h0 a "com/example/granulock/granulock/ResourceTree$Ledger" "underway" "Ljava/util/List;" .null) (H2_F : Fld Z h0 a "com/example/granulock/granulock/ResourceTree$Ledger" "held" "[Lcom/example/granulock/granulock/Resource$Holder;" .null) (H3_S : Sta Z h0 "java/util/ImmutableCollections" "EMPTY_LIST" "Ljava/util/ImmutableCollections$ListN;" (.ref wE)) (ga : n0 ≤ a) :
    MetFree l (⟨"com/example/granulock/granulock/ResourceTree$Ledger", "<init>", "()V"⟩ : MethodName) (head1 (Jvm.Cond.code (⟨"com/example/granulock/granulock/ResourceTree$Ledger", "<init>", "()V"⟩ : MethodName) prog_43_method_1_code 1 none :: ws) ({ frames := 3, cells := 0, slots := 0, locals := 36 } : Room)) (fun as_ U_ => as_ = #[(.ref a)] ∧ Z.Warmed39 U_.vm ∧ U_.heap = h0) (fun _ _ _ _ _ => True) (fun _ U o U' => ∃ v L, o = .returned v ∧ Q_ini Z a wE h0 n0 v U'.heap L ∧ FrameEnd U o U' L ({ frames := 3, cells := 0, slots := 0, locals := 36 } : Room).cells ({ frames := 3, cells := 0, slots := 0, locals := 36 } : Room).slots) := by
  refine MetFree.of_bodySF (plainFor_of_name pn_3) hisR ?_
  intro p e s m args below meth c s₁ Bd hml0 hP hK
  obtain ⟨rfl, hZ, hh⟩ := hP
  have hx := Bd.exec
  have hby := Bd.bytes
  have hml : c.maxLocals = 1 := hml0
  have hown : s.vm.findClass "com/example/granulock/granulock/ResourceTree$Ledger" = some m.cls := findClass_of_methodNamed Bd.named
  have hnm := (name_of_methodNamed Bd.named Bd.method).1
  have X0 : Stand p l e ({ frames := 3, cells := 0, slots := 0, locals := 36 } : Room) s m #[(.ref a)] below meth c s₁ [] 0 0 := Stand.of_body Bd
  have e0 : s₁.heap = h0 := by rw [← hh, Bd.state]; rfl
  have N0 := Fr.nil n0
  have pre0 : ∀ t, Steps p.tables e below (s₁.setTop (mkF m 0 #[.val (.ref a)] [])) t → Steps p.tables e below (s₁.setTop (entryFrame m #[(.ref a)] 1)) t := fun t k => castTop (ef_ini m a) k
  have K0 : Keep h0 h0 [a] := Keep.refl h0 [a]
  obtain ⟨_, _, ⟨T1, L1, k1, n1⟩, -, X1, ⟨Lc1, hQ1, l1, y1, z1⟩, st1⟩ := X0.specialBack hx (y := (⟨"com/example/granulock/granulock/LatchedEntries$Entry", "<init>", "()V"⟩ : MethodName)) rfl hown (mvT hZ (hw _ (List.mem_of_getElem? (i := 6) rfl))) (mvT hZ (hw _ (List.mem_of_getElem? (i := 7) rfl))) (mvT hZ (hw _ (List.mem_of_getElem? (i := 10) rfl))) (by decide) (backOf (W := 0) (rm_ent l Z a0 hw [] a h0 n0 Z0 ) hZ (hw _ (List.mem_of_getElem? (i := 10) rfl)) (hw _ (List.mem_of_getElem? (i := 9) rfl)) (by decide) (by decide)) (g := (mkF m 1 #[.val (.ref a)] [(.ref a)])) rfl (by rw [hml]; rfl) (Steps.refl _) (a := a) (argsL := []) (rest := []) (lenOf pd_0 rfl) rfl (by show 2 * 0 + _ ≤ _; exact Nat.le_of_eq rfl) (hb hby d1_1) (fun _ _ => ⟨rfl, e0, (by decide : 0 + 0 ≤ _), (by decide : 0 + 0 ≤ _)⟩)
  dsimp only [Pt.U, Pt.locs, Pt.cells, Pt.slots] at X1 l1 y1 z1 st1 hQ1
  subst l1 y1 z1
  obtain ⟨rfl, N1q, hq2⟩ := hQ1
  have N1 := Fr.app N0 N1q
  obtain ⟨_, _, ⟨T3, L3, k3, n3⟩, -, X3, ⟨Lc3, hQ3, l3, y3, z3⟩, st3⟩ := Jvm.LawKit.callS X1 hx (y := (⟨"java/util/List", "of", "()Ljava/util/List;"⟩ : MethodName)) hown (mvT hZ (hw _ (List.mem_of_getElem? (i := 19) rfl))) (mvT hZ (hw _ (List.mem_of_getElem? (i := 20) rfl))) (mvT hZ (hw _ (List.mem_of_getElem? (i := 21) rfl))) (mvT hZ (hw _ (List.mem_of_getElem? (i := 22) rfl))) (by decide) (backOf (W := 1) (rm_lof l Z a0 hw [] wE h0 n0 Z0 H3_S) hZ (hw _ (List.mem_of_getElem? (i := 22) rfl)) (hw _ (List.mem_of_getElem? (i := 21) rfl)) (by decide) (by decide)) (g := (mkF m 5 #[.val (.ref a)] [(.ref a)])) rfl (by rw [hml]; rfl) (argsL := []) (rest := [(.ref a)]) (lenOf pd_1 rfl) rfl (by show 2 * 0 + _ ≤ _; exact Nat.le_of_eq rfl) (hb hby d1_5) (fun _ _ => ⟨rfl, hq2, (by decide : 0 + 0 ≤ _), (by decide : 0 + 0 ≤ _)⟩)
  dsimp only [Pt.U, Pt.locs, Pt.cells, Pt.slots] at X3 l3 y3 z3 st3 hQ3
  subst l3 y3 z3
  obtain ⟨rfl, N3q, hq4⟩ := hQ3
  have N3 := Fr.app N1 N3q
  obtain ⟨T5, h5, X5, e5, W5, st5⟩ := putF X3 hx hZ hown (host := "") (Or.inl (hw _ (List.mem_of_getElem? (i := 25) rfl))) Via.refl hq4 H1_F H0_E (Or.inl (hw _ (List.mem_of_getElem? (i := 26) rfl))) (hw _ (List.mem_of_getElem? (i := 1) rfl)) (ty := (.object "java/util/List")) (by decide) rfl rfl (g := (mkF m 8 #[.val (.ref a)] [(.ref wE), (.ref a)])) rfl rfl (hb hby d1_8)
  have Fw5 : Fld Z h5 a "com/example/granulock/granulock/ResourceTree$Ledger" "underway" "Ljava/util/List;" (.ref wE) := H1_F.same W5
  have E6 : Exa Z h5 a "com/example/granulock/granulock/ResourceTree$Ledger" := H0_E.wr W5
  have F7 : Fld Z h5 a "com/example/granulock/granulock/ResourceTree$Ledger" "held" "[Lcom/example/granulock/granulock/Resource$Holder;" .null := H2_F.other W5 (Or.inr (slot_ne (Or.inl (hw _ (List.mem_of_getElem? (i := 33) rfl))) (Or.inl (hw _ (List.mem_of_getElem? (i := 26) rfl))) (by decide) (t := (.array (.object "com/example/granulock/granulock/Resource$Holder"))) (t' := (.object "java/util/List")) (by decide) (by decide)))
  have S8 : Sta Z h5 "java/util/ImmutableCollections" "EMPTY_LIST" "Ljava/util/ImmutableCollections$ListN;" (.ref wE) := H3_S.wr W5
  have N5 := Fr.snoc X5 N3 ga
  have K5 : Keep h0 h5 [a] := K0.wr W5 (Or.inl (List.mem_of_getElem? (i := 0) rfl))
  have Zs9 : n0 ≤ h5.size := (Nat.le_trans Z0 (Keep.of_wr W5).1)
  have pre10 := fun (t : State) (k : Steps p.tables e below (T5.setTop (mkF m 11 #[.val (.ref a)] [])) t) => pre0 t (by
    refine XS.aloadN X0.here hx rfl (hb hby d1_0) rfl rfl ?_
    show Steps p.tables e below (s₁.setTop (mkF m 1 #[.val (.ref a)] [(.ref a)])) _
    refine st1.trans ?_
    show Steps p.tables e below (T1.setTop (mkF m 4 #[.val (.ref a)] [])) _
    refine XS.aloadN X1.here hx rfl (hb hby d1_4) rfl rfl ?_
    show Steps p.tables e below (T1.setTop (mkF m 5 #[.val (.ref a)] [(.ref a)])) _
    refine st3 _ ?_
    show Steps p.tables e below (T3.setTop (mkF m 8 #[.val (.ref a)] [(.ref wE), (.ref a)])) _
    refine st5 _ ?_
    show Steps p.tables e below (T5.setTop (mkF m 11 #[.val (.ref a)] [])) _
    exact k)
  obtain ⟨fs, hr, hrun, hended, hW, hsame⟩ := X5.leave (v := none) (fun _ => rfl)
  refine ⟨_, _, pre10 _ ?_, hrun, hended, _, _, rfl, ?_, ⟨_, rfl⟩, hW, hsame.mono (by decide) (by decide)⟩
  · exact X5.returnOut hx Bd.returns (hb hby d1_11) hr
  · show Q_ini Z a wE h0 n0 _ T5.heap _
    rw [e5]
    exact ⟨rfl, N5, K5, E6, F7⟩

theorem ef_mN (m : MethodId) (x0 : Addr) (x1 : Int32) : entryFrame m #[(.ref x0), (.int x1)] 2 = mkF m 0 #[.val (.ref x0), .val (.int x1)] [] := by first | (simp [entryFrame, mkF, argsToLocals, Value.category]; done) | rfl
def Q_mN (Z : State) (a : Addr) (pp : Int32) (h0 : Heap) (n0 : Nat) (v : Option Value) (h : Heap) (L : List Loc) : Prop := ∃ xx : Addr, ∃ kk : ClassId, v = some (.ref xx) ∧ Fr n0 L ∧ Keep h0 h [a] ∧ n0 ≤ xx ∧ h0.size ≤ xx ∧ Exa Z h a "com/example/granulock/granulock/ResourceTree$Ledger" ∧ Fld Z h a "com/example/granulock/granulock/ResourceTree$Ledger" "held" "[Lcom/example/granulock/granulock/Resource$Holder;" (.ref xx) ∧ Arr Z h xx (newA kk (.object "com/example/granulock/granulock/Resource$Holder") pp) (.object "com/example/granulock/granulock/Resource$Holder")
set_option maxRecDepth 65536 in
set_option maxHeartbeats 40000000 in
theorem rm_mN (l : Launch) (Z : State) (a0 : Array Value) (hw : ∀ d ∈ tables_1, d.before a0 Z = true) (ws : List Jvm.Cond) (a : Addr) (pp : Int32) (h0 : Heap) (n0 : Nat) (Z0 : n0 ≤ h0.size) (H0_E : Exa Z h0 a "com/example/granulock/granulock/ResourceTree$Ledger") (H1_F : Fld Z h0 a "com/example/granulock/granulock/ResourceTree$Ledger" "held" "[Lcom/example/granulock/granulock/Resource$Holder;" .null) (ga : n0 ≤ a) (hp0 : ¬ pp < (0 : Int32)) (hp15 : pp.toNatClampNeg ≤ 15) :
    MetFree l (⟨"com/example/granulock/granulock/ResourceTree$Ledger", "held", "(I)[Lcom/example/granulock/granulock/Resource$Holder;"⟩ : MethodName) (head1 (Jvm.Cond.code (⟨"com/example/granulock/granulock/ResourceTree$Ledger", "held", "(I)[Lcom/example/granulock/granulock/Resource$Holder;"⟩ : MethodName) prog_43_method_3_code 2 (some (.array (.object "com/example/granulock/granulock/Resource$Holder"))) :: ws) ({ frames := 0, cells := 1, slots := 15, locals := 0 } : Room)) (fun as_ U_ => as_ = #[(.ref a), (.int pp)] ∧ Z.Warmed39 U_.vm ∧ U_.heap = h0) (fun _ _ _ _ _ => True) (fun _ U o U' => ∃ v L, o = .returned v ∧ Q_mN Z a pp h0 n0 v U'.heap L ∧ FrameEnd U o U' L ({ frames := 0, cells := 1, slots := 15, locals := 0 } : Room).cells ({ frames := 0, cells := 1, slots := 15, locals := 0 } : Room).slots) := by
  refine MetFree.of_bodySF (plainFor_of_name pn_3) hisR ?_
  intro p e s m args below meth c s₁ Bd hml0 hP hK
  obtain ⟨rfl, hZ, hh⟩ := hP
  have hx := Bd.exec
  have hby := Bd.bytes
  have hml : c.maxLocals = 2 := hml0
  have hown : s.vm.findClass "com/example/granulock/granulock/ResourceTree$Ledger" = some m.cls := findClass_of_methodNamed Bd.named
  have hnm := (name_of_methodNamed Bd.named Bd.method).1
  have X0 : Stand p l e ({ frames := 0, cells := 1, slots := 15, locals := 0 } : Room) s m #[(.ref a), (.int pp)] below meth c s₁ [] 0 0 := Stand.of_body Bd
  have e0 : s₁.heap = h0 := by rw [← hh, Bd.state]; rfl
  have N0 := Fr.nil n0
  have pre0 : ∀ t, Steps p.tables e below (s₁.setTop (mkF m 0 #[.val (.ref a), .val (.int pp)] [])) t → Steps p.tables e below (s₁.setTop (entryFrame m #[(.ref a), (.int pp)] 2)) t := fun t k => castTop (ef_mN m a pp) k
  have K0 : Keep h0 h0 [a] := Keep.refl h0 [a]
  obtain ⟨T1, X1, e1, st1⟩ := getF X0 hx hZ hown (host := "") (Or.inl (hw _ (List.mem_of_getElem? (i := 32) rfl))) Via.refl e0 H1_F (g := (mkF m 1 #[.val (.ref a), .val (.int pp)] [(.ref a)])) rfl rfl (hb hby d6_1)
  obtain ⟨T2, h2, k2, X2, e2, E2, A2, O2, st2⟩ := newR X1 hx hZ hown (hw _ (List.mem_of_getElem? (i := 34) rfl)) (hw _ (List.mem_of_getElem? (i := 35) rfl)) e1 (g := (mkF m 18 #[.val (.ref a), .val (.int pp)] [(.int pp), (.ref a)])) rfl (hb hby d6_18) rfl hp0 (cap := 15) hp15 (by decide) (by decide) (by decide)
  obtain ⟨b2, g2⟩ : ∃ z, z = h0.size := ⟨_, rfl⟩
  have ne_a_b2 : a ≠ b2 := Nat.ne_of_lt (Nat.lt_of_lt_of_le H0_E.lt (Nat.le_of_eq g2.symm))
  have ge_b2 : n0 ≤ b2 := Nat.le_trans Z0 (Nat.le_of_eq g2.symm)
  have sz_b2 : h0.size ≤ b2 := Nat.le_trans K0.1 (Nat.le_of_eq g2.symm)
  rw [← g2] at A2 st2
  have E3 : Exa Z h2 a "com/example/granulock/granulock/ResourceTree$Ledger" := H0_E.ext E2
  have F4 : Fld Z h2 a "com/example/granulock/granulock/ResourceTree$Ledger" "held" "[Lcom/example/granulock/granulock/Resource$Holder;" .null := H1_F.ext E2
  have K2 : Keep h0 h2 [a] := K0.ext E2
  have Zs5 : n0 ≤ h2.size := (Nat.le_trans Z0 E2.1)
  have V2 : Arr Z h2 b2 (newA k2 (.object "com/example/granulock/granulock/Resource$Holder") pp) (.object "com/example/granulock/granulock/Resource$Holder") := A2
  have Ov_b2 := O2
  obtain ⟨T6, h6, X6, e6, W6, st6⟩ := putF X2 hx hZ hown (host := "") (Or.inl (hw _ (List.mem_of_getElem? (i := 32) rfl))) Via.refl e2 F4 E3 (Or.inl (hw _ (List.mem_of_getElem? (i := 33) rfl))) (hw _ (List.mem_of_getElem? (i := 1) rfl)) (ty := (.array (.object "com/example/granulock/granulock/Resource$Holder"))) (by decide) rfl rfl (g := (mkF m 21 #[.val (.ref a), .val (.int pp)] [(.ref b2), (.ref a)])) rfl rfl (hb hby d6_21)
  have Fw6 : Fld Z h6 a "com/example/granulock/granulock/ResourceTree$Ledger" "held" "[Lcom/example/granulock/granulock/Resource$Holder;" (.ref b2) := F4.same W6
  have E7 : Exa Z h6 a "com/example/granulock/granulock/ResourceTree$Ledger" := E3.wr W6
  have R8 : Arr Z h6 b2 (newA k2 (.object "com/example/granulock/granulock/Resource$Holder") pp) (.object "com/example/granulock/granulock/Resource$Holder") := V2.other W6 (Ne.symm ne_a_b2)
  have N6 := Fr.snoc X6 N0 ga
  have K6 : Keep h0 h6 [a] := K2.wr W6 (Or.inl (List.mem_of_getElem? (i := 0) rfl))
  have Zs9 : n0 ≤ h6.size := (Nat.le_trans Zs5 (Keep.of_wr W6).1)
  obtain ⟨T10, X10, e10, st10⟩ := getF X6 hx hZ hown (host := "") (Or.inl (hw _ (List.mem_of_getElem? (i := 32) rfl))) Via.refl e6 Fw6 (g := (mkF m 25 #[.val (.ref a), .val (.int pp)] [(.ref a)])) rfl rfl (hb hby d6_25)
  have pre11 := fun (t : State) (k : Steps p.tables e below (T10.setTop (mkF m 28 #[.val (.ref a), .val (.int pp)] [(.ref b2)])) t) => pre0 t (by
    refine XS.aloadN X0.here hx rfl (hb hby d6_0) rfl rfl ?_
    show Steps p.tables e below (s₁.setTop (mkF m 1 #[.val (.ref a), .val (.int pp)] [(.ref a)])) _
    refine st1 _ ?_
    show Steps p.tables e below (T1.setTop (mkF m 4 #[.val (.ref a), .val (.int pp)] [.null])) _
    refine XS.ifnullYes X1.here hx rfl (pc0 := 4) (pc' := 16) rfl (hb hby d6_4) rfl (by decide) (by decide) ?_
    show Steps p.tables e below (T1.setTop (mkF m 16 #[.val (.ref a), .val (.int pp)] [])) _
    refine XS.aloadN X1.here hx rfl (hb hby d6_16) rfl rfl ?_
    show Steps p.tables e below (T1.setTop (mkF m 17 #[.val (.ref a), .val (.int pp)] [(.ref a)])) _
    refine XS.iloadN X1.here hx rfl (hb hby d6_17) rfl ?_
    show Steps p.tables e below (T1.setTop (mkF m 18 #[.val (.ref a), .val (.int pp)] [(.int pp), (.ref a)])) _
    refine st2 _ ?_
    show Steps p.tables e below (T2.setTop (mkF m 21 #[.val (.ref a), .val (.int pp)] [(.ref b2), (.ref a)])) _
    refine st6 _ ?_
    show Steps p.tables e below (T6.setTop (mkF m 24 #[.val (.ref a), .val (.int pp)] [])) _
    refine XS.aloadN X6.here hx rfl (hb hby d6_24) rfl rfl ?_
    show Steps p.tables e below (T6.setTop (mkF m 25 #[.val (.ref a), .val (.int pp)] [(.ref a)])) _
    refine st10 _ ?_
    show Steps p.tables e below (T10.setTop (mkF m 28 #[.val (.ref a), .val (.int pp)] [(.ref b2)])) _
    exact k)
  obtain ⟨fs, hr, hrun, hended, hW, hsame⟩ := X10.leave (v := some (.ref b2)) (fun h => by rw [Bd.returns] at h; cases h)
  refine ⟨_, _, pre11 _ ?_, hrun, hended, _, _, rfl, ?_, ⟨_, rfl⟩, hW, hsame.mono (by decide) (by decide)⟩
  · jvm_step X10.here [X10.here.top, hx, (hb hby d6_28), X10.method', Bd.returns, Value.isRef, FieldType.isReference]
    first | (intro acts; rw [hr _ acts rfl rfl rfl]) | rw [hr _ _ rfl rfl rfl]
    exact Steps.refl _
  · show Q_mN Z a pp h0 n0 _ T10.heap _
    rw [e10]
    exact ⟨b2, k2, rfl, N6, K6, ge_b2, sz_b2, E7, Fw6, R8⟩

theorem ef_mG (m : MethodId) (x0 : Addr) (x1 : Int32) : entryFrame m #[(.ref x0), (.int x1)] 2 = mkF m 0 #[.val (.ref x0), .val (.int x1)] [] := by first | (simp [entryFrame, mkF, argsToLocals, Value.category]; done) | rfl
def Q_mG (Z : State) (a : Addr) (pp : Int32) (oo : Addr) (co : Cell) (qq : Int32) (h0 : Heap) (n0 : Nat) (v : Option Value) (h : Heap) (L : List Loc) : Prop := ∃ xx : Addr, ∃ kk : ClassId, v = some (.ref xx) ∧ Fr n0 L ∧ Keep h0 h [a] ∧ n0 ≤ xx ∧ h0.size ≤ xx ∧ Exa Z h a "com/example/granulock/granulock/ResourceTree$Ledger" ∧ Fld Z h a "com/example/granulock/granulock/ResourceTree$Ledger" "held" "[Lcom/example/granulock/granulock/Resource$Holder;" (.ref xx) ∧ Arr Z h xx (newA kk (.object "com/example/granulock/granulock/Resource$Holder") pp) (.object "com/example/granulock/granulock/Resource$Holder")
set_option maxRecDepth 65536 in
set_option maxHeartbeats 40000000 in
theorem rm_mG (l : Launch) (Z : State) (a0 : Array Value) (hw : ∀ d ∈ tables_1, d.before a0 Z = true) (ws : List Jvm.Cond) (a : Addr) (pp : Int32) (oo : Addr) (co : Cell) (qq : Int32) (h0 : Heap) (n0 : Nat) (Z0 : n0 ≤ h0.size) (H0_E : Exa Z h0 a "com/example/granulock/granulock/ResourceTree$Ledger") (H1_F : Fld Z h0 a "com/example/granulock/granulock/ResourceTree$Ledger" "held" "[Lcom/example/granulock/granulock/Resource$Holder;" (.ref oo)) (ga : n0 ≤ a) (hp0 : ¬ pp < (0 : Int32)) (hp15 : pp.toNatClampNeg ≤ 15) (H5_R : Arr Z h0 oo co (.object "com/example/granulock/granulock/Resource$Holder")) (hco : co.slots.size = qq.toNatClampNeg) (hq : ¬ qq < (0 : Int32)) (nao : a ≠ oo) (hlt : qq < pp) :
    MetFree l (⟨"com/example/granulock/granulock/ResourceTree$Ledger", "held", "(I)[Lcom/example/granulock/granulock/Resource$Holder;"⟩ : MethodName) (head1 (Jvm.Cond.code (⟨"com/example/granulock/granulock/ResourceTree$Ledger", "held", "(I)[Lcom/example/granulock/granulock/Resource$Holder;"⟩ : MethodName) prog_43_method_3_code 2 (some (.array (.object "com/example/granulock/granulock/Resource$Holder"))) :: ws) ({ frames := 0, cells := 1, slots := 15, locals := 0 } : Room)) (fun as_ U_ => as_ = #[(.ref a), (.int pp)] ∧ Z.Warmed39 U_.vm ∧ U_.heap = h0) (fun _ _ _ _ _ => True) (fun _ U o U' => ∃ v L, o = .returned v ∧ Q_mG Z a pp oo co qq h0 n0 v U'.heap L ∧ FrameEnd U o U' L ({ frames := 0, cells := 1, slots := 15, locals := 0 } : Room).cells ({ frames := 0, cells := 1, slots := 15, locals := 0 } : Room).slots) := by
  refine MetFree.of_bodySF (plainFor_of_name pn_3) hisR ?_
  intro p e s m args below meth c s₁ Bd hml0 hP hK
  obtain ⟨rfl, hZ, hh⟩ := hP
  have hx := Bd.exec
  have hby := Bd.bytes
  have hml : c.maxLocals = 2 := hml0
  have hown : s.vm.findClass "com/example/granulock/granulock/ResourceTree$Ledger" = some m.cls := findClass_of_methodNamed Bd.named
  have hnm := (name_of_methodNamed Bd.named Bd.method).1
  have X0 : Stand p l e ({ frames := 0, cells := 1, slots := 15, locals := 0 } : Room) s m #[(.ref a), (.int pp)] below meth c s₁ [] 0 0 := Stand.of_body Bd
  have e0 : s₁.heap = h0 := by rw [← hh, Bd.state]; rfl
  have N0 := Fr.nil n0
  have pre0 : ∀ t, Steps p.tables e below (s₁.setTop (mkF m 0 #[.val (.ref a), .val (.int pp)] [])) t → Steps p.tables e below (s₁.setTop (entryFrame m #[(.ref a), (.int pp)] 2)) t := fun t k => castTop (ef_mG m a pp) k
  have K0 : Keep h0 h0 [a] := Keep.refl h0 [a]
  obtain ⟨T1, X1, e1, st1⟩ := getF X0 hx hZ hown (host := "") (Or.inl (hw _ (List.mem_of_getElem? (i := 32) rfl))) Via.refl e0 H1_F (g := (mkF m 1 #[.val (.ref a), .val (.int pp)] [(.ref a)])) rfl rfl (hb hby d6_1)
  obtain ⟨T2, X2, e2, st2⟩ := getF X1 hx hZ hown (host := "") (Or.inl (hw _ (List.mem_of_getElem? (i := 32) rfl))) Via.refl e1 H1_F (g := (mkF m 8 #[.val (.ref a), .val (.int pp)] [(.ref a)])) rfl rfl (hb hby d6_8)
  obtain ⟨T3, h3, k3, X3, e3, E3, A3, O3, st3⟩ := newR X2 hx hZ hown (hw _ (List.mem_of_getElem? (i := 34) rfl)) (hw _ (List.mem_of_getElem? (i := 35) rfl)) e2 (g := (mkF m 18 #[.val (.ref a), .val (.int pp)] [(.int pp), (.ref a)])) rfl (hb hby d6_18) rfl hp0 (cap := 15) hp15 (by decide) (by decide) (by decide)
  obtain ⟨b3, g3⟩ : ∃ z, z = h0.size := ⟨_, rfl⟩
  have ne_a_b3 : a ≠ b3 := Nat.ne_of_lt (Nat.lt_of_lt_of_le H0_E.lt (Nat.le_of_eq g3.symm))
  have ne_oo_b3 : oo ≠ b3 := Nat.ne_of_lt (Nat.lt_of_lt_of_le H5_R.lt (Nat.le_of_eq g3.symm))
  have ge_b3 : n0 ≤ b3 := Nat.le_trans Z0 (Nat.le_of_eq g3.symm)
  have sz_b3 : h0.size ≤ b3 := Nat.le_trans K0.1 (Nat.le_of_eq g3.symm)
  rw [← g3] at A3 st3
  have E4 : Exa Z h3 a "com/example/granulock/granulock/ResourceTree$Ledger" := H0_E.ext E3
  have F5 : Fld Z h3 a "com/example/granulock/granulock/ResourceTree$Ledger" "held" "[Lcom/example/granulock/granulock/Resource$Holder;" (.ref oo) := H1_F.ext E3
  have R6 : Arr Z h3 oo co (.object "com/example/granulock/granulock/Resource$Holder") := H5_R.ext E3
  have K3 : Keep h0 h3 [a] := K0.ext E3
  have Zs7 : n0 ≤ h3.size := (Nat.le_trans Z0 E3.1)
  have V3 : Arr Z h3 b3 (newA k3 (.object "com/example/granulock/granulock/Resource$Holder") pp) (.object "com/example/granulock/granulock/Resource$Holder") := A3
  have Ov_b3 := O3
  obtain ⟨T8, h8, X8, e8, W8, st8⟩ := putF X3 hx hZ hown (host := "") (Or.inl (hw _ (List.mem_of_getElem? (i := 32) rfl))) Via.refl e3 F5 E4 (Or.inl (hw _ (List.mem_of_getElem? (i := 33) rfl))) (hw _ (List.mem_of_getElem? (i := 1) rfl)) (ty := (.array (.object "com/example/granulock/granulock/Resource$Holder"))) (by decide) rfl rfl (g := (mkF m 21 #[.val (.ref a), .val (.int pp)] [(.ref b3), (.ref a)])) rfl rfl (hb hby d6_21)
  have Fw8 : Fld Z h8 a "com/example/granulock/granulock/ResourceTree$Ledger" "held" "[Lcom/example/granulock/granulock/Resource$Holder;" (.ref b3) := F5.same W8
  have E9 : Exa Z h8 a "com/example/granulock/granulock/ResourceTree$Ledger" := E4.wr W8
  have R10 : Arr Z h8 oo co (.object "com/example/granulock/granulock/Resource$Holder") := R6.other W8 (Ne.symm nao)
  have R11 : Arr Z h8 b3 (newA k3 (.object "com/example/granulock/granulock/Resource$Holder") pp) (.object "com/example/granulock/granulock/Resource$Holder") := V3.other W8 (Ne.symm ne_a_b3)
  have N8 := Fr.snoc X8 N0 ga
  have K8 : Keep h0 h8 [a] := K3.wr W8 (Or.inl (List.mem_of_getElem? (i := 0) rfl))
  have Zs12 : n0 ≤ h8.size := (Nat.le_trans Zs7 (Keep.of_wr W8).1)
  obtain ⟨T13, X13, e13, st13⟩ := getF X8 hx hZ hown (host := "") (Or.inl (hw _ (List.mem_of_getElem? (i := 32) rfl))) Via.refl e8 Fw8 (g := (mkF m 25 #[.val (.ref a), .val (.int pp)] [(.ref a)])) rfl rfl (hb hby d6_25)
  have pre14 := fun (t : State) (k : Steps p.tables e below (T13.setTop (mkF m 28 #[.val (.ref a), .val (.int pp)] [(.ref b3)])) t) => pre0 t (by
    refine XS.aloadN X0.here hx rfl (hb hby d6_0) rfl rfl ?_
    show Steps p.tables e below (s₁.setTop (mkF m 1 #[.val (.ref a), .val (.int pp)] [(.ref a)])) _
    refine st1 _ ?_
    show Steps p.tables e below (T1.setTop (mkF m 4 #[.val (.ref a), .val (.int pp)] [(.ref oo)])) _
    refine XS.ifnullNo X1.here hx rfl (hb hby d6_4) rfl ?_
    show Steps p.tables e below (T1.setTop (mkF m 7 #[.val (.ref a), .val (.int pp)] [])) _
    refine XS.aloadN X1.here hx rfl (hb hby d6_7) rfl rfl ?_
    show Steps p.tables e below (T1.setTop (mkF m 8 #[.val (.ref a), .val (.int pp)] [(.ref a)])) _
    refine st2 _ ?_
    show Steps p.tables e below (T2.setTop (mkF m 11 #[.val (.ref a), .val (.int pp)] [(.ref oo)])) _
    refine X2.arraylength hx (by rw [e2]; exact H5_R.1) (State.isArrayOf_alike hZ.alike H5_R.2.1) (g := (mkF m 11 #[.val (.ref a), .val (.int pp)] [(.ref oo)])) rfl rfl (hb hby d6_11) _ ?_
    rw [show co.slots.size.toInt32 = qq from (len_of hco hq)]
    show Steps p.tables e below (T2.setTop (mkF m 12 #[.val (.ref a), .val (.int pp)] [(.int qq)])) _
    refine XS.iloadN X2.here hx rfl (hb hby d6_12) rfl ?_
    show Steps p.tables e below (T2.setTop (mkF m 13 #[.val (.ref a), .val (.int pp)] [(.int pp), (.int qq)])) _
    refine XS.icmpNo X2.here hx rfl (hb hby d6_13) rfl (tlt hlt).2.1 ?_
    show Steps p.tables e below (T2.setTop (mkF m 16 #[.val (.ref a), .val (.int pp)] [])) _
    refine XS.aloadN X2.here hx rfl (hb hby d6_16) rfl rfl ?_
    show Steps p.tables e below (T2.setTop (mkF m 17 #[.val (.ref a), .val (.int pp)] [(.ref a)])) _
    refine XS.iloadN X2.here hx rfl (hb hby d6_17) rfl ?_
    show Steps p.tables e below (T2.setTop (mkF m 18 #[.val (.ref a), .val (.int pp)] [(.int pp), (.ref a)])) _
    refine st3 _ ?_
    show Steps p.tables e below (T3.setTop (mkF m 21 #[.val (.ref a), .val (.int pp)] [(.ref b3), (.ref a)])) _
    refine st8 _ ?_
    show Steps p.tables e below (T8.setTop (mkF m 24 #[.val (.ref a), .val (.int pp)] [])) _
    refine XS.aloadN X8.here hx rfl (hb hby d6_24) rfl rfl ?_
    show Steps p.tables e below (T8.setTop (mkF m 25 #[.val (.ref a), .val (.int pp)] [(.ref a)])) _
    refine st13 _ ?_
    show Steps p.tables e below (T13.setTop (mkF m 28 #[.val (.ref a), .val (.int pp)] [(.ref b3)])) _
    exact k)
  obtain ⟨fs, hr, hrun, hended, hW, hsame⟩ := X13.leave (v := some (.ref b3)) (fun h => by rw [Bd.returns] at h; cases h)
  refine ⟨_, _, pre14 _ ?_, hrun, hended, _, _, rfl, ?_, ⟨_, rfl⟩, hW, hsame.mono (by decide) (by decide)⟩
  · jvm_step X13.here [X13.here.top, hx, (hb hby d6_28), X13.method', Bd.returns, Value.isRef, FieldType.isReference]
    first | (intro acts; rw [hr _ acts rfl rfl rfl]) | rw [hr _ _ rfl rfl rfl]
    exact Steps.refl _
  · show Q_mG Z a pp oo co qq h0 n0 _ T13.heap _
    rw [e13]
    exact ⟨b3, k3, rfl, N8, K8, ge_b3, sz_b3, E9, Fw8, R11⟩

theorem ef_mK (m : MethodId) (x0 : Addr) (x1 : Int32) : entryFrame m #[(.ref x0), (.int x1)] 2 = mkF m 0 #[.val (.ref x0), .val (.int x1)] [] := by first | (simp [entryFrame, mkF, argsToLocals, Value.category]; done) | rfl
def Q_mK (Z : State) (a : Addr) (pp : Int32) (oo : Addr) (co : Cell) (qq : Int32) (h0 : Heap) (n0 : Nat) (v : Option Value) (h : Heap) (L : List Loc) : Prop := v = some (.ref oo) ∧ Fr n0 L ∧ h = h0
set_option maxRecDepth 65536 in
set_option maxHeartbeats 40000000 in
theorem rm_mK (l : Launch) (Z : State) (a0 : Array Value) (hw : ∀ d ∈ tables_1, d.before a0 Z = true) (ws : List Jvm.Cond) (a : Addr) (pp : Int32) (oo : Addr) (co : Cell) (qq : Int32) (h0 : Heap) (n0 : Nat) (Z0 : n0 ≤ h0.size) (H0_E : Exa Z h0 a "com/example/granulock/granulock/ResourceTree$Ledger") (H1_F : Fld Z h0 a "com/example/granulock/granulock/ResourceTree$Ledger" "held" "[Lcom/example/granulock/granulock/Resource$Holder;" (.ref oo)) (ga : n0 ≤ a) (hp0 : ¬ pp < (0 : Int32)) (hp15 : pp.toNatClampNeg ≤ 15) (H5_R : Arr Z h0 oo co (.object "com/example/granulock/granulock/Resource$Holder")) (hco : co.slots.size = qq.toNatClampNeg) (hq : ¬ qq < (0 : Int32)) (nao : a ≠ oo) (hge : ¬ (qq < pp)) :
    MetFree l (⟨"com/example/granulock/granulock/ResourceTree$Ledger", "held", "(I)[Lcom/example/granulock/granulock/Resource$Holder;"⟩ : MethodName) (head1 (Jvm.Cond.code (⟨"com/example/granulock/granulock/ResourceTree$Ledger", "held", "(I)[Lcom/example/granulock/granulock/Resource$Holder;"⟩ : MethodName) prog_43_method_3_code 2 (some (.array (.object "com/example/granulock/granulock/Resource$Holder"))) :: ws) ({ frames := 0, cells := 0, slots := 0, locals := 0 } : Room)) (fun as_ U_ => as_ = #[(.ref a), (.int pp)] ∧ Z.Warmed39 U_.vm ∧ U_.heap = h0) (fun _ _ _ _ _ => True) (fun _ U o U' => ∃ v L, o = .returned v ∧ Q_mK Z a pp oo co qq h0 n0 v U'.heap L ∧ FrameEnd U o U' L ({ frames := 0, cells := 0, slots := 0, locals := 0 } : Room).cells ({ frames := 0, cells := 0, slots := 0, locals := 0 } : Room).slots) := by
  refine MetFree.of_bodySF (plainFor_of_name pn_3) hisR ?_
  intro p e s m args below meth c s₁ Bd hml0 hP hK
  obtain ⟨rfl, hZ, hh⟩ := hP
  have hx := Bd.exec
  have hby := Bd.bytes
  have hml : c.maxLocals = 2 := hml0
  have hown : s.vm.findClass "com/example/granulock/granulock/ResourceTree$Ledger" = some m.cls := findClass_of_methodNamed Bd.named
  have hnm := (name_of_methodNamed Bd.named Bd.method).1
  have X0 : Stand p l e ({ frames := 0, cells := 0, slots := 0, locals := 0 } : Room) s m #[(.ref a), (.int pp)] below meth c s₁ [] 0 0 := Stand.of_body Bd
  have e0 : s₁.heap = h0 := by rw [← hh, Bd.state]; rfl
  have N0 := Fr.nil n0
  have pre0 : ∀ t, Steps p.tables e below (s₁.setTop (mkF m 0 #[.val (.ref a), .val (.int pp)] [])) t → Steps p.tables e below (s₁.setTop (entryFrame m #[(.ref a), (.int pp)] 2)) t := fun t k => castTop (ef_mK m a pp) k
  obtain ⟨T1, X1, e1, st1⟩ := getF X0 hx hZ hown (host := "") (Or.inl (hw _ (List.mem_of_getElem? (i := 32) rfl))) Via.refl e0 H1_F (g := (mkF m 1 #[.val (.ref a), .val (.int pp)] [(.ref a)])) rfl rfl (hb hby d6_1)
  obtain ⟨T2, X2, e2, st2⟩ := getF X1 hx hZ hown (host := "") (Or.inl (hw _ (List.mem_of_getElem? (i := 32) rfl))) Via.refl e1 H1_F (g := (mkF m 8 #[.val (.ref a), .val (.int pp)] [(.ref a)])) rfl rfl (hb hby d6_8)
  obtain ⟨T3, X3, e3, st3⟩ := getF X2 hx hZ hown (host := "") (Or.inl (hw _ (List.mem_of_getElem? (i := 32) rfl))) Via.refl e2 H1_F (g := (mkF m 25 #[.val (.ref a), .val (.int pp)] [(.ref a)])) rfl rfl (hb hby d6_25)
  have pre4 := fun (t : State) (k : Steps p.tables e below (T3.setTop (mkF m 28 #[.val (.ref a), .val (.int pp)] [(.ref oo)])) t) => pre0 t (by
    refine XS.aloadN X0.here hx rfl (hb hby d6_0) rfl rfl ?_
    show Steps p.tables e below (s₁.setTop (mkF m 1 #[.val (.ref a), .val (.int pp)] [(.ref a)])) _
    refine st1 _ ?_
    show Steps p.tables e below (T1.setTop (mkF m 4 #[.val (.ref a), .val (.int pp)] [(.ref oo)])) _
    refine XS.ifnullNo X1.here hx rfl (hb hby d6_4) rfl ?_
    show Steps p.tables e below (T1.setTop (mkF m 7 #[.val (.ref a), .val (.int pp)] [])) _
    refine XS.aloadN X1.here hx rfl (hb hby d6_7) rfl rfl ?_
    show Steps p.tables e below (T1.setTop (mkF m 8 #[.val (.ref a), .val (.int pp)] [(.ref a)])) _
    refine st2 _ ?_
    show Steps p.tables e below (T2.setTop (mkF m 11 #[.val (.ref a), .val (.int pp)] [(.ref oo)])) _
    refine X2.arraylength hx (by rw [e2]; exact H5_R.1) (State.isArrayOf_alike hZ.alike H5_R.2.1) (g := (mkF m 11 #[.val (.ref a), .val (.int pp)] [(.ref oo)])) rfl rfl (hb hby d6_11) _ ?_
    rw [show co.slots.size.toInt32 = qq from (len_of hco hq)]
    show Steps p.tables e below (T2.setTop (mkF m 12 #[.val (.ref a), .val (.int pp)] [(.int qq)])) _
    refine XS.iloadN X2.here hx rfl (hb hby d6_12) rfl ?_
    show Steps p.tables e below (T2.setTop (mkF m 13 #[.val (.ref a), .val (.int pp)] [(.int pp), (.int qq)])) _
    refine XS.icmpYes X2.here hx rfl (pc0 := 13) (pc' := 24) rfl (hb hby d6_13) rfl (flt hge).2.1 (by decide) (by decide) ?_
    show Steps p.tables e below (T2.setTop (mkF m 24 #[.val (.ref a), .val (.int pp)] [])) _
    refine XS.aloadN X2.here hx rfl (hb hby d6_24) rfl rfl ?_
    show Steps p.tables e below (T2.setTop (mkF m 25 #[.val (.ref a), .val (.int pp)] [(.ref a)])) _
    refine st3 _ ?_
    show Steps p.tables e below (T3.setTop (mkF m 28 #[.val (.ref a), .val (.int pp)] [(.ref oo)])) _
    exact k)
  obtain ⟨fs, hr, hrun, hended, hW, hsame⟩ := X3.leave (v := some (.ref oo)) (fun h => by rw [Bd.returns] at h; cases h)
  refine ⟨_, _, pre4 _ ?_, hrun, hended, _, _, rfl, ?_, ⟨_, rfl⟩, hW, hsame.mono (by decide) (by decide)⟩
  · jvm_step X3.here [X3.here.top, hx, (hb hby d6_28), X3.method', Bd.returns, Value.isRef, FieldType.isReference]
    first | (intro acts; rw [hr _ acts rfl rfl rfl]) | rw [hr _ _ rfl rfl rfl]
    exact Steps.refl _
  · show Q_mK Z a pp oo co qq h0 n0 _ T3.heap _
    rw [e3]
    exact ⟨rfl, N0, rfl⟩

theorem ef_law (m : MethodId) (x0 : Int32) (x1 : Int32) (x2 : Int32) : entryFrame m #[(.int x0), (.int x1), (.int x2)] maxLocals = mkF m 0 #[.val (.int x0), .val (.int x1), .val (.int x2), .unset, .unset, .unset, .unset, .unset, .unset, .unset, .unset] [] := by first | (simp [entryFrame, mkF, argsToLocals, Value.category, maxLocals]; done) | rfl
def Q_law (Z : State) (p1 : Int32) (p2 : Int32) (p3 : Int32) (wE : Addr) (h0 : Heap) (n0 : Nat) (v : Option Value) (h : Heap) (L : List Loc) : Prop := v = some (.int (1 : Int32)) ∧ Fr n0 L ∧ Keep h0 h []
set_option maxRecDepth 65536 in
set_option maxHeartbeats 40000000 in
theorem rm_law (l : Launch) (Z : State) (a0 : Array Value) (hw : ∀ d ∈ tables_1, d.before a0 Z = true) (ws : List Jvm.Cond) (p1 : Int32) (p2 : Int32) (p3 : Int32) (wE : Addr) (h0 : Heap) (n0 : Nat) (Z0 : n0 ≤ h0.size) (H0_S : Sta Z h0 "java/util/ImmutableCollections" "EMPTY_LIST" "Ljava/util/ImmutableCollections$ListN;" (.ref wE)) :
    MetFree l x (head1 (Jvm.Cond.code x code maxLocals ret :: ws) room_1) (fun as_ U_ => as_ = #[(.int p1), (.int p2), (.int p3)] ∧ Z.Warmed39 U_.vm ∧ U_.heap = h0) (fun _ _ _ _ _ => True) (fun _ U o U' => ∃ v L, o = .returned v ∧ Q_law Z p1 p2 p3 wE h0 n0 v U'.heap L ∧ FrameEnd U o U' L 4 50) := by
  refine MetFree.of_bodySF (plainFor_of_name pn_4) hisR ?_
  intro p e s m args below meth c s₁ Bd hml0 hP hK
  obtain ⟨rfl, hZ, hh⟩ := hP
  have hx := Bd.exec
  have hby := Bd.bytes
  have hml : c.maxLocals = 11 := hml0
  have hown : s.vm.findClass "com/example/granulock/granulock/LedgerHeldPinLaw" = some m.cls := findClass_of_methodNamed Bd.named
  have hnm := (name_of_methodNamed Bd.named Bd.method).1
  have X0 : Stand p l e room_1 s m #[(.int p1), (.int p2), (.int p3)] below meth c s₁ [] 0 0 := Stand.of_body Bd
  have e0 : s₁.heap = h0 := by rw [← hh, Bd.state]; rfl
  have N0 := Fr.nil n0
  have pre0 : ∀ t, Steps p.tables e below (s₁.setTop (mkF m 0 #[.val (.int p1), .val (.int p2), .val (.int p3), .unset, .unset, .unset, .unset, .unset, .unset, .unset, .unset] [])) t → Steps p.tables e below (s₁.setTop (entryFrame m #[(.int p1), (.int p2), (.int p3)] maxLocals)) t := fun t k => castTop (ef_law m p1 p2 p3) k
  have K0 : Keep h0 h0 [] := Keep.refl h0 []
  obtain ⟨T1, h1, X1, e1, E1, A1, D1, -, st1⟩ := newO X0 hx hZ hown (hw _ (List.mem_of_getElem? (i := 0) rfl)) (hw _ (List.mem_of_getElem? (i := 1) rfl)) (hw _ (List.mem_of_getElem? (i := 2) rfl)) e0 (g := (mkF m 17 #[.val (.int p1), .val (.int p2), .val (.int p3), .val (.int (p1 &&& (15 : Int32))), .val (.int (p2 &&& (15 : Int32))), .val (.int (p3 &&& (15 : Int32))), .unset, .unset, .unset, .unset, .unset] [])) rfl (hb hby at_17) (by decide) (by decide)
  obtain ⟨b1, g1⟩ : ∃ z, z = h0.size := ⟨_, rfl⟩
  have ge_b1 : n0 ≤ b1 := Nat.le_trans Z0 (Nat.le_of_eq g1.symm)
  have sz_b1 : h0.size ≤ b1 := Nat.le_trans K0.1 (Nat.le_of_eq g1.symm)
  rw [← g1] at A1 D1 st1
  have S2 : Sta Z h1 "java/util/ImmutableCollections" "EMPTY_LIST" "Ljava/util/ImmutableCollections$ListN;" (.ref wE) := H0_S.ext E1
  have K1 : Keep h0 h1 [] := K0.ext E1
  have Zs3 : n0 ≤ h1.size := (Nat.le_trans Z0 E1.1)
  have F4 : Fld Z h1 b1 "com/example/granulock/granulock/ResourceTree$Ledger" "underway" "Ljava/util/List;" .null := D1 (Or.inl (hw _ (List.mem_of_getElem? (i := 26) rfl))) (ty := (.object "java/util/List")) (by decide)
  have F5 : Fld Z h1 b1 "com/example/granulock/granulock/ResourceTree$Ledger" "held" "[Lcom/example/granulock/granulock/Resource$Holder;" .null := D1 (Or.inl (hw _ (List.mem_of_getElem? (i := 33) rfl))) (ty := (.array (.object "com/example/granulock/granulock/Resource$Holder"))) (by decide)
  obtain ⟨_, _, ⟨T6, L6, k6, n6⟩, -, X6, ⟨Lc6, hQ6, l6, y6, z6⟩, st6⟩ := X1.specialBack hx (y := (⟨"com/example/granulock/granulock/ResourceTree$Ledger", "<init>", "()V"⟩ : MethodName)) rfl hown (mvT hZ (hw _ (List.mem_of_getElem? (i := 3) rfl))) (mvT hZ (hw _ (List.mem_of_getElem? (i := 4) rfl))) (mvT hZ (hw _ (List.mem_of_getElem? (i := 5) rfl))) (by decide) (backOf (W := 1) (rm_ini l Z a0 hw [] b1 wE h1 n0 Zs3 A1 F4 F5 S2 ge_b1) hZ (hw _ (List.mem_of_getElem? (i := 5) rfl)) (hw _ (List.mem_of_getElem? (i := 2) rfl)) (by decide) (by decide)) (g := (mkF m 21 #[.val (.int p1), .val (.int p2), .val (.int p3), .val (.int (p1 &&& (15 : Int32))), .val (.int (p2 &&& (15 : Int32))), .val (.int (p3 &&& (15 : Int32))), .unset, .unset, .unset, .unset, .unset] [(.ref b1), (.ref b1)])) rfl (by rw [hml]; rfl) (Steps.refl _) (a := b1) (argsL := []) (rest := [(.ref b1)]) (lenOf pd_0 rfl) rfl (by show 2 * 0 + _ ≤ _; exact Nat.le_of_eq rfl) (hb hby at_21) (fun _ _ => ⟨rfl, e1, (by decide : 1 + 0 ≤ _), (by decide : 5 + 0 ≤ _)⟩)
  dsimp only [Pt.U, Pt.locs, Pt.cells, Pt.slots] at X6 l6 y6 z6 st6 hQ6
  subst l6 y6 z6
  obtain ⟨rfl, N6q, hq7, E8, F9⟩ := hQ6
  have N6 := Fr.app N0 N6q
  have S10 : Sta Z T6.heap "java/util/ImmutableCollections" "EMPTY_LIST" "Ljava/util/ImmutableCollections$ListN;" (.ref wE) := own_sta_keep S2 hq7 (allS (own_ns_exa A1) all0)
  have K6 : Keep h0 T6.heap [] := K1.trans hq7 (allS (Or.inr sz_b1) all0)
  have Zs11 : n0 ≤ T6.heap.size := (Nat.le_trans Zs3 hq7.1)
  obtain ⟨cq12, kq12, q12a, q12b, q12c⟩ := isOf hZ rfl E8
  obtain ⟨_, _, ⟨T12, L12, k12, n12⟩, -, X12, ⟨Lc12, hQ12, l12, y12, z12⟩, st12⟩ := X6.virtualBack hx (y := (⟨"com/example/granulock/granulock/ResourceTree$Ledger", "held", "(I)[Lcom/example/granulock/granulock/Resource$Holder;"⟩ : MethodName)) (z := (⟨"com/example/granulock/granulock/ResourceTree$Ledger", "held", "(I)[Lcom/example/granulock/granulock/Resource$Holder;"⟩ : MethodName)) hown (mvT hZ (hw _ (List.mem_of_getElem? (i := 27) rfl))) (mvT hZ (hw _ (List.mem_of_getElem? (i := 28) rfl))) (notFace_of_selects (args := #[]) (mvT hZ (hw _ (List.mem_of_getElem? (i := 30) rfl)))) (mvT hZ (hw _ (List.mem_of_getElem? (i := 30) rfl))) (mvT hZ (hw _ (List.mem_of_getElem? (i := 29) rfl))) (by decide) (backOf (W := 0) (rm_mN l Z a0 hw [] b1 (p1 &&& (15 : Int32)) T6.heap n0 Zs11 E8 F9 ge_b1 (own_15 p1).1 (own_15 p1).2) hZ (hw _ (List.mem_of_getElem? (i := 31) rfl)) (hw _ (List.mem_of_getElem? (i := 2) rfl)) (by decide) (by decide)) q12a q12c (g := (mkF m 29 #[.val (.int p1), .val (.int p2), .val (.int p3), .val (.int (p1 &&& (15 : Int32))), .val (.int (p2 &&& (15 : Int32))), .val (.int (p3 &&& (15 : Int32))), .val (.ref b1), .unset, .unset, .unset, .unset] [(.int (p1 &&& (15 : Int32))), (.ref b1)])) rfl (by rw [hml]; rfl) (Steps.refl _) (argsL := [(.int (p1 &&& (15 : Int32)))]) (rest := []) (lenOf pd_2 rfl) rfl (by show 2 * 0 + _ ≤ _; exact Nat.le_of_eq rfl) (hb hby at_29) (fun _ _ => ⟨rfl, rfl, (by decide : 1 + 1 ≤ _), (by decide : 5 + 15 ≤ _)⟩)
  dsimp only [Pt.U, Pt.locs, Pt.cells, Pt.slots] at X12 l12 y12 z12 st12 hQ12
  subst l12 y12 z12
  obtain ⟨x13, x14, rfl, N12q, hq15, p16, p17, E18, F19, R20⟩ := hQ12
  have N12 := Fr.app N6 N12q
  have lt21 : b1 < T6.heap.size := E8.lt
  have S22 : Sta Z T12.heap "java/util/ImmutableCollections" "EMPTY_LIST" "Ljava/util/ImmutableCollections$ListN;" (.ref wE) := own_sta_keep S10 hq15 (allS (own_ns_exa E8) all0)
  have K12 : Keep h0 T12.heap [] := K6.trans hq15 (allS (Or.inr sz_b1) all0)
  have Zs23 : n0 ≤ T12.heap.size := (Nat.le_trans Zs11 hq15.1)
  have ne24 : b1 ≠ x13 := Nat.ne_of_lt (Nat.lt_of_lt_of_le lt21 p17)
  have sz25 : h0.size ≤ x13 := Nat.le_trans K6.1 p17
  have pre26 := fun (t : State) (k : Steps p.tables e below (T12.setTop (mkF m 48 #[.val (.int p1), .val (.int p2), .val (.int p3), .val (.int (p1 &&& (15 : Int32))), .val (.int (p2 &&& (15 : Int32))), .val (.int (p3 &&& (15 : Int32))), .val (.ref b1), .val (.ref x13), .unset, .unset, .unset] [])) t) => pre0 t (by
    refine XS.iloadN X0.here hx rfl (hb hby at_0) rfl ?_
    show Steps p.tables e below (s₁.setTop (mkF m 1 #[.val (.int p1), .val (.int p2), .val (.int p3), .unset, .unset, .unset, .unset, .unset, .unset, .unset, .unset] [(.int p1)])) _
    refine XS.bipush X0.here hx rfl (hb hby at_1) ?_
    show Steps p.tables e below (s₁.setTop (mkF m 3 #[.val (.int p1), .val (.int p2), .val (.int p3), .unset, .unset, .unset, .unset, .unset, .unset, .unset, .unset] [(.int (15 : Int32)), (.int p1)])) _
    refine XS.iand X0.here hx rfl (hb hby at_3) rfl ?_
    show Steps p.tables e below (s₁.setTop (mkF m 4 #[.val (.int p1), .val (.int p2), .val (.int p3), .unset, .unset, .unset, .unset, .unset, .unset, .unset, .unset] [(.int (p1 &&& (15 : Int32)))])) _
    refine XS.istoreN X0.here hx rfl (hb hby at_4) rfl (l' := #[.val (.int p1), .val (.int p2), .val (.int p3), .val (.int (p1 &&& (15 : Int32))), .unset, .unset, .unset, .unset, .unset, .unset, .unset]) rfl ?_
    show Steps p.tables e below (s₁.setTop (mkF m 5 #[.val (.int p1), .val (.int p2), .val (.int p3), .val (.int (p1 &&& (15 : Int32))), .unset, .unset, .unset, .unset, .unset, .unset, .unset] [])) _
    refine XS.iloadN X0.here hx rfl (hb hby at_5) rfl ?_
    show Steps p.tables e below (s₁.setTop (mkF m 6 #[.val (.int p1), .val (.int p2), .val (.int p3), .val (.int (p1 &&& (15 : Int32))), .unset, .unset, .unset, .unset, .unset, .unset, .unset] [(.int p2)])) _
    refine XS.bipush X0.here hx rfl (hb hby at_6) ?_
    show Steps p.tables e below (s₁.setTop (mkF m 8 #[.val (.int p1), .val (.int p2), .val (.int p3), .val (.int (p1 &&& (15 : Int32))), .unset, .unset, .unset, .unset, .unset, .unset, .unset] [(.int (15 : Int32)), (.int p2)])) _
    refine XS.iand X0.here hx rfl (hb hby at_8) rfl ?_
    show Steps p.tables e below (s₁.setTop (mkF m 9 #[.val (.int p1), .val (.int p2), .val (.int p3), .val (.int (p1 &&& (15 : Int32))), .unset, .unset, .unset, .unset, .unset, .unset, .unset] [(.int (p2 &&& (15 : Int32)))])) _
    refine XS.istore X0.here hx rfl (hb hby at_9) rfl (l' := #[.val (.int p1), .val (.int p2), .val (.int p3), .val (.int (p1 &&& (15 : Int32))), .val (.int (p2 &&& (15 : Int32))), .unset, .unset, .unset, .unset, .unset, .unset]) rfl ?_
    show Steps p.tables e below (s₁.setTop (mkF m 11 #[.val (.int p1), .val (.int p2), .val (.int p3), .val (.int (p1 &&& (15 : Int32))), .val (.int (p2 &&& (15 : Int32))), .unset, .unset, .unset, .unset, .unset, .unset] [])) _
    refine XS.iloadN X0.here hx rfl (hb hby at_11) rfl ?_
    show Steps p.tables e below (s₁.setTop (mkF m 12 #[.val (.int p1), .val (.int p2), .val (.int p3), .val (.int (p1 &&& (15 : Int32))), .val (.int (p2 &&& (15 : Int32))), .unset, .unset, .unset, .unset, .unset, .unset] [(.int p3)])) _
    refine XS.bipush X0.here hx rfl (hb hby at_12) ?_
    show Steps p.tables e below (s₁.setTop (mkF m 14 #[.val (.int p1), .val (.int p2), .val (.int p3), .val (.int (p1 &&& (15 : Int32))), .val (.int (p2 &&& (15 : Int32))), .unset, .unset, .unset, .unset, .unset, .unset] [(.int (15 : Int32)), (.int p3)])) _
    refine XS.iand X0.here hx rfl (hb hby at_14) rfl ?_
    show Steps p.tables e below (s₁.setTop (mkF m 15 #[.val (.int p1), .val (.int p2), .val (.int p3), .val (.int (p1 &&& (15 : Int32))), .val (.int (p2 &&& (15 : Int32))), .unset, .unset, .unset, .unset, .unset, .unset] [(.int (p3 &&& (15 : Int32)))])) _
    refine XS.istore X0.here hx rfl (hb hby at_15) rfl (l' := #[.val (.int p1), .val (.int p2), .val (.int p3), .val (.int (p1 &&& (15 : Int32))), .val (.int (p2 &&& (15 : Int32))), .val (.int (p3 &&& (15 : Int32))), .unset, .unset, .unset, .unset, .unset]) rfl ?_
    show Steps p.tables e below (s₁.setTop (mkF m 17 #[.val (.int p1), .val (.int p2), .val (.int p3), .val (.int (p1 &&& (15 : Int32))), .val (.int (p2 &&& (15 : Int32))), .val (.int (p3 &&& (15 : Int32))), .unset, .unset, .unset, .unset, .unset] [])) _
    refine st1 _ ?_
    show Steps p.tables e below (T1.setTop (mkF m 20 #[.val (.int p1), .val (.int p2), .val (.int p3), .val (.int (p1 &&& (15 : Int32))), .val (.int (p2 &&& (15 : Int32))), .val (.int (p3 &&& (15 : Int32))), .unset, .unset, .unset, .unset, .unset] [(.ref b1)])) _
    refine XS.dup X1.here hx rfl (hb hby at_20) rfl rfl ?_
    show Steps p.tables e below (T1.setTop (mkF m 21 #[.val (.int p1), .val (.int p2), .val (.int p3), .val (.int (p1 &&& (15 : Int32))), .val (.int (p2 &&& (15 : Int32))), .val (.int (p3 &&& (15 : Int32))), .unset, .unset, .unset, .unset, .unset] [(.ref b1), (.ref b1)])) _
    refine st6.trans ?_
    show Steps p.tables e below (T6.setTop (mkF m 24 #[.val (.int p1), .val (.int p2), .val (.int p3), .val (.int (p1 &&& (15 : Int32))), .val (.int (p2 &&& (15 : Int32))), .val (.int (p3 &&& (15 : Int32))), .unset, .unset, .unset, .unset, .unset] [(.ref b1)])) _
    refine XS.astore X6.here hx rfl (hb hby at_24) rfl rfl (l' := #[.val (.int p1), .val (.int p2), .val (.int p3), .val (.int (p1 &&& (15 : Int32))), .val (.int (p2 &&& (15 : Int32))), .val (.int (p3 &&& (15 : Int32))), .val (.ref b1), .unset, .unset, .unset, .unset]) rfl ?_
    show Steps p.tables e below (T6.setTop (mkF m 26 #[.val (.int p1), .val (.int p2), .val (.int p3), .val (.int (p1 &&& (15 : Int32))), .val (.int (p2 &&& (15 : Int32))), .val (.int (p3 &&& (15 : Int32))), .val (.ref b1), .unset, .unset, .unset, .unset] [])) _
    refine XS.aload X6.here hx rfl (hb hby at_26) rfl rfl ?_
    show Steps p.tables e below (T6.setTop (mkF m 28 #[.val (.int p1), .val (.int p2), .val (.int p3), .val (.int (p1 &&& (15 : Int32))), .val (.int (p2 &&& (15 : Int32))), .val (.int (p3 &&& (15 : Int32))), .val (.ref b1), .unset, .unset, .unset, .unset] [(.ref b1)])) _
    refine XS.iloadN X6.here hx rfl (hb hby at_28) rfl ?_
    show Steps p.tables e below (T6.setTop (mkF m 29 #[.val (.int p1), .val (.int p2), .val (.int p3), .val (.int (p1 &&& (15 : Int32))), .val (.int (p2 &&& (15 : Int32))), .val (.int (p3 &&& (15 : Int32))), .val (.ref b1), .unset, .unset, .unset, .unset] [(.int (p1 &&& (15 : Int32))), (.ref b1)])) _
    refine st12.trans ?_
    show Steps p.tables e below (T12.setTop (mkF m 32 #[.val (.int p1), .val (.int p2), .val (.int p3), .val (.int (p1 &&& (15 : Int32))), .val (.int (p2 &&& (15 : Int32))), .val (.int (p3 &&& (15 : Int32))), .val (.ref b1), .unset, .unset, .unset, .unset] [(.ref x13)])) _
    refine XS.astore X12.here hx rfl (hb hby at_32) rfl rfl (l' := #[.val (.int p1), .val (.int p2), .val (.int p3), .val (.int (p1 &&& (15 : Int32))), .val (.int (p2 &&& (15 : Int32))), .val (.int (p3 &&& (15 : Int32))), .val (.ref b1), .val (.ref x13), .unset, .unset, .unset]) rfl ?_
    show Steps p.tables e below (T12.setTop (mkF m 34 #[.val (.int p1), .val (.int p2), .val (.int p3), .val (.int (p1 &&& (15 : Int32))), .val (.int (p2 &&& (15 : Int32))), .val (.int (p3 &&& (15 : Int32))), .val (.ref b1), .val (.ref x13), .unset, .unset, .unset] [])) _
    refine XS.aload X12.here hx rfl (hb hby at_34) rfl rfl ?_
    show Steps p.tables e below (T12.setTop (mkF m 36 #[.val (.int p1), .val (.int p2), .val (.int p3), .val (.int (p1 &&& (15 : Int32))), .val (.int (p2 &&& (15 : Int32))), .val (.int (p3 &&& (15 : Int32))), .val (.ref b1), .val (.ref x13), .unset, .unset, .unset] [(.ref x13)])) _
    refine XS.ifnullNo X12.here hx rfl (hb hby at_36) rfl ?_
    show Steps p.tables e below (T12.setTop (mkF m 39 #[.val (.int p1), .val (.int p2), .val (.int p3), .val (.int (p1 &&& (15 : Int32))), .val (.int (p2 &&& (15 : Int32))), .val (.int (p3 &&& (15 : Int32))), .val (.ref b1), .val (.ref x13), .unset, .unset, .unset] [])) _
    refine XS.aload X12.here hx rfl (hb hby at_39) rfl rfl ?_
    show Steps p.tables e below (T12.setTop (mkF m 41 #[.val (.int p1), .val (.int p2), .val (.int p3), .val (.int (p1 &&& (15 : Int32))), .val (.int (p2 &&& (15 : Int32))), .val (.int (p3 &&& (15 : Int32))), .val (.ref b1), .val (.ref x13), .unset, .unset, .unset] [(.ref x13)])) _
    refine X12.arraylength hx R20.1 (State.isArrayOf_alike hZ.alike R20.2.1) (g := (mkF m 41 #[.val (.int p1), .val (.int p2), .val (.int p3), .val (.int (p1 &&& (15 : Int32))), .val (.int (p2 &&& (15 : Int32))), .val (.int (p3 &&& (15 : Int32))), .val (.ref b1), .val (.ref x13), .unset, .unset, .unset] [(.ref x13)])) rfl rfl (hb hby at_41) _ ?_
    rw [show (newA x14 (.object "com/example/granulock/granulock/Resource$Holder") (p1 &&& (15 : Int32))).slots.size.toInt32 = (p1 &&& (15 : Int32)) from (len_of (show (newA x14 (.object "com/example/granulock/granulock/Resource$Holder") (p1 &&& (15 : Int32))).slots.size = (p1 &&& (15 : Int32)).toNatClampNeg from (by simp only [sz_set, sz_new])) (own_15 p1).1)]
    show Steps p.tables e below (T12.setTop (mkF m 42 #[.val (.int p1), .val (.int p2), .val (.int p3), .val (.int (p1 &&& (15 : Int32))), .val (.int (p2 &&& (15 : Int32))), .val (.int (p3 &&& (15 : Int32))), .val (.ref b1), .val (.ref x13), .unset, .unset, .unset] [(.int (p1 &&& (15 : Int32)))])) _
    refine XS.iloadN X12.here hx rfl (hb hby at_42) rfl ?_
    show Steps p.tables e below (T12.setTop (mkF m 43 #[.val (.int p1), .val (.int p2), .val (.int p3), .val (.int (p1 &&& (15 : Int32))), .val (.int (p2 &&& (15 : Int32))), .val (.int (p3 &&& (15 : Int32))), .val (.ref b1), .val (.ref x13), .unset, .unset, .unset] [(.int (p1 &&& (15 : Int32))), (.int (p1 &&& (15 : Int32)))])) _
    refine XS.icmpYes X12.here hx rfl (pc0 := 43) (pc' := 48) rfl (hb hby at_43) rfl (teq (rfl : (p1 &&& (15 : Int32)) = (p1 &&& (15 : Int32)))).1 (by decide) (by decide) ?_
    show Steps p.tables e below (T12.setTop (mkF m 48 #[.val (.int p1), .val (.int p2), .val (.int p3), .val (.int (p1 &&& (15 : Int32))), .val (.int (p2 &&& (15 : Int32))), .val (.int (p3 &&& (15 : Int32))), .val (.ref b1), .val (.ref x13), .unset, .unset, .unset] [])) _
    exact k)
  by_cases hs27 : (p1 &&& (15 : Int32)) < (p2 &&& (15 : Int32))
  · obtain ⟨cq28, kq28, q28a, q28b, q28c⟩ := isOf hZ rfl E18
    obtain ⟨_, _, ⟨T28, L28, k28, n28⟩, -, X28, ⟨Lc28, hQ28, l28, y28, z28⟩, st28⟩ := X12.virtualBack hx (y := (⟨"com/example/granulock/granulock/ResourceTree$Ledger", "held", "(I)[Lcom/example/granulock/granulock/Resource$Holder;"⟩ : MethodName)) (z := (⟨"com/example/granulock/granulock/ResourceTree$Ledger", "held", "(I)[Lcom/example/granulock/granulock/Resource$Holder;"⟩ : MethodName)) hown (mvT hZ (hw _ (List.mem_of_getElem? (i := 27) rfl))) (mvT hZ (hw _ (List.mem_of_getElem? (i := 28) rfl))) (notFace_of_selects (args := #[]) (mvT hZ (hw _ (List.mem_of_getElem? (i := 30) rfl)))) (mvT hZ (hw _ (List.mem_of_getElem? (i := 30) rfl))) (mvT hZ (hw _ (List.mem_of_getElem? (i := 29) rfl))) (by decide) (backOf (W := 0) (rm_mG l Z a0 hw [] b1 (p2 &&& (15 : Int32)) x13 (newA x14 (.object "com/example/granulock/granulock/Resource$Holder") (p1 &&& (15 : Int32))) (p1 &&& (15 : Int32)) T12.heap n0 Zs23 E18 F19 ge_b1 (own_15 p2).1 (own_15 p2).2 R20 (by simp only [sz_set, sz_new]) (own_15 p1).1 ne24 hs27) hZ (hw _ (List.mem_of_getElem? (i := 31) rfl)) (hw _ (List.mem_of_getElem? (i := 2) rfl)) (by decide) (by decide)) q28a q28c (g := (mkF m 52 #[.val (.int p1), .val (.int p2), .val (.int p3), .val (.int (p1 &&& (15 : Int32))), .val (.int (p2 &&& (15 : Int32))), .val (.int (p3 &&& (15 : Int32))), .val (.ref b1), .val (.ref x13), .unset, .unset, .unset] [(.int (p2 &&& (15 : Int32))), (.ref b1)])) rfl (by rw [hml]; rfl) (Steps.refl _) (argsL := [(.int (p2 &&& (15 : Int32)))]) (rest := []) (lenOf pd_2 rfl) rfl (by show 2 * 0 + _ ≤ _; exact Nat.le_of_eq rfl) (hb hby at_52) (fun _ _ => ⟨rfl, rfl, (by decide : 2 + 1 ≤ _), (by decide : 20 + 15 ≤ _)⟩)
    dsimp only [Pt.U, Pt.locs, Pt.cells, Pt.slots] at X28 l28 y28 z28 st28 hQ28
    subst l28 y28 z28
    obtain ⟨x29, x30, rfl, N28q, hq31, p32, p33, E34, F35, R36⟩ := hQ28
    have N28 := Fr.app N12 N28q
    have lt37 : b1 < T12.heap.size := E18.lt
    have lt38 : x13 < T12.heap.size := R20.lt
    have S39 : Sta Z T28.heap "java/util/ImmutableCollections" "EMPTY_LIST" "Ljava/util/ImmutableCollections$ListN;" (.ref wE) := own_sta_keep S22 hq31 (allS (own_ns_exa E18) all0)
    have R40 : Arr Z T28.heap x13 (newA x14 (.object "com/example/granulock/granulock/Resource$Holder") (p1 &&& (15 : Int32))) (.object "com/example/granulock/granulock/Resource$Holder") := own_arr_keep R20 hq31 (ninS (Ne.symm ne24) nin0)
    have K28 : Keep h0 T28.heap [] := K12.trans hq31 (allS (Or.inr sz_b1) all0)
    have Zs41 : n0 ≤ T28.heap.size := (Nat.le_trans Zs23 hq31.1)
    have ne42 : b1 ≠ x29 := Nat.ne_of_lt (Nat.lt_of_lt_of_le lt37 p33)
    have ne43 : x13 ≠ x29 := Nat.ne_of_lt (Nat.lt_of_lt_of_le lt38 p33)
    have sz44 : h0.size ≤ x29 := Nat.le_trans K12.1 p33
    have pre45 := fun (t : State) (k : Steps p.tables e below (T28.setTop (mkF m 107 #[.val (.int p1), .val (.int p2), .val (.int p3), .val (.int (p1 &&& (15 : Int32))), .val (.int (p2 &&& (15 : Int32))), .val (.int (p3 &&& (15 : Int32))), .val (.ref b1), .val (.ref x13), .val (.ref x29), .val (.ref x29), .unset] [])) t) => pre26 t (by
      refine XS.aload X12.here hx rfl (hb hby at_48) rfl rfl ?_
      show Steps p.tables e below (T12.setTop (mkF m 50 #[.val (.int p1), .val (.int p2), .val (.int p3), .val (.int (p1 &&& (15 : Int32))), .val (.int (p2 &&& (15 : Int32))), .val (.int (p3 &&& (15 : Int32))), .val (.ref b1), .val (.ref x13), .unset, .unset, .unset] [(.ref b1)])) _
      refine XS.iload X12.here hx rfl (hb hby at_50) rfl ?_
      show Steps p.tables e below (T12.setTop (mkF m 52 #[.val (.int p1), .val (.int p2), .val (.int p3), .val (.int (p1 &&& (15 : Int32))), .val (.int (p2 &&& (15 : Int32))), .val (.int (p3 &&& (15 : Int32))), .val (.ref b1), .val (.ref x13), .unset, .unset, .unset] [(.int (p2 &&& (15 : Int32))), (.ref b1)])) _
      refine st28.trans ?_
      show Steps p.tables e below (T28.setTop (mkF m 55 #[.val (.int p1), .val (.int p2), .val (.int p3), .val (.int (p1 &&& (15 : Int32))), .val (.int (p2 &&& (15 : Int32))), .val (.int (p3 &&& (15 : Int32))), .val (.ref b1), .val (.ref x13), .unset, .unset, .unset] [(.ref x29)])) _
      refine XS.astore X28.here hx rfl (hb hby at_55) rfl rfl (l' := #[.val (.int p1), .val (.int p2), .val (.int p3), .val (.int (p1 &&& (15 : Int32))), .val (.int (p2 &&& (15 : Int32))), .val (.int (p3 &&& (15 : Int32))), .val (.ref b1), .val (.ref x13), .val (.ref x29), .unset, .unset]) rfl ?_
      show Steps p.tables e below (T28.setTop (mkF m 57 #[.val (.int p1), .val (.int p2), .val (.int p3), .val (.int (p1 &&& (15 : Int32))), .val (.int (p2 &&& (15 : Int32))), .val (.int (p3 &&& (15 : Int32))), .val (.ref b1), .val (.ref x13), .val (.ref x29), .unset, .unset] [])) _
      refine XS.aload X28.here hx rfl (hb hby at_57) rfl rfl ?_
      show Steps p.tables e below (T28.setTop (mkF m 59 #[.val (.int p1), .val (.int p2), .val (.int p3), .val (.int (p1 &&& (15 : Int32))), .val (.int (p2 &&& (15 : Int32))), .val (.int (p3 &&& (15 : Int32))), .val (.ref b1), .val (.ref x13), .val (.ref x29), .unset, .unset] [(.ref x29)])) _
      refine XS.ifnonnullYes X28.here hx rfl (pc0 := 59) (pc' := 64) rfl (hb hby at_59) rfl (by decide) (by decide) ?_
      show Steps p.tables e below (T28.setTop (mkF m 64 #[.val (.int p1), .val (.int p2), .val (.int p3), .val (.int (p1 &&& (15 : Int32))), .val (.int (p2 &&& (15 : Int32))), .val (.int (p3 &&& (15 : Int32))), .val (.ref b1), .val (.ref x13), .val (.ref x29), .unset, .unset] [])) _
      refine XS.iload X28.here hx rfl (hb hby at_64) rfl ?_
      show Steps p.tables e below (T28.setTop (mkF m 66 #[.val (.int p1), .val (.int p2), .val (.int p3), .val (.int (p1 &&& (15 : Int32))), .val (.int (p2 &&& (15 : Int32))), .val (.int (p3 &&& (15 : Int32))), .val (.ref b1), .val (.ref x13), .val (.ref x29), .unset, .unset] [(.int (p2 &&& (15 : Int32)))])) _
      refine XS.iloadN X28.here hx rfl (hb hby at_66) rfl ?_
      show Steps p.tables e below (T28.setTop (mkF m 67 #[.val (.int p1), .val (.int p2), .val (.int p3), .val (.int (p1 &&& (15 : Int32))), .val (.int (p2 &&& (15 : Int32))), .val (.int (p3 &&& (15 : Int32))), .val (.ref b1), .val (.ref x13), .val (.ref x29), .unset, .unset] [(.int (p1 &&& (15 : Int32))), (.int (p2 &&& (15 : Int32)))])) _
      refine XS.icmpYes X28.here hx rfl (pc0 := 67) (pc' := 86) rfl (hb hby at_67) rfl (tlt hs27).2.2.1 (by decide) (by decide) ?_
      show Steps p.tables e below (T28.setTop (mkF m 86 #[.val (.int p1), .val (.int p2), .val (.int p3), .val (.int (p1 &&& (15 : Int32))), .val (.int (p2 &&& (15 : Int32))), .val (.int (p3 &&& (15 : Int32))), .val (.ref b1), .val (.ref x13), .val (.ref x29), .unset, .unset] [])) _
      refine XS.aload X28.here hx rfl (hb hby at_86) rfl rfl ?_
      show Steps p.tables e below (T28.setTop (mkF m 88 #[.val (.int p1), .val (.int p2), .val (.int p3), .val (.int (p1 &&& (15 : Int32))), .val (.int (p2 &&& (15 : Int32))), .val (.int (p3 &&& (15 : Int32))), .val (.ref b1), .val (.ref x13), .val (.ref x29), .unset, .unset] [(.ref x29)])) _
      refine XS.aload X28.here hx rfl (hb hby at_88) rfl rfl ?_
      show Steps p.tables e below (T28.setTop (mkF m 90 #[.val (.int p1), .val (.int p2), .val (.int p3), .val (.int (p1 &&& (15 : Int32))), .val (.int (p2 &&& (15 : Int32))), .val (.int (p3 &&& (15 : Int32))), .val (.ref b1), .val (.ref x13), .val (.ref x29), .unset, .unset] [(.ref x13), (.ref x29)])) _
      refine Jvm.RoadKit.acmp (g := (mkF m 90 #[.val (.int p1), .val (.int p2), .val (.int p3), .val (.int (p1 &&& (15 : Int32))), .val (.int (p2 &&& (15 : Int32))), .val (.int (p3 &&& (15 : Int32))), .val (.ref b1), .val (.ref x13), .val (.ref x29), .unset, .unset] [(.ref x13), (.ref x29)])) X28 hx rfl rfl rfl (pc0 := 90) (pc' := 93) (same := false) rfl (hb hby at_90) rfl (decide_eq_false fun q => (Ne.symm ne43) (Value.ref.inj q)) (by decide) (by decide) ?_
      show Steps p.tables e below (T28.setTop (mkF m 93 #[.val (.int p1), .val (.int p2), .val (.int p3), .val (.int (p1 &&& (15 : Int32))), .val (.int (p2 &&& (15 : Int32))), .val (.int (p3 &&& (15 : Int32))), .val (.ref b1), .val (.ref x13), .val (.ref x29), .unset, .unset] [])) _
      refine XS.aload X28.here hx rfl (hb hby at_93) rfl rfl ?_
      show Steps p.tables e below (T28.setTop (mkF m 95 #[.val (.int p1), .val (.int p2), .val (.int p3), .val (.int (p1 &&& (15 : Int32))), .val (.int (p2 &&& (15 : Int32))), .val (.int (p3 &&& (15 : Int32))), .val (.ref b1), .val (.ref x13), .val (.ref x29), .unset, .unset] [(.ref x29)])) _
      refine X28.arraylength hx R36.1 (State.isArrayOf_alike hZ.alike R36.2.1) (g := (mkF m 95 #[.val (.int p1), .val (.int p2), .val (.int p3), .val (.int (p1 &&& (15 : Int32))), .val (.int (p2 &&& (15 : Int32))), .val (.int (p3 &&& (15 : Int32))), .val (.ref b1), .val (.ref x13), .val (.ref x29), .unset, .unset] [(.ref x29)])) rfl rfl (hb hby at_95) _ ?_
      rw [show (newA x30 (.object "com/example/granulock/granulock/Resource$Holder") (p2 &&& (15 : Int32))).slots.size.toInt32 = (p2 &&& (15 : Int32)) from (len_of (show (newA x30 (.object "com/example/granulock/granulock/Resource$Holder") (p2 &&& (15 : Int32))).slots.size = (p2 &&& (15 : Int32)).toNatClampNeg from (by simp only [sz_set, sz_new])) (own_15 p2).1)]
      show Steps p.tables e below (T28.setTop (mkF m 96 #[.val (.int p1), .val (.int p2), .val (.int p3), .val (.int (p1 &&& (15 : Int32))), .val (.int (p2 &&& (15 : Int32))), .val (.int (p3 &&& (15 : Int32))), .val (.ref b1), .val (.ref x13), .val (.ref x29), .unset, .unset] [(.int (p2 &&& (15 : Int32)))])) _
      refine XS.iload X28.here hx rfl (hb hby at_96) rfl ?_
      show Steps p.tables e below (T28.setTop (mkF m 98 #[.val (.int p1), .val (.int p2), .val (.int p3), .val (.int (p1 &&& (15 : Int32))), .val (.int (p2 &&& (15 : Int32))), .val (.int (p3 &&& (15 : Int32))), .val (.ref b1), .val (.ref x13), .val (.ref x29), .unset, .unset] [(.int (p2 &&& (15 : Int32))), (.int (p2 &&& (15 : Int32)))])) _
      refine XS.icmpYes X28.here hx rfl (pc0 := 98) (pc' := 103) rfl (hb hby at_98) rfl (teq (rfl : (p2 &&& (15 : Int32)) = (p2 &&& (15 : Int32)))).1 (by decide) (by decide) ?_
      show Steps p.tables e below (T28.setTop (mkF m 103 #[.val (.int p1), .val (.int p2), .val (.int p3), .val (.int (p1 &&& (15 : Int32))), .val (.int (p2 &&& (15 : Int32))), .val (.int (p3 &&& (15 : Int32))), .val (.ref b1), .val (.ref x13), .val (.ref x29), .unset, .unset] [])) _
      refine XS.aload X28.here hx rfl (hb hby at_103) rfl rfl ?_
      show Steps p.tables e below (T28.setTop (mkF m 105 #[.val (.int p1), .val (.int p2), .val (.int p3), .val (.int (p1 &&& (15 : Int32))), .val (.int (p2 &&& (15 : Int32))), .val (.int (p3 &&& (15 : Int32))), .val (.ref b1), .val (.ref x13), .val (.ref x29), .unset, .unset] [(.ref x29)])) _
      refine XS.astore X28.here hx rfl (hb hby at_105) rfl rfl (l' := #[.val (.int p1), .val (.int p2), .val (.int p3), .val (.int (p1 &&& (15 : Int32))), .val (.int (p2 &&& (15 : Int32))), .val (.int (p3 &&& (15 : Int32))), .val (.ref b1), .val (.ref x13), .val (.ref x29), .val (.ref x29), .unset]) rfl ?_
      show Steps p.tables e below (T28.setTop (mkF m 107 #[.val (.int p1), .val (.int p2), .val (.int p3), .val (.int (p1 &&& (15 : Int32))), .val (.int (p2 &&& (15 : Int32))), .val (.int (p3 &&& (15 : Int32))), .val (.ref b1), .val (.ref x13), .val (.ref x29), .val (.ref x29), .unset] [])) _
      exact k)
    by_cases hs46 : (p2 &&& (15 : Int32)) < (p3 &&& (15 : Int32))
    · obtain ⟨cq47, kq47, q47a, q47b, q47c⟩ := isOf hZ rfl E34
      obtain ⟨_, _, ⟨T47, L47, k47, n47⟩, -, X47, ⟨Lc47, hQ47, l47, y47, z47⟩, st47⟩ := X28.virtualBack hx (y := (⟨"com/example/granulock/granulock/ResourceTree$Ledger", "held", "(I)[Lcom/example/granulock/granulock/Resource$Holder;"⟩ : MethodName)) (z := (⟨"com/example/granulock/granulock/ResourceTree$Ledger", "held", "(I)[Lcom/example/granulock/granulock/Resource$Holder;"⟩ : MethodName)) hown (mvT hZ (hw _ (List.mem_of_getElem? (i := 27) rfl))) (mvT hZ (hw _ (List.mem_of_getElem? (i := 28) rfl))) (notFace_of_selects (args := #[]) (mvT hZ (hw _ (List.mem_of_getElem? (i := 30) rfl)))) (mvT hZ (hw _ (List.mem_of_getElem? (i := 30) rfl))) (mvT hZ (hw _ (List.mem_of_getElem? (i := 29) rfl))) (by decide) (backOf (W := 0) (rm_mG l Z a0 hw [] b1 (p3 &&& (15 : Int32)) x29 (newA x30 (.object "com/example/granulock/granulock/Resource$Holder") (p2 &&& (15 : Int32))) (p2 &&& (15 : Int32)) T28.heap n0 Zs41 E34 F35 ge_b1 (own_15 p3).1 (own_15 p3).2 R36 (by simp only [sz_set, sz_new]) (own_15 p2).1 ne42 hs46) hZ (hw _ (List.mem_of_getElem? (i := 31) rfl)) (hw _ (List.mem_of_getElem? (i := 2) rfl)) (by decide) (by decide)) q47a q47c (g := (mkF m 111 #[.val (.int p1), .val (.int p2), .val (.int p3), .val (.int (p1 &&& (15 : Int32))), .val (.int (p2 &&& (15 : Int32))), .val (.int (p3 &&& (15 : Int32))), .val (.ref b1), .val (.ref x13), .val (.ref x29), .val (.ref x29), .unset] [(.int (p3 &&& (15 : Int32))), (.ref b1)])) rfl (by rw [hml]; rfl) (Steps.refl _) (argsL := [(.int (p3 &&& (15 : Int32)))]) (rest := []) (lenOf pd_2 rfl) rfl (by show 2 * 0 + _ ≤ _; exact Nat.le_of_eq rfl) (hb hby at_111) (fun _ _ => ⟨rfl, rfl, (by decide : 3 + 1 ≤ _), (by decide : 35 + 15 ≤ _)⟩)
      dsimp only [Pt.U, Pt.locs, Pt.cells, Pt.slots] at X47 l47 y47 z47 st47 hQ47
      subst l47 y47 z47
      obtain ⟨x48, x49, rfl, N47q, hq50, p51, p52, E53, F54, R55⟩ := hQ47
      have N47 := Fr.app N28 N47q
      have lt56 : x13 < T28.heap.size := R40.lt
      have lt57 : b1 < T28.heap.size := E34.lt
      have lt58 : x29 < T28.heap.size := R36.lt
      have S59 : Sta Z T47.heap "java/util/ImmutableCollections" "EMPTY_LIST" "Ljava/util/ImmutableCollections$ListN;" (.ref wE) := own_sta_keep S39 hq50 (allS (own_ns_exa E34) all0)
      have R60 : Arr Z T47.heap x13 (newA x14 (.object "com/example/granulock/granulock/Resource$Holder") (p1 &&& (15 : Int32))) (.object "com/example/granulock/granulock/Resource$Holder") := own_arr_keep R40 hq50 (ninS (Ne.symm ne24) nin0)
      have R61 : Arr Z T47.heap x29 (newA x30 (.object "com/example/granulock/granulock/Resource$Holder") (p2 &&& (15 : Int32))) (.object "com/example/granulock/granulock/Resource$Holder") := own_arr_keep R36 hq50 (ninS (Ne.symm ne42) nin0)
      have K47 : Keep h0 T47.heap [] := K28.trans hq50 (allS (Or.inr sz_b1) all0)
      have Zs62 : n0 ≤ T47.heap.size := (Nat.le_trans Zs41 hq50.1)
      have ne63 : x13 ≠ x48 := Nat.ne_of_lt (Nat.lt_of_lt_of_le lt56 p52)
      have ne64 : b1 ≠ x48 := Nat.ne_of_lt (Nat.lt_of_lt_of_le lt57 p52)
      have ne65 : x29 ≠ x48 := Nat.ne_of_lt (Nat.lt_of_lt_of_le lt58 p52)
      have sz66 : h0.size ≤ x48 := Nat.le_trans K28.1 p52
      have pre67 := fun (t : State) (k : Steps p.tables e below (T47.setTop (mkF m 171 #[.val (.int p1), .val (.int p2), .val (.int p3), .val (.int (p1 &&& (15 : Int32))), .val (.int (p2 &&& (15 : Int32))), .val (.int (p3 &&& (15 : Int32))), .val (.ref b1), .val (.ref x13), .val (.ref x29), .val (.ref x29), .val (.ref x48)] [(.int (1 : Int32))])) t) => pre45 t (by
        refine XS.aload X28.here hx rfl (hb hby at_107) rfl rfl ?_
        show Steps p.tables e below (T28.setTop (mkF m 109 #[.val (.int p1), .val (.int p2), .val (.int p3), .val (.int (p1 &&& (15 : Int32))), .val (.int (p2 &&& (15 : Int32))), .val (.int (p3 &&& (15 : Int32))), .val (.ref b1), .val (.ref x13), .val (.ref x29), .val (.ref x29), .unset] [(.ref b1)])) _
        refine XS.iload X28.here hx rfl (hb hby at_109) rfl ?_
        show Steps p.tables e below (T28.setTop (mkF m 111 #[.val (.int p1), .val (.int p2), .val (.int p3), .val (.int (p1 &&& (15 : Int32))), .val (.int (p2 &&& (15 : Int32))), .val (.int (p3 &&& (15 : Int32))), .val (.ref b1), .val (.ref x13), .val (.ref x29), .val (.ref x29), .unset] [(.int (p3 &&& (15 : Int32))), (.ref b1)])) _
        refine st47.trans ?_
        show Steps p.tables e below (T47.setTop (mkF m 114 #[.val (.int p1), .val (.int p2), .val (.int p3), .val (.int (p1 &&& (15 : Int32))), .val (.int (p2 &&& (15 : Int32))), .val (.int (p3 &&& (15 : Int32))), .val (.ref b1), .val (.ref x13), .val (.ref x29), .val (.ref x29), .unset] [(.ref x48)])) _
        refine XS.astore X47.here hx rfl (hb hby at_114) rfl rfl (l' := #[.val (.int p1), .val (.int p2), .val (.int p3), .val (.int (p1 &&& (15 : Int32))), .val (.int (p2 &&& (15 : Int32))), .val (.int (p3 &&& (15 : Int32))), .val (.ref b1), .val (.ref x13), .val (.ref x29), .val (.ref x29), .val (.ref x48)]) rfl ?_
        show Steps p.tables e below (T47.setTop (mkF m 116 #[.val (.int p1), .val (.int p2), .val (.int p3), .val (.int (p1 &&& (15 : Int32))), .val (.int (p2 &&& (15 : Int32))), .val (.int (p3 &&& (15 : Int32))), .val (.ref b1), .val (.ref x13), .val (.ref x29), .val (.ref x29), .val (.ref x48)] [])) _
        refine XS.aload X47.here hx rfl (hb hby at_116) rfl rfl ?_
        show Steps p.tables e below (T47.setTop (mkF m 118 #[.val (.int p1), .val (.int p2), .val (.int p3), .val (.int (p1 &&& (15 : Int32))), .val (.int (p2 &&& (15 : Int32))), .val (.int (p3 &&& (15 : Int32))), .val (.ref b1), .val (.ref x13), .val (.ref x29), .val (.ref x29), .val (.ref x48)] [(.ref x48)])) _
        refine XS.ifnonnullYes X47.here hx rfl (pc0 := 118) (pc' := 123) rfl (hb hby at_118) rfl (by decide) (by decide) ?_
        show Steps p.tables e below (T47.setTop (mkF m 123 #[.val (.int p1), .val (.int p2), .val (.int p3), .val (.int (p1 &&& (15 : Int32))), .val (.int (p2 &&& (15 : Int32))), .val (.int (p3 &&& (15 : Int32))), .val (.ref b1), .val (.ref x13), .val (.ref x29), .val (.ref x29), .val (.ref x48)] [])) _
        refine XS.iload X47.here hx rfl (hb hby at_123) rfl ?_
        show Steps p.tables e below (T47.setTop (mkF m 125 #[.val (.int p1), .val (.int p2), .val (.int p3), .val (.int (p1 &&& (15 : Int32))), .val (.int (p2 &&& (15 : Int32))), .val (.int (p3 &&& (15 : Int32))), .val (.ref b1), .val (.ref x13), .val (.ref x29), .val (.ref x29), .val (.ref x48)] [(.int (p3 &&& (15 : Int32)))])) _
        refine XS.aload X47.here hx rfl (hb hby at_125) rfl rfl ?_
        show Steps p.tables e below (T47.setTop (mkF m 127 #[.val (.int p1), .val (.int p2), .val (.int p3), .val (.int (p1 &&& (15 : Int32))), .val (.int (p2 &&& (15 : Int32))), .val (.int (p3 &&& (15 : Int32))), .val (.ref b1), .val (.ref x13), .val (.ref x29), .val (.ref x29), .val (.ref x48)] [(.ref x29), (.int (p3 &&& (15 : Int32)))])) _
        refine X47.arraylength hx R61.1 (State.isArrayOf_alike hZ.alike R61.2.1) (g := (mkF m 127 #[.val (.int p1), .val (.int p2), .val (.int p3), .val (.int (p1 &&& (15 : Int32))), .val (.int (p2 &&& (15 : Int32))), .val (.int (p3 &&& (15 : Int32))), .val (.ref b1), .val (.ref x13), .val (.ref x29), .val (.ref x29), .val (.ref x48)] [(.ref x29), (.int (p3 &&& (15 : Int32)))])) rfl rfl (hb hby at_127) _ ?_
        rw [show (newA x30 (.object "com/example/granulock/granulock/Resource$Holder") (p2 &&& (15 : Int32))).slots.size.toInt32 = (p2 &&& (15 : Int32)) from (len_of (show (newA x30 (.object "com/example/granulock/granulock/Resource$Holder") (p2 &&& (15 : Int32))).slots.size = (p2 &&& (15 : Int32)).toNatClampNeg from (by simp only [sz_set, sz_new])) (own_15 p2).1)]
        show Steps p.tables e below (T47.setTop (mkF m 128 #[.val (.int p1), .val (.int p2), .val (.int p3), .val (.int (p1 &&& (15 : Int32))), .val (.int (p2 &&& (15 : Int32))), .val (.int (p3 &&& (15 : Int32))), .val (.ref b1), .val (.ref x13), .val (.ref x29), .val (.ref x29), .val (.ref x48)] [(.int (p2 &&& (15 : Int32))), (.int (p3 &&& (15 : Int32)))])) _
        refine XS.icmpYes X47.here hx rfl (pc0 := 128) (pc' := 144) rfl (hb hby at_128) rfl (tlt hs46).2.2.1 (by decide) (by decide) ?_
        show Steps p.tables e below (T47.setTop (mkF m 144 #[.val (.int p1), .val (.int p2), .val (.int p3), .val (.int (p1 &&& (15 : Int32))), .val (.int (p2 &&& (15 : Int32))), .val (.int (p3 &&& (15 : Int32))), .val (.ref b1), .val (.ref x13), .val (.ref x29), .val (.ref x29), .val (.ref x48)] [])) _
        refine XS.aload X47.here hx rfl (hb hby at_144) rfl rfl ?_
        show Steps p.tables e below (T47.setTop (mkF m 146 #[.val (.int p1), .val (.int p2), .val (.int p3), .val (.int (p1 &&& (15 : Int32))), .val (.int (p2 &&& (15 : Int32))), .val (.int (p3 &&& (15 : Int32))), .val (.ref b1), .val (.ref x13), .val (.ref x29), .val (.ref x29), .val (.ref x48)] [(.ref x48)])) _
        refine XS.aload X47.here hx rfl (hb hby at_146) rfl rfl ?_
        show Steps p.tables e below (T47.setTop (mkF m 148 #[.val (.int p1), .val (.int p2), .val (.int p3), .val (.int (p1 &&& (15 : Int32))), .val (.int (p2 &&& (15 : Int32))), .val (.int (p3 &&& (15 : Int32))), .val (.ref b1), .val (.ref x13), .val (.ref x29), .val (.ref x29), .val (.ref x48)] [(.ref x13), (.ref x48)])) _
        refine Jvm.RoadKit.acmp (g := (mkF m 148 #[.val (.int p1), .val (.int p2), .val (.int p3), .val (.int (p1 &&& (15 : Int32))), .val (.int (p2 &&& (15 : Int32))), .val (.int (p3 &&& (15 : Int32))), .val (.ref b1), .val (.ref x13), .val (.ref x29), .val (.ref x29), .val (.ref x48)] [(.ref x13), (.ref x48)])) X47 hx rfl rfl rfl (pc0 := 148) (pc' := 151) (same := false) rfl (hb hby at_148) rfl (decide_eq_false fun q => (Ne.symm ne63) (Value.ref.inj q)) (by decide) (by decide) ?_
        show Steps p.tables e below (T47.setTop (mkF m 151 #[.val (.int p1), .val (.int p2), .val (.int p3), .val (.int (p1 &&& (15 : Int32))), .val (.int (p2 &&& (15 : Int32))), .val (.int (p3 &&& (15 : Int32))), .val (.ref b1), .val (.ref x13), .val (.ref x29), .val (.ref x29), .val (.ref x48)] [])) _
        refine XS.aload X47.here hx rfl (hb hby at_151) rfl rfl ?_
        show Steps p.tables e below (T47.setTop (mkF m 153 #[.val (.int p1), .val (.int p2), .val (.int p3), .val (.int (p1 &&& (15 : Int32))), .val (.int (p2 &&& (15 : Int32))), .val (.int (p3 &&& (15 : Int32))), .val (.ref b1), .val (.ref x13), .val (.ref x29), .val (.ref x29), .val (.ref x48)] [(.ref x48)])) _
        refine XS.aload X47.here hx rfl (hb hby at_153) rfl rfl ?_
        show Steps p.tables e below (T47.setTop (mkF m 155 #[.val (.int p1), .val (.int p2), .val (.int p3), .val (.int (p1 &&& (15 : Int32))), .val (.int (p2 &&& (15 : Int32))), .val (.int (p3 &&& (15 : Int32))), .val (.ref b1), .val (.ref x13), .val (.ref x29), .val (.ref x29), .val (.ref x48)] [(.ref x29), (.ref x48)])) _
        refine Jvm.RoadKit.acmp (g := (mkF m 155 #[.val (.int p1), .val (.int p2), .val (.int p3), .val (.int (p1 &&& (15 : Int32))), .val (.int (p2 &&& (15 : Int32))), .val (.int (p3 &&& (15 : Int32))), .val (.ref b1), .val (.ref x13), .val (.ref x29), .val (.ref x29), .val (.ref x48)] [(.ref x29), (.ref x48)])) X47 hx rfl rfl rfl (pc0 := 155) (pc' := 158) (same := false) rfl (hb hby at_155) rfl (decide_eq_false fun q => (Ne.symm ne65) (Value.ref.inj q)) (by decide) (by decide) ?_
        show Steps p.tables e below (T47.setTop (mkF m 158 #[.val (.int p1), .val (.int p2), .val (.int p3), .val (.int (p1 &&& (15 : Int32))), .val (.int (p2 &&& (15 : Int32))), .val (.int (p3 &&& (15 : Int32))), .val (.ref b1), .val (.ref x13), .val (.ref x29), .val (.ref x29), .val (.ref x48)] [])) _
        refine XS.aload X47.here hx rfl (hb hby at_158) rfl rfl ?_
        show Steps p.tables e below (T47.setTop (mkF m 160 #[.val (.int p1), .val (.int p2), .val (.int p3), .val (.int (p1 &&& (15 : Int32))), .val (.int (p2 &&& (15 : Int32))), .val (.int (p3 &&& (15 : Int32))), .val (.ref b1), .val (.ref x13), .val (.ref x29), .val (.ref x29), .val (.ref x48)] [(.ref x48)])) _
        refine X47.arraylength hx R55.1 (State.isArrayOf_alike hZ.alike R55.2.1) (g := (mkF m 160 #[.val (.int p1), .val (.int p2), .val (.int p3), .val (.int (p1 &&& (15 : Int32))), .val (.int (p2 &&& (15 : Int32))), .val (.int (p3 &&& (15 : Int32))), .val (.ref b1), .val (.ref x13), .val (.ref x29), .val (.ref x29), .val (.ref x48)] [(.ref x48)])) rfl rfl (hb hby at_160) _ ?_
        rw [show (newA x49 (.object "com/example/granulock/granulock/Resource$Holder") (p3 &&& (15 : Int32))).slots.size.toInt32 = (p3 &&& (15 : Int32)) from (len_of (show (newA x49 (.object "com/example/granulock/granulock/Resource$Holder") (p3 &&& (15 : Int32))).slots.size = (p3 &&& (15 : Int32)).toNatClampNeg from (by simp only [sz_set, sz_new])) (own_15 p3).1)]
        show Steps p.tables e below (T47.setTop (mkF m 161 #[.val (.int p1), .val (.int p2), .val (.int p3), .val (.int (p1 &&& (15 : Int32))), .val (.int (p2 &&& (15 : Int32))), .val (.int (p3 &&& (15 : Int32))), .val (.ref b1), .val (.ref x13), .val (.ref x29), .val (.ref x29), .val (.ref x48)] [(.int (p3 &&& (15 : Int32)))])) _
        refine XS.iload X47.here hx rfl (hb hby at_161) rfl ?_
        show Steps p.tables e below (T47.setTop (mkF m 163 #[.val (.int p1), .val (.int p2), .val (.int p3), .val (.int (p1 &&& (15 : Int32))), .val (.int (p2 &&& (15 : Int32))), .val (.int (p3 &&& (15 : Int32))), .val (.ref b1), .val (.ref x13), .val (.ref x29), .val (.ref x29), .val (.ref x48)] [(.int (p3 &&& (15 : Int32))), (.int (p3 &&& (15 : Int32)))])) _
        refine XS.icmpNo X47.here hx rfl (hb hby at_163) rfl (teq (rfl : (p3 &&& (15 : Int32)) = (p3 &&& (15 : Int32)))).2 ?_
        show Steps p.tables e below (T47.setTop (mkF m 166 #[.val (.int p1), .val (.int p2), .val (.int p3), .val (.int (p1 &&& (15 : Int32))), .val (.int (p2 &&& (15 : Int32))), .val (.int (p3 &&& (15 : Int32))), .val (.ref b1), .val (.ref x13), .val (.ref x29), .val (.ref x29), .val (.ref x48)] [])) _
        refine XS.iconst X47.here hx rfl (hb hby at_166) ?_
        show Steps p.tables e below (T47.setTop (mkF m 167 #[.val (.int p1), .val (.int p2), .val (.int p3), .val (.int (p1 &&& (15 : Int32))), .val (.int (p2 &&& (15 : Int32))), .val (.int (p3 &&& (15 : Int32))), .val (.ref b1), .val (.ref x13), .val (.ref x29), .val (.ref x29), .val (.ref x48)] [(.int (1 : Int32))])) _
        refine XS.goto X47.here hx rfl (pc0 := 167) (pc' := 171) rfl (hb hby at_167) (by decide) (by decide) ?_
        show Steps p.tables e below (T47.setTop (mkF m 171 #[.val (.int p1), .val (.int p2), .val (.int p3), .val (.int (p1 &&& (15 : Int32))), .val (.int (p2 &&& (15 : Int32))), .val (.int (p3 &&& (15 : Int32))), .val (.ref b1), .val (.ref x13), .val (.ref x29), .val (.ref x29), .val (.ref x48)] [(.int (1 : Int32))])) _
        exact k)
      obtain ⟨fs, hr, hrun, hended, hW, hsame⟩ := X47.leave (v := some (.int (1 : Int32))) (fun h => by rw [Bd.returns] at h; cases h)
      refine ⟨_, _, pre67 _ ?_, hrun, hended, _, _, rfl, ?_, ⟨_, rfl⟩, hW, hsame.mono (by decide) (by decide)⟩
      · exact retN X47 hx (t := .boolean) Bd.returns (by simp) (hb hby at_171) hr
      · show Q_law Z p1 p2 p3 wE h0 n0 _ T47.heap _
        exact ⟨rfl, N47, K47⟩
    · obtain ⟨cq68, kq68, q68a, q68b, q68c⟩ := isOf hZ rfl E34
      obtain ⟨_, _, ⟨T68, L68, k68, n68⟩, -, X68, ⟨Lc68, hQ68, l68, y68, z68⟩, st68⟩ := X28.virtualBack hx (y := (⟨"com/example/granulock/granulock/ResourceTree$Ledger", "held", "(I)[Lcom/example/granulock/granulock/Resource$Holder;"⟩ : MethodName)) (z := (⟨"com/example/granulock/granulock/ResourceTree$Ledger", "held", "(I)[Lcom/example/granulock/granulock/Resource$Holder;"⟩ : MethodName)) hown (mvT hZ (hw _ (List.mem_of_getElem? (i := 27) rfl))) (mvT hZ (hw _ (List.mem_of_getElem? (i := 28) rfl))) (notFace_of_selects (args := #[]) (mvT hZ (hw _ (List.mem_of_getElem? (i := 30) rfl)))) (mvT hZ (hw _ (List.mem_of_getElem? (i := 30) rfl))) (mvT hZ (hw _ (List.mem_of_getElem? (i := 29) rfl))) (by decide) (backOf (W := 0) (rm_mK l Z a0 hw [] b1 (p3 &&& (15 : Int32)) x29 (newA x30 (.object "com/example/granulock/granulock/Resource$Holder") (p2 &&& (15 : Int32))) (p2 &&& (15 : Int32)) T28.heap n0 Zs41 E34 F35 ge_b1 (own_15 p3).1 (own_15 p3).2 R36 (by simp only [sz_set, sz_new]) (own_15 p2).1 ne42 hs46) hZ (hw _ (List.mem_of_getElem? (i := 31) rfl)) (hw _ (List.mem_of_getElem? (i := 2) rfl)) (by decide) (by decide)) q68a q68c (g := (mkF m 111 #[.val (.int p1), .val (.int p2), .val (.int p3), .val (.int (p1 &&& (15 : Int32))), .val (.int (p2 &&& (15 : Int32))), .val (.int (p3 &&& (15 : Int32))), .val (.ref b1), .val (.ref x13), .val (.ref x29), .val (.ref x29), .unset] [(.int (p3 &&& (15 : Int32))), (.ref b1)])) rfl (by rw [hml]; rfl) (Steps.refl _) (argsL := [(.int (p3 &&& (15 : Int32)))]) (rest := []) (lenOf pd_2 rfl) rfl (by show 2 * 0 + _ ≤ _; exact Nat.le_of_eq rfl) (hb hby at_111) (fun _ _ => ⟨rfl, rfl, (by decide : 3 + 0 ≤ _), (by decide : 35 + 0 ≤ _)⟩)
      dsimp only [Pt.U, Pt.locs, Pt.cells, Pt.slots] at X68 l68 y68 z68 st68 hQ68
      subst l68 y68 z68
      obtain ⟨rfl, N68q, hq69⟩ := hQ68
      have N68 := Fr.app N28 N68q
      have pre70 := fun (t : State) (k : Steps p.tables e below (T68.setTop (mkF m 143 #[.val (.int p1), .val (.int p2), .val (.int p3), .val (.int (p1 &&& (15 : Int32))), .val (.int (p2 &&& (15 : Int32))), .val (.int (p3 &&& (15 : Int32))), .val (.ref b1), .val (.ref x13), .val (.ref x29), .val (.ref x29), .val (.ref x29)] [(.int (1 : Int32))])) t) => pre45 t (by
        refine XS.aload X28.here hx rfl (hb hby at_107) rfl rfl ?_
        show Steps p.tables e below (T28.setTop (mkF m 109 #[.val (.int p1), .val (.int p2), .val (.int p3), .val (.int (p1 &&& (15 : Int32))), .val (.int (p2 &&& (15 : Int32))), .val (.int (p3 &&& (15 : Int32))), .val (.ref b1), .val (.ref x13), .val (.ref x29), .val (.ref x29), .unset] [(.ref b1)])) _
        refine XS.iload X28.here hx rfl (hb hby at_109) rfl ?_
        show Steps p.tables e below (T28.setTop (mkF m 111 #[.val (.int p1), .val (.int p2), .val (.int p3), .val (.int (p1 &&& (15 : Int32))), .val (.int (p2 &&& (15 : Int32))), .val (.int (p3 &&& (15 : Int32))), .val (.ref b1), .val (.ref x13), .val (.ref x29), .val (.ref x29), .unset] [(.int (p3 &&& (15 : Int32))), (.ref b1)])) _
        refine st68.trans ?_
        show Steps p.tables e below (T68.setTop (mkF m 114 #[.val (.int p1), .val (.int p2), .val (.int p3), .val (.int (p1 &&& (15 : Int32))), .val (.int (p2 &&& (15 : Int32))), .val (.int (p3 &&& (15 : Int32))), .val (.ref b1), .val (.ref x13), .val (.ref x29), .val (.ref x29), .unset] [(.ref x29)])) _
        refine XS.astore X68.here hx rfl (hb hby at_114) rfl rfl (l' := #[.val (.int p1), .val (.int p2), .val (.int p3), .val (.int (p1 &&& (15 : Int32))), .val (.int (p2 &&& (15 : Int32))), .val (.int (p3 &&& (15 : Int32))), .val (.ref b1), .val (.ref x13), .val (.ref x29), .val (.ref x29), .val (.ref x29)]) rfl ?_
        show Steps p.tables e below (T68.setTop (mkF m 116 #[.val (.int p1), .val (.int p2), .val (.int p3), .val (.int (p1 &&& (15 : Int32))), .val (.int (p2 &&& (15 : Int32))), .val (.int (p3 &&& (15 : Int32))), .val (.ref b1), .val (.ref x13), .val (.ref x29), .val (.ref x29), .val (.ref x29)] [])) _
        refine XS.aload X68.here hx rfl (hb hby at_116) rfl rfl ?_
        show Steps p.tables e below (T68.setTop (mkF m 118 #[.val (.int p1), .val (.int p2), .val (.int p3), .val (.int (p1 &&& (15 : Int32))), .val (.int (p2 &&& (15 : Int32))), .val (.int (p3 &&& (15 : Int32))), .val (.ref b1), .val (.ref x13), .val (.ref x29), .val (.ref x29), .val (.ref x29)] [(.ref x29)])) _
        refine XS.ifnonnullYes X68.here hx rfl (pc0 := 118) (pc' := 123) rfl (hb hby at_118) rfl (by decide) (by decide) ?_
        show Steps p.tables e below (T68.setTop (mkF m 123 #[.val (.int p1), .val (.int p2), .val (.int p3), .val (.int (p1 &&& (15 : Int32))), .val (.int (p2 &&& (15 : Int32))), .val (.int (p3 &&& (15 : Int32))), .val (.ref b1), .val (.ref x13), .val (.ref x29), .val (.ref x29), .val (.ref x29)] [])) _
        refine XS.iload X68.here hx rfl (hb hby at_123) rfl ?_
        show Steps p.tables e below (T68.setTop (mkF m 125 #[.val (.int p1), .val (.int p2), .val (.int p3), .val (.int (p1 &&& (15 : Int32))), .val (.int (p2 &&& (15 : Int32))), .val (.int (p3 &&& (15 : Int32))), .val (.ref b1), .val (.ref x13), .val (.ref x29), .val (.ref x29), .val (.ref x29)] [(.int (p3 &&& (15 : Int32)))])) _
        refine XS.aload X68.here hx rfl (hb hby at_125) rfl rfl ?_
        show Steps p.tables e below (T68.setTop (mkF m 127 #[.val (.int p1), .val (.int p2), .val (.int p3), .val (.int (p1 &&& (15 : Int32))), .val (.int (p2 &&& (15 : Int32))), .val (.int (p3 &&& (15 : Int32))), .val (.ref b1), .val (.ref x13), .val (.ref x29), .val (.ref x29), .val (.ref x29)] [(.ref x29), (.int (p3 &&& (15 : Int32)))])) _
        refine X68.arraylength hx (by rw [hq69]; exact R36.1) (State.isArrayOf_alike hZ.alike R36.2.1) (g := (mkF m 127 #[.val (.int p1), .val (.int p2), .val (.int p3), .val (.int (p1 &&& (15 : Int32))), .val (.int (p2 &&& (15 : Int32))), .val (.int (p3 &&& (15 : Int32))), .val (.ref b1), .val (.ref x13), .val (.ref x29), .val (.ref x29), .val (.ref x29)] [(.ref x29), (.int (p3 &&& (15 : Int32)))])) rfl rfl (hb hby at_127) _ ?_
        rw [show (newA x30 (.object "com/example/granulock/granulock/Resource$Holder") (p2 &&& (15 : Int32))).slots.size.toInt32 = (p2 &&& (15 : Int32)) from (len_of (show (newA x30 (.object "com/example/granulock/granulock/Resource$Holder") (p2 &&& (15 : Int32))).slots.size = (p2 &&& (15 : Int32)).toNatClampNeg from (by simp only [sz_set, sz_new])) (own_15 p2).1)]
        show Steps p.tables e below (T68.setTop (mkF m 128 #[.val (.int p1), .val (.int p2), .val (.int p3), .val (.int (p1 &&& (15 : Int32))), .val (.int (p2 &&& (15 : Int32))), .val (.int (p3 &&& (15 : Int32))), .val (.ref b1), .val (.ref x13), .val (.ref x29), .val (.ref x29), .val (.ref x29)] [(.int (p2 &&& (15 : Int32))), (.int (p3 &&& (15 : Int32)))])) _
        refine XS.icmpNo X68.here hx rfl (hb hby at_128) rfl (flt hs46).2.2.1 ?_
        show Steps p.tables e below (T68.setTop (mkF m 131 #[.val (.int p1), .val (.int p2), .val (.int p3), .val (.int (p1 &&& (15 : Int32))), .val (.int (p2 &&& (15 : Int32))), .val (.int (p3 &&& (15 : Int32))), .val (.ref b1), .val (.ref x13), .val (.ref x29), .val (.ref x29), .val (.ref x29)] [])) _
        refine XS.aload X68.here hx rfl (hb hby at_131) rfl rfl ?_
        show Steps p.tables e below (T68.setTop (mkF m 133 #[.val (.int p1), .val (.int p2), .val (.int p3), .val (.int (p1 &&& (15 : Int32))), .val (.int (p2 &&& (15 : Int32))), .val (.int (p3 &&& (15 : Int32))), .val (.ref b1), .val (.ref x13), .val (.ref x29), .val (.ref x29), .val (.ref x29)] [(.ref x29)])) _
        refine XS.aload X68.here hx rfl (hb hby at_133) rfl rfl ?_
        show Steps p.tables e below (T68.setTop (mkF m 135 #[.val (.int p1), .val (.int p2), .val (.int p3), .val (.int (p1 &&& (15 : Int32))), .val (.int (p2 &&& (15 : Int32))), .val (.int (p3 &&& (15 : Int32))), .val (.ref b1), .val (.ref x13), .val (.ref x29), .val (.ref x29), .val (.ref x29)] [(.ref x29), (.ref x29)])) _
        refine Jvm.RoadKit.acmp (g := (mkF m 135 #[.val (.int p1), .val (.int p2), .val (.int p3), .val (.int (p1 &&& (15 : Int32))), .val (.int (p2 &&& (15 : Int32))), .val (.int (p3 &&& (15 : Int32))), .val (.ref b1), .val (.ref x13), .val (.ref x29), .val (.ref x29), .val (.ref x29)] [(.ref x29), (.ref x29)])) X68 hx rfl rfl rfl (pc0 := 135) (pc' := 138) (same := true) rfl (hb hby at_135) rfl (decide_eq_true rfl) (by decide) (by decide) ?_
        show Steps p.tables e below (T68.setTop (mkF m 138 #[.val (.int p1), .val (.int p2), .val (.int p3), .val (.int (p1 &&& (15 : Int32))), .val (.int (p2 &&& (15 : Int32))), .val (.int (p3 &&& (15 : Int32))), .val (.ref b1), .val (.ref x13), .val (.ref x29), .val (.ref x29), .val (.ref x29)] [])) _
        refine XS.iconst X68.here hx rfl (hb hby at_138) ?_
        show Steps p.tables e below (T68.setTop (mkF m 139 #[.val (.int p1), .val (.int p2), .val (.int p3), .val (.int (p1 &&& (15 : Int32))), .val (.int (p2 &&& (15 : Int32))), .val (.int (p3 &&& (15 : Int32))), .val (.ref b1), .val (.ref x13), .val (.ref x29), .val (.ref x29), .val (.ref x29)] [(.int (1 : Int32))])) _
        refine XS.goto X68.here hx rfl (pc0 := 139) (pc' := 143) rfl (hb hby at_139) (by decide) (by decide) ?_
        show Steps p.tables e below (T68.setTop (mkF m 143 #[.val (.int p1), .val (.int p2), .val (.int p3), .val (.int (p1 &&& (15 : Int32))), .val (.int (p2 &&& (15 : Int32))), .val (.int (p3 &&& (15 : Int32))), .val (.ref b1), .val (.ref x13), .val (.ref x29), .val (.ref x29), .val (.ref x29)] [(.int (1 : Int32))])) _
        exact k)
      obtain ⟨fs, hr, hrun, hended, hW, hsame⟩ := X68.leave (v := some (.int (1 : Int32))) (fun h => by rw [Bd.returns] at h; cases h)
      refine ⟨_, _, pre70 _ ?_, hrun, hended, _, _, rfl, ?_, ⟨_, rfl⟩, hW, hsame.mono (by decide) (by decide)⟩
      · exact retN X68 hx (t := .boolean) Bd.returns (by simp) (hb hby at_143) hr
      · show Q_law Z p1 p2 p3 wE h0 n0 _ T68.heap _
        rw [hq69]
        exact ⟨rfl, N68, K28⟩
  · obtain ⟨cq71, kq71, q71a, q71b, q71c⟩ := isOf hZ rfl E18
    obtain ⟨_, _, ⟨T71, L71, k71, n71⟩, -, X71, ⟨Lc71, hQ71, l71, y71, z71⟩, st71⟩ := X12.virtualBack hx (y := (⟨"com/example/granulock/granulock/ResourceTree$Ledger", "held", "(I)[Lcom/example/granulock/granulock/Resource$Holder;"⟩ : MethodName)) (z := (⟨"com/example/granulock/granulock/ResourceTree$Ledger", "held", "(I)[Lcom/example/granulock/granulock/Resource$Holder;"⟩ : MethodName)) hown (mvT hZ (hw _ (List.mem_of_getElem? (i := 27) rfl))) (mvT hZ (hw _ (List.mem_of_getElem? (i := 28) rfl))) (notFace_of_selects (args := #[]) (mvT hZ (hw _ (List.mem_of_getElem? (i := 30) rfl)))) (mvT hZ (hw _ (List.mem_of_getElem? (i := 30) rfl))) (mvT hZ (hw _ (List.mem_of_getElem? (i := 29) rfl))) (by decide) (backOf (W := 0) (rm_mK l Z a0 hw [] b1 (p2 &&& (15 : Int32)) x13 (newA x14 (.object "com/example/granulock/granulock/Resource$Holder") (p1 &&& (15 : Int32))) (p1 &&& (15 : Int32)) T12.heap n0 Zs23 E18 F19 ge_b1 (own_15 p2).1 (own_15 p2).2 R20 (by simp only [sz_set, sz_new]) (own_15 p1).1 ne24 hs27) hZ (hw _ (List.mem_of_getElem? (i := 31) rfl)) (hw _ (List.mem_of_getElem? (i := 2) rfl)) (by decide) (by decide)) q71a q71c (g := (mkF m 52 #[.val (.int p1), .val (.int p2), .val (.int p3), .val (.int (p1 &&& (15 : Int32))), .val (.int (p2 &&& (15 : Int32))), .val (.int (p3 &&& (15 : Int32))), .val (.ref b1), .val (.ref x13), .unset, .unset, .unset] [(.int (p2 &&& (15 : Int32))), (.ref b1)])) rfl (by rw [hml]; rfl) (Steps.refl _) (argsL := [(.int (p2 &&& (15 : Int32)))]) (rest := []) (lenOf pd_2 rfl) rfl (by show 2 * 0 + _ ≤ _; exact Nat.le_of_eq rfl) (hb hby at_52) (fun _ _ => ⟨rfl, rfl, (by decide : 2 + 0 ≤ _), (by decide : 20 + 0 ≤ _)⟩)
    dsimp only [Pt.U, Pt.locs, Pt.cells, Pt.slots] at X71 l71 y71 z71 st71 hQ71
    subst l71 y71 z71
    obtain ⟨rfl, N71q, hq72⟩ := hQ71
    have N71 := Fr.app N12 N71q
    have pre73 := fun (t : State) (k : Steps p.tables e below (T71.setTop (mkF m 107 #[.val (.int p1), .val (.int p2), .val (.int p3), .val (.int (p1 &&& (15 : Int32))), .val (.int (p2 &&& (15 : Int32))), .val (.int (p3 &&& (15 : Int32))), .val (.ref b1), .val (.ref x13), .val (.ref x13), .val (.ref x13), .unset] [])) t) => pre26 t (by
      refine XS.aload X12.here hx rfl (hb hby at_48) rfl rfl ?_
      show Steps p.tables e below (T12.setTop (mkF m 50 #[.val (.int p1), .val (.int p2), .val (.int p3), .val (.int (p1 &&& (15 : Int32))), .val (.int (p2 &&& (15 : Int32))), .val (.int (p3 &&& (15 : Int32))), .val (.ref b1), .val (.ref x13), .unset, .unset, .unset] [(.ref b1)])) _
      refine XS.iload X12.here hx rfl (hb hby at_50) rfl ?_
      show Steps p.tables e below (T12.setTop (mkF m 52 #[.val (.int p1), .val (.int p2), .val (.int p3), .val (.int (p1 &&& (15 : Int32))), .val (.int (p2 &&& (15 : Int32))), .val (.int (p3 &&& (15 : Int32))), .val (.ref b1), .val (.ref x13), .unset, .unset, .unset] [(.int (p2 &&& (15 : Int32))), (.ref b1)])) _
      refine st71.trans ?_
      show Steps p.tables e below (T71.setTop (mkF m 55 #[.val (.int p1), .val (.int p2), .val (.int p3), .val (.int (p1 &&& (15 : Int32))), .val (.int (p2 &&& (15 : Int32))), .val (.int (p3 &&& (15 : Int32))), .val (.ref b1), .val (.ref x13), .unset, .unset, .unset] [(.ref x13)])) _
      refine XS.astore X71.here hx rfl (hb hby at_55) rfl rfl (l' := #[.val (.int p1), .val (.int p2), .val (.int p3), .val (.int (p1 &&& (15 : Int32))), .val (.int (p2 &&& (15 : Int32))), .val (.int (p3 &&& (15 : Int32))), .val (.ref b1), .val (.ref x13), .val (.ref x13), .unset, .unset]) rfl ?_
      show Steps p.tables e below (T71.setTop (mkF m 57 #[.val (.int p1), .val (.int p2), .val (.int p3), .val (.int (p1 &&& (15 : Int32))), .val (.int (p2 &&& (15 : Int32))), .val (.int (p3 &&& (15 : Int32))), .val (.ref b1), .val (.ref x13), .val (.ref x13), .unset, .unset] [])) _
      refine XS.aload X71.here hx rfl (hb hby at_57) rfl rfl ?_
      show Steps p.tables e below (T71.setTop (mkF m 59 #[.val (.int p1), .val (.int p2), .val (.int p3), .val (.int (p1 &&& (15 : Int32))), .val (.int (p2 &&& (15 : Int32))), .val (.int (p3 &&& (15 : Int32))), .val (.ref b1), .val (.ref x13), .val (.ref x13), .unset, .unset] [(.ref x13)])) _
      refine XS.ifnonnullYes X71.here hx rfl (pc0 := 59) (pc' := 64) rfl (hb hby at_59) rfl (by decide) (by decide) ?_
      show Steps p.tables e below (T71.setTop (mkF m 64 #[.val (.int p1), .val (.int p2), .val (.int p3), .val (.int (p1 &&& (15 : Int32))), .val (.int (p2 &&& (15 : Int32))), .val (.int (p3 &&& (15 : Int32))), .val (.ref b1), .val (.ref x13), .val (.ref x13), .unset, .unset] [])) _
      refine XS.iload X71.here hx rfl (hb hby at_64) rfl ?_
      show Steps p.tables e below (T71.setTop (mkF m 66 #[.val (.int p1), .val (.int p2), .val (.int p3), .val (.int (p1 &&& (15 : Int32))), .val (.int (p2 &&& (15 : Int32))), .val (.int (p3 &&& (15 : Int32))), .val (.ref b1), .val (.ref x13), .val (.ref x13), .unset, .unset] [(.int (p2 &&& (15 : Int32)))])) _
      refine XS.iloadN X71.here hx rfl (hb hby at_66) rfl ?_
      show Steps p.tables e below (T71.setTop (mkF m 67 #[.val (.int p1), .val (.int p2), .val (.int p3), .val (.int (p1 &&& (15 : Int32))), .val (.int (p2 &&& (15 : Int32))), .val (.int (p3 &&& (15 : Int32))), .val (.ref b1), .val (.ref x13), .val (.ref x13), .unset, .unset] [(.int (p1 &&& (15 : Int32))), (.int (p2 &&& (15 : Int32)))])) _
      refine XS.icmpNo X71.here hx rfl (hb hby at_67) rfl (flt hs27).2.2.1 ?_
      show Steps p.tables e below (T71.setTop (mkF m 70 #[.val (.int p1), .val (.int p2), .val (.int p3), .val (.int (p1 &&& (15 : Int32))), .val (.int (p2 &&& (15 : Int32))), .val (.int (p3 &&& (15 : Int32))), .val (.ref b1), .val (.ref x13), .val (.ref x13), .unset, .unset] [])) _
      refine XS.aload X71.here hx rfl (hb hby at_70) rfl rfl ?_
      show Steps p.tables e below (T71.setTop (mkF m 72 #[.val (.int p1), .val (.int p2), .val (.int p3), .val (.int (p1 &&& (15 : Int32))), .val (.int (p2 &&& (15 : Int32))), .val (.int (p3 &&& (15 : Int32))), .val (.ref b1), .val (.ref x13), .val (.ref x13), .unset, .unset] [(.ref x13)])) _
      refine XS.aload X71.here hx rfl (hb hby at_72) rfl rfl ?_
      show Steps p.tables e below (T71.setTop (mkF m 74 #[.val (.int p1), .val (.int p2), .val (.int p3), .val (.int (p1 &&& (15 : Int32))), .val (.int (p2 &&& (15 : Int32))), .val (.int (p3 &&& (15 : Int32))), .val (.ref b1), .val (.ref x13), .val (.ref x13), .unset, .unset] [(.ref x13), (.ref x13)])) _
      refine Jvm.RoadKit.acmp (g := (mkF m 74 #[.val (.int p1), .val (.int p2), .val (.int p3), .val (.int (p1 &&& (15 : Int32))), .val (.int (p2 &&& (15 : Int32))), .val (.int (p3 &&& (15 : Int32))), .val (.ref b1), .val (.ref x13), .val (.ref x13), .unset, .unset] [(.ref x13), (.ref x13)])) X71 hx rfl rfl rfl (pc0 := 74) (pc' := 79) (same := true) rfl (hb hby at_74) rfl (decide_eq_true rfl) (by decide) (by decide) ?_
      show Steps p.tables e below (T71.setTop (mkF m 79 #[.val (.int p1), .val (.int p2), .val (.int p3), .val (.int (p1 &&& (15 : Int32))), .val (.int (p2 &&& (15 : Int32))), .val (.int (p3 &&& (15 : Int32))), .val (.ref b1), .val (.ref x13), .val (.ref x13), .unset, .unset] [])) _
      refine XS.aload X71.here hx rfl (hb hby at_79) rfl rfl ?_
      show Steps p.tables e below (T71.setTop (mkF m 81 #[.val (.int p1), .val (.int p2), .val (.int p3), .val (.int (p1 &&& (15 : Int32))), .val (.int (p2 &&& (15 : Int32))), .val (.int (p3 &&& (15 : Int32))), .val (.ref b1), .val (.ref x13), .val (.ref x13), .unset, .unset] [(.ref x13)])) _
      refine XS.astore X71.here hx rfl (hb hby at_81) rfl rfl (l' := #[.val (.int p1), .val (.int p2), .val (.int p3), .val (.int (p1 &&& (15 : Int32))), .val (.int (p2 &&& (15 : Int32))), .val (.int (p3 &&& (15 : Int32))), .val (.ref b1), .val (.ref x13), .val (.ref x13), .val (.ref x13), .unset]) rfl ?_
      show Steps p.tables e below (T71.setTop (mkF m 83 #[.val (.int p1), .val (.int p2), .val (.int p3), .val (.int (p1 &&& (15 : Int32))), .val (.int (p2 &&& (15 : Int32))), .val (.int (p3 &&& (15 : Int32))), .val (.ref b1), .val (.ref x13), .val (.ref x13), .val (.ref x13), .unset] [])) _
      refine XS.goto X71.here hx rfl (pc0 := 83) (pc' := 107) rfl (hb hby at_83) (by decide) (by decide) ?_
      show Steps p.tables e below (T71.setTop (mkF m 107 #[.val (.int p1), .val (.int p2), .val (.int p3), .val (.int (p1 &&& (15 : Int32))), .val (.int (p2 &&& (15 : Int32))), .val (.int (p3 &&& (15 : Int32))), .val (.ref b1), .val (.ref x13), .val (.ref x13), .val (.ref x13), .unset] [])) _
      exact k)
    by_cases hs74 : (p1 &&& (15 : Int32)) < (p3 &&& (15 : Int32))
    · obtain ⟨cq75, kq75, q75a, q75b, q75c⟩ := isOf hZ hq72 E18
      obtain ⟨_, _, ⟨T75, L75, k75, n75⟩, -, X75, ⟨Lc75, hQ75, l75, y75, z75⟩, st75⟩ := X71.virtualBack hx (y := (⟨"com/example/granulock/granulock/ResourceTree$Ledger", "held", "(I)[Lcom/example/granulock/granulock/Resource$Holder;"⟩ : MethodName)) (z := (⟨"com/example/granulock/granulock/ResourceTree$Ledger", "held", "(I)[Lcom/example/granulock/granulock/Resource$Holder;"⟩ : MethodName)) hown (mvT hZ (hw _ (List.mem_of_getElem? (i := 27) rfl))) (mvT hZ (hw _ (List.mem_of_getElem? (i := 28) rfl))) (notFace_of_selects (args := #[]) (mvT hZ (hw _ (List.mem_of_getElem? (i := 30) rfl)))) (mvT hZ (hw _ (List.mem_of_getElem? (i := 30) rfl))) (mvT hZ (hw _ (List.mem_of_getElem? (i := 29) rfl))) (by decide) (backOf (W := 0) (rm_mG l Z a0 hw [] b1 (p3 &&& (15 : Int32)) x13 (newA x14 (.object "com/example/granulock/granulock/Resource$Holder") (p1 &&& (15 : Int32))) (p1 &&& (15 : Int32)) T12.heap n0 Zs23 E18 F19 ge_b1 (own_15 p3).1 (own_15 p3).2 R20 (by simp only [sz_set, sz_new]) (own_15 p1).1 ne24 hs74) hZ (hw _ (List.mem_of_getElem? (i := 31) rfl)) (hw _ (List.mem_of_getElem? (i := 2) rfl)) (by decide) (by decide)) q75a q75c (g := (mkF m 111 #[.val (.int p1), .val (.int p2), .val (.int p3), .val (.int (p1 &&& (15 : Int32))), .val (.int (p2 &&& (15 : Int32))), .val (.int (p3 &&& (15 : Int32))), .val (.ref b1), .val (.ref x13), .val (.ref x13), .val (.ref x13), .unset] [(.int (p3 &&& (15 : Int32))), (.ref b1)])) rfl (by rw [hml]; rfl) (Steps.refl _) (argsL := [(.int (p3 &&& (15 : Int32)))]) (rest := []) (lenOf pd_2 rfl) rfl (by show 2 * 0 + _ ≤ _; exact Nat.le_of_eq rfl) (hb hby at_111) (fun _ _ => ⟨rfl, hq72, (by decide : 2 + 1 ≤ _), (by decide : 20 + 15 ≤ _)⟩)
      dsimp only [Pt.U, Pt.locs, Pt.cells, Pt.slots] at X75 l75 y75 z75 st75 hQ75
      subst l75 y75 z75
      obtain ⟨x76, x77, rfl, N75q, hq78, p79, p80, E81, F82, R83⟩ := hQ75
      have N75 := Fr.app N71 N75q
      have lt84 : b1 < T12.heap.size := E18.lt
      have lt85 : x13 < T12.heap.size := R20.lt
      have S86 : Sta Z T75.heap "java/util/ImmutableCollections" "EMPTY_LIST" "Ljava/util/ImmutableCollections$ListN;" (.ref wE) := own_sta_keep S22 hq78 (allS (own_ns_exa E18) all0)
      have R87 : Arr Z T75.heap x13 (newA x14 (.object "com/example/granulock/granulock/Resource$Holder") (p1 &&& (15 : Int32))) (.object "com/example/granulock/granulock/Resource$Holder") := own_arr_keep R20 hq78 (ninS (Ne.symm ne24) nin0)
      have K75 : Keep h0 T75.heap [] := K12.trans hq78 (allS (Or.inr sz_b1) all0)
      have Zs88 : n0 ≤ T75.heap.size := (Nat.le_trans Zs23 hq78.1)
      have ne89 : b1 ≠ x76 := Nat.ne_of_lt (Nat.lt_of_lt_of_le lt84 p80)
      have ne90 : x13 ≠ x76 := Nat.ne_of_lt (Nat.lt_of_lt_of_le lt85 p80)
      have sz91 : h0.size ≤ x76 := Nat.le_trans K12.1 p80
      have pre92 := fun (t : State) (k : Steps p.tables e below (T75.setTop (mkF m 171 #[.val (.int p1), .val (.int p2), .val (.int p3), .val (.int (p1 &&& (15 : Int32))), .val (.int (p2 &&& (15 : Int32))), .val (.int (p3 &&& (15 : Int32))), .val (.ref b1), .val (.ref x13), .val (.ref x13), .val (.ref x13), .val (.ref x76)] [(.int (1 : Int32))])) t) => pre73 t (by
        refine XS.aload X71.here hx rfl (hb hby at_107) rfl rfl ?_
        show Steps p.tables e below (T71.setTop (mkF m 109 #[.val (.int p1), .val (.int p2), .val (.int p3), .val (.int (p1 &&& (15 : Int32))), .val (.int (p2 &&& (15 : Int32))), .val (.int (p3 &&& (15 : Int32))), .val (.ref b1), .val (.ref x13), .val (.ref x13), .val (.ref x13), .unset] [(.ref b1)])) _
        refine XS.iload X71.here hx rfl (hb hby at_109) rfl ?_
        show Steps p.tables e below (T71.setTop (mkF m 111 #[.val (.int p1), .val (.int p2), .val (.int p3), .val (.int (p1 &&& (15 : Int32))), .val (.int (p2 &&& (15 : Int32))), .val (.int (p3 &&& (15 : Int32))), .val (.ref b1), .val (.ref x13), .val (.ref x13), .val (.ref x13), .unset] [(.int (p3 &&& (15 : Int32))), (.ref b1)])) _
        refine st75.trans ?_
        show Steps p.tables e below (T75.setTop (mkF m 114 #[.val (.int p1), .val (.int p2), .val (.int p3), .val (.int (p1 &&& (15 : Int32))), .val (.int (p2 &&& (15 : Int32))), .val (.int (p3 &&& (15 : Int32))), .val (.ref b1), .val (.ref x13), .val (.ref x13), .val (.ref x13), .unset] [(.ref x76)])) _
        refine XS.astore X75.here hx rfl (hb hby at_114) rfl rfl (l' := #[.val (.int p1), .val (.int p2), .val (.int p3), .val (.int (p1 &&& (15 : Int32))), .val (.int (p2 &&& (15 : Int32))), .val (.int (p3 &&& (15 : Int32))), .val (.ref b1), .val (.ref x13), .val (.ref x13), .val (.ref x13), .val (.ref x76)]) rfl ?_
        show Steps p.tables e below (T75.setTop (mkF m 116 #[.val (.int p1), .val (.int p2), .val (.int p3), .val (.int (p1 &&& (15 : Int32))), .val (.int (p2 &&& (15 : Int32))), .val (.int (p3 &&& (15 : Int32))), .val (.ref b1), .val (.ref x13), .val (.ref x13), .val (.ref x13), .val (.ref x76)] [])) _
        refine XS.aload X75.here hx rfl (hb hby at_116) rfl rfl ?_
        show Steps p.tables e below (T75.setTop (mkF m 118 #[.val (.int p1), .val (.int p2), .val (.int p3), .val (.int (p1 &&& (15 : Int32))), .val (.int (p2 &&& (15 : Int32))), .val (.int (p3 &&& (15 : Int32))), .val (.ref b1), .val (.ref x13), .val (.ref x13), .val (.ref x13), .val (.ref x76)] [(.ref x76)])) _
        refine XS.ifnonnullYes X75.here hx rfl (pc0 := 118) (pc' := 123) rfl (hb hby at_118) rfl (by decide) (by decide) ?_
        show Steps p.tables e below (T75.setTop (mkF m 123 #[.val (.int p1), .val (.int p2), .val (.int p3), .val (.int (p1 &&& (15 : Int32))), .val (.int (p2 &&& (15 : Int32))), .val (.int (p3 &&& (15 : Int32))), .val (.ref b1), .val (.ref x13), .val (.ref x13), .val (.ref x13), .val (.ref x76)] [])) _
        refine XS.iload X75.here hx rfl (hb hby at_123) rfl ?_
        show Steps p.tables e below (T75.setTop (mkF m 125 #[.val (.int p1), .val (.int p2), .val (.int p3), .val (.int (p1 &&& (15 : Int32))), .val (.int (p2 &&& (15 : Int32))), .val (.int (p3 &&& (15 : Int32))), .val (.ref b1), .val (.ref x13), .val (.ref x13), .val (.ref x13), .val (.ref x76)] [(.int (p3 &&& (15 : Int32)))])) _
        refine XS.aload X75.here hx rfl (hb hby at_125) rfl rfl ?_
        show Steps p.tables e below (T75.setTop (mkF m 127 #[.val (.int p1), .val (.int p2), .val (.int p3), .val (.int (p1 &&& (15 : Int32))), .val (.int (p2 &&& (15 : Int32))), .val (.int (p3 &&& (15 : Int32))), .val (.ref b1), .val (.ref x13), .val (.ref x13), .val (.ref x13), .val (.ref x76)] [(.ref x13), (.int (p3 &&& (15 : Int32)))])) _
        refine X75.arraylength hx R87.1 (State.isArrayOf_alike hZ.alike R87.2.1) (g := (mkF m 127 #[.val (.int p1), .val (.int p2), .val (.int p3), .val (.int (p1 &&& (15 : Int32))), .val (.int (p2 &&& (15 : Int32))), .val (.int (p3 &&& (15 : Int32))), .val (.ref b1), .val (.ref x13), .val (.ref x13), .val (.ref x13), .val (.ref x76)] [(.ref x13), (.int (p3 &&& (15 : Int32)))])) rfl rfl (hb hby at_127) _ ?_
        rw [show (newA x14 (.object "com/example/granulock/granulock/Resource$Holder") (p1 &&& (15 : Int32))).slots.size.toInt32 = (p1 &&& (15 : Int32)) from (len_of (show (newA x14 (.object "com/example/granulock/granulock/Resource$Holder") (p1 &&& (15 : Int32))).slots.size = (p1 &&& (15 : Int32)).toNatClampNeg from (by simp only [sz_set, sz_new])) (own_15 p1).1)]
        show Steps p.tables e below (T75.setTop (mkF m 128 #[.val (.int p1), .val (.int p2), .val (.int p3), .val (.int (p1 &&& (15 : Int32))), .val (.int (p2 &&& (15 : Int32))), .val (.int (p3 &&& (15 : Int32))), .val (.ref b1), .val (.ref x13), .val (.ref x13), .val (.ref x13), .val (.ref x76)] [(.int (p1 &&& (15 : Int32))), (.int (p3 &&& (15 : Int32)))])) _
        refine XS.icmpYes X75.here hx rfl (pc0 := 128) (pc' := 144) rfl (hb hby at_128) rfl (tlt hs74).2.2.1 (by decide) (by decide) ?_
        show Steps p.tables e below (T75.setTop (mkF m 144 #[.val (.int p1), .val (.int p2), .val (.int p3), .val (.int (p1 &&& (15 : Int32))), .val (.int (p2 &&& (15 : Int32))), .val (.int (p3 &&& (15 : Int32))), .val (.ref b1), .val (.ref x13), .val (.ref x13), .val (.ref x13), .val (.ref x76)] [])) _
        refine XS.aload X75.here hx rfl (hb hby at_144) rfl rfl ?_
        show Steps p.tables e below (T75.setTop (mkF m 146 #[.val (.int p1), .val (.int p2), .val (.int p3), .val (.int (p1 &&& (15 : Int32))), .val (.int (p2 &&& (15 : Int32))), .val (.int (p3 &&& (15 : Int32))), .val (.ref b1), .val (.ref x13), .val (.ref x13), .val (.ref x13), .val (.ref x76)] [(.ref x76)])) _
        refine XS.aload X75.here hx rfl (hb hby at_146) rfl rfl ?_
        show Steps p.tables e below (T75.setTop (mkF m 148 #[.val (.int p1), .val (.int p2), .val (.int p3), .val (.int (p1 &&& (15 : Int32))), .val (.int (p2 &&& (15 : Int32))), .val (.int (p3 &&& (15 : Int32))), .val (.ref b1), .val (.ref x13), .val (.ref x13), .val (.ref x13), .val (.ref x76)] [(.ref x13), (.ref x76)])) _
        refine Jvm.RoadKit.acmp (g := (mkF m 148 #[.val (.int p1), .val (.int p2), .val (.int p3), .val (.int (p1 &&& (15 : Int32))), .val (.int (p2 &&& (15 : Int32))), .val (.int (p3 &&& (15 : Int32))), .val (.ref b1), .val (.ref x13), .val (.ref x13), .val (.ref x13), .val (.ref x76)] [(.ref x13), (.ref x76)])) X75 hx rfl rfl rfl (pc0 := 148) (pc' := 151) (same := false) rfl (hb hby at_148) rfl (decide_eq_false fun q => (Ne.symm ne90) (Value.ref.inj q)) (by decide) (by decide) ?_
        show Steps p.tables e below (T75.setTop (mkF m 151 #[.val (.int p1), .val (.int p2), .val (.int p3), .val (.int (p1 &&& (15 : Int32))), .val (.int (p2 &&& (15 : Int32))), .val (.int (p3 &&& (15 : Int32))), .val (.ref b1), .val (.ref x13), .val (.ref x13), .val (.ref x13), .val (.ref x76)] [])) _
        refine XS.aload X75.here hx rfl (hb hby at_151) rfl rfl ?_
        show Steps p.tables e below (T75.setTop (mkF m 153 #[.val (.int p1), .val (.int p2), .val (.int p3), .val (.int (p1 &&& (15 : Int32))), .val (.int (p2 &&& (15 : Int32))), .val (.int (p3 &&& (15 : Int32))), .val (.ref b1), .val (.ref x13), .val (.ref x13), .val (.ref x13), .val (.ref x76)] [(.ref x76)])) _
        refine XS.aload X75.here hx rfl (hb hby at_153) rfl rfl ?_
        show Steps p.tables e below (T75.setTop (mkF m 155 #[.val (.int p1), .val (.int p2), .val (.int p3), .val (.int (p1 &&& (15 : Int32))), .val (.int (p2 &&& (15 : Int32))), .val (.int (p3 &&& (15 : Int32))), .val (.ref b1), .val (.ref x13), .val (.ref x13), .val (.ref x13), .val (.ref x76)] [(.ref x13), (.ref x76)])) _
        refine Jvm.RoadKit.acmp (g := (mkF m 155 #[.val (.int p1), .val (.int p2), .val (.int p3), .val (.int (p1 &&& (15 : Int32))), .val (.int (p2 &&& (15 : Int32))), .val (.int (p3 &&& (15 : Int32))), .val (.ref b1), .val (.ref x13), .val (.ref x13), .val (.ref x13), .val (.ref x76)] [(.ref x13), (.ref x76)])) X75 hx rfl rfl rfl (pc0 := 155) (pc' := 158) (same := false) rfl (hb hby at_155) rfl (decide_eq_false fun q => (Ne.symm ne90) (Value.ref.inj q)) (by decide) (by decide) ?_
        show Steps p.tables e below (T75.setTop (mkF m 158 #[.val (.int p1), .val (.int p2), .val (.int p3), .val (.int (p1 &&& (15 : Int32))), .val (.int (p2 &&& (15 : Int32))), .val (.int (p3 &&& (15 : Int32))), .val (.ref b1), .val (.ref x13), .val (.ref x13), .val (.ref x13), .val (.ref x76)] [])) _
        refine XS.aload X75.here hx rfl (hb hby at_158) rfl rfl ?_
        show Steps p.tables e below (T75.setTop (mkF m 160 #[.val (.int p1), .val (.int p2), .val (.int p3), .val (.int (p1 &&& (15 : Int32))), .val (.int (p2 &&& (15 : Int32))), .val (.int (p3 &&& (15 : Int32))), .val (.ref b1), .val (.ref x13), .val (.ref x13), .val (.ref x13), .val (.ref x76)] [(.ref x76)])) _
        refine X75.arraylength hx R83.1 (State.isArrayOf_alike hZ.alike R83.2.1) (g := (mkF m 160 #[.val (.int p1), .val (.int p2), .val (.int p3), .val (.int (p1 &&& (15 : Int32))), .val (.int (p2 &&& (15 : Int32))), .val (.int (p3 &&& (15 : Int32))), .val (.ref b1), .val (.ref x13), .val (.ref x13), .val (.ref x13), .val (.ref x76)] [(.ref x76)])) rfl rfl (hb hby at_160) _ ?_
        rw [show (newA x77 (.object "com/example/granulock/granulock/Resource$Holder") (p3 &&& (15 : Int32))).slots.size.toInt32 = (p3 &&& (15 : Int32)) from (len_of (show (newA x77 (.object "com/example/granulock/granulock/Resource$Holder") (p3 &&& (15 : Int32))).slots.size = (p3 &&& (15 : Int32)).toNatClampNeg from (by simp only [sz_set, sz_new])) (own_15 p3).1)]
        show Steps p.tables e below (T75.setTop (mkF m 161 #[.val (.int p1), .val (.int p2), .val (.int p3), .val (.int (p1 &&& (15 : Int32))), .val (.int (p2 &&& (15 : Int32))), .val (.int (p3 &&& (15 : Int32))), .val (.ref b1), .val (.ref x13), .val (.ref x13), .val (.ref x13), .val (.ref x76)] [(.int (p3 &&& (15 : Int32)))])) _
        refine XS.iload X75.here hx rfl (hb hby at_161) rfl ?_
        show Steps p.tables e below (T75.setTop (mkF m 163 #[.val (.int p1), .val (.int p2), .val (.int p3), .val (.int (p1 &&& (15 : Int32))), .val (.int (p2 &&& (15 : Int32))), .val (.int (p3 &&& (15 : Int32))), .val (.ref b1), .val (.ref x13), .val (.ref x13), .val (.ref x13), .val (.ref x76)] [(.int (p3 &&& (15 : Int32))), (.int (p3 &&& (15 : Int32)))])) _
        refine XS.icmpNo X75.here hx rfl (hb hby at_163) rfl (teq (rfl : (p3 &&& (15 : Int32)) = (p3 &&& (15 : Int32)))).2 ?_
        show Steps p.tables e below (T75.setTop (mkF m 166 #[.val (.int p1), .val (.int p2), .val (.int p3), .val (.int (p1 &&& (15 : Int32))), .val (.int (p2 &&& (15 : Int32))), .val (.int (p3 &&& (15 : Int32))), .val (.ref b1), .val (.ref x13), .val (.ref x13), .val (.ref x13), .val (.ref x76)] [])) _
        refine XS.iconst X75.here hx rfl (hb hby at_166) ?_
        show Steps p.tables e below (T75.setTop (mkF m 167 #[.val (.int p1), .val (.int p2), .val (.int p3), .val (.int (p1 &&& (15 : Int32))), .val (.int (p2 &&& (15 : Int32))), .val (.int (p3 &&& (15 : Int32))), .val (.ref b1), .val (.ref x13), .val (.ref x13), .val (.ref x13), .val (.ref x76)] [(.int (1 : Int32))])) _
        refine XS.goto X75.here hx rfl (pc0 := 167) (pc' := 171) rfl (hb hby at_167) (by decide) (by decide) ?_
        show Steps p.tables e below (T75.setTop (mkF m 171 #[.val (.int p1), .val (.int p2), .val (.int p3), .val (.int (p1 &&& (15 : Int32))), .val (.int (p2 &&& (15 : Int32))), .val (.int (p3 &&& (15 : Int32))), .val (.ref b1), .val (.ref x13), .val (.ref x13), .val (.ref x13), .val (.ref x76)] [(.int (1 : Int32))])) _
        exact k)
      obtain ⟨fs, hr, hrun, hended, hW, hsame⟩ := X75.leave (v := some (.int (1 : Int32))) (fun h => by rw [Bd.returns] at h; cases h)
      refine ⟨_, _, pre92 _ ?_, hrun, hended, _, _, rfl, ?_, ⟨_, rfl⟩, hW, hsame.mono (by decide) (by decide)⟩
      · exact retN X75 hx (t := .boolean) Bd.returns (by simp) (hb hby at_171) hr
      · show Q_law Z p1 p2 p3 wE h0 n0 _ T75.heap _
        exact ⟨rfl, N75, K75⟩
    · obtain ⟨cq93, kq93, q93a, q93b, q93c⟩ := isOf hZ hq72 E18
      obtain ⟨_, _, ⟨T93, L93, k93, n93⟩, -, X93, ⟨Lc93, hQ93, l93, y93, z93⟩, st93⟩ := X71.virtualBack hx (y := (⟨"com/example/granulock/granulock/ResourceTree$Ledger", "held", "(I)[Lcom/example/granulock/granulock/Resource$Holder;"⟩ : MethodName)) (z := (⟨"com/example/granulock/granulock/ResourceTree$Ledger", "held", "(I)[Lcom/example/granulock/granulock/Resource$Holder;"⟩ : MethodName)) hown (mvT hZ (hw _ (List.mem_of_getElem? (i := 27) rfl))) (mvT hZ (hw _ (List.mem_of_getElem? (i := 28) rfl))) (notFace_of_selects (args := #[]) (mvT hZ (hw _ (List.mem_of_getElem? (i := 30) rfl)))) (mvT hZ (hw _ (List.mem_of_getElem? (i := 30) rfl))) (mvT hZ (hw _ (List.mem_of_getElem? (i := 29) rfl))) (by decide) (backOf (W := 0) (rm_mK l Z a0 hw [] b1 (p3 &&& (15 : Int32)) x13 (newA x14 (.object "com/example/granulock/granulock/Resource$Holder") (p1 &&& (15 : Int32))) (p1 &&& (15 : Int32)) T12.heap n0 Zs23 E18 F19 ge_b1 (own_15 p3).1 (own_15 p3).2 R20 (by simp only [sz_set, sz_new]) (own_15 p1).1 ne24 hs74) hZ (hw _ (List.mem_of_getElem? (i := 31) rfl)) (hw _ (List.mem_of_getElem? (i := 2) rfl)) (by decide) (by decide)) q93a q93c (g := (mkF m 111 #[.val (.int p1), .val (.int p2), .val (.int p3), .val (.int (p1 &&& (15 : Int32))), .val (.int (p2 &&& (15 : Int32))), .val (.int (p3 &&& (15 : Int32))), .val (.ref b1), .val (.ref x13), .val (.ref x13), .val (.ref x13), .unset] [(.int (p3 &&& (15 : Int32))), (.ref b1)])) rfl (by rw [hml]; rfl) (Steps.refl _) (argsL := [(.int (p3 &&& (15 : Int32)))]) (rest := []) (lenOf pd_2 rfl) rfl (by show 2 * 0 + _ ≤ _; exact Nat.le_of_eq rfl) (hb hby at_111) (fun _ _ => ⟨rfl, hq72, (by decide : 2 + 0 ≤ _), (by decide : 20 + 0 ≤ _)⟩)
      dsimp only [Pt.U, Pt.locs, Pt.cells, Pt.slots] at X93 l93 y93 z93 st93 hQ93
      subst l93 y93 z93
      obtain ⟨rfl, N93q, hq94⟩ := hQ93
      have N93 := Fr.app N71 N93q
      have pre95 := fun (t : State) (k : Steps p.tables e below (T93.setTop (mkF m 143 #[.val (.int p1), .val (.int p2), .val (.int p3), .val (.int (p1 &&& (15 : Int32))), .val (.int (p2 &&& (15 : Int32))), .val (.int (p3 &&& (15 : Int32))), .val (.ref b1), .val (.ref x13), .val (.ref x13), .val (.ref x13), .val (.ref x13)] [(.int (1 : Int32))])) t) => pre73 t (by
        refine XS.aload X71.here hx rfl (hb hby at_107) rfl rfl ?_
        show Steps p.tables e below (T71.setTop (mkF m 109 #[.val (.int p1), .val (.int p2), .val (.int p3), .val (.int (p1 &&& (15 : Int32))), .val (.int (p2 &&& (15 : Int32))), .val (.int (p3 &&& (15 : Int32))), .val (.ref b1), .val (.ref x13), .val (.ref x13), .val (.ref x13), .unset] [(.ref b1)])) _
        refine XS.iload X71.here hx rfl (hb hby at_109) rfl ?_
        show Steps p.tables e below (T71.setTop (mkF m 111 #[.val (.int p1), .val (.int p2), .val (.int p3), .val (.int (p1 &&& (15 : Int32))), .val (.int (p2 &&& (15 : Int32))), .val (.int (p3 &&& (15 : Int32))), .val (.ref b1), .val (.ref x13), .val (.ref x13), .val (.ref x13), .unset] [(.int (p3 &&& (15 : Int32))), (.ref b1)])) _
        refine st93.trans ?_
        show Steps p.tables e below (T93.setTop (mkF m 114 #[.val (.int p1), .val (.int p2), .val (.int p3), .val (.int (p1 &&& (15 : Int32))), .val (.int (p2 &&& (15 : Int32))), .val (.int (p3 &&& (15 : Int32))), .val (.ref b1), .val (.ref x13), .val (.ref x13), .val (.ref x13), .unset] [(.ref x13)])) _
        refine XS.astore X93.here hx rfl (hb hby at_114) rfl rfl (l' := #[.val (.int p1), .val (.int p2), .val (.int p3), .val (.int (p1 &&& (15 : Int32))), .val (.int (p2 &&& (15 : Int32))), .val (.int (p3 &&& (15 : Int32))), .val (.ref b1), .val (.ref x13), .val (.ref x13), .val (.ref x13), .val (.ref x13)]) rfl ?_
        show Steps p.tables e below (T93.setTop (mkF m 116 #[.val (.int p1), .val (.int p2), .val (.int p3), .val (.int (p1 &&& (15 : Int32))), .val (.int (p2 &&& (15 : Int32))), .val (.int (p3 &&& (15 : Int32))), .val (.ref b1), .val (.ref x13), .val (.ref x13), .val (.ref x13), .val (.ref x13)] [])) _
        refine XS.aload X93.here hx rfl (hb hby at_116) rfl rfl ?_
        show Steps p.tables e below (T93.setTop (mkF m 118 #[.val (.int p1), .val (.int p2), .val (.int p3), .val (.int (p1 &&& (15 : Int32))), .val (.int (p2 &&& (15 : Int32))), .val (.int (p3 &&& (15 : Int32))), .val (.ref b1), .val (.ref x13), .val (.ref x13), .val (.ref x13), .val (.ref x13)] [(.ref x13)])) _
        refine XS.ifnonnullYes X93.here hx rfl (pc0 := 118) (pc' := 123) rfl (hb hby at_118) rfl (by decide) (by decide) ?_
        show Steps p.tables e below (T93.setTop (mkF m 123 #[.val (.int p1), .val (.int p2), .val (.int p3), .val (.int (p1 &&& (15 : Int32))), .val (.int (p2 &&& (15 : Int32))), .val (.int (p3 &&& (15 : Int32))), .val (.ref b1), .val (.ref x13), .val (.ref x13), .val (.ref x13), .val (.ref x13)] [])) _
        refine XS.iload X93.here hx rfl (hb hby at_123) rfl ?_
        show Steps p.tables e below (T93.setTop (mkF m 125 #[.val (.int p1), .val (.int p2), .val (.int p3), .val (.int (p1 &&& (15 : Int32))), .val (.int (p2 &&& (15 : Int32))), .val (.int (p3 &&& (15 : Int32))), .val (.ref b1), .val (.ref x13), .val (.ref x13), .val (.ref x13), .val (.ref x13)] [(.int (p3 &&& (15 : Int32)))])) _
        refine XS.aload X93.here hx rfl (hb hby at_125) rfl rfl ?_
        show Steps p.tables e below (T93.setTop (mkF m 127 #[.val (.int p1), .val (.int p2), .val (.int p3), .val (.int (p1 &&& (15 : Int32))), .val (.int (p2 &&& (15 : Int32))), .val (.int (p3 &&& (15 : Int32))), .val (.ref b1), .val (.ref x13), .val (.ref x13), .val (.ref x13), .val (.ref x13)] [(.ref x13), (.int (p3 &&& (15 : Int32)))])) _
        refine X93.arraylength hx (by rw [hq94]; exact R20.1) (State.isArrayOf_alike hZ.alike R20.2.1) (g := (mkF m 127 #[.val (.int p1), .val (.int p2), .val (.int p3), .val (.int (p1 &&& (15 : Int32))), .val (.int (p2 &&& (15 : Int32))), .val (.int (p3 &&& (15 : Int32))), .val (.ref b1), .val (.ref x13), .val (.ref x13), .val (.ref x13), .val (.ref x13)] [(.ref x13), (.int (p3 &&& (15 : Int32)))])) rfl rfl (hb hby at_127) _ ?_
        rw [show (newA x14 (.object "com/example/granulock/granulock/Resource$Holder") (p1 &&& (15 : Int32))).slots.size.toInt32 = (p1 &&& (15 : Int32)) from (len_of (show (newA x14 (.object "com/example/granulock/granulock/Resource$Holder") (p1 &&& (15 : Int32))).slots.size = (p1 &&& (15 : Int32)).toNatClampNeg from (by simp only [sz_set, sz_new])) (own_15 p1).1)]
        show Steps p.tables e below (T93.setTop (mkF m 128 #[.val (.int p1), .val (.int p2), .val (.int p3), .val (.int (p1 &&& (15 : Int32))), .val (.int (p2 &&& (15 : Int32))), .val (.int (p3 &&& (15 : Int32))), .val (.ref b1), .val (.ref x13), .val (.ref x13), .val (.ref x13), .val (.ref x13)] [(.int (p1 &&& (15 : Int32))), (.int (p3 &&& (15 : Int32)))])) _
        refine XS.icmpNo X93.here hx rfl (hb hby at_128) rfl (flt hs74).2.2.1 ?_
        show Steps p.tables e below (T93.setTop (mkF m 131 #[.val (.int p1), .val (.int p2), .val (.int p3), .val (.int (p1 &&& (15 : Int32))), .val (.int (p2 &&& (15 : Int32))), .val (.int (p3 &&& (15 : Int32))), .val (.ref b1), .val (.ref x13), .val (.ref x13), .val (.ref x13), .val (.ref x13)] [])) _
        refine XS.aload X93.here hx rfl (hb hby at_131) rfl rfl ?_
        show Steps p.tables e below (T93.setTop (mkF m 133 #[.val (.int p1), .val (.int p2), .val (.int p3), .val (.int (p1 &&& (15 : Int32))), .val (.int (p2 &&& (15 : Int32))), .val (.int (p3 &&& (15 : Int32))), .val (.ref b1), .val (.ref x13), .val (.ref x13), .val (.ref x13), .val (.ref x13)] [(.ref x13)])) _
        refine XS.aload X93.here hx rfl (hb hby at_133) rfl rfl ?_
        show Steps p.tables e below (T93.setTop (mkF m 135 #[.val (.int p1), .val (.int p2), .val (.int p3), .val (.int (p1 &&& (15 : Int32))), .val (.int (p2 &&& (15 : Int32))), .val (.int (p3 &&& (15 : Int32))), .val (.ref b1), .val (.ref x13), .val (.ref x13), .val (.ref x13), .val (.ref x13)] [(.ref x13), (.ref x13)])) _
        refine Jvm.RoadKit.acmp (g := (mkF m 135 #[.val (.int p1), .val (.int p2), .val (.int p3), .val (.int (p1 &&& (15 : Int32))), .val (.int (p2 &&& (15 : Int32))), .val (.int (p3 &&& (15 : Int32))), .val (.ref b1), .val (.ref x13), .val (.ref x13), .val (.ref x13), .val (.ref x13)] [(.ref x13), (.ref x13)])) X93 hx rfl rfl rfl (pc0 := 135) (pc' := 138) (same := true) rfl (hb hby at_135) rfl (decide_eq_true rfl) (by decide) (by decide) ?_
        show Steps p.tables e below (T93.setTop (mkF m 138 #[.val (.int p1), .val (.int p2), .val (.int p3), .val (.int (p1 &&& (15 : Int32))), .val (.int (p2 &&& (15 : Int32))), .val (.int (p3 &&& (15 : Int32))), .val (.ref b1), .val (.ref x13), .val (.ref x13), .val (.ref x13), .val (.ref x13)] [])) _
        refine XS.iconst X93.here hx rfl (hb hby at_138) ?_
        show Steps p.tables e below (T93.setTop (mkF m 139 #[.val (.int p1), .val (.int p2), .val (.int p3), .val (.int (p1 &&& (15 : Int32))), .val (.int (p2 &&& (15 : Int32))), .val (.int (p3 &&& (15 : Int32))), .val (.ref b1), .val (.ref x13), .val (.ref x13), .val (.ref x13), .val (.ref x13)] [(.int (1 : Int32))])) _
        refine XS.goto X93.here hx rfl (pc0 := 139) (pc' := 143) rfl (hb hby at_139) (by decide) (by decide) ?_
        show Steps p.tables e below (T93.setTop (mkF m 143 #[.val (.int p1), .val (.int p2), .val (.int p3), .val (.int (p1 &&& (15 : Int32))), .val (.int (p2 &&& (15 : Int32))), .val (.int (p3 &&& (15 : Int32))), .val (.ref b1), .val (.ref x13), .val (.ref x13), .val (.ref x13), .val (.ref x13)] [(.int (1 : Int32))])) _
        exact k)
      obtain ⟨fs, hr, hrun, hended, hW, hsame⟩ := X93.leave (v := some (.int (1 : Int32))) (fun h => by rw [Bd.returns] at h; cases h)
      refine ⟨_, _, pre95 _ ?_, hrun, hended, _, _, rfl, ?_, ⟨_, rfl⟩, hW, hsame.mono (by decide) (by decide)⟩
      · exact retN X93 hx (t := .boolean) Bd.returns (by simp) (hb hby at_143) hr
      · show Q_law Z p1 p2 p3 wE h0 n0 _ T93.heap _
        rw [hq94]
        exact ⟨rfl, N93, K12⟩

set_option maxRecDepth 65536 in
set_option maxHeartbeats 40000000 in
theorem comes_1 {Post : Tables → Env → Array Value → State → Outcome → State → Prop} (hpost : ∀ tb e args s v u, (limb_1_1.after args s (.returned v) u = true ∧ limb_1_2.after args s (.returned v) u = true ∧ True) → FrameEnd s (.returned v) u (Jvm.fieldLocs frame_1_writes args s ++ Jvm.arrayLocs frame_1_arrays args s ++ Jvm.staticLocs frame_1_statics s) 16 192 → Post tb e args s (.returned v) u) :
    ArmFor flags0 classFile x code maxLocals ret World_1 tables_1 room_1 Calls_1 rest_1 Pre_1 Post := by
  intro l hfl _ _ p e ha hc hk s m args below hf hA hF happ hP
  obtain ⟨hcalls, hrest, hpre⟩ := hP
  obtain ⟨-, -, -, hnamed, -, -, -, hat⟩ := (Spec.applies_iff hf).mp happ
  obtain ⟨hg, hn⟩ := and_e (Cond.before_iff.mp (show (Jvm.Cond.and given_1 narrow_1).before args s = true from hpre))
  obtain ⟨g1, g2⟩ := and_e hg
  obtain ⟨g3, g4⟩ := and_e g2
  obtain ⟨g5, g6⟩ := and_e g4
  obtain ⟨w0, w1, w2, rfl⟩ : ∃ w0 w1 w2 : Value, args = #[w0, w1, w2] := by
    have hs : args.size = 3 := by simpa [Cond.value, given_1] using g1
    obtain ⟨L⟩ := args
    match L, hs with
    | [w0, w1, w2], _ => exact ⟨w0, w1, w2, rfl⟩
  have hw := fun d (hd : d ∈ tables_1) => atoms_spec (ws := Jvm.Cond.code x code maxLocals ret :: tables_1) hat d (List.mem_cons_of_mem _ hd)
  have hfit : Fit s := fun {y c} hc i hi => by
    obtain ⟨ha, rfl⟩ := Array.getElem?_eq_some_iff.mp hc
    have q := List.all_eq_true.mp ((Array.all_eq_true_iff_forall_mem.mp hF) _ (Array.getElem_mem ha)) i (List.mem_range.mpr hi)
    simpa [Array.getElem?_eq_getElem hi] using q
  obtain ⟨hsets, hown0⟩ := atoms_of _ (rest_1_c_eq ▸ (show rest_1_c.before _ s = true from hrest))
  have hr0 := Cond.before_iff.mp hown0
  obtain ⟨i0, ei0⟩ := is_v g3
  obtain rfl : w0 = (.int i0) := Option.some.inj ei0
  obtain ⟨i1, ei1⟩ := is_v g5
  obtain rfl : w1 = (.int i1) := Option.some.inj ei1
  obtain ⟨i2, ei2⟩ := is_v g6
  obtain rfl : w2 = (.int i2) := Option.some.inj ei2
  obtain ⟨z_ImmutableCollections_EMPTY_LIST, ez_ImmutableCollections_EMPTY_LIST⟩ := exa_v (Cond.before_iff.mp (hsets _ (List.mem_of_getElem? (i := 2) rfl)))
  have S_z_ImmutableCollections_EMPTY_LIST := Sta.start (Z := s) ez_ImmutableCollections_EMPTY_LIST (Or.inl (hsets _ (List.mem_of_getElem? (i := 1) rfl)))
  have E_z_ImmutableCollections_EMPTY_LIST := Exa.start ez_ImmutableCollections_EMPTY_LIST (Cond.before_iff.mp (hsets _ (List.mem_of_getElem? (i := 2) rfl)))
  have F_z_ImmutableCollections_EMPTY_LIST_allowNulls := own_fld_eq ez_ImmutableCollections_EMPTY_LIST (Cond.before_iff.mp (hsets _ (List.mem_of_getElem? (i := 6) rfl)))
  obtain ⟨n, o, h1, h2, h3, _, L, rfl, ⟨rfl, N, -⟩, hq⟩ := rm_law l s _ hw tables_1 i0 i1 i2 z_ImmutableCollections_EMPTY_LIST s.heap s.heap.size (Nat.le_refl _) S_z_ImmutableCollections_EMPTY_LIST p e ha hc hk s m _ below hf ((Spec.applies_iff_loose hf).mp happ).1 ⟨rfl, State.Warmed39.refl s, rfl⟩ trivial
  refine ⟨n, _, h1, h2, h3, hpost _ _ _ _ _ _ ⟨Cond.after_iff.mpr rfl, Cond.after_iff.mpr (eq_i res_at (Term.int_eval (1)) rfl), trivial⟩ ⟨hq.1, hq.2.1, (hq.2.2.sift fun y hy => Or.inr (N y hy)).mono (by decide) (by decide)⟩⟩
theorem main_1_1 : Claimed_1_1 := comes_1 fun _ _ _ _ _ _ h hF => ⟨h.1, hF⟩
theorem main_1_2 : Claimed_1_2 := comes_1 fun _ _ _ _ _ _ h hF => ⟨h.2.1, hF⟩
end Jvm.Pilot.@@N@@
namespace Jvm.Pilot.@@N@@
open Jvm Jvm.ClassFile Sem Op Lib Jvm.Free Jvm.Stand Jvm.Pilot.@@N@@.Jvm.D
/-! MADE BY PROGRAM (witnessworld.py) out of the Statement's table words and the real class files: 25 classes; the members and pool entries that the words name. The judged class is class 1, her method 1. -/
namespace start1
open Jvm.ClassFile
def u (s : String) : CpInfo := .utf8 (stringToUtf16 s)
/-- a pool by its gaps: so many unusable entries, then the entry; so many at the end -/
def gap : Nat → List CpInfo → List CpInfo
  | 0, r => r
  | n + 1, r => .unusable :: gap n r
def poolList (es : List (Nat × CpInfo)) (last : Nat) : List CpInfo := es.foldr (fun e r => gap e.1 (e.2 :: r)) (gap last [])
def pool (es : List (Nat × CpInfo)) (last : Nat) : Array CpInfo := ⟨poolList es last⟩
def fileOf (pool : Array CpInfo) (this : Nat) (attrs : Array Attribute := #[]) (ms : Array MethodInfo := #[]) (fl : Nat := 33) (sup : Nat := 0) (ifs : Array Nat := #[]) (fds : Array FieldInfo := #[]) : ClassFile where
  minorVersion := 0
  majorVersion := 65
  constantPool := pool
  accessFlags := fl
  thisClass := this
  superClass := sup
  interfaces := ifs
  fields := fds
  methods := ms
  attributes := attrs
def plain (name : String) (sup : Option ClassId) : Class where
  name := name
  kind := .ordinary
  loader := none
  accessFlags := 33
  super := sup
  interfaces := #[]
  cf := none
  fields := #[]
  methods := #[]
  instanceTypes := #[]
  staticTypes := #[]
  resolved := #[]
  callSites := []
  init := .initialized
  statics := none
  mirror := none

def pool0 : Array CpInfo := pool [(5, u "<init>"), (0, u "()V"), (1, .class_ 10), (1, u "java/lang/Object")] 113

def k0c0 : Code := { maxStack := 0, maxLocals := 1, code := object_method_1_code, exceptionTable := #[], attributes := #[] }
def k0m0 : Method := { name := "<init>", desc := "()V", sig := { parameters := [], returnType := none }, accessFlags := 1, code := some k0c0 }
/-- java/lang/Object -/
def k0 : Class := { plain "java/lang/Object" none with
  accessFlags := 33
  interfaces := #[]
  cf := some (fileOf pool0 8 #[] #[{ accessFlags := 1, nameIndex := 5, descriptorIndex := 6, attributes := #[] }] 33 0 #[] #[])
  fields := #[]
  methods := #[k0m0]
  instanceTypes := #[]
  staticTypes := #[]
  resolved := Array.replicate 124 none
  statics := none }

def pool1 : Array CpInfo := pool [(2, .class_ 4), (0, .nameAndType 5 6), (0, u "java/lang/Object"), (0, u "<init>"), (0, u "()V"), (0, .class_ 8), (0, u "com/example/granulock/granulock/ResourceTree$Ledger"), (0, .methodref 7 3), (0, .methodref 7 11), (0, .nameAndType 12 13), (0, u "held"), (0, u "(I)[Lcom/example/granulock/granulock/Resource$Holder;"), (0, .class_ 15), (0, u "com/example/granulock/granulock/LedgerHeldPinLaw"), (2, u "law"), (0, u "(III)Z")] 14

def k1m0 : Method := { name := "<init>", desc := "()V", sig := { parameters := [], returnType := none }, accessFlags := 1, code := none }
def k1c1 : Code := { maxStack := 2, maxLocals := 11, code := code, exceptionTable := #[], attributes := #[] }
def k1m1 : Method := { name := "law", desc := "(III)Z", sig := { parameters := [.int, .int, .int], returnType := some .boolean }, accessFlags := 9, code := some k1c1 }
/-- com/example/granulock/granulock/LedgerHeldPinLaw -/
def k1 : Class := { plain "com/example/granulock/granulock/LedgerHeldPinLaw" (some 0) with
  accessFlags := 49
  interfaces := #[]
  cf := some (fileOf pool1 14 #[] #[{ accessFlags := 1, nameIndex := 5, descriptorIndex := 6, attributes := #[] }, { accessFlags := 9, nameIndex := 18, descriptorIndex := 19, attributes := #[] }] 49 2 #[] #[])
  fields := #[]
  methods := #[k1m0, k1m1]
  instanceTypes := #[]
  staticTypes := #[]
  resolved := Array.replicate 34 none
  statics := none }

def pool2 : Array CpInfo := pool [(1, .methodref 2 3), (0, .class_ 4), (0, .nameAndType 5 6), (0, u "java/lang/Object"), (0, u "<init>"), (0, u "()V"), (1, .class_ 10), (1, u "com/example/granulock/granulock/Latch"), (8, u "WORD"), (0, u "Ljava/lang/invoke/VarHandle;"), (54, u "word"), (10, u "SPINS"), (0, u "I")] 14

def k2c0 : Code := { maxStack := 1, maxLocals := 1, code := prog_13_method_1_code, exceptionTable := #[], attributes := #[] }
def k2m0 : Method := { name := "<init>", desc := "()V", sig := { parameters := [], returnType := none }, accessFlags := 0, code := some k2c0 }
/-- com/example/granulock/granulock/Latch -/
def k2 : Class := { plain "com/example/granulock/granulock/Latch" (some 0) with
  accessFlags := 32
  interfaces := #[]
  cf := some (fileOf pool2 8 #[] #[{ accessFlags := 0, nameIndex := 5, descriptorIndex := 6, attributes := #[] }] 32 2 #[] #[{ accessFlags := 26, nameIndex := 86, descriptorIndex := 87, attributes := #[] }, { accessFlags := 26, nameIndex := 19, descriptorIndex := 20, attributes := #[] }, { accessFlags := 2, nameIndex := 75, descriptorIndex := 87, attributes := #[] }])
  fields := #[{ name := "SPINS", type := .int, accessFlags := 26, slot := 0, constantValue := 0 }, { name := "WORD", type := (.object "java/lang/invoke/VarHandle"), accessFlags := 26, slot := 1, constantValue := 0 }, { name := "word", type := .int, accessFlags := 2, slot := 0, constantValue := 0 }]
  methods := #[k2m0]
  instanceTypes := #[.int]
  staticTypes := #[.int, (.object "java/lang/invoke/VarHandle")]
  resolved := Array.replicate 102 none
  statics := none }

def pool3 : Array CpInfo := pool [(1, .methodref 2 3), (0, .class_ 4), (0, .nameAndType 5 6), (0, u "com/example/granulock/granulock/Latch"), (0, u "<init>"), (0, u "()V"), (0, .class_ 8), (0, u "com/example/granulock/granulock/LatchedEntries$Entry"), (0, u "dropped"), (0, u "Z"), (7, .class_ 19), (0, u "com/example/granulock/granulock/LatchedEntries")] 2

def k3c0 : Code := { maxStack := 1, maxLocals := 1, code := prog_15_method_1_code, exceptionTable := #[], attributes := #[] }
def k3m0 : Method := { name := "<init>", desc := "()V", sig := { parameters := [], returnType := none }, accessFlags := 0, code := some k3c0 }
/-- com/example/granulock/granulock/LatchedEntries$Entry -/
def k3 : Class := { plain "com/example/granulock/granulock/LatchedEntries$Entry" (some 2) with
  accessFlags := 1056
  interfaces := #[]
  cf := some (fileOf pool3 7 #[.nestHost 18] #[{ accessFlags := 0, nameIndex := 5, descriptorIndex := 6, attributes := #[] }] 1056 2 #[] #[{ accessFlags := 0, nameIndex := 9, descriptorIndex := 10, attributes := #[] }])
  fields := #[{ name := "dropped", type := .boolean, accessFlags := 0, slot := 1, constantValue := 0 }]
  methods := #[k3m0]
  instanceTypes := #[.int, .boolean]
  staticTypes := #[]
  resolved := Array.replicate 22 none
  statics := none }

def pool4 : Array CpInfo := pool [(1, .methodref 2 3), (0, .class_ 4), (0, .nameAndType 5 6), (0, u "com/example/granulock/granulock/LatchedEntries$Entry"), (0, u "<init>"), (0, u "()V"), (0, .interfaceMethodref 8 9), (0, .class_ 10), (0, .nameAndType 11 12), (0, u "java/util/List"), (0, u "of"), (0, u "()Ljava/util/List;"), (0, .fieldref 14 15), (0, .class_ 16), (0, .nameAndType 17 18), (0, u "com/example/granulock/granulock/ResourceTree$Ledger"), (0, u "underway"), (0, u "Ljava/util/List;"), (13, .fieldref 14 33), (0, .nameAndType 34 35), (0, u "held"), (0, u "[Lcom/example/granulock/granulock/Resource$Holder;"), (0, .class_ 37), (0, u "com/example/granulock/granulock/Resource$Holder"), (2, u "modes"), (0, u "[I"), (7, u "(I)[Lcom/example/granulock/granulock/Resource$Holder;"), (4, .class_ 55), (0, u "com/example/granulock/granulock/ResourceTree")] 11

def k4c0 : Code := { maxStack := 2, maxLocals := 1, code := prog_43_method_1_code, exceptionTable := #[], attributes := #[] }
def k4m0 : Method := { name := "<init>", desc := "()V", sig := { parameters := [], returnType := none }, accessFlags := 0, code := some k4c0 }
def k4c1 : Code := { maxStack := 2, maxLocals := 2, code := prog_43_method_3_code, exceptionTable := #[], attributes := #[] }
def k4m1 : Method := { name := "held", desc := "(I)[Lcom/example/granulock/granulock/Resource$Holder;", sig := { parameters := [.int], returnType := some (.array (.object "com/example/granulock/granulock/Resource$Holder")) }, accessFlags := 0, code := some k4c1 }
/-- com/example/granulock/granulock/ResourceTree$Ledger -/
def k4 : Class := { plain "com/example/granulock/granulock/ResourceTree$Ledger" (some 3) with
  accessFlags := 32
  interfaces := #[]
  cf := some (fileOf pool4 14 #[.nestHost 54] #[{ accessFlags := 0, nameIndex := 5, descriptorIndex := 6, attributes := #[] }, { accessFlags := 0, nameIndex := 34, descriptorIndex := 49, attributes := #[] }] 32 2 #[] #[{ accessFlags := 0, nameIndex := 17, descriptorIndex := 18, attributes := #[] }, { accessFlags := 2, nameIndex := 34, descriptorIndex := 35, attributes := #[] }, { accessFlags := 2, nameIndex := 40, descriptorIndex := 41, attributes := #[] }])
  fields := #[{ name := "underway", type := (.object "java/util/List"), accessFlags := 0, slot := 2, constantValue := 0 }, { name := "held", type := (.array (.object "com/example/granulock/granulock/Resource$Holder")), accessFlags := 2, slot := 3, constantValue := 0 }, { name := "modes", type := (.array .int), accessFlags := 2, slot := 4, constantValue := 0 }]
  methods := #[k4m0, k4m1]
  instanceTypes := #[.int, .boolean, (.object "java/util/List"), (.array (.object "com/example/granulock/granulock/Resource$Holder")), (.array .int)]
  staticTypes := #[]
  resolved := Array.replicate 67 none
  statics := none }

def pool5 : Array CpInfo := pool [(8, .class_ 10), (1, u "java/lang/Iterable"), (24, .class_ 36), (0, u "java/lang/Object")] 25

/-- java/lang/Iterable -/
def k5 : Class := { plain "java/lang/Iterable" (some 0) with
  accessFlags := 1537
  interfaces := #[]
  cf := some (fileOf pool5 8 #[] #[] 1537 35 #[] #[])
  fields := #[]
  methods := #[]
  instanceTypes := #[]
  staticTypes := #[]
  resolved := Array.replicate 62 none
  statics := none }

def pool6 : Array CpInfo := pool [(10, .class_ 12), (1, u "java/util/Collection"), (47, .class_ 61), (0, u "java/lang/Object"), (0, .class_ 63), (0, u "java/lang/Iterable")] 51

/-- java/util/Collection -/
def k6 : Class := { plain "java/util/Collection" (some 0) with
  accessFlags := 1537
  interfaces := #[5]
  cf := some (fileOf pool6 10 #[] #[] 1537 60 #[62] #[])
  fields := #[]
  methods := #[]
  instanceTypes := #[]
  staticTypes := #[]
  resolved := Array.replicate 115 none
  statics := none }

def pool7 : Array CpInfo := pool [(8, .class_ 10), (1, u "java/util/SequencedCollection"), (15, .class_ 27), (0, u "java/lang/Object"), (0, .class_ 29), (0, u "java/util/Collection")] 27

/-- java/util/SequencedCollection -/
def k7 : Class := { plain "java/util/SequencedCollection" (some 0) with
  accessFlags := 1537
  interfaces := #[6]
  cf := some (fileOf pool7 8 #[] #[] 1537 26 #[28] #[])
  fields := #[]
  methods := #[]
  instanceTypes := #[]
  staticTypes := #[]
  resolved := Array.replicate 57 none
  statics := none }

def pool8 : Array CpInfo := pool [(8, .class_ 10), (1, u "java/util/List"), (77, u "of"), (1, .fieldref 91 92), (0, .class_ 93), (0, .nameAndType 94 95), (0, u "java/util/ImmutableCollections"), (0, u "EMPTY_LIST"), (0, u "Ljava/util/ImmutableCollections$ListN;"), (7, .class_ 104), (0, u "java/lang/Object"), (14, u "()Ljava/util/List;"), (0, .class_ 121), (0, u "java/util/SequencedCollection")] 129

def k8c0 : Code := { maxStack := 1, maxLocals := 0, code := jdk_40_method_36_code, exceptionTable := #[], attributes := #[] }
def k8m0 : Method := { name := "of", desc := "()Ljava/util/List;", sig := { parameters := [], returnType := some (.object "java/util/List") }, accessFlags := 9, code := some k8c0 }
/-- java/util/List -/
def k8 : Class := { plain "java/util/List" (some 0) with
  accessFlags := 1537
  interfaces := #[7]
  cf := some (fileOf pool8 8 #[] #[{ accessFlags := 9, nameIndex := 88, descriptorIndex := 119, attributes := #[] }] 1537 103 #[120] #[])
  fields := #[]
  methods := #[k8m0]
  instanceTypes := #[]
  staticTypes := #[]
  resolved := Array.replicate 251 none
  statics := none }

def pool9 : Array CpInfo := pool [(2, .class_ 4), (1, u "java/lang/Object"), (0, u "<init>"), (0, u "()V"), (3, .class_ 11), (0, u "java/util/ImmutableCollections$List12"), (0, .class_ 13), (0, u "java/util/ImmutableCollections$ListN"), (3, u "Z"), (29, .class_ 49), (1, u "java/util/ImmutableCollections"), (0, u "$assertionsDisabled"), (5, u "[Ljava/lang/Object;"), (5, u "EMPTY_LIST"), (0, u "Ljava/util/ImmutableCollections$ListN;"), (8, u "EMPTY_LIST_NULLS"), (22, u "SALT32L"), (0, u "J"), (2, u "REVERSE"), (6, u "archivedObjects"), (2, u "EMPTY"), (0, u "Ljava/lang/Object;"), (0, .class_ 112), (0, u "java/util/ImmutableCollections$SetN"), (5, u "EMPTY_SET"), (0, u "Ljava/util/ImmutableCollections$SetN;"), (0, .class_ 121), (0, u "java/util/ImmutableCollections$MapN"), (3, u "EMPTY_MAP"), (0, u "Ljava/util/ImmutableCollections$MapN;"), (4, u "EXPAND_FACTOR"), (0, u "I"), (36, .class_ 170), (0, u "java/util/ImmutableCollections$MapN$MapNIterator"), (0, .class_ 172), (0, u "java/util/ImmutableCollections$MapN$1"), (0, .class_ 174), (0, u "java/util/ImmutableCollections$Map1"), (0, .class_ 176), (0, u "java/util/ImmutableCollections$AbstractImmutableMap"), (0, .class_ 178), (0, u "java/util/ImmutableCollections$SetN$SetNIterator"), (0, .class_ 180), (0, u "java/util/ImmutableCollections$Set12"), (0, .class_ 182), (0, u "java/util/ImmutableCollections$Set12$1"), (0, .class_ 184), (0, u "java/util/ImmutableCollections$AbstractImmutableSet"), (0, .class_ 186), (0, u "java/util/ImmutableCollections$SubList"), (0, .class_ 188), (0, u "java/util/ImmutableCollections$ListItr"), (0, .class_ 190), (0, u "java/util/ImmutableCollections$AbstractImmutableList"), (0, .class_ 192), (0, u "java/util/ImmutableCollections$AbstractImmutableCollection"), (0, .class_ 194), (0, u "java/util/ImmutableCollections$Access"), (0, .class_ 196), (0, u "java/util/ImmutableCollections$Access$1")] 16

def k9m0 : Method := { name := "<init>", desc := "()V", sig := { parameters := [], returnType := none }, accessFlags := 2, code := none }
/-- java/util/ImmutableCollections -/
def k9 : Class := { plain "java/util/ImmutableCollections" (some 0) with
  accessFlags := 32
  interfaces := #[]
  cf := some (fileOf pool9 47 #[.nestMembers #[120, 169, 171, 173, 175, 111, 177, 179, 181, 183, 12, 10, 185, 187, 189, 191, 193, 195]] #[{ accessFlags := 2, nameIndex := 5, descriptorIndex := 6, attributes := #[] }] 32 2 #[] #[{ accessFlags := 26, nameIndex := 95, descriptorIndex := 96, attributes := #[] }, { accessFlags := 26, nameIndex := 99, descriptorIndex := 17, attributes := #[] }, { accessFlags := 10, nameIndex := 106, descriptorIndex := 56, attributes := #[] }, { accessFlags := 26, nameIndex := 109, descriptorIndex := 110, attributes := #[] }, { accessFlags := 24, nameIndex := 62, descriptorIndex := 63, attributes := #[] }, { accessFlags := 24, nameIndex := 72, descriptorIndex := 63, attributes := #[] }, { accessFlags := 24, nameIndex := 118, descriptorIndex := 119, attributes := #[] }, { accessFlags := 24, nameIndex := 125, descriptorIndex := 126, attributes := #[] }, { accessFlags := 24, nameIndex := 131, descriptorIndex := 132, attributes := #[] }, { accessFlags := 4120, nameIndex := 50, descriptorIndex := 17, attributes := #[] }])
  fields := #[{ name := "SALT32L", type := .long, accessFlags := 26, slot := 0, constantValue := 0 }, { name := "REVERSE", type := .boolean, accessFlags := 26, slot := 1, constantValue := 0 }, { name := "archivedObjects", type := (.array (.object "java/lang/Object")), accessFlags := 10, slot := 2, constantValue := 0 }, { name := "EMPTY", type := (.object "java/lang/Object"), accessFlags := 26, slot := 3, constantValue := 0 }, { name := "EMPTY_LIST", type := (.object "java/util/ImmutableCollections$ListN"), accessFlags := 24, slot := 4, constantValue := 0 }, { name := "EMPTY_LIST_NULLS", type := (.object "java/util/ImmutableCollections$ListN"), accessFlags := 24, slot := 5, constantValue := 0 }, { name := "EMPTY_SET", type := (.object "java/util/ImmutableCollections$SetN"), accessFlags := 24, slot := 6, constantValue := 0 }, { name := "EMPTY_MAP", type := (.object "java/util/ImmutableCollections$MapN"), accessFlags := 24, slot := 7, constantValue := 0 }, { name := "EXPAND_FACTOR", type := .int, accessFlags := 24, slot := 8, constantValue := 0 }, { name := "$assertionsDisabled", type := .boolean, accessFlags := 4120, slot := 9, constantValue := 0 }]
  methods := #[k9m0]
  instanceTypes := #[]
  staticTypes := #[.long, .boolean, (.array (.object "java/lang/Object")), (.object "java/lang/Object"), (.object "java/util/ImmutableCollections$ListN"), (.object "java/util/ImmutableCollections$ListN"), (.object "java/util/ImmutableCollections$SetN"), (.object "java/util/ImmutableCollections$MapN"), .int, .boolean]
  resolved := Array.replicate 213 none
  statics := some 0 }

def pool10 : Array CpInfo := pool [(2, .class_ 4), (1, u "java/lang/Object"), (3, .class_ 10), (1, u "com/example/granulock/granulock/Resource$Claim"), (0, u "transaction"), (0, u "Ljava/lang/Object;"), (2, u "mode"), (0, u "Lcom/example/granulock/granulock/LockMode;"), (19, .class_ 37), (0, u "com/example/granulock/granulock/Resource")] 2

/-- com/example/granulock/granulock/Resource$Claim -/
def k10 : Class := { plain "com/example/granulock/granulock/Resource$Claim" (some 0) with
  accessFlags := 1056
  interfaces := #[]
  cf := some (fileOf pool10 8 #[.nestHost 36] #[] 1056 2 #[] #[{ accessFlags := 16, nameIndex := 11, descriptorIndex := 12, attributes := #[] }, { accessFlags := 0, nameIndex := 15, descriptorIndex := 16, attributes := #[] }])
  fields := #[{ name := "transaction", type := (.object "java/lang/Object"), accessFlags := 16, slot := 0, constantValue := 0 }, { name := "mode", type := (.object "com/example/granulock/granulock/LockMode"), accessFlags := 0, slot := 1, constantValue := 0 }]
  methods := #[]
  instanceTypes := #[(.object "java/lang/Object"), (.object "com/example/granulock/granulock/LockMode")]
  staticTypes := #[]
  resolved := Array.replicate 40 none
  statics := none }

def pool11 : Array CpInfo := pool [(2, .class_ 4), (1, u "com/example/granulock/granulock/Resource$Claim"), (3, .class_ 10), (1, u "com/example/granulock/granulock/Resource$Holder"), (0, u "resource"), (0, u "Lcom/example/granulock/granulock/Resource;"), (1, .class_ 16), (1, u "com/example/granulock/granulock/Resource"), (5, u "I"), (18, u "nextHolder"), (0, u "Lcom/example/granulock/granulock/Resource$Holder;"), (0, u "place"), (0, u "childLocks")] 18

/-- com/example/granulock/granulock/Resource$Holder -/
def k11 : Class := { plain "com/example/granulock/granulock/Resource$Holder" (some 10) with
  accessFlags := 32
  interfaces := #[]
  cf := some (fileOf pool11 8 #[.nestHost 14] #[] 32 2 #[] #[{ accessFlags := 0, nameIndex := 11, descriptorIndex := 12, attributes := #[] }, { accessFlags := 0, nameIndex := 41, descriptorIndex := 42, attributes := #[] }, { accessFlags := 0, nameIndex := 43, descriptorIndex := 22, attributes := #[] }, { accessFlags := 0, nameIndex := 44, descriptorIndex := 22, attributes := #[] }])
  fields := #[{ name := "resource", type := (.object "com/example/granulock/granulock/Resource"), accessFlags := 0, slot := 2, constantValue := 0 }, { name := "nextHolder", type := (.object "com/example/granulock/granulock/Resource$Holder"), accessFlags := 0, slot := 3, constantValue := 0 }, { name := "place", type := .int, accessFlags := 0, slot := 4, constantValue := 0 }, { name := "childLocks", type := .int, accessFlags := 0, slot := 5, constantValue := 0 }]
  methods := #[]
  instanceTypes := #[(.object "java/lang/Object"), (.object "com/example/granulock/granulock/LockMode"), (.object "com/example/granulock/granulock/Resource"), (.object "com/example/granulock/granulock/Resource$Holder"), .int, .int]
  staticTypes := #[]
  resolved := Array.replicate 63 none
  statics := none }

def pool12 : Array CpInfo := pool [(2, .class_ 4), (1, u "java/lang/Object"), (0, u "<init>"), (0, u "()V"), (1, .class_ 10), (1, u "java/util/AbstractCollection"), (66, .class_ 78), (0, u "java/util/Collection")] 81

def k12m0 : Method := { name := "<init>", desc := "()V", sig := { parameters := [], returnType := none }, accessFlags := 4, code := none }
/-- java/util/AbstractCollection -/
def k12 : Class := { plain "java/util/AbstractCollection" (some 0) with
  accessFlags := 1057
  interfaces := #[6]
  cf := some (fileOf pool12 8 #[] #[{ accessFlags := 4, nameIndex := 5, descriptorIndex := 6, attributes := #[] }] 1057 2 #[77] #[])
  fields := #[]
  methods := #[k12m0]
  instanceTypes := #[]
  staticTypes := #[]
  resolved := Array.replicate 160 none
  statics := none }

def pool13 : Array CpInfo := pool [(2, .class_ 4), (1, u "java/util/AbstractCollection"), (0, u "<init>"), (0, u "()V"), (1, .class_ 10), (1, u "java/util/ImmutableCollections"), (2, .class_ 14), (0, u "java/util/ImmutableCollections$AbstractImmutableCollection")] 41

def k13m0 : Method := { name := "<init>", desc := "()V", sig := { parameters := [], returnType := none }, accessFlags := 0, code := none }
/-- java/util/ImmutableCollections$AbstractImmutableCollection -/
def k13 : Class := { plain "java/util/ImmutableCollections$AbstractImmutableCollection" (some 12) with
  accessFlags := 1056
  interfaces := #[]
  cf := some (fileOf pool13 13 #[.nestHost 8] #[{ accessFlags := 0, nameIndex := 5, descriptorIndex := 6, attributes := #[] }] 1056 2 #[] #[])
  fields := #[]
  methods := #[k13m0]
  instanceTypes := #[]
  staticTypes := #[]
  resolved := Array.replicate 56 none
  statics := none }

def pool14 : Array CpInfo := pool [(1, .class_ 2), (0, u "java/util/RandomAccess"), (0, .class_ 4), (0, u "java/lang/Object")] 2

/-- java/util/RandomAccess -/
def k14 : Class := { plain "java/util/RandomAccess" (some 0) with
  accessFlags := 1537
  interfaces := #[]
  cf := some (fileOf pool14 1 #[] #[] 1537 3 #[] #[])
  fields := #[]
  methods := #[]
  instanceTypes := #[]
  staticTypes := #[]
  resolved := Array.replicate 7 none
  statics := none }

def pool15 : Array CpInfo := pool [(2, .class_ 4), (1, u "java/util/ImmutableCollections$AbstractImmutableCollection"), (0, u "<init>"), (0, u "()V"), (1, .class_ 10), (1, u "java/util/ImmutableCollections"), (3, .class_ 16), (1, u "java/util/ImmutableCollections$AbstractImmutableList"), (60, .class_ 78), (0, u "java/util/List"), (45, .class_ 125), (0, u "java/util/RandomAccess")] 70

def k15m0 : Method := { name := "<init>", desc := "()V", sig := { parameters := [], returnType := none }, accessFlags := 0, code := none }
/-- java/util/ImmutableCollections$AbstractImmutableList -/
def k15 : Class := { plain "java/util/ImmutableCollections$AbstractImmutableList" (some 13) with
  accessFlags := 1056
  interfaces := #[8, 14]
  cf := some (fileOf pool15 14 #[.nestHost 8] #[{ accessFlags := 0, nameIndex := 5, descriptorIndex := 6, attributes := #[] }] 1056 2 #[77, 124] #[])
  fields := #[]
  methods := #[k15m0]
  instanceTypes := #[]
  staticTypes := #[]
  resolved := Array.replicate 196 none
  statics := none }

def pool16 : Array CpInfo := pool [(1, .class_ 2), (0, u "java/io/Serializable"), (0, .class_ 4), (0, u "java/lang/Object")] 2

/-- java/io/Serializable -/
def k16 : Class := { plain "java/io/Serializable" (some 0) with
  accessFlags := 1537
  interfaces := #[]
  cf := some (fileOf pool16 1 #[] #[] 1537 3 #[] #[])
  fields := #[]
  methods := #[]
  instanceTypes := #[]
  staticTypes := #[]
  resolved := Array.replicate 7 none
  statics := none }

def pool17 : Array CpInfo := pool [(2, .class_ 4), (1, u "java/util/ImmutableCollections$AbstractImmutableList"), (3, .class_ 10), (1, u "java/util/ImmutableCollections$ListN"), (0, u "elements"), (0, u "[Ljava/lang/Object;"), (2, u "allowNulls"), (0, u "Z"), (42, .class_ 60), (0, u "java/io/Serializable"), (53, .class_ 115), (0, u "java/util/ImmutableCollections")] 3

/-- java/util/ImmutableCollections$ListN -/
def k17 : Class := { plain "java/util/ImmutableCollections$ListN" (some 15) with
  accessFlags := 48
  interfaces := #[16]
  cf := some (fileOf pool17 8 #[.nestHost 114] #[] 48 2 #[59] #[{ accessFlags := 18, nameIndex := 11, descriptorIndex := 12, attributes := #[] }, { accessFlags := 18, nameIndex := 15, descriptorIndex := 16, attributes := #[] }])
  fields := #[{ name := "elements", type := (.array (.object "java/lang/Object")), accessFlags := 18, slot := 0, constantValue := 0 }, { name := "allowNulls", type := .boolean, accessFlags := 18, slot := 1, constantValue := 0 }]
  methods := #[]
  instanceTypes := #[(.array (.object "java/lang/Object")), .boolean]
  staticTypes := #[]
  resolved := Array.replicate 119 none
  statics := none }

def pool18 : Array CpInfo := pool [(1, u "java/lang/Cloneable"), (0, .class_ 1), (0, u "java/lang/Object"), (0, .class_ 3)] 3

/-- java/lang/Cloneable -/
def k18 : Class := { plain "java/lang/Cloneable" (some 0) with
  accessFlags := 1537
  interfaces := #[]
  cf := some (fileOf pool18 2 #[] #[] 1537 4 #[] #[])
  fields := #[]
  methods := #[]
  instanceTypes := #[]
  staticTypes := #[]
  resolved := Array.replicate 8 none
  statics := none }

/-- the primitive byte -/
def k19 : Class := { plain "byte" none with kind := .primitive 'B', accessFlags := 0x411 }
/-- [B -/
def k20 : Class := { plain "[B" (some 0) with kind := .array 19 .byte, interfaces := #[18, 16], accessFlags := 1041 }

/-- the primitive int -/
def k21 : Class := { plain "int" none with kind := .primitive 'I', accessFlags := 0x411 }
/-- [I -/
def k22 : Class := { plain "[I" (some 0) with kind := .array 21 .int, interfaces := #[18, 16], accessFlags := 1041 }

/-- [Lcom/example/granulock/granulock/Resource$Holder; -/
def k23 : Class := { plain "[Lcom/example/granulock/granulock/Resource$Holder;" (some 0) with kind := .array 11 (.object "com/example/granulock/granulock/Resource$Holder"), interfaces := #[18, 16], accessFlags := 1041 }

/-- [Ljava/lang/Object; -/
def k24 : Class := { plain "[Ljava/lang/Object;" (some 0) with kind := .array 0 (.object "java/lang/Object"), interfaces := #[18, 16], accessFlags := 1041 }

def heap : Heap := #[{ cls := 9, slots := #[.long 0, .int 0, .null, .null, .ref 2, .null, .null, .null, .int 0, .int 0], vm := .statics 9 },
  { cls := 24, slots := #[], vm := .none },
  { cls := 17, slots := #[.ref 1, .int 0], vm := .none }]
def classes : Array Class := #[k0, k1, k2, k3, k4, k5, k6, k7, k8, k9, k10, k11, k12, k13, k14, k15, k16, k17, k18, k19, k20, k21, k22, k23, k24]
def interned : List (Array UInt16 × Addr) := []
def slotsUsed : Nat := 12
def theMethod : MethodId := ⟨1, 1⟩
def args0 : Array Value := #[.int 5, .int 3, .int 9]
def aboutOver (below : List Frame) : State where
  vm := { classes := classes, interned := interned.toArray }
  heap := heap
  slotsUsed := slotsUsed
  threads := #[{ frames := .invoking theMethod args0 :: below }]
def below0 : List Frame := [.native { method := ⟨0, 0⟩, args := #[] }]
def about1 : State := aboutOver below0
def p0 : Program := .bare "" "" ""
def e0 : Env := launch0.env 0 0 0
theorem w_frames : about1.frames = Frame.invoking theMethod args0 :: below0 := rfl
set_option maxRecDepth 65536 in
theorem w_args : argsFit about1.vm theMethod args0 = true := by decide +kernel
set_option maxRecDepth 65536 in
theorem w_heap : heapFits about1 = true := by decide +kernel
set_option maxRecDepth 65536 in
theorem w_runnable : about1.curStatus? = some .runnable := by decide +kernel
set_option maxRecDepth 65536 in
theorem w_alone : about1.alone = true := by decide +kernel
set_option maxRecDepth 65536 in
theorem w_named : about1.methodNamed? x = some theMethod := by decide +kernel
set_option maxRecDepth 65536 in
theorem w_hears : about1.hears theMethod below0 = true := by decide +kernel
set_option maxRecDepth 65536 in
theorem w_ripe : about1.ripe theMethod args0 below0 = true := by decide +kernel
theorem w_running : about1.status = .running := rfl
set_option maxRecDepth 65536 in
theorem w_room : about1.hasRoom e0.platform room_1 = true :=
  launch0.hasRoom_least _ room_1 (by decide +kernel) (by decide +kernel) (by decide +kernel) (by decide +kernel) (by decide +kernel) (by decide +kernel)
theorem allAtoms_all (ts : List Jvm.Cond) (a : Array Jvm.Value) (st : Jvm.State) : (allAtoms ts).before a st = ts.all (fun c => c.before a st) := by
  induction ts with
  | nil => rfl
  | cons c t ih =>
    show (Jvm.Cond.and c (allAtoms t)).before a st = _
    rw [Jvm.Cond.before_and, ih, List.all_cons]
def words1 : List Jvm.Cond := Jvm.Cond.code x code maxLocals ret :: tables_1
/-- a 'code' word, met by the world's own term for the bytes: nothing is compared byte by byte -/
theorem code_word {y : MethodName} {bytes : ByteArray} {mx : Nat} {rt : Option FieldType} {a : Array Value} {s : State} {m : MethodId} {meth : Method} {c : Code} (h1 : s.methodNamed? y = some m) (h2 : s.vm.method? m = some meth) (h3 : meth.code = some c) (h4 : c.code = bytes)
    (h5 : (c.maxLocals == mx && c.exceptionTable.isEmpty && decide (c.maxStack ≤ mostOperands) && decide (meth.sig.returnType = rt) && !meth.locks && decide (parseMethodDescriptor y.desc = some meth.sig)) = true) : (Jvm.Cond.code y bytes mx rt).before a s = true := by
  simp only [Bool.and_eq_true, beq_iff_eq, Bool.not_eq_true', decide_eq_true_eq] at h5
  obtain ⟨⟨⟨⟨⟨g1, g2⟩, g3⟩, g4⟩, g5⟩, g6⟩ := h5
  simp [Cond.before, Cond.holds, Cond.value, h1, h2, h3, h4, g1, g2, g3, g4, g5, g6]
def isCode : Jvm.Cond → Bool
  | .code _ _ _ _ => true
  | _ => false
theorem all_split {L : List Jvm.Cond} {P : Jvm.Cond → Bool} (h1 : L.all (fun c => isCode c || P c) = true) (h2 : ∀ c ∈ L.filter isCode, P c = true) : L.all P = true := by
  refine List.all_eq_true.mpr fun c hc => ?_
  have h := List.all_eq_true.mp h1 c hc
  rcases Bool.eq_false_or_eq_true (isCode c) with hi | hi
  · exact h2 c (List.mem_filter.mpr ⟨hc, hi⟩)
  · simpa [hi] using h
set_option maxRecDepth 65536 in
theorem w_c0 : (Jvm.Cond.code x code maxLocals ret).before args0 about1 = true := code_word (m := ⟨1, 1⟩) (meth := k1m1) (c := k1c1) (by decide +kernel) rfl rfl rfl (by decide +kernel)
set_option maxRecDepth 65536 in
theorem w_c1 : (Jvm.Cond.code ({ cls := "com/example/granulock/granulock/ResourceTree$Ledger", name := "<init>", desc := "()V" } : Jvm.MethodName) prog_43_method_1_code (1 : Nat) (Option.none : Option Jvm.ClassFile.FieldType)).before args0 about1 = true := code_word (m := ⟨4, 0⟩) (meth := k4m0) (c := k4c0) (by decide +kernel) rfl rfl rfl (by decide +kernel)
set_option maxRecDepth 65536 in
theorem w_c2 : (Jvm.Cond.code ({ cls := "com/example/granulock/granulock/LatchedEntries$Entry", name := "<init>", desc := "()V" } : Jvm.MethodName) prog_15_method_1_code (1 : Nat) (Option.none : Option Jvm.ClassFile.FieldType)).before args0 about1 = true := code_word (m := ⟨3, 0⟩) (meth := k3m0) (c := k3c0) (by decide +kernel) rfl rfl rfl (by decide +kernel)
set_option maxRecDepth 65536 in
theorem w_c3 : (Jvm.Cond.code ({ cls := "com/example/granulock/granulock/Latch", name := "<init>", desc := "()V" } : Jvm.MethodName) prog_13_method_1_code (1 : Nat) (Option.none : Option Jvm.ClassFile.FieldType)).before args0 about1 = true := code_word (m := ⟨2, 0⟩) (meth := k2m0) (c := k2c0) (by decide +kernel) rfl rfl rfl (by decide +kernel)
set_option maxRecDepth 65536 in
theorem w_c4 : (Jvm.Cond.code ({ cls := "java/lang/Object", name := "<init>", desc := "()V" } : Jvm.MethodName) object_method_1_code (1 : Nat) (Option.none : Option Jvm.ClassFile.FieldType)).before args0 about1 = true := code_word (m := ⟨0, 0⟩) (meth := k0m0) (c := k0c0) (by decide +kernel) rfl rfl rfl (by decide +kernel)
set_option maxRecDepth 65536 in
theorem w_c5 : (Jvm.Cond.code ({ cls := "java/util/List", name := "of", desc := "()Ljava/util/List;" } : Jvm.MethodName) jdk_40_method_36_code (0 : Nat) (Option.some (Jvm.ClassFile.FieldType.object "java/util/List"))).before args0 about1 = true := code_word (m := ⟨8, 0⟩) (meth := k8m0) (c := k8c0) (by decide +kernel) rfl rfl rfl (by decide +kernel)
set_option maxRecDepth 65536 in
theorem w_c6 : (Jvm.Cond.code ({ cls := "com/example/granulock/granulock/ResourceTree$Ledger", name := "held", desc := "(I)[Lcom/example/granulock/granulock/Resource$Holder;" } : Jvm.MethodName) prog_43_method_3_code (2 : Nat) (Option.some (Jvm.ClassFile.FieldType.array (Jvm.ClassFile.FieldType.object "com/example/granulock/granulock/Resource$Holder")))).before args0 about1 = true := code_word (m := ⟨4, 1⟩) (meth := k4m1) (c := k4c1) (by decide +kernel) rfl rfl rfl (by decide +kernel)
def codes1 : List Jvm.Cond := [Jvm.Cond.code x code maxLocals ret, Jvm.Cond.code ({ cls := "com/example/granulock/granulock/ResourceTree$Ledger", name := "<init>", desc := "()V" } : Jvm.MethodName) prog_43_method_1_code (1 : Nat) (Option.none : Option Jvm.ClassFile.FieldType), Jvm.Cond.code ({ cls := "com/example/granulock/granulock/LatchedEntries$Entry", name := "<init>", desc := "()V" } : Jvm.MethodName) prog_15_method_1_code (1 : Nat) (Option.none : Option Jvm.ClassFile.FieldType), Jvm.Cond.code ({ cls := "com/example/granulock/granulock/Latch", name := "<init>", desc := "()V" } : Jvm.MethodName) prog_13_method_1_code (1 : Nat) (Option.none : Option Jvm.ClassFile.FieldType), Jvm.Cond.code ({ cls := "java/lang/Object", name := "<init>", desc := "()V" } : Jvm.MethodName) object_method_1_code (1 : Nat) (Option.none : Option Jvm.ClassFile.FieldType), Jvm.Cond.code ({ cls := "java/util/List", name := "of", desc := "()Ljava/util/List;" } : Jvm.MethodName) jdk_40_method_36_code (0 : Nat) (Option.some (Jvm.ClassFile.FieldType.object "java/util/List")), Jvm.Cond.code ({ cls := "com/example/granulock/granulock/ResourceTree$Ledger", name := "held", desc := "(I)[Lcom/example/granulock/granulock/Resource$Holder;" } : Jvm.MethodName) prog_43_method_3_code (2 : Nat) (Option.some (Jvm.ClassFile.FieldType.array (Jvm.ClassFile.FieldType.object "com/example/granulock/granulock/Resource$Holder")))]
set_option maxRecDepth 65536 in
theorem codes_eq : words1.filter isCode = codes1 := rfl
theorem w_codes : ∀ c ∈ words1.filter isCode, c.before args0 about1 = true := by
  rw [codes_eq]
  intro c hc
  simp only [codes1, List.mem_cons, List.not_mem_nil, or_false] at hc
  rcases hc with rfl | rfl | rfl | rfl | rfl | rfl | rfl
  · exact w_c0
  · exact w_c1
  · exact w_c2
  · exact w_c3
  · exact w_c4
  · exact w_c5
  · exact w_c6
set_option maxRecDepth 65536 in
theorem w_t1 : (words1.take 24).all (fun c => isCode c || c.before args0 about1) = true := by decide +kernel
set_option maxRecDepth 65536 in
theorem w_t2 : (words1.drop 24).all (fun c => isCode c || c.before args0 about1) = true := by decide +kernel
theorem w_tables : (allAtoms (Jvm.Cond.code x code maxLocals ret :: tables_1)).before args0 about1 = true := by
  rw [allAtoms_all]
  show words1.all (fun c => c.before args0 about1) = true
  refine all_split ?_ w_codes
  rw [← List.take_append_drop 24 words1, List.all_append, w_t1, w_t2]
  rfl
set_option maxRecDepth 65536 in
theorem w_rest : rest_1_c.before args0 about1 = true := by decide +kernel
set_option maxRecDepth 65536 in
theorem w_case : (Jvm.Cond.and given_1 narrow_1).before args0 about1 = true := by decide +kernel
theorem w_applies : (headSpec (Jvm.Cond.code x code maxLocals ret :: tables_1) room_1).applies x e0.platform about1 = true :=
  (Spec.applies_iff w_frames).mpr ⟨w_running, w_runnable, w_alone, w_named, w_hears, w_ripe, w_room, w_tables⟩
theorem atStart : AtStart classFile x code maxLocals ret World_1 tables_1 room_1 Calls_1 rest_1 Pre_1 launch0 p0 e0 about1 theMethod args0 below0 :=
  ⟨lists_1, trivial, launch0.admits_env _ _ _, launch0.least_env, fairChoices_fair.cas, fairChoices_fair.clock, w_frames, w_args, w_heap, w_applies, trivial, w_rest, w_case⟩
end start1
theorem witness_1 : WitnessClaimed_1 := ⟨start1.p0, start1.e0, start1.about1, start1.theMethod, start1.args0, start1.below0, start1.atStart⟩
end Jvm.Pilot.@@N@@
