import JvmDerived
import JvmDerived.Pilot.@@N@@Statement
import JvmDerived.Pilot.@@N@@Code
set_option linter.unusedVariables false
set_option linter.unusedSimpArgs false
namespace Jvm.RoadKit
open Sem ClassFile Op Lib Jvm.Stand Jvm.Free Jvm.LawKit
section New
variable {p : Program} {l : Launch} {e : Env} {R : Room} {s : State} {m : MethodId} {args : Array Value} {below : List Frame} {meth : Method} {c : Code} {T : State} {locs : List Loc} {cells slots : Nat}
theorem retI (X : Stand p l e R s m args below meth c T locs cells slots) (hx : p.tables.exec = Jvm.exec) {pc : Nat} {Ls : Array Slot} {z : Int32} {rest : List Value} (hret : meth.sig.returnType = some .int) (hd : decode c.code pc = .ok (.ireturn, 1)) {fs : List Frame}
    (hl : ∀ (f : JFrame) (acts : List Action), f.method = m → f.locked = none → f.entered = [] → (doReturn e (T.setTop f) acts (some (.int z))).1 = T.setFrames fs) : Steps p.tables e below (T.setTop (mkF m pc Ls (.int z :: rest))) (T.setFrames fs) := by
  have hm' : T.vm.method? m = some meth := X.method'
  have hn : narrow .int (.int z) = .int z := rfl
  show Steps p.tables e below (T.setTop { method := m, pc := pc, locals := Ls, stack := _ :: rest, locked := none }) _
  jvm_step X.here [X.here.top, hx, hd, hm', hret, hn]
  first | (intro acts; rw [hl _ acts rfl rfl rfl]) | rw [hl _ _ rfl rfl rfl]
  exact Steps.refl _
end New
end Jvm.RoadKit
namespace Jvm.Pilot.@@N@@
open Jvm Jvm.ClassFile Sem Op Lib Jvm.Free Jvm.Stand Jvm.LawKit Jvm.RoadKit Bundle Jvm.Pilot.@@N@@.Jvm.D
theorem own_fld_eq {args : Array Value} {s : State} {t : Term} {C n d : String} {w : Addr} {k : Int32} (ht : t.eval args s none [] s = some (.ref w)) (h : (Jvm.Cond.eq (Term.field t C n d) (Term.int k)).value args s none s [] = some true) : Fld s s.heap w C n d (.int k) := by
  obtain ⟨x, y, ha, hb, -, -⟩ := cmp_v (Or.inl h)
  have hy : y = .int k := (Option.some.inj ((Term.int_eval k).symm.trans hb)).symm
  subst hy
  have hx : x = .int k := by
    cases x <;> simp [Cond.value, ha, hb] at h ⊢
    exact h
  subst hx
  exact Fld.start (by rw [← fld_at ht]; exact ha)
theorem own_fld_ref {args : Array Value} {s : State} {t u : Term} {C n d : String} {w : Addr} {k : Addr} (ht : t.eval args s none [] s = some (.ref w)) (hu : u.eval args s none [] s = some (.ref k)) (h : (Jvm.Cond.eq (Term.field t C n d) u).value args s none s [] = some true) : Fld s s.heap w C n d (.ref k) := by
  obtain ⟨x, y, ha, hb, -, -⟩ := cmp_v (Or.inl h)
  cases hu.symm.trans hb
  have hx : x = .ref k := by
    cases x <;> simp [Cond.value, ha, hb] at h ⊢
    exact h
  subst hx
  exact Fld.start (by rw [← fld_at ht]; exact ha)
theorem own_sel_priv {s : State} {args : Array Value} {y z : MethodName} (hsel : (Jvm.Cond.selects z.cls z z).before args s = true) (hz : z.cls = y.cls) (hpriv : (Jvm.Cond.privateMethod y).before args s = true) (hinst : (Jvm.Cond.instanceMethod y).before args s = true) (hy : y.cls ≠ "java/lang/invoke/MethodHandle" ∧ y.cls ≠ "java/lang/invoke/VarHandle") : (Jvm.Cond.selects y.cls y y).before args s = true := by
  obtain ⟨c, r, m, h1, h2, h3, h4, mk, h5, h6⟩ := Cond.selects_spec hsel
  have hc := findClass_of_methodNamed h3
  rw [hz] at hc
  exact selects_self_of_private hc h5 h6 (Cond.privateMethod_at hpriv) hinst hy
theorem own_nm_int : "[" ++ (newarray.typeOf .int).toString = "[I" := by decide
theorem own_nm_long : "[" ++ (newarray.typeOf .long).toString = "[J" := by decide
theorem own_nm_char : "[" ++ (newarray.typeOf .char).toString = "[C" := by decide
theorem own_nm_boolean : "[" ++ (newarray.typeOf .boolean).toString = "[Z" := by decide
theorem own_ns_exa {Z : State} {h : Heap} {a : Addr} {C : String} (E : Exa Z h a C) : ∀ c : Cell, h[a]? = some c → c.vm.isStatics = false := fun c hc => by
  obtain ⟨cell, k, h1, -, -, h4, -⟩ := E
  cases h1.symm.trans hc
  exact h4
theorem own_ns_arr {Z : State} {h : Heap} {a : Addr} {cl : Cell} {ty : FieldType} (A : Arr Z h a cl ty) : ∀ c : Cell, h[a]? = some c → c.vm.isStatics = false := fun c hc => by
  cases A.1.symm.trans hc
  exact A.plain
theorem own_ns_arv {Z : State} {h : Heap} {a : Addr} {k : ClassId} {ty : FieldType} {z : Int32} {vs : List Value} {dv : Value} (F : Arv Z h a k ty z vs dv) : ∀ c : Cell, h[a]? = some c → c.vm.isStatics = false := by
  obtain ⟨c, A, -⟩ := F
  exact own_ns_arr A
theorem own_sta_keep {Z : State} {h h' : Heap} {C n d : String} {v : Value} {ws : List Addr} (F : Sta Z h C n d v) (K : Keep h h' ws) (q : ∀ x ∈ ws, ∀ c : Cell, h[x]? = some c → c.vm.isStatics = false) : Sta Z h' C n d v := by
  obtain ⟨cf, i, k, f, st, cell, h1, h2, h3, h4, h5, h6, h7⟩ := F
  exact ⟨cf, i, k, f, st, cell, h1, h2, h3, h4, K.2.1 st cell h5 (fun hm => by rw [q st hm cell h5] at h6; cases h6), h6, h7⟩
theorem own_len {args : Array Value} {s : State} {t : Term} {a : Addr} {cl : Cell} {n : Int32} (ht : t.eval args s none [] s = some (.ref a)) (hc : s.heap[a]? = some cl) (h : (Jvm.Cond.eq (Term.length t) (Term.int n)).value args s none s [] = some true) : cl.slots.size < 2 ^ 31 ∧ cl.slots.size.toInt32 = n := by
  obtain ⟨x, y, ha, hb, -, -⟩ := cmp_v (Or.inl h)
  have hy : y = .int n := (Option.some.inj ((Term.int_eval n).symm.trans hb)).symm
  subst hy
  have hx : x = .int n := by
    cases x <;> simp [Cond.value, ha, hb] at h ⊢
    exact h
  subst hx
  simp only [Term.eval, ht, Option.bind_eq_bind, Option.bind_some] at ha
  cases hq : s.arrayAt? a with
  | none => simp [hq] at ha
  | some c2 =>
    cases (State.arrayAt?_spec hq).1.symm.trans hc
    simp only [hq, Option.bind_some] at ha
    split at ha
    · rename_i hlt
      exact ⟨hlt, Value.int.inj (Option.some.inj ha)⟩
    · cases ha
theorem own_elem {args : Array Value} {s : State} {t u : Term} {a k : Addr} {cl : Cell} {j : Int32} (ht : t.eval args s none [] s = some (.ref a)) (hu : u.eval args s none [] s = some (.ref k)) (hc : s.heap[a]? = some cl) (h : (Jvm.Cond.eq (Term.elem t (Term.int j)) u).value args s none s [] = some true) : cl.slots[j.toNatClampNeg]? = some (.ref k) := by
  obtain ⟨x, y, ha, hb, -, -⟩ := cmp_v (Or.inl h)
  cases hu.symm.trans hb
  have hx : x = .ref k := by
    cases x <;> simp [Cond.value, ha, hb] at h ⊢
    exact h
  subst hx
  exact (elem_in ha ht (Term.int_eval j) hc).2

theorem d1_0 : decode prog_48_method_5_code 0 = .ok (.aload_n 0, 1) := by decide +kernel
theorem d1_1 : decode prog_48_method_5_code 1 = .ok (.getstatic 3, 3) := by decide +kernel
theorem d1_4 : decode prog_48_method_5_code 4 = .ok (.if_acmp .ne 9, 3) := by decide +kernel
theorem d1_7 : decode prog_48_method_5_code 7 = .ok (.getstatic 7, 3) := by decide +kernel
theorem d1_10 : decode prog_48_method_5_code 10 = .ok (.goto 6, 3) := by decide +kernel
theorem d1_13 : decode prog_48_method_5_code 13 = .ok (.getstatic 3, 3) := by decide +kernel
theorem d1_16 : decode prog_48_method_5_code 16 = .ok (.areturn, 1) := by decide +kernel
theorem pn_0 : plainName "com/example/legwork/legwork/Side" = true := by first | (simp [plainName, overriddenIn]; done) | decide +kernel
theorem pn_1 : plainName "com/example/legwork/legwork/SideOppositePinLaw" = true := by first | (simp [plainName, overriddenIn]; done) | decide +kernel
theorem pd_0 : parseMethodDescriptor "()Lcom/example/legwork/legwork/Side;" = some ⟨[], some (.object "com/example/legwork/legwork/Side")⟩ := by decide +kernel
theorem ef_opp (m : MethodId) (x0 : Addr) : entryFrame m #[(.ref x0)] 1 = mkF m 0 #[.val (.ref x0)] [] := by first | (simp [entryFrame, mkF, argsToLocals, Value.category]; done) | rfl
def Q_opp (Z : State) (a : Addr) (wB : Addr) (wS : Addr) (r : Addr) (h0 : Heap) (n0 : Nat) (v : Option Value) (h : Heap) (L : List Loc) : Prop := v = some (.ref r) ∧ Fr n0 L ∧ h = h0
set_option maxRecDepth 65536 in
set_option maxHeartbeats 40000000 in
theorem rm_opp (l : Launch) (Z : State) (a0 : Array Value) (hw : ∀ d ∈ tables_1, d.before a0 Z = true) (ws : List Jvm.Cond) (a : Addr) (wB : Addr) (wS : Addr) (r : Addr) (h0 : Heap) (n0 : Nat) (Z0 : n0 ≤ h0.size) (H0_S : Sta Z h0 "com/example/legwork/legwork/Side" "BUY" "Lcom/example/legwork/legwork/Side;" (.ref wB)) (H1_S : Sta Z h0 "com/example/legwork/legwork/Side" "SELL" "Lcom/example/legwork/legwork/Side;" (.ref wS)) (hr1 : a = wB → r = wS) (hr2 : ¬ a = wB → r = wB) :
    MetFree l (⟨"com/example/legwork/legwork/Side", "opposite", "()Lcom/example/legwork/legwork/Side;"⟩ : MethodName) (head1 (Jvm.Cond.code (⟨"com/example/legwork/legwork/Side", "opposite", "()Lcom/example/legwork/legwork/Side;"⟩ : MethodName) prog_48_method_5_code 1 (some (.object "com/example/legwork/legwork/Side")) :: ws) ({ frames := 0, cells := 0, slots := 0, locals := 0 } : Room)) (fun as_ U_ => as_ = #[(.ref a)] ∧ Z.Warmed39 U_.vm ∧ U_.heap = h0) (fun _ _ _ _ _ => True) (fun _ U o U' => ∃ v L, o = .returned v ∧ Q_opp Z a wB wS r h0 n0 v U'.heap L ∧ FrameEnd U o U' L ({ frames := 0, cells := 0, slots := 0, locals := 0 } : Room).cells ({ frames := 0, cells := 0, slots := 0, locals := 0 } : Room).slots) := by
  refine MetFree.of_bodySF (plainFor_of_name pn_0) hisR ?_
  intro p e s m args below meth c s₁ Bd hml0 hP hK
  obtain ⟨rfl, hZ, hh⟩ := hP
  have hx := Bd.exec
  have hby := Bd.bytes
  have hml : c.maxLocals = 1 := hml0
  have hown : s.vm.findClass "com/example/legwork/legwork/Side" = some m.cls := findClass_of_methodNamed Bd.named
  have hnm := (name_of_methodNamed Bd.named Bd.method).1
  have X0 : Stand p l e ({ frames := 0, cells := 0, slots := 0, locals := 0 } : Room) s m #[(.ref a)] below meth c s₁ [] 0 0 := Stand.of_body Bd
  have e0 : s₁.heap = h0 := by rw [← hh, Bd.state]; rfl
  have N0 := Fr.nil n0
  have pre0 : ∀ t, Steps p.tables e below (s₁.setTop (mkF m 0 #[.val (.ref a)] [])) t → Steps p.tables e below (s₁.setTop (entryFrame m #[(.ref a)] 1)) t := fun t k => castTop (ef_opp m a) k
  obtain ⟨T1, X1, e1, st1⟩ := getS2 X0 hx hZ hown (host := "") (Or.inl (hw _ (List.mem_of_getElem? (i := 10) rfl))) Via.refl e0 H0_S (g := (mkF m 1 #[.val (.ref a)] [(.ref a)])) rfl (hb hby d1_1)
  have pre2 := fun (t : State) (k : Steps p.tables e below (T1.setTop (mkF m 4 #[.val (.ref a)] [(.ref wB), (.ref a)])) t) => pre0 t (by
    refine XS.aloadN X0.here hx rfl (hb hby d1_0) rfl rfl ?_
    show Steps p.tables e below (s₁.setTop (mkF m 1 #[.val (.ref a)] [(.ref a)])) _
    refine st1 _ ?_
    show Steps p.tables e below (T1.setTop (mkF m 4 #[.val (.ref a)] [(.ref wB), (.ref a)])) _
    exact k)
  by_cases hc3 : a = wB
  · obtain ⟨T4, X4, e4, st4⟩ := getS2 X1 hx hZ hown (host := "") (Or.inl (hw _ (List.mem_of_getElem? (i := 11) rfl))) Via.refl e1 H1_S (g := (mkF m 7 #[.val (.ref a)] [])) rfl (hb hby d1_7)
    have pre5 := fun (t : State) (k : Steps p.tables e below (T4.setTop (mkF m 16 #[.val (.ref a)] [(.ref wS)])) t) => pre2 t (by
      refine Jvm.RoadKit.acmp (g := (mkF m 4 #[.val (.ref a)] [(.ref wB), (.ref a)])) X1 hx rfl rfl rfl (pc0 := 4) (pc' := 7) (same := true) rfl (hb hby d1_4) rfl (decide_eq_true (congrArg Value.ref hc3)) (by decide) (by decide) ?_
      show Steps p.tables e below (T1.setTop (mkF m 7 #[.val (.ref a)] [])) _
      refine st4 _ ?_
      show Steps p.tables e below (T4.setTop (mkF m 10 #[.val (.ref a)] [(.ref wS)])) _
      refine XS.goto X4.here hx rfl (pc0 := 10) (pc' := 16) rfl (hb hby d1_10) (by decide) (by decide) ?_
      show Steps p.tables e below (T4.setTop (mkF m 16 #[.val (.ref a)] [(.ref wS)])) _
      exact k)
    obtain ⟨fs, hr, hrun, hended, hW, hsame⟩ := X4.leave (v := some (.ref wS)) (fun h => by rw [Bd.returns] at h; cases h)
    refine ⟨_, _, pre5 _ ?_, hrun, hended, _, _, rfl, ?_, ⟨_, rfl⟩, hW, hsame.mono (by decide) (by decide)⟩
    · jvm_step X4.here [X4.here.top, hx, (hb hby d1_16), X4.method', Bd.returns, Value.isRef, FieldType.isReference]
      first | (intro acts; rw [hr _ acts rfl rfl rfl]) | rw [hr _ _ rfl rfl rfl]
      exact Steps.refl _
    · show Q_opp Z a wB wS r h0 n0 _ T4.heap _
      rw [e4]
      exact ⟨(by first | rw [hr1 (by assumption)] | rw [hr2 (by assumption)]), N0, rfl⟩
  · obtain ⟨T6, X6, e6, st6⟩ := getS2 X1 hx hZ hown (host := "") (Or.inl (hw _ (List.mem_of_getElem? (i := 10) rfl))) Via.refl e1 H0_S (g := (mkF m 13 #[.val (.ref a)] [])) rfl (hb hby d1_13)
    have pre7 := fun (t : State) (k : Steps p.tables e below (T6.setTop (mkF m 16 #[.val (.ref a)] [(.ref wB)])) t) => pre2 t (by
      refine Jvm.RoadKit.acmp (g := (mkF m 4 #[.val (.ref a)] [(.ref wB), (.ref a)])) X1 hx rfl rfl rfl (pc0 := 4) (pc' := 13) (same := false) rfl (hb hby d1_4) rfl (decide_eq_false fun q => hc3 (Value.ref.inj q)) (by decide) (by decide) ?_
      show Steps p.tables e below (T1.setTop (mkF m 13 #[.val (.ref a)] [])) _
      refine st6 _ ?_
      show Steps p.tables e below (T6.setTop (mkF m 16 #[.val (.ref a)] [(.ref wB)])) _
      exact k)
    obtain ⟨fs, hr, hrun, hended, hW, hsame⟩ := X6.leave (v := some (.ref wB)) (fun h => by rw [Bd.returns] at h; cases h)
    refine ⟨_, _, pre7 _ ?_, hrun, hended, _, _, rfl, ?_, ⟨_, rfl⟩, hW, hsame.mono (by decide) (by decide)⟩
    · jvm_step X6.here [X6.here.top, hx, (hb hby d1_16), X6.method', Bd.returns, Value.isRef, FieldType.isReference]
      first | (intro acts; rw [hr _ acts rfl rfl rfl]) | rw [hr _ _ rfl rfl rfl]
      exact Steps.refl _
    · show Q_opp Z a wB wS r h0 n0 _ T6.heap _
      rw [e6]
      exact ⟨(by first | rw [hr1 (by assumption)] | rw [hr2 (by assumption)]), N0, rfl⟩

theorem ef_law (m : MethodId) (x0 : Int32) : entryFrame m #[(.int x0)] maxLocals = mkF m 0 #[.val (.int x0), .unset, .unset, .unset, .unset] [] := by first | (simp [entryFrame, mkF, argsToLocals, Value.category, maxLocals]; done) | rfl
def Q_law (Z : State) (p1 : Int32) (wB : Addr) (wS : Addr) (h0 : Heap) (n0 : Nat) (v : Option Value) (h : Heap) (L : List Loc) : Prop := v = some (.int (1 : Int32)) ∧ Fr n0 L ∧ h = h0
set_option maxRecDepth 65536 in
set_option maxHeartbeats 40000000 in
theorem rm_law (l : Launch) (Z : State) (a0 : Array Value) (hw : ∀ d ∈ tables_1, d.before a0 Z = true) (ws : List Jvm.Cond) (p1 : Int32) (wB : Addr) (wS : Addr) (h0 : Heap) (n0 : Nat) (Z0 : n0 ≤ h0.size) (H0_S : Sta Z h0 "com/example/legwork/legwork/Side" "BUY" "Lcom/example/legwork/legwork/Side;" (.ref wB)) (H1_S : Sta Z h0 "com/example/legwork/legwork/Side" "SELL" "Lcom/example/legwork/legwork/Side;" (.ref wS)) (H2_E : Exa Z h0 wB "com/example/legwork/legwork/Side") (H3_E : Exa Z h0 wS "com/example/legwork/legwork/Side") (hne : wB ≠ wS) :
    MetFree l x (head1 (Jvm.Cond.code x code maxLocals ret :: ws) room_1) (fun as_ U_ => as_ = #[(.int p1)] ∧ Z.Warmed39 U_.vm ∧ U_.heap = h0) (fun _ _ _ _ _ => True) (fun _ U o U' => ∃ v L, o = .returned v ∧ Q_law Z p1 wB wS h0 n0 v U'.heap L ∧ FrameEnd U o U' L 0 0) := by
  refine MetFree.of_bodySF (plainFor_of_name pn_1) hisR ?_
  intro p e s m args below meth c s₁ Bd hml0 hP hK
  obtain ⟨rfl, hZ, hh⟩ := hP
  have hx := Bd.exec
  have hby := Bd.bytes
  have hml : c.maxLocals = 5 := hml0
  have hown : s.vm.findClass "com/example/legwork/legwork/SideOppositePinLaw" = some m.cls := findClass_of_methodNamed Bd.named
  have hnm := (name_of_methodNamed Bd.named Bd.method).1
  have X0 : Stand p l e room_1 s m #[(.int p1)] below meth c s₁ [] 0 0 := Stand.of_body Bd
  have e0 : s₁.heap = h0 := by rw [← hh, Bd.state]; rfl
  have N0 := Fr.nil n0
  have pre0 : ∀ t, Steps p.tables e below (s₁.setTop (mkF m 0 #[.val (.int p1), .unset, .unset, .unset, .unset] [])) t → Steps p.tables e below (s₁.setTop (entryFrame m #[(.int p1)] maxLocals)) t := fun t k => castTop (ef_law m p1) k
  have pre1 := fun (t : State) (k : Steps p.tables e below (s₁.setTop (mkF m 3 #[.val (.int p1), .unset, .unset, .unset, .unset] [(.int (p1 &&& (1 : Int32)))])) t) => pre0 t (by
    refine XS.iloadN X0.here hx rfl (hb hby at_0) rfl ?_
    show Steps p.tables e below (s₁.setTop (mkF m 1 #[.val (.int p1), .unset, .unset, .unset, .unset] [(.int p1)])) _
    refine XS.iconst X0.here hx rfl (hb hby at_1) ?_
    show Steps p.tables e below (s₁.setTop (mkF m 2 #[.val (.int p1), .unset, .unset, .unset, .unset] [(.int (1 : Int32)), (.int p1)])) _
    refine XS.iand X0.here hx rfl (hb hby at_2) rfl ?_
    show Steps p.tables e below (s₁.setTop (mkF m 3 #[.val (.int p1), .unset, .unset, .unset, .unset] [(.int (p1 &&& (1 : Int32)))])) _
    exact k)
  by_cases hc2 : (p1 &&& (1 : Int32)) = (0 : Int32)
  · obtain ⟨T3, X3, e3, st3⟩ := getS2 X0 hx hZ hown (host := "") (Or.inl (hw _ (List.mem_of_getElem? (i := 0) rfl))) Via.refl e0 H0_S (g := (mkF m 16 #[.val (.int p1), .val (.int (1 : Int32)), .unset, .unset, .unset] [])) rfl (hb hby at_16)
    obtain ⟨T4, X4, e4, st4⟩ := getS2 X3 hx hZ hown (host := "") (Or.inl (hw _ (List.mem_of_getElem? (i := 3) rfl))) Via.refl e3 H1_S (g := (mkF m 30 #[.val (.int p1), .val (.int (1 : Int32)), .val (.ref wB), .unset, .unset] [])) rfl (hb hby at_30)
    obtain ⟨cq5, kq5, q5a, q5b, q5c⟩ := isOf hZ e4 H2_E
    obtain ⟨_, _, ⟨T5, L5, k5, n5⟩, -, X5, ⟨Lc5, hQ5, l5, y5, z5⟩, st5⟩ := X4.virtualBack hx (y := (⟨"com/example/legwork/legwork/Side", "opposite", "()Lcom/example/legwork/legwork/Side;"⟩ : MethodName)) (z := (⟨"com/example/legwork/legwork/Side", "opposite", "()Lcom/example/legwork/legwork/Side;"⟩ : MethodName)) hown (mvT hZ (hw _ (List.mem_of_getElem? (i := 5) rfl))) (mvT hZ (hw _ (List.mem_of_getElem? (i := 6) rfl))) (notFace_of_selects (args := #[]) (mvT hZ (hw _ (List.mem_of_getElem? (i := 8) rfl)))) (mvT hZ (hw _ (List.mem_of_getElem? (i := 8) rfl))) (mvT hZ (hw _ (List.mem_of_getElem? (i := 7) rfl))) (by decide) (backOf (W := 0) (rm_opp l Z a0 hw [] wB wB wS wS h0 n0 Z0 H0_S H1_S (fun _ => rfl) (fun q => absurd rfl q)) hZ (hw _ (List.mem_of_getElem? (i := 9) rfl)) (hw _ (List.mem_of_getElem? (i := 1) rfl)) (by decide) (by decide)) q5a q5c (g := (mkF m 41 #[.val (.int p1), .val (.int (1 : Int32)), .val (.ref wB), .val (.ref wS), .unset] [(.ref wB)])) rfl (by rw [hml]; rfl) (Steps.refl _) (argsL := []) (rest := []) (lenOf pd_0 rfl) rfl (by show 2 * 0 + _ ≤ _; exact Nat.le_of_eq rfl) (hb hby at_41) (fun _ _ => ⟨rfl, e4, (by decide : 0 + 0 ≤ _), (by decide : 0 + 0 ≤ _)⟩)
    dsimp only [Pt.U, Pt.locs, Pt.cells, Pt.slots] at X5 l5 y5 z5 st5 hQ5
    subst l5 y5 z5
    obtain ⟨rfl, N5q, hq6⟩ := hQ5
    have N5 := Fr.app N0 N5q
    obtain ⟨cq7, kq7, q7a, q7b, q7c⟩ := isOf hZ hq6 H3_E
    obtain ⟨_, _, ⟨T7, L7, k7, n7⟩, -, X7, ⟨Lc7, hQ7, l7, y7, z7⟩, st7⟩ := X5.virtualBack hx (y := (⟨"com/example/legwork/legwork/Side", "opposite", "()Lcom/example/legwork/legwork/Side;"⟩ : MethodName)) (z := (⟨"com/example/legwork/legwork/Side", "opposite", "()Lcom/example/legwork/legwork/Side;"⟩ : MethodName)) hown (mvT hZ (hw _ (List.mem_of_getElem? (i := 5) rfl))) (mvT hZ (hw _ (List.mem_of_getElem? (i := 6) rfl))) (notFace_of_selects (args := #[]) (mvT hZ (hw _ (List.mem_of_getElem? (i := 8) rfl)))) (mvT hZ (hw _ (List.mem_of_getElem? (i := 8) rfl))) (mvT hZ (hw _ (List.mem_of_getElem? (i := 7) rfl))) (by decide) (backOf (W := 0) (rm_opp l Z a0 hw [] wS wB wS wB h0 n0 Z0 H0_S H1_S (fun q => absurd q.symm hne) (fun _ => rfl)) hZ (hw _ (List.mem_of_getElem? (i := 9) rfl)) (hw _ (List.mem_of_getElem? (i := 1) rfl)) (by decide) (by decide)) q7a q7c (g := (mkF m 64 #[.val (.int p1), .val (.int (1 : Int32)), .val (.ref wB), .val (.ref wS), .val (.ref wS)] [(.ref wS)])) rfl (by rw [hml]; rfl) (Steps.refl _) (argsL := []) (rest := []) (lenOf pd_0 rfl) rfl (by show 2 * 0 + _ ≤ _; exact Nat.le_of_eq rfl) (hb hby at_64) (fun _ _ => ⟨rfl, hq6, (by decide : 0 + 0 ≤ _), (by decide : 0 + 0 ≤ _)⟩)
    dsimp only [Pt.U, Pt.locs, Pt.cells, Pt.slots] at X7 l7 y7 z7 st7 hQ7
    subst l7 y7 z7
    obtain ⟨rfl, N7q, hq8⟩ := hQ7
    have N7 := Fr.app N5 N7q
    have pre9 := fun (t : State) (k : Steps p.tables e below (T7.setTop (mkF m 76 #[.val (.int p1), .val (.int (1 : Int32)), .val (.ref wB), .val (.ref wS), .val (.ref wS)] [(.int (1 : Int32))])) t) => pre1 t (by
      refine XS.ifNo X0.here hx rfl (hb hby at_3) rfl ((if0 _ _).trans (teq hc2).2) ?_
      show Steps p.tables e below (s₁.setTop (mkF m 6 #[.val (.int p1), .unset, .unset, .unset, .unset] [])) _
      refine XS.iconst X0.here hx rfl (hb hby at_6) ?_
      show Steps p.tables e below (s₁.setTop (mkF m 7 #[.val (.int p1), .unset, .unset, .unset, .unset] [(.int (1 : Int32))])) _
      refine XS.goto X0.here hx rfl (pc0 := 7) (pc' := 11) rfl (hb hby at_7) (by decide) (by decide) ?_
      show Steps p.tables e below (s₁.setTop (mkF m 11 #[.val (.int p1), .unset, .unset, .unset, .unset] [(.int (1 : Int32))])) _
      refine XS.istoreN X0.here hx rfl (hb hby at_11) rfl (l' := #[.val (.int p1), .val (.int (1 : Int32)), .unset, .unset, .unset]) rfl ?_
      show Steps p.tables e below (s₁.setTop (mkF m 12 #[.val (.int p1), .val (.int (1 : Int32)), .unset, .unset, .unset] [])) _
      refine XS.iloadN X0.here hx rfl (hb hby at_12) rfl ?_
      show Steps p.tables e below (s₁.setTop (mkF m 13 #[.val (.int p1), .val (.int (1 : Int32)), .unset, .unset, .unset] [(.int (1 : Int32))])) _
      refine XS.ifNo X0.here hx rfl (hb hby at_13) rfl ((if0 _ _).trans (feq (by decide : ¬ ((1 : Int32) = (0 : Int32)))).1) ?_
      show Steps p.tables e below (s₁.setTop (mkF m 16 #[.val (.int p1), .val (.int (1 : Int32)), .unset, .unset, .unset] [])) _
      refine st3 _ ?_
      show Steps p.tables e below (T3.setTop (mkF m 19 #[.val (.int p1), .val (.int (1 : Int32)), .unset, .unset, .unset] [(.ref wB)])) _
      refine XS.goto X3.here hx rfl (pc0 := 19) (pc' := 25) rfl (hb hby at_19) (by decide) (by decide) ?_
      show Steps p.tables e below (T3.setTop (mkF m 25 #[.val (.int p1), .val (.int (1 : Int32)), .unset, .unset, .unset] [(.ref wB)])) _
      refine XS.astoreN X3.here hx rfl (hb hby at_25) rfl rfl (l' := #[.val (.int p1), .val (.int (1 : Int32)), .val (.ref wB), .unset, .unset]) rfl ?_
      show Steps p.tables e below (T3.setTop (mkF m 26 #[.val (.int p1), .val (.int (1 : Int32)), .val (.ref wB), .unset, .unset] [])) _
      refine XS.iloadN X3.here hx rfl (hb hby at_26) rfl ?_
      show Steps p.tables e below (T3.setTop (mkF m 27 #[.val (.int p1), .val (.int (1 : Int32)), .val (.ref wB), .unset, .unset] [(.int (1 : Int32))])) _
      refine XS.ifNo X3.here hx rfl (hb hby at_27) rfl ((if0 _ _).trans (feq (by decide : ¬ ((1 : Int32) = (0 : Int32)))).1) ?_
      show Steps p.tables e below (T3.setTop (mkF m 30 #[.val (.int p1), .val (.int (1 : Int32)), .val (.ref wB), .unset, .unset] [])) _
      refine st4 _ ?_
      show Steps p.tables e below (T4.setTop (mkF m 33 #[.val (.int p1), .val (.int (1 : Int32)), .val (.ref wB), .unset, .unset] [(.ref wS)])) _
      refine XS.goto X4.here hx rfl (pc0 := 33) (pc' := 39) rfl (hb hby at_33) (by decide) (by decide) ?_
      show Steps p.tables e below (T4.setTop (mkF m 39 #[.val (.int p1), .val (.int (1 : Int32)), .val (.ref wB), .unset, .unset] [(.ref wS)])) _
      refine XS.astoreN X4.here hx rfl (hb hby at_39) rfl rfl (l' := #[.val (.int p1), .val (.int (1 : Int32)), .val (.ref wB), .val (.ref wS), .unset]) rfl ?_
      show Steps p.tables e below (T4.setTop (mkF m 40 #[.val (.int p1), .val (.int (1 : Int32)), .val (.ref wB), .val (.ref wS), .unset] [])) _
      refine XS.aloadN X4.here hx rfl (hb hby at_40) rfl rfl ?_
      show Steps p.tables e below (T4.setTop (mkF m 41 #[.val (.int p1), .val (.int (1 : Int32)), .val (.ref wB), .val (.ref wS), .unset] [(.ref wB)])) _
      refine st5.trans ?_
      show Steps p.tables e below (T5.setTop (mkF m 44 #[.val (.int p1), .val (.int (1 : Int32)), .val (.ref wB), .val (.ref wS), .unset] [(.ref wS)])) _
      refine XS.astore X5.here hx rfl (hb hby at_44) rfl rfl (l' := #[.val (.int p1), .val (.int (1 : Int32)), .val (.ref wB), .val (.ref wS), .val (.ref wS)]) rfl ?_
      show Steps p.tables e below (T5.setTop (mkF m 46 #[.val (.int p1), .val (.int (1 : Int32)), .val (.ref wB), .val (.ref wS), .val (.ref wS)] [])) _
      refine XS.aload X5.here hx rfl (hb hby at_46) rfl rfl ?_
      show Steps p.tables e below (T5.setTop (mkF m 48 #[.val (.int p1), .val (.int (1 : Int32)), .val (.ref wB), .val (.ref wS), .val (.ref wS)] [(.ref wS)])) _
      refine XS.aloadN X5.here hx rfl (hb hby at_48) rfl rfl ?_
      show Steps p.tables e below (T5.setTop (mkF m 49 #[.val (.int p1), .val (.int (1 : Int32)), .val (.ref wB), .val (.ref wS), .val (.ref wS)] [(.ref wS), (.ref wS)])) _
      refine Jvm.RoadKit.acmp (g := (mkF m 49 #[.val (.int p1), .val (.int (1 : Int32)), .val (.ref wB), .val (.ref wS), .val (.ref wS)] [(.ref wS), (.ref wS)])) X5 hx rfl rfl rfl (pc0 := 49) (pc' := 54) (same := true) rfl (hb hby at_49) rfl (decide_eq_true rfl) (by decide) (by decide) ?_
      show Steps p.tables e below (T5.setTop (mkF m 54 #[.val (.int p1), .val (.int (1 : Int32)), .val (.ref wB), .val (.ref wS), .val (.ref wS)] [])) _
      refine XS.aload X5.here hx rfl (hb hby at_54) rfl rfl ?_
      show Steps p.tables e below (T5.setTop (mkF m 56 #[.val (.int p1), .val (.int (1 : Int32)), .val (.ref wB), .val (.ref wS), .val (.ref wS)] [(.ref wS)])) _
      refine XS.aloadN X5.here hx rfl (hb hby at_56) rfl rfl ?_
      show Steps p.tables e below (T5.setTop (mkF m 57 #[.val (.int p1), .val (.int (1 : Int32)), .val (.ref wB), .val (.ref wS), .val (.ref wS)] [(.ref wB), (.ref wS)])) _
      refine Jvm.RoadKit.acmp (g := (mkF m 57 #[.val (.int p1), .val (.int (1 : Int32)), .val (.ref wB), .val (.ref wS), .val (.ref wS)] [(.ref wB), (.ref wS)])) X5 hx rfl rfl rfl (pc0 := 57) (pc' := 62) (same := false) rfl (hb hby at_57) rfl (decide_eq_false fun q => (Ne.symm hne) (Value.ref.inj q)) (by decide) (by decide) ?_
      show Steps p.tables e below (T5.setTop (mkF m 62 #[.val (.int p1), .val (.int (1 : Int32)), .val (.ref wB), .val (.ref wS), .val (.ref wS)] [])) _
      refine XS.aload X5.here hx rfl (hb hby at_62) rfl rfl ?_
      show Steps p.tables e below (T5.setTop (mkF m 64 #[.val (.int p1), .val (.int (1 : Int32)), .val (.ref wB), .val (.ref wS), .val (.ref wS)] [(.ref wS)])) _
      refine st7.trans ?_
      show Steps p.tables e below (T7.setTop (mkF m 67 #[.val (.int p1), .val (.int (1 : Int32)), .val (.ref wB), .val (.ref wS), .val (.ref wS)] [(.ref wB)])) _
      refine XS.aloadN X7.here hx rfl (hb hby at_67) rfl rfl ?_
      show Steps p.tables e below (T7.setTop (mkF m 68 #[.val (.int p1), .val (.int (1 : Int32)), .val (.ref wB), .val (.ref wS), .val (.ref wS)] [(.ref wB), (.ref wB)])) _
      refine Jvm.RoadKit.acmp (g := (mkF m 68 #[.val (.int p1), .val (.int (1 : Int32)), .val (.ref wB), .val (.ref wS), .val (.ref wS)] [(.ref wB), (.ref wB)])) X7 hx rfl rfl rfl (pc0 := 68) (pc' := 71) (same := true) rfl (hb hby at_68) rfl (decide_eq_true rfl) (by decide) (by decide) ?_
      show Steps p.tables e below (T7.setTop (mkF m 71 #[.val (.int p1), .val (.int (1 : Int32)), .val (.ref wB), .val (.ref wS), .val (.ref wS)] [])) _
      refine XS.iconst X7.here hx rfl (hb hby at_71) ?_
      show Steps p.tables e below (T7.setTop (mkF m 72 #[.val (.int p1), .val (.int (1 : Int32)), .val (.ref wB), .val (.ref wS), .val (.ref wS)] [(.int (1 : Int32))])) _
      refine XS.goto X7.here hx rfl (pc0 := 72) (pc' := 76) rfl (hb hby at_72) (by decide) (by decide) ?_
      show Steps p.tables e below (T7.setTop (mkF m 76 #[.val (.int p1), .val (.int (1 : Int32)), .val (.ref wB), .val (.ref wS), .val (.ref wS)] [(.int (1 : Int32))])) _
      exact k)
    obtain ⟨fs, hr, hrun, hended, hW, hsame⟩ := X7.leave (v := some (.int (1 : Int32))) (fun h => by rw [Bd.returns] at h; cases h)
    refine ⟨_, _, pre9 _ ?_, hrun, hended, _, _, rfl, ?_, ⟨_, rfl⟩, hW, hsame.mono (by decide) (by decide)⟩
    · exact retN X7 hx (t := .boolean) Bd.returns (by simp) (hb hby at_76) hr
    · show Q_law Z p1 wB wS h0 n0 _ T7.heap _
      rw [hq8]
      exact ⟨rfl, N7, rfl⟩
  · obtain ⟨T10, X10, e10, st10⟩ := getS2 X0 hx hZ hown (host := "") (Or.inl (hw _ (List.mem_of_getElem? (i := 3) rfl))) Via.refl e0 H1_S (g := (mkF m 22 #[.val (.int p1), .val (.int (0 : Int32)), .unset, .unset, .unset] [])) rfl (hb hby at_22)
    obtain ⟨T11, X11, e11, st11⟩ := getS2 X10 hx hZ hown (host := "") (Or.inl (hw _ (List.mem_of_getElem? (i := 0) rfl))) Via.refl e10 H0_S (g := (mkF m 36 #[.val (.int p1), .val (.int (0 : Int32)), .val (.ref wS), .unset, .unset] [])) rfl (hb hby at_36)
    obtain ⟨cq12, kq12, q12a, q12b, q12c⟩ := isOf hZ e11 H3_E
    obtain ⟨_, _, ⟨T12, L12, k12, n12⟩, -, X12, ⟨Lc12, hQ12, l12, y12, z12⟩, st12⟩ := X11.virtualBack hx (y := (⟨"com/example/legwork/legwork/Side", "opposite", "()Lcom/example/legwork/legwork/Side;"⟩ : MethodName)) (z := (⟨"com/example/legwork/legwork/Side", "opposite", "()Lcom/example/legwork/legwork/Side;"⟩ : MethodName)) hown (mvT hZ (hw _ (List.mem_of_getElem? (i := 5) rfl))) (mvT hZ (hw _ (List.mem_of_getElem? (i := 6) rfl))) (notFace_of_selects (args := #[]) (mvT hZ (hw _ (List.mem_of_getElem? (i := 8) rfl)))) (mvT hZ (hw _ (List.mem_of_getElem? (i := 8) rfl))) (mvT hZ (hw _ (List.mem_of_getElem? (i := 7) rfl))) (by decide) (backOf (W := 0) (rm_opp l Z a0 hw [] wS wB wS wB h0 n0 Z0 H0_S H1_S (fun q => absurd q.symm hne) (fun _ => rfl)) hZ (hw _ (List.mem_of_getElem? (i := 9) rfl)) (hw _ (List.mem_of_getElem? (i := 1) rfl)) (by decide) (by decide)) q12a q12c (g := (mkF m 41 #[.val (.int p1), .val (.int (0 : Int32)), .val (.ref wS), .val (.ref wB), .unset] [(.ref wS)])) rfl (by rw [hml]; rfl) (Steps.refl _) (argsL := []) (rest := []) (lenOf pd_0 rfl) rfl (by show 2 * 0 + _ ≤ _; exact Nat.le_of_eq rfl) (hb hby at_41) (fun _ _ => ⟨rfl, e11, (by decide : 0 + 0 ≤ _), (by decide : 0 + 0 ≤ _)⟩)
    dsimp only [Pt.U, Pt.locs, Pt.cells, Pt.slots] at X12 l12 y12 z12 st12 hQ12
    subst l12 y12 z12
    obtain ⟨rfl, N12q, hq13⟩ := hQ12
    have N12 := Fr.app N0 N12q
    obtain ⟨cq14, kq14, q14a, q14b, q14c⟩ := isOf hZ hq13 H2_E
    obtain ⟨_, _, ⟨T14, L14, k14, n14⟩, -, X14, ⟨Lc14, hQ14, l14, y14, z14⟩, st14⟩ := X12.virtualBack hx (y := (⟨"com/example/legwork/legwork/Side", "opposite", "()Lcom/example/legwork/legwork/Side;"⟩ : MethodName)) (z := (⟨"com/example/legwork/legwork/Side", "opposite", "()Lcom/example/legwork/legwork/Side;"⟩ : MethodName)) hown (mvT hZ (hw _ (List.mem_of_getElem? (i := 5) rfl))) (mvT hZ (hw _ (List.mem_of_getElem? (i := 6) rfl))) (notFace_of_selects (args := #[]) (mvT hZ (hw _ (List.mem_of_getElem? (i := 8) rfl)))) (mvT hZ (hw _ (List.mem_of_getElem? (i := 8) rfl))) (mvT hZ (hw _ (List.mem_of_getElem? (i := 7) rfl))) (by decide) (backOf (W := 0) (rm_opp l Z a0 hw [] wB wB wS wS h0 n0 Z0 H0_S H1_S (fun _ => rfl) (fun q => absurd rfl q)) hZ (hw _ (List.mem_of_getElem? (i := 9) rfl)) (hw _ (List.mem_of_getElem? (i := 1) rfl)) (by decide) (by decide)) q14a q14c (g := (mkF m 64 #[.val (.int p1), .val (.int (0 : Int32)), .val (.ref wS), .val (.ref wB), .val (.ref wB)] [(.ref wB)])) rfl (by rw [hml]; rfl) (Steps.refl _) (argsL := []) (rest := []) (lenOf pd_0 rfl) rfl (by show 2 * 0 + _ ≤ _; exact Nat.le_of_eq rfl) (hb hby at_64) (fun _ _ => ⟨rfl, hq13, (by decide : 0 + 0 ≤ _), (by decide : 0 + 0 ≤ _)⟩)
    dsimp only [Pt.U, Pt.locs, Pt.cells, Pt.slots] at X14 l14 y14 z14 st14 hQ14
    subst l14 y14 z14
    obtain ⟨rfl, N14q, hq15⟩ := hQ14
    have N14 := Fr.app N12 N14q
    have pre16 := fun (t : State) (k : Steps p.tables e below (T14.setTop (mkF m 76 #[.val (.int p1), .val (.int (0 : Int32)), .val (.ref wS), .val (.ref wB), .val (.ref wB)] [(.int (1 : Int32))])) t) => pre1 t (by
      refine XS.ifYes X0.here hx rfl (pc0 := 3) (pc' := 10) rfl (hb hby at_3) rfl ((if0 _ _).trans (feq hc2).2) (by decide) (by decide) ?_
      show Steps p.tables e below (s₁.setTop (mkF m 10 #[.val (.int p1), .unset, .unset, .unset, .unset] [])) _
      refine XS.iconst X0.here hx rfl (hb hby at_10) ?_
      show Steps p.tables e below (s₁.setTop (mkF m 11 #[.val (.int p1), .unset, .unset, .unset, .unset] [(.int (0 : Int32))])) _
      refine XS.istoreN X0.here hx rfl (hb hby at_11) rfl (l' := #[.val (.int p1), .val (.int (0 : Int32)), .unset, .unset, .unset]) rfl ?_
      show Steps p.tables e below (s₁.setTop (mkF m 12 #[.val (.int p1), .val (.int (0 : Int32)), .unset, .unset, .unset] [])) _
      refine XS.iloadN X0.here hx rfl (hb hby at_12) rfl ?_
      show Steps p.tables e below (s₁.setTop (mkF m 13 #[.val (.int p1), .val (.int (0 : Int32)), .unset, .unset, .unset] [(.int (0 : Int32))])) _
      refine XS.ifYes X0.here hx rfl (pc0 := 13) (pc' := 22) rfl (hb hby at_13) rfl ((if0 _ _).trans (teq (by decide : (0 : Int32) = (0 : Int32))).1) (by decide) (by decide) ?_
      show Steps p.tables e below (s₁.setTop (mkF m 22 #[.val (.int p1), .val (.int (0 : Int32)), .unset, .unset, .unset] [])) _
      refine st10 _ ?_
      show Steps p.tables e below (T10.setTop (mkF m 25 #[.val (.int p1), .val (.int (0 : Int32)), .unset, .unset, .unset] [(.ref wS)])) _
      refine XS.astoreN X10.here hx rfl (hb hby at_25) rfl rfl (l' := #[.val (.int p1), .val (.int (0 : Int32)), .val (.ref wS), .unset, .unset]) rfl ?_
      show Steps p.tables e below (T10.setTop (mkF m 26 #[.val (.int p1), .val (.int (0 : Int32)), .val (.ref wS), .unset, .unset] [])) _
      refine XS.iloadN X10.here hx rfl (hb hby at_26) rfl ?_
      show Steps p.tables e below (T10.setTop (mkF m 27 #[.val (.int p1), .val (.int (0 : Int32)), .val (.ref wS), .unset, .unset] [(.int (0 : Int32))])) _
      refine XS.ifYes X10.here hx rfl (pc0 := 27) (pc' := 36) rfl (hb hby at_27) rfl ((if0 _ _).trans (teq (by decide : (0 : Int32) = (0 : Int32))).1) (by decide) (by decide) ?_
      show Steps p.tables e below (T10.setTop (mkF m 36 #[.val (.int p1), .val (.int (0 : Int32)), .val (.ref wS), .unset, .unset] [])) _
      refine st11 _ ?_
      show Steps p.tables e below (T11.setTop (mkF m 39 #[.val (.int p1), .val (.int (0 : Int32)), .val (.ref wS), .unset, .unset] [(.ref wB)])) _
      refine XS.astoreN X11.here hx rfl (hb hby at_39) rfl rfl (l' := #[.val (.int p1), .val (.int (0 : Int32)), .val (.ref wS), .val (.ref wB), .unset]) rfl ?_
      show Steps p.tables e below (T11.setTop (mkF m 40 #[.val (.int p1), .val (.int (0 : Int32)), .val (.ref wS), .val (.ref wB), .unset] [])) _
      refine XS.aloadN X11.here hx rfl (hb hby at_40) rfl rfl ?_
      show Steps p.tables e below (T11.setTop (mkF m 41 #[.val (.int p1), .val (.int (0 : Int32)), .val (.ref wS), .val (.ref wB), .unset] [(.ref wS)])) _
      refine st12.trans ?_
      show Steps p.tables e below (T12.setTop (mkF m 44 #[.val (.int p1), .val (.int (0 : Int32)), .val (.ref wS), .val (.ref wB), .unset] [(.ref wB)])) _
      refine XS.astore X12.here hx rfl (hb hby at_44) rfl rfl (l' := #[.val (.int p1), .val (.int (0 : Int32)), .val (.ref wS), .val (.ref wB), .val (.ref wB)]) rfl ?_
      show Steps p.tables e below (T12.setTop (mkF m 46 #[.val (.int p1), .val (.int (0 : Int32)), .val (.ref wS), .val (.ref wB), .val (.ref wB)] [])) _
      refine XS.aload X12.here hx rfl (hb hby at_46) rfl rfl ?_
      show Steps p.tables e below (T12.setTop (mkF m 48 #[.val (.int p1), .val (.int (0 : Int32)), .val (.ref wS), .val (.ref wB), .val (.ref wB)] [(.ref wB)])) _
      refine XS.aloadN X12.here hx rfl (hb hby at_48) rfl rfl ?_
      show Steps p.tables e below (T12.setTop (mkF m 49 #[.val (.int p1), .val (.int (0 : Int32)), .val (.ref wS), .val (.ref wB), .val (.ref wB)] [(.ref wB), (.ref wB)])) _
      refine Jvm.RoadKit.acmp (g := (mkF m 49 #[.val (.int p1), .val (.int (0 : Int32)), .val (.ref wS), .val (.ref wB), .val (.ref wB)] [(.ref wB), (.ref wB)])) X12 hx rfl rfl rfl (pc0 := 49) (pc' := 54) (same := true) rfl (hb hby at_49) rfl (decide_eq_true rfl) (by decide) (by decide) ?_
      show Steps p.tables e below (T12.setTop (mkF m 54 #[.val (.int p1), .val (.int (0 : Int32)), .val (.ref wS), .val (.ref wB), .val (.ref wB)] [])) _
      refine XS.aload X12.here hx rfl (hb hby at_54) rfl rfl ?_
      show Steps p.tables e below (T12.setTop (mkF m 56 #[.val (.int p1), .val (.int (0 : Int32)), .val (.ref wS), .val (.ref wB), .val (.ref wB)] [(.ref wB)])) _
      refine XS.aloadN X12.here hx rfl (hb hby at_56) rfl rfl ?_
      show Steps p.tables e below (T12.setTop (mkF m 57 #[.val (.int p1), .val (.int (0 : Int32)), .val (.ref wS), .val (.ref wB), .val (.ref wB)] [(.ref wS), (.ref wB)])) _
      refine Jvm.RoadKit.acmp (g := (mkF m 57 #[.val (.int p1), .val (.int (0 : Int32)), .val (.ref wS), .val (.ref wB), .val (.ref wB)] [(.ref wS), (.ref wB)])) X12 hx rfl rfl rfl (pc0 := 57) (pc' := 62) (same := false) rfl (hb hby at_57) rfl (decide_eq_false fun q => hne (Value.ref.inj q)) (by decide) (by decide) ?_
      show Steps p.tables e below (T12.setTop (mkF m 62 #[.val (.int p1), .val (.int (0 : Int32)), .val (.ref wS), .val (.ref wB), .val (.ref wB)] [])) _
      refine XS.aload X12.here hx rfl (hb hby at_62) rfl rfl ?_
      show Steps p.tables e below (T12.setTop (mkF m 64 #[.val (.int p1), .val (.int (0 : Int32)), .val (.ref wS), .val (.ref wB), .val (.ref wB)] [(.ref wB)])) _
      refine st14.trans ?_
      show Steps p.tables e below (T14.setTop (mkF m 67 #[.val (.int p1), .val (.int (0 : Int32)), .val (.ref wS), .val (.ref wB), .val (.ref wB)] [(.ref wS)])) _
      refine XS.aloadN X14.here hx rfl (hb hby at_67) rfl rfl ?_
      show Steps p.tables e below (T14.setTop (mkF m 68 #[.val (.int p1), .val (.int (0 : Int32)), .val (.ref wS), .val (.ref wB), .val (.ref wB)] [(.ref wS), (.ref wS)])) _
      refine Jvm.RoadKit.acmp (g := (mkF m 68 #[.val (.int p1), .val (.int (0 : Int32)), .val (.ref wS), .val (.ref wB), .val (.ref wB)] [(.ref wS), (.ref wS)])) X14 hx rfl rfl rfl (pc0 := 68) (pc' := 71) (same := true) rfl (hb hby at_68) rfl (decide_eq_true rfl) (by decide) (by decide) ?_
      show Steps p.tables e below (T14.setTop (mkF m 71 #[.val (.int p1), .val (.int (0 : Int32)), .val (.ref wS), .val (.ref wB), .val (.ref wB)] [])) _
      refine XS.iconst X14.here hx rfl (hb hby at_71) ?_
      show Steps p.tables e below (T14.setTop (mkF m 72 #[.val (.int p1), .val (.int (0 : Int32)), .val (.ref wS), .val (.ref wB), .val (.ref wB)] [(.int (1 : Int32))])) _
      refine XS.goto X14.here hx rfl (pc0 := 72) (pc' := 76) rfl (hb hby at_72) (by decide) (by decide) ?_
      show Steps p.tables e below (T14.setTop (mkF m 76 #[.val (.int p1), .val (.int (0 : Int32)), .val (.ref wS), .val (.ref wB), .val (.ref wB)] [(.int (1 : Int32))])) _
      exact k)
    obtain ⟨fs, hr, hrun, hended, hW, hsame⟩ := X14.leave (v := some (.int (1 : Int32))) (fun h => by rw [Bd.returns] at h; cases h)
    refine ⟨_, _, pre16 _ ?_, hrun, hended, _, _, rfl, ?_, ⟨_, rfl⟩, hW, hsame.mono (by decide) (by decide)⟩
    · exact retN X14 hx (t := .boolean) Bd.returns (by simp) (hb hby at_76) hr
    · show Q_law Z p1 wB wS h0 n0 _ T14.heap _
      rw [hq15]
      exact ⟨rfl, N14, rfl⟩

set_option maxRecDepth 65536 in
set_option maxHeartbeats 40000000 in
theorem comes_1 {Post : Tables → Env → Array Value → State → Outcome → State → Prop} (hpost : ∀ tb e args s v u, (limb_1_1.after args s (.returned v) u = true ∧ limb_1_2.after args s (.returned v) u = true ∧ True) → FrameEnd s (.returned v) u (Jvm.fieldLocs frame_1_writes args s ++ Jvm.arrayLocs frame_1_arrays args s ++ Jvm.staticLocs frame_1_statics s) 0 0 → Post tb e args s (.returned v) u) :
    ArmFor flags0 classFile x code maxLocals ret World_1 tables_1 room_1 Calls_1 rest_1 Pre_1 Post := by
  intro l hfl _ _ p e ha hc hk s m args below hf hA hF happ hP
  obtain ⟨hcalls, hrest, hpre⟩ := hP
  obtain ⟨-, -, -, hnamed, -, -, -, hat⟩ := (Spec.applies_iff hf).mp happ
  obtain ⟨hg, hn⟩ := and_e (Cond.before_iff.mp (show (Jvm.Cond.and given_1 narrow_1).before args s = true from hpre))
  obtain ⟨g1, g2⟩ := and_e hg
  obtain ⟨g3, g4⟩ := and_e hn
  obtain ⟨g5, g6⟩ := and_e g4
  obtain ⟨g7, g8⟩ := and_e g6
  obtain ⟨w0, rfl⟩ : ∃ w0 : Value, args = #[w0] := by
    have hs : args.size = 1 := by simpa [Cond.value, given_1] using g1
    obtain ⟨L⟩ := args
    match L, hs with
    | [w0], _ => exact ⟨w0, rfl⟩
  have hw := fun d (hd : d ∈ tables_1) => atoms_spec (ws := Jvm.Cond.code x code maxLocals ret :: tables_1) hat d (List.mem_cons_of_mem _ hd)
  have hfit : Fit s := fun {y c} hc i hi => by
    obtain ⟨ha, rfl⟩ := Array.getElem?_eq_some_iff.mp hc
    have q := List.all_eq_true.mp ((Array.all_eq_true_iff_forall_mem.mp hF) _ (Array.getElem_mem ha)) i (List.mem_range.mpr hi)
    simpa [Array.getElem?_eq_getElem hi] using q
  obtain ⟨i0, ei0⟩ := is_v g2
  obtain rfl : w0 = (.int i0) := Option.some.inj ei0
  obtain ⟨z_Side_BUY, ez_Side_BUY⟩ := exa_v g3
  have S_z_Side_BUY := Sta.start (Z := s) ez_Side_BUY (Or.inr ⟨(hw _ (List.mem_of_getElem? (i := 1) rfl)), (hw _ (List.mem_of_getElem? (i := 2) rfl))⟩)
  have E_z_Side_BUY := Exa.start ez_Side_BUY g3
  obtain ⟨z_Side_SELL, ez_Side_SELL⟩ := exa_v g5
  have S_z_Side_SELL := Sta.start (Z := s) ez_Side_SELL (Or.inr ⟨(hw _ (List.mem_of_getElem? (i := 1) rfl)), (hw _ (List.mem_of_getElem? (i := 4) rfl))⟩)
  have E_z_Side_SELL := Exa.start ez_Side_SELL g5
  have F_z_Side_SELL_ordinal := own_fld_eq ez_Side_SELL g7
  have F_z_Side_BUY_ordinal := own_fld_eq ez_Side_BUY g8
  have ne_z_Side_BUY_z_Side_SELL : z_Side_BUY ≠ z_Side_SELL := Fld.ne F_z_Side_BUY_ordinal F_z_Side_SELL_ordinal (by simp)
  obtain ⟨n, o, h1, h2, h3, _, L, rfl, ⟨rfl, N, -⟩, hq⟩ := rm_law l s _ hw tables_1 i0 z_Side_BUY z_Side_SELL s.heap s.heap.size (Nat.le_refl _) S_z_Side_BUY S_z_Side_SELL E_z_Side_BUY E_z_Side_SELL ne_z_Side_BUY_z_Side_SELL p e ha hc hk s m _ below hf ((Spec.applies_iff_loose hf).mp happ).1 ⟨rfl, State.Warmed39.refl s, rfl⟩ trivial
  refine ⟨n, _, h1, h2, h3, hpost _ _ _ _ _ _ ⟨Cond.after_iff.mpr rfl, Cond.after_iff.mpr (eq_i res_at (Term.int_eval (1)) rfl), trivial⟩ ⟨hq.1, hq.2.1, (hq.2.2.sift fun y hy => Or.inr (N y hy)).mono (by decide) (by decide)⟩⟩
theorem main_1_1 : Claimed_1_1 := comes_1 fun _ _ _ _ _ _ h hF => ⟨h.1, hF⟩
theorem main_1_2 : Claimed_1_2 := comes_1 fun _ _ _ _ _ _ h hF => ⟨h.2.1, hF⟩
end Jvm.Pilot.@@N@@
namespace Jvm.Pilot.@@N@@
open Jvm Jvm.ClassFile Sem Op Lib Jvm.Free Jvm.Stand Jvm.Pilot.@@N@@.Jvm.D
/-! MADE BY PROGRAM (witnessworld.py) out of the Statement's table words and the real class files: 12 classes; the members and pool entries that the words name. The judged class is class 1, her method 1. -/
namespace start1
open Jvm.ClassFile
def u (s : String) : CpInfo := .utf8 (stringToUtf16 s)
/-- a pool by its gaps: so many unusable entries, then the entry; so many at the end -/
def gap : Nat → List CpInfo → List CpInfo
  | 0, r => r
  | n + 1, r => .unusable :: gap n r
def poolList (es : List (Nat × CpInfo)) (last : Nat) : List CpInfo := es.foldr (fun e r => gap e.1 (e.2 :: r)) (gap last [])
def pool (es : List (Nat × CpInfo)) (last : Nat) : Array CpInfo := ⟨poolList es last⟩
def fileOf (pool : Array CpInfo) (this : Nat) (attrs : Array Attribute := #[]) (ms : Array MethodInfo := #[]) (fl : Nat := 33) (sup : Nat := 0) (ifs : Array Nat := #[]) (fds : Array FieldInfo := #[]) : ClassFile where
  minorVersion := 0
  majorVersion := 65
  constantPool := pool
  accessFlags := fl
  thisClass := this
  superClass := sup
  interfaces := ifs
  fields := fds
  methods := ms
  attributes := attrs
def plain (name : String) (sup : Option ClassId) : Class where
  name := name
  kind := .ordinary
  loader := none
  accessFlags := 33
  super := sup
  interfaces := #[]
  cf := none
  fields := #[]
  methods := #[]
  instanceTypes := #[]
  staticTypes := #[]
  resolved := #[]
  callSites := []
  init := .initialized
  statics := none
  mirror := none

def pool0 : Array CpInfo := pool [(5, u "<init>"), (0, u "()V"), (1, .class_ 10), (1, u "java/lang/Object")] 113

def k0m0 : Method := { name := "<init>", desc := "()V", sig := { parameters := [], returnType := none }, accessFlags := 1, code := none }
/-- java/lang/Object -/
def k0 : Class := { plain "java/lang/Object" none with
  accessFlags := 33
  interfaces := #[]
  cf := some (fileOf pool0 8 #[] #[{ accessFlags := 1, nameIndex := 5, descriptorIndex := 6, attributes := #[] }] 33 0 #[] #[])
  fields := #[]
  methods := #[k0m0]
  instanceTypes := #[]
  staticTypes := #[]
  resolved := Array.replicate 124 none
  statics := none }

def pool1 : Array CpInfo := pool [(2, .class_ 4), (1, u "java/lang/Object"), (0, u "<init>"), (0, u "()V"), (0, .fieldref 8 9), (0, .class_ 10), (0, .nameAndType 11 12), (0, u "com/example/legwork/legwork/Side"), (0, u "BUY"), (0, u "Lcom/example/legwork/legwork/Side;"), (0, .fieldref 8 14), (0, .nameAndType 15 12), (0, u "SELL"), (0, .methodref 8 17), (0, .nameAndType 18 19), (0, u "opposite"), (0, u "()Lcom/example/legwork/legwork/Side;"), (0, .class_ 21), (0, u "com/example/legwork/legwork/SideOppositePinLaw"), (2, u "law"), (0, u "(I)Z")] 3

def k1m0 : Method := { name := "<init>", desc := "()V", sig := { parameters := [], returnType := none }, accessFlags := 1, code := none }
def k1c1 : Code := { maxStack := 2, maxLocals := 5, code := code, exceptionTable := #[], attributes := #[] }
def k1m1 : Method := { name := "law", desc := "(I)Z", sig := { parameters := [.int], returnType := some .boolean }, accessFlags := 9, code := some k1c1 }
/-- com/example/legwork/legwork/SideOppositePinLaw -/
def k1 : Class := { plain "com/example/legwork/legwork/SideOppositePinLaw" (some 0) with
  accessFlags := 49
  interfaces := #[]
  cf := some (fileOf pool1 20 #[] #[{ accessFlags := 1, nameIndex := 5, descriptorIndex := 6, attributes := #[] }, { accessFlags := 9, nameIndex := 24, descriptorIndex := 25, attributes := #[] }] 49 2 #[] #[])
  fields := #[]
  methods := #[k1m0, k1m1]
  instanceTypes := #[]
  staticTypes := #[]
  resolved := Array.replicate 29 none
  statics := none }

def pool2 : Array CpInfo := pool [(1, .class_ 2), (0, u "java/lang/constant/Constable"), (0, .class_ 4), (0, u "java/lang/Object")] 6

/-- java/lang/constant/Constable -/
def k2 : Class := { plain "java/lang/constant/Constable" (some 0) with
  accessFlags := 1537
  interfaces := #[]
  cf := some (fileOf pool2 1 #[] #[] 1537 3 #[] #[])
  fields := #[]
  methods := #[]
  instanceTypes := #[]
  staticTypes := #[]
  resolved := Array.replicate 11 none
  statics := none }

def pool3 : Array CpInfo := pool [(1, .class_ 2), (0, u "java/lang/Comparable"), (0, .class_ 4), (0, u "java/lang/Object")] 7

/-- java/lang/Comparable -/
def k3 : Class := { plain "java/lang/Comparable" (some 0) with
  accessFlags := 1537
  interfaces := #[]
  cf := some (fileOf pool3 1 #[] #[] 1537 3 #[] #[])
  fields := #[]
  methods := #[]
  instanceTypes := #[]
  staticTypes := #[]
  resolved := Array.replicate 12 none
  statics := none }

def pool4 : Array CpInfo := pool [(1, .class_ 2), (0, u "java/io/Serializable"), (0, .class_ 4), (0, u "java/lang/Object")] 2

/-- java/io/Serializable -/
def k4 : Class := { plain "java/io/Serializable" (some 0) with
  accessFlags := 1537
  interfaces := #[]
  cf := some (fileOf pool4 1 #[] #[] 1537 3 #[] #[])
  fields := #[]
  methods := #[]
  instanceTypes := #[]
  staticTypes := #[]
  resolved := Array.replicate 7 none
  statics := none }

def pool5 : Array CpInfo := pool [(2, .class_ 4), (1, u "java/lang/Enum"), (0, u "name"), (0, u "Ljava/lang/String;"), (2, u "ordinal"), (0, u "I"), (1, .class_ 14), (1, u "java/lang/Object"), (4, u "hash"), (86, .class_ 108), (1, u "java/lang/Enum$EnumDesc"), (2, .class_ 112), (0, u "java/lang/constant/Constable"), (0, .class_ 114), (0, u "java/lang/Comparable"), (0, .class_ 116), (0, u "java/io/Serializable")] 87

/-- java/lang/Enum -/
def k5 : Class := { plain "java/lang/Enum" (some 0) with
  accessFlags := 1057
  interfaces := #[2, 3, 4]
  cf := some (fileOf pool5 2 #[.nestMembers #[106]] #[] 1057 12 #[111, 113, 115] #[{ accessFlags := 18, nameIndex := 5, descriptorIndex := 6, attributes := #[] }, { accessFlags := 18, nameIndex := 9, descriptorIndex := 10, attributes := #[] }, { accessFlags := 2, nameIndex := 19, descriptorIndex := 10, attributes := #[] }])
  fields := #[{ name := "name", type := (.object "java/lang/String"), accessFlags := 18, slot := 0, constantValue := 0 }, { name := "ordinal", type := .int, accessFlags := 18, slot := 1, constantValue := 0 }, { name := "hash", type := .int, accessFlags := 2, slot := 2, constantValue := 0 }]
  methods := #[]
  instanceTypes := #[(.object "java/lang/String"), .int, .int]
  staticTypes := #[]
  resolved := Array.replicate 204 none
  statics := none }

def pool6 : Array CpInfo := pool [(1, .class_ 2), (0, u "com/example/legwork/legwork/Side"), (0, .fieldref 1 4), (0, .nameAndType 5 6), (0, u "BUY"), (0, u "Lcom/example/legwork/legwork/Side;"), (0, .fieldref 1 8), (0, .nameAndType 9 6), (0, u "SELL"), (2, u "$VALUES"), (0, u "[Lcom/example/legwork/legwork/Side;"), (6, .class_ 22), (1, u "java/lang/Enum"), (8, u "word"), (0, u "Ljava/lang/String;"), (38, u "opposite"), (0, u "()Lcom/example/legwork/legwork/Side;")] 9

def k6c0 : Code := { maxStack := 2, maxLocals := 1, code := prog_48_method_5_code, exceptionTable := #[], attributes := #[] }
def k6m0 : Method := { name := "opposite", desc := "()Lcom/example/legwork/legwork/Side;", sig := { parameters := [], returnType := some (.object "com/example/legwork/legwork/Side") }, accessFlags := 1, code := some k6c0 }
/-- com/example/legwork/legwork/Side -/
def k6 : Class := { plain "com/example/legwork/legwork/Side" (some 5) with
  accessFlags := 16433
  interfaces := #[]
  cf := some (fileOf pool6 1 #[] #[{ accessFlags := 1, nameIndex := 71, descriptorIndex := 72, attributes := #[] }] 16433 20 #[] #[{ accessFlags := 16409, nameIndex := 5, descriptorIndex := 6, attributes := #[] }, { accessFlags := 16409, nameIndex := 9, descriptorIndex := 6, attributes := #[] }, { accessFlags := 18, nameIndex := 31, descriptorIndex := 32, attributes := #[] }, { accessFlags := 4122, nameIndex := 12, descriptorIndex := 13, attributes := #[] }])
  fields := #[{ name := "BUY", type := (.object "com/example/legwork/legwork/Side"), accessFlags := 16409, slot := 0, constantValue := 0 }, { name := "SELL", type := (.object "com/example/legwork/legwork/Side"), accessFlags := 16409, slot := 1, constantValue := 0 }, { name := "word", type := (.object "java/lang/String"), accessFlags := 18, slot := 3, constantValue := 0 }, { name := "$VALUES", type := (.array (.object "com/example/legwork/legwork/Side")), accessFlags := 4122, slot := 2, constantValue := 0 }]
  methods := #[k6m0]
  instanceTypes := #[(.object "java/lang/String"), .int, .int, (.object "java/lang/String")]
  staticTypes := #[(.object "com/example/legwork/legwork/Side"), (.object "com/example/legwork/legwork/Side"), (.array (.object "com/example/legwork/legwork/Side"))]
  resolved := Array.replicate 82 none
  statics := some 0 }

def pool7 : Array CpInfo := pool [(1, u "java/lang/Cloneable"), (0, .class_ 1), (0, u "java/lang/Object"), (0, .class_ 3)] 3

/-- java/lang/Cloneable -/
def k7 : Class := { plain "java/lang/Cloneable" (some 0) with
  accessFlags := 1537
  interfaces := #[]
  cf := some (fileOf pool7 2 #[] #[] 1537 4 #[] #[])
  fields := #[]
  methods := #[]
  instanceTypes := #[]
  staticTypes := #[]
  resolved := Array.replicate 8 none
  statics := none }

/-- the primitive byte -/
def k8 : Class := { plain "byte" none with kind := .primitive 'B', accessFlags := 0x411 }
/-- [B -/
def k9 : Class := { plain "[B" (some 0) with kind := .array 8 .byte, interfaces := #[7, 4], accessFlags := 1041 }

/-- the primitive int -/
def k10 : Class := { plain "int" none with kind := .primitive 'I', accessFlags := 0x411 }
/-- [I -/
def k11 : Class := { plain "[I" (some 0) with kind := .array 10 .int, interfaces := #[7, 4], accessFlags := 1041 }

def heap : Heap := #[{ cls := 6, slots := #[.ref 1, .ref 2, .null], vm := .statics 6 },
  { cls := 6, slots := #[.null, .int 0, .int 0, .null], vm := .none },
  { cls := 6, slots := #[.null, .int 1, .int 0, .null], vm := .none }]
def classes : Array Class := #[k0, k1, k2, k3, k4, k5, k6, k7, k8, k9, k10, k11]
def interned : List (Array UInt16 × Addr) := []
def slotsUsed : Nat := 11
def theMethod : MethodId := ⟨1, 1⟩
def args0 : Array Value := #[.int 5]
def aboutOver (below : List Frame) : State where
  vm := { classes := classes, interned := interned.toArray }
  heap := heap
  slotsUsed := slotsUsed
  threads := #[{ frames := .invoking theMethod args0 :: below }]
def below0 : List Frame := [.native { method := ⟨0, 0⟩, args := #[] }]
def about1 : State := aboutOver below0
def p0 : Program := .bare "" "" ""
def e0 : Env := launch0.env 0 0 0
theorem w_frames : about1.frames = Frame.invoking theMethod args0 :: below0 := rfl
set_option maxRecDepth 65536 in
theorem w_args : argsFit about1.vm theMethod args0 = true := by decide +kernel
set_option maxRecDepth 65536 in
theorem w_heap : heapFits about1 = true := by decide +kernel
set_option maxRecDepth 65536 in
theorem w_runnable : about1.curStatus? = some .runnable := by decide +kernel
set_option maxRecDepth 65536 in
theorem w_alone : about1.alone = true := by decide +kernel
set_option maxRecDepth 65536 in
theorem w_named : about1.methodNamed? x = some theMethod := by decide +kernel
set_option maxRecDepth 65536 in
theorem w_hears : about1.hears theMethod below0 = true := by decide +kernel
set_option maxRecDepth 65536 in
theorem w_ripe : about1.ripe theMethod args0 below0 = true := by decide +kernel
theorem w_running : about1.status = .running := rfl
set_option maxRecDepth 65536 in
theorem w_room : about1.hasRoom e0.platform room_1 = true :=
  launch0.hasRoom_least _ room_1 (by decide +kernel) (by decide +kernel) (by decide +kernel) (by decide +kernel) (by decide +kernel) (by decide +kernel)
theorem allAtoms_all (ts : List Jvm.Cond) (a : Array Jvm.Value) (st : Jvm.State) : (allAtoms ts).before a st = ts.all (fun c => c.before a st) := by
  induction ts with
  | nil => rfl
  | cons c t ih =>
    show (Jvm.Cond.and c (allAtoms t)).before a st = _
    rw [Jvm.Cond.before_and, ih, List.all_cons]
def words1 : List Jvm.Cond := Jvm.Cond.code x code maxLocals ret :: tables_1
/-- a 'code' word, met by the world's own term for the bytes: nothing is compared byte by byte -/
theorem code_word {y : MethodName} {bytes : ByteArray} {mx : Nat} {rt : Option FieldType} {a : Array Value} {s : State} {m : MethodId} {meth : Method} {c : Code} (h1 : s.methodNamed? y = some m) (h2 : s.vm.method? m = some meth) (h3 : meth.code = some c) (h4 : c.code = bytes)
    (h5 : (c.maxLocals == mx && c.exceptionTable.isEmpty && decide (c.maxStack ≤ mostOperands) && decide (meth.sig.returnType = rt) && !meth.locks && decide (parseMethodDescriptor y.desc = some meth.sig)) = true) : (Jvm.Cond.code y bytes mx rt).before a s = true := by
  simp only [Bool.and_eq_true, beq_iff_eq, Bool.not_eq_true', decide_eq_true_eq] at h5
  obtain ⟨⟨⟨⟨⟨g1, g2⟩, g3⟩, g4⟩, g5⟩, g6⟩ := h5
  simp [Cond.before, Cond.holds, Cond.value, h1, h2, h3, h4, g1, g2, g3, g4, g5, g6]
def isCode : Jvm.Cond → Bool
  | .code _ _ _ _ => true
  | _ => false
theorem all_split {L : List Jvm.Cond} {P : Jvm.Cond → Bool} (h1 : L.all (fun c => isCode c || P c) = true) (h2 : ∀ c ∈ L.filter isCode, P c = true) : L.all P = true := by
  refine List.all_eq_true.mpr fun c hc => ?_
  have h := List.all_eq_true.mp h1 c hc
  rcases Bool.eq_false_or_eq_true (isCode c) with hi | hi
  · exact h2 c (List.mem_filter.mpr ⟨hc, hi⟩)
  · simpa [hi] using h
set_option maxRecDepth 65536 in
theorem w_c0 : (Jvm.Cond.code x code maxLocals ret).before args0 about1 = true := code_word (m := ⟨1, 1⟩) (meth := k1m1) (c := k1c1) (by decide +kernel) rfl rfl rfl (by decide +kernel)
set_option maxRecDepth 65536 in
theorem w_c1 : (Jvm.Cond.code ({ cls := "com/example/legwork/legwork/Side", name := "opposite", desc := "()Lcom/example/legwork/legwork/Side;" } : Jvm.MethodName) prog_48_method_5_code (1 : Nat) (Option.some (Jvm.ClassFile.FieldType.object "com/example/legwork/legwork/Side"))).before args0 about1 = true := code_word (m := ⟨6, 0⟩) (meth := k6m0) (c := k6c0) (by decide +kernel) rfl rfl rfl (by decide +kernel)
def codes1 : List Jvm.Cond := [Jvm.Cond.code x code maxLocals ret, Jvm.Cond.code ({ cls := "com/example/legwork/legwork/Side", name := "opposite", desc := "()Lcom/example/legwork/legwork/Side;" } : Jvm.MethodName) prog_48_method_5_code (1 : Nat) (Option.some (Jvm.ClassFile.FieldType.object "com/example/legwork/legwork/Side"))]
set_option maxRecDepth 65536 in
theorem codes_eq : words1.filter isCode = codes1 := rfl
theorem w_codes : ∀ c ∈ words1.filter isCode, c.before args0 about1 = true := by
  rw [codes_eq]
  intro c hc
  simp only [codes1, List.mem_cons, List.not_mem_nil, or_false] at hc
  rcases hc with rfl | rfl
  · exact w_c0
  · exact w_c1
set_option maxRecDepth 65536 in
theorem w_t1 : words1.all (fun c => isCode c || c.before args0 about1) = true := by decide +kernel
theorem w_tables : (allAtoms (Jvm.Cond.code x code maxLocals ret :: tables_1)).before args0 about1 = true := by
  rw [allAtoms_all]
  show words1.all (fun c => c.before args0 about1) = true
  refine all_split ?_ w_codes
  rw [w_t1]
set_option maxRecDepth 65536 in
theorem w_case : (Jvm.Cond.and given_1 narrow_1).before args0 about1 = true := by decide +kernel
theorem w_applies : (headSpec (Jvm.Cond.code x code maxLocals ret :: tables_1) room_1).applies x e0.platform about1 = true :=
  (Spec.applies_iff w_frames).mpr ⟨w_running, w_runnable, w_alone, w_named, w_hears, w_ripe, w_room, w_tables⟩
theorem atStart : AtStart classFile x code maxLocals ret World_1 tables_1 room_1 Calls_1 rest_1 Pre_1 launch0 p0 e0 about1 theMethod args0 below0 :=
  ⟨lists_1, trivial, launch0.admits_env _ _ _, launch0.least_env, fairChoices_fair.cas, fairChoices_fair.clock, w_frames, w_args, w_heap, w_applies, trivial, trivial, w_case⟩
end start1
theorem witness_1 : WitnessClaimed_1 := ⟨start1.p0, start1.e0, start1.about1, start1.theMethod, start1.args0, start1.below0, start1.atStart⟩
end Jvm.Pilot.@@N@@
