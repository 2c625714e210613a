import JvmDerived
import JvmDerived.Pilot.@@N@@Statement
import JvmDerived.Pilot.@@N@@Code
set_option linter.unusedVariables false
set_option linter.unusedSimpArgs false
@@BLOCK:LamKit.lean.txt@@
namespace Jvm.RoadKit
open Sem ClassFile Op Lib Jvm.Stand Jvm.Free Jvm.LawKit
section New
variable {p : Program} {l : Launch} {e : Env} {R : Room} {s : State} {m : MethodId} {args : Array Value} {below : List Frame} {meth : Method} {c : Code} {T : State} {locs : List Loc} {cells slots : Nat}
theorem retI (X : Stand p l e R s m args below meth c T locs cells slots) (hx : p.tables.exec = Jvm.exec) {pc : Nat} {Ls : Array Slot} {z : Int32} {rest : List Value} (hret : meth.sig.returnType = some .int) (hd : decode c.code pc = .ok (.ireturn, 1)) {fs : List Frame}
    (hl : ∀ (f : JFrame) (acts : List Action), f.method = m → f.locked = none → f.entered = [] → (doReturn e (T.setTop f) acts (some (.int z))).1 = T.setFrames fs) : Steps p.tables e below (T.setTop (mkF m pc Ls (.int z :: rest))) (T.setFrames fs) := by
  have hm' : T.vm.method? m = some meth := X.method'
  have hn : narrow .int (.int z) = .int z := rfl
  show Steps p.tables e below (T.setTop { method := m, pc := pc, locals := Ls, stack := _ :: rest, locked := none }) _
  jvm_step X.here [X.here.top, hx, hd, hm', hret, hn]
  first | (intro acts; rw [hl _ acts rfl rfl rfl]) | rw [hl _ _ rfl rfl rfl]
  exact Steps.refl _
theorem retJ (X : Stand p l e R s m args below meth c T locs cells slots) (hx : p.tables.exec = Jvm.exec) {pc : Nat} {Ls : Array Slot} {z : Int64} {rest : List Value} (hret : meth.sig.returnType = some .long) (hd : decode c.code pc = .ok (.lreturn, 1)) {fs : List Frame}
    (hl : ∀ (f : JFrame) (acts : List Action), f.method = m → f.locked = none → f.entered = [] → (doReturn e (T.setTop f) acts (some (.long z))).1 = T.setFrames fs) : Steps p.tables e below (T.setTop (mkF m pc Ls (.long z :: rest))) (T.setFrames fs) := by
  have hm' : T.vm.method? m = some meth := X.method'
  have hn : narrow .long (.long z) = .long z := rfl
  show Steps p.tables e below (T.setTop { method := m, pc := pc, locals := Ls, stack := _ :: rest, locked := none }) _
  jvm_step X.here [X.here.top, hx, hd, hm', hret, hn]
  first | (intro acts; rw [hl _ acts rfl rfl rfl]) | rw [hl _ _ rfl rfl rfl]
  exact Steps.refl _
end New
end Jvm.RoadKit
namespace Jvm.Pilot.@@N@@
open Jvm Jvm.ClassFile Sem Op Lib Jvm.Free Jvm.Stand Jvm.LawKit Jvm.RoadKit Bundle Jvm.Pilot.@@N@@.Jvm.D
def own_irem (x y : Int32) : Int32 := x - (x / y) * y
theorem own_irem_mod (x y : Int32) : own_irem x y = x % y := by
  unfold own_irem
  apply Int32.toInt_inj.mp
  have h1 := Int32.le_toInt (x % y)
  have h2 := Int32.toInt_lt (x % y)
  rw [Int32.toInt_sub, Int32.toInt_mul, Int32.toInt_div, Int.bmod_mul_bmod, Int.sub_bmod_bmod, Int.mul_comm (x.toInt.tdiv y.toInt), ← Int.tmod_def, ← Int32.toInt_mod]
  exact Int.bmod_eq_of_le_mul_two (by omega) (by omega)
theorem own_fld_eq {args : Array Value} {s : State} {t : Term} {C n d : String} {w : Addr} {k : Int32} (ht : t.eval args s none [] s = some (.ref w)) (h : (Jvm.Cond.eq (Term.field t C n d) (Term.int k)).value args s none s [] = some true) : Fld s s.heap w C n d (.int k) := by
  obtain ⟨x, y, ha, hb, -, -⟩ := cmp_v (Or.inl h)
  have hy : y = .int k := (Option.some.inj ((Term.int_eval k).symm.trans hb)).symm
  subst hy
  have hx : x = .int k := by
    cases x <;> simp [Cond.value, ha, hb] at h ⊢
    exact h
  subst hx
  exact Fld.start (by rw [← fld_at ht]; exact ha)
theorem own_fld_ref {args : Array Value} {s : State} {t u : Term} {C n d : String} {w : Addr} {k : Addr} (ht : t.eval args s none [] s = some (.ref w)) (hu : u.eval args s none [] s = some (.ref k)) (h : (Jvm.Cond.eq (Term.field t C n d) u).value args s none s [] = some true) : Fld s s.heap w C n d (.ref k) := by
  obtain ⟨x, y, ha, hb, -, -⟩ := cmp_v (Or.inl h)
  cases hu.symm.trans hb
  have hx : x = .ref k := by
    cases x <;> simp [Cond.value, ha, hb] at h ⊢
    exact h
  subst hx
  exact Fld.start (by rw [← fld_at ht]; exact ha)
theorem own_sel_priv {s : State} {args : Array Value} {y z : MethodName} (hsel : (Jvm.Cond.selects z.cls z z).before args s = true) (hz : z.cls = y.cls) (hpriv : (Jvm.Cond.privateMethod y).before args s = true) (hinst : (Jvm.Cond.instanceMethod y).before args s = true) (hy : y.cls ≠ "java/lang/invoke/MethodHandle" ∧ y.cls ≠ "java/lang/invoke/VarHandle") : (Jvm.Cond.selects y.cls y y).before args s = true := by
  obtain ⟨c, r, m, h1, h2, h3, h4, mk, h5, h6⟩ := Cond.selects_spec hsel
  have hc := findClass_of_methodNamed h3
  rw [hz] at hc
  exact selects_self_of_private hc h5 h6 (Cond.privateMethod_at hpriv) hinst hy
theorem own_nm_int : "[" ++ (newarray.typeOf .int).toString = "[I" := by decide
theorem own_nm_long : "[" ++ (newarray.typeOf .long).toString = "[J" := by decide
theorem own_nm_char : "[" ++ (newarray.typeOf .char).toString = "[C" := by decide
theorem own_nm_boolean : "[" ++ (newarray.typeOf .boolean).toString = "[Z" := by decide
theorem own_ns_exa {Z : State} {h : Heap} {a : Addr} {C : String} (E : Exa Z h a C) : ∀ c : Cell, h[a]? = some c → c.vm.isStatics = false := fun c hc => by
  obtain ⟨cell, k, h1, -, -, h4, -⟩ := E
  cases h1.symm.trans hc
  exact h4
theorem own_ns_arr {Z : State} {h : Heap} {a : Addr} {cl : Cell} {ty : FieldType} (A : Arr Z h a cl ty) : ∀ c : Cell, h[a]? = some c → c.vm.isStatics = false := fun c hc => by
  cases A.1.symm.trans hc
  exact A.plain
theorem own_arr_keep {Z : State} {h h' : Heap} {a : Addr} {cl : Cell} {ty : FieldType} {ws : List Addr} (A : Arr Z h a cl ty) (K : Keep h h' ws) (q : a ∉ ws) : Arr Z h' a cl ty := ⟨K.2.1 a cl A.1 q, A.2⟩
theorem own_ns_arv {Z : State} {h : Heap} {a : Addr} {k : ClassId} {ty : FieldType} {z : Int32} {vs : List Value} {dv : Value} (F : Arv Z h a k ty z vs dv) : ∀ c : Cell, h[a]? = some c → c.vm.isStatics = false := by
  obtain ⟨c, A, -⟩ := F
  exact own_ns_arr A
theorem own_sta_keep {Z : State} {h h' : Heap} {C n d : String} {v : Value} {ws : List Addr} (F : Sta Z h C n d v) (K : Keep h h' ws) (q : ∀ x ∈ ws, ∀ c : Cell, h[x]? = some c → c.vm.isStatics = false) : Sta Z h' C n d v := by
  obtain ⟨cf, i, k, f, st, cell, h1, h2, h3, h4, h5, h6, h7⟩ := F
  exact ⟨cf, i, k, f, st, cell, h1, h2, h3, h4, K.2.1 st cell h5 (fun hm => by rw [q st hm cell h5] at h6; cases h6), h6, h7⟩
theorem own_len {args : Array Value} {s : State} {t : Term} {a : Addr} {cl : Cell} {n : Int32} (ht : t.eval args s none [] s = some (.ref a)) (hc : s.heap[a]? = some cl) (h : (Jvm.Cond.eq (Term.length t) (Term.int n)).value args s none s [] = some true) : cl.slots.size < 2 ^ 31 ∧ cl.slots.size.toInt32 = n := by
  obtain ⟨x, y, ha, hb, -, -⟩ := cmp_v (Or.inl h)
  have hy : y = .int n := (Option.some.inj ((Term.int_eval n).symm.trans hb)).symm
  subst hy
  have hx : x = .int n := by
    cases x <;> simp [Cond.value, ha, hb] at h ⊢
    exact h
  subst hx
  simp only [Term.eval, ht, Option.bind_eq_bind, Option.bind_some] at ha
  cases hq : s.arrayAt? a with
  | none => simp [hq] at ha
  | some c2 =>
    cases (State.arrayAt?_spec hq).1.symm.trans hc
    simp only [hq, Option.bind_some] at ha
    split at ha
    · rename_i hlt
      exact ⟨hlt, Value.int.inj (Option.some.inj ha)⟩
    · cases ha
theorem own_elem {args : Array Value} {s : State} {t u : Term} {a k : Addr} {cl : Cell} {j : Int32} (ht : t.eval args s none [] s = some (.ref a)) (hu : u.eval args s none [] s = some (.ref k)) (hc : s.heap[a]? = some cl) (h : (Jvm.Cond.eq (Term.elem t (Term.int j)) u).value args s none s [] = some true) : cl.slots[j.toNatClampNeg]? = some (.ref k) := by
  obtain ⟨x, y, ha, hb, -, -⟩ := cmp_v (Or.inl h)
  cases hu.symm.trans hb
  have hx : x = .ref k := by
    cases x <;> simp [Cond.value, ha, hb] at h ⊢
    exact h
  subst hx
  exact (elem_in ha ht (Term.int_eval j) hc).2
theorem own_mem {α : Type} {l : List α} {i : Nat} {a : α} (h : l[i]? = some a) : a ∈ l := List.mem_of_getElem? h
theorem own_w {a0 : Array Value} {Z : State} (hw : ∀ d ∈ tables_1, d.before a0 Z = true) (i : Nat) {d : Jvm.Cond} (h : tables_1[i]? = some d) : d.before a0 Z = true := hw d (List.mem_of_getElem? h)
theorem own_sl {Z : State} {a0 : Array Value} {C O n d O' n' d' : String} (L : Laid Z a0 C O n d) (L' : Laid Z a0 C O' n' d') (hn : n ≠ n') (h1 : (parseFieldDescriptor d).isSome = true) (h2 : (parseFieldDescriptor d').isSome = true) : Jvm.RoadKit.slotOf Z O n d ≠ Jvm.RoadKit.slotOf Z O' n' d' := by
  obtain ⟨t, ht⟩ := Option.isSome_iff_exists.mp h1
  obtain ⟨t', ht'⟩ := Option.isSome_iff_exists.mp h2
  exact slot_ne L L' hn ht ht'
theorem own_hd {c : Code} {code : ByteArray} {l : List (Nat × Instr × Nat)} (hby : c.code = code) (H : ∀ x ∈ l, decode code x.1 = .ok x.2) (i : Nat) {pc : Nat} {z : Instr × Nat} (h : l[i]? = some (pc, z)) : decode c.code pc = .ok z := by
  rw [hby]
  exact H (pc, z) (List.mem_of_getElem? h)
abbrev own_ML (l : Launch) (y : MethodName) (cs : List Jvm.Cond) (rm : Room) (Z : State) (A : Array Value) (h0 : Heap) (Q : Option Value → Heap → List Loc → Prop) (ck nk : Nat) : Prop := MetFree l y (head1 cs rm) (fun a U => a = A ∧ Z.Warmed39 U.vm ∧ U.heap = h0) (fun _ _ _ _ _ => True) (fun _ U o U' => ∃ v L, o = .returned v ∧ Q v U'.heap L ∧ FrameEnd U o U' L ck nk)
abbrev own_MSL (l : Launch) (y : MethodName) (cs : List Jvm.Cond) (rm : Room) (Z : State) (A : Array Value) (h0 : Heap) (Q : Option Value → Heap → List Loc → Prop) (ck nk : Nat) : Prop := MetFree l y (head1 cs rm) (fun a U => a = A ∧ Z.Warmed39 U.vm ∧ U.heap = h0) (fun _ _ _ _ _ => True) (fun _ U o U' => ∃ v L, o = .returned v ∧ Q v U'.heap L ∧ ReturnedEndW U o U' L ck nk)
abbrev own_M (l : Launch) (y : MethodName) (cs : List Jvm.Cond) (rm : Room) (Z : State) (A : Array Value) (h0 : Heap) (Q : Option Value → Heap → List Loc → Prop) : Prop := own_ML l y cs rm Z A h0 Q rm.cells rm.slots
abbrev own_MS (l : Launch) (y : MethodName) (cs : List Jvm.Cond) (rm : Room) (Z : State) (A : Array Value) (h0 : Heap) (Q : Option Value → Heap → List Loc → Prop) : Prop := own_MSL l y cs rm Z A h0 Q rm.cells rm.slots
theorem own_rt {p : Program} {l : Launch} {e : Env} {R : Room} {s : State} {m : MethodId} {args : Array Value} {below : List Frame} {meth : Method} {c : Code} {T : State} {locs : List Loc} {cells slots : Nat} (X : Stand p l e R s m args below meth c T locs cells slots) {s₀ : State} {F : Option Value → JFrame} {Q : Option Value → Heap → List Loc → Prop} {ck nk : Nat}
    (h : ∃ (v : Option Value) (vm₁ : Vm) (B : Pt), s.WarmedH vm₁ ∧ Stand p l e R s m args below meth c B.U B.locs B.cells B.slots ∧ (∃ L, Q v B.U.heap L ∧ B.locs = locs ++ L ∧ B.cells = cells + ck ∧ B.slots = slots + nk) ∧ Steps p.tables e below s₀ (B.U.setTop (F v))) :
    ∃ v T' L, Stand p l e R s m args below meth c T' (locs ++ L) (cells + ck) (slots + nk) ∧ Q v T'.heap L ∧ Steps p.tables e below s₀ (T'.setTop (F v)) := by
  obtain ⟨v, _, ⟨T', L', k, n⟩, -, X', ⟨L, hQ, h1, h2, h3⟩, st⟩ := h
  dsimp only [Pt.U, Pt.locs, Pt.cells, Pt.slots] at X' hQ h1 h2 h3 st
  subst h1 h2 h3
  exact ⟨v, T', L, X', hQ, st⟩
theorem own_rtC {p : Program} {l : Launch} {e : Env} {R : Room} {s : State} {m : MethodId} {args : Array Value} {below : List Frame} {meth : Method} {c : Code} {T : State} {locs : List Loc} {cells slots : Nat} (X : Stand p l e R s m args below meth c T locs cells slots) {s₀ : State} {F : Option Value → JFrame} {Q : Option Value → Heap → List Loc → Prop} {ck nk : Nat}
    (h : ∃ (v : Option Value) (vm₁ : Vm) (B : Pt), s.WarmedH vm₁ ∧ Stand p l e R s m args below meth c B.U B.locs B.cells B.slots ∧ (∃ L, Q v B.U.heap L ∧ B.locs = locs ++ L ∧ B.cells = cells + ck ∧ B.slots = slots + nk) ∧ ∀ target, Steps p.tables e below (B.U.setTop (F v)) target → Steps p.tables e below s₀ target) :
    ∃ v T' L, Stand p l e R s m args below meth c T' (locs ++ L) (cells + ck) (slots + nk) ∧ Q v T'.heap L ∧ ∀ target, Steps p.tables e below (T'.setTop (F v)) target → Steps p.tables e below s₀ target := by
  obtain ⟨v, _, ⟨T', L', k, n⟩, -, X', ⟨L, hQ, h1, h2, h3⟩, st⟩ := h
  dsimp only [Pt.U, Pt.locs, Pt.cells, Pt.slots] at X' hQ h1 h2 h3 st
  subst h1 h2 h3
  exact ⟨v, T', L, X', hQ, st⟩
theorem own_rtS {p : Program} {l : Launch} {e : Env} {R : Room} {s : State} {m : MethodId} {args : Array Value} {below : List Frame} {meth : Method} {c : Code} {T : State} {locs : List Loc} {cells slots : Nat} (X : Stand p l e R s m args below meth c T locs cells slots) {s₀ : State} {F : Option Value → JFrame} {Q : Option Value → Heap → List Loc → Prop} {ck nk : Nat}
    (h : ∃ (v : Option Value) (vm₁ : Vm) (B : Pt), s.WarmedH vm₁ ∧ Stand p l e R (s.setVm B.U.vm) m args below meth c B.U B.locs B.cells B.slots ∧ s.Since B.U.vm B.U.heap.size ∧ T.heap.size ≤ B.U.heap.size ∧ (∃ L, Q v B.U.heap L ∧ B.locs = locs ++ L ∧ B.cells = cells + ck ∧ B.slots = slots + nk) ∧ Steps p.tables e below s₀ (B.U.setTop (F v))) :
    ∃ v T' L, Stand p l e R (s.setVm T'.vm) m args below meth c T' (locs ++ L) (cells + ck) (slots + nk) ∧ s.Since T'.vm T'.heap.size ∧ T.heap.size ≤ T'.heap.size ∧ Q v T'.heap L ∧ Steps p.tables e below s₀ (T'.setTop (F v)) := by
  obtain ⟨v, _, ⟨T', L', k, n⟩, -, X', hS, hg, ⟨L, hQ, h1, h2, h3⟩, st⟩ := h
  dsimp only [Pt.U, Pt.locs, Pt.cells, Pt.slots] at X' hS hg hQ h1 h2 h3 st
  subst h1 h2 h3
  exact ⟨v, T', L, X', hS, hg, hQ, st⟩
section OwnRef
variable {p : Program} {l : Launch} {e : Env} {R : Room} {s : State} {m : MethodId} {args : Array Value} {below : List Frame} {meth : Method} {c : Code} {T : State} {locs : List Loc} {cells slots : Nat} {Z : State} {a0 : Array Value}
theorem own_specialRef (X : Stand p l e R s m args below meth c T locs cells slots) (hexec : p.tables.exec = Jvm.exec) (hZ : Z.Warmed39 s.vm) {own : String} {index : Nat} {y : MethodName} (hy1 : y.name = "<init>")
    (hown : s.vm.findClass own = some m.cls) (href : (Cond.methodRef own index y).before a0 Z = true) {bytes : ByteArray} {maxL : Nat} (hcodeZ : (Cond.code y bytes maxL none).before a0 Z = true) (hinst : (Cond.instanceMethod y).before args s = true)
    (hcode : (Cond.code y bytes maxL none).before args s = true) (hy : y.cls ≠ "java/lang/invoke/MethodHandle" ∧ y.cls ≠ "java/lang/invoke/VarHandle")
    {W : Nat} {Pre : Pt → Array Value → Prop} {Post : Pt → Array Value → Option Value → Pt → Prop} (hK : Back l R p e below s args y 3 W Pre Post)
    {g : JFrame} (hg : g.method = m) (hsize : g.locals.size = c.maxLocals) {s₀ : State} (hcome : Steps p.tables e below s₀ (T.setTop g)) {a : Addr} {argsL rest : List Value}
    (hlen : ∀ sig, parseMethodDescriptor y.desc = some sig → argsL.length = sig.parameters.length) (hstack : g.stack = argsL.reverse ++ .ref a :: rest) (hW : 2 * g.monitorRoom + (rest.map fun v => v.category).sum ≤ W)
    (hdg : decode c.code g.pc = .ok (.invokespecial index, 3)) (hpre : ∀ vm₁, s.WarmedH vm₁ → Pre ⟨T.setVm vm₁, locs, cells, slots⟩ (.ref a :: argsL).toArray) :
    ∃ (v : Option Value) (vm₁ : Vm) (B : Pt), s.WarmedH vm₁ ∧ Stand p l e R s m args below meth c B.U B.locs B.cells B.slots ∧ Post ⟨T.setVm vm₁, locs, cells, slots⟩ (.ref a :: argsL).toArray v B ∧
      Steps p.tables e below s₀ (B.U.setTop { g with pc := g.pc + 3, stack := v.toList ++ rest }) := by
  obtain ⟨obj, methO, hnO, hmO, hstO, habO⟩ := Cond.instanceMethod_spec hinst
  obtain ⟨methO', cO, hmO', hcO, hbO, hlO, -, hlockO, -, hsigO⟩ := Cond.code_spec hnO hcode
  cases hmO.symm.trans hmO'
  obtain ⟨hnameMO, hdescO⟩ := name_of_methodNamed hnO hmO
  have hT : Z.Warmed39 T.vm := wtrans hZ X.warmed
  obtain ⟨mz, hnz⟩ := Cond.code_named hcodeZ
  have hr := Cond.methodRef_warmed39 hT hnz hy href
  have hcur : (Z.setVm T.vm).vm.findClass own = some m.cls := by rw [State.vm_setVm, X.warmed.alike.findClass]; exact hown
  have hnT : T.methodNamed? y = some obj := X.named hnO
  have hnZ : (Z.setVm T.vm).methodNamed? y = some obj := hnT
  have hmT : T.vm.method? obj = some methO := by rw [X.warmed.alike.method?]; exact hmO
  obtain ⟨kT, hkT, hkn⟩ := className_of_methodNamed hnT
  obtain ⟨m', c', hf, hready, hfind, hnr⟩ := Cond.methodRef_named e hcur hr
  cases hf.symm.trans (State.methodFound?_of_named hnZ hy)
  cases hfind.symm.trans (findClass_of_methodNamed hnT)
  have hfound : lookupSpecial T.vm obj.cls "<init>" methO.desc = .method obj := by
    rw [hdescO, ← hy1]; exact lookupSpecial_of_named hnT hmT hstO
  have hstep₁ : ∀ target, (∀ acts, Steps p.tables e below (doInvoke e (T.setTop { g with stack := rest }) acts obj (.ref a :: argsL).toArray).1 target) → Steps p.tables e below (T.setTop g) target := by
    intro target hrest
    subst hg
    jvm_step X.here [hexec, hdg, invokespecial.wp_init (e := e) (s := T) (k := kT) (meth := methO) (m := obj) (a := a) (args := argsL) (rest := rest) (f := g) X.here.top hnr hready hkT hmT (by rw [hnameMO]; exact hy1) hstO habO hfound (hlen _ hsigO) hstack]
    exact hrest
  have hpre' : Pre ⟨T, locs, cells, slots⟩ (Value.ref a :: argsL).toArray := hpre T.vm X.warmed
  obtain ⟨v, B, X', hpost, hsteps⟩ := hK m meth c ⟨T, locs, cells, slots⟩ { g with stack := rest } (.invokespecial index) obj (Value.ref a :: argsL).toArray X hg hsize hdg hW hnT hpre'
  exact ⟨v, T.vm, B, X.warmed, X', hpost, (hcome.trans (hstep₁ _ fun acts => by rw [doInvoke_state]; exact Steps.refl _)).trans hsteps⟩
end OwnRef
def own_bc (xx : Int32) : Int32 := ((((((((xx - (((xx.toUInt32 >>> ((1 : Int32) &&& 31).toUInt32).toInt32) &&& (1431655765 : Int32))) &&& (858993459 : Int32)) + ((((xx - (((xx.toUInt32 >>> ((1 : Int32) &&& 31).toUInt32).toInt32) &&& (1431655765 : Int32))).toUInt32 >>> ((2 : Int32) &&& 31).toUInt32).toInt32) &&& (858993459 : Int32))) + (((((xx - (((xx.toUInt32 >>> ((1 : Int32) &&& 31).toUInt32).toInt32) &&& (1431655765 : Int32))) &&& (858993459 : Int32)) + ((((xx - (((xx.toUInt32 >>> ((1 : Int32) &&& 31).toUInt32).toInt32) &&& (1431655765 : Int32))).toUInt32 >>> ((2 : Int32) &&& 31).toUInt32).toInt32) &&& (858993459 : Int32))).toUInt32 >>> ((4 : Int32) &&& 31).toUInt32).toInt32)) &&& (252645135 : Int32)) + (((((((xx - (((xx.toUInt32 >>> ((1 : Int32) &&& 31).toUInt32).toInt32) &&& (1431655765 : Int32))) &&& (858993459 : Int32)) + ((((xx - (((xx.toUInt32 >>> ((1 : Int32) &&& 31).toUInt32).toInt32) &&& (1431655765 : Int32))).toUInt32 >>> ((2 : Int32) &&& 31).toUInt32).toInt32) &&& (858993459 : Int32))) + (((((xx - (((xx.toUInt32 >>> ((1 : Int32) &&& 31).toUInt32).toInt32) &&& (1431655765 : Int32))) &&& (858993459 : Int32)) + ((((xx - (((xx.toUInt32 >>> ((1 : Int32) &&& 31).toUInt32).toInt32) &&& (1431655765 : Int32))).toUInt32 >>> ((2 : Int32) &&& 31).toUInt32).toInt32) &&& (858993459 : Int32))).toUInt32 >>> ((4 : Int32) &&& 31).toUInt32).toInt32)) &&& (252645135 : Int32)).toUInt32 >>> ((8 : Int32) &&& 31).toUInt32).toInt32)) + ((((((((xx - (((xx.toUInt32 >>> ((1 : Int32) &&& 31).toUInt32).toInt32) &&& (1431655765 : Int32))) &&& (858993459 : Int32)) + ((((xx - (((xx.toUInt32 >>> ((1 : Int32) &&& 31).toUInt32).toInt32) &&& (1431655765 : Int32))).toUInt32 >>> ((2 : Int32) &&& 31).toUInt32).toInt32) &&& (858993459 : Int32))) + (((((xx - (((xx.toUInt32 >>> ((1 : Int32) &&& 31).toUInt32).toInt32) &&& (1431655765 : Int32))) &&& (858993459 : Int32)) + ((((xx - (((xx.toUInt32 >>> ((1 : Int32) &&& 31).toUInt32).toInt32) &&& (1431655765 : Int32))).toUInt32 >>> ((2 : Int32) &&& 31).toUInt32).toInt32) &&& (858993459 : Int32))).toUInt32 >>> ((4 : Int32) &&& 31).toUInt32).toInt32)) &&& (252645135 : Int32)) + (((((((xx - (((xx.toUInt32 >>> ((1 : Int32) &&& 31).toUInt32).toInt32) &&& (1431655765 : Int32))) &&& (858993459 : Int32)) + ((((xx - (((xx.toUInt32 >>> ((1 : Int32) &&& 31).toUInt32).toInt32) &&& (1431655765 : Int32))).toUInt32 >>> ((2 : Int32) &&& 31).toUInt32).toInt32) &&& (858993459 : Int32))) + (((((xx - (((xx.toUInt32 >>> ((1 : Int32) &&& 31).toUInt32).toInt32) &&& (1431655765 : Int32))) &&& (858993459 : Int32)) + ((((xx - (((xx.toUInt32 >>> ((1 : Int32) &&& 31).toUInt32).toInt32) &&& (1431655765 : Int32))).toUInt32 >>> ((2 : Int32) &&& 31).toUInt32).toInt32) &&& (858993459 : Int32))).toUInt32 >>> ((4 : Int32) &&& 31).toUInt32).toInt32)) &&& (252645135 : Int32)).toUInt32 >>> ((8 : Int32) &&& 31).toUInt32).toInt32)).toUInt32 >>> ((16 : Int32) &&& 31).toUInt32).toInt32)) &&& (63 : Int32))
section OwnGet
variable {p : Program} {l : Launch} {e : Env} {R : Room} {s : State} {m : MethodId} {args : Array Value} {below : List Frame} {meth : Method} {c : Code} {T : State} {locs : List Loc} {cells slots : Nat} {Z : State} {a0 : Array Value} {h : Heap}
theorem own_getRef (X : Stand p l e R s m args below meth c T locs cells slots) (hx : p.tables.exec = Jvm.exec) (hZ : Z.Warmed39 s.vm) {own O n d : String} {index : Nat} (hown : s.vm.findClass own = some m.cls) (w : (Cond.fieldRef own index O n d).before a0 Z = true)
    (eT : T.heap = h) {a : Addr} {v : Value} (F : Fld Z h a O n d v) {g : JFrame} (hg : g.method = m) {rest : List Value} (hs : g.stack = .ref a :: rest) (hd : decode c.code g.pc = .ok (.getfield index, 3)) :
    ∀ target, Steps p.tables e below (T.setTop { g with pc := g.pc + 3, stack := v :: rest }) target → Steps p.tables e below (T.setTop g) target := by
  obtain ⟨cell, cf, k, i, f, h1, h2, h3, h4, -, -, h7⟩ := F
  have hT : Z.Warmed39 T.vm := wtrans hZ X.warmed
  have hcur : (Z.setVm T.vm).vm.findClass own = some m.cls := by rw [State.vm_setVm, X.warmed.alike.findClass]; exact hown
  obtain ⟨c2, k2, i2, f2, q1, q2⟩ := Cond.fieldRef_spec hcur (Cond.fieldRef_warmed39 hT w)
  obtain ⟨k', hi, -⟩ := State.fieldFound?_setVm (s := Z) hT.alike h2
  cases q1.symm.trans hi
  exact fun target k => (X.getfieldR hx hg q2 h3 hs (by rw [eT]; exact h1) h4 h7 hd (Steps.refl _)).trans k
end OwnGet
def own_In (Z : State) (h : Heap) (a : Addr) : Prop := Ins Z h a "java/lang/Object" true ∧ True
section OwnIn
variable {Z : State} {h h' : Heap} {a b : Addr}
theorem own_In.lt (F : own_In Z h a) : a < h.size := by obtain ⟨⟨c, k, h1, -⟩, -⟩ := F; exact (Array.getElem?_eq_some_iff.mp h1).1
theorem own_In.ext (F : own_In Z h a) (E : Ext h h') : own_In Z h' a := ⟨F.1.ext E, trivial⟩
theorem own_In.wr {sl : Nat} {v : Value} (F : own_In Z h a) (W : Wr h h' b sl v) : own_In Z h' a := ⟨F.1.wr W, trivial⟩
theorem own_In.keep {ws : List Addr} (F : own_In Z h a) (K : Keep h h' ws) : own_In Z h' a := by
  obtain ⟨⟨c, k, h1, h2, h3⟩, -⟩ := F
  obtain ⟨c', e1, e2, e3, -⟩ := K.2.2 a c h1
  exact ⟨⟨c', k, e1, h2, by rw [e2, e3]; exact h3⟩, trivial⟩
end OwnIn
def own_ref (vs : List Value) (ln j : Int32) (r : Addr) : Prop := ¬ j < (0 : Int32) ∧ j.toNatClampNeg < ln.toNatClampNeg ∧ vs.getD j.toNatClampNeg .null = .ref r
section OwnR
variable {vs : List Value} {ln j : Int32} {r : Addr} {c : Cell}
theorem own_ref_of (k : Int32) (e : j = k) (h : own_ref vs ln k r) : own_ref vs ln j r := e ▸ h
theorem own_ref_in (S : c.slots.size = ln.toNatClampNeg) (h : own_ref vs ln j r) : ¬ (j < 0 ∨ c.slots.size ≤ j.toNatClampNeg) := fun q => q.elim h.1 (fun q => by rw [S] at q; have := h.2.1; omega)
theorem own_ref_at (H : ∀ i, i < c.slots.size → c.slots[i]? = some (vs.getD i .null)) (S : c.slots.size = ln.toNatClampNeg) (h : own_ref vs ln j r) : c.slots[j.toNatClampNeg]? = some (.ref r) := by
  rw [H _ (by rw [S]; exact h.2.1), h.2.2]
end OwnR
def own_Ins (Z : State) (h : Heap) (vs : List Value) : Prop := ∀ v ∈ vs, v = .null ∨ ∃ r, v = .ref r ∧ own_In Z h r
section OwnIns
variable {Z : State} {h h' : Heap} {a b : Addr} {vs : List Value}
theorem own_Ins.ext (F : own_Ins Z h vs) (E : Ext h h') : own_Ins Z h' vs := fun v hv => (F v hv).imp id fun ⟨r, e, i⟩ => ⟨r, e, i.ext E⟩
theorem own_Ins.wr {sl : Nat} {v : Value} (F : own_Ins Z h vs) (W : Wr h h' b sl v) : own_Ins Z h' vs := fun v hv => (F v hv).imp id fun ⟨r, e, i⟩ => ⟨r, e, i.wr W⟩
theorem own_Ins.keep {ws : List Addr} (F : own_Ins Z h vs) (K : Keep h h' ws) : own_Ins Z h' vs := fun v hv => (F v hv).imp id fun ⟨r, e, i⟩ => ⟨r, e, i.keep K⟩
theorem own_Ins_app (F : own_Ins Z h vs) (I : own_In Z h a) : own_Ins Z h (vs ++ [(.ref a)]) := fun v hv => (List.mem_append.mp hv).elim (F v) fun q => Or.inr ⟨a, by simpa using q, I⟩
theorem own_Ins_nil : own_Ins Z h [] := fun v hv => nomatch hv
theorem own_Ins_one (I : own_In Z h a) : own_Ins Z h [(.ref a)] := fun v hv => Or.inr ⟨a, by simpa using hv, I⟩
theorem own_Ins_del (F : own_Ins Z h vs) (q : Nat) : own_Ins Z h (vs.eraseIdx q) := fun v hv => F v (List.mem_of_mem_eraseIdx hv)
theorem own_StoL {c : Cell} {ty : FieldType} {k : ClassId} (A : Arr Z h a c ty) (q : c.cls = k) (O : Ovr Z k "java/lang/Object") (F : own_Ins Z h vs) : ∀ {us : List Value}, (∀ v ∈ us, v = .null ∨ v ∈ vs) → StoL Z h a us
  | [], _ => trivial
  | v :: us, H => ⟨by
      rcases H v (by simp) with rfl | m
      · exact Or.inl rfl
      · rcases F v m with rfl | ⟨r, rfl, i⟩
        · exact Or.inl rfl
        · exact Sto.ofV A q O i.1, own_StoL A q O F fun w hw => H w (by simp [hw])⟩
theorem own_us (vs : List Value) (n k : Nat) : ∀ v ∈ ((List.range n).map fun i => vs.getD (k + i) .null), v = .null ∨ v ∈ vs := fun v hv => by
  obtain ⟨i, -, rfl⟩ := List.mem_map.mp hv
  rw [List.getD_eq_getElem?_getD]
  cases q : vs[k + i]? with
  | none => exact Or.inl rfl
  | some w => exact Or.inr (List.mem_of_getElem? q)
theorem own_arv_c {k : ClassId} {ty : FieldType} {z : Int32} {l1 l2 : List Value} {dv : Value} (F : Arv Z h a k ty z l1 dv) (e : l1 = l2) : Arv Z h a k ty z l2 dv := e ▸ F
theorem own_pad {k : ClassId} {ty : FieldType} {z : Int32} {dv : Value} (F : Arv Z h a k ty z [] dv) : Arv Z h a k ty z (List.replicate z.toNatClampNeg dv) dv := F.pad (pad_rep [] dv _)
end OwnIns
def own_ln (ln : Int32) (vs : List Value) : Prop := ln.toInt = (vs.length : Int) ∧ vs.length ≤ 3
section OwnLn
variable {ln ps : Int32} {vs : List Value} {vv : Value} {pq : Nat}
theorem own_i_eq {x : Int32} (k : Int32) (h : x.toInt = k.toInt) : x = k := Int32.toInt_inj.mp h
theorem own_ca (h : own_ln ln vs) (h3 : vs.length < 3) : (ln = 0 ∧ vs = []) ∨ (∃ a, ln = 1 ∧ vs = [a]) ∨ ∃ a b, ln = 2 ∧ vs = [a, b] := by
  obtain ⟨h1, h2⟩ := h
  match vs, h3 with
  | [], _ => exact Or.inl ⟨own_i_eq 0 h1, rfl⟩
  | [a], _ => exact Or.inr (Or.inl ⟨a, own_i_eq 1 h1, rfl⟩)
  | [a, b], _ => exact Or.inr (Or.inr ⟨a, b, own_i_eq 2 h1, rfl⟩)
theorem own_a_nn (h : own_ln ln vs) (h3 : vs.length < 3) : ¬ (ln + (1 : Int32)) < 0 := by rcases own_ca h h3 with ⟨rfl, rfl⟩ | ⟨a, rfl, rfl⟩ | ⟨a, b, rfl, rfl⟩ <;> decide
theorem own_a_cap (h : own_ln ln vs) (h3 : vs.length < 3) : (ln + (1 : Int32)).toNatClampNeg ≤ 3 := by rcases own_ca h h3 with ⟨rfl, rfl⟩ | ⟨a, rfl, rfl⟩ | ⟨a, b, rfl, rfl⟩ <;> decide
theorem own_a_ln (h : own_ln ln vs) (h3 : vs.length < 3) : own_ln (ln + (1 : Int32)) (vs ++ [vv]) := by rcases own_ca h h3 with ⟨rfl, rfl⟩ | ⟨a, rfl, rfl⟩ | ⟨a, b, rfl, rfl⟩ <;> exact ⟨rfl, by simp⟩
theorem own_a_b1 (h : own_ln ln vs) (h3 : vs.length < 3) : ¬ ln < 0 ∧ (0 : Int32).toNatClampNeg + ln.toNatClampNeg ≤ ln.toNatClampNeg ∧ (0 : Int32).toNatClampNeg + ln.toNatClampNeg ≤ (ln + (1 : Int32)).toNatClampNeg ∧ (0 : Int32).toNatClampNeg + ln.toNatClampNeg ≤ (List.replicate (ln + (1 : Int32)).toNatClampNeg Value.null).length := by
  rw [List.length_replicate]
  rcases own_ca h h3 with ⟨rfl, rfl⟩ | ⟨a, rfl, rfl⟩ | ⟨a, b, rfl, rfl⟩ <;> decide
theorem own_a_c1 (h : own_ln ln vs) (h3 : vs.length < 3) : (List.replicate (ln + (1 : Int32)).toNatClampNeg Value.null).take (0 : Int32).toNatClampNeg ++ ((List.range ln.toNatClampNeg).map fun i => vs.getD ((0 : Int32).toNatClampNeg + i) .null) ++ (List.replicate (ln + (1 : Int32)).toNatClampNeg Value.null).drop ((0 : Int32).toNatClampNeg + ln.toNatClampNeg) = vs ++ [Value.null] := by
  rcases own_ca h h3 with ⟨rfl, rfl⟩ | ⟨a, rfl, rfl⟩ | ⟨a, b, rfl, rfl⟩ <;> rfl
theorem own_a_in {c : Cell} (S : c.slots.size = (ln + (1 : Int32)).toNatClampNeg) (h : own_ln ln vs) (h3 : vs.length < 3) : ¬ (ln < 0 ∨ c.slots.size ≤ ln.toNatClampNeg) := by
  rw [S]
  rcases own_ca h h3 with ⟨rfl, rfl⟩ | ⟨a, rfl, rfl⟩ | ⟨a, b, rfl, rfl⟩ <;> decide
theorem own_ln_cl (h : own_ln ln vs) : ln.toNatClampNeg = vs.length := by show ln.toInt.toNat = _; rw [h.1]; rfl
theorem own_a_set (vs : List Value) (v : Value) : (vs ++ [Value.null]).set vs.length v = vs ++ [v] := by simp
theorem own_a_b2 (h : own_ln ln vs) (h3 : vs.length < 3) : ¬ ln < 0 ∧ ¬ (ln + (1 : Int32)) < 0 ∧ ¬ (ln - ln) < 0 ∧ ln.toNatClampNeg + (ln - ln).toNatClampNeg ≤ ln.toNatClampNeg ∧ (ln + (1 : Int32)).toNatClampNeg + (ln - ln).toNatClampNeg ≤ (ln + (1 : Int32)).toNatClampNeg ∧ (ln + (1 : Int32)).toNatClampNeg + (ln - ln).toNatClampNeg ≤ (vs ++ [vv]).length := by
  rcases own_ca h h3 with ⟨rfl, rfl⟩ | ⟨a, rfl, rfl⟩ | ⟨a, b, rfl, rfl⟩ <;> simp only [List.length_append, List.length_cons, List.length_nil] <;> decide
theorem own_a_c2 (h : own_ln ln vs) (h3 : vs.length < 3) : (vs ++ [vv]).take (ln + (1 : Int32)).toNatClampNeg ++ ((List.range (ln - ln).toNatClampNeg).map fun i => vs.getD (ln.toNatClampNeg + i) .null) ++ (vs ++ [vv]).drop ((ln + (1 : Int32)).toNatClampNeg + (ln - ln).toNatClampNeg) = vs ++ [vv] := by
  rcases own_ca h h3 with ⟨rfl, rfl⟩ | ⟨a, rfl, rfl⟩ | ⟨a, b, rfl, rfl⟩ <;> rfl
theorem own_cr (h : own_ln ln vs) (hp : ps.toInt = (pq : Int)) (hl : pq < vs.length) : (∃ a, ln = 1 ∧ vs = [a] ∧ ps = 0 ∧ pq = 0) ∨ (∃ a b, ln = 2 ∧ vs = [a, b] ∧ ((ps = 0 ∧ pq = 0) ∨ (ps = 1 ∧ pq = 1))) ∨ ∃ a b c, ln = 3 ∧ vs = [a, b, c] ∧ ((ps = 0 ∧ pq = 0) ∨ (ps = 1 ∧ pq = 1) ∨ (ps = 2 ∧ pq = 2)) := by
  obtain ⟨h1, h2⟩ := h
  match vs, h2, hl with
  | [a], _, hl =>
    have e : pq = 0 := by simp at hl; exact hl
    subst e
    exact Or.inl ⟨a, own_i_eq 1 h1, rfl, own_i_eq 0 hp, rfl⟩
  | [a, b], _, hl =>
    refine Or.inr (Or.inl ⟨a, b, own_i_eq 2 h1, rfl, ?_⟩)
    match pq, hl with
    | 0, _ => exact Or.inl ⟨own_i_eq 0 hp, rfl⟩
    | 1, _ => exact Or.inr ⟨own_i_eq 1 hp, rfl⟩
  | [a, b, c], _, hl =>
    refine Or.inr (Or.inr ⟨a, b, c, own_i_eq 3 h1, rfl, ?_⟩)
    match pq, hl with
    | 0, _ => exact Or.inl ⟨own_i_eq 0 hp, rfl⟩
    | 1, _ => exact Or.inr (Or.inl ⟨own_i_eq 1 hp, rfl⟩)
    | 2, _ => exact Or.inr (Or.inr ⟨own_i_eq 2 hp, rfl⟩)
theorem own_r_nn (h : own_ln ln vs) (hp : ps.toInt = (pq : Int)) (hl : pq < vs.length) : ¬ (ln - (1 : Int32)) < 0 := by
  rcases own_cr h hp hl with ⟨a, rfl, rfl, rfl, rfl⟩ | ⟨a, b, rfl, rfl, ⟨rfl, rfl⟩ | ⟨rfl, rfl⟩⟩ | ⟨a, b, c, rfl, rfl, ⟨rfl, rfl⟩ | ⟨rfl, rfl⟩ | ⟨rfl, rfl⟩⟩ <;> decide
theorem own_r_cap (h : own_ln ln vs) (hp : ps.toInt = (pq : Int)) (hl : pq < vs.length) : (ln - (1 : Int32)).toNatClampNeg ≤ 3 := by
  rcases own_cr h hp hl with ⟨a, rfl, rfl, rfl, rfl⟩ | ⟨a, b, rfl, rfl, ⟨rfl, rfl⟩ | ⟨rfl, rfl⟩⟩ | ⟨a, b, c, rfl, rfl, ⟨rfl, rfl⟩ | ⟨rfl, rfl⟩ | ⟨rfl, rfl⟩⟩ <;> decide
theorem own_r_b1 (h : own_ln ln vs) (hp : ps.toInt = (pq : Int)) (hl : pq < vs.length) : ¬ ps < 0 ∧ (0 : Int32).toNatClampNeg + ps.toNatClampNeg ≤ ln.toNatClampNeg ∧ (0 : Int32).toNatClampNeg + ps.toNatClampNeg ≤ (ln - (1 : Int32)).toNatClampNeg ∧ (0 : Int32).toNatClampNeg + ps.toNatClampNeg ≤ (List.replicate (ln - (1 : Int32)).toNatClampNeg Value.null).length := by
  rw [List.length_replicate]
  rcases own_cr h hp hl with ⟨a, rfl, rfl, rfl, rfl⟩ | ⟨a, b, rfl, rfl, ⟨rfl, rfl⟩ | ⟨rfl, rfl⟩⟩ | ⟨a, b, c, rfl, rfl, ⟨rfl, rfl⟩ | ⟨rfl, rfl⟩ | ⟨rfl, rfl⟩⟩ <;> decide
abbrev own_r_l (ln ps : Int32) (vs : List Value) : List Value := (List.replicate (ln - (1 : Int32)).toNatClampNeg Value.null).take (0 : Int32).toNatClampNeg ++ ((List.range ps.toNatClampNeg).map fun i => vs.getD ((0 : Int32).toNatClampNeg + i) .null) ++ (List.replicate (ln - (1 : Int32)).toNatClampNeg Value.null).drop ((0 : Int32).toNatClampNeg + ps.toNatClampNeg)
theorem own_r_b2 (h : own_ln ln vs) (hp : ps.toInt = (pq : Int)) (hl : pq < vs.length) : ¬ (ps + (1 : Int32)) < 0 ∧ ¬ ps < 0 ∧ ¬ ((ln - (1 : Int32)) - ps) < 0 ∧ (ps + (1 : Int32)).toNatClampNeg + ((ln - (1 : Int32)) - ps).toNatClampNeg ≤ ln.toNatClampNeg ∧ ps.toNatClampNeg + ((ln - (1 : Int32)) - ps).toNatClampNeg ≤ (ln - (1 : Int32)).toNatClampNeg ∧ ps.toNatClampNeg + ((ln - (1 : Int32)) - ps).toNatClampNeg ≤ (own_r_l ln ps vs).length := by
  rcases own_cr h hp hl with ⟨a, rfl, rfl, rfl, rfl⟩ | ⟨a, b, rfl, rfl, ⟨rfl, rfl⟩ | ⟨rfl, rfl⟩⟩ | ⟨a, b, c, rfl, rfl, ⟨rfl, rfl⟩ | ⟨rfl, rfl⟩ | ⟨rfl, rfl⟩⟩ <;> refine ⟨by decide, by decide, by decide, by decide, by decide, ?_⟩ <;> exact Nat.le_of_ble_eq_true rfl
theorem own_r_c2 (h : own_ln ln vs) (hp : ps.toInt = (pq : Int)) (hl : pq < vs.length) : (own_r_l ln ps vs).take ps.toNatClampNeg ++ ((List.range ((ln - (1 : Int32)) - ps).toNatClampNeg).map fun i => vs.getD ((ps + (1 : Int32)).toNatClampNeg + i) .null) ++ (own_r_l ln ps vs).drop (ps.toNatClampNeg + ((ln - (1 : Int32)) - ps).toNatClampNeg) = vs.eraseIdx pq := by
  rcases own_cr h hp hl with ⟨a, rfl, rfl, rfl, rfl⟩ | ⟨a, b, rfl, rfl, ⟨rfl, rfl⟩ | ⟨rfl, rfl⟩⟩ | ⟨a, b, c, rfl, rfl, ⟨rfl, rfl⟩ | ⟨rfl, rfl⟩ | ⟨rfl, rfl⟩⟩ <;> rfl
end OwnLn
section OwnLam
variable {p : Program} {l : Launch} {e : Env} {R : Room} {s : State} {m : MethodId} {args : Array Value} {below : List Frame} {meth : Method} {c : Code} {T : State} {locs : List Loc} {cells slots : Nat} {Z : State} {a0 : Array Value} {h h' : Heap}
def own_Lm (Z : State) (h : Heap) (a : Addr) (x : MethodName) (pc index : Nat) (σ : Lambda.Shape) (vals : List Value) : Prop := ∃ cell : Cell, h[a]? = some cell ∧ cell.vm = .none ∧ cell.slots = vals.toArray ∧ Z.lambdaAt? x pc index σ = some (cell.cls, none)
section
variable {a b : Addr} {x : MethodName} {pc index : Nat} {σ : Lambda.Shape} {vals : List Value}
theorem own_Lm.lt (F : own_Lm Z h a x pc index σ vals) : a < h.size := by obtain ⟨c, h1, -⟩ := F; exact (Array.getElem?_eq_some_iff.mp h1).1
theorem own_Lm.ext (F : own_Lm Z h a x pc index σ vals) (E : Ext h h') : own_Lm Z h' a x pc index σ vals := by obtain ⟨c, h1, r⟩ := F; exact ⟨c, E.2 _ _ h1, r⟩
theorem own_Lm.keep {ws : List Addr} (F : own_Lm Z h a x pc index σ vals) (K : Keep h h' ws) (q : a ∉ ws) : own_Lm Z h' a x pc index σ vals := by obtain ⟨c, h1, r⟩ := F; exact ⟨c, K.2.1 _ _ h1 q, r⟩
end
theorem own_lam (X : Stand p l e R s m args below meth c T locs cells slots) (hx : p.tables.exec = Jvm.exec) (hZ : Z.Warmed39 s.vm) {x : MethodName} {pc index : Nat} {σ : Lambda.Shape} (hn : s.methodNamed? x = some m)
    (w : (Cond.lambdaSite x pc index σ).before a0 Z = true) (wO : (Cond.instantiable "java/lang/Object" 0).before a0 Z = true) (hcap : σ.captured ≠ []) {TS : Array FieldType} (hlay : ((σ.file x.cls).bind (layoutFields · 0)).map (·.2.1) = some TS)
    (eT : T.heap = h) {g : JFrame} (hg : g.method = m) (hpc : g.pc = pc) (hsize : g.locals.size = c.maxLocals) (hd : decode c.code g.pc = .ok (.invokedynamic index, 5)) {vals rest : List Value} (hstack : g.stack = vals.reverse ++ rest)
    (hv : ((TS.toList.zip vals).map fun (t, v) => narrow t v) = vals) (hlen : vals.length = σ.captured.length) (hf : ∀ (i : Nat) (v : Value), vals[i]? = some v → ∃ t, TS[i]? = some t ∧ fits t v = true)
    (hwords : 2 * g.monitorRoom + (g.stack.map fun v => v.category).sum + 3072 ≤ R.locals) (hc : cells + 1 ≤ R.cells) {nv : Nat} (hnv : vals.length = nv) (hs : slots + nv ≤ R.slots) :
    ∃ T' h', Stand p l e R s m args below meth c T' locs (cells + 1) (slots + nv) ∧ T'.heap = h' ∧ Ext h h' ∧ own_Lm Z h' h.size x pc index σ vals ∧
      ∀ target, Steps p.tables e below (T'.setTop { g with pc := g.pc + 5, stack := .ref h.size :: rest }) target → Steps p.tables e below (T.setTop g) target := by
  subst hnv
  obtain ⟨cK, one, hat⟩ := Cond.lambdaSite_spec w
  obtain ⟨m', kZ, cfZ, i0, p0, lk, hm', hkZ, hcfZ, hshape, -, hfind, hmade, hcan, hlk⟩ := State.lambdaAt?_spec hat
  have e1 : s.methodNamed? x = Z.methodNamed? x := State.methodNamed?_setVm (s := Z) hZ.alike x
  cases hn.symm.trans (e1.trans hm')
  obtain ⟨rfl, rfl⟩ : lk = .makes cK ∧ one = none := by
    rcases hlk with ⟨a, cell, -, -, q, -⟩ | ⟨q1, q2, -⟩
    · exact absurd q hcap
    · exact ⟨q1, q2⟩
  obtain ⟨kZ', hkZ', hnameZ⟩ := className_of_methodNamed hm'
  cases hkZ.symm.trans hkZ'
  obtain ⟨bsm, nt, desc, site, hcp, hnt, hsite, hpar⟩ := Lambda.shapeOf?_site hshape
  obtain ⟨kK, hkK, htyK, hkindK, hhid⟩ := Lambda.made_types hmade hkZ wO (by rw [hnameZ]; exact hlay)
  obtain ⟨kS, hkS, heS⟩ := hZ.alike.2.2 _ _ hkZ
  obtain ⟨kK', hkK', heK⟩ := hZ.alike.2.2 _ _ hkK
  have hty' : kK'.instanceTypes = TS := by rw [heK]; exact htyK
  have hkind' : kK'.kind = .ordinary := by rw [heK]; exact hkindK
  have hE : ((kK'.instanceTypes.toList.zip vals).map fun (t, v) => narrow t v) = vals := by rw [hty']; exact hv
  obtain ⟨X₁, st1⟩ := X.lambdaMakes hx hg hsize hd (vals := vals) (rest := rest) (i0 := i0) (p0 := p0) (cK := cK) hkS (by rw [heS, hpc]; exact hfind) (by rw [heS]; exact hcfZ) hcp hnt (parseLong_of_parse hsite) (by rw [hpar]; exact hlen) hstack hkK'
    (by rw [show e.platform.lambdaLinkWords = 3072 from by rw [X.admits.platform]]; exact hwords) hc (by rw [hE]; exact hs)
    (fun i v hv' => by
      rw [hE] at hv'
      obtain ⟨t, h1, h2⟩ := hf i v (by simpa using hv')
      simp [State.fitsSlot, State.slotType?, hkK', hkind', hty', h1, h2])
  rw [hE] at X₁ st1
  subst eT
  have hold : ∀ (a : Addr) (ca : Cell), T.heap[a]? = some ca → (T.pushCell { cls := cK, slots := vals.toArray, vm := .none }).heap[a]? = some ca := fun a ca q => by
    rw [State.heap_pushCell_of_lt _ _ (Array.getElem?_eq_some_iff.mp q).1]; exact q
  exact ⟨_, _, X₁, rfl, ⟨by show T.heap.size ≤ (T.heap.push _).size; simp, hold⟩, ⟨_, State.heap_pushCell_size _ _, rfl, rfl, hat⟩, st1⟩
theorem own_hf {TS : Array FieldType} {vals : List Value} (h1 : vals.length = TS.size) (h2 : ((TS.toList.zip vals).all fun q => fits q.1 q.2) = true) : ∀ (i : Nat) (v : Value), vals[i]? = some v → ∃ t, TS[i]? = some t ∧ fits t v = true := by
  intro i v hv
  obtain ⟨hi, rfl⟩ := List.getElem?_eq_some_iff.mp hv
  have hi' : i < TS.size := h1 ▸ hi
  refine ⟨TS[i], Array.getElem?_eq_getElem hi', ?_⟩
  have hz : i < (TS.toList.zip vals).length := by simp only [List.length_zip, Array.length_toList]; exact Nat.lt_min.mpr ⟨hi', hi⟩
  have q := List.all_eq_true.mp h2 _ (List.getElem_mem hz)
  simpa using q
abbrev own_IT : String := "org/tallyrole/core/IntTrie"
abbrev own_IR : FieldType := .object "java/util/Iterator"
abbrev own_kN : MethodName := ⟨own_IT, "keys", "()Ljava/lang/Iterable;"⟩
abbrev own_lN : MethodName := ⟨own_IT, "lambda$keys$0", "()Ljava/util/Iterator;"⟩
def own_kS : Lambda.Shape := Jvm.Lambda.Shape.mk "java/lang/Iterable" "iterator" ⟨[], some own_IR⟩ [.object own_IT] 5 own_IT "lambda$keys$0" ⟨[], some own_IR⟩ false ⟨[], some own_IR⟩
def own_D : ClassFile := (own_kS.file own_IT).getD { minorVersion := 0, majorVersion := 0, constantPool := #[], accessFlags := 0, thisClass := 0, superClass := 0, interfaces := #[], fields := #[], methods := #[], attributes := #[] }
def own_fw : Method := ((layoutMethods own_D).bind (·[1]?)).getD default
def own_la : Array Field × Array FieldType × Array FieldType := (layoutFields own_D 0).getD (#[], #[], #[])
def own_fB : ByteArray := ⟨#[0x2a, 0xb4, 0x00, 0x0f, 0xb6, 0x00, 0x16, 0xb0]⟩
theorem own_fB0 : decode own_fB 0 = .ok (.aload_n 0, 1) := by decide +kernel
theorem own_fB1 : decode own_fB 1 = .ok (.getfield 15, 3) := by decide +kernel
theorem own_fB4 : decode own_fB 4 = .ok (.invokevirtual 22, 3) := by decide +kernel
theorem own_fB7 : decode own_fB 7 = .ok (.areturn, 1) := by decide +kernel
theorem own_D_is : own_kS.file own_IT = some own_D := by
  obtain ⟨x, hx⟩ := Option.isSome_iff_exists.mp (by decide +kernel : (own_kS.file own_IT).isSome = true)
  simp [own_D, hx]
theorem own_fw_is : ∀ ms, layoutMethods own_D = some ms → ms[1]? = some own_fw := by
  intro ms hms
  obtain ⟨x, hx⟩ := Option.isSome_iff_exists.mp (by decide +kernel : ((layoutMethods own_D).bind (·[1]?)).isSome = true)
  have hf : own_fw = x := by simp [own_fw, hx]
  rw [hms] at hx
  rw [hf]
  exact hx
theorem own_la_is : layoutFields own_D 0 = some own_la := by
  obtain ⟨x, hx⟩ := Option.isSome_iff_exists.mp (by decide +kernel : (layoutFields own_D 0).isSome = true)
  simp [own_la, hx]
theorem own_fw_code : (own_fw.code.map fun c => (c.code.data, c.maxLocals)) = some (own_fB.data, 1) := by decide +kernel
theorem own_fw_fl : (own_fw.accessFlags, own_fw.sig.returnType) = (0x0001, some own_IR) := by decide +kernel
theorem own_eM : own_D.constantPool[22]? = some (.methodref 19 21) ∧ own_D.constantPool.className? 19 = some own_IT ∧ own_D.constantPool.nameAndType? 21 = some ("lambda$keys$0", "()Ljava/util/Iterator;") := by decide +kernel
theorem own_eC : own_D.constantPool[19]? = some (.class_ 18) ∧ own_D.constantPool.string? 18 = some own_IT ∧ 19 ≠ own_D.thisClass := by decide +kernel
theorem own_eF : own_D.constantPool[15]? = some (.fieldref 2 14) ∧ own_D.constantPool.nameAndType? 14 = some ("arg$1", "Lorg/tallyrole/core/IntTrie;") ∧ own_la.1.findIdx? (·.name == "arg$1") = some 0 ∧ (own_la.1[0]?).map (fun f => (f.isStatic, f.slot)) = some (false, 0) := by decide +kernel
theorem own_mf {d cK : ClassId} {dk : Class} (hd : Z.vm.classes[d]? = some dk) (hname : dk.name = own_IT) (hm : Lambda.isMade { classPath := fun _ => none } Z.vm d own_kS cK = true) (wO : (Cond.instantiable "java/lang/Object" 0).before a0 Z = true) :
    ∃ (k tk : Class) (file : ClassFile) (methk : Method) (ck : Code) (toy : ClassId) (t : MethodId) (f0 : Field), Z.vm.classes[cK]? = some k ∧ k.name = "org/tallyrole/core/IntTrie$$Lambda" ∧ k.cf = some file ∧ file.constantPool = own_D.constantPool ∧
      k.methods[1]? = some methk ∧ methk.code = some ck ∧ ck.code = own_fB ∧ ck.maxLocals = 1 ∧ methk.locks = false ∧ methk.accessFlags = 0x0001 ∧ methk.sig.returnType = some own_IR ∧ Z.vm.findClass own_IT = some toy ∧ Z.vm.classes[toy]? = some tk ∧ tk.isInterface = false ∧
      ((methodIn toy "lambda$keys$0" "()Ljava/util/Iterator;" tk.isInterface none).ask { classPath := fun _ => none } Z.vm).1 = .ok t ∧ k.resolved[22]? = some (some (.method t)) ∧ k.resolved[19]? = some (some (.cls toy)) ∧ k.resolved[15]? = some (some (.field cK 0)) ∧ k.fields[0]? = some f0 ∧ f0.isStatic = false ∧ f0.slot = 0 := by
  obtain ⟨dk', k, ok, tk, file, cf, object, iface, toy, lay, methods, target, found, hd', hk, hfile, hcf, hobj, -, hok, hlay, hms, ht, htk, hg, -, hrec, -, -, -, hitf, hpool, hmeth, hfields, -, hres, -⟩ := Lambda.isMade_spec hm
  cases hd.symm.trans hd'
  rw [hname, own_D_is] at hcf
  cases hcf
  obtain ⟨cO, kO, hfO, hkO, -, -, -, hsz⟩ := Cond.instantiable_spec wO
  cases hfO.symm.trans hobj
  cases hkO.symm.trans hok
  rw [hsz, own_la_is] at hlay
  cases hlay
  obtain ⟨b, hb, hsame⟩ := hmeth 1 own_fw (own_fw_is methods hms)
  simp only [Lambda.sameMethod, Bool.and_eq_true, decide_eq_true_eq] at hsame
  obtain ⟨⟨hn, -, hsig, hfl⟩, hcode⟩ := hsame
  have fc := own_fw_code
  have ff := own_fw_fl
  simp only [Prod.mk.injEq] at ff
  obtain ⟨g0, hg0, hp0⟩ := Option.map_eq_some_iff.mp own_eF.2.2.2
  simp only [Prod.mk.injEq] at hp0
  cases hfc : own_fw.code with
  | none => rw [hfc] at fc; cases fc
  | some x =>
    cases hbc : b.code with
    | none => simp [hfc, hbc] at hcode
    | some y =>
      simp only [hfc, hbc, Bool.and_eq_true, decide_eq_true_eq] at hcode
      simp only [hfc, Option.map_some, Option.some.injEq, Prod.mk.injEq] at fc
      refine ⟨k, tk, file, b, y, toy, target, g0, hk, by rw [hrec.1, hname]; rfl, hfile, hpool.2.1, hb, hbc, ?_, by rw [← hcode.1.1.1.1.2.1]; exact fc.2, ?_, by rw [← hfl]; exact ff.1, by rw [← hsig]; exact ff.2, ht, htk, hitf, hg,
        hres 22 _ (Lambda.resolvedOf_method own_eM.1 own_eM.2.1 ht htk own_eM.2.2 hg), hres 19 _ (Lambda.resolvedOf_class own_eC.1 own_eC.2.2 own_eC.2.1 ht), hres 15 _ (Lambda.resolvedOf_field own_eF.1 own_eF.2.1 own_eF.2.2.1), hfields 0 _ hg0, hp0.1, hp0.2⟩
      · rw [← hcode.1.1.1.1.2.2]
        exact ByteArray.ext fc.1
      · simp [Method.locks, Method.isSynchronized, ← hfl, ff.1, hasFlag, Acc.synchronized]
theorem own_FnX {xi : MethodName} {cF : ClassId} {mk : MethodId} {s s' : State} (ha : s.vm.Alike s'.vm) (hn : s'.methodNamed? xi = s.methodNamed? xi) (F : Jvm.Free.HMW.FnX xi cF mk s) : Jvm.Free.HMW.FnX xi cF mk s' := by
  obtain ⟨kF, methK, h1, h2, h3, h4, h5⟩ := F
  obtain ⟨k', hk', -⟩ := ha.2.2 _ _ h1
  refine ⟨k', methK, hk', by rw [ha.method?]; exact h2, h3, h4, fun r0 r q1 q2 => ?_⟩
  obtain ⟨a, b, cc⟩ := h5 r0 r (hn ▸ q1) (by rw [← ha.method?]; exact q2)
  refine ⟨by rw [ha.assignable]; exact a, by rw [ha.selectMethod]; exact b, ?_⟩
  rw [ha.superclasses]
  simp only [ha.declaredIn]
  exact cc
theorem own_lamW (hexec : p.tables.exec = Jvm.exec) (hadm : l.admits e) {Rm rm : Room} {below' : List Frame} {s' : State} {sargs' : Array Value} (hZ : Z.Warmed39 s'.vm) {cK : ClassId} (hat : Z.lambdaAt? own_kN 1 79 own_kS = some (cK, none)) (wO : (Cond.instantiable "java/lang/Object" 0).before a0 Z = true)
    {bytes : ByteArray} (wc : (Cond.code own_lN bytes 1 (some own_IR)).before a0 Z = true) (wi : (Cond.instanceMethod own_lN).before a0 Z = true) (wsel : ∀ U : State, Z.Warmed39 U.vm → (Cond.selects own_lN.cls own_lN own_lN).before #[] U = true) (wz : (Cond.initialized own_lN.cls).before a0 Z = true)
    {ra : Addr} (hE : Exa Z h ra own_IT) {Q : Option Value → Heap → List Loc → Prop}
    (hM : MetFree l own_lN (head1 [Cond.code own_lN bytes 1 (some own_IR)] rm) (fun a U => a = #[.ref ra] ∧ Z.Warmed39 U.vm ∧ U.heap = h) (fun _ _ _ _ _ => True) (fun _ U o U' => ∃ v L, o = .returned v ∧ Q v U'.heap L ∧ FrameEnd U o U' L rm.cells rm.slots))
    (hQ : ∀ v h' L, Q v h' L → ∃ w, v = some w ∧ w.isRef = true) {len W : Nat} (hfr : rm.frames + 2 ≤ Rm.frames) (hlo : W + (1 + 11) + (0 + (1 + 11) + rm.locals) ≤ Rm.locals) :
    BackW l Rm p e below' s' sargs' (fun _ m' => m' = ⟨cK, 1⟩) len W
      (fun A a => ∃ f cellF, a = #[.ref f] ∧ A.U.heap = h ∧ h[f]? = some cellF ∧ cellF.vm = .none ∧ cellF.slots = #[.ref ra] ∧ A.cells + rm.cells ≤ Rm.cells ∧ A.slots + rm.slots ≤ Rm.slots)
      (fun A _ v B => ∃ L, Q v B.U.heap L ∧ B.locs = A.locs ++ L ∧ B.cells = A.cells + rm.cells ∧ B.slots = A.slots + rm.slots) := by
  intro m meth c A gj ig mk a X hg hsize hdg hW hwho hpre
  obtain ⟨U, L, cc, nn⟩ := A
  dsimp only [Pt.U, Pt.locs, Pt.cells, Pt.slots] at X hpre hwho ⊢
  obtain ⟨f, cellF, rfl, hh, hcell, hvmF, hslF, hcl, hsl⟩ := hpre
  subst hwho
  have hU : Z.Warmed39 U.vm := wtrans hZ X.warmed
  have hA := hU.alike
  obtain ⟨m', kZ, cfZ, i0, p0, lk, hm', hkZ, -, -, -, -, hmade, -, -⟩ := State.lambdaAt?_spec hat
  obtain ⟨kZ', hkZ', hnameZ⟩ := className_of_methodNamed hm'
  cases hkZ.symm.trans hkZ'
  obtain ⟨k, tk, file, methk, ck, toy, t, f0, hk, hkn, hfile, hpool, hmk, hck, hbytes, hml, hlk, hfl, hret, htoy, htk, hitf, hlook, r22, r19, r15, hf0, hf0s, hf0n⟩ := own_mf hkZ hnameZ hmade wO
  obtain ⟨k', hk', e', -, hres, -⟩ := hU.2.2.2 _ _ hk
  have keepR : ∀ (i : Nat) (r : Resolved), k.resolved[i]? = some (some r) → k'.resolved[i]? = some (some r) := fun i r q => by
    rcases hres i with q' | ⟨q', -⟩
    · rw [q', q]
    · rw [q] at q'; cases q'
  have hmk' : k'.methods[1]? = some methk := by rw [e']; exact hmk
  have hkn' : k'.name = "org/tallyrole/core/IntTrie$$Lambda" := by rw [e']; exact hkn
  have hfile' : k'.cf = some file := by rw [e']; exact hfile
  have hf0' : k'.fields[0]? = some f0 := by rw [e']; exact hf0
  have hmkU : U.vm.method? ⟨cK, 1⟩ = some methk := by simp [Vm.method?, hk', hmk']
  obtain ⟨tk', htk', etk⟩ := hA.2.2 _ _ htk
  have hitf' : tk'.isInterface = false := by rw [etk]; exact hitf
  obtain ⟨tN, hnZ⟩ := Cond.code_named wc
  have et : t = tN := Except.ok.inj (hlook.symm.trans (Jvm.Free.Fw.look_of_named hnZ (by decide) _ _ htoy htk))
  subst et
  have hnU : U.methodNamed? own_lN = some t := (State.methodNamed?_setVm (s := Z) hA own_lN).trans hnZ
  have hV : Jvm.Free.Fw.VirtualAt e U cK 22 own_lN toy 0 := Jvm.Free.Fw.VirtualAt.of_made hadm (ci := 19) (nt := 21) hk' hfile' (by rw [hpool]; exact own_eM.1) ⟨k', hk', keepR _ _ r22⟩ ⟨k', hk', keepR _ _ r19⟩ (by rw [hA.findClass]; exact htoy) htk' hitf' hnU (by decide) (mv (s := U) hU wc) (mv (s := U) hU wi) (wsel U hU) (sig := ⟨[], some own_IR⟩) (by decide +kernel) rfl
  obtain ⟨cr, kr0, hcr, hcrc, hkr0, hcrs, -⟩ := hE
  have hcrB : cr.cls = toy := Option.some.inj (hcrc.symm.trans htoy)
  have hd0 : decode ck.code 0 = .ok (.aload_n 0, 1) := by rw [hbytes]; exact own_fB0
  have hd1 : decode ck.code 1 = .ok (.getfield 15, 3) := by rw [hbytes]; exact own_fB1
  have hd4 : decode ck.code 4 = .ok (.invokevirtual 22, 3) := by rw [hbytes]; exact own_fB4
  have hd7 : decode ck.code 7 = .ok (.areturn, 1) := by rw [hbytes]; exact own_fB7
  obtain ⟨v, T', U₁, L₁, c₁, n₁, X', ⟨hq, rfl, rfl⟩, hhp, -, -, steps⟩ := X.through hg hsize hdg #[.ref f] (R' := { frames := rm.frames + 1, cells := rm.cells, slots := rm.slots, locals := 0 + (1 + 11) + rm.locals }) hmkU hck hlk
    (State.plainMethod.of_name (fun q hq => by cases hk'.symm.trans hq; rw [hkn']; decide)) hfr (by rw [hml]; exact Nat.le_trans (Nat.add_le_add_right (Nat.add_le_add_right hW _) _) hlo) hcl hsl
    (Φ := fun v U₁ L₁ c₁ n₁ => Q v U₁.heap L₁ ∧ c₁ = rm.cells ∧ n₁ = rm.slots)
    (fun U₀ hU₀ Y₀ => by
      have hvm : U₀.vm = U.vm := by rw [hU₀]; rfl
      have hheap : U₀.heap = h := by rw [hU₀]; exact hh
      rw [hml]
      show ∃ v U₁ L₁ c₁ n₁, _ ∧ _ ∧ _ ∧ ∀ fs, _ → Steps p.tables e (.java gj :: below') (U₀.setTop { method := ⟨cK, 1⟩, pc := 0, locals := #[.val (.ref f)], stack := [], locked := none }) _
      have k1 : Steps p.tables e (.java gj :: below') (U₀.setTop { method := ⟨cK, 1⟩, pc := 0, locals := #[.val (.ref f)], stack := [], locked := none }) (U₀.setTop { method := ⟨cK, 1⟩, pc := 1, locals := #[.val (.ref f)], stack := [.ref f], locked := none }) := by
        jvm_step Y₀.here [hexec, hd0, Value.isRef]
        exact Steps.refl _
      have k2 := Y₀.getfieldR hexec (g := { method := ⟨cK, 1⟩, pc := 1, locals := #[.val (.ref f)], stack := [.ref f], locked := none }) rfl (index := 15) (cF := cK) (a := f) (field := f0) (cell := cellF) (v := .ref ra) (rest := []) (by rw [hvm]; exact ⟨k', 0, k', hk', keepR _ _ r15, hk', hf0'⟩) hf0s rfl (by rw [hheap]; exact hcell) (by rw [hvmF]; nofun) (by rw [hf0n, hslF]; rfl) hd1 k1
      obtain ⟨r, t', kr, kt, methr, metht, q1, q2, q3, q4, q5, q6, q7, q8, q9, q10, q11, q12, q13⟩ := hV.of hvm
      obtain ⟨v, ⟨U₁, L₁, c₁, n₁⟩, Y₁, ⟨Lq, hq, w1, w2, w3⟩, kE⟩ := Y₀.virtualR hexec (g := { method := ⟨cK, 1⟩, pc := 4, locals := #[.val (.ref f)], stack := [.ref ra], locked := none }) rfl (by rw [hml]; rfl) (index := 22) (a := ra) (y := own_lN) (argsL := []) (rest := []) (cell := cr) q1 q2 q3 q4 q5 q6 q7.symm rfl (by rw [hheap]; exact hcr) (fun q hq => by rw [hq] at hcrs; cases hcrs) (by rw [hcrB]; exact q8) q9 q10 q11 q12 q13
        (backOf (W := 0) hM (show Z.Warmed39 (U.calling gj ⟨cK, 1⟩ #[.ref f]).vm from hU) wc wz (Nat.le_refl _) (Nat.le_refl _)) (by show 2 * 0 + 0 ≤ 0; decide) ⟨rfl, hheap, by show 0 + rm.cells ≤ rm.cells; omega, by show 0 + rm.slots ≤ rm.slots; omega⟩ hd4 k2
      dsimp only [Pt.U, Pt.locs, Pt.cells, Pt.slots] at Y₁ kE hq w1 w2 w3
      obtain ⟨w, rfl, hw⟩ := hQ _ _ _ hq
      exact ⟨some w, U₁, L₁, c₁, n₁, Y₁, (fun q => by rw [hret] at q; cases q), ⟨by rw [w1]; exact hq, by rw [w2]; omega, by rw [w3]; omega⟩, fun fs hleave => kE.trans (Y₁.areturnOut hexec hw hret rfl hd7 hleave)⟩)
  exact ⟨v, ⟨T', L ++ L₁, cc + rm.cells, nn + rm.slots⟩, X', ⟨L₁, by show Q v T'.heap L₁; rw [hhp]; exact hq, rfl, rfl, rfl⟩, steps⟩
abbrev own_iN : MethodName := ⟨"java/lang/Iterable", "iterator", "()Ljava/util/Iterator;"⟩
theorem own_iter (X : Stand p l e R s m args below meth c T locs cells slots) (hx : p.tables.exec = Jvm.exec) (hZ : Z.Warmed39 s.vm) {own : String} {index count : Nat} (hown : s.vm.findClass own = some m.cls)
    (w1 : (Cond.methodLink own index own_iN).before a0 Z = true) (w2 : (Cond.declares own_iN).before a0 Z = true) (w3 : (Cond.interfaceMethod own_iN.cls own_iN.cls own_iN.name own_iN.desc).before a0 Z = true) (wO : (Cond.instantiable "java/lang/Object" 0).before a0 Z = true)
    {bytes : ByteArray} (wc : (Cond.code own_lN bytes 1 (some own_IR)).before a0 Z = true) (wi : (Cond.instanceMethod own_lN).before a0 Z = true) (wsel : ∀ U : State, Z.Warmed39 U.vm → (Cond.selects own_lN.cls own_lN own_lN).before #[] U = true) (wz : (Cond.initialized own_lN.cls).before a0 Z = true)
    (eT : T.heap = h) {b ra : Addr} (F : own_Lm Z h b own_kN 1 79 own_kS [.ref ra]) (hE : Exa Z h ra own_IT) {Q : Option Value → Heap → List Loc → Prop} {rm : Room}
    (hM : MetFree l own_lN (head1 [Cond.code own_lN bytes 1 (some own_IR)] rm) (fun a U => a = #[.ref ra] ∧ Z.Warmed39 U.vm ∧ U.heap = h) (fun _ _ _ _ _ => True) (fun _ U o U' => ∃ v L, o = .returned v ∧ Q v U'.heap L ∧ FrameEnd U o U' L rm.cells rm.slots))
    (hQ : ∀ v h' L, Q v h' L → ∃ w, v = some w ∧ w.isRef = true) {W : Nat} (hfr : rm.frames + 2 ≤ R.frames) (hlo : W + (1 + 11) + (0 + (1 + 11) + rm.locals) ≤ R.locals) (hcl : cells + rm.cells ≤ R.cells) (hsl : slots + rm.slots ≤ R.slots)
    {g : JFrame} (hg : g.method = m) (hsize : g.locals.size = c.maxLocals) {rest : List Value} (hstack : g.stack = .ref b :: rest) (hW : 2 * g.monitorRoom + (rest.map fun v => v.category).sum ≤ W) (hd : decode c.code g.pc = .ok (.invokeinterface index count, 5)) :
    ∃ (v : Option Value) (vm₁ : Vm) (B : Pt), s.WarmedH vm₁ ∧ Stand p l e R s m args below meth c B.U B.locs B.cells B.slots ∧ (∃ L, Q v B.U.heap L ∧ B.locs = locs ++ L ∧ B.cells = cells + rm.cells ∧ B.slots = slots + rm.slots) ∧
      Steps p.tables e below (T.setTop g) (B.U.setTop { g with pc := g.pc + 5, stack := v.toList ++ rest }) := by
  obtain ⟨cell, hcell, hvm, hsls, hat⟩ := F
  obtain ⟨ms, hms⟩ : ∃ ms, layoutMethods own_D = some ms := by
    cases q : layoutMethods own_D with
    | none => have := (by decide +kernel : (layoutMethods own_D).isSome = true); rw [q] at this; cases this
    | some ms => exact ⟨ms, rfl⟩
  have ff := own_fw_fl
  simp only [Prod.mk.injEq] at ff
  have hF := own_FnX hZ.alike (State.methodNamed?_setVm (s := Z) hZ.alike own_iN) (Jvm.Free.Fn.of_lambdaAt hat (xi := own_iN) rfl rfl (by decide +kernel) w3 own_D_is hms (own_fw_is ms hms) ff.1).1
  exact X.fnAt hx hown (fun w hw => by
      simp only [Jvm.Free.Fn.fnW, List.mem_cons, List.not_mem_nil, or_false] at hw
      rcases hw with rfl | rfl | rfl
      · exact mv hZ w1
      · exact mv hZ w2
      · exact mv hZ w3) (by decide) hF
    (own_lamW hx X.admits hZ hat wO wc wi wsel wz hE hM hQ (len := 5) (W := W) hfr hlo) (fun _ _ => rfl) ⟨cell, by rw [eT]; exact hcell, rfl, by rw [hvm]; rfl⟩ hg hsize (Steps.refl _) (argsL := []) (rest := rest)
    (fun sig q => by rw [show parseMethodDescriptor own_iN.desc = some ⟨[], some own_IR⟩ from by decide +kernel] at q; rw [← Option.some.inj q]; rfl) hstack hW hd
    (fun vm₁ _ => ⟨b, cell, rfl, eT, hcell, hvm, hsls, hcl, hsl⟩)
end OwnLam
section OwnUp
variable {p : Program} {l : Launch} {e : Env} {R : Room} {s : State} {m : MethodId} {args : Array Value} {below : List Frame} {meth : Method} {c : Code} {T : State} {locs : List Loc} {cells slots : Nat} {Z : State} {a0 : Array Value} {h : Heap}
-- what methodLink says of an entry that names an interface which doesn't declare the method itself; the access is the word's own (no word says that the method is public)
theorem own_ff {own : String} {x : MethodName} {index d cI : Nat} {kI kO : Class} {r : Method} {r0 : MethodId} (hd : s.vm.findClass own = some d) (hc : s.vm.findClass x.cls = some cI) (hk : s.vm.classes[cI]? = some kI) (hi : kI.isInterface = true) (hno : kI.findMethod x.name x.desc = none)
    (hf : s.methodFound? x.cls x.name x.desc = some r0) (hO : s.vm.classes[r0.cls]? = some kO) (hr : kO.methods[r0.idx]? = some r) (hx : x.cls ≠ "java/lang/invoke/MethodHandle" ∧ x.cls ≠ "java/lang/invoke/VarHandle") (hcl : x.name ≠ "clone")
    (w : (Cond.methodLink own index x).before args s = true) (pl : Platform) (hpl : pl.magicAccessors = ({} : Platform).magicAccessors) : ∃ ci, s.vm.MethodLinksFF pl d index ci cI r0 ∧ s.rightAt d index (.method r0) = true := by
  have hm : s.vm.method? r0 = some r := by simp [Vm.method?, hO, hr]
  obtain ⟨kn, hkn, hnm⟩ := Vm.findClass_spec hc
  cases hk.symm.trans hkn
  have poly : ∀ y, signaturePolymorphic kI y = false := fun y => by simp [signaturePolymorphic, hnm, hx.1, hx.2]
  have w' : (Cond.methodLink own index x).value args s none s [] = some true := Cond.before_iff.mp w
  simp only [Cond.value, hd, hc, hf] at w'
  rcases he : s.memberEntry? own index with _ | ⟨ci, via⟩
  · simp [he] at w'
  rcases hl : s.classLinks own ci x.cls with _ | lk
  · simp [he, hl] at w'
  rcases hdk : s.vm.classes[d]? with _ | dk
  · simp [he, hl, hdk] at w'
  simp only [he, hl, hdk, hk, hO, hm, Option.bind_eq_bind, Option.bind_some, Option.pure_def, Option.some.injEq, Bool.and_eq_true, beq_iff_eq, Option.isNone_iff_eq_none] at w'
  obtain ⟨⟨⟨⟨⟨⟨⟨rfl, names⟩, opn⟩, hv⟩, -⟩, -⟩, ld⟩, acc⟩ := w'
  have acc' : s.vm.Plain r.accessFlags r0.cls kO cI d dk := by
    simp only [Bool.or_eq_true, Bool.and_eq_true, beq_iff_eq] at acc
    rcases acc with acc | ⟨⟨-, q⟩, -⟩
    · simpa [Vm.Plain, plainAccess, or_assoc, and_assoc] using acc
    · exact absurd q hcl
  obtain rfl : via = true := by rw [← hv, hi]
  obtain ⟨cq, hcq, links⟩ := State.classLinks_spec hd hl pl hpl
  cases hc.symm.trans hcq
  obtain ⟨pool, hpool, hnames⟩ := State.names_spec names
  obtain ⟨dk', cf, hdk', hcf, rfl⟩ := State.poolOf?_spec hd hpool
  cases hdk.symm.trans hdk'
  obtain ⟨cj, nt, ent, hnt, -⟩ := namesOf?_method hnames
  have he' := he
  simp only [State.memberEntry?, hpool, Option.bind_eq_bind, Option.bind_some] at he'
  rcases ent with ent | ent <;> simp only [ent, Option.some.injEq, Prod.mk.injEq] at he'
  · cases he'.2
  obtain ⟨rfl, -⟩ := he'
  have ne : cj ≠ index := fun q => by
    obtain ⟨_, cf', nm', _, a1, a2, _, a3, _⟩ := links.here
    cases hdk.symm.trans a1
    cases hcf.symm.trans a2
    rw [q] at a3
    simp [ConstantPool.className?, ent] at a3
  have dl : dk.loader = none := by
    obtain ⟨_, _, _, _, a1, _, a2, _⟩ := links.here
    cases hdk.symm.trans a1
    exact a2
  exact ⟨cj, ⟨dk, cf, nt, x.name, x.desc, kI, kO, r, hdk, hcf, ent, hnt, links, ne, hk, hi, poly, hno, State.faceFind_of_found hc hk hi poly hno hf, hO, hr, dl.trans ld.symm, acc', State.openOr_spec hd hdk opn⟩, by simp [State.rightAt, hdk, hcf, hnames, hf]⟩
theorem own_upB (X : Stand p l e R s m args below meth c T locs cells slots) (hexec : p.tables.exec = Jvm.exec) {own C J : String} {index count : Nat} {xi y : MethodName} (hown : s.vm.findClass own = some m.cls) (hlink : (Cond.methodLink own index xi).before args s = true)
    (hdecl : (Cond.declares ⟨J, xi.name, xi.desc⟩).before args s = true) (hface : (Cond.interfaceMethod xi.cls J xi.name xi.desc).before args s = true) (hxo : xi.cls ≠ J) (hclo : xi.name ≠ "clone") (hsel : (Cond.selects C xi y).before args s = true) (hinst : (Cond.instanceMethod y).before args s = true)
    (hpub : (Cond.publicMethod y).before args s = true) (hunh : (Cond.unhidden C xi.name xi.desc).before args s = true) (hcast : (Cond.castable C xi.cls).before args s = true) (hx : xi.cls ≠ "java/lang/invoke/MethodHandle" ∧ xi.cls ≠ "java/lang/invoke/VarHandle")
    {W : Nat} {Pre : Pt → Array Value → Prop} {Post : Pt → Array Value → Option Value → Pt → Prop} (hK : Back l R p e below s args y 5 W Pre Post) {b : Addr} {cB : ClassId} {kB : Class} (hcB : s.vm.findClass C = some cB) (hkB : s.vm.classes[cB]? = some kB) (hrecv : IsOf cB T b)
    {g : JFrame} (hg : g.method = m) (hsize : g.locals.size = c.maxLocals) {s₀ : State} (hcome : Steps p.tables e below s₀ (T.setTop g)) {argsL rest : List Value} (hlen : ∀ sig, parseMethodDescriptor xi.desc = some sig → argsL.length = sig.parameters.length)
    (hstack : g.stack = argsL.reverse ++ .ref b :: rest) (hW : 2 * g.monitorRoom + (rest.map fun v => v.category).sum ≤ W) (hdg : decode c.code g.pc = .ok (.invokeinterface index count, 5)) (hpre : ∀ vm₁, s.WarmedH vm₁ → Pre ⟨T.setVm vm₁, locs, cells, slots⟩ (.ref b :: argsL).toArray) :
    ∃ (v : Option Value) (vm₁ : Vm) (B : Pt), s.WarmedH vm₁ ∧ Stand p l e R s m args below meth c B.U B.locs B.cells B.slots ∧ Post ⟨T.setVm vm₁, locs, cells, slots⟩ (.ref b :: argsL).toArray v B ∧ Steps p.tables e below s₀ (B.U.setTop { g with pc := g.pc + 5, stack := v.toList ++ rest }) := by
  obtain ⟨cl, hcl, rfl, hst⟩ := hrecv
  obtain ⟨r0, r, hn, hrm, hrs, hrsig⟩ := Cond.declares_spec hdecl
  obtain ⟨cI, kI, r1, hcI, hkI, hiI, hfI, hn1⟩ := Cond.interfaceMethod_spec hface
  cases hn.symm.trans hn1
  obtain ⟨nmR, dsR⟩ := name_of_methodNamed hn hrm
  obtain ⟨mk, mM, hnM, hmM, -, habM⟩ := Cond.instanceMethod_spec hinst
  obtain ⟨_, _, _, s1, s2, s3, s4, -⟩ := Cond.selects_spec hsel
  cases hcB.symm.trans s1
  cases hfI.symm.trans s2
  cases hnM.symm.trans s3
  obtain ⟨_, _, t1, t2, hasg⟩ := Cond.castable_spec hcast
  cases hcB.symm.trans t1
  cases hcI.symm.trans t2
  obtain ⟨kO, hkO, hkOn⟩ := className_of_methodNamed hn
  have hrO : kO.methods[r0.idx]? = some r := by simpa [Vm.method?, hkO] using hrm
  obtain ⟨kI', hkI', hkIn⟩ := Vm.findClass_spec hcI
  cases hkI.symm.trans hkI'
  have hno : kI.findMethod xi.name xi.desc = none := by
    rcases q : kI.findMethod xi.name xi.desc with _ | j
    · rfl
    · exfalso
      have q2 := State.methodFound?_declared hcI hkI (fun y => by simp [signaturePolymorphic, hkIn, hx.1, hx.2]) q (by obtain ⟨lt, -, -⟩ := Array.findIdx?_eq_some_iff_getElem.mp q; simp [lt])
      have q3 : r0.cls = cI := by rw [Option.some.inj (hfI.symm.trans q2)]
      rw [q3] at hkO
      cases hkI.symm.trans hkO
      exact hxo (hkIn.symm.trans hkOn)
  obtain ⟨ci, hl, hri⟩ := own_ff hown hcI hkI hiI hno hfI hkO hrO hx hclo hlink e.platform (by rw [X.admits.platform])
  have hE := State.methodEntryFF X.warmed hl hri
  obtain ⟨dk, cf, nt, _, _, ck, _, _, hdk, hcf, hcp, -, -, -, hck, hvi, -⟩ := hl.here
  cases hkI.symm.trans hck
  have al := hE.warmed.alike
  obtain ⟨dk2, hdk2, hcr⟩ := hE.classReady
  obtain ⟨dk3, hdk3, edk⟩ := al.2.2 _ _ hdk
  cases hdk2.symm.trans hdk3
  obtain ⟨ck2, hck2, eck⟩ := al.2.2 _ _ hck
  obtain ⟨kB2, hkB2, -⟩ := al.2.2 _ _ hkB
  have X1 := X.noted hE.warmed
  have hobj : ∀ q, cl.vm ≠ .statics q := fun q hq => by rw [hq] at hst; cases hst
  have g1 : (T.vm.calledUp m.cls ci index cI r0).method? r0 = some r := by rw [al.method?]; exact hrm
  have g2 : dk2.cf = some cf := by rw [edk]; exact hcf
  have g3 : ck2.isInterface = true := by rw [eck]; exact hvi
  have g4 : (T.vm.calledUp m.cls ci index cI r0).assignable cl.cls cI = true := by rw [al.assignable]; exact hasg
  have g5 : selectMethod e.platform (T.vm.calledUp m.cls ci index cI r0) cl.cls r0 = .method mk := by rw [al.selectMethod, Launch.admits_selectMethod X.admits]; exact s4
  have g6 : (T.vm.calledUp m.cls ci index cI r0).method? mk = some mM := by rw [al.method?]; exact hmM
  have g7 : ((cl.cls :: (T.vm.calledUp m.cls ci index cI r0).superclasses cl.cls).any fun k => (declaredIn (T.vm.calledUp m.cls ci index cI r0) r.name r.desc k).any fun (_, y) => y.isPrivate || y.isStatic) = false := by
    simp only [al.superclasses, al.declaredIn, nmR, dsR]
    exact Cond.unhidden_spec hcB hunh
  have st : ∀ target, (∀ acts, Steps p.tables e below (doInvoke e ((T.setVm (T.vm.calledUp m.cls ci index cI r0)).setTop { g with stack := rest }) acts mk (.ref b :: argsL).toArray).1 target) → Steps p.tables e below (T.setTop g) target := fun target hr => by
    subst hg
    jvm_step X.here [hexec, hdg, invokeinterface.wp_coldFace (e := e) (s := T) (s₀ := s) (f := g) (count := count) X.here.top X.warmed hE hdk hcf (Or.inr hcp) hck hvi,
      invokeinterface.wp_ready (e := e) (s := T.setVm (T.vm.calledUp g.method.cls ci index cI r0)) (f := g) (count := count) (r := r) (meth := mM) (m := mk) (args := argsL) (rest := rest) (cell := cl) (kcell := kB2) (ck := dk2) (nk := ck2) (cf := cf) (ci := ci) (nt := nt) (named := cI) X.here.top hE.ready g1 hrs (hlen _ hrsig) hstack hcl hobj hkB2 hdk2 g2 hcp hcr hck2 g3 g4 g5 g6 (Or.inr (Or.inr g7)) (Or.inl (Cond.publicMethod_spec hnM hmM hpub)) habM]
    exact hr
  obtain ⟨v, B, X', hpost, hsteps⟩ := hK m meth c ⟨T.setVm (T.vm.calledUp m.cls ci index cI r0), locs, cells, slots⟩ { g with stack := rest } (.invokeinterface index count) mk (Value.ref b :: argsL).toArray X1 hg hsize hdg hW (X1.named hnM) (hpre (T.vm.calledUp m.cls ci index cI r0) X1.warmed)
  exact ⟨v, T.vm.calledUp m.cls ci index cI r0, B, X1.warmed, X', hpost, (hcome.trans (st _ fun acts => by rw [doInvoke_state]; exact Steps.refl _)).trans hsteps⟩
end OwnUp
def own_One (x : Slot) : Prop := x = .unset ∨ ∃ i : Int32, x = .val (.int i)
def own_Nds (Z : State) (h : Heap) (gg : Addr) (vs : List Value) : Prop := ∀ r, Value.ref r ∈ vs → Exa Z h r "org/tallyrole/core/Graph$Node" ∧ Fld Z h r "org/tallyrole/core/Graph$Node" "generation" "Ljava/lang/Object;" (.ref gg)
theorem own_Nds_nil {Z : State} {h : Heap} {gg : Addr} : own_Nds Z h gg [] := fun r q => by cases q
theorem own_Nds_app {Z : State} {h : Heap} {gg w : Addr} {vs : List Value} (I : own_Nds Z h gg vs) (E : Exa Z h w "org/tallyrole/core/Graph$Node") (F : Fld Z h w "org/tallyrole/core/Graph$Node" "generation" "Ljava/lang/Object;" (.ref gg)) : own_Nds Z h gg (vs ++ [.ref w]) := fun r q => by
  rcases List.mem_append.mp q with q | q
  · exact I r q
  · cases Value.ref.inj (List.mem_singleton.mp q)
    exact ⟨E, F⟩
theorem own_Nds_er {Z : State} {h : Heap} {gg : Addr} {vs : List Value} {k : Nat} (I : own_Nds Z h gg vs) : own_Nds Z h gg (vs.eraseIdx k) := fun r q => I r (List.mem_of_mem_eraseIdx q)
abbrev own_no (n gone id : Int32) : Prop := id < (0 : Int32) ∨ ¬ id < n ∨ id = gone
abbrev own_yes (n gone id : Int32) : Prop := ¬ id < (0 : Int32) ∧ id < n ∧ ¬ id = gone
abbrev own_ab (mm id : Int32) : Prop := ¬ id < (0 : Int32) → ¬ (31 : Int32) < ((id.toUInt32 >>> ((0 : Int32) &&& 31).toUInt32).toInt32) → (mm &&& ((1 : Int32) <<< ((((id.toUInt32 >>> ((0 : Int32) &&& 31).toUInt32).toInt32) &&& (31 : Int32)) &&& 31))) = (0 : Int32)
abbrev own_pm (mm id : Int32) : Prop := ¬ id < (0 : Int32) ∧ ¬ (31 : Int32) < ((id.toUInt32 >>> ((0 : Int32) &&& 31).toUInt32).toInt32) ∧ ¬ ((mm &&& ((1 : Int32) <<< ((((id.toUInt32 >>> ((0 : Int32) &&& 31).toUInt32).toInt32) &&& (31 : Int32)) &&& 31))) = (0 : Int32))
def own_pr (mm ln : Int32) (vs : List Value) (id : Int32) (r : Addr) : Prop := own_pm mm id ∧ own_ref vs ln (own_bc (mm &&& (((1 : Int32) <<< ((((id.toUInt32 >>> ((0 : Int32) &&& 31).toUInt32).toInt32) &&& (31 : Int32)) &&& 31)) - (1 : Int32)))) r
def own_T (mm ln : Int32) (vs : List Value) (n gone : Int32) : Prop := (∀ id, (own_no n gone id ∧ own_ab mm id) ∨ (own_yes n gone id ∧ ∃ r, own_pr mm ln vs id r)) ∧ ∀ id id' r, own_pr mm ln vs id r → own_pr mm ln vs id' r → id = id'
theorem own_pr_fun {mm ln : Int32} {vs : List Value} {id id' : Int32} {r r' : Addr} (q : id' = id) (h : own_pr mm ln vs id r) (h' : own_pr mm ln vs id' r') : r' = r := by
  subst q
  exact Value.ref.inj (h'.2.2.2.symm.trans h.2.2.2)
theorem own_pr_mem {mm ln : Int32} {vs : List Value} {id : Int32} {r : Addr} (h : own_pr mm ln vs id r) : Value.ref r ∈ vs := by
  have q := h.2.2.2
  rw [List.getD_eq_getElem?_getD] at q
  cases hq : vs[(own_bc (mm &&& (((1 : Int32) <<< ((((id.toUInt32 >>> ((0 : Int32) &&& 31).toUInt32).toInt32) &&& (31 : Int32)) &&& 31)) - (1 : Int32)))).toNatClampNeg]? with
  | none => rw [hq] at q; cases q
  | some v => rw [hq] at q; cases (show v = _ from q); exact List.mem_of_getElem? hq
theorem own_ny {n gone id id' : Int32} (q : id' = id) (h : own_no n gone id) (h' : own_yes n gone id') : False := by
  subst q
  rcases h with h | h | h
  · exact h'.1 h
  · exact h h'.2.1
  · exact h'.2.2 h
theorem own_and3 (c : Int32) : (c &&& (3 : Int32)) = 0 ∨ (c &&& (3 : Int32)) = 1 ∨ (c &&& (3 : Int32)) = 2 ∨ (c &&& (3 : Int32)) = 3 := by
  have h : ∀ b : BitVec 32, (b &&& 3#32).toNat ≤ 3 := fun b => by rw [BitVec.toNat_and]; exact Nat.and_le_right
  have e : (c &&& (3 : Int32)).toBitVec = c.toBitVec &&& 3#32 := rfl
  have q := h c.toBitVec
  have k : ∀ z : Int32, z.toBitVec.toNat = 0 ∨ z.toBitVec.toNat = 1 ∨ z.toBitVec.toNat = 2 ∨ z.toBitVec.toNat = 3 → z = 0 ∨ z = 1 ∨ z = 2 ∨ z = 3 := fun z hz => by
    rcases hz with hz | hz | hz | hz
    · exact Or.inl (Int32.toBitVec_inj.mp (BitVec.eq_of_toNat_eq hz))
    · exact Or.inr (Or.inl (Int32.toBitVec_inj.mp (BitVec.eq_of_toNat_eq hz)))
    · exact Or.inr (Or.inr (Or.inl (Int32.toBitVec_inj.mp (BitVec.eq_of_toNat_eq hz))))
    · exact Or.inr (Or.inr (Or.inr (Int32.toBitVec_inj.mp (BitVec.eq_of_toNat_eq hz))))
  exact k _ (by rw [e]; omega)
def own_i (k : Fin 32) : Int32 := Int32.ofNat k.val
theorem own_ix0 (id : Int32) : ((id.toUInt32 >>> ((0 : Int32) &&& 31).toUInt32).toInt32) = id := by
  apply Int32.toBitVec_inj.mp
  show id.toBitVec >>> (_ : Nat) = id.toBitVec
  exact BitVec.ushiftRight_zero _
theorem own_k32 (id : Int32) (h0 : ¬ id < (0 : Int32)) (h1 : ¬ (31 : Int32) < id) : ∃ k : Fin 32, id = own_i k := by
  have a : 0 ≤ id.toInt := by have q : ¬ id.toInt < (0 : Int32).toInt := fun z => h0 (Int32.lt_iff_toInt_lt.mpr z); have e : (0 : Int32).toInt = 0 := rfl; rw [e] at q; omega
  have b : id.toInt ≤ 31 := by have q : ¬ (31 : Int32).toInt < id.toInt := fun z => h1 (Int32.lt_iff_toInt_lt.mpr z); have e : (31 : Int32).toInt = 31 := rfl; rw [e] at q; omega
  refine ⟨⟨id.toInt.toNat, by omega⟩, Int32.toInt_inj.mp ?_⟩
  show id.toInt = (Int32.ofNat id.toInt.toNat).toInt
  rw [Int32.toInt_ofNat_of_lt (by omega)]
  omega
theorem own_T_of {mm ln : Int32} {vs : List Value} {n gone : Int32} (hn : ¬ (31 : Int32) < n) (H : ∀ k : Fin 32, (own_no n gone (own_i k) ∧ own_ab mm (own_i k)) ∨ (own_yes n gone (own_i k) ∧ ∃ r, own_pr mm ln vs (own_i k) r)) (U : ∀ (k k' : Fin 32) r, own_pr mm ln vs (own_i k) r → own_pr mm ln vs (own_i k') r → own_i k = own_i k') : own_T mm ln vs n gone := by
  refine ⟨fun id => ?_, fun id id' r q q' => ?_⟩
  · by_cases h0 : id < (0 : Int32)
    · exact Or.inl ⟨Or.inl h0, fun q => absurd h0 q⟩
    · by_cases h1 : (31 : Int32) < id
      · refine Or.inl ⟨Or.inr (Or.inl fun q => hn ?_), fun _ q => absurd (by rw [own_ix0]; exact h1) q⟩
        rw [Int32.lt_iff_toInt_lt] at *
        omega
      · obtain ⟨k, rfl⟩ := own_k32 id h0 h1
        exact H k
  · obtain ⟨k, rfl⟩ := own_k32 id q.1.1 (by have := q.1.2.1; rw [own_ix0] at this; exact this)
    obtain ⟨k', rfl⟩ := own_k32 id' q'.1.1 (by have := q'.1.2.1; rw [own_ix0] at this; exact this)
    exact U k k' r q q'

theorem own_T_1_x {mm ln : Int32} {vs : List Value} {w0 : Addr} (hm : mm = 1) (hl : ln = 1) (hv : vs = [.ref w0]) : own_T mm ln vs 1 (-1) := by
  subst hm hl hv
  have hA : ∀ k : Fin 32, ¬ (k = 0) → own_no 1 (-1) (own_i k) ∧ own_ab 1 (own_i k) := by decide
  have hP : ∀ k : Fin 32, own_pm 1 (own_i k) → k = 0 := by decide
  have p0 : own_pr 1 1 [.ref w0] (own_i 0) w0 := ⟨by decide, by decide, by decide, rfl⟩
  refine own_T_of (by decide) (fun k => ?_) (fun k k' r q q' => ?_)
  · by_cases h : k = 0
    · rcases h with rfl
      · exact Or.inr ⟨by decide, _, p0⟩
    · exact Or.inl (hA k h)
  · rcases hP k q.1 with rfl <;> rcases hP k' q'.1 with rfl
    · rfl
theorem own_T_2_x {mm ln : Int32} {vs : List Value} {w0 w1 : Addr} (hm : mm = 3) (hl : ln = 2) (hv : vs = [.ref w0, .ref w1]) (h01 : w0 ≠ w1) : own_T mm ln vs 2 (-1) := by
  subst hm hl hv
  have hA : ∀ k : Fin 32, ¬ (k = 0 ∨ k = 1) → own_no 2 (-1) (own_i k) ∧ own_ab 3 (own_i k) := by decide
  have hP : ∀ k : Fin 32, own_pm 3 (own_i k) → k = 0 ∨ k = 1 := by decide
  have p0 : own_pr 3 2 [.ref w0, .ref w1] (own_i 0) w0 := ⟨by decide, by decide, by decide, rfl⟩
  have p1 : own_pr 3 2 [.ref w0, .ref w1] (own_i 1) w1 := ⟨by decide, by decide, by decide, rfl⟩
  refine own_T_of (by decide) (fun k => ?_) (fun k k' r q q' => ?_)
  · by_cases h : k = 0 ∨ k = 1
    · rcases h with rfl | rfl
      · exact Or.inr ⟨by decide, _, p0⟩
      · exact Or.inr ⟨by decide, _, p1⟩
    · exact Or.inl (hA k h)
  · rcases hP k q.1 with rfl | rfl <;> rcases hP k' q'.1 with rfl | rfl
    · rfl
    · exact absurd ((own_pr_fun rfl p0 q).symm.trans (own_pr_fun rfl p1 q')) h01
    · exact absurd ((own_pr_fun rfl p1 q).symm.trans (own_pr_fun rfl p0 q')) (Ne.symm h01)
    · rfl
theorem own_T_2_0 {mm ln : Int32} {vs : List Value} {w1 : Addr} (hm : mm = 2) (hl : ln = 1) (hv : vs = [.ref w1]) : own_T mm ln vs 2 (0) := by
  subst hm hl hv
  have hA : ∀ k : Fin 32, ¬ (k = 1) → own_no 2 (0) (own_i k) ∧ own_ab 2 (own_i k) := by decide
  have hP : ∀ k : Fin 32, own_pm 2 (own_i k) → k = 1 := by decide
  have p1 : own_pr 2 1 [.ref w1] (own_i 1) w1 := ⟨by decide, by decide, by decide, rfl⟩
  refine own_T_of (by decide) (fun k => ?_) (fun k k' r q q' => ?_)
  · by_cases h : k = 1
    · rcases h with rfl
      · exact Or.inr ⟨by decide, _, p1⟩
    · exact Or.inl (hA k h)
  · rcases hP k q.1 with rfl <;> rcases hP k' q'.1 with rfl
    · rfl
theorem own_T_2_1 {mm ln : Int32} {vs : List Value} {w0 : Addr} (hm : mm = 1) (hl : ln = 1) (hv : vs = [.ref w0]) : own_T mm ln vs 2 (1) := by
  subst hm hl hv
  have hA : ∀ k : Fin 32, ¬ (k = 0) → own_no 2 (1) (own_i k) ∧ own_ab 1 (own_i k) := by decide
  have hP : ∀ k : Fin 32, own_pm 1 (own_i k) → k = 0 := by decide
  have p0 : own_pr 1 1 [.ref w0] (own_i 0) w0 := ⟨by decide, by decide, by decide, rfl⟩
  refine own_T_of (by decide) (fun k => ?_) (fun k k' r q q' => ?_)
  · by_cases h : k = 0
    · rcases h with rfl
      · exact Or.inr ⟨by decide, _, p0⟩
    · exact Or.inl (hA k h)
  · rcases hP k q.1 with rfl <;> rcases hP k' q'.1 with rfl
    · rfl
theorem own_T_3_x {mm ln : Int32} {vs : List Value} {w0 w1 w2 : Addr} (hm : mm = 7) (hl : ln = 3) (hv : vs = [.ref w0, .ref w1, .ref w2]) (h01 : w0 ≠ w1) (h02 : w0 ≠ w2) (h12 : w1 ≠ w2) : own_T mm ln vs 3 (-1) := by
  subst hm hl hv
  have hA : ∀ k : Fin 32, ¬ (k = 0 ∨ k = 1 ∨ k = 2) → own_no 3 (-1) (own_i k) ∧ own_ab 7 (own_i k) := by decide
  have hP : ∀ k : Fin 32, own_pm 7 (own_i k) → k = 0 ∨ k = 1 ∨ k = 2 := by decide
  have p0 : own_pr 7 3 [.ref w0, .ref w1, .ref w2] (own_i 0) w0 := ⟨by decide, by decide, by decide, rfl⟩
  have p1 : own_pr 7 3 [.ref w0, .ref w1, .ref w2] (own_i 1) w1 := ⟨by decide, by decide, by decide, rfl⟩
  have p2 : own_pr 7 3 [.ref w0, .ref w1, .ref w2] (own_i 2) w2 := ⟨by decide, by decide, by decide, rfl⟩
  refine own_T_of (by decide) (fun k => ?_) (fun k k' r q q' => ?_)
  · by_cases h : k = 0 ∨ k = 1 ∨ k = 2
    · rcases h with rfl | rfl | rfl
      · exact Or.inr ⟨by decide, _, p0⟩
      · exact Or.inr ⟨by decide, _, p1⟩
      · exact Or.inr ⟨by decide, _, p2⟩
    · exact Or.inl (hA k h)
  · rcases hP k q.1 with rfl | rfl | rfl <;> rcases hP k' q'.1 with rfl | rfl | rfl
    · rfl
    · exact absurd ((own_pr_fun rfl p0 q).symm.trans (own_pr_fun rfl p1 q')) h01
    · exact absurd ((own_pr_fun rfl p0 q).symm.trans (own_pr_fun rfl p2 q')) h02
    · exact absurd ((own_pr_fun rfl p1 q).symm.trans (own_pr_fun rfl p0 q')) (Ne.symm h01)
    · rfl
    · exact absurd ((own_pr_fun rfl p1 q).symm.trans (own_pr_fun rfl p2 q')) h12
    · exact absurd ((own_pr_fun rfl p2 q).symm.trans (own_pr_fun rfl p0 q')) (Ne.symm h02)
    · exact absurd ((own_pr_fun rfl p2 q).symm.trans (own_pr_fun rfl p1 q')) (Ne.symm h12)
    · rfl
theorem own_T_3_0 {mm ln : Int32} {vs : List Value} {w1 w2 : Addr} (hm : mm = 6) (hl : ln = 2) (hv : vs = [.ref w1, .ref w2]) (h12 : w1 ≠ w2) : own_T mm ln vs 3 (0) := by
  subst hm hl hv
  have hA : ∀ k : Fin 32, ¬ (k = 1 ∨ k = 2) → own_no 3 (0) (own_i k) ∧ own_ab 6 (own_i k) := by decide
  have hP : ∀ k : Fin 32, own_pm 6 (own_i k) → k = 1 ∨ k = 2 := by decide
  have p1 : own_pr 6 2 [.ref w1, .ref w2] (own_i 1) w1 := ⟨by decide, by decide, by decide, rfl⟩
  have p2 : own_pr 6 2 [.ref w1, .ref w2] (own_i 2) w2 := ⟨by decide, by decide, by decide, rfl⟩
  refine own_T_of (by decide) (fun k => ?_) (fun k k' r q q' => ?_)
  · by_cases h : k = 1 ∨ k = 2
    · rcases h with rfl | rfl
      · exact Or.inr ⟨by decide, _, p1⟩
      · exact Or.inr ⟨by decide, _, p2⟩
    · exact Or.inl (hA k h)
  · rcases hP k q.1 with rfl | rfl <;> rcases hP k' q'.1 with rfl | rfl
    · rfl
    · exact absurd ((own_pr_fun rfl p1 q).symm.trans (own_pr_fun rfl p2 q')) h12
    · exact absurd ((own_pr_fun rfl p2 q).symm.trans (own_pr_fun rfl p1 q')) (Ne.symm h12)
    · rfl
theorem own_T_3_1 {mm ln : Int32} {vs : List Value} {w0 w2 : Addr} (hm : mm = 5) (hl : ln = 2) (hv : vs = [.ref w0, .ref w2]) (h02 : w0 ≠ w2) : own_T mm ln vs 3 (1) := by
  subst hm hl hv
  have hA : ∀ k : Fin 32, ¬ (k = 0 ∨ k = 2) → own_no 3 (1) (own_i k) ∧ own_ab 5 (own_i k) := by decide
  have hP : ∀ k : Fin 32, own_pm 5 (own_i k) → k = 0 ∨ k = 2 := by decide
  have p0 : own_pr 5 2 [.ref w0, .ref w2] (own_i 0) w0 := ⟨by decide, by decide, by decide, rfl⟩
  have p2 : own_pr 5 2 [.ref w0, .ref w2] (own_i 2) w2 := ⟨by decide, by decide, by decide, rfl⟩
  refine own_T_of (by decide) (fun k => ?_) (fun k k' r q q' => ?_)
  · by_cases h : k = 0 ∨ k = 2
    · rcases h with rfl | rfl
      · exact Or.inr ⟨by decide, _, p0⟩
      · exact Or.inr ⟨by decide, _, p2⟩
    · exact Or.inl (hA k h)
  · rcases hP k q.1 with rfl | rfl <;> rcases hP k' q'.1 with rfl | rfl
    · rfl
    · exact absurd ((own_pr_fun rfl p0 q).symm.trans (own_pr_fun rfl p2 q')) h02
    · exact absurd ((own_pr_fun rfl p2 q).symm.trans (own_pr_fun rfl p0 q')) (Ne.symm h02)
    · rfl
theorem own_T_3_2 {mm ln : Int32} {vs : List Value} {w0 w1 : Addr} (hm : mm = 3) (hl : ln = 2) (hv : vs = [.ref w0, .ref w1]) (h01 : w0 ≠ w1) : own_T mm ln vs 3 (2) := by
  subst hm hl hv
  have hA : ∀ k : Fin 32, ¬ (k = 0 ∨ k = 1) → own_no 3 (2) (own_i k) ∧ own_ab 3 (own_i k) := by decide
  have hP : ∀ k : Fin 32, own_pm 3 (own_i k) → k = 0 ∨ k = 1 := by decide
  have p0 : own_pr 3 2 [.ref w0, .ref w1] (own_i 0) w0 := ⟨by decide, by decide, by decide, rfl⟩
  have p1 : own_pr 3 2 [.ref w0, .ref w1] (own_i 1) w1 := ⟨by decide, by decide, by decide, rfl⟩
  refine own_T_of (by decide) (fun k => ?_) (fun k k' r q q' => ?_)
  · by_cases h : k = 0 ∨ k = 1
    · rcases h with rfl | rfl
      · exact Or.inr ⟨by decide, _, p0⟩
      · exact Or.inr ⟨by decide, _, p1⟩
    · exact Or.inl (hA k h)
  · rcases hP k q.1 with rfl | rfl <;> rcases hP k' q'.1 with rfl | rfl
    · rfl
    · exact absurd ((own_pr_fun rfl p0 q).symm.trans (own_pr_fun rfl p1 q')) h01
    · exact absurd ((own_pr_fun rfl p1 q).symm.trans (own_pr_fun rfl p0 q')) (Ne.symm h01)
    · rfl
theorem own_fld_null {args : Array Value} {s : State} {t : Term} {C n d : String} {w : Addr} (ht : t.eval args s none [] s = some (.ref w)) (h : (Jvm.Cond.eq (Term.field t C n d) Term.null).value args s none s [] = some true) : Fld s s.heap w C n d .null := by
  obtain ⟨x, y, ha, hb, -, -⟩ := cmp_v (Or.inl h)
  have hy : y = .null := (Option.some.inj hb).symm
  subst hy
  have hx : x = .null := by
    cases x <;> simp [Cond.value, ha, hb] at h ⊢
  subst hx
  exact Fld.start (by rw [← fld_at ht]; exact ha)
theorem own_rem_nn (x : Int32) : ¬ (x &&& (2147483647 : Int32)) < 0 := by
  have h : (x &&& (2147483647 : Int32)).toBitVec.toNat ≤ 2147483647 := by
    show (x.toBitVec &&& 2147483647#32).toNat ≤ _
    rw [BitVec.toNat_and]; exact Nat.and_le_right
  rw [Int32.lt_iff_toInt_lt]
  have e : (x &&& (2147483647 : Int32)).toInt = ((x &&& (2147483647 : Int32)).toBitVec.toNat : Int) := by
    show (x &&& (2147483647 : Int32)).toBitVec.toInt = _
    rw [BitVec.toInt_eq_toNat_cond, if_pos (by omega)]
  rw [e]
  show ¬ (_ : Int) < 0
  omega
theorem own_rem2 (x : Int32) : own_irem (x &&& (2147483647 : Int32)) (2 : Int32) = 0 ∨ own_irem (x &&& (2147483647 : Int32)) (2 : Int32) = 1 := by
  have h := own_rem_nn x
  generalize (x &&& (2147483647 : Int32)) = y at *
  rw [own_irem_mod]
  have e0 : (0 : Int32).toInt = 0 := rfl
  have e1 : (1 : Int32).toInt = 1 := rfl
  have e2 : (2 : Int32).toInt = 2 := rfl
  rw [Int32.lt_iff_toInt_lt, e0] at h
  rw [← Int32.toInt_inj, ← Int32.toInt_inj, Int32.toInt_mod, e0, e1, e2, Int.tmod_eq_emod_of_nonneg (by omega)]
  omega
theorem own_rem3 (x : Int32) : own_irem (x &&& (2147483647 : Int32)) (3 : Int32) = 0 ∨ own_irem (x &&& (2147483647 : Int32)) (3 : Int32) = 1 ∨ own_irem (x &&& (2147483647 : Int32)) (3 : Int32) = 2 := by
  have h := own_rem_nn x
  generalize (x &&& (2147483647 : Int32)) = y at *
  rw [own_irem_mod]
  have e0 : (0 : Int32).toInt = 0 := rfl
  have e1 : (1 : Int32).toInt = 1 := rfl
  have e2 : (2 : Int32).toInt = 2 := rfl
  have e3 : (3 : Int32).toInt = 3 := rfl
  rw [Int32.lt_iff_toInt_lt, e0] at h
  rw [← Int32.toInt_inj, ← Int32.toInt_inj, ← Int32.toInt_inj, Int32.toInt_mod, e0, e1, e2, e3, Int.tmod_eq_emod_of_nonneg (by omega)]
  omega
theorem own_p0 {u : Int32} (h : u = 1 ∨ u = 2 ∨ u = 3) : (0 : Int32) < u := by rcases h with rfl | rfl | rfl <;> decide
theorem own_p1 {u : Int32} (h : u = 2 ∨ u = 3) : (1 : Int32) < u := by rcases h with rfl | rfl <;> decide

abbrev yn_0 : MethodName := ⟨"java/util/AbstractCollection", "<init>", "()V"⟩
abbrev yn_1 : MethodName := ⟨"java/util/AbstractMap", "<init>", "()V"⟩
abbrev yn_2 : MethodName := ⟨"java/util/ArrayDeque", "<init>", "()V"⟩
abbrev yn_3 : MethodName := ⟨"java/util/HashMap", "<init>", "()V"⟩
abbrev yn_4 : MethodName := ⟨"java/util/AbstractList", "<init>", "()V"⟩
abbrev yn_5 : MethodName := ⟨"java/util/ArrayList", "<init>", "()V"⟩
abbrev yn_6 : MethodName := ⟨"org/tallyrole/core/IntTrie", "empty", "()Lorg/tallyrole/core/IntTrie;"⟩
abbrev yn_7 : MethodName := ⟨"org/tallyrole/core/Graph$Node", "<init>", "(Ljava/lang/Object;)V"⟩
abbrev yn_8 : MethodName := ⟨"org/tallyrole/core/IntTrie$Chunk", "<init>", "(Ljava/lang/Object;)V"⟩
abbrev yn_9 : MethodName := ⟨"java/lang/Integer", "bitCount", "(I)I"⟩
abbrev yn_10 : MethodName := ⟨"org/tallyrole/core/IntTrie$Chunk", "set", "(ILjava/lang/Object;)Lorg/tallyrole/core/IntTrie$Chunk;"⟩
abbrev yn_11 : MethodName := ⟨"org/tallyrole/core/IntTrie$Chunk", "slot", "(I)Ljava/lang/Object;"⟩
abbrev yn_12 : MethodName := ⟨"org/tallyrole/core/IntTrie", "get", "(I)Ljava/lang/Object;"⟩
abbrev yn_13 : MethodName := ⟨"org/tallyrole/core/IntTrie", "containsKey", "(I)Z"⟩
abbrev yn_14 : MethodName := ⟨"java/util/Objects", "requireNonNull", "(Ljava/lang/Object;)Ljava/lang/Object;"⟩
abbrev yn_15 : MethodName := ⟨"org/tallyrole/core/IntTrie", "path", "(IILjava/lang/Object;Ljava/lang/Object;)Lorg/tallyrole/core/IntTrie$Chunk;"⟩
abbrev yn_16 : MethodName := ⟨"org/tallyrole/core/IntTrie", "<init>", "(Lorg/tallyrole/core/IntTrie$Chunk;I)V"⟩
abbrev yn_17 : MethodName := ⟨"org/tallyrole/core/IntTrie", "with", "(ILjava/lang/Object;Ljava/lang/Object;)Lorg/tallyrole/core/IntTrie;"⟩
abbrev yn_18 : MethodName := ⟨"org/tallyrole/core/IntTrie$Chunk", "ownedBy", "(Ljava/lang/Object;)Lorg/tallyrole/core/IntTrie$Chunk;"⟩
abbrev yn_19 : MethodName := ⟨"org/tallyrole/core/IntTrie", "put", "(Lorg/tallyrole/core/IntTrie$Chunk;IILjava/lang/Object;Ljava/lang/Object;)Lorg/tallyrole/core/IntTrie$Chunk;"⟩
abbrev yn_20 : MethodName := ⟨"org/tallyrole/core/Graph", "<init>", "()V"⟩
abbrev yn_21 : MethodName := ⟨"java/lang/Boolean", "valueOf", "(Z)Ljava/lang/Boolean;"⟩
abbrev yn_22 : MethodName := ⟨"org/tallyrole/core/Graph", "unsettle", "(I)V"⟩
abbrev yn_23 : MethodName := ⟨"org/tallyrole/core/Graph", "addNode", "()I"⟩
abbrev yn_24 : MethodName := ⟨"org/tallyrole/core/IntTrie", "remove", "(Lorg/tallyrole/core/IntTrie$Chunk;IILjava/lang/Object;)Lorg/tallyrole/core/IntTrie$Chunk;"⟩
abbrev yn_25 : MethodName := ⟨"org/tallyrole/core/IntTrie", "without", "(ILjava/lang/Object;)Lorg/tallyrole/core/IntTrie;"⟩
abbrev yn_26 : MethodName := ⟨"java/util/ArrayDeque", "isEmpty", "()Z"⟩
abbrev yn_27 : MethodName := ⟨"org/tallyrole/core/IntTrie", "ceilingKey", "(I)I"⟩
abbrev yn_28 : MethodName := ⟨"java/util/AbstractSet", "<init>", "()V"⟩
abbrev yn_29 : MethodName := ⟨"java/util/HashMap$EntrySet", "<init>", "(Ljava/util/HashMap;)V"⟩
abbrev yn_30 : MethodName := ⟨"java/util/HashMap", "entrySet", "()Ljava/util/Set;"⟩
abbrev yn_31 : MethodName := ⟨"java/util/HashMap$HashIterator", "<init>", "(Ljava/util/HashMap;)V"⟩
abbrev yn_32 : MethodName := ⟨"java/util/HashMap$EntryIterator", "<init>", "(Ljava/util/HashMap;)V"⟩
abbrev yn_33 : MethodName := ⟨"java/util/HashMap$EntrySet", "iterator", "()Ljava/util/Iterator;"⟩
abbrev yn_34 : MethodName := ⟨"java/util/HashMap$HashIterator", "hasNext", "()Z"⟩
abbrev yn_35 : MethodName := ⟨"org/tallyrole/core/IntTrie", "isEmpty", "()Z"⟩
abbrev yn_36 : MethodName := ⟨"java/util/ArrayList", "isEmpty", "()Z"⟩
abbrev yn_37 : MethodName := ⟨"java/util/HashMap", "forEach", "(Ljava/util/function/BiConsumer;)V"⟩
abbrev yn_38 : MethodName := ⟨"java/util/Objects", "requireNonNull", "(Ljava/lang/Object;Ljava/lang/String;)Ljava/lang/Object;"⟩
abbrev yn_39 : MethodName := ⟨"java/util/Objects", "requireNonNullElse", "(Ljava/lang/Object;Ljava/lang/Object;)Ljava/lang/Object;"⟩
abbrev yn_40 : MethodName := ⟨"org/tallyrole/core/IntTrie", "keys", "()Ljava/lang/Iterable;"⟩
abbrev yn_41 : MethodName := ⟨"org/tallyrole/core/IntTrie$1", "<init>", "(Lorg/tallyrole/core/IntTrie;)V"⟩
abbrev yn_42 : MethodName := ⟨"org/tallyrole/core/IntTrie", "lambda$keys$0", "()Ljava/util/Iterator;"⟩
abbrev yn_43 : MethodName := ⟨"org/tallyrole/core/IntTrie$1", "hasNext", "()Z"⟩
abbrev yn_44 : MethodName := ⟨"java/util/ArrayList", "forEach", "(Ljava/util/function/Consumer;)V"⟩
abbrev yn_45 : MethodName := ⟨"org/tallyrole/core/Dependencies", "<init>", "()V"⟩
abbrev yn_46 : MethodName := ⟨"org/tallyrole/core/Graph", "size", "()I"⟩
abbrev yn_47 : MethodName := ⟨"org/tallyrole/core/Graph", "node", "(I)Lorg/tallyrole/core/Graph$Node;"⟩
abbrev yn_48 : MethodName := ⟨"org/tallyrole/core/Graph", "writable", "(I)Lorg/tallyrole/core/Graph$Node;"⟩
abbrev yn_49 : MethodName := ⟨"org/tallyrole/core/Graph", "different", "(II)Lorg/tallyrole/core/Dependencies;"⟩
abbrev yn_50 : MethodName := ⟨"java/util/Deque", "isEmpty", "()Z"⟩
abbrev yn_51 : MethodName := ⟨"java/util/Map", "entrySet", "()Ljava/util/Set;"⟩
abbrev yn_52 : MethodName := ⟨"java/util/Set", "iterator", "()Ljava/util/Iterator;"⟩
abbrev yn_53 : MethodName := ⟨"java/util/Iterator", "hasNext", "()Z"⟩
abbrev yn_54 : MethodName := ⟨"java/util/List", "isEmpty", "()Z"⟩
abbrev yn_55 : MethodName := ⟨"org/tallyrole/core/Graph", "merge", "(IILorg/tallyrole/core/Dependencies;)Ljava/util/List;"⟩
abbrev yn_56 : MethodName := ⟨"java/util/Map", "forEach", "(Ljava/util/function/BiConsumer;)V"⟩
abbrev yn_57 : MethodName := ⟨"java/util/List", "forEach", "(Ljava/util/function/Consumer;)V"⟩
abbrev f_0 (Z : State) (h : Heap) (a : Addr) (v : Value) : Prop := Fld Z h a "java/util/ArrayDeque" "elements" "[Ljava/lang/Object;" v
abbrev f_1 (Z : State) (h : Heap) (a : Addr) (v : Value) : Prop := Fld Z h a "java/util/ArrayDeque" "head" "I" v
abbrev f_2 (Z : State) (h : Heap) (a : Addr) (v : Value) : Prop := Fld Z h a "java/util/ArrayDeque" "tail" "I" v
abbrev e_3 (Z : State) (h : Heap) (a : Addr) : Prop := Exa Z h a "java/util/ArrayDeque"
abbrev f_4 (Z : State) (h : Heap) (a : Addr) (v : Value) : Prop := Fld Z h a "java/util/HashMap" "loadFactor" "F" v
abbrev f_5 (Z : State) (h : Heap) (a : Addr) (v : Value) : Prop := Fld Z h a "java/util/HashMap" "table" "[Ljava/util/HashMap$Node;" v
abbrev f_6 (Z : State) (h : Heap) (a : Addr) (v : Value) : Prop := Fld Z h a "java/util/HashMap" "size" "I" v
abbrev f_7 (Z : State) (h : Heap) (a : Addr) (v : Value) : Prop := Fld Z h a "java/util/HashMap" "modCount" "I" v
abbrev f_8 (Z : State) (h : Heap) (a : Addr) (v : Value) : Prop := Fld Z h a "java/util/HashMap" "entrySet" "Ljava/util/Set;" v
abbrev e_9 (Z : State) (h : Heap) (a : Addr) : Prop := Exa Z h a "java/util/HashMap"
abbrev f_10 (Z : State) (h : Heap) (a : Addr) (v : Value) : Prop := Fld Z h a "java/util/AbstractList" "modCount" "I" v
abbrev f_11 (Z : State) (h : Heap) (a : Addr) (v : Value) : Prop := Fld Z h a "java/util/ArrayList" "elementData" "[Ljava/lang/Object;" v
abbrev f_12 (Z : State) (h : Heap) (a : Addr) (v : Value) : Prop := Fld Z h a "java/util/ArrayList" "size" "I" v
abbrev e_13 (Z : State) (h : Heap) (a : Addr) : Prop := Exa Z h a "java/util/ArrayList"
abbrev f_14 (Z : State) (h : Heap) (a : Addr) (v : Value) : Prop := Fld Z h a "org/tallyrole/core/Graph$Node" "label" "Ljava/util/Map;" v
abbrev f_15 (Z : State) (h : Heap) (a : Addr) (v : Value) : Prop := Fld Z h a "org/tallyrole/core/Graph$Node" "pending" "Ljava/util/Deque;" v
abbrev f_16 (Z : State) (h : Heap) (a : Addr) (v : Value) : Prop := Fld Z h a "org/tallyrole/core/Graph$Node" "disjunctions" "Ljava/util/List;" v
abbrev f_17 (Z : State) (h : Heap) (a : Addr) (v : Value) : Prop := Fld Z h a "org/tallyrole/core/Graph$Node" "successors" "Ljava/util/Map;" v
abbrev f_18 (Z : State) (h : Heap) (a : Addr) (v : Value) : Prop := Fld Z h a "org/tallyrole/core/Graph$Node" "banned" "Ljava/util/Map;" v
abbrev f_19 (Z : State) (h : Heap) (a : Addr) (v : Value) : Prop := Fld Z h a "org/tallyrole/core/Graph$Node" "distinct" "Lorg/tallyrole/core/IntTrie;" v
abbrev f_20 (Z : State) (h : Heap) (a : Addr) (v : Value) : Prop := Fld Z h a "org/tallyrole/core/Graph$Node" "individuals" "Ljava/util/List;" v
abbrev f_21 (Z : State) (h : Heap) (a : Addr) (v : Value) : Prop := Fld Z h a "org/tallyrole/core/Graph$Node" "generation" "Ljava/lang/Object;" v
abbrev e_22 (Z : State) (h : Heap) (a : Addr) : Prop := Exa Z h a "org/tallyrole/core/Graph$Node"
abbrev f_23 (Z : State) (h : Heap) (a : Addr) (v : Value) : Prop := Fld Z h a "org/tallyrole/core/IntTrie$Chunk" "slots" "[Ljava/lang/Object;" v
abbrev f_24 (Z : State) (h : Heap) (a : Addr) (v : Value) : Prop := Fld Z h a "org/tallyrole/core/IntTrie$Chunk" "owner" "Ljava/lang/Object;" v
abbrev f_25 (Z : State) (h : Heap) (a : Addr) (v : Value) : Prop := Fld Z h a "org/tallyrole/core/IntTrie$Chunk" "mask" "I" v
abbrev e_26 (Z : State) (h : Heap) (a : Addr) : Prop := Exa Z h a "org/tallyrole/core/IntTrie$Chunk"
abbrev f_27 (Z : State) (h : Heap) (a : Addr) (v : Value) : Prop := Fld Z h a "org/tallyrole/core/IntTrie" "root" "Lorg/tallyrole/core/IntTrie$Chunk;" v
abbrev f_28 (Z : State) (h : Heap) (a : Addr) (v : Value) : Prop := Fld Z h a "org/tallyrole/core/IntTrie" "level" "I" v
abbrev e_29 (Z : State) (h : Heap) (a : Addr) : Prop := Exa Z h a "org/tallyrole/core/IntTrie"
abbrev f_30 (Z : State) (h : Heap) (a : Addr) (v : Value) : Prop := Fld Z h a "org/tallyrole/core/Graph" "nodes" "Lorg/tallyrole/core/IntTrie;" v
abbrev f_31 (Z : State) (h : Heap) (a : Addr) (v : Value) : Prop := Fld Z h a "org/tallyrole/core/Graph" "incoming" "Lorg/tallyrole/core/IntTrie;" v
abbrev f_32 (Z : State) (h : Heap) (a : Addr) (v : Value) : Prop := Fld Z h a "org/tallyrole/core/Graph" "mayBeOpen" "Lorg/tallyrole/core/IntTrie;" v
abbrev f_33 (Z : State) (h : Heap) (a : Addr) (v : Value) : Prop := Fld Z h a "org/tallyrole/core/Graph" "unsettled" "Lorg/tallyrole/core/IntTrie;" v
abbrev f_34 (Z : State) (h : Heap) (a : Addr) (v : Value) : Prop := Fld Z h a "org/tallyrole/core/Graph" "nominals" "Lorg/tallyrole/core/IntTrie;" v
abbrev f_35 (Z : State) (h : Heap) (a : Addr) (v : Value) : Prop := Fld Z h a "org/tallyrole/core/Graph" "generation" "Ljava/lang/Object;" v
abbrev f_36 (Z : State) (h : Heap) (a : Addr) (v : Value) : Prop := Fld Z h a "org/tallyrole/core/Graph" "agenda" "Ljava/util/Deque;" v
abbrev f_37 (Z : State) (h : Heap) (a : Addr) (v : Value) : Prop := Fld Z h a "org/tallyrole/core/Graph" "nominalNumbers" "Ljava/util/Map;" v
abbrev f_38 (Z : State) (h : Heap) (a : Addr) (v : Value) : Prop := Fld Z h a "org/tallyrole/core/Graph" "size" "I" v
abbrev e_39 (Z : State) (h : Heap) (a : Addr) : Prop := Exa Z h a "org/tallyrole/core/Graph"
abbrev e_40 (Z : State) (h : Heap) (a : Addr) : Prop := Exa Z h a "java/lang/Boolean"
abbrev f_41 (Z : State) (h : Heap) (a : Addr) (v : Value) : Prop := Fld Z h a "java/util/HashMap$EntrySet" "this$0" "Ljava/util/HashMap;" v
abbrev e_42 (Z : State) (h : Heap) (a : Addr) : Prop := Exa Z h a "java/util/HashMap$EntrySet"
abbrev f_43 (Z : State) (h : Heap) (a : Addr) (v : Value) : Prop := Fld Z h a "java/util/HashMap$HashIterator" "this$0" "Ljava/util/HashMap;" v
abbrev f_44 (Z : State) (h : Heap) (a : Addr) (v : Value) : Prop := Fld Z h a "java/util/HashMap$HashIterator" "expectedModCount" "I" v
abbrev f_45 (Z : State) (h : Heap) (a : Addr) (v : Value) : Prop := Fld Z h a "java/util/HashMap$HashIterator" "next" "Ljava/util/HashMap$Node;" v
abbrev f_46 (Z : State) (h : Heap) (a : Addr) (v : Value) : Prop := Fld Z h a "java/util/HashMap$HashIterator" "current" "Ljava/util/HashMap$Node;" v
abbrev f_47 (Z : State) (h : Heap) (a : Addr) (v : Value) : Prop := Fld Z h a "java/util/HashMap$HashIterator" "index" "I" v
abbrev e_48 (Z : State) (h : Heap) (a : Addr) : Prop := Exa Z h a "java/util/HashMap$EntryIterator"
abbrev f_49 (Z : State) (h : Heap) (a : Addr) (v : Value) : Prop := Fld Z h a "org/tallyrole/core/IntTrie$1" "this$0" "Lorg/tallyrole/core/IntTrie;" v
abbrev f_50 (Z : State) (h : Heap) (a : Addr) (v : Value) : Prop := Fld Z h a "org/tallyrole/core/IntTrie$1" "next" "I" v
abbrev e_51 (Z : State) (h : Heap) (a : Addr) : Prop := Exa Z h a "org/tallyrole/core/IntTrie$1"
abbrev f_52 (Z : State) (h : Heap) (a : Addr) (v : Value) : Prop := Fld Z h a "org/tallyrole/core/Dependencies" "keys" "[I" v
abbrev f_53 (Z : State) (h : Heap) (a : Addr) (v : Value) : Prop := Fld Z h a "org/tallyrole/core/Dependencies" "words" "[J" v
abbrev e_54 (Z : State) (h : Heap) (a : Addr) : Prop := Exa Z h a "org/tallyrole/core/Dependencies"
abbrev s_55 (Z : State) : Nat := Jvm.RoadKit.slotOf Z "java/util/ArrayDeque" "head" "I"
abbrev s_56 (Z : State) : Nat := Jvm.RoadKit.slotOf Z "java/util/ArrayDeque" "elements" "[Ljava/lang/Object;"
abbrev s_57 (Z : State) : Nat := Jvm.RoadKit.slotOf Z "java/util/ArrayDeque" "tail" "I"
abbrev s_58 (Z : State) : Nat := Jvm.RoadKit.slotOf Z "java/util/HashMap" "table" "[Ljava/util/HashMap$Node;"
abbrev s_59 (Z : State) : Nat := Jvm.RoadKit.slotOf Z "java/util/HashMap" "loadFactor" "F"
abbrev s_60 (Z : State) : Nat := Jvm.RoadKit.slotOf Z "java/util/HashMap" "size" "I"
abbrev s_61 (Z : State) : Nat := Jvm.RoadKit.slotOf Z "java/util/HashMap" "modCount" "I"
abbrev s_62 (Z : State) : Nat := Jvm.RoadKit.slotOf Z "java/util/HashMap" "entrySet" "Ljava/util/Set;"
abbrev s_63 (Z : State) : Nat := Jvm.RoadKit.slotOf Z "java/util/ArrayList" "elementData" "[Ljava/lang/Object;"
abbrev s_64 (Z : State) : Nat := Jvm.RoadKit.slotOf Z "java/util/AbstractList" "modCount" "I"
abbrev s_65 (Z : State) : Nat := Jvm.RoadKit.slotOf Z "java/util/ArrayList" "size" "I"
abbrev s_66 (Z : State) : Nat := Jvm.RoadKit.slotOf Z "org/tallyrole/core/Graph$Node" "pending" "Ljava/util/Deque;"
abbrev s_67 (Z : State) : Nat := Jvm.RoadKit.slotOf Z "org/tallyrole/core/Graph$Node" "label" "Ljava/util/Map;"
abbrev s_68 (Z : State) : Nat := Jvm.RoadKit.slotOf Z "org/tallyrole/core/Graph$Node" "disjunctions" "Ljava/util/List;"
abbrev s_69 (Z : State) : Nat := Jvm.RoadKit.slotOf Z "org/tallyrole/core/Graph$Node" "successors" "Ljava/util/Map;"
abbrev s_70 (Z : State) : Nat := Jvm.RoadKit.slotOf Z "org/tallyrole/core/Graph$Node" "banned" "Ljava/util/Map;"
abbrev s_71 (Z : State) : Nat := Jvm.RoadKit.slotOf Z "org/tallyrole/core/Graph$Node" "distinct" "Lorg/tallyrole/core/IntTrie;"
abbrev s_72 (Z : State) : Nat := Jvm.RoadKit.slotOf Z "org/tallyrole/core/Graph$Node" "individuals" "Ljava/util/List;"
abbrev s_73 (Z : State) : Nat := Jvm.RoadKit.slotOf Z "org/tallyrole/core/Graph$Node" "generation" "Ljava/lang/Object;"
abbrev s_74 (Z : State) : Nat := Jvm.RoadKit.slotOf Z "org/tallyrole/core/IntTrie$Chunk" "mask" "I"
abbrev s_75 (Z : State) : Nat := Jvm.RoadKit.slotOf Z "org/tallyrole/core/IntTrie$Chunk" "slots" "[Ljava/lang/Object;"
abbrev s_76 (Z : State) : Nat := Jvm.RoadKit.slotOf Z "org/tallyrole/core/IntTrie$Chunk" "owner" "Ljava/lang/Object;"
abbrev s_77 (Z : State) : Nat := Jvm.RoadKit.slotOf Z "org/tallyrole/core/IntTrie" "level" "I"
abbrev s_78 (Z : State) : Nat := Jvm.RoadKit.slotOf Z "org/tallyrole/core/IntTrie" "root" "Lorg/tallyrole/core/IntTrie$Chunk;"
abbrev s_79 (Z : State) : Nat := Jvm.RoadKit.slotOf Z "org/tallyrole/core/Graph" "incoming" "Lorg/tallyrole/core/IntTrie;"
abbrev s_80 (Z : State) : Nat := Jvm.RoadKit.slotOf Z "org/tallyrole/core/Graph" "nodes" "Lorg/tallyrole/core/IntTrie;"
abbrev s_81 (Z : State) : Nat := Jvm.RoadKit.slotOf Z "org/tallyrole/core/Graph" "mayBeOpen" "Lorg/tallyrole/core/IntTrie;"
abbrev s_82 (Z : State) : Nat := Jvm.RoadKit.slotOf Z "org/tallyrole/core/Graph" "unsettled" "Lorg/tallyrole/core/IntTrie;"
abbrev s_83 (Z : State) : Nat := Jvm.RoadKit.slotOf Z "org/tallyrole/core/Graph" "generation" "Ljava/lang/Object;"
abbrev s_84 (Z : State) : Nat := Jvm.RoadKit.slotOf Z "org/tallyrole/core/Graph" "size" "I"
abbrev s_85 (Z : State) : Nat := Jvm.RoadKit.slotOf Z "org/tallyrole/core/Graph" "nominals" "Lorg/tallyrole/core/IntTrie;"
abbrev s_86 (Z : State) : Nat := Jvm.RoadKit.slotOf Z "org/tallyrole/core/Graph" "agenda" "Ljava/util/Deque;"
abbrev s_87 (Z : State) : Nat := Jvm.RoadKit.slotOf Z "org/tallyrole/core/Graph" "nominalNumbers" "Ljava/util/Map;"
abbrev s_88 (Z : State) : Nat := Jvm.RoadKit.slotOf Z "java/util/HashMap$HashIterator" "next" "Ljava/util/HashMap$Node;"
abbrev s_89 (Z : State) : Nat := Jvm.RoadKit.slotOf Z "java/util/HashMap$HashIterator" "this$0" "Ljava/util/HashMap;"
abbrev s_90 (Z : State) : Nat := Jvm.RoadKit.slotOf Z "java/util/HashMap$HashIterator" "current" "Ljava/util/HashMap$Node;"
abbrev s_91 (Z : State) : Nat := Jvm.RoadKit.slotOf Z "java/util/HashMap$HashIterator" "expectedModCount" "I"
abbrev s_92 (Z : State) : Nat := Jvm.RoadKit.slotOf Z "java/util/HashMap$HashIterator" "index" "I"
abbrev s_93 (Z : State) : Nat := Jvm.RoadKit.slotOf Z "org/tallyrole/core/IntTrie$1" "next" "I"
abbrev s_94 (Z : State) : Nat := Jvm.RoadKit.slotOf Z "org/tallyrole/core/IntTrie$1" "this$0" "Lorg/tallyrole/core/IntTrie;"
abbrev s_95 (Z : State) : Nat := Jvm.RoadKit.slotOf Z "org/tallyrole/core/Dependencies" "words" "[J"
abbrev s_96 (Z : State) : Nat := Jvm.RoadKit.slotOf Z "org/tallyrole/core/Dependencies" "keys" "[I"
abbrev own_HW (a0 : Array Value) (Z : State) : Prop := ∀ d ∈ tables_1, d.before a0 Z = true
section
variable {a0 : Array Value} {Z : State}
theorem sn_0 (hw : own_HW a0 Z) : s_55 Z ≠ s_56 Z := own_sl (Or.inl (own_w hw 254 rfl)) (Or.inl (own_w hw 46 rfl)) (by decide) (by decide) (by decide)
theorem sn_1 (hw : own_HW a0 Z) : s_57 Z ≠ s_56 Z := own_sl (Or.inl (own_w hw 256 rfl)) (Or.inl (own_w hw 46 rfl)) (by decide) (by decide) (by decide)
theorem sn_2 (hw : own_HW a0 Z) : s_58 Z ≠ s_59 Z := own_sl (Or.inl (own_w hw 337 rfl)) (Or.inr (own_w hw 64 rfl)) (by decide) (by decide) (by decide)
theorem sn_3 (hw : own_HW a0 Z) : s_60 Z ≠ s_59 Z := own_sl (Or.inl (own_w hw 385 rfl)) (Or.inr (own_w hw 64 rfl)) (by decide) (by decide) (by decide)
theorem sn_4 (hw : own_HW a0 Z) : s_61 Z ≠ s_59 Z := own_sl (Or.inl (own_w hw 333 rfl)) (Or.inr (own_w hw 64 rfl)) (by decide) (by decide) (by decide)
theorem sn_5 (hw : own_HW a0 Z) : s_62 Z ≠ s_59 Z := own_sl (Or.inl (own_w hw 289 rfl)) (Or.inr (own_w hw 64 rfl)) (by decide) (by decide) (by decide)
theorem sn_6 (hw : own_HW a0 Z) : s_63 Z ≠ s_64 Z := own_sl (Or.inl (own_w hw 124 rfl)) (Or.inl (own_w hw 121 rfl)) (by decide) (by decide) (by decide)
theorem sn_7 (hw : own_HW a0 Z) : s_65 Z ≠ s_64 Z := own_sl (Or.inl (own_w hw 369 rfl)) (Or.inl (own_w hw 121 rfl)) (by decide) (by decide) (by decide)
theorem sn_8 (hw : own_HW a0 Z) : s_65 Z ≠ s_63 Z := own_sl (Or.inl (own_w hw 369 rfl)) (Or.inl (own_w hw 124 rfl)) (by decide) (by decide) (by decide)
theorem sn_9 (hw : own_HW a0 Z) : s_66 Z ≠ s_67 Z := own_sl (Or.inr (own_w hw 105 rfl)) (Or.inr (own_w hw 101 rfl)) (by decide) (by decide) (by decide)
theorem sn_10 (hw : own_HW a0 Z) : s_68 Z ≠ s_67 Z := own_sl (Or.inr (own_w hw 126 rfl)) (Or.inr (own_w hw 101 rfl)) (by decide) (by decide) (by decide)
theorem sn_11 (hw : own_HW a0 Z) : s_69 Z ≠ s_67 Z := own_sl (Or.inr (own_w hw 128 rfl)) (Or.inr (own_w hw 101 rfl)) (by decide) (by decide) (by decide)
theorem sn_12 (hw : own_HW a0 Z) : s_70 Z ≠ s_67 Z := own_sl (Or.inr (own_w hw 130 rfl)) (Or.inr (own_w hw 101 rfl)) (by decide) (by decide) (by decide)
theorem sn_13 (hw : own_HW a0 Z) : s_71 Z ≠ s_67 Z := own_sl (Or.inl (own_w hw 133 rfl)) (Or.inr (own_w hw 101 rfl)) (by decide) (by decide) (by decide)
theorem sn_14 (hw : own_HW a0 Z) : s_72 Z ≠ s_67 Z := own_sl (Or.inr (own_w hw 135 rfl)) (Or.inr (own_w hw 101 rfl)) (by decide) (by decide) (by decide)
theorem sn_15 (hw : own_HW a0 Z) : s_73 Z ≠ s_67 Z := own_sl (Or.inr (own_w hw 137 rfl)) (Or.inr (own_w hw 101 rfl)) (by decide) (by decide) (by decide)
theorem sn_16 (hw : own_HW a0 Z) : s_68 Z ≠ s_66 Z := own_sl (Or.inr (own_w hw 126 rfl)) (Or.inr (own_w hw 105 rfl)) (by decide) (by decide) (by decide)
theorem sn_17 (hw : own_HW a0 Z) : s_69 Z ≠ s_66 Z := own_sl (Or.inr (own_w hw 128 rfl)) (Or.inr (own_w hw 105 rfl)) (by decide) (by decide) (by decide)
theorem sn_18 (hw : own_HW a0 Z) : s_70 Z ≠ s_66 Z := own_sl (Or.inr (own_w hw 130 rfl)) (Or.inr (own_w hw 105 rfl)) (by decide) (by decide) (by decide)
theorem sn_19 (hw : own_HW a0 Z) : s_71 Z ≠ s_66 Z := own_sl (Or.inl (own_w hw 133 rfl)) (Or.inr (own_w hw 105 rfl)) (by decide) (by decide) (by decide)
theorem sn_20 (hw : own_HW a0 Z) : s_72 Z ≠ s_66 Z := own_sl (Or.inr (own_w hw 135 rfl)) (Or.inr (own_w hw 105 rfl)) (by decide) (by decide) (by decide)
theorem sn_21 (hw : own_HW a0 Z) : s_73 Z ≠ s_66 Z := own_sl (Or.inr (own_w hw 137 rfl)) (Or.inr (own_w hw 105 rfl)) (by decide) (by decide) (by decide)
theorem sn_22 (hw : own_HW a0 Z) : s_69 Z ≠ s_68 Z := own_sl (Or.inr (own_w hw 128 rfl)) (Or.inr (own_w hw 126 rfl)) (by decide) (by decide) (by decide)
theorem sn_23 (hw : own_HW a0 Z) : s_70 Z ≠ s_68 Z := own_sl (Or.inr (own_w hw 130 rfl)) (Or.inr (own_w hw 126 rfl)) (by decide) (by decide) (by decide)
theorem sn_24 (hw : own_HW a0 Z) : s_71 Z ≠ s_68 Z := own_sl (Or.inl (own_w hw 133 rfl)) (Or.inr (own_w hw 126 rfl)) (by decide) (by decide) (by decide)
theorem sn_25 (hw : own_HW a0 Z) : s_72 Z ≠ s_68 Z := own_sl (Or.inr (own_w hw 135 rfl)) (Or.inr (own_w hw 126 rfl)) (by decide) (by decide) (by decide)
theorem sn_26 (hw : own_HW a0 Z) : s_73 Z ≠ s_68 Z := own_sl (Or.inr (own_w hw 137 rfl)) (Or.inr (own_w hw 126 rfl)) (by decide) (by decide) (by decide)
theorem sn_27 (hw : own_HW a0 Z) : s_70 Z ≠ s_69 Z := own_sl (Or.inr (own_w hw 130 rfl)) (Or.inr (own_w hw 128 rfl)) (by decide) (by decide) (by decide)
theorem sn_28 (hw : own_HW a0 Z) : s_71 Z ≠ s_69 Z := own_sl (Or.inl (own_w hw 133 rfl)) (Or.inr (own_w hw 128 rfl)) (by decide) (by decide) (by decide)
theorem sn_29 (hw : own_HW a0 Z) : s_72 Z ≠ s_69 Z := own_sl (Or.inr (own_w hw 135 rfl)) (Or.inr (own_w hw 128 rfl)) (by decide) (by decide) (by decide)
theorem sn_30 (hw : own_HW a0 Z) : s_73 Z ≠ s_69 Z := own_sl (Or.inr (own_w hw 137 rfl)) (Or.inr (own_w hw 128 rfl)) (by decide) (by decide) (by decide)
theorem sn_31 (hw : own_HW a0 Z) : s_71 Z ≠ s_70 Z := own_sl (Or.inl (own_w hw 133 rfl)) (Or.inr (own_w hw 130 rfl)) (by decide) (by decide) (by decide)
theorem sn_32 (hw : own_HW a0 Z) : s_72 Z ≠ s_70 Z := own_sl (Or.inr (own_w hw 135 rfl)) (Or.inr (own_w hw 130 rfl)) (by decide) (by decide) (by decide)
theorem sn_33 (hw : own_HW a0 Z) : s_73 Z ≠ s_70 Z := own_sl (Or.inr (own_w hw 137 rfl)) (Or.inr (own_w hw 130 rfl)) (by decide) (by decide) (by decide)
theorem sn_34 (hw : own_HW a0 Z) : s_72 Z ≠ s_71 Z := own_sl (Or.inr (own_w hw 135 rfl)) (Or.inl (own_w hw 133 rfl)) (by decide) (by decide) (by decide)
theorem sn_35 (hw : own_HW a0 Z) : s_73 Z ≠ s_71 Z := own_sl (Or.inr (own_w hw 137 rfl)) (Or.inl (own_w hw 133 rfl)) (by decide) (by decide) (by decide)
theorem sn_36 (hw : own_HW a0 Z) : s_73 Z ≠ s_72 Z := own_sl (Or.inr (own_w hw 137 rfl)) (Or.inr (own_w hw 135 rfl)) (by decide) (by decide) (by decide)
theorem sn_37 (hw : own_HW a0 Z) : s_74 Z ≠ s_75 Z := own_sl (Or.inl (own_w hw 171 rfl)) (Or.inl (own_w hw 162 rfl)) (by decide) (by decide) (by decide)
theorem sn_38 (hw : own_HW a0 Z) : s_76 Z ≠ s_75 Z := own_sl (Or.inr (own_w hw 164 rfl)) (Or.inl (own_w hw 162 rfl)) (by decide) (by decide) (by decide)
theorem sn_39 (hw : own_HW a0 Z) : s_74 Z ≠ s_76 Z := own_sl (Or.inl (own_w hw 171 rfl)) (Or.inr (own_w hw 164 rfl)) (by decide) (by decide) (by decide)
theorem sn_40 (hw : own_HW a0 Z) : s_77 Z ≠ s_78 Z := own_sl (Or.inr (own_w hw 148 rfl)) (Or.inr (own_w hw 85 rfl)) (by decide) (by decide) (by decide)
theorem sn_41 (hw : own_HW a0 Z) : s_79 Z ≠ s_80 Z := own_sl (Or.inl (own_w hw 18 rfl)) (Or.inl (own_w hw 16 rfl)) (by decide) (by decide) (by decide)
theorem sn_42 (hw : own_HW a0 Z) : s_81 Z ≠ s_80 Z := own_sl (Or.inl (own_w hw 20 rfl)) (Or.inl (own_w hw 16 rfl)) (by decide) (by decide) (by decide)
theorem sn_43 (hw : own_HW a0 Z) : s_82 Z ≠ s_80 Z := own_sl (Or.inl (own_w hw 22 rfl)) (Or.inl (own_w hw 16 rfl)) (by decide) (by decide) (by decide)
theorem sn_44 (hw : own_HW a0 Z) : s_83 Z ≠ s_80 Z := own_sl (Or.inl (own_w hw 29 rfl)) (Or.inl (own_w hw 16 rfl)) (by decide) (by decide) (by decide)
theorem sn_45 (hw : own_HW a0 Z) : s_84 Z ≠ s_80 Z := own_sl (Or.inl (own_w hw 73 rfl)) (Or.inl (own_w hw 16 rfl)) (by decide) (by decide) (by decide)
theorem sn_46 (hw : own_HW a0 Z) : s_85 Z ≠ s_80 Z := own_sl (Or.inl (own_w hw 24 rfl)) (Or.inl (own_w hw 16 rfl)) (by decide) (by decide) (by decide)
theorem sn_47 (hw : own_HW a0 Z) : s_86 Z ≠ s_80 Z := own_sl (Or.inr (own_w hw 48 rfl)) (Or.inl (own_w hw 16 rfl)) (by decide) (by decide) (by decide)
theorem sn_48 (hw : own_HW a0 Z) : s_87 Z ≠ s_80 Z := own_sl (Or.inl (own_w hw 66 rfl)) (Or.inl (own_w hw 16 rfl)) (by decide) (by decide) (by decide)
theorem sn_49 (hw : own_HW a0 Z) : s_81 Z ≠ s_79 Z := own_sl (Or.inl (own_w hw 20 rfl)) (Or.inl (own_w hw 18 rfl)) (by decide) (by decide) (by decide)
theorem sn_50 (hw : own_HW a0 Z) : s_82 Z ≠ s_79 Z := own_sl (Or.inl (own_w hw 22 rfl)) (Or.inl (own_w hw 18 rfl)) (by decide) (by decide) (by decide)
theorem sn_51 (hw : own_HW a0 Z) : s_83 Z ≠ s_79 Z := own_sl (Or.inl (own_w hw 29 rfl)) (Or.inl (own_w hw 18 rfl)) (by decide) (by decide) (by decide)
theorem sn_52 (hw : own_HW a0 Z) : s_84 Z ≠ s_79 Z := own_sl (Or.inl (own_w hw 73 rfl)) (Or.inl (own_w hw 18 rfl)) (by decide) (by decide) (by decide)
theorem sn_53 (hw : own_HW a0 Z) : s_85 Z ≠ s_79 Z := own_sl (Or.inl (own_w hw 24 rfl)) (Or.inl (own_w hw 18 rfl)) (by decide) (by decide) (by decide)
theorem sn_54 (hw : own_HW a0 Z) : s_86 Z ≠ s_79 Z := own_sl (Or.inr (own_w hw 48 rfl)) (Or.inl (own_w hw 18 rfl)) (by decide) (by decide) (by decide)
theorem sn_55 (hw : own_HW a0 Z) : s_87 Z ≠ s_79 Z := own_sl (Or.inl (own_w hw 66 rfl)) (Or.inl (own_w hw 18 rfl)) (by decide) (by decide) (by decide)
theorem sn_56 (hw : own_HW a0 Z) : s_82 Z ≠ s_81 Z := own_sl (Or.inl (own_w hw 22 rfl)) (Or.inl (own_w hw 20 rfl)) (by decide) (by decide) (by decide)
theorem sn_57 (hw : own_HW a0 Z) : s_83 Z ≠ s_81 Z := own_sl (Or.inl (own_w hw 29 rfl)) (Or.inl (own_w hw 20 rfl)) (by decide) (by decide) (by decide)
theorem sn_58 (hw : own_HW a0 Z) : s_84 Z ≠ s_81 Z := own_sl (Or.inl (own_w hw 73 rfl)) (Or.inl (own_w hw 20 rfl)) (by decide) (by decide) (by decide)
theorem sn_59 (hw : own_HW a0 Z) : s_85 Z ≠ s_81 Z := own_sl (Or.inl (own_w hw 24 rfl)) (Or.inl (own_w hw 20 rfl)) (by decide) (by decide) (by decide)
theorem sn_60 (hw : own_HW a0 Z) : s_86 Z ≠ s_81 Z := own_sl (Or.inr (own_w hw 48 rfl)) (Or.inl (own_w hw 20 rfl)) (by decide) (by decide) (by decide)
theorem sn_61 (hw : own_HW a0 Z) : s_87 Z ≠ s_81 Z := own_sl (Or.inl (own_w hw 66 rfl)) (Or.inl (own_w hw 20 rfl)) (by decide) (by decide) (by decide)
theorem sn_62 (hw : own_HW a0 Z) : s_83 Z ≠ s_82 Z := own_sl (Or.inl (own_w hw 29 rfl)) (Or.inl (own_w hw 22 rfl)) (by decide) (by decide) (by decide)
theorem sn_63 (hw : own_HW a0 Z) : s_84 Z ≠ s_82 Z := own_sl (Or.inl (own_w hw 73 rfl)) (Or.inl (own_w hw 22 rfl)) (by decide) (by decide) (by decide)
theorem sn_64 (hw : own_HW a0 Z) : s_85 Z ≠ s_82 Z := own_sl (Or.inl (own_w hw 24 rfl)) (Or.inl (own_w hw 22 rfl)) (by decide) (by decide) (by decide)
theorem sn_65 (hw : own_HW a0 Z) : s_86 Z ≠ s_82 Z := own_sl (Or.inr (own_w hw 48 rfl)) (Or.inl (own_w hw 22 rfl)) (by decide) (by decide) (by decide)
theorem sn_66 (hw : own_HW a0 Z) : s_87 Z ≠ s_82 Z := own_sl (Or.inl (own_w hw 66 rfl)) (Or.inl (own_w hw 22 rfl)) (by decide) (by decide) (by decide)
theorem sn_67 (hw : own_HW a0 Z) : s_83 Z ≠ s_85 Z := own_sl (Or.inl (own_w hw 29 rfl)) (Or.inl (own_w hw 24 rfl)) (by decide) (by decide) (by decide)
theorem sn_68 (hw : own_HW a0 Z) : s_84 Z ≠ s_85 Z := own_sl (Or.inl (own_w hw 73 rfl)) (Or.inl (own_w hw 24 rfl)) (by decide) (by decide) (by decide)
theorem sn_69 (hw : own_HW a0 Z) : s_86 Z ≠ s_85 Z := own_sl (Or.inr (own_w hw 48 rfl)) (Or.inl (own_w hw 24 rfl)) (by decide) (by decide) (by decide)
theorem sn_70 (hw : own_HW a0 Z) : s_87 Z ≠ s_85 Z := own_sl (Or.inl (own_w hw 66 rfl)) (Or.inl (own_w hw 24 rfl)) (by decide) (by decide) (by decide)
theorem sn_71 (hw : own_HW a0 Z) : s_84 Z ≠ s_83 Z := own_sl (Or.inl (own_w hw 73 rfl)) (Or.inl (own_w hw 29 rfl)) (by decide) (by decide) (by decide)
theorem sn_72 (hw : own_HW a0 Z) : s_86 Z ≠ s_83 Z := own_sl (Or.inr (own_w hw 48 rfl)) (Or.inl (own_w hw 29 rfl)) (by decide) (by decide) (by decide)
theorem sn_73 (hw : own_HW a0 Z) : s_87 Z ≠ s_83 Z := own_sl (Or.inl (own_w hw 66 rfl)) (Or.inl (own_w hw 29 rfl)) (by decide) (by decide) (by decide)
theorem sn_74 (hw : own_HW a0 Z) : s_84 Z ≠ s_86 Z := own_sl (Or.inl (own_w hw 73 rfl)) (Or.inr (own_w hw 48 rfl)) (by decide) (by decide) (by decide)
theorem sn_75 (hw : own_HW a0 Z) : s_87 Z ≠ s_86 Z := own_sl (Or.inl (own_w hw 66 rfl)) (Or.inr (own_w hw 48 rfl)) (by decide) (by decide) (by decide)
theorem sn_76 (hw : own_HW a0 Z) : s_84 Z ≠ s_87 Z := own_sl (Or.inl (own_w hw 73 rfl)) (Or.inl (own_w hw 66 rfl)) (by decide) (by decide) (by decide)
theorem sn_77 (hw : own_HW a0 Z) : s_58 Z ≠ s_62 Z := own_sl (Or.inl (own_w hw 337 rfl)) (Or.inl (own_w hw 289 rfl)) (by decide) (by decide) (by decide)
theorem sn_78 (hw : own_HW a0 Z) : s_60 Z ≠ s_62 Z := own_sl (Or.inl (own_w hw 385 rfl)) (Or.inl (own_w hw 289 rfl)) (by decide) (by decide) (by decide)
theorem sn_79 (hw : own_HW a0 Z) : s_61 Z ≠ s_62 Z := own_sl (Or.inl (own_w hw 333 rfl)) (Or.inl (own_w hw 289 rfl)) (by decide) (by decide) (by decide)
theorem sn_80 (hw : own_HW a0 Z) : s_88 Z ≠ s_89 Z := own_sl (Or.inl (own_w hw 339 rfl)) (Or.inr (own_w hw 330 rfl)) (by decide) (by decide) (by decide)
theorem sn_81 (hw : own_HW a0 Z) : s_90 Z ≠ s_89 Z := own_sl (Or.inl (own_w hw 341 rfl)) (Or.inr (own_w hw 330 rfl)) (by decide) (by decide) (by decide)
theorem sn_82 (hw : own_HW a0 Z) : s_91 Z ≠ s_89 Z := own_sl (Or.inl (own_w hw 335 rfl)) (Or.inr (own_w hw 330 rfl)) (by decide) (by decide) (by decide)
theorem sn_83 (hw : own_HW a0 Z) : s_92 Z ≠ s_89 Z := own_sl (Or.inl (own_w hw 343 rfl)) (Or.inr (own_w hw 330 rfl)) (by decide) (by decide) (by decide)
theorem sn_84 (hw : own_HW a0 Z) : s_88 Z ≠ s_91 Z := own_sl (Or.inl (own_w hw 339 rfl)) (Or.inl (own_w hw 335 rfl)) (by decide) (by decide) (by decide)
theorem sn_85 (hw : own_HW a0 Z) : s_90 Z ≠ s_91 Z := own_sl (Or.inl (own_w hw 341 rfl)) (Or.inl (own_w hw 335 rfl)) (by decide) (by decide) (by decide)
theorem sn_86 (hw : own_HW a0 Z) : s_92 Z ≠ s_91 Z := own_sl (Or.inl (own_w hw 343 rfl)) (Or.inl (own_w hw 335 rfl)) (by decide) (by decide) (by decide)
theorem sn_87 (hw : own_HW a0 Z) : s_90 Z ≠ s_88 Z := own_sl (Or.inl (own_w hw 341 rfl)) (Or.inl (own_w hw 339 rfl)) (by decide) (by decide) (by decide)
theorem sn_88 (hw : own_HW a0 Z) : s_92 Z ≠ s_88 Z := own_sl (Or.inl (own_w hw 343 rfl)) (Or.inl (own_w hw 339 rfl)) (by decide) (by decide) (by decide)
theorem sn_89 (hw : own_HW a0 Z) : s_92 Z ≠ s_90 Z := own_sl (Or.inl (own_w hw 343 rfl)) (Or.inl (own_w hw 341 rfl)) (by decide) (by decide) (by decide)
theorem sn_90 (hw : own_HW a0 Z) : s_93 Z ≠ s_94 Z := own_sl (Or.inl (own_w hw 428 rfl)) (Or.inr (own_w hw 424 rfl)) (by decide) (by decide) (by decide)
theorem sn_91 (hw : own_HW a0 Z) : s_95 Z ≠ s_96 Z := own_sl (Or.inl (own_w hw 236 rfl)) (Or.inl (own_w hw 232 rfl)) (by decide) (by decide) (by decide)
end
theorem Dc1 : ∀ x ∈ ([(0, .aload_n 0, 1), (1, .invokespecial 1, 3), (4, .aload_n 0, 1), (5, .invokestatic 7, 3), (8, .putfield 13, 3), (11, .aload_n 0, 1), (12, .invokestatic 7, 3), (15, .putfield 19, 3), (18, .aload_n 0, 1), (19, .invokestatic 7, 3), (22, .putfield 22, 3), (25, .aload_n 0, 1), (26, .invokestatic 7, 3), (29, .putfield 25, 3), (32, .aload_n 0, 1), (33, .invokestatic 7, 3), (36, .putfield 28, 3), (39, .aload_n 0, 1), (40, .new 2, 3), (43, .dup, 1), (44, .invokespecial 1, 3), (47, .putfield 31, 3), (50, .aload_n 0, 1), (51, .new 35, 3), (54, .dup, 1), (55, .invokespecial 37, 3), (58, .putfield 38, 3), (61, .aload_n 0, 1), (62, .new 42, 3), (65, .dup, 1), (66, .invokespecial 44, 3), (69, .putfield 45, 3), (72, .return_, 1)] : List (Nat × Instr × Nat)), decode prog_39_method_1_code x.1 = .ok x.2 := by decide +kernel
theorem Dc3 : ∀ x ∈ ([(0, .getstatic 17, 3), (3, .areturn, 1)] : List (Nat × Instr × Nat)), decode prog_45_method_2_code x.1 = .ok x.2 := by decide +kernel
theorem Dc4 : ∀ x ∈ ([(0, .aload_n 0, 1), (1, .invokespecial 42, 3), (4, .aload_n 0, 1), (5, .bipush 17, 2), (7, .anewarray 47, 3), (10, .putfield 3, 3), (13, .return_, 1)] : List (Nat × Instr × Nat)), decode jdk_21_method_3_code x.1 = .ok x.2 := by decide +kernel
theorem Dc5 : ∀ x ∈ ([(0, .aload_n 0, 1), (1, .invokespecial 1, 3), (4, .return_, 1)] : List (Nat × Instr × Nat)), decode jdk_22_method_1_code x.1 = .ok x.2 := by decide +kernel
theorem Dc6 : ∀ x ∈ ([(0, .aload_n 0, 1), (1, .invokespecial 43, 3), (4, .aload_n 0, 1), (5, .ldc 92, 2), (7, .putfield 81, 3), (10, .return_, 1)] : List (Nat × Instr × Nat)), decode jdk_69_method_7_code x.1 = .ok x.2 := by decide +kernel
theorem Dc7 : ∀ x ∈ ([(0, .aload_n 0, 1), (1, .invokespecial 1, 3), (4, .return_, 1)] : List (Nat × Instr × Nat)), decode jdk_71_method_1_code x.1 = .ok x.2 := by decide +kernel
theorem Dc8 : ∀ x ∈ ([(0, .aload_n 0, 1), (1, .getfield 49, 3), (4, .ireturn, 1)] : List (Nat × Instr × Nat)), decode prog_39_method_4_code x.1 = .ok x.2 := by decide +kernel
theorem Dc9 : ∀ x ∈ ([(0, .aload_n 0, 1), (1, .getfield 13, 3), (4, .iload_n 1, 1), (5, .invokevirtual 80, 3), (8, .checkcast 67, 3), (11, .areturn, 1)] : List (Nat × Instr × Nat)), decode prog_39_method_5_code x.1 = .ok x.2 := by decide +kernel
theorem Dc10 : ∀ x ∈ ([(0, .aload_n 0, 1), (1, .getfield 9, 3), (4, .ifnull 18, 3), (22, .aconst_null, 1), (23, .areturn, 1), (7, .iload_n 1, 1), (8, .ifCond .lt 14, 3), (11, .iload_n 1, 1), (12, .aload_n 0, 1), (13, .getfield 13, 3), (16, .iushr, 1), (17, .bipush 31, 2), (19, .if_icmp .le 5, 3), (24, .aload_n 0, 1), (25, .getfield 9, 3), (28, .astore_n 2, 1), (29, .aload_n 0, 1), (30, .getfield 13, 3), (33, .istore_n 3, 1), (34, .aload_n 2, 1), (35, .ifnull 27, 3), (38, .iload_n 3, 1), (39, .ifCond .lt 23, 3), (42, .aload_n 2, 1), (43, .checkcast 21, 3), (46, .iload_n 1, 1), (47, .iload_n 3, 1), (48, .iushr, 1), (49, .bipush 31, 2), (51, .iand, 1), (52, .invokevirtual 23, 3), (55, .astore_n 2, 1), (56, .iinc 3 (-5), 3), (59, .goto (-25), 3), (62, .aload_n 2, 1), (63, .areturn, 1)] : List (Nat × Instr × Nat)), decode prog_45_method_3_code x.1 = .ok x.2 := by decide +kernel
theorem Dc11 : ∀ x ∈ ([(0, .aload_n 0, 1), (1, .dup, 1), (2, .getfield 49, 3), (5, .dup_x1, 1), (6, .iconst 1, 1), (7, .iadd, 1), (8, .putfield 49, 3), (11, .istore_n 1, 1), (12, .aload_n 0, 1), (13, .aload_n 0, 1), (14, .getfield 13, 3), (17, .iload_n 1, 1), (18, .new 67, 3), (21, .dup, 1), (22, .aload_n 0, 1), (23, .getfield 31, 3), (26, .invokespecial 69, 3), (29, .aload_n 0, 1), (30, .getfield 31, 3), (33, .invokevirtual 72, 3), (36, .putfield 13, 3), (39, .aload_n 0, 1), (40, .iload_n 1, 1), (41, .invokevirtual 76, 3), (44, .iload_n 1, 1), (45, .ireturn, 1)] : List (Nat × Instr × Nat)), decode prog_39_method_3_code x.1 = .ok x.2 := by decide +kernel
theorem Dc12 : ∀ x ∈ ([(0, .aload_n 0, 1), (1, .invokespecial 1, 3), (4, .aload_n 0, 1), (5, .new 7, 3), (8, .dup, 1), (9, .invokespecial 9, 3), (12, .putfield 10, 3), (15, .aload_n 0, 1), (16, .new 16, 3), (19, .dup, 1), (20, .invokespecial 18, 3), (23, .putfield 19, 3), (26, .aload_n 0, 1), (27, .new 23, 3), (30, .dup, 1), (31, .invokespecial 25, 3), (34, .putfield 26, 3), (37, .aload_n 0, 1), (38, .new 7, 3), (41, .dup, 1), (42, .invokespecial 9, 3), (45, .putfield 30, 3), (48, .aload_n 0, 1), (49, .new 7, 3), (52, .dup, 1), (53, .invokespecial 9, 3), (56, .putfield 33, 3), (59, .aload_n 0, 1), (60, .invokestatic 36, 3), (63, .putfield 42, 3), (66, .aload_n 0, 1), (67, .new 23, 3), (70, .dup, 1), (71, .invokespecial 25, 3), (74, .putfield 46, 3), (77, .aload_n 0, 1), (78, .aload_n 1, 1), (79, .putfield 49, 3), (82, .return_, 1)] : List (Nat × Instr × Nat)), decode prog_42_method_1_code x.1 = .ok x.2 := by decide +kernel
theorem Dc13 : ∀ x ∈ ([(0, .aload_n 0, 1), (1, .invokespecial 1, 3), (4, .aload_n 0, 1), (5, .getstatic 39, 3), (8, .putfield 9, 3), (11, .return_, 1)] : List (Nat × Instr × Nat)), decode jdk_38_method_2_code x.1 = .ok x.2 := by decide +kernel
theorem Dc14 : ∀ x ∈ ([(0, .aload_n 0, 1), (1, .invokespecial 1, 3), (4, .aload_n 0, 1), (5, .iconst 0, 1), (6, .putfield 7, 3), (9, .return_, 1)] : List (Nat × Instr × Nat)), decode jdk_39_method_1_code x.1 = .ok x.2 := by decide +kernel
theorem Dc15 : ∀ x ∈ ([(0, .aload_n 2, 1), (1, .invokestatic 30, 3), (4, .pop, 1), (5, .iload_n 1, 1), (6, .ifCond .ge 17, 3), (23, .aload_n 0, 1), (24, .getfield 9, 3), (27, .astore 4, 2), (29, .aload_n 0, 1), (30, .getfield 13, 3), (33, .istore 5, 2), (35, .aload 4, 2), (37, .ifnonnull 34, 3), (40, .iconst 0, 1), (41, .istore 5, 2), (43, .iload_n 1, 1), (44, .iload 5, 2), (46, .iushr, 1), (47, .bipush 31, 2), (49, .if_icmp .le 9, 3), (58, .iload_n 1, 1), (59, .iload 5, 2), (61, .aload_n 2, 1), (62, .aload_n 3, 1), (63, .invokestatic 45, 3), (66, .astore 4, 2), (68, .goto 53, 3), (121, .aload 4, 2), (123, .aload_n 0, 1), (124, .getfield 9, 3), (127, .if_acmp .ne 7, 3), (134, .new 1, 3), (137, .dup, 1), (138, .aload 4, 2), (140, .iload 5, 2), (142, .invokespecial 60, 3), (145, .areturn, 1), (71, .iload_n 1, 1), (72, .iload 5, 2), (74, .iushr, 1), (75, .bipush 31, 2), (77, .if_icmp .le 32, 3), (109, .aload 4, 2), (111, .iload 5, 2), (113, .iload_n 1, 1), (114, .aload_n 2, 1), (115, .aload_n 3, 1), (116, .invokestatic 56, 3), (119, .astore 4, 2), (130, .aload_n 0, 1), (131, .goto 14, 3)] : List (Nat × Instr × Nat)), decode prog_45_method_6_code x.1 = .ok x.2 := by decide +kernel
theorem Dc16 : ∀ x ∈ ([(0, .aload_n 0, 1), (1, .ifnonnull 11, 3), (12, .aload_n 0, 1), (13, .areturn, 1)] : List (Nat × Instr × Nat)), decode jdk_31_method_10_code x.1 = .ok x.2 := by decide +kernel
theorem Dc17 : ∀ x ∈ ([(0, .iload_n 1, 1), (1, .ifCond .ne 7, 3), (4, .aload_n 2, 1), (5, .goto 12, 3), (17, .astore 4, 2), (19, .new 21, 3), (22, .dup, 1), (23, .aload_n 3, 1), (24, .invokespecial 49, 3), (27, .iload_n 0, 1), (28, .iload_n 1, 1), (29, .iushr, 1), (30, .bipush 31, 2), (32, .iand, 1), (33, .aload 4, 2), (35, .invokevirtual 52, 3), (38, .areturn, 1)] : List (Nat × Instr × Nat)), decode prog_45_method_11_code x.1 = .ok x.2 := by decide +kernel
theorem Dc18 : ∀ x ∈ ([(0, .aload_n 0, 1), (1, .invokespecial 1, 3), (4, .aload_n 0, 1), (5, .getstatic 7, 3), (8, .putfield 13, 3), (11, .aload_n 0, 1), (12, .aload_n 1, 1), (13, .putfield 16, 3), (16, .return_, 1)] : List (Nat × Instr × Nat)), decode prog_47_method_1_code x.1 = .ok x.2 := by decide +kernel
theorem Dc19 : ∀ x ∈ ([(0, .iconst 1, 1), (1, .iload_n 1, 1), (2, .ishl, 1), (3, .istore_n 3, 1), (4, .aload_n 0, 1), (5, .getfield 20, 3), (8, .iload_n 3, 1), (9, .iconst 1, 1), (10, .isub, 1), (11, .iand, 1), (12, .invokestatic 24, 3), (15, .istore 4, 2), (17, .aload_n 0, 1), (18, .getfield 20, 3), (21, .iload_n 3, 1), (22, .iand, 1), (23, .ifCond .eq 7, 3), (30, .iconst 0, 1), (31, .istore 5, 2), (33, .iload 5, 2), (35, .ifCond .eq 18, 3), (53, .iload 5, 2), (55, .ifCond .eq 70, 3), (125, .aload_n 2, 1), (126, .ifnull 73, 3), (129, .aload_n 0, 1), (130, .getfield 13, 3), (133, .arraylength, 1), (134, .iconst 1, 1), (135, .iadd, 1), (136, .anewarray 2, 3), (139, .astore 6, 2), (141, .aload_n 0, 1), (142, .getfield 13, 3), (145, .iconst 0, 1), (146, .aload 6, 2), (148, .iconst 0, 1), (149, .iload 4, 2), (151, .invokestatic 38, 3), (154, .aload 6, 2), (156, .iload 4, 2), (158, .aload_n 2, 1), (159, .aastore, 1), (160, .aload_n 0, 1), (161, .getfield 13, 3), (164, .iload 4, 2), (166, .aload 6, 2), (168, .iload 4, 2), (170, .iconst 1, 1), (171, .iadd, 1), (172, .aload_n 0, 1), (173, .getfield 13, 3), (176, .arraylength, 1), (177, .iload 4, 2), (179, .isub, 1), (180, .invokestatic 38, 3), (183, .aload_n 0, 1), (184, .aload 6, 2), (186, .putfield 13, 3), (189, .aload_n 0, 1), (190, .dup, 1), (191, .getfield 20, 3), (194, .iload_n 3, 1), (195, .ior, 1), (196, .putfield 20, 3), (199, .aload_n 0, 1), (200, .areturn, 1), (26, .iconst 1, 1), (27, .goto 4, 3), (38, .aload_n 2, 1), (39, .ifnull 14, 3), (58, .aload_n 0, 1), (59, .getfield 13, 3), (62, .arraylength, 1), (63, .iconst 1, 1), (64, .isub, 1), (65, .anewarray 2, 3), (68, .astore 6, 2), (70, .aload_n 0, 1), (71, .getfield 13, 3), (74, .iconst 0, 1), (75, .aload 6, 2), (77, .iconst 0, 1), (78, .iload 4, 2), (80, .invokestatic 38, 3), (83, .aload_n 0, 1), (84, .getfield 13, 3), (87, .iload 4, 2), (89, .iconst 1, 1), (90, .iadd, 1), (91, .aload 6, 2), (93, .iload 4, 2), (95, .aload 6, 2), (97, .arraylength, 1), (98, .iload 4, 2), (100, .isub, 1), (101, .invokestatic 38, 3), (104, .aload_n 0, 1), (105, .aload 6, 2), (107, .putfield 13, 3), (110, .aload_n 0, 1), (111, .dup, 1), (112, .getfield 20, 3), (115, .iload_n 3, 1), (116, .iconst (-1), 1), (117, .ixor, 1), (118, .iand, 1), (119, .putfield 20, 3), (122, .goto 77, 3)] : List (Nat × Instr × Nat)), decode prog_47_method_4_code x.1 = .ok x.2 := by decide +kernel
theorem Dc20 : ∀ x ∈ ([(0, .iload_n 0, 1), (1, .iload_n 0, 1), (2, .iconst 1, 1), (3, .iushr, 1), (4, .ldc_w 265, 3), (7, .iand, 1), (8, .isub, 1), (9, .istore_n 0, 1), (10, .iload_n 0, 1), (11, .ldc_w 266, 3), (14, .iand, 1), (15, .iload_n 0, 1), (16, .iconst 2, 1), (17, .iushr, 1), (18, .ldc_w 266, 3), (21, .iand, 1), (22, .iadd, 1), (23, .istore_n 0, 1), (24, .iload_n 0, 1), (25, .iload_n 0, 1), (26, .iconst 4, 1), (27, .iushr, 1), (28, .iadd, 1), (29, .ldc_w 267, 3), (32, .iand, 1), (33, .istore_n 0, 1), (34, .iload_n 0, 1), (35, .iload_n 0, 1), (36, .bipush 8, 2), (38, .iushr, 1), (39, .iadd, 1), (40, .istore_n 0, 1), (41, .iload_n 0, 1), (42, .iload_n 0, 1), (43, .bipush 16, 2), (45, .iushr, 1), (46, .iadd, 1), (47, .istore_n 0, 1), (48, .iload_n 0, 1), (49, .bipush 63, 2), (51, .iand, 1), (52, .ireturn, 1)] : List (Nat × Instr × Nat)), decode jdk_33_method_49_code x.1 = .ok x.2 := by decide +kernel
theorem Dc21 : ∀ x ∈ ([(0, .aload_n 0, 1), (1, .invokespecial 3, 3), (4, .aload_n 0, 1), (5, .aload_n 1, 1), (6, .putfield 9, 3), (9, .aload_n 0, 1), (10, .iload_n 2, 1), (11, .putfield 13, 3), (14, .return_, 1)] : List (Nat × Instr × Nat)), decode prog_45_method_1_code x.1 = .ok x.2 := by decide +kernel
theorem Dc22 : ∀ x ∈ ([(0, .aload_n 0, 1), (1, .getfield 25, 3), (4, .iload_n 1, 1), (5, .invokevirtual 115, 3), (8, .ifCond .ne 23, 3), (11, .aload_n 0, 1), (12, .aload_n 0, 1), (13, .getfield 25, 3), (16, .iload_n 1, 1), (17, .iconst 1, 1), (18, .invokestatic 118, 3), (21, .aload_n 0, 1), (22, .getfield 31, 3), (25, .invokevirtual 72, 3), (28, .putfield 25, 3), (31, .return_, 1)] : List (Nat × Instr × Nat)), decode prog_39_method_28_code x.1 = .ok x.2 := by decide +kernel
theorem Dc23 : ∀ x ∈ ([(0, .aload_n 0, 1), (1, .iload_n 1, 1), (2, .invokevirtual 27, 3), (5, .ifnull 7, 3), (12, .iconst 0, 1), (13, .ireturn, 1), (8, .iconst 1, 1), (9, .goto 4, 3)] : List (Nat × Instr × Nat)), decode prog_45_method_5_code x.1 = .ok x.2 := by decide +kernel
theorem Dc24 : ∀ x ∈ ([(0, .iload_n 0, 1), (1, .ifCond .eq 9, 3), (4, .getstatic 27, 3), (7, .goto 6, 3), (13, .areturn, 1)] : List (Nat × Instr × Nat)), decode jdk_2055_method_5_code x.1 = .ok x.2 := by decide +kernel
theorem Dc25 : ∀ x ∈ ([(0, .iload_n 2, 1), (1, .iload_n 1, 1), (2, .iushr, 1), (3, .bipush 31, 2), (5, .iand, 1), (6, .istore 5, 2), (8, .aload_n 0, 1), (9, .iload 5, 2), (11, .invokevirtual 23, 3), (14, .astore 6, 2), (16, .iload_n 1, 1), (17, .ifCond .ne 9, 3), (20, .aload_n 3, 1), (21, .astore 7, 2), (23, .goto 40, 3), (63, .aload 7, 2), (65, .aload 6, 2), (67, .if_acmp .ne 7, 3), (74, .aload_n 0, 1), (75, .aload 4, 2), (77, .invokevirtual 83, 3), (80, .iload 5, 2), (82, .aload 7, 2), (84, .invokevirtual 52, 3), (87, .areturn, 1)] : List (Nat × Instr × Nat)), decode prog_45_method_10_code x.1 = .ok x.2 := by decide +kernel
theorem Dc26 : ∀ x ∈ ([(0, .iconst 1, 1), (1, .iload_n 1, 1), (2, .ishl, 1), (3, .istore_n 2, 1), (4, .aload_n 0, 1), (5, .getfield 20, 3), (8, .iload_n 2, 1), (9, .iand, 1), (10, .ifCond .ne 7, 3), (17, .aload_n 0, 1), (18, .getfield 13, 3), (21, .aload_n 0, 1), (22, .getfield 20, 3), (25, .iload_n 2, 1), (26, .iconst 1, 1), (27, .isub, 1), (28, .iand, 1), (29, .invokestatic 24, 3), (32, .aaload, 1), (33, .areturn, 1), (13, .aconst_null, 1), (14, .goto 19, 3)] : List (Nat × Instr × Nat)), decode prog_47_method_2_code x.1 = .ok x.2 := by decide +kernel
theorem Dc27 : ∀ x ∈ ([(0, .aload_n 0, 1), (1, .astore_n 2, 1), (2, .aload_n 0, 1), (3, .getfield 16, 3), (6, .aload_n 1, 1), (7, .if_acmp .eq 34, 3), (41, .aload_n 2, 1), (42, .areturn, 1)] : List (Nat × Instr × Nat)), decode prog_47_method_3_code x.1 = .ok x.2 := by decide +kernel
theorem Dc28 : ∀ x ∈ ([(0, .aload_n 0, 1), (1, .invokespecial 1, 3), (4, .aload_n 0, 1), (5, .getstatic 7, 3), (8, .putfield 13, 3), (11, .aload_n 0, 1), (12, .getstatic 16, 3), (15, .putfield 20, 3), (18, .return_, 1)] : List (Nat × Instr × Nat)), decode prog_36_method_1_code x.1 = .ok x.2 := by decide +kernel
theorem Dc29 : ∀ x ∈ ([(0, .aload_n 0, 1), (1, .getfield 13, 3), (4, .iload_n 1, 1), (5, .invokevirtual 80, 3), (8, .checkcast 67, 3), (11, .astore 4, 2), (13, .aload 4, 2), (15, .getfield 97, 3), (18, .invokeinterface 100 1, 5), (23, .ifCond .eq 12, 3), (26, .aload_n 0, 1), (27, .iload_n 1, 1), (28, .iload_n 2, 1), (29, .invokevirtual 260, 3), (32, .ifnull 18, 3), (50, .aload_n 0, 1), (51, .aload_n 0, 1), (52, .getfield 13, 3), (55, .iload_n 1, 1), (56, .aload_n 0, 1), (57, .getfield 31, 3), (60, .invokevirtual 152, 3), (63, .putfield 13, 3), (66, .aload_n 0, 1), (67, .aload_n 0, 1), (68, .getfield 22, 3), (71, .iload_n 1, 1), (72, .aload_n 0, 1), (73, .getfield 31, 3), (76, .invokevirtual 152, 3), (79, .putfield 22, 3), (82, .aload_n 0, 1), (83, .aload_n 0, 1), (84, .getfield 25, 3), (87, .iload_n 1, 1), (88, .aload_n 0, 1), (89, .getfield 31, 3), (92, .invokevirtual 152, 3), (95, .putfield 25, 3), (98, .aload 4, 2), (100, .getfield 84, 3), (103, .invokeinterface 273 1, 5), (108, .invokeinterface 277 1, 5), (113, .astore 5, 2), (115, .aload 5, 2), (117, .invokeinterface 188 1, 5), (122, .ifCond .eq 47, 3), (169, .aload 4, 2), (171, .getfield 248, 3), (174, .invokevirtual 286, 3), (177, .ifCond .eq 16, 3), (180, .aload 4, 2), (182, .getfield 168, 3), (185, .invokeinterface 287 1, 5), (190, .ifCond .ne 178, 3), (368, .new 294, 3), (371, .dup, 1), (372, .invokespecial 296, 3), (375, .astore 5, 2), (377, .new 294, 3), (380, .dup, 1), (381, .invokespecial 296, 3), (384, .astore 6, 2), (386, .aload 4, 2), (388, .getfield 199, 3), (391, .iload_n 1, 1), (392, .iload_n 2, 1), (393, .aload_n 3, 1), (394, .aload 5, 2), (396, .invokedynamic 297, 5), (401, .invokeinterface 301 2, 5), (406, .aload 4, 2), (408, .getfield 241, 3), (411, .iload_n 1, 1), (412, .iload_n 2, 1), (413, .aload_n 3, 1), (414, .aload 6, 2), (416, .invokedynamic 305, 5), (421, .invokeinterface 301 2, 5), (426, .aload_n 0, 1), (427, .getfield 19, 3), (430, .iload_n 1, 1), (431, .invokevirtual 80, 3), (434, .checkcast 8, 3), (437, .invokestatic 7, 3), (440, .invokestatic 306, 3), (443, .checkcast 8, 3), (446, .astore 7, 2), (448, .aload 7, 2), (450, .invokevirtual 178, 3), (453, .invokeinterface 182 1, 5), (458, .astore 8, 2), (460, .aload 8, 2), (462, .invokeinterface 188 1, 5), (467, .ifCond .eq 72, 3), (539, .aload 6, 2), (541, .aload_n 0, 1), (542, .invokedynamic 320, 5), (547, .invokeinterface 323 2, 5), (552, .aload 5, 2), (554, .areturn, 1)] : List (Nat × Instr × Nat)), decode prog_39_method_24_code x.1 = .ok x.2 := by decide +kernel
theorem Dc30 : ∀ x ∈ ([(0, .aload_n 0, 1), (1, .getfield 24, 3), (4, .aload_n 0, 1), (5, .getfield 20, 3), (8, .if_icmp .ne 7, 3), (11, .iconst 1, 1), (12, .goto 4, 3), (16, .ireturn, 1)] : List (Nat × Instr × Nat)), decode jdk_21_method_38_code x.1 = .ok x.2 := by decide +kernel
theorem Dc31 : ∀ x ∈ ([(0, .aload_n 0, 1), (1, .getfield 13, 3), (4, .iload_n 1, 1), (5, .invokevirtual 80, 3), (8, .checkcast 67, 3), (11, .getfield 248, 3), (14, .astore_n 3, 1), (15, .aload_n 0, 1), (16, .getfield 13, 3), (19, .iload_n 2, 1), (20, .invokevirtual 80, 3), (23, .checkcast 67, 3), (26, .getfield 248, 3), (29, .astore 4, 2), (31, .aload_n 3, 1), (32, .iconst 0, 1), (33, .invokevirtual 144, 3), (36, .istore 5, 2), (38, .iload 5, 2), (40, .ifCond .ge 7, 3), (43, .iconst (-1), 1), (44, .goto 10, 3), (54, .istore 6, 2), (56, .iload 5, 2), (58, .ifCond .lt 45, 3), (103, .iload 5, 2), (105, .ifCond .lt 35, 3), (140, .aconst_null, 1), (141, .areturn, 1)] : List (Nat × Instr × Nat)), decode prog_39_method_23_code x.1 = .ok x.2 := by decide +kernel
theorem Dc32 : ∀ x ∈ ([(0, .iconst (-1), 1), (1, .istore_n 2, 1), (2, .aload_n 0, 1), (3, .getfield 9, 3), (6, .ifnull 32, 3), (38, .iload_n 2, 1), (39, .ireturn, 1)] : List (Nat × Instr × Nat)), decode prog_45_method_8_code x.1 = .ok x.2 := by decide +kernel
theorem Dc33 : ∀ x ∈ ([(0, .aload_n 0, 1), (1, .astore_n 3, 1), (2, .aload_n 0, 1), (3, .iload_n 1, 1), (4, .invokevirtual 63, 3), (7, .ifCond .eq 53, 3), (10, .aload_n 0, 1), (11, .getfield 9, 3), (14, .aload_n 0, 1), (15, .getfield 13, 3), (18, .iload_n 1, 1), (19, .aload_n 2, 1), (20, .invokestatic 67, 3), (23, .astore 4, 2), (25, .aload 4, 2), (27, .ifnonnull 10, 3), (37, .aload 4, 2), (39, .aload_n 0, 1), (40, .getfield 9, 3), (43, .if_acmp .eq 17, 3), (60, .aload_n 3, 1), (61, .areturn, 1)] : List (Nat × Instr × Nat)), decode prog_45_method_7_code x.1 = .ok x.2 := by decide +kernel
theorem Dc34 : ∀ x ∈ ([(0, .iload_n 2, 1), (1, .iload_n 1, 1), (2, .iushr, 1), (3, .bipush 31, 2), (5, .iand, 1), (6, .istore 4, 2), (8, .aload_n 0, 1), (9, .iload 4, 2), (11, .invokevirtual 23, 3), (14, .astore 5, 2), (16, .iload_n 1, 1), (17, .ifCond .ne 7, 3), (20, .aconst_null, 1), (21, .goto 16, 3), (37, .astore 6, 2), (39, .aload_n 0, 1), (40, .astore 7, 2), (42, .aload 6, 2), (44, .ifnonnull 20, 3), (47, .aload_n 0, 1), (48, .getfield 87, 3), (51, .iconst 1, 1), (52, .iload 4, 2), (54, .ishl, 1), (55, .if_icmp .ne 9, 3), (64, .aload 6, 2), (66, .aload 5, 2), (68, .if_acmp .eq 17, 3), (71, .aload_n 0, 1), (72, .aload_n 3, 1), (73, .invokevirtual 83, 3), (76, .iload 4, 2), (78, .aload 6, 2), (80, .invokevirtual 52, 3), (83, .astore 7, 2), (85, .aload 7, 2), (87, .areturn, 1)] : List (Nat × Instr × Nat)), decode prog_45_method_12_code x.1 = .ok x.2 := by decide +kernel
theorem Dc35 : ∀ x ∈ ([(0, .aload_n 0, 1), (1, .getfield 266, 3), (4, .dup, 1), (5, .astore_n 1, 1), (6, .ifnonnull 19, 3), (9, .aload_n 0, 1), (10, .new 268, 3), (13, .dup, 1), (14, .aload_n 0, 1), (15, .invokespecial 270, 3), (18, .dup_x1, 1), (19, .putfield 266, 3), (22, .goto 4, 3), (26, .areturn, 1)] : List (Nat × Instr × Nat)), decode jdk_69_method_29_code x.1 = .ok x.2 := by decide +kernel
theorem Dc36 : ∀ x ∈ ([(0, .aload_n 0, 1), (1, .aload_n 1, 1), (2, .putfield 1, 3), (5, .aload_n 0, 1), (6, .invokespecial 7, 3), (9, .return_, 1)] : List (Nat × Instr × Nat)), decode jdk_111_method_1_code x.1 = .ok x.2 := by decide +kernel
theorem Dc37 : ∀ x ∈ ([(0, .aload_n 0, 1), (1, .invokespecial 1, 3), (4, .return_, 1)] : List (Nat × Instr × Nat)), decode jdk_91_method_1_code x.1 = .ok x.2 := by decide +kernel
theorem Dc38 : ∀ x ∈ ([(0, .new 22, 3), (3, .dup, 1), (4, .aload_n 0, 1), (5, .getfield 1, 3), (8, .invokespecial 24, 3), (11, .areturn, 1)] : List (Nat × Instr × Nat)), decode jdk_111_method_4_code x.1 = .ok x.2 := by decide +kernel
theorem Dc39 : ∀ x ∈ ([(0, .aload_n 0, 1), (1, .aload_n 1, 1), (2, .invokespecial 1, 3), (5, .return_, 1)] : List (Nat × Instr × Nat)), decode jdk_142_method_1_code x.1 = .ok x.2 := by decide +kernel
theorem Dc40 : ∀ x ∈ ([(0, .aload_n 0, 1), (1, .aload_n 1, 1), (2, .putfield 1, 3), (5, .aload_n 0, 1), (6, .invokespecial 7, 3), (9, .aload_n 0, 1), (10, .aload_n 1, 1), (11, .getfield 13, 3), (14, .putfield 19, 3), (17, .aload_n 1, 1), (18, .getfield 22, 3), (21, .astore_n 2, 1), (22, .aload_n 0, 1), (23, .aload_n 0, 1), (24, .aconst_null, 1), (25, .dup_x1, 1), (26, .putfield 26, 3), (29, .putfield 30, 3), (32, .aload_n 0, 1), (33, .iconst 0, 1), (34, .putfield 33, 3), (37, .aload_n 2, 1), (38, .ifnull 40, 3), (78, .return_, 1)] : List (Nat × Instr × Nat)), decode jdk_99_method_1_code x.1 = .ok x.2 := by decide +kernel
theorem Dc41 : ∀ x ∈ ([(0, .aload_n 0, 1), (1, .getfield 26, 3), (4, .ifnull 7, 3), (11, .iconst 0, 1), (12, .ireturn, 1)] : List (Nat × Instr × Nat)), decode jdk_99_method_2_code x.1 = .ok x.2 := by decide +kernel
theorem Dc42 : ∀ x ∈ ([(0, .aload_n 0, 1), (1, .getfield 9, 3), (4, .ifnonnull 7, 3), (7, .iconst 1, 1), (8, .goto 4, 3), (12, .ireturn, 1)] : List (Nat × Instr × Nat)), decode prog_45_method_4_code x.1 = .ok x.2 := by decide +kernel
theorem Dc43 : ∀ x ∈ ([(0, .aload_n 0, 1), (1, .getfield 48, 3), (4, .ifCond .ne 7, 3), (7, .iconst 1, 1), (8, .goto 4, 3), (12, .ireturn, 1)] : List (Nat × Instr × Nat)), decode jdk_38_method_9_code x.1 = .ok x.2 := by decide +kernel
theorem Dc44 : ∀ x ∈ ([(0, .aload_n 1, 1), (1, .ifnonnull 11, 3), (12, .aload_n 0, 1), (13, .getfield 156, 3), (16, .ifCond .le 95, 3), (111, .return_, 1)] : List (Nat × Instr × Nat)), decode jdk_69_method_39_code x.1 = .ok x.2 := by decide +kernel
theorem Dc45 : ∀ x ∈ ([(0, .aload_n 0, 1), (1, .ifnull 7, 3), (8, .aload_n 1, 1), (9, .ldc 90, 2), (11, .invokestatic 92, 3), (14, .areturn, 1)] : List (Nat × Instr × Nat)), decode jdk_31_method_14_code x.1 = .ok x.2 := by decide +kernel
theorem Dc46 : ∀ x ∈ ([(0, .aload_n 0, 1), (1, .ifnonnull 12, 3), (13, .aload_n 0, 1), (14, .areturn, 1)] : List (Nat × Instr × Nat)), decode jdk_31_method_11_code x.1 = .ok x.2 := by decide +kernel
theorem Dc47 : ∀ x ∈ ([(0, .aload_n 0, 1), (1, .invokedynamic 79, 5), (6, .areturn, 1)] : List (Nat × Instr × Nat)), decode prog_45_method_9_code x.1 = .ok x.2 := by decide +kernel
theorem Dc48 : ∀ x ∈ ([(0, .new 102, 3), (3, .dup, 1), (4, .aload_n 0, 1), (5, .invokespecial 104, 3), (8, .areturn, 1)] : List (Nat × Instr × Nat)), decode prog_45_method_14_code x.1 = .ok x.2 := by decide +kernel
theorem Dc49 : ∀ x ∈ ([(0, .aload_n 0, 1), (1, .aload_n 1, 1), (2, .putfield 1, 3), (5, .aload_n 0, 1), (6, .invokespecial 7, 3), (9, .aload_n 0, 1), (10, .aload_n 0, 1), (11, .getfield 1, 3), (14, .iconst 0, 1), (15, .invokevirtual 13, 3), (18, .putfield 19, 3), (21, .return_, 1)] : List (Nat × Instr × Nat)), decode prog_46_method_1_code x.1 = .ok x.2 := by decide +kernel
theorem Dc50 : ∀ x ∈ ([(0, .aload_n 0, 1), (1, .getfield 19, 3), (4, .ifCond .lt 7, 3), (11, .iconst 0, 1), (12, .ireturn, 1)] : List (Nat × Instr × Nat)), decode prog_46_method_2_code x.1 = .ok x.2 := by decide +kernel
theorem Dc51 : ∀ x ∈ ([(0, .aload_n 1, 1), (1, .invokestatic 213, 3), (4, .pop, 1), (5, .aload_n 0, 1), (6, .getfield 63, 3), (9, .istore_n 2, 1), (10, .aload_n 0, 1), (11, .getfield 9, 3), (14, .astore_n 3, 1), (15, .aload_n 0, 1), (16, .getfield 48, 3), (19, .istore 4, 2), (21, .iconst 0, 1), (22, .istore 5, 2), (24, .aload_n 0, 1), (25, .getfield 63, 3), (28, .iload_n 2, 1), (29, .if_icmp .ne 28, 3), (32, .iload 5, 2), (34, .iload 4, 2), (36, .if_icmp .ge 21, 3), (57, .aload_n 0, 1), (58, .getfield 63, 3), (61, .iload_n 2, 1), (62, .if_icmp .eq 11, 3), (73, .return_, 1)] : List (Nat × Instr × Nat)), decode jdk_38_method_57_code x.1 = .ok x.2 := by decide +kernel
theorem Dc52 : ∀ x ∈ ([(0, .aload_n 0, 1), (1, .getfield 13, 3), (4, .iload_n 1, 1), (5, .invokevirtual 80, 3), (8, .checkcast 67, 3), (11, .astore_n 2, 1), (12, .aload_n 2, 1), (13, .getfield 136, 3), (16, .aload_n 0, 1), (17, .getfield 31, 3), (20, .if_acmp .eq 29, 3), (49, .aload_n 2, 1), (50, .areturn, 1)] : List (Nat × Instr × Nat)), decode prog_39_method_8_code x.1 = .ok x.2 := by decide +kernel
theorem pn_0 : plainName "java/util/AbstractCollection" = true := by first | (simp [plainName, overriddenIn]; done) | decide +kernel
theorem pn_1 : plainName "java/util/AbstractMap" = true := by first | (simp [plainName, overriddenIn]; done) | decide +kernel
theorem pn_2 : plainName "java/util/ArrayDeque" = true := by first | (simp [plainName, overriddenIn]; done) | decide +kernel
theorem pn_3 : plainName "java/util/HashMap" = true := by first | (simp [plainName, overriddenIn]; done) | decide +kernel
theorem pn_4 : plainName "java/util/AbstractList" = true := by first | (simp [plainName, overriddenIn]; done) | decide +kernel
theorem pn_5 : plainName "java/util/ArrayList" = true := by first | (simp [plainName, overriddenIn]; done) | decide +kernel
theorem pn_6 : plainName "org/tallyrole/core/IntTrie" = true := by first | (simp [plainName, overriddenIn]; done) | decide +kernel
theorem pn_7 : plainName "org/tallyrole/core/Graph$Node" = true := by first | (simp [plainName, overriddenIn]; done) | decide +kernel
theorem pn_8 : plainName "org/tallyrole/core/IntTrie$Chunk" = true := by first | (simp [plainName, overriddenIn]; done) | decide +kernel
theorem pn_9 : plainName "java/lang/Integer" = true := by first | (simp [plainName, overriddenIn]; done) | decide +kernel
theorem pn_10 : plainName "java/util/Objects" = true := by first | (simp [plainName, overriddenIn]; done) | decide +kernel
theorem pn_11 : plainName "org/tallyrole/core/Graph" = true := by first | (simp [plainName, overriddenIn]; done) | decide +kernel
theorem pn_12 : plainName "java/lang/Boolean" = true := by first | (simp [plainName, overriddenIn]; done) | decide +kernel
theorem pn_13 : plainName "java/util/AbstractSet" = true := by first | (simp [plainName, overriddenIn]; done) | decide +kernel
theorem pn_14 : plainName "java/util/HashMap$EntrySet" = true := by first | (simp [plainName, overriddenIn]; done) | decide +kernel
theorem pn_15 : plainName "java/util/HashMap$HashIterator" = true := by first | (simp [plainName, overriddenIn]; done) | decide +kernel
theorem pn_16 : plainName "java/util/HashMap$EntryIterator" = true := by first | (simp [plainName, overriddenIn]; done) | decide +kernel
theorem pn_17 : plainName "org/tallyrole/core/IntTrie$1" = true := by first | (simp [plainName, overriddenIn]; done) | decide +kernel
theorem pn_18 : plainName "org/tallyrole/core/Dependencies" = true := by first | (simp [plainName, overriddenIn]; done) | decide +kernel
theorem pn_19 : plainName "org/tallyrole/core/GraphNodePinLaw" = true := by first | (simp [plainName, overriddenIn]; done) | decide +kernel
theorem pd_0 : parseMethodDescriptor "()V" = some ⟨[], none⟩ := by decide +kernel
theorem pd_1 : parseMethodDescriptor "()Lorg/tallyrole/core/IntTrie;" = some ⟨[], some (.object "org/tallyrole/core/IntTrie")⟩ := by decide +kernel
theorem pd_2 : parseMethodDescriptor "(I)I" = some ⟨[.int], some .int⟩ := by decide +kernel
theorem pd_3 : parseMethodDescriptor "(I)Ljava/lang/Object;" = some ⟨[.int], some (.object "java/lang/Object")⟩ := by decide +kernel
theorem pd_4 : parseMethodDescriptor "(Ljava/lang/Object;)V" = some ⟨[(.object "java/lang/Object")], none⟩ := by decide +kernel
theorem pd_5 : parseMethodDescriptor "(ILjava/lang/Object;)Lorg/tallyrole/core/IntTrie$Chunk;" = some ⟨[.int, (.object "java/lang/Object")], some (.object "org/tallyrole/core/IntTrie$Chunk")⟩ := by decide +kernel
theorem pd_6 : parseMethodDescriptor "(Ljava/lang/Object;)Ljava/lang/Object;" = some ⟨[(.object "java/lang/Object")], some (.object "java/lang/Object")⟩ := by decide +kernel
theorem pd_7 : parseMethodDescriptor "(IILjava/lang/Object;Ljava/lang/Object;)Lorg/tallyrole/core/IntTrie$Chunk;" = some ⟨[.int, .int, (.object "java/lang/Object"), (.object "java/lang/Object")], some (.object "org/tallyrole/core/IntTrie$Chunk")⟩ := by decide +kernel
theorem pd_8 : parseMethodDescriptor "(Lorg/tallyrole/core/IntTrie$Chunk;I)V" = some ⟨[(.object "org/tallyrole/core/IntTrie$Chunk"), .int], none⟩ := by decide +kernel
theorem pd_9 : parseMethodDescriptor "(Ljava/lang/Object;)Lorg/tallyrole/core/IntTrie$Chunk;" = some ⟨[(.object "java/lang/Object")], some (.object "org/tallyrole/core/IntTrie$Chunk")⟩ := by decide +kernel
theorem pd_10 : parseMethodDescriptor "(Lorg/tallyrole/core/IntTrie$Chunk;IILjava/lang/Object;Ljava/lang/Object;)Lorg/tallyrole/core/IntTrie$Chunk;" = some ⟨[(.object "org/tallyrole/core/IntTrie$Chunk"), .int, .int, (.object "java/lang/Object"), (.object "java/lang/Object")], some (.object "org/tallyrole/core/IntTrie$Chunk")⟩ := by decide +kernel
theorem pd_11 : parseMethodDescriptor "(I)Z" = some ⟨[.int], some .boolean⟩ := by decide +kernel
theorem pd_12 : parseMethodDescriptor "(Z)Ljava/lang/Boolean;" = some ⟨[.boolean], some (.object "java/lang/Boolean")⟩ := by decide +kernel
theorem pd_13 : parseMethodDescriptor "(ILjava/lang/Object;Ljava/lang/Object;)Lorg/tallyrole/core/IntTrie;" = some ⟨[.int, (.object "java/lang/Object"), (.object "java/lang/Object")], some (.object "org/tallyrole/core/IntTrie")⟩ := by decide +kernel
theorem pd_14 : parseMethodDescriptor "(I)V" = some ⟨[.int], none⟩ := by decide +kernel
theorem pd_15 : parseMethodDescriptor "(Lorg/tallyrole/core/IntTrie$Chunk;IILjava/lang/Object;)Lorg/tallyrole/core/IntTrie$Chunk;" = some ⟨[(.object "org/tallyrole/core/IntTrie$Chunk"), .int, .int, (.object "java/lang/Object")], some (.object "org/tallyrole/core/IntTrie$Chunk")⟩ := by decide +kernel
theorem pd_16 : parseMethodDescriptor "(Ljava/util/HashMap;)V" = some ⟨[(.object "java/util/HashMap")], none⟩ := by decide +kernel
theorem pd_17 : parseMethodDescriptor "(Ljava/lang/Object;Ljava/lang/String;)Ljava/lang/Object;" = some ⟨[(.object "java/lang/Object"), (.object "java/lang/String")], some (.object "java/lang/Object")⟩ := by decide +kernel
theorem pd_18 : parseMethodDescriptor "(Lorg/tallyrole/core/IntTrie;)V" = some ⟨[(.object "org/tallyrole/core/IntTrie")], none⟩ := by decide +kernel
theorem pd_19 : parseMethodDescriptor "()Z" = some ⟨[], some .boolean⟩ := by decide +kernel
theorem pd_20 : parseMethodDescriptor "(II)Lorg/tallyrole/core/Dependencies;" = some ⟨[.int, .int], some (.object "org/tallyrole/core/Dependencies")⟩ := by decide +kernel
theorem pd_21 : parseMethodDescriptor "(ILjava/lang/Object;)Lorg/tallyrole/core/IntTrie;" = some ⟨[.int, (.object "java/lang/Object")], some (.object "org/tallyrole/core/IntTrie")⟩ := by decide +kernel
theorem pd_22 : parseMethodDescriptor "()Ljava/util/Set;" = some ⟨[], some (.object "java/util/Set")⟩ := by decide +kernel
theorem pd_23 : parseMethodDescriptor "()Ljava/util/Iterator;" = some ⟨[], some (.object "java/util/Iterator")⟩ := by decide +kernel
theorem pd_24 : parseMethodDescriptor "(Ljava/util/function/BiConsumer;)V" = some ⟨[(.object "java/util/function/BiConsumer")], none⟩ := by decide +kernel
theorem pd_25 : parseMethodDescriptor "(Ljava/lang/Object;Ljava/lang/Object;)Ljava/lang/Object;" = some ⟨[(.object "java/lang/Object"), (.object "java/lang/Object")], some (.object "java/lang/Object")⟩ := by decide +kernel
theorem pd_26 : parseMethodDescriptor "()Ljava/lang/Iterable;" = some ⟨[], some (.object "java/lang/Iterable")⟩ := by decide +kernel
theorem pd_27 : parseMethodDescriptor "(Ljava/util/function/Consumer;)V" = some ⟨[(.object "java/util/function/Consumer")], none⟩ := by decide +kernel
theorem pd_28 : parseMethodDescriptor "(I)Lorg/tallyrole/core/Graph$Node;" = some ⟨[.int], some (.object "org/tallyrole/core/Graph$Node")⟩ := by decide +kernel
theorem pd_29 : parseMethodDescriptor "()I" = some ⟨[], some .int⟩ := by decide +kernel
theorem pd_30 : parseMethodDescriptor "(IILorg/tallyrole/core/Dependencies;)Ljava/util/List;" = some ⟨[.int, .int, (.object "org/tallyrole/core/Dependencies")], some (.object "java/util/List")⟩ := by decide +kernel
def Q_acI (Z : State) (dd : Addr) (h0 : Heap) (n0 : Nat) (v : Option Value) (h : Heap) (L : List Loc) : Prop := v = none ∧ Fr n0 L ∧ h = h0
set_option maxRecDepth 65536 in
set_option maxHeartbeats 40000000 in
theorem rm_acI (l : Launch) (Z : State) (a0 : Array Value) (hw : own_HW a0 Z) (ws : List Jvm.Cond) (dd : Addr) (h0 : Heap) (n0 : Nat) (Z0 : n0 ≤ h0.size) :
    own_M l yn_0 (Jvm.Cond.code yn_0 jdk_22_method_1_code 1 none :: ws) ({ frames := 1, cells := 0, slots := 0, locals := 12 } : Room) Z #[(.ref dd)] h0 (Q_acI Z dd h0 n0) := by
  refine MetFree.of_bodySF (plainFor_of_name pn_0) hisR ?_
  intro p e s m args below meth c s₁ Bd hml0 hP hK
  have ow := @own_w a0 Z hw
  obtain ⟨rfl, hZ, hhp_⟩ := hP
  have hx := Bd.exec
  have hby := Bd.bytes
  have dx := @own_hd _ _ _ hby Dc5
  have hml : c.maxLocals = 1 := hml0
  have hown : s.vm.findClass "java/util/AbstractCollection" = some m.cls := findClass_of_methodNamed Bd.named
  have hnm := (name_of_methodNamed Bd.named Bd.method).1
  have X0 : Stand p l e ({ frames := 1, cells := 0, slots := 0, locals := 12 } : Room) s m _ below meth c s₁ [] 0 0 := Stand.of_body Bd
  have e0 : s₁.heap = h0 := by rw [← hhp_, Bd.state]; rfl
  have N0 := Fr.nil n0
  have pre0 : ∀ t, Steps p.tables e below (s₁.setTop (mkF m 0 #[.val (.ref dd)] [])) t → Steps p.tables e below (s₁.setTop (entryFrame m #[(.ref dd)] 1)) t := fun t k => castTop rfl k
  obtain ⟨T1, X1, e1, st1⟩ := initO X0 hx hZ hown (ow 42 rfl) (ow 7 rfl) (ow 8 rfl) e0 (g := (mkF m 1 #[.val (.ref dd)] [(.ref dd)])) rfl (by rw [hml]; rfl) rfl (dx 1 rfl) (by decide) (W := 0) (Nat.le_of_eq rfl) (by decide)
  have pre2 := fun (t : State) (k : Steps p.tables e below (T1.setTop (mkF m 4 #[.val (.ref dd)] [])) t) => pre0 t (by
    refine XS.aloadN X0.here hx rfl (dx 0 rfl) rfl rfl ?_
    refine st1 _ ?_
    exact k)
  obtain ⟨fs, hr, hrun, hended, hW, hsame⟩ := X1.leave (v := none) (hlocks := BodyLoose.notSynchronized Bd) (fun _ => rfl)
  refine ⟨_, _, pre2 _ ?_, hrun, hended, _, _, rfl, ?_, ⟨_, rfl⟩, hW, hsame.mono (by decide) (by decide)⟩
  · exact X1.returnOut hx Bd.returns (dx 2 rfl) hr
  · show Q_acI Z dd h0 n0 _ T1.heap _
    rw [e1]
    exact ⟨rfl, N0, rfl⟩

def Q_amI (Z : State) (dd : Addr) (h0 : Heap) (n0 : Nat) (v : Option Value) (h : Heap) (L : List Loc) : Prop := v = none ∧ Fr n0 L ∧ h = h0
set_option maxRecDepth 65536 in
set_option maxHeartbeats 40000000 in
theorem rm_amI (l : Launch) (Z : State) (a0 : Array Value) (hw : own_HW a0 Z) (ws : List Jvm.Cond) (dd : Addr) (h0 : Heap) (n0 : Nat) (Z0 : n0 ≤ h0.size) :
    own_M l yn_1 (Jvm.Cond.code yn_1 jdk_71_method_1_code 1 none :: ws) ({ frames := 1, cells := 0, slots := 0, locals := 12 } : Room) Z #[(.ref dd)] h0 (Q_amI Z dd h0 n0) := by
  refine MetFree.of_bodySF (plainFor_of_name pn_1) hisR ?_
  intro p e s m args below meth c s₁ Bd hml0 hP hK
  have ow := @own_w a0 Z hw
  obtain ⟨rfl, hZ, hhp_⟩ := hP
  have hx := Bd.exec
  have hby := Bd.bytes
  have dx := @own_hd _ _ _ hby Dc7
  have hml : c.maxLocals = 1 := hml0
  have hown : s.vm.findClass "java/util/AbstractMap" = some m.cls := findClass_of_methodNamed Bd.named
  have hnm := (name_of_methodNamed Bd.named Bd.method).1
  have X0 : Stand p l e ({ frames := 1, cells := 0, slots := 0, locals := 12 } : Room) s m _ below meth c s₁ [] 0 0 := Stand.of_body Bd
  have e0 : s₁.heap = h0 := by rw [← hhp_, Bd.state]; rfl
  have N0 := Fr.nil n0
  have pre0 : ∀ t, Steps p.tables e below (s₁.setTop (mkF m 0 #[.val (.ref dd)] [])) t → Steps p.tables e below (s₁.setTop (entryFrame m #[(.ref dd)] 1)) t := fun t k => castTop rfl k
  obtain ⟨T1, X1, e1, st1⟩ := initO X0 hx hZ hown (ow 61 rfl) (ow 7 rfl) (ow 8 rfl) e0 (g := (mkF m 1 #[.val (.ref dd)] [(.ref dd)])) rfl (by rw [hml]; rfl) rfl (dx 1 rfl) (by decide) (W := 0) (Nat.le_of_eq rfl) (by decide)
  have pre2 := fun (t : State) (k : Steps p.tables e below (T1.setTop (mkF m 4 #[.val (.ref dd)] [])) t) => pre0 t (by
    refine XS.aloadN X0.here hx rfl (dx 0 rfl) rfl rfl ?_
    refine st1 _ ?_
    exact k)
  obtain ⟨fs, hr, hrun, hended, hW, hsame⟩ := X1.leave (v := none) (hlocks := BodyLoose.notSynchronized Bd) (fun _ => rfl)
  refine ⟨_, _, pre2 _ ?_, hrun, hended, _, _, rfl, ?_, ⟨_, rfl⟩, hW, hsame.mono (by decide) (by decide)⟩
  · exact X1.returnOut hx Bd.returns (dx 2 rfl) hr
  · show Q_amI Z dd h0 n0 _ T1.heap _
    rw [e1]
    exact ⟨rfl, N0, rfl⟩

def Q_adI (Z : State) (dd : Addr) (h0 : Heap) (n0 : Nat) (v : Option Value) (h : Heap) (L : List Loc) : Prop := v = none ∧ Fr n0 L ∧ Keep h0 h [dd] ∧ f_1 Z h dd (.int 0) ∧ f_2 Z h dd (.int 0)
set_option maxRecDepth 65536 in
set_option maxHeartbeats 40000000 in
theorem rm_adI (l : Launch) (Z : State) (a0 : Array Value) (hw : own_HW a0 Z) (ws : List Jvm.Cond) (dd : Addr) (h0 : Heap) (n0 : Nat) (Z0 : n0 ≤ h0.size) (H0_E : e_3 Z h0 dd) (H1_F : f_0 Z h0 dd .null) (H2_F : f_1 Z h0 dd (.int 0)) (H3_F : f_2 Z h0 dd (.int 0)) (hg_dd : n0 ≤ dd) :
    own_M l yn_2 (Jvm.Cond.code yn_2 jdk_21_method_3_code 1 none :: ws) ({ frames := 2, cells := 1, slots := 17, locals := 24 } : Room) Z #[(.ref dd)] h0 (Q_adI Z dd h0 n0) := by
  refine MetFree.of_bodySF (plainFor_of_name pn_2) hisR ?_
  intro p e s m args below meth c s₁ Bd hml0 hP hK
  have ow := @own_w a0 Z hw
  obtain ⟨rfl, hZ, hhp_⟩ := hP
  have hx := Bd.exec
  have hby := Bd.bytes
  have dx := @own_hd _ _ _ hby Dc4
  have hml : c.maxLocals = 1 := hml0
  have hown : s.vm.findClass "java/util/ArrayDeque" = some m.cls := findClass_of_methodNamed Bd.named
  have hnm := (name_of_methodNamed Bd.named Bd.method).1
  have X0 : Stand p l e ({ frames := 2, cells := 1, slots := 17, locals := 24 } : Room) s m _ below meth c s₁ [] 0 0 := Stand.of_body Bd
  have e0 : s₁.heap = h0 := by rw [← hhp_, Bd.state]; rfl
  have N0 := Fr.nil n0
  have pre0 : ∀ t, Steps p.tables e below (s₁.setTop (mkF m 0 #[.val (.ref dd)] [])) t → Steps p.tables e below (s₁.setTop (entryFrame m #[(.ref dd)] 1)) t := fun t k => castTop rfl k
  have K0 : Keep h0 h0 [dd] := Keep.refl h0 [dd]
  obtain ⟨_, T1, Lc1, X1, hQ1, st1⟩ := own_rt X0 (X0.specialBack hx (y := yn_0) rfl hown (mvT hZ (ow 36 rfl)) (mvT hZ (ow 37 rfl)) (mvT hZ (ow 41 rfl)) (by decide) (backOf (W := 0) (rm_acI l Z a0 hw [] dd h0 n0 Z0 ) hZ (ow 41 rfl) (ow 40 rfl) (by decide) (by decide)) (g := (mkF m 1 #[.val (.ref dd)] [(.ref dd)])) rfl (by rw [hml]; rfl) (Steps.refl _) (a := dd) (argsL := []) (rest := []) (lenOf pd_0 rfl) rfl (Nat.le_of_eq rfl) (dx 1 rfl) (fun _ _ => ⟨rfl, e0, (by decide : 0 + 0 ≤ _), (by decide : 0 + 0 ≤ _)⟩))
  obtain ⟨rfl, N1q, hq2⟩ := hQ1
  have N1 := Fr.app N0 N1q
  obtain ⟨T3, h3, k3, X3, e3, E3, A3, O3, st3⟩ := newR X1 hx hZ hown (ow 43 rfl) (ow 44 rfl) hq2 (g := (mkF m 7 #[.val (.ref dd)] [(.int 17), (.ref dd)])) rfl (dx 4 rfl) rfl (by decide) (cap := 17) (by decide) (by decide) (by decide) (by decide)
  obtain ⟨b3, g3⟩ : ∃ z, z = h0.size := ⟨_, rfl⟩
  have ge_b3 : n0 ≤ b3 := Nat.le_trans Z0 (Nat.le_of_eq g3.symm)
  have sz_b3 : h0.size ≤ b3 := Nat.le_trans K0.1 (Nat.le_of_eq g3.symm)
  rw [← g3] at A3 st3
  have K3 : Keep h0 h3 [dd] := K0.ext E3
  have V3 : Arv Z h3 b3 k3 (.object "java/lang/Object") (17 : Int32) [.null, .null, .null, .null, .null, .null, .null, .null, .null, .null, .null, .null, .null, .null, .null, .null, .null] .null := (Arv.new A3 (by decide)).pad (pad_rep [] .null 17)
  have Ov_b3 := O3
  have F5 := H1_F.ext E3
  have E6 := H0_E.ext E3
  obtain ⟨T4, h4, X4, e4, W4, st4⟩ := putF X3 hx hZ hown (host := "") (Or.inl (ow 45 rfl)) Via.refl e3 F5 E6 (Or.inl (ow 46 rfl)) (ow 31 rfl) (ty := (.array (.object "java/lang/Object"))) (by decide) rfl rfl (g := (mkF m 10 #[.val (.ref dd)] [(.ref b3), (.ref dd)])) rfl rfl (dx 5 rfl)
  have Fw4 : f_0 Z h4 dd (.ref b3) := F5.same W4
  have N4 := Fr.snoc X4 N1 hg_dd
  have K4 : Keep h0 h4 [dd] := K3.wr W4 (Or.inl (own_mem (i := 0) rfl))
  have pre7 := fun (t : State) (k : Steps p.tables e below (T4.setTop (mkF m 13 #[.val (.ref dd)] [])) t) => pre0 t (by
    refine XS.aloadN X0.here hx rfl (dx 0 rfl) rfl rfl ?_
    refine st1.trans ?_
    refine XS.aloadN X1.here hx rfl (dx 2 rfl) rfl rfl ?_
    refine XS.bipush X1.here hx rfl (dx 3 rfl) ?_
    refine st3 _ ?_
    refine st4 _ ?_
    exact k)
  have F8 := (H2_F.ext E3).other W4 (Or.inr (sn_0 hw))
  have F9 := (H3_F.ext E3).other W4 (Or.inr (sn_1 hw))
  obtain ⟨fs, hr, hrun, hended, hW, hsame⟩ := X4.leave (v := none) (hlocks := BodyLoose.notSynchronized Bd) (fun _ => rfl)
  refine ⟨_, _, pre7 _ ?_, hrun, hended, _, _, rfl, ?_, ⟨_, rfl⟩, hW, hsame.mono (by decide) (by decide)⟩
  · exact X4.returnOut hx Bd.returns (dx 6 rfl) hr
  · show Q_adI Z dd h0 n0 _ T4.heap _
    rw [e4]
    exact ⟨rfl, N4, K4, F8, F9⟩

def Q_hmI (Z : State) (dd : Addr) (h0 : Heap) (n0 : Nat) (v : Option Value) (h : Heap) (L : List Loc) : Prop := v = none ∧ Fr n0 L ∧ Keep h0 h [dd] ∧ f_5 Z h dd .null ∧ f_6 Z h dd (.int 0) ∧ f_7 Z h dd (.int 0) ∧ f_8 Z h dd .null
set_option maxRecDepth 65536 in
set_option maxHeartbeats 40000000 in
theorem rm_hmI (l : Launch) (Z : State) (a0 : Array Value) (hw : own_HW a0 Z) (ws : List Jvm.Cond) (dd : Addr) (h0 : Heap) (n0 : Nat) (Z0 : n0 ≤ h0.size) (H0_E : e_9 Z h0 dd) (H1_F : f_4 Z h0 dd (.float (0 : UInt32))) (H2_F : f_5 Z h0 dd .null) (H3_F : f_6 Z h0 dd (.int 0)) (H4_F : f_7 Z h0 dd (.int 0)) (H5_F : f_8 Z h0 dd .null) (hg_dd : n0 ≤ dd) :
    own_M l yn_3 (Jvm.Cond.code yn_3 jdk_69_method_7_code 1 none :: ws) ({ frames := 2, cells := 0, slots := 0, locals := 24 } : Room) Z #[(.ref dd)] h0 (Q_hmI Z dd h0 n0) := by
  refine MetFree.of_bodySF (plainFor_of_name pn_3) hisR ?_
  intro p e s m args below meth c s₁ Bd hml0 hP hK
  have ow := @own_w a0 Z hw
  obtain ⟨rfl, hZ, hhp_⟩ := hP
  have hx := Bd.exec
  have hby := Bd.bytes
  have dx := @own_hd _ _ _ hby Dc6
  have hml : c.maxLocals = 1 := hml0
  have hown : s.vm.findClass "java/util/HashMap" = some m.cls := findClass_of_methodNamed Bd.named
  have hnm := (name_of_methodNamed Bd.named Bd.method).1
  have X0 : Stand p l e ({ frames := 2, cells := 0, slots := 0, locals := 24 } : Room) s m _ below meth c s₁ [] 0 0 := Stand.of_body Bd
  have e0 : s₁.heap = h0 := by rw [← hhp_, Bd.state]; rfl
  have N0 := Fr.nil n0
  have pre0 : ∀ t, Steps p.tables e below (s₁.setTop (mkF m 0 #[.val (.ref dd)] [])) t → Steps p.tables e below (s₁.setTop (entryFrame m #[(.ref dd)] 1)) t := fun t k => castTop rfl k
  have K0 : Keep h0 h0 [dd] := Keep.refl h0 [dd]
  obtain ⟨_, T1, Lc1, X1, hQ1, st1⟩ := own_rt X0 (X0.specialBack hx (y := yn_1) rfl hown (mvT hZ (ow 55 rfl)) (mvT hZ (ow 56 rfl)) (mvT hZ (ow 60 rfl)) (by decide) (backOf (W := 0) (rm_amI l Z a0 hw [] dd h0 n0 Z0 ) hZ (ow 60 rfl) (ow 59 rfl) (by decide) (by decide)) (g := (mkF m 1 #[.val (.ref dd)] [(.ref dd)])) rfl (by rw [hml]; rfl) (Steps.refl _) (a := dd) (argsL := []) (rest := []) (lenOf pd_0 rfl) rfl (Nat.le_of_eq rfl) (dx 1 rfl) (fun _ _ => ⟨rfl, e0, (by decide : 0 + 0 ≤ _), (by decide : 0 + 0 ≤ _)⟩))
  obtain ⟨rfl, N1q, hq2⟩ := hQ1
  have N1 := Fr.app N0 N1q
  obtain ⟨T3, h3, X3, e3, W3, st3⟩ := putF X1 hx hZ hown (host := "") (Or.inl (ow 63 rfl)) Via.refl hq2 H1_F H0_E (Or.inr ⟨(ow 64 rfl), rfl, hnm⟩) (ow 50 rfl) (ty := .float) (by decide) rfl rfl (g := (mkF m 7 #[.val (.ref dd)] [(.float (1061158912 : UInt32)), (.ref dd)])) rfl rfl (dx 4 rfl)
  have Fw3 : f_4 Z h3 dd (.float (1061158912 : UInt32)) := H1_F.same W3
  have N3 := Fr.snoc X3 N1 hg_dd
  have K3 : Keep h0 h3 [dd] := K0.wr W3 (Or.inl (own_mem (i := 0) rfl))
  have pre4 := fun (t : State) (k : Steps p.tables e below (T3.setTop (mkF m 10 #[.val (.ref dd)] [])) t) => pre0 t (by
    refine XS.aloadN X0.here hx rfl (dx 0 rfl) rfl rfl ?_
    refine st1.trans ?_
    refine XS.aloadN X1.here hx rfl (dx 2 rfl) rfl rfl ?_
    refine X1.ldcFloatC hx hown (mvT hZ (ow 62 rfl)) (g := (mkF m 5 #[.val (.ref dd)] [(.ref dd)])) rfl (dx 3 rfl) _ ?_
    refine st3 _ ?_
    exact k)
  have F5 := H2_F.other W3 (Or.inr (sn_2 hw))
  have F6 := H3_F.other W3 (Or.inr (sn_3 hw))
  have F7 := H4_F.other W3 (Or.inr (sn_4 hw))
  have F8 := H5_F.other W3 (Or.inr (sn_5 hw))
  obtain ⟨fs, hr, hrun, hended, hW, hsame⟩ := X3.leave (v := none) (hlocks := BodyLoose.notSynchronized Bd) (fun _ => rfl)
  refine ⟨_, _, pre4 _ ?_, hrun, hended, _, _, rfl, ?_, ⟨_, rfl⟩, hW, hsame.mono (by decide) (by decide)⟩
  · exact X3.returnOut hx Bd.returns (dx 5 rfl) hr
  · show Q_hmI Z dd h0 n0 _ T3.heap _
    rw [e3]
    exact ⟨rfl, N3, K3, F5, F6, F7, F8⟩

def Q_lsI (Z : State) (dd : Addr) (h0 : Heap) (n0 : Nat) (v : Option Value) (h : Heap) (L : List Loc) : Prop := v = none ∧ Fr n0 L ∧ Keep h0 h [dd] ∧ f_10 Z h dd (.int 0) ∧ f_11 Z h dd .null ∧ f_12 Z h dd (.int 0)
set_option maxRecDepth 65536 in
set_option maxHeartbeats 40000000 in
theorem rm_lsI (l : Launch) (Z : State) (a0 : Array Value) (hw : own_HW a0 Z) (ws : List Jvm.Cond) (dd : Addr) (h0 : Heap) (n0 : Nat) (Z0 : n0 ≤ h0.size) (H0_E : e_13 Z h0 dd) (H1_F : f_10 Z h0 dd (.int 0)) (H2_F : f_11 Z h0 dd .null) (H3_F : f_12 Z h0 dd (.int 0)) (hg_dd : n0 ≤ dd) :
    own_M l yn_4 (Jvm.Cond.code yn_4 jdk_39_method_1_code 1 none :: ws) ({ frames := 2, cells := 0, slots := 0, locals := 24 } : Room) Z #[(.ref dd)] h0 (Q_lsI Z dd h0 n0) := by
  refine MetFree.of_bodySF (plainFor_of_name pn_4) hisR ?_
  intro p e s m args below meth c s₁ Bd hml0 hP hK
  have ow := @own_w a0 Z hw
  obtain ⟨rfl, hZ, hhp_⟩ := hP
  have hx := Bd.exec
  have hby := Bd.bytes
  have dx := @own_hd _ _ _ hby Dc14
  have hml : c.maxLocals = 1 := hml0
  have hown : s.vm.findClass "java/util/AbstractList" = some m.cls := findClass_of_methodNamed Bd.named
  have hnm := (name_of_methodNamed Bd.named Bd.method).1
  have X0 : Stand p l e ({ frames := 2, cells := 0, slots := 0, locals := 24 } : Room) s m _ below meth c s₁ [] 0 0 := Stand.of_body Bd
  have e0 : s₁.heap = h0 := by rw [← hhp_, Bd.state]; rfl
  have N0 := Fr.nil n0
  have pre0 : ∀ t, Steps p.tables e below (s₁.setTop (mkF m 0 #[.val (.ref dd)] [])) t → Steps p.tables e below (s₁.setTop (entryFrame m #[(.ref dd)] 1)) t := fun t k => castTop rfl k
  have K0 : Keep h0 h0 [dd] := Keep.refl h0 [dd]
  obtain ⟨_, T1, Lc1, X1, hQ1, st1⟩ := own_rt X0 (X0.specialBack hx (y := yn_0) rfl hown (mvT hZ (ow 118 rfl)) (mvT hZ (ow 37 rfl)) (mvT hZ (ow 41 rfl)) (by decide) (backOf (W := 0) (rm_acI l Z a0 hw [] dd h0 n0 Z0 ) hZ (ow 41 rfl) (ow 40 rfl) (by decide) (by decide)) (g := (mkF m 1 #[.val (.ref dd)] [(.ref dd)])) rfl (by rw [hml]; rfl) (Steps.refl _) (a := dd) (argsL := []) (rest := []) (lenOf pd_0 rfl) rfl (Nat.le_of_eq rfl) (dx 1 rfl) (fun _ _ => ⟨rfl, e0, (by decide : 0 + 0 ≤ _), (by decide : 0 + 0 ≤ _)⟩))
  obtain ⟨rfl, N1q, hq2⟩ := hQ1
  have N1 := Fr.app N0 N1q
  obtain ⟨T3, h3, X3, e3, W3, st3⟩ := putF X1 hx hZ hown (host := "") (Or.inl (ow 120 rfl)) Via.refl hq2 H1_F H0_E (Or.inl (ow 121 rfl)) (ow 107 rfl) (ty := .int) (by decide) rfl rfl (g := (mkF m 6 #[.val (.ref dd)] [(.int 0), (.ref dd)])) rfl rfl (dx 4 rfl)
  have Fw3 : f_10 Z h3 dd (.int 0) := H1_F.same W3
  have N3 := Fr.snoc X3 N1 hg_dd
  have K3 : Keep h0 h3 [dd] := K0.wr W3 (Or.inl (own_mem (i := 0) rfl))
  have pre4 := fun (t : State) (k : Steps p.tables e below (T3.setTop (mkF m 9 #[.val (.ref dd)] [])) t) => pre0 t (by
    refine XS.aloadN X0.here hx rfl (dx 0 rfl) rfl rfl ?_
    refine st1.trans ?_
    refine XS.aloadN X1.here hx rfl (dx 2 rfl) rfl rfl ?_
    refine XS.iconst X1.here hx rfl (dx 3 rfl) ?_
    refine st3 _ ?_
    exact k)
  have F5 := H2_F.other W3 (Or.inr (sn_6 hw))
  have F6 := H3_F.other W3 (Or.inr (sn_7 hw))
  obtain ⟨fs, hr, hrun, hended, hW, hsame⟩ := X3.leave (v := none) (hlocks := BodyLoose.notSynchronized Bd) (fun _ => rfl)
  refine ⟨_, _, pre4 _ ?_, hrun, hended, _, _, rfl, ?_, ⟨_, rfl⟩, hW, hsame.mono (by decide) (by decide)⟩
  · exact X3.returnOut hx Bd.returns (dx 5 rfl) hr
  · show Q_lsI Z dd h0 n0 _ T3.heap _
    rw [e3]
    exact ⟨rfl, N3, K3, Fw3, F5, F6⟩

def Q_alI (Z : State) (dd : Addr) (ae : Addr) (h0 : Heap) (n0 : Nat) (v : Option Value) (h : Heap) (L : List Loc) : Prop := v = none ∧ Fr n0 L ∧ Keep h0 h [dd] ∧ f_10 Z h dd (.int 0) ∧ f_11 Z h dd (.ref ae) ∧ f_12 Z h dd (.int 0)
set_option maxRecDepth 65536 in
set_option maxHeartbeats 40000000 in
theorem rm_alI (l : Launch) (Z : State) (a0 : Array Value) (hw : own_HW a0 Z) (ws : List Jvm.Cond) (dd : Addr) (ae : Addr) (h0 : Heap) (n0 : Nat) (Z0 : n0 ≤ h0.size) (H0_E : e_13 Z h0 dd) (H1_S : Sta Z h0 "java/util/ArrayList" "DEFAULTCAPACITY_EMPTY_ELEMENTDATA" "[Ljava/lang/Object;" (.ref ae)) (H2_F : f_10 Z h0 dd (.int 0)) (H3_F : f_11 Z h0 dd .null) (H4_F : f_12 Z h0 dd (.int 0)) (hg_dd : n0 ≤ dd) :
    own_M l yn_5 (Jvm.Cond.code yn_5 jdk_38_method_2_code 1 none :: ws) ({ frames := 3, cells := 0, slots := 0, locals := 36 } : Room) Z #[(.ref dd)] h0 (Q_alI Z dd ae h0 n0) := by
  refine MetFree.of_bodySF (plainFor_of_name pn_5) hisR ?_
  intro p e s m args below meth c s₁ Bd hml0 hP hK
  have ow := @own_w a0 Z hw
  obtain ⟨rfl, hZ, hhp_⟩ := hP
  have hx := Bd.exec
  have hby := Bd.bytes
  have dx := @own_hd _ _ _ hby Dc13
  have hml : c.maxLocals = 1 := hml0
  have hown : s.vm.findClass "java/util/ArrayList" = some m.cls := findClass_of_methodNamed Bd.named
  have hnm := (name_of_methodNamed Bd.named Bd.method).1
  have X0 : Stand p l e ({ frames := 3, cells := 0, slots := 0, locals := 36 } : Room) s m _ below meth c s₁ [] 0 0 := Stand.of_body Bd
  have e0 : s₁.heap = h0 := by rw [← hhp_, Bd.state]; rfl
  have N0 := Fr.nil n0
  have pre0 : ∀ t, Steps p.tables e below (s₁.setTop (mkF m 0 #[.val (.ref dd)] [])) t → Steps p.tables e below (s₁.setTop (entryFrame m #[(.ref dd)] 1)) t := fun t k => castTop rfl k
  have K0 : Keep h0 h0 [dd] := Keep.refl h0 [dd]
  obtain ⟨_, T1, Lc1, X1, hQ1, st1⟩ := own_rt X0 (X0.specialBack hx (y := yn_4) rfl hown (mvT hZ (ow 112 rfl)) (mvT hZ (ow 113 rfl)) (mvT hZ (ow 117 rfl)) (by decide) (backOf (W := 0) (rm_lsI l Z a0 hw [] dd h0 n0 Z0 H0_E H2_F H3_F H4_F hg_dd) hZ (ow 117 rfl) (ow 116 rfl) (by decide) (by decide)) (g := (mkF m 1 #[.val (.ref dd)] [(.ref dd)])) rfl (by rw [hml]; rfl) (Steps.refl _) (a := dd) (argsL := []) (rest := []) (lenOf pd_0 rfl) rfl (Nat.le_of_eq rfl) (dx 1 rfl) (fun _ _ => ⟨rfl, e0, (by decide : 0 + 0 ≤ _), (by decide : 0 + 0 ≤ _)⟩))
  obtain ⟨rfl, N1q, hq2, F3, F4, F5⟩ := hQ1
  have N1 := Fr.app N0 N1q
  have K1 : Keep h0 T1.heap [dd] := K0.trans hq2 (allS (Or.inl (own_mem (i := 0) rfl)) all0)
  have S6 := own_sta_keep H1_S hq2 (allS (own_ns_exa H0_E) all0)
  obtain ⟨T7, X7, e7, st7⟩ := getS2 X1 hx hZ hown (host := "") (Or.inl (ow 122 rfl)) Via.refl rfl S6 (g := (mkF m 5 #[.val (.ref dd)] [(.ref dd)])) rfl (dx 3 rfl)
  have E9 := H0_E.keep hq2
  obtain ⟨T8, h8, X8, e8, W8, st8⟩ := putF X7 hx hZ hown (host := "") (Or.inl (ow 123 rfl)) Via.refl e7 F4 E9 (Or.inl (ow 124 rfl)) (ow 107 rfl) (ty := (.array (.object "java/lang/Object"))) (by decide) rfl rfl (g := (mkF m 8 #[.val (.ref dd)] [(.ref ae), (.ref dd)])) rfl rfl (dx 4 rfl)
  have Fw8 : f_11 Z h8 dd (.ref ae) := F4.same W8
  have N8 := Fr.snoc X8 N1 hg_dd
  have K8 : Keep h0 h8 [dd] := K1.wr W8 (Or.inl (own_mem (i := 0) rfl))
  have pre10 := fun (t : State) (k : Steps p.tables e below (T8.setTop (mkF m 11 #[.val (.ref dd)] [])) t) => pre0 t (by
    refine XS.aloadN X0.here hx rfl (dx 0 rfl) rfl rfl ?_
    refine st1.trans ?_
    refine XS.aloadN X1.here hx rfl (dx 2 rfl) rfl rfl ?_
    refine st7 _ ?_
    refine st8 _ ?_
    exact k)
  have F11 := F3.other W8 (Or.inr (sn_6 hw).symm)
  have F12 := F5.other W8 (Or.inr (sn_8 hw))
  obtain ⟨fs, hr, hrun, hended, hW, hsame⟩ := X8.leave (v := none) (hlocks := BodyLoose.notSynchronized Bd) (fun _ => rfl)
  refine ⟨_, _, pre10 _ ?_, hrun, hended, _, _, rfl, ?_, ⟨_, rfl⟩, hW, hsame.mono (by decide) (by decide)⟩
  · exact X8.returnOut hx Bd.returns (dx 5 rfl) hr
  · show Q_alI Z dd ae h0 n0 _ T8.heap _
    rw [e8]
    exact ⟨rfl, N8, K8, F11, Fw8, F12⟩

def Q_emp (Z : State) (em : Addr) (h0 : Heap) (n0 : Nat) (v : Option Value) (h : Heap) (L : List Loc) : Prop := v = some (.ref em) ∧ Fr n0 L ∧ h = h0
set_option maxRecDepth 65536 in
set_option maxHeartbeats 40000000 in
theorem rm_emp (l : Launch) (Z : State) (a0 : Array Value) (hw : own_HW a0 Z) (ws : List Jvm.Cond) (em : Addr) (h0 : Heap) (n0 : Nat) (Z0 : n0 ≤ h0.size) (H0_S : Sta Z h0 "org/tallyrole/core/IntTrie" "EMPTY" "Lorg/tallyrole/core/IntTrie;" (.ref em)) :
    own_M l yn_6 (Jvm.Cond.code yn_6 prog_45_method_2_code 0 (some (.object "org/tallyrole/core/IntTrie")) :: ws) ({ frames := 0, cells := 0, slots := 0, locals := 0 } : Room) Z #[] h0 (Q_emp Z em h0 n0) := by
  refine MetFree.of_bodySF (plainFor_of_name pn_6) hisR ?_
  intro p e s m args below meth c s₁ Bd hml0 hP hK
  have ow := @own_w a0 Z hw
  obtain ⟨rfl, hZ, hhp_⟩ := hP
  have hx := Bd.exec
  have hby := Bd.bytes
  have dx := @own_hd _ _ _ hby Dc3
  have hml : c.maxLocals = 0 := hml0
  have hown : s.vm.findClass "org/tallyrole/core/IntTrie" = some m.cls := findClass_of_methodNamed Bd.named
  have hnm := (name_of_methodNamed Bd.named Bd.method).1
  have X0 : Stand p l e ({ frames := 0, cells := 0, slots := 0, locals := 0 } : Room) s m _ below meth c s₁ [] 0 0 := Stand.of_body Bd
  have e0 : s₁.heap = h0 := by rw [← hhp_, Bd.state]; rfl
  have N0 := Fr.nil n0
  have pre0 : ∀ t, Steps p.tables e below (s₁.setTop (mkF m 0 #[] [])) t → Steps p.tables e below (s₁.setTop (entryFrame m #[] 0)) t := fun t k => castTop rfl k
  obtain ⟨T1, X1, e1, st1⟩ := getS2 X0 hx hZ hown (host := "") (Or.inl (ow 13 rfl)) Via.refl e0 H0_S (g := (mkF m 0 #[] [])) rfl (dx 0 rfl)
  have pre2 := fun (t : State) (k : Steps p.tables e below (T1.setTop (mkF m 3 #[] [(.ref em)])) t) => pre0 t (by
    refine st1 _ ?_
    exact k)
  obtain ⟨fs, hr, hrun, hended, hW, hsame⟩ := X1.leave (v := some (.ref em)) (hlocks := BodyLoose.notSynchronized Bd) (fun h => by rw [Bd.returns] at h; cases h)
  refine ⟨_, _, pre2 _ ?_, hrun, hended, _, _, rfl, ?_, ⟨_, rfl⟩, hW, hsame.mono (by decide) (by decide)⟩
  · jvm_step X1.here [X1.here.top, hx, (dx 1 rfl), X1.method', Bd.returns, Value.isRef, FieldType.isReference]
    first | (intro acts; rw [hr _ acts rfl rfl rfl]) | rw [hr _ _ rfl rfl rfl]
    exact Steps.refl _
  · show Q_emp Z em h0 n0 _ T1.heap _
    rw [e1]
    exact ⟨rfl, N0, rfl⟩

def Q_ndI (Z : State) (dd : Addr) (gg : Addr) (em : Addr) (ae : Addr) (h0 : Heap) (n0 : Nat) (v : Option Value) (h : Heap) (L : List Loc) : Prop := ∃ lb : Addr, ∃ pd : Addr, ∃ su : Addr, ∃ ba : Addr, ∃ iv : Addr, v = none ∧ Fr n0 L ∧ Keep h0 h [dd] ∧ n0 ≤ lb ∧ h0.size ≤ lb ∧ n0 ≤ pd ∧ h0.size ≤ pd ∧ n0 ≤ su ∧ h0.size ≤ su ∧ n0 ≤ ba ∧ h0.size ≤ ba ∧ n0 ≤ iv ∧ h0.size ≤ iv ∧ lb ≠ pd ∧ lb ≠ su ∧ lb ≠ ba ∧ lb ≠ iv ∧ f_14 Z h dd (.ref lb) ∧ f_15 Z h dd (.ref pd) ∧ f_17 Z h dd (.ref su) ∧ f_18 Z h dd (.ref ba) ∧ f_20 Z h dd (.ref iv) ∧ f_19 Z h dd (.ref em) ∧ f_21 Z h dd (.ref gg) ∧ e_9 Z h lb ∧ f_5 Z h lb .null ∧ f_6 Z h lb (.int 0) ∧ f_7 Z h lb (.int 0) ∧ f_8 Z h lb .null ∧ e_3 Z h pd ∧ f_1 Z h pd (.int 0) ∧ f_2 Z h pd (.int 0) ∧ e_9 Z h su ∧ f_6 Z h su (.int 0) ∧ e_9 Z h ba ∧ f_6 Z h ba (.int 0) ∧ e_13 Z h iv ∧ f_12 Z h iv (.int 0)
set_option maxRecDepth 65536 in
set_option maxHeartbeats 40000000 in
theorem rm_ndI (l : Launch) (Z : State) (a0 : Array Value) (hw : own_HW a0 Z) (ws : List Jvm.Cond) (dd : Addr) (gg : Addr) (em : Addr) (ae : Addr) (h0 : Heap) (n0 : Nat) (Z0 : n0 ≤ h0.size) (H0_E : e_22 Z h0 dd) (H1_S : Sta Z h0 "org/tallyrole/core/IntTrie" "EMPTY" "Lorg/tallyrole/core/IntTrie;" (.ref em)) (H2_S : Sta Z h0 "java/util/ArrayList" "DEFAULTCAPACITY_EMPTY_ELEMENTDATA" "[Ljava/lang/Object;" (.ref ae)) (H3_F : f_14 Z h0 dd .null) (H4_F : f_15 Z h0 dd .null) (H5_F : f_16 Z h0 dd .null) (H6_F : f_17 Z h0 dd .null) (H7_F : f_18 Z h0 dd .null) (H8_F : f_19 Z h0 dd .null) (H9_F : f_20 Z h0 dd .null) (H10_F : f_21 Z h0 dd .null) (hg_dd : n0 ≤ dd) :
    own_M l yn_7 (Jvm.Cond.code yn_7 prog_42_method_1_code 2 none :: ws) ({ frames := 4, cells := 7, slots := 50, locals := 50 } : Room) Z #[(.ref dd), (.ref gg)] h0 (Q_ndI Z dd gg em ae h0 n0) := by
  refine MetFree.of_bodySF (plainFor_of_name pn_7) hisR ?_
  intro p e s m args below meth c s₁ Bd hml0 hP hK
  have ow := @own_w a0 Z hw
  obtain ⟨rfl, hZ, hhp_⟩ := hP
  have hx := Bd.exec
  have hby := Bd.bytes
  have dx := @own_hd _ _ _ hby Dc12
  have hml : c.maxLocals = 2 := hml0
  have hown : s.vm.findClass "org/tallyrole/core/Graph$Node" = some m.cls := findClass_of_methodNamed Bd.named
  have hnm := (name_of_methodNamed Bd.named Bd.method).1
  have X0 : Stand p l e ({ frames := 4, cells := 7, slots := 50, locals := 50 } : Room) s m _ below meth c s₁ [] 0 0 := Stand.of_body Bd
  have e0 : s₁.heap = h0 := by rw [← hhp_, Bd.state]; rfl
  have N0 := Fr.nil n0
  have pre0 : ∀ t, Steps p.tables e below (s₁.setTop (mkF m 0 #[.val (.ref dd), .val (.ref gg)] [])) t → Steps p.tables e below (s₁.setTop (entryFrame m #[(.ref dd), (.ref gg)] 2)) t := fun t k => castTop rfl k
  have K0 : Keep h0 h0 [dd] := Keep.refl h0 [dd]
  obtain ⟨T1, X1, e1, st1⟩ := initO X0 hx hZ hown (ow 97 rfl) (ow 7 rfl) (ow 8 rfl) e0 (g := (mkF m 1 #[.val (.ref dd), .val (.ref gg)] [(.ref dd)])) rfl (by rw [hml]; rfl) rfl (dx 1 rfl) (by decide) (W := 0) (Nat.le_of_eq rfl) (by decide)
  obtain ⟨T2, h2, X2, e2, E2, A2, D2, -, st2⟩ := newO X1 hx hZ hown (ow 98 rfl) (ow 50 rfl) (ow 51 rfl) e1 (g := (mkF m 5 #[.val (.ref dd), .val (.ref gg)] [(.ref dd)])) rfl (dx 3 rfl) (by decide) (by decide)
  obtain ⟨b2, g2⟩ : ∃ z, z = h0.size := ⟨_, rfl⟩
  have ge_b2 : n0 ≤ b2 := Nat.le_trans Z0 (Nat.le_of_eq g2.symm)
  have sz_b2 : h0.size ≤ b2 := Nat.le_trans K0.1 (Nat.le_of_eq g2.symm)
  rw [← g2] at A2 D2 st2
  have K2 : Keep h0 h2 [dd] := K0.ext E2
  have F3 : f_4 Z h2 b2 (.float (0 : UInt32)) := D2 (Or.inr (ow 64 rfl)) (ty := .float) (by decide)
  have F4 : f_8 Z h2 b2 .null := D2 (Or.inl (ow 289 rfl)) (ty := (.object "java/util/Set")) (by decide)
  have F5 : f_7 Z h2 b2 (.int 0) := D2 (Or.inl (ow 333 rfl)) (ty := .int) (by decide)
  have F6 : f_5 Z h2 b2 .null := D2 (Or.inl (ow 337 rfl)) (ty := (.array (.object "java/util/HashMap$Node"))) (by decide)
  have F7 : f_6 Z h2 b2 (.int 0) := D2 (Or.inl (ow 385 rfl)) (ty := .int) (by decide)
  have Zs9 : n0 ≤ h2.size := (Nat.le_trans Z0 E2.1)
  obtain ⟨_, T8, Lc8, X8, hQ8, st8⟩ := own_rt X2 (X2.specialBack hx (y := yn_3) rfl hown (mvT hZ (ow 99 rfl)) (mvT hZ (ow 53 rfl)) (mvT hZ (ow 54 rfl)) (by decide) (backOf (W := 2) (rm_hmI l Z a0 hw [] b2 h2 n0 Zs9 A2 F3 F6 F7 F5 F4 ge_b2) hZ (ow 54 rfl) (ow 51 rfl) (by decide) (by decide)) (g := (mkF m 9 #[.val (.ref dd), .val (.ref gg)] [(.ref b2), (.ref b2), (.ref dd)])) rfl (by rw [hml]; rfl) (Steps.refl _) (a := b2) (argsL := []) (rest := [(.ref b2), (.ref dd)]) (lenOf pd_0 rfl) rfl (Nat.le_of_eq rfl) (dx 5 rfl) (fun _ _ => ⟨rfl, e2, (by decide : 1 + 0 ≤ _), (by decide : 8 + 0 ≤ _)⟩))
  obtain ⟨rfl, N8q, hq10, F11, F12, F13, F14⟩ := hQ8
  have N8 := Fr.app N0 N8q
  have K8 : Keep h0 T8.heap [dd] := K2.trans hq10 (allS (Or.inr sz_b2) all0)
  have ne17 : dd ≠ b2 := Nat.ne_of_lt (Nat.lt_of_lt_of_le H0_E.lt (Nat.le_of_eq g2.symm))
  have F16 := (H3_F.ext E2).keep hq10 (ninS ne17 nin0)
  have E18 := (H0_E.ext E2).keep hq10
  obtain ⟨T15, h15, X15, e15, W15, st15⟩ := putF X8 hx hZ hown (host := "") (Or.inl (ow 100 rfl)) Via.refl rfl F16 E18 (Or.inr ⟨(ow 101 rfl), rfl, hnm⟩) (ow 92 rfl) (ty := (.object "java/util/Map")) (by decide) rfl rfl (g := (mkF m 12 #[.val (.ref dd), .val (.ref gg)] [(.ref b2), (.ref dd)])) rfl rfl (dx 6 rfl)
  have Fw15 : f_14 Z h15 dd (.ref b2) := F16.same W15
  have N15 := Fr.snoc X15 N8 hg_dd
  have K15 : Keep h0 h15 [dd] := K8.wr W15 (Or.inl (own_mem (i := 0) rfl))
  obtain ⟨T19, h19, X19, e19, E19, A19, D19, -, st19⟩ := newO X15 hx hZ hown (ow 102 rfl) (ow 31 rfl) (ow 32 rfl) e15 (g := (mkF m 16 #[.val (.ref dd), .val (.ref gg)] [(.ref dd)])) rfl (dx 8 rfl) (by decide) (by decide)
  obtain ⟨b19, g19⟩ : ∃ z, z = h15.size := ⟨_, rfl⟩
  have ge_b19 : n0 ≤ b19 := Nat.le_trans (Nat.le_trans (Nat.le_trans Zs9 hq10.1) (Keep.of_wr W15).1) (Nat.le_of_eq g19.symm)
  have sz_b19 : h0.size ≤ b19 := Nat.le_trans K15.1 (Nat.le_of_eq g19.symm)
  rw [← g19] at A19 D19 st19
  have K19 : Keep h0 h19 [dd] := K15.ext E19
  have F20 : f_0 Z h19 b19 .null := D19 (Or.inl (ow 46 rfl)) (ty := (.array (.object "java/lang/Object"))) (by decide)
  have F21 : f_1 Z h19 b19 (.int 0) := D19 (Or.inl (ow 254 rfl)) (ty := .int) (by decide)
  have F22 : f_2 Z h19 b19 (.int 0) := D19 (Or.inl (ow 256 rfl)) (ty := .int) (by decide)
  have Zs24 : n0 ≤ h19.size := (Nat.le_trans (Nat.le_trans (Nat.le_trans Zs9 hq10.1) (Keep.of_wr W15).1) E19.1)
  obtain ⟨_, T23, Lc23, X23, hQ23, st23⟩ := own_rt X19 (X19.specialBack hx (y := yn_2) rfl hown (mvT hZ (ow 103 rfl)) (mvT hZ (ow 34 rfl)) (mvT hZ (ow 35 rfl)) (by decide) (backOf (W := 2) (rm_adI l Z a0 hw [] b19 h19 n0 Zs24 A19 F20 F21 F22 ge_b19) hZ (ow 35 rfl) (ow 32 rfl) (by decide) (by decide)) (g := (mkF m 20 #[.val (.ref dd), .val (.ref gg)] [(.ref b19), (.ref b19), (.ref dd)])) rfl (by rw [hml]; rfl) (Steps.refl _) (a := b19) (argsL := []) (rest := [(.ref b19), (.ref dd)]) (lenOf pd_0 rfl) rfl (Nat.le_of_eq rfl) (dx 10 rfl) (fun _ _ => ⟨rfl, e19, (by decide : 2 + 1 ≤ _), (by decide : 11 + 17 ≤ _)⟩))
  obtain ⟨rfl, N23q, hq25, F26, F27⟩ := hQ23
  have N23 := Fr.app N15 N23q
  have K23 : Keep h0 T23.heap [dd] := K19.trans hq25 (allS (Or.inr sz_b19) all0)
  have ne30 : dd ≠ b19 := Nat.ne_of_lt (Nat.lt_of_lt_of_le Fw15.lt (Nat.le_of_eq g19.symm))
  have F29 := ((((H4_F.ext E2).keep hq10 (ninS ne17 nin0)).other W15 (Or.inr (sn_9 hw))).ext E19).keep hq25 (ninS ne30 nin0)
  have E31 := ((E18.wr W15).ext E19).keep hq25
  obtain ⟨T28, h28, X28, e28, W28, st28⟩ := putF X23 hx hZ hown (host := "") (Or.inl (ow 104 rfl)) Via.refl rfl F29 E31 (Or.inr ⟨(ow 105 rfl), rfl, hnm⟩) (ow 92 rfl) (ty := (.object "java/util/Deque")) (by decide) rfl rfl (g := (mkF m 23 #[.val (.ref dd), .val (.ref gg)] [(.ref b19), (.ref dd)])) rfl rfl (dx 11 rfl)
  have Fw28 : f_15 Z h28 dd (.ref b19) := F29.same W28
  have N28 := Fr.snoc X28 N23 hg_dd
  have K28 : Keep h0 h28 [dd] := K23.wr W28 (Or.inl (own_mem (i := 0) rfl))
  obtain ⟨T32, h32, X32, e32, E32, A32, D32, -, st32⟩ := newO X28 hx hZ hown (ow 106 rfl) (ow 107 rfl) (ow 108 rfl) e28 (g := (mkF m 27 #[.val (.ref dd), .val (.ref gg)] [(.ref dd)])) rfl (dx 13 rfl) (by decide) (by decide)
  obtain ⟨b32, g32⟩ : ∃ z, z = h28.size := ⟨_, rfl⟩
  have ge_b32 : n0 ≤ b32 := Nat.le_trans (Nat.le_trans (Nat.le_trans Zs24 hq25.1) (Keep.of_wr W28).1) (Nat.le_of_eq g32.symm)
  have sz_b32 : h0.size ≤ b32 := Nat.le_trans K28.1 (Nat.le_of_eq g32.symm)
  rw [← g32] at A32 D32 st32
  have K32 : Keep h0 h32 [dd] := K28.ext E32
  have F33 : f_10 Z h32 b32 (.int 0) := D32 (Or.inl (ow 121 rfl)) (ty := .int) (by decide)
  have F34 : f_11 Z h32 b32 .null := D32 (Or.inl (ow 124 rfl)) (ty := (.array (.object "java/lang/Object"))) (by decide)
  have F35 : f_12 Z h32 b32 (.int 0) := D32 (Or.inl (ow 369 rfl)) (ty := .int) (by decide)
  have S37 := ((own_sta_keep (((own_sta_keep (H2_S.ext E2) hq10 (allS (own_ns_exa A2) all0)).wr W15).ext E19) hq25 (allS (own_ns_exa A19) all0)).wr W28).ext E32
  have Zs38 : n0 ≤ h32.size := (Nat.le_trans (Nat.le_trans (Nat.le_trans Zs24 hq25.1) (Keep.of_wr W28).1) E32.1)
  obtain ⟨_, T36, Lc36, X36, hQ36, st36⟩ := own_rt X32 (X32.specialBack hx (y := yn_5) rfl hown (mvT hZ (ow 109 rfl)) (mvT hZ (ow 110 rfl)) (mvT hZ (ow 111 rfl)) (by decide) (backOf (W := 2) (rm_alI l Z a0 hw [] b32 ae h32 n0 Zs38 A32 S37 F33 F34 F35 ge_b32) hZ (ow 111 rfl) (ow 108 rfl) (by decide) (by decide)) (g := (mkF m 31 #[.val (.ref dd), .val (.ref gg)] [(.ref b32), (.ref b32), (.ref dd)])) rfl (by rw [hml]; rfl) (Steps.refl _) (a := b32) (argsL := []) (rest := [(.ref b32), (.ref dd)]) (lenOf pd_0 rfl) rfl (Nat.le_of_eq rfl) (dx 15 rfl) (fun _ _ => ⟨rfl, e32, (by decide : 4 + 0 ≤ _), (by decide : 31 + 0 ≤ _)⟩))
  obtain ⟨rfl, N36q, hq39, F40, F41, F42⟩ := hQ36
  have N36 := Fr.app N28 N36q
  have K36 : Keep h0 T36.heap [dd] := K32.trans hq39 (allS (Or.inr sz_b32) all0)
  have ne45 : dd ≠ b32 := Nat.ne_of_lt (Nat.lt_of_lt_of_le Fw28.lt (Nat.le_of_eq g32.symm))
  have F44 := (((((((H5_F.ext E2).keep hq10 (ninS ne17 nin0)).other W15 (Or.inr (sn_10 hw))).ext E19).keep hq25 (ninS ne30 nin0)).other W28 (Or.inr (sn_16 hw))).ext E32).keep hq39 (ninS ne45 nin0)
  have E46 := ((E31.wr W28).ext E32).keep hq39
  obtain ⟨T43, h43, X43, e43, W43, st43⟩ := putF X36 hx hZ hown (host := "") (Or.inl (ow 125 rfl)) Via.refl rfl F44 E46 (Or.inr ⟨(ow 126 rfl), rfl, hnm⟩) (ow 92 rfl) (ty := (.object "java/util/List")) (by decide) rfl rfl (g := (mkF m 34 #[.val (.ref dd), .val (.ref gg)] [(.ref b32), (.ref dd)])) rfl rfl (dx 16 rfl)
  have Fw43 : f_16 Z h43 dd (.ref b32) := F44.same W43
  have N43 := Fr.snoc X43 N36 hg_dd
  have K43 : Keep h0 h43 [dd] := K36.wr W43 (Or.inl (own_mem (i := 0) rfl))
  obtain ⟨T47, h47, X47, e47, E47, A47, D47, -, st47⟩ := newO X43 hx hZ hown (ow 98 rfl) (ow 50 rfl) (ow 51 rfl) e43 (g := (mkF m 38 #[.val (.ref dd), .val (.ref gg)] [(.ref dd)])) rfl (dx 18 rfl) (by decide) (by decide)
  obtain ⟨b47, g47⟩ : ∃ z, z = h43.size := ⟨_, rfl⟩
  have ge_b47 : n0 ≤ b47 := Nat.le_trans (Nat.le_trans (Nat.le_trans Zs38 hq39.1) (Keep.of_wr W43).1) (Nat.le_of_eq g47.symm)
  have sz_b47 : h0.size ≤ b47 := Nat.le_trans K43.1 (Nat.le_of_eq g47.symm)
  rw [← g47] at A47 D47 st47
  have K47 : Keep h0 h47 [dd] := K43.ext E47
  have F48 : f_4 Z h47 b47 (.float (0 : UInt32)) := D47 (Or.inr (ow 64 rfl)) (ty := .float) (by decide)
  have F49 : f_8 Z h47 b47 .null := D47 (Or.inl (ow 289 rfl)) (ty := (.object "java/util/Set")) (by decide)
  have F50 : f_7 Z h47 b47 (.int 0) := D47 (Or.inl (ow 333 rfl)) (ty := .int) (by decide)
  have F51 : f_5 Z h47 b47 .null := D47 (Or.inl (ow 337 rfl)) (ty := (.array (.object "java/util/HashMap$Node"))) (by decide)
  have F52 : f_6 Z h47 b47 (.int 0) := D47 (Or.inl (ow 385 rfl)) (ty := .int) (by decide)
  have Zs54 : n0 ≤ h47.size := (Nat.le_trans (Nat.le_trans (Nat.le_trans Zs38 hq39.1) (Keep.of_wr W43).1) E47.1)
  obtain ⟨_, T53, Lc53, X53, hQ53, st53⟩ := own_rt X47 (X47.specialBack hx (y := yn_3) rfl hown (mvT hZ (ow 99 rfl)) (mvT hZ (ow 53 rfl)) (mvT hZ (ow 54 rfl)) (by decide) (backOf (W := 2) (rm_hmI l Z a0 hw [] b47 h47 n0 Zs54 A47 F48 F51 F52 F50 F49 ge_b47) hZ (ow 54 rfl) (ow 51 rfl) (by decide) (by decide)) (g := (mkF m 42 #[.val (.ref dd), .val (.ref gg)] [(.ref b47), (.ref b47), (.ref dd)])) rfl (by rw [hml]; rfl) (Steps.refl _) (a := b47) (argsL := []) (rest := [(.ref b47), (.ref dd)]) (lenOf pd_0 rfl) rfl (Nat.le_of_eq rfl) (dx 20 rfl) (fun _ _ => ⟨rfl, e47, (by decide : 5 + 0 ≤ _), (by decide : 39 + 0 ≤ _)⟩))
  obtain ⟨rfl, N53q, hq55, F56, F57, F58, F59⟩ := hQ53
  have N53 := Fr.app N43 N53q
  have K53 : Keep h0 T53.heap [dd] := K47.trans hq55 (allS (Or.inr sz_b47) all0)
  have ne62 : dd ≠ b47 := Nat.ne_of_lt (Nat.lt_of_lt_of_le Fw43.lt (Nat.le_of_eq g47.symm))
  have F61 := ((((((((((H6_F.ext E2).keep hq10 (ninS ne17 nin0)).other W15 (Or.inr (sn_11 hw))).ext E19).keep hq25 (ninS ne30 nin0)).other W28 (Or.inr (sn_17 hw))).ext E32).keep hq39 (ninS ne45 nin0)).other W43 (Or.inr (sn_22 hw))).ext E47).keep hq55 (ninS ne62 nin0)
  have E63 := ((E46.wr W43).ext E47).keep hq55
  obtain ⟨T60, h60, X60, e60, W60, st60⟩ := putF X53 hx hZ hown (host := "") (Or.inl (ow 127 rfl)) Via.refl rfl F61 E63 (Or.inr ⟨(ow 128 rfl), rfl, hnm⟩) (ow 92 rfl) (ty := (.object "java/util/Map")) (by decide) rfl rfl (g := (mkF m 45 #[.val (.ref dd), .val (.ref gg)] [(.ref b47), (.ref dd)])) rfl rfl (dx 21 rfl)
  have Fw60 : f_17 Z h60 dd (.ref b47) := F61.same W60
  have N60 := Fr.snoc X60 N53 hg_dd
  have K60 : Keep h0 h60 [dd] := K53.wr W60 (Or.inl (own_mem (i := 0) rfl))
  obtain ⟨T64, h64, X64, e64, E64, A64, D64, -, st64⟩ := newO X60 hx hZ hown (ow 98 rfl) (ow 50 rfl) (ow 51 rfl) e60 (g := (mkF m 49 #[.val (.ref dd), .val (.ref gg)] [(.ref dd)])) rfl (dx 23 rfl) (by decide) (by decide)
  obtain ⟨b64, g64⟩ : ∃ z, z = h60.size := ⟨_, rfl⟩
  have ge_b64 : n0 ≤ b64 := Nat.le_trans (Nat.le_trans (Nat.le_trans Zs54 hq55.1) (Keep.of_wr W60).1) (Nat.le_of_eq g64.symm)
  have sz_b64 : h0.size ≤ b64 := Nat.le_trans K60.1 (Nat.le_of_eq g64.symm)
  rw [← g64] at A64 D64 st64
  have K64 : Keep h0 h64 [dd] := K60.ext E64
  have F65 : f_4 Z h64 b64 (.float (0 : UInt32)) := D64 (Or.inr (ow 64 rfl)) (ty := .float) (by decide)
  have F66 : f_8 Z h64 b64 .null := D64 (Or.inl (ow 289 rfl)) (ty := (.object "java/util/Set")) (by decide)
  have F67 : f_7 Z h64 b64 (.int 0) := D64 (Or.inl (ow 333 rfl)) (ty := .int) (by decide)
  have F68 : f_5 Z h64 b64 .null := D64 (Or.inl (ow 337 rfl)) (ty := (.array (.object "java/util/HashMap$Node"))) (by decide)
  have F69 : f_6 Z h64 b64 (.int 0) := D64 (Or.inl (ow 385 rfl)) (ty := .int) (by decide)
  have Zs71 : n0 ≤ h64.size := (Nat.le_trans (Nat.le_trans (Nat.le_trans Zs54 hq55.1) (Keep.of_wr W60).1) E64.1)
  obtain ⟨_, T70, Lc70, X70, hQ70, st70⟩ := own_rt X64 (X64.specialBack hx (y := yn_3) rfl hown (mvT hZ (ow 99 rfl)) (mvT hZ (ow 53 rfl)) (mvT hZ (ow 54 rfl)) (by decide) (backOf (W := 2) (rm_hmI l Z a0 hw [] b64 h64 n0 Zs71 A64 F65 F68 F69 F67 F66 ge_b64) hZ (ow 54 rfl) (ow 51 rfl) (by decide) (by decide)) (g := (mkF m 53 #[.val (.ref dd), .val (.ref gg)] [(.ref b64), (.ref b64), (.ref dd)])) rfl (by rw [hml]; rfl) (Steps.refl _) (a := b64) (argsL := []) (rest := [(.ref b64), (.ref dd)]) (lenOf pd_0 rfl) rfl (Nat.le_of_eq rfl) (dx 25 rfl) (fun _ _ => ⟨rfl, e64, (by decide : 6 + 0 ≤ _), (by decide : 47 + 0 ≤ _)⟩))
  obtain ⟨rfl, N70q, hq72, F73, F74, F75, F76⟩ := hQ70
  have N70 := Fr.app N60 N70q
  have K70 : Keep h0 T70.heap [dd] := K64.trans hq72 (allS (Or.inr sz_b64) all0)
  have ne79 : dd ≠ b64 := Nat.ne_of_lt (Nat.lt_of_lt_of_le Fw60.lt (Nat.le_of_eq g64.symm))
  have F78 := (((((((((((((H7_F.ext E2).keep hq10 (ninS ne17 nin0)).other W15 (Or.inr (sn_12 hw))).ext E19).keep hq25 (ninS ne30 nin0)).other W28 (Or.inr (sn_18 hw))).ext E32).keep hq39 (ninS ne45 nin0)).other W43 (Or.inr (sn_23 hw))).ext E47).keep hq55 (ninS ne62 nin0)).other W60 (Or.inr (sn_27 hw))).ext E64).keep hq72 (ninS ne79 nin0)
  have E80 := ((E63.wr W60).ext E64).keep hq72
  obtain ⟨T77, h77, X77, e77, W77, st77⟩ := putF X70 hx hZ hown (host := "") (Or.inl (ow 129 rfl)) Via.refl rfl F78 E80 (Or.inr ⟨(ow 130 rfl), rfl, hnm⟩) (ow 92 rfl) (ty := (.object "java/util/Map")) (by decide) rfl rfl (g := (mkF m 56 #[.val (.ref dd), .val (.ref gg)] [(.ref b64), (.ref dd)])) rfl rfl (dx 26 rfl)
  have Fw77 : f_18 Z h77 dd (.ref b64) := F78.same W77
  have N77 := Fr.snoc X77 N70 hg_dd
  have K77 : Keep h0 h77 [dd] := K70.wr W77 (Or.inl (own_mem (i := 0) rfl))
  have S82 := (own_sta_keep (((own_sta_keep (((own_sta_keep (((own_sta_keep (((own_sta_keep (H1_S.ext E2) hq10 (allS (own_ns_exa A2) all0)).wr W15).ext E19) hq25 (allS (own_ns_exa A19) all0)).wr W28).ext E32) hq39 (allS (own_ns_exa A32) all0)).wr W43).ext E47) hq55 (allS (own_ns_exa A47) all0)).wr W60).ext E64) hq72 (allS (own_ns_exa A64) all0)).wr W77
  have Zs83 : n0 ≤ h77.size := (Nat.le_trans (Nat.le_trans Zs71 hq72.1) (Keep.of_wr W77).1)
  obtain ⟨_, T81, Lc81, X81, hQ81, st81⟩ := own_rtC X77 (Jvm.LawKit.callS X77 hx (y := yn_6) hown (mvT hZ (ow 131 rfl)) (mvT hZ (ow 10 rfl)) (mvT hZ (ow 11 rfl)) (mvT hZ (ow 12 rfl)) (by decide) (backOf (W := 1) (rm_emp l Z a0 hw [] em h77 n0 Zs83 S82) hZ (ow 12 rfl) (ow 11 rfl) (by decide) (by decide)) (g := (mkF m 60 #[.val (.ref dd), .val (.ref gg)] [(.ref dd)])) rfl (by rw [hml]; rfl) (argsL := []) (rest := [(.ref dd)]) (lenOf pd_1 rfl) rfl (Nat.le_of_eq rfl) (dx 28 rfl) (fun _ _ => ⟨rfl, e77, (by decide : 6 + 0 ≤ _), (by decide : 47 + 0 ≤ _)⟩))
  obtain ⟨rfl, N81q, hq84⟩ := hQ81
  have N81 := Fr.app N77 N81q
  have F86 := ((((((((((((((H8_F.ext E2).keep hq10 (ninS ne17 nin0)).other W15 (Or.inr (sn_13 hw))).ext E19).keep hq25 (ninS ne30 nin0)).other W28 (Or.inr (sn_19 hw))).ext E32).keep hq39 (ninS ne45 nin0)).other W43 (Or.inr (sn_24 hw))).ext E47).keep hq55 (ninS ne62 nin0)).other W60 (Or.inr (sn_28 hw))).ext E64).keep hq72 (ninS ne79 nin0)).other W77 (Or.inr (sn_31 hw))
  have E87 := E80.wr W77
  obtain ⟨T85, h85, X85, e85, W85, st85⟩ := putF X81 hx hZ hown (host := "") (Or.inl (ow 132 rfl)) Via.refl hq84 F86 E87 (Or.inl (ow 133 rfl)) (ow 92 rfl) (ty := (.object "org/tallyrole/core/IntTrie")) (by decide) rfl rfl (g := (mkF m 63 #[.val (.ref dd), .val (.ref gg)] [(.ref em), (.ref dd)])) rfl rfl (dx 29 rfl)
  have Fw85 : f_19 Z h85 dd (.ref em) := F86.same W85
  have N85 := Fr.snoc X85 N81 hg_dd
  have K85 : Keep h0 h85 [dd] := K77.wr W85 (Or.inl (own_mem (i := 0) rfl))
  obtain ⟨T88, h88, X88, e88, E88, A88, D88, -, st88⟩ := newO X85 hx hZ hown (ow 106 rfl) (ow 107 rfl) (ow 108 rfl) e85 (g := (mkF m 67 #[.val (.ref dd), .val (.ref gg)] [(.ref dd)])) rfl (dx 31 rfl) (by decide) (by decide)
  obtain ⟨b88, g88⟩ : ∃ z, z = h85.size := ⟨_, rfl⟩
  have ge_b88 : n0 ≤ b88 := Nat.le_trans (Nat.le_trans Zs83 (Keep.of_wr W85).1) (Nat.le_of_eq g88.symm)
  have sz_b88 : h0.size ≤ b88 := Nat.le_trans K85.1 (Nat.le_of_eq g88.symm)
  rw [← g88] at A88 D88 st88
  have K88 : Keep h0 h88 [dd] := K85.ext E88
  have F89 : f_10 Z h88 b88 (.int 0) := D88 (Or.inl (ow 121 rfl)) (ty := .int) (by decide)
  have F90 : f_11 Z h88 b88 .null := D88 (Or.inl (ow 124 rfl)) (ty := (.array (.object "java/lang/Object"))) (by decide)
  have F91 : f_12 Z h88 b88 (.int 0) := D88 (Or.inl (ow 369 rfl)) (ty := .int) (by decide)
  have S93 := (((own_sta_keep (((own_sta_keep (((own_sta_keep S37 hq39 (allS (own_ns_exa A32) all0)).wr W43).ext E47) hq55 (allS (own_ns_exa A47) all0)).wr W60).ext E64) hq72 (allS (own_ns_exa A64) all0)).wr W77).wr W85).ext E88
  have Zs94 : n0 ≤ h88.size := (Nat.le_trans (Nat.le_trans Zs83 (Keep.of_wr W85).1) E88.1)
  obtain ⟨_, T92, Lc92, X92, hQ92, st92⟩ := own_rt X88 (X88.specialBack hx (y := yn_5) rfl hown (mvT hZ (ow 109 rfl)) (mvT hZ (ow 110 rfl)) (mvT hZ (ow 111 rfl)) (by decide) (backOf (W := 2) (rm_alI l Z a0 hw [] b88 ae h88 n0 Zs94 A88 S93 F89 F90 F91 ge_b88) hZ (ow 111 rfl) (ow 108 rfl) (by decide) (by decide)) (g := (mkF m 71 #[.val (.ref dd), .val (.ref gg)] [(.ref b88), (.ref b88), (.ref dd)])) rfl (by rw [hml]; rfl) (Steps.refl _) (a := b88) (argsL := []) (rest := [(.ref b88), (.ref dd)]) (lenOf pd_0 rfl) rfl (Nat.le_of_eq rfl) (dx 33 rfl) (fun _ _ => ⟨rfl, e88, (by decide : 7 + 0 ≤ _), (by decide : 50 + 0 ≤ _)⟩))
  obtain ⟨rfl, N92q, hq95, F96, F97, F98⟩ := hQ92
  have N92 := Fr.app N85 N92q
  have K92 : Keep h0 T92.heap [dd] := K88.trans hq95 (allS (Or.inr sz_b88) all0)
  have ne101 : dd ≠ b88 := Nat.ne_of_lt (Nat.lt_of_lt_of_le Fw85.lt (Nat.le_of_eq g88.symm))
  have F100 := (((((((((((((((((H9_F.ext E2).keep hq10 (ninS ne17 nin0)).other W15 (Or.inr (sn_14 hw))).ext E19).keep hq25 (ninS ne30 nin0)).other W28 (Or.inr (sn_20 hw))).ext E32).keep hq39 (ninS ne45 nin0)).other W43 (Or.inr (sn_25 hw))).ext E47).keep hq55 (ninS ne62 nin0)).other W60 (Or.inr (sn_29 hw))).ext E64).keep hq72 (ninS ne79 nin0)).other W77 (Or.inr (sn_32 hw))).other W85 (Or.inr (sn_34 hw))).ext E88).keep hq95 (ninS ne101 nin0)
  have E102 := ((E87.wr W85).ext E88).keep hq95
  obtain ⟨T99, h99, X99, e99, W99, st99⟩ := putF X92 hx hZ hown (host := "") (Or.inl (ow 134 rfl)) Via.refl rfl F100 E102 (Or.inr ⟨(ow 135 rfl), rfl, hnm⟩) (ow 92 rfl) (ty := (.object "java/util/List")) (by decide) rfl rfl (g := (mkF m 74 #[.val (.ref dd), .val (.ref gg)] [(.ref b88), (.ref dd)])) rfl rfl (dx 34 rfl)
  have Fw99 : f_20 Z h99 dd (.ref b88) := F100.same W99
  have N99 := Fr.snoc X99 N92 hg_dd
  have K99 : Keep h0 h99 [dd] := K92.wr W99 (Or.inl (own_mem (i := 0) rfl))
  have F104 := ((((((((((((((((((H10_F.ext E2).keep hq10 (ninS ne17 nin0)).other W15 (Or.inr (sn_15 hw))).ext E19).keep hq25 (ninS ne30 nin0)).other W28 (Or.inr (sn_21 hw))).ext E32).keep hq39 (ninS ne45 nin0)).other W43 (Or.inr (sn_26 hw))).ext E47).keep hq55 (ninS ne62 nin0)).other W60 (Or.inr (sn_30 hw))).ext E64).keep hq72 (ninS ne79 nin0)).other W77 (Or.inr (sn_33 hw))).other W85 (Or.inr (sn_35 hw))).ext E88).keep hq95 (ninS ne101 nin0)).other W99 (Or.inr (sn_36 hw))
  have E105 := E102.wr W99
  obtain ⟨T103, h103, X103, e103, W103, st103⟩ := putF X99 hx hZ hown (host := "") (Or.inl (ow 136 rfl)) Via.refl e99 F104 E105 (Or.inr ⟨(ow 137 rfl), rfl, hnm⟩) (ow 92 rfl) (ty := (.object "java/lang/Object")) (by decide) rfl rfl (g := (mkF m 79 #[.val (.ref dd), .val (.ref gg)] [(.ref gg), (.ref dd)])) rfl rfl (dx 37 rfl)
  have Fw103 : f_21 Z h103 dd (.ref gg) := F104.same W103
  have N103 := Fr.snoc X103 N99 hg_dd
  have K103 : Keep h0 h103 [dd] := K99.wr W103 (Or.inl (own_mem (i := 0) rfl))
  have pre106 := fun (t : State) (k : Steps p.tables e below (T103.setTop (mkF m 82 #[.val (.ref dd), .val (.ref gg)] [])) t) => pre0 t (by
    refine XS.aloadN X0.here hx rfl (dx 0 rfl) rfl rfl ?_
    refine st1 _ ?_
    refine XS.aloadN X1.here hx rfl (dx 2 rfl) rfl rfl ?_
    refine st2 _ ?_
    refine XS.dup X2.here hx rfl (dx 4 rfl) rfl rfl ?_
    refine st8.trans ?_
    refine st15 _ ?_
    refine XS.aloadN X15.here hx rfl (dx 7 rfl) rfl rfl ?_
    refine st19 _ ?_
    refine XS.dup X19.here hx rfl (dx 9 rfl) rfl rfl ?_
    refine st23.trans ?_
    refine st28 _ ?_
    refine XS.aloadN X28.here hx rfl (dx 12 rfl) rfl rfl ?_
    refine st32 _ ?_
    refine XS.dup X32.here hx rfl (dx 14 rfl) rfl rfl ?_
    refine st36.trans ?_
    refine st43 _ ?_
    refine XS.aloadN X43.here hx rfl (dx 17 rfl) rfl rfl ?_
    refine st47 _ ?_
    refine XS.dup X47.here hx rfl (dx 19 rfl) rfl rfl ?_
    refine st53.trans ?_
    refine st60 _ ?_
    refine XS.aloadN X60.here hx rfl (dx 22 rfl) rfl rfl ?_
    refine st64 _ ?_
    refine XS.dup X64.here hx rfl (dx 24 rfl) rfl rfl ?_
    refine st70.trans ?_
    refine st77 _ ?_
    refine XS.aloadN X77.here hx rfl (dx 27 rfl) rfl rfl ?_
    refine st81 _ ?_
    refine st85 _ ?_
    refine XS.aloadN X85.here hx rfl (dx 30 rfl) rfl rfl ?_
    refine st88 _ ?_
    refine XS.dup X88.here hx rfl (dx 32 rfl) rfl rfl ?_
    refine st92.trans ?_
    refine st99 _ ?_
    refine XS.aloadN X99.here hx rfl (dx 35 rfl) rfl rfl ?_
    refine XS.aloadN X99.here hx rfl (dx 36 rfl) rfl rfl ?_
    refine st103 _ ?_
    exact k)
  have F107 := ((((((((((((((((Fw15.ext E19).keep hq25 (ninS ne30 nin0)).other W28 (Or.inr (sn_9 hw).symm)).ext E32).keep hq39 (ninS ne45 nin0)).other W43 (Or.inr (sn_10 hw).symm)).ext E47).keep hq55 (ninS ne62 nin0)).other W60 (Or.inr (sn_11 hw).symm)).ext E64).keep hq72 (ninS ne79 nin0)).other W77 (Or.inr (sn_12 hw).symm)).other W85 (Or.inr (sn_13 hw).symm)).ext E88).keep hq95 (ninS ne101 nin0)).other W99 (Or.inr (sn_14 hw).symm)).other W103 (Or.inr (sn_15 hw).symm)
  have F108 := (((((((((((((Fw28.ext E32).keep hq39 (ninS ne45 nin0)).other W43 (Or.inr (sn_16 hw).symm)).ext E47).keep hq55 (ninS ne62 nin0)).other W60 (Or.inr (sn_17 hw).symm)).ext E64).keep hq72 (ninS ne79 nin0)).other W77 (Or.inr (sn_18 hw).symm)).other W85 (Or.inr (sn_19 hw).symm)).ext E88).keep hq95 (ninS ne101 nin0)).other W99 (Or.inr (sn_20 hw).symm)).other W103 (Or.inr (sn_21 hw).symm)
  have F109 := (((((((Fw60.ext E64).keep hq72 (ninS ne79 nin0)).other W77 (Or.inr (sn_27 hw).symm)).other W85 (Or.inr (sn_28 hw).symm)).ext E88).keep hq95 (ninS ne101 nin0)).other W99 (Or.inr (sn_29 hw).symm)).other W103 (Or.inr (sn_30 hw).symm)
  have F110 := ((((Fw77.other W85 (Or.inr (sn_31 hw).symm)).ext E88).keep hq95 (ninS ne101 nin0)).other W99 (Or.inr (sn_32 hw).symm)).other W103 (Or.inr (sn_33 hw).symm)
  have F111 := Fw99.other W103 (Or.inr (sn_36 hw).symm)
  have F112 := (((Fw85.ext E88).keep hq95 (ninS ne101 nin0)).other W99 (Or.inr (sn_34 hw).symm)).other W103 (Or.inr (sn_35 hw).symm)
  have E113 := ((((((((((((((((((A2.keep hq10).wr W15).ext E19).keep hq25).wr W28).ext E32).keep hq39).wr W43).ext E47).keep hq55).wr W60).ext E64).keep hq72).wr W77).wr W85).ext E88).keep hq95).wr W99).wr W103
  have ne115 : b2 ≠ b19 := Nat.ne_of_lt (Nat.lt_of_lt_of_le ((A2.keep hq10).wr W15).lt (Nat.le_of_eq g19.symm))
  have ne116 : b2 ≠ b32 := Nat.ne_of_lt (Nat.lt_of_lt_of_le (((((A2.keep hq10).wr W15).ext E19).keep hq25).wr W28).lt (Nat.le_of_eq g32.symm))
  have ne117 : b2 ≠ b47 := Nat.ne_of_lt (Nat.lt_of_lt_of_le ((((((((A2.keep hq10).wr W15).ext E19).keep hq25).wr W28).ext E32).keep hq39).wr W43).lt (Nat.le_of_eq g47.symm))
  have ne118 : b2 ≠ b64 := Nat.ne_of_lt (Nat.lt_of_lt_of_le (((((((((((A2.keep hq10).wr W15).ext E19).keep hq25).wr W28).ext E32).keep hq39).wr W43).ext E47).keep hq55).wr W60).lt (Nat.le_of_eq g64.symm))
  have ne119 : b2 ≠ b88 := Nat.ne_of_lt (Nat.lt_of_lt_of_le (((((((((((((((A2.keep hq10).wr W15).ext E19).keep hq25).wr W28).ext E32).keep hq39).wr W43).ext E47).keep hq55).wr W60).ext E64).keep hq72).wr W77).wr W85).lt (Nat.le_of_eq g88.symm))
  have F114 := (((((((((((((((((F11.other W15 (Or.inl (Ne.symm ne17))).ext E19).keep hq25 (ninS ne115 nin0)).other W28 (Or.inl (Ne.symm ne17))).ext E32).keep hq39 (ninS ne116 nin0)).other W43 (Or.inl (Ne.symm ne17))).ext E47).keep hq55 (ninS ne117 nin0)).other W60 (Or.inl (Ne.symm ne17))).ext E64).keep hq72 (ninS ne118 nin0)).other W77 (Or.inl (Ne.symm ne17))).other W85 (Or.inl (Ne.symm ne17))).ext E88).keep hq95 (ninS ne119 nin0)).other W99 (Or.inl (Ne.symm ne17))).other W103 (Or.inl (Ne.symm ne17))
  have F120 := (((((((((((((((((F12.other W15 (Or.inl (Ne.symm ne17))).ext E19).keep hq25 (ninS ne115 nin0)).other W28 (Or.inl (Ne.symm ne17))).ext E32).keep hq39 (ninS ne116 nin0)).other W43 (Or.inl (Ne.symm ne17))).ext E47).keep hq55 (ninS ne117 nin0)).other W60 (Or.inl (Ne.symm ne17))).ext E64).keep hq72 (ninS ne118 nin0)).other W77 (Or.inl (Ne.symm ne17))).other W85 (Or.inl (Ne.symm ne17))).ext E88).keep hq95 (ninS ne119 nin0)).other W99 (Or.inl (Ne.symm ne17))).other W103 (Or.inl (Ne.symm ne17))
  have F121 := (((((((((((((((((F13.other W15 (Or.inl (Ne.symm ne17))).ext E19).keep hq25 (ninS ne115 nin0)).other W28 (Or.inl (Ne.symm ne17))).ext E32).keep hq39 (ninS ne116 nin0)).other W43 (Or.inl (Ne.symm ne17))).ext E47).keep hq55 (ninS ne117 nin0)).other W60 (Or.inl (Ne.symm ne17))).ext E64).keep hq72 (ninS ne118 nin0)).other W77 (Or.inl (Ne.symm ne17))).other W85 (Or.inl (Ne.symm ne17))).ext E88).keep hq95 (ninS ne119 nin0)).other W99 (Or.inl (Ne.symm ne17))).other W103 (Or.inl (Ne.symm ne17))
  have F122 := (((((((((((((((((F14.other W15 (Or.inl (Ne.symm ne17))).ext E19).keep hq25 (ninS ne115 nin0)).other W28 (Or.inl (Ne.symm ne17))).ext E32).keep hq39 (ninS ne116 nin0)).other W43 (Or.inl (Ne.symm ne17))).ext E47).keep hq55 (ninS ne117 nin0)).other W60 (Or.inl (Ne.symm ne17))).ext E64).keep hq72 (ninS ne118 nin0)).other W77 (Or.inl (Ne.symm ne17))).other W85 (Or.inl (Ne.symm ne17))).ext E88).keep hq95 (ninS ne119 nin0)).other W99 (Or.inl (Ne.symm ne17))).other W103 (Or.inl (Ne.symm ne17))
  have E123 := (((((((((((((((A19.keep hq25).wr W28).ext E32).keep hq39).wr W43).ext E47).keep hq55).wr W60).ext E64).keep hq72).wr W77).wr W85).ext E88).keep hq95).wr W99).wr W103
  have ne125 : b19 ≠ b32 := Nat.ne_of_lt (Nat.lt_of_lt_of_le ((A19.keep hq25).wr W28).lt (Nat.le_of_eq g32.symm))
  have ne126 : b19 ≠ b47 := Nat.ne_of_lt (Nat.lt_of_lt_of_le (((((A19.keep hq25).wr W28).ext E32).keep hq39).wr W43).lt (Nat.le_of_eq g47.symm))
  have ne127 : b19 ≠ b64 := Nat.ne_of_lt (Nat.lt_of_lt_of_le ((((((((A19.keep hq25).wr W28).ext E32).keep hq39).wr W43).ext E47).keep hq55).wr W60).lt (Nat.le_of_eq g64.symm))
  have ne128 : b19 ≠ b88 := Nat.ne_of_lt (Nat.lt_of_lt_of_le ((((((((((((A19.keep hq25).wr W28).ext E32).keep hq39).wr W43).ext E47).keep hq55).wr W60).ext E64).keep hq72).wr W77).wr W85).lt (Nat.le_of_eq g88.symm))
  have F124 := ((((((((((((((F26.other W28 (Or.inl (Ne.symm ne30))).ext E32).keep hq39 (ninS ne125 nin0)).other W43 (Or.inl (Ne.symm ne30))).ext E47).keep hq55 (ninS ne126 nin0)).other W60 (Or.inl (Ne.symm ne30))).ext E64).keep hq72 (ninS ne127 nin0)).other W77 (Or.inl (Ne.symm ne30))).other W85 (Or.inl (Ne.symm ne30))).ext E88).keep hq95 (ninS ne128 nin0)).other W99 (Or.inl (Ne.symm ne30))).other W103 (Or.inl (Ne.symm ne30))
  have F129 := ((((((((((((((F27.other W28 (Or.inl (Ne.symm ne30))).ext E32).keep hq39 (ninS ne125 nin0)).other W43 (Or.inl (Ne.symm ne30))).ext E47).keep hq55 (ninS ne126 nin0)).other W60 (Or.inl (Ne.symm ne30))).ext E64).keep hq72 (ninS ne127 nin0)).other W77 (Or.inl (Ne.symm ne30))).other W85 (Or.inl (Ne.symm ne30))).ext E88).keep hq95 (ninS ne128 nin0)).other W99 (Or.inl (Ne.symm ne30))).other W103 (Or.inl (Ne.symm ne30))
  have E130 := (((((((((A47.keep hq55).wr W60).ext E64).keep hq72).wr W77).wr W85).ext E88).keep hq95).wr W99).wr W103
  have ne132 : b47 ≠ b64 := Nat.ne_of_lt (Nat.lt_of_lt_of_le ((A47.keep hq55).wr W60).lt (Nat.le_of_eq g64.symm))
  have ne133 : b47 ≠ b88 := Nat.ne_of_lt (Nat.lt_of_lt_of_le ((((((A47.keep hq55).wr W60).ext E64).keep hq72).wr W77).wr W85).lt (Nat.le_of_eq g88.symm))
  have F131 := ((((((((F57.other W60 (Or.inl (Ne.symm ne62))).ext E64).keep hq72 (ninS ne132 nin0)).other W77 (Or.inl (Ne.symm ne62))).other W85 (Or.inl (Ne.symm ne62))).ext E88).keep hq95 (ninS ne133 nin0)).other W99 (Or.inl (Ne.symm ne62))).other W103 (Or.inl (Ne.symm ne62))
  have E134 := ((((((A64.keep hq72).wr W77).wr W85).ext E88).keep hq95).wr W99).wr W103
  have ne136 : b64 ≠ b88 := Nat.ne_of_lt (Nat.lt_of_lt_of_le (((A64.keep hq72).wr W77).wr W85).lt (Nat.le_of_eq g88.symm))
  have F135 := (((((F74.other W77 (Or.inl (Ne.symm ne79))).other W85 (Or.inl (Ne.symm ne79))).ext E88).keep hq95 (ninS ne136 nin0)).other W99 (Or.inl (Ne.symm ne79))).other W103 (Or.inl (Ne.symm ne79))
  have E137 := ((A88.keep hq95).wr W99).wr W103
  have F138 := (F98.other W99 (Or.inl (Ne.symm ne101))).other W103 (Or.inl (Ne.symm ne101))
  obtain ⟨fs, hr, hrun, hended, hW, hsame⟩ := X103.leave (v := none) (hlocks := BodyLoose.notSynchronized Bd) (fun _ => rfl)
  refine ⟨_, _, pre106 _ ?_, hrun, hended, _, _, rfl, ?_, ⟨_, rfl⟩, hW, hsame.mono (by decide) (by decide)⟩
  · exact X103.returnOut hx Bd.returns (dx 38 rfl) hr
  · show Q_ndI Z dd gg em ae h0 n0 _ T103.heap _
    rw [e103]
    exact ⟨b2, b19, b47, b64, b88, rfl, N103, K103, ge_b2, sz_b2, ge_b19, sz_b19, ge_b47, sz_b47, ge_b64, sz_b64, ge_b88, sz_b88, ne115, ne117, ne118, ne119, F107, F108, F109, F110, F111, F112, Fw103, E113, F114, F120, F121, F122, E123, F124, F129, E130, F131, E134, F135, E137, F138⟩

def Q_chI (Z : State) (dd : Addr) (gg : Addr) (no : Addr) (h0 : Heap) (n0 : Nat) (v : Option Value) (h : Heap) (L : List Loc) : Prop := v = none ∧ Fr n0 L ∧ Keep h0 h [dd] ∧ f_25 Z h dd (.int 0) ∧ f_23 Z h dd (.ref no) ∧ f_24 Z h dd (.ref gg)
set_option maxRecDepth 65536 in
set_option maxHeartbeats 40000000 in
theorem rm_chI (l : Launch) (Z : State) (a0 : Array Value) (hw : own_HW a0 Z) (ws : List Jvm.Cond) (dd : Addr) (gg : Addr) (no : Addr) (h0 : Heap) (n0 : Nat) (Z0 : n0 ≤ h0.size) (H0_E : e_26 Z h0 dd) (H1_S : Sta Z h0 "org/tallyrole/core/IntTrie$Chunk" "NONE" "[Ljava/lang/Object;" (.ref no)) (H2_F : f_25 Z h0 dd (.int 0)) (H3_F : f_23 Z h0 dd .null) (H4_F : f_24 Z h0 dd .null) (hg_dd : n0 ≤ dd) :
    own_M l yn_8 (Jvm.Cond.code yn_8 prog_47_method_1_code 2 none :: ws) ({ frames := 1, cells := 0, slots := 0, locals := 12 } : Room) Z #[(.ref dd), (.ref gg)] h0 (Q_chI Z dd gg no h0 n0) := by
  refine MetFree.of_bodySF (plainFor_of_name pn_8) hisR ?_
  intro p e s m args below meth c s₁ Bd hml0 hP hK
  have ow := @own_w a0 Z hw
  obtain ⟨rfl, hZ, hhp_⟩ := hP
  have hx := Bd.exec
  have hby := Bd.bytes
  have dx := @own_hd _ _ _ hby Dc18
  have hml : c.maxLocals = 2 := hml0
  have hown : s.vm.findClass "org/tallyrole/core/IntTrie$Chunk" = some m.cls := findClass_of_methodNamed Bd.named
  have hnm := (name_of_methodNamed Bd.named Bd.method).1
  have X0 : Stand p l e ({ frames := 1, cells := 0, slots := 0, locals := 12 } : Room) s m _ below meth c s₁ [] 0 0 := Stand.of_body Bd
  have e0 : s₁.heap = h0 := by rw [← hhp_, Bd.state]; rfl
  have N0 := Fr.nil n0
  have pre0 : ∀ t, Steps p.tables e below (s₁.setTop (mkF m 0 #[.val (.ref dd), .val (.ref gg)] [])) t → Steps p.tables e below (s₁.setTop (entryFrame m #[(.ref dd), (.ref gg)] 2)) t := fun t k => castTop rfl k
  have K0 : Keep h0 h0 [dd] := Keep.refl h0 [dd]
  obtain ⟨T1, X1, e1, st1⟩ := initO X0 hx hZ hown (ow 158 rfl) (ow 7 rfl) (ow 8 rfl) e0 (g := (mkF m 1 #[.val (.ref dd), .val (.ref gg)] [(.ref dd)])) rfl (by rw [hml]; rfl) rfl (dx 1 rfl) (by decide) (W := 0) (Nat.le_of_eq rfl) (by decide)
  obtain ⟨T2, X2, e2, st2⟩ := getS2 X1 hx hZ hown (host := "") (Or.inl (ow 159 rfl)) Via.refl e1 H1_S (g := (mkF m 5 #[.val (.ref dd), .val (.ref gg)] [(.ref dd)])) rfl (dx 3 rfl)
  obtain ⟨T3, h3, X3, e3, W3, st3⟩ := putF X2 hx hZ hown (host := "") (Or.inl (ow 161 rfl)) Via.refl e2 H3_F H0_E (Or.inl (ow 162 rfl)) (ow 153 rfl) (ty := (.array (.object "java/lang/Object"))) (by decide) rfl rfl (g := (mkF m 8 #[.val (.ref dd), .val (.ref gg)] [(.ref no), (.ref dd)])) rfl rfl (dx 4 rfl)
  have Fw3 : f_23 Z h3 dd (.ref no) := H3_F.same W3
  have N3 := Fr.snoc X3 N0 hg_dd
  have K3 : Keep h0 h3 [dd] := K0.wr W3 (Or.inl (own_mem (i := 0) rfl))
  have F5 := H4_F.other W3 (Or.inr (sn_38 hw))
  have E6 := H0_E.wr W3
  obtain ⟨T4, h4, X4, e4, W4, st4⟩ := putF X3 hx hZ hown (host := "") (Or.inl (ow 163 rfl)) Via.refl e3 F5 E6 (Or.inr ⟨(ow 164 rfl), rfl, hnm⟩) (ow 153 rfl) (ty := (.object "java/lang/Object")) (by decide) rfl rfl (g := (mkF m 13 #[.val (.ref dd), .val (.ref gg)] [(.ref gg), (.ref dd)])) rfl rfl (dx 7 rfl)
  have Fw4 : f_24 Z h4 dd (.ref gg) := F5.same W4
  have N4 := Fr.snoc X4 N3 hg_dd
  have K4 : Keep h0 h4 [dd] := K3.wr W4 (Or.inl (own_mem (i := 0) rfl))
  have pre7 := fun (t : State) (k : Steps p.tables e below (T4.setTop (mkF m 16 #[.val (.ref dd), .val (.ref gg)] [])) t) => pre0 t (by
    refine XS.aloadN X0.here hx rfl (dx 0 rfl) rfl rfl ?_
    refine st1 _ ?_
    refine XS.aloadN X1.here hx rfl (dx 2 rfl) rfl rfl ?_
    refine st2 _ ?_
    refine st3 _ ?_
    refine XS.aloadN X3.here hx rfl (dx 5 rfl) rfl rfl ?_
    refine XS.aloadN X3.here hx rfl (dx 6 rfl) rfl rfl ?_
    refine st4 _ ?_
    exact k)
  have F8 := (H2_F.other W3 (Or.inr (sn_37 hw))).other W4 (Or.inr (sn_39 hw))
  have F9 := Fw3.other W4 (Or.inr (sn_38 hw).symm)
  obtain ⟨fs, hr, hrun, hended, hW, hsame⟩ := X4.leave (v := none) (hlocks := BodyLoose.notSynchronized Bd) (fun _ => rfl)
  refine ⟨_, _, pre7 _ ?_, hrun, hended, _, _, rfl, ?_, ⟨_, rfl⟩, hW, hsame.mono (by decide) (by decide)⟩
  · exact X4.returnOut hx Bd.returns (dx 8 rfl) hr
  · show Q_chI Z dd gg no h0 n0 _ T4.heap _
    rw [e4]
    exact ⟨rfl, N4, K4, F8, F9, Fw4⟩

def Q_bcX (Z : State) (xx : Int32) (r : Int32) (h0 : Heap) (n0 : Nat) (v : Option Value) (h : Heap) (L : List Loc) : Prop := v = some (.int r) ∧ Fr n0 L ∧ h = h0
set_option maxRecDepth 65536 in
set_option maxHeartbeats 40000000 in
theorem rm_bcX (l : Launch) (Z : State) (a0 : Array Value) (hw : own_HW a0 Z) (ws : List Jvm.Cond) (xx : Int32) (r : Int32) (h0 : Heap) (n0 : Nat) (Z0 : n0 ≤ h0.size) (hb_ : own_bc xx = r) :
    own_M l yn_9 (Jvm.Cond.code yn_9 jdk_33_method_49_code 1 (some .int) :: ws) ({ frames := 0, cells := 0, slots := 0, locals := 0 } : Room) Z #[(.int xx)] h0 (Q_bcX Z xx r h0 n0) := by
  refine MetFree.of_bodySF (plainFor_of_name pn_9) hisR ?_
  intro p e s m args below meth c s₁ Bd hml0 hP hK
  have ow := @own_w a0 Z hw
  obtain ⟨rfl, hZ, hhp_⟩ := hP
  have hx := Bd.exec
  have hby := Bd.bytes
  have dx := @own_hd _ _ _ hby Dc20
  have hml : c.maxLocals = 1 := hml0
  have hown : s.vm.findClass "java/lang/Integer" = some m.cls := findClass_of_methodNamed Bd.named
  have hnm := (name_of_methodNamed Bd.named Bd.method).1
  have X0 : Stand p l e ({ frames := 0, cells := 0, slots := 0, locals := 0 } : Room) s m _ below meth c s₁ [] 0 0 := Stand.of_body Bd
  have e0 : s₁.heap = h0 := by rw [← hhp_, Bd.state]; rfl
  have N0 := Fr.nil n0
  have pre0 : ∀ t, Steps p.tables e below (s₁.setTop (mkF m 0 #[.val (.int xx)] [])) t → Steps p.tables e below (s₁.setTop (entryFrame m #[(.int xx)] 1)) t := fun t k => castTop rfl k
  have pre1 := fun (t : State) (k : Steps p.tables e below (s₁.setTop (mkF m 9 #[.val (.int xx)] [(.int (xx - (((xx.toUInt32 >>> ((1 : Int32) &&& 31).toUInt32).toInt32) &&& (1431655765 : Int32))))])) t) => pre0 t (by
    refine XS.iloadN X0.here hx rfl (dx 0 rfl) rfl ?_
    refine XS.iloadN X0.here hx rfl (dx 1 rfl) rfl ?_
    refine XS.iconst X0.here hx rfl (dx 2 rfl) ?_
    refine XS.iushr X0.here hx rfl (dx 3 rfl) rfl ?_
    refine X0.ldcwInt hx hown (mvT hZ (ow 176 rfl)) (g := (mkF m 4 #[.val (.int xx)] [(.int ((xx.toUInt32 >>> ((1 : Int32) &&& 31).toUInt32).toInt32)), (.int xx)])) rfl (dx 4 rfl) _ ?_
    refine XS.iand X0.here hx rfl (dx 5 rfl) rfl ?_
    refine XS.isub X0.here hx rfl (dx 6 rfl) rfl ?_
    exact k)
  obtain ⟨u2, h_u2⟩ : ∃ z : Int32, z = (xx - (((xx.toUInt32 >>> ((1 : Int32) &&& 31).toUInt32).toInt32) &&& (1431655765 : Int32))) := ⟨_, rfl⟩
  have pre3 := fun (t : State) (k : Steps p.tables e below (s₁.setTop (mkF m 9 #[.val (.int xx)] [(.int u2)])) t) => pre1 t (by rw [← h_u2]; exact k)
  have pre4 := fun (t : State) (k : Steps p.tables e below (s₁.setTop (mkF m 23 #[.val (.int u2)] [(.int ((u2 &&& (858993459 : Int32)) + (((u2.toUInt32 >>> ((2 : Int32) &&& 31).toUInt32).toInt32) &&& (858993459 : Int32))))])) t) => pre3 t (by
    refine XS.istoreN X0.here hx rfl (dx 7 rfl) rfl (l' := #[.val (.int u2)]) rfl ?_
    refine XS.iloadN X0.here hx rfl (dx 8 rfl) rfl ?_
    refine X0.ldcwInt hx hown (mvT hZ (ow 177 rfl)) (g := (mkF m 11 #[.val (.int u2)] [(.int u2)])) rfl (dx 9 rfl) _ ?_
    refine XS.iand X0.here hx rfl (dx 10 rfl) rfl ?_
    refine XS.iloadN X0.here hx rfl (dx 11 rfl) rfl ?_
    refine XS.iconst X0.here hx rfl (dx 12 rfl) ?_
    refine XS.iushr X0.here hx rfl (dx 13 rfl) rfl ?_
    refine X0.ldcwInt hx hown (mvT hZ (ow 177 rfl)) (g := (mkF m 18 #[.val (.int u2)] [(.int ((u2.toUInt32 >>> ((2 : Int32) &&& 31).toUInt32).toInt32)), (.int (u2 &&& (858993459 : Int32)))])) rfl (dx 14 rfl) _ ?_
    refine XS.iand X0.here hx rfl (dx 15 rfl) rfl ?_
    refine XS.iadd X0.here hx rfl (dx 16 rfl) rfl ?_
    exact k)
  obtain ⟨u5, h_u5⟩ : ∃ z : Int32, z = ((u2 &&& (858993459 : Int32)) + (((u2.toUInt32 >>> ((2 : Int32) &&& 31).toUInt32).toInt32) &&& (858993459 : Int32))) := ⟨_, rfl⟩
  have pre6 := fun (t : State) (k : Steps p.tables e below (s₁.setTop (mkF m 23 #[.val (.int u2)] [(.int u5)])) t) => pre4 t (by rw [← h_u5]; exact k)
  have pre7 := fun (t : State) (k : Steps p.tables e below (s₁.setTop (mkF m 33 #[.val (.int u5)] [(.int ((u5 + ((u5.toUInt32 >>> ((4 : Int32) &&& 31).toUInt32).toInt32)) &&& (252645135 : Int32)))])) t) => pre6 t (by
    refine XS.istoreN X0.here hx rfl (dx 17 rfl) rfl (l' := #[.val (.int u5)]) rfl ?_
    refine XS.iloadN X0.here hx rfl (dx 18 rfl) rfl ?_
    refine XS.iloadN X0.here hx rfl (dx 19 rfl) rfl ?_
    refine XS.iconst X0.here hx rfl (dx 20 rfl) ?_
    refine XS.iushr X0.here hx rfl (dx 21 rfl) rfl ?_
    refine XS.iadd X0.here hx rfl (dx 22 rfl) rfl ?_
    refine X0.ldcwInt hx hown (mvT hZ (ow 178 rfl)) (g := (mkF m 29 #[.val (.int u5)] [(.int (u5 + ((u5.toUInt32 >>> ((4 : Int32) &&& 31).toUInt32).toInt32)))])) rfl (dx 23 rfl) _ ?_
    refine XS.iand X0.here hx rfl (dx 24 rfl) rfl ?_
    exact k)
  obtain ⟨u8, h_u8⟩ : ∃ z : Int32, z = ((u5 + ((u5.toUInt32 >>> ((4 : Int32) &&& 31).toUInt32).toInt32)) &&& (252645135 : Int32)) := ⟨_, rfl⟩
  have pre9 := fun (t : State) (k : Steps p.tables e below (s₁.setTop (mkF m 33 #[.val (.int u5)] [(.int u8)])) t) => pre7 t (by rw [← h_u8]; exact k)
  have pre10 := fun (t : State) (k : Steps p.tables e below (s₁.setTop (mkF m 40 #[.val (.int u8)] [(.int (u8 + ((u8.toUInt32 >>> ((8 : Int32) &&& 31).toUInt32).toInt32)))])) t) => pre9 t (by
    refine XS.istoreN X0.here hx rfl (dx 25 rfl) rfl (l' := #[.val (.int u8)]) rfl ?_
    refine XS.iloadN X0.here hx rfl (dx 26 rfl) rfl ?_
    refine XS.iloadN X0.here hx rfl (dx 27 rfl) rfl ?_
    refine XS.bipush X0.here hx rfl (dx 28 rfl) ?_
    refine XS.iushr X0.here hx rfl (dx 29 rfl) rfl ?_
    refine XS.iadd X0.here hx rfl (dx 30 rfl) rfl ?_
    exact k)
  obtain ⟨u11, h_u11⟩ : ∃ z : Int32, z = (u8 + ((u8.toUInt32 >>> ((8 : Int32) &&& 31).toUInt32).toInt32)) := ⟨_, rfl⟩
  have pre12 := fun (t : State) (k : Steps p.tables e below (s₁.setTop (mkF m 40 #[.val (.int u8)] [(.int u11)])) t) => pre10 t (by rw [← h_u11]; exact k)
  have pre13 := fun (t : State) (k : Steps p.tables e below (s₁.setTop (mkF m 47 #[.val (.int u11)] [(.int (u11 + ((u11.toUInt32 >>> ((16 : Int32) &&& 31).toUInt32).toInt32)))])) t) => pre12 t (by
    refine XS.istoreN X0.here hx rfl (dx 31 rfl) rfl (l' := #[.val (.int u11)]) rfl ?_
    refine XS.iloadN X0.here hx rfl (dx 32 rfl) rfl ?_
    refine XS.iloadN X0.here hx rfl (dx 33 rfl) rfl ?_
    refine XS.bipush X0.here hx rfl (dx 34 rfl) ?_
    refine XS.iushr X0.here hx rfl (dx 35 rfl) rfl ?_
    refine XS.iadd X0.here hx rfl (dx 36 rfl) rfl ?_
    exact k)
  obtain ⟨u14, h_u14⟩ : ∃ z : Int32, z = (u11 + ((u11.toUInt32 >>> ((16 : Int32) &&& 31).toUInt32).toInt32)) := ⟨_, rfl⟩
  have pre15 := fun (t : State) (k : Steps p.tables e below (s₁.setTop (mkF m 47 #[.val (.int u11)] [(.int u14)])) t) => pre13 t (by rw [← h_u14]; exact k)
  have pre16 := fun (t : State) (k : Steps p.tables e below (s₁.setTop (mkF m 52 #[.val (.int u14)] [(.int (u14 &&& (63 : Int32)))])) t) => pre15 t (by
    refine XS.istoreN X0.here hx rfl (dx 37 rfl) rfl (l' := #[.val (.int u14)]) rfl ?_
    refine XS.iloadN X0.here hx rfl (dx 38 rfl) rfl ?_
    refine XS.bipush X0.here hx rfl (dx 39 rfl) ?_
    refine XS.iand X0.here hx rfl (dx 40 rfl) rfl ?_
    exact k)
  obtain ⟨fs, hr, hrun, hended, hW, hsame⟩ := X0.leave (v := some (.int (u14 &&& (63 : Int32)))) (hlocks := BodyLoose.notSynchronized Bd) (fun h => by rw [Bd.returns] at h; cases h)
  refine ⟨_, _, pre16 _ ?_, hrun, hended, _, _, rfl, ?_, ⟨_, rfl⟩, hW, hsame.mono (by decide) (by decide)⟩
  · exact retI X0 hx Bd.returns (dx 41 rfl) hr
  · show Q_bcX Z xx r h0 n0 _ s₁.heap _
    rw [e0]
    exact ⟨(by rw [← hb_]; subst h_u14; subst h_u11; subst h_u8; subst h_u5; subst h_u2; rfl), N0, rfl⟩

def Q_stA (Z : State) (ch : Addr) (ar : Addr) (ka : ClassId) (gg : Addr) (mm : Int32) (ln : Int32) (vs : List Value) (ix : Int32) (vv : Addr) (h0 : Heap) (n0 : Nat) (v : Option Value) (h : Heap) (L : List Loc) : Prop := ∃ xx : Addr, ∃ kx : ClassId, v = some (.ref ch) ∧ Fr n0 L ∧ Keep h0 h [ch] ∧ n0 ≤ xx ∧ h0.size ≤ xx ∧ f_25 Z h ch (.int (mm ||| ((1 : Int32) <<< (ix &&& 31)))) ∧ f_23 Z h ch (.ref xx) ∧ f_24 Z h ch (.ref gg) ∧ Arv Z h xx kx (.object "java/lang/Object") (ln + (1 : Int32)) (vs ++ [(.ref vv)]) .null
set_option maxRecDepth 65536 in
set_option maxHeartbeats 40000000 in
theorem rm_stA (l : Launch) (Z : State) (a0 : Array Value) (hw : own_HW a0 Z) (ws : List Jvm.Cond) (ch : Addr) (ar : Addr) (ka : ClassId) (gg : Addr) (mm : Int32) (ln : Int32) (vs : List Value) (ix : Int32) (vv : Addr) (h0 : Heap) (n0 : Nat) (Z0 : n0 ≤ h0.size) (H0_E : e_26 Z h0 ch) (H1_F : f_25 Z h0 ch (.int mm)) (H2_F : f_23 Z h0 ch (.ref ar)) (H3_F : f_24 Z h0 ch (.ref gg)) (H4_A : Arv Z h0 ar ka (.object "java/lang/Object") ln vs .null) (H5_I : own_In Z h0 vv) (H6_L : own_Ins Z h0 vs) (hg_ch : n0 ≤ ch) (hn_ch_ar : ch ≠ ar) (hab : (mm &&& ((1 : Int32) <<< (ix &&& 31))) = (0 : Int32)) (hps : own_bc (mm &&& (((1 : Int32) <<< (ix &&& 31)) - (1 : Int32))) = ln) (hln : own_ln ln vs) (hl3 : vs.length < 3) :
    own_M l yn_10 (Jvm.Cond.code yn_10 prog_47_method_4_code 7 (some (.object "org/tallyrole/core/IntTrie$Chunk")) :: ws) ({ frames := 1, cells := 1, slots := 3, locals := 18 } : Room) Z #[(.ref ch), (.int ix), (.ref vv)] h0 (Q_stA Z ch ar ka gg mm ln vs ix vv h0 n0) := by
  refine MetFree.of_bodySF (plainFor_of_name pn_8) hisR ?_
  intro p e s m args below meth c s₁ Bd hml0 hP hK
  have ow := @own_w a0 Z hw
  obtain ⟨rfl, hZ, hhp_⟩ := hP
  have hx := Bd.exec
  have hby := Bd.bytes
  have dx := @own_hd _ _ _ hby Dc19
  have hml : c.maxLocals = 7 := hml0
  have hown : s.vm.findClass "org/tallyrole/core/IntTrie$Chunk" = some m.cls := findClass_of_methodNamed Bd.named
  have hnm := (name_of_methodNamed Bd.named Bd.method).1
  have X0 : Stand p l e ({ frames := 1, cells := 1, slots := 3, locals := 18 } : Room) s m _ below meth c s₁ [] 0 0 := Stand.of_body Bd
  have e0 : s₁.heap = h0 := by rw [← hhp_, Bd.state]; rfl
  have N0 := Fr.nil n0
  have pre0 : ∀ t, Steps p.tables e below (s₁.setTop (mkF m 0 #[.val (.ref ch), .val (.int ix), .val (.ref vv), .unset, .unset, .unset, .unset] [])) t → Steps p.tables e below (s₁.setTop (entryFrame m #[(.ref ch), (.int ix), (.ref vv)] 7)) t := fun t k => castTop rfl k
  have K0 : Keep h0 h0 [ch] := Keep.refl h0 [ch]
  obtain ⟨T1, X1, e1, st1⟩ := getF X0 hx hZ hown (host := "") (Or.inl (ow 170 rfl)) Via.refl e0 H1_F (g := (mkF m 5 #[.val (.ref ch), .val (.int ix), .val (.ref vv), .val (.int ((1 : Int32) <<< (ix &&& 31))), .unset, .unset, .unset] [(.ref ch)])) rfl rfl (dx 5 rfl)
  obtain ⟨_, T2, Lc2, X2, hQ2, st2⟩ := own_rtC X1 (Jvm.LawKit.callS X1 hx (y := yn_9) hown (mvT hZ (ow 172 rfl)) (mvT hZ (ow 173 rfl)) (mvT hZ (ow 174 rfl)) (mvT hZ (ow 175 rfl)) (by decide) (backOf (W := 0) (rm_bcX l Z a0 hw [] (mm &&& (((1 : Int32) <<< (ix &&& 31)) - (1 : Int32))) ln h0 n0 Z0 hps) hZ (ow 175 rfl) (ow 174 rfl) (by decide) (by decide)) (g := (mkF m 12 #[.val (.ref ch), .val (.int ix), .val (.ref vv), .val (.int ((1 : Int32) <<< (ix &&& 31))), .unset, .unset, .unset] [(.int (mm &&& (((1 : Int32) <<< (ix &&& 31)) - (1 : Int32))))])) rfl (by rw [hml]; rfl) (argsL := [(.int (mm &&& (((1 : Int32) <<< (ix &&& 31)) - (1 : Int32))))]) (rest := []) (lenOf pd_2 rfl) rfl (Nat.le_of_eq rfl) (dx 10 rfl) (fun _ _ => ⟨rfl, e1, (by decide : 0 + 0 ≤ _), (by decide : 0 + 0 ≤ _)⟩))
  obtain ⟨rfl, N2q, hq3⟩ := hQ2
  have N2 := Fr.app N0 N2q
  obtain ⟨T4, X4, e4, st4⟩ := getF X2 hx hZ hown (host := "") (Or.inl (ow 170 rfl)) Via.refl hq3 H1_F (g := (mkF m 18 #[.val (.ref ch), .val (.int ix), .val (.ref vv), .val (.int ((1 : Int32) <<< (ix &&& 31))), .val (.int ln), .unset, .unset] [(.ref ch)])) rfl rfl (dx 13 rfl)
  obtain ⟨T5, X5, e5, st5⟩ := getF X4 hx hZ hown (host := "") (Or.inl (ow 161 rfl)) Via.refl e4 H2_F (g := (mkF m 130 #[.val (.ref ch), .val (.int ix), .val (.ref vv), .val (.int ((1 : Int32) <<< (ix &&& 31))), .val (.int ln), .val (.int 0), .unset] [(.ref ch)])) rfl rfl (dx 26 rfl)
  have oc6 := H4_A
  obtain ⟨c6, Arc6, qc6, Sc6, Nc6, Hc6, Gc6⟩ := oc6
  obtain ⟨T7, h7, k7, X7, e7, E7, A7, O7, st7⟩ := newR X5 hx hZ hown (ow 179 rfl) (ow 44 rfl) e5 (g := (mkF m 136 #[.val (.ref ch), .val (.int ix), .val (.ref vv), .val (.int ((1 : Int32) <<< (ix &&& 31))), .val (.int ln), .val (.int 0), .unset] [(.int (ln + (1 : Int32)))])) rfl (dx 30 rfl) rfl (own_a_nn hln hl3) (cap := 3) (own_a_cap hln hl3) (by decide) (by decide) (by decide)
  obtain ⟨b7, g7⟩ : ∃ z, z = h0.size := ⟨_, rfl⟩
  have ge_b7 : n0 ≤ b7 := Nat.le_trans Z0 (Nat.le_of_eq g7.symm)
  have sz_b7 : h0.size ≤ b7 := Nat.le_trans K0.1 (Nat.le_of_eq g7.symm)
  rw [← g7] at A7 st7
  have K7 : Keep h0 h7 [ch] := K0.ext E7
  have V7 : Arv Z h7 b7 k7 (.object "java/lang/Object") (ln + (1 : Int32)) (List.replicate ((ln + (1 : Int32))).toNatClampNeg .null) .null := own_pad (Arv.new A7 (own_a_nn hln hl3))
  have Ov_b7 := O7
  have F8 := H2_F.ext E7
  obtain ⟨T9, X9, e9, st9⟩ := getF X7 hx hZ hown (host := "") (Or.inl (ow 161 rfl)) Via.refl e7 F8 (g := (mkF m 142 #[.val (.ref ch), .val (.int ix), .val (.ref vv), .val (.int ((1 : Int32) <<< (ix &&& 31))), .val (.int ln), .val (.int 0), .val (.ref b7)] [(.ref ch)])) rfl rfl (dx 33 rfl)
  have A11 := H4_A.ext E7
  have L13 := H6_L.ext E7
  have oc12 := V7
  obtain ⟨c12, Arc12, qc12, Sc12, Nc12, Hc12, Gc12⟩ := oc12
  obtain ⟨T10, h10, L10, X10, e10, N10, K10q, A10, st10⟩ := cpA X9 hx hZ hown (ow 180 rfl) (ow 183 rfl) (ow 181 rfl) (ow 182 rfl) e9 A11 V7 (Or.inr ⟨rfl, rfl, own_StoL Arc12 qc12 Ov_b7 L13 (own_us _ _ _)⟩) (by decide) (by decide) (own_a_b1 hln hl3).1 (own_a_b1 hln hl3).2.1 (own_a_b1 hln hl3).2.2.1 (us := ((List.range (ln).toNatClampNeg).map fun i => (vs).getD (((0 : Int32)).toNatClampNeg + i) .null)) rfl (own_a_b1 hln hl3).2.2.2 N2 ge_b7 (g := (mkF m 151 #[.val (.ref ch), .val (.int ix), .val (.ref vv), .val (.int ((1 : Int32) <<< (ix &&& 31))), .val (.int ln), .val (.int 0), .val (.ref b7)] [(.int ln), (.int 0), (.ref b7), (.int 0), (.ref ar)])) rfl (by rw [hml]; rfl) rfl (dx 38 rfl) (by decide) (W := 0) (Nat.le_of_eq rfl) (by decide)
  have V10 : Arv Z h10 b7 k7 (.object "java/lang/Object") (ln + (1 : Int32)) (vs ++ [.null]) .null := own_arv_c A10 (own_a_c1 hln hl3)
  have K10 : Keep h0 h10 [ch] := K7.trans K10q (allS (Or.inr sz_b7) all0)
  have oc14 := V10
  obtain ⟨c14, Arc14, qc14, Sc14, Nc14, Hc14, Gc14⟩ := oc14
  have hin15 : ¬ (ln < 0 ∨ c14.slots.size ≤ (ln).toNatClampNeg) := (own_a_in Sc14 hln hl3)
  obtain ⟨T15, h15, X15, e15, W15, st15⟩ := stR X10 hx hZ e10 Arc14 (j := ln) hin15 rfl (Sto.ofV Arc14 qc14 Ov_b7 ((H5_I.ext E7).keep K10q).1) (g := (mkF m 159 #[.val (.ref ch), .val (.int ix), .val (.ref vv), .val (.int ((1 : Int32) <<< (ix &&& 31))), .val (.int ln), .val (.int 0), .val (.ref b7)] [(.ref vv), (.int ln), (.ref b7)])) rfl rfl (dx 42 rfl)
  have V15 : Arv Z h15 b7 k7 (.object "java/lang/Object") (ln + (1 : Int32)) (vs ++ [(.ref vv)]) .null := own_arv_c (Arv.set Arc14 qc14 Sc14 Nc14 Hc14 Gc14 rfl W15 vs.length (own_ln_cl hln) (by simp)) (own_a_set _ _)
  have N15 := Fr.snoc X15 N10 ge_b7
  have K15 : Keep h0 h15 [ch] := K10.wr W15 (Or.inr sz_b7)
  have ne17 : ch ≠ b7 := Nat.ne_of_lt (Nat.lt_of_lt_of_le H0_E.lt (Nat.le_of_eq g7.symm))
  have F16 := (F8.keep K10q (ninS ne17 nin0)).other W15 (Or.inl ne17)
  obtain ⟨T18, X18, e18, st18⟩ := getF X15 hx hZ hown (host := "") (Or.inl (ow 161 rfl)) Via.refl e15 F16 (g := (mkF m 161 #[.val (.ref ch), .val (.int ix), .val (.ref vv), .val (.int ((1 : Int32) <<< (ix &&& 31))), .val (.int ln), .val (.int 0), .val (.ref b7)] [(.ref ch)])) rfl rfl (dx 44 rfl)
  obtain ⟨T19, X19, e19, st19⟩ := getF X18 hx hZ hown (host := "") (Or.inl (ow 161 rfl)) Via.refl e18 F16 (g := (mkF m 173 #[.val (.ref ch), .val (.int ix), .val (.ref vv), .val (.int ((1 : Int32) <<< (ix &&& 31))), .val (.int ln), .val (.int 0), .val (.ref b7)] [(.ref ch), (.int (ln + (1 : Int32))), (.ref b7), (.int ln), (.ref ar)])) rfl rfl (dx 51 rfl)
  have ne21 : ar ≠ b7 := Nat.ne_of_lt (Nat.lt_of_lt_of_le H4_A.lt (Nat.le_of_eq g7.symm))
  have A20 := (A11.keep K10q (ninS ne21 nin0)).other W15 ne21
  have oc22 := A20
  obtain ⟨c22, Arc22, qc22, Sc22, Nc22, Hc22, Gc22⟩ := oc22
  have L25 := (L13.keep K10q).wr W15
  have oc24 := V15
  obtain ⟨c24, Arc24, qc24, Sc24, Nc24, Hc24, Gc24⟩ := oc24
  obtain ⟨T23, h23, L23, X23, e23, N23, K23q, A23, st23⟩ := cpA X19 hx hZ hown (ow 180 rfl) (ow 183 rfl) (ow 181 rfl) (ow 182 rfl) e19 A20 V15 (Or.inr ⟨rfl, rfl, own_StoL Arc24 qc24 Ov_b7 L25 (own_us _ _ _)⟩) (own_a_b2 (vv := .ref vv) hln hl3).1 (own_a_b2 (vv := .ref vv) hln hl3).2.1 (own_a_b2 (vv := .ref vv) hln hl3).2.2.1 (own_a_b2 (vv := .ref vv) hln hl3).2.2.2.1 (own_a_b2 (vv := .ref vv) hln hl3).2.2.2.2.1 (us := ((List.range ((ln - ln)).toNatClampNeg).map fun i => (vs).getD ((ln).toNatClampNeg + i) .null)) rfl (own_a_b2 hln hl3).2.2.2.2.2 N15 ge_b7 (g := (mkF m 180 #[.val (.ref ch), .val (.int ix), .val (.ref vv), .val (.int ((1 : Int32) <<< (ix &&& 31))), .val (.int ln), .val (.int 0), .val (.ref b7)] [(.int (ln - ln)), (.int (ln + (1 : Int32))), (.ref b7), (.int ln), (.ref ar)])) rfl (by rw [hml]; rfl) rfl (dx 55 rfl) (by decide) (W := 0) (Nat.le_of_eq rfl) (by decide)
  have V23 : Arv Z h23 b7 k7 (.object "java/lang/Object") (ln + (1 : Int32)) (vs ++ [(.ref vv)]) .null := own_arv_c A23 (own_a_c2 hln hl3)
  have K23 : Keep h0 h23 [ch] := K15.trans K23q (allS (Or.inr sz_b7) all0)
  have F27 := F16.keep K23q (ninS ne17 nin0)
  have E28 := (((H0_E.ext E7).keep K10q).wr W15).keep K23q
  obtain ⟨T26, h26, X26, e26, W26, st26⟩ := putF X23 hx hZ hown (host := "") (Or.inl (ow 161 rfl)) Via.refl e23 F27 E28 (Or.inl (ow 162 rfl)) (ow 153 rfl) (ty := (.array (.object "java/lang/Object"))) (by decide) rfl rfl (g := (mkF m 186 #[.val (.ref ch), .val (.int ix), .val (.ref vv), .val (.int ((1 : Int32) <<< (ix &&& 31))), .val (.int ln), .val (.int 0), .val (.ref b7)] [(.ref b7), (.ref ch)])) rfl rfl (dx 58 rfl)
  have Fw26 : f_23 Z h26 ch (.ref b7) := F27.same W26
  have N26 := Fr.snoc X26 N23 hg_ch
  have K26 : Keep h0 h26 [ch] := K23.wr W26 (Or.inl (own_mem (i := 0) rfl))
  have F29 := ((((H1_F.ext E7).keep K10q (ninS ne17 nin0)).other W15 (Or.inl ne17)).keep K23q (ninS ne17 nin0)).other W26 (Or.inr (sn_37 hw))
  obtain ⟨T30, X30, e30, st30⟩ := getF X26 hx hZ hown (host := "") (Or.inl (ow 170 rfl)) Via.refl e26 F29 (g := (mkF m 191 #[.val (.ref ch), .val (.int ix), .val (.ref vv), .val (.int ((1 : Int32) <<< (ix &&& 31))), .val (.int ln), .val (.int 0), .val (.ref b7)] [(.ref ch), (.ref ch)])) rfl rfl (dx 61 rfl)
  have E32 := E28.wr W26
  obtain ⟨T31, h31, X31, e31, W31, st31⟩ := putF X30 hx hZ hown (host := "") (Or.inl (ow 170 rfl)) Via.refl e30 F29 E32 (Or.inl (ow 171 rfl)) (ow 153 rfl) (ty := .int) (by decide) rfl rfl (g := (mkF m 196 #[.val (.ref ch), .val (.int ix), .val (.ref vv), .val (.int ((1 : Int32) <<< (ix &&& 31))), .val (.int ln), .val (.int 0), .val (.ref b7)] [(.int (mm ||| ((1 : Int32) <<< (ix &&& 31)))), (.ref ch)])) rfl rfl (dx 64 rfl)
  have Fw31 : f_25 Z h31 ch (.int (mm ||| ((1 : Int32) <<< (ix &&& 31)))) := F29.same W31
  have N31 := Fr.snoc X31 N26 hg_ch
  have K31 : Keep h0 h31 [ch] := K26.wr W31 (Or.inl (own_mem (i := 0) rfl))
  have pre33 := fun (t : State) (k : Steps p.tables e below (T31.setTop (mkF m 200 #[.val (.ref ch), .val (.int ix), .val (.ref vv), .val (.int ((1 : Int32) <<< (ix &&& 31))), .val (.int ln), .val (.int 0), .val (.ref b7)] [(.ref ch)])) t) => pre0 t (by
    refine XS.iconst X0.here hx rfl (dx 0 rfl) ?_
    refine XS.iloadN X0.here hx rfl (dx 1 rfl) rfl ?_
    refine XS.ishl X0.here hx rfl (dx 2 rfl) rfl ?_
    refine XS.istoreN X0.here hx rfl (dx 3 rfl) rfl (l' := #[.val (.ref ch), .val (.int ix), .val (.ref vv), .val (.int ((1 : Int32) <<< (ix &&& 31))), .unset, .unset, .unset]) rfl ?_
    refine XS.aloadN X0.here hx rfl (dx 4 rfl) rfl rfl ?_
    refine st1 _ ?_
    refine XS.iloadN X1.here hx rfl (dx 6 rfl) rfl ?_
    refine XS.iconst X1.here hx rfl (dx 7 rfl) ?_
    refine XS.isub X1.here hx rfl (dx 8 rfl) rfl ?_
    refine XS.iand X1.here hx rfl (dx 9 rfl) rfl ?_
    refine st2 _ ?_
    refine XS.istore X2.here hx rfl (dx 11 rfl) rfl (l' := #[.val (.ref ch), .val (.int ix), .val (.ref vv), .val (.int ((1 : Int32) <<< (ix &&& 31))), .val (.int ln), .unset, .unset]) rfl ?_
    refine XS.aloadN X2.here hx rfl (dx 12 rfl) rfl rfl ?_
    refine st4 _ ?_
    refine XS.iloadN X4.here hx rfl (dx 14 rfl) rfl ?_
    refine XS.iand X4.here hx rfl (dx 15 rfl) rfl ?_
    refine XS.ifYes X4.here hx rfl (pc0 := 23) (pc' := 30) rfl (dx 16 rfl) rfl ((if0 _ _).trans (teq hab).1) (by decide) (by decide) ?_
    refine XS.iconst X4.here hx rfl (dx 17 rfl) ?_
    refine XS.istore X4.here hx rfl (dx 18 rfl) rfl (l' := #[.val (.ref ch), .val (.int ix), .val (.ref vv), .val (.int ((1 : Int32) <<< (ix &&& 31))), .val (.int ln), .val (.int 0), .unset]) rfl ?_
    refine XS.iload X4.here hx rfl (dx 19 rfl) rfl ?_
    refine XS.ifYes X4.here hx rfl (pc0 := 35) (pc' := 53) rfl (dx 20 rfl) rfl ((if0 _ _).trans (teq (by decide : (0 : Int32) = (0 : Int32))).1) (by decide) (by decide) ?_
    refine XS.iload X4.here hx rfl (dx 21 rfl) rfl ?_
    refine XS.ifYes X4.here hx rfl (pc0 := 55) (pc' := 125) rfl (dx 22 rfl) rfl ((if0 _ _).trans (teq (by decide : (0 : Int32) = (0 : Int32))).1) (by decide) (by decide) ?_
    refine XS.aloadN X4.here hx rfl (dx 23 rfl) rfl rfl ?_
    refine XS.ifnullNo X4.here hx rfl (dx 24 rfl) rfl ?_
    refine XS.aloadN X4.here hx rfl (dx 25 rfl) rfl rfl ?_
    refine st5 _ ?_
    refine X5.arraylength hx (by rw [e5]; exact Arc6.1) (State.isArrayOf_alike hZ.alike Arc6.2.1) (g := (mkF m 133 #[.val (.ref ch), .val (.int ix), .val (.ref vv), .val (.int ((1 : Int32) <<< (ix &&& 31))), .val (.int ln), .val (.int 0), .unset] [(.ref ar)])) rfl rfl (dx 27 rfl) _ ?_
    rw [show c6.slots.size.toInt32 = ln from (len_of Sc6 Nc6)]
    refine XS.iconst X5.here hx rfl (dx 28 rfl) ?_
    refine XS.iadd X5.here hx rfl (dx 29 rfl) rfl ?_
    refine st7 _ ?_
    refine XS.astore X7.here hx rfl (dx 31 rfl) rfl rfl (l' := #[.val (.ref ch), .val (.int ix), .val (.ref vv), .val (.int ((1 : Int32) <<< (ix &&& 31))), .val (.int ln), .val (.int 0), .val (.ref b7)]) rfl ?_
    refine XS.aloadN X7.here hx rfl (dx 32 rfl) rfl rfl ?_
    refine st9 _ ?_
    refine XS.iconst X9.here hx rfl (dx 34 rfl) ?_
    refine XS.aload X9.here hx rfl (dx 35 rfl) rfl rfl ?_
    refine XS.iconst X9.here hx rfl (dx 36 rfl) ?_
    refine XS.iload X9.here hx rfl (dx 37 rfl) rfl ?_
    refine st10 _ ?_
    refine XS.aload X10.here hx rfl (dx 39 rfl) rfl rfl ?_
    refine XS.iload X10.here hx rfl (dx 40 rfl) rfl ?_
    refine XS.aloadN X10.here hx rfl (dx 41 rfl) rfl rfl ?_
    refine st15 _ ?_
    refine XS.aloadN X15.here hx rfl (dx 43 rfl) rfl rfl ?_
    refine st18 _ ?_
    refine XS.iload X18.here hx rfl (dx 45 rfl) rfl ?_
    refine XS.aload X18.here hx rfl (dx 46 rfl) rfl rfl ?_
    refine XS.iload X18.here hx rfl (dx 47 rfl) rfl ?_
    refine XS.iconst X18.here hx rfl (dx 48 rfl) ?_
    refine XS.iadd X18.here hx rfl (dx 49 rfl) rfl ?_
    refine XS.aloadN X18.here hx rfl (dx 50 rfl) rfl rfl ?_
    refine st19 _ ?_
    refine X19.arraylength hx (by rw [e19]; exact Arc22.1) (State.isArrayOf_alike hZ.alike Arc22.2.1) (g := (mkF m 176 #[.val (.ref ch), .val (.int ix), .val (.ref vv), .val (.int ((1 : Int32) <<< (ix &&& 31))), .val (.int ln), .val (.int 0), .val (.ref b7)] [(.ref ar), (.int (ln + (1 : Int32))), (.ref b7), (.int ln), (.ref ar)])) rfl rfl (dx 52 rfl) _ ?_
    rw [show c22.slots.size.toInt32 = ln from (len_of Sc22 Nc22)]
    refine XS.iload X19.here hx rfl (dx 53 rfl) rfl ?_
    refine XS.isub X19.here hx rfl (dx 54 rfl) rfl ?_
    refine st23 _ ?_
    refine XS.aloadN X23.here hx rfl (dx 56 rfl) rfl rfl ?_
    refine XS.aload X23.here hx rfl (dx 57 rfl) rfl rfl ?_
    refine st26 _ ?_
    refine XS.aloadN X26.here hx rfl (dx 59 rfl) rfl rfl ?_
    refine XS.dup X26.here hx rfl (dx 60 rfl) rfl rfl ?_
    refine st30 _ ?_
    refine XS.iloadN X30.here hx rfl (dx 62 rfl) rfl ?_
    refine XS.ior X30.here hx rfl (dx 63 rfl) rfl ?_
    refine st31 _ ?_
    refine XS.aloadN X31.here hx rfl (dx 65 rfl) rfl rfl ?_
    exact k)
  have F34 := Fw26.other W31 (Or.inr (sn_37 hw).symm)
  have F35 := (((((H3_F.ext E7).keep K10q (ninS ne17 nin0)).other W15 (Or.inl ne17)).keep K23q (ninS ne17 nin0)).other W26 (Or.inr (sn_38 hw))).other W31 (Or.inr (sn_39 hw).symm)
  have A36 := (V23.other W26 (Ne.symm ne17)).other W31 (Ne.symm ne17)
  obtain ⟨fs, hr, hrun, hended, hW, hsame⟩ := X31.leave (v := some (.ref ch)) (hlocks := BodyLoose.notSynchronized Bd) (fun h => by rw [Bd.returns] at h; cases h)
  refine ⟨_, _, pre33 _ ?_, hrun, hended, _, _, rfl, ?_, ⟨_, rfl⟩, hW, hsame.mono (by decide) (by decide)⟩
  · jvm_step X31.here [X31.here.top, hx, (dx 66 rfl), X31.method', Bd.returns, Value.isRef, FieldType.isReference]
    first | (intro acts; rw [hr _ acts rfl rfl rfl]) | rw [hr _ _ rfl rfl rfl]
    exact Steps.refl _
  · show Q_stA Z ch ar ka gg mm ln vs ix vv h0 n0 _ T31.heap _
    rw [e31]
    exact ⟨b7, k7, rfl, N31, K31, ge_b7, sz_b7, Fw31, F34, F35, A36⟩

def Q_stR (Z : State) (ch : Addr) (ar : Addr) (ka : ClassId) (gg : Addr) (mm : Int32) (ln : Int32) (vs : List Value) (ix : Int32) (ps : Int32) (pq : Nat) (h0 : Heap) (n0 : Nat) (v : Option Value) (h : Heap) (L : List Loc) : Prop := ∃ xx : Addr, ∃ kx : ClassId, v = some (.ref ch) ∧ Fr n0 L ∧ Keep h0 h [ch] ∧ n0 ≤ xx ∧ h0.size ≤ xx ∧ f_25 Z h ch (.int (mm &&& (((1 : Int32) <<< (ix &&& 31)) ^^^ (-1 : Int32)))) ∧ f_23 Z h ch (.ref xx) ∧ f_24 Z h ch (.ref gg) ∧ Arv Z h xx kx (.object "java/lang/Object") (ln - (1 : Int32)) (vs.eraseIdx pq) .null
set_option maxRecDepth 65536 in
set_option maxHeartbeats 40000000 in
theorem rm_stR (l : Launch) (Z : State) (a0 : Array Value) (hw : own_HW a0 Z) (ws : List Jvm.Cond) (ch : Addr) (ar : Addr) (ka : ClassId) (gg : Addr) (mm : Int32) (ln : Int32) (vs : List Value) (ix : Int32) (ps : Int32) (pq : Nat) (h0 : Heap) (n0 : Nat) (Z0 : n0 ≤ h0.size) (H0_E : e_26 Z h0 ch) (H1_F : f_25 Z h0 ch (.int mm)) (H2_F : f_23 Z h0 ch (.ref ar)) (H3_F : f_24 Z h0 ch (.ref gg)) (H4_A : Arv Z h0 ar ka (.object "java/lang/Object") ln vs .null) (H5_L : own_Ins Z h0 vs) (hg_ch : n0 ≤ ch) (hn_ch_ar : ch ≠ ar) (hp : ¬ ((mm &&& ((1 : Int32) <<< (ix &&& 31))) = (0 : Int32))) (hps : own_bc (mm &&& (((1 : Int32) <<< (ix &&& 31)) - (1 : Int32))) = ps) (hln : own_ln ln vs) (hpp : ps.toInt = (pq : Int)) (hpl : pq < vs.length) :
    own_M l yn_10 (Jvm.Cond.code yn_10 prog_47_method_4_code 7 (some (.object "org/tallyrole/core/IntTrie$Chunk")) :: ws) ({ frames := 1, cells := 1, slots := 3, locals := 18 } : Room) Z #[(.ref ch), (.int ix), .null] h0 (Q_stR Z ch ar ka gg mm ln vs ix ps pq h0 n0) := by
  refine MetFree.of_bodySF (plainFor_of_name pn_8) hisR ?_
  intro p e s m args below meth c s₁ Bd hml0 hP hK
  have ow := @own_w a0 Z hw
  obtain ⟨rfl, hZ, hhp_⟩ := hP
  have hx := Bd.exec
  have hby := Bd.bytes
  have dx := @own_hd _ _ _ hby Dc19
  have hml : c.maxLocals = 7 := hml0
  have hown : s.vm.findClass "org/tallyrole/core/IntTrie$Chunk" = some m.cls := findClass_of_methodNamed Bd.named
  have hnm := (name_of_methodNamed Bd.named Bd.method).1
  have X0 : Stand p l e ({ frames := 1, cells := 1, slots := 3, locals := 18 } : Room) s m _ below meth c s₁ [] 0 0 := Stand.of_body Bd
  have e0 : s₁.heap = h0 := by rw [← hhp_, Bd.state]; rfl
  have N0 := Fr.nil n0
  have pre0 : ∀ t, Steps p.tables e below (s₁.setTop (mkF m 0 #[.val (.ref ch), .val (.int ix), .val .null, .unset, .unset, .unset, .unset] [])) t → Steps p.tables e below (s₁.setTop (entryFrame m #[(.ref ch), (.int ix), .null] 7)) t := fun t k => castTop rfl k
  have K0 : Keep h0 h0 [ch] := Keep.refl h0 [ch]
  obtain ⟨T1, X1, e1, st1⟩ := getF X0 hx hZ hown (host := "") (Or.inl (ow 170 rfl)) Via.refl e0 H1_F (g := (mkF m 5 #[.val (.ref ch), .val (.int ix), .val .null, .val (.int ((1 : Int32) <<< (ix &&& 31))), .unset, .unset, .unset] [(.ref ch)])) rfl rfl (dx 5 rfl)
  obtain ⟨_, T2, Lc2, X2, hQ2, st2⟩ := own_rtC X1 (Jvm.LawKit.callS X1 hx (y := yn_9) hown (mvT hZ (ow 172 rfl)) (mvT hZ (ow 173 rfl)) (mvT hZ (ow 174 rfl)) (mvT hZ (ow 175 rfl)) (by decide) (backOf (W := 0) (rm_bcX l Z a0 hw [] (mm &&& (((1 : Int32) <<< (ix &&& 31)) - (1 : Int32))) ps h0 n0 Z0 hps) hZ (ow 175 rfl) (ow 174 rfl) (by decide) (by decide)) (g := (mkF m 12 #[.val (.ref ch), .val (.int ix), .val .null, .val (.int ((1 : Int32) <<< (ix &&& 31))), .unset, .unset, .unset] [(.int (mm &&& (((1 : Int32) <<< (ix &&& 31)) - (1 : Int32))))])) rfl (by rw [hml]; rfl) (argsL := [(.int (mm &&& (((1 : Int32) <<< (ix &&& 31)) - (1 : Int32))))]) (rest := []) (lenOf pd_2 rfl) rfl (Nat.le_of_eq rfl) (dx 10 rfl) (fun _ _ => ⟨rfl, e1, (by decide : 0 + 0 ≤ _), (by decide : 0 + 0 ≤ _)⟩))
  obtain ⟨rfl, N2q, hq3⟩ := hQ2
  have N2 := Fr.app N0 N2q
  obtain ⟨T4, X4, e4, st4⟩ := getF X2 hx hZ hown (host := "") (Or.inl (ow 170 rfl)) Via.refl hq3 H1_F (g := (mkF m 18 #[.val (.ref ch), .val (.int ix), .val .null, .val (.int ((1 : Int32) <<< (ix &&& 31))), .val (.int ps), .unset, .unset] [(.ref ch)])) rfl rfl (dx 13 rfl)
  obtain ⟨T5, X5, e5, st5⟩ := getF X4 hx hZ hown (host := "") (Or.inl (ow 161 rfl)) Via.refl e4 H2_F (g := (mkF m 59 #[.val (.ref ch), .val (.int ix), .val .null, .val (.int ((1 : Int32) <<< (ix &&& 31))), .val (.int ps), .val (.int 1), .unset] [(.ref ch)])) rfl rfl (dx 72 rfl)
  have oc6 := H4_A
  obtain ⟨c6, Arc6, qc6, Sc6, Nc6, Hc6, Gc6⟩ := oc6
  obtain ⟨T7, h7, k7, X7, e7, E7, A7, O7, st7⟩ := newR X5 hx hZ hown (ow 179 rfl) (ow 44 rfl) e5 (g := (mkF m 65 #[.val (.ref ch), .val (.int ix), .val .null, .val (.int ((1 : Int32) <<< (ix &&& 31))), .val (.int ps), .val (.int 1), .unset] [(.int (ln - (1 : Int32)))])) rfl (dx 76 rfl) rfl (own_r_nn hln hpp hpl) (cap := 3) (own_r_cap hln hpp hpl) (by decide) (by decide) (by decide)
  obtain ⟨b7, g7⟩ : ∃ z, z = h0.size := ⟨_, rfl⟩
  have ge_b7 : n0 ≤ b7 := Nat.le_trans Z0 (Nat.le_of_eq g7.symm)
  have sz_b7 : h0.size ≤ b7 := Nat.le_trans K0.1 (Nat.le_of_eq g7.symm)
  rw [← g7] at A7 st7
  have K7 : Keep h0 h7 [ch] := K0.ext E7
  have V7 : Arv Z h7 b7 k7 (.object "java/lang/Object") (ln - (1 : Int32)) (List.replicate ((ln - (1 : Int32))).toNatClampNeg .null) .null := own_pad (Arv.new A7 (own_r_nn hln hpp hpl))
  have Ov_b7 := O7
  have F8 := H2_F.ext E7
  obtain ⟨T9, X9, e9, st9⟩ := getF X7 hx hZ hown (host := "") (Or.inl (ow 161 rfl)) Via.refl e7 F8 (g := (mkF m 71 #[.val (.ref ch), .val (.int ix), .val .null, .val (.int ((1 : Int32) <<< (ix &&& 31))), .val (.int ps), .val (.int 1), .val (.ref b7)] [(.ref ch)])) rfl rfl (dx 79 rfl)
  have A11 := H4_A.ext E7
  have L13 := H5_L.ext E7
  have oc12 := V7
  obtain ⟨c12, Arc12, qc12, Sc12, Nc12, Hc12, Gc12⟩ := oc12
  obtain ⟨T10, h10, L10, X10, e10, N10, K10q, A10, st10⟩ := cpA X9 hx hZ hown (ow 180 rfl) (ow 183 rfl) (ow 181 rfl) (ow 182 rfl) e9 A11 V7 (Or.inr ⟨rfl, rfl, own_StoL Arc12 qc12 Ov_b7 L13 (own_us _ _ _)⟩) (by decide) (by decide) (own_r_b1 hln hpp hpl).1 (own_r_b1 hln hpp hpl).2.1 (own_r_b1 hln hpp hpl).2.2.1 (us := ((List.range (ps).toNatClampNeg).map fun i => (vs).getD (((0 : Int32)).toNatClampNeg + i) .null)) rfl (own_r_b1 hln hpp hpl).2.2.2 N2 ge_b7 (g := (mkF m 80 #[.val (.ref ch), .val (.int ix), .val .null, .val (.int ((1 : Int32) <<< (ix &&& 31))), .val (.int ps), .val (.int 1), .val (.ref b7)] [(.int ps), (.int 0), (.ref b7), (.int 0), (.ref ar)])) rfl (by rw [hml]; rfl) rfl (dx 84 rfl) (by decide) (W := 0) (Nat.le_of_eq rfl) (by decide)
  have V10 : Arv Z h10 b7 k7 (.object "java/lang/Object") (ln - (1 : Int32)) (own_r_l ln ps vs) .null := own_arv_c A10 rfl
  have K10 : Keep h0 h10 [ch] := K7.trans K10q (allS (Or.inr sz_b7) all0)
  have ne15 : ch ≠ b7 := Nat.ne_of_lt (Nat.lt_of_lt_of_le H0_E.lt (Nat.le_of_eq g7.symm))
  have F14 := F8.keep K10q (ninS ne15 nin0)
  obtain ⟨T16, X16, e16, st16⟩ := getF X10 hx hZ hown (host := "") (Or.inl (ow 161 rfl)) Via.refl e10 F14 (g := (mkF m 84 #[.val (.ref ch), .val (.int ix), .val .null, .val (.int ((1 : Int32) <<< (ix &&& 31))), .val (.int ps), .val (.int 1), .val (.ref b7)] [(.ref ch)])) rfl rfl (dx 86 rfl)
  have oc17 := V10
  obtain ⟨c17, Arc17, qc17, Sc17, Nc17, Hc17, Gc17⟩ := oc17
  have ne20 : ar ≠ b7 := Nat.ne_of_lt (Nat.lt_of_lt_of_le H4_A.lt (Nat.le_of_eq g7.symm))
  have A19 := A11.keep K10q (ninS ne20 nin0)
  have L22 := L13.keep K10q
  have oc21 := V10
  obtain ⟨c21, Arc21, qc21, Sc21, Nc21, Hc21, Gc21⟩ := oc21
  obtain ⟨T18, h18, L18, X18, e18, N18, K18q, A18, st18⟩ := cpA X16 hx hZ hown (ow 180 rfl) (ow 183 rfl) (ow 181 rfl) (ow 182 rfl) e16 A19 V10 (Or.inr ⟨rfl, rfl, own_StoL Arc21 qc21 Ov_b7 L22 (own_us _ _ _)⟩) (own_r_b2 hln hpp hpl).1 (own_r_b2 hln hpp hpl).2.1 (own_r_b2 hln hpp hpl).2.2.1 (own_r_b2 hln hpp hpl).2.2.2.1 (own_r_b2 hln hpp hpl).2.2.2.2.1 (us := ((List.range (((ln - (1 : Int32)) - ps)).toNatClampNeg).map fun i => (vs).getD (((ps + (1 : Int32))).toNatClampNeg + i) .null)) rfl (own_r_b2 hln hpp hpl).2.2.2.2.2 N10 ge_b7 (g := (mkF m 101 #[.val (.ref ch), .val (.int ix), .val .null, .val (.int ((1 : Int32) <<< (ix &&& 31))), .val (.int ps), .val (.int 1), .val (.ref b7)] [(.int ((ln - (1 : Int32)) - ps)), (.int ps), (.ref b7), (.int (ps + (1 : Int32))), (.ref ar)])) rfl (by rw [hml]; rfl) rfl (dx 96 rfl) (by decide) (W := 0) (Nat.le_of_eq rfl) (by decide)
  have V18 : Arv Z h18 b7 k7 (.object "java/lang/Object") (ln - (1 : Int32)) (vs.eraseIdx pq) .null := own_arv_c A18 (own_r_c2 hln hpp hpl)
  have K18 : Keep h0 h18 [ch] := K10.trans K18q (allS (Or.inr sz_b7) all0)
  have F24 := F14.keep K18q (ninS ne15 nin0)
  have E25 := ((H0_E.ext E7).keep K10q).keep K18q
  obtain ⟨T23, h23, X23, e23, W23, st23⟩ := putF X18 hx hZ hown (host := "") (Or.inl (ow 161 rfl)) Via.refl e18 F24 E25 (Or.inl (ow 162 rfl)) (ow 153 rfl) (ty := (.array (.object "java/lang/Object"))) (by decide) rfl rfl (g := (mkF m 107 #[.val (.ref ch), .val (.int ix), .val .null, .val (.int ((1 : Int32) <<< (ix &&& 31))), .val (.int ps), .val (.int 1), .val (.ref b7)] [(.ref b7), (.ref ch)])) rfl rfl (dx 99 rfl)
  have Fw23 : f_23 Z h23 ch (.ref b7) := F24.same W23
  have N23 := Fr.snoc X23 N18 hg_ch
  have K23 : Keep h0 h23 [ch] := K18.wr W23 (Or.inl (own_mem (i := 0) rfl))
  have F26 := (((H1_F.ext E7).keep K10q (ninS ne15 nin0)).keep K18q (ninS ne15 nin0)).other W23 (Or.inr (sn_37 hw))
  obtain ⟨T27, X27, e27, st27⟩ := getF X23 hx hZ hown (host := "") (Or.inl (ow 170 rfl)) Via.refl e23 F26 (g := (mkF m 112 #[.val (.ref ch), .val (.int ix), .val .null, .val (.int ((1 : Int32) <<< (ix &&& 31))), .val (.int ps), .val (.int 1), .val (.ref b7)] [(.ref ch), (.ref ch)])) rfl rfl (dx 102 rfl)
  have E29 := E25.wr W23
  obtain ⟨T28, h28, X28, e28, W28, st28⟩ := putF X27 hx hZ hown (host := "") (Or.inl (ow 170 rfl)) Via.refl e27 F26 E29 (Or.inl (ow 171 rfl)) (ow 153 rfl) (ty := .int) (by decide) rfl rfl (g := (mkF m 119 #[.val (.ref ch), .val (.int ix), .val .null, .val (.int ((1 : Int32) <<< (ix &&& 31))), .val (.int ps), .val (.int 1), .val (.ref b7)] [(.int (mm &&& (((1 : Int32) <<< (ix &&& 31)) ^^^ (-1 : Int32)))), (.ref ch)])) rfl rfl (dx 107 rfl)
  have Fw28 : f_25 Z h28 ch (.int (mm &&& (((1 : Int32) <<< (ix &&& 31)) ^^^ (-1 : Int32)))) := F26.same W28
  have N28 := Fr.snoc X28 N23 hg_ch
  have K28 : Keep h0 h28 [ch] := K23.wr W28 (Or.inl (own_mem (i := 0) rfl))
  have pre30 := fun (t : State) (k : Steps p.tables e below (T28.setTop (mkF m 200 #[.val (.ref ch), .val (.int ix), .val .null, .val (.int ((1 : Int32) <<< (ix &&& 31))), .val (.int ps), .val (.int 1), .val (.ref b7)] [(.ref ch)])) t) => pre0 t (by
    refine XS.iconst X0.here hx rfl (dx 0 rfl) ?_
    refine XS.iloadN X0.here hx rfl (dx 1 rfl) rfl ?_
    refine XS.ishl X0.here hx rfl (dx 2 rfl) rfl ?_
    refine XS.istoreN X0.here hx rfl (dx 3 rfl) rfl (l' := #[.val (.ref ch), .val (.int ix), .val .null, .val (.int ((1 : Int32) <<< (ix &&& 31))), .unset, .unset, .unset]) rfl ?_
    refine XS.aloadN X0.here hx rfl (dx 4 rfl) rfl rfl ?_
    refine st1 _ ?_
    refine XS.iloadN X1.here hx rfl (dx 6 rfl) rfl ?_
    refine XS.iconst X1.here hx rfl (dx 7 rfl) ?_
    refine XS.isub X1.here hx rfl (dx 8 rfl) rfl ?_
    refine XS.iand X1.here hx rfl (dx 9 rfl) rfl ?_
    refine st2 _ ?_
    refine XS.istore X2.here hx rfl (dx 11 rfl) rfl (l' := #[.val (.ref ch), .val (.int ix), .val .null, .val (.int ((1 : Int32) <<< (ix &&& 31))), .val (.int ps), .unset, .unset]) rfl ?_
    refine XS.aloadN X2.here hx rfl (dx 12 rfl) rfl rfl ?_
    refine st4 _ ?_
    refine XS.iloadN X4.here hx rfl (dx 14 rfl) rfl ?_
    refine XS.iand X4.here hx rfl (dx 15 rfl) rfl ?_
    refine XS.ifNo X4.here hx rfl (dx 16 rfl) rfl ((if0 _ _).trans (feq hp).1) ?_
    refine XS.iconst X4.here hx rfl (dx 67 rfl) ?_
    refine XS.goto X4.here hx rfl (pc0 := 27) (pc' := 31) rfl (dx 68 rfl) (by decide) (by decide) ?_
    refine XS.istore X4.here hx rfl (dx 18 rfl) rfl (l' := #[.val (.ref ch), .val (.int ix), .val .null, .val (.int ((1 : Int32) <<< (ix &&& 31))), .val (.int ps), .val (.int 1), .unset]) rfl ?_
    refine XS.iload X4.here hx rfl (dx 19 rfl) rfl ?_
    refine XS.ifNo X4.here hx rfl (dx 20 rfl) rfl ((if0 _ _).trans (feq (by decide : ¬ ((1 : Int32) = (0 : Int32)))).1) ?_
    refine XS.aloadN X4.here hx rfl (dx 69 rfl) rfl rfl ?_
    refine XS.ifnullYes X4.here hx rfl (pc0 := 39) (pc' := 53) rfl (dx 70 rfl) rfl (by decide) (by decide) ?_
    refine XS.iload X4.here hx rfl (dx 21 rfl) rfl ?_
    refine XS.ifNo X4.here hx rfl (dx 22 rfl) rfl ((if0 _ _).trans (feq (by decide : ¬ ((1 : Int32) = (0 : Int32)))).1) ?_
    refine XS.aloadN X4.here hx rfl (dx 71 rfl) rfl rfl ?_
    refine st5 _ ?_
    refine X5.arraylength hx (by rw [e5]; exact Arc6.1) (State.isArrayOf_alike hZ.alike Arc6.2.1) (g := (mkF m 62 #[.val (.ref ch), .val (.int ix), .val .null, .val (.int ((1 : Int32) <<< (ix &&& 31))), .val (.int ps), .val (.int 1), .unset] [(.ref ar)])) rfl rfl (dx 73 rfl) _ ?_
    rw [show c6.slots.size.toInt32 = ln from (len_of Sc6 Nc6)]
    refine XS.iconst X5.here hx rfl (dx 74 rfl) ?_
    refine XS.isub X5.here hx rfl (dx 75 rfl) rfl ?_
    refine st7 _ ?_
    refine XS.astore X7.here hx rfl (dx 77 rfl) rfl rfl (l' := #[.val (.ref ch), .val (.int ix), .val .null, .val (.int ((1 : Int32) <<< (ix &&& 31))), .val (.int ps), .val (.int 1), .val (.ref b7)]) rfl ?_
    refine XS.aloadN X7.here hx rfl (dx 78 rfl) rfl rfl ?_
    refine st9 _ ?_
    refine XS.iconst X9.here hx rfl (dx 80 rfl) ?_
    refine XS.aload X9.here hx rfl (dx 81 rfl) rfl rfl ?_
    refine XS.iconst X9.here hx rfl (dx 82 rfl) ?_
    refine XS.iload X9.here hx rfl (dx 83 rfl) rfl ?_
    refine st10 _ ?_
    refine XS.aloadN X10.here hx rfl (dx 85 rfl) rfl rfl ?_
    refine st16 _ ?_
    refine XS.iload X16.here hx rfl (dx 87 rfl) rfl ?_
    refine XS.iconst X16.here hx rfl (dx 88 rfl) ?_
    refine XS.iadd X16.here hx rfl (dx 89 rfl) rfl ?_
    refine XS.aload X16.here hx rfl (dx 90 rfl) rfl rfl ?_
    refine XS.iload X16.here hx rfl (dx 91 rfl) rfl ?_
    refine XS.aload X16.here hx rfl (dx 92 rfl) rfl rfl ?_
    refine X16.arraylength hx (by rw [e16]; exact Arc17.1) (State.isArrayOf_alike hZ.alike Arc17.2.1) (g := (mkF m 97 #[.val (.ref ch), .val (.int ix), .val .null, .val (.int ((1 : Int32) <<< (ix &&& 31))), .val (.int ps), .val (.int 1), .val (.ref b7)] [(.ref b7), (.int ps), (.ref b7), (.int (ps + (1 : Int32))), (.ref ar)])) rfl rfl (dx 93 rfl) _ ?_
    rw [show c17.slots.size.toInt32 = (ln - (1 : Int32)) from (len_of Sc17 Nc17)]
    refine XS.iload X16.here hx rfl (dx 94 rfl) rfl ?_
    refine XS.isub X16.here hx rfl (dx 95 rfl) rfl ?_
    refine st18 _ ?_
    refine XS.aloadN X18.here hx rfl (dx 97 rfl) rfl rfl ?_
    refine XS.aload X18.here hx rfl (dx 98 rfl) rfl rfl ?_
    refine st23 _ ?_
    refine XS.aloadN X23.here hx rfl (dx 100 rfl) rfl rfl ?_
    refine XS.dup X23.here hx rfl (dx 101 rfl) rfl rfl ?_
    refine st27 _ ?_
    refine XS.iloadN X27.here hx rfl (dx 103 rfl) rfl ?_
    refine XS.iconst X27.here hx rfl (dx 104 rfl) ?_
    refine XS.ixor X27.here hx rfl (dx 105 rfl) rfl ?_
    refine XS.iand X27.here hx rfl (dx 106 rfl) rfl ?_
    refine st28 _ ?_
    refine XS.goto X28.here hx rfl (pc0 := 122) (pc' := 199) rfl (dx 108 rfl) (by decide) (by decide) ?_
    refine XS.aloadN X28.here hx rfl (dx 65 rfl) rfl rfl ?_
    exact k)
  have F31 := Fw23.other W28 (Or.inr (sn_37 hw).symm)
  have F32 := ((((H3_F.ext E7).keep K10q (ninS ne15 nin0)).keep K18q (ninS ne15 nin0)).other W23 (Or.inr (sn_38 hw))).other W28 (Or.inr (sn_39 hw).symm)
  have A33 := (V18.other W23 (Ne.symm ne15)).other W28 (Ne.symm ne15)
  obtain ⟨fs, hr, hrun, hended, hW, hsame⟩ := X28.leave (v := some (.ref ch)) (hlocks := BodyLoose.notSynchronized Bd) (fun h => by rw [Bd.returns] at h; cases h)
  refine ⟨_, _, pre30 _ ?_, hrun, hended, _, _, rfl, ?_, ⟨_, rfl⟩, hW, hsame.mono (by decide) (by decide)⟩
  · jvm_step X28.here [X28.here.top, hx, (dx 66 rfl), X28.method', Bd.returns, Value.isRef, FieldType.isReference]
    first | (intro acts; rw [hr _ acts rfl rfl rfl]) | rw [hr _ _ rfl rfl rfl]
    exact Steps.refl _
  · show Q_stR Z ch ar ka gg mm ln vs ix ps pq h0 n0 _ T28.heap _
    rw [e28]
    exact ⟨b7, k7, rfl, N28, K28, ge_b7, sz_b7, Fw28, F31, F32, A33⟩

def Q_slG (Z : State) (ch : Addr) (ar : Addr) (ka : ClassId) (mm : Int32) (ln : Int32) (vs : List Value) (ix : Int32) (r : Addr) (h0 : Heap) (n0 : Nat) (v : Option Value) (h : Heap) (L : List Loc) : Prop := v = some (.ref r) ∧ Fr n0 L ∧ h = h0
set_option maxRecDepth 65536 in
set_option maxHeartbeats 40000000 in
theorem rm_slG (l : Launch) (Z : State) (a0 : Array Value) (hw : own_HW a0 Z) (ws : List Jvm.Cond) (ch : Addr) (ar : Addr) (ka : ClassId) (mm : Int32) (ln : Int32) (vs : List Value) (ix : Int32) (r : Addr) (h0 : Heap) (n0 : Nat) (Z0 : n0 ≤ h0.size) (H0_F : f_25 Z h0 ch (.int mm)) (H1_F : f_23 Z h0 ch (.ref ar)) (H2_A : Arv Z h0 ar ka (.object "java/lang/Object") ln vs .null) (hp : ¬ ((mm &&& ((1 : Int32) <<< (ix &&& 31))) = (0 : Int32))) (hv : own_ref vs ln (own_bc (mm &&& (((1 : Int32) <<< (ix &&& 31)) - (1 : Int32)))) r) :
    own_M l yn_11 (Jvm.Cond.code yn_11 prog_47_method_2_code 3 (some (.object "java/lang/Object")) :: ws) ({ frames := 1, cells := 0, slots := 0, locals := 13 } : Room) Z #[(.ref ch), (.int ix)] h0 (Q_slG Z ch ar ka mm ln vs ix r h0 n0) := by
  refine MetFree.of_bodySF (plainFor_of_name pn_8) hisR ?_
  intro p e s m args below meth c s₁ Bd hml0 hP hK
  have ow := @own_w a0 Z hw
  obtain ⟨rfl, hZ, hhp_⟩ := hP
  have hx := Bd.exec
  have hby := Bd.bytes
  have dx := @own_hd _ _ _ hby Dc26
  have hml : c.maxLocals = 3 := hml0
  have hown : s.vm.findClass "org/tallyrole/core/IntTrie$Chunk" = some m.cls := findClass_of_methodNamed Bd.named
  have hnm := (name_of_methodNamed Bd.named Bd.method).1
  have X0 : Stand p l e ({ frames := 1, cells := 0, slots := 0, locals := 13 } : Room) s m _ below meth c s₁ [] 0 0 := Stand.of_body Bd
  have e0 : s₁.heap = h0 := by rw [← hhp_, Bd.state]; rfl
  have N0 := Fr.nil n0
  have pre0 : ∀ t, Steps p.tables e below (s₁.setTop (mkF m 0 #[.val (.ref ch), .val (.int ix), .unset] [])) t → Steps p.tables e below (s₁.setTop (entryFrame m #[(.ref ch), (.int ix)] 3)) t := fun t k => castTop rfl k
  obtain ⟨T1, X1, e1, st1⟩ := getF X0 hx hZ hown (host := "") (Or.inl (ow 170 rfl)) Via.refl e0 H0_F (g := (mkF m 5 #[.val (.ref ch), .val (.int ix), .val (.int ((1 : Int32) <<< (ix &&& 31)))] [(.ref ch)])) rfl rfl (dx 5 rfl)
  obtain ⟨T2, X2, e2, st2⟩ := getF X1 hx hZ hown (host := "") (Or.inl (ow 161 rfl)) Via.refl e1 H1_F (g := (mkF m 18 #[.val (.ref ch), .val (.int ix), .val (.int ((1 : Int32) <<< (ix &&& 31)))] [(.ref ch)])) rfl rfl (dx 10 rfl)
  obtain ⟨T3, X3, e3, st3⟩ := getF X2 hx hZ hown (host := "") (Or.inl (ow 170 rfl)) Via.refl e2 H0_F (g := (mkF m 22 #[.val (.ref ch), .val (.int ix), .val (.int ((1 : Int32) <<< (ix &&& 31)))] [(.ref ch), (.ref ar)])) rfl rfl (dx 12 rfl)
  obtain ⟨_, T4, Lc4, X4, hQ4, st4⟩ := own_rtC X3 (Jvm.LawKit.callS X3 hx (y := yn_9) hown (mvT hZ (ow 172 rfl)) (mvT hZ (ow 173 rfl)) (mvT hZ (ow 174 rfl)) (mvT hZ (ow 175 rfl)) (by decide) (backOf (W := 1) (rm_bcX l Z a0 hw [] (mm &&& (((1 : Int32) <<< (ix &&& 31)) - (1 : Int32))) (own_bc (mm &&& (((1 : Int32) <<< (ix &&& 31)) - (1 : Int32)))) h0 n0 Z0 rfl) hZ (ow 175 rfl) (ow 174 rfl) (by decide) (by decide)) (g := (mkF m 29 #[.val (.ref ch), .val (.int ix), .val (.int ((1 : Int32) <<< (ix &&& 31)))] [(.int (mm &&& (((1 : Int32) <<< (ix &&& 31)) - (1 : Int32)))), (.ref ar)])) rfl (by rw [hml]; rfl) (argsL := [(.int (mm &&& (((1 : Int32) <<< (ix &&& 31)) - (1 : Int32))))]) (rest := [(.ref ar)]) (lenOf pd_2 rfl) rfl (Nat.le_of_eq rfl) (dx 17 rfl) (fun _ _ => ⟨rfl, e3, (by decide : 0 + 0 ≤ _), (by decide : 0 + 0 ≤ _)⟩))
  obtain ⟨rfl, N4q, hq5⟩ := hQ4
  have N4 := Fr.app N0 N4q
  have oc6 := H2_A
  obtain ⟨c6, Arc6, qc6, Sc6, Nc6, Hc6, Gc6⟩ := oc6
  have hin7 : ¬ ((own_bc (mm &&& (((1 : Int32) <<< (ix &&& 31)) - (1 : Int32)))) < 0 ∨ c6.slots.size ≤ ((own_bc (mm &&& (((1 : Int32) <<< (ix &&& 31)) - (1 : Int32))))).toNatClampNeg) := (own_ref_in Sc6 hv)
  have pre8 := fun (t : State) (k : Steps p.tables e below (T4.setTop (mkF m 33 #[.val (.ref ch), .val (.int ix), .val (.int ((1 : Int32) <<< (ix &&& 31)))] [(.ref r)])) t) => pre0 t (by
    refine XS.iconst X0.here hx rfl (dx 0 rfl) ?_
    refine XS.iloadN X0.here hx rfl (dx 1 rfl) rfl ?_
    refine XS.ishl X0.here hx rfl (dx 2 rfl) rfl ?_
    refine XS.istoreN X0.here hx rfl (dx 3 rfl) rfl (l' := #[.val (.ref ch), .val (.int ix), .val (.int ((1 : Int32) <<< (ix &&& 31)))]) rfl ?_
    refine XS.aloadN X0.here hx rfl (dx 4 rfl) rfl rfl ?_
    refine st1 _ ?_
    refine XS.iloadN X1.here hx rfl (dx 6 rfl) rfl ?_
    refine XS.iand X1.here hx rfl (dx 7 rfl) rfl ?_
    refine XS.ifYes X1.here hx rfl (pc0 := 10) (pc' := 17) rfl (dx 8 rfl) rfl ((if0 _ _).trans (feq hp).2) (by decide) (by decide) ?_
    refine XS.aloadN X1.here hx rfl (dx 9 rfl) rfl rfl ?_
    refine st2 _ ?_
    refine XS.aloadN X2.here hx rfl (dx 11 rfl) rfl rfl ?_
    refine st3 _ ?_
    refine XS.iloadN X3.here hx rfl (dx 13 rfl) rfl ?_
    refine XS.iconst X3.here hx rfl (dx 14 rfl) ?_
    refine XS.isub X3.here hx rfl (dx 15 rfl) rfl ?_
    refine XS.iand X3.here hx rfl (dx 16 rfl) rfl ?_
    refine st4 _ ?_
    refine X4.aaload hx (j := (own_bc (mm &&& (((1 : Int32) <<< (ix &&& 31)) - (1 : Int32))))) (v := (.ref r)) (by rw [hq5]; exact Arc6.1) (State.isArrayOf_alike hZ.alike Arc6.2.1) rfl Arc6.2.2 hin7 (own_ref_at Hc6 Sc6 hv) (g := (mkF m 32 #[.val (.ref ch), .val (.int ix), .val (.int ((1 : Int32) <<< (ix &&& 31)))] [(.int (own_bc (mm &&& (((1 : Int32) <<< (ix &&& 31)) - (1 : Int32))))), (.ref ar)])) rfl rfl (dx 18 rfl) _ ?_
    exact k)
  obtain ⟨fs, hr, hrun, hended, hW, hsame⟩ := X4.leave (v := some (.ref r)) (hlocks := BodyLoose.notSynchronized Bd) (fun h => by rw [Bd.returns] at h; cases h)
  refine ⟨_, _, pre8 _ ?_, hrun, hended, _, _, rfl, ?_, ⟨_, rfl⟩, hW, hsame.mono (by decide) (by decide)⟩
  · jvm_step X4.here [X4.here.top, hx, (dx 19 rfl), X4.method', Bd.returns, Value.isRef, FieldType.isReference]
    first | (intro acts; rw [hr _ acts rfl rfl rfl]) | rw [hr _ _ rfl rfl rfl]
    exact Steps.refl _
  · show Q_slG Z ch ar ka mm ln vs ix r h0 n0 _ T4.heap _
    rw [hq5]
    exact ⟨rfl, N4, rfl⟩

def Q_slN (Z : State) (ch : Addr) (mm : Int32) (ix : Int32) (h0 : Heap) (n0 : Nat) (v : Option Value) (h : Heap) (L : List Loc) : Prop := v = some .null ∧ Fr n0 L ∧ h = h0
set_option maxRecDepth 65536 in
set_option maxHeartbeats 40000000 in
theorem rm_slN (l : Launch) (Z : State) (a0 : Array Value) (hw : own_HW a0 Z) (ws : List Jvm.Cond) (ch : Addr) (mm : Int32) (ix : Int32) (h0 : Heap) (n0 : Nat) (Z0 : n0 ≤ h0.size) (H0_F : f_25 Z h0 ch (.int mm)) (hab : (mm &&& ((1 : Int32) <<< (ix &&& 31))) = (0 : Int32)) :
    own_M l yn_11 (Jvm.Cond.code yn_11 prog_47_method_2_code 3 (some (.object "java/lang/Object")) :: ws) ({ frames := 0, cells := 0, slots := 0, locals := 0 } : Room) Z #[(.ref ch), (.int ix)] h0 (Q_slN Z ch mm ix h0 n0) := by
  refine MetFree.of_bodySF (plainFor_of_name pn_8) hisR ?_
  intro p e s m args below meth c s₁ Bd hml0 hP hK
  have ow := @own_w a0 Z hw
  obtain ⟨rfl, hZ, hhp_⟩ := hP
  have hx := Bd.exec
  have hby := Bd.bytes
  have dx := @own_hd _ _ _ hby Dc26
  have hml : c.maxLocals = 3 := hml0
  have hown : s.vm.findClass "org/tallyrole/core/IntTrie$Chunk" = some m.cls := findClass_of_methodNamed Bd.named
  have hnm := (name_of_methodNamed Bd.named Bd.method).1
  have X0 : Stand p l e ({ frames := 0, cells := 0, slots := 0, locals := 0 } : Room) s m _ below meth c s₁ [] 0 0 := Stand.of_body Bd
  have e0 : s₁.heap = h0 := by rw [← hhp_, Bd.state]; rfl
  have N0 := Fr.nil n0
  have pre0 : ∀ t, Steps p.tables e below (s₁.setTop (mkF m 0 #[.val (.ref ch), .val (.int ix), .unset] [])) t → Steps p.tables e below (s₁.setTop (entryFrame m #[(.ref ch), (.int ix)] 3)) t := fun t k => castTop rfl k
  obtain ⟨T1, X1, e1, st1⟩ := getF X0 hx hZ hown (host := "") (Or.inl (ow 170 rfl)) Via.refl e0 H0_F (g := (mkF m 5 #[.val (.ref ch), .val (.int ix), .val (.int ((1 : Int32) <<< (ix &&& 31)))] [(.ref ch)])) rfl rfl (dx 5 rfl)
  have pre2 := fun (t : State) (k : Steps p.tables e below (T1.setTop (mkF m 33 #[.val (.ref ch), .val (.int ix), .val (.int ((1 : Int32) <<< (ix &&& 31)))] [.null])) t) => pre0 t (by
    refine XS.iconst X0.here hx rfl (dx 0 rfl) ?_
    refine XS.iloadN X0.here hx rfl (dx 1 rfl) rfl ?_
    refine XS.ishl X0.here hx rfl (dx 2 rfl) rfl ?_
    refine XS.istoreN X0.here hx rfl (dx 3 rfl) rfl (l' := #[.val (.ref ch), .val (.int ix), .val (.int ((1 : Int32) <<< (ix &&& 31)))]) rfl ?_
    refine XS.aloadN X0.here hx rfl (dx 4 rfl) rfl rfl ?_
    refine st1 _ ?_
    refine XS.iloadN X1.here hx rfl (dx 6 rfl) rfl ?_
    refine XS.iand X1.here hx rfl (dx 7 rfl) rfl ?_
    refine XS.ifNo X1.here hx rfl (dx 8 rfl) rfl ((if0 _ _).trans (teq hab).2) ?_
    refine XS.aconstNull X1.here hx rfl (dx 20 rfl) ?_
    refine XS.goto X1.here hx rfl (pc0 := 14) (pc' := 33) rfl (dx 21 rfl) (by decide) (by decide) ?_
    exact k)
  obtain ⟨fs, hr, hrun, hended, hW, hsame⟩ := X1.leave (v := some .null) (hlocks := BodyLoose.notSynchronized Bd) (fun h => by rw [Bd.returns] at h; cases h)
  refine ⟨_, _, pre2 _ ?_, hrun, hended, _, _, rfl, ?_, ⟨_, rfl⟩, hW, hsame.mono (by decide) (by decide)⟩
  · jvm_step X1.here [X1.here.top, hx, (dx 19 rfl), X1.method', Bd.returns, Value.isRef, FieldType.isReference]
    first | (intro acts; rw [hr _ acts rfl rfl rfl]) | rw [hr _ _ rfl rfl rfl]
    exact Steps.refl _
  · show Q_slN Z ch mm ix h0 n0 _ T1.heap _
    rw [e1]
    exact ⟨rfl, N0, rfl⟩

def Q_gtE (Z : State) (tt : Addr) (id : Int32) (h0 : Heap) (n0 : Nat) (v : Option Value) (h : Heap) (L : List Loc) : Prop := v = some .null ∧ Fr n0 L ∧ h = h0
set_option maxRecDepth 65536 in
set_option maxHeartbeats 40000000 in
theorem rm_gtE (l : Launch) (Z : State) (a0 : Array Value) (hw : own_HW a0 Z) (ws : List Jvm.Cond) (tt : Addr) (id : Int32) (h0 : Heap) (n0 : Nat) (Z0 : n0 ≤ h0.size) (H0_F : f_27 Z h0 tt .null) :
    own_M l yn_12 (Jvm.Cond.code yn_12 prog_45_method_3_code 4 (some (.object "java/lang/Object")) :: ws) ({ frames := 0, cells := 0, slots := 0, locals := 0 } : Room) Z #[(.ref tt), (.int id)] h0 (Q_gtE Z tt id h0 n0) := by
  refine MetFree.of_bodySF (plainFor_of_name pn_6) hisR ?_
  intro p e s m args below meth c s₁ Bd hml0 hP hK
  have ow := @own_w a0 Z hw
  obtain ⟨rfl, hZ, hhp_⟩ := hP
  have hx := Bd.exec
  have hby := Bd.bytes
  have dx := @own_hd _ _ _ hby Dc10
  have hml : c.maxLocals = 4 := hml0
  have hown : s.vm.findClass "org/tallyrole/core/IntTrie" = some m.cls := findClass_of_methodNamed Bd.named
  have hnm := (name_of_methodNamed Bd.named Bd.method).1
  have X0 : Stand p l e ({ frames := 0, cells := 0, slots := 0, locals := 0 } : Room) s m _ below meth c s₁ [] 0 0 := Stand.of_body Bd
  have e0 : s₁.heap = h0 := by rw [← hhp_, Bd.state]; rfl
  have N0 := Fr.nil n0
  have pre0 : ∀ t, Steps p.tables e below (s₁.setTop (mkF m 0 #[.val (.ref tt), .val (.int id), .unset, .unset] [])) t → Steps p.tables e below (s₁.setTop (entryFrame m #[(.ref tt), (.int id)] 4)) t := fun t k => castTop rfl k
  obtain ⟨T1, X1, e1, st1⟩ := getF X0 hx hZ hown (host := "") (Or.inl (ow 84 rfl)) Via.refl e0 H0_F (g := (mkF m 1 #[.val (.ref tt), .val (.int id), .unset, .unset] [(.ref tt)])) rfl rfl (dx 1 rfl)
  have pre2 := fun (t : State) (k : Steps p.tables e below (T1.setTop (mkF m 23 #[.val (.ref tt), .val (.int id), .unset, .unset] [.null])) t) => pre0 t (by
    refine XS.aloadN X0.here hx rfl (dx 0 rfl) rfl rfl ?_
    refine st1 _ ?_
    refine XS.ifnullYes X1.here hx rfl (pc0 := 4) (pc' := 22) rfl (dx 2 rfl) rfl (by decide) (by decide) ?_
    refine XS.aconstNull X1.here hx rfl (dx 3 rfl) ?_
    exact k)
  obtain ⟨fs, hr, hrun, hended, hW, hsame⟩ := X1.leave (v := some .null) (hlocks := BodyLoose.notSynchronized Bd) (fun h => by rw [Bd.returns] at h; cases h)
  refine ⟨_, _, pre2 _ ?_, hrun, hended, _, _, rfl, ?_, ⟨_, rfl⟩, hW, hsame.mono (by decide) (by decide)⟩
  · jvm_step X1.here [X1.here.top, hx, (dx 4 rfl), X1.method', Bd.returns, Value.isRef, FieldType.isReference]
    first | (intro acts; rw [hr _ acts rfl rfl rfl]) | rw [hr _ _ rfl rfl rfl]
    exact Steps.refl _
  · show Q_gtE Z tt id h0 n0 _ T1.heap _
    rw [e1]
    exact ⟨rfl, N0, rfl⟩

def Q_gtN (Z : State) (tt : Addr) (ch : Addr) (mm : Int32) (id : Int32) (h0 : Heap) (n0 : Nat) (v : Option Value) (h : Heap) (L : List Loc) : Prop := v = some .null ∧ Fr n0 L ∧ h = h0
set_option maxRecDepth 65536 in
set_option maxHeartbeats 40000000 in
theorem rm_gtN (l : Launch) (Z : State) (a0 : Array Value) (hw : own_HW a0 Z) (ws : List Jvm.Cond) (tt : Addr) (ch : Addr) (mm : Int32) (id : Int32) (h0 : Heap) (n0 : Nat) (Z0 : n0 ≤ h0.size) (H0_F : f_27 Z h0 tt (.ref ch)) (H1_F : f_28 Z h0 tt (.int 0)) (H2_E : e_26 Z h0 ch) (H3_F : f_25 Z h0 ch (.int mm)) (hab : ¬ id < (0 : Int32) → ¬ (31 : Int32) < ((id.toUInt32 >>> ((0 : Int32) &&& 31).toUInt32).toInt32) → (mm &&& ((1 : Int32) <<< ((((id.toUInt32 >>> ((0 : Int32) &&& 31).toUInt32).toInt32) &&& (31 : Int32)) &&& 31))) = (0 : Int32)) :
    own_M l yn_12 (Jvm.Cond.code yn_12 prog_45_method_3_code 4 (some (.object "java/lang/Object")) :: ws) ({ frames := 1, cells := 0, slots := 0, locals := 14 } : Room) Z #[(.ref tt), (.int id)] h0 (Q_gtN Z tt ch mm id h0 n0) := by
  refine MetFree.of_bodySF (plainFor_of_name pn_6) hisR ?_
  intro p e s m args below meth c s₁ Bd hml0 hP hK
  have ow := @own_w a0 Z hw
  obtain ⟨rfl, hZ, hhp_⟩ := hP
  have hx := Bd.exec
  have hby := Bd.bytes
  have dx := @own_hd _ _ _ hby Dc10
  have hml : c.maxLocals = 4 := hml0
  have hown : s.vm.findClass "org/tallyrole/core/IntTrie" = some m.cls := findClass_of_methodNamed Bd.named
  have hnm := (name_of_methodNamed Bd.named Bd.method).1
  have X0 : Stand p l e ({ frames := 1, cells := 0, slots := 0, locals := 14 } : Room) s m _ below meth c s₁ [] 0 0 := Stand.of_body Bd
  have e0 : s₁.heap = h0 := by rw [← hhp_, Bd.state]; rfl
  have N0 := Fr.nil n0
  have pre0 : ∀ t, Steps p.tables e below (s₁.setTop (mkF m 0 #[.val (.ref tt), .val (.int id), .unset, .unset] [])) t → Steps p.tables e below (s₁.setTop (entryFrame m #[(.ref tt), (.int id)] 4)) t := fun t k => castTop rfl k
  obtain ⟨T1, X1, e1, st1⟩ := getF X0 hx hZ hown (host := "") (Or.inl (ow 84 rfl)) Via.refl e0 H0_F (g := (mkF m 1 #[.val (.ref tt), .val (.int id), .unset, .unset] [(.ref tt)])) rfl rfl (dx 1 rfl)
  have pre2 := fun (t : State) (k : Steps p.tables e below (T1.setTop (mkF m 8 #[.val (.ref tt), .val (.int id), .unset, .unset] [(.int id)])) t) => pre0 t (by
    refine XS.aloadN X0.here hx rfl (dx 0 rfl) rfl rfl ?_
    refine st1 _ ?_
    refine XS.ifnullNo X1.here hx rfl (dx 2 rfl) rfl ?_
    refine XS.iloadN X1.here hx rfl (dx 5 rfl) rfl ?_
    exact k)
  by_cases hc3 : id < (0 : Int32)
  · have pre4 := fun (t : State) (k : Steps p.tables e below (T1.setTop (mkF m 23 #[.val (.ref tt), .val (.int id), .unset, .unset] [.null])) t) => pre2 t (by
      refine XS.ifYes X1.here hx rfl (pc0 := 8) (pc' := 22) rfl (dx 6 rfl) rfl ((if0 _ _).trans (tlt hc3).1) (by decide) (by decide) ?_
      refine XS.aconstNull X1.here hx rfl (dx 3 rfl) ?_
      exact k)
    obtain ⟨fs, hr, hrun, hended, hW, hsame⟩ := X1.leave (v := some .null) (hlocks := BodyLoose.notSynchronized Bd) (fun h => by rw [Bd.returns] at h; cases h)
    refine ⟨_, _, pre4 _ ?_, hrun, hended, _, _, rfl, ?_, ⟨_, rfl⟩, hW, hsame.mono (by decide) (by decide)⟩
    · jvm_step X1.here [X1.here.top, hx, (dx 4 rfl), X1.method', Bd.returns, Value.isRef, FieldType.isReference]
      first | (intro acts; rw [hr _ acts rfl rfl rfl]) | rw [hr _ _ rfl rfl rfl]
      exact Steps.refl _
    · show Q_gtN Z tt ch mm id h0 n0 _ T1.heap _
      rw [e1]
      exact ⟨rfl, N0, rfl⟩
  · obtain ⟨T5, X5, e5, st5⟩ := getF X1 hx hZ hown (host := "") (Or.inl (ow 147 rfl)) Via.refl e1 H1_F (g := (mkF m 13 #[.val (.ref tt), .val (.int id), .unset, .unset] [(.ref tt), (.int id)])) rfl rfl (dx 9 rfl)
    have pre6 := fun (t : State) (k : Steps p.tables e below (T5.setTop (mkF m 19 #[.val (.ref tt), .val (.int id), .unset, .unset] [(.int 31), (.int ((id.toUInt32 >>> ((0 : Int32) &&& 31).toUInt32).toInt32))])) t) => pre2 t (by
      refine XS.ifNo X1.here hx rfl (dx 6 rfl) rfl ((if0 _ _).trans (flt hc3).1) ?_
      refine XS.iloadN X1.here hx rfl (dx 7 rfl) rfl ?_
      refine XS.aloadN X1.here hx rfl (dx 8 rfl) rfl rfl ?_
      refine st5 _ ?_
      refine XS.iushr X5.here hx rfl (dx 10 rfl) rfl ?_
      refine XS.bipush X5.here hx rfl (dx 11 rfl) ?_
      exact k)
    by_cases hc7 : (31 : Int32) < ((id.toUInt32 >>> ((0 : Int32) &&& 31).toUInt32).toInt32)
    · have pre8 := fun (t : State) (k : Steps p.tables e below (T5.setTop (mkF m 23 #[.val (.ref tt), .val (.int id), .unset, .unset] [.null])) t) => pre6 t (by
        refine XS.icmpNo X5.here hx rfl (dx 12 rfl) rfl (tlt hc7).2.2.2 ?_
        refine XS.aconstNull X5.here hx rfl (dx 3 rfl) ?_
        exact k)
      obtain ⟨fs, hr, hrun, hended, hW, hsame⟩ := X5.leave (v := some .null) (hlocks := BodyLoose.notSynchronized Bd) (fun h => by rw [Bd.returns] at h; cases h)
      refine ⟨_, _, pre8 _ ?_, hrun, hended, _, _, rfl, ?_, ⟨_, rfl⟩, hW, hsame.mono (by decide) (by decide)⟩
      · jvm_step X5.here [X5.here.top, hx, (dx 4 rfl), X5.method', Bd.returns, Value.isRef, FieldType.isReference]
        first | (intro acts; rw [hr _ acts rfl rfl rfl]) | rw [hr _ _ rfl rfl rfl]
        exact Steps.refl _
      · show Q_gtN Z tt ch mm id h0 n0 _ T5.heap _
        rw [e5]
        exact ⟨rfl, N0, rfl⟩
    · obtain ⟨T9, X9, e9, st9⟩ := getF X5 hx hZ hown (host := "") (Or.inl (ow 84 rfl)) Via.refl e5 H0_F (g := (mkF m 25 #[.val (.ref tt), .val (.int id), .unset, .unset] [(.ref tt)])) rfl rfl (dx 14 rfl)
      obtain ⟨T10, X10, e10, st10⟩ := getF X9 hx hZ hown (host := "") (Or.inl (ow 147 rfl)) Via.refl e9 H1_F (g := (mkF m 30 #[.val (.ref tt), .val (.int id), .val (.ref ch), .unset] [(.ref tt)])) rfl rfl (dx 17 rfl)
      obtain ⟨T11, X11, e11, st11⟩ := castY X10 hx hZ hown (ow 152 rfl) e10 (Ins.self H2_E) (g := (mkF m 43 #[.val (.ref tt), .val (.int id), .val (.ref ch), .val (.int 0)] [(.ref ch)])) rfl rfl (dx 24 rfl)
      obtain ⟨cq12, kq12, q12a, q12b, q12c⟩ := isOf hZ e11 H2_E
      obtain ⟨_, T12, Lc12, X12, hQ12, st12⟩ := own_rt X11 (X11.virtualBack hx (y := yn_11) (z := yn_11) hown (mvT hZ (ow 210 rfl)) (mvT hZ (ow 211 rfl)) (notFace_of_selects (args := #[]) (mvT hZ (ow 213 rfl))) (mvT hZ (ow 213 rfl)) (mvT hZ (ow 212 rfl)) (by decide) (backOf (W := 0) (rm_slN l Z a0 hw [] ch mm (((id.toUInt32 >>> ((0 : Int32) &&& 31).toUInt32).toInt32) &&& (31 : Int32)) h0 n0 Z0 H3_F (hab hc3 hc7)) hZ (ow 214 rfl) (ow 154 rfl) (by decide) (by decide)) q12a q12c (g := (mkF m 52 #[.val (.ref tt), .val (.int id), .val (.ref ch), .val (.int 0)] [(.int (((id.toUInt32 >>> ((0 : Int32) &&& 31).toUInt32).toInt32) &&& (31 : Int32))), (.ref ch)])) rfl (by rw [hml]; rfl) (Steps.refl _) (argsL := [(.int (((id.toUInt32 >>> ((0 : Int32) &&& 31).toUInt32).toInt32) &&& (31 : Int32)))]) (rest := []) (lenOf pd_3 rfl) rfl (Nat.le_of_eq rfl) (dx 30 rfl) (fun _ _ => ⟨rfl, e11, (by decide : 0 + 0 ≤ _), (by decide : 0 + 0 ≤ _)⟩))
      obtain ⟨rfl, N12q, hq13⟩ := hQ12
      have N12 := Fr.app N0 N12q
      have pre14 := fun (t : State) (k : Steps p.tables e below (T12.setTop (mkF m 63 #[.val (.ref tt), .val (.int id), .val .null, .val (.int (-5))] [.null])) t) => pre6 t (by
        refine XS.icmpYes X5.here hx rfl (pc0 := 19) (pc' := 24) rfl (dx 12 rfl) rfl (flt hc7).2.2.2 (by decide) (by decide) ?_
        refine XS.aloadN X5.here hx rfl (dx 13 rfl) rfl rfl ?_
        refine st9 _ ?_
        refine XS.astoreN X9.here hx rfl (dx 15 rfl) rfl rfl (l' := #[.val (.ref tt), .val (.int id), .val (.ref ch), .unset]) rfl ?_
        refine XS.aloadN X9.here hx rfl (dx 16 rfl) rfl rfl ?_
        refine st10 _ ?_
        refine XS.istoreN X10.here hx rfl (dx 18 rfl) rfl (l' := #[.val (.ref tt), .val (.int id), .val (.ref ch), .val (.int 0)]) rfl ?_
        refine XS.aloadN X10.here hx rfl (dx 19 rfl) rfl rfl ?_
        refine XS.ifnullNo X10.here hx rfl (dx 20 rfl) rfl ?_
        refine XS.iloadN X10.here hx rfl (dx 21 rfl) rfl ?_
        refine XS.ifNo X10.here hx rfl (dx 22 rfl) rfl ((if0 _ _).trans (flt (by decide : ¬ ((0 : Int32) < (0 : Int32)))).1) ?_
        refine XS.aloadN X10.here hx rfl (dx 23 rfl) rfl rfl ?_
        refine st11 _ ?_
        refine XS.iloadN X11.here hx rfl (dx 25 rfl) rfl ?_
        refine XS.iloadN X11.here hx rfl (dx 26 rfl) rfl ?_
        refine XS.iushr X11.here hx rfl (dx 27 rfl) rfl ?_
        refine XS.bipush X11.here hx rfl (dx 28 rfl) ?_
        refine XS.iand X11.here hx rfl (dx 29 rfl) rfl ?_
        refine st12.trans ?_
        refine XS.astoreN X12.here hx rfl (dx 31 rfl) rfl rfl (l' := #[.val (.ref tt), .val (.int id), .val .null, .val (.int 0)]) rfl ?_
        refine XS.iinc X12.here hx rfl (dx 32 rfl) rfl (l' := #[.val (.ref tt), .val (.int id), .val .null, .val (.int (-5))]) rfl ?_
        refine XS.goto X12.here hx rfl (pc0 := 59) (pc' := 34) rfl (dx 33 rfl) (by decide) (by decide) ?_
        refine XS.aloadN X12.here hx rfl (dx 19 rfl) rfl rfl ?_
        refine XS.ifnullYes X12.here hx rfl (pc0 := 35) (pc' := 62) rfl (dx 20 rfl) rfl (by decide) (by decide) ?_
        refine XS.aloadN X12.here hx rfl (dx 34 rfl) rfl rfl ?_
        exact k)
      obtain ⟨fs, hr, hrun, hended, hW, hsame⟩ := X12.leave (v := some .null) (hlocks := BodyLoose.notSynchronized Bd) (fun h => by rw [Bd.returns] at h; cases h)
      refine ⟨_, _, pre14 _ ?_, hrun, hended, _, _, rfl, ?_, ⟨_, rfl⟩, hW, hsame.mono (by decide) (by decide)⟩
      · jvm_step X12.here [X12.here.top, hx, (dx 35 rfl), X12.method', Bd.returns, Value.isRef, FieldType.isReference]
        first | (intro acts; rw [hr _ acts rfl rfl rfl]) | rw [hr _ _ rfl rfl rfl]
        exact Steps.refl _
      · show Q_gtN Z tt ch mm id h0 n0 _ T12.heap _
        rw [hq13]
        exact ⟨rfl, N12, rfl⟩

def Q_gtG (Z : State) (tt : Addr) (ch : Addr) (ar : Addr) (ka : ClassId) (mm : Int32) (ln : Int32) (vs : List Value) (id : Int32) (r : Addr) (h0 : Heap) (n0 : Nat) (v : Option Value) (h : Heap) (L : List Loc) : Prop := v = some (.ref r) ∧ Fr n0 L ∧ h = h0
set_option maxRecDepth 65536 in
set_option maxHeartbeats 40000000 in
theorem rm_gtG (l : Launch) (Z : State) (a0 : Array Value) (hw : own_HW a0 Z) (ws : List Jvm.Cond) (tt : Addr) (ch : Addr) (ar : Addr) (ka : ClassId) (mm : Int32) (ln : Int32) (vs : List Value) (id : Int32) (r : Addr) (h0 : Heap) (n0 : Nat) (Z0 : n0 ≤ h0.size) (H0_F : f_27 Z h0 tt (.ref ch)) (H1_F : f_28 Z h0 tt (.int 0)) (H2_E : e_26 Z h0 ch) (H3_F : f_25 Z h0 ch (.int mm)) (H4_F : f_23 Z h0 ch (.ref ar)) (H5_A : Arv Z h0 ar ka (.object "java/lang/Object") ln vs .null) (hi0 : ¬ (id < (0 : Int32))) (hi31 : ¬ ((31 : Int32) < ((id.toUInt32 >>> ((0 : Int32) &&& 31).toUInt32).toInt32))) (hp : ¬ ((mm &&& ((1 : Int32) <<< ((((id.toUInt32 >>> ((0 : Int32) &&& 31).toUInt32).toInt32) &&& (31 : Int32)) &&& 31))) = (0 : Int32))) (hv : own_ref vs ln (own_bc (mm &&& (((1 : Int32) <<< ((((id.toUInt32 >>> ((0 : Int32) &&& 31).toUInt32).toInt32) &&& (31 : Int32)) &&& 31)) - (1 : Int32)))) r) :
    own_M l yn_12 (Jvm.Cond.code yn_12 prog_45_method_3_code 4 (some (.object "java/lang/Object")) :: ws) ({ frames := 2, cells := 0, slots := 0, locals := 27 } : Room) Z #[(.ref tt), (.int id)] h0 (Q_gtG Z tt ch ar ka mm ln vs id r h0 n0) := by
  refine MetFree.of_bodySF (plainFor_of_name pn_6) hisR ?_
  intro p e s m args below meth c s₁ Bd hml0 hP hK
  have ow := @own_w a0 Z hw
  obtain ⟨rfl, hZ, hhp_⟩ := hP
  have hx := Bd.exec
  have hby := Bd.bytes
  have dx := @own_hd _ _ _ hby Dc10
  have hml : c.maxLocals = 4 := hml0
  have hown : s.vm.findClass "org/tallyrole/core/IntTrie" = some m.cls := findClass_of_methodNamed Bd.named
  have hnm := (name_of_methodNamed Bd.named Bd.method).1
  have X0 : Stand p l e ({ frames := 2, cells := 0, slots := 0, locals := 27 } : Room) s m _ below meth c s₁ [] 0 0 := Stand.of_body Bd
  have e0 : s₁.heap = h0 := by rw [← hhp_, Bd.state]; rfl
  have N0 := Fr.nil n0
  have pre0 : ∀ t, Steps p.tables e below (s₁.setTop (mkF m 0 #[.val (.ref tt), .val (.int id), .unset, .unset] [])) t → Steps p.tables e below (s₁.setTop (entryFrame m #[(.ref tt), (.int id)] 4)) t := fun t k => castTop rfl k
  obtain ⟨T1, X1, e1, st1⟩ := getF X0 hx hZ hown (host := "") (Or.inl (ow 84 rfl)) Via.refl e0 H0_F (g := (mkF m 1 #[.val (.ref tt), .val (.int id), .unset, .unset] [(.ref tt)])) rfl rfl (dx 1 rfl)
  obtain ⟨T2, X2, e2, st2⟩ := getF X1 hx hZ hown (host := "") (Or.inl (ow 147 rfl)) Via.refl e1 H1_F (g := (mkF m 13 #[.val (.ref tt), .val (.int id), .unset, .unset] [(.ref tt), (.int id)])) rfl rfl (dx 9 rfl)
  obtain ⟨T3, X3, e3, st3⟩ := getF X2 hx hZ hown (host := "") (Or.inl (ow 84 rfl)) Via.refl e2 H0_F (g := (mkF m 25 #[.val (.ref tt), .val (.int id), .unset, .unset] [(.ref tt)])) rfl rfl (dx 14 rfl)
  obtain ⟨T4, X4, e4, st4⟩ := getF X3 hx hZ hown (host := "") (Or.inl (ow 147 rfl)) Via.refl e3 H1_F (g := (mkF m 30 #[.val (.ref tt), .val (.int id), .val (.ref ch), .unset] [(.ref tt)])) rfl rfl (dx 17 rfl)
  obtain ⟨T5, X5, e5, st5⟩ := castY X4 hx hZ hown (ow 152 rfl) e4 (Ins.self H2_E) (g := (mkF m 43 #[.val (.ref tt), .val (.int id), .val (.ref ch), .val (.int 0)] [(.ref ch)])) rfl rfl (dx 24 rfl)
  obtain ⟨cq6, kq6, q6a, q6b, q6c⟩ := isOf hZ e5 H2_E
  obtain ⟨_, T6, Lc6, X6, hQ6, st6⟩ := own_rt X5 (X5.virtualBack hx (y := yn_11) (z := yn_11) hown (mvT hZ (ow 210 rfl)) (mvT hZ (ow 211 rfl)) (notFace_of_selects (args := #[]) (mvT hZ (ow 213 rfl))) (mvT hZ (ow 213 rfl)) (mvT hZ (ow 212 rfl)) (by decide) (backOf (W := 0) (rm_slG l Z a0 hw [] ch ar ka mm ln vs (((id.toUInt32 >>> ((0 : Int32) &&& 31).toUInt32).toInt32) &&& (31 : Int32)) r h0 n0 Z0 H3_F H4_F H5_A hp hv) hZ (ow 214 rfl) (ow 154 rfl) (by decide) (by decide)) q6a q6c (g := (mkF m 52 #[.val (.ref tt), .val (.int id), .val (.ref ch), .val (.int 0)] [(.int (((id.toUInt32 >>> ((0 : Int32) &&& 31).toUInt32).toInt32) &&& (31 : Int32))), (.ref ch)])) rfl (by rw [hml]; rfl) (Steps.refl _) (argsL := [(.int (((id.toUInt32 >>> ((0 : Int32) &&& 31).toUInt32).toInt32) &&& (31 : Int32)))]) (rest := []) (lenOf pd_3 rfl) rfl (Nat.le_of_eq rfl) (dx 30 rfl) (fun _ _ => ⟨rfl, e5, (by decide : 0 + 0 ≤ _), (by decide : 0 + 0 ≤ _)⟩))
  obtain ⟨rfl, N6q, hq7⟩ := hQ6
  have N6 := Fr.app N0 N6q
  have pre8 := fun (t : State) (k : Steps p.tables e below (T6.setTop (mkF m 63 #[.val (.ref tt), .val (.int id), .val (.ref r), .val (.int (-5))] [(.ref r)])) t) => pre0 t (by
    refine XS.aloadN X0.here hx rfl (dx 0 rfl) rfl rfl ?_
    refine st1 _ ?_
    refine XS.ifnullNo X1.here hx rfl (dx 2 rfl) rfl ?_
    refine XS.iloadN X1.here hx rfl (dx 5 rfl) rfl ?_
    refine XS.ifNo X1.here hx rfl (dx 6 rfl) rfl ((if0 _ _).trans (flt hi0).1) ?_
    refine XS.iloadN X1.here hx rfl (dx 7 rfl) rfl ?_
    refine XS.aloadN X1.here hx rfl (dx 8 rfl) rfl rfl ?_
    refine st2 _ ?_
    refine XS.iushr X2.here hx rfl (dx 10 rfl) rfl ?_
    refine XS.bipush X2.here hx rfl (dx 11 rfl) ?_
    refine XS.icmpYes X2.here hx rfl (pc0 := 19) (pc' := 24) rfl (dx 12 rfl) rfl (flt hi31).2.2.2 (by decide) (by decide) ?_
    refine XS.aloadN X2.here hx rfl (dx 13 rfl) rfl rfl ?_
    refine st3 _ ?_
    refine XS.astoreN X3.here hx rfl (dx 15 rfl) rfl rfl (l' := #[.val (.ref tt), .val (.int id), .val (.ref ch), .unset]) rfl ?_
    refine XS.aloadN X3.here hx rfl (dx 16 rfl) rfl rfl ?_
    refine st4 _ ?_
    refine XS.istoreN X4.here hx rfl (dx 18 rfl) rfl (l' := #[.val (.ref tt), .val (.int id), .val (.ref ch), .val (.int 0)]) rfl ?_
    refine XS.aloadN X4.here hx rfl (dx 19 rfl) rfl rfl ?_
    refine XS.ifnullNo X4.here hx rfl (dx 20 rfl) rfl ?_
    refine XS.iloadN X4.here hx rfl (dx 21 rfl) rfl ?_
    refine XS.ifNo X4.here hx rfl (dx 22 rfl) rfl ((if0 _ _).trans (flt (by decide : ¬ ((0 : Int32) < (0 : Int32)))).1) ?_
    refine XS.aloadN X4.here hx rfl (dx 23 rfl) rfl rfl ?_
    refine st5 _ ?_
    refine XS.iloadN X5.here hx rfl (dx 25 rfl) rfl ?_
    refine XS.iloadN X5.here hx rfl (dx 26 rfl) rfl ?_
    refine XS.iushr X5.here hx rfl (dx 27 rfl) rfl ?_
    refine XS.bipush X5.here hx rfl (dx 28 rfl) ?_
    refine XS.iand X5.here hx rfl (dx 29 rfl) rfl ?_
    refine st6.trans ?_
    refine XS.astoreN X6.here hx rfl (dx 31 rfl) rfl rfl (l' := #[.val (.ref tt), .val (.int id), .val (.ref r), .val (.int 0)]) rfl ?_
    refine XS.iinc X6.here hx rfl (dx 32 rfl) rfl (l' := #[.val (.ref tt), .val (.int id), .val (.ref r), .val (.int (-5))]) rfl ?_
    refine XS.goto X6.here hx rfl (pc0 := 59) (pc' := 34) rfl (dx 33 rfl) (by decide) (by decide) ?_
    refine XS.aloadN X6.here hx rfl (dx 19 rfl) rfl rfl ?_
    refine XS.ifnullNo X6.here hx rfl (dx 20 rfl) rfl ?_
    refine XS.iloadN X6.here hx rfl (dx 21 rfl) rfl ?_
    refine XS.ifYes X6.here hx rfl (pc0 := 39) (pc' := 62) rfl (dx 22 rfl) rfl ((if0 _ _).trans (tlt (by decide : (-5 : Int32) < (0 : Int32))).1) (by decide) (by decide) ?_
    refine XS.aloadN X6.here hx rfl (dx 34 rfl) rfl rfl ?_
    exact k)
  obtain ⟨fs, hr, hrun, hended, hW, hsame⟩ := X6.leave (v := some (.ref r)) (hlocks := BodyLoose.notSynchronized Bd) (fun h => by rw [Bd.returns] at h; cases h)
  refine ⟨_, _, pre8 _ ?_, hrun, hended, _, _, rfl, ?_, ⟨_, rfl⟩, hW, hsame.mono (by decide) (by decide)⟩
  · jvm_step X6.here [X6.here.top, hx, (dx 35 rfl), X6.method', Bd.returns, Value.isRef, FieldType.isReference]
    first | (intro acts; rw [hr _ acts rfl rfl rfl]) | rw [hr _ _ rfl rfl rfl]
    exact Steps.refl _
  · show Q_gtG Z tt ch ar ka mm ln vs id r h0 n0 _ T6.heap _
    rw [hq7]
    exact ⟨rfl, N6, rfl⟩

def Q_ckE (Z : State) (tt : Addr) (id : Int32) (h0 : Heap) (n0 : Nat) (v : Option Value) (h : Heap) (L : List Loc) : Prop := v = some (.int 0) ∧ Fr n0 L ∧ h = h0
set_option maxRecDepth 65536 in
set_option maxHeartbeats 40000000 in
theorem rm_ckE (l : Launch) (Z : State) (a0 : Array Value) (hw : own_HW a0 Z) (ws : List Jvm.Cond) (tt : Addr) (id : Int32) (h0 : Heap) (n0 : Nat) (Z0 : n0 ≤ h0.size) (H0_E : e_29 Z h0 tt) (H1_F : f_27 Z h0 tt .null) (H2_F : f_28 Z h0 tt (.int 0)) :
    own_M l yn_13 (Jvm.Cond.code yn_13 prog_45_method_5_code 2 (some .boolean) :: ws) ({ frames := 1, cells := 0, slots := 0, locals := 15 } : Room) Z #[(.ref tt), (.int id)] h0 (Q_ckE Z tt id h0 n0) := by
  refine MetFree.of_bodySF (plainFor_of_name pn_6) hisR ?_
  intro p e s m args below meth c s₁ Bd hml0 hP hK
  have ow := @own_w a0 Z hw
  obtain ⟨rfl, hZ, hhp_⟩ := hP
  have hx := Bd.exec
  have hby := Bd.bytes
  have dx := @own_hd _ _ _ hby Dc23
  have hml : c.maxLocals = 2 := hml0
  have hown : s.vm.findClass "org/tallyrole/core/IntTrie" = some m.cls := findClass_of_methodNamed Bd.named
  have hnm := (name_of_methodNamed Bd.named Bd.method).1
  have X0 : Stand p l e ({ frames := 1, cells := 0, slots := 0, locals := 15 } : Room) s m _ below meth c s₁ [] 0 0 := Stand.of_body Bd
  have e0 : s₁.heap = h0 := by rw [← hhp_, Bd.state]; rfl
  have N0 := Fr.nil n0
  have pre0 : ∀ t, Steps p.tables e below (s₁.setTop (mkF m 0 #[.val (.ref tt), .val (.int id)] [])) t → Steps p.tables e below (s₁.setTop (entryFrame m #[(.ref tt), (.int id)] 2)) t := fun t k => castTop rfl k
  obtain ⟨cq1, kq1, q1a, q1b, q1c⟩ := isOf hZ e0 H0_E
  obtain ⟨_, T1, Lc1, X1, hQ1, st1⟩ := own_rt X0 (X0.virtualBack hx (y := yn_12) (z := yn_12) hown (mvT hZ (ow 200 rfl)) (mvT hZ (ow 80 rfl)) (notFace_of_selects (args := #[]) (mvT hZ (ow 82 rfl))) (mvT hZ (ow 82 rfl)) (mvT hZ (ow 81 rfl)) (by decide) (backOf (W := 0) (rm_gtE l Z a0 hw [] tt id h0 n0 Z0 H1_F) hZ (ow 83 rfl) (ow 11 rfl) (by decide) (by decide)) q1a q1c (g := (mkF m 2 #[.val (.ref tt), .val (.int id)] [(.int id), (.ref tt)])) rfl (by rw [hml]; rfl) (Steps.refl _) (argsL := [(.int id)]) (rest := []) (lenOf pd_3 rfl) rfl (Nat.le_of_eq rfl) (dx 2 rfl) (fun _ _ => ⟨rfl, e0, (by decide : 0 + 0 ≤ _), (by decide : 0 + 0 ≤ _)⟩))
  obtain ⟨rfl, N1q, hq2⟩ := hQ1
  have N1 := Fr.app N0 N1q
  have pre3 := fun (t : State) (k : Steps p.tables e below (T1.setTop (mkF m 13 #[.val (.ref tt), .val (.int id)] [(.int 0)])) t) => pre0 t (by
    refine XS.aloadN X0.here hx rfl (dx 0 rfl) rfl rfl ?_
    refine XS.iloadN X0.here hx rfl (dx 1 rfl) rfl ?_
    refine st1.trans ?_
    refine XS.ifnullYes X1.here hx rfl (pc0 := 5) (pc' := 12) rfl (dx 3 rfl) rfl (by decide) (by decide) ?_
    refine XS.iconst X1.here hx rfl (dx 4 rfl) ?_
    exact k)
  obtain ⟨fs, hr, hrun, hended, hW, hsame⟩ := X1.leave (v := some (.int 0)) (hlocks := BodyLoose.notSynchronized Bd) (fun h => by rw [Bd.returns] at h; cases h)
  refine ⟨_, _, pre3 _ ?_, hrun, hended, _, _, rfl, ?_, ⟨_, rfl⟩, hW, hsame.mono (by decide) (by decide)⟩
  · exact retN X1 hx (t := .boolean) Bd.returns (by simp) (dx 5 rfl) hr
  · show Q_ckE Z tt id h0 n0 _ T1.heap _
    rw [hq2]
    exact ⟨rfl, N1, rfl⟩

def Q_ckG (Z : State) (tt : Addr) (ch : Addr) (ar : Addr) (ka : ClassId) (mm : Int32) (ln : Int32) (vs : List Value) (id : Int32) (r : Addr) (h0 : Heap) (n0 : Nat) (v : Option Value) (h : Heap) (L : List Loc) : Prop := v = some (.int 1) ∧ Fr n0 L ∧ h = h0
set_option maxRecDepth 65536 in
set_option maxHeartbeats 40000000 in
theorem rm_ckG (l : Launch) (Z : State) (a0 : Array Value) (hw : own_HW a0 Z) (ws : List Jvm.Cond) (tt : Addr) (ch : Addr) (ar : Addr) (ka : ClassId) (mm : Int32) (ln : Int32) (vs : List Value) (id : Int32) (r : Addr) (h0 : Heap) (n0 : Nat) (Z0 : n0 ≤ h0.size) (H0_E : e_29 Z h0 tt) (H1_F : f_27 Z h0 tt (.ref ch)) (H2_F : f_28 Z h0 tt (.int 0)) (H3_E : e_26 Z h0 ch) (H4_F : f_25 Z h0 ch (.int mm)) (H5_F : f_23 Z h0 ch (.ref ar)) (H6_A : Arv Z h0 ar ka (.object "java/lang/Object") ln vs .null) (hi0 : ¬ (id < (0 : Int32))) (hi31 : ¬ ((31 : Int32) < ((id.toUInt32 >>> ((0 : Int32) &&& 31).toUInt32).toInt32))) (hp : ¬ ((mm &&& ((1 : Int32) <<< ((((id.toUInt32 >>> ((0 : Int32) &&& 31).toUInt32).toInt32) &&& (31 : Int32)) &&& 31))) = (0 : Int32))) (hv : own_ref vs ln (own_bc (mm &&& (((1 : Int32) <<< ((((id.toUInt32 >>> ((0 : Int32) &&& 31).toUInt32).toInt32) &&& (31 : Int32)) &&& 31)) - (1 : Int32)))) r) :
    own_M l yn_13 (Jvm.Cond.code yn_13 prog_45_method_5_code 2 (some .boolean) :: ws) ({ frames := 3, cells := 0, slots := 0, locals := 42 } : Room) Z #[(.ref tt), (.int id)] h0 (Q_ckG Z tt ch ar ka mm ln vs id r h0 n0) := by
  refine MetFree.of_bodySF (plainFor_of_name pn_6) hisR ?_
  intro p e s m args below meth c s₁ Bd hml0 hP hK
  have ow := @own_w a0 Z hw
  obtain ⟨rfl, hZ, hhp_⟩ := hP
  have hx := Bd.exec
  have hby := Bd.bytes
  have dx := @own_hd _ _ _ hby Dc23
  have hml : c.maxLocals = 2 := hml0
  have hown : s.vm.findClass "org/tallyrole/core/IntTrie" = some m.cls := findClass_of_methodNamed Bd.named
  have hnm := (name_of_methodNamed Bd.named Bd.method).1
  have X0 : Stand p l e ({ frames := 3, cells := 0, slots := 0, locals := 42 } : Room) s m _ below meth c s₁ [] 0 0 := Stand.of_body Bd
  have e0 : s₁.heap = h0 := by rw [← hhp_, Bd.state]; rfl
  have N0 := Fr.nil n0
  have pre0 : ∀ t, Steps p.tables e below (s₁.setTop (mkF m 0 #[.val (.ref tt), .val (.int id)] [])) t → Steps p.tables e below (s₁.setTop (entryFrame m #[(.ref tt), (.int id)] 2)) t := fun t k => castTop rfl k
  obtain ⟨cq1, kq1, q1a, q1b, q1c⟩ := isOf hZ e0 H0_E
  obtain ⟨_, T1, Lc1, X1, hQ1, st1⟩ := own_rt X0 (X0.virtualBack hx (y := yn_12) (z := yn_12) hown (mvT hZ (ow 200 rfl)) (mvT hZ (ow 80 rfl)) (notFace_of_selects (args := #[]) (mvT hZ (ow 82 rfl))) (mvT hZ (ow 82 rfl)) (mvT hZ (ow 81 rfl)) (by decide) (backOf (W := 0) (rm_gtG l Z a0 hw [] tt ch ar ka mm ln vs id r h0 n0 Z0 H1_F H2_F H3_E H4_F H5_F H6_A hi0 hi31 hp hv) hZ (ow 83 rfl) (ow 11 rfl) (by decide) (by decide)) q1a q1c (g := (mkF m 2 #[.val (.ref tt), .val (.int id)] [(.int id), (.ref tt)])) rfl (by rw [hml]; rfl) (Steps.refl _) (argsL := [(.int id)]) (rest := []) (lenOf pd_3 rfl) rfl (Nat.le_of_eq rfl) (dx 2 rfl) (fun _ _ => ⟨rfl, e0, (by decide : 0 + 0 ≤ _), (by decide : 0 + 0 ≤ _)⟩))
  obtain ⟨rfl, N1q, hq2⟩ := hQ1
  have N1 := Fr.app N0 N1q
  have pre3 := fun (t : State) (k : Steps p.tables e below (T1.setTop (mkF m 13 #[.val (.ref tt), .val (.int id)] [(.int 1)])) t) => pre0 t (by
    refine XS.aloadN X0.here hx rfl (dx 0 rfl) rfl rfl ?_
    refine XS.iloadN X0.here hx rfl (dx 1 rfl) rfl ?_
    refine st1.trans ?_
    refine XS.ifnullNo X1.here hx rfl (dx 3 rfl) rfl ?_
    refine XS.iconst X1.here hx rfl (dx 6 rfl) ?_
    refine XS.goto X1.here hx rfl (pc0 := 9) (pc' := 13) rfl (dx 7 rfl) (by decide) (by decide) ?_
    exact k)
  obtain ⟨fs, hr, hrun, hended, hW, hsame⟩ := X1.leave (v := some (.int 1)) (hlocks := BodyLoose.notSynchronized Bd) (fun h => by rw [Bd.returns] at h; cases h)
  refine ⟨_, _, pre3 _ ?_, hrun, hended, _, _, rfl, ?_, ⟨_, rfl⟩, hW, hsame.mono (by decide) (by decide)⟩
  · exact retN X1 hx (t := .boolean) Bd.returns (by simp) (dx 5 rfl) hr
  · show Q_ckG Z tt ch ar ka mm ln vs id r h0 n0 _ T1.heap _
    rw [hq2]
    exact ⟨rfl, N1, rfl⟩

def Q_ckN (Z : State) (tt : Addr) (ch : Addr) (mm : Int32) (id : Int32) (h0 : Heap) (n0 : Nat) (v : Option Value) (h : Heap) (L : List Loc) : Prop := v = some (.int 0) ∧ Fr n0 L ∧ h = h0
set_option maxRecDepth 65536 in
set_option maxHeartbeats 40000000 in
theorem rm_ckN (l : Launch) (Z : State) (a0 : Array Value) (hw : own_HW a0 Z) (ws : List Jvm.Cond) (tt : Addr) (ch : Addr) (mm : Int32) (id : Int32) (h0 : Heap) (n0 : Nat) (Z0 : n0 ≤ h0.size) (H0_E : e_29 Z h0 tt) (H1_F : f_27 Z h0 tt (.ref ch)) (H2_F : f_28 Z h0 tt (.int 0)) (H3_E : e_26 Z h0 ch) (H4_F : f_25 Z h0 ch (.int mm)) (hab : ¬ id < (0 : Int32) → ¬ (31 : Int32) < ((id.toUInt32 >>> ((0 : Int32) &&& 31).toUInt32).toInt32) → (mm &&& ((1 : Int32) <<< ((((id.toUInt32 >>> ((0 : Int32) &&& 31).toUInt32).toInt32) &&& (31 : Int32)) &&& 31))) = (0 : Int32)) :
    own_M l yn_13 (Jvm.Cond.code yn_13 prog_45_method_5_code 2 (some .boolean) :: ws) ({ frames := 2, cells := 0, slots := 0, locals := 29 } : Room) Z #[(.ref tt), (.int id)] h0 (Q_ckN Z tt ch mm id h0 n0) := by
  refine MetFree.of_bodySF (plainFor_of_name pn_6) hisR ?_
  intro p e s m args below meth c s₁ Bd hml0 hP hK
  have ow := @own_w a0 Z hw
  obtain ⟨rfl, hZ, hhp_⟩ := hP
  have hx := Bd.exec
  have hby := Bd.bytes
  have dx := @own_hd _ _ _ hby Dc23
  have hml : c.maxLocals = 2 := hml0
  have hown : s.vm.findClass "org/tallyrole/core/IntTrie" = some m.cls := findClass_of_methodNamed Bd.named
  have hnm := (name_of_methodNamed Bd.named Bd.method).1
  have X0 : Stand p l e ({ frames := 2, cells := 0, slots := 0, locals := 29 } : Room) s m _ below meth c s₁ [] 0 0 := Stand.of_body Bd
  have e0 : s₁.heap = h0 := by rw [← hhp_, Bd.state]; rfl
  have N0 := Fr.nil n0
  have pre0 : ∀ t, Steps p.tables e below (s₁.setTop (mkF m 0 #[.val (.ref tt), .val (.int id)] [])) t → Steps p.tables e below (s₁.setTop (entryFrame m #[(.ref tt), (.int id)] 2)) t := fun t k => castTop rfl k
  obtain ⟨cq1, kq1, q1a, q1b, q1c⟩ := isOf hZ e0 H0_E
  obtain ⟨_, T1, Lc1, X1, hQ1, st1⟩ := own_rt X0 (X0.virtualBack hx (y := yn_12) (z := yn_12) hown (mvT hZ (ow 200 rfl)) (mvT hZ (ow 80 rfl)) (notFace_of_selects (args := #[]) (mvT hZ (ow 82 rfl))) (mvT hZ (ow 82 rfl)) (mvT hZ (ow 81 rfl)) (by decide) (backOf (W := 0) (rm_gtN l Z a0 hw [] tt ch mm id h0 n0 Z0 H1_F H2_F H3_E H4_F hab) hZ (ow 83 rfl) (ow 11 rfl) (by decide) (by decide)) q1a q1c (g := (mkF m 2 #[.val (.ref tt), .val (.int id)] [(.int id), (.ref tt)])) rfl (by rw [hml]; rfl) (Steps.refl _) (argsL := [(.int id)]) (rest := []) (lenOf pd_3 rfl) rfl (Nat.le_of_eq rfl) (dx 2 rfl) (fun _ _ => ⟨rfl, e0, (by decide : 0 + 0 ≤ _), (by decide : 0 + 0 ≤ _)⟩))
  obtain ⟨rfl, N1q, hq2⟩ := hQ1
  have N1 := Fr.app N0 N1q
  have pre3 := fun (t : State) (k : Steps p.tables e below (T1.setTop (mkF m 13 #[.val (.ref tt), .val (.int id)] [(.int 0)])) t) => pre0 t (by
    refine XS.aloadN X0.here hx rfl (dx 0 rfl) rfl rfl ?_
    refine XS.iloadN X0.here hx rfl (dx 1 rfl) rfl ?_
    refine st1.trans ?_
    refine XS.ifnullYes X1.here hx rfl (pc0 := 5) (pc' := 12) rfl (dx 3 rfl) rfl (by decide) (by decide) ?_
    refine XS.iconst X1.here hx rfl (dx 4 rfl) ?_
    exact k)
  obtain ⟨fs, hr, hrun, hended, hW, hsame⟩ := X1.leave (v := some (.int 0)) (hlocks := BodyLoose.notSynchronized Bd) (fun h => by rw [Bd.returns] at h; cases h)
  refine ⟨_, _, pre3 _ ?_, hrun, hended, _, _, rfl, ?_, ⟨_, rfl⟩, hW, hsame.mono (by decide) (by decide)⟩
  · exact retN X1 hx (t := .boolean) Bd.returns (by simp) (dx 5 rfl) hr
  · show Q_ckN Z tt ch mm id h0 n0 _ T1.heap _
    rw [hq2]
    exact ⟨rfl, N1, rfl⟩

def Q_rn (Z : State) (vv : Addr) (h0 : Heap) (n0 : Nat) (v : Option Value) (h : Heap) (L : List Loc) : Prop := v = some (.ref vv) ∧ Fr n0 L ∧ h = h0
set_option maxRecDepth 65536 in
set_option maxHeartbeats 40000000 in
theorem rm_rn (l : Launch) (Z : State) (a0 : Array Value) (hw : own_HW a0 Z) (ws : List Jvm.Cond) (vv : Addr) (h0 : Heap) (n0 : Nat) (Z0 : n0 ≤ h0.size) :
    own_M l yn_14 (Jvm.Cond.code yn_14 jdk_31_method_10_code 1 (some (.object "java/lang/Object")) :: ws) ({ frames := 0, cells := 0, slots := 0, locals := 0 } : Room) Z #[(.ref vv)] h0 (Q_rn Z vv h0 n0) := by
  refine MetFree.of_bodySF (plainFor_of_name pn_10) hisR ?_
  intro p e s m args below meth c s₁ Bd hml0 hP hK
  have ow := @own_w a0 Z hw
  obtain ⟨rfl, hZ, hhp_⟩ := hP
  have hx := Bd.exec
  have hby := Bd.bytes
  have dx := @own_hd _ _ _ hby Dc16
  have hml : c.maxLocals = 1 := hml0
  have hown : s.vm.findClass "java/util/Objects" = some m.cls := findClass_of_methodNamed Bd.named
  have hnm := (name_of_methodNamed Bd.named Bd.method).1
  have X0 : Stand p l e ({ frames := 0, cells := 0, slots := 0, locals := 0 } : Room) s m _ below meth c s₁ [] 0 0 := Stand.of_body Bd
  have e0 : s₁.heap = h0 := by rw [← hhp_, Bd.state]; rfl
  have N0 := Fr.nil n0
  have pre0 : ∀ t, Steps p.tables e below (s₁.setTop (mkF m 0 #[.val (.ref vv)] [])) t → Steps p.tables e below (s₁.setTop (entryFrame m #[(.ref vv)] 1)) t := fun t k => castTop rfl k
  have pre1 := fun (t : State) (k : Steps p.tables e below (s₁.setTop (mkF m 13 #[.val (.ref vv)] [(.ref vv)])) t) => pre0 t (by
    refine XS.aloadN X0.here hx rfl (dx 0 rfl) rfl rfl ?_
    refine XS.ifnonnullYes X0.here hx rfl (pc0 := 1) (pc' := 12) rfl (dx 1 rfl) rfl (by decide) (by decide) ?_
    refine XS.aloadN X0.here hx rfl (dx 2 rfl) rfl rfl ?_
    exact k)
  obtain ⟨fs, hr, hrun, hended, hW, hsame⟩ := X0.leave (v := some (.ref vv)) (hlocks := BodyLoose.notSynchronized Bd) (fun h => by rw [Bd.returns] at h; cases h)
  refine ⟨_, _, pre1 _ ?_, hrun, hended, _, _, rfl, ?_, ⟨_, rfl⟩, hW, hsame.mono (by decide) (by decide)⟩
  · jvm_step X0.here [X0.here.top, hx, (dx 3 rfl), X0.method', Bd.returns, Value.isRef, FieldType.isReference]
    first | (intro acts; rw [hr _ acts rfl rfl rfl]) | rw [hr _ _ rfl rfl rfl]
    exact Steps.refl _
  · show Q_rn Z vv h0 n0 _ s₁.heap _
    rw [e0]
    exact ⟨rfl, N0, rfl⟩

def Q_pth (Z : State) (vv : Addr) (gg : Addr) (no : Addr) (kno : ClassId) (h0 : Heap) (n0 : Nat) (v : Option Value) (h : Heap) (L : List Loc) : Prop := ∃ ch : Addr, ∃ xx : Addr, ∃ kx : ClassId, v = some (.ref ch) ∧ Fr n0 L ∧ Keep h0 h [] ∧ n0 ≤ ch ∧ h0.size ≤ ch ∧ n0 ≤ xx ∧ h0.size ≤ xx ∧ ch ≠ xx ∧ e_26 Z h ch ∧ f_25 Z h ch (.int ((0 : Int32) ||| ((1 : Int32) <<< ((0 : Int32) &&& 31)))) ∧ f_23 Z h ch (.ref xx) ∧ f_24 Z h ch (.ref gg) ∧ Arv Z h xx kx (.object "java/lang/Object") ((0 : Int32) + (1 : Int32)) ([] ++ [(.ref vv)]) .null
set_option maxRecDepth 65536 in
set_option maxHeartbeats 40000000 in
theorem rm_pth (l : Launch) (Z : State) (a0 : Array Value) (hw : own_HW a0 Z) (ws : List Jvm.Cond) (vv : Addr) (gg : Addr) (no : Addr) (kno : ClassId) (h0 : Heap) (n0 : Nat) (Z0 : n0 ≤ h0.size) (H0_I : own_In Z h0 vv) (H1_S : Sta Z h0 "org/tallyrole/core/IntTrie$Chunk" "NONE" "[Ljava/lang/Object;" (.ref no)) (H2_A : Arv Z h0 no kno (.object "java/lang/Object") (0 : Int32) [] .null) :
    own_M l yn_15 (Jvm.Cond.code yn_15 prog_45_method_11_code 5 (some (.object "org/tallyrole/core/IntTrie$Chunk")) :: ws) ({ frames := 2, cells := 2, slots := 6, locals := 36 } : Room) Z #[(.int 0), (.int 0), (.ref vv), (.ref gg)] h0 (Q_pth Z vv gg no kno h0 n0) := by
  refine MetFree.of_bodySF (plainFor_of_name pn_6) hisR ?_
  intro p e s m args below meth c s₁ Bd hml0 hP hK
  have ow := @own_w a0 Z hw
  obtain ⟨rfl, hZ, hhp_⟩ := hP
  have hx := Bd.exec
  have hby := Bd.bytes
  have dx := @own_hd _ _ _ hby Dc17
  have hml : c.maxLocals = 5 := hml0
  have hown : s.vm.findClass "org/tallyrole/core/IntTrie" = some m.cls := findClass_of_methodNamed Bd.named
  have hnm := (name_of_methodNamed Bd.named Bd.method).1
  have X0 : Stand p l e ({ frames := 2, cells := 2, slots := 6, locals := 36 } : Room) s m _ below meth c s₁ [] 0 0 := Stand.of_body Bd
  have e0 : s₁.heap = h0 := by rw [← hhp_, Bd.state]; rfl
  have N0 := Fr.nil n0
  have pre0 : ∀ t, Steps p.tables e below (s₁.setTop (mkF m 0 #[.val (.int 0), .val (.int 0), .val (.ref vv), .val (.ref gg), .unset] [])) t → Steps p.tables e below (s₁.setTop (entryFrame m #[(.int 0), (.int 0), (.ref vv), (.ref gg)] 5)) t := fun t k => castTop rfl k
  have K0 : Keep h0 h0 [] := Keep.refl h0 []
  obtain ⟨T1, h1, X1, e1, E1, A1, D1, -, st1⟩ := newO X0 hx hZ hown (ow 152 rfl) (ow 153 rfl) (ow 154 rfl) e0 (g := (mkF m 19 #[.val (.int 0), .val (.int 0), .val (.ref vv), .val (.ref gg), .val (.ref vv)] [])) rfl (dx 5 rfl) (by decide) (by decide)
  obtain ⟨b1, g1⟩ : ∃ z, z = h0.size := ⟨_, rfl⟩
  have ge_b1 : n0 ≤ b1 := Nat.le_trans Z0 (Nat.le_of_eq g1.symm)
  have sz_b1 : h0.size ≤ b1 := Nat.le_trans K0.1 (Nat.le_of_eq g1.symm)
  rw [← g1] at A1 D1 st1
  have K1 : Keep h0 h1 [] := K0.ext E1
  have F2 : f_23 Z h1 b1 .null := D1 (Or.inl (ow 162 rfl)) (ty := (.array (.object "java/lang/Object"))) (by decide)
  have F3 : f_24 Z h1 b1 .null := D1 (Or.inr (ow 164 rfl)) (ty := (.object "java/lang/Object")) (by decide)
  have F4 : f_25 Z h1 b1 (.int 0) := D1 (Or.inl (ow 171 rfl)) (ty := .int) (by decide)
  have S6 := H1_S.ext E1
  have Zs7 : n0 ≤ h1.size := (Nat.le_trans Z0 E1.1)
  obtain ⟨_, T5, Lc5, X5, hQ5, st5⟩ := own_rt X1 (X1.specialBack hx (y := yn_8) rfl hown (mvT hZ (ow 155 rfl)) (mvT hZ (ow 156 rfl)) (mvT hZ (ow 157 rfl)) (by decide) (backOf (W := 1) (rm_chI l Z a0 hw [] b1 gg no h1 n0 Zs7 A1 S6 F4 F2 F3 ge_b1) hZ (ow 157 rfl) (ow 154 rfl) (by decide) (by decide)) (g := (mkF m 24 #[.val (.int 0), .val (.int 0), .val (.ref vv), .val (.ref gg), .val (.ref vv)] [(.ref gg), (.ref b1), (.ref b1)])) rfl (by rw [hml]; rfl) (Steps.refl _) (a := b1) (argsL := [(.ref gg)]) (rest := [(.ref b1)]) (lenOf pd_4 rfl) rfl (Nat.le_of_eq rfl) (dx 8 rfl) (fun _ _ => ⟨rfl, e1, (by decide : 1 + 0 ≤ _), (by decide : 3 + 0 ≤ _)⟩))
  obtain ⟨rfl, N5q, hq8, F9, F10, F11⟩ := hQ5
  have N5 := Fr.app N0 N5q
  have K5 : Keep h0 T5.heap [] := K1.trans hq8 (allS (Or.inr sz_b1) all0)
  have E13 := A1.keep hq8
  have ne15 : no ≠ b1 := Nat.ne_of_lt (Nat.lt_of_lt_of_le H2_A.lt (Nat.le_of_eq g1.symm))
  have A14 := (H2_A.ext E1).keep hq8 (ninS ne15 nin0)
  have I16 := (H0_I.ext E1).keep hq8
  have Zs17 : n0 ≤ T5.heap.size := (Nat.le_trans Zs7 hq8.1)
  obtain ⟨cq12, kq12, q12a, q12b, q12c⟩ := isOf hZ rfl E13
  obtain ⟨_, T12, Lc12, X12, hQ12, st12⟩ := own_rt X5 (X5.virtualBack hx (y := yn_10) (z := yn_10) hown (mvT hZ (ow 165 rfl)) (mvT hZ (ow 166 rfl)) (notFace_of_selects (args := #[]) (mvT hZ (ow 168 rfl))) (mvT hZ (ow 168 rfl)) (mvT hZ (ow 167 rfl)) (by decide) (backOf (W := 0) (rm_stA l Z a0 hw [] b1 no kno gg (0 : Int32) (0 : Int32) [] (0 : Int32) vv T5.heap n0 Zs17 E13 F9 F10 F11 A14 I16 own_Ins_nil ge_b1 (Ne.symm ne15) (by decide) (by decide) ⟨rfl, by decide⟩ (by decide)) hZ (ow 169 rfl) (ow 154 rfl) (by decide) (by decide)) q12a q12c (g := (mkF m 35 #[.val (.int 0), .val (.int 0), .val (.ref vv), .val (.ref gg), .val (.ref vv)] [(.ref vv), (.int 0), (.ref b1)])) rfl (by rw [hml]; rfl) (Steps.refl _) (argsL := [(.int 0), (.ref vv)]) (rest := []) (lenOf pd_5 rfl) rfl (Nat.le_of_eq rfl) (dx 15 rfl) (fun _ _ => ⟨rfl, rfl, (by decide : 1 + 1 ≤ _), (by decide : 3 + 3 ≤ _)⟩))
  obtain ⟨x18, x19, rfl, N12q, hq20, hpq21, hpq22, F23, F24, F25, A26⟩ := hQ12
  have N12 := Fr.app N5 N12q
  have K12 : Keep h0 T12.heap [] := K5.trans hq20 (allS (Or.inr sz_b1) all0)
  have sz27 : h0.size ≤ x18 := Nat.le_trans K5.1 hpq22
  have pre28 := fun (t : State) (k : Steps p.tables e below (T12.setTop (mkF m 38 #[.val (.int 0), .val (.int 0), .val (.ref vv), .val (.ref gg), .val (.ref vv)] [(.ref b1)])) t) => pre0 t (by
    refine XS.iloadN X0.here hx rfl (dx 0 rfl) rfl ?_
    refine XS.ifNo X0.here hx rfl (dx 1 rfl) rfl ((if0 _ _).trans (teq (by decide : (0 : Int32) = (0 : Int32))).2) ?_
    refine XS.aloadN X0.here hx rfl (dx 2 rfl) rfl rfl ?_
    refine XS.goto X0.here hx rfl (pc0 := 5) (pc' := 17) rfl (dx 3 rfl) (by decide) (by decide) ?_
    refine XS.astore X0.here hx rfl (dx 4 rfl) rfl rfl (l' := #[.val (.int 0), .val (.int 0), .val (.ref vv), .val (.ref gg), .val (.ref vv)]) rfl ?_
    refine st1 _ ?_
    refine XS.dup X1.here hx rfl (dx 6 rfl) rfl rfl ?_
    refine XS.aloadN X1.here hx rfl (dx 7 rfl) rfl rfl ?_
    refine st5.trans ?_
    refine XS.iloadN X5.here hx rfl (dx 9 rfl) rfl ?_
    refine XS.iloadN X5.here hx rfl (dx 10 rfl) rfl ?_
    refine XS.iushr X5.here hx rfl (dx 11 rfl) rfl ?_
    refine XS.bipush X5.here hx rfl (dx 12 rfl) ?_
    refine XS.iand X5.here hx rfl (dx 13 rfl) rfl ?_
    refine XS.aload X5.here hx rfl (dx 14 rfl) rfl rfl ?_
    refine st12.trans ?_
    exact k)
  have E29 := E13.keep hq20
  have ne30 : b1 ≠ x18 := Nat.ne_of_lt (Nat.lt_of_lt_of_le F9.lt hpq22)
  obtain ⟨fs, hr, hrun, hended, hW, hsame⟩ := X12.leave (v := some (.ref b1)) (hlocks := BodyLoose.notSynchronized Bd) (fun h => by rw [Bd.returns] at h; cases h)
  refine ⟨_, _, pre28 _ ?_, hrun, hended, _, _, rfl, ?_, ⟨_, rfl⟩, hW, hsame.mono (by decide) (by decide)⟩
  · jvm_step X12.here [X12.here.top, hx, (dx 16 rfl), X12.method', Bd.returns, Value.isRef, FieldType.isReference]
    first | (intro acts; rw [hr _ acts rfl rfl rfl]) | rw [hr _ _ rfl rfl rfl]
    exact Steps.refl _
  · show Q_pth Z vv gg no kno h0 n0 _ T12.heap _
    exact ⟨b1, x18, x19, rfl, N12, K12, ge_b1, sz_b1, hpq21, sz27, ne30, E29, F23, F24, F25, A26⟩

def Q_itI (Z : State) (dd : Addr) (ch : Addr) (h0 : Heap) (n0 : Nat) (v : Option Value) (h : Heap) (L : List Loc) : Prop := v = none ∧ Fr n0 L ∧ Keep h0 h [dd] ∧ f_27 Z h dd (.ref ch) ∧ f_28 Z h dd (.int 0)
set_option maxRecDepth 65536 in
set_option maxHeartbeats 40000000 in
theorem rm_itI (l : Launch) (Z : State) (a0 : Array Value) (hw : own_HW a0 Z) (ws : List Jvm.Cond) (dd : Addr) (ch : Addr) (h0 : Heap) (n0 : Nat) (Z0 : n0 ≤ h0.size) (H0_E : e_29 Z h0 dd) (H1_F : f_27 Z h0 dd .null) (H2_F : f_28 Z h0 dd (.int 0)) (hg_dd : n0 ≤ dd) :
    own_M l yn_16 (Jvm.Cond.code yn_16 prog_45_method_1_code 3 none :: ws) ({ frames := 1, cells := 0, slots := 0, locals := 12 } : Room) Z #[(.ref dd), (.ref ch), (.int 0)] h0 (Q_itI Z dd ch h0 n0) := by
  refine MetFree.of_bodySF (plainFor_of_name pn_6) hisR ?_
  intro p e s m args below meth c s₁ Bd hml0 hP hK
  have ow := @own_w a0 Z hw
  obtain ⟨rfl, hZ, hhp_⟩ := hP
  have hx := Bd.exec
  have hby := Bd.bytes
  have dx := @own_hd _ _ _ hby Dc21
  have hml : c.maxLocals = 3 := hml0
  have hown : s.vm.findClass "org/tallyrole/core/IntTrie" = some m.cls := findClass_of_methodNamed Bd.named
  have hnm := (name_of_methodNamed Bd.named Bd.method).1
  have X0 : Stand p l e ({ frames := 1, cells := 0, slots := 0, locals := 12 } : Room) s m _ below meth c s₁ [] 0 0 := Stand.of_body Bd
  have e0 : s₁.heap = h0 := by rw [← hhp_, Bd.state]; rfl
  have N0 := Fr.nil n0
  have pre0 : ∀ t, Steps p.tables e below (s₁.setTop (mkF m 0 #[.val (.ref dd), .val (.ref ch), .val (.int 0)] [])) t → Steps p.tables e below (s₁.setTop (entryFrame m #[(.ref dd), (.ref ch), (.int 0)] 3)) t := fun t k => castTop rfl k
  have K0 : Keep h0 h0 [dd] := Keep.refl h0 [dd]
  obtain ⟨T1, X1, e1, st1⟩ := initO X0 hx hZ hown (ow 190 rfl) (ow 7 rfl) (ow 8 rfl) e0 (g := (mkF m 1 #[.val (.ref dd), .val (.ref ch), .val (.int 0)] [(.ref dd)])) rfl (by rw [hml]; rfl) rfl (dx 1 rfl) (by decide) (W := 0) (Nat.le_of_eq rfl) (by decide)
  obtain ⟨T2, h2, X2, e2, W2, st2⟩ := putF X1 hx hZ hown (host := "") (Or.inl (ow 84 rfl)) Via.refl e1 H1_F H0_E (Or.inr ⟨(ow 85 rfl), rfl, hnm⟩) (ow 186 rfl) (ty := (.object "org/tallyrole/core/IntTrie$Chunk")) (by decide) rfl rfl (g := (mkF m 6 #[.val (.ref dd), .val (.ref ch), .val (.int 0)] [(.ref ch), (.ref dd)])) rfl rfl (dx 4 rfl)
  have Fw2 : f_27 Z h2 dd (.ref ch) := H1_F.same W2
  have N2 := Fr.snoc X2 N0 hg_dd
  have K2 : Keep h0 h2 [dd] := K0.wr W2 (Or.inl (own_mem (i := 0) rfl))
  have F4 := H2_F.other W2 (Or.inr (sn_40 hw))
  have E5 := H0_E.wr W2
  obtain ⟨T3, h3, X3, e3, W3, st3⟩ := putF X2 hx hZ hown (host := "") (Or.inl (ow 147 rfl)) Via.refl e2 F4 E5 (Or.inr ⟨(ow 148 rfl), rfl, hnm⟩) (ow 186 rfl) (ty := .int) (by decide) rfl rfl (g := (mkF m 11 #[.val (.ref dd), .val (.ref ch), .val (.int 0)] [(.int 0), (.ref dd)])) rfl rfl (dx 7 rfl)
  have Fw3 : f_28 Z h3 dd (.int 0) := F4.same W3
  have N3 := Fr.snoc X3 N2 hg_dd
  have K3 : Keep h0 h3 [dd] := K2.wr W3 (Or.inl (own_mem (i := 0) rfl))
  have pre6 := fun (t : State) (k : Steps p.tables e below (T3.setTop (mkF m 14 #[.val (.ref dd), .val (.ref ch), .val (.int 0)] [])) t) => pre0 t (by
    refine XS.aloadN X0.here hx rfl (dx 0 rfl) rfl rfl ?_
    refine st1 _ ?_
    refine XS.aloadN X1.here hx rfl (dx 2 rfl) rfl rfl ?_
    refine XS.aloadN X1.here hx rfl (dx 3 rfl) rfl rfl ?_
    refine st2 _ ?_
    refine XS.aloadN X2.here hx rfl (dx 5 rfl) rfl rfl ?_
    refine XS.iloadN X2.here hx rfl (dx 6 rfl) rfl ?_
    refine st3 _ ?_
    exact k)
  have F7 := Fw2.other W3 (Or.inr (sn_40 hw).symm)
  obtain ⟨fs, hr, hrun, hended, hW, hsame⟩ := X3.leave (v := none) (hlocks := BodyLoose.notSynchronized Bd) (fun _ => rfl)
  refine ⟨_, _, pre6 _ ?_, hrun, hended, _, _, rfl, ?_, ⟨_, rfl⟩, hW, hsame.mono (by decide) (by decide)⟩
  · exact X3.returnOut hx Bd.returns (dx 8 rfl) hr
  · show Q_itI Z dd ch h0 n0 _ T3.heap _
    rw [e3]
    exact ⟨rfl, N3, K3, F7, Fw3⟩

def Q_wE (Z : State) (em : Addr) (vv : Addr) (gg : Addr) (no : Addr) (kno : ClassId) (h0 : Heap) (n0 : Nat) (v : Option Value) (h : Heap) (L : List Loc) : Prop := ∃ tt : Addr, ∃ ch : Addr, ∃ xx : Addr, ∃ kx : ClassId, v = some (.ref tt) ∧ Fr n0 L ∧ Keep h0 h [] ∧ n0 ≤ tt ∧ h0.size ≤ tt ∧ n0 ≤ ch ∧ h0.size ≤ ch ∧ n0 ≤ xx ∧ h0.size ≤ xx ∧ ch ≠ xx ∧ tt ≠ ch ∧ tt ≠ xx ∧ e_29 Z h tt ∧ f_27 Z h tt (.ref ch) ∧ f_28 Z h tt (.int 0) ∧ e_26 Z h ch ∧ f_25 Z h ch (.int ((0 : Int32) ||| ((1 : Int32) <<< ((0 : Int32) &&& 31)))) ∧ f_23 Z h ch (.ref xx) ∧ f_24 Z h ch (.ref gg) ∧ Arv Z h xx kx (.object "java/lang/Object") ((0 : Int32) + (1 : Int32)) ([] ++ [(.ref vv)]) .null
set_option maxRecDepth 65536 in
set_option maxHeartbeats 40000000 in
theorem rm_wE (l : Launch) (Z : State) (a0 : Array Value) (hw : own_HW a0 Z) (ws : List Jvm.Cond) (em : Addr) (vv : Addr) (gg : Addr) (no : Addr) (kno : ClassId) (h0 : Heap) (n0 : Nat) (Z0 : n0 ≤ h0.size) (H0_E : e_29 Z h0 em) (H1_F : f_27 Z h0 em .null) (H2_F : f_28 Z h0 em (.int 0)) (H3_I : own_In Z h0 vv) (H4_S : Sta Z h0 "org/tallyrole/core/IntTrie$Chunk" "NONE" "[Ljava/lang/Object;" (.ref no)) (H5_A : Arv Z h0 no kno (.object "java/lang/Object") (0 : Int32) [] .null) :
    own_M l yn_17 (Jvm.Cond.code yn_17 prog_45_method_6_code 7 (some (.object "org/tallyrole/core/IntTrie")) :: ws) ({ frames := 3, cells := 3, slots := 8, locals := 52 } : Room) Z #[(.ref em), (.int 0), (.ref vv), (.ref gg)] h0 (Q_wE Z em vv gg no kno h0 n0) := by
  refine MetFree.of_bodySF (plainFor_of_name pn_6) hisR ?_
  intro p e s m args below meth c s₁ Bd hml0 hP hK
  have ow := @own_w a0 Z hw
  obtain ⟨rfl, hZ, hhp_⟩ := hP
  have hx := Bd.exec
  have hby := Bd.bytes
  have dx := @own_hd _ _ _ hby Dc15
  have hml : c.maxLocals = 7 := hml0
  have hown : s.vm.findClass "org/tallyrole/core/IntTrie" = some m.cls := findClass_of_methodNamed Bd.named
  have hnm := (name_of_methodNamed Bd.named Bd.method).1
  have X0 : Stand p l e ({ frames := 3, cells := 3, slots := 8, locals := 52 } : Room) s m _ below meth c s₁ [] 0 0 := Stand.of_body Bd
  have e0 : s₁.heap = h0 := by rw [← hhp_, Bd.state]; rfl
  have N0 := Fr.nil n0
  have pre0 : ∀ t, Steps p.tables e below (s₁.setTop (mkF m 0 #[.val (.ref em), .val (.int 0), .val (.ref vv), .val (.ref gg), .unset, .unset, .unset] [])) t → Steps p.tables e below (s₁.setTop (entryFrame m #[(.ref em), (.int 0), (.ref vv), (.ref gg)] 7)) t := fun t k => castTop rfl k
  have K0 : Keep h0 h0 [] := Keep.refl h0 []
  obtain ⟨_, T1, Lc1, X1, hQ1, st1⟩ := own_rtC X0 (Jvm.LawKit.callS X0 hx (y := yn_14) hown (mvT hZ (ow 143 rfl)) (mvT hZ (ow 144 rfl)) (mvT hZ (ow 145 rfl)) (mvT hZ (ow 146 rfl)) (by decide) (backOf (W := 0) (rm_rn l Z a0 hw [] vv h0 n0 Z0 ) hZ (ow 146 rfl) (ow 145 rfl) (by decide) (by decide)) (g := (mkF m 1 #[.val (.ref em), .val (.int 0), .val (.ref vv), .val (.ref gg), .unset, .unset, .unset] [(.ref vv)])) rfl (by rw [hml]; rfl) (argsL := [(.ref vv)]) (rest := []) (lenOf pd_6 rfl) rfl (Nat.le_of_eq rfl) (dx 1 rfl) (fun _ _ => ⟨rfl, e0, (by decide : 0 + 0 ≤ _), (by decide : 0 + 0 ≤ _)⟩))
  obtain ⟨rfl, N1q, hq2⟩ := hQ1
  have N1 := Fr.app N0 N1q
  obtain ⟨T3, X3, e3, st3⟩ := getF X1 hx hZ hown (host := "") (Or.inl (ow 84 rfl)) Via.refl hq2 H1_F (g := (mkF m 24 #[.val (.ref em), .val (.int 0), .val (.ref vv), .val (.ref gg), .unset, .unset, .unset] [(.ref em)])) rfl rfl (dx 6 rfl)
  obtain ⟨T4, X4, e4, st4⟩ := getF X3 hx hZ hown (host := "") (Or.inl (ow 147 rfl)) Via.refl e3 H2_F (g := (mkF m 30 #[.val (.ref em), .val (.int 0), .val (.ref vv), .val (.ref gg), .val .null, .unset, .unset] [(.ref em)])) rfl rfl (dx 9 rfl)
  obtain ⟨_, T5, Lc5, X5, hQ5, st5⟩ := own_rtC X4 (Jvm.LawKit.callS X4 hx (y := yn_15) hown (mvT hZ (ow 149 rfl)) (mvT hZ (ow 150 rfl)) (mvT hZ (ow 11 rfl)) (mvT hZ (ow 151 rfl)) (by decide) (backOf (W := 0) (rm_pth l Z a0 hw [] vv gg no kno h0 n0 Z0 H3_I H4_S H5_A) hZ (ow 151 rfl) (ow 11 rfl) (by decide) (by decide)) (g := (mkF m 63 #[.val (.ref em), .val (.int 0), .val (.ref vv), .val (.ref gg), .val .null, .val (.int 0), .unset] [(.ref gg), (.ref vv), (.int 0), (.int 0)])) rfl (by rw [hml]; rfl) (argsL := [(.int 0), (.int 0), (.ref vv), (.ref gg)]) (rest := []) (lenOf pd_7 rfl) rfl (Nat.le_of_eq rfl) (dx 24 rfl) (fun _ _ => ⟨rfl, e4, (by decide : 0 + 2 ≤ _), (by decide : 0 + 6 ≤ _)⟩))
  obtain ⟨x6, x7, x8, rfl, N5q, hq9, hpq10, hpq11, hpq12, hpq13, hpq14, E15, F16, F17, F18, A19⟩ := hQ5
  have N5 := Fr.app N1 N5q
  have K5 : Keep h0 T5.heap [] := K0.trans hq9 all0
  have sz20 : h0.size ≤ x6 := Nat.le_trans K0.1 hpq11
  have sz21 : h0.size ≤ x7 := Nat.le_trans K0.1 hpq13
  have F22 := H1_F.keep hq9 nin0
  obtain ⟨T23, X23, e23, st23⟩ := getF X5 hx hZ hown (host := "") (Or.inl (ow 84 rfl)) Via.refl rfl F22 (g := (mkF m 124 #[.val (.ref em), .val (.int 0), .val (.ref vv), .val (.ref gg), .val (.ref x6), .val (.int 0), .unset] [(.ref em), (.ref x6)])) rfl rfl (dx 29 rfl)
  obtain ⟨T24, h24, X24, e24, E24, A24, D24, -, st24⟩ := newO X23 hx hZ hown (ow 185 rfl) (ow 186 rfl) (ow 11 rfl) e23 (g := (mkF m 134 #[.val (.ref em), .val (.int 0), .val (.ref vv), .val (.ref gg), .val (.ref x6), .val (.int 0), .unset] [])) rfl (dx 31 rfl) (by decide) (by decide)
  obtain ⟨b24, g24⟩ : ∃ z, z = T5.heap.size := ⟨_, rfl⟩
  have ge_b24 : n0 ≤ b24 := Nat.le_trans (Nat.le_trans Z0 hq9.1) (Nat.le_of_eq g24.symm)
  have sz_b24 : h0.size ≤ b24 := Nat.le_trans K5.1 (Nat.le_of_eq g24.symm)
  rw [← g24] at A24 D24 st24
  have K24 : Keep h0 h24 [] := K5.ext E24
  have F25 : f_27 Z h24 b24 .null := D24 (Or.inr (ow 85 rfl)) (ty := (.object "org/tallyrole/core/IntTrie$Chunk")) (by decide)
  have F26 : f_28 Z h24 b24 (.int 0) := D24 (Or.inr (ow 148 rfl)) (ty := .int) (by decide)
  have Zs28 : n0 ≤ h24.size := (Nat.le_trans (Nat.le_trans Z0 hq9.1) E24.1)
  obtain ⟨_, T27, Lc27, X27, hQ27, st27⟩ := own_rt X24 (X24.specialBack hx (y := yn_16) rfl hown (mvT hZ (ow 187 rfl)) (mvT hZ (ow 188 rfl)) (mvT hZ (ow 189 rfl)) (by decide) (backOf (W := 1) (rm_itI l Z a0 hw [] b24 x6 h24 n0 Zs28 A24 F25 F26 ge_b24) hZ (ow 189 rfl) (ow 11 rfl) (by decide) (by decide)) (g := (mkF m 142 #[.val (.ref em), .val (.int 0), .val (.ref vv), .val (.ref gg), .val (.ref x6), .val (.int 0), .unset] [(.int 0), (.ref x6), (.ref b24), (.ref b24)])) rfl (by rw [hml]; rfl) (Steps.refl _) (a := b24) (argsL := [(.ref x6), (.int 0)]) (rest := [(.ref b24)]) (lenOf pd_8 rfl) rfl (Nat.le_of_eq rfl) (dx 35 rfl) (fun _ _ => ⟨rfl, e24, (by decide : 3 + 0 ≤ _), (by decide : 8 + 0 ≤ _)⟩))
  obtain ⟨rfl, N27q, hq29, F30, F31⟩ := hQ27
  have N27 := Fr.app N5 N27q
  have K27 : Keep h0 T27.heap [] := K24.trans hq29 (allS (Or.inr sz_b24) all0)
  have pre32 := fun (t : State) (k : Steps p.tables e below (T27.setTop (mkF m 145 #[.val (.ref em), .val (.int 0), .val (.ref vv), .val (.ref gg), .val (.ref x6), .val (.int 0), .unset] [(.ref b24)])) t) => pre0 t (by
    refine XS.aloadN X0.here hx rfl (dx 0 rfl) rfl rfl ?_
    refine st1 _ ?_
    refine XS.pop X1.here hx rfl (dx 2 rfl) rfl rfl ?_
    refine XS.iloadN X1.here hx rfl (dx 3 rfl) rfl ?_
    refine XS.ifYes X1.here hx rfl (pc0 := 6) (pc' := 23) rfl (dx 4 rfl) rfl ((if0 _ _).trans (flt (by decide : ¬ ((0 : Int32) < (0 : Int32)))).2.1) (by decide) (by decide) ?_
    refine XS.aloadN X1.here hx rfl (dx 5 rfl) rfl rfl ?_
    refine st3 _ ?_
    refine XS.astore X3.here hx rfl (dx 7 rfl) rfl rfl (l' := #[.val (.ref em), .val (.int 0), .val (.ref vv), .val (.ref gg), .val .null, .unset, .unset]) rfl ?_
    refine XS.aloadN X3.here hx rfl (dx 8 rfl) rfl rfl ?_
    refine st4 _ ?_
    refine XS.istore X4.here hx rfl (dx 10 rfl) rfl (l' := #[.val (.ref em), .val (.int 0), .val (.ref vv), .val (.ref gg), .val .null, .val (.int 0), .unset]) rfl ?_
    refine XS.aload X4.here hx rfl (dx 11 rfl) rfl rfl ?_
    refine XS.ifnonnullNo X4.here hx rfl (dx 12 rfl) rfl ?_
    refine XS.iconst X4.here hx rfl (dx 13 rfl) ?_
    refine XS.istore X4.here hx rfl (dx 14 rfl) rfl (l' := #[.val (.ref em), .val (.int 0), .val (.ref vv), .val (.ref gg), .val .null, .val (.int 0), .unset]) rfl ?_
    refine XS.iloadN X4.here hx rfl (dx 15 rfl) rfl ?_
    refine XS.iload X4.here hx rfl (dx 16 rfl) rfl ?_
    refine XS.iushr X4.here hx rfl (dx 17 rfl) rfl ?_
    refine XS.bipush X4.here hx rfl (dx 18 rfl) ?_
    refine XS.icmpYes X4.here hx rfl (pc0 := 49) (pc' := 58) rfl (dx 19 rfl) rfl (flt (by decide : ¬ ((31 : Int32) < (0 : Int32)))).2.2.2 (by decide) (by decide) ?_
    refine XS.iloadN X4.here hx rfl (dx 20 rfl) rfl ?_
    refine XS.iload X4.here hx rfl (dx 21 rfl) rfl ?_
    refine XS.aloadN X4.here hx rfl (dx 22 rfl) rfl rfl ?_
    refine XS.aloadN X4.here hx rfl (dx 23 rfl) rfl rfl ?_
    refine st5 _ ?_
    refine XS.astore X5.here hx rfl (dx 25 rfl) rfl rfl (l' := #[.val (.ref em), .val (.int 0), .val (.ref vv), .val (.ref gg), .val (.ref x6), .val (.int 0), .unset]) rfl ?_
    refine XS.goto X5.here hx rfl (pc0 := 68) (pc' := 121) rfl (dx 26 rfl) (by decide) (by decide) ?_
    refine XS.aload X5.here hx rfl (dx 27 rfl) rfl rfl ?_
    refine XS.aloadN X5.here hx rfl (dx 28 rfl) rfl rfl ?_
    refine st23 _ ?_
    refine Jvm.RoadKit.acmp (g := (mkF m 127 #[.val (.ref em), .val (.int 0), .val (.ref vv), .val (.ref gg), .val (.ref x6), .val (.int 0), .unset] [.null, (.ref x6)])) X23 hx rfl rfl rfl (pc0 := 127) (pc' := 134) (same := false) rfl (dx 30 rfl) rfl (decide_eq_false nofun) (by decide) (by decide) ?_
    refine st24 _ ?_
    refine XS.dup X24.here hx rfl (dx 32 rfl) rfl rfl ?_
    refine XS.aload X24.here hx rfl (dx 33 rfl) rfl rfl ?_
    refine XS.iload X24.here hx rfl (dx 34 rfl) rfl ?_
    refine st27.trans ?_
    exact k)
  have E33 := A24.keep hq29
  have E34 := (E15.ext E24).keep hq29
  have ne36 : x6 ≠ b24 := Nat.ne_of_lt (Nat.lt_of_lt_of_le E15.lt (Nat.le_of_eq g24.symm))
  have F35 := (F16.ext E24).keep hq29 (ninS ne36 nin0)
  have F37 := (F17.ext E24).keep hq29 (ninS ne36 nin0)
  have F38 := (F18.ext E24).keep hq29 (ninS ne36 nin0)
  have ne40 : x7 ≠ b24 := Nat.ne_of_lt (Nat.lt_of_lt_of_le A19.lt (Nat.le_of_eq g24.symm))
  have A39 := (A19.ext E24).keep hq29 (ninS ne40 nin0)
  obtain ⟨fs, hr, hrun, hended, hW, hsame⟩ := X27.leave (v := some (.ref b24)) (hlocks := BodyLoose.notSynchronized Bd) (fun h => by rw [Bd.returns] at h; cases h)
  refine ⟨_, _, pre32 _ ?_, hrun, hended, _, _, rfl, ?_, ⟨_, rfl⟩, hW, hsame.mono (by decide) (by decide)⟩
  · jvm_step X27.here [X27.here.top, hx, (dx 36 rfl), X27.method', Bd.returns, Value.isRef, FieldType.isReference]
    first | (intro acts; rw [hr _ acts rfl rfl rfl]) | rw [hr _ _ rfl rfl rfl]
    exact Steps.refl _
  · show Q_wE Z em vv gg no kno h0 n0 _ T27.heap _
    exact ⟨b24, x6, x7, x8, rfl, N27, K27, ge_b24, sz_b24, hpq10, sz20, hpq12, sz21, hpq14, (Ne.symm ne36), (Ne.symm ne40), E33, F30, F31, E34, F35, F37, F38, A39⟩

def Q_obn (Z : State) (ch : Addr) (gg : Addr) (h0 : Heap) (n0 : Nat) (v : Option Value) (h : Heap) (L : List Loc) : Prop := v = some (.ref ch) ∧ Fr n0 L ∧ h = h0
set_option maxRecDepth 65536 in
set_option maxHeartbeats 40000000 in
theorem rm_obn (l : Launch) (Z : State) (a0 : Array Value) (hw : own_HW a0 Z) (ws : List Jvm.Cond) (ch : Addr) (gg : Addr) (h0 : Heap) (n0 : Nat) (Z0 : n0 ≤ h0.size) (H0_F : f_24 Z h0 ch (.ref gg)) :
    own_M l yn_18 (Jvm.Cond.code yn_18 prog_47_method_3_code 3 (some (.object "org/tallyrole/core/IntTrie$Chunk")) :: ws) ({ frames := 0, cells := 0, slots := 0, locals := 0 } : Room) Z #[(.ref ch), (.ref gg)] h0 (Q_obn Z ch gg h0 n0) := by
  refine MetFree.of_bodySF (plainFor_of_name pn_8) hisR ?_
  intro p e s m args below meth c s₁ Bd hml0 hP hK
  have ow := @own_w a0 Z hw
  obtain ⟨rfl, hZ, hhp_⟩ := hP
  have hx := Bd.exec
  have hby := Bd.bytes
  have dx := @own_hd _ _ _ hby Dc27
  have hml : c.maxLocals = 3 := hml0
  have hown : s.vm.findClass "org/tallyrole/core/IntTrie$Chunk" = some m.cls := findClass_of_methodNamed Bd.named
  have hnm := (name_of_methodNamed Bd.named Bd.method).1
  have X0 : Stand p l e ({ frames := 0, cells := 0, slots := 0, locals := 0 } : Room) s m _ below meth c s₁ [] 0 0 := Stand.of_body Bd
  have e0 : s₁.heap = h0 := by rw [← hhp_, Bd.state]; rfl
  have N0 := Fr.nil n0
  have pre0 : ∀ t, Steps p.tables e below (s₁.setTop (mkF m 0 #[.val (.ref ch), .val (.ref gg), .unset] [])) t → Steps p.tables e below (s₁.setTop (entryFrame m #[(.ref ch), (.ref gg)] 3)) t := fun t k => castTop rfl k
  obtain ⟨T1, X1, e1, st1⟩ := getF X0 hx hZ hown (host := "") (Or.inl (ow 163 rfl)) Via.refl e0 H0_F (g := (mkF m 3 #[.val (.ref ch), .val (.ref gg), .val (.ref ch)] [(.ref ch)])) rfl rfl (dx 3 rfl)
  have pre2 := fun (t : State) (k : Steps p.tables e below (T1.setTop (mkF m 42 #[.val (.ref ch), .val (.ref gg), .val (.ref ch)] [(.ref ch)])) t) => pre0 t (by
    refine XS.aloadN X0.here hx rfl (dx 0 rfl) rfl rfl ?_
    refine XS.astoreN X0.here hx rfl (dx 1 rfl) rfl rfl (l' := #[.val (.ref ch), .val (.ref gg), .val (.ref ch)]) rfl ?_
    refine XS.aloadN X0.here hx rfl (dx 2 rfl) rfl rfl ?_
    refine st1 _ ?_
    refine XS.aloadN X1.here hx rfl (dx 4 rfl) rfl rfl ?_
    refine Jvm.RoadKit.acmp (g := (mkF m 7 #[.val (.ref ch), .val (.ref gg), .val (.ref ch)] [(.ref gg), (.ref gg)])) X1 hx rfl rfl rfl (pc0 := 7) (pc' := 41) (same := true) rfl (dx 5 rfl) rfl (decide_eq_true rfl) (by decide) (by decide) ?_
    refine XS.aloadN X1.here hx rfl (dx 6 rfl) rfl rfl ?_
    exact k)
  obtain ⟨fs, hr, hrun, hended, hW, hsame⟩ := X1.leave (v := some (.ref ch)) (hlocks := BodyLoose.notSynchronized Bd) (fun h => by rw [Bd.returns] at h; cases h)
  refine ⟨_, _, pre2 _ ?_, hrun, hended, _, _, rfl, ?_, ⟨_, rfl⟩, hW, hsame.mono (by decide) (by decide)⟩
  · jvm_step X1.here [X1.here.top, hx, (dx 7 rfl), X1.method', Bd.returns, Value.isRef, FieldType.isReference]
    first | (intro acts; rw [hr _ acts rfl rfl rfl]) | rw [hr _ _ rfl rfl rfl]
    exact Steps.refl _
  · show Q_obn Z ch gg h0 n0 _ T1.heap _
    rw [e1]
    exact ⟨rfl, N0, rfl⟩

def Q_put (Z : State) (ch : Addr) (ar : Addr) (ka : ClassId) (gg : Addr) (mm : Int32) (ln : Int32) (vs : List Value) (kk : Int32) (vv : Addr) (h0 : Heap) (n0 : Nat) (v : Option Value) (h : Heap) (L : List Loc) : Prop := ∃ xx : Addr, ∃ kx : ClassId, v = some (.ref ch) ∧ Fr n0 L ∧ Keep h0 h [ch] ∧ n0 ≤ xx ∧ h0.size ≤ xx ∧ f_25 Z h ch (.int (mm ||| ((1 : Int32) <<< ((((kk.toUInt32 >>> ((0 : Int32) &&& 31).toUInt32).toInt32) &&& (31 : Int32)) &&& 31)))) ∧ f_23 Z h ch (.ref xx) ∧ f_24 Z h ch (.ref gg) ∧ Arv Z h xx kx (.object "java/lang/Object") (ln + (1 : Int32)) (vs ++ [(.ref vv)]) .null
set_option maxRecDepth 65536 in
set_option maxHeartbeats 40000000 in
theorem rm_put (l : Launch) (Z : State) (a0 : Array Value) (hw : own_HW a0 Z) (ws : List Jvm.Cond) (ch : Addr) (ar : Addr) (ka : ClassId) (gg : Addr) (mm : Int32) (ln : Int32) (vs : List Value) (kk : Int32) (vv : Addr) (h0 : Heap) (n0 : Nat) (Z0 : n0 ≤ h0.size) (H0_E : e_26 Z h0 ch) (H1_F : f_25 Z h0 ch (.int mm)) (H2_F : f_23 Z h0 ch (.ref ar)) (H3_F : f_24 Z h0 ch (.ref gg)) (H4_A : Arv Z h0 ar ka (.object "java/lang/Object") ln vs .null) (H5_I : own_In Z h0 vv) (H6_L : own_Ins Z h0 vs) (hg_ch : n0 ≤ ch) (hn_ch_ar : ch ≠ ar) (hab : (mm &&& ((1 : Int32) <<< ((((kk.toUInt32 >>> ((0 : Int32) &&& 31).toUInt32).toInt32) &&& (31 : Int32)) &&& 31))) = (0 : Int32)) (hps : own_bc (mm &&& (((1 : Int32) <<< ((((kk.toUInt32 >>> ((0 : Int32) &&& 31).toUInt32).toInt32) &&& (31 : Int32)) &&& 31)) - (1 : Int32))) = ln) (hln : own_ln ln vs) (hl3 : vs.length < 3) :
    own_M l yn_19 (Jvm.Cond.code yn_19 prog_45_method_10_code 8 (some (.object "org/tallyrole/core/IntTrie$Chunk")) :: ws) ({ frames := 2, cells := 1, slots := 3, locals := 36 } : Room) Z #[(.ref ch), (.int 0), (.int kk), (.ref vv), (.ref gg)] h0 (Q_put Z ch ar ka gg mm ln vs kk vv h0 n0) := by
  refine MetFree.of_bodySF (plainFor_of_name pn_6) hisR ?_
  intro p e s m args below meth c s₁ Bd hml0 hP hK
  have ow := @own_w a0 Z hw
  obtain ⟨rfl, hZ, hhp_⟩ := hP
  have hx := Bd.exec
  have hby := Bd.bytes
  have dx := @own_hd _ _ _ hby Dc25
  have hml : c.maxLocals = 8 := hml0
  have hown : s.vm.findClass "org/tallyrole/core/IntTrie" = some m.cls := findClass_of_methodNamed Bd.named
  have hnm := (name_of_methodNamed Bd.named Bd.method).1
  have X0 : Stand p l e ({ frames := 2, cells := 1, slots := 3, locals := 36 } : Room) s m _ below meth c s₁ [] 0 0 := Stand.of_body Bd
  have e0 : s₁.heap = h0 := by rw [← hhp_, Bd.state]; rfl
  have N0 := Fr.nil n0
  have pre0 : ∀ t, Steps p.tables e below (s₁.setTop (mkF m 0 #[.val (.ref ch), .val (.int 0), .val (.int kk), .val (.ref vv), .val (.ref gg), .unset, .unset, .unset] [])) t → Steps p.tables e below (s₁.setTop (entryFrame m #[(.ref ch), (.int 0), (.int kk), (.ref vv), (.ref gg)] 8)) t := fun t k => castTop rfl k
  have K0 : Keep h0 h0 [ch] := Keep.refl h0 [ch]
  obtain ⟨cq1, kq1, q1a, q1b, q1c⟩ := isOf hZ e0 H0_E
  obtain ⟨_, T1, Lc1, X1, hQ1, st1⟩ := own_rt X0 (X0.virtualBack hx (y := yn_11) (z := yn_11) hown (mvT hZ (ow 210 rfl)) (mvT hZ (ow 211 rfl)) (notFace_of_selects (args := #[]) (mvT hZ (ow 213 rfl))) (mvT hZ (ow 213 rfl)) (mvT hZ (ow 212 rfl)) (by decide) (backOf (W := 0) (rm_slN l Z a0 hw [] ch mm (((kk.toUInt32 >>> ((0 : Int32) &&& 31).toUInt32).toInt32) &&& (31 : Int32)) h0 n0 Z0 H1_F hab) hZ (ow 214 rfl) (ow 154 rfl) (by decide) (by decide)) q1a q1c (g := (mkF m 11 #[.val (.ref ch), .val (.int 0), .val (.int kk), .val (.ref vv), .val (.ref gg), .val (.int (((kk.toUInt32 >>> ((0 : Int32) &&& 31).toUInt32).toInt32) &&& (31 : Int32))), .unset, .unset] [(.int (((kk.toUInt32 >>> ((0 : Int32) &&& 31).toUInt32).toInt32) &&& (31 : Int32))), (.ref ch)])) rfl (by rw [hml]; rfl) (Steps.refl _) (argsL := [(.int (((kk.toUInt32 >>> ((0 : Int32) &&& 31).toUInt32).toInt32) &&& (31 : Int32)))]) (rest := []) (lenOf pd_3 rfl) rfl (Nat.le_of_eq rfl) (dx 8 rfl) (fun _ _ => ⟨rfl, e0, (by decide : 0 + 0 ≤ _), (by decide : 0 + 0 ≤ _)⟩))
  obtain ⟨rfl, N1q, hq2⟩ := hQ1
  have N1 := Fr.app N0 N1q
  obtain ⟨cq3, kq3, q3a, q3b, q3c⟩ := isOf hZ hq2 H0_E
  obtain ⟨_, T3, Lc3, X3, hQ3, st3⟩ := own_rt X1 (X1.virtualBack hx (y := yn_18) (z := yn_18) hown (mvT hZ (ow 215 rfl)) (mvT hZ (ow 216 rfl)) (notFace_of_selects (args := #[]) (mvT hZ (ow 218 rfl))) (mvT hZ (ow 218 rfl)) (mvT hZ (ow 217 rfl)) (by decide) (backOf (W := 0) (rm_obn l Z a0 hw [] ch gg h0 n0 Z0 H3_F) hZ (ow 219 rfl) (ow 154 rfl) (by decide) (by decide)) q3a q3c (g := (mkF m 77 #[.val (.ref ch), .val (.int 0), .val (.int kk), .val (.ref vv), .val (.ref gg), .val (.int (((kk.toUInt32 >>> ((0 : Int32) &&& 31).toUInt32).toInt32) &&& (31 : Int32))), .val .null, .val (.ref vv)] [(.ref gg), (.ref ch)])) rfl (by rw [hml]; rfl) (Steps.refl _) (argsL := [(.ref gg)]) (rest := []) (lenOf pd_9 rfl) rfl (Nat.le_of_eq rfl) (dx 20 rfl) (fun _ _ => ⟨rfl, hq2, (by decide : 0 + 0 ≤ _), (by decide : 0 + 0 ≤ _)⟩))
  obtain ⟨rfl, N3q, hq4⟩ := hQ3
  have N3 := Fr.app N1 N3q
  obtain ⟨cq5, kq5, q5a, q5b, q5c⟩ := isOf hZ hq4 H0_E
  obtain ⟨_, T5, Lc5, X5, hQ5, st5⟩ := own_rt X3 (X3.virtualBack hx (y := yn_10) (z := yn_10) hown (mvT hZ (ow 165 rfl)) (mvT hZ (ow 166 rfl)) (notFace_of_selects (args := #[]) (mvT hZ (ow 168 rfl))) (mvT hZ (ow 168 rfl)) (mvT hZ (ow 167 rfl)) (by decide) (backOf (W := 0) (rm_stA l Z a0 hw [] ch ar ka gg mm ln vs (((kk.toUInt32 >>> ((0 : Int32) &&& 31).toUInt32).toInt32) &&& (31 : Int32)) vv h0 n0 Z0 H0_E H1_F H2_F H3_F H4_A H5_I H6_L hg_ch hn_ch_ar hab hps hln hl3) hZ (ow 169 rfl) (ow 154 rfl) (by decide) (by decide)) q5a q5c (g := (mkF m 84 #[.val (.ref ch), .val (.int 0), .val (.int kk), .val (.ref vv), .val (.ref gg), .val (.int (((kk.toUInt32 >>> ((0 : Int32) &&& 31).toUInt32).toInt32) &&& (31 : Int32))), .val .null, .val (.ref vv)] [(.ref vv), (.int (((kk.toUInt32 >>> ((0 : Int32) &&& 31).toUInt32).toInt32) &&& (31 : Int32))), (.ref ch)])) rfl (by rw [hml]; rfl) (Steps.refl _) (argsL := [(.int (((kk.toUInt32 >>> ((0 : Int32) &&& 31).toUInt32).toInt32) &&& (31 : Int32))), (.ref vv)]) (rest := []) (lenOf pd_5 rfl) rfl (Nat.le_of_eq rfl) (dx 23 rfl) (fun _ _ => ⟨rfl, hq4, (by decide : 0 + 1 ≤ _), (by decide : 0 + 3 ≤ _)⟩))
  obtain ⟨x6, x7, rfl, N5q, hq8, hpq9, hpq10, F11, F12, F13, A14⟩ := hQ5
  have N5 := Fr.app N3 N5q
  have K5 : Keep h0 T5.heap [ch] := K0.trans hq8 (allS (Or.inl (own_mem (i := 0) rfl)) all0)
  have sz15 : h0.size ≤ x6 := Nat.le_trans K0.1 hpq10
  have pre16 := fun (t : State) (k : Steps p.tables e below (T5.setTop (mkF m 87 #[.val (.ref ch), .val (.int 0), .val (.int kk), .val (.ref vv), .val (.ref gg), .val (.int (((kk.toUInt32 >>> ((0 : Int32) &&& 31).toUInt32).toInt32) &&& (31 : Int32))), .val .null, .val (.ref vv)] [(.ref ch)])) t) => pre0 t (by
    refine XS.iloadN X0.here hx rfl (dx 0 rfl) rfl ?_
    refine XS.iloadN X0.here hx rfl (dx 1 rfl) rfl ?_
    refine XS.iushr X0.here hx rfl (dx 2 rfl) rfl ?_
    refine XS.bipush X0.here hx rfl (dx 3 rfl) ?_
    refine XS.iand X0.here hx rfl (dx 4 rfl) rfl ?_
    refine XS.istore X0.here hx rfl (dx 5 rfl) rfl (l' := #[.val (.ref ch), .val (.int 0), .val (.int kk), .val (.ref vv), .val (.ref gg), .val (.int (((kk.toUInt32 >>> ((0 : Int32) &&& 31).toUInt32).toInt32) &&& (31 : Int32))), .unset, .unset]) rfl ?_
    refine XS.aloadN X0.here hx rfl (dx 6 rfl) rfl rfl ?_
    refine XS.iload X0.here hx rfl (dx 7 rfl) rfl ?_
    refine st1.trans ?_
    refine XS.astore X1.here hx rfl (dx 9 rfl) rfl rfl (l' := #[.val (.ref ch), .val (.int 0), .val (.int kk), .val (.ref vv), .val (.ref gg), .val (.int (((kk.toUInt32 >>> ((0 : Int32) &&& 31).toUInt32).toInt32) &&& (31 : Int32))), .val .null, .unset]) rfl ?_
    refine XS.iloadN X1.here hx rfl (dx 10 rfl) rfl ?_
    refine XS.ifNo X1.here hx rfl (dx 11 rfl) rfl ((if0 _ _).trans (teq (by decide : (0 : Int32) = (0 : Int32))).2) ?_
    refine XS.aloadN X1.here hx rfl (dx 12 rfl) rfl rfl ?_
    refine XS.astore X1.here hx rfl (dx 13 rfl) rfl rfl (l' := #[.val (.ref ch), .val (.int 0), .val (.int kk), .val (.ref vv), .val (.ref gg), .val (.int (((kk.toUInt32 >>> ((0 : Int32) &&& 31).toUInt32).toInt32) &&& (31 : Int32))), .val .null, .val (.ref vv)]) rfl ?_
    refine XS.goto X1.here hx rfl (pc0 := 23) (pc' := 63) rfl (dx 14 rfl) (by decide) (by decide) ?_
    refine XS.aload X1.here hx rfl (dx 15 rfl) rfl rfl ?_
    refine XS.aload X1.here hx rfl (dx 16 rfl) rfl rfl ?_
    refine Jvm.RoadKit.acmp (g := (mkF m 67 #[.val (.ref ch), .val (.int 0), .val (.int kk), .val (.ref vv), .val (.ref gg), .val (.int (((kk.toUInt32 >>> ((0 : Int32) &&& 31).toUInt32).toInt32) &&& (31 : Int32))), .val .null, .val (.ref vv)] [.null, (.ref vv)])) X1 hx rfl rfl rfl (pc0 := 67) (pc' := 74) (same := false) rfl (dx 17 rfl) rfl (decide_eq_false nofun) (by decide) (by decide) ?_
    refine XS.aloadN X1.here hx rfl (dx 18 rfl) rfl rfl ?_
    refine XS.aload X1.here hx rfl (dx 19 rfl) rfl rfl ?_
    refine st3.trans ?_
    refine XS.iload X3.here hx rfl (dx 21 rfl) rfl ?_
    refine XS.aload X3.here hx rfl (dx 22 rfl) rfl rfl ?_
    refine st5.trans ?_
    exact k)
  obtain ⟨fs, hr, hrun, hended, hW, hsame⟩ := X5.leave (v := some (.ref ch)) (hlocks := BodyLoose.notSynchronized Bd) (fun h => by rw [Bd.returns] at h; cases h)
  refine ⟨_, _, pre16 _ ?_, hrun, hended, _, _, rfl, ?_, ⟨_, rfl⟩, hW, hsame.mono (by decide) (by decide)⟩
  · jvm_step X5.here [X5.here.top, hx, (dx 24 rfl), X5.method', Bd.returns, Value.isRef, FieldType.isReference]
    first | (intro acts; rw [hr _ acts rfl rfl rfl]) | rw [hr _ _ rfl rfl rfl]
    exact Steps.refl _
  · show Q_put Z ch ar ka gg mm ln vs kk vv h0 n0 _ T5.heap _
    exact ⟨x6, x7, rfl, N5, K5, hpq9, sz15, F11, F12, F13, A14⟩

def Q_wP (Z : State) (tt : Addr) (ch : Addr) (ar : Addr) (ka : ClassId) (gg : Addr) (mm : Int32) (ln : Int32) (vs : List Value) (kk : Int32) (vv : Addr) (h0 : Heap) (n0 : Nat) (v : Option Value) (h : Heap) (L : List Loc) : Prop := ∃ xx : Addr, ∃ kx : ClassId, v = some (.ref tt) ∧ Fr n0 L ∧ Keep h0 h [ch] ∧ n0 ≤ xx ∧ h0.size ≤ xx ∧ f_25 Z h ch (.int (mm ||| ((1 : Int32) <<< ((((kk.toUInt32 >>> ((0 : Int32) &&& 31).toUInt32).toInt32) &&& (31 : Int32)) &&& 31)))) ∧ f_23 Z h ch (.ref xx) ∧ f_24 Z h ch (.ref gg) ∧ Arv Z h xx kx (.object "java/lang/Object") (ln + (1 : Int32)) (vs ++ [(.ref vv)]) .null
set_option maxRecDepth 65536 in
set_option maxHeartbeats 40000000 in
theorem rm_wP (l : Launch) (Z : State) (a0 : Array Value) (hw : own_HW a0 Z) (ws : List Jvm.Cond) (tt : Addr) (ch : Addr) (ar : Addr) (ka : ClassId) (gg : Addr) (mm : Int32) (ln : Int32) (vs : List Value) (kk : Int32) (vv : Addr) (h0 : Heap) (n0 : Nat) (Z0 : n0 ≤ h0.size) (H0_E : e_29 Z h0 tt) (H1_F : f_27 Z h0 tt (.ref ch)) (H2_F : f_28 Z h0 tt (.int 0)) (H3_E : e_26 Z h0 ch) (H4_F : f_25 Z h0 ch (.int mm)) (H5_F : f_23 Z h0 ch (.ref ar)) (H6_F : f_24 Z h0 ch (.ref gg)) (H7_A : Arv Z h0 ar ka (.object "java/lang/Object") ln vs .null) (H8_I : own_In Z h0 vv) (H9_L : own_Ins Z h0 vs) (hg_ch : n0 ≤ ch) (hn_ch_ar : ch ≠ ar) (hab : (mm &&& ((1 : Int32) <<< ((((kk.toUInt32 >>> ((0 : Int32) &&& 31).toUInt32).toInt32) &&& (31 : Int32)) &&& 31))) = (0 : Int32)) (hps : own_bc (mm &&& (((1 : Int32) <<< ((((kk.toUInt32 >>> ((0 : Int32) &&& 31).toUInt32).toInt32) &&& (31 : Int32)) &&& 31)) - (1 : Int32))) = ln) (hln : own_ln ln vs) (hl3 : vs.length < 3) (hn_tt_ch : tt ≠ ch) (hk0 : ¬ (kk < (0 : Int32))) (hk31 : ¬ ((31 : Int32) < ((kk.toUInt32 >>> ((0 : Int32) &&& 31).toUInt32).toInt32))) :
    own_M l yn_17 (Jvm.Cond.code yn_17 prog_45_method_6_code 7 (some (.object "org/tallyrole/core/IntTrie")) :: ws) ({ frames := 3, cells := 1, slots := 3, locals := 55 } : Room) Z #[(.ref tt), (.int kk), (.ref vv), (.ref gg)] h0 (Q_wP Z tt ch ar ka gg mm ln vs kk vv h0 n0) := by
  refine MetFree.of_bodySF (plainFor_of_name pn_6) hisR ?_
  intro p e s m args below meth c s₁ Bd hml0 hP hK
  have ow := @own_w a0 Z hw
  obtain ⟨rfl, hZ, hhp_⟩ := hP
  have hx := Bd.exec
  have hby := Bd.bytes
  have dx := @own_hd _ _ _ hby Dc15
  have hml : c.maxLocals = 7 := hml0
  have hown : s.vm.findClass "org/tallyrole/core/IntTrie" = some m.cls := findClass_of_methodNamed Bd.named
  have hnm := (name_of_methodNamed Bd.named Bd.method).1
  have X0 : Stand p l e ({ frames := 3, cells := 1, slots := 3, locals := 55 } : Room) s m _ below meth c s₁ [] 0 0 := Stand.of_body Bd
  have e0 : s₁.heap = h0 := by rw [← hhp_, Bd.state]; rfl
  have N0 := Fr.nil n0
  have pre0 : ∀ t, Steps p.tables e below (s₁.setTop (mkF m 0 #[.val (.ref tt), .val (.int kk), .val (.ref vv), .val (.ref gg), .unset, .unset, .unset] [])) t → Steps p.tables e below (s₁.setTop (entryFrame m #[(.ref tt), (.int kk), (.ref vv), (.ref gg)] 7)) t := fun t k => castTop rfl k
  have K0 : Keep h0 h0 [ch] := Keep.refl h0 [ch]
  obtain ⟨_, T1, Lc1, X1, hQ1, st1⟩ := own_rtC X0 (Jvm.LawKit.callS X0 hx (y := yn_14) hown (mvT hZ (ow 143 rfl)) (mvT hZ (ow 144 rfl)) (mvT hZ (ow 145 rfl)) (mvT hZ (ow 146 rfl)) (by decide) (backOf (W := 0) (rm_rn l Z a0 hw [] vv h0 n0 Z0 ) hZ (ow 146 rfl) (ow 145 rfl) (by decide) (by decide)) (g := (mkF m 1 #[.val (.ref tt), .val (.int kk), .val (.ref vv), .val (.ref gg), .unset, .unset, .unset] [(.ref vv)])) rfl (by rw [hml]; rfl) (argsL := [(.ref vv)]) (rest := []) (lenOf pd_6 rfl) rfl (Nat.le_of_eq rfl) (dx 1 rfl) (fun _ _ => ⟨rfl, e0, (by decide : 0 + 0 ≤ _), (by decide : 0 + 0 ≤ _)⟩))
  obtain ⟨rfl, N1q, hq2⟩ := hQ1
  have N1 := Fr.app N0 N1q
  obtain ⟨T3, X3, e3, st3⟩ := getF X1 hx hZ hown (host := "") (Or.inl (ow 84 rfl)) Via.refl hq2 H1_F (g := (mkF m 24 #[.val (.ref tt), .val (.int kk), .val (.ref vv), .val (.ref gg), .unset, .unset, .unset] [(.ref tt)])) rfl rfl (dx 6 rfl)
  obtain ⟨T4, X4, e4, st4⟩ := getF X3 hx hZ hown (host := "") (Or.inl (ow 147 rfl)) Via.refl e3 H2_F (g := (mkF m 30 #[.val (.ref tt), .val (.int kk), .val (.ref vv), .val (.ref gg), .val (.ref ch), .unset, .unset] [(.ref tt)])) rfl rfl (dx 9 rfl)
  obtain ⟨_, T5, Lc5, X5, hQ5, st5⟩ := own_rtC X4 (Jvm.LawKit.callS X4 hx (y := yn_19) hown (mvT hZ (ow 207 rfl)) (mvT hZ (ow 208 rfl)) (mvT hZ (ow 11 rfl)) (mvT hZ (ow 209 rfl)) (by decide) (backOf (W := 0) (rm_put l Z a0 hw [] ch ar ka gg mm ln vs kk vv h0 n0 Z0 H3_E H4_F H5_F H6_F H7_A H8_I H9_L hg_ch hn_ch_ar hab hps hln hl3) hZ (ow 209 rfl) (ow 11 rfl) (by decide) (by decide)) (g := (mkF m 116 #[.val (.ref tt), .val (.int kk), .val (.ref vv), .val (.ref gg), .val (.ref ch), .val (.int 0), .unset] [(.ref gg), (.ref vv), (.int kk), (.int 0), (.ref ch)])) rfl (by rw [hml]; rfl) (argsL := [(.ref ch), (.int 0), (.int kk), (.ref vv), (.ref gg)]) (rest := []) (lenOf pd_10 rfl) rfl (Nat.le_of_eq rfl) (dx 47 rfl) (fun _ _ => ⟨rfl, e4, (by decide : 0 + 1 ≤ _), (by decide : 0 + 3 ≤ _)⟩))
  obtain ⟨x6, x7, rfl, N5q, hq8, hpq9, hpq10, F11, F12, F13, A14⟩ := hQ5
  have N5 := Fr.app N1 N5q
  have K5 : Keep h0 T5.heap [ch] := K0.trans hq8 (allS (Or.inl (own_mem (i := 0) rfl)) all0)
  have sz15 : h0.size ≤ x6 := Nat.le_trans K0.1 hpq10
  have F16 := H1_F.keep hq8 (ninS hn_tt_ch nin0)
  obtain ⟨T17, X17, e17, st17⟩ := getF X5 hx hZ hown (host := "") (Or.inl (ow 84 rfl)) Via.refl rfl F16 (g := (mkF m 124 #[.val (.ref tt), .val (.int kk), .val (.ref vv), .val (.ref gg), .val (.ref ch), .val (.int 0), .unset] [(.ref tt), (.ref ch)])) rfl rfl (dx 29 rfl)
  have pre18 := fun (t : State) (k : Steps p.tables e below (T17.setTop (mkF m 145 #[.val (.ref tt), .val (.int kk), .val (.ref vv), .val (.ref gg), .val (.ref ch), .val (.int 0), .unset] [(.ref tt)])) t) => pre0 t (by
    refine XS.aloadN X0.here hx rfl (dx 0 rfl) rfl rfl ?_
    refine st1 _ ?_
    refine XS.pop X1.here hx rfl (dx 2 rfl) rfl rfl ?_
    refine XS.iloadN X1.here hx rfl (dx 3 rfl) rfl ?_
    refine XS.ifYes X1.here hx rfl (pc0 := 6) (pc' := 23) rfl (dx 4 rfl) rfl ((if0 _ _).trans (flt hk0).2.1) (by decide) (by decide) ?_
    refine XS.aloadN X1.here hx rfl (dx 5 rfl) rfl rfl ?_
    refine st3 _ ?_
    refine XS.astore X3.here hx rfl (dx 7 rfl) rfl rfl (l' := #[.val (.ref tt), .val (.int kk), .val (.ref vv), .val (.ref gg), .val (.ref ch), .unset, .unset]) rfl ?_
    refine XS.aloadN X3.here hx rfl (dx 8 rfl) rfl rfl ?_
    refine st4 _ ?_
    refine XS.istore X4.here hx rfl (dx 10 rfl) rfl (l' := #[.val (.ref tt), .val (.int kk), .val (.ref vv), .val (.ref gg), .val (.ref ch), .val (.int 0), .unset]) rfl ?_
    refine XS.aload X4.here hx rfl (dx 11 rfl) rfl rfl ?_
    refine XS.ifnonnullYes X4.here hx rfl (pc0 := 37) (pc' := 71) rfl (dx 12 rfl) rfl (by decide) (by decide) ?_
    refine XS.iloadN X4.here hx rfl (dx 37 rfl) rfl ?_
    refine XS.iload X4.here hx rfl (dx 38 rfl) rfl ?_
    refine XS.iushr X4.here hx rfl (dx 39 rfl) rfl ?_
    refine XS.bipush X4.here hx rfl (dx 40 rfl) ?_
    refine XS.icmpYes X4.here hx rfl (pc0 := 77) (pc' := 109) rfl (dx 41 rfl) rfl (flt hk31).2.2.2 (by decide) (by decide) ?_
    refine XS.aload X4.here hx rfl (dx 42 rfl) rfl rfl ?_
    refine XS.iload X4.here hx rfl (dx 43 rfl) rfl ?_
    refine XS.iloadN X4.here hx rfl (dx 44 rfl) rfl ?_
    refine XS.aloadN X4.here hx rfl (dx 45 rfl) rfl rfl ?_
    refine XS.aloadN X4.here hx rfl (dx 46 rfl) rfl rfl ?_
    refine st5 _ ?_
    refine XS.astore X5.here hx rfl (dx 48 rfl) rfl rfl (l' := #[.val (.ref tt), .val (.int kk), .val (.ref vv), .val (.ref gg), .val (.ref ch), .val (.int 0), .unset]) rfl ?_
    refine XS.aload X5.here hx rfl (dx 27 rfl) rfl rfl ?_
    refine XS.aloadN X5.here hx rfl (dx 28 rfl) rfl rfl ?_
    refine st17 _ ?_
    refine Jvm.RoadKit.acmp (g := (mkF m 127 #[.val (.ref tt), .val (.int kk), .val (.ref vv), .val (.ref gg), .val (.ref ch), .val (.int 0), .unset] [(.ref ch), (.ref ch)])) X17 hx rfl rfl rfl (pc0 := 127) (pc' := 130) (same := true) rfl (dx 30 rfl) rfl (decide_eq_true rfl) (by decide) (by decide) ?_
    refine XS.aloadN X17.here hx rfl (dx 49 rfl) rfl rfl ?_
    refine XS.goto X17.here hx rfl (pc0 := 131) (pc' := 145) rfl (dx 50 rfl) (by decide) (by decide) ?_
    exact k)
  obtain ⟨fs, hr, hrun, hended, hW, hsame⟩ := X17.leave (v := some (.ref tt)) (hlocks := BodyLoose.notSynchronized Bd) (fun h => by rw [Bd.returns] at h; cases h)
  refine ⟨_, _, pre18 _ ?_, hrun, hended, _, _, rfl, ?_, ⟨_, rfl⟩, hW, hsame.mono (by decide) (by decide)⟩
  · jvm_step X17.here [X17.here.top, hx, (dx 36 rfl), X17.method', Bd.returns, Value.isRef, FieldType.isReference]
    first | (intro acts; rw [hr _ acts rfl rfl rfl]) | rw [hr _ _ rfl rfl rfl]
    exact Steps.refl _
  · show Q_wP Z tt ch ar ka gg mm ln vs kk vv h0 n0 _ T17.heap _
    rw [e17]
    exact ⟨x6, x7, rfl, N5, K5, hpq9, sz15, F11, F12, F13, A14⟩

def Q_grI (Z : State) (dd : Addr) (em : Addr) (h0 : Heap) (n0 : Nat) (v : Option Value) (h : Heap) (L : List Loc) : Prop := ∃ gg : Addr, v = none ∧ Fr n0 L ∧ Keep h0 h [dd] ∧ n0 ≤ gg ∧ h0.size ≤ gg ∧ f_30 Z h dd (.ref em) ∧ f_31 Z h dd (.ref em) ∧ f_32 Z h dd (.ref em) ∧ f_33 Z h dd (.ref em) ∧ f_35 Z h dd (.ref gg) ∧ f_38 Z h dd (.int 0)
set_option maxRecDepth 65536 in
set_option maxHeartbeats 40000000 in
theorem rm_grI (l : Launch) (Z : State) (a0 : Array Value) (hw : own_HW a0 Z) (ws : List Jvm.Cond) (dd : Addr) (em : Addr) (h0 : Heap) (n0 : Nat) (Z0 : n0 ≤ h0.size) (H0_E : e_39 Z h0 dd) (H1_S : Sta Z h0 "org/tallyrole/core/IntTrie" "EMPTY" "Lorg/tallyrole/core/IntTrie;" (.ref em)) (H2_F : f_30 Z h0 dd .null) (H3_F : f_31 Z h0 dd .null) (H4_F : f_32 Z h0 dd .null) (H5_F : f_33 Z h0 dd .null) (H6_F : f_35 Z h0 dd .null) (H7_F : f_38 Z h0 dd (.int 0)) (H8_F : f_34 Z h0 dd .null) (H9_F : f_36 Z h0 dd .null) (H10_F : f_37 Z h0 dd .null) (hg_dd : n0 ≤ dd) :
    own_M l yn_20 (Jvm.Cond.code yn_20 prog_39_method_1_code 1 none :: ws) ({ frames := 3, cells := 4, slots := 28, locals := 38 } : Room) Z #[(.ref dd)] h0 (Q_grI Z dd em h0 n0) := by
  refine MetFree.of_bodySF (plainFor_of_name pn_11) hisR ?_
  intro p e s m args below meth c s₁ Bd hml0 hP hK
  have ow := @own_w a0 Z hw
  obtain ⟨rfl, hZ, hhp_⟩ := hP
  have hx := Bd.exec
  have hby := Bd.bytes
  have dx := @own_hd _ _ _ hby Dc1
  have hml : c.maxLocals = 1 := hml0
  have hown : s.vm.findClass "org/tallyrole/core/Graph" = some m.cls := findClass_of_methodNamed Bd.named
  have hnm := (name_of_methodNamed Bd.named Bd.method).1
  have X0 : Stand p l e ({ frames := 3, cells := 4, slots := 28, locals := 38 } : Room) s m _ below meth c s₁ [] 0 0 := Stand.of_body Bd
  have e0 : s₁.heap = h0 := by rw [← hhp_, Bd.state]; rfl
  have N0 := Fr.nil n0
  have pre0 : ∀ t, Steps p.tables e below (s₁.setTop (mkF m 0 #[.val (.ref dd)] [])) t → Steps p.tables e below (s₁.setTop (entryFrame m #[(.ref dd)] 1)) t := fun t k => castTop rfl k
  have K0 : Keep h0 h0 [dd] := Keep.refl h0 [dd]
  obtain ⟨T1, X1, e1, st1⟩ := initO X0 hx hZ hown (ow 6 rfl) (ow 7 rfl) (ow 8 rfl) e0 (g := (mkF m 1 #[.val (.ref dd)] [(.ref dd)])) rfl (by rw [hml]; rfl) rfl (dx 1 rfl) (by decide) (W := 0) (Nat.le_of_eq rfl) (by decide)
  obtain ⟨_, T2, Lc2, X2, hQ2, st2⟩ := own_rtC X1 (Jvm.LawKit.callS X1 hx (y := yn_6) hown (mvT hZ (ow 9 rfl)) (mvT hZ (ow 10 rfl)) (mvT hZ (ow 11 rfl)) (mvT hZ (ow 12 rfl)) (by decide) (backOf (W := 1) (rm_emp l Z a0 hw [] em h0 n0 Z0 H1_S) hZ (ow 12 rfl) (ow 11 rfl) (by decide) (by decide)) (g := (mkF m 5 #[.val (.ref dd)] [(.ref dd)])) rfl (by rw [hml]; rfl) (argsL := []) (rest := [(.ref dd)]) (lenOf pd_1 rfl) rfl (Nat.le_of_eq rfl) (dx 3 rfl) (fun _ _ => ⟨rfl, e1, (by decide : 0 + 0 ≤ _), (by decide : 0 + 0 ≤ _)⟩))
  obtain ⟨rfl, N2q, hq3⟩ := hQ2
  have N2 := Fr.app N0 N2q
  obtain ⟨T4, h4, X4, e4, W4, st4⟩ := putF X2 hx hZ hown (host := "") (Or.inl (ow 15 rfl)) Via.refl hq3 H2_F H0_E (Or.inl (ow 16 rfl)) (ow 1 rfl) (ty := (.object "org/tallyrole/core/IntTrie")) (by decide) rfl rfl (g := (mkF m 8 #[.val (.ref dd)] [(.ref em), (.ref dd)])) rfl rfl (dx 4 rfl)
  have Fw4 : f_30 Z h4 dd (.ref em) := H2_F.same W4
  have N4 := Fr.snoc X4 N2 hg_dd
  have K4 : Keep h0 h4 [dd] := K0.wr W4 (Or.inl (own_mem (i := 0) rfl))
  have S6 := H1_S.wr W4
  have Zs7 : n0 ≤ h4.size := (Nat.le_trans Z0 (Keep.of_wr W4).1)
  obtain ⟨_, T5, Lc5, X5, hQ5, st5⟩ := own_rtC X4 (Jvm.LawKit.callS X4 hx (y := yn_6) hown (mvT hZ (ow 9 rfl)) (mvT hZ (ow 10 rfl)) (mvT hZ (ow 11 rfl)) (mvT hZ (ow 12 rfl)) (by decide) (backOf (W := 1) (rm_emp l Z a0 hw [] em h4 n0 Zs7 S6) hZ (ow 12 rfl) (ow 11 rfl) (by decide) (by decide)) (g := (mkF m 12 #[.val (.ref dd)] [(.ref dd)])) rfl (by rw [hml]; rfl) (argsL := []) (rest := [(.ref dd)]) (lenOf pd_1 rfl) rfl (Nat.le_of_eq rfl) (dx 6 rfl) (fun _ _ => ⟨rfl, e4, (by decide : 0 + 0 ≤ _), (by decide : 0 + 0 ≤ _)⟩))
  obtain ⟨rfl, N5q, hq8⟩ := hQ5
  have N5 := Fr.app N4 N5q
  have F10 := H3_F.other W4 (Or.inr (sn_41 hw))
  have E11 := H0_E.wr W4
  obtain ⟨T9, h9, X9, e9, W9, st9⟩ := putF X5 hx hZ hown (host := "") (Or.inl (ow 17 rfl)) Via.refl hq8 F10 E11 (Or.inl (ow 18 rfl)) (ow 1 rfl) (ty := (.object "org/tallyrole/core/IntTrie")) (by decide) rfl rfl (g := (mkF m 15 #[.val (.ref dd)] [(.ref em), (.ref dd)])) rfl rfl (dx 7 rfl)
  have Fw9 : f_31 Z h9 dd (.ref em) := F10.same W9
  have N9 := Fr.snoc X9 N5 hg_dd
  have K9 : Keep h0 h9 [dd] := K4.wr W9 (Or.inl (own_mem (i := 0) rfl))
  have S13 := S6.wr W9
  have Zs14 : n0 ≤ h9.size := (Nat.le_trans Zs7 (Keep.of_wr W9).1)
  obtain ⟨_, T12, Lc12, X12, hQ12, st12⟩ := own_rtC X9 (Jvm.LawKit.callS X9 hx (y := yn_6) hown (mvT hZ (ow 9 rfl)) (mvT hZ (ow 10 rfl)) (mvT hZ (ow 11 rfl)) (mvT hZ (ow 12 rfl)) (by decide) (backOf (W := 1) (rm_emp l Z a0 hw [] em h9 n0 Zs14 S13) hZ (ow 12 rfl) (ow 11 rfl) (by decide) (by decide)) (g := (mkF m 19 #[.val (.ref dd)] [(.ref dd)])) rfl (by rw [hml]; rfl) (argsL := []) (rest := [(.ref dd)]) (lenOf pd_1 rfl) rfl (Nat.le_of_eq rfl) (dx 9 rfl) (fun _ _ => ⟨rfl, e9, (by decide : 0 + 0 ≤ _), (by decide : 0 + 0 ≤ _)⟩))
  obtain ⟨rfl, N12q, hq15⟩ := hQ12
  have N12 := Fr.app N9 N12q
  have F17 := (H4_F.other W4 (Or.inr (sn_42 hw))).other W9 (Or.inr (sn_49 hw))
  have E18 := E11.wr W9
  obtain ⟨T16, h16, X16, e16, W16, st16⟩ := putF X12 hx hZ hown (host := "") (Or.inl (ow 19 rfl)) Via.refl hq15 F17 E18 (Or.inl (ow 20 rfl)) (ow 1 rfl) (ty := (.object "org/tallyrole/core/IntTrie")) (by decide) rfl rfl (g := (mkF m 22 #[.val (.ref dd)] [(.ref em), (.ref dd)])) rfl rfl (dx 10 rfl)
  have Fw16 : f_32 Z h16 dd (.ref em) := F17.same W16
  have N16 := Fr.snoc X16 N12 hg_dd
  have K16 : Keep h0 h16 [dd] := K9.wr W16 (Or.inl (own_mem (i := 0) rfl))
  have S20 := S13.wr W16
  have Zs21 : n0 ≤ h16.size := (Nat.le_trans Zs14 (Keep.of_wr W16).1)
  obtain ⟨_, T19, Lc19, X19, hQ19, st19⟩ := own_rtC X16 (Jvm.LawKit.callS X16 hx (y := yn_6) hown (mvT hZ (ow 9 rfl)) (mvT hZ (ow 10 rfl)) (mvT hZ (ow 11 rfl)) (mvT hZ (ow 12 rfl)) (by decide) (backOf (W := 1) (rm_emp l Z a0 hw [] em h16 n0 Zs21 S20) hZ (ow 12 rfl) (ow 11 rfl) (by decide) (by decide)) (g := (mkF m 26 #[.val (.ref dd)] [(.ref dd)])) rfl (by rw [hml]; rfl) (argsL := []) (rest := [(.ref dd)]) (lenOf pd_1 rfl) rfl (Nat.le_of_eq rfl) (dx 12 rfl) (fun _ _ => ⟨rfl, e16, (by decide : 0 + 0 ≤ _), (by decide : 0 + 0 ≤ _)⟩))
  obtain ⟨rfl, N19q, hq22⟩ := hQ19
  have N19 := Fr.app N16 N19q
  have F24 := ((H5_F.other W4 (Or.inr (sn_43 hw))).other W9 (Or.inr (sn_50 hw))).other W16 (Or.inr (sn_56 hw))
  have E25 := E18.wr W16
  obtain ⟨T23, h23, X23, e23, W23, st23⟩ := putF X19 hx hZ hown (host := "") (Or.inl (ow 21 rfl)) Via.refl hq22 F24 E25 (Or.inl (ow 22 rfl)) (ow 1 rfl) (ty := (.object "org/tallyrole/core/IntTrie")) (by decide) rfl rfl (g := (mkF m 29 #[.val (.ref dd)] [(.ref em), (.ref dd)])) rfl rfl (dx 13 rfl)
  have Fw23 : f_33 Z h23 dd (.ref em) := F24.same W23
  have N23 := Fr.snoc X23 N19 hg_dd
  have K23 : Keep h0 h23 [dd] := K16.wr W23 (Or.inl (own_mem (i := 0) rfl))
  have S27 := S20.wr W23
  have Zs28 : n0 ≤ h23.size := (Nat.le_trans Zs21 (Keep.of_wr W23).1)
  obtain ⟨_, T26, Lc26, X26, hQ26, st26⟩ := own_rtC X23 (Jvm.LawKit.callS X23 hx (y := yn_6) hown (mvT hZ (ow 9 rfl)) (mvT hZ (ow 10 rfl)) (mvT hZ (ow 11 rfl)) (mvT hZ (ow 12 rfl)) (by decide) (backOf (W := 1) (rm_emp l Z a0 hw [] em h23 n0 Zs28 S27) hZ (ow 12 rfl) (ow 11 rfl) (by decide) (by decide)) (g := (mkF m 33 #[.val (.ref dd)] [(.ref dd)])) rfl (by rw [hml]; rfl) (argsL := []) (rest := [(.ref dd)]) (lenOf pd_1 rfl) rfl (Nat.le_of_eq rfl) (dx 15 rfl) (fun _ _ => ⟨rfl, e23, (by decide : 0 + 0 ≤ _), (by decide : 0 + 0 ≤ _)⟩))
  obtain ⟨rfl, N26q, hq29⟩ := hQ26
  have N26 := Fr.app N23 N26q
  have F31 := (((H8_F.other W4 (Or.inr (sn_46 hw))).other W9 (Or.inr (sn_53 hw))).other W16 (Or.inr (sn_59 hw))).other W23 (Or.inr (sn_64 hw))
  have E32 := E25.wr W23
  obtain ⟨T30, h30, X30, e30, W30, st30⟩ := putF X26 hx hZ hown (host := "") (Or.inl (ow 23 rfl)) Via.refl hq29 F31 E32 (Or.inl (ow 24 rfl)) (ow 1 rfl) (ty := (.object "org/tallyrole/core/IntTrie")) (by decide) rfl rfl (g := (mkF m 36 #[.val (.ref dd)] [(.ref em), (.ref dd)])) rfl rfl (dx 16 rfl)
  have Fw30 : f_34 Z h30 dd (.ref em) := F31.same W30
  have N30 := Fr.snoc X30 N26 hg_dd
  have K30 : Keep h0 h30 [dd] := K23.wr W30 (Or.inl (own_mem (i := 0) rfl))
  obtain ⟨T33, h33, X33, e33, E33, A33, D33, -, st33⟩ := newO X30 hx hZ hown (ow 25 rfl) (ow 26 rfl) (ow 27 rfl) e30 (g := (mkF m 40 #[.val (.ref dd)] [(.ref dd)])) rfl (dx 18 rfl) (by decide) (by decide)
  obtain ⟨b33, g33⟩ : ∃ z, z = h30.size := ⟨_, rfl⟩
  have ge_b33 : n0 ≤ b33 := Nat.le_trans (Nat.le_trans Zs28 (Keep.of_wr W30).1) (Nat.le_of_eq g33.symm)
  have sz_b33 : h0.size ≤ b33 := Nat.le_trans K30.1 (Nat.le_of_eq g33.symm)
  rw [← g33] at A33 D33 st33
  have K33 : Keep h0 h33 [dd] := K30.ext E33
  obtain ⟨T34, X34, e34, st34⟩ := initO X33 hx hZ hown (ow 6 rfl) (ow 7 rfl) (ow 8 rfl) e33 (g := (mkF m 44 #[.val (.ref dd)] [(.ref b33), (.ref b33), (.ref dd)])) rfl (by rw [hml]; rfl) rfl (dx 20 rfl) (by decide) (W := 2) (Nat.le_of_eq rfl) (by decide)
  have F36 := (((((H6_F.other W4 (Or.inr (sn_44 hw))).other W9 (Or.inr (sn_51 hw))).other W16 (Or.inr (sn_57 hw))).other W23 (Or.inr (sn_62 hw))).other W30 (Or.inr (sn_67 hw))).ext E33
  have E37 := (E32.wr W30).ext E33
  obtain ⟨T35, h35, X35, e35, W35, st35⟩ := putF X34 hx hZ hown (host := "") (Or.inl (ow 28 rfl)) Via.refl e34 F36 E37 (Or.inl (ow 29 rfl)) (ow 1 rfl) (ty := (.object "java/lang/Object")) (by decide) rfl rfl (g := (mkF m 47 #[.val (.ref dd)] [(.ref b33), (.ref dd)])) rfl rfl (dx 21 rfl)
  have Fw35 : f_35 Z h35 dd (.ref b33) := F36.same W35
  have N35 := Fr.snoc X35 N30 hg_dd
  have K35 : Keep h0 h35 [dd] := K33.wr W35 (Or.inl (own_mem (i := 0) rfl))
  obtain ⟨T38, h38, X38, e38, E38, A38, D38, -, st38⟩ := newO X35 hx hZ hown (ow 30 rfl) (ow 31 rfl) (ow 32 rfl) e35 (g := (mkF m 51 #[.val (.ref dd)] [(.ref dd)])) rfl (dx 23 rfl) (by decide) (by decide)
  obtain ⟨b38, g38⟩ : ∃ z, z = h35.size := ⟨_, rfl⟩
  have ge_b38 : n0 ≤ b38 := Nat.le_trans (Nat.le_trans (Nat.le_trans (Nat.le_trans Zs28 (Keep.of_wr W30).1) E33.1) (Keep.of_wr W35).1) (Nat.le_of_eq g38.symm)
  have sz_b38 : h0.size ≤ b38 := Nat.le_trans K35.1 (Nat.le_of_eq g38.symm)
  rw [← g38] at A38 D38 st38
  have K38 : Keep h0 h38 [dd] := K35.ext E38
  have F39 : f_0 Z h38 b38 .null := D38 (Or.inl (ow 46 rfl)) (ty := (.array (.object "java/lang/Object"))) (by decide)
  have F40 : f_1 Z h38 b38 (.int 0) := D38 (Or.inl (ow 254 rfl)) (ty := .int) (by decide)
  have F41 : f_2 Z h38 b38 (.int 0) := D38 (Or.inl (ow 256 rfl)) (ty := .int) (by decide)
  have Zs43 : n0 ≤ h38.size := (Nat.le_trans (Nat.le_trans (Nat.le_trans (Nat.le_trans Zs28 (Keep.of_wr W30).1) E33.1) (Keep.of_wr W35).1) E38.1)
  obtain ⟨_, T42, Lc42, X42, hQ42, st42⟩ := own_rt X38 (X38.specialBack hx (y := yn_2) rfl hown (mvT hZ (ow 33 rfl)) (mvT hZ (ow 34 rfl)) (mvT hZ (ow 35 rfl)) (by decide) (backOf (W := 2) (rm_adI l Z a0 hw [] b38 h38 n0 Zs43 A38 F39 F40 F41 ge_b38) hZ (ow 35 rfl) (ow 32 rfl) (by decide) (by decide)) (g := (mkF m 55 #[.val (.ref dd)] [(.ref b38), (.ref b38), (.ref dd)])) rfl (by rw [hml]; rfl) (Steps.refl _) (a := b38) (argsL := []) (rest := [(.ref b38), (.ref dd)]) (lenOf pd_0 rfl) rfl (Nat.le_of_eq rfl) (dx 25 rfl) (fun _ _ => ⟨rfl, e38, (by decide : 2 + 1 ≤ _), (by decide : 3 + 17 ≤ _)⟩))
  obtain ⟨rfl, N42q, hq44, F45, F46⟩ := hQ42
  have N42 := Fr.app N35 N42q
  have K42 : Keep h0 T42.heap [dd] := K38.trans hq44 (allS (Or.inr sz_b38) all0)
  have ne49 : dd ≠ b38 := Nat.ne_of_lt (Nat.lt_of_lt_of_le Fw35.lt (Nat.le_of_eq g38.symm))
  have F48 := ((((((((H9_F.other W4 (Or.inr (sn_47 hw))).other W9 (Or.inr (sn_54 hw))).other W16 (Or.inr (sn_60 hw))).other W23 (Or.inr (sn_65 hw))).other W30 (Or.inr (sn_69 hw))).ext E33).other W35 (Or.inr (sn_72 hw))).ext E38).keep hq44 (ninS ne49 nin0)
  have E50 := ((E37.wr W35).ext E38).keep hq44
  obtain ⟨T47, h47, X47, e47, W47, st47⟩ := putF X42 hx hZ hown (host := "") (Or.inl (ow 47 rfl)) Via.refl rfl F48 E50 (Or.inr ⟨(ow 48 rfl), rfl, hnm⟩) (ow 1 rfl) (ty := (.object "java/util/Deque")) (by decide) rfl rfl (g := (mkF m 58 #[.val (.ref dd)] [(.ref b38), (.ref dd)])) rfl rfl (dx 26 rfl)
  have Fw47 : f_36 Z h47 dd (.ref b38) := F48.same W47
  have N47 := Fr.snoc X47 N42 hg_dd
  have K47 : Keep h0 h47 [dd] := K42.wr W47 (Or.inl (own_mem (i := 0) rfl))
  obtain ⟨T51, h51, X51, e51, E51, A51, D51, -, st51⟩ := newO X47 hx hZ hown (ow 49 rfl) (ow 50 rfl) (ow 51 rfl) e47 (g := (mkF m 62 #[.val (.ref dd)] [(.ref dd)])) rfl (dx 28 rfl) (by decide) (by decide)
  obtain ⟨b51, g51⟩ : ∃ z, z = h47.size := ⟨_, rfl⟩
  have ge_b51 : n0 ≤ b51 := Nat.le_trans (Nat.le_trans (Nat.le_trans Zs43 hq44.1) (Keep.of_wr W47).1) (Nat.le_of_eq g51.symm)
  have sz_b51 : h0.size ≤ b51 := Nat.le_trans K47.1 (Nat.le_of_eq g51.symm)
  rw [← g51] at A51 D51 st51
  have K51 : Keep h0 h51 [dd] := K47.ext E51
  have F52 : f_4 Z h51 b51 (.float (0 : UInt32)) := D51 (Or.inr (ow 64 rfl)) (ty := .float) (by decide)
  have F53 : f_8 Z h51 b51 .null := D51 (Or.inl (ow 289 rfl)) (ty := (.object "java/util/Set")) (by decide)
  have F54 : f_7 Z h51 b51 (.int 0) := D51 (Or.inl (ow 333 rfl)) (ty := .int) (by decide)
  have F55 : f_5 Z h51 b51 .null := D51 (Or.inl (ow 337 rfl)) (ty := (.array (.object "java/util/HashMap$Node"))) (by decide)
  have F56 : f_6 Z h51 b51 (.int 0) := D51 (Or.inl (ow 385 rfl)) (ty := .int) (by decide)
  have Zs58 : n0 ≤ h51.size := (Nat.le_trans (Nat.le_trans (Nat.le_trans Zs43 hq44.1) (Keep.of_wr W47).1) E51.1)
  obtain ⟨_, T57, Lc57, X57, hQ57, st57⟩ := own_rt X51 (X51.specialBack hx (y := yn_3) rfl hown (mvT hZ (ow 52 rfl)) (mvT hZ (ow 53 rfl)) (mvT hZ (ow 54 rfl)) (by decide) (backOf (W := 2) (rm_hmI l Z a0 hw [] b51 h51 n0 Zs58 A51 F52 F55 F56 F54 F53 ge_b51) hZ (ow 54 rfl) (ow 51 rfl) (by decide) (by decide)) (g := (mkF m 66 #[.val (.ref dd)] [(.ref b51), (.ref b51), (.ref dd)])) rfl (by rw [hml]; rfl) (Steps.refl _) (a := b51) (argsL := []) (rest := [(.ref b51), (.ref dd)]) (lenOf pd_0 rfl) rfl (Nat.le_of_eq rfl) (dx 30 rfl) (fun _ _ => ⟨rfl, e51, (by decide : 4 + 0 ≤ _), (by decide : 28 + 0 ≤ _)⟩))
  obtain ⟨rfl, N57q, hq59, F60, F61, F62, F63⟩ := hQ57
  have N57 := Fr.app N47 N57q
  have K57 : Keep h0 T57.heap [dd] := K51.trans hq59 (allS (Or.inr sz_b51) all0)
  have ne66 : dd ≠ b51 := Nat.ne_of_lt (Nat.lt_of_lt_of_le Fw47.lt (Nat.le_of_eq g51.symm))
  have F65 := (((((((((((H10_F.other W4 (Or.inr (sn_48 hw))).other W9 (Or.inr (sn_55 hw))).other W16 (Or.inr (sn_61 hw))).other W23 (Or.inr (sn_66 hw))).other W30 (Or.inr (sn_70 hw))).ext E33).other W35 (Or.inr (sn_73 hw))).ext E38).keep hq44 (ninS ne49 nin0)).other W47 (Or.inr (sn_75 hw))).ext E51).keep hq59 (ninS ne66 nin0)
  have E67 := ((E50.wr W47).ext E51).keep hq59
  obtain ⟨T64, h64, X64, e64, W64, st64⟩ := putF X57 hx hZ hown (host := "") (Or.inl (ow 65 rfl)) Via.refl rfl F65 E67 (Or.inl (ow 66 rfl)) (ow 1 rfl) (ty := (.object "java/util/Map")) (by decide) rfl rfl (g := (mkF m 69 #[.val (.ref dd)] [(.ref b51), (.ref dd)])) rfl rfl (dx 31 rfl)
  have Fw64 : f_37 Z h64 dd (.ref b51) := F65.same W64
  have N64 := Fr.snoc X64 N57 hg_dd
  have K64 : Keep h0 h64 [dd] := K57.wr W64 (Or.inl (own_mem (i := 0) rfl))
  have pre68 := fun (t : State) (k : Steps p.tables e below (T64.setTop (mkF m 72 #[.val (.ref dd)] [])) t) => pre0 t (by
    refine XS.aloadN X0.here hx rfl (dx 0 rfl) rfl rfl ?_
    refine st1 _ ?_
    refine XS.aloadN X1.here hx rfl (dx 2 rfl) rfl rfl ?_
    refine st2 _ ?_
    refine st4 _ ?_
    refine XS.aloadN X4.here hx rfl (dx 5 rfl) rfl rfl ?_
    refine st5 _ ?_
    refine st9 _ ?_
    refine XS.aloadN X9.here hx rfl (dx 8 rfl) rfl rfl ?_
    refine st12 _ ?_
    refine st16 _ ?_
    refine XS.aloadN X16.here hx rfl (dx 11 rfl) rfl rfl ?_
    refine st19 _ ?_
    refine st23 _ ?_
    refine XS.aloadN X23.here hx rfl (dx 14 rfl) rfl rfl ?_
    refine st26 _ ?_
    refine st30 _ ?_
    refine XS.aloadN X30.here hx rfl (dx 17 rfl) rfl rfl ?_
    refine st33 _ ?_
    refine XS.dup X33.here hx rfl (dx 19 rfl) rfl rfl ?_
    refine st34 _ ?_
    refine st35 _ ?_
    refine XS.aloadN X35.here hx rfl (dx 22 rfl) rfl rfl ?_
    refine st38 _ ?_
    refine XS.dup X38.here hx rfl (dx 24 rfl) rfl rfl ?_
    refine st42.trans ?_
    refine st47 _ ?_
    refine XS.aloadN X47.here hx rfl (dx 27 rfl) rfl rfl ?_
    refine st51 _ ?_
    refine XS.dup X51.here hx rfl (dx 29 rfl) rfl rfl ?_
    refine st57.trans ?_
    refine st64 _ ?_
    exact k)
  have F69 := (((((((((((Fw4.other W9 (Or.inr (sn_41 hw).symm)).other W16 (Or.inr (sn_42 hw).symm)).other W23 (Or.inr (sn_43 hw).symm)).other W30 (Or.inr (sn_46 hw).symm)).ext E33).other W35 (Or.inr (sn_44 hw).symm)).ext E38).keep hq44 (ninS ne49 nin0)).other W47 (Or.inr (sn_47 hw).symm)).ext E51).keep hq59 (ninS ne66 nin0)).other W64 (Or.inr (sn_48 hw).symm)
  have F70 := ((((((((((Fw9.other W16 (Or.inr (sn_49 hw).symm)).other W23 (Or.inr (sn_50 hw).symm)).other W30 (Or.inr (sn_53 hw).symm)).ext E33).other W35 (Or.inr (sn_51 hw).symm)).ext E38).keep hq44 (ninS ne49 nin0)).other W47 (Or.inr (sn_54 hw).symm)).ext E51).keep hq59 (ninS ne66 nin0)).other W64 (Or.inr (sn_55 hw).symm)
  have F71 := (((((((((Fw16.other W23 (Or.inr (sn_56 hw).symm)).other W30 (Or.inr (sn_59 hw).symm)).ext E33).other W35 (Or.inr (sn_57 hw).symm)).ext E38).keep hq44 (ninS ne49 nin0)).other W47 (Or.inr (sn_60 hw).symm)).ext E51).keep hq59 (ninS ne66 nin0)).other W64 (Or.inr (sn_61 hw).symm)
  have F72 := ((((((((Fw23.other W30 (Or.inr (sn_64 hw).symm)).ext E33).other W35 (Or.inr (sn_62 hw).symm)).ext E38).keep hq44 (ninS ne49 nin0)).other W47 (Or.inr (sn_65 hw).symm)).ext E51).keep hq59 (ninS ne66 nin0)).other W64 (Or.inr (sn_66 hw).symm)
  have F73 := (((((Fw35.ext E38).keep hq44 (ninS ne49 nin0)).other W47 (Or.inr (sn_72 hw).symm)).ext E51).keep hq59 (ninS ne66 nin0)).other W64 (Or.inr (sn_73 hw).symm)
  have F74 := ((((((((((((H7_F.other W4 (Or.inr (sn_45 hw))).other W9 (Or.inr (sn_52 hw))).other W16 (Or.inr (sn_58 hw))).other W23 (Or.inr (sn_63 hw))).other W30 (Or.inr (sn_68 hw))).ext E33).other W35 (Or.inr (sn_71 hw))).ext E38).keep hq44 (ninS ne49 nin0)).other W47 (Or.inr (sn_74 hw))).ext E51).keep hq59 (ninS ne66 nin0)).other W64 (Or.inr (sn_76 hw))
  obtain ⟨fs, hr, hrun, hended, hW, hsame⟩ := X64.leave (v := none) (hlocks := BodyLoose.notSynchronized Bd) (fun _ => rfl)
  refine ⟨_, _, pre68 _ ?_, hrun, hended, _, _, rfl, ?_, ⟨_, rfl⟩, hW, hsame.mono (by decide) (by decide)⟩
  · exact X64.returnOut hx Bd.returns (dx 32 rfl) hr
  · show Q_grI Z dd em h0 n0 _ T64.heap _
    rw [e64]
    exact ⟨b33, rfl, N64, K64, ge_b33, sz_b33, F69, F70, F71, F72, F73, F74⟩

def Q_bvo (Z : State) (bt : Addr) (h0 : Heap) (n0 : Nat) (v : Option Value) (h : Heap) (L : List Loc) : Prop := v = some (.ref bt) ∧ Fr n0 L ∧ h = h0
set_option maxRecDepth 65536 in
set_option maxHeartbeats 40000000 in
theorem rm_bvo (l : Launch) (Z : State) (a0 : Array Value) (hw : own_HW a0 Z) (ws : List Jvm.Cond) (bt : Addr) (h0 : Heap) (n0 : Nat) (Z0 : n0 ≤ h0.size) (H0_S : Sta Z h0 "java/lang/Boolean" "TRUE" "Ljava/lang/Boolean;" (.ref bt)) :
    own_M l yn_21 (Jvm.Cond.code yn_21 jdk_2055_method_5_code 1 (some (.object "java/lang/Boolean")) :: ws) ({ frames := 0, cells := 0, slots := 0, locals := 0 } : Room) Z #[(.int 1)] h0 (Q_bvo Z bt h0 n0) := by
  refine MetFree.of_bodySF (plainFor_of_name pn_12) hisR ?_
  intro p e s m args below meth c s₁ Bd hml0 hP hK
  have ow := @own_w a0 Z hw
  obtain ⟨rfl, hZ, hhp_⟩ := hP
  have hx := Bd.exec
  have hby := Bd.bytes
  have dx := @own_hd _ _ _ hby Dc24
  have hml : c.maxLocals = 1 := hml0
  have hown : s.vm.findClass "java/lang/Boolean" = some m.cls := findClass_of_methodNamed Bd.named
  have hnm := (name_of_methodNamed Bd.named Bd.method).1
  have X0 : Stand p l e ({ frames := 0, cells := 0, slots := 0, locals := 0 } : Room) s m _ below meth c s₁ [] 0 0 := Stand.of_body Bd
  have e0 : s₁.heap = h0 := by rw [← hhp_, Bd.state]; rfl
  have N0 := Fr.nil n0
  have pre0 : ∀ t, Steps p.tables e below (s₁.setTop (mkF m 0 #[.val (.int 1)] [])) t → Steps p.tables e below (s₁.setTop (entryFrame m #[(.int 1)] 1)) t := fun t k => castTop rfl k
  obtain ⟨T1, X1, e1, st1⟩ := getS2 X0 hx hZ hown (host := "") (Or.inl (ow 205 rfl)) Via.refl e0 H0_S (g := (mkF m 4 #[.val (.int 1)] [])) rfl (dx 2 rfl)
  have pre2 := fun (t : State) (k : Steps p.tables e below (T1.setTop (mkF m 13 #[.val (.int 1)] [(.ref bt)])) t) => pre0 t (by
    refine XS.iloadN X0.here hx rfl (dx 0 rfl) rfl ?_
    refine XS.ifNo X0.here hx rfl (dx 1 rfl) rfl ((if0 _ _).trans (feq (by decide : ¬ ((1 : Int32) = (0 : Int32)))).1) ?_
    refine st1 _ ?_
    refine XS.goto X1.here hx rfl (pc0 := 7) (pc' := 13) rfl (dx 3 rfl) (by decide) (by decide) ?_
    exact k)
  obtain ⟨fs, hr, hrun, hended, hW, hsame⟩ := X1.leave (v := some (.ref bt)) (hlocks := BodyLoose.notSynchronized Bd) (fun h => by rw [Bd.returns] at h; cases h)
  refine ⟨_, _, pre2 _ ?_, hrun, hended, _, _, rfl, ?_, ⟨_, rfl⟩, hW, hsame.mono (by decide) (by decide)⟩
  · jvm_step X1.here [X1.here.top, hx, (dx 4 rfl), X1.method', Bd.returns, Value.isRef, FieldType.isReference]
    first | (intro acts; rw [hr _ acts rfl rfl rfl]) | rw [hr _ _ rfl rfl rfl]
    exact Steps.refl _
  · show Q_bvo Z bt h0 n0 _ T1.heap _
    rw [e1]
    exact ⟨rfl, N0, rfl⟩

def Q_un0 (Z : State) (gr : Addr) (gg : Addr) (em : Addr) (ae : Addr) (bt : Addr) (no : Addr) (kno : ClassId) (tn : Addr) (k1 : Int32) (h0 : Heap) (n0 : Nat) (v : Option Value) (h : Heap) (L : List Loc) : Prop := ∃ tu : Addr, ∃ cu : Addr, ∃ au : Addr, ∃ ku : ClassId, v = none ∧ Fr n0 L ∧ Keep h0 h [gr] ∧ n0 ≤ tu ∧ h0.size ≤ tu ∧ n0 ≤ cu ∧ h0.size ≤ cu ∧ n0 ≤ au ∧ h0.size ≤ au ∧ tu ≠ cu ∧ tu ≠ au ∧ cu ≠ au ∧ f_30 Z h gr (.ref tn) ∧ f_31 Z h gr (.ref em) ∧ f_32 Z h gr (.ref em) ∧ f_33 Z h gr (.ref tu) ∧ f_35 Z h gr (.ref gg) ∧ f_38 Z h gr (.int k1) ∧ e_29 Z h tu ∧ f_27 Z h tu (.ref cu) ∧ f_28 Z h tu (.int 0) ∧ e_26 Z h cu ∧ f_25 Z h cu (.int ((0 : Int32) ||| ((1 : Int32) <<< ((0 : Int32) &&& 31)))) ∧ f_23 Z h cu (.ref au) ∧ f_24 Z h cu (.ref gg) ∧ Arv Z h au ku (.object "java/lang/Object") ((0 : Int32) + (1 : Int32)) ([] ++ [(.ref bt)]) .null
set_option maxRecDepth 65536 in
set_option maxHeartbeats 40000000 in
theorem rm_un0 (l : Launch) (Z : State) (a0 : Array Value) (hw : own_HW a0 Z) (ws : List Jvm.Cond) (gr : Addr) (gg : Addr) (em : Addr) (ae : Addr) (bt : Addr) (no : Addr) (kno : ClassId) (tn : Addr) (k1 : Int32) (h0 : Heap) (n0 : Nat) (Z0 : n0 ≤ h0.size) (H0_E : e_39 Z h0 gr) (H1_F : f_30 Z h0 gr (.ref tn)) (H2_F : f_31 Z h0 gr (.ref em)) (H3_F : f_32 Z h0 gr (.ref em)) (H4_F : f_33 Z h0 gr (.ref em)) (H5_F : f_35 Z h0 gr (.ref gg)) (H6_F : f_38 Z h0 gr (.int k1)) (H7_S : Sta Z h0 "org/tallyrole/core/IntTrie$Chunk" "NONE" "[Ljava/lang/Object;" (.ref no)) (H8_A : Arv Z h0 no kno (.object "java/lang/Object") (0 : Int32) [] .null) (H9_E : e_29 Z h0 em) (H10_F : f_27 Z h0 em .null) (H11_F : f_28 Z h0 em (.int 0)) (H12_E : e_40 Z h0 bt) (H13_S : Sta Z h0 "java/lang/Boolean" "TRUE" "Ljava/lang/Boolean;" (.ref bt)) (hg_gr : n0 ≤ gr) (hn_gr_em : gr ≠ em) (hn_gr_no : gr ≠ no) :
    own_M l yn_22 (Jvm.Cond.code yn_22 prog_39_method_28_code 2 none :: ws) ({ frames := 4, cells := 3, slots := 8, locals := 71 } : Room) Z #[(.ref gr), (.int 0)] h0 (Q_un0 Z gr gg em ae bt no kno tn k1 h0 n0) := by
  refine MetFree.of_bodySF (plainFor_of_name pn_11) hisR ?_
  intro p e s m args below meth c s₁ Bd hml0 hP hK
  have ow := @own_w a0 Z hw
  obtain ⟨rfl, hZ, hhp_⟩ := hP
  have hx := Bd.exec
  have hby := Bd.bytes
  have dx := @own_hd _ _ _ hby Dc22
  have hml : c.maxLocals = 2 := hml0
  have hown : s.vm.findClass "org/tallyrole/core/Graph" = some m.cls := findClass_of_methodNamed Bd.named
  have hnm := (name_of_methodNamed Bd.named Bd.method).1
  have X0 : Stand p l e ({ frames := 4, cells := 3, slots := 8, locals := 71 } : Room) s m _ below meth c s₁ [] 0 0 := Stand.of_body Bd
  have e0 : s₁.heap = h0 := by rw [← hhp_, Bd.state]; rfl
  have N0 := Fr.nil n0
  have pre0 : ∀ t, Steps p.tables e below (s₁.setTop (mkF m 0 #[.val (.ref gr), .val (.int 0)] [])) t → Steps p.tables e below (s₁.setTop (entryFrame m #[(.ref gr), (.int 0)] 2)) t := fun t k => castTop rfl k
  have K0 : Keep h0 h0 [gr] := Keep.refl h0 [gr]
  obtain ⟨T1, X1, e1, st1⟩ := getF X0 hx hZ hown (host := "") (Or.inl (ow 21 rfl)) Via.refl e0 H4_F (g := (mkF m 1 #[.val (.ref gr), .val (.int 0)] [(.ref gr)])) rfl rfl (dx 1 rfl)
  obtain ⟨cq2, kq2, q2a, q2b, q2c⟩ := isOf hZ e1 H9_E
  obtain ⟨_, T2, Lc2, X2, hQ2, st2⟩ := own_rt X1 (X1.virtualBack hx (y := yn_13) (z := yn_13) hown (mvT hZ (ow 195 rfl)) (mvT hZ (ow 196 rfl)) (notFace_of_selects (args := #[]) (mvT hZ (ow 198 rfl))) (mvT hZ (ow 198 rfl)) (mvT hZ (ow 197 rfl)) (by decide) (backOf (W := 0) (rm_ckE l Z a0 hw [] em (0 : Int32) h0 n0 Z0 H9_E H10_F H11_F) hZ (ow 199 rfl) (ow 11 rfl) (by decide) (by decide)) q2a q2c (g := (mkF m 5 #[.val (.ref gr), .val (.int 0)] [(.int 0), (.ref em)])) rfl (by rw [hml]; rfl) (Steps.refl _) (argsL := [(.int 0)]) (rest := []) (lenOf pd_11 rfl) rfl (Nat.le_of_eq rfl) (dx 3 rfl) (fun _ _ => ⟨rfl, e1, (by decide : 0 + 0 ≤ _), (by decide : 0 + 0 ≤ _)⟩))
  obtain ⟨rfl, N2q, hq3⟩ := hQ2
  have N2 := Fr.app N0 N2q
  obtain ⟨T4, X4, e4, st4⟩ := getF X2 hx hZ hown (host := "") (Or.inl (ow 21 rfl)) Via.refl hq3 H4_F (g := (mkF m 13 #[.val (.ref gr), .val (.int 0)] [(.ref gr), (.ref gr)])) rfl rfl (dx 7 rfl)
  obtain ⟨_, T5, Lc5, X5, hQ5, st5⟩ := own_rtC X4 (Jvm.LawKit.callS X4 hx (y := yn_21) hown (mvT hZ (ow 201 rfl)) (mvT hZ (ow 202 rfl)) (mvT hZ (ow 203 rfl)) (mvT hZ (ow 204 rfl)) (by decide) (backOf (W := 3) (rm_bvo l Z a0 hw [] bt h0 n0 Z0 H13_S) hZ (ow 204 rfl) (ow 203 rfl) (by decide) (by decide)) (g := (mkF m 18 #[.val (.ref gr), .val (.int 0)] [(.int 1), (.int 0), (.ref em), (.ref gr)])) rfl (by rw [hml]; rfl) (argsL := [(.int 1)]) (rest := [(.int 0), (.ref em), (.ref gr)]) (lenOf pd_12 rfl) rfl (Nat.le_of_eq rfl) (dx 10 rfl) (fun _ _ => ⟨rfl, e4, (by decide : 0 + 0 ≤ _), (by decide : 0 + 0 ≤ _)⟩))
  obtain ⟨rfl, N5q, hq6⟩ := hQ5
  have N5 := Fr.app N2 N5q
  obtain ⟨T7, X7, e7, st7⟩ := getF X5 hx hZ hown (host := "") (Or.inl (ow 28 rfl)) Via.refl hq6 H5_F (g := (mkF m 22 #[.val (.ref gr), .val (.int 0)] [(.ref gr), (.ref bt), (.int 0), (.ref em), (.ref gr)])) rfl rfl (dx 12 rfl)
  obtain ⟨cq8, kq8, q8a, q8b, q8c⟩ := isOf hZ e7 H9_E
  obtain ⟨_, T8, Lc8, X8, hQ8, st8⟩ := own_rt X7 (X7.virtualBack hx (y := yn_17) (z := yn_17) hown (mvT hZ (ow 138 rfl)) (mvT hZ (ow 139 rfl)) (notFace_of_selects (args := #[]) (mvT hZ (ow 141 rfl))) (mvT hZ (ow 141 rfl)) (mvT hZ (ow 140 rfl)) (by decide) (backOf (W := 1) (rm_wE l Z a0 hw [] em bt gg no kno h0 n0 Z0 H9_E H10_F H11_F ⟨(Ins.of_exa H12_E (ow 206 rfl)), trivial⟩ H7_S H8_A) hZ (ow 142 rfl) (ow 11 rfl) (by decide) (by decide)) q8a q8c (g := (mkF m 25 #[.val (.ref gr), .val (.int 0)] [(.ref gg), (.ref bt), (.int 0), (.ref em), (.ref gr)])) rfl (by rw [hml]; rfl) (Steps.refl _) (argsL := [(.int 0), (.ref bt), (.ref gg)]) (rest := [(.ref gr)]) (lenOf pd_13 rfl) rfl (Nat.le_of_eq rfl) (dx 13 rfl) (fun _ _ => ⟨rfl, e7, (by decide : 0 + 3 ≤ _), (by decide : 0 + 8 ≤ _)⟩))
  obtain ⟨x9, x10, x11, x12, rfl, N8q, hq13, hpq14, hpq15, hpq16, hpq17, hpq18, hpq19, hpq20, hpq21, hpq22, E23, F24, F25, E26, F27, F28, F29, A30⟩ := hQ8
  have N8 := Fr.app N5 N8q
  have K8 : Keep h0 T8.heap [gr] := K0.trans hq13 all0
  have sz31 : h0.size ≤ x9 := Nat.le_trans K0.1 hpq15
  have sz32 : h0.size ≤ x10 := Nat.le_trans K0.1 hpq17
  have sz33 : h0.size ≤ x11 := Nat.le_trans K0.1 hpq19
  have F35 := H4_F.keep hq13 nin0
  have E36 := H0_E.keep hq13
  obtain ⟨T34, h34, X34, e34, W34, st34⟩ := putF X8 hx hZ hown (host := "") (Or.inl (ow 21 rfl)) Via.refl rfl F35 E36 (Or.inl (ow 22 rfl)) (ow 1 rfl) (ty := (.object "org/tallyrole/core/IntTrie")) (by decide) rfl rfl (g := (mkF m 28 #[.val (.ref gr), .val (.int 0)] [(.ref x9), (.ref gr)])) rfl rfl (dx 14 rfl)
  have Fw34 : f_33 Z h34 gr (.ref x9) := F35.same W34
  have N34 := Fr.snoc X34 N8 hg_gr
  have K34 : Keep h0 h34 [gr] := K8.wr W34 (Or.inl (own_mem (i := 0) rfl))
  have pre37 := fun (t : State) (k : Steps p.tables e below (T34.setTop (mkF m 31 #[.val (.ref gr), .val (.int 0)] [])) t) => pre0 t (by
    refine XS.aloadN X0.here hx rfl (dx 0 rfl) rfl rfl ?_
    refine st1 _ ?_
    refine XS.iloadN X1.here hx rfl (dx 2 rfl) rfl ?_
    refine st2.trans ?_
    refine XS.ifNo X2.here hx rfl (dx 4 rfl) rfl ((if0 _ _).trans (teq (by decide : (0 : Int32) = (0 : Int32))).2) ?_
    refine XS.aloadN X2.here hx rfl (dx 5 rfl) rfl rfl ?_
    refine XS.aloadN X2.here hx rfl (dx 6 rfl) rfl rfl ?_
    refine st4 _ ?_
    refine XS.iloadN X4.here hx rfl (dx 8 rfl) rfl ?_
    refine XS.iconst X4.here hx rfl (dx 9 rfl) ?_
    refine st5 _ ?_
    refine XS.aloadN X5.here hx rfl (dx 11 rfl) rfl rfl ?_
    refine st7 _ ?_
    refine st8.trans ?_
    refine st34 _ ?_
    exact k)
  have F38 := (H1_F.keep hq13 nin0).other W34 (Or.inr (sn_43 hw).symm)
  have F39 := (H2_F.keep hq13 nin0).other W34 (Or.inr (sn_50 hw).symm)
  have F40 := (H3_F.keep hq13 nin0).other W34 (Or.inr (sn_56 hw).symm)
  have F41 := (H5_F.keep hq13 nin0).other W34 (Or.inr (sn_62 hw))
  have F42 := (H6_F.keep hq13 nin0).other W34 (Or.inr (sn_63 hw))
  have E43 := E23.wr W34
  have ne45 : gr ≠ x9 := Nat.ne_of_lt (Nat.lt_of_lt_of_le H0_E.lt hpq15)
  have F44 := F24.other W34 (Or.inl (Ne.symm ne45))
  have F46 := F25.other W34 (Or.inl (Ne.symm ne45))
  have E47 := E26.wr W34
  have ne49 : gr ≠ x10 := Nat.ne_of_lt (Nat.lt_of_lt_of_le H0_E.lt hpq17)
  have F48 := F27.other W34 (Or.inl (Ne.symm ne49))
  have F50 := F28.other W34 (Or.inl (Ne.symm ne49))
  have F51 := F29.other W34 (Or.inl (Ne.symm ne49))
  have ne53 : gr ≠ x11 := Nat.ne_of_lt (Nat.lt_of_lt_of_le H0_E.lt hpq19)
  have A52 := A30.other W34 (Ne.symm ne53)
  obtain ⟨fs, hr, hrun, hended, hW, hsame⟩ := X34.leave (v := none) (hlocks := BodyLoose.notSynchronized Bd) (fun _ => rfl)
  refine ⟨_, _, pre37 _ ?_, hrun, hended, _, _, rfl, ?_, ⟨_, rfl⟩, hW, hsame.mono (by decide) (by decide)⟩
  · exact X34.returnOut hx Bd.returns (dx 15 rfl) hr
  · show Q_un0 Z gr gg em ae bt no kno tn k1 h0 n0 _ T34.heap _
    rw [e34]
    exact ⟨x9, x10, x11, x12, rfl, N34, K34, hpq14, sz31, hpq16, sz32, hpq18, sz33, hpq21, hpq22, hpq20, F38, F39, F40, Fw34, F41, F42, E43, F44, F46, E47, F48, F50, F51, A52⟩

def Q_unG (Z : State) (gr : Addr) (gg : Addr) (em : Addr) (bt : Addr) (tu : Addr) (cu : Addr) (au : Addr) (ku : ClassId) (mu : Int32) (lu : Int32) (us : List Value) (tn : Addr) (k1 : Int32) (kk : Int32) (h0 : Heap) (n0 : Nat) (v : Option Value) (h : Heap) (L : List Loc) : Prop := ∃ au' : Addr, ∃ ku' : ClassId, v = none ∧ Fr n0 L ∧ Keep h0 h [gr, cu] ∧ n0 ≤ au' ∧ h0.size ≤ au' ∧ f_30 Z h gr (.ref tn) ∧ f_31 Z h gr (.ref em) ∧ f_32 Z h gr (.ref em) ∧ f_33 Z h gr (.ref tu) ∧ f_35 Z h gr (.ref gg) ∧ f_38 Z h gr (.int k1) ∧ f_25 Z h cu (.int (mu ||| ((1 : Int32) <<< ((((kk.toUInt32 >>> ((0 : Int32) &&& 31).toUInt32).toInt32) &&& (31 : Int32)) &&& 31)))) ∧ f_23 Z h cu (.ref au') ∧ f_24 Z h cu (.ref gg) ∧ Arv Z h au' ku' (.object "java/lang/Object") (lu + (1 : Int32)) (us ++ [(.ref bt)]) .null
set_option maxRecDepth 65536 in
set_option maxHeartbeats 40000000 in
theorem rm_unG (l : Launch) (Z : State) (a0 : Array Value) (hw : own_HW a0 Z) (ws : List Jvm.Cond) (gr : Addr) (gg : Addr) (em : Addr) (bt : Addr) (tu : Addr) (cu : Addr) (au : Addr) (ku : ClassId) (mu : Int32) (lu : Int32) (us : List Value) (tn : Addr) (k1 : Int32) (kk : Int32) (h0 : Heap) (n0 : Nat) (Z0 : n0 ≤ h0.size) (H0_E : e_39 Z h0 gr) (H1_F : f_30 Z h0 gr (.ref tn)) (H2_F : f_31 Z h0 gr (.ref em)) (H3_F : f_32 Z h0 gr (.ref em)) (H4_F : f_33 Z h0 gr (.ref tu)) (H5_F : f_35 Z h0 gr (.ref gg)) (H6_F : f_38 Z h0 gr (.int k1)) (H7_E : e_29 Z h0 tu) (H8_F : f_27 Z h0 tu (.ref cu)) (H9_F : f_28 Z h0 tu (.int 0)) (H10_E : e_26 Z h0 cu) (H11_F : f_25 Z h0 cu (.int mu)) (H12_F : f_23 Z h0 cu (.ref au)) (H13_F : f_24 Z h0 cu (.ref gg)) (H14_A : Arv Z h0 au ku (.object "java/lang/Object") lu us .null) (H15_L : own_Ins Z h0 us) (H16_E : e_40 Z h0 bt) (H17_S : Sta Z h0 "java/lang/Boolean" "TRUE" "Ljava/lang/Boolean;" (.ref bt)) (hg_gr : n0 ≤ gr) (hg_cu : n0 ≤ cu) (hn_gr_tu : gr ≠ tu) (hn_gr_cu : gr ≠ cu) (hn_gr_au : gr ≠ au) (hn_tu_cu : tu ≠ cu) (hn_tu_au : tu ≠ au) (hn_cu_au : cu ≠ au) (hk0 : ¬ (kk < (0 : Int32))) (hk31 : ¬ ((31 : Int32) < ((kk.toUInt32 >>> ((0 : Int32) &&& 31).toUInt32).toInt32))) (habu : (mu &&& ((1 : Int32) <<< ((((kk.toUInt32 >>> ((0 : Int32) &&& 31).toUInt32).toInt32) &&& (31 : Int32)) &&& 31))) = (0 : Int32)) (hpsu : own_bc (mu &&& (((1 : Int32) <<< ((((kk.toUInt32 >>> ((0 : Int32) &&& 31).toUInt32).toInt32) &&& (31 : Int32)) &&& 31)) - (1 : Int32))) = lu) (hlnu : own_ln lu us) (hl3u : us.length < 3) :
    own_M l yn_22 (Jvm.Cond.code yn_22 prog_39_method_28_code 2 none :: ws) ({ frames := 4, cells := 1, slots := 3, locals := 74 } : Room) Z #[(.ref gr), (.int kk)] h0 (Q_unG Z gr gg em bt tu cu au ku mu lu us tn k1 kk h0 n0) := by
  refine MetFree.of_bodySF (plainFor_of_name pn_11) hisR ?_
  intro p e s m args below meth c s₁ Bd hml0 hP hK
  have ow := @own_w a0 Z hw
  obtain ⟨rfl, hZ, hhp_⟩ := hP
  have hx := Bd.exec
  have hby := Bd.bytes
  have dx := @own_hd _ _ _ hby Dc22
  have hml : c.maxLocals = 2 := hml0
  have hown : s.vm.findClass "org/tallyrole/core/Graph" = some m.cls := findClass_of_methodNamed Bd.named
  have hnm := (name_of_methodNamed Bd.named Bd.method).1
  have X0 : Stand p l e ({ frames := 4, cells := 1, slots := 3, locals := 74 } : Room) s m _ below meth c s₁ [] 0 0 := Stand.of_body Bd
  have e0 : s₁.heap = h0 := by rw [← hhp_, Bd.state]; rfl
  have N0 := Fr.nil n0
  have pre0 : ∀ t, Steps p.tables e below (s₁.setTop (mkF m 0 #[.val (.ref gr), .val (.int kk)] [])) t → Steps p.tables e below (s₁.setTop (entryFrame m #[(.ref gr), (.int kk)] 2)) t := fun t k => castTop rfl k
  have K0 : Keep h0 h0 [gr, cu] := Keep.refl h0 [gr, cu]
  obtain ⟨T1, X1, e1, st1⟩ := getF X0 hx hZ hown (host := "") (Or.inl (ow 21 rfl)) Via.refl e0 H4_F (g := (mkF m 1 #[.val (.ref gr), .val (.int kk)] [(.ref gr)])) rfl rfl (dx 1 rfl)
  obtain ⟨cq2, kq2, q2a, q2b, q2c⟩ := isOf hZ e1 H7_E
  obtain ⟨_, T2, Lc2, X2, hQ2, st2⟩ := own_rt X1 (X1.virtualBack hx (y := yn_13) (z := yn_13) hown (mvT hZ (ow 195 rfl)) (mvT hZ (ow 196 rfl)) (notFace_of_selects (args := #[]) (mvT hZ (ow 198 rfl))) (mvT hZ (ow 198 rfl)) (mvT hZ (ow 197 rfl)) (by decide) (backOf (W := 0) (rm_ckN l Z a0 hw [] tu cu mu kk h0 n0 Z0 H7_E H8_F H9_F H10_E H11_F (fun _ _ => habu)) hZ (ow 199 rfl) (ow 11 rfl) (by decide) (by decide)) q2a q2c (g := (mkF m 5 #[.val (.ref gr), .val (.int kk)] [(.int kk), (.ref tu)])) rfl (by rw [hml]; rfl) (Steps.refl _) (argsL := [(.int kk)]) (rest := []) (lenOf pd_11 rfl) rfl (Nat.le_of_eq rfl) (dx 3 rfl) (fun _ _ => ⟨rfl, e1, (by decide : 0 + 0 ≤ _), (by decide : 0 + 0 ≤ _)⟩))
  obtain ⟨rfl, N2q, hq3⟩ := hQ2
  have N2 := Fr.app N0 N2q
  obtain ⟨T4, X4, e4, st4⟩ := getF X2 hx hZ hown (host := "") (Or.inl (ow 21 rfl)) Via.refl hq3 H4_F (g := (mkF m 13 #[.val (.ref gr), .val (.int kk)] [(.ref gr), (.ref gr)])) rfl rfl (dx 7 rfl)
  obtain ⟨_, T5, Lc5, X5, hQ5, st5⟩ := own_rtC X4 (Jvm.LawKit.callS X4 hx (y := yn_21) hown (mvT hZ (ow 201 rfl)) (mvT hZ (ow 202 rfl)) (mvT hZ (ow 203 rfl)) (mvT hZ (ow 204 rfl)) (by decide) (backOf (W := 3) (rm_bvo l Z a0 hw [] bt h0 n0 Z0 H17_S) hZ (ow 204 rfl) (ow 203 rfl) (by decide) (by decide)) (g := (mkF m 18 #[.val (.ref gr), .val (.int kk)] [(.int 1), (.int kk), (.ref tu), (.ref gr)])) rfl (by rw [hml]; rfl) (argsL := [(.int 1)]) (rest := [(.int kk), (.ref tu), (.ref gr)]) (lenOf pd_12 rfl) rfl (Nat.le_of_eq rfl) (dx 10 rfl) (fun _ _ => ⟨rfl, e4, (by decide : 0 + 0 ≤ _), (by decide : 0 + 0 ≤ _)⟩))
  obtain ⟨rfl, N5q, hq6⟩ := hQ5
  have N5 := Fr.app N2 N5q
  obtain ⟨T7, X7, e7, st7⟩ := getF X5 hx hZ hown (host := "") (Or.inl (ow 28 rfl)) Via.refl hq6 H5_F (g := (mkF m 22 #[.val (.ref gr), .val (.int kk)] [(.ref gr), (.ref bt), (.int kk), (.ref tu), (.ref gr)])) rfl rfl (dx 12 rfl)
  obtain ⟨cq8, kq8, q8a, q8b, q8c⟩ := isOf hZ e7 H7_E
  obtain ⟨_, T8, Lc8, X8, hQ8, st8⟩ := own_rt X7 (X7.virtualBack hx (y := yn_17) (z := yn_17) hown (mvT hZ (ow 138 rfl)) (mvT hZ (ow 139 rfl)) (notFace_of_selects (args := #[]) (mvT hZ (ow 141 rfl))) (mvT hZ (ow 141 rfl)) (mvT hZ (ow 140 rfl)) (by decide) (backOf (W := 1) (rm_wP l Z a0 hw [] tu cu au ku gg mu lu us kk bt h0 n0 Z0 H7_E H8_F H9_F H10_E H11_F H12_F H13_F H14_A ⟨(Ins.of_exa H16_E (ow 206 rfl)), trivial⟩ H15_L hg_cu hn_cu_au habu hpsu hlnu hl3u hn_tu_cu hk0 hk31) hZ (ow 142 rfl) (ow 11 rfl) (by decide) (by decide)) q8a q8c (g := (mkF m 25 #[.val (.ref gr), .val (.int kk)] [(.ref gg), (.ref bt), (.int kk), (.ref tu), (.ref gr)])) rfl (by rw [hml]; rfl) (Steps.refl _) (argsL := [(.int kk), (.ref bt), (.ref gg)]) (rest := [(.ref gr)]) (lenOf pd_13 rfl) rfl (Nat.le_of_eq rfl) (dx 13 rfl) (fun _ _ => ⟨rfl, e7, (by decide : 0 + 1 ≤ _), (by decide : 0 + 3 ≤ _)⟩))
  obtain ⟨x9, x10, rfl, N8q, hq11, hpq12, hpq13, F14, F15, F16, A17⟩ := hQ8
  have N8 := Fr.app N5 N8q
  have K8 : Keep h0 T8.heap [gr, cu] := K0.trans hq11 (allS (Or.inl (own_mem (i := 1) rfl)) all0)
  have sz18 : h0.size ≤ x9 := Nat.le_trans K0.1 hpq13
  have F20 := H4_F.keep hq11 (ninS hn_gr_cu nin0)
  have E21 := H0_E.keep hq11
  obtain ⟨T19, h19, X19, e19, W19, st19⟩ := putF X8 hx hZ hown (host := "") (Or.inl (ow 21 rfl)) Via.refl rfl F20 E21 (Or.inl (ow 22 rfl)) (ow 1 rfl) (ty := (.object "org/tallyrole/core/IntTrie")) (by decide) rfl rfl (g := (mkF m 28 #[.val (.ref gr), .val (.int kk)] [(.ref tu), (.ref gr)])) rfl rfl (dx 14 rfl)
  have Fw19 : f_33 Z h19 gr (.ref tu) := F20.same W19
  have N19 := Fr.snoc X19 N8 hg_gr
  have K19 : Keep h0 h19 [gr, cu] := K8.wr W19 (Or.inl (own_mem (i := 0) rfl))
  have pre22 := fun (t : State) (k : Steps p.tables e below (T19.setTop (mkF m 31 #[.val (.ref gr), .val (.int kk)] [])) t) => pre0 t (by
    refine XS.aloadN X0.here hx rfl (dx 0 rfl) rfl rfl ?_
    refine st1 _ ?_
    refine XS.iloadN X1.here hx rfl (dx 2 rfl) rfl ?_
    refine st2.trans ?_
    refine XS.ifNo X2.here hx rfl (dx 4 rfl) rfl ((if0 _ _).trans (teq (by decide : (0 : Int32) = (0 : Int32))).2) ?_
    refine XS.aloadN X2.here hx rfl (dx 5 rfl) rfl rfl ?_
    refine XS.aloadN X2.here hx rfl (dx 6 rfl) rfl rfl ?_
    refine st4 _ ?_
    refine XS.iloadN X4.here hx rfl (dx 8 rfl) rfl ?_
    refine XS.iconst X4.here hx rfl (dx 9 rfl) ?_
    refine st5 _ ?_
    refine XS.aloadN X5.here hx rfl (dx 11 rfl) rfl rfl ?_
    refine st7 _ ?_
    refine st8.trans ?_
    refine st19 _ ?_
    exact k)
  have F23 := (H1_F.keep hq11 (ninS hn_gr_cu nin0)).other W19 (Or.inr (sn_43 hw).symm)
  have F24 := (H2_F.keep hq11 (ninS hn_gr_cu nin0)).other W19 (Or.inr (sn_50 hw).symm)
  have F25 := (H3_F.keep hq11 (ninS hn_gr_cu nin0)).other W19 (Or.inr (sn_56 hw).symm)
  have F26 := (H5_F.keep hq11 (ninS hn_gr_cu nin0)).other W19 (Or.inr (sn_62 hw))
  have F27 := (H6_F.keep hq11 (ninS hn_gr_cu nin0)).other W19 (Or.inr (sn_63 hw))
  have F28 := F14.other W19 (Or.inl (Ne.symm hn_gr_cu))
  have F29 := F15.other W19 (Or.inl (Ne.symm hn_gr_cu))
  have F30 := F16.other W19 (Or.inl (Ne.symm hn_gr_cu))
  have ne32 : gr ≠ x9 := Nat.ne_of_lt (Nat.lt_of_lt_of_le H0_E.lt hpq13)
  have A31 := A17.other W19 (Ne.symm ne32)
  obtain ⟨fs, hr, hrun, hended, hW, hsame⟩ := X19.leave (v := none) (hlocks := BodyLoose.notSynchronized Bd) (fun _ => rfl)
  refine ⟨_, _, pre22 _ ?_, hrun, hended, _, _, rfl, ?_, ⟨_, rfl⟩, hW, hsame.mono (by decide) (by decide)⟩
  · exact X19.returnOut hx Bd.returns (dx 15 rfl) hr
  · show Q_unG Z gr gg em bt tu cu au ku mu lu us tn k1 kk h0 n0 _ T19.heap _
    rw [e19]
    exact ⟨x9, x10, rfl, N19, K19, hpq12, sz18, F23, F24, F25, Fw19, F26, F27, F28, F29, F30, A31⟩

def Q_ad0 (Z : State) (gr : Addr) (gg : Addr) (em : Addr) (ae : Addr) (bt : Addr) (no : Addr) (kno : ClassId) (h0 : Heap) (n0 : Nat) (v : Option Value) (h : Heap) (L : List Loc) : Prop := ∃ ww : Addr, ∃ lb : Addr, ∃ pd : Addr, ∃ su : Addr, ∃ ba : Addr, ∃ iv : Addr, ∃ tn : Addr, ∃ cn : Addr, ∃ an : Addr, ∃ kn : ClassId, ∃ tu : Addr, ∃ cu : Addr, ∃ au : Addr, ∃ ku : ClassId, v = some (.int 0) ∧ Fr n0 L ∧ Keep h0 h [gr] ∧ n0 ≤ ww ∧ h0.size ≤ ww ∧ n0 ≤ lb ∧ h0.size ≤ lb ∧ n0 ≤ pd ∧ h0.size ≤ pd ∧ n0 ≤ su ∧ h0.size ≤ su ∧ n0 ≤ ba ∧ h0.size ≤ ba ∧ n0 ≤ iv ∧ h0.size ≤ iv ∧ n0 ≤ tn ∧ h0.size ≤ tn ∧ n0 ≤ cn ∧ h0.size ≤ cn ∧ n0 ≤ an ∧ h0.size ≤ an ∧ n0 ≤ tu ∧ h0.size ≤ tu ∧ n0 ≤ cu ∧ h0.size ≤ cu ∧ n0 ≤ au ∧ h0.size ≤ au ∧ lb ≠ pd ∧ lb ≠ su ∧ lb ≠ ba ∧ lb ≠ iv ∧ ww ≠ tn ∧ ww ≠ cn ∧ ww ≠ an ∧ ww ≠ tu ∧ ww ≠ cu ∧ ww ≠ au ∧ tn ≠ cn ∧ tn ≠ an ∧ tn ≠ tu ∧ tn ≠ cu ∧ tn ≠ au ∧ cn ≠ an ∧ cn ≠ tu ∧ cn ≠ cu ∧ cn ≠ au ∧ an ≠ tu ∧ an ≠ cu ∧ an ≠ au ∧ tu ≠ cu ∧ tu ≠ au ∧ cu ≠ au ∧ ww ≠ lb ∧ tn ≠ lb ∧ cn ≠ lb ∧ an ≠ lb ∧ tu ≠ lb ∧ cu ≠ lb ∧ au ≠ lb ∧ cn ≠ pd ∧ cn ≠ su ∧ cn ≠ ba ∧ cn ≠ iv ∧ cu ≠ pd ∧ cu ≠ su ∧ cu ≠ ba ∧ cu ≠ iv ∧ f_30 Z h gr (.ref tn) ∧ f_31 Z h gr (.ref em) ∧ f_32 Z h gr (.ref em) ∧ f_33 Z h gr (.ref tu) ∧ f_35 Z h gr (.ref gg) ∧ f_38 Z h gr (.int 1) ∧ e_29 Z h tn ∧ f_27 Z h tn (.ref cn) ∧ f_28 Z h tn (.int 0) ∧ e_26 Z h cn ∧ f_25 Z h cn (.int ((0 : Int32) ||| ((1 : Int32) <<< ((0 : Int32) &&& 31)))) ∧ f_23 Z h cn (.ref an) ∧ f_24 Z h cn (.ref gg) ∧ Arv Z h an kn (.object "java/lang/Object") ((0 : Int32) + (1 : Int32)) ([] ++ [(.ref ww)]) .null ∧ e_29 Z h tu ∧ f_27 Z h tu (.ref cu) ∧ f_28 Z h tu (.int 0) ∧ e_26 Z h cu ∧ f_25 Z h cu (.int ((0 : Int32) ||| ((1 : Int32) <<< ((0 : Int32) &&& 31)))) ∧ f_23 Z h cu (.ref au) ∧ f_24 Z h cu (.ref gg) ∧ Arv Z h au ku (.object "java/lang/Object") ((0 : Int32) + (1 : Int32)) ([] ++ [(.ref bt)]) .null ∧ e_22 Z h ww ∧ f_14 Z h ww (.ref lb) ∧ f_15 Z h ww (.ref pd) ∧ f_17 Z h ww (.ref su) ∧ f_18 Z h ww (.ref ba) ∧ f_20 Z h ww (.ref iv) ∧ f_19 Z h ww (.ref em) ∧ f_21 Z h ww (.ref gg) ∧ e_9 Z h lb ∧ f_5 Z h lb .null ∧ f_6 Z h lb (.int 0) ∧ f_7 Z h lb (.int 0) ∧ f_8 Z h lb .null ∧ e_3 Z h pd ∧ f_1 Z h pd (.int 0) ∧ f_2 Z h pd (.int 0) ∧ e_9 Z h su ∧ f_6 Z h su (.int 0) ∧ e_9 Z h ba ∧ f_6 Z h ba (.int 0) ∧ e_13 Z h iv ∧ f_12 Z h iv (.int 0)
set_option maxRecDepth 65536 in
set_option maxHeartbeats 40000000 in
theorem rm_ad0 (l : Launch) (Z : State) (a0 : Array Value) (hw : own_HW a0 Z) (ws : List Jvm.Cond) (gr : Addr) (gg : Addr) (em : Addr) (ae : Addr) (bt : Addr) (no : Addr) (kno : ClassId) (h0 : Heap) (n0 : Nat) (Z0 : n0 ≤ h0.size) (H0_E : e_39 Z h0 gr) (H1_F : f_30 Z h0 gr (.ref em)) (H2_F : f_31 Z h0 gr (.ref em)) (H3_F : f_32 Z h0 gr (.ref em)) (H4_F : f_33 Z h0 gr (.ref em)) (H5_F : f_35 Z h0 gr (.ref gg)) (H6_F : f_38 Z h0 gr (.int 0)) (H7_S : Sta Z h0 "org/tallyrole/core/IntTrie" "EMPTY" "Lorg/tallyrole/core/IntTrie;" (.ref em)) (H8_S : Sta Z h0 "org/tallyrole/core/IntTrie$Chunk" "NONE" "[Ljava/lang/Object;" (.ref no)) (H9_S : Sta Z h0 "java/util/ArrayList" "DEFAULTCAPACITY_EMPTY_ELEMENTDATA" "[Ljava/lang/Object;" (.ref ae)) (H10_A : Arv Z h0 no kno (.object "java/lang/Object") (0 : Int32) [] .null) (H11_E : e_29 Z h0 em) (H12_F : f_27 Z h0 em .null) (H13_F : f_28 Z h0 em (.int 0)) (H14_E : e_40 Z h0 bt) (H15_S : Sta Z h0 "java/lang/Boolean" "TRUE" "Ljava/lang/Boolean;" (.ref bt)) (hg_gr : n0 ≤ gr) (hn_gr_em : gr ≠ em) (hn_gr_no : gr ≠ no) :
    own_M l yn_23 (Jvm.Cond.code yn_23 prog_39_method_3_code 2 (some .int) :: ws) ({ frames := 5, cells := 14, slots := 74, locals := 84 } : Room) Z #[(.ref gr)] h0 (Q_ad0 Z gr gg em ae bt no kno h0 n0) := by
  refine MetFree.of_bodySF (plainFor_of_name pn_11) hisR ?_
  intro p e s m args below meth c s₁ Bd hml0 hP hK
  have ow := @own_w a0 Z hw
  obtain ⟨rfl, hZ, hhp_⟩ := hP
  have hx := Bd.exec
  have hby := Bd.bytes
  have dx := @own_hd _ _ _ hby Dc11
  have hml : c.maxLocals = 2 := hml0
  have hown : s.vm.findClass "org/tallyrole/core/Graph" = some m.cls := findClass_of_methodNamed Bd.named
  have hnm := (name_of_methodNamed Bd.named Bd.method).1
  have X0 : Stand p l e ({ frames := 5, cells := 14, slots := 74, locals := 84 } : Room) s m _ below meth c s₁ [] 0 0 := Stand.of_body Bd
  have e0 : s₁.heap = h0 := by rw [← hhp_, Bd.state]; rfl
  have N0 := Fr.nil n0
  have pre0 : ∀ t, Steps p.tables e below (s₁.setTop (mkF m 0 #[.val (.ref gr), .unset] [])) t → Steps p.tables e below (s₁.setTop (entryFrame m #[(.ref gr)] 2)) t := fun t k => castTop rfl k
  have K0 : Keep h0 h0 [gr] := Keep.refl h0 [gr]
  obtain ⟨T1, X1, e1, st1⟩ := getF X0 hx hZ hown (host := "") (Or.inl (ow 72 rfl)) Via.refl e0 H6_F (g := (mkF m 2 #[.val (.ref gr), .unset] [(.ref gr), (.ref gr)])) rfl rfl (dx 2 rfl)
  obtain ⟨T2, h2, X2, e2, W2, st2⟩ := putF X1 hx hZ hown (host := "") (Or.inl (ow 72 rfl)) Via.refl e1 H6_F H0_E (Or.inl (ow 73 rfl)) (ow 1 rfl) (ty := .int) (by decide) rfl rfl (g := (mkF m 8 #[.val (.ref gr), .unset] [(.int 1), (.ref gr), (.int 0)])) rfl rfl (dx 6 rfl)
  have Fw2 : f_38 Z h2 gr (.int 1) := H6_F.same W2
  have N2 := Fr.snoc X2 N0 hg_gr
  have K2 : Keep h0 h2 [gr] := K0.wr W2 (Or.inl (own_mem (i := 0) rfl))
  have F3 := H1_F.other W2 (Or.inr (sn_45 hw).symm)
  obtain ⟨T4, X4, e4, st4⟩ := getF X2 hx hZ hown (host := "") (Or.inl (ow 15 rfl)) Via.refl e2 F3 (g := (mkF m 14 #[.val (.ref gr), .val (.int 0)] [(.ref gr), (.ref gr)])) rfl rfl (dx 10 rfl)
  obtain ⟨T5, h5, X5, e5, E5, A5, D5, -, st5⟩ := newO X4 hx hZ hown (ow 91 rfl) (ow 92 rfl) (ow 93 rfl) e4 (g := (mkF m 18 #[.val (.ref gr), .val (.int 0)] [(.int 0), (.ref em), (.ref gr)])) rfl (dx 12 rfl) (by decide) (by decide)
  obtain ⟨b5, g5⟩ : ∃ z, z = h2.size := ⟨_, rfl⟩
  have ge_b5 : n0 ≤ b5 := Nat.le_trans (Nat.le_trans Z0 (Keep.of_wr W2).1) (Nat.le_of_eq g5.symm)
  have sz_b5 : h0.size ≤ b5 := Nat.le_trans K2.1 (Nat.le_of_eq g5.symm)
  rw [← g5] at A5 D5 st5
  have K5 : Keep h0 h5 [gr] := K2.ext E5
  have F6 : f_14 Z h5 b5 .null := D5 (Or.inr (ow 101 rfl)) (ty := (.object "java/util/Map")) (by decide)
  have F7 : f_15 Z h5 b5 .null := D5 (Or.inr (ow 105 rfl)) (ty := (.object "java/util/Deque")) (by decide)
  have F8 : f_16 Z h5 b5 .null := D5 (Or.inr (ow 126 rfl)) (ty := (.object "java/util/List")) (by decide)
  have F9 : f_17 Z h5 b5 .null := D5 (Or.inr (ow 128 rfl)) (ty := (.object "java/util/Map")) (by decide)
  have F10 : f_18 Z h5 b5 .null := D5 (Or.inr (ow 130 rfl)) (ty := (.object "java/util/Map")) (by decide)
  have F11 : f_19 Z h5 b5 .null := D5 (Or.inl (ow 133 rfl)) (ty := (.object "org/tallyrole/core/IntTrie")) (by decide)
  have F12 : f_20 Z h5 b5 .null := D5 (Or.inr (ow 135 rfl)) (ty := (.object "java/util/List")) (by decide)
  have F13 : f_21 Z h5 b5 .null := D5 (Or.inr (ow 137 rfl)) (ty := (.object "java/lang/Object")) (by decide)
  have F14 := (H5_F.other W2 (Or.inr (sn_71 hw).symm)).ext E5
  obtain ⟨T15, X15, e15, st15⟩ := getF X5 hx hZ hown (host := "") (Or.inl (ow 28 rfl)) Via.refl e5 F14 (g := (mkF m 23 #[.val (.ref gr), .val (.int 0)] [(.ref gr), (.ref b5), (.ref b5), (.int 0), (.ref em), (.ref gr)])) rfl rfl (dx 15 rfl)
  have S17 := (H7_S.wr W2).ext E5
  have S18 := (H9_S.wr W2).ext E5
  have Zs19 : n0 ≤ h5.size := (Nat.le_trans (Nat.le_trans Z0 (Keep.of_wr W2).1) E5.1)
  obtain ⟨_, T16, Lc16, X16, hQ16, st16⟩ := own_rt X15 (own_specialRef X15 hx hZ (y := yn_7) rfl hown (ow 94 rfl) (ow 96 rfl) (mvT hZ (ow 95 rfl)) (mvT hZ (ow 96 rfl)) (by decide) (backOf (W := 4) (rm_ndI l Z a0 hw [] b5 gg em ae h5 n0 Zs19 A5 S17 S18 F6 F7 F8 F9 F10 F11 F12 F13 ge_b5) hZ (ow 96 rfl) (ow 93 rfl) (by decide) (by decide)) (g := (mkF m 26 #[.val (.ref gr), .val (.int 0)] [(.ref gg), (.ref b5), (.ref b5), (.int 0), (.ref em), (.ref gr)])) rfl (by rw [hml]; rfl) (Steps.refl _) (a := b5) (argsL := [(.ref gg)]) (rest := [(.ref b5), (.int 0), (.ref em), (.ref gr)]) (lenOf pd_4 rfl) rfl (Nat.le_of_eq rfl) (dx 16 rfl) (fun _ _ => ⟨rfl, e15, (by decide : 1 + 7 ≤ _), (by decide : 8 + 50 ≤ _)⟩))
  obtain ⟨x20, x21, x22, x23, x24, rfl, N16q, hq25, hpq26, hpq27, hpq28, hpq29, hpq30, hpq31, hpq32, hpq33, hpq34, hpq35, hpq36, hpq37, hpq38, hpq39, F40, F41, F42, F43, F44, F45, F46, E47, F48, F49, F50, F51, E52, F53, F54, E55, F56, E57, F58, E59, F60⟩ := hQ16
  have N16 := Fr.app N2 N16q
  have K16 : Keep h0 T16.heap [gr] := K5.trans hq25 (allS (Or.inr sz_b5) all0)
  have sz61 : h0.size ≤ x20 := Nat.le_trans K5.1 hpq27
  have sz62 : h0.size ≤ x21 := Nat.le_trans K5.1 hpq29
  have sz63 : h0.size ≤ x22 := Nat.le_trans K5.1 hpq31
  have sz64 : h0.size ≤ x23 := Nat.le_trans K5.1 hpq33
  have sz65 : h0.size ≤ x24 := Nat.le_trans K5.1 hpq35
  have ne67 : gr ≠ b5 := Nat.ne_of_lt (Nat.lt_of_lt_of_le F3.lt (Nat.le_of_eq g5.symm))
  have F66 := F14.keep hq25 (ninS ne67 nin0)
  obtain ⟨T68, X68, e68, st68⟩ := getF X16 hx hZ hown (host := "") (Or.inl (ow 28 rfl)) Via.refl rfl F66 (g := (mkF m 30 #[.val (.ref gr), .val (.int 0)] [(.ref gr), (.ref b5), (.int 0), (.ref em), (.ref gr)])) rfl rfl (dx 18 rfl)
  have E70 := ((H11_E.wr W2).ext E5).keep hq25
  have ne72 : em ≠ b5 := Nat.ne_of_lt (Nat.lt_of_lt_of_le (H11_E.wr W2).lt (Nat.le_of_eq g5.symm))
  have F71 := ((H12_F.other W2 (Or.inl (Ne.symm hn_gr_em))).ext E5).keep hq25 (ninS ne72 nin0)
  have F73 := ((H13_F.other W2 (Or.inl (Ne.symm hn_gr_em))).ext E5).keep hq25 (ninS ne72 nin0)
  have E74 := A5.keep hq25
  have S75 := own_sta_keep ((H8_S.wr W2).ext E5) hq25 (allS (own_ns_exa A5) all0)
  have ne77 : no ≠ b5 := Nat.ne_of_lt (Nat.lt_of_lt_of_le (H10_A.other W2 (Ne.symm hn_gr_no)).lt (Nat.le_of_eq g5.symm))
  have A76 := ((H10_A.other W2 (Ne.symm hn_gr_no)).ext E5).keep hq25 (ninS ne77 nin0)
  have Zs78 : n0 ≤ T16.heap.size := (Nat.le_trans Zs19 hq25.1)
  obtain ⟨cq69, kq69, q69a, q69b, q69c⟩ := isOf hZ e68 E70
  obtain ⟨_, T69, Lc69, X69, hQ69, st69⟩ := own_rt X68 (X68.virtualBack hx (y := yn_17) (z := yn_17) hown (mvT hZ (ow 138 rfl)) (mvT hZ (ow 139 rfl)) (notFace_of_selects (args := #[]) (mvT hZ (ow 141 rfl))) (mvT hZ (ow 141 rfl)) (mvT hZ (ow 140 rfl)) (by decide) (backOf (W := 1) (rm_wE l Z a0 hw [] em b5 gg no kno T16.heap n0 Zs78 E70 F71 F73 ⟨(Ins.of_exa E74 (ow 184 rfl)), trivial⟩ S75 A76) hZ (ow 142 rfl) (ow 11 rfl) (by decide) (by decide)) q69a q69c (g := (mkF m 33 #[.val (.ref gr), .val (.int 0)] [(.ref gg), (.ref b5), (.int 0), (.ref em), (.ref gr)])) rfl (by rw [hml]; rfl) (Steps.refl _) (argsL := [(.int 0), (.ref b5), (.ref gg)]) (rest := [(.ref gr)]) (lenOf pd_13 rfl) rfl (Nat.le_of_eq rfl) (dx 19 rfl) (fun _ _ => ⟨rfl, e68, (by decide : 8 + 3 ≤ _), (by decide : 58 + 8 ≤ _)⟩))
  obtain ⟨x79, x80, x81, x82, rfl, N69q, hq83, hpq84, hpq85, hpq86, hpq87, hpq88, hpq89, hpq90, hpq91, hpq92, E93, F94, F95, E96, F97, F98, F99, A100⟩ := hQ69
  have N69 := Fr.app N16 N69q
  have K69 : Keep h0 T69.heap [gr] := K16.trans hq83 all0
  have sz101 : h0.size ≤ x79 := Nat.le_trans K16.1 hpq85
  have sz102 : h0.size ≤ x80 := Nat.le_trans K16.1 hpq87
  have sz103 : h0.size ≤ x81 := Nat.le_trans K16.1 hpq89
  have F105 := ((F3.ext E5).keep hq25 (ninS ne67 nin0)).keep hq83 nin0
  have E106 := (((H0_E.wr W2).ext E5).keep hq25).keep hq83
  obtain ⟨T104, h104, X104, e104, W104, st104⟩ := putF X69 hx hZ hown (host := "") (Or.inl (ow 15 rfl)) Via.refl rfl F105 E106 (Or.inl (ow 16 rfl)) (ow 1 rfl) (ty := (.object "org/tallyrole/core/IntTrie")) (by decide) rfl rfl (g := (mkF m 36 #[.val (.ref gr), .val (.int 0)] [(.ref x79), (.ref gr)])) rfl rfl (dx 20 rfl)
  have Fw104 : f_30 Z h104 gr (.ref x79) := F105.same W104
  have N104 := Fr.snoc X104 N69 hg_gr
  have K104 : Keep h0 h104 [gr] := K69.wr W104 (Or.inl (own_mem (i := 0) rfl))
  have E108 := E106.wr W104
  have F109 := ((((H2_F.other W2 (Or.inr (sn_52 hw).symm)).ext E5).keep hq25 (ninS ne67 nin0)).keep hq83 nin0).other W104 (Or.inr (sn_41 hw))
  have F110 := ((((H3_F.other W2 (Or.inr (sn_58 hw).symm)).ext E5).keep hq25 (ninS ne67 nin0)).keep hq83 nin0).other W104 (Or.inr (sn_42 hw))
  have F111 := ((((H4_F.other W2 (Or.inr (sn_63 hw).symm)).ext E5).keep hq25 (ninS ne67 nin0)).keep hq83 nin0).other W104 (Or.inr (sn_43 hw))
  have F112 := (F66.keep hq83 nin0).other W104 (Or.inr (sn_44 hw))
  have F113 := (((Fw2.ext E5).keep hq25 (ninS ne67 nin0)).keep hq83 nin0).other W104 (Or.inr (sn_45 hw))
  have S114 := (own_sta_keep S75 hq83 all0).wr W104
  have A115 := (A76.keep hq83 nin0).other W104 (Ne.symm hn_gr_no)
  have E116 := (E70.keep hq83).wr W104
  have F117 := (F71.keep hq83 nin0).other W104 (Or.inl (Ne.symm hn_gr_em))
  have F118 := (F73.keep hq83 nin0).other W104 (Or.inl (Ne.symm hn_gr_em))
  have E119 := ((((H14_E.wr W2).ext E5).keep hq25).keep hq83).wr W104
  have S120 := (own_sta_keep (own_sta_keep ((H15_S.wr W2).ext E5) hq25 (allS (own_ns_exa A5) all0)) hq83 all0).wr W104
  have Zs121 : n0 ≤ h104.size := (Nat.le_trans (Nat.le_trans Zs78 hq83.1) (Keep.of_wr W104).1)
  obtain ⟨cq107, q107, q107'⟩ := E108.cell
  obtain ⟨_, T107, Lc107, X107, hQ107, st107⟩ := own_rt X104 (X104.privateBack hx (y := yn_22) hown (mvT hZ (ow 191 rfl)) (mvT hZ (ow 192 rfl)) (own_sel_priv (z := (⟨"org/tallyrole/core/Graph", "size", "()I"⟩ : MethodName)) (mvT hZ (ow 70 rfl)) rfl (mvP hZ (ow 193 rfl)) (mvT hZ (ow 192 rfl)) (by decide)) (Cond.privateMethod_at (mvP hZ (ow 193 rfl) (args := #[]))) (mvT hZ (ow 194 rfl)) (by decide) (backOf (W := 0) (rm_un0 l Z a0 hw [] gr gg em ae bt no kno x79 (1 : Int32) h104 n0 Zs121 E108 Fw104 F109 F110 F111 F112 F113 S114 A115 E116 F117 F118 E119 S120 hg_gr hn_gr_em hn_gr_no) hZ (ow 194 rfl) (ow 2 rfl) (by decide) (by decide)) (g := (mkF m 41 #[.val (.ref gr), .val (.int 0)] [(.int 0), (.ref gr)])) rfl (by rw [hml]; rfl) (Steps.refl _) (a := gr) (by rw [e104]; exact q107) q107' (argsL := [(.int 0)]) (rest := []) (lenOf pd_14 rfl) rfl (Nat.le_of_eq rfl) (dx 23 rfl) (fun _ _ => ⟨rfl, e104, (by decide : 11 + 3 ≤ _), (by decide : 66 + 8 ≤ _)⟩))
  obtain ⟨x122, x123, x124, x125, rfl, N107q, hq126, hpq127, hpq128, hpq129, hpq130, hpq131, hpq132, hpq133, hpq134, hpq135, F136, F137, F138, F139, F140, F141, E142, F143, F144, E145, F146, F147, F148, A149⟩ := hQ107
  have N107 := Fr.app N104 N107q
  have K107 : Keep h0 T107.heap [gr] := K104.trans hq126 (allS (Or.inl (own_mem (i := 0) rfl)) all0)
  have sz150 : h0.size ≤ x122 := Nat.le_trans K104.1 hpq128
  have sz151 : h0.size ≤ x123 := Nat.le_trans K104.1 hpq130
  have sz152 : h0.size ≤ x124 := Nat.le_trans K104.1 hpq132
  have pre153 := fun (t : State) (k : Steps p.tables e below (T107.setTop (mkF m 45 #[.val (.ref gr), .val (.int 0)] [(.int 0)])) t) => pre0 t (by
    refine XS.aloadN X0.here hx rfl (dx 0 rfl) rfl rfl ?_
    refine XS.dup X0.here hx rfl (dx 1 rfl) rfl rfl ?_
    refine st1 _ ?_
    refine XS.dupX1 X1.here hx rfl (dx 3 rfl) rfl rfl rfl ?_
    refine XS.iconst X1.here hx rfl (dx 4 rfl) ?_
    refine XS.iadd X1.here hx rfl (dx 5 rfl) rfl ?_
    refine st2 _ ?_
    refine XS.istoreN X2.here hx rfl (dx 7 rfl) rfl (l' := #[.val (.ref gr), .val (.int 0)]) rfl ?_
    refine XS.aloadN X2.here hx rfl (dx 8 rfl) rfl rfl ?_
    refine XS.aloadN X2.here hx rfl (dx 9 rfl) rfl rfl ?_
    refine st4 _ ?_
    refine XS.iloadN X4.here hx rfl (dx 11 rfl) rfl ?_
    refine st5 _ ?_
    refine XS.dup X5.here hx rfl (dx 13 rfl) rfl rfl ?_
    refine XS.aloadN X5.here hx rfl (dx 14 rfl) rfl rfl ?_
    refine st15 _ ?_
    refine st16.trans ?_
    refine XS.aloadN X16.here hx rfl (dx 17 rfl) rfl rfl ?_
    refine st68 _ ?_
    refine st69.trans ?_
    refine st104 _ ?_
    refine XS.aloadN X104.here hx rfl (dx 21 rfl) rfl rfl ?_
    refine XS.iloadN X104.here hx rfl (dx 22 rfl) rfl ?_
    refine st107.trans ?_
    refine XS.iloadN X107.here hx rfl (dx 24 rfl) rfl ?_
    exact k)
  have E154 := (E93.wr W104).keep hq126
  have ne156 : gr ≠ x79 := Nat.ne_of_lt (Nat.lt_of_lt_of_le F66.lt hpq85)
  have F155 := (F94.other W104 (Or.inl (Ne.symm ne156))).keep hq126 (ninS (Ne.symm ne156) nin0)
  have F157 := (F95.other W104 (Or.inl (Ne.symm ne156))).keep hq126 (ninS (Ne.symm ne156) nin0)
  have E158 := (E96.wr W104).keep hq126
  have ne160 : gr ≠ x80 := Nat.ne_of_lt (Nat.lt_of_lt_of_le F66.lt hpq87)
  have F159 := (F97.other W104 (Or.inl (Ne.symm ne160))).keep hq126 (ninS (Ne.symm ne160) nin0)
  have F161 := (F98.other W104 (Or.inl (Ne.symm ne160))).keep hq126 (ninS (Ne.symm ne160) nin0)
  have F162 := (F99.other W104 (Or.inl (Ne.symm ne160))).keep hq126 (ninS (Ne.symm ne160) nin0)
  have ne164 : gr ≠ x81 := Nat.ne_of_lt (Nat.lt_of_lt_of_le F66.lt hpq89)
  have A163 := (A100.other W104 (Ne.symm ne164)).keep hq126 (ninS (Ne.symm ne164) nin0)
  have E165 := ((E74.keep hq83).wr W104).keep hq126
  have F166 := ((F40.keep hq83 nin0).other W104 (Or.inl (Ne.symm ne67))).keep hq126 (ninS (Ne.symm ne67) nin0)
  have F167 := ((F41.keep hq83 nin0).other W104 (Or.inl (Ne.symm ne67))).keep hq126 (ninS (Ne.symm ne67) nin0)
  have F168 := ((F42.keep hq83 nin0).other W104 (Or.inl (Ne.symm ne67))).keep hq126 (ninS (Ne.symm ne67) nin0)
  have F169 := ((F43.keep hq83 nin0).other W104 (Or.inl (Ne.symm ne67))).keep hq126 (ninS (Ne.symm ne67) nin0)
  have F170 := ((F44.keep hq83 nin0).other W104 (Or.inl (Ne.symm ne67))).keep hq126 (ninS (Ne.symm ne67) nin0)
  have F171 := ((F45.keep hq83 nin0).other W104 (Or.inl (Ne.symm ne67))).keep hq126 (ninS (Ne.symm ne67) nin0)
  have F172 := ((F46.keep hq83 nin0).other W104 (Or.inl (Ne.symm ne67))).keep hq126 (ninS (Ne.symm ne67) nin0)
  have E173 := ((E47.keep hq83).wr W104).keep hq126
  have ne175 : gr ≠ x20 := Nat.ne_of_lt (Nat.lt_of_lt_of_le F14.lt hpq27)
  have F174 := ((F48.keep hq83 nin0).other W104 (Or.inl (Ne.symm ne175))).keep hq126 (ninS (Ne.symm ne175) nin0)
  have F176 := ((F49.keep hq83 nin0).other W104 (Or.inl (Ne.symm ne175))).keep hq126 (ninS (Ne.symm ne175) nin0)
  have F177 := ((F50.keep hq83 nin0).other W104 (Or.inl (Ne.symm ne175))).keep hq126 (ninS (Ne.symm ne175) nin0)
  have F178 := ((F51.keep hq83 nin0).other W104 (Or.inl (Ne.symm ne175))).keep hq126 (ninS (Ne.symm ne175) nin0)
  have E179 := ((E52.keep hq83).wr W104).keep hq126
  have ne181 : gr ≠ x21 := Nat.ne_of_lt (Nat.lt_of_lt_of_le F14.lt hpq29)
  have F180 := ((F53.keep hq83 nin0).other W104 (Or.inl (Ne.symm ne181))).keep hq126 (ninS (Ne.symm ne181) nin0)
  have F182 := ((F54.keep hq83 nin0).other W104 (Or.inl (Ne.symm ne181))).keep hq126 (ninS (Ne.symm ne181) nin0)
  have E183 := ((E55.keep hq83).wr W104).keep hq126
  have ne185 : gr ≠ x22 := Nat.ne_of_lt (Nat.lt_of_lt_of_le F14.lt hpq31)
  have F184 := ((F56.keep hq83 nin0).other W104 (Or.inl (Ne.symm ne185))).keep hq126 (ninS (Ne.symm ne185) nin0)
  have E186 := ((E57.keep hq83).wr W104).keep hq126
  have ne188 : gr ≠ x23 := Nat.ne_of_lt (Nat.lt_of_lt_of_le F14.lt hpq33)
  have F187 := ((F58.keep hq83 nin0).other W104 (Or.inl (Ne.symm ne188))).keep hq126 (ninS (Ne.symm ne188) nin0)
  have E189 := ((E59.keep hq83).wr W104).keep hq126
  have ne191 : gr ≠ x24 := Nat.ne_of_lt (Nat.lt_of_lt_of_le F14.lt hpq35)
  have F190 := ((F60.keep hq83 nin0).other W104 (Or.inl (Ne.symm ne191))).keep hq126 (ninS (Ne.symm ne191) nin0)
  have ne192 : b5 ≠ x79 := Nat.ne_of_lt (Nat.lt_of_lt_of_le E74.lt hpq85)
  have ne193 : b5 ≠ x80 := Nat.ne_of_lt (Nat.lt_of_lt_of_le E74.lt hpq87)
  have ne194 : b5 ≠ x81 := Nat.ne_of_lt (Nat.lt_of_lt_of_le E74.lt hpq89)
  have ne195 : b5 ≠ x122 := Nat.ne_of_lt (Nat.lt_of_lt_of_le ((E74.keep hq83).wr W104).lt hpq128)
  have ne196 : b5 ≠ x123 := Nat.ne_of_lt (Nat.lt_of_lt_of_le ((E74.keep hq83).wr W104).lt hpq130)
  have ne197 : b5 ≠ x124 := Nat.ne_of_lt (Nat.lt_of_lt_of_le ((E74.keep hq83).wr W104).lt hpq132)
  have ne198 : x79 ≠ x122 := Nat.ne_of_lt (Nat.lt_of_lt_of_le (E93.wr W104).lt hpq128)
  have ne199 : x79 ≠ x123 := Nat.ne_of_lt (Nat.lt_of_lt_of_le (E93.wr W104).lt hpq130)
  have ne200 : x79 ≠ x124 := Nat.ne_of_lt (Nat.lt_of_lt_of_le (E93.wr W104).lt hpq132)
  have ne201 : x80 ≠ x122 := Nat.ne_of_lt (Nat.lt_of_lt_of_le (E96.wr W104).lt hpq128)
  have ne202 : x80 ≠ x123 := Nat.ne_of_lt (Nat.lt_of_lt_of_le (E96.wr W104).lt hpq130)
  have ne203 : x80 ≠ x124 := Nat.ne_of_lt (Nat.lt_of_lt_of_le (E96.wr W104).lt hpq132)
  have ne204 : x81 ≠ x122 := Nat.ne_of_lt (Nat.lt_of_lt_of_le (A100.other W104 (Ne.symm ne164)).lt hpq128)
  have ne205 : x81 ≠ x123 := Nat.ne_of_lt (Nat.lt_of_lt_of_le (A100.other W104 (Ne.symm ne164)).lt hpq130)
  have ne206 : x81 ≠ x124 := Nat.ne_of_lt (Nat.lt_of_lt_of_le (A100.other W104 (Ne.symm ne164)).lt hpq132)
  have ne207 : b5 ≠ x20 := Nat.ne_of_lt (Nat.lt_of_lt_of_le A5.lt hpq27)
  have ne208 : x20 ≠ x79 := Nat.ne_of_lt (Nat.lt_of_lt_of_le E47.lt hpq85)
  have ne209 : x20 ≠ x80 := Nat.ne_of_lt (Nat.lt_of_lt_of_le E47.lt hpq87)
  have ne210 : x20 ≠ x81 := Nat.ne_of_lt (Nat.lt_of_lt_of_le E47.lt hpq89)
  have ne211 : x20 ≠ x122 := Nat.ne_of_lt (Nat.lt_of_lt_of_le ((E47.keep hq83).wr W104).lt hpq128)
  have ne212 : x20 ≠ x123 := Nat.ne_of_lt (Nat.lt_of_lt_of_le ((E47.keep hq83).wr W104).lt hpq130)
  have ne213 : x20 ≠ x124 := Nat.ne_of_lt (Nat.lt_of_lt_of_le ((E47.keep hq83).wr W104).lt hpq132)
  have ne214 : x21 ≠ x80 := Nat.ne_of_lt (Nat.lt_of_lt_of_le E52.lt hpq87)
  have ne215 : x22 ≠ x80 := Nat.ne_of_lt (Nat.lt_of_lt_of_le E55.lt hpq87)
  have ne216 : x23 ≠ x80 := Nat.ne_of_lt (Nat.lt_of_lt_of_le E57.lt hpq87)
  have ne217 : x24 ≠ x80 := Nat.ne_of_lt (Nat.lt_of_lt_of_le E59.lt hpq87)
  have ne218 : x21 ≠ x123 := Nat.ne_of_lt (Nat.lt_of_lt_of_le ((E52.keep hq83).wr W104).lt hpq130)
  have ne219 : x22 ≠ x123 := Nat.ne_of_lt (Nat.lt_of_lt_of_le ((E55.keep hq83).wr W104).lt hpq130)
  have ne220 : x23 ≠ x123 := Nat.ne_of_lt (Nat.lt_of_lt_of_le ((E57.keep hq83).wr W104).lt hpq130)
  have ne221 : x24 ≠ x123 := Nat.ne_of_lt (Nat.lt_of_lt_of_le ((E59.keep hq83).wr W104).lt hpq130)
  obtain ⟨fs, hr, hrun, hended, hW, hsame⟩ := X107.leave (v := some (.int 0)) (hlocks := BodyLoose.notSynchronized Bd) (fun h => by rw [Bd.returns] at h; cases h)
  refine ⟨_, _, pre153 _ ?_, hrun, hended, _, _, rfl, ?_, ⟨_, rfl⟩, hW, hsame.mono (by decide) (by decide)⟩
  · exact retI X107 hx Bd.returns (dx 25 rfl) hr
  · show Q_ad0 Z gr gg em ae bt no kno h0 n0 _ T107.heap _
    exact ⟨b5, x20, x21, x22, x23, x24, x79, x80, x81, x82, x122, x123, x124, x125, rfl, N107, K107, ge_b5, sz_b5, hpq26, sz61, hpq28, sz62, hpq30, sz63, hpq32, sz64, hpq34, sz65, hpq84, sz101, hpq86, sz102, hpq88, sz103, hpq127, sz150, hpq129, sz151, hpq131, sz152, hpq36, hpq37, hpq38, hpq39, ne192, ne193, ne194, ne195, ne196, ne197, hpq91, hpq92, ne198, ne199, ne200, hpq90, ne201, ne202, ne203, ne204, ne205, ne206, hpq133, hpq134, hpq135, ne207, (Ne.symm ne208), (Ne.symm ne209), (Ne.symm ne210), (Ne.symm ne211), (Ne.symm ne212), (Ne.symm ne213), (Ne.symm ne214), (Ne.symm ne215), (Ne.symm ne216), (Ne.symm ne217), (Ne.symm ne218), (Ne.symm ne219), (Ne.symm ne220), (Ne.symm ne221), F136, F137, F138, F139, F140, F141, E154, F155, F157, E158, F159, F161, F162, A163, E142, F143, F144, E145, F146, F147, F148, A149, E165, F166, F167, F168, F169, F170, F171, F172, E173, F174, F176, F177, F178, E179, F180, F182, E183, F184, E186, F187, E189, F190⟩

def Q_adG (Z : State) (gr : Addr) (gg : Addr) (em : Addr) (ae : Addr) (bt : Addr) (no : Addr) (kno : ClassId) (tn : Addr) (cn : Addr) (an : Addr) (kn : ClassId) (mn : Int32) (nl : Int32) (vs : List Value) (tu : Addr) (cu : Addr) (au : Addr) (ku : ClassId) (mu : Int32) (lu : Int32) (us : List Value) (kk : Int32) (h0 : Heap) (n0 : Nat) (v : Option Value) (h : Heap) (L : List Loc) : Prop := ∃ ww : Addr, ∃ lb : Addr, ∃ pd : Addr, ∃ su : Addr, ∃ ba : Addr, ∃ iv : Addr, ∃ an' : Addr, ∃ kn' : ClassId, ∃ au' : Addr, ∃ ku' : ClassId, v = some (.int kk) ∧ Fr n0 L ∧ Keep h0 h [gr, cn, cu] ∧ n0 ≤ ww ∧ h0.size ≤ ww ∧ n0 ≤ lb ∧ h0.size ≤ lb ∧ n0 ≤ pd ∧ h0.size ≤ pd ∧ n0 ≤ su ∧ h0.size ≤ su ∧ n0 ≤ ba ∧ h0.size ≤ ba ∧ n0 ≤ iv ∧ h0.size ≤ iv ∧ n0 ≤ an' ∧ h0.size ≤ an' ∧ n0 ≤ au' ∧ h0.size ≤ au' ∧ lb ≠ pd ∧ lb ≠ su ∧ lb ≠ ba ∧ lb ≠ iv ∧ ww ≠ an' ∧ ww ≠ au' ∧ an' ≠ au' ∧ ww ≠ lb ∧ an' ≠ lb ∧ au' ≠ lb ∧ f_30 Z h gr (.ref tn) ∧ f_31 Z h gr (.ref em) ∧ f_32 Z h gr (.ref em) ∧ f_33 Z h gr (.ref tu) ∧ f_35 Z h gr (.ref gg) ∧ f_38 Z h gr (.int (kk + (1 : Int32))) ∧ f_25 Z h cn (.int (mn ||| ((1 : Int32) <<< ((((kk.toUInt32 >>> ((0 : Int32) &&& 31).toUInt32).toInt32) &&& (31 : Int32)) &&& 31)))) ∧ f_23 Z h cn (.ref an') ∧ f_24 Z h cn (.ref gg) ∧ Arv Z h an' kn' (.object "java/lang/Object") (nl + (1 : Int32)) (vs ++ [(.ref ww)]) .null ∧ f_25 Z h cu (.int (mu ||| ((1 : Int32) <<< ((((kk.toUInt32 >>> ((0 : Int32) &&& 31).toUInt32).toInt32) &&& (31 : Int32)) &&& 31)))) ∧ f_23 Z h cu (.ref au') ∧ f_24 Z h cu (.ref gg) ∧ Arv Z h au' ku' (.object "java/lang/Object") (lu + (1 : Int32)) (us ++ [(.ref bt)]) .null ∧ e_22 Z h ww ∧ f_14 Z h ww (.ref lb) ∧ f_15 Z h ww (.ref pd) ∧ f_17 Z h ww (.ref su) ∧ f_18 Z h ww (.ref ba) ∧ f_20 Z h ww (.ref iv) ∧ f_19 Z h ww (.ref em) ∧ f_21 Z h ww (.ref gg) ∧ e_9 Z h lb ∧ f_5 Z h lb .null ∧ f_6 Z h lb (.int 0) ∧ f_7 Z h lb (.int 0) ∧ f_8 Z h lb .null ∧ e_3 Z h pd ∧ f_1 Z h pd (.int 0) ∧ f_2 Z h pd (.int 0) ∧ e_9 Z h su ∧ f_6 Z h su (.int 0) ∧ e_9 Z h ba ∧ f_6 Z h ba (.int 0) ∧ e_13 Z h iv ∧ f_12 Z h iv (.int 0)
set_option maxRecDepth 65536 in
set_option maxHeartbeats 40000000 in
theorem rm_adG (l : Launch) (Z : State) (a0 : Array Value) (hw : own_HW a0 Z) (ws : List Jvm.Cond) (gr : Addr) (gg : Addr) (em : Addr) (ae : Addr) (bt : Addr) (no : Addr) (kno : ClassId) (tn : Addr) (cn : Addr) (an : Addr) (kn : ClassId) (mn : Int32) (nl : Int32) (vs : List Value) (tu : Addr) (cu : Addr) (au : Addr) (ku : ClassId) (mu : Int32) (lu : Int32) (us : List Value) (kk : Int32) (h0 : Heap) (n0 : Nat) (Z0 : n0 ≤ h0.size) (H0_E : e_39 Z h0 gr) (H1_F : f_30 Z h0 gr (.ref tn)) (H2_F : f_31 Z h0 gr (.ref em)) (H3_F : f_32 Z h0 gr (.ref em)) (H4_F : f_33 Z h0 gr (.ref tu)) (H5_F : f_35 Z h0 gr (.ref gg)) (H6_F : f_38 Z h0 gr (.int kk)) (H7_S : Sta Z h0 "org/tallyrole/core/IntTrie" "EMPTY" "Lorg/tallyrole/core/IntTrie;" (.ref em)) (H8_S : Sta Z h0 "java/util/ArrayList" "DEFAULTCAPACITY_EMPTY_ELEMENTDATA" "[Ljava/lang/Object;" (.ref ae)) (H9_E : e_29 Z h0 tn) (H10_F : f_27 Z h0 tn (.ref cn)) (H11_F : f_28 Z h0 tn (.int 0)) (H12_E : e_26 Z h0 cn) (H13_F : f_25 Z h0 cn (.int mn)) (H14_F : f_23 Z h0 cn (.ref an)) (H15_F : f_24 Z h0 cn (.ref gg)) (H16_A : Arv Z h0 an kn (.object "java/lang/Object") nl vs .null) (H17_E : e_29 Z h0 tu) (H18_F : f_27 Z h0 tu (.ref cu)) (H19_F : f_28 Z h0 tu (.int 0)) (H20_E : e_26 Z h0 cu) (H21_F : f_25 Z h0 cu (.int mu)) (H22_F : f_23 Z h0 cu (.ref au)) (H23_F : f_24 Z h0 cu (.ref gg)) (H24_A : Arv Z h0 au ku (.object "java/lang/Object") lu us .null) (H25_L : own_Ins Z h0 vs) (H26_L : own_Ins Z h0 us) (H27_E : e_40 Z h0 bt) (H28_S : Sta Z h0 "java/lang/Boolean" "TRUE" "Ljava/lang/Boolean;" (.ref bt)) (hg_gr : n0 ≤ gr) (hg_cn : n0 ≤ cn) (hg_cu : n0 ≤ cu) (hn_gr_tn : gr ≠ tn) (hn_gr_cn : gr ≠ cn) (hn_gr_an : gr ≠ an) (hn_gr_tu : gr ≠ tu) (hn_gr_cu : gr ≠ cu) (hn_gr_au : gr ≠ au) (hn_tn_cn : tn ≠ cn) (hn_tn_an : tn ≠ an) (hn_tn_tu : tn ≠ tu) (hn_tn_cu : tn ≠ cu) (hn_tn_au : tn ≠ au) (hn_cn_an : cn ≠ an) (hn_cn_tu : cn ≠ tu) (hn_cn_cu : cn ≠ cu) (hn_cn_au : cn ≠ au) (hn_an_tu : an ≠ tu) (hn_an_cu : an ≠ cu) (hn_an_au : an ≠ au) (hn_tu_cu : tu ≠ cu) (hn_tu_au : tu ≠ au) (hn_cu_au : cu ≠ au) (hk0 : ¬ (kk < (0 : Int32))) (hk31 : ¬ ((31 : Int32) < ((kk.toUInt32 >>> ((0 : Int32) &&& 31).toUInt32).toInt32))) (habn : (mn &&& ((1 : Int32) <<< ((((kk.toUInt32 >>> ((0 : Int32) &&& 31).toUInt32).toInt32) &&& (31 : Int32)) &&& 31))) = (0 : Int32)) (hpsn : own_bc (mn &&& (((1 : Int32) <<< ((((kk.toUInt32 >>> ((0 : Int32) &&& 31).toUInt32).toInt32) &&& (31 : Int32)) &&& 31)) - (1 : Int32))) = nl) (hlnn : own_ln nl vs) (hl3n : vs.length < 3) (habu : (mu &&& ((1 : Int32) <<< ((((kk.toUInt32 >>> ((0 : Int32) &&& 31).toUInt32).toInt32) &&& (31 : Int32)) &&& 31))) = (0 : Int32)) (hpsu : own_bc (mu &&& (((1 : Int32) <<< ((((kk.toUInt32 >>> ((0 : Int32) &&& 31).toUInt32).toInt32) &&& (31 : Int32)) &&& 31)) - (1 : Int32))) = lu) (hlnu : own_ln lu us) (hl3u : us.length < 3) :
    own_M l yn_23 (Jvm.Cond.code yn_23 prog_39_method_3_code 2 (some .int) :: ws) ({ frames := 5, cells := 10, slots := 64, locals := 87 } : Room) Z #[(.ref gr)] h0 (Q_adG Z gr gg em ae bt no kno tn cn an kn mn nl vs tu cu au ku mu lu us kk h0 n0) := by
  refine MetFree.of_bodySF (plainFor_of_name pn_11) hisR ?_
  intro p e s m args below meth c s₁ Bd hml0 hP hK
  have ow := @own_w a0 Z hw
  obtain ⟨rfl, hZ, hhp_⟩ := hP
  have hx := Bd.exec
  have hby := Bd.bytes
  have dx := @own_hd _ _ _ hby Dc11
  have hml : c.maxLocals = 2 := hml0
  have hown : s.vm.findClass "org/tallyrole/core/Graph" = some m.cls := findClass_of_methodNamed Bd.named
  have hnm := (name_of_methodNamed Bd.named Bd.method).1
  have X0 : Stand p l e ({ frames := 5, cells := 10, slots := 64, locals := 87 } : Room) s m _ below meth c s₁ [] 0 0 := Stand.of_body Bd
  have e0 : s₁.heap = h0 := by rw [← hhp_, Bd.state]; rfl
  have N0 := Fr.nil n0
  have pre0 : ∀ t, Steps p.tables e below (s₁.setTop (mkF m 0 #[.val (.ref gr), .unset] [])) t → Steps p.tables e below (s₁.setTop (entryFrame m #[(.ref gr)] 2)) t := fun t k => castTop rfl k
  have K0 : Keep h0 h0 [gr, cn, cu] := Keep.refl h0 [gr, cn, cu]
  obtain ⟨T1, X1, e1, st1⟩ := getF X0 hx hZ hown (host := "") (Or.inl (ow 72 rfl)) Via.refl e0 H6_F (g := (mkF m 2 #[.val (.ref gr), .unset] [(.ref gr), (.ref gr)])) rfl rfl (dx 2 rfl)
  obtain ⟨T2, h2, X2, e2, W2, st2⟩ := putF X1 hx hZ hown (host := "") (Or.inl (ow 72 rfl)) Via.refl e1 H6_F H0_E (Or.inl (ow 73 rfl)) (ow 1 rfl) (ty := .int) (by decide) rfl rfl (g := (mkF m 8 #[.val (.ref gr), .unset] [(.int (kk + (1 : Int32))), (.ref gr), (.int kk)])) rfl rfl (dx 6 rfl)
  have Fw2 : f_38 Z h2 gr (.int (kk + (1 : Int32))) := H6_F.same W2
  have N2 := Fr.snoc X2 N0 hg_gr
  have K2 : Keep h0 h2 [gr, cn, cu] := K0.wr W2 (Or.inl (own_mem (i := 0) rfl))
  have F3 := H1_F.other W2 (Or.inr (sn_45 hw).symm)
  obtain ⟨T4, X4, e4, st4⟩ := getF X2 hx hZ hown (host := "") (Or.inl (ow 15 rfl)) Via.refl e2 F3 (g := (mkF m 14 #[.val (.ref gr), .val (.int kk)] [(.ref gr), (.ref gr)])) rfl rfl (dx 10 rfl)
  obtain ⟨T5, h5, X5, e5, E5, A5, D5, -, st5⟩ := newO X4 hx hZ hown (ow 91 rfl) (ow 92 rfl) (ow 93 rfl) e4 (g := (mkF m 18 #[.val (.ref gr), .val (.int kk)] [(.int kk), (.ref tn), (.ref gr)])) rfl (dx 12 rfl) (by decide) (by decide)
  obtain ⟨b5, g5⟩ : ∃ z, z = h2.size := ⟨_, rfl⟩
  have ge_b5 : n0 ≤ b5 := Nat.le_trans (Nat.le_trans Z0 (Keep.of_wr W2).1) (Nat.le_of_eq g5.symm)
  have sz_b5 : h0.size ≤ b5 := Nat.le_trans K2.1 (Nat.le_of_eq g5.symm)
  rw [← g5] at A5 D5 st5
  have K5 : Keep h0 h5 [gr, cn, cu] := K2.ext E5
  have F6 : f_14 Z h5 b5 .null := D5 (Or.inr (ow 101 rfl)) (ty := (.object "java/util/Map")) (by decide)
  have F7 : f_15 Z h5 b5 .null := D5 (Or.inr (ow 105 rfl)) (ty := (.object "java/util/Deque")) (by decide)
  have F8 : f_16 Z h5 b5 .null := D5 (Or.inr (ow 126 rfl)) (ty := (.object "java/util/List")) (by decide)
  have F9 : f_17 Z h5 b5 .null := D5 (Or.inr (ow 128 rfl)) (ty := (.object "java/util/Map")) (by decide)
  have F10 : f_18 Z h5 b5 .null := D5 (Or.inr (ow 130 rfl)) (ty := (.object "java/util/Map")) (by decide)
  have F11 : f_19 Z h5 b5 .null := D5 (Or.inl (ow 133 rfl)) (ty := (.object "org/tallyrole/core/IntTrie")) (by decide)
  have F12 : f_20 Z h5 b5 .null := D5 (Or.inr (ow 135 rfl)) (ty := (.object "java/util/List")) (by decide)
  have F13 : f_21 Z h5 b5 .null := D5 (Or.inr (ow 137 rfl)) (ty := (.object "java/lang/Object")) (by decide)
  have F14 := (H5_F.other W2 (Or.inr (sn_71 hw).symm)).ext E5
  obtain ⟨T15, X15, e15, st15⟩ := getF X5 hx hZ hown (host := "") (Or.inl (ow 28 rfl)) Via.refl e5 F14 (g := (mkF m 23 #[.val (.ref gr), .val (.int kk)] [(.ref gr), (.ref b5), (.ref b5), (.int kk), (.ref tn), (.ref gr)])) rfl rfl (dx 15 rfl)
  have S17 := (H7_S.wr W2).ext E5
  have S18 := (H8_S.wr W2).ext E5
  have Zs19 : n0 ≤ h5.size := (Nat.le_trans (Nat.le_trans Z0 (Keep.of_wr W2).1) E5.1)
  obtain ⟨_, T16, Lc16, X16, hQ16, st16⟩ := own_rt X15 (own_specialRef X15 hx hZ (y := yn_7) rfl hown (ow 94 rfl) (ow 96 rfl) (mvT hZ (ow 95 rfl)) (mvT hZ (ow 96 rfl)) (by decide) (backOf (W := 4) (rm_ndI l Z a0 hw [] b5 gg em ae h5 n0 Zs19 A5 S17 S18 F6 F7 F8 F9 F10 F11 F12 F13 ge_b5) hZ (ow 96 rfl) (ow 93 rfl) (by decide) (by decide)) (g := (mkF m 26 #[.val (.ref gr), .val (.int kk)] [(.ref gg), (.ref b5), (.ref b5), (.int kk), (.ref tn), (.ref gr)])) rfl (by rw [hml]; rfl) (Steps.refl _) (a := b5) (argsL := [(.ref gg)]) (rest := [(.ref b5), (.int kk), (.ref tn), (.ref gr)]) (lenOf pd_4 rfl) rfl (Nat.le_of_eq rfl) (dx 16 rfl) (fun _ _ => ⟨rfl, e15, (by decide : 1 + 7 ≤ _), (by decide : 8 + 50 ≤ _)⟩))
  obtain ⟨x20, x21, x22, x23, x24, rfl, N16q, hq25, hpq26, hpq27, hpq28, hpq29, hpq30, hpq31, hpq32, hpq33, hpq34, hpq35, hpq36, hpq37, hpq38, hpq39, F40, F41, F42, F43, F44, F45, F46, E47, F48, F49, F50, F51, E52, F53, F54, E55, F56, E57, F58, E59, F60⟩ := hQ16
  have N16 := Fr.app N2 N16q
  have K16 : Keep h0 T16.heap [gr, cn, cu] := K5.trans hq25 (allS (Or.inr sz_b5) all0)
  have sz61 : h0.size ≤ x20 := Nat.le_trans K5.1 hpq27
  have sz62 : h0.size ≤ x21 := Nat.le_trans K5.1 hpq29
  have sz63 : h0.size ≤ x22 := Nat.le_trans K5.1 hpq31
  have sz64 : h0.size ≤ x23 := Nat.le_trans K5.1 hpq33
  have sz65 : h0.size ≤ x24 := Nat.le_trans K5.1 hpq35
  have ne67 : gr ≠ b5 := Nat.ne_of_lt (Nat.lt_of_lt_of_le F3.lt (Nat.le_of_eq g5.symm))
  have F66 := F14.keep hq25 (ninS ne67 nin0)
  obtain ⟨T68, X68, e68, st68⟩ := getF X16 hx hZ hown (host := "") (Or.inl (ow 28 rfl)) Via.refl rfl F66 (g := (mkF m 30 #[.val (.ref gr), .val (.int kk)] [(.ref gr), (.ref b5), (.int kk), (.ref tn), (.ref gr)])) rfl rfl (dx 18 rfl)
  have E70 := ((H9_E.wr W2).ext E5).keep hq25
  have ne72 : tn ≠ b5 := Nat.ne_of_lt (Nat.lt_of_lt_of_le (H9_E.wr W2).lt (Nat.le_of_eq g5.symm))
  have F71 := ((H10_F.other W2 (Or.inl (Ne.symm hn_gr_tn))).ext E5).keep hq25 (ninS ne72 nin0)
  have F73 := ((H11_F.other W2 (Or.inl (Ne.symm hn_gr_tn))).ext E5).keep hq25 (ninS ne72 nin0)
  have E74 := ((H12_E.wr W2).ext E5).keep hq25
  have ne76 : cn ≠ b5 := Nat.ne_of_lt (Nat.lt_of_lt_of_le (H12_E.wr W2).lt (Nat.le_of_eq g5.symm))
  have F75 := ((H13_F.other W2 (Or.inl (Ne.symm hn_gr_cn))).ext E5).keep hq25 (ninS ne76 nin0)
  have F77 := ((H14_F.other W2 (Or.inl (Ne.symm hn_gr_cn))).ext E5).keep hq25 (ninS ne76 nin0)
  have F78 := ((H15_F.other W2 (Or.inl (Ne.symm hn_gr_cn))).ext E5).keep hq25 (ninS ne76 nin0)
  have ne80 : an ≠ b5 := Nat.ne_of_lt (Nat.lt_of_lt_of_le (H16_A.other W2 (Ne.symm hn_gr_an)).lt (Nat.le_of_eq g5.symm))
  have A79 := ((H16_A.other W2 (Ne.symm hn_gr_an)).ext E5).keep hq25 (ninS ne80 nin0)
  have E81 := A5.keep hq25
  have L82 := ((H25_L.wr W2).ext E5).keep hq25
  have Zs83 : n0 ≤ T16.heap.size := (Nat.le_trans Zs19 hq25.1)
  obtain ⟨cq69, kq69, q69a, q69b, q69c⟩ := isOf hZ e68 E70
  obtain ⟨_, T69, Lc69, X69, hQ69, st69⟩ := own_rt X68 (X68.virtualBack hx (y := yn_17) (z := yn_17) hown (mvT hZ (ow 138 rfl)) (mvT hZ (ow 139 rfl)) (notFace_of_selects (args := #[]) (mvT hZ (ow 141 rfl))) (mvT hZ (ow 141 rfl)) (mvT hZ (ow 140 rfl)) (by decide) (backOf (W := 1) (rm_wP l Z a0 hw [] tn cn an kn gg mn nl vs kk b5 T16.heap n0 Zs83 E70 F71 F73 E74 F75 F77 F78 A79 ⟨(Ins.of_exa E81 (ow 184 rfl)), trivial⟩ L82 hg_cn hn_cn_an habn hpsn hlnn hl3n hn_tn_cn hk0 hk31) hZ (ow 142 rfl) (ow 11 rfl) (by decide) (by decide)) q69a q69c (g := (mkF m 33 #[.val (.ref gr), .val (.int kk)] [(.ref gg), (.ref b5), (.int kk), (.ref tn), (.ref gr)])) rfl (by rw [hml]; rfl) (Steps.refl _) (argsL := [(.int kk), (.ref b5), (.ref gg)]) (rest := [(.ref gr)]) (lenOf pd_13 rfl) rfl (Nat.le_of_eq rfl) (dx 19 rfl) (fun _ _ => ⟨rfl, e68, (by decide : 8 + 1 ≤ _), (by decide : 58 + 3 ≤ _)⟩))
  obtain ⟨x84, x85, rfl, N69q, hq86, hpq87, hpq88, F89, F90, F91, A92⟩ := hQ69
  have N69 := Fr.app N16 N69q
  have K69 : Keep h0 T69.heap [gr, cn, cu] := K16.trans hq86 (allS (Or.inl (own_mem (i := 1) rfl)) all0)
  have sz93 : h0.size ≤ x84 := Nat.le_trans K16.1 hpq88
  have F95 := ((F3.ext E5).keep hq25 (ninS ne67 nin0)).keep hq86 (ninS hn_gr_cn nin0)
  have E96 := (((H0_E.wr W2).ext E5).keep hq25).keep hq86
  obtain ⟨T94, h94, X94, e94, W94, st94⟩ := putF X69 hx hZ hown (host := "") (Or.inl (ow 15 rfl)) Via.refl rfl F95 E96 (Or.inl (ow 16 rfl)) (ow 1 rfl) (ty := (.object "org/tallyrole/core/IntTrie")) (by decide) rfl rfl (g := (mkF m 36 #[.val (.ref gr), .val (.int kk)] [(.ref tn), (.ref gr)])) rfl rfl (dx 20 rfl)
  have Fw94 : f_30 Z h94 gr (.ref tn) := F95.same W94
  have N94 := Fr.snoc X94 N69 hg_gr
  have K94 : Keep h0 h94 [gr, cn, cu] := K69.wr W94 (Or.inl (own_mem (i := 0) rfl))
  have E98 := E96.wr W94
  have F99 := ((((H2_F.other W2 (Or.inr (sn_52 hw).symm)).ext E5).keep hq25 (ninS ne67 nin0)).keep hq86 (ninS hn_gr_cn nin0)).other W94 (Or.inr (sn_41 hw))
  have F100 := ((((H3_F.other W2 (Or.inr (sn_58 hw).symm)).ext E5).keep hq25 (ninS ne67 nin0)).keep hq86 (ninS hn_gr_cn nin0)).other W94 (Or.inr (sn_42 hw))
  have F101 := ((((H4_F.other W2 (Or.inr (sn_63 hw).symm)).ext E5).keep hq25 (ninS ne67 nin0)).keep hq86 (ninS hn_gr_cn nin0)).other W94 (Or.inr (sn_43 hw))
  have F102 := (F66.keep hq86 (ninS hn_gr_cn nin0)).other W94 (Or.inr (sn_44 hw))
  have F103 := (((Fw2.ext E5).keep hq25 (ninS ne67 nin0)).keep hq86 (ninS hn_gr_cn nin0)).other W94 (Or.inr (sn_45 hw))
  have E104 := ((((H17_E.wr W2).ext E5).keep hq25).keep hq86).wr W94
  have ne106 : tu ≠ b5 := Nat.ne_of_lt (Nat.lt_of_lt_of_le (H17_E.wr W2).lt (Nat.le_of_eq g5.symm))
  have F105 := ((((H18_F.other W2 (Or.inl (Ne.symm hn_gr_tu))).ext E5).keep hq25 (ninS ne106 nin0)).keep hq86 (ninS (Ne.symm hn_cn_tu) nin0)).other W94 (Or.inl (Ne.symm hn_gr_tu))
  have F107 := ((((H19_F.other W2 (Or.inl (Ne.symm hn_gr_tu))).ext E5).keep hq25 (ninS ne106 nin0)).keep hq86 (ninS (Ne.symm hn_cn_tu) nin0)).other W94 (Or.inl (Ne.symm hn_gr_tu))
  have E108 := ((((H20_E.wr W2).ext E5).keep hq25).keep hq86).wr W94
  have ne110 : cu ≠ b5 := Nat.ne_of_lt (Nat.lt_of_lt_of_le (H20_E.wr W2).lt (Nat.le_of_eq g5.symm))
  have F109 := ((((H21_F.other W2 (Or.inl (Ne.symm hn_gr_cu))).ext E5).keep hq25 (ninS ne110 nin0)).keep hq86 (ninS (Ne.symm hn_cn_cu) nin0)).other W94 (Or.inl (Ne.symm hn_gr_cu))
  have F111 := ((((H22_F.other W2 (Or.inl (Ne.symm hn_gr_cu))).ext E5).keep hq25 (ninS ne110 nin0)).keep hq86 (ninS (Ne.symm hn_cn_cu) nin0)).other W94 (Or.inl (Ne.symm hn_gr_cu))
  have F112 := ((((H23_F.other W2 (Or.inl (Ne.symm hn_gr_cu))).ext E5).keep hq25 (ninS ne110 nin0)).keep hq86 (ninS (Ne.symm hn_cn_cu) nin0)).other W94 (Or.inl (Ne.symm hn_gr_cu))
  have ne114 : au ≠ b5 := Nat.ne_of_lt (Nat.lt_of_lt_of_le (H24_A.other W2 (Ne.symm hn_gr_au)).lt (Nat.le_of_eq g5.symm))
  have A113 := ((((H24_A.other W2 (Ne.symm hn_gr_au)).ext E5).keep hq25 (ninS ne114 nin0)).keep hq86 (ninS (Ne.symm hn_cn_au) nin0)).other W94 (Ne.symm hn_gr_au)
  have L115 := ((((H26_L.wr W2).ext E5).keep hq25).keep hq86).wr W94
  have E116 := ((((H27_E.wr W2).ext E5).keep hq25).keep hq86).wr W94
  have S117 := (own_sta_keep (own_sta_keep ((H28_S.wr W2).ext E5) hq25 (allS (own_ns_exa A5) all0)) hq86 (allS (own_ns_exa E74) all0)).wr W94
  have Zs118 : n0 ≤ h94.size := (Nat.le_trans (Nat.le_trans Zs83 hq86.1) (Keep.of_wr W94).1)
  obtain ⟨cq97, q97, q97'⟩ := E98.cell
  obtain ⟨_, T97, Lc97, X97, hQ97, st97⟩ := own_rt X94 (X94.privateBack hx (y := yn_22) hown (mvT hZ (ow 191 rfl)) (mvT hZ (ow 192 rfl)) (own_sel_priv (z := (⟨"org/tallyrole/core/Graph", "size", "()I"⟩ : MethodName)) (mvT hZ (ow 70 rfl)) rfl (mvP hZ (ow 193 rfl)) (mvT hZ (ow 192 rfl)) (by decide)) (Cond.privateMethod_at (mvP hZ (ow 193 rfl) (args := #[]))) (mvT hZ (ow 194 rfl)) (by decide) (backOf (W := 0) (rm_unG l Z a0 hw [] gr gg em bt tu cu au ku mu lu us tn (kk + (1 : Int32)) kk h94 n0 Zs118 E98 Fw94 F99 F100 F101 F102 F103 E104 F105 F107 E108 F109 F111 F112 A113 L115 E116 S117 hg_gr hg_cu hn_gr_tu hn_gr_cu hn_gr_au hn_tu_cu hn_tu_au hn_cu_au hk0 hk31 habu hpsu hlnu hl3u) hZ (ow 194 rfl) (ow 2 rfl) (by decide) (by decide)) (g := (mkF m 41 #[.val (.ref gr), .val (.int kk)] [(.int kk), (.ref gr)])) rfl (by rw [hml]; rfl) (Steps.refl _) (a := gr) (by rw [e94]; exact q97) q97' (argsL := [(.int kk)]) (rest := []) (lenOf pd_14 rfl) rfl (Nat.le_of_eq rfl) (dx 23 rfl) (fun _ _ => ⟨rfl, e94, (by decide : 9 + 1 ≤ _), (by decide : 61 + 3 ≤ _)⟩))
  obtain ⟨x119, x120, rfl, N97q, hq121, hpq122, hpq123, F124, F125, F126, F127, F128, F129, F130, F131, F132, A133⟩ := hQ97
  have N97 := Fr.app N94 N97q
  have K97 : Keep h0 T97.heap [gr, cn, cu] := K94.trans hq121 (allS (Or.inl (own_mem (i := 0) rfl)) (allS (Or.inl (own_mem (i := 2) rfl)) all0))
  have sz134 : h0.size ≤ x119 := Nat.le_trans K94.1 hpq123
  have pre135 := fun (t : State) (k : Steps p.tables e below (T97.setTop (mkF m 45 #[.val (.ref gr), .val (.int kk)] [(.int kk)])) t) => pre0 t (by
    refine XS.aloadN X0.here hx rfl (dx 0 rfl) rfl rfl ?_
    refine XS.dup X0.here hx rfl (dx 1 rfl) rfl rfl ?_
    refine st1 _ ?_
    refine XS.dupX1 X1.here hx rfl (dx 3 rfl) rfl rfl rfl ?_
    refine XS.iconst X1.here hx rfl (dx 4 rfl) ?_
    refine XS.iadd X1.here hx rfl (dx 5 rfl) rfl ?_
    refine st2 _ ?_
    refine XS.istoreN X2.here hx rfl (dx 7 rfl) rfl (l' := #[.val (.ref gr), .val (.int kk)]) rfl ?_
    refine XS.aloadN X2.here hx rfl (dx 8 rfl) rfl rfl ?_
    refine XS.aloadN X2.here hx rfl (dx 9 rfl) rfl rfl ?_
    refine st4 _ ?_
    refine XS.iloadN X4.here hx rfl (dx 11 rfl) rfl ?_
    refine st5 _ ?_
    refine XS.dup X5.here hx rfl (dx 13 rfl) rfl rfl ?_
    refine XS.aloadN X5.here hx rfl (dx 14 rfl) rfl rfl ?_
    refine st15 _ ?_
    refine st16.trans ?_
    refine XS.aloadN X16.here hx rfl (dx 17 rfl) rfl rfl ?_
    refine st68 _ ?_
    refine st69.trans ?_
    refine st94 _ ?_
    refine XS.aloadN X94.here hx rfl (dx 21 rfl) rfl rfl ?_
    refine XS.iloadN X94.here hx rfl (dx 22 rfl) rfl ?_
    refine st97.trans ?_
    refine XS.iloadN X97.here hx rfl (dx 24 rfl) rfl ?_
    exact k)
  have F136 := (F89.other W94 (Or.inl (Ne.symm hn_gr_cn))).keep hq121 (ninS (Ne.symm hn_gr_cn) (ninS hn_cn_cu nin0))
  have F137 := (F90.other W94 (Or.inl (Ne.symm hn_gr_cn))).keep hq121 (ninS (Ne.symm hn_gr_cn) (ninS hn_cn_cu nin0))
  have F138 := (F91.other W94 (Or.inl (Ne.symm hn_gr_cn))).keep hq121 (ninS (Ne.symm hn_gr_cn) (ninS hn_cn_cu nin0))
  have ne140 : gr ≠ x84 := Nat.ne_of_lt (Nat.lt_of_lt_of_le F66.lt hpq88)
  have ne141 : cu ≠ x84 := Nat.ne_of_lt (Nat.lt_of_lt_of_le (((H20_E.wr W2).ext E5).keep hq25).lt hpq88)
  have A139 := (A92.other W94 (Ne.symm ne140)).keep hq121 (ninS (Ne.symm ne140) (ninS (Ne.symm ne141) nin0))
  have E142 := ((E81.keep hq86).wr W94).keep hq121
  have F143 := ((F40.keep hq86 (ninS (Ne.symm ne76) nin0)).other W94 (Or.inl (Ne.symm ne67))).keep hq121 (ninS (Ne.symm ne67) (ninS (Ne.symm ne110) nin0))
  have F144 := ((F41.keep hq86 (ninS (Ne.symm ne76) nin0)).other W94 (Or.inl (Ne.symm ne67))).keep hq121 (ninS (Ne.symm ne67) (ninS (Ne.symm ne110) nin0))
  have F145 := ((F42.keep hq86 (ninS (Ne.symm ne76) nin0)).other W94 (Or.inl (Ne.symm ne67))).keep hq121 (ninS (Ne.symm ne67) (ninS (Ne.symm ne110) nin0))
  have F146 := ((F43.keep hq86 (ninS (Ne.symm ne76) nin0)).other W94 (Or.inl (Ne.symm ne67))).keep hq121 (ninS (Ne.symm ne67) (ninS (Ne.symm ne110) nin0))
  have F147 := ((F44.keep hq86 (ninS (Ne.symm ne76) nin0)).other W94 (Or.inl (Ne.symm ne67))).keep hq121 (ninS (Ne.symm ne67) (ninS (Ne.symm ne110) nin0))
  have F148 := ((F45.keep hq86 (ninS (Ne.symm ne76) nin0)).other W94 (Or.inl (Ne.symm ne67))).keep hq121 (ninS (Ne.symm ne67) (ninS (Ne.symm ne110) nin0))
  have F149 := ((F46.keep hq86 (ninS (Ne.symm ne76) nin0)).other W94 (Or.inl (Ne.symm ne67))).keep hq121 (ninS (Ne.symm ne67) (ninS (Ne.symm ne110) nin0))
  have E150 := ((E47.keep hq86).wr W94).keep hq121
  have ne152 : cn ≠ x20 := Nat.ne_of_lt (Nat.lt_of_lt_of_le ((H12_E.wr W2).ext E5).lt hpq27)
  have ne153 : gr ≠ x20 := Nat.ne_of_lt (Nat.lt_of_lt_of_le F14.lt hpq27)
  have ne154 : cu ≠ x20 := Nat.ne_of_lt (Nat.lt_of_lt_of_le ((H20_E.wr W2).ext E5).lt hpq27)
  have F151 := ((F48.keep hq86 (ninS (Ne.symm ne152) nin0)).other W94 (Or.inl (Ne.symm ne153))).keep hq121 (ninS (Ne.symm ne153) (ninS (Ne.symm ne154) nin0))
  have F155 := ((F49.keep hq86 (ninS (Ne.symm ne152) nin0)).other W94 (Or.inl (Ne.symm ne153))).keep hq121 (ninS (Ne.symm ne153) (ninS (Ne.symm ne154) nin0))
  have F156 := ((F50.keep hq86 (ninS (Ne.symm ne152) nin0)).other W94 (Or.inl (Ne.symm ne153))).keep hq121 (ninS (Ne.symm ne153) (ninS (Ne.symm ne154) nin0))
  have F157 := ((F51.keep hq86 (ninS (Ne.symm ne152) nin0)).other W94 (Or.inl (Ne.symm ne153))).keep hq121 (ninS (Ne.symm ne153) (ninS (Ne.symm ne154) nin0))
  have E158 := ((E52.keep hq86).wr W94).keep hq121
  have ne160 : cn ≠ x21 := Nat.ne_of_lt (Nat.lt_of_lt_of_le ((H12_E.wr W2).ext E5).lt hpq29)
  have ne161 : gr ≠ x21 := Nat.ne_of_lt (Nat.lt_of_lt_of_le F14.lt hpq29)
  have ne162 : cu ≠ x21 := Nat.ne_of_lt (Nat.lt_of_lt_of_le ((H20_E.wr W2).ext E5).lt hpq29)
  have F159 := ((F53.keep hq86 (ninS (Ne.symm ne160) nin0)).other W94 (Or.inl (Ne.symm ne161))).keep hq121 (ninS (Ne.symm ne161) (ninS (Ne.symm ne162) nin0))
  have F163 := ((F54.keep hq86 (ninS (Ne.symm ne160) nin0)).other W94 (Or.inl (Ne.symm ne161))).keep hq121 (ninS (Ne.symm ne161) (ninS (Ne.symm ne162) nin0))
  have E164 := ((E55.keep hq86).wr W94).keep hq121
  have ne166 : cn ≠ x22 := Nat.ne_of_lt (Nat.lt_of_lt_of_le ((H12_E.wr W2).ext E5).lt hpq31)
  have ne167 : gr ≠ x22 := Nat.ne_of_lt (Nat.lt_of_lt_of_le F14.lt hpq31)
  have ne168 : cu ≠ x22 := Nat.ne_of_lt (Nat.lt_of_lt_of_le ((H20_E.wr W2).ext E5).lt hpq31)
  have F165 := ((F56.keep hq86 (ninS (Ne.symm ne166) nin0)).other W94 (Or.inl (Ne.symm ne167))).keep hq121 (ninS (Ne.symm ne167) (ninS (Ne.symm ne168) nin0))
  have E169 := ((E57.keep hq86).wr W94).keep hq121
  have ne171 : cn ≠ x23 := Nat.ne_of_lt (Nat.lt_of_lt_of_le ((H12_E.wr W2).ext E5).lt hpq33)
  have ne172 : gr ≠ x23 := Nat.ne_of_lt (Nat.lt_of_lt_of_le F14.lt hpq33)
  have ne173 : cu ≠ x23 := Nat.ne_of_lt (Nat.lt_of_lt_of_le ((H20_E.wr W2).ext E5).lt hpq33)
  have F170 := ((F58.keep hq86 (ninS (Ne.symm ne171) nin0)).other W94 (Or.inl (Ne.symm ne172))).keep hq121 (ninS (Ne.symm ne172) (ninS (Ne.symm ne173) nin0))
  have E174 := ((E59.keep hq86).wr W94).keep hq121
  have ne176 : cn ≠ x24 := Nat.ne_of_lt (Nat.lt_of_lt_of_le ((H12_E.wr W2).ext E5).lt hpq35)
  have ne177 : gr ≠ x24 := Nat.ne_of_lt (Nat.lt_of_lt_of_le F14.lt hpq35)
  have ne178 : cu ≠ x24 := Nat.ne_of_lt (Nat.lt_of_lt_of_le ((H20_E.wr W2).ext E5).lt hpq35)
  have F175 := ((F60.keep hq86 (ninS (Ne.symm ne176) nin0)).other W94 (Or.inl (Ne.symm ne177))).keep hq121 (ninS (Ne.symm ne177) (ninS (Ne.symm ne178) nin0))
  have ne179 : b5 ≠ x84 := Nat.ne_of_lt (Nat.lt_of_lt_of_le E81.lt hpq88)
  have ne180 : b5 ≠ x119 := Nat.ne_of_lt (Nat.lt_of_lt_of_le ((E81.keep hq86).wr W94).lt hpq123)
  have ne181 : x84 ≠ x119 := Nat.ne_of_lt (Nat.lt_of_lt_of_le (A92.other W94 (Ne.symm ne140)).lt hpq123)
  have ne182 : b5 ≠ x20 := Nat.ne_of_lt (Nat.lt_of_lt_of_le A5.lt hpq27)
  have ne183 : x20 ≠ x84 := Nat.ne_of_lt (Nat.lt_of_lt_of_le E47.lt hpq88)
  have ne184 : x20 ≠ x119 := Nat.ne_of_lt (Nat.lt_of_lt_of_le ((E47.keep hq86).wr W94).lt hpq123)
  obtain ⟨fs, hr, hrun, hended, hW, hsame⟩ := X97.leave (v := some (.int kk)) (hlocks := BodyLoose.notSynchronized Bd) (fun h => by rw [Bd.returns] at h; cases h)
  refine ⟨_, _, pre135 _ ?_, hrun, hended, _, _, rfl, ?_, ⟨_, rfl⟩, hW, hsame.mono (by decide) (by decide)⟩
  · exact retI X97 hx Bd.returns (dx 25 rfl) hr
  · show Q_adG Z gr gg em ae bt no kno tn cn an kn mn nl vs tu cu au ku mu lu us kk h0 n0 _ T97.heap _
    exact ⟨b5, x20, x21, x22, x23, x24, x84, x85, x119, x120, rfl, N97, K97, ge_b5, sz_b5, hpq26, sz61, hpq28, sz62, hpq30, sz63, hpq32, sz64, hpq34, sz65, hpq87, sz93, hpq122, sz134, hpq36, hpq37, hpq38, hpq39, ne179, ne180, ne181, ne182, (Ne.symm ne183), (Ne.symm ne184), F124, F125, F126, F127, F128, F129, F136, F137, F138, A139, F130, F131, F132, A133, E142, F143, F144, F145, F146, F147, F148, F149, E150, F151, F155, F156, F157, E158, F159, F163, E164, F165, E169, F170, E174, F175⟩

def Q_rmG (Z : State) (ch : Addr) (ar : Addr) (ka : ClassId) (gg : Addr) (mm : Int32) (ln : Int32) (vs : List Value) (kk : Int32) (r : Addr) (ps : Int32) (pq : Nat) (h0 : Heap) (n0 : Nat) (v : Option Value) (h : Heap) (L : List Loc) : Prop := ∃ xx : Addr, ∃ kx : ClassId, v = some (.ref ch) ∧ Fr n0 L ∧ Keep h0 h [ch] ∧ n0 ≤ xx ∧ h0.size ≤ xx ∧ f_25 Z h ch (.int (mm &&& (((1 : Int32) <<< ((((kk.toUInt32 >>> ((0 : Int32) &&& 31).toUInt32).toInt32) &&& (31 : Int32)) &&& 31)) ^^^ (-1 : Int32)))) ∧ f_23 Z h ch (.ref xx) ∧ f_24 Z h ch (.ref gg) ∧ Arv Z h xx kx (.object "java/lang/Object") (ln - (1 : Int32)) (vs.eraseIdx pq) .null
set_option maxRecDepth 65536 in
set_option maxHeartbeats 40000000 in
theorem rm_rmG (l : Launch) (Z : State) (a0 : Array Value) (hw : own_HW a0 Z) (ws : List Jvm.Cond) (ch : Addr) (ar : Addr) (ka : ClassId) (gg : Addr) (mm : Int32) (ln : Int32) (vs : List Value) (kk : Int32) (r : Addr) (ps : Int32) (pq : Nat) (h0 : Heap) (n0 : Nat) (Z0 : n0 ≤ h0.size) (H0_E : e_26 Z h0 ch) (H1_F : f_25 Z h0 ch (.int mm)) (H2_F : f_23 Z h0 ch (.ref ar)) (H3_F : f_24 Z h0 ch (.ref gg)) (H4_A : Arv Z h0 ar ka (.object "java/lang/Object") ln vs .null) (H5_L : own_Ins Z h0 vs) (hg_ch : n0 ≤ ch) (hn_ch_ar : ch ≠ ar) (hp : ¬ ((mm &&& ((1 : Int32) <<< ((((kk.toUInt32 >>> ((0 : Int32) &&& 31).toUInt32).toInt32) &&& (31 : Int32)) &&& 31))) = (0 : Int32))) (hps : own_bc (mm &&& (((1 : Int32) <<< ((((kk.toUInt32 >>> ((0 : Int32) &&& 31).toUInt32).toInt32) &&& (31 : Int32)) &&& 31)) - (1 : Int32))) = ps) (hln : own_ln ln vs) (hpp : ps.toInt = (pq : Int)) (hpl : pq < vs.length) (hv : own_ref vs ln (own_bc (mm &&& (((1 : Int32) <<< ((((kk.toUInt32 >>> ((0 : Int32) &&& 31).toUInt32).toInt32) &&& (31 : Int32)) &&& 31)) - (1 : Int32)))) r) (h1k : ¬ (mm = ((1 : Int32) <<< ((((kk.toUInt32 >>> ((0 : Int32) &&& 31).toUInt32).toInt32) &&& (31 : Int32)) &&& 31)))) :
    own_M l yn_24 (Jvm.Cond.code yn_24 prog_45_method_12_code 8 (some (.object "org/tallyrole/core/IntTrie$Chunk")) :: ws) ({ frames := 2, cells := 1, slots := 3, locals := 36 } : Room) Z #[(.ref ch), (.int 0), (.int kk), (.ref gg)] h0 (Q_rmG Z ch ar ka gg mm ln vs kk r ps pq h0 n0) := by
  refine MetFree.of_bodySF (plainFor_of_name pn_6) hisR ?_
  intro p e s m args below meth c s₁ Bd hml0 hP hK
  have ow := @own_w a0 Z hw
  obtain ⟨rfl, hZ, hhp_⟩ := hP
  have hx := Bd.exec
  have hby := Bd.bytes
  have dx := @own_hd _ _ _ hby Dc34
  have hml : c.maxLocals = 8 := hml0
  have hown : s.vm.findClass "org/tallyrole/core/IntTrie" = some m.cls := findClass_of_methodNamed Bd.named
  have hnm := (name_of_methodNamed Bd.named Bd.method).1
  have X0 : Stand p l e ({ frames := 2, cells := 1, slots := 3, locals := 36 } : Room) s m _ below meth c s₁ [] 0 0 := Stand.of_body Bd
  have e0 : s₁.heap = h0 := by rw [← hhp_, Bd.state]; rfl
  have N0 := Fr.nil n0
  have pre0 : ∀ t, Steps p.tables e below (s₁.setTop (mkF m 0 #[.val (.ref ch), .val (.int 0), .val (.int kk), .val (.ref gg), .unset, .unset, .unset, .unset] [])) t → Steps p.tables e below (s₁.setTop (entryFrame m #[(.ref ch), (.int 0), (.int kk), (.ref gg)] 8)) t := fun t k => castTop rfl k
  have K0 : Keep h0 h0 [ch] := Keep.refl h0 [ch]
  obtain ⟨cq1, kq1, q1a, q1b, q1c⟩ := isOf hZ e0 H0_E
  obtain ⟨_, T1, Lc1, X1, hQ1, st1⟩ := own_rt X0 (X0.virtualBack hx (y := yn_11) (z := yn_11) hown (mvT hZ (ow 210 rfl)) (mvT hZ (ow 211 rfl)) (notFace_of_selects (args := #[]) (mvT hZ (ow 213 rfl))) (mvT hZ (ow 213 rfl)) (mvT hZ (ow 212 rfl)) (by decide) (backOf (W := 0) (rm_slG l Z a0 hw [] ch ar ka mm ln vs (((kk.toUInt32 >>> ((0 : Int32) &&& 31).toUInt32).toInt32) &&& (31 : Int32)) r h0 n0 Z0 H1_F H2_F H4_A hp hv) hZ (ow 214 rfl) (ow 154 rfl) (by decide) (by decide)) q1a q1c (g := (mkF m 11 #[.val (.ref ch), .val (.int 0), .val (.int kk), .val (.ref gg), .val (.int (((kk.toUInt32 >>> ((0 : Int32) &&& 31).toUInt32).toInt32) &&& (31 : Int32))), .unset, .unset, .unset] [(.int (((kk.toUInt32 >>> ((0 : Int32) &&& 31).toUInt32).toInt32) &&& (31 : Int32))), (.ref ch)])) rfl (by rw [hml]; rfl) (Steps.refl _) (argsL := [(.int (((kk.toUInt32 >>> ((0 : Int32) &&& 31).toUInt32).toInt32) &&& (31 : Int32)))]) (rest := []) (lenOf pd_3 rfl) rfl (Nat.le_of_eq rfl) (dx 8 rfl) (fun _ _ => ⟨rfl, e0, (by decide : 0 + 0 ≤ _), (by decide : 0 + 0 ≤ _)⟩))
  obtain ⟨rfl, N1q, hq2⟩ := hQ1
  have N1 := Fr.app N0 N1q
  obtain ⟨T3, X3, e3, st3⟩ := getF X1 hx hZ hown (host := "") (Or.inl (ow 277 rfl)) Via.refl hq2 H1_F (g := (mkF m 48 #[.val (.ref ch), .val (.int 0), .val (.int kk), .val (.ref gg), .val (.int (((kk.toUInt32 >>> ((0 : Int32) &&& 31).toUInt32).toInt32) &&& (31 : Int32))), .val (.ref r), .val .null, .val (.ref ch)] [(.ref ch)])) rfl rfl (dx 20 rfl)
  obtain ⟨cq4, kq4, q4a, q4b, q4c⟩ := isOf hZ e3 H0_E
  obtain ⟨_, T4, Lc4, X4, hQ4, st4⟩ := own_rt X3 (X3.virtualBack hx (y := yn_18) (z := yn_18) hown (mvT hZ (ow 215 rfl)) (mvT hZ (ow 216 rfl)) (notFace_of_selects (args := #[]) (mvT hZ (ow 218 rfl))) (mvT hZ (ow 218 rfl)) (mvT hZ (ow 217 rfl)) (by decide) (backOf (W := 0) (rm_obn l Z a0 hw [] ch gg h0 n0 Z0 H3_F) hZ (ow 219 rfl) (ow 154 rfl) (by decide) (by decide)) q4a q4c (g := (mkF m 73 #[.val (.ref ch), .val (.int 0), .val (.int kk), .val (.ref gg), .val (.int (((kk.toUInt32 >>> ((0 : Int32) &&& 31).toUInt32).toInt32) &&& (31 : Int32))), .val (.ref r), .val .null, .val (.ref ch)] [(.ref gg), (.ref ch)])) rfl (by rw [hml]; rfl) (Steps.refl _) (argsL := [(.ref gg)]) (rest := []) (lenOf pd_9 rfl) rfl (Nat.le_of_eq rfl) (dx 30 rfl) (fun _ _ => ⟨rfl, e3, (by decide : 0 + 0 ≤ _), (by decide : 0 + 0 ≤ _)⟩))
  obtain ⟨rfl, N4q, hq5⟩ := hQ4
  have N4 := Fr.app N1 N4q
  obtain ⟨cq6, kq6, q6a, q6b, q6c⟩ := isOf hZ hq5 H0_E
  obtain ⟨_, T6, Lc6, X6, hQ6, st6⟩ := own_rt X4 (X4.virtualBack hx (y := yn_10) (z := yn_10) hown (mvT hZ (ow 165 rfl)) (mvT hZ (ow 166 rfl)) (notFace_of_selects (args := #[]) (mvT hZ (ow 168 rfl))) (mvT hZ (ow 168 rfl)) (mvT hZ (ow 167 rfl)) (by decide) (backOf (W := 0) (rm_stR l Z a0 hw [] ch ar ka gg mm ln vs (((kk.toUInt32 >>> ((0 : Int32) &&& 31).toUInt32).toInt32) &&& (31 : Int32)) ps pq h0 n0 Z0 H0_E H1_F H2_F H3_F H4_A H5_L hg_ch hn_ch_ar hp hps hln hpp hpl) hZ (ow 169 rfl) (ow 154 rfl) (by decide) (by decide)) q6a q6c (g := (mkF m 80 #[.val (.ref ch), .val (.int 0), .val (.int kk), .val (.ref gg), .val (.int (((kk.toUInt32 >>> ((0 : Int32) &&& 31).toUInt32).toInt32) &&& (31 : Int32))), .val (.ref r), .val .null, .val (.ref ch)] [.null, (.int (((kk.toUInt32 >>> ((0 : Int32) &&& 31).toUInt32).toInt32) &&& (31 : Int32))), (.ref ch)])) rfl (by rw [hml]; rfl) (Steps.refl _) (argsL := [(.int (((kk.toUInt32 >>> ((0 : Int32) &&& 31).toUInt32).toInt32) &&& (31 : Int32))), .null]) (rest := []) (lenOf pd_5 rfl) rfl (Nat.le_of_eq rfl) (dx 33 rfl) (fun _ _ => ⟨rfl, hq5, (by decide : 0 + 1 ≤ _), (by decide : 0 + 3 ≤ _)⟩))
  obtain ⟨x7, x8, rfl, N6q, hq9, hpq10, hpq11, F12, F13, F14, A15⟩ := hQ6
  have N6 := Fr.app N4 N6q
  have K6 : Keep h0 T6.heap [ch] := K0.trans hq9 (allS (Or.inl (own_mem (i := 0) rfl)) all0)
  have sz16 : h0.size ≤ x7 := Nat.le_trans K0.1 hpq11
  have pre17 := fun (t : State) (k : Steps p.tables e below (T6.setTop (mkF m 87 #[.val (.ref ch), .val (.int 0), .val (.int kk), .val (.ref gg), .val (.int (((kk.toUInt32 >>> ((0 : Int32) &&& 31).toUInt32).toInt32) &&& (31 : Int32))), .val (.ref r), .val .null, .val (.ref ch)] [(.ref ch)])) t) => pre0 t (by
    refine XS.iloadN X0.here hx rfl (dx 0 rfl) rfl ?_
    refine XS.iloadN X0.here hx rfl (dx 1 rfl) rfl ?_
    refine XS.iushr X0.here hx rfl (dx 2 rfl) rfl ?_
    refine XS.bipush X0.here hx rfl (dx 3 rfl) ?_
    refine XS.iand X0.here hx rfl (dx 4 rfl) rfl ?_
    refine XS.istore X0.here hx rfl (dx 5 rfl) rfl (l' := #[.val (.ref ch), .val (.int 0), .val (.int kk), .val (.ref gg), .val (.int (((kk.toUInt32 >>> ((0 : Int32) &&& 31).toUInt32).toInt32) &&& (31 : Int32))), .unset, .unset, .unset]) rfl ?_
    refine XS.aloadN X0.here hx rfl (dx 6 rfl) rfl rfl ?_
    refine XS.iload X0.here hx rfl (dx 7 rfl) rfl ?_
    refine st1.trans ?_
    refine XS.astore X1.here hx rfl (dx 9 rfl) rfl rfl (l' := #[.val (.ref ch), .val (.int 0), .val (.int kk), .val (.ref gg), .val (.int (((kk.toUInt32 >>> ((0 : Int32) &&& 31).toUInt32).toInt32) &&& (31 : Int32))), .val (.ref r), .unset, .unset]) rfl ?_
    refine XS.iloadN X1.here hx rfl (dx 10 rfl) rfl ?_
    refine XS.ifNo X1.here hx rfl (dx 11 rfl) rfl ((if0 _ _).trans (teq (by decide : (0 : Int32) = (0 : Int32))).2) ?_
    refine XS.aconstNull X1.here hx rfl (dx 12 rfl) ?_
    refine XS.goto X1.here hx rfl (pc0 := 21) (pc' := 37) rfl (dx 13 rfl) (by decide) (by decide) ?_
    refine XS.astore X1.here hx rfl (dx 14 rfl) rfl rfl (l' := #[.val (.ref ch), .val (.int 0), .val (.int kk), .val (.ref gg), .val (.int (((kk.toUInt32 >>> ((0 : Int32) &&& 31).toUInt32).toInt32) &&& (31 : Int32))), .val (.ref r), .val .null, .unset]) rfl ?_
    refine XS.aloadN X1.here hx rfl (dx 15 rfl) rfl rfl ?_
    refine XS.astore X1.here hx rfl (dx 16 rfl) rfl rfl (l' := #[.val (.ref ch), .val (.int 0), .val (.int kk), .val (.ref gg), .val (.int (((kk.toUInt32 >>> ((0 : Int32) &&& 31).toUInt32).toInt32) &&& (31 : Int32))), .val (.ref r), .val .null, .val (.ref ch)]) rfl ?_
    refine XS.aload X1.here hx rfl (dx 17 rfl) rfl rfl ?_
    refine XS.ifnonnullNo X1.here hx rfl (dx 18 rfl) rfl ?_
    refine XS.aloadN X1.here hx rfl (dx 19 rfl) rfl rfl ?_
    refine st3 _ ?_
    refine XS.iconst X3.here hx rfl (dx 21 rfl) ?_
    refine XS.iload X3.here hx rfl (dx 22 rfl) rfl ?_
    refine XS.ishl X3.here hx rfl (dx 23 rfl) rfl ?_
    refine XS.icmpYes X3.here hx rfl (pc0 := 55) (pc' := 64) rfl (dx 24 rfl) rfl (feq h1k).2 (by decide) (by decide) ?_
    refine XS.aload X3.here hx rfl (dx 25 rfl) rfl rfl ?_
    refine XS.aload X3.here hx rfl (dx 26 rfl) rfl rfl ?_
    refine Jvm.RoadKit.acmp (g := (mkF m 68 #[.val (.ref ch), .val (.int 0), .val (.int kk), .val (.ref gg), .val (.int (((kk.toUInt32 >>> ((0 : Int32) &&& 31).toUInt32).toInt32) &&& (31 : Int32))), .val (.ref r), .val .null, .val (.ref ch)] [(.ref r), .null])) X3 hx rfl rfl rfl (pc0 := 68) (pc' := 71) (same := false) rfl (dx 27 rfl) rfl (decide_eq_false nofun) (by decide) (by decide) ?_
    refine XS.aloadN X3.here hx rfl (dx 28 rfl) rfl rfl ?_
    refine XS.aloadN X3.here hx rfl (dx 29 rfl) rfl rfl ?_
    refine st4.trans ?_
    refine XS.iload X4.here hx rfl (dx 31 rfl) rfl ?_
    refine XS.aload X4.here hx rfl (dx 32 rfl) rfl rfl ?_
    refine st6.trans ?_
    refine XS.astore X6.here hx rfl (dx 34 rfl) rfl rfl (l' := #[.val (.ref ch), .val (.int 0), .val (.int kk), .val (.ref gg), .val (.int (((kk.toUInt32 >>> ((0 : Int32) &&& 31).toUInt32).toInt32) &&& (31 : Int32))), .val (.ref r), .val .null, .val (.ref ch)]) rfl ?_
    refine XS.aload X6.here hx rfl (dx 35 rfl) rfl rfl ?_
    exact k)
  obtain ⟨fs, hr, hrun, hended, hW, hsame⟩ := X6.leave (v := some (.ref ch)) (hlocks := BodyLoose.notSynchronized Bd) (fun h => by rw [Bd.returns] at h; cases h)
  refine ⟨_, _, pre17 _ ?_, hrun, hended, _, _, rfl, ?_, ⟨_, rfl⟩, hW, hsame.mono (by decide) (by decide)⟩
  · jvm_step X6.here [X6.here.top, hx, (dx 36 rfl), X6.method', Bd.returns, Value.isRef, FieldType.isReference]
    first | (intro acts; rw [hr _ acts rfl rfl rfl]) | rw [hr _ _ rfl rfl rfl]
    exact Steps.refl _
  · show Q_rmG Z ch ar ka gg mm ln vs kk r ps pq h0 n0 _ T6.heap _
    exact ⟨x7, x8, rfl, N6, K6, hpq10, sz16, F12, F13, F14, A15⟩

def Q_woG (Z : State) (tt : Addr) (ch : Addr) (ar : Addr) (ka : ClassId) (gg : Addr) (mm : Int32) (ln : Int32) (vs : List Value) (kk : Int32) (r : Addr) (ps : Int32) (pq : Nat) (h0 : Heap) (n0 : Nat) (v : Option Value) (h : Heap) (L : List Loc) : Prop := ∃ xx : Addr, ∃ kx : ClassId, v = some (.ref tt) ∧ Fr n0 L ∧ Keep h0 h [ch] ∧ n0 ≤ xx ∧ h0.size ≤ xx ∧ f_25 Z h ch (.int (mm &&& (((1 : Int32) <<< ((((kk.toUInt32 >>> ((0 : Int32) &&& 31).toUInt32).toInt32) &&& (31 : Int32)) &&& 31)) ^^^ (-1 : Int32)))) ∧ f_23 Z h ch (.ref xx) ∧ f_24 Z h ch (.ref gg) ∧ Arv Z h xx kx (.object "java/lang/Object") (ln - (1 : Int32)) (vs.eraseIdx pq) .null
set_option maxRecDepth 65536 in
set_option maxHeartbeats 40000000 in
theorem rm_woG (l : Launch) (Z : State) (a0 : Array Value) (hw : own_HW a0 Z) (ws : List Jvm.Cond) (tt : Addr) (ch : Addr) (ar : Addr) (ka : ClassId) (gg : Addr) (mm : Int32) (ln : Int32) (vs : List Value) (kk : Int32) (r : Addr) (ps : Int32) (pq : Nat) (h0 : Heap) (n0 : Nat) (Z0 : n0 ≤ h0.size) (H0_E : e_29 Z h0 tt) (H1_F : f_27 Z h0 tt (.ref ch)) (H2_F : f_28 Z h0 tt (.int 0)) (H3_E : e_26 Z h0 ch) (H4_F : f_25 Z h0 ch (.int mm)) (H5_F : f_23 Z h0 ch (.ref ar)) (H6_F : f_24 Z h0 ch (.ref gg)) (H7_A : Arv Z h0 ar ka (.object "java/lang/Object") ln vs .null) (H8_L : own_Ins Z h0 vs) (hg_ch : n0 ≤ ch) (hn_ch_ar : ch ≠ ar) (hp : ¬ ((mm &&& ((1 : Int32) <<< ((((kk.toUInt32 >>> ((0 : Int32) &&& 31).toUInt32).toInt32) &&& (31 : Int32)) &&& 31))) = (0 : Int32))) (hps : own_bc (mm &&& (((1 : Int32) <<< ((((kk.toUInt32 >>> ((0 : Int32) &&& 31).toUInt32).toInt32) &&& (31 : Int32)) &&& 31)) - (1 : Int32))) = ps) (hln : own_ln ln vs) (hpp : ps.toInt = (pq : Int)) (hpl : pq < vs.length) (hv : own_ref vs ln (own_bc (mm &&& (((1 : Int32) <<< ((((kk.toUInt32 >>> ((0 : Int32) &&& 31).toUInt32).toInt32) &&& (31 : Int32)) &&& 31)) - (1 : Int32)))) r) (h1k : ¬ (mm = ((1 : Int32) <<< ((((kk.toUInt32 >>> ((0 : Int32) &&& 31).toUInt32).toInt32) &&& (31 : Int32)) &&& 31)))) (hn_tt_ch : tt ≠ ch) (hk0 : ¬ (kk < (0 : Int32))) (hk31 : ¬ ((31 : Int32) < ((kk.toUInt32 >>> ((0 : Int32) &&& 31).toUInt32).toInt32))) :
    own_M l yn_25 (Jvm.Cond.code yn_25 prog_45_method_7_code 5 (some (.object "org/tallyrole/core/IntTrie")) :: ws) ({ frames := 4, cells := 1, slots := 3, locals := 55 } : Room) Z #[(.ref tt), (.int kk), (.ref gg)] h0 (Q_woG Z tt ch ar ka gg mm ln vs kk r ps pq h0 n0) := by
  refine MetFree.of_bodySF (plainFor_of_name pn_6) hisR ?_
  intro p e s m args below meth c s₁ Bd hml0 hP hK
  have ow := @own_w a0 Z hw
  obtain ⟨rfl, hZ, hhp_⟩ := hP
  have hx := Bd.exec
  have hby := Bd.bytes
  have dx := @own_hd _ _ _ hby Dc33
  have hml : c.maxLocals = 5 := hml0
  have hown : s.vm.findClass "org/tallyrole/core/IntTrie" = some m.cls := findClass_of_methodNamed Bd.named
  have hnm := (name_of_methodNamed Bd.named Bd.method).1
  have X0 : Stand p l e ({ frames := 4, cells := 1, slots := 3, locals := 55 } : Room) s m _ below meth c s₁ [] 0 0 := Stand.of_body Bd
  have e0 : s₁.heap = h0 := by rw [← hhp_, Bd.state]; rfl
  have N0 := Fr.nil n0
  have pre0 : ∀ t, Steps p.tables e below (s₁.setTop (mkF m 0 #[.val (.ref tt), .val (.int kk), .val (.ref gg), .unset, .unset] [])) t → Steps p.tables e below (s₁.setTop (entryFrame m #[(.ref tt), (.int kk), (.ref gg)] 5)) t := fun t k => castTop rfl k
  have K0 : Keep h0 h0 [ch] := Keep.refl h0 [ch]
  obtain ⟨cq1, kq1, q1a, q1b, q1c⟩ := isOf hZ e0 H0_E
  obtain ⟨_, T1, Lc1, X1, hQ1, st1⟩ := own_rt X0 (X0.virtualBack hx (y := yn_13) (z := yn_13) hown (mvT hZ (ow 273 rfl)) (mvT hZ (ow 196 rfl)) (notFace_of_selects (args := #[]) (mvT hZ (ow 198 rfl))) (mvT hZ (ow 198 rfl)) (mvT hZ (ow 197 rfl)) (by decide) (backOf (W := 0) (rm_ckG l Z a0 hw [] tt ch ar ka mm ln vs kk r h0 n0 Z0 H0_E H1_F H2_F H3_E H4_F H5_F H7_A hk0 hk31 hp hv) hZ (ow 199 rfl) (ow 11 rfl) (by decide) (by decide)) q1a q1c (g := (mkF m 4 #[.val (.ref tt), .val (.int kk), .val (.ref gg), .val (.ref tt), .unset] [(.int kk), (.ref tt)])) rfl (by rw [hml]; rfl) (Steps.refl _) (argsL := [(.int kk)]) (rest := []) (lenOf pd_11 rfl) rfl (Nat.le_of_eq rfl) (dx 4 rfl) (fun _ _ => ⟨rfl, e0, (by decide : 0 + 0 ≤ _), (by decide : 0 + 0 ≤ _)⟩))
  obtain ⟨rfl, N1q, hq2⟩ := hQ1
  have N1 := Fr.app N0 N1q
  obtain ⟨T3, X3, e3, st3⟩ := getF X1 hx hZ hown (host := "") (Or.inl (ow 84 rfl)) Via.refl hq2 H1_F (g := (mkF m 11 #[.val (.ref tt), .val (.int kk), .val (.ref gg), .val (.ref tt), .unset] [(.ref tt)])) rfl rfl (dx 7 rfl)
  obtain ⟨T4, X4, e4, st4⟩ := getF X3 hx hZ hown (host := "") (Or.inl (ow 147 rfl)) Via.refl e3 H2_F (g := (mkF m 15 #[.val (.ref tt), .val (.int kk), .val (.ref gg), .val (.ref tt), .unset] [(.ref tt), (.ref ch)])) rfl rfl (dx 9 rfl)
  obtain ⟨_, T5, Lc5, X5, hQ5, st5⟩ := own_rtC X4 (Jvm.LawKit.callS X4 hx (y := yn_24) hown (mvT hZ (ow 274 rfl)) (mvT hZ (ow 275 rfl)) (mvT hZ (ow 11 rfl)) (mvT hZ (ow 276 rfl)) (by decide) (backOf (W := 0) (rm_rmG l Z a0 hw [] ch ar ka gg mm ln vs kk r ps pq h0 n0 Z0 H3_E H4_F H5_F H6_F H7_A H8_L hg_ch hn_ch_ar hp hps hln hpp hpl hv h1k) hZ (ow 276 rfl) (ow 11 rfl) (by decide) (by decide)) (g := (mkF m 20 #[.val (.ref tt), .val (.int kk), .val (.ref gg), .val (.ref tt), .unset] [(.ref gg), (.int kk), (.int 0), (.ref ch)])) rfl (by rw [hml]; rfl) (argsL := [(.ref ch), (.int 0), (.int kk), (.ref gg)]) (rest := []) (lenOf pd_15 rfl) rfl (Nat.le_of_eq rfl) (dx 12 rfl) (fun _ _ => ⟨rfl, e4, (by decide : 0 + 1 ≤ _), (by decide : 0 + 3 ≤ _)⟩))
  obtain ⟨x6, x7, rfl, N5q, hq8, hpq9, hpq10, F11, F12, F13, A14⟩ := hQ5
  have N5 := Fr.app N1 N5q
  have K5 : Keep h0 T5.heap [ch] := K0.trans hq8 (allS (Or.inl (own_mem (i := 0) rfl)) all0)
  have sz15 : h0.size ≤ x6 := Nat.le_trans K0.1 hpq10
  have F16 := H1_F.keep hq8 (ninS hn_tt_ch nin0)
  obtain ⟨T17, X17, e17, st17⟩ := getF X5 hx hZ hown (host := "") (Or.inl (ow 84 rfl)) Via.refl rfl F16 (g := (mkF m 40 #[.val (.ref tt), .val (.int kk), .val (.ref gg), .val (.ref tt), .val (.ref ch)] [(.ref tt), (.ref ch)])) rfl rfl (dx 18 rfl)
  have pre18 := fun (t : State) (k : Steps p.tables e below (T17.setTop (mkF m 61 #[.val (.ref tt), .val (.int kk), .val (.ref gg), .val (.ref tt), .val (.ref ch)] [(.ref tt)])) t) => pre0 t (by
    refine XS.aloadN X0.here hx rfl (dx 0 rfl) rfl rfl ?_
    refine XS.astoreN X0.here hx rfl (dx 1 rfl) rfl rfl (l' := #[.val (.ref tt), .val (.int kk), .val (.ref gg), .val (.ref tt), .unset]) rfl ?_
    refine XS.aloadN X0.here hx rfl (dx 2 rfl) rfl rfl ?_
    refine XS.iloadN X0.here hx rfl (dx 3 rfl) rfl ?_
    refine st1.trans ?_
    refine XS.ifNo X1.here hx rfl (dx 5 rfl) rfl ((if0 _ _).trans (feq (by decide : ¬ ((1 : Int32) = (0 : Int32)))).1) ?_
    refine XS.aloadN X1.here hx rfl (dx 6 rfl) rfl rfl ?_
    refine st3 _ ?_
    refine XS.aloadN X3.here hx rfl (dx 8 rfl) rfl rfl ?_
    refine st4 _ ?_
    refine XS.iloadN X4.here hx rfl (dx 10 rfl) rfl ?_
    refine XS.aloadN X4.here hx rfl (dx 11 rfl) rfl rfl ?_
    refine st5 _ ?_
    refine XS.astore X5.here hx rfl (dx 13 rfl) rfl rfl (l' := #[.val (.ref tt), .val (.int kk), .val (.ref gg), .val (.ref tt), .val (.ref ch)]) rfl ?_
    refine XS.aload X5.here hx rfl (dx 14 rfl) rfl rfl ?_
    refine XS.ifnonnullYes X5.here hx rfl (pc0 := 27) (pc' := 37) rfl (dx 15 rfl) rfl (by decide) (by decide) ?_
    refine XS.aload X5.here hx rfl (dx 16 rfl) rfl rfl ?_
    refine XS.aloadN X5.here hx rfl (dx 17 rfl) rfl rfl ?_
    refine st17 _ ?_
    refine Jvm.RoadKit.acmp (g := (mkF m 43 #[.val (.ref tt), .val (.int kk), .val (.ref gg), .val (.ref tt), .val (.ref ch)] [(.ref ch), (.ref ch)])) X17 hx rfl rfl rfl (pc0 := 43) (pc' := 60) (same := true) rfl (dx 19 rfl) rfl (decide_eq_true rfl) (by decide) (by decide) ?_
    refine XS.aloadN X17.here hx rfl (dx 20 rfl) rfl rfl ?_
    exact k)
  obtain ⟨fs, hr, hrun, hended, hW, hsame⟩ := X17.leave (v := some (.ref tt)) (hlocks := BodyLoose.notSynchronized Bd) (fun h => by rw [Bd.returns] at h; cases h)
  refine ⟨_, _, pre18 _ ?_, hrun, hended, _, _, rfl, ?_, ⟨_, rfl⟩, hW, hsame.mono (by decide) (by decide)⟩
  · jvm_step X17.here [X17.here.top, hx, (dx 21 rfl), X17.method', Bd.returns, Value.isRef, FieldType.isReference]
    first | (intro acts; rw [hr _ acts rfl rfl rfl]) | rw [hr _ _ rfl rfl rfl]
    exact Steps.refl _
  · show Q_woG Z tt ch ar ka gg mm ln vs kk r ps pq h0 n0 _ T17.heap _
    rw [e17]
    exact ⟨x6, x7, rfl, N5, K5, hpq9, sz15, F11, F12, F13, A14⟩

def Q_woE (Z : State) (tt : Addr) (id : Int32) (gg : Addr) (h0 : Heap) (n0 : Nat) (v : Option Value) (h : Heap) (L : List Loc) : Prop := v = some (.ref tt) ∧ Fr n0 L ∧ h = h0
set_option maxRecDepth 65536 in
set_option maxHeartbeats 40000000 in
theorem rm_woE (l : Launch) (Z : State) (a0 : Array Value) (hw : own_HW a0 Z) (ws : List Jvm.Cond) (tt : Addr) (id : Int32) (gg : Addr) (h0 : Heap) (n0 : Nat) (Z0 : n0 ≤ h0.size) (H0_E : e_29 Z h0 tt) (H1_F : f_27 Z h0 tt .null) (H2_F : f_28 Z h0 tt (.int 0)) :
    own_M l yn_25 (Jvm.Cond.code yn_25 prog_45_method_7_code 5 (some (.object "org/tallyrole/core/IntTrie")) :: ws) ({ frames := 2, cells := 0, slots := 0, locals := 28 } : Room) Z #[(.ref tt), (.int id), (.ref gg)] h0 (Q_woE Z tt id gg h0 n0) := by
  refine MetFree.of_bodySF (plainFor_of_name pn_6) hisR ?_
  intro p e s m args below meth c s₁ Bd hml0 hP hK
  have ow := @own_w a0 Z hw
  obtain ⟨rfl, hZ, hhp_⟩ := hP
  have hx := Bd.exec
  have hby := Bd.bytes
  have dx := @own_hd _ _ _ hby Dc33
  have hml : c.maxLocals = 5 := hml0
  have hown : s.vm.findClass "org/tallyrole/core/IntTrie" = some m.cls := findClass_of_methodNamed Bd.named
  have hnm := (name_of_methodNamed Bd.named Bd.method).1
  have X0 : Stand p l e ({ frames := 2, cells := 0, slots := 0, locals := 28 } : Room) s m _ below meth c s₁ [] 0 0 := Stand.of_body Bd
  have e0 : s₁.heap = h0 := by rw [← hhp_, Bd.state]; rfl
  have N0 := Fr.nil n0
  have pre0 : ∀ t, Steps p.tables e below (s₁.setTop (mkF m 0 #[.val (.ref tt), .val (.int id), .val (.ref gg), .unset, .unset] [])) t → Steps p.tables e below (s₁.setTop (entryFrame m #[(.ref tt), (.int id), (.ref gg)] 5)) t := fun t k => castTop rfl k
  obtain ⟨cq1, kq1, q1a, q1b, q1c⟩ := isOf hZ e0 H0_E
  obtain ⟨_, T1, Lc1, X1, hQ1, st1⟩ := own_rt X0 (X0.virtualBack hx (y := yn_13) (z := yn_13) hown (mvT hZ (ow 273 rfl)) (mvT hZ (ow 196 rfl)) (notFace_of_selects (args := #[]) (mvT hZ (ow 198 rfl))) (mvT hZ (ow 198 rfl)) (mvT hZ (ow 197 rfl)) (by decide) (backOf (W := 0) (rm_ckE l Z a0 hw [] tt id h0 n0 Z0 H0_E H1_F H2_F) hZ (ow 199 rfl) (ow 11 rfl) (by decide) (by decide)) q1a q1c (g := (mkF m 4 #[.val (.ref tt), .val (.int id), .val (.ref gg), .val (.ref tt), .unset] [(.int id), (.ref tt)])) rfl (by rw [hml]; rfl) (Steps.refl _) (argsL := [(.int id)]) (rest := []) (lenOf pd_11 rfl) rfl (Nat.le_of_eq rfl) (dx 4 rfl) (fun _ _ => ⟨rfl, e0, (by decide : 0 + 0 ≤ _), (by decide : 0 + 0 ≤ _)⟩))
  obtain ⟨rfl, N1q, hq2⟩ := hQ1
  have N1 := Fr.app N0 N1q
  have pre3 := fun (t : State) (k : Steps p.tables e below (T1.setTop (mkF m 61 #[.val (.ref tt), .val (.int id), .val (.ref gg), .val (.ref tt), .unset] [(.ref tt)])) t) => pre0 t (by
    refine XS.aloadN X0.here hx rfl (dx 0 rfl) rfl rfl ?_
    refine XS.astoreN X0.here hx rfl (dx 1 rfl) rfl rfl (l' := #[.val (.ref tt), .val (.int id), .val (.ref gg), .val (.ref tt), .unset]) rfl ?_
    refine XS.aloadN X0.here hx rfl (dx 2 rfl) rfl rfl ?_
    refine XS.iloadN X0.here hx rfl (dx 3 rfl) rfl ?_
    refine st1.trans ?_
    refine XS.ifYes X1.here hx rfl (pc0 := 7) (pc' := 60) rfl (dx 5 rfl) rfl ((if0 _ _).trans (teq (by decide : (0 : Int32) = (0 : Int32))).1) (by decide) (by decide) ?_
    refine XS.aloadN X1.here hx rfl (dx 20 rfl) rfl rfl ?_
    exact k)
  obtain ⟨fs, hr, hrun, hended, hW, hsame⟩ := X1.leave (v := some (.ref tt)) (hlocks := BodyLoose.notSynchronized Bd) (fun h => by rw [Bd.returns] at h; cases h)
  refine ⟨_, _, pre3 _ ?_, hrun, hended, _, _, rfl, ?_, ⟨_, rfl⟩, hW, hsame.mono (by decide) (by decide)⟩
  · jvm_step X1.here [X1.here.top, hx, (dx 21 rfl), X1.method', Bd.returns, Value.isRef, FieldType.isReference]
    first | (intro acts; rw [hr _ acts rfl rfl rfl]) | rw [hr _ _ rfl rfl rfl]
    exact Steps.refl _
  · show Q_woE Z tt id gg h0 n0 _ T1.heap _
    rw [hq2]
    exact ⟨rfl, N1, rfl⟩

def Q_dqE (Z : State) (dd : Addr) (h0 : Heap) (n0 : Nat) (v : Option Value) (h : Heap) (L : List Loc) : Prop := v = some (.int 1) ∧ Fr n0 L ∧ h = h0
set_option maxRecDepth 65536 in
set_option maxHeartbeats 40000000 in
theorem rm_dqE (l : Launch) (Z : State) (a0 : Array Value) (hw : own_HW a0 Z) (ws : List Jvm.Cond) (dd : Addr) (h0 : Heap) (n0 : Nat) (Z0 : n0 ≤ h0.size) (H0_F : f_1 Z h0 dd (.int 0)) (H1_F : f_2 Z h0 dd (.int 0)) :
    own_M l yn_26 (Jvm.Cond.code yn_26 jdk_21_method_38_code 1 (some .boolean) :: ws) ({ frames := 0, cells := 0, slots := 0, locals := 0 } : Room) Z #[(.ref dd)] h0 (Q_dqE Z dd h0 n0) := by
  refine MetFree.of_bodySF (plainFor_of_name pn_2) hisR ?_
  intro p e s m args below meth c s₁ Bd hml0 hP hK
  have ow := @own_w a0 Z hw
  obtain ⟨rfl, hZ, hhp_⟩ := hP
  have hx := Bd.exec
  have hby := Bd.bytes
  have dx := @own_hd _ _ _ hby Dc30
  have hml : c.maxLocals = 1 := hml0
  have hown : s.vm.findClass "java/util/ArrayDeque" = some m.cls := findClass_of_methodNamed Bd.named
  have hnm := (name_of_methodNamed Bd.named Bd.method).1
  have X0 : Stand p l e ({ frames := 0, cells := 0, slots := 0, locals := 0 } : Room) s m _ below meth c s₁ [] 0 0 := Stand.of_body Bd
  have e0 : s₁.heap = h0 := by rw [← hhp_, Bd.state]; rfl
  have N0 := Fr.nil n0
  have pre0 : ∀ t, Steps p.tables e below (s₁.setTop (mkF m 0 #[.val (.ref dd)] [])) t → Steps p.tables e below (s₁.setTop (entryFrame m #[(.ref dd)] 1)) t := fun t k => castTop rfl k
  obtain ⟨T1, X1, e1, st1⟩ := getF X0 hx hZ hown (host := "") (Or.inl (ow 253 rfl)) Via.refl e0 H0_F (g := (mkF m 1 #[.val (.ref dd)] [(.ref dd)])) rfl rfl (dx 1 rfl)
  obtain ⟨T2, X2, e2, st2⟩ := getF X1 hx hZ hown (host := "") (Or.inl (ow 255 rfl)) Via.refl e1 H1_F (g := (mkF m 5 #[.val (.ref dd)] [(.ref dd), (.int 0)])) rfl rfl (dx 3 rfl)
  have pre3 := fun (t : State) (k : Steps p.tables e below (T2.setTop (mkF m 16 #[.val (.ref dd)] [(.int 1)])) t) => pre0 t (by
    refine XS.aloadN X0.here hx rfl (dx 0 rfl) rfl rfl ?_
    refine st1 _ ?_
    refine XS.aloadN X1.here hx rfl (dx 2 rfl) rfl rfl ?_
    refine st2 _ ?_
    refine XS.icmpNo X2.here hx rfl (dx 4 rfl) rfl (teq (by decide : (0 : Int32) = (0 : Int32))).2 ?_
    refine XS.iconst X2.here hx rfl (dx 5 rfl) ?_
    refine XS.goto X2.here hx rfl (pc0 := 12) (pc' := 16) rfl (dx 6 rfl) (by decide) (by decide) ?_
    exact k)
  obtain ⟨fs, hr, hrun, hended, hW, hsame⟩ := X2.leave (v := some (.int 1)) (hlocks := BodyLoose.notSynchronized Bd) (fun h => by rw [Bd.returns] at h; cases h)
  refine ⟨_, _, pre3 _ ?_, hrun, hended, _, _, rfl, ?_, ⟨_, rfl⟩, hW, hsame.mono (by decide) (by decide)⟩
  · exact retN X2 hx (t := .boolean) Bd.returns (by simp) (dx 7 rfl) hr
  · show Q_dqE Z dd h0 n0 _ T2.heap _
    rw [e2]
    exact ⟨rfl, N0, rfl⟩

def Q_ceE (Z : State) (tt : Addr) (id : Int32) (h0 : Heap) (n0 : Nat) (v : Option Value) (h : Heap) (L : List Loc) : Prop := v = some (.int (-1)) ∧ Fr n0 L ∧ h = h0
set_option maxRecDepth 65536 in
set_option maxHeartbeats 40000000 in
theorem rm_ceE (l : Launch) (Z : State) (a0 : Array Value) (hw : own_HW a0 Z) (ws : List Jvm.Cond) (tt : Addr) (id : Int32) (h0 : Heap) (n0 : Nat) (Z0 : n0 ≤ h0.size) (H0_F : f_27 Z h0 tt .null) :
    own_M l yn_27 (Jvm.Cond.code yn_27 prog_45_method_8_code 3 (some .int) :: ws) ({ frames := 0, cells := 0, slots := 0, locals := 0 } : Room) Z #[(.ref tt), (.int id)] h0 (Q_ceE Z tt id h0 n0) := by
  refine MetFree.of_bodySF (plainFor_of_name pn_6) hisR ?_
  intro p e s m args below meth c s₁ Bd hml0 hP hK
  have ow := @own_w a0 Z hw
  obtain ⟨rfl, hZ, hhp_⟩ := hP
  have hx := Bd.exec
  have hby := Bd.bytes
  have dx := @own_hd _ _ _ hby Dc32
  have hml : c.maxLocals = 3 := hml0
  have hown : s.vm.findClass "org/tallyrole/core/IntTrie" = some m.cls := findClass_of_methodNamed Bd.named
  have hnm := (name_of_methodNamed Bd.named Bd.method).1
  have X0 : Stand p l e ({ frames := 0, cells := 0, slots := 0, locals := 0 } : Room) s m _ below meth c s₁ [] 0 0 := Stand.of_body Bd
  have e0 : s₁.heap = h0 := by rw [← hhp_, Bd.state]; rfl
  have N0 := Fr.nil n0
  have pre0 : ∀ t, Steps p.tables e below (s₁.setTop (mkF m 0 #[.val (.ref tt), .val (.int id), .unset] [])) t → Steps p.tables e below (s₁.setTop (entryFrame m #[(.ref tt), (.int id)] 3)) t := fun t k => castTop rfl k
  obtain ⟨T1, X1, e1, st1⟩ := getF X0 hx hZ hown (host := "") (Or.inl (ow 84 rfl)) Via.refl e0 H0_F (g := (mkF m 3 #[.val (.ref tt), .val (.int id), .val (.int (-1))] [(.ref tt)])) rfl rfl (dx 3 rfl)
  have pre2 := fun (t : State) (k : Steps p.tables e below (T1.setTop (mkF m 39 #[.val (.ref tt), .val (.int id), .val (.int (-1))] [(.int (-1))])) t) => pre0 t (by
    refine XS.iconst X0.here hx rfl (dx 0 rfl) ?_
    refine XS.istoreN X0.here hx rfl (dx 1 rfl) rfl (l' := #[.val (.ref tt), .val (.int id), .val (.int (-1))]) rfl ?_
    refine XS.aloadN X0.here hx rfl (dx 2 rfl) rfl rfl ?_
    refine st1 _ ?_
    refine XS.ifnullYes X1.here hx rfl (pc0 := 6) (pc' := 38) rfl (dx 4 rfl) rfl (by decide) (by decide) ?_
    refine XS.iloadN X1.here hx rfl (dx 5 rfl) rfl ?_
    exact k)
  obtain ⟨fs, hr, hrun, hended, hW, hsame⟩ := X1.leave (v := some (.int (-1))) (hlocks := BodyLoose.notSynchronized Bd) (fun h => by rw [Bd.returns] at h; cases h)
  refine ⟨_, _, pre2 _ ?_, hrun, hended, _, _, rfl, ?_, ⟨_, rfl⟩, hW, hsame.mono (by decide) (by decide)⟩
  · exact retI X1 hx Bd.returns (dx 6 rfl) hr
  · show Q_ceE Z tt id h0 n0 _ T1.heap _
    rw [e1]
    exact ⟨rfl, N0, rfl⟩

def Q_asI (Z : State) (dd : Addr) (h0 : Heap) (n0 : Nat) (v : Option Value) (h : Heap) (L : List Loc) : Prop := v = none ∧ Fr n0 L ∧ h = h0
set_option maxRecDepth 65536 in
set_option maxHeartbeats 40000000 in
theorem rm_asI (l : Launch) (Z : State) (a0 : Array Value) (hw : own_HW a0 Z) (ws : List Jvm.Cond) (dd : Addr) (h0 : Heap) (n0 : Nat) (Z0 : n0 ≤ h0.size) :
    own_M l yn_28 (Jvm.Cond.code yn_28 jdk_91_method_1_code 1 none :: ws) ({ frames := 2, cells := 0, slots := 0, locals := 24 } : Room) Z #[(.ref dd)] h0 (Q_asI Z dd h0 n0) := by
  refine MetFree.of_bodySF (plainFor_of_name pn_13) hisR ?_
  intro p e s m args below meth c s₁ Bd hml0 hP hK
  have ow := @own_w a0 Z hw
  obtain ⟨rfl, hZ, hhp_⟩ := hP
  have hx := Bd.exec
  have hby := Bd.bytes
  have dx := @own_hd _ _ _ hby Dc37
  have hml : c.maxLocals = 1 := hml0
  have hown : s.vm.findClass "java/util/AbstractSet" = some m.cls := findClass_of_methodNamed Bd.named
  have hnm := (name_of_methodNamed Bd.named Bd.method).1
  have X0 : Stand p l e ({ frames := 2, cells := 0, slots := 0, locals := 24 } : Room) s m _ below meth c s₁ [] 0 0 := Stand.of_body Bd
  have e0 : s₁.heap = h0 := by rw [← hhp_, Bd.state]; rfl
  have N0 := Fr.nil n0
  have pre0 : ∀ t, Steps p.tables e below (s₁.setTop (mkF m 0 #[.val (.ref dd)] [])) t → Steps p.tables e below (s₁.setTop (entryFrame m #[(.ref dd)] 1)) t := fun t k => castTop rfl k
  obtain ⟨_, T1, Lc1, X1, hQ1, st1⟩ := own_rt X0 (X0.specialBack hx (y := yn_0) rfl hown (mvT hZ (ow 305 rfl)) (mvT hZ (ow 37 rfl)) (mvT hZ (ow 41 rfl)) (by decide) (backOf (W := 0) (rm_acI l Z a0 hw [] dd h0 n0 Z0 ) hZ (ow 41 rfl) (ow 40 rfl) (by decide) (by decide)) (g := (mkF m 1 #[.val (.ref dd)] [(.ref dd)])) rfl (by rw [hml]; rfl) (Steps.refl _) (a := dd) (argsL := []) (rest := []) (lenOf pd_0 rfl) rfl (Nat.le_of_eq rfl) (dx 1 rfl) (fun _ _ => ⟨rfl, e0, (by decide : 0 + 0 ≤ _), (by decide : 0 + 0 ≤ _)⟩))
  obtain ⟨rfl, N1q, hq2⟩ := hQ1
  have N1 := Fr.app N0 N1q
  have pre3 := fun (t : State) (k : Steps p.tables e below (T1.setTop (mkF m 4 #[.val (.ref dd)] [])) t) => pre0 t (by
    refine XS.aloadN X0.here hx rfl (dx 0 rfl) rfl rfl ?_
    refine st1.trans ?_
    exact k)
  obtain ⟨fs, hr, hrun, hended, hW, hsame⟩ := X1.leave (v := none) (hlocks := BodyLoose.notSynchronized Bd) (fun _ => rfl)
  refine ⟨_, _, pre3 _ ?_, hrun, hended, _, _, rfl, ?_, ⟨_, rfl⟩, hW, hsame.mono (by decide) (by decide)⟩
  · exact X1.returnOut hx Bd.returns (dx 2 rfl) hr
  · show Q_asI Z dd h0 n0 _ T1.heap _
    rw [hq2]
    exact ⟨rfl, N1, rfl⟩

def Q_esI (Z : State) (dd : Addr) (lb : Addr) (h0 : Heap) (n0 : Nat) (v : Option Value) (h : Heap) (L : List Loc) : Prop := v = none ∧ Fr n0 L ∧ Keep h0 h [dd] ∧ f_41 Z h dd (.ref lb)
set_option maxRecDepth 65536 in
set_option maxHeartbeats 40000000 in
theorem rm_esI (l : Launch) (Z : State) (a0 : Array Value) (hw : own_HW a0 Z) (ws : List Jvm.Cond) (dd : Addr) (lb : Addr) (h0 : Heap) (n0 : Nat) (Z0 : n0 ≤ h0.size) (H0_E : e_42 Z h0 dd) (H1_F : f_41 Z h0 dd .null) (hg_dd : n0 ≤ dd) :
    own_M l yn_29 (Jvm.Cond.code yn_29 jdk_111_method_1_code 2 none :: ws) ({ frames := 3, cells := 0, slots := 0, locals := 36 } : Room) Z #[(.ref dd), (.ref lb)] h0 (Q_esI Z dd lb h0 n0) := by
  refine MetFree.of_bodySF (plainFor_of_name pn_14) hisR ?_
  intro p e s m args below meth c s₁ Bd hml0 hP hK
  have ow := @own_w a0 Z hw
  obtain ⟨rfl, hZ, hhp_⟩ := hP
  have hx := Bd.exec
  have hby := Bd.bytes
  have dx := @own_hd _ _ _ hby Dc36
  have hml : c.maxLocals = 2 := hml0
  have hown : s.vm.findClass "java/util/HashMap$EntrySet" = some m.cls := findClass_of_methodNamed Bd.named
  have hnm := (name_of_methodNamed Bd.named Bd.method).1
  have X0 : Stand p l e ({ frames := 3, cells := 0, slots := 0, locals := 36 } : Room) s m _ below meth c s₁ [] 0 0 := Stand.of_body Bd
  have e0 : s₁.heap = h0 := by rw [← hhp_, Bd.state]; rfl
  have N0 := Fr.nil n0
  have pre0 : ∀ t, Steps p.tables e below (s₁.setTop (mkF m 0 #[.val (.ref dd), .val (.ref lb)] [])) t → Steps p.tables e below (s₁.setTop (entryFrame m #[(.ref dd), (.ref lb)] 2)) t := fun t k => castTop rfl k
  have K0 : Keep h0 h0 [dd] := Keep.refl h0 [dd]
  obtain ⟨T1, h1, X1, e1, W1, st1⟩ := putF X0 hx hZ hown (host := "") (Or.inl (ow 297 rfl)) Via.refl e0 H1_F H0_E (Or.inr ⟨(ow 298 rfl), rfl, hnm⟩) (ow 291 rfl) (ty := (.object "java/util/HashMap")) (by decide) rfl rfl (g := (mkF m 2 #[.val (.ref dd), .val (.ref lb)] [(.ref lb), (.ref dd)])) rfl rfl (dx 2 rfl)
  have Fw1 : f_41 Z h1 dd (.ref lb) := H1_F.same W1
  have N1 := Fr.snoc X1 N0 hg_dd
  have K1 : Keep h0 h1 [dd] := K0.wr W1 (Or.inl (own_mem (i := 0) rfl))
  have Zs3 : n0 ≤ h1.size := (Nat.le_trans Z0 (Keep.of_wr W1).1)
  obtain ⟨_, T2, Lc2, X2, hQ2, st2⟩ := own_rt X1 (X1.specialBack hx (y := yn_28) rfl hown (mvT hZ (ow 299 rfl)) (mvT hZ (ow 300 rfl)) (mvT hZ (ow 304 rfl)) (by decide) (backOf (W := 0) (rm_asI l Z a0 hw [] dd h1 n0 Zs3 ) hZ (ow 304 rfl) (ow 303 rfl) (by decide) (by decide)) (g := (mkF m 6 #[.val (.ref dd), .val (.ref lb)] [(.ref dd)])) rfl (by rw [hml]; rfl) (Steps.refl _) (a := dd) (argsL := []) (rest := []) (lenOf pd_0 rfl) rfl (Nat.le_of_eq rfl) (dx 4 rfl) (fun _ _ => ⟨rfl, e1, (by decide : 0 + 0 ≤ _), (by decide : 0 + 0 ≤ _)⟩))
  obtain ⟨rfl, N2q, hq4⟩ := hQ2
  have N2 := Fr.app N1 N2q
  have pre5 := fun (t : State) (k : Steps p.tables e below (T2.setTop (mkF m 9 #[.val (.ref dd), .val (.ref lb)] [])) t) => pre0 t (by
    refine XS.aloadN X0.here hx rfl (dx 0 rfl) rfl rfl ?_
    refine XS.aloadN X0.here hx rfl (dx 1 rfl) rfl rfl ?_
    refine st1 _ ?_
    refine XS.aloadN X1.here hx rfl (dx 3 rfl) rfl rfl ?_
    refine st2.trans ?_
    exact k)
  obtain ⟨fs, hr, hrun, hended, hW, hsame⟩ := X2.leave (v := none) (hlocks := BodyLoose.notSynchronized Bd) (fun _ => rfl)
  refine ⟨_, _, pre5 _ ?_, hrun, hended, _, _, rfl, ?_, ⟨_, rfl⟩, hW, hsame.mono (by decide) (by decide)⟩
  · exact X2.returnOut hx Bd.returns (dx 5 rfl) hr
  · show Q_esI Z dd lb h0 n0 _ T2.heap _
    rw [hq4]
    exact ⟨rfl, N2, K1, Fw1⟩

def Q_mes (Z : State) (lb : Addr) (h0 : Heap) (n0 : Nat) (v : Option Value) (h : Heap) (L : List Loc) : Prop := ∃ es : Addr, v = some (.ref es) ∧ Fr n0 L ∧ Keep h0 h [lb] ∧ n0 ≤ es ∧ h0.size ≤ es ∧ e_42 Z h es ∧ f_41 Z h es (.ref lb) ∧ f_5 Z h lb .null ∧ f_7 Z h lb (.int 0)
set_option maxRecDepth 65536 in
set_option maxHeartbeats 40000000 in
theorem rm_mes (l : Launch) (Z : State) (a0 : Array Value) (hw : own_HW a0 Z) (ws : List Jvm.Cond) (lb : Addr) (h0 : Heap) (n0 : Nat) (Z0 : n0 ≤ h0.size) (H0_E : e_9 Z h0 lb) (H1_F : f_5 Z h0 lb .null) (H2_F : f_6 Z h0 lb (.int 0)) (H3_F : f_7 Z h0 lb (.int 0)) (H4_F : f_8 Z h0 lb .null) (hg_lb : n0 ≤ lb) :
    own_M l yn_30 (Jvm.Cond.code yn_30 jdk_69_method_29_code 2 (some (.object "java/util/Set")) :: ws) ({ frames := 4, cells := 1, slots := 1, locals := 51 } : Room) Z #[(.ref lb)] h0 (Q_mes Z lb h0 n0) := by
  refine MetFree.of_bodySF (plainFor_of_name pn_3) hisR ?_
  intro p e s m args below meth c s₁ Bd hml0 hP hK
  have ow := @own_w a0 Z hw
  obtain ⟨rfl, hZ, hhp_⟩ := hP
  have hx := Bd.exec
  have hby := Bd.bytes
  have dx := @own_hd _ _ _ hby Dc35
  have hml : c.maxLocals = 2 := hml0
  have hown : s.vm.findClass "java/util/HashMap" = some m.cls := findClass_of_methodNamed Bd.named
  have hnm := (name_of_methodNamed Bd.named Bd.method).1
  have X0 : Stand p l e ({ frames := 4, cells := 1, slots := 1, locals := 51 } : Room) s m _ below meth c s₁ [] 0 0 := Stand.of_body Bd
  have e0 : s₁.heap = h0 := by rw [← hhp_, Bd.state]; rfl
  have N0 := Fr.nil n0
  have pre0 : ∀ t, Steps p.tables e below (s₁.setTop (mkF m 0 #[.val (.ref lb), .unset] [])) t → Steps p.tables e below (s₁.setTop (entryFrame m #[(.ref lb)] 2)) t := fun t k => castTop rfl k
  have K0 : Keep h0 h0 [lb] := Keep.refl h0 [lb]
  obtain ⟨T1, X1, e1, st1⟩ := getF X0 hx hZ hown (host := "") (Or.inl (ow 288 rfl)) Via.refl e0 H4_F (g := (mkF m 1 #[.val (.ref lb), .unset] [(.ref lb)])) rfl rfl (dx 1 rfl)
  obtain ⟨T2, h2, X2, e2, E2, A2, D2, -, st2⟩ := newO X1 hx hZ hown (ow 290 rfl) (ow 291 rfl) (ow 292 rfl) e1 (g := (mkF m 10 #[.val (.ref lb), .val .null] [(.ref lb)])) rfl (dx 6 rfl) (by decide) (by decide)
  obtain ⟨b2, g2⟩ : ∃ z, z = h0.size := ⟨_, rfl⟩
  have ge_b2 : n0 ≤ b2 := Nat.le_trans Z0 (Nat.le_of_eq g2.symm)
  have sz_b2 : h0.size ≤ b2 := Nat.le_trans K0.1 (Nat.le_of_eq g2.symm)
  rw [← g2] at A2 D2 st2
  have K2 : Keep h0 h2 [lb] := K0.ext E2
  have F3 : f_41 Z h2 b2 .null := D2 (Or.inr (ow 298 rfl)) (ty := (.object "java/util/HashMap")) (by decide)
  have Zs5 : n0 ≤ h2.size := (Nat.le_trans Z0 E2.1)
  obtain ⟨_, T4, Lc4, X4, hQ4, st4⟩ := own_rt X2 (X2.specialBack hx (y := yn_29) rfl hown (mvT hZ (ow 293 rfl)) (mvT hZ (ow 294 rfl)) (mvT hZ (ow 296 rfl)) (by decide) (backOf (W := 2) (rm_esI l Z a0 hw [] b2 lb h2 n0 Zs5 A2 F3 ge_b2) hZ (ow 296 rfl) (ow 292 rfl) (by decide) (by decide)) (g := (mkF m 15 #[.val (.ref lb), .val .null] [(.ref lb), (.ref b2), (.ref b2), (.ref lb)])) rfl (by rw [hml]; rfl) (Steps.refl _) (a := b2) (argsL := [(.ref lb)]) (rest := [(.ref b2), (.ref lb)]) (lenOf pd_16 rfl) rfl (Nat.le_of_eq rfl) (dx 9 rfl) (fun _ _ => ⟨rfl, e2, (by decide : 1 + 0 ≤ _), (by decide : 1 + 0 ≤ _)⟩))
  obtain ⟨rfl, N4q, hq6, F7⟩ := hQ4
  have N4 := Fr.app N0 N4q
  have K4 : Keep h0 T4.heap [lb] := K2.trans hq6 (allS (Or.inr sz_b2) all0)
  have ne10 : lb ≠ b2 := Nat.ne_of_lt (Nat.lt_of_lt_of_le H0_E.lt (Nat.le_of_eq g2.symm))
  have F9 := (H4_F.ext E2).keep hq6 (ninS ne10 nin0)
  have E11 := (H0_E.ext E2).keep hq6
  obtain ⟨T8, h8, X8, e8, W8, st8⟩ := putF X4 hx hZ hown (host := "") (Or.inl (ow 288 rfl)) Via.refl rfl F9 E11 (Or.inl (ow 289 rfl)) (ow 50 rfl) (ty := (.object "java/util/Set")) (by decide) rfl rfl (g := (mkF m 19 #[.val (.ref lb), .val .null] [(.ref b2), (.ref lb), (.ref b2)])) rfl rfl (dx 11 rfl)
  have Fw8 : f_8 Z h8 lb (.ref b2) := F9.same W8
  have N8 := Fr.snoc X8 N4 hg_lb
  have K8 : Keep h0 h8 [lb] := K4.wr W8 (Or.inl (own_mem (i := 0) rfl))
  have pre12 := fun (t : State) (k : Steps p.tables e below (T8.setTop (mkF m 26 #[.val (.ref lb), .val .null] [(.ref b2)])) t) => pre0 t (by
    refine XS.aloadN X0.here hx rfl (dx 0 rfl) rfl rfl ?_
    refine st1 _ ?_
    refine XS.dup X1.here hx rfl (dx 2 rfl) rfl rfl ?_
    refine XS.astoreN X1.here hx rfl (dx 3 rfl) rfl rfl (l' := #[.val (.ref lb), .val .null]) rfl ?_
    refine XS.ifnonnullNo X1.here hx rfl (dx 4 rfl) rfl ?_
    refine XS.aloadN X1.here hx rfl (dx 5 rfl) rfl rfl ?_
    refine st2 _ ?_
    refine XS.dup X2.here hx rfl (dx 7 rfl) rfl rfl ?_
    refine XS.aloadN X2.here hx rfl (dx 8 rfl) rfl rfl ?_
    refine st4.trans ?_
    refine XS.dupX1 X4.here hx rfl (dx 10 rfl) rfl rfl rfl ?_
    refine st8 _ ?_
    refine XS.goto X8.here hx rfl (pc0 := 22) (pc' := 26) rfl (dx 12 rfl) (by decide) (by decide) ?_
    exact k)
  have E13 := (A2.keep hq6).wr W8
  have F14 := F7.other W8 (Or.inl (Ne.symm ne10))
  have F15 := ((H1_F.ext E2).keep hq6 (ninS ne10 nin0)).other W8 (Or.inr (sn_77 hw))
  have F16 := ((H3_F.ext E2).keep hq6 (ninS ne10 nin0)).other W8 (Or.inr (sn_79 hw))
  obtain ⟨fs, hr, hrun, hended, hW, hsame⟩ := X8.leave (v := some (.ref b2)) (hlocks := BodyLoose.notSynchronized Bd) (fun h => by rw [Bd.returns] at h; cases h)
  refine ⟨_, _, pre12 _ ?_, hrun, hended, _, _, rfl, ?_, ⟨_, rfl⟩, hW, hsame.mono (by decide) (by decide)⟩
  · jvm_step X8.here [X8.here.top, hx, (dx 13 rfl), X8.method', Bd.returns, Value.isRef, FieldType.isReference]
    first | (intro acts; rw [hr _ acts rfl rfl rfl]) | rw [hr _ _ rfl rfl rfl]
    exact Steps.refl _
  · show Q_mes Z lb h0 n0 _ T8.heap _
    rw [e8]
    exact ⟨b2, rfl, N8, K8, ge_b2, sz_b2, E13, F14, F15, F16⟩

def Q_hiI (Z : State) (dd : Addr) (lb : Addr) (h0 : Heap) (n0 : Nat) (v : Option Value) (h : Heap) (L : List Loc) : Prop := v = none ∧ Fr n0 L ∧ Keep h0 h [dd] ∧ f_45 Z h dd .null
set_option maxRecDepth 65536 in
set_option maxHeartbeats 40000000 in
theorem rm_hiI (l : Launch) (Z : State) (a0 : Array Value) (hw : own_HW a0 Z) (ws : List Jvm.Cond) (dd : Addr) (lb : Addr) (h0 : Heap) (n0 : Nat) (Z0 : n0 ≤ h0.size) (H0_E : e_48 Z h0 dd) (H1_F : f_43 Z h0 dd .null) (H2_F : f_45 Z h0 dd .null) (H3_F : f_46 Z h0 dd .null) (H4_F : f_44 Z h0 dd (.int 0)) (H5_F : f_47 Z h0 dd (.int 0)) (H6_F : f_7 Z h0 lb (.int 0)) (H7_F : f_5 Z h0 lb .null) (hg_dd : n0 ≤ dd) (hn_dd_lb : dd ≠ lb) :
    own_M l yn_31 (Jvm.Cond.code yn_31 jdk_99_method_1_code 3 none :: ws) ({ frames := 1, cells := 0, slots := 0, locals := 12 } : Room) Z #[(.ref dd), (.ref lb)] h0 (Q_hiI Z dd lb h0 n0) := by
  refine MetFree.of_bodySF (plainFor_of_name pn_15) hisR ?_
  intro p e s m args below meth c s₁ Bd hml0 hP hK
  have ow := @own_w a0 Z hw
  obtain ⟨rfl, hZ, hhp_⟩ := hP
  have hx := Bd.exec
  have hby := Bd.bytes
  have dx := @own_hd _ _ _ hby Dc40
  have hml : c.maxLocals = 3 := hml0
  have hown : s.vm.findClass "java/util/HashMap$HashIterator" = some m.cls := findClass_of_methodNamed Bd.named
  have hnm := (name_of_methodNamed Bd.named Bd.method).1
  have X0 : Stand p l e ({ frames := 1, cells := 0, slots := 0, locals := 12 } : Room) s m _ below meth c s₁ [] 0 0 := Stand.of_body Bd
  have e0 : s₁.heap = h0 := by rw [← hhp_, Bd.state]; rfl
  have N0 := Fr.nil n0
  have pre0 : ∀ t, Steps p.tables e below (s₁.setTop (mkF m 0 #[.val (.ref dd), .val (.ref lb), .unset] [])) t → Steps p.tables e below (s₁.setTop (entryFrame m #[(.ref dd), (.ref lb)] 3)) t := fun t k => castTop rfl k
  have K0 : Keep h0 h0 [dd] := Keep.refl h0 [dd]
  obtain ⟨T1, h1, X1, e1, W1, st1⟩ := putF X0 hx hZ hown (host := "") (Or.inl (ow 329 rfl)) Via.refl e0 H1_F H0_E (Or.inr ⟨(ow 330 rfl), rfl, hnm⟩) (ow 317 rfl) (ty := (.object "java/util/HashMap")) (by decide) rfl rfl (g := (mkF m 2 #[.val (.ref dd), .val (.ref lb), .unset] [(.ref lb), (.ref dd)])) rfl rfl (dx 2 rfl)
  have Fw1 : f_43 Z h1 dd (.ref lb) := H1_F.same W1
  have N1 := Fr.snoc X1 N0 hg_dd
  have K1 : Keep h0 h1 [dd] := K0.wr W1 (Or.inl (own_mem (i := 0) rfl))
  obtain ⟨T2, X2, e2, st2⟩ := initO X1 hx hZ hown (ow 331 rfl) (ow 7 rfl) (ow 8 rfl) e1 (g := (mkF m 6 #[.val (.ref dd), .val (.ref lb), .unset] [(.ref dd)])) rfl (by rw [hml]; rfl) rfl (dx 4 rfl) (by decide) (W := 0) (Nat.le_of_eq rfl) (by decide)
  have F3 := H6_F.other W1 (Or.inl (Ne.symm hn_dd_lb))
  obtain ⟨T4, X4, e4, st4⟩ := getF X2 hx hZ hown (host := "") (Or.inl (ow 332 rfl)) Via.refl e2 F3 (g := (mkF m 11 #[.val (.ref dd), .val (.ref lb), .unset] [(.ref lb), (.ref dd)])) rfl rfl (dx 7 rfl)
  have F6 := H4_F.other W1 (Or.inr (sn_82 hw))
  have E7 := H0_E.wr W1
  obtain ⟨T5, h5, X5, e5, W5, st5⟩ := putF X4 hx hZ hown (host := "") (Or.inl (ow 334 rfl)) Via.refl e4 F6 E7 (Or.inl (ow 335 rfl)) (ow 317 rfl) (ty := .int) (by decide) rfl rfl (g := (mkF m 14 #[.val (.ref dd), .val (.ref lb), .unset] [(.int 0), (.ref dd)])) rfl rfl (dx 8 rfl)
  have Fw5 : f_44 Z h5 dd (.int 0) := F6.same W5
  have N5 := Fr.snoc X5 N1 hg_dd
  have K5 : Keep h0 h5 [dd] := K1.wr W5 (Or.inl (own_mem (i := 0) rfl))
  have F8 := (H7_F.other W1 (Or.inl (Ne.symm hn_dd_lb))).other W5 (Or.inl (Ne.symm hn_dd_lb))
  obtain ⟨T9, X9, e9, st9⟩ := getF X5 hx hZ hown (host := "") (Or.inl (ow 336 rfl)) Via.refl e5 F8 (g := (mkF m 18 #[.val (.ref dd), .val (.ref lb), .unset] [(.ref lb)])) rfl rfl (dx 10 rfl)
  have F11 := (H2_F.other W1 (Or.inr (sn_80 hw))).other W5 (Or.inr (sn_84 hw))
  have E12 := E7.wr W5
  obtain ⟨T10, h10, X10, e10, W10, st10⟩ := putF X9 hx hZ hown (host := "") (Or.inl (ow 338 rfl)) Via.refl e9 F11 E12 (Or.inl (ow 339 rfl)) (ow 317 rfl) (ty := (.object "java/util/HashMap$Node")) (by decide) rfl rfl (g := (mkF m 26 #[.val (.ref dd), .val (.ref lb), .val .null] [.null, (.ref dd), .null, (.ref dd)])) rfl rfl (dx 16 rfl)
  have Fw10 : f_45 Z h10 dd .null := F11.same W10
  have N10 := Fr.snoc X10 N5 hg_dd
  have K10 : Keep h0 h10 [dd] := K5.wr W10 (Or.inl (own_mem (i := 0) rfl))
  have F14 := ((H3_F.other W1 (Or.inr (sn_81 hw))).other W5 (Or.inr (sn_85 hw))).other W10 (Or.inr (sn_87 hw))
  have E15 := E12.wr W10
  obtain ⟨T13, h13, X13, e13, W13, st13⟩ := putF X10 hx hZ hown (host := "") (Or.inl (ow 340 rfl)) Via.refl e10 F14 E15 (Or.inl (ow 341 rfl)) (ow 317 rfl) (ty := (.object "java/util/HashMap$Node")) (by decide) rfl rfl (g := (mkF m 29 #[.val (.ref dd), .val (.ref lb), .val .null] [.null, (.ref dd)])) rfl rfl (dx 17 rfl)
  have Fw13 : f_46 Z h13 dd .null := F14.same W13
  have N13 := Fr.snoc X13 N10 hg_dd
  have K13 : Keep h0 h13 [dd] := K10.wr W13 (Or.inl (own_mem (i := 0) rfl))
  have F17 := (((H5_F.other W1 (Or.inr (sn_83 hw))).other W5 (Or.inr (sn_86 hw))).other W10 (Or.inr (sn_88 hw))).other W13 (Or.inr (sn_89 hw))
  have E18 := E15.wr W13
  obtain ⟨T16, h16, X16, e16, W16, st16⟩ := putF X13 hx hZ hown (host := "") (Or.inl (ow 342 rfl)) Via.refl e13 F17 E18 (Or.inl (ow 343 rfl)) (ow 317 rfl) (ty := .int) (by decide) rfl rfl (g := (mkF m 34 #[.val (.ref dd), .val (.ref lb), .val .null] [(.int 0), (.ref dd)])) rfl rfl (dx 20 rfl)
  have Fw16 : f_47 Z h16 dd (.int 0) := F17.same W16
  have N16 := Fr.snoc X16 N13 hg_dd
  have K16 : Keep h0 h16 [dd] := K13.wr W16 (Or.inl (own_mem (i := 0) rfl))
  have pre19 := fun (t : State) (k : Steps p.tables e below (T16.setTop (mkF m 78 #[.val (.ref dd), .val (.ref lb), .val .null] [])) t) => pre0 t (by
    refine XS.aloadN X0.here hx rfl (dx 0 rfl) rfl rfl ?_
    refine XS.aloadN X0.here hx rfl (dx 1 rfl) rfl rfl ?_
    refine st1 _ ?_
    refine XS.aloadN X1.here hx rfl (dx 3 rfl) rfl rfl ?_
    refine st2 _ ?_
    refine XS.aloadN X2.here hx rfl (dx 5 rfl) rfl rfl ?_
    refine XS.aloadN X2.here hx rfl (dx 6 rfl) rfl rfl ?_
    refine st4 _ ?_
    refine st5 _ ?_
    refine XS.aloadN X5.here hx rfl (dx 9 rfl) rfl rfl ?_
    refine st9 _ ?_
    refine XS.astoreN X9.here hx rfl (dx 11 rfl) rfl rfl (l' := #[.val (.ref dd), .val (.ref lb), .val .null]) rfl ?_
    refine XS.aloadN X9.here hx rfl (dx 12 rfl) rfl rfl ?_
    refine XS.aloadN X9.here hx rfl (dx 13 rfl) rfl rfl ?_
    refine XS.aconstNull X9.here hx rfl (dx 14 rfl) ?_
    refine XS.dupX1 X9.here hx rfl (dx 15 rfl) rfl rfl rfl ?_
    refine st10 _ ?_
    refine st13 _ ?_
    refine XS.aloadN X13.here hx rfl (dx 18 rfl) rfl rfl ?_
    refine XS.iconst X13.here hx rfl (dx 19 rfl) ?_
    refine st16 _ ?_
    refine XS.aloadN X16.here hx rfl (dx 21 rfl) rfl rfl ?_
    refine XS.ifnullYes X16.here hx rfl (pc0 := 38) (pc' := 78) rfl (dx 22 rfl) rfl (by decide) (by decide) ?_
    exact k)
  have F20 := (Fw10.other W13 (Or.inr (sn_87 hw).symm)).other W16 (Or.inr (sn_88 hw).symm)
  obtain ⟨fs, hr, hrun, hended, hW, hsame⟩ := X16.leave (v := none) (hlocks := BodyLoose.notSynchronized Bd) (fun _ => rfl)
  refine ⟨_, _, pre19 _ ?_, hrun, hended, _, _, rfl, ?_, ⟨_, rfl⟩, hW, hsame.mono (by decide) (by decide)⟩
  · exact X16.returnOut hx Bd.returns (dx 23 rfl) hr
  · show Q_hiI Z dd lb h0 n0 _ T16.heap _
    rw [e16]
    exact ⟨rfl, N16, K16, F20⟩

def Q_eiI (Z : State) (dd : Addr) (lb : Addr) (h0 : Heap) (n0 : Nat) (v : Option Value) (h : Heap) (L : List Loc) : Prop := v = none ∧ Fr n0 L ∧ Keep h0 h [dd] ∧ f_45 Z h dd .null
set_option maxRecDepth 65536 in
set_option maxHeartbeats 40000000 in
theorem rm_eiI (l : Launch) (Z : State) (a0 : Array Value) (hw : own_HW a0 Z) (ws : List Jvm.Cond) (dd : Addr) (lb : Addr) (h0 : Heap) (n0 : Nat) (Z0 : n0 ≤ h0.size) (H0_E : e_48 Z h0 dd) (H1_F : f_43 Z h0 dd .null) (H2_F : f_45 Z h0 dd .null) (H3_F : f_46 Z h0 dd .null) (H4_F : f_44 Z h0 dd (.int 0)) (H5_F : f_47 Z h0 dd (.int 0)) (H6_F : f_7 Z h0 lb (.int 0)) (H7_F : f_5 Z h0 lb .null) (hg_dd : n0 ≤ dd) (hn_dd_lb : dd ≠ lb) :
    own_M l yn_32 (Jvm.Cond.code yn_32 jdk_142_method_1_code 2 none :: ws) ({ frames := 2, cells := 0, slots := 0, locals := 26 } : Room) Z #[(.ref dd), (.ref lb)] h0 (Q_eiI Z dd lb h0 n0) := by
  refine MetFree.of_bodySF (plainFor_of_name pn_16) hisR ?_
  intro p e s m args below meth c s₁ Bd hml0 hP hK
  have ow := @own_w a0 Z hw
  obtain ⟨rfl, hZ, hhp_⟩ := hP
  have hx := Bd.exec
  have hby := Bd.bytes
  have dx := @own_hd _ _ _ hby Dc39
  have hml : c.maxLocals = 2 := hml0
  have hown : s.vm.findClass "java/util/HashMap$EntryIterator" = some m.cls := findClass_of_methodNamed Bd.named
  have hnm := (name_of_methodNamed Bd.named Bd.method).1
  have X0 : Stand p l e ({ frames := 2, cells := 0, slots := 0, locals := 26 } : Room) s m _ below meth c s₁ [] 0 0 := Stand.of_body Bd
  have e0 : s₁.heap = h0 := by rw [← hhp_, Bd.state]; rfl
  have N0 := Fr.nil n0
  have pre0 : ∀ t, Steps p.tables e below (s₁.setTop (mkF m 0 #[.val (.ref dd), .val (.ref lb)] [])) t → Steps p.tables e below (s₁.setTop (entryFrame m #[(.ref dd), (.ref lb)] 2)) t := fun t k => castTop rfl k
  have K0 : Keep h0 h0 [dd] := Keep.refl h0 [dd]
  obtain ⟨_, T1, Lc1, X1, hQ1, st1⟩ := own_rt X0 (X0.specialBack hx (y := yn_31) rfl hown (mvT hZ (ow 323 rfl)) (mvT hZ (ow 324 rfl)) (mvT hZ (ow 328 rfl)) (by decide) (backOf (W := 0) (rm_hiI l Z a0 hw [] dd lb h0 n0 Z0 H0_E H1_F H2_F H3_F H4_F H5_F H6_F H7_F hg_dd hn_dd_lb) hZ (ow 328 rfl) (ow 327 rfl) (by decide) (by decide)) (g := (mkF m 2 #[.val (.ref dd), .val (.ref lb)] [(.ref lb), (.ref dd)])) rfl (by rw [hml]; rfl) (Steps.refl _) (a := dd) (argsL := [(.ref lb)]) (rest := []) (lenOf pd_16 rfl) rfl (Nat.le_of_eq rfl) (dx 2 rfl) (fun _ _ => ⟨rfl, e0, (by decide : 0 + 0 ≤ _), (by decide : 0 + 0 ≤ _)⟩))
  obtain ⟨rfl, N1q, hq2, F3⟩ := hQ1
  have N1 := Fr.app N0 N1q
  have K1 : Keep h0 T1.heap [dd] := K0.trans hq2 (allS (Or.inl (own_mem (i := 0) rfl)) all0)
  have pre4 := fun (t : State) (k : Steps p.tables e below (T1.setTop (mkF m 5 #[.val (.ref dd), .val (.ref lb)] [])) t) => pre0 t (by
    refine XS.aloadN X0.here hx rfl (dx 0 rfl) rfl rfl ?_
    refine XS.aloadN X0.here hx rfl (dx 1 rfl) rfl rfl ?_
    refine st1.trans ?_
    exact k)
  obtain ⟨fs, hr, hrun, hended, hW, hsame⟩ := X1.leave (v := none) (hlocks := BodyLoose.notSynchronized Bd) (fun _ => rfl)
  refine ⟨_, _, pre4 _ ?_, hrun, hended, _, _, rfl, ?_, ⟨_, rfl⟩, hW, hsame.mono (by decide) (by decide)⟩
  · exact X1.returnOut hx Bd.returns (dx 3 rfl) hr
  · show Q_eiI Z dd lb h0 n0 _ T1.heap _
    exact ⟨rfl, N1, K1, F3⟩

def Q_esT (Z : State) (es : Addr) (lb : Addr) (h0 : Heap) (n0 : Nat) (v : Option Value) (h : Heap) (L : List Loc) : Prop := ∃ it : Addr, v = some (.ref it) ∧ Fr n0 L ∧ Keep h0 h [] ∧ n0 ≤ it ∧ h0.size ≤ it ∧ e_48 Z h it ∧ f_45 Z h it .null
set_option maxRecDepth 65536 in
set_option maxHeartbeats 40000000 in
theorem rm_esT (l : Launch) (Z : State) (a0 : Array Value) (hw : own_HW a0 Z) (ws : List Jvm.Cond) (es : Addr) (lb : Addr) (h0 : Heap) (n0 : Nat) (Z0 : n0 ≤ h0.size) (H0_F : f_41 Z h0 es (.ref lb)) (H1_F : f_7 Z h0 lb (.int 0)) (H2_F : f_5 Z h0 lb .null) :
    own_M l yn_33 (Jvm.Cond.code yn_33 jdk_111_method_4_code 1 (some (.object "java/util/Iterator")) :: ws) ({ frames := 3, cells := 1, slots := 5, locals := 40 } : Room) Z #[(.ref es)] h0 (Q_esT Z es lb h0 n0) := by
  refine MetFree.of_bodySF (plainFor_of_name pn_14) hisR ?_
  intro p e s m args below meth c s₁ Bd hml0 hP hK
  have ow := @own_w a0 Z hw
  obtain ⟨rfl, hZ, hhp_⟩ := hP
  have hx := Bd.exec
  have hby := Bd.bytes
  have dx := @own_hd _ _ _ hby Dc38
  have hml : c.maxLocals = 1 := hml0
  have hown : s.vm.findClass "java/util/HashMap$EntrySet" = some m.cls := findClass_of_methodNamed Bd.named
  have hnm := (name_of_methodNamed Bd.named Bd.method).1
  have X0 : Stand p l e ({ frames := 3, cells := 1, slots := 5, locals := 40 } : Room) s m _ below meth c s₁ [] 0 0 := Stand.of_body Bd
  have e0 : s₁.heap = h0 := by rw [← hhp_, Bd.state]; rfl
  have N0 := Fr.nil n0
  have pre0 : ∀ t, Steps p.tables e below (s₁.setTop (mkF m 0 #[.val (.ref es)] [])) t → Steps p.tables e below (s₁.setTop (entryFrame m #[(.ref es)] 1)) t := fun t k => castTop rfl k
  have K0 : Keep h0 h0 [] := Keep.refl h0 []
  obtain ⟨T1, h1, X1, e1, E1, A1, D1, -, st1⟩ := newO X0 hx hZ hown (ow 316 rfl) (ow 317 rfl) (ow 318 rfl) e0 (g := (mkF m 0 #[.val (.ref es)] [])) rfl (dx 0 rfl) (by decide) (by decide)
  obtain ⟨b1, g1⟩ : ∃ z, z = h0.size := ⟨_, rfl⟩
  have ge_b1 : n0 ≤ b1 := Nat.le_trans Z0 (Nat.le_of_eq g1.symm)
  have sz_b1 : h0.size ≤ b1 := Nat.le_trans K0.1 (Nat.le_of_eq g1.symm)
  rw [← g1] at A1 D1 st1
  have K1 : Keep h0 h1 [] := K0.ext E1
  have F2 : f_43 Z h1 b1 .null := D1 (Or.inr (ow 330 rfl)) (ty := (.object "java/util/HashMap")) (by decide)
  have F3 : f_44 Z h1 b1 (.int 0) := D1 (Or.inl (ow 335 rfl)) (ty := .int) (by decide)
  have F4 : f_45 Z h1 b1 .null := D1 (Or.inl (ow 339 rfl)) (ty := (.object "java/util/HashMap$Node")) (by decide)
  have F5 : f_46 Z h1 b1 .null := D1 (Or.inl (ow 341 rfl)) (ty := (.object "java/util/HashMap$Node")) (by decide)
  have F6 : f_47 Z h1 b1 (.int 0) := D1 (Or.inl (ow 343 rfl)) (ty := .int) (by decide)
  have F7 := H0_F.ext E1
  obtain ⟨T8, X8, e8, st8⟩ := getF X1 hx hZ hown (host := "") (Or.inl (ow 297 rfl)) Via.refl e1 F7 (g := (mkF m 5 #[.val (.ref es)] [(.ref es), (.ref b1), (.ref b1)])) rfl rfl (dx 3 rfl)
  have F10 := H1_F.ext E1
  have F11 := H2_F.ext E1
  have ne12 : lb ≠ b1 := Nat.ne_of_lt (Nat.lt_of_lt_of_le H1_F.lt (Nat.le_of_eq g1.symm))
  have Zs13 : n0 ≤ h1.size := (Nat.le_trans Z0 E1.1)
  obtain ⟨_, T9, Lc9, X9, hQ9, st9⟩ := own_rt X8 (X8.specialBack hx (y := yn_32) rfl hown (mvT hZ (ow 319 rfl)) (mvT hZ (ow 320 rfl)) (mvT hZ (ow 322 rfl)) (by decide) (backOf (W := 1) (rm_eiI l Z a0 hw [] b1 lb h1 n0 Zs13 A1 F2 F4 F5 F3 F6 F10 F11 ge_b1 (Ne.symm ne12)) hZ (ow 322 rfl) (ow 318 rfl) (by decide) (by decide)) (g := (mkF m 8 #[.val (.ref es)] [(.ref lb), (.ref b1), (.ref b1)])) rfl (by rw [hml]; rfl) (Steps.refl _) (a := b1) (argsL := [(.ref lb)]) (rest := [(.ref b1)]) (lenOf pd_16 rfl) rfl (Nat.le_of_eq rfl) (dx 4 rfl) (fun _ _ => ⟨rfl, e8, (by decide : 1 + 0 ≤ _), (by decide : 5 + 0 ≤ _)⟩))
  obtain ⟨rfl, N9q, hq14, F15⟩ := hQ9
  have N9 := Fr.app N0 N9q
  have K9 : Keep h0 T9.heap [] := K1.trans hq14 (allS (Or.inr sz_b1) all0)
  have pre16 := fun (t : State) (k : Steps p.tables e below (T9.setTop (mkF m 11 #[.val (.ref es)] [(.ref b1)])) t) => pre0 t (by
    refine st1 _ ?_
    refine XS.dup X1.here hx rfl (dx 1 rfl) rfl rfl ?_
    refine XS.aloadN X1.here hx rfl (dx 2 rfl) rfl rfl ?_
    refine st8 _ ?_
    refine st9.trans ?_
    exact k)
  have E17 := A1.keep hq14
  obtain ⟨fs, hr, hrun, hended, hW, hsame⟩ := X9.leave (v := some (.ref b1)) (hlocks := BodyLoose.notSynchronized Bd) (fun h => by rw [Bd.returns] at h; cases h)
  refine ⟨_, _, pre16 _ ?_, hrun, hended, _, _, rfl, ?_, ⟨_, rfl⟩, hW, hsame.mono (by decide) (by decide)⟩
  · jvm_step X9.here [X9.here.top, hx, (dx 5 rfl), X9.method', Bd.returns, Value.isRef, FieldType.isReference]
    first | (intro acts; rw [hr _ acts rfl rfl rfl]) | rw [hr _ _ rfl rfl rfl]
    exact Steps.refl _
  · show Q_esT Z es lb h0 n0 _ T9.heap _
    exact ⟨b1, rfl, N9, K9, ge_b1, sz_b1, E17, F15⟩

def Q_hnH (Z : State) (dd : Addr) (h0 : Heap) (n0 : Nat) (v : Option Value) (h : Heap) (L : List Loc) : Prop := v = some (.int 0) ∧ Fr n0 L ∧ h = h0
set_option maxRecDepth 65536 in
set_option maxHeartbeats 40000000 in
theorem rm_hnH (l : Launch) (Z : State) (a0 : Array Value) (hw : own_HW a0 Z) (ws : List Jvm.Cond) (dd : Addr) (h0 : Heap) (n0 : Nat) (Z0 : n0 ≤ h0.size) (H0_F : f_45 Z h0 dd .null) :
    own_M l yn_34 (Jvm.Cond.code yn_34 jdk_99_method_2_code 1 (some .boolean) :: ws) ({ frames := 0, cells := 0, slots := 0, locals := 0 } : Room) Z #[(.ref dd)] h0 (Q_hnH Z dd h0 n0) := by
  refine MetFree.of_bodySF (plainFor_of_name pn_15) hisR ?_
  intro p e s m args below meth c s₁ Bd hml0 hP hK
  have ow := @own_w a0 Z hw
  obtain ⟨rfl, hZ, hhp_⟩ := hP
  have hx := Bd.exec
  have hby := Bd.bytes
  have dx := @own_hd _ _ _ hby Dc41
  have hml : c.maxLocals = 1 := hml0
  have hown : s.vm.findClass "java/util/HashMap$HashIterator" = some m.cls := findClass_of_methodNamed Bd.named
  have hnm := (name_of_methodNamed Bd.named Bd.method).1
  have X0 : Stand p l e ({ frames := 0, cells := 0, slots := 0, locals := 0 } : Room) s m _ below meth c s₁ [] 0 0 := Stand.of_body Bd
  have e0 : s₁.heap = h0 := by rw [← hhp_, Bd.state]; rfl
  have N0 := Fr.nil n0
  have pre0 : ∀ t, Steps p.tables e below (s₁.setTop (mkF m 0 #[.val (.ref dd)] [])) t → Steps p.tables e below (s₁.setTop (entryFrame m #[(.ref dd)] 1)) t := fun t k => castTop rfl k
  obtain ⟨T1, X1, e1, st1⟩ := getF X0 hx hZ hown (host := "") (Or.inl (ow 338 rfl)) Via.refl e0 H0_F (g := (mkF m 1 #[.val (.ref dd)] [(.ref dd)])) rfl rfl (dx 1 rfl)
  have pre2 := fun (t : State) (k : Steps p.tables e below (T1.setTop (mkF m 12 #[.val (.ref dd)] [(.int 0)])) t) => pre0 t (by
    refine XS.aloadN X0.here hx rfl (dx 0 rfl) rfl rfl ?_
    refine st1 _ ?_
    refine XS.ifnullYes X1.here hx rfl (pc0 := 4) (pc' := 11) rfl (dx 2 rfl) rfl (by decide) (by decide) ?_
    refine XS.iconst X1.here hx rfl (dx 3 rfl) ?_
    exact k)
  obtain ⟨fs, hr, hrun, hended, hW, hsame⟩ := X1.leave (v := some (.int 0)) (hlocks := BodyLoose.notSynchronized Bd) (fun h => by rw [Bd.returns] at h; cases h)
  refine ⟨_, _, pre2 _ ?_, hrun, hended, _, _, rfl, ?_, ⟨_, rfl⟩, hW, hsame.mono (by decide) (by decide)⟩
  · exact retN X1 hx (t := .boolean) Bd.returns (by simp) (dx 4 rfl) hr
  · show Q_hnH Z dd h0 n0 _ T1.heap _
    rw [e1]
    exact ⟨rfl, N0, rfl⟩

def Q_isE (Z : State) (tt : Addr) (h0 : Heap) (n0 : Nat) (v : Option Value) (h : Heap) (L : List Loc) : Prop := v = some (.int 1) ∧ Fr n0 L ∧ h = h0
set_option maxRecDepth 65536 in
set_option maxHeartbeats 40000000 in
theorem rm_isE (l : Launch) (Z : State) (a0 : Array Value) (hw : own_HW a0 Z) (ws : List Jvm.Cond) (tt : Addr) (h0 : Heap) (n0 : Nat) (Z0 : n0 ≤ h0.size) (H0_F : f_27 Z h0 tt .null) :
    own_M l yn_35 (Jvm.Cond.code yn_35 prog_45_method_4_code 1 (some .boolean) :: ws) ({ frames := 0, cells := 0, slots := 0, locals := 0 } : Room) Z #[(.ref tt)] h0 (Q_isE Z tt h0 n0) := by
  refine MetFree.of_bodySF (plainFor_of_name pn_6) hisR ?_
  intro p e s m args below meth c s₁ Bd hml0 hP hK
  have ow := @own_w a0 Z hw
  obtain ⟨rfl, hZ, hhp_⟩ := hP
  have hx := Bd.exec
  have hby := Bd.bytes
  have dx := @own_hd _ _ _ hby Dc42
  have hml : c.maxLocals = 1 := hml0
  have hown : s.vm.findClass "org/tallyrole/core/IntTrie" = some m.cls := findClass_of_methodNamed Bd.named
  have hnm := (name_of_methodNamed Bd.named Bd.method).1
  have X0 : Stand p l e ({ frames := 0, cells := 0, slots := 0, locals := 0 } : Room) s m _ below meth c s₁ [] 0 0 := Stand.of_body Bd
  have e0 : s₁.heap = h0 := by rw [← hhp_, Bd.state]; rfl
  have N0 := Fr.nil n0
  have pre0 : ∀ t, Steps p.tables e below (s₁.setTop (mkF m 0 #[.val (.ref tt)] [])) t → Steps p.tables e below (s₁.setTop (entryFrame m #[(.ref tt)] 1)) t := fun t k => castTop rfl k
  obtain ⟨T1, X1, e1, st1⟩ := getF X0 hx hZ hown (host := "") (Or.inl (ow 84 rfl)) Via.refl e0 H0_F (g := (mkF m 1 #[.val (.ref tt)] [(.ref tt)])) rfl rfl (dx 1 rfl)
  have pre2 := fun (t : State) (k : Steps p.tables e below (T1.setTop (mkF m 12 #[.val (.ref tt)] [(.int 1)])) t) => pre0 t (by
    refine XS.aloadN X0.here hx rfl (dx 0 rfl) rfl rfl ?_
    refine st1 _ ?_
    refine XS.ifnonnullNo X1.here hx rfl (dx 2 rfl) rfl ?_
    refine XS.iconst X1.here hx rfl (dx 3 rfl) ?_
    refine XS.goto X1.here hx rfl (pc0 := 8) (pc' := 12) rfl (dx 4 rfl) (by decide) (by decide) ?_
    exact k)
  obtain ⟨fs, hr, hrun, hended, hW, hsame⟩ := X1.leave (v := some (.int 1)) (hlocks := BodyLoose.notSynchronized Bd) (fun h => by rw [Bd.returns] at h; cases h)
  refine ⟨_, _, pre2 _ ?_, hrun, hended, _, _, rfl, ?_, ⟨_, rfl⟩, hW, hsame.mono (by decide) (by decide)⟩
  · exact retN X1 hx (t := .boolean) Bd.returns (by simp) (dx 5 rfl) hr
  · show Q_isE Z tt h0 n0 _ T1.heap _
    rw [e1]
    exact ⟨rfl, N0, rfl⟩

def Q_alE (Z : State) (dd : Addr) (h0 : Heap) (n0 : Nat) (v : Option Value) (h : Heap) (L : List Loc) : Prop := v = some (.int 1) ∧ Fr n0 L ∧ h = h0
set_option maxRecDepth 65536 in
set_option maxHeartbeats 40000000 in
theorem rm_alE (l : Launch) (Z : State) (a0 : Array Value) (hw : own_HW a0 Z) (ws : List Jvm.Cond) (dd : Addr) (h0 : Heap) (n0 : Nat) (Z0 : n0 ≤ h0.size) (H0_F : f_12 Z h0 dd (.int 0)) :
    own_M l yn_36 (Jvm.Cond.code yn_36 jdk_38_method_9_code 1 (some .boolean) :: ws) ({ frames := 0, cells := 0, slots := 0, locals := 0 } : Room) Z #[(.ref dd)] h0 (Q_alE Z dd h0 n0) := by
  refine MetFree.of_bodySF (plainFor_of_name pn_5) hisR ?_
  intro p e s m args below meth c s₁ Bd hml0 hP hK
  have ow := @own_w a0 Z hw
  obtain ⟨rfl, hZ, hhp_⟩ := hP
  have hx := Bd.exec
  have hby := Bd.bytes
  have dx := @own_hd _ _ _ hby Dc43
  have hml : c.maxLocals = 1 := hml0
  have hown : s.vm.findClass "java/util/ArrayList" = some m.cls := findClass_of_methodNamed Bd.named
  have hnm := (name_of_methodNamed Bd.named Bd.method).1
  have X0 : Stand p l e ({ frames := 0, cells := 0, slots := 0, locals := 0 } : Room) s m _ below meth c s₁ [] 0 0 := Stand.of_body Bd
  have e0 : s₁.heap = h0 := by rw [← hhp_, Bd.state]; rfl
  have N0 := Fr.nil n0
  have pre0 : ∀ t, Steps p.tables e below (s₁.setTop (mkF m 0 #[.val (.ref dd)] [])) t → Steps p.tables e below (s₁.setTop (entryFrame m #[(.ref dd)] 1)) t := fun t k => castTop rfl k
  obtain ⟨T1, X1, e1, st1⟩ := getF X0 hx hZ hown (host := "") (Or.inl (ow 368 rfl)) Via.refl e0 H0_F (g := (mkF m 1 #[.val (.ref dd)] [(.ref dd)])) rfl rfl (dx 1 rfl)
  have pre2 := fun (t : State) (k : Steps p.tables e below (T1.setTop (mkF m 12 #[.val (.ref dd)] [(.int 1)])) t) => pre0 t (by
    refine XS.aloadN X0.here hx rfl (dx 0 rfl) rfl rfl ?_
    refine st1 _ ?_
    refine XS.ifNo X1.here hx rfl (dx 2 rfl) rfl ((if0 _ _).trans (teq (by decide : (0 : Int32) = (0 : Int32))).2) ?_
    refine XS.iconst X1.here hx rfl (dx 3 rfl) ?_
    refine XS.goto X1.here hx rfl (pc0 := 8) (pc' := 12) rfl (dx 4 rfl) (by decide) (by decide) ?_
    exact k)
  obtain ⟨fs, hr, hrun, hended, hW, hsame⟩ := X1.leave (v := some (.int 1)) (hlocks := BodyLoose.notSynchronized Bd) (fun h => by rw [Bd.returns] at h; cases h)
  refine ⟨_, _, pre2 _ ?_, hrun, hended, _, _, rfl, ?_, ⟨_, rfl⟩, hW, hsame.mono (by decide) (by decide)⟩
  · exact retN X1 hx (t := .boolean) Bd.returns (by simp) (dx 5 rfl) hr
  · show Q_alE Z dd h0 n0 _ T1.heap _
    rw [e1]
    exact ⟨rfl, N0, rfl⟩

def Q_hmF (Z : State) (dd : Addr) (fn : Addr) (h0 : Heap) (n0 : Nat) (v : Option Value) (h : Heap) (L : List Loc) : Prop := v = none ∧ Fr n0 L ∧ h = h0
set_option maxRecDepth 65536 in
set_option maxHeartbeats 40000000 in
theorem rm_hmF (l : Launch) (Z : State) (a0 : Array Value) (hw : own_HW a0 Z) (ws : List Jvm.Cond) (dd : Addr) (fn : Addr) (h0 : Heap) (n0 : Nat) (Z0 : n0 ≤ h0.size) (H0_F : f_6 Z h0 dd (.int 0)) :
    own_M l yn_37 (Jvm.Cond.code yn_37 jdk_69_method_39_code 8 none :: ws) ({ frames := 0, cells := 0, slots := 0, locals := 0 } : Room) Z #[(.ref dd), (.ref fn)] h0 (Q_hmF Z dd fn h0 n0) := by
  refine MetFree.of_bodySF (plainFor_of_name pn_3) hisR ?_
  intro p e s m args below meth c s₁ Bd hml0 hP hK
  have ow := @own_w a0 Z hw
  obtain ⟨rfl, hZ, hhp_⟩ := hP
  have hx := Bd.exec
  have hby := Bd.bytes
  have dx := @own_hd _ _ _ hby Dc44
  have hml : c.maxLocals = 8 := hml0
  have hown : s.vm.findClass "java/util/HashMap" = some m.cls := findClass_of_methodNamed Bd.named
  have hnm := (name_of_methodNamed Bd.named Bd.method).1
  have X0 : Stand p l e ({ frames := 0, cells := 0, slots := 0, locals := 0 } : Room) s m _ below meth c s₁ [] 0 0 := Stand.of_body Bd
  have e0 : s₁.heap = h0 := by rw [← hhp_, Bd.state]; rfl
  have N0 := Fr.nil n0
  have pre0 : ∀ t, Steps p.tables e below (s₁.setTop (mkF m 0 #[.val (.ref dd), .val (.ref fn), .unset, .unset, .unset, .unset, .unset, .unset] [])) t → Steps p.tables e below (s₁.setTop (entryFrame m #[(.ref dd), (.ref fn)] 8)) t := fun t k => castTop rfl k
  obtain ⟨T1, X1, e1, st1⟩ := getF X0 hx hZ hown (host := "") (Or.inl (ow 384 rfl)) Via.refl e0 H0_F (g := (mkF m 13 #[.val (.ref dd), .val (.ref fn), .unset, .unset, .unset, .unset, .unset, .unset] [(.ref dd)])) rfl rfl (dx 3 rfl)
  have pre2 := fun (t : State) (k : Steps p.tables e below (T1.setTop (mkF m 111 #[.val (.ref dd), .val (.ref fn), .unset, .unset, .unset, .unset, .unset, .unset] [])) t) => pre0 t (by
    refine XS.aloadN X0.here hx rfl (dx 0 rfl) rfl rfl ?_
    refine XS.ifnonnullYes X0.here hx rfl (pc0 := 1) (pc' := 12) rfl (dx 1 rfl) rfl (by decide) (by decide) ?_
    refine XS.aloadN X0.here hx rfl (dx 2 rfl) rfl rfl ?_
    refine st1 _ ?_
    refine XS.ifYes X1.here hx rfl (pc0 := 16) (pc' := 111) rfl (dx 4 rfl) rfl ((if0 _ _).trans (flt (by decide : ¬ ((0 : Int32) < (0 : Int32)))).2.2.2) (by decide) (by decide) ?_
    exact k)
  obtain ⟨fs, hr, hrun, hended, hW, hsame⟩ := X1.leave (v := none) (hlocks := BodyLoose.notSynchronized Bd) (fun _ => rfl)
  refine ⟨_, _, pre2 _ ?_, hrun, hended, _, _, rfl, ?_, ⟨_, rfl⟩, hW, hsame.mono (by decide) (by decide)⟩
  · exact X1.returnOut hx Bd.returns (dx 5 rfl) hr
  · show Q_hmF Z dd fn h0 n0 _ T1.heap _
    rw [e1]
    exact ⟨rfl, N0, rfl⟩

def Q_rns (Z : State) (vv : Addr) (sg : Addr) (h0 : Heap) (n0 : Nat) (v : Option Value) (h : Heap) (L : List Loc) : Prop := v = some (.ref vv) ∧ Fr n0 L ∧ h = h0
set_option maxRecDepth 65536 in
set_option maxHeartbeats 40000000 in
theorem rm_rns (l : Launch) (Z : State) (a0 : Array Value) (hw : own_HW a0 Z) (ws : List Jvm.Cond) (vv : Addr) (sg : Addr) (h0 : Heap) (n0 : Nat) (Z0 : n0 ≤ h0.size) :
    own_M l yn_38 (Jvm.Cond.code yn_38 jdk_31_method_11_code 2 (some (.object "java/lang/Object")) :: ws) ({ frames := 0, cells := 0, slots := 0, locals := 0 } : Room) Z #[(.ref vv), (.ref sg)] h0 (Q_rns Z vv sg h0 n0) := by
  refine MetFree.of_bodySF (plainFor_of_name pn_10) hisR ?_
  intro p e s m args below meth c s₁ Bd hml0 hP hK
  have ow := @own_w a0 Z hw
  obtain ⟨rfl, hZ, hhp_⟩ := hP
  have hx := Bd.exec
  have hby := Bd.bytes
  have dx := @own_hd _ _ _ hby Dc46
  have hml : c.maxLocals = 2 := hml0
  have hown : s.vm.findClass "java/util/Objects" = some m.cls := findClass_of_methodNamed Bd.named
  have hnm := (name_of_methodNamed Bd.named Bd.method).1
  have X0 : Stand p l e ({ frames := 0, cells := 0, slots := 0, locals := 0 } : Room) s m _ below meth c s₁ [] 0 0 := Stand.of_body Bd
  have e0 : s₁.heap = h0 := by rw [← hhp_, Bd.state]; rfl
  have N0 := Fr.nil n0
  have pre0 : ∀ t, Steps p.tables e below (s₁.setTop (mkF m 0 #[.val (.ref vv), .val (.ref sg)] [])) t → Steps p.tables e below (s₁.setTop (entryFrame m #[(.ref vv), (.ref sg)] 2)) t := fun t k => castTop rfl k
  have pre1 := fun (t : State) (k : Steps p.tables e below (s₁.setTop (mkF m 14 #[.val (.ref vv), .val (.ref sg)] [(.ref vv)])) t) => pre0 t (by
    refine XS.aloadN X0.here hx rfl (dx 0 rfl) rfl rfl ?_
    refine XS.ifnonnullYes X0.here hx rfl (pc0 := 1) (pc' := 13) rfl (dx 1 rfl) rfl (by decide) (by decide) ?_
    refine XS.aloadN X0.here hx rfl (dx 2 rfl) rfl rfl ?_
    exact k)
  obtain ⟨fs, hr, hrun, hended, hW, hsame⟩ := X0.leave (v := some (.ref vv)) (hlocks := BodyLoose.notSynchronized Bd) (fun h => by rw [Bd.returns] at h; cases h)
  refine ⟨_, _, pre1 _ ?_, hrun, hended, _, _, rfl, ?_, ⟨_, rfl⟩, hW, hsame.mono (by decide) (by decide)⟩
  · jvm_step X0.here [X0.here.top, hx, (dx 3 rfl), X0.method', Bd.returns, Value.isRef, FieldType.isReference]
    first | (intro acts; rw [hr _ acts rfl rfl rfl]) | rw [hr _ _ rfl rfl rfl]
    exact Steps.refl _
  · show Q_rns Z vv sg h0 n0 _ s₁.heap _
    rw [e0]
    exact ⟨rfl, N0, rfl⟩

def Q_rne (Z : State) (vv : Addr) (h0 : Heap) (n0 : Nat) (v : Option Value) (h : Heap) (L : List Loc) : Prop := v = some (.ref vv) ∧ Fr n0 L ∧ Keep h0 h []
set_option maxRecDepth 65536 in
set_option maxHeartbeats 40000000 in
theorem rm_rne (l : Launch) (Z : State) (a0 : Array Value) (hw : own_HW a0 Z) (ws : List Jvm.Cond) (vv : Addr) (h0 : Heap) (n0 : Nat) (Z0 : n0 ≤ h0.size) :
    own_MS l yn_39 (Jvm.Cond.code yn_39 jdk_31_method_14_code 2 (some (.object "java/lang/Object")) :: ws) ({ frames := 1, cells := 2, slots := 44, locals := 13 } : Room) Z #[.null, (.ref vv)] h0 (Q_rne Z vv h0 n0) := by
  refine MetFree.of_bodySF (plainFor_of_name pn_10) hisR ?_
  intro p e s m args below meth c s₁ Bd hml0 hP hK
  have ow := @own_w a0 Z hw
  obtain ⟨rfl, hZ, hhp_⟩ := hP
  have hx := Bd.exec
  have hby := Bd.bytes
  have dx := @own_hd _ _ _ hby Dc45
  have hml : c.maxLocals = 2 := hml0
  have hown : s.vm.findClass "java/util/Objects" = some m.cls := findClass_of_methodNamed Bd.named
  have hnm := (name_of_methodNamed Bd.named Bd.method).1
  have X0 : Stand p l e ({ frames := 1, cells := 2, slots := 44, locals := 13 } : Room) s m _ below meth c s₁ [] 0 0 := Stand.of_body Bd
  have e0 : s₁.heap = h0 := by rw [← hhp_, Bd.state]; rfl
  have N0 := Fr.nil n0
  have pre0 : ∀ t, Steps p.tables e below (s₁.setTop (mkF m 0 #[.val .null, .val (.ref vv)] [])) t → Steps p.tables e below (s₁.setTop (entryFrame m #[.null, (.ref vv)] 2)) t := fun t k => castTop rfl k
  have XS0 : Stand p l e ({ frames := 1, cells := 2, slots := 44, locals := 13 } : Room) (s.setVm s.vm) m #[.null, (.ref vv)] below meth c s₁ [] 0 0 := X0
  have hZS0 : Z.Warmed39 (s.setVm s.vm).vm := hZ
  have hownS0 : (s.setVm s.vm).vm.findClass "java/util/Objects" = some m.cls := hown
  have hSS0 : s.Since s.vm h0.size := (State.WarmedH.refl s).since _
  have hkS0 : h0.size ≤ h0.size := Nat.le_refl _
  have K0 : Keep h0 h0 [] := Keep.refl h0 []
  have own_sa : ∀ d ∈ Bundle.stringAtoms, d.before a0 Z = true := fun d hd => hw d ((by decide +kernel : ∀ d ∈ Bundle.stringAtoms, d ∈ tables_1) d hd)
  obtain ⟨sa1, T1, h1, k1, X1, e1, E1, hS1, hk1, hZ1, ho1, st1⟩ := ldcS (s := s) XS0 hx hZS0 hownS0 (ow 391 rfl) own_sa e0 hSS0 hkS0 (g := (mkF m 9 #[.val .null, .val (.ref vv)] [(.ref vv)])) rfl (dx 3 rfl) (n := 40) (by decide) (by decide) (by decide) (by decide)
  have K1 : Keep h0 h1 [] := K0.ext E1
  have Zs2 : n0 ≤ h1.size := (Nat.le_trans Z0 E1.1)
  obtain ⟨_, T3, Lc3, X3, hQ3, st3⟩ := own_rtC X1 (Jvm.LawKit.callS X1 hx (y := yn_38) ho1 (mvT hZ1 (ow 399 rfl)) (mvT hZ1 (ow 400 rfl)) (mvT hZ1 (ow 145 rfl)) (mvT hZ1 (ow 401 rfl)) (by decide) (backOf (W := 0) (rm_rns l Z a0 hw [] vv sa1 h1 n0 Zs2 ) hZ1 (ow 401 rfl) (ow 145 rfl) (by decide) (by decide)) (g := (mkF m 11 #[.val .null, .val (.ref vv)] [(.ref sa1), (.ref vv)])) rfl (by rw [hml]; rfl) (argsL := [(.ref vv), (.ref sa1)]) (rest := []) (lenOf pd_17 rfl) rfl (Nat.le_of_eq rfl) (dx 4 rfl) (fun _ _ => ⟨rfl, e1, (by decide : 2 + 0 ≤ _), (by decide : 44 + 0 ≤ _)⟩))
  obtain ⟨rfl, N3q, hq4⟩ := hQ3
  have N3 := Fr.app N0 N3q
  have pre5 := fun (t : State) (k : Steps p.tables e below (T3.setTop (mkF m 14 #[.val .null, .val (.ref vv)] [(.ref vv)])) t) => pre0 t (by
    refine XS.aloadN XS0.here hx rfl (dx 0 rfl) rfl rfl ?_
    refine XS.ifnullYes XS0.here hx rfl (pc0 := 1) (pc' := 8) rfl (dx 1 rfl) rfl (by decide) (by decide) ?_
    refine XS.aloadN XS0.here hx rfl (dx 2 rfl) rfl rfl ?_
    refine st1 _ ?_
    refine st3 _ ?_
    exact k)
  obtain ⟨fs, hr, hrun, hended, hE1, hE2, hE3, hE4⟩ := X3.leaveW hS1 (by rw [hq4]; exact hk1) (v := some (.ref vv)) (hlocks := BodyLoose.notSynchronized Bd) (fun h => by rw [Bd.returns] at h; cases h)
  refine ⟨_, _, pre5 _ ?_, hrun, hended, _, _, rfl, ?_, hE1, hE2, hE3, hE4.mono (by decide) (by decide)⟩
  · jvm_step X3.here [X3.here.top, hx, (dx 5 rfl), X3.method', Bd.returns, Value.isRef, FieldType.isReference]
    first | (intro acts; rw [hr _ acts rfl rfl rfl]) | rw [hr _ _ rfl rfl rfl]
    exact Steps.refl _
  · show Q_rne Z vv h0 n0 _ T3.heap _
    rw [hq4]
    exact ⟨rfl, N3, K1⟩

def Q_kys (Z : State) (tt : Addr) (h0 : Heap) (n0 : Nat) (v : Option Value) (h : Heap) (L : List Loc) : Prop := ∃ lm : Addr, v = some (.ref lm) ∧ Fr n0 L ∧ Keep h0 h [] ∧ n0 ≤ lm ∧ h0.size ≤ lm ∧ own_Lm Z h lm own_kN 1 79 own_kS [.ref tt]
set_option maxRecDepth 65536 in
set_option maxHeartbeats 40000000 in
theorem rm_kys (l : Launch) (Z : State) (a0 : Array Value) (hw : own_HW a0 Z) (ws : List Jvm.Cond) (tt : Addr) (h0 : Heap) (n0 : Nat) (Z0 : n0 ≤ h0.size) :
    own_M l yn_40 (Jvm.Cond.code yn_40 prog_45_method_9_code 1 (some (.object "java/lang/Iterable")) :: ws) ({ frames := 0, cells := 1, slots := 1, locals := 3073 } : Room) Z #[(.ref tt)] h0 (Q_kys Z tt h0 n0) := by
  refine MetFree.of_bodySF (plainFor_of_name pn_6) hisR ?_
  intro p e s m args below meth c s₁ Bd hml0 hP hK
  have ow := @own_w a0 Z hw
  obtain ⟨rfl, hZ, hhp_⟩ := hP
  have hx := Bd.exec
  have hby := Bd.bytes
  have dx := @own_hd _ _ _ hby Dc47
  have hml : c.maxLocals = 1 := hml0
  have hown : s.vm.findClass "org/tallyrole/core/IntTrie" = some m.cls := findClass_of_methodNamed Bd.named
  have hnm := (name_of_methodNamed Bd.named Bd.method).1
  have hnZ_ := (State.methodNamed?_setVm (s := Z) hZ.alike _).symm.trans Bd.named
  have X0 : Stand p l e ({ frames := 0, cells := 1, slots := 1, locals := 3073 } : Room) s m _ below meth c s₁ [] 0 0 := Stand.of_body Bd
  have e0 : s₁.heap = h0 := by rw [← hhp_, Bd.state]; rfl
  have N0 := Fr.nil n0
  have pre0 : ∀ t, Steps p.tables e below (s₁.setTop (mkF m 0 #[.val (.ref tt)] [])) t → Steps p.tables e below (s₁.setTop (entryFrame m #[(.ref tt)] 1)) t := fun t k => castTop rfl k
  have K0 : Keep h0 h0 [] := Keep.refl h0 []
  obtain ⟨T1, h1, X1, e1, E1, A1, st1⟩ := own_lam X0 hx hZ (x := yn_40) ((State.methodNamed?_setVm (s := Z) hZ.alike _).trans hnZ_) (ow 409 rfl) (ow 26 rfl) (by decide) (TS := #[(.object "org/tallyrole/core/IntTrie")]) (by decide +kernel) e0 (g := (mkF m 1 #[.val (.ref tt)] [(.ref tt)])) rfl rfl (by rw [hml]; rfl) (dx 1 rfl) (vals := [(.ref tt)]) (rest := []) rfl rfl rfl (own_hf rfl rfl) (Nat.le_of_ble_eq_true rfl) (Nat.le_of_ble_eq_true rfl) (nv := 1) rfl (Nat.le_of_ble_eq_true rfl)
  obtain ⟨b1, g1⟩ : ∃ z, z = h0.size := ⟨_, rfl⟩
  have ge_b1 : n0 ≤ b1 := Nat.le_trans Z0 (Nat.le_of_eq g1.symm)
  have sz_b1 : h0.size ≤ b1 := Nat.le_trans K0.1 (Nat.le_of_eq g1.symm)
  rw [← g1] at A1 st1
  have K1 : Keep h0 h1 [] := K0.ext E1
  have Lm1 : own_Lm Z h1 b1 own_kN 1 79 own_kS [.ref tt] := A1
  have pre2 := fun (t : State) (k : Steps p.tables e below (T1.setTop (mkF m 6 #[.val (.ref tt)] [(.ref b1)])) t) => pre0 t (by
    refine XS.aloadN X0.here hx rfl (dx 0 rfl) rfl rfl ?_
    refine st1 _ ?_
    exact k)
  obtain ⟨fs, hr, hrun, hended, hW, hsame⟩ := X1.leave (v := some (.ref b1)) (hlocks := BodyLoose.notSynchronized Bd) (fun h => by rw [Bd.returns] at h; cases h)
  refine ⟨_, _, pre2 _ ?_, hrun, hended, _, _, rfl, ?_, ⟨_, rfl⟩, hW, hsame.mono (by decide) (by decide)⟩
  · jvm_step X1.here [X1.here.top, hx, (dx 2 rfl), X1.method', Bd.returns, Value.isRef, FieldType.isReference]
    first | (intro acts; rw [hr _ acts rfl rfl rfl]) | rw [hr _ _ rfl rfl rfl]
    exact Steps.refl _
  · show Q_kys Z tt h0 n0 _ T1.heap _
    rw [e1]
    exact ⟨b1, rfl, N0, K1, ge_b1, sz_b1, Lm1⟩

def Q_it1 (Z : State) (dd : Addr) (tt : Addr) (h0 : Heap) (n0 : Nat) (v : Option Value) (h : Heap) (L : List Loc) : Prop := v = none ∧ Fr n0 L ∧ Keep h0 h [dd] ∧ f_50 Z h dd (.int (-1))
set_option maxRecDepth 65536 in
set_option maxHeartbeats 40000000 in
theorem rm_it1 (l : Launch) (Z : State) (a0 : Array Value) (hw : own_HW a0 Z) (ws : List Jvm.Cond) (dd : Addr) (tt : Addr) (h0 : Heap) (n0 : Nat) (Z0 : n0 ≤ h0.size) (H0_E : e_51 Z h0 dd) (H1_E : e_29 Z h0 tt) (H2_F : f_49 Z h0 dd .null) (H3_F : f_50 Z h0 dd (.int 0)) (H4_F : f_27 Z h0 tt .null) (hg_dd : n0 ≤ dd) (hn_dd_tt : dd ≠ tt) :
    own_M l yn_41 (Jvm.Cond.code yn_41 prog_46_method_1_code 2 none :: ws) ({ frames := 1, cells := 0, slots := 0, locals := 15 } : Room) Z #[(.ref dd), (.ref tt)] h0 (Q_it1 Z dd tt h0 n0) := by
  refine MetFree.of_bodySF (plainFor_of_name pn_17) hisR ?_
  intro p e s m args below meth c s₁ Bd hml0 hP hK
  have ow := @own_w a0 Z hw
  obtain ⟨rfl, hZ, hhp_⟩ := hP
  have hx := Bd.exec
  have hby := Bd.bytes
  have dx := @own_hd _ _ _ hby Dc49
  have hml : c.maxLocals = 2 := hml0
  have hown : s.vm.findClass "org/tallyrole/core/IntTrie$1" = some m.cls := findClass_of_methodNamed Bd.named
  have hnm := (name_of_methodNamed Bd.named Bd.method).1
  have X0 : Stand p l e ({ frames := 1, cells := 0, slots := 0, locals := 15 } : Room) s m _ below meth c s₁ [] 0 0 := Stand.of_body Bd
  have e0 : s₁.heap = h0 := by rw [← hhp_, Bd.state]; rfl
  have N0 := Fr.nil n0
  have pre0 : ∀ t, Steps p.tables e below (s₁.setTop (mkF m 0 #[.val (.ref dd), .val (.ref tt)] [])) t → Steps p.tables e below (s₁.setTop (entryFrame m #[(.ref dd), (.ref tt)] 2)) t := fun t k => castTop rfl k
  have K0 : Keep h0 h0 [dd] := Keep.refl h0 [dd]
  obtain ⟨T1, h1, X1, e1, W1, st1⟩ := putF X0 hx hZ hown (host := "") (Or.inl (ow 423 rfl)) Via.refl e0 H2_F H0_E (Or.inr ⟨(ow 424 rfl), rfl, hnm⟩) (ow 418 rfl) (ty := (.object "org/tallyrole/core/IntTrie")) (by decide) rfl rfl (g := (mkF m 2 #[.val (.ref dd), .val (.ref tt)] [(.ref tt), (.ref dd)])) rfl rfl (dx 2 rfl)
  have Fw1 : f_49 Z h1 dd (.ref tt) := H2_F.same W1
  have N1 := Fr.snoc X1 N0 hg_dd
  have K1 : Keep h0 h1 [dd] := K0.wr W1 (Or.inl (own_mem (i := 0) rfl))
  obtain ⟨T2, X2, e2, st2⟩ := initO X1 hx hZ hown (ow 425 rfl) (ow 7 rfl) (ow 8 rfl) e1 (g := (mkF m 6 #[.val (.ref dd), .val (.ref tt)] [(.ref dd)])) rfl (by rw [hml]; rfl) rfl (dx 4 rfl) (by decide) (W := 0) (Nat.le_of_eq rfl) (by decide)
  obtain ⟨T3, X3, e3, st3⟩ := getF X2 hx hZ hown (host := "") (Or.inl (ow 423 rfl)) Via.refl e2 Fw1 (g := (mkF m 11 #[.val (.ref dd), .val (.ref tt)] [(.ref dd), (.ref dd)])) rfl rfl (dx 7 rfl)
  have F5 := H4_F.other W1 (Or.inl (Ne.symm hn_dd_tt))
  have Zs6 : n0 ≤ h1.size := (Nat.le_trans Z0 (Keep.of_wr W1).1)
  have E7 := H1_E.wr W1
  obtain ⟨cq4, kq4, q4a, q4b, q4c⟩ := isOf hZ e3 E7
  obtain ⟨_, T4, Lc4, X4, hQ4, st4⟩ := own_rt X3 (X3.virtualBack hx (y := yn_27) (z := yn_27) hown (mvT hZ (ow 426 rfl)) (mvT hZ (ow 264 rfl)) (notFace_of_selects (args := #[]) (mvT hZ (ow 266 rfl))) (mvT hZ (ow 266 rfl)) (mvT hZ (ow 265 rfl)) (by decide) (backOf (W := 1) (rm_ceE l Z a0 hw [] tt (0 : Int32) h1 n0 Zs6 F5) hZ (ow 267 rfl) (ow 11 rfl) (by decide) (by decide)) q4a q4c (g := (mkF m 15 #[.val (.ref dd), .val (.ref tt)] [(.int 0), (.ref tt), (.ref dd)])) rfl (by rw [hml]; rfl) (Steps.refl _) (argsL := [(.int 0)]) (rest := [(.ref dd)]) (lenOf pd_2 rfl) rfl (Nat.le_of_eq rfl) (dx 9 rfl) (fun _ _ => ⟨rfl, e3, (by decide : 0 + 0 ≤ _), (by decide : 0 + 0 ≤ _)⟩))
  obtain ⟨rfl, N4q, hq8⟩ := hQ4
  have N4 := Fr.app N1 N4q
  have F10 := H3_F.other W1 (Or.inr (sn_90 hw))
  have E11 := H0_E.wr W1
  obtain ⟨T9, h9, X9, e9, W9, st9⟩ := putF X4 hx hZ hown (host := "") (Or.inl (ow 427 rfl)) Via.refl hq8 F10 E11 (Or.inl (ow 428 rfl)) (ow 418 rfl) (ty := .int) (by decide) rfl rfl (g := (mkF m 18 #[.val (.ref dd), .val (.ref tt)] [(.int (-1)), (.ref dd)])) rfl rfl (dx 10 rfl)
  have Fw9 : f_50 Z h9 dd (.int (-1)) := F10.same W9
  have N9 := Fr.snoc X9 N4 hg_dd
  have K9 : Keep h0 h9 [dd] := K1.wr W9 (Or.inl (own_mem (i := 0) rfl))
  have pre12 := fun (t : State) (k : Steps p.tables e below (T9.setTop (mkF m 21 #[.val (.ref dd), .val (.ref tt)] [])) t) => pre0 t (by
    refine XS.aloadN X0.here hx rfl (dx 0 rfl) rfl rfl ?_
    refine XS.aloadN X0.here hx rfl (dx 1 rfl) rfl rfl ?_
    refine st1 _ ?_
    refine XS.aloadN X1.here hx rfl (dx 3 rfl) rfl rfl ?_
    refine st2 _ ?_
    refine XS.aloadN X2.here hx rfl (dx 5 rfl) rfl rfl ?_
    refine XS.aloadN X2.here hx rfl (dx 6 rfl) rfl rfl ?_
    refine st3 _ ?_
    refine XS.iconst X3.here hx rfl (dx 8 rfl) ?_
    refine st4.trans ?_
    refine st9 _ ?_
    exact k)
  obtain ⟨fs, hr, hrun, hended, hW, hsame⟩ := X9.leave (v := none) (hlocks := BodyLoose.notSynchronized Bd) (fun _ => rfl)
  refine ⟨_, _, pre12 _ ?_, hrun, hended, _, _, rfl, ?_, ⟨_, rfl⟩, hW, hsame.mono (by decide) (by decide)⟩
  · exact X9.returnOut hx Bd.returns (dx 11 rfl) hr
  · show Q_it1 Z dd tt h0 n0 _ T9.heap _
    rw [e9]
    exact ⟨rfl, N9, K9, Fw9⟩

def Q_lmk (Z : State) (tt : Addr) (h0 : Heap) (n0 : Nat) (v : Option Value) (h : Heap) (L : List Loc) : Prop := ∃ it : Addr, v = some (.ref it) ∧ Fr n0 L ∧ Keep h0 h [] ∧ n0 ≤ it ∧ h0.size ≤ it ∧ e_51 Z h it ∧ f_50 Z h it (.int (-1))
set_option maxRecDepth 65536 in
set_option maxHeartbeats 40000000 in
theorem rm_lmk (l : Launch) (Z : State) (a0 : Array Value) (hw : own_HW a0 Z) (ws : List Jvm.Cond) (tt : Addr) (h0 : Heap) (n0 : Nat) (Z0 : n0 ≤ h0.size) (H0_E : e_29 Z h0 tt) (H1_F : f_27 Z h0 tt .null) :
    own_M l yn_42 (Jvm.Cond.code yn_42 prog_45_method_14_code 1 (some (.object "java/util/Iterator")) :: ws) ({ frames := 2, cells := 1, slots := 2, locals := 29 } : Room) Z #[(.ref tt)] h0 (Q_lmk Z tt h0 n0) := by
  refine MetFree.of_bodySF (plainFor_of_name pn_6) hisR ?_
  intro p e s m args below meth c s₁ Bd hml0 hP hK
  have ow := @own_w a0 Z hw
  obtain ⟨rfl, hZ, hhp_⟩ := hP
  have hx := Bd.exec
  have hby := Bd.bytes
  have dx := @own_hd _ _ _ hby Dc48
  have hml : c.maxLocals = 1 := hml0
  have hown : s.vm.findClass "org/tallyrole/core/IntTrie" = some m.cls := findClass_of_methodNamed Bd.named
  have hnm := (name_of_methodNamed Bd.named Bd.method).1
  have X0 : Stand p l e ({ frames := 2, cells := 1, slots := 2, locals := 29 } : Room) s m _ below meth c s₁ [] 0 0 := Stand.of_body Bd
  have e0 : s₁.heap = h0 := by rw [← hhp_, Bd.state]; rfl
  have N0 := Fr.nil n0
  have pre0 : ∀ t, Steps p.tables e below (s₁.setTop (mkF m 0 #[.val (.ref tt)] [])) t → Steps p.tables e below (s₁.setTop (entryFrame m #[(.ref tt)] 1)) t := fun t k => castTop rfl k
  have K0 : Keep h0 h0 [] := Keep.refl h0 []
  obtain ⟨T1, h1, X1, e1, E1, A1, D1, -, st1⟩ := newO X0 hx hZ hown (ow 417 rfl) (ow 418 rfl) (ow 419 rfl) e0 (g := (mkF m 0 #[.val (.ref tt)] [])) rfl (dx 0 rfl) (by decide) (by decide)
  obtain ⟨b1, g1⟩ : ∃ z, z = h0.size := ⟨_, rfl⟩
  have ge_b1 : n0 ≤ b1 := Nat.le_trans Z0 (Nat.le_of_eq g1.symm)
  have sz_b1 : h0.size ≤ b1 := Nat.le_trans K0.1 (Nat.le_of_eq g1.symm)
  rw [← g1] at A1 D1 st1
  have K1 : Keep h0 h1 [] := K0.ext E1
  have F2 : f_49 Z h1 b1 .null := D1 (Or.inr (ow 424 rfl)) (ty := (.object "org/tallyrole/core/IntTrie")) (by decide)
  have F3 : f_50 Z h1 b1 (.int 0) := D1 (Or.inl (ow 428 rfl)) (ty := .int) (by decide)
  have E5 := H0_E.ext E1
  have F6 := H1_F.ext E1
  have ne7 : tt ≠ b1 := Nat.ne_of_lt (Nat.lt_of_lt_of_le H0_E.lt (Nat.le_of_eq g1.symm))
  have Zs8 : n0 ≤ h1.size := (Nat.le_trans Z0 E1.1)
  obtain ⟨_, T4, Lc4, X4, hQ4, st4⟩ := own_rt X1 (X1.specialBack hx (y := yn_41) rfl hown (mvT hZ (ow 420 rfl)) (mvT hZ (ow 421 rfl)) (mvT hZ (ow 422 rfl)) (by decide) (backOf (W := 1) (rm_it1 l Z a0 hw [] b1 tt h1 n0 Zs8 A1 E5 F2 F3 F6 ge_b1 (Ne.symm ne7)) hZ (ow 422 rfl) (ow 419 rfl) (by decide) (by decide)) (g := (mkF m 5 #[.val (.ref tt)] [(.ref tt), (.ref b1), (.ref b1)])) rfl (by rw [hml]; rfl) (Steps.refl _) (a := b1) (argsL := [(.ref tt)]) (rest := [(.ref b1)]) (lenOf pd_18 rfl) rfl (Nat.le_of_eq rfl) (dx 3 rfl) (fun _ _ => ⟨rfl, e1, (by decide : 1 + 0 ≤ _), (by decide : 2 + 0 ≤ _)⟩))
  obtain ⟨rfl, N4q, hq9, F10⟩ := hQ4
  have N4 := Fr.app N0 N4q
  have K4 : Keep h0 T4.heap [] := K1.trans hq9 (allS (Or.inr sz_b1) all0)
  have pre11 := fun (t : State) (k : Steps p.tables e below (T4.setTop (mkF m 8 #[.val (.ref tt)] [(.ref b1)])) t) => pre0 t (by
    refine st1 _ ?_
    refine XS.dup X1.here hx rfl (dx 1 rfl) rfl rfl ?_
    refine XS.aloadN X1.here hx rfl (dx 2 rfl) rfl rfl ?_
    refine st4.trans ?_
    exact k)
  have E12 := A1.keep hq9
  obtain ⟨fs, hr, hrun, hended, hW, hsame⟩ := X4.leave (v := some (.ref b1)) (hlocks := BodyLoose.notSynchronized Bd) (fun h => by rw [Bd.returns] at h; cases h)
  refine ⟨_, _, pre11 _ ?_, hrun, hended, _, _, rfl, ?_, ⟨_, rfl⟩, hW, hsame.mono (by decide) (by decide)⟩
  · jvm_step X4.here [X4.here.top, hx, (dx 4 rfl), X4.method', Bd.returns, Value.isRef, FieldType.isReference]
    first | (intro acts; rw [hr _ acts rfl rfl rfl]) | rw [hr _ _ rfl rfl rfl]
    exact Steps.refl _
  · show Q_lmk Z tt h0 n0 _ T4.heap _
    exact ⟨b1, rfl, N4, K4, ge_b1, sz_b1, E12, F10⟩

def Q_hn1 (Z : State) (dd : Addr) (h0 : Heap) (n0 : Nat) (v : Option Value) (h : Heap) (L : List Loc) : Prop := v = some (.int 0) ∧ Fr n0 L ∧ h = h0
set_option maxRecDepth 65536 in
set_option maxHeartbeats 40000000 in
theorem rm_hn1 (l : Launch) (Z : State) (a0 : Array Value) (hw : own_HW a0 Z) (ws : List Jvm.Cond) (dd : Addr) (h0 : Heap) (n0 : Nat) (Z0 : n0 ≤ h0.size) (H0_F : f_50 Z h0 dd (.int (-1))) :
    own_M l yn_43 (Jvm.Cond.code yn_43 prog_46_method_2_code 1 (some .boolean) :: ws) ({ frames := 0, cells := 0, slots := 0, locals := 0 } : Room) Z #[(.ref dd)] h0 (Q_hn1 Z dd h0 n0) := by
  refine MetFree.of_bodySF (plainFor_of_name pn_17) hisR ?_
  intro p e s m args below meth c s₁ Bd hml0 hP hK
  have ow := @own_w a0 Z hw
  obtain ⟨rfl, hZ, hhp_⟩ := hP
  have hx := Bd.exec
  have hby := Bd.bytes
  have dx := @own_hd _ _ _ hby Dc50
  have hml : c.maxLocals = 1 := hml0
  have hown : s.vm.findClass "org/tallyrole/core/IntTrie$1" = some m.cls := findClass_of_methodNamed Bd.named
  have hnm := (name_of_methodNamed Bd.named Bd.method).1
  have X0 : Stand p l e ({ frames := 0, cells := 0, slots := 0, locals := 0 } : Room) s m _ below meth c s₁ [] 0 0 := Stand.of_body Bd
  have e0 : s₁.heap = h0 := by rw [← hhp_, Bd.state]; rfl
  have N0 := Fr.nil n0
  have pre0 : ∀ t, Steps p.tables e below (s₁.setTop (mkF m 0 #[.val (.ref dd)] [])) t → Steps p.tables e below (s₁.setTop (entryFrame m #[(.ref dd)] 1)) t := fun t k => castTop rfl k
  obtain ⟨T1, X1, e1, st1⟩ := getF X0 hx hZ hown (host := "") (Or.inl (ow 427 rfl)) Via.refl e0 H0_F (g := (mkF m 1 #[.val (.ref dd)] [(.ref dd)])) rfl rfl (dx 1 rfl)
  have pre2 := fun (t : State) (k : Steps p.tables e below (T1.setTop (mkF m 12 #[.val (.ref dd)] [(.int 0)])) t) => pre0 t (by
    refine XS.aloadN X0.here hx rfl (dx 0 rfl) rfl rfl ?_
    refine st1 _ ?_
    refine XS.ifYes X1.here hx rfl (pc0 := 4) (pc' := 11) rfl (dx 2 rfl) rfl ((if0 _ _).trans (tlt (by decide : (-1 : Int32) < (0 : Int32))).1) (by decide) (by decide) ?_
    refine XS.iconst X1.here hx rfl (dx 3 rfl) ?_
    exact k)
  obtain ⟨fs, hr, hrun, hended, hW, hsame⟩ := X1.leave (v := some (.int 0)) (hlocks := BodyLoose.notSynchronized Bd) (fun h => by rw [Bd.returns] at h; cases h)
  refine ⟨_, _, pre2 _ ?_, hrun, hended, _, _, rfl, ?_, ⟨_, rfl⟩, hW, hsame.mono (by decide) (by decide)⟩
  · exact retN X1 hx (t := .boolean) Bd.returns (by simp) (dx 4 rfl) hr
  · show Q_hn1 Z dd h0 n0 _ T1.heap _
    rw [e1]
    exact ⟨rfl, N0, rfl⟩

def Q_alF (Z : State) (dd : Addr) (fn : Addr) (ed : Addr) (h0 : Heap) (n0 : Nat) (v : Option Value) (h : Heap) (L : List Loc) : Prop := v = none ∧ Fr n0 L ∧ h = h0
set_option maxRecDepth 65536 in
set_option maxHeartbeats 40000000 in
theorem rm_alF (l : Launch) (Z : State) (a0 : Array Value) (hw : own_HW a0 Z) (ws : List Jvm.Cond) (dd : Addr) (fn : Addr) (ed : Addr) (h0 : Heap) (n0 : Nat) (Z0 : n0 ≤ h0.size) (H0_F : f_10 Z h0 dd (.int 0)) (H1_F : f_11 Z h0 dd (.ref ed)) (H2_F : f_12 Z h0 dd (.int 0)) :
    own_M l yn_44 (Jvm.Cond.code yn_44 jdk_38_method_57_code 6 none :: ws) ({ frames := 1, cells := 0, slots := 0, locals := 12 } : Room) Z #[(.ref dd), (.ref fn)] h0 (Q_alF Z dd fn ed h0 n0) := by
  refine MetFree.of_bodySF (plainFor_of_name pn_5) hisR ?_
  intro p e s m args below meth c s₁ Bd hml0 hP hK
  have ow := @own_w a0 Z hw
  obtain ⟨rfl, hZ, hhp_⟩ := hP
  have hx := Bd.exec
  have hby := Bd.bytes
  have dx := @own_hd _ _ _ hby Dc51
  have hml : c.maxLocals = 6 := hml0
  have hown : s.vm.findClass "java/util/ArrayList" = some m.cls := findClass_of_methodNamed Bd.named
  have hnm := (name_of_methodNamed Bd.named Bd.method).1
  have X0 : Stand p l e ({ frames := 1, cells := 0, slots := 0, locals := 12 } : Room) s m _ below meth c s₁ [] 0 0 := Stand.of_body Bd
  have e0 : s₁.heap = h0 := by rw [← hhp_, Bd.state]; rfl
  have N0 := Fr.nil n0
  have pre0 : ∀ t, Steps p.tables e below (s₁.setTop (mkF m 0 #[.val (.ref dd), .val (.ref fn), .unset, .unset, .unset, .unset] [])) t → Steps p.tables e below (s₁.setTop (entryFrame m #[(.ref dd), (.ref fn)] 6)) t := fun t k => castTop rfl k
  obtain ⟨_, T1, Lc1, X1, hQ1, st1⟩ := own_rtC X0 (Jvm.LawKit.callS X0 hx (y := yn_14) hown (mvT hZ (ow 445 rfl)) (mvT hZ (ow 144 rfl)) (mvT hZ (ow 145 rfl)) (mvT hZ (ow 146 rfl)) (by decide) (backOf (W := 0) (rm_rn l Z a0 hw [] fn h0 n0 Z0 ) hZ (ow 146 rfl) (ow 145 rfl) (by decide) (by decide)) (g := (mkF m 1 #[.val (.ref dd), .val (.ref fn), .unset, .unset, .unset, .unset] [(.ref fn)])) rfl (by rw [hml]; rfl) (argsL := [(.ref fn)]) (rest := []) (lenOf pd_6 rfl) rfl (Nat.le_of_eq rfl) (dx 1 rfl) (fun _ _ => ⟨rfl, e0, (by decide : 0 + 0 ≤ _), (by decide : 0 + 0 ≤ _)⟩))
  obtain ⟨rfl, N1q, hq2⟩ := hQ1
  have N1 := Fr.app N0 N1q
  obtain ⟨T3, X3, e3, st3⟩ := getF X1 hx hZ hown (host := "") (Or.inl (ow 446 rfl)) (Via.of (ow 447 rfl)) hq2 H0_F (g := (mkF m 6 #[.val (.ref dd), .val (.ref fn), .unset, .unset, .unset, .unset] [(.ref dd)])) rfl rfl (dx 4 rfl)
  obtain ⟨T4, X4, e4, st4⟩ := getF X3 hx hZ hown (host := "") (Or.inl (ow 123 rfl)) Via.refl e3 H1_F (g := (mkF m 11 #[.val (.ref dd), .val (.ref fn), .val (.int 0), .unset, .unset, .unset] [(.ref dd)])) rfl rfl (dx 7 rfl)
  obtain ⟨T5, X5, e5, st5⟩ := getF X4 hx hZ hown (host := "") (Or.inl (ow 368 rfl)) Via.refl e4 H2_F (g := (mkF m 16 #[.val (.ref dd), .val (.ref fn), .val (.int 0), .val (.ref ed), .unset, .unset] [(.ref dd)])) rfl rfl (dx 10 rfl)
  obtain ⟨T6, X6, e6, st6⟩ := getF X5 hx hZ hown (host := "") (Or.inl (ow 446 rfl)) (Via.of (ow 447 rfl)) e5 H0_F (g := (mkF m 25 #[.val (.ref dd), .val (.ref fn), .val (.int 0), .val (.ref ed), .val (.int 0), .val (.int 0)] [(.ref dd)])) rfl rfl (dx 15 rfl)
  obtain ⟨T7, X7, e7, st7⟩ := getF X6 hx hZ hown (host := "") (Or.inl (ow 446 rfl)) (Via.of (ow 447 rfl)) e6 H0_F (g := (mkF m 58 #[.val (.ref dd), .val (.ref fn), .val (.int 0), .val (.ref ed), .val (.int 0), .val (.int 0)] [(.ref dd)])) rfl rfl (dx 22 rfl)
  have pre8 := fun (t : State) (k : Steps p.tables e below (T7.setTop (mkF m 73 #[.val (.ref dd), .val (.ref fn), .val (.int 0), .val (.ref ed), .val (.int 0), .val (.int 0)] [])) t) => pre0 t (by
    refine XS.aloadN X0.here hx rfl (dx 0 rfl) rfl rfl ?_
    refine st1 _ ?_
    refine XS.pop X1.here hx rfl (dx 2 rfl) rfl rfl ?_
    refine XS.aloadN X1.here hx rfl (dx 3 rfl) rfl rfl ?_
    refine st3 _ ?_
    refine XS.istoreN X3.here hx rfl (dx 5 rfl) rfl (l' := #[.val (.ref dd), .val (.ref fn), .val (.int 0), .unset, .unset, .unset]) rfl ?_
    refine XS.aloadN X3.here hx rfl (dx 6 rfl) rfl rfl ?_
    refine st4 _ ?_
    refine XS.astoreN X4.here hx rfl (dx 8 rfl) rfl rfl (l' := #[.val (.ref dd), .val (.ref fn), .val (.int 0), .val (.ref ed), .unset, .unset]) rfl ?_
    refine XS.aloadN X4.here hx rfl (dx 9 rfl) rfl rfl ?_
    refine st5 _ ?_
    refine XS.istore X5.here hx rfl (dx 11 rfl) rfl (l' := #[.val (.ref dd), .val (.ref fn), .val (.int 0), .val (.ref ed), .val (.int 0), .unset]) rfl ?_
    refine XS.iconst X5.here hx rfl (dx 12 rfl) ?_
    refine XS.istore X5.here hx rfl (dx 13 rfl) rfl (l' := #[.val (.ref dd), .val (.ref fn), .val (.int 0), .val (.ref ed), .val (.int 0), .val (.int 0)]) rfl ?_
    refine XS.aloadN X5.here hx rfl (dx 14 rfl) rfl rfl ?_
    refine st6 _ ?_
    refine XS.iloadN X6.here hx rfl (dx 16 rfl) rfl ?_
    refine XS.icmpNo X6.here hx rfl (dx 17 rfl) rfl (teq (by decide : (0 : Int32) = (0 : Int32))).2 ?_
    refine XS.iload X6.here hx rfl (dx 18 rfl) rfl ?_
    refine XS.iload X6.here hx rfl (dx 19 rfl) rfl ?_
    refine XS.icmpYes X6.here hx rfl (pc0 := 36) (pc' := 57) rfl (dx 20 rfl) rfl (flt (by decide : ¬ ((0 : Int32) < (0 : Int32)))).2.1 (by decide) (by decide) ?_
    refine XS.aloadN X6.here hx rfl (dx 21 rfl) rfl rfl ?_
    refine st7 _ ?_
    refine XS.iloadN X7.here hx rfl (dx 23 rfl) rfl ?_
    refine XS.icmpYes X7.here hx rfl (pc0 := 62) (pc' := 73) rfl (dx 24 rfl) rfl (teq (by decide : (0 : Int32) = (0 : Int32))).1 (by decide) (by decide) ?_
    exact k)
  obtain ⟨fs, hr, hrun, hended, hW, hsame⟩ := X7.leave (v := none) (hlocks := BodyLoose.notSynchronized Bd) (fun _ => rfl)
  refine ⟨_, _, pre8 _ ?_, hrun, hended, _, _, rfl, ?_, ⟨_, rfl⟩, hW, hsame.mono (by decide) (by decide)⟩
  · exact X7.returnOut hx Bd.returns (dx 25 rfl) hr
  · show Q_alF Z dd fn ed h0 n0 _ T7.heap _
    rw [e7]
    exact ⟨rfl, N1, rfl⟩

def Q_dpI (Z : State) (dd : Addr) (nk : Addr) (nw : Addr) (h0 : Heap) (n0 : Nat) (v : Option Value) (h : Heap) (L : List Loc) : Prop := v = none ∧ Fr n0 L ∧ Keep h0 h [dd]
set_option maxRecDepth 65536 in
set_option maxHeartbeats 40000000 in
theorem rm_dpI (l : Launch) (Z : State) (a0 : Array Value) (hw : own_HW a0 Z) (ws : List Jvm.Cond) (dd : Addr) (nk : Addr) (nw : Addr) (h0 : Heap) (n0 : Nat) (Z0 : n0 ≤ h0.size) (H0_E : e_54 Z h0 dd) (H1_S : Sta Z h0 "org/tallyrole/core/Dependencies" "NO_KEYS" "[I" (.ref nk)) (H2_S : Sta Z h0 "org/tallyrole/core/Dependencies" "NO_WORDS" "[J" (.ref nw)) (H3_F : f_52 Z h0 dd .null) (H4_F : f_53 Z h0 dd .null) (hg_dd : n0 ≤ dd) :
    own_M l yn_45 (Jvm.Cond.code yn_45 prog_36_method_1_code 1 none :: ws) ({ frames := 1, cells := 0, slots := 0, locals := 12 } : Room) Z #[(.ref dd)] h0 (Q_dpI Z dd nk nw h0 n0) := by
  refine MetFree.of_bodySF (plainFor_of_name pn_18) hisR ?_
  intro p e s m args below meth c s₁ Bd hml0 hP hK
  have ow := @own_w a0 Z hw
  obtain ⟨rfl, hZ, hhp_⟩ := hP
  have hx := Bd.exec
  have hby := Bd.bytes
  have dx := @own_hd _ _ _ hby Dc28
  have hml : c.maxLocals = 1 := hml0
  have hown : s.vm.findClass "org/tallyrole/core/Dependencies" = some m.cls := findClass_of_methodNamed Bd.named
  have hnm := (name_of_methodNamed Bd.named Bd.method).1
  have X0 : Stand p l e ({ frames := 1, cells := 0, slots := 0, locals := 12 } : Room) s m _ below meth c s₁ [] 0 0 := Stand.of_body Bd
  have e0 : s₁.heap = h0 := by rw [← hhp_, Bd.state]; rfl
  have N0 := Fr.nil n0
  have pre0 : ∀ t, Steps p.tables e below (s₁.setTop (mkF m 0 #[.val (.ref dd)] [])) t → Steps p.tables e below (s₁.setTop (entryFrame m #[(.ref dd)] 1)) t := fun t k => castTop rfl k
  have K0 : Keep h0 h0 [dd] := Keep.refl h0 [dd]
  obtain ⟨T1, X1, e1, st1⟩ := initO X0 hx hZ hown (ow 228 rfl) (ow 7 rfl) (ow 8 rfl) e0 (g := (mkF m 1 #[.val (.ref dd)] [(.ref dd)])) rfl (by rw [hml]; rfl) rfl (dx 1 rfl) (by decide) (W := 0) (Nat.le_of_eq rfl) (by decide)
  obtain ⟨T2, X2, e2, st2⟩ := getS2 X1 hx hZ hown (host := "") (Or.inl (ow 229 rfl)) Via.refl e1 H1_S (g := (mkF m 5 #[.val (.ref dd)] [(.ref dd)])) rfl (dx 3 rfl)
  obtain ⟨T3, h3, X3, e3, W3, st3⟩ := putF X2 hx hZ hown (host := "") (Or.inl (ow 231 rfl)) Via.refl e2 H3_F H0_E (Or.inl (ow 232 rfl)) (ow 223 rfl) (ty := (.array .int)) (by decide) rfl rfl (g := (mkF m 8 #[.val (.ref dd)] [(.ref nk), (.ref dd)])) rfl rfl (dx 4 rfl)
  have Fw3 : f_52 Z h3 dd (.ref nk) := H3_F.same W3
  have N3 := Fr.snoc X3 N0 hg_dd
  have K3 : Keep h0 h3 [dd] := K0.wr W3 (Or.inl (own_mem (i := 0) rfl))
  have S4 := H2_S.wr W3
  obtain ⟨T5, X5, e5, st5⟩ := getS2 X3 hx hZ hown (host := "") (Or.inl (ow 233 rfl)) Via.refl e3 S4 (g := (mkF m 12 #[.val (.ref dd)] [(.ref dd)])) rfl (dx 6 rfl)
  have F7 := H4_F.other W3 (Or.inr (sn_91 hw))
  have E8 := H0_E.wr W3
  obtain ⟨T6, h6, X6, e6, W6, st6⟩ := putF X5 hx hZ hown (host := "") (Or.inl (ow 235 rfl)) Via.refl e5 F7 E8 (Or.inl (ow 236 rfl)) (ow 223 rfl) (ty := (.array .long)) (by decide) rfl rfl (g := (mkF m 15 #[.val (.ref dd)] [(.ref nw), (.ref dd)])) rfl rfl (dx 7 rfl)
  have Fw6 : f_53 Z h6 dd (.ref nw) := F7.same W6
  have N6 := Fr.snoc X6 N3 hg_dd
  have K6 : Keep h0 h6 [dd] := K3.wr W6 (Or.inl (own_mem (i := 0) rfl))
  have pre9 := fun (t : State) (k : Steps p.tables e below (T6.setTop (mkF m 18 #[.val (.ref dd)] [])) t) => pre0 t (by
    refine XS.aloadN X0.here hx rfl (dx 0 rfl) rfl rfl ?_
    refine st1 _ ?_
    refine XS.aloadN X1.here hx rfl (dx 2 rfl) rfl rfl ?_
    refine st2 _ ?_
    refine st3 _ ?_
    refine XS.aloadN X3.here hx rfl (dx 5 rfl) rfl rfl ?_
    refine st5 _ ?_
    refine st6 _ ?_
    exact k)
  obtain ⟨fs, hr, hrun, hended, hW, hsame⟩ := X6.leave (v := none) (hlocks := BodyLoose.notSynchronized Bd) (fun _ => rfl)
  refine ⟨_, _, pre9 _ ?_, hrun, hended, _, _, rfl, ?_, ⟨_, rfl⟩, hW, hsame.mono (by decide) (by decide)⟩
  · exact X6.returnOut hx Bd.returns (dx 8 rfl) hr
  · show Q_dpI Z dd nk nw h0 n0 _ T6.heap _
    rw [e6]
    exact ⟨rfl, N6, K6⟩

def Q_gsz (Z : State) (gr : Addr) (k1 : Int32) (h0 : Heap) (n0 : Nat) (v : Option Value) (h : Heap) (L : List Loc) : Prop := v = some (.int k1) ∧ Fr n0 L ∧ h = h0
set_option maxRecDepth 65536 in
set_option maxHeartbeats 40000000 in
theorem rm_gsz (l : Launch) (Z : State) (a0 : Array Value) (hw : own_HW a0 Z) (ws : List Jvm.Cond) (gr : Addr) (k1 : Int32) (h0 : Heap) (n0 : Nat) (Z0 : n0 ≤ h0.size) (H0_F : f_38 Z h0 gr (.int k1)) :
    own_M l yn_46 (Jvm.Cond.code yn_46 prog_39_method_4_code 1 (some .int) :: ws) ({ frames := 0, cells := 0, slots := 0, locals := 0 } : Room) Z #[(.ref gr)] h0 (Q_gsz Z gr k1 h0 n0) := by
  refine MetFree.of_bodySF (plainFor_of_name pn_11) hisR ?_
  intro p e s m args below meth c s₁ Bd hml0 hP hK
  have ow := @own_w a0 Z hw
  obtain ⟨rfl, hZ, hhp_⟩ := hP
  have hx := Bd.exec
  have hby := Bd.bytes
  have dx := @own_hd _ _ _ hby Dc8
  have hml : c.maxLocals = 1 := hml0
  have hown : s.vm.findClass "org/tallyrole/core/Graph" = some m.cls := findClass_of_methodNamed Bd.named
  have hnm := (name_of_methodNamed Bd.named Bd.method).1
  have X0 : Stand p l e ({ frames := 0, cells := 0, slots := 0, locals := 0 } : Room) s m _ below meth c s₁ [] 0 0 := Stand.of_body Bd
  have e0 : s₁.heap = h0 := by rw [← hhp_, Bd.state]; rfl
  have N0 := Fr.nil n0
  have pre0 : ∀ t, Steps p.tables e below (s₁.setTop (mkF m 0 #[.val (.ref gr)] [])) t → Steps p.tables e below (s₁.setTop (entryFrame m #[(.ref gr)] 1)) t := fun t k => castTop rfl k
  obtain ⟨T1, X1, e1, st1⟩ := getF X0 hx hZ hown (host := "") (Or.inl (ow 72 rfl)) Via.refl e0 H0_F (g := (mkF m 1 #[.val (.ref gr)] [(.ref gr)])) rfl rfl (dx 1 rfl)
  have pre2 := fun (t : State) (k : Steps p.tables e below (T1.setTop (mkF m 4 #[.val (.ref gr)] [(.int k1)])) t) => pre0 t (by
    refine XS.aloadN X0.here hx rfl (dx 0 rfl) rfl rfl ?_
    refine st1 _ ?_
    exact k)
  obtain ⟨fs, hr, hrun, hended, hW, hsame⟩ := X1.leave (v := some (.int k1)) (hlocks := BodyLoose.notSynchronized Bd) (fun h => by rw [Bd.returns] at h; cases h)
  refine ⟨_, _, pre2 _ ?_, hrun, hended, _, _, rfl, ?_, ⟨_, rfl⟩, hW, hsame.mono (by decide) (by decide)⟩
  · exact retI X1 hx Bd.returns (dx 2 rfl) hr
  · show Q_gsz Z gr k1 h0 n0 _ T1.heap _
    rw [e1]
    exact ⟨rfl, N0, rfl⟩

def Q_ndE (Z : State) (gr : Addr) (tt : Addr) (id : Int32) (h0 : Heap) (n0 : Nat) (v : Option Value) (h : Heap) (L : List Loc) : Prop := v = some .null ∧ Fr n0 L ∧ h = h0
set_option maxRecDepth 65536 in
set_option maxHeartbeats 40000000 in
theorem rm_ndE (l : Launch) (Z : State) (a0 : Array Value) (hw : own_HW a0 Z) (ws : List Jvm.Cond) (gr : Addr) (tt : Addr) (id : Int32) (h0 : Heap) (n0 : Nat) (Z0 : n0 ≤ h0.size) (H0_F : f_30 Z h0 gr (.ref tt)) (H1_E : e_29 Z h0 tt) (H2_F : f_27 Z h0 tt .null) (H3_F : f_28 Z h0 tt (.int 0)) :
    own_M l yn_47 (Jvm.Cond.code yn_47 prog_39_method_5_code 2 (some (.object "org/tallyrole/core/Graph$Node")) :: ws) ({ frames := 1, cells := 0, slots := 0, locals := 15 } : Room) Z #[(.ref gr), (.int id)] h0 (Q_ndE Z gr tt id h0 n0) := by
  refine MetFree.of_bodySF (plainFor_of_name pn_11) hisR ?_
  intro p e s m args below meth c s₁ Bd hml0 hP hK
  have ow := @own_w a0 Z hw
  obtain ⟨rfl, hZ, hhp_⟩ := hP
  have hx := Bd.exec
  have hby := Bd.bytes
  have dx := @own_hd _ _ _ hby Dc9
  have hml : c.maxLocals = 2 := hml0
  have hown : s.vm.findClass "org/tallyrole/core/Graph" = some m.cls := findClass_of_methodNamed Bd.named
  have hnm := (name_of_methodNamed Bd.named Bd.method).1
  have X0 : Stand p l e ({ frames := 1, cells := 0, slots := 0, locals := 15 } : Room) s m _ below meth c s₁ [] 0 0 := Stand.of_body Bd
  have e0 : s₁.heap = h0 := by rw [← hhp_, Bd.state]; rfl
  have N0 := Fr.nil n0
  have pre0 : ∀ t, Steps p.tables e below (s₁.setTop (mkF m 0 #[.val (.ref gr), .val (.int id)] [])) t → Steps p.tables e below (s₁.setTop (entryFrame m #[(.ref gr), (.int id)] 2)) t := fun t k => castTop rfl k
  obtain ⟨T1, X1, e1, st1⟩ := getF X0 hx hZ hown (host := "") (Or.inl (ow 15 rfl)) Via.refl e0 H0_F (g := (mkF m 1 #[.val (.ref gr), .val (.int id)] [(.ref gr)])) rfl rfl (dx 1 rfl)
  obtain ⟨cq2, kq2, q2a, q2b, q2c⟩ := isOf hZ e1 H1_E
  obtain ⟨_, T2, Lc2, X2, hQ2, st2⟩ := own_rt X1 (X1.virtualBack hx (y := yn_12) (z := yn_12) hown (mvT hZ (ow 79 rfl)) (mvT hZ (ow 80 rfl)) (notFace_of_selects (args := #[]) (mvT hZ (ow 82 rfl))) (mvT hZ (ow 82 rfl)) (mvT hZ (ow 81 rfl)) (by decide) (backOf (W := 0) (rm_gtE l Z a0 hw [] tt id h0 n0 Z0 H2_F) hZ (ow 83 rfl) (ow 11 rfl) (by decide) (by decide)) q2a q2c (g := (mkF m 5 #[.val (.ref gr), .val (.int id)] [(.int id), (.ref tt)])) rfl (by rw [hml]; rfl) (Steps.refl _) (argsL := [(.int id)]) (rest := []) (lenOf pd_3 rfl) rfl (Nat.le_of_eq rfl) (dx 3 rfl) (fun _ _ => ⟨rfl, e1, (by decide : 0 + 0 ≤ _), (by decide : 0 + 0 ≤ _)⟩))
  obtain ⟨rfl, N2q, hq3⟩ := hQ2
  have N2 := Fr.app N0 N2q
  have pre5 := fun (t : State) (k : Steps p.tables e below (T2.setTop (mkF m 11 #[.val (.ref gr), .val (.int id)] [.null])) t) => pre0 t (by
    refine XS.aloadN X0.here hx rfl (dx 0 rfl) rfl rfl ?_
    refine st1 _ ?_
    refine XS.iloadN X1.here hx rfl (dx 2 rfl) rfl ?_
    refine st2.trans ?_
    refine X2.checkcastNull hx (g := (mkF m 8 #[.val (.ref gr), .val (.int id)] [.null])) rfl rfl (dx 4 rfl) _ ?_
    exact k)
  obtain ⟨fs, hr, hrun, hended, hW, hsame⟩ := X2.leave (v := some .null) (hlocks := BodyLoose.notSynchronized Bd) (fun h => by rw [Bd.returns] at h; cases h)
  refine ⟨_, _, pre5 _ ?_, hrun, hended, _, _, rfl, ?_, ⟨_, rfl⟩, hW, hsame.mono (by decide) (by decide)⟩
  · jvm_step X2.here [X2.here.top, hx, (dx 5 rfl), X2.method', Bd.returns, Value.isRef, FieldType.isReference]
    first | (intro acts; rw [hr _ acts rfl rfl rfl]) | rw [hr _ _ rfl rfl rfl]
    exact Steps.refl _
  · show Q_ndE Z gr tt id h0 n0 _ T2.heap _
    rw [hq3]
    exact ⟨rfl, N2, rfl⟩

def Q_ndN (Z : State) (gr : Addr) (tt : Addr) (ch : Addr) (mm : Int32) (id : Int32) (h0 : Heap) (n0 : Nat) (v : Option Value) (h : Heap) (L : List Loc) : Prop := v = some .null ∧ Fr n0 L ∧ h = h0
set_option maxRecDepth 65536 in
set_option maxHeartbeats 40000000 in
theorem rm_ndN (l : Launch) (Z : State) (a0 : Array Value) (hw : own_HW a0 Z) (ws : List Jvm.Cond) (gr : Addr) (tt : Addr) (ch : Addr) (mm : Int32) (id : Int32) (h0 : Heap) (n0 : Nat) (Z0 : n0 ≤ h0.size) (H0_F : f_30 Z h0 gr (.ref tt)) (H1_E : e_29 Z h0 tt) (H2_F : f_27 Z h0 tt (.ref ch)) (H3_F : f_28 Z h0 tt (.int 0)) (H4_E : e_26 Z h0 ch) (H5_F : f_25 Z h0 ch (.int mm)) (hab : ¬ id < (0 : Int32) → ¬ (31 : Int32) < ((id.toUInt32 >>> ((0 : Int32) &&& 31).toUInt32).toInt32) → (mm &&& ((1 : Int32) <<< ((((id.toUInt32 >>> ((0 : Int32) &&& 31).toUInt32).toInt32) &&& (31 : Int32)) &&& 31))) = (0 : Int32)) :
    own_M l yn_47 (Jvm.Cond.code yn_47 prog_39_method_5_code 2 (some (.object "org/tallyrole/core/Graph$Node")) :: ws) ({ frames := 2, cells := 0, slots := 0, locals := 29 } : Room) Z #[(.ref gr), (.int id)] h0 (Q_ndN Z gr tt ch mm id h0 n0) := by
  refine MetFree.of_bodySF (plainFor_of_name pn_11) hisR ?_
  intro p e s m args below meth c s₁ Bd hml0 hP hK
  have ow := @own_w a0 Z hw
  obtain ⟨rfl, hZ, hhp_⟩ := hP
  have hx := Bd.exec
  have hby := Bd.bytes
  have dx := @own_hd _ _ _ hby Dc9
  have hml : c.maxLocals = 2 := hml0
  have hown : s.vm.findClass "org/tallyrole/core/Graph" = some m.cls := findClass_of_methodNamed Bd.named
  have hnm := (name_of_methodNamed Bd.named Bd.method).1
  have X0 : Stand p l e ({ frames := 2, cells := 0, slots := 0, locals := 29 } : Room) s m _ below meth c s₁ [] 0 0 := Stand.of_body Bd
  have e0 : s₁.heap = h0 := by rw [← hhp_, Bd.state]; rfl
  have N0 := Fr.nil n0
  have pre0 : ∀ t, Steps p.tables e below (s₁.setTop (mkF m 0 #[.val (.ref gr), .val (.int id)] [])) t → Steps p.tables e below (s₁.setTop (entryFrame m #[(.ref gr), (.int id)] 2)) t := fun t k => castTop rfl k
  obtain ⟨T1, X1, e1, st1⟩ := getF X0 hx hZ hown (host := "") (Or.inl (ow 15 rfl)) Via.refl e0 H0_F (g := (mkF m 1 #[.val (.ref gr), .val (.int id)] [(.ref gr)])) rfl rfl (dx 1 rfl)
  obtain ⟨cq2, kq2, q2a, q2b, q2c⟩ := isOf hZ e1 H1_E
  obtain ⟨_, T2, Lc2, X2, hQ2, st2⟩ := own_rt X1 (X1.virtualBack hx (y := yn_12) (z := yn_12) hown (mvT hZ (ow 79 rfl)) (mvT hZ (ow 80 rfl)) (notFace_of_selects (args := #[]) (mvT hZ (ow 82 rfl))) (mvT hZ (ow 82 rfl)) (mvT hZ (ow 81 rfl)) (by decide) (backOf (W := 0) (rm_gtN l Z a0 hw [] tt ch mm id h0 n0 Z0 H2_F H3_F H4_E H5_F hab) hZ (ow 83 rfl) (ow 11 rfl) (by decide) (by decide)) q2a q2c (g := (mkF m 5 #[.val (.ref gr), .val (.int id)] [(.int id), (.ref tt)])) rfl (by rw [hml]; rfl) (Steps.refl _) (argsL := [(.int id)]) (rest := []) (lenOf pd_3 rfl) rfl (Nat.le_of_eq rfl) (dx 3 rfl) (fun _ _ => ⟨rfl, e1, (by decide : 0 + 0 ≤ _), (by decide : 0 + 0 ≤ _)⟩))
  obtain ⟨rfl, N2q, hq3⟩ := hQ2
  have N2 := Fr.app N0 N2q
  have pre5 := fun (t : State) (k : Steps p.tables e below (T2.setTop (mkF m 11 #[.val (.ref gr), .val (.int id)] [.null])) t) => pre0 t (by
    refine XS.aloadN X0.here hx rfl (dx 0 rfl) rfl rfl ?_
    refine st1 _ ?_
    refine XS.iloadN X1.here hx rfl (dx 2 rfl) rfl ?_
    refine st2.trans ?_
    refine X2.checkcastNull hx (g := (mkF m 8 #[.val (.ref gr), .val (.int id)] [.null])) rfl rfl (dx 4 rfl) _ ?_
    exact k)
  obtain ⟨fs, hr, hrun, hended, hW, hsame⟩ := X2.leave (v := some .null) (hlocks := BodyLoose.notSynchronized Bd) (fun h => by rw [Bd.returns] at h; cases h)
  refine ⟨_, _, pre5 _ ?_, hrun, hended, _, _, rfl, ?_, ⟨_, rfl⟩, hW, hsame.mono (by decide) (by decide)⟩
  · jvm_step X2.here [X2.here.top, hx, (dx 5 rfl), X2.method', Bd.returns, Value.isRef, FieldType.isReference]
    first | (intro acts; rw [hr _ acts rfl rfl rfl]) | rw [hr _ _ rfl rfl rfl]
    exact Steps.refl _
  · show Q_ndN Z gr tt ch mm id h0 n0 _ T2.heap _
    rw [hq3]
    exact ⟨rfl, N2, rfl⟩

def Q_ndG (Z : State) (gr : Addr) (tt : Addr) (ch : Addr) (ar : Addr) (ka : ClassId) (mm : Int32) (ln : Int32) (vs : List Value) (id : Int32) (r : Addr) (h0 : Heap) (n0 : Nat) (v : Option Value) (h : Heap) (L : List Loc) : Prop := v = some (.ref r) ∧ Fr n0 L ∧ h = h0
set_option maxRecDepth 65536 in
set_option maxHeartbeats 40000000 in
theorem rm_ndG (l : Launch) (Z : State) (a0 : Array Value) (hw : own_HW a0 Z) (ws : List Jvm.Cond) (gr : Addr) (tt : Addr) (ch : Addr) (ar : Addr) (ka : ClassId) (mm : Int32) (ln : Int32) (vs : List Value) (id : Int32) (r : Addr) (h0 : Heap) (n0 : Nat) (Z0 : n0 ≤ h0.size) (H0_F : f_30 Z h0 gr (.ref tt)) (H1_E : e_29 Z h0 tt) (H2_F : f_27 Z h0 tt (.ref ch)) (H3_F : f_28 Z h0 tt (.int 0)) (H4_E : e_26 Z h0 ch) (H5_F : f_25 Z h0 ch (.int mm)) (H6_F : f_23 Z h0 ch (.ref ar)) (H7_A : Arv Z h0 ar ka (.object "java/lang/Object") ln vs .null) (hi0 : ¬ (id < (0 : Int32))) (hi31 : ¬ ((31 : Int32) < ((id.toUInt32 >>> ((0 : Int32) &&& 31).toUInt32).toInt32))) (hp : ¬ ((mm &&& ((1 : Int32) <<< ((((id.toUInt32 >>> ((0 : Int32) &&& 31).toUInt32).toInt32) &&& (31 : Int32)) &&& 31))) = (0 : Int32))) (hv : own_ref vs ln (own_bc (mm &&& (((1 : Int32) <<< ((((id.toUInt32 >>> ((0 : Int32) &&& 31).toUInt32).toInt32) &&& (31 : Int32)) &&& 31)) - (1 : Int32)))) r) (H12_E : e_22 Z h0 r) :
    own_M l yn_47 (Jvm.Cond.code yn_47 prog_39_method_5_code 2 (some (.object "org/tallyrole/core/Graph$Node")) :: ws) ({ frames := 3, cells := 0, slots := 0, locals := 42 } : Room) Z #[(.ref gr), (.int id)] h0 (Q_ndG Z gr tt ch ar ka mm ln vs id r h0 n0) := by
  refine MetFree.of_bodySF (plainFor_of_name pn_11) hisR ?_
  intro p e s m args below meth c s₁ Bd hml0 hP hK
  have ow := @own_w a0 Z hw
  obtain ⟨rfl, hZ, hhp_⟩ := hP
  have hx := Bd.exec
  have hby := Bd.bytes
  have dx := @own_hd _ _ _ hby Dc9
  have hml : c.maxLocals = 2 := hml0
  have hown : s.vm.findClass "org/tallyrole/core/Graph" = some m.cls := findClass_of_methodNamed Bd.named
  have hnm := (name_of_methodNamed Bd.named Bd.method).1
  have X0 : Stand p l e ({ frames := 3, cells := 0, slots := 0, locals := 42 } : Room) s m _ below meth c s₁ [] 0 0 := Stand.of_body Bd
  have e0 : s₁.heap = h0 := by rw [← hhp_, Bd.state]; rfl
  have N0 := Fr.nil n0
  have pre0 : ∀ t, Steps p.tables e below (s₁.setTop (mkF m 0 #[.val (.ref gr), .val (.int id)] [])) t → Steps p.tables e below (s₁.setTop (entryFrame m #[(.ref gr), (.int id)] 2)) t := fun t k => castTop rfl k
  obtain ⟨T1, X1, e1, st1⟩ := getF X0 hx hZ hown (host := "") (Or.inl (ow 15 rfl)) Via.refl e0 H0_F (g := (mkF m 1 #[.val (.ref gr), .val (.int id)] [(.ref gr)])) rfl rfl (dx 1 rfl)
  obtain ⟨cq2, kq2, q2a, q2b, q2c⟩ := isOf hZ e1 H1_E
  obtain ⟨_, T2, Lc2, X2, hQ2, st2⟩ := own_rt X1 (X1.virtualBack hx (y := yn_12) (z := yn_12) hown (mvT hZ (ow 79 rfl)) (mvT hZ (ow 80 rfl)) (notFace_of_selects (args := #[]) (mvT hZ (ow 82 rfl))) (mvT hZ (ow 82 rfl)) (mvT hZ (ow 81 rfl)) (by decide) (backOf (W := 0) (rm_gtG l Z a0 hw [] tt ch ar ka mm ln vs id r h0 n0 Z0 H2_F H3_F H4_E H5_F H6_F H7_A hi0 hi31 hp hv) hZ (ow 83 rfl) (ow 11 rfl) (by decide) (by decide)) q2a q2c (g := (mkF m 5 #[.val (.ref gr), .val (.int id)] [(.int id), (.ref tt)])) rfl (by rw [hml]; rfl) (Steps.refl _) (argsL := [(.int id)]) (rest := []) (lenOf pd_3 rfl) rfl (Nat.le_of_eq rfl) (dx 3 rfl) (fun _ _ => ⟨rfl, e1, (by decide : 0 + 0 ≤ _), (by decide : 0 + 0 ≤ _)⟩))
  obtain ⟨rfl, N2q, hq3⟩ := hQ2
  have N2 := Fr.app N0 N2q
  obtain ⟨T4, X4, e4, st4⟩ := castY X2 hx hZ hown (ow 91 rfl) hq3 (Ins.self H12_E) (g := (mkF m 8 #[.val (.ref gr), .val (.int id)] [(.ref r)])) rfl rfl (dx 4 rfl)
  have pre5 := fun (t : State) (k : Steps p.tables e below (T4.setTop (mkF m 11 #[.val (.ref gr), .val (.int id)] [(.ref r)])) t) => pre0 t (by
    refine XS.aloadN X0.here hx rfl (dx 0 rfl) rfl rfl ?_
    refine st1 _ ?_
    refine XS.iloadN X1.here hx rfl (dx 2 rfl) rfl ?_
    refine st2.trans ?_
    refine st4 _ ?_
    exact k)
  obtain ⟨fs, hr, hrun, hended, hW, hsame⟩ := X4.leave (v := some (.ref r)) (hlocks := BodyLoose.notSynchronized Bd) (fun h => by rw [Bd.returns] at h; cases h)
  refine ⟨_, _, pre5 _ ?_, hrun, hended, _, _, rfl, ?_, ⟨_, rfl⟩, hW, hsame.mono (by decide) (by decide)⟩
  · jvm_step X4.here [X4.here.top, hx, (dx 5 rfl), X4.method', Bd.returns, Value.isRef, FieldType.isReference]
    first | (intro acts; rw [hr _ acts rfl rfl rfl]) | rw [hr _ _ rfl rfl rfl]
    exact Steps.refl _
  · show Q_ndG Z gr tt ch ar ka mm ln vs id r h0 n0 _ T4.heap _
    rw [e4]
    exact ⟨rfl, N2, rfl⟩

def Q_wrG (Z : State) (gr : Addr) (tt : Addr) (ch : Addr) (ar : Addr) (ka : ClassId) (mm : Int32) (ln : Int32) (vs : List Value) (id : Int32) (r : Addr) (gg : Addr) (h0 : Heap) (n0 : Nat) (v : Option Value) (h : Heap) (L : List Loc) : Prop := v = some (.ref r) ∧ Fr n0 L ∧ h = h0
set_option maxRecDepth 65536 in
set_option maxHeartbeats 40000000 in
theorem rm_wrG (l : Launch) (Z : State) (a0 : Array Value) (hw : own_HW a0 Z) (ws : List Jvm.Cond) (gr : Addr) (tt : Addr) (ch : Addr) (ar : Addr) (ka : ClassId) (mm : Int32) (ln : Int32) (vs : List Value) (id : Int32) (r : Addr) (gg : Addr) (h0 : Heap) (n0 : Nat) (Z0 : n0 ≤ h0.size) (H0_F : f_30 Z h0 gr (.ref tt)) (H1_F : f_35 Z h0 gr (.ref gg)) (H2_E : e_29 Z h0 tt) (H3_F : f_27 Z h0 tt (.ref ch)) (H4_F : f_28 Z h0 tt (.int 0)) (H5_E : e_26 Z h0 ch) (H6_F : f_25 Z h0 ch (.int mm)) (H7_F : f_23 Z h0 ch (.ref ar)) (H8_A : Arv Z h0 ar ka (.object "java/lang/Object") ln vs .null) (hi0 : ¬ (id < (0 : Int32))) (hi31 : ¬ ((31 : Int32) < ((id.toUInt32 >>> ((0 : Int32) &&& 31).toUInt32).toInt32))) (hp : ¬ ((mm &&& ((1 : Int32) <<< ((((id.toUInt32 >>> ((0 : Int32) &&& 31).toUInt32).toInt32) &&& (31 : Int32)) &&& 31))) = (0 : Int32))) (hv : own_ref vs ln (own_bc (mm &&& (((1 : Int32) <<< ((((id.toUInt32 >>> ((0 : Int32) &&& 31).toUInt32).toInt32) &&& (31 : Int32)) &&& 31)) - (1 : Int32)))) r) (H13_E : e_22 Z h0 r) (H14_F : f_21 Z h0 r (.ref gg)) :
    own_M l yn_48 (Jvm.Cond.code yn_48 prog_39_method_8_code 3 (some (.object "org/tallyrole/core/Graph$Node")) :: ws) ({ frames := 3, cells := 0, slots := 0, locals := 42 } : Room) Z #[(.ref gr), (.int id)] h0 (Q_wrG Z gr tt ch ar ka mm ln vs id r gg h0 n0) := by
  refine MetFree.of_bodySF (plainFor_of_name pn_11) hisR ?_
  intro p e s m args below meth c s₁ Bd hml0 hP hK
  have ow := @own_w a0 Z hw
  obtain ⟨rfl, hZ, hhp_⟩ := hP
  have hx := Bd.exec
  have hby := Bd.bytes
  have dx := @own_hd _ _ _ hby Dc52
  have hml : c.maxLocals = 3 := hml0
  have hown : s.vm.findClass "org/tallyrole/core/Graph" = some m.cls := findClass_of_methodNamed Bd.named
  have hnm := (name_of_methodNamed Bd.named Bd.method).1
  have X0 : Stand p l e ({ frames := 3, cells := 0, slots := 0, locals := 42 } : Room) s m _ below meth c s₁ [] 0 0 := Stand.of_body Bd
  have e0 : s₁.heap = h0 := by rw [← hhp_, Bd.state]; rfl
  have N0 := Fr.nil n0
  have pre0 : ∀ t, Steps p.tables e below (s₁.setTop (mkF m 0 #[.val (.ref gr), .val (.int id), .unset] [])) t → Steps p.tables e below (s₁.setTop (entryFrame m #[(.ref gr), (.int id)] 3)) t := fun t k => castTop rfl k
  obtain ⟨T1, X1, e1, st1⟩ := getF X0 hx hZ hown (host := "") (Or.inl (ow 15 rfl)) Via.refl e0 H0_F (g := (mkF m 1 #[.val (.ref gr), .val (.int id), .unset] [(.ref gr)])) rfl rfl (dx 1 rfl)
  obtain ⟨cq2, kq2, q2a, q2b, q2c⟩ := isOf hZ e1 H2_E
  obtain ⟨_, T2, Lc2, X2, hQ2, st2⟩ := own_rt X1 (X1.virtualBack hx (y := yn_12) (z := yn_12) hown (mvT hZ (ow 79 rfl)) (mvT hZ (ow 80 rfl)) (notFace_of_selects (args := #[]) (mvT hZ (ow 82 rfl))) (mvT hZ (ow 82 rfl)) (mvT hZ (ow 81 rfl)) (by decide) (backOf (W := 0) (rm_gtG l Z a0 hw [] tt ch ar ka mm ln vs id r h0 n0 Z0 H3_F H4_F H5_E H6_F H7_F H8_A hi0 hi31 hp hv) hZ (ow 83 rfl) (ow 11 rfl) (by decide) (by decide)) q2a q2c (g := (mkF m 5 #[.val (.ref gr), .val (.int id), .unset] [(.int id), (.ref tt)])) rfl (by rw [hml]; rfl) (Steps.refl _) (argsL := [(.int id)]) (rest := []) (lenOf pd_3 rfl) rfl (Nat.le_of_eq rfl) (dx 3 rfl) (fun _ _ => ⟨rfl, e1, (by decide : 0 + 0 ≤ _), (by decide : 0 + 0 ≤ _)⟩))
  obtain ⟨rfl, N2q, hq3⟩ := hQ2
  have N2 := Fr.app N0 N2q
  obtain ⟨T4, X4, e4, st4⟩ := castY X2 hx hZ hown (ow 91 rfl) hq3 (Ins.self H13_E) (g := (mkF m 8 #[.val (.ref gr), .val (.int id), .unset] [(.ref r)])) rfl rfl (dx 4 rfl)
  obtain ⟨T6, X6, e6, st6⟩ := getF X4 hx hZ hown (host := "") (Or.inl (ow 28 rfl)) Via.refl e4 H1_F (g := (mkF m 17 #[.val (.ref gr), .val (.int id), .val (.ref r)] [(.ref gr), (.ref gg)])) rfl rfl (dx 9 rfl)
  have pre7 := fun (t : State) (k : Steps p.tables e below (T6.setTop (mkF m 50 #[.val (.ref gr), .val (.int id), .val (.ref r)] [(.ref r)])) t) => pre0 t (by
    refine XS.aloadN X0.here hx rfl (dx 0 rfl) rfl rfl ?_
    refine st1 _ ?_
    refine XS.iloadN X1.here hx rfl (dx 2 rfl) rfl ?_
    refine st2.trans ?_
    refine st4 _ ?_
    refine XS.astoreN X4.here hx rfl (dx 5 rfl) rfl rfl (l' := #[.val (.ref gr), .val (.int id), .val (.ref r)]) rfl ?_
    refine XS.aloadN X4.here hx rfl (dx 6 rfl) rfl rfl ?_
    refine own_getRef X4 hx hZ hown (ow 453 rfl) e4 H14_F (g := (mkF m 13 #[.val (.ref gr), .val (.int id), .val (.ref r)] [(.ref r)])) rfl rfl (dx 7 rfl) _ ?_
    refine XS.aloadN X4.here hx rfl (dx 8 rfl) rfl rfl ?_
    refine st6 _ ?_
    refine Jvm.RoadKit.acmp (g := (mkF m 20 #[.val (.ref gr), .val (.int id), .val (.ref r)] [(.ref gg), (.ref gg)])) X6 hx rfl rfl rfl (pc0 := 20) (pc' := 49) (same := true) rfl (dx 10 rfl) rfl (decide_eq_true rfl) (by decide) (by decide) ?_
    refine XS.aloadN X6.here hx rfl (dx 11 rfl) rfl rfl ?_
    exact k)
  obtain ⟨fs, hr, hrun, hended, hW, hsame⟩ := X6.leave (v := some (.ref r)) (hlocks := BodyLoose.notSynchronized Bd) (fun h => by rw [Bd.returns] at h; cases h)
  refine ⟨_, _, pre7 _ ?_, hrun, hended, _, _, rfl, ?_, ⟨_, rfl⟩, hW, hsame.mono (by decide) (by decide)⟩
  · jvm_step X6.here [X6.here.top, hx, (dx 12 rfl), X6.method', Bd.returns, Value.isRef, FieldType.isReference]
    first | (intro acts; rw [hr _ acts rfl rfl rfl]) | rw [hr _ _ rfl rfl rfl]
    exact Steps.refl _
  · show Q_wrG Z gr tt ch ar ka mm ln vs id r gg h0 n0 _ T6.heap _
    rw [e6]
    exact ⟨rfl, N2, rfl⟩

def Q_dfE (Z : State) (gr : Addr) (tt : Addr) (ch : Addr) (ar : Addr) (ka : ClassId) (mm : Int32) (ln : Int32) (vs : List Value) (fr : Int32) (io : Int32) (wf : Addr) (wi : Addr) (em : Addr) (h0 : Heap) (n0 : Nat) (v : Option Value) (h : Heap) (L : List Loc) : Prop := v = some .null ∧ Fr n0 L ∧ h = h0
set_option maxRecDepth 65536 in
set_option maxHeartbeats 40000000 in
theorem rm_dfE (l : Launch) (Z : State) (a0 : Array Value) (hw : own_HW a0 Z) (ws : List Jvm.Cond) (gr : Addr) (tt : Addr) (ch : Addr) (ar : Addr) (ka : ClassId) (mm : Int32) (ln : Int32) (vs : List Value) (fr : Int32) (io : Int32) (wf : Addr) (wi : Addr) (em : Addr) (h0 : Heap) (n0 : Nat) (Z0 : n0 ≤ h0.size) (H0_F : f_30 Z h0 gr (.ref tt)) (H1_E : e_29 Z h0 tt) (H2_F : f_27 Z h0 tt (.ref ch)) (H3_F : f_28 Z h0 tt (.int 0)) (H4_E : e_26 Z h0 ch) (H5_F : f_25 Z h0 ch (.int mm)) (H6_F : f_23 Z h0 ch (.ref ar)) (H7_A : Arv Z h0 ar ka (.object "java/lang/Object") ln vs .null) (hi0f : ¬ (fr < (0 : Int32))) (hi31f : ¬ ((31 : Int32) < ((fr.toUInt32 >>> ((0 : Int32) &&& 31).toUInt32).toInt32))) (hpf : ¬ ((mm &&& ((1 : Int32) <<< ((((fr.toUInt32 >>> ((0 : Int32) &&& 31).toUInt32).toInt32) &&& (31 : Int32)) &&& 31))) = (0 : Int32))) (hvf : own_ref vs ln (own_bc (mm &&& (((1 : Int32) <<< ((((fr.toUInt32 >>> ((0 : Int32) &&& 31).toUInt32).toInt32) &&& (31 : Int32)) &&& 31)) - (1 : Int32)))) wf) (hi0o : ¬ (io < (0 : Int32))) (hi31o : ¬ ((31 : Int32) < ((io.toUInt32 >>> ((0 : Int32) &&& 31).toUInt32).toInt32))) (hpo : ¬ ((mm &&& ((1 : Int32) <<< ((((io.toUInt32 >>> ((0 : Int32) &&& 31).toUInt32).toInt32) &&& (31 : Int32)) &&& 31))) = (0 : Int32))) (hvo : own_ref vs ln (own_bc (mm &&& (((1 : Int32) <<< ((((io.toUInt32 >>> ((0 : Int32) &&& 31).toUInt32).toInt32) &&& (31 : Int32)) &&& 31)) - (1 : Int32)))) wi) (H16_E : e_22 Z h0 wf) (H17_E : e_22 Z h0 wi) (H18_F : f_19 Z h0 wf (.ref em)) (H19_F : f_19 Z h0 wi (.ref em)) (H20_E : e_29 Z h0 em) (H21_F : f_27 Z h0 em .null) :
    own_M l yn_49 (Jvm.Cond.code yn_49 prog_39_method_23_code 7 (some (.object "org/tallyrole/core/Dependencies")) :: ws) ({ frames := 3, cells := 0, slots := 0, locals := 42 } : Room) Z #[(.ref gr), (.int fr), (.int io)] h0 (Q_dfE Z gr tt ch ar ka mm ln vs fr io wf wi em h0 n0) := by
  refine MetFree.of_bodySF (plainFor_of_name pn_11) hisR ?_
  intro p e s m args below meth c s₁ Bd hml0 hP hK
  have ow := @own_w a0 Z hw
  obtain ⟨rfl, hZ, hhp_⟩ := hP
  have hx := Bd.exec
  have hby := Bd.bytes
  have dx := @own_hd _ _ _ hby Dc31
  have hml : c.maxLocals = 7 := hml0
  have hown : s.vm.findClass "org/tallyrole/core/Graph" = some m.cls := findClass_of_methodNamed Bd.named
  have hnm := (name_of_methodNamed Bd.named Bd.method).1
  have X0 : Stand p l e ({ frames := 3, cells := 0, slots := 0, locals := 42 } : Room) s m _ below meth c s₁ [] 0 0 := Stand.of_body Bd
  have e0 : s₁.heap = h0 := by rw [← hhp_, Bd.state]; rfl
  have N0 := Fr.nil n0
  have pre0 : ∀ t, Steps p.tables e below (s₁.setTop (mkF m 0 #[.val (.ref gr), .val (.int fr), .val (.int io), .unset, .unset, .unset, .unset] [])) t → Steps p.tables e below (s₁.setTop (entryFrame m #[(.ref gr), (.int fr), (.int io)] 7)) t := fun t k => castTop rfl k
  obtain ⟨T1, X1, e1, st1⟩ := getF X0 hx hZ hown (host := "") (Or.inl (ow 15 rfl)) Via.refl e0 H0_F (g := (mkF m 1 #[.val (.ref gr), .val (.int fr), .val (.int io), .unset, .unset, .unset, .unset] [(.ref gr)])) rfl rfl (dx 1 rfl)
  obtain ⟨cq2, kq2, q2a, q2b, q2c⟩ := isOf hZ e1 H1_E
  obtain ⟨_, T2, Lc2, X2, hQ2, st2⟩ := own_rt X1 (X1.virtualBack hx (y := yn_12) (z := yn_12) hown (mvT hZ (ow 79 rfl)) (mvT hZ (ow 80 rfl)) (notFace_of_selects (args := #[]) (mvT hZ (ow 82 rfl))) (mvT hZ (ow 82 rfl)) (mvT hZ (ow 81 rfl)) (by decide) (backOf (W := 0) (rm_gtG l Z a0 hw [] tt ch ar ka mm ln vs fr wf h0 n0 Z0 H2_F H3_F H4_E H5_F H6_F H7_A hi0f hi31f hpf hvf) hZ (ow 83 rfl) (ow 11 rfl) (by decide) (by decide)) q2a q2c (g := (mkF m 5 #[.val (.ref gr), .val (.int fr), .val (.int io), .unset, .unset, .unset, .unset] [(.int fr), (.ref tt)])) rfl (by rw [hml]; rfl) (Steps.refl _) (argsL := [(.int fr)]) (rest := []) (lenOf pd_3 rfl) rfl (Nat.le_of_eq rfl) (dx 3 rfl) (fun _ _ => ⟨rfl, e1, (by decide : 0 + 0 ≤ _), (by decide : 0 + 0 ≤ _)⟩))
  obtain ⟨rfl, N2q, hq3⟩ := hQ2
  have N2 := Fr.app N0 N2q
  obtain ⟨T4, X4, e4, st4⟩ := castY X2 hx hZ hown (ow 91 rfl) hq3 (Ins.self H16_E) (g := (mkF m 8 #[.val (.ref gr), .val (.int fr), .val (.int io), .unset, .unset, .unset, .unset] [(.ref wf)])) rfl rfl (dx 4 rfl)
  obtain ⟨T6, X6, e6, st6⟩ := getF X4 hx hZ hown (host := "") (Or.inl (ow 15 rfl)) Via.refl e4 H0_F (g := (mkF m 16 #[.val (.ref gr), .val (.int fr), .val (.int io), .val (.ref em), .unset, .unset, .unset] [(.ref gr)])) rfl rfl (dx 8 rfl)
  obtain ⟨cq7, kq7, q7a, q7b, q7c⟩ := isOf hZ e6 H1_E
  obtain ⟨_, T7, Lc7, X7, hQ7, st7⟩ := own_rt X6 (X6.virtualBack hx (y := yn_12) (z := yn_12) hown (mvT hZ (ow 79 rfl)) (mvT hZ (ow 80 rfl)) (notFace_of_selects (args := #[]) (mvT hZ (ow 82 rfl))) (mvT hZ (ow 82 rfl)) (mvT hZ (ow 81 rfl)) (by decide) (backOf (W := 0) (rm_gtG l Z a0 hw [] tt ch ar ka mm ln vs io wi h0 n0 Z0 H2_F H3_F H4_E H5_F H6_F H7_A hi0o hi31o hpo hvo) hZ (ow 83 rfl) (ow 11 rfl) (by decide) (by decide)) q7a q7c (g := (mkF m 20 #[.val (.ref gr), .val (.int fr), .val (.int io), .val (.ref em), .unset, .unset, .unset] [(.int io), (.ref tt)])) rfl (by rw [hml]; rfl) (Steps.refl _) (argsL := [(.int io)]) (rest := []) (lenOf pd_3 rfl) rfl (Nat.le_of_eq rfl) (dx 10 rfl) (fun _ _ => ⟨rfl, e6, (by decide : 0 + 0 ≤ _), (by decide : 0 + 0 ≤ _)⟩))
  obtain ⟨rfl, N7q, hq8⟩ := hQ7
  have N7 := Fr.app N2 N7q
  obtain ⟨T9, X9, e9, st9⟩ := castY X7 hx hZ hown (ow 91 rfl) hq8 (Ins.self H17_E) (g := (mkF m 23 #[.val (.ref gr), .val (.int fr), .val (.int io), .val (.ref em), .unset, .unset, .unset] [(.ref wi)])) rfl rfl (dx 11 rfl)
  obtain ⟨cq11, kq11, q11a, q11b, q11c⟩ := isOf hZ e9 H20_E
  obtain ⟨_, T11, Lc11, X11, hQ11, st11⟩ := own_rt X9 (X9.virtualBack hx (y := yn_27) (z := yn_27) hown (mvT hZ (ow 263 rfl)) (mvT hZ (ow 264 rfl)) (notFace_of_selects (args := #[]) (mvT hZ (ow 266 rfl))) (mvT hZ (ow 266 rfl)) (mvT hZ (ow 265 rfl)) (by decide) (backOf (W := 0) (rm_ceE l Z a0 hw [] em (0 : Int32) h0 n0 Z0 H21_F) hZ (ow 267 rfl) (ow 11 rfl) (by decide) (by decide)) q11a q11c (g := (mkF m 33 #[.val (.ref gr), .val (.int fr), .val (.int io), .val (.ref em), .val (.ref em), .unset, .unset] [(.int 0), (.ref em)])) rfl (by rw [hml]; rfl) (Steps.refl _) (argsL := [(.int 0)]) (rest := []) (lenOf pd_2 rfl) rfl (Nat.le_of_eq rfl) (dx 16 rfl) (fun _ _ => ⟨rfl, e9, (by decide : 0 + 0 ≤ _), (by decide : 0 + 0 ≤ _)⟩))
  obtain ⟨rfl, N11q, hq12⟩ := hQ11
  have N11 := Fr.app N7 N11q
  have pre13 := fun (t : State) (k : Steps p.tables e below (T11.setTop (mkF m 141 #[.val (.ref gr), .val (.int fr), .val (.int io), .val (.ref em), .val (.ref em), .val (.int (-1)), .val (.int (-1))] [.null])) t) => pre0 t (by
    refine XS.aloadN X0.here hx rfl (dx 0 rfl) rfl rfl ?_
    refine st1 _ ?_
    refine XS.iloadN X1.here hx rfl (dx 2 rfl) rfl ?_
    refine st2.trans ?_
    refine st4 _ ?_
    refine own_getRef X4 hx hZ hown (ow 262 rfl) e4 H18_F (g := (mkF m 11 #[.val (.ref gr), .val (.int fr), .val (.int io), .unset, .unset, .unset, .unset] [(.ref wf)])) rfl rfl (dx 5 rfl) _ ?_
    refine XS.astoreN X4.here hx rfl (dx 6 rfl) rfl rfl (l' := #[.val (.ref gr), .val (.int fr), .val (.int io), .val (.ref em), .unset, .unset, .unset]) rfl ?_
    refine XS.aloadN X4.here hx rfl (dx 7 rfl) rfl rfl ?_
    refine st6 _ ?_
    refine XS.iloadN X6.here hx rfl (dx 9 rfl) rfl ?_
    refine st7.trans ?_
    refine st9 _ ?_
    refine own_getRef X9 hx hZ hown (ow 262 rfl) e9 H19_F (g := (mkF m 26 #[.val (.ref gr), .val (.int fr), .val (.int io), .val (.ref em), .unset, .unset, .unset] [(.ref wi)])) rfl rfl (dx 12 rfl) _ ?_
    refine XS.astore X9.here hx rfl (dx 13 rfl) rfl rfl (l' := #[.val (.ref gr), .val (.int fr), .val (.int io), .val (.ref em), .val (.ref em), .unset, .unset]) rfl ?_
    refine XS.aloadN X9.here hx rfl (dx 14 rfl) rfl rfl ?_
    refine XS.iconst X9.here hx rfl (dx 15 rfl) ?_
    refine st11.trans ?_
    refine XS.istore X11.here hx rfl (dx 17 rfl) rfl (l' := #[.val (.ref gr), .val (.int fr), .val (.int io), .val (.ref em), .val (.ref em), .val (.int (-1)), .unset]) rfl ?_
    refine XS.iload X11.here hx rfl (dx 18 rfl) rfl ?_
    refine XS.ifNo X11.here hx rfl (dx 19 rfl) rfl ((if0 _ _).trans (tlt (by decide : (-1 : Int32) < (0 : Int32))).2.1) ?_
    refine XS.iconst X11.here hx rfl (dx 20 rfl) ?_
    refine XS.goto X11.here hx rfl (pc0 := 44) (pc' := 54) rfl (dx 21 rfl) (by decide) (by decide) ?_
    refine XS.istore X11.here hx rfl (dx 22 rfl) rfl (l' := #[.val (.ref gr), .val (.int fr), .val (.int io), .val (.ref em), .val (.ref em), .val (.int (-1)), .val (.int (-1))]) rfl ?_
    refine XS.iload X11.here hx rfl (dx 23 rfl) rfl ?_
    refine XS.ifYes X11.here hx rfl (pc0 := 58) (pc' := 103) rfl (dx 24 rfl) rfl ((if0 _ _).trans (tlt (by decide : (-1 : Int32) < (0 : Int32))).1) (by decide) (by decide) ?_
    refine XS.iload X11.here hx rfl (dx 25 rfl) rfl ?_
    refine XS.ifYes X11.here hx rfl (pc0 := 105) (pc' := 140) rfl (dx 26 rfl) rfl ((if0 _ _).trans (tlt (by decide : (-1 : Int32) < (0 : Int32))).1) (by decide) (by decide) ?_
    refine XS.aconstNull X11.here hx rfl (dx 27 rfl) ?_
    exact k)
  obtain ⟨fs, hr, hrun, hended, hW, hsame⟩ := X11.leave (v := some .null) (hlocks := BodyLoose.notSynchronized Bd) (fun h => by rw [Bd.returns] at h; cases h)
  refine ⟨_, _, pre13 _ ?_, hrun, hended, _, _, rfl, ?_, ⟨_, rfl⟩, hW, hsame.mono (by decide) (by decide)⟩
  · jvm_step X11.here [X11.here.top, hx, (dx 28 rfl), X11.method', Bd.returns, Value.isRef, FieldType.isReference]
    first | (intro acts; rw [hr _ acts rfl rfl rfl]) | rw [hr _ _ rfl rfl rfl]
    exact Steps.refl _
  · show Q_dfE Z gr tt ch ar ka mm ln vs fr io wf wi em h0 n0 _ T11.heap _
    rw [hq12]
    exact ⟨rfl, N11, rfl⟩

def Q_mrg (Z : State) (gr : Addr) (gg : Addr) (em : Addr) (ae : Addr) (bt : Addr) (tn : Addr) (cn : Addr) (an : Addr) (kn : ClassId) (mn : Int32) (nl : Int32) (vs : List Value) (tu : Addr) (cu : Addr) (au : Addr) (ku : ClassId) (mu : Int32) (lu : Int32) (us : List Value) (k1 : Int32) (fr : Int32) (io : Int32) (wf : Addr) (wi : Addr) (dp : Addr) (lb : Addr) (pd : Addr) (su : Addr) (ba : Addr) (iv : Addr) (pn : Int32) (qn : Nat) (pu : Int32) (qu : Nat) (h0 : Heap) (n0 : Nat) (v : Option Value) (h : Heap) (L : List Loc) : Prop := ∃ rl : Addr, ∃ an' : Addr, ∃ kn' : ClassId, v = some (.ref rl) ∧ Fr n0 L ∧ Keep h0 h [gr, cn, cu, lb] ∧ n0 ≤ an' ∧ h0.size ≤ an' ∧ f_30 Z h gr (.ref tn) ∧ f_35 Z h gr (.ref gg) ∧ f_38 Z h gr (.int k1) ∧ f_25 Z h cn (.int (mn &&& (((1 : Int32) <<< ((((fr.toUInt32 >>> ((0 : Int32) &&& 31).toUInt32).toInt32) &&& (31 : Int32)) &&& 31)) ^^^ (-1 : Int32)))) ∧ f_23 Z h cn (.ref an') ∧ f_24 Z h cn (.ref gg) ∧ Arv Z h an' kn' (.object "java/lang/Object") (nl - (1 : Int32)) (vs.eraseIdx qn) .null
set_option maxRecDepth 65536 in
set_option maxHeartbeats 40000000 in
theorem rm_mrg (l : Launch) (Z : State) (a0 : Array Value) (hw : own_HW a0 Z) (ws : List Jvm.Cond) (gr : Addr) (gg : Addr) (em : Addr) (ae : Addr) (bt : Addr) (tn : Addr) (cn : Addr) (an : Addr) (kn : ClassId) (mn : Int32) (nl : Int32) (vs : List Value) (tu : Addr) (cu : Addr) (au : Addr) (ku : ClassId) (mu : Int32) (lu : Int32) (us : List Value) (k1 : Int32) (fr : Int32) (io : Int32) (wf : Addr) (wi : Addr) (dp : Addr) (lb : Addr) (pd : Addr) (su : Addr) (ba : Addr) (iv : Addr) (pn : Int32) (qn : Nat) (pu : Int32) (qu : Nat) (h0 : Heap) (n0 : Nat) (Z0 : n0 ≤ h0.size) (H0_E : e_39 Z h0 gr) (H1_F : f_30 Z h0 gr (.ref tn)) (H2_F : f_31 Z h0 gr (.ref em)) (H3_F : f_32 Z h0 gr (.ref em)) (H4_F : f_33 Z h0 gr (.ref tu)) (H5_F : f_35 Z h0 gr (.ref gg)) (H6_F : f_38 Z h0 gr (.int k1)) (H7_S : Sta Z h0 "org/tallyrole/core/IntTrie" "EMPTY" "Lorg/tallyrole/core/IntTrie;" (.ref em)) (H8_S : Sta Z h0 "java/util/ArrayList" "DEFAULTCAPACITY_EMPTY_ELEMENTDATA" "[Ljava/lang/Object;" (.ref ae)) (H9_E : e_29 Z h0 em) (H10_F : f_27 Z h0 em .null) (H11_F : f_28 Z h0 em (.int 0)) (H12_E : e_29 Z h0 tn) (H13_F : f_27 Z h0 tn (.ref cn)) (H14_F : f_28 Z h0 tn (.int 0)) (H15_E : e_26 Z h0 cn) (H16_F : f_25 Z h0 cn (.int mn)) (H17_F : f_23 Z h0 cn (.ref an)) (H18_F : f_24 Z h0 cn (.ref gg)) (H19_A : Arv Z h0 an kn (.object "java/lang/Object") nl vs .null) (H20_E : e_29 Z h0 tu) (H21_F : f_27 Z h0 tu (.ref cu)) (H22_F : f_28 Z h0 tu (.int 0)) (H23_E : e_26 Z h0 cu) (H24_F : f_25 Z h0 cu (.int mu)) (H25_F : f_23 Z h0 cu (.ref au)) (H26_F : f_24 Z h0 cu (.ref gg)) (H27_A : Arv Z h0 au ku (.object "java/lang/Object") lu us .null) (H28_L : own_Ins Z h0 vs) (H29_L : own_Ins Z h0 us) (H30_E : e_22 Z h0 wf) (H31_F : f_14 Z h0 wf (.ref lb)) (H32_F : f_15 Z h0 wf (.ref pd)) (H33_F : f_17 Z h0 wf (.ref su)) (H34_F : f_18 Z h0 wf (.ref ba)) (H35_F : f_20 Z h0 wf (.ref iv)) (H36_F : f_19 Z h0 wf (.ref em)) (H37_F : f_21 Z h0 wf (.ref gg)) (H38_E : e_9 Z h0 lb) (H39_F : f_5 Z h0 lb .null) (H40_F : f_6 Z h0 lb (.int 0)) (H41_F : f_7 Z h0 lb (.int 0)) (H42_F : f_8 Z h0 lb .null) (H43_E : e_3 Z h0 pd) (H44_F : f_1 Z h0 pd (.int 0)) (H45_F : f_2 Z h0 pd (.int 0)) (H46_E : e_9 Z h0 su) (H47_F : f_6 Z h0 su (.int 0)) (H48_E : e_9 Z h0 ba) (H49_F : f_6 Z h0 ba (.int 0)) (H50_E : e_13 Z h0 iv) (H51_F : f_12 Z h0 iv (.int 0)) (H52_E : e_22 Z h0 wi) (H53_F : f_19 Z h0 wi (.ref em)) (hg_gr : n0 ≤ gr) (hg_cn : n0 ≤ cn) (hg_cu : n0 ≤ cu) (hg_lb : n0 ≤ lb) (hn_gr_tn : gr ≠ tn) (hn_gr_cn : gr ≠ cn) (hn_gr_an : gr ≠ an) (hn_gr_tu : gr ≠ tu) (hn_gr_cu : gr ≠ cu) (hn_gr_au : gr ≠ au) (hn_gr_em : gr ≠ em) (hn_gr_wf : gr ≠ wf) (hn_gr_lb : gr ≠ lb) (hn_gr_su : gr ≠ su) (hn_gr_ba : gr ≠ ba) (hn_gr_iv : gr ≠ iv) (hn_cn_tn : cn ≠ tn) (hn_cn_an : cn ≠ an) (hn_cn_tu : cn ≠ tu) (hn_cn_cu : cn ≠ cu) (hn_cn_au : cn ≠ au) (hn_cn_em : cn ≠ em) (hn_cn_wf : cn ≠ wf) (hn_cn_lb : cn ≠ lb) (hn_cn_su : cn ≠ su) (hn_cn_ba : cn ≠ ba) (hn_cn_iv : cn ≠ iv) (hn_cu_tu : cu ≠ tu) (hn_cu_au : cu ≠ au) (hn_cu_em : cu ≠ em) (hn_cu_wf : cu ≠ wf) (hn_cu_lb : cu ≠ lb) (hn_cu_su : cu ≠ su) (hn_cu_ba : cu ≠ ba) (hn_cu_iv : cu ≠ iv) (hn_lb_em : lb ≠ em) (hn_lb_wf : lb ≠ wf) (hn_lb_su : lb ≠ su) (hn_lb_ba : lb ≠ ba) (hn_lb_iv : lb ≠ iv) (hpn : ¬ ((mn &&& ((1 : Int32) <<< ((((fr.toUInt32 >>> ((0 : Int32) &&& 31).toUInt32).toInt32) &&& (31 : Int32)) &&& 31))) = (0 : Int32))) (hpsn : own_bc (mn &&& (((1 : Int32) <<< ((((fr.toUInt32 >>> ((0 : Int32) &&& 31).toUInt32).toInt32) &&& (31 : Int32)) &&& 31)) - (1 : Int32))) = pn) (hlnn : own_ln nl vs) (hppn : pn.toInt = (qn : Int)) (hpln : qn < vs.length) (hvn : own_ref vs nl (own_bc (mn &&& (((1 : Int32) <<< ((((fr.toUInt32 >>> ((0 : Int32) &&& 31).toUInt32).toInt32) &&& (31 : Int32)) &&& 31)) - (1 : Int32)))) wf) (h1kn : ¬ (mn = ((1 : Int32) <<< ((((fr.toUInt32 >>> ((0 : Int32) &&& 31).toUInt32).toInt32) &&& (31 : Int32)) &&& 31)))) (hk0n : ¬ (fr < (0 : Int32))) (hk31n : ¬ ((31 : Int32) < ((fr.toUInt32 >>> ((0 : Int32) &&& 31).toUInt32).toInt32))) (hpu : ¬ ((mu &&& ((1 : Int32) <<< ((((fr.toUInt32 >>> ((0 : Int32) &&& 31).toUInt32).toInt32) &&& (31 : Int32)) &&& 31))) = (0 : Int32))) (hpsu : own_bc (mu &&& (((1 : Int32) <<< ((((fr.toUInt32 >>> ((0 : Int32) &&& 31).toUInt32).toInt32) &&& (31 : Int32)) &&& 31)) - (1 : Int32))) = pu) (hlnu : own_ln lu us) (hppu : pu.toInt = (qu : Int)) (hplu : qu < us.length) (hvu : own_ref us lu (own_bc (mu &&& (((1 : Int32) <<< ((((fr.toUInt32 >>> ((0 : Int32) &&& 31).toUInt32).toInt32) &&& (31 : Int32)) &&& 31)) - (1 : Int32)))) bt) (h1ku : ¬ (mu = ((1 : Int32) <<< ((((fr.toUInt32 >>> ((0 : Int32) &&& 31).toUInt32).toInt32) &&& (31 : Int32)) &&& 31)))) (hi0o : ¬ (io < (0 : Int32))) (hi31o : ¬ ((31 : Int32) < ((io.toUInt32 >>> ((0 : Int32) &&& 31).toUInt32).toInt32))) (hpo : ¬ ((mn &&& ((1 : Int32) <<< ((((io.toUInt32 >>> ((0 : Int32) &&& 31).toUInt32).toInt32) &&& (31 : Int32)) &&& 31))) = (0 : Int32))) (hvo : own_ref vs nl (own_bc (mn &&& (((1 : Int32) <<< ((((io.toUInt32 >>> ((0 : Int32) &&& 31).toUInt32).toInt32) &&& (31 : Int32)) &&& 31)) - (1 : Int32)))) wi) :
    own_MS l yn_55 (Jvm.Cond.code yn_55 prog_39_method_24_code 11 (some (.object "java/util/List")) :: ws) ({ frames := 5, cells := 13, slots := 74, locals := 3085 } : Room) Z #[(.ref gr), (.int fr), (.int io), (.ref dp)] h0 (Q_mrg Z gr gg em ae bt tn cn an kn mn nl vs tu cu au ku mu lu us k1 fr io wf wi dp lb pd su ba iv pn qn pu qu h0 n0) := by
  refine MetFree.of_bodySF (plainFor_of_name pn_11) hisR ?_
  intro p e s m args below meth c s₁ Bd hml0 hP hK
  have ow := @own_w a0 Z hw
  obtain ⟨rfl, hZ, hhp_⟩ := hP
  have hx := Bd.exec
  have hby := Bd.bytes
  have dx := @own_hd _ _ _ hby Dc29
  have hml : c.maxLocals = 11 := hml0
  have hown : s.vm.findClass "org/tallyrole/core/Graph" = some m.cls := findClass_of_methodNamed Bd.named
  have hnm := (name_of_methodNamed Bd.named Bd.method).1
  have hnZ_ := (State.methodNamed?_setVm (s := Z) hZ.alike _).symm.trans Bd.named
  have X0 : Stand p l e ({ frames := 5, cells := 13, slots := 74, locals := 3085 } : Room) s m _ below meth c s₁ [] 0 0 := Stand.of_body Bd
  have e0 : s₁.heap = h0 := by rw [← hhp_, Bd.state]; rfl
  have N0 := Fr.nil n0
  have pre0 : ∀ t, Steps p.tables e below (s₁.setTop (mkF m 0 #[.val (.ref gr), .val (.int fr), .val (.int io), .val (.ref dp), .unset, .unset, .unset, .unset, .unset, .unset, .unset] [])) t → Steps p.tables e below (s₁.setTop (entryFrame m #[(.ref gr), (.int fr), (.int io), (.ref dp)] 11)) t := fun t k => castTop rfl k
  have XS0 : Stand p l e ({ frames := 5, cells := 13, slots := 74, locals := 3085 } : Room) (s.setVm s.vm) m #[(.ref gr), (.int fr), (.int io), (.ref dp)] below meth c s₁ [] 0 0 := X0
  have hZS0 : Z.Warmed39 (s.setVm s.vm).vm := hZ
  have hownS0 : (s.setVm s.vm).vm.findClass "org/tallyrole/core/Graph" = some m.cls := hown
  have hSS0 : s.Since s.vm h0.size := (State.WarmedH.refl s).since _
  have hkS0 : h0.size ≤ h0.size := Nat.le_refl _
  have K0 : Keep h0 h0 [gr, cn, cu, lb] := Keep.refl h0 [gr, cn, cu, lb]
  have own_sa : ∀ d ∈ Bundle.stringAtoms, d.before a0 Z = true := fun d hd => hw d ((by decide +kernel : ∀ d ∈ Bundle.stringAtoms, d ∈ tables_1) d hd)
  obtain ⟨T1, X1, e1, st1⟩ := getF XS0 hx hZS0 hownS0 (host := "") (Or.inl (ow 15 rfl)) Via.refl e0 H1_F (g := (mkF m 1 #[.val (.ref gr), .val (.int fr), .val (.int io), .val (.ref dp), .unset, .unset, .unset, .unset, .unset, .unset, .unset] [(.ref gr)])) rfl rfl (dx 1 rfl)
  obtain ⟨cq2, kq2, q2a, q2b, q2c⟩ := isOf hZS0 e1 H12_E
  obtain ⟨_, T2, Lc2, X2, hQ2, st2⟩ := own_rt X1 (X1.virtualBack hx (y := yn_12) (z := yn_12) hownS0 (mvT hZS0 (ow 79 rfl)) (mvT hZS0 (ow 80 rfl)) (notFace_of_selects (args := #[]) (mvT hZS0 (ow 82 rfl))) (mvT hZS0 (ow 82 rfl)) (mvT hZS0 (ow 81 rfl)) (by decide) (backOf (W := 0) (rm_gtG l Z a0 hw [] tn cn an kn mn nl vs fr wf h0 n0 Z0 H13_F H14_F H15_E H16_F H17_F H19_A hk0n hk31n hpn hvn) hZS0 (ow 83 rfl) (ow 11 rfl) (by decide) (by decide)) q2a q2c (g := (mkF m 5 #[.val (.ref gr), .val (.int fr), .val (.int io), .val (.ref dp), .unset, .unset, .unset, .unset, .unset, .unset, .unset] [(.int fr), (.ref tn)])) rfl (by rw [hml]; rfl) (Steps.refl _) (argsL := [(.int fr)]) (rest := []) (lenOf pd_3 rfl) rfl (Nat.le_of_eq rfl) (dx 3 rfl) (fun _ _ => ⟨rfl, e1, (by decide : 0 + 0 ≤ _), (by decide : 0 + 0 ≤ _)⟩))
  obtain ⟨rfl, N2q, hq3⟩ := hQ2
  have N2 := Fr.app N0 N2q
  obtain ⟨T4, X4, e4, st4⟩ := castY X2 hx hZS0 hownS0 (ow 91 rfl) hq3 (Ins.self H30_E) (g := (mkF m 8 #[.val (.ref gr), .val (.int fr), .val (.int io), .val (.ref dp), .unset, .unset, .unset, .unset, .unset, .unset, .unset] [(.ref wf)])) rfl rfl (dx 4 rfl)
  obtain ⟨T5, X5, e5, st5⟩ := getF X4 hx hZS0 hownS0 (host := "") (Or.inl (ow 243 rfl)) Via.refl e4 H32_F (g := (mkF m 15 #[.val (.ref gr), .val (.int fr), .val (.int io), .val (.ref dp), .val (.ref wf), .unset, .unset, .unset, .unset, .unset, .unset] [(.ref wf)])) rfl rfl (dx 7 rfl)
  obtain ⟨cq6, kq6, q6a, q6b, q6c⟩ := isOf hZS0 e5 H43_E
  obtain ⟨_, T6, Lc6, X6, hQ6, st6⟩ := own_rt X5 (own_upB X5 hx (J := "java/util/Collection") (xi := yn_50) (y := yn_26) hownS0 (mvT hZS0 (ow 244 rfl)) (mvT hZS0 (ow 245 rfl)) (Jvm.Free.ULB.iface_rides hZS0.alike (ow 246 rfl)) (by decide) (by decide) (mvT hZS0 (ow 247 rfl)) (mvT hZS0 (ow 248 rfl)) (mvT hZS0 (ow 249 rfl)) (mvT hZS0 (ow 250 rfl)) (mvT hZS0 (ow 251 rfl)) (by decide) (backOf (W := 0) (rm_dqE l Z a0 hw [] pd h0 n0 Z0 H44_F H45_F) hZS0 (ow 252 rfl) (ow 32 rfl) (by decide) (by decide)) q6a q6b q6c (g := (mkF m 18 #[.val (.ref gr), .val (.int fr), .val (.int io), .val (.ref dp), .val (.ref wf), .unset, .unset, .unset, .unset, .unset, .unset] [(.ref pd)])) rfl (by rw [hml]; rfl) (Steps.refl _) (argsL := []) (rest := []) (lenOf pd_19 rfl) rfl (Nat.le_of_eq rfl) (dx 8 rfl) (fun _ _ => ⟨rfl, e5, (by decide : 0 + 0 ≤ _), (by decide : 0 + 0 ≤ _)⟩))
  obtain ⟨rfl, N6q, hq7⟩ := hQ6
  have N6 := Fr.app N2 N6q
  obtain ⟨cq8, kq8, q8a, q8b, q8c⟩ := isOf hZS0 hq7 H0_E
  obtain ⟨_, T8, Lc8, X8, hQ8, st8⟩ := own_rt X6 (X6.virtualBack hx (y := yn_49) (z := yn_49) hownS0 (mvT hZS0 (ow 257 rfl)) (mvT hZS0 (ow 258 rfl)) (notFace_of_selects (args := #[]) (mvT hZS0 (ow 260 rfl))) (mvT hZS0 (ow 260 rfl)) (mvT hZS0 (ow 259 rfl)) (by decide) (backOf (W := 0) (rm_dfE l Z a0 hw [] gr tn cn an kn mn nl vs fr io wf wi em h0 n0 Z0 H1_F H12_E H13_F H14_F H15_E H16_F H17_F H19_A hk0n hk31n hpn hvn hi0o hi31o hpo hvo H30_E H52_E H36_F H53_F H9_E H10_F) hZS0 (ow 261 rfl) (ow 2 rfl) (by decide) (by decide)) q8a q8c (g := (mkF m 29 #[.val (.ref gr), .val (.int fr), .val (.int io), .val (.ref dp), .val (.ref wf), .unset, .unset, .unset, .unset, .unset, .unset] [(.int io), (.int fr), (.ref gr)])) rfl (by rw [hml]; rfl) (Steps.refl _) (argsL := [(.int fr), (.int io)]) (rest := []) (lenOf pd_20 rfl) rfl (Nat.le_of_eq rfl) (dx 13 rfl) (fun _ _ => ⟨rfl, hq7, (by decide : 0 + 0 ≤ _), (by decide : 0 + 0 ≤ _)⟩))
  obtain ⟨rfl, N8q, hq9⟩ := hQ8
  have N8 := Fr.app N6 N8q
  obtain ⟨T10, X10, e10, st10⟩ := getF X8 hx hZS0 hownS0 (host := "") (Or.inl (ow 15 rfl)) Via.refl hq9 H1_F (g := (mkF m 52 #[.val (.ref gr), .val (.int fr), .val (.int io), .val (.ref dp), .val (.ref wf), .unset, .unset, .unset, .unset, .unset, .unset] [(.ref gr), (.ref gr)])) rfl rfl (dx 17 rfl)
  obtain ⟨T11, X11, e11, st11⟩ := getF X10 hx hZS0 hownS0 (host := "") (Or.inl (ow 28 rfl)) Via.refl e10 H5_F (g := (mkF m 57 #[.val (.ref gr), .val (.int fr), .val (.int io), .val (.ref dp), .val (.ref wf), .unset, .unset, .unset, .unset, .unset, .unset] [(.ref gr), (.int fr), (.ref tn), (.ref gr)])) rfl rfl (dx 20 rfl)
  obtain ⟨cq12, kq12, q12a, q12b, q12c⟩ := isOf hZS0 e11 H12_E
  obtain ⟨_, T12, Lc12, X12, hQ12, st12⟩ := own_rt X11 (X11.virtualBack hx (y := yn_25) (z := yn_25) hownS0 (mvT hZS0 (ow 268 rfl)) (mvT hZS0 (ow 269 rfl)) (notFace_of_selects (args := #[]) (mvT hZS0 (ow 271 rfl))) (mvT hZS0 (ow 271 rfl)) (mvT hZS0 (ow 270 rfl)) (by decide) (backOf (W := 1) (rm_woG l Z a0 hw [] tn cn an kn gg mn nl vs fr wf pn qn h0 n0 Z0 H12_E H13_F H14_F H15_E H16_F H17_F H18_F H19_A H28_L hg_cn hn_cn_an hpn hpsn hlnn hppn hpln hvn h1kn (Ne.symm hn_cn_tn) hk0n hk31n) hZS0 (ow 272 rfl) (ow 11 rfl) (by decide) (by decide)) q12a q12c (g := (mkF m 60 #[.val (.ref gr), .val (.int fr), .val (.int io), .val (.ref dp), .val (.ref wf), .unset, .unset, .unset, .unset, .unset, .unset] [(.ref gg), (.int fr), (.ref tn), (.ref gr)])) rfl (by rw [hml]; rfl) (Steps.refl _) (argsL := [(.int fr), (.ref gg)]) (rest := [(.ref gr)]) (lenOf pd_21 rfl) rfl (Nat.le_of_eq rfl) (dx 21 rfl) (fun _ _ => ⟨rfl, e11, (by decide : 0 + 1 ≤ _), (by decide : 0 + 3 ≤ _)⟩))
  obtain ⟨x13, x14, rfl, N12q, hq15, hpq16, hpq17, F18, F19, F20, A21⟩ := hQ12
  have N12 := Fr.app N8 N12q
  have K12 : Keep h0 T12.heap [gr, cn, cu, lb] := K0.trans hq15 (allS (Or.inl (own_mem (i := 1) rfl)) all0)
  have hkk22 : h0.size ≤ T12.heap.size := (Nat.le_trans hkS0 hq15.1)
  have Zs23 : n0 ≤ T12.heap.size := (Nat.le_trans Z0 hq15.1)
  have sz24 : h0.size ≤ x13 := Nat.le_trans K0.1 hpq17
  have F26 := H1_F.keep hq15 (ninS hn_gr_cn nin0)
  have E27 := H0_E.keep hq15
  obtain ⟨T25, h25, X25, e25, W25, st25⟩ := putF X12 hx hZS0 hownS0 (host := "") (Or.inl (ow 15 rfl)) Via.refl rfl F26 E27 (Or.inl (ow 16 rfl)) (ow 1 rfl) (ty := (.object "org/tallyrole/core/IntTrie")) (by decide) rfl rfl (g := (mkF m 63 #[.val (.ref gr), .val (.int fr), .val (.int io), .val (.ref dp), .val (.ref wf), .unset, .unset, .unset, .unset, .unset, .unset] [(.ref tn), (.ref gr)])) rfl rfl (dx 22 rfl)
  have Fw25 : f_30 Z h25 gr (.ref tn) := F26.same W25
  have N25 := Fr.snoc X25 N12 hg_gr
  have K25 : Keep h0 h25 [gr, cn, cu, lb] := K12.wr W25 (Or.inl (own_mem (i := 0) rfl))
  have hkk28 : h0.size ≤ h25.size := (Nat.le_trans hkk22 (Keep.of_wr W25).1)
  have Zs29 : n0 ≤ h25.size := (Nat.le_trans Zs23 (Keep.of_wr W25).1)
  have F30 := (H3_F.keep hq15 (ninS hn_gr_cn nin0)).other W25 (Or.inr (sn_42 hw))
  obtain ⟨T31, X31, e31, st31⟩ := getF X25 hx hZS0 hownS0 (host := "") (Or.inl (ow 19 rfl)) Via.refl e25 F30 (g := (mkF m 68 #[.val (.ref gr), .val (.int fr), .val (.int io), .val (.ref dp), .val (.ref wf), .unset, .unset, .unset, .unset, .unset, .unset] [(.ref gr), (.ref gr)])) rfl rfl (dx 25 rfl)
  have F32 := (H5_F.keep hq15 (ninS hn_gr_cn nin0)).other W25 (Or.inr (sn_44 hw))
  obtain ⟨T33, X33, e33, st33⟩ := getF X31 hx hZS0 hownS0 (host := "") (Or.inl (ow 28 rfl)) Via.refl e31 F32 (g := (mkF m 73 #[.val (.ref gr), .val (.int fr), .val (.int io), .val (.ref dp), .val (.ref wf), .unset, .unset, .unset, .unset, .unset, .unset] [(.ref gr), (.int fr), (.ref em), (.ref gr)])) rfl rfl (dx 28 rfl)
  have E35 := (H9_E.keep hq15).wr W25
  have F36 := (H10_F.keep hq15 (ninS (Ne.symm hn_cn_em) nin0)).other W25 (Or.inl (Ne.symm hn_gr_em))
  have F37 := (H11_F.keep hq15 (ninS (Ne.symm hn_cn_em) nin0)).other W25 (Or.inl (Ne.symm hn_gr_em))
  obtain ⟨cq34, kq34, q34a, q34b, q34c⟩ := isOf hZS0 e33 E35
  obtain ⟨_, T34, Lc34, X34, hQ34, st34⟩ := own_rt X33 (X33.virtualBack hx (y := yn_25) (z := yn_25) hownS0 (mvT hZS0 (ow 268 rfl)) (mvT hZS0 (ow 269 rfl)) (notFace_of_selects (args := #[]) (mvT hZS0 (ow 271 rfl))) (mvT hZS0 (ow 271 rfl)) (mvT hZS0 (ow 270 rfl)) (by decide) (backOf (W := 1) (rm_woE l Z a0 hw [] em fr gg h25 n0 Zs29 E35 F36 F37) hZS0 (ow 272 rfl) (ow 11 rfl) (by decide) (by decide)) q34a q34c (g := (mkF m 76 #[.val (.ref gr), .val (.int fr), .val (.int io), .val (.ref dp), .val (.ref wf), .unset, .unset, .unset, .unset, .unset, .unset] [(.ref gg), (.int fr), (.ref em), (.ref gr)])) rfl (by rw [hml]; rfl) (Steps.refl _) (argsL := [(.int fr), (.ref gg)]) (rest := [(.ref gr)]) (lenOf pd_21 rfl) rfl (Nat.le_of_eq rfl) (dx 29 rfl) (fun _ _ => ⟨rfl, e33, (by decide : 1 + 0 ≤ _), (by decide : 3 + 0 ≤ _)⟩))
  obtain ⟨rfl, N34q, hq38⟩ := hQ34
  have N34 := Fr.app N25 N34q
  have E40 := E27.wr W25
  obtain ⟨T39, h39, X39, e39, W39, st39⟩ := putF X34 hx hZS0 hownS0 (host := "") (Or.inl (ow 19 rfl)) Via.refl hq38 F30 E40 (Or.inl (ow 20 rfl)) (ow 1 rfl) (ty := (.object "org/tallyrole/core/IntTrie")) (by decide) rfl rfl (g := (mkF m 79 #[.val (.ref gr), .val (.int fr), .val (.int io), .val (.ref dp), .val (.ref wf), .unset, .unset, .unset, .unset, .unset, .unset] [(.ref em), (.ref gr)])) rfl rfl (dx 30 rfl)
  have Fw39 : f_32 Z h39 gr (.ref em) := F30.same W39
  have N39 := Fr.snoc X39 N34 hg_gr
  have K39 : Keep h0 h39 [gr, cn, cu, lb] := K25.wr W39 (Or.inl (own_mem (i := 0) rfl))
  have hkk41 : h0.size ≤ h39.size := (Nat.le_trans hkk28 (Keep.of_wr W39).1)
  have Zs42 : n0 ≤ h39.size := (Nat.le_trans Zs29 (Keep.of_wr W39).1)
  have F43 := ((H4_F.keep hq15 (ninS hn_gr_cn nin0)).other W25 (Or.inr (sn_43 hw))).other W39 (Or.inr (sn_56 hw))
  obtain ⟨T44, X44, e44, st44⟩ := getF X39 hx hZS0 hownS0 (host := "") (Or.inl (ow 21 rfl)) Via.refl e39 F43 (g := (mkF m 84 #[.val (.ref gr), .val (.int fr), .val (.int io), .val (.ref dp), .val (.ref wf), .unset, .unset, .unset, .unset, .unset, .unset] [(.ref gr), (.ref gr)])) rfl rfl (dx 33 rfl)
  have F45 := F32.other W39 (Or.inr (sn_57 hw))
  obtain ⟨T46, X46, e46, st46⟩ := getF X44 hx hZS0 hownS0 (host := "") (Or.inl (ow 28 rfl)) Via.refl e44 F45 (g := (mkF m 89 #[.val (.ref gr), .val (.int fr), .val (.int io), .val (.ref dp), .val (.ref wf), .unset, .unset, .unset, .unset, .unset, .unset] [(.ref gr), (.int fr), (.ref tu), (.ref gr)])) rfl rfl (dx 36 rfl)
  have E48 := ((H20_E.keep hq15).wr W25).wr W39
  have F49 := ((H21_F.keep hq15 (ninS (Ne.symm hn_cn_tu) nin0)).other W25 (Or.inl (Ne.symm hn_gr_tu))).other W39 (Or.inl (Ne.symm hn_gr_tu))
  have F50 := ((H22_F.keep hq15 (ninS (Ne.symm hn_cn_tu) nin0)).other W25 (Or.inl (Ne.symm hn_gr_tu))).other W39 (Or.inl (Ne.symm hn_gr_tu))
  have E51 := ((H23_E.keep hq15).wr W25).wr W39
  have F52 := ((H24_F.keep hq15 (ninS (Ne.symm hn_cn_cu) nin0)).other W25 (Or.inl (Ne.symm hn_gr_cu))).other W39 (Or.inl (Ne.symm hn_gr_cu))
  have F53 := ((H25_F.keep hq15 (ninS (Ne.symm hn_cn_cu) nin0)).other W25 (Or.inl (Ne.symm hn_gr_cu))).other W39 (Or.inl (Ne.symm hn_gr_cu))
  have F54 := ((H26_F.keep hq15 (ninS (Ne.symm hn_cn_cu) nin0)).other W25 (Or.inl (Ne.symm hn_gr_cu))).other W39 (Or.inl (Ne.symm hn_gr_cu))
  have A55 := ((H27_A.keep hq15 (ninS (Ne.symm hn_cn_au) nin0)).other W25 (Ne.symm hn_gr_au)).other W39 (Ne.symm hn_gr_au)
  have L56 := ((H29_L.keep hq15).wr W25).wr W39
  obtain ⟨cq47, kq47, q47a, q47b, q47c⟩ := isOf hZS0 e46 E48
  obtain ⟨_, T47, Lc47, X47, hQ47, st47⟩ := own_rt X46 (X46.virtualBack hx (y := yn_25) (z := yn_25) hownS0 (mvT hZS0 (ow 268 rfl)) (mvT hZS0 (ow 269 rfl)) (notFace_of_selects (args := #[]) (mvT hZS0 (ow 271 rfl))) (mvT hZS0 (ow 271 rfl)) (mvT hZS0 (ow 270 rfl)) (by decide) (backOf (W := 1) (rm_woG l Z a0 hw [] tu cu au ku gg mu lu us fr bt pu qu h39 n0 Zs42 E48 F49 F50 E51 F52 F53 F54 A55 L56 hg_cu hn_cu_au hpu hpsu hlnu hppu hplu hvu h1ku (Ne.symm hn_cu_tu) hk0n hk31n) hZS0 (ow 272 rfl) (ow 11 rfl) (by decide) (by decide)) q47a q47c (g := (mkF m 92 #[.val (.ref gr), .val (.int fr), .val (.int io), .val (.ref dp), .val (.ref wf), .unset, .unset, .unset, .unset, .unset, .unset] [(.ref gg), (.int fr), (.ref tu), (.ref gr)])) rfl (by rw [hml]; rfl) (Steps.refl _) (argsL := [(.int fr), (.ref gg)]) (rest := [(.ref gr)]) (lenOf pd_21 rfl) rfl (Nat.le_of_eq rfl) (dx 37 rfl) (fun _ _ => ⟨rfl, e46, (by decide : 1 + 1 ≤ _), (by decide : 3 + 3 ≤ _)⟩))
  obtain ⟨x57, x58, rfl, N47q, hq59, hpq60, hpq61, F62, F63, F64, A65⟩ := hQ47
  have N47 := Fr.app N39 N47q
  have K47 : Keep h0 T47.heap [gr, cn, cu, lb] := K39.trans hq59 (allS (Or.inl (own_mem (i := 2) rfl)) all0)
  have hkk66 : h0.size ≤ T47.heap.size := (Nat.le_trans hkk41 hq59.1)
  have Zs67 : n0 ≤ T47.heap.size := (Nat.le_trans Zs42 hq59.1)
  have sz68 : h0.size ≤ x57 := Nat.le_trans K39.1 hpq61
  have F70 := F43.keep hq59 (ninS hn_gr_cu nin0)
  have E71 := (E40.wr W39).keep hq59
  obtain ⟨T69, h69, X69, e69, W69, st69⟩ := putF X47 hx hZS0 hownS0 (host := "") (Or.inl (ow 21 rfl)) Via.refl rfl F70 E71 (Or.inl (ow 22 rfl)) (ow 1 rfl) (ty := (.object "org/tallyrole/core/IntTrie")) (by decide) rfl rfl (g := (mkF m 95 #[.val (.ref gr), .val (.int fr), .val (.int io), .val (.ref dp), .val (.ref wf), .unset, .unset, .unset, .unset, .unset, .unset] [(.ref tu), (.ref gr)])) rfl rfl (dx 38 rfl)
  have Fw69 : f_33 Z h69 gr (.ref tu) := F70.same W69
  have N69 := Fr.snoc X69 N47 hg_gr
  have K69 : Keep h0 h69 [gr, cn, cu, lb] := K47.wr W69 (Or.inl (own_mem (i := 0) rfl))
  have hkk72 : h0.size ≤ h69.size := (Nat.le_trans hkk66 (Keep.of_wr W69).1)
  have Zs73 : n0 ≤ h69.size := (Nat.le_trans Zs67 (Keep.of_wr W69).1)
  have F74 := ((((H31_F.keep hq15 (ninS (Ne.symm hn_cn_wf) nin0)).other W25 (Or.inl (Ne.symm hn_gr_wf))).other W39 (Or.inl (Ne.symm hn_gr_wf))).keep hq59 (ninS (Ne.symm hn_cu_wf) nin0)).other W69 (Or.inl (Ne.symm hn_gr_wf))
  obtain ⟨T75, X75, e75, st75⟩ := getF X69 hx hZS0 hownS0 (host := "") (Or.inl (ow 278 rfl)) Via.refl e69 F74 (g := (mkF m 100 #[.val (.ref gr), .val (.int fr), .val (.int io), .val (.ref dp), .val (.ref wf), .unset, .unset, .unset, .unset, .unset, .unset] [(.ref wf)])) rfl rfl (dx 40 rfl)
  have E77 := ((((H38_E.keep hq15).wr W25).wr W39).keep hq59).wr W69
  have F78 := ((((H39_F.keep hq15 (ninS (Ne.symm hn_cn_lb) nin0)).other W25 (Or.inl (Ne.symm hn_gr_lb))).other W39 (Or.inl (Ne.symm hn_gr_lb))).keep hq59 (ninS (Ne.symm hn_cu_lb) nin0)).other W69 (Or.inl (Ne.symm hn_gr_lb))
  have F79 := ((((H40_F.keep hq15 (ninS (Ne.symm hn_cn_lb) nin0)).other W25 (Or.inl (Ne.symm hn_gr_lb))).other W39 (Or.inl (Ne.symm hn_gr_lb))).keep hq59 (ninS (Ne.symm hn_cu_lb) nin0)).other W69 (Or.inl (Ne.symm hn_gr_lb))
  have F80 := ((((H41_F.keep hq15 (ninS (Ne.symm hn_cn_lb) nin0)).other W25 (Or.inl (Ne.symm hn_gr_lb))).other W39 (Or.inl (Ne.symm hn_gr_lb))).keep hq59 (ninS (Ne.symm hn_cu_lb) nin0)).other W69 (Or.inl (Ne.symm hn_gr_lb))
  have F81 := ((((H42_F.keep hq15 (ninS (Ne.symm hn_cn_lb) nin0)).other W25 (Or.inl (Ne.symm hn_gr_lb))).other W39 (Or.inl (Ne.symm hn_gr_lb))).keep hq59 (ninS (Ne.symm hn_cu_lb) nin0)).other W69 (Or.inl (Ne.symm hn_gr_lb))
  obtain ⟨cq76, kq76, q76a, q76b, q76c⟩ := isOf hZS0 e75 E77
  obtain ⟨_, T76, Lc76, X76, hQ76, st76⟩ := own_rt X75 (X75.interfaceBack hx (xi := yn_51) (y := yn_30) hownS0 (mvT hZS0 (ow 279 rfl)) (mvT hZS0 (ow 280 rfl)) (mvT hZS0 (ow 281 rfl)) (mvT hZS0 (ow 282 rfl)) (mvT hZS0 (ow 283 rfl)) (mvT hZS0 (ow 284 rfl)) (mvT hZS0 (ow 285 rfl)) (mvT hZS0 (ow 286 rfl)) (by decide) (backOf (W := 0) (rm_mes l Z a0 hw [] lb h69 n0 Zs73 E77 F78 F79 F80 F81 hg_lb) hZS0 (ow 287 rfl) (ow 51 rfl) (by decide) (by decide)) q76a q76b q76c (g := (mkF m 103 #[.val (.ref gr), .val (.int fr), .val (.int io), .val (.ref dp), .val (.ref wf), .unset, .unset, .unset, .unset, .unset, .unset] [(.ref lb)])) rfl (by rw [hml]; rfl) (Steps.refl _) (argsL := []) (rest := []) (lenOf pd_22 rfl) rfl (Nat.le_of_eq rfl) (dx 41 rfl) (fun _ _ => ⟨rfl, e75, (by decide : 2 + 1 ≤ _), (by decide : 6 + 1 ≤ _)⟩))
  obtain ⟨x82, rfl, N76q, hq83, hpq84, hpq85, E86, F87, F88, F89⟩ := hQ76
  have N76 := Fr.app N69 N76q
  have K76 : Keep h0 T76.heap [gr, cn, cu, lb] := K69.trans hq83 (allS (Or.inl (own_mem (i := 3) rfl)) all0)
  have hkk90 : h0.size ≤ T76.heap.size := (Nat.le_trans hkk72 hq83.1)
  have Zs91 : n0 ≤ T76.heap.size := (Nat.le_trans Zs73 hq83.1)
  have sz92 : h0.size ≤ x82 := Nat.le_trans K69.1 hpq85
  obtain ⟨cq93, kq93, q93a, q93b, q93c⟩ := isOf hZS0 rfl E86
  obtain ⟨_, T93, Lc93, X93, hQ93, st93⟩ := own_rt X76 (X76.interfaceBack hx (xi := yn_52) (y := yn_33) hownS0 (mvT hZS0 (ow 307 rfl)) (mvT hZS0 (ow 308 rfl)) (mvT hZS0 (ow 309 rfl)) (mvT hZS0 (ow 310 rfl)) (mvT hZS0 (ow 311 rfl)) (mvT hZS0 (ow 312 rfl)) (mvT hZS0 (ow 313 rfl)) (mvT hZS0 (ow 314 rfl)) (by decide) (backOf (W := 0) (rm_esT l Z a0 hw [] x82 lb T76.heap n0 Zs91 F87 F89 F88) hZS0 (ow 315 rfl) (ow 292 rfl) (by decide) (by decide)) q93a q93b q93c (g := (mkF m 108 #[.val (.ref gr), .val (.int fr), .val (.int io), .val (.ref dp), .val (.ref wf), .unset, .unset, .unset, .unset, .unset, .unset] [(.ref x82)])) rfl (by rw [hml]; rfl) (Steps.refl _) (argsL := []) (rest := []) (lenOf pd_23 rfl) rfl (Nat.le_of_eq rfl) (dx 42 rfl) (fun _ _ => ⟨rfl, rfl, (by decide : 3 + 1 ≤ _), (by decide : 7 + 5 ≤ _)⟩))
  obtain ⟨x94, rfl, N93q, hq95, hpq96, hpq97, E98, F99⟩ := hQ93
  have N93 := Fr.app N76 N93q
  have K93 : Keep h0 T93.heap [gr, cn, cu, lb] := K76.trans hq95 all0
  have hkk100 : h0.size ≤ T93.heap.size := (Nat.le_trans hkk90 hq95.1)
  have Zs101 : n0 ≤ T93.heap.size := (Nat.le_trans Zs91 hq95.1)
  have sz102 : h0.size ≤ x94 := Nat.le_trans K76.1 hpq97
  obtain ⟨cq103, kq103, q103a, q103b, q103c⟩ := isOf hZS0 rfl E98
  obtain ⟨_, T103, Lc103, X103, hQ103, st103⟩ := own_rt X93 (X93.interfaceBack hx (xi := yn_53) (y := yn_34) hownS0 (mvT hZS0 (ow 344 rfl)) (mvT hZS0 (ow 345 rfl)) (mvT hZS0 (ow 346 rfl)) (mvT hZS0 (ow 347 rfl)) (mvT hZS0 (ow 348 rfl)) (mvT hZS0 (ow 349 rfl)) (mvT hZS0 (ow 350 rfl)) (mvT hZS0 (ow 351 rfl)) (by decide) (backOf (W := 0) (rm_hnH l Z a0 hw [] x94 T93.heap n0 Zs101 F99) hZS0 (ow 352 rfl) (ow 327 rfl) (by decide) (by decide)) q103a q103b q103c (g := (mkF m 117 #[.val (.ref gr), .val (.int fr), .val (.int io), .val (.ref dp), .val (.ref wf), .val (.ref x94), .unset, .unset, .unset, .unset, .unset] [(.ref x94)])) rfl (by rw [hml]; rfl) (Steps.refl _) (argsL := []) (rest := []) (lenOf pd_19 rfl) rfl (Nat.le_of_eq rfl) (dx 45 rfl) (fun _ _ => ⟨rfl, rfl, (by decide : 4 + 0 ≤ _), (by decide : 12 + 0 ≤ _)⟩))
  obtain ⟨rfl, N103q, hq104⟩ := hQ103
  have N103 := Fr.app N93 N103q
  have F105 := ((((((H36_F.keep hq15 (ninS (Ne.symm hn_cn_wf) nin0)).other W25 (Or.inl (Ne.symm hn_gr_wf))).other W39 (Or.inl (Ne.symm hn_gr_wf))).keep hq59 (ninS (Ne.symm hn_cu_wf) nin0)).other W69 (Or.inl (Ne.symm hn_gr_wf))).keep hq83 (ninS (Ne.symm hn_lb_wf) nin0)).keep hq95 nin0
  have F108 := ((((F36.other W39 (Or.inl (Ne.symm hn_gr_em))).keep hq59 (ninS (Ne.symm hn_cu_em) nin0)).other W69 (Or.inl (Ne.symm hn_gr_em))).keep hq83 (ninS (Ne.symm hn_lb_em) nin0)).keep hq95 nin0
  have E109 := ((((E35.wr W39).keep hq59).wr W69).keep hq83).keep hq95
  obtain ⟨cq107, kq107, q107a, q107b, q107c⟩ := isOf hZS0 hq104 E109
  obtain ⟨_, T107, Lc107, X107, hQ107, st107⟩ := own_rt X103 (X103.virtualBack hx (y := yn_35) (z := yn_35) hownS0 (mvT hZS0 (ow 353 rfl)) (mvT hZS0 (ow 354 rfl)) (notFace_of_selects (args := #[]) (mvT hZS0 (ow 356 rfl))) (mvT hZS0 (ow 356 rfl)) (mvT hZS0 (ow 355 rfl)) (by decide) (backOf (W := 0) (rm_isE l Z a0 hw [] em T93.heap n0 Zs101 F108) hZS0 (ow 357 rfl) (ow 11 rfl) (by decide) (by decide)) q107a q107c (g := (mkF m 174 #[.val (.ref gr), .val (.int fr), .val (.int io), .val (.ref dp), .val (.ref wf), .val (.ref x94), .unset, .unset, .unset, .unset, .unset] [(.ref em)])) rfl (by rw [hml]; rfl) (Steps.refl _) (argsL := []) (rest := []) (lenOf pd_19 rfl) rfl (Nat.le_of_eq rfl) (dx 49 rfl) (fun _ _ => ⟨rfl, hq104, (by decide : 4 + 0 ≤ _), (by decide : 12 + 0 ≤ _)⟩))
  obtain ⟨rfl, N107q, hq110⟩ := hQ107
  have N107 := Fr.app N103 N107q
  have F111 := ((((((H35_F.keep hq15 (ninS (Ne.symm hn_cn_wf) nin0)).other W25 (Or.inl (Ne.symm hn_gr_wf))).other W39 (Or.inl (Ne.symm hn_gr_wf))).keep hq59 (ninS (Ne.symm hn_cu_wf) nin0)).other W69 (Or.inl (Ne.symm hn_gr_wf))).keep hq83 (ninS (Ne.symm hn_lb_wf) nin0)).keep hq95 nin0
  have F114 := ((((((H51_F.keep hq15 (ninS (Ne.symm hn_cn_iv) nin0)).other W25 (Or.inl (Ne.symm hn_gr_iv))).other W39 (Or.inl (Ne.symm hn_gr_iv))).keep hq59 (ninS (Ne.symm hn_cu_iv) nin0)).other W69 (Or.inl (Ne.symm hn_gr_iv))).keep hq83 (ninS (Ne.symm hn_lb_iv) nin0)).keep hq95 nin0
  have E115 := ((((((H50_E.keep hq15).wr W25).wr W39).keep hq59).wr W69).keep hq83).keep hq95
  obtain ⟨cq113, kq113, q113a, q113b, q113c⟩ := isOf hZS0 hq110 E115
  obtain ⟨_, T113, Lc113, X113, hQ113, st113⟩ := own_rt X107 (X107.interfaceBack hx (xi := yn_54) (y := yn_36) hownS0 (mvT hZS0 (ow 359 rfl)) (mvT hZS0 (ow 360 rfl)) (mvT hZS0 (ow 361 rfl)) (mvT hZS0 (ow 362 rfl)) (mvT hZS0 (ow 363 rfl)) (mvT hZS0 (ow 364 rfl)) (mvT hZS0 (ow 365 rfl)) (mvT hZS0 (ow 366 rfl)) (by decide) (backOf (W := 0) (rm_alE l Z a0 hw [] iv T93.heap n0 Zs101 F114) hZS0 (ow 367 rfl) (ow 108 rfl) (by decide) (by decide)) q113a q113b q113c (g := (mkF m 185 #[.val (.ref gr), .val (.int fr), .val (.int io), .val (.ref dp), .val (.ref wf), .val (.ref x94), .unset, .unset, .unset, .unset, .unset] [(.ref iv)])) rfl (by rw [hml]; rfl) (Steps.refl _) (argsL := []) (rest := []) (lenOf pd_19 rfl) rfl (Nat.le_of_eq rfl) (dx 53 rfl) (fun _ _ => ⟨rfl, hq110, (by decide : 4 + 0 ≤ _), (by decide : 12 + 0 ≤ _)⟩))
  obtain ⟨rfl, N113q, hq116⟩ := hQ113
  have N113 := Fr.app N107 N113q
  obtain ⟨T117, h117, X117, e117, E117, A117, D117, -, st117⟩ := newO X113 hx hZS0 hownS0 (ow 370 rfl) (ow 107 rfl) (ow 108 rfl) hq116 (g := (mkF m 368 #[.val (.ref gr), .val (.int fr), .val (.int io), .val (.ref dp), .val (.ref wf), .val (.ref x94), .unset, .unset, .unset, .unset, .unset] [])) rfl (dx 55 rfl) (by decide) (by decide)
  obtain ⟨b117, g117⟩ : ∃ z, z = T93.heap.size := ⟨_, rfl⟩
  have ge_b117 : n0 ≤ b117 := Nat.le_trans Zs101 (Nat.le_of_eq g117.symm)
  have sz_b117 : h0.size ≤ b117 := Nat.le_trans K93.1 (Nat.le_of_eq g117.symm)
  rw [← g117] at A117 D117 st117
  have K117 : Keep h0 h117 [gr, cn, cu, lb] := K93.ext E117
  have hkk118 : h0.size ≤ h117.size := (Nat.le_trans hkk100 E117.1)
  have Zs119 : n0 ≤ h117.size := (Nat.le_trans Zs101 E117.1)
  have F120 : f_10 Z h117 b117 (.int 0) := D117 (Or.inl (ow 121 rfl)) (ty := .int) (by decide)
  have F121 : f_11 Z h117 b117 .null := D117 (Or.inl (ow 124 rfl)) (ty := (.array (.object "java/lang/Object"))) (by decide)
  have F122 : f_12 Z h117 b117 (.int 0) := D117 (Or.inl (ow 369 rfl)) (ty := .int) (by decide)
  have S124 := (own_sta_keep (own_sta_keep ((own_sta_keep (((own_sta_keep H8_S hq15 (allS (own_ns_exa H15_E) all0)).wr W25).wr W39) hq59 (allS (own_ns_exa E51) all0)).wr W69) hq83 (allS (own_ns_exa E77) all0)) hq95 all0).ext E117
  obtain ⟨_, T123, Lc123, X123, hQ123, st123⟩ := own_rt X117 (X117.specialBack hx (y := yn_5) rfl hownS0 (mvT hZS0 (ow 371 rfl)) (mvT hZS0 (ow 110 rfl)) (mvT hZS0 (ow 111 rfl)) (by decide) (backOf (W := 1) (rm_alI l Z a0 hw [] b117 ae h117 n0 Zs119 A117 S124 F120 F121 F122 ge_b117) hZS0 (ow 111 rfl) (ow 108 rfl) (by decide) (by decide)) (g := (mkF m 372 #[.val (.ref gr), .val (.int fr), .val (.int io), .val (.ref dp), .val (.ref wf), .val (.ref x94), .unset, .unset, .unset, .unset, .unset] [(.ref b117), (.ref b117)])) rfl (by rw [hml]; rfl) (Steps.refl _) (a := b117) (argsL := []) (rest := [(.ref b117)]) (lenOf pd_0 rfl) rfl (Nat.le_of_eq rfl) (dx 57 rfl) (fun _ _ => ⟨rfl, e117, (by decide : 5 + 0 ≤ _), (by decide : 15 + 0 ≤ _)⟩))
  obtain ⟨rfl, N123q, hq125, F126, F127, F128⟩ := hQ123
  have N123 := Fr.app N113 N123q
  have K123 : Keep h0 T123.heap [gr, cn, cu, lb] := K117.trans hq125 (allS (Or.inr sz_b117) all0)
  have hkk129 : h0.size ≤ T123.heap.size := (Nat.le_trans hkk118 hq125.1)
  have Zs130 : n0 ≤ T123.heap.size := (Nat.le_trans Zs119 hq125.1)
  obtain ⟨T131, h131, X131, e131, E131, A131, D131, -, st131⟩ := newO X123 hx hZS0 hownS0 (ow 370 rfl) (ow 107 rfl) (ow 108 rfl) rfl (g := (mkF m 377 #[.val (.ref gr), .val (.int fr), .val (.int io), .val (.ref dp), .val (.ref wf), .val (.ref b117), .unset, .unset, .unset, .unset, .unset] [])) rfl (dx 59 rfl) (by decide) (by decide)
  obtain ⟨b131, g131⟩ : ∃ z, z = T123.heap.size := ⟨_, rfl⟩
  have ge_b131 : n0 ≤ b131 := Nat.le_trans Zs130 (Nat.le_of_eq g131.symm)
  have sz_b131 : h0.size ≤ b131 := Nat.le_trans K123.1 (Nat.le_of_eq g131.symm)
  rw [← g131] at A131 D131 st131
  have K131 : Keep h0 h131 [gr, cn, cu, lb] := K123.ext E131
  have hkk132 : h0.size ≤ h131.size := (Nat.le_trans hkk129 E131.1)
  have Zs133 : n0 ≤ h131.size := (Nat.le_trans Zs130 E131.1)
  have F134 : f_10 Z h131 b131 (.int 0) := D131 (Or.inl (ow 121 rfl)) (ty := .int) (by decide)
  have F135 : f_11 Z h131 b131 .null := D131 (Or.inl (ow 124 rfl)) (ty := (.array (.object "java/lang/Object"))) (by decide)
  have F136 : f_12 Z h131 b131 (.int 0) := D131 (Or.inl (ow 369 rfl)) (ty := .int) (by decide)
  have S138 := (own_sta_keep S124 hq125 (allS (own_ns_exa A117) all0)).ext E131
  obtain ⟨_, T137, Lc137, X137, hQ137, st137⟩ := own_rt X131 (X131.specialBack hx (y := yn_5) rfl hownS0 (mvT hZS0 (ow 371 rfl)) (mvT hZS0 (ow 110 rfl)) (mvT hZS0 (ow 111 rfl)) (by decide) (backOf (W := 1) (rm_alI l Z a0 hw [] b131 ae h131 n0 Zs133 A131 S138 F134 F135 F136 ge_b131) hZS0 (ow 111 rfl) (ow 108 rfl) (by decide) (by decide)) (g := (mkF m 381 #[.val (.ref gr), .val (.int fr), .val (.int io), .val (.ref dp), .val (.ref wf), .val (.ref b117), .unset, .unset, .unset, .unset, .unset] [(.ref b131), (.ref b131)])) rfl (by rw [hml]; rfl) (Steps.refl _) (a := b131) (argsL := []) (rest := [(.ref b131)]) (lenOf pd_0 rfl) rfl (Nat.le_of_eq rfl) (dx 61 rfl) (fun _ _ => ⟨rfl, e131, (by decide : 6 + 0 ≤ _), (by decide : 18 + 0 ≤ _)⟩))
  obtain ⟨rfl, N137q, hq139, F140, F141, F142⟩ := hQ137
  have N137 := Fr.app N123 N137q
  have K137 : Keep h0 T137.heap [gr, cn, cu, lb] := K131.trans hq139 (allS (Or.inr sz_b131) all0)
  have hkk143 : h0.size ≤ T137.heap.size := (Nat.le_trans hkk132 hq139.1)
  have Zs144 : n0 ≤ T137.heap.size := (Nat.le_trans Zs133 hq139.1)
  have ne146 : wf ≠ b117 := Nat.ne_of_lt (Nat.lt_of_lt_of_le F111.lt (Nat.le_of_eq g117.symm))
  have ne147 : wf ≠ b131 := Nat.ne_of_lt (Nat.lt_of_lt_of_le ((F111.ext E117).keep hq125 (ninS ne146 nin0)).lt (Nat.le_of_eq g131.symm))
  have F145 := ((((((((((H33_F.keep hq15 (ninS (Ne.symm hn_cn_wf) nin0)).other W25 (Or.inl (Ne.symm hn_gr_wf))).other W39 (Or.inl (Ne.symm hn_gr_wf))).keep hq59 (ninS (Ne.symm hn_cu_wf) nin0)).other W69 (Or.inl (Ne.symm hn_gr_wf))).keep hq83 (ninS (Ne.symm hn_lb_wf) nin0)).keep hq95 nin0).ext E117).keep hq125 (ninS ne146 nin0)).ext E131).keep hq139 (ninS ne147 nin0)
  obtain ⟨T148, X148, e148, st148⟩ := getF X137 hx hZS0 hownS0 (host := "") (Or.inl (ow 372 rfl)) Via.refl rfl F145 (g := (mkF m 388 #[.val (.ref gr), .val (.int fr), .val (.int io), .val (.ref dp), .val (.ref wf), .val (.ref b117), .val (.ref b131), .unset, .unset, .unset, .unset] [(.ref wf)])) rfl rfl (dx 64 rfl)
  obtain ⟨T149, h149, X149, e149, E149, -, st149⟩ := own_lam X148 hx hZS0 (x := yn_55) ((State.methodNamed?_setVm (s := Z) hZS0.alike _).trans hnZ_) (ow 373 rfl) (ow 26 rfl) (by decide) (TS := #[.int, .int, (.object "org/tallyrole/core/Dependencies"), (.object "java/util/List")]) (by decide +kernel) e148 (g := (mkF m 396 #[.val (.ref gr), .val (.int fr), .val (.int io), .val (.ref dp), .val (.ref wf), .val (.ref b117), .val (.ref b131), .unset, .unset, .unset, .unset] [(.ref b117), (.ref dp), (.int io), (.int fr), (.ref su)])) rfl rfl (by rw [hml]; rfl) (dx 69 rfl) (vals := [(.int fr), (.int io), (.ref dp), (.ref b117)]) (rest := [(.ref su)]) rfl rfl rfl (own_hf rfl rfl) (Nat.le_of_ble_eq_true rfl) (Nat.le_of_ble_eq_true rfl) (nv := 4) rfl (Nat.le_of_ble_eq_true rfl)
  obtain ⟨b149, g149⟩ : ∃ z, z = T137.heap.size := ⟨_, rfl⟩
  have ge_b149 : n0 ≤ b149 := Nat.le_trans Zs144 (Nat.le_of_eq g149.symm)
  have sz_b149 : h0.size ≤ b149 := Nat.le_trans K137.1 (Nat.le_of_eq g149.symm)
  rw [← g149] at st149
  have K149 : Keep h0 h149 [gr, cn, cu, lb] := K137.ext E149
  have hkk150 : h0.size ≤ h149.size := (Nat.le_trans hkk143 E149.1)
  have Zs151 : n0 ≤ h149.size := (Nat.le_trans Zs144 E149.1)
  have ne154 : su ≠ b117 := Nat.ne_of_lt (Nat.lt_of_lt_of_le (((((((H46_E.keep hq15).wr W25).wr W39).keep hq59).wr W69).keep hq83).keep hq95).lt (Nat.le_of_eq g117.symm))
  have ne155 : su ≠ b131 := Nat.ne_of_lt (Nat.lt_of_lt_of_le (((((((((H46_E.keep hq15).wr W25).wr W39).keep hq59).wr W69).keep hq83).keep hq95).ext E117).keep hq125).lt (Nat.le_of_eq g131.symm))
  have F153 := (((((((((((H47_F.keep hq15 (ninS (Ne.symm hn_cn_su) nin0)).other W25 (Or.inl (Ne.symm hn_gr_su))).other W39 (Or.inl (Ne.symm hn_gr_su))).keep hq59 (ninS (Ne.symm hn_cu_su) nin0)).other W69 (Or.inl (Ne.symm hn_gr_su))).keep hq83 (ninS (Ne.symm hn_lb_su) nin0)).keep hq95 nin0).ext E117).keep hq125 (ninS ne154 nin0)).ext E131).keep hq139 (ninS ne155 nin0)).ext E149
  have E156 := (((((((((((H46_E.keep hq15).wr W25).wr W39).keep hq59).wr W69).keep hq83).keep hq95).ext E117).keep hq125).ext E131).keep hq139).ext E149
  obtain ⟨cq152, kq152, q152a, q152b, q152c⟩ := isOf hZS0 e149 E156
  obtain ⟨_, T152, Lc152, X152, hQ152, st152⟩ := own_rt X149 (X149.interfaceBack hx (xi := yn_56) (y := yn_37) hownS0 (mvT hZS0 (ow 376 rfl)) (mvT hZS0 (ow 377 rfl)) (mvT hZS0 (ow 378 rfl)) (mvT hZS0 (ow 379 rfl)) (mvT hZS0 (ow 380 rfl)) (mvT hZS0 (ow 381 rfl)) (mvT hZS0 (ow 382 rfl)) (mvT hZS0 (ow 286 rfl)) (by decide) (backOf (W := 0) (rm_hmF l Z a0 hw [] su b149 h149 n0 Zs151 F153) hZS0 (ow 383 rfl) (ow 51 rfl) (by decide) (by decide)) q152a q152b q152c (g := (mkF m 401 #[.val (.ref gr), .val (.int fr), .val (.int io), .val (.ref dp), .val (.ref wf), .val (.ref b117), .val (.ref b131), .unset, .unset, .unset, .unset] [(.ref b149), (.ref su)])) rfl (by rw [hml]; rfl) (Steps.refl _) (argsL := [(.ref b149)]) (rest := []) (lenOf pd_24 rfl) rfl (Nat.le_of_eq rfl) (dx 70 rfl) (fun _ _ => ⟨rfl, e149, (by decide : 7 + 0 ≤ _), (by decide : 22 + 0 ≤ _)⟩))
  obtain ⟨rfl, N152q, hq157⟩ := hQ152
  have N152 := Fr.app N137 N152q
  have F158 := (((((((((((H34_F.keep hq15 (ninS (Ne.symm hn_cn_wf) nin0)).other W25 (Or.inl (Ne.symm hn_gr_wf))).other W39 (Or.inl (Ne.symm hn_gr_wf))).keep hq59 (ninS (Ne.symm hn_cu_wf) nin0)).other W69 (Or.inl (Ne.symm hn_gr_wf))).keep hq83 (ninS (Ne.symm hn_lb_wf) nin0)).keep hq95 nin0).ext E117).keep hq125 (ninS ne146 nin0)).ext E131).keep hq139 (ninS ne147 nin0)).ext E149
  obtain ⟨T160, h160, X160, e160, E160, -, st160⟩ := own_lam X152 hx hZS0 (x := yn_55) ((State.methodNamed?_setVm (s := Z) hZS0.alike _).trans hnZ_) (ow 387 rfl) (ow 26 rfl) (by decide) (TS := #[.int, .int, (.object "org/tallyrole/core/Dependencies"), (.object "java/util/List")]) (by decide +kernel) hq157 (g := (mkF m 416 #[.val (.ref gr), .val (.int fr), .val (.int io), .val (.ref dp), .val (.ref wf), .val (.ref b117), .val (.ref b131), .unset, .unset, .unset, .unset] [(.ref b131), (.ref dp), (.int io), (.int fr), (.ref ba)])) rfl rfl (by rw [hml]; rfl) (dx 77 rfl) (vals := [(.int fr), (.int io), (.ref dp), (.ref b131)]) (rest := [(.ref ba)]) rfl rfl rfl (own_hf rfl rfl) (Nat.le_of_ble_eq_true rfl) (Nat.le_of_ble_eq_true rfl) (nv := 4) rfl (Nat.le_of_ble_eq_true rfl)
  obtain ⟨b160, g160⟩ : ∃ z, z = h149.size := ⟨_, rfl⟩
  have ge_b160 : n0 ≤ b160 := Nat.le_trans Zs151 (Nat.le_of_eq g160.symm)
  have sz_b160 : h0.size ≤ b160 := Nat.le_trans K149.1 (Nat.le_of_eq g160.symm)
  rw [← g160] at st160
  have K160 : Keep h0 h160 [gr, cn, cu, lb] := K149.ext E160
  have hkk161 : h0.size ≤ h160.size := (Nat.le_trans hkk150 E160.1)
  have Zs162 : n0 ≤ h160.size := (Nat.le_trans Zs151 E160.1)
  have ne165 : ba ≠ b117 := Nat.ne_of_lt (Nat.lt_of_lt_of_le (((((((H48_E.keep hq15).wr W25).wr W39).keep hq59).wr W69).keep hq83).keep hq95).lt (Nat.le_of_eq g117.symm))
  have ne166 : ba ≠ b131 := Nat.ne_of_lt (Nat.lt_of_lt_of_le (((((((((H48_E.keep hq15).wr W25).wr W39).keep hq59).wr W69).keep hq83).keep hq95).ext E117).keep hq125).lt (Nat.le_of_eq g131.symm))
  have F164 := ((((((((((((H49_F.keep hq15 (ninS (Ne.symm hn_cn_ba) nin0)).other W25 (Or.inl (Ne.symm hn_gr_ba))).other W39 (Or.inl (Ne.symm hn_gr_ba))).keep hq59 (ninS (Ne.symm hn_cu_ba) nin0)).other W69 (Or.inl (Ne.symm hn_gr_ba))).keep hq83 (ninS (Ne.symm hn_lb_ba) nin0)).keep hq95 nin0).ext E117).keep hq125 (ninS ne165 nin0)).ext E131).keep hq139 (ninS ne166 nin0)).ext E149).ext E160
  have E167 := ((((((((((((H48_E.keep hq15).wr W25).wr W39).keep hq59).wr W69).keep hq83).keep hq95).ext E117).keep hq125).ext E131).keep hq139).ext E149).ext E160
  obtain ⟨cq163, kq163, q163a, q163b, q163c⟩ := isOf hZS0 e160 E167
  obtain ⟨_, T163, Lc163, X163, hQ163, st163⟩ := own_rt X160 (X160.interfaceBack hx (xi := yn_56) (y := yn_37) hownS0 (mvT hZS0 (ow 376 rfl)) (mvT hZS0 (ow 377 rfl)) (mvT hZS0 (ow 378 rfl)) (mvT hZS0 (ow 379 rfl)) (mvT hZS0 (ow 380 rfl)) (mvT hZS0 (ow 381 rfl)) (mvT hZS0 (ow 382 rfl)) (mvT hZS0 (ow 286 rfl)) (by decide) (backOf (W := 0) (rm_hmF l Z a0 hw [] ba b160 h160 n0 Zs162 F164) hZS0 (ow 383 rfl) (ow 51 rfl) (by decide) (by decide)) q163a q163b q163c (g := (mkF m 421 #[.val (.ref gr), .val (.int fr), .val (.int io), .val (.ref dp), .val (.ref wf), .val (.ref b117), .val (.ref b131), .unset, .unset, .unset, .unset] [(.ref b160), (.ref ba)])) rfl (by rw [hml]; rfl) (Steps.refl _) (argsL := [(.ref b160)]) (rest := []) (lenOf pd_24 rfl) rfl (Nat.le_of_eq rfl) (dx 78 rfl) (fun _ _ => ⟨rfl, e160, (by decide : 8 + 0 ≤ _), (by decide : 26 + 0 ≤ _)⟩))
  obtain ⟨rfl, N163q, hq168⟩ := hQ163
  have N163 := Fr.app N152 N163q
  have ne170 : gr ≠ b117 := Nat.ne_of_lt (Nat.lt_of_lt_of_le (((E71.wr W69).keep hq83).keep hq95).lt (Nat.le_of_eq g117.symm))
  have ne171 : gr ≠ b131 := Nat.ne_of_lt (Nat.lt_of_lt_of_le (((((E71.wr W69).keep hq83).keep hq95).ext E117).keep hq125).lt (Nat.le_of_eq g131.symm))
  have F169 := ((((((((((((H2_F.keep hq15 (ninS hn_gr_cn nin0)).other W25 (Or.inr (sn_41 hw))).other W39 (Or.inr (sn_49 hw).symm)).keep hq59 (ninS hn_gr_cu nin0)).other W69 (Or.inr (sn_50 hw).symm)).keep hq83 (ninS hn_gr_lb nin0)).keep hq95 nin0).ext E117).keep hq125 (ninS ne170 nin0)).ext E131).keep hq139 (ninS ne171 nin0)).ext E149).ext E160
  obtain ⟨T172, X172, e172, st172⟩ := getF X163 hx hZS0 hownS0 (host := "") (Or.inl (ow 17 rfl)) Via.refl hq168 F169 (g := (mkF m 427 #[.val (.ref gr), .val (.int fr), .val (.int io), .val (.ref dp), .val (.ref wf), .val (.ref b117), .val (.ref b131), .unset, .unset, .unset, .unset] [(.ref gr)])) rfl rfl (dx 80 rfl)
  have ne175 : em ≠ b117 := Nat.ne_of_lt (Nat.lt_of_lt_of_le E109.lt (Nat.le_of_eq g117.symm))
  have ne176 : em ≠ b131 := Nat.ne_of_lt (Nat.lt_of_lt_of_le ((E109.ext E117).keep hq125).lt (Nat.le_of_eq g131.symm))
  have F174 := (((((F108.ext E117).keep hq125 (ninS ne175 nin0)).ext E131).keep hq139 (ninS ne176 nin0)).ext E149).ext E160
  have E177 := (((((E109.ext E117).keep hq125).ext E131).keep hq139).ext E149).ext E160
  obtain ⟨cq173, kq173, q173a, q173b, q173c⟩ := isOf hZS0 e172 E177
  obtain ⟨_, T173, Lc173, X173, hQ173, st173⟩ := own_rt X172 (X172.virtualBack hx (y := yn_12) (z := yn_12) hownS0 (mvT hZS0 (ow 79 rfl)) (mvT hZS0 (ow 80 rfl)) (notFace_of_selects (args := #[]) (mvT hZS0 (ow 82 rfl))) (mvT hZS0 (ow 82 rfl)) (mvT hZS0 (ow 81 rfl)) (by decide) (backOf (W := 0) (rm_gtE l Z a0 hw [] em fr h160 n0 Zs162 F174) hZS0 (ow 83 rfl) (ow 11 rfl) (by decide) (by decide)) q173a q173c (g := (mkF m 431 #[.val (.ref gr), .val (.int fr), .val (.int io), .val (.ref dp), .val (.ref wf), .val (.ref b117), .val (.ref b131), .unset, .unset, .unset, .unset] [(.int fr), (.ref em)])) rfl (by rw [hml]; rfl) (Steps.refl _) (argsL := [(.int fr)]) (rest := []) (lenOf pd_3 rfl) rfl (Nat.le_of_eq rfl) (dx 82 rfl) (fun _ _ => ⟨rfl, e172, (by decide : 8 + 0 ≤ _), (by decide : 26 + 0 ≤ _)⟩))
  obtain ⟨rfl, N173q, hq178⟩ := hQ173
  have N173 := Fr.app N163 N173q
  have S181 := ((own_sta_keep ((own_sta_keep ((own_sta_keep (own_sta_keep ((own_sta_keep (((own_sta_keep H7_S hq15 (allS (own_ns_exa H15_E) all0)).wr W25).wr W39) hq59 (allS (own_ns_exa E51) all0)).wr W69) hq83 (allS (own_ns_exa E77) all0)) hq95 all0).ext E117) hq125 (allS (own_ns_exa A117) all0)).ext E131) hq139 (allS (own_ns_exa A131) all0)).ext E149).ext E160
  obtain ⟨_, T180, Lc180, X180, hQ180, st180⟩ := own_rtC X173 (Jvm.LawKit.callS X173 hx (y := yn_6) hownS0 (mvT hZS0 (ow 9 rfl)) (mvT hZS0 (ow 10 rfl)) (mvT hZS0 (ow 11 rfl)) (mvT hZS0 (ow 12 rfl)) (by decide) (backOf (W := 1) (rm_emp l Z a0 hw [] em h160 n0 Zs162 S181) hZS0 (ow 12 rfl) (ow 11 rfl) (by decide) (by decide)) (g := (mkF m 437 #[.val (.ref gr), .val (.int fr), .val (.int io), .val (.ref dp), .val (.ref wf), .val (.ref b117), .val (.ref b131), .unset, .unset, .unset, .unset] [.null])) rfl (by rw [hml]; rfl) (argsL := []) (rest := [.null]) (lenOf pd_1 rfl) rfl (Nat.le_of_eq rfl) (dx 84 rfl) (fun _ _ => ⟨rfl, hq178, (by decide : 8 + 0 ≤ _), (by decide : 26 + 0 ≤ _)⟩))
  obtain ⟨rfl, N180q, hq182⟩ := hQ180
  have N180 := Fr.app N173 N180q
  obtain ⟨_, T183, Lc183, X183, hSq183, hgr183, hQ183, st183⟩ := own_rtS X180 (callSS X180 hx (y := yn_39) hownS0 (mvT hZS0 (ow 388 rfl)) (mvT hZS0 (ow 389 rfl)) (mvT hZS0 (ow 145 rfl)) (mvT hZS0 (ow 390 rfl)) (by decide) (backOfS (W := 0) (rm_rne l Z a0 hw [] em h160 n0 Zs162 ) hZS0 (ow 390 rfl) (ow 145 rfl) (by decide) (by decide)) (g := (mkF m 440 #[.val (.ref gr), .val (.int fr), .val (.int io), .val (.ref dp), .val (.ref wf), .val (.ref b117), .val (.ref b131), .unset, .unset, .unset, .unset] [(.ref em), .null])) rfl (by rw [hml]; rfl) (argsL := [.null, (.ref em)]) (rest := []) (lenOf pd_25 rfl) rfl (Nat.le_of_eq rfl) (dx 85 rfl) (fun _ _ => ⟨rfl, hq182, (by decide : 8 + 2 ≤ _), (by decide : 26 + 44 ≤ _)⟩))
  obtain ⟨rfl, N183q, hq184⟩ := hQ183
  have N183 := Fr.app N180 N183q
  have K183 : Keep h0 T183.heap [gr, cn, cu, lb] := K160.trans hq184 all0
  have XS183 : Stand p l e ({ frames := 5, cells := 13, slots := 74, locals := 3085 } : Room) (s.setVm T183.vm) m #[(.ref gr), (.int fr), (.int io), (.ref dp)] below meth c T183 _ _ _ := X183
  have hS183 : s.Since T183.vm T183.heap.size := hSS0.trans hSq183 (Nat.le_trans hkk161 (hq182 ▸ hgr183))
  have hZ183 : Z.Warmed39 (s.setVm T183.vm).vm := State.Warmed39.trans (t := s.setVm s.vm) hZS0 hSq183.1
  have ho183 : (s.setVm T183.vm).vm.findClass "org/tallyrole/core/Graph" = some m.cls := by rw [show (s.setVm T183.vm).vm = T183.vm from rfl, hSq183.1.alike.findClass]; exact hownS0
  have hk183 : T183.heap.size ≤ T183.heap.size := Nat.le_refl _
  have Zs185 : n0 ≤ T183.heap.size := (Nat.le_trans Zs162 hq184.1)
  have E187 := E177.keep hq184
  obtain ⟨T186, X186, e186, st186⟩ := castY XS183 hx hZ183 ho183 (ow 402 rfl) rfl (Ins.self E187) (g := (mkF m 443 #[.val (.ref gr), .val (.int fr), .val (.int io), .val (.ref dp), .val (.ref wf), .val (.ref b117), .val (.ref b131), .unset, .unset, .unset, .unset] [(.ref em)])) rfl rfl (dx 86 rfl)
  obtain ⟨cq188, kq188, q188a, q188b, q188c⟩ := isOf hZ183 e186 E187
  obtain ⟨_, T188, Lc188, X188, hQ188, st188⟩ := own_rt X186 (X186.virtualBack hx (y := yn_40) (z := yn_40) ho183 (mvT hZ183 (ow 404 rfl)) (mvT hZ183 (ow 405 rfl)) (notFace_of_selects (args := #[]) (mvT hZ183 (ow 407 rfl))) (mvT hZ183 (ow 407 rfl)) (mvT hZ183 (ow 406 rfl)) (by decide) (backOf (W := 0) (rm_kys l Z a0 hw [] em T183.heap n0 Zs185 ) hZ183 (ow 408 rfl) (ow 11 rfl) (by decide) (by decide)) q188a q188c (g := (mkF m 450 #[.val (.ref gr), .val (.int fr), .val (.int io), .val (.ref dp), .val (.ref wf), .val (.ref b117), .val (.ref b131), .val (.ref em), .unset, .unset, .unset] [(.ref em)])) rfl (by rw [hml]; rfl) (Steps.refl _) (argsL := []) (rest := []) (lenOf pd_26 rfl) rfl (Nat.le_of_eq rfl) (dx 89 rfl) (fun _ _ => ⟨rfl, e186, (by decide : 10 + 1 ≤ _), (by decide : 70 + 1 ≤ _)⟩))
  obtain ⟨x189, rfl, N188q, hq190, hpq191, hpq192, C193⟩ := hQ188
  have N188 := Fr.app N183 N188q
  have K188 : Keep h0 T188.heap [gr, cn, cu, lb] := K183.trans hq190 all0
  have hkk194 : T183.heap.size ≤ T188.heap.size := (Nat.le_trans hk183 hq190.1)
  have Zs195 : n0 ≤ T188.heap.size := (Nat.le_trans Zs185 hq190.1)
  have sz196 : h0.size ≤ x189 := Nat.le_trans K183.1 hpq192
  have E198 := E187.keep hq190
  have F199 := (F174.keep hq184 nin0).keep hq190 nin0
  obtain ⟨_, T197, Lc197, X197, hQ197, st197⟩ := own_rt X188 (own_iter X188 hx hZ183 ho183 (ow 411 rfl) (ow 412 rfl) (ow 413 rfl) (ow 26 rfl) (ow 416 rfl) (ow 414 rfl) (fun U hU => (own_sel_priv (z := (⟨"org/tallyrole/core/IntTrie", "get", "(I)Ljava/lang/Object;"⟩ : MethodName)) (mvT hU (ow 82 rfl)) rfl (mvP hU (ow 415 rfl)) (mvT hU (ow 414 rfl)) (by decide))) (ow 11 rfl) rfl C193 E198 (Q := Q_lmk Z em T188.heap n0) (rm_lmk l Z a0 hw [] em T188.heap n0 Zs195 E198 F199) (fun _ _ _ q => by obtain ⟨_, rfl, _⟩ := q; exact ⟨_, rfl, rfl⟩) (W := 0) (by decide) (by decide) (Nat.le_of_ble_eq_true rfl) (Nat.le_of_ble_eq_true rfl) (g := (mkF m 453 #[.val (.ref gr), .val (.int fr), .val (.int io), .val (.ref dp), .val (.ref wf), .val (.ref b117), .val (.ref b131), .val (.ref em), .unset, .unset, .unset] [(.ref x189)])) rfl (by rw [hml]; rfl) (rest := []) rfl (Nat.le_of_eq rfl) (dx 90 rfl))
  obtain ⟨x200, rfl, N197q, hq201, hpq202, hpq203, E204, F205⟩ := hQ197
  have N197 := Fr.app N188 N197q
  have K197 : Keep h0 T197.heap [gr, cn, cu, lb] := K188.trans hq201 all0
  have hkk206 : T183.heap.size ≤ T197.heap.size := (Nat.le_trans hkk194 hq201.1)
  have Zs207 : n0 ≤ T197.heap.size := (Nat.le_trans Zs195 hq201.1)
  have sz208 : h0.size ≤ x200 := Nat.le_trans K188.1 hpq203
  obtain ⟨cq209, kq209, q209a, q209b, q209c⟩ := isOf hZ183 rfl E204
  obtain ⟨_, T209, Lc209, X209, hQ209, st209⟩ := own_rt X197 (X197.interfaceBack hx (xi := yn_53) (y := yn_43) ho183 (mvT hZ183 (ow 344 rfl)) (mvT hZ183 (ow 345 rfl)) (mvT hZ183 (ow 346 rfl)) (mvT hZ183 (ow 429 rfl)) (mvT hZ183 (ow 430 rfl)) (mvT hZ183 (ow 431 rfl)) (mvT hZ183 (ow 432 rfl)) (mvT hZ183 (ow 433 rfl)) (by decide) (backOf (W := 0) (rm_hn1 l Z a0 hw [] x200 T197.heap n0 Zs207 F205) hZ183 (ow 434 rfl) (ow 419 rfl) (by decide) (by decide)) q209a q209b q209c (g := (mkF m 462 #[.val (.ref gr), .val (.int fr), .val (.int io), .val (.ref dp), .val (.ref wf), .val (.ref b117), .val (.ref b131), .val (.ref em), .val (.ref x200), .unset, .unset] [(.ref x200)])) rfl (by rw [hml]; rfl) (Steps.refl _) (argsL := []) (rest := []) (lenOf pd_19 rfl) rfl (Nat.le_of_eq rfl) (dx 93 rfl) (fun _ _ => ⟨rfl, rfl, (by decide : 12 + 0 ≤ _), (by decide : 73 + 0 ≤ _)⟩))
  obtain ⟨rfl, N209q, hq210⟩ := hQ209
  have N209 := Fr.app N197 N209q
  obtain ⟨T211, h211, X211, e211, E211, -, st211⟩ := own_lam X209 hx hZ183 (x := yn_55) ((State.methodNamed?_setVm (s := Z) hZ183.alike _).trans hnZ_) (ow 435 rfl) (ow 26 rfl) (by decide) (TS := #[(.object "org/tallyrole/core/Graph")]) (by decide +kernel) hq210 (g := (mkF m 542 #[.val (.ref gr), .val (.int fr), .val (.int io), .val (.ref dp), .val (.ref wf), .val (.ref b117), .val (.ref b131), .val (.ref em), .val (.ref x200), .unset, .unset] [(.ref gr), (.ref b131)])) rfl rfl (by rw [hml]; rfl) (dx 97 rfl) (vals := [(.ref gr)]) (rest := [(.ref b131)]) rfl rfl rfl (own_hf rfl rfl) (Nat.le_of_ble_eq_true rfl) (Nat.le_of_ble_eq_true rfl) (nv := 1) rfl (Nat.le_of_ble_eq_true rfl)
  obtain ⟨b211, g211⟩ : ∃ z, z = T197.heap.size := ⟨_, rfl⟩
  have ge_b211 : n0 ≤ b211 := Nat.le_trans Zs207 (Nat.le_of_eq g211.symm)
  have sz_b211 : h0.size ≤ b211 := Nat.le_trans K197.1 (Nat.le_of_eq g211.symm)
  rw [← g211] at st211
  have K211 : Keep h0 h211 [gr, cn, cu, lb] := K197.ext E211
  have hkk212 : T183.heap.size ≤ h211.size := (Nat.le_trans hkk206 E211.1)
  have Zs213 : n0 ≤ h211.size := (Nat.le_trans Zs207 E211.1)
  have F215 := (((((F140.ext E149).ext E160).keep hq184 nin0).keep hq190 nin0).keep hq201 nin0).ext E211
  have F216 := (((((F141.ext E149).ext E160).keep hq184 nin0).keep hq190 nin0).keep hq201 nin0).ext E211
  have F217 := (((((F142.ext E149).ext E160).keep hq184 nin0).keep hq190 nin0).keep hq201 nin0).ext E211
  have E218 := ((((((A131.keep hq139).ext E149).ext E160).keep hq184).keep hq190).keep hq201).ext E211
  obtain ⟨cq214, kq214, q214a, q214b, q214c⟩ := isOf hZ183 e211 E218
  obtain ⟨_, T214, Lc214, X214, hQ214, st214⟩ := own_rt X211 (own_upB X211 hx (J := "java/lang/Iterable") (xi := yn_57) (y := yn_44) ho183 (mvT hZ183 (ow 437 rfl)) (mvT hZ183 (ow 438 rfl)) (Jvm.Free.ULB.iface_rides hZ183.alike (ow 439 rfl)) (by decide) (by decide) (mvT hZ183 (ow 440 rfl)) (mvT hZ183 (ow 441 rfl)) (mvT hZ183 (ow 442 rfl)) (mvT hZ183 (ow 443 rfl)) (mvT hZ183 (ow 366 rfl)) (by decide) (backOf (W := 0) (rm_alF l Z a0 hw [] b131 b211 ae h211 n0 Zs213 F215 F216 F217) hZ183 (ow 444 rfl) (ow 108 rfl) (by decide) (by decide)) q214a q214b q214c (g := (mkF m 547 #[.val (.ref gr), .val (.int fr), .val (.int io), .val (.ref dp), .val (.ref wf), .val (.ref b117), .val (.ref b131), .val (.ref em), .val (.ref x200), .unset, .unset] [(.ref b211), (.ref b131)])) rfl (by rw [hml]; rfl) (Steps.refl _) (argsL := [(.ref b211)]) (rest := []) (lenOf pd_27 rfl) rfl (Nat.le_of_eq rfl) (dx 98 rfl) (fun _ _ => ⟨rfl, e211, (by decide : 13 + 0 ≤ _), (by decide : 74 + 0 ≤ _)⟩))
  obtain ⟨rfl, N214q, hq219⟩ := hQ214
  have N214 := Fr.app N209 N214q
  have pre220 := fun (t : State) (k : Steps p.tables e below (T214.setTop (mkF m 554 #[.val (.ref gr), .val (.int fr), .val (.int io), .val (.ref dp), .val (.ref wf), .val (.ref b117), .val (.ref b131), .val (.ref em), .val (.ref x200), .unset, .unset] [(.ref b117)])) t) => pre0 t (by
    refine XS.aloadN XS0.here hx rfl (dx 0 rfl) rfl rfl ?_
    refine st1 _ ?_
    refine XS.iloadN X1.here hx rfl (dx 2 rfl) rfl ?_
    refine st2.trans ?_
    refine st4 _ ?_
    refine XS.astore X4.here hx rfl (dx 5 rfl) rfl rfl (l' := #[.val (.ref gr), .val (.int fr), .val (.int io), .val (.ref dp), .val (.ref wf), .unset, .unset, .unset, .unset, .unset, .unset]) rfl ?_
    refine XS.aload X4.here hx rfl (dx 6 rfl) rfl rfl ?_
    refine st5 _ ?_
    refine st6.trans ?_
    refine XS.ifNo X6.here hx rfl (dx 9 rfl) rfl ((if0 _ _).trans (feq (by decide : ¬ ((1 : Int32) = (0 : Int32)))).1) ?_
    refine XS.aloadN X6.here hx rfl (dx 10 rfl) rfl rfl ?_
    refine XS.iloadN X6.here hx rfl (dx 11 rfl) rfl ?_
    refine XS.iloadN X6.here hx rfl (dx 12 rfl) rfl ?_
    refine st8.trans ?_
    refine XS.ifnullYes X8.here hx rfl (pc0 := 32) (pc' := 50) rfl (dx 14 rfl) rfl (by decide) (by decide) ?_
    refine XS.aloadN X8.here hx rfl (dx 15 rfl) rfl rfl ?_
    refine XS.aloadN X8.here hx rfl (dx 16 rfl) rfl rfl ?_
    refine st10 _ ?_
    refine XS.iloadN X10.here hx rfl (dx 18 rfl) rfl ?_
    refine XS.aloadN X10.here hx rfl (dx 19 rfl) rfl rfl ?_
    refine st11 _ ?_
    refine st12.trans ?_
    refine st25 _ ?_
    refine XS.aloadN X25.here hx rfl (dx 23 rfl) rfl rfl ?_
    refine XS.aloadN X25.here hx rfl (dx 24 rfl) rfl rfl ?_
    refine st31 _ ?_
    refine XS.iloadN X31.here hx rfl (dx 26 rfl) rfl ?_
    refine XS.aloadN X31.here hx rfl (dx 27 rfl) rfl rfl ?_
    refine st33 _ ?_
    refine st34.trans ?_
    refine st39 _ ?_
    refine XS.aloadN X39.here hx rfl (dx 31 rfl) rfl rfl ?_
    refine XS.aloadN X39.here hx rfl (dx 32 rfl) rfl rfl ?_
    refine st44 _ ?_
    refine XS.iloadN X44.here hx rfl (dx 34 rfl) rfl ?_
    refine XS.aloadN X44.here hx rfl (dx 35 rfl) rfl rfl ?_
    refine st46 _ ?_
    refine st47.trans ?_
    refine st69 _ ?_
    refine XS.aload X69.here hx rfl (dx 39 rfl) rfl rfl ?_
    refine st75 _ ?_
    refine st76.trans ?_
    refine st93.trans ?_
    refine XS.astore X93.here hx rfl (dx 43 rfl) rfl rfl (l' := #[.val (.ref gr), .val (.int fr), .val (.int io), .val (.ref dp), .val (.ref wf), .val (.ref x94), .unset, .unset, .unset, .unset, .unset]) rfl ?_
    refine XS.aload X93.here hx rfl (dx 44 rfl) rfl rfl ?_
    refine st103.trans ?_
    refine XS.ifYes X103.here hx rfl (pc0 := 122) (pc' := 169) rfl (dx 46 rfl) rfl ((if0 _ _).trans (teq (by decide : (0 : Int32) = (0 : Int32))).1) (by decide) (by decide) ?_
    refine XS.aload X103.here hx rfl (dx 47 rfl) rfl rfl ?_
    refine own_getRef X103 hx hZS0 hownS0 (ow 262 rfl) hq104 F105 (g := (mkF m 171 #[.val (.ref gr), .val (.int fr), .val (.int io), .val (.ref dp), .val (.ref wf), .val (.ref x94), .unset, .unset, .unset, .unset, .unset] [(.ref wf)])) rfl rfl (dx 48 rfl) _ ?_
    refine st107.trans ?_
    refine XS.ifNo X107.here hx rfl (dx 50 rfl) rfl ((if0 _ _).trans (feq (by decide : ¬ ((1 : Int32) = (0 : Int32)))).1) ?_
    refine XS.aload X107.here hx rfl (dx 51 rfl) rfl rfl ?_
    refine own_getRef X107 hx hZS0 hownS0 (ow 358 rfl) hq110 F111 (g := (mkF m 182 #[.val (.ref gr), .val (.int fr), .val (.int io), .val (.ref dp), .val (.ref wf), .val (.ref x94), .unset, .unset, .unset, .unset, .unset] [(.ref wf)])) rfl rfl (dx 52 rfl) _ ?_
    refine st113.trans ?_
    refine XS.ifYes X113.here hx rfl (pc0 := 190) (pc' := 368) rfl (dx 54 rfl) rfl ((if0 _ _).trans (feq (by decide : ¬ ((1 : Int32) = (0 : Int32)))).2) (by decide) (by decide) ?_
    refine st117 _ ?_
    refine XS.dup X117.here hx rfl (dx 56 rfl) rfl rfl ?_
    refine st123.trans ?_
    refine XS.astore X123.here hx rfl (dx 58 rfl) rfl rfl (l' := #[.val (.ref gr), .val (.int fr), .val (.int io), .val (.ref dp), .val (.ref wf), .val (.ref b117), .unset, .unset, .unset, .unset, .unset]) rfl ?_
    refine st131 _ ?_
    refine XS.dup X131.here hx rfl (dx 60 rfl) rfl rfl ?_
    refine st137.trans ?_
    refine XS.astore X137.here hx rfl (dx 62 rfl) rfl rfl (l' := #[.val (.ref gr), .val (.int fr), .val (.int io), .val (.ref dp), .val (.ref wf), .val (.ref b117), .val (.ref b131), .unset, .unset, .unset, .unset]) rfl ?_
    refine XS.aload X137.here hx rfl (dx 63 rfl) rfl rfl ?_
    refine st148 _ ?_
    refine XS.iloadN X148.here hx rfl (dx 65 rfl) rfl ?_
    refine XS.iloadN X148.here hx rfl (dx 66 rfl) rfl ?_
    refine XS.aloadN X148.here hx rfl (dx 67 rfl) rfl rfl ?_
    refine XS.aload X148.here hx rfl (dx 68 rfl) rfl rfl ?_
    refine st149 _ ?_
    refine st152.trans ?_
    refine XS.aload X152.here hx rfl (dx 71 rfl) rfl rfl ?_
    refine own_getRef X152 hx hZS0 hownS0 (ow 386 rfl) hq157 F158 (g := (mkF m 408 #[.val (.ref gr), .val (.int fr), .val (.int io), .val (.ref dp), .val (.ref wf), .val (.ref b117), .val (.ref b131), .unset, .unset, .unset, .unset] [(.ref wf)])) rfl rfl (dx 72 rfl) _ ?_
    refine XS.iloadN X152.here hx rfl (dx 73 rfl) rfl ?_
    refine XS.iloadN X152.here hx rfl (dx 74 rfl) rfl ?_
    refine XS.aloadN X152.here hx rfl (dx 75 rfl) rfl rfl ?_
    refine XS.aload X152.here hx rfl (dx 76 rfl) rfl rfl ?_
    refine st160 _ ?_
    refine st163.trans ?_
    refine XS.aloadN X163.here hx rfl (dx 79 rfl) rfl rfl ?_
    refine st172 _ ?_
    refine XS.iloadN X172.here hx rfl (dx 81 rfl) rfl ?_
    refine st173.trans ?_
    refine X173.checkcastNull hx (g := (mkF m 434 #[.val (.ref gr), .val (.int fr), .val (.int io), .val (.ref dp), .val (.ref wf), .val (.ref b117), .val (.ref b131), .unset, .unset, .unset, .unset] [.null])) rfl rfl (dx 83 rfl) _ ?_
    refine st180 _ ?_
    refine st183.trans ?_
    refine st186 _ ?_
    refine XS.astore X186.here hx rfl (dx 87 rfl) rfl rfl (l' := #[.val (.ref gr), .val (.int fr), .val (.int io), .val (.ref dp), .val (.ref wf), .val (.ref b117), .val (.ref b131), .val (.ref em), .unset, .unset, .unset]) rfl ?_
    refine XS.aload X186.here hx rfl (dx 88 rfl) rfl rfl ?_
    refine st188.trans ?_
    refine st197.trans ?_
    refine XS.astore X197.here hx rfl (dx 91 rfl) rfl rfl (l' := #[.val (.ref gr), .val (.int fr), .val (.int io), .val (.ref dp), .val (.ref wf), .val (.ref b117), .val (.ref b131), .val (.ref em), .val (.ref x200), .unset, .unset]) rfl ?_
    refine XS.aload X197.here hx rfl (dx 92 rfl) rfl rfl ?_
    refine st209.trans ?_
    refine XS.ifYes X209.here hx rfl (pc0 := 467) (pc' := 539) rfl (dx 94 rfl) rfl ((if0 _ _).trans (teq (by decide : (0 : Int32) = (0 : Int32))).1) (by decide) (by decide) ?_
    refine XS.aload X209.here hx rfl (dx 95 rfl) rfl rfl ?_
    refine XS.aloadN X209.here hx rfl (dx 96 rfl) rfl rfl ?_
    refine st211 _ ?_
    refine st214.trans ?_
    refine XS.aload X214.here hx rfl (dx 99 rfl) rfl rfl ?_
    exact k)
  have F221 := ((((((((((((((Fw25.other W39 (Or.inr (sn_42 hw).symm)).keep hq59 (ninS hn_gr_cu nin0)).other W69 (Or.inr (sn_43 hw).symm)).keep hq83 (ninS hn_gr_lb nin0)).keep hq95 nin0).ext E117).keep hq125 (ninS ne170 nin0)).ext E131).keep hq139 (ninS ne171 nin0)).ext E149).ext E160).keep hq184 nin0).keep hq190 nin0).keep hq201 nin0).ext E211
  have F222 := (((((((((((((F45.keep hq59 (ninS hn_gr_cu nin0)).other W69 (Or.inr (sn_62 hw))).keep hq83 (ninS hn_gr_lb nin0)).keep hq95 nin0).ext E117).keep hq125 (ninS ne170 nin0)).ext E131).keep hq139 (ninS ne171 nin0)).ext E149).ext E160).keep hq184 nin0).keep hq190 nin0).keep hq201 nin0).ext E211
  have F223 := ((((((((((((((((H6_F.keep hq15 (ninS hn_gr_cn nin0)).other W25 (Or.inr (sn_45 hw))).other W39 (Or.inr (sn_58 hw))).keep hq59 (ninS hn_gr_cu nin0)).other W69 (Or.inr (sn_63 hw))).keep hq83 (ninS hn_gr_lb nin0)).keep hq95 nin0).ext E117).keep hq125 (ninS ne170 nin0)).ext E131).keep hq139 (ninS ne171 nin0)).ext E149).ext E160).keep hq184 nin0).keep hq190 nin0).keep hq201 nin0).ext E211
  have ne225 : cn ≠ b117 := Nat.ne_of_lt (Nat.lt_of_lt_of_le (((((((H15_E.keep hq15).wr W25).wr W39).keep hq59).wr W69).keep hq83).keep hq95).lt (Nat.le_of_eq g117.symm))
  have ne226 : cn ≠ b131 := Nat.ne_of_lt (Nat.lt_of_lt_of_le (((((((((H15_E.keep hq15).wr W25).wr W39).keep hq59).wr W69).keep hq83).keep hq95).ext E117).keep hq125).lt (Nat.le_of_eq g131.symm))
  have F224 := (((((((((((((((F18.other W25 (Or.inl (Ne.symm hn_gr_cn))).other W39 (Or.inl (Ne.symm hn_gr_cn))).keep hq59 (ninS hn_cn_cu nin0)).other W69 (Or.inl (Ne.symm hn_gr_cn))).keep hq83 (ninS hn_cn_lb nin0)).keep hq95 nin0).ext E117).keep hq125 (ninS ne225 nin0)).ext E131).keep hq139 (ninS ne226 nin0)).ext E149).ext E160).keep hq184 nin0).keep hq190 nin0).keep hq201 nin0).ext E211
  have F227 := (((((((((((((((F19.other W25 (Or.inl (Ne.symm hn_gr_cn))).other W39 (Or.inl (Ne.symm hn_gr_cn))).keep hq59 (ninS hn_cn_cu nin0)).other W69 (Or.inl (Ne.symm hn_gr_cn))).keep hq83 (ninS hn_cn_lb nin0)).keep hq95 nin0).ext E117).keep hq125 (ninS ne225 nin0)).ext E131).keep hq139 (ninS ne226 nin0)).ext E149).ext E160).keep hq184 nin0).keep hq190 nin0).keep hq201 nin0).ext E211
  have F228 := (((((((((((((((F20.other W25 (Or.inl (Ne.symm hn_gr_cn))).other W39 (Or.inl (Ne.symm hn_gr_cn))).keep hq59 (ninS hn_cn_cu nin0)).other W69 (Or.inl (Ne.symm hn_gr_cn))).keep hq83 (ninS hn_cn_lb nin0)).keep hq95 nin0).ext E117).keep hq125 (ninS ne225 nin0)).ext E131).keep hq139 (ninS ne226 nin0)).ext E149).ext E160).keep hq184 nin0).keep hq190 nin0).keep hq201 nin0).ext E211
  have ne230 : gr ≠ x13 := Nat.ne_of_lt (Nat.lt_of_lt_of_le H0_E.lt hpq17)
  have ne231 : cu ≠ x13 := Nat.ne_of_lt (Nat.lt_of_lt_of_le H23_E.lt hpq17)
  have ne232 : lb ≠ x13 := Nat.ne_of_lt (Nat.lt_of_lt_of_le H38_E.lt hpq17)
  have ne233 : x13 ≠ b117 := Nat.ne_of_lt (Nat.lt_of_lt_of_le ((((((A21.other W25 (Ne.symm ne230)).other W39 (Ne.symm ne230)).keep hq59 (ninS (Ne.symm ne231) nin0)).other W69 (Ne.symm ne230)).keep hq83 (ninS (Ne.symm ne232) nin0)).keep hq95 nin0).lt (Nat.le_of_eq g117.symm))
  have ne234 : x13 ≠ b131 := Nat.ne_of_lt (Nat.lt_of_lt_of_le ((((((((A21.other W25 (Ne.symm ne230)).other W39 (Ne.symm ne230)).keep hq59 (ninS (Ne.symm ne231) nin0)).other W69 (Ne.symm ne230)).keep hq83 (ninS (Ne.symm ne232) nin0)).keep hq95 nin0).ext E117).keep hq125 (ninS ne233 nin0)).lt (Nat.le_of_eq g131.symm))
  have A229 := (((((((((((((((A21.other W25 (Ne.symm ne230)).other W39 (Ne.symm ne230)).keep hq59 (ninS (Ne.symm ne231) nin0)).other W69 (Ne.symm ne230)).keep hq83 (ninS (Ne.symm ne232) nin0)).keep hq95 nin0).ext E117).keep hq125 (ninS ne233 nin0)).ext E131).keep hq139 (ninS ne234 nin0)).ext E149).ext E160).keep hq184 nin0).keep hq190 nin0).keep hq201 nin0).ext E211
  obtain ⟨fs, hr, hrun, hended, hE1, hE2, hE3, hE4⟩ := X214.leaveW hS183 (by rw [hq219]; exact hkk212) (v := some (.ref b117)) (hlocks := BodyLoose.notSynchronized Bd) (fun h => by rw [Bd.returns] at h; cases h)
  refine ⟨_, _, pre220 _ ?_, hrun, hended, _, _, rfl, ?_, hE1, hE2, hE3, hE4.mono (by decide) (by decide)⟩
  · jvm_step X214.here [X214.here.top, hx, (dx 100 rfl), X214.method', Bd.returns, Value.isRef, FieldType.isReference]
    first | (intro acts; rw [hr _ acts rfl rfl rfl]) | rw [hr _ _ rfl rfl rfl]
    exact Steps.refl _
  · show Q_mrg Z gr gg em ae bt tn cn an kn mn nl vs tu cu au ku mu lu us k1 fr io wf wi dp lb pd su ba iv pn qn pu qu h0 n0 _ T214.heap _
    rw [hq219]
    exact ⟨b117, x13, x14, rfl, N214, K211, hpq16, sz24, F221, F222, F223, F224, F227, F228, A229⟩

def Q_law (Z : State) (p0 : Int32) (p1 : Int32) (p2 : Int32) (p3 : Int32) (em : Addr) (ae : Addr) (bt : Addr) (no : Addr) (kno : ClassId) (nk : Addr) (nw : Addr) (h0 : Heap) (n0 : Nat) (v : Option Value) (h : Heap) (L : List Loc) : Prop := v = some (.int 1) ∧ Fr n0 L ∧ Keep h0 h []
set_option maxRecDepth 65536 in
set_option maxHeartbeats 40000000 in
theorem rm_law (l : Launch) (Z : State) (a0 : Array Value) (hw : own_HW a0 Z) (ws : List Jvm.Cond) (p0 : Int32) (p1 : Int32) (p2 : Int32) (p3 : Int32) (em : Addr) (ae : Addr) (bt : Addr) (no : Addr) (kno : ClassId) (nk : Addr) (nw : Addr) (h0 : Heap) (n0 : Nat) (Z0 : n0 ≤ h0.size) (H0_S : Sta Z h0 "org/tallyrole/core/IntTrie" "EMPTY" "Lorg/tallyrole/core/IntTrie;" (.ref em)) (H1_S : Sta Z h0 "org/tallyrole/core/IntTrie$Chunk" "NONE" "[Ljava/lang/Object;" (.ref no)) (H2_S : Sta Z h0 "java/util/ArrayList" "DEFAULTCAPACITY_EMPTY_ELEMENTDATA" "[Ljava/lang/Object;" (.ref ae)) (H3_A : Arv Z h0 no kno (.object "java/lang/Object") (0 : Int32) [] .null) (H4_E : e_29 Z h0 em) (H5_F : f_27 Z h0 em .null) (H6_F : f_28 Z h0 em (.int 0)) (H7_E : e_40 Z h0 bt) (H8_S : Sta Z h0 "java/lang/Boolean" "TRUE" "Ljava/lang/Boolean;" (.ref bt)) (H9_S : Sta Z h0 "org/tallyrole/core/Dependencies" "NO_KEYS" "[I" (.ref nk)) (H10_S : Sta Z h0 "org/tallyrole/core/Dependencies" "NO_WORDS" "[J" (.ref nw)) :
    own_MSL l x (Jvm.Cond.code x code maxLocals ret :: ws) room_1 Z #[(.int p0), (.int p1), (.int p2), (.int p3)] h0 (Q_law Z p0 p1 p2 p3 em ae bt no kno nk nw h0 n0) 53 320 := by
  refine MetFree.of_bodySF (plainFor_of_name pn_19) hisR ?_
  intro p e s m args below meth c s₁ Bd hml0 hP hK
  have ow := @own_w a0 Z hw
  obtain ⟨rfl, hZ, hhp_⟩ := hP
  have hx := Bd.exec
  have hby := Bd.bytes
  have hml : c.maxLocals = 12 := hml0
  have hown : s.vm.findClass "org/tallyrole/core/GraphNodePinLaw" = some m.cls := findClass_of_methodNamed Bd.named
  have hnm := (name_of_methodNamed Bd.named Bd.method).1
  have X0 : Stand p l e room_1 s m _ below meth c s₁ [] 0 0 := Stand.of_body Bd
  have e0 : s₁.heap = h0 := by rw [← hhp_, Bd.state]; rfl
  have N0 := Fr.nil n0
  have pre0 : ∀ t, Steps p.tables e below (s₁.setTop (mkF m 0 #[.val (.int p0), .val (.int p1), .val (.int p2), .val (.int p3), .unset, .unset, .unset, .unset, .unset, .unset, .unset, .unset] [])) t → Steps p.tables e below (s₁.setTop (entryFrame m #[(.int p0), (.int p1), (.int p2), (.int p3)] maxLocals)) t := fun t k => castTop rfl k
  have XS0 : Stand p l e room_1 (s.setVm s.vm) m #[(.int p0), (.int p1), (.int p2), (.int p3)] below meth c s₁ [] 0 0 := X0
  have hZS0 : Z.Warmed39 (s.setVm s.vm).vm := hZ
  have hownS0 : (s.setVm s.vm).vm.findClass "org/tallyrole/core/GraphNodePinLaw" = some m.cls := hown
  have hSS0 : s.Since s.vm h0.size := (State.WarmedH.refl s).since _
  have hkS0 : h0.size ≤ h0.size := Nat.le_refl _
  have K0 : Keep h0 h0 [] := Keep.refl h0 []
  have rst : ∀ (gr : Addr) (gg : Addr) (tn : Addr) (cn : Addr) (an : Addr) (kn : ClassId) (mm : Int32) (ln : Int32) (vs : List Value) (ni : Int32) (go : Int32) (z7 : Slot) (z8 : Slot) (cc_ nn_ : Nat) (hcc_ : cc_ ≤ 53) (hnn_ : nn_ ≤ 320) (T_rst : State) (H_rst : Heap) (V_rst : Vm) (k_rst : Nat) (Lt_rst : List Loc) (N_rst : Fr n0 Lt_rst) (X_rst : Stand p l e room_1 (s.setVm V_rst) m #[(.int p0), (.int p1), (.int p2), (.int p3)] below meth c T_rst Lt_rst cc_ nn_) (hZ_rst : Z.Warmed39 (s.setVm V_rst).vm) (ho_rst : (s.setVm V_rst).vm.findClass "org/tallyrole/core/GraphNodePinLaw" = some m.cls) (hS_rst : s.Since V_rst k_rst) (hk_rst : k_rst ≤ H_rst.size) (e_rst : T_rst.heap = H_rst) (K_rst : Keep h0 H_rst []) (Z_rst : n0 ≤ H_rst.size) (rst_0 : e_39 Z H_rst gr) (rst_1 : f_30 Z H_rst gr (.ref tn)) (rst_2 : f_35 Z H_rst gr (.ref gg)) (rst_3 : e_29 Z H_rst tn) (rst_4 : f_27 Z H_rst tn (.ref cn)) (rst_5 : f_28 Z H_rst tn (.int 0)) (rst_6 : e_26 Z H_rst cn) (rst_7 : f_25 Z H_rst cn (.int mm)) (rst_8 : f_23 Z H_rst cn (.ref an)) (rst_9 : Arv Z H_rst an kn (.object "java/lang/Object") ln vs .null) (rst_10 : own_Nds Z H_rst gg vs) (hT : own_T mm ln vs ni go) (hz7 : own_One z7) (hz8 : own_One z8), ∃ s₂ o, Steps p.tables e below (T_rst.setTop (mkF m 117 #[.val (.int p0), .val (.int p1), .val (.int p2), .val (.int p3), .val (.ref gr), .val (.int ni), .val (.int go), z7, z8, .unset, .unset, .unset] [])) s₂ ∧ s₂.status = .running ∧ Ended s₂ below o ∧ ∃ v L, o = .returned v ∧ Q_law Z p0 p1 p2 p3 em ae bt no kno nk nw h0 n0 v s₂.heap L ∧ ReturnedEndW s o s₂ L 53 320 := by
    intro gr gg tn cn an kn mm ln vs ni go z7 z8 cc_ nn_ hcc_ hnn_ T_rst H_rst V_rst k_rst Lt_rst N_rst X_rst hZ_rst ho_rst hS_rst hk_rst e_rst K_rst Z_rst rst_0 rst_1 rst_2 rst_3 rst_4 rst_5 rst_6 rst_7 rst_8 rst_9 rst_10 hT hz7 hz8
    have pre_rst := fun (t : State) (k : Steps p.tables e below (T_rst.setTop (mkF m 117 #[.val (.int p0), .val (.int p1), .val (.int p2), .val (.int p3), .val (.ref gr), .val (.int ni), .val (.int go), z7, z8, .unset, .unset, .unset] [])) t) => k
    rcases (hT.1 p1) with ⟨hno1, hab1⟩ | ⟨hy1, r1, hpr1⟩
    · have rA1 : ∀ (T_rA1 : State) (Lt_rA1 : List Loc) (N_rA1 : Fr n0 Lt_rA1) (X_rA1 : Stand p l e room_1 (s.setVm V_rst) m #[(.int p0), (.int p1), (.int p2), (.int p3)] below meth c T_rA1 Lt_rA1 cc_ nn_) (e_rA1 : T_rA1.heap = H_rst), ∃ s₂ o, Steps p.tables e below (T_rA1.setTop (mkF m 146 #[.val (.int p0), .val (.int p1), .val (.int p2), .val (.int p3), .val (.ref gr), .val (.int ni), .val (.int go), .val .null, z8, .unset, .unset, .unset] [(.int 0)])) s₂ ∧ s₂.status = .running ∧ Ended s₂ below o ∧ ∃ v L, o = .returned v ∧ Q_law Z p0 p1 p2 p3 em ae bt no kno nk nw h0 n0 v s₂.heap L ∧ ReturnedEndW s o s₂ L 53 320 := by
        intro T_rA1 Lt_rA1 N_rA1 X_rA1 e_rA1
        have pre_rA1 := fun (t : State) (k : Steps p.tables e below (T_rA1.setTop (mkF m 146 #[.val (.int p0), .val (.int p1), .val (.int p2), .val (.int p3), .val (.ref gr), .val (.int ni), .val (.int go), .val .null, z8, .unset, .unset, .unset] [(.int 0)])) t) => k
        obtain ⟨cq1, kq1, q1a, q1b, q1c⟩ := isOf hZ_rst e_rA1 rst_0
        obtain ⟨_, T1, Lc1, X1, hQ1, st1⟩ := own_rt X_rA1 (X_rA1.virtualBack hx (y := yn_47) (z := yn_47) ho_rst (mvT hZ_rst (ow 74 rfl)) (mvT hZ_rst (ow 75 rfl)) (notFace_of_selects (args := #[]) (mvT hZ_rst (ow 77 rfl))) (mvT hZ_rst (ow 77 rfl)) (mvT hZ_rst (ow 76 rfl)) (by decide) (backOf (W := 0) (rm_ndN l Z a0 hw [] gr tn cn mm p1 H_rst n0 Z_rst rst_1 rst_3 rst_4 rst_5 rst_6 rst_7 hab1) hZ_rst (ow 78 rfl) (ow 2 rfl) (by decide) (by decide)) q1a q1c (g := (mkF m 168 #[.val (.int p0), .val (.int p1), .val (.int p2), .val (.int p3), .val (.ref gr), .val (.int ni), .val (.int go), .val .null, .val (.int 0), .unset, .unset, .unset] [(.int p1), (.ref gr)])) rfl (by rw [hml]; rfl) (Steps.refl _) (argsL := [(.int p1)]) (rest := []) (lenOf pd_28 rfl) rfl (Nat.le_of_eq rfl) (hb hby at_168) (fun _ _ => ⟨rfl, e_rA1, (Nat.le_trans hcc_ (by decide)), (Nat.le_trans hnn_ (by decide))⟩))
        obtain ⟨rfl, N1q, hq2⟩ := hQ1
        have N1 := Fr.app N_rA1 N1q
        have pre3 := fun (t : State) (k : Steps p.tables e below (T1.setTop (mkF m 200 #[.val (.int p0), .val (.int p1), .val (.int p2), .val (.int p3), .val (.ref gr), .val (.int ni), .val (.int go), .val .null, .val (.int 0), .val .null, .unset, .unset] [])) t) => pre_rA1 t (by
          refine XS.istore X_rA1.here hx rfl (hb hby at_146) rfl (l' := #[.val (.int p0), .val (.int p1), .val (.int p2), .val (.int p3), .val (.ref gr), .val (.int ni), .val (.int go), .val .null, .val (.int 0), .unset, .unset, .unset]) (by rcases hz8 with rfl | ⟨_, rfl⟩ <;> rfl) ?_
          refine XS.aload X_rA1.here hx rfl (hb hby at_148) rfl rfl ?_
          refine XS.ifnullYes X_rA1.here hx rfl (pc0 := 150) (pc' := 157) rfl (hb hby at_150) rfl (by decide) (by decide) ?_
          refine XS.iconst X_rA1.here hx rfl (hb hby at_157) ?_
          refine XS.iload X_rA1.here hx rfl (hb hby at_158) rfl ?_
          refine XS.icmpYes X_rA1.here hx rfl (pc0 := 160) (pc' := 165) rfl (hb hby at_160) rfl (teq (by decide : (0 : Int32) = (0 : Int32))).1 (by decide) (by decide) ?_
          refine XS.aload X_rA1.here hx rfl (hb hby at_165) rfl rfl ?_
          refine XS.iloadN X_rA1.here hx rfl (hb hby at_167) rfl ?_
          refine st1.trans ?_
          refine XS.astore X1.here hx rfl (hb hby at_171) rfl rfl (l' := #[.val (.int p0), .val (.int p1), .val (.int p2), .val (.int p3), .val (.ref gr), .val (.int ni), .val (.int go), .val .null, .val (.int 0), .val .null, .unset, .unset]) rfl ?_
          refine XS.aload X1.here hx rfl (hb hby at_173) rfl rfl ?_
          refine XS.aload X1.here hx rfl (hb hby at_175) rfl rfl ?_
          refine Jvm.RoadKit.acmp (g := (mkF m 177 #[.val (.int p0), .val (.int p1), .val (.int p2), .val (.int p3), .val (.ref gr), .val (.int ni), .val (.int go), .val .null, .val (.int 0), .val .null, .unset, .unset] [.null, .null])) X1 hx rfl rfl rfl (pc0 := 177) (pc' := 182) (same := true) rfl (hb hby at_177) rfl (decide_eq_true rfl) (by decide) (by decide) ?_
          refine XS.iload X1.here hx rfl (hb hby at_182) rfl ?_
          refine XS.ifYes X1.here hx rfl (pc0 := 184) (pc' := 200) rfl (hb hby at_184) rfl ((if0 _ _).trans (teq (by decide : (0 : Int32) = (0 : Int32))).1) (by decide) (by decide) ?_
          exact k)
        rcases (hT.1 p3) with ⟨hno3, hab3⟩ | ⟨hy3, r3, hpr3⟩
        · have rA3 : ∀ (T_rA3 : State) (Lt_rA3 : List Loc) (N_rA3 : Fr n0 Lt_rA3) (X_rA3 : Stand p l e room_1 (s.setVm V_rst) m #[(.int p0), (.int p1), (.int p2), (.int p3)] below meth c T_rA3 Lt_rA3 cc_ nn_) (e_rA3 : T_rA3.heap = H_rst), ∃ s₂ o, Steps p.tables e below (T_rA3.setTop (mkF m 229 #[.val (.int p0), .val (.int p1), .val (.int p2), .val (.int p3), .val (.ref gr), .val (.int ni), .val (.int go), .val .null, .val (.int 0), .val .null, .val .null, .unset] [(.int 0)])) s₂ ∧ s₂.status = .running ∧ Ended s₂ below o ∧ ∃ v L, o = .returned v ∧ Q_law Z p0 p1 p2 p3 em ae bt no kno nk nw h0 n0 v s₂.heap L ∧ ReturnedEndW s o s₂ L 53 320 := by
            intro T_rA3 Lt_rA3 N_rA3 X_rA3 e_rA3
            have pre_rA3 := fun (t : State) (k : Steps p.tables e below (T_rA3.setTop (mkF m 229 #[.val (.int p0), .val (.int p1), .val (.int p2), .val (.int p3), .val (.ref gr), .val (.int ni), .val (.int go), .val .null, .val (.int 0), .val .null, .val .null, .unset] [(.int 0)])) t) => k
            have pre4 := fun (t : State) (k : Steps p.tables e below (T_rA3.setTop (mkF m 250 #[.val (.int p0), .val (.int p1), .val (.int p2), .val (.int p3), .val (.ref gr), .val (.int ni), .val (.int go), .val .null, .val (.int 0), .val .null, .val .null, .val (.int 0)] [(.int p1), (.int p3)])) t) => pre_rA3 t (by
              refine XS.istore X_rA3.here hx rfl (hb hby at_229) rfl (l' := #[.val (.int p0), .val (.int p1), .val (.int p2), .val (.int p3), .val (.ref gr), .val (.int ni), .val (.int go), .val .null, .val (.int 0), .val .null, .val .null, .val (.int 0)]) rfl ?_
              refine XS.aload X_rA3.here hx rfl (hb hby at_231) rfl rfl ?_
              refine XS.ifnullYes X_rA3.here hx rfl (pc0 := 233) (pc' := 240) rfl (hb hby at_233) rfl (by decide) (by decide) ?_
              refine XS.iconst X_rA3.here hx rfl (hb hby at_240) ?_
              refine XS.iload X_rA3.here hx rfl (hb hby at_241) rfl ?_
              refine XS.icmpYes X_rA3.here hx rfl (pc0 := 243) (pc' := 248) rfl (hb hby at_243) rfl (teq (by decide : (0 : Int32) = (0 : Int32))).1 (by decide) (by decide) ?_
              refine XS.iloadN X_rA3.here hx rfl (hb hby at_248) rfl ?_
              refine XS.iloadN X_rA3.here hx rfl (hb hby at_249) rfl ?_
              exact k)
            by_cases hc5 : p3 = p1
            · have pre6 := fun (t : State) (k : Steps p.tables e below (T_rA3.setTop (mkF m 265 #[.val (.int p0), .val (.int p1), .val (.int p2), .val (.int p3), .val (.ref gr), .val (.int ni), .val (.int go), .val .null, .val (.int 0), .val .null, .val .null, .val (.int 0)] [(.int 1)])) t) => pre4 t (by
                refine XS.icmpNo X_rA3.here hx rfl (hb hby at_250) rfl (teq hc5).2 ?_
                refine XS.aload X_rA3.here hx rfl (hb hby at_253) rfl rfl ?_
                refine XS.aload X_rA3.here hx rfl (hb hby at_255) rfl rfl ?_
                refine Jvm.RoadKit.acmp (g := (mkF m 257 #[.val (.int p0), .val (.int p1), .val (.int p2), .val (.int p3), .val (.ref gr), .val (.int ni), .val (.int go), .val .null, .val (.int 0), .val .null, .val .null, .val (.int 0)] [.null, .null])) X_rA3 hx rfl rfl rfl (pc0 := 257) (pc' := 260) (same := true) rfl (hb hby at_257) rfl (decide_eq_true rfl) (by decide) (by decide) ?_
                refine XS.iconst X_rA3.here hx rfl (hb hby at_260) ?_
                refine XS.goto X_rA3.here hx rfl (pc0 := 261) (pc' := 265) rfl (hb hby at_261) (by decide) (by decide) ?_
                exact k)
              obtain ⟨fs, hr, hrun, hended, hE1, hE2, hE3, hE4⟩ := X_rA3.leaveW hS_rst (by rw [e_rA3]; exact hk_rst) (v := some (.int 1)) (hlocks := BodyLoose.notSynchronized Bd) (fun h => by rw [Bd.returns] at h; cases h)
              refine ⟨_, _, pre6 _ ?_, hrun, hended, _, _, rfl, ?_, hE1, hE2, hE3, hE4.mono hcc_ hnn_⟩
              · exact retN X_rA3 hx (t := .boolean) Bd.returns (by simp) (hb hby at_265) hr
              · show Q_law Z p0 p1 p2 p3 em ae bt no kno nk nw h0 n0 _ T_rA3.heap _
                rw [e_rA3]
                exact ⟨rfl, N_rA3, K_rst⟩
            · have pre7 := fun (t : State) (k : Steps p.tables e below (T_rA3.setTop (mkF m 286 #[.val (.int p0), .val (.int p1), .val (.int p2), .val (.int p3), .val (.ref gr), .val (.int ni), .val (.int go), .val .null, .val (.int 0), .val .null, .val .null, .val (.int 0)] [(.int 1)])) t) => pre4 t (by
                refine XS.icmpYes X_rA3.here hx rfl (pc0 := 250) (pc' := 266) rfl (hb hby at_250) rfl (feq hc5).2 (by decide) (by decide) ?_
                refine XS.aload X_rA3.here hx rfl (hb hby at_266) rfl rfl ?_
                refine XS.ifnullYes X_rA3.here hx rfl (pc0 := 268) (pc' := 285) rfl (hb hby at_268) rfl (by decide) (by decide) ?_
                refine XS.iconst X_rA3.here hx rfl (hb hby at_285) ?_
                exact k)
              obtain ⟨fs, hr, hrun, hended, hE1, hE2, hE3, hE4⟩ := X_rA3.leaveW hS_rst (by rw [e_rA3]; exact hk_rst) (v := some (.int 1)) (hlocks := BodyLoose.notSynchronized Bd) (fun h => by rw [Bd.returns] at h; cases h)
              refine ⟨_, _, pre7 _ ?_, hrun, hended, _, _, rfl, ?_, hE1, hE2, hE3, hE4.mono hcc_ hnn_⟩
              · exact retN X_rA3 hx (t := .boolean) Bd.returns (by simp) (hb hby at_286) hr
              · show Q_law Z p0 p1 p2 p3 em ae bt no kno nk nw h0 n0 _ T_rA3.heap _
                rw [e_rA3]
                exact ⟨rfl, N_rA3, K_rst⟩
          obtain ⟨cq8, kq8, q8a, q8b, q8c⟩ := isOf hZ_rst hq2 rst_0
          obtain ⟨_, T8, Lc8, X8, hQ8, st8⟩ := own_rt X1 (X1.virtualBack hx (y := yn_47) (z := yn_47) ho_rst (mvT hZ_rst (ow 74 rfl)) (mvT hZ_rst (ow 75 rfl)) (notFace_of_selects (args := #[]) (mvT hZ_rst (ow 77 rfl))) (mvT hZ_rst (ow 77 rfl)) (mvT hZ_rst (ow 76 rfl)) (by decide) (backOf (W := 0) (rm_ndN l Z a0 hw [] gr tn cn mm p3 H_rst n0 Z_rst rst_1 rst_3 rst_4 rst_5 rst_6 rst_7 hab3) hZ_rst (ow 78 rfl) (ow 2 rfl) (by decide) (by decide)) q8a q8c (g := (mkF m 203 #[.val (.int p0), .val (.int p1), .val (.int p2), .val (.int p3), .val (.ref gr), .val (.int ni), .val (.int go), .val .null, .val (.int 0), .val .null, .unset, .unset] [(.int p3), (.ref gr)])) rfl (by rw [hml]; rfl) (Steps.refl _) (argsL := [(.int p3)]) (rest := []) (lenOf pd_28 rfl) rfl (Nat.le_of_eq rfl) (hb hby at_203) (fun _ _ => ⟨rfl, hq2, (Nat.le_trans hcc_ (by decide)), (Nat.le_trans hnn_ (by decide))⟩))
          obtain ⟨rfl, N8q, hq9⟩ := hQ8
          have N8 := Fr.app N1 N8q
          have pre10 := fun (t : State) (k : Steps p.tables e below (T8.setTop (mkF m 209 #[.val (.int p0), .val (.int p1), .val (.int p2), .val (.int p3), .val (.ref gr), .val (.int ni), .val (.int go), .val .null, .val (.int 0), .val .null, .val .null, .unset] [(.int p3)])) t) => pre3 t (by
            refine XS.aload X1.here hx rfl (hb hby at_200) rfl rfl ?_
            refine XS.iloadN X1.here hx rfl (hb hby at_202) rfl ?_
            refine st8.trans ?_
            refine XS.astore X8.here hx rfl (hb hby at_206) rfl rfl (l' := #[.val (.int p0), .val (.int p1), .val (.int p2), .val (.int p3), .val (.ref gr), .val (.int ni), .val (.int go), .val .null, .val (.int 0), .val .null, .val .null, .unset]) rfl ?_
            refine XS.iloadN X8.here hx rfl (hb hby at_208) rfl ?_
            exact k)
          by_cases hc11 : p3 < (0 : Int32)
          · have pre12 := fun (t : State) (k : Steps p.tables e below (T8.setTop (mkF m 229 #[.val (.int p0), .val (.int p1), .val (.int p2), .val (.int p3), .val (.ref gr), .val (.int ni), .val (.int go), .val .null, .val (.int 0), .val .null, .val .null, .unset] [(.int 0)])) t) => pre10 t (by
              refine XS.ifYes X8.here hx rfl (pc0 := 209) (pc' := 228) rfl (hb hby at_209) rfl ((if0 _ _).trans (tlt hc11).1) (by decide) (by decide) ?_
              refine XS.iconst X8.here hx rfl (hb hby at_228) ?_
              exact k)
            obtain ⟨s2, o2, hs2, hr2⟩ := rA3 T8 _ N8 X8 hq9
            exact ⟨s2, o2, pre12 _ hs2, hr2⟩
          · have pre13 := fun (t : State) (k : Steps p.tables e below (T8.setTop (mkF m 215 #[.val (.int p0), .val (.int p1), .val (.int p2), .val (.int p3), .val (.ref gr), .val (.int ni), .val (.int go), .val .null, .val (.int 0), .val .null, .val .null, .unset] [(.int ni), (.int p3)])) t) => pre10 t (by
              refine XS.ifNo X8.here hx rfl (hb hby at_209) rfl ((if0 _ _).trans (flt hc11).1) ?_
              refine XS.iloadN X8.here hx rfl (hb hby at_212) rfl ?_
              refine XS.iload X8.here hx rfl (hb hby at_213) rfl ?_
              exact k)
            by_cases hc14 : p3 < ni
            · have pre15 := fun (t : State) (k : Steps p.tables e below (T8.setTop (mkF m 221 #[.val (.int p0), .val (.int p1), .val (.int p2), .val (.int p3), .val (.ref gr), .val (.int ni), .val (.int go), .val .null, .val (.int 0), .val .null, .val .null, .unset] [(.int go), (.int p3)])) t) => pre13 t (by
                refine XS.icmpNo X8.here hx rfl (hb hby at_215) rfl (tlt hc14).2.1 ?_
                refine XS.iloadN X8.here hx rfl (hb hby at_218) rfl ?_
                refine XS.iload X8.here hx rfl (hb hby at_219) rfl ?_
                exact k)
              by_cases hc16 : p3 = go
              · have pre17 := fun (t : State) (k : Steps p.tables e below (T8.setTop (mkF m 229 #[.val (.int p0), .val (.int p1), .val (.int p2), .val (.int p3), .val (.ref gr), .val (.int ni), .val (.int go), .val .null, .val (.int 0), .val .null, .val .null, .unset] [(.int 0)])) t) => pre15 t (by
                  refine XS.icmpYes X8.here hx rfl (pc0 := 221) (pc' := 228) rfl (hb hby at_221) rfl (teq hc16).1 (by decide) (by decide) ?_
                  refine XS.iconst X8.here hx rfl (hb hby at_228) ?_
                  exact k)
                obtain ⟨s2, o2, hs2, hr2⟩ := rA3 T8 _ N8 X8 hq9
                exact ⟨s2, o2, pre17 _ hs2, hr2⟩
              · exact (hno3.elim hc11 (fun q => q.elim (fun q => q hc14) hc16)).elim
            · have pre18 := fun (t : State) (k : Steps p.tables e below (T8.setTop (mkF m 229 #[.val (.int p0), .val (.int p1), .val (.int p2), .val (.int p3), .val (.ref gr), .val (.int ni), .val (.int go), .val .null, .val (.int 0), .val .null, .val .null, .unset] [(.int 0)])) t) => pre13 t (by
                refine XS.icmpYes X8.here hx rfl (pc0 := 215) (pc' := 228) rfl (hb hby at_215) rfl (flt hc14).2.1 (by decide) (by decide) ?_
                refine XS.iconst X8.here hx rfl (hb hby at_228) ?_
                exact k)
              obtain ⟨s2, o2, hs2, hr2⟩ := rA3 T8 _ N8 X8 hq9
              exact ⟨s2, o2, pre18 _ hs2, hr2⟩
        · obtain ⟨Er3, Fr3⟩ := rst_10 r3 (own_pr_mem hpr3)
          obtain ⟨cq19, kq19, q19a, q19b, q19c⟩ := isOf hZ_rst hq2 rst_0
          obtain ⟨_, T19, Lc19, X19, hQ19, st19⟩ := own_rt X1 (X1.virtualBack hx (y := yn_47) (z := yn_47) ho_rst (mvT hZ_rst (ow 74 rfl)) (mvT hZ_rst (ow 75 rfl)) (notFace_of_selects (args := #[]) (mvT hZ_rst (ow 77 rfl))) (mvT hZ_rst (ow 77 rfl)) (mvT hZ_rst (ow 76 rfl)) (by decide) (backOf (W := 0) (rm_ndG l Z a0 hw [] gr tn cn an kn mm ln vs p3 r3 H_rst n0 Z_rst rst_1 rst_3 rst_4 rst_5 rst_6 rst_7 rst_8 rst_9 hpr3.1.1 hpr3.1.2.1 hpr3.1.2.2 hpr3.2 Er3) hZ_rst (ow 78 rfl) (ow 2 rfl) (by decide) (by decide)) q19a q19c (g := (mkF m 203 #[.val (.int p0), .val (.int p1), .val (.int p2), .val (.int p3), .val (.ref gr), .val (.int ni), .val (.int go), .val .null, .val (.int 0), .val .null, .unset, .unset] [(.int p3), (.ref gr)])) rfl (by rw [hml]; rfl) (Steps.refl _) (argsL := [(.int p3)]) (rest := []) (lenOf pd_28 rfl) rfl (Nat.le_of_eq rfl) (hb hby at_203) (fun _ _ => ⟨rfl, hq2, (Nat.le_trans hcc_ (by decide)), (Nat.le_trans hnn_ (by decide))⟩))
          obtain ⟨rfl, N19q, hq20⟩ := hQ19
          have N19 := Fr.app N1 N19q
          have pre21 := fun (t : State) (k : Steps p.tables e below (T19.setTop (mkF m 250 #[.val (.int p0), .val (.int p1), .val (.int p2), .val (.int p3), .val (.ref gr), .val (.int ni), .val (.int go), .val .null, .val (.int 0), .val .null, .val (.ref r3), .val (.int 1)] [(.int p1), (.int p3)])) t) => pre3 t (by
            refine XS.aload X1.here hx rfl (hb hby at_200) rfl rfl ?_
            refine XS.iloadN X1.here hx rfl (hb hby at_202) rfl ?_
            refine st19.trans ?_
            refine XS.astore X19.here hx rfl (hb hby at_206) rfl rfl (l' := #[.val (.int p0), .val (.int p1), .val (.int p2), .val (.int p3), .val (.ref gr), .val (.int ni), .val (.int go), .val .null, .val (.int 0), .val .null, .val (.ref r3), .unset]) rfl ?_
            refine XS.iloadN X19.here hx rfl (hb hby at_208) rfl ?_
            refine XS.ifNo X19.here hx rfl (hb hby at_209) rfl ((if0 _ _).trans (flt hy3.1).1) ?_
            refine XS.iloadN X19.here hx rfl (hb hby at_212) rfl ?_
            refine XS.iload X19.here hx rfl (hb hby at_213) rfl ?_
            refine XS.icmpNo X19.here hx rfl (hb hby at_215) rfl (tlt hy3.2.1).2.1 ?_
            refine XS.iloadN X19.here hx rfl (hb hby at_218) rfl ?_
            refine XS.iload X19.here hx rfl (hb hby at_219) rfl ?_
            refine XS.icmpNo X19.here hx rfl (hb hby at_221) rfl (feq hy3.2.2).1 ?_
            refine XS.iconst X19.here hx rfl (hb hby at_224) ?_
            refine XS.goto X19.here hx rfl (pc0 := 225) (pc' := 229) rfl (hb hby at_225) (by decide) (by decide) ?_
            refine XS.istore X19.here hx rfl (hb hby at_229) rfl (l' := #[.val (.int p0), .val (.int p1), .val (.int p2), .val (.int p3), .val (.ref gr), .val (.int ni), .val (.int go), .val .null, .val (.int 0), .val .null, .val (.ref r3), .val (.int 1)]) rfl ?_
            refine XS.aload X19.here hx rfl (hb hby at_231) rfl rfl ?_
            refine XS.ifnullNo X19.here hx rfl (hb hby at_233) rfl ?_
            refine XS.iconst X19.here hx rfl (hb hby at_236) ?_
            refine XS.goto X19.here hx rfl (pc0 := 237) (pc' := 241) rfl (hb hby at_237) (by decide) (by decide) ?_
            refine XS.iload X19.here hx rfl (hb hby at_241) rfl ?_
            refine XS.icmpYes X19.here hx rfl (pc0 := 243) (pc' := 248) rfl (hb hby at_243) rfl (teq (by decide : (1 : Int32) = (1 : Int32))).1 (by decide) (by decide) ?_
            refine XS.iloadN X19.here hx rfl (hb hby at_248) rfl ?_
            refine XS.iloadN X19.here hx rfl (hb hby at_249) rfl ?_
            exact k)
          by_cases hc22 : p3 = p1
          · exact (own_ny hc22 hno1 hy3).elim
          · have pre23 := fun (t : State) (k : Steps p.tables e below (T19.setTop (mkF m 286 #[.val (.int p0), .val (.int p1), .val (.int p2), .val (.int p3), .val (.ref gr), .val (.int ni), .val (.int go), .val .null, .val (.int 0), .val .null, .val (.ref r3), .val (.int 1)] [(.int 1)])) t) => pre21 t (by
              refine XS.icmpYes X19.here hx rfl (pc0 := 250) (pc' := 266) rfl (hb hby at_250) rfl (feq hc22).2 (by decide) (by decide) ?_
              refine XS.aload X19.here hx rfl (hb hby at_266) rfl rfl ?_
              refine XS.ifnullYes X19.here hx rfl (pc0 := 268) (pc' := 285) rfl (hb hby at_268) rfl (by decide) (by decide) ?_
              refine XS.iconst X19.here hx rfl (hb hby at_285) ?_
              exact k)
            obtain ⟨fs, hr, hrun, hended, hE1, hE2, hE3, hE4⟩ := X19.leaveW hS_rst (by rw [hq20]; exact hk_rst) (v := some (.int 1)) (hlocks := BodyLoose.notSynchronized Bd) (fun h => by rw [Bd.returns] at h; cases h)
            refine ⟨_, _, pre23 _ ?_, hrun, hended, _, _, rfl, ?_, hE1, hE2, hE3, hE4.mono hcc_ hnn_⟩
            · exact retN X19 hx (t := .boolean) Bd.returns (by simp) (hb hby at_286) hr
            · show Q_law Z p0 p1 p2 p3 em ae bt no kno nk nw h0 n0 _ T19.heap _
              rw [hq20]
              exact ⟨rfl, N19, K_rst⟩
      obtain ⟨cq24, kq24, q24a, q24b, q24c⟩ := isOf hZ_rst e_rst rst_0
      obtain ⟨_, T24, Lc24, X24, hQ24, st24⟩ := own_rt X_rst (X_rst.virtualBack hx (y := yn_47) (z := yn_47) ho_rst (mvT hZ_rst (ow 74 rfl)) (mvT hZ_rst (ow 75 rfl)) (notFace_of_selects (args := #[]) (mvT hZ_rst (ow 77 rfl))) (mvT hZ_rst (ow 77 rfl)) (mvT hZ_rst (ow 76 rfl)) (by decide) (backOf (W := 0) (rm_ndN l Z a0 hw [] gr tn cn mm p1 H_rst n0 Z_rst rst_1 rst_3 rst_4 rst_5 rst_6 rst_7 hab1) hZ_rst (ow 78 rfl) (ow 2 rfl) (by decide) (by decide)) q24a q24c (g := (mkF m 120 #[.val (.int p0), .val (.int p1), .val (.int p2), .val (.int p3), .val (.ref gr), .val (.int ni), .val (.int go), z7, z8, .unset, .unset, .unset] [(.int p1), (.ref gr)])) rfl (by rw [hml]; rfl) (Steps.refl _) (argsL := [(.int p1)]) (rest := []) (lenOf pd_28 rfl) rfl (Nat.le_of_eq rfl) (hb hby at_120) (fun _ _ => ⟨rfl, e_rst, (Nat.le_trans hcc_ (by decide)), (Nat.le_trans hnn_ (by decide))⟩))
      obtain ⟨rfl, N24q, hq25⟩ := hQ24
      have N24 := Fr.app N_rst N24q
      have pre26 := fun (t : State) (k : Steps p.tables e below (T24.setTop (mkF m 126 #[.val (.int p0), .val (.int p1), .val (.int p2), .val (.int p3), .val (.ref gr), .val (.int ni), .val (.int go), .val .null, z8, .unset, .unset, .unset] [(.int p1)])) t) => pre_rst t (by
        refine XS.aload X_rst.here hx rfl (hb hby at_117) rfl rfl ?_
        refine XS.iloadN X_rst.here hx rfl (hb hby at_119) rfl ?_
        refine st24.trans ?_
        refine XS.astore X24.here hx rfl (hb hby at_123) rfl rfl (l' := #[.val (.int p0), .val (.int p1), .val (.int p2), .val (.int p3), .val (.ref gr), .val (.int ni), .val (.int go), .val .null, z8, .unset, .unset, .unset]) (by rcases hz7 with rfl | ⟨_, rfl⟩ <;> rfl) ?_
        refine XS.iloadN X24.here hx rfl (hb hby at_125) rfl ?_
        exact k)
      by_cases hc27 : p1 < (0 : Int32)
      · have pre28 := fun (t : State) (k : Steps p.tables e below (T24.setTop (mkF m 146 #[.val (.int p0), .val (.int p1), .val (.int p2), .val (.int p3), .val (.ref gr), .val (.int ni), .val (.int go), .val .null, z8, .unset, .unset, .unset] [(.int 0)])) t) => pre26 t (by
          refine XS.ifYes X24.here hx rfl (pc0 := 126) (pc' := 145) rfl (hb hby at_126) rfl ((if0 _ _).trans (tlt hc27).1) (by decide) (by decide) ?_
          refine XS.iconst X24.here hx rfl (hb hby at_145) ?_
          exact k)
        obtain ⟨s2, o2, hs2, hr2⟩ := rA1 T24 _ N24 X24 hq25
        exact ⟨s2, o2, pre28 _ hs2, hr2⟩
      · have pre29 := fun (t : State) (k : Steps p.tables e below (T24.setTop (mkF m 132 #[.val (.int p0), .val (.int p1), .val (.int p2), .val (.int p3), .val (.ref gr), .val (.int ni), .val (.int go), .val .null, z8, .unset, .unset, .unset] [(.int ni), (.int p1)])) t) => pre26 t (by
          refine XS.ifNo X24.here hx rfl (hb hby at_126) rfl ((if0 _ _).trans (flt hc27).1) ?_
          refine XS.iloadN X24.here hx rfl (hb hby at_129) rfl ?_
          refine XS.iload X24.here hx rfl (hb hby at_130) rfl ?_
          exact k)
        by_cases hc30 : p1 < ni
        · have pre31 := fun (t : State) (k : Steps p.tables e below (T24.setTop (mkF m 138 #[.val (.int p0), .val (.int p1), .val (.int p2), .val (.int p3), .val (.ref gr), .val (.int ni), .val (.int go), .val .null, z8, .unset, .unset, .unset] [(.int go), (.int p1)])) t) => pre29 t (by
            refine XS.icmpNo X24.here hx rfl (hb hby at_132) rfl (tlt hc30).2.1 ?_
            refine XS.iloadN X24.here hx rfl (hb hby at_135) rfl ?_
            refine XS.iload X24.here hx rfl (hb hby at_136) rfl ?_
            exact k)
          by_cases hc32 : p1 = go
          · have pre33 := fun (t : State) (k : Steps p.tables e below (T24.setTop (mkF m 146 #[.val (.int p0), .val (.int p1), .val (.int p2), .val (.int p3), .val (.ref gr), .val (.int ni), .val (.int go), .val .null, z8, .unset, .unset, .unset] [(.int 0)])) t) => pre31 t (by
              refine XS.icmpYes X24.here hx rfl (pc0 := 138) (pc' := 145) rfl (hb hby at_138) rfl (teq hc32).1 (by decide) (by decide) ?_
              refine XS.iconst X24.here hx rfl (hb hby at_145) ?_
              exact k)
            obtain ⟨s2, o2, hs2, hr2⟩ := rA1 T24 _ N24 X24 hq25
            exact ⟨s2, o2, pre33 _ hs2, hr2⟩
          · exact (hno1.elim hc27 (fun q => q.elim (fun q => q hc30) hc32)).elim
        · have pre34 := fun (t : State) (k : Steps p.tables e below (T24.setTop (mkF m 146 #[.val (.int p0), .val (.int p1), .val (.int p2), .val (.int p3), .val (.ref gr), .val (.int ni), .val (.int go), .val .null, z8, .unset, .unset, .unset] [(.int 0)])) t) => pre29 t (by
            refine XS.icmpYes X24.here hx rfl (pc0 := 132) (pc' := 145) rfl (hb hby at_132) rfl (flt hc30).2.1 (by decide) (by decide) ?_
            refine XS.iconst X24.here hx rfl (hb hby at_145) ?_
            exact k)
          obtain ⟨s2, o2, hs2, hr2⟩ := rA1 T24 _ N24 X24 hq25
          exact ⟨s2, o2, pre34 _ hs2, hr2⟩
    · obtain ⟨Er1, Fr1⟩ := rst_10 r1 (own_pr_mem hpr1)
      obtain ⟨cq35, kq35, q35a, q35b, q35c⟩ := isOf hZ_rst e_rst rst_0
      obtain ⟨_, T35, Lc35, X35, hQ35, st35⟩ := own_rt X_rst (X_rst.virtualBack hx (y := yn_47) (z := yn_47) ho_rst (mvT hZ_rst (ow 74 rfl)) (mvT hZ_rst (ow 75 rfl)) (notFace_of_selects (args := #[]) (mvT hZ_rst (ow 77 rfl))) (mvT hZ_rst (ow 77 rfl)) (mvT hZ_rst (ow 76 rfl)) (by decide) (backOf (W := 0) (rm_ndG l Z a0 hw [] gr tn cn an kn mm ln vs p1 r1 H_rst n0 Z_rst rst_1 rst_3 rst_4 rst_5 rst_6 rst_7 rst_8 rst_9 hpr1.1.1 hpr1.1.2.1 hpr1.1.2.2 hpr1.2 Er1) hZ_rst (ow 78 rfl) (ow 2 rfl) (by decide) (by decide)) q35a q35c (g := (mkF m 120 #[.val (.int p0), .val (.int p1), .val (.int p2), .val (.int p3), .val (.ref gr), .val (.int ni), .val (.int go), z7, z8, .unset, .unset, .unset] [(.int p1), (.ref gr)])) rfl (by rw [hml]; rfl) (Steps.refl _) (argsL := [(.int p1)]) (rest := []) (lenOf pd_28 rfl) rfl (Nat.le_of_eq rfl) (hb hby at_120) (fun _ _ => ⟨rfl, e_rst, (Nat.le_trans hcc_ (by decide)), (Nat.le_trans hnn_ (by decide))⟩))
      obtain ⟨rfl, N35q, hq36⟩ := hQ35
      have N35 := Fr.app N_rst N35q
      obtain ⟨cq37, kq37, q37a, q37b, q37c⟩ := isOf hZ_rst hq36 rst_0
      obtain ⟨_, T37, Lc37, X37, hQ37, st37⟩ := own_rt X35 (X35.virtualBack hx (y := yn_47) (z := yn_47) ho_rst (mvT hZ_rst (ow 74 rfl)) (mvT hZ_rst (ow 75 rfl)) (notFace_of_selects (args := #[]) (mvT hZ_rst (ow 77 rfl))) (mvT hZ_rst (ow 77 rfl)) (mvT hZ_rst (ow 76 rfl)) (by decide) (backOf (W := 0) (rm_ndG l Z a0 hw [] gr tn cn an kn mm ln vs p1 r1 H_rst n0 Z_rst rst_1 rst_3 rst_4 rst_5 rst_6 rst_7 rst_8 rst_9 hpr1.1.1 hpr1.1.2.1 hpr1.1.2.2 hpr1.2 Er1) hZ_rst (ow 78 rfl) (ow 2 rfl) (by decide) (by decide)) q37a q37c (g := (mkF m 168 #[.val (.int p0), .val (.int p1), .val (.int p2), .val (.int p3), .val (.ref gr), .val (.int ni), .val (.int go), .val (.ref r1), .val (.int 1), .unset, .unset, .unset] [(.int p1), (.ref gr)])) rfl (by rw [hml]; rfl) (Steps.refl _) (argsL := [(.int p1)]) (rest := []) (lenOf pd_28 rfl) rfl (Nat.le_of_eq rfl) (hb hby at_168) (fun _ _ => ⟨rfl, hq36, (Nat.le_trans hcc_ (by decide)), (Nat.le_trans hnn_ (by decide))⟩))
      obtain ⟨rfl, N37q, hq38⟩ := hQ37
      have N37 := Fr.app N35 N37q
      obtain ⟨cq39, kq39, q39a, q39b, q39c⟩ := isOf hZ_rst hq38 rst_0
      obtain ⟨_, T39, Lc39, X39, hQ39, st39⟩ := own_rt X37 (X37.virtualBack hx (y := yn_48) (z := yn_48) ho_rst (mvT hZ_rst (ow 448 rfl)) (mvT hZ_rst (ow 449 rfl)) (notFace_of_selects (args := #[]) (mvT hZ_rst (ow 451 rfl))) (mvT hZ_rst (ow 451 rfl)) (mvT hZ_rst (ow 450 rfl)) (by decide) (backOf (W := 0) (rm_wrG l Z a0 hw [] gr tn cn an kn mm ln vs p1 r1 gg H_rst n0 Z_rst rst_1 rst_2 rst_3 rst_4 rst_5 rst_6 rst_7 rst_8 rst_9 hpr1.1.1 hpr1.1.2.1 hpr1.1.2.2 hpr1.2 Er1 Fr1) hZ_rst (ow 452 rfl) (ow 2 rfl) (by decide) (by decide)) q39a q39c (g := (mkF m 190 #[.val (.int p0), .val (.int p1), .val (.int p2), .val (.int p3), .val (.ref gr), .val (.int ni), .val (.int go), .val (.ref r1), .val (.int 1), .val (.ref r1), .unset, .unset] [(.int p1), (.ref gr)])) rfl (by rw [hml]; rfl) (Steps.refl _) (argsL := [(.int p1)]) (rest := []) (lenOf pd_28 rfl) rfl (Nat.le_of_eq rfl) (hb hby at_190) (fun _ _ => ⟨rfl, hq38, (Nat.le_trans hcc_ (by decide)), (Nat.le_trans hnn_ (by decide))⟩))
      obtain ⟨rfl, N39q, hq40⟩ := hQ39
      have N39 := Fr.app N37 N39q
      have pre41 := fun (t : State) (k : Steps p.tables e below (T39.setTop (mkF m 200 #[.val (.int p0), .val (.int p1), .val (.int p2), .val (.int p3), .val (.ref gr), .val (.int ni), .val (.int go), .val (.ref r1), .val (.int 1), .val (.ref r1), .unset, .unset] [])) t) => pre_rst t (by
        refine XS.aload X_rst.here hx rfl (hb hby at_117) rfl rfl ?_
        refine XS.iloadN X_rst.here hx rfl (hb hby at_119) rfl ?_
        refine st35.trans ?_
        refine XS.astore X35.here hx rfl (hb hby at_123) rfl rfl (l' := #[.val (.int p0), .val (.int p1), .val (.int p2), .val (.int p3), .val (.ref gr), .val (.int ni), .val (.int go), .val (.ref r1), z8, .unset, .unset, .unset]) (by rcases hz7 with rfl | ⟨_, rfl⟩ <;> rfl) ?_
        refine XS.iloadN X35.here hx rfl (hb hby at_125) rfl ?_
        refine XS.ifNo X35.here hx rfl (hb hby at_126) rfl ((if0 _ _).trans (flt hy1.1).1) ?_
        refine XS.iloadN X35.here hx rfl (hb hby at_129) rfl ?_
        refine XS.iload X35.here hx rfl (hb hby at_130) rfl ?_
        refine XS.icmpNo X35.here hx rfl (hb hby at_132) rfl (tlt hy1.2.1).2.1 ?_
        refine XS.iloadN X35.here hx rfl (hb hby at_135) rfl ?_
        refine XS.iload X35.here hx rfl (hb hby at_136) rfl ?_
        refine XS.icmpNo X35.here hx rfl (hb hby at_138) rfl (feq hy1.2.2).1 ?_
        refine XS.iconst X35.here hx rfl (hb hby at_141) ?_
        refine XS.goto X35.here hx rfl (pc0 := 142) (pc' := 146) rfl (hb hby at_142) (by decide) (by decide) ?_
        refine XS.istore X35.here hx rfl (hb hby at_146) rfl (l' := #[.val (.int p0), .val (.int p1), .val (.int p2), .val (.int p3), .val (.ref gr), .val (.int ni), .val (.int go), .val (.ref r1), .val (.int 1), .unset, .unset, .unset]) (by rcases hz8 with rfl | ⟨_, rfl⟩ <;> rfl) ?_
        refine XS.aload X35.here hx rfl (hb hby at_148) rfl rfl ?_
        refine XS.ifnullNo X35.here hx rfl (hb hby at_150) rfl ?_
        refine XS.iconst X35.here hx rfl (hb hby at_153) ?_
        refine XS.goto X35.here hx rfl (pc0 := 154) (pc' := 158) rfl (hb hby at_154) (by decide) (by decide) ?_
        refine XS.iload X35.here hx rfl (hb hby at_158) rfl ?_
        refine XS.icmpYes X35.here hx rfl (pc0 := 160) (pc' := 165) rfl (hb hby at_160) rfl (teq (by decide : (1 : Int32) = (1 : Int32))).1 (by decide) (by decide) ?_
        refine XS.aload X35.here hx rfl (hb hby at_165) rfl rfl ?_
        refine XS.iloadN X35.here hx rfl (hb hby at_167) rfl ?_
        refine st37.trans ?_
        refine XS.astore X37.here hx rfl (hb hby at_171) rfl rfl (l' := #[.val (.int p0), .val (.int p1), .val (.int p2), .val (.int p3), .val (.ref gr), .val (.int ni), .val (.int go), .val (.ref r1), .val (.int 1), .val (.ref r1), .unset, .unset]) rfl ?_
        refine XS.aload X37.here hx rfl (hb hby at_173) rfl rfl ?_
        refine XS.aload X37.here hx rfl (hb hby at_175) rfl rfl ?_
        refine Jvm.RoadKit.acmp (g := (mkF m 177 #[.val (.int p0), .val (.int p1), .val (.int p2), .val (.int p3), .val (.ref gr), .val (.int ni), .val (.int go), .val (.ref r1), .val (.int 1), .val (.ref r1), .unset, .unset] [(.ref r1), (.ref r1)])) X37 hx rfl rfl rfl (pc0 := 177) (pc' := 182) (same := true) rfl (hb hby at_177) rfl (decide_eq_true rfl) (by decide) (by decide) ?_
        refine XS.iload X37.here hx rfl (hb hby at_182) rfl ?_
        refine XS.ifNo X37.here hx rfl (hb hby at_184) rfl ((if0 _ _).trans (feq (by decide : ¬ ((1 : Int32) = (0 : Int32)))).1) ?_
        refine XS.aload X37.here hx rfl (hb hby at_187) rfl rfl ?_
        refine XS.iloadN X37.here hx rfl (hb hby at_189) rfl ?_
        refine st39.trans ?_
        refine XS.aload X39.here hx rfl (hb hby at_193) rfl rfl ?_
        refine Jvm.RoadKit.acmp (g := (mkF m 195 #[.val (.int p0), .val (.int p1), .val (.int p2), .val (.int p3), .val (.ref gr), .val (.int ni), .val (.int go), .val (.ref r1), .val (.int 1), .val (.ref r1), .unset, .unset] [(.ref r1), (.ref r1)])) X39 hx rfl rfl rfl (pc0 := 195) (pc' := 200) (same := true) rfl (hb hby at_195) rfl (decide_eq_true rfl) (by decide) (by decide) ?_
        exact k)
      rcases (hT.1 p3) with ⟨hno3, hab3⟩ | ⟨hy3, r3, hpr3⟩
      · have rA3 : ∀ (T_rA3 : State) (Lt_rA3 : List Loc) (N_rA3 : Fr n0 Lt_rA3) (X_rA3 : Stand p l e room_1 (s.setVm V_rst) m #[(.int p0), (.int p1), (.int p2), (.int p3)] below meth c T_rA3 Lt_rA3 cc_ nn_) (e_rA3 : T_rA3.heap = H_rst), ∃ s₂ o, Steps p.tables e below (T_rA3.setTop (mkF m 229 #[.val (.int p0), .val (.int p1), .val (.int p2), .val (.int p3), .val (.ref gr), .val (.int ni), .val (.int go), .val (.ref r1), .val (.int 1), .val (.ref r1), .val .null, .unset] [(.int 0)])) s₂ ∧ s₂.status = .running ∧ Ended s₂ below o ∧ ∃ v L, o = .returned v ∧ Q_law Z p0 p1 p2 p3 em ae bt no kno nk nw h0 n0 v s₂.heap L ∧ ReturnedEndW s o s₂ L 53 320 := by
          intro T_rA3 Lt_rA3 N_rA3 X_rA3 e_rA3
          have pre_rA3 := fun (t : State) (k : Steps p.tables e below (T_rA3.setTop (mkF m 229 #[.val (.int p0), .val (.int p1), .val (.int p2), .val (.int p3), .val (.ref gr), .val (.int ni), .val (.int go), .val (.ref r1), .val (.int 1), .val (.ref r1), .val .null, .unset] [(.int 0)])) t) => k
          have pre42 := fun (t : State) (k : Steps p.tables e below (T_rA3.setTop (mkF m 250 #[.val (.int p0), .val (.int p1), .val (.int p2), .val (.int p3), .val (.ref gr), .val (.int ni), .val (.int go), .val (.ref r1), .val (.int 1), .val (.ref r1), .val .null, .val (.int 0)] [(.int p1), (.int p3)])) t) => pre_rA3 t (by
            refine XS.istore X_rA3.here hx rfl (hb hby at_229) rfl (l' := #[.val (.int p0), .val (.int p1), .val (.int p2), .val (.int p3), .val (.ref gr), .val (.int ni), .val (.int go), .val (.ref r1), .val (.int 1), .val (.ref r1), .val .null, .val (.int 0)]) rfl ?_
            refine XS.aload X_rA3.here hx rfl (hb hby at_231) rfl rfl ?_
            refine XS.ifnullYes X_rA3.here hx rfl (pc0 := 233) (pc' := 240) rfl (hb hby at_233) rfl (by decide) (by decide) ?_
            refine XS.iconst X_rA3.here hx rfl (hb hby at_240) ?_
            refine XS.iload X_rA3.here hx rfl (hb hby at_241) rfl ?_
            refine XS.icmpYes X_rA3.here hx rfl (pc0 := 243) (pc' := 248) rfl (hb hby at_243) rfl (teq (by decide : (0 : Int32) = (0 : Int32))).1 (by decide) (by decide) ?_
            refine XS.iloadN X_rA3.here hx rfl (hb hby at_248) rfl ?_
            refine XS.iloadN X_rA3.here hx rfl (hb hby at_249) rfl ?_
            exact k)
          by_cases hc43 : p3 = p1
          · exact (own_ny hc43.symm hno3 hy1).elim
          · have pre44 := fun (t : State) (k : Steps p.tables e below (T_rA3.setTop (mkF m 286 #[.val (.int p0), .val (.int p1), .val (.int p2), .val (.int p3), .val (.ref gr), .val (.int ni), .val (.int go), .val (.ref r1), .val (.int 1), .val (.ref r1), .val .null, .val (.int 0)] [(.int 1)])) t) => pre42 t (by
              refine XS.icmpYes X_rA3.here hx rfl (pc0 := 250) (pc' := 266) rfl (hb hby at_250) rfl (feq hc43).2 (by decide) (by decide) ?_
              refine XS.aload X_rA3.here hx rfl (hb hby at_266) rfl rfl ?_
              refine XS.ifnullNo X_rA3.here hx rfl (hb hby at_268) rfl ?_
              refine XS.aload X_rA3.here hx rfl (hb hby at_271) rfl rfl ?_
              refine XS.ifnullYes X_rA3.here hx rfl (pc0 := 273) (pc' := 285) rfl (hb hby at_273) rfl (by decide) (by decide) ?_
              refine XS.iconst X_rA3.here hx rfl (hb hby at_285) ?_
              exact k)
            obtain ⟨fs, hr, hrun, hended, hE1, hE2, hE3, hE4⟩ := X_rA3.leaveW hS_rst (by rw [e_rA3]; exact hk_rst) (v := some (.int 1)) (hlocks := BodyLoose.notSynchronized Bd) (fun h => by rw [Bd.returns] at h; cases h)
            refine ⟨_, _, pre44 _ ?_, hrun, hended, _, _, rfl, ?_, hE1, hE2, hE3, hE4.mono hcc_ hnn_⟩
            · exact retN X_rA3 hx (t := .boolean) Bd.returns (by simp) (hb hby at_286) hr
            · show Q_law Z p0 p1 p2 p3 em ae bt no kno nk nw h0 n0 _ T_rA3.heap _
              rw [e_rA3]
              exact ⟨rfl, N_rA3, K_rst⟩
        obtain ⟨cq45, kq45, q45a, q45b, q45c⟩ := isOf hZ_rst hq40 rst_0
        obtain ⟨_, T45, Lc45, X45, hQ45, st45⟩ := own_rt X39 (X39.virtualBack hx (y := yn_47) (z := yn_47) ho_rst (mvT hZ_rst (ow 74 rfl)) (mvT hZ_rst (ow 75 rfl)) (notFace_of_selects (args := #[]) (mvT hZ_rst (ow 77 rfl))) (mvT hZ_rst (ow 77 rfl)) (mvT hZ_rst (ow 76 rfl)) (by decide) (backOf (W := 0) (rm_ndN l Z a0 hw [] gr tn cn mm p3 H_rst n0 Z_rst rst_1 rst_3 rst_4 rst_5 rst_6 rst_7 hab3) hZ_rst (ow 78 rfl) (ow 2 rfl) (by decide) (by decide)) q45a q45c (g := (mkF m 203 #[.val (.int p0), .val (.int p1), .val (.int p2), .val (.int p3), .val (.ref gr), .val (.int ni), .val (.int go), .val (.ref r1), .val (.int 1), .val (.ref r1), .unset, .unset] [(.int p3), (.ref gr)])) rfl (by rw [hml]; rfl) (Steps.refl _) (argsL := [(.int p3)]) (rest := []) (lenOf pd_28 rfl) rfl (Nat.le_of_eq rfl) (hb hby at_203) (fun _ _ => ⟨rfl, hq40, (Nat.le_trans hcc_ (by decide)), (Nat.le_trans hnn_ (by decide))⟩))
        obtain ⟨rfl, N45q, hq46⟩ := hQ45
        have N45 := Fr.app N39 N45q
        have pre47 := fun (t : State) (k : Steps p.tables e below (T45.setTop (mkF m 209 #[.val (.int p0), .val (.int p1), .val (.int p2), .val (.int p3), .val (.ref gr), .val (.int ni), .val (.int go), .val (.ref r1), .val (.int 1), .val (.ref r1), .val .null, .unset] [(.int p3)])) t) => pre41 t (by
          refine XS.aload X39.here hx rfl (hb hby at_200) rfl rfl ?_
          refine XS.iloadN X39.here hx rfl (hb hby at_202) rfl ?_
          refine st45.trans ?_
          refine XS.astore X45.here hx rfl (hb hby at_206) rfl rfl (l' := #[.val (.int p0), .val (.int p1), .val (.int p2), .val (.int p3), .val (.ref gr), .val (.int ni), .val (.int go), .val (.ref r1), .val (.int 1), .val (.ref r1), .val .null, .unset]) rfl ?_
          refine XS.iloadN X45.here hx rfl (hb hby at_208) rfl ?_
          exact k)
        by_cases hc48 : p3 < (0 : Int32)
        · have pre49 := fun (t : State) (k : Steps p.tables e below (T45.setTop (mkF m 229 #[.val (.int p0), .val (.int p1), .val (.int p2), .val (.int p3), .val (.ref gr), .val (.int ni), .val (.int go), .val (.ref r1), .val (.int 1), .val (.ref r1), .val .null, .unset] [(.int 0)])) t) => pre47 t (by
            refine XS.ifYes X45.here hx rfl (pc0 := 209) (pc' := 228) rfl (hb hby at_209) rfl ((if0 _ _).trans (tlt hc48).1) (by decide) (by decide) ?_
            refine XS.iconst X45.here hx rfl (hb hby at_228) ?_
            exact k)
          obtain ⟨s2, o2, hs2, hr2⟩ := rA3 T45 _ N45 X45 hq46
          exact ⟨s2, o2, pre49 _ hs2, hr2⟩
        · have pre50 := fun (t : State) (k : Steps p.tables e below (T45.setTop (mkF m 215 #[.val (.int p0), .val (.int p1), .val (.int p2), .val (.int p3), .val (.ref gr), .val (.int ni), .val (.int go), .val (.ref r1), .val (.int 1), .val (.ref r1), .val .null, .unset] [(.int ni), (.int p3)])) t) => pre47 t (by
            refine XS.ifNo X45.here hx rfl (hb hby at_209) rfl ((if0 _ _).trans (flt hc48).1) ?_
            refine XS.iloadN X45.here hx rfl (hb hby at_212) rfl ?_
            refine XS.iload X45.here hx rfl (hb hby at_213) rfl ?_
            exact k)
          by_cases hc51 : p3 < ni
          · have pre52 := fun (t : State) (k : Steps p.tables e below (T45.setTop (mkF m 221 #[.val (.int p0), .val (.int p1), .val (.int p2), .val (.int p3), .val (.ref gr), .val (.int ni), .val (.int go), .val (.ref r1), .val (.int 1), .val (.ref r1), .val .null, .unset] [(.int go), (.int p3)])) t) => pre50 t (by
              refine XS.icmpNo X45.here hx rfl (hb hby at_215) rfl (tlt hc51).2.1 ?_
              refine XS.iloadN X45.here hx rfl (hb hby at_218) rfl ?_
              refine XS.iload X45.here hx rfl (hb hby at_219) rfl ?_
              exact k)
            by_cases hc53 : p3 = go
            · have pre54 := fun (t : State) (k : Steps p.tables e below (T45.setTop (mkF m 229 #[.val (.int p0), .val (.int p1), .val (.int p2), .val (.int p3), .val (.ref gr), .val (.int ni), .val (.int go), .val (.ref r1), .val (.int 1), .val (.ref r1), .val .null, .unset] [(.int 0)])) t) => pre52 t (by
                refine XS.icmpYes X45.here hx rfl (pc0 := 221) (pc' := 228) rfl (hb hby at_221) rfl (teq hc53).1 (by decide) (by decide) ?_
                refine XS.iconst X45.here hx rfl (hb hby at_228) ?_
                exact k)
              obtain ⟨s2, o2, hs2, hr2⟩ := rA3 T45 _ N45 X45 hq46
              exact ⟨s2, o2, pre54 _ hs2, hr2⟩
            · exact (hno3.elim hc48 (fun q => q.elim (fun q => q hc51) hc53)).elim
          · have pre55 := fun (t : State) (k : Steps p.tables e below (T45.setTop (mkF m 229 #[.val (.int p0), .val (.int p1), .val (.int p2), .val (.int p3), .val (.ref gr), .val (.int ni), .val (.int go), .val (.ref r1), .val (.int 1), .val (.ref r1), .val .null, .unset] [(.int 0)])) t) => pre50 t (by
              refine XS.icmpYes X45.here hx rfl (pc0 := 215) (pc' := 228) rfl (hb hby at_215) rfl (flt hc51).2.1 (by decide) (by decide) ?_
              refine XS.iconst X45.here hx rfl (hb hby at_228) ?_
              exact k)
            obtain ⟨s2, o2, hs2, hr2⟩ := rA3 T45 _ N45 X45 hq46
            exact ⟨s2, o2, pre55 _ hs2, hr2⟩
      · obtain ⟨Er3, Fr3⟩ := rst_10 r3 (own_pr_mem hpr3)
        obtain ⟨cq56, kq56, q56a, q56b, q56c⟩ := isOf hZ_rst hq40 rst_0
        obtain ⟨_, T56, Lc56, X56, hQ56, st56⟩ := own_rt X39 (X39.virtualBack hx (y := yn_47) (z := yn_47) ho_rst (mvT hZ_rst (ow 74 rfl)) (mvT hZ_rst (ow 75 rfl)) (notFace_of_selects (args := #[]) (mvT hZ_rst (ow 77 rfl))) (mvT hZ_rst (ow 77 rfl)) (mvT hZ_rst (ow 76 rfl)) (by decide) (backOf (W := 0) (rm_ndG l Z a0 hw [] gr tn cn an kn mm ln vs p3 r3 H_rst n0 Z_rst rst_1 rst_3 rst_4 rst_5 rst_6 rst_7 rst_8 rst_9 hpr3.1.1 hpr3.1.2.1 hpr3.1.2.2 hpr3.2 Er3) hZ_rst (ow 78 rfl) (ow 2 rfl) (by decide) (by decide)) q56a q56c (g := (mkF m 203 #[.val (.int p0), .val (.int p1), .val (.int p2), .val (.int p3), .val (.ref gr), .val (.int ni), .val (.int go), .val (.ref r1), .val (.int 1), .val (.ref r1), .unset, .unset] [(.int p3), (.ref gr)])) rfl (by rw [hml]; rfl) (Steps.refl _) (argsL := [(.int p3)]) (rest := []) (lenOf pd_28 rfl) rfl (Nat.le_of_eq rfl) (hb hby at_203) (fun _ _ => ⟨rfl, hq40, (Nat.le_trans hcc_ (by decide)), (Nat.le_trans hnn_ (by decide))⟩))
        obtain ⟨rfl, N56q, hq57⟩ := hQ56
        have N56 := Fr.app N39 N56q
        have pre58 := fun (t : State) (k : Steps p.tables e below (T56.setTop (mkF m 250 #[.val (.int p0), .val (.int p1), .val (.int p2), .val (.int p3), .val (.ref gr), .val (.int ni), .val (.int go), .val (.ref r1), .val (.int 1), .val (.ref r1), .val (.ref r3), .val (.int 1)] [(.int p1), (.int p3)])) t) => pre41 t (by
          refine XS.aload X39.here hx rfl (hb hby at_200) rfl rfl ?_
          refine XS.iloadN X39.here hx rfl (hb hby at_202) rfl ?_
          refine st56.trans ?_
          refine XS.astore X56.here hx rfl (hb hby at_206) rfl rfl (l' := #[.val (.int p0), .val (.int p1), .val (.int p2), .val (.int p3), .val (.ref gr), .val (.int ni), .val (.int go), .val (.ref r1), .val (.int 1), .val (.ref r1), .val (.ref r3), .unset]) rfl ?_
          refine XS.iloadN X56.here hx rfl (hb hby at_208) rfl ?_
          refine XS.ifNo X56.here hx rfl (hb hby at_209) rfl ((if0 _ _).trans (flt hy3.1).1) ?_
          refine XS.iloadN X56.here hx rfl (hb hby at_212) rfl ?_
          refine XS.iload X56.here hx rfl (hb hby at_213) rfl ?_
          refine XS.icmpNo X56.here hx rfl (hb hby at_215) rfl (tlt hy3.2.1).2.1 ?_
          refine XS.iloadN X56.here hx rfl (hb hby at_218) rfl ?_
          refine XS.iload X56.here hx rfl (hb hby at_219) rfl ?_
          refine XS.icmpNo X56.here hx rfl (hb hby at_221) rfl (feq hy3.2.2).1 ?_
          refine XS.iconst X56.here hx rfl (hb hby at_224) ?_
          refine XS.goto X56.here hx rfl (pc0 := 225) (pc' := 229) rfl (hb hby at_225) (by decide) (by decide) ?_
          refine XS.istore X56.here hx rfl (hb hby at_229) rfl (l' := #[.val (.int p0), .val (.int p1), .val (.int p2), .val (.int p3), .val (.ref gr), .val (.int ni), .val (.int go), .val (.ref r1), .val (.int 1), .val (.ref r1), .val (.ref r3), .val (.int 1)]) rfl ?_
          refine XS.aload X56.here hx rfl (hb hby at_231) rfl rfl ?_
          refine XS.ifnullNo X56.here hx rfl (hb hby at_233) rfl ?_
          refine XS.iconst X56.here hx rfl (hb hby at_236) ?_
          refine XS.goto X56.here hx rfl (pc0 := 237) (pc' := 241) rfl (hb hby at_237) (by decide) (by decide) ?_
          refine XS.iload X56.here hx rfl (hb hby at_241) rfl ?_
          refine XS.icmpYes X56.here hx rfl (pc0 := 243) (pc' := 248) rfl (hb hby at_243) rfl (teq (by decide : (1 : Int32) = (1 : Int32))).1 (by decide) (by decide) ?_
          refine XS.iloadN X56.here hx rfl (hb hby at_248) rfl ?_
          refine XS.iloadN X56.here hx rfl (hb hby at_249) rfl ?_
          exact k)
        by_cases hc59 : p3 = p1
        · have pre60 := fun (t : State) (k : Steps p.tables e below (T56.setTop (mkF m 265 #[.val (.int p0), .val (.int p1), .val (.int p2), .val (.int p3), .val (.ref gr), .val (.int ni), .val (.int go), .val (.ref r1), .val (.int 1), .val (.ref r1), .val (.ref r3), .val (.int 1)] [(.int 1)])) t) => pre58 t (by
            refine XS.icmpNo X56.here hx rfl (hb hby at_250) rfl (teq hc59).2 ?_
            refine XS.aload X56.here hx rfl (hb hby at_253) rfl rfl ?_
            refine XS.aload X56.here hx rfl (hb hby at_255) rfl rfl ?_
            refine Jvm.RoadKit.acmp (g := (mkF m 257 #[.val (.int p0), .val (.int p1), .val (.int p2), .val (.int p3), .val (.ref gr), .val (.int ni), .val (.int go), .val (.ref r1), .val (.int 1), .val (.ref r1), .val (.ref r3), .val (.int 1)] [(.ref r1), (.ref r3)])) X56 hx rfl rfl rfl (pc0 := 257) (pc' := 260) (same := true) rfl (hb hby at_257) rfl (decide_eq_true (congrArg Value.ref (own_pr_fun hc59 hpr1 hpr3))) (by decide) (by decide) ?_
            refine XS.iconst X56.here hx rfl (hb hby at_260) ?_
            refine XS.goto X56.here hx rfl (pc0 := 261) (pc' := 265) rfl (hb hby at_261) (by decide) (by decide) ?_
            exact k)
          obtain ⟨fs, hr, hrun, hended, hE1, hE2, hE3, hE4⟩ := X56.leaveW hS_rst (by rw [hq57]; exact hk_rst) (v := some (.int 1)) (hlocks := BodyLoose.notSynchronized Bd) (fun h => by rw [Bd.returns] at h; cases h)
          refine ⟨_, _, pre60 _ ?_, hrun, hended, _, _, rfl, ?_, hE1, hE2, hE3, hE4.mono hcc_ hnn_⟩
          · exact retN X56 hx (t := .boolean) Bd.returns (by simp) (hb hby at_265) hr
          · show Q_law Z p0 p1 p2 p3 em ae bt no kno nk nw h0 n0 _ T56.heap _
            rw [hq57]
            exact ⟨rfl, N56, K_rst⟩
        · have pre61 := fun (t : State) (k : Steps p.tables e below (T56.setTop (mkF m 286 #[.val (.int p0), .val (.int p1), .val (.int p2), .val (.int p3), .val (.ref gr), .val (.int ni), .val (.int go), .val (.ref r1), .val (.int 1), .val (.ref r1), .val (.ref r3), .val (.int 1)] [(.int 1)])) t) => pre58 t (by
            refine XS.icmpYes X56.here hx rfl (pc0 := 250) (pc' := 266) rfl (hb hby at_250) rfl (feq hc59).2 (by decide) (by decide) ?_
            refine XS.aload X56.here hx rfl (hb hby at_266) rfl rfl ?_
            refine XS.ifnullNo X56.here hx rfl (hb hby at_268) rfl ?_
            refine XS.aload X56.here hx rfl (hb hby at_271) rfl rfl ?_
            refine XS.ifnullNo X56.here hx rfl (hb hby at_273) rfl ?_
            refine XS.aload X56.here hx rfl (hb hby at_276) rfl rfl ?_
            refine XS.aload X56.here hx rfl (hb hby at_278) rfl rfl ?_
            refine Jvm.RoadKit.acmp (g := (mkF m 280 #[.val (.int p0), .val (.int p1), .val (.int p2), .val (.int p3), .val (.ref gr), .val (.int ni), .val (.int go), .val (.ref r1), .val (.int 1), .val (.ref r1), .val (.ref r3), .val (.int 1)] [(.ref r1), (.ref r3)])) X56 hx rfl rfl rfl (pc0 := 280) (pc' := 285) (same := false) rfl (hb hby at_280) rfl (decide_eq_false fun q => (fun q => hc59 (hT.2 _ _ _ hpr3 (by rw [q]; exact hpr1))) (Value.ref.inj q)) (by decide) (by decide) ?_
            refine XS.iconst X56.here hx rfl (hb hby at_285) ?_
            exact k)
          obtain ⟨fs, hr, hrun, hended, hE1, hE2, hE3, hE4⟩ := X56.leaveW hS_rst (by rw [hq57]; exact hk_rst) (v := some (.int 1)) (hlocks := BodyLoose.notSynchronized Bd) (fun h => by rw [Bd.returns] at h; cases h)
          refine ⟨_, _, pre61 _ ?_, hrun, hended, _, _, rfl, ?_, hE1, hE2, hE3, hE4.mono hcc_ hnn_⟩
          · exact retN X56 hx (t := .boolean) Bd.returns (by simp) (hb hby at_286) hr
          · show Q_law Z p0 p1 p2 p3 em ae bt no kno nk nw h0 n0 _ T56.heap _
            rw [hq57]
            exact ⟨rfl, N56, K_rst⟩
  obtain ⟨T62, h62, X62, e62, E62, A62, D62, -, st62⟩ := newO XS0 hx hZS0 hownS0 (ow 0 rfl) (ow 1 rfl) (ow 2 rfl) e0 (g := (mkF m 0 #[.val (.int p0), .val (.int p1), .val (.int p2), .val (.int p3), .unset, .unset, .unset, .unset, .unset, .unset, .unset, .unset] [])) rfl (hb hby at_0) (by decide) (by decide)
  obtain ⟨b62, g62⟩ : ∃ z, z = h0.size := ⟨_, rfl⟩
  have ge_b62 : n0 ≤ b62 := Nat.le_trans Z0 (Nat.le_of_eq g62.symm)
  have sz_b62 : h0.size ≤ b62 := Nat.le_trans K0.1 (Nat.le_of_eq g62.symm)
  rw [← g62] at A62 D62 st62
  have K62 : Keep h0 h62 [] := K0.ext E62
  have hkk63 : h0.size ≤ h62.size := (Nat.le_trans hkS0 E62.1)
  have Zs64 : n0 ≤ h62.size := (Nat.le_trans Z0 E62.1)
  have F65 : f_30 Z h62 b62 .null := D62 (Or.inl (ow 16 rfl)) (ty := (.object "org/tallyrole/core/IntTrie")) (by decide)
  have F66 : f_31 Z h62 b62 .null := D62 (Or.inl (ow 18 rfl)) (ty := (.object "org/tallyrole/core/IntTrie")) (by decide)
  have F67 : f_32 Z h62 b62 .null := D62 (Or.inl (ow 20 rfl)) (ty := (.object "org/tallyrole/core/IntTrie")) (by decide)
  have F68 : f_33 Z h62 b62 .null := D62 (Or.inl (ow 22 rfl)) (ty := (.object "org/tallyrole/core/IntTrie")) (by decide)
  have F69 : f_34 Z h62 b62 .null := D62 (Or.inl (ow 24 rfl)) (ty := (.object "org/tallyrole/core/IntTrie")) (by decide)
  have F70 : f_35 Z h62 b62 .null := D62 (Or.inl (ow 29 rfl)) (ty := (.object "java/lang/Object")) (by decide)
  have F71 : f_36 Z h62 b62 .null := D62 (Or.inr (ow 48 rfl)) (ty := (.object "java/util/Deque")) (by decide)
  have F72 : f_37 Z h62 b62 .null := D62 (Or.inl (ow 66 rfl)) (ty := (.object "java/util/Map")) (by decide)
  have F73 : f_38 Z h62 b62 (.int 0) := D62 (Or.inl (ow 73 rfl)) (ty := .int) (by decide)
  have S75 := H0_S.ext E62
  obtain ⟨_, T74, Lc74, X74, hQ74, st74⟩ := own_rt X62 (X62.specialBack hx (y := yn_20) rfl hownS0 (mvT hZS0 (ow 3 rfl)) (mvT hZS0 (ow 4 rfl)) (mvT hZS0 (ow 5 rfl)) (by decide) (backOf (W := 1) (rm_grI l Z a0 hw [] b62 em h62 n0 Zs64 A62 S75 F65 F66 F67 F68 F70 F73 F69 F71 F72 ge_b62) hZS0 (ow 5 rfl) (ow 2 rfl) (by decide) (by decide)) (g := (mkF m 4 #[.val (.int p0), .val (.int p1), .val (.int p2), .val (.int p3), .unset, .unset, .unset, .unset, .unset, .unset, .unset, .unset] [(.ref b62), (.ref b62)])) rfl (by rw [hml]; rfl) (Steps.refl _) (a := b62) (argsL := []) (rest := [(.ref b62)]) (lenOf pd_0 rfl) rfl (Nat.le_of_eq rfl) (hb hby at_4) (fun _ _ => ⟨rfl, e62, (by decide : 1 + 4 ≤ _), (by decide : 12 + 28 ≤ _)⟩))
  obtain ⟨x76, rfl, N74q, hq77, hpq78, hpq79, F80, F81, F82, F83, F84, F85⟩ := hQ74
  have N74 := Fr.app N0 N74q
  have K74 : Keep h0 T74.heap [] := K62.trans hq77 (allS (Or.inr sz_b62) all0)
  have hkk86 : h0.size ≤ T74.heap.size := (Nat.le_trans hkk63 hq77.1)
  have Zs87 : n0 ≤ T74.heap.size := (Nat.le_trans Zs64 hq77.1)
  have sz88 : h0.size ≤ x76 := Nat.le_trans K62.1 hpq79
  have pre89 := fun (t : State) (k : Steps p.tables e below (T74.setTop (mkF m 14 #[.val (.int p0), .val (.int p1), .val (.int p2), .val (.int p3), .val (.ref b62), .val (.int (p0 &&& (3 : Int32))), .unset, .unset, .unset, .unset, .unset, .unset] [])) t) => pre0 t (by
    refine st62 _ ?_
    refine XS.dup X62.here hx rfl (hb hby at_3) rfl rfl ?_
    refine st74.trans ?_
    refine XS.astore X74.here hx rfl (hb hby at_7) rfl rfl (l' := #[.val (.int p0), .val (.int p1), .val (.int p2), .val (.int p3), .val (.ref b62), .unset, .unset, .unset, .unset, .unset, .unset, .unset]) rfl ?_
    refine XS.iloadN X74.here hx rfl (hb hby at_9) rfl ?_
    refine XS.iconst X74.here hx rfl (hb hby at_10) ?_
    refine XS.iand X74.here hx rfl (hb hby at_11) rfl ?_
    refine XS.istore X74.here hx rfl (hb hby at_12) rfl (l' := #[.val (.int p0), .val (.int p1), .val (.int p2), .val (.int p3), .val (.ref b62), .val (.int (p0 &&& (3 : Int32))), .unset, .unset, .unset, .unset, .unset, .unset]) rfl ?_
    exact k)
  obtain ⟨u90, h_u90⟩ : ∃ z : Int32, z = (p0 &&& (3 : Int32)) := ⟨_, rfl⟩
  have pre91 := fun (t : State) (k : Steps p.tables e below (T74.setTop (mkF m 14 #[.val (.int p0), .val (.int p1), .val (.int p2), .val (.int p3), .val (.ref b62), .val (.int u90), .unset, .unset, .unset, .unset, .unset, .unset] [])) t) => pre89 t (by rw [← h_u90]; exact k)
  have hc4 : u90 = 0 ∨ u90 = 1 ∨ u90 = 2 ∨ u90 = 3 := by rw [h_u90]; exact own_and3 _
  rcases hc4 with rfl | hc3
  · have E93 := A62.keep hq77
    obtain ⟨cq92, kq92, q92a, q92b, q92c⟩ := isOf hZS0 rfl E93
    obtain ⟨_, T92, Lc92, X92, hQ92, st92⟩ := own_rt X74 (X74.virtualBack hx (y := yn_46) (z := yn_46) hownS0 (mvT hZS0 (ow 67 rfl)) (mvT hZS0 (ow 68 rfl)) (notFace_of_selects (args := #[]) (mvT hZS0 (ow 70 rfl))) (mvT hZS0 (ow 70 rfl)) (mvT hZS0 (ow 69 rfl)) (by decide) (backOf (W := 0) (rm_gsz l Z a0 hw [] b62 (0 : Int32) T74.heap n0 Zs87 F85) hZS0 (ow 71 rfl) (ow 2 rfl) (by decide) (by decide)) q92a q92c (g := (mkF m 51 #[.val (.int p0), .val (.int p1), .val (.int p2), .val (.int p3), .val (.ref b62), .val (.int 0), .unset, .unset, .unset, .unset, .unset, .unset] [(.ref b62)])) rfl (by rw [hml]; rfl) (Steps.refl _) (argsL := []) (rest := []) (lenOf pd_29 rfl) rfl (Nat.le_of_eq rfl) (hb hby at_51) (fun _ _ => ⟨rfl, rfl, (by decide : 5 + 0 ≤ _), (by decide : 40 + 0 ≤ _)⟩))
    obtain ⟨rfl, N92q, hq94⟩ := hQ92
    have N92 := Fr.app N74 N92q
    have pre95 := fun (t : State) (k : Steps p.tables e below (T92.setTop (mkF m 117 #[.val (.int p0), .val (.int p1), .val (.int p2), .val (.int p3), .val (.ref b62), .val (.int 0), .val (.int (-1)), .unset, .unset, .unset, .unset, .unset] [])) t) => pre91 t (by
      refine XS.iload X74.here hx rfl (hb hby at_14) rfl ?_
      refine XS.ifYes X74.here hx rfl (pc0 := 16) (pc' := 25) rfl (hb hby at_16) rfl ((if0 _ _).trans (flt (by decide : ¬ ((0 : Int32) < (0 : Int32)))).2.2.2) (by decide) (by decide) ?_
      refine XS.iload X74.here hx rfl (hb hby at_25) rfl ?_
      refine XS.iconst X74.here hx rfl (hb hby at_27) ?_
      refine XS.icmpYes X74.here hx rfl (pc0 := 28) (pc' := 37) rfl (hb hby at_28) rfl (flt (by decide : ¬ ((1 : Int32) < (0 : Int32)))).2.2.2 (by decide) (by decide) ?_
      refine XS.iload X74.here hx rfl (hb hby at_37) rfl ?_
      refine XS.iconst X74.here hx rfl (hb hby at_39) ?_
      refine XS.icmpYes X74.here hx rfl (pc0 := 40) (pc' := 49) rfl (hb hby at_40) rfl (flt (by decide : ¬ ((2 : Int32) < (0 : Int32)))).2.2.2 (by decide) (by decide) ?_
      refine XS.aload X74.here hx rfl (hb hby at_49) rfl rfl ?_
      refine st92.trans ?_
      refine XS.iload X92.here hx rfl (hb hby at_54) rfl ?_
      refine XS.icmpYes X92.here hx rfl (pc0 := 56) (pc' := 61) rfl (hb hby at_56) rfl (teq (by decide : (0 : Int32) = (0 : Int32))).1 (by decide) (by decide) ?_
      refine XS.iconst X92.here hx rfl (hb hby at_61) ?_
      refine XS.istore X92.here hx rfl (hb hby at_62) rfl (l' := #[.val (.int p0), .val (.int p1), .val (.int p2), .val (.int p3), .val (.ref b62), .val (.int 0), .val (.int (-1)), .unset, .unset, .unset, .unset, .unset]) rfl ?_
      refine XS.iload X92.here hx rfl (hb hby at_64) rfl ?_
      refine XS.iconst X92.here hx rfl (hb hby at_66) ?_
      refine XS.icmpYes X92.here hx rfl (pc0 := 67) (pc' := 117) rfl (hb hby at_67) rfl (tlt (by decide : (0 : Int32) < (2 : Int32))).1 (by decide) (by decide) ?_
      exact k)
    have rA1 : ∀ (T_rA1 : State) (Lt_rA1 : List Loc) (N_rA1 : Fr n0 Lt_rA1) (X_rA1 : Stand p l e room_1 (s.setVm s.vm) m #[(.int p0), (.int p1), (.int p2), (.int p3)] below meth c T_rA1 Lt_rA1 5 40) (e_rA1 : T_rA1.heap = T74.heap), ∃ s₂ o, Steps p.tables e below (T_rA1.setTop (mkF m 146 #[.val (.int p0), .val (.int p1), .val (.int p2), .val (.int p3), .val (.ref b62), .val (.int 0), .val (.int (-1)), .val .null, .unset, .unset, .unset, .unset] [(.int 0)])) s₂ ∧ s₂.status = .running ∧ Ended s₂ below o ∧ ∃ v L, o = .returned v ∧ Q_law Z p0 p1 p2 p3 em ae bt no kno nk nw h0 n0 v s₂.heap L ∧ ReturnedEndW s o s₂ L 53 320 := by
      intro T_rA1 Lt_rA1 N_rA1 X_rA1 e_rA1
      have pre_rA1 := fun (t : State) (k : Steps p.tables e below (T_rA1.setTop (mkF m 146 #[.val (.int p0), .val (.int p1), .val (.int p2), .val (.int p3), .val (.ref b62), .val (.int 0), .val (.int (-1)), .val .null, .unset, .unset, .unset, .unset] [(.int 0)])) t) => k
      have E97 := (H4_E.ext E62).keep hq77
      have ne99 : em ≠ b62 := Nat.ne_of_lt (Nat.lt_of_lt_of_le H4_E.lt (Nat.le_of_eq g62.symm))
      have F98 := (H5_F.ext E62).keep hq77 (ninS ne99 nin0)
      have F100 := (H6_F.ext E62).keep hq77 (ninS ne99 nin0)
      obtain ⟨cq96, kq96, q96a, q96b, q96c⟩ := isOf hZS0 e_rA1 E93
      obtain ⟨_, T96, Lc96, X96, hQ96, st96⟩ := own_rt X_rA1 (X_rA1.virtualBack hx (y := yn_47) (z := yn_47) hownS0 (mvT hZS0 (ow 74 rfl)) (mvT hZS0 (ow 75 rfl)) (notFace_of_selects (args := #[]) (mvT hZS0 (ow 77 rfl))) (mvT hZS0 (ow 77 rfl)) (mvT hZS0 (ow 76 rfl)) (by decide) (backOf (W := 0) (rm_ndE l Z a0 hw [] b62 em p1 T74.heap n0 Zs87 F80 E97 F98 F100) hZS0 (ow 78 rfl) (ow 2 rfl) (by decide) (by decide)) q96a q96c (g := (mkF m 168 #[.val (.int p0), .val (.int p1), .val (.int p2), .val (.int p3), .val (.ref b62), .val (.int 0), .val (.int (-1)), .val .null, .val (.int 0), .unset, .unset, .unset] [(.int p1), (.ref b62)])) rfl (by rw [hml]; rfl) (Steps.refl _) (argsL := [(.int p1)]) (rest := []) (lenOf pd_28 rfl) rfl (Nat.le_of_eq rfl) (hb hby at_168) (fun _ _ => ⟨rfl, e_rA1, (by decide : 5 + 0 ≤ _), (by decide : 40 + 0 ≤ _)⟩))
      obtain ⟨rfl, N96q, hq101⟩ := hQ96
      have N96 := Fr.app N_rA1 N96q
      have pre102 := fun (t : State) (k : Steps p.tables e below (T96.setTop (mkF m 200 #[.val (.int p0), .val (.int p1), .val (.int p2), .val (.int p3), .val (.ref b62), .val (.int 0), .val (.int (-1)), .val .null, .val (.int 0), .val .null, .unset, .unset] [])) t) => pre_rA1 t (by
        refine XS.istore X_rA1.here hx rfl (hb hby at_146) rfl (l' := #[.val (.int p0), .val (.int p1), .val (.int p2), .val (.int p3), .val (.ref b62), .val (.int 0), .val (.int (-1)), .val .null, .val (.int 0), .unset, .unset, .unset]) rfl ?_
        refine XS.aload X_rA1.here hx rfl (hb hby at_148) rfl rfl ?_
        refine XS.ifnullYes X_rA1.here hx rfl (pc0 := 150) (pc' := 157) rfl (hb hby at_150) rfl (by decide) (by decide) ?_
        refine XS.iconst X_rA1.here hx rfl (hb hby at_157) ?_
        refine XS.iload X_rA1.here hx rfl (hb hby at_158) rfl ?_
        refine XS.icmpYes X_rA1.here hx rfl (pc0 := 160) (pc' := 165) rfl (hb hby at_160) rfl (teq (by decide : (0 : Int32) = (0 : Int32))).1 (by decide) (by decide) ?_
        refine XS.aload X_rA1.here hx rfl (hb hby at_165) rfl rfl ?_
        refine XS.iloadN X_rA1.here hx rfl (hb hby at_167) rfl ?_
        refine st96.trans ?_
        refine XS.astore X96.here hx rfl (hb hby at_171) rfl rfl (l' := #[.val (.int p0), .val (.int p1), .val (.int p2), .val (.int p3), .val (.ref b62), .val (.int 0), .val (.int (-1)), .val .null, .val (.int 0), .val .null, .unset, .unset]) rfl ?_
        refine XS.aload X96.here hx rfl (hb hby at_173) rfl rfl ?_
        refine XS.aload X96.here hx rfl (hb hby at_175) rfl rfl ?_
        refine Jvm.RoadKit.acmp (g := (mkF m 177 #[.val (.int p0), .val (.int p1), .val (.int p2), .val (.int p3), .val (.ref b62), .val (.int 0), .val (.int (-1)), .val .null, .val (.int 0), .val .null, .unset, .unset] [.null, .null])) X96 hx rfl rfl rfl (pc0 := 177) (pc' := 182) (same := true) rfl (hb hby at_177) rfl (decide_eq_true rfl) (by decide) (by decide) ?_
        refine XS.iload X96.here hx rfl (hb hby at_182) rfl ?_
        refine XS.ifYes X96.here hx rfl (pc0 := 184) (pc' := 200) rfl (hb hby at_184) rfl ((if0 _ _).trans (teq (by decide : (0 : Int32) = (0 : Int32))).1) (by decide) (by decide) ?_
        exact k)
      have rA3 : ∀ (T_rA3 : State) (Lt_rA3 : List Loc) (N_rA3 : Fr n0 Lt_rA3) (X_rA3 : Stand p l e room_1 (s.setVm s.vm) m #[(.int p0), (.int p1), (.int p2), (.int p3)] below meth c T_rA3 Lt_rA3 5 40) (e_rA3 : T_rA3.heap = T74.heap), ∃ s₂ o, Steps p.tables e below (T_rA3.setTop (mkF m 229 #[.val (.int p0), .val (.int p1), .val (.int p2), .val (.int p3), .val (.ref b62), .val (.int 0), .val (.int (-1)), .val .null, .val (.int 0), .val .null, .val .null, .unset] [(.int 0)])) s₂ ∧ s₂.status = .running ∧ Ended s₂ below o ∧ ∃ v L, o = .returned v ∧ Q_law Z p0 p1 p2 p3 em ae bt no kno nk nw h0 n0 v s₂.heap L ∧ ReturnedEndW s o s₂ L 53 320 := by
        intro T_rA3 Lt_rA3 N_rA3 X_rA3 e_rA3
        have pre_rA3 := fun (t : State) (k : Steps p.tables e below (T_rA3.setTop (mkF m 229 #[.val (.int p0), .val (.int p1), .val (.int p2), .val (.int p3), .val (.ref b62), .val (.int 0), .val (.int (-1)), .val .null, .val (.int 0), .val .null, .val .null, .unset] [(.int 0)])) t) => k
        have pre103 := fun (t : State) (k : Steps p.tables e below (T_rA3.setTop (mkF m 250 #[.val (.int p0), .val (.int p1), .val (.int p2), .val (.int p3), .val (.ref b62), .val (.int 0), .val (.int (-1)), .val .null, .val (.int 0), .val .null, .val .null, .val (.int 0)] [(.int p1), (.int p3)])) t) => pre_rA3 t (by
          refine XS.istore X_rA3.here hx rfl (hb hby at_229) rfl (l' := #[.val (.int p0), .val (.int p1), .val (.int p2), .val (.int p3), .val (.ref b62), .val (.int 0), .val (.int (-1)), .val .null, .val (.int 0), .val .null, .val .null, .val (.int 0)]) rfl ?_
          refine XS.aload X_rA3.here hx rfl (hb hby at_231) rfl rfl ?_
          refine XS.ifnullYes X_rA3.here hx rfl (pc0 := 233) (pc' := 240) rfl (hb hby at_233) rfl (by decide) (by decide) ?_
          refine XS.iconst X_rA3.here hx rfl (hb hby at_240) ?_
          refine XS.iload X_rA3.here hx rfl (hb hby at_241) rfl ?_
          refine XS.icmpYes X_rA3.here hx rfl (pc0 := 243) (pc' := 248) rfl (hb hby at_243) rfl (teq (by decide : (0 : Int32) = (0 : Int32))).1 (by decide) (by decide) ?_
          refine XS.iloadN X_rA3.here hx rfl (hb hby at_248) rfl ?_
          refine XS.iloadN X_rA3.here hx rfl (hb hby at_249) rfl ?_
          exact k)
        by_cases hc104 : p3 = p1
        · have pre105 := fun (t : State) (k : Steps p.tables e below (T_rA3.setTop (mkF m 265 #[.val (.int p0), .val (.int p1), .val (.int p2), .val (.int p3), .val (.ref b62), .val (.int 0), .val (.int (-1)), .val .null, .val (.int 0), .val .null, .val .null, .val (.int 0)] [(.int 1)])) t) => pre103 t (by
            refine XS.icmpNo X_rA3.here hx rfl (hb hby at_250) rfl (teq hc104).2 ?_
            refine XS.aload X_rA3.here hx rfl (hb hby at_253) rfl rfl ?_
            refine XS.aload X_rA3.here hx rfl (hb hby at_255) rfl rfl ?_
            refine Jvm.RoadKit.acmp (g := (mkF m 257 #[.val (.int p0), .val (.int p1), .val (.int p2), .val (.int p3), .val (.ref b62), .val (.int 0), .val (.int (-1)), .val .null, .val (.int 0), .val .null, .val .null, .val (.int 0)] [.null, .null])) X_rA3 hx rfl rfl rfl (pc0 := 257) (pc' := 260) (same := true) rfl (hb hby at_257) rfl (decide_eq_true rfl) (by decide) (by decide) ?_
            refine XS.iconst X_rA3.here hx rfl (hb hby at_260) ?_
            refine XS.goto X_rA3.here hx rfl (pc0 := 261) (pc' := 265) rfl (hb hby at_261) (by decide) (by decide) ?_
            exact k)
          obtain ⟨fs, hr, hrun, hended, hE1, hE2, hE3, hE4⟩ := X_rA3.leaveW hSS0 (by rw [e_rA3]; exact hkk86) (v := some (.int 1)) (hlocks := BodyLoose.notSynchronized Bd) (fun h => by rw [Bd.returns] at h; cases h)
          refine ⟨_, _, pre105 _ ?_, hrun, hended, _, _, rfl, ?_, hE1, hE2, hE3, hE4.mono (by decide) (by decide)⟩
          · exact retN X_rA3 hx (t := .boolean) Bd.returns (by simp) (hb hby at_265) hr
          · show Q_law Z p0 p1 p2 p3 em ae bt no kno nk nw h0 n0 _ T_rA3.heap _
            rw [e_rA3]
            exact ⟨rfl, N_rA3, K74⟩
        · have pre106 := fun (t : State) (k : Steps p.tables e below (T_rA3.setTop (mkF m 286 #[.val (.int p0), .val (.int p1), .val (.int p2), .val (.int p3), .val (.ref b62), .val (.int 0), .val (.int (-1)), .val .null, .val (.int 0), .val .null, .val .null, .val (.int 0)] [(.int 1)])) t) => pre103 t (by
            refine XS.icmpYes X_rA3.here hx rfl (pc0 := 250) (pc' := 266) rfl (hb hby at_250) rfl (feq hc104).2 (by decide) (by decide) ?_
            refine XS.aload X_rA3.here hx rfl (hb hby at_266) rfl rfl ?_
            refine XS.ifnullYes X_rA3.here hx rfl (pc0 := 268) (pc' := 285) rfl (hb hby at_268) rfl (by decide) (by decide) ?_
            refine XS.iconst X_rA3.here hx rfl (hb hby at_285) ?_
            exact k)
          obtain ⟨fs, hr, hrun, hended, hE1, hE2, hE3, hE4⟩ := X_rA3.leaveW hSS0 (by rw [e_rA3]; exact hkk86) (v := some (.int 1)) (hlocks := BodyLoose.notSynchronized Bd) (fun h => by rw [Bd.returns] at h; cases h)
          refine ⟨_, _, pre106 _ ?_, hrun, hended, _, _, rfl, ?_, hE1, hE2, hE3, hE4.mono (by decide) (by decide)⟩
          · exact retN X_rA3 hx (t := .boolean) Bd.returns (by simp) (hb hby at_286) hr
          · show Q_law Z p0 p1 p2 p3 em ae bt no kno nk nw h0 n0 _ T_rA3.heap _
            rw [e_rA3]
            exact ⟨rfl, N_rA3, K74⟩
      obtain ⟨cq107, kq107, q107a, q107b, q107c⟩ := isOf hZS0 hq101 E93
      obtain ⟨_, T107, Lc107, X107, hQ107, st107⟩ := own_rt X96 (X96.virtualBack hx (y := yn_47) (z := yn_47) hownS0 (mvT hZS0 (ow 74 rfl)) (mvT hZS0 (ow 75 rfl)) (notFace_of_selects (args := #[]) (mvT hZS0 (ow 77 rfl))) (mvT hZS0 (ow 77 rfl)) (mvT hZS0 (ow 76 rfl)) (by decide) (backOf (W := 0) (rm_ndE l Z a0 hw [] b62 em p3 T74.heap n0 Zs87 F80 E97 F98 F100) hZS0 (ow 78 rfl) (ow 2 rfl) (by decide) (by decide)) q107a q107c (g := (mkF m 203 #[.val (.int p0), .val (.int p1), .val (.int p2), .val (.int p3), .val (.ref b62), .val (.int 0), .val (.int (-1)), .val .null, .val (.int 0), .val .null, .unset, .unset] [(.int p3), (.ref b62)])) rfl (by rw [hml]; rfl) (Steps.refl _) (argsL := [(.int p3)]) (rest := []) (lenOf pd_28 rfl) rfl (Nat.le_of_eq rfl) (hb hby at_203) (fun _ _ => ⟨rfl, hq101, (by decide : 5 + 0 ≤ _), (by decide : 40 + 0 ≤ _)⟩))
      obtain ⟨rfl, N107q, hq108⟩ := hQ107
      have N107 := Fr.app N96 N107q
      have pre109 := fun (t : State) (k : Steps p.tables e below (T107.setTop (mkF m 209 #[.val (.int p0), .val (.int p1), .val (.int p2), .val (.int p3), .val (.ref b62), .val (.int 0), .val (.int (-1)), .val .null, .val (.int 0), .val .null, .val .null, .unset] [(.int p3)])) t) => pre102 t (by
        refine XS.aload X96.here hx rfl (hb hby at_200) rfl rfl ?_
        refine XS.iloadN X96.here hx rfl (hb hby at_202) rfl ?_
        refine st107.trans ?_
        refine XS.astore X107.here hx rfl (hb hby at_206) rfl rfl (l' := #[.val (.int p0), .val (.int p1), .val (.int p2), .val (.int p3), .val (.ref b62), .val (.int 0), .val (.int (-1)), .val .null, .val (.int 0), .val .null, .val .null, .unset]) rfl ?_
        refine XS.iloadN X107.here hx rfl (hb hby at_208) rfl ?_
        exact k)
      by_cases hc110 : p3 < (0 : Int32)
      · have pre111 := fun (t : State) (k : Steps p.tables e below (T107.setTop (mkF m 229 #[.val (.int p0), .val (.int p1), .val (.int p2), .val (.int p3), .val (.ref b62), .val (.int 0), .val (.int (-1)), .val .null, .val (.int 0), .val .null, .val .null, .unset] [(.int 0)])) t) => pre109 t (by
          refine XS.ifYes X107.here hx rfl (pc0 := 209) (pc' := 228) rfl (hb hby at_209) rfl ((if0 _ _).trans (tlt hc110).1) (by decide) (by decide) ?_
          refine XS.iconst X107.here hx rfl (hb hby at_228) ?_
          exact k)
        obtain ⟨s2, o2, hs2, hr2⟩ := rA3 T107 _ N107 X107 hq108
        exact ⟨s2, o2, pre111 _ hs2, hr2⟩
      · have pre112 := fun (t : State) (k : Steps p.tables e below (T107.setTop (mkF m 229 #[.val (.int p0), .val (.int p1), .val (.int p2), .val (.int p3), .val (.ref b62), .val (.int 0), .val (.int (-1)), .val .null, .val (.int 0), .val .null, .val .null, .unset] [(.int 0)])) t) => pre109 t (by
          refine XS.ifNo X107.here hx rfl (hb hby at_209) rfl ((if0 _ _).trans (flt hc110).1) ?_
          refine XS.iloadN X107.here hx rfl (hb hby at_212) rfl ?_
          refine XS.iload X107.here hx rfl (hb hby at_213) rfl ?_
          refine XS.icmpYes X107.here hx rfl (pc0 := 215) (pc' := 228) rfl (hb hby at_215) rfl (flt hc110).2.1 (by decide) (by decide) ?_
          refine XS.iconst X107.here hx rfl (hb hby at_228) ?_
          exact k)
        obtain ⟨s2, o2, hs2, hr2⟩ := rA3 T107 _ N107 X107 hq108
        exact ⟨s2, o2, pre112 _ hs2, hr2⟩
    have E114 := (H4_E.ext E62).keep hq77
    have ne116 : em ≠ b62 := Nat.ne_of_lt (Nat.lt_of_lt_of_le H4_E.lt (Nat.le_of_eq g62.symm))
    have F115 := (H5_F.ext E62).keep hq77 (ninS ne116 nin0)
    have F117 := (H6_F.ext E62).keep hq77 (ninS ne116 nin0)
    obtain ⟨cq113, kq113, q113a, q113b, q113c⟩ := isOf hZS0 hq94 E93
    obtain ⟨_, T113, Lc113, X113, hQ113, st113⟩ := own_rt X92 (X92.virtualBack hx (y := yn_47) (z := yn_47) hownS0 (mvT hZS0 (ow 74 rfl)) (mvT hZS0 (ow 75 rfl)) (notFace_of_selects (args := #[]) (mvT hZS0 (ow 77 rfl))) (mvT hZS0 (ow 77 rfl)) (mvT hZS0 (ow 76 rfl)) (by decide) (backOf (W := 0) (rm_ndE l Z a0 hw [] b62 em p1 T74.heap n0 Zs87 F80 E114 F115 F117) hZS0 (ow 78 rfl) (ow 2 rfl) (by decide) (by decide)) q113a q113c (g := (mkF m 120 #[.val (.int p0), .val (.int p1), .val (.int p2), .val (.int p3), .val (.ref b62), .val (.int 0), .val (.int (-1)), .unset, .unset, .unset, .unset, .unset] [(.int p1), (.ref b62)])) rfl (by rw [hml]; rfl) (Steps.refl _) (argsL := [(.int p1)]) (rest := []) (lenOf pd_28 rfl) rfl (Nat.le_of_eq rfl) (hb hby at_120) (fun _ _ => ⟨rfl, hq94, (by decide : 5 + 0 ≤ _), (by decide : 40 + 0 ≤ _)⟩))
    obtain ⟨rfl, N113q, hq118⟩ := hQ113
    have N113 := Fr.app N92 N113q
    have pre119 := fun (t : State) (k : Steps p.tables e below (T113.setTop (mkF m 126 #[.val (.int p0), .val (.int p1), .val (.int p2), .val (.int p3), .val (.ref b62), .val (.int 0), .val (.int (-1)), .val .null, .unset, .unset, .unset, .unset] [(.int p1)])) t) => pre95 t (by
      refine XS.aload X92.here hx rfl (hb hby at_117) rfl rfl ?_
      refine XS.iloadN X92.here hx rfl (hb hby at_119) rfl ?_
      refine st113.trans ?_
      refine XS.astore X113.here hx rfl (hb hby at_123) rfl rfl (l' := #[.val (.int p0), .val (.int p1), .val (.int p2), .val (.int p3), .val (.ref b62), .val (.int 0), .val (.int (-1)), .val .null, .unset, .unset, .unset, .unset]) rfl ?_
      refine XS.iloadN X113.here hx rfl (hb hby at_125) rfl ?_
      exact k)
    by_cases hc120 : p1 < (0 : Int32)
    · have pre121 := fun (t : State) (k : Steps p.tables e below (T113.setTop (mkF m 146 #[.val (.int p0), .val (.int p1), .val (.int p2), .val (.int p3), .val (.ref b62), .val (.int 0), .val (.int (-1)), .val .null, .unset, .unset, .unset, .unset] [(.int 0)])) t) => pre119 t (by
        refine XS.ifYes X113.here hx rfl (pc0 := 126) (pc' := 145) rfl (hb hby at_126) rfl ((if0 _ _).trans (tlt hc120).1) (by decide) (by decide) ?_
        refine XS.iconst X113.here hx rfl (hb hby at_145) ?_
        exact k)
      obtain ⟨s2, o2, hs2, hr2⟩ := rA1 T113 _ N113 X113 hq118
      exact ⟨s2, o2, pre121 _ hs2, hr2⟩
    · have pre122 := fun (t : State) (k : Steps p.tables e below (T113.setTop (mkF m 146 #[.val (.int p0), .val (.int p1), .val (.int p2), .val (.int p3), .val (.ref b62), .val (.int 0), .val (.int (-1)), .val .null, .unset, .unset, .unset, .unset] [(.int 0)])) t) => pre119 t (by
        refine XS.ifNo X113.here hx rfl (hb hby at_126) rfl ((if0 _ _).trans (flt hc120).1) ?_
        refine XS.iloadN X113.here hx rfl (hb hby at_129) rfl ?_
        refine XS.iload X113.here hx rfl (hb hby at_130) rfl ?_
        refine XS.icmpYes X113.here hx rfl (pc0 := 132) (pc' := 145) rfl (hb hby at_132) rfl (flt hc120).2.1 (by decide) (by decide) ?_
        refine XS.iconst X113.here hx rfl (hb hby at_145) ?_
        exact k)
      obtain ⟨s2, o2, hs2, hr2⟩ := rA1 T113 _ N113 X113 hq118
      exact ⟨s2, o2, pre122 _ hs2, hr2⟩
  · have E124 := A62.keep hq77
    have S125 := own_sta_keep S75 hq77 (allS (own_ns_exa A62) all0)
    have S126 := own_sta_keep (H1_S.ext E62) hq77 (allS (own_ns_exa A62) all0)
    have S127 := own_sta_keep (H2_S.ext E62) hq77 (allS (own_ns_exa A62) all0)
    have ne129 : no ≠ b62 := Nat.ne_of_lt (Nat.lt_of_lt_of_le H3_A.lt (Nat.le_of_eq g62.symm))
    have A128 := (H3_A.ext E62).keep hq77 (ninS ne129 nin0)
    have E130 := (H4_E.ext E62).keep hq77
    have ne132 : em ≠ b62 := Nat.ne_of_lt (Nat.lt_of_lt_of_le H4_E.lt (Nat.le_of_eq g62.symm))
    have F131 := (H5_F.ext E62).keep hq77 (ninS ne132 nin0)
    have F133 := (H6_F.ext E62).keep hq77 (ninS ne132 nin0)
    have E134 := (H7_E.ext E62).keep hq77
    have S135 := own_sta_keep (H8_S.ext E62) hq77 (allS (own_ns_exa A62) all0)
    obtain ⟨cq123, kq123, q123a, q123b, q123c⟩ := isOf hZS0 rfl E124
    obtain ⟨_, T123, Lc123, X123, hQ123, st123⟩ := own_rt X74 (X74.virtualBack hx (y := yn_23) (z := yn_23) hownS0 (mvT hZS0 (ow 86 rfl)) (mvT hZS0 (ow 87 rfl)) (notFace_of_selects (args := #[]) (mvT hZS0 (ow 89 rfl))) (mvT hZS0 (ow 89 rfl)) (mvT hZS0 (ow 88 rfl)) (by decide) (backOf (W := 0) (rm_ad0 l Z a0 hw [] b62 x76 em ae bt no kno T74.heap n0 Zs87 E124 F80 F81 F82 F83 F84 F85 S125 S126 S127 A128 E130 F131 F133 E134 S135 ge_b62 (Ne.symm ne132) (Ne.symm ne129)) hZS0 (ow 90 rfl) (ow 2 rfl) (by decide) (by decide)) q123a q123c (g := (mkF m 21 #[.val (.int p0), .val (.int p1), .val (.int p2), .val (.int p3), .val (.ref b62), .val (.int u90), .unset, .unset, .unset, .unset, .unset, .unset] [(.ref b62)])) rfl (by rw [hml]; rfl) (Steps.refl _) (argsL := []) (rest := []) (lenOf pd_29 rfl) rfl (Nat.le_of_eq rfl) (hb hby at_21) (fun _ _ => ⟨rfl, rfl, (by decide : 5 + 14 ≤ _), (by decide : 40 + 74 ≤ _)⟩))
    obtain ⟨x136, x137, x138, x139, x140, x141, x142, x143, x144, x145, x146, x147, x148, x149, rfl, N123q, hq150, hpq151, hpq152, hpq153, hpq154, hpq155, hpq156, hpq157, hpq158, hpq159, hpq160, hpq161, hpq162, hpq163, hpq164, hpq165, hpq166, hpq167, hpq168, hpq169, hpq170, hpq171, hpq172, hpq173, hpq174, hpq175, hpq176, hpq177, hpq178, hpq179, hpq180, hpq181, hpq182, hpq183, hpq184, hpq185, hpq186, hpq187, hpq188, hpq189, hpq190, hpq191, hpq192, hpq193, hpq194, hpq195, hpq196, hpq197, hpq198, hpq199, hpq200, hpq201, hpq202, hpq203, hpq204, hpq205, hpq206, hpq207, hpq208, hpq209, hpq210, hpq211, hpq212, hpq213, hpq214, F215, F216, F217, F218, F219, F220, E221, F222, F223, E224, F225, F226, F227, A228, E229, F230, F231, E232, F233, F234, F235, A236, E237, F238, F239, F240, F241, F242, F243, F244, E245, F246, F247, F248, F249, E250, F251, F252, E253, F254, E255, F256, E257, F258⟩ := hQ123
    have N123 := Fr.app N74 N123q
    have K123 : Keep h0 T123.heap [] := K74.trans hq150 (allS (Or.inr sz_b62) all0)
    have hkk259 : h0.size ≤ T123.heap.size := (Nat.le_trans hkk86 hq150.1)
    have Zs260 : n0 ≤ T123.heap.size := (Nat.le_trans Zs87 hq150.1)
    have sz261 : h0.size ≤ x136 := Nat.le_trans K74.1 hpq152
    have sz262 : h0.size ≤ x137 := Nat.le_trans K74.1 hpq154
    have sz263 : h0.size ≤ x138 := Nat.le_trans K74.1 hpq156
    have sz264 : h0.size ≤ x139 := Nat.le_trans K74.1 hpq158
    have sz265 : h0.size ≤ x140 := Nat.le_trans K74.1 hpq160
    have sz266 : h0.size ≤ x141 := Nat.le_trans K74.1 hpq162
    have sz267 : h0.size ≤ x142 := Nat.le_trans K74.1 hpq164
    have sz268 : h0.size ≤ x143 := Nat.le_trans K74.1 hpq166
    have sz269 : h0.size ≤ x144 := Nat.le_trans K74.1 hpq168
    have sz270 : h0.size ≤ x146 := Nat.le_trans K74.1 hpq170
    have sz271 : h0.size ≤ x147 := Nat.le_trans K74.1 hpq172
    have sz272 : h0.size ≤ x148 := Nat.le_trans K74.1 hpq174
    have pre273 := fun (t : State) (k : Steps p.tables e below (T123.setTop (mkF m 25 #[.val (.int p0), .val (.int p1), .val (.int p2), .val (.int p3), .val (.ref b62), .val (.int u90), .unset, .unset, .unset, .unset, .unset, .unset] [])) t) => pre91 t (by
      refine XS.iload X74.here hx rfl (hb hby at_14) rfl ?_
      refine XS.ifNo X74.here hx rfl (hb hby at_16) rfl ((if0 _ _).trans (tlt (own_p0 hc3)).2.2.2) ?_
      refine XS.aload X74.here hx rfl (hb hby at_19) rfl rfl ?_
      refine st123.trans ?_
      refine XS.pop X123.here hx rfl (hb hby at_24) rfl rfl ?_
      exact k)
    rcases hc3 with rfl | hc2
    · have E275 := E124.keep hq150
      obtain ⟨cq274, kq274, q274a, q274b, q274c⟩ := isOf hZS0 rfl E275
      obtain ⟨_, T274, Lc274, X274, hQ274, st274⟩ := own_rt X123 (X123.virtualBack hx (y := yn_46) (z := yn_46) hownS0 (mvT hZS0 (ow 67 rfl)) (mvT hZS0 (ow 68 rfl)) (notFace_of_selects (args := #[]) (mvT hZS0 (ow 70 rfl))) (mvT hZS0 (ow 70 rfl)) (mvT hZS0 (ow 69 rfl)) (by decide) (backOf (W := 0) (rm_gsz l Z a0 hw [] b62 (1 : Int32) T123.heap n0 Zs260 F220) hZS0 (ow 71 rfl) (ow 2 rfl) (by decide) (by decide)) q274a q274c (g := (mkF m 51 #[.val (.int p0), .val (.int p1), .val (.int p2), .val (.int p3), .val (.ref b62), .val (.int 1), .unset, .unset, .unset, .unset, .unset, .unset] [(.ref b62)])) rfl (by rw [hml]; rfl) (Steps.refl _) (argsL := []) (rest := []) (lenOf pd_29 rfl) rfl (Nat.le_of_eq rfl) (hb hby at_51) (fun _ _ => ⟨rfl, rfl, (by decide : 19 + 0 ≤ _), (by decide : 114 + 0 ≤ _)⟩))
      obtain ⟨rfl, N274q, hq276⟩ := hQ274
      have N274 := Fr.app N123 N274q
      have pre277 := fun (t : State) (k : Steps p.tables e below (T274.setTop (mkF m 117 #[.val (.int p0), .val (.int p1), .val (.int p2), .val (.int p3), .val (.ref b62), .val (.int 1), .val (.int (-1)), .unset, .unset, .unset, .unset, .unset] [])) t) => pre273 t (by
        refine XS.iload X123.here hx rfl (hb hby at_25) rfl ?_
        refine XS.iconst X123.here hx rfl (hb hby at_27) ?_
        refine XS.icmpYes X123.here hx rfl (pc0 := 28) (pc' := 37) rfl (hb hby at_28) rfl (flt (by decide : ¬ ((1 : Int32) < (1 : Int32)))).2.2.2 (by decide) (by decide) ?_
        refine XS.iload X123.here hx rfl (hb hby at_37) rfl ?_
        refine XS.iconst X123.here hx rfl (hb hby at_39) ?_
        refine XS.icmpYes X123.here hx rfl (pc0 := 40) (pc' := 49) rfl (hb hby at_40) rfl (flt (by decide : ¬ ((2 : Int32) < (1 : Int32)))).2.2.2 (by decide) (by decide) ?_
        refine XS.aload X123.here hx rfl (hb hby at_49) rfl rfl ?_
        refine st274.trans ?_
        refine XS.iload X274.here hx rfl (hb hby at_54) rfl ?_
        refine XS.icmpYes X274.here hx rfl (pc0 := 56) (pc' := 61) rfl (hb hby at_56) rfl (teq (by decide : (1 : Int32) = (1 : Int32))).1 (by decide) (by decide) ?_
        refine XS.iconst X274.here hx rfl (hb hby at_61) ?_
        refine XS.istore X274.here hx rfl (hb hby at_62) rfl (l' := #[.val (.int p0), .val (.int p1), .val (.int p2), .val (.int p3), .val (.ref b62), .val (.int 1), .val (.int (-1)), .unset, .unset, .unset, .unset, .unset]) rfl ?_
        refine XS.iload X274.here hx rfl (hb hby at_64) rfl ?_
        refine XS.iconst X274.here hx rfl (hb hby at_66) ?_
        refine XS.icmpYes X274.here hx rfl (pc0 := 67) (pc' := 117) rfl (hb hby at_67) rfl (tlt (by decide : (1 : Int32) < (2 : Int32))).1 (by decide) (by decide) ?_
        exact k)
      obtain ⟨s2, o2, hs2, hr2⟩ := rst b62 x76 x142 x143 x144 x145 ((0 : Int32) ||| ((1 : Int32) <<< ((0 : Int32) &&& 31))) ((0 : Int32) + (1 : Int32)) ([] ++ [(.ref x136)]) (1 : Int32) (-1 : Int32) (.unset) (.unset) 19 114 (by decide) (by decide) T274 T123.heap s.vm h0.size _ N274 X274 hZS0 hownS0 hSS0 hkk259 hq276 K123 Zs260 E275 F215 F219 E221 F222 F223 E224 F225 F226 A228 (own_Nds_app own_Nds_nil E237 F244) (own_T_1_x (w0 := x136) (by decide) (by decide) rfl) (Or.inl rfl) (Or.inl rfl)
      exact ⟨s2, o2, pre277 _ hs2, hr2⟩
    · have E279 := E124.keep hq150
      have S280 := own_sta_keep S125 hq150 (allS (own_ns_exa E124) all0)
      have S281 := own_sta_keep S127 hq150 (allS (own_ns_exa E124) all0)
      have E282 := E134.keep hq150
      have S283 := own_sta_keep S135 hq150 (allS (own_ns_exa E124) all0)
      have ne284 : b62 ≠ x142 := Nat.ne_of_lt (Nat.lt_of_lt_of_le F80.lt hpq164)
      have ne285 : b62 ≠ x143 := Nat.ne_of_lt (Nat.lt_of_lt_of_le F80.lt hpq166)
      have ne286 : b62 ≠ x144 := Nat.ne_of_lt (Nat.lt_of_lt_of_le F80.lt hpq168)
      have ne287 : b62 ≠ x146 := Nat.ne_of_lt (Nat.lt_of_lt_of_le F80.lt hpq170)
      have ne288 : b62 ≠ x147 := Nat.ne_of_lt (Nat.lt_of_lt_of_le F80.lt hpq172)
      have ne289 : b62 ≠ x148 := Nat.ne_of_lt (Nat.lt_of_lt_of_le F80.lt hpq174)
      obtain ⟨cq278, kq278, q278a, q278b, q278c⟩ := isOf hZS0 rfl E279
      obtain ⟨_, T278, Lc278, X278, hQ278, st278⟩ := own_rt X123 (X123.virtualBack hx (y := yn_23) (z := yn_23) hownS0 (mvT hZS0 (ow 86 rfl)) (mvT hZS0 (ow 87 rfl)) (notFace_of_selects (args := #[]) (mvT hZS0 (ow 89 rfl))) (mvT hZS0 (ow 89 rfl)) (mvT hZS0 (ow 88 rfl)) (by decide) (backOf (W := 0) (rm_adG l Z a0 hw [] b62 x76 em ae bt no kno x142 x143 x144 x145 ((0 : Int32) ||| ((1 : Int32) <<< ((0 : Int32) &&& 31))) ((0 : Int32) + (1 : Int32)) ([] ++ [(.ref x136)]) x146 x147 x148 x149 ((0 : Int32) ||| ((1 : Int32) <<< ((0 : Int32) &&& 31))) ((0 : Int32) + (1 : Int32)) ([] ++ [(.ref bt)]) (1 : Int32) T123.heap n0 Zs260 E279 F215 F216 F217 F218 F219 F220 S280 S281 E221 F222 F223 E224 F225 F226 F227 A228 E229 F230 F231 E232 F233 F234 F235 A236 (own_Ins_app own_Ins_nil ⟨(Ins.of_exa E237 (ow 184 rfl)), trivial⟩) (own_Ins_app own_Ins_nil ⟨(Ins.of_exa E282 (ow 206 rfl)), trivial⟩) E282 S283 ge_b62 hpq165 hpq171 ne284 ne285 ne286 ne287 ne288 ne289 hpq185 hpq186 hpq187 hpq188 hpq189 hpq190 hpq191 hpq192 hpq193 hpq194 hpq195 hpq196 hpq197 hpq198 hpq199 (by decide) (by decide) (by decide) (by decide) ⟨rfl, (Nat.le_of_ble_eq_true rfl)⟩ (Nat.le_of_ble_eq_true rfl) (by decide) (by decide) ⟨rfl, (Nat.le_of_ble_eq_true rfl)⟩ (Nat.le_of_ble_eq_true rfl)) hZS0 (ow 90 rfl) (ow 2 rfl) (by decide) (by decide)) q278a q278c (g := (mkF m 33 #[.val (.int p0), .val (.int p1), .val (.int p2), .val (.int p3), .val (.ref b62), .val (.int u90), .unset, .unset, .unset, .unset, .unset, .unset] [(.ref b62)])) rfl (by rw [hml]; rfl) (Steps.refl _) (argsL := []) (rest := []) (lenOf pd_29 rfl) rfl (Nat.le_of_eq rfl) (hb hby at_33) (fun _ _ => ⟨rfl, rfl, (by decide : 19 + 10 ≤ _), (by decide : 114 + 64 ≤ _)⟩))
      obtain ⟨x290, x291, x292, x293, x294, x295, x296, x297, x298, x299, rfl, N278q, hq300, hpq301, hpq302, hpq303, hpq304, hpq305, hpq306, hpq307, hpq308, hpq309, hpq310, hpq311, hpq312, hpq313, hpq314, hpq315, hpq316, hpq317, hpq318, hpq319, hpq320, hpq321, hpq322, hpq323, hpq324, hpq325, hpq326, F327, F328, F329, F330, F331, F332, F333, F334, F335, A336, F337, F338, F339, A340, E341, F342, F343, F344, F345, F346, F347, F348, E349, F350, F351, F352, F353, E354, F355, F356, E357, F358, E359, F360, E361, F362⟩ := hQ278
      have N278 := Fr.app N123 N278q
      have K278 : Keep h0 T278.heap [] := K123.trans hq300 (allS (Or.inr sz_b62) (allS (Or.inr sz268) (allS (Or.inr sz271) all0)))
      have hkk363 : h0.size ≤ T278.heap.size := (Nat.le_trans hkk259 hq300.1)
      have Zs364 : n0 ≤ T278.heap.size := (Nat.le_trans Zs260 hq300.1)
      have sz365 : h0.size ≤ x290 := Nat.le_trans K123.1 hpq302
      have sz366 : h0.size ≤ x291 := Nat.le_trans K123.1 hpq304
      have sz367 : h0.size ≤ x292 := Nat.le_trans K123.1 hpq306
      have sz368 : h0.size ≤ x293 := Nat.le_trans K123.1 hpq308
      have sz369 : h0.size ≤ x294 := Nat.le_trans K123.1 hpq310
      have sz370 : h0.size ≤ x295 := Nat.le_trans K123.1 hpq312
      have sz371 : h0.size ≤ x296 := Nat.le_trans K123.1 hpq314
      have sz372 : h0.size ≤ x298 := Nat.le_trans K123.1 hpq316
      have pre373 := fun (t : State) (k : Steps p.tables e below (T278.setTop (mkF m 37 #[.val (.int p0), .val (.int p1), .val (.int p2), .val (.int p3), .val (.ref b62), .val (.int u90), .unset, .unset, .unset, .unset, .unset, .unset] [])) t) => pre273 t (by
        refine XS.iload X123.here hx rfl (hb hby at_25) rfl ?_
        refine XS.iconst X123.here hx rfl (hb hby at_27) ?_
        refine XS.icmpNo X123.here hx rfl (hb hby at_28) rfl (tlt (own_p1 hc2)).2.2.2 ?_
        refine XS.aload X123.here hx rfl (hb hby at_31) rfl rfl ?_
        refine st278.trans ?_
        refine XS.pop X278.here hx rfl (hb hby at_36) rfl rfl ?_
        exact k)
      rcases hc2 with rfl | rfl
      · have E375 := E279.keep hq300
        obtain ⟨cq374, kq374, q374a, q374b, q374c⟩ := isOf hZS0 rfl E375
        obtain ⟨_, T374, Lc374, X374, hQ374, st374⟩ := own_rt X278 (X278.virtualBack hx (y := yn_46) (z := yn_46) hownS0 (mvT hZS0 (ow 67 rfl)) (mvT hZS0 (ow 68 rfl)) (notFace_of_selects (args := #[]) (mvT hZS0 (ow 70 rfl))) (mvT hZS0 (ow 70 rfl)) (mvT hZS0 (ow 69 rfl)) (by decide) (backOf (W := 0) (rm_gsz l Z a0 hw [] b62 ((1 : Int32) + (1 : Int32)) T278.heap n0 Zs364 F332) hZS0 (ow 71 rfl) (ow 2 rfl) (by decide) (by decide)) q374a q374c (g := (mkF m 51 #[.val (.int p0), .val (.int p1), .val (.int p2), .val (.int p3), .val (.ref b62), .val (.int 2), .unset, .unset, .unset, .unset, .unset, .unset] [(.ref b62)])) rfl (by rw [hml]; rfl) (Steps.refl _) (argsL := []) (rest := []) (lenOf pd_29 rfl) rfl (Nat.le_of_eq rfl) (hb hby at_51) (fun _ _ => ⟨rfl, rfl, (by decide : 29 + 0 ≤ _), (by decide : 178 + 0 ≤ _)⟩))
        obtain ⟨rfl, N374q, hq376⟩ := hQ374
        have N374 := Fr.app N278 N374q
        have pre377 := fun (t : State) (k : Steps p.tables e below (T374.setTop (mkF m 73 #[.val (.int p0), .val (.int p1), .val (.int p2), .val (.int p3), .val (.ref b62), .val (.int 2), .val (.int (-1)), .unset, .unset, .unset, .unset, .unset] [(.int (p2 &&& (1 : Int32)))])) t) => pre373 t (by
          refine XS.iload X278.here hx rfl (hb hby at_37) rfl ?_
          refine XS.iconst X278.here hx rfl (hb hby at_39) ?_
          refine XS.icmpYes X278.here hx rfl (pc0 := 40) (pc' := 49) rfl (hb hby at_40) rfl (flt (by decide : ¬ ((2 : Int32) < (2 : Int32)))).2.2.2 (by decide) (by decide) ?_
          refine XS.aload X278.here hx rfl (hb hby at_49) rfl rfl ?_
          refine st374.trans ?_
          refine XS.iload X374.here hx rfl (hb hby at_54) rfl ?_
          refine XS.icmpYes X374.here hx rfl (pc0 := 56) (pc' := 61) rfl (hb hby at_56) rfl (teq (by decide : ((1 : Int32) + (1 : Int32)) = (2 : Int32))).1 (by decide) (by decide) ?_
          refine XS.iconst X374.here hx rfl (hb hby at_61) ?_
          refine XS.istore X374.here hx rfl (hb hby at_62) rfl (l' := #[.val (.int p0), .val (.int p1), .val (.int p2), .val (.int p3), .val (.ref b62), .val (.int 2), .val (.int (-1)), .unset, .unset, .unset, .unset, .unset]) rfl ?_
          refine XS.iload X374.here hx rfl (hb hby at_64) rfl ?_
          refine XS.iconst X374.here hx rfl (hb hby at_66) ?_
          refine XS.icmpNo X374.here hx rfl (hb hby at_67) rfl (flt (by decide : ¬ ((2 : Int32) < (2 : Int32)))).1 ?_
          refine XS.iloadN X374.here hx rfl (hb hby at_70) rfl ?_
          refine XS.iconst X374.here hx rfl (hb hby at_71) ?_
          refine XS.iand X374.here hx rfl (hb hby at_72) rfl ?_
          exact k)
        by_cases hc378 : (p2 &&& (1 : Int32)) = (0 : Int32)
        · have ne379 : x136 ≠ x290 := Nat.ne_of_lt (Nat.lt_of_lt_of_le E237.lt hpq302)
          have E380 := E237.keep hq300
          have ne382 : b62 ≠ x136 := Nat.ne_of_lt (Nat.lt_of_lt_of_le F80.lt hpq152)
          have F381 := F244.keep hq300 (ninS (Ne.symm ne382) (ninS hpq180 (ninS hpq183 nin0)))
          have pre383 := fun (t : State) (k : Steps p.tables e below (T374.setTop (mkF m 117 #[.val (.int p0), .val (.int p1), .val (.int p2), .val (.int p3), .val (.ref b62), .val (.int 2), .val (.int (-1)), .unset, .unset, .unset, .unset, .unset] [])) t) => pre377 t (by
            refine XS.ifYes X374.here hx rfl (pc0 := 73) (pc' := 117) rfl (hb hby at_73) rfl ((if0 _ _).trans (teq hc378).1) (by decide) (by decide) ?_
            exact k)
          have E384 := E221.keep hq300
          have F385 := F222.keep hq300 (ninS (Ne.symm ne284) (ninS hpq185 (ninS hpq188 nin0)))
          have F386 := F223.keep hq300 (ninS (Ne.symm ne284) (ninS hpq185 (ninS hpq188 nin0)))
          have E387 := E224.keep hq300
          obtain ⟨s2, o2, hs2, hr2⟩ := rst b62 x76 x142 x143 x296 x297 (((0 : Int32) ||| ((1 : Int32) <<< ((0 : Int32) &&& 31))) ||| ((1 : Int32) <<< (((((1 : Int32).toUInt32 >>> ((0 : Int32) &&& 31).toUInt32).toInt32) &&& (31 : Int32)) &&& 31))) (((0 : Int32) + (1 : Int32)) + (1 : Int32)) (([] ++ [(.ref x136)]) ++ [(.ref x290)]) (2 : Int32) (-1 : Int32) (.unset) (.unset) 29 178 (by decide) (by decide) T374 T278.heap s.vm h0.size _ N374 X374 hZS0 hownS0 hSS0 hkk363 hq376 K278 Zs364 E375 F327 F331 E384 F385 F386 E387 F333 F334 A336 (own_Nds_app (own_Nds_app own_Nds_nil E380 F381) E341 F348) (own_T_2_x (w0 := x136) (w1 := x290) (by decide) (by decide) rfl ne379) (Or.inl rfl) (Or.inl rfl)
          exact ⟨s2, o2, pre383 _ hs2, hr2⟩
        · have pre388 := fun (t : State) (k : Steps p.tables e below (T374.setTop (mkF m 87 #[.val (.int p0), .val (.int p1), .val (.int p2), .val (.int p3), .val (.ref b62), .val (.int 2), .val (.int (-1)), .val (.int (own_irem (((p2.toUInt32 >>> ((1 : Int32) &&& 31).toUInt32).toInt32) &&& (2147483647 : Int32)) (2 : Int32))), .unset, .unset, .unset, .unset] [])) t) => pre377 t (by
            refine XS.ifNo X374.here hx rfl (hb hby at_73) rfl ((if0 _ _).trans (feq hc378).1) ?_
            refine XS.iloadN X374.here hx rfl (hb hby at_76) rfl ?_
            refine XS.iconst X374.here hx rfl (hb hby at_77) ?_
            refine XS.iushr X374.here hx rfl (hb hby at_78) rfl ?_
            refine X374.ldcInt hx hownS0 (mvT hZS0 (ow 221 rfl)) (g := (mkF m 79 #[.val (.int p0), .val (.int p1), .val (.int p2), .val (.int p3), .val (.ref b62), .val (.int 2), .val (.int (-1)), .unset, .unset, .unset, .unset, .unset] [(.int ((p2.toUInt32 >>> ((1 : Int32) &&& 31).toUInt32).toInt32))])) rfl (hb hby at_79) _ ?_
            refine XS.iand X374.here hx rfl (hb hby at_81) rfl ?_
            refine XS.iload X374.here hx rfl (hb hby at_82) rfl ?_
            refine XS.irem X374.here hx rfl (hb hby at_84) rfl (by decide) ?_
            refine XS.istore X374.here hx rfl (hb hby at_85) rfl (l' := #[.val (.int p0), .val (.int p1), .val (.int p2), .val (.int p3), .val (.ref b62), .val (.int 2), .val (.int (-1)), .val (.int (own_irem (((p2.toUInt32 >>> ((1 : Int32) &&& 31).toUInt32).toInt32) &&& (2147483647 : Int32)) (2 : Int32))), .unset, .unset, .unset, .unset]) rfl ?_
            exact k)
          obtain ⟨u389, h_u389⟩ : ∃ z : Int32, z = (own_irem (((p2.toUInt32 >>> ((1 : Int32) &&& 31).toUInt32).toInt32) &&& (2147483647 : Int32)) (2 : Int32)) := ⟨_, rfl⟩
          have pre390 := fun (t : State) (k : Steps p.tables e below (T374.setTop (mkF m 87 #[.val (.int p0), .val (.int p1), .val (.int p2), .val (.int p3), .val (.ref b62), .val (.int 2), .val (.int (-1)), .val (.int u389), .unset, .unset, .unset, .unset] [])) t) => pre388 t (by rw [← h_u389]; exact k)
          obtain ⟨T391, h391, X391, e391, E391, A391, D391, -, st391⟩ := newO X374 hx hZS0 hownS0 (ow 222 rfl) (ow 223 rfl) (ow 224 rfl) hq376 (g := (mkF m 102 #[.val (.int p0), .val (.int p1), .val (.int p2), .val (.int p3), .val (.ref b62), .val (.int 2), .val (.int (-1)), .val (.int u389), .val (.int (own_irem (u389 + (1 : Int32)) (2 : Int32))), .unset, .unset, .unset] [(.int (own_irem (u389 + (1 : Int32)) (2 : Int32))), (.int u389), (.ref b62)])) rfl (hb hby at_102) (by decide) (by decide)
          obtain ⟨b391, g391⟩ : ∃ z, z = T278.heap.size := ⟨_, rfl⟩
          have ge_b391 : n0 ≤ b391 := Nat.le_trans Zs364 (Nat.le_of_eq g391.symm)
          have sz_b391 : h0.size ≤ b391 := Nat.le_trans K278.1 (Nat.le_of_eq g391.symm)
          rw [← g391] at A391 D391 st391
          have K391 : Keep h0 h391 [] := K278.ext E391
          have hkk392 : h0.size ≤ h391.size := (Nat.le_trans hkk363 E391.1)
          have Zs393 : n0 ≤ h391.size := (Nat.le_trans Zs364 E391.1)
          have F394 : f_52 Z h391 b391 .null := D391 (Or.inl (ow 232 rfl)) (ty := (.array .int)) (by decide)
          have F395 : f_53 Z h391 b391 .null := D391 (Or.inl (ow 236 rfl)) (ty := (.array .long)) (by decide)
          have S397 := (own_sta_keep (own_sta_keep (own_sta_keep (H9_S.ext E62) hq77 (allS (own_ns_exa A62) all0)) hq150 (allS (own_ns_exa E124) all0)) hq300 (allS (own_ns_exa E279) (allS (own_ns_exa E224) (allS (own_ns_exa E232) all0)))).ext E391
          have S398 := (own_sta_keep (own_sta_keep (own_sta_keep (H10_S.ext E62) hq77 (allS (own_ns_exa A62) all0)) hq150 (allS (own_ns_exa E124) all0)) hq300 (allS (own_ns_exa E279) (allS (own_ns_exa E224) (allS (own_ns_exa E232) all0)))).ext E391
          obtain ⟨_, T396, Lc396, X396, hQ396, st396⟩ := own_rt X391 (X391.specialBack hx (y := yn_45) rfl hownS0 (mvT hZS0 (ow 225 rfl)) (mvT hZS0 (ow 226 rfl)) (mvT hZS0 (ow 227 rfl)) (by decide) (backOf (W := 4) (rm_dpI l Z a0 hw [] b391 nk nw h391 n0 Zs393 A391 S397 S398 F394 F395 ge_b391) hZS0 (ow 227 rfl) (ow 224 rfl) (by decide) (by decide)) (g := (mkF m 106 #[.val (.int p0), .val (.int p1), .val (.int p2), .val (.int p3), .val (.ref b62), .val (.int 2), .val (.int (-1)), .val (.int u389), .val (.int (own_irem (u389 + (1 : Int32)) (2 : Int32))), .unset, .unset, .unset] [(.ref b391), (.ref b391), (.int (own_irem (u389 + (1 : Int32)) (2 : Int32))), (.int u389), (.ref b62)])) rfl (by rw [hml]; rfl) (Steps.refl _) (a := b391) (argsL := []) (rest := [(.ref b391), (.int (own_irem (u389 + (1 : Int32)) (2 : Int32))), (.int u389), (.ref b62)]) (lenOf pd_0 rfl) rfl (Nat.le_of_eq rfl) (hb hby at_106) (fun _ _ => ⟨rfl, e391, (by decide : 30 + 0 ≤ _), (by decide : 182 + 0 ≤ _)⟩))
          obtain ⟨rfl, N396q, hq399⟩ := hQ396
          have N396 := Fr.app N374 N396q
          have K396 : Keep h0 T396.heap [] := K391.trans hq399 (allS (Or.inr sz_b391) all0)
          have hkk400 : h0.size ≤ T396.heap.size := (Nat.le_trans hkk392 hq399.1)
          have Zs401 : n0 ≤ T396.heap.size := (Nat.le_trans Zs393 hq399.1)
          have hc7 : u389 = 0 ∨ u389 = 1 := by rw [h_u389]; exact own_rem2 _
          have pre402 := fun (t : State) (k : Steps p.tables e below (T396.setTop (mkF m 109 #[.val (.int p0), .val (.int p1), .val (.int p2), .val (.int p3), .val (.ref b62), .val (.int 2), .val (.int (-1)), .val (.int u389), .val (.int (own_irem (u389 + (1 : Int32)) (2 : Int32))), .unset, .unset, .unset] [(.ref b391), (.int (own_irem (u389 + (1 : Int32)) (2 : Int32))), (.int u389), (.ref b62)])) t) => pre390 t (by
            refine XS.iload X374.here hx rfl (hb hby at_87) rfl ?_
            refine XS.iconst X374.here hx rfl (hb hby at_89) ?_
            refine XS.iadd X374.here hx rfl (hb hby at_90) rfl ?_
            refine XS.iload X374.here hx rfl (hb hby at_91) rfl ?_
            refine XS.irem X374.here hx rfl (hb hby at_93) rfl (by decide) ?_
            refine XS.istore X374.here hx rfl (hb hby at_94) rfl (l' := #[.val (.int p0), .val (.int p1), .val (.int p2), .val (.int p3), .val (.ref b62), .val (.int 2), .val (.int (-1)), .val (.int u389), .val (.int (own_irem (u389 + (1 : Int32)) (2 : Int32))), .unset, .unset, .unset]) rfl ?_
            refine XS.aload X374.here hx rfl (hb hby at_96) rfl rfl ?_
            refine XS.iload X374.here hx rfl (hb hby at_98) rfl ?_
            refine XS.iload X374.here hx rfl (hb hby at_100) rfl ?_
            refine st391 _ ?_
            refine XS.dup X391.here hx rfl (hb hby at_105) rfl rfl ?_
            refine st396.trans ?_
            exact k)
          rcases hc7 with rfl | rfl
          · have E404 := (E375.ext E391).keep hq399
            have ne406 : b62 ≠ b391 := Nat.ne_of_lt (Nat.lt_of_lt_of_le E375.lt (Nat.le_of_eq g391.symm))
            have F405 := (F327.ext E391).keep hq399 (ninS ne406 nin0)
            have F407 := (F328.ext E391).keep hq399 (ninS ne406 nin0)
            have F408 := (F329.ext E391).keep hq399 (ninS ne406 nin0)
            have F409 := (F330.ext E391).keep hq399 (ninS ne406 nin0)
            have F410 := (F331.ext E391).keep hq399 (ninS ne406 nin0)
            have F411 := (F332.ext E391).keep hq399 (ninS ne406 nin0)
            have S412 := own_sta_keep ((own_sta_keep S280 hq300 (allS (own_ns_exa E279) (allS (own_ns_exa E224) (allS (own_ns_exa E232) all0)))).ext E391) hq399 (allS (own_ns_exa A391) all0)
            have S413 := own_sta_keep ((own_sta_keep S281 hq300 (allS (own_ns_exa E279) (allS (own_ns_exa E224) (allS (own_ns_exa E232) all0)))).ext E391) hq399 (allS (own_ns_exa A391) all0)
            have E414 := (((E130.keep hq150).keep hq300).ext E391).keep hq399
            have ne416 : em ≠ x143 := Nat.ne_of_lt (Nat.lt_of_lt_of_le E130.lt hpq166)
            have ne417 : em ≠ x147 := Nat.ne_of_lt (Nat.lt_of_lt_of_le E130.lt hpq172)
            have ne418 : em ≠ b391 := Nat.ne_of_lt (Nat.lt_of_lt_of_le ((E130.keep hq150).keep hq300).lt (Nat.le_of_eq g391.symm))
            have F415 := (((F131.keep hq150 (ninS ne132 nin0)).keep hq300 (ninS ne132 (ninS ne416 (ninS ne417 nin0)))).ext E391).keep hq399 (ninS ne418 nin0)
            have F419 := (((F133.keep hq150 (ninS ne132 nin0)).keep hq300 (ninS ne132 (ninS ne416 (ninS ne417 nin0)))).ext E391).keep hq399 (ninS ne418 nin0)
            have E420 := ((E221.keep hq300).ext E391).keep hq399
            have ne422 : x142 ≠ b391 := Nat.ne_of_lt (Nat.lt_of_lt_of_le (E221.keep hq300).lt (Nat.le_of_eq g391.symm))
            have F421 := ((F222.keep hq300 (ninS (Ne.symm ne284) (ninS hpq185 (ninS hpq188 nin0)))).ext E391).keep hq399 (ninS ne422 nin0)
            have F423 := ((F223.keep hq300 (ninS (Ne.symm ne284) (ninS hpq185 (ninS hpq188 nin0)))).ext E391).keep hq399 (ninS ne422 nin0)
            have E424 := ((E224.keep hq300).ext E391).keep hq399
            have ne426 : x143 ≠ b391 := Nat.ne_of_lt (Nat.lt_of_lt_of_le F333.lt (Nat.le_of_eq g391.symm))
            have F425 := (F333.ext E391).keep hq399 (ninS ne426 nin0)
            have F427 := (F334.ext E391).keep hq399 (ninS ne426 nin0)
            have F428 := (F335.ext E391).keep hq399 (ninS ne426 nin0)
            have ne430 : x296 ≠ b391 := Nat.ne_of_lt (Nat.lt_of_lt_of_le A336.lt (Nat.le_of_eq g391.symm))
            have A429 := (A336.ext E391).keep hq399 (ninS ne430 nin0)
            have E431 := ((E229.keep hq300).ext E391).keep hq399
            have ne433 : x146 ≠ b391 := Nat.ne_of_lt (Nat.lt_of_lt_of_le (E229.keep hq300).lt (Nat.le_of_eq g391.symm))
            have F432 := ((F230.keep hq300 (ninS (Ne.symm ne287) (ninS (Ne.symm hpq191) (ninS hpq197 nin0)))).ext E391).keep hq399 (ninS ne433 nin0)
            have F434 := ((F231.keep hq300 (ninS (Ne.symm ne287) (ninS (Ne.symm hpq191) (ninS hpq197 nin0)))).ext E391).keep hq399 (ninS ne433 nin0)
            have E435 := ((E232.keep hq300).ext E391).keep hq399
            have ne437 : x147 ≠ b391 := Nat.ne_of_lt (Nat.lt_of_lt_of_le F337.lt (Nat.le_of_eq g391.symm))
            have F436 := (F337.ext E391).keep hq399 (ninS ne437 nin0)
            have F438 := (F338.ext E391).keep hq399 (ninS ne437 nin0)
            have F439 := (F339.ext E391).keep hq399 (ninS ne437 nin0)
            have ne441 : x298 ≠ b391 := Nat.ne_of_lt (Nat.lt_of_lt_of_le A340.lt (Nat.le_of_eq g391.symm))
            have A440 := (A340.ext E391).keep hq399 (ninS ne441 nin0)
            have E442 := ((E237.keep hq300).ext E391).keep hq399
            have E443 := (E341.ext E391).keep hq399
            have E444 := ((E282.keep hq300).ext E391).keep hq399
            have ne446 : b62 ≠ x136 := Nat.ne_of_lt (Nat.lt_of_lt_of_le F80.lt hpq152)
            have ne447 : x136 ≠ b391 := Nat.ne_of_lt (Nat.lt_of_lt_of_le (E237.keep hq300).lt (Nat.le_of_eq g391.symm))
            have F445 := ((F238.keep hq300 (ninS (Ne.symm ne446) (ninS hpq180 (ninS hpq183 nin0)))).ext E391).keep hq399 (ninS ne447 nin0)
            have F448 := ((F239.keep hq300 (ninS (Ne.symm ne446) (ninS hpq180 (ninS hpq183 nin0)))).ext E391).keep hq399 (ninS ne447 nin0)
            have F449 := ((F240.keep hq300 (ninS (Ne.symm ne446) (ninS hpq180 (ninS hpq183 nin0)))).ext E391).keep hq399 (ninS ne447 nin0)
            have F450 := ((F241.keep hq300 (ninS (Ne.symm ne446) (ninS hpq180 (ninS hpq183 nin0)))).ext E391).keep hq399 (ninS ne447 nin0)
            have F451 := ((F242.keep hq300 (ninS (Ne.symm ne446) (ninS hpq180 (ninS hpq183 nin0)))).ext E391).keep hq399 (ninS ne447 nin0)
            have F452 := ((F243.keep hq300 (ninS (Ne.symm ne446) (ninS hpq180 (ninS hpq183 nin0)))).ext E391).keep hq399 (ninS ne447 nin0)
            have F453 := ((F244.keep hq300 (ninS (Ne.symm ne446) (ninS hpq180 (ninS hpq183 nin0)))).ext E391).keep hq399 (ninS ne447 nin0)
            have E454 := ((E245.keep hq300).ext E391).keep hq399
            have ne456 : b62 ≠ x137 := Nat.ne_of_lt (Nat.lt_of_lt_of_le F80.lt hpq154)
            have ne457 : x137 ≠ b391 := Nat.ne_of_lt (Nat.lt_of_lt_of_le (E245.keep hq300).lt (Nat.le_of_eq g391.symm))
            have F455 := ((F246.keep hq300 (ninS (Ne.symm ne456) (ninS (Ne.symm hpq202) (ninS (Ne.symm hpq205) nin0)))).ext E391).keep hq399 (ninS ne457 nin0)
            have F458 := ((F247.keep hq300 (ninS (Ne.symm ne456) (ninS (Ne.symm hpq202) (ninS (Ne.symm hpq205) nin0)))).ext E391).keep hq399 (ninS ne457 nin0)
            have F459 := ((F248.keep hq300 (ninS (Ne.symm ne456) (ninS (Ne.symm hpq202) (ninS (Ne.symm hpq205) nin0)))).ext E391).keep hq399 (ninS ne457 nin0)
            have F460 := ((F249.keep hq300 (ninS (Ne.symm ne456) (ninS (Ne.symm hpq202) (ninS (Ne.symm hpq205) nin0)))).ext E391).keep hq399 (ninS ne457 nin0)
            have E461 := ((E250.keep hq300).ext E391).keep hq399
            have ne463 : b62 ≠ x138 := Nat.ne_of_lt (Nat.lt_of_lt_of_le F80.lt hpq156)
            have ne464 : x138 ≠ b391 := Nat.ne_of_lt (Nat.lt_of_lt_of_le (E250.keep hq300).lt (Nat.le_of_eq g391.symm))
            have F462 := ((F251.keep hq300 (ninS (Ne.symm ne463) (ninS (Ne.symm hpq207) (ninS (Ne.symm hpq211) nin0)))).ext E391).keep hq399 (ninS ne464 nin0)
            have F465 := ((F252.keep hq300 (ninS (Ne.symm ne463) (ninS (Ne.symm hpq207) (ninS (Ne.symm hpq211) nin0)))).ext E391).keep hq399 (ninS ne464 nin0)
            have E466 := ((E253.keep hq300).ext E391).keep hq399
            have ne468 : b62 ≠ x139 := Nat.ne_of_lt (Nat.lt_of_lt_of_le F80.lt hpq158)
            have ne469 : x139 ≠ b391 := Nat.ne_of_lt (Nat.lt_of_lt_of_le (E253.keep hq300).lt (Nat.le_of_eq g391.symm))
            have F467 := ((F254.keep hq300 (ninS (Ne.symm ne468) (ninS (Ne.symm hpq208) (ninS (Ne.symm hpq212) nin0)))).ext E391).keep hq399 (ninS ne469 nin0)
            have E470 := ((E255.keep hq300).ext E391).keep hq399
            have ne472 : b62 ≠ x140 := Nat.ne_of_lt (Nat.lt_of_lt_of_le F80.lt hpq160)
            have ne473 : x140 ≠ b391 := Nat.ne_of_lt (Nat.lt_of_lt_of_le (E255.keep hq300).lt (Nat.le_of_eq g391.symm))
            have F471 := ((F256.keep hq300 (ninS (Ne.symm ne472) (ninS (Ne.symm hpq209) (ninS (Ne.symm hpq213) nin0)))).ext E391).keep hq399 (ninS ne473 nin0)
            have E474 := ((E257.keep hq300).ext E391).keep hq399
            have ne476 : b62 ≠ x141 := Nat.ne_of_lt (Nat.lt_of_lt_of_le F80.lt hpq162)
            have ne477 : x141 ≠ b391 := Nat.ne_of_lt (Nat.lt_of_lt_of_le (E257.keep hq300).lt (Nat.le_of_eq g391.symm))
            have F475 := ((F258.keep hq300 (ninS (Ne.symm ne476) (ninS (Ne.symm hpq210) (ninS (Ne.symm hpq214) nin0)))).ext E391).keep hq399 (ninS ne477 nin0)
            have ne479 : x290 ≠ b391 := Nat.ne_of_lt (Nat.lt_of_lt_of_le E341.lt (Nat.le_of_eq g391.symm))
            have F478 := (F347.ext E391).keep hq399 (ninS ne479 nin0)
            have ne480 : b62 ≠ x296 := Nat.ne_of_lt (Nat.lt_of_lt_of_le E279.lt hpq314)
            have ne481 : b62 ≠ x298 := Nat.ne_of_lt (Nat.lt_of_lt_of_le E279.lt hpq316)
            have ne482 : x143 ≠ x296 := Nat.ne_of_lt (Nat.lt_of_lt_of_le E224.lt hpq314)
            have ne483 : x143 ≠ x298 := Nat.ne_of_lt (Nat.lt_of_lt_of_le E224.lt hpq316)
            have ne484 : x147 ≠ x298 := Nat.ne_of_lt (Nat.lt_of_lt_of_le E232.lt hpq316)
            have ne485 : em ≠ x137 := Nat.ne_of_lt (Nat.lt_of_lt_of_le E130.lt hpq154)
            obtain ⟨cq403, kq403, q403a, q403b, q403c⟩ := isOf hZS0 rfl E404
            obtain ⟨_, T403, Lc403, X403, hSq403, hgr403, hQ403, st403⟩ := own_rtS X396 (X396.virtualBackS hx (y := yn_55) (z := yn_55) hownS0 (mvT hZS0 (ow 237 rfl)) (mvT hZS0 (ow 238 rfl)) (notFace_of_selects (args := #[]) (mvT hZS0 (ow 240 rfl))) (mvT hZS0 (ow 240 rfl)) (mvT hZS0 (ow 239 rfl)) (by decide) (backOfS (W := 0) (rm_mrg l Z a0 hw [] b62 x76 em ae bt x142 x143 x296 x297 (((0 : Int32) ||| ((1 : Int32) <<< ((0 : Int32) &&& 31))) ||| ((1 : Int32) <<< (((((1 : Int32).toUInt32 >>> ((0 : Int32) &&& 31).toUInt32).toInt32) &&& (31 : Int32)) &&& 31))) (((0 : Int32) + (1 : Int32)) + (1 : Int32)) (([] ++ [(.ref x136)]) ++ [(.ref x290)]) x146 x147 x298 x299 (((0 : Int32) ||| ((1 : Int32) <<< ((0 : Int32) &&& 31))) ||| ((1 : Int32) <<< (((((1 : Int32).toUInt32 >>> ((0 : Int32) &&& 31).toUInt32).toInt32) &&& (31 : Int32)) &&& 31))) (((0 : Int32) + (1 : Int32)) + (1 : Int32)) (([] ++ [(.ref bt)]) ++ [(.ref bt)]) ((1 : Int32) + (1 : Int32)) (0 : Int32) (own_irem ((0 : Int32) + (1 : Int32)) (2 : Int32)) x136 x290 b391 x137 x138 x139 x140 x141 (0 : Int32) 0 (0 : Int32) 0 T396.heap n0 Zs401 E404 F405 F407 F408 F409 F410 F411 S412 S413 E414 F415 F419 E420 F421 F423 E424 F425 F427 F428 A429 E431 F432 F434 E435 F436 F438 F439 A440 (own_Ins_app (own_Ins_app own_Ins_nil ⟨(Ins.of_exa E442 (ow 184 rfl)), trivial⟩) ⟨(Ins.of_exa E443 (ow 184 rfl)), trivial⟩) (own_Ins_app (own_Ins_app own_Ins_nil ⟨(Ins.of_exa E444 (ow 206 rfl)), trivial⟩) ⟨(Ins.of_exa E444 (ow 206 rfl)), trivial⟩) E442 F445 F448 F449 F450 F451 F452 F453 E454 F455 F458 F459 F460 E461 F462 F465 E466 F467 E470 F471 E474 F475 E443 F478 ge_b62 hpq165 hpq171 hpq153 ne284 ne285 ne480 ne287 ne288 ne481 (Ne.symm ne132) ne446 ne456 ne468 ne472 ne476 (Ne.symm hpq185) ne482 hpq191 hpq192 ne483 (Ne.symm ne416) (Ne.symm hpq180) hpq202 hpq208 hpq209 hpq210 (Ne.symm hpq197) ne484 (Ne.symm ne417) (Ne.symm hpq183) hpq205 hpq212 hpq213 hpq214 (Ne.symm ne485) (Ne.symm hpq200) hpq176 hpq177 hpq178 (by decide) (by decide) ⟨rfl, (Nat.le_of_ble_eq_true rfl)⟩ (by decide) (Nat.le_of_ble_eq_true rfl) (own_ref_of (0 : Int32) (by decide) ⟨by decide, by decide, rfl⟩) (by decide) (by decide) (by decide) (by decide) (by decide) ⟨rfl, (Nat.le_of_ble_eq_true rfl)⟩ (by decide) (Nat.le_of_ble_eq_true rfl) (own_ref_of (0 : Int32) (by decide) ⟨by decide, by decide, rfl⟩) (by decide) (by decide) (by decide) (by decide) (own_ref_of (1 : Int32) (by decide) ⟨by decide, by decide, rfl⟩)) hZS0 (ow 241 rfl) (ow 2 rfl) (by decide) (by decide)) q403a q403c (g := (mkF m 109 #[.val (.int p0), .val (.int p1), .val (.int p2), .val (.int p3), .val (.ref b62), .val (.int 2), .val (.int (-1)), .val (.int 0), .val (.int (own_irem ((0 : Int32) + (1 : Int32)) (2 : Int32))), .unset, .unset, .unset] [(.ref b391), (.int (own_irem ((0 : Int32) + (1 : Int32)) (2 : Int32))), (.int 0), (.ref b62)])) rfl (by rw [hml]; rfl) (Steps.refl _) (argsL := [(.int 0), (.int (own_irem ((0 : Int32) + (1 : Int32)) (2 : Int32))), (.ref b391)]) (rest := []) (lenOf pd_30 rfl) rfl (Nat.le_of_eq rfl) (hb hby at_109) (fun _ _ => ⟨rfl, rfl, (by decide : 30 + 13 ≤ _), (by decide : 182 + 74 ≤ _)⟩))
            obtain ⟨x486, x487, x488, rfl, N403q, hq489, hpq490, hpq491, F492, F493, F494, F495, F496, F497, A498⟩ := hQ403
            have N403 := Fr.app N396 N403q
            have K403 : Keep h0 T403.heap [] := K396.trans hq489 (allS (Or.inr sz_b62) (allS (Or.inr sz268) (allS (Or.inr sz271) (allS (Or.inr sz262) all0))))
            have XS403 : Stand p l e room_1 (s.setVm T403.vm) m #[(.int p0), (.int p1), (.int p2), (.int p3)] below meth c T403 _ _ _ := X403
            have hS403 : s.Since T403.vm T403.heap.size := hSS0.trans hSq403 (Nat.le_trans hkk400 hgr403)
            have hZ403 : Z.Warmed39 (s.setVm T403.vm).vm := State.Warmed39.trans (t := s.setVm s.vm) hZS0 hSq403.1
            have ho403 : (s.setVm T403.vm).vm.findClass "org/tallyrole/core/GraphNodePinLaw" = some m.cls := by rw [show (s.setVm T403.vm).vm = T403.vm from rfl, hSq403.1.alike.findClass]; exact hownS0
            have hk403 : T403.heap.size ≤ T403.heap.size := Nat.le_refl _
            have Zs499 : n0 ≤ T403.heap.size := (Nat.le_trans Zs401 hq489.1)
            have sz500 : h0.size ≤ x487 := Nat.le_trans K396.1 hpq491
            have E501 := E442.keep hq489
            have F502 := F453.keep hq489 (ninS (Ne.symm ne446) (ninS hpq180 (ninS hpq183 (ninS hpq200 nin0))))
            have E503 := E443.keep hq489
            have ne505 : b62 ≠ x290 := Nat.ne_of_lt (Nat.lt_of_lt_of_le E279.lt hpq302)
            have ne506 : x143 ≠ x290 := Nat.ne_of_lt (Nat.lt_of_lt_of_le E224.lt hpq302)
            have ne507 : x147 ≠ x290 := Nat.ne_of_lt (Nat.lt_of_lt_of_le E232.lt hpq302)
            have ne508 : x137 ≠ x290 := Nat.ne_of_lt (Nat.lt_of_lt_of_le E245.lt hpq302)
            have F504 := ((F348.ext E391).keep hq399 (ninS ne479 nin0)).keep hq489 (ninS (Ne.symm ne505) (ninS (Ne.symm ne506) (ninS (Ne.symm ne507) (ninS (Ne.symm ne508) nin0))))
            have pre509 := fun (t : State) (k : Steps p.tables e below (T403.setTop (mkF m 117 #[.val (.int p0), .val (.int p1), .val (.int p2), .val (.int p3), .val (.ref b62), .val (.int 2), .val (.int 0), .val (.int 0), .val (.int (own_irem ((0 : Int32) + (1 : Int32)) (2 : Int32))), .unset, .unset, .unset] [])) t) => pre402 t (by
              refine st403.trans ?_
              refine XS.pop XS403.here hx rfl (hb hby at_112) rfl rfl ?_
              refine XS.iload XS403.here hx rfl (hb hby at_113) rfl ?_
              refine XS.istore XS403.here hx rfl (hb hby at_115) rfl (l' := #[.val (.int p0), .val (.int p1), .val (.int p2), .val (.int p3), .val (.ref b62), .val (.int 2), .val (.int 0), .val (.int 0), .val (.int (own_irem ((0 : Int32) + (1 : Int32)) (2 : Int32))), .unset, .unset, .unset]) rfl ?_
              exact k)
            have E510 := E404.keep hq489
            have E511 := E420.keep hq489
            have F512 := F421.keep hq489 (ninS (Ne.symm ne284) (ninS hpq185 (ninS hpq188 (ninS hpq201 nin0))))
            have F513 := F423.keep hq489 (ninS (Ne.symm ne284) (ninS hpq185 (ninS hpq188 (ninS hpq201 nin0))))
            have E514 := E424.keep hq489
            obtain ⟨s2, o2, hs2, hr2⟩ := rst b62 x76 x142 x143 x487 x488 ((((0 : Int32) ||| ((1 : Int32) <<< ((0 : Int32) &&& 31))) ||| ((1 : Int32) <<< (((((1 : Int32).toUInt32 >>> ((0 : Int32) &&& 31).toUInt32).toInt32) &&& (31 : Int32)) &&& 31))) &&& (((1 : Int32) <<< (((((0 : Int32).toUInt32 >>> ((0 : Int32) &&& 31).toUInt32).toInt32) &&& (31 : Int32)) &&& 31)) ^^^ (-1 : Int32))) ((((0 : Int32) + (1 : Int32)) + (1 : Int32)) - (1 : Int32)) ((([] ++ [(Value.ref x136)]) ++ [(Value.ref x290)]).eraseIdx 0) (2 : Int32) (0 : Int32) (.val (.int 0)) (.val (.int (own_irem ((0 : Int32) + (1 : Int32)) (2 : Int32)))) 43 256 (by decide) (by decide) T403 T403.heap T403.vm T403.heap.size _ N403 XS403 hZ403 ho403 hS403 hk403 rfl K403 Zs499 E510 F492 F493 E511 F512 F513 E514 F495 F496 A498 (own_Nds_er (own_Nds_app (own_Nds_app own_Nds_nil E501 F502) E503 F504)) (own_T_2_0 (w1 := x290) (by decide) (by decide) rfl) (Or.inr ⟨_, rfl⟩) (Or.inr ⟨_, rfl⟩)
            exact ⟨s2, o2, pre509 _ hs2, hr2⟩
          · have E516 := (E375.ext E391).keep hq399
            have ne518 : b62 ≠ b391 := Nat.ne_of_lt (Nat.lt_of_lt_of_le E375.lt (Nat.le_of_eq g391.symm))
            have F517 := (F327.ext E391).keep hq399 (ninS ne518 nin0)
            have F519 := (F328.ext E391).keep hq399 (ninS ne518 nin0)
            have F520 := (F329.ext E391).keep hq399 (ninS ne518 nin0)
            have F521 := (F330.ext E391).keep hq399 (ninS ne518 nin0)
            have F522 := (F331.ext E391).keep hq399 (ninS ne518 nin0)
            have F523 := (F332.ext E391).keep hq399 (ninS ne518 nin0)
            have S524 := own_sta_keep ((own_sta_keep S280 hq300 (allS (own_ns_exa E279) (allS (own_ns_exa E224) (allS (own_ns_exa E232) all0)))).ext E391) hq399 (allS (own_ns_exa A391) all0)
            have S525 := own_sta_keep ((own_sta_keep S281 hq300 (allS (own_ns_exa E279) (allS (own_ns_exa E224) (allS (own_ns_exa E232) all0)))).ext E391) hq399 (allS (own_ns_exa A391) all0)
            have E526 := (((E130.keep hq150).keep hq300).ext E391).keep hq399
            have ne528 : em ≠ x143 := Nat.ne_of_lt (Nat.lt_of_lt_of_le E130.lt hpq166)
            have ne529 : em ≠ x147 := Nat.ne_of_lt (Nat.lt_of_lt_of_le E130.lt hpq172)
            have ne530 : em ≠ b391 := Nat.ne_of_lt (Nat.lt_of_lt_of_le ((E130.keep hq150).keep hq300).lt (Nat.le_of_eq g391.symm))
            have F527 := (((F131.keep hq150 (ninS ne132 nin0)).keep hq300 (ninS ne132 (ninS ne528 (ninS ne529 nin0)))).ext E391).keep hq399 (ninS ne530 nin0)
            have F531 := (((F133.keep hq150 (ninS ne132 nin0)).keep hq300 (ninS ne132 (ninS ne528 (ninS ne529 nin0)))).ext E391).keep hq399 (ninS ne530 nin0)
            have E532 := ((E221.keep hq300).ext E391).keep hq399
            have ne534 : x142 ≠ b391 := Nat.ne_of_lt (Nat.lt_of_lt_of_le (E221.keep hq300).lt (Nat.le_of_eq g391.symm))
            have F533 := ((F222.keep hq300 (ninS (Ne.symm ne284) (ninS hpq185 (ninS hpq188 nin0)))).ext E391).keep hq399 (ninS ne534 nin0)
            have F535 := ((F223.keep hq300 (ninS (Ne.symm ne284) (ninS hpq185 (ninS hpq188 nin0)))).ext E391).keep hq399 (ninS ne534 nin0)
            have E536 := ((E224.keep hq300).ext E391).keep hq399
            have ne538 : x143 ≠ b391 := Nat.ne_of_lt (Nat.lt_of_lt_of_le F333.lt (Nat.le_of_eq g391.symm))
            have F537 := (F333.ext E391).keep hq399 (ninS ne538 nin0)
            have F539 := (F334.ext E391).keep hq399 (ninS ne538 nin0)
            have F540 := (F335.ext E391).keep hq399 (ninS ne538 nin0)
            have ne542 : x296 ≠ b391 := Nat.ne_of_lt (Nat.lt_of_lt_of_le A336.lt (Nat.le_of_eq g391.symm))
            have A541 := (A336.ext E391).keep hq399 (ninS ne542 nin0)
            have E543 := ((E229.keep hq300).ext E391).keep hq399
            have ne545 : x146 ≠ b391 := Nat.ne_of_lt (Nat.lt_of_lt_of_le (E229.keep hq300).lt (Nat.le_of_eq g391.symm))
            have F544 := ((F230.keep hq300 (ninS (Ne.symm ne287) (ninS (Ne.symm hpq191) (ninS hpq197 nin0)))).ext E391).keep hq399 (ninS ne545 nin0)
            have F546 := ((F231.keep hq300 (ninS (Ne.symm ne287) (ninS (Ne.symm hpq191) (ninS hpq197 nin0)))).ext E391).keep hq399 (ninS ne545 nin0)
            have E547 := ((E232.keep hq300).ext E391).keep hq399
            have ne549 : x147 ≠ b391 := Nat.ne_of_lt (Nat.lt_of_lt_of_le F337.lt (Nat.le_of_eq g391.symm))
            have F548 := (F337.ext E391).keep hq399 (ninS ne549 nin0)
            have F550 := (F338.ext E391).keep hq399 (ninS ne549 nin0)
            have F551 := (F339.ext E391).keep hq399 (ninS ne549 nin0)
            have ne553 : x298 ≠ b391 := Nat.ne_of_lt (Nat.lt_of_lt_of_le A340.lt (Nat.le_of_eq g391.symm))
            have A552 := (A340.ext E391).keep hq399 (ninS ne553 nin0)
            have E554 := ((E237.keep hq300).ext E391).keep hq399
            have E555 := (E341.ext E391).keep hq399
            have E556 := ((E282.keep hq300).ext E391).keep hq399
            have ne558 : x290 ≠ b391 := Nat.ne_of_lt (Nat.lt_of_lt_of_le E341.lt (Nat.le_of_eq g391.symm))
            have F557 := (F342.ext E391).keep hq399 (ninS ne558 nin0)
            have F559 := (F343.ext E391).keep hq399 (ninS ne558 nin0)
            have F560 := (F344.ext E391).keep hq399 (ninS ne558 nin0)
            have F561 := (F345.ext E391).keep hq399 (ninS ne558 nin0)
            have F562 := (F346.ext E391).keep hq399 (ninS ne558 nin0)
            have F563 := (F347.ext E391).keep hq399 (ninS ne558 nin0)
            have F564 := (F348.ext E391).keep hq399 (ninS ne558 nin0)
            have E565 := (E349.ext E391).keep hq399
            have ne567 : x291 ≠ b391 := Nat.ne_of_lt (Nat.lt_of_lt_of_le E349.lt (Nat.le_of_eq g391.symm))
            have F566 := (F350.ext E391).keep hq399 (ninS ne567 nin0)
            have F568 := (F351.ext E391).keep hq399 (ninS ne567 nin0)
            have F569 := (F352.ext E391).keep hq399 (ninS ne567 nin0)
            have F570 := (F353.ext E391).keep hq399 (ninS ne567 nin0)
            have E571 := (E354.ext E391).keep hq399
            have ne573 : x292 ≠ b391 := Nat.ne_of_lt (Nat.lt_of_lt_of_le E354.lt (Nat.le_of_eq g391.symm))
            have F572 := (F355.ext E391).keep hq399 (ninS ne573 nin0)
            have F574 := (F356.ext E391).keep hq399 (ninS ne573 nin0)
            have E575 := (E357.ext E391).keep hq399
            have ne577 : x293 ≠ b391 := Nat.ne_of_lt (Nat.lt_of_lt_of_le E357.lt (Nat.le_of_eq g391.symm))
            have F576 := (F358.ext E391).keep hq399 (ninS ne577 nin0)
            have E578 := (E359.ext E391).keep hq399
            have ne580 : x294 ≠ b391 := Nat.ne_of_lt (Nat.lt_of_lt_of_le E359.lt (Nat.le_of_eq g391.symm))
            have F579 := (F360.ext E391).keep hq399 (ninS ne580 nin0)
            have E581 := (E361.ext E391).keep hq399
            have ne583 : x295 ≠ b391 := Nat.ne_of_lt (Nat.lt_of_lt_of_le E361.lt (Nat.le_of_eq g391.symm))
            have F582 := (F362.ext E391).keep hq399 (ninS ne583 nin0)
            have ne585 : b62 ≠ x136 := Nat.ne_of_lt (Nat.lt_of_lt_of_le F80.lt hpq152)
            have ne586 : x136 ≠ b391 := Nat.ne_of_lt (Nat.lt_of_lt_of_le (E237.keep hq300).lt (Nat.le_of_eq g391.symm))
            have F584 := ((F243.keep hq300 (ninS (Ne.symm ne585) (ninS hpq180 (ninS hpq183 nin0)))).ext E391).keep hq399 (ninS ne586 nin0)
            have ne587 : b62 ≠ x296 := Nat.ne_of_lt (Nat.lt_of_lt_of_le E279.lt hpq314)
            have ne588 : b62 ≠ x298 := Nat.ne_of_lt (Nat.lt_of_lt_of_le E279.lt hpq316)
            have ne589 : b62 ≠ x290 := Nat.ne_of_lt (Nat.lt_of_lt_of_le E279.lt hpq302)
            have ne590 : b62 ≠ x291 := Nat.ne_of_lt (Nat.lt_of_lt_of_le E279.lt hpq304)
            have ne591 : b62 ≠ x293 := Nat.ne_of_lt (Nat.lt_of_lt_of_le E279.lt hpq308)
            have ne592 : b62 ≠ x294 := Nat.ne_of_lt (Nat.lt_of_lt_of_le E279.lt hpq310)
            have ne593 : b62 ≠ x295 := Nat.ne_of_lt (Nat.lt_of_lt_of_le E279.lt hpq312)
            have ne594 : x143 ≠ x296 := Nat.ne_of_lt (Nat.lt_of_lt_of_le E224.lt hpq314)
            have ne595 : x143 ≠ x298 := Nat.ne_of_lt (Nat.lt_of_lt_of_le E224.lt hpq316)
            have ne596 : x143 ≠ x290 := Nat.ne_of_lt (Nat.lt_of_lt_of_le E224.lt hpq302)
            have ne597 : x143 ≠ x291 := Nat.ne_of_lt (Nat.lt_of_lt_of_le E224.lt hpq304)
            have ne598 : x143 ≠ x293 := Nat.ne_of_lt (Nat.lt_of_lt_of_le E224.lt hpq308)
            have ne599 : x143 ≠ x294 := Nat.ne_of_lt (Nat.lt_of_lt_of_le E224.lt hpq310)
            have ne600 : x143 ≠ x295 := Nat.ne_of_lt (Nat.lt_of_lt_of_le E224.lt hpq312)
            have ne601 : x147 ≠ x298 := Nat.ne_of_lt (Nat.lt_of_lt_of_le E232.lt hpq316)
            have ne602 : x147 ≠ x290 := Nat.ne_of_lt (Nat.lt_of_lt_of_le E232.lt hpq302)
            have ne603 : x147 ≠ x291 := Nat.ne_of_lt (Nat.lt_of_lt_of_le E232.lt hpq304)
            have ne604 : x147 ≠ x293 := Nat.ne_of_lt (Nat.lt_of_lt_of_le E232.lt hpq308)
            have ne605 : x147 ≠ x294 := Nat.ne_of_lt (Nat.lt_of_lt_of_le E232.lt hpq310)
            have ne606 : x147 ≠ x295 := Nat.ne_of_lt (Nat.lt_of_lt_of_le E232.lt hpq312)
            have ne607 : em ≠ x291 := Nat.ne_of_lt (Nat.lt_of_lt_of_le (E130.keep hq150).lt hpq304)
            obtain ⟨cq515, kq515, q515a, q515b, q515c⟩ := isOf hZS0 rfl E516
            obtain ⟨_, T515, Lc515, X515, hSq515, hgr515, hQ515, st515⟩ := own_rtS X396 (X396.virtualBackS hx (y := yn_55) (z := yn_55) hownS0 (mvT hZS0 (ow 237 rfl)) (mvT hZS0 (ow 238 rfl)) (notFace_of_selects (args := #[]) (mvT hZS0 (ow 240 rfl))) (mvT hZS0 (ow 240 rfl)) (mvT hZS0 (ow 239 rfl)) (by decide) (backOfS (W := 0) (rm_mrg l Z a0 hw [] b62 x76 em ae bt x142 x143 x296 x297 (((0 : Int32) ||| ((1 : Int32) <<< ((0 : Int32) &&& 31))) ||| ((1 : Int32) <<< (((((1 : Int32).toUInt32 >>> ((0 : Int32) &&& 31).toUInt32).toInt32) &&& (31 : Int32)) &&& 31))) (((0 : Int32) + (1 : Int32)) + (1 : Int32)) (([] ++ [(.ref x136)]) ++ [(.ref x290)]) x146 x147 x298 x299 (((0 : Int32) ||| ((1 : Int32) <<< ((0 : Int32) &&& 31))) ||| ((1 : Int32) <<< (((((1 : Int32).toUInt32 >>> ((0 : Int32) &&& 31).toUInt32).toInt32) &&& (31 : Int32)) &&& 31))) (((0 : Int32) + (1 : Int32)) + (1 : Int32)) (([] ++ [(.ref bt)]) ++ [(.ref bt)]) ((1 : Int32) + (1 : Int32)) (1 : Int32) (own_irem ((1 : Int32) + (1 : Int32)) (2 : Int32)) x290 x136 b391 x291 x292 x293 x294 x295 (1 : Int32) 1 (1 : Int32) 1 T396.heap n0 Zs401 E516 F517 F519 F520 F521 F522 F523 S524 S525 E526 F527 F531 E532 F533 F535 E536 F537 F539 F540 A541 E543 F544 F546 E547 F548 F550 F551 A552 (own_Ins_app (own_Ins_app own_Ins_nil ⟨(Ins.of_exa E554 (ow 184 rfl)), trivial⟩) ⟨(Ins.of_exa E555 (ow 184 rfl)), trivial⟩) (own_Ins_app (own_Ins_app own_Ins_nil ⟨(Ins.of_exa E556 (ow 206 rfl)), trivial⟩) ⟨(Ins.of_exa E556 (ow 206 rfl)), trivial⟩) E555 F557 F559 F560 F561 F562 F563 F564 E565 F566 F568 F569 F570 E571 F572 F574 E575 F576 E578 F579 E581 F582 E554 F584 ge_b62 hpq165 hpq171 hpq303 ne284 ne285 ne587 ne287 ne288 ne588 (Ne.symm ne132) ne589 ne590 ne591 ne592 ne593 (Ne.symm hpq185) ne594 hpq191 hpq192 ne595 (Ne.symm ne528) ne596 ne597 ne598 ne599 ne600 (Ne.symm hpq197) ne601 (Ne.symm ne529) ne602 ne603 ne604 ne605 ne606 (Ne.symm ne607) (Ne.symm hpq324) hpq318 hpq319 hpq320 (by decide) (by decide) ⟨rfl, (Nat.le_of_ble_eq_true rfl)⟩ (by decide) (Nat.le_of_ble_eq_true rfl) (own_ref_of (1 : Int32) (by decide) ⟨by decide, by decide, rfl⟩) (by decide) (by decide) (by decide) (by decide) (by decide) ⟨rfl, (Nat.le_of_ble_eq_true rfl)⟩ (by decide) (Nat.le_of_ble_eq_true rfl) (own_ref_of (1 : Int32) (by decide) ⟨by decide, by decide, rfl⟩) (by decide) (by decide) (by decide) (by decide) (own_ref_of (0 : Int32) (by decide) ⟨by decide, by decide, rfl⟩)) hZS0 (ow 241 rfl) (ow 2 rfl) (by decide) (by decide)) q515a q515c (g := (mkF m 109 #[.val (.int p0), .val (.int p1), .val (.int p2), .val (.int p3), .val (.ref b62), .val (.int 2), .val (.int (-1)), .val (.int 1), .val (.int (own_irem ((1 : Int32) + (1 : Int32)) (2 : Int32))), .unset, .unset, .unset] [(.ref b391), (.int (own_irem ((1 : Int32) + (1 : Int32)) (2 : Int32))), (.int 1), (.ref b62)])) rfl (by rw [hml]; rfl) (Steps.refl _) (argsL := [(.int 1), (.int (own_irem ((1 : Int32) + (1 : Int32)) (2 : Int32))), (.ref b391)]) (rest := []) (lenOf pd_30 rfl) rfl (Nat.le_of_eq rfl) (hb hby at_109) (fun _ _ => ⟨rfl, rfl, (by decide : 30 + 13 ≤ _), (by decide : 182 + 74 ≤ _)⟩))
            obtain ⟨x608, x609, x610, rfl, N515q, hq611, hpq612, hpq613, F614, F615, F616, F617, F618, F619, A620⟩ := hQ515
            have N515 := Fr.app N396 N515q
            have K515 : Keep h0 T515.heap [] := K396.trans hq611 (allS (Or.inr sz_b62) (allS (Or.inr sz268) (allS (Or.inr sz271) (allS (Or.inr sz366) all0))))
            have XS515 : Stand p l e room_1 (s.setVm T515.vm) m #[(.int p0), (.int p1), (.int p2), (.int p3)] below meth c T515 _ _ _ := X515
            have hS515 : s.Since T515.vm T515.heap.size := hSS0.trans hSq515 (Nat.le_trans hkk400 hgr515)
            have hZ515 : Z.Warmed39 (s.setVm T515.vm).vm := State.Warmed39.trans (t := s.setVm s.vm) hZS0 hSq515.1
            have ho515 : (s.setVm T515.vm).vm.findClass "org/tallyrole/core/GraphNodePinLaw" = some m.cls := by rw [show (s.setVm T515.vm).vm = T515.vm from rfl, hSq515.1.alike.findClass]; exact hownS0
            have hk515 : T515.heap.size ≤ T515.heap.size := Nat.le_refl _
            have Zs621 : n0 ≤ T515.heap.size := (Nat.le_trans Zs401 hq611.1)
            have sz622 : h0.size ≤ x609 := Nat.le_trans K396.1 hpq613
            have E623 := E554.keep hq611
            have ne625 : x136 ≠ x291 := Nat.ne_of_lt (Nat.lt_of_lt_of_le E237.lt hpq304)
            have F624 := (((F244.keep hq300 (ninS (Ne.symm ne585) (ninS hpq180 (ninS hpq183 nin0)))).ext E391).keep hq399 (ninS ne586 nin0)).keep hq611 (ninS (Ne.symm ne585) (ninS hpq180 (ninS hpq183 (ninS ne625 nin0))))
            have E626 := E555.keep hq611
            have F627 := F564.keep hq611 (ninS (Ne.symm ne589) (ninS (Ne.symm ne596) (ninS (Ne.symm ne602) (ninS hpq324 nin0))))
            have pre628 := fun (t : State) (k : Steps p.tables e below (T515.setTop (mkF m 117 #[.val (.int p0), .val (.int p1), .val (.int p2), .val (.int p3), .val (.ref b62), .val (.int 2), .val (.int 1), .val (.int 1), .val (.int (own_irem ((1 : Int32) + (1 : Int32)) (2 : Int32))), .unset, .unset, .unset] [])) t) => pre402 t (by
              refine st515.trans ?_
              refine XS.pop XS515.here hx rfl (hb hby at_112) rfl rfl ?_
              refine XS.iload XS515.here hx rfl (hb hby at_113) rfl ?_
              refine XS.istore XS515.here hx rfl (hb hby at_115) rfl (l' := #[.val (.int p0), .val (.int p1), .val (.int p2), .val (.int p3), .val (.ref b62), .val (.int 2), .val (.int 1), .val (.int 1), .val (.int (own_irem ((1 : Int32) + (1 : Int32)) (2 : Int32))), .unset, .unset, .unset]) rfl ?_
              exact k)
            have E629 := E516.keep hq611
            have E630 := E532.keep hq611
            have ne632 : x142 ≠ x291 := Nat.ne_of_lt (Nat.lt_of_lt_of_le E221.lt hpq304)
            have F631 := F533.keep hq611 (ninS (Ne.symm ne284) (ninS hpq185 (ninS hpq188 (ninS ne632 nin0))))
            have F633 := F535.keep hq611 (ninS (Ne.symm ne284) (ninS hpq185 (ninS hpq188 (ninS ne632 nin0))))
            have E634 := E536.keep hq611
            obtain ⟨s2, o2, hs2, hr2⟩ := rst b62 x76 x142 x143 x609 x610 ((((0 : Int32) ||| ((1 : Int32) <<< ((0 : Int32) &&& 31))) ||| ((1 : Int32) <<< (((((1 : Int32).toUInt32 >>> ((0 : Int32) &&& 31).toUInt32).toInt32) &&& (31 : Int32)) &&& 31))) &&& (((1 : Int32) <<< (((((1 : Int32).toUInt32 >>> ((0 : Int32) &&& 31).toUInt32).toInt32) &&& (31 : Int32)) &&& 31)) ^^^ (-1 : Int32))) ((((0 : Int32) + (1 : Int32)) + (1 : Int32)) - (1 : Int32)) ((([] ++ [(Value.ref x136)]) ++ [(Value.ref x290)]).eraseIdx 1) (2 : Int32) (1 : Int32) (.val (.int 1)) (.val (.int (own_irem ((1 : Int32) + (1 : Int32)) (2 : Int32)))) 43 256 (by decide) (by decide) T515 T515.heap T515.vm T515.heap.size _ N515 XS515 hZ515 ho515 hS515 hk515 rfl K515 Zs621 E629 F614 F615 E630 F631 F633 E634 F617 F618 A620 (own_Nds_er (own_Nds_app (own_Nds_app own_Nds_nil E623 F624) E626 F627)) (own_T_2_1 (w0 := x136) (by decide) (by decide) rfl) (Or.inr ⟨_, rfl⟩) (Or.inr ⟨_, rfl⟩)
            exact ⟨s2, o2, pre628 _ hs2, hr2⟩
      · have E636 := E279.keep hq300
        have S637 := own_sta_keep S280 hq300 (allS (own_ns_exa E279) (allS (own_ns_exa E224) (allS (own_ns_exa E232) all0)))
        have S638 := own_sta_keep S281 hq300 (allS (own_ns_exa E279) (allS (own_ns_exa E224) (allS (own_ns_exa E232) all0)))
        have E639 := E221.keep hq300
        have F640 := F222.keep hq300 (ninS (Ne.symm ne284) (ninS hpq185 (ninS hpq188 nin0)))
        have F641 := F223.keep hq300 (ninS (Ne.symm ne284) (ninS hpq185 (ninS hpq188 nin0)))
        have E642 := E224.keep hq300
        have E643 := E229.keep hq300
        have F644 := F230.keep hq300 (ninS (Ne.symm ne287) (ninS (Ne.symm hpq191) (ninS hpq197 nin0)))
        have F645 := F231.keep hq300 (ninS (Ne.symm ne287) (ninS (Ne.symm hpq191) (ninS hpq197 nin0)))
        have E646 := E232.keep hq300
        have E647 := E237.keep hq300
        have E648 := E282.keep hq300
        have S649 := own_sta_keep S283 hq300 (allS (own_ns_exa E279) (allS (own_ns_exa E224) (allS (own_ns_exa E232) all0)))
        have ne650 : b62 ≠ x296 := Nat.ne_of_lt (Nat.lt_of_lt_of_le E279.lt hpq314)
        have ne651 : b62 ≠ x298 := Nat.ne_of_lt (Nat.lt_of_lt_of_le E279.lt hpq316)
        have ne652 : x142 ≠ x296 := Nat.ne_of_lt (Nat.lt_of_lt_of_le E221.lt hpq314)
        have ne653 : x142 ≠ x298 := Nat.ne_of_lt (Nat.lt_of_lt_of_le E221.lt hpq316)
        have ne654 : x143 ≠ x296 := Nat.ne_of_lt (Nat.lt_of_lt_of_le E224.lt hpq314)
        have ne655 : x143 ≠ x298 := Nat.ne_of_lt (Nat.lt_of_lt_of_le E224.lt hpq316)
        have ne656 : x146 ≠ x296 := Nat.ne_of_lt (Nat.lt_of_lt_of_le E229.lt hpq314)
        have ne657 : x147 ≠ x296 := Nat.ne_of_lt (Nat.lt_of_lt_of_le E232.lt hpq314)
        have ne658 : x146 ≠ x298 := Nat.ne_of_lt (Nat.lt_of_lt_of_le E229.lt hpq316)
        have ne659 : x147 ≠ x298 := Nat.ne_of_lt (Nat.lt_of_lt_of_le E232.lt hpq316)
        obtain ⟨cq635, kq635, q635a, q635b, q635c⟩ := isOf hZS0 rfl E636
        obtain ⟨_, T635, Lc635, X635, hQ635, st635⟩ := own_rt X278 (X278.virtualBack hx (y := yn_23) (z := yn_23) hownS0 (mvT hZS0 (ow 86 rfl)) (mvT hZS0 (ow 87 rfl)) (notFace_of_selects (args := #[]) (mvT hZS0 (ow 89 rfl))) (mvT hZS0 (ow 89 rfl)) (mvT hZS0 (ow 88 rfl)) (by decide) (backOf (W := 0) (rm_adG l Z a0 hw [] b62 x76 em ae bt no kno x142 x143 x296 x297 (((0 : Int32) ||| ((1 : Int32) <<< ((0 : Int32) &&& 31))) ||| ((1 : Int32) <<< (((((1 : Int32).toUInt32 >>> ((0 : Int32) &&& 31).toUInt32).toInt32) &&& (31 : Int32)) &&& 31))) (((0 : Int32) + (1 : Int32)) + (1 : Int32)) (([] ++ [(.ref x136)]) ++ [(.ref x290)]) x146 x147 x298 x299 (((0 : Int32) ||| ((1 : Int32) <<< ((0 : Int32) &&& 31))) ||| ((1 : Int32) <<< (((((1 : Int32).toUInt32 >>> ((0 : Int32) &&& 31).toUInt32).toInt32) &&& (31 : Int32)) &&& 31))) (((0 : Int32) + (1 : Int32)) + (1 : Int32)) (([] ++ [(.ref bt)]) ++ [(.ref bt)]) ((1 : Int32) + (1 : Int32)) T278.heap n0 Zs364 E636 F327 F328 F329 F330 F331 F332 S637 S638 E639 F640 F641 E642 F333 F334 F335 A336 E643 F644 F645 E646 F337 F338 F339 A340 (own_Ins_app (own_Ins_app own_Ins_nil ⟨(Ins.of_exa E647 (ow 184 rfl)), trivial⟩) ⟨(Ins.of_exa E341 (ow 184 rfl)), trivial⟩) (own_Ins_app (own_Ins_app own_Ins_nil ⟨(Ins.of_exa E648 (ow 206 rfl)), trivial⟩) ⟨(Ins.of_exa E648 (ow 206 rfl)), trivial⟩) E648 S649 ge_b62 hpq165 hpq171 ne284 ne285 ne650 ne287 ne288 ne651 hpq185 ne652 hpq187 hpq188 ne653 ne654 hpq191 hpq192 ne655 (Ne.symm ne656) (Ne.symm ne657) hpq323 hpq197 ne658 ne659 (by decide) (by decide) (by decide) (by decide) ⟨rfl, (Nat.le_of_ble_eq_true rfl)⟩ (Nat.le_of_ble_eq_true rfl) (by decide) (by decide) ⟨rfl, (Nat.le_of_ble_eq_true rfl)⟩ (Nat.le_of_ble_eq_true rfl)) hZS0 (ow 90 rfl) (ow 2 rfl) (by decide) (by decide)) q635a q635c (g := (mkF m 45 #[.val (.int p0), .val (.int p1), .val (.int p2), .val (.int p3), .val (.ref b62), .val (.int 3), .unset, .unset, .unset, .unset, .unset, .unset] [(.ref b62)])) rfl (by rw [hml]; rfl) (Steps.refl _) (argsL := []) (rest := []) (lenOf pd_29 rfl) rfl (Nat.le_of_eq rfl) (hb hby at_45) (fun _ _ => ⟨rfl, rfl, (by decide : 29 + 10 ≤ _), (by decide : 178 + 64 ≤ _)⟩))
        obtain ⟨x660, x661, x662, x663, x664, x665, x666, x667, x668, x669, rfl, N635q, hq670, hpq671, hpq672, hpq673, hpq674, hpq675, hpq676, hpq677, hpq678, hpq679, hpq680, hpq681, hpq682, hpq683, hpq684, hpq685, hpq686, hpq687, hpq688, hpq689, hpq690, hpq691, hpq692, hpq693, hpq694, hpq695, hpq696, F697, F698, F699, F700, F701, F702, F703, F704, F705, A706, F707, F708, F709, A710, E711, F712, F713, F714, F715, F716, F717, F718, E719, F720, F721, F722, F723, E724, F725, F726, E727, F728, E729, F730, E731, F732⟩ := hQ635
        have N635 := Fr.app N278 N635q
        have K635 : Keep h0 T635.heap [] := K278.trans hq670 (allS (Or.inr sz_b62) (allS (Or.inr sz268) (allS (Or.inr sz271) all0)))
        have hkk733 : h0.size ≤ T635.heap.size := (Nat.le_trans hkk363 hq670.1)
        have Zs734 : n0 ≤ T635.heap.size := (Nat.le_trans Zs364 hq670.1)
        have sz735 : h0.size ≤ x660 := Nat.le_trans K278.1 hpq672
        have sz736 : h0.size ≤ x661 := Nat.le_trans K278.1 hpq674
        have sz737 : h0.size ≤ x662 := Nat.le_trans K278.1 hpq676
        have sz738 : h0.size ≤ x663 := Nat.le_trans K278.1 hpq678
        have sz739 : h0.size ≤ x664 := Nat.le_trans K278.1 hpq680
        have sz740 : h0.size ≤ x665 := Nat.le_trans K278.1 hpq682
        have sz741 : h0.size ≤ x666 := Nat.le_trans K278.1 hpq684
        have sz742 : h0.size ≤ x668 := Nat.le_trans K278.1 hpq686
        have E744 := E636.keep hq670
        obtain ⟨cq743, kq743, q743a, q743b, q743c⟩ := isOf hZS0 rfl E744
        obtain ⟨_, T743, Lc743, X743, hQ743, st743⟩ := own_rt X635 (X635.virtualBack hx (y := yn_46) (z := yn_46) hownS0 (mvT hZS0 (ow 67 rfl)) (mvT hZS0 (ow 68 rfl)) (notFace_of_selects (args := #[]) (mvT hZS0 (ow 70 rfl))) (mvT hZS0 (ow 70 rfl)) (mvT hZS0 (ow 69 rfl)) (by decide) (backOf (W := 0) (rm_gsz l Z a0 hw [] b62 (((1 : Int32) + (1 : Int32)) + (1 : Int32)) T635.heap n0 Zs734 F702) hZS0 (ow 71 rfl) (ow 2 rfl) (by decide) (by decide)) q743a q743c (g := (mkF m 51 #[.val (.int p0), .val (.int p1), .val (.int p2), .val (.int p3), .val (.ref b62), .val (.int 3), .unset, .unset, .unset, .unset, .unset, .unset] [(.ref b62)])) rfl (by rw [hml]; rfl) (Steps.refl _) (argsL := []) (rest := []) (lenOf pd_29 rfl) rfl (Nat.le_of_eq rfl) (hb hby at_51) (fun _ _ => ⟨rfl, rfl, (by decide : 39 + 0 ≤ _), (by decide : 242 + 0 ≤ _)⟩))
        obtain ⟨rfl, N743q, hq745⟩ := hQ743
        have N743 := Fr.app N635 N743q
        have pre746 := fun (t : State) (k : Steps p.tables e below (T743.setTop (mkF m 73 #[.val (.int p0), .val (.int p1), .val (.int p2), .val (.int p3), .val (.ref b62), .val (.int 3), .val (.int (-1)), .unset, .unset, .unset, .unset, .unset] [(.int (p2 &&& (1 : Int32)))])) t) => pre373 t (by
          refine XS.iload X278.here hx rfl (hb hby at_37) rfl ?_
          refine XS.iconst X278.here hx rfl (hb hby at_39) ?_
          refine XS.icmpNo X278.here hx rfl (hb hby at_40) rfl (tlt (by decide : (2 : Int32) < (3 : Int32))).2.2.2 ?_
          refine XS.aload X278.here hx rfl (hb hby at_43) rfl rfl ?_
          refine st635.trans ?_
          refine XS.pop X635.here hx rfl (hb hby at_48) rfl rfl ?_
          refine XS.aload X635.here hx rfl (hb hby at_49) rfl rfl ?_
          refine st743.trans ?_
          refine XS.iload X743.here hx rfl (hb hby at_54) rfl ?_
          refine XS.icmpYes X743.here hx rfl (pc0 := 56) (pc' := 61) rfl (hb hby at_56) rfl (teq (by decide : (((1 : Int32) + (1 : Int32)) + (1 : Int32)) = (3 : Int32))).1 (by decide) (by decide) ?_
          refine XS.iconst X743.here hx rfl (hb hby at_61) ?_
          refine XS.istore X743.here hx rfl (hb hby at_62) rfl (l' := #[.val (.int p0), .val (.int p1), .val (.int p2), .val (.int p3), .val (.ref b62), .val (.int 3), .val (.int (-1)), .unset, .unset, .unset, .unset, .unset]) rfl ?_
          refine XS.iload X743.here hx rfl (hb hby at_64) rfl ?_
          refine XS.iconst X743.here hx rfl (hb hby at_66) ?_
          refine XS.icmpNo X743.here hx rfl (hb hby at_67) rfl (flt (by decide : ¬ ((3 : Int32) < (2 : Int32)))).1 ?_
          refine XS.iloadN X743.here hx rfl (hb hby at_70) rfl ?_
          refine XS.iconst X743.here hx rfl (hb hby at_71) ?_
          refine XS.iand X743.here hx rfl (hb hby at_72) rfl ?_
          exact k)
        by_cases hc747 : (p2 &&& (1 : Int32)) = (0 : Int32)
        · have ne748 : x136 ≠ x290 := Nat.ne_of_lt (Nat.lt_of_lt_of_le E237.lt hpq302)
          have ne749 : x136 ≠ x660 := Nat.ne_of_lt (Nat.lt_of_lt_of_le E647.lt hpq672)
          have ne750 : x290 ≠ x660 := Nat.ne_of_lt (Nat.lt_of_lt_of_le E341.lt hpq672)
          have E751 := E647.keep hq670
          have ne753 : b62 ≠ x136 := Nat.ne_of_lt (Nat.lt_of_lt_of_le F80.lt hpq152)
          have F752 := (F244.keep hq300 (ninS (Ne.symm ne753) (ninS hpq180 (ninS hpq183 nin0)))).keep hq670 (ninS (Ne.symm ne753) (ninS hpq180 (ninS hpq183 nin0)))
          have E754 := E341.keep hq670
          have ne756 : b62 ≠ x290 := Nat.ne_of_lt (Nat.lt_of_lt_of_le E279.lt hpq302)
          have ne757 : x143 ≠ x290 := Nat.ne_of_lt (Nat.lt_of_lt_of_le E224.lt hpq302)
          have ne758 : x147 ≠ x290 := Nat.ne_of_lt (Nat.lt_of_lt_of_le E232.lt hpq302)
          have F755 := F348.keep hq670 (ninS (Ne.symm ne756) (ninS (Ne.symm ne757) (ninS (Ne.symm ne758) nin0)))
          have pre759 := fun (t : State) (k : Steps p.tables e below (T743.setTop (mkF m 117 #[.val (.int p0), .val (.int p1), .val (.int p2), .val (.int p3), .val (.ref b62), .val (.int 3), .val (.int (-1)), .unset, .unset, .unset, .unset, .unset] [])) t) => pre746 t (by
            refine XS.ifYes X743.here hx rfl (pc0 := 73) (pc' := 117) rfl (hb hby at_73) rfl ((if0 _ _).trans (teq hc747).1) (by decide) (by decide) ?_
            exact k)
          have E760 := E639.keep hq670
          have F761 := F640.keep hq670 (ninS (Ne.symm ne284) (ninS hpq185 (ninS hpq188 nin0)))
          have F762 := F641.keep hq670 (ninS (Ne.symm ne284) (ninS hpq185 (ninS hpq188 nin0)))
          have E763 := E642.keep hq670
          obtain ⟨s2, o2, hs2, hr2⟩ := rst b62 x76 x142 x143 x666 x667 ((((0 : Int32) ||| ((1 : Int32) <<< ((0 : Int32) &&& 31))) ||| ((1 : Int32) <<< (((((1 : Int32).toUInt32 >>> ((0 : Int32) &&& 31).toUInt32).toInt32) &&& (31 : Int32)) &&& 31))) ||| ((1 : Int32) <<< ((((((1 : Int32) + (1 : Int32)).toUInt32 >>> ((0 : Int32) &&& 31).toUInt32).toInt32) &&& (31 : Int32)) &&& 31))) ((((0 : Int32) + (1 : Int32)) + (1 : Int32)) + (1 : Int32)) ((([] ++ [(.ref x136)]) ++ [(.ref x290)]) ++ [(.ref x660)]) (3 : Int32) (-1 : Int32) (.unset) (.unset) 39 242 (by decide) (by decide) T743 T635.heap s.vm h0.size _ N743 X743 hZS0 hownS0 hSS0 hkk733 hq745 K635 Zs734 E744 F697 F701 E760 F761 F762 E763 F703 F704 A706 (own_Nds_app (own_Nds_app (own_Nds_app own_Nds_nil E751 F752) E754 F755) E711 F718) (own_T_3_x (w0 := x136) (w1 := x290) (w2 := x660) (by decide) (by decide) rfl ne748 ne749 ne750) (Or.inl rfl) (Or.inl rfl)
          exact ⟨s2, o2, pre759 _ hs2, hr2⟩
        · have pre764 := fun (t : State) (k : Steps p.tables e below (T743.setTop (mkF m 87 #[.val (.int p0), .val (.int p1), .val (.int p2), .val (.int p3), .val (.ref b62), .val (.int 3), .val (.int (-1)), .val (.int (own_irem (((p2.toUInt32 >>> ((1 : Int32) &&& 31).toUInt32).toInt32) &&& (2147483647 : Int32)) (3 : Int32))), .unset, .unset, .unset, .unset] [])) t) => pre746 t (by
            refine XS.ifNo X743.here hx rfl (hb hby at_73) rfl ((if0 _ _).trans (feq hc747).1) ?_
            refine XS.iloadN X743.here hx rfl (hb hby at_76) rfl ?_
            refine XS.iconst X743.here hx rfl (hb hby at_77) ?_
            refine XS.iushr X743.here hx rfl (hb hby at_78) rfl ?_
            refine X743.ldcInt hx hownS0 (mvT hZS0 (ow 221 rfl)) (g := (mkF m 79 #[.val (.int p0), .val (.int p1), .val (.int p2), .val (.int p3), .val (.ref b62), .val (.int 3), .val (.int (-1)), .unset, .unset, .unset, .unset, .unset] [(.int ((p2.toUInt32 >>> ((1 : Int32) &&& 31).toUInt32).toInt32))])) rfl (hb hby at_79) _ ?_
            refine XS.iand X743.here hx rfl (hb hby at_81) rfl ?_
            refine XS.iload X743.here hx rfl (hb hby at_82) rfl ?_
            refine XS.irem X743.here hx rfl (hb hby at_84) rfl (by decide) ?_
            refine XS.istore X743.here hx rfl (hb hby at_85) rfl (l' := #[.val (.int p0), .val (.int p1), .val (.int p2), .val (.int p3), .val (.ref b62), .val (.int 3), .val (.int (-1)), .val (.int (own_irem (((p2.toUInt32 >>> ((1 : Int32) &&& 31).toUInt32).toInt32) &&& (2147483647 : Int32)) (3 : Int32))), .unset, .unset, .unset, .unset]) rfl ?_
            exact k)
          obtain ⟨u765, h_u765⟩ : ∃ z : Int32, z = (own_irem (((p2.toUInt32 >>> ((1 : Int32) &&& 31).toUInt32).toInt32) &&& (2147483647 : Int32)) (3 : Int32)) := ⟨_, rfl⟩
          have pre766 := fun (t : State) (k : Steps p.tables e below (T743.setTop (mkF m 87 #[.val (.int p0), .val (.int p1), .val (.int p2), .val (.int p3), .val (.ref b62), .val (.int 3), .val (.int (-1)), .val (.int u765), .unset, .unset, .unset, .unset] [])) t) => pre764 t (by rw [← h_u765]; exact k)
          obtain ⟨T767, h767, X767, e767, E767, A767, D767, -, st767⟩ := newO X743 hx hZS0 hownS0 (ow 222 rfl) (ow 223 rfl) (ow 224 rfl) hq745 (g := (mkF m 102 #[.val (.int p0), .val (.int p1), .val (.int p2), .val (.int p3), .val (.ref b62), .val (.int 3), .val (.int (-1)), .val (.int u765), .val (.int (own_irem (u765 + (1 : Int32)) (3 : Int32))), .unset, .unset, .unset] [(.int (own_irem (u765 + (1 : Int32)) (3 : Int32))), (.int u765), (.ref b62)])) rfl (hb hby at_102) (by decide) (by decide)
          obtain ⟨b767, g767⟩ : ∃ z, z = T635.heap.size := ⟨_, rfl⟩
          have ge_b767 : n0 ≤ b767 := Nat.le_trans Zs734 (Nat.le_of_eq g767.symm)
          have sz_b767 : h0.size ≤ b767 := Nat.le_trans K635.1 (Nat.le_of_eq g767.symm)
          rw [← g767] at A767 D767 st767
          have K767 : Keep h0 h767 [] := K635.ext E767
          have hkk768 : h0.size ≤ h767.size := (Nat.le_trans hkk733 E767.1)
          have Zs769 : n0 ≤ h767.size := (Nat.le_trans Zs734 E767.1)
          have F770 : f_52 Z h767 b767 .null := D767 (Or.inl (ow 232 rfl)) (ty := (.array .int)) (by decide)
          have F771 : f_53 Z h767 b767 .null := D767 (Or.inl (ow 236 rfl)) (ty := (.array .long)) (by decide)
          have S773 := (own_sta_keep (own_sta_keep (own_sta_keep (own_sta_keep (H9_S.ext E62) hq77 (allS (own_ns_exa A62) all0)) hq150 (allS (own_ns_exa E124) all0)) hq300 (allS (own_ns_exa E279) (allS (own_ns_exa E224) (allS (own_ns_exa E232) all0)))) hq670 (allS (own_ns_exa E636) (allS (own_ns_exa E642) (allS (own_ns_exa E646) all0)))).ext E767
          have S774 := (own_sta_keep (own_sta_keep (own_sta_keep (own_sta_keep (H10_S.ext E62) hq77 (allS (own_ns_exa A62) all0)) hq150 (allS (own_ns_exa E124) all0)) hq300 (allS (own_ns_exa E279) (allS (own_ns_exa E224) (allS (own_ns_exa E232) all0)))) hq670 (allS (own_ns_exa E636) (allS (own_ns_exa E642) (allS (own_ns_exa E646) all0)))).ext E767
          obtain ⟨_, T772, Lc772, X772, hQ772, st772⟩ := own_rt X767 (X767.specialBack hx (y := yn_45) rfl hownS0 (mvT hZS0 (ow 225 rfl)) (mvT hZS0 (ow 226 rfl)) (mvT hZS0 (ow 227 rfl)) (by decide) (backOf (W := 4) (rm_dpI l Z a0 hw [] b767 nk nw h767 n0 Zs769 A767 S773 S774 F770 F771 ge_b767) hZS0 (ow 227 rfl) (ow 224 rfl) (by decide) (by decide)) (g := (mkF m 106 #[.val (.int p0), .val (.int p1), .val (.int p2), .val (.int p3), .val (.ref b62), .val (.int 3), .val (.int (-1)), .val (.int u765), .val (.int (own_irem (u765 + (1 : Int32)) (3 : Int32))), .unset, .unset, .unset] [(.ref b767), (.ref b767), (.int (own_irem (u765 + (1 : Int32)) (3 : Int32))), (.int u765), (.ref b62)])) rfl (by rw [hml]; rfl) (Steps.refl _) (a := b767) (argsL := []) (rest := [(.ref b767), (.int (own_irem (u765 + (1 : Int32)) (3 : Int32))), (.int u765), (.ref b62)]) (lenOf pd_0 rfl) rfl (Nat.le_of_eq rfl) (hb hby at_106) (fun _ _ => ⟨rfl, e767, (by decide : 40 + 0 ≤ _), (by decide : 246 + 0 ≤ _)⟩))
          obtain ⟨rfl, N772q, hq775⟩ := hQ772
          have N772 := Fr.app N743 N772q
          have K772 : Keep h0 T772.heap [] := K767.trans hq775 (allS (Or.inr sz_b767) all0)
          have hkk776 : h0.size ≤ T772.heap.size := (Nat.le_trans hkk768 hq775.1)
          have Zs777 : n0 ≤ T772.heap.size := (Nat.le_trans Zs769 hq775.1)
          have hc7 : u765 = 0 ∨ u765 = 1 ∨ u765 = 2 := by rw [h_u765]; exact own_rem3 _
          have pre778 := fun (t : State) (k : Steps p.tables e below (T772.setTop (mkF m 109 #[.val (.int p0), .val (.int p1), .val (.int p2), .val (.int p3), .val (.ref b62), .val (.int 3), .val (.int (-1)), .val (.int u765), .val (.int (own_irem (u765 + (1 : Int32)) (3 : Int32))), .unset, .unset, .unset] [(.ref b767), (.int (own_irem (u765 + (1 : Int32)) (3 : Int32))), (.int u765), (.ref b62)])) t) => pre766 t (by
            refine XS.iload X743.here hx rfl (hb hby at_87) rfl ?_
            refine XS.iconst X743.here hx rfl (hb hby at_89) ?_
            refine XS.iadd X743.here hx rfl (hb hby at_90) rfl ?_
            refine XS.iload X743.here hx rfl (hb hby at_91) rfl ?_
            refine XS.irem X743.here hx rfl (hb hby at_93) rfl (by decide) ?_
            refine XS.istore X743.here hx rfl (hb hby at_94) rfl (l' := #[.val (.int p0), .val (.int p1), .val (.int p2), .val (.int p3), .val (.ref b62), .val (.int 3), .val (.int (-1)), .val (.int u765), .val (.int (own_irem (u765 + (1 : Int32)) (3 : Int32))), .unset, .unset, .unset]) rfl ?_
            refine XS.aload X743.here hx rfl (hb hby at_96) rfl rfl ?_
            refine XS.iload X743.here hx rfl (hb hby at_98) rfl ?_
            refine XS.iload X743.here hx rfl (hb hby at_100) rfl ?_
            refine st767 _ ?_
            refine XS.dup X767.here hx rfl (hb hby at_105) rfl rfl ?_
            refine st772.trans ?_
            exact k)
          rcases hc7 with rfl | rfl | rfl
          · have E780 := (E744.ext E767).keep hq775
            have ne782 : b62 ≠ b767 := Nat.ne_of_lt (Nat.lt_of_lt_of_le E744.lt (Nat.le_of_eq g767.symm))
            have F781 := (F697.ext E767).keep hq775 (ninS ne782 nin0)
            have F783 := (F698.ext E767).keep hq775 (ninS ne782 nin0)
            have F784 := (F699.ext E767).keep hq775 (ninS ne782 nin0)
            have F785 := (F700.ext E767).keep hq775 (ninS ne782 nin0)
            have F786 := (F701.ext E767).keep hq775 (ninS ne782 nin0)
            have F787 := (F702.ext E767).keep hq775 (ninS ne782 nin0)
            have S788 := own_sta_keep ((own_sta_keep S637 hq670 (allS (own_ns_exa E636) (allS (own_ns_exa E642) (allS (own_ns_exa E646) all0)))).ext E767) hq775 (allS (own_ns_exa A767) all0)
            have S789 := own_sta_keep ((own_sta_keep S638 hq670 (allS (own_ns_exa E636) (allS (own_ns_exa E642) (allS (own_ns_exa E646) all0)))).ext E767) hq775 (allS (own_ns_exa A767) all0)
            have E790 := ((((E130.keep hq150).keep hq300).keep hq670).ext E767).keep hq775
            have ne792 : em ≠ x143 := Nat.ne_of_lt (Nat.lt_of_lt_of_le E130.lt hpq166)
            have ne793 : em ≠ x147 := Nat.ne_of_lt (Nat.lt_of_lt_of_le E130.lt hpq172)
            have ne794 : em ≠ b767 := Nat.ne_of_lt (Nat.lt_of_lt_of_le (((E130.keep hq150).keep hq300).keep hq670).lt (Nat.le_of_eq g767.symm))
            have F791 := ((((F131.keep hq150 (ninS ne132 nin0)).keep hq300 (ninS ne132 (ninS ne792 (ninS ne793 nin0)))).keep hq670 (ninS ne132 (ninS ne792 (ninS ne793 nin0)))).ext E767).keep hq775 (ninS ne794 nin0)
            have F795 := ((((F133.keep hq150 (ninS ne132 nin0)).keep hq300 (ninS ne132 (ninS ne792 (ninS ne793 nin0)))).keep hq670 (ninS ne132 (ninS ne792 (ninS ne793 nin0)))).ext E767).keep hq775 (ninS ne794 nin0)
            have E796 := ((E639.keep hq670).ext E767).keep hq775
            have ne798 : x142 ≠ b767 := Nat.ne_of_lt (Nat.lt_of_lt_of_le (E639.keep hq670).lt (Nat.le_of_eq g767.symm))
            have F797 := ((F640.keep hq670 (ninS (Ne.symm ne284) (ninS hpq185 (ninS hpq188 nin0)))).ext E767).keep hq775 (ninS ne798 nin0)
            have F799 := ((F641.keep hq670 (ninS (Ne.symm ne284) (ninS hpq185 (ninS hpq188 nin0)))).ext E767).keep hq775 (ninS ne798 nin0)
            have E800 := ((E642.keep hq670).ext E767).keep hq775
            have ne802 : x143 ≠ b767 := Nat.ne_of_lt (Nat.lt_of_lt_of_le F703.lt (Nat.le_of_eq g767.symm))
            have F801 := (F703.ext E767).keep hq775 (ninS ne802 nin0)
            have F803 := (F704.ext E767).keep hq775 (ninS ne802 nin0)
            have F804 := (F705.ext E767).keep hq775 (ninS ne802 nin0)
            have ne806 : x666 ≠ b767 := Nat.ne_of_lt (Nat.lt_of_lt_of_le A706.lt (Nat.le_of_eq g767.symm))
            have A805 := (A706.ext E767).keep hq775 (ninS ne806 nin0)
            have E807 := ((E643.keep hq670).ext E767).keep hq775
            have ne809 : x146 ≠ b767 := Nat.ne_of_lt (Nat.lt_of_lt_of_le (E643.keep hq670).lt (Nat.le_of_eq g767.symm))
            have F808 := ((F644.keep hq670 (ninS (Ne.symm ne287) (ninS (Ne.symm hpq191) (ninS hpq197 nin0)))).ext E767).keep hq775 (ninS ne809 nin0)
            have F810 := ((F645.keep hq670 (ninS (Ne.symm ne287) (ninS (Ne.symm hpq191) (ninS hpq197 nin0)))).ext E767).keep hq775 (ninS ne809 nin0)
            have E811 := ((E646.keep hq670).ext E767).keep hq775
            have ne813 : x147 ≠ b767 := Nat.ne_of_lt (Nat.lt_of_lt_of_le F707.lt (Nat.le_of_eq g767.symm))
            have F812 := (F707.ext E767).keep hq775 (ninS ne813 nin0)
            have F814 := (F708.ext E767).keep hq775 (ninS ne813 nin0)
            have F815 := (F709.ext E767).keep hq775 (ninS ne813 nin0)
            have ne817 : x668 ≠ b767 := Nat.ne_of_lt (Nat.lt_of_lt_of_le A710.lt (Nat.le_of_eq g767.symm))
            have A816 := (A710.ext E767).keep hq775 (ninS ne817 nin0)
            have E818 := ((E647.keep hq670).ext E767).keep hq775
            have E819 := ((E341.keep hq670).ext E767).keep hq775
            have E820 := (E711.ext E767).keep hq775
            have E821 := ((E648.keep hq670).ext E767).keep hq775
            have ne823 : b62 ≠ x136 := Nat.ne_of_lt (Nat.lt_of_lt_of_le F80.lt hpq152)
            have ne824 : x136 ≠ b767 := Nat.ne_of_lt (Nat.lt_of_lt_of_le (E647.keep hq670).lt (Nat.le_of_eq g767.symm))
            have F822 := (((F238.keep hq300 (ninS (Ne.symm ne823) (ninS hpq180 (ninS hpq183 nin0)))).keep hq670 (ninS (Ne.symm ne823) (ninS hpq180 (ninS hpq183 nin0)))).ext E767).keep hq775 (ninS ne824 nin0)
            have F825 := (((F239.keep hq300 (ninS (Ne.symm ne823) (ninS hpq180 (ninS hpq183 nin0)))).keep hq670 (ninS (Ne.symm ne823) (ninS hpq180 (ninS hpq183 nin0)))).ext E767).keep hq775 (ninS ne824 nin0)
            have F826 := (((F240.keep hq300 (ninS (Ne.symm ne823) (ninS hpq180 (ninS hpq183 nin0)))).keep hq670 (ninS (Ne.symm ne823) (ninS hpq180 (ninS hpq183 nin0)))).ext E767).keep hq775 (ninS ne824 nin0)
            have F827 := (((F241.keep hq300 (ninS (Ne.symm ne823) (ninS hpq180 (ninS hpq183 nin0)))).keep hq670 (ninS (Ne.symm ne823) (ninS hpq180 (ninS hpq183 nin0)))).ext E767).keep hq775 (ninS ne824 nin0)
            have F828 := (((F242.keep hq300 (ninS (Ne.symm ne823) (ninS hpq180 (ninS hpq183 nin0)))).keep hq670 (ninS (Ne.symm ne823) (ninS hpq180 (ninS hpq183 nin0)))).ext E767).keep hq775 (ninS ne824 nin0)
            have F829 := (((F243.keep hq300 (ninS (Ne.symm ne823) (ninS hpq180 (ninS hpq183 nin0)))).keep hq670 (ninS (Ne.symm ne823) (ninS hpq180 (ninS hpq183 nin0)))).ext E767).keep hq775 (ninS ne824 nin0)
            have F830 := (((F244.keep hq300 (ninS (Ne.symm ne823) (ninS hpq180 (ninS hpq183 nin0)))).keep hq670 (ninS (Ne.symm ne823) (ninS hpq180 (ninS hpq183 nin0)))).ext E767).keep hq775 (ninS ne824 nin0)
            have E831 := (((E245.keep hq300).keep hq670).ext E767).keep hq775
            have ne833 : b62 ≠ x137 := Nat.ne_of_lt (Nat.lt_of_lt_of_le F80.lt hpq154)
            have ne834 : x137 ≠ b767 := Nat.ne_of_lt (Nat.lt_of_lt_of_le ((E245.keep hq300).keep hq670).lt (Nat.le_of_eq g767.symm))
            have F832 := (((F246.keep hq300 (ninS (Ne.symm ne833) (ninS (Ne.symm hpq202) (ninS (Ne.symm hpq205) nin0)))).keep hq670 (ninS (Ne.symm ne833) (ninS (Ne.symm hpq202) (ninS (Ne.symm hpq205) nin0)))).ext E767).keep hq775 (ninS ne834 nin0)
            have F835 := (((F247.keep hq300 (ninS (Ne.symm ne833) (ninS (Ne.symm hpq202) (ninS (Ne.symm hpq205) nin0)))).keep hq670 (ninS (Ne.symm ne833) (ninS (Ne.symm hpq202) (ninS (Ne.symm hpq205) nin0)))).ext E767).keep hq775 (ninS ne834 nin0)
            have F836 := (((F248.keep hq300 (ninS (Ne.symm ne833) (ninS (Ne.symm hpq202) (ninS (Ne.symm hpq205) nin0)))).keep hq670 (ninS (Ne.symm ne833) (ninS (Ne.symm hpq202) (ninS (Ne.symm hpq205) nin0)))).ext E767).keep hq775 (ninS ne834 nin0)
            have F837 := (((F249.keep hq300 (ninS (Ne.symm ne833) (ninS (Ne.symm hpq202) (ninS (Ne.symm hpq205) nin0)))).keep hq670 (ninS (Ne.symm ne833) (ninS (Ne.symm hpq202) (ninS (Ne.symm hpq205) nin0)))).ext E767).keep hq775 (ninS ne834 nin0)
            have E838 := (((E250.keep hq300).keep hq670).ext E767).keep hq775
            have ne840 : b62 ≠ x138 := Nat.ne_of_lt (Nat.lt_of_lt_of_le F80.lt hpq156)
            have ne841 : x138 ≠ b767 := Nat.ne_of_lt (Nat.lt_of_lt_of_le ((E250.keep hq300).keep hq670).lt (Nat.le_of_eq g767.symm))
            have F839 := (((F251.keep hq300 (ninS (Ne.symm ne840) (ninS (Ne.symm hpq207) (ninS (Ne.symm hpq211) nin0)))).keep hq670 (ninS (Ne.symm ne840) (ninS (Ne.symm hpq207) (ninS (Ne.symm hpq211) nin0)))).ext E767).keep hq775 (ninS ne841 nin0)
            have F842 := (((F252.keep hq300 (ninS (Ne.symm ne840) (ninS (Ne.symm hpq207) (ninS (Ne.symm hpq211) nin0)))).keep hq670 (ninS (Ne.symm ne840) (ninS (Ne.symm hpq207) (ninS (Ne.symm hpq211) nin0)))).ext E767).keep hq775 (ninS ne841 nin0)
            have E843 := (((E253.keep hq300).keep hq670).ext E767).keep hq775
            have ne845 : b62 ≠ x139 := Nat.ne_of_lt (Nat.lt_of_lt_of_le F80.lt hpq158)
            have ne846 : x139 ≠ b767 := Nat.ne_of_lt (Nat.lt_of_lt_of_le ((E253.keep hq300).keep hq670).lt (Nat.le_of_eq g767.symm))
            have F844 := (((F254.keep hq300 (ninS (Ne.symm ne845) (ninS (Ne.symm hpq208) (ninS (Ne.symm hpq212) nin0)))).keep hq670 (ninS (Ne.symm ne845) (ninS (Ne.symm hpq208) (ninS (Ne.symm hpq212) nin0)))).ext E767).keep hq775 (ninS ne846 nin0)
            have E847 := (((E255.keep hq300).keep hq670).ext E767).keep hq775
            have ne849 : b62 ≠ x140 := Nat.ne_of_lt (Nat.lt_of_lt_of_le F80.lt hpq160)
            have ne850 : x140 ≠ b767 := Nat.ne_of_lt (Nat.lt_of_lt_of_le ((E255.keep hq300).keep hq670).lt (Nat.le_of_eq g767.symm))
            have F848 := (((F256.keep hq300 (ninS (Ne.symm ne849) (ninS (Ne.symm hpq209) (ninS (Ne.symm hpq213) nin0)))).keep hq670 (ninS (Ne.symm ne849) (ninS (Ne.symm hpq209) (ninS (Ne.symm hpq213) nin0)))).ext E767).keep hq775 (ninS ne850 nin0)
            have E851 := (((E257.keep hq300).keep hq670).ext E767).keep hq775
            have ne853 : b62 ≠ x141 := Nat.ne_of_lt (Nat.lt_of_lt_of_le F80.lt hpq162)
            have ne854 : x141 ≠ b767 := Nat.ne_of_lt (Nat.lt_of_lt_of_le ((E257.keep hq300).keep hq670).lt (Nat.le_of_eq g767.symm))
            have F852 := (((F258.keep hq300 (ninS (Ne.symm ne853) (ninS (Ne.symm hpq210) (ninS (Ne.symm hpq214) nin0)))).keep hq670 (ninS (Ne.symm ne853) (ninS (Ne.symm hpq210) (ninS (Ne.symm hpq214) nin0)))).ext E767).keep hq775 (ninS ne854 nin0)
            have ne856 : b62 ≠ x290 := Nat.ne_of_lt (Nat.lt_of_lt_of_le E279.lt hpq302)
            have ne857 : x143 ≠ x290 := Nat.ne_of_lt (Nat.lt_of_lt_of_le E224.lt hpq302)
            have ne858 : x147 ≠ x290 := Nat.ne_of_lt (Nat.lt_of_lt_of_le E232.lt hpq302)
            have ne859 : x290 ≠ b767 := Nat.ne_of_lt (Nat.lt_of_lt_of_le (E341.keep hq670).lt (Nat.le_of_eq g767.symm))
            have F855 := ((F347.keep hq670 (ninS (Ne.symm ne856) (ninS (Ne.symm ne857) (ninS (Ne.symm ne858) nin0)))).ext E767).keep hq775 (ninS ne859 nin0)
            have ne860 : b62 ≠ x666 := Nat.ne_of_lt (Nat.lt_of_lt_of_le E636.lt hpq684)
            have ne861 : b62 ≠ x668 := Nat.ne_of_lt (Nat.lt_of_lt_of_le E636.lt hpq686)
            have ne862 : x143 ≠ x666 := Nat.ne_of_lt (Nat.lt_of_lt_of_le E642.lt hpq684)
            have ne863 : x143 ≠ x668 := Nat.ne_of_lt (Nat.lt_of_lt_of_le E642.lt hpq686)
            have ne864 : x147 ≠ x668 := Nat.ne_of_lt (Nat.lt_of_lt_of_le E646.lt hpq686)
            have ne865 : em ≠ x137 := Nat.ne_of_lt (Nat.lt_of_lt_of_le E130.lt hpq154)
            obtain ⟨cq779, kq779, q779a, q779b, q779c⟩ := isOf hZS0 rfl E780
            obtain ⟨_, T779, Lc779, X779, hSq779, hgr779, hQ779, st779⟩ := own_rtS X772 (X772.virtualBackS hx (y := yn_55) (z := yn_55) hownS0 (mvT hZS0 (ow 237 rfl)) (mvT hZS0 (ow 238 rfl)) (notFace_of_selects (args := #[]) (mvT hZS0 (ow 240 rfl))) (mvT hZS0 (ow 240 rfl)) (mvT hZS0 (ow 239 rfl)) (by decide) (backOfS (W := 0) (rm_mrg l Z a0 hw [] b62 x76 em ae bt x142 x143 x666 x667 ((((0 : Int32) ||| ((1 : Int32) <<< ((0 : Int32) &&& 31))) ||| ((1 : Int32) <<< (((((1 : Int32).toUInt32 >>> ((0 : Int32) &&& 31).toUInt32).toInt32) &&& (31 : Int32)) &&& 31))) ||| ((1 : Int32) <<< ((((((1 : Int32) + (1 : Int32)).toUInt32 >>> ((0 : Int32) &&& 31).toUInt32).toInt32) &&& (31 : Int32)) &&& 31))) ((((0 : Int32) + (1 : Int32)) + (1 : Int32)) + (1 : Int32)) ((([] ++ [(.ref x136)]) ++ [(.ref x290)]) ++ [(.ref x660)]) x146 x147 x668 x669 ((((0 : Int32) ||| ((1 : Int32) <<< ((0 : Int32) &&& 31))) ||| ((1 : Int32) <<< (((((1 : Int32).toUInt32 >>> ((0 : Int32) &&& 31).toUInt32).toInt32) &&& (31 : Int32)) &&& 31))) ||| ((1 : Int32) <<< ((((((1 : Int32) + (1 : Int32)).toUInt32 >>> ((0 : Int32) &&& 31).toUInt32).toInt32) &&& (31 : Int32)) &&& 31))) ((((0 : Int32) + (1 : Int32)) + (1 : Int32)) + (1 : Int32)) ((([] ++ [(.ref bt)]) ++ [(.ref bt)]) ++ [(.ref bt)]) (((1 : Int32) + (1 : Int32)) + (1 : Int32)) (0 : Int32) (own_irem ((0 : Int32) + (1 : Int32)) (3 : Int32)) x136 x290 b767 x137 x138 x139 x140 x141 (0 : Int32) 0 (0 : Int32) 0 T772.heap n0 Zs777 E780 F781 F783 F784 F785 F786 F787 S788 S789 E790 F791 F795 E796 F797 F799 E800 F801 F803 F804 A805 E807 F808 F810 E811 F812 F814 F815 A816 (own_Ins_app (own_Ins_app (own_Ins_app own_Ins_nil ⟨(Ins.of_exa E818 (ow 184 rfl)), trivial⟩) ⟨(Ins.of_exa E819 (ow 184 rfl)), trivial⟩) ⟨(Ins.of_exa E820 (ow 184 rfl)), trivial⟩) (own_Ins_app (own_Ins_app (own_Ins_app own_Ins_nil ⟨(Ins.of_exa E821 (ow 206 rfl)), trivial⟩) ⟨(Ins.of_exa E821 (ow 206 rfl)), trivial⟩) ⟨(Ins.of_exa E821 (ow 206 rfl)), trivial⟩) E818 F822 F825 F826 F827 F828 F829 F830 E831 F832 F835 F836 F837 E838 F839 F842 E843 F844 E847 F848 E851 F852 E819 F855 ge_b62 hpq165 hpq171 hpq153 ne284 ne285 ne860 ne287 ne288 ne861 (Ne.symm ne132) ne823 ne833 ne845 ne849 ne853 (Ne.symm hpq185) ne862 hpq191 hpq192 ne863 (Ne.symm ne792) (Ne.symm hpq180) hpq202 hpq208 hpq209 hpq210 (Ne.symm hpq197) ne864 (Ne.symm ne793) (Ne.symm hpq183) hpq205 hpq212 hpq213 hpq214 (Ne.symm ne865) (Ne.symm hpq200) hpq176 hpq177 hpq178 (by decide) (by decide) ⟨rfl, (Nat.le_of_ble_eq_true rfl)⟩ (by decide) (Nat.le_of_ble_eq_true rfl) (own_ref_of (0 : Int32) (by decide) ⟨by decide, by decide, rfl⟩) (by decide) (by decide) (by decide) (by decide) (by decide) ⟨rfl, (Nat.le_of_ble_eq_true rfl)⟩ (by decide) (Nat.le_of_ble_eq_true rfl) (own_ref_of (0 : Int32) (by decide) ⟨by decide, by decide, rfl⟩) (by decide) (by decide) (by decide) (by decide) (own_ref_of (1 : Int32) (by decide) ⟨by decide, by decide, rfl⟩)) hZS0 (ow 241 rfl) (ow 2 rfl) (by decide) (by decide)) q779a q779c (g := (mkF m 109 #[.val (.int p0), .val (.int p1), .val (.int p2), .val (.int p3), .val (.ref b62), .val (.int 3), .val (.int (-1)), .val (.int 0), .val (.int (own_irem ((0 : Int32) + (1 : Int32)) (3 : Int32))), .unset, .unset, .unset] [(.ref b767), (.int (own_irem ((0 : Int32) + (1 : Int32)) (3 : Int32))), (.int 0), (.ref b62)])) rfl (by rw [hml]; rfl) (Steps.refl _) (argsL := [(.int 0), (.int (own_irem ((0 : Int32) + (1 : Int32)) (3 : Int32))), (.ref b767)]) (rest := []) (lenOf pd_30 rfl) rfl (Nat.le_of_eq rfl) (hb hby at_109) (fun _ _ => ⟨rfl, rfl, (by decide : 40 + 13 ≤ _), (by decide : 246 + 74 ≤ _)⟩))
            obtain ⟨x866, x867, x868, rfl, N779q, hq869, hpq870, hpq871, F872, F873, F874, F875, F876, F877, A878⟩ := hQ779
            have N779 := Fr.app N772 N779q
            have K779 : Keep h0 T779.heap [] := K772.trans hq869 (allS (Or.inr sz_b62) (allS (Or.inr sz268) (allS (Or.inr sz271) (allS (Or.inr sz262) all0))))
            have XS779 : Stand p l e room_1 (s.setVm T779.vm) m #[(.int p0), (.int p1), (.int p2), (.int p3)] below meth c T779 _ _ _ := X779
            have hS779 : s.Since T779.vm T779.heap.size := hSS0.trans hSq779 (Nat.le_trans hkk776 hgr779)
            have hZ779 : Z.Warmed39 (s.setVm T779.vm).vm := State.Warmed39.trans (t := s.setVm s.vm) hZS0 hSq779.1
            have ho779 : (s.setVm T779.vm).vm.findClass "org/tallyrole/core/GraphNodePinLaw" = some m.cls := by rw [show (s.setVm T779.vm).vm = T779.vm from rfl, hSq779.1.alike.findClass]; exact hownS0
            have hk779 : T779.heap.size ≤ T779.heap.size := Nat.le_refl _
            have Zs879 : n0 ≤ T779.heap.size := (Nat.le_trans Zs777 hq869.1)
            have sz880 : h0.size ≤ x867 := Nat.le_trans K772.1 hpq871
            have ne881 : x290 ≠ x660 := Nat.ne_of_lt (Nat.lt_of_lt_of_le E341.lt hpq672)
            have E882 := E818.keep hq869
            have F883 := F830.keep hq869 (ninS (Ne.symm ne823) (ninS hpq180 (ninS hpq183 (ninS hpq200 nin0))))
            have E884 := E819.keep hq869
            have ne886 : x137 ≠ x290 := Nat.ne_of_lt (Nat.lt_of_lt_of_le E245.lt hpq302)
            have F885 := (((F348.keep hq670 (ninS (Ne.symm ne856) (ninS (Ne.symm ne857) (ninS (Ne.symm ne858) nin0)))).ext E767).keep hq775 (ninS ne859 nin0)).keep hq869 (ninS (Ne.symm ne856) (ninS (Ne.symm ne857) (ninS (Ne.symm ne858) (ninS (Ne.symm ne886) nin0))))
            have E887 := E820.keep hq869
            have ne889 : x660 ≠ b767 := Nat.ne_of_lt (Nat.lt_of_lt_of_le E711.lt (Nat.le_of_eq g767.symm))
            have ne890 : b62 ≠ x660 := Nat.ne_of_lt (Nat.lt_of_lt_of_le E636.lt hpq672)
            have ne891 : x143 ≠ x660 := Nat.ne_of_lt (Nat.lt_of_lt_of_le E642.lt hpq672)
            have ne892 : x147 ≠ x660 := Nat.ne_of_lt (Nat.lt_of_lt_of_le E646.lt hpq672)
            have ne893 : x137 ≠ x660 := Nat.ne_of_lt (Nat.lt_of_lt_of_le (E245.keep hq300).lt hpq672)
            have F888 := ((F718.ext E767).keep hq775 (ninS ne889 nin0)).keep hq869 (ninS (Ne.symm ne890) (ninS (Ne.symm ne891) (ninS (Ne.symm ne892) (ninS (Ne.symm ne893) nin0))))
            have pre894 := fun (t : State) (k : Steps p.tables e below (T779.setTop (mkF m 117 #[.val (.int p0), .val (.int p1), .val (.int p2), .val (.int p3), .val (.ref b62), .val (.int 3), .val (.int 0), .val (.int 0), .val (.int (own_irem ((0 : Int32) + (1 : Int32)) (3 : Int32))), .unset, .unset, .unset] [])) t) => pre778 t (by
              refine st779.trans ?_
              refine XS.pop XS779.here hx rfl (hb hby at_112) rfl rfl ?_
              refine XS.iload XS779.here hx rfl (hb hby at_113) rfl ?_
              refine XS.istore XS779.here hx rfl (hb hby at_115) rfl (l' := #[.val (.int p0), .val (.int p1), .val (.int p2), .val (.int p3), .val (.ref b62), .val (.int 3), .val (.int 0), .val (.int 0), .val (.int (own_irem ((0 : Int32) + (1 : Int32)) (3 : Int32))), .unset, .unset, .unset]) rfl ?_
              exact k)
            have E895 := E780.keep hq869
            have E896 := E796.keep hq869
            have F897 := F797.keep hq869 (ninS (Ne.symm ne284) (ninS hpq185 (ninS hpq188 (ninS hpq201 nin0))))
            have F898 := F799.keep hq869 (ninS (Ne.symm ne284) (ninS hpq185 (ninS hpq188 (ninS hpq201 nin0))))
            have E899 := E800.keep hq869
            obtain ⟨s2, o2, hs2, hr2⟩ := rst b62 x76 x142 x143 x867 x868 (((((0 : Int32) ||| ((1 : Int32) <<< ((0 : Int32) &&& 31))) ||| ((1 : Int32) <<< (((((1 : Int32).toUInt32 >>> ((0 : Int32) &&& 31).toUInt32).toInt32) &&& (31 : Int32)) &&& 31))) ||| ((1 : Int32) <<< ((((((1 : Int32) + (1 : Int32)).toUInt32 >>> ((0 : Int32) &&& 31).toUInt32).toInt32) &&& (31 : Int32)) &&& 31))) &&& (((1 : Int32) <<< (((((0 : Int32).toUInt32 >>> ((0 : Int32) &&& 31).toUInt32).toInt32) &&& (31 : Int32)) &&& 31)) ^^^ (-1 : Int32))) (((((0 : Int32) + (1 : Int32)) + (1 : Int32)) + (1 : Int32)) - (1 : Int32)) (((([] ++ [(Value.ref x136)]) ++ [(Value.ref x290)]) ++ [(Value.ref x660)]).eraseIdx 0) (3 : Int32) (0 : Int32) (.val (.int 0)) (.val (.int (own_irem ((0 : Int32) + (1 : Int32)) (3 : Int32)))) 53 320 (by decide) (by decide) T779 T779.heap T779.vm T779.heap.size _ N779 XS779 hZ779 ho779 hS779 hk779 rfl K779 Zs879 E895 F872 F873 E896 F897 F898 E899 F875 F876 A878 (own_Nds_er (own_Nds_app (own_Nds_app (own_Nds_app own_Nds_nil E882 F883) E884 F885) E887 F888)) (own_T_3_0 (w1 := x290) (w2 := x660) (by decide) (by decide) rfl ne881) (Or.inr ⟨_, rfl⟩) (Or.inr ⟨_, rfl⟩)
            exact ⟨s2, o2, pre894 _ hs2, hr2⟩
          · have E901 := (E744.ext E767).keep hq775
            have ne903 : b62 ≠ b767 := Nat.ne_of_lt (Nat.lt_of_lt_of_le E744.lt (Nat.le_of_eq g767.symm))
            have F902 := (F697.ext E767).keep hq775 (ninS ne903 nin0)
            have F904 := (F698.ext E767).keep hq775 (ninS ne903 nin0)
            have F905 := (F699.ext E767).keep hq775 (ninS ne903 nin0)
            have F906 := (F700.ext E767).keep hq775 (ninS ne903 nin0)
            have F907 := (F701.ext E767).keep hq775 (ninS ne903 nin0)
            have F908 := (F702.ext E767).keep hq775 (ninS ne903 nin0)
            have S909 := own_sta_keep ((own_sta_keep S637 hq670 (allS (own_ns_exa E636) (allS (own_ns_exa E642) (allS (own_ns_exa E646) all0)))).ext E767) hq775 (allS (own_ns_exa A767) all0)
            have S910 := own_sta_keep ((own_sta_keep S638 hq670 (allS (own_ns_exa E636) (allS (own_ns_exa E642) (allS (own_ns_exa E646) all0)))).ext E767) hq775 (allS (own_ns_exa A767) all0)
            have E911 := ((((E130.keep hq150).keep hq300).keep hq670).ext E767).keep hq775
            have ne913 : em ≠ x143 := Nat.ne_of_lt (Nat.lt_of_lt_of_le E130.lt hpq166)
            have ne914 : em ≠ x147 := Nat.ne_of_lt (Nat.lt_of_lt_of_le E130.lt hpq172)
            have ne915 : em ≠ b767 := Nat.ne_of_lt (Nat.lt_of_lt_of_le (((E130.keep hq150).keep hq300).keep hq670).lt (Nat.le_of_eq g767.symm))
            have F912 := ((((F131.keep hq150 (ninS ne132 nin0)).keep hq300 (ninS ne132 (ninS ne913 (ninS ne914 nin0)))).keep hq670 (ninS ne132 (ninS ne913 (ninS ne914 nin0)))).ext E767).keep hq775 (ninS ne915 nin0)
            have F916 := ((((F133.keep hq150 (ninS ne132 nin0)).keep hq300 (ninS ne132 (ninS ne913 (ninS ne914 nin0)))).keep hq670 (ninS ne132 (ninS ne913 (ninS ne914 nin0)))).ext E767).keep hq775 (ninS ne915 nin0)
            have E917 := ((E639.keep hq670).ext E767).keep hq775
            have ne919 : x142 ≠ b767 := Nat.ne_of_lt (Nat.lt_of_lt_of_le (E639.keep hq670).lt (Nat.le_of_eq g767.symm))
            have F918 := ((F640.keep hq670 (ninS (Ne.symm ne284) (ninS hpq185 (ninS hpq188 nin0)))).ext E767).keep hq775 (ninS ne919 nin0)
            have F920 := ((F641.keep hq670 (ninS (Ne.symm ne284) (ninS hpq185 (ninS hpq188 nin0)))).ext E767).keep hq775 (ninS ne919 nin0)
            have E921 := ((E642.keep hq670).ext E767).keep hq775
            have ne923 : x143 ≠ b767 := Nat.ne_of_lt (Nat.lt_of_lt_of_le F703.lt (Nat.le_of_eq g767.symm))
            have F922 := (F703.ext E767).keep hq775 (ninS ne923 nin0)
            have F924 := (F704.ext E767).keep hq775 (ninS ne923 nin0)
            have F925 := (F705.ext E767).keep hq775 (ninS ne923 nin0)
            have ne927 : x666 ≠ b767 := Nat.ne_of_lt (Nat.lt_of_lt_of_le A706.lt (Nat.le_of_eq g767.symm))
            have A926 := (A706.ext E767).keep hq775 (ninS ne927 nin0)
            have E928 := ((E643.keep hq670).ext E767).keep hq775
            have ne930 : x146 ≠ b767 := Nat.ne_of_lt (Nat.lt_of_lt_of_le (E643.keep hq670).lt (Nat.le_of_eq g767.symm))
            have F929 := ((F644.keep hq670 (ninS (Ne.symm ne287) (ninS (Ne.symm hpq191) (ninS hpq197 nin0)))).ext E767).keep hq775 (ninS ne930 nin0)
            have F931 := ((F645.keep hq670 (ninS (Ne.symm ne287) (ninS (Ne.symm hpq191) (ninS hpq197 nin0)))).ext E767).keep hq775 (ninS ne930 nin0)
            have E932 := ((E646.keep hq670).ext E767).keep hq775
            have ne934 : x147 ≠ b767 := Nat.ne_of_lt (Nat.lt_of_lt_of_le F707.lt (Nat.le_of_eq g767.symm))
            have F933 := (F707.ext E767).keep hq775 (ninS ne934 nin0)
            have F935 := (F708.ext E767).keep hq775 (ninS ne934 nin0)
            have F936 := (F709.ext E767).keep hq775 (ninS ne934 nin0)
            have ne938 : x668 ≠ b767 := Nat.ne_of_lt (Nat.lt_of_lt_of_le A710.lt (Nat.le_of_eq g767.symm))
            have A937 := (A710.ext E767).keep hq775 (ninS ne938 nin0)
            have E939 := ((E647.keep hq670).ext E767).keep hq775
            have E940 := ((E341.keep hq670).ext E767).keep hq775
            have E941 := (E711.ext E767).keep hq775
            have E942 := ((E648.keep hq670).ext E767).keep hq775
            have ne944 : b62 ≠ x290 := Nat.ne_of_lt (Nat.lt_of_lt_of_le E279.lt hpq302)
            have ne945 : x143 ≠ x290 := Nat.ne_of_lt (Nat.lt_of_lt_of_le E224.lt hpq302)
            have ne946 : x147 ≠ x290 := Nat.ne_of_lt (Nat.lt_of_lt_of_le E232.lt hpq302)
            have ne947 : x290 ≠ b767 := Nat.ne_of_lt (Nat.lt_of_lt_of_le (E341.keep hq670).lt (Nat.le_of_eq g767.symm))
            have F943 := ((F342.keep hq670 (ninS (Ne.symm ne944) (ninS (Ne.symm ne945) (ninS (Ne.symm ne946) nin0)))).ext E767).keep hq775 (ninS ne947 nin0)
            have F948 := ((F343.keep hq670 (ninS (Ne.symm ne944) (ninS (Ne.symm ne945) (ninS (Ne.symm ne946) nin0)))).ext E767).keep hq775 (ninS ne947 nin0)
            have F949 := ((F344.keep hq670 (ninS (Ne.symm ne944) (ninS (Ne.symm ne945) (ninS (Ne.symm ne946) nin0)))).ext E767).keep hq775 (ninS ne947 nin0)
            have F950 := ((F345.keep hq670 (ninS (Ne.symm ne944) (ninS (Ne.symm ne945) (ninS (Ne.symm ne946) nin0)))).ext E767).keep hq775 (ninS ne947 nin0)
            have F951 := ((F346.keep hq670 (ninS (Ne.symm ne944) (ninS (Ne.symm ne945) (ninS (Ne.symm ne946) nin0)))).ext E767).keep hq775 (ninS ne947 nin0)
            have F952 := ((F347.keep hq670 (ninS (Ne.symm ne944) (ninS (Ne.symm ne945) (ninS (Ne.symm ne946) nin0)))).ext E767).keep hq775 (ninS ne947 nin0)
            have F953 := ((F348.keep hq670 (ninS (Ne.symm ne944) (ninS (Ne.symm ne945) (ninS (Ne.symm ne946) nin0)))).ext E767).keep hq775 (ninS ne947 nin0)
            have E954 := ((E349.keep hq670).ext E767).keep hq775
            have ne956 : b62 ≠ x291 := Nat.ne_of_lt (Nat.lt_of_lt_of_le E279.lt hpq304)
            have ne957 : x143 ≠ x291 := Nat.ne_of_lt (Nat.lt_of_lt_of_le E224.lt hpq304)
            have ne958 : x147 ≠ x291 := Nat.ne_of_lt (Nat.lt_of_lt_of_le E232.lt hpq304)
            have ne959 : x291 ≠ b767 := Nat.ne_of_lt (Nat.lt_of_lt_of_le (E349.keep hq670).lt (Nat.le_of_eq g767.symm))
            have F955 := ((F350.keep hq670 (ninS (Ne.symm ne956) (ninS (Ne.symm ne957) (ninS (Ne.symm ne958) nin0)))).ext E767).keep hq775 (ninS ne959 nin0)
            have F960 := ((F351.keep hq670 (ninS (Ne.symm ne956) (ninS (Ne.symm ne957) (ninS (Ne.symm ne958) nin0)))).ext E767).keep hq775 (ninS ne959 nin0)
            have F961 := ((F352.keep hq670 (ninS (Ne.symm ne956) (ninS (Ne.symm ne957) (ninS (Ne.symm ne958) nin0)))).ext E767).keep hq775 (ninS ne959 nin0)
            have F962 := ((F353.keep hq670 (ninS (Ne.symm ne956) (ninS (Ne.symm ne957) (ninS (Ne.symm ne958) nin0)))).ext E767).keep hq775 (ninS ne959 nin0)
            have E963 := ((E354.keep hq670).ext E767).keep hq775
            have ne965 : b62 ≠ x292 := Nat.ne_of_lt (Nat.lt_of_lt_of_le E279.lt hpq306)
            have ne966 : x143 ≠ x292 := Nat.ne_of_lt (Nat.lt_of_lt_of_le E224.lt hpq306)
            have ne967 : x147 ≠ x292 := Nat.ne_of_lt (Nat.lt_of_lt_of_le E232.lt hpq306)
            have ne968 : x292 ≠ b767 := Nat.ne_of_lt (Nat.lt_of_lt_of_le (E354.keep hq670).lt (Nat.le_of_eq g767.symm))
            have F964 := ((F355.keep hq670 (ninS (Ne.symm ne965) (ninS (Ne.symm ne966) (ninS (Ne.symm ne967) nin0)))).ext E767).keep hq775 (ninS ne968 nin0)
            have F969 := ((F356.keep hq670 (ninS (Ne.symm ne965) (ninS (Ne.symm ne966) (ninS (Ne.symm ne967) nin0)))).ext E767).keep hq775 (ninS ne968 nin0)
            have E970 := ((E357.keep hq670).ext E767).keep hq775
            have ne972 : b62 ≠ x293 := Nat.ne_of_lt (Nat.lt_of_lt_of_le E279.lt hpq308)
            have ne973 : x143 ≠ x293 := Nat.ne_of_lt (Nat.lt_of_lt_of_le E224.lt hpq308)
            have ne974 : x147 ≠ x293 := Nat.ne_of_lt (Nat.lt_of_lt_of_le E232.lt hpq308)
            have ne975 : x293 ≠ b767 := Nat.ne_of_lt (Nat.lt_of_lt_of_le (E357.keep hq670).lt (Nat.le_of_eq g767.symm))
            have F971 := ((F358.keep hq670 (ninS (Ne.symm ne972) (ninS (Ne.symm ne973) (ninS (Ne.symm ne974) nin0)))).ext E767).keep hq775 (ninS ne975 nin0)
            have E976 := ((E359.keep hq670).ext E767).keep hq775
            have ne978 : b62 ≠ x294 := Nat.ne_of_lt (Nat.lt_of_lt_of_le E279.lt hpq310)
            have ne979 : x143 ≠ x294 := Nat.ne_of_lt (Nat.lt_of_lt_of_le E224.lt hpq310)
            have ne980 : x147 ≠ x294 := Nat.ne_of_lt (Nat.lt_of_lt_of_le E232.lt hpq310)
            have ne981 : x294 ≠ b767 := Nat.ne_of_lt (Nat.lt_of_lt_of_le (E359.keep hq670).lt (Nat.le_of_eq g767.symm))
            have F977 := ((F360.keep hq670 (ninS (Ne.symm ne978) (ninS (Ne.symm ne979) (ninS (Ne.symm ne980) nin0)))).ext E767).keep hq775 (ninS ne981 nin0)
            have E982 := ((E361.keep hq670).ext E767).keep hq775
            have ne984 : b62 ≠ x295 := Nat.ne_of_lt (Nat.lt_of_lt_of_le E279.lt hpq312)
            have ne985 : x143 ≠ x295 := Nat.ne_of_lt (Nat.lt_of_lt_of_le E224.lt hpq312)
            have ne986 : x147 ≠ x295 := Nat.ne_of_lt (Nat.lt_of_lt_of_le E232.lt hpq312)
            have ne987 : x295 ≠ b767 := Nat.ne_of_lt (Nat.lt_of_lt_of_le (E361.keep hq670).lt (Nat.le_of_eq g767.symm))
            have F983 := ((F362.keep hq670 (ninS (Ne.symm ne984) (ninS (Ne.symm ne985) (ninS (Ne.symm ne986) nin0)))).ext E767).keep hq775 (ninS ne987 nin0)
            have ne989 : x660 ≠ b767 := Nat.ne_of_lt (Nat.lt_of_lt_of_le E711.lt (Nat.le_of_eq g767.symm))
            have F988 := (F717.ext E767).keep hq775 (ninS ne989 nin0)
            have ne990 : b62 ≠ x666 := Nat.ne_of_lt (Nat.lt_of_lt_of_le E636.lt hpq684)
            have ne991 : b62 ≠ x668 := Nat.ne_of_lt (Nat.lt_of_lt_of_le E636.lt hpq686)
            have ne992 : x143 ≠ x666 := Nat.ne_of_lt (Nat.lt_of_lt_of_le E642.lt hpq684)
            have ne993 : x143 ≠ x668 := Nat.ne_of_lt (Nat.lt_of_lt_of_le E642.lt hpq686)
            have ne994 : x147 ≠ x668 := Nat.ne_of_lt (Nat.lt_of_lt_of_le E646.lt hpq686)
            have ne995 : em ≠ x291 := Nat.ne_of_lt (Nat.lt_of_lt_of_le (E130.keep hq150).lt hpq304)
            obtain ⟨cq900, kq900, q900a, q900b, q900c⟩ := isOf hZS0 rfl E901
            obtain ⟨_, T900, Lc900, X900, hSq900, hgr900, hQ900, st900⟩ := own_rtS X772 (X772.virtualBackS hx (y := yn_55) (z := yn_55) hownS0 (mvT hZS0 (ow 237 rfl)) (mvT hZS0 (ow 238 rfl)) (notFace_of_selects (args := #[]) (mvT hZS0 (ow 240 rfl))) (mvT hZS0 (ow 240 rfl)) (mvT hZS0 (ow 239 rfl)) (by decide) (backOfS (W := 0) (rm_mrg l Z a0 hw [] b62 x76 em ae bt x142 x143 x666 x667 ((((0 : Int32) ||| ((1 : Int32) <<< ((0 : Int32) &&& 31))) ||| ((1 : Int32) <<< (((((1 : Int32).toUInt32 >>> ((0 : Int32) &&& 31).toUInt32).toInt32) &&& (31 : Int32)) &&& 31))) ||| ((1 : Int32) <<< ((((((1 : Int32) + (1 : Int32)).toUInt32 >>> ((0 : Int32) &&& 31).toUInt32).toInt32) &&& (31 : Int32)) &&& 31))) ((((0 : Int32) + (1 : Int32)) + (1 : Int32)) + (1 : Int32)) ((([] ++ [(.ref x136)]) ++ [(.ref x290)]) ++ [(.ref x660)]) x146 x147 x668 x669 ((((0 : Int32) ||| ((1 : Int32) <<< ((0 : Int32) &&& 31))) ||| ((1 : Int32) <<< (((((1 : Int32).toUInt32 >>> ((0 : Int32) &&& 31).toUInt32).toInt32) &&& (31 : Int32)) &&& 31))) ||| ((1 : Int32) <<< ((((((1 : Int32) + (1 : Int32)).toUInt32 >>> ((0 : Int32) &&& 31).toUInt32).toInt32) &&& (31 : Int32)) &&& 31))) ((((0 : Int32) + (1 : Int32)) + (1 : Int32)) + (1 : Int32)) ((([] ++ [(.ref bt)]) ++ [(.ref bt)]) ++ [(.ref bt)]) (((1 : Int32) + (1 : Int32)) + (1 : Int32)) (1 : Int32) (own_irem ((1 : Int32) + (1 : Int32)) (3 : Int32)) x290 x660 b767 x291 x292 x293 x294 x295 (1 : Int32) 1 (1 : Int32) 1 T772.heap n0 Zs777 E901 F902 F904 F905 F906 F907 F908 S909 S910 E911 F912 F916 E917 F918 F920 E921 F922 F924 F925 A926 E928 F929 F931 E932 F933 F935 F936 A937 (own_Ins_app (own_Ins_app (own_Ins_app own_Ins_nil ⟨(Ins.of_exa E939 (ow 184 rfl)), trivial⟩) ⟨(Ins.of_exa E940 (ow 184 rfl)), trivial⟩) ⟨(Ins.of_exa E941 (ow 184 rfl)), trivial⟩) (own_Ins_app (own_Ins_app (own_Ins_app own_Ins_nil ⟨(Ins.of_exa E942 (ow 206 rfl)), trivial⟩) ⟨(Ins.of_exa E942 (ow 206 rfl)), trivial⟩) ⟨(Ins.of_exa E942 (ow 206 rfl)), trivial⟩) E940 F943 F948 F949 F950 F951 F952 F953 E954 F955 F960 F961 F962 E963 F964 F969 E970 F971 E976 F977 E982 F983 E941 F988 ge_b62 hpq165 hpq171 hpq303 ne284 ne285 ne990 ne287 ne288 ne991 (Ne.symm ne132) ne944 ne956 ne972 ne978 ne984 (Ne.symm hpq185) ne992 hpq191 hpq192 ne993 (Ne.symm ne913) ne945 ne957 ne973 ne979 ne985 (Ne.symm hpq197) ne994 (Ne.symm ne914) ne946 ne958 ne974 ne980 ne986 (Ne.symm ne995) (Ne.symm hpq324) hpq318 hpq319 hpq320 (by decide) (by decide) ⟨rfl, (Nat.le_of_ble_eq_true rfl)⟩ (by decide) (Nat.le_of_ble_eq_true rfl) (own_ref_of (1 : Int32) (by decide) ⟨by decide, by decide, rfl⟩) (by decide) (by decide) (by decide) (by decide) (by decide) ⟨rfl, (Nat.le_of_ble_eq_true rfl)⟩ (by decide) (Nat.le_of_ble_eq_true rfl) (own_ref_of (1 : Int32) (by decide) ⟨by decide, by decide, rfl⟩) (by decide) (by decide) (by decide) (by decide) (own_ref_of (2 : Int32) (by decide) ⟨by decide, by decide, rfl⟩)) hZS0 (ow 241 rfl) (ow 2 rfl) (by decide) (by decide)) q900a q900c (g := (mkF m 109 #[.val (.int p0), .val (.int p1), .val (.int p2), .val (.int p3), .val (.ref b62), .val (.int 3), .val (.int (-1)), .val (.int 1), .val (.int (own_irem ((1 : Int32) + (1 : Int32)) (3 : Int32))), .unset, .unset, .unset] [(.ref b767), (.int (own_irem ((1 : Int32) + (1 : Int32)) (3 : Int32))), (.int 1), (.ref b62)])) rfl (by rw [hml]; rfl) (Steps.refl _) (argsL := [(.int 1), (.int (own_irem ((1 : Int32) + (1 : Int32)) (3 : Int32))), (.ref b767)]) (rest := []) (lenOf pd_30 rfl) rfl (Nat.le_of_eq rfl) (hb hby at_109) (fun _ _ => ⟨rfl, rfl, (by decide : 40 + 13 ≤ _), (by decide : 246 + 74 ≤ _)⟩))
            obtain ⟨x996, x997, x998, rfl, N900q, hq999, hpq1000, hpq1001, F1002, F1003, F1004, F1005, F1006, F1007, A1008⟩ := hQ900
            have N900 := Fr.app N772 N900q
            have K900 : Keep h0 T900.heap [] := K772.trans hq999 (allS (Or.inr sz_b62) (allS (Or.inr sz268) (allS (Or.inr sz271) (allS (Or.inr sz366) all0))))
            have XS900 : Stand p l e room_1 (s.setVm T900.vm) m #[(.int p0), (.int p1), (.int p2), (.int p3)] below meth c T900 _ _ _ := X900
            have hS900 : s.Since T900.vm T900.heap.size := hSS0.trans hSq900 (Nat.le_trans hkk776 hgr900)
            have hZ900 : Z.Warmed39 (s.setVm T900.vm).vm := State.Warmed39.trans (t := s.setVm s.vm) hZS0 hSq900.1
            have ho900 : (s.setVm T900.vm).vm.findClass "org/tallyrole/core/GraphNodePinLaw" = some m.cls := by rw [show (s.setVm T900.vm).vm = T900.vm from rfl, hSq900.1.alike.findClass]; exact hownS0
            have hk900 : T900.heap.size ≤ T900.heap.size := Nat.le_refl _
            have Zs1009 : n0 ≤ T900.heap.size := (Nat.le_trans Zs777 hq999.1)
            have sz1010 : h0.size ≤ x997 := Nat.le_trans K772.1 hpq1001
            have ne1011 : x136 ≠ x660 := Nat.ne_of_lt (Nat.lt_of_lt_of_le E647.lt hpq672)
            have E1012 := E939.keep hq999
            have ne1014 : b62 ≠ x136 := Nat.ne_of_lt (Nat.lt_of_lt_of_le F80.lt hpq152)
            have ne1015 : x136 ≠ b767 := Nat.ne_of_lt (Nat.lt_of_lt_of_le (E647.keep hq670).lt (Nat.le_of_eq g767.symm))
            have ne1016 : x136 ≠ x291 := Nat.ne_of_lt (Nat.lt_of_lt_of_le E237.lt hpq304)
            have F1013 := ((((F244.keep hq300 (ninS (Ne.symm ne1014) (ninS hpq180 (ninS hpq183 nin0)))).keep hq670 (ninS (Ne.symm ne1014) (ninS hpq180 (ninS hpq183 nin0)))).ext E767).keep hq775 (ninS ne1015 nin0)).keep hq999 (ninS (Ne.symm ne1014) (ninS hpq180 (ninS hpq183 (ninS ne1016 nin0))))
            have E1017 := E940.keep hq999
            have F1018 := F953.keep hq999 (ninS (Ne.symm ne944) (ninS (Ne.symm ne945) (ninS (Ne.symm ne946) (ninS hpq324 nin0))))
            have E1019 := E941.keep hq999
            have ne1021 : b62 ≠ x660 := Nat.ne_of_lt (Nat.lt_of_lt_of_le E636.lt hpq672)
            have ne1022 : x143 ≠ x660 := Nat.ne_of_lt (Nat.lt_of_lt_of_le E642.lt hpq672)
            have ne1023 : x147 ≠ x660 := Nat.ne_of_lt (Nat.lt_of_lt_of_le E646.lt hpq672)
            have ne1024 : x291 ≠ x660 := Nat.ne_of_lt (Nat.lt_of_lt_of_le E349.lt hpq672)
            have F1020 := ((F718.ext E767).keep hq775 (ninS ne989 nin0)).keep hq999 (ninS (Ne.symm ne1021) (ninS (Ne.symm ne1022) (ninS (Ne.symm ne1023) (ninS (Ne.symm ne1024) nin0))))
            have pre1025 := fun (t : State) (k : Steps p.tables e below (T900.setTop (mkF m 117 #[.val (.int p0), .val (.int p1), .val (.int p2), .val (.int p3), .val (.ref b62), .val (.int 3), .val (.int 1), .val (.int 1), .val (.int (own_irem ((1 : Int32) + (1 : Int32)) (3 : Int32))), .unset, .unset, .unset] [])) t) => pre778 t (by
              refine st900.trans ?_
              refine XS.pop XS900.here hx rfl (hb hby at_112) rfl rfl ?_
              refine XS.iload XS900.here hx rfl (hb hby at_113) rfl ?_
              refine XS.istore XS900.here hx rfl (hb hby at_115) rfl (l' := #[.val (.int p0), .val (.int p1), .val (.int p2), .val (.int p3), .val (.ref b62), .val (.int 3), .val (.int 1), .val (.int 1), .val (.int (own_irem ((1 : Int32) + (1 : Int32)) (3 : Int32))), .unset, .unset, .unset]) rfl ?_
              exact k)
            have E1026 := E901.keep hq999
            have E1027 := E917.keep hq999
            have ne1029 : x142 ≠ x291 := Nat.ne_of_lt (Nat.lt_of_lt_of_le E221.lt hpq304)
            have F1028 := F918.keep hq999 (ninS (Ne.symm ne284) (ninS hpq185 (ninS hpq188 (ninS ne1029 nin0))))
            have F1030 := F920.keep hq999 (ninS (Ne.symm ne284) (ninS hpq185 (ninS hpq188 (ninS ne1029 nin0))))
            have E1031 := E921.keep hq999
            obtain ⟨s2, o2, hs2, hr2⟩ := rst b62 x76 x142 x143 x997 x998 (((((0 : Int32) ||| ((1 : Int32) <<< ((0 : Int32) &&& 31))) ||| ((1 : Int32) <<< (((((1 : Int32).toUInt32 >>> ((0 : Int32) &&& 31).toUInt32).toInt32) &&& (31 : Int32)) &&& 31))) ||| ((1 : Int32) <<< ((((((1 : Int32) + (1 : Int32)).toUInt32 >>> ((0 : Int32) &&& 31).toUInt32).toInt32) &&& (31 : Int32)) &&& 31))) &&& (((1 : Int32) <<< (((((1 : Int32).toUInt32 >>> ((0 : Int32) &&& 31).toUInt32).toInt32) &&& (31 : Int32)) &&& 31)) ^^^ (-1 : Int32))) (((((0 : Int32) + (1 : Int32)) + (1 : Int32)) + (1 : Int32)) - (1 : Int32)) (((([] ++ [(Value.ref x136)]) ++ [(Value.ref x290)]) ++ [(Value.ref x660)]).eraseIdx 1) (3 : Int32) (1 : Int32) (.val (.int 1)) (.val (.int (own_irem ((1 : Int32) + (1 : Int32)) (3 : Int32)))) 53 320 (by decide) (by decide) T900 T900.heap T900.vm T900.heap.size _ N900 XS900 hZ900 ho900 hS900 hk900 rfl K900 Zs1009 E1026 F1002 F1003 E1027 F1028 F1030 E1031 F1005 F1006 A1008 (own_Nds_er (own_Nds_app (own_Nds_app (own_Nds_app own_Nds_nil E1012 F1013) E1017 F1018) E1019 F1020)) (own_T_3_1 (w0 := x136) (w2 := x660) (by decide) (by decide) rfl ne1011) (Or.inr ⟨_, rfl⟩) (Or.inr ⟨_, rfl⟩)
            exact ⟨s2, o2, pre1025 _ hs2, hr2⟩
          · have E1033 := (E744.ext E767).keep hq775
            have ne1035 : b62 ≠ b767 := Nat.ne_of_lt (Nat.lt_of_lt_of_le E744.lt (Nat.le_of_eq g767.symm))
            have F1034 := (F697.ext E767).keep hq775 (ninS ne1035 nin0)
            have F1036 := (F698.ext E767).keep hq775 (ninS ne1035 nin0)
            have F1037 := (F699.ext E767).keep hq775 (ninS ne1035 nin0)
            have F1038 := (F700.ext E767).keep hq775 (ninS ne1035 nin0)
            have F1039 := (F701.ext E767).keep hq775 (ninS ne1035 nin0)
            have F1040 := (F702.ext E767).keep hq775 (ninS ne1035 nin0)
            have S1041 := own_sta_keep ((own_sta_keep S637 hq670 (allS (own_ns_exa E636) (allS (own_ns_exa E642) (allS (own_ns_exa E646) all0)))).ext E767) hq775 (allS (own_ns_exa A767) all0)
            have S1042 := own_sta_keep ((own_sta_keep S638 hq670 (allS (own_ns_exa E636) (allS (own_ns_exa E642) (allS (own_ns_exa E646) all0)))).ext E767) hq775 (allS (own_ns_exa A767) all0)
            have E1043 := ((((E130.keep hq150).keep hq300).keep hq670).ext E767).keep hq775
            have ne1045 : em ≠ x143 := Nat.ne_of_lt (Nat.lt_of_lt_of_le E130.lt hpq166)
            have ne1046 : em ≠ x147 := Nat.ne_of_lt (Nat.lt_of_lt_of_le E130.lt hpq172)
            have ne1047 : em ≠ b767 := Nat.ne_of_lt (Nat.lt_of_lt_of_le (((E130.keep hq150).keep hq300).keep hq670).lt (Nat.le_of_eq g767.symm))
            have F1044 := ((((F131.keep hq150 (ninS ne132 nin0)).keep hq300 (ninS ne132 (ninS ne1045 (ninS ne1046 nin0)))).keep hq670 (ninS ne132 (ninS ne1045 (ninS ne1046 nin0)))).ext E767).keep hq775 (ninS ne1047 nin0)
            have F1048 := ((((F133.keep hq150 (ninS ne132 nin0)).keep hq300 (ninS ne132 (ninS ne1045 (ninS ne1046 nin0)))).keep hq670 (ninS ne132 (ninS ne1045 (ninS ne1046 nin0)))).ext E767).keep hq775 (ninS ne1047 nin0)
            have E1049 := ((E639.keep hq670).ext E767).keep hq775
            have ne1051 : x142 ≠ b767 := Nat.ne_of_lt (Nat.lt_of_lt_of_le (E639.keep hq670).lt (Nat.le_of_eq g767.symm))
            have F1050 := ((F640.keep hq670 (ninS (Ne.symm ne284) (ninS hpq185 (ninS hpq188 nin0)))).ext E767).keep hq775 (ninS ne1051 nin0)
            have F1052 := ((F641.keep hq670 (ninS (Ne.symm ne284) (ninS hpq185 (ninS hpq188 nin0)))).ext E767).keep hq775 (ninS ne1051 nin0)
            have E1053 := ((E642.keep hq670).ext E767).keep hq775
            have ne1055 : x143 ≠ b767 := Nat.ne_of_lt (Nat.lt_of_lt_of_le F703.lt (Nat.le_of_eq g767.symm))
            have F1054 := (F703.ext E767).keep hq775 (ninS ne1055 nin0)
            have F1056 := (F704.ext E767).keep hq775 (ninS ne1055 nin0)
            have F1057 := (F705.ext E767).keep hq775 (ninS ne1055 nin0)
            have ne1059 : x666 ≠ b767 := Nat.ne_of_lt (Nat.lt_of_lt_of_le A706.lt (Nat.le_of_eq g767.symm))
            have A1058 := (A706.ext E767).keep hq775 (ninS ne1059 nin0)
            have E1060 := ((E643.keep hq670).ext E767).keep hq775
            have ne1062 : x146 ≠ b767 := Nat.ne_of_lt (Nat.lt_of_lt_of_le (E643.keep hq670).lt (Nat.le_of_eq g767.symm))
            have F1061 := ((F644.keep hq670 (ninS (Ne.symm ne287) (ninS (Ne.symm hpq191) (ninS hpq197 nin0)))).ext E767).keep hq775 (ninS ne1062 nin0)
            have F1063 := ((F645.keep hq670 (ninS (Ne.symm ne287) (ninS (Ne.symm hpq191) (ninS hpq197 nin0)))).ext E767).keep hq775 (ninS ne1062 nin0)
            have E1064 := ((E646.keep hq670).ext E767).keep hq775
            have ne1066 : x147 ≠ b767 := Nat.ne_of_lt (Nat.lt_of_lt_of_le F707.lt (Nat.le_of_eq g767.symm))
            have F1065 := (F707.ext E767).keep hq775 (ninS ne1066 nin0)
            have F1067 := (F708.ext E767).keep hq775 (ninS ne1066 nin0)
            have F1068 := (F709.ext E767).keep hq775 (ninS ne1066 nin0)
            have ne1070 : x668 ≠ b767 := Nat.ne_of_lt (Nat.lt_of_lt_of_le A710.lt (Nat.le_of_eq g767.symm))
            have A1069 := (A710.ext E767).keep hq775 (ninS ne1070 nin0)
            have E1071 := ((E647.keep hq670).ext E767).keep hq775
            have E1072 := ((E341.keep hq670).ext E767).keep hq775
            have E1073 := (E711.ext E767).keep hq775
            have E1074 := ((E648.keep hq670).ext E767).keep hq775
            have ne1076 : x660 ≠ b767 := Nat.ne_of_lt (Nat.lt_of_lt_of_le E711.lt (Nat.le_of_eq g767.symm))
            have F1075 := (F712.ext E767).keep hq775 (ninS ne1076 nin0)
            have F1077 := (F713.ext E767).keep hq775 (ninS ne1076 nin0)
            have F1078 := (F714.ext E767).keep hq775 (ninS ne1076 nin0)
            have F1079 := (F715.ext E767).keep hq775 (ninS ne1076 nin0)
            have F1080 := (F716.ext E767).keep hq775 (ninS ne1076 nin0)
            have F1081 := (F717.ext E767).keep hq775 (ninS ne1076 nin0)
            have F1082 := (F718.ext E767).keep hq775 (ninS ne1076 nin0)
            have E1083 := (E719.ext E767).keep hq775
            have ne1085 : x661 ≠ b767 := Nat.ne_of_lt (Nat.lt_of_lt_of_le E719.lt (Nat.le_of_eq g767.symm))
            have F1084 := (F720.ext E767).keep hq775 (ninS ne1085 nin0)
            have F1086 := (F721.ext E767).keep hq775 (ninS ne1085 nin0)
            have F1087 := (F722.ext E767).keep hq775 (ninS ne1085 nin0)
            have F1088 := (F723.ext E767).keep hq775 (ninS ne1085 nin0)
            have E1089 := (E724.ext E767).keep hq775
            have ne1091 : x662 ≠ b767 := Nat.ne_of_lt (Nat.lt_of_lt_of_le E724.lt (Nat.le_of_eq g767.symm))
            have F1090 := (F725.ext E767).keep hq775 (ninS ne1091 nin0)
            have F1092 := (F726.ext E767).keep hq775 (ninS ne1091 nin0)
            have E1093 := (E727.ext E767).keep hq775
            have ne1095 : x663 ≠ b767 := Nat.ne_of_lt (Nat.lt_of_lt_of_le E727.lt (Nat.le_of_eq g767.symm))
            have F1094 := (F728.ext E767).keep hq775 (ninS ne1095 nin0)
            have E1096 := (E729.ext E767).keep hq775
            have ne1098 : x664 ≠ b767 := Nat.ne_of_lt (Nat.lt_of_lt_of_le E729.lt (Nat.le_of_eq g767.symm))
            have F1097 := (F730.ext E767).keep hq775 (ninS ne1098 nin0)
            have E1099 := (E731.ext E767).keep hq775
            have ne1101 : x665 ≠ b767 := Nat.ne_of_lt (Nat.lt_of_lt_of_le E731.lt (Nat.le_of_eq g767.symm))
            have F1100 := (F732.ext E767).keep hq775 (ninS ne1101 nin0)
            have ne1103 : b62 ≠ x136 := Nat.ne_of_lt (Nat.lt_of_lt_of_le F80.lt hpq152)
            have ne1104 : x136 ≠ b767 := Nat.ne_of_lt (Nat.lt_of_lt_of_le (E647.keep hq670).lt (Nat.le_of_eq g767.symm))
            have F1102 := (((F243.keep hq300 (ninS (Ne.symm ne1103) (ninS hpq180 (ninS hpq183 nin0)))).keep hq670 (ninS (Ne.symm ne1103) (ninS hpq180 (ninS hpq183 nin0)))).ext E767).keep hq775 (ninS ne1104 nin0)
            have ne1105 : b62 ≠ x666 := Nat.ne_of_lt (Nat.lt_of_lt_of_le E636.lt hpq684)
            have ne1106 : b62 ≠ x668 := Nat.ne_of_lt (Nat.lt_of_lt_of_le E636.lt hpq686)
            have ne1107 : b62 ≠ x660 := Nat.ne_of_lt (Nat.lt_of_lt_of_le E636.lt hpq672)
            have ne1108 : b62 ≠ x661 := Nat.ne_of_lt (Nat.lt_of_lt_of_le E636.lt hpq674)
            have ne1109 : b62 ≠ x663 := Nat.ne_of_lt (Nat.lt_of_lt_of_le E636.lt hpq678)
            have ne1110 : b62 ≠ x664 := Nat.ne_of_lt (Nat.lt_of_lt_of_le E636.lt hpq680)
            have ne1111 : b62 ≠ x665 := Nat.ne_of_lt (Nat.lt_of_lt_of_le E636.lt hpq682)
            have ne1112 : x143 ≠ x666 := Nat.ne_of_lt (Nat.lt_of_lt_of_le E642.lt hpq684)
            have ne1113 : x143 ≠ x668 := Nat.ne_of_lt (Nat.lt_of_lt_of_le E642.lt hpq686)
            have ne1114 : x143 ≠ x660 := Nat.ne_of_lt (Nat.lt_of_lt_of_le E642.lt hpq672)
            have ne1115 : x143 ≠ x661 := Nat.ne_of_lt (Nat.lt_of_lt_of_le E642.lt hpq674)
            have ne1116 : x143 ≠ x663 := Nat.ne_of_lt (Nat.lt_of_lt_of_le E642.lt hpq678)
            have ne1117 : x143 ≠ x664 := Nat.ne_of_lt (Nat.lt_of_lt_of_le E642.lt hpq680)
            have ne1118 : x143 ≠ x665 := Nat.ne_of_lt (Nat.lt_of_lt_of_le E642.lt hpq682)
            have ne1119 : x147 ≠ x668 := Nat.ne_of_lt (Nat.lt_of_lt_of_le E646.lt hpq686)
            have ne1120 : x147 ≠ x660 := Nat.ne_of_lt (Nat.lt_of_lt_of_le E646.lt hpq672)
            have ne1121 : x147 ≠ x661 := Nat.ne_of_lt (Nat.lt_of_lt_of_le E646.lt hpq674)
            have ne1122 : x147 ≠ x663 := Nat.ne_of_lt (Nat.lt_of_lt_of_le E646.lt hpq678)
            have ne1123 : x147 ≠ x664 := Nat.ne_of_lt (Nat.lt_of_lt_of_le E646.lt hpq680)
            have ne1124 : x147 ≠ x665 := Nat.ne_of_lt (Nat.lt_of_lt_of_le E646.lt hpq682)
            have ne1125 : em ≠ x661 := Nat.ne_of_lt (Nat.lt_of_lt_of_le ((E130.keep hq150).keep hq300).lt hpq674)
            obtain ⟨cq1032, kq1032, q1032a, q1032b, q1032c⟩ := isOf hZS0 rfl E1033
            obtain ⟨_, T1032, Lc1032, X1032, hSq1032, hgr1032, hQ1032, st1032⟩ := own_rtS X772 (X772.virtualBackS hx (y := yn_55) (z := yn_55) hownS0 (mvT hZS0 (ow 237 rfl)) (mvT hZS0 (ow 238 rfl)) (notFace_of_selects (args := #[]) (mvT hZS0 (ow 240 rfl))) (mvT hZS0 (ow 240 rfl)) (mvT hZS0 (ow 239 rfl)) (by decide) (backOfS (W := 0) (rm_mrg l Z a0 hw [] b62 x76 em ae bt x142 x143 x666 x667 ((((0 : Int32) ||| ((1 : Int32) <<< ((0 : Int32) &&& 31))) ||| ((1 : Int32) <<< (((((1 : Int32).toUInt32 >>> ((0 : Int32) &&& 31).toUInt32).toInt32) &&& (31 : Int32)) &&& 31))) ||| ((1 : Int32) <<< ((((((1 : Int32) + (1 : Int32)).toUInt32 >>> ((0 : Int32) &&& 31).toUInt32).toInt32) &&& (31 : Int32)) &&& 31))) ((((0 : Int32) + (1 : Int32)) + (1 : Int32)) + (1 : Int32)) ((([] ++ [(.ref x136)]) ++ [(.ref x290)]) ++ [(.ref x660)]) x146 x147 x668 x669 ((((0 : Int32) ||| ((1 : Int32) <<< ((0 : Int32) &&& 31))) ||| ((1 : Int32) <<< (((((1 : Int32).toUInt32 >>> ((0 : Int32) &&& 31).toUInt32).toInt32) &&& (31 : Int32)) &&& 31))) ||| ((1 : Int32) <<< ((((((1 : Int32) + (1 : Int32)).toUInt32 >>> ((0 : Int32) &&& 31).toUInt32).toInt32) &&& (31 : Int32)) &&& 31))) ((((0 : Int32) + (1 : Int32)) + (1 : Int32)) + (1 : Int32)) ((([] ++ [(.ref bt)]) ++ [(.ref bt)]) ++ [(.ref bt)]) (((1 : Int32) + (1 : Int32)) + (1 : Int32)) (2 : Int32) (own_irem ((2 : Int32) + (1 : Int32)) (3 : Int32)) x660 x136 b767 x661 x662 x663 x664 x665 (2 : Int32) 2 (2 : Int32) 2 T772.heap n0 Zs777 E1033 F1034 F1036 F1037 F1038 F1039 F1040 S1041 S1042 E1043 F1044 F1048 E1049 F1050 F1052 E1053 F1054 F1056 F1057 A1058 E1060 F1061 F1063 E1064 F1065 F1067 F1068 A1069 (own_Ins_app (own_Ins_app (own_Ins_app own_Ins_nil ⟨(Ins.of_exa E1071 (ow 184 rfl)), trivial⟩) ⟨(Ins.of_exa E1072 (ow 184 rfl)), trivial⟩) ⟨(Ins.of_exa E1073 (ow 184 rfl)), trivial⟩) (own_Ins_app (own_Ins_app (own_Ins_app own_Ins_nil ⟨(Ins.of_exa E1074 (ow 206 rfl)), trivial⟩) ⟨(Ins.of_exa E1074 (ow 206 rfl)), trivial⟩) ⟨(Ins.of_exa E1074 (ow 206 rfl)), trivial⟩) E1073 F1075 F1077 F1078 F1079 F1080 F1081 F1082 E1083 F1084 F1086 F1087 F1088 E1089 F1090 F1092 E1093 F1094 E1096 F1097 E1099 F1100 E1071 F1102 ge_b62 hpq165 hpq171 hpq673 ne284 ne285 ne1105 ne287 ne288 ne1106 (Ne.symm ne132) ne1107 ne1108 ne1109 ne1110 ne1111 (Ne.symm hpq185) ne1112 hpq191 hpq192 ne1113 (Ne.symm ne1045) ne1114 ne1115 ne1116 ne1117 ne1118 (Ne.symm hpq197) ne1119 (Ne.symm ne1046) ne1120 ne1121 ne1122 ne1123 ne1124 (Ne.symm ne1125) (Ne.symm hpq694) hpq688 hpq689 hpq690 (by decide) (by decide) ⟨rfl, (Nat.le_of_ble_eq_true rfl)⟩ (by decide) (Nat.le_of_ble_eq_true rfl) (own_ref_of (2 : Int32) (by decide) ⟨by decide, by decide, rfl⟩) (by decide) (by decide) (by decide) (by decide) (by decide) ⟨rfl, (Nat.le_of_ble_eq_true rfl)⟩ (by decide) (Nat.le_of_ble_eq_true rfl) (own_ref_of (2 : Int32) (by decide) ⟨by decide, by decide, rfl⟩) (by decide) (by decide) (by decide) (by decide) (own_ref_of (0 : Int32) (by decide) ⟨by decide, by decide, rfl⟩)) hZS0 (ow 241 rfl) (ow 2 rfl) (by decide) (by decide)) q1032a q1032c (g := (mkF m 109 #[.val (.int p0), .val (.int p1), .val (.int p2), .val (.int p3), .val (.ref b62), .val (.int 3), .val (.int (-1)), .val (.int 2), .val (.int (own_irem ((2 : Int32) + (1 : Int32)) (3 : Int32))), .unset, .unset, .unset] [(.ref b767), (.int (own_irem ((2 : Int32) + (1 : Int32)) (3 : Int32))), (.int 2), (.ref b62)])) rfl (by rw [hml]; rfl) (Steps.refl _) (argsL := [(.int 2), (.int (own_irem ((2 : Int32) + (1 : Int32)) (3 : Int32))), (.ref b767)]) (rest := []) (lenOf pd_30 rfl) rfl (Nat.le_of_eq rfl) (hb hby at_109) (fun _ _ => ⟨rfl, rfl, (by decide : 40 + 13 ≤ _), (by decide : 246 + 74 ≤ _)⟩))
            obtain ⟨x1126, x1127, x1128, rfl, N1032q, hq1129, hpq1130, hpq1131, F1132, F1133, F1134, F1135, F1136, F1137, A1138⟩ := hQ1032
            have N1032 := Fr.app N772 N1032q
            have K1032 : Keep h0 T1032.heap [] := K772.trans hq1129 (allS (Or.inr sz_b62) (allS (Or.inr sz268) (allS (Or.inr sz271) (allS (Or.inr sz736) all0))))
            have XS1032 : Stand p l e room_1 (s.setVm T1032.vm) m #[(.int p0), (.int p1), (.int p2), (.int p3)] below meth c T1032 _ _ _ := X1032
            have hS1032 : s.Since T1032.vm T1032.heap.size := hSS0.trans hSq1032 (Nat.le_trans hkk776 hgr1032)
            have hZ1032 : Z.Warmed39 (s.setVm T1032.vm).vm := State.Warmed39.trans (t := s.setVm s.vm) hZS0 hSq1032.1
            have ho1032 : (s.setVm T1032.vm).vm.findClass "org/tallyrole/core/GraphNodePinLaw" = some m.cls := by rw [show (s.setVm T1032.vm).vm = T1032.vm from rfl, hSq1032.1.alike.findClass]; exact hownS0
            have hk1032 : T1032.heap.size ≤ T1032.heap.size := Nat.le_refl _
            have Zs1139 : n0 ≤ T1032.heap.size := (Nat.le_trans Zs777 hq1129.1)
            have sz1140 : h0.size ≤ x1127 := Nat.le_trans K772.1 hpq1131
            have ne1141 : x136 ≠ x290 := Nat.ne_of_lt (Nat.lt_of_lt_of_le E237.lt hpq302)
            have E1142 := E1071.keep hq1129
            have ne1144 : x136 ≠ x661 := Nat.ne_of_lt (Nat.lt_of_lt_of_le E647.lt hpq674)
            have F1143 := ((((F244.keep hq300 (ninS (Ne.symm ne1103) (ninS hpq180 (ninS hpq183 nin0)))).keep hq670 (ninS (Ne.symm ne1103) (ninS hpq180 (ninS hpq183 nin0)))).ext E767).keep hq775 (ninS ne1104 nin0)).keep hq1129 (ninS (Ne.symm ne1103) (ninS hpq180 (ninS hpq183 (ninS ne1144 nin0))))
            have E1145 := E1072.keep hq1129
            have ne1147 : b62 ≠ x290 := Nat.ne_of_lt (Nat.lt_of_lt_of_le E279.lt hpq302)
            have ne1148 : x143 ≠ x290 := Nat.ne_of_lt (Nat.lt_of_lt_of_le E224.lt hpq302)
            have ne1149 : x147 ≠ x290 := Nat.ne_of_lt (Nat.lt_of_lt_of_le E232.lt hpq302)
            have ne1150 : x290 ≠ b767 := Nat.ne_of_lt (Nat.lt_of_lt_of_le (E341.keep hq670).lt (Nat.le_of_eq g767.symm))
            have ne1151 : x290 ≠ x661 := Nat.ne_of_lt (Nat.lt_of_lt_of_le E341.lt hpq674)
            have F1146 := (((F348.keep hq670 (ninS (Ne.symm ne1147) (ninS (Ne.symm ne1148) (ninS (Ne.symm ne1149) nin0)))).ext E767).keep hq775 (ninS ne1150 nin0)).keep hq1129 (ninS (Ne.symm ne1147) (ninS (Ne.symm ne1148) (ninS (Ne.symm ne1149) (ninS ne1151 nin0))))
            have E1152 := E1073.keep hq1129
            have F1153 := F1082.keep hq1129 (ninS (Ne.symm ne1107) (ninS (Ne.symm ne1114) (ninS (Ne.symm ne1120) (ninS hpq694 nin0))))
            have pre1154 := fun (t : State) (k : Steps p.tables e below (T1032.setTop (mkF m 117 #[.val (.int p0), .val (.int p1), .val (.int p2), .val (.int p3), .val (.ref b62), .val (.int 3), .val (.int 2), .val (.int 2), .val (.int (own_irem ((2 : Int32) + (1 : Int32)) (3 : Int32))), .unset, .unset, .unset] [])) t) => pre778 t (by
              refine st1032.trans ?_
              refine XS.pop XS1032.here hx rfl (hb hby at_112) rfl rfl ?_
              refine XS.iload XS1032.here hx rfl (hb hby at_113) rfl ?_
              refine XS.istore XS1032.here hx rfl (hb hby at_115) rfl (l' := #[.val (.int p0), .val (.int p1), .val (.int p2), .val (.int p3), .val (.ref b62), .val (.int 3), .val (.int 2), .val (.int 2), .val (.int (own_irem ((2 : Int32) + (1 : Int32)) (3 : Int32))), .unset, .unset, .unset]) rfl ?_
              exact k)
            have E1155 := E1033.keep hq1129
            have E1156 := E1049.keep hq1129
            have ne1158 : x142 ≠ x661 := Nat.ne_of_lt (Nat.lt_of_lt_of_le E639.lt hpq674)
            have F1157 := F1050.keep hq1129 (ninS (Ne.symm ne284) (ninS hpq185 (ninS hpq188 (ninS ne1158 nin0))))
            have F1159 := F1052.keep hq1129 (ninS (Ne.symm ne284) (ninS hpq185 (ninS hpq188 (ninS ne1158 nin0))))
            have E1160 := E1053.keep hq1129
            obtain ⟨s2, o2, hs2, hr2⟩ := rst b62 x76 x142 x143 x1127 x1128 (((((0 : Int32) ||| ((1 : Int32) <<< ((0 : Int32) &&& 31))) ||| ((1 : Int32) <<< (((((1 : Int32).toUInt32 >>> ((0 : Int32) &&& 31).toUInt32).toInt32) &&& (31 : Int32)) &&& 31))) ||| ((1 : Int32) <<< ((((((1 : Int32) + (1 : Int32)).toUInt32 >>> ((0 : Int32) &&& 31).toUInt32).toInt32) &&& (31 : Int32)) &&& 31))) &&& (((1 : Int32) <<< (((((2 : Int32).toUInt32 >>> ((0 : Int32) &&& 31).toUInt32).toInt32) &&& (31 : Int32)) &&& 31)) ^^^ (-1 : Int32))) (((((0 : Int32) + (1 : Int32)) + (1 : Int32)) + (1 : Int32)) - (1 : Int32)) (((([] ++ [(Value.ref x136)]) ++ [(Value.ref x290)]) ++ [(Value.ref x660)]).eraseIdx 2) (3 : Int32) (2 : Int32) (.val (.int 2)) (.val (.int (own_irem ((2 : Int32) + (1 : Int32)) (3 : Int32)))) 53 320 (by decide) (by decide) T1032 T1032.heap T1032.vm T1032.heap.size _ N1032 XS1032 hZ1032 ho1032 hS1032 hk1032 rfl K1032 Zs1139 E1155 F1132 F1133 E1156 F1157 F1159 E1160 F1135 F1136 A1138 (own_Nds_er (own_Nds_app (own_Nds_app (own_Nds_app own_Nds_nil E1142 F1143) E1145 F1146) E1152 F1153)) (own_T_3_2 (w0 := x136) (w1 := x290) (by decide) (by decide) rfl ne1141) (Or.inr ⟨_, rfl⟩) (Or.inr ⟨_, rfl⟩)
            exact ⟨s2, o2, pre1154 _ hs2, hr2⟩

set_option maxRecDepth 65536 in
set_option maxHeartbeats 40000000 in
theorem comes_1 {Post : Tables → Env → Array Value → State → Outcome → State → Prop} (hpost : ∀ tb e args s v u, (limb_1_1.after args s (.returned v) u = true ∧ limb_1_2.after args s (.returned v) u = true ∧ True) → ReturnedEndW s (.returned v) u (Jvm.fieldLocs frame_1_writes args s ++ Jvm.arrayLocs frame_1_arrays args s ++ Jvm.staticLocs frame_1_statics s) 112 1664 → Post tb e args s (.returned v) u) :
    ArmFor flags0 classFile x code maxLocals ret World_1 tables_1 room_1 Calls_1 rest_1 Pre_1 Post := by
  intro l hfl _ _ p e ha hc hk s m args below hf hA hF happ hP
  obtain ⟨hcalls, hrest, hpre⟩ := hP
  obtain ⟨-, -, -, hnamed, -, -, -, hat⟩ := (Spec.applies_iff hf).mp happ
  obtain ⟨hg, hn⟩ := and_e (Cond.before_iff.mp (show (Jvm.Cond.and given_1 narrow_1).before args s = true from hpre))
  obtain ⟨g1, g2⟩ := and_e hg
  obtain ⟨g3, g4⟩ := and_e g2
  obtain ⟨g5, g6⟩ := and_e g4
  obtain ⟨g7, g8⟩ := and_e g6
  obtain ⟨g9, g10⟩ := and_e hn
  obtain ⟨g11, g12⟩ := and_e g10
  obtain ⟨g13, g14⟩ := and_e g12
  obtain ⟨g15, g16⟩ := and_e g14
  obtain ⟨g17, g18⟩ := and_e g16
  obtain ⟨g19, g20⟩ := and_e g18
  obtain ⟨g21, g22⟩ := and_e g20
  obtain ⟨g23, g24⟩ := and_e g22
  obtain ⟨g25, g26⟩ := and_e g24
  obtain ⟨w0, w1, w2, w3, rfl⟩ : ∃ w0 w1 w2 w3 : Value, args = #[w0, w1, w2, w3] := by
    have hs : args.size = 4 := by simpa [Cond.value, given_1] using g1
    obtain ⟨L⟩ := args
    match L, hs with
    | [w0, w1, w2, w3], _ => exact ⟨w0, w1, w2, w3, rfl⟩
  have hw := fun d (hd : d ∈ tables_1) => atoms_spec (ws := Jvm.Cond.code x code maxLocals ret :: tables_1) hat d (List.mem_cons_of_mem _ hd)
  have ow := @own_w _ _ hw
  have hfit : Fit s := fun {y c} hc i hi => by
    obtain ⟨ha, rfl⟩ := Array.getElem?_eq_some_iff.mp hc
    have q := List.all_eq_true.mp ((Array.all_eq_true_iff_forall_mem.mp hF) _ (Array.getElem_mem ha)) i (List.mem_range.mpr hi)
    simpa [Array.getElem?_eq_getElem hi] using q
  obtain ⟨hsets, hown0⟩ := atoms_of _ (rest_1_c_eq ▸ (show rest_1_c.before _ s = true from hrest))
  have hr0 := Cond.before_iff.mp hown0
  obtain ⟨i0, ei0⟩ := is_v g3
  obtain rfl : w0 = (.int i0) := Option.some.inj ei0
  obtain ⟨i1, ei1⟩ := is_v g5
  obtain rfl : w1 = (.int i1) := Option.some.inj ei1
  obtain ⟨i2, ei2⟩ := is_v g7
  obtain rfl : w2 = (.int i2) := Option.some.inj ei2
  obtain ⟨i3, ei3⟩ := is_v g8
  obtain rfl : w3 = (.int i3) := Option.some.inj ei3
  obtain ⟨z_IntTrie_EMPTY, ez_IntTrie_EMPTY⟩ := exa_v g9
  have S_z_IntTrie_EMPTY := Sta.start (Z := s) ez_IntTrie_EMPTY (Or.inr ⟨(ow 11 rfl), (ow 14 rfl)⟩)
  have E_z_IntTrie_EMPTY := Exa.start ez_IntTrie_EMPTY g9
  obtain ⟨z_IntTrie_Chunk_NONE, ez_IntTrie_Chunk_NONE⟩ := arr_v g15
  have S_z_IntTrie_Chunk_NONE := Sta.start (Z := s) ez_IntTrie_Chunk_NONE (Or.inr ⟨(ow 154 rfl), (ow 160 rfl)⟩)
  obtain ⟨z_Dependencies_NO_KEYS, ez_Dependencies_NO_KEYS⟩ := arr_v g21
  have S_z_Dependencies_NO_KEYS := Sta.start (Z := s) ez_Dependencies_NO_KEYS (Or.inr ⟨(ow 224 rfl), (ow 230 rfl)⟩)
  obtain ⟨z_Dependencies_NO_WORDS, ez_Dependencies_NO_WORDS⟩ := arr_v g25
  have S_z_Dependencies_NO_WORDS := Sta.start (Z := s) ez_Dependencies_NO_WORDS (Or.inr ⟨(ow 224 rfl), (ow 234 rfl)⟩)
  obtain ⟨z_ArrayList_EMPTY_ELEMENTDATA, ez_ArrayList_EMPTY_ELEMENTDATA⟩ := arr_v (Cond.before_iff.mp (hsets _ (List.mem_of_getElem? (i := 3) rfl)))
  have S_z_ArrayList_EMPTY_ELEMENTDATA := Sta.start (Z := s) ez_ArrayList_EMPTY_ELEMENTDATA (Or.inl (hsets _ (List.mem_of_getElem? (i := 1) rfl)))
  obtain ⟨z_ArrayList_DEFAULTCAPACITY_EMPTY_ELEMENTDATA, ez_ArrayList_DEFAULTCAPACITY_EMPTY_ELEMENTDATA⟩ := arr_v (Cond.before_iff.mp (hsets _ (List.mem_of_getElem? (i := 6) rfl)))
  have S_z_ArrayList_DEFAULTCAPACITY_EMPTY_ELEMENTDATA := Sta.start (Z := s) ez_ArrayList_DEFAULTCAPACITY_EMPTY_ELEMENTDATA (Or.inr ⟨(ow 108 rfl), (hsets _ (List.mem_of_getElem? (i := 2) rfl))⟩)
  obtain ⟨z_Boolean_TRUE, ez_Boolean_TRUE⟩ := exa_v (Cond.before_iff.mp (hsets _ (List.mem_of_getElem? (i := 11) rfl)))
  have S_z_Boolean_TRUE := Sta.start (Z := s) ez_Boolean_TRUE (Or.inl (hsets _ (List.mem_of_getElem? (i := 10) rfl)))
  have E_z_Boolean_TRUE := Exa.start ez_Boolean_TRUE (Cond.before_iff.mp (hsets _ (List.mem_of_getElem? (i := 11) rfl)))
  have F_z_IntTrie_EMPTY_root := own_fld_null ez_IntTrie_EMPTY g11
  have F_z_IntTrie_EMPTY_level := own_fld_eq ez_IntTrie_EMPTY g13
  have F_z_Boolean_TRUE_value := own_fld_eq ez_Boolean_TRUE (Cond.before_iff.mp (hsets _ (List.mem_of_getElem? (i := 12) rfl)))
  obtain ⟨cN, AcN⟩ := Arr.start ez_IntTrie_Chunk_NONE g15
  obtain ⟨lq1cN, lq2cN⟩ := own_len ez_IntTrie_Chunk_NONE AcN.1 g19
  have V_z_IntTrie_Chunk_NONE : Arv s s.heap z_IntTrie_Chunk_NONE cN.cls (.object "java/lang/Object") (0 : Int32) [] .null := Arv.start hfit AcN lq1cN lq2cN (by decide) (by rfl) trivial
  obtain ⟨n, o, h1, h2, h3, _, L, rfl, ⟨rfl, N, -⟩, hq⟩ := rm_law l s _ hw tables_1 i0 i1 i2 i3 z_IntTrie_EMPTY z_ArrayList_DEFAULTCAPACITY_EMPTY_ELEMENTDATA z_Boolean_TRUE z_IntTrie_Chunk_NONE cN.cls z_Dependencies_NO_KEYS z_Dependencies_NO_WORDS s.heap s.heap.size (Nat.le_refl _) S_z_IntTrie_EMPTY S_z_IntTrie_Chunk_NONE S_z_ArrayList_DEFAULTCAPACITY_EMPTY_ELEMENTDATA V_z_IntTrie_Chunk_NONE E_z_IntTrie_EMPTY F_z_IntTrie_EMPTY_root F_z_IntTrie_EMPTY_level E_z_Boolean_TRUE S_z_Boolean_TRUE S_z_Dependencies_NO_KEYS S_z_Dependencies_NO_WORDS p e ha hc hk s m _ below hf ((Spec.applies_iff_loose hf).mp happ).1 ⟨rfl, State.Warmed39.refl s, rfl⟩ trivial
  refine ⟨n, _, h1, h2, h3, hpost _ _ _ _ _ _ ⟨Cond.after_iff.mpr rfl, Cond.after_iff.mpr (eq_i res_at (Term.int_eval (1)) rfl), trivial⟩ ⟨hq.1, hq.2.1, hq.2.2.1, (hq.2.2.2.sift fun y hy => Or.inr (N y hy)).mono (by decide) (by decide)⟩⟩
theorem main_1_1 : Claimed_1_1 := comes_1 fun _ _ _ _ _ _ h hF => ⟨h.1, hF⟩
theorem main_1_2 : Claimed_1_2 := comes_1 fun _ _ _ _ _ _ h hF => ⟨h.2.1, hF⟩
end Jvm.Pilot.@@N@@
namespace Jvm.Pilot.@@N@@
open Jvm Jvm.ClassFile Sem Op Lib Jvm.Free Jvm.Stand Jvm.Pilot.@@N@@.Jvm.D
/-! MADE BY PROGRAM (witnessworld.py) out of the Statement's table words and the real class files: 55 classes; the members and pool entries that the words name. The judged class is class 1, her method 1. -/
namespace start1
open Jvm.ClassFile
def u (s : String) : CpInfo := .utf8 (stringToUtf16 s)
/-- a pool by its gaps: so many unusable entries, then the entry; so many at the end -/
def gap : Nat → List CpInfo → List CpInfo
  | 0, r => r
  | n + 1, r => .unusable :: gap n r
def poolList (es : List (Nat × CpInfo)) (last : Nat) : List CpInfo := es.foldr (fun e r => gap e.1 (e.2 :: r)) (gap last [])
def pool (es : List (Nat × CpInfo)) (last : Nat) : Array CpInfo := ⟨poolList es last⟩
def fileOf (pool : Array CpInfo) (this : Nat) (attrs : Array Attribute := #[]) (ms : Array MethodInfo := #[]) (fl : Nat := 33) (sup : Nat := 0) (ifs : Array Nat := #[]) (fds : Array FieldInfo := #[]) : ClassFile where
  minorVersion := 0
  majorVersion := 65
  constantPool := pool
  accessFlags := fl
  thisClass := this
  superClass := sup
  interfaces := ifs
  fields := fds
  methods := ms
  attributes := attrs
def plain (name : String) (sup : Option ClassId) : Class where
  name := name
  kind := .ordinary
  loader := none
  accessFlags := 33
  super := sup
  interfaces := #[]
  cf := none
  fields := #[]
  methods := #[]
  instanceTypes := #[]
  staticTypes := #[]
  resolved := #[]
  callSites := []
  init := .initialized
  statics := none
  mirror := none

def pool0 : Array CpInfo := pool [(5, u "<init>"), (0, u "()V"), (1, .class_ 10), (1, u "java/lang/Object")] 113

def k0c0 : Code := { maxStack := 0, maxLocals := 1, code := object_method_1_code, exceptionTable := #[], attributes := #[] }
def k0m0 : Method := { name := "<init>", desc := "()V", sig := { parameters := [], returnType := none }, accessFlags := 1, code := some k0c0 }
/-- java/lang/Object -/
def k0 : Class := { plain "java/lang/Object" none with
  accessFlags := 33
  interfaces := #[]
  cf := some (fileOf pool0 8 #[] #[{ accessFlags := 1, nameIndex := 5, descriptorIndex := 6, attributes := #[] }] 33 0 #[] #[])
  fields := #[]
  methods := #[k0m0]
  instanceTypes := #[]
  staticTypes := #[]
  resolved := Array.replicate 124 none
  statics := none }

def pool1 : Array CpInfo := pool [(2, .class_ 4), (0, .nameAndType 5 6), (0, u "java/lang/Object"), (0, u "<init>"), (0, u "()V"), (0, .class_ 8), (0, u "org/tallyrole/core/Graph"), (0, .methodref 7 3), (0, .methodref 7 11), (0, .nameAndType 12 13), (0, u "addNode"), (0, u "()I"), (0, .methodref 7 15), (0, .nameAndType 16 13), (0, u "size"), (0, .integer 2147483647), (0, .class_ 19), (0, u "org/tallyrole/core/Dependencies"), (0, .methodref 18 3), (0, .methodref 7 22), (0, .nameAndType 23 24), (0, u "merge"), (0, u "(IILorg/tallyrole/core/Dependencies;)Ljava/util/List;"), (0, .methodref 7 26), (0, .nameAndType 27 28), (0, u "node"), (0, u "(I)Lorg/tallyrole/core/Graph$Node;"), (0, .methodref 7 30), (0, .nameAndType 31 28), (0, u "writable"), (0, .class_ 33), (0, u "org/tallyrole/core/GraphNodePinLaw"), (2, u "law"), (0, u "(IIII)Z")] 7

def k1m0 : Method := { name := "<init>", desc := "()V", sig := { parameters := [], returnType := none }, accessFlags := 2, code := none }
def k1c1 : Code := { maxStack := 5, maxLocals := 12, code := code, exceptionTable := #[], attributes := #[] }
def k1m1 : Method := { name := "law", desc := "(IIII)Z", sig := { parameters := [.int, .int, .int, .int], returnType := some .boolean }, accessFlags := 9, code := some k1c1 }
/-- org/tallyrole/core/GraphNodePinLaw -/
def k1 : Class := { plain "org/tallyrole/core/GraphNodePinLaw" (some 0) with
  accessFlags := 49
  interfaces := #[]
  cf := some (fileOf pool1 32 #[] #[{ accessFlags := 2, nameIndex := 5, descriptorIndex := 6, attributes := #[] }, { accessFlags := 9, nameIndex := 36, descriptorIndex := 37, attributes := #[] }] 49 2 #[] #[])
  fields := #[]
  methods := #[k1m0, k1m1]
  instanceTypes := #[]
  staticTypes := #[]
  resolved := Array.replicate 45 none
  statics := none }

def pool2 : Array CpInfo := pool [(1, .methodref 2 3), (0, .class_ 4), (0, .nameAndType 5 6), (0, u "java/lang/Object"), (0, u "<init>"), (0, u "()V"), (0, .methodref 8 9), (0, .class_ 10), (0, .nameAndType 11 12), (0, u "org/tallyrole/core/IntTrie"), (0, u "empty"), (0, u "()Lorg/tallyrole/core/IntTrie;"), (0, .fieldref 14 15), (0, .class_ 16), (0, .nameAndType 17 18), (0, u "org/tallyrole/core/Graph"), (0, u "nodes"), (0, u "Lorg/tallyrole/core/IntTrie;"), (0, .fieldref 14 20), (0, .nameAndType 21 18), (0, u "incoming"), (0, .fieldref 14 23), (0, .nameAndType 24 18), (0, u "mayBeOpen"), (0, .fieldref 14 26), (0, .nameAndType 27 18), (0, u "unsettled"), (0, .fieldref 14 29), (0, .nameAndType 30 18), (0, u "nominals"), (0, .fieldref 14 32), (0, .nameAndType 33 34), (0, u "generation"), (0, u "Ljava/lang/Object;"), (0, .class_ 36), (0, u "java/util/ArrayDeque"), (0, .methodref 35 3), (0, .fieldref 14 39), (0, .nameAndType 40 41), (0, u "agenda"), (0, u "Ljava/util/Deque;"), (0, .class_ 43), (0, u "java/util/HashMap"), (0, .methodref 42 3), (0, .fieldref 14 46), (0, .nameAndType 47 48), (0, u "nominalNumbers"), (0, u "Ljava/util/Map;"), (0, .fieldref 14 50), (0, .nameAndType 51 52), (0, u "size"), (0, u "I"), (5, u "numbersShared"), (0, u "Z"), (2, u "distinctSets"), (2, u "forbiddenEdge"), (0, u "Lorg/tallyrole/core/Dependencies;"), (0, .class_ 68), (0, u "org/tallyrole/core/Graph$Node"), (0, .methodref 67 70), (0, .nameAndType 5 71), (0, u "(Ljava/lang/Object;)V"), (0, .methodref 8 73), (0, .nameAndType 74 75), (0, u "with"), (0, u "(ILjava/lang/Object;Ljava/lang/Object;)Lorg/tallyrole/core/IntTrie;"), (0, .methodref 14 77), (0, .nameAndType 78 79), (0, u "unsettle"), (0, u "(I)V"), (0, .methodref 8 81), (0, .nameAndType 82 83), (0, u "get"), (0, u "(I)Ljava/lang/Object;"), (0, .fieldref 67 85), (0, .nameAndType 86 48), (0, u "label"), (1, .class_ 90), (1, u "java/util/Map"), (0, u "containsKey"), (1, .methodref 14 94), (0, .nameAndType 95 96), (0, u "writable"), (0, u "(I)Lorg/tallyrole/core/Graph$Node;"), (0, .fieldref 67 98), (0, .nameAndType 99 41), (0, u "pending"), (0, .interfaceMethodref 101 102), (0, .class_ 103), (0, .nameAndType 104 105), (0, u "java/util/Deque"), (0, u "isEmpty"), (0, u "()Z"), (4, u "valueOf"), (4, .methodref 8 116), (0, .nameAndType 91 117), (0, u "(I)Z"), (0, .methodref 119 120), (0, .class_ 121), (0, .nameAndType 110 122), (0, u "java/lang/Boolean"), (0, u "(Z)Ljava/lang/Boolean;"), (0, .class_ 124), (0, u "org/tallyrole/core/Graph$Derived"), (10, u "()I"), (0, .fieldref 67 32), (7, .methodref 8 145), (0, .nameAndType 146 147), (0, u "ceilingKey"), (0, u "(I)I"), (4, .methodref 8 153), (0, .nameAndType 154 155), (0, u "without"), (0, u "(ILjava/lang/Object;)Lorg/tallyrole/core/IntTrie;"), (11, u "(Ljava/lang/Object;Ljava/lang/Object;)Ljava/lang/Object;"), (0, .fieldref 67 169), (0, .nameAndType 170 171), (0, u "individuals"), (0, u "Ljava/util/List;"), (1, .class_ 174), (0, u "java/util/List"), (3, .methodref 8 179), (0, .nameAndType 180 181), (0, u "keys"), (0, u "()Ljava/lang/Iterable;"), (0, .interfaceMethodref 183 184), (0, .class_ 185), (0, .nameAndType 186 187), (0, u "java/lang/Iterable"), (0, u "iterator"), (0, u "()Ljava/util/Iterator;"), (0, .interfaceMethodref 189 190), (0, .class_ 191), (0, .nameAndType 192 105), (0, u "java/util/Iterator"), (0, u "hasNext"), (4, .class_ 198), (0, u "java/util/Set"), (0, .fieldref 67 200), (0, .nameAndType 201 48), (0, u "successors"), (4, .class_ 208), (1, u "org/tallyrole/core/Graph$Edge"), (32, .fieldref 67 242), (0, .nameAndType 243 48), (0, u "banned"), (4, .fieldref 67 249), (0, .nameAndType 250 18), (0, u "distinct"), (9, .methodref 14 261), (0, .nameAndType 262 263), (0, u "different"), (0, u "(II)Lorg/tallyrole/core/Dependencies;"), (9, .interfaceMethodref 88 274), (0, .nameAndType 275 276), (0, u "entrySet"), (0, u "()Ljava/util/Set;"), (0, .interfaceMethodref 197 184), (8, .methodref 8 102), (0, .interfaceMethodref 173 102), (6, .class_ 295), (0, u "java/util/ArrayList"), (0, .methodref 294 3), (0, .invokeDynamic 1 298), (0, .nameAndType 299 300), (0, u "accept"), (0, u "(IILorg/tallyrole/core/Dependencies;Ljava/util/List;)Ljava/util/function/BiConsumer;"), (0, .interfaceMethodref 88 302), (0, .nameAndType 303 304), (0, u "forEach"), (0, u "(Ljava/util/function/BiConsumer;)V"), (0, .invokeDynamic 2 298), (0, .methodref 307 308), (0, .class_ 309), (0, .nameAndType 310 167), (0, u "java/util/Objects"), (0, u "requireNonNullElse"), (9, .invokeDynamic 5 321), (0, .nameAndType 299 322), (0, u "(Lorg/tallyrole/core/Graph;)Ljava/util/function/Consumer;"), (0, .interfaceMethodref 173 324), (0, .nameAndType 303 325), (0, u "(Ljava/util/function/Consumer;)V"), (26, u "addNode"), (0, u "node"), (16, u "forbid"), (0, u "(Lorg/tallyrole/core/Graph$Edge;)V"), (4, u "merge"), (0, u "(IILorg/tallyrole/core/Dependencies;)Ljava/util/List;"), (12, u "lambda$merge$1"), (0, u "(IILorg/tallyrole/core/Dependencies;Ljava/util/List;Lorg/tallyrole/core/Role;Lorg/tallyrole/core/IntTrie;)V"), (0, u "lambda$merge$0"), (6, .methodType 400), (0, u "(Ljava/lang/Object;Ljava/lang/Object;)V"), (0, .methodHandle 6 402), (0, .methodref 14 403), (0, .nameAndType 392 391), (0, .methodType 405), (0, u "(Lorg/tallyrole/core/Role;Lorg/tallyrole/core/IntTrie;)V"), (0, .methodHandle 6 407), (0, .methodref 14 408), (0, .nameAndType 390 391), (8, .methodType 71), (0, .methodHandle 5 419), (0, .methodref 14 420), (0, .nameAndType 370 371), (0, .methodType 371), (14, .methodHandle 6 437), (0, .methodref 438 439), (0, .class_ 440), (0, .nameAndType 441 442), (0, u "java/lang/invoke/LambdaMetafactory"), (0, u "metafactory"), (0, u "(Ljava/lang/invoke/MethodHandles$Lookup;Ljava/lang/String;Ljava/lang/invoke/MethodType;Ljava/lang/invoke/MethodType;Ljava/lang/invoke/MethodHandle;Ljava/lang/invoke/MethodType;)Ljava/lang/invoke/CallSite;")] 13

def k2c0 : Code := { maxStack := 3, maxLocals := 1, code := prog_39_method_1_code, exceptionTable := #[], attributes := #[] }
def k2m0 : Method := { name := "<init>", desc := "()V", sig := { parameters := [], returnType := none }, accessFlags := 0, code := some k2c0 }
def k2c1 : Code := { maxStack := 6, maxLocals := 2, code := prog_39_method_3_code, exceptionTable := #[], attributes := #[] }
def k2m1 : Method := { name := "addNode", desc := "()I", sig := { parameters := [], returnType := some .int }, accessFlags := 0, code := some k2c1 }
def k2c2 : Code := { maxStack := 1, maxLocals := 1, code := prog_39_method_4_code, exceptionTable := #[], attributes := #[] }
def k2m2 : Method := { name := "size", desc := "()I", sig := { parameters := [], returnType := some .int }, accessFlags := 0, code := some k2c2 }
def k2c3 : Code := { maxStack := 2, maxLocals := 2, code := prog_39_method_5_code, exceptionTable := #[], attributes := #[] }
def k2m3 : Method := { name := "node", desc := "(I)Lorg/tallyrole/core/Graph$Node;", sig := { parameters := [.int], returnType := some (.object "org/tallyrole/core/Graph$Node") }, accessFlags := 0, code := some k2c3 }
def k2c4 : Code := { maxStack := 5, maxLocals := 3, code := prog_39_method_8_code, exceptionTable := #[], attributes := #[] }
def k2m4 : Method := { name := "writable", desc := "(I)Lorg/tallyrole/core/Graph$Node;", sig := { parameters := [.int], returnType := some (.object "org/tallyrole/core/Graph$Node") }, accessFlags := 0, code := some k2c4 }
def k2c5 : Code := { maxStack := 4, maxLocals := 3, code := ⟨#[0x2a, 0x2b, 0xb6, 0x00, 0xcd, 0x2b, 0xb6, 0x00, 0xd2, 0x2b, 0xb6, 0x00, 0xd9, 0xb6, 0x00, 0xe3, 0xc6, 0x00, 0x04, 0xb1, 0x2a, 0x2a, 0x2b, 0xb6, 0x00, 0xcd, 0xb6, 0x00, 0x5d, 0xb4, 0x00, 0xf1, 0x2b, 0xb6, 0x00, 0xdc, 0x2a, 0x2b, 0xb6, 0x00, 0xcd, 0x2b, 0xb6, 0x00, 0xd9, 0xb6, 0x00, 0xdf, 0x2a, 0x2b, 0xb6, 0x00, 0xcd, 0x2b, 0xb6, 0x00, 0xd2, 0xb6, 0x00, 0xd6, 0x2b, 0xb6, 0x00, 0xd9, 0xb6, 0x00, 0x50, 0xc0, 0x00, 0xec, 0x4d, 0x2c, 0xc6, 0x00, 0x16, 0x2a, 0xb4, 0x00, 0x3f, 0xc7, 0x00, 0x0f, 0x2a, 0x2b, 0xb6, 0x00, 0xe7, 0x2c, 0xb8, 0x00, 0xeb, 0xb5, 0x00, 0x3f, 0xb1]⟩, exceptionTable := #[], attributes := #[] }
def k2m5 : Method := { name := "forbid", desc := "(Lorg/tallyrole/core/Graph$Edge;)V", sig := { parameters := [(.object "org/tallyrole/core/Graph$Edge")], returnType := none }, accessFlags := 0, code := some k2c5 }
def k2c6 : Code := { maxStack := 3, maxLocals := 7, code := prog_39_method_23_code, exceptionTable := #[], attributes := #[] }
def k2m6 : Method := { name := "different", desc := "(II)Lorg/tallyrole/core/Dependencies;", sig := { parameters := [.int, .int], returnType := some (.object "org/tallyrole/core/Dependencies") }, accessFlags := 0, code := some k2c6 }
def k2c7 : Code := { maxStack := 7, maxLocals := 11, code := prog_39_method_24_code, exceptionTable := #[], attributes := #[] }
def k2m7 : Method := { name := "merge", desc := "(IILorg/tallyrole/core/Dependencies;)Ljava/util/List;", sig := { parameters := [.int, .int, (.object "org/tallyrole/core/Dependencies")], returnType := some (.object "java/util/List") }, accessFlags := 0, code := some k2c7 }
def k2c8 : Code := { maxStack := 5, maxLocals := 2, code := prog_39_method_28_code, exceptionTable := #[], attributes := #[] }
def k2m8 : Method := { name := "unsettle", desc := "(I)V", sig := { parameters := [.int], returnType := none }, accessFlags := 2, code := some k2c8 }
def k2c9 : Code := { maxStack := 6, maxLocals := 6, code := ⟨#[0x19, 0x05, 0x19, 0x04, 0x1a, 0x1b, 0x2c, 0x2d, 0xb8, 0x01, 0x53, 0xb1]⟩, exceptionTable := #[], attributes := #[] }
def k2m9 : Method := { name := "lambda$merge$1", desc := "(IILorg/tallyrole/core/Dependencies;Ljava/util/List;Lorg/tallyrole/core/Role;Lorg/tallyrole/core/IntTrie;)V", sig := { parameters := [.int, .int, (.object "org/tallyrole/core/Dependencies"), (.object "java/util/List"), (.object "org/tallyrole/core/Role"), (.object "org/tallyrole/core/IntTrie")], returnType := none }, accessFlags := 4106, code := some k2c9 }
def k2c10 : Code := { maxStack := 6, maxLocals := 6, code := ⟨#[0x19, 0x05, 0x19, 0x04, 0x1a, 0x1b, 0x2c, 0x2d, 0xb8, 0x01, 0x53, 0xb1]⟩, exceptionTable := #[], attributes := #[] }
def k2m10 : Method := { name := "lambda$merge$0", desc := "(IILorg/tallyrole/core/Dependencies;Ljava/util/List;Lorg/tallyrole/core/Role;Lorg/tallyrole/core/IntTrie;)V", sig := { parameters := [.int, .int, (.object "org/tallyrole/core/Dependencies"), (.object "java/util/List"), (.object "org/tallyrole/core/Role"), (.object "org/tallyrole/core/IntTrie")], returnType := none }, accessFlags := 4106, code := some k2c10 }
/-- org/tallyrole/core/Graph -/
def k2 : Class := { plain "org/tallyrole/core/Graph" (some 0) with
  accessFlags := 48
  interfaces := #[]
  cf := some (fileOf pool2 14 #[.nestMembers #[206, 123, 67], .bootstrapMethods #[⟨0, #[]⟩, ⟨436, #[399, 401, 404]⟩, ⟨436, #[399, 406, 404]⟩, ⟨0, #[]⟩, ⟨0, #[]⟩, ⟨436, #[417, 418, 421]⟩, ⟨0, #[]⟩, ⟨0, #[]⟩]] #[{ accessFlags := 0, nameIndex := 5, descriptorIndex := 6, attributes := #[] }, { accessFlags := 0, nameIndex := 352, descriptorIndex := 135, attributes := #[] }, { accessFlags := 0, nameIndex := 51, descriptorIndex := 135, attributes := #[] }, { accessFlags := 0, nameIndex := 353, descriptorIndex := 96, attributes := #[] }, { accessFlags := 0, nameIndex := 95, descriptorIndex := 96, attributes := #[] }, { accessFlags := 0, nameIndex := 370, descriptorIndex := 371, attributes := #[] }, { accessFlags := 0, nameIndex := 262, descriptorIndex := 263, attributes := #[] }, { accessFlags := 0, nameIndex := 376, descriptorIndex := 377, attributes := #[] }, { accessFlags := 2, nameIndex := 78, descriptorIndex := 79, attributes := #[] }, { accessFlags := 4106, nameIndex := 390, descriptorIndex := 391, attributes := #[] }, { accessFlags := 4106, nameIndex := 392, descriptorIndex := 391, attributes := #[] }] 48 2 #[] #[{ accessFlags := 2, nameIndex := 17, descriptorIndex := 18, attributes := #[] }, { accessFlags := 2, nameIndex := 51, descriptorIndex := 52, attributes := #[] }, { accessFlags := 18, nameIndex := 40, descriptorIndex := 41, attributes := #[] }, { accessFlags := 2, nameIndex := 21, descriptorIndex := 18, attributes := #[] }, { accessFlags := 2, nameIndex := 24, descriptorIndex := 18, attributes := #[] }, { accessFlags := 2, nameIndex := 27, descriptorIndex := 18, attributes := #[] }, { accessFlags := 2, nameIndex := 47, descriptorIndex := 48, attributes := #[] }, { accessFlags := 2, nameIndex := 58, descriptorIndex := 59, attributes := #[] }, { accessFlags := 2, nameIndex := 30, descriptorIndex := 18, attributes := #[] }, { accessFlags := 2, nameIndex := 62, descriptorIndex := 52, attributes := #[] }, { accessFlags := 2, nameIndex := 65, descriptorIndex := 66, attributes := #[] }, { accessFlags := 2, nameIndex := 33, descriptorIndex := 34, attributes := #[] }])
  fields := #[{ name := "nodes", type := (.object "org/tallyrole/core/IntTrie"), accessFlags := 2, slot := 0, constantValue := 0 }, { name := "size", type := .int, accessFlags := 2, slot := 1, constantValue := 0 }, { name := "agenda", type := (.object "java/util/Deque"), accessFlags := 18, slot := 2, constantValue := 0 }, { name := "incoming", type := (.object "org/tallyrole/core/IntTrie"), accessFlags := 2, slot := 3, constantValue := 0 }, { name := "mayBeOpen", type := (.object "org/tallyrole/core/IntTrie"), accessFlags := 2, slot := 4, constantValue := 0 }, { name := "unsettled", type := (.object "org/tallyrole/core/IntTrie"), accessFlags := 2, slot := 5, constantValue := 0 }, { name := "nominalNumbers", type := (.object "java/util/Map"), accessFlags := 2, slot := 6, constantValue := 0 }, { name := "numbersShared", type := .boolean, accessFlags := 2, slot := 7, constantValue := 0 }, { name := "nominals", type := (.object "org/tallyrole/core/IntTrie"), accessFlags := 2, slot := 8, constantValue := 0 }, { name := "distinctSets", type := .int, accessFlags := 2, slot := 9, constantValue := 0 }, { name := "forbiddenEdge", type := (.object "org/tallyrole/core/Dependencies"), accessFlags := 2, slot := 10, constantValue := 0 }, { name := "generation", type := (.object "java/lang/Object"), accessFlags := 2, slot := 11, constantValue := 0 }]
  methods := #[k2m0, k2m1, k2m2, k2m3, k2m4, k2m5, k2m6, k2m7, k2m8, k2m9, k2m10]
  instanceTypes := #[(.object "org/tallyrole/core/IntTrie"), .int, (.object "java/util/Deque"), (.object "org/tallyrole/core/IntTrie"), (.object "org/tallyrole/core/IntTrie"), (.object "org/tallyrole/core/IntTrie"), (.object "java/util/Map"), .boolean, (.object "org/tallyrole/core/IntTrie"), .int, (.object "org/tallyrole/core/Dependencies"), (.object "java/lang/Object")]
  staticTypes := #[]
  resolved := (((((((Array.replicate 456 none).setIfInBounds 69 (some (.method ⟨16, 0⟩))).setIfInBounds 67 (some (.cls 16))).setIfInBounds 248 (some (.field 16 5))).setIfInBounds 168 (some (.field 16 6))).setIfInBounds 241 (some (.field 16 4))).setIfInBounds 136 (some (.field 16 7)))
  callSites := [(7, 396, .makes 51), (7, 416, .makes 52), (7, 542, .makes 54)]
  statics := none }

def pool3 : Array CpInfo := pool [(1, .class_ 2), (0, u "org/tallyrole/core/IntTrie"), (0, .methodref 4 5), (0, .class_ 6), (0, .nameAndType 7 8), (0, u "java/lang/Object"), (0, u "<init>"), (0, u "()V"), (0, .fieldref 1 10), (0, .nameAndType 11 12), (0, u "root"), (0, u "Lorg/tallyrole/core/IntTrie$Chunk;"), (0, .fieldref 1 14), (0, .nameAndType 15 16), (0, u "level"), (0, u "I"), (0, .fieldref 1 18), (0, .nameAndType 19 20), (0, u "EMPTY"), (0, u "Lorg/tallyrole/core/IntTrie;"), (0, .class_ 22), (0, u "org/tallyrole/core/IntTrie$Chunk"), (0, .methodref 21 24), (0, .nameAndType 25 26), (0, u "slot"), (0, u "(I)Ljava/lang/Object;"), (0, .methodref 1 28), (0, .nameAndType 29 26), (0, u "get"), (0, .methodref 31 32), (0, .class_ 33), (0, .nameAndType 34 35), (0, u "java/util/Objects"), (0, u "requireNonNull"), (0, u "(Ljava/lang/Object;)Ljava/lang/Object;"), (9, .methodref 1 46), (0, .nameAndType 47 48), (0, u "path"), (0, u "(IILjava/lang/Object;Ljava/lang/Object;)Lorg/tallyrole/core/IntTrie$Chunk;"), (0, .methodref 21 50), (0, .nameAndType 7 51), (0, u "(Ljava/lang/Object;)V"), (0, .methodref 21 53), (0, .nameAndType 54 55), (0, u "set"), (0, u "(ILjava/lang/Object;)Lorg/tallyrole/core/IntTrie$Chunk;"), (0, .methodref 1 57), (0, .nameAndType 58 59), (0, u "put"), (0, u "(Lorg/tallyrole/core/IntTrie$Chunk;IILjava/lang/Object;Ljava/lang/Object;)Lorg/tallyrole/core/IntTrie$Chunk;"), (0, .methodref 1 61), (0, .nameAndType 7 62), (0, u "(Lorg/tallyrole/core/IntTrie$Chunk;I)V"), (0, .methodref 1 64), (0, .nameAndType 65 66), (0, u "containsKey"), (0, u "(I)Z"), (0, .methodref 1 68), (0, .nameAndType 69 70), (0, u "remove"), (0, u "(Lorg/tallyrole/core/IntTrie$Chunk;IILjava/lang/Object;)Lorg/tallyrole/core/IntTrie$Chunk;"), (0, .methodref 1 72), (0, .nameAndType 73 74), (0, u "empty"), (0, u "()Lorg/tallyrole/core/IntTrie;"), (4, .invokeDynamic 1 80), (0, .nameAndType 81 82), (0, u "iterator"), (0, u "(Lorg/tallyrole/core/IntTrie;)Ljava/lang/Iterable;"), (0, .methodref 21 84), (0, .nameAndType 85 86), (0, u "ownedBy"), (0, u "(Ljava/lang/Object;)Lorg/tallyrole/core/IntTrie$Chunk;"), (0, .fieldref 21 88), (0, .nameAndType 89 16), (0, u "mask"), (5, u "(I)I"), (6, .class_ 103), (0, u "org/tallyrole/core/IntTrie$1"), (0, .methodref 102 105), (0, .nameAndType 7 106), (0, u "(Lorg/tallyrole/core/IntTrie;)V"), (0, u "BITS"), (2, u "MASK"), (8, u "isEmpty"), (0, u "()Z"), (0, u "with"), (0, u "(ILjava/lang/Object;Ljava/lang/Object;)Lorg/tallyrole/core/IntTrie;"), (1, u "without"), (0, u "(ILjava/lang/Object;)Lorg/tallyrole/core/IntTrie;"), (1, u "ceilingKey"), (0, u "keys"), (0, u "()Ljava/lang/Iterable;"), (1, u "lambda$keys$0"), (0, u "()Ljava/util/Iterator;"), (8, .methodType 132), (0, .methodHandle 5 143), (0, .methodref 1 144), (0, .nameAndType 131 132), (6, .methodHandle 6 152), (0, .methodref 153 154), (0, .class_ 155), (0, .nameAndType 156 157), (0, u "java/lang/invoke/LambdaMetafactory"), (0, u "metafactory"), (0, u "(Ljava/lang/invoke/MethodHandles$Lookup;Ljava/lang/String;Ljava/lang/invoke/MethodType;Ljava/lang/invoke/MethodType;Ljava/lang/invoke/MethodHandle;Ljava/lang/invoke/MethodType;)Ljava/lang/invoke/CallSite;")] 7

def k3c0 : Code := { maxStack := 2, maxLocals := 3, code := prog_45_method_1_code, exceptionTable := #[], attributes := #[] }
def k3m0 : Method := { name := "<init>", desc := "(Lorg/tallyrole/core/IntTrie$Chunk;I)V", sig := { parameters := [(.object "org/tallyrole/core/IntTrie$Chunk"), .int], returnType := none }, accessFlags := 2, code := some k3c0 }
def k3c1 : Code := { maxStack := 1, maxLocals := 0, code := prog_45_method_2_code, exceptionTable := #[], attributes := #[] }
def k3m1 : Method := { name := "empty", desc := "()Lorg/tallyrole/core/IntTrie;", sig := { parameters := [], returnType := some (.object "org/tallyrole/core/IntTrie") }, accessFlags := 8, code := some k3c1 }
def k3c2 : Code := { maxStack := 3, maxLocals := 4, code := prog_45_method_3_code, exceptionTable := #[], attributes := #[] }
def k3m2 : Method := { name := "get", desc := "(I)Ljava/lang/Object;", sig := { parameters := [.int], returnType := some (.object "java/lang/Object") }, accessFlags := 0, code := some k3c2 }
def k3c3 : Code := { maxStack := 1, maxLocals := 1, code := prog_45_method_4_code, exceptionTable := #[], attributes := #[] }
def k3m3 : Method := { name := "isEmpty", desc := "()Z", sig := { parameters := [], returnType := some .boolean }, accessFlags := 0, code := some k3c3 }
def k3c4 : Code := { maxStack := 2, maxLocals := 2, code := prog_45_method_5_code, exceptionTable := #[], attributes := #[] }
def k3m4 : Method := { name := "containsKey", desc := "(I)Z", sig := { parameters := [.int], returnType := some .boolean }, accessFlags := 0, code := some k3c4 }
def k3c5 : Code := { maxStack := 5, maxLocals := 7, code := prog_45_method_6_code, exceptionTable := #[], attributes := #[] }
def k3m5 : Method := { name := "with", desc := "(ILjava/lang/Object;Ljava/lang/Object;)Lorg/tallyrole/core/IntTrie;", sig := { parameters := [.int, (.object "java/lang/Object"), (.object "java/lang/Object")], returnType := some (.object "org/tallyrole/core/IntTrie") }, accessFlags := 0, code := some k3c5 }
def k3c6 : Code := { maxStack := 4, maxLocals := 5, code := prog_45_method_7_code, exceptionTable := #[], attributes := #[] }
def k3m6 : Method := { name := "without", desc := "(ILjava/lang/Object;)Lorg/tallyrole/core/IntTrie;", sig := { parameters := [.int, (.object "java/lang/Object")], returnType := some (.object "org/tallyrole/core/IntTrie") }, accessFlags := 0, code := some k3c6 }
def k3c7 : Code := { maxStack := 4, maxLocals := 3, code := prog_45_method_8_code, exceptionTable := #[], attributes := #[] }
def k3m7 : Method := { name := "ceilingKey", desc := "(I)I", sig := { parameters := [.int], returnType := some .int }, accessFlags := 0, code := some k3c7 }
def k3c8 : Code := { maxStack := 1, maxLocals := 1, code := prog_45_method_9_code, exceptionTable := #[], attributes := #[] }
def k3m8 : Method := { name := "keys", desc := "()Ljava/lang/Iterable;", sig := { parameters := [], returnType := some (.object "java/lang/Iterable") }, accessFlags := 0, code := some k3c8 }
def k3c9 : Code := { maxStack := 5, maxLocals := 8, code := prog_45_method_10_code, exceptionTable := #[], attributes := #[] }
def k3m9 : Method := { name := "put", desc := "(Lorg/tallyrole/core/IntTrie$Chunk;IILjava/lang/Object;Ljava/lang/Object;)Lorg/tallyrole/core/IntTrie$Chunk;", sig := { parameters := [(.object "org/tallyrole/core/IntTrie$Chunk"), .int, .int, (.object "java/lang/Object"), (.object "java/lang/Object")], returnType := some (.object "org/tallyrole/core/IntTrie$Chunk") }, accessFlags := 10, code := some k3c9 }
def k3c10 : Code := { maxStack := 4, maxLocals := 5, code := prog_45_method_11_code, exceptionTable := #[], attributes := #[] }
def k3m10 : Method := { name := "path", desc := "(IILjava/lang/Object;Ljava/lang/Object;)Lorg/tallyrole/core/IntTrie$Chunk;", sig := { parameters := [.int, .int, (.object "java/lang/Object"), (.object "java/lang/Object")], returnType := some (.object "org/tallyrole/core/IntTrie$Chunk") }, accessFlags := 10, code := some k3c10 }
def k3c11 : Code := { maxStack := 4, maxLocals := 8, code := prog_45_method_12_code, exceptionTable := #[], attributes := #[] }
def k3m11 : Method := { name := "remove", desc := "(Lorg/tallyrole/core/IntTrie$Chunk;IILjava/lang/Object;)Lorg/tallyrole/core/IntTrie$Chunk;", sig := { parameters := [(.object "org/tallyrole/core/IntTrie$Chunk"), .int, .int, (.object "java/lang/Object")], returnType := some (.object "org/tallyrole/core/IntTrie$Chunk") }, accessFlags := 10, code := some k3c11 }
def k3c12 : Code := { maxStack := 3, maxLocals := 1, code := prog_45_method_14_code, exceptionTable := #[], attributes := #[] }
def k3m12 : Method := { name := "lambda$keys$0", desc := "()Ljava/util/Iterator;", sig := { parameters := [], returnType := some (.object "java/util/Iterator") }, accessFlags := 4098, code := some k3c12 }
/-- org/tallyrole/core/IntTrie -/
def k3 : Class := { plain "org/tallyrole/core/IntTrie" (some 0) with
  accessFlags := 48
  interfaces := #[]
  cf := some (fileOf pool3 1 #[.nestMembers #[21, 102], .bootstrapMethods #[⟨0, #[]⟩, ⟨151, #[141, 142, 141]⟩]] #[{ accessFlags := 2, nameIndex := 7, descriptorIndex := 62, attributes := #[] }, { accessFlags := 8, nameIndex := 73, descriptorIndex := 74, attributes := #[] }, { accessFlags := 0, nameIndex := 29, descriptorIndex := 26, attributes := #[] }, { accessFlags := 0, nameIndex := 119, descriptorIndex := 120, attributes := #[] }, { accessFlags := 0, nameIndex := 65, descriptorIndex := 66, attributes := #[] }, { accessFlags := 0, nameIndex := 121, descriptorIndex := 122, attributes := #[] }, { accessFlags := 0, nameIndex := 124, descriptorIndex := 125, attributes := #[] }, { accessFlags := 0, nameIndex := 127, descriptorIndex := 95, attributes := #[] }, { accessFlags := 0, nameIndex := 128, descriptorIndex := 129, attributes := #[] }, { accessFlags := 10, nameIndex := 58, descriptorIndex := 59, attributes := #[] }, { accessFlags := 10, nameIndex := 47, descriptorIndex := 48, attributes := #[] }, { accessFlags := 10, nameIndex := 69, descriptorIndex := 70, attributes := #[] }, { accessFlags := 4098, nameIndex := 131, descriptorIndex := 132, attributes := #[] }] 48 4 #[] #[{ accessFlags := 26, nameIndex := 107, descriptorIndex := 16, attributes := #[] }, { accessFlags := 26, nameIndex := 110, descriptorIndex := 16, attributes := #[] }, { accessFlags := 26, nameIndex := 19, descriptorIndex := 20, attributes := #[] }, { accessFlags := 18, nameIndex := 11, descriptorIndex := 12, attributes := #[] }, { accessFlags := 18, nameIndex := 15, descriptorIndex := 16, attributes := #[] }])
  fields := #[{ name := "BITS", type := .int, accessFlags := 26, slot := 0, constantValue := 0 }, { name := "MASK", type := .int, accessFlags := 26, slot := 1, constantValue := 0 }, { name := "EMPTY", type := (.object "org/tallyrole/core/IntTrie"), accessFlags := 26, slot := 2, constantValue := 0 }, { name := "root", type := (.object "org/tallyrole/core/IntTrie$Chunk"), accessFlags := 18, slot := 0, constantValue := 0 }, { name := "level", type := .int, accessFlags := 18, slot := 1, constantValue := 0 }]
  methods := #[k3m0, k3m1, k3m2, k3m3, k3m4, k3m5, k3m6, k3m7, k3m8, k3m9, k3m10, k3m11, k3m12]
  instanceTypes := #[(.object "org/tallyrole/core/IntTrie$Chunk"), .int]
  staticTypes := #[.int, .int, (.object "org/tallyrole/core/IntTrie")]
  resolved := Array.replicate 165 none
  callSites := [(8, 1, .makes 53)]
  statics := some 0 }

def pool4 : Array CpInfo := pool [(8, .class_ 10), (1, u "java/lang/Iterable"), (0, u "iterator"), (0, u "()Ljava/util/Iterator;"), (22, .class_ 36), (0, u "java/lang/Object"), (2, u "forEach"), (0, u "(Ljava/util/function/Consumer;)V")] 21

def k4m0 : Method := { name := "iterator", desc := "()Ljava/util/Iterator;", sig := { parameters := [], returnType := some (.object "java/util/Iterator") }, accessFlags := 1025, code := none }
def k4c1 : Code := { maxStack := 2, maxLocals := 4, code := ⟨#[0x2b, 0xb8, 0x00, 0x01, 0x57, 0x2a, 0xb9, 0x00, 0x07, 0x01, 0x00, 0x4d, 0x2c, 0xb9, 0x00, 0x0d, 0x01, 0x00, 0x99, 0x00, 0x14, 0x2c, 0xb9, 0x00, 0x13, 0x01, 0x00, 0x4e, 0x2b, 0x2d, 0xb9, 0x00, 0x17, 0x02, 0x00, 0xa7, 0xff, 0xe9, 0xb1]⟩, exceptionTable := #[], attributes := #[] }
def k4m1 : Method := { name := "forEach", desc := "(Ljava/util/function/Consumer;)V", sig := { parameters := [(.object "java/util/function/Consumer")], returnType := none }, accessFlags := 1, code := some k4c1 }
/-- java/lang/Iterable -/
def k4 : Class := { plain "java/lang/Iterable" (some 0) with
  accessFlags := 1537
  interfaces := #[]
  cf := some (fileOf pool4 8 #[] #[{ accessFlags := 1025, nameIndex := 11, descriptorIndex := 12, attributes := #[] }, { accessFlags := 1, nameIndex := 39, descriptorIndex := 40, attributes := #[] }] 1537 35 #[] #[])
  fields := #[]
  methods := #[k4m0, k4m1]
  instanceTypes := #[]
  staticTypes := #[]
  resolved := Array.replicate 62 none
  statics := none }

def pool5 : Array CpInfo := pool [(10, .class_ 12), (1, u "java/util/Collection"), (17, u "()Z"), (29, .class_ 61), (0, u "java/lang/Object"), (0, .class_ 63), (0, u "java/lang/Iterable"), (2, u "isEmpty")] 48

def k5m0 : Method := { name := "isEmpty", desc := "()Z", sig := { parameters := [], returnType := some .boolean }, accessFlags := 1025, code := none }
/-- java/util/Collection -/
def k5 : Class := { plain "java/util/Collection" (some 0) with
  accessFlags := 1537
  interfaces := #[4]
  cf := some (fileOf pool5 10 #[] #[{ accessFlags := 1025, nameIndex := 66, descriptorIndex := 30, attributes := #[] }] 1537 60 #[62] #[])
  fields := #[]
  methods := #[k5m0]
  instanceTypes := #[]
  staticTypes := #[]
  resolved := Array.replicate 115 none
  statics := none }

def pool6 : Array CpInfo := pool [(1, .methodref 2 3), (0, .class_ 4), (0, .nameAndType 5 6), (0, u "java/lang/Object"), (0, u "<init>"), (0, u "()V"), (1, .class_ 10), (1, u "java/util/AbstractCollection"), (66, .class_ 78), (0, u "java/util/Collection")] 81

def k6c0 : Code := { maxStack := 1, maxLocals := 1, code := jdk_22_method_1_code, exceptionTable := #[], attributes := #[] }
def k6m0 : Method := { name := "<init>", desc := "()V", sig := { parameters := [], returnType := none }, accessFlags := 4, code := some k6c0 }
/-- java/util/AbstractCollection -/
def k6 : Class := { plain "java/util/AbstractCollection" (some 0) with
  accessFlags := 1057
  interfaces := #[5]
  cf := some (fileOf pool6 8 #[] #[{ accessFlags := 4, nameIndex := 5, descriptorIndex := 6, attributes := #[] }] 1057 2 #[77] #[])
  fields := #[]
  methods := #[k6m0]
  instanceTypes := #[]
  staticTypes := #[]
  resolved := Array.replicate 160 none
  statics := none }

def pool7 : Array CpInfo := pool [(1, .class_ 2), (0, u "java/util/Queue"), (0, .class_ 4), (0, u "java/lang/Object"), (0, .class_ 6), (0, u "java/util/Collection")] 14

/-- java/util/Queue -/
def k7 : Class := { plain "java/util/Queue" (some 0) with
  accessFlags := 1537
  interfaces := #[5]
  cf := some (fileOf pool7 1 #[] #[] 1537 3 #[5] #[])
  fields := #[]
  methods := #[]
  instanceTypes := #[]
  staticTypes := #[]
  resolved := Array.replicate 21 none
  statics := none }

def pool8 : Array CpInfo := pool [(8, .class_ 10), (1, u "java/util/SequencedCollection"), (15, .class_ 27), (0, u "java/lang/Object"), (0, .class_ 29), (0, u "java/util/Collection")] 27

/-- java/util/SequencedCollection -/
def k8 : Class := { plain "java/util/SequencedCollection" (some 0) with
  accessFlags := 1537
  interfaces := #[5]
  cf := some (fileOf pool8 8 #[] #[] 1537 26 #[28] #[])
  fields := #[]
  methods := #[]
  instanceTypes := #[]
  staticTypes := #[]
  resolved := Array.replicate 57 none
  statics := none }

def pool9 : Array CpInfo := pool [(8, .class_ 10), (1, u "java/util/Deque"), (2, .class_ 14), (0, u "java/lang/Object"), (0, .class_ 16), (0, u "java/util/Queue"), (0, .class_ 18), (0, u "java/util/SequencedCollection")] 51

/-- java/util/Deque -/
def k9 : Class := { plain "java/util/Deque" (some 0) with
  accessFlags := 1537
  interfaces := #[7, 8]
  cf := some (fileOf pool9 8 #[] #[] 1537 13 #[15, 17] #[])
  fields := #[]
  methods := #[]
  instanceTypes := #[]
  staticTypes := #[]
  resolved := Array.replicate 70 none
  statics := none }

def pool10 : Array CpInfo := pool [(1, .class_ 2), (0, u "java/lang/Cloneable"), (0, .class_ 4), (0, u "java/lang/Object")] 2

/-- java/lang/Cloneable -/
def k10 : Class := { plain "java/lang/Cloneable" (some 0) with
  accessFlags := 1537
  interfaces := #[]
  cf := some (fileOf pool10 1 #[] #[] 1537 3 #[] #[])
  fields := #[]
  methods := #[]
  instanceTypes := #[]
  staticTypes := #[]
  resolved := Array.replicate 7 none
  statics := none }

def pool11 : Array CpInfo := pool [(1, .class_ 2), (0, u "java/io/Serializable"), (0, .class_ 4), (0, u "java/lang/Object")] 2

/-- java/io/Serializable -/
def k11 : Class := { plain "java/io/Serializable" (some 0) with
  accessFlags := 1537
  interfaces := #[]
  cf := some (fileOf pool11 1 #[] #[] 1537 3 #[] #[])
  fields := #[]
  methods := #[]
  instanceTypes := #[]
  staticTypes := #[]
  resolved := Array.replicate 7 none
  statics := none }

def pool12 : Array CpInfo := pool [(3, .fieldref 4 5), (0, .class_ 6), (0, .nameAndType 7 8), (0, u "java/util/ArrayDeque"), (0, u "elements"), (0, u "[Ljava/lang/Object;"), (11, .fieldref 4 21), (0, .nameAndType 22 23), (0, u "tail"), (0, u "I"), (0, .fieldref 4 25), (0, .nameAndType 26 23), (0, u "head"), (12, u "<init>"), (2, .methodref 43 44), (0, .class_ 45), (0, .nameAndType 39 46), (0, u "java/util/AbstractCollection"), (0, u "()V"), (0, .class_ 48), (0, u "java/lang/Object"), (82, .class_ 132), (0, u "java/util/ArrayDeque$DeqIterator"), (3, .class_ 137), (0, u "java/util/ArrayDeque$DescendingIterator"), (1, .class_ 140), (0, u "java/util/ArrayDeque$DeqSpliterator"), (137, .class_ 279), (0, u "java/util/Deque"), (0, .class_ 281), (0, u "java/lang/Cloneable"), (0, .class_ 283), (0, u "java/io/Serializable"), (0, u "MAX_ARRAY_SIZE"), (1, u "serialVersionUID"), (0, u "J"), (59, u "isEmpty"), (0, u "()Z")] 89

def k12c0 : Code := { maxStack := 2, maxLocals := 1, code := jdk_21_method_3_code, exceptionTable := #[], attributes := #[] }
def k12m0 : Method := { name := "<init>", desc := "()V", sig := { parameters := [], returnType := none }, accessFlags := 1, code := some k12c0 }
def k12c1 : Code := { maxStack := 2, maxLocals := 1, code := jdk_21_method_38_code, exceptionTable := #[], attributes := #[] }
def k12m1 : Method := { name := "isEmpty", desc := "()Z", sig := { parameters := [], returnType := some .boolean }, accessFlags := 1, code := some k12c1 }
/-- java/util/ArrayDeque -/
def k12 : Class := { plain "java/util/ArrayDeque" (some 6) with
  accessFlags := 33
  interfaces := #[9, 10, 11]
  cf := some (fileOf pool12 4 #[.nestMembers #[139, 136, 131]] #[{ accessFlags := 1, nameIndex := 39, descriptorIndex := 46, attributes := #[] }, { accessFlags := 1, nameIndex := 347, descriptorIndex := 348, attributes := #[] }] 33 43 #[278, 280, 282] #[{ accessFlags := 128, nameIndex := 7, descriptorIndex := 8, attributes := #[] }, { accessFlags := 128, nameIndex := 26, descriptorIndex := 23, attributes := #[] }, { accessFlags := 128, nameIndex := 22, descriptorIndex := 23, attributes := #[] }, { accessFlags := 26, nameIndex := 284, descriptorIndex := 23, attributes := #[] }, { accessFlags := 26, nameIndex := 286, descriptorIndex := 287, attributes := #[] }])
  fields := #[{ name := "elements", type := (.array (.object "java/lang/Object")), accessFlags := 128, slot := 0, constantValue := 0 }, { name := "head", type := .int, accessFlags := 128, slot := 1, constantValue := 0 }, { name := "tail", type := .int, accessFlags := 128, slot := 2, constantValue := 0 }, { name := "MAX_ARRAY_SIZE", type := .int, accessFlags := 26, slot := 0, constantValue := 0 }, { name := "serialVersionUID", type := .long, accessFlags := 26, slot := 1, constantValue := 0 }]
  methods := #[k12m0, k12m1]
  instanceTypes := #[(.array (.object "java/lang/Object")), .int, .int]
  staticTypes := #[.int, .long]
  resolved := Array.replicate 438 none
  statics := none }

def pool13 : Array CpInfo := pool [(2, .class_ 4), (1, u "java/util/Map"), (13, u "entrySet"), (0, u "()Ljava/util/Set;"), (16, .class_ 37), (0, u "java/util/Map$Entry"), (55, .class_ 94), (0, u "java/lang/Object"), (58, u "forEach"), (0, u "(Ljava/util/function/BiConsumer;)V")] 108

def k13m0 : Method := { name := "entrySet", desc := "()Ljava/util/Set;", sig := { parameters := [], returnType := some (.object "java/util/Set") }, accessFlags := 1025, code := none }
def k13c1 : Code := { maxStack := 3, maxLocals := 7, code := ⟨#[0x2b, 0xb8, 0x00, 0x0b, 0x57, 0x2a, 0xb9, 0x00, 0x10, 0x01, 0x00, 0xb9, 0x00, 0x14, 0x01, 0x00, 0x4d, 0x2c, 0xb9, 0x00, 0x1a, 0x01, 0x00, 0x99, 0x00, 0x39, 0x2c, 0xb9, 0x00, 0x20, 0x01, 0x00, 0xc0, 0x00, 0x24, 0x4e, 0x2d, 0xb9, 0x00, 0x26, 0x01, 0x00, 0x3a, 0x04, 0x2d, 0xb9, 0x00, 0x29, 0x01, 0x00, 0x3a, 0x05, 0xa7, 0x00, 0x0f, 0x3a, 0x06, 0xbb, 0x00, 0x2e, 0x59, 0x19, 0x06, 0xb7, 0x00, 0x30, 0xbf, 0x2b, 0x19, 0x04, 0x19, 0x05, 0xb9, 0x00, 0x34, 0x03, 0x00, 0xa7, 0xff, 0xc4, 0xb1]⟩, exceptionTable := #[{ startPc := 36, endPc := 52, handlerPc := 55, catchType := 44 }], attributes := #[] }
def k13m1 : Method := { name := "forEach", desc := "(Ljava/util/function/BiConsumer;)V", sig := { parameters := [(.object "java/util/function/BiConsumer")], returnType := none }, accessFlags := 1, code := some k13c1 }
/-- java/util/Map -/
def k13 : Class := { plain "java/util/Map" (some 0) with
  accessFlags := 1537
  interfaces := #[]
  cf := some (fileOf pool13 2 #[.nestMembers #[36]] #[{ accessFlags := 1025, nameIndex := 18, descriptorIndex := 19, attributes := #[] }, { accessFlags := 1, nameIndex := 153, descriptorIndex := 154, attributes := #[] }] 1537 93 #[] #[])
  fields := #[]
  methods := #[k13m0, k13m1]
  instanceTypes := #[]
  staticTypes := #[]
  resolved := Array.replicate 263 none
  statics := none }

def pool14 : Array CpInfo := pool [(1, .methodref 2 3), (0, .class_ 4), (0, .nameAndType 5 6), (0, u "java/lang/Object"), (0, u "<init>"), (0, u "()V"), (1, .class_ 10), (1, u "java/util/AbstractMap"), (42, .class_ 54), (0, u "java/util/Map"), (9, u "keySet"), (0, u "Ljava/util/Set;"), (0, .class_ 67), (0, u "java/util/AbstractMap$1"), (5, u "values"), (0, u "Ljava/util/Collection;"), (0, .class_ 76), (0, u "java/util/AbstractMap$2"), (104, .class_ 182), (0, u "java/util/AbstractMap$ViewCollection"), (0, .class_ 184), (0, u "java/util/AbstractMap$SimpleImmutableEntry"), (0, .class_ 186), (0, u "java/util/AbstractMap$SimpleEntry"), (0, .class_ 188), (0, u "java/util/AbstractMap$2$1"), (0, .class_ 190), (0, u "java/util/AbstractMap$1$1")] 5

def k14c0 : Code := { maxStack := 1, maxLocals := 1, code := jdk_71_method_1_code, exceptionTable := #[], attributes := #[] }
def k14m0 : Method := { name := "<init>", desc := "()V", sig := { parameters := [], returnType := none }, accessFlags := 4, code := some k14c0 }
/-- java/util/AbstractMap -/
def k14 : Class := { plain "java/util/AbstractMap" (some 0) with
  accessFlags := 1057
  interfaces := #[13]
  cf := some (fileOf pool14 8 #[.nestMembers #[181, 183, 185, 75, 187, 66, 189]] #[{ accessFlags := 4, nameIndex := 5, descriptorIndex := 6, attributes := #[] }] 1057 2 #[53] #[{ accessFlags := 128, nameIndex := 64, descriptorIndex := 65, attributes := #[] }, { accessFlags := 128, nameIndex := 73, descriptorIndex := 74, attributes := #[] }])
  fields := #[{ name := "keySet", type := (.object "java/util/Set"), accessFlags := 128, slot := 0, constantValue := 0 }, { name := "values", type := (.object "java/util/Collection"), accessFlags := 128, slot := 1, constantValue := 0 }]
  methods := #[k14m0]
  instanceTypes := #[(.object "java/util/Set"), (.object "java/util/Collection")]
  staticTypes := #[]
  resolved := Array.replicate 196 none
  statics := none }

def pool15 : Array CpInfo := pool [(40, .class_ 41), (0, u "java/util/HashMap"), (1, .methodref 44 45), (0, .class_ 46), (0, .nameAndType 47 48), (0, u "java/util/AbstractMap"), (0, u "<init>"), (0, u "()V"), (32, .fieldref 40 82), (0, .nameAndType 83 84), (0, u "loadFactor"), (0, u "F"), (5, u "threshold"), (0, u "I"), (0, .float 1061158912), (8, .class_ 103), (1, u "java/util/Map"), (0, u "size"), (2, u "table"), (0, u "[Ljava/util/HashMap$Node;"), (14, u "entrySet"), (0, u "()Ljava/util/Set;"), (31, .fieldref 40 157), (0, .nameAndType 104 91), (5, .class_ 165), (1, u "java/util/HashMap$Node"), (14, .class_ 181), (0, u "java/util/HashMap$TreeNode"), (22, u "modCount"), (37, u "Ljava/util/Set;"), (0, .class_ 244), (0, u "java/util/HashMap$KeySet"), (1, .nameAndType 47 247), (0, u "(Ljava/util/HashMap;)V"), (15, .class_ 264), (0, u "java/util/HashMap$Values"), (1, .fieldref 40 267), (0, .nameAndType 123 242), (0, .class_ 269), (0, u "java/util/HashMap$EntrySet"), (0, .methodref 268 246), (75, .class_ 348), (1, u "java/util/HashMap$UnsafeHolder"), (43, .class_ 393), (0, u "java/lang/Cloneable"), (0, .class_ 395), (0, u "java/io/Serializable"), (0, u "serialVersionUID"), (0, u "J"), (3, u "DEFAULT_INITIAL_CAPACITY"), (1, u "MAXIMUM_CAPACITY"), (0, u "DEFAULT_LOAD_FACTOR"), (0, u "TREEIFY_THRESHOLD"), (1, u "UNTREEIFY_THRESHOLD"), (1, u "MIN_TREEIFY_CAPACITY"), (142, u "forEach"), (0, u "(Ljava/util/function/BiConsumer;)V"), (42, .class_ 597), (0, u "java/util/HashMap$EntrySpliterator"), (0, .class_ 599), (0, u "java/util/HashMap$ValueSpliterator"), (0, .class_ 601), (0, u "java/util/HashMap$KeySpliterator"), (0, .class_ 603), (0, u "java/util/HashMap$HashMapSpliterator"), (0, .class_ 605), (0, u "java/util/HashMap$EntryIterator"), (0, .class_ 607), (0, u "java/util/HashMap$ValueIterator"), (0, .class_ 609), (0, u "java/util/HashMap$KeyIterator"), (0, .class_ 611), (0, u "java/util/HashMap$HashIterator")] 17

def k15c0 : Code := { maxStack := 2, maxLocals := 1, code := jdk_69_method_7_code, exceptionTable := #[], attributes := #[] }
def k15m0 : Method := { name := "<init>", desc := "()V", sig := { parameters := [], returnType := none }, accessFlags := 1, code := some k15c0 }
def k15c1 : Code := { maxStack := 4, maxLocals := 2, code := jdk_69_method_29_code, exceptionTable := #[], attributes := #[] }
def k15m1 : Method := { name := "entrySet", desc := "()Ljava/util/Set;", sig := { parameters := [], returnType := some (.object "java/util/Set") }, accessFlags := 1, code := some k15c1 }
def k15c2 : Code := { maxStack := 3, maxLocals := 8, code := jdk_69_method_39_code, exceptionTable := #[], attributes := #[] }
def k15m2 : Method := { name := "forEach", desc := "(Ljava/util/function/BiConsumer;)V", sig := { parameters := [(.object "java/util/function/BiConsumer")], returnType := none }, accessFlags := 1, code := some k15c2 }
/-- java/util/HashMap -/
def k15 : Class := { plain "java/util/HashMap" (some 14) with
  accessFlags := 33
  interfaces := #[13, 10, 11]
  cf := some (fileOf pool15 40 #[.nestMembers #[180, 596, 598, 600, 602, 604, 606, 608, 610, 346, 268, 263, 243, 163]] #[{ accessFlags := 1, nameIndex := 47, descriptorIndex := 48, attributes := #[] }, { accessFlags := 1, nameIndex := 123, descriptorIndex := 124, attributes := #[] }, { accessFlags := 1, nameIndex := 552, descriptorIndex := 553, attributes := #[] }] 33 44 #[101, 392, 394] #[{ accessFlags := 26, nameIndex := 396, descriptorIndex := 397, attributes := #[] }, { accessFlags := 24, nameIndex := 401, descriptorIndex := 91, attributes := #[] }, { accessFlags := 24, nameIndex := 403, descriptorIndex := 91, attributes := #[] }, { accessFlags := 24, nameIndex := 404, descriptorIndex := 84, attributes := #[] }, { accessFlags := 24, nameIndex := 405, descriptorIndex := 91, attributes := #[] }, { accessFlags := 24, nameIndex := 407, descriptorIndex := 91, attributes := #[] }, { accessFlags := 24, nameIndex := 409, descriptorIndex := 91, attributes := #[] }, { accessFlags := 128, nameIndex := 107, descriptorIndex := 108, attributes := #[] }, { accessFlags := 128, nameIndex := 123, descriptorIndex := 242, attributes := #[] }, { accessFlags := 128, nameIndex := 104, descriptorIndex := 91, attributes := #[] }, { accessFlags := 128, nameIndex := 204, descriptorIndex := 91, attributes := #[] }, { accessFlags := 0, nameIndex := 90, descriptorIndex := 91, attributes := #[] }, { accessFlags := 16, nameIndex := 83, descriptorIndex := 84, attributes := #[] }])
  fields := #[{ name := "serialVersionUID", type := .long, accessFlags := 26, slot := 0, constantValue := 0 }, { name := "DEFAULT_INITIAL_CAPACITY", type := .int, accessFlags := 24, slot := 1, constantValue := 0 }, { name := "MAXIMUM_CAPACITY", type := .int, accessFlags := 24, slot := 2, constantValue := 0 }, { name := "DEFAULT_LOAD_FACTOR", type := .float, accessFlags := 24, slot := 3, constantValue := 0 }, { name := "TREEIFY_THRESHOLD", type := .int, accessFlags := 24, slot := 4, constantValue := 0 }, { name := "UNTREEIFY_THRESHOLD", type := .int, accessFlags := 24, slot := 5, constantValue := 0 }, { name := "MIN_TREEIFY_CAPACITY", type := .int, accessFlags := 24, slot := 6, constantValue := 0 }, { name := "table", type := (.array (.object "java/util/HashMap$Node")), accessFlags := 128, slot := 2, constantValue := 0 }, { name := "entrySet", type := (.object "java/util/Set"), accessFlags := 128, slot := 3, constantValue := 0 }, { name := "size", type := .int, accessFlags := 128, slot := 4, constantValue := 0 }, { name := "modCount", type := .int, accessFlags := 128, slot := 5, constantValue := 0 }, { name := "threshold", type := .int, accessFlags := 0, slot := 6, constantValue := 0 }, { name := "loadFactor", type := .float, accessFlags := 16, slot := 7, constantValue := 0 }]
  methods := #[k15m0, k15m1, k15m2]
  instanceTypes := #[(.object "java/util/Set"), (.object "java/util/Collection"), (.array (.object "java/util/HashMap$Node")), (.object "java/util/Set"), .int, .int, .int, .float]
  staticTypes := #[.long, .int, .int, .float, .int, .int, .int]
  resolved := Array.replicate 629 none
  statics := none }

def pool16 : Array CpInfo := pool [(1, .methodref 2 3), (0, .class_ 4), (0, .nameAndType 5 6), (0, u "java/lang/Object"), (0, u "<init>"), (0, u "()V"), (0, .class_ 8), (0, u "java/util/HashMap"), (0, .methodref 7 3), (0, .fieldref 11 12), (0, .class_ 13), (0, .nameAndType 14 15), (0, u "org/tallyrole/core/Graph$Node"), (0, u "label"), (0, u "Ljava/util/Map;"), (0, .class_ 17), (0, u "java/util/ArrayDeque"), (0, .methodref 16 3), (0, .fieldref 11 20), (0, .nameAndType 21 22), (0, u "pending"), (0, u "Ljava/util/Deque;"), (0, .class_ 24), (0, u "java/util/ArrayList"), (0, .methodref 23 3), (0, .fieldref 11 27), (0, .nameAndType 28 29), (0, u "disjunctions"), (0, u "Ljava/util/List;"), (0, .fieldref 11 31), (0, .nameAndType 32 15), (0, u "successors"), (0, .fieldref 11 34), (0, .nameAndType 35 15), (0, u "banned"), (0, .methodref 37 38), (0, .class_ 39), (0, .nameAndType 40 41), (0, u "org/tallyrole/core/IntTrie"), (0, u "empty"), (0, u "()Lorg/tallyrole/core/IntTrie;"), (0, .fieldref 11 43), (0, .nameAndType 44 45), (0, u "distinct"), (0, u "Lorg/tallyrole/core/IntTrie;"), (0, .fieldref 11 47), (0, .nameAndType 48 29), (0, u "individuals"), (0, .fieldref 11 50), (0, .nameAndType 51 52), (0, u "generation"), (0, u "Ljava/lang/Object;"), (59, u "(Ljava/lang/Object;)V"), (10, .class_ 124), (0, u "org/tallyrole/core/Graph")] 31

def k16c0 : Code := { maxStack := 3, maxLocals := 2, code := prog_42_method_1_code, exceptionTable := #[], attributes := #[] }
def k16m0 : Method := { name := "<init>", desc := "(Ljava/lang/Object;)V", sig := { parameters := [(.object "java/lang/Object")], returnType := none }, accessFlags := 2, code := some k16c0 }
/-- org/tallyrole/core/Graph$Node -/
def k16 : Class := { plain "org/tallyrole/core/Graph$Node" (some 0) with
  accessFlags := 48
  interfaces := #[]
  cf := some (fileOf pool16 11 #[.nestHost 123] #[{ accessFlags := 2, nameIndex := 5, descriptorIndex := 112, attributes := #[] }] 48 2 #[] #[{ accessFlags := 16, nameIndex := 14, descriptorIndex := 15, attributes := #[] }, { accessFlags := 16, nameIndex := 21, descriptorIndex := 22, attributes := #[] }, { accessFlags := 16, nameIndex := 28, descriptorIndex := 29, attributes := #[] }, { accessFlags := 16, nameIndex := 32, descriptorIndex := 15, attributes := #[] }, { accessFlags := 18, nameIndex := 35, descriptorIndex := 15, attributes := #[] }, { accessFlags := 2, nameIndex := 44, descriptorIndex := 45, attributes := #[] }, { accessFlags := 18, nameIndex := 48, descriptorIndex := 29, attributes := #[] }, { accessFlags := 18, nameIndex := 51, descriptorIndex := 52, attributes := #[] }])
  fields := #[{ name := "label", type := (.object "java/util/Map"), accessFlags := 16, slot := 0, constantValue := 0 }, { name := "pending", type := (.object "java/util/Deque"), accessFlags := 16, slot := 1, constantValue := 0 }, { name := "disjunctions", type := (.object "java/util/List"), accessFlags := 16, slot := 2, constantValue := 0 }, { name := "successors", type := (.object "java/util/Map"), accessFlags := 16, slot := 3, constantValue := 0 }, { name := "banned", type := (.object "java/util/Map"), accessFlags := 18, slot := 4, constantValue := 0 }, { name := "distinct", type := (.object "org/tallyrole/core/IntTrie"), accessFlags := 2, slot := 5, constantValue := 0 }, { name := "individuals", type := (.object "java/util/List"), accessFlags := 18, slot := 6, constantValue := 0 }, { name := "generation", type := (.object "java/lang/Object"), accessFlags := 18, slot := 7, constantValue := 0 }]
  methods := #[k16m0]
  instanceTypes := #[(.object "java/util/Map"), (.object "java/util/Deque"), (.object "java/util/List"), (.object "java/util/Map"), (.object "java/util/Map"), (.object "org/tallyrole/core/IntTrie"), (.object "java/util/List"), (.object "java/lang/Object")]
  staticTypes := #[]
  resolved := Array.replicate 156 none
  statics := none }

def pool17 : Array CpInfo := pool [(8, .class_ 10), (1, u "java/util/List"), (7, u "()Z"), (48, u "isEmpty"), (35, .class_ 104), (0, u "java/lang/Object"), (15, .class_ 121), (0, u "java/util/SequencedCollection")] 129

def k17m0 : Method := { name := "isEmpty", desc := "()Z", sig := { parameters := [], returnType := some .boolean }, accessFlags := 1025, code := none }
/-- java/util/List -/
def k17 : Class := { plain "java/util/List" (some 0) with
  accessFlags := 1537
  interfaces := #[8]
  cf := some (fileOf pool17 8 #[] #[{ accessFlags := 1025, nameIndex := 67, descriptorIndex := 18, attributes := #[] }] 1537 103 #[120] #[])
  fields := #[]
  methods := #[k17m0]
  instanceTypes := #[]
  staticTypes := #[]
  resolved := Array.replicate 251 none
  statics := none }

def pool18 : Array CpInfo := pool [(1, .methodref 2 3), (0, .class_ 4), (0, .nameAndType 5 6), (0, u "java/util/AbstractCollection"), (0, u "<init>"), (0, u "()V"), (0, .fieldref 8 9), (0, .class_ 10), (0, .nameAndType 11 12), (0, u "java/util/AbstractList"), (0, u "modCount"), (0, u "I"), (64, .class_ 78), (0, u "java/util/AbstractList$Itr"), (3, .class_ 83), (0, u "java/util/AbstractList$ListItr"), (9, .class_ 94), (0, u "java/util/AbstractList$RandomAccessSubList"), (3, .class_ 99), (0, u "java/util/AbstractList$SubList"), (33, .class_ 134), (0, u "java/util/List"), (73, .class_ 209), (0, u "java/util/AbstractList$SubList$1"), (0, .class_ 211), (0, u "java/util/AbstractList$RandomAccessSpliterator")] 6

def k18c0 : Code := { maxStack := 2, maxLocals := 1, code := jdk_39_method_1_code, exceptionTable := #[], attributes := #[] }
def k18m0 : Method := { name := "<init>", desc := "()V", sig := { parameters := [], returnType := none }, accessFlags := 4, code := some k18c0 }
/-- java/util/AbstractList -/
def k18 : Class := { plain "java/util/AbstractList" (some 6) with
  accessFlags := 1057
  interfaces := #[17]
  cf := some (fileOf pool18 8 #[.nestMembers #[93, 98, 208, 210, 82, 77]] #[{ accessFlags := 4, nameIndex := 5, descriptorIndex := 6, attributes := #[] }] 1057 2 #[133] #[{ accessFlags := 132, nameIndex := 11, descriptorIndex := 12, attributes := #[] }])
  fields := #[{ name := "modCount", type := .int, accessFlags := 132, slot := 0, constantValue := 0 }]
  methods := #[k18m0]
  instanceTypes := #[.int]
  staticTypes := #[]
  resolved := Array.replicate 218 none
  statics := none }

def pool19 : Array CpInfo := pool [(1, .class_ 2), (0, u "java/util/RandomAccess"), (0, .class_ 4), (0, u "java/lang/Object")] 2

/-- java/util/RandomAccess -/
def k19 : Class := { plain "java/util/RandomAccess" (some 0) with
  accessFlags := 1537
  interfaces := #[]
  cf := some (fileOf pool19 1 #[] #[] 1537 3 #[] #[])
  fields := #[]
  methods := #[]
  instanceTypes := #[]
  staticTypes := #[]
  resolved := Array.replicate 7 none
  statics := none }

def pool20 : Array CpInfo := pool [(1, .methodref 2 3), (0, .class_ 4), (0, .nameAndType 5 6), (0, u "java/util/AbstractList"), (0, u "<init>"), (0, u "()V"), (2, .fieldref 10 11), (0, .class_ 12), (0, .nameAndType 13 14), (0, u "java/util/ArrayList"), (0, u "elementData"), (0, u "[Ljava/lang/Object;"), (2, u "EMPTY_ELEMENTDATA"), (21, .fieldref 10 40), (0, .nameAndType 41 14), (0, u "DEFAULTCAPACITY_EMPTY_ELEMENTDATA"), (6, .fieldref 10 49), (0, .nameAndType 50 51), (0, u "size"), (0, u "I"), (11, .fieldref 10 64), (0, .nameAndType 65 51), (0, u "modCount"), (53, .class_ 121), (1, u "java/util/Objects"), (26, .class_ 149), (0, u "java/util/List"), (23, u "()Z"), (39, .methodref 119 214), (0, .nameAndType 215 216), (0, u "requireNonNull"), (0, u "(Ljava/lang/Object;)Ljava/lang/Object;"), (45, .class_ 263), (0, u "java/util/ArrayList$ListItr"), (3, .class_ 268), (0, u "java/util/ArrayList$Itr"), (7, .class_ 277), (0, u "java/util/ArrayList$SubList"), (12, .class_ 291), (0, u "java/util/ArrayList$ArrayListSpliterator"), (37, .class_ 330), (0, u "java/util/RandomAccess"), (0, .class_ 332), (0, u "java/lang/Cloneable"), (0, .class_ 334), (0, u "java/io/Serializable"), (0, u "serialVersionUID"), (0, u "J"), (3, u "DEFAULT_CAPACITY"), (22, u "isEmpty"), (98, u "forEach"), (0, u "(Ljava/util/function/Consumer;)V"), (36, .class_ 501), (0, u "java/util/ArrayList$SubList$2"), (0, .class_ 503), (0, u "java/util/ArrayList$SubList$1")] 5

def k20c0 : Code := { maxStack := 2, maxLocals := 1, code := jdk_38_method_2_code, exceptionTable := #[], attributes := #[] }
def k20m0 : Method := { name := "<init>", desc := "()V", sig := { parameters := [], returnType := none }, accessFlags := 1, code := some k20c0 }
def k20c1 : Code := { maxStack := 1, maxLocals := 1, code := jdk_38_method_9_code, exceptionTable := #[], attributes := #[] }
def k20m1 : Method := { name := "isEmpty", desc := "()Z", sig := { parameters := [], returnType := some .boolean }, accessFlags := 1, code := some k20c1 }
def k20c2 : Code := { maxStack := 3, maxLocals := 6, code := jdk_38_method_57_code, exceptionTable := #[], attributes := #[] }
def k20m2 : Method := { name := "forEach", desc := "(Ljava/util/function/Consumer;)V", sig := { parameters := [(.object "java/util/function/Consumer")], returnType := none }, accessFlags := 1, code := some k20c2 }
/-- java/util/ArrayList -/
def k20 : Class := { plain "java/util/ArrayList" (some 18) with
  accessFlags := 33
  interfaces := #[17, 19, 10, 11]
  cf := some (fileOf pool20 10 #[.nestMembers #[290, 276, 500, 502, 262, 267]] #[{ accessFlags := 1, nameIndex := 5, descriptorIndex := 6, attributes := #[] }, { accessFlags := 1, nameIndex := 363, descriptorIndex := 173, attributes := #[] }, { accessFlags := 1, nameIndex := 462, descriptorIndex := 463, attributes := #[] }] 33 2 #[148, 329, 331, 333] #[{ accessFlags := 26, nameIndex := 335, descriptorIndex := 336, attributes := #[] }, { accessFlags := 26, nameIndex := 340, descriptorIndex := 51, attributes := #[] }, { accessFlags := 26, nameIndex := 17, descriptorIndex := 14, attributes := #[] }, { accessFlags := 26, nameIndex := 41, descriptorIndex := 14, attributes := #[] }, { accessFlags := 128, nameIndex := 13, descriptorIndex := 14, attributes := #[] }, { accessFlags := 2, nameIndex := 50, descriptorIndex := 51, attributes := #[] }])
  fields := #[{ name := "serialVersionUID", type := .long, accessFlags := 26, slot := 0, constantValue := 0 }, { name := "DEFAULT_CAPACITY", type := .int, accessFlags := 26, slot := 1, constantValue := 0 }, { name := "EMPTY_ELEMENTDATA", type := (.array (.object "java/lang/Object")), accessFlags := 26, slot := 2, constantValue := 0 }, { name := "DEFAULTCAPACITY_EMPTY_ELEMENTDATA", type := (.array (.object "java/lang/Object")), accessFlags := 26, slot := 3, constantValue := 0 }, { name := "elementData", type := (.array (.object "java/lang/Object")), accessFlags := 128, slot := 1, constantValue := 0 }, { name := "size", type := .int, accessFlags := 2, slot := 2, constantValue := 0 }]
  methods := #[k20m0, k20m1, k20m2]
  instanceTypes := #[.int, (.array (.object "java/lang/Object")), .int]
  staticTypes := #[.long, .int, (.array (.object "java/lang/Object")), (.array (.object "java/lang/Object"))]
  resolved := Array.replicate 509 none
  statics := some 1 }

def pool21 : Array CpInfo := pool [(2, .class_ 4), (1, u "java/lang/Object"), (0, u "<init>"), (0, u "()V"), (35, .class_ 44), (1, u "java/util/Objects"), (0, u "requireNonNull"), (0, u "(Ljava/lang/Object;)Ljava/lang/Object;"), (43, .string 91), (0, u "defaultObj"), (0, .methodref 42 93), (0, .nameAndType 45 94), (0, u "(Ljava/lang/Object;Ljava/lang/String;)Ljava/lang/Object;"), (65, u "requireNonNullElse"), (0, u "(Ljava/lang/Object;Ljava/lang/Object;)Ljava/lang/Object;")] 22

def k21m0 : Method := { name := "<init>", desc := "()V", sig := { parameters := [], returnType := none }, accessFlags := 2, code := none }
def k21c1 : Code := { maxStack := 2, maxLocals := 1, code := jdk_31_method_10_code, exceptionTable := #[], attributes := #[] }
def k21m1 : Method := { name := "requireNonNull", desc := "(Ljava/lang/Object;)Ljava/lang/Object;", sig := { parameters := [(.object "java/lang/Object")], returnType := some (.object "java/lang/Object") }, accessFlags := 9, code := some k21c1 }
def k21c2 : Code := { maxStack := 3, maxLocals := 2, code := jdk_31_method_11_code, exceptionTable := #[], attributes := #[] }
def k21m2 : Method := { name := "requireNonNull", desc := "(Ljava/lang/Object;Ljava/lang/String;)Ljava/lang/Object;", sig := { parameters := [(.object "java/lang/Object"), (.object "java/lang/String")], returnType := some (.object "java/lang/Object") }, accessFlags := 9, code := some k21c2 }
def k21c3 : Code := { maxStack := 2, maxLocals := 2, code := jdk_31_method_14_code, exceptionTable := #[], attributes := #[] }
def k21m3 : Method := { name := "requireNonNullElse", desc := "(Ljava/lang/Object;Ljava/lang/Object;)Ljava/lang/Object;", sig := { parameters := [(.object "java/lang/Object"), (.object "java/lang/Object")], returnType := some (.object "java/lang/Object") }, accessFlags := 9, code := some k21c3 }
/-- java/util/Objects -/
def k21 : Class := { plain "java/util/Objects" (some 0) with
  accessFlags := 49
  interfaces := #[]
  cf := some (fileOf pool21 42 #[] #[{ accessFlags := 2, nameIndex := 5, descriptorIndex := 6, attributes := #[] }, { accessFlags := 9, nameIndex := 45, descriptorIndex := 46, attributes := #[] }, { accessFlags := 9, nameIndex := 45, descriptorIndex := 94, attributes := #[] }, { accessFlags := 9, nameIndex := 160, descriptorIndex := 161, attributes := #[] }] 49 2 #[] #[])
  fields := #[]
  methods := #[k21m0, k21m1, k21m2, k21m3]
  instanceTypes := #[]
  staticTypes := #[]
  resolved := Array.replicate 184 none
  statics := none }

def pool22 : Array CpInfo := pool [(1, .methodref 2 3), (0, .class_ 4), (0, .nameAndType 5 6), (0, u "java/lang/Object"), (0, u "<init>"), (0, u "()V"), (0, .fieldref 8 9), (0, .class_ 10), (0, .nameAndType 11 12), (0, u "org/tallyrole/core/IntTrie$Chunk"), (0, u "NONE"), (0, u "[Ljava/lang/Object;"), (0, .fieldref 8 14), (0, .nameAndType 15 12), (0, u "slots"), (0, .fieldref 8 17), (0, .nameAndType 18 19), (0, u "owner"), (0, u "Ljava/lang/Object;"), (0, .fieldref 8 21), (0, .nameAndType 22 23), (0, u "mask"), (0, u "I"), (0, .methodref 25 26), (0, .class_ 27), (0, .nameAndType 28 29), (0, u "java/lang/Integer"), (0, u "bitCount"), (0, u "(I)I"), (0, .methodref 8 31), (0, .nameAndType 5 32), (0, u "(Ljava/lang/Object;)V"), (5, .methodref 39 40), (0, .class_ 41), (0, .nameAndType 42 43), (0, u "java/lang/System"), (0, u "arraycopy"), (0, u "(Ljava/lang/Object;ILjava/lang/Object;II)V"), (2, u "slot"), (0, u "(I)Ljava/lang/Object;"), (1, u "ownedBy"), (0, u "(Ljava/lang/Object;)Lorg/tallyrole/core/IntTrie$Chunk;"), (0, u "set"), (0, u "(ILjava/lang/Object;)Lorg/tallyrole/core/IntTrie$Chunk;"), (4, .class_ 58), (0, u "org/tallyrole/core/IntTrie")] 2

def k22c0 : Code := { maxStack := 2, maxLocals := 2, code := prog_47_method_1_code, exceptionTable := #[], attributes := #[] }
def k22m0 : Method := { name := "<init>", desc := "(Ljava/lang/Object;)V", sig := { parameters := [(.object "java/lang/Object")], returnType := none }, accessFlags := 0, code := some k22c0 }
def k22c1 : Code := { maxStack := 4, maxLocals := 3, code := prog_47_method_2_code, exceptionTable := #[], attributes := #[] }
def k22m1 : Method := { name := "slot", desc := "(I)Ljava/lang/Object;", sig := { parameters := [.int], returnType := some (.object "java/lang/Object") }, accessFlags := 0, code := some k22c1 }
def k22c2 : Code := { maxStack := 3, maxLocals := 3, code := prog_47_method_3_code, exceptionTable := #[], attributes := #[] }
def k22m2 : Method := { name := "ownedBy", desc := "(Ljava/lang/Object;)Lorg/tallyrole/core/IntTrie$Chunk;", sig := { parameters := [(.object "java/lang/Object")], returnType := some (.object "org/tallyrole/core/IntTrie$Chunk") }, accessFlags := 0, code := some k22c2 }
def k22c3 : Code := { maxStack := 6, maxLocals := 7, code := prog_47_method_4_code, exceptionTable := #[], attributes := #[] }
def k22m3 : Method := { name := "set", desc := "(ILjava/lang/Object;)Lorg/tallyrole/core/IntTrie$Chunk;", sig := { parameters := [.int, (.object "java/lang/Object")], returnType := some (.object "org/tallyrole/core/IntTrie$Chunk") }, accessFlags := 0, code := some k22c3 }
/-- org/tallyrole/core/IntTrie$Chunk -/
def k22 : Class := { plain "org/tallyrole/core/IntTrie$Chunk" (some 0) with
  accessFlags := 48
  interfaces := #[]
  cf := some (fileOf pool22 8 #[.nestHost 57] #[{ accessFlags := 0, nameIndex := 5, descriptorIndex := 32, attributes := #[] }, { accessFlags := 0, nameIndex := 46, descriptorIndex := 47, attributes := #[] }, { accessFlags := 0, nameIndex := 49, descriptorIndex := 50, attributes := #[] }, { accessFlags := 0, nameIndex := 51, descriptorIndex := 52, attributes := #[] }] 48 2 #[] #[{ accessFlags := 26, nameIndex := 11, descriptorIndex := 12, attributes := #[] }, { accessFlags := 16, nameIndex := 18, descriptorIndex := 19, attributes := #[] }, { accessFlags := 0, nameIndex := 22, descriptorIndex := 23, attributes := #[] }, { accessFlags := 0, nameIndex := 15, descriptorIndex := 12, attributes := #[] }])
  fields := #[{ name := "NONE", type := (.array (.object "java/lang/Object")), accessFlags := 26, slot := 0, constantValue := 0 }, { name := "owner", type := (.object "java/lang/Object"), accessFlags := 16, slot := 0, constantValue := 0 }, { name := "mask", type := .int, accessFlags := 0, slot := 1, constantValue := 0 }, { name := "slots", type := (.array (.object "java/lang/Object")), accessFlags := 0, slot := 2, constantValue := 0 }]
  methods := #[k22m0, k22m1, k22m2, k22m3]
  instanceTypes := #[(.object "java/lang/Object"), .int, (.array (.object "java/lang/Object"))]
  staticTypes := #[(.array (.object "java/lang/Object"))]
  resolved := Array.replicate 61 none
  statics := some 2 }

def pool23 : Array CpInfo := pool [(2, .class_ 4), (1, u "java/lang/Object"), (0, u "<init>"), (0, u "()V"), (1, .class_ 10), (1, u "java/lang/Number"), (2, .class_ 14), (0, u "java/io/Serializable"), (0, u "serialVersionUID"), (0, u "J")] 20

def k23m0 : Method := { name := "<init>", desc := "()V", sig := { parameters := [], returnType := none }, accessFlags := 1, code := none }
/-- java/lang/Number -/
def k23 : Class := { plain "java/lang/Number" (some 0) with
  accessFlags := 1057
  interfaces := #[11]
  cf := some (fileOf pool23 8 #[] #[{ accessFlags := 1, nameIndex := 5, descriptorIndex := 6, attributes := #[] }] 1057 2 #[13] #[{ accessFlags := 26, nameIndex := 15, descriptorIndex := 16, attributes := #[] }])
  fields := #[{ name := "serialVersionUID", type := .long, accessFlags := 26, slot := 0, constantValue := 0 }]
  methods := #[k23m0]
  instanceTypes := #[]
  staticTypes := #[.long]
  resolved := Array.replicate 37 none
  statics := none }

def pool24 : Array CpInfo := pool [(1, .class_ 2), (0, u "java/lang/Comparable"), (0, .class_ 4), (0, u "java/lang/Object")] 7

/-- java/lang/Comparable -/
def k24 : Class := { plain "java/lang/Comparable" (some 0) with
  accessFlags := 1537
  interfaces := #[]
  cf := some (fileOf pool24 1 #[] #[] 1537 3 #[] #[])
  fields := #[]
  methods := #[]
  instanceTypes := #[]
  staticTypes := #[]
  resolved := Array.replicate 12 none
  statics := none }

def pool25 : Array CpInfo := pool [(1, .class_ 2), (0, u "java/lang/constant/Constable"), (0, .class_ 4), (0, u "java/lang/Object")] 6

/-- java/lang/constant/Constable -/
def k25 : Class := { plain "java/lang/constant/Constable" (some 0) with
  accessFlags := 1537
  interfaces := #[]
  cf := some (fileOf pool25 1 #[] #[] 1537 3 #[] #[])
  fields := #[]
  methods := #[]
  instanceTypes := #[]
  staticTypes := #[]
  resolved := Array.replicate 11 none
  statics := none }

def pool26 : Array CpInfo := pool [(1, .class_ 2), (0, u "java/lang/constant/ConstantDesc"), (0, .class_ 4), (0, u "java/lang/Object")] 32

/-- java/lang/constant/ConstantDesc -/
def k26 : Class := { plain "java/lang/constant/ConstantDesc" (some 0) with
  accessFlags := 1537
  interfaces := #[]
  cf := some (fileOf pool26 1 #[] #[] 1537 3 #[] #[])
  fields := #[]
  methods := #[]
  instanceTypes := #[]
  staticTypes := #[]
  resolved := Array.replicate 37 none
  statics := none }

def pool27 : Array CpInfo := pool [(1, .class_ 2), (0, u "java/lang/Integer"), (16, u "digits"), (0, u "[C"), (33, u "(I)I"), (30, u "DigitOnes"), (0, u "[B"), (2, u "DigitTens"), (99, .class_ 190), (0, u "java/lang/Integer$IntegerCache"), (3, u "I"), (8, .class_ 204), (0, u "java/lang/Number"), (2, u "value"), (57, .integer 1431655765), (0, .integer 858993459), (0, .integer 252645135), (34, u "TYPE"), (0, u "Ljava/lang/Class;"), (0, .class_ 305), (0, u "java/lang/Comparable"), (0, .class_ 307), (0, u "java/lang/constant/Constable"), (0, .class_ 309), (0, u "java/lang/constant/ConstantDesc"), (0, u "MIN_VALUE"), (1, u "MAX_VALUE"), (3, u "SIZE"), (1, u "BYTES"), (1, u "serialVersionUID"), (0, u "J"), (85, u "bitCount")] 45

def k27c0 : Code := { maxStack := 3, maxLocals := 1, code := jdk_33_method_49_code, exceptionTable := #[], attributes := #[] }
def k27m0 : Method := { name := "bitCount", desc := "(I)I", sig := { parameters := [.int], returnType := some .int }, accessFlags := 9, code := some k27c0 }
/-- java/lang/Integer -/
def k27 : Class := { plain "java/lang/Integer" (some 23) with
  accessFlags := 49
  interfaces := #[24, 25, 26]
  cf := some (fileOf pool27 1 #[.nestMembers #[189]] #[{ accessFlags := 9, nameIndex := 407, descriptorIndex := 54, attributes := #[] }] 49 203 #[304, 306, 308] #[{ accessFlags := 25, nameIndex := 310, descriptorIndex := 194, attributes := #[] }, { accessFlags := 25, nameIndex := 312, descriptorIndex := 194, attributes := #[] }, { accessFlags := 25, nameIndex := 302, descriptorIndex := 303, attributes := #[] }, { accessFlags := 24, nameIndex := 19, descriptorIndex := 20, attributes := #[] }, { accessFlags := 24, nameIndex := 89, descriptorIndex := 86, attributes := #[] }, { accessFlags := 24, nameIndex := 85, descriptorIndex := 86, attributes := #[] }, { accessFlags := 18, nameIndex := 207, descriptorIndex := 194, attributes := #[] }, { accessFlags := 25, nameIndex := 316, descriptorIndex := 194, attributes := #[] }, { accessFlags := 25, nameIndex := 318, descriptorIndex := 194, attributes := #[] }, { accessFlags := 26, nameIndex := 320, descriptorIndex := 321, attributes := #[] }])
  fields := #[{ name := "MIN_VALUE", type := .int, accessFlags := 25, slot := 0, constantValue := 0 }, { name := "MAX_VALUE", type := .int, accessFlags := 25, slot := 1, constantValue := 0 }, { name := "TYPE", type := (.object "java/lang/Class"), accessFlags := 25, slot := 2, constantValue := 0 }, { name := "digits", type := (.array .char), accessFlags := 24, slot := 3, constantValue := 0 }, { name := "DigitTens", type := (.array .byte), accessFlags := 24, slot := 4, constantValue := 0 }, { name := "DigitOnes", type := (.array .byte), accessFlags := 24, slot := 5, constantValue := 0 }, { name := "value", type := .int, accessFlags := 18, slot := 0, constantValue := 0 }, { name := "SIZE", type := .int, accessFlags := 25, slot := 6, constantValue := 0 }, { name := "BYTES", type := .int, accessFlags := 25, slot := 7, constantValue := 0 }, { name := "serialVersionUID", type := .long, accessFlags := 26, slot := 8, constantValue := 0 }]
  methods := #[k27m0]
  instanceTypes := #[.int]
  staticTypes := #[.int, .int, (.object "java/lang/Class"), (.array .char), (.array .byte), (.array .byte), .int, .int, .long]
  resolved := Array.replicate 453 none
  statics := none }

def pool28 : Array CpInfo := pool [(2, .class_ 4), (1, u "java/lang/Object"), (0, u "<init>"), (0, u "()V"), (1, .class_ 10), (1, u "java/lang/System"), (0, u "allowSecurityManager"), (0, u "I"), (16, u "cons"), (0, u "Ljava/io/Console;"), (77, .class_ 110), (1, u "java/lang/System$CallersHolder"), (43, u "initialErrStream"), (0, u "Ljava/io/PrintStream;"), (19, u "security"), (0, u "Ljava/lang/SecurityManager;"), (31, .class_ 209), (0, u "java/lang/System$1"), (7, u "props"), (0, u "Ljava/util/Properties;"), (2, u "lineSeparator"), (0, u "Ljava/lang/String;"), (96, .class_ 321), (1, u "java/lang/System$LoggerFinder"), (5, .class_ 328), (0, u "java/lang/System$Logger"), (67, u "err"), (2, u "out"), (91, u "notSupportedJnuEncoding"), (15, u "in"), (17, u "initialIn"), (0, u "Ljava/io/InputStream;"), (35, u "bootLayer"), (0, u "Ljava/lang/ModuleLayer;"), (99, .class_ 664), (0, u "java/lang/System$2"), (9, u "NEVER"), (2, u "MAYBE"), (49, u "arraycopy"), (0, u "(Ljava/lang/Object;ILjava/lang/Object;II)V"), (72, .class_ 802), (0, u "java/lang/System$Logger$Level")] 31

def k28m0 : Method := { name := "<init>", desc := "()V", sig := { parameters := [], returnType := none }, accessFlags := 2, code := none }
def k28m1 : Method := { name := "arraycopy", desc := "(Ljava/lang/Object;ILjava/lang/Object;II)V", sig := { parameters := [(.object "java/lang/Object"), .int, (.object "java/lang/Object"), .int, .int], returnType := none }, accessFlags := 265, code := none }
/-- java/lang/System -/
def k28 : Class := { plain "java/lang/System" (some 0) with
  accessFlags := 49
  interfaces := #[]
  cf := some (fileOf pool28 8 #[.nestMembers #[319, 327, 801, 108, 663, 208]] #[{ accessFlags := 2, nameIndex := 5, descriptorIndex := 6, attributes := #[] }, { accessFlags := 265, nameIndex := 727, descriptorIndex := 728, attributes := #[] }] 49 2 #[] #[{ accessFlags := 25, nameIndex := 507, descriptorIndex := 526, attributes := #[] }, { accessFlags := 25, nameIndex := 399, descriptorIndex := 155, attributes := #[] }, { accessFlags := 25, nameIndex := 396, descriptorIndex := 155, attributes := #[] }, { accessFlags := 10, nameIndex := 525, descriptorIndex := 526, attributes := #[] }, { accessFlags := 26, nameIndex := 674, descriptorIndex := 12, attributes := #[] }, { accessFlags := 26, nameIndex := 677, descriptorIndex := 12, attributes := #[] }, { accessFlags := 10, nameIndex := 11, descriptorIndex := 12, attributes := #[] }, { accessFlags := 74, nameIndex := 175, descriptorIndex := 176, attributes := #[] }, { accessFlags := 10, nameIndex := 491, descriptorIndex := 222, attributes := #[] }, { accessFlags := 74, nameIndex := 29, descriptorIndex := 30, attributes := #[] }, { accessFlags := 74, nameIndex := 154, descriptorIndex := 155, attributes := #[] }, { accessFlags := 10, nameIndex := 217, descriptorIndex := 218, attributes := #[] }, { accessFlags := 10, nameIndex := 221, descriptorIndex := 222, attributes := #[] }, { accessFlags := 8, nameIndex := 562, descriptorIndex := 563, attributes := #[] }])
  fields := #[{ name := "in", type := (.object "java/io/InputStream"), accessFlags := 25, slot := 0, constantValue := 0 }, { name := "out", type := (.object "java/io/PrintStream"), accessFlags := 25, slot := 1, constantValue := 0 }, { name := "err", type := (.object "java/io/PrintStream"), accessFlags := 25, slot := 2, constantValue := 0 }, { name := "initialIn", type := (.object "java/io/InputStream"), accessFlags := 10, slot := 3, constantValue := 0 }, { name := "NEVER", type := .int, accessFlags := 26, slot := 4, constantValue := 0 }, { name := "MAYBE", type := .int, accessFlags := 26, slot := 5, constantValue := 0 }, { name := "allowSecurityManager", type := .int, accessFlags := 10, slot := 6, constantValue := 0 }, { name := "security", type := (.object "java/lang/SecurityManager"), accessFlags := 74, slot := 7, constantValue := 0 }, { name := "notSupportedJnuEncoding", type := (.object "java/lang/String"), accessFlags := 10, slot := 8, constantValue := 0 }, { name := "cons", type := (.object "java/io/Console"), accessFlags := 74, slot := 9, constantValue := 0 }, { name := "initialErrStream", type := (.object "java/io/PrintStream"), accessFlags := 74, slot := 10, constantValue := 0 }, { name := "props", type := (.object "java/util/Properties"), accessFlags := 10, slot := 11, constantValue := 0 }, { name := "lineSeparator", type := (.object "java/lang/String"), accessFlags := 10, slot := 12, constantValue := 0 }, { name := "bootLayer", type := (.object "java/lang/ModuleLayer"), accessFlags := 8, slot := 13, constantValue := 0 }]
  methods := #[k28m0, k28m1]
  instanceTypes := #[]
  staticTypes := #[(.object "java/io/InputStream"), (.object "java/io/PrintStream"), (.object "java/io/PrintStream"), (.object "java/io/InputStream"), .int, .int, .int, (.object "java/lang/SecurityManager"), (.object "java/lang/String"), (.object "java/io/Console"), (.object "java/io/PrintStream"), (.object "java/util/Properties"), (.object "java/lang/String"), (.object "java/lang/ModuleLayer")]
  resolved := Array.replicate 834 none
  statics := none }

def pool29 : Array CpInfo := pool [(2, .class_ 4), (1, u "java/lang/Object"), (3, .class_ 10), (1, u "java/lang/Boolean"), (0, u "value"), (0, u "Z"), (14, .fieldref 8 28), (0, .nameAndType 29 30), (0, u "TRUE"), (0, u "Ljava/lang/Boolean;"), (2, u "FALSE"), (2, u "valueOf"), (50, u "TYPE"), (0, u "Ljava/lang/Class;"), (0, .class_ 90), (0, u "java/io/Serializable"), (0, .class_ 92), (0, u "java/lang/Comparable"), (0, .class_ 94), (0, u "java/lang/constant/Constable"), (2, u "serialVersionUID"), (0, u "J"), (18, u "(Z)Ljava/lang/Boolean;")] 34

def k29c0 : Code := { maxStack := 1, maxLocals := 1, code := jdk_2055_method_5_code, exceptionTable := #[], attributes := #[] }
def k29m0 : Method := { name := "valueOf", desc := "(Z)Ljava/lang/Boolean;", sig := { parameters := [.boolean], returnType := some (.object "java/lang/Boolean") }, accessFlags := 9, code := some k29c0 }
/-- java/lang/Boolean -/
def k29 : Class := { plain "java/lang/Boolean" (some 0) with
  accessFlags := 49
  interfaces := #[11, 24, 25]
  cf := some (fileOf pool29 8 #[] #[{ accessFlags := 9, nameIndex := 36, descriptorIndex := 117, attributes := #[] }] 49 2 #[89, 91, 93] #[{ accessFlags := 25, nameIndex := 29, descriptorIndex := 30, attributes := #[] }, { accessFlags := 25, nameIndex := 33, descriptorIndex := 30, attributes := #[] }, { accessFlags := 25, nameIndex := 87, descriptorIndex := 88, attributes := #[] }, { accessFlags := 18, nameIndex := 11, descriptorIndex := 12, attributes := #[] }, { accessFlags := 26, nameIndex := 97, descriptorIndex := 98, attributes := #[] }])
  fields := #[{ name := "TRUE", type := (.object "java/lang/Boolean"), accessFlags := 25, slot := 0, constantValue := 0 }, { name := "FALSE", type := (.object "java/lang/Boolean"), accessFlags := 25, slot := 1, constantValue := 0 }, { name := "TYPE", type := (.object "java/lang/Class"), accessFlags := 25, slot := 2, constantValue := 0 }, { name := "value", type := .boolean, accessFlags := 18, slot := 0, constantValue := 0 }, { name := "serialVersionUID", type := .long, accessFlags := 26, slot := 3, constantValue := 0 }]
  methods := #[k29m0]
  instanceTypes := #[.boolean]
  staticTypes := #[(.object "java/lang/Boolean"), (.object "java/lang/Boolean"), (.object "java/lang/Class"), .long]
  resolved := Array.replicate 152 none
  statics := some 3 }

def pool30 : Array CpInfo := pool [(1, .methodref 2 3), (0, .class_ 4), (0, .nameAndType 5 6), (0, u "java/lang/Object"), (0, u "<init>"), (0, u "()V"), (0, .fieldref 8 9), (0, .class_ 10), (0, .nameAndType 11 12), (0, u "org/tallyrole/core/Dependencies"), (0, u "NO_KEYS"), (0, u "[I"), (0, .fieldref 8 14), (0, .nameAndType 15 12), (0, u "keys"), (0, .fieldref 8 17), (0, .nameAndType 18 19), (0, u "NO_WORDS"), (0, u "[J"), (0, .fieldref 8 21), (0, .nameAndType 22 19), (0, u "words"), (2, u "size"), (0, u "I"), (2, u "shared"), (0, u "Z")] 80

def k30c0 : Code := { maxStack := 2, maxLocals := 1, code := prog_36_method_1_code, exceptionTable := #[], attributes := #[] }
def k30m0 : Method := { name := "<init>", desc := "()V", sig := { parameters := [], returnType := none }, accessFlags := 0, code := some k30c0 }
/-- org/tallyrole/core/Dependencies -/
def k30 : Class := { plain "org/tallyrole/core/Dependencies" (some 0) with
  accessFlags := 48
  interfaces := #[]
  cf := some (fileOf pool30 8 #[] #[{ accessFlags := 0, nameIndex := 5, descriptorIndex := 6, attributes := #[] }] 48 2 #[] #[{ accessFlags := 26, nameIndex := 11, descriptorIndex := 12, attributes := #[] }, { accessFlags := 26, nameIndex := 18, descriptorIndex := 19, attributes := #[] }, { accessFlags := 2, nameIndex := 15, descriptorIndex := 12, attributes := #[] }, { accessFlags := 2, nameIndex := 22, descriptorIndex := 19, attributes := #[] }, { accessFlags := 2, nameIndex := 25, descriptorIndex := 26, attributes := #[] }, { accessFlags := 2, nameIndex := 29, descriptorIndex := 30, attributes := #[] }])
  fields := #[{ name := "NO_KEYS", type := (.array .int), accessFlags := 26, slot := 0, constantValue := 0 }, { name := "NO_WORDS", type := (.array .long), accessFlags := 26, slot := 1, constantValue := 0 }, { name := "keys", type := (.array .int), accessFlags := 2, slot := 0, constantValue := 0 }, { name := "words", type := (.array .long), accessFlags := 2, slot := 1, constantValue := 0 }, { name := "size", type := .int, accessFlags := 2, slot := 2, constantValue := 0 }, { name := "shared", type := .boolean, accessFlags := 2, slot := 3, constantValue := 0 }]
  methods := #[k30m0]
  instanceTypes := #[(.array .int), (.array .long), .int, .boolean]
  staticTypes := #[(.array .int), (.array .long)]
  resolved := Array.replicate 111 none
  statics := some 4 }

def pool31 : Array CpInfo := pool [(26, .class_ 27), (0, u "java/lang/Object"), (5, .class_ 34), (0, u "java/util/Set"), (1, .class_ 38), (1, u "java/util/Collection"), (22, u "iterator"), (0, u "()Ljava/util/Iterator;")] 81

def k31m0 : Method := { name := "iterator", desc := "()Ljava/util/Iterator;", sig := { parameters := [], returnType := some (.object "java/util/Iterator") }, accessFlags := 1025, code := none }
/-- java/util/Set -/
def k31 : Class := { plain "java/util/Set" (some 0) with
  accessFlags := 1537
  interfaces := #[5]
  cf := some (fileOf pool31 33 #[] #[{ accessFlags := 1025, nameIndex := 61, descriptorIndex := 62, attributes := #[] }] 1537 26 #[36] #[])
  fields := #[]
  methods := #[k31m0]
  instanceTypes := #[]
  staticTypes := #[]
  resolved := Array.replicate 144 none
  statics := none }

def pool32 : Array CpInfo := pool [(1, .methodref 2 3), (0, .class_ 4), (0, .nameAndType 5 6), (0, u "java/util/AbstractCollection"), (0, u "<init>"), (0, u "()V"), (0, .class_ 8), (0, u "java/util/Set"), (7, .class_ 17), (0, u "java/util/AbstractSet")] 78

def k32c0 : Code := { maxStack := 1, maxLocals := 1, code := jdk_91_method_1_code, exceptionTable := #[], attributes := #[] }
def k32m0 : Method := { name := "<init>", desc := "()V", sig := { parameters := [], returnType := none }, accessFlags := 4, code := some k32c0 }
/-- java/util/AbstractSet -/
def k32 : Class := { plain "java/util/AbstractSet" (some 6) with
  accessFlags := 1057
  interfaces := #[31]
  cf := some (fileOf pool32 16 #[] #[{ accessFlags := 4, nameIndex := 5, descriptorIndex := 6, attributes := #[] }] 1057 2 #[7] #[])
  fields := #[]
  methods := #[k32m0]
  instanceTypes := #[]
  staticTypes := #[]
  resolved := Array.replicate 96 none
  statics := none }

def pool33 : Array CpInfo := pool [(1, .fieldref 2 3), (0, .class_ 4), (0, .nameAndType 5 6), (0, u "java/util/HashMap$EntrySet"), (0, u "this$0"), (0, u "Ljava/util/HashMap;"), (0, .methodref 8 9), (0, .class_ 10), (0, .nameAndType 11 12), (0, u "java/util/AbstractSet"), (0, u "<init>"), (0, u "()V"), (1, .class_ 16), (1, u "java/util/HashMap"), (5, .class_ 23), (0, u "java/util/HashMap$EntryIterator"), (0, .methodref 22 25), (0, .nameAndType 11 26), (0, u "(Ljava/util/HashMap;)V"), (64, u "iterator"), (0, u "()Ljava/util/Iterator;")] 41

def k33c0 : Code := { maxStack := 2, maxLocals := 2, code := jdk_111_method_1_code, exceptionTable := #[], attributes := #[] }
def k33m0 : Method := { name := "<init>", desc := "(Ljava/util/HashMap;)V", sig := { parameters := [(.object "java/util/HashMap")], returnType := none }, accessFlags := 0, code := some k33c0 }
def k33c1 : Code := { maxStack := 3, maxLocals := 1, code := jdk_111_method_4_code, exceptionTable := #[], attributes := #[] }
def k33m1 : Method := { name := "iterator", desc := "()Ljava/util/Iterator;", sig := { parameters := [], returnType := some (.object "java/util/Iterator") }, accessFlags := 17, code := some k33c1 }
/-- java/util/HashMap$EntrySet -/
def k33 : Class := { plain "java/util/HashMap$EntrySet" (some 32) with
  accessFlags := 48
  interfaces := #[]
  cf := some (fileOf pool33 2 #[.nestHost 14] #[{ accessFlags := 0, nameIndex := 11, descriptorIndex := 26, attributes := #[] }, { accessFlags := 17, nameIndex := 91, descriptorIndex := 92, attributes := #[] }] 48 8 #[] #[{ accessFlags := 4112, nameIndex := 5, descriptorIndex := 6, attributes := #[] }])
  fields := #[{ name := "this$0", type := (.object "java/util/HashMap"), accessFlags := 4112, slot := 0, constantValue := 0 }]
  methods := #[k33m0, k33m1]
  instanceTypes := #[(.object "java/util/HashMap")]
  staticTypes := #[]
  resolved := Array.replicate 134 none
  statics := none }

def pool34 : Array CpInfo := pool [(1, .fieldref 2 3), (0, .class_ 4), (0, .nameAndType 5 6), (0, u "java/util/HashMap$HashIterator"), (0, u "this$0"), (0, u "Ljava/util/HashMap;"), (0, .methodref 8 9), (0, .class_ 10), (0, .nameAndType 11 12), (0, u "java/lang/Object"), (0, u "<init>"), (0, u "()V"), (0, .fieldref 14 15), (0, .class_ 16), (0, .nameAndType 17 18), (0, u "java/util/HashMap"), (0, u "modCount"), (0, u "I"), (0, .fieldref 2 20), (0, .nameAndType 21 18), (0, u "expectedModCount"), (0, .fieldref 14 23), (0, .nameAndType 24 25), (0, u "table"), (0, u "[Ljava/util/HashMap$Node;"), (0, .fieldref 2 27), (0, .nameAndType 28 29), (0, u "next"), (0, u "Ljava/util/HashMap$Node;"), (0, .fieldref 2 31), (0, .nameAndType 32 29), (0, u "current"), (0, .fieldref 2 34), (0, .nameAndType 35 18), (0, u "index"), (28, u "(Ljava/util/HashMap;)V"), (12, u "hasNext"), (0, u "()Z")] 12

def k34c0 : Code := { maxStack := 6, maxLocals := 3, code := jdk_99_method_1_code, exceptionTable := #[], attributes := #[] }
def k34m0 : Method := { name := "<init>", desc := "(Ljava/util/HashMap;)V", sig := { parameters := [(.object "java/util/HashMap")], returnType := none }, accessFlags := 0, code := some k34c0 }
def k34c1 : Code := { maxStack := 1, maxLocals := 1, code := jdk_99_method_2_code, exceptionTable := #[], attributes := #[] }
def k34m1 : Method := { name := "hasNext", desc := "()Z", sig := { parameters := [], returnType := some .boolean }, accessFlags := 17, code := some k34c1 }
/-- java/util/HashMap$HashIterator -/
def k34 : Class := { plain "java/util/HashMap$HashIterator" (some 0) with
  accessFlags := 1056
  interfaces := #[]
  cf := some (fileOf pool34 2 #[.nestHost 14] #[{ accessFlags := 0, nameIndex := 11, descriptorIndex := 64, attributes := #[] }, { accessFlags := 17, nameIndex := 77, descriptorIndex := 78, attributes := #[] }] 1056 8 #[] #[{ accessFlags := 0, nameIndex := 28, descriptorIndex := 29, attributes := #[] }, { accessFlags := 0, nameIndex := 32, descriptorIndex := 29, attributes := #[] }, { accessFlags := 0, nameIndex := 21, descriptorIndex := 18, attributes := #[] }, { accessFlags := 0, nameIndex := 35, descriptorIndex := 18, attributes := #[] }, { accessFlags := 4112, nameIndex := 5, descriptorIndex := 6, attributes := #[] }])
  fields := #[{ name := "next", type := (.object "java/util/HashMap$Node"), accessFlags := 0, slot := 0, constantValue := 0 }, { name := "current", type := (.object "java/util/HashMap$Node"), accessFlags := 0, slot := 1, constantValue := 0 }, { name := "expectedModCount", type := .int, accessFlags := 0, slot := 2, constantValue := 0 }, { name := "index", type := .int, accessFlags := 0, slot := 3, constantValue := 0 }, { name := "this$0", type := (.object "java/util/HashMap"), accessFlags := 4112, slot := 4, constantValue := 0 }]
  methods := #[k34m0, k34m1]
  instanceTypes := #[(.object "java/util/HashMap$Node"), (.object "java/util/HashMap$Node"), .int, .int, (.object "java/util/HashMap")]
  staticTypes := #[]
  resolved := Array.replicate 91 none
  statics := none }

def pool35 : Array CpInfo := pool [(16, .class_ 18), (1, u "java/util/Iterator"), (0, u "hasNext"), (0, u "()Z"), (10, .class_ 32), (0, u "java/lang/Object")] 20

def k35m0 : Method := { name := "hasNext", desc := "()Z", sig := { parameters := [], returnType := some .boolean }, accessFlags := 1025, code := none }
/-- java/util/Iterator -/
def k35 : Class := { plain "java/util/Iterator" (some 0) with
  accessFlags := 1537
  interfaces := #[]
  cf := some (fileOf pool35 16 #[] #[{ accessFlags := 1025, nameIndex := 19, descriptorIndex := 20, attributes := #[] }] 1537 31 #[] #[])
  fields := #[]
  methods := #[k35m0]
  instanceTypes := #[]
  staticTypes := #[]
  resolved := Array.replicate 53 none
  statics := none }

def pool36 : Array CpInfo := pool [(1, .methodref 2 3), (0, .class_ 4), (0, .nameAndType 5 6), (0, u "java/util/HashMap$HashIterator"), (0, u "<init>"), (0, u "(Ljava/util/HashMap;)V"), (1, .class_ 10), (1, u "java/util/HashMap$EntryIterator"), (6, .class_ 18), (0, u "java/util/Iterator"), (17, .class_ 37), (0, u "java/util/HashMap")] 11

def k36c0 : Code := { maxStack := 2, maxLocals := 2, code := jdk_142_method_1_code, exceptionTable := #[], attributes := #[] }
def k36m0 : Method := { name := "<init>", desc := "(Ljava/util/HashMap;)V", sig := { parameters := [(.object "java/util/HashMap")], returnType := none }, accessFlags := 0, code := some k36c0 }
/-- java/util/HashMap$EntryIterator -/
def k36 : Class := { plain "java/util/HashMap$EntryIterator" (some 34) with
  accessFlags := 48
  interfaces := #[35]
  cf := some (fileOf pool36 8 #[.nestHost 36] #[{ accessFlags := 0, nameIndex := 5, descriptorIndex := 6, attributes := #[] }] 48 2 #[17] #[])
  fields := #[]
  methods := #[k36m0]
  instanceTypes := #[(.object "java/util/HashMap$Node"), (.object "java/util/HashMap$Node"), .int, .int, (.object "java/util/HashMap")]
  staticTypes := #[]
  resolved := Array.replicate 49 none
  statics := none }

def pool37 : Array CpInfo := pool [(9, u "accept"), (2, .class_ 14), (1, u "java/util/function/BiConsumer"), (0, u "(Ljava/lang/Object;Ljava/lang/Object;)V"), (0, .class_ 17), (0, u "java/lang/Object")] 42

def k37m0 : Method := { name := "accept", desc := "(Ljava/lang/Object;Ljava/lang/Object;)V", sig := { parameters := [(.object "java/lang/Object"), (.object "java/lang/Object")], returnType := none }, accessFlags := 1025, code := none }
/-- java/util/function/BiConsumer -/
def k37 : Class := { plain "java/util/function/BiConsumer" (some 0) with
  accessFlags := 1537
  interfaces := #[]
  cf := some (fileOf pool37 12 #[] #[{ accessFlags := 1025, nameIndex := 9, descriptorIndex := 15, attributes := #[] }] 1537 16 #[] #[])
  fields := #[]
  methods := #[k37m0]
  instanceTypes := #[]
  staticTypes := #[]
  resolved := Array.replicate 60 none
  statics := none }

def pool38 : Array CpInfo := pool [(2, .class_ 4), (1, u "java/lang/CharSequence"), (42, .class_ 48), (0, u "java/lang/CharSequence$1CodePointIterator"), (10, .class_ 60), (0, u "java/lang/CharSequence$1CharIterator"), (5, .class_ 67), (0, u "java/lang/Object")] 63

/-- java/lang/CharSequence -/
def k38 : Class := { plain "java/lang/CharSequence" (some 0) with
  accessFlags := 1537
  interfaces := #[]
  cf := some (fileOf pool38 2 #[.nestMembers #[47, 59]] #[] 1537 66 #[] #[])
  fields := #[]
  methods := #[]
  instanceTypes := #[]
  staticTypes := #[]
  resolved := Array.replicate 131 none
  statics := none }

def pool39 : Array CpInfo := pool [(2, .class_ 4), (1, u "java/lang/Object"), (0, u "<init>"), (0, u "()V"), (3, .class_ 12), (1, u "java/lang/String"), (0, u "value"), (0, u "[B"), (2, u "coder"), (0, u "B"), (2, u "hash"), (0, u "I"), (2, u "hashIsZero"), (0, u "Z"), (13, u "COMPACT_STRINGS"), (534, .class_ 576), (0, u "java/lang/CharSequence"), (22, u "CASE_INSENSITIVE_ORDER"), (0, u "Ljava/util/Comparator;"), (500, u "serialPersistentFields"), (0, u "[Ljava/io/ObjectStreamField;"), (0, .class_ 1104), (0, u "java/lang/String$CaseInsensitiveComparator"), (1, .class_ 1107), (0, u "java/io/Serializable"), (0, .class_ 1109), (0, u "java/lang/Comparable"), (0, .class_ 1111), (0, u "java/lang/constant/Constable"), (0, .class_ 1113), (0, u "java/lang/constant/ConstantDesc"), (2, u "serialVersionUID"), (0, u "J"), (3, u "REPL"), (0, u "C"), (2, u "LATIN1"), (1, u "UTF16")] 323

def k39m0 : Method := { name := "<init>", desc := "()V", sig := { parameters := [], returnType := none }, accessFlags := 1, code := none }
/-- java/lang/String -/
def k39 : Class := { plain "java/lang/String" (some 0) with
  accessFlags := 49
  interfaces := #[11, 24, 38, 25, 26]
  cf := some (fileOf pool39 10 #[.nestMembers #[1103]] #[{ accessFlags := 1, nameIndex := 5, descriptorIndex := 6, attributes := #[] }] 49 2 #[1106, 1108, 575, 1110, 1112] #[{ accessFlags := 18, nameIndex := 13, descriptorIndex := 14, attributes := #[] }, { accessFlags := 18, nameIndex := 17, descriptorIndex := 18, attributes := #[] }, { accessFlags := 2, nameIndex := 21, descriptorIndex := 22, attributes := #[] }, { accessFlags := 2, nameIndex := 25, descriptorIndex := 26, attributes := #[] }, { accessFlags := 26, nameIndex := 1116, descriptorIndex := 1117, attributes := #[] }, { accessFlags := 24, nameIndex := 40, descriptorIndex := 26, attributes := #[] }, { accessFlags := 26, nameIndex := 1101, descriptorIndex := 1102, attributes := #[] }, { accessFlags := 26, nameIndex := 1121, descriptorIndex := 1122, attributes := #[] }, { accessFlags := 25, nameIndex := 599, descriptorIndex := 600, attributes := #[] }, { accessFlags := 24, nameIndex := 1125, descriptorIndex := 18, attributes := #[] }, { accessFlags := 24, nameIndex := 1127, descriptorIndex := 18, attributes := #[] }])
  fields := #[{ name := "value", type := (.array .byte), accessFlags := 18, slot := 0, constantValue := 0 }, { name := "coder", type := .byte, accessFlags := 18, slot := 1, constantValue := 0 }, { name := "hash", type := .int, accessFlags := 2, slot := 2, constantValue := 0 }, { name := "hashIsZero", type := .boolean, accessFlags := 2, slot := 3, constantValue := 0 }, { name := "serialVersionUID", type := .long, accessFlags := 26, slot := 0, constantValue := 0 }, { name := "COMPACT_STRINGS", type := .boolean, accessFlags := 24, slot := 1, constantValue := 0 }, { name := "serialPersistentFields", type := (.array (.object "java/io/ObjectStreamField")), accessFlags := 26, slot := 2, constantValue := 0 }, { name := "REPL", type := .char, accessFlags := 26, slot := 3, constantValue := 0 }, { name := "CASE_INSENSITIVE_ORDER", type := (.object "java/util/Comparator"), accessFlags := 25, slot := 4, constantValue := 0 }, { name := "LATIN1", type := .byte, accessFlags := 24, slot := 5, constantValue := 0 }, { name := "UTF16", type := .byte, accessFlags := 24, slot := 6, constantValue := 0 }]
  methods := #[k39m0]
  instanceTypes := #[(.array .byte), .byte, .int, .boolean]
  staticTypes := #[.long, .boolean, (.array (.object "java/io/ObjectStreamField")), .char, (.object "java/util/Comparator"), .byte, .byte]
  resolved := Array.replicate 1451 none
  statics := none }

def pool40 : Array CpInfo := pool [(1, .class_ 2), (0, u "java/util/PrimitiveIterator"), (0, .class_ 4), (0, u "java/lang/Object"), (0, .class_ 6), (0, u "java/util/Iterator"), (8, .class_ 16), (0, u "java/util/PrimitiveIterator$OfDouble"), (0, .class_ 18), (0, u "java/util/PrimitiveIterator$OfLong"), (0, .class_ 20), (0, u "java/util/PrimitiveIterator$OfInt")] 4

/-- java/util/PrimitiveIterator -/
def k40 : Class := { plain "java/util/PrimitiveIterator" (some 0) with
  accessFlags := 1537
  interfaces := #[35]
  cf := some (fileOf pool40 1 #[.nestMembers #[15, 17, 19]] #[] 1537 3 #[5] #[])
  fields := #[]
  methods := #[]
  instanceTypes := #[]
  staticTypes := #[]
  resolved := Array.replicate 25 none
  statics := none }

def pool41 : Array CpInfo := pool [(8, .class_ 10), (1, u "java/util/PrimitiveIterator$OfInt"), (48, .class_ 60), (0, u "java/lang/Object"), (0, .class_ 62), (0, u "java/util/PrimitiveIterator")] 42

/-- java/util/PrimitiveIterator$OfInt -/
def k41 : Class := { plain "java/util/PrimitiveIterator$OfInt" (some 0) with
  accessFlags := 1537
  interfaces := #[40]
  cf := some (fileOf pool41 8 #[.nestHost 61] #[] 1537 59 #[61] #[])
  fields := #[]
  methods := #[]
  instanceTypes := #[]
  staticTypes := #[]
  resolved := Array.replicate 105 none
  statics := none }

def pool42 : Array CpInfo := pool [(1, .fieldref 2 3), (0, .class_ 4), (0, .nameAndType 5 6), (0, u "org/tallyrole/core/IntTrie$1"), (0, u "this$0"), (0, u "Lorg/tallyrole/core/IntTrie;"), (0, .methodref 8 9), (0, .class_ 10), (0, .nameAndType 11 12), (0, u "java/lang/Object"), (0, u "<init>"), (0, u "()V"), (0, .methodref 14 15), (0, .class_ 16), (0, .nameAndType 17 18), (0, u "org/tallyrole/core/IntTrie"), (0, u "ceilingKey"), (0, u "(I)I"), (0, .fieldref 2 20), (0, .nameAndType 21 22), (0, u "next"), (0, u "I"), (6, .class_ 30), (0, u "java/util/PrimitiveIterator$OfInt"), (0, u "(Lorg/tallyrole/core/IntTrie;)V"), (3, u "hasNext"), (0, u "()Z")] 14

def k42c0 : Code := { maxStack := 3, maxLocals := 2, code := prog_46_method_1_code, exceptionTable := #[], attributes := #[] }
def k42m0 : Method := { name := "<init>", desc := "(Lorg/tallyrole/core/IntTrie;)V", sig := { parameters := [(.object "org/tallyrole/core/IntTrie")], returnType := none }, accessFlags := 0, code := some k42c0 }
def k42c1 : Code := { maxStack := 1, maxLocals := 1, code := prog_46_method_2_code, exceptionTable := #[], attributes := #[] }
def k42m1 : Method := { name := "hasNext", desc := "()Z", sig := { parameters := [], returnType := some .boolean }, accessFlags := 1, code := some k42c1 }
/-- org/tallyrole/core/IntTrie$1 -/
def k42 : Class := { plain "org/tallyrole/core/IntTrie$1" (some 0) with
  accessFlags := 32
  interfaces := #[41]
  cf := some (fileOf pool42 2 #[.nestHost 14] #[{ accessFlags := 0, nameIndex := 11, descriptorIndex := 31, attributes := #[] }, { accessFlags := 1, nameIndex := 35, descriptorIndex := 36, attributes := #[] }] 32 8 #[29] #[{ accessFlags := 2, nameIndex := 21, descriptorIndex := 22, attributes := #[] }, { accessFlags := 4112, nameIndex := 5, descriptorIndex := 6, attributes := #[] }])
  fields := #[{ name := "next", type := .int, accessFlags := 2, slot := 0, constantValue := 0 }, { name := "this$0", type := (.object "org/tallyrole/core/IntTrie"), accessFlags := 4112, slot := 1, constantValue := 0 }]
  methods := #[k42m0, k42m1]
  instanceTypes := #[.int, (.object "org/tallyrole/core/IntTrie")]
  staticTypes := #[]
  resolved := Array.replicate 51 none
  statics := none }

def pool43 : Array CpInfo := pool [(9, u "accept"), (2, .class_ 14), (1, u "java/util/function/Consumer"), (0, u "(Ljava/lang/Object;)V"), (0, .class_ 17), (0, u "java/lang/Object")] 41

def k43m0 : Method := { name := "accept", desc := "(Ljava/lang/Object;)V", sig := { parameters := [(.object "java/lang/Object")], returnType := none }, accessFlags := 1025, code := none }
/-- java/util/function/Consumer -/
def k43 : Class := { plain "java/util/function/Consumer" (some 0) with
  accessFlags := 1537
  interfaces := #[]
  cf := some (fileOf pool43 12 #[] #[{ accessFlags := 1025, nameIndex := 9, descriptorIndex := 15, attributes := #[] }] 1537 16 #[] #[])
  fields := #[]
  methods := #[k43m0]
  instanceTypes := #[]
  staticTypes := #[]
  resolved := Array.replicate 59 none
  statics := none }

/-- the primitive byte -/
def k44 : Class := { plain "byte" none with kind := .primitive 'B', accessFlags := 0x411 }
/-- [B -/
def k45 : Class := { plain "[B" (some 0) with kind := .array 44 .byte, interfaces := #[10, 11], accessFlags := 1041 }

/-- the primitive int -/
def k46 : Class := { plain "int" none with kind := .primitive 'I', accessFlags := 0x411 }
/-- [I -/
def k47 : Class := { plain "[I" (some 0) with kind := .array 46 .int, interfaces := #[10, 11], accessFlags := 1041 }

/-- the primitive long -/
def k48 : Class := { plain "long" none with kind := .primitive 'J', accessFlags := 0x411 }
/-- [J -/
def k49 : Class := { plain "[J" (some 0) with kind := .array 48 .long, interfaces := #[10, 11], accessFlags := 1041 }

/-- [Ljava/lang/Object; -/
def k50 : Class := { plain "[Ljava/lang/Object;" (some 0) with kind := .array 0 (.object "java/lang/Object"), interfaces := #[10, 11], accessFlags := 1041 }

def classes0 : Array Class := #[k0, k1, k2, k3, k4, k5, k6, k7, k8, k9, k10, k11, k12, k13, k14, k15, k16, k17, k18, k19, k20, k21, k22, k23, k24, k25, k26, k27, k28, k29, k30, k31, k32, k33, k34, k35, k36, k37, k38, k39, k40, k41, k42, k43, k44, k45, k46, k47, k48, k49, k50]
/-- the class that the rule has made for the site at 396 of org/tallyrole/core/Graph.merge -/
def k51 : Class := Jvm.LamKit.madeRec { classes := classes0 } "org/tallyrole/core/Graph" (Jvm.Lambda.Shape.mk "java/util/function/BiConsumer" "accept" (Jvm.ClassFile.MethodDescriptor.mk ([(Jvm.ClassFile.FieldType.object "java/lang/Object"), (Jvm.ClassFile.FieldType.object "java/lang/Object")] : List Jvm.ClassFile.FieldType) (Option.none : Option Jvm.ClassFile.FieldType)) ([Jvm.ClassFile.FieldType.int, Jvm.ClassFile.FieldType.int, (Jvm.ClassFile.FieldType.object "org/tallyrole/core/Dependencies"), (Jvm.ClassFile.FieldType.object "java/util/List")] : List Jvm.ClassFile.FieldType) (6 : Nat) "org/tallyrole/core/Graph" "lambda$merge$0" (Jvm.ClassFile.MethodDescriptor.mk ([Jvm.ClassFile.FieldType.int, Jvm.ClassFile.FieldType.int, (Jvm.ClassFile.FieldType.object "org/tallyrole/core/Dependencies"), (Jvm.ClassFile.FieldType.object "java/util/List"), (Jvm.ClassFile.FieldType.object "org/tallyrole/core/Role"), (Jvm.ClassFile.FieldType.object "org/tallyrole/core/IntTrie")] : List Jvm.ClassFile.FieldType) (Option.none : Option Jvm.ClassFile.FieldType)) false (Jvm.ClassFile.MethodDescriptor.mk ([(Jvm.ClassFile.FieldType.object "org/tallyrole/core/Role"), (Jvm.ClassFile.FieldType.object "org/tallyrole/core/IntTrie")] : List Jvm.ClassFile.FieldType) (Option.none : Option Jvm.ClassFile.FieldType))) 51

/-- the class that the rule has made for the site at 416 of org/tallyrole/core/Graph.merge -/
def k52 : Class := Jvm.LamKit.madeRec { classes := classes0 } "org/tallyrole/core/Graph" (Jvm.Lambda.Shape.mk "java/util/function/BiConsumer" "accept" (Jvm.ClassFile.MethodDescriptor.mk ([(Jvm.ClassFile.FieldType.object "java/lang/Object"), (Jvm.ClassFile.FieldType.object "java/lang/Object")] : List Jvm.ClassFile.FieldType) (Option.none : Option Jvm.ClassFile.FieldType)) ([Jvm.ClassFile.FieldType.int, Jvm.ClassFile.FieldType.int, (Jvm.ClassFile.FieldType.object "org/tallyrole/core/Dependencies"), (Jvm.ClassFile.FieldType.object "java/util/List")] : List Jvm.ClassFile.FieldType) (6 : Nat) "org/tallyrole/core/Graph" "lambda$merge$1" (Jvm.ClassFile.MethodDescriptor.mk ([Jvm.ClassFile.FieldType.int, Jvm.ClassFile.FieldType.int, (Jvm.ClassFile.FieldType.object "org/tallyrole/core/Dependencies"), (Jvm.ClassFile.FieldType.object "java/util/List"), (Jvm.ClassFile.FieldType.object "org/tallyrole/core/Role"), (Jvm.ClassFile.FieldType.object "org/tallyrole/core/IntTrie")] : List Jvm.ClassFile.FieldType) (Option.none : Option Jvm.ClassFile.FieldType)) false (Jvm.ClassFile.MethodDescriptor.mk ([(Jvm.ClassFile.FieldType.object "org/tallyrole/core/Role"), (Jvm.ClassFile.FieldType.object "org/tallyrole/core/IntTrie")] : List Jvm.ClassFile.FieldType) (Option.none : Option Jvm.ClassFile.FieldType))) 52

/-- the class that the rule has made for the site at 1 of org/tallyrole/core/IntTrie.keys -/
def k53 : Class := Jvm.LamKit.madeRec { classes := classes0 } "org/tallyrole/core/IntTrie" (Jvm.Lambda.Shape.mk "java/lang/Iterable" "iterator" (Jvm.ClassFile.MethodDescriptor.mk ([] : List Jvm.ClassFile.FieldType) (Option.some (Jvm.ClassFile.FieldType.object "java/util/Iterator"))) ([(Jvm.ClassFile.FieldType.object "org/tallyrole/core/IntTrie")] : List Jvm.ClassFile.FieldType) (5 : Nat) "org/tallyrole/core/IntTrie" "lambda$keys$0" (Jvm.ClassFile.MethodDescriptor.mk ([] : List Jvm.ClassFile.FieldType) (Option.some (Jvm.ClassFile.FieldType.object "java/util/Iterator"))) false (Jvm.ClassFile.MethodDescriptor.mk ([] : List Jvm.ClassFile.FieldType) (Option.some (Jvm.ClassFile.FieldType.object "java/util/Iterator")))) 53

/-- the class that the rule has made for the site at 542 of org/tallyrole/core/Graph.merge -/
def k54 : Class := Jvm.LamKit.madeRec { classes := classes0 } "org/tallyrole/core/Graph" (Jvm.Lambda.Shape.mk "java/util/function/Consumer" "accept" (Jvm.ClassFile.MethodDescriptor.mk ([(Jvm.ClassFile.FieldType.object "java/lang/Object")] : List Jvm.ClassFile.FieldType) (Option.none : Option Jvm.ClassFile.FieldType)) ([(Jvm.ClassFile.FieldType.object "org/tallyrole/core/Graph")] : List Jvm.ClassFile.FieldType) (5 : Nat) "org/tallyrole/core/Graph" "forbid" (Jvm.ClassFile.MethodDescriptor.mk ([(Jvm.ClassFile.FieldType.object "org/tallyrole/core/Graph$Edge")] : List Jvm.ClassFile.FieldType) (Option.none : Option Jvm.ClassFile.FieldType)) false (Jvm.ClassFile.MethodDescriptor.mk ([(Jvm.ClassFile.FieldType.object "org/tallyrole/core/Graph$Edge")] : List Jvm.ClassFile.FieldType) (Option.none : Option Jvm.ClassFile.FieldType))) 54

def heap : Heap := #[{ cls := 3, slots := #[.int 0, .int 0, .ref 10], vm := .statics 3 },
  { cls := 20, slots := #[.long 0, .int 0, .ref 6, .ref 7], vm := .statics 20 },
  { cls := 22, slots := #[.ref 5], vm := .statics 22 },
  { cls := 29, slots := #[.ref 11, .null, .null, .long 0], vm := .statics 29 },
  { cls := 30, slots := #[.ref 8, .ref 9], vm := .statics 30 },
  { cls := 50, slots := #[], vm := .none },
  { cls := 50, slots := #[], vm := .none },
  { cls := 50, slots := #[], vm := .none },
  { cls := 47, slots := #[], vm := .none },
  { cls := 49, slots := #[], vm := .none },
  { cls := 3, slots := #[.null, .int 0], vm := .none },
  { cls := 29, slots := #[.int 1], vm := .none }]
def classes : Array Class := #[k0, k1, k2, k3, k4, k5, k6, k7, k8, k9, k10, k11, k12, k13, k14, k15, k16, k17, k18, k19, k20, k21, k22, k23, k24, k25, k26, k27, k28, k29, k30, k31, k32, k33, k34, k35, k36, k37, k38, k39, k40, k41, k42, k43, k44, k45, k46, k47, k48, k49, k50, k51, k52, k53, k54]
def interned : List (Array UInt16 × Addr) := []
def slotsUsed : Nat := 17
def theMethod : MethodId := ⟨1, 1⟩
def args0 : Array Value := #[.int 5, .int 3, .int 9, .int 2]
def aboutOver (below : List Frame) : State where
  vm := { classes := classes, interned := interned.toArray }
  heap := heap
  slotsUsed := slotsUsed
  threads := #[{ frames := .invoking theMethod args0 :: below }]
def below0 : List Frame := [.native { method := ⟨0, 0⟩, args := #[] }]
def about1 : State := aboutOver below0
def p0 : Program := .bare "" "" ""
def e0 : Env := launch0.env 0 0 0
theorem w_frames : about1.frames = Frame.invoking theMethod args0 :: below0 := rfl
set_option maxRecDepth 65536 in
theorem w_args : argsFit about1.vm theMethod args0 = true := by decide +kernel
set_option maxRecDepth 65536 in
theorem w_heap : heapFits about1 = true := by decide +kernel
set_option maxRecDepth 65536 in
theorem w_runnable : about1.curStatus? = some .runnable := by decide +kernel
set_option maxRecDepth 65536 in
theorem w_alone : about1.alone = true := by decide +kernel
set_option maxRecDepth 65536 in
theorem w_named : about1.methodNamed? x = some theMethod := by decide +kernel
set_option maxRecDepth 65536 in
theorem w_hears : about1.hears theMethod below0 = true := by decide +kernel
set_option maxRecDepth 65536 in
theorem w_ripe : about1.ripe theMethod args0 below0 = true := by decide +kernel
theorem w_running : about1.status = .running := rfl
set_option maxRecDepth 65536 in
theorem w_room : about1.hasRoom e0.platform room_1 = true :=
  launch0.hasRoom_least _ room_1 (by decide +kernel) (by decide +kernel) (by decide +kernel) (by decide +kernel) (by decide +kernel) (by decide +kernel)
theorem allAtoms_all (ts : List Jvm.Cond) (a : Array Jvm.Value) (st : Jvm.State) : (allAtoms ts).before a st = ts.all (fun c => c.before a st) := by
  induction ts with
  | nil => rfl
  | cons c t ih =>
    show (Jvm.Cond.and c (allAtoms t)).before a st = _
    rw [Jvm.Cond.before_and, ih, List.all_cons]
def words1 : List Jvm.Cond := Jvm.Cond.code x code maxLocals ret :: tables_1
/-- a 'code' word, met by the world's own term for the bytes: nothing is compared byte by byte -/
theorem code_word {y : MethodName} {bytes : ByteArray} {mx : Nat} {rt : Option FieldType} {a : Array Value} {s : State} {m : MethodId} {meth : Method} {c : Code} (h1 : s.methodNamed? y = some m) (h2 : s.vm.method? m = some meth) (h3 : meth.code = some c) (h4 : c.code = bytes)
    (h5 : (c.maxLocals == mx && c.exceptionTable.isEmpty && decide (c.maxStack ≤ mostOperands) && decide (meth.sig.returnType = rt) && !meth.locks && decide (parseMethodDescriptor y.desc = some meth.sig)) = true) : (Jvm.Cond.code y bytes mx rt).before a s = true := by
  simp only [Bool.and_eq_true, beq_iff_eq, Bool.not_eq_true', decide_eq_true_eq] at h5
  obtain ⟨⟨⟨⟨⟨g1, g2⟩, g3⟩, g4⟩, g5⟩, g6⟩ := h5
  simp [Cond.before, Cond.holds, Cond.value, h1, h2, h3, h4, g1, g2, g3, g4, g5, g6]
def isCode : Jvm.Cond → Bool
  | .code _ _ _ _ => true
  | _ => false
theorem all_split {L : List Jvm.Cond} {P : Jvm.Cond → Bool} (h1 : L.all (fun c => isCode c || P c) = true) (h2 : ∀ c ∈ L.filter isCode, P c = true) : L.all P = true := by
  refine List.all_eq_true.mpr fun c hc => ?_
  have h := List.all_eq_true.mp h1 c hc
  rcases Bool.eq_false_or_eq_true (isCode c) with hi | hi
  · exact h2 c (List.mem_filter.mpr ⟨hc, hi⟩)
  · simpa [hi] using h
set_option maxRecDepth 65536 in
theorem w_c0 : (Jvm.Cond.code x code maxLocals ret).before args0 about1 = true := code_word (m := ⟨1, 1⟩) (meth := k1m1) (c := k1c1) (by decide +kernel) rfl rfl rfl (by decide +kernel)
set_option maxRecDepth 65536 in
theorem w_c1 : (Jvm.Cond.code ({ cls := "org/tallyrole/core/Graph", name := "<init>", desc := "()V" } : Jvm.MethodName) prog_39_method_1_code (1 : Nat) (Option.none : Option Jvm.ClassFile.FieldType)).before args0 about1 = true := code_word (m := ⟨2, 0⟩) (meth := k2m0) (c := k2c0) (by decide +kernel) rfl rfl rfl (by decide +kernel)
set_option maxRecDepth 65536 in
theorem w_c2 : (Jvm.Cond.code ({ cls := "java/lang/Object", name := "<init>", desc := "()V" } : Jvm.MethodName) object_method_1_code (1 : Nat) (Option.none : Option Jvm.ClassFile.FieldType)).before args0 about1 = true := code_word (m := ⟨0, 0⟩) (meth := k0m0) (c := k0c0) (by decide +kernel) rfl rfl rfl (by decide +kernel)
set_option maxRecDepth 65536 in
theorem w_c3 : (Jvm.Cond.code ({ cls := "org/tallyrole/core/IntTrie", name := "empty", desc := "()Lorg/tallyrole/core/IntTrie;" } : Jvm.MethodName) prog_45_method_2_code (0 : Nat) (Option.some (Jvm.ClassFile.FieldType.object "org/tallyrole/core/IntTrie"))).before args0 about1 = true := code_word (m := ⟨3, 1⟩) (meth := k3m1) (c := k3c1) (by decide +kernel) rfl rfl rfl (by decide +kernel)
set_option maxRecDepth 65536 in
theorem w_c4 : (Jvm.Cond.code ({ cls := "java/util/ArrayDeque", name := "<init>", desc := "()V" } : Jvm.MethodName) jdk_21_method_3_code (1 : Nat) (Option.none : Option Jvm.ClassFile.FieldType)).before args0 about1 = true := code_word (m := ⟨12, 0⟩) (meth := k12m0) (c := k12c0) (by decide +kernel) rfl rfl rfl (by decide +kernel)
set_option maxRecDepth 65536 in
theorem w_c5 : (Jvm.Cond.code ({ cls := "java/util/AbstractCollection", name := "<init>", desc := "()V" } : Jvm.MethodName) jdk_22_method_1_code (1 : Nat) (Option.none : Option Jvm.ClassFile.FieldType)).before args0 about1 = true := code_word (m := ⟨6, 0⟩) (meth := k6m0) (c := k6c0) (by decide +kernel) rfl rfl rfl (by decide +kernel)
set_option maxRecDepth 65536 in
theorem w_c6 : (Jvm.Cond.code ({ cls := "java/util/HashMap", name := "<init>", desc := "()V" } : Jvm.MethodName) jdk_69_method_7_code (1 : Nat) (Option.none : Option Jvm.ClassFile.FieldType)).before args0 about1 = true := code_word (m := ⟨15, 0⟩) (meth := k15m0) (c := k15c0) (by decide +kernel) rfl rfl rfl (by decide +kernel)
set_option maxRecDepth 65536 in
theorem w_c7 : (Jvm.Cond.code ({ cls := "java/util/AbstractMap", name := "<init>", desc := "()V" } : Jvm.MethodName) jdk_71_method_1_code (1 : Nat) (Option.none : Option Jvm.ClassFile.FieldType)).before args0 about1 = true := code_word (m := ⟨14, 0⟩) (meth := k14m0) (c := k14c0) (by decide +kernel) rfl rfl rfl (by decide +kernel)
set_option maxRecDepth 65536 in
theorem w_c8 : (Jvm.Cond.code ({ cls := "org/tallyrole/core/Graph", name := "size", desc := "()I" } : Jvm.MethodName) prog_39_method_4_code (1 : Nat) (Option.some Jvm.ClassFile.FieldType.int)).before args0 about1 = true := code_word (m := ⟨2, 2⟩) (meth := k2m2) (c := k2c2) (by decide +kernel) rfl rfl rfl (by decide +kernel)
set_option maxRecDepth 65536 in
theorem w_c9 : (Jvm.Cond.code ({ cls := "org/tallyrole/core/Graph", name := "node", desc := "(I)Lorg/tallyrole/core/Graph$Node;" } : Jvm.MethodName) prog_39_method_5_code (2 : Nat) (Option.some (Jvm.ClassFile.FieldType.object "org/tallyrole/core/Graph$Node"))).before args0 about1 = true := code_word (m := ⟨2, 3⟩) (meth := k2m3) (c := k2c3) (by decide +kernel) rfl rfl rfl (by decide +kernel)
set_option maxRecDepth 65536 in
theorem w_c10 : (Jvm.Cond.code ({ cls := "org/tallyrole/core/IntTrie", name := "get", desc := "(I)Ljava/lang/Object;" } : Jvm.MethodName) prog_45_method_3_code (4 : Nat) (Option.some (Jvm.ClassFile.FieldType.object "java/lang/Object"))).before args0 about1 = true := code_word (m := ⟨3, 2⟩) (meth := k3m2) (c := k3c2) (by decide +kernel) rfl rfl rfl (by decide +kernel)
set_option maxRecDepth 65536 in
theorem w_c11 : (Jvm.Cond.code ({ cls := "org/tallyrole/core/Graph", name := "addNode", desc := "()I" } : Jvm.MethodName) prog_39_method_3_code (2 : Nat) (Option.some Jvm.ClassFile.FieldType.int)).before args0 about1 = true := code_word (m := ⟨2, 1⟩) (meth := k2m1) (c := k2c1) (by decide +kernel) rfl rfl rfl (by decide +kernel)
set_option maxRecDepth 65536 in
theorem w_c12 : (Jvm.Cond.code ({ cls := "org/tallyrole/core/Graph$Node", name := "<init>", desc := "(Ljava/lang/Object;)V" } : Jvm.MethodName) prog_42_method_1_code (2 : Nat) (Option.none : Option Jvm.ClassFile.FieldType)).before args0 about1 = true := code_word (m := ⟨16, 0⟩) (meth := k16m0) (c := k16c0) (by decide +kernel) rfl rfl rfl (by decide +kernel)
set_option maxRecDepth 65536 in
theorem w_c13 : (Jvm.Cond.code ({ cls := "java/util/ArrayList", name := "<init>", desc := "()V" } : Jvm.MethodName) jdk_38_method_2_code (1 : Nat) (Option.none : Option Jvm.ClassFile.FieldType)).before args0 about1 = true := code_word (m := ⟨20, 0⟩) (meth := k20m0) (c := k20c0) (by decide +kernel) rfl rfl rfl (by decide +kernel)
set_option maxRecDepth 65536 in
theorem w_c14 : (Jvm.Cond.code ({ cls := "java/util/AbstractList", name := "<init>", desc := "()V" } : Jvm.MethodName) jdk_39_method_1_code (1 : Nat) (Option.none : Option Jvm.ClassFile.FieldType)).before args0 about1 = true := code_word (m := ⟨18, 0⟩) (meth := k18m0) (c := k18c0) (by decide +kernel) rfl rfl rfl (by decide +kernel)
set_option maxRecDepth 65536 in
theorem w_c15 : (Jvm.Cond.code ({ cls := "org/tallyrole/core/IntTrie", name := "with", desc := "(ILjava/lang/Object;Ljava/lang/Object;)Lorg/tallyrole/core/IntTrie;" } : Jvm.MethodName) prog_45_method_6_code (7 : Nat) (Option.some (Jvm.ClassFile.FieldType.object "org/tallyrole/core/IntTrie"))).before args0 about1 = true := code_word (m := ⟨3, 5⟩) (meth := k3m5) (c := k3c5) (by decide +kernel) rfl rfl rfl (by decide +kernel)
set_option maxRecDepth 65536 in
theorem w_c16 : (Jvm.Cond.code ({ cls := "java/util/Objects", name := "requireNonNull", desc := "(Ljava/lang/Object;)Ljava/lang/Object;" } : Jvm.MethodName) jdk_31_method_10_code (1 : Nat) (Option.some (Jvm.ClassFile.FieldType.object "java/lang/Object"))).before args0 about1 = true := code_word (m := ⟨21, 1⟩) (meth := k21m1) (c := k21c1) (by decide +kernel) rfl rfl rfl (by decide +kernel)
set_option maxRecDepth 65536 in
theorem w_c17 : (Jvm.Cond.code ({ cls := "org/tallyrole/core/IntTrie", name := "path", desc := "(IILjava/lang/Object;Ljava/lang/Object;)Lorg/tallyrole/core/IntTrie$Chunk;" } : Jvm.MethodName) prog_45_method_11_code (5 : Nat) (Option.some (Jvm.ClassFile.FieldType.object "org/tallyrole/core/IntTrie$Chunk"))).before args0 about1 = true := code_word (m := ⟨3, 10⟩) (meth := k3m10) (c := k3c10) (by decide +kernel) rfl rfl rfl (by decide +kernel)
set_option maxRecDepth 65536 in
theorem w_c18 : (Jvm.Cond.code ({ cls := "org/tallyrole/core/IntTrie$Chunk", name := "<init>", desc := "(Ljava/lang/Object;)V" } : Jvm.MethodName) prog_47_method_1_code (2 : Nat) (Option.none : Option Jvm.ClassFile.FieldType)).before args0 about1 = true := code_word (m := ⟨22, 0⟩) (meth := k22m0) (c := k22c0) (by decide +kernel) rfl rfl rfl (by decide +kernel)
set_option maxRecDepth 65536 in
theorem w_c19 : (Jvm.Cond.code ({ cls := "org/tallyrole/core/IntTrie$Chunk", name := "set", desc := "(ILjava/lang/Object;)Lorg/tallyrole/core/IntTrie$Chunk;" } : Jvm.MethodName) prog_47_method_4_code (7 : Nat) (Option.some (Jvm.ClassFile.FieldType.object "org/tallyrole/core/IntTrie$Chunk"))).before args0 about1 = true := code_word (m := ⟨22, 3⟩) (meth := k22m3) (c := k22c3) (by decide +kernel) rfl rfl rfl (by decide +kernel)
set_option maxRecDepth 65536 in
theorem w_c20 : (Jvm.Cond.code ({ cls := "java/lang/Integer", name := "bitCount", desc := "(I)I" } : Jvm.MethodName) jdk_33_method_49_code (1 : Nat) (Option.some Jvm.ClassFile.FieldType.int)).before args0 about1 = true := code_word (m := ⟨27, 0⟩) (meth := k27m0) (c := k27c0) (by decide +kernel) rfl rfl rfl (by decide +kernel)
set_option maxRecDepth 65536 in
theorem w_c21 : (Jvm.Cond.code ({ cls := "org/tallyrole/core/IntTrie", name := "<init>", desc := "(Lorg/tallyrole/core/IntTrie$Chunk;I)V" } : Jvm.MethodName) prog_45_method_1_code (3 : Nat) (Option.none : Option Jvm.ClassFile.FieldType)).before args0 about1 = true := code_word (m := ⟨3, 0⟩) (meth := k3m0) (c := k3c0) (by decide +kernel) rfl rfl rfl (by decide +kernel)
set_option maxRecDepth 65536 in
theorem w_c22 : (Jvm.Cond.code ({ cls := "org/tallyrole/core/Graph", name := "unsettle", desc := "(I)V" } : Jvm.MethodName) prog_39_method_28_code (2 : Nat) (Option.none : Option Jvm.ClassFile.FieldType)).before args0 about1 = true := code_word (m := ⟨2, 8⟩) (meth := k2m8) (c := k2c8) (by decide +kernel) rfl rfl rfl (by decide +kernel)
set_option maxRecDepth 65536 in
theorem w_c23 : (Jvm.Cond.code ({ cls := "org/tallyrole/core/IntTrie", name := "containsKey", desc := "(I)Z" } : Jvm.MethodName) prog_45_method_5_code (2 : Nat) (Option.some Jvm.ClassFile.FieldType.boolean)).before args0 about1 = true := code_word (m := ⟨3, 4⟩) (meth := k3m4) (c := k3c4) (by decide +kernel) rfl rfl rfl (by decide +kernel)
set_option maxRecDepth 65536 in
theorem w_c24 : (Jvm.Cond.code ({ cls := "java/lang/Boolean", name := "valueOf", desc := "(Z)Ljava/lang/Boolean;" } : Jvm.MethodName) jdk_2055_method_5_code (1 : Nat) (Option.some (Jvm.ClassFile.FieldType.object "java/lang/Boolean"))).before args0 about1 = true := code_word (m := ⟨29, 0⟩) (meth := k29m0) (c := k29c0) (by decide +kernel) rfl rfl rfl (by decide +kernel)
set_option maxRecDepth 65536 in
theorem w_c25 : (Jvm.Cond.code ({ cls := "org/tallyrole/core/IntTrie", name := "put", desc := "(Lorg/tallyrole/core/IntTrie$Chunk;IILjava/lang/Object;Ljava/lang/Object;)Lorg/tallyrole/core/IntTrie$Chunk;" } : Jvm.MethodName) prog_45_method_10_code (8 : Nat) (Option.some (Jvm.ClassFile.FieldType.object "org/tallyrole/core/IntTrie$Chunk"))).before args0 about1 = true := code_word (m := ⟨3, 9⟩) (meth := k3m9) (c := k3c9) (by decide +kernel) rfl rfl rfl (by decide +kernel)
set_option maxRecDepth 65536 in
theorem w_c26 : (Jvm.Cond.code ({ cls := "org/tallyrole/core/IntTrie$Chunk", name := "slot", desc := "(I)Ljava/lang/Object;" } : Jvm.MethodName) prog_47_method_2_code (3 : Nat) (Option.some (Jvm.ClassFile.FieldType.object "java/lang/Object"))).before args0 about1 = true := code_word (m := ⟨22, 1⟩) (meth := k22m1) (c := k22c1) (by decide +kernel) rfl rfl rfl (by decide +kernel)
set_option maxRecDepth 65536 in
theorem w_c27 : (Jvm.Cond.code ({ cls := "org/tallyrole/core/IntTrie$Chunk", name := "ownedBy", desc := "(Ljava/lang/Object;)Lorg/tallyrole/core/IntTrie$Chunk;" } : Jvm.MethodName) prog_47_method_3_code (3 : Nat) (Option.some (Jvm.ClassFile.FieldType.object "org/tallyrole/core/IntTrie$Chunk"))).before args0 about1 = true := code_word (m := ⟨22, 2⟩) (meth := k22m2) (c := k22c2) (by decide +kernel) rfl rfl rfl (by decide +kernel)
set_option maxRecDepth 65536 in
theorem w_c28 : (Jvm.Cond.code ({ cls := "org/tallyrole/core/Dependencies", name := "<init>", desc := "()V" } : Jvm.MethodName) prog_36_method_1_code (1 : Nat) (Option.none : Option Jvm.ClassFile.FieldType)).before args0 about1 = true := code_word (m := ⟨30, 0⟩) (meth := k30m0) (c := k30c0) (by decide +kernel) rfl rfl rfl (by decide +kernel)
set_option maxRecDepth 65536 in
theorem w_c29 : (Jvm.Cond.code ({ cls := "org/tallyrole/core/Graph", name := "merge", desc := "(IILorg/tallyrole/core/Dependencies;)Ljava/util/List;" } : Jvm.MethodName) prog_39_method_24_code (11 : Nat) (Option.some (Jvm.ClassFile.FieldType.object "java/util/List"))).before args0 about1 = true := code_word (m := ⟨2, 7⟩) (meth := k2m7) (c := k2c7) (by decide +kernel) rfl rfl rfl (by decide +kernel)
set_option maxRecDepth 65536 in
theorem w_c30 : (Jvm.Cond.code ({ cls := "java/util/ArrayDeque", name := "isEmpty", desc := "()Z" } : Jvm.MethodName) jdk_21_method_38_code (1 : Nat) (Option.some Jvm.ClassFile.FieldType.boolean)).before args0 about1 = true := code_word (m := ⟨12, 1⟩) (meth := k12m1) (c := k12c1) (by decide +kernel) rfl rfl rfl (by decide +kernel)
set_option maxRecDepth 65536 in
theorem w_c31 : (Jvm.Cond.code ({ cls := "org/tallyrole/core/Graph", name := "different", desc := "(II)Lorg/tallyrole/core/Dependencies;" } : Jvm.MethodName) prog_39_method_23_code (7 : Nat) (Option.some (Jvm.ClassFile.FieldType.object "org/tallyrole/core/Dependencies"))).before args0 about1 = true := code_word (m := ⟨2, 6⟩) (meth := k2m6) (c := k2c6) (by decide +kernel) rfl rfl rfl (by decide +kernel)
set_option maxRecDepth 65536 in
theorem w_c32 : (Jvm.Cond.code ({ cls := "org/tallyrole/core/IntTrie", name := "ceilingKey", desc := "(I)I" } : Jvm.MethodName) prog_45_method_8_code (3 : Nat) (Option.some Jvm.ClassFile.FieldType.int)).before args0 about1 = true := code_word (m := ⟨3, 7⟩) (meth := k3m7) (c := k3c7) (by decide +kernel) rfl rfl rfl (by decide +kernel)
set_option maxRecDepth 65536 in
theorem w_c33 : (Jvm.Cond.code ({ cls := "org/tallyrole/core/IntTrie", name := "without", desc := "(ILjava/lang/Object;)Lorg/tallyrole/core/IntTrie;" } : Jvm.MethodName) prog_45_method_7_code (5 : Nat) (Option.some (Jvm.ClassFile.FieldType.object "org/tallyrole/core/IntTrie"))).before args0 about1 = true := code_word (m := ⟨3, 6⟩) (meth := k3m6) (c := k3c6) (by decide +kernel) rfl rfl rfl (by decide +kernel)
set_option maxRecDepth 65536 in
theorem w_c34 : (Jvm.Cond.code ({ cls := "org/tallyrole/core/IntTrie", name := "remove", desc := "(Lorg/tallyrole/core/IntTrie$Chunk;IILjava/lang/Object;)Lorg/tallyrole/core/IntTrie$Chunk;" } : Jvm.MethodName) prog_45_method_12_code (8 : Nat) (Option.some (Jvm.ClassFile.FieldType.object "org/tallyrole/core/IntTrie$Chunk"))).before args0 about1 = true := code_word (m := ⟨3, 11⟩) (meth := k3m11) (c := k3c11) (by decide +kernel) rfl rfl rfl (by decide +kernel)
set_option maxRecDepth 65536 in
theorem w_c35 : (Jvm.Cond.code ({ cls := "java/util/HashMap", name := "entrySet", desc := "()Ljava/util/Set;" } : Jvm.MethodName) jdk_69_method_29_code (2 : Nat) (Option.some (Jvm.ClassFile.FieldType.object "java/util/Set"))).before args0 about1 = true := code_word (m := ⟨15, 1⟩) (meth := k15m1) (c := k15c1) (by decide +kernel) rfl rfl rfl (by decide +kernel)
set_option maxRecDepth 65536 in
theorem w_c36 : (Jvm.Cond.code ({ cls := "java/util/HashMap$EntrySet", name := "<init>", desc := "(Ljava/util/HashMap;)V" } : Jvm.MethodName) jdk_111_method_1_code (2 : Nat) (Option.none : Option Jvm.ClassFile.FieldType)).before args0 about1 = true := code_word (m := ⟨33, 0⟩) (meth := k33m0) (c := k33c0) (by decide +kernel) rfl rfl rfl (by decide +kernel)
set_option maxRecDepth 65536 in
theorem w_c37 : (Jvm.Cond.code ({ cls := "java/util/AbstractSet", name := "<init>", desc := "()V" } : Jvm.MethodName) jdk_91_method_1_code (1 : Nat) (Option.none : Option Jvm.ClassFile.FieldType)).before args0 about1 = true := code_word (m := ⟨32, 0⟩) (meth := k32m0) (c := k32c0) (by decide +kernel) rfl rfl rfl (by decide +kernel)
set_option maxRecDepth 65536 in
theorem w_c38 : (Jvm.Cond.code ({ cls := "java/util/HashMap$EntrySet", name := "iterator", desc := "()Ljava/util/Iterator;" } : Jvm.MethodName) jdk_111_method_4_code (1 : Nat) (Option.some (Jvm.ClassFile.FieldType.object "java/util/Iterator"))).before args0 about1 = true := code_word (m := ⟨33, 1⟩) (meth := k33m1) (c := k33c1) (by decide +kernel) rfl rfl rfl (by decide +kernel)
set_option maxRecDepth 65536 in
theorem w_c39 : (Jvm.Cond.code ({ cls := "java/util/HashMap$EntryIterator", name := "<init>", desc := "(Ljava/util/HashMap;)V" } : Jvm.MethodName) jdk_142_method_1_code (2 : Nat) (Option.none : Option Jvm.ClassFile.FieldType)).before args0 about1 = true := code_word (m := ⟨36, 0⟩) (meth := k36m0) (c := k36c0) (by decide +kernel) rfl rfl rfl (by decide +kernel)
set_option maxRecDepth 65536 in
theorem w_c40 : (Jvm.Cond.code ({ cls := "java/util/HashMap$HashIterator", name := "<init>", desc := "(Ljava/util/HashMap;)V" } : Jvm.MethodName) jdk_99_method_1_code (3 : Nat) (Option.none : Option Jvm.ClassFile.FieldType)).before args0 about1 = true := code_word (m := ⟨34, 0⟩) (meth := k34m0) (c := k34c0) (by decide +kernel) rfl rfl rfl (by decide +kernel)
set_option maxRecDepth 65536 in
theorem w_c41 : (Jvm.Cond.code ({ cls := "java/util/HashMap$HashIterator", name := "hasNext", desc := "()Z" } : Jvm.MethodName) jdk_99_method_2_code (1 : Nat) (Option.some Jvm.ClassFile.FieldType.boolean)).before args0 about1 = true := code_word (m := ⟨34, 1⟩) (meth := k34m1) (c := k34c1) (by decide +kernel) rfl rfl rfl (by decide +kernel)
set_option maxRecDepth 65536 in
theorem w_c42 : (Jvm.Cond.code ({ cls := "org/tallyrole/core/IntTrie", name := "isEmpty", desc := "()Z" } : Jvm.MethodName) prog_45_method_4_code (1 : Nat) (Option.some Jvm.ClassFile.FieldType.boolean)).before args0 about1 = true := code_word (m := ⟨3, 3⟩) (meth := k3m3) (c := k3c3) (by decide +kernel) rfl rfl rfl (by decide +kernel)
set_option maxRecDepth 65536 in
theorem w_c43 : (Jvm.Cond.code ({ cls := "java/util/ArrayList", name := "isEmpty", desc := "()Z" } : Jvm.MethodName) jdk_38_method_9_code (1 : Nat) (Option.some Jvm.ClassFile.FieldType.boolean)).before args0 about1 = true := code_word (m := ⟨20, 1⟩) (meth := k20m1) (c := k20c1) (by decide +kernel) rfl rfl rfl (by decide +kernel)
set_option maxRecDepth 65536 in
theorem w_c44 : (Jvm.Cond.code ({ cls := "java/util/HashMap", name := "forEach", desc := "(Ljava/util/function/BiConsumer;)V" } : Jvm.MethodName) jdk_69_method_39_code (8 : Nat) (Option.none : Option Jvm.ClassFile.FieldType)).before args0 about1 = true := code_word (m := ⟨15, 2⟩) (meth := k15m2) (c := k15c2) (by decide +kernel) rfl rfl rfl (by decide +kernel)
set_option maxRecDepth 65536 in
theorem w_c45 : (Jvm.Cond.code ({ cls := "java/util/Objects", name := "requireNonNullElse", desc := "(Ljava/lang/Object;Ljava/lang/Object;)Ljava/lang/Object;" } : Jvm.MethodName) jdk_31_method_14_code (2 : Nat) (Option.some (Jvm.ClassFile.FieldType.object "java/lang/Object"))).before args0 about1 = true := code_word (m := ⟨21, 3⟩) (meth := k21m3) (c := k21c3) (by decide +kernel) rfl rfl rfl (by decide +kernel)
set_option maxRecDepth 65536 in
theorem w_c46 : (Jvm.Cond.code ({ cls := "java/util/Objects", name := "requireNonNull", desc := "(Ljava/lang/Object;Ljava/lang/String;)Ljava/lang/Object;" } : Jvm.MethodName) jdk_31_method_11_code (2 : Nat) (Option.some (Jvm.ClassFile.FieldType.object "java/lang/Object"))).before args0 about1 = true := code_word (m := ⟨21, 2⟩) (meth := k21m2) (c := k21c2) (by decide +kernel) rfl rfl rfl (by decide +kernel)
set_option maxRecDepth 65536 in
theorem w_c47 : (Jvm.Cond.code ({ cls := "org/tallyrole/core/IntTrie", name := "keys", desc := "()Ljava/lang/Iterable;" } : Jvm.MethodName) prog_45_method_9_code (1 : Nat) (Option.some (Jvm.ClassFile.FieldType.object "java/lang/Iterable"))).before args0 about1 = true := code_word (m := ⟨3, 8⟩) (meth := k3m8) (c := k3c8) (by decide +kernel) rfl rfl rfl (by decide +kernel)
set_option maxRecDepth 65536 in
theorem w_c48 : (Jvm.Cond.code ({ cls := "org/tallyrole/core/IntTrie", name := "lambda$keys$0", desc := "()Ljava/util/Iterator;" } : Jvm.MethodName) prog_45_method_14_code (1 : Nat) (Option.some (Jvm.ClassFile.FieldType.object "java/util/Iterator"))).before args0 about1 = true := code_word (m := ⟨3, 12⟩) (meth := k3m12) (c := k3c12) (by decide +kernel) rfl rfl rfl (by decide +kernel)
set_option maxRecDepth 65536 in
theorem w_c49 : (Jvm.Cond.code ({ cls := "org/tallyrole/core/IntTrie$1", name := "<init>", desc := "(Lorg/tallyrole/core/IntTrie;)V" } : Jvm.MethodName) prog_46_method_1_code (2 : Nat) (Option.none : Option Jvm.ClassFile.FieldType)).before args0 about1 = true := code_word (m := ⟨42, 0⟩) (meth := k42m0) (c := k42c0) (by decide +kernel) rfl rfl rfl (by decide +kernel)
set_option maxRecDepth 65536 in
theorem w_c50 : (Jvm.Cond.code ({ cls := "org/tallyrole/core/IntTrie$1", name := "hasNext", desc := "()Z" } : Jvm.MethodName) prog_46_method_2_code (1 : Nat) (Option.some Jvm.ClassFile.FieldType.boolean)).before args0 about1 = true := code_word (m := ⟨42, 1⟩) (meth := k42m1) (c := k42c1) (by decide +kernel) rfl rfl rfl (by decide +kernel)
set_option maxRecDepth 65536 in
theorem w_c51 : (Jvm.Cond.code ({ cls := "java/util/ArrayList", name := "forEach", desc := "(Ljava/util/function/Consumer;)V" } : Jvm.MethodName) jdk_38_method_57_code (6 : Nat) (Option.none : Option Jvm.ClassFile.FieldType)).before args0 about1 = true := code_word (m := ⟨20, 2⟩) (meth := k20m2) (c := k20c2) (by decide +kernel) rfl rfl rfl (by decide +kernel)
set_option maxRecDepth 65536 in
theorem w_c52 : (Jvm.Cond.code ({ cls := "org/tallyrole/core/Graph", name := "writable", desc := "(I)Lorg/tallyrole/core/Graph$Node;" } : Jvm.MethodName) prog_39_method_8_code (3 : Nat) (Option.some (Jvm.ClassFile.FieldType.object "org/tallyrole/core/Graph$Node"))).before args0 about1 = true := code_word (m := ⟨2, 4⟩) (meth := k2m4) (c := k2c4) (by decide +kernel) rfl rfl rfl (by decide +kernel)
def codes1 : List Jvm.Cond := [Jvm.Cond.code x code maxLocals ret, Jvm.Cond.code ({ cls := "org/tallyrole/core/Graph", name := "<init>", desc := "()V" } : Jvm.MethodName) prog_39_method_1_code (1 : Nat) (Option.none : Option Jvm.ClassFile.FieldType), Jvm.Cond.code ({ cls := "java/lang/Object", name := "<init>", desc := "()V" } : Jvm.MethodName) object_method_1_code (1 : Nat) (Option.none : Option Jvm.ClassFile.FieldType), Jvm.Cond.code ({ cls := "org/tallyrole/core/IntTrie", name := "empty", desc := "()Lorg/tallyrole/core/IntTrie;" } : Jvm.MethodName) prog_45_method_2_code (0 : Nat) (Option.some (Jvm.ClassFile.FieldType.object "org/tallyrole/core/IntTrie")), Jvm.Cond.code ({ cls := "java/util/ArrayDeque", name := "<init>", desc := "()V" } : Jvm.MethodName) jdk_21_method_3_code (1 : Nat) (Option.none : Option Jvm.ClassFile.FieldType), Jvm.Cond.code ({ cls := "java/util/AbstractCollection", name := "<init>", desc := "()V" } : Jvm.MethodName) jdk_22_method_1_code (1 : Nat) (Option.none : Option Jvm.ClassFile.FieldType), Jvm.Cond.code ({ cls := "java/util/HashMap", name := "<init>", desc := "()V" } : Jvm.MethodName) jdk_69_method_7_code (1 : Nat) (Option.none : Option Jvm.ClassFile.FieldType), Jvm.Cond.code ({ cls := "java/util/AbstractMap", name := "<init>", desc := "()V" } : Jvm.MethodName) jdk_71_method_1_code (1 : Nat) (Option.none : Option Jvm.ClassFile.FieldType), Jvm.Cond.code ({ cls := "org/tallyrole/core/Graph", name := "size", desc := "()I" } : Jvm.MethodName) prog_39_method_4_code (1 : Nat) (Option.some Jvm.ClassFile.FieldType.int), Jvm.Cond.code ({ cls := "org/tallyrole/core/Graph", name := "node", desc := "(I)Lorg/tallyrole/core/Graph$Node;" } : Jvm.MethodName) prog_39_method_5_code (2 : Nat) (Option.some (Jvm.ClassFile.FieldType.object "org/tallyrole/core/Graph$Node")), Jvm.Cond.code ({ cls := "org/tallyrole/core/IntTrie", name := "get", desc := "(I)Ljava/lang/Object;" } : Jvm.MethodName) prog_45_method_3_code (4 : Nat) (Option.some (Jvm.ClassFile.FieldType.object "java/lang/Object")), Jvm.Cond.code ({ cls := "org/tallyrole/core/Graph", name := "addNode", desc := "()I" } : Jvm.MethodName) prog_39_method_3_code (2 : Nat) (Option.some Jvm.ClassFile.FieldType.int), Jvm.Cond.code ({ cls := "org/tallyrole/core/Graph$Node", name := "<init>", desc := "(Ljava/lang/Object;)V" } : Jvm.MethodName) prog_42_method_1_code (2 : Nat) (Option.none : Option Jvm.ClassFile.FieldType), Jvm.Cond.code ({ cls := "java/util/ArrayList", name := "<init>", desc := "()V" } : Jvm.MethodName) jdk_38_method_2_code (1 : Nat) (Option.none : Option Jvm.ClassFile.FieldType), Jvm.Cond.code ({ cls := "java/util/AbstractList", name := "<init>", desc := "()V" } : Jvm.MethodName) jdk_39_method_1_code (1 : Nat) (Option.none : Option Jvm.ClassFile.FieldType), Jvm.Cond.code ({ cls := "org/tallyrole/core/IntTrie", name := "with", desc := "(ILjava/lang/Object;Ljava/lang/Object;)Lorg/tallyrole/core/IntTrie;" } : Jvm.MethodName) prog_45_method_6_code (7 : Nat) (Option.some (Jvm.ClassFile.FieldType.object "org/tallyrole/core/IntTrie")), Jvm.Cond.code ({ cls := "java/util/Objects", name := "requireNonNull", desc := "(Ljava/lang/Object;)Ljava/lang/Object;" } : Jvm.MethodName) jdk_31_method_10_code (1 : Nat) (Option.some (Jvm.ClassFile.FieldType.object "java/lang/Object")), Jvm.Cond.code ({ cls := "org/tallyrole/core/IntTrie", name := "path", desc := "(IILjava/lang/Object;Ljava/lang/Object;)Lorg/tallyrole/core/IntTrie$Chunk;" } : Jvm.MethodName) prog_45_method_11_code (5 : Nat) (Option.some (Jvm.ClassFile.FieldType.object "org/tallyrole/core/IntTrie$Chunk")), Jvm.Cond.code ({ cls := "org/tallyrole/core/IntTrie$Chunk", name := "<init>", desc := "(Ljava/lang/Object;)V" } : Jvm.MethodName) prog_47_method_1_code (2 : Nat) (Option.none : Option Jvm.ClassFile.FieldType), Jvm.Cond.code ({ cls := "org/tallyrole/core/IntTrie$Chunk", name := "set", desc := "(ILjava/lang/Object;)Lorg/tallyrole/core/IntTrie$Chunk;" } : Jvm.MethodName) prog_47_method_4_code (7 : Nat) (Option.some (Jvm.ClassFile.FieldType.object "org/tallyrole/core/IntTrie$Chunk")), Jvm.Cond.code ({ cls := "java/lang/Integer", name := "bitCount", desc := "(I)I" } : Jvm.MethodName) jdk_33_method_49_code (1 : Nat) (Option.some Jvm.ClassFile.FieldType.int), Jvm.Cond.code ({ cls := "org/tallyrole/core/IntTrie", name := "<init>", desc := "(Lorg/tallyrole/core/IntTrie$Chunk;I)V" } : Jvm.MethodName) prog_45_method_1_code (3 : Nat) (Option.none : Option Jvm.ClassFile.FieldType), Jvm.Cond.code ({ cls := "org/tallyrole/core/Graph", name := "unsettle", desc := "(I)V" } : Jvm.MethodName) prog_39_method_28_code (2 : Nat) (Option.none : Option Jvm.ClassFile.FieldType), Jvm.Cond.code ({ cls := "org/tallyrole/core/IntTrie", name := "containsKey", desc := "(I)Z" } : Jvm.MethodName) prog_45_method_5_code (2 : Nat) (Option.some Jvm.ClassFile.FieldType.boolean), Jvm.Cond.code ({ cls := "java/lang/Boolean", name := "valueOf", desc := "(Z)Ljava/lang/Boolean;" } : Jvm.MethodName) jdk_2055_method_5_code (1 : Nat) (Option.some (Jvm.ClassFile.FieldType.object "java/lang/Boolean")), Jvm.Cond.code ({ cls := "org/tallyrole/core/IntTrie", name := "put", desc := "(Lorg/tallyrole/core/IntTrie$Chunk;IILjava/lang/Object;Ljava/lang/Object;)Lorg/tallyrole/core/IntTrie$Chunk;" } : Jvm.MethodName) prog_45_method_10_code (8 : Nat) (Option.some (Jvm.ClassFile.FieldType.object "org/tallyrole/core/IntTrie$Chunk")), Jvm.Cond.code ({ cls := "org/tallyrole/core/IntTrie$Chunk", name := "slot", desc := "(I)Ljava/lang/Object;" } : Jvm.MethodName) prog_47_method_2_code (3 : Nat) (Option.some (Jvm.ClassFile.FieldType.object "java/lang/Object")), Jvm.Cond.code ({ cls := "org/tallyrole/core/IntTrie$Chunk", name := "ownedBy", desc := "(Ljava/lang/Object;)Lorg/tallyrole/core/IntTrie$Chunk;" } : Jvm.MethodName) prog_47_method_3_code (3 : Nat) (Option.some (Jvm.ClassFile.FieldType.object "org/tallyrole/core/IntTrie$Chunk")), Jvm.Cond.code ({ cls := "org/tallyrole/core/Dependencies", name := "<init>", desc := "()V" } : Jvm.MethodName) prog_36_method_1_code (1 : Nat) (Option.none : Option Jvm.ClassFile.FieldType), Jvm.Cond.code ({ cls := "org/tallyrole/core/Graph", name := "merge", desc := "(IILorg/tallyrole/core/Dependencies;)Ljava/util/List;" } : Jvm.MethodName) prog_39_method_24_code (11 : Nat) (Option.some (Jvm.ClassFile.FieldType.object "java/util/List")), Jvm.Cond.code ({ cls := "java/util/ArrayDeque", name := "isEmpty", desc := "()Z" } : Jvm.MethodName) jdk_21_method_38_code (1 : Nat) (Option.some Jvm.ClassFile.FieldType.boolean), Jvm.Cond.code ({ cls := "org/tallyrole/core/Graph", name := "different", desc := "(II)Lorg/tallyrole/core/Dependencies;" } : Jvm.MethodName) prog_39_method_23_code (7 : Nat) (Option.some (Jvm.ClassFile.FieldType.object "org/tallyrole/core/Dependencies")), Jvm.Cond.code ({ cls := "org/tallyrole/core/IntTrie", name := "ceilingKey", desc := "(I)I" } : Jvm.MethodName) prog_45_method_8_code (3 : Nat) (Option.some Jvm.ClassFile.FieldType.int), Jvm.Cond.code ({ cls := "org/tallyrole/core/IntTrie", name := "without", desc := "(ILjava/lang/Object;)Lorg/tallyrole/core/IntTrie;" } : Jvm.MethodName) prog_45_method_7_code (5 : Nat) (Option.some (Jvm.ClassFile.FieldType.object "org/tallyrole/core/IntTrie")), Jvm.Cond.code ({ cls := "org/tallyrole/core/IntTrie", name := "remove", desc := "(Lorg/tallyrole/core/IntTrie$Chunk;IILjava/lang/Object;)Lorg/tallyrole/core/IntTrie$Chunk;" } : Jvm.MethodName) prog_45_method_12_code (8 : Nat) (Option.some (Jvm.ClassFile.FieldType.object "org/tallyrole/core/IntTrie$Chunk")), Jvm.Cond.code ({ cls := "java/util/HashMap", name := "entrySet", desc := "()Ljava/util/Set;" } : Jvm.MethodName) jdk_69_method_29_code (2 : Nat) (Option.some (Jvm.ClassFile.FieldType.object "java/util/Set")), Jvm.Cond.code ({ cls := "java/util/HashMap$EntrySet", name := "<init>", desc := "(Ljava/util/HashMap;)V" } : Jvm.MethodName) jdk_111_method_1_code (2 : Nat) (Option.none : Option Jvm.ClassFile.FieldType), Jvm.Cond.code ({ cls := "java/util/AbstractSet", name := "<init>", desc := "()V" } : Jvm.MethodName) jdk_91_method_1_code (1 : Nat) (Option.none : Option Jvm.ClassFile.FieldType), Jvm.Cond.code ({ cls := "java/util/HashMap$EntrySet", name := "iterator", desc := "()Ljava/util/Iterator;" } : Jvm.MethodName) jdk_111_method_4_code (1 : Nat) (Option.some (Jvm.ClassFile.FieldType.object "java/util/Iterator")), Jvm.Cond.code ({ cls := "java/util/HashMap$EntryIterator", name := "<init>", desc := "(Ljava/util/HashMap;)V" } : Jvm.MethodName) jdk_142_method_1_code (2 : Nat) (Option.none : Option Jvm.ClassFile.FieldType), Jvm.Cond.code ({ cls := "java/util/HashMap$HashIterator", name := "<init>", desc := "(Ljava/util/HashMap;)V" } : Jvm.MethodName) jdk_99_method_1_code (3 : Nat) (Option.none : Option Jvm.ClassFile.FieldType), Jvm.Cond.code ({ cls := "java/util/HashMap$HashIterator", name := "hasNext", desc := "()Z" } : Jvm.MethodName) jdk_99_method_2_code (1 : Nat) (Option.some Jvm.ClassFile.FieldType.boolean), Jvm.Cond.code ({ cls := "org/tallyrole/core/IntTrie", name := "isEmpty", desc := "()Z" } : Jvm.MethodName) prog_45_method_4_code (1 : Nat) (Option.some Jvm.ClassFile.FieldType.boolean), Jvm.Cond.code ({ cls := "java/util/ArrayList", name := "isEmpty", desc := "()Z" } : Jvm.MethodName) jdk_38_method_9_code (1 : Nat) (Option.some Jvm.ClassFile.FieldType.boolean), Jvm.Cond.code ({ cls := "java/util/HashMap", name := "forEach", desc := "(Ljava/util/function/BiConsumer;)V" } : Jvm.MethodName) jdk_69_method_39_code (8 : Nat) (Option.none : Option Jvm.ClassFile.FieldType), Jvm.Cond.code ({ cls := "java/util/Objects", name := "requireNonNullElse", desc := "(Ljava/lang/Object;Ljava/lang/Object;)Ljava/lang/Object;" } : Jvm.MethodName) jdk_31_method_14_code (2 : Nat) (Option.some (Jvm.ClassFile.FieldType.object "java/lang/Object")), Jvm.Cond.code ({ cls := "java/util/Objects", name := "requireNonNull", desc := "(Ljava/lang/Object;Ljava/lang/String;)Ljava/lang/Object;" } : Jvm.MethodName) jdk_31_method_11_code (2 : Nat) (Option.some (Jvm.ClassFile.FieldType.object "java/lang/Object")), Jvm.Cond.code ({ cls := "org/tallyrole/core/IntTrie", name := "keys", desc := "()Ljava/lang/Iterable;" } : Jvm.MethodName) prog_45_method_9_code (1 : Nat) (Option.some (Jvm.ClassFile.FieldType.object "java/lang/Iterable")), Jvm.Cond.code ({ cls := "org/tallyrole/core/IntTrie", name := "lambda$keys$0", desc := "()Ljava/util/Iterator;" } : Jvm.MethodName) prog_45_method_14_code (1 : Nat) (Option.some (Jvm.ClassFile.FieldType.object "java/util/Iterator")), Jvm.Cond.code ({ cls := "org/tallyrole/core/IntTrie$1", name := "<init>", desc := "(Lorg/tallyrole/core/IntTrie;)V" } : Jvm.MethodName) prog_46_method_1_code (2 : Nat) (Option.none : Option Jvm.ClassFile.FieldType), Jvm.Cond.code ({ cls := "org/tallyrole/core/IntTrie$1", name := "hasNext", desc := "()Z" } : Jvm.MethodName) prog_46_method_2_code (1 : Nat) (Option.some Jvm.ClassFile.FieldType.boolean), Jvm.Cond.code ({ cls := "java/util/ArrayList", name := "forEach", desc := "(Ljava/util/function/Consumer;)V" } : Jvm.MethodName) jdk_38_method_57_code (6 : Nat) (Option.none : Option Jvm.ClassFile.FieldType), Jvm.Cond.code ({ cls := "org/tallyrole/core/Graph", name := "writable", desc := "(I)Lorg/tallyrole/core/Graph$Node;" } : Jvm.MethodName) prog_39_method_8_code (3 : Nat) (Option.some (Jvm.ClassFile.FieldType.object "org/tallyrole/core/Graph$Node"))]
set_option maxRecDepth 65536 in
theorem codes_eq : words1.filter isCode = codes1 := rfl
theorem w_codes : ∀ c ∈ words1.filter isCode, c.before args0 about1 = true := by
  rw [codes_eq]
  intro c hc
  simp only [codes1, List.mem_cons, List.not_mem_nil, or_false] at hc
  rcases hc with rfl | rfl | rfl | rfl | rfl | rfl | rfl | rfl | rfl | rfl | rfl | rfl | rfl | rfl | rfl | rfl | rfl | rfl | rfl | rfl | rfl | rfl | rfl | rfl | rfl | rfl | rfl | rfl | rfl | rfl | rfl | rfl | rfl | rfl | rfl | rfl | rfl | rfl | rfl | rfl | rfl | rfl | rfl | rfl | rfl | rfl | rfl | rfl | rfl | rfl | rfl | rfl | rfl
  · exact w_c0
  · exact w_c1
  · exact w_c2
  · exact w_c3
  · exact w_c4
  · exact w_c5
  · exact w_c6
  · exact w_c7
  · exact w_c8
  · exact w_c9
  · exact w_c10
  · exact w_c11
  · exact w_c12
  · exact w_c13
  · exact w_c14
  · exact w_c15
  · exact w_c16
  · exact w_c17
  · exact w_c18
  · exact w_c19
  · exact w_c20
  · exact w_c21
  · exact w_c22
  · exact w_c23
  · exact w_c24
  · exact w_c25
  · exact w_c26
  · exact w_c27
  · exact w_c28
  · exact w_c29
  · exact w_c30
  · exact w_c31
  · exact w_c32
  · exact w_c33
  · exact w_c34
  · exact w_c35
  · exact w_c36
  · exact w_c37
  · exact w_c38
  · exact w_c39
  · exact w_c40
  · exact w_c41
  · exact w_c42
  · exact w_c43
  · exact w_c44
  · exact w_c45
  · exact w_c46
  · exact w_c47
  · exact w_c48
  · exact w_c49
  · exact w_c50
  · exact w_c51
  · exact w_c52
set_option maxRecDepth 65536 in
theorem w_t1 : (words1.take 24).all (fun c => isCode c || c.before args0 about1) = true := by decide +kernel
set_option maxRecDepth 65536 in
theorem w_t2 : ((words1.drop 24).take 24).all (fun c => isCode c || c.before args0 about1) = true := by decide +kernel
set_option maxRecDepth 65536 in
theorem w_t3 : (((words1.drop 24).drop 24).take 24).all (fun c => isCode c || c.before args0 about1) = true := by decide +kernel
set_option maxRecDepth 65536 in
theorem w_t4 : ((((words1.drop 24).drop 24).drop 24).take 24).all (fun c => isCode c || c.before args0 about1) = true := by decide +kernel
set_option maxRecDepth 65536 in
theorem w_t5 : (((((words1.drop 24).drop 24).drop 24).drop 24).take 24).all (fun c => isCode c || c.before args0 about1) = true := by decide +kernel
set_option maxRecDepth 65536 in
theorem w_t6 : ((((((words1.drop 24).drop 24).drop 24).drop 24).drop 24).take 24).all (fun c => isCode c || c.before args0 about1) = true := by decide +kernel
set_option maxRecDepth 65536 in
theorem w_t7 : (((((((words1.drop 24).drop 24).drop 24).drop 24).drop 24).drop 24).take 24).all (fun c => isCode c || c.before args0 about1) = true := by decide +kernel
set_option maxRecDepth 65536 in
theorem w_t8 : ((((((((words1.drop 24).drop 24).drop 24).drop 24).drop 24).drop 24).drop 24).take 24).all (fun c => isCode c || c.before args0 about1) = true := by decide +kernel
set_option maxRecDepth 65536 in
theorem w_t9 : (((((((((words1.drop 24).drop 24).drop 24).drop 24).drop 24).drop 24).drop 24).drop 24).take 24).all (fun c => isCode c || c.before args0 about1) = true := by decide +kernel
set_option maxRecDepth 65536 in
theorem w_t10 : ((((((((((words1.drop 24).drop 24).drop 24).drop 24).drop 24).drop 24).drop 24).drop 24).drop 24).take 24).all (fun c => isCode c || c.before args0 about1) = true := by decide +kernel
set_option maxRecDepth 65536 in
theorem w_t11 : (((((((((((words1.drop 24).drop 24).drop 24).drop 24).drop 24).drop 24).drop 24).drop 24).drop 24).drop 24).take 24).all (fun c => isCode c || c.before args0 about1) = true := by decide +kernel
set_option maxRecDepth 65536 in
theorem w_t12 : ((((((((((((words1.drop 24).drop 24).drop 24).drop 24).drop 24).drop 24).drop 24).drop 24).drop 24).drop 24).drop 24).take 24).all (fun c => isCode c || c.before args0 about1) = true := by decide +kernel
set_option maxRecDepth 65536 in
theorem w_t13 : (((((((((((((words1.drop 24).drop 24).drop 24).drop 24).drop 24).drop 24).drop 24).drop 24).drop 24).drop 24).drop 24).drop 24).take 24).all (fun c => isCode c || c.before args0 about1) = true := by decide +kernel
set_option maxRecDepth 65536 in
theorem w_t14 : ((((((((((((((words1.drop 24).drop 24).drop 24).drop 24).drop 24).drop 24).drop 24).drop 24).drop 24).drop 24).drop 24).drop 24).drop 24).take 24).all (fun c => isCode c || c.before args0 about1) = true := by decide +kernel
set_option maxRecDepth 65536 in
theorem w_t15 : (((((((((((((((words1.drop 24).drop 24).drop 24).drop 24).drop 24).drop 24).drop 24).drop 24).drop 24).drop 24).drop 24).drop 24).drop 24).drop 24).take 24).all (fun c => isCode c || c.before args0 about1) = true := by decide +kernel
set_option maxRecDepth 65536 in
theorem w_t16 : ((((((((((((((((words1.drop 24).drop 24).drop 24).drop 24).drop 24).drop 24).drop 24).drop 24).drop 24).drop 24).drop 24).drop 24).drop 24).drop 24).drop 24).take 24).all (fun c => isCode c || c.before args0 about1) = true := by decide +kernel
set_option maxRecDepth 65536 in
theorem w_t17 : (((((((((((((((((words1.drop 24).drop 24).drop 24).drop 24).drop 24).drop 24).drop 24).drop 24).drop 24).drop 24).drop 24).drop 24).drop 24).drop 24).drop 24).drop 24).take 24).all (fun c => isCode c || c.before args0 about1) = true := by decide +kernel
set_option maxRecDepth 65536 in
theorem w_t18 : ((((((((((((((((((words1.drop 24).drop 24).drop 24).drop 24).drop 24).drop 24).drop 24).drop 24).drop 24).drop 24).drop 24).drop 24).drop 24).drop 24).drop 24).drop 24).drop 24).take 24).all (fun c => isCode c || c.before args0 about1) = true := by decide +kernel
set_option maxRecDepth 65536 in
theorem w_t19 : (((((((((((((((((((words1.drop 24).drop 24).drop 24).drop 24).drop 24).drop 24).drop 24).drop 24).drop 24).drop 24).drop 24).drop 24).drop 24).drop 24).drop 24).drop 24).drop 24).drop 24).take 24).all (fun c => isCode c || c.before args0 about1) = true := by decide +kernel
set_option maxRecDepth 65536 in
theorem w_t20 : (((((((((((((((((((words1.drop 24).drop 24).drop 24).drop 24).drop 24).drop 24).drop 24).drop 24).drop 24).drop 24).drop 24).drop 24).drop 24).drop 24).drop 24).drop 24).drop 24).drop 24).drop 24).all (fun c => isCode c || c.before args0 about1) = true := by decide +kernel
theorem w_tables : (allAtoms (Jvm.Cond.code x code maxLocals ret :: tables_1)).before args0 about1 = true := by
  rw [allAtoms_all]
  show words1.all (fun c => c.before args0 about1) = true
  refine all_split ?_ w_codes
  rw [← List.take_append_drop 24 words1, List.all_append, w_t1, ← List.take_append_drop 24 (words1.drop 24), List.all_append, w_t2, ← List.take_append_drop 24 ((words1.drop 24).drop 24), List.all_append, w_t3, ← List.take_append_drop 24 (((words1.drop 24).drop 24).drop 24), List.all_append, w_t4, ← List.take_append_drop 24 ((((words1.drop 24).drop 24).drop 24).drop 24), List.all_append, w_t5, ← List.take_append_drop 24 (((((words1.drop 24).drop 24).drop 24).drop 24).drop 24), List.all_append, w_t6, ← List.take_append_drop 24 ((((((words1.drop 24).drop 24).drop 24).drop 24).drop 24).drop 24), List.all_append, w_t7, ← List.take_append_drop 24 (((((((words1.drop 24).drop 24).drop 24).drop 24).drop 24).drop 24).drop 24), List.all_append, w_t8, ← List.take_append_drop 24 ((((((((words1.drop 24).drop 24).drop 24).drop 24).drop 24).drop 24).drop 24).drop 24), List.all_append, w_t9, ← List.take_append_drop 24 (((((((((words1.drop 24).drop 24).drop 24).drop 24).drop 24).drop 24).drop 24).drop 24).drop 24), List.all_append, w_t10, ← List.take_append_drop 24 ((((((((((words1.drop 24).drop 24).drop 24).drop 24).drop 24).drop 24).drop 24).drop 24).drop 24).drop 24), List.all_append, w_t11, ← List.take_append_drop 24 (((((((((((words1.drop 24).drop 24).drop 24).drop 24).drop 24).drop 24).drop 24).drop 24).drop 24).drop 24).drop 24), List.all_append, w_t12, ← List.take_append_drop 24 ((((((((((((words1.drop 24).drop 24).drop 24).drop 24).drop 24).drop 24).drop 24).drop 24).drop 24).drop 24).drop 24).drop 24), List.all_append, w_t13, ← List.take_append_drop 24 (((((((((((((words1.drop 24).drop 24).drop 24).drop 24).drop 24).drop 24).drop 24).drop 24).drop 24).drop 24).drop 24).drop 24).drop 24), List.all_append, w_t14, ← List.take_append_drop 24 ((((((((((((((words1.drop 24).drop 24).drop 24).drop 24).drop 24).drop 24).drop 24).drop 24).drop 24).drop 24).drop 24).drop 24).drop 24).drop 24), List.all_append, w_t15, ← List.take_append_drop 24 (((((((((((((((words1.drop 24).drop 24).drop 24).drop 24).drop 24).drop 24).drop 24).drop 24).drop 24).drop 24).drop 24).drop 24).drop 24).drop 24).drop 24), List.all_append, w_t16, ← List.take_append_drop 24 ((((((((((((((((words1.drop 24).drop 24).drop 24).drop 24).drop 24).drop 24).drop 24).drop 24).drop 24).drop 24).drop 24).drop 24).drop 24).drop 24).drop 24).drop 24), List.all_append, w_t17, ← List.take_append_drop 24 (((((((((((((((((words1.drop 24).drop 24).drop 24).drop 24).drop 24).drop 24).drop 24).drop 24).drop 24).drop 24).drop 24).drop 24).drop 24).drop 24).drop 24).drop 24).drop 24), List.all_append, w_t18, ← List.take_append_drop 24 ((((((((((((((((((words1.drop 24).drop 24).drop 24).drop 24).drop 24).drop 24).drop 24).drop 24).drop 24).drop 24).drop 24).drop 24).drop 24).drop 24).drop 24).drop 24).drop 24).drop 24), List.all_append, w_t19, w_t20]
  rfl
set_option maxRecDepth 65536 in
theorem w_rest : rest_1_c.before args0 about1 = true := by decide +kernel
set_option maxRecDepth 65536 in
theorem w_case : (Jvm.Cond.and given_1 narrow_1).before args0 about1 = true := by decide +kernel
theorem w_applies : (headSpec (Jvm.Cond.code x code maxLocals ret :: tables_1) room_1).applies x e0.platform about1 = true :=
  (Spec.applies_iff w_frames).mpr ⟨w_running, w_runnable, w_alone, w_named, w_hears, w_ripe, w_room, w_tables⟩
theorem atStart : AtStart classFile x code maxLocals ret World_1 tables_1 room_1 Calls_1 rest_1 Pre_1 launch0 p0 e0 about1 theMethod args0 below0 :=
  ⟨lists_1, trivial, launch0.admits_env _ _ _, launch0.least_env, fairChoices_fair.cas, fairChoices_fair.clock, w_frames, w_args, w_heap, w_applies, trivial, w_rest, w_case⟩
end start1
theorem witness_1 : WitnessClaimed_1 := ⟨start1.p0, start1.e0, start1.about1, start1.theMethod, start1.args0, start1.below0, start1.atStart⟩
end Jvm.Pilot.@@N@@
