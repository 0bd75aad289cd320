import JvmDerived
import JvmDerived.Pilot.@@N@@Statement
import JvmDerived.Pilot.@@N@@Code
set_option linter.unusedVariables false
set_option linter.unusedSimpArgs false
namespace Jvm.RoadKit
open Sem ClassFile Op Lib Jvm.Stand Jvm.Free Jvm.LawKit
section New
variable {p : Program} {l : Launch} {e : Env} {R : Room} {s : State} {m : MethodId} {args : Array Value} {below : List Frame} {meth : Method} {c : Code} {T : State} {locs : List Loc} {cells slots : Nat}
theorem retI (X : Stand p l e R s m args below meth c T locs cells slots) (hx : p.tables.exec = Jvm.exec) {pc : Nat} {Ls : Array Slot} {z : Int32} {rest : List Value} (hret : meth.sig.returnType = some .int) (hd : decode c.code pc = .ok (.ireturn, 1)) {fs : List Frame}
    (hl : ∀ (f : JFrame) (acts : List Action), f.method = m → f.locked = none → f.entered = [] → (doReturn e (T.setTop f) acts (some (.int z))).1 = T.setFrames fs) : Steps p.tables e below (T.setTop (mkF m pc Ls (.int z :: rest))) (T.setFrames fs) := by
  have hm' : T.vm.method? m = some meth := X.method'
  have hn : narrow .int (.int z) = .int z := rfl
  show Steps p.tables e below (T.setTop { method := m, pc := pc, locals := Ls, stack := _ :: rest, locked := none }) _
  jvm_step X.here [X.here.top, hx, hd, hm', hret, hn]
  first | (intro acts; rw [hl _ acts rfl rfl rfl]) | rw [hl _ _ rfl rfl rfl]
  exact Steps.refl _
end New
end Jvm.RoadKit
@@BLOCK:NumsL.lean.txt@@
namespace Jvm.Pilot.@@N@@
open Jvm Jvm.ClassFile Sem Op Lib Jvm.Free Jvm.Stand Jvm.LawKit Jvm.RoadKit Bundle Jvm.Pilot.@@N@@.Jvm.D
/-- from S the run comes to an end that says Q -/
def own_Go (p : Program) (e : Env) (below : List Frame) (s : State) (Q : Option Value → Heap → List Loc → Prop) (c n : Nat) (S : State) : Prop :=
  ∃ s₂ o, Steps p.tables e below S s₂ ∧ s₂.status = .running ∧ Ended s₂ below o ∧ ∃ v L, o = .returned v ∧ Q v s₂.heap L ∧ FrameEnd s o s₂ L c n
theorem own_go {p : Program} {e : Env} {below : List Frame} {s : State} {Q : Option Value → Heap → List Loc → Prop} {c n : Nat} {S S' : State} (st : ∀ t, Steps p.tables e below S' t → Steps p.tables e below S t) (k : own_Go p e below s Q c n S') : own_Go p e below s Q c n S := by
  obtain ⟨s₂, o, h, r⟩ := k
  exact ⟨s₂, o, st _ h, r⟩
theorem own_goT {p : Program} {e : Env} {below : List Frame} {s : State} {Q : Option Value → Heap → List Loc → Prop} {c n : Nat} {S S' : State} (st : Steps p.tables e below S S') (k : own_Go p e below s Q c n S') : own_Go p e below s Q c n S := own_go (fun _ h => st.trans h) k
theorem own_end {p : Program} {e : Env} {below : List Frame} {s : State} {Q : Option Value → Heap → List Loc → Prop} {c n : Nat} {S s₂ : State} {v : Option Value} {L : List Loc} (h : Steps p.tables e below S s₂) (hrun : s₂.status = .running) (he : Ended s₂ below (.returned v)) (hq : Q v s₂.heap L) (hW : s.WarmedH s₂.vm) (hs : s.sameButNew ({ s₂ with vm := s.vm } : State) L c n) : own_Go p e below s Q c n S :=
  ⟨s₂, _, h, hrun, he, v, L, rfl, hq, ⟨_, rfl⟩, hW, hs⟩
/-- an array of known values, its class's number unsaid -/
def own_Arv (Z : State) (h : Heap) (a : Addr) (ty : FieldType) (n : Int32) (vs : List Value) (d : Value) : Prop := ∃ k, Arv Z h a k ty n vs d
theorem own_Arv.lt {Z : State} {h : Heap} {a : Addr} {ty : FieldType} {n : Int32} {vs : List Value} {d : Value} (F : own_Arv Z h a ty n vs d) : a < h.size := by obtain ⟨k, F⟩ := F; exact F.lt
theorem own_Arv.ext {Z : State} {h h' : Heap} {a : Addr} {ty : FieldType} {n : Int32} {vs : List Value} {d : Value} (F : own_Arv Z h a ty n vs d) (E : Ext h h') : own_Arv Z h' a ty n vs d := by obtain ⟨k, F⟩ := F; exact ⟨k, F.ext E⟩
theorem own_Arv.other {Z : State} {h h' : Heap} {a b : Addr} {sl : Nat} {v : Value} {ty : FieldType} {n : Int32} {vs : List Value} {d : Value} (F : own_Arv Z h b ty n vs d) (W : Wr h h' a sl v) (q : b ≠ a) : own_Arv Z h' b ty n vs d := by obtain ⟨k, F⟩ := F; exact ⟨k, F.other W q⟩
theorem own_Arv.keep {Z : State} {h h' : Heap} {a : Addr} {ws : List Addr} {ty : FieldType} {n : Int32} {vs : List Value} {d : Value} (F : own_Arv Z h a ty n vs d) (K : Keep h h' ws) (q : a ∉ ws) : own_Arv Z h' a ty n vs d := by obtain ⟨k, F⟩ := F; exact ⟨k, F.keep K q⟩
theorem own_plain {Z : State} {h : Heap} {a : Addr} {C : String} (F : Exa Z h a C) : ∃ c : Cell, h[a]? = some c ∧ c.vm.isStatics = false := by obtain ⟨c, k, h1, -, -, h4, -⟩ := F; exact ⟨c, h1, h4⟩
theorem own_sta_keep {Z : State} {h h' : Heap} {ws : List Addr} {C n d : String} {v : Value} (F : Sta Z h C n d v) (K : Keep h h' ws) (q : ∀ x ∈ ws, ∃ c : Cell, h[x]? = some c ∧ c.vm.isStatics = false) : Sta Z h' C n d v := by
  obtain ⟨cf, i, k, f, st, cell, h1, h2, h3, h4, h5, h6, h7⟩ := F
  refine ⟨cf, i, k, f, st, cell, h1, h2, h3, h4, K.2.1 st cell h5 fun hm => ?_, h6, h7⟩
  obtain ⟨c, g1, g2⟩ := q st hm
  cases h5.symm.trans g1
  rw [h6] at g2; cases g2
theorem own_ins_keep {Z : State} {h h' : Heap} {ws : List Addr} {a : Addr} {C : String} {b : Bool} (F : Ins Z h a C b) (K : Keep h h' ws) : Ins Z h' a C b := by
  obtain ⟨cell, cT, h1, h2, h3⟩ := F
  obtain ⟨c', g1, g2, g3, -⟩ := K.2.2 a cell h1
  exact ⟨c', cT, g1, h2, by rw [g2, g3]; exact h3⟩
/-- an array of which the length alone is known -/
def own_Len (Z : State) (h : Heap) (a : Addr) (ty : FieldType) (n : Int32) : Prop := ∃ c : Cell, Arr Z h a c ty ∧ c.slots.size = n.toNatClampNeg ∧ ¬ n < 0
theorem own_Len.lt {Z : State} {h : Heap} {a : Addr} {ty : FieldType} {n : Int32} (F : own_Len Z h a ty n) : a < h.size := by obtain ⟨c, A, -⟩ := F; exact A.lt
theorem own_Len.new {Z : State} {h : Heap} {a : Addr} {k : ClassId} {ty : FieldType} {n : Int32} (A : Arr Z h a (newA k ty n) ty) (q : ¬ n < 0) : own_Len Z h a ty n := ⟨_, A, sz_new _ _ _, q⟩
theorem own_Len.ext {Z : State} {h h' : Heap} {a : Addr} {ty : FieldType} {n : Int32} (F : own_Len Z h a ty n) (E : Ext h h') : own_Len Z h' a ty n := by obtain ⟨c, A, r⟩ := F; exact ⟨c, A.ext E, r⟩
theorem own_Len.other {Z : State} {h h' : Heap} {a b : Addr} {sl : Nat} {v : Value} {ty : FieldType} {n : Int32} (F : own_Len Z h b ty n) (W : Wr h h' a sl v) (q : b ≠ a) : own_Len Z h' b ty n := by obtain ⟨c, A, r⟩ := F; exact ⟨c, A.other W q, r⟩
theorem own_Len.keep {Z : State} {h h' : Heap} {a : Addr} {ws : List Addr} {ty : FieldType} {n : Int32} (F : own_Len Z h a ty n) (K : Keep h h' ws) (q : a ∉ ws) : own_Len Z h' a ty n := by obtain ⟨c, A, r⟩ := F; exact ⟨c, ⟨K.2.1 a c A.1 q, A.2⟩, r⟩
theorem own_unt_keep {h h' : Heap} {a : Addr} {ws : List Addr} (F : Unt h a) (K : Keep h h' ws) (q : a ∉ ws) : Unt h' a := by obtain ⟨c, h1, r⟩ := F; exact ⟨c, K.2.1 a c h1 q, r⟩
theorem own_unt_lt {h : Heap} {a : Addr} (F : Unt h a) : a < h.size := by obtain ⟨c, h1, -⟩ := F; exact (Array.getElem?_eq_some_iff.mp h1).1
/-- an array of references, of known values, its component's class C -/
def own_ArvR (Z : State) (h : Heap) (a : Addr) (C : String) (n : Int32) (vs : List Value) : Prop := ∃ k, Arv Z h a k (.object C) n vs .null ∧ Ovr Z k C
theorem own_ArvR.lt {Z : State} {h : Heap} {a : Addr} {C : String} {n : Int32} {vs : List Value} (F : own_ArvR Z h a C n vs) : a < h.size := by obtain ⟨k, F, -⟩ := F; exact F.lt
theorem own_ArvR.ext {Z : State} {h h' : Heap} {a : Addr} {C : String} {n : Int32} {vs : List Value} (F : own_ArvR Z h a C n vs) (E : Ext h h') : own_ArvR Z h' a C n vs := by obtain ⟨k, F, O⟩ := F; exact ⟨k, F.ext E, O⟩
theorem own_ArvR.other {Z : State} {h h' : Heap} {a b : Addr} {sl : Nat} {v : Value} {C : String} {n : Int32} {vs : List Value} (F : own_ArvR Z h b C n vs) (W : Wr h h' a sl v) (q : b ≠ a) : own_ArvR Z h' b C n vs := by obtain ⟨k, F, O⟩ := F; exact ⟨k, F.other W q, O⟩
theorem own_ArvR.keep {Z : State} {h h' : Heap} {a : Addr} {ws : List Addr} {C : String} {n : Int32} {vs : List Value} (F : own_ArvR Z h a C n vs) (K : Keep h h' ws) (q : a ∉ ws) : own_ArvR Z h' a C n vs := by obtain ⟨k, F, O⟩ := F; exact ⟨k, F.keep K q, O⟩
theorem own_plainB {Z : State} {h : Heap} {a : Addr} {C : String} {n : Int32} {vs : List Value} (F : own_ArvR Z h a C n vs) : ∃ c : Cell, h[a]? = some c ∧ c.vm.isStatics = false := by obtain ⟨k, ⟨c, A, -⟩, -⟩ := F; exact ⟨c, A.1, A.plain⟩
theorem own_plainA {Z : State} {h : Heap} {a : Addr} {ty : FieldType} {n : Int32} {vs : List Value} {d : Value} (F : own_Arv Z h a ty n vs d) : ∃ c : Cell, h[a]? = some c ∧ c.vm.isStatics = false := by obtain ⟨k, c, A, -⟩ := F; exact ⟨c, A.1, A.plain⟩
theorem own_plainL {Z : State} {h : Heap} {a : Addr} {ty : FieldType} {n : Int32} (F : own_Len Z h a ty n) : ∃ c : Cell, h[a]? = some c ∧ c.vm.isStatics = false := by obtain ⟨c, A, -⟩ := F; exact ⟨c, A.1, A.plain⟩
theorem own_neA {Z : State} {h : Heap} {x b : Addr} {C : String} {a0 : Array Value} {m : Nat} {ty : FieldType} {n : Int32} {vs : List Value} {d : Value} (E : Exa Z h x C) (F : own_Arv Z h b ty n vs d) (w : (Jvm.Cond.instantiable C m).before a0 Z = true) : x ≠ b := by obtain ⟨k, c, A, -⟩ := F; exact ne_arr E w A
theorem own_neL {Z : State} {h : Heap} {x b : Addr} {C : String} {a0 : Array Value} {m : Nat} {ty : FieldType} {n : Int32} (E : Exa Z h x C) (F : own_Len Z h b ty n) (w : (Jvm.Cond.instantiable C m).before a0 Z = true) : x ≠ b := by obtain ⟨c, A, -⟩ := F; exact ne_arr E w A
theorem own_neB {Z : State} {h : Heap} {x b : Addr} {C D : String} {a0 : Array Value} {m : Nat} {n : Int32} {vs : List Value} (E : Exa Z h x C) (F : own_ArvR Z h b D n vs) (w : (Jvm.Cond.instantiable C m).before a0 Z = true) : x ≠ b := by obtain ⟨k, ⟨c, A, -⟩, -⟩ := F; exact ne_arr E w A

theorem d2_0 : decode jdk_30_method_1_code 0 = .ok (.aload_n 0, 1) := by decide +kernel
theorem d2_1 : decode jdk_30_method_1_code 1 = .ok (.invokespecial 1, 3) := by decide +kernel
theorem d2_4 : decode jdk_30_method_1_code 4 = .ok (.return_, 1) := by decide +kernel
theorem pn_3 : plainName "java/lang/Record" = true := by first | (simp [plainName, overriddenIn]; done) | decide +kernel
theorem ef_rm2 (m : MethodId) (x0 : Addr) : entryFrame m #[(.ref x0)] 1 = mkF m 0 #[.val (.ref x0)] [] := by first | (simp [entryFrame, mkF, argsToLocals, Value.category]; done) | rfl
def Qrm2 (Z : State) (o0 : Addr) (h0 : Heap) (n0 : Nat) (v : Option Value) (h : Heap) (L : List Loc) : Prop := v = none ∧ Fr n0 L ∧ h = h0
set_option maxRecDepth 65536 in
set_option maxHeartbeats 40000000 in
theorem rm2 (l : Launch) (Z : State) (a0 : Array Value) (hw : ∀ d ∈ tables_1, d.before a0 Z = true) (ws : List Jvm.Cond) (o0 : Addr) (h0 : Heap) (n0 : Nat) (Z0 : n0 ≤ h0.size) :
    MetFree l (⟨"java/lang/Record", "<init>", "()V"⟩ : MethodName) (head1 (Jvm.Cond.code (⟨"java/lang/Record", "<init>", "()V"⟩ : MethodName) jdk_30_method_1_code 1 none :: ws) ({ frames := 1, cells := 0, slots := 0, locals := 12 } : Room)) (fun a U => a = #[(.ref o0)] ∧ Z.Warmed39 U.vm ∧ U.heap = h0) (fun _ _ _ _ _ => True) (fun _ U o U' => ∃ v L, o = .returned v ∧ Qrm2 Z o0 h0 n0 v U'.heap L ∧ FrameEnd U o U' L ({ frames := 1, cells := 0, slots := 0, locals := 12 } : Room).cells ({ frames := 1, cells := 0, slots := 0, locals := 12 } : Room).slots) := by
  refine MetFree.of_bodySF (plainFor_of_name pn_3) hisR ?_
  intro p e s m args below meth c s₁ Bd hml0 hP hK
  obtain ⟨rfl, hZ, hh⟩ := hP
  have hx := Bd.exec
  have hby := Bd.bytes
  have hml : c.maxLocals = 1 := hml0
  have hown : s.vm.findClass "java/lang/Record" = some m.cls := findClass_of_methodNamed Bd.named
  have hnm := (name_of_methodNamed Bd.named Bd.method).1
  have X0 : Stand p l e ({ frames := 1, cells := 0, slots := 0, locals := 12 } : Room) s m #[(.ref o0)] below meth c s₁ [] 0 0 := Stand.of_body Bd
  have e0 : s₁.heap = h0 := by rw [← hh, Bd.state]; rfl
  have N0 := Fr.nil n0
  show own_Go p e below s (Qrm2 Z o0 h0 n0) ({ frames := 1, cells := 0, slots := 0, locals := 12 } : Room).cells ({ frames := 1, cells := 0, slots := 0, locals := 12 } : Room).slots (s₁.setTop (entryFrame m #[(.ref o0)] 1))
  rw [ef_rm2 m o0]
  have K0 : Keep h0 h0 [] := Keep.refl h0 []
  refine own_go (S' := s₁.setTop (mkF m 1 #[.val (.ref o0)] [(.ref o0)])) (fun t k => ?_) ?_
  · show Steps p.tables e below (s₁.setTop (mkF m 0 #[.val (.ref o0)] [])) t
    refine XS.aloadN X0.here hx rfl (hb hby d2_0) rfl rfl ?_
    exact k
  obtain ⟨T1, X1, e1, st1⟩ := initO X0 hx hZ hown (hw _ (List.mem_of_getElem? (i := 11) rfl)) (hw _ (List.mem_of_getElem? (i := 12) rfl)) (hw _ (List.mem_of_getElem? (i := 13) rfl)) e0 (g := (mkF m 1 #[.val (.ref o0)] [(.ref o0)])) rfl (by rw [hml]; rfl) rfl (hb hby d2_1) (by decide) (W := 0) (by show 2 * 0 + _ ≤ _; exact Nat.le_of_eq rfl) (by decide)
  refine own_go st1 ?_
  obtain ⟨fs, hr, hrun, hended, hW, hsame⟩ := X1.leave (v := none) (fun _ => rfl)
  refine own_end (v := none) ?_ hrun hended ?_ hW (hsame.mono (by decide) (by decide))
  · show Steps p.tables e below (T1.setTop (mkF m 4 #[.val (.ref o0)] [])) _
    exact X1.returnOut hx Bd.returns (hb hby d2_4) hr
  · show Qrm2 Z o0 h0 n0 _ T1.heap _
    rw [e1]
    exact ⟨rfl, N0, rfl⟩
theorem d1_0 : decode prog_211_method_1_code 0 = .ok (.aload_n 0, 1) := by decide +kernel
theorem d1_1 : decode prog_211_method_1_code 1 = .ok (.invokespecial 1, 3) := by decide +kernel
theorem pd_6 : parseMethodDescriptor "()V" = some ⟨[], none⟩ := by decide +kernel
theorem d1_4 : decode prog_211_method_1_code 4 = .ok (.aload_n 0, 1) := by decide +kernel
theorem d1_5 : decode prog_211_method_1_code 5 = .ok (.iload_n 1, 1) := by decide +kernel
theorem d1_6 : decode prog_211_method_1_code 6 = .ok (.putfield 7, 3) := by decide +kernel
theorem d1_9 : decode prog_211_method_1_code 9 = .ok (.aload_n 0, 1) := by decide +kernel
theorem d1_10 : decode prog_211_method_1_code 10 = .ok (.iload_n 2, 1) := by decide +kernel
theorem d1_11 : decode prog_211_method_1_code 11 = .ok (.putfield 13, 3) := by decide +kernel
theorem d1_14 : decode prog_211_method_1_code 14 = .ok (.return_, 1) := by decide +kernel
theorem pn_14 : plainName "com/example/dropwire/dropwire/x11/XdndTarget" = true := by first | (simp [plainName, overriddenIn]; done) | decide +kernel
theorem ef_rm1 (m : MethodId) (x0 : Addr) (x1 : Int32) (x2 : Int32) : entryFrame m #[(.ref x0), (.int x1), (.int x2)] 3 = mkF m 0 #[.val (.ref x0), .val (.int x1), .val (.int x2)] [] := by first | (simp [entryFrame, mkF, argsToLocals, Value.category]; done) | rfl
def Qrm1 (Z : State) (o0 : Addr) (p1 : Int32) (p2 : Int32) (w_o0_window : Int32) (w_o0_destination : Int32) (h0 : Heap) (n0 : Nat) (v : Option Value) (h : Heap) (L : List Loc) : Prop := v = none ∧ Fr n0 L ∧ Keep h0 h [o0] ∧ Exa Z h o0 "com/example/dropwire/dropwire/x11/XdndTarget" ∧ Fld Z h o0 "com/example/dropwire/dropwire/x11/XdndTarget" "window" "I" (.int p1) ∧ Fld Z h o0 "com/example/dropwire/dropwire/x11/XdndTarget" "destination" "I" (.int p2)
set_option maxRecDepth 65536 in
set_option maxHeartbeats 40000000 in
theorem rm1 (l : Launch) (Z : State) (a0 : Array Value) (hw : ∀ d ∈ tables_1, d.before a0 Z = true) (ws : List Jvm.Cond) (o0 : Addr) (p1 : Int32) (p2 : Int32) (w_o0_window : Int32) (w_o0_destination : Int32) (h0 : Heap) (n0 : Nat) (Z0 : n0 ≤ h0.size) (E_o0 : Exa Z h0 o0 "com/example/dropwire/dropwire/x11/XdndTarget") (F_o0_window : Fld Z h0 o0 "com/example/dropwire/dropwire/x11/XdndTarget" "window" "I" (.int w_o0_window)) (F_o0_destination : Fld Z h0 o0 "com/example/dropwire/dropwire/x11/XdndTarget" "destination" "I" (.int w_o0_destination)) (g_o0 : n0 ≤ o0) :
    MetFree l (⟨"com/example/dropwire/dropwire/x11/XdndTarget", "<init>", "(II)V"⟩ : MethodName) (head1 (Jvm.Cond.code (⟨"com/example/dropwire/dropwire/x11/XdndTarget", "<init>", "(II)V"⟩ : MethodName) prog_211_method_1_code 3 none :: ws) ({ frames := 2, cells := 0, slots := 0, locals := 24 } : Room)) (fun a U => a = #[(.ref o0), (.int p1), (.int p2)] ∧ Z.Warmed39 U.vm ∧ U.heap = h0) (fun _ _ _ _ _ => True) (fun _ U o U' => ∃ v L, o = .returned v ∧ Qrm1 Z o0 p1 p2 w_o0_window w_o0_destination h0 n0 v U'.heap L ∧ FrameEnd U o U' L ({ frames := 2, cells := 0, slots := 0, locals := 24 } : Room).cells ({ frames := 2, cells := 0, slots := 0, locals := 24 } : Room).slots) := by
  refine MetFree.of_bodySF (plainFor_of_name pn_14) hisR ?_
  intro p e s m args below meth c s₁ Bd hml0 hP hK
  obtain ⟨rfl, hZ, hh⟩ := hP
  have hx := Bd.exec
  have hby := Bd.bytes
  have hml : c.maxLocals = 3 := hml0
  have hown : s.vm.findClass "com/example/dropwire/dropwire/x11/XdndTarget" = some m.cls := findClass_of_methodNamed Bd.named
  have hnm := (name_of_methodNamed Bd.named Bd.method).1
  have X0 : Stand p l e ({ frames := 2, cells := 0, slots := 0, locals := 24 } : Room) s m #[(.ref o0), (.int p1), (.int p2)] below meth c s₁ [] 0 0 := Stand.of_body Bd
  have e0 : s₁.heap = h0 := by rw [← hh, Bd.state]; rfl
  have N0 := Fr.nil n0
  show own_Go p e below s (Qrm1 Z o0 p1 p2 w_o0_window w_o0_destination h0 n0) ({ frames := 2, cells := 0, slots := 0, locals := 24 } : Room).cells ({ frames := 2, cells := 0, slots := 0, locals := 24 } : Room).slots (s₁.setTop (entryFrame m #[(.ref o0), (.int p1), (.int p2)] 3))
  rw [ef_rm1 m o0 p1 p2]
  have K0 : Keep h0 h0 [o0] := Keep.refl h0 [o0]
  refine own_go (S' := s₁.setTop (mkF m 1 #[.val (.ref o0), .val (.int p1), .val (.int p2)] [(.ref o0)])) (fun t k => ?_) ?_
  · show Steps p.tables e below (s₁.setTop (mkF m 0 #[.val (.ref o0), .val (.int p1), .val (.int p2)] [])) t
    refine XS.aloadN X0.here hx rfl (hb hby d1_0) rfl rfl ?_
    exact k
  obtain ⟨_, _, ⟨T2, L2, kk2, nn2⟩, -, X2, ⟨Lc2, hQ2, l2, y2, z2⟩, st2⟩ := X0.specialBack hx (y := (⟨"java/lang/Record", "<init>", "()V"⟩ : MethodName)) rfl hown (mvT hZ (hw _ (List.mem_of_getElem? (i := 6) rfl))) (mvT hZ (hw _ (List.mem_of_getElem? (i := 7) rfl))) (mvT hZ (hw _ (List.mem_of_getElem? (i := 10) rfl))) (by decide) (backOf (W := 0) (rm2 l Z a0 hw [] o0 h0 n0 Z0 ) hZ (hw _ (List.mem_of_getElem? (i := 10) rfl)) (hw _ (List.mem_of_getElem? (i := 9) rfl)) (by decide) (by decide)) (g := (mkF m 1 #[.val (.ref o0), .val (.int p1), .val (.int p2)] [(.ref o0)])) rfl (by rw [hml]; rfl) (Steps.refl _) (a := o0) (argsL := []) (rest := []) (lenOf pd_6 rfl) rfl (by show 2 * 0 + _ ≤ _; exact Nat.le_of_eq rfl) (hb hby d1_1) (fun _ _ => ⟨rfl, e0, (by decide : 0 + 0 ≤ _), (by decide : 0 + 0 ≤ _)⟩)
  dsimp only [Pt.U, Pt.locs, Pt.cells, Pt.slots] at X2 l2 y2 z2 st2 hQ2
  subst l2 y2 z2
  obtain ⟨rfl, N3, e2⟩ := hQ2
  have N5 := Fr.app N0 N3
  refine own_goT st2 ?_
  refine own_go (S' := T2.setTop (mkF m 6 #[.val (.ref o0), .val (.int p1), .val (.int p2)] [(.int p1), (.ref o0)])) (fun t k => ?_) ?_
  · show Steps p.tables e below (T2.setTop (mkF m 4 #[.val (.ref o0), .val (.int p1), .val (.int p2)] [])) t
    refine XS.aloadN X2.here hx rfl (hb hby d1_4) rfl rfl ?_
    show Steps p.tables e below (T2.setTop (mkF m 5 #[.val (.ref o0), .val (.int p1), .val (.int p2)] [(.ref o0)])) t
    refine XS.iloadN X2.here hx rfl (hb hby d1_5) rfl ?_
    exact k
  obtain ⟨T6, h6, X6, e6, W6, st6⟩ := putF X2 hx hZ hown (host := "") (Or.inl (hw _ (List.mem_of_getElem? (i := 14) rfl))) Via.refl e2 F_o0_window E_o0 (Or.inr ⟨(hw _ (List.mem_of_getElem? (i := 15) rfl)), rfl, hnm⟩) (hw _ (List.mem_of_getElem? (i := 1) rfl)) (ty := .int) (by decide) rfl rfl (g := (mkF m 6 #[.val (.ref o0), .val (.int p1), .val (.int p2)] [(.int p1), (.ref o0)])) rfl rfl (hb hby d1_6)
  have f7 : Exa Z h6 o0 "com/example/dropwire/dropwire/x11/XdndTarget" := E_o0.wr W6
  have f8 : Fld Z h6 o0 "com/example/dropwire/dropwire/x11/XdndTarget" "destination" "I" (.int w_o0_destination) := F_o0_destination.other W6 (Or.inr (slot_ne (Or.inr (hw _ (List.mem_of_getElem? (i := 17) rfl))) (Or.inr (hw _ (List.mem_of_getElem? (i := 15) rfl))) (by decide) (t := .int) (t' := .int) (by decide) (by decide)))
  have f9 : Fld Z h6 o0 "com/example/dropwire/dropwire/x11/XdndTarget" "window" "I" (.int p1) := F_o0_window.same W6
  have N10 := Fr.snoc X6 N5 g_o0
  have Z11 : n0 ≤ h6.size := Nat.le_trans Z0 (Keep.of_wr W6).1
  have K12 : Keep h0 h6 [o0] := K0.wr W6 (Or.inl (List.mem_of_getElem? (i := 0) rfl))
  refine own_go st6 ?_
  refine own_go (S' := T6.setTop (mkF m 11 #[.val (.ref o0), .val (.int p1), .val (.int p2)] [(.int p2), (.ref o0)])) (fun t k => ?_) ?_
  · show Steps p.tables e below (T6.setTop (mkF m 9 #[.val (.ref o0), .val (.int p1), .val (.int p2)] [])) t
    refine XS.aloadN X6.here hx rfl (hb hby d1_9) rfl rfl ?_
    show Steps p.tables e below (T6.setTop (mkF m 10 #[.val (.ref o0), .val (.int p1), .val (.int p2)] [(.ref o0)])) t
    refine XS.iloadN X6.here hx rfl (hb hby d1_10) rfl ?_
    exact k
  obtain ⟨T13, h13, X13, e13, W13, st13⟩ := putF X6 hx hZ hown (host := "") (Or.inl (hw _ (List.mem_of_getElem? (i := 16) rfl))) Via.refl e6 f8 f7 (Or.inr ⟨(hw _ (List.mem_of_getElem? (i := 17) rfl)), rfl, hnm⟩) (hw _ (List.mem_of_getElem? (i := 1) rfl)) (ty := .int) (by decide) rfl rfl (g := (mkF m 11 #[.val (.ref o0), .val (.int p1), .val (.int p2)] [(.int p2), (.ref o0)])) rfl rfl (hb hby d1_11)
  have f14 : Exa Z h13 o0 "com/example/dropwire/dropwire/x11/XdndTarget" := f7.wr W13
  have f15 : Fld Z h13 o0 "com/example/dropwire/dropwire/x11/XdndTarget" "window" "I" (.int p1) := f9.other W13 (Or.inr (slot_ne (Or.inr (hw _ (List.mem_of_getElem? (i := 15) rfl))) (Or.inr (hw _ (List.mem_of_getElem? (i := 17) rfl))) (by decide) (t := .int) (t' := .int) (by decide) (by decide)))
  have f16 : Fld Z h13 o0 "com/example/dropwire/dropwire/x11/XdndTarget" "destination" "I" (.int p2) := f8.same W13
  have N17 := Fr.snoc X13 N10 g_o0
  have Z18 : n0 ≤ h13.size := Nat.le_trans Z11 (Keep.of_wr W13).1
  have K19 : Keep h0 h13 [o0] := K12.wr W13 (Or.inl (List.mem_of_getElem? (i := 0) rfl))
  refine own_go st13 ?_
  obtain ⟨fs, hr, hrun, hended, hW, hsame⟩ := X13.leave (v := none) (fun _ => rfl)
  refine own_end (v := none) ?_ hrun hended ?_ hW (hsame.mono (by decide) (by decide))
  · show Steps p.tables e below (T13.setTop (mkF m 14 #[.val (.ref o0), .val (.int p1), .val (.int p2)] [])) _
    exact X13.returnOut hx Bd.returns (hb hby d1_14) hr
  · show Qrm1 Z o0 p1 p2 w_o0_window w_o0_destination h0 n0 _ T13.heap _
    rw [e13]
    exact ⟨rfl, N17, K19, f14, f15, f16⟩
theorem d4_0 : decode prog_211_method_3_code 0 = .ok (.iload_n 1, 1) := by decide +kernel
theorem d4_1 : decode prog_211_method_3_code 1 = .ok (.aload_n 0, 1) := by decide +kernel
theorem d4_2 : decode prog_211_method_3_code 2 = .ok (.getfield 7, 3) := by decide +kernel
theorem d4_5 : decode prog_211_method_3_code 5 = .ok (.if_icmp .eq 11, 3) := by decide +kernel
theorem d4_16 : decode prog_211_method_3_code 16 = .ok (.iconst 1, 1) := by decide +kernel
theorem d4_17 : decode prog_211_method_3_code 17 = .ok (.goto 4, 3) := by decide +kernel
theorem d4_21 : decode prog_211_method_3_code 21 = .ok (.ireturn, 1) := by decide +kernel
theorem d4_8 : decode prog_211_method_3_code 8 = .ok (.iload_n 1, 1) := by decide +kernel
theorem d4_9 : decode prog_211_method_3_code 9 = .ok (.aload_n 0, 1) := by decide +kernel
theorem d4_10 : decode prog_211_method_3_code 10 = .ok (.getfield 13, 3) := by decide +kernel
theorem d4_13 : decode prog_211_method_3_code 13 = .ok (.if_icmp .ne 7, 3) := by decide +kernel
theorem d4_20 : decode prog_211_method_3_code 20 = .ok (.iconst 0, 1) := by decide +kernel
theorem ef_rm4 (m : MethodId) (x0 : Addr) (x1 : Int32) : entryFrame m #[(.ref x0), (.int x1)] 2 = mkF m 0 #[.val (.ref x0), .val (.int x1)] [] := by first | (simp [entryFrame, mkF, argsToLocals, Value.category]; done) | rfl
def rm4_r (p1 : Int32) (w_o0_window : Int32) (w_o0_destination : Int32) : Int32 := (if p1 = w_o0_window then (1 : Int32) else (if p1 = w_o0_destination then (1 : Int32) else (0 : Int32)))
def Qrm4 (Z : State) (o0 : Addr) (p1 : Int32) (w_o0_window : Int32) (w_o0_destination : Int32) (h0 : Heap) (n0 : Nat) (v : Option Value) (h : Heap) (L : List Loc) : Prop := v = some (.int (rm4_r p1 w_o0_window w_o0_destination)) ∧ Fr n0 L ∧ h = h0
set_option maxRecDepth 65536 in
set_option maxHeartbeats 40000000 in
theorem rm4 (l : Launch) (Z : State) (a0 : Array Value) (hw : ∀ d ∈ tables_1, d.before a0 Z = true) (ws : List Jvm.Cond) (o0 : Addr) (p1 : Int32) (w_o0_window : Int32) (w_o0_destination : Int32) (h0 : Heap) (n0 : Nat) (Z0 : n0 ≤ h0.size) (F_o0_window : Fld Z h0 o0 "com/example/dropwire/dropwire/x11/XdndTarget" "window" "I" (.int w_o0_window)) (F_o0_destination : Fld Z h0 o0 "com/example/dropwire/dropwire/x11/XdndTarget" "destination" "I" (.int w_o0_destination)) :
    MetFree l (⟨"com/example/dropwire/dropwire/x11/XdndTarget", "isGone", "(I)Z"⟩ : MethodName) (head1 (Jvm.Cond.code (⟨"com/example/dropwire/dropwire/x11/XdndTarget", "isGone", "(I)Z"⟩ : MethodName) prog_211_method_3_code 2 (some .boolean) :: ws) ({ frames := 0, cells := 0, slots := 0, locals := 0 } : Room)) (fun a U => a = #[(.ref o0), (.int p1)] ∧ Z.Warmed39 U.vm ∧ U.heap = h0) (fun _ _ _ _ _ => True) (fun _ U o U' => ∃ v L, o = .returned v ∧ Qrm4 Z o0 p1 w_o0_window w_o0_destination h0 n0 v U'.heap L ∧ FrameEnd U o U' L ({ frames := 0, cells := 0, slots := 0, locals := 0 } : Room).cells ({ frames := 0, cells := 0, slots := 0, locals := 0 } : Room).slots) := by
  refine MetFree.of_bodySF (plainFor_of_name pn_14) hisR ?_
  intro p e s m args below meth c s₁ Bd hml0 hP hK
  obtain ⟨rfl, hZ, hh⟩ := hP
  have hx := Bd.exec
  have hby := Bd.bytes
  have hml : c.maxLocals = 2 := hml0
  have hown : s.vm.findClass "com/example/dropwire/dropwire/x11/XdndTarget" = some m.cls := findClass_of_methodNamed Bd.named
  have hnm := (name_of_methodNamed Bd.named Bd.method).1
  have X0 : Stand p l e ({ frames := 0, cells := 0, slots := 0, locals := 0 } : Room) s m #[(.ref o0), (.int p1)] below meth c s₁ [] 0 0 := Stand.of_body Bd
  have e0 : s₁.heap = h0 := by rw [← hh, Bd.state]; rfl
  have N0 := Fr.nil n0
  show own_Go p e below s (Qrm4 Z o0 p1 w_o0_window w_o0_destination h0 n0) ({ frames := 0, cells := 0, slots := 0, locals := 0 } : Room).cells ({ frames := 0, cells := 0, slots := 0, locals := 0 } : Room).slots (s₁.setTop (entryFrame m #[(.ref o0), (.int p1)] 2))
  rw [ef_rm4 m o0 p1]
  have K0 : Keep h0 h0 [] := Keep.refl h0 []
  refine own_go (S' := s₁.setTop (mkF m 2 #[.val (.ref o0), .val (.int p1)] [(.ref o0), (.int p1)])) (fun t k => ?_) ?_
  · show Steps p.tables e below (s₁.setTop (mkF m 0 #[.val (.ref o0), .val (.int p1)] [])) t
    refine XS.iloadN X0.here hx rfl (hb hby d4_0) rfl ?_
    show Steps p.tables e below (s₁.setTop (mkF m 1 #[.val (.ref o0), .val (.int p1)] [(.int p1)])) t
    refine XS.aloadN X0.here hx rfl (hb hby d4_1) rfl rfl ?_
    exact k
  obtain ⟨T20, X20, e20, st20⟩ := getF X0 hx hZ hown (host := "") (Or.inl (hw _ (List.mem_of_getElem? (i := 14) rfl))) Via.refl e0 F_o0_window (g := (mkF m 2 #[.val (.ref o0), .val (.int p1)] [(.ref o0), (.int p1)])) rfl rfl (hb hby d4_2)
  refine own_go st20 ?_
  by_cases hc5 : p1 = w_o0_window
  · skip
    refine own_go (S' := T20.setTop (mkF m 21 #[.val (.ref o0), .val (.int p1)] [(.int (1 : Int32))])) (fun t k => ?_) ?_
    · show Steps p.tables e below (T20.setTop (mkF m 5 #[.val (.ref o0), .val (.int p1)] [(.int w_o0_window), (.int p1)])) t
      refine XS.icmpYes X20.here hx rfl (pc0 := 5) (pc' := 16) rfl (hb hby d4_5) rfl (teq hc5).1 (by decide) (by decide) ?_
      show Steps p.tables e below (T20.setTop (mkF m 16 #[.val (.ref o0), .val (.int p1)] [])) t
      refine XS.iconst X20.here hx rfl (hb hby d4_16) ?_
      show Steps p.tables e below (T20.setTop (mkF m 17 #[.val (.ref o0), .val (.int p1)] [(.int (1 : Int32))])) t
      refine XS.goto X20.here hx rfl (pc0 := 17) (pc' := 21) rfl (hb hby d4_17) (by decide) (by decide) ?_
      exact k
    obtain ⟨fs, hr, hrun, hended, hW, hsame⟩ := X20.leave (v := some (.int (1 : Int32))) (fun h => by rw [Bd.returns] at h; cases h)
    refine own_end (v := some (.int (1 : Int32))) ?_ hrun hended ?_ hW (hsame.mono (by decide) (by decide))
    · show Steps p.tables e below (T20.setTop (mkF m 21 #[.val (.ref o0), .val (.int p1)] [(.int (1 : Int32))])) _
      exact retN X20 hx (t := .boolean) Bd.returns (by simp) (hb hby d4_21) hr
    · show Qrm4 Z o0 p1 w_o0_window w_o0_destination h0 n0 _ T20.heap _
      rw [e20]
      exact ⟨(by simp only [rm4_r, if_pos hc5]), N0, rfl⟩
  · skip
    refine own_go (S' := T20.setTop (mkF m 10 #[.val (.ref o0), .val (.int p1)] [(.ref o0), (.int p1)])) (fun t k => ?_) ?_
    · show Steps p.tables e below (T20.setTop (mkF m 5 #[.val (.ref o0), .val (.int p1)] [(.int w_o0_window), (.int p1)])) t
      refine XS.icmpNo X20.here hx rfl (hb hby d4_5) rfl (feq hc5).1 ?_
      show Steps p.tables e below (T20.setTop (mkF m 8 #[.val (.ref o0), .val (.int p1)] [])) t
      refine XS.iloadN X20.here hx rfl (hb hby d4_8) rfl ?_
      show Steps p.tables e below (T20.setTop (mkF m 9 #[.val (.ref o0), .val (.int p1)] [(.int p1)])) t
      refine XS.aloadN X20.here hx rfl (hb hby d4_9) rfl rfl ?_
      exact k
    obtain ⟨T21, X21, e21, st21⟩ := getF X20 hx hZ hown (host := "") (Or.inl (hw _ (List.mem_of_getElem? (i := 16) rfl))) Via.refl e20 F_o0_destination (g := (mkF m 10 #[.val (.ref o0), .val (.int p1)] [(.ref o0), (.int p1)])) rfl rfl (hb hby d4_10)
    refine own_go st21 ?_
    by_cases hc13 : p1 = w_o0_destination
    · skip
      refine own_go (S' := T21.setTop (mkF m 21 #[.val (.ref o0), .val (.int p1)] [(.int (1 : Int32))])) (fun t k => ?_) ?_
      · show Steps p.tables e below (T21.setTop (mkF m 13 #[.val (.ref o0), .val (.int p1)] [(.int w_o0_destination), (.int p1)])) t
        refine XS.icmpNo X21.here hx rfl (hb hby d4_13) rfl (teq hc13).2 ?_
        show Steps p.tables e below (T21.setTop (mkF m 16 #[.val (.ref o0), .val (.int p1)] [])) t
        refine XS.iconst X21.here hx rfl (hb hby d4_16) ?_
        show Steps p.tables e below (T21.setTop (mkF m 17 #[.val (.ref o0), .val (.int p1)] [(.int (1 : Int32))])) t
        refine XS.goto X21.here hx rfl (pc0 := 17) (pc' := 21) rfl (hb hby d4_17) (by decide) (by decide) ?_
        exact k
      obtain ⟨fs, hr, hrun, hended, hW, hsame⟩ := X21.leave (v := some (.int (1 : Int32))) (fun h => by rw [Bd.returns] at h; cases h)
      refine own_end (v := some (.int (1 : Int32))) ?_ hrun hended ?_ hW (hsame.mono (by decide) (by decide))
      · show Steps p.tables e below (T21.setTop (mkF m 21 #[.val (.ref o0), .val (.int p1)] [(.int (1 : Int32))])) _
        exact retN X21 hx (t := .boolean) Bd.returns (by simp) (hb hby d4_21) hr
      · show Qrm4 Z o0 p1 w_o0_window w_o0_destination h0 n0 _ T21.heap _
        rw [e21]
        exact ⟨(by simp only [rm4_r, if_neg hc5, if_pos hc13]), N0, rfl⟩
    · skip
      refine own_go (S' := T21.setTop (mkF m 21 #[.val (.ref o0), .val (.int p1)] [(.int (0 : Int32))])) (fun t k => ?_) ?_
      · show Steps p.tables e below (T21.setTop (mkF m 13 #[.val (.ref o0), .val (.int p1)] [(.int w_o0_destination), (.int p1)])) t
        refine XS.icmpYes X21.here hx rfl (pc0 := 13) (pc' := 20) rfl (hb hby d4_13) rfl (feq hc13).2 (by decide) (by decide) ?_
        show Steps p.tables e below (T21.setTop (mkF m 20 #[.val (.ref o0), .val (.int p1)] [])) t
        refine XS.iconst X21.here hx rfl (hb hby d4_20) ?_
        exact k
      obtain ⟨fs, hr, hrun, hended, hW, hsame⟩ := X21.leave (v := some (.int (0 : Int32))) (fun h => by rw [Bd.returns] at h; cases h)
      refine own_end (v := some (.int (0 : Int32))) ?_ hrun hended ?_ hW (hsame.mono (by decide) (by decide))
      · show Steps p.tables e below (T21.setTop (mkF m 21 #[.val (.ref o0), .val (.int p1)] [(.int (0 : Int32))])) _
        exact retN X21 hx (t := .boolean) Bd.returns (by simp) (hb hby d4_21) hr
      · show Qrm4 Z o0 p1 w_o0_window w_o0_destination h0 n0 _ T21.heap _
        rw [e21]
        exact ⟨(by simp only [rm4_r, if_neg hc5, if_neg hc13]), N0, rfl⟩
theorem pd_27 : parseMethodDescriptor "(II)V" = some ⟨[.int, .int], none⟩ := by decide +kernel
theorem pd_28 : parseMethodDescriptor "(I)Z" = some ⟨[.int], some .boolean⟩ := by decide +kernel
theorem pn_29 : plainName "com/example/dropwire/dropwire/x11/XdndTargetIsGonePinLaw" = true := by first | (simp [plainName, overriddenIn]; done) | decide +kernel
theorem ef_rm0 (m : MethodId) (x0 : Int32) (x1 : Int32) (x2 : Int32) : entryFrame m #[(.int x0), (.int x1), (.int x2)] maxLocals = mkF m 0 #[.val (.int x0), .val (.int x1), .val (.int x2), .unset, .unset, .unset, .unset, .unset] [] := by first | (simp [entryFrame, mkF, argsToLocals, Value.category, maxLocals]; done) | rfl
def Qrm0 (Z : State) (p0 : Int32) (p1 : Int32) (p2 : Int32) (h0 : Heap) (n0 : Nat) (v : Option Value) (h : Heap) (L : List Loc) : Prop := v = some (.int 1) ∧ Fr n0 L
set_option maxRecDepth 65536 in
set_option maxHeartbeats 40000000 in
theorem rm0 (l : Launch) (Z : State) (a0 : Array Value) (hw : ∀ d ∈ tables_1, d.before a0 Z = true) (ws : List Jvm.Cond) (p0 : Int32) (p1 : Int32) (p2 : Int32) (h0 : Heap) (n0 : Nat) (Z0 : n0 ≤ h0.size) :
    MetFree l x (head1 (Jvm.Cond.code x code maxLocals ret :: ws) room_1) (fun a U => a = #[(.int p0), (.int p1), (.int p2)] ∧ Z.Warmed39 U.vm ∧ U.heap = h0) (fun _ _ _ _ _ => True) (fun _ U o U' => ∃ v L, o = .returned v ∧ Qrm0 Z p0 p1 p2 h0 n0 v U'.heap L ∧ FrameEnd U o U' L room_1.cells room_1.slots) := by
  refine MetFree.of_bodySF (plainFor_of_name pn_29) hisR ?_
  intro p e s m args below meth c s₁ Bd hml0 hP hK
  obtain ⟨rfl, hZ, hh⟩ := hP
  have hx := Bd.exec
  have hby := Bd.bytes
  have hml : c.maxLocals = 8 := hml0
  have hown : s.vm.findClass "com/example/dropwire/dropwire/x11/XdndTargetIsGonePinLaw" = some m.cls := findClass_of_methodNamed Bd.named
  have hnm := (name_of_methodNamed Bd.named Bd.method).1
  have X0 : Stand p l e room_1 s m #[(.int p0), (.int p1), (.int p2)] below meth c s₁ [] 0 0 := Stand.of_body Bd
  have e0 : s₁.heap = h0 := by rw [← hh, Bd.state]; rfl
  have N0 := Fr.nil n0
  show own_Go p e below s (Qrm0 Z p0 p1 p2 h0 n0) room_1.cells room_1.slots (s₁.setTop (entryFrame m #[(.int p0), (.int p1), (.int p2)] maxLocals))
  rw [ef_rm0 m p0 p1 p2]
  obtain ⟨T22, h22, X22, e22, E22, A22, D22, -, st22⟩ := newO X0 hx hZ hown (hw _ (List.mem_of_getElem? (i := 0) rfl)) (hw _ (List.mem_of_getElem? (i := 1) rfl)) (hw _ (List.mem_of_getElem? (i := 2) rfl)) e0 (g := (mkF m 0 #[.val (.int p0), .val (.int p1), .val (.int p2), .unset, .unset, .unset, .unset, .unset] [])) rfl (hb hby at_0) (by decide) (by decide)
  obtain ⟨b22, g22⟩ : ∃ z, z = h0.size := ⟨_, rfl⟩
  rw [← g22] at A22 D22 st22
  have g_b22 : n0 ≤ b22 := Nat.le_trans Z0 (Nat.le_of_eq g22.symm)
  have Z23 : n0 ≤ h22.size := Nat.le_trans Z0 E22.1
  have f24 : Fld Z h22 b22 "com/example/dropwire/dropwire/x11/XdndTarget" "window" "I" (.int (0 : Int32)) := D22 (Or.inr (hw _ (List.mem_of_getElem? (i := 15) rfl))) (ty := .int) (by decide)
  have f25 : Fld Z h22 b22 "com/example/dropwire/dropwire/x11/XdndTarget" "destination" "I" (.int (0 : Int32)) := D22 (Or.inr (hw _ (List.mem_of_getElem? (i := 17) rfl))) (ty := .int) (by decide)
  refine own_go st22 ?_
  refine own_go (S' := T22.setTop (mkF m 6 #[.val (.int p0), .val (.int p1), .val (.int p2), .unset, .unset, .unset, .unset, .unset] [(.int p1), (.int p0), (.ref b22), (.ref b22)])) (fun t k => ?_) ?_
  · show Steps p.tables e below (T22.setTop (mkF m 3 #[.val (.int p0), .val (.int p1), .val (.int p2), .unset, .unset, .unset, .unset, .unset] [(.ref b22)])) t
    refine XS.dup X22.here hx rfl (hb hby at_3) rfl rfl ?_
    show Steps p.tables e below (T22.setTop (mkF m 4 #[.val (.int p0), .val (.int p1), .val (.int p2), .unset, .unset, .unset, .unset, .unset] [(.ref b22), (.ref b22)])) t
    refine XS.iloadN X22.here hx rfl (hb hby at_4) rfl ?_
    show Steps p.tables e below (T22.setTop (mkF m 5 #[.val (.int p0), .val (.int p1), .val (.int p2), .unset, .unset, .unset, .unset, .unset] [(.int p0), (.ref b22), (.ref b22)])) t
    refine XS.iloadN X22.here hx rfl (hb hby at_5) rfl ?_
    exact k
  obtain ⟨_, _, ⟨T26, L26, kk26, nn26⟩, -, X26, ⟨Lc26, hQ26, l26, y26, z26⟩, st26⟩ := X22.specialBack hx (y := (⟨"com/example/dropwire/dropwire/x11/XdndTarget", "<init>", "(II)V"⟩ : MethodName)) rfl hown (mvT hZ (hw _ (List.mem_of_getElem? (i := 3) rfl))) (mvT hZ (hw _ (List.mem_of_getElem? (i := 4) rfl))) (mvT hZ (hw _ (List.mem_of_getElem? (i := 5) rfl))) (by decide) (backOf (W := 1) (rm1 l Z a0 hw [] b22 p0 p1 (0 : Int32) (0 : Int32) h22 n0 Z23 A22 f24 f25 g_b22) hZ (hw _ (List.mem_of_getElem? (i := 5) rfl)) (hw _ (List.mem_of_getElem? (i := 2) rfl)) (by decide) (by decide)) (g := (mkF m 6 #[.val (.int p0), .val (.int p1), .val (.int p2), .unset, .unset, .unset, .unset, .unset] [(.int p1), (.int p0), (.ref b22), (.ref b22)])) rfl (by rw [hml]; rfl) (Steps.refl _) (a := b22) (argsL := [(.int p0), (.int p1)]) (rest := [(.ref b22)]) (lenOf pd_27 rfl) rfl (by show 2 * 0 + _ ≤ _; exact Nat.le_of_eq rfl) (hb hby at_6) (fun _ _ => ⟨rfl, e22, (by decide : 1 + 0 ≤ _), (by decide : 2 + 0 ≤ _)⟩)
  dsimp only [Pt.U, Pt.locs, Pt.cells, Pt.slots] at X26 l26 y26 z26 st26 hQ26
  subst l26 y26 z26
  obtain ⟨rfl, N27, K28, p29, p30, p31⟩ := hQ26
  have N32 := Fr.app N0 N27
  have f33 : Exa Z T26.heap b22 "com/example/dropwire/dropwire/x11/XdndTarget" := A22.keep K28
  have Z34 : n0 ≤ T26.heap.size := Nat.le_trans Z23 K28.1
  refine own_goT st26 ?_
  refine own_go (S' := T26.setTop (mkF m 12 #[.val (.int p0), .val (.int p1), .val (.int p2), .val (.ref b22), .unset, .unset, .unset, .unset] [(.int p0), (.ref b22)])) (fun t k => ?_) ?_
  · show Steps p.tables e below (T26.setTop (mkF m 9 #[.val (.int p0), .val (.int p1), .val (.int p2), .unset, .unset, .unset, .unset, .unset] [(.ref b22)])) t
    refine XS.astoreN X26.here hx rfl (hb hby at_9) rfl rfl (l' := #[.val (.int p0), .val (.int p1), .val (.int p2), .val (.ref b22), .unset, .unset, .unset, .unset]) rfl ?_
    show Steps p.tables e below (T26.setTop (mkF m 10 #[.val (.int p0), .val (.int p1), .val (.int p2), .val (.ref b22), .unset, .unset, .unset, .unset] [])) t
    refine XS.aloadN X26.here hx rfl (hb hby at_10) rfl rfl ?_
    show Steps p.tables e below (T26.setTop (mkF m 11 #[.val (.int p0), .val (.int p1), .val (.int p2), .val (.ref b22), .unset, .unset, .unset, .unset] [(.ref b22)])) t
    refine XS.iloadN X26.here hx rfl (hb hby at_11) rfl ?_
    exact k
  obtain ⟨cq35, kq35, qa35, qb35, qc35⟩ := isOf hZ rfl p29
  obtain ⟨_, _, ⟨T35, L35, kk35, nn35⟩, -, X35, ⟨Lc35, hQ35, l35, y35, z35⟩, st35⟩ := X26.virtualBack hx (y := (⟨"com/example/dropwire/dropwire/x11/XdndTarget", "isGone", "(I)Z"⟩ : MethodName)) (z := (⟨"com/example/dropwire/dropwire/x11/XdndTarget", "isGone", "(I)Z"⟩ : MethodName)) hown (mvT hZ (hw _ (List.mem_of_getElem? (i := 18) rfl))) (mvT hZ (hw _ (List.mem_of_getElem? (i := 19) rfl))) (notFace_of_selects (args := #[]) (mvT hZ (hw _ (List.mem_of_getElem? (i := 21) rfl)))) (mvT hZ (hw _ (List.mem_of_getElem? (i := 21) rfl))) (mvT hZ (hw _ (List.mem_of_getElem? (i := 20) rfl))) (by decide) (backOf (W := 0) (rm4 l Z a0 hw [] b22 p0 p0 p1 T26.heap n0 Z34 p30 p31) hZ (hw _ (List.mem_of_getElem? (i := 22) rfl)) (hw _ (List.mem_of_getElem? (i := 2) rfl)) (by decide) (by decide)) qa35 qc35 (g := (mkF m 12 #[.val (.int p0), .val (.int p1), .val (.int p2), .val (.ref b22), .unset, .unset, .unset, .unset] [(.int p0), (.ref b22)])) rfl (by rw [hml]; rfl) (Steps.refl _) (argsL := [(.int p0)]) (rest := []) (lenOf pd_28 rfl) rfl (by show 2 * 0 + _ ≤ _; exact Nat.le_of_eq rfl) (hb hby at_12) (fun _ _ => ⟨rfl, rfl, (by decide : 1 + 0 ≤ _), (by decide : 2 + 0 ≤ _)⟩)
  dsimp only [Pt.U, Pt.locs, Pt.cells, Pt.slots] at X35 l35 y35 z35 st35 hQ35
  subst l35 y35 z35
  obtain ⟨rfl, N36, e35⟩ := hQ35
  have N38 := Fr.app N32 N36
  refine own_goT st35 ?_
  refine own_go (S' := T35.setTop (mkF m 19 #[.val (.int p0), .val (.int p1), .val (.int p2), .val (.ref b22), .val (.int (rm4_r p0 p0 p1)), .unset, .unset, .unset] [(.int p1), (.ref b22)])) (fun t k => ?_) ?_
  · show Steps p.tables e below (T35.setTop (mkF m 15 #[.val (.int p0), .val (.int p1), .val (.int p2), .val (.ref b22), .unset, .unset, .unset, .unset] [(.int (rm4_r p0 p0 p1))])) t
    refine XS.istore X35.here hx rfl (hb hby at_15) rfl (l' := #[.val (.int p0), .val (.int p1), .val (.int p2), .val (.ref b22), .val (.int (rm4_r p0 p0 p1)), .unset, .unset, .unset]) rfl ?_
    show Steps p.tables e below (T35.setTop (mkF m 17 #[.val (.int p0), .val (.int p1), .val (.int p2), .val (.ref b22), .val (.int (rm4_r p0 p0 p1)), .unset, .unset, .unset] [])) t
    refine XS.aloadN X35.here hx rfl (hb hby at_17) rfl rfl ?_
    show Steps p.tables e below (T35.setTop (mkF m 18 #[.val (.int p0), .val (.int p1), .val (.int p2), .val (.ref b22), .val (.int (rm4_r p0 p0 p1)), .unset, .unset, .unset] [(.ref b22)])) t
    refine XS.iloadN X35.here hx rfl (hb hby at_18) rfl ?_
    exact k
  obtain ⟨cq39, kq39, qa39, qb39, qc39⟩ := isOf hZ e35 p29
  obtain ⟨_, _, ⟨T39, L39, kk39, nn39⟩, -, X39, ⟨Lc39, hQ39, l39, y39, z39⟩, st39⟩ := X35.virtualBack hx (y := (⟨"com/example/dropwire/dropwire/x11/XdndTarget", "isGone", "(I)Z"⟩ : MethodName)) (z := (⟨"com/example/dropwire/dropwire/x11/XdndTarget", "isGone", "(I)Z"⟩ : MethodName)) hown (mvT hZ (hw _ (List.mem_of_getElem? (i := 18) rfl))) (mvT hZ (hw _ (List.mem_of_getElem? (i := 19) rfl))) (notFace_of_selects (args := #[]) (mvT hZ (hw _ (List.mem_of_getElem? (i := 21) rfl)))) (mvT hZ (hw _ (List.mem_of_getElem? (i := 21) rfl))) (mvT hZ (hw _ (List.mem_of_getElem? (i := 20) rfl))) (by decide) (backOf (W := 0) (rm4 l Z a0 hw [] b22 p1 p0 p1 T26.heap n0 Z34 p30 p31) hZ (hw _ (List.mem_of_getElem? (i := 22) rfl)) (hw _ (List.mem_of_getElem? (i := 2) rfl)) (by decide) (by decide)) qa39 qc39 (g := (mkF m 19 #[.val (.int p0), .val (.int p1), .val (.int p2), .val (.ref b22), .val (.int (rm4_r p0 p0 p1)), .unset, .unset, .unset] [(.int p1), (.ref b22)])) rfl (by rw [hml]; rfl) (Steps.refl _) (argsL := [(.int p1)]) (rest := []) (lenOf pd_28 rfl) rfl (by show 2 * 0 + _ ≤ _; exact Nat.le_of_eq rfl) (hb hby at_19) (fun _ _ => ⟨rfl, e35, (by decide : 1 + 0 ≤ _), (by decide : 2 + 0 ≤ _)⟩)
  dsimp only [Pt.U, Pt.locs, Pt.cells, Pt.slots] at X39 l39 y39 z39 st39 hQ39
  subst l39 y39 z39
  obtain ⟨rfl, N40, e39⟩ := hQ39
  have N42 := Fr.app N38 N40
  refine own_goT st39 ?_
  refine own_go (S' := T39.setTop (mkF m 26 #[.val (.int p0), .val (.int p1), .val (.int p2), .val (.ref b22), .val (.int (rm4_r p0 p0 p1)), .val (.int (rm4_r p1 p0 p1)), .unset, .unset] [(.int p2), (.ref b22)])) (fun t k => ?_) ?_
  · show Steps p.tables e below (T39.setTop (mkF m 22 #[.val (.int p0), .val (.int p1), .val (.int p2), .val (.ref b22), .val (.int (rm4_r p0 p0 p1)), .unset, .unset, .unset] [(.int (rm4_r p1 p0 p1))])) t
    refine XS.istore X39.here hx rfl (hb hby at_22) rfl (l' := #[.val (.int p0), .val (.int p1), .val (.int p2), .val (.ref b22), .val (.int (rm4_r p0 p0 p1)), .val (.int (rm4_r p1 p0 p1)), .unset, .unset]) rfl ?_
    show Steps p.tables e below (T39.setTop (mkF m 24 #[.val (.int p0), .val (.int p1), .val (.int p2), .val (.ref b22), .val (.int (rm4_r p0 p0 p1)), .val (.int (rm4_r p1 p0 p1)), .unset, .unset] [])) t
    refine XS.aloadN X39.here hx rfl (hb hby at_24) rfl rfl ?_
    show Steps p.tables e below (T39.setTop (mkF m 25 #[.val (.int p0), .val (.int p1), .val (.int p2), .val (.ref b22), .val (.int (rm4_r p0 p0 p1)), .val (.int (rm4_r p1 p0 p1)), .unset, .unset] [(.ref b22)])) t
    refine XS.iloadN X39.here hx rfl (hb hby at_25) rfl ?_
    exact k
  obtain ⟨cq43, kq43, qa43, qb43, qc43⟩ := isOf hZ e39 p29
  obtain ⟨_, _, ⟨T43, L43, kk43, nn43⟩, -, X43, ⟨Lc43, hQ43, l43, y43, z43⟩, st43⟩ := X39.virtualBack hx (y := (⟨"com/example/dropwire/dropwire/x11/XdndTarget", "isGone", "(I)Z"⟩ : MethodName)) (z := (⟨"com/example/dropwire/dropwire/x11/XdndTarget", "isGone", "(I)Z"⟩ : MethodName)) hown (mvT hZ (hw _ (List.mem_of_getElem? (i := 18) rfl))) (mvT hZ (hw _ (List.mem_of_getElem? (i := 19) rfl))) (notFace_of_selects (args := #[]) (mvT hZ (hw _ (List.mem_of_getElem? (i := 21) rfl)))) (mvT hZ (hw _ (List.mem_of_getElem? (i := 21) rfl))) (mvT hZ (hw _ (List.mem_of_getElem? (i := 20) rfl))) (by decide) (backOf (W := 0) (rm4 l Z a0 hw [] b22 p2 p0 p1 T26.heap n0 Z34 p30 p31) hZ (hw _ (List.mem_of_getElem? (i := 22) rfl)) (hw _ (List.mem_of_getElem? (i := 2) rfl)) (by decide) (by decide)) qa43 qc43 (g := (mkF m 26 #[.val (.int p0), .val (.int p1), .val (.int p2), .val (.ref b22), .val (.int (rm4_r p0 p0 p1)), .val (.int (rm4_r p1 p0 p1)), .unset, .unset] [(.int p2), (.ref b22)])) rfl (by rw [hml]; rfl) (Steps.refl _) (argsL := [(.int p2)]) (rest := []) (lenOf pd_28 rfl) rfl (by show 2 * 0 + _ ≤ _; exact Nat.le_of_eq rfl) (hb hby at_26) (fun _ _ => ⟨rfl, e39, (by decide : 1 + 0 ≤ _), (by decide : 2 + 0 ≤ _)⟩)
  dsimp only [Pt.U, Pt.locs, Pt.cells, Pt.slots] at X43 l43 y43 z43 st43 hQ43
  subst l43 y43 z43
  obtain ⟨rfl, N44, e43⟩ := hQ43
  have N46 := Fr.app N42 N44
  refine own_goT st43 ?_
  refine own_go (S' := T43.setTop (mkF m 33 #[.val (.int p0), .val (.int p1), .val (.int p2), .val (.ref b22), .val (.int (rm4_r p0 p0 p1)), .val (.int (rm4_r p1 p0 p1)), .val (.int (rm4_r p2 p0 p1)), .unset] [(.int p0), (.int p2)])) (fun t k => ?_) ?_
  · show Steps p.tables e below (T43.setTop (mkF m 29 #[.val (.int p0), .val (.int p1), .val (.int p2), .val (.ref b22), .val (.int (rm4_r p0 p0 p1)), .val (.int (rm4_r p1 p0 p1)), .unset, .unset] [(.int (rm4_r p2 p0 p1))])) t
    refine XS.istore X43.here hx rfl (hb hby at_29) rfl (l' := #[.val (.int p0), .val (.int p1), .val (.int p2), .val (.ref b22), .val (.int (rm4_r p0 p0 p1)), .val (.int (rm4_r p1 p0 p1)), .val (.int (rm4_r p2 p0 p1)), .unset]) rfl ?_
    show Steps p.tables e below (T43.setTop (mkF m 31 #[.val (.int p0), .val (.int p1), .val (.int p2), .val (.ref b22), .val (.int (rm4_r p0 p0 p1)), .val (.int (rm4_r p1 p0 p1)), .val (.int (rm4_r p2 p0 p1)), .unset] [])) t
    refine XS.iloadN X43.here hx rfl (hb hby at_31) rfl ?_
    show Steps p.tables e below (T43.setTop (mkF m 32 #[.val (.int p0), .val (.int p1), .val (.int p2), .val (.ref b22), .val (.int (rm4_r p0 p0 p1)), .val (.int (rm4_r p1 p0 p1)), .val (.int (rm4_r p2 p0 p1)), .unset] [(.int p2)])) t
    refine XS.iloadN X43.here hx rfl (hb hby at_32) rfl ?_
    exact k
  refine own_go (S' := T43.setTop (mkF m 56 #[.val (.int p0), .val (.int p1), .val (.int p2), .val (.ref b22), .val (.int (rm4_r p0 p0 p1)), .val (.int (rm4_r p1 p0 p1)), .val (.int (rm4_r p2 p0 p1)), .val (.int (if p2 = p0 then (1 : Int32) else (if p2 = p1 then (1 : Int32) else (0 : Int32))))] [])) (fun t k => ?_) ?_
  · show Steps p.tables e below (T43.setTop (mkF m 33 #[.val (.int p0), .val (.int p1), .val (.int p2), .val (.ref b22), .val (.int (rm4_r p0 p0 p1)), .val (.int (rm4_r p1 p0 p1)), .val (.int (rm4_r p2 p0 p1)), .unset] [(.int p0), (.int p2)])) t
    by_cases hc33 : p2 = p0
    · show Steps p.tables e below (T43.setTop (mkF m 33 #[.val (.int p0), .val (.int p1), .val (.int p2), .val (.ref b22), .val (.int (rm4_r p0 p0 p1)), .val (.int (rm4_r p1 p0 p1)), .val (.int (rm4_r p2 p0 p1)), .unset] [(.int p0), (.int p2)])) t
      refine XS.icmpNo X43.here hx rfl (hb hby at_33) rfl (teq hc33).2 ?_
      show Steps p.tables e below (T43.setTop (mkF m 36 #[.val (.int p0), .val (.int p1), .val (.int p2), .val (.ref b22), .val (.int (rm4_r p0 p0 p1)), .val (.int (rm4_r p1 p0 p1)), .val (.int (rm4_r p2 p0 p1)), .unset] [])) t
      refine XS.iconst X43.here hx rfl (hb hby at_36) ?_
      show Steps p.tables e below (T43.setTop (mkF m 37 #[.val (.int p0), .val (.int p1), .val (.int p2), .val (.ref b22), .val (.int (rm4_r p0 p0 p1)), .val (.int (rm4_r p1 p0 p1)), .val (.int (rm4_r p2 p0 p1)), .unset] [(.int (1 : Int32))])) t
      refine XS.istore X43.here hx rfl (hb hby at_37) rfl (l' := #[.val (.int p0), .val (.int p1), .val (.int p2), .val (.ref b22), .val (.int (rm4_r p0 p0 p1)), .val (.int (rm4_r p1 p0 p1)), .val (.int (rm4_r p2 p0 p1)), .val (.int (1 : Int32))]) rfl ?_
      show Steps p.tables e below (T43.setTop (mkF m 39 #[.val (.int p0), .val (.int p1), .val (.int p2), .val (.ref b22), .val (.int (rm4_r p0 p0 p1)), .val (.int (rm4_r p1 p0 p1)), .val (.int (rm4_r p2 p0 p1)), .val (.int (1 : Int32))] [])) t
      refine XS.goto X43.here hx rfl (pc0 := 39) (pc' := 56) rfl (hb hby at_39) (by decide) (by decide) ?_
      first | exact k | (simp only [if_pos hc33] at k ⊢; exact k)
    · show Steps p.tables e below (T43.setTop (mkF m 33 #[.val (.int p0), .val (.int p1), .val (.int p2), .val (.ref b22), .val (.int (rm4_r p0 p0 p1)), .val (.int (rm4_r p1 p0 p1)), .val (.int (rm4_r p2 p0 p1)), .unset] [(.int p0), (.int p2)])) t
      refine XS.icmpYes X43.here hx rfl (pc0 := 33) (pc' := 42) rfl (hb hby at_33) rfl (feq hc33).2 (by decide) (by decide) ?_
      show Steps p.tables e below (T43.setTop (mkF m 42 #[.val (.int p0), .val (.int p1), .val (.int p2), .val (.ref b22), .val (.int (rm4_r p0 p0 p1)), .val (.int (rm4_r p1 p0 p1)), .val (.int (rm4_r p2 p0 p1)), .unset] [])) t
      refine XS.iloadN X43.here hx rfl (hb hby at_42) rfl ?_
      show Steps p.tables e below (T43.setTop (mkF m 43 #[.val (.int p0), .val (.int p1), .val (.int p2), .val (.ref b22), .val (.int (rm4_r p0 p0 p1)), .val (.int (rm4_r p1 p0 p1)), .val (.int (rm4_r p2 p0 p1)), .unset] [(.int p2)])) t
      refine XS.iloadN X43.here hx rfl (hb hby at_43) rfl ?_
      by_cases hc44 : p2 = p1
      · show Steps p.tables e below (T43.setTop (mkF m 44 #[.val (.int p0), .val (.int p1), .val (.int p2), .val (.ref b22), .val (.int (rm4_r p0 p0 p1)), .val (.int (rm4_r p1 p0 p1)), .val (.int (rm4_r p2 p0 p1)), .unset] [(.int p1), (.int p2)])) t
        refine XS.icmpNo X43.here hx rfl (hb hby at_44) rfl (teq hc44).2 ?_
        show Steps p.tables e below (T43.setTop (mkF m 47 #[.val (.int p0), .val (.int p1), .val (.int p2), .val (.ref b22), .val (.int (rm4_r p0 p0 p1)), .val (.int (rm4_r p1 p0 p1)), .val (.int (rm4_r p2 p0 p1)), .unset] [])) t
        refine XS.iconst X43.here hx rfl (hb hby at_47) ?_
        show Steps p.tables e below (T43.setTop (mkF m 48 #[.val (.int p0), .val (.int p1), .val (.int p2), .val (.ref b22), .val (.int (rm4_r p0 p0 p1)), .val (.int (rm4_r p1 p0 p1)), .val (.int (rm4_r p2 p0 p1)), .unset] [(.int (1 : Int32))])) t
        refine XS.istore X43.here hx rfl (hb hby at_48) rfl (l' := #[.val (.int p0), .val (.int p1), .val (.int p2), .val (.ref b22), .val (.int (rm4_r p0 p0 p1)), .val (.int (rm4_r p1 p0 p1)), .val (.int (rm4_r p2 p0 p1)), .val (.int (1 : Int32))]) rfl ?_
        show Steps p.tables e below (T43.setTop (mkF m 50 #[.val (.int p0), .val (.int p1), .val (.int p2), .val (.ref b22), .val (.int (rm4_r p0 p0 p1)), .val (.int (rm4_r p1 p0 p1)), .val (.int (rm4_r p2 p0 p1)), .val (.int (1 : Int32))] [])) t
        refine XS.goto X43.here hx rfl (pc0 := 50) (pc' := 56) rfl (hb hby at_50) (by decide) (by decide) ?_
        first | exact k | (simp only [if_neg hc33, if_pos hc44] at k ⊢; exact k)
      · show Steps p.tables e below (T43.setTop (mkF m 44 #[.val (.int p0), .val (.int p1), .val (.int p2), .val (.ref b22), .val (.int (rm4_r p0 p0 p1)), .val (.int (rm4_r p1 p0 p1)), .val (.int (rm4_r p2 p0 p1)), .unset] [(.int p1), (.int p2)])) t
        refine XS.icmpYes X43.here hx rfl (pc0 := 44) (pc' := 53) rfl (hb hby at_44) rfl (feq hc44).2 (by decide) (by decide) ?_
        show Steps p.tables e below (T43.setTop (mkF m 53 #[.val (.int p0), .val (.int p1), .val (.int p2), .val (.ref b22), .val (.int (rm4_r p0 p0 p1)), .val (.int (rm4_r p1 p0 p1)), .val (.int (rm4_r p2 p0 p1)), .unset] [])) t
        refine XS.iconst X43.here hx rfl (hb hby at_53) ?_
        show Steps p.tables e below (T43.setTop (mkF m 54 #[.val (.int p0), .val (.int p1), .val (.int p2), .val (.ref b22), .val (.int (rm4_r p0 p0 p1)), .val (.int (rm4_r p1 p0 p1)), .val (.int (rm4_r p2 p0 p1)), .unset] [(.int (0 : Int32))])) t
        refine XS.istore X43.here hx rfl (hb hby at_54) rfl (l' := #[.val (.int p0), .val (.int p1), .val (.int p2), .val (.ref b22), .val (.int (rm4_r p0 p0 p1)), .val (.int (rm4_r p1 p0 p1)), .val (.int (rm4_r p2 p0 p1)), .val (.int (0 : Int32))]) rfl ?_
        first | exact k | (simp only [if_neg hc33, if_neg hc44] at k ⊢; exact k)
  refine own_go (S' := T43.setTop (mkF m 58 #[.val (.int p0), .val (.int p1), .val (.int p2), .val (.ref b22), .val (.int (rm4_r p0 p0 p1)), .val (.int (rm4_r p1 p0 p1)), .val (.int (rm4_r p2 p0 p1)), .val (.int (if p2 = p0 then (1 : Int32) else (if p2 = p1 then (1 : Int32) else (0 : Int32))))] [(.int (rm4_r p0 p0 p1))])) (fun t k => ?_) ?_
  · show Steps p.tables e below (T43.setTop (mkF m 56 #[.val (.int p0), .val (.int p1), .val (.int p2), .val (.ref b22), .val (.int (rm4_r p0 p0 p1)), .val (.int (rm4_r p1 p0 p1)), .val (.int (rm4_r p2 p0 p1)), .val (.int (if p2 = p0 then (1 : Int32) else (if p2 = p1 then (1 : Int32) else (0 : Int32))))] [])) t
    refine XS.iload X43.here hx rfl (hb hby at_56) rfl ?_
    exact k
  refine own_go (S' := T43.setTop (mkF m 78 #[.val (.int p0), .val (.int p1), .val (.int p2), .val (.ref b22), .val (.int (rm4_r p0 p0 p1)), .val (.int (rm4_r p1 p0 p1)), .val (.int (rm4_r p2 p0 p1)), .val (.int (if p2 = p0 then (1 : Int32) else (if p2 = p1 then (1 : Int32) else (0 : Int32))))] [(.int (if (rm4_r p0 p0 p1) = (0 : Int32) then (0 : Int32) else (if (rm4_r p1 p0 p1) = (0 : Int32) then (0 : Int32) else (if (rm4_r p2 p0 p1) = (if p2 = p0 then (1 : Int32) else (if p2 = p1 then (1 : Int32) else (0 : Int32))) then (1 : Int32) else (0 : Int32)))))])) (fun t k => ?_) ?_
  · show Steps p.tables e below (T43.setTop (mkF m 58 #[.val (.int p0), .val (.int p1), .val (.int p2), .val (.ref b22), .val (.int (rm4_r p0 p0 p1)), .val (.int (rm4_r p1 p0 p1)), .val (.int (rm4_r p2 p0 p1)), .val (.int (if p2 = p0 then (1 : Int32) else (if p2 = p1 then (1 : Int32) else (0 : Int32))))] [(.int (rm4_r p0 p0 p1))])) t
    by_cases hc58 : (rm4_r p0 p0 p1) = (0 : Int32)
    · show Steps p.tables e below (T43.setTop (mkF m 58 #[.val (.int p0), .val (.int p1), .val (.int p2), .val (.ref b22), .val (.int (rm4_r p0 p0 p1)), .val (.int (rm4_r p1 p0 p1)), .val (.int (rm4_r p2 p0 p1)), .val (.int (if p2 = p0 then (1 : Int32) else (if p2 = p1 then (1 : Int32) else (0 : Int32))))] [(.int (rm4_r p0 p0 p1))])) t
      refine XS.ifYes X43.here hx rfl (pc0 := 58) (pc' := 77) rfl (hb hby at_58) rfl ((if0 _ _).trans (teq hc58).1) (by decide) (by decide) ?_
      show Steps p.tables e below (T43.setTop (mkF m 77 #[.val (.int p0), .val (.int p1), .val (.int p2), .val (.ref b22), .val (.int (rm4_r p0 p0 p1)), .val (.int (rm4_r p1 p0 p1)), .val (.int (rm4_r p2 p0 p1)), .val (.int (if p2 = p0 then (1 : Int32) else (if p2 = p1 then (1 : Int32) else (0 : Int32))))] [])) t
      refine XS.iconst X43.here hx rfl (hb hby at_77) ?_
      first | exact k | (simp only [if_pos hc58] at k ⊢; exact k)
    · show Steps p.tables e below (T43.setTop (mkF m 58 #[.val (.int p0), .val (.int p1), .val (.int p2), .val (.ref b22), .val (.int (rm4_r p0 p0 p1)), .val (.int (rm4_r p1 p0 p1)), .val (.int (rm4_r p2 p0 p1)), .val (.int (if p2 = p0 then (1 : Int32) else (if p2 = p1 then (1 : Int32) else (0 : Int32))))] [(.int (rm4_r p0 p0 p1))])) t
      refine XS.ifNo X43.here hx rfl (hb hby at_58) rfl ((if0 _ _).trans (feq hc58).1) ?_
      show Steps p.tables e below (T43.setTop (mkF m 61 #[.val (.int p0), .val (.int p1), .val (.int p2), .val (.ref b22), .val (.int (rm4_r p0 p0 p1)), .val (.int (rm4_r p1 p0 p1)), .val (.int (rm4_r p2 p0 p1)), .val (.int (if p2 = p0 then (1 : Int32) else (if p2 = p1 then (1 : Int32) else (0 : Int32))))] [])) t
      refine XS.iload X43.here hx rfl (hb hby at_61) rfl ?_
      by_cases hc63 : (rm4_r p1 p0 p1) = (0 : Int32)
      · show Steps p.tables e below (T43.setTop (mkF m 63 #[.val (.int p0), .val (.int p1), .val (.int p2), .val (.ref b22), .val (.int (rm4_r p0 p0 p1)), .val (.int (rm4_r p1 p0 p1)), .val (.int (rm4_r p2 p0 p1)), .val (.int (if p2 = p0 then (1 : Int32) else (if p2 = p1 then (1 : Int32) else (0 : Int32))))] [(.int (rm4_r p1 p0 p1))])) t
        refine XS.ifYes X43.here hx rfl (pc0 := 63) (pc' := 77) rfl (hb hby at_63) rfl ((if0 _ _).trans (teq hc63).1) (by decide) (by decide) ?_
        show Steps p.tables e below (T43.setTop (mkF m 77 #[.val (.int p0), .val (.int p1), .val (.int p2), .val (.ref b22), .val (.int (rm4_r p0 p0 p1)), .val (.int (rm4_r p1 p0 p1)), .val (.int (rm4_r p2 p0 p1)), .val (.int (if p2 = p0 then (1 : Int32) else (if p2 = p1 then (1 : Int32) else (0 : Int32))))] [])) t
        refine XS.iconst X43.here hx rfl (hb hby at_77) ?_
        first | exact k | (simp only [if_neg hc58, if_pos hc63] at k ⊢; exact k)
      · show Steps p.tables e below (T43.setTop (mkF m 63 #[.val (.int p0), .val (.int p1), .val (.int p2), .val (.ref b22), .val (.int (rm4_r p0 p0 p1)), .val (.int (rm4_r p1 p0 p1)), .val (.int (rm4_r p2 p0 p1)), .val (.int (if p2 = p0 then (1 : Int32) else (if p2 = p1 then (1 : Int32) else (0 : Int32))))] [(.int (rm4_r p1 p0 p1))])) t
        refine XS.ifNo X43.here hx rfl (hb hby at_63) rfl ((if0 _ _).trans (feq hc63).1) ?_
        show Steps p.tables e below (T43.setTop (mkF m 66 #[.val (.int p0), .val (.int p1), .val (.int p2), .val (.ref b22), .val (.int (rm4_r p0 p0 p1)), .val (.int (rm4_r p1 p0 p1)), .val (.int (rm4_r p2 p0 p1)), .val (.int (if p2 = p0 then (1 : Int32) else (if p2 = p1 then (1 : Int32) else (0 : Int32))))] [])) t
        refine XS.iload X43.here hx rfl (hb hby at_66) rfl ?_
        show Steps p.tables e below (T43.setTop (mkF m 68 #[.val (.int p0), .val (.int p1), .val (.int p2), .val (.ref b22), .val (.int (rm4_r p0 p0 p1)), .val (.int (rm4_r p1 p0 p1)), .val (.int (rm4_r p2 p0 p1)), .val (.int (if p2 = p0 then (1 : Int32) else (if p2 = p1 then (1 : Int32) else (0 : Int32))))] [(.int (rm4_r p2 p0 p1))])) t
        refine XS.iload X43.here hx rfl (hb hby at_68) rfl ?_
        by_cases hc70 : (rm4_r p2 p0 p1) = (if p2 = p0 then (1 : Int32) else (if p2 = p1 then (1 : Int32) else (0 : Int32)))
        · show Steps p.tables e below (T43.setTop (mkF m 70 #[.val (.int p0), .val (.int p1), .val (.int p2), .val (.ref b22), .val (.int (rm4_r p0 p0 p1)), .val (.int (rm4_r p1 p0 p1)), .val (.int (rm4_r p2 p0 p1)), .val (.int (if p2 = p0 then (1 : Int32) else (if p2 = p1 then (1 : Int32) else (0 : Int32))))] [(.int (if p2 = p0 then (1 : Int32) else (if p2 = p1 then (1 : Int32) else (0 : Int32)))), (.int (rm4_r p2 p0 p1))])) t
          refine XS.icmpNo X43.here hx rfl (hb hby at_70) rfl (teq hc70).2 ?_
          show Steps p.tables e below (T43.setTop (mkF m 73 #[.val (.int p0), .val (.int p1), .val (.int p2), .val (.ref b22), .val (.int (rm4_r p0 p0 p1)), .val (.int (rm4_r p1 p0 p1)), .val (.int (rm4_r p2 p0 p1)), .val (.int (if p2 = p0 then (1 : Int32) else (if p2 = p1 then (1 : Int32) else (0 : Int32))))] [])) t
          refine XS.iconst X43.here hx rfl (hb hby at_73) ?_
          show Steps p.tables e below (T43.setTop (mkF m 74 #[.val (.int p0), .val (.int p1), .val (.int p2), .val (.ref b22), .val (.int (rm4_r p0 p0 p1)), .val (.int (rm4_r p1 p0 p1)), .val (.int (rm4_r p2 p0 p1)), .val (.int (if p2 = p0 then (1 : Int32) else (if p2 = p1 then (1 : Int32) else (0 : Int32))))] [(.int (1 : Int32))])) t
          refine XS.goto X43.here hx rfl (pc0 := 74) (pc' := 78) rfl (hb hby at_74) (by decide) (by decide) ?_
          first | exact k | (simp only [if_neg hc58, if_neg hc63, if_pos hc70] at k ⊢; exact k)
        · show Steps p.tables e below (T43.setTop (mkF m 70 #[.val (.int p0), .val (.int p1), .val (.int p2), .val (.ref b22), .val (.int (rm4_r p0 p0 p1)), .val (.int (rm4_r p1 p0 p1)), .val (.int (rm4_r p2 p0 p1)), .val (.int (if p2 = p0 then (1 : Int32) else (if p2 = p1 then (1 : Int32) else (0 : Int32))))] [(.int (if p2 = p0 then (1 : Int32) else (if p2 = p1 then (1 : Int32) else (0 : Int32)))), (.int (rm4_r p2 p0 p1))])) t
          refine XS.icmpYes X43.here hx rfl (pc0 := 70) (pc' := 77) rfl (hb hby at_70) rfl (feq hc70).2 (by decide) (by decide) ?_
          show Steps p.tables e below (T43.setTop (mkF m 77 #[.val (.int p0), .val (.int p1), .val (.int p2), .val (.ref b22), .val (.int (rm4_r p0 p0 p1)), .val (.int (rm4_r p1 p0 p1)), .val (.int (rm4_r p2 p0 p1)), .val (.int (if p2 = p0 then (1 : Int32) else (if p2 = p1 then (1 : Int32) else (0 : Int32))))] [])) t
          refine XS.iconst X43.here hx rfl (hb hby at_77) ?_
          first | exact k | (simp only [if_neg hc58, if_neg hc63, if_neg hc70] at k ⊢; exact k)
  have hfin : (if (rm4_r p0 p0 p1) = (0 : Int32) then (0 : Int32) else (if (rm4_r p1 p0 p1) = (0 : Int32) then (0 : Int32) else (if (rm4_r p2 p0 p1) = (if p2 = p0 then (1 : Int32) else (if p2 = p1 then (1 : Int32) else (0 : Int32))) then (1 : Int32) else (0 : Int32)))) = (1 : Int32) := by by_cases h1 : p2 = p0 <;> by_cases h2 : p2 = p1 <;> simp [rm4_r, h1, h2]
  rw [hfin]
  obtain ⟨fs, hr, hrun, hended, hW, hsame⟩ := X43.leave (v := some (.int (1 : Int32))) (fun h => by rw [Bd.returns] at h; cases h)
  refine own_end (v := some (.int (1 : Int32))) ?_ hrun hended ?_ hW (hsame.mono (by decide) (by decide))
  · show Steps p.tables e below (T43.setTop (mkF m 78 #[.val (.int p0), .val (.int p1), .val (.int p2), .val (.ref b22), .val (.int (rm4_r p0 p0 p1)), .val (.int (rm4_r p1 p0 p1)), .val (.int (rm4_r p2 p0 p1)), .val (.int (if p2 = p0 then (1 : Int32) else (if p2 = p1 then (1 : Int32) else (0 : Int32))))] [(.int (1 : Int32))])) _
    exact retN X43 hx (t := .boolean) Bd.returns (by simp) (hb hby at_78) hr
  · show Qrm0 Z p0 p1 p2 h0 n0 _ T43.heap _
    rw [e43]
    exact ⟨rfl, N46⟩
set_option maxRecDepth 65536 in
set_option maxHeartbeats 40000000 in
theorem comes_1 {Post : Tables → Env → Array Value → State → Outcome → State → Prop} (hpost : ∀ tb e args s v u, (limb_1_1.after args s (.returned v) u = true ∧ limb_1_2.after args s (.returned v) u = true ∧ True) → FrameEnd s (.returned v) u (Jvm.fieldLocs frame_1_writes args s ++ Jvm.arrayLocs frame_1_arrays args s ++ Jvm.staticLocs frame_1_statics s) 16 128 → Post tb e args s (.returned v) u) :
    ArmFor flags0 classFile x code maxLocals ret World_1 tables_1 room_1 Calls_1 rest_1 Pre_1 Post := by
  intro l hfl _ _ p e ha hc hk s m args below hf hA hF happ hP
  obtain ⟨hcalls, hrest, hpre⟩ := hP
  obtain ⟨-, -, -, hnamed, -, -, -, hat⟩ := (Spec.applies_iff hf).mp happ
  obtain ⟨hg, hn⟩ := and_e (Cond.before_iff.mp (show (Jvm.Cond.and given_1 narrow_1).before args s = true from hpre))
  obtain ⟨g47, g48⟩ := and_e hg
  obtain ⟨g49, g50⟩ := and_e g48
  obtain ⟨g51, g52⟩ := and_e g50
  obtain ⟨w0, w1, w2, rfl⟩ : ∃ w0 w1 w2 : Value, args = #[w0, w1, w2] := by
    have hs : args.size = 3 := by simpa [Cond.value, given_1] using g47
    obtain ⟨L⟩ := args
    match L, hs with
    | [w0, w1, w2], _ => exact ⟨w0, w1, w2, rfl⟩
  have hw := fun d (hd : d ∈ tables_1) => atoms_spec (ws := Jvm.Cond.code x code maxLocals ret :: tables_1) hat d (List.mem_cons_of_mem _ hd)
  have hfit : Fit s := fun {y c} hc i hi => by
    obtain ⟨ha, rfl⟩ := Array.getElem?_eq_some_iff.mp hc
    have q := List.all_eq_true.mp ((Array.all_eq_true_iff_forall_mem.mp hF) _ (Array.getElem_mem ha)) i (List.mem_range.mpr hi)
    simpa [Array.getElem?_eq_getElem hi] using q
  obtain ⟨i0, ei0⟩ := is_v g49
  obtain rfl : w0 = (.int i0) := Option.some.inj ei0
  obtain ⟨i1, ei1⟩ := is_v g51
  obtain rfl : w1 = (.int i1) := Option.some.inj ei1
  obtain ⟨i2, ei2⟩ := is_v g52
  obtain rfl : w2 = (.int i2) := Option.some.inj ei2
  obtain ⟨n, o, h1, h2, h3, _, L, rfl, ⟨rfl, N⟩, hq⟩ := rm0 l s _ hw tables_1 i0 i1 i2 s.heap s.heap.size (Nat.le_refl _)  p e ha hc hk s m _ below hf ((Spec.applies_iff_loose hf).mp happ).1 ⟨rfl, State.Warmed39.refl s, rfl⟩ trivial
  refine ⟨n, _, h1, h2, h3, hpost _ _ _ _ _ _ ⟨Cond.after_iff.mpr rfl, Cond.after_iff.mpr (eq_i res_at (Term.int_eval (1)) rfl), trivial⟩ ⟨hq.1, hq.2.1, (hq.2.2.sift fun y hy => Or.inr (N y hy)).mono (by decide) (by decide)⟩⟩
theorem main_1_1 : Claimed_1_1 := comes_1 fun _ _ _ _ _ _ h hF => ⟨h.1, hF⟩
theorem main_1_2 : Claimed_1_2 := comes_1 fun _ _ _ _ _ _ h hF => ⟨h.2.1, hF⟩
end Jvm.Pilot.@@N@@
namespace Jvm.Pilot.@@N@@
open Jvm Jvm.ClassFile Sem Op Lib Jvm.Free Jvm.Stand Jvm.Pilot.@@N@@.Jvm.D
/-! MADE BY PROGRAM (witnessworld.py) out of the Statement's table words and the real class files: 10 classes; the members and pool entries that the words name. The judged class is class 1, her method 1. -/
namespace start1
open Jvm.ClassFile
def u (s : String) : CpInfo := .utf8 (stringToUtf16 s)
/-- a pool by its gaps: so many unusable entries, then the entry; so many at the end -/
def gap : Nat → List CpInfo → List CpInfo
  | 0, r => r
  | n + 1, r => .unusable :: gap n r
def poolList (es : List (Nat × CpInfo)) (last : Nat) : List CpInfo := es.foldr (fun e r => gap e.1 (e.2 :: r)) (gap last [])
def pool (es : List (Nat × CpInfo)) (last : Nat) : Array CpInfo := ⟨poolList es last⟩
def fileOf (pool : Array CpInfo) (this : Nat) (attrs : Array Attribute := #[]) (ms : Array MethodInfo := #[]) (fl : Nat := 33) (sup : Nat := 0) (ifs : Array Nat := #[]) (fds : Array FieldInfo := #[]) : ClassFile where
  minorVersion := 0
  majorVersion := 65
  constantPool := pool
  accessFlags := fl
  thisClass := this
  superClass := sup
  interfaces := ifs
  fields := fds
  methods := ms
  attributes := attrs
def plain (name : String) (sup : Option ClassId) : Class where
  name := name
  kind := .ordinary
  loader := none
  accessFlags := 33
  super := sup
  interfaces := #[]
  cf := none
  fields := #[]
  methods := #[]
  instanceTypes := #[]
  staticTypes := #[]
  resolved := #[]
  callSites := []
  init := .initialized
  statics := none
  mirror := none

def pool0 : Array CpInfo := pool [(5, u "<init>"), (0, u "()V"), (1, .class_ 10), (1, u "java/lang/Object")] 113

def k0c0 : Code := { maxStack := 0, maxLocals := 1, code := object_method_1_code, exceptionTable := #[], attributes := #[] }
def k0m0 : Method := { name := "<init>", desc := "()V", sig := { parameters := [], returnType := none }, accessFlags := 1, code := some k0c0 }
/-- java/lang/Object -/
def k0 : Class := { plain "java/lang/Object" none with
  accessFlags := 33
  interfaces := #[]
  cf := some (fileOf pool0 8 #[] #[{ accessFlags := 1, nameIndex := 5, descriptorIndex := 6, attributes := #[] }] 33 0 #[] #[])
  fields := #[]
  methods := #[k0m0]
  instanceTypes := #[]
  staticTypes := #[]
  resolved := Array.replicate 124 none
  statics := none }

def pool1 : Array CpInfo := pool [(2, .class_ 4), (1, u "java/lang/Object"), (0, u "<init>"), (0, u "()V"), (0, .class_ 8), (0, u "com/example/dropwire/dropwire/x11/XdndTarget"), (0, .methodref 7 10), (0, .nameAndType 5 11), (0, u "(II)V"), (0, .methodref 7 13), (0, .nameAndType 14 15), (0, u "isGone"), (0, u "(I)Z"), (0, .class_ 17), (0, u "com/example/dropwire/dropwire/x11/XdndTargetIsGonePinLaw"), (2, u "law"), (0, u "(III)Z")] 3

def k1m0 : Method := { name := "<init>", desc := "()V", sig := { parameters := [], returnType := none }, accessFlags := 2, code := none }
def k1c1 : Code := { maxStack := 4, maxLocals := 8, code := code, exceptionTable := #[], attributes := #[] }
def k1m1 : Method := { name := "law", desc := "(III)Z", sig := { parameters := [.int, .int, .int], returnType := some .boolean }, accessFlags := 9, code := some k1c1 }
/-- com/example/dropwire/dropwire/x11/XdndTargetIsGonePinLaw -/
def k1 : Class := { plain "com/example/dropwire/dropwire/x11/XdndTargetIsGonePinLaw" (some 0) with
  accessFlags := 49
  interfaces := #[]
  cf := some (fileOf pool1 16 #[] #[{ accessFlags := 2, nameIndex := 5, descriptorIndex := 6, attributes := #[] }, { accessFlags := 9, nameIndex := 20, descriptorIndex := 21, attributes := #[] }] 49 2 #[] #[])
  fields := #[]
  methods := #[k1m0, k1m1]
  instanceTypes := #[]
  staticTypes := #[]
  resolved := Array.replicate 25 none
  statics := none }

def pool2 : Array CpInfo := pool [(1, .methodref 2 3), (0, .class_ 4), (0, .nameAndType 5 6), (0, u "java/lang/Object"), (0, u "<init>"), (0, u "()V"), (0, .class_ 8), (0, u "java/lang/Record")] 13

def k2c0 : Code := { maxStack := 1, maxLocals := 1, code := jdk_30_method_1_code, exceptionTable := #[], attributes := #[] }
def k2m0 : Method := { name := "<init>", desc := "()V", sig := { parameters := [], returnType := none }, accessFlags := 4, code := some k2c0 }
/-- java/lang/Record -/
def k2 : Class := { plain "java/lang/Record" (some 0) with
  accessFlags := 1057
  interfaces := #[]
  cf := some (fileOf pool2 7 #[] #[{ accessFlags := 4, nameIndex := 5, descriptorIndex := 6, attributes := #[] }] 1057 2 #[] #[])
  fields := #[]
  methods := #[k2m0]
  instanceTypes := #[]
  staticTypes := #[]
  resolved := Array.replicate 22 none
  statics := none }

def pool3 : Array CpInfo := pool [(1, .methodref 2 3), (0, .class_ 4), (0, .nameAndType 5 6), (0, u "java/lang/Record"), (0, u "<init>"), (0, u "()V"), (0, .fieldref 8 9), (0, .class_ 10), (0, .nameAndType 11 12), (0, u "com/example/dropwire/dropwire/x11/XdndTarget"), (0, u "window"), (0, u "I"), (0, .fieldref 8 14), (0, .nameAndType 15 12), (0, u "destination"), (28, u "(II)V"), (12, .class_ 59), (1, u "com/example/dropwire/dropwire/x11/XdndTarget$WindowRequest"), (57, u "isGone"), (0, u "(I)Z")] 43

def k3c0 : Code := { maxStack := 2, maxLocals := 3, code := prog_211_method_1_code, exceptionTable := #[], attributes := #[] }
def k3m0 : Method := { name := "<init>", desc := "(II)V", sig := { parameters := [.int, .int], returnType := none }, accessFlags := 0, code := some k3c0 }
def k3c1 : Code := { maxStack := 2, maxLocals := 2, code := prog_211_method_3_code, exceptionTable := #[], attributes := #[] }
def k3m1 : Method := { name := "isGone", desc := "(I)Z", sig := { parameters := [.int], returnType := some .boolean }, accessFlags := 0, code := some k3c1 }
/-- com/example/dropwire/dropwire/x11/XdndTarget -/
def k3 : Class := { plain "com/example/dropwire/dropwire/x11/XdndTarget" (some 2) with
  accessFlags := 48
  interfaces := #[]
  cf := some (fileOf pool3 8 #[.nestMembers #[57]] #[{ accessFlags := 0, nameIndex := 5, descriptorIndex := 44, attributes := #[] }, { accessFlags := 0, nameIndex := 117, descriptorIndex := 118, attributes := #[] }] 48 2 #[] #[{ accessFlags := 18, nameIndex := 11, descriptorIndex := 12, attributes := #[] }, { accessFlags := 18, nameIndex := 15, descriptorIndex := 12, attributes := #[] }])
  fields := #[{ name := "window", type := .int, accessFlags := 18, slot := 0, constantValue := 0 }, { name := "destination", type := .int, accessFlags := 18, slot := 1, constantValue := 0 }]
  methods := #[k3m0, k3m1]
  instanceTypes := #[.int, .int]
  staticTypes := #[]
  resolved := Array.replicate 162 none
  statics := none }

def pool4 : Array CpInfo := pool [(1, u "java/lang/Cloneable"), (0, .class_ 1), (0, u "java/lang/Object"), (0, .class_ 3)] 3

/-- java/lang/Cloneable -/
def k4 : Class := { plain "java/lang/Cloneable" (some 0) with
  accessFlags := 1537
  interfaces := #[]
  cf := some (fileOf pool4 2 #[] #[] 1537 4 #[] #[])
  fields := #[]
  methods := #[]
  instanceTypes := #[]
  staticTypes := #[]
  resolved := Array.replicate 8 none
  statics := none }

def pool5 : Array CpInfo := pool [(1, u "java/io/Serializable"), (0, .class_ 1), (0, u "java/lang/Object"), (0, .class_ 3)] 3

/-- java/io/Serializable -/
def k5 : Class := { plain "java/io/Serializable" (some 0) with
  accessFlags := 1537
  interfaces := #[]
  cf := some (fileOf pool5 2 #[] #[] 1537 4 #[] #[])
  fields := #[]
  methods := #[]
  instanceTypes := #[]
  staticTypes := #[]
  resolved := Array.replicate 8 none
  statics := none }

/-- the primitive byte -/
def k6 : Class := { plain "byte" none with kind := .primitive 'B', accessFlags := 0x411 }
/-- [B -/
def k7 : Class := { plain "[B" (some 0) with kind := .array 6 .byte, interfaces := #[4, 5], accessFlags := 1041 }

/-- the primitive int -/
def k8 : Class := { plain "int" none with kind := .primitive 'I', accessFlags := 0x411 }
/-- [I -/
def k9 : Class := { plain "[I" (some 0) with kind := .array 8 .int, interfaces := #[4, 5], accessFlags := 1041 }

def heap : Heap := #[]
def classes : Array Class := #[k0, k1, k2, k3, k4, k5, k6, k7, k8, k9]
def interned : List (Array UInt16 × Addr) := []
def slotsUsed : Nat := 0
def theMethod : MethodId := ⟨1, 1⟩
def args0 : Array Value := #[.int 5, .int 6, .int 7]
def aboutOver (below : List Frame) : State where
  vm := { classes := classes, interned := interned.toArray }
  heap := heap
  slotsUsed := slotsUsed
  threads := #[{ frames := .invoking theMethod args0 :: below }]
def below0 : List Frame := [.native { method := ⟨0, 0⟩, args := #[] }]
def about1 : State := aboutOver below0
def p0 : Program := .bare "" "" ""
def e0 : Env := launch0.env 0 0 0
theorem w_frames : about1.frames = Frame.invoking theMethod args0 :: below0 := rfl
set_option maxRecDepth 65536 in
theorem w_args : argsFit about1.vm theMethod args0 = true := by decide +kernel
set_option maxRecDepth 65536 in
theorem w_heap : heapFits about1 = true := by decide +kernel
set_option maxRecDepth 65536 in
theorem w_runnable : about1.curStatus? = some .runnable := by decide +kernel
set_option maxRecDepth 65536 in
theorem w_alone : about1.alone = true := by decide +kernel
set_option maxRecDepth 65536 in
theorem w_named : about1.methodNamed? x = some theMethod := by decide +kernel
set_option maxRecDepth 65536 in
theorem w_hears : about1.hears theMethod below0 = true := by decide +kernel
set_option maxRecDepth 65536 in
theorem w_ripe : about1.ripe theMethod args0 below0 = true := by decide +kernel
theorem w_running : about1.status = .running := rfl
set_option maxRecDepth 65536 in
theorem w_room : about1.hasRoom e0.platform room_1 = true :=
  launch0.hasRoom_least _ room_1 (by decide +kernel) (by decide +kernel) (by decide +kernel) (by decide +kernel) (by decide +kernel) (by decide +kernel)
theorem allAtoms_all (ts : List Jvm.Cond) (a : Array Jvm.Value) (st : Jvm.State) : (allAtoms ts).before a st = ts.all (fun c => c.before a st) := by
  induction ts with
  | nil => rfl
  | cons c t ih =>
    show (Jvm.Cond.and c (allAtoms t)).before a st = _
    rw [Jvm.Cond.before_and, ih, List.all_cons]
def words1 : List Jvm.Cond := Jvm.Cond.code x code maxLocals ret :: tables_1
/-- a 'code' word, met by the world's own term for the bytes: nothing is compared byte by byte -/
theorem code_word {y : MethodName} {bytes : ByteArray} {mx : Nat} {rt : Option FieldType} {a : Array Value} {s : State} {m : MethodId} {meth : Method} {c : Code} (h1 : s.methodNamed? y = some m) (h2 : s.vm.method? m = some meth) (h3 : meth.code = some c) (h4 : c.code = bytes)
    (h5 : (c.maxLocals == mx && c.exceptionTable.isEmpty && decide (c.maxStack ≤ mostOperands) && decide (meth.sig.returnType = rt) && !meth.locks && decide (parseMethodDescriptor y.desc = some meth.sig)) = true) : (Jvm.Cond.code y bytes mx rt).before a s = true := by
  simp only [Bool.and_eq_true, beq_iff_eq, Bool.not_eq_true', decide_eq_true_eq] at h5
  obtain ⟨⟨⟨⟨⟨g1, g2⟩, g3⟩, g4⟩, g5⟩, g6⟩ := h5
  simp [Cond.before, Cond.holds, Cond.value, h1, h2, h3, h4, g1, g2, g3, g4, g5, g6]
def isCode : Jvm.Cond → Bool
  | .code _ _ _ _ => true
  | _ => false
theorem all_split {L : List Jvm.Cond} {P : Jvm.Cond → Bool} (h1 : L.all (fun c => isCode c || P c) = true) (h2 : ∀ c ∈ L.filter isCode, P c = true) : L.all P = true := by
  refine List.all_eq_true.mpr fun c hc => ?_
  have h := List.all_eq_true.mp h1 c hc
  rcases Bool.eq_false_or_eq_true (isCode c) with hi | hi
  · exact h2 c (List.mem_filter.mpr ⟨hc, hi⟩)
  · simpa [hi] using h
set_option maxRecDepth 65536 in
theorem w_c0 : (Jvm.Cond.code x code maxLocals ret).before args0 about1 = true := code_word (m := ⟨1, 1⟩) (meth := k1m1) (c := k1c1) (by decide +kernel) rfl rfl rfl (by decide +kernel)
set_option maxRecDepth 65536 in
theorem w_c1 : (Jvm.Cond.code ({ cls := "com/example/dropwire/dropwire/x11/XdndTarget", name := "<init>", desc := "(II)V" } : Jvm.MethodName) prog_211_method_1_code (3 : Nat) (Option.none : Option Jvm.ClassFile.FieldType)).before args0 about1 = true := code_word (m := ⟨3, 0⟩) (meth := k3m0) (c := k3c0) (by decide +kernel) rfl rfl rfl (by decide +kernel)
set_option maxRecDepth 65536 in
theorem w_c2 : (Jvm.Cond.code ({ cls := "java/lang/Record", name := "<init>", desc := "()V" } : Jvm.MethodName) jdk_30_method_1_code (1 : Nat) (Option.none : Option Jvm.ClassFile.FieldType)).before args0 about1 = true := code_word (m := ⟨2, 0⟩) (meth := k2m0) (c := k2c0) (by decide +kernel) rfl rfl rfl (by decide +kernel)
set_option maxRecDepth 65536 in
theorem w_c3 : (Jvm.Cond.code ({ cls := "java/lang/Object", name := "<init>", desc := "()V" } : Jvm.MethodName) object_method_1_code (1 : Nat) (Option.none : Option Jvm.ClassFile.FieldType)).before args0 about1 = true := code_word (m := ⟨0, 0⟩) (meth := k0m0) (c := k0c0) (by decide +kernel) rfl rfl rfl (by decide +kernel)
set_option maxRecDepth 65536 in
theorem w_c4 : (Jvm.Cond.code ({ cls := "com/example/dropwire/dropwire/x11/XdndTarget", name := "isGone", desc := "(I)Z" } : Jvm.MethodName) prog_211_method_3_code (2 : Nat) (Option.some Jvm.ClassFile.FieldType.boolean)).before args0 about1 = true := code_word (m := ⟨3, 1⟩) (meth := k3m1) (c := k3c1) (by decide +kernel) rfl rfl rfl (by decide +kernel)
def codes1 : List Jvm.Cond := [Jvm.Cond.code x code maxLocals ret, Jvm.Cond.code ({ cls := "com/example/dropwire/dropwire/x11/XdndTarget", name := "<init>", desc := "(II)V" } : Jvm.MethodName) prog_211_method_1_code (3 : Nat) (Option.none : Option Jvm.ClassFile.FieldType), Jvm.Cond.code ({ cls := "java/lang/Record", name := "<init>", desc := "()V" } : Jvm.MethodName) jdk_30_method_1_code (1 : Nat) (Option.none : Option Jvm.ClassFile.FieldType), Jvm.Cond.code ({ cls := "java/lang/Object", name := "<init>", desc := "()V" } : Jvm.MethodName) object_method_1_code (1 : Nat) (Option.none : Option Jvm.ClassFile.FieldType), Jvm.Cond.code ({ cls := "com/example/dropwire/dropwire/x11/XdndTarget", name := "isGone", desc := "(I)Z" } : Jvm.MethodName) prog_211_method_3_code (2 : Nat) (Option.some Jvm.ClassFile.FieldType.boolean)]
set_option maxRecDepth 65536 in
theorem codes_eq : words1.filter isCode = codes1 := rfl
theorem w_codes : ∀ c ∈ words1.filter isCode, c.before args0 about1 = true := by
  rw [codes_eq]
  intro c hc
  simp only [codes1, List.mem_cons, List.not_mem_nil, or_false] at hc
  rcases hc with rfl | rfl | rfl | rfl | rfl
  · exact w_c0
  · exact w_c1
  · exact w_c2
  · exact w_c3
  · exact w_c4
set_option maxRecDepth 65536 in
theorem w_t1 : words1.all (fun c => isCode c || c.before args0 about1) = true := by decide +kernel
theorem w_tables : (allAtoms (Jvm.Cond.code x code maxLocals ret :: tables_1)).before args0 about1 = true := by
  rw [allAtoms_all]
  show words1.all (fun c => c.before args0 about1) = true
  refine all_split ?_ w_codes
  rw [w_t1]
set_option maxRecDepth 65536 in
theorem w_case : (Jvm.Cond.and given_1 narrow_1).before args0 about1 = true := by decide +kernel
theorem w_applies : (headSpec (Jvm.Cond.code x code maxLocals ret :: tables_1) room_1).applies x e0.platform about1 = true :=
  (Spec.applies_iff w_frames).mpr ⟨w_running, w_runnable, w_alone, w_named, w_hears, w_ripe, w_room, w_tables⟩
theorem atStart : AtStart classFile x code maxLocals ret World_1 tables_1 room_1 Calls_1 rest_1 Pre_1 launch0 p0 e0 about1 theMethod args0 below0 :=
  ⟨lists_1, trivial, launch0.admits_env _ _ _, launch0.least_env, fairChoices_fair.cas, fairChoices_fair.clock, w_frames, w_args, w_heap, w_applies, trivial, trivial, w_case⟩
end start1
theorem witness_1 : WitnessClaimed_1 := ⟨start1.p0, start1.e0, start1.about1, start1.theMethod, start1.args0, start1.below0, start1.atStart⟩
end Jvm.Pilot.@@N@@
